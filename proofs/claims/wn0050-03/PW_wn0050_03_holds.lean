import PyProof.Rows.All
import Wide.All
import OpenK.AllK
import Wide.FinOn
import KE.KFmtOwn
import KE.KxDecode
import KE.KItemsList
import PySem.Challenge.RW_wn0050_03
set_option Elab.async false
set_option linter.all false
set_option tactic.hygienic false
set_option maxRecDepth 100000
set_option maxHeartbeats 8000000
open PySem PySem.W PyProof.Rows
namespace Mine
@[elab_as_elim] theorem rwp{α:Sort _}{P:α→Prop}{a b:α}(h:a=b)(k:P b):P a:=h▸k
@[elab_as_elim] theorem rwq{α:Sort _}{P:α→Prop}{a b:α}(h:a=b)(k:P a):P b:=h▸k
end Mine
local macro_rules
 | `(tactic| trivial) => `(tactic| first | lia | omega)
 | `(tactic| rw [$rs,*]) => do
  let mut t ← `(tactic| try with_reducible rfl)
  for r in rs.getElems.reverse do
   let mut s ← `(tactic| rewrite [$r])
   unless (r.raw.find? fun s => s.isOfKind ``Lean.Parser.Term.byTactic || s.isOfKind ``Lean.Parser.Term.anonymousCtor).isSome do
    let e : Lean.TSyntax `term := ⟨r.raw[1]⟩
    let f := Lean.mkIdent (if r.raw[0].isNone then `Mine.rwp else `Mine.rwq)
    s ← `(tactic| first | with_reducible refine $f $e ?_ | with_reducible refine $f ($e _) ?_ | $s:tactic)
   t ← `(tactic| ($s:tactic; $t:tactic))
  return t
set_option bootstrap.genMatcherCode false
namespace Mine
section
inductive Gx(p:Program):Prop
 | mk:Gx p
noncomputable def tag:=(by
  refine' (?f:∀p:Program,PySem.Challenge.pw_wn0050_03=p→Gx p) _ ?h
  case f=>exact fun p ω=>Gx.mk
  case h=>conv=>lhs;unfold PySem.Challenge.pw_wn0050_03;reduce
 : Gx _)
abbrev mkRow{p:Program}(_:Gx p):OpenLaw:=⟨p,Str.ofString "law",[Str.ofString "parse229"],7,some 63,none,false⟩
abbrev Gx.prog{p:Program}(_:Gx p):Program:=p
noncomputable def pr:Program:=tag.prog
theorem of_row(h:(mkRow tag).Holds):PySem.Challenge.rw_wn0050_03.Holds:=(show mkRow tag=PySem.Challenge.rw_wn0050_03 by rfl) ▸ h
end
end Mine
section
open_top hd03 for Mine.mkRow Mine.tag
end
namespace Mine
section
inductive AV where
 | unbound | none | bool (b:Bool) | int (i:Int) | str (s:List Nat) | bytes (b:List UInt8)
 | list (l:List AV) | tup (l:List AV) | dict (l:List (List Nat×AV)) | dicti (l:List (Int×AV)) | cell (n:Nat) | inst (c:Addr)
 | script (l:List Int) | range (a b c:Int) | vals (l:List (List Nat×AV)) | mtch (g:List UInt8) | pat
inductive aO where
 | dead (v:AV) | list (l:List AV) | dict (l:List (List Nat×AV)) | dicti (l:List (Int×AV))
noncomputable def aO.live:aO→Bool
 | .dead _=>false
 | _=>true
noncomputable def nR{β:Type}(d:β)(a:AV)(none:β:=d)(dk:β:=d)(bool:Bool→β:=fun ω=>d)(int:Int→β:=fun ω=>d)(str:List Nat→β:=fun ω=>d)(bytes:List UInt8→β:=fun ω=>d)
  (list tup:List AV→β:=fun ω=>d) (dict:List (List Nat×AV)→β:=fun ω=>d) (dicti:List (Int×AV)→β:=fun ω=>d) (cell:Nat→β:=fun ω=>d) (inst:Addr→β:=fun ω=>d)
  (script:List Int→β:=fun ω=>d) (range:Int→Int→Int→β:=fun ω ω ω=>d) (vals:List (List Nat×AV)→β:=fun ω=>d) (mtch:List UInt8→β:=fun ω=>d) (pat:β:=d):β :=
 AV.casesOn (motive_1:=fun ω=>β) a dk none bool int str bytes list tup dict dicti cell inst script range vals mtch pat
abbrev St:=List aO
noncomputable def aj(l:List Nat):Str:=⟨l.toArray⟩
structure Cx where
 prog:Program
 w:World
 H₀:Heap
 dep:Nat
 uni:Nat
 exc:Addr
 pat:Addr
 lo:∃b o,H₀.get? b=some o∧sysModules<b
 patOk:∃ob,H₀.get? pat=some ob∧ob.cls=.type "re.Pattern" ∧ ob.dict=none
noncomputable def cz(h:Heap)(a:Addr)(items:Array Value):Prop:=∃n,h.get? a=some { cls:=.type "tuple",data:=.seq items n }
noncomputable def GA(pat:Addr)(mo so:Obj)(sp:Addr)(g:List UInt8):Prop :=
 ∃text t p1 p2 p3 i0 i1 b e,mo = { cls:=.type "re.Match",data:=.fields #[.bytes text t,.ref pat,p1,p2,p3,.ref sp] } ∧ so = { cls:=.type "tuple",data:=.seq #[i0,i1,rawInt b,rawInt e] } ∧
  0≤b∧0≤e∧(text.extract b.toNat e.toNat).toList=g∧text.size≤sizeLine
section
variable(X:Cx)(ρ:List Addr)(Z:Addr→Prop)(h:Heap)
mutual
noncomputable def aq:AV→Value→Prop
 | .unbound,_=>False
 | .none,v=>v=.none
 | .bool b,v=>v=.bool b
 | .int i,v=>∃t,v=.int i t
 | .str s,v=>∃t,v=.str (aj s) t
 | .bytes b,v=>∃t,v=.bytes b.toArray t
 | .list l,v=>∃a vs,v=.ref a∧Z a∧h.PlainList a (List.toArray vs)∧ag l vs
 | .tup l,v=>∃a vs,v=.ref a∧Z a∧cz h a (List.toArray vs)∧ag l vs
 | .dict l,v=>∃a es,v=.ref a∧Z a∧(a==sysModules)=false∧h.DictOf (strKind X.prog X.w) a es∧bn l es
 | .dicti l,v=>∃a es,v=.ref a∧Z a∧(a==sysModules)=false∧h.DictOf (intKind X.prog X.w) a es∧bP l es
 | .cell n,v=>∃a,ρ[n]? = some a∧v=.ref a
 | .inst c,v=>∃a dx od,v=.ref a∧Z a∧Z dx∧h.get? a=some (instObj c dx)∧h.get? dx=some od∧shadowIn (some od) (Str.ofString "is_suburi")=some false
 | .script l,v=>∃a vs,v=.ref a∧X.H₀.IsList a (List.toArray vs)∧IntsAre vs l
 | .range a b c,v=>∃r t u w,v=.ref r∧Z r∧IsRange h r a b c t u w
 | .vals l,v=>∃a d es,v=.ref a∧Z a∧Z d∧h.IsValuesView a d∧(d==sysModules)=false∧h.DictOf (strKind X.prog X.w) d es∧bn l es
 | .mtch g,v=>∃a sp mo so,v=.ref a∧Z a∧Z sp∧h.get? a=some mo∧h.get? sp=some so∧GA X.pat mo so sp g
 | .pat,v=>v=.ref X.pat
noncomputable def ag:List AV→List Value→Prop
 | [],vs=>vs = []
 | x::xs,vs=>∃v r,vs=v::r∧aq x v∧ag xs r
noncomputable def bn:List (List Nat×AV)→List (Str×Value)→Prop
 | [],es=>es = []
 | (k,x)::xs,es=>∃v r,es=(aj k,v)::r∧aq x v∧bn xs r
noncomputable def bP:List (Int×AV)→List (Int×Value)→Prop
 | [],es=>es = []
 | (k,x)::xs,es=>∃v r,es=(k,v)::r∧aq x v∧bP xs r
end
end
noncomputable def fR(P:Addr→Prop)(h h':Heap):Prop:=∀a o,P a→h.get? a=some o→h'.get? a=some o
theorem su{P:Addr→Prop}{h h':Heap}{a:Addr}{vs:Array Value}(k:fR P h h')(p:P a)(x:h.PlainList a vs):h'.PlainList a vs :=
 x.imp fun ω=>k _ _ p
theorem qr{P:Addr→Prop}{h h':Heap}{a:Addr}{vs:Array Value}(k:fR P h h')(p:P a)(x:cz h a vs):cz h' a vs :=
 x.imp fun ω=>k _ _ p
theorem fH{prog:Program}{w:World}{K:Type}[DecidableEq K]{knd:KeyKind prog w K}{P:Addr→Prop}{h h':Heap}{a:Addr}{es:List (K×Value)}(k:fR P h h')(p:P a)(x:h.DictOf knd a es):h'.DictOf knd a es :=
 x.imp fun ω x=>x.imp fun ω x=>x.imp fun ω x=>⟨k _ _ p x.1,x.2⟩
section
variable{X:Cx}{ρ ρ':List Addr}{Z Z':Addr→Prop}{h h':Heap}
theorem mL{α:Type}{l l':List α}(p:l <+: l'){n:Nat}{x:α}(e:l[n]? = some x):l'[n]? = some x:=by
 obtain⟨t,rfl⟩:=p
 rw[List.getElem?_append_left (by exact(List.getElem?_eq_some_iff.mp e).1)];exact e
mutual
theorem aq.mono(k:fR Z h h')(hf:∀a,Z a→Z' a)(hp:ρ <+: ρ'):∀{x:AV} {v:Value},aq X ρ Z h x v→aq X ρ' Z' h' x v
 | .unbound,_,r=>by exact(r:False).elim
 | .none,_,r=>by exact r
 | .bool _,_,r=>by exact r
 | .int _,_,r=>by exact r
 | .str _,_,r=>by exact r
 | .bytes _,_,r=>by exact r
 | .list _,_,r=>by
  obtain⟨a,vs,e,f,l,q⟩:=r
  show ∃_,_;exact⟨a,vs,e,hf a f,su k f l,ag.mono k hf hp q⟩
 | .tup _,_,r=>by
  obtain⟨a,vs,e,f,l,q⟩:=r
  show ∃_,_;exact⟨a,vs,e,hf a f,qr k f l,ag.mono k hf hp q⟩
 | .dict _,_,r=>by
  obtain⟨a,vs,e,f,g,l,q⟩:=r
  show ∃_,_;exact⟨a,vs,e,hf a f,g,fH k f l,bn.mono k hf hp q⟩
 | .dicti _,_,r=>by
  obtain⟨a,vs,e,f,g,l,q⟩:=r
  show ∃_,_;exact⟨a,vs,e,hf a f,g,fH k f l,bP.mono k hf hp q⟩
 | .cell _,_,r=>by
  obtain⟨a,e,q⟩:=r
  show ∃_,_;exact⟨a,mL hp e,q⟩
 | .inst _,_,r=>by
  obtain⟨a,dx,od,e,f,f',g,q,q'⟩:=r
  show ∃_,_;exact⟨a,dx,od,e,hf a f,hf dx f',k _ _ f g,k _ _ f' q,q'⟩
 | .script _,_,r=>by exact r
 | .range _ _ _,_,r=>by
  obtain⟨a,t,u,w,e,f,g⟩:=r
  show ∃_,_;exact⟨a,t,u,w,e,hf a f,k _ _ f g⟩
 | .vals _,_,r=>by
  obtain⟨a,d,es,e,f,f',⟨o,ho,q⟩,g,l,q'⟩:=r
  show ∃_,_;exact⟨a,d,es,e,hf a f,hf d f',⟨o,k _ _ f ho,q⟩,g,fH k f' l,bn.mono k hf hp q'⟩
 | .mtch _,_,r=>by
  obtain⟨a,sp,mo,so,e,f,f',g,g',q⟩:=r
  show ∃_,_;exact⟨a,sp,mo,so,e,hf a f,hf sp f',k _ _ f g,k _ _ f' g',q⟩
 | .pat,_,r=>by exact r
theorem ag.mono(k:fR Z h h')(hf:∀a,Z a→Z' a)(hp:ρ <+: ρ'):∀{x:List AV} {v:List Value},ag X ρ Z h x v→ag X ρ' Z' h' x v
 | [],_,r=>by exact r
 | _::_,_,r=>by
  obtain⟨v,l,e,p,q⟩:=r
  show ∃_,_;exact⟨v,l,e,aq.mono k hf hp p,ag.mono k hf hp q⟩
theorem bn.mono(k:fR Z h h')(hf:∀a,Z a→Z' a)(hp:ρ <+: ρ'):∀{x:List (List Nat×AV)} {v:List (Str×Value)},bn X ρ Z h x v→bn X ρ' Z' h' x v
 | [],_,r=>by exact r
 | (_,_)::_,_,r=>by
  obtain⟨v,l,e,p,q⟩:=r
  show ∃_,_;exact⟨v,l,e,aq.mono k hf hp p,bn.mono k hf hp q⟩
theorem bP.mono(k:fR Z h h')(hf:∀a,Z a→Z' a)(hp:ρ <+: ρ'):∀{x:List (Int×AV)} {v:List (Int×Value)},bP X ρ Z h x v→bP X ρ' Z' h' x v
 | [],_,r=>by exact r
 | (_,_)::_,_,r=>by
  obtain⟨v,l,e,p,q⟩:=r
  show ∃_,_;exact⟨v,l,e,aq.mono k hf hp p,bP.mono k hf hp q⟩
end
theorem ag.nil_iff{vs:List Value} : ag X ρ Z h [] vs↔vs = []:=by exact Iff.rfl
theorem ag.cons_iff{x:AV}{xs:List AV}{vs:List Value} : ag X ρ Z h (x::xs) vs↔∃v r,vs=v::r∧aq X ρ Z h x v∧ag X ρ Z h xs r:=by
 exact Iff.rfl
theorem ag.cons{x:AV}{xs:List AV}{v:Value}{vs:List Value}(a:aq X ρ Z h x v)(b:ag X ρ Z h xs vs):ag X ρ Z h (x::xs) (v::vs) :=
 ag.cons_iff.mpr ⟨v,vs,rfl,a,b⟩
theorem ag.length:∀{xs:List AV} {vs:List Value},ag X ρ Z h xs vs→xs.length=vs.length:=by
 intro l₀
 induction l₀ with
 | nil =>
  intro vs r
  rw[ag.nil_iff.mp r];rfl
 | cons x xs ih₀ =>
  intro vs r
  obtain⟨v,t,rfl,_,q⟩:=ag.cons_iff.mp r
  simp[ih₀ q]
theorem ag.get:∀{xs:List AV} {vs:List Value},ag X ρ Z h xs vs→∀{i:Nat} {x:AV},xs[i]? = some x→∃v,vs[i]? = some v∧aq X ρ Z h x v:=by
 intro l₀
 induction l₀ with
 | nil =>
  intro _ _ _ _ e
  simp at e
 | cons x xs ih₀ =>
  intro vs r i y e
  obtain⟨v,t,rfl,p,q⟩:=ag.cons_iff.mp r
  cases i with
  | zero=>simp at e;subst e;exact⟨v,rfl,p⟩
  | succ i=>simp at e;simpa using ih₀ q e
theorem ag.append:∀{xs ys:List AV} {vs us:List Value},ag X ρ Z h xs vs→ag X ρ Z h ys us→ag X ρ Z h (xs++ys) (vs++us):=by
 intro l₀
 induction l₀ with
 | nil =>
  intro _ vs _ r q
  rw[ag.nil_iff.mp r];exact q
 | cons x xs ih₀ =>
  intro ys vs us r q
  obtain⟨v,t,rfl,p,r'⟩:=ag.cons_iff.mp r
  exact ag.cons p (ih₀ r' q)
theorem ag.take:∀{xs:List AV} {vs:List Value} (n:Nat),ag X ρ Z h xs vs→ag X ρ Z h (xs.take n) (vs.take n)
 | [],vs,n,r=>by rw[ag.nil_iff.mp r];simp;exact ag.nil_iff.mpr rfl
 | x::xs,vs,0,r=>by simp;exact ag.nil_iff.mpr rfl
 | x::xs,vs,n+1,r=>by
  obtain⟨v,t,rfl,p,q⟩:=ag.cons_iff.mp r
  simp;exact ag.cons p (ag.take n q)
theorem ag.drop:∀{xs:List AV} {vs:List Value} (n:Nat),ag X ρ Z h xs vs→ag X ρ Z h (xs.drop n) (vs.drop n)
 | xs,vs,0,r=>by simpa using r
 | [],vs,n+1,r=>by rw[ag.nil_iff.mp r];simp;exact ag.nil_iff.mpr rfl
 | x::xs,vs,n+1,r=>by
  obtain⟨v,t,rfl,p,q⟩:=ag.cons_iff.mp r
  simp;exact ag.drop n q
theorem ag.set:∀{xs:List AV} {vs:List Value} (i:Nat) {x:AV} {v:Value},ag X ρ Z h xs vs→aq X ρ Z h x v→ag X ρ Z h (xs.set i x) (vs.set i v)
 | [],vs,i,x,v,r,q=>by rw[ag.nil_iff.mp r];simp;exact ag.nil_iff.mpr rfl
 | y::xs,vs,0,x,v,r,q=>by
  obtain⟨v',t,rfl,p,q'⟩:=ag.cons_iff.mp r
  simp;exact ag.cons q q'
 | y::xs,vs,i+1,x,v,r,q=>by
  obtain⟨v',t,rfl,p,q'⟩:=ag.cons_iff.mp r
  simp;exact ag.cons p (ag.set i q' q)
end
noncomputable def dc(X:Cx)(ρ:List Addr)(Z:Addr→Prop)(h:Heap):aO→Addr→Prop
 | .dead v,a=>aq X ρ Z h v (.ref a)
 | .list l,a => ¬ Z a∧∃vs,h.PlainList a (List.toArray vs)∧ag X ρ Z h l vs
 | .dict l,a => ¬ Z a∧∃es,h.DictOf (strKind X.prog X.w) a es∧bn X ρ Z h l es
 | .dicti l,a => ¬ Z a∧∃es,h.DictOf (intKind X.prog X.w) a es∧bP X ρ Z h l es
structure bL(X:Cx)(Z:Addr→Prop)(ρ:List Addr)(σ:St)(s:Shared):Prop where
 base:∀b o,X.H₀.get? b=some o→s.heap.get? b=some o
 fr:∀a,Z a→∃o,s.heap.get? a=some o
 len:ρ.length=σ.length
 nd:ρ.Nodup
 old:∀a∈ρ,(∃o,s.heap.get? a=some o)∧X.H₀.get? a=none∧(a==sysModules)=false
 cells:∀(n:Nat) (a:Addr) (c:aO),ρ[n]? = some a→σ[n]? = some c→dc X ρ Z s.heap c a
noncomputable def ir(o:Obj)(x:Option Obj):Prop:=x=some o∨(o.cls=.type "frame" ∧ ∃sl,x=some { o with slots:=sl })
noncomputable def dY(h:Heap)(a:Addr):Prop:=∃o es ep,h.get? a=some o∧o.cls=.type "frame" ∧ o.data=.dict es ep
theorem dY.kept{h h':Heap}{a:Addr}(x:dY h a)(k:∀o,h.get? a=some o→h'.get? a=some o):dY h' a:=x.imp fun ω x=>x.imp fun ω x=>x.imp fun ω x=>⟨k _ x.1,x.2⟩
structure a9(T:Addr→Prop)(Z:Addr→Prop)(ρ:List Addr)(s:Shared)(Z':Addr→Prop)(ρ':List Addr)(s':Shared):Prop where
 keep:∀a o,s.heap.get? a=some o → ¬ T a→a∉ρ→ir o (s'.heap.get? a)
 fkeep:fR Z s.heap s'.heap
 fmono:∀a,Z a→Z' a
 fnew:∀a,Z' a→Z a∨a∈ρ∨s.heap.get? a=none
 rho:ρ <+: ρ'
 rnew:∀a∈ρ',a∈ρ∨s.heap.get? a=none
 alive:∀a o,s.heap.get? a=some o→∃o',s'.heap.get? a=some o'
 frm:∀a,dY s.heap a→dY s'.heap a
 gens:s'.gens=s.gens
 os:s'.os=s.os
 drawn:s'.drawn=s.drawn
noncomputable def T0:Addr→Prop:=fun ω=>False
theorem ir.trans{o o':Obj}{x:Option Obj}(a:ir o (some o'))(b:ir o' x):ir o x:=by
 rcases a with e | ⟨hc,sl,e⟩
 ·cases e;exact b
 ·cases e
  rcases b with e | ⟨_,sl',e⟩
  ·exact .inr ⟨hc,sl,e⟩
  ·exact .inr ⟨hc,sl',e⟩
theorem ir.some{o:Obj}{x:Option Obj}(a:ir o x):∃o',x=some o':=by
 rcases a with e | ⟨_,sl,e⟩
 ·exact⟨_,e⟩
 ·exact⟨_,e⟩
theorem a9.refl(T Z ρ s):a9 T Z ρ s Z ρ s where
 keep:=fun ω ω e ω ω=>.inl e
 fkeep:=fun ω ω ω e=>e
 fmono:=fun ω x=>x
 fnew:=fun ω x=>.inl x
 rho:=List.prefix_rfl
 rnew:=fun ω x=>.inl x
 alive:=fun ω o e=>⟨o,e⟩
 frm:=fun ω f=>f
 gens:=rfl
 os:=rfl
 drawn:=rfl
theorem cp{h h':Heap}(al:∀a o,h.get? a=some o→∃o',h'.get? a=some o'){a:Addr}(e:h'.get? a=none):h.get? a=none:=by
 cases q:h.get? a with
 | none=>rfl
 | some o=>obtain⟨o',e'⟩:=al a o q;rw[e]at e';cases e'
theorem a9.trans{T Z ρ s Z' ρ' s' Z'' ρ'' s''}(x:a9 T Z ρ s Z' ρ' s')(y:a9 T Z' ρ' s' Z'' ρ'' s''):a9 T Z ρ s Z'' ρ'' s'' where
 keep:=fun a o e ht hr=>by
  have k:=x.keep a o e ht hr
  obtain⟨o',e'⟩:=k.some
  rw[e']at k
  refine k.trans (y.keep a o' e' ht fun m => ?_)
  rcases x.rnew a m with m | m
  ·exact hr m
  ·rw[e]at m;cases m
 fkeep:=fun a o f e=>y.fkeep a o (x.fmono a f) (x.fkeep a o f e)
 fmono:=fun a f=>y.fmono a (x.fmono a f)
 fnew:=fun a f=>by
  rcases y.fnew a f with f | m | m
  ·exact x.fnew a f
  ·rcases x.rnew a m with m | m
   ·exact .inr (.inl m)
   ·exact .inr (.inr m)
  ·exact .inr (.inr (cp x.alive m))
 rho:=x.rho.trans y.rho
 rnew:=fun a m=>by
  rcases y.rnew a m with m | m
  ·exact x.rnew a m
  ·exact .inr (cp x.alive m)
 alive:=fun a o e=>by obtain⟨o',e'⟩:=x.alive a o e;exact y.alive a o' e'
 frm:=fun a f=>y.frm a (x.frm a f)
 gens:=y.gens.trans x.gens
 os:=y.os.trans x.os
 drawn:=y.drawn.trans x.drawn
theorem a9.weaken{T T' Z ρ s Z' ρ' s'}(x:a9 T Z ρ s Z' ρ' s')(h:∀a,T a→T' a):a9 T' Z ρ s Z' ρ' s' :=
 { x with keep:=fun a o e ht hr=>x.keep a o e (fun t=>ht (h a t)) hr }
theorem a9.drop{T T' Z ρ s Z' ρ' s'}(x:a9 T' Z ρ s Z' ρ' s')(h:∀a,T' a→T a∨s.heap.get? a=none):a9 T Z ρ s Z' ρ' s' :=
 { x with keep:=fun a o e ht hr=>x.keep a o e (fun t=>by
   rcases h a t with t | t
   ·exact ht t
   ·rw[e]at t;cases t) hr }
theorem aq.ext{X:Cx}{T Z ρ s Z' ρ' s'}{x:AV}{v:Value}(y:a9 T Z ρ s Z' ρ' s')(r:aq X ρ Z s.heap x v):aq X ρ' Z' s'.heap x v:=r.mono y.fkeep y.fmono y.rho
theorem ag.ext{X:Cx}{T Z ρ s Z' ρ' s'}{x:List AV}{v:List Value}(y:a9 T Z ρ s Z' ρ' s')(r:ag X ρ Z s.heap x v):ag X ρ' Z' s'.heap x v:=r.mono y.fkeep y.fmono y.rho
theorem bn.ext{X:Cx}{T Z ρ s Z' ρ' s'}{x:List (List Nat×AV)}{v:List (Str×Value)}(y:a9 T Z ρ s Z' ρ' s')(r:bn X ρ Z s.heap x v):bn X ρ' Z' s'.heap x v:=r.mono y.fkeep y.fmono y.rho
theorem bP.ext{X:Cx}{T Z ρ s Z' ρ' s'}{x:List (Int×AV)}{v:List (Int×Value)}(y:a9 T Z ρ s Z' ρ' s')(r:bP X ρ Z s.heap x v):bP X ρ' Z' s'.heap x v:=r.mono y.fkeep y.fmono y.rho
theorem f5{h h':Heap}{a:Addr}{m:Str→Option Value}(k:∀o,h.get? a=some o→ir o (h'.get? a))(x:h.Ns a m):h'.Ns a m:=by
 obtain⟨o,es,ep,ho,hd,r⟩:=x
 rcases k o ho with e | ⟨_,sl,e⟩
 ·exact⟨o,es,ep,e,hd,r⟩
 ·exact⟨_,es,ep,e,hd,r⟩
theorem cY{h h':Heap}{a:Addr}{m:Option Value}(k:∀o,h.get? a=some o→ir o (h'.get? a))(x:h.IsCell a m):h'.IsCell a m:=by
 obtain⟨o,ho,hd⟩:=x
 rcases k o ho with e | ⟨_,sl,e⟩
 ·exact⟨o,e,hd⟩
 ·exact⟨_,e,hd⟩
theorem cM{h:Heap}{a:Addr}{m:Str→Option Value}(x:h.Ns a m):h.get? a≠none:=by
 obtain⟨o,es,ep,ho,_⟩:=x
 rw[ho];exact fun e=>nomatch e
theorem cj{h:Heap}{a:Addr}{m:Option Value}(x:h.IsCell a m):h.get? a≠none:=by
 obtain⟨o,ho,_⟩:=x
 rw[ho];exact fun e=>nomatch e
structure qS(X:Cx)(Z:Addr→Prop)(ρ:List Addr)(h:Heap)(fs:List Env):Prop where
 each:∀env∈fs,env.scope.kind≠.module∧∃L,env.frame=some L ∧ ¬ Z L∧L∉ρ∧X.H₀.get? L=none∧dY h L∧∃m,h.Ns L m
structure aU(X:Cx)(Z:Addr→Prop)(ρ:List Addr)(h:Heap)(env:Env)(vis:List (Str×Nat))(η:List AV):Prop where
 kind:env.scope.kind=.function
 glob:env.globals=mainGlobals
 bltn:env.builtins=builtinsNs
 ns:∃m,h.Ns env.locals m∧∀x i av,vis.lookup x=some i→env.kindOf x=some .local→η[i]? = some av→(av=.unbound∨∃v,m x=some v∧aq X ρ Z h av v)
 cel:∀x i,vis.lookup x=some i→(env.kindOf x=some .cell∨env.kindOf x=some .free)→∃c w,env.cells.lookup x=some c∧h.IsCell c w∧∀av,η[i]? = some av→(av=.unbound∨∃v,w=some v∧aq X ρ Z h av v)
 own : ¬ Z env.locals∧env.locals∉ρ∧X.H₀.get? env.locals=none
 ownc:∀n c,(n,c)∈env.cells → ¬ Z c∧c∉ρ∧X.H₀.get? c=none∧c≠env.locals∧∃w,h.IsCell c w
 apart:env.cells.Pairwise fun x y=>x.2≠y.2
noncomputable def tE(env:Env):Addr→Prop:=fun a=>a=env.locals∨∃n,(n,a)∈env.cells
noncomputable def z6(vis:List (Str×Nat))(n:Str):Bool:=(vis.filter fun p=>p.1==n).length==1
noncomputable def gN(vis:List (Str×Nat))(env:Env):Addr→Prop:=fun a=>a=env.locals∨∃n,(n,a)∈env.cells∧z6 vis n=true
theorem gN.own{vis env a}(t:gN vis env a):tE env a:=t.imp id fun h=>h.imp fun ω h=>h.1
theorem aU.ext{X:Cx}{Z ρ s Z' ρ' s' env vis η}(x:aU X Z ρ s.heap env vis η)(y:a9 T0 Z ρ s Z' ρ' s'):aU X Z' ρ' s'.heap env vis η:=by
 have hL:s.heap.get? env.locals≠none:=by obtain⟨m,hn,_⟩:=x.ns;exact cM hn
 refine⟨x.kind,x.glob,x.bltn,?_,?_,⟨?_,?_,x.own.2.2⟩,?_,x.apart⟩
 ·obtain⟨m,hn,hv⟩:=x.ns
  refine⟨m,f5 (fun o e=>y.keep _ o e (fun t=>t) x.own.2.1) hn,fun n i av h1 h2 h3 => ?_⟩
  exact(hv n i av h1 h2 h3).imp id fun h=>h.imp fun v z=>⟨z.1,z.2.ext y⟩
 ·intro n i h1 h2
  obtain⟨c,w,hc,hw,hv⟩:=x.cel n i h1 h2
  have hm:=mem_of_lookup hc
  exact⟨c,w,hc,cY (fun o e=>y.keep _ o e (fun t=>t) (x.ownc n c hm).2.1) hw,fun av e=>(hv av e).imp id fun h=>h.imp fun v z=>⟨z.1,z.2.ext y⟩⟩
 ·intro f
  rcases y.fnew _ f with f | f | f
  ·exact x.own.1 f
  ·exact x.own.2.1 f
  ·exact hL f
 ·intro f
  rcases y.rnew _ f with f | f
  ·exact x.own.2.1 f
  ·exact hL f
 ·intro n c hm
  obtain⟨a1,a2,a3,a4,a5⟩:=x.ownc n c hm
  obtain⟨w,hw⟩:=a5
  refine⟨fun f => ?_,fun f => ?_,a3,a4,w,cY (fun o e=>y.keep _ o e (fun t=>t) a2) hw⟩
  ·rcases y.fnew _ f with f | f | f
   ·exact a1 f
   ·exact a2 f
   ·exact cj hw f
  ·rcases y.rnew _ f with f | f
   ·exact a2 f
   ·exact cj hw f
theorem qS.ext{X:Cx}{T Z ρ s Z' ρ' s' fs}(x:qS X Z ρ s.heap fs)(y:a9 T Z ρ s Z' ρ' s')(hT:∀env∈fs,∀L,env.frame=some L→T L→∃m,s'.heap.Ns L m):qS X Z' ρ' s'.heap fs:=by
 refine⟨fun env he => ?_⟩
 obtain⟨hk,L,hL,h1,h2,h3,hfc,m,hn⟩:=x.each env he
 have hlt:=cM hn
 refine⟨hk,L,hL,fun f => ?_,fun f => ?_,h3,y.frm L hfc,?_⟩
 ·rcases y.fnew _ f with f | f | f
  ·exact h1 f
  ·exact h2 f
  ·exact hlt f
 ·rcases y.rnew _ f with f | f
  ·exact h2 f
  ·exact hlt f
 ·by_cases ht:T L
  ·exact hT env he L hL ht
  ·exact⟨m,f5 (fun o e=>y.keep _ o e ht h2) hn⟩
theorem bL.tok{X:Cx}{Z ρ σ s}(i:bL X Z ρ σ s)(tk:Nat):bL X Z ρ σ { s with toks:=tk } := ⟨i.base,i.fr,i.len,i.nd,i.old,i.cells⟩
theorem dc.mono{X:Cx}{ρ ρ':List Addr}{Z Z':Addr→Prop}{h h':Heap}{c:aO}{a:Addr}(r:dc X ρ Z h c a)(k:fR Z h h')(hf:∀a,Z a→Z' a)(hp:ρ <+: ρ')
  (ka:∀o,h.get? a=some o→h'.get? a=some o) (hn : ¬ Z a → ¬ Z' a):dc X ρ' Z' h' c a:=by
 cases c with
 | dead v=>exact aq.mono k hf hp r
 | list l=>obtain⟨h1,vs,h2,h3⟩:=r;exact⟨hn h1,vs,h2.at ka,h3.mono k hf hp⟩
 | dict l =>
  obtain⟨h1,vs,⟨o,es,ep,ho,h2⟩,h3⟩:=r
  exact⟨hn h1,vs,⟨o,es,ep,ka _ ho,h2⟩,h3.mono k hf hp⟩
 | dicti l =>
  obtain⟨h1,vs,⟨o,es,ep,ho,h2⟩,h3⟩:=r
  exact⟨hn h1,vs,⟨o,es,ep,ka _ ho,h2⟩,h3.mono k hf hp⟩
theorem bL.grow{X:Cx}{Z ρ σ s}(i:bL X Z ρ σ s){h':Heap}{tk:Nat}{P:Addr→Prop}(hk:∀b o,s.heap.get? b=some o→h'.get? b=some o)
  (hP:∀a,P a→s.heap.get? a=none∧h'.get? a≠none):bL X (fun a=>Z a∨P a) ρ σ { s with heap:=h',toks:=tk } where
 base:=fun b o e=>hk _ _ (i.base b o e)
 fr:=fun a f=>by
  rcases f with f | f
  ·obtain⟨o,e⟩:=i.fr a f;exact⟨o,hk _ _ e⟩
  ·have:=(hP a f).2
   cases q:h'.get? a with
   | none=>exact absurd q this
   | some o=>exact⟨o,rfl⟩
 len:=i.len
 nd:=i.nd
 old:=fun a m=>by
  obtain⟨⟨o,e⟩,r⟩:=i.old a m
  exact⟨⟨o,hk _ _ e⟩,r⟩
 cells:=fun n a c h1 h2=>by
  have ha:=(i.old a (List.mem_of_getElem? h1)).1
  obtain⟨o,e⟩:=ha
  exact(i.cells n a c h1 h2).mono (fun b o ω e=>hk b o e) (fun ω f=>.inl f) List.prefix_rfl (fun o e=>hk a o e) fun nf f=>by
   rcases f with f | f
   ·exact nf f
   ·have:=(hP a f).1
    rw[e]at this;cases this
theorem a9.grow{Z ρ s}{h':Heap}{tk:Nat}{P:Addr→Prop}(hk:∀b o,s.heap.get? b=some o→h'.get? b=some o)
  (hP:∀a,P a→s.heap.get? a=none):a9 T0 Z ρ s (fun a=>Z a∨P a) ρ { s with heap:=h',toks:=tk } where
 keep:=fun a o e ω ω=>.inl (hk a o e)
 fkeep:=fun a o ω e=>hk a o e
 fmono:=fun a f=>.inl f
 fnew:=fun a f=>f.imp id fun f=>.inr (hP a f)
 rho:=List.prefix_rfl
 rnew:=fun ω m=>.inl m
 alive:=fun a o e=>⟨o,hk a o e⟩
 frm:=fun a f=>f.kept (hk a)
 gens:=rfl
 os:=rfl
 drawn:=rfl
theorem a9.tok{T Z ρ s}(tk:Nat):a9 T Z ρ s Z ρ { s with toks:=tk } where
 keep:=fun a o e ω ω=>.inl e
 fkeep:=fun a o ω e=>e
 fmono:=fun a f=>f
 fnew:=fun a f=>.inl f
 rho:=List.prefix_rfl
 rnew:=fun ω m=>.inl m
 alive:=fun a o e=>⟨o,e⟩
 frm:=fun ω f=>f
 gens:=rfl
 os:=rfl
 drawn:=rfl
noncomputable def cH(X:Cx)(Z:Addr→Prop)(ρ:List Addr)(s:Shared)(av:AV)(σ':St)(Q:Value→Shared→Prop):Prop :=
 ∀Z' ρ' v s',bL X Z' ρ' σ' s'→a9 T0 Z ρ s Z' ρ' s'→aq X ρ' Z' s'.heap av v→Q v s'
theorem cH.tok{X:Cx}{Z ρ s av σ Q}(p:cH X Z ρ s av σ Q)(i:bL X Z ρ σ s){v:Value}(r:aq X ρ Z s.heap av v)(tk:Nat):Q v { s with toks:=tk } :=
 p _ _ _ _ (i.tok tk) (a9.tok tk) r
theorem cH.here{X:Cx}{Z ρ s av σ Q}(p:cH X Z ρ s av σ Q)(i:bL X Z ρ σ s){v:Value}(r:aq X ρ Z s.heap av v):Q v s :=
 p _ _ _ _ i (a9.refl ..) r
theorem cH.grow{X:Cx}{Z ρ s av σ Q}(p:cH X Z ρ s av σ Q)(i:bL X Z ρ σ s){h':Heap}{tk:Nat}{P:Addr→Prop}{v:Value}(hk:∀b o,s.heap.get? b=some o→h'.get? b=some o)
  (hP:∀a,P a→s.heap.get? a=none∧h'.get? a≠none) (r:aq X ρ (fun a=>Z a∨P a) h' av v):Q v { s with heap:=h',toks:=tk } :=
 p _ _ _ _ (i.grow hk hP) (a9.grow hk fun a f=>(hP a f).1) r
theorem bx(h:Heap):h.get? h.objs.size=none:=by
 cases q:h.get? h.objs.size with
 | none=>rfl
 | some o=>exact absurd (Heap.lt_size q) (Nat.lt_irrefl _)
theorem mF{X:Cx}{Z ρ σ s}(i:bL X Z ρ σ s):(s.heap.objs.size==sysModules)=false:=by
 obtain⟨b,o,e,h⟩:=X.lo
 have:=Heap.lt_size (i.base b o e)
 rw[beq_eq_false_iff_ne]
 intro q
 have h':sysModules<s.heap.objs.size:=Nat.lt_trans h this
 rw[q]at h'
 exact absurd h' (Nat.lt_irrefl _)
theorem cH.push{X:Cx}{Z ρ s av σ Q}(p:cH X Z ρ s av σ Q)(i:bL X Z ρ σ s){o:Obj}{tk:Nat}(hf:o.isFreed=false)
  (r:aq X ρ (fun a=>Z a∨a=s.heap.objs.size) (s.heap.push o) av (.ref s.heap.objs.size)):Q (.ref s.heap.objs.size) { s with heap:=s.heap.push o,toks:=tk } :=
 p.grow i (P:=fun a=>a=s.heap.objs.size) (fun ω ω e=>Heap.get?_push_of_some _ e) (fun a e=>by
  subst e
  exact⟨bx _,by rw[Heap.get?_push_size _ hf];exact fun e=>nomatch e⟩) r
theorem cH.trans{X:Cx}{Z ρ s av σ Q Z' ρ' s'}(p:cH X Z ρ s av σ Q)(y:a9 T0 Z ρ s Z' ρ' s'):cH X Z' ρ' s' av σ Q :=
 fun Z'' ρ'' v s'' i e r=>p Z'' ρ'' v s'' i (y.trans e) r
structure VC(X:Cx)(k:Nat)(A:Around)(Z:Addr→Prop)(ρ:List Addr)(σ:St)(s:Shared):Prop where
 hnd:A.handled=none
 dep:A.depth≤X.dep+k
 uni:A.units≤X.uni+8 * k
 frs:∃fs,A.frames=some fs∧qS X Z ρ s.heap fs
 inv:bL X Z ρ σ s
theorem VC.next{X:Cx}{k A Z ρ σ s Z' ρ' σ' s'}(c:VC X k A Z ρ σ s)(i:bL X Z' ρ' σ' s')(y:a9 T0 Z ρ s Z' ρ' s'):VC X k A Z' ρ' σ' s' :=
 ⟨c.hnd,c.dep,c.uni,c.frs.imp fun fs h=>⟨h.1,h.2.ext y fun ω ω ω ω t=>t.elim⟩,i⟩
noncomputable def qR(X:Cx)(A:Around)(Z:Addr→Prop)(ρ:List Addr)(s:Shared)(t:Sem Value)(r:Option (AV×St)):Prop :=
 ∀av σ',r=some (av,σ')→∀Q E,cH X Z ρ s av σ' Q→wpAny (model X.prog X.w) A t Q E s
abbrev be:=List AV
abbrev ME:=be→St→Option (AV×St)
section
variable{α β γ:Type}{r:β}{P:Prop}
theorem oN(e:(none:Option β)=some r):P:=nomatch e
noncomputable def oB(x:Option (α×γ))(f:α→γ→Option β):Option β:=match x with
 | some (a,s)=>f a s
 | none=>none
theorem aD{x:Option (α×γ)}{f:α→γ→Option β}(e:oB x f=some r)(k:∀a s,x=some (a,s)→f a s=some r→P):P:=by
 cases x with
 | none=>exact oN e
 | some p=>exact k p.1 p.2 rfl e
noncomputable def o1(x:Option α)(f:α→Option β):Option β:=match x with
 | some a=>f a
 | none=>none
theorem aG{x:Option α}{f:α→Option β}(e:o1 x f=some r)(k:∀a,x=some a→f a=some r→P):P:=by
 cases x with
 | none=>exact oN e
 | some p=>exact k p rfl e
noncomputable def oT(x:Option (Bool×γ))(f g:γ→Option β):Option β:=match x with
 | some (b,s)=>match b with
  | true=>f s
  | false=>g s
 | none=>none
theorem ln{x:Option (Bool×γ)}{f g:γ→Option β}(e:oT x f g=some r)(k:∀s,x=some (true,s)→f s=some r→P)(k':∀s,x=some (false,s)→g s=some r→P):P:=by
 cases x with
 | none=>exact oN e
 | some p=>obtain⟨b,s⟩:=p;cases b with
  | true=>exact k s rfl e
  | false=>exact k' s rfl e
theorem dh{c:Prop}[Decidable c]{x:Option β}(e:(if c then x else none)=some r)(k:c→x=some r→P):P:=by
 by_cases h:c
 ·rw[if_pos h]at e;exact k h e
 ·rw[if_neg h]at e;exact oN e
theorem F5{c:Prop}[Decidable c]{x y:Option β}(e:(if c then x else y)=some r)(k:c→x=some r→P)(k' : ¬ c→y=some r→P):P:=by
 by_cases h:c
 ·rw[if_pos h]at e;exact k h e
 ·rw[if_neg h]at e;exact k' h e
theorem oE{a:β}(e:some a=some r):a=r:=Option.some.inj e
end
theorem cH.of{X:Cx}{Z ρ s Q}{a b:AV}{σ σ':St}(p:cH X Z ρ s a σ Q)(e:some (b,σ')=some (a,σ)):cH X Z ρ s b σ' Q:=by
 have h:=Option.some.inj e
 rw[show a=b from congrArg Prod.fst h.symm,show σ=σ' from congrArg Prod.snd h.symm]at p;exact p
noncomputable def Cg{β:Type}(a:AV)(fn:Option β)(fb:Bool→Option β)(fi:Int→Option β)(fs:List Nat→Option β)(fy:List UInt8→Option β)(fl ft:List AV→Option β):Option β:=nR none a (none:=fn) (bool:=fb) (int:=fi) (str:=fs) (bytes:=fy) (list:=fl) (tup:=ft)
abbrev lH{α β:Type} : α→Option β:=fun ω=>none
section
variable{X:Cx}{ρ:List Addr}{Z:Addr→Prop}{h:Heap}{β:Type}{r:β}{v:Value}{P:Value→Prop}
@[elab_as_elim] theorem ca {a:AV} {fn:Option β} {fb:Bool→Option β} {fi:Int→Option β} {fs:List Nat→Option β} {fy:List UInt8→Option β} {fl ft:List AV→Option β}
  (e:Cg a fn fb fi fs fy fl ft=some r) (q:aq X ρ Z h a v) (kn:fn=some r→P .none) (kb:∀b,fb b=some r→P (.bool b)) (ki:∀i t,fi i=some r→P (.int i t)) (ks:∀x t,fs x=some r→P (.str (aj x) t))
  (ky:∀x t,fy x=some r→P (.bytes (List.toArray x) t)) (kl:∀l a vs,Z a→h.PlainList a (List.toArray vs)→ag X ρ Z h l vs→fl l=some r→P (.ref a))
  (kt:∀l a vs,Z a→cz h a (List.toArray vs)→ag X ρ Z h l vs→ft l=some r→P (.ref a)):P v:=by
 cases a with
 | none=>rw[(q:_=_)];exact kn e
 | bool b=>rw[(q:_=_)];exact kb b e
 | int i=>obtain⟨t,q⟩:=q;rw[q];exact ki i t e
 | str x=>obtain⟨t,q⟩:=q;rw[q];exact ks x t e
 | bytes x=>obtain⟨t,q⟩:=q;rw[q];exact ky x t e
 | list l=>obtain⟨a,vs,q,f,p,rl⟩:=q;rw[q];exact kl l a vs f p rl e
 | tup l=>obtain⟨a,vs,q,f,p,rl⟩:=q;rw[q];exact kt l a vs f p rl e
 | _=>exact oN e
end
noncomputable def fT{β:Type}(a:AV)(f:Int→Option β):Option β:=nR none a (int:=f)
noncomputable def iI{β:Type}(a:AV)(f:List Nat→Option β):Option β:=nR none a (str:=f)
noncomputable def Ei{β:Type}(a:AV)(f:Bool→Option β):Option β:=nR none a (bool:=f)
noncomputable def GG{β:Type}(a:AV)(f:List UInt8→Option β):Option β:=nR none a (bytes:=f)
noncomputable def GH{β:Type}(a:AV)(f:List AV→Option β):Option β:=nR none a (list:=f)
noncomputable def HT{β:Type}(a:AV)(f:List AV→Option β):Option β:=nR none a (tup:=f)
section
variable{β:Type}{r:β}{P:AV→Prop}{a:AV}
@[elab_as_elim] theorem BV {f:Int→Option β} (e:fT a f=some r) (k:∀i,f i=some r→P (.int i)):P a:=by
 cases a with
 | int i=>exact k i e
 | _=>exact oN e
@[elab_as_elim] theorem BT {f:List Nat→Option β} (e:iI a f=some r) (k:∀i,f i=some r→P (.str i)):P a:=by
 cases a with
 | str i=>exact k i e
 | _=>exact oN e
@[elab_as_elim] theorem BW {f:Bool→Option β} (e:Ei a f=some r) (k:∀i,f i=some r→P (.bool i)):P a:=by
 cases a with
 | bool i=>exact k i e
 | _=>exact oN e
@[elab_as_elim] theorem BS {f:List UInt8→Option β} (e:GG a f=some r) (k:∀i,f i=some r→P (.bytes i)):P a:=by
 cases a with
 | bytes i=>exact k i e
 | _=>exact oN e
@[elab_as_elim] theorem qL {f:List AV→Option β} (e:GH a f=some r) (k:∀i,f i=some r→P (.list i)):P a:=by
 cases a with
 | list i=>exact k i e
 | _=>exact oN e
@[elab_as_elim] theorem vG {f:List AV→Option β} (e:HT a f=some r) (k:∀i,f i=some r→P (.tup i)):P a:=by
 cases a with
 | tup i=>exact k i e
 | _=>exact oN e
end
section
variable{X:Cx}{ρ:List Addr}{Z:Addr→Prop}{h:Heap}{β:Type}{r:β}{v:Value}{P:Value→Prop}{a:AV}
@[elab_as_elim] theorem aQ {f:Int→Option β} (e:fT a f=some r) (q:aq X ρ Z h a v) (k:∀i t,f i=some r→P (.int i t)):P v:=by
 refine BV (P:=fun a=>aq X ρ Z h a v→P v) e (fun i e q => ?_) q
 obtain⟨t,q⟩:=q;rw[q];exact k i t e
@[elab_as_elim] theorem bj {f:List Nat→Option β} (e:iI a f=some r) (q:aq X ρ Z h a v) (k:∀i t,f i=some r→P (.str (aj i) t)):P v:=by
 refine BT (P:=fun a=>aq X ρ Z h a v→P v) e (fun i e q => ?_) q
 obtain⟨t,q⟩:=q;rw[q];exact k i t e
@[elab_as_elim] theorem fK {f:Bool→Option β} (e:Ei a f=some r) (q:aq X ρ Z h a v) (k:∀i,f i=some r→P (.bool i)):P v:=by
 refine BW (P:=fun a=>aq X ρ Z h a v→P v) e (fun i e q => ?_) q
 rw[(q:_=_)];exact k i e
@[elab_as_elim] theorem iH {f:List UInt8→Option β} (e:GG a f=some r) (q:aq X ρ Z h a v) (k:∀i t,f i=some r→P (.bytes (List.toArray i) t)):P v:=by
 refine BS (P:=fun a=>aq X ρ Z h a v→P v) e (fun i e q => ?_) q
 obtain⟨t,q⟩:=q;rw[q];exact k i t e
@[elab_as_elim] theorem kc {f:List AV→Option β} (e:GH a f=some r) (q:aq X ρ Z h a v) (k:∀l a vs,Z a→h.PlainList a (List.toArray vs)→ag X ρ Z h l vs→f l=some r→P (.ref a)):P v:=by
 refine qL (P:=fun a=>aq X ρ Z h a v→P v) e (fun i e q => ?_) q
 obtain⟨a,vs,q,f,p,rl⟩:=q;rw[q];exact k i a vs f p rl e
@[elab_as_elim] theorem mc {f:List AV→Option β} (e:HT a f=some r) (q:aq X ρ Z h a v) (k:∀l a vs,Z a→cz h a (List.toArray vs)→ag X ρ Z h l vs→f l=some r→P (.ref a)):P v:=by
 refine vG (P:=fun a=>aq X ρ Z h a v→P v) e (fun i e q => ?_) q
 obtain⟨a,vs,q,f,p,rl⟩:=q;rw[q];exact k i a vs f p rl e
end
end
section
noncomputable def kK(x:Int):Bool:=decide (x.natAbs.log2<8000)
theorem ix{x:Int}(h:x.natAbs<2 ^ 64):kK x=true:=decide_eq_true (by
 rcases Nat.eq_zero_or_pos x.natAbs with e | e
 ·rw[e];decide +kernel
 ·exact Nat.lt_of_lt_of_le ((Nat.log2_lt (Nat.ne_of_gt ‹_›)).mpr h) (by decide))
theorem wc{x:Int}(h:kK x=true):x.natAbs.log2<9000:=by
 have h:=of_decide_eq_true h
 trivial
theorem rZ{x:Int}(h:kK x=true):Builtin.Int.intBits x≤9000:=by
 have:=wc h
 unfold Builtin.Int.intBits
 split
 ·trivial
 ·trivial
noncomputable def dX(n:Nat):Bool:=decide (n≤16777216)
theorem bM{n:Nat}(h:dX n=true):n≤sizeLine:=by rw[sizeLine_eq];exact of_decide_eq_true h
theorem dm{n:Nat}(h:dX n=true):n≤16777216:=of_decide_eq_true h
noncomputable def i8(i:Int)(σ:St):Option (AV×St):=some (.int i,σ)
noncomputable def lS(s:List Nat)(σ:St):Option (AV×St):=if dX s.length then some (.str s,σ)else none
noncomputable def rg(l:List AV)(σ:St):Option (AV×St):=if dX l.length then some (.list l,σ)else none
noncomputable def Cv(l:List AV)(σ:St):Option (AV×St):=if dX l.length then some (.tup l,σ)else none
noncomputable def wJ:aO→Option (List AV)
 | .list l=>some l
 | _=>none
noncomputable def Ii:AV→Option (List AV)
 | .list l=>some l
 | _=>none
noncomputable def Ik(a:AV):Option (List (List Nat×AV)):=nR none a (dict:=some)
noncomputable def Ij(a:AV):Option (List (Int×AV)):=nR none a (dicti:=some)
noncomputable def lF:aO→Option (List AV)
 | .list l=>some l
 | .dead v=>Ii v
 | _=>none
noncomputable def rK:aO→Option (List (List Nat×AV))
 | .dict l=>some l
 | .dead v=>Ik v
 | _=>none
noncomputable def EI:aO→Option (List (Int×AV))
 | .dicti l=>some l
 | .dead v=>Ij v
 | _=>none
noncomputable def cA(σ:St)(a:AV):Option (List AV):=nR none a (list:=some) (cell:=fun n=>o1 σ[n]? lF)
noncomputable def et(σ:St)(a:AV):Option (List (List Nat×AV)):=nR none a (dict:=some) (cell:=fun n=>o1 σ[n]? rK)
noncomputable def oG(σ:St)(a:AV):Option (List (Int×AV)):=nR none a (dicti:=some) (cell:=fun n=>o1 σ[n]? EI)
section
variable{X:Cx}{k:Nat}{A:Around}{Z:Addr→Prop}{ρ:List Addr}{σ:St}{s:Shared}{Q:Value→Shared→Prop}{E:Value→Shared→Prop}
theorem sY{c:aO}{l:List AV}(e:wJ c=some l):c=.list l:=by
 cases c with
 | list l'=>rw[oE e]
 | _=>exact oN e
theorem b7(i:bL X Z ρ σ s){av:AV}{v:Value}{l:List AV}(r:aq X ρ Z s.heap av v)(e:cA σ av=some l) :
  ∃a vs,v=.ref a∧s.heap.PlainList a (List.toArray vs)∧ag X ρ Z s.heap l vs:=by
 cases av with
 | list l' =>
  have:=oE e;subst this
  obtain⟨a,vs,h1,h2,h3,h4⟩:=r;exact⟨a,vs,h1,h3,h4⟩
 | cell n =>
  refine aG e fun c hc e => ?_
  obtain⟨a,ha,q⟩:=r
  have z:=i.cells n a _ ha hc
  cases c with
  | list l' =>
   rw[← oE e]
   obtain⟨_,vs,h1,h2⟩:=z
   exact⟨a,vs,q,h1,h2⟩
  | dead v =>
   cases v with
   | list l' =>
    rw[← oE e]
    have z:aq X ρ Z s.heap (.list l') (.ref a):=z
    obtain⟨a',vs,h1,h2,h3,h4⟩:=z;exact⟨a',vs,q.trans h1,h3,h4⟩
   | _=>exact oN e
  | _=>exact oN e
 | _=>exact oN e
theorem eT(i:bL X Z ρ σ s){av:AV}{v:Value}{l:List (List Nat×AV)}(r:aq X ρ Z s.heap av v)(e:et σ av=some l) :
  ∃a vs,v=.ref a∧(a==sysModules)=false∧s.heap.DictOf (strKind X.prog X.w) a vs∧bn X ρ Z s.heap l vs:=by
 cases av with
 | dict l' =>
  have:=oE e;subst this
  obtain⟨a,vs,h1,h2,h3,h4⟩:=r;exact⟨a,vs,h1,h3,h4⟩
 | cell n =>
  refine aG e fun c hc e => ?_
  obtain⟨a,ha,q⟩:=r
  have z:=i.cells n a _ ha hc
  cases c with
  | dict l' =>
   rw[← oE e]
   obtain⟨_,vs,h1,h2⟩:=z
   exact⟨a,vs,q,(i.old a (List.mem_of_getElem? ha)).2.2,h1,h2⟩
  | dead v =>
   cases v with
   | dict l' =>
    rw[← oE e]
    have z:aq X ρ Z s.heap (.dict l') (.ref a):=z
    obtain⟨a',vs,h1,h2,h3,h4,h5⟩:=z;exact⟨a',vs,q.trans h1,h3,h4,h5⟩
   | _=>exact oN e
  | _=>exact oN e
 | _=>exact oN e
theorem mj(i:bL X Z ρ σ s){av:AV}{v:Value}{l:List (Int×AV)}(r:aq X ρ Z s.heap av v)(e:oG σ av=some l) :
  ∃a vs,v=.ref a∧(a==sysModules)=false∧s.heap.DictOf (intKind X.prog X.w) a vs∧bP X ρ Z s.heap l vs:=by
 cases av with
 | dicti l' =>
  have:=oE e;subst this
  obtain⟨a,vs,h1,h2,h3,h4⟩:=r;exact⟨a,vs,h1,h3,h4⟩
 | cell n =>
  refine aG e fun c hc e => ?_
  obtain⟨a,ha,q⟩:=r
  have z:=i.cells n a _ ha hc
  cases c with
  | dicti l' =>
   rw[← oE e]
   obtain⟨_,vs,h1,h2⟩:=z
   exact⟨a,vs,q,(i.old a (List.mem_of_getElem? ha)).2.2,h1,h2⟩
  | dead v =>
   cases v with
   | dicti l' =>
    rw[← oE e]
    have z:aq X ρ Z s.heap (.dicti l') (.ref a):=z
    obtain⟨a',vs,h1,h2,h3,h4,h5⟩:=z;exact⟨a',vs,q.trans h1,h3,h4,h5⟩
   | _=>exact oN e
  | _=>exact oN e
 | _=>exact oN e
theorem bw{h:Heap}(i:Int)(t:Tok):aq X ρ Z h (.int i) (.int i t):=by show ∃_,_;exact⟨t,rfl⟩
theorem df{h:Heap}(x:List Nat)(t:Tok):aq X ρ Z h (.str x) (.str (aj x) t):=by show ∃_,_;exact⟨t,rfl⟩
theorem dz{h:Heap}{y:Str}{x:List Nat}(e:y=aj x)(t:Tok):aq X ρ Z h (.str x) (.str y t):=by show ∃_,_;exact⟨t,by rw[e]⟩
theorem bQ{h:Heap}(b:Bool):aq X ρ Z h (.bool b) (.bool b):=by show _=_;rfl
theorem fV{h:Heap} : aq X ρ Z h .none .none:=by show _=_;rfl
theorem kU{h:Heap}{a:Addr}{l:List AV}{vs:List Value}(f:Z a)(p:h.PlainList a (List.toArray vs))(r:ag X ρ Z h l vs):aq X ρ Z h (.list l) (.ref a):=by
 show ∃_,_;exact⟨a,vs,rfl,f,p,r⟩
theorem gQ{h:Heap}{a:Addr}{l:List AV}{vs:List Value}(f:Z a)(p:cz h a (List.toArray vs))(r:ag X ρ Z h l vs):aq X ρ Z h (.tup l) (.ref a):=by
 show ∃_,_;exact⟨a,vs,rfl,f,p,r⟩
theorem cH.newList{l:List AV}{vs:List Value}(p:cH X Z ρ s (.list l) σ Q)(i:bL X Z ρ σ s)(r:ag X ρ Z s.heap l vs){tk:Nat} :
  Q (.ref s.heap.objs.size) { s with heap:=s.heap.push { cls:=.type "list",data:=.seq vs.toArray },toks:=tk } :=
 p.push i rfl (kU (.inr rfl) ⟨_,Heap.get?_push_size _ rfl⟩ (r.mono (fun ω ω ω e=>Heap.get?_push_of_some _ e) (fun ω f=>.inl f) List.prefix_rfl))
theorem cH.newTup{l:List AV}{vs:List Value}(p:cH X Z ρ s (.tup l) σ Q)(i:bL X Z ρ σ s)(r:ag X ρ Z s.heap l vs){tk:Nat} :
  Q (.ref s.heap.objs.size) { s with heap:=s.heap.push { cls:=.type "tuple",data:=.seq vs.toArray },toks:=tk } :=
 p.push i rfl (gQ (.inr rfl) ⟨_,Heap.get?_push_size _ rfl⟩ (r.mono (fun ω ω ω e=>Heap.get?_push_of_some _ e) (fun ω f=>.inl f) List.prefix_rfl))
theorem jy(x y:List Nat):aj x++aj y=aj (x++y):=by
 show Str.mk (x.toArray++y.toArray)=Str.mk (x++y).toArray
 simp
theorem aF(x:List Nat):(aj x).length=x.length:=by simp[aj,Str.length]
noncomputable def ER(a b:AV)(σ:St):Option (AV×St):=Cg a none lH (fun x=>fT b fun y=>i8 (x+y) σ) (fun x=>iI b fun y=>lS (x++y) σ) lH (fun x=>GH b fun y=>rg (x++y) σ) lH
noncomputable def EM(a b:AV)(σ:St):Option (AV×St):=fT a fun x=>fT b fun y=>i8 (x - y) σ
noncomputable def EO(a b:AV)(σ:St):Option (AV×St):=fT b fun y =>
 Cg a none lH (fun x=>if kK x&&kK y then i8 (x * y) σ else none) (fun x=>if kK y&&decide (y<1048576)&&decide (-1048576<y)then lS (List.replicate y.toNat x).flatten σ else none) lH
  (fun x=>if kK y&&decide (y<1048576)&&decide (-1048576<y)then rg (List.replicate y.toNat x).flatten σ else none) lH
noncomputable def EQ(a b:AV)(σ:St):Option (AV×St):=fT a fun x=>fT b fun y=>if ¬ y=0 then if kK y then i8 (x.fdiv y) σ else none else none
noncomputable def EP(a b:AV)(σ:St):Option (AV×St):=fT a fun x=>fT b fun y=>if ¬ y=0 then i8 (x.fmod y) σ else none
noncomputable def EN(a b:AV)(σ:St):Option (AV×St):=fT a fun x=>fT b fun y=>if decide (0≤y)&&decide (y≤1000000)&&decide (x.natAbs<2 ^ 64)then i8 (x ^ y.toNat) σ else none
theorem Af(c:VC X k A Z ρ σ s){a b:AV}{va vb:Value}(ra:aq X ρ Z s.heap a va)(rb:aq X ρ Z s.heap b vb):qR X A Z ρ s (binaryOp .Add va vb) (ER a b σ):=by
 intro av σ' e Q E p
 refine ca e ra oN (fun ω=>oN) (fun x t e => ?_) (fun x t e => ?_) (fun ω ω=>oN) (fun x a vs fa pa ra e => ?_) (fun ω ω ω ω ω ω=>oN)
 ·refine aQ e rb fun y u e => ?_
  exact PyProof.Rows.add_int ((p.of e).tok c.inv (bw ..) _)
 ·refine bj e rb fun y u e => ?_
  refine dh e fun h e => ?_
  refine PyProof.Rows.add_str (fun t' tk=>(p.of e).tok c.inv (dz (jy ..) _) _) ?_
  have:=bM h
  rw[List.length_append]at this
  rw[aF,aF];exact this
 ·refine kc e rb fun y b us fb pb rb e => ?_
  refine dh e fun h e => ?_
  obtain⟨n,pa⟩:=pa
  obtain⟨m,pb⟩:=pb
  have:=bM h
  rw[List.length_append,ra.length,rb.length]at this
  refine PySem.P.add_list (n:=n) (n2:=m) (items:=vs.toArray) (items2:=us.toArray) pa pb ?_ (by simpa using this)
  have z:=(p.of e).newList c.inv (ra.append rb) (tk:=s.toks)
  simpa using z
theorem ef{α:Type}(n:Nat)(xs:List α):∀(acc:Array α),(List.foldl (fun x1 x2=>x1++x2) acc (List.replicate n xs.toArray))=(acc.toList++(List.replicate n xs).flatten).toArray:=by
 induction n with
 | zero=>intro acc;simp
 | succ n ih =>
  intro acc
  rw[List.replicate_succ,List.foldl_cons,ih,List.replicate_succ,List.flatten_cons]
  simp
theorem ag.rep{h:Heap}{l:List AV}{vs:List Value}(r:ag X ρ Z h l vs)(n:Nat):ag X ρ Z h (List.replicate n l).flatten (List.replicate n vs).flatten:=by
 induction n with
 | zero=>simp;exact ag.nil_iff.mpr rfl
 | succ n ih=>rw[List.replicate_succ,List.replicate_succ,List.flatten_cons,List.flatten_cons];exact r.append ih
theorem bU{α:Type}(n:Nat)(l:List α):(List.replicate n l).flatten.length=l.length * n:=by
 induction n with
 | zero=>simp
 | succ n ih=>rw[List.replicate_succ,List.flatten_cons,List.length_append,ih,Nat.mul_succ,Nat.add_comm]
theorem Aa(c:VC X k A Z ρ σ s){a b:AV}{va vb:Value}(ra:aq X ρ Z s.heap a va)(rb:aq X ρ Z s.heap b vb):qR X A Z ρ s (binaryOp .Sub va vb) (EM a b σ):=by
 intro av σ' e Q E p
 refine aQ e ra fun x t e => ?_
 refine aQ e rb fun y u e => ?_
 exact PyProof.Rows.sub_int ((p.of e).tok c.inv (bw ..) _)
theorem zO{x:List Nat}{y:Int}(h1:y<1048576)(hl:x.length * y.toNat≤16777216):(0:Int)<y→(x.length:Int)≤(2 ^ 63 - 1) / y:=by
 intro hy
 have:(x.length:Int) * y≤16777216:=by
  have e1:((x.length * y.toNat:Nat):Int)=(x.length:Int) * y:=by rw[Int.natCast_mul,Int.toNat_of_nonneg (by trivial)]
  rw[← e1];trivial
 rw[Int.le_ediv_iff_mul_le hy];trivial
theorem uH(c:VC X k A Z ρ σ s){x:List Nat}{y:Int}{t u:Tok}(h1:y<1048576)(h2 : -1048576<y)(hl:x.length * y.toNat≤16777216)(p:cH X Z ρ s (.str (List.replicate y.toNat x).flatten) σ Q) :
  wpAny (model X.prog X.w) A (binaryOp .Mult (.str (aj x) t) (.int y u)) Q E s:=by
 refine PySem.P.mul_str (by simp;trivial) (fun h1 h2 => ?_) (fun h1 h2 => ?_) ?_
 ·rw[aF]
  have:=zO (by trivial) hl (y:=y) (by trivial)
  trivial
 ·rw[aF]
  unfold Builtin.Str.tooLong
  rw[sizeLine_eq]
  exact decide_eq_false (Nat.not_lt.mpr ‹_›)
 ·split
  ·rename_i h1
   have:y.toNat=0:=by trivial
   rw[this]at p
   exact p.tok c.inv (dz (by simp[aj,Str.empty]) _) _ |> fun z=>⟨by simp[Str.empty,Str.length],z⟩
  ·split
   ·rename_i h1 h2
    have hx:(List.replicate y.toNat x).flatten=x:=by
     rcases Bool.or_eq_true_iff.mp h2 with q | q
     ·have:y=1:=by simpa using q
      subst this;simp
     ·rw[aF]at q
      have:x = []:=by simpa using q
      subst this
      exact List.eq_nil_of_length_eq_zero (by rw[bU];simp)
    rw[hx]at p
    exact p.here c.inv (df ..)
   ·refine⟨?_,p.tok c.inv (dz ?_ _) _⟩
    ·show(Array.size _)≤sizeLine
     rw[show(aj x).cps=x.toArray from rfl,ef,sizeLine_eq]
     simp only[List.nil_append,List.size_toArray,bU]
     exact hl
    ·rw[show(aj x).cps=x.toArray from rfl,ef];rfl
theorem se(c:VC X k A Z ρ σ s){x:List AV}{vs:List Value}{a:Addr}{y:Int}{u:Tok}(h1:y<1048576)(h2 : -1048576<y)(hl:vs.length * y.toNat≤16777216)(pa:s.heap.PlainList a (List.toArray vs))(ra:ag X ρ Z s.heap x vs)(p:cH X Z ρ s (.list (List.replicate y.toNat x).flatten) σ Q) :
  wpAny (model X.prog X.w) A (binaryOp .Mult (.ref a) (.int y u)) Q E s:=by
 obtain⟨n,pa⟩:=pa
 refine wpAny_binaryOp_repeat_ref (T := "list") (U := "int") (by decide) ⟨_,pa,rfl⟩ (fun s'=>typeIs_int s' y u) noFill_list_mul F.fills_int_mul F.slot_int_rmul repeat_list F.slot_int_index.lookup
  (call_meets F.slot_int_rmul (typeIs_int s y u) F.entry_int_rmul (F.args_int_rmul_2 _ _) (int___rmul___int_list y u a vs.toArray n)
   ⟨pa,rfl,⟨_,pa,rfl⟩,call_meets F.slot_list_mul ⟨_,pa,rfl⟩ F.entry_list_mul (F.args_list_mul_2 _ _)
    (AutoListH.list___mul___list_int_3 a vs.toArray n y u (by simp[Builtin.List.listFitsIndex];trivial) (by simp;trivial) (by simp[Builtin.List.listTooLong,sizeLine];trivial))
    ⟨pa,?_⟩⟩)
 have hv:(List.foldl (fun x1 x2=>x1++x2) #[] (List.replicate (if vs.toArray.isEmpty=true then 0 else y.toNat) vs.toArray))=(List.replicate y.toNat vs).flatten.toArray:=by
  split
  ·rename_i h1
   have:vs = []:=by simpa using h1
   subst this
   rw[List.eq_nil_of_length_eq_zero (l:=(List.replicate y.toNat ([]:List Value)).flatten) (by rw[bU];simp)]
   rfl
  ·rw[ef];simp
 rw[hv]
 exact p.newList c.inv (ra.rep y.toNat)
theorem Ac(c:VC X k A Z ρ σ s){a b:AV}{va vb:Value}(ra:aq X ρ Z s.heap a va)(rb:aq X ρ Z s.heap b vb):qR X A Z ρ s (binaryOp .Mult va vb) (EO a b σ):=by
 intro av σ' e Q E p
 refine aQ e rb fun y u e => ?_
 refine ca e ra oN (fun ω=>oN) (fun x t e => ?_) (fun x t e => ?_) (fun ω ω=>oN) (fun x a vs fa pa ra e => ?_) (fun ω ω ω ω ω ω=>oN)
 ·refine dh e fun h e => ?_
  rw[Bool.and_eq_true]at h
  exact PyProof.Rows.mul_int ((p.of e).tok c.inv (bw ..) _) (IntMulOk.of_le (rZ h.1) (rZ h.2) (by decide))
 ·refine dh e fun h e => ?_
  refine dh e fun hs e => ?_
  have h:=Bool.and_eq_true_iff.mp h
  have hl:=dm hs
  rw[bU]at hl
  exact uH c (of_decide_eq_true (Bool.and_eq_true_iff.mp h.1).2) (of_decide_eq_true h.2) hl (p.of e)
 ·refine dh e fun h e => ?_
  refine dh e fun hs e => ?_
  have h:=Bool.and_eq_true_iff.mp h
  have hl:=dm hs
  rw[bU,ra.length]at hl
  exact se c (of_decide_eq_true (Bool.and_eq_true_iff.mp h.1).2) (of_decide_eq_true h.2) hl pa ra (p.of e)
theorem Ae(c:VC X k A Z ρ σ s){a b:AV}{va vb:Value}(ra:aq X ρ Z s.heap a va)(rb:aq X ρ Z s.heap b vb):qR X A Z ρ s (binaryOp .FloorDiv va vb) (EQ a b σ):=by
 intro av σ' e Q E p
 refine aQ e ra fun x t e => ?_
 refine aQ e rb fun y u e => ?_
 refine dh e fun hy e => ?_
 refine dh e fun h e => ?_
 exact PyProof.Rows.floordiv_int hy ((p.of e).tok c.inv (bw ..) _) (.inl (PyProof.noPylong_of_log2 (wc h)))
theorem Ad(c:VC X k A Z ρ σ s){a b:AV}{va vb:Value}(ra:aq X ρ Z s.heap a va)(rb:aq X ρ Z s.heap b vb):qR X A Z ρ s (binaryOp .Mod va vb) (EP a b σ):=by
 intro av σ' e Q E p
 refine aQ e ra fun x t e => ?_
 refine aQ e rb fun y u e => ?_
 refine dh e fun hy e => ?_
 exact PyProof.Rows.mod_int' hy ((p.of e).tok c.inv (bw ..) _)
theorem Ab(c:VC X k A Z ρ σ s){a b:AV}{va vb:Value}(ra:aq X ρ Z s.heap a va)(rb:aq X ρ Z s.heap b vb):qR X A Z ρ s (binaryOp .Pow va vb) (EN a b σ):=by
 intro av σ' e Q E p
 refine aQ e ra fun x t e => ?_
 refine aQ e rb fun y u e => ?_
 refine dh e fun h e => ?_
 have h:=Bool.and_eq_true_iff.mp h
 have h1:=Bool.and_eq_true_iff.mp h.1
 exact PyProof.Rows.pow_int_small (of_decide_eq_true h1.1) (of_decide_eq_true h1.2) (of_decide_eq_true h.2) ((p.of e).tok c.inv (bw ..) _)
end
end
section
noncomputable def gL(f:AV→AV→Option Bool):List AV→List AV→Option Bool
 | [],_=>some true
 | x::xs,ys=>match ys with
  | []=>some true
  | y::ys=>o1 (f x y) fun a=>o1 (gL f xs ys) fun b=>some (a&&b)
noncomputable def eM{α:Type}(k:List Nat):List (List Nat×α)→Option α
 | []=>none
 | (j,x)::r=>if j=k then some x else eM k r
noncomputable def f7{α:Type}(k:Int):List (Int×α)→Option α
 | []=>none
 | (j,x)::r=>if j=k then some x else f7 k r
noncomputable def ib(f:AV→AV→Option Bool)(ys:List (List Nat×AV)):List (List Nat×AV)→Option Bool
 | []=>some true
 | (k,x)::r=>match eM k ys with
  | none=>some false
  | some y=>o1 (f x y) fun a=>o1 (ib f ys r) fun b=>some (a&&b)
noncomputable def de:Nat→AV→AV→Option Bool
 | 0,_,_=>none
 | n+1,a,b=>Cg a none (fun x=>Ei b fun y=>some (x==y)) (fun x=>fT b fun y=>some (x==y)) (fun x=>iI b fun y=>some (x==y)) (fun x=>GG b fun y=>some (x==y))
  (fun xs=>GH b fun ys=>if xs.length=ys.length then gL (de n) xs ys else some false)
  (fun xs=>HT b fun ys=>o1 (gL (de n) xs ys) fun r=>some (r&&xs.length==ys.length))
section
variable{X:Cx}{ρ:List Addr}{Z:Addr→Prop}{h:Heap}
theorem fW{x y:List Nat}(e:aj x=aj y):x=y:=by
 unfold aj at e
 injection e with e
 simpa using congrArg Array.toList e
theorem pO{x y:List UInt8}{t u:Tok}(e:Value.bytes x.toArray t=.bytes y.toArray u):x=y:=by
 injection e with e
 exact congrArg Array.toList e
theorem zj{x y:List Nat}{t u:Tok}(e:Value.str (aj x) t=.str (aj y) u):x=y:=by
 injection e with e
 exact fW e
theorem o6{a:Addr}{vs vs':List Value} : h.PlainList a vs.toArray→h.PlainList a vs'.toArray→vs=vs':=by
 rintro⟨k1,p1⟩ ⟨k2,p2⟩
 rw[p1]at p2
 have:=congrArg Obj.data (Option.some.inj p2)
 injection this with this _
 exact congrArg Array.toList this
theorem rn{a:Addr}{vs vs':List Value} : cz h a vs.toArray→cz h a vs'.toArray→vs=vs':=by
 rintro⟨k1,p1⟩ ⟨k2,p2⟩
 rw[p1]at p2
 have:=congrArg Obj.data (Option.some.inj p2)
 injection this with this _
 exact congrArg Array.toList this
theorem DD{l:List AV}{a:Addr}{vs:List Value}(p:h.PlainList a vs.toArray)(r:aq X ρ Z h (.list l) (.ref a)):ag X ρ Z h l vs:=by
 obtain⟨a',vs',e,_,p',q⟩:=r
 cases e
 rw[o6 p p'];exact q
theorem Fm{l:List AV}{a:Addr}{vs:List Value}(p:cz h a vs.toArray)(r:aq X ρ Z h (.tup l) (.ref a)):ag X ρ Z h l vs:=by
 obtain⟨a',vs',e,_,p',q⟩:=r
 cases e
 rw[rn p p'];exact q
theorem nJ{f:AV→AV→Option Bool}(ih:∀{a b:AV} {v:Value} {r:Bool},aq X ρ Z h a v→aq X ρ Z h b v→f a b=some r→r=true) :
  ∀(xs ys:List AV) (vs:List Value) (r:Bool),ag X ρ Z h xs vs→ag X ρ Z h ys vs→gL f xs ys=some r→r=true:=by
 intro xs
 induction xs with
 | nil=>intro ys vs r _ _ e;exact(oE e).symm
 | cons x xs hi =>
  intro ys vs r r1 r2 e
  cases ys with
  | nil=>exact(oE e).symm
  | cons y ys =>
   refine aG e fun a ha e=>aG e fun b hb e => ?_
   obtain⟨v,t,q,p1,q1⟩:=ag.cons_iff.mp r1
   rw[q]at r2
   obtain⟨v',t',e',p2,q2⟩:=ag.cons_iff.mp r2
   injection e' with e1 e2
   rw[← e1]at p2;rw[← e2]at q2
   rw[← oE e,ih p1 p2 ha,hi _ _ _ q1 q2 hb];rfl
theorem Bg:∀(n:Nat) {a b:AV} {v:Value} {r:Bool},aq X ρ Z h a v→aq X ρ Z h b v→de n a b=some r→r=true:=by
 intro n
 induction n with
 | zero=>intro a b v r _ _ e;exact oN e
 | succ n ih =>
  intro a b v r ra rb e
  refine ca (P:=fun v=>aq X ρ Z h b v→r=true) e ra oN (fun x e rb => ?_) (fun x t e rb => ?_) (fun x t e rb => ?_) (fun x t e rb => ?_) (fun l a vs ω p q e rb => ?_) (fun l a vs ω p q e rb => ?_) rb
  ·refine fK (P:=fun v=>v=.bool x→r=true) e rb (fun y e q => ?_) rfl
   cases q;rw[← oE e];exact beq_self_eq_true _
  ·refine aQ (P:=fun v=>v=.int x t→r=true) e rb (fun y u e q => ?_) rfl
   cases q;rw[← oE e];exact beq_self_eq_true _
  ·refine bj (P:=fun v=>v=.str (aj x) t→r=true) e rb (fun y u e q => ?_) rfl
   rw[← oE e,zj q];exact beq_self_eq_true _
  ·refine iH (P:=fun v=>v=.bytes x.toArray t→r=true) e rb (fun y u e q => ?_) rfl
   rw[← oE e,pO q];exact beq_self_eq_true _
  ·refine qL (P:=fun b=>aq X ρ Z h b (.ref a)→r=true) e (fun ys e rb => ?_) rb
   have q2:=DD p rb
   rw[if_pos (q.length.trans q2.length.symm)]at e
   exact nJ ih _ _ _ _ q q2 e
  ·refine vG (P:=fun b=>aq X ρ Z h b (.ref a)→r=true) e (fun ys e rb => ?_) rb
   have q2:=Fm p rb
   refine aG e fun r' h' e => ?_
   rw[← oE e,nJ ih _ _ _ _ q q2 h',q.length,q2.length];exact beq_self_eq_true _
end
section
open SeqAt
variable{X:Cx}{ρ:List Addr}{Z:Addr→Prop}{s:Shared}{A:Around}
theorem cz.isTuple{h:Heap}{a:Addr}{items:Array Value}(x:cz h a items):h.IsTuple a items:=x.elim fun n e=>⟨_,e,rfl,n,rfl⟩
theorem tt(n:Nat)(A:Around)(s:Shared)(ih:∀{a b:AV} {va vb:Value} {r:Bool},aq X ρ Z s.heap a va→aq X ρ Z s.heap b vb→de n a b=some r→EqAt A s va vb r) :
  ∀(xs ys:List AV) (vs us:List Value) (r:Bool),ag X ρ Z s.heap xs vs→ag X ρ Z s.heap ys us→gL (de n) xs ys=some r →
   ∃e:Nat→Bool,(∀j (h1:j<vs.length) (h2:j<us.length),EqAt A s vs[j] us[j] (e j))∧(List.range (min vs.length us.length)).all e=r:=by
 intro xs
 induction xs with
 | nil =>
  intro ys vs us r r1 r2 e
  rw[ag.nil_iff.mp r1,← oE e]
  exact⟨fun ω=>true,fun j h1=>absurd h1 (Nat.not_lt_zero _),by simp⟩
 | cons x xs hi =>
  intro ys vs us r r1 r2 e
  obtain⟨v,t,q,p1,q1⟩:=ag.cons_iff.mp r1
  cases ys with
  | nil =>
   rw[ag.nil_iff.mp r2,← oE e]
   exact⟨fun ω=>true,fun j h1 h2=>absurd h2 (Nat.not_lt_zero _),by simp⟩
  | cons y ys =>
   obtain⟨u,t',q',p2,q2⟩:=ag.cons_iff.mp r2
   rw[q,q']
   refine aG e fun a ha e=>aG e fun b hb e => ?_
   obtain⟨f,hf,hr⟩:=hi ys t t' b q1 q2 hb
   refine⟨fun j=>j.rec a fun j ω=>f j,?_,?_⟩
   ·intro j h1 h2
    cases j with
    | zero=>exact ih p1 p2 ha
    | succ j=>exact hf j (Nat.lt_of_succ_lt_succ h1) (Nat.lt_of_succ_lt_succ h2)
   ·rw[List.length_cons,List.length_cons,Nat.add_min_add_right,List.range_succ_eq_map,List.all_cons,List.all_map,← oE e,← hr];rfl
theorem oJ(x y:List Nat):(aj x==aj y)=(x==y):=by
 by_cases hxy:x=y
 ·rw[hxy,beq_self_eq_true,beq_self_eq_true]
 ·rw[beq_eq_false_iff_ne.mpr hxy,beq_eq_false_iff_ne.mpr fun q=>hxy (fW q)]
theorem vc{x y:List UInt8}{t u:Tok} : EqAt A s (.bytes x.toArray t) (.bytes y.toArray u) (x==y):=by
 intro prog w E Q hq
 unfold eqBool
 refine wpAny_holding ?_
 refine wpAny_ite_split (fun hab => ?_) (fun ω => ?_)
 ·rw[pO (eq_of_beq hab),beq_self_eq_true]at hq
  exact wpAny_bind (wpAny_rule (wpAny_pure hq))
 ·refine wpAny_bind ?_
  show wpAny _ _ (compareOp .Eq _ _) _ _ _
  refine W.eq_bytes (wpAny_truthy_bool ?_)
  simpa using hq
theorem rL{A:Around}{s:Shared}{n:Nat}{a b:Addr}{xs ys:List AV}{vs us:List Value}{r:Bool}(hu:A.units+(n+1)<cLine)(ih:∀{a b:AV} {va vb:Value} {r:Bool},aq X ρ Z s.heap a va→aq X ρ Z s.heap b vb→de n a b=some r→EqAt A.in1 s va vb r)
  (pa:s.heap.PlainList a vs.toArray) (pb:s.heap.PlainList b us.toArray) (qa:ag X ρ Z s.heap xs vs) (qb:ag X ρ Z s.heap ys us) (hl:xs.length=ys.length) (e:gL (de n) xs ys=some r) :
  RcAt A s (.ref a) (.ref b) r∧RcNeAt A s (.ref a) (.ref b) (!r):=by
 obtain⟨f,hf,hr⟩:=tt n A.in1 s ih xs ys vs us r qa qb e
 have hl':vs.length=us.length:=by rw[← qa.length,← qb.length];exact hl
 have hr':(List.range vs.toArray.size).all f=r:=by rw[← hr,← hl',Nat.min_self];rfl
 rw[← hr']
 exact⟨RcAt.lists pa.isList pb.isList hl' (by trivial) (fun j h1 h2=>hf j h1 h2),RcNeAt.lists pa.isList pb.isList hl' (by trivial) (fun j h1 h2=>hf j h1 h2)⟩
theorem oM{A:Around}{s:Shared}{n:Nat}{a b:Addr}{xs ys:List AV}{vs us:List Value}{r:Bool}(hu:A.units+(n+1)<cLine)(ih:∀{a b:AV} {va vb:Value} {r:Bool},aq X ρ Z s.heap a va→aq X ρ Z s.heap b vb→de n a b=some r→EqAt A.in1 s va vb r)
  (pa:cz s.heap a vs.toArray) (pb:cz s.heap b us.toArray) (qa:ag X ρ Z s.heap xs vs) (qb:ag X ρ Z s.heap ys us) (e:gL (de n) xs ys=some r) :
  RcAt A s (.ref a) (.ref b) (r&&xs.length==ys.length)∧RcNeAt A s (.ref a) (.ref b) (!(r&&xs.length==ys.length)):=by
 obtain⟨f,hf,hr⟩:=tt n A.in1 s ih xs ys vs us r qa qb e
 rw[qa.length,qb.length,← hr]
 exact⟨RcAt.tuples pa.isTuple pb.isTuple (by trivial) (fun j h1 h2=>hf j h1 h2),RcNeAt.tuples pa.isTuple pb.isTuple (by trivial) (fun j h1 h2=>hf j h1 h2)⟩
theorem v9{A:Around}{s:Shared}{a b:Addr}{xs ys:List AV}{vs us:List Value}(hu:A.units+1<cLine)
  (pa:s.heap.PlainList a vs.toArray) (pb:s.heap.PlainList b us.toArray) (qa:ag X ρ Z s.heap xs vs) (qb:ag X ρ Z s.heap ys us) (hl : ¬ xs.length=ys.length) :
  RcAt A s (.ref a) (.ref b) false∧RcNeAt A s (.ref a) (.ref b) true:=by
 have hn:(vs.toArray.size != us.toArray.size)=true:=by simpa using fun q=>hl (qa.length.trans (q.trans qb.length.symm))
 exact⟨RcAt.lists_lengths (A:=A) pa.isList pb.isList hn (Nat.le_of_lt ‹_›),RcNeAt.lists_lengths (A:=A) pa.isList pb.isList hn (Nat.le_of_lt ‹_›)⟩
theorem qw:∀(n:Nat) (A:Around) (s:Shared) {a b:AV} {va vb:Value} {r:Bool},A.units+n<cLine→aq X ρ Z s.heap a va→aq X ρ Z s.heap b vb→de n a b=some r→EqAt A s va vb r:=by
 intro n
 induction n with
 | zero=>intro A s a b va vb r _ _ _ e;exact oN e
 | succ n ih =>
  intro A s a b va vb r hu ra rb e
  have sm := @Bg X ρ Z s.heap (n+1) a b
  have ih':∀{a b:AV} {va vb:Value} {r:Bool},aq X ρ Z s.heap a va→aq X ρ Z s.heap b vb→de n a b=some r→EqAt A.in1 s va vb r:=fun p q e=>ih A.in1 s (by show A.units+1+n<cLine;trivial) p q e
  have e0:=e
  refine ca (P:=fun va=>(∀{v r},aq X ρ Z s.heap a v→aq X ρ Z s.heap b v→de (n+1) a b=some r→r=true)→aq X ρ Z s.heap a va→EqAt A s va vb r) e ra oN (fun x e ω ω => ?_) (fun x t e ω ω => ?_) (fun x t e ω ω => ?_) (fun x t e ω ω => ?_)
   (fun l a vs ω p q e sm ra => ?_) (fun l a vs ω p q e sm ra => ?_) sm ra
  ·refine fK e rb fun y e => ?_
   rw[← oE e];exact EqAt.bool_bool _ _
  ·refine aQ e rb fun y u e => ?_
   rw[← oE e];exact EqAt.int_int _ _ _ _
  ·refine bj e rb fun y u e => ?_
   rw[← oE e,← oJ];exact EqAt.str_str (A:=A) (s:=s) (aj x) t (aj y) u
  ·refine iH e rb fun y u e => ?_
   rw[← oE e];exact vc
  ·refine kc (P:=fun vb=>aq X ρ Z s.heap b vb→EqAt A s (.ref a) vb r) e rb (fun ys b us ω p' q' e rb => ?_) rb
   by_cases hab:a=b
   ·rw[← hab]at rb;rw[← hab,sm ra rb e0];exact EqAt.same _
   ·refine EqAt.of_refs hab ?_
    refine F5 e (fun hl e => ?_) fun hl e => ?_
    ·exact(rL hu ih' p p' q q' hl e).1
    ·rw[← oE e];exact(v9 (by trivial) p p' q q' hl).1
  ·refine mc (P:=fun vb=>aq X ρ Z s.heap b vb→EqAt A s (.ref a) vb r) e rb (fun ys b us ω p' q' e rb => ?_) rb
   by_cases hab:a=b
   ·rw[← hab]at rb;rw[← hab,sm ra rb e0];exact EqAt.same _
   ·refine EqAt.of_refs hab ?_
    refine aG e fun r' h' e => ?_
    rw[← oE e];exact(oM hu ih' p p' q q' h').1
end
end
section
open SeqAt
section
variable{X:Cx}{ρ:List Addr}{Z:Addr→Prop}{h:Heap}
theorem pA{f:AV→AV→Option Bool}(ih:∀{a a' b:AV} {v:Value} {r r':Bool},aq X ρ Z h a v→aq X ρ Z h a' v→f a b=some r→f a' b=some r'→r=r') :
  ∀(xs xs' ys:List AV) (vs:List Value) (r r':Bool),ag X ρ Z h xs vs→ag X ρ Z h xs' vs→gL f xs ys=some r→gL f xs' ys=some r'→r=r':=by
 intro xs
 induction xs with
 | nil =>
  intro xs' ys vs r r' r1 r2 e e'
  rw[ag.nil_iff.mp r1]at r2
  rw[List.eq_nil_of_length_eq_zero r2.length]at e'
  rw[← oE e,← oE e']
 | cons x xs hi =>
  intro xs' ys vs r r' r1 r2 e e'
  obtain⟨v,t,q,p1,q1⟩:=ag.cons_iff.mp r1
  rw[q]at r2
  cases xs' with
  | nil=>exact nomatch ag.nil_iff.mp r2
  | cons x' xs' =>
   obtain⟨v',t',ee,p2,q2⟩:=ag.cons_iff.mp r2
   injection ee with e1 e2
   rw[← e1]at p2;rw[← e2]at q2
   cases ys with
   | nil=>rw[← oE e,← oE e']
   | cons y ys =>
    refine aG e fun a ha e=>aG e fun b hb e=>aG e' fun a' ha' e'=>aG e' fun b' hb' e' => ?_
    rw[← oE e,← oE e',ih p1 p2 ha ha',hi _ _ _ _ _ q1 q2 hb hb']
theorem l8:∀(n:Nat) {a a' b:AV} {v:Value} {r r':Bool},aq X ρ Z h a v→aq X ρ Z h a' v→de n a b=some r→de n a' b=some r'→r=r':=by
 intro n
 induction n with
 | zero=>intro a a' b v r r' _ _ e;exact oN e
 | succ n ih =>
  intro a a' b v r r' ra rb e e'
  refine ca (P:=fun v=>aq X ρ Z h a' v→r=r') e ra oN (fun x e rb => ?_) (fun x t e rb => ?_) (fun x t e rb => ?_) (fun x t e rb => ?_) (fun l a vs ω p q e rb => ?_) (fun l a vs ω p q e rb => ?_) rb
  ·refine BW (P:=fun b=>de (n+1) a' b=some r'→r=r') e (fun y e e' => ?_) e'
   refine ca (P:=fun v=>v=.bool x→r=r') e' rb oN (fun z e' q => ?_) (fun ω ω=>oN) (fun ω ω=>oN) (fun ω ω=>oN) (fun ω ω ω ω ω ω=>oN) (fun ω ω ω ω ω ω=>oN) rfl
   cases q;rw[← oE e,← oE e']
  ·refine BV (P:=fun b=>de (n+1) a' b=some r'→r=r') e (fun y e e' => ?_) e'
   refine ca (P:=fun v=>v=.int x t→r=r') e' rb oN (fun ω=>oN) (fun z u e' q => ?_) (fun ω ω=>oN) (fun ω ω=>oN) (fun ω ω ω ω ω ω=>oN) (fun ω ω ω ω ω ω=>oN) rfl
   cases q;rw[← oE e,← oE e']
  ·refine BT (P:=fun b=>de (n+1) a' b=some r'→r=r') e (fun y e e' => ?_) e'
   refine ca (P:=fun v=>v=.str (aj x) t→r=r') e' rb oN (fun ω=>oN) (fun ω ω=>oN) (fun z u e' q => ?_) (fun ω ω=>oN) (fun ω ω ω ω ω ω=>oN) (fun ω ω ω ω ω ω=>oN) rfl
   rw[← oE e,← oE e',zj q]
  ·refine BS (P:=fun b=>de (n+1) a' b=some r'→r=r') e (fun y e e' => ?_) e'
   refine ca (P:=fun v=>v=.bytes x.toArray t→r=r') e' rb oN (fun ω=>oN) (fun ω ω=>oN) (fun ω ω=>oN) (fun z u e' q => ?_) (fun ω ω ω ω ω ω=>oN) (fun ω ω ω ω ω ω=>oN) rfl
   rw[← oE e,← oE e',pO q]
  ·refine qL (P:=fun b=>de (n+1) a' b=some r'→r=r') e (fun ys e e' => ?_) e'
   refine ca (P:=fun v=>v=.ref a→r=r') e' rb oN (fun ω=>oN) (fun ω ω=>oN) (fun ω ω=>oN) (fun ω ω=>oN) (fun l' a' vs' ω p' q' e' ee => ?_) (fun ω ω ω ω ω ω=>oN) rfl
   injection ee with ee
   rw[ee]at p'
   rw[o6 p' p]at q'
   have hl:=q.length.trans q'.length.symm
   refine F5 e (fun h3 e => ?_) fun h3 e => ?_
   ·exact F5 e' (fun ω e'=>pA (f:=de n) ih _ _ _ _ _ _ q q' e e') fun h4=>absurd (hl.symm.trans h3) h4
   ·refine F5 e' (fun h4=>absurd (hl.trans h4) h3) fun ω e' => ?_
    rw[← oE e,← oE e']
  ·refine vG (P:=fun b=>de (n+1) a' b=some r'→r=r') e (fun ys e e' => ?_) e'
   refine ca (P:=fun v=>v=.ref a→r=r') e' rb oN (fun ω=>oN) (fun ω ω=>oN) (fun ω ω=>oN) (fun ω ω=>oN) (fun ω ω ω ω ω ω=>oN) (fun l' a' vs' ω p' q' e' ee => ?_) rfl
   injection ee with ee
   rw[ee]at p'
   rw[rn p' p]at q'
   refine aG e fun r1 h1 e=>aG e' fun r2 h2 e' => ?_
   rw[← oE e,← oE e',pA (f:=de n) ih _ _ _ _ _ _ q q' h1 h2,q.length.trans q'.length.symm]
end
noncomputable def ke(f:AV→AV→Option Bool)(x:AV):List AV→Option Bool
 | []=>some false
 | y::ys=>o1 (f y x) fun a=>o1 (ke f x ys) fun b=>some (a||b)
noncomputable def gG(r:Option Bool)(σ:St):Option (AV×St):=o1 r fun b=>some (.bool b,σ)
noncomputable def lM(σ:St)(a b:AV):Option Bool:=match et σ a with
 | some xs=>match et σ b with
  | some ys=>if xs.length=ys.length then ib (de 8) ys xs else some false
  | none=>de 9 a b
 | none=>de 9 a b
noncomputable def Jl(k:List Nat)(l:List (List Nat×AV)):Option Bool:=some (eM k l).isSome
noncomputable def Jk(k:Int)(l:List (Int×AV)):Option Bool:=some (f7 k l).isSome
noncomputable def xv(σ:St)(x c:AV):Option Bool:=match cA σ c with
 | some l=>ke (de 8) x l
 | none=>match et σ c with
  | some l=>iI x fun k=>Jl k l
  | none=>match oG σ c with
   | some l=>fT x fun k=>Jk k l
   | none=>HT c fun l=>ke (de 8) x l
noncomputable def bW(op:CmpOp)(a b:AV)(σ:St):Option (AV×St):=match op with
 | .Eq=>gG (lM σ a b) σ
 | .NotEq=>gG ((lM σ a b).map (!·)) σ
 | .In=>gG (xv σ a b) σ
 | .NotIn=>gG ((xv σ a b).map (!·)) σ
 | .Lt=>fT a fun x=>fT b fun y=>some (.bool (decide (x<y)),σ)
 | .LtE=>fT a fun x=>fT b fun y=>some (.bool (decide (x≤y)),σ)
 | .Gt=>fT a fun x=>fT b fun y=>some (.bool (decide (y<x)),σ)
 | .GtE=>fT a fun x=>fT b fun y=>some (.bool (decide (y≤x)),σ)
 | .Is=>Ei a fun x=>Ei b fun y=>some (.bool (x==y),σ)
 | .IsNot=>Ei a fun x=>Ei b fun y=>some (.bool (!(x==y)),σ)
section
variable{X:Cx}{k:Nat}{A:Around}{Z:Addr→Prop}{ρ:List Addr}{σ:St}{s:Shared}{Q:Value→Shared→Prop}{E:Value→Shared→Prop}
theorem bn.length{h:Heap} : ∀{xs:List (List Nat×AV)} {vs:List (Str×Value)},bn X ρ Z h xs vs→xs.length=vs.length:=by
 intro l₀
 induction l₀ with
 | nil =>
  intro vs r
  change _=_ at r;subst r;rfl
 | cons p₀ xs ih₀ =>
  obtain⟨k,x⟩:=p₀
  intro vs r
  obtain⟨v,t,rfl,_,q⟩:=r
  simp[ih₀ q]
theorem bP.length{h:Heap} : ∀{xs:List (Int×AV)} {vs:List (Int×Value)},bP X ρ Z h xs vs→xs.length=vs.length:=by
 intro l₀
 induction l₀ with
 | nil =>
  intro vs r
  change _=_ at r;subst r;rfl
 | cons p₀ xs ih₀ =>
  obtain⟨k,x⟩:=p₀
  intro vs r
  obtain⟨v,t,rfl,_,q⟩:=r
  simp[ih₀ q]
theorem bn.look{h:Heap} : ∀{xs:List (List Nat×AV)} {vs:List (Str×Value)} (k:List Nat),bn X ρ Z h xs vs →
  (eM k xs=none∧valueAt vs (aj k)=none)∨∃x v,eM k xs=some x∧valueAt vs (aj k)=some v∧aq X ρ Z h x v:=by
 intro l₀
 induction l₀ with
 | nil =>
  intro vs k r
  change _=_ at r;subst r;exact .inl ⟨rfl,rfl⟩
 | cons p₀ xs ih₀ =>
  obtain⟨j,x⟩:=p₀
  intro vs k r
  obtain⟨v,t,rfl,p,q⟩:=r
  have ih:=ih₀ k q
  unfold eM valueAt
  by_cases hk:j=k
  ·subst hk
   exact .inr ⟨x,v,by rw[if_pos rfl],by simp,p⟩
  ·have hk' : ¬ aj j=aj k:=fun e=>hk (fW e)
   rw[if_neg hk]
   simpa [List.find?_cons,hk',valueAt] using ih
theorem bP.look{h:Heap} : ∀{xs:List (Int×AV)} {vs:List (Int×Value)} (k:Int),bP X ρ Z h xs vs →
  (f7 k xs=none∧valueAt vs k=none)∨∃x v,f7 k xs=some x∧valueAt vs k=some v∧aq X ρ Z h x v:=by
 intro l₀
 induction l₀ with
 | nil =>
  intro vs k r
  change _=_ at r;subst r;exact .inl ⟨rfl,rfl⟩
 | cons p₀ xs ih₀ =>
  obtain⟨j,x⟩:=p₀
  intro vs k r
  obtain⟨v,t,rfl,p,q⟩:=r
  have ih:=ih₀ k q
  unfold f7 valueAt
  by_cases hk:j=k
  ·subst hk
   exact .inr ⟨x,v,by rw[if_pos rfl],by simp,p⟩
  ·rw[if_neg hk]
   simpa [List.find?_cons,hk,valueAt] using ih
open Classical in
theorem tm(n:Nat)(hu:A.units+n<cLine){x:AV}{v:Value}(rx:aq X ρ Z s.heap x v):∀(l:List AV) (vs:List Value) (r:Bool),ag X ρ Z s.heap l vs→ke (de n) x l=some r →
  ∃e:Value→Bool,(∀y,y∈vs→EqAt A s y v (e y))∧vs.any e=r:=by
 intro l vs r rl e
 refine⟨fun y=>if ∃a,aq X ρ Z s.heap a y∧de n a x=some true then true else false,?_,?_⟩
 ·have:∀(l:List AV) (vs:List Value) (r:Bool),ag X ρ Z s.heap l vs→ke (de n) x l=some r→∀y∈vs,∃a r,aq X ρ Z s.heap a y∧de n a x=some r:=by
   intro l
   induction l with
   | nil=>intro vs r rl _ y hy;rw[ag.nil_iff.mp rl]at hy;cases hy
   | cons z l ih =>
    intro vs r rl e y hy
    obtain⟨u,t,rfl,p,q⟩:=ag.cons_iff.mp rl
    refine aG e fun a ha e=>aG e fun b hb e => ?_
    rcases List.mem_cons.mp hy with hy | hy
    ·rw[hy];exact⟨z,a,p,ha⟩
    ·exact ih t b q hb y hy
  intro y hy
  obtain⟨a,r',ra,er⟩:=this l vs r rl e y hy
  have z:=qw n A s hu ra rx er
  have:(if ∃a,aq X ρ Z s.heap a y∧de n a x=some true then true else false)=r':=by
   cases r' with
   | true=>exact if_pos ⟨a,ra,er⟩
   | false=>exact if_neg fun⟨a',ra',er'⟩=>nomatch l8 n ra ra' er er'
  show EqAt A s y v (if ∃a,aq X ρ Z s.heap a y∧de n a x=some true then true else false)
  rw[this];exact z
 ·revert vs r
  induction l with
  | nil=>intro vs r rl e;rw[ag.nil_iff.mp rl];exact oE e
  | cons z l ih =>
   intro vs r rl e
   obtain⟨u,t,rfl,p,q⟩:=ag.cons_iff.mp rl
   refine aG e fun a ha e=>aG e fun b hb e => ?_
   rw[List.any_cons,ih t b q hb,← oE e]
   refine congrArg (·|| b) ?_
   cases a with
   | true=>exact if_pos ⟨z,p,ha⟩
   | false=>exact if_neg fun⟨a',ra',er'⟩=>nomatch l8 n p ra' ha er'
noncomputable def kq(X:Cx)(k:Nat):Prop:=X.uni+8 * k+64<cLine∧X.dep+k+100<recursionLimit
theorem wb(U:kq X k)(c:VC X k A Z ρ σ s){x l:AV}{vx vl:Value}(rx:aq X ρ Z s.heap x vx)(rl:aq X ρ Z s.heap l vl){b:Bool}(e:xv σ x l=some b) :
  (∀Q E,(∀tk,Q (.bool b) { s with toks:=tk })→wpAny (model X.prog X.w) A (compareOp .In vx vl) Q E s)∧(∀Q E,(∀tk,Q (.bool !b) { s with toks:=tk })→wpAny (model X.prog X.w) A (compareOp .NotIn vx vl) Q E s):=by
 have hu:A.in1.units+8<cLine:=by have:=c.uni;have:=U.1;show A.units+1+8<cLine;trivial
 unfold xv at e
 cases hl:cA σ l with
 | some l' =>
  rw[hl]at e
  obtain⟨a,vs,q,pl,ql⟩:=b7 c.inv rl hl
  obtain⟨f,hf,hr⟩:=tm (A:=A.in1) 8 hu rx l' vs b ql e
  rw[q,← hr]
  exact⟨fun Q E h=>in_listAt f pl.isList (fun y hy=>hf y (List.mem_toArray.mp hy)) (by simpa using h s.toks),
   fun Q E h=>notIn_listAt f pl.isList (fun y hy=>hf y (List.mem_toArray.mp hy)) (by simpa using h s.toks)⟩
 | none =>
  rw[hl]at e
  cases hl:et σ l with
  | some l' =>
   rw[hl]at e
   obtain⟨a,vs,q,hs,hd,ql⟩:=eT c.inv rl hl
   rw[q]
   refine bj e rx fun k' t e => ?_
   have:(valueAt vs (aj k')).isSome=b:=by
    rw[← oE e]
    rcases ql.look k' with ⟨h1,h2⟩ | ⟨x,v,h1,h2,_⟩ <;> (rw[h1,h2];rfl)
   exact⟨fun Q E h=>wpAny_in_of (strKind_is ..) hs hd.mapOf (by rw[this];exact h _),fun Q E h=>wpAny_notIn_of (strKind_is ..) hs hd.mapOf (by rw[this];exact h _)⟩
  | none =>
   rw[hl]at e
   cases hl:oG σ l with
   | some l' =>
    rw[hl]at e
    obtain⟨a,vs,q,hs,hd,ql⟩:=mj c.inv rl hl
    rw[q]
    refine aQ e rx fun k' t e => ?_
    have:(valueAt vs k').isSome=b:=by
     rw[← oE e]
     rcases ql.look k' with ⟨h1,h2⟩ | ⟨x,v,h1,h2,_⟩ <;> (rw[h1,h2];rfl)
    exact⟨fun Q E h=>wpAny_in_of (intKind_is ..) hs hd.mapOf (by rw[this];exact h _),fun Q E h=>wpAny_notIn_of (intKind_is ..) hs hd.mapOf (by rw[this];exact h _)⟩
   | none =>
    rw[hl]at e
    refine mc e rl fun l' a vs ω pl ql e => ?_
    obtain⟨f,hf,hr⟩:=tm (A:=A.in1) 8 hu rx l' vs b ql e
    rw[← hr]
    exact⟨fun Q E h=>in_tupleAt f pl.isTuple (fun y hy=>hf y (List.mem_toArray.mp hy)) (by simpa using h s.toks),
     fun Q E h=>notIn_tupleAt f pl.isTuple (fun y hy=>hf y (List.mem_toArray.mp hy)) (by simpa using h s.toks)⟩
theorem bn.hits{h:Heap}(n:Nat)(A:Around)(s:Shared)(hu:A.units+n<cLine){ys:List (List Nat×AV)}{us:List (Str×Value)}(ry:bn X ρ Z s.heap ys us) :
  ∀(xs:List (List Nat×AV)) (vs:List (Str×Value)) (r:Bool),bn X ρ Z s.heap xs vs→ib (de n) ys xs=some r→KeqHits A s us vs r:=by
 intro xs
 induction xs with
 | nil =>
  intro vs r rx e
  rw[(rx:_=_),← oE e];exact .nil
 | cons kx xs ih =>
  obtain⟨k,x⟩:=kx
  intro vs r rx e
  obtain⟨v,t,q',p,q⟩:=rx
  rw[q']
  unfold ib at e
  rcases ry.look k with ⟨h1,h2⟩ | ⟨y,u,h1,h2,py⟩
  ·rw[h1]at e;rw[← oE e]
   exact .miss h2
  ·rw[h1]at e
   refine aG e fun a ha e=>aG e fun b hb e => ?_
   rw[← oE e]
   exact .hit h2 (qw n A s hu p py ha) (ih t b q hb)
theorem pj(hu0:A.units+20<cLine){a b:AV}{va vb:Value}(ra:aq X ρ Z s.heap a va)(rb:aq X ρ Z s.heap b vb){r:Bool}(e:de 9 a b=some r) :
  (∀Q E,Q (.bool r) s→wpAny (model X.prog X.w) A (compareOp .Eq va vb) Q E s)∧(∀Q E,Q (.bool !r) s→wpAny (model X.prog X.w) A (compareOp .NotEq va vb) Q E s):=by
 have ih:∀{a b:AV} {va vb:Value} {r:Bool},aq X ρ Z s.heap a va→aq X ρ Z s.heap b vb→de 8 a b=some r→EqAt A.in1 s va vb r:=fun p q e=>qw 8 A.in1 s (by show A.units+1+8<cLine;trivial) p q e
 refine ca e ra oN (fun x e => ?_) (fun x t e => ?_) (fun x t e => ?_) (fun x t e => ?_) (fun l a vs ω p q e => ?_) (fun l a vs ω p q e => ?_)
 ·refine fK e rb fun y e => ?_
  rw[← oE e]
  exact⟨fun Q E h=>PyProof.Rows.eq_bool h,fun Q E h=>RcNeAt.bool_bool _ _ X.prog X.w E Q h⟩
 ·refine aQ e rb fun y u e => ?_
  rw[← oE e]
  exact⟨fun Q E h=>PyProof.Rows.eq_int h,fun Q E h=>PyProof.Rows.ne_int h⟩
 ·refine bj e rb fun y u e => ?_
  rw[← oE e,← oJ]
  exact⟨fun Q E h=>PyProof.Rows.eq_str h,fun Q E h=>RcNeAt.str_str _ _ _ _ X.prog X.w E Q h⟩
 ·refine iH e rb fun y u e => ?_
  rw[← oE e]
  exact⟨fun Q E h=>W.eq_bytes (by simpa using h),fun Q E h=>W.ne_bytes (by simpa [bne] using h)⟩
 ·refine kc e rb fun ys b us ω p' q' e => ?_
  refine F5 e (fun hl e => ?_) fun hl e => ?_
  ·have z:=rL (A:=A) (n:=8) (by trivial) ih p p' q q' hl e
   exact⟨fun Q E h=>z.1 X.prog X.w E Q h,fun Q E h=>z.2 X.prog X.w E Q h⟩
  ·have z:=v9 (A:=A) (by trivial) p p' q q' hl
   rw[← oE e]
   exact⟨fun Q E h=>z.1 X.prog X.w E Q h,fun Q E h=>z.2 X.prog X.w E Q h⟩
 ·refine mc e rb fun ys b us ω p' q' e => ?_
  refine aG e fun r' h' e => ?_
  have z:=oM (A:=A) (n:=8) (by trivial) ih p p' q q' h'
  rw[← oE e]
  exact⟨fun Q E h=>z.1 X.prog X.w E Q h,fun Q E h=>z.2 X.prog X.w E Q h⟩
theorem sI(U:kq X k)(c:VC X k A Z ρ σ s){a b:AV}{va vb:Value}(ra:aq X ρ Z s.heap a va)(rb:aq X ρ Z s.heap b vb){r:Bool}(e:lM σ a b=some r) :
  (∀Q E,Q (.bool r) s→wpAny (model X.prog X.w) A (compareOp .Eq va vb) Q E s)∧(∀Q E,Q (.bool !r) s→wpAny (model X.prog X.w) A (compareOp .NotEq va vb) Q E s):=by
 have hu0:A.units+20<cLine:=by have:=c.uni;have:=U.1;trivial
 unfold lM at e
 cases h1:et σ a with
 | none=>rw[h1]at e;exact pj hu0 ra rb e
 | some xs =>
  rw[h1]at e
  cases h2:et σ b with
  | none=>rw[h2]at e;exact pj hu0 ra rb e
  | some ys =>
   rw[h2]at e
   obtain⟨a,vs,q,hs,hd,ql⟩:=eT c.inv ra h1
   obtain⟨b,us,q',hs',hd',ql'⟩:=eT c.inv rb h2
   rw[q,q']
   refine F5 e (fun hl e => ?_) fun hl e => ?_
   ·have hits:=bn.hits (h:=s.heap) 8 A.in1 s (by show A.units+1+8<cLine;trivial) ql' xs vs r ql e
    have hl':(vs.length==us.length)=true:=by rw[← ql.length,← ql'.length,hl];exact beq_self_eq_true _
    exact⟨fun Q E h=>keq_eq hs hs' hd hd' (by trivial) (fun ω=>hits) (by rw[hl',Bool.true_and];exact h),fun Q E h=>keq_ne hs hs' hd hd' (by trivial) (fun ω=>hits) (by rw[hl',Bool.true_and];exact h)⟩
   ·have hl':(vs.length==us.length)=false:=by rw[← ql.length,← ql'.length];exact beq_eq_false_iff_ne.mpr hl
    have no:vs.length=us.length→KeqHits A.in1 s us vs false:=fun q=>absurd ((ql.length.trans q).trans ql'.length.symm) hl
    rw[← oE e]
    exact⟨fun Q E h=>keq_eq hs hs' hd hd' (by trivial) no (by rw[hl',Bool.false_and];exact h),fun Q E h=>keq_ne hs hs' hd hd' (by trivial) no (by rw[hl',Bool.false_and];exact h)⟩
theorem oH{r:Option Bool}{av:AV}{σ':St}{P:Prop}(e:gG r σ=some (av,σ'))(k:∀b,r=some b→some (.bool b,σ)=some (av,σ')→P):P:=aG e k
theorem q9{r:Option Bool}{av:AV}{σ':St}{P:Prop}(e:gG (r.map (!·)) σ=some (av,σ'))(k:∀b,r=some b→some (.bool !b,σ)=some (av,σ')→P):P:=by
 cases r with
 | none=>exact oN e
 | some b=>exact k b rfl e
theorem ss{x y:Bool} : isSame (.bool x) (.bool y)=pure (x==y):=by cases x <;> cases y <;> rfl
theorem sX(U:kq X k)(c:VC X k A Z ρ σ s)(op:CmpOp){a b:AV}{va vb:Value}(ra:aq X ρ Z s.heap a va)(rb:aq X ρ Z s.heap b vb):qR X A Z ρ s (compareOp op va vb) (bW op a b σ):=by
 intro av σ' e Q E p
 cases op
 case Eq=>exact oH e fun r hr e=>(sI U c ra rb hr).1 _ _ ((p.of e).here c.inv (bQ _))
 case NotEq=>exact q9 e fun r hr e=>(sI U c ra rb hr).2 _ _ ((p.of e).here c.inv (bQ _))
 case In=>exact oH e fun r hr e=>(wb U c ra rb hr).1 _ _ fun tk=>(p.of e).tok c.inv (bQ _) tk
 case NotIn=>exact q9 e fun r hr e=>(wb U c ra rb hr).2 _ _ fun tk=>(p.of e).tok c.inv (bQ _) tk
 case Is =>
  refine fK e ra fun x e=>fK e rb fun y e => ?_
  exact wpAny_bind (m:=isSame (.bool x) (.bool y)) (wpAny_of_eq (a:=x==y) ss (wpAny_pure ((p.of e).here c.inv (bQ _))))
 case IsNot =>
  refine fK e ra fun x e=>fK e rb fun y e => ?_
  exact wpAny_bind (m:=isSame (.bool x) (.bool y)) (wpAny_of_eq (a:=x==y) ss (wpAny_pure ((p.of e).here c.inv (bQ _))))
 case Lt =>
  refine aQ e ra fun x ω e=>aQ e rb fun y ω e => ?_
  exact PyProof.Rows.lt_int ((p.of e).here c.inv (bQ _))
 case LtE =>
  refine aQ e ra fun x ω e=>aQ e rb fun y ω e => ?_
  exact PyProof.Rows.le_int ((p.of e).here c.inv (bQ _))
 case Gt =>
  refine aQ e ra fun x ω e=>aQ e rb fun y ω e => ?_
  exact PyProof.Rows.gt_int ((p.of e).here c.inv (bQ _))
 case GtE =>
  refine aQ e ra fun x ω e=>aQ e rb fun y ω e => ?_
  exact PyProof.Rows.ge_int ((p.of e).here c.inv (bQ _))
end
end
section
open SeqAt
noncomputable def slc{α:Type}(l:List α)(lo hi:Option Int):List α :=
 (l.drop (lo.elim 0 (clipAt l.length))).take (hi.elim l.length (clipAt l.length) - lo.elim 0 (clipAt l.length))
theorem tu(lo hi:Option Int)(n:Nat):Builtin.Slice.sliceAdjust lo hi 1 (n:Int)=(((lo.elim 0 (clipAt n):Nat):Int),((hi.elim n (clipAt n):Nat):Int)):=by
 unfold Builtin.Slice.sliceAdjust
 have h1 : ¬ ((1:Int)<0):=by trivial
 simp only[h1,if_false]
 have hc:∀v:Int,(if v<0 then max (v+n) 0 else min v n)=((clipAt n v:Nat):Int):=fun v=>by
  rw[clipAt_cast]
  by_cases h:v<0
  ·rw[if_pos h,if_pos h,Int.min_eq_left (by trivial),Int.max_comm]
  ·rw[if_neg h,if_neg h];exact(Int.max_eq_right (by trivial)).symm
 congr 1
 ·cases lo with
  | none=>rfl
  | some v=>exact hc v
 ·cases hi with
  | none=>rfl
  | some v=>exact hc v
theorem rO(a b:Nat):Builtin.Slice.slicePlaces (a:Int) (b:Int) 1=b - a:=by
 unfold Builtin.Slice.slicePlaces
 have h1:(1:Int)>0:=by trivial
 simp only[h1,if_true,Int.ediv_one]
 split <;> trivial
theorem xo(xs:List Value)(a m:Nat):((List.range m).filterMap fun(k:Nat)=>xs.toArray[((a:Int)+(k:Int) * 1).toNat]?).toArray=((xs.drop a).take m).toArray:=by
 have e:(fun(k:Nat)=>xs.toArray[((a:Int)+(k:Int) * 1).toNat]?)=fun k=>xs.toArray[a+k]? := by
  funext k
  have:((a:Int)+(k:Int) * 1).toNat=a+k:=by trivial
  rw[this]
 rw[e]
 have:=pick_run xs.toArray a m
 rw[List.filterMap_map]at this
 have e2:((fun x=>xs.toArray[x]?) ∘ fun x=>a+x)=fun k=>xs.toArray[a+k]? := rfl
 rw[e2]at this
 rw[this]
section
variable{prog:Program}{w:World}{A:Around}{E:Value→Shared→Prop}{s:Shared}
theorem rR{v:Value}{x:Option Int}(p:IsPart v x){Q:Option Int→Shared→Prop}(h:Q x s):wpAny (model prog w) A (Builtin.Slice.slicePartIndex v) Q E s:=by
 cases p with
 | none=>exact slicePart_none h
 | int i t=>exact slicePart_int h
theorem jD{sl:Addr}{n:Nat}{vl vu:Value}{lo hi:Option Int}{Q:Int×Int×Nat→Shared→Prop}(hs:s.heap.IsSliceOf sl vl vu .none)(pl:IsPart vl lo)(pu:IsPart vu hi)
  (h:Q (((lo.elim 0 (clipAt n):Nat):Int),1,hi.elim n (clipAt n) - lo.elim 0 (clipAt n)) s):wpAny (model prog w) A (Builtin.Slice.sliceApplied (.ref sl) (pure (n:Int))) Q E s:=by
 obtain⟨os,hos,hcs,hds⟩:=id hs
 unfold Builtin.Slice.sliceApplied Builtin.Slice.sliceFields
 refine wpAny_bind (wpAny_bind (wpAny_field hos hds (x:=vl) rfl (wpAny_bind (wpAny_field hos hds (x:=vu) rfl (wpAny_bind (wpAny_field hos hds (x:=.none) rfl (wpAny_pure ?_)))))))
 refine wpAny_bind (slicePart_none ?_)
 show wpAny _ _ (if((1:Int)==0)=true then _ else _) _ _ s
 rw[if_neg (by decide)]
 refine wpAny_bind (rR pl (wpAny_bind (rR pu (wpAny_bind (wpAny_pure ?_)))))
 show wpAny _ _ (match Builtin.Slice.sliceAdjust lo hi 1 (n:Int)with | (lo,hi)=>pure (lo,(1:Int),Builtin.Slice.slicePlaces lo hi 1)) _ _ s
 rw[tu lo hi n]
 show wpAny _ _ (pure (((lo.elim 0 (clipAt n):Nat):Int),(1:Int),Builtin.Slice.slicePlaces ((lo.elim 0 (clipAt n):Nat):Int) ((hi.elim n (clipAt n):Nat):Int) 1)) _ _ s
 rw[rO]
 exact wpAny_pure h
theorem iQ{t sl:Addr}{items:List Value}{vl vu:Value}{lo hi:Option Int}{Q:Value→Shared→Prop}(ht:s.heap.IsTuple t items.toArray)(hs:s.heap.IsSliceOf sl vl vu .none)(pl:IsPart vl lo)(pu:IsPart vu hi)
  (h1:slc items lo hi=items→Q (.ref t) s)
  (h:Q (.ref s.heap.objs.size) { s with heap:=s.heap.push { cls:=.type "tuple",data:=.seq (slc items lo hi).toArray } })
  (hsz:items.length≤sizeLine):wpAny (model prog w) A (getItem (.ref t) (.ref sl)) Q E s:=by
 have hdrop:sizeOk (.seq (slc items lo hi).toArray):=by
  show(slc items lo hi).toArray.size≤sizeLine
  rw[List.size_toArray]
  exact Nat.le_trans (by unfold slc;simp;trivial) hsz
 obtain⟨os,hos,hcs,hds⟩:=id hs
 have hTs:s.TypeIs (.ref sl) "slice" := ⟨os,hos,hcs⟩
 have hts:IsTup s.heap t items.toArray:=by obtain⟨o,e,hc,m,hd⟩:=ht;exact⟨o,e,hc,m,hd⟩
 unfold getItem
 try with_reducible refine wpAny_holding ?_
 first | refine wpAny_bind (wpAny_pure ?_) | skip
 refine wpAny_bind (wpAny_sequenceKey ht.typeIs (by decide) ?_)
 refine wpAny_bind (wpAny_callSpecial?_slot (name:=Str.ofString "__getitem__") ht.typeIs slot_tuple_getitem
  (wpAny_call_entry slot_tuple_getitem ht.typeIs entry_tuple_getitem ?_ (args_tuple_getitem _ _)))
 show wpAny _ _ (Builtin.Tuple.tupleItemsOf (.ref t) >>= _) _ _ s
 refine wpAny_bind (tupleItemsOf_ hts ?_)
 refine wpAny_bind (wpAny_typeOf hTs ?_)
 rw[if_pos (by decide)]
 refine wpAny_bind (jD (n:=items.length) hs pl pu ?_)
 show wpAny _ _ (if((((lo.elim 0 (clipAt items.length):Nat):Int)==0&&(1:Int)==1&&(hi.elim items.length (clipAt items.length) - lo.elim 0 (clipAt items.length))==items.length)=true)then _ else _) _ _ s
 refine wpAny_ite_split (fun hq => ?_) fun ω => ?_
 ·have hq':lo.elim 0 (clipAt items.length)=0∧(hi.elim items.length (clipAt items.length) - lo.elim 0 (clipAt items.length))=items.length:=by simpa using hq
  have h1:=h1 (by unfold slc;rw[hq'.2,hq'.1];simp)
  refine wpAny_bind (wpAny_bind (wpAny_typeOf ht.typeIs (wpAny_pure ?_)))
  rw[if_pos (by decide)]
  exact wpAny_bind (wpAny_rule (wpAny_pure ⟨_,rfl,wpAny_pure h1⟩))
 ·rw[xo]
  first
   | exact wpAny_bind (m:=Builtin.Tuple.tupleExact _) (wpAny_newObj_type (wpAny_pure ⟨_,rfl,wpAny_pure h⟩) hdrop)
   | exact wpAny_bind (m:=Builtin.Tuple.tupleExact _) (wpAny_newObj_type (wpAny_bind (wpAny_pure (wpAny_pure ⟨_,rfl,wpAny_pure h⟩))) hdrop)
   | exact wpAny_bind (wpAny_bind (m:=Builtin.Tuple.tupleExact _) (wpAny_newObj_type (wpAny_pure (wpAny_pure ⟨_,rfl,wpAny_pure h⟩)) hdrop))
   | exact wpAny_bind (wpAny_bind (m:=Builtin.Tuple.tupleExact _) (wpAny_newObj_type (wpAny_pure ⟨_,rfl,wpAny_pure h⟩) hdrop))
end
end
section
open SeqAt
noncomputable def EV(k:Int)(n:Nat):Option Nat :=
 if 0≤k then(if k<n∧k<4611686018427387904 then some k.toNat else none)
 else(if 0≤k+n ∧ -4611686018427387904<k then some (k+n).toNat else none)
noncomputable def Ic(l:List AV)(k:Int)(σ:St):Option (AV×St):=o1 (EV k l.length) fun j=>o1 l[j]? fun x=>some (x,σ)
noncomputable def HS(l:List Nat)(k:Int)(σ:St):Option (AV×St):=o1 (EV k l.length) fun j=>o1 l[j]? fun x=>some (.str [x],σ)
noncomputable def aZ(c i:AV)(σ:St):Option (AV×St) :=
 match cA σ c with
 | some l=>fT i fun k=>Ic l k σ
 | none=>match et σ c with
  | some l=>iI i fun k=>o1 (eM k l) fun x=>some (x,σ)
  | none=>match oG σ c with
   | some l=>fT i fun k=>o1 (f7 k l) fun x=>some (x,σ)
   | none=>Cg c none lH lH (fun l=>fT i fun k=>HS l k σ) lH lH (fun l=>fT i fun k=>Ic l k σ)
noncomputable def lj(a:AV):Option (Option Int):=nR none a (none:=some none) (int:=fun i=>some (some i))
noncomputable def EL{β:Type}(c:AV)(f:List Int→Option β)(g:Option β):Option β:=nR g c (script:=f)
theorem xr{β:Type}{r:β}{c:AV}{f:List Int→Option β}{g:Option β}{P:AV→Prop}(e:EL c f g=some r)(k:∀ns,f ns=some r→P (.script ns))(k':g=some r→P c):P c:=by
 cases c with
 | script ns=>exact k ns e
 | _=>exact k' e
noncomputable def ci(c lo hi st:AV)(σ:St):Option (AV×St):=o1 (lj lo) fun l=>o1 (lj hi) fun h=>o1 (lj st) fun s =>
 match cA σ c with
 | some xs=>if s=none&&dX xs.length then some (.list (slc xs l h),σ)else none
 | none=>EL c (fun ns=>if ¬ s=some 0 then if dX ns.length then some (.list ((pickNums ns l h s).map .int),σ)else none else none)
  (Cg c none lH lH (fun x=>if s=none&&dX x.length then some (.str (slc x l h),σ)else none) lH lH (fun xs=>if s=none&&dX xs.length then some (.tup (slc xs l h),σ)else none))
section
variable{X:Cx}{k:Nat}{A:Around}{Z:Addr→Prop}{ρ:List Addr}{σ:St}{s:Shared}{Q:Value→Shared→Prop}{E:Value→Shared→Prop}
theorem wB{k:Int}{n j:Nat}{P:Prop}(e:EV k n=some j)(h1:0≤k→k<n→k<4611686018427387904→k.toNat=j→P)(h2 : ¬ 0≤k→0≤k+n → -4611686018427387904<k→(k+n).toNat=j→P):P :=
 F5 e (fun h0 e=>dh e fun h e=>h1 h0 h.1 h.2 (oE e)) fun h0 e=>dh e fun h e=>h2 h0 h.1 h.2 (oE e)
theorem wz{k:Int}{n j:Nat}(e:EV k n=some j):seqIndex? k n=some j ∧ -4611686018427387904<k∧k<4611686018427387904:=by
 refine wB e (fun h0 h1 h2 h3 => ?_) fun h0 h1 h2 h3 => ?_
 ·unfold seqIndex?
  dsimp only
  rw[if_neg (show ¬ k<0 by trivial),if_pos (by simp;trivial),h3]
  exact⟨rfl,by trivial,h2⟩
 ·unfold seqIndex?
  dsimp only
  rw[if_pos (show k<0 by trivial),if_pos (by simp;trivial),h3]
  exact⟨rfl,h2,by trivial⟩
noncomputable def vS(X:Cx)(A:Around)(Z:Addr→Prop)(ρ:List Addr)(s:Shared)(va vi:Value)(av:AV)(σ':St):Prop :=
 (∃T id,s.TypeIs va T∧typeLookup (.type T) "__getitem__" = pure (some (.builtin id)))∧∀Q E,cH X Z ρ s av σ' Q→wpAny (model X.prog X.w) A (getItem va vi) Q E s
theorem xt(c:VC X k A Z ρ σ s){a i:AV}{va vi:Value}(ra:aq X ρ Z s.heap a va)(ri:aq X ρ Z s.heap i vi):∀av σ',aZ a i σ=some (av,σ')→vS X A Z ρ s va vi av σ':=by
 intro av σ' e
 unfold aZ at e
 cases hl:cA σ a with
 | some l =>
  rw[hl]at e
  obtain⟨a,vs,q,pl,ql⟩:=b7 c.inv ra hl
  rw[q]
  refine aQ e ri fun k' t e=>aG e fun j hj e=>aG e fun x hx e => ?_
  obtain⟨v,hv,rv⟩:=ql.get hx
  rw[ql.length]at hj
  refine⟨⟨"list",_,pl.isList.typeIs,slot_list_getitem.lookup⟩,fun Q E p => ?_⟩
  refine wB hj (fun h0 h1 h2 h3 => ?_) fun h0 h1 h2 h3 => ?_
  ·rw[← h3]at hv
   exact wpAny_getItem_list pl.isList h0 (by trivial) (by simpa using hv) ((p.of e).here c.inv rv)
  ·rw[← h3]at hv
   exact wpAny_getItem_list_neg pl.isList (by trivial) (by simp;trivial) (by trivial) (by simpa using hv) ((p.of e).here c.inv rv)
 | none =>
  rw[hl]at e
  cases hl:et σ a with
  | some l =>
   rw[hl]at e
   obtain⟨a,vs,q,hs,hd,ql⟩:=eT c.inv ra hl
   rw[q]
   refine bj e ri fun k' t e=>aG e fun x hx e => ?_
   rcases ql.look k' with ⟨h1,h2⟩ | ⟨x',v,h1,h2,rv⟩
   ·rw[hx]at h1;cases h1
   ·rw[← oE (hx.symm.trans h1)]at rv
    exact⟨⟨"dict",_,hd.typeIs,slot_dict_getitem.lookup⟩,fun Q E p=>wpAny_getItem_of (strKind_is ..) hd.mapOf h2 ((p.of e).tok c.inv rv _)⟩
  | none =>
   rw[hl]at e
   cases hl:oG σ a with
   | some l =>
    rw[hl]at e
    obtain⟨a,vs,q,hs,hd,ql⟩:=mj c.inv ra hl
    rw[q]
    refine aQ e ri fun k' t e=>aG e fun x hx e => ?_
    rcases ql.look k' with ⟨h1,h2⟩ | ⟨x',v,h1,h2,rv⟩
    ·rw[hx]at h1;cases h1
    ·rw[← oE (hx.symm.trans h1)]at rv
     exact⟨⟨"dict",_,hd.typeIs,slot_dict_getitem.lookup⟩,fun Q E p=>wpAny_getItem_of (intKind_is ..) hd.mapOf h2 ((p.of e).tok c.inv rv _)⟩
   | none =>
    rw[hl]at e
    refine ca e ra oN (fun ω=>oN) (fun ω ω=>oN) (fun l u e => ?_) (fun ω ω=>oN) (fun ω ω ω ω ω ω=>oN) (fun l a vs ω pl ql e => ?_)
    ·refine aQ e ri fun k' t e=>aG e fun j hj e=>aG e fun x hx e => ?_
     obtain⟨h1,h2,h3⟩:=wz hj
     refine⟨⟨"str",_,typeIs_str ..,PyProof.Rows.slot_str_getitem.lookup⟩,fun Q E p=>PyProof.Rows.getItem_str (c:=x) (by simp;trivial) ?_ ((p.of e).tok c.inv (dz rfl _) _)⟩
     rw[aF,h1]
     simpa [aj] using hx
    ·refine aQ e ri fun k' t e=>aG e fun j hj e=>aG e fun x hx e => ?_
     obtain⟨v,hv,rv⟩:=ql.get hx
     rw[ql.length]at hj
     obtain⟨h1,h2,h3⟩:=wz hj
     exact⟨⟨"tuple",_,pl.isTuple.typeIs,PyProof.Rows.slot_tuple_getitem.lookup⟩,fun Q E p=>PyProof.Rows.getItem_tuple pl.isTuple (by trivial) (by trivial) h1 (by simpa using hv) ((p.of e).here c.inv rv)⟩
theorem pZ{a:AV}{v:Value}{x:Option Int}(r:aq X ρ Z s.heap a v)(e:lj a=some x):IsPart v x∧∃p:Option (Int×Tok),v=partValue p∧p.map (·.1)=x:=by
 cases a with
 | none=>rw[(r:_=_),← oE e];exact⟨.none,none,rfl,rfl⟩
 | int i=>obtain⟨t,r⟩:=r;rw[r,← oE e];exact⟨.int _ _,some (_,t),rfl,rfl⟩
 | _=>exact oN e
theorem pR(n:Nat)(lo hi:Option Int):Builtin.Str.strSliceIndices lo hi 1 n=(List.range (hi.elim n (clipAt n) - lo.elim 0 (clipAt n))).map (lo.elim 0 (clipAt n) + ·):=by
 have e:Builtin.Str.strSliceIndices lo hi 1 n=sliceRange (sliceBounds lo hi none n).1 (sliceBounds lo hi none n).2.1 1:=by
  cases lo <;> cases hi <;> simp[Builtin.Str.strSliceIndices,sliceBounds]
 rw[e,sliceBounds_plain]
 dsimp only
 rw[sliceRange_one]
theorem mA(x:List Nat)(lo hi:Option Int):(Builtin.Str.strSliceIndices lo hi 1 x.length).filterMap (x[·]?)=slc x lo hi:=by
 have e:Builtin.Str.strSliceIndices lo hi 1 x.length=sliceRange (sliceBounds lo hi none x.length).1 (sliceBounds lo hi none x.length).2.1 1:=by
  cases lo <;> cases hi <;> simp[Builtin.Str.strSliceIndices,sliceBounds]
 rw[e,sliceBounds_plain]
 dsimp only
 rw[sliceRange_one]
 unfold slc
 generalize lo.elim 0 (clipAt x.length)=a
 generalize hi.elim x.length (clipAt x.length)=b
 rw[List.filterMap_map]
 clear e lo hi
 show List.filterMap (fun j=>x[a+j]?) (List.range (b - a))=_
 generalize b - a=n
 rw[show(fun j=>x[a+j]?)=fun j=>(x.drop a)[j]? from by funext j;rw[List.getElem?_drop]]
 generalize x.drop a=y
 clear x
 induction n with
 | zero=>simp
 | succ n ih =>
  rw[List.range_succ,List.filterMap_append,ih]
  rw[List.take_add_one]
  congr 1
theorem nW{α:Type}(l:List α)(lo hi:Option Int):(slc l lo hi).length≤l.length:=by
 unfold slc;rw[List.length_take,List.length_drop];exact Nat.le_trans (Nat.min_le_right _ _) (Nat.sub_le _ _)
theorem ag.slc{h:Heap}{l:List AV}{vs:List Value}(r:ag X ρ Z h l vs)(lo hi:Option Int):ag X ρ Z h (slc l lo hi) (Mine.slc vs lo hi):=by
 unfold Mine.slc;rw[r.length];exact(r.drop _).take _
theorem tP{h:Heap} : ∀{vs:List Value} {ns:List Int},IntsAre vs ns→ag X ρ Z h (ns.map .int) vs:=by
 intro vs ns r
 induction r with
 | nil=>exact ag.nil_iff.mpr rfl
 | cons n t r ih=>exact ag.cons (bw ..) ih
theorem CW{x:List Nat}{l h:Option Int}(h2:x.length=h.elim x.length (clipAt x.length) - l.elim 0 (clipAt x.length)):slc x l h=x:=by
 unfold slc
 have e1:h.elim x.length (clipAt x.length)≤x.length:=by
  cases h with
  | none=>exact Nat.le_refl _
  | some i=>show clipAt x.length i≤_;unfold clipAt;omega
 rw[← h2]
 have q:l.elim 0 (clipAt x.length)=0∨x.length=0:=by omega
 rcases q with q | q
 ·rw[q];simp
 ·rw[List.eq_nil_of_length_eq_zero q];simp
theorem xe(c:VC X k A Z ρ σ s){x:List Nat}{t:Tok}{sl:Addr}{l h:Option Int}{xl xu xs:Option (Int×Tok)}(hsz:dX x.length=true)(hsl:s.heap.IsSlice sl xl xu xs)(ml:xl.map (·.1)=l)(mu:xu.map (·.1)=h)(ms:xs.map (·.1)=none)
  (p:cH X Z ρ s (.str (slc x l h)) σ Q):wpAny (model X.prog X.w) A (getItem (.str (aj x) t) (.ref sl)) Q E s:=by
 refine wpAny_getItem_str_slice hsl (by rw[ms];rfl) ?_
 have hp:slicePicked (aj x) xl xu xs=Builtin.Str.strSliceIndices l h 1 x.length:=by
  unfold slicePicked
  rw[ml,mu,ms,aF];rfl
 have hq:(slicePicked (aj x) xl xu xs).filterMap ((aj x).cps[·]?)=slc x l h:=by
  rw[hp,← mA]
  simp[aj]
 unfold sliceMade
 split
 ·rename_i hw
  have h2:=(Bool.and_eq_true_iff.mp hw).2
  rw[hp,aF,pR,List.length_map,List.length_range]at h2
  rw[CW (eq_of_beq h2).symm]at p
  exact p.here c.inv (df ..)
 ·rw[hq]
  refine⟨?_,p.tok c.inv (dz rfl _) _⟩
  show(List.toArray _).size≤sizeLine
  rw[List.size_toArray]
  exact Nat.le_trans (nW ..) (bM hsz)
theorem nH{s:Option Int}{b:Bool}(h:(decide (s=none)&&b)=true):s=none∧b=true:=⟨of_decide_eq_true (Bool.and_eq_true_iff.mp h).1,(Bool.and_eq_true_iff.mp h).2⟩
theorem uC(c:VC X k A Z ρ σ s){a lo hi st:AV}{va vl vu vs:Value}(ra:aq X ρ Z s.heap a va)(rl:aq X ρ Z s.heap lo vl)(ru:aq X ρ Z s.heap hi vu)(rs:aq X ρ Z s.heap st vs)
  {sl:Addr} (hsl:s.heap.IsSliceOf sl vl vu vs):∀av σ',ci a lo hi st σ=some (av,σ')→vS X A Z ρ s va (.ref sl) av σ':=by
 intro av σ' e
 refine aG e fun l hl e=>aG e fun h hh e=>aG e fun s' hs e => ?_
 obtain⟨pl,xl,el,ml⟩:=pZ rl hl
 obtain⟨pu,xu,eu,mu⟩:=pZ ru hh
 obtain⟨ps,xs,es,ms⟩:=pZ rs hs
 cases hy:cA σ a with
 | some ys =>
  rw[hy]at e
  refine dh e fun h0 e => ?_
  obtain⟨h0,hsz⟩:=nH h0
  rw[h0]at ps
  obtain⟨a,ws,q,gX,ql⟩:=b7 c.inv ra hy
  rw[q]
  refine⟨⟨"list",_,gX.isList.typeIs,slot_list_getitem.lookup⟩,fun Q E p => ?_⟩
  refine wpAny_getItem_list_slice gX.isList hsl pl pu ps (fun q=>nomatch q) ?_ (by rw[List.size_toArray,← ql.length];exact bM hsz)
  rw[slicePick_plain]
  have z:=(p.of e).newList c.inv (vs:=slc ws l h) (ql.slc l h) (tk:=s.toks)
  simpa [slc] using z
 | none =>
  rw[hy]at e
  refine xr (P:=fun a=>aq X ρ Z s.heap a va→vS X A Z ρ s va (.ref sl) av σ') e (fun ns e ra => ?_) (fun e ra => ?_) ra
  ·refine dh e fun h0 e=>dh e fun hsz e => ?_
   obtain⟨a,ws,q,hli,hi⟩:=ra
   rw[q]
   have hli':s.heap.IsList a ws.toArray:=by obtain⟨o,ho,r⟩:=hli;exact⟨o,c.inv.base _ _ ho,r⟩
   refine⟨⟨"list",_,hli'.typeIs,slot_list_getitem.lookup⟩,fun Q E p => ?_⟩
   refine wpAny_getItem_list_slice hli' hsl pl pu ps h0 ?_ (by rw[List.size_toArray,hi.length];exact bM hsz)
   exact(p.of e).newList c.inv (vs:=(slicePick ws.toArray l h s').toList) (tP (hi.pick l h s')) (tk:=s.toks)
  ·refine ca e ra oN (fun ω=>oN) (fun ω ω=>oN) (fun x t e => ?_) (fun ω ω=>oN) (fun ω ω ω ω ω ω=>oN) (fun xs b ws hf pt q e => ?_)
   ·refine dh e fun h0 e => ?_
    obtain⟨h0,hsz⟩:=nH h0
    rw[el,eu,es]at hsl
    exact⟨⟨"str",_,typeIs_str ..,PyProof.Rows.slot_str_getitem.lookup⟩,fun Q E p=>xe c hsz hsl ml mu (ms.trans h0) (p.of e)⟩
   ·refine dh e fun h0 e => ?_
    obtain⟨h0,hsz⟩:=nH h0
    rw[h0]at ps
    have hvs:vs=.none:=by cases ps;rfl
    rw[hvs]at hsl
    refine⟨⟨"tuple",_,pt.isTuple.typeIs,slot_tuple_getitem.lookup⟩,fun Q E p => ?_⟩
    replace p:=p.of e
    refine iQ pt.isTuple hsl pl pu (fun hq => ?_) ?_ (by rw[← q.length];exact bM hsz)
    ·refine p.here c.inv (gQ hf pt ?_)
     have z:=q.slc l h
     rw[hq]at z;exact z
    ·exact p.newTup c.inv (q.slc l h) (tk:=s.toks)
end
end
section
open SeqAt
abbrev MT:=be→St→Option (Bool×St)
abbrev ML:=be→St→Option (List AV×St)
noncomputable def kE(X:Cx)(Z:Addr→Prop)(ρ:List Addr)(s:Shared)(σ':St)(Q:Shared→Prop):Prop :=
 ∀Z' ρ' s',bL X Z' ρ' σ' s'→a9 T0 Z ρ s Z' ρ' s'→Q s'
noncomputable def wW(X:Cx)(Z:Addr→Prop)(ρ:List Addr)(s:Shared)(l:List AV)(σ':St)(Q:List Value→Shared→Prop):Prop :=
 ∀Z' ρ' vs s',bL X Z' ρ' σ' s'→a9 T0 Z ρ s Z' ρ' s'→ag X ρ' Z' s'.heap l vs→Q vs s'
structure EC(X:Cx)(k:Nat)(sc:Scope)(vis:List (Str×Nat))(A:Around)(env:Env)(Z:Addr→Prop)(ρ:List Addr)(σ:St)(η:be)(s:Shared):Prop where
 c:VC X k A Z ρ σ s
 sc:env.scope=sc
 e:aU X Z ρ s.heap env vis η
 top:env.scope.names.lookup (".0" : Str)=none→∃outer,A.frames=some (env::outer)
theorem EC.next{X k sc vis A env Z ρ σ η s Z' ρ' σ' s'}(c:EC X k sc vis A env Z ρ σ η s)(i:bL X Z' ρ' σ' s')(y:a9 T0 Z ρ s Z' ρ' s'):EC X k sc vis A env Z' ρ' σ' η s' :=
 ⟨c.c.next i y,c.sc,c.e.ext y,c.top⟩
structure bu(X:Cx)(k:Nat)(sc:Scope)(vis:List (Str×Nat))(e:Expr)(m:ME):Prop where
 run:∀A env Z ρ σ η s,EC X k sc vis A env Z ρ σ η s→∀av σ',m η σ=some (av,σ')→∀Q E,cH X Z ρ s av σ' Q→wpAny (model X.prog X.w) A (eval e env) Q E s
structure nM(X:Cx)(k:Nat)(sc:Scope)(vis:List (Str×Nat))(e:Expr)(m:MT):Prop where
 run:∀A env Z ρ σ η s,EC X k sc vis A env Z ρ σ η s→∀b σ',m η σ=some (b,σ')→∀Q E,kE X Z ρ s σ' (Q b)→wpAny (model X.prog X.w) A (isTrue e env (eval e env)) Q E s
structure jt(X:Cx)(k:Nat)(sc:Scope)(vis:List (Str×Nat))(op:BoolOp)(es:List Expr)(m:MT):Prop where
 run:∀A env Z ρ σ η s,EC X k sc vis A env Z ρ σ η s→∀b σ',m η σ=some (b,σ')→∀Q E,kE X Z ρ s σ' (Q b)→wpAny (model X.prog X.w) A (allTrue op es env) Q E s
structure iT(X:Cx)(k:Nat)(sc:Scope)(vis:List (Str×Nat))(es:List Expr)(m:ML):Prop where
 run:∀A env Z ρ σ η s pos,EC X k sc vis A env Z ρ σ η s→∀l σ',m η σ=some (l,σ')→∀Q E,wW X Z ρ s l σ' Q→wpAny (model X.prog X.w) A (spliced (backTo pos (starEach es env))) Q E s
theorem cH.pass{X Z ρ s av σ' Q Z' ρ' s'}(p:cH X Z ρ s av σ' Q)(y:a9 T0 Z ρ s Z' ρ' s'):cH X Z' ρ' s' av σ' Q:=p.trans y
theorem kE.pass{X Z ρ s σ' Q Z' ρ' s'}(p:kE X Z ρ s σ' Q)(y:a9 T0 Z ρ s Z' ρ' s'):kE X Z' ρ' s' σ' Q:=fun Z'' ρ'' s'' i e=>p Z'' ρ'' s'' i (y.trans e)
theorem kE.of{X Z ρ s}{Q:Bool→Shared→Prop}{a b:Bool}{σ σ':St}(p:kE X Z ρ s σ (Q a))(e:some (b,σ')=some (a,σ)):kE X Z ρ s σ' (Q b):=by
 have h:=Option.some.inj e
 rw[show a=b from congrArg Prod.fst h.symm,show σ=σ' from congrArg Prod.snd h.symm]at p;exact p
theorem wW.of{X Z ρ s Q}{a b:List AV}{σ σ':St}(p:wW X Z ρ s a σ Q)(e:some (b,σ')=some (a,σ)):wW X Z ρ s b σ' Q:=by
 have h:=Option.some.inj e
 rw[show a=b from congrArg Prod.fst h.symm,show σ=σ' from congrArg Prod.snd h.symm]at p;exact p
noncomputable def mK(a:AV):ME:=fun ω σ=>some (a,σ)
noncomputable def uU(a:AV):Bool:=nR false a (dk:=true)
noncomputable def Ib(v:AV)(σ:St):Option (AV×St):=cond (uU v) none (some (v,σ))
noncomputable def mV(i:Nat):ME:=fun η σ=>o1 η[i]? fun v=>Ib v σ
section
variable{X:Cx}{k:Nat}{sc:Scope}{vis:List (Str×Nat)}
theorem ar(i:Int)(kd pos):bu X k sc vis (.Constant (.int i) kd pos) (mK (.int i)):=by
 refine⟨?_⟩
 intro A env Z ρ σ η s c av σ' e Q E p
 replace p:=p.of e
 exact wpAny_Constant_int (p.tok c.c.inv (bw ..) _)
theorem bh(x:Str)(l:List Nat)(kd pos)(e:x=aj l:=by decide +kernel):bu X k sc vis (.Constant (.str x) kd pos) (mK (.str l)):=by
 refine⟨?_⟩
 intro A env Z ρ σ η s c av σ' e' Q E p
 replace p:=p.of e'
 exact wpAny_Constant_str (p.tok c.c.inv (dz e _) _)
theorem eD(b:Bool)(kd pos):bu X k sc vis (.Constant (.bool b) kd pos) (mK (.bool b)):=by
 refine⟨?_⟩
 intro A env Z ρ σ η s c av σ' e' Q E p
 replace p:=p.of e'
 exact wpAny_Constant_bool (p.here c.c.inv (bQ b))
theorem Gn{v av:AV}{σ σ':St}(e:Ib v σ=some (av,σ')):v=av∧av≠.unbound∧σ'=σ:=by
 unfold Ib at e
 cases h:uU v with
 | true=>rw[h]at e;exact oN e
 | false =>
  rw[h]at e
  have e:=Option.some.inj e
  have e1:v=av:=congrArg Prod.fst e
  exact⟨e1,fun q=>by rw[e1,q]at h;exact Bool.noConfusion h,(congrArg Prod.snd e).symm⟩
theorem qo{i:Nat}{η:be}{σ σ':St}{av:AV}(e:mV i η σ=some (av,σ')):η[i]? = some av∧av≠.unbound∧σ'=σ :=
 aG e fun v hv e=>have h:=Gn e;⟨h.1 ▸ hv,h.2⟩
noncomputable def xG(sc:Scope)(vis:List (Str×Nat))(x:Str)(i:Nat)(q:NameKind):Bool:=decide (vis.lookup x=some i)&&(decide (sc.names.lookup x=some q) && !(x==("__debug__" : Str)))
theorem jR{x:Str}{i:Nat}{q:NameKind}(h:xG sc vis x i q=true):vis.lookup x=some i∧sc.names.lookup x=some q∧(x==("__debug__" : Str))=false :=
 have a:=Bool.and_eq_true_iff.mp h
 have b:=Bool.and_eq_true_iff.mp a.2
 ⟨of_decide_eq_true a.1,of_decide_eq_true b.1,(Bool.not_eq_true' _).mp b.2⟩
noncomputable def sA(sc:Scope)(x:Str):Bool:=decide (sc.names.lookup x=some .globalImplicit) && !(x==("__debug__" : Str))
theorem jT{x:Str}(h:sA sc x=true):sc.names.lookup x=some .globalImplicit∧(x==("__debug__" : Str))=false :=
 have a:=Bool.and_eq_true_iff.mp h
 ⟨of_decide_eq_true a.1,(Bool.not_eq_true' _).mp a.2⟩
theorem ac(x:Str)(pos)(i:Nat)(hh:xG sc vis x i .local=true:=by decide +kernel) :
  bu X k sc vis (.Name x pos) (mV i):=by
 obtain⟨hv,hk,hd⟩:=jR hh
 refine⟨?_⟩
 intro A env Z ρ σ η s c av σ' e Q E p
 obtain⟨h1,h2,h3⟩:=qo e
 rw[h3]at p
 obtain⟨m,hn,hm⟩:=c.e.ns
 have hk':env.kindOf x=some .local:=by unfold Env.kindOf;rw[c.sc];exact hk
 rcases hm x i av hv hk' h1 with q | ⟨v,e1,r⟩
 ·exact absurd q h2
 ·exact wpAny_Name (wpAny_loadName_local c.e.kind hk' hn e1 (p.here c.c.inv r)) hd
theorem ai(x:Str)(pos)(i:Nat)(hh:xG sc vis x i .cell=true:=by decide +kernel) :
  bu X k sc vis (.Name x pos) (mV i):=by
 obtain⟨hv,hk,hd⟩:=jR hh
 refine⟨?_⟩
 intro A env Z ρ σ η s c av σ' e Q E p
 obtain⟨h1,h2,h3⟩:=qo e
 rw[h3]at p
 have hk':env.kindOf x=some .cell:=by unfold Env.kindOf;rw[c.sc];exact hk
 obtain⟨a,w,ha,hw,hm⟩:=c.e.cel x i hv (.inl hk')
 rcases hm av h1 with q | ⟨v,hv,r⟩
 ·exact absurd q h2
 rw[hv]at hw
 exact wpAny_Name (wpAny_loadName_cell c.e.kind hk' ha hw (p.here c.c.inv r)) hd
noncomputable def bF(op:Operator)(a b:AV)(σ:St):Option (AV×St):=match op with
 | .Add=>ER a b σ
 | .Sub=>EM a b σ
 | .Mult=>EO a b σ
 | .FloorDiv=>EQ a b σ
 | .Mod=>EP a b σ
 | .Pow=>EN a b σ
 | _=>none
theorem BM{k A Z ρ σ s}(c:VC X k A Z ρ σ s)(op:Operator){a b:AV}{va vb:Value}(ra:aq X ρ Z s.heap a va)(rb:aq X ρ Z s.heap b vb):qR X A Z ρ s (binaryOp op va vb) (bF op a b σ):=by
 cases op <;> unfold bF <;> dsimp only
 case Add=>exact Af c ra rb
 case Sub=>exact Aa c ra rb
 case Mult=>exact Ac c ra rb
 case FloorDiv=>exact Ae c ra rb
 case Mod=>exact Ad c ra rb
 case Pow=>exact Ab c ra rb
 all_goals (intro av σ' e;cases e)
noncomputable def ap(op:Operator)(m n:ME):ME:=fun η σ=>oB (m η σ) fun a σ=>oB (n η σ) fun b σ=>bF op a b σ
noncomputable def xD(op:CmpOp)(m n:ME):ME:=fun η σ=>oB (m η σ) fun a σ=>oB (n η σ) fun b σ=>bW op a b σ
theorem az{op:Operator}{l r:Expr}{pos}{m n:ME}(hl:bu X k sc vis l m)(hr:bu X k sc vis r n):bu X k sc vis (.BinOp l op r pos) (ap op m n):=by
 refine⟨?_⟩
 intro A env Z ρ σ η s c av σ' e Q E p
 refine aD e fun a σ₁ h1 e => ?_
 refine aD e fun b σ₂ h2 e => ?_
 refine wpAny_BinOp (hl.run A env Z ρ σ η s c _ _ h1 _ _ fun Z₁ ρ₁ v₁ s₁ i₁ y₁ r₁=>hr.run A env Z₁ ρ₁ σ₁ η s₁ (c.next i₁ y₁) _ _ h2 _ _ fun Z₂ ρ₂ v₂ s₂ i₂ y₂ r₂ => ?_)
 exact BM ((c.next i₁ y₁).next i₂ y₂).c op (r₁.ext y₂) r₂ _ _ e _ _ ((p.pass y₁).pass y₂)
theorem GY(U:kq X k){op:CmpOp}{l r:Expr}{pos}{m n:ME}(hl:bu X k sc vis l m)(hr:bu X k sc vis r n)(hm:behindInMarks op r=false:=by rfl):bu X k sc vis (.Compare l [op] [r] pos) (xD op m n):=by
 refine⟨?_⟩
 intro A env Z ρ σ η s c av σ' e Q E p
 refine aD e fun a σ₁ h1 e => ?_
 refine aD e fun b σ₂ h2 e => ?_
 refine wpAny_Compare1 (hl.run A env Z ρ σ η s c _ _ h1 _ _ fun Z₁ ρ₁ v₁ s₁ i₁ y₁ r₁=>hr.run A env Z₁ ρ₁ σ₁ η s₁ (c.next i₁ y₁) _ _ h2 _ _ fun Z₂ ρ₂ v₂ s₂ i₂ y₂ r₂ => ?_) hm
 exact sX U ((c.next i₁ y₁).next i₂ y₂).c op (r₁.ext y₂) r₂ _ _ e _ _ ((p.pass y₁).pass y₂)
noncomputable def kX(σ:St)(a:AV):Option Bool:=match cA σ a with
 | some l=>if dX l.length then some (!l.isEmpty)else none
 | none=>match a with
  | .mtch _=>some true
  | _=>Cg a (some false) some (fun i=>some (i != 0)) (fun x=>if dX x.length then some (!x.isEmpty)else none) lH lH (fun l=>if dX l.length then some (!l.isEmpty)else none)
theorem lJ:typeLookup (.type "re.Match") "__bool__" = pure none:=by rw[typeLookup_type,builtinLookup_eq_fast];kernel_rfl
theorem mS:typeLookup (.type "re.Match") "__len__" = pure none:=by rw[typeLookup_type,builtinLookup_eq_fast];kernel_rfl
theorem rq{prog:Program}{w:World}{A:Around}{E:Value→Shared→Prop}{s:Shared}{a:Addr}{Q:Bool→Shared→Prop}(hT:s.TypeIs (.ref a) "re.Match")(h:Q true s):wpAny (model prog w) A (truthy (.ref a)) Q E s:=by
 unfold truthy
 first
  | refine wpAny_bind (wpAny_callSpecial?_none (name:=Str.ofString "__bool__") hT lJ ?_)
  | refine wpAny_bind (wpAny_pure (wpAny_bind (wpAny_callSpecial?_none (name:=Str.ofString "__bool__") hT lJ ?_)))
 first
  | refine wpAny_bind (wpAny_specialOf (name:=Str.ofString "__len__") hT mS ?_)
  | refine wpAny_bind (wpAny_pure (wpAny_bind (wpAny_specialOf (name:=Str.ofString "__len__") hT mS ?_)))
 exact wpAny_pure h
theorem sN{l:List AV}{vs:List Value}{Z ρ h}(r:ag X ρ Z h l vs):vs.toArray.isEmpty=l.isEmpty:=by
 cases l with
 | nil=>rw[ag.nil_iff.mp r];rfl
 | cons x l=>obtain⟨v,t,q,_⟩:=ag.cons_iff.mp r;rw[q];rfl
theorem w3{k A Z ρ σ s}(c:VC X k A Z ρ σ s){a:AV}{va:Value}(ra:aq X ρ Z s.heap a va){b:Bool}
  (e:Cg a (some false) some (fun i=>some (i != 0)) (fun x=>if dX x.length then some (!x.isEmpty)else none) lH lH (fun l=>if dX l.length then some (!l.isEmpty)else none)=some b) {Q E} (h:∀tk,Q b { s with toks:=tk }) :
  wpAny (model X.prog X.w) A (truthy va) Q E s:=by
 refine ca e ra (fun e => ?_) (fun x e => ?_) (fun x t e => ?_) (fun x t e => ?_) (fun ω ω=>oN) (fun ω ω ω ω ω ω=>oN) (fun l a vs ω pl ql e => ?_)
 ·rw[← oE e]at h;exact PyProof.Rows.truthy_none (h s.toks)
 ·rw[← oE e]at h;exact wpAny_truthy_bool (h s.toks)
 ·rw[← oE e]at h;exact PyProof.Rows.truthy_int (h s.toks)
 ·refine dh e fun hz e => ?_
  have:=dm hz
  refine PySem.P.truthy_str (by rw[aF];trivial) ?_
  rw[aF]
  have:((x.length:Int) != 0) = !x.isEmpty:=by
   cases x with
   | nil=>rfl
   | cons=>simp;trivial
  rw[this,oE e];exact h _
 ·refine dh e fun hz e => ?_
  have:=dm hz
  refine PyProof.Rows.truthy_tuple pl.isTuple (by simp[← ql.length];trivial) ?_
  rw[sN ql,oE e];exact h _
theorem w5{k A Z ρ σ s}(c:VC X k A Z ρ σ s){a:AV}{va:Value}(ra:aq X ρ Z s.heap a va){b:Bool}(e:kX σ a=some b){Q E}(h:∀tk,Q b { s with toks:=tk }) :
  wpAny (model X.prog X.w) A (truthy va) Q E s:=by
 unfold kX at e
 cases hl:cA σ a with
 | some l =>
  rw[hl]at e
  refine dh e fun hz e => ?_
  obtain⟨a,vs,q,pl,ql⟩:=b7 c.inv ra hl
  have:=dm hz
  rw[q]
  refine wpAny_truthy_list pl.isList (by simp[← ql.length];trivial) ?_
  rw[sN ql,oE e];exact h _
 | none =>
  rw[hl]at e
  cases a with
  | mtch g =>
   rw[← oE e]at h
   obtain⟨b,sp,mo,so,q,_,_,ho,_,hm⟩:=ra
   obtain⟨_,_,_,_,_,_,_,_,_,hq,_⟩:=hm
   rw[q];rw[hq]at ho
   exact rq ⟨_,ho,rfl⟩ (h _)
  | _=>exact w3 c ra e h
noncomputable def aW(op:CmpOp)(m n:ME):MT:=fun η σ=>oB (xD op m n η σ) fun a σ=>Ei a fun b=>some (b,σ)
noncomputable def gS(m:ME):MT:=fun η σ=>oB (m η σ) fun a σ=>o1 (kX σ a) fun b=>some (b,σ)
noncomputable def rt(t:MT):MT:=fun η σ=>oB (t η σ) fun b σ=>some (!b,σ)
noncomputable def eC(t u:MT):MT:=fun η σ=>oT (t η σ) (fun σ=>u η σ) (fun σ=>some (false,σ))
noncomputable def tJ(t u:MT):MT:=fun η σ=>oT (t η σ) (fun σ=>some (true,σ)) (fun σ=>u η σ)
noncomputable def tK(b:Bool):MT:=fun ω σ=>some (b,σ)
noncomputable def hK(t:MT)(m n:ME):ME:=fun η σ=>oT (t η σ) (fun σ=>m η σ) (fun σ=>n η σ)
theorem bk(U:kq X k){op:CmpOp}{l r:Expr}{pos}{m n:ME}(hl:bu X k sc vis l m)(hr:bu X k sc vis r n)(hm:behindInMarks op r=false:=by rfl):nM X k sc vis (.Compare l [op] [r] pos) (aW op m n):=by
 refine⟨?_⟩
 intro A env Z ρ σ η s c b σ' e Q E p
 refine aD e fun b' σ₃ h3 e => ?_
 refine aD h3 fun a σ₁ h1 h3 => ?_
 refine aD h3 fun b σ₂ h2 h3 => ?_
 refine wpAny_isTrue_Compare1 (hl.run A env Z ρ σ η s c _ _ h1 _ _ fun Z₁ ρ₁ v₁ s₁ i₁ y₁ r₁=>hr.run A env Z₁ ρ₁ σ₁ η s₁ (c.next i₁ y₁) _ _ h2 _ _ fun Z₂ ρ₂ v₂ s₂ i₂ y₂ r₂ => ?_) hm
 refine sX U ((c.next i₁ y₁).next i₂ y₂).c op (r₁.ext y₂) r₂ _ _ h3 _ _ fun Z₃ ρ₃ v₃ s₃ i₃ y₃ r₃ => ?_
 refine fK e r₃ fun b'' e => ?_
 exact wpAny_truthy_bool (p.of e _ _ _ i₃ ((y₁.trans y₂).trans y₃))
theorem mx{x:Expr}{m:ME}(hl:bu X k sc vis x m)(he:∀env,isTrue x env (eval x env)=(do let v ← eval x env;standAt x.pos;holding [v] (truthy v)):=by intro _;rfl):nM X k sc vis x (gS m):=by
 refine⟨?_⟩
 intro A env Z ρ σ η s c b σ' e Q E p
 refine aD e fun a σ₁ h1 e => ?_
 refine aG e fun b' h2 e => ?_
 replace p:=p.of e
 refine wpAny_isTrue_value (hl.run A env Z ρ σ η s c _ _ h1 _ _ fun Z₁ ρ₁ v₁ s₁ i₁ y₁ r₁ => ?_) (he env)
 exact w5 (c.next i₁ y₁).c r₁ h2 fun tk=>p _ _ _ (i₁.tok tk) (y₁.trans (a9.tok tk))
theorem zs{x:Expr}{pos}{t:MT}(ht:nM X k sc vis x t):nM X k sc vis (.UnaryOp .Not x pos) (rt t):=by
 refine⟨?_⟩
 intro A env Z ρ σ η s c b σ' e Q E p
 refine aD e fun b' σ₁ h1 e => ?_
 replace p:=p.of e
 exact wpAny_isTrue_Not (ht.run A env Z ρ σ η s c _ _ h1 _ _ fun Z₁ ρ₁ s₁ i₁ y₁=>p _ _ _ i₁ y₁)
theorem gR{op:BoolOp}{es:List Expr}{pos}{t:MT}(ht:jt X k sc vis op es t):nM X k sc vis (.BoolOp op es pos) t:=by
 refine⟨?_⟩
 intro A env Z ρ σ η s c b σ' e Q E p
 exact wpAny_isTrue_BoolOp (ht.run A env Z ρ σ η s c _ _ e _ _ p)
theorem nL:jt X k sc vis .And [] (tK true):=by
 refine⟨?_⟩
 intro A env Z ρ σ η s c b σ' e Q E p
 replace p:=p.of e
 exact wpAny_allTrue_And_nil (p _ _ _ c.c.inv (a9.refl ..))
theorem vN:jt X k sc vis .Or [] (tK false):=by
 refine⟨?_⟩
 intro A env Z ρ σ η s c b σ' e Q E p
 replace p:=p.of e
 exact wpAny_allTrue_Or_nil (p _ _ _ c.c.inv (a9.refl ..))
theorem eq{x:Expr}{es:List Expr}{t u:MT}(ht:nM X k sc vis x t)(hu:jt X k sc vis .And es u):jt X k sc vis .And (x::es) (eC t u):=by
 refine⟨?_⟩
 intro A env Z ρ σ η s c b σ' e Q E p
 refine wpAny_allTrue_And_cons ?_
 refine ln e (fun σ₁ h1 e => ?_) fun σ₁ h1 e => ?_
 ·exact ht.run A env Z ρ σ η s c _ _ h1 _ _ fun Z₁ ρ₁ s₁ i₁ y₁=>hu.run A env Z₁ ρ₁ σ₁ η s₁ (c.next i₁ y₁) _ _ e _ _ (p.pass y₁)
 ·exact ht.run A env Z ρ σ η s c _ _ h1 _ _ fun Z₁ ρ₁ s₁ i₁ y₁=>p.of e _ _ _ i₁ y₁
theorem iJ{x:Expr}{es:List Expr}{t u:MT}(ht:nM X k sc vis x t)(hu:jt X k sc vis .Or es u):jt X k sc vis .Or (x::es) (tJ t u):=by
 refine⟨?_⟩
 intro A env Z ρ σ η s c b σ' e Q E p
 refine wpAny_allTrue_Or_cons ?_
 refine ln e (fun σ₁ h1 e => ?_) fun σ₁ h1 e => ?_
 ·exact ht.run A env Z ρ σ η s c _ _ h1 _ _ fun Z₁ ρ₁ s₁ i₁ y₁=>p.of e _ _ _ i₁ y₁
 ·exact ht.run A env Z ρ σ η s c _ _ h1 _ _ fun Z₁ ρ₁ s₁ i₁ y₁=>hu.run A env Z₁ ρ₁ σ₁ η s₁ (c.next i₁ y₁) _ _ e _ _ (p.pass y₁)
theorem mH{t b o:Expr}{pos}{mt:MT}{m n:ME}(ht:nM X k sc vis t mt)(hb:bu X k sc vis b m)(ho:bu X k sc vis o n):bu X k sc vis (.IfExp t b o pos) (hK mt m n):=by
 refine⟨?_⟩
 intro A env Z ρ σ η s c av σ' e Q E p
 refine wpAny_IfExp ?_
 refine ln e (fun σ₁ h1 e => ?_) fun σ₁ h1 e => ?_
 ·exact ht.run A env Z ρ σ η s c _ _ h1 _ _ fun Z₁ ρ₁ s₁ i₁ y₁=>hb.run A env Z₁ ρ₁ σ₁ η s₁ (c.next i₁ y₁) _ _ e _ _ (p.pass y₁)
 ·exact ht.run A env Z ρ σ η s c _ _ h1 _ _ fun Z₁ ρ₁ s₁ i₁ y₁=>ho.run A env Z₁ ρ₁ σ₁ η s₁ (c.next i₁ y₁) _ _ e _ _ (p.pass y₁)
noncomputable def iP(m:ME):ME:=fun η σ=>oB (m η σ) fun a σ=>fT a fun i=>some (.int (-i),σ)
theorem mG{x:Expr}{pos}{m:ME}(h:bu X k sc vis x m):bu X k sc vis (.UnaryOp .USub x pos) (iP m):=by
 refine⟨?_⟩
 intro A env Z ρ σ η s c av σ' e Q E p
 refine aD e fun a σ₁ h1 e => ?_
 refine wpAny_UnaryOp (h.run A env Z ρ σ η s c _ _ h1 _ _ fun Z₁ ρ₁ v₁ s₁ i₁ y₁ r₁ => ?_)
 refine aQ e r₁ fun i t e => ?_
 exact PyProof.Rows.neg_int (((p.of e).pass y₁).tok i₁ (bw ..) _)
noncomputable def ak:ML:=fun ω σ=>some ([],σ)
noncomputable def aa(m:ME)(r:ML):ML:=fun η σ=>oB (m η σ) fun a σ=>oB (r η σ) fun l σ=>some (a::l,σ)
theorem aw:iT X k sc vis [] ak:=by
 refine⟨?_⟩
 intro A env Z ρ σ η s pos c l σ' e Q E p
 replace p:=p.of e
 exact wpAny_items_nil (p _ _ _ _ c.c.inv (a9.refl ..) (ag.nil_iff.mpr rfl))
theorem af{x:Expr}{es:List Expr}{m:ME}{r:ML}(hx:bu X k sc vis x m)(hr:iT X k sc vis es r)(he:∀env,starEach (x::es) env=(false,eval x env)::starEach es env:=by intro _;rfl) :
  iT X k sc vis (x::es) (aa m r):=by
 refine⟨?_⟩
 intro A env Z ρ σ η s pos c l σ' e Q E p
 refine aD e fun a σ₁ h1 e => ?_
 refine aD e fun l' σ₂ h2 e => ?_
 replace p:=p.of e
 refine wpAny_items_cons (hx.run A env Z ρ σ η s c _ _ h1 _ _ fun Z₁ ρ₁ v₁ s₁ i₁ y₁ r₁=>hr.run A env Z₁ ρ₁ σ₁ η s₁ pos (c.next i₁ y₁) _ _ h2 _ _ fun Z₂ ρ₂ vs₂ s₂ i₂ y₂ r₂ => ?_) (he env)
 exact p _ _ _ _ i₂ (y₁.trans y₂) (ag.cons (r₁.ext y₂) r₂)
noncomputable def d8(r:ML):ME:=fun η σ=>oB (r η σ) fun l σ=>Cv l σ
noncomputable def bz(r:ML):ME:=fun η σ=>oB (r η σ) fun l σ=>rg l σ
theorem fZ{es:List Expr}{kd pos}{r:ML}(h:iT X k sc vis es r):bu X k sc vis (.Tuple es kd pos) (d8 r):=by
 refine⟨?_⟩
 intro A env Z ρ σ η s c av σ' e Q E p
 refine aD e fun l σ₁ h1 e => ?_
 refine dh e fun hz e => ?_
 replace p:=p.of e
 refine wpAny_Tuple (h.run A env Z ρ σ η s _ c _ _ h1 _ _ fun Z₁ ρ₁ vs₁ s₁ i₁ y₁ r₁=>⟨?_,?_⟩)
 ·rw[← r₁.length];exact bM hz
 ·exact(p.pass y₁).newTup i₁ r₁ (tk:=s₁.toks)
theorem cO{es:List Expr}{pos}{r:ML}(h:iT X k sc vis es r):bu X k sc vis (.List es pos) (bz r):=by
 refine⟨?_⟩
 intro A env Z ρ σ η s c av σ' e Q E p
 refine aD e fun l σ₁ h1 e => ?_
 refine dh e fun hz e => ?_
 replace p:=p.of e
 refine wpAny_List (h.run A env Z ρ σ η s _ c _ _ h1 _ _ fun Z₁ ρ₁ vs₁ s₁ i₁ y₁ r₁=>⟨?_,?_⟩)
 ·rw[← r₁.length];exact bM hz
 ·exact(p.pass y₁).newList i₁ r₁ (tk:=s₁.toks)
noncomputable def ao(m n:ME):ME:=fun η σ=>oB (m η σ) fun a σ=>oB (n η σ) fun b σ=>aZ a b σ
theorem gH(slice:Expr)(o i:Value):∃ops,subscripted slice false o i=operate ops (getItem o i):=by
 cases slice with
 | Slice lo hi st pos=>cases st <;> exact⟨_,rfl⟩
 | _=>exact⟨_,rfl⟩
theorem aC{v i:Expr}{pos}{m n:ME}(hv:bu X k sc vis v m)(hi:bu X k sc vis i n):bu X k sc vis (.Subscript v i pos) (ao m n):=by
 refine⟨?_⟩
 intro A env Z ρ σ η s c av σ' e Q E p
 refine aD e fun a σ₁ h1 e => ?_
 refine aD e fun b σ₂ h2 e => ?_
 refine PyProof.Rows.Subscript_ (hv.run A env Z ρ σ η s c _ _ h1 _ _ fun Z₁ ρ₁ v₁ s₁ i₁ y₁ r₁=>hi.run A env Z₁ ρ₁ σ₁ η s₁ (c.next i₁ y₁) _ _ h2 _ _ fun Z₂ ρ₂ v₂ s₂ i₂ y₂ r₂ => ?_)
 obtain⟨⟨T,id,hT,hl⟩,hw⟩:=xt ((c.next i₁ y₁).next i₂ y₂).c (r₁.ext y₂) r₂ _ _ e
 obtain⟨ops,ho⟩:=gH i v₁ v₂
 exact PyProof.Rows.tail_any hT hl (hw _ _ ((p.pass y₁).pass y₂)) ho
structure B6(X:Cx)(k:Nat)(sc:Scope)(vis:List (Str×Nat))(e:Option Expr)(m:ME):Prop where
 run:∀A env Z ρ σ η s,EC X k sc vis A env Z ρ σ η s→∀av σ',m η σ=some (av,σ')→∀Q E,cH X Z ρ s av σ' Q→wpAny (model X.prog X.w) A (evalPart e env) Q E s
theorem dr:B6 X k sc vis none (mK .none):=by
 refine⟨?_⟩
 intro A env Z ρ σ η s c av σ' e Q E p
 replace p:=p.of e
 exact wpAny_evalPart_none (p.here c.c.inv fV)
theorem eE{x:Expr}{m:ME}(h:bu X k sc vis x m):B6 X k sc vis (some x) m:=by
 refine⟨?_⟩
 intro A env Z ρ σ η s c av σ' e Q E p
 exact wpAny_evalPart_some (h.run A env Z ρ σ η s c _ _ e _ _ p)
noncomputable def fu(m lo hi st:ME):ME:=fun η σ=>oB (m η σ) fun a σ=>oB (lo η σ) fun l σ=>oB (hi η σ) fun h σ=>oB (st η σ) fun t σ=>ci a l h t σ
theorem jE{v:Expr}{lo hi st:Option Expr}{pos pos'}{m ml mh ms:ME}(hv:bu X k sc vis v m)(hlo:B6 X k sc vis lo ml)(hhi:B6 X k sc vis hi mh)(hst:B6 X k sc vis st ms) :
  bu X k sc vis (.Subscript v (.Slice lo hi st pos') pos) (fu m ml mh ms):=by
 refine⟨?_⟩
 intro A env Z ρ σ η s c av σ' e Q E p
 refine aD e fun a σ₁ h1 e => ?_
 refine aD e fun l σ₂ h2 e => ?_
 refine aD e fun h σ₃ h3 e => ?_
 refine aD e fun t σ₄ h4 e => ?_
 refine PyProof.Rows.Subscript_ (hv.run A env Z ρ σ η s c _ _ h1 _ _ fun Z₁ ρ₁ v₁ s₁ i₁ y₁ r₁=>wpAny_Slice (hlo.run A env Z₁ ρ₁ σ₁ η s₁ (c.next i₁ y₁) _ _ h2 _ _ fun Z₂ ρ₂ v₂ s₂ i₂ y₂ r₂ =>
  hhi.run A env Z₂ ρ₂ σ₂ η s₂ ((c.next i₁ y₁).next i₂ y₂) _ _ h3 _ _ fun Z₃ ρ₃ v₃ s₃ i₃ y₃ r₃=>hst.run A env Z₃ ρ₃ σ₃ η s₃ (((c.next i₁ y₁).next i₂ y₂).next i₃ y₃) _ _ h4 _ _ fun Z₄ ρ₄ v₄ s₄ i₄ y₄ r₄ => ?_))
 have c4:=(((c.next i₁ y₁).next i₂ y₂).next i₃ y₃).next i₄ y₄
 have hk:∀b o,s₄.heap.get? b=some o→(s₄.heap.push { cls:=.type "slice",data:=.fields #[v₂,v₃,v₄] }).get? b=some o:=fun b o e=>Heap.get?_push_of_some _ e
 have i5:=i₄.grow (P:=fun ω=>False) (tk:=s₄.toks) hk (fun a f=>f.elim)
 have y5:=a9.grow (Z:=Z₄) (ρ:=ρ₄) (s:=s₄) (P:=fun ω=>False) (tk:=s₄.toks) hk (fun a f=>f.elim)
 have c5:=c4.next i5 y5
 obtain⟨⟨T,id,hT,hl⟩,hw⟩:=uC c5.c (((((r₁.ext y₂).ext y₃).ext y₄)).ext y5) (((r₂.ext y₃).ext y₄).ext y5) ((r₃.ext y₄).ext y5) (r₄.ext y5) (sl:=s₄.heap.objs.size) ⟨_,Heap.get?_push_size _ rfl,rfl,rfl⟩ _ _ e
 obtain⟨ops,ho⟩:=gH (.Slice lo hi st pos') v₁ (.ref s₄.heap.objs.size)
 exact PyProof.Rows.tail_any hT hl (hw _ _ (((((p.pass y₁).pass y₂).pass y₃).pass y₄).pass y5)) ho
end
end
section
open SeqAt
abbrev aA:=be→St→Option (be×St)
noncomputable def db(X:Cx)(Z:Addr→Prop)(ρ:List Addr)(a:Addr):Prop := ¬ Z a∧a∉ρ∧X.H₀.get? a=none
theorem bL.turn{X:Cx}{Z ρ σ s}(i:bL X Z ρ σ s){h':Heap}{tk:Nat}{a:Addr}(hs:Heap.SameBut a s.heap h')(hf:db X Z ρ a)(ha:s.heap.get? a≠none→h'.get? a≠none):bL X Z ρ σ { s with heap:=h',toks:=tk } where
 base:=fun b o e=>(hs.2 b (fun q=>by rw[q,hf.2.2]at e;cases e)).trans (i.base b o e)
 fr:=fun b f=>by
  obtain⟨o,e⟩:=i.fr b f
  exact⟨o,(hs.2 b (fun q=>hf.1 (q ▸ f))).trans e⟩
 len:=i.len
 nd:=i.nd
 old:=fun b m=>by
  obtain⟨⟨o,e⟩,r⟩:=i.old b m
  exact⟨⟨o,(hs.2 b (fun q=>hf.2.1 (q ▸ m))).trans e⟩,r⟩
 cells:=fun n b c h1 h2=>(i.cells n b c h1 h2).mono (fun d o f e=>(hs.2 d (fun q=>hf.1 (q ▸ f))).trans e) (fun ω f=>f) List.prefix_rfl
  (fun o e=>(hs.2 b (fun q=>hf.2.1 (q ▸ List.mem_of_getElem? h1))).trans e) id
theorem a9.turn{X:Cx}{Z ρ s}{T:Addr→Prop}{h':Heap}{tk:Nat}{a:Addr}(hs:Heap.SameBut a s.heap h')(hf:db X Z ρ a)(ha:s.heap.get? a≠none→h'.get? a≠none)(ht:T a)(hfc:dY s.heap a→dY h' a) :
  a9 T Z ρ s Z ρ { s with heap:=h',toks:=tk } where
 keep:=fun b o e nt ω=>.inl ((hs.2 b (fun q=>nt (q ▸ ht))).trans e)
 fkeep:=fun b o f e=>(hs.2 b (fun q=>hf.1 (q ▸ f))).trans e
 fmono:=fun ω f=>f
 fnew:=fun ω f=>.inl f
 rho:=List.prefix_rfl
 rnew:=fun ω m=>.inl m
 alive:=fun b o e=>by
  by_cases q:b=a
  ·subst q
   have:=ha (by rw[e];exact fun q=>nomatch q)
   show ∃o',h'.get? b=some o'
   cases q2:h'.get? b with
   | none=>exact absurd q2 this
   | some o'=>exact⟨o',rfl⟩
  ·exact⟨o,(hs.2 b q).trans e⟩
 frm:=fun b f=>by
  by_cases q:b=a
  ·subst q;exact hfc f
  ·exact f.kept fun o e=>(hs.2 b q).trans e
 gens:=rfl
 os:=rfl
 drawn:=rfl
noncomputable def lQ(X:Cx)(T:Addr→Prop)(Z:Addr→Prop)(ρ:List Addr)(s:Shared)(env:Env)(vis:List (Str×Nat))(η':be)(σ':St)(Q:Shared→Prop):Prop :=
 ∀Z' ρ' s',bL X Z' ρ' σ' s'→a9 T Z ρ s Z' ρ' s'→aU X Z' ρ' s'.heap env vis η'→Q s'
structure kB(X:Cx)(k:Nat)(sc:Scope)(vis:List (Str×Nat))(t:Expr)(m:AV→aA):Prop where
 run:∀A env Z ρ σ η s,EC X k sc vis A env Z ρ σ η s→∀av v,aq X ρ Z s.heap av v→∀η' σ',m av η σ=some (η',σ')→∀Q E,lQ X (gN vis env) Z ρ s env vis η' σ' Q→wpAny (model X.prog X.w) A (assign t env v) (fun ω s'=>Q s') E s
noncomputable def aV(i:Nat)(av:AV):aA:=fun η σ=>if i<η.length then some (η.set i av,σ)else none
section
variable{X:Cx}{k:Nat}{sc:Scope}{vis:List (Str×Nat)}{A:Around}{env:Env}{Z:Addr→Prop}{ρ:List Addr}{σ:St}{η:be}{s:Shared}
theorem lQ.of{T:Addr→Prop}{η η':be}{σ σ':St}{Q}(p:lQ X T Z ρ s env vis η σ Q)(e:some (η',σ')=some (η,σ)):lQ X T Z ρ s env vis η' σ' Q:=by
 have h:=Option.some.inj e
 rw[show η=η' from congrArg Prod.fst h.symm,show σ=σ' from congrArg Prod.snd h.symm]at p;exact p
theorem cB(e:aU X Z ρ s.heap env vis η):db X Z ρ env.locals:=e.own
theorem pq(e:aU X Z ρ s.heap env vis η){n:Str}{c:Addr}(h:(n,c)∈env.cells):db X Z ρ c:=⟨(e.ownc n c h).1,(e.ownc n c h).2.1,(e.ownc n c h).2.2.1⟩
theorem Aq{h:Heap}{a:Addr}(f:dY h a){w:Option Value} : ¬ h.IsCell a w:=by
 rintro⟨o,ho,hd⟩
 obtain⟨o',es,ep,e,_,hd'⟩:=f
 rw[ho]at e;cases e
 rw[hd]at hd';cases hd'
theorem Iq{o:Obj}{es:Array DictEntry}{ep:Nat}(hd:o.data=.dict es ep)(name:Str)(h:Int)(key v:Value):∃es' ep',o.putName name h key v = { o with data:=.dict es' ep' } := by
 obtain⟨c,d,dt,sl⟩:=o
 cases hd
 rw[Obj.putName_eq]
 unfold Obj.putNameByArray
 dsimp only
 cases es.findIdx? (·.key.isStr name) <;> exact⟨_,_,rfl⟩
theorem oA{M:Model}{Γ:PySem.Ctx}{p:Pos}{s:Shared}{a:Addr}{o:Obj}{es:Array DictEntry}{ep:Nat}{name:Str}{v:Value}{K:Unit→Pos→Shared→Prop}{F:Value→Pos→Shared→Prop}(ho:s.heap.get? a=some o)(hd:o.data=.dict es ep)(hany:es.any (·.refKey)=false) :
  Sem.wp M Γ (nsSet a name v) K F p s↔(s.heap.get? a).isSome=true∧K () p { s with heap:=s.heap.update a (Obj.putName name (if name.cps.isEmpty=true then 0 else reduceHash (M.w.params.strHash name.cps)) (.str name s.toks) v),toks:=s.toks+1 } := by
 simp only[nsSet,strHash,Sem.wp_bind',Sem.wp_cmd_ask,Sem.wp_pure',Sem.wp_cmd_mkText]
 rw[Sem.wp_loadPart_of M Γ _ p { s with toks:=s.toks+1 } (o:=o) _ ho]
 simp only[hd,aRefKeyMayBeTheName_eq,aRefKeyMayBeTheNameByArray,hany,Bool.and_false,Bool.false_eq_true,if_false,Sem.wp_cmd_updatePart]
theorem Hc{es:Array DictEntry}(hk:StrKeys es):es.any (·.refKey)=false:=Array.any_eq_false'.mpr fun e he=>by
 obtain⟨n,t,h⟩:=hk e he
 rw[DictEntry.refKey,h];exact Bool.false_ne_true
theorem FW{M:Model}{A:Around}{E:Value→Shared→Prop}{s:Shared}{a:Addr}{m:Str→Option Value}{name:Str}{v:Value}{Q:Unit→Shared→Prop}(hn:s.heap.Ns a m)
  (h:∀h',h'.Ns a (fun x=>if x=name then some v else m x)→Heap.SameBut a s.heap h'→(dY s.heap a→dY h' a)→Q () { s with heap:=h',toks:=s.toks+1 }):wpAny M A (nsSet a name v) Q E s:=by
 intro Γ p hp
 have h1:Sem.wp M Γ (nsSet a name v) (fun ω ω s'=>s'.heap.Ns a (fun x=>if x=name then some v else m x)∧Heap.SameBut a s.heap s'.heap) (fun x ω s=>E x s) p s :=
  Sem.wp_nsSet M Γ _ p s hn name v _ fun h' x y=>⟨x,y⟩
 obtain⟨o,es,ep,ho,hd,hk,_⟩:=hn
 have hx:=Hc hk
 obtain⟨h2,h3,h4⟩:=(oA ho hd hx).mp h1
 refine(oA ho hd hx).mpr ⟨h2,h _ h3 h4 fun f => ?_⟩
 obtain⟨o',_,_,e',hc,_⟩:=f
 rw[ho]at e';cases e'
 obtain⟨e1,e2,q⟩:=Iq hd _ _ _ _
 exact⟨_,e1,e2,(Heap.get?_update_self _ ho (by rw[q];rfl)).trans (congrArg some q),hc,rfl⟩
theorem cV{M:Model}{A:Around}{E:Value→Shared→Prop}{s:Shared}{env:Env}{name:Str}{m:Str→Option Value}{v:Value}{Q:Unit→Shared→Prop}(hl:env.kindOf name=some .local)(hn:s.heap.Ns env.locals m)
  (h:∀h',h'.Ns env.locals (fun x=>if x=name then some v else m x)→Heap.SameBut env.locals s.heap h'→(dY s.heap env.locals→dY h' env.locals)→Q () { s with heap:=h',toks:=s.toks+1 })
  (hp:(env.scope.kind==.class||(env.scope.kind==.module&&env.locals != env.globals))=false:=by rfl):wpAny M A (storeName env name v) Q E s:=by
 rw[storeName_local hl hp];exact FW hn h
noncomputable def mf(vis:List (Str×Nat)):Bool:=vis.all fun p=>vis.all fun q=>p.2 != q.2||p.1==q.1
theorem iu(h:mf vis=true){x y:Str}{i:Nat}(hx:vis.lookup x=some i)(hy:vis.lookup y=some i):x=y:=by
 have h1:=List.all_eq_true.mp (List.all_eq_true.mp h _ (mem_of_lookup hx)) _ (mem_of_lookup hy)
 simpa using h1
theorem aU.setLocal(e:aU X Z ρ s.heap env vis η)(ok:mf vis=true){x:Str}{i:Nat}{av:AV}{v:Value}{m:Str→Option Value}{h':Heap}(hv:vis.lookup x=some i)(hk:env.kindOf x=some .local)(hl:i<η.length)
  (hm:∀x i av,vis.lookup x=some i→env.kindOf x=some .local→η[i]? = some av→(av=.unbound∨∃v,m x=some v∧aq X ρ Z s.heap av v))
  (hn':h'.Ns env.locals (fun y=>if y=x then some v else m y)) (hs:Heap.SameBut env.locals s.heap h') (r:aq X ρ Z s.heap av v):aU X Z ρ h' env vis (η.set i av):=by
 have kz:fR Z s.heap h':=fun b o f q=>(hs.2 b (fun w=>e.own.1 (w ▸ f))).trans q
 have mv:∀{a:AV} {w:Value},aq X ρ Z s.heap a w→aq X ρ Z h' a w:=fun r=>r.mono kz (fun ω f=>f) List.prefix_rfl
 refine⟨e.kind,e.glob,e.bltn,⟨_,hn',fun y j a h1 h2 h3 => ?_⟩,fun y j h1 h2 => ?_,e.own,fun n c hc => ?_,e.apart⟩
 ·by_cases hij:j=i
  ·subst hij
   have:y=x:=iu ok h1 hv
   subst this
   rw[List.getElem?_set_self hl]at h3
   cases h3
   exact .inr ⟨v,by simp,mv r⟩
  ·rw[List.getElem?_set_ne (Ne.symm hij)]at h3
   have hyx:y≠x:=fun q=>hij (by rw[q,hv]at h1;cases h1;rfl)
   exact(hm y j a h1 h2 h3).imp id fun h=>h.imp fun w z=>⟨by simp[hyx,z.1],mv z.2⟩
 ·obtain⟨c,w,hc,hw,hcv⟩:=e.cel y j h1 h2
  have hne:=(e.ownc y c (mem_of_lookup hc)).2.2.2.1
  refine⟨c,w,hc,hw.sameBut hs hne,fun a h3 => ?_⟩
  have hij:j≠i:=fun q=>by
   subst q
   have:=iu ok h1 hv
   subst this
   rw[hk]at h2
   rcases h2 with q | q <;> cases q
  rw[List.getElem?_set_ne (Ne.symm hij)]at h3
  exact(hcv a h3).imp id fun h=>h.imp fun w' z=>⟨z.1,mv z.2⟩
 ·obtain⟨a1,a2,a3,a4,w,a5⟩:=e.ownc n c hc
  exact⟨a1,a2,a3,a4,w,a5.sameBut hs a4⟩
theorem aU.setCell(e:aU X Z ρ s.heap env vis η)(ok:mf vis=true){x:Str}{i:Nat}{av:AV}{v:Value}{c:Addr}{h':Heap}(hv:vis.lookup x=some i)(hk:env.kindOf x=some .cell∨env.kindOf x=some .free)(hl:i<η.length)
  (hc:env.cells.lookup x=some c) (hn':h'.IsCell c (some v)) (hs:Heap.SameBut c s.heap h') (r:aq X ρ Z s.heap av v):aU X Z ρ h' env vis (η.set i av):=by
 have own:=e.ownc x c (mem_of_lookup hc)
 have kz:fR Z s.heap h':=fun b o f q=>(hs.2 b (fun w=>own.1 (w ▸ f))).trans q
 have mv:∀{a:AV} {w:Value},aq X ρ Z s.heap a w→aq X ρ Z h' a w:=fun r=>r.mono kz (fun ω f=>f) List.prefix_rfl
 obtain⟨m,hn,hm⟩:=e.ns
 refine⟨e.kind,e.glob,e.bltn,⟨m,hn.sameBut hs own.2.2.2.1.symm,fun y j a h1 h2 h3 => ?_⟩,fun y j h1 h2 => ?_,e.own,fun n d hd => ?_,e.apart⟩
 ·have hij:j≠i:=fun q=>by
   subst q
   have:=iu ok h1 hv
   subst this
   rw[h2]at hk
   rcases hk with q | q <;> cases q
  rw[List.getElem?_set_ne (Ne.symm hij)]at h3
  exact(hm y j a h1 h2 h3).imp id fun h=>h.imp fun w z=>⟨z.1,mv z.2⟩
 ·obtain⟨d,w,hd,hw,hcv⟩:=e.cel y j h1 h2
  by_cases hij:j=i
  ·subst hij
   have:y=x:=iu ok h1 hv
   subst this
   rw[hc]at hd;cases hd
   refine⟨c,_,hc,hn',fun a h3 => ?_⟩
   rw[List.getElem?_set_self hl]at h3
   cases h3
   exact .inr ⟨v,rfl,mv r⟩
  ·have hyx:y≠x:=fun q=>hij (by rw[q,hv]at h1;cases h1;rfl)
   have hdc:d≠c:=fun q=>hyx (name_of_addr e.apart (mem_of_lookup hd) (q ▸ mem_of_lookup hc))
   refine⟨d,w,hd,hw.sameBut hs hdc,fun a h3 => ?_⟩
   rw[List.getElem?_set_ne (Ne.symm hij)]at h3
   exact(hcv a h3).imp id fun h=>h.imp fun w' z=>⟨z.1,mv z.2⟩
 ·obtain⟨a1,a2,a3,a4,w,a5⟩:=e.ownc n d hd
  by_cases hdc:d=c
  ·subst hdc;exact⟨a1,a2,a3,a4,_,hn'⟩
  ·exact⟨a1,a2,a3,a4,w,a5.sameBut hs hdc⟩
theorem aI(x:Str)(pos)(i:Nat)(ok:mf vis=true:=by decide +kernel)(hh:xG sc vis x i .local=true:=by decide +kernel) :
  kB X k sc vis (.Name x pos) (aV i):=by
 obtain⟨hv,hk,_⟩:=jR hh
 refine⟨?_⟩
 intro A env Z ρ σ η s c av v r η' σ' e Q E p
 refine dh e fun hl e => ?_
 replace p:=p.of e
 have hk':env.kindOf x=some .local:=by unfold Env.kindOf;rw[c.sc];exact hk
 obtain⟨m,hn,hm⟩:=c.e.ns
 refine wpAny_assign_Name (cV hk' hn (fun h' hn' hs hfc => ?_) (by rw[c.e.kind];rfl))
 have al:s.heap.get? env.locals≠none→h'.get? env.locals≠none:=fun ω=>cM hn'
 exact p _ _ _ (c.c.inv.turn hs (cB c.e) al) (a9.turn hs (cB c.e) al (.inl rfl) hfc) (c.e.setLocal ok hv hk' hl hm hn' hs r)
theorem bB(x:Str)(pos)(i:Nat)(ok:mf vis=true:=by decide +kernel)(hh:xG sc vis x i .cell=true:=by decide +kernel)(h1:z6 vis x=true:=by decide +kernel) :
  kB X k sc vis (.Name x pos) (aV i):=by
 obtain⟨hv,hk,_⟩:=jR hh
 refine⟨?_⟩
 intro A env Z ρ σ η s c av v r η' σ' e Q E p
 refine dh e fun hl e => ?_
 replace p:=p.of e
 have hk':env.kindOf x=some .cell:=by unfold Env.kindOf;rw[c.sc];exact hk
 obtain⟨d,w,hd,hw,_⟩:=c.e.cel x i hv (.inl hk')
 refine wpAny_assign_Name (wpAny_storeName_cell c.e.kind hk' hd hw fun h' hn' hs => ?_)
 have al:s.heap.get? d≠none→h'.get? d≠none:=fun ω=>cj hn'
 have hm:=mem_of_lookup hd
 exact p _ _ _ (c.c.inv.turn hs (pq c.e hm) al) (a9.turn hs (pq c.e hm) al (.inr ⟨_,hm,h1⟩) fun f=>absurd hw (Aq f)) (c.e.setCell ok hv (.inl hk') hl hd hn' hs r)
theorem EC.after{T Z' ρ' σ' η' s'}(c:EC X k sc vis A env Z ρ σ η s)(i:bL X Z' ρ' σ' s')(y:a9 T Z ρ s Z' ρ' s')(e:aU X Z' ρ' s'.heap env vis η')
  (hT:∀a,T a→tE env a∨∀m,¬ s.heap.Ns a m):EC X k sc vis A env Z' ρ' σ' η' s':=by
 refine⟨⟨c.c.hnd,c.c.dep,c.c.uni,?_,i⟩,c.sc,e,c.top⟩
 obtain⟨fs,h1,h2⟩:=c.c.frs
 refine⟨fs,h1,h2.ext y fun ev hev L hL ht => ?_⟩
 obtain⟨_,L',hL',_,_,_,_,m,hn⟩:=h2.each ev hev
 rw[hL]at hL';cases hL'
 rcases hT L ht with ho | hno
 ·rcases ho with rfl | ⟨n,hm⟩
  ·obtain⟨m,hn,_⟩:=e.ns;exact⟨m,hn⟩
  ·exfalso
   obtain⟨_,_,_,_,w,⟨o,ho,hd⟩⟩:=c.e.ownc n L hm
   obtain⟨o',es,ep,ho',hd',_⟩:=hn
   rw[ho]at ho';cases ho'
   rw[hd]at hd';cases hd'
 ·exact absurd hn (hno m)
theorem EC.own{Z' ρ' σ' η' s'}(c:EC X k sc vis A env Z ρ σ η s)(i:bL X Z' ρ' σ' s')(y:a9 (gN vis env) Z ρ s Z' ρ' s')(e:aU X Z' ρ' s'.heap env vis η'):EC X k sc vis A env Z' ρ' σ' η' s' :=
 c.after i y e fun a h=>.inl h.own
theorem lQ.pass{T Z' ρ' s' η' σ' Q}(p:lQ X T Z ρ s env vis η' σ' Q)(y:a9 T Z ρ s Z' ρ' s'):lQ X T Z' ρ' s' env vis η' σ' Q :=
 fun Z'' ρ'' s'' i e r=>p Z'' ρ'' s'' i (y.trans e) r
noncomputable def lN{α β:Type}(l:List α)(f:Option β):Option β:=match l with
 | []=>f
 | _::_=>none
noncomputable def lC{α β:Type}(l:List α)(f:α→List α→Option β):Option β:=match l with
 | []=>none
 | x::xs=>f x xs
theorem uR{α β:Type}{r:β}{l:List α}{f:Option β}{P:Prop}(e:lN l f=some r)(k:l = []→f=some r→P):P:=by
 cases l with
 | nil=>exact k rfl e
 | cons=>exact oN e
theorem uS{α β:Type}{r:β}{l:List α}{f:α→List α→Option β}{P:List α→Prop}(e:lC l f=some r)(k:∀x xs,f x xs=some r→P (x::xs)):P l:=by
 cases l with
 | nil=>exact oN e
 | cons x xs=>exact k x xs e
noncomputable def io:List AV→aA:=fun l η σ=>lN l (some (η,σ))
noncomputable def bJ(m:AV→aA)(r:List AV→aA):List AV→aA:=fun l η σ=>lC l fun x xs=>oB (m x η σ) fun η σ=>r xs η σ
noncomputable def ov(n:Nat)(r:List AV→aA):AV→aA:=fun av η σ=>Cg av none lH lH lH lH (fun l=>if l.length=n then r l η σ else none) (fun l=>if l.length=n then r l η σ else none)
structure nO(X:Cx)(k:Nat)(sc:Scope)(vis:List (Str×Nat))(ts:List Expr)(m:List AV→aA):Prop where
 run:∀A env Z ρ σ η s,EC X k sc vis A env Z ρ σ η s→∀l vs,ag X ρ Z s.heap l vs→∀η' σ',m l η σ=some (η',σ')→∀Q E,lQ X (gN vis env) Z ρ s env vis η' σ' Q →
  wpAny (model X.prog X.w) A (assignInOrder ((assignEach ts env).map (·.2)) vs) (fun ω s'=>Q s') E s
theorem nB:nO X k sc vis [] io:=by
 refine⟨?_⟩
 intro A env Z ρ σ η s c l vs r η' σ' e Q E p
 refine uR e fun hl e => ?_
 rw[hl]at r
 rw[ag.nil_iff.mp r]
 exact wpAny_pure (M:=model X.prog X.w) (p.of e _ _ _ c.c.inv (a9.refl ..) c.e)
theorem dW{t:Expr}{ts:List Expr}{m:AV→aA}{r:List AV→aA}(ht:kB X k sc vis t m)(hr:nO X k sc vis ts r)(he:∀env,assignEach (t::ts) env=(false,assign t env)::assignEach ts env:=by intro _;rfl) :
  nO X k sc vis (t::ts) (bJ m r):=by
 refine⟨?_⟩
 intro A env Z ρ σ η s c l vs rl η' σ' e Q E p
 refine uS (P:=fun l=>ag X ρ Z s.heap l vs→wpAny (model X.prog X.w) A (assignInOrder ((assignEach (t::ts) env).map (·.2)) vs) (fun ω s'=>Q s') E s) e (fun x xs e rl => ?_) rl
 refine aD e fun η₁ σ₁ h1 e => ?_
 obtain⟨v,us,q,rx,rs⟩:=ag.cons_iff.mp rl
 rw[he,q]
 show wpAny _ _ (holding us (assign t env v) >>= fun ω=>assignInOrder ((assignEach ts env).map (·.2)) us) _ _ _
 refine wpAny_bind (wpAny_holding (ht.run A env Z ρ σ η s c x v rx _ _ h1 _ _ fun Z₁ ρ₁ s₁ i₁ y₁ e₁ => ?_))
 exact hr.run A env Z₁ ρ₁ σ₁ η₁ s₁ (c.own i₁ y₁ e₁) xs us (rs.ext y₁) _ _ e _ _ (p.pass y₁)
theorem fh{h h':Heap}(x:Heap.ExtBut h.objs.size h h'):∀b o,h.get? b=some o→h'.get? b=some o:=fun b o e=>x b o (fun q=>by rw[q,bx]at e;cases e) e
theorem wV{ts:List Expr}{kd pos}{n:Nat}{r:List AV→aA}(hr:nO X k sc vis ts r)(hn:∀env,(assignEach ts env).length=n:=by intro _;rfl)(hs:∀env,(assignEach ts env).findIdx? (·.1)=none:=by intro _;rfl) :
  kB X k sc vis (.Tuple ts kd pos) (ov n r):=by
 refine⟨?_⟩
 intro A env Z ρ σ η s c av v rv η' σ' e Q E p
 have go:∀l vs h',ag X ρ Z s.heap l vs→(∀b o,s.heap.get? b=some o→h'.get? b=some o)→r l η σ=some (η',σ') →
   wpAny (model X.prog X.w) A (assignInOrder ((assignEach ts env).map (·.2)) vs) (fun ω s'=>Q s') E { s with heap:=h' } := by
  intro l vs h' q hk e
  have i':=c.c.inv.grow (P:=fun ω=>False) (tk:=s.toks) hk (fun a f=>f.elim)
  have y:=a9.grow (Z:=Z) (ρ:=ρ) (s:=s) (P:=fun ω=>False) (tk:=s.toks) hk (fun a f=>f.elim)
  exact hr.run A env _ ρ σ η _ (c.next i' y) l vs (q.ext y) _ _ e _ _ (p.pass (y.weaken fun ω f=>f.elim))
 refine ca e rv oN (fun ω=>oN) (fun ω ω=>oN) (fun ω ω=>oN) (fun ω ω=>oN) (fun l a vs ω pl q e => ?_) (fun l a vs ω pl q e => ?_)
 ·refine dh e fun hl e => ?_
  rw[PyProof.Rows.assign_Tuple]
  refine wpAny_bind (wpAny_standAt ?_)
  unfold unpack
  rw[hn,hs]
  refine wpAny_bind (wpAny_holding ?_)
  rw[← hl,q.length,← List.size_toArray]
  exact W.kun_itemsOf c.c.hnd pl.isList fun h' hx=>go l vs h' q (fh hx) e
 ·refine dh e fun hl e => ?_
  exact wpAny_assign_Tuple c.c.hnd pl.isTuple (by rw[hn,← hl,q.length];rfl) (hs env) fun h' hx=>go l vs h' q (fh hx) e
inductive fU where
 | next | ret (v:AV) | exc (x:List Nat)
abbrev MS:=be→St→Option (fU×be×St)
noncomputable def iq(X:Cx)(Z:Addr→Prop)(ρ:List Addr)(s:Shared)(env:Env)(vis:List (Str×Nat))(o:fU)(η':be)(σ':St)(Q:Flow→Shared→Prop)(E:Value→Shared→Prop):Prop :=
 match o with
 | .next=>∀Z' ρ' s',bL X Z' ρ' σ' s'→a9 (gN vis env) Z ρ s Z' ρ' s'→aU X Z' ρ' s'.heap env vis η'→Q .next s'
 | .ret av=>∀Z' ρ' v s',bL X Z' ρ' σ' s'→a9 (gN vis env) Z ρ s Z' ρ' s'→aU X Z' ρ' s'.heap env vis η'→aq X ρ' Z' s'.heap av v→Q (.ret v) s'
 | .exc x=>∀Z' ρ' s' t,bL X Z' ρ' σ' s'→a9 (gN vis env) Z ρ s Z' ρ' s'→aU X Z' ρ' s'.heap env vis η'→∀h' e,Heap.MadeExcOf s'.heap h' e (.ref X.exc) [.str (aj x) t]→E (.ref e) { s' with heap:=h' }
structure ku(X:Cx)(k:Nat)(sc:Scope)(vis:List (Str×Nat))(st:Stmt)(m:MS):Prop where
 run:∀A env Z ρ σ η s,EC X k sc vis A env Z ρ σ η s→∀o η' σ',m η σ=some (o,η',σ')→∀Q E,iq X Z ρ s env vis o η' σ' Q E→wpAny (model X.prog X.w) A (exec st env) Q E s
structure fw(X:Cx)(k:Nat)(sc:Scope)(vis:List (Str×Nat))(b:List Stmt)(m:MS):Prop where
 run:∀A env Z ρ σ η s,EC X k sc vis A env Z ρ σ η s→∀o η' σ',m η σ=some (o,η',σ')→∀Q E,iq X Z ρ s env vis o η' σ' Q E→wpAny (model X.prog X.w) A (execs b env) Q E s
theorem iq.pass{o η' σ' Q E Z' ρ' s'}(p:iq X Z ρ s env vis o η' σ' Q E)(y:a9 (gN vis env) Z ρ s Z' ρ' s'):iq X Z' ρ' s' env vis o η' σ' Q E:=by
 cases o with
 | next=>exact fun Z'' ρ'' s'' i e r=>p Z'' ρ'' s'' i (y.trans e) r
 | ret av=>exact fun Z'' ρ'' v s'' i e q r=>p Z'' ρ'' v s'' i (y.trans e) q r
 | exc x=>exact fun Z'' ρ'' s'' t i ex q=>p Z'' ρ'' s'' t i (y.trans ex) q
theorem FQ{o o':fU}{η η':be}{σ σ':St}{P:fU→be→St→Prop}(e:some (o',η',σ')=some (o,η,σ))(p:P o η σ):P o' η' σ':=by
 have h:=Option.some.inj e
 rw[show o'=o from congrArg Prod.fst h,show η'=η from congrArg (fun x=>x.2.1) h,show σ'=σ from congrArg (fun x=>x.2.2) h];exact p
theorem iq.of{o o':fU}{η η':be}{σ σ':St}{Q E}(p:iq X Z ρ s env vis o η σ Q E)(e:some (o',η',σ')=some (o,η,σ)):iq X Z ρ s env vis o' η' σ' Q E :=
 FQ (P:=fun o η σ=>iq X Z ρ s env vis o η σ Q E) e p
noncomputable def aM:MS:=fun η σ=>some (.next,η,σ)
noncomputable def oS(x:Option (fU×be×St))(r:MS):Option (fU×be×St):=match x with
 | some (o,η,σ)=>match o with
  | .next=>r η σ
  | o=>some (o,η,σ)
 | none=>none
noncomputable def ae(m r:MS):MS:=fun η σ=>oS (m η σ) r
theorem aP:fw X k sc vis [] aM:=by
 refine⟨?_⟩
 intro A env Z ρ σ η s c o η' σ' e Q E p
 replace p:=p.of e
 exact wpAny_execs_nil (p _ _ _ c.c.inv (a9.refl ..) c.e)
theorem ah{st:Stmt}{b:List Stmt}{m r:MS}(hs:ku X k sc vis st m)(hr:fw X k sc vis b r):fw X k sc vis (st::b) (ae m r):=by
 refine⟨?_⟩
 intro A env Z ρ σ η s c o η' σ' e Q E p
 refine wpAny_execs_cons ?_
 cases h1:m η σ with
 | none=>unfold ae at e;rw[h1]at e;exact oN e
 | some w =>
  unfold ae at e;rw[h1]at e
  obtain⟨o₁,η₁,σ₁⟩:=w
  cases o₁ with
  | next=>exact hs.run A env Z ρ σ η s c _ _ _ h1 _ _ fun Z₁ ρ₁ s₁ i₁ y₁ e₁=>hr.run A env Z₁ ρ₁ σ₁ η₁ s₁ (c.own i₁ y₁ e₁) _ _ _ e _ _ (p.pass y₁)
  | ret av=>exact hs.run A env Z ρ σ η s c _ _ _ h1 _ _ (p.of e)
  | exc x=>exact hs.run A env Z ρ σ η s c _ _ _ h1 _ _ (p.of e)
noncomputable def dF(m:ME):MS:=fun η σ=>oB (m η σ) fun a σ=>some (.ret a,η,σ)
theorem bZ{x:Expr}{pos}{m:ME}(h:bu X k sc vis x m):ku X k sc vis (.Return (some x) pos) (dF m):=by
 refine⟨?_⟩
 intro A env Z ρ σ η s c o η' σ' e Q E p
 refine aD e fun a σ₁ h1 e => ?_
 replace p:=p.of e
 exact wpAny_Return_some (h.run A env Z ρ σ η s c _ _ h1 _ _ fun Z₁ ρ₁ v₁ s₁ i₁ y₁ r₁=>p _ _ _ _ i₁ (y₁.weaken fun ω f=>f.elim) (c.e.ext y₁) r₁)
noncomputable def gI(t:MT)(b o:MS):MS:=fun η σ=>oT (t η σ) (fun σ=>b η σ) (fun σ=>o η σ)
theorem cJ{x:Expr}{b o:List Stmt}{pos}{t:MT}{mb mo:MS}(ht:nM X k sc vis x t)(hb:fw X k sc vis b mb)(ho:fw X k sc vis o mo):ku X k sc vis (.If x b o pos) (gI t mb mo):=by
 refine⟨?_⟩
 intro A env Z ρ σ η s c o η' σ' e Q E p
 refine wpAny_If ?_
 refine ln e (fun σ₁ h1 e => ?_) fun σ₁ h1 e => ?_
 ·exact ht.run A env Z ρ σ η s c _ _ h1 _ _ fun Z₁ ρ₁ s₁ i₁ y₁=>hb.run A env Z₁ ρ₁ σ₁ η s₁ (c.next i₁ y₁) _ _ _ e _ _ (p.pass (y₁.weaken fun ω f=>f.elim))
 ·exact ht.run A env Z ρ σ η s c _ _ h1 _ _ fun Z₁ ρ₁ s₁ i₁ y₁=>ho.run A env Z₁ ρ₁ σ₁ η s₁ (c.next i₁ y₁) _ _ _ e _ _ (p.pass (y₁.weaken fun ω f=>f.elim))
noncomputable def iK(sc:Scope)(P:Env→Prop):Prop:=∀env:Env,env.scope=sc→P env
theorem eS{sc:Scope}{P:Env→Prop}(h:∀env:Env,P { env with scope:=sc }):iK sc P:=fun env e=>by subst e;exact h env
noncomputable def aX(m:ME)(t:AV→aA):MS:=fun η σ=>oB (m η σ) fun a σ=>oB (t a η σ) fun η σ=>some (.next,η,σ)
theorem aL{x t:Expr}{pos}{m:ME}{b:AV→aA}(hx:bu X k sc vis x m)(ht:kB X k sc vis t b)(hs:iK sc fun env=>swapsWithSole [t] x pos.line env=pure false)
  (hw:iK sc fun env=>swappedStores [t] x env=pure none) (he:∀env,assignEach [t] env = [(false,assign t env)]:=by intro _;rfl):ku X k sc vis (.Assign [t] x pos) (aX m b):=by
 refine⟨?_⟩
 intro A env Z ρ σ η s c o η' σ' e Q E p
 refine aD e fun a σ₁ h1 e => ?_
 refine aD e fun η₁ σ₂ h2 e => ?_
 replace p:=p.of e
 refine wpAny_Assign_stores (hx.run A env Z ρ σ η s c _ _ h1 _ _ fun Z₁ ρ₁ v₁ s₁ i₁ y₁ r₁ => ?_) (hs env c.sc) (hw env c.sc)
 rw[he]
 show wpAny _ _ (assign t env v₁) _ _ _
 have y₁':a9 (gN vis env) Z ρ s Z₁ ρ₁ s₁:=y₁.weaken fun ω f=>f.elim
 exact ht.run A env Z₁ ρ₁ σ₁ η s₁ (c.next i₁ y₁) a v₁ r₁ _ _ h2 _ _ fun Z₂ ρ₂ s₂ i₂ y₂ e₂=>p _ _ _ i₂ (y₁'.trans y₂) e₂
noncomputable def dM(m:ME):MS:=fun η σ=>oB (m η σ) fun ω σ=>some (.next,η,σ)
theorem iv{x:Expr}{pos}{m:ME}(hx:bu X k sc vis x m)(hs:iK sc fun env=>swapsWith x none pos.line env=pure false):ku X k sc vis (.Expr x pos) (dM m):=by
 refine⟨?_⟩
 intro A env Z ρ σ η s c o η' σ' e Q E p
 refine aD e fun a σ₁ h1 e => ?_
 replace p:=p.of e
 refine wpAny_Expr_any (hx.run A env Z ρ σ η s c _ _ h1 _ _ fun Z₁ ρ₁ v₁ s₁ i₁ y₁ r₁ => ?_) ?_ (hs env c.sc)
 ·exact p _ _ _ i₁ (y₁.weaken fun ω f=>f.elim) (c.e.ext y₁)
 ·unfold interactive;rw[c.e.kind];rfl
noncomputable def v5(i:Nat)(m:ME):MS:=fun η σ=>oB (mV i η σ) fun a σ=>iI a fun x=>oB (m η σ) fun b σ=>iI b fun y=>oB (lS (x++y) σ) fun a σ=>oB (aV i a η σ) fun η σ=>some (.next,η,σ)
theorem CU{x:Str}{v:Expr}{pos pos'}{i:Nat}{m:ME}(hv:bu X k sc vis v m)(ok:mf vis=true:=by decide +kernel)(hh:xG sc vis x i .local=true:=by decide +kernel) :
  ku X k sc vis (.AugAssign (.Name x pos') .Add v pos) (v5 i m):=by
 obtain⟨hx,hk,_⟩:=jR hh
 refine⟨?_⟩
 intro A env Z ρ σ η s c o η' σ' e Q E p
 refine aD e fun a σ₁ h1 e => ?_
 obtain⟨g1,g2,g3⟩:=qo h1
 rw[g3]at e
 have hk':env.kindOf x=some .local:=by unfold Env.kindOf;rw[c.sc];exact hk
 obtain⟨m₀,hn,hm⟩:=c.e.ns
 rcases hm x i _ hx hk' g1 with q | ⟨v₀,e₀,r₀⟩
 ·exact absurd q g2
 refine bj (P:=fun v₀=>m₀ x=some v₀→wpAny (model X.prog X.w) A (exec (.AugAssign (.Name x pos') .Add v pos) env) Q E s) e r₀ (fun x' t₀ e e₀ => ?_) e₀
 refine aD e fun b σ₂ h2 e => ?_
 refine wpAny_AugAssign_Name (wpAny_loadName_local c.e.kind hk' hn e₀ (hv.run A env Z ρ σ η s c _ _ h2 _ _ fun Z₁ ρ₁ v₁ s₁ i₁ y₁ r₁ => ?_))
 refine bj e r₁ fun y' t₁ e=>aD e fun a σ₃ h3 e=>aD e fun η₁ σ₄ h4 e => ?_
 refine dh h3 fun hz h3 => ?_
 refine PyProof.Rows.iadd_str (fun t' tk => ?_) (by rw[aF,aF,← List.length_append];exact bM hz)
 have c₁:=c.next i₁ y₁
 obtain⟨m₁,hn₁,hm₁⟩:=c₁.e.ns
 refine dh h4 fun hl h4 => ?_
 refine cV hk' hn₁ (fun h' hn' hs hfc => ?_) (by rw[c.e.kind];rfl)
 have al:s₁.heap.get? env.locals≠none→h'.get? env.locals≠none:=fun ω=>cM hn'
 have f4:=Option.some.inj h4
 have f3:=Option.some.inj h3
 replace p:=p.of e
 rw[← show _=η₁ from congrArg Prod.fst f4,← show _=σ₄ from congrArg Prod.snd f4,← show _=a from congrArg Prod.fst f3,← show _=σ₃ from congrArg Prod.snd f3]at p
 refine p _ _ _ (i₁.turn hs (cB c₁.e) al) ((y₁.weaken fun ω f=>f.elim).trans (a9.turn hs (cB c₁.e) al (.inl rfl) hfc)) (c₁.e.setLocal ok hx hk' hl hm₁ hn' hs ?_)
 exact dz (jy ..) _
end
end
section
open SeqAt
section
variable{X:Cx}{k:Nat}{sc:Scope}{vis:List (Str×Nat)}{A:Around}{env:Env}{Z:Addr→Prop}{ρ:List Addr}{σ:St}{η:be}{s:Shared}
theorem aU.extT{X:Cx}{T Z ρ s Z' ρ' s' env vis η}(x:aU X Z ρ s.heap env vis η)(y:a9 T Z ρ s Z' ρ' s')(hT:∀a,T a → ¬ tE env a):aU X Z' ρ' s'.heap env vis η:=by
 obtain⟨m,hn,hv⟩:=x.ns
 have hL:s.heap.get? env.locals≠none:=cM hn
 have k1:∀o,s.heap.get? env.locals=some o→ir o (s'.heap.get? env.locals):=fun o e=>y.keep _ o e (fun t=>hT _ t (.inl rfl)) x.own.2.1
 refine⟨x.kind,x.glob,x.bltn,⟨m,f5 k1 hn,fun n i av h1 h2 h3 => ?_⟩,?_,⟨?_,?_,x.own.2.2⟩,?_,x.apart⟩
 ·exact(hv n i av h1 h2 h3).imp id fun h=>h.imp fun v z=>⟨z.1,z.2.ext y⟩
 ·intro n i h1 h2
  obtain⟨c,w,hc,hw,hv⟩:=x.cel n i h1 h2
  have hm:=mem_of_lookup hc
  exact⟨c,w,hc,cY (fun o e=>y.keep _ o e (fun t=>hT _ t (.inr ⟨_,hm⟩)) (x.ownc n c hm).2.1) hw,fun av e=>(hv av e).imp id fun h=>h.imp fun v z=>⟨z.1,z.2.ext y⟩⟩
 ·intro f
  rcases y.fnew _ f with f | f | f
  ·exact x.own.1 f
  ·exact x.own.2.1 f
  ·exact hL f
 ·intro f
  rcases y.rnew _ f with f | f
  ·exact x.own.2.1 f
  ·exact hL f
 ·intro n c hm
  obtain⟨a1,a2,a3,a4,w,hw⟩:=x.ownc n c hm
  refine⟨fun f => ?_,fun f => ?_,a3,a4,w,cY (fun o e=>y.keep _ o e (fun t=>hT _ t (.inr ⟨_,hm⟩)) a2) hw⟩
  ·rcases y.fnew _ f with f | f | f
   ·exact a1 f
   ·exact a2 f
   ·exact cj hw f
  ·rcases y.rnew _ f with f | f
   ·exact a2 f
   ·exact cj hw f
theorem bL.touch{X:Cx}{Z ρ σ s}(i:bL X Z ρ σ s){h':Heap}{tk:Nat}{W:Addr→Prop}(hs:∀b o,¬ W b→s.heap.get? b=some o→h'.get? b=some o)(hf:∀a,W a→db X Z ρ a) :
  bL X Z ρ σ { s with heap:=h',toks:=tk } where
 base:=fun b o e=>hs b o (fun q=>by have:=(hf b q).2.2;rw[e]at this;cases this) (i.base b o e)
 fr:=fun b f=>by
  obtain⟨o,e⟩:=i.fr b f
  exact⟨o,hs b o (fun q=>(hf b q).1 f) e⟩
 len:=i.len
 nd:=i.nd
 old:=fun b m=>by
  obtain⟨⟨o,e⟩,r⟩:=i.old b m
  exact⟨⟨o,hs b o (fun q=>(hf b q).2.1 m) e⟩,r⟩
 cells:=fun n b c h1 h2=>(i.cells n b c h1 h2).mono (fun d o f e=>hs d o (fun q=>(hf d q).1 f) e) (fun ω f=>f) List.prefix_rfl
  (fun o e=>hs b o (fun q=>(hf b q).2.1 (List.mem_of_getElem? h1)) e) id
theorem a9.touch{X:Cx}{Z ρ s}{T W:Addr→Prop}{h':Heap}{tk:Nat}(hs:∀b o,¬ W b→s.heap.get? b=some o→h'.get? b=some o)(hf:∀a,W a→db X Z ρ a)(ha:∀a,W a→h'.get? a≠none)(ht:∀a,W a→T a)(hfc:∀a,W a → ¬ dY s.heap a:=by intro a f;exact f.elim) :
  a9 T Z ρ s Z ρ { s with heap:=h',toks:=tk } where
 keep:=fun b o e nt ω=>.inl (hs b o (fun q=>nt (ht b q)) e)
 fkeep:=fun b o f e=>hs b o (fun q=>(hf b q).1 f) e
 fmono:=fun ω f=>f
 fnew:=fun ω f=>.inl f
 rho:=List.prefix_rfl
 rnew:=fun ω m=>.inl m
 alive:=fun b o e=>by
  by_cases q:W b
  ·have:=ha b q
   show ∃o',h'.get? b=some o'
   cases q2:h'.get? b with
   | none=>exact absurd q2 this
   | some o'=>exact⟨o',rfl⟩
  ·exact⟨o,hs b o q e⟩
 frm:=fun b f=>f.kept fun o e=>hs b o (fun q=>hfc b q f) e
 gens:=rfl
 os:=rfl
 drawn:=rfl
theorem aU.touchW{X:Cx}{Z ρ env vis η}{h h':Heap}{W:Addr→Prop}(x:aU X Z ρ h env vis η)(hk:∀b o,¬ W b→h.get? b=some o→h'.get? b=some o)(hf:∀a,W a→db X Z ρ a ∧ ¬ tE env a):aU X Z ρ h' env vis η:=by
 have kz:fR Z h h':=fun b o f q=>hk b o (fun w=>(hf b w).1.1 f) q
 have mv:∀{a:AV} {w:Value},aq X ρ Z h a w→aq X ρ Z h' a w:=fun r=>r.mono kz (fun ω f=>f) List.prefix_rfl
 obtain⟨m,hn,hv⟩:=x.ns
 refine⟨x.kind,x.glob,x.bltn,⟨m,f5 (fun o e=>.inl (hk _ o (fun w=>(hf _ w).2 (.inl rfl)) e)) hn,fun n i av h1 h2 h3=>(hv n i av h1 h2 h3).imp id fun h=>h.imp fun v z=>⟨z.1,mv z.2⟩⟩,fun n i h1 h2 => ?_,x.own,fun n c hm => ?_,x.apart⟩
 ·obtain⟨c,w,hc,hw,hv⟩:=x.cel n i h1 h2
  have hm:=mem_of_lookup hc
  exact⟨c,w,hc,cY (fun o e=>.inl (hk _ o (fun w=>(hf _ w).2 (.inr ⟨_,hm⟩)) e)) hw,fun av e=>(hv av e).imp id fun h=>h.imp fun v z=>⟨z.1,mv z.2⟩⟩
 ·obtain⟨a1,a2,a3,a4,w,hw⟩:=x.ownc n c hm
  exact⟨a1,a2,a3,a4,w,cY (fun o e=>.inl (hk _ o (fun w=>(hf _ w).2 (.inr ⟨_,hm⟩)) e)) hw⟩
theorem a9.last{X:Cx}{T W:Addr→Prop}{Z ρ s₀ Z₁ ρ₁ s₁}{h':Heap}{tk:Nat}(y:a9 (fun a=>T a∨W a) Z ρ s₀ Z₁ ρ₁ s₁)(hk:∀b o,¬ W b→s₁.heap.get? b=some o→h'.get? b=some o)
  (hw:∀a,W a→s₀.heap.get? a=none):a9 T Z ρ s₀ Z₁ ρ₁ { s₁ with heap:=h',toks:=tk } where
 keep:=fun a o e nt nr=>by
  have na : ¬ W a:=fun w=>by rw[hw a w]at e;cases e
  rcases y.keep a o e (fun t=>t.elim nt na) nr with e' | ⟨hc,sl,e'⟩
  ·exact .inl (hk a _ na e')
  ·exact .inr ⟨hc,sl,hk a _ na e'⟩
 fkeep:=fun a o f e=>hk a o (fun w=>by rw[hw a w]at e;cases e) (y.fkeep a o f e)
 fmono:=y.fmono
 fnew:=y.fnew
 rho:=y.rho
 rnew:=y.rnew
 alive:=fun a o e=>by
  obtain⟨o',e'⟩:=y.alive a o e
  exact⟨o',hk a o' (fun w=>by rw[hw a w]at e;cases e) e'⟩
 frm:=fun a f=>(y.frm a f).kept fun o e=>hk a o (fun w=>by obtain⟨o',_,_,e',_⟩:=f;rw[hw a w]at e';cases e') e
 gens:=y.gens
 os:=y.os
 drawn:=y.drawn
structure Eu(X:Cx)(k:Nat)(sc:Scope)(vis:List (Str×Nat))(A:Around)(env:Env)(target:Expr)(I:Addr)(W:Addr→Prop)(S:(Addr→Prop)→List Addr→List aA→Shared→Prop):Prop where
 cons:∀Z ρ σ η s b r,EC X k sc vis A env Z ρ σ η s→S Z ρ (b::r) s→∀η' σ',b η σ=some (η',σ')→∀(Q:Shared→Prop) (E:Value→Shared→Prop),
  (∀Z' ρ' s',bL X Z' ρ' σ' s'→a9 (fun a=>gN vis env a∨W a) Z ρ s Z' ρ' s'→aU X Z' ρ' s'.heap env vis η'→S Z' ρ' r s'→Q s') →
  wpAny (model X.prog X.w) A (pyNext (.ref I)) (fun r₁ s₁=>∃v,r₁=some v∧wpAny (model X.prog X.w) A (letOwnedTupleGo target (.ref I) v) (fun ω s₂=>wpAny (model X.prog X.w) A (assign target env v) (fun ω s₃=>Q s₃) E s₂) E s₁) E s
 nil:∀Z ρ s,S Z ρ [] s→∀(Q:Option Value→Shared→Prop) (E:Value→Shared→Prop),(∀h' tk,(∀b o,¬ W b→s.heap.get? b=some o→h'.get? b=some o)→Q none { s with heap:=h',toks:=tk })→wpAny (model X.prog X.w) A (pyNext (.ref I)) Q E s
 free:∀Z ρ r s,S Z ρ r s→∀a,W a→db X Z ρ a ∧ ¬ tE env a
 keep:∀(T:Addr→Prop) Z ρ r s Z' ρ' s',S Z ρ r s→(∀a,W a → ¬ T a)→a9 T Z ρ s Z' ρ' s'→S Z' ρ' r s'
 self:∀Z ρ r s (Q:Value→Shared→Prop) (E:Value→Shared→Prop),S Z ρ r s→Q (.ref I) s→wpAny (model X.prog X.w) A (pyIter (.ref I)) Q E s
 priv:∀Z ρ r s,S Z ρ r s→∀a m,W a → ¬ s.heap.Ns a m
structure HY(X:Cx)(I:Addr)(fp:List Addr)(n:Nat)(P:Nat→Value→Prop)(St:Nat→Heap→Prop)(env:Env)(xs:List AV)(m:AV→aA)(Z:Addr→Prop)(ρ:List Addr)(r:List aA)(s:Shared)(i:Nat):Prop where
 hi:i≤n
 hr:r=(xs.drop i).map m
 st:St i s.heap
 hz:∀b∈fp,b≠I→Z b
 hf:db X Z ρ I
 ho : ¬ tE env I
 hp:∀j v,j<n→P j v→∃x,xs[j]? = some x∧aq X ρ Z s.heap x v
noncomputable def cQ(I:Addr)(h:Heap):Prop:=∃o vs,h.get? I=some o∧o.data=.fields vs∧o.cls≠.type "frame"
theorem cQ.noFrame{I:Addr}{h:Heap}(p:cQ I h) : ¬ dY h I:=by
 obtain⟨o,vs,e,hd,_⟩:=p
 rintro⟨o',es,ep,e',_,hd'⟩
 rw[e]at e';rw[← Option.some.inj e',hd]at hd';exact nomatch hd'
theorem cQ.noNs{I:Addr}{h:Heap}(p:cQ I h)(m) : ¬ h.Ns I m:=by
 obtain⟨o,vs,e,hd,_⟩:=p
 rintro⟨o',es,ep,e',hd',_⟩
 rw[e]at e';rw[← Option.some.inj e',hd]at hd';exact nomatch hd'
theorem cQ.there{I:Addr}{h:Heap}(p:cQ I h):h.get? I≠none:=by
 obtain⟨o,vs,e,_⟩:=p
 rw[e];exact fun z=>nomatch z
theorem cQ.kept{I:Addr}{h:Heap}{o:Obj}{x:Option Obj}(p:cQ I h)(e:h.get? I=some o)(k:ir o x):x=some o:=by
 rcases k with k | ⟨hc,_⟩
 ·exact k
 ·obtain⟨o',_,e',_,hcl⟩:=p
  rw[e]at e';rw[← Option.some.inj e']at hcl
  exact absurd hc hcl
section
variable{I:Addr}{fp:List Addr}{n:Nat}{P:Nat→Value→Prop}{St:Nat→Heap→Prop}{xs:List AV}{m:AV→aA}{r:List aA}{i:Nat}
theorem HY.next(w:HY X I fp n P St env xs m Z ρ r s i)(Wk:Walks X.prog X.w A I fp [I] n P St)(pl:cQ I s.heap){T:Addr→Prop}{Z' ρ' s'}(ht : ¬ T I)(y:a9 T Z ρ s Z' ρ' s'):HY X I fp n P St env xs m Z' ρ' r s' i where
 hi:=w.hi
 hr:=w.hr
 st:=Wk.frame _ _ _ w.st fun b hb o e=>by
  by_cases hbI:b=I
  ·rw[hbI]at e ⊢
   exact pl.kept e (y.keep I o e ht w.hf.2.1)
  ·exact y.fkeep b o (w.hz b hb hbI) e
 hz:=fun b hb hne=>y.fmono b (w.hz b hb hne)
 hf:=⟨fun f=>(y.fnew I f).elim w.hf.1 fun f=>f.elim w.hf.2.1 pl.there,fun f=>(y.rnew I f).elim w.hf.2.1 pl.there,w.hf.2.2⟩
 ho:=w.ho
 hp:=fun j v hj hv=>(w.hp j v hj hv).imp fun x h=>⟨h.1,h.2.ext y⟩
end
theorem Eu.walks{target:Expr}{I:Addr}{fp:List Addr}{n:Nat}{P:Nat→Value→Prop}{St:Nat→Heap→Prop}(Wk:Walks X.prog X.w A I fp [I] n P St){m:AV→aA}(ha:kB X k sc vis target m)(xs:List AV)(hn:xs.length=n)
  (hcls:∀i h,St i h→cQ I h)
  (hgo:∀i s v Q E,St i s.heap→Q () s→wpAny (model X.prog X.w) A (letOwnedTupleGo target (.ref I) v) Q E s) :
  Eu X k sc vis A env target I (fun a=>a=I) (fun Z ρ r s=>∃i,HY X I fp n P St env xs m Z ρ r s i) where
 cons:=by
  rintro Z ρ σ η s b r c ⟨i,w⟩ η' σ' e Q E p
  have hlt:i<n:=by
   rcases Nat.lt_or_ge i n with h | h
   ·exact h
   ·have hr:=w.hr;rw[List.drop_of_length_le (by trivial)]at hr;exact nomatch hr
  have hlt':i<xs.length:=by trivial
  have hr:=w.hr
  rw[List.drop_eq_getElem_cons hlt']at hr
  injection hr with hb hr
  refine Wk.item i s _ _ hlt w.st fun v h' tk hv st' hk=>⟨v,rfl,hgo _ _ v _ _ st' ?_⟩
  have hs:∀b o,¬ (b=I)→s.heap.get? b=some o→h'.get? b=some o:=fun b o hb e=>hk b o (fun q=>hb (List.mem_singleton.mp q)) e
  have hfr:∀a,a=I→db X Z ρ a:=fun a q=>q ▸ w.hf
  have pl:=hcls _ _ w.st
  have gX:=hcls _ _ st'
  have i1:=c.c.inv.touch (tk:=tk) hs hfr
  have y1:a9 (fun a=>a=I) Z ρ s Z ρ { s with heap:=h',toks:=tk } := a9.touch hs hfr (fun a q=>q ▸ gX.there) (fun ω q=>q) (fun a q=>q ▸ pl.noFrame)
  have e1:=c.e.extT y1 (fun a q=>q ▸ w.ho)
  obtain⟨x,hx,rx⟩:=w.hp i v hlt hv
  rw[List.getElem?_eq_getElem hlt']at hx
  rw[← Option.some.inj hx]at rx
  have c1:EC X k sc vis A env Z ρ σ η { s with heap:=h',toks:=tk } := c.after i1 y1 e1 fun a q=>.inr fun m'=>q ▸ pl.noNs m'
  rw[hb]at e
  refine ha.run A env Z ρ σ η _ c1 _ v (rx.ext y1) _ _ e _ _ fun Z2 ρ2 s2 i2 y2 e2 => ?_
  have w1:HY X I fp n P St env xs m Z ρ r { s with heap:=h',toks:=tk } (i+1):=⟨hlt,hr,st',w.hz,w.hf,w.ho,fun j v hj hv=>(w.hp j v hj hv).imp fun x h=>⟨h.1,h.2.ext y1⟩⟩
  exact p Z2 ρ2 s2 i2 ((y1.weaken fun ω q=>.inr q).trans (y2.weaken fun ω q=>.inl q)) e2 ⟨i+1,w1.next Wk gX (fun t=>w.ho t.own) y2⟩
 nil:=by
  rintro Z ρ s ⟨i,w⟩ Q E p
  have hin:i=n:=by
   rcases Nat.lt_or_ge i n with h | h
   ·have hr:=w.hr;rw[List.drop_eq_getElem_cons (by trivial:i<xs.length)]at hr;exact nomatch hr
   ·exact Nat.le_antisymm w.hi h
  have st:=w.st
  rw[hin]at st
  exact Wk.done s _ _ st fun h' tk hk=>p h' tk fun b o hb e=>hk b o (fun q=>hb (List.mem_singleton.mp q)) e
 free:=by rintro Z ρ r s ⟨i,w⟩ a q;exact q ▸ ⟨w.hf,w.ho⟩
 keep:=by rintro T Z ρ r s Z' ρ' s' ⟨i,w⟩ hWT y;exact⟨i,w.next Wk (hcls _ _ w.st) (hWT I rfl) y⟩
 self:=by rintro Z ρ r s Q E ⟨i,w⟩ hQ;exact Wk.self i s _ _ w.st hQ
 priv:=by rintro Z ρ r s ⟨i,w⟩ a m q;exact q ▸ (hcls _ _ w.st).noNs m
end
end
section
open SeqAt
noncomputable def lg(a b c:Int):List AV:=(List.range (Builtin.Range.rangeSize a b c).toNat).map fun(i:Nat)=>.int (a+(i:Int) * c)
noncomputable def eN(a:AV):Option (List AV):=nR none a (list:=some) (tup:=some) (dict:=fun l=>some (l.map fun p=>.str p.1)) (dicti:=fun l=>some (l.map fun p=>.int p.1)) (vals:=fun l=>some (l.map fun p=>p.2))
 (range:=fun a b c=>if Builtin.Range.small a b c&&decide (c≠0)then some (lg a b c)else none)
theorem lK(a b c:Int):eN (.range a b c)=if Builtin.Range.small a b c&&decide (c≠0)then some (lg a b c)else none:=rfl
noncomputable def jK:List String := ["enumerate","zip","dict_itemiterator","dict_reverseitemiterator","odict_iterator","itertools.zip_longest","itertools.pairwise"]
section
variable{X:Cx}{k:Nat}{sc:Scope}{vis:List (Str×Nat)}{A:Around}{env:Env}{Z:Addr→Prop}{ρ:List Addr}{σ:St}{η:be}{s:Shared}
theorem mZ{target:Expr}{I:Addr}{o:Obj}{n:String}{vs:Array Value}{v:Value}{Q E}(ho:s.heap.get? I=some o)(hc:o.cls=.type n)(hd:o.data=.fields vs)(hn:jK.contains n=false)(h:Q () s) :
  wpAny (model X.prog X.w) A (letOwnedTupleGo target (.ref I) v) Q E s:=by
 have no:wpAny (model X.prog X.w) A (pure ():Sem Unit) Q E s:=wpAny_pure h
 have go:∀a,wpAny (model X.prog X.w) A (letOwnedTupleGo (.Tuple [] 0 default) (.ref I) (.ref a)) Q E s:=by
  intro a
  refine wpAny_bind (wpAny_load ho ?_)
  rw[hc,hd]
  show wpAny _ A (if(jK.contains n&&vs[0]? == some (rawInt a))=true then _ else _) Q E s
  rw[hn,Bool.false_and,if_neg (by decide)]
  exact no
 cases target with
 | Tuple=>cases v with
  | ref a=>exact go a
  | _=>exact no
 | List=>cases v with
  | ref a=>exact go a
  | _=>exact no
 | _=>exact no
noncomputable def I5(I:Addr)(h:Heap):Prop:=∃o vs nm,h.get? I=some o∧o.data=.fields vs∧o.cls=.type nm∧nm ≠ "frame" ∧ jK.contains nm=false
theorem Hx{I:Addr}{h:Heap}{T:String}{vs:Array Value}{R:Prop}(h1:T ≠ "frame")(h2:jK.contains T=false):(∃o,h.get? I=some o∧o.cls=.type T∧o.data=.fields vs)∧R→I5 I h
 | ⟨⟨o,ho,hc,hd⟩,_⟩=>⟨o,vs,T,ho,hd,hc,h1,h2⟩
inductive tA(X:Cx)(A:Around)(I:Addr)(xs:List AV)(Z:Addr→Prop)(ρ:List Addr)(h:Heap):Prop
 | mk (fp:List Addr) (n:Nat) (P:Nat→Value→Prop) (St:Nat→Heap→Prop) (W:Walks X.prog X.w A I fp [I] n P St) (hn:xs.length=n) (hc:∀i h,St i h→I5 I h) (st:St 0 h) (hz:∀b∈fp,b≠I→Z b)
  (hp:∀j v,j<n→P j v→∃x,xs[j]? = some x∧aq X ρ Z h x v)
theorem tA.src{I:Addr}{xs:List AV}{h:Heap}(R:tA X A I xs Z ρ h){target:Expr}{m:AV→aA}(ha:kB X k sc vis target m) :
  ∃S,Eu X k sc vis A env target I (fun a=>a=I) S∧∀Z' ρ' s',a9 T0 Z ρ { s with heap:=h } Z' ρ' s'→db X Z' ρ' I → ¬ tE env I→S Z' ρ' (xs.map m) s':=by
 obtain⟨fp,n,P,St,Wk,hn,hc,st,hz,hp⟩:=R
 have pl:∀i h,St i h→cQ I h:=by
  intro i h x
  obtain⟨o,vs,nm,e,hd,hcl,hne,_⟩:=hc i h x
  exact⟨o,vs,e,hd,fun q=>hne (by rw[hcl]at q;injection q)⟩
 refine⟨_,Eu.walks Wk ha xs hn pl (fun i s v Q E x hq => ?_),fun Z' ρ' s' y hf ho=>⟨0,⟨Nat.zero_le _,rfl,?_,fun b hb hne=>y.fmono b (hz b hb hne),hf,ho,fun j v hj hv => ?_⟩⟩⟩
 ·obtain⟨o,vs,nm,e,hd,hcl,hne,ho⟩:=hc i _ x
  exact mZ e hcl hd ho hq
 ·refine Wk.frame _ _ _ st fun b hb o e => ?_
  by_cases hbI:b=I
  ·rw[hbI]at e ⊢
   exact(pl _ _ st).kept e (y.keep I o e (fun f=>f) (fun m=>hf.2.1 (by obtain⟨t,ht⟩:=y.rho;rw[← ht];exact List.mem_append_left _ m)))
  ·exact y.fkeep b o (hz b hb hbI) e
 ·obtain⟨x,hx,rx⟩:=hp j v hj hv
  exact⟨x,hx,aq.ext (s := { s with heap:=h }) y rx⟩
theorem bn.get{h:Heap} : ∀{xs:List (List Nat×AV)} {vs:List (Str×Value)},bn X ρ Z h xs vs→∀{i:Nat} {kk:Str} {v:Value},vs[i]? = some (kk,v)→∃l x,xs[i]? = some (l,x)∧kk=aj l∧aq X ρ Z h x v:=by
 intro l₀
 induction l₀ with
 | nil =>
  intro vs r i kk v e
  rw[(r:_=_)]at e;exact nomatch e
 | cons p₀ xs ih₀ =>
  obtain⟨l,x⟩:=p₀
  intro vs r i kk v e
  obtain⟨w,t,hq,p,q⟩:=r
  rw[hq]at e
  cases i with
  | zero=>have e:=oE e;exact⟨l,x,rfl,(congrArg Prod.fst e).symm,(show w=v from congrArg Prod.snd e) ▸ p⟩
  | succ i=>exact ih₀ q (i:=i) e
theorem bP.get{h:Heap} : ∀{xs:List (Int×AV)} {vs:List (Int×Value)},bP X ρ Z h xs vs→∀{i:Nat} {kk:Int} {v:Value},vs[i]? = some (kk,v)→∃x,xs[i]? = some (kk,x)∧aq X ρ Z h x v:=by
 intro l₀
 induction l₀ with
 | nil =>
  intro vs r i kk v e
  rw[(r:_=_)]at e;exact nomatch e
 | cons p₀ xs ih₀ =>
  obtain⟨l,x⟩:=p₀
  intro vs r i kk v e
  obtain⟨w,t,hq,p,q⟩:=r
  rw[hq]at e
  cases i with
  | zero=>have e:=oE e;exact⟨x,congrArg (fun z=>some (z,x)) (congrArg Prod.fst e),(show w=v from congrArg Prod.snd e) ▸ p⟩
  | succ i=>exact ih₀ q (i:=i) e
theorem pW(a b c:Int):0≤Builtin.Range.rangeSize a b c:=by
 unfold Builtin.Range.rangeSize
 split
 ·split
  ·have:=Int.ediv_nonneg (show 0≤b - a - 1 by trivial) (show 0≤c by trivial)
   have e:(b - a - 1) / c=Int.ediv (b - a - 1) c:=rfl
   trivial
  ·trivial
 ·split
  ·have:=Int.ediv_nonneg (show 0≤a - b - 1 by trivial) (show 0 ≤ -c by trivial)
   trivial
  ·trivial
theorem F7{I a:Addr}(f:Z a):∀b ∈ [I,a],b≠I→Z b:=fun b hb hne=>by
 rcases List.mem_cons.mp hb with h | h
 ·exact absurd h hne
 ·exact List.mem_singleton.mp h ▸ f
theorem A0{h h':Heap}{xs:List AV}{vs:List Value}{n:Nat}(q:ag X ρ Z h xs vs)(hk:fR Z h h'):∀j v,j<n→vs.toArray[j]? = some v→∃x,xs[j]? = some x∧aq X ρ Z h' x v:=by
 intro j w _ hw
 have hw:vs[j]? = some w:=by simpa using hw
 have hj:j<xs.length:=by rw[q.length];exact(List.getElem?_eq_some_iff.mp hw).1
 obtain⟨w',hw',dG⟩:=q.get (List.getElem?_eq_getElem hj)
 rw[hw]at hw'
 rw[← Option.some.inj hw']at dG
 exact⟨_,List.getElem?_eq_getElem hj,dG.mono hk (fun ω f=>f) List.prefix_rfl⟩
theorem sv{n:Int}{w:Value}(hk:(intKind X.prog X.w).is n w=true):∃t,w=.int n t:=by
 cases w <;> simp[intKind,Value.isInt]at hk
 exact⟨_,by rw[hk]⟩
theorem DX(c:VC X k A Z ρ σ s){av:AV}{v:Value}(r:aq X ρ Z s.heap av v){xs:List AV}(e:eN av=some xs){Q:Value→Shared→Prop}{E}
  (h:∀o:Obj,o.isFreed=false→tA X A s.heap.objs.size xs Z ρ (s.heap.push o)→Q (.ref s.heap.objs.size) { s with heap:=s.heap.push o }):wpAny (model X.prog X.w) A (pyIter v) Q E s:=by
 have kp:∀(o:Obj),fR Z s.heap (s.heap.push o):=fun o a x ω e=>Heap.get?_push_of_some _ e
 have zlt:∀a,Z a→a≠s.heap.objs.size:=fun a f q=>by
  obtain⟨o,e⟩:=c.inv.fr a f
  rw[q,bx]at e;exact nomatch e
 cases av with
 | list l =>
  rw[← oE e]at h
  obtain⟨a,vs,hv,f,pl,q⟩:=r
  rw[hv]
  refine wpAny_pyIter_list pl.isList (h _ rfl ?_)
  exact⟨_,_,_,_,Walks.list c.hnd s.heap.objs.size a (zlt a f) vs.toArray,q.length,(fun ω ω=>Hx (by decide) (by decide)),⟨⟨_,Heap.get?_push_size _ rfl,rfl,rfl⟩,pl.isList.push _⟩,F7 f,A0 q (kp _)⟩
 | tup l =>
  rw[← oE e]at h
  obtain⟨a,vs,hv,f,pl,q⟩:=r
  rw[hv]
  refine wpAny_pyIter_tuple pl.isTuple (h _ rfl ?_)
  exact⟨_,_,_,_,Walks.tuple c.hnd s.heap.objs.size a (zlt a f) vs.toArray,q.length,(fun ω ω=>Hx (by decide) (by decide)),⟨⟨_,Heap.get?_push_size _ rfl,rfl,rfl⟩,pl.isTuple.push _⟩,F7 f,A0 q (kp _)⟩
 | dict l =>
  rw[← oE e]at h
  obtain⟨a,es,hv,f,hs,hd,q⟩:=r
  rw[hv]
  obtain⟨ep,hat⟩:=hd.dictAt
  refine wpAny_pyIter_dict hs hat (h _ rfl ?_)
  refine⟨_,_,_,_,Walks.dictKeys (knd:=strKind X.prog X.w) c.hnd s.heap.objs.size a (zlt a f) es ep,by rw[List.length_map,q.length],(fun ω ω=>Hx (by decide) (by decide)),⟨⟨_,Heap.get?_push_size _ rfl,rfl,rfl⟩,hat.push _⟩,F7 f,?_⟩
  rintro j w _ ⟨kk,x,hx,hk⟩
  obtain⟨l',x',hl',hq,rx⟩:=q.get hx
  refine⟨.str l',by rw[List.getElem?_map,hl'];rfl,?_⟩
  obtain⟨t,hw⟩:=Value.isStrOf_shape hk
  rw[hw,hq]
  exact df ..
 | dicti l =>
  rw[← oE e]at h
  obtain⟨a,es,hv,f,hs,hd,q⟩:=r
  rw[hv]
  obtain⟨ep,hat⟩:=hd.dictAt
  refine wpAny_pyIter_dict hs hat (h _ rfl ?_)
  refine⟨_,_,_,_,Walks.dictKeys (knd:=intKind X.prog X.w) c.hnd s.heap.objs.size a (zlt a f) es ep,by rw[List.length_map,q.length],(fun ω ω=>Hx (by decide) (by decide)),⟨⟨_,Heap.get?_push_size _ rfl,rfl,rfl⟩,hat.push _⟩,F7 f,?_⟩
  rintro j w _ ⟨kk,x,hx,hk⟩
  obtain⟨x',hl',rx⟩:=q.get hx
  refine⟨.int kk,by rw[List.getElem?_map,hl'];rfl,?_⟩
  obtain⟨t,hw⟩:=sv hk
  rw[hw]
  exact bw ..
 | vals l =>
  rw[← oE e]at h
  obtain⟨a,d,es,hv',f,f',hv,hs,hd,q⟩:=r
  rw[hv']
  obtain⟨ep,hat⟩:=hd.dictAt
  refine wpAny_pyIter_values hv hat (h _ rfl ?_)
  refine⟨_,_,_,_,Walks.dictValues (knd:=strKind X.prog X.w) c.hnd s.heap.objs.size d (zlt d f') es ep,by rw[List.length_map,q.length],(fun ω ω=>Hx (by decide) (by decide)),⟨⟨_,Heap.get?_push_size _ rfl,rfl,rfl⟩,hat.push _⟩,F7 f',?_⟩
  rintro j w _ ⟨kk,hx⟩
  obtain⟨l',x',hl',_,rx⟩:=q.get hx
  exact⟨x',by rw[List.getElem?_map,hl'];rfl,rx.mono (kp _) (fun ω f=>f) List.prefix_rfl⟩
 | range a b c' =>
  refine dh e fun hsm e => ?_
  rw[← oE e]at h
  have hsm:=(Bool.and_eq_true_iff.mp hsm).1
  obtain⟨r,t,u,w,hv,f,hr⟩:=r
  rw[hv]
  refine wpAny_pyIter_range hr hsm (h _ rfl ?_)
  have hnn:0≤Builtin.Range.rangeSize a b c':=pW a b c'
  refine⟨_,_,_,_,Walks.range c.hnd s.heap.objs.size a c' (Builtin.Range.rangeSize a b c').toNat,by rw[lg,List.length_map,List.length_range],fun i h st=>⟨_,_,_,st,rfl,rfl,by decide,by decide⟩,?_,fun b hb hne=>absurd (List.mem_singleton.mp hb) hne,?_⟩
  ·rw[IsRangeIter,Heap.get?_push_size _ rfl]
   simp[Int.toNat_of_nonneg hnn]
  ·rintro j w hj ⟨t',hw⟩
   rw[hw]
   exact⟨.int (a+j * c'),by rw[lg,List.getElem?_map,List.getElem?_range hj];rfl,bw ..⟩
 | _=>exact oN e
end
end
section
open SeqAt
abbrev MI:=be→St→Option (List aA×St)
noncomputable def Cd(X:Cx)(k:Nat)(sc:Scope)(vis:List (Str×Nat))(A:Around)(target:Expr)(s₀:Shared)(bs:List aA)(Z:Addr→Prop)(ρ:List Addr)(I:Addr)(s:Shared):Prop :=
 ∃W:Addr→Prop,(∀a,W a→s₀.heap.get? a=none∧s.heap.get? a≠none∧db X Z ρ a)∧∀env,∃S,Eu X k sc vis A env target I W S ∧
  ∀Z' ρ' s',a9 T0 Z ρ s Z' ρ' s'→(∀a,W a→db X Z' ρ' a ∧ ¬ tE env a)→S Z' ρ' bs s'
structure ow(X:Cx)(k:Nat)(sc:Scope)(vis:List (Str×Nat))(sc2:Scope)(vis2:List (Str×Nat))(it target:Expr)(m:MI):Prop where
 run:∀A env Z ρ σ η s,EC X k sc vis A env Z ρ σ η s→∀bs σ',m η σ=some (bs,σ')→∀(Q:Value→Shared→Prop) (E:Value→Shared→Prop),
  (∀Z' ρ' s' I,bL X Z' ρ' σ' s'→a9 T0 Z ρ s Z' ρ' s'→Cd X k sc2 vis2 A target s bs Z' ρ' I s'→Q (.ref I) s') →
  wpAny (model X.prog X.w) A (eval it env) (fun x s₁=>wpAny (model X.prog X.w) A (pyIter x) Q E s₁) E s
section
variable{X:Cx}{k:Nat}{sc:Scope}{vis:List (Str×Nat)}{A:Around}{env:Env}{Z:Addr→Prop}{ρ:List Addr}{σ:St}{η:be}{s:Shared}
theorem db.next{X:Cx}{T Z ρ s Z' ρ' s'}{a:Addr}(f:db X Z ρ a)(y:a9 T Z ρ s Z' ρ' s')(ha:s.heap.get? a≠none):db X Z' ρ' a :=
 ⟨fun q=>(y.fnew a q).elim f.1 fun q=>q.elim f.2.1 ha,fun q=>(y.rnew a q).elim f.2.1 ha,f.2.2⟩
theorem tA.itOk{xs:List AV}{h:Heap}{I:Addr}{s₀:Shared}(R:tA X A I xs Z ρ h)(h0:s₀.heap.get? I=none)(h1:h.get? I≠none)(hf:db X Z ρ I){target:Expr}{m:AV→aA}{sc vis}(ha:kB X k sc vis target m){tk:Nat} :
  Cd X k sc vis A target s₀ (xs.map m) Z ρ I { s with heap:=h,toks:=tk } := by
 refine⟨fun a=>a=I,fun a q=>q ▸ ⟨h0,h1,hf⟩,fun env => ?_⟩
 obtain⟨S,hS,hg⟩:=R.src (env:=env) (s := { s with heap:=h,toks:=tk }) ha
 exact⟨S,hS,fun Z' ρ' s' y hw=>hg Z' ρ' s' y (hw I rfl).1 (hw I rfl).2⟩
noncomputable def aN(m:ME)(t:AV→aA):MI:=fun η σ=>oB (m η σ) fun a σ=>o1 (eN a) fun xs=>some (xs.map t,σ)
theorem cZ(i:bL X Z ρ σ s):db X Z ρ s.heap.objs.size:=by
 refine⟨fun f => ?_,fun m => ?_,?_⟩
 ·obtain⟨o,e⟩:=i.fr _ f;rw[bx]at e;cases e
 ·obtain⟨⟨o,e⟩,_⟩:=i.old _ m;rw[bx]at e;cases e
 ·cases q:X.H₀.get? s.heap.objs.size with
  | none=>rfl
  | some o=>have:=i.base _ _ q;rw[bx]at this;cases this
theorem qe{α β:Type}{a a':α}{b b':β}{P:α→β→Prop}(e:(a',b')=(a,b))(p:P a b):P a' b':=by
 rw[show a'=a from congrArg Prod.fst e,show b'=b from congrArg Prod.snd e];exact p
theorem bi{it target:Expr}{sc2 vis2}{m:ME}{t:AV→aA}(hx:bu X k sc vis it m)(ht:kB X k sc2 vis2 target t):ow X k sc vis sc2 vis2 it target (aN m t):=by
 refine⟨?_⟩
 intro A env Z ρ σ η s c bs σ' e Q E p
 refine aD e fun a σ₁ h1 e => ?_
 refine aG e fun xs h2 e => ?_
 have e:=Option.some.inj e
 replace p:=qe (P:=fun bs σ'=>∀Z' ρ' s' I,bL X Z' ρ' σ' s'→a9 T0 Z ρ s Z' ρ' s'→Cd X k sc2 vis2 A target s bs Z' ρ' I s'→Q (.ref I) s') e p
 refine hx.run A env Z ρ σ η s c _ _ h1 _ _ fun Z₁ ρ₁ v₁ s₁ i₁ y₁ r₁=>DX (c.next i₁ y₁).c r₁ h2 fun o hf R => ?_
 have hk:∀b o',s₁.heap.get? b=some o'→(s₁.heap.push o).get? b=some o':=fun b o' e=>Heap.get?_push_of_some _ e
 have i2:bL X Z₁ ρ₁ σ₁ { s₁ with heap:=s₁.heap.push o } := i₁.touch (W:=fun ω=>False) (tk:=s₁.toks) (fun b o' ω e=>hk b o' e) fun a f=>f.elim
 have y2:a9 T0 Z₁ ρ₁ s₁ Z₁ ρ₁ { s₁ with heap:=s₁.heap.push o } := a9.touch (X:=X) (W:=fun ω=>False) (tk:=s₁.toks) (fun b o' ω e=>hk b o' e) (fun a f=>f.elim) (fun a f=>f.elim) fun a f=>f
 refine p _ _ _ _ i2 (y₁.trans y2) (R.itOk (cp y₁.alive (bx _)) ?_ (cZ i₁) ht)
 rw[Heap.get?_push_size _ hf];exact fun q=>nomatch q
theorem EC.late{T Z' ρ' σ' η' s'}(c:EC X k sc vis A env Z ρ σ η s)(i:bL X Z' ρ' σ' s')(y:a9 T Z ρ s Z' ρ' s')(e:aU X Z' ρ' s'.heap env vis η')
  (hT:∀a,T a→tE env a∨s.heap.get? a=none):EC X k sc vis A env Z' ρ' σ' η' s':=by
 refine⟨⟨c.c.hnd,c.c.dep,c.c.uni,?_,i⟩,c.sc,e,c.top⟩
 obtain⟨fs,h1,h2⟩:=c.c.frs
 refine⟨fs,h1,h2.ext y fun ev hev L hL ht => ?_⟩
 obtain⟨_,L',hL',_,_,_,_,m,hn⟩:=h2.each ev hev
 rw[hL]at hL';cases hL'
 rcases hT L ht with ho | hno
 ·rcases ho with rfl | ⟨n,hm⟩
  ·obtain⟨m,hn,_⟩:=e.ns;exact⟨m,hn⟩
  ·exfalso
   obtain⟨_,_,_,_,w,⟨o,ho,hd⟩⟩:=c.e.ownc n L hm
   obtain⟨o',es,ep,ho',hd',_⟩:=hn
   rw[ho]at ho';cases ho'
   rw[hd]at hd';cases hd'
 ·exact absurd hno (cM hn)
theorem dA(e:aU X Z ρ s.heap env vis η){a:Addr}(h:tE env a):s.heap.get? a≠none:=by
 rcases h with rfl | ⟨n,hm⟩
 ·obtain⟨m,hn,_⟩:=e.ns;exact cM hn
 ·obtain⟨_,_,_,_,w,hw⟩:=e.ownc n a hm
  exact cj hw
noncomputable def oF(x:Option (fU×be×St))(f:MS):Option (fU×be×St):=match x with
 | some (o,η,σ)=>match o with
  | .next=>f η σ
  | .ret v=>some (.ret v,η,σ)
  | .exc _=>none
 | none=>none
theorem Ap{x:Option (fU×be×St)}{f:MS}{r:fU×be×St}{P:Prop}(e:oF x f=some r)(k:∀η σ,x=some (.next,η,σ)→f η σ=some r→P)(k':∀v η σ,x=some (.ret v,η,σ)→some (.ret v,η,σ)=some r→P):P:=by
 cases x with
 | none=>exact oN e
 | some w =>
  obtain⟨o,η,σ⟩:=w
  cases o with
  | next=>exact k η σ rfl e
  | ret v=>exact k' v η σ rfl e
  | exc x=>exact oN e
noncomputable def d9:List aA→MS→MS
 | [],_,η,σ=>some (.next,η,σ)
 | b::bs,mb,η,σ=>oB (b η σ) fun η σ=>oF (mb η σ) fun η σ=>d9 bs mb η σ
noncomputable def gV(mi:MI)(mb:MS):MS:=fun η σ=>oB (mi η σ) fun bs σ=>d9 bs mb η σ
inductive H0(X:Cx)(mb:MS)(o:fU)(η':be)(σ':St)(vis:List (Str×Nat))(env:Env)(T:Addr→Prop)(Z:Addr→Prop)(ρ:List Addr)(s:Shared)(S:(Addr→Prop)→List Addr→List aA→Shared→Prop)(n:Nat)(s':Shared):Prop where
 | mk (Z':Addr→Prop) (ρ':List Addr) (σ₂:St) (η₂:be) (r:List aA) (hn:r.length=n) (hg:d9 r mb η₂ σ₂=some (o,η',σ')) (i:bL X Z' ρ' σ₂ s') (y:a9 T Z ρ s Z' ρ' s') (e:aU X Z' ρ' s'.heap env vis η₂) (st:S Z' ρ' r s')
theorem gT{it target:Expr}{body:List Stmt}{pos}{mi:MI}{mb:MS}(hi:ow X k sc vis sc vis it target mi)(hb:fw X k sc vis body mb)(hs:∀env x,foldedSetIterable it env x=pure x:=by intro _ _;rfl) :
  ku X k sc vis (.For target it body [] pos) (gV mi mb):=by
 refine⟨?_⟩
 intro A env Z ρ σ η s c o η' σ' e Q E p
 refine aD e fun bs σ₁ h1 e => ?_
 refine wpAny_For (hi.run A env Z ρ σ η s c bs σ₁ h1 _ _ fun Z₁ ρ₁ s₁ I i₁ y₁ ok => ?_) (hs env)
 obtain⟨W,hW,hS⟩:=ok
 obtain⟨S,src,hS⟩:=hS env
 have hWo:∀a,W a → ¬ tE env a:=fun a w ho=>dA c.e ho (hW a w).1
 have y₁':a9 (fun a=>gN vis env a∨W a) Z ρ s Z₁ ρ₁ s₁:=y₁.weaken fun ω f=>f.elim
 refine codeAny_forLoop_any (H0 X mb o η' σ' vis env (fun a=>gN vis env a∨W a) Z ρ s S) ?_ bs.length
  ⟨Z₁,ρ₁,σ₁,η,bs,rfl,e,i₁,y₁',c.e.ext y₁,hS _ _ _ (a9.refl ..) fun a w=>⟨(hW a w).2.2,hWo a w⟩⟩
 rintro n s' ⟨Z',ρ',σ₂,η₂,r,hn,hg,i₂,y₂,e₂,st⟩
 have late:∀{Z'' ρ'' σ'' η'' s''},bL X Z'' ρ'' σ'' s''→a9 (fun a=>gN vis env a∨W a) Z ρ s Z'' ρ'' s''→aU X Z'' ρ'' s''.heap env vis η''→EC X k sc vis A env Z'' ρ'' σ'' η'' s'' :=
  fun i y e=>c.late i y e fun a t=>t.imp gN.own fun w=>(hW a w).1
 cases r with
 | nil =>
  rw[← show 0=n from hn]
  refine src.nil _ _ _ st _ _ fun h' tk hk => ?_
  have hf:=src.free _ _ _ _ st
  refine wpAny_execs_nil ?_
  exact p.of hg _ _ _ (i₂.touch hk fun a w=>(hf a w).1) (a9.last (X:=X) y₂ hk fun a w=>(hW a w).1) (e₂.touchW hk hf)
 | cons b r =>
  rw[← show r.length+1=n from hn]
  refine aD hg fun η₃ σ₃ hb1 hg => ?_
  refine wpAny_mono (src.cons Z' ρ' σ₂ η₂ s' b r (late i₂ y₂ e₂) st _ _ hb1 (fun s₃=>wpAny (model X.prog X.w) A (execs body env) (fun f s₃=>match f with
    | .next | .cont=>∃m,m<r.length+1∧H0 X mb o η' σ' vis env (fun a=>gN vis env a∨W a) Z ρ s S m s₃
    | .brk=>Q .next s₃
    | .ret v=>Q (.ret v) s₃) (notedBy (model X.prog X.w) A env fun e s'=>cameBackBy (model X.prog X.w) A env E e s') s₃) _ ?_) ?_ (fun ω ω q=>q)
  ·intro Z₃ ρ₃ s₃ i₃ y₃ e₃ st₃
   have y₃':=y₂.trans y₃
   have c₃:=late i₃ y₃' e₃
   refine Ap hg (fun η₄ σ₄ hb2 hg => ?_) fun v η₄ σ₄ hb2 hg => ?_
   ·exact hb.run A env Z₃ ρ₃ σ₃ η₃ s₃ c₃ _ _ _ hb2 _ _ fun Z₄ ρ₄ s₄ i₄ y₄ e₄ =>
     ⟨r.length,Nat.lt_succ_self _,Z₄,ρ₄,σ₄,η₄,r,rfl,hg,i₄,y₃'.trans (y₄.weaken fun ω t=>.inl t),e₄,src.keep _ _ _ _ _ _ _ _ st₃ (fun a w t=>hWo a w t.own) y₄⟩
   ·exact hb.run A env Z₃ ρ₃ σ₃ η₃ s₃ c₃ _ _ _ hb2 _ _ fun Z₄ ρ₄ v₄ s₄ i₄ y₄ e₄ r₄ =>
     p.of hg _ _ _ _ i₄ ((y₃'.trans (y₄.weaken fun ω t=>.inl t)).drop fun a t=>t.imp id fun w=>(hW a w).1) e₄ r₄
  ·rintro r₁ s₃ ⟨v,hr,hv⟩
   rw[hr]
   exact hv
noncomputable def eY:Nat→MT→MS→MS
 | 0,_,_,_,_=>none
 | n+1,t,mb,η,σ=>oT (t η σ) (fun σ=>oF (mb η σ) fun η σ=>eY n t mb η σ) (fun σ=>some (.next,η,σ))
inductive Jn(X:Cx)(t:MT)(mb:MS)(o:fU)(η':be)(σ':St)(vis:List (Str×Nat))(env:Env)(Z:Addr→Prop)(ρ:List Addr)(s:Shared)(n:Nat)(s':Shared):Prop where
 | mk (Z':Addr→Prop) (ρ':List Addr) (σ₂:St) (η₂:be) (hg:eY n t mb η₂ σ₂=some (o,η',σ')) (i:bL X Z' ρ' σ₂ s') (y:a9 (gN vis env) Z ρ s Z' ρ' s') (e:aU X Z' ρ' s'.heap env vis η₂)
theorem zz(N:Nat){test:Expr}{body:List Stmt}{pos}{t:MT}{mb:MS}(ht:nM X k sc vis test t)(hb:fw X k sc vis body mb) :
  ku X k sc vis (.While test body [] pos) (eY N t mb):=by
 refine⟨?_⟩
 intro A env Z ρ σ η s c o η' σ' e Q E p
 refine wpAny_While ?_
 refine codeAny_whileLoop (Jn X t mb o η' σ' vis env Z ρ s) ?_ N ⟨Z,ρ,σ,η,e,c.c.inv,a9.refl ..,c.e⟩
 rintro n s' ⟨Z',ρ',σ₂,η₂,hg,i₂,y₂,e₂⟩
 cases n with
 | zero=>exact oN hg
 | succ n =>
  have c₂:=c.own i₂ y₂ e₂
  refine ln hg (fun σ₃ h3 hg => ?_) fun σ₃ h3 hg => ?_
  ·refine ht.run A env Z' ρ' σ₂ _ s' c₂ _ _ h3 _ _ fun Z₃ ρ₃ s₃ i₃ y₃ => ?_
   rw[if_pos rfl]
   have y₃':a9 (gN vis env) Z ρ s Z₃ ρ₃ s₃:=y₂.trans (y₃.weaken fun ω f=>f.elim)
   have c₃:=c₂.next i₃ y₃
   refine Ap hg (fun η₄ σ₄ hb2 hg => ?_) fun v η₄ σ₄ hb2 hg => ?_
   ·exact hb.run A env Z₃ ρ₃ σ₃ η₂ s₃ c₃ _ _ _ hb2 _ _ fun Z₄ ρ₄ s₄ i₄ y₄ e₄=>⟨n,Nat.lt_succ_self n,Z₄,ρ₄,σ₄,η₄,hg,i₄,y₃'.trans y₄,e₄⟩
   ·exact hb.run A env Z₃ ρ₃ σ₃ η₂ s₃ c₃ _ _ _ hb2 _ _ fun Z₄ ρ₄ v₄ s₄ i₄ y₄ e₄ r₄=>p.of hg _ _ _ _ i₄ (y₃'.trans y₄) e₄ r₄
  ·refine ht.run A env Z' ρ' σ₂ _ s' c₂ _ _ h3 _ _ fun Z₃ ρ₃ s₃ i₃ y₃ => ?_
   rw[if_neg (by decide)]
   exact wpAny_execs_nil (p.of hg _ _ _ i₃ (y₂.trans (y₃.weaken fun ω f=>f.elim)) (e₂.ext y₃))
end
end
section
open SeqAt
noncomputable def fM(e:Expr)(gens:List Comprehension)(ifs:List Expr)(emit:Sem Unit)(d:Nat)(acc:Value)(env:Env):Sem Unit:=do
 let ok ← forIn ifs true fun c r=>if r=true then do let ok ← isTrue c env (eval c env);pure (ForInStep.yield ok)else pure (ForInStep.yield r)
 if ok=true then
  match gens[d+1]? with
  | some g'=>do
   let x ← eval g'.iter env
   standAt g'.iter.pos
   let x ← if g'.is_async != 0 then foldedIterable g'.iter x else foldedSetIterable g'.iter env x
   let _ ← runOwn (.compStart e (d+1) (← holding [x] (if g'.is_async != 0 then asyncIter x else pyIter x)) acc env) env
   pure ()
  | none=>emit
 else pure ()
noncomputable def kW(e:Expr)(gens:List Comprehension)(emit:Sem Unit)(d:Nat)(it acc:Value)(env:Env)(g:Comprehension):Sem Fin:=do
 standAt g.iter.pos
 match ← pyNext it with
 | none=>pure (.done .next)
 | some v =>
  letOwnedTupleGo g.target it v
  assign g.target env v
  fM e gens g.ifs emit d acc env
  again (.compLoop e d it acc env)
noncomputable def eH(e:Expr)(acc:Value)(env:Env):Sem Unit:=match e with
 | .ListComp elt _ _ _=>do let _ ← call (.builtin "list.append") [acc,← eval elt env]
 | .DictComp k v _ _ _=>do
    let kv ← eval k env
    let vv ← holding [kv] (eval v env)
    match acc with
    | .ref d=>do
     standAt { k.pos with endLine:=v.pos.endLine,endCol:=v.pos.endCol }
     holding [kv,vv] (dictSet d kv vv)
    | _=>unsupported "internal:dictcomp"
 | _=>unsupported "internal:not-a-comprehension"
theorem wY(elt:Expr)(gens)(scope)(pos)(d:Nat)(it acc:Value)(env:PySem.Env)(g:Comprehension)(hg:gens[d]? = some g)(ha:g.is_async=0) :
  compTurn (.ListComp elt gens scope pos) d it acc env=kW (.ListComp elt gens scope pos) gens (eH (.ListComp elt gens scope pos) acc env) d it acc env g:=by
 unfold compTurn kW fM eH
 simp only[hg,ha]
 congr 1
 funext _
 simp
 congr 1
 funext x
 cases x with
 | none=>rfl
 | some v =>
  simp
  congr 1
  funext _
  congr 1
  funext _
  congr 1
  funext ok
  cases ok
  ·rfl
  ·simp
   cases gens[d+1]? with
   | none=>simp
   | some g'=>by_cases h:g'.is_async=0 <;> simp[h]
theorem wZ(k v:Expr)(gens)(scope)(pos)(d:Nat)(it acc:Value)(env:PySem.Env)(g:Comprehension)(hg:gens[d]? = some g)(ha:g.is_async=0) :
  compTurn (.DictComp k v gens scope pos) d it acc env=kW (.DictComp k v gens scope pos) gens (eH (.DictComp k v gens scope pos) acc env) d it acc env g:=by
 unfold compTurn kW fM eH
 simp only[hg,ha]
 congr 1
 funext _
 simp
 congr 1
 funext x
 cases x with
 | none=>rfl
 | some v =>
  simp
  congr 1
  funext _
  congr 1
  funext _
  congr 1
  funext ok
  cases ok
  ·rfl
  ·simp
   cases gens[d+1]? with
   | none=>cases acc <;> simp
   | some g'=>by_cases h:g'.is_async=0 <;> simp[h]
inductive bO(gens:List Comprehension):Expr→Prop
 | list (elt scope pos):bO gens (.ListComp elt gens scope pos)
 | dict (k v scope pos):bO gens (.DictComp k v gens scope pos)
theorem bO.turn{gens e}(h:bO gens e)(d:Nat)(it acc:Value)(env:PySem.Env)(g:Comprehension)(hg:gens[d]? = some g)(ha:g.is_async=0) :
  compTurn e d it acc env=kW e gens (eH e acc env) d it acc env g:=by
 cases h with
 | list=>exact wY _ _ _ _ _ _ _ _ _ hg ha
 | dict=>exact wZ _ _ _ _ _ _ _ _ _ _ hg ha
theorem bO.den_start{gens e}(h:bO gens e){prog w}(d:Nat)(it acc:Value)(env:PySem.Env) :
  (model prog w).den (.compStart e d it acc env)=(compStart e d it acc env).onRaise (fun x=>do noteFrame x env;standAt theWindowsPlace):=by cases h <;> rfl
theorem bO.den_loop{gens e}(h:bO gens e){prog w}(d:Nat)(it acc:Value)(env:PySem.Env) :
  (model prog w).den (.compLoop e d it acc env)=(compTurn e d it acc env).onRaise (fun x=>do noteFrame x env;theTreesLotGoes x):=by cases h <;> rfl
theorem bO.under_start{gens e}(h:bO gens e)(A:Around)(d:Nat)(it acc:Value)(env:PySem.Env):A.under (.compStart e d it acc env)=A:=by cases h <;> rfl
theorem bO.under_loop{gens e}(h:bO gens e)(A:Around)(d:Nat)(it acc:Value)(env:PySem.Env):A.under (.compLoop e d it acc env)=A:=by cases h <;> rfl
theorem bO.quiet{gens e}(h:bO gens e)(d:Nat)(it acc:Value)(env:PySem.Env):(Code.compLoop e d it acc env).quiet=true:=by cases h <;> rfl
theorem bO.clauses{gens e}(h:bO gens e):clausesOf e=gens:=by cases h <;> rfl
section
variable{prog:Program}{w:World}{A:Around}{E:Value→Shared→Prop}{R:Result→Shared→Prop}{s:Shared}
theorem d3{gens:List Comprehension}{e:Expr}{d:Nat}{g:Comprehension}{it acc:Value}{env:PySem.Env}(hc:bO gens e)(hg:gens[d]? = some g)(ha:g.is_async=0)
  (h0:codeAny (model prog w) A (.compLoop e d it acc env) R s)
  (h:wpAny (model prog w) A (pyIter it) (fun it' s'=>codeAny (model prog w) A (.compLoop e d it' acc env) R s') (notedBy (model prog w) A env fun x s'=>R (.error x) s') s) :
  codeAny (model prog w) A (.compStart e d it acc env) R s:=by
 refine codeAny_of_tree ?_
 rw[hc.den_start,hc.under_start]
 refine wpAny_notedAt ?_
 unfold compStart
 rw[hc.clauses,hg]
 simp only[Option.elim,ha]
 show wpAny _ _ (ask >>= _) _ _ s
 refine wpAny_bind (wpAny_askSetting (wpAny_ite ?_))
 split
 ·first
   | exact wpAny_bind (wpAny_pure (wpAny_pure (And.intro rfl h0)))
   | exact wpAny_pure (And.intro rfl h0)
 ·first
   | exact wpAny_bind (wpAny_rule (wpAny_bind (wpAny_standAt (wpAny_bind (wpAny_mono h (fun it' s' h'=>wpAny_pure (And.intro rfl h')) fun ω ω x=>x)))))
   | (refine wpAny_bind (wpAny_rule ?_);show wpAny _ _ (standAt g.iter.pos >>= _) _ _ s;exact wpAny_bind (wpAny_standAt (wpAny_bind (wpAny_mono h (fun it' s' h'=>wpAny_pure (And.intro rfl h')) fun ω ω x=>x))))
theorem ie{gens:List Comprehension}{e:Expr}{d:Nat}{g:Comprehension}{it acc:Value}{env:PySem.Env}(hc:bO gens e)(hg:gens[d]? = some g)(ha:g.is_async=0)(I:Nat→Shared→Prop)
  (turn:∀n s,I n s→wpAny (model prog w) A (pyNext it) (fun r s₁=>match r with
   | none=>R (.ok .next) s₁
   | some v=>wpAny (model prog w) A (letOwnedTupleGo g.target it v) (fun ω s₁'=>wpAny (model prog w) A (assign g.target env v) (fun ω s₂ =>
     wpAny (model prog w) A (fM e gens g.ifs (eH e acc env) d acc env) (fun ω s₃=>∃m,m<n∧I m s₃) (notedBy (model prog w) A env fun e s'=>R (.error e) s') s₂) (notedBy (model prog w) A env fun e s'=>R (.error e) s') s₁')
     (notedBy (model prog w) A env fun e s'=>R (.error e) s') s₁) (notedBy (model prog w) A env fun e s'=>R (.error e) s') s)
  (n:Nat) (h:I n s):codeAny (model prog w) A (.compLoop e d it acc env) R s:=by
 refine codeAny_loop (hc.quiet d it acc env) I (fun n s hI => ?_) n h
 rw[hc.den_loop,hc.under_loop]
 refine wpAny_noted ?_
 rw[hc.turn d it acc env g hg ha]
 unfold kW
 refine wpAny_bind (wpAny_standAt (wpAny_bind (wpAny_mono (turn n s hI) (fun r s₁ h₁ => ?_) fun ω ω h'=>h')))
 cases r with
 | none=>exact wpAny_pure h₁
 | some v =>
  refine wpAny_bind (wpAny_mono h₁ (fun ω s₂ h₂=>wpAny_bind (wpAny_mono h₂ (fun ω s₃ h₃=>wpAny_bind (wpAny_mono h₃ (fun ω s₄ h₄=>wpAny_pure ⟨rfl,h₄⟩) fun ω ω h'=>h')) fun ω ω h'=>h')) fun ω ω h'=>h')
end
end
section
open SeqAt
abbrev MG:=be→St→aO→Option (St×aO)
noncomputable def cw(A:Around)(a:Addr):Prop:=∀fs,A.frames=some fs→∀ev∈fs,ev.frame≠some a
structure CC(X:Cx)(k:Nat)(sc:Scope)(vis:List (Str×Nat))(A:Around)(cenv:Env)(D:Addr)(Z:Addr→Prop)(ρ:List Addr)(σ:St)(η:be)(acc:aO)(s:Shared):Prop where
 ec:EC X k sc vis A cenv Z ρ σ η s
 acc:dc X ρ Z s.heap acc D
 dlive:s.heap.get? D≠none
 dfree:db X Z ρ D
 down : ¬ tE cenv D
 nof:∀a,gN vis cenv a∨a=D→cw A a
noncomputable def vP(X:Cx)(k:Nat)(sc:Scope)(vis:List (Str×Nat))(A:Around)(cenv:Env)(D:Addr)(r:Sem Unit)(m:MG):Prop :=
 ∀Z ρ σ η acc s,CC X k sc vis A cenv D Z ρ σ η acc s→∀σ' acc',m η σ acc=some (σ',acc')→∀(Q:Unit→Shared→Prop) (E:Value→Shared→Prop),
  (∀Z' ρ' s',bL X Z' ρ' σ' s'→a9 (fun a=>gN vis cenv a∨a=D) Z ρ s Z' ρ' s'→aU X Z' ρ' s'.heap cenv vis η→dc X ρ' Z' s'.heap acc' D→Q () s')→wpAny (model X.prog X.w) A r Q E s
structure B8(X:Cx)(k:Nat)(sc:Scope)(vis:List (Str×Nat))(e:Expr)(m:MG):Prop where
 run:∀A cenv D,vP X k sc vis A cenv D (eH e (.ref D) cenv) m
structure nN(X:Cx)(k:Nat)(sc:Scope)(vis:List (Str×Nat))(e:Expr)(gens:List Comprehension)(ifs:List Expr)(d:Nat)(m:MG):Prop where
 run:∀A cenv D,vP X k sc vis A cenv D (fM e gens ifs (eH e (.ref D) cenv) d (.ref D) cenv) m
structure B7(X:Cx)(k:Nat)(sc:Scope)(vis:List (Str×Nat))(ifs:List Expr)(m:MT):Prop where
 run:∀A env Z ρ σ η s,EC X k sc vis A env Z ρ σ η s→∀b σ',m η σ=some (b,σ')→∀Q E,kE X Z ρ s σ' (Q b) →
  wpAny (model X.prog X.w) A (forIn ifs true fun c r=>if r=true then do let ok ← isTrue c env (eval c env);pure (ForInStep.yield ok)else pure (ForInStep.yield r)) Q E s
section
variable{X:Cx}{k:Nat}{sc:Scope}{vis:List (Str×Nat)}{A:Around}{env cenv:Env}{Z:Addr→Prop}{ρ:List Addr}{σ:St}{η:be}{s:Shared}
theorem cq:B7 X k sc vis [] (tK true):=by
 refine⟨?_⟩
 intro A env Z ρ σ η s c b σ' e Q E p
 exact wpAny_tests_nil (p.of e _ _ _ c.c.inv (a9.refl ..))
theorem gc{x:Expr}{t:MT}(h:nM X k sc vis x t):B7 X k sc vis [x] t:=by
 refine⟨?_⟩
 intro A env Z ρ σ η s c b σ' e Q E p
 exact wpAny_tests_one (h.run A env Z ρ σ η s c _ _ e _ _ p)
theorem EC.late2{T Z' ρ' σ' η' s'}(c:EC X k sc vis A env Z ρ σ η s)(i:bL X Z' ρ' σ' s')(y:a9 T Z ρ s Z' ρ' s')(e:aU X Z' ρ' s'.heap env vis η')
  (hT:∀a,T a→cw A a):EC X k sc vis A env Z' ρ' σ' η' s':=by
 refine⟨⟨c.c.hnd,c.c.dep,c.c.uni,?_,i⟩,c.sc,e,c.top⟩
 obtain⟨fs,h1,h2⟩:=c.c.frs
 exact⟨fs,h1,h2.ext y fun ev hev L hL ht=>absurd hL (hT L ht fs h1 ev hev)⟩
theorem cw.fresh(c:VC X k A Z ρ σ s){a:Addr}(h:s.heap.get? a=none):cw A a:=by
 intro fs hfs ev hev hL
 obtain⟨fs',h1,h2⟩:=c.frs
 rw[hfs]at h1;cases h1
 obtain⟨_,L,hL',_,_,_,_,m,hn⟩:=h2.each ev hev
 rw[hL]at hL';cases hL'
 exact cM hn h
theorem sT{h:Heap}{c:aO}{a:Addr}(r:dc X ρ Z h c a)(hd:c.live=true) : ¬ dY h a:=by
 rintro⟨o',es',ep',e',hc',hd'⟩
 cases c with
 | dead=>exact Bool.noConfusion hd
 | list l=>obtain⟨_,vs,⟨n,e⟩,_⟩:=r;rw[e]at e';cases e';cases hd'
 | dict l=>obtain⟨_,vs,⟨o,es,ep,e,hc,_⟩,_⟩:=r;rw[e]at e';cases e';rw[hc.1]at hc';injection hc' with q;exact absurd q (by decide)
 | dicti l=>obtain⟨_,vs,⟨o,es,ep,e,hc,_⟩,_⟩:=r;rw[e]at e';cases e';rw[hc.1]at hc';injection hc' with q;exact absurd q (by decide)
theorem dc.ext{T Z' ρ' s'}{c:aO}{a:Addr}(r:dc X ρ Z s.heap c a)(y:a9 T Z ρ s Z' ρ' s')(ht : ¬ T a)(hr:a∉ρ)(hl:s.heap.get? a≠none):dc X ρ' Z' s'.heap c a:=by
 have nz : ¬ Z a → ¬ Z' a:=fun nf f=>by
  rcases y.fnew a f with f | f | f
  ·exact nf f
  ·exact hr f
  ·exact hl f
 have kp:∀o,s.heap.get? a=some o→o.cls≠.type "frame" → s'.heap.get? a=some o:=fun o e hc=>by
  rcases y.keep a o e ht hr with e' | ⟨hc',_⟩
  ·exact e'
  ·exact absurd hc' hc
 cases c with
 | dead v=>exact aq.ext y r
 | list l =>
  obtain⟨h1,vs,⟨n,e⟩,h3⟩:=r
  exact⟨nz h1,vs,⟨n,kp _ e (by show(Value.type "list")≠_;decide)⟩,h3.ext y⟩
 | dict l =>
  obtain⟨h1,vs,⟨o,es,ep,e,hc,h2⟩,h3⟩:=r
  exact⟨nz h1,vs,⟨o,es,ep,kp _ e (by rw[hc.1];decide),hc,h2⟩,h3.ext y⟩
 | dicti l =>
  obtain⟨h1,vs,⟨o,es,ep,e,hc,h2⟩,h3⟩:=r
  exact⟨nz h1,vs,⟨o,es,ep,kp _ e (by rw[hc.1];decide),hc,h2⟩,h3.ext y⟩
theorem CC.step{D acc T Z' ρ' σ' η' acc' s'}(c:CC X k sc vis A cenv D Z ρ σ η acc s)(i:bL X Z' ρ' σ' s')(y:a9 T Z ρ s Z' ρ' s')(e:aU X Z' ρ' s'.heap cenv vis η')(r:dc X ρ' Z' s'.heap acc' D)
  (hT:∀a,T a→cw A a):CC X k sc vis A cenv D Z' ρ' σ' η' acc' s':=by
 refine⟨c.ec.late2 i y e hT,r,?_,c.dfree.next y c.dlive,c.down,c.nof⟩
 cases q:s.heap.get? D with
 | none=>exact absurd q c.dlive
 | some o=>obtain⟨o',e'⟩:=y.alive D o q;rw[e'];exact fun q=>nomatch q
theorem CC.next{D acc Z' ρ' σ' s'}(c:CC X k sc vis A cenv D Z ρ σ η acc s)(i:bL X Z' ρ' σ' s')(y:a9 T0 Z ρ s Z' ρ' s'):CC X k sc vis A cenv D Z' ρ' σ' η acc s' :=
 c.step i y (c.ec.e.ext y) (c.acc.ext y (fun f=>f) c.dfree.2.1 c.dlive) fun ω f=>f.elim
noncomputable def Ie{β:Type}(c:aO)(f:List AV→Option β):Option β:=match c with
 | .list l=>f l
 | _=>none
noncomputable def IQ{β:Type}(c:aO)(f:List (List Nat×AV)→Option β):Option β:=match c with
 | .dict l=>f l
 | _=>none
theorem kj{β:Type}{r:β}{c:aO}{f:List AV→Option β}{P:aO→Prop}(e:Ie c f=some r)(k:∀l,f l=some r→P (.list l)):P c:=by
 cases c with
 | list l=>exact k l e
 | _=>exact oN e
theorem wT{β:Type}{r:β}{c:aO}{f:List (List Nat×AV)→Option β}{P:aO→Prop}(e:IQ c f=some r)(k:∀l,f l=some r→P (.dict l)):P c:=by
 cases c with
 | dict l=>exact k l e
 | _=>exact oN e
noncomputable def ay(m:ME):MG:=fun η σ acc=>Ie acc fun l=>oB (m η σ) fun a σ=>if dX l.length then some (σ,.list (l ++ [a]))else none
noncomputable def gM(l:List (List Nat×AV))(kk:List Nat)(v:AV):List (List Nat×AV) :=
 if l.any (fun p=>p.1==kk)then l.map fun p=>if p.1==kk then(p.1,v)else p else l ++ [(kk,v)]
noncomputable def jU(mk mv:ME):MG:=fun η σ acc=>IQ acc fun l=>oB (mk η σ) fun a σ=>iI a fun kk=>oB (mv η σ) fun v σ=>if dX l.length then some (σ,.dict (gM l kk v))else none
theorem CC.turned{D acc h' tk}(c:CC X k sc vis A cenv D Z ρ σ η acc s)(hd:acc.live=true)(al:h'.get? D≠none)(hs:Heap.SameBut D s.heap h') :
  bL X Z ρ σ { s with heap:=h',toks:=tk } ∧ a9 (fun a=>gN vis cenv a∨a=D) Z ρ s Z ρ { s with heap:=h',toks:=tk } ∧ aU X Z ρ h' cenv vis η∧a9 (fun a=>a=D) Z ρ s Z ρ { s with heap:=h',toks:=tk } := by
 have y':a9 (fun a=>a=D) Z ρ s Z ρ { s with heap:=h',toks:=tk } := a9.turn (X:=X) hs c.dfree (fun ω=>al) rfl fun f=>absurd f (sT c.acc hd)
 exact⟨c.ec.c.inv.turn hs c.dfree fun ω=>al,y'.weaken fun ω=>.inr,c.ec.e.extT y' fun a q=>q ▸ c.down,y'⟩
theorem aY{elt:Expr}{gens scope pos}{m:ME}(h:bu X k sc vis elt m):B8 X k sc vis (.ListComp elt gens scope pos) (ay m):=by
 refine⟨?_⟩
 intro A cenv D Z ρ σ η acc s c σ' acc' e Q E p
 refine kj (P:=fun acc=>CC X k sc vis A cenv D Z ρ σ η acc s→wpAny (model X.prog X.w) A (eH (.ListComp elt gens scope pos) (.ref D) cenv) Q E s) e (fun l e c => ?_) c
 refine aD e fun a σ₁ h1 e=>dh e fun hz e => ?_
 have e:=Option.some.inj e
 replace p:=qe (P:=fun σ' acc'=>∀Z' ρ' s',bL X Z' ρ' σ' s'→a9 (fun a=>gN vis cenv a∨a=D) Z ρ s Z' ρ' s'→aU X Z' ρ' s'.heap cenv vis η→dc X ρ' Z' s'.heap acc' D→Q () s') e p
 refine wpAny_bind (h.run A cenv Z ρ σ η s c.ec _ _ h1 _ _ fun Z₁ ρ₁ v₁ s₁ i₁ y₁ r₁ => ?_)
 have c₁:=c.next i₁ y₁
 obtain⟨nz,vs,pl,q⟩:=c₁.acc
 refine wpAny_bind (wpAny_list_append_plain pl (fun h' gX hs => ?_) (by have:=bM hz;simp[← q.length];omega))
 obtain⟨i₂,y₂,e₂,y'⟩:=c₁.turned (tk:=s₁.toks) rfl (by obtain⟨n,e⟩:=gX;rw[e];exact fun q=>nomatch q) hs
 exact wpAny_pure (p _ _ _ i₂ ((y₁.weaken fun ω f=>f.elim).trans y₂) e₂ ⟨nz,vs ++ [v₁],by simpa using gX,(q.append (ag.cons r₁ (ag.nil_iff.mpr rfl))).ext y'⟩)
theorem w8(q kk:List Nat):decide (aj q=aj kk)=(q==kk):=by
 by_cases e:q=kk
 ·rw[e,beq_self_eq_true];exact decide_eq_true rfl
 ·rw[beq_eq_false_iff_ne.mpr e];exact decide_eq_false fun z=>e (fW z)
theorem bn.any{h:Heap}(kk:List Nat):∀{l:List (List Nat×AV)} {es:List (Str×Value)},bn X ρ Z h l es→es.any (fun kv=>decide (kv.1=aj kk))=l.any (fun p=>p.1==kk):=by
 intro l
 induction l with
 | nil=>intro es r;rw[(r:_=_)];rfl
 | cons p l ih =>
  intro es r
  obtain⟨w,t,hq,_,r'⟩:=r
  rw[hq,List.any_cons,List.any_cons,ih r',w8]
theorem bn.put{h:Heap}(kk:List Nat){v:AV}{vv:Value}(rv:aq X ρ Z h v vv):∀{l:List (List Nat×AV)} {es:List (Str×Value)},bn X ρ Z h l es →
  bn X ρ Z h (l.map fun p=>if p.1==kk then(p.1,v)else p) (es.map fun kv=>if kv.1=aj kk then(kv.1,vv)else kv):=by
 intro l
 induction l with
 | nil=>intro es r;rw[(r:_=_)];show _=_;rfl
 | cons p l ih =>
  intro es r
  obtain⟨q,x⟩:=p
  obtain⟨w,t,hq,dG,r'⟩:=r
  rw[hq,List.map_cons,List.map_cons]
  by_cases e:q=kk
  ·rw[if_pos (show(aj q,w).1=aj kk from congrArg aj e),if_pos (show((q,x).1==kk)=true from beq_iff_eq.mpr e)]
   show ∃_,_
   exact⟨_,_,rfl,rv,ih r'⟩
  ·rw[if_neg (show ¬ (aj q,w).1=aj kk from fun z=>e (fW z)),if_neg (show ¬ ((q,x).1==kk)=true from fun z=>e (beq_iff_eq.mp z))]
   show ∃_,_
   exact⟨_,_,rfl,dG,ih r'⟩
theorem bn.snoc{h:Heap}(kk:List Nat){v:AV}{vv:Value}(rv:aq X ρ Z h v vv):∀{l:List (List Nat×AV)} {es:List (Str×Value)},bn X ρ Z h l es→bn X ρ Z h (l ++ [(kk,v)]) (es ++ [(aj kk,vv)]):=by
 intro l
 induction l with
 | nil=>intro es r;rw[(r:_=_),List.nil_append,List.nil_append];show ∃_,_;exact⟨_,_,rfl,rv,by show _=_;rfl⟩
 | cons p l ih =>
  intro es r
  obtain⟨w,t,hq,dG,r'⟩:=r
  rw[hq,List.cons_append,List.cons_append]
  show ∃_,_
  exact⟨_,_,rfl,dG,ih r'⟩
theorem bn.stored{h:Heap}{l:List (List Nat×AV)}{es:List (Str×Value)}(kk:List Nat){v:AV}{vv:Value}(r:bn X ρ Z h l es)(rv:aq X ρ Z h v vv):bn X ρ Z h (gM l kk v) (PySem.stored es (aj kk) vv):=by
 unfold gM PySem.stored
 rw[bn.any kk r]
 by_cases hb:l.any (fun p=>p.1==kk)=true
 ·rw[if_pos hb,if_pos hb];exact bn.put kk rv r
 ·rw[if_neg hb,if_neg hb];exact bn.snoc kk rv r
theorem wE{kx vx:Expr}{gens scope pos}{mk mv:ME}(hk:bu X k sc vis kx mk)(hv:bu X k sc vis vx mv):B8 X k sc vis (.DictComp kx vx gens scope pos) (jU mk mv):=by
 refine⟨?_⟩
 intro A cenv D Z ρ σ η acc s c σ' acc' e Q E p
 refine wT (P:=fun acc=>CC X k sc vis A cenv D Z ρ σ η acc s→wpAny (model X.prog X.w) A (eH (.DictComp kx vx gens scope pos) (.ref D) cenv) Q E s) e (fun l e c => ?_) c
 refine aD e fun a σ₁ h1 e => ?_
 refine wpAny_bind (hk.run A cenv Z ρ σ η s c.ec _ _ h1 _ _ fun Z₁ ρ₁ v₁ s₁ i₁ y₁ r₁ => ?_)
 refine bj e r₁ fun kk t e=>aD e fun v σ₂ h2 e=>dh e fun hz e => ?_
 have e:=Option.some.inj e
 replace p:=qe (P:=fun σ' acc'=>∀Z' ρ' s',bL X Z' ρ' σ' s'→a9 (fun a=>gN vis cenv a∨a=D) Z ρ s Z' ρ' s'→aU X Z' ρ' s'.heap cenv vis η→dc X ρ' Z' s'.heap acc' D→Q () s') e p
 refine wpAny_bind (wpAny_holding (hv.run A cenv Z₁ ρ₁ _ η s₁ (c.ec.next i₁ y₁) _ _ h2 _ _ fun Z₂ ρ₂ v₂ s₂ i₂ y₂ r₂ => ?_))
 have c₂:=(c.next i₁ y₁).next i₂ y₂
 obtain⟨nz,vs,pl,q⟩:=c₂.acc
 refine wpAny_bind (wpAny_standAt (wpAny_holding (wpAny_dictSet_pairs (knd:=PySem.strKind X.prog X.w) (k:=aj kk) (by simp[PySem.strKind,Value.isStrOf]) pl (fun h' gX hs => ?_) (by have:=bM hz;simp[← q.length];omega))))
 obtain⟨i₃,y₃,e₃,y'⟩:=c₂.turned (tk:=s₂.toks+1) rfl (by obtain⟨_,_,_,e,_⟩:=gX;rw[e];exact fun q=>nomatch q) hs
 exact p _ _ _ i₃ (((y₁.trans y₂).weaken fun ω f=>f.elim).trans y₃) e₃ ⟨nz,_,gX,(q.stored kk r₂).ext y'⟩
noncomputable def dk(η:be)(i:Nat):Bool:=match η[i]? with
 | some v=>uU v
 | none=>true
noncomputable def dE:List aA→MG→MG
 | [],_,_,σ,acc=>some (σ,acc)
 | b::bs,m,η,σ,acc=>oB (b η σ) fun η' σ=>oB (m η' σ acc) fun σ acc=>dE bs m η σ acc
noncomputable def eQ(own:List Nat)(mi:MI)(m:MG):MG:=fun η σ acc=>if own.all (dk η)then oB (mi η σ) fun bs σ=>dE bs m η σ acc else none
noncomputable def bA(t:MT)(m:MG):MG:=fun η σ acc=>oT (t η σ) (fun σ=>m η σ acc) (fun σ=>some (σ,acc))
noncomputable def i6(own:List Nat)(b:aA):Prop:=∀η σ η' σ',b η σ=some (η',σ')→∀i,own.contains i=false→η'[i]? = η[i]?
noncomputable def kH(own:List Nat)(mi:MI):Prop:=∀η σ bs σ',mi η σ=some (bs,σ')→∀b∈bs,i6 own b
theorem aU.back{h:Heap}{η':be}(e:aU X Z ρ h cenv vis η')(hb:∀i,η[i]? = η'[i]? ∨ dk η i=true):aU X Z ρ h cenv vis η:=by
 have key:∀i (av:AV),η[i]? = some av→av=.unbound∨η'[i]? = some av:=fun i av h=>by
  rcases hb i with q | q
  ·exact .inr (q ▸ h)
  ·unfold dk at q
   rw[h]at q
   cases av with
   | unbound=>exact .inl rfl
   | _=>exact Bool.noConfusion q
 obtain⟨m,hn,hm⟩:=e.ns
 refine⟨e.kind,e.glob,e.bltn,⟨m,hn,fun x i av h1 h2 h3 => ?_⟩,fun x i h1 h2 => ?_,e.own,e.ownc,e.apart⟩
 ·rcases key i av h3 with q | q
  ·exact .inl q
  ·exact hm x i av h1 h2 q
 ·obtain⟨c,w,hc,hw,hv⟩:=e.cel x i h1 h2
  refine⟨c,w,hc,hw,fun av h3 => ?_⟩
  rcases key i av h3 with q | q
  ·exact .inl q
  ·exact hv av q
inductive H4(X:Cx)(own:List Nat)(mB:MG)(σ':St)(acc':aO)(vis:List (Str×Nat))(cenv:Env)(D:Addr)(W:Addr→Prop)(Z:Addr→Prop)(ρ:List Addr)(η:be)(s:Shared)(S:(Addr→Prop)→List Addr→List aA→Shared→Prop)(n:Nat)(s':Shared):Prop where
 | mk (Z':Addr→Prop) (ρ':List Addr) (σ₂:St) (acc₂:aO) (r:List aA) (hn:r.length=n) (ho:∀b∈r,i6 own b) (hl:dE r mB η σ₂ acc₂=some (σ',acc')) (i:bL X Z' ρ' σ₂ s') (y:a9 (fun a=>(gN vis cenv a∨a=D)∨W a) Z ρ s Z' ρ' s')
   (e:aU X Z' ρ' s'.heap cenv vis η) (st:S Z' ρ' r s') (r:dc X ρ' Z' s'.heap acc₂ D)
theorem mw{h h':Heap}{D:Addr}(k:∀o,h.get? D=some o→h'.get? D=some o)(n:h.get? D≠none):h'.get? D≠none:=by
 cases q2:h.get? D with
 | none=>exact absurd q2 n
 | some o=>rw[k o q2];exact fun q=>nomatch q
theorem wu{e:Expr}{gens:List Comprehension}{d:Nat}{g:Comprehension}{own:List Nat}{mB:MG}(hc:bO gens e)(hg:gens[d]? = some g)(ha:g.is_async=0)(hB:nN X k sc vis e gens g.ifs d mB)
  {D I:Addr} {W:Addr→Prop} {S} (src:Eu X k sc vis A cenv g.target I W S) {bs:List aA} {acc:aO} (c:CC X k sc vis A cenv D Z ρ σ η acc s) (st:S Z ρ bs s)
  (hW:∀a,W a→a≠D∧cw A a) (ho:∀b∈bs,i6 own b) (hu:own.all (dk η)=true) {σ':St} {acc':aO} (el:dE bs mB η σ acc=some (σ',acc')) {R:Result→Shared→Prop}
  {Z₀ ρ₀ s₀} (y₀:a9 (fun a=>gN vis cenv a∨a=D) Z₀ ρ₀ s₀ Z ρ s) (hW0:∀a,W a→s₀.heap.get? a=none)
  (hR:∀Z' ρ' s',bL X Z' ρ' σ' s'→a9 (fun a=>gN vis cenv a∨a=D) Z₀ ρ₀ s₀ Z' ρ' s'→aU X Z' ρ' s'.heap cenv vis η→dc X ρ' Z' s'.heap acc' D→db X Z' ρ' D→s'.heap.get? D≠none→R (.ok .next) s') :
  codeAny (model X.prog X.w) A (.compLoop e d (.ref I) (.ref D) cenv) R s:=by
 have hT:∀a,(gN vis cenv a∨a=D)∨W a→cw A a:=fun a t=>t.elim (c.nof a) fun w=>(hW a w).2
 have hD : ¬ W D:=fun w=>(hW D w).1 rfl
 refine ie hc hg ha (H4 X own mB σ' acc' vis cenv D W Z ρ η s S) ?_ bs.length ⟨Z,ρ,σ,acc,bs,rfl,ho,el,c.ec.c.inv,a9.refl ..,c.ec.e,st,c.acc⟩
 rintro n s' ⟨Z',ρ',σ₂,acc₂,r,hn,ho',hl,i₂,y₂,e₂,st₂,r₂⟩
 have c₂:=c.step i₂ y₂ e₂ r₂ hT
 cases r with
 | nil =>
  refine src.nil _ _ _ st₂ _ _ fun h' tk hk => ?_
  have hf:=src.free _ _ _ _ st₂
  have hk':=fun o e=>hk D o hD e
  refine qe (P:=fun σ₂ acc₂=>bL X Z' ρ' σ₂ { s' with heap:=h',toks:=tk } → dc X ρ' Z' h' acc₂ D→R (.ok .next) { s' with heap:=h',toks:=tk }) (Option.some.inj hl) (fun i r => ?_) (i₂.touch hk fun a w=>(hf a w).1)
   (r₂.mono (fun a o f e=>hk a o (fun w=>(hf a w).1.1 f) e) (fun ω f=>f) List.prefix_rfl hk' id)
  exact hR _ _ _ i (a9.last (X:=X) ((y₀.weaken fun a t=>.inl t).trans y₂) hk hW0) (e₂.touchW hk hf) r c₂.dfree (mw hk' c₂.dlive)
 | cons b r =>
  rw[← show r.length+1=n from hn]
  refine aD hl fun η₃ σ₃ hb1 hl=>aD hl fun σ₄ acc₄ hm hl => ?_
  refine wpAny_mono (src.cons Z' ρ' σ₂ η s' b r c₂.ec st₂ _ _ hb1 (fun s₃=>wpAny (model X.prog X.w) A (fM e gens g.ifs (eH e (.ref D) cenv) d (.ref D) cenv) (fun ω s₃=>∃m,m<r.length+1 ∧
    H4 X own mB σ' acc' vis cenv D W Z ρ η s S m s₃) (notedBy (model X.prog X.w) A cenv fun e s'=>R (.error e) s') s₃) _ ?_) ?_ (fun ω ω q=>q)
  ·intro Z₃ ρ₃ s₃ i₃ y₃ e₃ st₃
   have r₃:=r₂.ext y₃ (fun t=>t.elim (fun t=>c.down t.own) hD) c₂.dfree.2.1 c₂.dlive
   have c₃:=c₂.step i₃ y₃ e₃ r₃ fun a t=>t.elim (fun t=>c.nof a (.inl t)) fun w=>(hW a w).2
   refine hB.run A cenv D Z₃ ρ₃ σ₃ η₃ acc₂ s₃ c₃ _ _ hm _ _ fun Z₄ ρ₄ s₄ i₄ y₄ e₄ r₄ => ?_
   have hfr:=src.free _ _ _ _ st₃
   refine⟨r.length,Nat.lt_succ_self _,Z₄,ρ₄,σ₄,acc₄,r,rfl,fun b' h=>ho' b' (List.mem_cons_of_mem _ h),hl,i₄,(y₂.trans (y₃.weaken fun a t=>t.imp .inl id)).trans (y₄.weaken fun a t=>.inl t),e₄.back fun i => ?_,
    src.keep _ _ _ _ _ _ _ _ st₃ (fun a w t=>t.elim (fun t=>(hfr a w).2 t.own) fun q=>(hW a w).1 q) y₄,r₄⟩
   cases hi:own.contains i with
   | true=>exact .inr (List.all_eq_true.mp hu i (List.contains_iff_mem.mp hi))
   | false=>exact .inl ((ho' b List.mem_cons_self _ _ _ _ hb1 i hi).symm)
  ·rintro r₁ s₃ ⟨v,hr,hv⟩
   rw[hr]
   exact hv
end
end
section
open SeqAt
section
variable{X:Cx}{k:Nat}{sc:Scope}{vis:List (Str×Nat)}{A:Around}{env cenv:Env}{Z:Addr→Prop}{ρ:List Addr}{σ:St}{η:be}{s:Shared}
theorem AZ{e:Expr}{gens:List Comprehension}{ifs:List Expr}{d:Nat}{t:MT}{m:MG}(hF:B7 X k sc vis ifs t)
  (h:∀A cenv D,vP X k sc vis A cenv D (fM e gens [] (eH e (.ref D) cenv) d (.ref D) cenv) m):nN X k sc vis e gens ifs d (bA t m):=by
 refine⟨?_⟩
 intro A cenv D Z ρ σ η acc s c σ' acc' e' Q E p
 unfold fM
 refine ln e' (fun σ₁ h1 e' => ?_) fun σ₁ h1 e' => ?_
 ·refine wpAny_bind (hF.run A cenv Z ρ σ η s c.ec _ _ h1 _ _ fun Z₁ ρ₁ s₁ i₁ y₁ => ?_)
  exact h A cenv D Z₁ ρ₁ σ₁ η acc s₁ (c.next i₁ y₁) _ _ e' Q E fun Z₂ ρ₂ s₂ i₂ y₂ e₂ r₂=>p _ _ _ i₂ ((y₁.weaken fun ω f=>f.elim).trans y₂) e₂ r₂
 ·refine wpAny_bind (hF.run A cenv Z ρ σ η s c.ec _ _ h1 _ _ fun Z₁ ρ₁ s₁ i₁ y₁ => ?_)
  rw[if_neg (by decide)]
  have c₁:=c.next i₁ y₁
  have p':=qe (P:=fun σ' acc'=>∀Z' ρ' s',bL X Z' ρ' σ' s'→a9 (fun a=>gN vis cenv a∨a=D) Z ρ s Z' ρ' s'→aU X Z' ρ' s'.heap cenv vis η→dc X ρ' Z' s'.heap acc' D→Q () s') (Option.some.inj e') p
  exact wpAny_pure (p' _ _ _ i₁ (y₁.weaken fun ω f=>f.elim) c₁.ec.e c₁.acc)
theorem bd{e:Expr}{gens:List Comprehension}{ifs:List Expr}{d:Nat}{t:MT}{mE:MG}(hF:B7 X k sc vis ifs t)(hE:B8 X k sc vis e mE)(hg:gens[d+1]? = none:=by rfl):nN X k sc vis e gens ifs d (bA t mE) :=
 AZ hF fun A cenv D=>by
  unfold fM
  rw[hg]
  exact hE.run A cenv D
theorem u1{e:Expr}{gens:List Comprehension}{ifs:List Expr}{d:Nat}{g:Comprehension}{t:MT}{mi:MI}{mB:MG}(own:List Nat)(hc:bO gens e)(hF:B7 X k sc vis ifs t)(hI:ow X k sc vis sc vis g.iter g.target mi)(ho:kH own mi)
  (hB:nN X k sc vis e gens g.ifs (d+1) mB) (hg:gens[d+1]? = some g:=by rfl) (ha:g.is_async=0:=by rfl) (hs:∀env x,foldedSetIterable g.iter env x=pure x:=by intro _ _;rfl):nN X k sc vis e gens ifs d (bA t (eQ own mi mB)):=by
 refine AZ hF fun A cenv D => ?_
 intro Z₁ ρ₁ σ₁ η acc s₁ c₁ σ' acc' e' Q E p
 unfold fM
 rw[hg]
 show wpAny _ A (eval g.iter cenv >>= _) Q E s₁
 refine dh e' fun hu e'=>aD e' fun bs σ₂ h2 e' => ?_
 have key:=hI.run A cenv Z₁ ρ₁ σ₁ η s₁ c₁.ec bs σ₂ h2 (fun it s₂=>wpAny (model X.prog X.w) A (runOwn (.compStart e (d+1) it (.ref D) cenv) cenv) (fun ω s'=>Q () s') E s₂) E ?_
 ·refine wpAny_bind (wpAny_mono key (fun x s₂ h₂=>wpAny_bind (wpAny_standAt ?_)) fun ω ω e=>e)
  rw[ha]
  exact wpAny_bind (wpAny_of_eq (hs cenv x) (wpAny_bind (wpAny_holding (wpAny_mono h₂ (fun it s₃ h₃=>wpAny_bind (wpAny_mono h₃ (fun ω s₄ h₄=>wpAny_pure h₄) fun ω ω e=>e)) fun ω ω e=>e))))
 ·rintro Z₂ ρ₂ s₂ I i₂ y₂ ⟨W,hW,hS⟩
  obtain⟨S,src,hS⟩:=hS cenv
  have c₂:=c₁.next i₂ y₂
  have hWo:∀a,W a → ¬ tE cenv a:=fun a w o=>dA c₁.ec.e o (hW a w).1
  have st:=hS Z₂ ρ₂ s₂ (a9.refl ..) fun a w=>⟨(hW a w).2.2,hWo a w⟩
  refine wpAny_runOwn ?_
  have loop:=wu hc hg ha hB src c₂ st (fun a w=>⟨fun q=>c₁.dlive (q ▸ (hW a w).1),cw.fresh c₁.ec.c (hW a w).1⟩) (ho _ _ _ _ h2) hu e' (Z₀:=Z₁) (ρ₀:=ρ₁) (s₀:=s₁) (y₂.weaken fun ω f=>f.elim) (fun a w=>(hW a w).1)
   (R:=fun r s'=>match r with | .ok f=>(fun ω s'=>Q () s') f s' | .error e=>cameBackBy (model X.prog X.w) A cenv E e s') fun Z₃ ρ₃ s₃ i₃ y₃ e₃ r₃ ω ω=>p _ _ _ i₃ y₃ e₃ r₃
  exact d3 hc hg ha loop (src.self _ _ _ _ _ _ st loop)
theorem ig:∀(names:List (Str×NameKind)) (h:Heap) (acc:List (Str×Addr)),∃new,cellsFrom h.objs.size names acc=new++acc ∧
  (∀n c,(n,c)∈new→h.get? c=none∧(pushCells h names).IsCell c none∧(n,NameKind.cell)∈names)∧(new.Pairwise fun x y=>x.2≠y.2)∧(∀n,(n,NameKind.cell)∈names→∃c,(n,c)∈new):=by
 intro l₀
 induction l₀ with
 | nil =>
  intro h acc
  exact⟨[],rfl,fun ω ω m=>(nomatch m),.nil,fun ω m=>(nomatch m)⟩
 | cons p₀ r ih₀ =>
  obtain⟨name,kind⟩:=p₀
  intro h acc
  unfold cellsFrom pushCells
  by_cases hk:kind=.cell
  ·subst hk
   simp only[beq_self_eq_true,if_true]
   obtain⟨new,e,h1,h2,h3⟩:=ih₀ (h.push { cls:=.type "cell",data:=.cell none }) ((name,h.objs.size)::acc)
   rw[Heap.size_push]at e
   have hsz:(h.push { cls:=.type "cell",data:=.cell none }).get? h.objs.size=some { cls:=.type "cell",data:=.cell none } := Heap.get?_push_size _ rfl
   refine⟨new ++ [(name,h.objs.size)],by rw[e];simp,fun n c m => ?_,?_,fun n m => ?_⟩
   ·rcases List.mem_append.mp m with m | m
    ·obtain⟨a1,a2,a3⟩:=h1 n c m
     refine⟨?_,a2,List.mem_cons_of_mem _ a3⟩
     cases q:h.get? c with
     | none=>rfl
     | some o=>rw[Heap.get?_push_of_some _ q]at a1;cases a1
    ·simp at m
     obtain⟨rfl,rfl⟩:=m
     exact⟨bx h,⟨_,pushCells_keeps r _ _ _ hsz,rfl⟩,List.mem_cons_self⟩
   ·refine List.pairwise_append.mpr ⟨h2,List.pairwise_singleton _ _,fun x hx y hy q => ?_⟩
    simp at hy;subst hy
    have:=(h1 x.1 x.2 hx).1
    rw[q,hsz]at this;cases this
   ·rcases List.mem_cons.mp m with m | m
    ·cases m;exact⟨_,List.mem_append_right _ List.mem_cons_self⟩
    ·obtain⟨c,hc⟩:=h3 n m;exact⟨c,List.mem_append_left _ hc⟩
  ·have:(kind==NameKind.cell)=false:=by simpa using hk
   simp only[this,Bool.false_eq_true,if_false]
   obtain⟨new,e,h1,h2,h3⟩:=ih₀ h acc
   refine⟨new,e,fun n c m=>⟨(h1 n c m).1,(h1 n c m).2.1,List.mem_cons_of_mem _ (h1 n c m).2.2⟩,h2,fun n m => ?_⟩
   rcases List.mem_cons.mp m with m | m
   ·cases m;exact absurd rfl hk
   ·exact h3 n m
noncomputable def ng(scope:Scope):List Str:=((scope.names.filter fun p=>p.2==.free).map (·.1)).reverse
noncomputable def fP(scope:Scope)(env:Env):List (Str×Addr):=(ng scope).map fun n=>(n,(env.cells.lookup n).getD 0)
theorem l0{scope:Scope}(h:∀n∈ng scope,(env.cells.lookup n).isSome=true):closureFor scope env=pure (fP scope env):=by
 have key:∀(names:List (Str×NameKind)) (acc:List (Str×Addr)),(∀n∈((names.filter fun p=>p.2==.free).map (·.1)).reverse,(env.cells.lookup n).isSome=true) →
   (forIn names acc fun x r=>if(x.2==NameKind.free)=true then do let y ← cellOf env x.1;pure (ForInStep.yield ((x.1,y)::r))else pure (ForInStep.yield r):Sem (List (Str×Addr)))
    = pure ((((names.filter fun p=>p.2==.free).map (·.1)).reverse.map fun n=>(n,(env.cells.lookup n).getD 0))++acc):=by
  intro names
  induction names with
  | nil=>intro acc _;rfl
  | cons p r ih =>
   intro acc hh
   obtain⟨n,kd⟩:=p
   rw[List.forIn_cons]
   by_cases hk:kd=.free
   ·subst hk
    have hn:=hh n (by simp)
    obtain⟨c,hc⟩:=Option.isSome_iff_exists.mp hn
    have hce:cellOf env n=pure c:=by unfold cellOf;rw[hc]
    simp only[beq_self_eq_true,if_true,hce,pure_bind]
    rw[ih _ (fun m hm=>hh m (by simp at hm ⊢;exact .inl hm))]
    simp[hc]
   ·have:(kd==NameKind.free)=false:=by simpa using hk
    simp only[this,Bool.false_eq_true,if_false,pure_bind]
    rw[ih _ (fun m hm=>hh m (by simpa [this] using hm))]
    simp[this]
 have:=key scope.names [] h
 unfold closureFor fP ng
 simp only[List.append_nil]at this
 simp only[pure_bind,bind_pure]at this ⊢
 exact this
noncomputable def eO(scope sc:Scope):Scope :=
 { scope with names:=scope.names.map fun(n,k)=>if(k==.free&&sc.kind==.function&&sc.names.lookup n==some .cell)then(n,.cell)else(n,k) }
theorem ui{scope:Scope}(h:env.scope=sc):relabel scope env=eO scope sc:=by subst h;rfl
noncomputable def ic(sc scope:Scope)(vis vis2:List (Str×Nat))(own:List Nat):Bool :=
 scope.kind==.function&&decide ((scope.names.map (·.1)).Nodup)&&((eO scope sc).names.lookup (".0" : Str)).isSome &&
 (scope.names.all fun p=>p.2 != .free||(!z6 vis2 p.1&&(sc.names.lookup p.1==some .cell||sc.names.lookup p.1==some .free)&&(vis.lookup p.1).isSome)) &&
 vis2.all fun p=>match (eO scope sc).names.lookup p.1 with
  | some .local=>own.contains p.2
  | some .cell=>if scope.names.contains (p.1,.cell)then own.contains p.2 else scope.names.contains (p.1,.free)&&vis.lookup p.1==some p.2
  | some .free=>if scope.names.contains (p.1,.cell)then own.contains p.2 else scope.names.contains (p.1,.free)&&vis.lookup p.1==some p.2
  | _=>true
theorem qq:∀{names:List (Str×NameKind)} {x:Str} {kd:NameKind},(names.map (·.1)).Nodup→(x,kd)∈names→names.lookup x=some kd:=by
 intro l₀
 induction l₀ with
 | nil=>intro _ _ _ hm;exact nomatch hm
 | cons p₀ r ih₀ =>
  obtain⟨n,k⟩:=p₀
  intro x kd hn hm
  simp only[List.map_cons,List.nodup_cons]at hn
  rw[List.lookup_cons]
  rcases List.mem_cons.mp hm with e | hm'
  ·cases e;simp
  ·have:(x==n)=false:=by
    rw[beq_eq_false_iff_ne]
    rintro rfl
    exact hn.1 (List.mem_map.mpr ⟨(x,kd),hm',rfl⟩)
   rw[this]
   exact ih₀ hn.2 hm'
theorem lq{scope:Scope}{n:Str} : n∈ng scope↔(n,NameKind.free)∈scope.names:=by
 unfold ng
 simp
theorem du:∀{l:List (Str×Addr)} {n:Str} {c:Addr},(n,c)∈l→∃c',l.lookup n=some c':=by
 intro l₀
 induction l₀ with
 | nil=>intro _ _ h;exact nomatch h
 | cons p₀ r ih₀ =>
  obtain⟨x,y⟩:=p₀
  intro n c h
  rw[List.lookup_cons]
  cases hb:n==x with
  | true=>exact⟨_,rfl⟩
  | false =>
   rcases List.mem_cons.mp h with e | h
   ·cases e;simp at hb
   ·exact ih₀ h
theorem fg{l r:List (Str×Addr)}{n:Str} : (l++r).lookup n=match l.lookup n with | some c=>some c | none=>r.lookup n:=by
 induction l with
 | nil=>rfl
 | cons p l ih =>
  obtain⟨x,y⟩:=p
  simp only[List.cons_append,List.lookup_cons]
  cases n==x <;> simp[ih]
structure Ih(sc scope:Scope)(vis vis2:List (Str×Nat))(own:List Nat):Prop where
 kind:scope.kind=.function
 nd:(scope.names.map (·.1)).Nodup
 dot:((eO scope sc).names.lookup (".0" : Str)).isSome=true
 free:∀n,(n,NameKind.free)∈scope.names→z6 vis2 n=false∧(sc.names.lookup n=some .cell∨sc.names.lookup n=some .free)∧∃i,vis.lookup n=some i
 loc:∀x i,vis2.lookup x=some i→(eO scope sc).names.lookup x=some .local→own.contains i=true
 cel:∀x i,vis2.lookup x=some i→((eO scope sc).names.lookup x=some .cell∨(eO scope sc).names.lookup x=some .free) →
  ((x,NameKind.cell)∈scope.names∧own.contains i=true)∨((x,NameKind.cell)∉scope.names∧(x,NameKind.free)∈scope.names∧vis.lookup x=some i)
theorem yo{sc scope:Scope}{vis vis2:List (Str×Nat)}{own:List Nat}(ok:ic sc scope vis vis2 own=true):Ih sc scope vis vis2 own:=by
 unfold ic at ok
 obtain⟨ok,hvis⟩:=Bool.and_eq_true_iff.mp ok
 obtain⟨ok,hfree⟩:=Bool.and_eq_true_iff.mp ok
 obtain⟨ok,hdot⟩:=Bool.and_eq_true_iff.mp ok
 obtain⟨hkind,hnd⟩:=Bool.and_eq_true_iff.mp ok
 have hfree:=List.all_eq_true.mp hfree
 have hvis:=List.all_eq_true.mp hvis
 have kind:scope.kind=.function:=by revert hkind;cases scope.kind <;> first | (intro;rfl) | exact fun q=>Bool.noConfusion q
 refine⟨kind,of_decide_eq_true hnd,hdot,fun n hn => ?_,fun x i h1 h2 => ?_,fun x i h1 h2 => ?_⟩
 ·have h1:=hfree _ hn
  simp only[bne_self_eq_false,Bool.false_or,Bool.and_eq_true,Bool.not_eq_true',Bool.or_eq_true,beq_iff_eq]at h1
  exact⟨h1.1.1,h1.1.2,Option.isSome_iff_exists.mp h1.2⟩
 ·have hv:=hvis _ (mem_of_lookup h1)
  rw[h2]at hv;exact hv
 ·have hv:(if scope.names.contains (x,NameKind.cell)=true then own.contains i else scope.names.contains (x,NameKind.free)&&vis.lookup x==some i)=true:=by
   have hv:=hvis _ (mem_of_lookup h1)
   rcases h2 with q | q <;> (rw[q]at hv;exact hv)
  by_cases hc:scope.names.contains (x,NameKind.cell)=true
  ·rw[if_pos hc]at hv
   exact .inl ⟨List.contains_iff_mem.mp hc,hv⟩
  ·rw[if_neg hc]at hv
   have hv:=Bool.and_eq_true_iff.mp hv
   exact .inr ⟨fun q=>hc (List.contains_iff_mem.mpr q),List.contains_iff_mem.mp hv.1,beq_iff_eq.mp hv.2⟩
structure H5(X:Cx)(Z:Addr→Prop)(ρ:List Addr)(s:Shared)(env cenv:Env)(sc2:Scope)(vis2:List (Str×Nat))(η:be)(h':Heap):Prop where
 sc:cenv.scope=sc2
 e:aU X Z ρ h' cenv vis2 η
 loc:s.heap.get? cenv.locals=none
 tur:∀a,gN vis2 cenv a→s.heap.get? a=none
 own:∀a,tE cenv a→tE env a∨s.heap.get? a=none
structure GB(scope:Scope)(env:Env)(vis vis2:List (Str×Nat))(n:Str)(a:Addr):Prop where
 look:env.cells.lookup n=some a
 at':∃i,vis.lookup n=some i∧(env.kindOf n=some .cell∨env.kindOf n=some .free)
 own:z6 vis2 n=false
theorem fJ{scope:Scope}{vis2:List (Str×Nat)}{own:List Nat}(c:EC X k sc vis A env Z ρ σ η s)(ok:Ih sc scope vis vis2 own){n:Str}{a:Addr}(hm:(n,a)∈fP scope env):GB scope env vis vis2 n a:=by
 unfold fP at hm
 obtain⟨m,hm1,hm2⟩:=List.mem_map.mp hm
 have e1:m=n:=congrArg Prod.fst hm2
 have e2:(env.cells.lookup m).getD 0=a:=congrArg Prod.snd hm2
 rw[e1]at hm1 e2
 obtain⟨h1,h2,i,hi⟩:=ok.free n (lq.mp hm1)
 have h2':env.kindOf n=some .cell∨env.kindOf n=some .free:=by unfold Env.kindOf;rw[c.sc];exact h2
 obtain⟨cc,w,hcc,_⟩:=c.e.cel n i hi h2'
 rw[hcc]at e2
 exact⟨hcc.trans (congrArg some e2),⟨i,hi,h2'⟩,h1⟩
theorem rj{own:List Nat}(hu:own.all (dk η)=true){i:Nat}(hi:own.contains i=true){av:AV}(h3:η[i]? = some av):av=.unbound:=by
 have:=List.all_eq_true.mp hu i (List.contains_iff_mem.mp hi)
 unfold dk at this
 rw[h3]at this
 cases av with
 | unbound=>rfl
 | _=>exact Bool.noConfusion this
structure tF(s:Shared)(scope:Scope)(L:Addr)(h':Heap)(new:List (Str×Addr)):Prop where
 is:∀n a,(n,a)∈new→s.heap.get? a=none∧a≠L∧h'.IsCell a none∧(n,NameKind.cell)∈scope.names
 pw:new.Pairwise fun x y=>x.2≠y.2
 all:∀n,(n,NameKind.cell)∈scope.names→∃c,(n,c)∈new
theorem BC{scope:Scope}{vis2:List (Str×Nat)}{own:List Nat}(c:EC X k sc vis A env Z ρ σ η s)(ok:Ih sc scope vis vis2 own)(hu:own.all (dk η)=true){cenv:Env}{h':Heap}{new:List (Str×Addr)}
  (hsc:cenv.scope=eO scope sc) (hg:cenv.globals=mainGlobals) (hb:cenv.builtins=builtinsNs) (hc:cenv.cells=new++fP scope env) (hL:s.heap.get? cenv.locals=none) (kp:∀b o,s.heap.get? b=some o→h'.get? b=some o)
  (hns:h'.Ns cenv.locals (fun ω=>none)) (nw:tF s scope cenv.locals h' new):H5 X Z ρ s env cenv (eO scope sc) vis2 η h':=by
 have fr:∀{a},s.heap.get? a=none → ¬ Z a∧a∉ρ∧X.H₀.get? a=none:=fun {a} h=>by
  refine⟨fun f => ?_,fun f => ?_,?_⟩
  ·obtain⟨o,e⟩:=c.c.inv.fr _ f;rw[h]at e;exact nomatch e
  ·obtain⟨⟨o,e⟩,_⟩:=c.c.inv.old _ f;rw[h]at e;exact nomatch e
  ·cases q:X.H₀.get? a with
   | none=>rfl
   | some o=>have:=c.c.inv.base _ _ q;rw[h]at this;exact nomatch this
 have kd:∀x,cenv.kindOf x=(eO scope sc).names.lookup x:=fun x=>by unfold Env.kindOf;rw[hsc]
 have cellKp:∀{a w},s.heap.IsCell a w→h'.IsCell a w:=fun⟨o,ho,hd⟩=>⟨o,kp _ _ ho,hd⟩
 refine⟨hsc,⟨by rw[hsc];exact ok.kind,hg,hb,⟨_,hns,fun x i av h1 h2 h3=>.inl (rj hu (ok.loc x i h1 ((kd x).symm.trans h2)) h3)⟩,fun x i h1 h2 => ?_,fr hL,fun n a hm => ?_,?_⟩,hL,fun a t => ?_,fun a t => ?_⟩
 ·rw[kd,hc]at *
  rcases ok.cel x i h1 h2 with ⟨h3,h4⟩ | ⟨h3,h4,h5⟩
  ·obtain⟨c1,hc1⟩:=nw.all x h3
   obtain⟨c2,hc2⟩:=du hc1
   exact⟨c2,none,by rw[fg,hc2],(nw.is x c2 (mem_of_lookup hc2)).2.2.1,fun av h3=>.inl (rj hu h4 h3)⟩
  ·have hm:(x,(env.cells.lookup x).getD 0)∈fP scope env:=List.mem_map.mpr ⟨x,lq.mpr h4,rfl⟩
   obtain⟨hl,⟨i',hi',hk'⟩,_⟩:=fJ c ok hm
   obtain⟨cc,w,hcc,hw,hcv⟩:=c.e.cel x i' hi' hk'
   rw[← Option.some.inj (h5.symm.trans hi')]at hcv
   have hnn:new.lookup x=none:=by
    cases q:new.lookup x with
    | none=>rfl
    | some c'=>exact absurd (nw.is x c' (mem_of_lookup q)).2.2.2 h3
   obtain⟨c',hc'⟩:=du hm
   rw[Option.some.inj ((fJ c ok (mem_of_lookup hc')).look.symm.trans hcc)]at hc'
   exact⟨cc,w,by rw[fg,hnn];exact hc',cellKp hw,fun av h3=>(hcv av h3).imp id fun h=>h.imp fun v z=>⟨z.1,z.2.mono (fun a o ω e=>kp a o e) (fun ω f=>f) List.prefix_rfl⟩⟩
 ·rw[hc]at hm
  rcases List.mem_append.mp hm with hm | hm
  ·obtain⟨h1,h2,h3,_⟩:=nw.is n a hm
   have f:=fr h1
   exact⟨f.1,f.2.1,f.2.2,h2,none,h3⟩
  ·obtain⟨a1,a2,a3,a4,w,hw⟩:=c.e.ownc n a (mem_of_lookup (fJ c ok hm).look)
   exact⟨a1,a2,a3,fun q=>cj hw (q ▸ hL),w,cellKp hw⟩
 ·rw[hc]
  refine List.pairwise_append.mpr ⟨nw.pw,?_,fun x hx y hy q => ?_⟩
  ·unfold fP
   rw[List.pairwise_map]
   have:(ng scope).Nodup:=by
    unfold ng
    exact List.pairwise_reverse.mpr (List.Pairwise.imp Ne.symm (ok.nd.sublist ((List.filter_sublist).map _)))
   refine this.imp_of_mem fun {n m} hn hm hne q=>hne ?_
   have l1:=(fJ c ok (List.mem_map.mpr ⟨n,hn,rfl⟩)).look
   have l2:=(fJ c ok (List.mem_map.mpr ⟨m,hm,rfl⟩)).look
   rw[← show(env.cells.lookup n).getD 0=(env.cells.lookup m).getD 0 from q]at l2
   exact name_of_addr c.e.apart (mem_of_lookup l1) (mem_of_lookup l2)
  ·obtain⟨_,_,_,_,w,hw⟩:=c.e.ownc y.1 y.2 (mem_of_lookup (fJ c ok hy).look)
   exact cj hw (q ▸ (nw.is x.1 x.2 hx).1)
 ·rcases t with q | ⟨n,hm,h1⟩
  ·rw[q];exact hL
  ·rw[hc]at hm
   rcases List.mem_append.mp hm with hm | hm
   ·exact(nw.is n a hm).1
   ·rw[(fJ c ok hm).own]at h1;exact Bool.noConfusion h1
 ·rcases t with q | ⟨n,hm⟩
  ·rw[q];exact .inr hL
  ·rw[hc]at hm
   rcases List.mem_append.mp hm with hm | hm
   ·exact .inr (nw.is n a hm).1
   ·exact .inl (.inr ⟨n,mem_of_lookup (fJ c ok hm).look⟩)
theorem xy{scope:Scope}{h:Heap}{o:Obj}(ho:o.isFreed=false){s:Shared}(hs:s.heap=h){h':Heap}(h'q:h'=pushCells (h.push o) scope.names){cl new:List (Str×Addr)}(e:cellsFrom (h.push o).objs.size scope.names cl=new++cl)
  (hn1:∀n c,(n,c)∈new→(h.push o).get? c=none∧(pushCells (h.push o) scope.names).IsCell c none∧(n,NameKind.cell)∈scope.names) (pw:new.Pairwise fun x y=>x.2≠y.2) (all:∀n,(n,NameKind.cell)∈scope.names→∃c,(n,c)∈new) :
  tF s scope h.objs.size h' new where
 is:=fun n a hm=>by
  obtain⟨h1,h2,h3⟩:=hn1 n a hm
  refine⟨?_,fun q => ?_,h'q ▸ h2,h3⟩
  ·rw[hs]
   cases q:h.get? a with
   | none=>rfl
   | some o=>rw[Heap.get?_push_of_some _ q]at h1;exact nomatch h1
  ·rw[q,Heap.get?_push_size _ ho]at h1;exact nomatch h1
 pw:=pw
 all:=all
theorem D9{scope:Scope}{vis2:List (Str×Nat)}{own:List Nat}(c:EC X k sc vis A env Z ρ σ η s)(ok:Ih sc scope vis vis2 own)(hu:own.all (dk η)=true){Q:Env→Shared→Prop}{E}
  (h:∀cenv h',cenv.locals=s.heap.objs.size→(∀b o,s.heap.get? b=some o→h'.get? b=some o)→h'.Ns cenv.locals (fun ω=>none)→H5 X Z ρ s env { cenv with scope:=relabel scope env } (eO scope sc) vis2 η h'→Q cenv { s with heap:=h' }) :
  wpAny (model X.prog X.w) A (newFunctionEnv scope env.globals (fP scope env) [] env.qual none .none (some env)) Q E s:=by
 simp only[newFunctionEnv,Option.isSome_some,if_true]
 refine wpAny_bind (wpAny_alloc ?_)
 refine wpAny_bind (wpAny_layCells _ (fun name kind cells=>by cases hkc:kind==NameKind.cell <;> simp[hkc]) _ _ _ _ ?_)
 rw[List.forIn_nil]
 refine wpAny_bind (wpAny_pure (wpAny_pure ?_))
 obtain⟨new,hnew,hn1,hn2,hn3⟩:=ig scope.names (s.heap.push { cls:=.type "dict",data:=.dict #[] }) (fP scope env)
 have nw:=xy (h':=pushCells (s.heap.push { cls:=.type "dict",data:=.dict #[] }) scope.names) (o := { cls:=.type "dict",data:=.dict #[] }) rfl rfl rfl hnew hn1 hn2 hn3
 have kp:∀b o,s.heap.get? b=some o→(pushCells (s.heap.push { cls:=.type "dict",data:=.dict #[] }) scope.names).get? b=some o:=fun b o e=>pushCells_keeps _ _ _ _ (Heap.get?_push_of_some _ e)
 have hns:(pushCells (s.heap.push { cls:=.type "dict",data:=.dict #[] }) scope.names).Ns s.heap.objs.size (fun ω=>none):=(Heap.Ns.new s.heap (.type "dict")).at' fun o e=>pushCells_keeps _ _ _ _ e
 exact h _ _ rfl kp hns (BC c ok hu (ui c.sc) c.e.glob c.e.bltn hnew (bx _) kp hns nw)
end
end
section
open SeqAt
section
variable{X:Cx}{k:Nat}{sc:Scope}{vis:List (Str×Nat)}{A:Around}{env cenv:Env}{Z:Addr→Prop}{ρ:List Addr}{σ:St}{η:be}{s:Shared}
theorem bL.freeze{D:Addr}(i:bL X Z ρ σ s)(hr:D∉ρ)(hl:s.heap.get? D≠none):bL X (fun a=>Z a∨a=D) ρ σ s where
 base:=i.base
 fr:=fun a f=>by
  rcases f with f | rfl
  ·exact i.fr a f
  ·cases q:s.heap.get? a with
   | none=>exact absurd q hl
   | some o=>exact⟨o,rfl⟩
 len:=i.len
 nd:=i.nd
 old:=i.old
 cells:=fun n a c h1 h2=>(i.cells n a c h1 h2).mono (fun ω ω ω e=>e) (fun ω f=>.inl f) List.prefix_rfl (fun ω e=>e) fun nf f=>f.elim nf fun q=>hr (q ▸ List.mem_of_getElem? h1)
theorem a9.freeze{T Z ρ s Z' ρ' s'}{D:Addr}(y:a9 T Z ρ s Z' ρ' s')(hn:s.heap.get? D=none):a9 T Z ρ s (fun a=>Z' a∨a=D) ρ' s' :=
 { y with
  fmono:=fun a f=>.inl (y.fmono a f)
  fnew:=fun a f=>f.elim (y.fnew a) fun q=>.inr (.inr (q ▸ hn)) }
structure vR(prog:Program)(w:World)(newAcc:Sem Value)(acc:aO)(o:Obj):Prop where
 make:∀A (s:Shared) (Q:Value→Shared→Prop) E,Q (.ref s.heap.objs.size) { s with heap:=s.heap.push o } → wpAny (model prog w) A newAcc Q E s
 live:o.isFreed=false
 rel:∀(X:Cx) Z ρ (h:Heap),X.prog=prog→X.w=w → ¬ Z h.objs.size→dc X ρ Z (h.push o) acc h.objs.size
theorem fA{prog w} : vR prog w (newList []) (.list []) { cls:=.type "list",data:=.seq #[] } where
 make:=fun A s Q E h=>wpAny_newObj_type h
 live:=rfl
 rel:=fun X Z ρ h ω ω hz=>⟨hz,[],⟨0,Heap.get?_push_size _ rfl⟩,ag.nil_iff.mpr rfl⟩
theorem sd{prog w} : vR prog w newDict (.dict []) { cls:=.type "dict",data:=.dict #[] } where
 make:=fun A s Q E h=>wpAny_newObj_type h
 live:=rfl
 rel:=fun X Z ρ h ω ω hz=>⟨hz,[],Heap.DictOf.new h,by show _=_;rfl⟩
theorem gh{e:Expr}{g:Comprehension}{gs:List Comprehension}{scope:Scope}{pos:Pos}{newAcc:Sem Value}{acc₀:aO}{o₀:Obj}{vis2:List (Str×Nat)}{own:List Nat}{mi:MI}{mB:MG}{use:Option (Value→Sem Unit)}
  (hc:bO (g::gs) e) (ha:g.is_async=0) (hs:∀env x,foldedSetIterable g.iter env x=pure x) (na:vR X.prog X.w newAcc acc₀ o₀) (ok:ic sc scope vis vis2 own=true)
  (hI:ow X k sc vis (eO scope sc) vis2 g.iter g.target mi) (hO:kH own mi) (hB:nN X k (eO scope sc) vis2 e (g::gs) g.ifs 0 mB)
  (c:EC X k sc vis A env Z ρ σ η s) {σ':St} {acc':aO} (el:eQ own mi mB η σ acc₀=some (σ',acc')) {Q:Value→Shared→Prop} {E:Value→Shared→Prop}
  (hfin:∀Z' ρ' s' D C,bL X Z' ρ' σ' s'→a9 T0 Z ρ s Z' ρ' s'→dc X ρ' Z' s'.heap acc' D→db X Z' ρ' D→s.heap.get? D=none→s'.heap.get? D≠none→db X Z' ρ' C→s.heap.get? C=none→(∃m,s'.heap.Ns C m)→C≠D→(D==sysModules)=false →
   compPost (model X.prog X.w) A E use Q (.ref D) C (.ok .next) s') :
  wpAny (model X.prog X.w) A (comprehension e scope env pos newAcc false (eval g.iter env) use) Q E s:=by
 have ok:=yo ok
 refine dh el fun hu el=>aD el fun bs σ₁ h1 el => ?_
 refine wpAny_comprehension_free hc.clauses (hs env) (l0 fun n hn => ?_) ok.kind (fun x hx hl=>qq ok.nd (by rw[← hl];exact hx))
  (hI.run A env Z ρ σ η s c bs σ₁ h1 (fun it s₂=>wpAny (model X.prog X.w) A newAcc (fun acc s₃=>wpAny (model X.prog X.w) A (newFunctionEnv scope env.globals (fP scope env) [] env.qual none .none (some env)) (fun cenv s₄ =>
   codeAny (model X.prog X.w) A (.compStart e 0 it acc { cenv with scope:=relabel scope env }) (compPost (model X.prog X.w) A E use Q acc cenv.locals) s₄) E s₃) E s₂) E ?_)
 ·obtain⟨_,h2,i,hi⟩:=ok.free n (lq.mp hn)
  have h2':env.kindOf n=some .cell∨env.kindOf n=some .free:=by unfold Env.kindOf;rw[c.sc];exact h2
  obtain⟨cc,w,hcc,_⟩:=c.e.cel n i hi h2'
  rw[hcc];rfl
 ·rintro Z₂ ρ₂ s₂ I i₂ y₂ ⟨W,hW,hS⟩
  refine na.make _ _ _ _ ?_
  have kD:∀b o,s₂.heap.get? b=some o→(s₂.heap.push o₀).get? b=some o:=fun b o e=>Heap.get?_push_of_some _ e
  have i₃:bL X Z₂ ρ₂ σ₁ { s₂ with heap:=s₂.heap.push o₀ } := i₂.touch (W:=fun ω=>False) (tk:=s₂.toks) (fun b o' ω e=>kD b o' e) fun a f=>f.elim
  have y₃:a9 T0 Z₂ ρ₂ s₂ Z₂ ρ₂ { s₂ with heap:=s₂.heap.push o₀ } := a9.touch (X:=X) (W:=fun ω=>False) (tk:=s₂.toks) (fun b o' ω e=>kD b o' e) (fun a f=>f.elim) (fun a f=>f.elim) fun a f=>f
  have fD:=cZ i₂
  have lD:(s₂.heap.push o₀).get? s₂.heap.objs.size≠none:=by rw[Heap.get?_push_size _ na.live];exact fun q=>nomatch q
  have rD:dc X ρ₂ Z₂ (s₂.heap.push o₀) acc₀ s₂.heap.objs.size:=na.rel X Z₂ ρ₂ s₂.heap rfl rfl fD.1
  have c₃:=(c.next i₂ y₂).next i₃ y₃
  refine D9 c₃ ok hu fun cenv h' hC kh hns ce => ?_
  have i₄:bL X Z₂ ρ₂ σ₁ { s₂ with heap:=h' } := i₃.touch (W:=fun ω=>False) (tk:=s₂.toks) (fun b o' ω e=>kh b o' e) fun a f=>f.elim
  have y₄:a9 T0 Z₂ ρ₂ { s₂ with heap:=s₂.heap.push o₀ } Z₂ ρ₂ { s₂ with heap:=h' } := a9.touch (X:=X) (W:=fun ω=>False) (tk:=s₂.toks) (fun b o' ω e=>kh b o' e) (fun a f=>f.elim) (fun a f=>f.elim) fun a f=>f
  have c₄:=c₃.next i₄ y₄
  have y24:=y₃.trans y₄
  have y04:=y₂.trans y24
  have al:∀a,(s₂.heap.push o₀).get? a=none→s.heap.get? a=none:=fun a h=>cp (y₂.trans y₃).alive h
  have dD:s.heap.get? s₂.heap.objs.size=none:=cp y₂.alive (bx _)
  have lD4:h'.get? s₂.heap.objs.size≠none:=by
   cases q:(s₂.heap.push o₀).get? s₂.heap.objs.size with
   | none=>exact absurd q lD
   | some o=>rw[kh _ _ q];exact fun q=>nomatch q
  have cc:CC X k (eO scope sc) vis2 A { cenv with scope:=relabel scope env } s₂.heap.objs.size Z₂ ρ₂ σ₁ η acc₀ { s₂ with heap:=h' } := by
   refine⟨⟨c₄.c,ce.sc,ce.e,fun q=>by have hdot:=ok.dot;rw[ce.sc]at q;rw[q]at hdot;exact Bool.noConfusion hdot⟩,rD.ext y₄ (fun f=>f) fD.2.1 lD,lD4,fD,fun o => ?_,fun a t => ?_⟩
   ·rcases ce.own _ o with o | o
    ·exact dA c.e o dD
    ·exact lD o
   ·rcases t with t | q
    ·exact cw.fresh c.c (al a (ce.tur a t))
    ·rw[q];exact cw.fresh c.c dD
  obtain⟨S,src,hS⟩:=hS { cenv with scope:=relabel scope env }
  have hWo:∀a,W a → ¬ tE { cenv with scope:=relabel scope env } a:=fun a w o=>by
   rcases ce.own a o with o | o
   ·exact dA c.e o (hW a w).1
   ·exact(hW a w).2.1 (cp y₃.alive o)
  have st:=hS Z₂ ρ₂ _ y24 fun a w=>⟨(hW a w).2.2.next y24 (hW a w).2.1,hWo a w⟩
  have loop:codeAny (model X.prog X.w) A (.compLoop e 0 (.ref I) (.ref s₂.heap.objs.size) { cenv with scope:=relabel scope env }) (compPost (model X.prog X.w) A E use Q (.ref s₂.heap.objs.size) cenv.locals) { s₂ with heap:=h' } := by
   refine wu hc rfl ha hB src cc st (fun a w=>⟨fun q=>(hW a w).2.1 (q ▸ bx _),cw.fresh c.c (hW a w).1⟩) (hO _ _ _ _ h1) hu el (Z₀:=Z) (ρ₀:=ρ) (s₀:=s) (y04.weaken fun ω f=>f.elim) (fun a w=>(hW a w).1) ?_
   intro Z₅ ρ₅ s₅ i₅ y₅ e₅ r₅ f₅ l₅
   have tf:∀a,(gN vis2 { cenv with scope:=relabel scope env } a∨a=s₂.heap.objs.size)→T0 a∨s.heap.get? a=none:=fun a t=>t.elim (fun t=>.inr (al a (ce.tur a t))) fun q=>.inr (q ▸ dD)
   have y05:=y₅.drop tf
   have hC':s.heap.get? cenv.locals=none:=al _ ce.loc
   have hCD:cenv.locals≠s₂.heap.objs.size:=fun q=>lD (q ▸ ce.loc)
   obtain⟨m,hm,_⟩:=e₅.ns
   exact hfin Z₅ ρ₅ s₅ _ _ i₅ y05 r₅ f₅ dD l₅ ⟨e₅.own.1,e₅.own.2.1,e₅.own.2.2⟩ hC' ⟨m,hm⟩ hCD (mF i₂)
  exact d3 hc rfl ha loop (src.self _ _ _ _ _ _ st loop)
noncomputable def aK(own:List Nat)(mi:MI)(mB:MG):ME:=fun η σ=>oB (eQ own mi mB η σ (.list [])) fun σ c=>Ie c fun l=>some (.list l,σ)
noncomputable def jj(own:List Nat)(mi:MI)(mB:MG):ME:=fun η σ=>oB (eQ own mi mB η σ (.dict [])) fun σ c=>IQ c fun l=>some (.dict l,σ)
theorem oQ{acc':aO}{av:AV}{σ':St}{Q:Value→Shared→Prop}{Z' ρ' s'}{D C:Addr}(p:cH X Z ρ s av σ' Q)(hval:∀h',(∀o,s'.heap.get? D=some o→h'.get? D=some o)→fR Z' s'.heap h'→dc X ρ' Z' s'.heap acc' D→aq X ρ' (fun a=>Z' a∨a=D) h' av (.ref D))
  (i:bL X Z' ρ' σ' s') (y:a9 T0 Z ρ s Z' ρ' s') (r:dc X ρ' Z' s'.heap acc' D) (fD:db X Z' ρ' D) (dD:s.heap.get? D=none) (lD:s'.heap.get? D≠none) (fC:db X Z' ρ' C) (dC:s.heap.get? C=none) (hCD:C≠D)
  (h':Heap) (hs:Heap.SameBut C s'.heap h'):Q (.ref D) { s' with heap:=h' } := by
 have hk:∀b o,¬ (b=C)→s'.heap.get? b=some o→h'.get? b=some o:=fun b o hb e=>(hs.2 b hb).trans e
 have i1:bL X Z' ρ' σ' { s' with heap:=h' } := i.touch (W:=fun a=>a=C) (tk:=s'.toks) hk fun a q=>q ▸ fC
 have y1:a9 T0 Z ρ s Z' ρ' { s' with heap:=h' } := a9.last (X:=X) (W:=fun a=>a=C) (tk:=s'.toks) (y.weaken fun ω f=>f.elim) hk fun a q=>q ▸ dC
 have kD:=fun o q=>hk D o (Ne.symm hCD) q
 exact p _ _ _ _ (i1.freeze fD.2.1 (mw kD lD)) (y1.freeze dD) (hval h' kD (fun a o f e=>hk a o (fun q=>fC.1 (q ▸ f)) e) r)
theorem rh{l:List AV}{Z':Addr→Prop}{ρ':List Addr}{h h':Heap}{D:Addr}(kD:∀o,h.get? D=some o→h'.get? D=some o)(kz:fR Z' h h')(r:dc X ρ' Z' h (.list l) D):aq X ρ' (fun a=>Z' a∨a=D) h' (.list l) (.ref D):=by
 obtain⟨_,vs,⟨n,e⟩,q⟩:=r
 show ∃_,_
 exact⟨D,vs,rfl,.inr rfl,⟨n,kD _ e⟩,q.mono kz (fun ω f=>.inl f) List.prefix_rfl⟩
theorem yG{l:List (List Nat×AV)}{Z':Addr→Prop}{ρ':List Addr}{h h':Heap}{D:Addr}(hsys:(D==sysModules)=false)(kD:∀o,h.get? D=some o→h'.get? D=some o)(kz:fR Z' h h')(r:dc X ρ' Z' h (.dict l) D):aq X ρ' (fun a=>Z' a∨a=D) h' (.dict l) (.ref D):=by
 obtain⟨_,es,⟨o,ds,ep,e,r⟩,q⟩:=r
 show ∃_,_
 exact⟨D,es,rfl,.inr rfl,hsys,⟨o,ds,ep,kD _ e,r⟩,q.mono kz (fun ω f=>.inl f) List.prefix_rfl⟩
theorem bf{elt target iter:Expr}{ifs:List Expr}{gs:List Comprehension}{scope:Scope}{pos:Pos}{mi:MI}{mB:MG}(vis2:List (Str×Nat))(own:List Nat)(ok:ic sc scope vis vis2 own=true)
  (hI:ow X k sc vis (eO scope sc) vis2 iter target mi) (hO:kH own mi) (hB:nN X k (eO scope sc) vis2 (.ListComp elt (⟨target,iter,ifs,0⟩::gs) scope pos) (⟨target,iter,ifs,0⟩::gs) ifs 0 mB)
  (hs:∀env x,foldedSetIterable iter env x=pure x:=by intro _ _;rfl):bu X k sc vis (.ListComp elt (⟨target,iter,ifs,0⟩::gs) scope pos) (aK own mi mB):=by
 refine⟨?_⟩
 intro A env Z ρ σ η s c av σ' e Q E p
 refine aD e fun σ₁ c' h1 e => ?_
 refine kj (P:=fun c'=>eQ own mi mB η σ (.list [])=some (σ₁,c')→_) e (fun l e h1 => ?_) h1
 replace p:=p.of e
 refine gh (g:=⟨target,iter,ifs,0⟩) (use:=none) (.list ..) rfl hs fA ok hI hO hB c h1 fun Z' ρ' s' D C i y r fD dD lD fC dC hm hCD hsys=>hm.imp fun m hm=>⟨hm,fun h' hs' => ?_⟩
 exact oQ p (fun ω kD kz r=>rh kD kz r) i y r fD dD lD fC dC hCD h' hs'
theorem v4{kx vx target iter:Expr}{ifs:List Expr}{gs:List Comprehension}{scope:Scope}{pos:Pos}{mi:MI}{mB:MG}(vis2:List (Str×Nat))(own:List Nat)(ok:ic sc scope vis vis2 own=true)
  (hI:ow X k sc vis (eO scope sc) vis2 iter target mi) (hO:kH own mi) (hB:nN X k (eO scope sc) vis2 (.DictComp kx vx (⟨target,iter,ifs,0⟩::gs) scope pos) (⟨target,iter,ifs,0⟩::gs) ifs 0 mB)
  (hs:∀env x,foldedSetIterable iter env x=pure x:=by intro _ _;rfl):bu X k sc vis (.DictComp kx vx (⟨target,iter,ifs,0⟩::gs) scope pos) (jj own mi mB):=by
 refine⟨?_⟩
 intro A env Z ρ σ η s c av σ' e Q E p
 refine aD e fun σ₁ c' h1 e => ?_
 refine wT (P:=fun c'=>eQ own mi mB η σ (.dict [])=some (σ₁,c')→_) e (fun l e h1 => ?_) h1
 replace p:=p.of e
 refine gh (g:=⟨target,iter,ifs,0⟩) (use:=none) (.dict ..) rfl hs sd ok hI hO hB c h1 fun Z' ρ' s' D C i y r fD dD lD fC dC hm hCD hsys=>hm.imp fun m hm=>⟨hm,fun h' hs' => ?_⟩
 exact oQ p (fun ω kD kz r=>yG hsys kD kz r) i y r fD dD lD fC dC hCD h' hs'
theorem mC{x:Str}{pos':Pos}{b:AV→aA}{η₁:be}{σ₂ σ₃:St}{av:AV}{Z':Addr→Prop}{ρ':List Addr}{s':Shared}{D C:Addr}{Q:Flow→Shared→Prop}{E:Value→Shared→Prop}(ht:kB X k sc vis (.Name x pos') b)(c:EC X k sc vis A env Z ρ σ η s)(p:iq X Z ρ s env vis .next η₁ σ₃ Q E)
  (i:bL X Z' ρ' σ₂ s') (y:a9 T0 Z ρ s Z' ρ' s') (rv:aq X ρ' (fun a=>Z' a∨a=D) s'.heap av (.ref D)) (fD:db X Z' ρ' D) (dD:s.heap.get? D=none) (lD:s'.heap.get? D≠none) (fC:db X Z' ρ' C) (dC:s.heap.get? C=none) (hC:∃m,s'.heap.Ns C m) (hCD:C≠D)
  (h2:b av η σ₂=some (η₁,σ₃)) {E':Value→Shared→Prop} :
  wpAny (model X.prog X.w) A (assign (.Name x pos') env (.ref D)) (fun ω s'=>∃m,s'.heap.Ns C m∧∀h',Heap.SameBut C s'.heap h'→Q .next { s' with heap:=h' }) E' s':=by
 have i1:=i.freeze fD.2.1 lD
 have y1:=y.freeze dD
 refine ht.run A env _ ρ' _ η s' (c.next i1 y1) av (.ref D) rv _ _ h2 _ _ fun Z₂ ρ₂ s₂ i₂ y₂ e₂ => ?_
 obtain⟨m,hm⟩:=hC
 have lC:s'.heap.get? C≠none:=cM hm
 have fC1:db X (fun a=>Z' a∨a=D) ρ' C:=⟨fun f=>f.elim fC.1 hCD,fC.2⟩
 have tC : ¬ gN vis env C:=fun t=>dA c.e t.own dC
 refine⟨m,f5 (fun o e=>y₂.keep C o e tC fC1.2.1) hm,fun h' hs' => ?_⟩
 have hk:∀b o,¬ (b=C)→s₂.heap.get? b=some o→h'.get? b=some o:=fun b o hb e=>(hs'.2 b hb).trans e
 have fC2:=fC1.next y₂ lC
 exact p _ _ _ (i₂.touch (W:=fun a=>a=C) (tk:=s₂.toks) hk fun a q=>q ▸ fC2)
  (a9.last (X:=X) (W:=fun a=>a=C) (tk:=s₂.toks) ((y1.weaken fun ω f=>f.elim).trans (y₂.weaken fun ω t=>.inl t)) hk fun a q=>q ▸ dC)
  (e₂.touchW hk fun a q=>q ▸ ⟨fC2,fun t=>dA c.e t dC⟩)
theorem dK{elt target iter:Expr}{ifs:List Expr}{gs:List Comprehension}{scope:Scope}{pos pos' spos:Pos}{x:Str}{mi:MI}{mB:MG}{b:AV→aA}(vis2:List (Str×Nat))(own:List Nat)(ok:ic sc scope vis vis2 own=true)
  (hI:ow X k sc vis (eO scope sc) vis2 iter target mi) (hO:kH own mi) (hB:nN X k (eO scope sc) vis2 (.ListComp elt (⟨target,iter,ifs,0⟩::gs) scope pos) (⟨target,iter,ifs,0⟩::gs) ifs 0 mB)
  (ht:kB X k sc vis (.Name x pos') b) (hsw:iK sc fun env=>swapsWith (.ListComp elt (⟨target,iter,ifs,0⟩::gs) scope pos) (some (.Name x pos')) spos.line env=pure true)
  (hs:∀env x,foldedSetIterable iter env x=pure x:=by intro _ _;rfl):ku X k sc vis (.Assign [.Name x pos'] (.ListComp elt (⟨target,iter,ifs,0⟩::gs) scope pos) spos) (aX (aK own mi mB) b):=by
 refine⟨?_⟩
 intro A env Z ρ σ η s c o η' σ' e Q E p
 refine aD e fun a σ₁ h0 e=>aD h0 fun σ₂ c' h1 h0 => ?_
 refine kj (P:=fun c'=>eQ own mi mB η σ (.list [])=some (σ₂,c')→_) h0 (fun l h0 h1 => ?_) h1
 have h0:=Option.some.inj h0
 rw[← show _=a from congrArg Prod.fst h0,← show _=σ₁ from congrArg Prod.snd h0]at e
 refine aD e fun η₁ σ₃ h2 e => ?_
 rw[exec_Assign_Name_used _ _ _ _ (hsw env c.sc)]
 refine wpAny_bind (wpAny_standAt (wpAny_bind ?_))
 show wpAny _ A (do let _ ← comprehension (.ListComp elt (⟨target,iter,ifs,0⟩::gs) scope pos) scope env _ (newList []) false (eval iter env) (some (assign (.Name x pos') env))) _ _ s
 refine wpAny_bind (wpAny_mono (gh (g:=⟨target,iter,ifs,0⟩) (use:=some (assign (.Name x pos') env)) (Q:=fun ω s'=>Q .next s') (.list ..) rfl hs fA ok hI hO hB c h1 fun Z' ρ' s' D C i y r fD dD lD fC dC hC hCD hsys => ?_) (fun ω s' hq=>wpAny_pure (wpAny_pure hq)) fun ω ω e=>e)
 show wpAny _ A (assign (.Name x pos') env (.ref D)) _ _ _
 exact mC ht c (p.of e) i y (rh (fun ω e=>e) (fun ω ω ω e=>e) r) fD dD lD fC dC hC hCD h2
end
end
section
open SeqAt
noncomputable def bo(X:Cx)(x:Str)(f:Value):Prop :=
 ∀(A:Around) (env:Env) (s:Shared) (Q:Value→Shared→Prop) (E:Value→Shared→Prop),env.globals=mainGlobals→env.builtins=builtinsNs→(∀b o,X.H₀.get? b=some o→s.heap.get? b=some o)→Q f s→wpAny (model X.prog X.w) A (loadGlobal env x) Q E s
abbrev eB:=List AV→St→Option (AV×St)
structure a8(X:Cx)(k:Nat)(f:Value)(op:eB):Prop where
 run:∀A Z ρ σ s,VC X k A Z ρ σ s→∀l vs,ag X ρ Z s.heap l vs→qR X A Z ρ s (call f vs) (op l σ)
section
variable{X:Cx}{k:Nat}{sc:Scope}{vis:List (Str×Nat)}{A:Around}{env cenv:Env}{Z:Addr→Prop}{ρ:List Addr}{σ:St}{η:be}{s:Shared}
noncomputable def au(r:ML)(op:eB):ME:=fun η σ=>oB (r η σ) fun l σ=>op l σ
theorem dT{M:Model}{f:Value}{cR:List (Bool×Sem Value)}(hp:cR.any (·.1)=false){Q:Args→Shared→Prop}{E}(h:wpAny M A (spliced cR) (fun vs s'=>Q ⟨vs,[]⟩ s') E s):wpAny M A (evalArgs f true cR []) Q E s:=by
 cases cR with
 | nil =>
  unfold evalArgs
  show wpAny M A (spliced [] >>= _) Q E s
  refine wpAny_bind (wpAny_mono h (fun vs s' h' => ?_) fun ω ω x=>x)
  refine wpAny_holding ?_
  exact wpAny_bind (wpAny_pure (wpAny_bind (wpAny_pure (wpAny_pure h'))))
 | cons p rest =>
  obtain⟨b,x⟩:=p
  cases b with
  | false=>exact PySem.Calls.evalArgs_plain h
  | true=>exact nomatch hp
theorem bq{M:Model}{pos:Pos}{f:Value}{first:List Value}{cR:List (Bool×Sem Value)}{Q:Value→Shared→Prop}{E}(hf:∀a,f≠.ref a)(hplain:cR.any (·.1)=false)
  (h:wpAny M A (spliced cR) (fun vs s₁=>wpAny M A (call f (first++vs)) Q E s₁) E s):wpAny M A (callWith pos f first cR []) Q E s:=by
 have km:keeperOf f=pure Keeper.machine:=by
  cases f with
  | ref a=>exact absurd rfl (hf a)
  | _=>rfl
 unfold callWith
 refine wpAny_bind (wpAny_holding (wpAny_mono (dT (Q:=fun a s₁=>wpAny M A (call f (first++a.pos) a.kw) Q E s₁) hplain h) (fun a s₁ h₁=>wpAny_bind (wpAny_standAt ?_)) fun ω ω x=>x))
 simp only[hplain,List.any_nil,Bool.or_false]
 refine wpAny_bind (wpAny_of_eq km ?_)
 exact wpAny_bind (wpAny_mono h₁ (fun r s₂ hr=>wpAny_bind (wpAny_holding (wpAny_point (wpAny_pure hr)))) fun ω ω x=>x)
theorem ba{x:Str}{p pos:Pos}{es:List Expr}{f:Value}{r:ML}{op:eB}(G:bo X x f)(hf:∀a,f≠.ref a)(ok:a8 X k f op)(hr:iT X k sc vis es r)(hh:sA sc x=true:=by decide +kernel)
   (hp:∀env,(backTo pos (starEach es env)).any (·.1)=false:=by intro _;rfl):bu X k sc vis (.Call (.Name x p) es [] pos) (au r op):=by
 obtain⟨hk,hd⟩:=jT hh
 refine⟨?_⟩
 intro A env Z ρ σ η s c av σ' e Q E p
 refine aD e fun l σ₁ h1 e => ?_
 have hk':env.kindOf x=some .globalImplicit:=by unfold Env.kindOf;rw[c.sc];exact hk
 refine wpAny_Call_NameR (wpAny_Name ?_ hd)
 rw[PyProof.Rows.loadName_read c.e.kind hk']
 refine G _ _ _ _ _ c.e.glob c.e.bltn c.c.inv.base ?_
 refine bq hf (hp env) (hr.run A env Z ρ σ η s pos c _ _ h1 _ _ fun Z₁ ρ₁ vs₁ s₁ i₁ y₁ r₁ => ?_)
 exact ok.run A Z₁ ρ₁ σ₁ s₁ (c.next i₁ y₁).c l vs₁ r₁ _ _ e _ _ (p.pass y₁)
noncomputable def zf(a:AV):Option String:=nR none a (str:=fun ω=>some "str") (bytes:=fun ω=>some "bytes") (mtch:=fun ω=>some "re.Match") (pat:=some "re.Pattern") (list:=fun ω=>some "list") (tup:=fun ω=>some "tuple") (dict:=fun ω=>some "dict") (dicti:=fun ω=>some "dict")
noncomputable def vt:aO→Option String
 | .list _=>some "list"
 | .dict _=>some "dict"
 | .dicti _=>some "dict"
 | .dead v=>zf v
noncomputable def pL(σ:St)(a:AV):Option String:=nR (zf a) a (cell:=fun n=>o1 σ[n]? vt)
noncomputable def Gw(s:Shared)(v:Value)(T:String):Prop:=s.TypeIs v T∧∀b,v=.ref b→∃ob,s.heap.get? b=some ob∧ob.dict=none
theorem dJ{b:Addr}{o:Obj}{T:String}(ho:s.heap.get? b=some o)(h1:o.cls=.type T)(h2:o.dict=none):Gw s (.ref b) T :=
 ⟨⟨o,ho,h1⟩,fun b' q=>⟨o,by injection q with q;rw[← q];exact ho,h2⟩⟩
theorem rm(i:bL X Z ρ σ s){a:AV}{v:Value}{T:String}(r:aq X ρ Z s.heap a v)(e:zf a=some T):Gw s v T:=by
 cases a with
 | str x=>rw[← oE e];obtain⟨t,r⟩:=r;rw[r];exact⟨typeIs_str ..,fun b q=>nomatch q⟩
 | bytes x=>rw[← oE e];obtain⟨t,r⟩:=r;rw[r];exact⟨rfl,fun b q=>nomatch q⟩
 | mtch g =>
  rw[← oE e];obtain⟨b,sp,mo,so,q,_,_,ho,_,h⟩:=r
  obtain⟨_,_,_,_,_,_,_,_,_,hq,_⟩:=h
  rw[q];rw[hq]at ho;exact dJ ho rfl rfl
 | pat =>
  rw[← oE e];rw[(r:_=_)]
  obtain⟨ob,h1,h2,h3⟩:=X.patOk
  exact dJ (i.base _ _ h1) h2 h3
 | list l=>rw[← oE e];obtain⟨b,vs,q,_,⟨n,ho⟩,_⟩:=r;rw[q];exact dJ ho rfl rfl
 | tup l=>rw[← oE e];obtain⟨b,vs,q,_,⟨n,ho⟩,_⟩:=r;rw[q];exact dJ ho rfl rfl
 | dict l=>rw[← oE e];obtain⟨b,vs,q,_,_,⟨o,es,ep,ho,⟨h1,h2,h3⟩,_⟩,_⟩:=r;rw[q];exact dJ ho h1 h2
 | dicti l=>rw[← oE e];obtain⟨b,vs,q,_,_,⟨o,es,ep,ho,⟨h1,h2,h3⟩,_⟩,_⟩:=r;rw[q];exact dJ ho h1 h2
 | _=>exact oN e
theorem vW(i:bL X Z ρ σ s){a:AV}{v:Value}{T:String}(r:aq X ρ Z s.heap a v)(e:pL σ a=some T):Gw s v T:=by
 cases a with
 | cell n =>
  refine aG e fun c hl e => ?_
  obtain⟨b,hb,q⟩:=r
  rw[q]
  have z:=i.cells _ _ _ hb hl
  cases c with
  | list l=>rw[← oE e];obtain⟨_,vs,⟨n,ho⟩,_⟩:=z;exact dJ ho rfl rfl
  | dict l=>rw[← oE e];obtain⟨_,vs,⟨o,es,ep,ho,⟨h1,h2,h3⟩,_⟩,_⟩:=z;exact dJ ho h1 h2
  | dicti l=>rw[← oE e];obtain⟨_,vs,⟨o,es,ep,ho,⟨h1,h2,h3⟩,_⟩,_⟩:=z;exact dJ ho h1 h2
  | dead v=>exact rm i z e
 | _=>exact rm i r e
structure iU(T:String)(name:Str)(id:String):Prop where
 pa:PlainAttrs T
 slot:Slot T name id
 ty:typeOf (.builtin id)=pure (.type "method_descriptor")
noncomputable def br(T:String)(m:ME)(r:ML)(op:eB):ME:=fun η σ=>oB (m η σ) fun a σ=>if pL σ a=some T then oB (r η σ) fun l σ=>op (a::l) σ else none
theorem cx{o:Expr}{name:Str}{apos pos:Pos}{es:List Expr}{T id:String}{m:ME}{r:ML}{op:eB}(M:iU T name id)(ok:a8 X k (.builtin id) op)(hm:bu X k sc vis o m)(hr:iT X k sc vis es r)
  (hbase:∀env,attributeBase o name env (eval o env)=eval o env:=by intro _;rfl) (hp:∀env,(backTo pos (starEach es env)).any (·.1)=false:=by intro _;rfl)
  (hfew:∀env,((backTo pos (starEach es env)).all (fun x => !x.1)&&(backToKw pos (keywordEach [] env)).all (fun x=>x.1.isSome)&&decide (es.length+([]:List Keyword).length+(if([]:List Keyword).isEmpty then 0 else 1)<30))=true:=by intro _;rfl)
  (hline:(apos.endLine==pos.line)=true:=by rfl):bu X k sc vis (.Call (.Attribute o name apos) es [] pos) (br T m r op):=by
 refine⟨?_⟩
 intro A env Z ρ σ η s c av σ' e Q E p
 refine aD e fun a σ₁ h1 e => ?_
 refine dh e fun hT e => ?_
 refine aD e fun l σ₂ h2 e => ?_
 refine wpAny_Call_method (hbase env) (hfew env) hline M.pa M.slot M.ty (hm.run A env Z ρ σ η s c _ _ h1 _ _ fun Z₁ ρ₁ v₁ s₁ i₁ y₁ r₁ => ?_)
 obtain⟨t1,t2⟩:=vW i₁ r₁ hT
 refine⟨t1,t2,bq (fun ω q=>by cases q) (hp env) (hr.run A env Z₁ ρ₁ σ₁ η s₁ pos (c.next i₁ y₁) _ _ h2 _ _ fun Z₂ ρ₂ vs₂ s₂ i₂ y₂ r₂ => ?_)⟩
 exact ok.run A Z₂ ρ₂ σ₂ s₂ ((c.next i₁ y₁).next i₂ y₂).c (a::l) (v₁::vs₂) (ag.cons (r₁.ext y₂) r₂) _ _ e _ _ ((p.pass y₁).pass y₂)
end
end
section
open PySem PySem.W PyProof.Rows PySem.StrLaws
noncomputable def dg(x:List Nat)(c lo:Nat):List Nat:=(List.range' lo (x.length - lo)).filter fun i=>x[i]? == some c
theorem w9(x:List Nat)(c i:Nat):Builtin.Str.subAt (aj x) (aj [c]) i=(x[i]? == some c):=by
 unfold Builtin.Str.subAt aj
 show(x.toArray.extract i (i+1) == [c].toArray)=_
 rw[Bool.eq_iff_iff,beq_iff_eq,beq_iff_eq]
 constructor
 ·intro h
  have h2:=congrArg Array.toList h
  simp at h2
  have h3:((x.drop i).take 1)[0]? = some c:=by rw[h2];rfl
  simpa [List.getElem?_drop,List.getElem?_take] using h3
 ·intro h
  apply Array.ext'
  simp
  have hlt:=(List.getElem?_eq_some_iff.mp h).1
  apply List.ext_getElem?
  intro j
  cases j with
  | zero=>simp[List.getElem?_take,h]
  | succ j =>
   simp[List.getElem?_take]
theorem Ai(x:List Nat)(c limit:Nat):∀(n lo:Nat) (found:Array Nat) (free:Nat),free≤lo→lo+n=x.length+1 →
  (forIn (List.range' lo n) (found,free) (occBody (aj x) (aj [c]) x.length limit)).run.fst.toList=found.toList++(dg x c lo).take (limit - found.size):=by
 intro l₀
 induction l₀ with
 | zero =>
  intro lo found free hf hn
  have:x.length - lo=0:=by trivial
  simp[dg,this]
 | succ n ih₀ =>
  intro lo found free hf hn
  rw[List.range'_succ,List.forIn_cons]
  unfold occBody
  rw[w9]
  have hsub:(aj [c]).length=1:=rfl
  by_cases hlt:lo<x.length
  ·have hp:dg x c lo=(if x[lo]? == some c then[lo]else[])++dg x c (lo+1):=by
    unfold dg
    rw[show x.length - lo=(x.length - (lo+1))+1 by trivial,List.range'_succ,List.filter_cons]
    split <;> simp
   by_cases hc:(x[lo]? == some c)=true
   ·rw[hp,if_pos hc]
    by_cases hl:found.size<limit
    ·rw[if_pos ⟨⟨⟨hl,hf⟩,by rw[hsub];trivial⟩,hc⟩]
     refine(ih₀ (lo+1) (found.push lo) (lo+(aj [c]).length) (by rw[hsub];exact Nat.le_refl _) (by trivial)).trans ?_
     rw[Array.size_push,show limit - found.size=(limit - (found.size+1))+1 by trivial]
     simp
    ·rw[if_neg (fun h=>hl h.1.1.1)]
     refine(ih₀ (lo+1) found free (by trivial) (by trivial)).trans ?_
     rw[show limit - found.size=0 by trivial]
     simp
   ·rw[if_neg (fun h=>hc h.2),hp,if_neg hc]
    exact ih₀ (lo+1) found free (by trivial) (by trivial)
  ·have hn0:n=0:=by trivial
   subst hn0
   have : ¬ (lo+(aj [c]).length≤x.length):=by rw[hsub];trivial
   rw[if_neg (fun h=>this h.1.2)]
   have e1:x.length - lo=0:=by trivial
   simp[dg,e1]
theorem Dm(x:List Nat)(c lo limit:Nat)(h:lo≤x.length+1):Builtin.Str.occurrences (aj x) (aj [c]) lo x.length limit=(dg x c lo).take limit:=by
 rw[occ_eq]
 have:=Ai x c limit (x.length+1 - lo) lo #[] lo (Nat.le_refl _) (by omega)
 simpa using this
noncomputable def bp(c:Nat):List Nat→List (List Nat)
 | [] => [[]]
 | x::r=>if x=c then[]::bp c r else match bp c r with
  | h::t=>(x::h)::t
  | [] => [[x]]
noncomputable def da(x:List Nat):Nat→List Nat→List (List Nat)
 | i,[] => [x.drop i]
 | i,j::js=>(x.take j).drop i::da x (j+1) js
theorem gJ(x:List Nat)(cuts:List Nat):Builtin.Str.partsBetween (aj x) cuts 1=(da x 0 cuts).map aj:=by
 unfold Builtin.Str.partsBetween
 have key:∀(cuts:List Nat) (i:Nat),((i::cuts.map (·+ 1)).zip (cuts ++ [(aj x).length])).map (fun(p:Nat×Nat)=>Builtin.Str.strSub (aj x) p.1 p.2)=(da x i cuts).map aj:=by
  intro cuts
  induction cuts with
  | nil =>
   intro i
   simp[da,Builtin.Str.strSub,aj,Str.length]
   exact List.take_of_length_le (by simp)
  | cons j js ih =>
   intro i
   simp only[List.map_cons,List.cons_append,List.zip_cons_cons,da]
   rw[ih (j+1)]
   congr 1
   simp[Builtin.Str.strSub,aj,List.drop_take]
 exact key cuts 0
theorem ur(x:List Nat)(c:Nat):∀(n i:Nat),i+n=x.length→da x i (dg x c i)=bp c (x.drop i):=by
 intro l₀
 induction l₀ with
 | zero =>
  intro i h
  have:x.length - i=0:=by trivial
  have h2:x.drop i = []:=List.drop_eq_nil_of_le (by trivial)
  simp[dg,this,da,h2,bp]
 | succ n ih₀ =>
  intro i h
  have hlt:i<x.length:=by trivial
  have hp:dg x c i=(if x[i]? == some c then[i]else[])++dg x c (i+1):=by
   unfold dg
   rw[show x.length - i=(x.length - (i+1))+1 by trivial,List.range'_succ,List.filter_cons]
   split <;> simp
  rw[List.drop_eq_getElem_cons hlt,hp]
  have ih:=ih₀ (i+1) (by trivial)
  by_cases hc:x[i]=c
  ·have:(x[i]? == some c)=true:=by simp[List.getElem?_eq_getElem hlt,hc]
   rw[if_pos this]
   simp only[List.cons_append,List.nil_append,da]
   rw[ih]
   unfold bp
   rw[if_pos hc]
   simp
   cases hx:x.drop (i+1) <;> simp[bp]
  ·have : ¬ (x[i]? == some c)=true:=by simp[List.getElem?_eq_getElem hlt,hc]
   rw[if_neg this]
   simp only[List.nil_append]
   conv=>rhs;unfold bp
   rw[if_neg hc,← ih]
   -- the first piece gains a sign
   have hge:∀j∈dg x c (i+1),i+1≤j:=fun j hj=>by
    unfold dg at hj
    have:=(List.mem_filter.mp hj).1
    exact(List.mem_range'_1.mp this).1
   cases hpl:dg x c (i+1)with
   | nil=>simp only[da];rw[List.drop_eq_getElem_cons hlt]
   | cons j js =>
    have hj:=hge j (by rw[hpl];exact List.mem_cons_self)
    simp only[da]
    congr 1
    have hl2:i<(x.take j).length:=by simp;trivial
    rw[List.drop_eq_getElem_cons hl2]
    simp
end
section
open SeqAt
section
variable{X:Cx}{k:Nat}{sc:Scope}{vis:List (Str×Nat)}{A:Around}{env cenv:Env}{Z:Addr→Prop}{ρ:List Addr}{σ:St}{η:be}{s:Shared}
noncomputable def cR{β:Type}(l:List AV)(f1:AV→Option β)(f2:AV→AV→Option β)(f3:AV→AV→AV→Option β):Option β:=match l with
 | [a]=>f1 a
 | [a,b]=>f2 a b
 | [a,b,c]=>f3 a b c
 | _=>none
abbrev yD{β:Type} : AV→Option β:=fun ω=>none
abbrev wi{β:Type} : AV→AV→Option β:=fun ω ω=>none
abbrev oW{β:Type} : AV→AV→AV→Option β:=fun ω ω ω=>none
theorem gk{β:Type}{r:β}{h:Heap}{l:List AV}{vs:List Value}{f1:AV→Option β}{f2:AV→AV→Option β}{f3:AV→AV→AV→Option β}{P:List Value→Prop}(e:cR l f1 f2 f3=some r)(q:ag X ρ Z h l vs)
  (k1:∀a v,aq X ρ Z h a v→f1 a=some r→P [v]) (k2:∀a b v w,aq X ρ Z h a v→aq X ρ Z h b w→f2 a b=some r→P [v,w])
  (k3:∀a b c v w u,aq X ρ Z h a v→aq X ρ Z h b w→aq X ρ Z h c u→f3 a b c=some r→P [v,w,u]):P vs:=by
 cases l with
 | nil=>exact oN e
 | cons a l =>
  obtain⟨v,t,hv,r1,q⟩:=ag.cons_iff.mp q
  rw[hv]
  cases l with
  | nil=>rw[ag.nil_iff.mp q];exact k1 a v r1 e
  | cons b l =>
   obtain⟨w,t,hw,r2,q⟩:=ag.cons_iff.mp q
   rw[hw]
   cases l with
   | nil=>rw[ag.nil_iff.mp q];exact k2 a b v w r1 r2 e
   | cons c l =>
    obtain⟨u,t,hu,r3,q⟩:=ag.cons_iff.mp q
    rw[hu]
    cases l with
    | nil=>rw[ag.nil_iff.mp q];exact k3 a b c v w u r1 r2 r3 e
    | cons=>exact oN e
theorem il{β:Type}{r:β}{h:Heap}{l:List AV}{vs:List Value}{f1:AV→Option β}{P:List Value→Prop}(e:cR l f1 wi oW=some r)(q:ag X ρ Z h l vs)(k1:∀a v,aq X ρ Z h a v→f1 a=some r→P [v]):P vs :=
 gk e q k1 (fun ω ω ω ω ω ω=>oN) fun ω ω ω ω ω ω ω ω ω=>oN
theorem nD{β:Type}{r:β}{h:Heap}{l:List AV}{vs:List Value}{f2:AV→AV→Option β}{P:List Value→Prop}(e:cR l yD f2 oW=some r)(q:ag X ρ Z h l vs)(k2:∀a b v w,aq X ρ Z h a v→aq X ρ Z h b w→f2 a b=some r→P [v,w]):P vs :=
 gk e q (fun ω ω ω=>oN) k2 fun ω ω ω ω ω ω ω ω ω=>oN
theorem HU{β:Type}{r:β}{h:Heap}{l:List AV}{vs:List Value}{f3:AV→AV→AV→Option β}{P:List Value→Prop}(e:cR l yD wi f3=some r)(q:ag X ρ Z h l vs)
  (k3:∀a b c v w u,aq X ρ Z h a v→aq X ρ Z h b w→aq X ρ Z h c u→f3 a b c=some r→P [v,w,u]):P vs :=
 gk e q (fun ω ω ω=>oN) (fun ω ω ω ω ω ω=>oN) k3
noncomputable def GJ{β:Type}(x:List Nat)(f:Nat→Option β):Option β:=match x with
 | [c]=>f c
 | _=>none
theorem nC{β:Type}{r:β}{x:List Nat}{f:Nat→Option β}{P:List Nat→Prop}(e:GJ x f=some r)(k:∀c,f c=some r→P [c]):P x:=by
 match x,e with
 | [],e=>exact oN e
 | [c],e=>exact k c e
 | _::_::_,e=>exact oN e
noncomputable def AH(σ:St)(a:AV):Option Nat:=match cA σ a with
 | some xs=>some xs.length
 | none=>match et σ a with
  | some xs=>some xs.length
  | none=>Cg a none lH lH (fun x=>some x.length) lH lH (fun x=>some x.length)
noncomputable def dH:eB:=fun l σ=>cR l (fun a=>o1 (AH σ a) fun n=>if dX n then i8 n σ else none) wi oW
theorem ii:a8 X k (.builtin "len") dH:=by
 refine⟨?_⟩
 intro A Z ρ σ s c l vs r av σ' e Q E p
 refine il (P:=fun vs=>wpAny (model X.prog X.w) A (call (.builtin "len") vs) Q E s) e r fun a v r e => ?_
 refine aG e fun n hn e=>dh e fun hz e => ?_
 have hz:=dm hz
 have fin:=fun t=>(p.of e).tok c.inv (v:=.int n t) (bw ..) (t+1)
 unfold AH at hn
 cases hx:cA σ a with
 | some xs =>
  rw[hx]at hn
  obtain⟨b,ws,hv,pl,q⟩:=b7 c.inv r hx
  rw[hv]
  have hl:ws.toArray.size=n:=q.length.symm.trans (oE hn)
  refine PySem.Calls.call_len_list pl.isList (by trivial) ?_
  rw[hl];exact fin _
 | none =>
  rw[hx]at hn
  cases hx:et σ a with
  | some xs =>
   rw[hx]at hn
   obtain⟨b,ws,hv,hs,dd,q⟩:=eT c.inv r hx
   rw[hv]
   have hl:ws.length=n:=q.length.symm.trans (oE hn)
   refine PySem.call_len_dict hs dd (by trivial) ?_
   rw[hl];exact fin _
  | none =>
   rw[hx]at hn
   refine ca hn r oN (fun ω=>oN) (fun ω ω=>oN) (fun x t hn => ?_) (fun ω ω=>oN) (fun ω ω ω ω ω ω=>oN) (fun x b ws ω pt q hn => ?_)
   ·have hl:(aj x).length=n:=(aF x).trans (oE hn)
    refine PyProof.Rows.len_str (by trivial) ?_
    rw[hl];exact fin _
   ·have hl:ws.toArray.size=n:=q.length.symm.trans (oE hn)
    refine PyProof.Rows.len_tuple pt.isTuple (by trivial) ?_
    rw[hl];exact fin _
noncomputable def EX(i:Int):List Nat:=(Str.ofString (toString i)).cps.toList
theorem tV(i:Int):Str.ofString (toString i)=aj (EX i):=by simp[aj,EX]
noncomputable def Dp:eB:=fun l σ=>cR l (fun a=>fT a fun i=>if i.natAbs<2 ^ 64 then some (.str (EX i),σ)else none) wi oW
theorem HH:a8 X k (.type "str") Dp:=by
 refine⟨?_⟩
 intro A Z ρ σ s c l vs r av σ' e Q E p
 refine il (P:=fun vs=>wpAny (model X.prog X.w) A (call (.type "str") vs) Q E s) e r fun a v r e=>aQ e r fun i t e=>dh e fun hz e => ?_
 refine PySem.P.str_of_int ?_ ((p.of e).tok c.inv (dz (tV i) _) _)
 rcases Nat.eq_zero_or_pos i.natAbs with e0 | e0
 ·rw[e0];decide
 ·exact Nat.lt_of_lt_of_le ((Nat.log2_lt (Nat.ne_of_gt ‹_›)).mpr hz) (by decide)
noncomputable def lr:List AV→Option (List Int)
 | []=>some []
 | a::r=>fT a fun i=>o1 (lr r) fun l=>some (i::l)
theorem x3{h:Heap} : ∀{l:List AV} {is:List Int} {vs:List Value},lr l=some is→ag X ρ Z h l vs→IntsAre vs is:=by
 intro l
 induction l with
 | nil=>intro is vs e r;rw[ag.nil_iff.mp r,← oE e];exact .nil
 | cons a l ih =>
  intro is vs e r
  obtain⟨v,t,hv,r1,r2⟩:=ag.cons_iff.mp r
  rw[hv]
  refine aQ (P:=fun v=>IntsAre (v::t) is) e r1 fun i u e=>aG e fun l' hl e => ?_
  rw[← oE e]
  exact .cons i u (ih hl r2)
noncomputable def jL:eB:=fun l σ=>cR l (fun a=>o1 (cA σ a) fun xs=>o1 (lr xs) fun is=>i8 is.sum σ) wi oW
theorem wL:a8 X k (.builtin "sum") jL:=by
 refine⟨?_⟩
 intro A Z ρ σ s c l vs r av σ' e Q E p
 refine il (P:=fun vs=>wpAny (model X.prog X.w) A (call (.builtin "sum") vs) Q E s) e r fun a v r e=>aG e fun xs hx e=>aG e fun is hi e => ?_
 obtain⟨b,ws,hv,pl,q⟩:=b7 c.inv r hx
 rw[hv]
 have ia:=x3 hi q
 obtain⟨ys,hy⟩:=ia.allInts.items
 have hl:=pl.isList
 rw[hy]at hl
 refine sum_intListG c.hnd hl fun h' tk t' hk => ?_
 have e1:preSum (numAt ys) ys.size=is.sum:=by
  rw[preSum_eq,List.take_of_length_le (by simp),← ia.numsOf]
  have:=nums_intItems ys
  rw[← hy]at this
  simp at this
  rw[this]
 rw[e1]
 exact(p.of e).grow c.inv (P:=fun ω=>False) hk (fun a f=>f.elim) (bw ..)
noncomputable def aR:eB:=fun l σ=>cR l (fun b=>fT b fun b=>some (.range 0 b 1,σ)) (fun a b=>fT a fun a=>fT b fun b=>some (.range a b 1,σ))
 (fun a b c=>fT a fun a=>fT b fun b=>fT c fun c=>if c≠0&&decide (a.natAbs<1000)&&decide (b.natAbs<1000)&&decide (c.natAbs<1000)then some (.range a b c,σ)else none)
theorem bI:a8 X k (.type "range") aR:=by
 refine⟨?_⟩
 intro A Z ρ σ s c l vs r av σ' e Q E p
 have fin:∀(a b c':Int) (t u w tk:Nat),some (.range a b c',σ)=some (av,σ')→Q (.ref s.heap.objs.size) { s with heap:=s.heap.push { cls:=.type "range",data:=.fields #[.int a t,.int b u,.int c' w] },toks:=tk } := by
  intro a b c' t u w tk e
  refine(p.of e).push c.inv rfl ?_
  show ∃_,_
  exact⟨_,t,u,w,rfl,.inr rfl,Heap.get?_push_size _ rfl⟩
 refine gk (P:=fun vs=>wpAny (model X.prog X.w) A (call (.type "range") vs) Q E s) e r (fun a v r e=>aQ e r fun i t e => ?_) (fun a b v w r r' e=>aQ e r fun i t e=>aQ e r' fun j u e => ?_)
  (fun a b c' v w u r r' r'' e=>aQ e r fun i t e=>aQ e r' fun j u e=>aQ e r'' fun m x e=>dh e fun hz e => ?_)
 ·exact PySem.call_range_1 (fin _ _ _ _ _ _ _ e)
 ·exact PySem.call_range_2 (fin _ _ _ _ _ _ _ e)
 ·simp only[Bool.and_eq_true,decide_eq_true_eq]at hz
  exact PySem.call_range_3 hz.1.1.1 (fin _ _ _ _ _ _ _ e) (Or.inl (PyProof.noPylong_small (by trivial)))
noncomputable def qj:eB:=fun l σ=>cR l (fun a=>match cA σ a with
 | some xs=>Cv xs σ
 | none=>HT a fun x=>some (.tup x,σ)) wi oW
theorem wK:a8 X k (.type "tuple") qj:=by
 refine⟨?_⟩
 intro A Z ρ σ s c l vs r av σ' e Q E p
 refine il (P:=fun vs=>wpAny (model X.prog X.w) A (call (.type "tuple") vs) Q E s) e r fun a v r e => ?_
 cases hx:cA σ a with
 | some xs =>
  rw[hx]at e
  refine dh e fun hz e => ?_
  obtain⟨b,ws,hv,pl,q⟩:=b7 c.inv r hx
  rw[hv]
  refine PySem.call_tuple_list pl.isList (fun h' hk => ?_) (by have:=bM hz;simp[← q.length];omega)
  have i2:=c.inv.touch (W:=fun ω=>False) (tk:=s.toks) (h':=h') (fun b o' ω e=>hk b o' e) fun a f=>f.elim
  have y2:a9 T0 Z ρ s Z ρ { s with heap:=h' } := a9.touch (X:=X) (W:=fun ω=>False) (tk:=s.toks) (fun b o' ω e=>hk b o' e) (fun a f=>f.elim) (fun a f=>f.elim) fun a f=>f
  exact((p.of e).pass y2).newTup i2 (q.ext y2) (tk:=s.toks)
 | none =>
  rw[hx]at e
  refine mc e r fun x b ws f pt q e => ?_
  exact PyProof.Rows.call_tuple_tup pt.isTuple ((p.of e).here c.inv (gQ f pt q))
noncomputable def FV:eB:=fun l σ=>cR l (fun a=>iI a fun x=>if x.length≤640 then o1 (PySem.intText? (aj x)) fun n=>i8 n σ else none) wi oW
theorem HL:a8 X k (.type "int") FV:=by
 refine⟨?_⟩
 intro A Z ρ σ s c l vs r av σ' e Q E p
 refine il (P:=fun vs=>wpAny (model X.prog X.w) A (call (.type "int") vs) Q E s) e r fun a v r e=>bj e r fun x t e=>dh e fun hz e=>aG e fun n hn e => ?_
 exact PySem.W.KIN.call_text hn (by rw[aF];exact hz) ((p.of e).tok c.inv (bw ..) _)
theorem Hj{name:Str}{id:String}(slot:Slot "str" name id)(ty:typeOf (.builtin id)=pure (.type "method_descriptor")):iU "str" name id:=⟨F.plainAttrs_str,slot,ty⟩
noncomputable def dS(x:List Nat)(c lo:Nat):Int:=match dg x c lo with
 | i::_=>(i:Int)
 | [] => -1
noncomputable def mO:eB:=fun l σ=>cR l yD (fun a b=>iI a fun x=>iI b fun y=>GJ y fun c=>i8 (dS x c 0) σ)
 (fun a b i=>iI a fun x=>iI b fun y=>fT i fun i=>GJ y fun c=>if decide (0≤i)&&decide (i≤x.length)then i8 (dS x c i.toNat) σ else none)
theorem wD(x:List Nat)(c lo:Nat)(h:lo≤x.length+1):(match Builtin.Str.occurrences (aj x) (aj [c]) lo x.length 1 with | i::_=>(i:Int) | [] => -1)=dS x c lo:=by
 rw[Dm x c lo 1 h]
 unfold dS
 cases dg x c lo <;> rfl
theorem BH:a8 X k (.builtin "str.find") mO:=by
 refine⟨?_⟩
 intro A Z ρ σ s c l vs r av σ' e Q E p
 refine gk (P:=fun vs=>wpAny (model X.prog X.w) A (call (.builtin "str.find") vs) Q E s) e r (fun ω ω ω=>oN) (fun a b v w r r' e=>bj e r fun x t e=>bj e r' fun y u e => ?_)
  (fun a b c' v w u r r' r'' e=>bj e r fun x t e=>bj e r' fun y u e=>aQ e r'' fun i w e => ?_)
 ·refine nC (P:=fun y=>wpAny (model X.prog X.w) A (call (.builtin "str.find") [.str (aj x) t,.str (aj y) u]) Q E s) e fun ch e => ?_
  have g:=gives_str_find (aj x) (aj [ch]) t u
  rw[aF]at g
  exact call_gives F.slot_str_find (typeIs_str _ _ _) F.entry_str_find (F.args_str_find_2 _ _) (Eq.mp (congrArg (fun i=>Gives _ (Made.int i)) (wD x ch 0 (Nat.zero_le _))) g) ((p.of e).tok c.inv (bw ..) _)
 ·refine nC (P:=fun y=>wpAny (model X.prog X.w) A (call (.builtin "str.find") [.str (aj x) t,.str (aj y) u,.int i w]) Q E s) e fun ch e=>dh e fun hz e => ?_
  have hz:=Bool.and_eq_true_iff.mp hz
  have h1:=of_decide_eq_true hz.1
  have h2:=of_decide_eq_true hz.2
  have hf:fromIndex x.length i=i.toNat:=by unfold fromIndex;rw[if_neg (by trivial)];trivial
  have g:=gives_str_find_from (aj x) (aj [ch]) i t u w
  rw[aF,hf]at g
  exact call_gives F.slot_str_find (typeIs_str _ _ _) F.entry_str_find (F.args_str_find_3 _ _ _) (Eq.mp (congrArg (fun i=>Gives _ (Made.int i)) (wD x ch i.toNat (by trivial))) g) ((p.of e).tok c.inv (bw ..) _)
noncomputable def wg:eB:=fun l σ=>cR l yD (fun a b=>iI a fun x=>iI b fun y=>some (.bool (y.isPrefixOf x),σ)) oW
theorem tX(x y:List Nat):(decide (0+(aj y).length≤(aj x).length)&&Builtin.Str.subAt (aj x) (aj y) 0)=y.isPrefixOf x:=by
 rw[Bool.eq_iff_iff,Bool.and_eq_true,decide_eq_true_eq,List.isPrefixOf_iff_prefix,aF,aF]
 unfold Builtin.Str.subAt
 rw[beq_iff_eq]
 constructor
 ·rintro⟨h1,h2⟩
  have h3:=congrArg Array.toList h2
  simp[aj,Str.length]at h3
  have h4:=List.take_append_drop y.length x
  rw[h3]at h4
  exact⟨_,h4⟩
 ·rintro⟨t,rfl⟩
  refine⟨by simp,?_⟩
  apply Array.ext'
  simp[aj,Str.length]
theorem BE:a8 X k (.builtin "str.startswith") wg:=by
 refine⟨?_⟩
 intro A Z ρ σ s c l vs r av σ' e Q E p
 refine nD (P:=fun vs=>wpAny (model X.prog X.w) A (call (.builtin "str.startswith") vs) Q E s) e r fun a b v w r r' e=>bj e r fun x t e=>bj e r' fun y u e => ?_
 refine call_gives F.slot_str_startswith (typeIs_str _ _ _) F.entry_str_startswith (F.args_str_startswith_2 _ _) (gives_str_startswith _ _ t u) ?_
 rw[tX]
 exact(p.of e).tok c.inv (bQ _) _
theorem jB{h:Heap} : ∀(l:List (List Nat)) (tk:Nat),ag X ρ Z h (l.map .str) (strsFrom tk (l.map aj)):=by
 intro l₀
 induction l₀ with
 | nil =>
  intro _
  exact ag.nil_iff.mpr rfl
 | cons x l ih₀ =>
  intro tk
  exact ag.cons (df ..) (ih₀ (tk+1))
theorem nq(c:Nat):∀x:List Nat,(bp c x).length≤x.length+1:=by
 intro l₀
 induction l₀ with
 | nil =>
  simp[bp]
 | cons x r ih₀ =>
  have:=ih₀
  unfold bp
  split
  ·simp;trivial
  ·split
   ·rename_i h;rw[h]at this;simp at this ⊢;trivial
   ·simp
theorem Hr{c:Nat}(hc:c<256)(x:Str):(decide (Builtin.Str.strKind x<Builtin.Str.strKind (aj [c])))=false:=by
 have:Builtin.Str.strKind (aj [c])=1:=by unfold Builtin.Str.strKind aj;simp[hc]
 rw[this]
 unfold Builtin.Str.strKind
 split
 ·rfl
 ·split <;> rfl
noncomputable def qD(c:Nat)(x:List Nat):List (List Nat):=da x 0 ((dg x c 0).take 1)
noncomputable def G7(c:Nat)(x:List Nat):Bool:=decide (c<256)&&dX (x.length+1) && !x.isEmpty
noncomputable def jf:eB:=fun l σ=>cR l yD (fun a b=>iI a fun x=>iI b fun y=>GJ y fun c=>if G7 c x then some (.list ((bp c x).map .str),σ)else none)
 (fun a b i=>iI a fun x=>iI b fun y=>fT i fun i=>if i=1 then GJ y fun c=>if G7 c x then some (.list ((qD c x).map .str),σ)else none else none)
theorem uq(x:List Nat):∀(cs:List Nat) (i:Nat),(da x i cs).length=cs.length+1:=by
 intro l₀
 induction l₀ with
 | nil =>
  intro _
  exact rfl
 | cons c cs ih₀ =>
  intro i
  simp[da,ih₀]
structure H3(c:Nat)(x:List Nat):Prop where
 len:x.length≤16777215
 pos:1≤x.length
 sep:(decide ((aj x).length<(aj [c]).length)||decide (Builtin.Str.strKind (aj x)<Builtin.Str.strKind (aj [c])))=false
theorem Ah{c:Nat}{x:List Nat}(h:G7 c x=true):H3 c x:=by
 have h:=Bool.and_eq_true_iff.mp h
 have h1:=Bool.and_eq_true_iff.mp h.1
 have pos:1≤x.length:=by
  cases x with
  | nil=>exact Bool.noConfusion h.2
  | cons=>exact Nat.succ_le_succ (Nat.zero_le _)
 refine⟨Nat.le_of_succ_le_succ (dm h1.2),pos,?_⟩
 rw[Hr (of_decide_eq_true h1.1),Bool.or_false,aF]
 exact decide_eq_false (Nat.not_lt.mpr pos)
theorem mM{x:List Nat}{cs:List Nat}(hf:cs.isEmpty=true):da x 0 cs = [x]:=by
 rw[List.isEmpty_iff.mp hf];rfl
theorem wM:a8 X k (.builtin "str.split") jf:=by
 refine⟨?_⟩
 intro A Z ρ σ s c l vs r av σ' e Q E p
 refine gk (P:=fun vs=>wpAny (model X.prog X.w) A (call (.builtin "str.split") vs) Q E s) e r (fun ω ω ω=>oN) (fun a b v w r r' e=>bj e r fun x t e=>bj e r' fun y u e => ?_)
  (fun a b c' v w u r r' r'' e=>bj e r fun x t e=>bj e r' fun y u e=>aQ e r'' fun i w e=>dh e fun hi e => ?_)
 ·refine nC (P:=fun y=>wpAny (model X.prog X.w) A (call (.builtin "str.split") [.str (aj x) t,.str (aj y) u]) Q E s) e fun ch e=>dh e fun hz e => ?_
  have hz:=Ah hz
  have hs:=hz.len
  have hq:=sizeLine_eq
  replace p:=p.of e
  have h2:Builtin.Str.occurrences (aj x) (aj [ch]) 0 (aj x).length ((aj x).length+1)=dg x ch 0:=by
   rw[aF,Dm x ch 0 _ (Nat.zero_le _),List.take_of_length_le]
   unfold dg
   refine Nat.le_trans (List.length_filter_le _ _) ?_
   simp
  have hc:da x 0 (dg x ch 0)=bp ch x:=ur x ch x.length 0 (Nat.zero_add _)
  have hp:Builtin.Str.partsBetween (aj x) (dg x ch 0) (aj [ch]).length=(bp ch x).map aj:=by rw[← hc];exact gJ ..
  have hl:=nq ch x
  by_cases hf:(dg x ch 0).isEmpty=true
  ·refine call_meets F.slot_str_split (typeIs_str _ _ _) F.entry_str_split (F.args_str_split_2 _ _) (meets_str_split_not_found _ _ t u hz.sep rfl (by rw[h2];exact hf)) ?_
   rw[← hc,mM hf]at p
   exact p.newList (vs := [.str (aj x) t]) c.inv (ag.cons (df ..) (ag.nil_iff.mpr rfl)) (tk:=s.toks)
  ·refine call_meets F.slot_str_split (typeIs_str _ _ _) F.entry_str_split (F.args_str_split_2 _ _) (meets_str_split_sep _ _ t u hz.sep rfl (by rw[h2];simpa using hf) (by rw[aF];trivial) (by rw[h2,hp,List.length_map];trivial)) ?_
   rw[h2,hp]
   exact p.newList c.inv (jB (bp ch x) s.toks)
 ·rw[hi]
  refine nC (P:=fun y=>wpAny (model X.prog X.w) A (call (.builtin "str.split") [.str (aj x) t,.str (aj y) u,.int 1 w]) Q E s) e fun ch e=>dh e fun hz e => ?_
  have hz:=Ah hz
  have hs:=hz.len
  have hq:=sizeLine_eq
  replace p:=p.of e
  have h2:Builtin.Str.occurrences (aj x) (aj [ch]) 0 (aj x).length (limitOf (aj x) 1)=(dg x ch 0).take 1:=by
   rw[aF,Dm x ch 0 _ (Nat.zero_le _)]
   rfl
  have hp:Builtin.Str.partsBetween (aj x) ((dg x ch 0).take 1) (aj [ch]).length=(qD ch x).map aj:=gJ ..
  have hl:(qD ch x).length≤2:=by
   unfold qD;rw[uq];exact Nat.succ_le_succ (List.length_take_le 1 (dg x ch 0))
  by_cases hf:((dg x ch 0).take 1).isEmpty=true
  ·refine call_meets F.slot_str_split (typeIs_str _ _ _) F.entry_str_split (F.args_str_split_3 _ _ _) (meets_str_split_max_not_found _ _ 1 t u w rfl hz.sep rfl (by rw[h2];exact hf)) ?_
   rw[show qD ch x = [x]from mM hf]at p
   exact p.newList (vs := [.str (aj x) t]) c.inv (ag.cons (df ..) (ag.nil_iff.mpr rfl)) (tk:=s.toks)
  ·refine call_meets F.slot_str_split (typeIs_str _ _ _) F.entry_str_split (F.args_str_split_3 _ _ _) (meets_str_split_sep_max _ _ 1 t u w rfl hz.sep rfl (by rw[h2];simpa using hf) (by rw[aF];trivial) (by rw[h2,hp,List.length_map];trivial)) ?_
   rw[h2,hp]
   exact p.newList c.inv (jB (qD ch x) s.toks)
end
end
section
open SeqAt
section
variable{X:Cx}{k:Nat}{sc:Scope}{vis:List (Str×Nat)}{A:Around}{env cenv:Env}{Z:Addr→Prop}{ρ:List Addr}{σ:St}{η:be}{s:Shared}
theorem oV{l:List Addr}(h:l.Nodup){i j:Nat}{a:Addr}(hi:l[i]? = some a)(hj:l[j]? = some a):i=j:=by
 obtain⟨hi1,hi2⟩:=List.getElem?_eq_some_iff.mp hi
 obtain⟨hj1,hj2⟩:=List.getElem?_eq_some_iff.mp hj
 rcases Nat.lt_trichotomy i j with q | q | q
 ·exact absurd (hi2.trans hj2.symm) (List.pairwise_iff_getElem.mp h i j hi1 hj1 q)
 ·exact q
 ·exact absurd (hj2.trans hi2.symm) (List.pairwise_iff_getElem.mp h j i hj1 hi1 q)
theorem bL.cellSet(i:bL X Z ρ σ s){n:Nat}{a:Addr}{c c':aO}(hn:ρ[n]? = some a)(hc:σ[n]? = some c)(hz : ¬ Z a){h':Heap}{tk:Nat}(hs:Heap.SameBut a s.heap h')(hr:dc X ρ Z h' c' a)(hl:h'.get? a≠none) :
  bL X Z ρ (σ.set n c') { s with heap:=h',toks:=tk } where
 base:=fun b o e=>by
  refine(hs.2 b (fun q => ?_)).trans (i.base b o e)
  have:=(i.old a (List.mem_of_getElem? hn)).2.1
  rw[← q,e]at this;exact nomatch this
 fr:=fun b f=>by
  obtain⟨o,e⟩:=i.fr b f
  exact⟨o,(hs.2 b (fun q=>hz (q ▸ f))).trans e⟩
 len:=by simp[i.len]
 nd:=i.nd
 old:=fun b m=>by
  obtain⟨⟨o,e⟩,r⟩:=i.old b m
  by_cases q:b=a
  ·subst q
   refine⟨?_,r⟩
   show ∃o,h'.get? b=some o
   cases q2:h'.get? b with
   | none=>exact absurd q2 hl
   | some o'=>exact⟨o',rfl⟩
  ·exact⟨⟨o,(hs.2 b q).trans e⟩,r⟩
 cells:=fun m b d h1 h2=>by
  by_cases q:m=n
  ·subst q
   rw[hn]at h1;cases h1
   rw[List.getElem?_set_self (List.getElem?_eq_some_iff.mp hc).1]at h2
   cases h2
   exact hr
  ·rw[List.getElem?_set_ne (Ne.symm q)]at h2
   have hba:b≠a:=fun e=>q (oV i.nd h1 (e ▸ hn))
   exact(i.cells m b d h1 h2).mono (fun x o f e=>(hs.2 x (fun w=>hz (w ▸ f))).trans e) (fun ω f=>f) List.prefix_rfl (fun o e=>(hs.2 b hba).trans e) id
theorem a9.cellSet{T}{a:Addr}(hm:a∈ρ)(hz : ¬ Z a){h':Heap}{tk:Nat}(hs:Heap.SameBut a s.heap h')(hl:h'.get? a≠none)(hfc : ¬ dY s.heap a):a9 T Z ρ s Z ρ { s with heap:=h',toks:=tk } where
 keep:=fun b o e ω hr=>.inl ((hs.2 b (fun q=>hr (q ▸ hm))).trans e)
 fkeep:=fun b o f e=>(hs.2 b (fun q=>hz (q ▸ f))).trans e
 fmono:=fun ω f=>f
 fnew:=fun ω f=>.inl f
 rho:=List.prefix_rfl
 rnew:=fun ω m=>.inl m
 alive:=fun b o e=>by
  by_cases q:b=a
  ·subst q
   show ∃o,h'.get? b=some o
   cases q2:h'.get? b with
   | none=>exact absurd q2 hl
   | some o'=>exact⟨o',rfl⟩
  ·exact⟨o,(hs.2 b q).trans e⟩
 frm:=fun b f=>by
  by_cases q:b=a
  ·subst q;exact absurd f hfc
  ·exact f.kept fun o e=>(hs.2 b q).trans e
 gens:=rfl
 os:=rfl
 drawn:=rfl
theorem bL.cellNew(i:bL X Z ρ σ s){o:Obj}{c:aO}{tk:Nat}(hf:o.isFreed=false)(hr:dc X (ρ ++ [s.heap.objs.size]) Z (s.heap.push o) c s.heap.objs.size) :
  bL X Z (ρ ++ [s.heap.objs.size]) (σ ++ [c]) { s with heap:=s.heap.push o,toks:=tk } where
 base:=fun b o' e=>Heap.get?_push_of_some _ (i.base b o' e)
 fr:=fun b f=>by obtain⟨o',e⟩:=i.fr b f;exact⟨o',Heap.get?_push_of_some _ e⟩
 len:=by simp[i.len]
 nd:=by
  rw[List.nodup_append]
  refine⟨i.nd,by simp,fun x hx y hy => ?_⟩
  simp at hy;subst hy
  rintro rfl
  obtain⟨⟨o',e⟩,_⟩:=i.old _ hx
  rw[bx]at e;cases e
 old:=fun b m=>by
  rcases List.mem_append.mp m with m | m
  ·obtain⟨⟨o',e⟩,r⟩:=i.old b m;exact⟨⟨o',Heap.get?_push_of_some _ e⟩,r⟩
  ·simp at m;subst m
   exact⟨⟨o,Heap.get?_push_size _ hf⟩,(cZ i).2.2,mF i⟩
 cells:=fun m b d h1 h2=>by
  rcases Nat.lt_trichotomy m ρ.length with hm | hm | hm
  ·rw[List.getElem?_append_left hm]at h1
   rw[List.getElem?_append_left (by rw[← i.len];exact hm)]at h2
   exact(i.cells m b d h1 h2).mono (fun x o' ω e=>Heap.get?_push_of_some _ e) (fun ω f=>f) (List.prefix_append _ _) (fun o' e=>Heap.get?_push_of_some _ e) id
  ·subst hm
   rw[List.getElem?_append_right (Nat.le_refl _)]at h1
   rw[List.getElem?_append_right (by rw[i.len];exact Nat.le_refl _)]at h2
   simp[i.len]at h1 h2
   subst h1 h2
   exact hr
  ·rw[List.getElem?_eq_none (by simp;trivial)]at h1;cases h1
theorem a9.cellNew{o:Obj}{tk:Nat} : a9 T0 Z ρ s Z (ρ ++ [s.heap.objs.size]) { s with heap:=s.heap.push o,toks:=tk } where
 keep:=fun b o' e ω ω=>.inl (Heap.get?_push_of_some _ e)
 fkeep:=fun b o' ω e=>Heap.get?_push_of_some _ e
 fmono:=fun ω f=>f
 fnew:=fun ω f=>.inl f
 rho:=List.prefix_append _ _
 rnew:=fun b m=>by
  rcases List.mem_append.mp m with m | m
  ·exact .inl m
  ·simp at m;subst m;exact .inr (bx _)
 alive:=fun b o' e=>⟨o',Heap.get?_push_of_some _ e⟩
 frm:=fun b f=>f.kept fun o e=>Heap.get?_push_of_some _ e
 gens:=rfl
 os:=rfl
 drawn:=rfl
theorem cH.newCell{c:aO}{σ:St}{Q:Value→Shared→Prop}(p:cH X Z ρ s (.cell σ.length) (σ ++ [c]) Q)(i:bL X Z ρ σ s){o:Obj}{tk:Nat}(hf:o.isFreed=false)(hr:dc X (ρ ++ [s.heap.objs.size]) Z (s.heap.push o) c s.heap.objs.size) :
  Q (.ref s.heap.objs.size) { s with heap:=s.heap.push o,toks:=tk } := by
 refine p _ _ _ _ (i.cellNew hf hr) a9.cellNew ?_
 show ∃_,_
 exact⟨_,by rw[← i.len];simp,rfl⟩
noncomputable def mW:ME:=fun ω σ=>some (.cell σ.length,σ ++ [.dict []])
theorem ud{pos} : bu X k sc vis (.Dict [] [] pos) mW:=by
 refine⟨?_⟩
 intro A env Z ρ σ η s c av σ' e Q E p
 refine wpAny_Dict_empty ?_
 exact(p.of e).newCell c.c.inv (tk:=s.toks) rfl ⟨(cZ c.c.inv).1,[],Heap.DictOf.new _,by show _=_;rfl⟩
noncomputable def ES:ME:=fun ω σ=>some (.cell σ.length,σ ++ [.dicti []])
theorem FC{pos} : bu X k sc vis (.Dict [] [] pos) ES:=by
 refine⟨?_⟩
 intro A env Z ρ σ η s c av σ' e Q E p
 refine wpAny_Dict_empty ?_
 exact(p.of e).newCell c.c.inv (tk:=s.toks) rfl ⟨(cZ c.c.inv).1,[],Heap.DictOf.new _,by show _=_;rfl⟩
noncomputable def jP(r:ML):ME:=fun η σ=>oB (r η σ) fun l σ=>if dX l.length then some (.cell σ.length,σ ++ [.list l])else none
theorem uc{es:List Expr}{pos}{r:ML}(h:iT X k sc vis es r):bu X k sc vis (.List es pos) (jP r):=by
 refine⟨?_⟩
 intro A env Z ρ σ η s c av σ' e Q E p
 refine aD e fun l σ₁ h1 e=>dh e fun hz e => ?_
 refine wpAny_List (h.run A env Z ρ σ η s _ c _ _ h1 _ _ fun Z₁ ρ₁ vs₁ s₁ i₁ y₁ r₁=>⟨?_,?_⟩)
 ·rw[← r₁.length];exact bM hz
 ·refine((p.of e).pass y₁).newCell i₁ (tk:=s₁.toks) rfl ⟨(cZ i₁).1,vs₁,⟨_,Heap.get?_push_size _ rfl⟩,?_⟩
  exact r₁.mono (fun ω ω ω e=>Heap.get?_push_of_some _ e) (fun ω f=>f) (List.prefix_append _ _)
noncomputable def t8(l:List (Int×AV))(kk:Int)(v:AV):List (Int×AV) :=
 if l.any (fun p=>p.1==kk)then l.map fun p=>if p.1==kk then(p.1,v)else p else l ++ [(kk,v)]
theorem bP.any{h:Heap}(kk:Int):∀{l:List (Int×AV)} {es:List (Int×Value)},bP X ρ Z h l es→es.any (fun kv=>decide (kv.1=kk))=l.any (fun p=>p.1==kk):=by
 intro l
 induction l with
 | nil=>intro es r;rw[(r:_=_)];rfl
 | cons p l ih =>
  intro es r
  obtain⟨w,t,hq,_,r'⟩:=r
  rw[hq,List.any_cons,List.any_cons,ih r'];rfl
theorem bP.put{h:Heap}(kk:Int){v:AV}{vv:Value}(rv:aq X ρ Z h v vv):∀{l:List (Int×AV)} {es:List (Int×Value)},bP X ρ Z h l es →
  bP X ρ Z h (l.map fun p=>if p.1==kk then(p.1,v)else p) (es.map fun kv=>if kv.1=kk then(kv.1,vv)else kv):=by
 intro l
 induction l with
 | nil=>intro es r;rw[(r:_=_)];show _=_;rfl
 | cons p l ih =>
  intro es r
  obtain⟨q,x⟩:=p
  obtain⟨w,t,hq,dG,r'⟩:=r
  rw[hq,List.map_cons,List.map_cons]
  by_cases e:q=kk
  ·rw[if_pos (show(q,w).1=kk from e),if_pos (show((q,x).1==kk)=true from beq_iff_eq.mpr e)]
   show ∃_,_
   exact⟨_,_,rfl,rv,ih r'⟩
  ·rw[if_neg (show ¬ (q,w).1=kk from e),if_neg (show ¬ ((q,x).1==kk)=true from fun z=>e (beq_iff_eq.mp z))]
   show ∃_,_
   exact⟨_,_,rfl,dG,ih r'⟩
theorem bP.snoc{h:Heap}(kk:Int){v:AV}{vv:Value}(rv:aq X ρ Z h v vv):∀{l:List (Int×AV)} {es:List (Int×Value)},bP X ρ Z h l es→bP X ρ Z h (l ++ [(kk,v)]) (es ++ [(kk,vv)]):=by
 intro l
 induction l with
 | nil=>intro es r;rw[(r:_=_),List.nil_append,List.nil_append];show ∃_,_;exact⟨_,_,rfl,rv,by show _=_;rfl⟩
 | cons p l ih =>
  intro es r
  obtain⟨w,t,hq,dG,r'⟩:=r
  rw[hq,List.cons_append,List.cons_append]
  show ∃_,_
  exact⟨_,_,rfl,dG,ih r'⟩
theorem bP.stored{h:Heap}{l:List (Int×AV)}{es:List (Int×Value)}(kk:Int){v:AV}{vv:Value}(r:bP X ρ Z h l es)(rv:aq X ρ Z h v vv):bP X ρ Z h (t8 l kk v) (PySem.stored es kk vv):=by
 unfold t8 PySem.stored
 rw[bP.any kk r]
 by_cases hb:l.any (fun p=>p.1==kk)=true
 ·rw[if_pos hb,if_pos hb];exact bP.put kk rv r
 ·rw[if_neg hb,if_neg hb];exact bP.snoc kk rv r
noncomputable def Da(c:aO)(i v:AV):Option aO:=match c with
 | .dict l=>iI i fun kk=>if dX l.length then some (.dict (gM l kk v))else none
 | .dicti l=>fT i fun kk=>if dX l.length then some (.dicti (t8 l kk v))else none
 | .list l=>fT i fun j=>if decide (0≤j)&&decide (j<l.length)&&dX l.length then some (.list (l.set j.toNat v))else none
 | .dead _=>none
noncomputable def setCell(σ:St)(n:Nat)(i v:AV):Option St:=o1 σ[n]? fun c=>o1 (Da c i v) fun c'=>some (σ.set n c')
theorem pT{prog:Program}{w:World}{A:Around}{E:Value→Shared→Prop}{s:Shared}{l:Addr}{items:Array Value}{k:Int}{t:Tok}{v:Value}{Q:Unit→Shared→Prop}(hl:s.heap.PlainList l items)
  (h0:0≤k) (hfit:k<2 ^ 63) (hn:k<items.size)
  (hQ:∀h',h'.PlainList l (items.setIfInBounds k.toNat v)→Heap.SameBut l s.heap h'→Q () { s with heap:=h' }) :
  wpAny (model prog w) A (setItem (.ref l) (.int k t) v) Q E s:=by
 obtain⟨m,ho⟩:=id hl
 have hl':=hl.isList
 unfold setItem
 try with_reducible refine wpAny_holding ?_
 first | refine wpAny_bind (wpAny_pure ?_) | skip
 refine wpAny_bind (wpAny_sequenceKey hl'.typeIs (by decide) ?_)
 refine wpAny_bind (wpAny_callSpecial?_slot (name:=Str.ofString "__setitem__") hl'.typeIs slot_list_setitem
  (wpAny_call_entry slot_list_setitem hl'.typeIs entry_list_setitem ?_ (args_list_setitem _ _ _)))
 show wpAny _ _ (Builtin.List.listSubscript? (.int k t) >>= _) _ _ s
 refine wpAny_bind (wpAny_listSubscript_int (fitsIndex_of h0 hfit) ?_)
 clear hfit
 obtain⟨j,rfl⟩:=Int.eq_ofNat_of_zero_le h0
 have hj:j<items.size:=by trivial
 have hx':items[j]? = some items[j]:=Array.getElem?_eq_getElem hj
 show wpAny _ _ ((seqItemAt l j >>= fun r=>pure (r.map (j,·))) >>= _) _ _ s
 refine wpAny_bind (wpAny_bind (wpAny_seqItemAt ho rfl (wpAny_pure ?_)))
 rw[hx']
 show wpAny _ _ (setSeqItemAt l j v >>= _) _ _ s
 refine wpAny_bind (wpAny_setSeqItemAt ho rfl ?_)
 have hm:Obj.mapSeq (·.setIfInBounds j v) { cls:=.type "list",data:=.seq items m } = { cls:=.type "list",data:=.seq (items.setIfInBounds j v) m } := by simp[Obj.mapSeq]
 have hfin:(s.heap.update l (Obj.mapSeq (·.setIfInBounds j v))).PlainList l (items.setIfInBounds j v):=⟨m,by rw[Heap.get?_update_self _ ho (by rw[hm];rfl),hm]⟩
 first
  | exact wpAny_bind (wpAny_pure (wpAny_pure ⟨.none,rfl,wpAny_pure (hQ _ hfin (Heap.SameBut.update ..))⟩))
  | exact wpAny_pure ⟨.none,rfl,wpAny_pure (hQ _ hfin (Heap.SameBut.update ..))⟩
theorem ly(c:VC X k A Z ρ σ s){n:Nat}{a:Addr}{cc c':aO}{h':Heap}{tk:Nat}(hn:ρ[n]? = some a)(hl:σ[n]? = some cc)(hd:cc.live=true)(nz : ¬ Z a)(hs:Heap.SameBut a s.heap h')(al:h'.get? a≠none)
  (hr:a9 T0 Z ρ s Z ρ { s with heap:=h',toks:=tk } → dc X ρ Z h' c' a):bL X Z ρ (σ.set n c') { s with heap:=h',toks:=tk } ∧ a9 T0 Z ρ s Z ρ { s with heap:=h',toks:=tk } := by
 have y:=a9.cellSet (T:=T0) (s:=s) (tk:=tk) (List.mem_of_getElem? hn) nz hs al (sT (c.inv.cells n a _ hn hl) hd)
 exact⟨c.inv.cellSet hn hl nz hs (hr y) al,y⟩
theorem t9(c:VC X k A Z ρ σ s){n:Nat}{a:Addr}{i v:AV}{vi vv:Value}(hn:ρ[n]? = some a)(ri:aq X ρ Z s.heap i vi)(rv:aq X ρ Z s.heap v vv){σ':St}(e:setCell σ n i v=some σ'){Q:Unit→Shared→Prop}{E}
  (h:∀h' tk,bL X Z ρ σ' { s with heap:=h',toks:=tk } → a9 T0 Z ρ s Z ρ { s with heap:=h',toks:=tk } → Q () { s with heap:=h',toks:=tk }):wpAny (model X.prog X.w) A (setItem (.ref a) vi vv) Q E s:=by
 refine aG e fun cc hl e=>aG e fun c' h' e => ?_
 rw[← oE e]at h
 have cr:=c.inv.cells n a _ hn hl
 have done:∀{h' tk},cc.live=true → ¬ Z a→Heap.SameBut a s.heap h'→h'.get? a≠none→(a9 T0 Z ρ s Z ρ { s with heap:=h',toks:=tk } → dc X ρ Z h' c' a)→Q () { s with heap:=h',toks:=tk } := fun hd nz hs al hr =>
  let z:=ly c hn hl hd nz hs al hr;h _ _ z.1 z.2
 clear h e
 cases cc with
 | dict l =>
  refine bj h' ri fun kk t h'=>dh h' fun hz h' => ?_
  rw[← oE h']at done
  obtain⟨nz,es,dd,q⟩:=cr
  refine wpAny_setItem_pairs (knd:=PySem.strKind X.prog X.w) (k:=aj kk) (by simp[PySem.strKind,Value.isStrOf]) dd (fun h' dd' hs => ?_) (by have:=bM hz;simp[← q.length];trivial)
  exact done rfl nz hs (by obtain⟨_,_,_,e,_⟩:=dd';rw[e];exact fun q=>nomatch q) fun y=>⟨nz,_,dd',(q.stored kk rv).ext y⟩
 | dicti l =>
  refine aQ h' ri fun kk t h'=>dh h' fun hz h' => ?_
  rw[← oE h']at done
  obtain⟨nz,es,dd,q⟩:=cr
  refine wpAny_setItem_pairs (knd:=PySem.intKind X.prog X.w) (k:=kk) (by simp[PySem.intKind,Value.isInt]) dd (fun h' dd' hs => ?_) (by have:=bM hz;simp[← q.length];trivial)
  exact done rfl nz hs (by obtain⟨_,_,_,e,_⟩:=dd';rw[e];exact fun q=>nomatch q) fun y=>⟨nz,_,dd',(q.stored kk rv).ext y⟩
 | list l =>
  refine aQ h' ri fun j t h'=>dh h' fun hz h' => ?_
  rw[← oE h']at done
  have hz:=Bool.and_eq_true_iff.mp hz
  have h1:=Bool.and_eq_true_iff.mp hz.1
  have h2:=of_decide_eq_true h1.2
  have F7:=dm hz.2
  obtain⟨nz,vs,pl,q⟩:=cr
  rw[q.length]at h2 F7
  refine pT pl (of_decide_eq_true h1.1) (by trivial) h2 (fun h' gX hs => ?_)
  exact done (tk:=s.toks) rfl nz hs (by obtain⟨_,e⟩:=gX;rw[e];exact fun q=>nomatch q) fun y=>⟨nz,vs.set j.toNat vv,by simpa using gX,(q.set j.toNat rv).ext y⟩
 | dead=>exact oN h'
noncomputable def qM{β:Type}(a:AV)(f:Nat→Option β):Option β:=match a with
 | .cell n=>f n
 | _=>none
@[elab_as_elim] theorem jr {β:Type} {r:β} {h:Heap} {a:AV} {v:Value} {f:Nat→Option β} {P:Value→Prop} (e:qM a f=some r) (q:aq X ρ Z h a v) (k:∀n a,ρ[n]? = some a→f n=some r→P (.ref a)):P v:=by
 cases a with
 | cell n=>obtain⟨a,ha,q⟩:=q;rw[q];exact k n a ha e
 | _=>exact oN e
noncomputable def iS(m n:ME)(av:AV):aA:=fun η σ=>oB (m η σ) fun a σ=>qM a fun j=>oB (n η σ) fun i σ=>o1 (setCell σ j i av) fun σ=>some (η,σ)
theorem nK{o i:Expr}{pos}{m n:ME}(hm:bu X k sc vis o m)(hn:bu X k sc vis i n):kB X k sc vis (.Subscript o i pos) (iS m n):=by
 refine⟨?_⟩
 intro A env Z ρ σ η s c av v r η' σ' e Q E p
 refine aD e fun a' σ₁ h1 e => ?_
 rw[assign_Subscript]
 refine wpAny_bind (wpAny_holding (hm.run A env Z ρ σ η s c _ _ h1 _ _ fun Z₁ ρ₁ v₁ s₁ i₁ y₁ r₁ => ?_))
 refine jr e r₁ fun j a ha e=>aD e fun i' σ₂ h2 e=>aG e fun σ₃ h3 e => ?_
 refine wpAny_bind (wpAny_holding (hn.run A env Z₁ ρ₁ σ₁ η s₁ (c.next i₁ y₁) _ _ h2 _ _ fun Z₂ ρ₂ v₂ s₂ i₂ y₂ r₂ => ?_))
 have c₂:=(c.next i₁ y₁).next i₂ y₂
 refine wpAny_bind (wpAny_standAt (wpAny_bind (wpAny_holding (t9 c₂.c (mL y₂.rho ha) r₂ ((r.ext y₁).ext y₂) h3 fun h' tk i₃ y₃ => ?_))))
 exact wpAny_release (p.of e _ _ _ i₃ (((y₁.trans y₂).trans y₃).weaken fun ω f=>f.elim) (c₂.e.ext y₃))
end
end
section
open SeqAt
section
variable{X:Cx}{k:Nat}{sc:Scope}{vis:List (Str×Nat)}{A:Around}{env cenv:Env}{Z:Addr→Prop}{ρ:List Addr}{σ:St}{η:be}{s:Shared}
noncomputable def ej:eB:=fun l σ=>cR l yD (fun a x=>qM a fun n=>o1 (o1 σ[n]? wJ) fun l=>if dX l.length then some (.none,σ.set n (.list (l ++ [x])))else none) oW
theorem s9:a8 X k (.builtin "list.append") ej:=by
 refine⟨?_⟩
 intro A Z ρ σ s c l vs r av σ' e Q E p
 refine nD (P:=fun vs=>wpAny (model X.prog X.w) A (call (.builtin "list.append") vs) Q E s) e r fun a x v w r1 r2 e=>jr e r1 fun n a ha e=>aG e fun l hl e=>dh e fun hz e => ?_
 refine aG hl fun cc hc hl => ?_
 rw[sY hl]at hc
 obtain⟨nz,vs,pl,q⟩:=c.inv.cells n a _ ha hc
 refine wpAny_list_append_plain pl (fun h' gX hs => ?_) (by have:=bM hz;simp[← q.length];omega)
 have z:=ly c (tk:=s.toks) (c':=.list (l ++ [x])) ha hc rfl nz hs (by obtain⟨_,e⟩:=gX;rw[e];exact fun q=>nomatch q) fun y=>⟨nz,vs ++ [w],by simpa using gX,(q.append (ag.cons r2 (ag.nil_iff.mpr rfl))).ext y⟩
 exact p.of e _ _ _ _ z.1 z.2 fV
noncomputable def eR:aO→Option AV
 | .list l=>some (.list l)
 | .dict l=>some (.dict l)
 | .dicti l=>some (.dicti l)
 | .dead v=>some v
noncomputable def yb(n:Nat)(σ:St)(x:Option AV):AV×St:=match x with
 | some v=>(v,σ.set n (.dead v))
 | none=>(.cell n,σ)
noncomputable def Ci(a:AV)(σ:St):AV×St:=match a with
 | .cell n=>yb n σ (o1 σ[n]? eR)
 | a=>(a,σ)
theorem bL.dead(i:bL X Z ρ σ s){n:Nat}{a:Addr}{v:AV}(hn:ρ[n]? = some a)(hr:aq X ρ (fun b=>Z b∨b=a) s.heap v (.ref a)):bL X (fun b=>Z b∨b=a) ρ (σ.set n (.dead v)) s where
 base:=i.base
 fr:=fun b f=>by
  rcases f with f | q
  ·exact i.fr b f
  ·rw[q];exact(i.old a (List.mem_of_getElem? hn)).1
 len:=by simp[i.len]
 nd:=i.nd
 old:=i.old
 cells:=fun m b d h1 h2=>by
  by_cases q:m=n
  ·rw[q]at h1 h2
   have hlt:=(List.getElem?_eq_some_iff.mp hn).1
   rw[List.getElem?_set_self (by rw[← i.len];exact hlt)]at h2
   rw[← Option.some.inj h2,← Option.some.inj (hn.symm.trans h1)]
   exact hr
  ·rw[List.getElem?_set_ne (Ne.symm q)]at h2
   exact(i.cells m b d h1 h2).mono (fun ω ω ω e=>e) (fun ω f=>.inl f) List.prefix_rfl (fun ω e=>e) fun nf f=>f.elim nf fun e=>q (oV i.nd h1 (e ▸ hn))
theorem a9.dead{T}{n:Nat}{a:Addr}(hn:ρ[n]? = some a):a9 T Z ρ s (fun b=>Z b∨b=a) ρ s where
 keep:=fun ω ω e ω ω=>.inl e
 fkeep:=fun ω ω ω e=>e
 fmono:=fun ω f=>.inl f
 fnew:=fun b f=>f.elim .inl fun q=>.inr (.inl (q ▸ List.mem_of_getElem? hn))
 rho:=List.prefix_rfl
 rnew:=fun ω m=>.inl m
 alive:=fun ω o e=>⟨o,e⟩
 frm:=fun ω f=>f
 gens:=rfl
 os:=rfl
 drawn:=rfl
theorem lO{n:Nat}{b:Addr}{c:aO}{v:AV}(i:bL X Z ρ σ s)(hb:ρ[n]? = some b)(r:dc X ρ Z s.heap c b)(e:eR c=some v):aq X ρ (fun x=>Z x∨x=b) s.heap v (.ref b):=by
 cases c with
 | list l=>obtain⟨_,vs,pl,q⟩:=r;rw[← oE e];show ∃_,_;exact⟨b,vs,rfl,.inr rfl,pl,q.mono (fun ω ω ω e=>e) (fun ω f=>.inl f) List.prefix_rfl⟩
 | dict l=>obtain⟨_,vs,pl,q⟩:=r;rw[← oE e];show ∃_,_;exact⟨b,vs,rfl,.inr rfl,(i.old b (List.mem_of_getElem? hb)).2.2,pl,q.mono (fun ω ω ω e=>e) (fun ω f=>.inl f) List.prefix_rfl⟩
 | dicti l=>obtain⟨_,vs,pl,q⟩:=r;rw[← oE e];show ∃_,_;exact⟨b,vs,rfl,.inr rfl,(i.old b (List.mem_of_getElem? hb)).2.2,pl,q.mono (fun ω ω ω e=>e) (fun ω f=>.inl f) List.prefix_rfl⟩
 | dead v'=>rw[← oE e];exact aq.mono (fun ω ω ω e=>e) (fun ω f=>.inl f) List.prefix_rfl r
theorem Ga(i:bL X Z ρ σ s)(a:AV):∃Z',bL X Z' ρ (Ci a σ).2 s∧a9 T0 Z ρ s Z' ρ s∧∀v,aq X ρ Z s.heap a v→aq X ρ Z' s.heap (Ci a σ).1 v:=by
 have triv:∃Z',bL X Z' ρ σ s∧a9 T0 Z ρ s Z' ρ s∧∀v,aq X ρ Z s.heap a v→aq X ρ Z' s.heap a v:=⟨Z,i,a9.refl ..,fun ω r=>r⟩
 cases a with
 | cell n =>
  show ∃Z',bL X Z' ρ (yb n σ (o1 σ[n]? eR)).2 s∧a9 T0 Z ρ s Z' ρ s∧∀v,aq X ρ Z s.heap (.cell n) v→aq X ρ Z' s.heap (yb n σ (o1 σ[n]? eR)).1 v
  cases h:o1 σ[n]? eR with
  | none=>exact triv
  | some v =>
   refine aG h fun c hc e => ?_
   have hlt:=(List.getElem?_eq_some_iff.mp hc).1
   rw[← i.len]at hlt
   have hb:=List.getElem?_eq_getElem hlt
   refine⟨_,i.dead hb (lO i hb (i.cells _ _ _ hb hc) e),a9.dead hb,fun w r => ?_⟩
   obtain⟨b',hb',q⟩:=r
   rw[q,← Option.some.inj (hb.symm.trans hb')]
   exact lO i hb (i.cells _ _ _ hb hc) e
 | _=>exact triv
noncomputable def gC(m:ME):ME:=fun η σ=>oB (m η σ) fun a σ=>some (Ci a σ)
theorem mI{x:Expr}{m:ME}(h:bu X k sc vis x m):bu X k sc vis x (gC m):=by
 refine⟨?_⟩
 intro A env Z ρ σ η s c av σ' e Q E p
 refine aD e fun a σ₁ h1 e => ?_
 refine h.run A env Z ρ σ η s c _ _ h1 _ _ fun Z₁ ρ₁ v₁ s₁ i₁ y₁ r₁ => ?_
 obtain⟨Z₂,i₂,y₂,r₂⟩:=Ga i₁ a
 have r₂:=r₂ _ r₁
 rw[show Ci a σ₁=(av,σ')from Option.some.inj e]at i₂ r₂
 exact p _ _ _ _ i₂ (y₁.trans y₂) r₂
end
end
section
open SeqAt
structure pG(X:Cx)(a:Addr)(fd:FuncData)(body:List Stmt)(ps:List Str):Prop where
 obj:∃o,X.H₀.get? a=some o∧o.data=.func fd
 lim:X.H₀.NoLimit
 code:X.H₀.CodeRec fd.code fd.qualname
 body:fd.body=.stmts body
 clo:fd.closure = []
 co:fd.scope.isCoroutine=false
 gen:fd.scope.isGenerator=false
 kind:fd.scope.kind=.function
 glob:fd.globals=mainGlobals
 bltn:fd.builtins=builtinsNs
 bind:∀vals:List Value,vals.length=ps.length→bindArgs fd ⟨vals,[]⟩=pure (ps.zip vals)
noncomputable def nc(sc:Scope)(vis:List (Str×Nat))(ps:List Str)(N:Nat):Bool :=
 decide ((sc.names.map (·.1)).Nodup)&&(sc.names.all fun p=>p.2 != .free)&&decide ps.Nodup&&decide (ps.length≤N) &&
 (ps.all fun p=>sc.names.lookup p==some .local||sc.names.lookup p==some .cell) &&
 (vis.all fun q=>decide (ps.length≤q.2)||ps[q.2]? == some q.1)&&mf vis
noncomputable def lZ(N:Nat)(l:List AV):be:=l++List.replicate (N - l.length) .unbound
noncomputable def qk(x:Option (fU×be×St)):Option (AV×St):=match x with
 | some (o,_,σ)=>match o with
  | .ret a=>some (a,σ)
  | .next=>some (.none,σ)
  | .exc _=>none
 | none=>none
theorem Ao{x:Option (fU×be×St)}{r:AV×St}{P:Prop}(e:qk x=some r)(k:∀a η σ,x=some (.ret a,η,σ)→some (a,σ)=some r→P)(k':∀η σ,x=some (.next,η,σ)→some (.none,σ)=some r→P):P:=by
 cases x with
 | none=>exact oN e
 | some w =>
  obtain⟨o,η,σ⟩:=w
  cases o with
  | next=>exact k' η σ rfl e
  | ret v=>exact k v η σ rfl e
  | exc x=>exact oN e
noncomputable def jh(n N:Nat)(m:MS):eB:=fun l σ=>if l.length=n then qk (m (lZ N l) σ)else none
structure I6(sc:Scope)(vis:List (Str×Nat))(ps:List Str):Prop where
 nd:(sc.names.map (·.1)).Nodup
 nofree:∀x,(x,NameKind.free)∉sc.names
 pnd:ps.Nodup
 par:∀p∈ps,sc.names.lookup p=some .local∨sc.names.lookup p=some .cell
 at':∀x i,vis.lookup x=some i→ps.length≤i∨ps[i]? = some x
theorem nb{sc:Scope}{vis:List (Str×Nat)}{ps:List Str}{N:Nat}(ok:nc sc vis ps N=true):I6 sc vis ps:=by
 unfold nc at ok
 obtain⟨ok,h7⟩:=Bool.and_eq_true_iff.mp ok
 obtain⟨ok,h6⟩:=Bool.and_eq_true_iff.mp ok
 obtain⟨ok,h5⟩:=Bool.and_eq_true_iff.mp ok
 obtain⟨ok,h4⟩:=Bool.and_eq_true_iff.mp ok
 obtain⟨ok,h3⟩:=Bool.and_eq_true_iff.mp ok
 obtain⟨h1,h2⟩:=Bool.and_eq_true_iff.mp ok
 refine⟨of_decide_eq_true h1,fun x hx => ?_,of_decide_eq_true h3,fun p hp => ?_,fun x i hx => ?_⟩
 ·exact Bool.noConfusion (List.all_eq_true.mp h2 _ hx)
 ·exact(Bool.or_eq_true_iff.mp (List.all_eq_true.mp h5 p hp)).imp beq_iff_eq.mp beq_iff_eq.mp
 ·exact(Bool.or_eq_true_iff.mp (List.all_eq_true.mp h6 _ (mem_of_lookup hx))).imp of_decide_eq_true beq_iff_eq.mp
theorem td{kd:Str→Option NameKind} : ∀{bs:List (Str×Value)} {m:Str→Option Value} {x:Str},(∀p∈bs,p.1≠x)→bindL kd bs m x=m x:=by
 intro l₀
 induction l₀ with
 | nil =>
  intro _ _ _
  exact rfl
 | cons p₀ r ih₀ =>
  obtain⟨n,v⟩:=p₀
  intro m x h
  unfold bindL
  rw[ih₀ fun p hp=>h p (List.mem_cons_of_mem _ hp)]
  split
  ·have:=h (n,v) List.mem_cons_self
   simp[Ne.symm this]
  ·rfl
theorem pz{kd:Str→Option NameKind} : ∀{bs:List (Str×Value)} {m:Str→Option Value} {x:Str} {v:Value},(bs.map (·.1)).Nodup→(x,v)∈bs→kd x=some .local→bindL kd bs m x=some v:=by
 intro l₀
 induction l₀ with
 | nil=>intro _ _ _ _ hm _;exact nomatch hm
 | cons p₀ r ih₀ =>
  obtain⟨n,w⟩:=p₀
  intro m x v hn hm hk
  simp only[List.map_cons,List.nodup_cons]at hn
  unfold bindL
  rcases List.mem_cons.mp hm with e | hm
  ·cases e
   rw[td fun p hp q=>hn.1 (List.mem_map.mpr ⟨p,hp,q⟩),if_pos hk]
   simp
  ·exact ih₀ hn.2 hm hk
theorem te{kd:Str→Option NameKind} : ∀{bs:List (Str×Value)} {m:Str→Option Value} {x:Str},(∀p∈bs,p.1≠x)→bindC kd bs m x=m x:=by
 intro l₀
 induction l₀ with
 | nil =>
  intro _ _ _
  exact rfl
 | cons p₀ r ih₀ =>
  obtain⟨n,v⟩:=p₀
  intro m x h
  unfold bindC
  rw[ih₀ fun p hp=>h p (List.mem_cons_of_mem _ hp)]
  split
  ·rfl
  ·have:=h (n,v) List.mem_cons_self
   simp[Ne.symm this]
theorem yr{kd:Str→Option NameKind} : ∀{bs:List (Str×Value)} {m:Str→Option Value} {x:Str} {v:Value},(bs.map (·.1)).Nodup→(x,v)∈bs→kd x≠some .local→bindC kd bs m x=some v:=by
 intro l₀
 induction l₀ with
 | nil=>intro _ _ _ _ hm _;exact nomatch hm
 | cons p₀ r ih₀ =>
  obtain⟨n,w⟩:=p₀
  intro m x v hn hm hk
  simp only[List.map_cons,List.nodup_cons]at hn
  unfold bindC
  rcases List.mem_cons.mp hm with e | hm
  ·cases e
   rw[te fun p hp q=>hn.1 (List.mem_map.mpr ⟨p,hp,q⟩),if_neg hk]
   simp
  ·exact ih₀ hn.2 hm hk
theorem l3:∀(names:List (Str×NameKind)) (n:Nat) (acc:List (Str×Addr)),(names.map (·.1)).Nodup→(acc.map (·.1)).Nodup→(∀p∈names,∀q∈acc,p.1≠q.1)→((cellsFrom n names acc).map (·.1)).Nodup:=by
 intro l₀
 induction l₀ with
 | nil =>
  intro _ _ _ h _
  exact h
 | cons p₀ r ih₀ =>
  obtain⟨x,kd⟩:=p₀
  intro n acc h1 h2 h3
  simp only[List.map_cons,List.nodup_cons]at h1
  unfold cellsFrom
  split
  ·refine ih₀ _ _ h1.2 ?_ ?_
   ·simp only[List.map_cons,List.nodup_cons]
    refine⟨fun hm => ?_,h2⟩
    obtain⟨q,hq,e⟩:=List.mem_map.mp hm
    exact h3 (x,kd) List.mem_cons_self q hq e.symm
   ·intro p hp q hq
    rcases List.mem_cons.mp hq with rfl | hq
    ·exact fun e=>h1.1 (List.mem_map.mpr ⟨p,hp,e⟩)
    ·exact h3 p (List.mem_cons_of_mem _ hp) q hq
  ·exact ih₀ _ _ h1.2 h2 fun p hp q hq=>h3 p (List.mem_cons_of_mem _ hp) q hq
theorem iZ:∀{l:List (Str×Addr)} {x:Str} {c:Addr},(l.map (·.1)).Nodup→(x,c)∈l→l.lookup x=some c:=by
 intro l₀
 induction l₀ with
 | nil=>intro _ _ _ hm;exact nomatch hm
 | cons p₀ r ih₀ =>
  obtain⟨n,k⟩:=p₀
  intro x c hn hm
  simp only[List.map_cons,List.nodup_cons]at hn
  rw[List.lookup_cons]
  rcases List.mem_cons.mp hm with e | hm'
  ·cases e;simp
  ·have:(x==n)=false:=by
    rw[beq_eq_false_iff_ne]
    rintro rfl
    exact hn.1 (List.mem_map.mpr ⟨(x,c),hm',rfl⟩)
   rw[this]
   exact ih₀ hn.2 hm'
theorem oz{ps:List Str}{vs:List Value}(h:vs.length=ps.length):(ps.zip vs).map (·.1)=ps:=by
 rw[List.map_fst_zip];trivial
theorem E8{ps:List Str}{vs:List Value}{i:Nat}{x:Str}{v:Value}(h1:ps[i]? = some x)(h2:vs[i]? = some v):(x,v)∈ps.zip vs:=by
 refine List.mem_of_getElem? (i:=i) ?_
 rw[List.getElem?_zip_eq_some];exact⟨h1,h2⟩
section
variable{X:Cx}{k:Nat}{sc:Scope}{vis:List (Str×Nat)}{A:Around}{env cenv:Env}{Z:Addr→Prop}{ρ:List Addr}{σ:St}{η:be}{s:Shared}
theorem sF{a:Addr}{fd:FuncData}{body:List Stmt}{ps:List Str}{N:Nat}(F:pG X a fd body ps)(ok:nc fd.scope vis ps N=true)(c:VC X k A Z ρ σ s){l:List AV}{vs:List Value}(r:ag X ρ Z s.heap l vs)(hl:l.length=ps.length)
  {s₁:Shared} (I:InCallC s (callEnvC fd s.heap.objs.size a).locals (bindL (callEnvC fd s.heap.objs.size a).kindOf (ps.zip vs) fun ω=>none) (callEnvC fd s.heap.objs.size a).cells (bindC (callEnvC fd s.heap.objs.size a).kindOf (ps.zip vs) fun ω=>none) s₁) (hfc:dY s₁.heap s.heap.objs.size) :
  EC X (k+1) fd.scope vis (A.deeper (callEnvC fd s.heap.objs.size a)) (callEnvC fd s.heap.objs.size a) Z ρ σ (lZ N l) s₁∧a9 T0 Z ρ s Z ρ s₁∧(∀b,gN vis (callEnvC fd s.heap.objs.size a) b→s.heap.get? b=none):=by
 have ok:=nb ok
 have hvl:vs.length=ps.length:=by rw[← r.length];exact hl
 have hzn:((ps.zip vs).map (·.1)).Nodup:=by rw[oz hvl];exact ok.pnd
 obtain⟨h',tk,hs₁,hk⟩:=I.done
 rw[hs₁]at I hfc ⊢
 have i₁:bL X Z ρ σ { s with heap:=h',toks:=tk } := c.inv.touch (W:=fun ω=>False) (fun b o' ω e=>hk b o' e) fun a f=>f.elim
 have y₁:a9 T0 Z ρ s Z ρ { s with heap:=h',toks:=tk } := a9.touch (X:=X) (W:=fun ω=>False) (fun b o' ω e=>hk b o' e) (fun a f=>f.elim) (fun a f=>f.elim) fun a f=>f
 have rx:ag X ρ Z h' l vs:=r.ext y₁
 have fresh:∀b,s.heap.objs.size≤b→s.heap.get? b=none:=fun b hb=>by
  cases q:s.heap.get? b with
  | none=>rfl
  | some o=>exact absurd (Heap.lt_size q) (Nat.not_lt.mpr hb)
 have cellfresh:∀n d,(n,d)∈(callEnvC fd s.heap.objs.size a).cells→s.heap.get? d=none:=fun n d hm=>fresh d (Nat.le_of_lt (I.above n d hm))
 have cnod:((callEnvC fd s.heap.objs.size a).cells.map (·.1)).Nodup:=l3 _ _ _ ok.nd List.nodup_nil (fun ω ω q hq=>nomatch hq)
 have fr:∀d,s.heap.get? d=none→db X Z ρ d:=fun d hd=>by
  refine⟨fun f => ?_,fun f => ?_,?_⟩
  ·obtain⟨o,e⟩:=c.inv.fr _ f;rw[hd]at e;exact nomatch e
  ·obtain⟨⟨o,e⟩,_⟩:=c.inv.old _ f;rw[hd]at e;exact nomatch e
  ·cases q:X.H₀.get? d with
   | none=>rfl
   | some o=>have:=c.inv.base _ _ q;rw[hd]at this;exact nomatch this
 -- what a parameter's slot holds
 have slot:∀x i av,vis.lookup x=some i→(lZ N l)[i]? = some av→av=.unbound∨∃v,(x,v)∈ps.zip vs∧aq X ρ Z h' av v:=fun x i av hx hη=>by
  unfold lZ at hη
  by_cases hi:i<l.length
  ·rw[List.getElem?_append_left hi]at hη
   obtain⟨v,hv,rv⟩:=rx.get hη
   rcases ok.at' x i hx with q | q
   ·exact absurd (Nat.lt_of_lt_of_le hi (hl ▸ q)) (Nat.lt_irrefl _)
   ·exact .inr ⟨v,E8 q hv,rv⟩
  ·rw[List.getElem?_append_right (by trivial)]at hη
   have:=List.mem_of_getElem? hη
   exact .inl (List.eq_of_mem_replicate this)
 refine⟨⟨⟨c.hnd,?_,?_,?_,i₁⟩,rfl,?_,fun ω => ?_⟩,y₁,fun b t => ?_⟩
 ·have:=c.dep;show A.depth+1≤X.dep+(k+1);trivial
 ·have:=c.uni;show A.units+3≤X.uni+8 * (k+1);trivial
 ·obtain⟨fs,e1,e2⟩:=c.frs
  refine⟨callEnvC fd s.heap.objs.size a::fs,by show A.frames.map _=_;rw[e1];rfl,⟨fun ev hev => ?_⟩⟩
  rcases List.mem_cons.mp hev with q | hev
  ·have f0:=fr _ (fresh _ (Nat.le_refl _))
   rw[q]
   exact⟨by show fd.scope.kind≠_;rw[F.kind];decide,_,rfl,f0.1,f0.2.1,f0.2.2,hfc,_,I.toInCall.ns⟩
  ·exact(e2.ext y₁ fun ω ω ω ω t=>t.elim).each ev hev
 ·refine⟨F.kind,F.glob,F.bltn,⟨_,I.toInCall.ns,fun x i av hx hkd hη => ?_⟩,fun x i hx hkd => ?_,cZ c.inv,fun n d hm => ?_,I.apart⟩
  ·rcases slot x i av hx hη with q | ⟨v,hv,rv⟩
   ·exact .inl q
   ·exact .inr ⟨v,pz hzn hv hkd,rv⟩
  ·have hkd':(x,NameKind.cell)∈fd.scope.names:=by
    rcases hkd with q | q
    ·exact mem_of_lookup q
    ·exact absurd (mem_of_lookup q) (ok.nofree x)
   obtain⟨new,hnew,_,_,hn3⟩:=ig fd.scope.names (s.heap.push { cls:=.type "frame",data:=.dict #[] }) []
   rw[Heap.size_push,List.append_nil]at hnew
   obtain⟨d,hd⟩:=hn3 x hkd'
   have hd':(x,d)∈(callEnvC fd s.heap.objs.size a).cells:=by show(x,d)∈cellsFrom (s.heap.objs.size+1) fd.scope.names [];rw[hnew];exact hd
   have hlk:=iZ cnod hd'
   refine⟨d,_,hlk,I.cell x d hlk,fun av hη => ?_⟩
   rcases slot x i av hx hη with q | ⟨v,hv,rv⟩
   ·exact .inl q
   ·refine .inr ⟨v,yr hzn hv ?_,rv⟩
    rcases hkd with q | q <;> rw[q] <;> decide
  ·have hf:=cellfresh n d hm
   refine⟨(fr d hf).1,(fr d hf).2.1,(fr d hf).2.2,Nat.ne_of_gt (I.above n d hm),_,I.cell n d (iZ cnod hm)⟩
 ·obtain⟨fs,e1,_⟩:=c.frs
  exact⟨fs,by show A.frames.map _=_;rw[e1];rfl⟩
 ·rcases t with q | ⟨n,hm,_⟩
  ·rw[q];exact fresh _ (Nat.le_refl _)
  ·exact cellfresh n b hm
theorem tc{M:Model}{A:Around}{E:Value→Shared→Prop}{s₀:Shared}{env:Env}(f:Str×Value→PUnit→Sem (ForInStep PUnit))(hf:∀n v u,f (n,v) u=(do storeName env n v;pure (.yield ⟨⟩)))(hk:env.scope.kind=.function) :
  ∀(binds:List (Str×Value)) (m cm:Str→Option Value) (s:Shared) (Q:PUnit→Shared→Prop),InCallC s₀ env.locals m env.cells cm s→dY s.heap env.locals →
   (∀x∈binds,env.kindOf x.1=some .local∨(env.kindOf x.1=some .cell∧(env.cells.lookup x.1).isSome=true)) →
   (∀s',InCallC s₀ env.locals (bindL env.kindOf binds m) env.cells (bindC env.kindOf binds cm) s'→dY s'.heap env.locals→Q ⟨⟩ s')→wpAny M A (forIn binds ⟨⟩ f) Q E s:=by
 intro l₀
 induction l₀ with
 | nil=>intro m cm s Q x hc _ h;rw[List.forIn_nil];exact wpAny_pure (h s x hc)
 | cons p₀ r ih₀ =>
  obtain⟨n,v⟩:=p₀
  intro m cm s Q x hfc hkind h
  rw[List.forIn_cons,hf]
  have hr:∀y∈r,env.kindOf y.1=some .local∨(env.kindOf y.1=some .cell∧(env.cells.lookup y.1).isSome=true):=fun y hy=>hkind y (List.mem_cons_of_mem _ hy)
  rcases hkind (n,v) List.mem_cons_self with hl | ⟨hl,hc⟩
  ·refine wpAny_bind (wpAny_bind (cV hl x.toInCall.ns (fun h' hn' hs' hcl=>wpAny_pure (ih₀ (fun y=>if y=n then some v else m y) cm _ Q ?_ (hcl hfc) hr fun s'' x'' f''=>h s'' ?_ f'')) (by rw[hk];rfl)))
   ·refine⟨⟨?_,hn',fun b o e => ?_,x.toInCall.fresh⟩,fun k c hc => ?_,x.apart,x.above⟩
    ·obtain⟨h₁,tk,rfl⟩:=x.toInCall.same
     exact⟨h',_,rfl⟩
    ·exact hs'.extBut b o (Nat.ne_of_lt (Nat.lt_of_lt_of_le (Heap.lt_size e) x.toInCall.fresh)) (x.toInCall.keep b o e)
    ·exact(x.cell k c hc).sameBut hs' (Nat.ne_of_gt (x.above k c (mem_of_lookup hc)))
   ·unfold bindL bindC;rw[if_pos hl,if_pos hl];exact x''
  ·obtain⟨c,hc⟩:=Option.isSome_iff_exists.mp hc
   have hnl : ¬ env.kindOf n=some .local:=by rw[hl];decide
   have hLc:=x.above n c (mem_of_lookup hc)
   refine wpAny_bind (wpAny_bind (wpAny_storeName_cell hk hl hc (x.cell n c hc) fun h' hc' hs'=>wpAny_pure (ih₀ m (fun y=>if y=n then some v else cm y) _ Q ?_ (hfc.kept fun o e=>(hs'.2 _ (Nat.ne_of_lt hLc)).trans e) hr fun s'' x'' f''=>h s'' ?_ f'')))
   ·refine⟨⟨?_,x.toInCall.ns.sameBut hs' (Nat.ne_of_lt hLc),fun b o e => ?_,x.toInCall.fresh⟩,fun k c' hk' => ?_,x.apart,x.above⟩
    ·obtain⟨h₁,tk,rfl⟩:=x.toInCall.same
     exact⟨h',_,rfl⟩
    ·exact hs'.extBut b o (Nat.ne_of_lt (Nat.lt_trans (Nat.lt_of_lt_of_le (Heap.lt_size e) x.toInCall.fresh) hLc)) (x.toInCall.keep b o e)
    ·by_cases hkn:k=n
     ·subst hkn
      rw[hc]at hk';cases hk'
      simpa using hc'
     ·rw[if_neg hkn]
      exact(x.cell k c' hk').sameBut hs' fun e=>hkn (name_of_addr x.apart (mem_of_lookup hk') (e ▸ mem_of_lookup hc))
   ·unfold bindL bindC;rw[if_neg hnl,if_neg hnl];exact x''
theorem lx{prog:Program}{w:World}{A:Around}{s:Shared}{R:Result→Shared→Prop}{a:Addr}{o:Obj}{fd:FuncData}{body:List Stmt}{vals:List Value}{binds:List (Str×Value)}
  (hroom:A.depth<recursionLimit) (ho:s.heap.get? a=some o) (hdata:o.data=.func fd) (hlim:s.heap.NoLimit) (hcd:s.heap.CodeRec fd.code fd.qualname)
  (hbody:fd.body=.stmts body) (hbind:bindArgs fd ⟨vals,[]⟩=pure binds) (hclo:fd.closure = [])
  (hkind:∀x∈binds,fd.scope.names.lookup x.1=some .local∨(fd.scope.names.lookup x.1=some .cell∧((cellsFrom (s.heap.objs.size+1) fd.scope.names []).lookup x.1).isSome=true))
  (h:∀s₁,InCallC s (callEnvC fd s.heap.objs.size a).locals (bindL (callEnvC fd s.heap.objs.size a).kindOf binds fun ω=>none) (callEnvC fd s.heap.objs.size a).cells
    (bindC (callEnvC fd s.heap.objs.size a).kindOf binds fun ω=>none) s₁→dY s₁.heap s.heap.objs.size →
   wpAny (model prog w) (A.deeper (callEnvC fd s.heap.objs.size a)) (execs body (callEnvC fd s.heap.objs.size a)) (fun f s'=>R (.ok (.ret (match f with | .ret v=>v | _=>.none))) s')
    (fun e s'=>wpAny (model prog w) (A.deeper (callEnvC fd s.heap.objs.size a)) (leaving (callEnvC fd s.heap.objs.size a) e) (fun ω s''=>R (.error e) s'') (fun e' s''=>R (.error e') s'') s') s₁)
  (hco:fd.scope.isCoroutine=false) (hgen:fd.scope.isGenerator=false) (hk:fd.scope.kind=.function) :
  codeAny (model prog w) A (.call (.ref a) ⟨vals,[]⟩) R s:=by
 refine codeAny_call_function hroom ho hdata hco hgen hbody hcd ?_
 rw[hbind,hclo]
 refine wpAny_pure ?_
 simp only[newFunctionEnv,Option.isSome_none,Bool.false_eq_true,if_false]
 refine wpAny_bind (wpAny_alloc ?_)
 refine wpAny_bind (wpAny_layCells _ (fun name kind cells=>by cases hkc:kind==NameKind.cell <;> simp[hkc]) _ _ _ _ ?_)
 have ok:=cellsFrom_ok fd.scope.names (s.heap.push { cls:=.type "frame",data:=.dict #[] }) (s.heap.objs.size+1) [] ⟨fun ω ω hm=>(nomatch hm),List.Pairwise.nil⟩ (by rw[Heap.size_push];exact Nat.le_refl _)
 rw[Heap.size_push]at ok
 rw[show({ s with heap:=s.heap.push { cls:=.type "frame",data:=.dict #[] } } : Shared).heap.objs.size=s.heap.objs.size+1 from Heap.size_push ..]
 refine wpAny_bind (tc (s₀:=s) (env:=callEnvC fd s.heap.objs.size a) _ (fun ω ω ω=>rfl) hk binds (fun ω=>none) (fun ω=>none) _ _
  ⟨⟨⟨_,_,rfl⟩,(Heap.Ns.new s.heap (.type "frame")).keeps (pushCells_keeps _ _),fun b o e=>pushCells_keeps _ _ b o (Heap.get?_push_of_some _ e),Nat.le_refl _⟩,
   fun n c hc=>(ok.empty n c (mem_of_lookup hc)).1,ok.apart,fun n c hm=>(ok.empty n c hm).2⟩
  ⟨_,_,_,pushCells_keeps _ _ _ _ (Heap.get?_push_size _ rfl),rfl,rfl⟩
  hkind fun s' x hfc=>wpAny_pure ⟨hlim.keeps x.toInCall.keep,codeAny_func (h s' x hfc)⟩)
theorem rS{sc:Scope}{ps:List Str}{vs:List Value}(ok:I6 sc vis ps)(hvl:vs.length=ps.length)(n:Nat):∀x∈ps.zip vs,sc.names.lookup x.1=some .local∨(sc.names.lookup x.1=some .cell∧((cellsFrom (n+1) sc.names []).lookup x.1).isSome=true):=by
 intro x hx
 have hx1:x.1∈ps:=by have:=List.mem_map_of_mem (f:=(·.1)) hx;rw[oz hvl]at this;exact this
 rcases ok.par _ hx1 with q | q
 ·exact .inl q
 ·refine .inr ⟨q,?_⟩
  have key:∀(names:List (Str×NameKind)) (n:Nat) (acc:List (Str×Addr)),((x.1,NameKind.cell)∈names∨∃c,(x.1,c)∈acc)→∃c,(x.1,c)∈cellsFrom n names acc:=by
   intro names
   induction names with
   | nil=>intro n acc h;exact h.elim (fun h=>nomatch h) id
   | cons p r ih =>
    obtain⟨m,kd⟩:=p
    intro n acc h
    unfold cellsFrom
    split
    ·refine ih _ _ ?_
     rcases h with h | ⟨c,h⟩
     ·rcases List.mem_cons.mp h with h | h
      ·exact .inr ⟨n,by rw[congrArg Prod.fst h];exact List.mem_cons_self⟩
      ·exact .inl h
     ·exact .inr ⟨c,List.mem_cons_of_mem _ h⟩
    ·rename_i hk
     refine ih _ _ (h.imp_left fun h => ?_)
     rcases List.mem_cons.mp h with h | h
     ·exact absurd (beq_iff_eq.mpr (congrArg Prod.snd h).symm) hk
     ·exact h
  obtain⟨d,hd⟩:=key sc.names (n+1) [] (.inl (mem_of_lookup q))
  obtain⟨d',hd'⟩:=du hd
  rw[hd'];rfl
theorem HN{a:Addr}{fd:FuncData}{body:List Stmt}{ps:List Str}{N:Nat}{m:MS}(U:kq X k)(F:pG X a fd body ps)(ok:nc fd.scope vis ps N=true)(hB:fw X (k+1) fd.scope vis body m) :
  a8 X k (.ref a) (jh ps.length N m):=by
 refine⟨?_⟩
 intro A Z ρ σ s c l vs r av σ' e Q E p
 refine dh e fun hl e => ?_
 obtain⟨o,ho,hd⟩:=F.obj
 have hvl:vs.length=ps.length:=by rw[← r.length];exact hl
 have hroom:A.depth<recursionLimit:=by have:=c.dep;have:=U.2;trivial
 refine wpAny_call (lx hroom (c.inv.base _ _ ho) hd (F.lim.keeps c.inv.base) (F.code.keeps c.inv.base) F.body (F.bind vs hvl) F.clo (rS (nb ok) hvl _) (fun s₁ I hfc => ?_) F.co F.gen F.kind)
 obtain⟨ec,y₁,ht⟩:=sF F ok c r hl I hfc
 refine Ao e (fun av' η' σ₁ h1 e => ?_) fun η' σ₁ h1 e => ?_
 ·refine hB.run _ _ Z ρ σ _ s₁ ec _ _ _ h1 _ _ fun Z₂ ρ₂ v₂ s₂ i₂ y₂ e₂ r₂ => ?_
  exact p.of e _ _ _ _ i₂ ((y₁.weaken fun ω f=>f.elim).trans y₂ |>.drop fun b t=>.inr (ht b t)) r₂
 ·refine hB.run _ _ Z ρ σ _ s₁ ec _ _ _ h1 _ _ fun Z₂ ρ₂ s₂ i₂ y₂ e₂ => ?_
  exact p.of e _ _ _ _ i₂ ((y₁.weaken fun ω f=>f.elim).trans y₂ |>.drop fun b t=>.inr (ht b t)) fV
theorem C0{x:Str}{p pos:Pos}{es:List Expr}{a:Addr}{fd:FuncData}{r:ML}{op:eB}(G:bo X x (.ref a))(hf:∃o,X.H₀.get? a=some o∧o.data=.func fd)(ok:a8 X k (.ref a) op)(hr:iT X k sc vis es r)(hh:sA sc x=true:=by decide +kernel)
   (hp:∀env,(backTo pos (starEach es env)).any (·.1)=false:=by intro _;rfl):bu X k sc vis (.Call (.Name x p) es [] pos) (au r op):=by
 obtain⟨hk,hd⟩:=jT hh
 refine⟨?_⟩
 intro A env Z ρ σ η s c av σ' e Q E p
 refine aD e fun l σ₁ h1 e => ?_
 have hk':env.kindOf x=some .globalImplicit:=by unfold Env.kindOf;rw[c.sc];exact hk
 obtain⟨o,ho,hd'⟩:=hf
 refine wpAny_Call_NameR (wpAny_Name ?_ hd)
 rw[PyProof.Rows.loadName_read c.e.kind hk']
 refine G _ _ _ _ _ c.e.glob c.e.bltn c.c.inv.base ?_
 refine PySem.Calls.callWith_function (o:=o) (fd:=fd) (dT (hp env) (hr.run A env Z ρ σ η s pos c _ _ h1 _ _ fun Z₁ ρ₁ vs₁ s₁ i₁ y₁ r₁=>⟨⟨i₁.base _ _ ho,hd'⟩,?_⟩))
 exact ok.run A Z₁ ρ₁ σ₁ s₁ (c.next i₁ y₁).c l vs₁ r₁ _ _ e _ _ (p.pass y₁)
end
end
section
open SeqAt
noncomputable def tH(X:Cx)(x:Str):Prop:=∃mg B nid initId Bn newId inN bm bmN,OwnClsQ x X.exc bm newId mg X.H₀∧ExcBaseFacts Bn newId inN bmN∧bm.contains (.type Bn)=true∧ExcBaseFacts B nid initId bm
noncomputable def EE:MS:=fun ω ω=>none
noncomputable def k9(r:ML):MS:=fun η σ=>oB (r η σ) fun l σ=>cR l (fun a=>iI a fun x=>some (.exc x,η,σ)) wi oW
section
variable{X:Cx}{k:Nat}{sc:Scope}{vis:List (Str×Nat)}{A:Around}{env cenv:Env}{Z:Addr→Prop}{ρ:List Addr}{σ:St}{η:be}{s:Shared}
theorem CT(st:Stmt):ku X k sc vis st EE:=by
 refine⟨?_⟩
 intro A env Z ρ σ η s c o η' σ' e
 exact oN e
theorem jC{x:Str}{np cpos pos:Pos}{es:List Expr}{r:ML}(G:bo X x (.ref X.exc))(O:tH X x)(hr:iT X k sc vis es r)(hh:sA sc x=true:=by decide +kernel)
   (hp:∀env,(backTo cpos (starEach es env)).any (·.1)=false:=by intro _;rfl):ku X k sc vis (.Raise (some (.Call (.Name x np) es [] cpos)) none pos) (k9 r):=by
 obtain⟨hk,hd⟩:=jT hh
 refine⟨?_⟩
 intro A env Z ρ σ η s c o η' σ' e Q E p
 refine aD e fun l σ₁ h1 e => ?_
 obtain⟨mg,B,nid,initId,Bn,newId,inN,bm,bmN,O,Fn,hBn,FB⟩:=O
 obtain⟨tl,N,nm,q,bs,hdct,sn,sub,ab,col,dd,k0,k1,k2,k3,k5,mN,hC,hN,hni,T⟩:=O.own.obj
 have hk':env.kindOf x=some .globalImplicit:=by unfold Env.kindOf;rw[c.sc];exact hk
 refine wpAny_Raise_call_subU (C:=X.exc) (nm:=nm) (q:=q) (N:=N) (bs:=bs) (bm:=tl) (hdct:=hdct) (sn:=sn) (sub:=sub) (ab:=ab) (col:=col) (dd:=dd) (k0:=k0) (k1:=k1) (k2:=k2) (k3:=k3) (k5:=k5)
  Fn hBn FB (mN:=mN) (T.hasType FB.hasBase) c.c.hnd (hp env) hni (wpAny_Name ?_ hd)
 rw[PyProof.Rows.loadName_read c.e.kind hk']
 refine G _ _ _ _ _ c.e.glob c.e.bltn c.c.inv.base ⟨rfl,dT (hp env) (hr.run A env Z ρ σ η s cpos c _ _ h1 _ _ fun Z₁ ρ₁ vs₁ s₁ i₁ y₁ r₁ => ?_)⟩
 obtain⟨y,t,hv,e⟩:=il (P:=fun vs=>∃y t,vs = [.str (aj y) t]∧some (.exc y,η,σ₁)=some (o,η',σ')) e r₁ fun a v rv e=>bj (P:=fun v=>∃y t,[v] = [.str (aj y) t]∧some (.exc y,η,σ₁)=some (o,η',σ')) e rv fun y t e=>⟨y,t,rfl,e⟩
 rw[hv]
 exact⟨rfl,by show 1≤sizeLine;rw[sizeLine_eq];decide,i₁.base _ _ hC,hN.keeps i₁.base,T.keeps i₁.base,fun h' ex hm=>p.of e _ _ _ t i₁ (y₁.weaken fun ω f=>f.elim) (c.e.ext y₁) h' ex hm⟩
noncomputable def qP(X:Cx)(A:Around)(s₀:Shared)(Z:Addr→Prop)(ρ:List Addr)(base h:Heap):Prop :=
 ∀b o,h.get? b=some o→(Z b∨b∈ρ∨X.H₀.get? b≠none∨(s₀.heap.get? b≠none∧cw A b))→base.get? b=some o
theorem jV{Z' ρ' σ' s'}(c:VC X k A Z ρ σ s)(i:bL X Z' ρ' σ' s')(y:a9 T0 Z ρ s Z' ρ' s'){base h:Heap}(B:qP X A s Z' ρ' base s'.heap)(st:base.StaysIn h)(up:s'.heap.UpToSlots h){tk:Nat} :
  bL X Z' ρ' σ' { s' with heap:=h,toks:=tk } ∧ a9 T0 Z ρ s Z' ρ' { s' with heap:=h,toks:=tk } ∧ qP X A s Z' ρ' base h:=by
 have kz:∀b o,Z' b→s'.heap.get? b=some o→h.get? b=some o:=fun b o f e=>st _ _ (B b o e (.inl f))
 have kr:∀b o,b∈ρ'→s'.heap.get? b=some o→h.get? b=some o:=fun b o f e=>st _ _ (B b o e (.inr (.inl f)))
 have kh:∀b o,X.H₀.get? b≠none→s'.heap.get? b=some o→h.get? b=some o:=fun b o f e=>st _ _ (B b o e (.inr (.inr (.inl f))))
 have kn:∀b o,s.heap.get? b≠none→cw A b→s'.heap.get? b=some o→h.get? b=some o:=fun b o f g e=>st _ _ (B b o e (.inr (.inr (.inr ⟨f,g⟩))))
 obtain⟨fs,hfs,fr⟩:=c.frs
 have frame:∀b,¬ cw A b→dY s.heap b∧b∉ρ:=fun b hb=>by
  refine Classical.byContradiction fun no=>hb fun fs' hfs' ev hev hL=>no ?_
  rw[← Option.some.inj (hfs.symm.trans hfs')]at hev
  obtain⟨_,L,hL',_,h2,_,hfc,_⟩:=fr.each ev hev
  rw[Option.some.inj (hL.symm.trans hL')]
  exact⟨hfc,h2⟩
 have upF:∀b,dY s'.heap b→∃o sl,s'.heap.get? b=some o∧o.cls=.type "frame" ∧ h.get? b=some { o with slots:=sl } := fun b f=>by
  obtain⟨o,es,ep,e,hc,hd⟩:=f
  obtain⟨sl,hs⟩:=up b o e (fun vs q=>nomatch hd.symm.trans q)
  exact⟨o,sl,e,hc,hs⟩
 refine⟨⟨?_,?_,i.len,i.nd,?_,?_⟩,⟨?_,?_,y.fmono,y.fnew,y.rho,y.rnew,?_,?_,y.gens,y.os,y.drawn⟩,?_⟩
 ·intro b o e
  exact kh b o (by rw[e];exact fun q=>nomatch q) (i.base b o e)
 ·intro b f
  obtain⟨o,e⟩:=i.fr b f
  exact⟨o,kz b o f e⟩
 ·intro b m
  obtain⟨⟨o,e⟩,r⟩:=i.old b m
  exact⟨⟨o,kr b o m e⟩,r⟩
 ·intro n b d h1 h2
  exact(i.cells n b d h1 h2).mono (fun x o f e=>kz x o f e) (fun ω f=>f) List.prefix_rfl (fun o e=>kr b o (List.mem_of_getElem? h1) e) id
 ·intro b o e ht hr
  have ko:=y.keep b o e ht hr
  obtain⟨o',e'⟩:=ko.some
  by_cases hb:cw A b
  ·rw[e']at ko
   refine ko.trans (.inl (kn b o' (by rw[e];exact fun q=>nomatch q) hb e'))
  ·have hf:=(frame b hb).1
   obtain⟨o'',sl,e'',hc,hs⟩:=upF b (y.frm b hf)
   rw[e'']at ko
   exact ko.trans (.inr ⟨hc,sl,hs⟩)
 ·intro b o f e
  exact kz b o (y.fmono b f) (y.fkeep b o f e)
 ·intro b o e
  obtain⟨o',e'⟩:=y.alive b o e
  by_cases hb:cw A b
  ·exact⟨o',kn b o' (by rw[e];exact fun q=>nomatch q) hb e'⟩
  ·obtain⟨o'',sl,_,_,hs⟩:=upF b (y.frm b (frame b hb).1)
   exact⟨_,hs⟩
 ·intro b f
  obtain⟨o,es,ep,e,hc,hd⟩:=y.frm b f
  obtain⟨sl,hs⟩:=up b o e (fun vs q=>nomatch hd.symm.trans q)
  exact⟨_,es,ep,hs,hc,hd⟩
 ·intro b o e hb
  have al:∃o',s'.heap.get? b=some o':=by
   rcases hb with f | m | hh | ⟨hs,_⟩
   ·exact i.fr b f
   ·exact(i.old b m).1
   ·cases q:X.H₀.get? b with
    | none=>exact absurd q hh
    | some o'=>exact⟨o',i.base b o' q⟩
   ·cases q:s.heap.get? b with
    | none=>exact absurd q hs
    | some o'=>exact y.alive b o' q
  obtain⟨o',e'⟩:=al
  have hb':=B b o' e' hb
  rw[Option.some.inj (e.symm.trans (st b o' hb'))]
  exact hb'
noncomputable def qT(X:Cx)(A:Around)(Z:Addr→Prop)(ρ:List Addr)(s:Shared)(x:List Nat)(σ':St)(E:Value→Shared→Prop):Prop :=
 ∀Z' ρ' s' fs base e t tk,A.frames=some fs→bL X Z' ρ' σ' s'→a9 T0 Z ρ s Z' ρ' s'→qP X A s Z' ρ' base s'.heap→Heap.FlyingW base fs e (.ref X.exc) (.ref t) s'.heap→s'.heap.TupAt t [.str (aj x) tk]→base.get? t=none→E (.ref e) s'
noncomputable def vQ:=List AV→St→Option (fU×St)
noncomputable def lG(x:Option (fU×be×St)):Option (fU×St):=match x with
 | some (o,_,σ)=>match o with
  | .ret a=>some (.ret a,σ)
  | .next=>some (.ret .none,σ)
  | .exc x=>some (.exc x,σ)
 | none=>none
noncomputable def wh(n N:Nat)(m:MS):vQ:=fun l σ=>if l.length=n then lG (m (lZ N l) σ)else none
noncomputable def pE(X:Cx)(A:Around)(Z:Addr→Prop)(ρ:List Addr)(s:Shared)(o:fU)(σ':St)(Q:Value→Shared→Prop)(E:Value→Shared→Prop):Prop:=match o with
  | .ret av=>cH X Z ρ s av σ' Q
  | .exc x=>qT X A Z ρ s x σ' E
  | .next=>False
theorem xw{x:Option (fU×be×St)}{o:fU}{σ':St}{Q:Value→Shared→Prop}{E:Value→Shared→Prop}{P:Prop}(e:lG x=some (o,σ'))(p:pE X A Z ρ s o σ' Q E)(k:∀a η σ,x=some (.ret a,η,σ)→cH X Z ρ s a σ Q→P)(k':∀η σ,x=some (.next,η,σ)→cH X Z ρ s .none σ Q→P)
  (k'':∀y η σ,x=some (.exc y,η,σ)→qT X A Z ρ s y σ E→P):P:=by
 cases x with
 | none=>exact oN e
 | some w =>
  obtain⟨o₁,η,σ⟩:=w
  cases o₁ with
  | next=>exact k' η σ rfl (qe (P:=fun o σ'=>pE X A Z ρ s o σ' Q E) (Option.some.inj e) p)
  | ret v=>exact k v η σ rfl (qe (P:=fun o σ'=>pE X A Z ρ s o σ' Q E) (Option.some.inj e) p)
  | exc x=>exact k'' x η σ rfl (qe (P:=fun o σ'=>pE X A Z ρ s o σ' Q E) (Option.some.inj e) p)
structure pH(X:Cx)(k:Nat)(f:Value)(op:vQ):Prop where
 run:∀A Z ρ σ s,VC X k A Z ρ σ s→∀l vs,ag X ρ Z s.heap l vs→∀o σ',op l σ=some (o,σ')→∀Q E,pE X A Z ρ s o σ' Q E→wpAny (model X.prog X.w) A (call f vs) Q E s
theorem AI{A:Around}{Z Z₂:Addr→Prop}{ρ ρ₂:List Addr}{σ σ₁:St}{s s₂:Shared}{cenv:Env}{ex:Addr}{x:List Nat}{t:Tok}{h':Heap}{E:Value→Shared→Prop}(hfr:cenv.frame=some s.heap.objs.size)(c:VC X k A Z ρ σ s)(c₂:VC X (k+1) (A.deeper cenv) Z₂ ρ₂ σ₁ s₂)
  (y02:a9 T0 Z ρ s Z₂ ρ₂ s₂) (p:qT X A Z ρ s x σ₁ E) (hm:Heap.MadeExcOf s₂.heap h' ex (.ref X.exc) [.str (aj x) t]) :
  wpAny (model X.prog X.w) (A.deeper cenv) (leaving cenv (.ref ex)) (fun ω s''=>E (.ref ex) s'') E { s₂ with heap:=h' } := by
 obtain⟨fs,hfs,fr₂⟩:=c₂.frs
 obtain⟨fs0,hfs0,_⟩:=c.frs
 have hfs':cenv::fs0=fs:=by
  have:(A.deeper cenv).frames=some (cenv::fs0):=by show A.frames.map _=_;rw[hfs0];rfl
  exact Option.some.inj (this.symm.trans hfs)
 subst hfs'
 have hin:∀b,b∈(cenv::fs0).filterMap (·.frame)→dY s₂.heap b ∧ ¬ Z₂ b∧b∉ρ₂∧X.H₀.get? b=none:=fun b hb=>by
  obtain⟨ev,hev,hL⟩:=List.mem_filterMap.mp hb
  obtain⟨_,L,hL',g1,g2,g3,g4,_⟩:=fr₂.each ev hev
  rw[Option.some.inj (hL.symm.trans hL')]
  exact⟨g4,g1,g2,g3⟩
 have ff:∀l:List Env,(∀ev∈l,ev∈cenv::fs0)→s₂.heap.FunFrames (hideAll s₂.heap ((cenv::fs0).filterMap (·.frame))) l:=by
  intro l
  induction l with
  | nil=>intro _;trivial
  | cons ev l ih =>
   intro hl'
   have hev:=hl' ev List.mem_cons_self
   obtain⟨hkd,L,hL,_,_,_,⟨oL,es,ep,eL,_,hdL⟩,_⟩:=fr₂.each ev hev
   exact⟨hkd,⟨L,oL,hL,hideAll_none _ (List.mem_filterMap.mpr ⟨ev,hev,hL⟩),eL,fun vs q=>nomatch hdL.symm.trans q⟩,ih fun e he=>hl' e (List.mem_cons_of_mem _ he)⟩
 refine wpAny_leaves_madeW (base:=hideAll s₂.heap ((cenv::fs0).filterMap (·.frame))) (h:=s₂.heap) hfs hfr (fun b o q=>of_hideAll _ q) (ff _ fun ω h=>h) hm fun h'' t' hfl htup hnt hup => ?_
 have B0:qP X A s Z₂ ρ₂ (hideAll s₂.heap ((cenv::fs0).filterMap (·.frame))) s₂.heap:=fun b o e hb=>by
  refine hideAll_get _ e fun hmem => ?_
  obtain⟨g4,g1,g2,g3⟩:=hin b hmem
  rcases hb with f | f | f | ⟨f1,f2⟩
  ·exact g1 f
  ·exact g2 f
  ·exact f g3
  ·obtain⟨ev,hev,hL⟩:=List.mem_filterMap.mp hmem
   rcases List.mem_cons.mp hev with q | hev
   ·rw[q]at hL
    rw[Option.some.inj (hL.symm.trans hfr),bx]at f1;exact f1 rfl
   ·exact f2 _ hfs0 ev hev hL
 have up2:s₂.heap.UpToSlots h'':=(Heap.UpToSlots.of_keeps hm.keeps).trans hup
 obtain⟨i₃,y₃,B₃⟩:=jV c c₂.inv y02 B0 hfl.1 up2 (tk:=s₂.toks)
 exact p Z₂ ρ₂ _ fs0 _ ex t' t hfs0 i₃ y₃ B₃ hfl htup hnt
theorem Gm{a:Addr}{fd:FuncData}{body:List Stmt}{ps:List Str}{N:Nat}{m:MS}(U:kq X k)(F:pG X a fd body ps)(ok:nc fd.scope vis ps N=true)(hB:fw X (k+1) fd.scope vis body m) :
  pH X k (.ref a) (wh ps.length N m):=by
 refine⟨?_⟩
 intro A Z ρ σ s c l vs r o σ' e Q E p
 refine dh e fun hl e => ?_
 obtain⟨ob,ho,hd⟩:=F.obj
 have hvl:vs.length=ps.length:=by rw[← r.length];exact hl
 have hroom:A.depth<recursionLimit:=by have:=c.dep;have:=U.2;trivial
 refine wpAny_call (lx hroom (c.inv.base _ _ ho) hd (F.lim.keeps c.inv.base) (F.code.keeps c.inv.base) F.body (F.bind vs hvl) F.clo (rS (nb ok) hvl _) (fun s₁ I hfc => ?_) F.co F.gen F.kind)
 obtain⟨ec,y₁,ht⟩:=sF F ok c r hl I hfc
 refine xw e p (fun av' η' σ₁ h1 p => ?_) (fun η' σ₁ h1 p => ?_) fun x η' σ₁ h1 p => ?_
 ·refine hB.run _ _ Z ρ σ _ s₁ ec _ _ _ h1 _ _ fun Z₂ ρ₂ v₂ s₂ i₂ y₂ e₂ r₂ => ?_
  exact p _ _ _ _ i₂ ((y₁.weaken fun ω f=>f.elim).trans y₂ |>.drop fun b t=>.inr (ht b t)) r₂
 ·refine hB.run _ _ Z ρ σ _ s₁ ec _ _ _ h1 _ _ fun Z₂ ρ₂ s₂ i₂ y₂ e₂ => ?_
  exact p _ _ _ _ i₂ ((y₁.weaken fun ω f=>f.elim).trans y₂ |>.drop fun b t=>.inr (ht b t)) fV
 ·refine hB.run _ _ Z ρ σ _ s₁ ec _ _ _ h1 _ _ fun Z₂ ρ₂ s₂ t i₂ y₂ e₂ h' ex hm => ?_
  exact AI rfl c (ec.own i₂ y₂ e₂).c ((y₁.weaken fun ω f=>f.elim).trans y₂ |>.drop fun b t=>.inr (ht b t)) p hm
end
end
section
open SeqAt
section
open PySem.Builtin PySem.Builtin.Str PySem.Builtin.BaseException PySem.Builtin.Exceptions
variable{prog:Program}{w:World}{A:Around}{E:Value→Shared→Prop}{s:Shared}{e t0 C:Addr}{K:Frag}
noncomputable def fQ(h:Heap)(e C t0:Addr):Prop:=∃o vs,h.get? e=some o∧o.cls=.ref C∧o.data=.fields vs∧vs[0]? = some (.ref t0)
theorem z5{M:Model}{items:List Value}{Q:Value×List Value→Shared→Prop}(x:fQ s.heap e C t0)(ht:s.heap.TupAt t0 items)(hq:Q (.ref t0,items) s):wpAny M A (bexcArgs (.ref e)) Q E s:=by
 obtain⟨o,vs,ho,_,hd,h0⟩:=x
 obtain⟨ot,k,hto,_,htd⟩:=ht
 unfold bexcArgs
 refine wpAny_bind (wpAny_field ho hd h0 (wpAny_bind (wpAny_seqItems hto htd ?_)))
 have:items.toArray.toList=items:=by simp
 show wpAny M A (pure (Value.ref t0,items.toArray.toList)) Q E s
 rw[this];exact wpAny_pure hq
theorem xq{m:PySem.Str}{tk:Tok}{Q:Fin→Shared→Prop}(x:fQ s.heap e C t0)(ht:s.heap.TupAt t0 [.str m tk])(hq:Q (.done (.ret (.str m tk))) s) :
  wpAny (model prog w) A (Builtin.«BaseException.__str__» ⟨[.ref e],[]⟩) Q E s:=by
 unfold Builtin.«BaseException.__str__»
 repeat (first | with_reducible refine z5 x ht ?_ | wp_step)
 exact hq
theorem rU{M:Model}{h:Heap}(x:fQ h e C t0):Looks M h (typeOf (.ref e)) (.ref C):=by
 obtain⟨o,vs,ho,hc,_⟩:=x
 exact hc ▸ (Looks.ld ho).andThen .now
theorem z3{m:PySem.Str}{tk:Tok}{Q:Value→Shared→Prop}(X:K.In s.heap)(hm:mroIn K C (.type "BaseException")=some true)(x:fQ s.heap e C t0)(ht:s.heap.TupAt t0 [.str m tk])(hq:Q (.str m tk) s) :
  wpAny (model prog w) A (call (.builtin "BaseException.__str__") [.ref e]) Q E s:=by
 refine wpAny_call (codeAny_call_builtin (by decide +kernel) PySem.F.entry_bexc_str (check_slot (i := "BaseException.__str__") (owner := "BaseException") (n := "__str__") (by decide +kernel) (by decide +kernel) ((rU x).andThen (looks_mroIn X hm)) (PySem.F.args_bexc_str _) ?_))
 exact xq x ht hq
theorem rV{m:PySem.Str}{tk:Tok}{Q:Option Value→Shared→Prop}(X:K.In s.heap)(hs:findIn K (.ref C) "__str__" = some (some (.builtin "BaseException.__str__")))(hm:mroIn K C (.type "BaseException")=some true)
  (hb:∀self,bindSpecial (.builtin "BaseException.__str__") self=pure (.builtin "BaseException.__str__",[self]))
  (x:fQ s.heap e C t0) (ht:s.heap.TupAt t0 [.str m tk]) (hq:Q (some (.str m tk)) s):wpAny (model prog w) A (callSpecial? (.ref e) "__str__" []) Q E s :=
 wpAny_bind (wpAny_bind ((rU x).here ((looks_findIn X hs).here (wpAny_holding (wpAny_bind ((Looks.of_pure (hb _)).here (wpAny_bind (z3 X hm x ht (wpAny_pure hq)))))))))
theorem xp{m:PySem.Str}{tk:Tok}{Q:Value→Shared→Prop}(hu:A.units<cLine)(X:K.In s.heap)(hs:findIn K (.ref C) "__str__" = some (some (.builtin "BaseException.__str__")))(hm:mroIn K C (.type "BaseException")=some true)
  (hb:∀self,bindSpecial (.builtin "BaseException.__str__") self=pure (.builtin "BaseException.__str__",[self]))
  (x:fQ s.heap e C t0) (ht:s.heap.TupAt t0 [.str m tk]) (hq:Q (.str m tk) s):wpAny (model prog w) A (PySem.Builtin.Str.strOf (.ref e)) Q E s:=by
 unfold PySem.Builtin.Str.strOf
 repeat (first | with_reducible refine wpAny_cRoomFor hu ?_ | with_reducible refine rV X hs hm hb x ht ?_ | wp_step)
 exact hq
theorem Dh{m:PySem.Str}{tk:Tok}{Q:Value→Shared→Prop}(hu:A.units+2<cLine)(X:K.In s.heap)(hs:findIn K (.ref C) "__str__" = some (some (.builtin "BaseException.__str__")))(hm:mroIn K C (.type "BaseException")=some true)
  (hb:∀self,bindSpecial (.builtin "BaseException.__str__") self=pure (.builtin "BaseException.__str__",[self]))
  (x:fQ s.heap e C t0) (ht:s.heap.TupAt t0 [.str m tk]) (h:Q (.str m tk) s):wpAny (model prog w) A (call (.type "str") [.ref e]) Q E s :=
 callType_new PySem.F.called_str (by decide) (PySem.F.typeCall_str_1 _) (PySem.F.newCall_str_1 _) (fun obj=>PySem.F.args_object_init_2 obj _) PySem.F.entry_str_new
  (meets_str_new (S:=fun A' R s'=>A'.units+1<cLine∧K.In s'.heap∧fQ s'.heap e C t0∧s'.heap.TupAt t0 [.str m tk]∧R (.ok (.ret (.str m tk))) s')
   fun ω ω A' ω ω hq=>xp (A:=A'.in1) hq.1 hq.2.1 hs hm hb hq.2.2.1 hq.2.2.2.1 hq.2.2.2.2)
  ⟨(show A.units+1+1<cLine from hu),X,x,ht,typeIs_str _ _ _,h⟩
end
theorem yq(self:Value):bindSpecial (.builtin "BaseException.__str__") self=pure (.builtin "BaseException.__str__",[self]) :=
 (Slot.of (T := "BaseException") (name := "__str__") (owner := "BaseException") (n := "__str__") (by rw[typeLookup_type,builtinLookup_eq_fast];kernel_rfl) (by decide +kernel) (by decide +kernel) (by decide +kernel)
  (.inl (by decide +kernel)) (by rw[isSubtype_type];kernel_rfl)).bind self
theorem FX{M:Model}{A:Around}{E:Value→Shared→Prop}{s:Shared}{a:Addr}{m:Str→Option Value}{name:Str}{Q:Bool→Shared→Prop}(hn:s.heap.Ns a m)
  (h:∀h' v,h'.Ns a (fun x=>if x=name then v else m x)→Heap.SameBut a s.heap h'→(dY s.heap a→dY h' a)→Q (m name).isSome { s with heap:=h' }):wpAny M A (nsDel a name) Q E s:=by
 have Cj:=wpAny_nsDel_keeps (M:=M) (A:=A) (E:=E) (s:=s) (a:=a) (m:=m) (name:=name) (Q:=fun b s'=>(∃v,s'.heap.Ns a (fun x=>if x=name then v else m x))∧Heap.SameBut a s.heap s'.heap∧b=(m name).isSome∧s' = { s with heap:=s'.heap }) hn
  fun h' v x y=>⟨⟨v,x⟩,y,rfl,rfl⟩
 obtain⟨o,es,ep,ho,hd,hk,hm⟩:=id hn
 intro Γ p hp
 have h1:=Cj Γ p hp
 have hany:es.any (·.refKey)=false:=by
  rw[Array.any_eq_false']
  intro e he
  obtain⟨n,t,h⟩:=hk e he
  simp[DictEntry.refKey,h]
 have hhas:nsHas name o=pure (es.any (·.key.isStr name)):=by
  rw[nsHas_eq];unfold nsHasByArray;rw[hd]
  show(if(es.any fun x=>x.key.isStr name)=true then _ else _)=_
  generalize (es.any fun x=>x.key.isStr name)=b
  cases b <;> simp[hany]
 simp only[nsDel,Sem.wp_bind']at h1 ⊢
 rw[Sem.wp_loadPart_of M Γ _ p s (o:=o) _ ho]at h1 ⊢
 rw[hhas]at h1 ⊢
 simp only[Sem.wp_pure']at h1 ⊢
 cases hb:es.any (·.key.isStr name)with
 | false =>
  rw[hb]at h1
  simp only[Bool.false_eq_true,if_false,Sem.wp_pure']at h1 ⊢
  obtain⟨⟨v,h3⟩,h4,h5,_⟩:=h1
  rw[h5]
  exact h _ v h3 h4 id
 | true =>
  rw[hb]at h1
  simp only[if_true,Sem.wp_bind',Sem.wp_cmd_updatePart,Sem.wp_pure']at h1 ⊢
  obtain⟨h2,⟨v,h3⟩,h4,h5,_⟩:=h1
  refine⟨h2,?_⟩
  rw[h5]
  refine h _ v h3 h4 fun f => ?_
  obtain⟨o',es',ep',e',hc,hd'⟩:=f
  rw[ho]at e';cases e'
  obtain⟨c,d,dt,sl⟩:=o
  subst hd
  cases hi:es.findIdx? (·.key.isStr name)with
  | some i=>exact⟨_,_,_,Heap.get?_update_self _ ho (by simp only[Obj.dropName_eq,Obj.dropNameByArray,hi] <;> rfl),by simp only[Obj.dropName_eq,Obj.dropNameByArray,hi] <;> exact hc,by simp only[Obj.dropName_eq,Obj.dropNameByArray,hi] <;> rfl⟩
  | none=>exact⟨_,_,_,Heap.get?_update_self _ ho (by simp only[Obj.dropName_eq,Obj.dropNameByArray,hi] <;> rfl),by simp only[Obj.dropName_eq,Obj.dropNameByArray,hi] <;> exact hc,by simp only[Obj.dropName_eq,Obj.dropNameByArray,hi] <;> rfl⟩
theorem CO{M:Model}{A:Around}{E:Value→Shared→Prop}{s:Shared}{env:Env}{n:Str}{m:Str→Option Value}{v:Value}{Q:Unit→Shared→Prop}(hl:env.kindOf n=some .local)(hn:s.heap.Ns env.locals m)(hv:m n=some v)
  (hp:(env.scope.kind==.class||(env.scope.kind==.module&&env.locals != env.globals))=false)
  (h:∀h' u,h'.Ns env.locals (fun x=>if x=n then u else m x)→Heap.SameBut env.locals s.heap h'→(dY s.heap env.locals→dY h' env.locals)→Q () { s with heap:=h' }) :
  wpAny M A (unbindName env n) Q E s:=by
 unfold unbindName
 refine wpAny_bind (wpAny_point (wpAny_bind ?_))
 unfold deleteName
 simp only[hl,hp]
 rw[if_neg (by decide)]
 refine wpAny_bind (FX hn fun h₂ u hn₂ hs₂ hf => ?_)
 simp only[hv,Option.isSome_some,Bool.not_true,Bool.false_eq_true,if_false]
 exact wpAny_pure (wpAny_point (h h₂ u hn₂ hs₂ hf))
end
section
open SeqAt
structure Ig(X:Cx)(K:Frag):Prop where
 inn:K.In X.H₀
 str:findIn K (.ref X.exc) "__str__" = some (some (.builtin "BaseException.__str__"))
 mro:mroIn K X.exc (.type "BaseException")=some true
section
variable{X:Cx}{k:Nat}{sc:Scope}{vis:List (Str×Nat)}{A:Around}{env cenv:Env}{Z:Addr→Prop}{ρ:List Addr}{σ:St}{η:be}{s:Shared}
theorem aU.hidden(e:aU X Z ρ s.heap env vis η){n:Str}(hv:vis.lookup n=none){m:Str→Option Value}{w:Option Value}{h':Heap}
  (hm:∀x i av,vis.lookup x=some i→env.kindOf x=some .local→η[i]? = some av→(av=.unbound∨∃v,m x=some v∧aq X ρ Z s.heap av v))
  (hn:h'.Ns env.locals (fun y=>if y=n then w else m y)) (hs:Heap.SameBut env.locals s.heap h'):aU X Z ρ h' env vis η:=by
 have kz:fR Z s.heap h':=fun b o f q=>(hs.2 b (fun z=>e.own.1 (z ▸ f))).trans q
 have mv:∀{a:AV} {w:Value},aq X ρ Z s.heap a w→aq X ρ Z h' a w:=fun r=>r.mono kz (fun ω f=>f) List.prefix_rfl
 refine⟨e.kind,e.glob,e.bltn,⟨_,hn,fun x i av h1 h2 h3 => ?_⟩,fun x i h1 h2 => ?_,e.own,fun y c hc => ?_,e.apart⟩
 ·have hx:x≠n:=fun q=>by rw[q,hv]at h1;exact nomatch h1
  exact(hm x i av h1 h2 h3).imp id fun h=>h.imp fun v z=>⟨(if_neg hx).trans z.1,mv z.2⟩
 ·obtain⟨c,w,hc,hw,hcv⟩:=e.cel x i h1 h2
  exact⟨c,w,hc,hw.sameBut hs (e.ownc x c (mem_of_lookup hc)).2.2.2.1,fun a h3=>(hcv a h3).imp id fun h=>h.imp fun v z=>⟨z.1,mv z.2⟩⟩
 ·obtain⟨a1,a2,a3,a4,w,a5⟩:=e.ownc y c hc
  exact⟨a1,a2,a3,a4,w,a5.sameBut hs a4⟩
structure yA(X:Cx)(k:Nat)(vis:List (Str×Nat))(A:Around)(env:Env)(n:Str)(Z₀:Addr→Prop)(ρ₀:List Addr)(s₀:Shared)(η:be)(σ':St)(w:Option Value)(Z:Addr→Prop)(ρ:List Addr)(s:Shared):Prop where
 i:bL X Z ρ σ' s
 y:a9 (gN vis env) Z₀ ρ₀ s₀ Z ρ s
 e:aU X Z ρ s.heap env vis η
 ns:∃m,s.heap.Ns env.locals m∧m n=w∧∀x i av,vis.lookup x=some i→env.kindOf x=some .local→η[i]? = some av→(av=.unbound∨∃v,m x=some v∧aq X ρ Z s.heap av v)
theorem yA.of(i:bL X Z ρ σ s){Z₀ ρ₀ s₀}(y:a9 (gN vis env) Z₀ ρ₀ s₀ Z ρ s)(e:aU X Z ρ s.heap env vis η){n:Str} : ∃w,yA X k vis A env n Z₀ ρ₀ s₀ η σ w Z ρ s:=by
 obtain⟨m,hn,hm⟩:=e.ns
 exact⟨m n,i,y,e,m,hn,rfl,hm⟩
theorem yA.store{n:Str}{Z₀ ρ₀ s₀ w}(H:yA X k vis A env n Z₀ ρ₀ s₀ η σ w Z ρ s)(hv:vis.lookup n=none)(hk:env.kindOf n=some .local){B:Around}{v:Value}{Q:Unit→Shared→Prop}{E}
  (h:∀h' tk,yA X k vis A env n Z₀ ρ₀ s₀ η σ (some v) Z ρ { s with heap:=h',toks:=tk } → Heap.SameBut env.locals s.heap h'→Q () { s with heap:=h',toks:=tk }):wpAny (model X.prog X.w) B (storeName env n v) Q E s:=by
 obtain⟨m,hn,_,hm⟩:=H.ns
 refine cV hk hn (fun h' hn' hs hfc => ?_) (by rw[H.e.kind];rfl)
 have al:s.heap.get? env.locals≠none→h'.get? env.locals≠none:=fun ω=>cM hn'
 have kz:fR Z s.heap h':=fun b o f q=>(hs.2 b (fun z=>H.e.own.1 (z ▸ f))).trans q
 refine h _ _ ⟨H.i.turn hs (cB H.e) al,H.y.trans (a9.turn hs (cB H.e) al (.inl rfl) hfc),H.e.hidden hv hm hn' hs,_,hn',if_pos rfl,fun x i av h1 h2 h3 => ?_⟩ hs
 have hx:x≠n:=fun q=>by rw[q,hv]at h1;exact nomatch h1
 exact(hm x i av h1 h2 h3).imp id fun h=>h.imp fun v z=>⟨(if_neg hx).trans z.1,z.2.mono kz (fun ω f=>f) List.prefix_rfl⟩
theorem yA.drop{n:Str}{Z₀ ρ₀ s₀ v}(H:yA X k vis A env n Z₀ ρ₀ s₀ η σ (some v) Z ρ s)(hv:vis.lookup n=none)(hk:env.kindOf n=some .local){B:Around}{Q:Unit→Shared→Prop}{E}
  (h:∀h' w,yA X k vis A env n Z₀ ρ₀ s₀ η σ w Z ρ { s with heap:=h' } → Heap.SameBut env.locals s.heap h'→Q () { s with heap:=h' }):wpAny (model X.prog X.w) B (unbindName env n) Q E s:=by
 obtain⟨m,hn,hmn,hm⟩:=H.ns
 refine CO hk hn hmn (by rw[H.e.kind];rfl) (fun h' u hn' hs hfc => ?_)
 have al:s.heap.get? env.locals≠none→h'.get? env.locals≠none:=fun ω=>cM hn'
 have kz:fR Z s.heap h':=fun b o f q=>(hs.2 b (fun z=>H.e.own.1 (z ▸ f))).trans q
 refine h _ u ⟨H.i.turn (tk:=s.toks) hs (cB H.e) al,H.y.trans (a9.turn (tk:=s.toks) hs (cB H.e) al (.inl rfl) hfc),H.e.hidden hv hm hn' hs,_,hn',if_pos rfl,fun x i av h1 h2 h3 => ?_⟩ hs
 have hx:x≠n:=fun q=>by rw[q,hv]at h1;exact nomatch h1
 exact(hm x i av h1 h2 h3).imp id fun h=>h.imp fun v z=>⟨(if_neg hx).trans z.1,z.2.mono kz (fun ω f=>f) List.prefix_rfl⟩
noncomputable def Dn(x:Option (fU×St))(η:be):Option (fU×be×St):=match x with
 | some (o,σ)=>match o with
  | .ret a=>some (.ret a,η,σ)
  | .exc x=>some (.ret (.tup [.str x]),η,σ)
  | .next=>none
 | none=>none
theorem An{x:Option (fU×St)}{η:be}{r:fU×be×St}{P:Prop}(e:Dn x η=some r)(k:∀a σ,x=some (.ret a,σ)→some (.ret a,η,σ)=some r→P)(k':∀y σ,x=some (.exc y,σ)→some (.ret (.tup [.str y]),η,σ)=some r→P):P:=by
 cases x with
 | none=>exact oN e
 | some w =>
  obtain⟨o,σ⟩:=w
  cases o with
  | ret v=>exact k v σ rfl e
  | exc y=>exact k' y σ rfl e
  | next=>exact oN e
noncomputable def FD(r:ML)(op:vQ):MS:=fun η σ=>oB (r η σ) fun l σ=>Dn (op l σ) η
theorem ro{f:Str}{fp cpos rpos:Pos}{es:List Expr}{a:Addr}{fd:FuncData}{r:ML}{op:vQ}(G:bo X f (.ref a))(hf:∃o,X.H₀.get? a=some o∧o.data=.func fd)(ok:pH X k (.ref a) op)(hr:iT X k sc vis es r)
  (hkf:sc.names.lookup f=some .globalImplicit) (hdf:(f==("__debug__" : Str))=false) (hpl:∀env,(backTo cpos (starEach es env)).any (·.1)=false)
  (c:EC X k sc vis A env Z ρ σ η s) {l:List AV} {σ₁:St} (h1:r η σ=some (l,σ₁)) {Q':Flow→Shared→Prop} {E':Value→Shared→Prop} {o:fU} {σ₂:St} (ho':op l σ₁=some (o,σ₂))
  (hpost:∀Z₁ ρ₁ s₁,bL X Z₁ ρ₁ σ₁ s₁→a9 T0 Z ρ s Z₁ ρ₁ s₁→pE X A Z₁ ρ₁ s₁ o σ₂ (fun v s'=>Q' (.ret v) s') E'):wpAny (model X.prog X.w) A (exec (.Return (some (.Call (.Name f fp) es [] cpos)) rpos) env) Q' E' s:=by
 obtain⟨ob,ho,hd⟩:=hf
 have kf:env.kindOf f=some .globalImplicit:=by unfold Env.kindOf;rw[c.sc];exact hkf
 refine wpAny_Return_some (wpAny_Call_NameR (wpAny_Name ?_ hdf))
 rw[PyProof.Rows.loadName_read c.e.kind kf]
 refine G _ _ _ _ _ c.e.glob c.e.bltn c.c.inv.base ?_
 refine PySem.Calls.callWith_function (o:=ob) (fd:=fd) (dT (hpl env) (hr.run A env Z ρ σ η s cpos c _ _ h1 _ _ fun Z₁ ρ₁ vs₁ s₁ i₁ y₁ r₁=>⟨⟨i₁.base _ _ ho,hd⟩,?_⟩))
 exact ok.run A Z₁ ρ₁ σ₁ s₁ (c.next i₁ y₁).c l vs₁ r₁ o σ₂ ho' _ _ (hpost Z₁ ρ₁ s₁ i₁ y₁)
theorem sx{K:Frag}(U:kq X k)(KA:Ig X K){n:Str}{spn npn scp tp rp:Pos}{kd:Nat}(GS:bo X "str" (.type "str"))(hks:sc.names.lookup ("str" : Str)=some .globalImplicit)(hkn:sc.names.lookup n=some .local)(hdn:(n==("__debug__" : Str))=false)
  {Z₀:Addr→Prop} {ρ₀:List Addr} {s₀:Shared} {ex t:Addr} {xx:List Nat} {tk:Tok} (hu:A.units+2<cLine) (hsc:env.scope=sc) (H:yA X k vis A env n Z₀ ρ₀ s₀ η σ (some (.ref ex)) Z ρ s) (he:fQ s.heap ex X.exc t) (ht:s.heap.TupAt t [.str (aj xx) tk])
  {B:Around} (hB:B.units=A.units) {Q:Flow→Shared→Prop} {E:Value→Shared→Prop} (h:∀Z' ρ' s' v w,yA X k vis A env n Z₀ ρ₀ s₀ η σ w Z' ρ' s'→aq X ρ' Z' s'.heap (.tup [.str xx]) v→Q (.ret v) s') :
  wpAny (model X.prog X.w) B (exec (.Return (some (.Tuple [.Call (.Name "str" spn) [.Name n npn] [] scp] kd tp)) rp) env) Q E s:=by
 have ks:env.kindOf ("str" : Str)=some .globalImplicit:=by unfold Env.kindOf;rw[hsc];exact hks
 have kn:env.kindOf n=some .local:=by unfold Env.kindOf;rw[hsc];exact hkn
 obtain⟨m,hn,hmn,_⟩:=H.ns
 refine wpAny_Return_some (wpAny_Tuple (wpAny_items_cons (wpAny_Call_NameR (wpAny_Name ?_ (by decide +kernel))) (by rfl)))
 rw[PyProof.Rows.loadName_read H.e.kind ks]
 refine GS _ _ _ _ _ H.e.glob H.e.bltn H.i.base ?_
 refine bq (fun ω q=>nomatch q) rfl (wpAny_items_cons (wpAny_Name (wpAny_loadName_local H.e.kind kn hn hmn (wpAny_items_nil ?_)) hdn) (by rfl))
 refine Dh (t0:=t) (by rw[hB];exact hu) (KA.inn.keeps H.i.base) KA.str KA.mro yq he ht ?_
 refine wpAny_items_nil ⟨by show 1≤sizeLine;rw[sizeLine_eq];decide,?_⟩
 have p:cH X Z ρ s (.tup [.str xx]) σ (fun v s'=>Q (.ret v) s'):=fun Z' ρ' v s' i y r =>
  (yA.of (A:=A) (k:=k) i (H.y.trans (y.weaken fun ω f=>f.elim)) (H.e.ext y) (n:=n)).elim fun w H'=>h Z' ρ' s' v w H' r
 exact p.newTup H.i (ag.cons (df ..) (ag.nil_iff.mpr rfl)) (tk:=s.toks)
theorem Bd{n:Str}{Z₀:Addr→Prop}{ρ₀:List Addr}{s₀:Shared}{w:Option Value}{ex t:Addr}{xx:List Nat}{tk:Tok}{base:Heap}{fs:List Env}{h₇:Heap}(H:yA X k vis A env n Z₀ ρ₀ s₀ η σ w Z ρ s)(hfl:Heap.FlyingW base fs ex (.ref X.exc) (.ref t) s.heap)
  (htup:s.heap.TupAt t [.str (aj xx) tk]) (hs:Heap.SameBut env.locals s.heap h₇):fQ h₇ ex X.exc t∧h₇.TupAt t [.str (aj xx) tk]:=by
 obtain⟨oe,vs,T,oT,ts,hoe,⟨hcls,hv0⟩,hdat,_⟩:=hfl.2.2.2
 obtain⟨ot,nt,hot,hotc,hotd⟩:=htup
 have lY:∀b o,s.heap.get? b=some o→(∀es ep,o.data≠.dict es ep)→b≠env.locals:=fun b o e hd q=>by
  obtain⟨m,⟨o',es,ep,e',hd',_⟩,_⟩:=H.ns
  rw[← q]at e'
  exact hd _ _ (Option.some.inj (e'.symm.trans e) ▸ hd')
 exact⟨⟨oe,vs,(hs.2 _ (lY _ _ hoe fun es ep q=>nomatch hdat.symm.trans q)).trans hoe,hcls,hdat,hv0⟩,⟨ot,nt,(hs.2 _ (lY _ _ hot fun es ep q=>nomatch hotd.symm.trans q)).trans hot,hotc,hotd⟩⟩
theorem xd{K:Frag}(U:kq X k)(KA:Ig X K){f x n:Str}{fp cpos rpos np spn npn scp tp rp hp pos:Pos}{es:List Expr}{kd:Nat}{a:Addr}{fd:FuncData}{r:ML}{op:vQ}(G:bo X f (.ref a))(hf:∃o,X.H₀.get? a=some o∧o.data=.func fd)(ok:pH X k (.ref a) op)(hr:iT X k sc vis es r)
  (GX:bo X x (.ref X.exc)) (O:tH X x) (GS:bo X "str" (.type "str"))
  (hkf:sc.names.lookup f=some .globalImplicit:=by decide +kernel) (hkx:sc.names.lookup x=some .globalImplicit:=by decide +kernel) (hks:sc.names.lookup ("str" : Str)=some .globalImplicit:=by decide +kernel)
  (hkn:sc.names.lookup n=some .local:=by decide +kernel) (hvn:vis.lookup n=none:=by decide +kernel) (hdot:sc.names.lookup (".0" : Str)=none:=by decide +kernel)
  (hdf:(f==("__debug__" : Str))=false:=by decide +kernel) (hdx:(x==("__debug__" : Str))=false:=by decide +kernel) (hdn:(n==("__debug__" : Str))=false:=by decide +kernel)
  (hpl:∀env,(backTo cpos (starEach es env)).any (·.1)=false:=by intro _;rfl) :
  ku X k sc vis (.Try [.Return (some (.Call (.Name f fp) es [] cpos)) rpos] [.ExceptHandler (some (.Name x np)) (some n) [.Return (some (.Tuple [.Call (.Name "str" spn) [.Name n npn] [] scp] kd tp)) rp] hp] [] [] pos) (FD r op):=by
 refine⟨?_⟩
 intro A env Z ρ σ η s c o η' σ' e Q E p
 refine aD e fun l σ₁ h1 e => ?_
 refine wpAny_Try_except (wpAny_execs_cons ?_)
 refine An e (fun av σ₂ h2 e => ?_) fun xx σ₂ h2 e => ?_
 ·refine ro G hf ok hr hkf hdf hpl c h1 h2 fun Z₁ ρ₁ s₁ i₁ y₁ => ?_
  intro Z₂ ρ₂ v₂ s₂ i₂ y₂ r₂
  exact p.of e _ _ _ _ i₂ ((y₁.trans y₂).weaken fun ω f=>f.elim) (c.e.ext (y₁.trans y₂)) r₂
 ·replace p:=p.of e
  have kx:env.kindOf x=some .globalImplicit:=by unfold Env.kindOf;rw[c.sc];exact hkx
  have kn:env.kindOf n=some .local:=by unfold Env.kindOf;rw[c.sc];exact hkn
  have hu:A.units+2<cLine:=by have:=c.c.uni;have:=U.1;trivial
  refine ro G hf ok hr hkf hdf hpl c h1 h2 fun Z₁ ρ₁ s₁ i₁ y₁ => ?_
  intro Z₂ ρ₂ s₂ fs base ex t tk hfs i₂ y₂ B₂ hfl htup hnt
  have c₁:=c.next i₁ y₁
  obtain⟨outer,hfr⟩:=c.top (by rw[c.sc];exact hdot)
  have hfs:=Option.some.inj (hfr.symm.trans hfs)
  subst hfs
  obtain⟨fs',hfs',fr'⟩:=c.c.frs
  obtain⟨_,L,hL,_⟩:=fr'.each env (Option.some.inj (hfr.symm.trans hfs') ▸ List.mem_cons_self)
  refine wpAny_looks_onW hfr hL hfl fun h₄ hheld₄ hsm₄ => ?_
  obtain⟨i₄,y₄,B₄⟩:=jV c₁.c i₂ y₂ B₂ hheld₄.1 hsm₄ (tk:=s₂.toks)
  refine wpAny_landsW hheld₄ fun h₅ hfl₅ hsm₅ => ?_
  obtain⟨i₅,y₅,B₅⟩:=jV c₁.c i₄ y₄ B₄ hfl₅.1 hsm₅ (tk:=s₂.toks)
  obtain⟨mg,B,nid,initId,Bn,newId,inN,bm,bmN,O,Fn,hBn,FB⟩:=O
  refine handleBy_own_as (C:=X.exc) (mg:=mg) (x:=x) (newId:=newId) FB.hasBase (wpAny_Name ?_ hdx)
  rw[PyProof.Rows.loadName_read c.e.kind kx]
  obtain⟨oe5,hoe5,hoc5⟩:=hfl₅.there
  refine GX _ _ _ _ _ c.e.glob c.e.bltn i₅.base ⟨rfl,O.keeps i₅.base,⟨oe5,hoe5,hoc5⟩,?_⟩
  refine lands_againW hfl₅ fun h₆ hfl₆ hsm₆ => ?_
  obtain⟨i₆,y₆,B₆⟩:=jV c₁.c i₅ y₅ B₅ hfl₆.1 hsm₆ (tk:=s₂.toks)
  have htup₆:=((htup.of_slots hsm₄).of_slots hsm₅).of_slots hsm₆
  have y06:=y₁.trans y₆
  obtain⟨w₀,H₆⟩:=yA.of (A:=A) (k:=k) i₆ (y06.weaken (T':=gN vis env) fun ω f=>f.elim) (c.e.ext y06) (n:=n)
  refine H₆.store hvn kn fun h₇ tk₇ H₇ hs₇ => ?_
  obtain⟨he₇,ht₇⟩:=Bd H₆ hfl₆ htup₆ hs₇
  refine wpAny_execs_cons (sx (A:=A) (B:=A.mark (some (.ref ex))) U KA GS hks hkn hdn hu c.sc H₇ he₇ ht₇ rfl fun Z' ρ' s' v w H₈ r₈ => ?_)
  refine wpAny_bind (wpAny_bindName (H₈.store hvn kn fun h₉ tk₉ H₉ hs₉ => ?_))
  unfold unbindBehindTheSuite
  refine wpAny_onRaise (H₉.drop hvn kn fun h₀ w₀ H₀ hs₀ => ?_)
  have hk:∀a,Z' a→a≠env.locals:=fun a f q=>H₈.e.own.1 (q ▸ f)
  exact p _ _ _ _ H₀.i H₀.y H₀.e (r₈.mono (fun a o f e=>(hs₀.2 a (hk a f)).trans ((hs₉.2 a (hk a f)).trans e)) (fun ω f=>f) List.prefix_rfl)
end
end
section
open SeqAt
noncomputable def ez(sep:List Nat):List (List Nat)→List Nat
 | [] => []
 | [x]=>x
 | x::r=>x++sep++ez sep r
noncomputable def k8:List AV→Option (List (List Nat))
 | []=>some []
 | a::r=>iI a fun x=>o1 (k8 r) fun l=>some (x::l)
theorem DW(sep:List Nat)(ts:List (List Nat)):Txt.join (aj sep) (ts.map aj)=aj (ez sep ts):=by
 unfold Txt.join Builtin.Str.glued
 have key:∀(r:List (List Nat)) (acc:Array Nat),(r.map aj).foldl (fun acc p=>acc++(aj sep).cps++p.cps) acc=acc++((r.map fun x=>sep++x).flatten).toArray:=by
  intro r
  induction r with
  | nil=>intro acc;simp
  | cons x r ih =>
   intro acc
   simp only[List.map_cons,List.foldl_cons,ih]
   simp[aj]
 have jn:∀(r:List (List Nat)) (x:List Nat),ez sep (x::r)=x++(r.map fun x=>sep++x).flatten:=by
  intro r
  induction r with
  | nil=>intro x;simp[ez]
  | cons y r ih=>intro x;simp[ez,ih y]
 cases ts with
 | nil=>rfl
 | cons x r =>
  simp only[List.map_cons,List.drop_one,List.tail_cons,List.headD_cons,key,jn]
  simp[aj]
section
variable{X:Cx}{k:Nat}{sc:Scope}{vis:List (Str×Nat)}{A:Around}{env cenv:Env}{Z:Addr→Prop}{ρ:List Addr}{σ:St}{η:be}{s:Shared}
theorem xa{h:Heap} : ∀{l:List AV} {ts:List (List Nat)} {vs:List Value},k8 l=some ts→ag X ρ Z h l vs→∃ps:List (Str×Tok),vs=strValues ps∧ps.map (·.1)=ts.map aj:=by
 intro l
 induction l with
 | nil=>intro ts vs e r;rw[← oE e];exact⟨[],ag.nil_iff.mp r,rfl⟩
 | cons a l ih =>
  intro ts vs e r
  obtain⟨v,t,hv,r1,r2⟩:=ag.cons_iff.mp r
  rw[hv]
  refine bj (P:=fun v=>∃ps:List (Str×Tok),v::t=strValues ps∧ps.map (·.1)=ts.map aj) e r1 fun x u e=>aG e fun l' hl e => ?_
  obtain⟨ps,h1,h2⟩:=ih hl r2
  rw[h1,← oE e]
  exact⟨(aj x,u)::ps,rfl,by rw[List.map_cons,List.map_cons,h2]⟩
noncomputable def lI:eB:=fun l σ=>cR l yD (fun s a=>iI s fun sep=>o1 (cA σ a) fun xs=>o1 (k8 xs) fun ts=>if dX ((ts.map List.length).sum+ts.length * sep.length)then some (.str (ez sep ts),σ)else none) oW
theorem xY(sep:List Nat)(ts:List (List Nat))(h:dX ((ts.map List.length).sum+ts.length * sep.length)=true):JoinOk (aj sep) (ts.map aj)=true:=by
 have key:∀(r:List (List Nat)) (acc:Nat),(r.map aj).foldl (fun(a:Nat) (x:Str)=>a+x.length+(aj sep).length) acc=acc+((r.map List.length).sum+r.length * sep.length):=by
  intro r
  induction r with
  | nil=>intro acc;simp
  | cons x r ih =>
   intro acc
   rw[List.map_cons,List.foldl_cons,ih]
   simp only[List.map_cons,aF,List.sum_cons,List.length_cons,Nat.add_mul,Nat.one_mul]
   trivial
 unfold JoinOk Builtin.Str.tooLong
 have:=key ts 0
 simp only[List.foldl_toArray']at *
 rw[this]
 have:=bM h
 simp
 trivial
theorem BG:a8 X k (.builtin "str.join") lI:=by
 refine⟨?_⟩
 intro A Z ρ σ s c l vs r av σ' e Q E p
 refine nD (P:=fun vs=>wpAny (model X.prog X.w) A (call (.builtin "str.join") vs) Q E s) e r fun a b v w r1 r2 e=>bj e r1 fun sep t e=>aG e fun xs hx e=>aG e fun ts hts e=>dh e fun hz e => ?_
 obtain⟨b,ws,hw,pl,q⟩:=b7 c.inv r2 hx
 obtain⟨ps,hp',hp⟩:=xa hts q
 rw[hw]
 rw[hp']at pl
 refine SC.join pl.isList hp (xY sep ts hz) fun t' k' => ?_
 rw[DW]
 exact(p.of e).tok c.inv (df ..) _
end
noncomputable def asc(l:List Nat):Bool:=l.all (fun c=>decide (c<128))
noncomputable def cI(l:List Nat):List UInt8:=l.map fun c=>c.toUInt8
noncomputable def qU(b:List UInt8):List Nat:=b.map fun c=>c.toNat
theorem rM{S:Type}(f:Nat→S→Sem (ForInStep S))(g:Nat→S):∀(n lo:Nat),(∀i,lo≤i→i<lo+n→f i (g i)=pure (.yield (g (i+1))))→forIn (List.range' lo n) (g lo) f=pure (g (lo+n)):=by
 intro l₀
 induction l₀ with
 | zero =>
  intro lo _
  exact rfl
 | succ n ih₀ =>
  intro lo h
  rw[List.range'_succ,List.forIn_cons,h lo (Nat.le_refl _) (by trivial),pure_bind]
  have:=ih₀ (lo+1) (fun i h1 h2=>h i (by trivial) (by trivial))
  simp only[this]
  rw[show lo+1+n=lo+(n+1) by trivial]
theorem ul{S:Type}(f:Nat→S→Sem (ForInStep S))(a b:S)(n:Nat)(h0:f 0 a=pure (.yield b))(h1:∀i,f i b=pure (.done b)):forIn (List.range' 0 (n+1)) a f=pure b:=by
 rw[List.range'_succ,List.forIn_cons,h0,pure_bind]
 cases n with
 | zero=>rfl
 | succ n=>simp only[List.range'_succ,List.forIn_cons,h1,pure_bind]
theorem C4{S R:Type}{n:Nat}{f:Nat→S→Sem (ForInStep S)}{k:S→Sem R}{a:S}{r:Sem R}(g:Nat→S)(h0:a=g 0)(hs:∀i,i<n→f i (g i)=pure (.yield (g (i+1))))(hk:k (g n)=r):(forIn [:n] a f >>= k)=r:=by
 rw[Std.Legacy.Range.forIn_eq_forIn_range',show Std.Legacy.Range.size [:n]=n from Nat.div_one _,h0,rM f g n 0 fun i ω h=>hs i (by trivial),pure_bind,Nat.zero_add]
 exact hk
open PySem.Builtin PySem.Builtin._codecs in
theorem vn(id:String)(b:List UInt8)(hb:∀c∈b,c.toNat<128)(hs:b.length≤sizeLine):runDecoder id utf8Decoder none true b.toArray 0 []=pure ((aj (qU b)).cps,b.length):=by
 refine C4 (fun i=>(i,((qU b).take i).toArray,({ held := [] } : Faults))) rfl (fun i hi => ?_) ?_
 ·have hi:i<b.length:=hi
  have hl:(qU b).length=b.length:=by rw[qU,List.length_map]
  have hf:utf8Decoder.find true b.toArray i=Found.text [b[i].toNat] (i+1):=by
   show(match Bytes.utf8At b.toArray i with | (.char c,nx)=>Found.char c nx | (.bad _ stop reason,_)=>_)=_
   unfold Bytes.utf8At
   rw[show b.toArray.getD i 0=b[i]from dif_pos hi,if_pos (hb _ (List.getElem_mem hi))]
   rfl
  refine(if_neg (Nat.not_lt.mpr (by show((qU b).take i).length≤_;rw[List.length_take,hl];trivial))).trans ((if_neg (Nat.not_le.mpr hi)).trans ?_)
  dsimp only
  rw[hf]
  have:((qU b).take i).toArray ++ [b[i].toNat].toArray=((qU b).take (i+1)).toArray:=by
   rw[List.take_add_one,List.getElem?_eq_getElem (hl ▸ hi)]
   simp[qU]
  show pure (ForInStep.yield (i+1,((qU b).take i).toArray ++ [b[i].toNat].toArray,_))=_
  rw[this]
 ·have:(qU b).take b.length=qU b:=List.take_of_length_le (by rw[qU,List.length_map];exact Nat.le_refl _)
  show pure (((qU b).take b.length).toArray,b.length)=_
  rw[this];rfl
open PySem.Builtin PySem.Builtin._codecs in
theorem Bj:∀(b:List Nat) (_:∀c∈b,c<128) (acc:Array UInt8),b.toArray.foldl (fun acc y=>acc++(utf8Codec.bytesOf y).toArray) acc=acc++(cI b).toArray:=by
 intro b
 induction b with
 | nil=>intro _ acc;simp[cI]
 | cons y b ih =>
  intro hb acc
  have hy:utf8Codec.bytesOf y = [y.toUInt8]:=by
   show Str.utf8Of y=_
   unfold Str.utf8Of
   rw[if_pos (show y<0x80 from hb y List.mem_cons_self)]
  have:=ih (fun c hc=>hb c (List.mem_cons_of_mem _ hc)) (acc ++ [y.toUInt8].toArray)
  rw[List.foldl_toArray]at this ⊢
  rw[List.foldl_cons,hy,this]
  simp[cI]
theorem Bi{n:Nat}{a b:Array UInt8}{f:_root_.PySem.Builtin._codecs.Faults}(h:a = #[]++b):(pure (ForInStep.yield (n,a,f)):Sem _)=pure (ForInStep.yield (n,b,f)):=by rw[h];simp
theorem xi{S R:Type}{f:Nat→S→Sem (ForInStep S)}{k:S→Sem R}{a:S}{r:Sem R}(hk:k a=r):(forIn [:0] a f >>= k)=r:=by
 rw[Std.Legacy.Range.forIn_eq_forIn_range'];exact hk
theorem xh{S R:Type}{n:Nat}{f:Nat→S→Sem (ForInStep S)}{k:S→Sem R}{a b:S}{r:Sem R}(h0:f 0 a=pure (.yield b))(h1:∀i,f i b=pure (.done b))(hk:k b=r):(forIn [:n+1] a f >>= k)=r:=by
 rw[Std.Legacy.Range.forIn_eq_forIn_range',show Std.Legacy.Range.size [:n+1]=n+1 from Nat.div_one _,ul f a b n h0 h1,pure_bind,hk]
open PySem.Builtin PySem.Builtin._codecs in
theorem vd(id:String)(self:Value)(l:List Nat)(hl:asc l=true)(hs:l.length≤sizeLine):encodeNarrow id utf8Codec none self (aj l)=pure (cI l).toArray:=by
 have hl:=fun c hc=>of_decide_eq_true (List.all_eq_true.mp hl c hc)
 cases l with
 | nil=>exact xi rfl
 | cons x r =>
  have hbad:∀c∈x::r,utf8Codec.bad c=false:=fun c hc=>by
   have:=hl c hc
   show(decide (55296≤c)&&decide (c≤57343))=false
   rw[decide_eq_false (by trivial)];rfl
  refine xh (b:=((x::r).length,(cI (x::r)).toArray,({} : Faults))) ?_ (fun i => ?_) rfl
  ·refine(if_neg (Nat.not_lt_zero _)).trans ((if_pos (congrArg Bool.not (hbad x List.mem_cons_self))).trans ?_)
   have e2:(aj (x::r)).cps.extract 0=(x::r).toArray:=Array.extract_size
   have e3:(x::r).toArray.findIdx? utf8Codec.bad=none:=Array.findIdx?_eq_none_iff.mpr fun c hc=>hbad c (List.mem_toArray.mp hc)
   dsimp only
   rw[e2,e3,Option.getD_none,Array.extract_size,Nat.zero_add]
   exact Bi (Bj (x::r) hl #[])
  ·refine(if_neg ?_).trans ?_
   ·show ¬ (cI (x::r)).length>sizeLine
    rw[cI,List.length_map];exact Nat.not_lt.mpr hs
   ·have e1:(aj (x::r)).cps[(x::r).length]? = none:=Array.getElem?_eq_none (Nat.le_refl _)
    dsimp only
    rw[e1]
section
variable{X:Cx}{k:Nat}{sc:Scope}{vis:List (Str×Nat)}{A:Around}{env cenv:Env}{Z:Addr→Prop}{ρ:List Addr}{σ:St}{η:be}{s:Shared}
theorem gp{h:Heap}(b:List UInt8)(t:Tok):aq X ρ Z h (.bytes b) (.bytes b.toArray t):=by show ∃_,_;exact⟨t,rfl⟩
noncomputable def iz:eB:=fun l σ=>cR l (fun a=>iI a fun x=>if asc x&&dX x.length then some (.bytes (cI x),σ)else none) wi oW
theorem s8:a8 X k (.builtin "str.encode") iz:=by
 refine⟨?_⟩
 intro A Z ρ σ s c l vs r av σ' e Q E p
 refine il (P:=fun vs=>wpAny (model X.prog X.w) A (call (.builtin "str.encode") vs) Q E s) e r fun a v r e=>bj e r fun x t e=>dh e fun hz e => ?_
 have hz:=Bool.and_eq_true_iff.mp hz
 refine call_gives F.slot_str_encode (typeIs_str _ _ _) F.entry_str_encode (F.args_str_encode_1 _) (m:=.bytes (cI x).toArray) ?_ ⟨by have:=bM hz.2;simpa [cI] using this,(p.of e).tok c.inv (gp ..) _⟩
 refine .of_eq ?_
 rw[encode_tree,encodeRoad_utf8,vd _ _ x hz.1 (bM hz.2)]
 rfl
noncomputable def jN:eB:=fun l σ=>cR l (fun a=>GG a fun x=>lC x fun b bs=>if(b::bs).all (fun c=>decide (c.toNat<128))&&dX (b::bs).length then some (.str (qU (b::bs)),σ)else none) wi oW
theorem BI:a8 X k (.builtin "bytes.decode") jN:=by
 refine⟨?_⟩
 intro A Z ρ σ s c l vs r av σ' e Q E p
 refine il (P:=fun vs=>wpAny (model X.prog X.w) A (call (.builtin "bytes.decode") vs) Q E s) e r fun a v r e=>iH e r fun x t e => ?_
 refine uS (P:=fun x=>wpAny (model X.prog X.w) A (call (.builtin "bytes.decode") [.bytes x.toArray t]) Q E s) e fun b bs e=>dh e fun hz e => ?_
 have hz:=Bool.and_eq_true_iff.mp hz
 refine PySem.W.KBd.decode (x:=aj (qU (b::bs))) (n:=(b::bs).length) (fun id=>vn id (b::bs) (fun c hc=>of_decide_eq_true (List.all_eq_true.mp hz.1 c hc)) (bM hz.2)) ?_ fun t' k'=>(p.of e).tok c.inv (df ..) _
 rw[aF,qU,List.length_map]
 exact dm hz.2
end
end
section
open SeqAt
section
variable{X:Cx}{k:Nat}{sc:Scope}{vis:List (Str×Nat)}{A:Around}{env cenv:Env}{Z:Addr→Prop}{ρ:List Addr}{σ:St}{η:be}{s:Shared}
noncomputable def qp(m:ME):ME:=fun η σ=>oB (m η σ) fun a σ=>o1 (et σ a) fun l=>if pL σ a=some "dict" && dX l.length then some (.list (l.map fun p=>.tup [.str p.1,p.2]),σ)else none
theorem bn.at{h:Heap} : ∀{xs:List (List Nat×AV)} {es:List (Str×Value)},bn X ρ Z h xs es→∀(j:Nat) (p:List Nat×AV),xs[j]? = some p→∃v,es[j]? = some (aj p.1,v)∧aq X ρ Z h p.2 v:=by
 intro l₀
 induction l₀ with
 | nil =>
  intro es r j p e
  exact nomatch e
 | cons p₀ xs ih₀ =>
  obtain⟨l,x⟩:=p₀
  intro es r j p e
  obtain⟨w,t,hq,q,q'⟩:=r
  rw[hq]
  cases j with
  | zero=>rw[← oE e];exact⟨w,rfl,q⟩
  | succ j=>exact ih₀ q' j p e
theorem xZ{h:Heap}{lo:Addr}{Z':Addr→Prop}(l:List (List Nat×AV)){es:List (Str×Value)}{as:List Addr}(r:bn X ρ Z' h l es)(g:KdxG (PySem.strKind X.prog X.w) es lo h as)(hl:as.length=es.length)(hz:∀a∈as,Z' a) :
  ag X ρ Z' h (l.map fun p=>.tup [.str p.1,p.2]) (as.map Value.ref):=by
 have hlen:l.length=es.length:=bn.length r
 have key:∀(n:Nat) (j:Nat),j+n=l.length→ag X ρ Z' h ((l.drop j).map fun p=>.tup [.str p.1,p.2]) ((as.drop j).map Value.ref):=by
  intro n
  induction n with
  | zero =>
   intro j hj
   rw[List.drop_of_length_le (by trivial),List.drop_of_length_le (by trivial)]
   exact ag.nil_iff.mpr rfl
  | succ n ih =>
   intro j hj
   have h1:j<l.length:=by trivial
   have h2:j<as.length:=by trivial
   rw[List.drop_eq_getElem_cons h1,List.drop_eq_getElem_cons h2,List.map_cons,List.map_cons]
   refine ag.cons ?_ (ih (j+1) (by trivial))
   obtain⟨key,kk,x,e1,e2,e3⟩:=g.pairs j as[j] (List.getElem?_eq_getElem h2)
   obtain⟨v,e4,rv⟩:=bn.at r j l[j] (List.getElem?_eq_getElem h1)
   rw[e4]at e1;cases e1
   obtain⟨t,rfl⟩:=Value.isStrOf_shape e2
   exact gQ (vs := [.str (aj l[j].1) t,x]) (hz _ (List.getElem_mem h2)) ⟨0,e3⟩ (ag.cons (df ..) (ag.cons rv (ag.nil_iff.mpr rfl)))
 have:=key l.length 0 (by trivial)
 simpa using this
theorem uT{l:List (List Nat×AV)}{es:List (Str×Value)}{as:List Addr}{acc:Array Value}{cc:Nat}{h0 h':Heap}{tk:Nat}{Q:Value→Shared→Prop}(p:cH X Z ρ s (.list (l.map fun p=>.tup [.str p.1,p.2])) σ Q)(i:bL X Z ρ σ s)(q:bn X ρ Z s.heap l es)
  (sz:h0.objs.size=s.heap.objs.size+1) (hk:∀b o,s.heap.get? b=some o→h'.get? b=some o) (hS:h'.get? h0.objs.size=some { cls:=.type "list",data:=.seq acc cc }) (hl:as.length=es.length)
  (g:KdxG (PySem.strKind X.prog X.w) es h0.objs.size h' as) (hacc:acc.toList=as.map Value.ref):Q (.ref h0.objs.size) { s with heap:=h',toks:=tk } := by
 have fresh:∀b,s.heap.objs.size≤b→s.heap.get? b=none:=fun b hb=>by
  cases q:s.heap.get? b with
  | none=>rfl
  | some o=>exact absurd (Heap.lt_size q) (Nat.not_lt.mpr hb)
 refine p.grow i (P:=fun b=>b∈as∨b=h0.objs.size) hk (fun b hb => ?_) ?_
 ·rcases hb with hb | hb
  ·refine⟨fresh b (by have h:=g.above b hb;rw[sz]at h;exact Nat.le_of_lt (Nat.lt_of_succ_lt h)),?_⟩
   obtain⟨j,hj⟩:=List.mem_iff_getElem?.mp hb
   obtain⟨_,_,_,_,_,e⟩:=g.pairs j b hj
   rw[e];exact fun q=>nomatch q
  ·rw[hb]
   exact⟨fresh _ (by trivial),by rw[hS];exact fun q=>nomatch q⟩
 ·have q':bn X ρ (fun b=>Z b∨(b∈as∨b=h0.objs.size)) h' l es:=q.mono (fun b o ω e=>hk b o e) (fun ω f=>.inl f) List.prefix_rfl
  have e1:acc=(as.map Value.ref).toArray:=by rw[← hacc,Array.toArray_toList]
  rw[e1]at hS
  exact kU (.inr (.inr rfl)) ⟨_,hS⟩ (xZ l q' g hl fun b hb=>.inr (.inl hb))
theorem rI{x:Expr}{lp apos ipos pos:Pos}{m:ME}(GL:bo X "list" (.type "list"))(hm:bu X k sc vis x m)(hk:sc.names.lookup ("list" : Str)=some .globalImplicit:=by decide +kernel)
  (hbase:∀env,attributeBase x "items" env (eval x env)=eval x env:=by intro _;rfl) (hline:(apos.endLine==ipos.line)=true:=by rfl) :
  bu X k sc vis (.Call (.Name "list" lp) [.Call (.Attribute x "items" apos) [] [] ipos] [] pos) (qp m):=by
 refine⟨?_⟩
 intro A env Z ρ σ η s c av σ' e Q E p
 refine aD e fun a σ₁ h1 e=>aG e fun l hv e=>dh e fun hz e => ?_
 replace p:=p.of e
 have hz:=Bool.and_eq_true_iff.mp hz
 have hty:pL σ₁ a=some "dict" := of_decide_eq_true hz.1
 have hk':env.kindOf ("list" : Str)=some .globalImplicit:=by unfold Env.kindOf;rw[c.sc];exact hk
 refine wpAny_Call_NameR (wpAny_Name ?_ (by decide +kernel))
 rw[PyProof.Rows.loadName_read c.e.kind hk']
 refine GL _ _ _ _ _ c.e.glob c.e.bltn c.c.inv.base ?_
 refine bq (fun ω q=>nomatch q) rfl (wpAny_items_cons ?_ (by rfl))
 refine wpAny_Call_method (hbase env) (by rfl) hline PySem.F.plainAttrs_dict PySem.F.slot_dict_items PySem.F.type_dict_items (hm.run A env Z ρ σ η s c _ _ h1 _ _ fun Z₁ ρ₁ v₁ s₁ i₁ y₁ r₁ => ?_)
 obtain⟨t1,t2⟩:=vW i₁ r₁ hty
 refine⟨t1,t2,bq (fun ω q=>nomatch q) rfl (wpAny_items_nil ?_)⟩
 obtain⟨d,es,hv',hs,dd,q⟩:=eT i₁ r₁ hv
 rw[hv']at t1 ⊢
 refine call_meetsIn PySem.F.slot_dict_items t1 PySem.F.entry_dict_items (PySem.F.args_dict_items_1 _) (meets_dict_items (PySem.strKind X.prog X.w) d hs) ⟨⟨es,dd⟩,?_⟩
 refine wpAny_items_nil ?_
 obtain⟨ep,hat⟩:=dd.dictAt
 refine kdx_call (knd:=PySem.strKind X.prog X.w) (kvs:=es) (ep:=ep) (r:=s₁.heap.objs.size) (d:=d) c.c.hnd ⟨_,Heap.get?_push_size _ rfl,rfl,rfl⟩ (hat.push _) (by have:=bM hz.2;rw[← bn.length q];exact this) fun h' tk acc cc as hk hS hl g hacc => ?_
 exact uT (s:=s₁) (h0:=s₁.heap.push { cls:=.type "dict_items",data:=.fields #[.ref d] }) (p.pass y₁) i₁ q (Heap.size_push ..) (fun b o e=>hk b o (Heap.get?_push_of_some _ e)) hS hl g hacc
end
end
section
open SeqAt
section
variable{X:Cx}{k:Nat}{sc:Scope}{vis:List (Str×Nat)}{A:Around}{env cenv:Env}{Z:Addr→Prop}{ρ:List Addr}{σ:St}{η:be}{s:Shared}
structure HZ(X:Cx)(fp wr:List Addr)(n:Nat)(P:Nat→Array Value→Prop)(St:Nat→Heap→Prop)(env:Env)(xs:List (List AV))(m:List AV→aA)(Z:Addr→Prop)(ρ:List Addr)(r:List aA)(s:Shared)(i:Nat):Prop where
 hi:i≤n
 hr:r=(xs.drop i).map m
 st:St i s.heap
 hz:∀b∈fp,b∉wr→Z b
 hf:∀a∈wr,db X Z ρ a ∧ ¬ tE env a
 hp:∀j vals,j<n→P j vals→∃x,xs[j]? = some x∧ag X ρ Z s.heap x vals.toList
section
variable{I:Addr}{fp wr:List Addr}{n:Nat}{P:Nat→Array Value→Prop}{St:Nat→Heap→Prop}{Mid:Nat→Addr→Heap→Prop}{xs:List (List AV)}{m:List AV→aA}{r:List aA}{i:Nat}
theorem HZ.next(w:HZ X fp wr n P St env xs m Z ρ r s i)(Wk:WalksT X.prog X.w A I fp wr n P St Mid)(pl:∀a∈wr,cQ a s.heap){T:Addr→Prop}{Z' ρ' s'}(ht:∀a∈wr,¬ T a)(y:a9 T Z ρ s Z' ρ' s'):HZ X fp wr n P St env xs m Z' ρ' r s' i where
 hi:=w.hi
 hr:=w.hr
 st:=Wk.frame _ _ _ w.st fun b hb o e=>by
  by_cases hbI:b∈wr
  ·exact(pl b hbI).kept e (y.keep b o e (ht b hbI) (w.hf b hbI).1.2.1)
  ·exact y.fkeep b o (w.hz b hb hbI) e
 hz:=fun b hb hne=>y.fmono b (w.hz b hb hne)
 hf:=fun a ha=>⟨(w.hf a ha).1.next y (pl a ha).there,(w.hf a ha).2⟩
 hp:=fun j v hj hv=>(w.hp j v hj hv).imp fun x h=>⟨h.1,h.2.ext y⟩
end
theorem Eu.tuples{ts:List Expr}{kd:Nat}{tp:Pos}{I:Addr}{fp wr:List Addr}{n:Nat}{Pt:Nat→Array Value→Prop}{St:Nat→Heap→Prop}{Mid:Nat→Addr→Heap→Prop}(Wk:WalksT X.prog X.w A I fp wr n Pt St Mid){r:List AV→aA}(hr:nO X k sc vis ts r)
  (xs:List (List AV)) (hn:xs.length=n) (hlen:∀env,(assignEach ts env).length=2) (hst:∀env,(assignEach ts env).findIdx? (·.1)=none)
  (hcls:∀i h a,St i h→a∈wr→cQ a h) (hsz:∀j vals,Pt j vals→vals.size=2) :
  Eu X k sc vis A env (.Tuple ts kd tp) I (fun a=>a∈wr) (fun Z ρ q s=>∃i,HZ X fp wr n Pt St env xs r Z ρ q s i) where
 cons:=by
  rintro Z ρ σ η s b q c ⟨i,w⟩ η' σ' e Q E p
  have hlt:i<n:=by
   rcases Nat.lt_or_ge i n with h | h
   ·exact h
   ·have hq:=w.hr;rw[List.drop_of_length_le (by trivial)]at hq;exact nomatch hq
  have hlt':i<xs.length:=by trivial
  have hq:=w.hr
  rw[List.drop_eq_getElem_cons hlt']at hq
  injection hq with hb hq
  refine Wk.item i s _ _ hlt w.st fun T vals h' tk hv hle hT mid hk=>⟨_,rfl,Wk.go ts kd tp i T _ _ _ mid fun h'' st' hk' => ?_⟩
  have hs:∀b o,¬ (b∈wr)→s.heap.get? b=some o→h''.get? b=some o:=fun b o hb e=>hk' b o hb (hk b o hb e)
  have hfr:∀a,a∈wr→db X Z ρ a:=fun a q=>(w.hf a q).1
  have pl:=fun a ha=>hcls _ _ a w.st ha
  have gX:=fun a ha=>hcls _ _ a st' ha
  have i1:=c.c.inv.touch (tk:=tk) hs hfr
  have y1:a9 (fun a=>a∈wr) Z ρ s Z ρ { s with heap:=h'',toks:=tk } := a9.touch hs hfr (fun a q=>(gX a q).there) (fun ω q=>q) fun a q=>(pl a q).noFrame
  have e1:=c.e.extT y1 (fun a q=>(w.hf a q).2)
  have c1:EC X k sc vis A env Z ρ σ η { s with heap:=h'',toks:=tk } := c.after i1 y1 e1 fun a q=>.inr (pl a q).noNs
  obtain⟨x,hx,rx⟩:=w.hp i vals hlt hv
  rw[List.getElem?_eq_getElem hlt']at hx
  rw[← Option.some.inj hx]at rx
  have hT':h''.IsTuple T vals:=by
   obtain⟨o,e,hc,m,hd⟩:=hT
   exact⟨o,hk' T o (Wk.apart i T _ mid) e,hc,m,hd⟩
  rw[hb]at e
  refine wpAny_assign_Tuple c1.c.hnd hT' (by rw[hlen,hsz _ _ hv]) (hst env) fun h3 hx3 => ?_
  have hk3:=fh hx3
  have i3:=i1.touch (W:=fun ω=>False) (h':=h3) (tk:=tk) (fun b o' ω e=>hk3 b o' e) fun a f=>f.elim
  have y3:a9 T0 Z ρ { s with heap:=h'',toks:=tk } Z ρ { s with heap:=h3,toks:=tk } := a9.touch (X:=X) (W:=fun ω=>False) (tk:=tk) (fun b o' ω e=>hk3 b o' e) (fun a f=>f.elim) (fun a f=>f.elim) fun a f=>f
  refine hr.run A env Z ρ σ η _ (c1.next i3 y3) _ _ ((rx.ext y1).ext y3) _ _ e _ _ fun Z2 ρ2 s2 i2 y2 e2 => ?_
  have y32:a9 (gN vis env) Z ρ { s with heap:=h'',toks:=tk } Z2 ρ2 s2:=(y3.weaken fun ω f=>f.elim).trans y2
  have w1:HZ X fp wr n Pt St env xs r Z ρ q { s with heap:=h'',toks:=tk } (i+1):=⟨hlt,hq,st',w.hz,w.hf,fun j v hj hv=>(w.hp j v hj hv).imp fun x h=>⟨h.1,h.2.ext y1⟩⟩
  exact p Z2 ρ2 s2 i2 ((y1.weaken fun ω q=>.inr q).trans (y32.weaken fun ω q=>.inl q)) e2 ⟨i+1,w1.next Wk gX (fun a ha t=>(w.hf a ha).2 t.own) y32⟩
 nil:=by
  rintro Z ρ s ⟨i,w⟩ Q E p
  have hin:i=n:=by
   rcases Nat.lt_or_ge i n with h | h
   ·have hq:=w.hr;rw[List.drop_eq_getElem_cons (by trivial:i<xs.length)]at hq;exact nomatch hq
   ·exact Nat.le_antisymm w.hi h
  have st:=w.st
  rw[hin]at st
  exact Wk.done s _ _ st fun h' tk hk=>p h' tk fun b o hb e=>hk b o hb e
 free:=by rintro Z ρ q s ⟨i,w⟩ a ha;exact w.hf a ha
 keep:=by rintro T Z ρ q s Z' ρ' s' ⟨i,w⟩ hWT y;exact⟨i,w.next Wk (fun a ha=>hcls _ _ a w.st ha) hWT y⟩
 self:=by rintro Z ρ q s Q E ⟨i,w⟩ hQ;exact Wk.self i s _ _ w.st hQ
 priv:=by rintro Z ρ q s ⟨i,w⟩ a m ha;exact(hcls _ _ a w.st ha).noNs m
noncomputable def m8(m:ME)(r:List AV→aA):MI:=fun η σ=>oB (m η σ) fun a σ=>GH a fun xs=>some ((xs.zipIdx.map fun p => [AV.int p.2,p.1]).map r,σ)
theorem F1{a x y:Addr}(h:a ∈ [x,y]):a=x∨a=y:=(List.mem_cons.mp h).imp_right List.mem_singleton.mp
theorem Hi{a x y z:Addr}(h:a ∈ [x,y,z])(n:a ∉ [x,y]):a=z:=by
 rcases List.mem_cons.mp h with h | h
 ·exact absurd (h ▸ List.mem_cons_self) n
 ·rcases F1 h with h | h
  ·exact absurd (h ▸ List.mem_cons_of_mem _ List.mem_cons_self) n
  ·exact h
theorem yh{ts:List Expr}{kd:Nat}{tp:Pos}{sc2 vis2}{r:List AV→aA}{l:Addr}{vs:List Value}{xs:List AV}{h':Heap}{old:Value}{C:Prop}(i₁:bL X Z ρ σ s)(hh:A.handled=none)(hr:nO X k sc2 vis2 ts r)
  (hlen:∀env,(assignEach ts env).length=2) (hst:∀env,(assignEach ts env).findIdx? (·.1)=none) (pl:s.heap.PlainList l vs.toArray) (zl:Z l) (hk:∀b o,s.heap.get? b=some o→h'.get? b=some o)
  (hE:IsEnum h' (s.heap.objs.size+1) s.heap.objs.size ((0:Nat):Int) old) (hI:h'.IsListIter s.heap.objs.size l 0) (q:ag X ρ Z h' xs vs)
  (done:True→(∀(Q:Value→Shared→Prop) (E:Value→Shared→Prop),Q (.ref (s.heap.objs.size+1)) { s with heap:=h' } → wpAny (model X.prog X.w) A (pyIter (.ref (s.heap.objs.size+1))) Q E { s with heap:=h' }) →
   (∀{s₀:Shared},(∀a o,s₀.heap.get? a=some o→∃o',s.heap.get? a=some o')→Cd X k sc2 vis2 A (.Tuple ts kd tp) s₀ ((xs.zipIdx.map fun p => [AV.int p.2,p.1]).map r) Z ρ (s.heap.objs.size+1) { s with heap:=h' })→C):C:=by
 have hll:l<s.heap.objs.size:=by obtain⟨n,e⟩:=pl;exact Heap.lt_size e
 have hne1:s.heap.objs.size+1≠s.heap.objs.size:=by trivial
 have Wk:=WalksT.enumerate (prog:=X.prog) (w:=X.w) (A:=A) hh (s.heap.objs.size+1) s.heap.objs.size l hne1 (Nat.ne_of_lt (Nat.lt_succ_of_lt hll)) (Nat.ne_of_lt hll) vs.toArray
 have gX:h'.PlainList l vs.toArray:=by obtain⟨n,e⟩:=pl;exact⟨n,hk _ _ e⟩
 have st0:(∃old,IsEnum h' (s.heap.objs.size+1) s.heap.objs.size ((0:Nat):Int) old)∧h'.IsListIter s.heap.objs.size l 0∧h'.IsList l vs.toArray:=⟨⟨_,hE⟩,hI,gX.isList⟩
 have fresh:∀a,a ∈ [s.heap.objs.size+1,s.heap.objs.size]→s.heap.get? a=none:=fun a ha=>by
  cases q:s.heap.get? a with
  | none=>rfl
  | some o =>
   have:=Heap.lt_size q
   rcases F1 ha with h | h
   ·exact absurd (Nat.lt_of_succ_lt (h ▸ this)) (Nat.lt_irrefl _)
   ·exact absurd (h ▸ this) (Nat.lt_irrefl _)
 have free:∀a,a ∈ [s.heap.objs.size+1,s.heap.objs.size]→db X Z ρ a:=fun a ha=>by
  have hd:=fresh a ha
  refine⟨fun f => ?_,fun f => ?_,?_⟩
  ·obtain⟨o,e⟩:=i₁.fr _ f;rw[hd]at e;exact nomatch e
  ·obtain⟨⟨o,e⟩,_⟩:=i₁.old _ f;rw[hd]at e;exact nomatch e
  ·cases q:X.H₀.get? a with
   | none=>rfl
   | some o=>have:=i₁.base _ _ q;rw[hd]at this;exact nomatch this
 have hcls:∀(i:Nat) (h:Heap) (a:Addr),((∃old,IsEnum h (s.heap.objs.size+1) s.heap.objs.size (i:Int) old)∧h.IsListIter s.heap.objs.size l i∧h.IsList l vs.toArray)→a ∈ [s.heap.objs.size+1,s.heap.objs.size]→cQ a h:=by
  rintro i h a ⟨⟨old,h1⟩,⟨o,h2,h3,h4⟩,_⟩ ha
  rcases F1 ha with q | q
  ·rw[q];exact⟨_,_,h1,rfl,by show Value.type "enumerate" ≠ _;decide⟩
  ·rw[q];exact⟨o,_,h2,h4,by rw[h3];decide⟩
 refine done trivial (fun Q E hq=>Wk.self 0 _ _ _ st0 hq) fun al=>⟨fun a=>a ∈ [s.heap.objs.size+1,s.heap.objs.size],fun a ha=>⟨cp al (fresh a ha),(hcls 0 h' a st0 ha).there,free a ha⟩,
  fun env2=>⟨_,Eu.tuples (env:=env2) Wk hr (xs.zipIdx.map fun p => [AV.int p.2,p.1]) (by rw[List.length_map,List.length_zipIdx,q.length];rfl) hlen hst hcls ?_,fun Z' ρ' s' y hw=>⟨0,⟨Nat.zero_le _,rfl,?_,?_,hw,?_⟩⟩⟩⟩
 ·rintro j vals ⟨t,x,_,hv⟩;rw[hv];rfl
 ·refine Wk.frame _ _ _ st0 fun b hb o e => ?_
  by_cases hbI:b ∈ [s.heap.objs.size+1,s.heap.objs.size]
  ·exact(hcls 0 h' b st0 hbI).kept e (y.keep b o e (fun f=>f) (free b hbI).2.1)
  ·rw[Hi hb hbI]at e ⊢
   exact y.fkeep l o zl e
 ·intro b hb hne
  rw[Hi hb hne]
  exact y.fmono l zl
 ·rintro j vals hj ⟨t,x,hx,hv⟩
  have hjx:j<xs.length:=by rw[q.length];exact hj
  obtain⟨v,hv',rv⟩:=(ag.ext (s := { s with heap:=h' }) y q).get (List.getElem?_eq_getElem hjx)
  have hx:vs[j]? = some x:=by simpa using hx
  rw[Option.some.inj (hv'.symm.trans hx)]at rv
  rw[hv]
  exact⟨[AV.int j,xs[j]],by simp[hjx],ag.cons (bw ..) (ag.cons rv (ag.nil_iff.mpr rfl))⟩
theorem F6{x:Expr}{np pos tp:Pos}{ts:List Expr}{kd:Nat}{sc2 vis2}{m:ME}{r:List AV→aA}(GE:bo X "enumerate" (.type "enumerate"))(hm:bu X k sc vis x m)(hr:nO X k sc2 vis2 ts r)
  (hlen:∀env,(assignEach ts env).length=2:=by intro _;rfl) (hst:∀env,(assignEach ts env).findIdx? (·.1)=none:=by intro _;rfl)
  (hk:sc.names.lookup ("enumerate" : Str)=some .globalImplicit:=by decide +kernel) (hp:∀env,(backTo pos (starEach [x] env)).any (·.1)=false:=by intro _;rfl)
  (he:∀env,starEach [x] env=(false,eval x env)::starEach [] env:=by intro _;rfl) :
  ow X k sc vis sc2 vis2 (.Call (.Name "enumerate" np) [x] [] pos) (.Tuple ts kd tp) (m8 m r):=by
 refine⟨?_⟩
 intro A env Z ρ σ η s c bs σ' e Q E p
 refine aD e fun a σ₁ h1 e => ?_
 have hk':env.kindOf ("enumerate" : Str)=some .globalImplicit:=by unfold Env.kindOf;rw[c.sc];exact hk
 refine wpAny_Call_NameR (wpAny_Name ?_ (by decide +kernel))
 rw[PyProof.Rows.loadName_read c.e.kind hk']
 refine GE _ _ _ _ _ c.e.glob c.e.bltn c.c.inv.base ?_
 refine bq (fun ω q=>nomatch q) (hp env) (wpAny_items_cons (hm.run A env Z ρ σ η s c _ _ h1 _ _ fun Z₁ ρ₁ v₁ s₁ i₁ y₁ r₁=>wpAny_items_nil ?_) (he env))
 refine kc e r₁ fun xs l vs zl pl q e => ?_
 replace p:=qe (P:=fun bs σ'=>∀Z' ρ' s' I,bL X Z' ρ' σ' s'→a9 T0 Z ρ s Z' ρ' s'→Cd X k sc2 vis2 A (.Tuple ts kd tp) s bs Z' ρ' I s'→Q (.ref I) s') (Option.some.inj e) p
 refine call_enumerate_list pl.isList fun h' hE hI hsz hk => ?_
 have i₂:=i₁.touch (W:=fun ω=>False) (h':=h') (tk:=s₁.toks) (fun b o' ω e=>hk b o' e) fun a f=>f.elim
 have y₂:a9 T0 Z₁ ρ₁ s₁ Z₁ ρ₁ { s₁ with heap:=h' } := a9.touch (X:=X) (W:=fun ω=>False) (tk:=s₁.toks) (fun b o' ω e=>hk b o' e) (fun a f=>f.elim) (fun a f=>f.elim) fun a f=>f
 refine yh (kd:=kd) (tp:=tp) i₁ c.c.hnd hr hlen hst pl zl hk hE hI (q.ext y₂) fun wk self ok => ?_
 exact self _ _ (p Z₁ ρ₁ _ (s₁.heap.objs.size+1) i₂ (y₁.trans y₂) (ok y₁.alive))
end
end
section
open PySem.Sre
noncomputable def ck:Array Nat := #[14,4,0,8,4294967295,24,5,0,4294967295,2,1,16,70,16,76,16,65,16,71,16,83,16,32,16,40,17,0,24,6,0,4294967295,20,41,1,17,1,16,41,1]
structure FS where
 pc:Nat
 pos:Nat
 hd:Nat
 mrk:Array (Option Nat)
 lm:Int
 li:Int
 fr:List Sre.Frame
 wt:Nat
 an:Option Bool
 sn:Sre.Seen
noncomputable def fm(tx:Array Nat)(f:FS):M :=
 { code:=ck,text:=tx,lim:=tx.size,start:=0,pc:=f.pc,pos:=f.pos,handed:=f.hd,outermost:=true,marks:=f.mrk,lastmark:=f.lm,lastindex:=f.li,frames:=f.fr,weight:=f.wt,answer:=f.an,seen:=f.sn }
noncomputable def gO(m m':M)(k:Nat):Prop:=∀n,M.runFor (k+n) m=M.runFor n m'
theorem gO.refl(m:M):gO m m 0:=fun n=>by rw[Nat.zero_add]
theorem gO.trans{m m' m'':M}{k k':Nat}(a:gO m m' k)(b:gO m' m'' k'):gO m m'' (k+k'):=fun n=>by rw[Nat.add_assoc,a,b]
theorem gO.one{m m':M}(ho:m.outcome.isSome=false)(h:m.step=m'):gO m m' 1:=fun n=>by
 rw[Nat.add_comm]
 show(if m.outcome.isSome then m else M.runFor n m.step)=_
 rw[ho,h];rfl
variable{tx:Array Nat}
theorem G5{o:Nat}(h:o=16):ops[o]? = some Op.LITERAL:=by rw[h];rfl
theorem wS{C:Array Nat}{i x:Nat}{sn:Sre.Seen}(h:C.getD i 0=16):accepts C i x sn=.ok (x==C.getD (i+1) 0,sn):=by
 unfold accepts;rw[G5 h]
theorem Cr{C:Array Nat}{i:Nat}(h:C.getD i 0=16):itemWidth C i=2:=by
 unfold itemWidth;rw[G5 h]
noncomputable def F3(m:M):Except String (Bool×Sre.Seen)→M
 | .error w=>m.stick w
 | .ok (false,sn) => { m with seen:=sn }.say false
 | .ok (true,sn) => { m with seen:=sn,pc:=m.pc+itemWidth m.code m.pc,pos:=m.pos+1 }
theorem Bc{m:M}(h:m.code.getD m.pc 0=16):m.exec=if m.pos ≥ m.lim then { m with seen:=m.seen.add 16 }.say false else F3 { m with seen:=m.seen.add 16 } (accepts m.code m.pc (m.text.getD m.pos 0) (m.seen.add 16)):=by
 have h':m.word 0=16:=h
 unfold M.exec
 rw[h']
 kernel_rfl
theorem rE{f:FS}{c:Nat}(h0:ck.getD f.pc 0=16)(h1:ck.getD (f.pc+1) 0=c)(hp:f.pc<39)(ha:f.an=none) :
  (fm tx f).step=if f.pos<tx.size∧tx.getD f.pos 0=c then fm tx { f with pc:=f.pc+2,pos:=f.pos+1,sn:=f.sn.add 16 } else fm tx { f with an:=some false,sn:=f.sn.add 16 } := by
 obtain⟨pc,pos,hd,mrk,lm,li,fr,wt,an,sn⟩:=f
 dsimp only at h0 h1 hp ha ⊢
 subst ha
 refine(if_pos (show pc<ck.size from hp)).trans ((Bc h0).trans ?_)
 by_cases hlt:pos<tx.size
 ·refine(if_neg (Nat.not_le.mpr hlt)).trans ?_
  by_cases hc:tx.getD pos 0=c
  ·have ea:accepts ck pc (tx.getD pos 0) (sn.add 16)=.ok (true,sn.add 16):=by rw[wS h0,h1,hc,beq_self_eq_true]
   exact((congrArg (F3 (fm tx ⟨pc,pos,hd,mrk,lm,li,fr,wt,none,sn.add 16⟩)) ea).trans (congrArg (fun w=>fm tx ⟨pc+w,pos+1,hd,mrk,lm,li,fr,wt,none,sn.add 16⟩) (Cr h0))).trans (if_pos ⟨hlt,hc⟩).symm
  ·have ea:accepts ck pc (tx.getD pos 0) (sn.add 16)=.ok (false,sn.add 16):=by rw[wS h0,h1,beq_eq_false_iff_ne.mpr hc]
   exact(congrArg (F3 (fm tx ⟨pc,pos,hd,mrk,lm,li,fr,wt,none,sn.add 16⟩)) ea).trans (if_neg (fun q=>hc q.2)).symm
 ·exact(if_pos (Nat.not_lt.mp hlt)).trans (if_neg (fun q=>hlt q.1)).symm
theorem qC{p:Nat}(h:p<tx.size):tx.toList.drop p=tx.getD p 0::tx.toList.drop (p+1):=by
 rw[List.drop_eq_getElem_cons (show p<tx.toList.length from h),show tx.getD p 0=tx.toList[p]from dif_pos h]
theorem Iz:∀(cs:List Nat) (f:FS),f.an=none→f.pc+2 * cs.length≤39→(∀i,(h:i<cs.length)→ck.getD (f.pc+2 * i) 0=16∧ck.getD (f.pc+2 * i+1) 0=cs[i]) →
  ∃k sn,k≤cs.length∧((cs.isPrefixOf (tx.toList.drop f.pos)=true∧gO (fm tx f) (fm tx { f with pc:=f.pc+2 * cs.length,pos:=f.pos+cs.length,sn:=sn }) k) ∨
   (cs.isPrefixOf (tx.toList.drop f.pos)=false∧∃pc pos,gO (fm tx f) (fm tx { f with pc:=pc,pos:=pos,an:=some false,sn:=sn }) k)):=by
 intro l₀
 induction l₀ with
 | nil =>
  intro f ha hl hc
  exact⟨0,f.sn,Nat.le_refl _,.inl ⟨rfl,gO.refl _⟩⟩
 | cons c cs ih₀ =>
  intro f ha hl hc
  rw[List.length_cons]at hl
  have h0:=hc 0 (Nat.succ_pos _)
  have st:=rE (tx:=tx) (f:=f) (c:=c) h0.1 h0.2 (by trivial) ha
  by_cases hlt:f.pos<tx.size∧tx.getD f.pos 0=c
  ·rw[if_pos hlt]at st
   obtain⟨k,sn,hk,r⟩:=ih₀ { f with pc:=f.pc+2,pos:=f.pos+1,sn:=f.sn.add 16 } ha (show f.pc+2+2 * cs.length≤39 by trivial) (fun i h=>by
    have:=hc (i+1) (Nat.succ_lt_succ h)
    rw[show f.pc+2 * (i+1)=f.pc+2+2 * i by trivial]at this
    exact this)
   have e:=qC hlt.1
   rw[hlt.2]at e
   refine⟨1+k,sn,Nat.add_comm 1 k ▸ Nat.succ_le_succ hk,?_⟩
   rw[e,show(c::cs).isPrefixOf (c::tx.toList.drop (f.pos+1))=cs.isPrefixOf (tx.toList.drop (f.pos+1)) by
    show((c==c)&&_)=_
    rw[beq_self_eq_true,Bool.true_and]]
   rcases r with ⟨q,r⟩ | ⟨q,pc,pos,r⟩
   ·refine .inl ⟨q,?_⟩
    rw[show f.pc+2 * (c::cs).length=f.pc+2+2 * cs.length by rw[List.length_cons];trivial,show f.pos+(c::cs).length=f.pos+1+cs.length by rw[List.length_cons];trivial]
    exact(gO.one rfl st).trans r
   ·exact .inr ⟨q,pc,pos,(gO.one rfl st).trans r⟩
  ·rw[if_neg hlt]at st
   refine⟨1,f.sn.add 16,Nat.succ_le_succ (Nat.zero_le _),.inr ⟨?_,f.pc,f.pos,gO.one rfl st⟩⟩
   by_cases h:f.pos<tx.size
   ·rw[qC h]
    show((c==tx.getD f.pos 0)&&_)=false
    rw[beq_eq_false_iff_ne.mpr fun e=>hlt ⟨h,e.symm⟩];rfl
   ·rw[List.drop_of_length_le (Nat.not_lt.mp h)];rfl
end
section
open PySem.Sre
variable{tx:Array Nat}
theorem FE{i:Nat}{P:Nat→Bool}(hP:∀c sn,accepts ck i c sn=.ok (P c,sn)):∀(n p found:Nat) (sn:Sre.Seen),p+n=tx.size →
  Sre.run ck tx i n p found sn=.ok (found+((tx.toList.drop p).takeWhile P).length,sn):=by
 intro l₀
 induction l₀ with
 | zero =>
  intro p found sn h
  unfold Sre.run
  rw[List.drop_of_length_le (i:=p) (l:=tx.toList) (Nat.le_of_eq h.symm)];rfl
 | succ n ih₀ =>
  intro p found sn h
  have hlt:p<tx.size:=by trivial
  have e:=qC hlt
  unfold Sre.run
  rw[hP]
  simp only[bind,Except.bind]
  rw[e]
  by_cases q:P (tx.getD p 0)=true
  ·rw[q]
   rw[if_pos rfl,ih₀ (p+1) (found+1) sn (by trivial)]
   rw[List.takeWhile_cons,q,if_pos rfl]
   rw[List.length_cons,Nat.add_right_comm];rfl
  ·rw[Bool.not_eq_true]at q
   rw[q,if_neg (by decide),List.takeWhile_cons,q,if_neg (by decide)]
   rfl
theorem Er(c:Nat)(sn:Sre.Seen):accepts ck 9 c sn=.ok (c != 10,sn):=rfl
theorem Ep(c:Nat)(sn:Sre.Seen):accepts ck 31 c sn=.ok (c != 41,sn):=rfl
noncomputable def gb(pc pos n:Nat)(lm li:Int):Sre.Frame := { wait:=.giveBack,pc:=pc,pos:=pos,outermost:=true,count:=n,kept := { lastmark:=lm,lastindex:=li } }
noncomputable def Hu(m:M):Except String (Nat×Sre.Seen)→M
 | .error w=>m.stick w
 | .ok (n,sn)=>if n<0 then { m with seen:=sn }.say false else { m with seen:=sn,pos:=m.pos+n }.afterRun .giveBack n (m.keep false)
theorem rC{f:FS}{n i:Nat}{P:Nat→Bool}{sn s2:Sre.Seen}{B:M}(hs:(fm tx f).step=if((0:Nat):Int)>(tx.size:Int) - (f.pos:Int)then B else Hu (fm tx { f with sn:=s2 }) (Sre.run ck tx i (min 4294967295 ((tx.size:Int) - (f.pos:Int)).toNat) f.pos 0 sn))
  (hP:∀c sn,accepts ck i c sn=.ok (P c,sn)) (hw:f.wt<100) (hp:f.pos≤tx.size) (hz:tx.size≤16777216) (hn:((tx.toList.drop f.pos).takeWhile P).length=n) :
  ∃sn,(fm tx f).step=fm tx { f with pc:=f.pc+1+ck.getD (f.pc+1) 0,pos:=f.pos+n,hd:=f.pos+n,fr:=gb f.pc (f.pos+n) n f.lm f.li::f.fr,wt:=f.wt+1,sn:=sn } := by
 refine⟨sn,hs.trans ((if_neg (by trivial)).trans ((congrArg (Hu _) (FE hP _ _ _ _ (by trivial))).trans ?_))⟩
 rw[Nat.zero_add,hn]
 exact if_neg (show ¬ f.wt+1+0>16777216 by trivial)
theorem xc{f:FS}{n:Nat}(h0:f.pc=5)(ha:f.an=none)(hw:f.wt<100)(hp:f.pos≤tx.size)(hs:tx.size≤16777216)(hn:((tx.toList.drop f.pos).takeWhile (fun c=>c != 10)).length=n) :
  ∃sn,(fm tx f).step=fm tx { f with pc:=11,pos:=f.pos+n,hd:=f.pos+n,fr:=gb 5 (f.pos+n) n f.lm f.li::f.fr,wt:=f.wt+1,sn:=sn } := by
 obtain⟨pc,pos,hd,mrk,lm,li,fr,wt,an,sn⟩:=f
 dsimp only at h0 ha hw hp hn ⊢
 subst ha h0 hn
 exact rC (f:=⟨5,pos,hd,mrk,lm,li,fr,wt,none,sn⟩) (B := { fm tx ⟨5,pos,hd,mrk,lm,li,fr,wt,none,sn.add 24⟩with answer:=some false }) (sn:=(sn.add 24).add 2) (s2:=sn.add 24) (by kernel_rfl) Er hw hp hs rfl
theorem t4{f:FS}{n:Nat}(h0:f.pc=27)(ha:f.an=none)(hw:f.wt<100)(hp:f.pos≤tx.size)(hs:tx.size≤16777216)(hn:((tx.toList.drop f.pos).takeWhile (fun c=>c != 41)).length=n) :
  ∃sn,(fm tx f).step=fm tx { f with pc:=34,pos:=f.pos+n,hd:=f.pos+n,fr:=gb 27 (f.pos+n) n f.lm f.li::f.fr,wt:=f.wt+1,sn:=sn } := by
 obtain⟨pc,pos,hd,mrk,lm,li,fr,wt,an,sn⟩:=f
 dsimp only at h0 ha hw hp hn ⊢
 subst ha h0 hn
 exact rC (f:=⟨27,pos,hd,mrk,lm,li,fr,wt,none,sn⟩) (B := { fm tx ⟨27,pos,hd,mrk,lm,li,fr,wt,none,sn.add 24⟩with answer:=some false }) (sn:=(sn.add 24).add 20) (s2:=sn.add 24) (by kernel_rfl) Ep hw hp hs rfl
theorem t5{f:FS}(h0:f.pc=25)(ha:f.an=none)(hl:f.lm = -1):∃sn,(fm tx f).step=fm tx { f with pc:=27,mrk:=f.mrk.setIfInBounds 0 (some f.pos),lm:=0,sn:=sn } := by
 obtain⟨pc,pos,hd,mrk,lm,li,fr,wt,an,sn⟩:=f
 dsimp only at h0 ha hl ⊢
 subst ha h0 hl
 exact⟨_,rfl⟩
theorem mD{f:FS}(h0:f.pc=34)(ha:f.an=none)(hl:f.lm=0):∃sn,(fm tx f).step=fm tx { f with pc:=36,mrk:=f.mrk.setIfInBounds 1 (some f.pos),lm:=1,li:=1,sn:=sn } := by
 obtain⟨pc,pos,hd,mrk,lm,li,fr,wt,an,sn⟩:=f
 dsimp only at h0 ha hl ⊢
 subst ha h0 hl
 exact⟨sn.add 17,by kernel_rfl⟩
theorem xb{f:FS}(h0:f.pc=38)(ha:f.an=none):∃sn,(fm tx f).step=fm tx { f with hd:=f.pos,an:=some true,sn:=sn } := by
 obtain⟨pc,pos,hd,mrk,lm,li,fr,wt,an,sn⟩:=f
 dsimp only at h0 ha ⊢
 subst ha h0
 exact⟨_,rfl⟩
theorem rB{f:FS}{pc pos n:Nat}{lm li:Int}{r:List Sre.Frame}(hf:f.fr=gb pc pos n lm li::r)(ha:f.an=some true):∃wt,(fm tx f).step=fm tx { f with pc:=pc,pos:=pos,fr:=r,wt:=wt } := by
 obtain⟨pc,pos,hd,mrk,lm,li,fr,wt,an,sn⟩:=f
 dsimp only at hf ha ⊢
 subst ha hf
 exact⟨_,rfl⟩
theorem v0{f:FS}{pc pos n:Nat}{lm li:Int}{r:List Sre.Frame}(hf:f.fr=gb pc pos (n+1) lm li::r)(ha:f.an=some false)(hw:f.wt<100)(h1:ck.getD (pc+2) 0=0)(hwt:1≤f.wt) :
  (fm tx f).step=fm tx { f with pc:=pc+1+ck.getD (pc+1) 0,pos:=pos - 1,hd:=pos - 1,lm:=lm,li:=li,fr:=gb pc (pos - 1) n lm li::r,an:=none } := by
 obtain⟨pc',pos',hd,mrk,lm',li',fr,wt,an,sn⟩:=f
 dsimp only at hf ha hw hwt ⊢
 subst ha hf
 refine(if_neg (show ¬ ((n+1:Nat):Int) - 1<((ck.getD (pc+2) 0:Nat):Int) by rw[h1];trivial)).trans ((if_neg (show ¬ wt - 1+1+0>16777216 by trivial)).trans ?_)
 have e1:(((n+1:Nat):Int) - 1)=(n:Int):=by trivial
 have e2:wt - 1+1+0=wt:=by trivial
 show fm tx ⟨_,_,_,_,_,_,{ gb pc (pos - 1) 0 lm li with count:=((n+1:Nat):Int) - 1 } :: r,wt - 1+1+0,_,_⟩=_
 rw[e1,e2];rfl
theorem rF{f:FS}{pc pos:Nat}{lm li:Int}{r:List Sre.Frame}(hf:f.fr=gb pc pos 0 lm li::r)(ha:f.an=some false)(h1:ck.getD (pc+2) 0=0) :
  ∃wt,(fm tx f).step=fm tx { f with pc:=pc,pos:=pos,lm:=lm,li:=li,fr:=r,an:=some false,wt:=wt } ∧ wt=f.wt - 1:=by
 obtain⟨pc',pos',hd,mrk,lm',li',fr,wt,an,sn⟩:=f
 dsimp only at hf ha ⊢
 subst ha hf
 refine⟨wt - 1,?_,rfl⟩
 delta M.step fm
 simp only[Option.isSome_none,Bool.false_eq_true,if_false]
 delta M.resume gb M.putBack M.word
 simp only[h1,Bool.false_eq_true,if_false]
 rw[if_pos (by decide)]
 rfl
end
section
open PySem.Sre
variable{tx:Array Nat}
theorem fo(f:FS):(fm tx f).outcome.isSome=false:=rfl
theorem EU{f:FS}(h0:f.pc=36)(ha:f.an=none):(f.pos<tx.size∧tx.getD f.pos 0=41∧∃sn,(fm tx f).step=fm tx { f with pc:=38,pos:=f.pos+1,sn:=sn }) ∨
  (¬ (f.pos<tx.size∧tx.getD f.pos 0=41)∧∃sn,(fm tx f).step=fm tx { f with an:=some false,sn:=sn }):=by
 obtain⟨pc,pos,hd,mrk,lm,li,fr,wt,an,sn⟩:=f
 dsimp only at h0 ha ⊢
 subst h0
 have:=rE (tx:=tx) (f:=⟨36,pos,hd,mrk,lm,li,fr,wt,an,sn⟩) (c:=41) rfl rfl (show 36<39 by decide) ha
 by_cases h:pos<tx.size∧tx.getD pos 0=41
 ·rw[if_pos h]at this;exact .inl ⟨h.1,h.2,_,this⟩
 ·rw[if_neg h]at this;exact .inr ⟨h,_,this⟩
noncomputable def IV(tx:Array Nat)(q:Nat)(li:Int)(r:List Sre.Frame)(m:Nat):Prop:=∀(f:FS),f.pc=34→f.pos=q+m→f.fr=gb 27 (q+m) m 0 li::r→f.lm=0→f.an=none→f.wt<100→1≤f.wt→f.mrk.size=2 →
  (∀j,j≤m → ¬ (q+j<tx.size∧tx.getD (q+j) 0=41))→∃k f',k≤3 * (m+1)∧gO (fm tx f) (fm tx f') k∧f'.an=some false∧f'.fr=r∧f'.wt=f.wt - 1∧f'.mrk.size=2
theorem wC(q:Nat)(li:Int)(r:List Sre.Frame)(m:Nat)(ih:∀n,m=n+1→IV tx q li r n):IV tx q li r m:=by
 intro f hpc hpos hfr hlm han hw hw1 hmk hno
 obtain⟨sn1,s1⟩:=mD (tx:=tx) hpc han hlm
 have r1:=gO.one (fo f) s1
 rcases EU (tx:=tx) (f := { f with pc:=36,mrk:=f.mrk.setIfInBounds 1 (some f.pos),lm:=1,li:=1,sn:=sn1 }) rfl han with ⟨a,b,_⟩ | ⟨_,sn2,s2⟩
 ·dsimp only at a b
  rw[hpos]at a b
  exact absurd ⟨a,b⟩ (hno m (Nat.le_refl _))
 ·have r2:=r1.trans (gO.one (fo _) s2)
  cases m with
  | zero =>
   obtain⟨wt,s3,hwt⟩:=rF (tx:=tx) (f := { f with pc:=36,mrk:=f.mrk.setIfInBounds 1 (some f.pos),lm:=1,li:=1,an:=some false,sn:=sn2 }) hfr rfl (by decide)
   exact⟨_,_,by trivial,r2.trans (gO.one (fo _) s3),rfl,rfl,by dsimp only at hwt ⊢;exact hwt,by simpa using hmk⟩
  | succ m =>
   have s3:=v0 (tx:=tx) (f := { f with pc:=36,mrk:=f.mrk.setIfInBounds 1 (some f.pos),lm:=1,li:=1,an:=some false,sn:=sn2 }) hfr rfl hw (by decide) hw1
   obtain⟨k,f',hk,r3,a1,a2,a3,a4⟩:=ih m rfl { f with pc:=27+1+ck.getD (27+1) 0,pos:=q+(m+1) - 1,hd:=q+(m+1) - 1,mrk:=f.mrk.setIfInBounds 1 (some f.pos),lm:=0,li:=li,fr:=gb 27 (q+(m+1) - 1) m 0 li::r,an:=none,sn:=sn2 } rfl (by show q+(m+1) - 1=q+m;trivial) (by show gb 27 (q+(m+1) - 1) m 0 li::r=_;rw[show q+(m+1) - 1=q+m by trivial]) rfl rfl hw hw1 (by simpa using hmk) (fun j hj=>hno j (Nat.le_add_right_of_le ‹_›))
   exact⟨_,f',by trivial,(r2.trans (gO.one (fo _) s3)).trans r3,a1,a2,a3,a4⟩
theorem uW(q:Nat)(li:Int)(r:List Sre.Frame):∀(m:Nat),IV tx q li r m:=by
 intro l₀
 induction l₀ with
 | zero =>
  exact wC q li r 0 (fun ω h=>nomatch h)
 | succ m ih₀ =>
  exact wC q li r (m+1) (fun n h=>Nat.succ.inj h ▸ ih₀)
noncomputable def f9:List Nat := [70,76,65,71,83,32,40]
noncomputable def bX(l:List Nat)(p:Nat):Nat:=((l.drop p).takeWhile (fun c=>c != 41)).length
noncomputable def cC(l:List Nat)(p:Nat):Option Nat:=if f9.isPrefixOf (l.drop p)&&decide (p+7+bX l (p+7)<l.length)then some (bX l (p+7))else none
theorem lL(tx:Array Nat)(p:Nat)(h:p<tx.size):tx.toList[p]? = some (tx.getD p 0):=by
 rw[List.getElem?_eq_getElem (by simpa using h)]
 simp only[Array.getD,h,dif_pos];simp
theorem zK(tx:Array Nat)(q:Nat)(h:q+bX tx.toList q<tx.size):tx.getD (q+bX tx.toList q) 0=41:=by
 unfold bX at h ⊢
 have key:∀(l:List Nat),(l.takeWhile (fun c=>c != 41)).length<l.length→l[(l.takeWhile (fun c=>c != 41)).length]? = some 41:=by
  intro l
  induction l with
  | nil=>intro h;simp at h
  | cons c r ih =>
   intro h
   rw[List.takeWhile_cons]at h ⊢
   by_cases hc:(c != 41)=true
   ·rw[if_pos hc]at h ⊢
    simp only[List.length_cons]at h ⊢
    rw[List.getElem?_cons_succ];exact ih (by trivial)
   ·rw[if_neg hc]
    simp only[List.length_nil,List.getElem?_cons_zero]
    simp at hc;rw[hc]
 have:=key (tx.toList.drop q) (by simp only[List.length_drop,Array.length_toList];trivial)
 rw[List.getElem?_drop,lL tx _ h]at this
 exact Option.some.inj this
theorem uh(tx:Array Nat)(q j:Nat)(h:j<bX tx.toList q) : ¬ (q+j<tx.size∧tx.getD (q+j) 0=41):=by
 rintro⟨h1,h2⟩
 have key:∀(l:List Nat) (j:Nat),j<(l.takeWhile (fun c=>c != 41)).length→l[j]? ≠ some 41:=by
  intro l
  induction l with
  | nil=>intro j h;simp at h
  | cons c r ih =>
   intro j h
   rw[List.takeWhile_cons]at h
   by_cases hc:(c != 41)=true
   ·rw[if_pos hc]at h
    simp only[List.length_cons]at h
    cases j with
    | zero=>simp at hc ⊢;exact hc
    | succ j=>rw[List.getElem?_cons_succ];exact ih j (by trivial)
   ·rw[if_neg hc]at h;simp at h
 have:=key (tx.toList.drop q) j h
 rw[List.getElem?_drop,lL tx _ h1,h2]at this
 exact this rfl
theorem C3(tx:Array Nat)(q:Nat)(h:q≤tx.size):q+bX tx.toList q≤tx.size:=by
 have:bX tx.toList q≤(tx.toList.drop q).length:=(List.takeWhile_sublist _).length_le
 simp only[List.length_drop,Array.length_toList]at this
 trivial
theorem AX{f:FS}{r:List Sre.Frame}{q:Nat}(hpc:f.pc=25)(hpos:f.pos=q)(hfr:f.fr=r)(hlm:f.lm = -1)(han:f.an=none)(hw:f.wt<50)(hmk:f.mrk.size=2)(hq:q≤tx.size)(hs:tx.size≤16777216) :
  ∃k f',k≤3 * tx.size+20∧gO (fm tx f) (fm tx f') k∧f'.fr=r∧f'.mrk.size=2 ∧
   ((q+bX tx.toList q<tx.size∧f'.an=some true∧f'.mrk = #[some q,some (q+bX tx.toList q)]∧f'.lm=1∧f'.li=1∧f'.hd=q+bX tx.toList q+1) ∨
    (¬ q+bX tx.toList q<tx.size∧f'.an=some false∧f'.wt=f.wt)):=by
 obtain⟨sn1,s1⟩:=t5 (tx:=tx) hpc han hlm
 have r1:=gO.one (fo f) s1
 obtain⟨sn2,s2⟩:=t4 (tx:=tx) (f := { f with pc:=27,mrk:=f.mrk.setIfInBounds 0 (some f.pos),lm:=0,sn:=sn1 }) (n:=bX tx.toList q) rfl han (by dsimp only;trivial) (by dsimp only;trivial) hs (by dsimp only;rw[hpos];rfl)
 have r2:=r1.trans (gO.one (fo _) s2)
 have hle:=C3 tx q hq
 dsimp only at r2
 rw[hpos]at r2
 by_cases hlt:q+bX tx.toList q<tx.size
 ·obtain⟨sn3,s3⟩:=mD (tx:=tx) (f := { f with pc:=34,pos:=q+bX tx.toList q,hd:=q+bX tx.toList q,mrk:=f.mrk.setIfInBounds 0 (some q),lm:=0,fr:=gb 27 (q+bX tx.toList q) (bX tx.toList q) 0 f.li::f.fr,wt:=f.wt+1,sn:=sn2 }) rfl han rfl
  have r3:=r2.trans (gO.one (fo _) s3)
  rcases EU (tx:=tx) (f := { f with pc:=36,pos:=q+bX tx.toList q,hd:=q+bX tx.toList q,mrk:=(f.mrk.setIfInBounds 0 (some q)).setIfInBounds 1 (some (q+bX tx.toList q)),lm:=1,li:=1,fr:=gb 27 (q+bX tx.toList q) (bX tx.toList q) 0 f.li::f.fr,wt:=f.wt+1,sn:=sn3 }) rfl han with ⟨_,_,sn4,s4⟩ | ⟨no,_⟩
  ·have r4:=r3.trans (gO.one (fo _) s4)
   obtain⟨sn5,s5⟩:=xb (tx:=tx) (f := { f with pc:=38,pos:=q+bX tx.toList q+1,hd:=q+bX tx.toList q,mrk:=(f.mrk.setIfInBounds 0 (some q)).setIfInBounds 1 (some (q+bX tx.toList q)),lm:=1,li:=1,fr:=gb 27 (q+bX tx.toList q) (bX tx.toList q) 0 f.li::f.fr,wt:=f.wt+1,sn:=sn4 }) rfl han
   have r5:=r4.trans (gO.one (fo _) s5)
   obtain⟨wt,s6⟩:=rB (tx:=tx) (f := { f with pc:=38,pos:=q+bX tx.toList q+1,hd:=q+bX tx.toList q+1,mrk:=(f.mrk.setIfInBounds 0 (some q)).setIfInBounds 1 (some (q+bX tx.toList q)),lm:=1,li:=1,fr:=gb 27 (q+bX tx.toList q) (bX tx.toList q) 0 f.li::f.fr,wt:=f.wt+1,an:=some true,sn:=sn5 }) rfl rfl
   have r6:=r5.trans (gO.one (fo _) s6)
   refine⟨_,_,by trivial,r6,hfr,by simpa using hmk,.inl ⟨hlt,rfl,?_,rfl,rfl,rfl⟩⟩
   dsimp only
   have kJ:∀(a:Array (Option Nat)) (x y:Option Nat),a.size=2→(a.setIfInBounds 0 x).setIfInBounds 1 y = #[x,y]:=by
    rintro⟨l⟩ x y h
    match l,h with
    | [a,b],_=>rfl
   exact kJ _ _ _ hmk
  ·exact absurd ⟨hlt,zK tx q hlt⟩ no
 ·obtain⟨k,f',hk,r3,a1,a2,a3,a4⟩:=uW (tx:=tx) q f.li f.fr (bX tx.toList q) { f with pc:=34,pos:=q+bX tx.toList q,hd:=q+bX tx.toList q,mrk:=f.mrk.setIfInBounds 0 (some q),lm:=0,fr:=gb 27 (q+bX tx.toList q) (bX tx.toList q) 0 f.li::f.fr,wt:=f.wt+1,sn:=sn2 }
   rfl rfl rfl rfl han (by dsimp only;trivial) (by dsimp only;trivial) (by simpa using hmk) (fun j hj=>by
    rcases Nat.lt_or_eq_of_le hj with h | h
    ·exact uh tx q j h
    ·rw[h];exact fun x=>hlt x.1)
  exact⟨_,f',by trivial,r2.trans r3,a2.trans hfr,a4,.inr ⟨hlt,a1,by rw[a3];rfl⟩⟩
noncomputable def sk(l:List Nat):Nat→Option (Nat×Nat)
 | 0=>(cC l 0).map fun n=>(0,n)
 | c+1=>match cC l (c+1)with
  | some n=>some (c+1,n)
  | none=>sk l c
noncomputable def tI(m:M)(r:Option (Nat×Nat)):Prop:=match r with
 | some (p,n)=>m.outcome=some .matched∧m.marks = #[some (p+7),some (p+7+n)]∧m.lastmark=1∧m.lastindex=1∧m.start=0∧m.handed=p+7+n+1
 | none=>m.outcome=some .failed
theorem Bb{f:FS}(ha:f.an=some true)(hf:f.fr = []):(fm tx f).step = { fm tx f with outcome:=some .matched } := by
 obtain⟨pc,pos,hd,mrk,lm,li,fr,wt,an,sn⟩:=f
 dsimp only at ha hf
 subst ha hf;rfl
theorem pf{f:FS}(ha:f.an=some false)(hf:f.fr = []):(fm tx f).step = { fm tx f with outcome:=some .failed } := by
 obtain⟨pc,pos,hd,mrk,lm,li,fr,wt,an,sn⟩:=f
 dsimp only at ha hf
 subst ha hf;rfl
theorem uY{l:List Nat}{p:Nat}(h:f9.isPrefixOf (l.drop p)=false):cC l p=none:=by unfold cC;rw[h];rfl
theorem uX{l:List Nat}{p:Nat}(h : ¬ p+7+bX l (p+7)<l.length):cC l p=none:=by unfold cC;rw[decide_eq_false h,Bool.and_false];rfl
theorem A3{l:List Nat}{p:Nat}(h:f9.isPrefixOf (l.drop p)=true)(h':p+7+bX l (p+7)<l.length):cC l p=some (bX l (p+7)):=by unfold cC;rw[h,decide_eq_true h'];rfl
noncomputable def Gz(tx:Array Nat)(c:Nat):Prop:=∀(f:FS),c≤tx.size→f.pc=11→f.pos=c→f.fr = [gb 5 c c (-1) (-1)]→f.lm = -1→f.li = -1→f.an=none→f.wt=1→f.mrk.size=2 →
  ∃k m',k≤(c+1) * (3 * tx.size+40)∧gO (fm tx f) m' k∧tI m' (sk tx.toList c)
theorem rX(hs:tx.size≤16777216)(c:Nat)(ih:∀n,c=n+1→Gz tx n):Gz tx c:=by
 intro f hc hpc hpos hfr hlm hli han hw hmk
 have fail:cC tx.toList c=none→∀(k:Nat) (f':FS),k≤3 * tx.size+30→gO (fm tx f) (fm tx f') k→f'.fr = [gb 5 c c (-1) (-1)]→f'.an=some false→f'.wt=1→f'.mrk.size=2 →
   ∃k m',k≤(c+1) * (3 * tx.size+40)∧gO (fm tx f) m' k∧tI m' (sk tx.toList c):=by
  intro hn k f' hk r hfr' han' hw' hmk'
  cases c with
  | zero =>
   obtain⟨wt,s1,_⟩:=rF (tx:=tx) hfr' han' (by decide)
   have r1:=r.trans (gO.one (fo _) s1)
   have r2:=r1.trans (gO.one (fo _) (pf (tx:=tx) rfl rfl))
   refine⟨_,_,by trivial,r2,?_⟩
   unfold sk;rw[hn];rfl
  | succ c =>
   have s1:=v0 (tx:=tx) hfr' han' (by trivial) (by decide) (by trivial)
   obtain⟨k',m',hk',r',e'⟩:=ih c rfl { f' with pc:=5+1+ck.getD (5+1) 0,pos:=c+1 - 1,hd:=c+1 - 1,lm := -1,li := -1,fr := [gb 5 (c+1 - 1) c (-1) (-1)],an:=none } (Nat.le_of_lt ‹_›) rfl rfl rfl rfl rfl rfl hw' hmk'
   refine⟨_,m',?_,(r.trans (gO.one (fo _) s1)).trans r',?_⟩
   ·have e:(c+1+1) * (3 * tx.size+40)=(c+1) * (3 * tx.size+40)+(3 * tx.size+40):=by rw[Nat.add_mul,Nat.one_mul]
    trivial
   ·unfold sk;rw[hn];exact e'
 obtain⟨k,sn,hk,r⟩:=Iz (tx:=tx) f9 f han (by rw[hpc];decide) (by rw[hpc];decide)
 have hk7:k≤7:=hk
 rw[hpos]at r
 rcases r with ⟨h1,r⟩ | ⟨h1,pc,pos,r⟩
 ·have hq:c+7≤tx.size:=by
   have:f9.length≤(tx.toList.drop c).length:=(List.isPrefixOf_iff_prefix.mp h1).length_le
   simp only[List.length_drop,Array.length_toList]at this
   have e7:f9.length=7:=rfl
   trivial
  obtain⟨k',f',hk',r',a1,a2,a3⟩:=AX (tx:=tx) (r:=f.fr) (q:=c+7) (f := { f with pc:=f.pc+2 * f9.length,pos:=c+f9.length,sn:=sn }) (by dsimp only;rw[hpc];rfl) rfl rfl hlm han (by dsimp only;trivial) hmk hq hs
  rcases a3 with ⟨b1,b2,b3,b4,b5,b6⟩ | ⟨b1,b2,b3⟩
  ·obtain⟨wt,s1⟩:=rB (tx:=tx) (a1.trans hfr) b2
   have r2:=((r.trans r').trans (gO.one (fo _) s1)).trans (gO.one (fo _) (Bb (tx:=tx) b2 rfl))
   refine⟨_,_,?_,r2,?_⟩
   ·have:1 * (3 * tx.size+40)≤(c+1) * (3 * tx.size+40):=Nat.mul_le_mul_right _ (by trivial)
    trivial
   ·have hh:cC tx.toList c=some (bX tx.toList (c+7)):=A3 h1 (by simpa using b1)
    have:sk tx.toList c=some (c,bX tx.toList (c+7)):=by cases c with
     | zero=>unfold sk;rw[hh];rfl
     | succ c=>unfold sk;rw[hh]
    rw[this]
    exact⟨rfl,b3,b4,b5,rfl,b6⟩
  ·exact fail (uX (by simpa using b1)) _ f' (by trivial) (r.trans r') (a1.trans hfr) b2 (by rw[b3];exact hw) a2
 ·exact fail (uY h1) _ _ (Nat.le_trans ‹_› (Nat.le_of_ble_eq_true rfl)) r hfr rfl hw hmk
theorem z9(hs:tx.size≤16777216):∀(c:Nat),Gz tx c:=by
 intro l₀
 induction l₀ with
 | zero =>
  exact rX hs 0 (fun ω h=>nomatch h)
 | succ c ih₀ =>
  exact rX hs (c+1) (fun n h=>Nat.succ.inj h ▸ ih₀)
end
section
open PySem.Sre
variable{tx:Array Nat}
noncomputable def c8(l:List Nat):Nat:=(l.takeWhile (fun c=>c != 10)).length
noncomputable def Cf(l:List Nat):Option (Nat×Nat):=sk l (c8 l)
theorem o9{l:List Nat}(h:l.length<8)(p:Nat):cC l p=none:=by
 unfold cC
 cases e:f9.isPrefixOf (l.drop p)&&decide (p+7+bX l (p+7)<l.length)with
 | false=>rfl
 | true =>
  obtain⟨a,b⟩:=Bool.and_eq_true_iff.mp e
  have a':f9.length≤(l.drop p).length:=(List.isPrefixOf_iff_prefix.mp a).length_le
  have b':=of_decide_eq_true b
  simp only[List.length_drop]at a'
  have:f9.length=7:=rfl
  trivial
theorem zB{l:List Nat}(h:l.length<8):∀c,sk l c=none:=by
 intro l₀
 induction l₀ with
 | zero =>
  unfold sk;rw[o9 h];rfl
 | succ c ih₀ =>
  unfold sk;rw[o9 h];exact ih₀
noncomputable def m0(tx:Array Nat):M:=Sre.forMatch ck tx 1 0 tx.size false false
noncomputable def f0:FS := { pc:=5,pos:=0,hd:=0,mrk:=Array.replicate 2 none,lm := -1,li := -1,fr := [],wt:=0,an:=none,sn:=({} : Sre.Seen).add 14 }
theorem Hk(tx:Array Nat):m0 tx=if tx.size<8 then fm tx { f0 with an:=some false } else fm tx f0:=by
 unfold m0 Sre.forMatch
 have:header ck=(8,5):=rfl
 simp only[this]
 by_cases h:tx.size<8
 ·rw[if_pos h,if_pos (by simp[h])];rfl
 ·rw[if_neg h,if_neg (by simp;trivial)];rfl
theorem Fw(hs:tx.size≤16777216):∃k m',k≤2 ^ 60∧M.runFor k (m0 tx)=m'∧m'.outcome.isSome=true∧tI m' (Cf tx.toList):=by
 rw[Hk]
 have fin:∀{m':M} {r},tI m' r→m'.outcome.isSome=true:=by
  intro m' r h
  cases r with
  | none=>rw[show m'.outcome=_ from h];rfl
  | some p=>obtain⟨p,n⟩:=p;rw[show m'.outcome=_ from h.1];rfl
 have run:∀{m m':M} {k:Nat},gO m m' k→M.runFor k m=m':=fun r=>by have:=r 0;exact this
 by_cases h:tx.size<8
 ·rw[if_pos h]
  have r:=gO.one (fo _) (pf (tx:=tx) (f := { f0 with an:=some false }) rfl rfl)
  refine⟨1,_,by decide,run r,rfl,?_⟩
  unfold Cf
  rw[zB (by simpa using h)]
  rfl
 ·rw[if_neg h]
  obtain⟨sn,s1⟩:=xc (tx:=tx) (f:=f0) (n:=c8 tx.toList) rfl rfl (by decide) (Nat.zero_le _) hs rfl
  have hl:c8 tx.toList≤tx.size:=by
   have:c8 tx.toList≤tx.toList.length:=(List.takeWhile_sublist _).length_le
   simpa using this
  obtain⟨k,m',hk,r,e⟩:=z9 (tx:=tx) hs (c8 tx.toList) { f0 with pc:=11,pos:=c8 tx.toList,hd:=c8 tx.toList,fr := [gb 5 (c8 tx.toList) (c8 tx.toList) (-1) (-1)],wt:=1,sn:=sn } hl rfl rfl rfl rfl rfl rfl rfl rfl
  have s1':(fm tx f0).step=fm tx { f0 with pc:=11,pos:=c8 tx.toList,hd:=c8 tx.toList,fr := [gb 5 (c8 tx.toList) (c8 tx.toList) (-1) (-1)],wt:=1,sn:=sn } := by
   rw[s1]
   show fm tx { f0 with pc:=11,pos:=0+c8 tx.toList,hd:=0+c8 tx.toList,fr := [gb 5 (0+c8 tx.toList) (c8 tx.toList) (-1) (-1)],wt:=0+1,sn:=sn } = _
   rw[Nat.zero_add]
  have r':=(gO.one (fo _) s1').trans r
  refine⟨1+k,m',?_,run r',fin e,e⟩
  have:(c8 tx.toList+1) * (3 * tx.size+40)≤16777217 * (3 * 16777216+40):=Nat.mul_le_mul (by trivial) (by trivial)
  have:16777217 * (3 * 16777216+40)+1≤2 ^ 60:=by decide
  trivial
theorem ey{m:M}(h:m.outcome.isSome=true):∀n,M.runFor n m=m
 | 0=>rfl
 | n+1=>by unfold M.runFor;rw[h,if_pos rfl]
theorem gv(m:M):∀(a b:Nat),M.runFor (a+b) m=M.runFor b (M.runFor a m)
 | 0,b=>by rw[Nat.zero_add];rfl
 | a+1,b=>by
  rw[Nat.add_right_comm]
  cases h:m.outcome.isSome with
  | true=>rw[ey h,ey h,ey h]
  | false =>
   have:∀n,M.runFor (n+1) m=M.runFor n m.step:=fun n=>by
    show(if m.outcome.isSome then m else _)=_
    rw[h];rfl
   rw[this,this,gv m.step a b]
section
variable{M:Model}{A:Around}{E:Value→Shared→Prop}{s:Shared}
theorem Bm{Q:Sre.M→Shared→Prop}{m':Sre.M}(hq:Q m' s)(hd:m'.outcome.isSome=true):∀(T k:Nat) (m:Sre.M),Sre.M.runFor k m=m'→k≤4 * T→1≤T→wpAny M A (Builtin.Re.reDrive T m) Q E s:=by
 intro l₀
 induction l₀ with
 | zero =>
  intro _ _ _ _ h
  exact absurd h (by decide)
 | succ T ih₀ =>
  intro k m hr hk _
  unfold Builtin.Re.reDrive
  dsimp only
  by_cases h4:k≤Builtin.Re.reTurnSteps
  ·have:Sre.M.runFor Builtin.Re.reTurnSteps m=m':=by
    obtain⟨j,hj⟩:=Nat.le.dest h4
    rw[← hj,gv,hr,ey hd]
   rw[this,hd,if_pos rfl]
   exact wpAny_pure hq
  ·have e4:Builtin.Re.reTurnSteps=4:=rfl
   cases h:(Sre.M.runFor Builtin.Re.reTurnSteps m).outcome.isSome with
   | true =>
    rw[if_pos rfl]
    obtain⟨j,hj⟩:=Nat.le.dest (Nat.le_of_lt (Nat.lt_of_not_ge h4))
    rw[← hj,gv,ey h]at hr
    rw[hr]
    exact wpAny_pure hq
   | false =>
    rw[if_neg (by decide)]
    refine wpAny_bind (wpAny_rule ?_)
    obtain⟨j,hj⟩:=Nat.le.dest (Nat.le_of_lt (Nat.lt_of_not_ge h4))
    have hj':Builtin.Re.reTurnSteps+j=k:=hj
    rw[← hj',gv]at hr
    exact ih₀ j _ hr (by trivial) (by trivial)
theorem zL(l:List Nat)(p:Nat→Bool)(f:Nat→String){Q:PUnit→Shared→Prop}(h:Q ⟨⟩ s):wpAny M A (forIn l PUnit.unit fun i ω=>if p i then do rule (f i);pure (ForInStep.yield PUnit.unit)else pure (ForInStep.yield PUnit.unit)) Q E s:=by
 induction l with
 | nil=>exact wpAny_pure h
 | cons x r ih =>
  rw[List.forIn_cons]
  by_cases hp:p x=true
  ·rw[if_pos hp];exact wpAny_bind (wpAny_bind (wpAny_rule (wpAny_pure ih)))
  ·rw[if_neg hp];exact wpAny_bind (wpAny_pure ih)
theorem zn{m m':Sre.M}{k:Nat}(hr:Sre.M.runFor k m=m')(hk:k≤2 ^ 60)(hd:m'.outcome.isSome=true){r:Option (Nat×Nat)}(he:tI m' r){Q:Option Sre.M→Shared→Prop}(h:Q (r.map fun ω=>m') s) :
  wpAny M A (Builtin.Re.reRunToEnd m) Q E s:=by
 unfold Builtin.Re.reRunToEnd
 refine wpAny_bind (Bm ?_ hd (2 ^ 64) k m hr (Nat.le_trans ‹_› (Nat.le_of_ble_eq_true rfl)) (by decide))
 refine wpAny_bind (zL _ _ _ ?_)
 cases r with
 | none=>rw[show m'.outcome=_ from he];exact wpAny_pure h
 | some p=>obtain⟨p,n⟩:=p;rw[show m'.outcome=_ from he.1];exact wpAny_pure h
end
end
section
open Builtin.Re
theorem jz(b:Array UInt8)(t:Tok):reTextOf (.bytes b t)=pure (b.map (·.toNat),1):=by kernel_rfl
theorem vo(b:Array UInt8)(t:Tok):reNoCollectionInside (.bytes b t) 1=pure ():=by kernel_rfl
theorem xz(v:Value):reNamed "re.Pattern.match" "match" ["string","pos","endpos"] 1 [v] []=pure [some v,none,none]:=by kernel_rfl
theorem i9:Slot "re.Pattern" "match" "re.Pattern.match" :=
 .of (owner := "re.Pattern") (n := "match") (by rw[typeLookup_type,builtinLookup_eq_fast];kernel_rfl) (by decide +kernel) (by decide +kernel) (by decide +kernel)
  (by first | exact .inl (by decide +kernel) | exact .inr (by decide +kernel)) (by rw[isSubtype_type];kernel_rfl)
theorem tR:typeOf (.builtin "re.Pattern.match")=pure (.type "method_descriptor"):=by show builtinType _=_;rw[builtinType_eq_fast];kernel_rfl
theorem sK:entryFor table "re.Pattern.match" = some Builtin.«re.Pattern.match» := entryFor_of_tree (by kernel_rfl)
theorem vI(a b:Value):argsOk "re.Pattern.match" ⟨[a,b],[]⟩:=by unfold argsOk;kernel_rfl
theorem FO:PlainAttrs "re.Pattern" := ⟨⟨"object.__getattribute__",by rw[typeLookup_type,builtinLookup_eq_fast];kernel_rfl,by decide +kernel⟩,by rw[typeLookup_type,builtinLookup_eq_fast];kernel_rfl⟩
theorem ja:Slot "re.Match" "group" "re.Match.group" :=
 .of (owner := "re.Match") (n := "group") (by rw[typeLookup_type,builtinLookup_eq_fast];kernel_rfl) (by decide +kernel) (by decide +kernel) (by decide +kernel)
  (by first | exact .inl (by decide +kernel) | exact .inr (by decide +kernel)) (by rw[isSubtype_type];kernel_rfl)
theorem tT:typeOf (.builtin "re.Match.group")=pure (.type "method_descriptor"):=by show builtinType _=_;rw[builtinType_eq_fast];kernel_rfl
theorem sL:entryFor table "re.Match.group" = some Builtin.«re.Match.group» := entryFor_of_tree (by kernel_rfl)
theorem vJ(a b:Value):argsOk "re.Match.group" ⟨[a,b],[]⟩:=by unfold argsOk;kernel_rfl
theorem Dd:PlainAttrs "re.Match" := ⟨⟨"object.__getattribute__",by rw[typeLookup_type,builtinLookup_eq_fast];kernel_rfl,by decide +kernel⟩,by rw[typeLookup_type,builtinLookup_eq_fast];kernel_rfl⟩
theorem gU:Slot "bytes" "split" "bytes.split" :=
 .of (owner := "bytes") (n := "split") (by rw[typeLookup_type,builtinLookup_eq_fast];kernel_rfl) (by decide +kernel) (by decide +kernel) (by decide +kernel)
  (by first | exact .inl (by decide +kernel) | exact .inr (by decide +kernel)) (by rw[isSubtype_type];kernel_rfl)
theorem rk:typeOf (.builtin "bytes.split")=pure (.type "method_descriptor"):=by show builtinType _=_;rw[builtinType_eq_fast];kernel_rfl
theorem qx:entryFor table "bytes.split" = some Builtin.«bytes.split» := entryFor_of_tree (by kernel_rfl)
theorem tj(a:Value):argsOk "bytes.split" ⟨[a],[]⟩:=by unfold argsOk;kernel_rfl
theorem vA(id:String):Builtin.Bytes.bindOptional id "split" ["sep","maxsplit"] [] []=pure [none,none]:=by kernel_rfl
theorem n0(b:Array UInt8)(t:Tok):Builtin.Bytes.payload (.bytes b t)=pure b:=by kernel_rfl
theorem ua(b:Array UInt8)(t:Tok):Builtin.Bytes.Kind.same .bytes (.bytes b t)=pure (.bytes b t):=by kernel_rfl
end
section
open Builtin.Re
structure B9(X:Cx):Prop where
 at_:∃p0 p1 t1 d nt ct t2 items n od oc t3,X.H₀.get? X.pat=some { cls:=.type "re.Pattern",data:=.fields #[p0,p1,.int 1 t1,.ref d,nt,.ref ct,.int 1 t2] } ∧
  X.H₀.get? ct=some oc∧oc.data=.seq items n∧(items.map reRawOf).map (fun i=>i.toNat)=ck ∧
  X.H₀.get? d=some od∧X.H₀.MapOf (strKind X.prog X.w) d (fun k=>if k=Str.ofString "flags" then some (.int 1 t3)else none)
noncomputable def gE(b:List UInt8):Option (List UInt8):=match Cf (b.map (fun c=>c.toNat))with
 | some (p,n)=>some ((b.drop (p+7)).take n)
 | none=>none
section
variable{X:Cx}{k:Nat}{sc:Scope}{vis:List (Str×Nat)}{A:Around}{env cenv:Env}{Z:Addr→Prop}{ρ:List Addr}{σ:St}{η:be}{s:Shared}
theorem GV{x:Str}{pos:Pos}(G:bo X x (.ref X.pat))(hh:sA sc x=true:=by decide +kernel)  :
  bu X k sc vis (.Name x pos) (mK .pat):=by
 obtain⟨hk,hd⟩:=jT hh
 refine⟨?_⟩
 intro A env Z ρ σ η s c av σ' e Q E p
 have hk':env.kindOf x=some .globalImplicit:=by unfold Env.kindOf;rw[c.sc];exact hk
 refine wpAny_Name ?_ hd
 rw[PyProof.Rows.loadName_read c.e.kind hk']
 refine G _ _ _ _ _ c.e.glob c.e.bltn c.c.inv.base ?_
 exact(p.of e).here c.c.inv (by show _=_;rfl)
noncomputable def E2{β:Type}(a:AV)(f:Option β):Option β:=nR none a (pat:=f)
theorem BU{β:Type}{r:β}{a:AV}{f:Option β}{P:AV→Prop}(e:E2 a f=some r)(k:f=some r→P .pat):P a:=by
 cases a with
 | pat=>exact k e
 | _=>exact oN e
noncomputable def I3{β:Type}(a:AV)(f:List UInt8→Option β):Option β:=nR none a (mtch:=f)
theorem Gr{β:Type}{r:β}{a:AV}{f:List UInt8→Option β}{P:AV→Prop}(e:I3 a f=some r)(k:∀g,f g=some r→P (.mtch g)):P a:=by
 cases a with
 | mtch g=>exact k g e
 | _=>exact oN e
noncomputable def Hg(x:Option (List UInt8)):AV:=match x with
 | some g=>.mtch g
 | none=>.none
noncomputable def uE:eB:=fun l σ=>cR l yD (fun a b=>E2 a (GG b fun b=>if dX b.length then some (Hg (gE b),σ)else none)) oW
theorem pd{l:List Nat}{p n:Nat}(hm:cC l p=some n):p+7+n<l.length :=
 dh hm fun h e=>by have:=of_decide_eq_true (Bool.and_eq_true_iff.mp h).2;rw[oE e]at this;exact this
theorem zC(l:List Nat):∀(c p n:Nat),sk l c=some (p,n)→p+7+n<l.length:=by
 intro c
 induction c with
 | zero =>
  intro p n e
  unfold sk at e
  obtain⟨m,hm,q⟩:=Option.map_eq_some_iff.mp e
  rw[← show m=n from congrArg Prod.snd q,← show 0=p from congrArg Prod.fst q]
  exact pd hm
 | succ c ih =>
  intro p n e
  unfold sk at e
  cases h:cC l (c+1)with
  | some m =>
   rw[h]at e
   have q:=Option.some.inj e
   rw[← show m=n from congrArg Prod.snd q,← show c+1=p from congrArg Prod.fst q]
   exact pd h
  | none=>rw[h]at e;exact ih p n e
noncomputable def ew(q m:Nat):Obj := { cls:=.type "tuple",data:=.seq #[rawInt 0,rawInt ((q+7+m+1:Nat):Int),rawInt ((q+7:Nat):Int),rawInt ((q+7+m:Nat):Int)] }
noncomputable def iA(st pt:Value)(lim sp:Nat):Obj := { cls:=.type "re.Match",data:=.fields #[st,pt,rawInt 0,rawInt lim,rawInt 1,.ref sp] }
theorem sb{M:Model}{pt st:Value}{lim q m:Nat}{m':Sre.M}{Q:Value→Shared→Prop}{E:Value→Shared→Prop}(h2:m'.marks = #[some (q+7),some (q+7+m)])(h3:m'.lastmark=1)(h4:m'.lastindex=1)(h5:m'.start=0)(h6:m'.handed=q+7+m+1)
  (h:Q (.ref (s.heap.objs.size+1)) { s with heap:=(s.heap.push (ew q m)).push (iA st pt lim s.heap.objs.size) }):wpAny M A (reNewMatch pt st 1 0 lim m') Q E s:=by
 obtain⟨code,text,l,start,ls,wt,ma,pc,pos,handed,om,marks,lastmark,lastindex,loops,inn,frames,weight,answer,seen,outcome⟩:=m'
 dsimp only at h2 h3 h4 h5 h6
 subst h2 h3 h4 h5 h6
 unfold reNewMatch
 show wpAny M A (if((decide ((1:Int)≤1)&&decide (q+7+m<q+7))||false)=true then _ else(do
  let sp ← newTuple [rawInt 0,rawInt ((q+7+m+1:Nat):Int),rawInt ((q+7:Nat):Int),rawInt ((q+7+m:Nat):Int)]
  newFields "re.Match" [st,pt,rawInt 0,rawInt lim,rawInt 1,sp])) Q E s
 rw[decide_eq_false (show ¬ q+7+m<q+7 by trivial),Bool.and_false,if_neg (by decide)]
 refine wpAny_bind (wpAny_newTuple ?_ (by show 4≤sizeLine;rw[sizeLine_eq];trivial))
 unfold newFields
 refine wpAny_newObj_type ?_ ?_
 ·have:(s.heap.push (ew q m)).objs.size=s.heap.objs.size+1:=Heap.size_push _ _
  rw[← this]at h
  exact h
 ·simp[sizeOk];rw[sizeLine_eq];trivial
theorem yv{prog:Program}{w:World}{pt st:Value}{tx:Array Nat}{R:Result→Shared→Prop}(hs:tx.size≤16777216)
  (h:match Cf tx.toList with
   | none=>R (.ok (.ret .none)) s
   | some (q,m)=>R (.ok (.ret (.ref (s.heap.objs.size+1)))) { s with heap:=(s.heap.push (ew q m)).push (iA st pt tx.size s.heap.objs.size) }) :
  wpAny (model prog w) A.in1 (reAnswer ⟨pt,st,ck,tx,1,1,0,tx.size⟩ (Sre.forMatch ck tx 1 0 tx.size false false))
   (fun fin s'=>match fin with | .done f=>R (.ok f) s' | .again c'=>c'.quiet=true∧codeAny (model prog w) A c' R s') (fun e s'=>R (.error e) s') s:=by
 obtain⟨kk,m',hk,hr,hd,he⟩:=Fw hs
 unfold reAnswer
 generalize hm:Sre.forMatch ck tx 1 0 tx.size false false=mm
 have hr':Sre.M.runFor kk mm=m':=by rw[← hm];exact hr
 clear hr
 refine wpAny_bind (zn hr' hk hd he ?_)
 cases hs:Cf tx.toList with
 | none =>
  rw[hs]at h
  exact wpAny_pure h
 | some pr =>
  obtain⟨q,m⟩:=pr
  rw[hs]at h he
  obtain⟨_,h2,h3,h4,h5,h6⟩:=he
  exact wpAny_bind (sb h2 h3 h4 h5 h6 (wpAny_pure h))
theorem uM{b:List UInt8}{t:Tok}{q m:Nat}{Q:Value→Shared→Prop}(i:bL X Z ρ σ s)(p:cH X Z ρ s (.mtch ((b.drop (q+7)).take m)) σ Q)(hz:dX b.length=true)(hb:q+7+m<b.length){lim:Nat} :
  Q (.ref (s.heap.objs.size+1)) { s with heap:=(s.heap.push (ew q m)).push (iA (.bytes b.toArray t) (.ref X.pat) lim s.heap.objs.size) } := by
 have hs1:(s.heap.push (ew q m)).objs.size=s.heap.objs.size+1:=Heap.size_push _ _
 have g0:(s.heap.push (ew q m)).get? s.heap.objs.size=some (ew q m):=Heap.get?_push_size _ rfl
 have g1:((s.heap.push (ew q m)).push (iA (.bytes b.toArray t) (.ref X.pat) lim s.heap.objs.size)).get? (s.heap.objs.size+1)=some (iA (.bytes b.toArray t) (.ref X.pat) lim s.heap.objs.size):=by
  rw[← hs1];exact Heap.get?_push_size _ rfl
 have g2:=Heap.get?_push_of_some (iA (.bytes b.toArray t) (.ref X.pat) lim s.heap.objs.size) g0
 refine p.grow (tk:=s.toks) (P:=fun a=>a=s.heap.objs.size∨a=s.heap.objs.size+1) i (fun ω ω e=>Heap.get?_push_of_some _ (Heap.get?_push_of_some _ e)) ?_ ?_
 ·intro a ha
  rcases ha with ha | ha
  ·rw[ha];exact⟨bx _,by rw[g2];exact fun e=>nomatch e⟩
  ·rw[ha]
   refine⟨?_,by rw[g1];exact fun e=>nomatch e⟩
   cases q:s.heap.get? (s.heap.objs.size+1)with
   | none=>rfl
   | some o=>exact absurd (Heap.lt_size q) (Nat.not_lt.mpr (Nat.le_succ _))
 ·show ∃_,_
  refine⟨_,_,_,_,rfl,.inr (.inr rfl),.inr (.inl rfl),g1,g2,b.toArray,t,_,_,_,_,_,_,_,rfl,rfl,by trivial,by trivial,?_,bM hz⟩
  rw[Int.toNat_natCast,Int.toNat_natCast]
  simp
theorem uf{M:Model}{pt ct:Addr}{c:Value}{F items:Array Value}{n:Nat}{b:List UInt8}{t:Tok}{Q:ReTarget→Shared→Prop}(ho:s.heap.get? pt=some { cls:=c,data:=.fields F })(h6:reRawNat (F.getD 6 .none)=1)(h5:F.getD 5 .none=.ref ct)(h2:reRawNat (F.getD 2 .none)=1)
  {oc:Obj} (hc:s.heap.get? ct=some oc) (hs:oc.data=.seq items n) (hcode:(items.map reRawOf).map (fun i=>i.toNat)=ck) (hz:min (2 ^ 63 - 1:Int).toNat (b.toArray.map (fun x=>x.toNat)).size=(b.toArray.map (fun x=>x.toNat)).size) (h:Q ⟨.ref pt,.bytes b.toArray t,ck,b.toArray.map (fun x=>x.toNat),1,1,0,(b.toArray.map (fun x=>x.toNat)).size⟩ s) :
  wpAny M A (reTarget "re.Pattern.match" "match" ⟨[.ref pt,.bytes b.toArray t],[]⟩) Q E s:=by
 refine wpAny_bind ((xz _).symm ▸ wpAny_pure (wpAny_bind (wpAny_pure (wpAny_bind (wpAny_pure (wpAny_bind (wpAny_fieldsOf ho rfl (wpAny_bind ((jz _ _).symm ▸ wpAny_pure ?_)))))))))
 dsimp only
 rw[h6,h5,h2,if_neg (show ¬ ((1:Nat)==0&&(1:Nat)==1)=true by decide),if_neg (show ¬ ((1:Nat)==1&&(1:Nat)==0)=true by decide)]
 refine wpAny_bind ((vo _ _).symm ▸ wpAny_pure (wpAny_bind (wpAny_bind (wpAny_seqItems hc hs (wpAny_pure (wpAny_pure ?_))))))
 have e3:min (2 ^ 63 - 1:Int).toNat (b.toArray.map (fun x=>x.toNat)).size=(b.toArray.map (fun x=>x.toNat)).size:=hz
 show Q ⟨.ref pt,.bytes b.toArray t,(items.map reRawOf).map (fun i=>i.toNat),b.toArray.map (fun x=>x.toNat),1,1,min (Int.toNat 0) _,min (2 ^ 63 - 1:Int).toNat _⟩ s
 rw[hcode,e3,show min (Int.toNat 0) (b.toArray.map (fun x=>x.toNat)).size=0 from Nat.zero_min _]
 exact h
theorem Ea(PA:B9 X):a8 X k (.builtin "re.Pattern.match") uE:=by
 refine⟨?_⟩
 intro A Z ρ σ s c l vs r av σ' e Q E p
 refine nD (P:=fun vs=>wpAny (model X.prog X.w) A (call (.builtin "re.Pattern.match") vs) Q E s) e r fun a b' v w r1 r2 e => ?_
 refine BU (P:=fun a=>aq X ρ Z s.heap a v→wpAny (model X.prog X.w) A (call (.builtin "re.Pattern.match") [v,w]) Q E s) e (fun e r1 => ?_) r1
 refine iH e r2 fun b t e=>dh e fun hz e => ?_
 replace p:=p.of e
 rw[(r1:_=_)]
 obtain⟨p0,p1,t1,d,nt,ct,t2,items,n,od,oc,t3,ho,hoc,hseq,hcode,_,_⟩:=PA.at_
 have ho':=c.inv.base _ _ ho
 have hoc':=c.inv.base _ _ hoc
 refine wpAny_call (codeAny_call_builtin i9.plain sK (i9.check _ _ _ _ _ _ _ _ ⟨_,ho',rfl⟩ (vI _ _) ?_))
 have hsz:(b.toArray.map (fun x=>x.toNat)).size≤16777216:=by rw[Array.size_map];exact dm hz
 refine wpAny_bind (uf ho' rfl rfl rfl hoc' hseq hcode (Nat.min_eq_right (Nat.le_trans hsz (by decide))) ?_)
 have hl:(b.toArray.map (fun x=>x.toNat)).toList=b.map (fun x=>x.toNat):=by rw[Array.toList_map]
 refine yv (R:=wants Q E) hsz ?_
 rw[hl]
 unfold gE at p
 cases hs:Cf (b.map (fun x=>x.toNat))with
 | none =>
  rw[hs]at p
  exact p.here c.inv (by show _=_;rfl)
 | some pr =>
  rw[hs]at p
  have hb:=zC _ _ _ _ hs
  rw[List.length_map]at hb
  exact uM c.inv p hz hb
noncomputable def uF:eB:=fun l σ=>cR l yD (fun a b=>I3 a fun g=>iI b fun x=>if x = [102,108,97,103,115]then some (.bytes g,σ)else none) oW
theorem yt(x:Str)(t:Tok):asInt? (.str x t)=pure none:=by kernel_rfl
theorem r9:typeLookup (.type "str") "__index__" = pure none:=by rw[typeLookup_type,builtinLookup_eq_fast];kernel_rfl
theorem sh{prog:Program}{w:World}{K:Type}[DecidableEq K]{knd:KeyKind prog w K}{h h':Heap}{a:Addr}{f:K→Option Value}(k:∀b o,h.get? b=some o→h'.get? b=some o)(x:h.MapOf knd a f):h'.MapOf knd a f :=
 x.imp fun ω x=>x.imp fun ω x=>x.imp fun ω x=>⟨k _ _ x.1,x.2⟩
theorem xg{M:Model}{a sp:Addr}{c c':Value}{F items:Array Value}{S:Array Int}{n:Nat}{Q:ReFound→Shared→Prop}(hm:s.heap.get? a=some { cls:=c,data:=.fields F })(hF:F.getD 5 .none=.ref sp)(hs:s.heap.get? sp=some { cls:=c',data:=.seq items n })(hS:items.map reRawOf=S)(h:Q ⟨F,S⟩ s):wpAny M A (reFound (.ref a)) Q E s:=by
 refine wpAny_bind (wpAny_fieldsOf hm rfl (wpAny_bind ?_))
 rw[hF]
 subst hS
 exact wpAny_bind (wpAny_seqItems hs rfl (wpAny_pure (wpAny_pure h)))
theorem ug{x:ReFound}{a d:Addr}{c:Value}{F:Array Value}{t t3:Tok}{Q:Nat→Shared→Prop}(h1:x.fields.getD 1 .none=.ref a)(ho:s.heap.get? a=some { cls:=c,data:=.fields F })(hF:F.getD 3 .none=.ref d)
  (hmap:s.heap.MapOf (PySem.strKind X.prog X.w) d (fun k=>if k=Str.ofString "flags" then some (.int 1 t3)else none)) (hs:x.spans.size=4) (h:Q 1 { s with toks:=s.toks+1 }):wpAny (model X.prog X.w) A (reGroupNumber x (.str (aj [102,108,97,103,115]) t)) Q E s:=by
 refine wpAny_bind ((yt _ _).symm ▸ wpAny_pure (wpAny_bind (wpAny_bind (wpAny_typeOf (typeIs_str _ _ _) (r9.symm ▸ wpAny_pure (wpAny_bind ?_))))))
 rw[h1]
 refine wpAny_fieldsOf ho rfl ?_
 rw[hF]
 refine wpAny_bind (wpAny_dictGet_of (knd:=PySem.strKind X.prog X.w) (k:=aj [102,108,97,103,115]) rfl hmap ?_)
 rw[if_pos (show aj [102,108,97,103,115]=Str.ofString "flags" by decide +kernel)]
 refine wpAny_bind (wpAny_pure (a:=some (1:Int)) (wpAny_bind (wpAny_pure (a:=(1:Int)) ?_)))
 show wpAny _ _ (if(decide ((1:Int)<0)||decide (2 * (1:Int) ≥ (x.spans.size:Int)))=true then _ else _) _ _ _
 rw[hs,if_neg (by decide)]
 exact wpAny_pure h
theorem zJ{M:Model}{F:Array Value}{i0 i1 b e:Int}{text:Array UInt8}{t:Tok}{g:List UInt8}{Q:Value→Shared→Prop}(h0:F.getD 0 .none=.bytes text t)(hb:0≤b)(he:0≤e)(hg:(text.extract b.toNat e.toNat).toList=g)(hz:text.size≤sizeLine)(h:∀t,Q (.bytes g.toArray t) { s with toks:=s.toks+1 }) :
  wpAny M A (reGroupText ⟨F,#[i0,i1,b,e]⟩ 1 .none) Q E s:=by
 show wpAny M A (if(decide (b<0)||decide (e<0))=true then pure .none else _) Q E s
 rw[decide_eq_false (Int.not_lt.mpr hb),decide_eq_false (Int.not_lt.mpr he),if_neg (show ¬ (false||false)=true by decide)]
 refine wpAny_bind ?_
 dsimp only
 rw[h0,jz]
 refine wpAny_pure ?_
 have ge:((text.map (fun x=>x.toNat)).extract b.toNat e.toNat).map (fun x=>x.toUInt8)=g.toArray:=by
  have hid:((fun x:Nat=>x.toUInt8) ∘ fun x:UInt8=>x.toNat)=id:=by
   funext x;exact UInt8.ofNat_toNat
  rw[← hg,Array.toArray_toList,Array.map_extract,Array.map_map,hid,Array.map_id]
 show wpAny M A (mkBytes (((text.map (fun x=>x.toNat)).extract b.toNat e.toNat).map (fun x=>x.toUInt8))) Q E s
 rw[ge]
 refine wpAny_mkBytes (h _) ?_
 rw[← hg]
 exact Nat.le_trans (Nat.le_of_eq Array.size_extract) (Nat.le_trans (Nat.sub_le _ _) (Nat.le_trans (Nat.min_le_right _ _) hz))
theorem Ed(PA:B9 X):a8 X k (.builtin "re.Match.group") uF:=by
 refine⟨?_⟩
 intro A Z ρ σ s c l vs r av σ' e Q E p
 refine nD (P:=fun vs=>wpAny (model X.prog X.w) A (call (.builtin "re.Match.group") vs) Q E s) e r fun a' b' v w r1 r2 e => ?_
 refine Gr (P:=fun a=>aq X ρ Z s.heap a v→wpAny (model X.prog X.w) A (call (.builtin "re.Match.group") [v,w]) Q E s) e (fun g e r1 => ?_) r1
 refine bj e r2 fun x t e=>dh e fun hx e' => ?_
 obtain⟨a,sp,mo,so,hv,_,_,hm,hsp,hi⟩:=r1
 obtain⟨text,t',p1,p2,p3,i0,i1,b,e,hmo,hso,hb,he,hg,hz⟩:=hi
 rw[hmo]at hm;rw[hso]at hsp
 rw[hv,hx]
 obtain⟨q0,q1,t1,d,nt,ct,t2,items,n,od,oc,t3,ho,_,_,_,hd,hmap⟩:=PA.at_
 have ho':=c.inv.base _ _ ho
 have hmap':s.heap.MapOf (PySem.strKind X.prog X.w) d (fun k=>if k=Str.ofString "flags" then some (.int 1 t3)else none):=sh c.inv.base hmap
 have h4:Array.map reRawOf #[i0,i1,rawInt b,rawInt e] = #[reRawOf i0,reRawOf i1,b,e]:=by simp[reRawOf,rawInt]
 refine wpAny_call (codeAny_call_builtin ja.plain sL (ja.check _ _ _ _ _ _ _ _ ⟨_,hm,rfl⟩ (vJ _ _) ?_))
 exact wpAny_bind (wpAny_pure (wpAny_bind (xg hm rfl hsp h4 (wpAny_bind (ug rfl ho' rfl hmap' rfl (wpAny_bind (zJ rfl hb he hg hz fun t=>wpAny_pure ((p.of e').tok c.inv (gp ..) _))))))))
end
end
section
open Builtin.Bytes
section
variable{X:Cx}{k:Nat}{sc:Scope}{vis:List (Str×Nat)}{A:Around}{env cenv:Env}{Z:Addr→Prop}{ρ:List Addr}{σ:St}{η:be}{s:Shared}
noncomputable def eI(b:List UInt8):List (List UInt8):=words (b.length+1) (b.length+1) b
theorem qG{b:List UInt8}(h:b ≠ [])(hn:b.any isSpace=false):eI b = [b]:=by
 have hd:b.dropWhile isSpace=b:=by
  cases b with
  | nil=>exact absurd rfl h
  | cons c r =>
   simp only[List.any_cons,Bool.or_eq_false_iff]at hn
   rw[List.dropWhile_cons,hn.1];rfl
 have key:∀l:List UInt8,l.any isSpace=false→l.takeWhile (fun c => !isSpace c)=l∧l.dropWhile (fun c => !isSpace c) = []:=by
  intro l
  induction l with
  | nil=>intro _;exact⟨rfl,rfl⟩
  | cons c r ih =>
   intro hl
   simp only[List.any_cons,Bool.or_eq_false_iff]at hl
   obtain⟨i1,i2⟩:=ih hl.2
   rw[List.takeWhile_cons,List.dropWhile_cons,hl.1]
   simp only[Bool.not_false,if_true]
   exact⟨by rw[i1],i2⟩
 unfold eI words
 rw[hd]
 obtain⟨k1,k2⟩:=key b hn
 cases b with
 | nil=>exact absurd rfl h
 | cons c r =>
  have:(((c::r).length+1==0):Bool)=false:=rfl
  rw[this]
  simp only[Bool.false_eq_true,if_false]
  rw[k1,k2]
  rfl
set_option tactic.hygienic true in
theorem oC:∀(n m:Nat) (b:List UInt8),(words n m b).length≤n∧∀w∈words n m b,w.length≤b.length:=by
 intro l₀
 induction l₀ with
 | zero =>
  intro m b
  exact⟨by simp[words],by simp[words]⟩
 | succ n ih₀ =>
  intro m b
  unfold words
  have h1:(b.dropWhile isSpace).length≤b.length:=(List.dropWhile_sublist _).length_le
  split
  ·exact⟨by simp,by simp⟩
  ·rename_i rest hr
   split
   ·exact⟨by simp,fun w hw=>by simp at hw;subst hw;exact h1⟩
   ·obtain⟨i1,i2⟩:=ih₀ (m - 1) ((b.dropWhile isSpace).dropWhile (fun c => !isSpace c))
    refine⟨by simp;exact i1,fun w hw => ?_⟩
    rcases List.mem_cons.mp hw with rfl | hw
    ·exact Nat.le_trans (List.takeWhile_sublist _).length_le h1
    ·exact Nat.le_trans (i2 w hw) (Nat.le_trans (List.dropWhile_sublist _).length_le h1)
noncomputable def iE:Nat→List (List UInt8)→List Value
 | _,[] => []
 | n,b::r=>.bytes b.toArray n::iE (n+1) r
theorem uN{M:Model}{E:Value→Shared→Prop} : ∀(xs:List (List UInt8)) (s:Shared) (Q:List Value→Shared→Prop),(∀x∈xs,x.length≤sizeLine)→Q (iE s.toks xs) { s with toks:=s.toks+xs.length } →
  wpAny M A (xs.mapM fun w=>Kind.new .bytes w.toArray) Q E s:=by
 intro l₀
 induction l₀ with
 | nil =>
  intro s Q _ h
  rw[List.mapM_nil];exact wpAny_pure h
 | cons x r ih₀ =>
  intro s Q hx h
  rw[List.mapM_cons]
  refine wpAny_bind (show wpAny M A (mkBytes x.toArray) _ _ _ from wpAny_mkBytes (wpAny_bind (ih₀ _ _ (fun y hy=>hx y (List.mem_cons_of_mem _ hy)) (wpAny_pure ?_))) (by simpa using hx x List.mem_cons_self))
  have e:s.toks+1+r.length=s.toks+(x::r).length:=by simp[Nat.add_comm,Nat.add_left_comm]
  show Q (.bytes x.toArray s.toks::iE (s.toks+1) r) { s with toks:=s.toks+1+r.length }
  rw[e];exact h
theorem ta{h:Heap} : ∀(l:List (List UInt8)) (tk:Nat),ag X ρ Z h (l.map .bytes) (iE tk l):=by
 intro l₀
 induction l₀ with
 | nil =>
  intro tk
  exact ag.nil_iff.mpr rfl
 | cons b r ih₀ =>
  intro tk
  exact ag.cons (gp ..) (ih₀ (tk+1))
theorem tb:∀(l:List (List UInt8)) (tk:Nat),(iE tk l).length=l.length:=by
 intro l₀
 induction l₀ with
 | nil =>
  intro tk
  exact rfl
 | cons b r ih₀ =>
  intro tk
  simp[iE,ih₀ (tk+1)]
noncomputable def qm:eB:=fun l σ=>cR l (fun a=>GG a fun b=>if dX (b.length+1)then some (.list ((eI b).map .bytes),σ)else none) wi oW
theorem BJ:a8 X k (.builtin "bytes.split") qm:=by
 refine⟨?_⟩
 intro A Z ρ σ s c l vs r av σ' e Q E p
 refine il (P:=fun vs=>wpAny (model X.prog X.w) A (call (.builtin "bytes.split") vs) Q E s) e r fun a v r e=>iH e r fun b t e=>dh e fun hz e => ?_
 replace p:=p.of e
 have hz':=bM hz
 refine wpAny_call (codeAny_call_builtin gU.plain qx (gU.check _ _ _ _ _ _ _ _ (typeIs_bytes _ _ _) (tj _) ?_))
 unfold Builtin.«bytes.split» splitM
 dsimp only
 rw[vA]
 refine wpAny_bind (wpAny_pure ?_)
 dsimp only
 refine wpAny_bind (wpAny_pure ?_)
 rw[n0]
 refine wpAny_bind (wpAny_pure ?_)
 dsimp only
 have e0:(if(-1:Int)<0 then b.toArray.size+1 else(-1:Int).toNat)=b.toArray.size+1:=if_pos (by decide)
 rw[e0]
 refine wpAny_bind (wpAny_rule ?_)
 by_cases hc:(decide (b.toArray.size+1>0) && !b.toArray.isEmpty && !b.toArray.any isSpace)=true
 ·rw[if_pos hc,ua]
  refine wpAny_bind (wpAny_pure (wpAny_bind (wpAny_newList (items := [.bytes b.toArray t]) ?_ (by rw[sizeLine_eq];show 1≤16777216;trivial))))
  have hc:=Bool.and_eq_true_iff.mp hc
  have hc1:=(Bool.and_eq_true_iff.mp hc.1).2
  have hb:eI b = [b]:=qG (by intro h;rw[h]at hc1;exact Bool.noConfusion hc1) (by simpa using hc.2)
  rw[hb]at p
  refine wpAny_pure ?_
  exact p.newList (vs := [.bytes b.toArray t]) c.inv (ag.cons (gp ..) (ag.nil_iff.mpr rfl)) (tk:=s.toks)
 ·rw[if_neg hc]
  rw[if_neg (by decide)]
  have e1:words (b.toArray.size+1) (b.toArray.size+1) b.toArray.toList=eI b:=by simp[eI]
  rw[e1]
  have wl:=oC (b.length+1) (b.length+1) b
  refine wpAny_bind (uN _ _ _ (fun x hx=>Nat.le_trans (wl.2 x hx) (by trivial)) (wpAny_bind (wpAny_newList ?_ ?_)))
  ·exact wpAny_pure (p.newList c.inv (ta _ _))
  ·rw[tb];exact Nat.le_trans wl.1 hz'
end
end
section
structure tG(X:Cx)(K:Frag)(C fI fS:Addr)(fdI fdS:FuncData)(p1 p2 p3 p4:Pos):Prop where
 inn:K.In X.H₀
 makes:makesIn K C=true
 init:findIn K (.ref C) "__init__" = some (some (.ref fI))
 fnI:typeIn K (.ref fI)=some (.type "function")
 keep:keepIn K (.ref C)=true
 seta:findIn K (.ref C) "__setattr__" = some (some (.builtin "object.__setattr__"))
 plain:plainOver K C=true
 taker:takerIn K C "passwd" = some none
 hasd:hasDictIn K C=true
 ga:findIn K (.ref C) "__getattribute__" = some (some (.builtin "object.__getattribute__"))
 noga:findIn K (.ref C) "__getattr__" = some none
 meth:findIn K (.ref C) "is_suburi" = some (some (.ref fS))
 fnS:typeIn K (.ref fS)=some (.type "function")
 fobj:∃o,X.H₀.get? fS=some o∧o.data=.func fdS
 FI:pG X fI fdI [.Assign [.Attribute (.Name "self" p1) "passwd" p2] (.Dict [] [] p3) p4] ["self"]
 self:fdI.scope.names.lookup (Str.ofString "self")=some .local
section
variable{X:Cx}{k:Nat}{sc:Scope}{vis:List (Str×Nat)}{A:Around}{env cenv:Env}{Z:Addr→Prop}{ρ:List Addr}{σ:St}{η:be}{s:Shared}
noncomputable def Iw(C:Addr):eB:=fun l σ=>lN l (some (.inst C,σ))
noncomputable def vH{β:Type}(a:AV)(f:Addr→Option β):Option β:=nR none a (inst:=f)
theorem yu{β:Type}{r:β}{a:AV}{f:Addr→Option β}{P:AV→Prop}(e:vH a f=some r)(k:∀n,f n=some r→P (.inst n)):P a:=by
 cases a with
 | inst n=>exact k n e
 | _=>exact oN e
theorem AY{K:Frag}{C fI fS:Addr}{fdI fdS:FuncData}{p1 p2 p3 p4:Pos}(M:tG X K C fI fS fdI fdS p1 p2 p3 p4){h0 hh:Heap}{x:Addr}{E:Value→Shared→Prop}{R:Flow→Shared→Prop}{s₁:Shared}{B:Around}{cenv:Env}{m:Str→Option Value}(KI:K.In h0)(hkind:cenv.scope.kind=.function)(kd:cenv.kindOf (Str.ofString "self")=some .local)
  (hm:m (Str.ofString "self")=some (.ref x)) (hns:s₁.heap.Ns cenv.locals m) (keep:∀b o,hh.get? b=some o→s₁.heap.get? b=some o) (k1:∀b o,h0.get? b=some o→hh.get? b=some o) (hx:x=h0.objs.size+1) (gx:hh.get? x=some (instObj C h0.objs.size)) (gdx:hh.get? h0.objs.size=some emptyDict)
  (hL:cenv.locals=h0.objs.size+2) (fin:∀h' tk,(∀b o,h0.get? b=some o→h'.get? b=some o)→(∃od,h'.get? h0.objs.size=some od∧shadowIn (some od) (Str.ofString "is_suburi")=some false)→h0.get? h0.objs.size=none→h'.get? x=some (instObj C h0.objs.size)→h0.get? x=none→R .next { s₁ with heap:=h',toks:=tk }) :
  wpAny (model X.prog X.w) B (execs [.Assign [.Attribute (.Name "self" p1) "passwd" p2] (.Dict [] [] p3) p4] cenv) R E s₁:=by
 refine wpAny_execs_cons ?_
 refine plainObj_wpAny_Assign_Attribute ?_ rfl
 refine wpAny_Dict_empty ?_
 refine wpAny_Name (wpAny_loadName_local hkind kd (hns.keeps (fun b o e=>Heap.get?_push_of_some _ e)) hm ?_) (by decide +kernel)
 have k2:∀b o,hh.get? b=some o→(s₁.heap.push { cls:=.type "dict",data:=.dict #[] }).get? b=some o:=fun b o e=>Heap.get?_push_of_some _ (keep b o e)
 have no:∀n,h0.objs.size≤n→h0.get? n=none:=fun n h=>by
  cases q:h0.get? n with
  | none=>rfl
  | some o=>exact absurd (Heap.lt_size q) (Nat.not_lt.mpr h)
 have Fr2:Fr h0 cenv.locals (s₁.heap.push { cls:=.type "dict",data:=.dict #[] }) m:=⟨hns.keeps (fun b o e=>Heap.get?_push_of_some _ e),fun b o e=>k2 _ _ (k1 _ _ e),by rw[hL];trivial⟩
 have N2:News h0 cenv.locals (s₁.heap.push { cls:=.type "dict",data:=.dict #[] }) [(x,instObj C h0.objs.size),(h0.objs.size,dictOf [] 0)]:=by
  intro q hq
  rcases List.mem_cons.mp hq with hq | hq
  ·rw[hq];exact⟨k2 _ _ gx,by rw[hL,hx];exact Nat.ne_of_lt (Nat.lt_succ_self _),no _ (hx ▸ Nat.le_succ _)⟩
  ·rw[List.mem_singleton.mp hq];exact⟨k2 _ _ gdx,by rw[hL];exact Nat.ne_of_lt (show h0.objs.size<h0.objs.size+2 by trivial),no _ (Nat.le_refl _)⟩
 refine set_dict (K:=K) (dx:=h0.objs.size) (es := []) (n:=0) (x:=x) (C:=C) (ox:=instObj C h0.objs.size) Fr2 KI N2 ⟨(N2 _ (List.mem_cons_self)).1,rfl,rfl,(N2 _ (List.mem_cons_of_mem _ List.mem_cons_self)).1⟩ rfl M.seta M.plain M.taker M.hasd rfl rfl
  (Upd.tail (by show x≠h0.objs.size;rw[hx];exact Nat.succ_ne_self _) (Upd.head (fun ω h=>nomatch h))) (show 1≤1000 by decide) fun h' F' N' => ?_
 have n1:=N' _ List.mem_cons_self
 have n2:=N' _ (List.mem_cons_of_mem _ List.mem_cons_self)
 exact wpAny_execs_nil (fin h' _ (fun b o e=>F'.keep b o e) ⟨_,n2.1,rfl⟩ n2.2.2 n1.1 n1.2.2)
theorem HI{K:Frag}{C fI fS:Addr}{fdI fdS:FuncData}{p1 p2 p3 p4:Pos}(U:kq X k)(M:tG X K C fI fS fdI fdS p1 p2 p3 p4):a8 X k (.ref C) (Iw C):=by
 refine⟨?_⟩
 intro A Z ρ σ s c l vs r av σ' e Q E p
 refine uR e fun hl e => ?_
 rw[hl]at r
 rw[ag.nil_iff.mp r]
 replace p:=p.of e
 obtain⟨hh,g,d,t,os⟩:=s
 have KI:K.In hh:=fun a o e=>c.inv.base _ _ (M.inn a o e)
 refine wpAny_call (make_core (makes_of KI M.makes) (looks_findIn KI M.init) (fun self=>bind_fn KI self M.fnI) (.inl rfl) ?_)
 have k1:∀b o,hh.get? b=some o→((hh.push emptyDict).push (instObj C hh.objs.size)).get? b=some o:=fun b o e=>Heap.get?_push_of_some _ (Heap.get?_push_of_some _ e)
 have k0:∀b o,X.H₀.get? b=some o→((hh.push emptyDict).push (instObj C hh.objs.size)).get? b=some o:=fun b o e=>k1 _ _ (c.inv.base _ _ e)
 have sz1:(hh.push emptyDict).objs.size=hh.objs.size+1:=Heap.size_push _ _
 have sz2:((hh.push emptyDict).push (instObj C hh.objs.size)).objs.size=hh.objs.size+2:=by rw[Heap.size_push,sz1]
 have gdx:((hh.push emptyDict).push (instObj C hh.objs.size)).get? hh.objs.size=some emptyDict:=Heap.get?_push_of_some _ (Heap.get?_push_size _ rfl)
 have gx:((hh.push emptyDict).push (instObj C hh.objs.size)).get? (hh.objs.size+1)=some (instObj C hh.objs.size):=by rw[← sz1];exact Heap.get?_push_size _ rfl
 obtain⟨o,ho,hd⟩:=M.FI.obj
 refine lx (binds := [("self",.ref (hh.objs.size+1))]) ?_ (k0 _ _ ho) hd (M.FI.lim.keeps k0) (M.FI.code.keeps k0) M.FI.body (M.FI.bind [.ref (hh.objs.size+1)] rfl) M.FI.clo ?_ (fun s₁ I hfc => ?_) M.FI.co M.FI.gen M.FI.kind
 ·have h1:=c.dep;have h2:=U.2
  rw[depth_under_kw]
  trivial
 ·intro x hx
  rw[List.mem_singleton.mp hx]
  exact .inl M.self
 ·have kd:(callEnvC fdI ((hh.push emptyDict).push (instObj C hh.objs.size)).objs.size fI).kindOf (Str.ofString "self")=some .local:=M.self
  have hm:bindL (callEnvC fdI ((hh.push emptyDict).push (instObj C hh.objs.size)).objs.size fI).kindOf [(Str.ofString "self",Value.ref (hh.objs.size+1))] (fun x=>none) (Str.ofString "self")=some (.ref (hh.objs.size+1)) :=
   pz (List.nodup_cons.mpr ⟨List.not_mem_nil,List.nodup_nil⟩) (List.mem_cons_self) kd
  refine AY M KI M.FI.kind kd hm I.toInCall.ns I.toInCall.keep k1 rfl gx gdx sz2 fun h' tk' keep hod dn gi xn => ?_
  obtain⟨h₁,tk,es₁⟩:=I.toInCall.same
  obtain⟨od,g1,g2⟩:=hod
  refine⟨rfl,?_⟩
  rw[es₁]
  refine p.grow (P:=fun a=>a=hh.objs.size+1∨a=hh.objs.size) c.inv keep ?_ ?_
  ·intro a ha
   rcases ha with ha | ha
   ·rw[ha];exact⟨xn,by rw[gi];exact fun e=>nomatch e⟩
   ·rw[ha];exact⟨dn,by rw[g1];exact fun e=>nomatch e⟩
  ·show ∃_,_
   exact⟨_,_,_,rfl,.inr (.inl rfl),.inr (.inr rfl),gi,g1,g2⟩
theorem GW{K:Frag}{C fI fS:Addr}{fdI fdS:FuncData}{p1 p2 p3 p4:Pos}{x:Str}{p pos:Pos}(U:kq X k)(M:tG X K C fI fS fdI fdS p1 p2 p3 p4)(G:bo X x (.ref C))(hh:sA sc x=true:=by decide +kernel)
   : bu X k sc vis (.Call (.Name x p) [] [] pos) (mK (.inst C)):=by
 obtain⟨hk,hd⟩:=jT hh
 refine⟨?_⟩
 intro A env Z ρ σ η s c av σ' e Q E p
 have hk':env.kindOf x=some .globalImplicit:=by unfold Env.kindOf;rw[c.sc];exact hk
 refine wpAny_Call_NameR (wpAny_Name ?_ hd)
 rw[PyProof.Rows.loadName_read c.e.kind hk']
 refine G _ _ _ _ _ c.e.glob c.e.bltn c.c.inv.base ?_
 refine callWith_K0 (K:=K) (fun a o e=>c.c.inv.base _ _ (M.inn a o e)) M.keep ?_
 exact(HI U M).run A Z ρ σ s c.c [] [] (ag.nil_iff.mpr rfl) av σ' e Q E p
noncomputable def og(C:Addr)(m:ME)(r:ML)(op:eB):ME:=fun η σ=>oB (m η σ) fun a σ=>vH a fun D=>if D=C then oB (r η σ) fun l σ=>op (.inst C::l) σ else none
theorem uJ{o:Expr}{env:Env}{apos pos:Pos}(h:(apos.endLine==pos.line)=true):methodCallPos true o env apos pos=pure pos:=by unfold methodCallPos;simp[h]
theorem GU{K:Frag}{C fI fS:Addr}{fdI fdS:FuncData}{p1 p2 p3 p4:Pos}{o:Expr}{apos pos:Pos}{es:List Expr}{m:ME}{r:ML}{op:eB}(M:tG X K C fI fS fdI fdS p1 p2 p3 p4)
  (ok:a8 X k (.ref fS) op) (hm:bu X k sc vis o m) (hr:iT X k sc vis es r)
  (hbase:∀env,attributeBase o "is_suburi" env (eval o env)=eval o env:=by intro _;rfl) (hp:∀env,(backTo pos (starEach es env)).any (·.1)=false:=by intro _;rfl)
  (hfew:∀env,((backTo pos (starEach es env)).all (fun x => !x.1)&&(backToKw pos (keywordEach [] env)).all (fun x=>x.1.isSome)&&decide (es.length+([]:List Keyword).length+(if([]:List Keyword).isEmpty then 0 else 1)<30))=true:=by intro _;rfl)
  (hline:(apos.endLine==pos.line)=true:=by rfl):bu X k sc vis (.Call (.Attribute o "is_suburi" apos) es [] pos) (og C m r op):=by
 refine⟨?_⟩
 intro A env Z ρ σ η s c av σ' e Q E p
 refine aD e fun a' σ₁ h1 e => ?_
 rw[arm_eval_Call,hbase]
 refine wpAny_bind (hm.run A env Z ρ σ η s c _ _ h1 _ _ fun Z₁ ρ₁ v₁ s₁ i₁ y₁ r₁ => ?_)
 refine yu (P:=fun a'=>aq X ρ₁ Z₁ s₁.heap a' v₁→_) e (fun D e r₁ => ?_) r₁
 refine dh e fun hD e=>aD e fun l σ₂ h2 e => ?_
 rw[hD]at r₁
 have r₁':=r₁
 obtain⟨a,dx,od,hv,_,_,ga,gd,hsh⟩:=r₁
 rw[hv]at r₁' ⊢
 refine wpAny_bind (wpAny_standAt ?_)
 have hform:methodCallForm (es.length+([]:List Keyword).length) (backTo pos (starEach es env)) (backToKw pos (keywordEach [] env))=true:=hfew env
 unfold methodCall
 rw[hform]
 have K1:K.In s₁.heap:=fun a o e=>i₁.base _ _ (M.inn a o e)
 refine wpAny_bind (wpAny_holding (method_fn K1 (x:=a) (ox:=instObj C dx) (od:=some od) ⟨ga,rfl,rfl,gd⟩ M.ga M.noga M.meth M.fnS hsh ?_))
 refine wpAny_bind (wpAny_of_eq (uJ hline) ?_)
 obtain⟨of,hof,hfd⟩:=M.fobj
 refine PySem.Calls.callWith_function (o:=of) (fd:=fdS) (dT (hp env) (hr.run A env Z₁ ρ₁ σ₁ η s₁ pos (c.next i₁ y₁) _ _ h2 _ _ fun Z₂ ρ₂ vs₂ s₂ i₂ y₂ r₂=>⟨⟨i₂.base _ _ hof,hfd⟩,?_⟩))
 exact ok.run A Z₂ ρ₂ σ₂ s₂ ((c.next i₁ y₁).next i₂ y₂).c (.inst C::l) (.ref a::vs₂) (ag.cons (r₁'.ext y₂) r₂) _ _ e _ _ ((p.pass y₁).pass y₂)
end
end
section
section
variable{X:Cx}{k:Nat}{sc:Scope}{vis:List (Str×Nat)}{A:Around}{env cenv:Env}{Z:Addr→Prop}{ρ:List Addr}{σ:St}{η:be}{s:Shared}
theorem aH{own:List Nat}{i:Nat}(a:AV)(h:own.contains i=true:=by decide):i6 own (aV i a):=by
 intro η σ η' σ' e j hj
 refine dh e fun ω e => ?_
 have:i≠j:=fun q=>by rw[← q,h]at hj;exact Bool.noConfusion hj
 rw[← show _=η' from congrArg Prod.fst (Option.some.inj e),List.getElem?_set_ne this]
noncomputable def wX(own:List Nat)(r:List AV→aA):Prop:=∀l,i6 own (r l)
theorem Di{own:List Nat} : wX own io:=by
 intro l η σ η' σ' e j hj
 refine uR e fun ω e => ?_
 rw[← show _=η' from congrArg Prod.fst (Option.some.inj e)]
theorem rY{own:List Nat}{m:AV→aA}{r:List AV→aA}(hm:∀a,i6 own (m a))(hr:wX own r):wX own (bJ m r):=by
 intro l η σ η' σ' e j hj
 refine uS (P:=fun ω=>η'[j]? = η[j]?) e fun x xs e=>aD e fun η₁ σ₁ h1 e => ?_
 rw[hr _ _ _ _ _ e j hj,hm _ _ _ _ _ h1 j hj]
theorem sg{own:List Nat}{α:Type}{t:α→aA}(h:∀a,i6 own (t a)){xs:List α}{bs:List aA}{σ σ':St}(e:some (xs.map t,σ)=some (bs,σ')):∀b∈bs,i6 own b:=by
 intro b hb
 rw[← show _=bs from congrArg Prod.fst (Option.some.inj e)]at hb
 obtain⟨a,_,q⟩:=List.mem_map.mp hb
 rw[← q];exact h a
theorem bb{own:List Nat}{m:ME}{t:AV→aA}(h:∀a,i6 own (t a)):kH own (aN m t):=by
 intro η σ bs σ' e
 exact aD e fun a σ₁ ω e=>aG e fun xs ω e=>sg h e
theorem Dk{own:List Nat}{m:ME}{r:List AV→aA}(h:wX own r):kH own (m8 m r):=by
 intro η σ bs σ' e
 exact aD e fun a σ₁ ω e=>qL (P:=fun ω=>∀b∈bs,i6 own b) e fun xs e=>sg h e
theorem o0:iU "list" "append" "list.append" := ⟨F.plainAttrs_list,F.slot_list_append,F.type_list_append⟩
theorem wo:iU "str" "find" "str.find" := ⟨F.plainAttrs_str,F.slot_str_find,F.type_str_find⟩
theorem sf:iU "str" "split" "str.split" := ⟨F.plainAttrs_str,F.slot_str_split,F.type_str_split⟩
theorem xA:iU "str" "startswith" "str.startswith" := ⟨F.plainAttrs_str,F.slot_str_startswith,F.type_str_startswith⟩
theorem wn:iU "str" "join" "str.join" := ⟨F.plainAttrs_str,F.slot_str_join,F.type_str_join⟩
theorem oY:iU "str" "encode" "str.encode" := ⟨F.plainAttrs_str,F.slot_str_encode,F.type_str_encode⟩
theorem xC:iU "bytes" "decode" "bytes.decode" := ⟨FB.plainAttrs_bytes,FB.slot_bytes_decode,FB.type_bytes_decode⟩
theorem AB:iU "bytes" "split" "bytes.split" := ⟨FB.plainAttrs_bytes,gU,rk⟩
theorem Aw:iU "re.Pattern" "match" "re.Pattern.match" := ⟨FO,i9,tR⟩
theorem Ax:iU "re.Match" "group" "re.Match.group" := ⟨Dd,ja,tT⟩
structure iV(X:Cx)(a:Addr)(body:List Stmt)(sc:Scope)(ps:List Str):Prop where
 at_:∃fd,pG X a fd body ps∧fd.scope=sc
noncomputable def Fv{β:Type}(d:β)(f:List Stmt→Scope→β)(c:List Stmt→β)(s:Option Stmt):β:=s.elim d fun s=>Stmt.casesOn (motive_2:=fun ω=>β) s (fun ω ω b ω ω ω sc ω ω ω=>f b sc) (fun ω ω ω ω ω ω ω ω ω ω=>d) (fun ω ω ω b ω ω ω ω ω ω ω=>c b) (fun ω ω=>d) (fun ω ω=>d) (fun ω ω ω=>d) (fun ω ω ω ω ω ω ω=>d) (fun ω ω ω ω=>d) (fun ω ω ω ω ω=>d) (fun ω ω ω ω ω=>d) (fun ω ω ω ω ω=>d) (fun ω ω ω ω=>d) (fun ω ω ω ω=>d) (fun ω ω ω=>d) (fun ω ω ω=>d) (fun ω ω ω=>d) (fun ω ω ω=>d) (fun ω ω ω ω ω=>d) (fun ω ω ω ω ω=>d) (fun ω ω ω=>d) (fun ω ω=>d) (fun ω ω ω ω=>d) (fun ω ω=>d) (fun ω ω=>d) (fun ω ω=>d) (fun ω=>d) (fun ω=>d) (fun ω=>d)
noncomputable def cy(p:Program)(i:Nat):List Stmt:=Fv [] (fun b ω=>b) (fun ω => []) p.main.body[i]?
noncomputable def bH(p:Program)(i:Nat):Scope:=Fv default (fun ω sc=>sc) (fun ω=>default) p.main.body[i]?
noncomputable def EY(p:Program)(i:Nat):List Stmt:=Fv [] (fun ω ω => []) id p.main.body[i]?
noncomputable def Au(p:Program)(i j:Nat):List Stmt:=Fv [] (fun b ω=>b) (fun ω => []) (EY p i)[j]?
noncomputable def wm(p:Program)(i j:Nat):Scope:=Fv default (fun ω sc=>sc) (fun ω=>default) (EY p i)[j]?
theorem ol{a:Addr}{body:List Stmt}{ps:List Str}{N:Nat}{m:MS}(U:kq X k)(F:iV X a body sc ps)(ok:nc sc vis ps N=true)(hB:fw X (k+1) sc vis body m):a8 X k (.ref a) (jh ps.length N m):=by
 obtain⟨fd,F',rfl⟩:=F.at_
 exact HN U F' ok hB
theorem HO{a:Addr}{body:List Stmt}{ps:List Str}{N:Nat}{m:MS}(U:kq X k)(F:iV X a body sc ps)(ok:nc sc vis ps N=true)(hB:fw X (k+1) sc vis body m):pH X k (.ref a) (wh ps.length N m):=by
 obtain⟨fd,F',rfl⟩:=F.at_
 exact Gm U F' ok hB
theorem dL{x:Str}{p pos:Pos}{es:List Expr}{a:Addr}{body:List Stmt}{scf:Scope}{ps:List Str}{r:ML}{op:eB}(G:bo X x (.ref a))(F:iV X a body scf ps)(ok:a8 X k (.ref a) op)(hr:iT X k sc vis es r)(hh:sA sc x=true:=by decide +kernel)
   (hp:∀env,(backTo pos (starEach es env)).any (·.1)=false:=by intro _;rfl):bu X k sc vis (.Call (.Name x p) es [] pos) (au r op):=by
 obtain⟨fd,F,_⟩:=F.at_
 obtain⟨o,h1,h2⟩:=F.obj
 exact C0 G ⟨o,h1,h2⟩ ok hr hh hp
noncomputable def Cb(X:Cx)(K:Frag)(C fS:Addr):Prop:=∃fI fdI fdS p1 p2 p3 p4,tG X K C fI fS fdI fdS p1 p2 p3 p4
theorem FA{K:Frag}{C fS:Addr}{x:Str}{p pos:Pos}(U:kq X k)(M:Cb X K C fS)(G:bo X x (.ref C))(hh:sA sc x=true:=by decide +kernel)
   : bu X k sc vis (.Call (.Name x p) [] [] pos) (mK (.inst C)):=by
 obtain⟨_,_,_,_,_,_,_,M⟩:=M
 exact GW U M G hh
theorem ub{K:Frag}{C fS:Addr}{o:Expr}{apos pos:Pos}{es:List Expr}{m:ME}{r:ML}{op:eB}(M:Cb X K C fS)
  (ok:a8 X k (.ref fS) op) (hm:bu X k sc vis o m) (hr:iT X k sc vis es r)
  (hbase:∀env,attributeBase o "is_suburi" env (eval o env)=eval o env:=by intro _;rfl) (hp:∀env,(backTo pos (starEach es env)).any (·.1)=false:=by intro _;rfl)
  (hfew:∀env,((backTo pos (starEach es env)).all (fun x => !x.1)&&(backToKw pos (keywordEach [] env)).all (fun x=>x.1.isSome)&&decide (es.length+([]:List Keyword).length+(if([]:List Keyword).isEmpty then 0 else 1)<30))=true:=by intro _;rfl)
  (hline:(apos.endLine==pos.line)=true:=by rfl):bu X k sc vis (.Call (.Attribute o "is_suburi" apos) es [] pos) (og C m r op):=by
 obtain⟨_,_,_,_,_,_,_,M⟩:=M
 exact GU M ok hm hr hbase hp hfew hline
theorem t6{K:Frag}(U:kq X k)(KA:Ig X K){f x n:Str}{fp cpos rpos np spn npn scp tp rp hp pos:Pos}{es:List Expr}{kd:Nat}{a:Addr}{body:List Stmt}{scf:Scope}{ps:List Str}{r:ML}{op:vQ}(G:bo X f (.ref a))(F:iV X a body scf ps)(ok:pH X k (.ref a) op)(hr:iT X k sc vis es r)
  (GX:bo X x (.ref X.exc)) (O:tH X x) (GS:bo X "str" (.type "str"))
  (hkf:sc.names.lookup f=some .globalImplicit:=by decide +kernel) (hkx:sc.names.lookup x=some .globalImplicit:=by decide +kernel) (hks:sc.names.lookup ("str" : Str)=some .globalImplicit:=by decide +kernel)
  (hkn:sc.names.lookup n=some .local:=by decide +kernel) (hvn:vis.lookup n=none:=by decide +kernel) (hdot:sc.names.lookup (".0" : Str)=none:=by decide +kernel)
  (hdf:(f==("__debug__" : Str))=false:=by decide +kernel) (hdx:(x==("__debug__" : Str))=false:=by decide +kernel) (hdn:(n==("__debug__" : Str))=false:=by decide +kernel)
  (hpl:∀env,(backTo cpos (starEach es env)).any (·.1)=false:=by intro _;rfl) :
  ku X k sc vis (.Try [.Return (some (.Call (.Name f fp) es [] cpos)) rpos] [.ExceptHandler (some (.Name x np)) (some n) [.Return (some (.Tuple [.Call (.Name "str" spn) [.Name n npn] [] scp] kd tp)) rp] hp] [] [] pos) (FD r op):=by
 obtain⟨fd,F,_⟩:=F.at_
 obtain⟨o,h1,h2⟩:=F.obj
 exact xd U KA G ⟨o,h1,h2⟩ ok hr GX O GS hkf hkx hks hkn hvn hdot hdf hdx hdn hpl
end
end
section
section
variable{X:Cx}{K:Frag}
theorem look_ns{h:Heap}{a:Addr}{m:Str→Option Value}{o:Obj}{x:Str}{r:Option Value}(N:h.Ns a m)(ho:h.get? a=some o)(e:lookIn x o=some r):m x=r:=by
 obtain⟨o',es,ep,ho',hd,_,hf⟩:=N
 rw[ho]at ho';cases ho'
 rw[← hf x]
 unfold lookIn at e
 rw[hd]at e
 dsimp only at e
 unfold nsFind findBy
 split at e
 ·rename_i en he
  cases e
  rw[← Array.find?_toList,he];rfl
 ·rename_i he
  split at e
  ·cases e
  ·cases e
   rw[← Array.find?_toList,he];rfl
theorem bR{x:Str}{v:Value}{mg:Str→Option Value}{o:Obj}(N:X.H₀.Ns mainGlobals mg)(KI:K.In X.H₀)(ho:K.lookup mainGlobals=some o)(e:lookIn x o=some (some v)):bo X x v:=by
 intro A env s Q E hg hb hk hq
 have hm:=look_ns N (KI _ _ ho) e
 have N':s.heap.Ns env.globals mg:=by rw[hg];exact N.keeps hk
 exact Calls.loadGlobal_global N' hm hq
theorem di{x:Str}{v:Value}{mg mb:Str→Option Value}{o:Obj}(N:X.H₀.Ns mainGlobals mg)(B:X.H₀.Ns builtinsNs mb)(KI:K.In X.H₀)(ho:K.lookup mainGlobals=some o)(e:lookIn x o=some none)(hv:mb x=some v):bo X x v:=by
 intro A env s Q E hg hb hk hq
 have hm:=look_ns N (KI _ _ ho) e
 have N':s.heap.Ns env.globals mg:=by rw[hg];exact N.keeps hk
 have B':s.heap.Ns env.builtins mb:=by rw[hb];exact B.keeps hk
 exact Calls.loadGlobal_builtin N' hm B' hv hq
theorem sC{a:Addr}{o:Obj}{fd:FuncData}{body:List Stmt}{ps:List Str}(KI:K.In X.H₀)(lim:X.H₀.NoLimit)(ho:K.lookup a=some o)(hd:o.data=.func fd)(hb:fd.body=.stmts body)
  (hcd:codeIn K fd.code fd.qualname=true) (hclo:fd.closure = []) (hco:fd.scope.isCoroutine=false) (hgen:fd.scope.isGenerator=false) (hk:fd.scope.kind=.function) (hg:fd.globals=mainGlobals) (hbn:fd.builtins=builtinsNs)
  (hbind:∀vals:List Value,vals.length=ps.length→bindArgs fd ⟨vals,[]⟩=pure (ps.zip vals)):pG X a fd body ps :=
 ⟨⟨o,KI _ _ ho,hd⟩,lim,codeRec_of KI hcd,hb,hclo,hco,hgen,hk,hg,hbn,hbind⟩
theorem DE{P:List Value→Prop}{n:Nat}(h:∀a r,r.length=n→P (a::r))(vals:List Value)(e:vals.length=n+1):P vals:=by
 cases vals with
 | nil=>exact nomatch e
 | cons a r=>exact h a r (Nat.succ.inj e)
theorem IA{P:List Value→Prop}(h:P [])(vals:List Value)(e:vals.length=0):P vals:=List.length_eq_zero_iff.mp e ▸ h
theorem uP{P:List Value→Prop}(h:∀a,P [a]):∀vals:List Value,vals.length=1→P vals:=DE fun a=>IA (h a)
theorem Ho{P:List Value→Prop}(h:∀a b,P [a,b]):∀vals:List Value,vals.length=2→P vals:=DE fun a=>uP (h a)
theorem DF{P:List Value→Prop}(h:∀a b c,P [a,b,c]):∀vals:List Value,vals.length=3→P vals:=DE fun a=>Ho (h a)
theorem Hn{P:List Value→Prop}(h:∀a b c d,P [a,b,c,d]):∀vals:List Value,vals.length=4→P vals:=DE fun a=>DF (h a)
theorem dR{a:Addr}{o:Obj}{fd:FuncData}{body:List Stmt}{sc:Scope}{ps:List Str}(KI:K.In X.H₀)(lim:X.H₀.NoLimit)(ho:K.lookup a=some o)(hd:o.data=.func fd)(hb:fd.body=.stmts body)(hs:fd.scope=sc)
  (hcd:codeIn K fd.code fd.qualname=true) (hclo:fd.closure = []) (hco:fd.scope.isCoroutine=false) (hgen:fd.scope.isGenerator=false) (hk:fd.scope.kind=.function) (hg:fd.globals=mainGlobals) (hbn:fd.builtins=builtinsNs)
  (hbind:∀vals:List Value,vals.length=ps.length→bindArgs fd ⟨vals,[]⟩=pure (ps.zip vals)):iV X a body sc ps :=
 ⟨fd,sC KI lim ho hd hb hcd hclo hco hgen hk hg hbn hbind,hs⟩
theorem Gd{p:Program}{loose:List Str}{mean:ExcName→Option Value}{mg mb:Str→Option Value}{o:Obj}{x:Str}(T:Top p loose mean mg mb X.H₀)(KI:K.In X.H₀)(ho:K.lookup mainGlobals=some o)(e:lookIn x o=some (some (.ref X.exc)))
  (hs:(ownsOf p).any (fun q=>q.name==x&&(q.newId == "Exception.__new__" && q.bm == [.type "Exception",.type "BaseException",.type "object"]))=true):tH X x:=by
 obtain⟨q,hq,hh⟩:=List.any_eq_true.mp hs
 simp only[Bool.and_eq_true,beq_iff_eq]at hh
 obtain⟨h1,h2,h3⟩:=hh
 obtain⟨C,OC,_⟩:=T.own q hq
 have hm:=look_ns T.g (KI _ _ ho) e
 have hb:=OC.bound
 rw[h1,hm]at hb
 cases hb
 rw[h1,h2,h3]at OC
 exact⟨mg,_,_,_,_,_,_,_,_,OC,F.excBase_Exception,by decide +kernel,F.excBase_Exception⟩
theorem join_law{prog:Program}{w:World}{s₁:Shared}{fa exc pat:Addr}{lo:∃b o,s₁.heap.get? b=some o∧sysModules<b}{pk:∃ob,s₁.heap.get? pat=some ob∧ob.cls=.type "re.Pattern" ∧ ob.dict=none}{ns:List Int}{l:Addr}{vs:List Value}{op:eB}{σ':St}
  (hl:s₁.heap.IsList l vs.toArray) (hI:IntsAre vs ns) (ok:a8 ⟨prog,w,s₁.heap,callerA.depth,callerA.units,exc,pat,lo,pk⟩ 0 (.ref fa) op) (hop:op [.script ns] []=some (.bool true,σ'))
  {Q:Value→Shared→Prop} {E:Value→Shared→Prop} (hQ:∀s':Shared,(∀b o,s₁.heap.get? b=some o→s'.heap.get? b=some o)→s'.os=s₁.os→s'.gens=s₁.gens→Q (.bool true) s') :
  wpAny (model prog w) callerA (call (.ref fa) [.ref l]) Q E s₁:=by
 refine ok.run callerA (fun ω=>False) [] [] s₁ ⟨rfl,Nat.le_refl _,Nat.le_refl _,⟨[],rfl,⟨fun ω h=>nomatch h⟩⟩,⟨fun ω ω e=>e,fun ω f=>f.elim,rfl,List.nodup_nil,(fun ω h=>nomatch h),(fun n a c h=>by simp at h)⟩⟩
  [.script ns] [.ref l] (ag.cons (by show ∃_,_;exact⟨l,vs,rfl,hl,hI⟩) (ag.nil_iff.mpr rfl)) _ _ hop Q E ?_
 intro Z' ρ' v s' i y r
 change _=_ at r
 subst r
 exact hQ s' (fun b o e=>i.base b o e) y.os y.gens
theorem Dc{prog:Program}{w:World}{h:Heap}{d:Addr}{t tk:Tok}{n:Nat}(ho:h.get? d=some { cls:=.type "dict",data:=.dict #[⟨PyData.keyHash w.params (Str.ofString "flags"),.str (Str.ofString "flags") t,.int 1 tk⟩] n }) :
  h.MapOf (PySem.strKind prog w) d (fun k=>if k=Str.ofString "flags" then some (.int 1 tk)else none):=by
 refine⟨_,_,_,ho,⟨rfl,rfl,rfl⟩,rfl,?_,?_⟩
 ·intro e he
  have he':e=⟨PyData.keyHash w.params (Str.ofString "flags"),.str (Str.ofString "flags") t,.int 1 tk⟩:=by simpa using he
  subst he'
  refine⟨Str.ofString "flags",by show Value.isStrOf (Str.ofString "flags") (.str (Str.ofString "flags") t)=true;simp[Value.isStrOf],?_⟩
  rfl
 ·intro k
  unfold findBy
  show Option.map _ (Array.find? (fun(e:DictEntry)=>Value.isStrOf k e.key) #[_])=_
  dsimp only
  by_cases h:k=Str.ofString "flags"
  ·rw[if_pos h];subst h;simp[Value.isStrOf]
  ·rw[if_neg h]
   have:Value.isStrOf k (.str (Str.ofString "flags") t)=false:=by simp[Value.isStrOf];exact fun e=>h e.symm
   simp[this]
theorem HF{prog:Program}{w:World}{H₀:Heap}{exc pat:Addr}{lo pk}(j:Nat)(h:j≤60):kq ⟨prog,w,H₀,callerA.depth,callerA.units,exc,pat,lo,pk⟩ j:=by
 have c1:callerA.units=4:=rfl
 have c2:cLine=9900:=rfl
 have c3:callerA.depth≤800:=by decide
 have c4:recursionLimit=1000:=rfl
 refine⟨?_,?_⟩
 ·show callerA.units+8 * j+64<cLine;trivial
 ·show callerA.depth+j+100<recursionLimit;trivial
end
end
section
open SeqAt
section
variable{X:Cx}{k:Nat}{sc:Scope}{vis:List (Str×Nat)}{A:Around}{env:Env}{Z:Addr→Prop}{ρ:List Addr}{σ:St}{η:be}{s:Shared}
theorem bL.cellAdd{D:Addr}{c:aO}(i:bL X Z ρ σ s)(f:db X Z ρ D)(hl:s.heap.get? D≠none)(hsys:(D==sysModules)=false)(r:dc X ρ Z s.heap c D):bL X Z (ρ ++ [D]) (σ ++ [c]) s where
 base:=i.base
 fr:=i.fr
 len:=by simp[i.len]
 nd:=by
  rw[List.nodup_append]
  refine⟨i.nd,by simp,fun x hx y hy => ?_⟩
  simp at hy;subst hy
  rintro rfl
  exact f.2.1 hx
 old:=fun b m=>by
  rcases List.mem_append.mp m with m | m
  ·exact i.old b m
  ·simp at m;subst m
   refine⟨?_,f.2.2,hsys⟩
   cases q:s.heap.get? b with
   | none=>exact absurd q hl
   | some o=>exact⟨o,rfl⟩
 cells:=fun m b d h1 h2=>by
  rcases Nat.lt_trichotomy m ρ.length with hm | hm | hm
  ·rw[List.getElem?_append_left hm]at h1
   rw[List.getElem?_append_left (by rw[← i.len];exact hm)]at h2
   exact(i.cells m b d h1 h2).mono (fun x o' ω e=>e) (fun ω f=>f) (List.prefix_append _ _) (fun o' e=>e) id
  ·subst hm
   rw[List.getElem?_append_right (Nat.le_refl _)]at h1
   rw[List.getElem?_append_right (by rw[i.len];exact Nat.le_refl _)]at h2
   simp[i.len]at h1 h2
   subst h1 h2
   exact r.mono (fun x o' ω e=>e) (fun ω f=>f) (List.prefix_append _ _) (fun o' e=>e) id
  ·rw[List.getElem?_eq_none (by simp;trivial)]at h1;cases h1
theorem a9.cellAdd{T Z' ρ' s'}{D:Addr}(y:a9 T Z ρ s Z' ρ' s')(hn:s.heap.get? D=none):a9 T Z ρ s Z' (ρ' ++ [D]) s' :=
 { y with
  rho:=y.rho.trans (List.prefix_append _ _)
  rnew:=fun b m=>by
   rcases List.mem_append.mp m with m | m
   ·exact y.rnew b m
   ·simp at m;subst m;exact .inr hn }
noncomputable def hM(own:List Nat)(mi:MI)(mB:MG):ME:=fun η σ=>oB (eQ own mi mB η σ (.list [])) fun σ c=>Ie c fun l=>some (.cell σ.length,σ ++ [.list l])
theorem gn{Z':Addr→Prop}{ρ':List Addr}{σ':St}{h:Heap}{D:Addr}(i:ρ'.length=σ'.length):aq X (ρ' ++ [D]) Z' h (.cell σ'.length) (.ref D):=by
 show ∃_,_;exact⟨D,by rw[← i];simp,rfl⟩
theorem zH{elt target iter:Expr}{ifs:List Expr}{gs:List Comprehension}{scope:Scope}{pos:Pos}{mi:MI}{mB:MG}(vis2:List (Str×Nat))(own:List Nat)(ok:ic sc scope vis vis2 own=true)
  (hI:ow X k sc vis (eO scope sc) vis2 iter target mi) (hO:kH own mi) (hB:nN X k (eO scope sc) vis2 (.ListComp elt (⟨target,iter,ifs,0⟩::gs) scope pos) (⟨target,iter,ifs,0⟩::gs) ifs 0 mB)
  (hs:∀env x,foldedSetIterable iter env x=pure x:=by intro _ _;rfl):bu X k sc vis (.ListComp elt (⟨target,iter,ifs,0⟩::gs) scope pos) (hM own mi mB):=by
 refine⟨?_⟩
 intro A env Z ρ σ η s c av σ' e Q E p
 refine aD e fun σ₁ c' h1 e => ?_
 refine kj (P:=fun c'=>eQ own mi mB η σ (.list [])=some (σ₁,c')→_) e (fun l e h1 => ?_) h1
 replace p:=p.of e
 refine gh (g:=⟨target,iter,ifs,0⟩) (use:=none) (.list ..) rfl hs fA ok hI hO hB c h1 fun Z' ρ' s' D C i y r fD dD lD fC dC hm hCD hsys=>hm.imp fun m hm=>⟨hm,fun h' hs' => ?_⟩
 have hk:∀b o,¬ (b=C)→s'.heap.get? b=some o→h'.get? b=some o:=fun b o hb e=>(hs'.2 b hb).trans e
 have i1:bL X Z' ρ' σ₁ { s' with heap:=h' } := i.touch (W:=fun a=>a=C) (tk:=s'.toks) hk fun a q=>q ▸ fC
 have y1:a9 T0 Z ρ s Z' ρ' { s' with heap:=h' } := a9.last (X:=X) (W:=fun a=>a=C) (tk:=s'.toks) (y.weaken fun ω f=>f.elim) hk fun a q=>q ▸ dC
 have r1:dc X ρ' Z' h' (.list l) D:=r.mono (fun a o f e=>hk a o (fun q=>fC.1 (q ▸ f)) e) (fun ω f=>f) List.prefix_rfl (fun o e=>hk D o (Ne.symm hCD) e) id
 exact p _ _ _ _ (i1.cellAdd fD (mw (fun o e=>hk D o (Ne.symm hCD) e) lD) hsys r1) (y1.cellAdd dD) (gn i.len)
theorem rA{x:Str}{pos':Pos}{b:AV→aA}{η₁:be}{σ₂ σ₃:St}{av:AV}{Z':Addr→Prop}{ρ':List Addr}{s':Shared}{D C:Addr}{Q:Flow→Shared→Prop}{E:Value→Shared→Prop}(ht:kB X k sc vis (.Name x pos') b)(c:EC X k sc vis A env Z ρ σ η s)(p:iq X Z ρ s env vis .next η₁ σ₃ Q E)
  (i1:bL X Z' ρ' σ₂ s') (y1:a9 T0 Z ρ s Z' ρ' s') (rv:aq X ρ' Z' s'.heap av (.ref D)) (fC1:db X Z' ρ' C) (dC:s.heap.get? C=none) (hC:∃m,s'.heap.Ns C m)
  (h2:b av η σ₂=some (η₁,σ₃)) {E':Value→Shared→Prop} :
  wpAny (model X.prog X.w) A (assign (.Name x pos') env (.ref D)) (fun ω s'=>∃m,s'.heap.Ns C m∧∀h',Heap.SameBut C s'.heap h'→Q .next { s' with heap:=h' }) E' s':=by
 refine ht.run A env _ ρ' _ η s' (c.next i1 y1) av (.ref D) rv _ _ h2 _ _ fun Z₂ ρ₂ s₂ i₂ y₂ e₂ => ?_
 obtain⟨m,hm⟩:=hC
 have lC:s'.heap.get? C≠none:=cM hm
 have tC : ¬ gN vis env C:=fun t=>dA c.e t.own dC
 refine⟨m,f5 (fun o e=>y₂.keep C o e tC fC1.2.1) hm,fun h' hs' => ?_⟩
 have hk:∀b o,¬ (b=C)→s₂.heap.get? b=some o→h'.get? b=some o:=fun b o hb e=>(hs'.2 b hb).trans e
 have fC2:=fC1.next y₂ lC
 exact p _ _ _ (i₂.touch (W:=fun a=>a=C) (tk:=s₂.toks) hk fun a q=>q ▸ fC2)
  (a9.last (X:=X) (W:=fun a=>a=C) (tk:=s₂.toks) ((y1.weaken fun ω f=>f.elim).trans (y₂.weaken fun ω t=>.inl t)) hk fun a q=>q ▸ dC)
  (e₂.touchW hk fun a q=>q ▸ ⟨fC2,fun t=>dA c.e t dC⟩)
theorem nU{elt target iter:Expr}{ifs:List Expr}{gs:List Comprehension}{scope:Scope}{pos pos' spos:Pos}{x:Str}{mi:MI}{mB:MG}{b:AV→aA}(vis2:List (Str×Nat))(own:List Nat)(ok:ic sc scope vis vis2 own=true)
  (hI:ow X k sc vis (eO scope sc) vis2 iter target mi) (hO:kH own mi) (hB:nN X k (eO scope sc) vis2 (.ListComp elt (⟨target,iter,ifs,0⟩::gs) scope pos) (⟨target,iter,ifs,0⟩::gs) ifs 0 mB)
  (ht:kB X k sc vis (.Name x pos') b) (hsw:iK sc fun env=>swapsWith (.ListComp elt (⟨target,iter,ifs,0⟩::gs) scope pos) (some (.Name x pos')) spos.line env=pure true)
  (hs:∀env x,foldedSetIterable iter env x=pure x:=by intro _ _;rfl):ku X k sc vis (.Assign [.Name x pos'] (.ListComp elt (⟨target,iter,ifs,0⟩::gs) scope pos) spos) (aX (hM own mi mB) b):=by
 refine⟨?_⟩
 intro A env Z ρ σ η s c o η' σ' e Q E p
 refine aD e fun a σ₁ h0 e=>aD h0 fun σ₂ c' h1 h0 => ?_
 refine kj (P:=fun c'=>eQ own mi mB η σ (.list [])=some (σ₂,c')→_) h0 (fun l h0 h1 => ?_) h1
 have h0:=Option.some.inj h0
 rw[← show _=a from congrArg Prod.fst h0,← show _=σ₁ from congrArg Prod.snd h0]at e
 refine aD e fun η₁ σ₃ h2 e => ?_
 rw[exec_Assign_Name_used _ _ _ _ (hsw env c.sc)]
 refine wpAny_bind (wpAny_standAt (wpAny_bind ?_))
 show wpAny _ A (do let _ ← comprehension (.ListComp elt (⟨target,iter,ifs,0⟩::gs) scope pos) scope env _ (newList []) false (eval iter env) (some (assign (.Name x pos') env))) _ _ s
 refine wpAny_bind (wpAny_mono (gh (g:=⟨target,iter,ifs,0⟩) (use:=some (assign (.Name x pos') env)) (Q:=fun ω s'=>Q .next s') (.list ..) rfl hs fA ok hI hO hB c h1 fun Z' ρ' s' D C i y r fD dD lD fC dC hC hCD hsys => ?_) (fun ω s' hq=>wpAny_pure (wpAny_pure hq)) fun ω ω e=>e)
 show wpAny _ A (assign (.Name x pos') env (.ref D)) _ _ _
 exact rA ht c (p.of e) (i.cellAdd fD lD hsys r) (y.cellAdd dD) (gn i.len) ⟨fC.1,fun f=>(List.mem_append.mp f).elim fC.2.1 fun q=>hCD (by simpa using q),fC.2.2⟩ dC hC h2
end
end
section
abbrev vO(h:Heap)(z TI TO T:Addr)(f:Bool):Prop :=
 h.get? z=some { cls:=.type "zip",dict:=none,data:=.fields #[rawInt T,.bool f,.bool false,.ref TI,.ref TO],slots := #[] }
section
variable{prog:Program}{w:World}{A:Around}{E:Value→Shared→Prop}{s:Shared}
theorem vT{z TI TO T:Addr}{f:Bool}{oa:Obj}{Q:Bool→Shared→Prop}(hz:vO s.heap z TI TO T f)(ha:s.heap.get? T=some oa)
  (h:∀h',vO h' z TI TO T true→Heap.SameBut z s.heap h'→Q false { s with heap:=h' }):wpAny (model prog w) A (Builtin.SmallTypes.ownedTupleIsFree (.ref z)) Q E s:=by
 unfold Builtin.SmallTypes.ownedTupleIsFree
 refine wpAny_bind (wpAny_field hz rfl (x:=rawInt T) rfl ?_)
 show wpAny _ _ (loadIfAlive ((T:Int).toNat) >>= _) _ _ _
 rw[Int.toNat_natCast]
 refine wpAny_bind (kdx_alive ha ?_)
 simp only[Option.isNone_some,Bool.false_eq_true,if_false]
 refine wpAny_bind (wpAny_field hz rfl (x:=.bool f) rfl ?_)
 cases f with
 | true =>
  rw[if_neg (show ¬ ((Value.bool true != Value.bool true)=true)from Bool.false_ne_true)]
  exact wpAny_pure (h s.heap hz (Heap.SameBut.refl _ _))
 | false =>
  rw[if_pos (show(Value.bool false != Value.bool true)=true from rfl)]
  exact wpAny_bind (wpAny_setField_rec hz (by simp) fun h₃ he₃ hs₃=>wpAny_pure (h h₃ he₃ hs₃))
theorem qY{z TI TO i1 i2 l1 l2 T:Addr}{f:Bool}{oa:Obj}{k1 k2:Nat}{xs ys:Array Value}{x y:Value}{Q:Option Value→Shared→Prop}(D:ZipApart z TI TO i1 i2 l1 l2)
  (hz:vO s.heap z TI TO T f) (ha:s.heap.get? T=some oa) (hTI:IsPair s.heap TI (.ref i1) (.ref i2))
  (h1:s.heap.IsListIter i1 l1 k1) (h2:s.heap.IsListIter i2 l2 k2) (hl1:s.heap.IsList l1 xs) (hl2:s.heap.IsList l2 ys) (hx:xs[k1]? = some x) (hy:ys[k2]? = some y)
  (hQ:∀h',vO h' z TI TO T true→h'.IsListIter i1 l1 (k1+1)→h'.IsListIter i2 l2 (k2+1)→IsPair h' s.heap.objs.size x y→h'.objs.size=s.heap.objs.size+1 →
   (∀c o,c≠z→c≠i1→c≠i2→s.heap.get? c=some o→h'.get? c=some o)→Q (some (.ref s.heap.objs.size)) { s with heap:=h' }) :
  wpAny (model prog w) A (pyNext (.ref z)) Q E s:=by
 have hT:s.TypeIs (.ref z) "zip" := ⟨_,hz,rfl⟩
 unfold pyNext
 refine wpAny_bind (wpAny_attempt (wpAny_callSpecial?_slot (name:=Str.ofString "__next__") hT PySem.F.slot_zip_next
  (wpAny_call_entry PySem.F.slot_zip_next hT PySem.F.entry_zip_next ?_ (PySem.F.args_zip_next_1 _))))
 show wpAny _ _ (field (.ref z) 2 >>= _) _ _ _
 refine wpAny_bind (wpAny_field hz rfl (x:=.bool false) rfl ?_)
 show wpAny _ _ (field (.ref z) 3 >>= _) _ _ _
 refine wpAny_bind (wpAny_field hz rfl (x:=.ref TI) rfl ?_)
 refine wpAny_bind (wpAny_seqItems hTI rfl ?_)
 show wpAny _ _ (Builtin.SmallTypes.ownedTupleIsFree (.ref z) >>= _) _ _ _
 refine wpAny_bind (vT hz ha fun h₁ hz₁ hs₁ => ?_)
 simp only[Bool.false_eq_true,if_false]
 refine wpAny_bind ?_
 rw[← Array.forIn_toList]
 simp only[List.forIn_cons,List.forIn_nil]
 refine wpAny_bind (wpAny_bind (wpAny_holding ?_))
 show wpAny _ _ (Builtin.SmallTypes.nextOf (.ref i1) >>= _) _ _ _
 refine wpAny_bind (wpAny_nextOf_list_item (h1.extBut hs₁.extBut D.i1z) (hl1.extBut hs₁.extBut D.l1z) hx fun h₂ h1₂ hs₂=>wpAny_pure (wpAny_pure ?_))
 refine wpAny_bind (wpAny_bind (wpAny_holding ?_))
 show wpAny _ _ (Builtin.SmallTypes.nextOf (.ref i2) >>= _) _ _ _
 refine wpAny_bind (wpAny_nextOf_list_item ((h2.extBut hs₁.extBut D.i2z).extBut hs₂.extBut D.i12.symm)
  ((hl2.extBut hs₁.extBut D.l2z).extBut hs₂.extBut D.l2i1) hy fun h₄ h2₄ hs₄=>wpAny_pure (wpAny_pure (wpAny_pure ?_)))
 refine wpAny_bind (wpAny_newTuple ?_ (by show 2≤sizeLine;rw[sizeLine_eq];decide))
 have hsz:h₄.objs.size=s.heap.objs.size:=by rw[hs₄.1,hs₂.1,hs₁.1]
 have hz₄:vO h₄ z TI TO T true:=hs₄.extBut _ _ D.i2z.symm (hs₂.extBut _ _ D.i1z.symm hz₁)
 have hk₄:∀c o,c≠z→c≠i1→c≠i2→s.heap.get? c=some o→h₄.get? c=some o:=fun c o c1 c3 c4 e=>hs₄.extBut _ _ c4 (hs₂.extBut _ _ c3 (hs₁.extBut _ _ c1 e))
 have h1₄:h₄.IsListIter i1 l1 (k1+1):=h1₂.extBut hs₄.extBut D.i12
 have up:∀(o':Obj) c o,h₄.get? c=some o→(h₄.push o').get? c=some o:=fun o' c o e=>Heap.get?_push_of_some _ e
 refine wpAny_pure ⟨_,rfl,wpAny_pure ?_⟩
 show Q (some (.ref h₄.objs.size)) _
 have hp:IsPair (h₄.push { cls:=.type "tuple",data:=.seq #[x,y] }) h₄.objs.size x y:=Heap.get?_push_size _ rfl
 rw[hsz]at hp ⊢
 exact hQ _ (up _ _ _ hz₄) (h1₄.at fun o e=>up _ _ o e) (h2₄.at fun o e=>up _ _ o e) hp (by rw[Heap.size_push,hsz]) fun c o c1 c3 c4 e=>up _ c o (hk₄ c o c1 c3 c4 e)
theorem tM{z TI TO i1 i2 l1 l2 T:Addr}{f:Bool}{oa:Obj}{k1 k2:Nat}{xs ys:Array Value}{Q:Option Value→Shared→Prop}(hh:A.handled=none)(D:ZipApart z TI TO i1 i2 l1 l2)
  (hz:vO s.heap z TI TO T f) (ha:s.heap.get? T=some oa) (hTI:IsPair s.heap TI (.ref i1) (.ref i2))
  (h1:s.heap.IsListIter i1 l1 k1) (h2:s.heap.IsListIter i2 l2 k2) (hl1:s.heap.IsList l1 xs) (hl2:s.heap.IsList l2 ys) (hx:xs[k1]? = none)
  (hQ:∀h',(∀c o,c≠z→c≠i1→c≠i2→s.heap.get? c=some o→h'.get? c=some o)→Q none { s with heap:=h' }) :
  wpAny (model prog w) A (pyNext (.ref z)) Q E s:=by
 have hT:s.TypeIs (.ref z) "zip" := ⟨_,hz,rfl⟩
 unfold pyNext
 refine wpAny_bind (wpAny_attempt (wpAny_callSpecial?_slot (name:=Str.ofString "__next__") hT PySem.F.slot_zip_next
  (wpAny_call_entry PySem.F.slot_zip_next hT PySem.F.entry_zip_next ?_ (PySem.F.args_zip_next_1 _))))
 show wpAny _ _ (field (.ref z) 2 >>= _) _ _ _
 refine wpAny_bind (wpAny_field hz rfl (x:=.bool false) rfl ?_)
 show wpAny _ _ (field (.ref z) 3 >>= _) _ _ _
 refine wpAny_bind (wpAny_field hz rfl (x:=.ref TI) rfl ?_)
 refine wpAny_bind (wpAny_seqItems hTI rfl ?_)
 show wpAny _ _ (Builtin.SmallTypes.ownedTupleIsFree (.ref z) >>= _) _ _ _
 refine wpAny_bind (vT hz ha fun h₁ hz₁ hs₁ => ?_)
 simp only[Bool.false_eq_true,if_false]
 refine wpAny_bind ?_
 rw[← Array.forIn_toList]
 simp only[List.forIn_cons,List.forIn_nil]
 refine wpAny_bind (wpAny_bind (wpAny_holding ?_))
 show wpAny _ _ (Builtin.SmallTypes.nextOf (.ref i1) >>= _) _ _ _
 refine wpAny_bind (wpAny_nextOf_list_end hh (h1.extBut hs₁.extBut D.i1z) (hl1.extBut hs₁.extBut D.l1z) hx fun h₂ e hs₂ he => ?_)
 obtain⟨oe,hoe,hce⟩:=he
 refine wpAny_bind (wpAny_isInstance (T := "StopIteration") (b:=true) ⟨oe,hoe,hce⟩ isSubtype_stop ?_)
 exact wpAny_pure (hQ _ fun c o c1 c3 ω x=>hs₂ _ _ c3 (hs₁.extBut _ _ c1 x))
end
structure pB(S z TI TO i1 i2 l1 l2:Addr):Prop where
 D:ZipApart z TI TO i1 i2 l1 l2
 z:z<S
 TI:TI<S
 TO:TO<S
 i1:i1<S
 i2:i2<S
 l1:l1<S
 l2:l2<S
structure IR(h:Heap)(S z TI TO i1 i2 T:Addr)(f:Bool)(oa:Obj):Prop where
 o:vO h z TI TO T f
 t:h.get? T=some oa
 tz:T≠z
 tS:T≠S
 t1:T≠i1
 t2:T≠i2
structure yz(h:Heap)(S z TI TO i1 i2 l1 l2:Addr)(xs ys:List Value)(i:Nat):Prop where
 ti:IsPair h TI (.ref i1) (.ref i2)
 t1:h.IsListIter i1 l1 i
 t2:h.IsListIter i2 l2 i
 a:h.IsList l1 xs.toArray
 b:h.IsList l2 ys.toArray
 own:(i=0∧IsZip h z TI TO .none∧∃a b,IsPair h TO a b)∨∃T f oa,IR h S z TI TO i1 i2 T f oa
section
variable{prog:Program}{w:World}{A:Around}{E:Value→Shared→Prop}{s:Shared}{S z TI TO i1 i2 l1 l2:Addr}{xs ys:List Value}{i:Nat}
theorem yz.keep{h h':Heap}(x:yz h S z TI TO i1 i2 l1 l2 xs ys i)(D:pB S z TI TO i1 i2 l1 l2)(hk:∀b o,b≠S→h.get? b=some o→h'.get? b=some o):yz h' S z TI TO i1 i2 l1 l2 xs ys i where
 ti:=hk _ _ (Nat.ne_of_lt D.TI) x.ti
 t1:=x.t1.at fun o e=>hk _ o (Nat.ne_of_lt D.i1) e
 t2:=x.t2.at fun o e=>hk _ o (Nat.ne_of_lt D.i2) e
 a:=x.a.at fun o e=>hk _ o (Nat.ne_of_lt D.l1) e
 b:=x.b.at fun o e=>hk _ o (Nat.ne_of_lt D.l2) e
 own:=by
  rcases x.own with ⟨h0,h1,a,b,h2⟩ | ⟨T,f,oa,o⟩
  ·exact .inl ⟨h0,hk _ _ (Nat.ne_of_lt D.z) h1,a,b,hk _ _ (Nat.ne_of_lt D.TO) h2⟩
  ·exact .inr ⟨T,f,oa,hk _ _ (Nat.ne_of_lt D.z) o.o,hk _ _ o.tS o.t,o.tz,o.tS,o.t1,o.t2⟩
theorem Cl{x y:Value}{Q:Option Value→Shared→Prop}(st:yz s.heap S z TI TO i1 i2 l1 l2 xs ys i)(D:pB S z TI TO i1 i2 l1 l2)(hS:S<s.heap.objs.size)(hx:xs[i]? = some x)(hy:ys[i]? = some y)
  (hQ:∀h',yz h' S z TI TO i1 i2 l1 l2 xs ys (i+1)→h'.get? s.heap.objs.size=some { cls:=.type "tuple",data:=.seq #[x,y] } → h'.objs.size=s.heap.objs.size+1 →
   (∀c o,c≠z→c≠TO→c≠i1→c≠i2→s.heap.get? c=some o→h'.get? c=some o)→Q (some (.ref s.heap.objs.size)) { s with heap:=h' }) :
  wpAny (model prog w) A (pyNext (.ref z)) Q E s:=by
 have hx':xs.toArray[i]? = some x:=by simpa using hx
 have hy':ys.toArray[i]? = some y:=by simpa using hy
 have ne:∀{c:Addr},c<S→s.heap.objs.size≠c:=fun h=>Nat.ne_of_gt (Nat.lt_trans h hS)
 have X:=D.D
 rcases st.own with ⟨h0,h1,a,b,h2⟩ | ⟨T,f,oa,o⟩
 ·refine wpAny_pyNext_zip_item X h1 st.ti h2 st.t1 st.t2 st.a st.b hx' hy' fun h' a1 a2 a3 a4 a5 a6 hk => ?_
  refine hQ h' ⟨hk _ _ X.TIz X.TITO X.TIi1 X.TIi2 st.ti,a3,a4,st.a.at fun o e=>hk _ o X.l1z X.l1TO X.l1i1 X.l1i2 e,st.b.at fun o e=>hk _ o X.l2z X.l2TO X.l2i1 X.l2i2 e,?_⟩ a5 a6 hk
  exact .inr ⟨s.heap.objs.size,false,_,a1,a5,ne D.z,Nat.ne_of_gt hS,ne D.i1,ne D.i2⟩
 ·refine qY X o.o o.t st.ti st.t1 st.t2 st.a st.b hx' hy' fun h' a1 a3 a4 a5 a6 hk => ?_
  refine hQ h' ⟨hk _ _ X.TIz X.TIi1 X.TIi2 st.ti,a3,a4,st.a.at fun o e=>hk _ o X.l1z X.l1i1 X.l1i2 e,st.b.at fun o e=>hk _ o X.l2z X.l2i1 X.l2i2 e,?_⟩ a5 a6 fun c o c1 ω c3 c4 e=>hk c o c1 c3 c4 e
  exact .inr ⟨T,true,oa,a1,hk _ _ o.tz o.t1 o.t2 o.t,o.tz,o.tS,o.t1,o.t2⟩
theorem Co{Q:Option Value→Shared→Prop}(hh:A.handled=none)(st:yz s.heap S z TI TO i1 i2 l1 l2 xs ys i)(D:pB S z TI TO i1 i2 l1 l2)(hx:xs[i]? = none)
  (hQ:∀h',(∀c o,c≠z→c≠TO→c≠i1→c≠i2→s.heap.get? c=some o→h'.get? c=some o)→Q none { s with heap:=h' }):wpAny (model prog w) A (pyNext (.ref z)) Q E s:=by
 have hx':xs.toArray[i]? = none:=by simpa using hx
 rcases st.own with ⟨h0,h1,a,b,h2⟩ | ⟨T,f,oa,o⟩
 ·exact wpAny_pyNext_zip_end hh D.D h1 st.ti h2 st.t1 st.t2 st.a st.b (.inl hx') hQ
 ·exact tM hh D.D o.o o.t st.ti st.t1 st.t2 st.a st.b hx' fun h' hk=>hQ h' fun c o c1 ω c3 c4 e=>hk c o c1 c3 c4 e
structure HX(xs ys:List Value)(lo:Addr)(h:Heap)(as:List Addr):Prop where
 above:∀a∈as,lo<a
 pairs:∀(j:Nat) (a:Addr),as[j]? = some a→∃x y,xs[j]? = some x∧ys[j]? = some y∧h.get? a=some { cls:=.type "tuple",data:=.seq #[x,y] }
theorem Ck{R:Result→Shared→Prop}(hh:A.handled=none)(D:pB S z TI TO i1 i2 l1 l2)(hl:xs.length=ys.length)(hn:xs.length≤sizeLine)(res:Value){h₁:Heap}
  (hR:∀h' tk acc c as,(∀b o,b≠S→b≠z→b≠TO→b≠i1→b≠i2→h₁.get? b=some o→h'.get? b=some o)→h'.get? S=some { cls:=.type "list",dict:=none,data:=.seq acc c,slots := #[] } → as.length=xs.length→HX xs ys S h' as →
   acc.toList=as.map Value.ref→R (.ok (.ret res)) { s with heap:=h',toks:=tk }) :
  ∀(k i:Nat) (h:Heap) (tk c:Nat) (acc:Array Value) (as:List Addr),xs.length - i=k→i≤xs.length→yz h S z TI TO i1 i2 l1 l2 xs ys i→(∀b o,b≠S→b≠z→b≠TO→b≠i1→b≠i2→h₁.get? b=some o→h.get? b=some o) →
   h.get? S=some { cls:=.type "list",dict:=none,data:=.seq acc c,slots := #[] } → acc.toList=as.map Value.ref→as.length=i→HX xs ys S h as →
   codeAny (model prog w) A (.builtin "list.extend.loop" ⟨[.ref S,.ref z,res],[]⟩) R { s with heap:=h,toks:=tk } := by
 have nS:∀{c:Addr},c<S→∀{a:Addr},S<a→a≠c:=fun {c} h {a} ha=>Nat.ne_of_gt (Nat.lt_trans h ha)
 intro k
 induction k with
 | zero =>
  intro i h tk c acc as hk hi hst hkeep hS hacc hal hG
  refine codeAny_builtin PySem.F.entry_extend_loop ?_
  rw[Around.under_plainId PySem.F.plain_extend_loop _]
  show wpAny _ A.in1 (pyNext (.ref z) >>= _) _ _ _
  refine wpAny_bind (Co (s := { s with heap:=h,toks:=tk }) (A:=A.in1) hh hst D (List.getElem?_eq_none (Nat.le_of_sub_eq_zero hk)) fun h' he => ?_)
  refine wpAny_pure (hR h' tk acc c as (fun b o h1 h2 h3 h4 h5 e=>he b o h2 h3 h4 h5 (hkeep b o h1 h2 h3 h4 h5 e)) (he S _ (Nat.ne_of_gt D.z) (Nat.ne_of_gt D.TO) (Nat.ne_of_gt D.i1) (Nat.ne_of_gt D.i2) hS) (hal.trans (Nat.le_antisymm hi (Nat.le_of_sub_eq_zero hk))) ⟨hG.above,fun j a hj => ?_⟩ hacc)
  obtain⟨x,y,e1,e2,e3⟩:=hG.pairs j a hj
  have ha:=hG.above a (List.mem_of_getElem? hj)
  exact⟨x,y,e1,e2,he a _ (nS D.z ha) (nS D.TO ha) (nS D.i1 ha) (nS D.i2 ha) e3⟩
 | succ k ih =>
  intro i h tk c acc as hk hi hst hkeep hS hacc hal hG
  have hlt:i<xs.length:=Nat.lt_of_sub_eq_succ hk
  have hlt':i<ys.length:=hl ▸ hlt
  have hsz:acc.size=i:=by rw[← Array.length_toList,hacc,List.length_map,hal]
  refine codeAny_builtin PySem.F.entry_extend_loop ?_
  rw[Around.under_plainId PySem.F.plain_extend_loop _]
  show wpAny _ A.in1 (pyNext (.ref z) >>= _) _ _ _
  refine wpAny_bind (Cl (s := { s with heap:=h,toks:=tk }) (S:=S) hst D (Heap.lt_size hS) (List.getElem?_eq_getElem hlt) (List.getElem?_eq_getElem hlt') fun h' hst' ht hz hkp => ?_)
  dsimp only at ht hz hkp ⊢
  have hS':=hkp S _ (Nat.ne_of_gt D.z) (Nat.ne_of_gt D.TO) (Nat.ne_of_gt D.i1) (Nat.ne_of_gt D.i2) hS
  have up:∀b o,b≠S→h'.get? b=some o→(h'.update S (Obj.mapSeq (·.push (Value.ref h.objs.size)))).get? b=some o:=fun b o hb e=>(Heap.get?_update_other _ _ (Ne.symm hb)).trans e
  have hSl:S<h.objs.size:=Heap.lt_size hS
  show wpAny _ A.in1 (updateSeq S (·.push (Value.ref h.objs.size)) >>= _) _ _ _
  refine wpAny_bind ?_
  refine wpAny_updateSeq hS' rfl (wpAny_pure ⟨plainId_quiet PySem.F.plain_extend_loop _,ih (i+1) _ tk _ (acc.push (Value.ref h.objs.size)) (as ++ [h.objs.size]) (by rw[Nat.sub_succ,hk];rfl) hlt (hst'.keep D up)
   (fun b o h1 h2 h3 h4 h5 e=>up b o h1 (hkp b o h2 h3 h4 h5 (hkeep b o h1 h2 h3 h4 h5 e))) (Heap.get?_update_self _ hS' rfl) (by rw[Array.toList_push,hacc,List.map_append];rfl) (by rw[List.length_append,hal];rfl) ⟨?_,?_⟩⟩) (by rw[hsz];exact Nat.le_trans (Nat.le_of_lt hlt) hn) (by show(acc.push (Value.ref h.objs.size)).size≤sizeLine+1;rw[Array.size_push,hsz];exact Nat.succ_le_succ (Nat.le_trans (Nat.le_of_lt hlt) hn))
  ·intro a ha
   rcases List.mem_append.mp ha with ha | ha
   ·exact hG.above a ha
   ·rw[List.mem_singleton.mp ha];exact hSl
  ·intro j b hj
   rcases Nat.lt_trichotomy j as.length with h1 | h1 | h1
   ·rw[List.getElem?_append_left h1]at hj
    obtain⟨x',y',e1,e2,e3⟩:=hG.pairs j b hj
    have hb:=hG.above b (List.mem_of_getElem? hj)
    exact⟨x',y',e1,e2,up b _ (Nat.ne_of_gt hb) (hkp b _ (nS D.z hb) (nS D.TO hb) (nS D.i1 hb) (nS D.i2 hb) e3)⟩
   ·subst h1
    have hb:h.objs.size=b:=by simpa using hj
    subst hb
    exact⟨_,_,by rw[hal];exact List.getElem?_eq_getElem hlt,by rw[hal];exact List.getElem?_eq_getElem hlt',up _ _ (Nat.ne_of_gt hSl) ht⟩
   ·have hnone:(as ++ [h.objs.size])[j]? = none:=List.getElem?_eq_none (by rw[List.length_append,List.length_singleton];exact h1)
    rw[hnone]at hj;cases hj
theorem tN:typeLookup (.type "zip") "__len__" = pure none:=by rw[typeLookup_type,builtinLookup_eq_fast];kernel_rfl
theorem qZ:typeLookup (.type "zip") "__length_hint__" = pure none:=by rw[typeLookup_type,builtinLookup_eq_fast];kernel_rfl
theorem Cn(hT:s.TypeIs (.ref z) "zip"){Q:Bool→Shared→Prop}(h:Q true s):wpAny (model prog w) A (Builtin.List.listLengthHint (.ref z)) Q E s:=by
 unfold Builtin.List.listLengthHint
 refine wpAny_bind (wpAny_specialOf hT tN ?_)
 show wpAny _ A (specialOf (Value.ref z) (Str.ofString "__length_hint__") >>= _) _ _ _
 refine wpAny_bind (wpAny_specialOf hT qZ ?_)
 exact wpAny_pure h
theorem yz.typeIs(st:yz s.heap S z TI TO i1 i2 l1 l2 xs ys i):s.TypeIs (.ref z) "zip" := by
 rcases st.own with ⟨h0,h1,a,b,h2⟩ | ⟨T,f,oa,o⟩
 ·exact⟨_,h1,rfl⟩
 ·exact⟨_,o.o,rfl⟩
theorem Cm{R:Result→Shared→Prop}(hh:A.handled=none)(D:pB S z TI TO i1 i2 l1 l2)(hl:xs.length=ys.length)(hn:xs.length≤sizeLine)
  (hS:s.heap.get? S=some { cls:=.type "list",data:=.seq #[] }) (st:yz s.heap S z TI TO i1 i2 l1 l2 xs ys 0) (hz:IsZip s.heap z TI TO .none)
  (hR:∀h' tk acc c as,(∀b o,b≠S→b≠z→b≠TO→b≠i1→b≠i2→s.heap.get? b=some o→h'.get? b=some o)→h'.get? S=some { cls:=.type "list",dict:=none,data:=.seq acc c,slots := #[] } → as.length=xs.length→HX xs ys S h' as →
   acc.toList=as.map Value.ref→R (.ok (.ret .none)) { s with heap:=h',toks:=tk }) :
  wpAny (model prog w) A.in1 (Builtin.«list.__init__» ⟨[.ref S,.ref z],[]⟩)
   (fun fin s'=>match fin with | .done f=>R (.ok f) s' | .again c'=>c'.quiet=true∧codeAny (model prog w) A c' R s') (fun e s'=>R (.error e) s') s:=by
 show wpAny _ _ (do let old ← Builtin.List.listItems (.ref S);Builtin.List.listUpdate (.ref S) (fun ω => #[]);letGo old.toList.reverse;Builtin.List.listExtendWith (.ref S) (.ref z) .none) _ _ s
 refine wpAny_bind ?_
 unfold Builtin.List.listItems
 refine wpAny_bind (wpAny_seqItems hS rfl (wpAny_pure ?_))
 show wpAny _ _ (updateSeq S (fun ω => #[]) >>= fun ω=>letGo (#[]:Array Value).toList.reverse >>= fun ω=>Builtin.List.listExtendWith (.ref S) (.ref z) .none) _ _ s
 refine wpAny_bind (wpAny_updateSeq hS rfl ?_)
 have hS₂:=Heap.get?_update_self (Obj.mapSeq (fun ω=>(#[]:Array Value))) hS rfl
 have oth:∀b o,b≠S→s.heap.get? b=some o→(s.heap.update S (Obj.mapSeq (fun ω=>(#[]:Array Value)))).get? b=some o :=
  fun b o hb e=>(Heap.get?_update_other _ _ (Ne.symm hb)).trans e
 refine wpAny_bind (wpAny_letGo ?_)
 have st₂:=st.keep D oth
 have hz₂:=oth _ _ (Nat.ne_of_lt D.z) hz
 unfold Builtin.List.listExtendWith
 refine wpAny_bind (wpAny_typeOf (T := "zip") (yz.typeIs (s := { s with heap:=_ }) st₂) ?_)
 have h1:Builtin.List.listSameRef (.ref S) (.ref z)=false:=by simp[Builtin.List.listSameRef,Nat.ne_of_gt D.z]
 have h2:(Value.type "zip" == Value.type "list")=false:=by decide
 have h3:(Value.type "zip" == Value.type "tuple")=false:=by decide
 simp only[h1,h2,h3,Bool.or_false,Bool.false_eq_true,if_false]
 refine wpAny_bind (wpAny_pyIter_zip (s := { s with heap:=_ }) hz₂ ?_)
 refine wpAny_bind (wpAny_holding (Cn (yz.typeIs (s := { s with heap:=_ }) st₂) ?_))
 rw[Bool.true_or,if_pos rfl]
 refine wpAny_bind (wpAny_rule ?_)
 refine wpAny_bind ?_
 show wpAny _ _ (updateSeq S (·.push .none) >>= fun ω=>updateSeq S (·.pop)) _ _ _
 refine wpAny_bind (wpAny_updateSeq hS₂ rfl ?_)
 have hS₃:=Heap.get?_update_self (Obj.mapSeq (·.push Value.none)) hS₂ rfl
 refine wpAny_updateSeq (hz:=by seq_fits) hS₃ rfl ?_
 have hS₄:=Heap.get?_update_self (Obj.mapSeq (·.pop)) hS₃ rfl
 have oth2:∀b o,b≠S→s.heap.get? b=some o→((((s.heap.update S (Obj.mapSeq (fun ω=>(#[]:Array Value)))).update S (Obj.mapSeq (·.push Value.none))).update S (Obj.mapSeq (·.pop))).get? b=some o) :=
  fun b o hb e=>(Heap.get?_update_other _ _ (Ne.symm hb)).trans ((Heap.get?_update_other _ _ (Ne.symm hb)).trans (oth b o hb e))
 refine wpAny_pure ⟨plainId_quiet PySem.F.plain_extend_loop _,Ck (s:=s) (h₁:=s.heap) hh D hl hn .none hR xs.length 0 _ _ _ #[] [] (Nat.sub_zero _) (Nat.zero_le _) (st.keep D oth2) (fun b o hb ω ω ω ω e=>oth2 b o hb e) hS₄ rfl rfl ⟨fun ω ha=>(nomatch ha),fun j a hj=>by simp at hj⟩⟩
theorem Cp{Q:Value→Shared→Prop}(hh:A.handled=none)(X:ZipApart z TI TO i1 i2 l1 l2)(hl:xs.length=ys.length)(hn:xs.length≤sizeLine)(hz:IsZip s.heap z TI TO .none)(hTI:IsPair s.heap TI (.ref i1) (.ref i2))(hTO:IsPair s.heap TO .none .none)
  (h1:s.heap.IsListIter i1 l1 0) (h2:s.heap.IsListIter i2 l2 0) (ha:s.heap.IsList l1 xs.toArray) (hb:s.heap.IsList l2 ys.toArray)
  (hQ:∀h' tk acc c as,(∀b o,b≠z→b≠TO→b≠i1→b≠i2→s.heap.get? b=some o→h'.get? b=some o)→h'.get? s.heap.objs.size=some { cls:=.type "list",dict:=none,data:=.seq acc c,slots := #[] } → as.length=xs.length→HX xs ys s.heap.objs.size h' as →
   acc.toList=as.map Value.ref→Q (.ref s.heap.objs.size) { s with heap:=h',toks:=tk }) :
  wpAny (model prog w) A (call (.type "list") [.ref z]) Q E s:=by
 refine callType_codes (Q₁:=fun obj s₁=>obj=.ref s.heap.objs.size∧s₁ = { s with heap:=s.heap.push { cls:=.type "list",data:=.seq #[] } }) PySem.F.called_list (PySem.F.typeCall_list_1 _) PySem.F.entry_list_init
  (code_list_new _ ⟨rfl,rfl⟩) fun obj s₁ h₁ => ?_
 obtain⟨rfl,rfl⟩:=h₁
 have hS:(s.heap.push { cls:=.type "list",data:=.seq #[] }).get? s.heap.objs.size=some { cls:=.type "list",data:=.seq #[] } := Heap.get?_push_size _ rfl
 have D:pB s.heap.objs.size z TI TO i1 i2 l1 l2:=⟨X,Heap.lt_size hz,Heap.lt_size hTI,Heap.lt_size hTO,(let ⟨_,e,_⟩:=h1;Heap.lt_size e),(let ⟨_,e,_⟩:=h2;Heap.lt_size e),(let ⟨_,e,_⟩:=ha;Heap.lt_size e),(let ⟨_,e,_⟩:=hb;Heap.lt_size e)⟩
 have st:yz s.heap s.heap.objs.size z TI TO i1 i2 l1 l2 xs ys 0:=⟨hTI,h1,h2,ha,hb,.inl ⟨rfl,hz,_,_,hTO⟩⟩
 refine⟨⟨_,hS,rfl⟩,PySem.F.args_list_init_2 _ _,Cm (A:=A.in1) hh D hl hn hS (st.keep D fun b o ω e=>Heap.get?_push_of_some _ e) (Heap.get?_push_of_some _ hz) fun h' tk acc c as hk hS' hal hG hacc => ?_⟩
 exact⟨rfl,hQ h' tk acc c as (fun b o b1 b2 b3 b4 e=>hk b o (Nat.ne_of_lt (Heap.lt_size e)) b1 b2 b3 b4 (Heap.get?_push_of_some _ e)) hS' hal hG hacc⟩
end
end
section
open SeqAt
section
variable{X:Cx}{k:Nat}{sc:Scope}{vis:List (Str×Nat)}{A:Around}{env:Env}{Z:Addr→Prop}{ρ:List Addr}{σ:St}{η:be}{s:Shared}
theorem A5{h':Heap}{tk:Nat}(i:bL X Z ρ σ s)(hk:∀b o,s.heap.get? b=some o→h'.get? b=some o):bL X Z ρ σ { s with heap:=h',toks:=tk } ∧ a9 T0 Z ρ s Z ρ { s with heap:=h',toks:=tk } :=
 ⟨i.touch (W:=fun ω=>False) (fun b o' ω e=>hk b o' e) fun a f=>f.elim,a9.touch (X:=X) (W:=fun ω=>False) (fun b o' ω e=>hk b o' e) (fun a f=>f.elim) (fun a f=>f.elim) fun a f=>f⟩
theorem cH.newCellG{c:aO}{σ:St}{Q:Value→Shared→Prop}{h':Heap}{tk:Nat}(p:cH X Z ρ s (.cell σ.length) (σ ++ [c]) Q)(i:bL X Z ρ σ s)(hk:∀b o,s.heap.get? b=some o→h'.get? b=some o)
  (hl:h'.get? s.heap.objs.size≠none) (hr:a9 T0 Z ρ s Z ρ { s with heap:=h',toks:=tk } → dc X ρ Z h' c s.heap.objs.size):Q (.ref s.heap.objs.size) { s with heap:=h',toks:=tk } := by
 obtain⟨i2,y2⟩:=A5 (tk:=tk) i hk
 exact p _ _ _ _ (i2.cellAdd (cZ i) hl (mF i) (hr y2)) (y2.cellAdd (bx _)) (gn i.len)
noncomputable def e9:eB:=fun l σ=>cR l (fun a=>o1 (cA σ a) fun xs=>if dX xs.length then some (.cell σ.length,σ ++ [.list xs])else none) wi oW
theorem uG(i:bL X Z ρ σ s) : ¬ Z s.heap.objs.size:=(cZ i).1
theorem Eb:a8 X k (.type "list") e9:=by
 refine⟨?_⟩
 intro A Z ρ σ s c l vs r av σ' e Q E p
 refine il (P:=fun vs=>wpAny (model X.prog X.w) A (call (.type "list") vs) Q E s) e r fun a v r e=>aG e fun xs hx e=>dh e fun hz e => ?_
 obtain⟨b,ws,hv,⟨n,ho⟩,q⟩:=b7 c.inv r hx
 rw[hv]
 replace p:=p.of e
 refine call_list_seq b (.inl rfl) ho rfl rfl (fun h' c' hk hn => ?_) (by rw[List.size_toArray,← q.length];exact bM hz)
 exact p.newCellG c.inv (tk:=s.toks) hk (by rw[hn];exact fun q=>nomatch q) fun y=>⟨uG c.inv,ws,⟨c',hn⟩,q.ext y⟩
noncomputable def uO(m:ME):ME:=fun η σ=>oB (m η σ) fun a σ=>fT a fun ω=>some (.bool true,σ)
theorem CZ{x:Expr}{ip lp pos:Pos}{m:ME}(GI:bo X "isinstance" (.builtin "isinstance"))(GT:bo X "int" (.type "int"))(hm:bu X k sc vis x m)(hk:sc.names.lookup ("isinstance" : Str)=some .globalImplicit:=by decide +kernel)
  (hk2:sc.names.lookup ("int" : Str)=some .globalImplicit:=by decide +kernel) (he:∀env,starEach [x,.Name "int" lp] env=(false,eval x env)::starEach [.Name "int" lp] env:=by intro _;rfl)
  (he2:∀env,starEach [.Name "int" lp] env=(false,eval (.Name "int" lp) env)::starEach [] env:=by intro _;rfl)
  (hp:∀env,(backTo pos (starEach [x,.Name "int" lp] env)).any (·.1)=false:=by intro _;rfl):bu X k sc vis (.Call (.Name "isinstance" ip) [x,.Name "int" lp] [] pos) (uO m):=by
 refine⟨?_⟩
 intro A env Z ρ σ η s c av σ' e Q E p
 refine aD e fun a σ₁ h1 e => ?_
 have hk':env.kindOf ("isinstance" : Str)=some .globalImplicit:=by unfold Env.kindOf;rw[c.sc];exact hk
 have hk2':env.kindOf ("int" : Str)=some .globalImplicit:=by unfold Env.kindOf;rw[c.sc];exact hk2
 refine wpAny_Call_NameR (wpAny_Name ?_ (by decide +kernel))
 rw[PyProof.Rows.loadName_read c.e.kind hk']
 refine GI _ _ _ _ _ c.e.glob c.e.bltn c.c.inv.base ?_
 refine bq (fun ω q=>nomatch q) (hp env) (wpAny_items_cons (hm.run A env Z ρ σ η s c _ _ h1 _ _ fun Z₁ ρ₁ v₁ s₁ i₁ y₁ r₁ => ?_) (he env))
 have c₁:=c.next i₁ y₁
 refine wpAny_items_cons (wpAny_Name ?_ (by decide +kernel)) (he2 env)
 rw[PyProof.Rows.loadName_read c₁.e.kind hk2']
 refine GT _ _ _ _ _ c₁.e.glob c₁.e.bltn i₁.base ?_
 refine wpAny_items_nil ?_
 refine aQ e r₁ fun i t e => ?_
 exact IsiPair.int_int ((p.of e) _ _ _ _ i₁ y₁ (bQ _))
end
end
section
open SeqAt
section
variable{X:Cx}{k:Nat}{sc:Scope}{vis:List (Str×Nat)}{A:Around}{env:Env}{Z:Addr→Prop}{ρ:List Addr}{σ:St}{η:be}{s:Shared}
noncomputable def jg:eB:=fun l σ=>cR l yD wi (fun a b i=>iI a fun x=>iI b fun y=>fT i fun i=>GJ y fun c=>if decide (0≤i)&&decide (i≤x.length)&&decide (0≤dS x c i.toNat)then i8 (dS x c i.toNat) σ else none)
theorem hU(x y:Str)(i:Int)(t u v:Tok)(j:Nat)(rest:List Nat)(h:Builtin.Str.occurrences x y (fromIndex x.length i) x.length 1=j::rest):Gives (Builtin.«str.index» ⟨[.str x t,.str y u,.int i v],[]⟩) (.int j):=by
 show Gives (match Builtin.Str.occurrences x y (fromIndex x.length i) (min x.length x.length) 1 with | k::_=>retInt k | []=>(do rule "str.index.not-found";raiseError "ValueError" "substring not found")) _
 rw[Nat.min_self,h]
 exact .of_eq rfl
theorem Ec:a8 X k (.builtin "str.index") jg:=by
 refine⟨?_⟩
 intro A Z ρ σ s c l vs r av σ' e Q E p
 refine HU (P:=fun vs=>wpAny (model X.prog X.w) A (call (.builtin "str.index") vs) Q E s) e r fun a b c' v w u r r' r'' e=>bj e r fun x t e=>bj e r' fun y u e=>aQ e r'' fun i w e => ?_
 refine nC (P:=fun y=>wpAny (model X.prog X.w) A (call (.builtin "str.index") [.str (aj x) t,.str (aj y) u,.int i w]) Q E s) e fun ch e=>dh e fun hz e => ?_
 have hz:=Bool.and_eq_true_iff.mp hz
 have hz1:=Bool.and_eq_true_iff.mp hz.1
 have h1:=of_decide_eq_true hz1.1
 have h2:=of_decide_eq_true hz1.2
 have h3:=of_decide_eq_true hz.2
 have hf:fromIndex x.length i=i.toNat:=by unfold fromIndex;rw[if_neg (by trivial)];trivial
 have g:=hU (aj x) (aj [ch]) i t u w
 rw[aF,hf,Dm x ch i.toNat 1 (by trivial)]at g
 replace p:=p.of e
 unfold dS at p h3
 cases hq:dg x ch i.toNat with
 | nil=>rw[hq]at h3;exact absurd h3 (by decide)
 | cons j rest =>
  rw[hq]at p g
  exact call_gives F.slot_str_index (typeIs_str _ _ _) F.entry_str_index (F.args_str_index_3 _ _ _) (g j _ rfl) (p.tok c.inv (bw ..) _)
noncomputable def vp(f:AV→AV→Option Bool)(x:AV):List AV→Option Nat
 | []=>some 0
 | y::ys=>o1 (f y x) fun a=>o1 (vp f x ys) fun n=>some (if a then n+1 else n)
open Classical in
theorem Gl(n:Nat)(hu:A.units+n<cLine){x:AV}{v:Value}(rx:aq X ρ Z s.heap x v)(l:List AV)(vs:List Value)(m:Nat)(rl:ag X ρ Z s.heap l vs)(e:vp (de n) x l=some m) :
  ∃f:Value→Bool,(∀y,y∈vs→EqAt A s y v (f y))∧vs.countP f=m:=by
 refine⟨fun y=>if ∃a,aq X ρ Z s.heap a y∧de n a x=some true then true else false,?_,?_⟩
 ·have:∀(l:List AV) (vs:List Value) (r:Nat),ag X ρ Z s.heap l vs→vp (de n) x l=some r→∀y∈vs,∃a r,aq X ρ Z s.heap a y∧de n a x=some r:=by
   intro l
   induction l with
   | nil=>intro vs r rl _ y hy;rw[ag.nil_iff.mp rl]at hy;cases hy
   | cons z l ih =>
    intro vs r rl e y hy
    obtain⟨u,t,rfl,p,q⟩:=ag.cons_iff.mp rl
    refine aG e fun a ha e=>aG e fun b hb e => ?_
    rcases List.mem_cons.mp hy with hy | hy
    ·rw[hy];exact⟨z,a,p,ha⟩
    ·exact ih t b q hb y hy
  intro y hy
  obtain⟨a,r',ra,er⟩:=this l vs m rl e y hy
  have z:=qw n A s hu ra rx er
  have:(if ∃a,aq X ρ Z s.heap a y∧de n a x=some true then true else false)=r':=by
   cases r' with
   | true=>exact if_pos ⟨a,ra,er⟩
   | false=>exact if_neg fun⟨a',ra',er'⟩=>nomatch l8 n ra ra' er er'
  show EqAt A s y v (if ∃a,aq X ρ Z s.heap a y∧de n a x=some true then true else false)
  rw[this];exact z
 ·revert vs m
  induction l with
  | nil=>intro vs r rl e;rw[ag.nil_iff.mp rl];exact oE e
  | cons z l ih =>
   intro vs r rl e
   obtain⟨u,t,rfl,p,q⟩:=ag.cons_iff.mp rl
   refine aG e fun a ha e=>aG e fun b hb e => ?_
   rw[List.countP_cons,ih t b q hb,← oE e]
   cases a with
   | true=>rw[if_pos (if_pos ⟨z,p,ha⟩),if_pos rfl]
   | false=>rw[if_neg (fun q=>by rw[if_neg (fun⟨a',ra',er'⟩=>nomatch l8 n p ra' ha er')]at q;exact nomatch q),if_neg (fun q=>nomatch q)];rfl
noncomputable def mP:eB:=fun l σ=>cR l yD (fun a x=>o1 (cA σ a) fun xs=>o1 (vp (de 8) x xs) fun n=>some (.int n,σ)) oW
theorem Ee(U:kq X k):a8 X k (.builtin "list.count") mP:=by
 refine⟨?_⟩
 intro A Z ρ σ s c l vs r av σ' e Q E p
 refine nD (P:=fun vs=>wpAny (model X.prog X.w) A (call (.builtin "list.count") vs) Q E s) e r fun a b v w r1 r2 e=>aG e fun xs hx e=>aG e fun n hn e => ?_
 obtain⟨a',ws,hv,⟨m,ho⟩,q⟩:=b7 c.inv r1 hx
 rw[hv]
 have hu:A.in1.units+8<cLine:=by have:=c.uni;have:=U.1;show A.units+1+8<cLine;trivial
 obtain⟨f,hf,hr⟩:=Gl (A:=A.in1) 8 hu r2 xs ws n q hn
 refine call_meets F.slot_list_count (T := "list") ⟨_,ho,rfl⟩ F.entry_list_count (F.args_list_count_2 _ _) (list_countAt a' ws.toArray m none #[] w f) ⟨ho,fun y hy=>hf y (List.mem_toArray.mp hy),?_⟩
 have fin:=(p.of e).tok c.inv (bw (n:Int) s.toks) (s.toks+1)
 rw[← hr]at fin
 exact fin
noncomputable def jM:eB:=fun l σ=>cR l yD (fun a b=>qM a fun n=>o1 (o1 σ[n]? wJ) fun xs=>GH b fun ys=>if dX (xs.length+ys.length)then some (.none,σ.set n (.list (xs++ys)))else none) oW
theorem s7:a8 X k (.builtin "list.extend") jM:=by
 refine⟨?_⟩
 intro A Z ρ σ s c l vs r av σ' e Q E p
 refine nD (P:=fun vs=>wpAny (model X.prog X.w) A (call (.builtin "list.extend") vs) Q E s) e r fun a x v w r1 r2 e=>jr e r1 fun n a ha e=>aG e fun l hl e => ?_
 refine kc e r2 fun ys b us ω pb qb e=>dh e fun hz e => ?_
 refine aG hl fun cc hc hl => ?_
 rw[sY hl]at hc
 have hz:=dm hz
 obtain⟨nz,vs,⟨m,ho⟩,q⟩:=c.inv.cells n a _ ha hc
 obtain⟨m2,hb⟩:=pb
 have l1:=q.length
 have l2:=qb.length
 have hs:vs.toArray.size+us.toArray.size≤sizeLine:=by rw[List.size_toArray,List.size_toArray,sizeLine_eq];trivial
 refine call_meets F.slot_list_extend (T := "list") ⟨_,ho,rfl⟩ F.entry_list_extend (F.args_list_extend_2 _ _) (AutoSeq1.list_extend_list_list_0 a vs.toArray m b us.toArray m2 (extend_door hs) (Nat.le_trans (Nat.le_add_right _ _) hs) (Nat.le_succ_of_le hs)) ⟨ho,hb,?_⟩
 show Q _ { s with heap:=s.heap.update a (Obj.mapSeq (·++ us.toArray)) }
 have hm:∃m',Obj.mapSeq (·++ us.toArray) { cls:=.type "list",data:=.seq vs.toArray m } = { cls:=.type "list",data:=.seq (vs++us).toArray m' } := by
  unfold Obj.mapSeq
  dsimp only
  rw[List.append_toArray]
  exact⟨_,rfl⟩
 obtain⟨m',hm⟩:=hm
 have hg:(s.heap.update a (Obj.mapSeq (·++ us.toArray))).get? a=some { cls:=.type "list",data:=.seq (vs++us).toArray m' } := by rw[Heap.get?_update_self _ ho (by rw[hm];rfl),hm]
 have z:=ly c (tk:=s.toks) (c':=.list (l++ys)) ha hc rfl nz (Heap.SameBut.update ..) (by rw[hg];exact fun q=>nomatch q) fun y=>⟨nz,_,⟨_,hg⟩,(q.append qb).ext y⟩
 exact p.of e _ _ _ _ z.1 z.2 fV
noncomputable def I4{β:Type}(a:AV)(f:List (List Nat×AV)→Option β):Option β:=nR none a (dict:=f)
@[elab_as_elim] theorem Eh {β:Type} {r:β} {h:Heap} {v:Value} {P:Value→Prop} {a:AV} {f:List (List Nat×AV)→Option β} (e:I4 a f=some r) (q:aq X ρ Z h a v)
  (k:∀l d es,Z d→(d==sysModules)=false→h.DictOf (strKind X.prog X.w) d es→bn X ρ Z h l es→f l=some r→P (.ref d)):P v:=by
 cases a with
 | dict l=>obtain⟨d,es,q,f,hs,hd,ql⟩:=q;rw[q];exact k l d es f hs hd ql e
 | _=>exact oN e
noncomputable def qi:eB:=fun l σ=>cR l (fun a=>I4 a fun l=>some (.vals l,σ)) wi oW
theorem BD:a8 X k (.builtin "dict.values") qi:=by
 refine⟨?_⟩
 intro A Z ρ σ s c l vs r av σ' e Q E p
 refine il (P:=fun vs=>wpAny (model X.prog X.w) A (call (.builtin "dict.values") vs) Q E s) e r fun a v r e=>Eh e r fun l d es hz hs dd q e => ?_
 refine call_meetsIn F.slot_dict_values dd.typeIs F.entry_dict_values (F.args_dict_values_1 _) (meets_dict_values (strKind X.prog X.w) d hs) ⟨⟨es,dd⟩,?_⟩
 refine(p.of e).push c.inv (tk:=s.toks) rfl ?_
 have kp:∀(o:Obj),fR Z s.heap (s.heap.push o):=fun o a x ω e=>Heap.get?_push_of_some _ e
 show ∃_,_
 refine⟨_,d,es,rfl,.inr rfl,.inl hz,⟨_,Heap.get?_push_size _ rfl,rfl,rfl⟩,hs,fH (kp _) hz dd,q.mono (kp _) (fun ω f=>.inl f) List.prefix_rfl⟩
theorem oZ:iU "list" "extend" "list.extend" := ⟨F.plainAttrs_list,F.slot_list_extend,F.type_list_extend⟩
theorem Ay:iU "list" "count" "list.count" := ⟨F.plainAttrs_list,F.slot_list_count,F.type_list_count⟩
theorem xB:iU "dict" "values" "dict.values" := ⟨F.plainAttrs_dict,F.slot_dict_values,F.type_dict_values⟩
theorem Av:iU "str" "index" "str.index" := Hj F.slot_str_index F.type_str_index
end
end
section
open SeqAt
section
variable{X:Cx}{k:Nat}{sc:Scope}{vis:List (Str×Nat)}{A:Around}{env:Env}{Z:Addr→Prop}{ρ:List Addr}{σ:St}{η:be}{s:Shared}
noncomputable def E9:List AV→List AV→List AV
 | x::xs,y::ys=>.tup [x,y]::E9 xs ys
 | _,_ => []
noncomputable def Dw(m n:ME):ME:=fun η σ=>oB (m η σ) fun a σ=>oB (n η σ) fun b σ=>o1 (cA σ a) fun xs=>o1 (cA σ b) fun ys=>if xs.length=ys.length∧dX xs.length=true then some (.list (E9 xs ys),σ)else none
theorem Cq{h:Heap}{lo:Addr}{Z':Addr→Prop}{vs us:List Value}{as:List Addr}(g:HX vs us lo h as)(hz:∀a∈as,Z' a):∀(n j:Nat) (l l':List AV),l.length=n→l'.length=n→j+n=vs.length→as.length=vs.length →
  ag X ρ Z' h l (vs.drop j)→ag X ρ Z' h l' (us.drop j)→ag X ρ Z' h (E9 l l') ((as.drop j).map Value.ref):=by
 intro n
 induction n with
 | zero =>
  intro j l l' h1 h2 h3 h4 r1 r2
  rw[List.drop_of_length_le (by trivial)]
  rw[List.length_eq_zero_iff.mp h1]
  exact ag.nil_iff.mpr rfl
 | succ n ih =>
  intro j l l' h1 h2 h3 h4 r1 r2
  obtain⟨x,l,rfl⟩:=List.exists_cons_of_length_eq_add_one h1
  obtain⟨y,l',rfl⟩:=List.exists_cons_of_length_eq_add_one h2
  have hj:j<as.length:=by trivial
  rw[List.drop_eq_getElem_cons hj,List.map_cons]
  obtain⟨v,t,e1,p1,q1⟩:=ag.cons_iff.mp r1
  obtain⟨v',t',e2,p2,q2⟩:=ag.cons_iff.mp r2
  obtain⟨a,b,ha,hb,ho⟩:=g.pairs j as[j] (List.getElem?_eq_getElem hj)
  have hv:vs[j]? = some v:=by have:=congrArg (fun l=>l[0]?) e1;simpa using this
  have hu:us[j]? = some v':=by have:=congrArg (fun l=>l[0]?) e2;simpa using this
  rw[hv]at ha;rw[hu]at hb
  rw[← Option.some.inj ha,← Option.some.inj hb]at ho
  have d1:vs.drop (j+1)=t:=by have:=congrArg (List.drop 1) e1;simpa [List.drop_drop] using this
  have d2:us.drop (j+1)=t':=by have:=congrArg (List.drop 1) e2;simpa [List.drop_drop] using this
  refine ag.cons ?_ (ih (j+1) l l' (by simpa using h1) (by simpa using h2) (by trivial) h4 (by rw[d1];exact q1) (by rw[d2];exact q2))
  exact gQ (vs := [v,v']) (hz _ (List.getElem_mem hj)) ⟨0,ho⟩ (ag.cons p1 (ag.cons p2 (ag.nil_iff.mpr rfl)))
theorem xf{x y:Expr}{lp zp ipos pos:Pos}{m n:ME}(GL:bo X "list" (.type "list"))(GZ:bo X "zip" (.type "zip"))(hx:bu X k sc vis x m)(hy:bu X k sc vis y n)(hk:sc.names.lookup ("list" : Str)=some .globalImplicit:=by decide +kernel)
  (hk2:sc.names.lookup ("zip" : Str)=some .globalImplicit:=by decide +kernel) (hp:∀env,(backTo ipos (starEach [x,y] env)).any (·.1)=false:=by intro _;rfl)
  (he:∀env,starEach [x,y] env=(false,eval x env)::starEach [y] env:=by intro _;rfl) (he2:∀env,starEach [y] env=(false,eval y env)::starEach [] env:=by intro _;rfl) :
  bu X k sc vis (.Call (.Name "list" lp) [.Call (.Name "zip" zp) [x,y] [] ipos] [] pos) (Dw m n):=by
 refine⟨?_⟩
 intro A env Z ρ σ η s c av σ' e Q E p
 refine aD e fun a σ₁ h1 e=>aD e fun b σ₂ h2 e=>aG e fun xs hxs e=>aG e fun ys hys e=>dh e fun hz e => ?_
 replace p:=p.of e
 have hk':env.kindOf ("list" : Str)=some .globalImplicit:=by unfold Env.kindOf;rw[c.sc];exact hk
 have hk2':env.kindOf ("zip" : Str)=some .globalImplicit:=by unfold Env.kindOf;rw[c.sc];exact hk2
 refine wpAny_Call_NameR (wpAny_Name ?_ (by decide +kernel))
 rw[PyProof.Rows.loadName_read c.e.kind hk']
 refine GL _ _ _ _ _ c.e.glob c.e.bltn c.c.inv.base ?_
 refine bq (fun ω q=>nomatch q) rfl (wpAny_items_cons ?_ (by rfl))
 refine wpAny_Call_NameR (wpAny_Name ?_ (by decide +kernel))
 rw[PyProof.Rows.loadName_read c.e.kind hk2']
 refine GZ _ _ _ _ _ c.e.glob c.e.bltn c.c.inv.base ?_
 refine bq (fun ω q=>nomatch q) (hp env) (wpAny_items_cons (hx.run A env Z ρ σ η s c _ _ h1 _ _ fun Z₁ ρ₁ v₁ s₁ i₁ y₁ r₁ => ?_) (he env))
 have c₁:=c.next i₁ y₁
 refine wpAny_items_cons (hy.run A env Z₁ ρ₁ σ₁ η s₁ c₁ _ _ h2 _ _ fun Z₂ ρ₂ v₂ s₂ i₂ y₂ r₂ => ?_) (he2 env)
 refine wpAny_items_nil ?_
 have c₂:=c₁.next i₂ y₂
 obtain⟨a',vs,hv,pa,qa⟩:=b7 i₂ (r₁.ext y₂) hxs
 obtain⟨b',us,hu,pb,qb⟩:=b7 i₂ r₂ hys
 rw[hv,hu]
 have hl:vs.length=us.length:=by rw[← qa.length,← qb.length];exact hz.1
 have hsz:=dm hz.2
 rw[qa.length]at hsz
 show wpAny _ _ (call (.type "zip") [.ref a',.ref b']) _ _ _
 refine call_zip_2 pa.isList pb.isList fun h' hz hTI hTO hit1 hit2 hsz' hk => ?_
 refine wpAny_items_nil ?_
 have la:a'<s₂.heap.objs.size:=let ⟨_,e⟩:=pa;Heap.lt_size e
 have lb:b'<s₂.heap.objs.size:=let ⟨_,e⟩:=pb;Heap.lt_size e
 obtain⟨i₃,y₃⟩:=A5 (tk:=s₂.toks) i₂ hk
 show wpAny _ _ (call (.type "list") [.ref (s₂.heap.objs.size+4)]) _ _ _
 refine Cp (s := { s₂ with heap:=h' }) c.c.hnd (zipApart_new la lb) hl (by rw[sizeLine_eq];exact hsz) hz hTI hTO hit1 hit2 (pa.isList.at fun o e=>hk _ o e) (pb.isList.at fun o e=>hk _ o e) fun h'' tk acc cc as hk2 hS hal g hacc => ?_
 have hk3:∀b o,s₂.heap.get? b=some o→h''.get? b=some o:=fun b o e=>by
  have lt:=Heap.lt_size e
  have w:∀n,b≠s₂.heap.objs.size+n:=fun n=>Nat.ne_of_lt (Nat.lt_of_lt_of_le lt (Nat.le_add_right _ n))
  exact hk2 b o (w 4) (w 3) (w 0) (w 1) (hk b o e)
 have y4:∀P:Addr→Prop,a9 T0 Z₂ ρ₂ s₂ Z₂ ρ₂ { s₂ with heap:=h'',toks:=tk } := fun P=>(A5 (tk:=tk) i₂ hk3).2
 refine((p.pass y₁).pass y₂).grow i₂ (P:=fun b=>b∈as∨b=h'.objs.size) hk3 (fun b hb => ?_) ?_
 ·have fresh:∀b,s₂.heap.objs.size≤b→s₂.heap.get? b=none:=fun b hb=>by
   cases q:s₂.heap.get? b with
   | none=>rfl
   | some o=>exact absurd (Heap.lt_size q) (Nat.not_lt.mpr hb)
  rcases hb with hb | hb
  ·refine⟨fresh b (by have h:=g.above b hb;rw[hsz']at h;exact Nat.le_of_lt (Nat.lt_of_le_of_lt (Nat.le_add_right _ 5) h)),?_⟩
   obtain⟨j,hj⟩:=List.mem_iff_getElem?.mp hb
   obtain⟨_,_,_,_,e⟩:=g.pairs j b hj
   rw[e];exact fun q=>nomatch q
  ·rw[hb]
   exact⟨fresh _ (by trivial),by rw[hS];exact fun q=>nomatch q⟩
 ·have qa':ag X ρ₂ (fun b=>Z₂ b∨(b∈as∨b=h'.objs.size)) h'' xs vs:=qa.mono (fun b o ω e=>hk3 b o e) (fun ω f=>.inl f) List.prefix_rfl
  have qb':ag X ρ₂ (fun b=>Z₂ b∨(b∈as∨b=h'.objs.size)) h'' ys us:=qb.mono (fun b o ω e=>hk3 b o e) (fun ω f=>.inl f) List.prefix_rfl
  have e1:acc=(as.map Value.ref).toArray:=by rw[← hacc,Array.toArray_toList]
  rw[e1]at hS
  refine kU (.inr (.inr rfl)) ⟨_,hS⟩ ?_
  have z:=Cq (X:=X) (ρ:=ρ₂) (Z':=fun b=>Z₂ b∨(b∈as∨b=h'.objs.size)) g (fun b hb=>.inr (.inl hb)) vs.length 0 xs ys qa.length (by rw[qb.length,hl]) (by trivial) hal (by simpa using qa') (by simpa using qb')
  simpa using z
end
end
section
structure lz where
 mgr:Addr
 is_suburi:Addr
 parse229:Addr
 ParseFlags:Addr
 parse_keqv_list:Addr
 law_path:Addr
 law_answer:Addr
 law_told:Addr
 law_crawl:Addr
 law_determinant:Addr
 law_product:Addr
 law:Addr
structure Ctx(X:Cx)(K:Frag)(ad:lz):Prop where
 U:∀j,j≤60→kq X j
 kat:Ig X K
 g_exc:bo X "error_proto" (.ref X.exc)
 exc:tH X "error_proto"
 g_mgr:bo X "HTTPPasswordMgr" (.ref ad.mgr)
 mgr:Cb X K ad.mgr ad.is_suburi
 pat:B9 X
 g_pat:bo X "Flags" (.ref X.pat)
 g_enumerate:bo X "enumerate" (.type "enumerate")
 g_int:bo X "int" (.type "int")
 g_isinstance:bo X "isinstance" (.builtin "isinstance")
 g_len:bo X "len" (.builtin "len")
 g_list:bo X "list" (.type "list")
 g_range:bo X "range" (.type "range")
 g_str:bo X "str" (.type "str")
 g_sum:bo X "sum" (.builtin "sum")
 g_tuple:bo X "tuple" (.type "tuple")
 g_zip:bo X "zip" (.type "zip")
 f_is_suburi:iV X ad.is_suburi (Au pr 11 4) (wm pr 11 4) ["self","base","test"]
 g_parse229:bo X "parse229" (.ref ad.parse229)
 f_parse229:iV X ad.parse229 (cy pr 6) (bH pr 6) ["resp","peer"]
 g_ParseFlags:bo X "ParseFlags" (.ref ad.ParseFlags)
 f_ParseFlags:iV X ad.ParseFlags (cy pr 9) (bH pr 9) ["resp"]
 g_parse_keqv_list:bo X "parse_keqv_list" (.ref ad.parse_keqv_list)
 f_parse_keqv_list:iV X ad.parse_keqv_list (cy pr 12) (bH pr 12) ["l"]
 g_law_path:bo X "_law_path" (.ref ad.law_path)
 f_law_path:iV X ad.law_path (cy pr 14) (bH pr 14) ["parents","k","top"]
 g_law_answer:bo X "_law_answer" (.ref ad.law_answer)
 f_law_answer:iV X ad.law_answer (cy pr 15) (bH pr 15) ["k","names","port","dress"]
 g_law_told:bo X "_law_told" (.ref ad.law_told)
 f_law_told:iV X ad.law_told (cy pr 16) (bH pr 16) ["answer"]
 g_law_crawl:bo X "_law_crawl" (.ref ad.law_crawl)
 f_law_crawl:iV X ad.law_crawl (cy pr 17) (bH pr 17) ["table","path","lists","told"]
 g_law_determinant:bo X "_law_determinant" (.ref ad.law_determinant)
 f_law_determinant:iV X ad.law_determinant (cy pr 18) (bH pr 18) ["table"]
 g_law_product:bo X "_law_product" (.ref ad.law_product)
 f_law_product:iV X ad.law_product (cy pr 19) (bH pr 19) ["parents","weights","counted"]
 g_law:bo X "law" (.ref ad.law)
 f_law:iV X ad.law (cy pr 20) (bH pr 20) ["script"]
noncomputable def lE:List (Str×Nat) := [("self",0),("base",1),("test",2),("prefix",3)]
noncomputable def hJ:MS:=ae (gI (aW .Eq (mV 1) (mV 2)) (ae (dF (mK (.bool true))) aM) aM) (
 ae (gI (aW .NotEq (ao (mV 1) (mK (.int 0))) (ao (mV 2) (mK (.int 0)))) (ae (dF (mK (.bool false))) aM) aM) (
 ae (aX (ao (mV 1) (mK (.int 1))) (aV 3)) (
 ae (gI (aW .NotEq (fu (mV 3) (iP (mK (.int 1))) (mK .none) (mK .none)) (mK (.str [47]))) (ae (v5 3 (mK (.str [47]))) aM) aM) (
 ae (dF (br "str" (ao (mV 2) (mK (.int 1))) (aa (mV 3) ak) wg)) (
 aM)))))
noncomputable def cg:eB:=jh 3 4 (hJ)
theorem th{X:Cx}{K:Frag}{ad:lz}(C:Ctx X K ad){k:Nat}(hk:k+0≤60):fw X k (wm pr 11 4) lE (Au pr 11 4) (hJ):=by
 have U:kq X k:=C.U k (by trivial)
 refine ah ?_ ?_
 ·refine cJ ?_ ?_ ?_
  ·refine bk U ?_ ?_
   ·exact ac _ _ 1
   exact ac _ _ 2
  ·refine ah ?_ ?_
   ·refine bZ ?_
    exact eD true _ _
   exact aP
  exact aP
 refine ah ?_ ?_
 ·refine cJ ?_ ?_ ?_
  ·refine bk U ?_ ?_
   ·refine aC ?_ ?_
    ·exact ac _ _ 1
    exact ar 0 _ _
   refine aC ?_ ?_
   ·exact ac _ _ 2
   exact ar 0 _ _
  ·refine ah ?_ ?_
   ·refine bZ ?_
    exact eD false _ _
   exact aP
  exact aP
 refine ah ?_ ?_
 ·refine aL ?_ ?_ (fun ω ω=>rfl) (fun ω ω=>rfl)
  ·refine aC ?_ ?_
   ·exact ac _ _ 1
   exact ar 1 _ _
  exact aI _ _ 3
 refine ah ?_ ?_
 ·refine cJ ?_ ?_ ?_
  ·refine bk U ?_ ?_
   ·refine jE ?_ ?_ dr dr
    ·exact ac _ _ 3
    refine eE ?_
    refine mG ?_
    exact ar 1 _ _
   exact bh _ [47] _ _
  ·refine ah ?_ ?_
   ·refine CU (i:=3) ?_
    exact bh _ [47] _ _
   exact aP
  exact aP
 refine ah ?_ ?_
 ·refine bZ ?_
  refine cx xA BE ?_ ?_
  ·refine aC ?_ ?_
   ·exact ac _ _ 2
   exact ar 1 _ _
  refine af ?_ aw
  exact ac _ _ 3
 exact aP
theorem ij{X:Cx}{K:Frag}{ad:lz}(C:Ctx X K ad){k:Nat}(hk:k+1≤60):a8 X k (.ref ad.is_suburi) (cg) :=
 ol (vis:=lE) (N:=4) (C.U k (by trivial)) C.f_is_suburi (by decide +kernel) (th C (by trivial))
noncomputable def mn:List (Str×Nat) := [("resp",0),("peer",1),("left",2),("right",3),("parts",4),("host",5),("port",6)]
noncomputable def fe:MS:=ae (gI (aW .NotEq (fu (mV 0) (mK .none) (mK (.int 3)) (mK .none)) (mK (.str [50,50,57]))) (ae EE aM) aM) (
 ae (aX (br "str" (mV 0) (aa (mK (.str [40])) ak) mO) (aV 2)) (
 ae (gI (aW .Lt (mV 2) (mK (.int 0))) (ae (k9 (aa (mV 0) ak)) aM) aM) (
 ae (aX (br "str" (mV 0) (aa (mK (.str [41])) (aa (ap .Add (mV 2) (mK (.int 1))) ak)) mO) (aV 3)) (
 ae (gI (aW .Lt (mV 3) (mK (.int 0))) (ae (k9 (aa (mV 0) ak)) aM) aM) (
 ae (gI (aW .NotEq (ao (mV 0) (ap .Add (mV 2) (mK (.int 1)))) (ao (mV 0) (ap .Sub (mV 3) (mK (.int 1))))) (ae (k9 (aa (mV 0) ak)) aM) aM) (
 ae (aX (br "str" (fu (mV 0) (ap .Add (mV 2) (mK (.int 1))) (mV 3) (mK .none)) (aa (ao (mV 0) (ap .Add (mV 2) (mK (.int 1)))) ak) jf) (aV 4)) (
 ae (gI (aW .NotEq (au (aa (mV 4) ak) dH) (mK (.int 5))) (ae (k9 (aa (mV 0) ak)) aM) aM) (
 ae (aX (ao (mV 1) (mK (.int 0))) (aV 5)) (
 ae (aX (au (aa (ao (mV 4) (mK (.int 3))) ak) FV) (aV 6)) (
 ae (dF (d8 (aa (mV 5) (aa (mV 6) ak)))) (
 aM)))))))))))
noncomputable def bC:vQ:=wh 2 7 (fe)
theorem vD{X:Cx}{K:Frag}{ad:lz}(C:Ctx X K ad){k:Nat}(hk:k+0≤60):fw X k (bH pr 6) mn (cy pr 6) (fe):=by
 have U:kq X k:=C.U k (by trivial)
 refine ah ?_ ?_
 ·refine cJ ?_ ?_ ?_
  ·refine bk U ?_ ?_
   ·refine jE ?_ dr ?_ dr
    ·exact ac _ _ 0
    refine eE ?_
    exact ar 3 _ _
   exact bh _ [50,50,57] _ _
  ·refine ah ?_ ?_
   ·exact CT _
   exact aP
  exact aP
 refine ah ?_ ?_
 ·refine aL ?_ ?_ (fun ω ω=>rfl) (fun ω ω=>rfl)
  ·refine cx wo BH ?_ ?_
   ·exact ac _ _ 0
   refine af ?_ aw
   exact bh _ [40] _ _
  exact aI _ _ 2
 refine ah ?_ ?_
 ·refine cJ ?_ ?_ ?_
  ·refine bk U ?_ ?_
   ·exact ac _ _ 2
   exact ar 0 _ _
  ·refine ah ?_ ?_
   ·refine jC C.g_exc C.exc ?_
    refine af ?_ aw
    exact ac _ _ 0
   exact aP
  exact aP
 refine ah ?_ ?_
 ·refine aL ?_ ?_ (fun ω ω=>rfl) (fun ω ω=>rfl)
  ·refine cx wo BH ?_ ?_
   ·exact ac _ _ 0
   refine af ?_ ?_
   ·exact bh _ [41] _ _
   refine af ?_ aw
   refine az ?_ ?_
   ·exact ac _ _ 2
   exact ar 1 _ _
  exact aI _ _ 3
 refine ah ?_ ?_
 ·refine cJ ?_ ?_ ?_
  ·refine bk U ?_ ?_
   ·exact ac _ _ 3
   exact ar 0 _ _
  ·refine ah ?_ ?_
   ·refine jC C.g_exc C.exc ?_
    refine af ?_ aw
    exact ac _ _ 0
   exact aP
  exact aP
 refine ah ?_ ?_
 ·refine cJ ?_ ?_ ?_
  ·refine bk U ?_ ?_
   ·refine aC ?_ ?_
    ·exact ac _ _ 0
    refine az ?_ ?_
    ·exact ac _ _ 2
    exact ar 1 _ _
   refine aC ?_ ?_
   ·exact ac _ _ 0
   refine az ?_ ?_
   ·exact ac _ _ 3
   exact ar 1 _ _
  ·refine ah ?_ ?_
   ·refine jC C.g_exc C.exc ?_
    refine af ?_ aw
    exact ac _ _ 0
   exact aP
  exact aP
 refine ah ?_ ?_
 ·refine aL ?_ ?_ (fun ω ω=>rfl) (fun ω ω=>rfl)
  ·refine cx sf wM ?_ ?_
   ·refine jE ?_ ?_ ?_ dr
    ·exact ac _ _ 0
    ·refine eE ?_
     refine az ?_ ?_
     ·exact ac _ _ 2
     exact ar 1 _ _
    refine eE ?_
    exact ac _ _ 3
   refine af ?_ aw
   refine aC ?_ ?_
   ·exact ac _ _ 0
   refine az ?_ ?_
   ·exact ac _ _ 2
   exact ar 1 _ _
  exact aI _ _ 4
 refine ah ?_ ?_
 ·refine cJ ?_ ?_ ?_
  ·refine bk U ?_ ?_
   ·refine ba C.g_len (fun ω h=>nomatch h) ii ?_
    refine af ?_ aw
    exact ac _ _ 4
   exact ar 5 _ _
  ·refine ah ?_ ?_
   ·refine jC C.g_exc C.exc ?_
    refine af ?_ aw
    exact ac _ _ 0
   exact aP
  exact aP
 refine ah ?_ ?_
 ·refine aL ?_ ?_ (fun ω ω=>rfl) (fun ω ω=>rfl)
  ·refine aC ?_ ?_
   ·exact ac _ _ 1
   exact ar 0 _ _
  exact aI _ _ 5
 refine ah ?_ ?_
 ·refine aL ?_ ?_ (fun ω ω=>rfl) (fun ω ω=>rfl)
  ·refine ba C.g_int (fun ω h=>nomatch h) HL ?_
   refine af ?_ aw
   refine aC ?_ ?_
   ·exact ac _ _ 4
   exact ar 3 _ _
  exact aI _ _ 6
 refine ah ?_ ?_
 ·refine bZ ?_
  refine fZ ?_
  refine af ?_ ?_
  ·exact ac _ _ 5
  refine af ?_ aw
  exact ac _ _ 6
 exact aP
theorem sR{X:Cx}{K:Frag}{ad:lz}(C:Ctx X K ad){k:Nat}(hk:k+1≤60):pH X k (.ref ad.parse229) (bC) :=
 HO (vis:=mn) (N:=7) (C.U k (by trivial)) C.f_parse229 (by decide +kernel) (vD C (by trivial))
noncomputable def jw:List (Str×Nat) := [("resp",0),("mo",1)]
noncomputable def gB:MS:=ae (aX (br "re.Pattern" (mK .pat) (aa (mV 0) ak) uE) (aV 1)) (
 ae (gI (rt (gS (mV 1))) (ae (dF (d8 ak)) aM) aM) (
 ae (dF (au (aa (br "bytes" (br "re.Match" (mV 1) (aa (mK (.str [102,108,97,103,115])) ak) uF) ak qm) ak) qj)) (
 aM)))
noncomputable def eh:eB:=jh 1 2 (gB)
theorem qK{X:Cx}{K:Frag}{ad:lz}(C:Ctx X K ad){k:Nat}(hk:k+0≤60):fw X k (bH pr 9) jw (cy pr 9) (gB):=by
 have U:kq X k:=C.U k (by trivial)
 refine ah ?_ ?_
 ·refine aL ?_ ?_ (fun ω ω=>rfl) (fun ω ω=>rfl)
  ·refine cx Aw (Ea C.pat) ?_ ?_
   ·exact GV C.g_pat
   refine af ?_ aw
   exact ac _ _ 0
  exact aI _ _ 1
 refine ah ?_ ?_
 ·refine cJ ?_ ?_ ?_
  ·refine zs ?_
   refine mx ?_
   exact ac _ _ 1
  ·refine ah ?_ ?_
   ·refine bZ ?_
    exact fZ aw
   exact aP
  exact aP
 refine ah ?_ ?_
 ·refine bZ ?_
  refine ba C.g_tuple (fun ω h=>nomatch h) wK ?_
  refine af ?_ aw
  refine cx AB BJ ?_ aw
  refine cx Ax (Ed C.pat) ?_ ?_
  ·exact ac _ _ 1
  refine af ?_ aw
  exact bh _ [102,108,97,103,115] _ _
 exact aP
theorem qF{X:Cx}{K:Frag}{ad:lz}(C:Ctx X K ad){k:Nat}(hk:k+1≤60):a8 X k (.ref ad.ParseFlags) (eh) :=
 ol (vis:=jw) (N:=2) (C.U k (by trivial)) C.f_ParseFlags (by decide +kernel) (qK C (by trivial))
noncomputable def fx:List (Str×Nat) := [("l",0),("parsed",1),("elt",2),("k",3),("v",4)]
noncomputable def dP:MS:=ae (aX mW (aV 1)) (
 ae (gV (aN (mV 0) (aV 2)) (ae (aX (br "str" (mV 2) (aa (mK (.str [61])) (aa (mK (.int 1)) ak)) jf) (ov 2 (bJ (aV 3) (bJ (aV 4) io)))) (ae (gI (eC (aW .Eq (ao (mV 4) (mK (.int 0))) (mK (.str [34]))) (eC (aW .Eq (ao (mV 4) (iP (mK (.int 1)))) (mK (.str [34]))) (tK true))) (ae (aX (fu (mV 4) (mK (.int 1)) (iP (mK (.int 1))) (mK .none)) (aV 4)) aM) aM) (ae (aX (mV 4) (iS (mV 1) (mV 3))) aM)))) (
 ae (dF (gC (mV 1))) (
 aM)))
noncomputable def bS:eB:=jh 1 5 (dP)
theorem j8{X:Cx}{K:Frag}{ad:lz}(C:Ctx X K ad){k:Nat}(hk:k+0≤60):fw X k (bH pr 12) fx (cy pr 12) (dP):=by
 have U:kq X k:=C.U k (by trivial)
 refine ah ?_ ?_
 ·refine aL ?_ ?_ (fun ω ω=>rfl) (fun ω ω=>rfl)
  ·exact ud
  exact aI _ _ 1
 refine ah ?_ ?_
 ·refine gT ?_ ?_
  ·refine bi ?_ ?_
   ·exact ac _ _ 0
   exact aI _ _ 2
  refine ah ?_ ?_
  ·refine aL ?_ ?_ (fun ω ω=>rfl) (fun ω ω=>rfl)
   ·refine cx sf wM ?_ ?_
    ·exact ac _ _ 2
    refine af ?_ ?_
    ·exact bh _ [61] _ _
    refine af ?_ aw
    exact ar 1 _ _
   refine wV ?_
   refine dW ?_ ?_
   ·exact aI _ _ 3
   refine dW ?_ nB
   exact aI _ _ 4
  refine ah ?_ ?_
  ·refine cJ ?_ ?_ ?_
   ·refine gR ?_
    refine eq ?_ ?_
    ·refine bk U ?_ ?_
     ·refine aC ?_ ?_
      ·exact ac _ _ 4
      exact ar 0 _ _
     exact bh _ [34] _ _
    refine eq ?_ nL
    refine bk U ?_ ?_
    ·refine aC ?_ ?_
     ·exact ac _ _ 4
     refine mG ?_
     exact ar 1 _ _
    exact bh _ [34] _ _
   ·refine ah ?_ ?_
    ·refine aL ?_ ?_ (fun ω ω=>rfl) (fun ω ω=>rfl)
     ·refine jE ?_ ?_ ?_ dr
      ·exact ac _ _ 4
      ·refine eE ?_
       exact ar 1 _ _
      refine eE ?_
      refine mG ?_
      exact ar 1 _ _
     exact aI _ _ 4
    exact aP
   exact aP
  refine ah ?_ ?_
  ·refine aL ?_ ?_ (fun ω ω=>rfl) (fun ω ω=>rfl)
   ·exact ac _ _ 4
   refine nK ?_ ?_
   ·exact ac _ _ 1
   exact ac _ _ 3
  exact aP
 refine ah ?_ ?_
 ·refine bZ ?_
  refine mI ?_
  exact ac _ _ 1
 exact aP
theorem j4{X:Cx}{K:Frag}{ad:lz}(C:Ctx X K ad){k:Nat}(hk:k+1≤60):a8 X k (.ref ad.parse_keqv_list) (bS) :=
 ol (vis:=fx) (N:=5) (C.U k (by trivial)) C.f_parse_keqv_list (by decide +kernel) (j8 C (by trivial))
noncomputable def mr:List (Str×Nat) := [("parents",0),("k",1),("top",2),("brothers",3)]
noncomputable def pJ:List (Str×Nat) := [("x",4),("parents",0),("parents",0),("k",1),("k",1)]
noncomputable def gz(rc:eB):MS:=ae (gI (aW .Eq (mV 1) (mK (.int 0))) (ae (dF (mV 2)) aM) aM) (
 ae (aX (aK [4] (aN (au (aa (mK (.int 1)) (aa (mV 1) ak)) aR) (aV 4)) (bA (aW .Eq (ao (mV 0) (mV 4)) (ao (mV 0) (mV 1))) (ay (mV 4)))) (aV 3)) (
 ae (dF (ap .Add (ap .Add (au (aa (mV 0) (aa (ao (mV 0) (mV 1)) (aa (mK (.str [])) ak))) rc) (mK (.str [47,97]))) (ap .Mult (mK (.str [98])) (au (aa (mV 3) ak) dH)))) (
 aM)))
noncomputable def dB:Nat→eB
 | 0=>fun ω ω=>none
 | n+1=>jh 3 5 (gz (dB n))
theorem vF{X:Cx}{K:Frag}{ad:lz}(C:Ctx X K ad){rc:eB}{k:Nat}(hrec:a8 X k (.ref ad.law_path) rc)(hk:k+0≤60):fw X k (bH pr 14) mr (cy pr 14) (gz rc):=by
 have U:kq X k:=C.U k (by trivial)
 refine ah ?_ ?_
 ·refine cJ ?_ ?_ ?_
  ·refine bk U ?_ ?_
   ·exact ai _ _ 1
   exact ar 0 _ _
  ·refine ah ?_ ?_
   ·refine bZ ?_
    exact ac _ _ 2
   exact aP
  exact aP
 refine ah ?_ ?_
 ·refine dK pJ [4] (by decide +kernel) ?_ (bb (fun a=>aH a)) ?_ ?_ (eS fun ω=>rfl)
  ·refine bi ?_ ?_
   ·refine ba C.g_range (fun ω h=>nomatch h) bI ?_
    refine af ?_ ?_
    ·exact ar 1 _ _
    refine af ?_ aw
    exact ai _ _ 1
   exact aI _ _ 4
  ·refine bd ?_ ?_
   ·refine gc ?_
    refine bk U ?_ ?_
    ·refine aC ?_ ?_
     ·exact ai _ _ 0
     exact ac _ _ 4
    refine aC ?_ ?_
    ·exact ai _ _ 0
    exact ai _ _ 1
   refine aY ?_
   exact ac _ _ 4
  exact aI _ _ 3
 refine ah ?_ ?_
 ·refine bZ ?_
  refine az ?_ ?_
  ·refine az ?_ ?_
   ·refine dL C.g_law_path C.f_law_path hrec ?_
    refine af ?_ ?_
    ·exact ai _ _ 0
    refine af ?_ ?_
    ·refine aC ?_ ?_
     ·exact ai _ _ 0
     exact ai _ _ 1
    refine af ?_ aw
    exact bh _ [] _ _
   exact bh _ [47,97] _ _
  refine az ?_ ?_
  ·exact bh _ [98] _ _
  refine ba C.g_len (fun ω h=>nomatch h) ii ?_
  refine af ?_ aw
  exact ac _ _ 3
 exact aP
theorem vw{X:Cx}{K:Frag}{ad:lz}(C:Ctx X K ad):∀(n:Nat) {k:Nat},k+0+n≤60→a8 X k (.ref ad.law_path) (dB n):=by
 intro l₀
 induction l₀ with
 | zero =>
  intro _ _
  exact⟨fun ω ω ω ω ω ω ω ω ω ω ω e=>oN e⟩
 | succ n ih₀ =>
  intro k hk
  exact ol (vis:=mr) (N:=5) (C.U k (by trivial)) C.f_law_path (by decide +kernel) (vF C (ih₀ (by trivial)) (by trivial))
noncomputable def jv:List (Str×Nat) := [("k",0),("names",1),("port",2),("dress",3),("ahead",4),("fields",5),("mark",6),("kind",7),("listed",8),("ends",9)]
noncomputable def gA:MS:=ae (aX (hK (aW .Eq (au (aa (mV 1) ak) dH) (mK (.int 1))) (ap .Mod (ap .FloorDiv (mV 3) (mK (.int 16))) (mK (.int 2))) (mK (.int 0))) (aV 4)) (
 ae (aX (ap .Add (ap .Add (ap .Mult (bz (aa (mK (.str [])) ak)) (mV 4)) (mV 1)) (ap .Mult (bz (aa (mK (.str [])) ak)) (ap .Sub (ap .Sub (mK (.int 2)) (mV 4)) (au (aa (mV 1) ak) dH)))) (aV 5)) (
 ae (aX (ao (mK (.str [32,9])) (ap .Mod (ap .Add (mV 0) (ap .FloorDiv (mV 3) (mK (.int 32)))) (mK (.int 2)))) (aV 6)) (
 ae (aX (ap .Mod (ap .FloorDiv (mV 3) (mK (.int 4))) (mK (.int 4))) (aV 7)) (
 ae (aX (ap .Add (ap .Add (mV 6) (br "str" (mV 6) (aa (ap .Add (mV 5) (bz (aa (mV 2) ak))) ak) lI)) (mV 6)) (aV 8)) (
 ae (gI (eC (aW .Eq (mV 7) (mK (.int 3))) (eC (aW .NotIn (mV 0) (d8 (aa (mK (.int 0)) (aa (mK (.int 6)) ak)))) (tK true))) (ae (aX (ao (bz (aa (ap .Add (mV 6) (br "str" (mV 6) (aa (ap .Add (mV 5) (bz (aa (mK (.str [])) (aa (mV 2) ak)))) ak) lI)) (aa (ap .Add (mV 8) (mV 6)) ak))) (ap .Mod (mV 3) (mK (.int 2)))) (aV 8)) aM) aM) (
 ae (aX (bz (aa (mK (.str [32,40,124,124,124,57,124,41])) (aa (mK (.str [32,70,76,65,71,83,32,40,32,97,32,97,98])) (aa (mK (.str [10,70,76,65,71,83,32,40,32,97,32,97,98,32,53,32,41])) (aa (mK (.str [])) ak))))) (aV 9)) (
 ae (dF (ap .Add (ap .Add (ap .Add (ap .Add (mK (.str [50,50,57,32,111,107,61,41,32,70,76,65,71,83,32,40])) (mV 8)) (mK (.str [41]))) (ao (mV 9) (mV 7))) (mK (.str [32,34,104,34])))) (
 aM))))))))
noncomputable def eg:eB:=jh 4 10 (gA)
theorem qI{X:Cx}{K:Frag}{ad:lz}(C:Ctx X K ad){k:Nat}(hk:k+0≤60):fw X k (bH pr 15) jv (cy pr 15) (gA):=by
 have U:kq X k:=C.U k (by trivial)
 refine ah ?_ ?_
 ·refine aL ?_ ?_ (fun ω ω=>rfl) (fun ω ω=>rfl)
  ·refine mH ?_ ?_ ?_
   ·refine bk U ?_ ?_
    ·refine ba C.g_len (fun ω h=>nomatch h) ii ?_
     refine af ?_ aw
     exact ac _ _ 1
    exact ar 1 _ _
   ·refine az ?_ ?_
    ·refine az ?_ ?_
     ·exact ac _ _ 3
     exact ar 16 _ _
    exact ar 2 _ _
   exact ar 0 _ _
  exact aI _ _ 4
 refine ah ?_ ?_
 ·refine aL ?_ ?_ (fun ω ω=>rfl) (fun ω ω=>rfl)
  ·refine az ?_ ?_
   ·refine az ?_ ?_
    ·refine az ?_ ?_
     ·refine cO ?_
      refine af ?_ aw
      exact bh _ [] _ _
     exact ac _ _ 4
    exact ac _ _ 1
   refine az ?_ ?_
   ·refine cO ?_
    refine af ?_ aw
    exact bh _ [] _ _
   refine az ?_ ?_
   ·refine az ?_ ?_
    ·exact ar 2 _ _
    exact ac _ _ 4
   refine ba C.g_len (fun ω h=>nomatch h) ii ?_
   refine af ?_ aw
   exact ac _ _ 1
  exact aI _ _ 5
 refine ah ?_ ?_
 ·refine aL ?_ ?_ (fun ω ω=>rfl) (fun ω ω=>rfl)
  ·refine aC ?_ ?_
   ·exact bh _ [32,9] _ _
   refine az ?_ ?_
   ·refine az ?_ ?_
    ·exact ac _ _ 0
    refine az ?_ ?_
    ·exact ac _ _ 3
    exact ar 32 _ _
   exact ar 2 _ _
  exact aI _ _ 6
 refine ah ?_ ?_
 ·refine aL ?_ ?_ (fun ω ω=>rfl) (fun ω ω=>rfl)
  ·refine az ?_ ?_
   ·refine az ?_ ?_
    ·exact ac _ _ 3
    exact ar 4 _ _
   exact ar 4 _ _
  exact aI _ _ 7
 refine ah ?_ ?_
 ·refine aL ?_ ?_ (fun ω ω=>rfl) (fun ω ω=>rfl)
  ·refine az ?_ ?_
   ·refine az ?_ ?_
    ·exact ac _ _ 6
    refine cx wn BG ?_ ?_
    ·exact ac _ _ 6
    refine af ?_ aw
    refine az ?_ ?_
    ·exact ac _ _ 5
    refine cO ?_
    refine af ?_ aw
    exact ac _ _ 2
   exact ac _ _ 6
  exact aI _ _ 8
 refine ah ?_ ?_
 ·refine cJ ?_ ?_ ?_
  ·refine gR ?_
   refine eq ?_ ?_
   ·refine bk U ?_ ?_
    ·exact ac _ _ 7
    exact ar 3 _ _
   refine eq ?_ nL
   refine bk U ?_ ?_
   ·exact ac _ _ 0
   refine fZ ?_
   refine af ?_ ?_
   ·exact ar 0 _ _
   refine af ?_ aw
   exact ar 6 _ _
  ·refine ah ?_ ?_
   ·refine aL ?_ ?_ (fun ω ω=>rfl) (fun ω ω=>rfl)
    ·refine aC ?_ ?_
     ·refine cO ?_
      refine af ?_ ?_
      ·refine az ?_ ?_
       ·exact ac _ _ 6
       refine cx wn BG ?_ ?_
       ·exact ac _ _ 6
       refine af ?_ aw
       refine az ?_ ?_
       ·exact ac _ _ 5
       refine cO ?_
       refine af ?_ ?_
       ·exact bh _ [] _ _
       refine af ?_ aw
       exact ac _ _ 2
      refine af ?_ aw
      refine az ?_ ?_
      ·exact ac _ _ 8
      exact ac _ _ 6
     refine az ?_ ?_
     ·exact ac _ _ 3
     exact ar 2 _ _
    exact aI _ _ 8
   exact aP
  exact aP
 refine ah ?_ ?_
 ·refine aL ?_ ?_ (fun ω ω=>rfl) (fun ω ω=>rfl)
  ·refine cO ?_
   refine af ?_ ?_
   ·exact bh _ [32,40,124,124,124,57,124,41] _ _
   refine af ?_ ?_
   ·exact bh _ [32,70,76,65,71,83,32,40,32,97,32,97,98] _ _
   refine af ?_ ?_
   ·exact bh _ [10,70,76,65,71,83,32,40,32,97,32,97,98,32,53,32,41] _ _
   refine af ?_ aw
   exact bh _ [] _ _
  exact aI _ _ 9
 refine ah ?_ ?_
 ·refine bZ ?_
  refine az ?_ ?_
  ·refine az ?_ ?_
   ·refine az ?_ ?_
    ·refine az ?_ ?_
     ·exact bh _ [50,50,57,32,111,107,61,41,32,70,76,65,71,83,32,40] _ _
     exact ac _ _ 8
    exact bh _ [41] _ _
   refine aC ?_ ?_
   ·exact ac _ _ 9
   exact ac _ _ 7
  exact bh _ [32,34,104,34] _ _
 exact aP
theorem qE{X:Cx}{K:Frag}{ad:lz}(C:Ctx X K ad){k:Nat}(hk:k+1≤60):a8 X k (.ref ad.law_answer) (eg) :=
 ol (vis:=jv) (N:=10) (C.U k (by trivial)) C.f_law_answer (by decide +kernel) (qI C (by trivial))
noncomputable def mq:List (Str×Nat) := [("answer",0)]
noncomputable def mU:MS:=ae (FD (aa (mV 0) (aa (d8 (aa (mK (.str [104])) (aa (mK (.int 21)) ak))) ak)) bC) (
 aM)
noncomputable def bt:eB:=jh 1 1 (mU)
theorem vE{X:Cx}{K:Frag}{ad:lz}(C:Ctx X K ad){k:Nat}(hk:k+1≤60):fw X k (bH pr 16) mq (cy pr 16) (mU):=by
 have U:kq X k:=C.U k (by trivial)
 refine ah ?_ ?_
 ·refine t6 U C.kat C.g_parse229 C.f_parse229 (sR C (by trivial)) ?_ C.g_exc C.exc C.g_str
  refine af ?_ ?_
  ·exact ac _ _ 0
  refine af ?_ aw
  refine fZ ?_
  refine af ?_ ?_
  ·exact bh _ [104] _ _
  refine af ?_ aw
  exact ar 21 _ _
 exact aP
theorem ny{X:Cx}{K:Frag}{ad:lz}(C:Ctx X K ad){k:Nat}(hk:k+2≤60):a8 X k (.ref ad.law_told) (bt) :=
 ol (vis:=mq) (N:=1) (C.U k (by trivial)) C.f_law_told (by decide +kernel) (vE C (by trivial))
noncomputable def lB:List (Str×Nat) := [("table",0),("path",1),("lists",2),("told",3),("head",4),("flag",5)]
noncomputable def g9(rc:eB):MS:=ae (aX (au (aa (br "str" (ao (mV 0) (mV 1)) ak iz) ak) (eh)) (iS (mV 2) (mV 1))) (
 ae (aX (au (aa (ao (mV 0) (mV 1)) ak) (bt)) (iS (mV 3) (mV 1))) (
 ae (aX (hK (aW .Eq (mV 1) (mK (.str [47]))) (mK (.str [])) (mV 1)) (aV 4)) (
 ae (gV (aN (fu (ao (mV 2) (mV 1)) (mK .none) (iP (mK (.int 1))) (mK .none)) (aV 5)) (ae (dM (au (aa (mV 0) (aa (ap .Add (ap .Add (mV 4) (mK (.str [47]))) (br "bytes" (mV 5) ak jN)) (aa (mV 2) (aa (mV 3) ak)))) rc)) aM)) (
 aM))))
noncomputable def cf:Nat→eB
 | 0=>fun ω ω=>none
 | n+1=>jh 4 6 (g9 (cf n))
theorem tg{X:Cx}{K:Frag}{ad:lz}(C:Ctx X K ad){rc:eB}{k:Nat}(hrec:a8 X k (.ref ad.law_crawl) rc)(hk:k+2≤60):fw X k (bH pr 17) lB (cy pr 17) (g9 rc):=by
 have U:kq X k:=C.U k (by trivial)
 refine ah ?_ ?_
 ·refine aL ?_ ?_ (fun ω ω=>rfl) (fun ω ω=>rfl)
  ·refine dL C.g_ParseFlags C.f_ParseFlags (qF C (by trivial)) ?_
   refine af ?_ aw
   refine cx oY s8 ?_ aw
   refine aC ?_ ?_
   ·exact ac _ _ 0
   exact ac _ _ 1
  refine nK ?_ ?_
  ·exact ac _ _ 2
  exact ac _ _ 1
 refine ah ?_ ?_
 ·refine aL ?_ ?_ (fun ω ω=>rfl) (fun ω ω=>rfl)
  ·refine dL C.g_law_told C.f_law_told (ny C (by trivial)) ?_
   refine af ?_ aw
   refine aC ?_ ?_
   ·exact ac _ _ 0
   exact ac _ _ 1
  refine nK ?_ ?_
  ·exact ac _ _ 3
  exact ac _ _ 1
 refine ah ?_ ?_
 ·refine aL ?_ ?_ (fun ω ω=>rfl) (fun ω ω=>rfl)
  ·refine mH ?_ ?_ ?_
   ·refine bk U ?_ ?_
    ·exact ac _ _ 1
    exact bh _ [47] _ _
   ·exact bh _ [] _ _
   exact ac _ _ 1
  exact aI _ _ 4
 refine ah ?_ ?_
 ·refine gT ?_ ?_
  ·refine bi ?_ ?_
   ·refine jE ?_ dr ?_ dr
    ·refine aC ?_ ?_
     ·exact ac _ _ 2
     exact ac _ _ 1
    refine eE ?_
    refine mG ?_
    exact ar 1 _ _
   exact aI _ _ 5
  refine ah ?_ ?_
  ·refine iv ?_ (fun ω ω=>rfl)
   refine dL C.g_law_crawl C.f_law_crawl hrec ?_
   refine af ?_ ?_
   ·exact ac _ _ 0
   refine af ?_ ?_
   ·refine az ?_ ?_
    ·refine az ?_ ?_
     ·exact ac _ _ 4
     exact bh _ [47] _ _
    refine cx xC BI ?_ aw
    exact ac _ _ 5
   refine af ?_ ?_
   ·exact ac _ _ 2
   refine af ?_ aw
   exact ac _ _ 3
  exact aP
 exact aP
theorem sZ{X:Cx}{K:Frag}{ad:lz}(C:Ctx X K ad):∀(n:Nat) {k:Nat},k+2+n≤60→a8 X k (.ref ad.law_crawl) (cf n):=by
 intro l₀
 induction l₀ with
 | zero =>
  intro _ _
  exact⟨fun ω ω ω ω ω ω ω ω ω ω ω e=>oN e⟩
 | succ n ih₀ =>
  intro k hk
  exact ol (vis:=lB) (N:=6) (C.U k (by trivial)) C.f_law_crawl (by decide +kernel) (tg C (ih₀ (by trivial)) (by trivial))
noncomputable def fz:List (Str×Nat) := [("table",0),("rows",1),("size",2),("sign",3),("last",4),("k",5),("others",6),("i",7),("j",8)]
noncomputable def iM:List (Str×Nat) := [("row",9)]
noncomputable def iL:List (Str×Nat) := [("i",10),("rows",1),("rows",1),("k",5),("k",5)]
noncomputable def fE:MS:=ae (aX (hM [9] (aN (mV 0) (aV 9)) (bA (tK true) (ay (au (aa (mV 9) ak) e9)))) (aV 1)) (
 ae (aX (au (aa (mV 1) ak) dH) (aV 2)) (
 ae (aX (d8 (aa (mK (.int 1)) (aa (mK (.int 1)) ak))) (ov 2 (bJ (aV 3) (bJ (aV 4) io)))) (
 ae (gV (aN (au (aa (ap .Sub (mV 2) (mK (.int 1))) ak) aR) (aV 5)) (ae (aX (aK [10] (aN (au (aa (mV 5) (aa (mV 2) ak)) aR) (aV 10)) (bA (aW .NotEq (ao (ao (mV 1) (mV 10)) (mV 5)) (mK (.int 0))) (ay (mV 10)))) (aV 6)) (ae (gI (aW .Eq (mV 6) (bz ak)) (ae (dF (mK (.int 0))) aM) aM) (ae (gI (aW .NotEq (ao (mV 6) (mK (.int 0))) (mV 5)) (ae (aX (d8 (aa (ao (mV 1) (ao (mV 6) (mK (.int 0)))) (aa (ao (mV 1) (mV 5)) (aa (iP (mV 3)) ak)))) (ov 3 (bJ (iS (mV 1) (mV 5)) (bJ (iS (mV 1) (ao (mV 6) (mK (.int 0)))) (bJ (aV 3) io))))) aM) aM) (ae (gV (aN (au (aa (ap .Add (mV 5) (mK (.int 1))) (aa (mV 2) ak)) aR) (aV 7)) (ae (gV (aN (au (aa (ap .Add (mV 5) (mK (.int 1))) (aa (mV 2) ak)) aR) (aV 8)) (ae (aX (ap .FloorDiv (ap .Sub (ap .Mult (ao (ao (mV 1) (mV 7)) (mV 8)) (ao (ao (mV 1) (mV 5)) (mV 5))) (ap .Mult (ao (ao (mV 1) (mV 7)) (mV 5)) (ao (ao (mV 1) (mV 5)) (mV 8)))) (mV 4)) (iS (ao (mV 1) (mV 7)) (mV 8))) aM)) aM)) (ae (aX (ao (ao (mV 1) (mV 5)) (mV 5)) (aV 4)) aM)))))) (
 ae (dF (ap .Mult (mV 3) (ao (ao (mV 1) (ap .Sub (mV 2) (mK (.int 1)))) (ap .Sub (mV 2) (mK (.int 1)))))) (
 aM)))))
noncomputable def bT:eB:=jh 1 11 (fE)
theorem j9{X:Cx}{K:Frag}{ad:lz}(C:Ctx X K ad){k:Nat}(hk:k+0≤60):fw X k (bH pr 18) fz (cy pr 18) (fE):=by
 have U:kq X k:=C.U k (by trivial)
 refine ah ?_ ?_
 ·refine aL ?_ ?_ (eS fun ω=>rfl) (fun ω ω=>rfl)
  ·refine zH iM [9] (by decide +kernel) ?_ (bb (fun a=>aH a)) ?_
   ·refine bi ?_ ?_
    ·exact ac _ _ 0
    exact aI _ _ 9
   refine bd cq ?_
   refine aY ?_
   refine ba C.g_list (fun ω h=>nomatch h) Eb ?_
   refine af ?_ aw
   exact ac _ _ 9
  exact bB _ _ 1
 refine ah ?_ ?_
 ·refine aL ?_ ?_ (fun ω ω=>rfl) (fun ω ω=>rfl)
  ·refine ba C.g_len (fun ω h=>nomatch h) ii ?_
   refine af ?_ aw
   exact ai _ _ 1
  exact aI _ _ 2
 refine ah ?_ ?_
 ·refine aL ?_ ?_ (fun ω ω=>rfl) (eS fun ω=>rfl)
  ·refine fZ ?_
   refine af ?_ ?_
   ·exact ar 1 _ _
   refine af ?_ aw
   exact ar 1 _ _
  refine wV ?_
  refine dW ?_ ?_
  ·exact aI _ _ 3
  refine dW ?_ nB
  exact aI _ _ 4
 refine ah ?_ ?_
 ·refine gT ?_ ?_
  ·refine bi ?_ ?_
   ·refine ba C.g_range (fun ω h=>nomatch h) bI ?_
    refine af ?_ aw
    refine az ?_ ?_
    ·exact ac _ _ 2
    exact ar 1 _ _
   exact bB _ _ 5
  refine ah ?_ ?_
  ·refine dK iL [10] (by decide +kernel) ?_ (bb (fun a=>aH a)) ?_ ?_ (eS fun ω=>rfl)
   ·refine bi ?_ ?_
    ·refine ba C.g_range (fun ω h=>nomatch h) bI ?_
     refine af ?_ ?_
     ·exact ai _ _ 5
     refine af ?_ aw
     exact ac _ _ 2
    exact aI _ _ 10
   ·refine bd ?_ ?_
    ·refine gc ?_
     refine bk U ?_ ?_
     ·refine aC ?_ ?_
      ·refine aC ?_ ?_
       ·exact ai _ _ 1
       exact ac _ _ 10
      exact ai _ _ 5
     exact ar 0 _ _
    refine aY ?_
    exact ac _ _ 10
   exact aI _ _ 6
  refine ah ?_ ?_
  ·refine cJ ?_ ?_ ?_
   ·refine bk U ?_ ?_
    ·exact ac _ _ 6
    exact cO aw
   ·refine ah ?_ ?_
    ·refine bZ ?_
     exact ar 0 _ _
    exact aP
   exact aP
  refine ah ?_ ?_
  ·refine cJ ?_ ?_ ?_
   ·refine bk U ?_ ?_
    ·refine aC ?_ ?_
     ·exact ac _ _ 6
     exact ar 0 _ _
    exact ai _ _ 5
   ·refine ah ?_ ?_
    ·refine aL ?_ ?_ (fun ω ω=>rfl) (eS fun ω=>rfl)
     ·refine fZ ?_
      refine af ?_ ?_
      ·refine aC ?_ ?_
       ·exact ai _ _ 1
       refine aC ?_ ?_
       ·exact ac _ _ 6
       exact ar 0 _ _
      refine af ?_ ?_
      ·refine aC ?_ ?_
       ·exact ai _ _ 1
       exact ai _ _ 5
      refine af ?_ aw
      refine mG ?_
      exact ac _ _ 3
     refine wV ?_
     refine dW ?_ ?_
     ·refine nK ?_ ?_
      ·exact ai _ _ 1
      exact ai _ _ 5
     refine dW ?_ ?_
     ·refine nK ?_ ?_
      ·exact ai _ _ 1
      refine aC ?_ ?_
      ·exact ac _ _ 6
      exact ar 0 _ _
     refine dW ?_ nB
     exact aI _ _ 3
    exact aP
   exact aP
  refine ah ?_ ?_
  ·refine gT ?_ ?_
   ·refine bi ?_ ?_
    ·refine ba C.g_range (fun ω h=>nomatch h) bI ?_
     refine af ?_ ?_
     ·refine az ?_ ?_
      ·exact ai _ _ 5
      exact ar 1 _ _
     refine af ?_ aw
     exact ac _ _ 2
    exact aI _ _ 7
   refine ah ?_ ?_
   ·refine gT ?_ ?_
    ·refine bi ?_ ?_
     ·refine ba C.g_range (fun ω h=>nomatch h) bI ?_
      refine af ?_ ?_
      ·refine az ?_ ?_
       ·exact ai _ _ 5
       exact ar 1 _ _
      refine af ?_ aw
      exact ac _ _ 2
     exact aI _ _ 8
    refine ah ?_ ?_
    ·refine aL ?_ ?_ (fun ω ω=>rfl) (fun ω ω=>rfl)
     ·refine az ?_ ?_
      ·refine az ?_ ?_
       ·refine az ?_ ?_
        ·refine aC ?_ ?_
         ·refine aC ?_ ?_
          ·exact ai _ _ 1
          exact ac _ _ 7
         exact ac _ _ 8
        refine aC ?_ ?_
        ·refine aC ?_ ?_
         ·exact ai _ _ 1
         exact ai _ _ 5
        exact ai _ _ 5
       refine az ?_ ?_
       ·refine aC ?_ ?_
        ·refine aC ?_ ?_
         ·exact ai _ _ 1
         exact ac _ _ 7
        exact ai _ _ 5
       refine aC ?_ ?_
       ·refine aC ?_ ?_
        ·exact ai _ _ 1
        exact ai _ _ 5
       exact ac _ _ 8
      exact ac _ _ 4
     refine nK ?_ ?_
     ·refine aC ?_ ?_
      ·exact ai _ _ 1
      exact ac _ _ 7
     exact ac _ _ 8
    exact aP
   exact aP
  refine ah ?_ ?_
  ·refine aL ?_ ?_ (fun ω ω=>rfl) (fun ω ω=>rfl)
   ·refine aC ?_ ?_
    ·refine aC ?_ ?_
     ·exact ai _ _ 1
     exact ai _ _ 5
    exact ai _ _ 5
   exact aI _ _ 4
  exact aP
 refine ah ?_ ?_
 ·refine bZ ?_
  refine az ?_ ?_
  ·exact ac _ _ 3
  refine aC ?_ ?_
  ·refine aC ?_ ?_
   ·exact ai _ _ 1
   refine az ?_ ?_
   ·exact ac _ _ 2
   exact ar 1 _ _
  refine az ?_ ?_
  ·exact ac _ _ 2
  exact ar 1 _ _
 exact aP
theorem j5{X:Cx}{K:Frag}{ad:lz}(C:Ctx X K ad){k:Nat}(hk:k+1≤60):a8 X k (.ref ad.law_determinant) (bT) :=
 ol (vis:=fz) (N:=11) (C.U k (by trivial)) C.f_law_determinant (by decide +kernel) (j9 C (by trivial))
noncomputable def iW:List (Str×Nat) := [("parents",0),("weights",1),("counted",2),("above",3),("k",4),("x",5),("product",6),("down",7),("next_below",8)]
noncomputable def lV:List (Str×Nat) := [("x",9),("weights",1),("weights",1)]
noncomputable def lU:List (Str×Nat) := [("x",10),("above",3),("above",3),("k",4),("k",4)]
noncomputable def lT:List (Str×Nat) := [("x",11),("weights",1),("weights",1),("above",3),("above",3),("k",4),("k",4)]
noncomputable def iY:MS:=ae (aX ES (aV 3)) (
 ae (gV (aN (mV 2) (aV 4)) (ae (aX (jP ak) (iS (mV 3) (mV 4))) (ae (aX (ao (mV 0) (mV 4)) (aV 5)) (ae (eY 100 (aW .GtE (mV 5) (mK (.int 0))) (ae (gI (aW .In (mV 5) (mV 2)) (ae (dM (br "list" (ao (mV 3) (mV 4)) (aa (mV 5) ak) ej)) aM) aM) (ae (aX (ao (mV 0) (mV 5)) (aV 5)) aM))) aM)))) (
 ae (aX (mK (.int 1)) (aV 6)) (
 ae (gV (aN (mV 2) (aV 4)) (ae (aX (ap .Mult (mV 6) (ao (mV 1) (mV 4))) (aV 6)) (ae (aX (ap .Add (ao (mV 1) (mV 4)) (au (aa (aK [9] (aN (gC (ao (mV 3) (mV 4))) (aV 9)) (bA (tK true) (ay (ao (mV 1) (mV 9))))) ak) jL)) (aV 7)) (ae (aX (aK [10] (aN (mV 2) (aV 10)) (bA (aW .Eq (fu (ao (mV 3) (mV 10)) (mK .none) (mK (.int 1)) (mK .none)) (bz (aa (mV 4) ak))) (ay (mV 10)))) (aV 8)) (ae (gI (aW .NotEq (mV 8) (bz ak)) (ae (aX (ap .Mult (mV 6) (ap .Pow (mV 7) (ap .Sub (au (aa (mV 8) ak) dH) (mK (.int 1))))) (aV 6)) (ae (gI (aW .NotEq (mV 4) (mK (.int 0))) (ae (aX (ap .Mult (mV 6) (ap .Add (mV 7) (au (aa (aK [11] (aN (mV 2) (aV 11)) (bA (aW .In (mV 4) (ao (mV 3) (mV 11))) (ay (ao (mV 1) (mV 11))))) ak) jL))) (aV 6)) aM) aM) aM)) aM) aM))))) (
 ae (dF (mV 6)) (
 aM)))))
noncomputable def dN:eB:=jh 3 12 (iY)
theorem oo{X:Cx}{K:Frag}{ad:lz}(C:Ctx X K ad){k:Nat}(hk:k+0≤60):fw X k (bH pr 19) iW (cy pr 19) (iY):=by
 have U:kq X k:=C.U k (by trivial)
 refine ah ?_ ?_
 ·refine aL ?_ ?_ (fun ω ω=>rfl) (fun ω ω=>rfl)
  ·exact FC
  exact bB _ _ 3
 refine ah ?_ ?_
 ·refine gT ?_ ?_
  ·refine bi ?_ ?_
   ·exact ac _ _ 2
   exact bB _ _ 4
  refine ah ?_ ?_
  ·refine aL ?_ ?_ (fun ω ω=>rfl) (fun ω ω=>rfl)
   ·exact uc aw
   refine nK ?_ ?_
   ·exact ai _ _ 3
   exact ai _ _ 4
  refine ah ?_ ?_
  ·refine aL ?_ ?_ (fun ω ω=>rfl) (fun ω ω=>rfl)
   ·refine aC ?_ ?_
    ·exact ac _ _ 0
    exact ai _ _ 4
   exact aI _ _ 5
  refine ah ?_ ?_
  ·refine zz 100 ?_ ?_
   ·refine bk U ?_ ?_
    ·exact ac _ _ 5
    exact ar 0 _ _
   refine ah ?_ ?_
   ·refine cJ ?_ ?_ ?_
    ·refine bk U ?_ ?_
     ·exact ac _ _ 5
     exact ac _ _ 2
    ·refine ah ?_ ?_
     ·refine iv ?_ (fun ω ω=>rfl)
      refine cx o0 s9 ?_ ?_
      ·refine aC ?_ ?_
       ·exact ai _ _ 3
       exact ai _ _ 4
      refine af ?_ aw
      exact ac _ _ 5
     exact aP
    exact aP
   refine ah ?_ ?_
   ·refine aL ?_ ?_ (fun ω ω=>rfl) (fun ω ω=>rfl)
    ·refine aC ?_ ?_
     ·exact ac _ _ 0
     exact ac _ _ 5
    exact aI _ _ 5
   exact aP
  exact aP
 refine ah ?_ ?_
 ·refine aL ?_ ?_ (fun ω ω=>rfl) (fun ω ω=>rfl)
  ·exact ar 1 _ _
  exact aI _ _ 6
 refine ah ?_ ?_
 ·refine gT ?_ ?_
  ·refine bi ?_ ?_
   ·exact ac _ _ 2
   exact bB _ _ 4
  refine ah ?_ ?_
  ·refine aL ?_ ?_ (fun ω ω=>rfl) (fun ω ω=>rfl)
   ·refine az ?_ ?_
    ·exact ac _ _ 6
    refine aC ?_ ?_
    ·exact ai _ _ 1
    exact ai _ _ 4
   exact aI _ _ 6
  refine ah ?_ ?_
  ·refine aL ?_ ?_ (fun ω ω=>rfl) (fun ω ω=>rfl)
   ·refine az ?_ ?_
    ·refine aC ?_ ?_
     ·exact ai _ _ 1
     exact ai _ _ 4
    refine ba C.g_sum (fun ω h=>nomatch h) wL ?_
    refine af ?_ aw
    refine bf lV [9] (by decide +kernel) ?_ (bb (fun a=>aH a)) ?_
    ·refine bi ?_ ?_
     ·refine mI ?_
      refine aC ?_ ?_
      ·exact ai _ _ 3
      exact ai _ _ 4
     exact aI _ _ 9
    refine bd cq ?_
    refine aY ?_
    refine aC ?_ ?_
    ·exact ai _ _ 1
    exact ac _ _ 9
   exact aI _ _ 7
  refine ah ?_ ?_
  ·refine dK lU [10] (by decide +kernel) ?_ (bb (fun a=>aH a)) ?_ ?_ (eS fun ω=>rfl)
   ·refine bi ?_ ?_
    ·exact ac _ _ 2
    exact aI _ _ 10
   ·refine bd ?_ ?_
    ·refine gc ?_
     refine bk U ?_ ?_
     ·refine jE ?_ dr ?_ dr
      ·refine aC ?_ ?_
       ·exact ai _ _ 3
       exact ac _ _ 10
      refine eE ?_
      exact ar 1 _ _
     refine cO ?_
     refine af ?_ aw
     exact ai _ _ 4
    refine aY ?_
    exact ac _ _ 10
   exact aI _ _ 8
  refine ah ?_ ?_
  ·refine cJ ?_ ?_ ?_
   ·refine bk U ?_ ?_
    ·exact ac _ _ 8
    exact cO aw
   ·refine ah ?_ ?_
    ·refine aL ?_ ?_ (fun ω ω=>rfl) (fun ω ω=>rfl)
     ·refine az ?_ ?_
      ·exact ac _ _ 6
      refine az ?_ ?_
      ·exact ac _ _ 7
      refine az ?_ ?_
      ·refine ba C.g_len (fun ω h=>nomatch h) ii ?_
       refine af ?_ aw
       exact ac _ _ 8
      exact ar 1 _ _
     exact aI _ _ 6
    refine ah ?_ ?_
    ·refine cJ ?_ ?_ ?_
     ·refine bk U ?_ ?_
      ·exact ai _ _ 4
      exact ar 0 _ _
     ·refine ah ?_ ?_
      ·refine aL ?_ ?_ (fun ω ω=>rfl) (fun ω ω=>rfl)
       ·refine az ?_ ?_
        ·exact ac _ _ 6
        refine az ?_ ?_
        ·exact ac _ _ 7
        refine ba C.g_sum (fun ω h=>nomatch h) wL ?_
        refine af ?_ aw
        refine bf lT [11] (by decide +kernel) ?_ (bb (fun a=>aH a)) ?_
        ·refine bi ?_ ?_
         ·exact ac _ _ 2
         exact aI _ _ 11
        refine bd ?_ ?_
        ·refine gc ?_
         refine bk U ?_ ?_
         ·exact ai _ _ 4
         refine aC ?_ ?_
         ·exact ai _ _ 3
         exact ac _ _ 11
        refine aY ?_
        refine aC ?_ ?_
        ·exact ai _ _ 1
        exact ac _ _ 11
       exact aI _ _ 6
      exact aP
     exact aP
    exact aP
   exact aP
  exact aP
 refine ah ?_ ?_
 ·refine bZ ?_
  exact ac _ _ 6
 exact aP
theorem oj{X:Cx}{K:Frag}{ad:lz}(C:Ctx X K ad){k:Nat}(hk:k+1≤60):a8 X k (.ref ad.law_product) (dN) :=
 ol (vis:=iW) (N:=12) (C.U k (by trivial)) C.f_law_product (by decide +kernel) (oo C (by trivial))
noncomputable def Ez:List (Str×Nat) := [("script",0),("cells",1),("parents",2),("k",3),("figures",4),("weights",5),("dress",6),("top",7),("paths",8),("names",9),("heads",10),("texts",11),("answers",12),("rows",13),("table",14),("counted",15),("lists",16),("told",17),("strange",18),("manager",19),("places",20),("ports",21),("covers",22),("every",23),("lines",24),("rest",25),("minor",26)]
noncomputable def CM:List (Str×Nat) := [("k",27),("base",28),("script",0),("script",0)]
noncomputable def CL:List (Str×Nat) := [("k",29),("cells",1),("cells",1)]
noncomputable def CK:List (Str×Nat) := [("figure",30)]
noncomputable def CJ:List (Str×Nat) := [("k",31),("cells",1),("cells",1)]
noncomputable def CI:List (Str×Nat) := [("k",32),("parents",2),("parents",2),("top",7),("top",7)]
noncomputable def CH:List (Str×Nat) := [("k",33),("parents",2),("parents",2)]
noncomputable def CG:List (Str×Nat) := [("i",34)]
noncomputable def CF:List (Str×Nat) := [("k",35),("weights",5),("weights",5),("dress",6),("dress",6)]
noncomputable def CE:List (Str×Nat) := [("k",36),("weights",5),("weights",5),("heads",10),("heads",10)]
noncomputable def CD:List (Str×Nat) := [("k",37),("dress",6),("dress",6),("names",9),("names",9),("texts",11),("texts",11)]
noncomputable def zc:List (Str×Nat) := [("k",38),("paths",8),("paths",8),("answers",12),("answers",12)]
noncomputable def zb:List (Str×Nat) := [("k",39),("dress",6),("dress",6),("names",9),("names",9)]
noncomputable def za:List (Str×Nat) := [("k",40),("paths",8),("paths",8),("names",9),("names",9),("texts",11),("texts",11)]
noncomputable def y9:List (Str×Nat) := [("flag",41)]
noncomputable def y6:List (Str×Nat) := [("k",42),("weights",5),("weights",5),("paths",8),("paths",8),("answers",12),("answers",12),("counted",15),("counted",15)]
noncomputable def y0:List (Str×Nat) := [("pair",43),("port",44)]
noncomputable def yZ:List (Str×Nat) := [("answer",45)]
noncomputable def yY:List (Str×Nat) := [("port",46)]
noncomputable def yX:List (Str×Nat) := [("port",47)]
noncomputable def yW:List (Str×Nat) := [("answer",48)]
noncomputable def yV:List (Str×Nat) := [("path",49),("told",17),("told",17)]
noncomputable def yU:List (Str×Nat) := [("path",50),("told",17),("told",17)]
noncomputable def yT:List (Str×Nat) := [("one",51),("manager",19),("manager",19),("places",20),("places",20)]
noncomputable def yS:List (Str×Nat) := [("other",52),("one",51),("one",51),("manager",19),("manager",19)]
noncomputable def yR:List (Str×Nat) := [("row",53),("yes",54)]
noncomputable def yQ:List (Str×Nat) := [("i",55),("j",56),("covers",22),("covers",22)]
noncomputable def yP:List (Str×Nat) := [("place",57),("top",7),("top",7),("manager",19),("manager",19)]
noncomputable def yO:List (Str×Nat) := [("i",58),("ports",21),("ports",21),("covers",22),("covers",22),("every",23),("every",23)]
noncomputable def yN:List (Str×Nat) := [("j",59),("i",58),("i",58),("ports",21),("ports",21),("covers",22),("covers",22)]
noncomputable def yM:List (Str×Nat) := [("i",60),("cells",1),("cells",1),("places",20),("places",20)]
noncomputable def yL:List (Str×Nat) := [("i",61),("lines",24),("lines",24),("rest",25),("rest",25)]
noncomputable def yK:List (Str×Nat) := [("j",62),("i",61),("i",61),("lines",24),("lines",24)]
noncomputable def AC(ad:lz):MS:=ae (aX (aK [27,28] (m8 (bz (aa (mK (.int 25920000)) (aa (mK (.int 363792304)) (aa (mK (.int 422203924800)) (aa (mK (.int 5)) ak))))) (bJ (aV 27) (bJ (aV 28) io))) (bA (tK true) (ay (ap .Add (mV 28) (au (aa (fu (mV 0) (mV 27) (mK .none) (mK (.int 4))) ak) jL))))) (aV 1)) (
 ae (aX (jP (aa (iP (mK (.int 1))) (aa (mK (.int 0)) (aa (ap .Mod (ap .Mod (ao (mV 1) (mK (.int 0))) (mK (.int 60))) (mK (.int 2))) ak)))) (aV 2)) (
 ae (gV (aN (au (aa (mK (.int 3)) (aa (mK (.int 7)) ak)) aR) (aV 3)) (ae (dM (br "list" (mV 2) (aa (ap .Add (mK (.int 1)) (ap .Mod (ap .Mod (ap .FloorDiv (ao (mV 1) (mK (.int 0))) (ap .Pow (mK (.int 60)) (ap .Sub (mV 3) (mK (.int 2))))) (mK (.int 60))) (ap .Sub (mV 3) (mK (.int 1))))) ak) ej)) aM)) (
 ae (aX (aK [29] (aN (au (aa (mK (.int 7)) ak) aR) (aV 29)) (bA (tK true) (ay (ap .Mod (ap .FloorDiv (ao (mV 1) (mK (.int 1))) (ap .Pow (mK (.int 18)) (mV 29))) (mK (.int 18)))))) (aV 4)) (
 ae (aX (aK [30] (aN (mV 4) (aV 30)) (bA (tK true) (ay (hK (aW .Lt (mV 30) (mK (.int 9))) (ap .Sub (mV 30) (mK (.int 9))) (ap .Sub (mV 30) (mK (.int 8))))))) (aV 5)) (
 ae (aX (aK [31] (aN (au (aa (mK (.int 7)) ak) aR) (aV 31)) (bA (tK true) (ay (ap .Mod (ap .FloorDiv (ao (mV 1) (mK (.int 2))) (ap .Pow (mK (.int 64)) (mV 31))) (mK (.int 64)))))) (aV 6)) (
 ae (aX (ao (bz (aa (mK (.str [])) (aa (mK (.str [47])) ak))) (ap .Mod (ao (mV 1) (mK (.int 3))) (mK (.int 2)))) (aV 7)) (
 ae (aX (aK [32] (aN (au (aa (mK (.int 7)) ak) aR) (aV 32)) (bA (tK true) (ay (au (aa (mV 2) (aa (mV 32) (aa (mV 7) ak))) (dB 8))))) (aV 8)) (
 ae (aX (aK [33] (aN (au (aa (mK (.int 7)) ak) aR) (aV 33)) (bA (tK true) (ay (aK [34] (aN (au (aa (br "list" (mV 2) (aa (mV 33) ak) mP) ak) aR) (aV 34)) (bA (tK true) (ay (ap .Add (mK (.str [97])) (ap .Mult (mK (.str [98])) (mV 34))))))))) (aV 9)) (
 ae (aX (aK [35] (aN (au (aa (mK (.int 7)) ak) aR) (aV 35)) (bA (tK true) (ay (hK (aW .Gt (ao (mV 5) (mV 35)) (mK (.int 0))) (ao (bz (aa (mK (.str [])) (aa (mK (.str [43])) (aa (mK (.str [48])) (aa (mK (.str [43,48])) ak))))) (ap .Mod (ao (mV 6) (mV 35)) (mK (.int 4)))) (mK (.str [])))))) (aV 10)) (
 ae (aX (aK [36] (aN (au (aa (mK (.int 7)) ak) aR) (aV 36)) (bA (tK true) (ay (ap .Add (ao (mV 10) (mV 36)) (au (aa (ao (mV 5) (mV 36)) ak) Dp))))) (aV 11)) (
 ae (aX (aK [37] (aN (au (aa (mK (.int 7)) ak) aR) (aV 37)) (bA (tK true) (ay (au (aa (mV 37) (aa (ao (mV 9) (mV 37)) (aa (ao (mV 11) (mV 37)) (aa (ao (mV 6) (mV 37)) ak)))) (eg))))) (aV 12)) (
 ae (aX (jP (aa (ap .Add (mV 7) (mK (.str [61,50,50,57,32,111,107,61,41,32,70,76,65,71,83,32,40,32,32,32,49,32,41]))) ak)) (aV 13)) (
 ae (dM (br "list" (mV 13) (aa (aK [38] (aN (au (aa (mK (.int 7)) ak) aR) (aV 38)) (bA (tK true) (ay (ap .Add (ap .Add (ap .Add (ap .Add (ao (mV 8) (mV 38)) (mK (.str [61]))) (ap .Mult (mK (.str [34])) (ap .Mod (mV 38) (mK (.int 2))))) (ao (mV 12) (mV 38))) (ap .Mult (mK (.str [34])) (ap .Mod (mV 38) (mK (.int 2)))))))) ak) jM)) (
 ae (aX (au (aa (gC (mV 13)) ak) (bS)) (aV 14)) (
 ae (gI (aW .NotEq (qp (mV 14)) (Dw (mV 8) (mV 12))) (ae (dF (mK (.bool false))) aM) aM) (
 ae (aX (aK [39] (aN (au (aa (mK (.int 7)) ak) aR) (aV 39)) (bA (eC (aW .Lt (au (aa (ao (mV 9) (mV 39)) ak) dH) (mK (.int 3))) (eC (tJ (aW .NotEq (ap .Mod (ap .FloorDiv (ao (mV 6) (mV 39)) (mK (.int 4))) (mK (.int 4))) (mK (.int 3))) (tJ (aW .In (mV 39) (d8 (aa (mK (.int 0)) (aa (mK (.int 6)) ak)))) (tK false))) (tK true))) (ay (mV 39)))) (aV 15)) (
 ae (aX (d8 (aa mW (aa mW ak))) (ov 2 (bJ (aV 16) (bJ (aV 17) io)))) (
 ae (dM (au (aa (mV 14) (aa (mV 7) (aa (mV 16) (aa (mV 17) ak)))) (cf 9))) (
 ae (gI (aW .NotEq (mV 16) (jj [40] (aN (au (aa (mK (.int 7)) ak) aR) (aV 40)) (bA (tK true) (jU (ao (mV 8) (mV 40)) (au (aa (aK [41] (aN (ap .Add (ao (mV 9) (mV 40)) (bz (aa (ao (mV 11) (mV 40)) ak))) (aV 41)) (bA (tK true) (ay (br "str" (mV 41) ak iz)))) ak) qj))))) (ae (dF (mK (.bool false))) aM) aM) (
 ae (gI (aW .NotEq (mV 17) (jj [42] (aN (au (aa (mK (.int 7)) ak) aR) (aV 42)) (bA (tK true) (jU (ao (mV 8) (mV 42)) (hK (aW .In (mV 42) (mV 15)) (d8 (aa (mK (.str [104])) (aa (ao (mV 5) (mV 42)) ak))) (d8 (aa (ao (mV 12) (mV 42)) ak))))))) (ae (dF (mK (.bool false))) aM) aM) (
 ae (gI (aW .NotEq (aK [43,44] (aN (br "dict" (gC (mV 17)) ak qi) (aV 43)) (bA (tK true) (eQ [44] (aN (fu (mV 43) (mK (.int 1)) (mK .none) (mK .none)) (aV 44)) (bA (rt (gS (uO (mV 44)))) (ay (mV 44)))))) (bz ak)) (ae (dF (mK (.bool false))) aM) aM) (
 ae (aX (hM [45] (aN (mV 12) (aV 45)) (bA (tK true) (ay (ap .Add (fu (mV 45) (mK .none) (br "str" (mV 45) (aa (mK (.str [41])) (aa (mK (.int 16)) ak)) jg) (mK .none)) (mK (.str [120])))))) (aV 18)) (
 ae (dM (br "list" (mV 18) (aa (ap .Add (aK [46] (aN (mV 11) (aV 46)) (bA (tK true) (ay (ap .Add (ap .Add (mK (.str [50,50,57,32,50])) (mV 46)) (mK (.str [50,41])))))) (aK [47] (aN (mV 11) (aV 47)) (bA (tK true) (ay (ap .Add (ap .Add (mK (.str [50,50,57,32,40,124,49,124])) (mV 47)) (mK (.str [124,41]))))))) ak) jM)) (
 ae (gI (aW .NotEq (aK [48] (aN (gC (mV 18)) (aV 48)) (bA (aW .NotEq (au (aa (mV 48) ak) (bt)) (d8 (aa (mV 48) ak))) (ay (mV 48)))) (bz ak)) (ae (dF (mK (.bool false))) aM) aM) (
 ae (aX (mK (.inst ad.mgr)) (aV 19)) (
 ae (aX (aK [49] (aN (gC (mV 17)) (aV 49)) (bA (aW .Eq (au (aa (ao (mV 17) (mV 49)) ak) dH) (mK (.int 2))) (ay (d8 (aa (ao (ao (mV 17) (mV 49)) (mK (.int 0))) (aa (mV 49) ak)))))) (aV 20)) (
 ae (aX (aK [50] (aN (gC (mV 17)) (aV 50)) (bA (aW .Eq (au (aa (ao (mV 17) (mV 50)) ak) dH) (mK (.int 2))) (ay (ao (ao (mV 17) (mV 50)) (mK (.int 1)))))) (aV 21)) (
 ae (aX (aK [51] (aN (mV 20) (aV 51)) (bA (tK true) (ay (aK [52] (aN (mV 20) (aV 52)) (bA (tK true) (ay (og ad.mgr (mV 19) (aa (mV 51) (aa (mV 52) ak)) cg))))))) (aV 22)) (
 ae (gI (aW .NotEq (aK [53,54] (aN (mV 22) (aV 53)) (bA (tK true) (eQ [54] (aN (mV 53) (aV 54)) (bA (eC (aW .IsNot (mV 54) (mK (.bool true))) (eC (aW .IsNot (mV 54) (mK (.bool false))) (tK true))) (ay (mV 54)))))) (bz ak)) (ae (dF (mK (.bool false))) aM) aM) (
 ae (aX (au (aa (au (aa (mV 20) ak) dH) ak) aR) (aV 23)) (
 ae (gI (aW .NotEq (aK [55,56] (aN (mV 23) (aV 55)) (bA (tK true) (eQ [56] (aN (au (aa (mV 55) ak) aR) (aV 56)) (bA (gS (ao (ao (mV 22) (mV 55)) (mV 56))) (ay (mV 55)))))) (bz ak)) (ae (dF (mK (.bool false))) aM) aM) (
 ae (gI (aW .NotEq (aK [57] (aN (mV 20) (aV 57)) (bA (tJ (rt (gS (og ad.mgr (mV 19) (aa (mV 57) (aa (mV 57) ak)) cg))) (tJ (gS (og ad.mgr (mV 19) (aa (d8 (aa (mK (.str [103])) (aa (mV 7) ak))) (aa (mV 57) ak)) cg)) (tK false))) (ay (mV 57)))) (bz ak)) (ae (dF (mK (.bool false))) aM) aM) (
 ae (aX (aK [58] (aN (mV 23) (aV 58)) (bA (tK true) (ay (aK [59] (aN (mV 23) (aV 59)) (bA (tK true) (ay (hK (eC (aW .NotEq (mV 58) (mV 59)) (eC (tJ (gS (ao (ao (mV 22) (mV 58)) (mV 59))) (tJ (gS (ao (ao (mV 22) (mV 59)) (mV 58))) (tK false))) (tK true))) (ap .Mult (ao (mV 21) (mV 58)) (ao (mV 21) (mV 59))) (mK (.int 0))))))))) (aV 24)) (
 ae (aX (aK [60] (aN (mV 23) (aV 60)) (bA (aW .NotEq (mV 60) (ap .Mod (ap .FloorDiv (ao (mV 1) (mK (.int 3))) (mK (.int 2))) (au (aa (mV 20) ak) dH))) (ay (mV 60)))) (aV 25)) (
 ae (aX (aK [61] (aN (mV 25) (aV 61)) (bA (tK true) (ay (aK [62] (aN (mV 25) (aV 62)) (bA (tK true) (ay (hK (aW .Eq (mV 61) (mV 62)) (au (aa (ao (mV 24) (mV 61)) ak) jL) (iP (ao (ao (mV 24) (mV 61)) (mV 62)))))))))) (aV 26)) (
 ae (dF (xD .Eq (au (aa (mV 26) ak) (bT)) (au (aa (mV 2) (aa (mV 5) (aa (mV 15) ak))) (dN)))) (
 aM)))))))))))))))))))))))))))))))))))))
noncomputable def uB(ad:lz):eB:=jh 1 63 (AC ad)
theorem HR{X:Cx}{K:Frag}{ad:lz}(C:Ctx X K ad){k:Nat}(hk:k+12≤60):fw X k (bH pr 20) Ez (cy pr 20) (AC ad):=by
 have U:kq X k:=C.U k (by trivial)
 refine ah ?_ ?_
 ·refine aL ?_ ?_ (eS fun ω=>rfl) (fun ω ω=>rfl)
  ·refine bf CM [27,28] (by decide +kernel) ?_ (Dk (rY (fun a=>aH a) (rY (fun a=>aH a) Di))) ?_
   ·refine F6 C.g_enumerate ?_ ?_
    ·refine cO ?_
     refine af ?_ ?_
     ·exact ar 25920000 _ _
     refine af ?_ ?_
     ·exact ar 363792304 _ _
     refine af ?_ ?_
     ·exact ar 422203924800 _ _
     refine af ?_ aw
     exact ar 5 _ _
    refine dW ?_ ?_
    ·exact aI _ _ 27
    refine dW ?_ nB
    exact aI _ _ 28
   refine bd cq ?_
   refine aY ?_
   refine az ?_ ?_
   ·exact ac _ _ 28
   refine ba C.g_sum (fun ω h=>nomatch h) wL ?_
   refine af ?_ aw
   refine jE ?_ ?_ dr ?_
   ·exact ai _ _ 0
   ·refine eE ?_
    exact ac _ _ 27
   refine eE ?_
   exact ar 4 _ _
  exact bB _ _ 1
 refine ah ?_ ?_
 ·refine aL ?_ ?_ (fun ω ω=>rfl) (fun ω ω=>rfl)
  ·refine uc ?_
   refine af ?_ ?_
   ·refine mG ?_
    exact ar 1 _ _
   refine af ?_ ?_
   ·exact ar 0 _ _
   refine af ?_ aw
   refine az ?_ ?_
   ·refine az ?_ ?_
    ·refine aC ?_ ?_
     ·exact ai _ _ 1
     exact ar 0 _ _
    exact ar 60 _ _
   exact ar 2 _ _
  exact bB _ _ 2
 refine ah ?_ ?_
 ·refine gT ?_ ?_
  ·refine bi ?_ ?_
   ·refine ba C.g_range (fun ω h=>nomatch h) bI ?_
    refine af ?_ ?_
    ·exact ar 3 _ _
    refine af ?_ aw
    exact ar 7 _ _
   exact aI _ _ 3
  refine ah ?_ ?_
  ·refine iv ?_ (fun ω ω=>rfl)
   refine cx o0 s9 ?_ ?_
   ·exact ai _ _ 2
   refine af ?_ aw
   refine az ?_ ?_
   ·exact ar 1 _ _
   refine az ?_ ?_
   ·refine az ?_ ?_
    ·refine az ?_ ?_
     ·refine aC ?_ ?_
      ·exact ai _ _ 1
      exact ar 0 _ _
     refine az ?_ ?_
     ·exact ar 60 _ _
     refine az ?_ ?_
     ·exact ac _ _ 3
     exact ar 2 _ _
    exact ar 60 _ _
   refine az ?_ ?_
   ·exact ac _ _ 3
   exact ar 1 _ _
  exact aP
 refine ah ?_ ?_
 ·refine dK CL [29] (by decide +kernel) ?_ (bb (fun a=>aH a)) ?_ ?_ (eS fun ω=>rfl)
  ·refine bi ?_ ?_
   ·refine ba C.g_range (fun ω h=>nomatch h) bI ?_
    refine af ?_ aw
    exact ar 7 _ _
   exact aI _ _ 29
  ·refine bd cq ?_
   refine aY ?_
   refine az ?_ ?_
   ·refine az ?_ ?_
    ·refine aC ?_ ?_
     ·exact ai _ _ 1
     exact ar 1 _ _
    refine az ?_ ?_
    ·exact ar 18 _ _
    exact ac _ _ 29
   exact ar 18 _ _
  exact aI _ _ 4
 refine ah ?_ ?_
 ·refine aL ?_ ?_ (eS fun ω=>rfl) (fun ω ω=>rfl)
  ·refine bf CK [30] (by decide +kernel) ?_ (bb (fun a=>aH a)) ?_
   ·refine bi ?_ ?_
    ·exact ac _ _ 4
    exact aI _ _ 30
   refine bd cq ?_
   refine aY ?_
   refine mH ?_ ?_ ?_
   ·refine bk U ?_ ?_
    ·exact ac _ _ 30
    exact ar 9 _ _
   ·refine az ?_ ?_
    ·exact ac _ _ 30
    exact ar 9 _ _
   refine az ?_ ?_
   ·exact ac _ _ 30
   exact ar 8 _ _
  exact bB _ _ 5
 refine ah ?_ ?_
 ·refine aL ?_ ?_ (eS fun ω=>rfl) (fun ω ω=>rfl)
  ·refine bf CJ [31] (by decide +kernel) ?_ (bb (fun a=>aH a)) ?_
   ·refine bi ?_ ?_
    ·refine ba C.g_range (fun ω h=>nomatch h) bI ?_
     refine af ?_ aw
     exact ar 7 _ _
    exact aI _ _ 31
   refine bd cq ?_
   refine aY ?_
   refine az ?_ ?_
   ·refine az ?_ ?_
    ·refine aC ?_ ?_
     ·exact ai _ _ 1
     exact ar 2 _ _
    refine az ?_ ?_
    ·exact ar 64 _ _
    exact ac _ _ 31
   exact ar 64 _ _
  exact bB _ _ 6
 refine ah ?_ ?_
 ·refine aL ?_ ?_ (fun ω ω=>rfl) (fun ω ω=>rfl)
  ·refine aC ?_ ?_
   ·refine cO ?_
    refine af ?_ ?_
    ·exact bh _ [] _ _
    refine af ?_ aw
    exact bh _ [47] _ _
   refine az ?_ ?_
   ·refine aC ?_ ?_
    ·exact ai _ _ 1
    exact ar 3 _ _
   exact ar 2 _ _
  exact bB _ _ 7
 refine ah ?_ ?_
 ·refine aL ?_ ?_ (eS fun ω=>rfl) (fun ω ω=>rfl)
  ·refine bf CI [32] (by decide +kernel) ?_ (bb (fun a=>aH a)) ?_
   ·refine bi ?_ ?_
    ·refine ba C.g_range (fun ω h=>nomatch h) bI ?_
     refine af ?_ aw
     exact ar 7 _ _
    exact aI _ _ 32
   refine bd cq ?_
   refine aY ?_
   refine dL C.g_law_path C.f_law_path (vw C 8 (by trivial)) ?_
   refine af ?_ ?_
   ·exact ai _ _ 2
   refine af ?_ ?_
   ·exact ac _ _ 32
   refine af ?_ aw
   exact ai _ _ 7
  exact bB _ _ 8
 refine ah ?_ ?_
 ·refine aL ?_ ?_ (eS fun ω=>rfl) (fun ω ω=>rfl)
  ·refine bf CH [33] (by decide +kernel) ?_ (bb (fun a=>aH a)) ?_
   ·refine bi ?_ ?_
    ·refine ba C.g_range (fun ω h=>nomatch h) bI ?_
     refine af ?_ aw
     exact ar 7 _ _
    exact aI _ _ 33
   refine bd cq ?_
   refine aY ?_
   refine bf CG [34] (by decide +kernel) ?_ (bb (fun a=>aH a)) ?_
   ·refine bi ?_ ?_
    ·refine ba C.g_range (fun ω h=>nomatch h) bI ?_
     refine af ?_ aw
     refine cx Ay (Ee U) ?_ ?_
     ·exact ai _ _ 2
     refine af ?_ aw
     exact ac _ _ 33
    exact aI _ _ 34
   refine bd cq ?_
   refine aY ?_
   refine az ?_ ?_
   ·exact bh _ [97] _ _
   refine az ?_ ?_
   ·exact bh _ [98] _ _
   exact ac _ _ 34
  exact bB _ _ 9
 refine ah ?_ ?_
 ·refine aL ?_ ?_ (eS fun ω=>rfl) (fun ω ω=>rfl)
  ·refine bf CF [35] (by decide +kernel) ?_ (bb (fun a=>aH a)) ?_
   ·refine bi ?_ ?_
    ·refine ba C.g_range (fun ω h=>nomatch h) bI ?_
     refine af ?_ aw
     exact ar 7 _ _
    exact aI _ _ 35
   refine bd cq ?_
   refine aY ?_
   refine mH ?_ ?_ ?_
   ·refine bk U ?_ ?_
    ·refine aC ?_ ?_
     ·exact ai _ _ 5
     exact ac _ _ 35
    exact ar 0 _ _
   ·refine aC ?_ ?_
    ·refine cO ?_
     refine af ?_ ?_
     ·exact bh _ [] _ _
     refine af ?_ ?_
     ·exact bh _ [43] _ _
     refine af ?_ ?_
     ·exact bh _ [48] _ _
     refine af ?_ aw
     exact bh _ [43,48] _ _
    refine az ?_ ?_
    ·refine aC ?_ ?_
     ·exact ai _ _ 6
     exact ac _ _ 35
    exact ar 4 _ _
   exact bh _ [] _ _
  exact bB _ _ 10
 refine ah ?_ ?_
 ·refine aL ?_ ?_ (eS fun ω=>rfl) (fun ω ω=>rfl)
  ·refine bf CE [36] (by decide +kernel) ?_ (bb (fun a=>aH a)) ?_
   ·refine bi ?_ ?_
    ·refine ba C.g_range (fun ω h=>nomatch h) bI ?_
     refine af ?_ aw
     exact ar 7 _ _
    exact aI _ _ 36
   refine bd cq ?_
   refine aY ?_
   refine az ?_ ?_
   ·refine aC ?_ ?_
    ·exact ai _ _ 10
    exact ac _ _ 36
   refine ba C.g_str (fun ω h=>nomatch h) HH ?_
   refine af ?_ aw
   refine aC ?_ ?_
   ·exact ai _ _ 5
   exact ac _ _ 36
  exact bB _ _ 11
 refine ah ?_ ?_
 ·refine aL ?_ ?_ (eS fun ω=>rfl) (fun ω ω=>rfl)
  ·refine bf CD [37] (by decide +kernel) ?_ (bb (fun a=>aH a)) ?_
   ·refine bi ?_ ?_
    ·refine ba C.g_range (fun ω h=>nomatch h) bI ?_
     refine af ?_ aw
     exact ar 7 _ _
    exact aI _ _ 37
   refine bd cq ?_
   refine aY ?_
   refine dL C.g_law_answer C.f_law_answer (qE C (by trivial)) ?_
   refine af ?_ ?_
   ·exact ac _ _ 37
   refine af ?_ ?_
   ·refine aC ?_ ?_
    ·exact ai _ _ 9
    exact ac _ _ 37
   refine af ?_ ?_
   ·refine aC ?_ ?_
    ·exact ai _ _ 11
    exact ac _ _ 37
   refine af ?_ aw
   refine aC ?_ ?_
   ·exact ai _ _ 6
   exact ac _ _ 37
  exact bB _ _ 12
 refine ah ?_ ?_
 ·refine aL ?_ ?_ (fun ω ω=>rfl) (fun ω ω=>rfl)
  ·refine uc ?_
   refine af ?_ aw
   refine az ?_ ?_
   ·exact ai _ _ 7
   exact bh _ [61,50,50,57,32,111,107,61,41,32,70,76,65,71,83,32,40,32,32,32,49,32,41] _ _
  exact aI _ _ 13
 refine ah ?_ ?_
 ·refine iv ?_ (fun ω ω=>rfl)
  refine cx oZ s7 ?_ ?_
  ·exact ac _ _ 13
  refine af ?_ aw
  refine bf zc [38] (by decide +kernel) ?_ (bb (fun a=>aH a)) ?_
  ·refine bi ?_ ?_
   ·refine ba C.g_range (fun ω h=>nomatch h) bI ?_
    refine af ?_ aw
    exact ar 7 _ _
   exact aI _ _ 38
  refine bd cq ?_
  refine aY ?_
  refine az ?_ ?_
  ·refine az ?_ ?_
   ·refine az ?_ ?_
    ·refine az ?_ ?_
     ·refine aC ?_ ?_
      ·exact ai _ _ 8
      exact ac _ _ 38
     exact bh _ [61] _ _
    refine az ?_ ?_
    ·exact bh _ [34] _ _
    refine az ?_ ?_
    ·exact ac _ _ 38
    exact ar 2 _ _
   refine aC ?_ ?_
   ·exact ai _ _ 12
   exact ac _ _ 38
  refine az ?_ ?_
  ·exact bh _ [34] _ _
  refine az ?_ ?_
  ·exact ac _ _ 38
  exact ar 2 _ _
 refine ah ?_ ?_
 ·refine aL ?_ ?_ (fun ω ω=>rfl) (fun ω ω=>rfl)
  ·refine dL C.g_parse_keqv_list C.f_parse_keqv_list (j4 C (by trivial)) ?_
   refine af ?_ aw
   refine mI ?_
   exact ac _ _ 13
  exact aI _ _ 14
 refine ah ?_ ?_
 ·refine cJ ?_ ?_ ?_
  ·refine bk U ?_ ?_
   ·refine rI C.g_list ?_
    exact ac _ _ 14
   refine xf C.g_list C.g_zip ?_ ?_
   ·exact ai _ _ 8
   exact ai _ _ 12
  ·refine ah ?_ ?_
   ·refine bZ ?_
    exact eD false _ _
   exact aP
  exact aP
 refine ah ?_ ?_
 ·refine aL ?_ ?_ (eS fun ω=>rfl) (fun ω ω=>rfl)
  ·refine bf zb [39] (by decide +kernel) ?_ (bb (fun a=>aH a)) ?_
   ·refine bi ?_ ?_
    ·refine ba C.g_range (fun ω h=>nomatch h) bI ?_
     refine af ?_ aw
     exact ar 7 _ _
    exact aI _ _ 39
   refine bd ?_ ?_
   ·refine gc ?_
    refine gR ?_
    refine eq ?_ ?_
    ·refine bk U ?_ ?_
     ·refine ba C.g_len (fun ω h=>nomatch h) ii ?_
      refine af ?_ aw
      refine aC ?_ ?_
      ·exact ai _ _ 9
      exact ac _ _ 39
     exact ar 3 _ _
    refine eq ?_ nL
    refine gR ?_
    refine iJ ?_ ?_
    ·refine bk U ?_ ?_
     ·refine az ?_ ?_
      ·refine az ?_ ?_
       ·refine aC ?_ ?_
        ·exact ai _ _ 6
        exact ac _ _ 39
       exact ar 4 _ _
      exact ar 4 _ _
     exact ar 3 _ _
    refine iJ ?_ vN
    refine bk U ?_ ?_
    ·exact ac _ _ 39
    refine fZ ?_
    refine af ?_ ?_
    ·exact ar 0 _ _
    refine af ?_ aw
    exact ar 6 _ _
   refine aY ?_
   exact ac _ _ 39
  exact bB _ _ 15
 refine ah ?_ ?_
 ·refine aL ?_ ?_ (fun ω ω=>rfl) (eS fun ω=>rfl)
  ·refine fZ ?_
   refine af ?_ ?_
   ·exact ud
   refine af ?_ aw
   exact ud
  refine wV ?_
  refine dW ?_ ?_
  ·exact aI _ _ 16
  refine dW ?_ nB
  exact bB _ _ 17
 refine ah ?_ ?_
 ·refine iv ?_ (fun ω ω=>rfl)
  refine dL C.g_law_crawl C.f_law_crawl (sZ C 9 (by trivial)) ?_
  refine af ?_ ?_
  ·exact ac _ _ 14
  refine af ?_ ?_
  ·exact ai _ _ 7
  refine af ?_ ?_
  ·exact ac _ _ 16
  refine af ?_ aw
  exact ai _ _ 17
 refine ah ?_ ?_
 ·refine cJ ?_ ?_ ?_
  ·refine bk U ?_ ?_
   ·exact ac _ _ 16
   refine v4 za [40] (by decide +kernel) ?_ (bb (fun a=>aH a)) ?_
   ·refine bi ?_ ?_
    ·refine ba C.g_range (fun ω h=>nomatch h) bI ?_
     refine af ?_ aw
     exact ar 7 _ _
    exact aI _ _ 40
   refine bd cq ?_
   refine wE ?_ ?_
   ·refine aC ?_ ?_
    ·exact ai _ _ 8
    exact ac _ _ 40
   refine ba C.g_tuple (fun ω h=>nomatch h) wK ?_
   refine af ?_ aw
   refine bf y9 [41] (by decide +kernel) ?_ (bb (fun a=>aH a)) ?_
   ·refine bi ?_ ?_
    ·refine az ?_ ?_
     ·refine aC ?_ ?_
      ·exact ai _ _ 9
      exact ac _ _ 40
     refine cO ?_
     refine af ?_ aw
     refine aC ?_ ?_
     ·exact ai _ _ 11
     exact ac _ _ 40
    exact aI _ _ 41
   refine bd cq ?_
   refine aY ?_
   refine cx oY s8 ?_ aw
   exact ac _ _ 41
  ·refine ah ?_ ?_
   ·refine bZ ?_
    exact eD false _ _
   exact aP
  exact aP
 refine ah ?_ ?_
 ·refine cJ ?_ ?_ ?_
  ·refine bk U ?_ ?_
   ·exact ai _ _ 17
   refine v4 y6 [42] (by decide +kernel) ?_ (bb (fun a=>aH a)) ?_
   ·refine bi ?_ ?_
    ·refine ba C.g_range (fun ω h=>nomatch h) bI ?_
     refine af ?_ aw
     exact ar 7 _ _
    exact aI _ _ 42
   refine bd cq ?_
   refine wE ?_ ?_
   ·refine aC ?_ ?_
    ·exact ai _ _ 8
    exact ac _ _ 42
   refine mH ?_ ?_ ?_
   ·refine bk U ?_ ?_
    ·exact ac _ _ 42
    exact ai _ _ 15
   ·refine fZ ?_
    refine af ?_ ?_
    ·exact bh _ [104] _ _
    refine af ?_ aw
    refine aC ?_ ?_
    ·exact ai _ _ 5
    exact ac _ _ 42
   refine fZ ?_
   refine af ?_ aw
   refine aC ?_ ?_
   ·exact ai _ _ 12
   exact ac _ _ 42
  ·refine ah ?_ ?_
   ·refine bZ ?_
    exact eD false _ _
   exact aP
  exact aP
 refine ah ?_ ?_
 ·refine cJ ?_ ?_ ?_
  ·refine bk U ?_ ?_
   ·refine bf y0 [43,44] (by decide +kernel) ?_ (bb (fun a=>aH a)) ?_
    ·refine bi ?_ ?_
     ·refine cx xB BD ?_ aw
      refine mI ?_
      exact ai _ _ 17
     exact aI _ _ 43
    refine u1 [44] (bO.list _ _ _) cq ?_ (bb (fun a=>aH a)) ?_
    ·refine bi ?_ ?_
     ·refine jE ?_ ?_ dr dr
      ·exact ac _ _ 43
      refine eE ?_
      exact ar 1 _ _
     exact aI _ _ 44
    refine bd ?_ ?_
    ·refine gc ?_
     refine zs ?_
     refine mx ?_
     refine CZ C.g_isinstance C.g_int ?_
     exact ac _ _ 44
    refine aY ?_
    exact ac _ _ 44
   exact cO aw
  ·refine ah ?_ ?_
   ·refine bZ ?_
    exact eD false _ _
   exact aP
  exact aP
 refine ah ?_ ?_
 ·refine nU yZ [45] (by decide +kernel) ?_ (bb (fun a=>aH a)) ?_ ?_ (eS fun ω=>rfl)
  ·refine bi ?_ ?_
   ·exact ai _ _ 12
   exact aI _ _ 45
  ·refine bd cq ?_
   refine aY ?_
   refine az ?_ ?_
   ·refine jE ?_ dr ?_ dr
    ·exact ac _ _ 45
    refine eE ?_
    refine cx Av Ec ?_ ?_
    ·exact ac _ _ 45
    refine af ?_ ?_
    ·exact bh _ [41] _ _
    refine af ?_ aw
    exact ar 16 _ _
   exact bh _ [120] _ _
  exact aI _ _ 18
 refine ah ?_ ?_
 ·refine iv ?_ (fun ω ω=>rfl)
  refine cx oZ s7 ?_ ?_
  ·exact ac _ _ 18
  refine af ?_ aw
  refine az ?_ ?_
  ·refine bf yY [46] (by decide +kernel) ?_ (bb (fun a=>aH a)) ?_
   ·refine bi ?_ ?_
    ·exact ai _ _ 11
    exact aI _ _ 46
   refine bd cq ?_
   refine aY ?_
   refine az ?_ ?_
   ·refine az ?_ ?_
    ·exact bh _ [50,50,57,32,50] _ _
    exact ac _ _ 46
   exact bh _ [50,41] _ _
  refine bf yX [47] (by decide +kernel) ?_ (bb (fun a=>aH a)) ?_
  ·refine bi ?_ ?_
   ·exact ai _ _ 11
   exact aI _ _ 47
  refine bd cq ?_
  refine aY ?_
  refine az ?_ ?_
  ·refine az ?_ ?_
   ·exact bh _ [50,50,57,32,40,124,49,124] _ _
   exact ac _ _ 47
  exact bh _ [124,41] _ _
 refine ah ?_ ?_
 ·refine cJ ?_ ?_ ?_
  ·refine bk U ?_ ?_
   ·refine bf yW [48] (by decide +kernel) ?_ (bb (fun a=>aH a)) ?_
    ·refine bi ?_ ?_
     ·refine mI ?_
      exact ac _ _ 18
     exact aI _ _ 48
    refine bd ?_ ?_
    ·refine gc ?_
     refine bk U ?_ ?_
     ·refine dL C.g_law_told C.f_law_told (ny C (by trivial)) ?_
      refine af ?_ aw
      exact ac _ _ 48
     refine fZ ?_
     refine af ?_ aw
     exact ac _ _ 48
    refine aY ?_
    exact ac _ _ 48
   exact cO aw
  ·refine ah ?_ ?_
   ·refine bZ ?_
    exact eD false _ _
   exact aP
  exact aP
 refine ah ?_ ?_
 ·refine aL ?_ ?_ (fun ω ω=>rfl) (fun ω ω=>rfl)
  ·exact FA U C.mgr C.g_mgr
  exact bB _ _ 19
 refine ah ?_ ?_
 ·refine aL ?_ ?_ (eS fun ω=>rfl) (fun ω ω=>rfl)
  ·refine bf yV [49] (by decide +kernel) ?_ (bb (fun a=>aH a)) ?_
   ·refine bi ?_ ?_
    ·refine mI ?_
     exact ai _ _ 17
    exact aI _ _ 49
   refine bd ?_ ?_
   ·refine gc ?_
    refine bk U ?_ ?_
    ·refine ba C.g_len (fun ω h=>nomatch h) ii ?_
     refine af ?_ aw
     refine aC ?_ ?_
     ·exact ai _ _ 17
     exact ac _ _ 49
    exact ar 2 _ _
   refine aY ?_
   refine fZ ?_
   refine af ?_ ?_
   ·refine aC ?_ ?_
    ·refine aC ?_ ?_
     ·exact ai _ _ 17
     exact ac _ _ 49
    exact ar 0 _ _
   refine af ?_ aw
   exact ac _ _ 49
  exact bB _ _ 20
 refine ah ?_ ?_
 ·refine aL ?_ ?_ (eS fun ω=>rfl) (fun ω ω=>rfl)
  ·refine bf yU [50] (by decide +kernel) ?_ (bb (fun a=>aH a)) ?_
   ·refine bi ?_ ?_
    ·refine mI ?_
     exact ai _ _ 17
    exact aI _ _ 50
   refine bd ?_ ?_
   ·refine gc ?_
    refine bk U ?_ ?_
    ·refine ba C.g_len (fun ω h=>nomatch h) ii ?_
     refine af ?_ aw
     refine aC ?_ ?_
     ·exact ai _ _ 17
     exact ac _ _ 50
    exact ar 2 _ _
   refine aY ?_
   refine aC ?_ ?_
   ·refine aC ?_ ?_
    ·exact ai _ _ 17
    exact ac _ _ 50
   exact ar 1 _ _
  exact bB _ _ 21
 refine ah ?_ ?_
 ·refine aL ?_ ?_ (eS fun ω=>rfl) (fun ω ω=>rfl)
  ·refine bf yT [51] (by decide +kernel) ?_ (bb (fun a=>aH a)) ?_
   ·refine bi ?_ ?_
    ·exact ai _ _ 20
    exact bB _ _ 51
   refine bd cq ?_
   refine aY ?_
   refine bf yS [52] (by decide +kernel) ?_ (bb (fun a=>aH a)) ?_
   ·refine bi ?_ ?_
    ·exact ai _ _ 20
    exact aI _ _ 52
   refine bd cq ?_
   refine aY ?_
   refine ub C.mgr (ij C (by trivial)) ?_ ?_
   ·exact ai _ _ 19
   refine af ?_ ?_
   ·exact ai _ _ 51
   refine af ?_ aw
   exact ac _ _ 52
  exact bB _ _ 22
 refine ah ?_ ?_
 ·refine cJ ?_ ?_ ?_
  ·refine bk U ?_ ?_
   ·refine bf yR [53,54] (by decide +kernel) ?_ (bb (fun a=>aH a)) ?_
    ·refine bi ?_ ?_
     ·exact ai _ _ 22
     exact aI _ _ 53
    refine u1 [54] (bO.list _ _ _) cq ?_ (bb (fun a=>aH a)) ?_
    ·refine bi ?_ ?_
     ·exact ac _ _ 53
     exact aI _ _ 54
    refine bd ?_ ?_
    ·refine gc ?_
     refine gR ?_
     refine eq ?_ ?_
     ·refine bk U ?_ ?_
      ·exact ac _ _ 54
      exact eD true _ _
     refine eq ?_ nL
     refine bk U ?_ ?_
     ·exact ac _ _ 54
     exact eD false _ _
    refine aY ?_
    exact ac _ _ 54
   exact cO aw
  ·refine ah ?_ ?_
   ·refine bZ ?_
    exact eD false _ _
   exact aP
  exact aP
 refine ah ?_ ?_
 ·refine aL ?_ ?_ (fun ω ω=>rfl) (fun ω ω=>rfl)
  ·refine ba C.g_range (fun ω h=>nomatch h) bI ?_
   refine af ?_ aw
   refine ba C.g_len (fun ω h=>nomatch h) ii ?_
   refine af ?_ aw
   exact ai _ _ 20
  exact bB _ _ 23
 refine ah ?_ ?_
 ·refine cJ ?_ ?_ ?_
  ·refine bk U ?_ ?_
   ·refine bf yQ [55,56] (by decide +kernel) ?_ (bb (fun a=>aH a)) ?_
    ·refine bi ?_ ?_
     ·exact ai _ _ 23
     exact aI _ _ 55
    refine u1 [56] (bO.list _ _ _) cq ?_ (bb (fun a=>aH a)) ?_
    ·refine bi ?_ ?_
     ·refine ba C.g_range (fun ω h=>nomatch h) bI ?_
      refine af ?_ aw
      exact ac _ _ 55
     exact aI _ _ 56
    refine bd ?_ ?_
    ·refine gc ?_
     refine mx ?_
     refine aC ?_ ?_
     ·refine aC ?_ ?_
      ·exact ai _ _ 22
      exact ac _ _ 55
     exact ac _ _ 56
    refine aY ?_
    exact ac _ _ 55
   exact cO aw
  ·refine ah ?_ ?_
   ·refine bZ ?_
    exact eD false _ _
   exact aP
  exact aP
 refine ah ?_ ?_
 ·refine cJ ?_ ?_ ?_
  ·refine bk U ?_ ?_
   ·refine bf yP [57] (by decide +kernel) ?_ (bb (fun a=>aH a)) ?_
    ·refine bi ?_ ?_
     ·exact ai _ _ 20
     exact aI _ _ 57
    refine bd ?_ ?_
    ·refine gc ?_
     refine gR ?_
     refine iJ ?_ ?_
     ·refine zs ?_
      refine mx ?_
      refine ub C.mgr (ij C (by trivial)) ?_ ?_
      ·exact ai _ _ 19
      refine af ?_ ?_
      ·exact ac _ _ 57
      refine af ?_ aw
      exact ac _ _ 57
     refine iJ ?_ vN
     refine mx ?_
     refine ub C.mgr (ij C (by trivial)) ?_ ?_
     ·exact ai _ _ 19
     refine af ?_ ?_
     ·refine fZ ?_
      refine af ?_ ?_
      ·exact bh _ [103] _ _
      refine af ?_ aw
      exact ai _ _ 7
     refine af ?_ aw
     exact ac _ _ 57
    refine aY ?_
    exact ac _ _ 57
   exact cO aw
  ·refine ah ?_ ?_
   ·refine bZ ?_
    exact eD false _ _
   exact aP
  exact aP
 refine ah ?_ ?_
 ·refine aL ?_ ?_ (eS fun ω=>rfl) (fun ω ω=>rfl)
  ·refine bf yO [58] (by decide +kernel) ?_ (bb (fun a=>aH a)) ?_
   ·refine bi ?_ ?_
    ·exact ai _ _ 23
    exact bB _ _ 58
   refine bd cq ?_
   refine aY ?_
   refine bf yN [59] (by decide +kernel) ?_ (bb (fun a=>aH a)) ?_
   ·refine bi ?_ ?_
    ·exact ai _ _ 23
    exact aI _ _ 59
   refine bd cq ?_
   refine aY ?_
   refine mH ?_ ?_ ?_
   ·refine gR ?_
    refine eq ?_ ?_
    ·refine bk U ?_ ?_
     ·exact ai _ _ 58
     exact ac _ _ 59
    refine eq ?_ nL
    refine gR ?_
    refine iJ ?_ ?_
    ·refine mx ?_
     refine aC ?_ ?_
     ·refine aC ?_ ?_
      ·exact ai _ _ 22
      exact ai _ _ 58
     exact ac _ _ 59
    refine iJ ?_ vN
    refine mx ?_
    refine aC ?_ ?_
    ·refine aC ?_ ?_
     ·exact ai _ _ 22
     exact ac _ _ 59
    exact ai _ _ 58
   ·refine az ?_ ?_
    ·refine aC ?_ ?_
     ·exact ai _ _ 21
     exact ai _ _ 58
    refine aC ?_ ?_
    ·exact ai _ _ 21
    exact ac _ _ 59
   exact ar 0 _ _
  exact bB _ _ 24
 refine ah ?_ ?_
 ·refine aL ?_ ?_ (eS fun ω=>rfl) (fun ω ω=>rfl)
  ·refine bf yM [60] (by decide +kernel) ?_ (bb (fun a=>aH a)) ?_
   ·refine bi ?_ ?_
    ·exact ai _ _ 23
    exact aI _ _ 60
   refine bd ?_ ?_
   ·refine gc ?_
    refine bk U ?_ ?_
    ·exact ac _ _ 60
    refine az ?_ ?_
    ·refine az ?_ ?_
     ·refine aC ?_ ?_
      ·exact ai _ _ 1
      exact ar 3 _ _
     exact ar 2 _ _
    refine ba C.g_len (fun ω h=>nomatch h) ii ?_
    refine af ?_ aw
    exact ai _ _ 20
   refine aY ?_
   exact ac _ _ 60
  exact bB _ _ 25
 refine ah ?_ ?_
 ·refine dK yL [61] (by decide +kernel) ?_ (bb (fun a=>aH a)) ?_ ?_ (eS fun ω=>rfl)
  ·refine bi ?_ ?_
   ·exact ai _ _ 25
   exact bB _ _ 61
  ·refine bd cq ?_
   refine aY ?_
   refine bf yK [62] (by decide +kernel) ?_ (bb (fun a=>aH a)) ?_
   ·refine bi ?_ ?_
    ·exact ai _ _ 25
    exact aI _ _ 62
   refine bd cq ?_
   refine aY ?_
   refine mH ?_ ?_ ?_
   ·refine bk U ?_ ?_
    ·exact ai _ _ 61
    exact ac _ _ 62
   ·refine ba C.g_sum (fun ω h=>nomatch h) wL ?_
    refine af ?_ aw
    refine aC ?_ ?_
    ·exact ai _ _ 24
    exact ai _ _ 61
   refine mG ?_
   refine aC ?_ ?_
   ·refine aC ?_ ?_
    ·exact ai _ _ 24
    exact ai _ _ 61
   exact ac _ _ 62
  exact aI _ _ 26
 refine ah ?_ ?_
 ·refine bZ ?_
  refine GY U ?_ ?_
  ·refine dL C.g_law_determinant C.f_law_determinant (j5 C (by trivial)) ?_
   refine af ?_ aw
   exact ac _ _ 26
  refine dL C.g_law_product C.f_law_product (oj C (by trivial)) ?_
  refine af ?_ ?_
  ·exact ai _ _ 2
  refine af ?_ ?_
  ·exact ai _ _ 5
  refine af ?_ aw
  exact ai _ _ 15
 exact aP
theorem c_law{X:Cx}{K:Frag}{ad:lz}(C:Ctx X K ad){k:Nat}(hk:k+13≤60):a8 X k (.ref ad.law) (uB ad) :=
 ol (vis:=Ez) (N:=63) (C.U k (by trivial)) C.f_law (by decide +kernel) (HR C (by trivial))
end
section
section
variable{m n m1 m2 m3:ME}{r:ML}{op:eB}{η:be}{σ σ':St}{t u:MT}{a b c d:AV}{x y:List Nat}{i j:Int}{k:Nat}{l xs ys:List AV}
noncomputable def kS(x:Option (fU×be×St))(r:MS):Option (fU×be×St):=oS x r
theorem dj{m r:MS} : ae m r η σ=kS (m η σ) r:=rfl
theorem cP{α β γ:Type}{x:α}{s:γ}{f:α→γ→Option β} : oB (some (x,s)) f=f x s:=rfl
theorem Dq{α β:Type}{x:α}{f:α→Option β} : o1 (some x) f=f x:=rfl
theorem eP{f:MS} : oF (some (.next,η,σ)) f=f η σ:=rfl
theorem Hb{β γ:Type}{s:γ}{f g:γ→Option β} : oT (some (true,s)) f g=f s:=rfl
noncomputable def F4(x:Option (AV×St))(t:AV→aA)(η:be):Option (be×St):=oB x fun a σ=>t a η σ
noncomputable def Hv(x:Option (be×St)):Option (fU×be×St):=oB x fun η σ=>some (.next,η,σ)
theorem yH{t:AV→aA} : aX m t η σ=Hv (F4 (m η σ) t η):=by
 unfold aX F4 Hv
 cases m η σ <;> rfl
theorem o8{t:AV→aA} : F4 (some (a,σ)) t η=t a η σ:=rfl
theorem zd:aV k a η σ=if k<η.length then some (η.set k a,σ)else none:=rfl
noncomputable def IE{β:Type}(x:Option (Bool×St))(b o:be→St→Option β)(η:be):Option β:=oT x (fun σ=>b η σ) (fun σ=>o η σ)
theorem vV{b o:MS} : gI t b o η σ=IE (t η σ) b o η:=rfl
theorem yJ:hK t m n η σ=IE (t η σ) m n η:=rfl
theorem m5{β:Type}{b o:be→St→Option β} : IE (some (true,σ)) b o η=b η σ:=rfl
noncomputable def IC(x:Option (AV×St))(η:be):Option (fU×be×St):=oB x fun a σ=>some (.ret a,η,σ)
theorem Fe:dF m η σ=IC (m η σ) η:=rfl
noncomputable def Jj(x:Option (AV×St))(η:be):Option (fU×be×St):=oB x fun ω σ=>some (.next,η,σ)
theorem Cw:dM m η σ=Jj (m η σ) η:=rfl
noncomputable def kV(x:Option AV)(σ:St):Option (AV×St):=o1 x fun v=>Ib v σ
theorem Il:mV k η σ=kV η[k]? σ:=rfl
noncomputable def k2(x:Option (AV×St))(n:ME)(η:be)(f:AV→AV→St→Option (AV×St)):Option (AV×St):=oB x fun a σ=>oB (n η σ) fun b σ=>f a b σ
noncomputable def I1(a:AV)(y:Option (AV×St))(f:AV→AV→St→Option (AV×St)):Option (AV×St):=oB y fun b σ=>f a b σ
theorem Fl{o:Operator} : ap o m n η σ=k2 (m η σ) n η (bF o):=rfl
theorem Fk{o:CmpOp} : xD o m n η σ=k2 (m η σ) n η (bW o):=rfl
theorem Fj:ao m n η σ=k2 (m η σ) n η aZ:=rfl
theorem l6{f:AV→AV→St→Option (AV×St)} : k2 (some (a,σ)) n η f=I1 a (n η σ) f:=rfl
theorem AW{f:AV→AV→St→Option (AV×St)} : I1 a (some (b,σ)) f=f a b σ:=rfl
noncomputable def kT(x:Option (AV×St)):Option (Bool×St):=oB x fun a σ=>Ei a fun b=>some (b,σ)
theorem Fd{o:CmpOp} : aW o m n η σ=kT (k2 (m η σ) n η (bW o)):=rfl
noncomputable def Je(x:Option (AV×St)):Option (Bool×St):=oB x fun a σ=>o1 (kX σ a) fun b=>some (b,σ)
theorem Fb:gS m η σ=Je (m η σ):=rfl
noncomputable def kN(x:Option (Bool×St)):Option (Bool×St):=oB x fun b σ=>some (!b,σ)
theorem Fc:rt t η σ=kN (t η σ):=rfl
noncomputable def kA(x:Option (Bool×St))(u:MT)(η:be):Option (Bool×St):=oT x (fun σ=>u η σ) (fun σ=>some (false,σ))
noncomputable def kO(x:Option (Bool×St))(u:MT)(η:be):Option (Bool×St):=oT x (fun σ=>some (true,σ)) (fun σ=>u η σ)
theorem tQ:eC t u η σ=kA (t η σ) u η:=rfl
theorem Ey:tJ t u η σ=kO (t η σ) u η:=rfl
noncomputable def Jf(x:Option (AV×St)):Option (AV×St):=oB x fun a σ=>fT a fun i=>some (.int (-i),σ)
theorem Fi:iP m η σ=Jf (m η σ):=rfl
noncomputable def kL(x:Option (AV×St))(r:ML)(η:be):Option (List AV×St):=oB x fun a σ=>oB (r η σ) fun l σ=>some (a::l,σ)
noncomputable def Jh(a:AV)(y:Option (List AV×St)):Option (List AV×St):=oB y fun l σ=>some (a::l,σ)
theorem CN:aa m r η σ=kL (m η σ) r η:=rfl
theorem DU:kL (some (a,σ)) r η=Jh a (r η σ):=rfl
noncomputable def kC{β:Type}(x:Option (List AV×St))(op:List AV→St→Option β):Option β:=oB x fun l σ=>op l σ
theorem CB:au r op η σ=kC (r η σ) op:=rfl
theorem Fg:d8 r η σ=kC (r η σ) Cv:=rfl
theorem CA:bz r η σ=kC (r η σ) rg:=rfl
theorem Cu(h:l.length≤16777216):Cv l σ=some (.tup l,σ):=if_pos (decide_eq_true h)
theorem rf(h:l.length≤16777216):rg l σ=some (.list l,σ):=if_pos (decide_eq_true h)
noncomputable def kM(T:String)(x:Option (AV×St))(r:ML)(op:eB)(η:be):Option (AV×St):=oB x fun a σ=>if pL σ a=some T then oB (r η σ) fun l σ=>op (a::l) σ else none
noncomputable def Jg(a:AV)(y:Option (List AV×St))(op:eB):Option (AV×St):=oB y fun l σ=>op (a::l) σ
theorem Cz{T:String} : br T m r op η σ=kM T (m η σ) r op η:=rfl
noncomputable def kD(C:Addr)(x:Option (AV×St))(r:ML)(op:eB)(η:be):Option (AV×St):=oB x fun a σ=>vH a fun D=>if D=C then oB (r η σ) fun l σ=>op (.inst C::l) σ else none
theorem Fh{C:Addr} : og C m r op η σ=kD C (m η σ) r op η:=rfl
theorem DV{C:Addr} : kD C (some (.inst C,σ)) r op η=Jg (.inst C) (r η σ) op:=if_pos rfl
noncomputable def IZ(x:Option (AV×St))(lo hi st:ME)(η:be):Option (AV×St):=oB x fun a σ=>oB (lo η σ) fun l σ=>oB (hi η σ) fun h σ=>oB (st η σ) fun t σ=>ci a l h t σ
noncomputable def Ht(a:AV)(x:Option (AV×St))(hi st:ME)(η:be):Option (AV×St):=oB x fun l σ=>oB (hi η σ) fun h σ=>oB (st η σ) fun t σ=>ci a l h t σ
noncomputable def IB(a l:AV)(x:Option (AV×St))(st:ME)(η:be):Option (AV×St):=oB x fun h σ=>oB (st η σ) fun t σ=>ci a l h t σ
theorem yI:fu m m1 m2 m3 η σ=IZ (m η σ) m1 m2 m3 η:=rfl
theorem sr:IZ (some (a,σ)) m1 m2 m3 η=Ht a (m1 η σ) m2 m3 η:=rfl
theorem xW:Ht a (some (b,σ)) m2 m3 η=IB a b (m2 η σ) m3 η:=rfl
noncomputable def I0(x:Option (AV×St))(k:Nat)(m:ME)(η:be):Option (fU×be×St):=oB x fun a σ=>iI a fun x=>oB (m η σ) fun b σ=>iI b fun y=>oB (lS (x++y) σ) fun a σ=>oB (aV k a η σ) fun η σ=>some (.next,η,σ)
noncomputable def Hw(x:List Nat)(y:Option (AV×St))(k:Nat)(η:be):Option (be×St):=oB y fun b σ=>iI b fun y=>oB (lS (x++y) σ) fun a σ=>aV k a η σ
theorem Cy:v5 k m η σ=I0 (mV k η σ) k m η:=rfl
theorem AU:I0 (some (.str x,σ)) k m η=Hv (Hw x (m η σ) k η):=by
 show(oB (m η σ) fun b σ=>iI b fun y=>oB (lS (x++y) σ) fun a σ=>oB (aV k a η σ) fun η σ=>some (.next,η,σ))=Hv (oB (m η σ) fun b σ=>iI b fun y=>oB (lS (x++y) σ) fun a σ=>aV k a η σ)
 cases m η σ with
 | none=>rfl
 | some p =>
  obtain⟨a,s⟩:=p
  cases a with
  | str y =>
   show(oB (lS (x++y) s) fun a σ=>oB (aV k a η σ) fun η σ=>some (.next,η,σ))=Hv (oB (lS (x++y) s) fun a σ=>aV k a η σ)
   cases lS (x++y) s <;> rfl
  | _=>rfl
theorem pI(h:x.length≤16777216):lS x σ=some (.str x,σ):=if_pos (decide_eq_true h)
theorem xX(h:(x++y).length≤16777216):Hw x (some (.str y,σ)) k η=aV k (.str (x++y)) η σ:=by
 show(oB (lS (x++y) σ) fun a σ=>aV k a η σ)=_
 rw[pI h];rfl
theorem Gp:bF .Add (.int i) (.int j) σ=some (.int (i+j),σ):=rfl
theorem vB:bF .Sub (.int i) (.int j) σ=some (.int (i - j),σ):=rfl
theorem uD{i:Int}(h:i.natAbs<18446744073709551616):kK i=true:=ix h
theorem jq(hi:kK i=true)(hj:kK j=true):bF .Mult (.int i) (.int j) σ=some (.int (i * j),σ):=if_pos (by rw[hi,hj];rfl)
theorem vC(h0:0<j)(hj:kK j=true):bF .FloorDiv (.int i) (.int j) σ=some (.int (i / j),σ):=by
 show(if ¬ j=0 then if kK j then some (AV.int (i.fdiv j),σ)else none else none)=_
 rw[if_pos (by trivial),if_pos hj,Int.fdiv_eq_ediv_of_nonneg _ (Int.le_of_lt h0)]
theorem nA(h0:0<j):bF .Mod (.int i) (.int j) σ=some (.int (i % j),σ):=by
 show(if ¬ j=0 then some (AV.int (i.fmod j),σ)else none)=_
 rw[if_pos (by trivial),Int.fmod_eq_emod_of_nonneg _ (Int.le_of_lt h0)]
theorem BN(h0:0≤j)(h1:j≤1000000)(hi:i.natAbs<18446744073709551616):bF .Pow (.int i) (.int j) σ=some (.int (i ^ j.toNat),σ) :=
 if_pos (by rw[decide_eq_true h0,decide_eq_true h1];exact decide_eq_true hi)
theorem ik(h:(x++y).length≤16777216):bF .Add (.str x) (.str y) σ=some (.str (x++y),σ):=pI h
theorem BL(h:(xs++ys).length≤16777216):bF .Add (.list xs) (.list ys) σ=some (.list (xs++ys),σ):=rf h
theorem Du(h0:0≤j)(h1:j<1048576):(kK j&&decide (j<1048576)&&decide (-1048576<j))=true:=by
 rw[ix (by trivial),decide_eq_true h1,decide_eq_true (by trivial)];rfl
theorem BK(h0:0≤j)(h1:j<1048576)(h:(List.replicate j.toNat x).flatten.length≤16777216):bF .Mult (.str x) (.int j) σ=some (.str (List.replicate j.toNat x).flatten,σ) :=
 (if_pos (Du h0 h1)).trans (pI h)
theorem BF:bW .Lt (.int i) (.int j) σ=some (.bool (decide (i<j)),σ):=rfl
theorem EZ:bW .Gt (.int i) (.int j) σ=some (.bool (decide (j<i)),σ):=rfl
theorem HM:bW .GtE (.int i) (.int j) σ=some (.bool (decide (j≤i)),σ):=rfl
theorem lP:bW .Eq (.int i) (.int j) σ=some (.bool (i==j),σ):=rfl
theorem px:bW .NotEq (.int i) (.int j) σ=some (.bool (!(i==j)),σ):=rfl
theorem HP:bW .Eq (.str x) (.str y) σ=some (.bool (x==y),σ):=rfl
theorem wA{n:Nat}(k:Nat)(h:k<n)(hk:k<4611686018427387904):EV (k:Int) n=some k:=by
 unfold EV
 rw[if_pos (by trivial),if_pos (by trivial)];rfl
theorem wO(k:Nat)(h:xs[k]? = some a)(hk:k<4611686018427387904):Ic xs (k:Int) σ=some (a,σ):=by
 unfold Ic
 rw[wA k (List.getElem?_eq_some_iff.mp h).1 hk]
 show o1 xs[k]? _=_
 rw[h];rfl
theorem dp(k:Nat)(h:xs[k]? = some a)(hk:k<4611686018427387904):aZ (.list xs) (.int k) σ=some (a,σ):=wO k h hk
theorem FR(k:Nat)(h:xs[k]? = some a)(hk:k<4611686018427387904):aZ (.tup xs) (.int k) σ=some (a,σ):=wO k h hk
theorem qg{ch:Nat}(k:Nat)(h:x[k]? = some ch)(hk:k<4611686018427387904):aZ (.str x) (.int k) σ=some (.str [ch],σ):=by
 show HS x k σ=_
 unfold HS
 rw[wA k (List.getElem?_eq_some_iff.mp h).1 hk]
 show o1 x[k]? _=_
 rw[h];rfl
theorem DZ{n:Nat}(h:1≤n):EV (-1) n=some (n - 1):=by
 unfold EV
 rw[if_neg (by decide),if_pos ⟨by trivial,by decide⟩]
 exact congrArg some (by trivial)
theorem gu{q:Nat}{D:List (List Nat×AV)}{k:List Nat}(h:σ[q]? = some (.dict D))(hl:D.length≤16777216):setCell σ q (.str k) a=some (σ.set q (.dict (gM D k a))):=by
 unfold setCell
 rw[h]
 show o1 (if dX D.length then some (aO.dict (gM D k a))else none) _=_
 rw[if_pos (show dX D.length=true from decide_eq_true hl)];rfl
theorem Dl{D:List (List Nat×AV)}(h:eM x D=some a):aZ (.dict D) (.str x) σ=some (a,σ):=by
 show o1 (eM x D) _=_
 rw[h];rfl
end
theorem mY{α:Type}{η:be}{σ:St}{e:ME}{t:MT}{b:α→aA}{u:α→be}{p:α→Bool}{f:α→AV} : ∀(as:List α) (acc:List AV),(∀a∈as,b a η σ=some (u a,σ))→(∀a∈as,t (u a) σ=some (p a,σ))→(∀a∈as,p a=true→e (u a) σ=some (f a,σ)) →
  acc.length+as.length≤16777216→dE (as.map b) (bA t (ay e)) η σ (.list acc)=some (σ,.list (acc++(as.filter p).map f)):=by
 intro as
 induction as with
 | nil=>intro acc _ _ _ _;show some (σ,aO.list acc)=_;rw[List.filter_nil,List.map_nil,List.append_nil]
 | cons a as ih =>
  intro acc hb ht he hl
  rw[List.length_cons]at hl
  have ih:=fun acc=>ih acc (fun x hx=>hb x (List.mem_cons_of_mem _ hx)) (fun x hx=>ht x (List.mem_cons_of_mem _ hx)) (fun x hx=>he x (List.mem_cons_of_mem _ hx))
  show oB (b a η σ) (fun η' σ=>oB (oT (t η' σ) (fun σ=>ay e η' σ (.list acc)) fun σ=>some (σ,.list acc)) fun σ acc=>dE (as.map b) (bA t (ay e)) η σ acc)=_
  rw[hb a List.mem_cons_self]
  show oB (oT (t (u a) σ) (fun σ=>ay e (u a) σ (.list acc)) fun σ=>some (σ,.list acc)) (fun σ acc=>dE (as.map b) (bA t (ay e)) η σ acc)=_
  rw[ht a List.mem_cons_self]
  cases hp:p a with
  | false =>
   rw[List.filter_cons,hp]
   exact ih acc (Nat.le_of_lt ‹_›)
  | true =>
   show oB (oB (e (u a) σ) fun v σ=>if dX acc.length then some (σ,.list (acc ++ [v]))else none) (fun σ acc=>dE (as.map b) (bA t (ay e)) η σ acc)=_
   rw[he a List.mem_cons_self hp]
   show oB (if dX acc.length then some (σ,aO.list (acc ++ [f a]))else none) (fun σ acc=>dE (as.map b) (bA t (ay e)) η σ acc)=_
   rw[if_pos (show dX acc.length=true from decide_eq_true (by trivial)),List.filter_cons,hp]
   refine(ih (acc ++ [f a]) (by rw[List.length_append];show acc.length+1+as.length≤_;trivial)).trans ?_
   rw[List.append_assoc];rfl
theorem nu{α:Type}{η:be}{σ:St}{mi:MI}{e:ME}{t:MT}{b:α→aA}{u:α→be}{own:List Nat}(as:List α)(p:α→Bool)(f:α→AV)(hmi:mi η σ=some (as.map b,σ))(hu:own.all (dk η)=true)(hb:∀a∈as,b a η σ=some (u a,σ))(ht:∀a∈as,t (u a) σ=some (p a,σ))
  (he:∀a∈as,p a=true→e (u a) σ=some (f a,σ)) (hl:as.length≤16777216):aK own mi (bA t (ay e)) η σ=some (.list ((as.filter p).map f),σ):=by
 unfold aK eQ
 rw[if_pos hu,hmi]
 show oB (dE (as.map b) (bA t (ay e)) η σ (.list [])) _=_
 rw[mY as [] hb ht he (by rw[List.length_nil];trivial)]
 rfl
theorem iB{α:Type}(xs:List α):xs.filter (fun ω=>true)=xs:=List.filter_eq_self.mpr fun ω ω=>rfl
theorem vM{η:be}{σ:St}{i j:Nat}{x y:AV}(hi:i<η.length)(hj:j<η.length):bJ (aV i) (bJ (aV j) io) [x,y] η σ=some ((η.set i x).set j y,σ):=by
 show oB (if i<η.length then some (η.set i x,σ)else none) (fun η σ=>oB (if j<η.length then some (η.set j y,σ)else none) fun η σ=>some (η,σ))=_
 rw[if_pos hi]
 show oB (if j<(η.set i x).length then some ((η.set i x).set j y,σ)else none) _=_
 rw[if_pos (by rw[List.length_set];exact hj)];rfl
theorem E1{η:be}{σ:St}{i j:Nat}{x y:AV}(hi:i<η.length)(hj:j<η.length):ov 2 (bJ (aV i) (bJ (aV j) io)) (.tup [x,y]) η σ=some ((η.set i x).set j y,σ):=(if_pos (c:=([x,y]:List AV).length=2) (e:=none) rfl).trans (vM hi hj)
theorem Gq{η:be}{σ:St}{i j:Nat}{x y:AV}(hi:i<η.length)(hj:j<η.length):ov 2 (bJ (aV i) (bJ (aV j) io)) (.list [x,y]) η σ=some ((η.set i x).set j y,σ):=(if_pos (c:=([x,y]:List AV).length=2) (e:=none) rfl).trans (vM hi hj)
theorem gD{α:Type}{η:be}{σ:St}{m:ME}{t:AV→aA}{a:AV}{as:List α}{g:α→AV}(hm:m η σ=some (a,σ))(ha:eN a=some (as.map g)):aN m t η σ=some (as.map fun x=>t (g x),σ):=by
 show oB (m η σ) (fun a σ=>o1 (eN a) fun xs=>some (xs.map t,σ))=_
 rw[hm]
 show o1 (eN a) _=_
 rw[ha]
 show some ((as.map g).map t,σ)=_
 rw[List.map_map];rfl
theorem ym{α:Type}{η:be}{σ:St}{m e:ME}{i:Nat}{own:List Nat}{a:AV}(as:List α)(g:α→AV)(f:α→AV)(hm:m η σ=some (a,σ))(ha:eN a=some (as.map g))(hu:own.all (dk η)=true)(hi:i<η.length)(he:∀x∈as,e (η.set i (g x)) σ=some (f x,σ))(hl:as.length≤16777216) :
  aK own (aN m (aV i)) (bA (tK true) (ay e)) η σ=some (.list (as.map f),σ):=by
 have:=nu (b:=fun x=>aV i (g x)) (u:=fun x=>η.set i (g x)) (t:=tK true) (e:=e) as (fun ω=>true) f (mi:=aN m (aV i)) (gD hm ha) hu (fun x ω=>if_pos hi) (fun ω ω=>rfl) (fun x hx ω=>he x hx) hl
 rwa [iB]at this
theorem gF{α:Type}{η:be}{σ:St}{m e:ME}{t:MT}{i:Nat}{own:List Nat}{a:AV}(as:List α)(g:α→AV)(p:α→Bool)(f:α→AV)(hm:m η σ=some (a,σ))(ha:eN a=some (as.map g))(hu:own.all (dk η)=true)(hi:i<η.length)(ht:∀x∈as,t (η.set i (g x)) σ=some (p x,σ))
  (he:∀x∈as,p x=true→e (η.set i (g x)) σ=some (f x,σ)) (hl:as.length≤16777216):aK own (aN m (aV i)) (bA t (ay e)) η σ=some (.list ((as.filter p).map f),σ) :=
 nu (b:=fun x=>aV i (g x)) (u:=fun x=>η.set i (g x)) as p f (mi:=aN m (aV i)) (gD hm ha) hu (fun x ω=>if_pos hi) ht he hl
theorem yn{η:be}{σ:St}{m e:ME}{i j:Nat}{own:List Nat}(xs:List AV)(f:AV×Nat→AV)(hm:m η σ=some (.list xs,σ))(hu:own.all (dk η)=true)(hi:i<η.length)(hj:j<η.length)
  (he:∀x∈xs.zipIdx,e ((η.set i (.int x.2)).set j x.1) σ=some (f x,σ)) (hl:xs.length≤16777216) :
  aK own (m8 m (bJ (aV i) (bJ (aV j) io))) (bA (tK true) (ay e)) η σ=some (.list (xs.zipIdx.map f),σ):=by
 have:=nu (b:=fun x:AV×Nat=>bJ (aV i) (bJ (aV j) io) [.int x.2,x.1]) (u:=fun x=>(η.set i (.int x.2)).set j x.1) (t:=tK true) (e:=e) xs.zipIdx (fun ω=>true) f (mi:=m8 m (bJ (aV i) (bJ (aV j) io))) (by unfold m8;rw[hm];show some ((xs.zipIdx.map _).map _,σ)=_;rw[List.map_map];rfl) hu
  (fun x ω=>vM hi hj) (fun ω ω=>rfl) (fun x hx ω=>he x hx) (by simpa using hl)
 rwa [iB]at this
theorem uk(n:Nat):Builtin.Range.rangeSize 0 (n:Int) 1=n:=by unfold Builtin.Range.rangeSize;rw[if_pos (by decide)];split <;> trivial
theorem cG(n:Nat)(h:n≤1000000):eN (.range 0 n 1)=some ((List.range n).map fun(k:Nat)=>AV.int k):=by
 have h1:Builtin.Range.small 0 (n:Int) 1=true:=by unfold Builtin.Range.small Builtin.Range.rangeFitsLong Builtin.Range.rangeSize;simp;trivial
 rw[lK,h1,if_pos (by decide)]
 unfold lg
 rw[uk,Int.toNat_natCast]
 have h3:∀k∈List.range n,AV.int (0+(k:Int) * 1)=AV.int k:=fun k ω=>by rw[Int.mul_one,Int.zero_add]
 exact congrArg some (List.map_congr_left h3)
end
section
theorem zT{x:List Nat}{c lo:Nat}(h:∀i,lo≤i→x[i]? ≠ some c):dg x c lo = []:=by
 unfold dg
 rw[List.filter_eq_nil_iff]
 intro i hi
 have:=(List.mem_range'_1.mp hi).1
 simpa using h i this
theorem oU{a b:List Nat}{c lo:Nat}(hlo:lo≤a.length)(h:c∉a.drop lo):∃r,dg (a++c::b) c lo=a.length::r:=by
 unfold dg
 have e1:(a++c::b).length - lo=(a.length - lo)+(b.length+1):=by rw[List.length_append,List.length_cons,Nat.sub_add_comm hlo]
 rw[e1,List.range'_append_1.symm,List.filter_append]
 have e2:(List.range' lo (a.length - lo)).filter (fun i=>(a++c::b)[i]? == some c) = []:=by
  rw[List.filter_eq_nil_iff]
  intro i hi
  have h1:=List.mem_range'_1.mp hi
  have hi':i<a.length:=by trivial
  rw[List.getElem?_append_left hi']
  intro q
  apply h
  have q':a[i]? = some c:=by simpa using q
  have:(a.drop lo)[i - lo]? = some c:=by rw[List.getElem?_drop,show lo+(i - lo)=i by trivial];exact q'
  exact List.mem_of_getElem? this
 have e3:lo+(a.length - lo)=a.length:=by trivial
 rw[e2,e3,List.nil_append,List.range'_succ,List.filter_cons]
 have:((a++c::b)[a.length]? == some c)=true:=by simp
 rw[this,if_pos rfl]
 exact⟨_,rfl⟩
theorem nn{a b:List Nat}{c lo:Nat}(hlo:lo≤a.length)(h:c∉a.drop lo):dS (a++c::b) c lo=a.length:=by
 obtain⟨r,e⟩:=oU (b:=b) hlo h
 unfold dS;rw[e]
theorem sH{x:List Nat}{c lo:Nat}(h:c∉x.drop lo):dS x c lo = -1:=by
 unfold dS
 rw[zT]
 intro i hi q
 apply h
 have:(x.drop lo)[i - lo]? = some c:=by rw[List.getElem?_drop,show lo+(i - lo)=i by trivial];exact q
 exact List.mem_of_getElem? this
theorem yl{c:Nat} : ∀{x:List Nat},c∉x→bp c x = [x]:=by
 intro l₀
 induction l₀ with
 | nil =>
  intro _
  exact rfl
 | cons d r ih₀ =>
  intro h
  have h1:d≠c:=fun e=>h (by rw[e];exact List.mem_cons_self)
  have h2:c∉r:=fun e=>h (List.mem_cons_of_mem _ e)
  show(if d=c then[]::bp c r else match bp c r with | h::t=>(d::h)::t | [] => [[d]])=_
  rw[if_neg h1,ih₀ h2]
theorem gf{c:Nat} : ∀{a b:List Nat},c∉a→bp c (a++c::b)=a::bp c b:=by
 intro l₀
 induction l₀ with
 | nil =>
  intro b _
  show(if c=c then[]::bp c b else _)=_;rw[if_pos rfl]
 | cons d r ih₀ =>
  intro b h
  have h1:d≠c:=fun e=>h (by rw[e];exact List.mem_cons_self)
  have h2:c∉r:=fun e=>h (List.mem_cons_of_mem _ e)
  show(if d=c then[]::bp c (r++c::b)else match bp c (r++c::b)with | h::t=>(d::h)::t | [] => [[d]])=_
  rw[if_neg h1,ih₀ h2]
theorem D8{c:Nat}{a b:List Nat}(h:c∉a):qD c (a++c::b) = [a,b]:=by
 obtain⟨r,e⟩:=oU (a:=a) (b:=b) (c:=c) (lo:=0) (Nat.zero_le _) (by simpa using h)
 unfold qD
 rw[e]
 simp[da]
theorem j3(n k:Nat)(h:k≤n):clipAt n (k:Int)=k:=by
 unfold clipAt
 rw[if_neg (Int.not_lt.mpr (Int.natCast_nonneg k)),Int.min_eq_left (Int.ofNat_le.mpr h),Int.max_eq_right (Int.natCast_nonneg k)];rfl
theorem nv(n:Nat):clipAt n (-1:Int)=n - 1:=by
 cases n with
 | zero=>rfl
 | succ m =>
  unfold clipAt
  rw[if_pos (by decide),show(-1:Int)+((m+1:Nat):Int)=(m:Int) by trivial,Int.min_eq_left (Int.ofNat_le.mpr (Nat.le_succ m)),Int.max_eq_right (Int.natCast_nonneg m)];rfl
theorem t7{α:Type}(l:List α)(k:Nat)(h:k≤l.length):slc l none (some k)=l.take k:=by
 show(l.drop 0).take (clipAt l.length (k:Int) - 0)=_
 rw[j3 _ _ h];rfl
theorem CV{α:Type}(l:List α)(i k:Nat)(hi:i≤l.length)(h:k≤l.length):slc l (some i) (some k)=(l.drop i).take (k - i):=by
 show(l.drop (clipAt l.length (i:Int))).take (clipAt l.length (k:Int) - clipAt l.length (i:Int))=_
 rw[j3 _ _ hi,j3 _ _ h]
theorem zA{α:Type}(l:List α):slc l (some (-1)) none=l.drop (l.length - 1):=by
 show(l.drop (clipAt l.length (-1:Int))).take (l.length - clipAt l.length (-1:Int))=_
 rw[nv]
 exact List.take_of_length_le (by rw[List.length_drop];exact Nat.le_refl _)
theorem Fy{α:Type}(l:List α)(h:2≤l.length):slc l (some 1) (some (-1))=(l.drop 1).take (l.length - 2):=by
 show(l.drop (clipAt l.length ((1:Nat):Int))).take (clipAt l.length (-1:Int) - clipAt l.length ((1:Nat):Int))=_
 rw[nv,j3 _ _ (Nat.le_of_succ_le h)];rfl
noncomputable def yd(l:List Nat):Option (List Nat):=if f9.isPrefixOf l&&(l.drop 7).contains 41 then some ((l.drop 7).takeWhile (fun c=>c != 41))else none
noncomputable def dZ:List Nat→Option (List Nat)
 | []=>none
 | c::r=>if c=10 then none else match dZ r with
  | some g=>some g
  | none=>yd (c::r)
theorem zq(l:List Nat):l.take (l.takeWhile (fun c=>c != 41)).length=l.takeWhile (fun c=>c != 41):=by
 induction l with
 | nil=>rfl
 | cons c r ih =>
  rw[List.takeWhile_cons]
  by_cases h:(c != 41)=true
  ·rw[if_pos h];simp[ih]
  ·rw[if_neg h];rfl
theorem FF(l:List Nat):decide ((l.takeWhile (fun c=>c != 41)).length<l.length)=l.contains 41:=by
 induction l with
 | nil=>rfl
 | cons c r ih =>
  rw[List.takeWhile_cons,List.contains_cons]
  by_cases h:(c != 41)=true
  ·rw[if_pos h]
   simp only[List.length_cons,Nat.add_lt_add_iff_right]
   rw[ih]
   have:(41==c)=false:=by simp at h ⊢;exact fun e=>h e.symm
   rw[this,Bool.false_or]
  ·rw[if_neg h]
   have:c=41:=by simpa using h
   subst this;simp
theorem uZ(l:List Nat):(cC l 0).map (fun n=>(l.drop 7).take n)=yd l:=by
 unfold cC yd bX
 rw[List.drop_zero,Nat.zero_add]
 by_cases h:f9.isPrefixOf l=true
 ·have hl:7≤l.length:=(List.isPrefixOf_iff_prefix.mp h).length_le
  have e:decide (7+((l.drop 7).takeWhile (fun c=>c != 41)).length<l.length)=(l.drop 7).contains 41:=by
   rw[← FF]
   simp only[List.length_drop]
   congr 1
   apply propext;omega
  rw[e]
  split
  ·simp[zq]
  ·rfl
 ·rw[Bool.not_eq_true]at h
  rw[h];rfl
theorem m9(c:Nat)(r:List Nat)(m:Nat):cC (c::r) (m+1)=cC r m:=by
 unfold cC bX
 rw[show m+1+7=(m+7)+1 by trivial]
 simp only[List.drop_succ_cons,List.length_cons]
 have:decide (m+7+1+(List.takeWhile (fun c=>c != 41) (List.drop (m+7) r)).length<r.length+1)=decide (m+7+(List.takeWhile (fun c=>c != 41) (List.drop (m+7) r)).length<r.length):=by
  congr 1;apply propext;trivial
 rw[this]
theorem CX(c:Nat)(r:List Nat):∀m,sk (c::r) (m+1)=match sk r m with
  | some (p,n)=>some (p+1,n)
  | none=>(cC (c::r) 0).map fun n=>(0,n):=by
 intro l₀
 induction l₀ with
 | zero =>
  show(match cC (c::r) 1 with | some n=>some (1,n) | none=>sk (c::r) 0)=_
  rw[m9]
  unfold sk
  cases cC r 0 <;> rfl
 | succ m ih₀ =>
  show(match cC (c::r) (m+1+1)with | some n=>some (m+1+1,n) | none=>sk (c::r) (m+1))=_
  rw[m9,ih₀]
  show _=match (match cC r (m+1)with | some n=>some (m+1,n) | none=>sk r m)with
   | some (p,n)=>some (p+1,n)
   | none=>_
  cases cC r (m+1) <;> rfl
theorem A8:∀l:List Nat,(Cf l).map (fun q=>(l.drop (q.1+7)).take q.2)=dZ l:=by
 intro l₀
 induction l₀ with
 | nil =>
  exact rfl
 | cons c r ih₀ =>
  unfold Cf dZ
  have hl:c8 (c::r)=if c=10 then 0 else c8 r+1:=by
   unfold c8
   rw[List.takeWhile_cons]
   by_cases h:c=10
   ·subst h;rfl
   ·rw[if_neg h,if_pos (by simpa using h)];rfl
  rw[hl]
  by_cases h:c=10
  ·rw[if_pos h,if_pos h]
   subst h
   rfl
  ·rw[if_neg h,if_neg h,CX]
   have ih:=ih₀
   unfold Cf at ih
   cases hs:sk r (c8 r)with
   | none =>
    rw[hs]at ih
    rw[← ih]
    show Option.map _ (Option.map _ (cC (c::r) 0))=yd (c::r)
    rw[← uZ,Option.map_map]
    rfl
   | some q =>
    obtain⟨p,n⟩:=q
    rw[hs]at ih
    rw[← ih]
    show some (List.take n (List.drop (p+1+7) (c::r)))=some (List.take n (List.drop (p+7) r))
    rw[show p+1+7=(p+7)+1 by trivial,List.drop_succ_cons]
theorem pP{t:List Nat}(h:asc t=true):(cI t).map (fun c=>c.toNat)=t:=by
 unfold cI
 rw[List.map_map]
 conv=>rhs;rw[← List.map_id t]
 apply List.map_congr_left
 intro c hc
 have:=List.all_eq_true.mp h c hc
 have:c<128:=by simpa using this
 simp
 trivial
theorem yc{t:List Nat}(h:asc t=true):gE (cI t)=(dZ t).map cI:=by
 unfold gE
 rw[pP h,← A8]
 cases Cf t with
 | none=>rfl
 | some q=>obtain⟨p,n⟩:=q;simp[cI,List.map_take,List.map_drop]
theorem ya{a b g:List Nat}(ha:10∉a)(h:dZ b=some g):dZ (a++b)=some g:=by
 induction a with
 | nil=>exact h
 | cons c r ih =>
  have h1:c≠10:=fun e=>ha (by rw[e];exact List.mem_cons_self)
  have h2:10∉r:=fun e=>ha (List.mem_cons_of_mem _ e)
  show(if c=10 then none else match dZ (r++b)with | some g=>some g | none=>_)=_
  rw[if_neg h1,ih h2]
end
section
section
variable{m n m1 m2 m3:ME}{r:ML}{op:eB}{η η' η'':be}{σ σ1 σ2 σ3 σ4:St}{t u:MT}{a b c d:AV}{l:List AV}{B B2 R:MS}{o:Operator}{p:CmpOp}
theorem IL{i:Nat}(h:η[i]? = some a)(hu:uU a=false):mV i η σ=some (a,σ):=by rw[Il,h];show cond (uU a) none _=_;rw[hu];rfl
theorem aE(h1:m η σ=some (a,σ1))(h2:n η σ1=some (b,σ2))(h3:bF o a b σ2=some (c,σ3)):ap o m n η σ=some (c,σ3):=by rw[Fl,h1,l6,h2];exact h3
theorem HB(h1:m η σ=some (a,σ1))(h2:n η σ1=some (b,σ2))(h3:bW p a b σ2=some (c,σ3)):xD p m n η σ=some (c,σ3):=by rw[Fk,h1,l6,h2];exact h3
theorem ax(h1:m η σ=some (a,σ1))(h2:n η σ1=some (b,σ2))(h3:aZ a b σ2=some (c,σ3)):ao m n η σ=some (c,σ3):=by rw[Fj,h1,l6,h2];exact h3
theorem aB{q:Bool}(h1:m η σ=some (a,σ1))(h2:n η σ1=some (b,σ2))(h3:bW p a b σ2=some (.bool q,σ3)):aW p m n η σ=some (q,σ3):=by rw[Fd,h1,l6,h2,AW,h3];rfl
theorem lv{q:Bool}(h1:m η σ=some (a,σ1))(h2:kX σ1 a=some q):gS m η σ=some (q,σ1):=by rw[Fb,h1];show o1 (kX σ1 a) _=_;rw[h2];rfl
theorem qz{q:Bool}(h1:t η σ=some (q,σ1)):rt t η σ=some (!q,σ1):=by rw[Fc,h1];rfl
theorem qA{q:Bool}(h1:t η σ=some (true,σ1))(h2:u η σ1=some (q,σ2)):eC t u η σ=some (q,σ2):=by rw[tQ,h1];exact h2
theorem qB(h1:t η σ=some (false,σ1)):eC t u η σ=some (false,σ1):=by rw[tQ,h1];rfl
theorem EW{q:Bool}(h1:t η σ=some (false,σ1))(h2:u η σ1=some (q,σ2)):tJ t u η σ=some (q,σ2):=by rw[Ey,h1];exact h2
theorem pn{x y:Bool}(h1:t η σ=some (x,σ))(h2:u η σ=some (y,σ)):eC t u η σ=some (x&&y,σ):=by
 rw[tQ,h1]
 cases x with
 | false=>rfl
 | true=>exact h2
theorem D5{x y:Bool}(h1:t η σ=some (x,σ))(h2:u η σ=some (y,σ)):tJ t u η σ=some (x||y,σ):=by
 rw[Ey,h1]
 cases x with
 | false=>exact h2
 | true=>rfl
theorem jl(h1:t η σ=some (true,σ1))(h2:m η σ1=some (a,σ2)):hK t m n η σ=some (a,σ2):=by rw[yJ,h1];exact h2
theorem jm(h1:t η σ=some (false,σ1))(h2:n η σ1=some (a,σ2)):hK t m n η σ=some (a,σ2):=by rw[yJ,h1];exact h2
theorem bc(h1:r η σ=some (l,σ1))(h2:op l σ1=some (a,σ2)):au r op η σ=some (a,σ2):=by rw[CB,h1];exact h2
theorem bN{T:String}(h1:m η σ=some (a,σ1))(hT:pL σ1 a=some T)(h2:r η σ1=some (l,σ2))(h3:op (a::l) σ2=some (b,σ3)):br T m r op η σ=some (b,σ3):=by
 rw[Cz,h1]
 show(if pL σ1 a=some T then oB (r η σ1) fun l σ=>op (a::l) σ else none)=_
 rw[if_pos hT,h2];exact h3
theorem aJ:ak η σ=some ([],σ):=rfl
theorem am(h1:m η σ=some (a,σ1))(h2:r η σ1=some (l,σ2)):aa m r η σ=some (a::l,σ2):=by rw[CN,h1,DU,h2];rfl
theorem vf(h1:r η σ=some (l,σ1))(h2:dX l.length=true):bz r η σ=some (.list l,σ1):=by rw[CA,h1];exact if_pos h2
theorem jZ(h1:r η σ=some (l,σ1))(h2:dX l.length=true):d8 r η σ=some (.tup l,σ1):=by rw[Fg,h1];exact if_pos h2
theorem ve(h1:r η σ=some (l,σ1))(h2:dX l.length=true):jP r η σ=some (.cell σ1.length,σ1 ++ [.list l]):=by unfold jP;rw[h1];exact if_pos h2
theorem j0{i:Int}(h1:m η σ=some (.int i,σ1)):iP m η σ=some (.int (-i),σ1):=by rw[Fi,h1];rfl
theorem gK(h:m η σ=some (a,σ1))(h1:m1 η σ1=some (b,σ2))(h2:m2 η σ2=some (c,σ3))(h3:ci a b c .none σ3=some (d,σ4)):fu m m1 m2 (mK .none) η σ=some (d,σ4):=by
 rw[yI,h,sr,h1,xW,h2];exact h3
theorem Bl{C:Addr}(h1:m η σ=some (.inst C,σ1))(h2:r η σ1=some (l,σ2))(h3:op (.inst C::l) σ2=some (b,σ3)):og C m r op η σ=some (b,σ3):=by rw[Fh,h1,DV,h2];exact h3
theorem bv{i:Nat}(h1:m η σ=some (a,σ1))(hi:i<η.length):ae (aX m (aV i)) R η σ=R (η.set i a) σ1:=by rw[dj,yH,h1,o8,zd,if_pos hi];rfl
theorem gm{f:AV→aA}(h1:m η σ=some (a,σ1))(h2:f a η σ1=some (η',σ2)):ae (aX m f) R η σ=R η' σ2:=by rw[dj,yH,h1,o8,h2];rfl
theorem eX(h1:m η σ=some (a,σ1)):ae (dF m) R η σ=some (.ret a,η,σ1):=by rw[dj,Fe,h1];rfl
theorem lA(h1:t η σ=some (true,σ1))(h2:B η σ1=some (.next,η',σ2)):ae (gI t B B2) R η σ=R η' σ2:=by rw[dj,vV,h1,m5,h2];rfl
theorem q7(h1:t η σ=some (true,σ1))(h2:B η σ1=some (.ret a,η',σ2)):ae (gI t B B2) R η σ=some (.ret a,η',σ2):=by rw[dj,vV,h1,m5,h2];rfl
theorem cS(h1:t η σ=some (false,σ1)):ae (gI t B aM) R η σ=R η σ1:=by rw[dj,vV,h1];rfl
theorem kR(h1:m η σ=some (a,σ1)):ae (dM m) R η σ=R η σ1:=by rw[dj,Cw,h1];rfl
theorem me{mi:MI}{bs:List aA}(h1:mi η σ=some (bs,σ1))(h2:d9 bs B η σ1=some (.next,η',σ2)):ae (gV mi B) R η σ=R η' σ2:=by
 rw[dj]
 show kS (oB (mi η σ) fun bs σ=>d9 bs B η σ) R=_
 rw[h1];show kS (d9 bs B η σ1) R=_;rw[h2];rfl
theorem vU{x:List Nat}(h1:t η σ=some (true,σ1))(h2:B η σ1=some (.exc x,η',σ2)):ae (gI t B B2) R η σ=some (.exc x,η',σ2):=by rw[dj,vV,h1,m5,h2];rfl
theorem l4{x:List Nat}(h1:m η σ=some (.str x,σ1)):ae (k9 (aa m ak)) R η σ=some (.exc x,η,σ1):=by
 rw[dj];show kS (oB (aa m ak η σ) _) R=_
 rw[am h1 aJ];rfl
theorem u7{k N:Nat}{M:MS}{v:Option (fU×St)}(hl:l.length=k)(h:lG (M (lZ N l) σ)=v):wh k N M l σ=v:=(if_pos hl).trans h
theorem nV{x y:Option (fU×be×St)}{v:Option (fU×St)}(h:x=y)(k:lG y=v):lG x=v:=h ▸ k
theorem oX{x y:List Nat}(h:(x==y)=true):bW .NotEq (.str x) (.str y) σ=some (.bool false,σ):=congrArg (fun b=>some (AV.bool (!b),σ)) h
theorem As{x y:List Nat}(h:(x==y)=false):bW .NotEq (.str x) (.str y) σ=some (.bool true,σ):=congrArg (fun b=>some (AV.bool (!b),σ)) h
theorem sJ{x y:List Nat}{q:Bool}(h:(x==y)=q):bW .Eq (.str x) (.str y) σ=some (.bool q,σ):=congrArg (fun b=>some (AV.bool b,σ)) h
theorem Hf{x y:Int}(h:(x==y)=true):bW .NotEq (.int x) (.int y) σ=some (.bool false,σ):=congrArg (fun b=>some (AV.bool (!b),σ)) h
theorem He{x y:Int}(h:(x==y)=false):bW .NotEq (.int x) (.int y) σ=some (.bool true,σ):=congrArg (fun b=>some (AV.bool (!b),σ)) h
theorem si{x y:Int}{q:Bool}(h:decide (x<y)=q):bW .Lt (.int x) (.int y) σ=some (.bool q,σ):=congrArg (fun b=>some (AV.bool b,σ)) h
theorem Fa{k:Nat}{x y:List Nat}(h1:mV k η σ=some (.str x,σ))(h2:m η σ=some (.str y,σ))(hl:(x++y).length≤16777216)(hk:k<η.length):ae (v5 k m) R η σ=R (η.set k (.str (x++y))) σ:=by
 rw[dj,Cy,h1,AU,h2,xX hl,zd,if_pos hk];rfl
theorem u8{k N:Nat}{M:MS}{v:Option (AV×St)}(hl:l.length=k)(h:qk (M (lZ N l) σ)=v):jh k N M l σ=v:=(if_pos hl).trans h
theorem rG{x y:Option (fU×be×St)}{v:Option (AV×St)}(h:x=y)(k:qk y=v):qk x=v:=h ▸ k
end
end
section
section
variable{σ:St}
theorem cE{n:Nat}(h:n≤16777216):dX n=true:=decide_eq_true h
theorem iw{x:List Nat}{lo hi:AV}{l h:Option Int}(hl:lj lo=some l)(hh:lj hi=some h)(hx:x.length≤16777216):ci (.str x) lo hi .none σ=some (.str (slc x l h),σ):=by
 unfold ci
 rw[hl,hh]
 exact if_pos (by rw[cE hx];rfl)
theorem qh{x:List Nat}{c:Nat} : mO [.str x,.str [c]] σ=some (.int (dS x c 0),σ):=rfl
theorem wf{x:List Nat}{c:Nat}{i:Int}(h0:0≤i)(h1:i≤x.length):mO [.str x,.str [c],.int i] σ=some (.int (dS x c i.toNat),σ) :=
 if_pos (by rw[decide_eq_true h0,decide_eq_true h1];rfl)
theorem Ag{x:List Nat}{c:Nat}(hc:c<256)(hx:x.length+1≤16777216)(hn:x ≠ []):G7 c x=true:=by
 unfold G7
 rw[decide_eq_true hc,cE hx]
 cases x with
 | nil=>exact absurd rfl hn
 | cons=>rfl
theorem Ak{x:List Nat}{c:Nat}(hc:c<256)(hx:x.length+1≤16777216)(hn:x ≠ []):jf [.str x,.str [c]] σ=some (.list ((bp c x).map .str),σ):=if_pos (Ag hc hx hn)
theorem Aj{x:List Nat}{c:Nat}(hc:c<256)(hx:x.length+1≤16777216)(hn:x ≠ []):jf [.str x,.str [c],.int 1] σ=some (.list ((qD c x).map .str),σ):=(if_pos (c:=(1:Int)=1) (e:=none) rfl).trans (if_pos (Ag hc hx hn))
theorem je{xs:List AV}(h:xs.length≤16777216):dH [.list xs] σ=some (.int xs.length,σ):=if_pos (cE h)
theorem Ha{x:List Nat}{n:Int}(h:x.length≤640)(e:PySem.intText? (aj x)=some n):FV [.str x] σ=some (.int n,σ):=by
 show(if x.length≤640 then o1 (PySem.intText? (aj x)) fun n=>i8 n σ else none)=_
 rw[if_pos h,e];rfl
noncomputable def rN(A f:List Nat)(host:List Nat)(resp:List Nat):fU:=match f with
 | []=>.next
 | c::_=>if f.getLast? = some c then(match bp c f with
   | [_,_,_,p,_]=>match PySem.intText? (aj p)with
    | some n=>.ret (.tup [.str host,.int n])
    | none=>.next
   | _=>.exc resp)
  else .exc resp
noncomputable def RR(A f tl:List Nat):List Nat:=A++40::(f++41::tl)
theorem nP(A f tl:List Nat):(RR A f tl).length=A.length+(f.length+(tl.length+1)+1):=by
 unfold RR;rw[List.length_append,List.length_cons,List.length_append,List.length_cons]
theorem Gy(A f tl:List Nat):RR A f tl=(A++40::f)++41::tl:=by unfold RR;rw[List.append_assoc];rfl
theorem qQ(A f tl:List Nat):(RR A f tl).drop (A.length+1)=f++41::tl:=by
 unfold RR;rw[List.drop_append,List.drop_of_length_le (Nat.le_succ _),Nat.add_sub_cancel_left];rfl
theorem Jm(a b:Nat):(a:Int)+1+b - 1=((a+b:Nat):Int):=by trivial
theorem Ia(a b c n:Nat)(h:a+(b+(c+1)+1)≤n):a+1+b≤n∧a+b+1<n+1∧a+1≤n:=by trivial
theorem Cj(n:Nat)(h:n≤100000):n≤16777216∧n+1≤16777216∧n<4611686018427387904:=by trivial
section
variable{A f tl:List Nat}{c d:Nat}
theorem zR{B:List Nat}(hA3:3≤A.length)(hAt:A.take 3 = [50,50,57])(hl:(A++B).length≤100000):ci (.str (A++B)) .none (.int 3) .none σ=some (.str [50,50,57],σ):=by
 rw[iw (l:=none) (h:=some (3:Nat)) rfl rfl (Cj _ hl).1,t7 _ _ (by rw[List.length_append];exact Nat.le_trans hA3 (Nat.le_add_right _ _)),List.take_append_of_le_length hA3,hAt]
theorem wa{B:List Nat}(hh:40∉A):dS (A++40::B) 40 0=A.length:=nn (Nat.zero_le _) hh
theorem C9(hf:41∉f):mO [.str (RR A f tl),.str [41],.int ((A.length:Int)+1)] σ=some (.int ((A.length:Int)+1+f.length),σ):=by
 have h1:(A++40::f).length=A.length+1+f.length:=by rw[List.length_append,List.length_cons,Nat.add_assoc,Nat.add_comm 1]
 have h2:(A++40::f).drop (A.length+1)=f:=by rw[List.drop_append,List.drop_of_length_le (Nat.le_succ _),Nat.add_sub_cancel_left];rfl
 refine(wf (i:=((A.length+1:Nat):Int)) (Int.natCast_nonneg _) (Int.ofNat_le.mpr (by rw[nP];exact(Ia _ _ _ _ (Nat.le_refl _)).2.2))).trans ?_
 rw[Int.toNat_natCast,Gy,nn (by rw[h1];exact Nat.le_add_right _ _) (by rw[h2];exact hf),h1];rfl
theorem C8(hc:f.head? = some c)(hl:(RR A f tl).length≤100000):aZ (.str (RR A f tl)) (.int ((A.length:Int)+1)) σ=some (.str [c],σ):=by
 have hl2:=Nat.le_trans (Ia _ _ _ _ (Nat.le_refl _)).2.2 (nP A f tl ▸ hl)
 refine qg (A.length+1) ?_ (Cj _ hl2).2.2
 have:=List.getElem?_drop (xs:=RR A f tl) (i:=A.length+1) (j:=0)
 rw[qQ]at this
 rw[← show A.length+1+0=A.length+1 from rfl,← this]
 cases f with
 | nil=>exact nomatch hc
 | cons x r=>exact hc
theorem C7(hd:f.getLast? = some d)(hl:(RR A f tl).length≤100000):aZ (.str (RR A f tl)) (.int ((A.length:Int)+1+f.length - 1)) σ=some (.str [d],σ):=by
 have hl2:=Nat.le_trans (Nat.le_of_lt (Nat.lt_of_succ_lt_succ (Ia _ _ _ _ (Nat.le_refl _)).2.1)) (nP A f tl ▸ hl)
 rw[Jm]
 refine qg (A.length+f.length) ?_ (Cj _ hl2).2.2
 have:=List.getElem?_drop (xs:=RR A f tl) (i:=A.length+1) (j:=f.length - 1)
 rw[qQ]at this
 have hf:1≤f.length:=by cases f with | nil=>exact nomatch hd | cons=>exact Nat.succ_le_succ (Nat.zero_le _)
 rw[show A.length+f.length=A.length+1+(f.length - 1) by trivial,← this,List.getElem?_append_left (Nat.sub_lt hf (by decide)),← List.getLast?_eq_getElem?,hd]
theorem G3(hl:(RR A f tl).length≤100000):ci (.str (RR A f tl)) (.int ((A.length:Int)+1)) (.int ((A.length:Int)+1+f.length)) .none σ=some (.str f,σ):=by
 have h:=Ia _ _ _ _ (Nat.le_of_eq (nP A f tl).symm)
 rw[iw (l:=some ((A.length+1:Nat):Int)) (h:=some ((A.length+1+f.length:Nat):Int)) rfl rfl (Cj _ hl).1,CV _ _ _ h.2.2 h.1,qQ,Nat.add_sub_cancel_left,List.take_left']
 rfl
end
theorem lh{A f host R:List Nat}{c:Nat}(hc:f.head? = some c):rN A f host R=if f.getLast? = some c then(match bp c f with
   | [_,_,_,p,_]=>match PySem.intText? (aj p)with
    | some n=>.ret (.tup [.str host,.int n])
    | none=>.next
   | _=>.exc R)else .exc R:=by
 cases f with
 | nil=>exact nomatch hc
 | cons x r=>rw[← Option.some.inj hc];rfl
theorem qn(a:Nat):decide ((a:Int)<0)=false:=decide_eq_false (Int.not_lt.mpr (Int.natCast_nonneg a))
theorem IK{α:Type}{l:List α}(h:l.length=5):∃a b c d e,l = [a,b,c,d,e]:=by
 obtain⟨a,r,rfl⟩:=List.exists_cons_of_length_eq_add_one h
 obtain⟨b,r,rfl⟩:=List.exists_cons_of_length_eq_add_one (Nat.succ.inj h)
 obtain⟨c,r,rfl⟩:=List.exists_cons_of_length_eq_add_one (Nat.succ.inj (Nat.succ.inj h))
 obtain⟨d,r,rfl⟩:=List.exists_cons_of_length_eq_add_one (Nat.succ.inj (Nat.succ.inj (Nat.succ.inj h)))
 obtain⟨e,r,rfl⟩:=List.exists_cons_of_length_eq_add_one (Nat.succ.inj (Nat.succ.inj (Nat.succ.inj (Nat.succ.inj h))))
 obtain rfl:=List.length_eq_zero_iff.mp (Nat.succ.inj (Nat.succ.inj (Nat.succ.inj (Nat.succ.inj (Nat.succ.inj h)))))
 exact⟨a,b,c,d,e,rfl⟩
theorem FP{A f tl host:List Nat}{ptl:List AV}{c:Nat}(hA3:3≤A.length)(hAt:A.take 3 = [50,50,57])(hh:40∉A)(hf:41∉f)(hc:f.head? = some c)(hc2:c<256)(hl:(RR A f tl).length≤100000)(hp:∀p∈bp c f,p.length≤640)
  (hr:rN A f host (RR A f tl)≠.next):bC [.str (RR A f tl),.tup (.str host::ptl)] σ=some (rN A f host (RR A f tl),σ):=by
 have e1:ci (.str (RR A f tl)) .none (.int 3) .none σ=some (.str [50,50,57],σ):=zR hA3 hAt hl
 have e2:dS (RR A f tl) 40 0=A.length:=wa hh
 have e3:=C9 (σ:=σ) (A:=A) (tl:=tl) hf
 have e4:=C8 (σ:=σ) hc hl
 obtain⟨d,hd⟩:∃d,f.getLast? = some d:=by
  cases f with
  | nil=>exact nomatch hc
  | cons x r=>exact⟨_,List.getLast?_eq_some_getLast (List.cons_ne_nil _ _)⟩
 have e5:=C7 (σ:=σ) hd hl
 have e6:=G3 (σ:=σ) hl
 have hfl:=Nat.le_trans (show f.length≤A.length+(f.length+(tl.length+1)+1) by trivial) (nP A f tl ▸ hl)
 have e7:=Ak (σ:=σ) (x:=f) hc2 (Cj _ hfl).2.1 (fun e=>by rw[e]at hc;exact nomatch hc)
 have q1:=qn A.length
 have q2:decide ((A.length:Int)+1+f.length<0)=false:=qn (A.length+1+f.length)
 have b1:([50,50,57]==([50,50,57]:List Nat))=true:=rfl
 have r1:=lh (A:=A) (host:=host) (R:=RR A f tl) hc
 rw[hd]at r1
 refine u7 rfl ?_
 show lG (fe [.str (RR A f tl),.tup (.str host::ptl),.unbound,.unbound,.unbound,.unbound,.unbound] σ)=_
 refine nV (cS (aB (gK rfl rfl rfl e1) rfl (oX b1))) ?_
 refine nV (bv (bN rfl rfl (am rfl aJ) (qh.trans (by rw[e2]))) (show 2<7 by decide)) ?_
 refine nV (cS (aB rfl rfl (si q1))) ?_
 refine nV (bv (bN rfl rfl (am rfl (am (aE rfl rfl rfl) aJ)) e3) (show 3<7 by decide)) ?_
 refine nV (cS (aB rfl rfl (si q2))) ?_
 by_cases hcd:c=d
 ·rw[← hcd]at r1 e5
  rw[if_pos rfl]at r1
  refine nV (cS (aB (ax rfl (aE rfl rfl rfl) e4) (ax rfl (aE rfl rfl rfl) e5) (oX (beq_self_eq_true _)))) ?_
  refine nV (bv (bN (gK rfl (aE rfl rfl rfl) rfl e6) rfl (am (ax rfl (aE rfl rfl rfl) e4) aJ) e7) (show 4<7 by decide)) ?_
  have e8:=je (σ:=σ) (xs:=(bp c f).map .str) (by rw[List.length_map];exact Nat.le_trans (nq c f) (Cj _ hfl).2.1)
  rw[List.length_map]at e8
  by_cases h5:(bp c f).length=5
  ·refine nV (cS (aB (bc (am rfl aJ) e8) rfl (Hf (by rw[h5];rfl)))) ?_
   obtain⟨p0,p1,p2,p3,p4,hq⟩:=IK h5
   rw[hq]at r1 ⊢
   cases hn:PySem.intText? (aj p3)with
   | none=>dsimp only at r1;rw[hn]at r1;exact absurd r1 hr
   | some n =>
    dsimp only at r1
    rw[hn]at r1
    rw[r1]
    refine nV (bv (ax rfl rfl (FR 0 rfl (by decide))) (show 5<7 by decide)) ?_
    refine nV (bv (bc (am (ax rfl rfl rfl) aJ) (Ha (hp p3 (by rw[hq];exact List.mem_cons_of_mem _ (List.mem_cons_of_mem _ (List.mem_cons_of_mem _ List.mem_cons_self)))) hn)) (show 6<7 by decide)) ?_
    exact nV (eX (jZ (am rfl (am rfl aJ)) rfl)) rfl
  ·have r2:rN A f host (RR A f tl)=.exc (RR A f tl):=by
    rw[r1]
    split
    ·rename_i q;rw[q]at h5;exact absurd rfl h5
    ·rfl
   exact nV (vU (aB (bc (am rfl aJ) e8) rfl (He (beq_eq_false_iff_ne.mpr fun e=>h5 (Int.ofNat.inj e)))) (l4 rfl)) (by rw[r2];rfl)
 ·rw[if_neg (fun e=>hcd (Option.some.inj e).symm)]at r1
  exact nV (vU (aB (ax rfl (aE rfl rfl rfl) e4) (ax rfl (aE rfl rfl rfl) e5) (As (beq_eq_false_iff_ne.mpr fun e=>hcd (List.cons.inj e).1))) (l4 rfl)) (by rw[r1];rfl)
theorem EK{h f tl host:List Nat}{ptl:List AV}{c:Nat}(hh:40∉50::50::57::h)(hf:41∉f)(hc:f.head? = some c)(hc2:c<256)(hlen:(50::50::57::h++40::(f++41::tl)).length≤100000)(hp:∀p∈bp c f,p.length≤640)
  (hr:rN (50::50::57::h) f host (50::50::57::h++40::(f++41::tl))≠.next) :
  bC [.str (50::50::57::h++40::(f++41::tl)),.tup (.str host::ptl)] σ=some (rN (50::50::57::h) f host (50::50::57::h++40::(f++41::tl)),σ) :=
 FP (Nat.le_add_left 3 _) rfl hh hf hc hc2 hlen hp hr
theorem uz{h f host:List Nat}{ptl:List AV}(hh:40∉50::50::57::h)(hf:41∉f)(hlen:(50::50::57::h++40::f).length≤100000) :
  bC [.str (50::50::57::h++40::f),.tup (.str host::ptl)] σ=some (.exc (50::50::57::h++40::f),σ):=by
 have hA3:3≤(50::50::57::h).length:=Nat.le_add_left 3 _
 have hAt:(50::50::57::h).take 3 = [50,50,57]:=rfl
 generalize 50::50::57::h=A at *
 have e1:=zR (σ:=σ) hA3 hAt hlen
 have e2:=wa (B:=f) hh
 have hl:(A++40::f).length=A.length+(f.length+1):=by rw[List.length_append,List.length_cons]
 have e3:mO [.str (A++40::f),.str [41],.int ((A.length:Int)+1)] σ=some (.int (-1),σ):=by
  refine(wf (i:=((A.length+1:Nat):Int)) (Int.natCast_nonneg _) (Int.ofNat_le.mpr (by rw[hl];exact Nat.add_le_add_left (Nat.le_add_left 1 _) _))).trans ?_
  rw[Int.toNat_natCast,sH (by rw[List.drop_append,List.drop_of_length_le (Nat.le_succ _),Nat.add_sub_cancel_left];exact hf)]
 have q1:=qn A.length
 have q2:decide ((-1:Int)<0)=true:=rfl
 have b1:([50,50,57]==([50,50,57]:List Nat))=true:=rfl
 refine u7 rfl ?_
 show lG (fe [.str (A++40::f),.tup (.str host::ptl),.unbound,.unbound,.unbound,.unbound,.unbound] σ)=_
 refine nV (cS (aB (gK rfl rfl rfl e1) rfl (oX b1))) ?_
 refine nV (bv (bN rfl rfl (am rfl aJ) (qh.trans (by rw[e2]))) (show 2<7 by decide)) ?_
 refine nV (cS (aB rfl rfl (si q1))) ?_
 refine nV (bv (bN rfl rfl (am rfl (am (aE rfl rfl rfl) aJ)) e3) (show 3<7 by decide)) ?_
 exact nV (vU (aB rfl rfl (si q2)) (l4 rfl)) rfl
theorem uA{h host:List Nat}{ptl:List AV}(hh:40∉50::50::57::h)(hlen:(50::50::57::h).length≤100000) :
  bC [.str (50::50::57::h),.tup (.str host::ptl)] σ=some (.exc (50::50::57::h),σ):=by
 generalize hA:50::50::57::h=A at *
 have hA3:3≤A.length:=by rw[← hA];simp
 have hAt:A.take 3 = [50,50,57]:=by rw[← hA];rfl
 have e1:ci (.str A) .none (.int 3) .none σ=some (.str [50,50,57],σ):=by
  rw[iw (l:=none) (h:=some (3:Nat)) rfl rfl (by trivial),t7 _ _ (by trivial),hAt]
 have e2:dS A 40 0 = -1:=sH (by simpa using hh)
 have q1:decide ((-1:Int)<0)=true:=rfl
 have b1:([50,50,57]==([50,50,57]:List Nat))=true:=rfl
 refine u7 rfl ?_
 show lG (fe [.str A,.tup (.str host::ptl),.unbound,.unbound,.unbound,.unbound,.unbound] σ)=_
 refine nV (cS (aB (gK rfl rfl rfl e1) rfl (oX b1))) ?_
 refine nV (bv (bN rfl rfl (am rfl aJ) (qh.trans (by rw[e2]))) (show 2<7 by decide)) ?_
 exact nV (vU (aB rfl rfl (si q1)) (l4 rfl)) rfl
noncomputable def un(p:List Nat):List Nat:=if p.drop (p.length - 1) = [47]then p else p ++ [47]
noncomputable def pQ(h1 p1 h2 p2:List Nat):Bool:=if h1=h2∧p1=p2 then true else if h1=h2 then(un p1).isPrefixOf p2 else false
theorem gZ(a:AV)(h1 p1 h2 p2:List Nat)(l1:p1.length≤100000) :
  cg [a,.tup [.str h1,.str p1],.tup [.str h2,.str p2]] σ=some (.bool (pQ h1 p1 h2 p2),σ):=by
 have hq:bW .Eq (.tup [.str h1,.str p1]) (.tup [.str h2,.str p2]) σ=some (.bool (decide (h1=h2∧p1=p2)),σ):=by
  show some (AV.bool ((h1==h2&&(p1==p2&&true))&&(2==2)),σ)=_
  rw[Bool.and_true,Bool.decide_and]
  show some (AV.bool ((h1==h2&&(p1==p2))&&true),σ)=_
  rw[Bool.and_true,Bool.beq_eq_decide_eq,Bool.beq_eq_decide_eq]
 have e0:∀(x y:AV),aZ (.tup [x,y]) (.int 0) σ=some (x,σ):=fun x y=>rfl
 have e1:∀(x y:AV),aZ (.tup [x,y]) (.int 1) σ=some (y,σ):=fun x y=>rfl
 refine u8 rfl ?_
 show qk (hJ [a,.tup [.str h1,.str p1],.tup [.str h2,.str p2],.unbound] σ)=_
 unfold pQ
 by_cases hh:h1=h2∧p1=p2
 ·rw[if_pos hh]
  exact rG (q7 (aB rfl rfl (hq.trans (by rw[decide_eq_true hh]))) (eX rfl)) rfl
 ·rw[if_neg hh]
  refine rG (cS (aB rfl rfl (hq.trans (by rw[decide_eq_false hh])))) ?_
  by_cases h12:h1=h2
  ·rw[if_pos h12]
   refine rG (cS (aB (ax rfl rfl (e0 _ _)) (ax rfl rfl (e0 _ _)) (oX (beq_iff_eq.mpr h12)))) ?_
   refine rG (bv (ax rfl rfl (e1 _ _)) (show 3<4 by decide)) ?_
   have s1:ci (.str p1) (.int (-1)) .none .none σ=some (.str (p1.drop (p1.length - 1)),σ):=by
    rw[iw (l:=some (-1)) (h:=none) rfl rfl (by trivial),zA]
   unfold un
   by_cases hp:p1.drop (p1.length - 1) = [47]
   ·rw[if_pos hp]
    refine rG (cS (aB (gK rfl (j0 rfl) rfl s1) rfl (oX (beq_iff_eq.mpr hp)))) ?_
    exact rG (eX (bN (ax rfl rfl (e1 _ _)) rfl (am rfl aJ) rfl)) rfl
   ·rw[if_neg hp]
    refine rG (lA (aB (gK rfl (j0 rfl) rfl s1) rfl (As (beq_eq_false_iff_ne.mpr hp))) (Fa rfl rfl (by rw[List.length_append];exact Nat.add_le_add l1 (Nat.le_of_ble_eq_true rfl:1≤16677216)) (show 3<4 by decide))) ?_
    exact rG (eX (bN (ax rfl rfl (e1 _ _)) rfl (am rfl aJ) rfl)) rfl
  ·rw[if_neg h12]
   exact rG (q7 (aB (ax rfl rfl (e0 _ _)) (ax rfl rfl (e0 _ _)) (As (beq_eq_false_iff_ne.mpr h12))) (eX rfl)) rfl
noncomputable def nk(b:List UInt8):List (List UInt8):=match gE b with
 | some g=>eI g
 | none => []
theorem u4{b g:List UInt8}(h:gE b=some g):g.length≤b.length:=by
 unfold gE at h
 split at h
 ·cases h
  rw[List.length_take,List.length_drop];exact Nat.le_trans (Nat.min_le_right _ _) (Nat.sub_le _ _)
 ·cases h
theorem qd(b:List UInt8)(hb:b.length≤100000):eh [.bytes b] σ=some (.tup ((nk b).map .bytes),σ):=by
 have o1:uE [.pat,.bytes b] σ=some (Hg (gE b),σ):=if_pos (cE (Nat.le_trans hb (by decide)))
 refine u8 rfl ?_
 show qk (gB [.bytes b,.unbound] σ)=_
 unfold nk
 cases hg:gE b with
 | none =>
  rw[hg]at o1
  refine rG (bv (bN rfl rfl (am rfl aJ) o1) (show 1<2 by decide)) ?_
  exact rG (q7 (qz (lv (q:=false) rfl rfl)) (eX (jZ aJ rfl))) rfl
 | some g =>
  rw[hg]at o1
  have hl:=u4 hg
  have o3:qm [.bytes g] σ=some (.list ((eI g).map .bytes),σ):=if_pos (cE (by trivial))
  have hw:=(oC (g.length+1) (g.length+1) g).1
  refine rG (bv (bN rfl rfl (am rfl aJ) o1) (show 1<2 by decide)) ?_
  refine rG (cS (qz (lv (q:=true) rfl rfl))) ?_
  exact rG (eX (bc (am (bN (bN rfl rfl (am rfl aJ) (rfl:uF [.mtch g,.str [102,108,97,103,115]] σ=some (.bytes g,σ))) rfl aJ o3) aJ) (Cu (by rw[List.length_map];unfold eI;trivial)))) rfl
noncomputable def Ji(x:Option (AV×St)):Option (AV×St):=oB x fun a σ=>some (Ci a σ)
theorem AS{n:Nat}{l:List (List Nat×AV)}(h:σ[n]? = some (.dict l)):Ji (some (.cell n,σ))=some (.dict l,σ.set n (.dead (.dict l))):=by
 show some (yb n σ (o1 σ[n]? eR))=_
 rw[h];rfl
noncomputable def yB(v:List Nat):List Nat:=if v.head? = some 34∧v.getLast? = some 34 then(v.drop 1).take (v.length - 2)else v
noncomputable def fq(p:List Nat×List Nat):List Nat:=p.1++61::p.2
noncomputable def nY(D:List (List Nat×AV))(p:List Nat×List Nat):List (List Nat×AV):=gM D p.1 (.str (yB p.2))
theorem zG(D:List (List Nat×AV))(k:List Nat)(v:AV):(gM D k v).length≤D.length+1:=by
 unfold gM;split <;> simp
theorem Dj{x:List Nat}{ch:Nat}(h:x.getLast? = some ch)(hx:x.length≤100000):aZ (.str x) (.int (-1)) σ=some (.str [ch],σ):=by
 have hn:1≤x.length:=by cases x with | nil=>cases h | cons=>simp
 rw[List.getLast?_eq_getElem?]at h
 show HS x (-1) σ=_
 unfold HS
 rw[DZ hn]
 show o1 x[x.length - 1]? _=_
 rw[h];rfl
noncomputable def I2:MS:=gI (eC (aW .Eq (ao (mV 4) (mK (.int 0))) (mK (.str [34]))) (eC (aW .Eq (ao (mV 4) (iP (mK (.int 1)))) (mK (.str [34]))) (tK true))) (ae (aX (fu (mV 4) (mK (.int 1)) (iP (mK (.int 1))) (mK .none)) (aV 4)) aM) aM
noncomputable def bK:MS:=ae (aX (br "str" (mV 2) (aa (mK (.str [61])) (aa (mK (.int 1)) ak)) jf) (ov 2 (bJ (aV 3) (bJ (aV 4) io)))) (ae I2 (ae (aX (mV 4) (iS (mV 1) (mV 3))) aM))
theorem G4{a b c d:AV}{v:List Nat}(h2:v ≠ [])(h3:v.length≤100000)(h4:v ≠ [34])(R:MS):ae I2 R [a,b,c,d,.str v] σ=R [a,b,c,d,.str (yB v)] σ:=by
 obtain⟨x,w,hc⟩:∃c w,v=c::w:=by cases v with | nil=>exact absurd rfl h2 | cons c w=>exact⟨c,w,rfl⟩
 obtain⟨y,hd⟩:∃d,v.getLast? = some d:=by rw[hc];exact⟨_,List.getLast?_eq_some_getLast (List.cons_ne_nil _ _)⟩
 have i0:aZ (.str v) (.int 0) σ=some (.str [x],σ):=qg (k:=0) (by rw[hc];rfl) (by decide)
 have i1:aZ (.str v) (.int (-1)) σ=some (.str [y],σ):=Dj hd h3
 have hx:v.head? = some x:=by rw[hc];rfl
 have n1:∀{z:Nat},z≠34→([z]==([34]:List Nat))=false:=fun e=>beq_eq_false_iff_ne.mpr fun q=>e (List.cons.inj q).1
 unfold yB
 rw[hx,hd]
 by_cases q1:x=34
 ·rw[q1]at i0
  by_cases q2:y=34
  ·rw[q2]at i1
   have hlen:2≤v.length:=by
    rw[hc]
    cases w with
    | nil=>exact absurd (by rw[hc,q1]) h4
    | cons=>exact Nat.le_add_left 2 _
   rw[if_pos ⟨congrArg some q1,congrArg some q2⟩]
   exact lA (qA (aB (ax rfl rfl i0) rfl (sJ rfl)) (qA (aB (ax rfl (j0 rfl) i1) rfl (sJ rfl)) rfl)) ((bv (gK rfl rfl (j0 rfl) (iw (l:=some 1) (h:=some (-1)) rfl rfl (Nat.le_trans h3 (by decide)))) (show 4<5 by decide)).trans (by rw[Fy _ hlen];rfl))
  ·rw[if_neg fun e=>q2 (Option.some.inj e.2)]
   exact cS (qA (aB (ax rfl rfl i0) rfl (sJ rfl)) (qB (aB (ax rfl (j0 rfl) i1) rfl (sJ (n1 q2)))))
 ·rw[if_neg fun e=>q1 (Option.some.inj e.1)]
  exact cS (qB (aB (ax rfl rfl i0) rfl (sJ (n1 q1))))
theorem Ir{L e3 e4:AV}{D:List (List Nat×AV)}{k v:List Nat}(h1:61∉k)(h2:v ≠ [])(h3:k.length+v.length≤100000)(h4:v ≠ [34])(hD:D.length≤200000) :
  bK [L,.cell σ.length,.str (k++61::v),e3,e4] (σ ++ [.dict D])=some (.next,[L,.cell σ.length,.str (k++61::v),.str k,.str (yB v)],σ ++ [.dict (nY D (k,v))]):=by
 have es:jf [.str (k++61::v),.str [61],.int 1] (σ ++ [.dict D])=some (.list [.str k,.str v],σ ++ [.dict D]):=by
  rw[Aj (by decide) (by rw[List.length_append,List.length_cons];trivial) (List.append_ne_nil_of_right_ne_nil _ (List.cons_ne_nil _ _)),D8 h1];rfl
 refine(gm (bN rfl rfl (am rfl (am rfl aJ)) es) (Gq (show 3<5 by decide) (show 4<5 by decide))).trans ((G4 h2 (Nat.le_trans (Nat.le_add_left _ _) h3) h4 _).trans (gm rfl ?_))
 show o1 (setCell (σ ++ [.dict D]) σ.length (.str k) (.str (yB v))) _=_
 rw[gu (D:=D) List.getElem?_concat_length (Nat.le_trans hD (by decide)),List.set_append_right _ _ (Nat.le_refl _),Nat.sub_self];rfl
theorem jI(ps:List (List Nat×List Nat))(hk:∀p∈ps,61∉p.1∧p.2 ≠ []∧p.1.length+p.2.length≤100000∧(p.2 = [34]→False))(hl:ps.length≤100000) :
  bS [.list (ps.map fun p=>.str (fq p))] σ=some (.dict (ps.foldl nY []),σ ++ [.dead (.dict (ps.foldl nY []))]):=by
 have key:∀(L:AV) (qs:List (List Nat×List Nat)) (D:List (List Nat×AV)) (e2 e3 e4:AV),(∀p∈qs,61∉p.1∧p.2 ≠ []∧p.1.length+p.2.length≤100000∧(p.2 = [34]→False))→D.length+qs.length≤200000 →
   ∃f2 f3 f4,d9 ((qs.map fun p=>AV.str (fq p)).map (aV 2)) bK [L,.cell σ.length,e2,e3,e4] (σ ++ [.dict D])=some (.next,[L,.cell σ.length,f2,f3,f4],σ ++ [.dict (qs.foldl nY D)]):=by
  intro L qs
  induction qs with
  | nil=>intro D e2 e3 e4 _ _;exact⟨e2,e3,e4,rfl⟩
  | cons p qs ih =>
   intro D e2 e3 e4 hq hD
   obtain⟨h1,h2,h3,h4⟩:=hq p List.mem_cons_self
   rw[List.length_cons]at hD
   obtain⟨g2,g3,g4,hg⟩:=ih (nY D p) (.str (fq p)) (.str p.1) (.str (yB p.2)) (fun q hp=>hq q (List.mem_cons_of_mem _ hp)) (Nat.le_trans (Nat.add_le_add_right (zG D p.1 (.str (yB p.2))) _) (by rw[Nat.add_assoc,Nat.add_comm 1];exact hD))
   refine⟨g2,g3,g4,(?_:oF (bK [L,.cell σ.length,.str (fq p),e3,e4] (σ ++ [.dict D])) (d9 ((qs.map fun p=>AV.str (fq p)).map (aV 2)) bK)=_)⟩
   rw[fq,Ir h1 h2 h3 h4 (Nat.le_trans (Nat.le_add_right _ _) hD),eP]
   exact hg
 obtain⟨f2,f3,f4,hf⟩:=key (.list (ps.map fun p=>.str (fq p))) ps [] .unbound .unbound .unbound hk (by show 0+_≤_;trivial)
 refine u8 rfl ?_
 show qk (dP [.list (ps.map fun p=>.str (fq p)),.unbound,.unbound,.unbound,.unbound] σ)=_
 refine rG (bv (rfl:mW _ σ=some (.cell σ.length,σ ++ [.dict []])) (show 1<5 by decide)) ?_
 refine rG (me rfl hf) ?_
 refine(rG (eX (AS List.getElem?_concat_length)) rfl).trans ?_
 rw[List.set_append_right _ _ (Nat.le_refl _),Nat.sub_self];rfl
end
end
section
section
variable{σ:St}
theorem bD{α:Type}(l:List α)(k:Nat)(h:k<l.length)(x:α):l[k]? = some (l.getD k x):=by
 rw[List.getD_eq_getElem?_getD,List.getElem?_eq_getElem h];rfl
theorem qH(n:Nat){j:Int}(k:Nat)(hj:j=k)(h0:0<k)(h1:k<1000000000):bF .FloorDiv (.int n) (.int j) σ=some (.int ((n / k:Nat):Int),σ):=by
 subst hj
 rw[vC (by trivial) (ix (by trivial))]
 rfl
theorem jo(n:Nat){j:Int}(k:Nat)(hj:j=k)(h0:0<k):bF .Mod (.int n) (.int j) σ=some (.int ((n % k:Nat):Int),σ):=by
 subst hj
 rw[nA (by trivial)]
 rfl
theorem Hy{a b c e:List Nat}(k:Nat)(h:k<4):aZ (.list [.str a,.str b,.str c,.str e]) (.int k) σ=some (.str ([a,b,c,e].getD k []),σ):=by
 refine dp k ?_ (by trivial)
 have:k=0∨k=1∨k=2∨k=3:=by trivial
 rcases this with rfl | rfl | rfl | rfl <;> rfl
theorem Hz{a b:List Nat}(k:Nat)(h:k<2):aZ (.list [.str a,.str b]) (.int k) σ=some (.str ([a,b].getD k []),σ):=by
 refine dp k ?_ (by trivial)
 have:k=0∨k=1:=by trivial
 rcases this with rfl | rfl <;> rfl
theorem G9{i:Int}(h:i.natAbs<18446744073709551616):Dp [.int i] σ=some (.str (EX i),σ):=by
 show(if i.natAbs<2 ^ 64 then some (AV.str (EX i),σ)else none)=_
 rw[if_pos (by simpa using h)]
theorem tY:∀ts:List (List Nat),k8 (ts.map .str)=some ts:=by
 intro l₀
 induction l₀ with
 | nil =>
  exact rfl
 | cons t r ih₀ =>
  show o1 (k8 (r.map .str)) (fun l=>some (t::l))=_
  rw[ih₀];rfl
theorem FU{sep:List Nat}{ts:List (List Nat)}(h:(ts.map List.length).sum+ts.length * sep.length≤16777216):lI [.str sep,.list (ts.map .str)] σ=some (.str (ez sep ts),σ):=by
 show o1 (k8 (ts.map .str)) _=_
 rw[tY]
 exact if_pos (cE h)
noncomputable def gw(x:Option (fU×be×St)):Option (AV×St):=qk x
theorem Ff{n N:Nat}{m:MS}{l:List AV} : jh n N m l σ=if l.length=n then gw (m (lZ N l) σ)else none:=rfl
theorem oD{q:Nat}{l:List AV}(h:σ[q]? = some (.list l)):cA σ (.cell q)=some l:=by
 show o1 σ[q]? lF=_
 rw[h];rfl
theorem o7(c:aO):(σ ++ [c])[σ.length]? = some c:=by rw[List.getElem?_append_right (Nat.le_refl _),Nat.sub_self];rfl
theorem zE{c c':aO} : (σ ++ [c]).set σ.length c'=σ ++ [c']:=by rw[List.set_append_right _ _ (Nat.le_refl _),Nat.sub_self];rfl
theorem x0{q:Nat}{l:List AV}(h:σ[q]? = some (.list l))(i:Int):aZ (.cell q) (.int i) σ=aZ (.list l) (.int i) σ:=by
 unfold aZ
 rw[oD h];rfl
theorem FT{q:Nat}{l:List AV}(h:σ[q]? = some (.list l))(hl:l.length≤16777216):dH [.cell q] σ=some (.int l.length,σ):=by
 have:AH σ (.cell q)=some l.length:=by unfold AH;rw[oD h]
 show o1 (AH σ (.cell q)) _=_
 rw[this];exact if_pos (cE hl)
theorem Am{q:Nat}{l:List AV}{x:AV}(h:σ[q]? = some (.list l))(hl:l.length≤16777216):ej [.cell q,x] σ=some (.none,σ.set q (.list (l ++ [x]))):=by
 show o1 (o1 σ[q]? wJ) _=_
 rw[h];exact if_pos (cE hl)
theorem cX{α:Type}{x y:List α}{m n:Nat}(hx:x.length≤m)(hy:y.length≤n):(x++y).length≤m+n:=by
 rw[List.length_append];exact Nat.add_le_add hx hy
theorem cu{x y:List Nat}{m n:Nat}(hx:x.length≤m)(hy:y.length≤n)(h:m+n≤16777216):bF .Add (.str x) (.str y) σ=some (.str (x++y),σ):=ik (Nat.le_trans (cX hx hy) h)
theorem eG(a b:Nat):((a:Int)==(b:Int))=decide (a=b):=by
 by_cases h:a=b
 ·rw[h,decide_eq_true rfl];exact beq_self_eq_true _
 ·rw[decide_eq_false h];exact beq_eq_false_iff_ne.mpr fun e=>h (Int.ofNat.inj e)
theorem uV:∀l:List Int,lr (l.map .int)=some l:=by
 intro l
 induction l with
 | nil=>rfl
 | cons x r ih =>
  show o1 (lr (r.map .int)) (fun l=>some (x::l))=_
  rw[ih];rfl
theorem we{l:List Int} : jL [.list (l.map .int)] σ=some (.int l.sum,σ):=by
 show o1 (lr (l.map .int)) (fun is=>i8 is.sum σ)=_
 rw[uV];rfl
theorem nI{f:AV→AV→Option Bool} : ∀{l:List AV},(∀x∈l,f x x=some true)→gL f l l=some true:=by
 intro l
 induction l with
 | nil=>intro _;rfl
 | cons x r ih =>
  intro h
  show o1 (f x x) (fun a=>o1 (gL f r r) fun b=>some (a&&b))=_
  rw[h x List.mem_cons_self,ih fun y hy=>h y (List.mem_cons_of_mem _ hy)];rfl
theorem Bh{n:Nat}{l:List AV}(h:∀x∈l,de n x x=some true):de (n+1) (.list l) (.list l)=some true:=(if_pos rfl).trans (nI h)
theorem jY{n:Nat}{l:List AV}(h:∀x∈l,de n x x=some true):de (n+1) (.tup l) (.tup l)=some true:=by
 show o1 (gL (de n) l l) (fun r=>some (r&&l.length==l.length))=_
 rw[nI h,beq_self_eq_true];rfl
theorem qv{n:Nat}{x:List Nat} : de (n+1) (.str x) (.str x)=some true:=congrArg some (beq_self_eq_true x)
theorem D4{n:Nat}{x:Int} : de (n+1) (.int x) (.int x)=some true:=congrArg some (beq_self_eq_true x)
theorem yg{n:Nat}{x:List UInt8} : de (n+1) (.bytes x) (.bytes x)=some true:=congrArg some (beq_self_eq_true x)
theorem pv{x:AV}(h:de 9 x x=some true)(hd:et σ x=none):bW .NotEq x x σ=some (.bool false,σ):=by
 show gG ((lM σ x x).map (!·)) σ=_
 unfold lM
 rw[hd,h];rfl
end
section
variable{η:be}{σ:St}{l:List AV}
theorem ph{k N:Nat}{M:MS}{v:Option (AV×St)}(hl:l.length=k)(h:gw (M (lZ N l) σ)=v):jh k N M l σ=v:=by rw[Ff,if_pos hl];exact h
theorem st{x y:Option (fU×be×St)}{v:Option (AV×St)}(h:x=y)(k:gw y=v):gw x=v:=h ▸ k
end
end
section
theorem m7{sep x:List Nat}{r:List (List Nat)}(h:r ≠ []):ez sep (x::r)=x++sep++ez sep r:=by
 cases r with
 | nil=>exact absurd rfl h
 | cons=>rfl
theorem sS{c:Nat} : ∀{ts:List (List Nat)},ts ≠ []→(∀t∈ts,c∉t)→bp c (ez [c] ts)=ts
 | [],h,_=>absurd rfl h
 | [x],_,h=>yl (h x List.mem_cons_self)
 | x::y::r,_,h=>by
  rw[m7 (List.cons_ne_nil _ _),List.append_assoc,show[c]++ez [c] (y::r)=c::ez [c] (y::r)from rfl,gf (h x List.mem_cons_self),sS (List.cons_ne_nil _ _) fun t ht=>h t (List.mem_cons_of_mem _ ht)]
theorem dw{c:Nat}{r:List Nat}(h:c≠70)(hr:dZ r=none):dZ (c::r)=none:=by
 show(if c=10 then none else match dZ r with | some g=>some g | none=>yd (c::r))=_
 rw[hr]
 by_cases h10:c=10
 ·rw[if_pos h10]
 ·rw[if_neg h10]
  show(if f9.isPrefixOf (c::r)&&_ then _ else none)=_
  have:f9.isPrefixOf (c::r)=false:=by
   show(70==c&&_)=false
   rw[beq_eq_false_iff_ne.mpr fun e=>h e.symm,Bool.false_and]
  rw[this];rfl
theorem sD:∀{a r:List Nat},70∉a→dZ r=none→dZ (a++r)=none:=by
 intro l₀
 induction l₀ with
 | nil =>
  intro _ _ hr
  exact hr
 | cons c a ih₀ =>
  intro r h hr
  exact dw (fun e=>h (e ▸ List.mem_cons_self)) (ih₀ (fun e=>h (List.mem_cons_of_mem _ e)) hr)
theorem tW{c:Nat} : ∀{a r:List Nat},c∉a→(a++c::r).takeWhile (fun x=>x != c)=a:=by
 intro l₀
 induction l₀ with
 | nil =>
  intro r _
  rw[List.nil_append,List.takeWhile_cons,bne_self_eq_false];rfl
 | cons x a ih₀ =>
  intro r h
  rw[List.cons_append,List.takeWhile_cons,if_pos (bne_iff_ne.mpr fun e=>h (by rw[e];exact List.mem_cons_self)),ih₀ fun e=>h (List.mem_cons_of_mem _ e)]
theorem u2{L tl:List Nat}(h41:41∉L)(h70:70∉L)(ht:dZ (41::tl)=none):dZ (f9++(L++41::tl))=some L:=by
 have h1:dZ (76::65::71::83::32::40::(L++41::tl))=none:=dw (by decide) (dw (by decide) (dw (by decide) (dw (by decide) (dw (by decide) (dw (by decide) (sD h70 ht))))))
 show(if 70=10 then none else match dZ (76::65::71::83::32::40::(L++41::tl))with | some g=>some g | none=>yd (f9++(L++41::tl)))=_
 rw[h1,if_neg (by decide)]
 show(if f9.isPrefixOf (f9++(L++41::tl))&&(L++41::tl).contains 41 then some ((L++41::tl).takeWhile fun c=>c != 41)else none)=_
 rw[tW h41,if_pos]
 rw[Bool.and_eq_true]
 exact⟨List.isPrefixOf_iff_prefix.mpr ⟨_,rfl⟩,List.contains_iff_mem.mpr (List.mem_append_right _ List.mem_cons_self)⟩
noncomputable def eW(c:Nat):List (List Nat)→List Nat
 | [] => []
 | t::r=>c::(t++eW c r)
theorem md{c:Nat} : ∀{ts:List (List Nat)},ts ≠ []→eW c ts=c::ez [c] ts
 | [],h=>absurd rfl h
 | [x],_=>by show c::(x ++ [])=_;rw[List.append_nil];rfl
 | x::y::r,_=>by
  show c::(x++eW c (y::r))=_
  rw[md (List.cons_ne_nil _ _),m7 (List.cons_ne_nil _ _),List.append_assoc];rfl
theorem nQ{c:Nat} : ∀(a b:List (List Nat)),eW c (a++b)=eW c a++eW c b:=by
 intro l₀
 induction l₀ with
 | nil =>
  intro _
  exact rfl
 | cons x r ih₀ =>
  intro b
  show c::(x++eW c (r++b))=c::(x++eW c r)++eW c b
  rw[ih₀ b,List.cons_append,List.append_assoc]
theorem AA{c d:Nat} : ∀{ts:List (List Nat)},d∈eW c ts→d=c∨∃t∈ts,d∈t:=by
 intro l₀
 induction l₀ with
 | nil =>
  intro h
  exact nomatch h
 | cons x r ih₀ =>
  intro h
  rcases List.mem_cons.mp h with h | h
  ·exact .inl h
  ·rcases List.mem_append.mp h with h | h
   ·exact .inr ⟨x,List.mem_cons_self,h⟩
   ·exact(ih₀ h).imp_right fun⟨t,h1,h2⟩=>⟨t,List.mem_cons_of_mem _ h1,h2⟩
open Builtin.Bytes in
theorem sO{p:UInt8→Bool} : ∀{a r:List UInt8},(∀x∈a,p x=true)→(a++r).dropWhile p=r.dropWhile p∧(a++r).takeWhile p=a++r.takeWhile p
 | [],_,_=>⟨rfl,rfl⟩
 | x::a,r,h=>by
  obtain⟨h1,h2⟩:=sO (a:=a) (r:=r) fun y hy=>h y (List.mem_cons_of_mem _ hy)
  rw[List.cons_append,List.dropWhile_cons,List.takeWhile_cons,if_pos (h x List.mem_cons_self),if_pos (h x List.mem_cons_self),h1,h2]
  exact⟨rfl,rfl⟩
noncomputable def uo(t:List Nat):Prop:=∀x∈t,Builtin.Bytes.isSpace x.toUInt8=false
open Builtin.Bytes in
theorem yF{c:Nat}(hc:isSpace c.toUInt8=true):∀(ts:List (List Nat)),(∀t∈ts,uo t)→∀n m,ts.length≤n→ts.length≤m→words (n+1) m (cI (eW c ts))=(ts.filter fun t => !t.isEmpty).map cI:=by
 intro l₀
 induction l₀ with
 | nil =>
  intro _ n m _ _
  exact rfl
 | cons t r ih₀ =>
  intro h n m hn hm
  have ih:=ih₀ fun t ht=>h t (List.mem_cons_of_mem _ ht)
  have e0:(cI (eW c (t::r))).dropWhile isSpace=(cI t++cI (eW c r)).dropWhile isSpace:=by
   show((c.toUInt8::cI (t++eW c r))).dropWhile isSpace=_
   rw[List.dropWhile_cons,if_pos hc]
   unfold cI;rw[List.map_append]
  cases t with
  | nil =>
   have:∀b b':List UInt8,b.dropWhile isSpace=b'.dropWhile isSpace→words (n+1) m b=words (n+1) m b':=fun b b' e=>by unfold words;rw[e]
   rw[this _ _ e0]
   exact ih n m (Nat.le_of_succ_le hn) (Nat.le_of_succ_le hm)
  | cons x t =>
   have hp:=h (x::t) List.mem_cons_self
   have hx:isSpace x.toUInt8=false:=hp x List.mem_cons_self
   have hq:∀y∈cI (x::t),(fun c => !isSpace c) y=true:=fun y hy=>by
    obtain⟨z,hz,e⟩:=List.mem_map.mp hy
    show(!isSpace y)=true
    rw[← e,hp z hz];rfl
   have hr:(cI (eW c r)).dropWhile (fun c => !isSpace c)=cI (eW c r)∧(cI (eW c r)).takeWhile (fun c => !isSpace c) = []:=by
    cases r with
    | nil=>exact⟨rfl,rfl⟩
    | cons y r =>
     show(c.toUInt8::cI (y++eW c r)).dropWhile (fun c => !isSpace c)=_∧(c.toUInt8::cI (y++eW c r)).takeWhile (fun c => !isSpace c)=_
     rw[List.dropWhile_cons,List.takeWhile_cons,hc];exact⟨rfl,rfl⟩
   obtain⟨h1,h2⟩:=sO (r:=cI (eW c r)) hq
   rw[hr.1]at h1;rw[hr.2,List.append_nil]at h2
   have e1:(cI (x::t)++cI (eW c r)).dropWhile isSpace=cI (x::t)++cI (eW c r):=by
    show(x.toUInt8::(cI t++cI (eW c r))).dropWhile isSpace=_
    rw[List.dropWhile_cons,if_neg (by rw[hx];exact Bool.false_ne_true)];rfl
   rw[e1]at e0
   obtain⟨n,rfl⟩:∃k,n=k+1:=⟨n - 1,by rw[List.length_cons]at hn;trivial⟩
   obtain⟨m,rfl⟩:∃k,m=k+1:=⟨m - 1,by rw[List.length_cons]at hm;trivial⟩
   unfold words
   rw[e0]
   show(if((m+1==0):Bool)=true then _ else(cI (x::t)++cI (eW c r)).takeWhile (fun c => !isSpace c)::words (n+1) (m+1 - 1) ((cI (x::t)++cI (eW c r)).dropWhile fun c => !isSpace c))=_
   rw[h1,h2,if_neg (by exact Bool.false_ne_true),Nat.add_sub_cancel,ih n m (Nat.le_of_succ_le_succ hn) (Nat.le_of_succ_le_succ hm)]
   rfl
theorem Cc{c:Nat} : ∀ts:List (List Nat),ts.length≤(eW c ts).length:=by
 intro l₀
 induction l₀ with
 | nil =>
  exact Nat.le_refl _
 | cons t r ih₀ =>
  show r.length+1≤(t++eW c r).length+1
  rw[List.length_append]
  exact Nat.succ_le_succ (Nat.le_trans (ih₀) (Nat.le_add_left _ _))
theorem yp{c:Nat}(hc:Builtin.Bytes.isSpace c.toUInt8=true)(ts:List (List Nat))(h:∀t∈ts,uo t):eI (cI (eW c ts))=(ts.filter fun t => !t.isEmpty).map cI:=by
 have e:(cI (eW c ts)).length=(eW c ts).length:=List.length_map ..
 unfold eI
 exact yF hc ts h _ _ (by rw[e];exact Cc ts) (by rw[e];exact Nat.le_succ_of_le (Cc ts))
end
section
noncomputable def cK(s:List Nat)(k:Nat):Nat:=(0::0::s).getD k 0
noncomputable def iO(s:List Nat):List AV:=.int (-1)::.int 0::s.map fun(n:Nat)=>AV.int n
noncomputable def vz(s:List Nat)(k:Nat):Nat:=((List.range' 1 (k - 1)).filter fun x=>decide (cK s x=cK s k)).length
noncomputable def yE(i:Nat):List Nat:=97::List.replicate i 98
noncomputable def aS(s:List Nat):Nat→Nat→List Nat→List Nat
 | 0,_,_ => []
 | n+1,k,top=>if k=0 then top else aS s n (cK s k) []++47::yE (vz s k)
structure c9(s:List Nat):Prop where
 len:s.length=5
 par:∀k,1≤k→k<7→cK s k<k
theorem c9.at{s:List Nat}(S:c9 s){k:Nat}(h1:1≤k)(h2:k<7):(iO s)[k]? = some (.int (cK s k)):=by
 obtain⟨k,rfl⟩:∃j,k=j+1:=⟨k - 1,by trivial⟩
 cases k with
 | zero=>rfl
 | succ k =>
  have hk:k<s.length:=by rw[S.len];trivial
  show(s.map fun(n:Nat)=>AV.int n)[k]? = some (.int ((s.getD k 0:Nat)))
  rw[List.getElem?_map,List.getElem?_eq_getElem hk,List.getD_eq_getElem?_getD,List.getElem?_eq_getElem hk];rfl
section
variable{σ:St}
theorem jS(a n:Nat)(h:a+n≤1000):eN (.range a ((a+n:Nat):Int) 1)=some ((List.range' a n).map fun(k:Nat)=>AV.int k):=by
 have h1:Builtin.Range.small a ((a+n:Nat):Int) 1=true:=by unfold Builtin.Range.small Builtin.Range.rangeFitsLong Builtin.Range.rangeSize;simp;trivial
 have h2:Builtin.Range.rangeSize a ((a+n:Nat):Int) 1=n:=by unfold Builtin.Range.rangeSize;rw[if_pos (by decide)];split <;> trivial
 rw[lK,h1,if_pos (by decide)]
 unfold lg
 rw[h2,Int.toNat_natCast,List.range'_eq_map_range,List.map_map]
 exact congrArg some (List.map_congr_left fun k ω=>congrArg AV.int (by rw[Int.mul_one,Int.natCast_add]))
theorem iy{q k:Nat}{l:List AV}{a:AV}(h:σ[q]? = some (.list l))(ha:l[k]? = some a)(hk:k<1000):aZ (.cell q) (.int k) σ=some (a,σ):=by
 rw[x0 h];exact dp k ha (Nat.le_trans ‹_› (Nat.le_of_ble_eq_true rfl))
theorem jH(n:Nat)(c:Nat):(List.replicate n [c]).flatten=List.replicate n c:=by
 induction n with
 | zero=>rfl
 | succ n ih=>rw[List.replicate_succ,List.flatten_cons,ih];rfl
theorem vy(s:List Nat)(k:Nat):vz s k≤k:=Nat.le_trans (List.length_filter_le ..) (by rw[List.length_range'];exact Nat.sub_le _ _)
theorem rQ(s:List Nat)(S:c9 s):∀n k top,k<7→(aS s n k top).length≤top.length+10 * n:=by
 intro l₀
 induction l₀ with
 | zero =>
  intro _ _ _
  exact Nat.zero_le _
 | succ n ih₀ =>
  intro k top hk
  unfold aS
  by_cases h:k=0
  ·rw[if_pos h];exact Nat.le_add_right _ _
  ·rw[if_neg h,List.length_append]
   have h1:=S.par k (Nat.pos_of_ne_zero ‹_›) hk
   have:=ih₀ (cK s k) [] (by trivial)
   have h2:=vy s k
   rw[List.length_nil]at this
   show _+((List.replicate (vz s k) 98).length+1+1)≤_
   rw[List.length_replicate]
   trivial
theorem uy{s:List Nat}(S:c9 s){q:Nat}(h:σ[q]? = some (.list (iO s))):∀(n k:Nat) (top:List Nat),k<n→n≤8→k<7→top.length≤100→dB n [.cell q,.int k,.str top] σ=some (.str (aS s n k top),σ):=by
 intro n
 induction n with
 | zero=>intro k top h;exact absurd h (Nat.not_lt_zero _)
 | succ n ih =>
  intro k top hk hn h7 ht
  refine ph rfl ?_
  show gw (gz (dB n) [.cell q,.int k,.str top,.unbound,.unbound] σ)=_
  have e0:(((k:Nat):Int)==0)=decide (k=0):=eG k 0
  unfold aS gz
  by_cases h0:k=0
  ·rw[if_pos h0]
   have e0:bW .Eq (.int k) (.int 0) σ=some (.bool true,σ):=by rw[lP,e0,decide_eq_true h0]
   exact st (q7 (aB rfl rfl e0) (eX rfl)) rfl
  ·rw[if_neg h0]
   have e0:bW .Eq (.int k) (.int 0) σ=some (.bool false,σ):=by rw[lP,e0,decide_eq_false h0]
   have hp:=S.par k (Nat.pos_of_ne_zero ‹_›) h7
   have hr:aR [.int 1,.int k] σ=some (.range (1:Nat) ((1+(k - 1):Nat):Int) 1,σ):=by
    rw[show 1+(k - 1)=k by trivial];rfl
   have hx:=iy h (S.at (by trivial) h7) (by trivial)
   have hc:aK [4] (aN (au (aa (mK (.int 1)) (aa (mV 1) ak)) aR) (aV 4)) (bA (aW .Eq (ao (mV 0) (mV 4)) (ao (mV 0) (mV 1))) (ay (mV 4))) [.cell q,.int k,.str top,.unbound,.unbound] σ =
     some (.list (((List.range' 1 (k - 1)).filter fun x=>decide (cK s x=cK s k)).map fun(j:Nat)=>AV.int j),σ):=by
    refine gF (σ:=σ) (List.range' 1 (k - 1)) (fun(j:Nat)=>AV.int j) (fun x=>decide (cK s x=cK s k)) _ (a:=.range (1:Nat) ((1+(k - 1):Nat):Int) 1) (bc (am rfl (am rfl aJ)) hr) (jS 1 (k - 1) (by trivial)) rfl (Nat.le_refl 5) ?_ (fun x ω ω=>rfl) (by rw[List.length_range'];trivial)
    intro x hx1
    obtain⟨a1,a2⟩:=List.mem_range'_1.mp hx1
    have hy:=iy h (S.at (k:=x) a1 (by trivial)) (by trivial)
    exact aB (ax rfl rfl hy) (ax rfl rfl hx) (by rw[lP,eG])
   have hrec:=ih (cK s k) [] (by trivial) (by trivial) (by trivial) (by decide)
   have hl:=rQ s S n (cK s k) [] (by trivial)
   rw[List.length_nil]at hl
   have hb:=vy s k
   have hL:dH [.list (((List.range' 1 (k - 1)).filter fun x=>decide (cK s x=cK s k)).map fun(j:Nat)=>AV.int j)] σ=some (.int (vz s k:Nat),σ):=by
    have:=je (σ:=σ) (xs:=((List.range' 1 (k - 1)).filter fun x=>decide (cK s x=cK s k)).map fun(j:Nat)=>AV.int j) (by rw[List.length_map];unfold vz at hb;trivial)
    rw[List.length_map]at this;exact this
   have hm:bF .Mult (.str [98]) (.int (vz s k:Nat)) σ=some (.str (List.replicate (vz s k) 98),σ):=by
    rw[BK (by trivial) (by trivial) (by rw[Int.toNat_natCast,jH,List.length_replicate];trivial),Int.toNat_natCast,jH]
   have h1:=cu (σ:=σ) (y := [47,97]) hl (Nat.le_refl 2) (by trivial)
   have h2:=cu (σ:=σ) (y:=List.replicate (vz s k) 98) (cX (y := [47,97]) hl (Nat.le_refl 2)) (n:=10) (by rw[List.length_replicate];trivial) (by trivial)
   rw[List.append_assoc]at h2
   exact st (cS (aB rfl rfl e0)) (st (bv hc (Nat.lt_of_lt_of_eq (by decide:3<5) rfl)) (st (eX (aE (aE (bc (am rfl (am (ax rfl rfl hx) (am rfl aJ))) hrec) rfl h1) (aE rfl (bc (am rfl aJ) hL) hm) h2)) rfl))
end
end
section
noncomputable def fN(k d:Nat):Nat := [32,9].getD ((k+d / 32) % 2) 0
noncomputable def oq(ns:List (List Nat))(d:Nat):Nat:=if ns.length=1 then d / 16 % 2 else 0
noncomputable def bE(ns:List (List Nat))(d:Nat):List (List Nat):=List.replicate (oq ns d) []++ns++List.replicate (2 - oq ns d - ns.length) []
noncomputable def yC(k d:Nat):Bool:=decide (d / 4 % 4=3) && !(k==0||k==6)
noncomputable def lW(k d:Nat)(port:List Nat):List (List Nat):=if yC k d then(if d % 2=0 then[[],port]else[port,[],[]])else[port,[]]
noncomputable def dQ(k:Nat)(ns:List (List Nat))(port:List Nat)(d:Nat):List Nat:=eW (fN k d) (bE ns d++lW k d port)
noncomputable def qy(d:Nat):List Nat := [[32,40,124,124,124,57,124,41],[32,70,76,65,71,83,32,40,32,97,32,97,98],[10,70,76,65,71,83,32,40,32,97,32,97,98,32,53,32,41],[]].getD (d / 4 % 4) []
noncomputable def u0:List Nat := [50,50,57,32,111,107,61,41,32,70,76,65,71,83,32,40]
noncomputable def rJ(d:Nat):List Nat:=41::(qy d ++ [32,34,104,34])
noncomputable def iR(k:Nat)(ns:List (List Nat))(port:List Nat)(d:Nat):List Nat:=u0++(dQ k ns port d++rJ d)
theorem mT(k d:Nat):fN k d=32∨fN k d=9:=by
 unfold fN
 have:(k+d / 32) % 2=0∨(k+d / 32) % 2=1:=by trivial
 rcases this with h | h <;> rw[h]
 ·exact .inl rfl
 ·exact .inr rfl
structure Ev(ns:List (List Nat)):Prop where
 len:ns.length≤6
 each:∀t∈ns,t.length≤8
theorem kI{c:Nat} : ∀(ts:List (List Nat)) (m:Nat),(∀t∈ts,t.length≤m)→(eW c ts).length≤ts.length * (m+1)
 | [],_,_=>Nat.zero_le _
 | t::r,m,h=>by
  have h1:=kI (c:=c) r m fun t ht=>h t (List.mem_cons_of_mem _ ht)
  have h2:=h t List.mem_cons_self
  show(t++eW c r).length+1≤(r.length+1) * (m+1)
  rw[List.length_append,Nat.add_mul]
  trivial
theorem vL(ns:List (List Nat))(d:Nat):oq ns d≤1:=by
 unfold oq
 by_cases h:ns.length=1
 ·rw[if_pos h];trivial
 ·rw[if_neg h];exact Nat.zero_le _
theorem nj{ns:List (List Nat)}(d:Nat)(N:Ev ns):(bE ns d).length≤7∧∀t∈bE ns d,t.length≤8:=by
 have h1:=vL ns d
 have h2:=N.len
 unfold bE
 refine⟨by simp only[List.length_append,List.length_replicate];trivial,fun t ht => ?_⟩
 rcases List.mem_append.mp ht with ht | ht
 ·rcases List.mem_append.mp ht with ht | ht
  ·rw[List.eq_of_mem_replicate ht];exact Nat.zero_le _
  ·exact N.each t ht
 ·rw[List.eq_of_mem_replicate ht];exact Nat.zero_le _
section
variable{σ:St}
theorem xj{α:Type}(n:Nat)(c:α):(List.replicate n [c]).flatten=List.replicate n c:=by
 induction n with
 | zero=>rfl
 | succ n ih=>rw[List.replicate_succ,List.flatten_cons,ih];rfl
theorem wN{x:AV}{j:Int}(h0 : -1000<j)(h1:j<1000):bF .Mult (.list [x]) (.int j) σ=some (.list (List.replicate j.toNat x),σ):=by
 have hf:(kK j&&decide (j<1048576)&&decide (-1048576<j))=true:=by rw[ix (by trivial),decide_eq_true (show j<1048576 by trivial),decide_eq_true (show -1048576<j by trivial)];rfl
 refine(if_pos hf).trans ?_
 rw[xj]
 exact rf (by rw[List.length_replicate];trivial)
theorem j6{a b:List (List Nat)}(h:a.length+b.length≤1000):bF .Add (.list (a.map .str)) (.list (b.map .str)) σ=some (.list ((a++b).map .str),σ):=by
 rw[List.map_append];exact BL (by rw[List.length_append,List.length_map,List.length_map];trivial)
theorem Fq(ts:List (List Nat))(m:Nat)(h:∀t∈ts,t.length≤m):(ts.map List.length).sum≤ts.length * m:=by
 induction ts with
 | nil=>exact Nat.zero_le _
 | cons t r ih =>
  have h1:=ih fun t ht=>h t (List.mem_cons_of_mem _ ht)
  have h2:=h t List.mem_cons_self
  rw[List.map_cons,List.sum_cons,List.length_cons,Nat.add_mul]
  trivial
theorem wq{c:Nat}{ts:List (List Nat)}(hn:ts ≠ [])(hl:ts.length≤20)(he:∀t∈ts,t.length≤20){η:be}{m1 m2:ME}(h1:m1 η σ=some (.str [c],σ))(h2:m2 η σ=some (.list (ts.map .str),σ)) :
  ap .Add m1 (br "str" m1 (aa m2 ak) lI) η σ=some (.str (eW c ts),σ):=by
 have hs:=Fq ts 20 he
 have hj:lI [.str [c],.list (ts.map .str)] σ=some (.str (ez [c] ts),σ):=FU (by show _+ts.length * 1≤_;trivial)
 refine aE h1 (bN h1 rfl (am h2 aJ) hj) ?_
 have hb:=kI (c:=c) ts 20 he
 rw[md hn]at hb ⊢
 exact ik (x := [c]) (by show(c::ez [c] ts).length≤_;trivial)
theorem Dr:∀k,k<7→bW .NotIn (.int (k:Nat)) (.tup [.int 0,.int 6]) σ=some (.bool (!(k==0||k==6)),σ)
 | 0,_=>rfl
 | 1,_=>rfl
 | 2,_=>rfl
 | 3,_=>rfl
 | 4,_=>rfl
 | 5,_=>rfl
 | 6,_=>rfl
 | k+7,h=>absurd h (by trivial)
theorem sM(d:Nat):(qy d).length≤20:=by
 unfold qy
 have:d / 4 % 4=0∨d / 4 % 4=1∨d / 4 % 4=2∨d / 4 % 4=3:=by trivial
 rcases this with h | h | h | h <;> rw[h] <;> decide
theorem mX(k:Nat){ns:List (List Nat)}{port:List Nat}(d:Nat)(N:Ev ns)(hp:port.length≤8):(dQ k ns port d).length≤100:=by
 have hF:=nj d N
 have h3:(lW k d port).length≤3∧∀t∈lW k d port,t.length≤8:=by
  unfold lW
  cases yC k d with
  | false =>
   exact⟨by show 2≤3;decide,fun t ht=>by
    rcases List.mem_cons.mp ht with h | h
    ·rw[h];exact hp
    ·rw[List.mem_singleton.mp h];exact Nat.zero_le _⟩
  | true =>
   by_cases h:d % 2=0
   ·rw[if_pos rfl,if_pos h]
    exact⟨by show 2≤3;decide,fun t ht=>by
     rcases List.mem_cons.mp ht with h | h
     ·rw[h];exact Nat.zero_le _
     ·rw[List.mem_singleton.mp h];exact hp⟩
   ·rw[if_pos rfl,if_neg h]
    exact⟨Nat.le_refl _,fun t ht=>by
     rcases List.mem_cons.mp ht with h | h
     ·rw[h];exact hp
     ·rcases List.mem_cons.mp h with h | h
      ·rw[h];exact Nat.zero_le _
      ·rw[List.mem_singleton.mp h];exact Nat.zero_le _⟩
 have:=kI (c:=fN k d) (bE ns d++lW k d port) 8 fun t ht=>(List.mem_append.mp ht).elim (hF.2 t) (h3.2 t)
 unfold dQ
 rw[List.length_append]at this
 trivial
theorem qc(k d:Nat)(ns:List (List Nat))(port:List Nat)(hk:k<7)(N:Ev ns)(hp:port.length≤8) :
  eg [.int k,.list (ns.map .str),.str port,.int d] σ=some (.str (iR k ns port d),σ):=by
 refine ph rfl ?_
 show gw (gA [.int k,.list (ns.map .str),.str port,.int d,.unbound,.unbound,.unbound,.unbound,.unbound,.unbound] σ)=_
 have hN:=N.len
 have hF:=nj d N
 have d16:=qH (σ:=σ) d (j:=16) 16 rfl (by decide) (by decide)
 have m2:=jo (σ:=σ) (d / 16) (j:=2) 2 rfl (by decide)
 have d32:=qH (σ:=σ) d (j:=32) 32 rfl (by decide) (by decide)
 have d4:=qH (σ:=σ) d (j:=4) 4 rfl (by decide) (by decide)
 have m4:=jo (σ:=σ) (d / 4) (j:=4) 4 rfl (by decide)
 have mk2:=jo (σ:=σ) (k+d / 32) (j:=2) 2 rfl (by decide)
 have dm2:=jo (σ:=σ) d (j:=2) 2 rfl (by decide)
 have hlen:dH [.list (ns.map .str)] σ=some (.int (ns.length:Nat),σ):=by
  have:=je (σ:=σ) (xs:=ns.map .str) (by rw[List.length_map];trivial)
  rwa [List.length_map]at this
 -- ahead
 have s1:hK (aW .Eq (au (aa (mV 1) ak) dH) (mK (.int 1))) (ap .Mod (ap .FloorDiv (mV 3) (mK (.int 16))) (mK (.int 2))) (mK (.int 0)) [.int k,.list (ns.map .str),.str port,.int d,.unbound,.unbound,.unbound,.unbound,.unbound,.unbound] σ=some (.int (oq ns d:Nat),σ):=by
  have e:=eG ns.length 1
  unfold oq
  by_cases h:ns.length=1
  ·rw[if_pos h]
   exact jl (aB (bc (am rfl aJ) hlen) rfl ((lP (σ:=σ)).trans (by rw[show(1:Int)=((1:Nat):Int)from rfl,e,decide_eq_true h]))) (aE (aE rfl rfl d16) rfl m2)
  ·rw[if_neg h]
   exact jm (aB (bc (am rfl aJ) hlen) rfl ((lP (σ:=σ)).trans (by rw[show(1:Int)=((1:Nat):Int)from rfl,e,decide_eq_false h]))) rfl
 refine st (bv s1 (by show 4<10;decide)) ?_
 -- fields
 have ha:=vL ns d
 have b1:bF .Mult (.list [.str []]) (.int (oq ns d:Nat)) σ=some (.list ((List.replicate (oq ns d) []).map .str),σ):=by
  rw[wN (by trivial) (by trivial),Int.toNat_natCast,List.map_replicate]
 have b2:=j6 (σ:=σ) (a:=List.replicate (oq ns d) []) (b:=ns) (by rw[List.length_replicate];trivial)
 have b3:bF .Mult (.list [.str []]) (.int (2 - (oq ns d:Nat) - (ns.length:Nat))) σ=some (.list ((List.replicate (2 - oq ns d - ns.length) []).map .str),σ):=by
  rw[wN (by trivial) (by trivial),List.map_replicate]
  congr 4;trivial
 have b4:=j6 (σ:=σ) (a:=List.replicate (oq ns d) []++ns) (b:=List.replicate (2 - oq ns d - ns.length) []) (by simp only[List.length_append,List.length_replicate];trivial)
 refine st (bv (aE (aE (aE rfl rfl b1) rfl b2) (aE rfl (aE (aE rfl rfl rfl) (bc (am rfl aJ) hlen) rfl) b3) b4) (by show 5<10;decide)) ?_
 -- mark
 have im:aZ (.str [32,9]) (.int ((k+d / 32) % 2:Nat)) σ=some (.str [fN k d],σ):=qg _ (bD _ _ (by show _<2;trivial) 0) (by trivial)
 refine st (bv (ax rfl (aE (aE rfl (aE rfl rfl d32) rfl) rfl mk2) im) (by show 6<10;decide)) ?_
 refine st (bv (aE (aE rfl rfl d4) rfl m4) (by show 7<10;decide)) ?_
 show gw (ae _ _ [.int k,.list (ns.map .str),.str port,.int d,.int (oq ns d:Nat),.list ((bE ns d).map .str),.str [fN k d],.int (d / 4 % 4:Nat),.unbound,.unbound] σ)=_
 have hL:=mX k d N hp
 unfold dQ at hL
 -- the list
 have hb0:=kI (c:=fN k d) (bE ns d ++ [port]) 8 fun t ht=>(List.mem_append.mp ht).elim (hF.2 t) fun h=>by rw[List.mem_singleton.mp h];exact hp
 have l1:∀x8 x9,(ap .Add (ap .Add (mV 6) (br "str" (mV 6) (aa (ap .Add (mV 5) (bz (aa (mV 2) ak))) ak) lI)) (mV 6)) [.int k,.list (ns.map .str),.str port,.int d,.int (oq ns d:Nat),.list ((bE ns d).map .str),.str [fN k d],.int (d / 4 % 4:Nat),x8,x9] σ=some (.str (eW (fN k d) (bE ns d ++ [port,[]])),σ):=by
  intro x8 x9
  have e:eW (fN k d) (bE ns d ++ [port,[]])=eW (fN k d) (bE ns d ++ [port]) ++ [fN k d]:=by
   rw[show bE ns d ++ [port,[]]=bE ns d ++ [port] ++ [[]] by simp,nQ];rfl
  rw[e]
  refine aE (wq (List.append_ne_nil_of_right_ne_nil _ (List.cons_ne_nil _ _)) (by rw[List.length_append];exact Nat.le_trans (Nat.add_le_add_right hF.1 1) (by decide)) (fun t ht=>Nat.le_trans ((List.mem_append.mp ht).elim (hF.2 t) fun h=>by rw[List.mem_singleton.mp h];exact hp) (by decide)) rfl (aE rfl rfl (j6 (a:=bE ns d) (b := [port]) (by have:=hF.1;show _+1≤_;trivial)))) rfl (ik ?_)
  rw[List.length_append]at hb0 ⊢
  have:=hF.1
  show _+1≤_
  rw[show[port].length=1 from rfl]at hb0
  trivial
 refine st (bv (l1 _ _) (by show 8<10;decide)) ?_
 have hif:∀x8 x9,eC (aW .Eq (mV 7) (mK (.int 3))) (eC (aW .NotIn (mV 0) (d8 (aa (mK (.int 0)) (aa (mK (.int 6)) ak)))) (tK true)) [.int k,.list (ns.map .str),.str port,.int d,.int (oq ns d:Nat),.list ((bE ns d).map .str),.str [fN k d],.int (d / 4 % 4:Nat),x8,x9] σ=some (yC k d,σ):=by
  intro x8 x9
  have:=pn (aB (σ:=σ) (m:=mV 7) (n:=mK (.int 3)) (η := [.int k,.list (ns.map .str),.str port,.int d,.int (oq ns d:Nat),.list ((bE ns d).map .str),.str [fN k d],.int (d / 4 % 4:Nat),x8,x9]) rfl rfl ((lP (σ:=σ)).trans (by rw[show(3:Int)=((3:Nat):Int)from rfl,eG])))
   (pn (aB (m:=mV 0) (n:=d8 (aa (mK (.int 0)) (aa (mK (.int 6)) ak))) rfl rfl (Dr k hk)) (rfl:tK true _ σ=some (true,σ)))
  rw[this,Bool.and_true];rfl
 -- spoiled or not
 have fin:∀x8 L,L=dQ k ns port d→x8=AV.str L→gw (ae (aX (bz (aa (mK (.str [32,40,124,124,124,57,124,41])) (aa (mK (.str [32,70,76,65,71,83,32,40,32,97,32,97,98])) (aa (mK (.str [10,70,76,65,71,83,32,40,32,97,32,97,98,32,53,32,41])) (aa (mK (.str [])) ak))))) (aV 9)) (
   ae (dF (ap .Add (ap .Add (ap .Add (ap .Add (mK (.str u0)) (mV 8)) (mK (.str [41]))) (ao (mV 9) (mV 7))) (mK (.str [32,34,104,34])))) aM) [.int k,.list (ns.map .str),.str port,.int d,.int (oq ns d:Nat),.list ((bE ns d).map .str),.str [fN k d],.int (d / 4 % 4:Nat),x8,.unbound] σ)=some (.str (iR k ns port d),σ):=by
  intro x8 L hLe hx
  rw[hx,hLe]
  have hq:(dQ k ns port d).length≤100:=hL
  have i4:aZ (.list [.str [32,40,124,124,124,57,124,41],.str [32,70,76,65,71,83,32,40,32,97,32,97,98],.str [10,70,76,65,71,83,32,40,32,97,32,97,98,32,53,32,41],.str []]) (.int (d / 4 % 4:Nat)) σ=some (.str (qy d),σ):=Hy (d / 4 % 4) (by trivial)
  have a1:=cu (σ:=σ) (x:=u0) (m:=16) (by decide) hq (by decide)
  have g1:=cX (x:=u0) (m:=16) (by decide) hq
  have a2:=cu (σ:=σ) (y := [41]) g1 (Nat.le_refl 1) (by decide)
  have g2:=cX (y := [41]) g1 (Nat.le_refl 1)
  have a3:=cu (σ:=σ) g2 (sM d) (by decide)
  have g3:=cX g2 (sM d)
  have a4:=cu (σ:=σ) (y := [32,34,104,34]) g3 (Nat.le_refl 4) (by decide)
  have e:u0++dQ k ns port d ++ [41]++qy d ++ [32,34,104,34]=iR k ns port d:=by unfold iR rJ;simp only[List.append_assoc];rfl
  rw[e]at a4
  exact st (bv rfl (by show 9<10;decide)) (st (eX (aE (aE (aE (aE rfl rfl a1) rfl a2) (ax rfl rfl i4) a3) rfl a4)) rfl)
 cases hs:yC k d with
 | false =>
  rw[hs]at hif
  refine st (cS (hif _ _)) (fin _ _ ?_ rfl)
  unfold dQ lW;rw[hs];rfl
 | true =>
  rw[hs]at hif
  have hj:ap .Add (mV 6) (br "str" (mV 6) (aa (ap .Add (mV 5) (bz (aa (mK (.str [])) (aa (mV 2) ak)))) ak) lI) [.int k,.list (ns.map .str),.str port,.int d,.int (oq ns d:Nat),.list ((bE ns d).map .str),.str [fN k d],.int (d / 4 % 4:Nat),.str (eW (fN k d) (bE ns d ++ [port,[]])),.unbound] σ=some (.str (eW (fN k d) (bE ns d ++ [[],port])),σ) :=
   wq (List.append_ne_nil_of_right_ne_nil _ (List.cons_ne_nil _ _)) (by rw[List.length_append];exact Nat.le_trans (Nat.add_le_add_right hF.1 2) (by decide)) (fun t ht=>Nat.le_trans ((List.mem_append.mp ht).elim (hF.2 t) fun h=>by
    rcases List.mem_cons.mp h with h | h
    ·rw[h];exact Nat.zero_le _
    ·rw[List.mem_singleton.mp h];exact hp) (by decide)) rfl (aE rfl rfl (j6 (a:=bE ns d) (b := [[],port]) (by have:=hF.1;show _+2≤_;trivial)))
  have e3:eW (fN k d) (bE ns d ++ [port,[],[]])=eW (fN k d) (bE ns d ++ [port,[]]) ++ [fN k d]:=by
   rw[show bE ns d ++ [port,[],[]]=bE ns d ++ [port,[]] ++ [[]] by simp,nQ];rfl
  have ha3:bF .Add (.str (eW (fN k d) (bE ns d ++ [port,[]]))) (.str [fN k d]) σ=some (.str (eW (fN k d) (bE ns d ++ [port,[],[]])),σ):=by
   rw[e3]
   refine ik ?_
   rw[show bE ns d ++ [port,[]]=bE ns d ++ [port] ++ [[]] by simp,nQ,List.length_append,List.length_append]
   rw[List.length_append]at hb0
   have:=hF.1
   show _+1+1≤_
   rw[show[port].length=1 from rfl]at hb0
   trivial
  have i2:=Hz (σ:=σ) (a:=eW (fN k d) (bE ns d ++ [[],port])) (b:=eW (fN k d) (bE ns d ++ [port,[],[]])) (d % 2) (by trivial)
  refine st (lA (hif _ _) (bv (R:=aM) (ax (vf (am hj (am (aE rfl rfl ha3) aJ)) rfl) (aE rfl rfl dm2) i2) (by show 8<10;decide))) (fin _ _ ?_ rfl)
  unfold dQ lW
  rw[hs,if_pos rfl]
  have:d % 2=0∨d % 2=1:=by trivial
  rcases this with h | h <;> rw[h] <;> rfl
end
end
section
noncomputable def pN(x:Nat):Bool:=(decide (43≤x)&&decide (x≤57))||x==97||x==98
noncomputable def rr(t:List Nat):Prop:=∀x∈t,pN x=true
theorem tU{x:Nat}(h:pN x=true):(43≤x∧x≤57)∨x=97∨x=98:=by
 unfold pN at h
 simpa [or_assoc] using h
theorem Fp{x c:Nat}(h:pN x=true)(hc:pN c=false):x≠c:=fun e=>by rw[e,hc]at h;exact Bool.noConfusion h
theorem rr.no{t:List Nat}(h:rr t){c:Nat}(hc:pN c=false):c∉t:=fun m=>by have:=h c m;rw[hc]at this;exact Bool.noConfusion this
theorem w7{t:List Nat}(h:rr t):uo t:=fun x hx=>by
 have:=tU (h x hx)
 rcases this with ⟨h1,h2⟩ | rfl | rfl
 ·have:∀y,y<58→43≤y→Builtin.Bytes.isSpace y.toUInt8=false:=by decide +kernel
  exact this x (by trivial) h1
 ·decide
 ·decide
structure dy(p:List Nat)(w:Int):Prop where
 len:p.length≤8
 ne:p ≠ []
 tok:rr p
 int:PySem.intText? (aj p)=some w
structure fL(ns:List (List Nat)):Prop where
 ok:Ev ns
 tok:∀t∈ns,rr t∧t ≠ []
section
variable{k d:Nat}{ns:List (List Nat)}{port:List Nat}{w:Int}
theorem vX{t:List Nat}(ht:t∈lW k d port):t=port∨t = []:=by
 unfold lW at ht
 cases hs:yC k d with
 | false =>
  rw[hs]at ht
  rcases List.mem_cons.mp ht with h | h
  ·exact .inl h
  ·exact .inr (List.mem_singleton.mp h)
 | true =>
  rw[hs,if_pos rfl]at ht
  by_cases h:d % 2=0
  ·rw[if_pos h]at ht
   rcases List.mem_cons.mp ht with h | h
   ·exact .inr h
   ·exact .inl (List.mem_singleton.mp h)
  ·rw[if_neg h]at ht
   rcases List.mem_cons.mp ht with h | h
   ·exact .inl h
   ·rcases List.mem_cons.mp h with h | h
    ·exact .inr h
    ·exact .inr (List.mem_singleton.mp h)
theorem CQ(P:dy port w):∀t∈lW k d port,rr t:=fun t ht=>by
 rcases vX ht with h | h
 ·rw[h];exact P.tok
 ·rw[h];exact fun x hx=>nomatch hx
theorem Ba(N:fL ns):∀t∈bE ns d,rr t:=by
 intro t ht
 unfold bE at ht
 rcases List.mem_append.mp ht with ht | ht
 ·rcases List.mem_append.mp ht with ht | ht
  ·rw[List.eq_of_mem_replicate ht];exact fun x hx=>nomatch hx
  ·exact(N.tok t ht).1
 ·rw[List.eq_of_mem_replicate ht];exact fun x hx=>nomatch hx
theorem pM(N:fL ns)(P:dy port w):∀t∈bE ns d++lW k d port,rr t:=fun t ht=>(List.mem_append.mp ht).elim (Ba N t) (CQ P t)
theorem pg{α:Type} : ∀(n:Nat),(List.replicate n ([]:List α)).filter (fun t => !t.isEmpty) = []:=by
 intro l₀
 induction l₀ with
 | zero =>
  exact rfl
 | succ n ih₀ =>
  rw[List.replicate_succ];exact ih₀
theorem w0(N:fL ns)(P:dy port w):(bE ns d++lW k d port).filter (fun t => !t.isEmpty)=ns ++ [port]:=by
 have hn:ns.filter (fun t => !t.isEmpty)=ns:=List.filter_eq_self.mpr fun t ht=>by
  cases t with
  | nil=>exact absurd rfl (N.tok _ ht).2
  | cons=>rfl
 have hp:port ≠ []:=P.ne
 have h3:(lW k d port).filter (fun t => !t.isEmpty) = [port]:=by
  unfold lW
  cases yC k d with
  | false=>simp[hp]
  | true =>
   rw[if_pos rfl]
   by_cases h:d % 2=0
   ·rw[if_pos h];simp[hp]
   ·rw[if_neg h];simp[hp]
 unfold bE
 rw[List.filter_append,List.filter_append,List.filter_append,pg,pg,hn,h3,List.nil_append,List.append_nil]
theorem jQ(N:fL ns)(P:dy port w){c:Nat}(h:pN c=false)(h1:c≠32)(h2:c≠9):c∉dQ k ns port d:=by
 intro m
 rcases AA m with e | ⟨t,ht,hc⟩
 ·rcases mT k d with q | q
  ·exact h1 (e.trans q)
  ·exact h2 (e.trans q)
 ·exact(pM N P t ht).no h hc
theorem zM(d:Nat):dZ (rJ d)=none:=by
 unfold rJ qy
 have:d / 4 % 4=0∨d / 4 % 4=1∨d / 4 % 4=2∨d / 4 % 4=3:=by trivial
 rcases this with h | h | h | h <;> rw[h] <;> decide +kernel
theorem v7(d:Nat):asc (rJ d)=true∧(rJ d).length≤25:=by
 unfold rJ qy
 have:d / 4 % 4=0∨d / 4 % 4=1∨d / 4 % 4=2∨d / 4 % 4=3:=by trivial
 rcases this with h | h | h | h <;> rw[h] <;> decide +kernel
theorem wQ(a b:List Nat):asc (a++b)=(asc a&&asc b):=by unfold asc;rw[List.all_append]
theorem AD(N:fL ns)(P:dy port w):asc (dQ k ns port d)=true:=List.all_eq_true.mpr fun x hx=>by
 refine decide_eq_true ?_
 rcases AA hx with e | ⟨t,ht,hc⟩
 ·have:=mT k d;trivial
 ·have:=tU (pM N P t ht x hc);trivial
theorem tn(N:fL ns)(P:dy port w):asc (iR k ns port d)=true:=by
 unfold iR
 rw[wQ,wQ,AD N P,(v7 d).1];rfl
theorem kg(N:fL ns)(P:dy port w):(iR k ns port d).length≤200:=by
 have h1:=mX k d N.ok P.len
 have h2:=(v7 d).2
 unfold iR
 rw[List.length_append,List.length_append]
 show 16+_≤_
 trivial
theorem Gb(N:fL ns)(P:dy port w):nk (cI (iR k ns port d))=(ns ++ [port]).map cI:=by
 have hs:dZ (iR k ns port d)=some (dQ k ns port d) :=
  ya (a := [50,50,57,32,111,107,61,41,32]) (b:=f9++(dQ k ns port d++rJ d)) (by decide) (u2 (jQ N P rfl (by decide) (by decide)) (jQ N P rfl (by decide) (by decide)) (zM d))
 unfold nk
 rw[yc (tn N P),hs]
 show eI (cI (eW (fN k d) (bE ns d++lW k d port)))=_
 rw[yp (by rcases mT k d with h | h <;> rw[h] <;> decide) _ fun t ht=>w7 (pM N P t ht),w0 N P]
noncomputable def sW(k d:Nat)(ns:List (List Nat)):Bool:=decide (ns.length<3) && !yC k d
theorem Hq{α:Type}{l:List α}(h:l.length=2):∃a b,l = [a,b]:=by
 obtain⟨a,r,rfl⟩:=List.exists_cons_of_length_eq_add_one h
 obtain⟨b,r,rfl⟩:=List.exists_cons_of_length_eq_add_one (Nat.succ.inj h)
 obtain rfl:=List.length_eq_zero_iff.mp (Nat.succ.inj (Nat.succ.inj h))
 exact⟨a,b,rfl⟩
theorem Im{α:Type}{l:List α}{n:Nat}(h:n+1≤l.length):∃a r,l=a::r:=by
 cases l with
 | nil=>exact absurd h (Nat.not_succ_le_zero n)
 | cons a r=>exact⟨a,r,rfl⟩
theorem Hp{α:Type}{l:List α}(h:3≤l.length):∃a b c r,l=a::b::c::r:=by
 obtain⟨a,r,rfl⟩:=Im h
 obtain⟨b,r,rfl⟩:=Im (Nat.le_of_succ_le_succ h)
 obtain⟨c,r,rfl⟩:=Im (Nat.le_of_succ_le_succ (Nat.le_of_succ_le_succ h))
 exact⟨a,b,c,r,rfl⟩
theorem sG(N:fL ns)(h:ns.length<3):∃a b,bE ns d = [a,b]:=by
 have ha:=vL ns d
 have:(bE ns d).length=2:=by
  have h2:oq ns d+ns.length≤2:=by
   by_cases h1:ns.length=1
   ·rw[h1];exact Nat.succ_le_succ ha
   ·rw[show oq ns d=0 from if_neg h1,Nat.zero_add];exact Nat.le_of_lt_succ h
  unfold bE
  rw[List.length_append,List.length_append,List.length_replicate,List.length_replicate,Nat.sub_sub]
  exact Nat.add_sub_cancel' h2
 exact Hq this
theorem ni(h : ¬ ns.length<3):∃a b c r,bE ns d=a::b::c::r:=by
 have:3≤(bE ns d).length:=by
  unfold bE
  simp only[List.length_append,List.length_replicate]
  trivial
 exact Hp this
theorem Az(k d:Nat):pN (fN k d)=false:=by rcases mT k d with h | h <;> rw[h] <;> rfl
theorem EB(k d:Nat)(ns:List (List Nat))(port:List Nat):bE ns d++lW k d port ≠ []:=by
 unfold lW
 cases yC k d with
 | false=>exact List.append_ne_nil_of_right_ne_nil _ (List.cons_ne_nil _ _)
 | true=>rw[if_pos rfl];split <;> exact List.append_ne_nil_of_right_ne_nil _ (List.cons_ne_nil _ _)
theorem sj(N:fL ns)(P:dy port w):bp (fN k d) (dQ k ns port d) = []::(bE ns d++lW k d port):=by
 have hne:=EB k d ns port
 unfold dQ
 rw[md hne,show fN k d::ez [fN k d] (bE ns d++lW k d port) = []++fN k d::ez [fN k d] (bE ns d++lW k d port)from rfl,gf (List.not_mem_nil),sS hne fun t ht=>(pM N P t ht).no (Az k d)]
theorem o5:(dQ k ns port d).head? = some (fN k d):=by unfold dQ;rw[md (EB k d ns port)];rfl
theorem FJ{A R:List Nat}(N:fL ns)(P:dy port w):rN A (dQ k ns port d) [104] R=if sW k d ns then .ret (.tup [.str [104],.int w])else .exc R:=by
 have hmk:=Az k d
 have hcut:=sj (k:=k) (d:=d) N P
 have hhd:=o5 (k:=k) (d:=d) (ns:=ns) (port:=port)
 have last:∀X:List (List Nat),(eW (fN k d) (X ++ [[]])).getLast? = some (fN k d):=fun X=>by
  rw[nQ];exact List.getLast?_concat
 rw[lh hhd,hcut]
 unfold sW
 cases hs:yC k d with
 | false =>
  have hl:(dQ k ns port d).getLast? = some (fN k d):=by
   unfold dQ lW;rw[hs]
   show(eW (fN k d) (bE ns d ++ [port,[]])).getLast? = _
   rw[show bE ns d ++ [port,[]]=bE ns d ++ [port] ++ [[]] by simp];exact last _
  have ht:lW k d port = [port,[]]:=by unfold lW;rw[hs];rfl
  rw[if_pos hl,ht]
  by_cases h3:ns.length<3
  ·obtain⟨a,b,hf⟩:=sG (d:=d) N h3
   rw[hf,decide_eq_true h3]
   show(match PySem.intText? (aj port)with | some n=>fU.ret (.tup [.str [104],.int n]) | none=>.next)=_
   rw[P.int];rfl
  ·obtain⟨a,b,c,r,hf⟩:=ni (d:=d) h3
   rw[hf,decide_eq_false h3]
   cases r with
   | nil=>rfl
   | cons x t=>cases t <;> rfl
 | true =>
  rw[Bool.not_true,Bool.and_false]
  have ht:lW k d port=if d % 2=0 then[[],port]else[port,[],[]]:=by unfold lW;rw[hs];rfl
  by_cases h2:d % 2=0
  ·rw[if_pos h2]at ht
   rw[if_neg];rfl
   unfold dQ
   rw[ht,show bE ns d ++ [[],port]=bE ns d ++ [[]] ++ [port] by simp,nQ]
   show(_++(fN k d::(port ++ []))).getLast? ≠ _
   rw[List.append_nil,List.getLast?_append,List.getLast?_cons]
   intro e
   have:port.getLast?.getD (fN k d)=fN k d:=by simpa using e
   cases hp:port with
   | nil=>exact P.ne hp
   | cons x r =>
    rw[List.getLast?_eq_some_getLast P.ne]at this
    exact Fp (P.tok _ (List.getLast_mem P.ne)) hmk this
  ·rw[if_neg h2]at ht
   have hf:∃a b r,bE ns d=a::b::r:=by
    by_cases h3:ns.length<3
    ·obtain⟨a,b,hf⟩:=sG (d:=d) N h3;exact⟨a,b,[],hf⟩
    ·obtain⟨a,b,c,r,hf⟩:=ni (d:=d) h3;exact⟨a,b,c::r,hf⟩
   obtain⟨a,b,r,hf⟩:=hf
   rw[ht,hf]
   split
   ·cases r with
    | nil=>rfl
    | cons c r=>cases r with
     | nil=>rfl
     | cons x t=>cases t <;> rfl
   ·rfl
section
variable{σ:St}
theorem zm{x:List Nat}{a:AV}(h:bC [.str x,.tup [.str [104],.int 21]] σ=some (.ret a,σ)):bt [.str x] σ=some (a,σ):=by
 have:bt [.str x] σ=gw (kS (Dn (bC [.str x,.tup [.str [104],.int 21]] σ) [.str x]) aM):=rfl
 rw[this,h];rfl
theorem jx{x y:List Nat}(h:bC [.str x,.tup [.str [104],.int 21]] σ=some (.exc y,σ)):bt [.str x] σ=some (.tup [.str y],σ):=by
 have:bt [.str x] σ=gw (kS (Dn (bC [.str x,.tup [.str [104],.int 21]] σ) [.str x]) aM):=rfl
 rw[this,h];rfl
theorem qu(X:List Nat):u0++X=50::50::57 :: [32,111,107,61,41,32,70,76,65,71,83,32]++40::X:=rfl
theorem De(N:fL ns)(P:dy port w):bt [.str (iR k ns port d)] σ=some (if sW k d ns then .tup [.str [104],.int w]else .tup [.str (iR k ns port d)],σ):=by
 have hr:=FJ (k:=k) (d:=d) (A:=50::50::57 :: [32,111,107,61,41,32,70,76,65,71,83,32]) (R:=iR k ns port d) N P
 have hlen:=kg (k:=k) (d:=d) N P
 have hp:∀p∈bp (fN k d) (dQ k ns port d),p.length≤640:=by
  rw[sj N P]
  intro p hp
  rcases List.mem_cons.mp hp with h | h
  ·rw[h];exact Nat.zero_le _
  ·rcases List.mem_append.mp h with h | h
   ·exact Nat.le_trans ((nj d N.ok).2 p h) (by decide)
   ·rcases vX h with h | h
    ·rw[h];exact Nat.le_trans P.len (by decide)
    ·rw[h];exact Nat.zero_le _
 have e0:iR k ns port d=50::50::57 :: [32,111,107,61,41,32,70,76,65,71,83,32]++40::(dQ k ns port d++41::(qy d ++ [32,34,104,34])):=qu _
 rw[e0]at hr hlen
 have:=EK (σ:=σ) (h := [32,111,107,61,41,32,70,76,65,71,83,32]) (f:=dQ k ns port d) (tl:=qy d ++ [32,34,104,34]) (host := [104]) (ptl := [.int 21]) (by decide) (jQ N P rfl (by decide) (by decide)) o5 (by have:=mT k d;trivial) (Nat.le_trans hlen (by decide)) hp (by
  rw[hr];split <;> exact fun e=>nomatch e)
 rw[hr,← e0]at this
 cases hc:sW k d ns with
 | true=>rw[hc]at this;exact zm this
 | false=>rw[hc]at this;exact jx this
theorem ux(N:fL ns)(P:dy port w):bt [.str (u0++(dQ k ns port d ++ [120]))] σ=some (.tup [.str (u0++(dQ k ns port d ++ [120]))],σ):=by
 have hl:=mX k d N.ok P.len
 have h41:41∉dQ k ns port d ++ [120]:=fun h=>(List.mem_append.mp h).elim (jQ N P rfl (by decide) (by decide)) (by decide)
 rw[qu]
 exact jx (uz (h := [32,111,107,61,41,32,70,76,65,71,83,32]) (f:=dQ k ns port d ++ [120]) (host := [104]) (ptl := [.int 21]) (by decide) h41 (by
  rw[← qu,List.length_append,List.length_append]
  show 16+(_+1)≤_
  trivial))
theorem uw(P:dy port w):bt [.str ([50,50,57,32,50]++port ++ [50,41])] σ=some (.tup [.str ([50,50,57,32,50]++port ++ [50,41])],σ):=by
 have e : [50,50,57,32,50]++port ++ [50,41]=50::50::57::([32,50]++(port ++ [50,41])):=by rw[List.append_assoc];rfl
 rw[e]
 refine jx (uA (h := [32,50]++(port ++ [50,41])) (host := [104]) (ptl := [.int 21]) ?_ ?_)
 ·show 40 ∉ [50,50,57,32,50]++(port ++ [50,41])
  intro h
  rcases List.mem_append.mp h with h | h
  ·revert h;decide
  ·rcases List.mem_append.mp h with h | h
   ·exact P.tok.no rfl h
   ·revert h;decide
 ·show([50,50,57,32,50]++(port ++ [50,41])).length≤_
  rw[List.length_append,List.length_append]
  have:=P.len
  show 5+(_+2)≤_
  trivial
theorem uv(P:dy port w):bt [.str ([50,50,57,32,40,124,49,124]++port ++ [124,41])] σ=some (.tup [.str ([50,50,57,32,40,124,49,124]++port ++ [124,41])],σ):=by
 have hcut:bp 124 ([124,49,124]++(port ++ [124])) = [[],[49],port,[]]:=by
  show bp 124 (([]:List Nat)++124::([49]++124::(port++124 :: [])))=_
  rw[gf (List.not_mem_nil),gf (by decide),gf (P.tok.no rfl)];rfl
 have hlast:([124,49,124]++(port ++ [124])).getLast? = some 124:=by rw[← List.append_assoc];exact List.getLast?_concat
 have e : [50,50,57,32,40,124,49,124]++port ++ [124,41]=50::50::57 :: [32]++40::(([124,49,124]++(port ++ [124]))++41 :: []):=by simp
 have hr:rN (50::50::57 :: [32]) ([124,49,124]++(port ++ [124])) [104] (50::50::57 :: [32]++40::(([124,49,124]++(port ++ [124]))++41 :: []))=.exc (50::50::57 :: [32]++40::(([124,49,124]++(port ++ [124]))++41 :: [])):=by
  rw[lh (c:=124) rfl,if_pos hlast,hcut]
 have hl:=P.len
 have:=EK (σ:=σ) (h := [32]) (f := [124,49,124]++(port ++ [124])) (tl := []) (host := [104]) (ptl := [.int 21]) (c:=124) (by decide) (by
  intro h
  rcases List.mem_append.mp h with h | h
  ·revert h;decide
  ·rcases List.mem_append.mp h with h | h
   ·exact P.tok.no rfl h
   ·revert h;decide) rfl (by decide) (by simp;trivial) (by
  rw[hcut]
  intro p hp
  rcases List.mem_cons.mp hp with h | h
  ·rw[h];exact Nat.zero_le _
  ·rcases List.mem_cons.mp h with h | h
   ·rw[h];exact(by decide:1≤640)
   ·rcases List.mem_cons.mp h with h | h
    ·rw[h];trivial
    ·rw[List.mem_singleton.mp h];exact Nat.zero_le _) (by rw[hr];exact fun e=>nomatch e)
 rw[e]
 exact jx (this.trans (by rw[hr]))
end
end
end
section
section
theorem gr{l:List (List Nat×AV)}{k:List Nat}{v:AV}(h:k∉l.map (·.1)):gM l k v=l ++ [(k,v)]:=by
 unfold gM
 rw[if_neg]
 intro e
 obtain⟨p,hp,e⟩:=List.any_eq_true.mp e
 exact h (List.mem_map.mpr ⟨p,hp,eq_of_beq e⟩)
theorem f8{pt:Nat→List Nat}{f:Nat→AV} : ∀{W:List Nat} {j:Nat},(W.map pt).Nodup→j∈W→eM (pt j) (W.map fun i=>(pt i,f i))=some (f j):=by
 intro l₀
 induction l₀ with
 | nil =>
  intro _ _ h
  exact nomatch h
 | cons i W ih₀ =>
  intro j hn h
  rw[List.map_cons]at hn ⊢
  obtain⟨h1,h2⟩:=List.nodup_cons.mp hn
  show(if pt i=pt j then some (f i)else eM (pt j) (W.map fun i=>(pt i,f i)))=_
  by_cases e:pt i=pt j
  ·rw[if_pos e]
   rcases List.mem_cons.mp h with h | h
   ·rw[h]
   ·exact absurd (e ▸ List.mem_map.mpr ⟨j,h,rfl⟩) h1
  ·rw[if_neg e]
   rcases List.mem_cons.mp h with h | h
   ·exact absurd (by rw[h]) e
   ·exact ih₀ h2 h
noncomputable def kJ(σ:St)(a b:Nat)(A B:List (List Nat×AV)):St:=(σ.set a (.dict A)).set b (.dict B)
variable{σ:St}{a b:Nat}{A B A' B':List (List Nat×AV)}
theorem GN(hb:b<σ.length):(kJ σ a b A B)[b]? = some (.dict B):=List.getElem?_set_self (by rw[List.length_set];exact hb)
theorem EA(ha:a<σ.length)(hn:a≠b):(kJ σ a b A B)[a]? = some (.dict A):=by
 unfold kJ
 rw[List.getElem?_set_ne (Ne.symm hn),List.getElem?_set_self ha]
theorem zg:(kJ σ a b A B).set b (.dict B')=kJ σ a b A B':=List.set_set ..
theorem zh(hn:a≠b):(kJ σ a b A B).set a (.dict A')=kJ σ a b A' B:=by
 unfold kJ
 rw[List.set_comm _ _ hn,List.set_set,List.set_comm _ _ (Ne.symm hn)]
theorem r8{x:List Nat}(h:asc x=true)(hl:x.length≤16777216):iz [.str x] σ=some (.bytes (cI x),σ):=if_pos (by rw[h,cE hl];rfl)
theorem Al{x:List Nat}(h:asc x=true)(hn:x ≠ [])(hl:x.length≤16777216):jN [.bytes (cI x)] σ=some (.str x,σ):=by
 cases x with
 | nil=>exact absurd rfl hn
 | cons c r =>
  have h2:(cI (c::r)).all (fun c=>decide (c.toNat<128))=true:=by
   have:=pP h
   rw[List.all_eq_true]
   intro y hy
   have hm:y.toNat∈(cI (c::r)).map fun c=>c.toNat:=List.mem_map.mpr ⟨y,hy,rfl⟩
   rw[this]at hm
   exact List.all_eq_true.mp h _ hm
  have h3:qU (cI (c::r))=c::r:=pP h
  have h4:(cI (c::r)).length≤16777216:=by unfold cI;rw[List.length_map];exact hl
  show(if(cI (c::r)).all (fun c=>decide (c.toNat<128))&&dX (cI (c::r)).length then some (AV.str (qU (cI (c::r))),σ)else none)=_
  rw[h2,cE h4,h3];rfl
theorem Iv{n:Nat}{D:List (List Nat×AV)}{k:List Nat}{x:AV}(h:σ[n]? = some (.dict D))(e:eM k D=some x):aZ (.cell n) (.str k) σ=some (x,σ):=by
 have h1:cA σ (.cell n)=none:=by show o1 σ[n]? lF=_;rw[h];rfl
 have h2:et σ (.cell n)=some D:=by show o1 σ[n]? rK=_;rw[h];rfl
 unfold aZ
 rw[h1,h2]
 show o1 (eM k D) _=_
 rw[e];rfl
end
structure E7(T:List (List Nat×AV))(pt an po:Nat→List Nat)(nm:Nat→List Nat)(kd:Nat→List Nat)(tv:Nat→AV):Prop where
 look:∀j,j<7→eM (pt j) T=some (.str (an j))
 asc:∀j,j<7→asc (an j)=true∧(an j).length≤1000
 flags:∀j,j<7→nk (cI (an j))=((kd j).map nm ++ [po j]).map cI
 told:∀j,j<7→∀σ,bt [.str (an j)] σ=some (tv j,σ)
 kids:∀j,j<7→∀c∈kd j,c<7∧pt c=(if pt j = [47]then[]else pt j)++47::nm c
 name:∀c,Mine.asc (nm c)=true∧nm c ≠ []∧(nm c).length≤100
 path:∀j,j<7→(pt j).length≤1000
 few:∀j,j<7→(kd j).length≤100
noncomputable def kP(kd:Nat→List Nat):Nat→Nat→List Nat
 | 0,_ => []
 | n+1,j=>j::(kd j).flatMap (kP kd n)
noncomputable def jW(kd:Nat→List Nat):Nat→Nat→Bool
 | 0,_=>false
 | n+1,j=>(kd j).all (jW kd n)
section
variable{T:List (List Nat×AV)}{pt an po nm:Nat→List Nat}{kd:Nat→List Nat}{tv:Nat→AV}{σ:St}{a b:Nat}
noncomputable def D1(nm po:Nat→List Nat)(kd:Nat→List Nat)(j:Nat):AV:=.tup ((((kd j).map nm ++ [po j]).map cI).map .bytes)
noncomputable def DA(pt nm po:Nat→List Nat)(kd:Nat→List Nat)(V:List Nat):List (List Nat×AV):=V.map fun i=>(pt i,D1 nm po kd i)
noncomputable def DB(pt:Nat→List Nat)(tv:Nat→AV)(V:List Nat):List (List Nat×AV):=V.map fun i=>(pt i,tv i)
theorem DT(V:List Nat):(DA pt nm po kd V).map (·.1)=V.map pt:=by unfold DA;rw[List.map_map];rfl
theorem DS(V:List Nat):(DB pt tv V).map (·.1)=V.map pt:=by unfold DB;rw[List.map_map];rfl
theorem Dg(C:E7 T pt an po nm kd tv)(ha:a<σ.length)(hb:b<σ.length)(hn:a≠b):∀(n j:Nat) (V:List Nat),j<7→jW kd n j=true→((V++kP kd n j).map pt).Nodup→V.length+(kP kd n j).length≤1000 →
  cf n [.dict T,.str (pt j),.cell a,.cell b] (kJ σ a b (DA pt nm po kd V) (DB pt tv V))=some (.none,kJ σ a b (DA pt nm po kd (V++kP kd n j)) (DB pt tv (V++kP kd n j))):=by
 intro n
 induction n with
 | zero=>intro j V _ hf;exact Bool.noConfusion hf
 | succ n ih =>
  intro j V hj hf hnd hlen
  have hfk:∀c∈kd j,jW kd n c=true:=List.all_eq_true.mp hf
  refine ph rfl ?_
  show gw (g9 (cf n) [.dict T,.str (pt j),.cell a,.cell b,.unbound,.unbound] _)=_
  have hVj:V++kP kd (n+1) j=V ++ [j]++(kd j).flatMap (kP kd n):=by rw[List.append_assoc];rfl
  rw[hVj]at hnd ⊢
  have hnd1:((V ++ [j]).map pt).Nodup:=by rw[List.map_append]at hnd;exact(List.nodup_append.mp hnd).1
  have hfr:pt j∉V.map pt:=by
   rw[List.map_append]at hnd1
   exact fun h=>(List.nodup_append.mp hnd1).2.2 _ h _ (List.mem_map.mpr ⟨j,List.mem_singleton.mpr rfl,rfl⟩) rfl
  have hlen':V.length+((kd j).flatMap (kP kd n)).length+1≤1000:=by
   have:(kP kd (n+1) j).length=((kd j).flatMap (kP kd n)).length+1:=rfl
   trivial
  have lk:∀σ,aZ (.dict T) (.str (pt j)) σ=some (.str (an j),σ):=fun σ=>Dl (C.look j hj)
  obtain⟨as,al⟩:=C.asc j hj
  -- lists[path]
  have fl:∀σ,eh [.bytes (cI (an j))] σ=some (D1 nm po kd j,σ):=fun σ=>by
   have:=qd (σ:=σ) (cI (an j)) (by unfold cI;rw[List.length_map];trivial)
   rw[C.flags j hj]at this;exact this
  have Fv:setCell (kJ σ a b (DA pt nm po kd V) (DB pt tv V)) a (.str (pt j)) (D1 nm po kd j)=some (kJ σ a b (DA pt nm po kd (V ++ [j])) (DB pt tv V)):=by
   rw[gu (EA ha hn) (by unfold DA;rw[List.length_map];trivial),gr (by rw[DT];exact hfr),zh hn]
   unfold DA;rw[List.map_append];rfl
  refine st (gm (bc (am (bN (ax rfl rfl (lk _)) rfl aJ (r8 as (Nat.le_trans ‹_› (Nat.le_of_ble_eq_true rfl)))) aJ) (fl _)) (show iS (mV 2) (mV 1) (D1 nm po kd j) [.dict T,.str (pt j),.cell a,.cell b,.unbound,.unbound] _=some ([.dict T,.str (pt j),.cell a,.cell b,.unbound,.unbound],kJ σ a b (DA pt nm po kd (V ++ [j])) (DB pt tv V))from ?_)) ?_
  ·show o1 (setCell _ a (.str (pt j)) (D1 nm po kd j)) _=_
   rw[Fv];rfl
  have st2:setCell (kJ σ a b (DA pt nm po kd (V ++ [j])) (DB pt tv V)) b (.str (pt j)) (tv j)=some (kJ σ a b (DA pt nm po kd (V ++ [j])) (DB pt tv (V ++ [j]))):=by
   rw[gu (GN hb) (by unfold DB;rw[List.length_map];trivial),gr (by rw[DS];exact hfr),zg]
   unfold DB;rw[List.map_append];rfl
  refine st (gm (bc (am (ax rfl rfl (lk _)) aJ) (C.told j hj _)) (show iS (mV 3) (mV 1) (tv j) [.dict T,.str (pt j),.cell a,.cell b,.unbound,.unbound] _=some ([.dict T,.str (pt j),.cell a,.cell b,.unbound,.unbound],kJ σ a b (DA pt nm po kd (V ++ [j])) (DB pt tv (V ++ [j])))from ?_)) ?_
  ·show o1 (setCell _ b (.str (pt j)) (tv j)) _=_
   rw[st2];rfl
  -- head
  refine st (bv (a:=.str (if pt j = [47]then[]else pt j)) (σ1:=kJ σ a b (DA pt nm po kd (V ++ [j])) (DB pt tv (V ++ [j]))) ?_ (by show 4<6;decide)) ?_
  ·have e:∀σ,bW .Eq (.str (pt j)) (.str [47]) σ=some (.bool (decide (pt j = [47])),σ):=fun σ=>by
    rw[HP]
    cases h:(pt j == [47])with
    | true=>rw[decide_eq_true (eq_of_beq h)]
    | false=>rw[decide_eq_false (ne_of_beq_false h)]
   by_cases h:pt j = [47]
   ·rw[if_pos h];exact jl (aB rfl rfl ((e _).trans (by rw[decide_eq_true h]))) rfl
   ·rw[if_neg h];exact jm (aB rfl rfl ((e _).trans (by rw[decide_eq_false h]))) rfl
  -- the folders in this one
  have hsl:∀σ,ci (D1 nm po kd j) .none (.int (-1)) .none σ=some (.tup ((kd j).map fun c=>.bytes (cI (nm c))),σ):=fun σ=>by
   have hl:((((kd j).map nm ++ [po j]).map cI).map AV.bytes).length=(kd j).length+1:=by simp
   have hk:=C.few j hj
   show(if decide ((none:Option Int)=none)&&dX ((((kd j).map nm ++ [po j]).map cI).map AV.bytes).length then some (AV.tup (slc _ none (some (-1))),σ)else none)=_
   rw[if_pos (by rw[hl,cE (Nat.lt_of_le_of_lt ‹_› (Nat.le_of_ble_eq_true rfl))];rfl)]
   have:slc ((((kd j).map nm ++ [po j]).map cI).map AV.bytes) none (some (-1))=(kd j).map fun c=>AV.bytes (cI (nm c)):=by
    show((((kd j).map nm ++ [po j]).map cI).map AV.bytes).take (clipAt ((((kd j).map nm ++ [po j]).map cI).map AV.bytes).length (-1) - 0)=_
    rw[nv,hl]
    simp
   rw[this]
  have key:∀(L:List Nat) (W:List Nat) (x:AV),(∀c∈L,c∈kd j)→((W++L.flatMap (kP kd n)).map pt).Nodup→W.length+(L.flatMap (kP kd n)).length≤1000→∃x',d9 (L.map fun c=>aV 5 (.bytes (cI (nm c)))) (ae (dM (au (aa (mV 0) (aa (ap .Add (ap .Add (mV 4) (mK (.str [47]))) (br "bytes" (mV 5) ak jN)) (aa (mV 2) (aa (mV 3) ak)))) (cf n))) aM)
    [.dict T,.str (pt j),.cell a,.cell b,.str (if pt j = [47]then[]else pt j),x] (kJ σ a b (DA pt nm po kd W) (DB pt tv W))=some (.next,[.dict T,.str (pt j),.cell a,.cell b,.str (if pt j = [47]then[]else pt j),x'],kJ σ a b (DA pt nm po kd (W++L.flatMap (kP kd n))) (DB pt tv (W++L.flatMap (kP kd n)))):=by
   intro L
   induction L with
   | nil=>intro W x _ _ _;exact⟨x,by rw[List.flatMap_nil,List.append_nil];rfl⟩
   | cons c L ihL =>
    intro W x hL hW hWl
    have hc:=hL c List.mem_cons_self
    obtain⟨c7,hpc⟩:=C.kids j hj c hc
    obtain⟨n1,n2,n3⟩:=C.name c
    have hpl:=C.path c c7
    rw[List.flatMap_cons,← List.append_assoc]at hW
    rw[List.flatMap_cons,List.length_append]at hWl
    have hW1:((W++kP kd n c).map pt).Nodup:=by rw[List.map_append]at hW;exact(List.nodup_append.mp hW).1
    have hcall:=ih c W c7 (hfk c hc) hW1 (by trivial)
    obtain⟨x',hx'⟩:=ihL (W++kP kd n c) (.bytes (cI (nm c))) (fun d hd=>hL d (List.mem_cons_of_mem _ hd)) hW (by rw[List.length_append];trivial)
    refine⟨x',?_⟩
    rw[List.map_cons]
    unfold d9
    generalize hh:(if pt j = [47]then[]else pt j)=h0 at *
    have hlh:(h0++47::nm c).length≤1000:=hpc ▸ hpl
    have a1:∀σ,bF .Add (.str h0) (.str [47]) σ=some (.str (h0 ++ [47]),σ):=fun σ=>ik (by rw[List.length_append]at hlh ⊢;rw[List.length_cons]at hlh;show _+1≤_;trivial)
    have a2:∀σ,bF .Add (.str (h0 ++ [47])) (.str (nm c)) σ=some (.str (pt c),σ):=fun σ=>by
     have e:h0 ++ [47]++nm c=pt c:=by rw[hpc,List.append_assoc];rfl
     rw[← e];exact ik (by rw[e];trivial)
    have eb:aV 5 (.bytes (cI (nm c))) [.dict T,.str (pt j),.cell a,.cell b,.str h0,x] (kJ σ a b (DA pt nm po kd W) (DB pt tv W))=some ([.dict T,.str (pt j),.cell a,.cell b,.str h0,.bytes (cI (nm c))],kJ σ a b (DA pt nm po kd W) (DB pt tv W)):=rfl
    have body:ae (dM (au (aa (mV 0) (aa (ap .Add (ap .Add (mV 4) (mK (.str [47]))) (br "bytes" (mV 5) ak jN)) (aa (mV 2) (aa (mV 3) ak)))) (cf n))) aM [.dict T,.str (pt j),.cell a,.cell b,.str h0,.bytes (cI (nm c))] (kJ σ a b (DA pt nm po kd W) (DB pt tv W)) =
      some (.next,[.dict T,.str (pt j),.cell a,.cell b,.str h0,.bytes (cI (nm c))],kJ σ a b (DA pt nm po kd (W++kP kd n c)) (DB pt tv (W++kP kd n c))) :=
     kR (bc (am rfl (am (aE (aE rfl rfl (a1 _)) (bN rfl rfl aJ (Al n1 n2 (Nat.le_trans ‹_› (Nat.le_of_ble_eq_true rfl)))) (a2 _)) (am rfl (am rfl aJ)))) hcall)
    rw[eb,cP,body,eP,hx',List.flatMap_cons,List.append_assoc]
  obtain⟨x',hx'⟩:=key (kd j) (V ++ [j]) .unbound (fun ω h=>h) hnd (by rw[List.length_append];show _+1+_≤_;trivial)
  have it:aN (fu (ao (mV 2) (mV 1)) (mK .none) (iP (mK (.int 1))) (mK .none)) (aV 5) [.dict T,.str (pt j),.cell a,.cell b,.str (if pt j = [47]then[]else pt j),.unbound] (kJ σ a b (DA pt nm po kd (V ++ [j])) (DB pt tv (V ++ [j])))=some ((kd j).map fun c=>aV 5 (.bytes (cI (nm c))),kJ σ a b (DA pt nm po kd (V ++ [j])) (DB pt tv (V ++ [j]))):=by
   refine gD (a:=.tup ((kd j).map fun c=>.bytes (cI (nm c)))) (gK (ax rfl rfl (Iv (EA ha hn) (f8 (f:=D1 nm po kd) hnd1 (List.mem_append_right _ (List.mem_singleton.mpr rfl))))) rfl (j0 rfl) (hsl _)) rfl
  exact st (me it hx') rfl
end
end
section
theorem lf{α:Type}(n i:Nat)(g:Nat→α)(y:α):((List.range n).map g).set i y=(List.range n).map fun a=>if a=i then y else g a:=by
 apply List.ext_getElem
 ·simp
 ·intro j h1 h2
  simp only[List.getElem_set,List.getElem_map,List.getElem_range]
  by_cases h:i=j
  ·rw[if_pos h,if_pos h.symm]
  ·rw[if_neg h,if_neg fun e=>h e.symm]
theorem cW{α:Type}{n i:Nat}(g:Nat→α)(h:i<n):((List.range n).map g)[i]? = some (g i):=by
 rw[List.getElem?_map,List.getElem?_range h];rfl
structure lR(σ0 σ:St)(r n:Nat)(f:Nat→Nat→Int)(as:Nat→Nat):Prop where
 low:σ0.length≤r
 old:∀i,i<σ0.length→σ[i]? = σ0[i]?
 tab:σ[r]? = some (.list ((List.range n).map fun i=>.cell (as i)))
 row:∀i,i<n→as i≠r∧σ0.length≤as i∧σ[as i]? = some (.list ((List.range n).map fun j=>.int (f i j)))
 inj:∀i j,i<n→j<n→as i=as j→i=j
section
variable{σ0 σ:St}{r n:Nat}{f:Nat→Nat→Int}{as:Nat→Nat}
theorem lR.row_at(H:lR σ0 σ r n f as){i:Nat}(hi:i<n)(h:n≤100):aZ (.cell r) (.int i) σ=some (.cell (as i),σ):=iy H.tab (cW _ hi) (by trivial)
theorem lR.at(H:lR σ0 σ r n f as){i j:Nat}(hi:i<n)(hj:j<n)(h:n≤100):aZ (.cell (as i)) (.int j) σ=some (.int (f i j),σ):=iy (H.row i hi).2.2 (cW (fun j=>AV.int (f i j)) hj) (by trivial)
theorem gt{q j:Nat}{l:List AV}{x:AV}(h:σ[q]? = some (.list l))(hj:j<l.length)(hl:l.length≤1000):setCell σ q (.int j) x=some (σ.set q (.list (l.set j x))):=by
 unfold setCell
 rw[h]
 show o1 (if decide (0≤(j:Int))&&decide ((j:Int)<l.length)&&dX l.length then some (aO.list (l.set (j:Int).toNat x))else none) _=_
 rw[if_pos (by rw[decide_eq_true (Int.natCast_nonneg j),decide_eq_true (Int.ofNat_lt.mpr hj),cE (Nat.le_trans ‹_› (Nat.le_of_ble_eq_true rfl))];rfl),Int.toNat_natCast];rfl
noncomputable def put(f:Nat→Nat→Int)(i j:Nat)(x:Int):Nat→Nat→Int:=fun a b=>if a=i then(if b=j then x else f a b)else f a b
theorem lR.store(H:lR σ0 σ r n f as){i j:Nat}(hi:i<n)(hj:j<n)(h:n≤100)(x:Int):∃σ',setCell σ (as i) (.int j) (.int x)=some σ'∧lR σ0 σ' r n (put f i j x) as:=by
 obtain⟨h1,h2,h3⟩:=H.row i hi
 have hlt:as i<σ.length:=(List.getElem?_eq_some_iff.mp h3).1
 refine⟨_,gt h3 (by rw[List.length_map,List.length_range];exact hj) (by rw[List.length_map,List.length_range];trivial),H.low,fun a ha => ?_,?_,fun a ha => ?_,H.inj⟩
 ·rw[List.getElem?_set_ne (by trivial)];exact H.old a ha
 ·rw[List.getElem?_set_ne h1];exact H.tab
 ·obtain⟨g1,g2,g3⟩:=H.row a ha
  refine⟨g1,g2,?_⟩
  by_cases e:a=i
  ·rw[e,List.getElem?_set_self hlt,lf]
   have:(fun b=>if b=j then AV.int x else AV.int (f i b))=fun b=>AV.int (put f i j x i b):=by
    funext b
    unfold put
    rw[if_pos rfl]
    by_cases hb:b=j
    ·rw[if_pos hb,if_pos hb]
    ·rw[if_neg hb,if_neg hb]
   rw[this]
  ·rw[List.getElem?_set_ne (fun q=>e (H.inj _ _ ha hi q.symm)),g3]
   have:(fun b=>AV.int (f a b))=fun b=>AV.int (put f i j x a b):=by funext b;unfold put;rw[if_neg e]
   rw[this]
noncomputable def sw{α:Type}(f:Nat→α)(k o:Nat):Nat→α:=fun a=>if a=k then f o else if a=o then f k else f a
theorem lR.swap(H:lR σ0 σ r n f as){k o:Nat}(hk:k<n)(ho:o<n)(hne:o≠k)(h:n≤100):∃σ1 σ2,setCell σ r (.int k) (.cell (as o))=some σ1∧setCell σ1 r (.int o) (.cell (as k))=some σ2∧aZ (.cell r) (.int o) σ=some (.cell (as o),σ)∧lR σ0 σ2 r n (sw f k o) (sw as k o):=by
 have hr:r<σ.length:=(List.getElem?_eq_some_iff.mp H.tab).1
 have e1:=gt (x:=.cell (as o)) H.tab (j:=k) (by rw[List.length_map,List.length_range];exact hk) (by rw[List.length_map,List.length_range];trivial)
 have t1:(σ.set r (.list (((List.range n).map fun i=>AV.cell (as i)).set k (.cell (as o)))))[r]? = some (.list (((List.range n).map fun i=>AV.cell (as i)).set k (.cell (as o)))):=List.getElem?_set_self hr
 have e2:=gt (x:=.cell (as k)) t1 (j:=o) (by rw[List.length_set,List.length_map,List.length_range];exact ho) (by rw[List.length_set,List.length_map,List.length_range];trivial)
 refine⟨_,_,e1,e2,H.row_at ho h,H.low,fun a ha => ?_,?_,fun a ha => ?_,fun a b ha hb => ?_⟩
 ·have:=H.low
  rw[List.getElem?_set_ne (by trivial),List.getElem?_set_ne (by trivial)];exact H.old a ha
 ·rw[List.getElem?_set_self (by rw[List.length_set];exact hr),lf,lf]
  have:(fun a=>if a=o then AV.cell (as k)else if a=k then AV.cell (as o)else AV.cell (as a))=fun i=>AV.cell (sw as k o i):=by
   funext a
   unfold sw
   by_cases e1:a=k
   ·rw[if_neg (fun q=>hne (q.symm.trans e1)),if_pos e1,if_pos e1]
   ·rw[if_neg e1,if_neg e1]
    by_cases e2:a=o
    ·rw[if_pos e2,if_pos e2]
    ·rw[if_neg e2,if_neg e2]
  rw[this]
 ·have key:∀c,c<n→as c≠r∧σ0.length≤as c∧((σ.set r (.list (((List.range n).map fun i=>AV.cell (as i)).set k (.cell (as o))))).set r (.list ((((List.range n).map fun i=>AV.cell (as i)).set k (.cell (as o))).set o (.cell (as k)))))[as c]? = some (.list ((List.range n).map fun j=>AV.int (f c j))):=fun c hc=>by
   obtain⟨g1,g2,g3⟩:=H.row c hc
   exact⟨g1,g2,by rw[List.getElem?_set_ne (Ne.symm g1),List.getElem?_set_ne (Ne.symm g1)];exact g3⟩
  unfold sw
  by_cases e1:a=k
  ·rw[if_pos e1,if_pos e1];exact key o ho
  ·rw[if_neg e1,if_neg e1]
   by_cases e2:a=o
   ·rw[if_pos e2,if_pos e2];exact key k hk
   ·rw[if_neg e2,if_neg e2];exact key a ha
 ·have hi:=H.inj
  have k1:=hi o k ho hk
  unfold sw
  intro e
  by_cases a1:a=k
  ·rw[if_pos a1]at e
   by_cases b1:b=k
   ·rw[a1,b1]
   ·rw[if_neg b1]at e
    by_cases b2:b=o
    ·rw[if_pos b2]at e;exact absurd (k1 e) hne
    ·rw[if_neg b2]at e;exact absurd (hi _ _ ho hb e).symm b2
  ·rw[if_neg a1]at e
   by_cases a2:a=o
   ·rw[if_pos a2]at e
    by_cases b1:b=k
    ·rw[if_pos b1]at e;exact absurd (k1 e.symm) hne
    ·rw[if_neg b1]at e
     by_cases b2:b=o
     ·rw[a2,b2]
     ·rw[if_neg b2]at e;exact absurd (hi _ _ hk hb e).symm b1
   ·rw[if_neg a2]at e
    by_cases b1:b=k
    ·rw[if_pos b1]at e;exact absurd (hi _ _ ha ho e) a2
    ·rw[if_neg b1]at e
     by_cases b2:b=o
     ·rw[if_pos b2]at e;exact absurd (hi _ _ ha hk e) a1
     ·rw[if_neg b2]at e;exact hi _ _ ha hb e
end
noncomputable def f6(f:Nat→Nat→Int)(k:Nat)(t:Int)(i j:Nat):Int:=(f i j * f k k - f i k * f k j).fdiv t
section
variable{σ0 σ:St}{r n k:Nat}{t:Int}{as:Nat→Nat}
theorem Bw{f:Nat→Nat→Int}(H:lR σ0 σ r n f as){i j:Nat}(hi:i<n)(hj:j<n)(hk:k<n)(h:n≤100)(q1:kK (f i j)=true)(q2:kK (f k k)=true)(q3:kK (f i k)=true)(q4:kK (f k j)=true)(ht:t≠0)(htO:kK t=true)(T s x6 u9 u10:AV) :
  ∃σ',ae (aX (ap .FloorDiv (ap .Sub (ap .Mult (ao (ao (mV 1) (mV 7)) (mV 8)) (ao (ao (mV 1) (mV 5)) (mV 5))) (ap .Mult (ao (ao (mV 1) (mV 7)) (mV 5)) (ao (ao (mV 1) (mV 5)) (mV 8)))) (mV 4)) (iS (ao (mV 1) (mV 7)) (mV 8))) aM
   [T,.cell r,.int n,s,.int t,.int k,x6,.int i,.int j,u9,u10] σ=some (.next,[T,.cell r,.int n,s,.int t,.int k,x6,.int i,.int j,u9,u10],σ')∧lR σ0 σ' r n (put f i j (f6 f k t i j)) as:=by
 obtain⟨σ',h1,h2⟩:=H.store hi hj h (f6 f k t i j)
 refine⟨σ',?_,h2⟩
 have e1:=ax (η := [T,.cell r,.int n,s,.int t,.int k,x6,.int i,.int j,u9,u10]) (m:=ao (mV 1) (mV 7)) (n:=mV 8) (ax rfl rfl (H.row_at hi h)) rfl (H.at hi hj h)
 have e2:=ax (η := [T,.cell r,.int n,s,.int t,.int k,x6,.int i,.int j,u9,u10]) (m:=ao (mV 1) (mV 5)) (n:=mV 5) (ax rfl rfl (H.row_at hk h)) rfl (H.at hk hk h)
 have e3:=ax (η := [T,.cell r,.int n,s,.int t,.int k,x6,.int i,.int j,u9,u10]) (m:=ao (mV 1) (mV 7)) (n:=mV 5) (ax rfl rfl (H.row_at hi h)) rfl (H.at hi hk h)
 have e4:=ax (η := [T,.cell r,.int n,s,.int t,.int k,x6,.int i,.int j,u9,u10]) (m:=ao (mV 1) (mV 5)) (n:=mV 8) (ax rfl rfl (H.row_at hk h)) rfl (H.at hk hj h)
 have ed:∀x,bF .FloorDiv (.int x) (.int t) σ=some (.int (x.fdiv t),σ):=fun x=>(if_pos ht).trans (if_pos htO)
 refine(gm (aE (aE (aE e1 e2 (jq q1 q2)) (aE e3 e4 (jq q3 q4)) rfl) rfl (ed _)) ?_).trans rfl
 show oB (ao (mV 1) (mV 7) [T,.cell r,.int n,s,.int t,.int k,x6,.int i,.int j,u9,u10] σ) _=_
 rw[ax (m:=mV 1) (n:=mV 7) rfl rfl (H.row_at hi h)]
 show o1 (setCell σ (as i) (.int j) (.int (f6 f k t i j))) _=_
 rw[h1];rfl
noncomputable def D7:MS:=ae (aX (ap .FloorDiv (ap .Sub (ap .Mult (ao (ao (mV 1) (mV 7)) (mV 8)) (ao (ao (mV 1) (mV 5)) (mV 5))) (ap .Mult (ao (ao (mV 1) (mV 7)) (mV 5)) (ao (ao (mV 1) (mV 5)) (mV 8)))) (mV 4)) (iS (ao (mV 1) (mV 7)) (mV 8))) aM
noncomputable def vj:ME:=au (aa (ap .Add (mV 5) (mK (.int 1))) (aa (mV 2) ak)) aR
noncomputable def Bx:MS:=ae (gV (aN vj (aV 8)) D7) aM
noncomputable def jF(f:Nat→Nat→Int)(k:Nat)(t:Int)(i:Nat)(L:List Nat):Nat→Nat→Int:=fun a b=>if a=i∧b∈L then f6 f k t i b else f a b
theorem D6{f:Nat→Nat→Int}{i:Nat}(hi:i<n)(hk:k<n)(hik:i≠k)(h:n≤100)(oi:∀b,b<n→kK (f i b)=true)(ok:∀b,b<n→kK (f k b)=true)(ht:t≠0)(htO:kK t=true)(T s x6 u9 u10:AV) :
  ∀(L L0:List Nat) (σ:St) (x8:AV),lR σ0 σ r n (jF f k t i L0) as→(∀j∈L,k<j∧j<n∧j∉L0)→L.Nodup→k∉L0 →
   ∃σ' x8',d9 (L.map fun(j:Nat)=>aV 8 (.int j)) D7 [T,.cell r,.int n,s,.int t,.int k,x6,.int i,x8,u9,u10] σ=some (.next,[T,.cell r,.int n,s,.int t,.int k,x6,.int i,x8',u9,u10],σ')∧lR σ0 σ' r n (jF f k t i (L0++L)) as:=by
 intro L
 induction L with
 | nil=>intro L0 σ x8 H _ _ _;exact⟨σ,x8,rfl,by rw[List.append_nil];exact H⟩
 | cons j L ih =>
  intro L0 σ x8 H hL hN hk0
  obtain⟨h1,h2,h3⟩:=hL j List.mem_cons_self
  obtain⟨n1,n2⟩:=List.nodup_cons.mp hN
  have v1:jF f k t i L0 i j=f i j:=if_neg fun e=>h3 e.2
  have v2:∀b,jF f k t i L0 k b=f k b:=fun b=>if_neg fun e=>hik e.1.symm
  have v3:jF f k t i L0 i k=f i k:=if_neg fun e=>hk0 e.2
  obtain⟨σ1,e1,H1⟩:=Bw (k:=k) (t:=t) H hi h2 hk h (by rw[v1];exact oi j h2) (by rw[v2];exact ok k hk) (by rw[v3];exact oi k hk) (by rw[v2];exact ok j h2) ht htO T s x6 u9 u10
  have hf:put (jF f k t i L0) i j (f6 (jF f k t i L0) k t i j)=jF f k t i (L0 ++ [j]):=by
   have hv:f6 (jF f k t i L0) k t i j=f6 f k t i j:=by unfold f6;rw[v1,v2,v2,v3]
   rw[hv]
   funext a b
   show(if a=i then(if b=j then f6 f k t i j else jF f k t i L0 a b)else jF f k t i L0 a b)=if a=i∧b∈L0 ++ [j]then f6 f k t i b else f a b
   by_cases ea:a=i
   ·rw[if_pos ea]
    by_cases eb:b=j
    ·rw[if_pos eb,if_pos ⟨ea,by rw[eb];exact List.mem_append_right _ List.mem_cons_self⟩,eb]
    ·rw[if_neg eb]
     show(if a=i∧b∈L0 then _ else _)=_
     by_cases eL:b∈L0
     ·rw[if_pos ⟨ea,eL⟩,if_pos ⟨ea,List.mem_append_left _ eL⟩]
     ·rw[if_neg fun e=>eL e.2,if_neg fun e=>(List.mem_append.mp e.2).elim eL fun m=>eb (List.mem_singleton.mp m)]
   ·rw[if_neg ea,if_neg fun e=>ea e.1]
    exact if_neg fun e=>ea e.1
  rw[hf]at H1
  obtain⟨σ2,x8',e2,H2⟩:=ih (L0 ++ [j]) σ1 (.int j) H1 (fun j' hj'=>by
   obtain⟨g1,g2,g3⟩:=hL j' (List.mem_cons_of_mem _ hj')
   exact⟨g1,g2,fun m=>(List.mem_append.mp m).elim g3 fun m=>n1 (by rw[← List.mem_singleton.mp m];exact hj')⟩) n2 fun m=>(List.mem_append.mp m).elim hk0 fun m=>by rw[List.mem_singleton.mp m]at h1;exact Nat.lt_irrefl _ h1
  refine⟨σ2,x8',?_,by rw[List.append_assoc]at H2;exact H2⟩
  rw[List.map_cons]
  unfold d9
  show oB (some (([T,.cell r,.int n,s,.int t,.int k,x6,.int i,.int j,u9,u10]:be),σ)) _=_
  rw[cP]
  show oF (D7 _ σ) _=_
  unfold D7
  rw[e1,eP]
  exact e2
theorem wG{η:be}(hkn:k+1≤n)(hn:n≤100)(h5:mV 5 η σ=some (.int k,σ))(h2:mV 2 η σ=some (.int n,σ))(x:Nat):aN vj (aV x) η σ=some ((List.range' (k+1) (n - (k+1))).map fun(j:Nat)=>aV x (.int j),σ):=by
 have hr:aR [.int ((k:Int)+1),.int n] σ=some (.range ((k+1:Nat):Int) ((k+1+(n - (k+1)):Nat):Int) 1,σ):=by
  rw[Nat.add_sub_cancel' hkn];rfl
 exact gD (bc (am (aE h5 rfl rfl) (am h2 aJ)) hr) (jS (k+1) (n - (k+1)) (by trivial))
noncomputable def g8(f:Nat→Nat→Int)(k n:Nat)(t:Int)(I:List Nat):Nat→Nat→Int:=fun a b=>if a∈I∧b∈List.range' (k+1) (n - (k+1))then f6 f k t a b else f a b
theorem Bt{f:Nat→Nat→Int}(hk:k<n)(h:n≤100)(oFF:∀a b,a<n→b<n→kK (f a b)=true)(ht:t≠0)(htO:kK t=true)(T s x6 u9 u10:AV) :
  ∀(L L0:List Nat) (σ:St) (x7 x8:AV),lR σ0 σ r n (g8 f k n t L0) as→(∀j∈L,k<j∧j<n∧j∉L0)→L.Nodup→k∉L0 →
   ∃σ' x7' x8',d9 (L.map fun(j:Nat)=>aV 7 (.int j)) Bx [T,.cell r,.int n,s,.int t,.int k,x6,x7,x8,u9,u10] σ=some (.next,[T,.cell r,.int n,s,.int t,.int k,x6,x7',x8',u9,u10],σ')∧lR σ0 σ' r n (g8 f k n t (L0++L)) as:=by
 intro L
 induction L with
 | nil=>intro L0 σ x7 x8 H _ _ _;exact⟨σ,x7,x8,rfl,by rw[List.append_nil];exact H⟩
 | cons i L ih =>
  intro L0 σ x7 x8 H hL hN hk0
  obtain⟨h1,h2,h3⟩:=hL i List.mem_cons_self
  obtain⟨n1,n2⟩:=List.nodup_cons.mp hN
  have v1:∀b,g8 f k n t L0 i b=f i b:=fun b=>if_neg fun e=>h3 e.1
  have v2:∀b,g8 f k n t L0 k b=f k b:=fun b=>if_neg fun e=>hk0 e.1
  have hne:i≠k:=fun e=>by rw[e]at h1;exact Nat.lt_irrefl _ h1
  have H':lR σ0 σ r n (jF (g8 f k n t L0) k t i []) as:=by
   have:jF (g8 f k n t L0) k t i []=g8 f k n t L0:=by funext a b;exact if_neg fun e=>nomatch e.2
   rw[this];exact H
  obtain⟨σ1,x8',e1,H1⟩:=D6 h2 hk hne h (fun b hb=>by rw[v1];exact oFF i b h2 hb) (fun b hb=>by rw[v2];exact oFF k b hk hb) ht htO T s x6 u9 u10 (List.range' (k+1) (n - (k+1))) [] σ x8 H' (fun j hj=>by
   have:=List.mem_range'_1.mp hj
   exact⟨by trivial,by trivial,fun m=>nomatch m⟩) List.nodup_range' (fun m=>nomatch m)
  have hf:jF (g8 f k n t L0) k t i ([]++List.range' (k+1) (n - (k+1)))=g8 f k n t (L0 ++ [i]):=by
   funext a b
   show(if a=i∧b∈List.range' (k+1) (n - (k+1))then f6 (g8 f k n t L0) k t i b else g8 f k n t L0 a b)=if a∈L0 ++ [i]∧b∈List.range' (k+1) (n - (k+1))then f6 f k t a b else f a b
   by_cases ea:a=i∧b∈List.range' (k+1) (n - (k+1))
   ·rw[if_pos ea,if_pos ⟨by rw[ea.1];exact List.mem_append_right _ List.mem_cons_self,ea.2⟩,ea.1]
    unfold f6
    rw[v1,v2,v1,v2]
   ·rw[if_neg ea]
    show(if a∈L0∧b∈List.range' (k+1) (n - (k+1))then _ else _)=_
    by_cases eL:a∈L0∧b∈List.range' (k+1) (n - (k+1))
    ·rw[if_pos eL,if_pos ⟨List.mem_append_left _ eL.1,eL.2⟩]
    ·rw[if_neg eL,if_neg fun e=>(List.mem_append.mp e.1).elim (fun m=>eL ⟨m,e.2⟩) fun m=>ea ⟨List.mem_singleton.mp m,e.2⟩]
  rw[hf]at H1
  obtain⟨σ2,x7',x8'',e2,H2⟩:=ih (L0 ++ [i]) σ1 (.int i) x8' H1 (fun j' hj'=>by
   obtain⟨g1,g2,g3⟩:=hL j' (List.mem_cons_of_mem _ hj')
   exact⟨g1,g2,fun m=>(List.mem_append.mp m).elim g3 fun m=>n1 (by rw[← List.mem_singleton.mp m];exact hj')⟩) n2 fun m=>(List.mem_append.mp m).elim hk0 fun m=>by rw[List.mem_singleton.mp m]at h1;exact Nat.lt_irrefl _ h1
  refine⟨σ2,x7',x8'',?_,by rw[List.append_assoc]at H2;exact H2⟩
  rw[List.map_cons]
  unfold d9
  show oB (some (([T,.cell r,.int n,s,.int t,.int k,x6,.int i,x8,u9,u10]:be),σ)) _=_
  rw[cP]
  show oF (Bx _ σ) _=_
  have hi:Bx [T,.cell r,.int n,s,.int t,.int k,x6,.int i,x8,u9,u10] σ=some (.next,[T,.cell r,.int n,s,.int t,.int k,x6,.int i,x8',u9,u10],σ1):=by
   unfold Bx
   exact(me (wG (σ:=σ) hk h rfl rfl 8) e1).trans rfl
  rw[hi,eP]
  exact e2
end
end
section
abbrev Rw:=Nat→Int
noncomputable def ex(F:List Rw→Int)(c:Nat):List Rw→Int
 | []=>0
 | r::rs=>r c * F rs - ex (fun l=>F (r::l)) c rs
noncomputable def b9:List Nat→List Rw→Int
 | [],[]=>1
 | [],_::_=>0
 | c::C,rs=>ex (b9 C) c rs
theorem Gg(c:Nat):∀(rs:List Rw) (F G:List Rw→Int),ex (fun l=>F l+G l) c rs=ex F c rs+ex G c rs:=by
 intro l₀
 induction l₀ with
 | nil =>
  intro _ _
  exact rfl
 | cons r rs ih₀ =>
  intro F G
  unfold ex
  rw[ih₀ (fun l=>F (r::l)) (fun l=>G (r::l))]
  grind
theorem jk(c:Nat)(a:Int):∀(rs:List Rw) (F:List Rw→Int),ex (fun l=>a * F l) c rs=a * ex F c rs:=by
 intro l₀
 induction l₀ with
 | nil =>
  intro _
  simp[ex]
 | cons r rs ih₀ =>
  intro F
  unfold ex
  rw[ih₀ (fun l=>F (r::l))]
  grind
theorem l7(c:Nat):∀(rs:List Rw) (F:List Rw→Int),(∀r∈rs,r c=0)→ex F c rs=0:=by
 intro l₀
 induction l₀ with
 | nil =>
  intro _ _
  exact rfl
 | cons r rs ih₀ =>
  intro F h
  unfold ex
  rw[ih₀ _ (fun x hx=>h x (List.mem_cons_of_mem _ hx)),h r List.mem_cons_self]
  simp
noncomputable def oy(F:List Rw→Int):Prop:=∀a x y b,F (a++x::y::b) = - F (a++y::x::b)
noncomputable def qW(F:List Rw→Int):Prop:=∀a (s t:Int) (x y:Rw) b,F (a++(fun c=>s * x c+t * y c)::b)=s * F (a++x::b)+t * F (a++y::b)
theorem oy.cons{F:List Rw→Int}(h:oy F)(r:Rw):oy (fun l=>F (r::l)):=fun a x y b=>h (r::a) x y b
theorem qW.cons{F:List Rw→Int}(h:qW F)(r:Rw):qW (fun l=>F (r::l)):=fun a s t x y b=>h (r::a) s t x y b
theorem hZ(c:Nat):∀(rs:List Rw) (F G:List Rw→Int),(∀l,F l=G l)→ex F c rs=ex G c rs:=by
 intro l₀
 induction l₀ with
 | nil =>
  intro _ _ _
  exact rfl
 | cons r rs ih₀ =>
  intro F G h
  unfold ex
  rw[h rs,ih₀ (fun l=>F (r::l)) (fun l=>G (r::l)) fun l=>h _]
theorem Gf{F:List Rw→Int}(c:Nat)(h:oy F):oy (ex F c):=by
 intro a
 induction a generalizing F with
 | nil =>
  intro x y b
  have e:ex (fun l=>F (x::y::l)) c b = - ex (fun l=>F (y::x::l)) c b:=by
   have h1:=jk c (-1) b (fun l=>F (y::x::l))
   have h2:=hZ c b (fun l=>F (x::y::l)) (fun l => -1 * F (y::x::l)) (fun l=>by have:=h [] x y l;simp only[List.nil_append]at this;rw[this];trivial)
   rw[h2,h1];trivial
  simp only[List.nil_append,ex]
  rw[e]
  grind
 | cons r a ih =>
  intro x y b
  simp only[List.cons_append,ex]
  rw[h a x y b]
  have:=ih (h.cons r) x y b
  rw[this]
  grind
theorem Ge{F:List Rw→Int}(c:Nat)(h:qW F):qW (ex F c):=by
 intro a
 induction a generalizing F with
 | nil =>
  intro s t x y b
  have e:ex (fun l=>F ((fun c=>s * x c+t * y c)::l)) c b=s * ex (fun l=>F (x::l)) c b+t * ex (fun l=>F (y::l)) c b:=by
   have h2:=hZ c b (fun l=>F ((fun c=>s * x c+t * y c)::l)) (fun l=>s * F (x::l)+t * F (y::l)) (fun l=>h [] s t x y l)
   rw[h2,Gg,jk,jk]
  simp only[List.nil_append,ex]
  rw[e]
  grind
 | cons r a ih =>
  intro s t x y b
  simp only[List.cons_append,ex]
  rw[h a s t x y b]
  have:=ih (h.cons r) s t x y b
  rw[this]
  grind
theorem em:∀C:List Nat,oy (b9 C):=by
 intro l₀
 induction l₀ with
 | nil =>
  exact fun a x y b=>by cases a <;> rfl
 | cons c C ih₀ =>
  exact Gf c (ih₀)
theorem dU:∀C:List Nat,qW (b9 C):=by
 intro l₀
 induction l₀ with
 | nil =>
  exact fun a s t x y b=>by cases a <;> simp[b9]
 | cons c C ih₀ =>
  exact Ge c (ih₀)
theorem vK{F:List Rw→Int}(h:oy F)(x:Rw):∀(b a d:List Rw),F (a++x::(b++x::d))=0:=by
 intro l₀
 induction l₀ with
 | nil =>
  intro a d
  have:=h a x x d;simp only[List.nil_append];trivial
 | cons y b ih₀ =>
  intro a d
  have e:=h a x y (b++x::d)
  have i:=ih₀ (a ++ [y]) d
  rw[List.append_assoc]at i
  simp only[List.cons_append,List.nil_append]at i
  rw[List.cons_append,e,i];rfl
theorem eV{F:List Rw→Int}(h:oy F)(x:Rw):∀(a b:List Rw),F (a++x::b)=(-1) ^ a.length * F (x::(a++b))
 | [],b=>by simp
 | y::a,b=>by
  have i:=eV (h.cons y) x a b
  have e:=h [] y x (a++b)
  simp only[List.nil_append]at e
  rw[List.cons_append,i,e,List.length_cons,Int.pow_succ,List.cons_append]
  grind
theorem ww{F:List Rw→Int}(hl:qW F)(ha:oy F)(t:Int)(x r:Rw)(a b d:List Rw):F (a++x::(b++(fun c=>r c+t * x c)::d))=F (a++x::(b++r::d)):=by
 have:=hl (a++x::b) 1 t r x d
 simp only[List.append_assoc,List.cons_append]at this
 rw[vK ha]at this
 simpa using this
theorem tr{F:List Rw→Int}(h:oy F)(x y:Rw)(a b:List Rw):F (x::(a++y::b)) = - F (y::(a++x::b)):=by
 have e1:=eV (h.cons x) y a b
 have e2:=eV (h.cons y) x a b
 have e3:=h [] x y (a++b)
 simp only[List.nil_append]at e3
 rw[e1,e2,e3]
 grind
theorem yf{α:Type}(c:Nat)(f g:α→Rw):∀(rs:List α) (F G:List Rw→Int),(∀r∈rs,f r c=g r c)→(∀l:List α,(∀r∈l,r∈rs)→F (l.map f)=G (l.map g))→ex F c (rs.map f)=ex G c (rs.map g):=by
 intro l₀
 induction l₀ with
 | nil =>
  intro _ _ _ _
  exact rfl
 | cons r rs ih₀ =>
  intro F G h h2
  rw[List.map_cons,List.map_cons]
  unfold ex
  rw[h r List.mem_cons_self,h2 rs (fun x hx=>List.mem_cons_of_mem _ hx)]
  rw[ih₀ (fun l=>F (f r::l)) (fun l=>G (g r::l)) (fun x hx=>h x (List.mem_cons_of_mem _ hx)) (fun l hl=>h2 (r::l) (fun x hx=>by
   rcases List.mem_cons.mp hx with rfl | hx
   ·exact List.mem_cons_self
   ·exact List.mem_cons_of_mem _ (hl x hx)))]
theorem c6{α:Type}(f g:α→Rw):∀(C:List Nat) (rs:List α),(∀r∈rs,∀c∈C,f r c=g r c)→b9 C (rs.map f)=b9 C (rs.map g):=by
 intro l₀
 induction l₀ with
 | nil =>
  intro rs _
  cases rs <;> rfl
 | cons c C ih₀ =>
  intro rs h
  unfold b9
  exact yf c f g rs _ _ (fun r hr=>h r hr c List.mem_cons_self) fun l hl=>ih₀ l fun r hr d hd=>h r (hl r hr) d (List.mem_cons_of_mem _ hd)
theorem GR{F:List Rw→Int}(hl:qW F)(t:Int):∀(rs a:List Rw),F (a++rs.map (fun r j=>t * r j))=t ^ rs.length * F (a++rs):=by
 intro l₀
 induction l₀ with
 | nil =>
  intro a
  simp
 | cons r rs ih₀ =>
  intro a
  have h1:=hl a t 0 r r (rs.map (fun r j=>t * r j))
  have h2:=ih₀ (a ++ [r])
  simp only[Int.zero_mul,Int.add_zero]at h1
  simp only[List.append_assoc,List.cons_append,List.nil_append]at h2
  rw[List.map_cons,h1,h2,List.length_cons,Int.pow_succ]
  grind
noncomputable def elim(r0:Rw)(c:Nat)(r:Rw):Rw:=fun j=>r0 c * r j+(-(r c)) * r0 j
theorem Bk{F:List Rw→Int}(hl:qW F)(ha:oy F)(r0:Rw)(c:Nat):∀(rs a:List Rw),F (r0::(a++rs.map (elim r0 c)))=r0 c ^ rs.length * F (r0::(a++rs)):=by
 intro l₀
 induction l₀ with
 | nil =>
  intro a
  simp
 | cons r rs ih₀ =>
  intro a
  have h1:=hl (r0::a) (r0 c) (-(r c)) r r0 (rs.map (elim r0 c))
  have h2:=ih₀ (a ++ [r])
  have h3:=vK ha r0 a [] (rs.map (elim r0 c))
  simp only[List.append_assoc,List.cons_append,List.nil_append]at h1 h2 h3
  rw[h3]at h1
  rw[List.map_cons,List.length_cons,Int.pow_succ]
  have e:elim r0 c r=fun j=>r0 c * r j+(-(r c)) * r0 j:=rfl
  rw[e,h1,h2]
  grind
theorem wH(c:Nat)(C:List Nat)(r0:Rw)(rs:List Rw)(h:∀r∈rs,r c=0):b9 (c::C) (r0::rs)=r0 c * b9 C rs:=by
 show r0 c * b9 C rs - ex (fun l=>b9 C (r0::l)) c rs=_
 rw[l7 c rs _ h];trivial
theorem HG(c:Nat)(C:List Nat)(r0:Rw)(rs:List Rw):r0 c * b9 C (rs.map (elim r0 c))=r0 c ^ rs.length * b9 (c::C) (r0::rs):=by
 have h1:=Bk (dU (c::C)) (em (c::C)) r0 c rs []
 simp only[List.nil_append]at h1
 rw[← h1,wH c C r0 _ (fun r hr=>by
  obtain⟨q,_,rfl⟩:=List.mem_map.mp hr
  unfold elim;grind)]
noncomputable def Dv(t:Int)(C:List Nat)(rs:List Rw):Prop:=∀(s:Nat) (D:List Nat) (R:List Rw),(∀c∈D,c∈C)→(∀r∈R,r∈rs)→D.length=s+1→R.length=s+1→t ^ s ∣ b9 D R
theorem Dv.one(C:List Nat)(rs:List Rw):Dv 1 C rs:=fun s D R ω ω ω ω=>by rw[Int.one_pow];exact Int.one_dvd _
noncomputable def nT(t:Int)(r0:Rw)(c:Nat)(r:Rw):Rw:=fun j=>(r j * r0 c - r c * r0 j) / t
theorem ze{t:Int}{C:List Nat}{c:Nat}{r0:Rw}{rs:List Rw}(h:Dv t (c::C) (r0::rs))(ht:t≠0):∀r∈rs,∀j∈C,t * nT t r0 c r j=elim r0 c r j:=by
 intro r hr j hj
 have:=h 1 [c,j] [r0,r] (by
  intro d hd
  simp only[List.mem_cons,List.not_mem_nil,or_false]at hd
  rcases hd with rfl | rfl
  ·exact List.mem_cons_self
  ·exact List.mem_cons_of_mem _ hj) (by
  intro d hd
  simp only[List.mem_cons,List.not_mem_nil,or_false]at hd
  rcases hd with rfl | rfl
  ·exact List.mem_cons_self
  ·exact List.mem_cons_of_mem _ hr) rfl rfl
 have e:b9 [c,j] [r0,r]=r j * r0 c - r c * r0 j:=by
  simp only[b9,ex];grind
 rw[e,Int.pow_succ,Int.pow_zero,Int.one_mul]at this
 unfold nT elim
 rw[Int.mul_ediv_cancel' this]
 grind
theorem Dv.step{t:Int}{C:List Nat}{c:Nat}{r0:Rw}{rs:List Rw}(h:Dv t (c::C) (r0::rs))(ht:t≠0)(hp:r0 c≠0):∀(s:Nat) (D:List Nat) (R:List Rw),(∀d∈D,d∈C)→(∀r∈R,r∈rs)→D.length=s+1→R.length=s+1 →
  ∃q,b9 D (R.map (nT t r0 c))=r0 c ^ s * q∧b9 (c::D) (r0::R)=t ^ (s+1) * q:=by
 intro s D R hD hR h1 h2
 obtain⟨q,hq⟩:=h (s+1) (c::D) (r0::R) (by
  intro d hd
  rcases List.mem_cons.mp hd with rfl | hd
  ·exact List.mem_cons_self
  ·exact List.mem_cons_of_mem _ (hD d hd)) (by
  intro d hd
  rcases List.mem_cons.mp hd with rfl | hd
  ·exact List.mem_cons_self
  ·exact List.mem_cons_of_mem _ (hR d hd)) (by simp[h1]) (by simp[h2])
 refine⟨q,?_,hq⟩
 have e1:=HG c D r0 R
 have e2:=c6 (fun r j=>t * nT t r0 c r j) (elim r0 c) D R fun r hr d hd=>ze h ht r (hR r hr) d (hD d hd)
 have e3:=GR (dU D) t (R.map (nT t r0 c)) []
 simp only[List.nil_append,List.map_map,List.length_map]at e3
 have e4:R.map ((fun(r:Rw) j=>t * r j) ∘ nT t r0 c)=R.map (fun r j=>t * nT t r0 c r j):=rfl
 rw[e4,e2]at e3
 rw[e3,hq,h2,Int.pow_succ,Int.pow_succ]at e1
 have k1:(r0 c * t ^ s * t) * b9 D (R.map (nT t r0 c))=(r0 c * t ^ s * t) * (r0 c ^ s * q):=by
  grind
 have k2:r0 c * t ^ s * t≠0:=Int.mul_ne_zero (Int.mul_ne_zero hp (Int.pow_ne_zero ht)) ht
 exact Int.eq_of_mul_eq_mul_left k2 k1
noncomputable def pY(c:Nat):List Rw→Option (Rw×List Rw×Bool)
 | []=>none
 | r0::rs=>if r0 c≠0 then some (r0,rs,true)else go r0 [] rs
where go (r0:Rw) (a:List Rw):List Rw→Option (Rw×List Rw×Bool)
 | []=>none
 | r::b=>if r c≠0 then some (r,a++r0::b,false)else go r0 (a ++ [r]) b
noncomputable def BP(t:Int):List Nat→List Rw→Int
 | [],_=>0
 | [c],rs=>match rs with
  | r::_=>r c
  | []=>0
 | c::d::C,rs=>match pY c rs with
  | none=>0
  | some (p,b,s)=>(if s then 1 else -1) * BP (p c) (d::C) (b.map (nT t p c))
theorem FM(c:Nat)(r0:Rw)(h0:r0 c=0)(F:List Rw→Int)(hF:oy F):∀(b a:List Rw),(∀r∈a,r c=0)→match pY.go c r0 a b with
  | none=>∀r∈r0::(a++b),r c=0
  | some (p,l,s)=>s=false∧p c≠0∧l.length=(a++b).length∧(∀r,r∈p::l→r∈r0::(a++b))∧F (r0::(a++b)) = - F (p::l):=by
 intro l₀
 induction l₀ with
 | nil =>
  intro a ha
  unfold pY.go
  dsimp only
  intro r hr
  rw[List.append_nil]at hr
  rcases List.mem_cons.mp hr with rfl | hr
  ·exact h0
  ·exact ha r hr
 | cons r b ih₀ =>
  intro a ha
  unfold pY.go
  by_cases h:r c≠0
  ·rw[if_pos h]
   dsimp only
   refine⟨rfl,h,by simp,?_,tr hF r0 r a b⟩
   intro x hx
   simp only[List.mem_cons,List.mem_append]at hx ⊢
   rcases hx with h | h | h | h
   ·exact .inr (.inr (.inl h))
   ·exact .inr (.inl h)
   ·exact .inl h
   ·exact .inr (.inr (.inr h))
  ·rw[if_neg h]
   have:=ih₀ (a ++ [r]) (by
    intro x hx
    rcases List.mem_append.mp hx with hx | hx
    ·exact ha x hx
    ·simp only[List.mem_cons,List.not_mem_nil,or_false]at hx
     subst hx;exact Decidable.not_not.mp h)
   simp only[List.append_assoc,List.cons_append,List.nil_append]at this
   exact this
theorem zW(c:Nat)(rs:List Rw)(F:List Rw→Int)(hF:oy F):match pY c rs with
  | none=>∀r∈rs,r c=0
  | some (p,l,s)=>p c≠0∧l.length+1=rs.length∧(∀r,r∈p::l→r∈rs)∧F rs=(if s then 1 else -1) * F (p::l):=by
 match rs with
 | []=>exact fun ω h=>nomatch h
 | r0::rs =>
  have hu:pY c (r0::rs)=if r0 c≠0 then some (r0,rs,true)else pY.go c r0 [] rs:=rfl
  rw[hu]
  by_cases h:r0 c≠0
  ·rw[if_pos h]
   dsimp only
   exact⟨h,rfl,fun ω h=>h,by simp⟩
  ·rw[if_neg h]
   have:=FM c r0 (Decidable.not_not.mp h) F hF rs [] (fun ω h=>nomatch h)
   cases hg:pY.go c r0 [] rs with
   | none=>rw[hg]at this;exact this
   | some q =>
    obtain⟨p,l,s⟩:=q
    rw[hg]at this
    dsimp only at this ⊢
    obtain⟨e1,e2,e3,e4,e5⟩:=this
    subst e1
    refine⟨e2,by simpa using e3,e4,?_⟩
    simp only[List.nil_append]at e5
    rw[e5];simp
theorem BO:∀(C:List Nat) (t:Int) (rs:List Rw),t≠0→C ≠ []→rs.length=C.length→Dv t C rs→b9 C rs=t ^ (C.length - 1) * BP t C rs
 | [],_,_,_,h,_,_=>absurd rfl h
 | [c],t,rs,_,_,hl,_=>by
  match rs,hl with
  | [r],_=>simp[b9,ex,BP]
 | c::d::C,t,rs,ht,_,hl,h=>by
  have hp:=zW c rs (b9 (c::d::C)) (em _)
  unfold BP
  cases hg:pY c rs with
  | none =>
   rw[hg]at hp
   have:b9 (c::d::C) rs=0:=l7 c rs _ hp
   rw[this];simp
  | some q =>
   obtain⟨p,l,s⟩:=q
   rw[hg]at hp
   dsimp only at hp ⊢
   obtain⟨e1,e2,e3,e4⟩:=hp
   have hl':l.length=C.length+1:=by simp only[List.length_cons]at hl;trivial
   have h':Dv t (c::d::C) (p::l):=fun s D R a b=>h s D R a (fun r hr=>e3 r (b r hr))
   have hs:=h'.step ht e1
   obtain⟨q,q1,q2⟩:=hs C.length (d::C) l (fun ω h=>h) (fun ω h=>h) rfl hl'
   have h'':Dv (p c) (d::C) (l.map (nT t p c)):=by
    intro s D R hD hR hs1 hs2
    have:∃R':List Rw,R=R'.map (nT t p c)∧∀r∈R',r∈l:=by
     clear hs2
     induction R with
     | nil=>exact⟨[],rfl,fun ω h=>nomatch h⟩
     | cons r R ih =>
      obtain⟨R',i1,i2⟩:=ih (fun r hr=>hR r (List.mem_cons_of_mem _ hr))
      obtain⟨r',j1,j2⟩:=List.mem_map.mp (hR r List.mem_cons_self)
      refine⟨r'::R',by rw[i1,List.map_cons,j2],?_⟩
      intro x hx
      rcases List.mem_cons.mp hx with rfl | hx
      ·exact j1
      ·exact i2 x hx
    obtain⟨R',i1,i2⟩:=this
    subst i1
    obtain⟨q,k1,_⟩:=hs s D R' hD i2 hs1 (by simpa using hs2)
    rw[k1];exact Int.dvd_mul_right _ _
   have ih:=BO (d::C) (p c) (l.map (nT t p c)) e1 (by simp) (by simp[hl']) h''
   rw[q1]at ih
   have k2:(p c) ^ C.length≠0:=Int.pow_ne_zero e1
   have e5:q=BP (p c) (d::C) (l.map (nT t p c)):=Int.eq_of_mul_eq_mul_left k2 ih
   rw[e4,q2,e5]
   simp only[List.length_cons,Nat.add_sub_cancel]
   grind
theorem Eg(C:List Nat)(rs:List Rw)(hC:C ≠ [])(hl:rs.length=C.length):BP 1 C rs=b9 C rs:=by
 rw[BO C 1 rs (by decide) hC hl (Dv.one C rs),Int.one_pow,Int.one_mul]
end
section
theorem ye(c:Nat):∀(rs:List Rw) (F G:List Rw→Int),(∀l:List Rw,l.length+1=rs.length→F l=G l)→ex F c rs=ex G c rs:=by
 intro l₀
 induction l₀ with
 | nil =>
  intro _ _ _
  exact rfl
 | cons r rs ih₀ =>
  intro F G h
  unfold ex
  rw[h rs rfl,ih₀ (fun l=>F (r::l)) (fun l=>G (r::l)) fun l hl=>h (r::l) (by simp[hl])]
theorem Bf(c:Nat)(R2:List Rw):∀(R1:List Rw) (F:List Rw→Int),(∀l,F (R1++l)=0)→ex F c (R1++R2)=ex (fun l=>F (l++R2)) c R1:=by
 intro l₀
 induction l₀ with
 | nil =>
  intro F h
  have:=hZ c R2 F (fun ω=>0 * 0) (fun l=>by simpa using h l)
  rw[List.nil_append,this,jk];simp[ex]
 | cons r R1 ih₀ =>
  intro F h
  rw[List.cons_append]
  unfold ex
  rw[ih₀ (fun l=>F (r::l)) (fun l=>h l)]
  rfl
theorem D3(c:Nat)(R2:List Rw)(hz:∀r∈R2,r c=0):∀(R1:List Rw) (F:List Rw→Int),ex F c (R1++R2)=ex (fun l=>F (l++R2)) c R1:=by
 intro l₀
 induction l₀ with
 | nil =>
  intro F
  exact l7 c R2 F hz
 | cons r R1 ih₀ =>
  intro F
  rw[List.cons_append]
  unfold ex
  rw[ih₀ (fun l=>F (r::l))]
  rfl
theorem Be(c:Nat)(rs:List Rw):ex (fun ω=>0) c rs=0:=by
 have:=jk c 0 rs (fun ω=>0)
 simpa using this
theorem AG{F:List Rw→Int}(hl:qW F)(r:Rw)(hr:∀c,r c=0)(a b:List Rw):F (a++r::b)=0:=by
 have:=hl a 0 0 r r b
 have e:(fun c=>0 * r c+0 * r c)=r:=by funext c;rw[hr c];rfl
 rw[e]at this;trivial
theorem sP(C:List Nat)(r:Rw)(hr:∀c∈C,r c=0)(a b:List Rw):b9 C (a++r::b)=0:=by
 have h:=c6 (fun q=>q) (fun q j=>if j∈C then q j else 0) C (a++r::b) (fun q ω c hc=>by simp[hc])
 rw[List.map_id']at h
 rw[h,List.map_append,List.map_cons]
 exact AG (dU C) _ (fun c=>by
  show(if c∈C then r c else 0)=0
  split
  ·rename_i h;exact hr c h
  ·rfl) _ _
theorem IO(C2:List Nat):∀(C1:List Nat) (R1 R2:List Rw),C1.length<R1.length→(∀r∈R1,∀c∈C2,r c=0)→b9 (C1++C2) (R1++R2)=0:=by
 intro l₀
 induction l₀ with
 | nil =>
  intro R1 R2 h hz
  match R1,h with
  | r::R1,_=>exact sP C2 r (hz r List.mem_cons_self) [] (R1++R2)
 | cons c C1 ih₀ =>
  intro R1 R2 h hz
  simp only[List.length_cons]at h
  show ex (b9 (C1++C2)) c (R1++R2)=0
  rw[Bf c R2 R1 _ (fun l=>ih₀ R1 l (Nat.le_of_lt ‹_›) hz)]
  have key:∀(R0 R1:List Rw),C1.length+1<R0.length+R1.length→(∀r∈R0++R1,∀c∈C2,r c=0)→ex (fun l=>b9 (C1++C2) (R0++l++R2)) c R1=0:=by
   intro R0 R1
   induction R1 generalizing R0 with
   | nil=>intro _ _;rfl
   | cons r R1 ih =>
    intro h1 h2
    simp only[List.length_cons]at h1
    unfold ex
    have i1:=ih (R0 ++ [r]) (by simp;trivial) (by simpa using h2)
    have i2:=ih₀ (R0++R1) R2 (by simp;trivial) (fun q hq=>h2 q (by
     rcases List.mem_append.mp hq with hq | hq
     ·exact List.mem_append_left _ hq
     ·exact List.mem_append_right _ (List.mem_cons_of_mem _ hq)))
    simp only[List.append_assoc,List.cons_append,List.nil_append]at i1 i2 ⊢
    rw[i1,i2];simp
  exact key [] R1 (by simpa using h) (by simpa using hz)
theorem Go(C2:List Nat)(R2:List Rw):∀(C1:List Nat) (R1:List Rw),R1.length=C1.length→(∀r∈R1,∀c∈C2,r c=0)→b9 (C1++C2) (R1++R2)=b9 C1 R1 * b9 C2 R2:=by
 intro l₀
 induction l₀ with
 | nil =>
  intro R1 h hz
  match R1,h with
  | [],_=>simp[b9]
 | cons c C1 ih₀ =>
  intro R1 h hz
  simp only[List.length_cons]at h
  show ex (b9 (C1++C2)) c (R1++R2)=ex (b9 C1) c R1 * _
  rw[Bf c R2 R1 _ (fun l=>IO C2 C1 R1 l (by trivial) hz)]
  have key:∀(R0 R1:List Rw),R0.length+R1.length=C1.length+1→(∀r∈R0++R1,∀c∈C2,r c=0)→ex (fun l=>b9 (C1++C2) (R0++l++R2)) c R1=ex (fun l=>b9 C1 (R0++l)) c R1 * b9 C2 R2:=by
   intro R0 R1
   induction R1 generalizing R0 with
   | nil=>intro _ _;simp[ex]
   | cons r R1 ih =>
    intro h1 h2
    simp only[List.length_cons]at h1
    unfold ex
    have i1:=ih (R0 ++ [r]) (by simp;trivial) (by simpa using h2)
    have i2:=ih₀ (R0++R1) (by simp;trivial) (fun q hq=>h2 q (by
     rcases List.mem_append.mp hq with hq | hq
     ·exact List.mem_append_left _ hq
     ·exact List.mem_append_right _ (List.mem_cons_of_mem _ hq)))
    simp only[List.append_assoc,List.cons_append,List.nil_append]at i1 i2 ⊢
    rw[i1,i2];grind
  exact key [] R1 (by simpa using h) (by simpa using hz)
theorem IM(C2:List Nat)(R2:List Rw):∀(C1:List Nat) (R1:List Rw),R1.length=C1.length→(∀r∈R2,∀c∈C1,r c=0)→b9 (C1++C2) (R1++R2)=b9 C1 R1 * b9 C2 R2:=by
 intro l₀
 induction l₀ with
 | nil =>
  intro R1 h hz
  match R1,h with
  | [],_=>simp[b9]
 | cons c C1 ih₀ =>
  intro R1 h hz
  simp only[List.length_cons]at h
  show ex (b9 (C1++C2)) c (R1++R2)=ex (b9 C1) c R1 * _
  rw[D3 c R2 (fun r hr=>hz r hr c List.mem_cons_self)]
  rw[ye c R1 (fun l=>b9 (C1++C2) (l++R2)) (fun l=>b9 C2 R2 * b9 C1 l) (fun l hl=>by
   rw[ih₀ l (by trivial) (fun r hr d hd=>hz r hr d (List.mem_cons_of_mem _ hd)),Int.mul_comm]),jk,Int.mul_comm]
noncomputable def unit(q:Nat):Rw:=fun j=>if j=q then 1 else 0
theorem yj(q:Nat)(C2:List Nat)(h2:q∉C2):∀(C1:List Nat) (R:List Rw),q∉C1→b9 (C1++q::C2) (unit q::R)=(-1) ^ C1.length * b9 (C1++C2) R:=by
 intro l₀
 induction l₀ with
 | nil =>
  intro R _
  show ex (b9 C2) q (unit q::R)=_
  unfold ex
  have e:ex (fun l=>b9 C2 (unit q::l)) q R=0:=by
   rw[hZ q R (fun l=>b9 C2 (unit q::l)) (fun ω=>0) (fun l=>sP C2 (unit q) (fun c hc=>if_neg (fun e:c=q=>h2 (e ▸ hc))) [] l),Be]
  rw[e]
  have:unit q q=1:=if_pos rfl
  rw[this];simp
 | cons c C1 ih₀ =>
  intro R h1
  show ex (b9 (C1++q::C2)) c (unit q::R)=_
  unfold ex
  have hc:unit q c=0:=if_neg (fun e:c=q=>h1 (e ▸ List.mem_cons_self))
  rw[hc,hZ c R _ (fun l=>(-1) ^ C1.length * b9 (C1++C2) l) (fun l=>ih₀ l (fun h=>h1 (List.mem_cons_of_mem _ h))),jk]
  show _=(-1) ^ (C1.length+1) * ex (b9 (C1++C2)) c R
  rw[Int.pow_succ];grind
theorem FZ(n:Nat):(-1:Int) ^ n * (-1) ^ n=1:=by
 induction n with
 | zero=>rfl
 | succ n ih=>rw[Int.pow_succ];grind
theorem sQ(q:Nat)(C1 C2:List Nat)(a b:List Rw)(h1:q∉C1)(h2:q∉C2)(hl:a.length=C1.length):b9 (C1++q::C2) (a++unit q::b)=b9 (C1++C2) (a++b):=by
 rw[eV (em _),yj q C2 h2 C1 _ h1,hl,← Int.mul_assoc,FZ,Int.one_mul]
noncomputable def k4(C:List Nat)(r:Rw):Int:=(C.map r).sum
theorem eU(c:Nat)(C:List Nat)(r:Rw):k4 (c::C) r=r c+k4 C r:=by unfold k4;simp
theorem rz(C:List Nat)(s t:Int)(x y:Rw):k4 C (fun c=>s * x c+t * y c)=s * k4 C x+t * k4 C y:=by
 induction C with
 | nil=>simp[k4]
 | cons c C ih=>rw[eU,eU,eU,ih];grind
theorem Br:∀(C:List Nat) (rs:List Rw),C ≠ []→(∀r∈rs,k4 C r=0)→b9 C rs=0:=by
 intro l₀
 induction l₀ with
 | nil =>
  intro _ h _
  exact absurd rfl h
 | cons c C ih₀ =>
  intro rs _ h
  have hp:=zW c rs (b9 (c::C)) (em _)
  cases hg:pY c rs with
  | none=>rw[hg]at hp;exact l7 c rs _ hp
  | some q =>
   obtain⟨p,l,s⟩:=q
   rw[hg]at hp
   dsimp only at hp
   obtain⟨e1,e2,e3,e4⟩:=hp
   by_cases hC:C = []
   ·subst hC
    have:=h p (e3 p List.mem_cons_self)
    rw[eU]at this
    simp[k4]at this
    exact absurd this e1
   ·have ih:=ih₀ (l.map (elim p c)) hC (by
     intro r hr
     obtain⟨q,hq,rfl⟩:=List.mem_map.mp hr
     have s1:=h q (e3 q (List.mem_cons_of_mem _ hq))
     have s2:=h p (e3 p List.mem_cons_self)
     rw[eU]at s1 s2
     show k4 C (fun j=>p c * q j+(-(q c)) * p j)=0
     rw[rz]
     grind)
    have ch:=HG c C p l
    rw[ih,Int.mul_zero]at ch
    have:b9 (c::C) (p::l)=0:=by
     rcases Int.mul_eq_zero.mp ch.symm with h | h
     ·exact absurd h (Int.pow_ne_zero e1)
     ·exact h
    rw[e4,this,Int.mul_zero]
noncomputable def mz(l:List Rw):Rw:=fun c=>(l.map (fun q=>q c)).sum
theorem pU{F:List Rw→Int}(hl:qW F)(ha:oy F)(t:Int):∀(b:List Rw) (a:List Rw) (r:Rw),F ((fun c=>r c+t * mz b c)::(a++b))=F (r::(a++b)):=by
 intro l₀
 induction l₀ with
 | nil =>
  intro a r
  have:(fun c=>r c+t * mz [] c)=r:=by funext c;simp[mz]
  rw[this]
 | cons q b ih₀ =>
  intro a r
  have i:=ih₀ (a ++ [q]) (fun c=>r c+t * q c)
  have e:(fun c=>(fun c=>r c+t * q c) c+t * mz b c)=fun c=>r c+t * mz (q::b) c:=by
   funext c;simp only[mz,List.map_cons,List.sum_cons];grind
  rw[e]at i
  simp only[List.append_assoc,List.cons_append,List.nil_append]at i
  rw[i]
  have j:=hl [] 1 t r q (a++q::b)
  have k:=vK ha q a [] b
  simp only[List.nil_append]at j k
  rw[k]at j
  simpa using j
theorem Eo{α:Type}{F:List Rw→Int}(hl:qW F)(ha:oy F)(x:Rw)(f:α→Rw)(t:α→Int):∀(b:List α) (a:List Rw),F (x::(a++b.map (fun i c=>f i c+t i * x c)))=F (x::(a++b.map f)):=by
 intro l₀
 induction l₀ with
 | nil =>
  intro a
  simp
 | cons r b ih₀ =>
  intro a
  have i:=ih₀ (a ++ [fun c=>f r c+t r * x c])
  simp only[List.append_assoc,List.cons_append,List.nil_append]at i
  rw[List.map_cons,i]
  exact ww hl ha (t r) x (f r) [] a (b.map f)
noncomputable def sm(F:List Rw→Int)(x:Rw):List (Rw×Int)→Int
 | []=>0
 | p::l=>p.2 * F (x::l.map (fun q=>q.1))+sm (fun q=>F (p.1::q)) x l
noncomputable def nZ(x:Rw)(p:Rw×Int):Rw:=fun c=>p.1 c+p.2 * x c
theorem pS{F:List Rw→Int}(hl:qW F)(ha:oy F)(x:Rw):∀l:List (Rw×Int),F (l.map (nZ x))=F (l.map (fun q=>q.1))+sm F x l
 | []=>by simp[sm]
 | p::l=>by
  have i:=pS (hl.cons p.1) (ha.cons p.1) x l
  have j:=hl [] 1 p.2 p.1 x (l.map (nZ x))
  have key:∀(l:List (Rw×Int)) (a:List Rw),F (x::(a++l.map (nZ x)))=F (x::(a++l.map (fun q=>q.1))):=by
   intro l
   induction l with
   | nil=>intro a;rfl
   | cons p l ih =>
    intro a
    have i:=ih (a ++ [nZ x p])
    simp only[List.append_assoc,List.cons_append,List.nil_append]at i
    rw[List.map_cons,List.map_cons,i]
    exact ww hl ha p.2 x p.1 [] a (l.map (fun q=>q.1))
  have k:=key l []
  simp only[List.nil_append]at j k
  have e:nZ x p=fun c=>1 * p.1 c+p.2 * x c:=by funext c;simp[nZ]
  have u:sm F x (p::l)=p.2 * F (x::l.map (fun q=>q.1))+sm (fun q=>F (p.1::q)) x l:=rfl
  rw[u,List.map_cons,List.map_cons,e,j,i,k]
  trivial
theorem Fx(x:Rw)(l2:List (Rw×Int)):∀(l1:List (Rw×Int)) (F:List Rw→Int),sm F x (l1++l2)=sm (fun q=>F (q++l2.map (fun q=>q.1))) x l1+sm (fun q=>F (l1.map (fun q=>q.1)++q)) x l2:=by
 intro l₀
 induction l₀ with
 | nil =>
  intro F
  simp[sm]
 | cons p l1 ih₀ =>
  intro F
  have u:∀(F:List Rw→Int) (l:List (Rw×Int)),sm F x (p::l)=p.2 * F (x::l.map (fun q=>q.1))+sm (fun q=>F (p.1::q)) x l:=fun ω ω=>rfl
  rw[List.cons_append,u,u,ih₀ (fun q=>F (p.1::q))]
  simp only[List.map_append,List.cons_append,List.map_cons]
  trivial
theorem Hl{F:List Rw→Int}(h:qW F)(b2:List Rw):qW (fun q=>F (q++b2)):=fun a s t x y b=>by
 have:=h a s t x y (b++b2)
 simpa using this
theorem HV{F:List Rw→Int}(h:oy F)(b2:List Rw):oy (fun q=>F (q++b2)):=fun a x y b=>by
 have:=h a x y (b++b2)
 simpa using this
theorem Hm{F:List Rw→Int}(h:qW F)(b2:List Rw):qW (fun q=>F (b2++q)):=fun a s t x y b=>by
 have:=h (b2++a) s t x y b
 simpa using this
theorem HW{F:List Rw→Int}(h:oy F)(b2:List Rw):oy (fun q=>F (b2++q)):=fun a x y b=>by
 have:=h (b2++a) x y b
 simpa using this
theorem zU{F:List Rw→Int}(hl:qW F)(ha:oy F)(x:Rw)(l1 l2:List (Rw×Int)):F ((l1++l2).map (nZ x))=F (l1.map (nZ x)++l2.map (fun q=>q.1))+F (l1.map (fun q=>q.1)++l2.map (nZ x)) - F (l1.map (fun q=>q.1)++l2.map (fun q=>q.1)):=by
 have h0:=pS hl ha x (l1++l2)
 have h1:=pS (Hl hl (l2.map (fun q=>q.1))) (HV ha (l2.map (fun q=>q.1))) x l1
 have h2:=pS (Hm hl (l1.map (fun q=>q.1))) (HW ha (l1.map (fun q=>q.1))) x l2
 rw[Fx]at h0
 rw[List.map_append,List.map_append]at h0
 rw[List.map_append]
 trivial
end
section
inductive Fo
 | nil
 | node (k:Nat) (G F:Fo)
noncomputable def Fo.nd:Fo→List Nat
 | .nil => []
 | .node k G F=>k::(G.nd++F.nd)
noncomputable def Fo.rel:Fo→Nat→Nat→Bool
 | .nil,_,_=>false
 | .node k G F,i,j=>(i==k&&G.nd.contains j)||(j==k&&G.nd.contains i)||G.rel i j||F.rel i j
theorem mJ(k:Nat)(G F:Fo)(i j:Nat):(Fo.node k G F).rel i j=((i==k&&G.nd.contains j)||(j==k&&G.nd.contains i)||G.rel i j||F.rel i j):=rfl
noncomputable def Fo.deg:Fo→Nat
 | .nil=>0
 | .node _ _ F=>F.deg+1
theorem C5:∀(F:Fo) (i j:Nat),F.rel i j=true→i∈F.nd∧j∈F.nd:=by
 intro l₀
 induction l₀ with
 | nil =>
  intro _ _ h
  cases h
 | node k G F ih₀ ih₁ =>
  intro i j h
  simp only[Fo.rel,Bool.or_eq_true,Bool.and_eq_true,beq_iff_eq,List.contains_iff_mem]at h
  simp only[Fo.nd,List.mem_cons,List.mem_append]
  rcases h with ((⟨h1,h2⟩ | ⟨h1,h2⟩) | h) | h
  ·exact⟨.inl h1,.inr (.inl h2)⟩
  ·exact⟨.inr (.inl h2),.inl h1⟩
  ·exact⟨.inr (.inl (ih₀ i j h).1),.inr (.inl (ih₀ i j h).2)⟩
  ·exact⟨.inr (.inr (ih₁ i j h).1),.inr (.inr (ih₁ i j h).2)⟩
theorem eZ{F:Fo}{i j:Nat}(h:i∉F.nd∨j∉F.nd):F.rel i j=false:=by
 cases e:F.rel i j with
 | false=>rfl
 | true =>
  have:=C5 F i j e
  rcases h with h | h
  ·exact absurd this.1 h
  ·exact absurd this.2 h
theorem zP:∀(F:Fo) (i j:Nat),F.rel i j=F.rel j i:=by
 intro l₀
 induction l₀ with
 | nil =>
  intro _ _
  exact rfl
 | node k G F ih₀ ih₁ =>
  intro i j
  unfold Fo.rel
  rw[ih₀ i j,ih₁ i j]
  congr 2
  exact Bool.or_comm _ _
structure Ca(k:Nat)(G F:Fo):Prop where
 kG:k∉G.nd
 kF:k∉F.nd
 GF:∀x∈G.nd,x∉F.nd
 nG:G.nd.Nodup
 nF:F.nd.Nodup
theorem mQ{k:Nat}{G F:Fo}(h:(Fo.node k G F).nd.Nodup):Ca k G F:=by
 simp only[Fo.nd,List.nodup_cons,List.mem_append,not_or]at h
 obtain⟨⟨h1,h2⟩,h3⟩:=h
 obtain⟨a,b,c⟩:=List.nodup_append.mp h3
 exact⟨h1,h2,fun x hx hy=>c x hx x hy rfl,a,b⟩
section
variable{k:Nat}{G F:Fo}(N:Ca k G F)
include N
theorem jb{i j:Nat}(hi:i∈G.nd):(Fo.node k G F).rel i j=((j==k)||G.rel i j):=by
 have h1:(i==k)=false:=by rw[beq_eq_false_iff_ne];exact fun e=>N.kG (e ▸ hi)
 rw[mJ,h1,eZ (F:=F) (.inl (N.GF i hi))]
 have:G.nd.contains i=true:=by rw[List.contains_iff_mem];exact hi
 rw[this];simp
theorem lc{j:Nat} : (Fo.node k G F).rel k j=G.nd.contains j:=by
 rw[mJ]
 have:G.nd.contains k=false:=by rw[← Bool.not_eq_true,List.contains_iff_mem];exact N.kG
 rw[this,eZ (F:=G) (.inl N.kG),eZ (F:=F) (.inl N.kF)]
 simp
theorem uj{i j:Nat}(hi:i∈F.nd):(Fo.node k G F).rel i j=F.rel i j:=by
 have h1:(i==k)=false:=by rw[beq_eq_false_iff_ne];exact fun e=>N.kF (e ▸ hi)
 have h2:i∉G.nd:=fun h=>N.GF i h hi
 rw[mJ]
 have:G.nd.contains i=false:=by rw[← Bool.not_eq_true,List.contains_iff_mem];exact h2
 rw[h1,this,eZ (F:=G) (.inl h2)];simp
end
noncomputable def cN(l:List Nat)(f:Nat→Int):Int:=(l.map f).sum
theorem bG(i:Nat)(l:List Nat)(f:Nat→Int):cN (i::l) f=f i+cN l f:=by unfold cN;simp
theorem fX(a b:List Nat)(f:Nat→Int):cN (a++b) f=cN a f+cN b f:=by unfold cN;simp
theorem cD{l:List Nat}{f g:Nat→Int}(h:∀i∈l,f i=g i):cN l f=cN l g:=by unfold cN;rw[List.map_congr_left h]
theorem kZ{l:List Nat}{f:Nat→Int}(h:∀i∈l,f i=0):cN l f=0:=by
 induction l with
 | nil=>rfl
 | cons i l ih=>rw[bG,h i List.mem_cons_self,ih fun j hj=>h j (List.mem_cons_of_mem _ hj)];rfl
theorem jA(l:List Nat)(t:Int)(f:Nat→Int):cN l (fun i=>t * f i)=t * cN l f:=by
 induction l with
 | nil=>simp[cN]
 | cons i l ih=>rw[bG,bG,ih];grind
theorem zw(l:List Nat)(f g:Nat→Int):cN l (fun i=>f i+g i)=cN l f+cN l g:=by
 induction l with
 | nil=>simp[cN]
 | cons i l ih=>rw[bG,bG,bG,ih];grind
theorem vZ(j:Nat)(a:Int)(b:Nat→Int):∀(l:List Nat),l.Nodup→j∈l→cN l (fun i=>if j=i then a else b i)+b j=a+cN l b:=by
 intro l₀
 induction l₀ with
 | nil =>
  intro _ h
  cases h
 | cons i l ih₀ =>
  intro hn h
  rw[bG,bG]
  obtain⟨h1,h2⟩:=List.nodup_cons.mp hn
  by_cases e:j=i
  ·subst e
   rw[if_pos rfl,cD (g:=b) (fun x hx=>if_neg (fun e:j=x=>h1 (e ▸ hx)))]
   trivial
  ·rw[if_neg e]
   have:=ih₀ h2 (by
    rcases List.mem_cons.mp h with h | h
    ·exact absurd h e
    ·exact h)
   trivial
section
variable(w:Nat→Int)
noncomputable def Wt(F:Fo):Int:=cN F.nd w
noncomputable def tL(F:Fo)(i:Nat):Int:=cN F.nd (fun j=>if F.rel i j then w j else 0)
noncomputable def dG(x:Int)(F:Fo)(i:Nat):Rw:=fun j=>if j=i then w i * (x+tL w F i)else if F.rel i j then -(w i * w j)else 0
noncomputable def Hd(x:Int)(F:Fo):Int:=b9 F.nd (F.nd.map (dG w x F))
noncomputable def Jd(x:Int)(F:Fo):Int:=b9 F.nd (F.nd.map fun i j=>dG w x F i j+w i * w j)
theorem pV:∀(F:Fo),F.nd.Nodup→∀i,F.rel i i=false:=by
 intro l₀
 induction l₀ with
 | nil =>
  intro _ _
  exact rfl
 | node k G F ih₀ ih₁ =>
  intro h i
  have N:=mQ h
  by_cases hi:i=k
  ·subst hi
   rw[lc N,← Bool.not_eq_true,List.contains_iff_mem];exact N.kG
  ·by_cases hG:i∈G.nd
   ·rw[jb N hG,ih₀ N.nG i];simp[hi]
   ·by_cases hF:i∈F.nd
    ·rw[uj N hF,ih₁ N.nF i]
    ·exact eZ (.inl (by simp[Fo.nd,hi,hG,hF]))
theorem BB(x:Int)(F:Fo)(h:F.nd.Nodup)(j:Nat)(hj:j∈F.nd):cN F.nd (fun i=>dG w x F i j)=x * w j:=by
 have e1:cN F.nd (fun i=>dG w x F i j)=cN F.nd (fun i=>if j=i then w j * (x+tL w F j)else(-(w j)) * (if F.rel j i then w i else 0)):=by
  refine cD fun i ω => ?_
  unfold dG
  by_cases e:j=i
  ·subst e;rw[if_pos rfl,if_pos rfl]
  ·rw[if_neg e,if_neg e,zP F i j]
   split <;> grind
 have e2:=vZ j (w j * (x+tL w F j)) (fun i=>(-(w j)) * (if F.rel j i then w i else 0)) F.nd h hj
 rw[jA,pV F h j]at e2
 rw[e1]
 unfold tL at *
 simp only[Bool.false_eq_true,if_false]at e2
 grind
theorem my(l:List Nat)(f:Nat→Rw)(c:Nat):mz (l.map f) c=cN l (fun i=>f i c):=by
 unfold mz cN;rw[List.map_map];rfl
theorem pe(C:List Nat)(r:Rw)(t:Int)(b:List Rw)(h:∀c∈C,r c=t * w c):b9 C (r::b)=t * b9 C (w::b):=by
 have h1:=c6 (fun q:Rw×Bool=>q.1) (fun q:Rw×Bool=>if q.2 then(fun c=>t * w c+0 * w c)else q.1) C ((r,true)::b.map (fun q=>(q,false))) (fun q hq c hc=>by
  rcases List.mem_cons.mp hq with rfl | hq
  ·simp[h c hc]
  ·obtain⟨q',_,rfl⟩:=List.mem_map.mp hq
   simp)
 simp only[List.map_cons,List.map_map,if_true]at h1
 have e1:(b.map ((fun q:Rw×Bool=>q.1) ∘ fun q=>(q,false)))=b:=by simp[Function.comp_def]
 have e2:(b.map ((fun q:Rw×Bool=>if q.2=true then(fun c=>t * w c+0 * w c)else q.1) ∘ fun q=>(q,false)))=b:=by simp[Function.comp_def]
 rw[e1,e2]at h1
 have h2:=dU C [] t 0 w w b
 simp only[List.nil_append]at h2
 rw[h1,h2];trivial
section
variable{k:Nat}{G F:Fo}(N:Ca k G F)(x:Int)
include N
theorem IS:tL w (.node k G F) k=Wt w G:=by
 unfold tL Wt
 simp only[Fo.nd]
 rw[bG,fX]
 have e0:(Fo.node k G F).rel k k=false:=by rw[lc N,← Bool.not_eq_true,List.contains_iff_mem];exact N.kG
 rw[e0,cD (l:=G.nd) (g:=w) (fun j hj=>by rw[lc N,if_pos (List.contains_iff_mem.mpr hj)]),kZ (l:=F.nd) (fun j hj=>by
  rw[lc N]
  have:G.nd.contains j=false:=by rw[← Bool.not_eq_true,List.contains_iff_mem];exact fun h=>N.GF j h hj
  rw[this];rfl)]
 simp
theorem IT{i:Nat}(hi:i∈G.nd):tL w (.node k G F) i=w k+tL w G i:=by
 unfold tL
 simp only[Fo.nd]
 rw[bG,fX]
 rw[cD (l:=G.nd) (g:=fun j=>if G.rel i j then w j else 0) (fun j hj=>by
  have:(j==k)=false:=by rw[beq_eq_false_iff_ne];exact fun e=>N.kG (e ▸ hj)
  rw[jb N hi,this,Bool.false_or]),kZ (l:=F.nd) (fun j hj=>by
  have:(j==k)=false:=by rw[beq_eq_false_iff_ne];exact fun e=>N.kF (e ▸ hj)
  rw[jb N hi,this,Bool.false_or,eZ (F:=G) (.inr fun h=>N.GF j h hj)];rfl),jb N hi]
 simp
theorem IU{i:Nat}(hi:i∈F.nd):tL w (.node k G F) i=tL w F i:=by
 unfold tL
 simp only[Fo.nd]
 have h1:∀j,(Fo.node k G F).rel i j=F.rel i j:=fun j=>uj N hi
 rw[bG,fX,kZ (l:=G.nd) (fun j hj=>by rw[h1,eZ (F:=F) (.inr (N.GF j hj))];rfl),h1 k,eZ (F:=F) (.inr N.kF),cD (l:=F.nd) (fun j ω=>by rw[h1])]
 simp
theorem G0:dG w x (.node k G F) k k=w k * (x+Wt w G):=by unfold dG;rw[if_pos rfl,IS w N]
theorem G1{j:Nat}(hj:j∈G.nd):dG w x (.node k G F) k j = -(w k * w j):=by
 unfold dG;rw[if_neg (fun e:j=k=>N.kG (e ▸ hj)),lc N,if_pos (List.contains_iff_mem.mpr hj)]
theorem EF{j:Nat}(hj:j∈F.nd):dG w x (.node k G F) k j=0:=by
 unfold dG;rw[if_neg (fun e:j=k=>N.kF (e ▸ hj)),lc N,if_neg (fun h=>N.GF j (List.contains_iff_mem.mp h) hj)]
theorem EG{i:Nat}(hi:i∈G.nd):dG w x (.node k G F) i k = -(w i * w k):=by
 unfold dG;rw[if_neg (fun e:k=i=>N.kG (e ▸ hi)),jb N hi];simp
theorem zI{i j:Nat}(hi:i∈G.nd)(hj:j∈G.nd):dG w x (.node k G F) i j=dG w (x+w k) G i j:=by
 have:(j==k)=false:=by rw[beq_eq_false_iff_ne];exact fun e=>N.kG (e ▸ hj)
 unfold dG
 rw[jb N hi,this,Bool.false_or,IT w N hi,Int.add_assoc]
theorem EH{i j:Nat}(hi:i∈G.nd)(hj:j∈F.nd):dG w x (.node k G F) i j=0:=by
 have:(j==k)=false:=by rw[beq_eq_false_iff_ne];exact fun e=>N.kF (e ▸ hj)
 unfold dG
 rw[jb N hi,this,Bool.false_or,eZ (F:=G) (.inr fun h=>N.GF j h hj),if_neg (fun e:j=i=>N.GF i hi (e ▸ hj))];rfl
theorem v6{i j:Nat}(hi:i∈F.nd):dG w x (.node k G F) i j=dG w x F i j:=by
 unfold dG;rw[uj N hi,IU w N hi]
theorem G2{i j:Nat}(hi:i∈F.nd)(hj:j∈k::G.nd):dG w x (.node k G F) i j=0:=by
 rw[v6 w N x hi]
 unfold dG
 rcases List.mem_cons.mp hj with rfl | hj
 ·rw[if_neg (fun e:j=i=>N.kF (e ▸ hi)),eZ (F:=F) (.inr N.kF)];rfl
 ·rw[if_neg (fun e:j=i=>N.GF j hj (e ▸ hi)),eZ (F:=F) (.inr (N.GF j hj))];rfl
noncomputable def gX(x:Int)(T:Fo)(i:Nat):Rw:=fun j=>dG w x T i j+w i * w j
theorem Hs:b9 (k::G.nd) (w::G.nd.map (gX w x (.node k G F)))=w k * Jd w (x+w k) G:=by
 rw[wH k G.nd w _ (fun r hr=>by
  obtain⟨i,hi,rfl⟩:=List.mem_map.mp hr
  unfold gX
  rw[EG w N x hi];trivial)]
 congr 1
 refine c6 _ _ _ _ fun i hi j hj => ?_
 unfold gX
 rw[zI w N x hi hj]
theorem zt{c:Nat}(hc:c∈k::G.nd):dG w x (.node k G F) k c+cN G.nd (fun i=>dG w x (.node k G F) i c)=x * w c:=by
 rcases List.mem_cons.mp hc with rfl | hc
 ·rw[G0 w N x,cD (g:=fun i=>(-(w c)) * w i) (fun i hi=>by rw[EG w N x hi];grind),jA]
  unfold Wt
  grind
 ·rw[G1 w N x hc,cD (g:=fun i=>dG w (x+w k) G i c) (fun i hi=>zI w N x hi hc),BB w (x+w k) G N.nG c hc]
  grind
theorem A4:b9 (k::G.nd) ((k::G.nd).map (dG w x (.node k G F)))=x * (w k * Jd w (x+w k) G):=by
 rw[← Hs w N x,List.map_cons]
 have h1:=pU (dU (k::G.nd)) (em (k::G.nd)) 1 (G.nd.map (dG w x (.node k G F))) [] (dG w x (.node k G F) k)
 simp only[List.nil_append]at h1
 rw[← h1,pe w (k::G.nd) _ x _ (fun c hc=>by rw[Int.one_mul,my];exact zt w N x hc)]
 have h2:=Eo (dU (k::G.nd)) (em (k::G.nd)) w (dG w x (.node k G F)) w G.nd []
 simp only[List.nil_append]at h2
 rw[← h2]
 rfl
theorem F8:b9 (k::G.nd) ((k::G.nd).map (gX w x (.node k G F)))=(x+(w k+Wt w G)) * (w k * Jd w (x+w k) G):=by
 rw[← Hs w N x,List.map_cons]
 have h1:=pU (dU (k::G.nd)) (em (k::G.nd)) 1 (G.nd.map (gX w x (.node k G F))) [] (gX w x (.node k G F) k)
 simp only[List.nil_append]at h1
 rw[← h1,pe w (k::G.nd) _ (x+(w k+Wt w G)) _ (fun c hc=>by
  rw[Int.one_mul,my]
  unfold gX
  have e1:=zt w N x hc
  have e2:=jA G.nd (w c) w
  rw[zw,cD (l:=G.nd) (f:=fun i=>w i * w c) (g:=fun i=>w c * w i) (fun i ω=>Int.mul_comm _ _),e2]
  unfold Wt
  grind)]
theorem Ex:Hd w x (.node k G F)=x * (w k * Jd w (x+w k) G) * Hd w x F:=by
 rw[← A4 w N x]
 unfold Hd
 show b9 ((k::G.nd)++F.nd) (((k::G.nd)++F.nd).map _)=_
 rw[List.map_append,Go _ _ _ _ (by simp) (by
  intro r hr c hc
  obtain⟨i,hi,rfl⟩:=List.mem_map.mp hr
  rcases List.mem_cons.mp hi with rfl | hi
  ·exact EF w N x hc
  ·exact EH w N x hi hc)]
 congr 1
 exact c6 _ _ _ _ fun i hi j hj=>v6 w N x hi
theorem Ew:Jd w x (.node k G F)=(x+(w k+Wt w G)) * (w k * Jd w (x+w k) G) * Hd w x F+x * (w k * Jd w (x+w k) G) * (Jd w x F - Hd w x F):=by
 have h:=zU (dU ((k::G.nd)++F.nd)) (em ((k::G.nd)++F.nd)) w ((k::G.nd).map fun i=>(dG w x (.node k G F) i,w i)) (F.nd.map fun i=>(dG w x (.node k G F) i,w i))
 have m1:∀l:List Nat,(l.map fun i=>(dG w x (.node k G F) i,w i)).map (nZ w)=l.map (gX w x (.node k G F)):=fun l=>by rw[List.map_map];rfl
 have m2:∀l:List Nat,(l.map fun i=>(dG w x (.node k G F) i,w i)).map (fun q=>q.1)=l.map (dG w x (.node k G F)):=fun l=>by rw[List.map_map];rfl
 rw[List.map_append,m1,m1,m2,m2]at h
 have z1:∀r∈(k::G.nd).map (dG w x (.node k G F)),∀c∈F.nd,r c=0:=by
  intro r hr c hc
  obtain⟨i,hi,rfl⟩:=List.mem_map.mp hr
  rcases List.mem_cons.mp hi with rfl | hi
  ·exact EF w N x hc
  ·exact EH w N x hi hc
 have z2:∀r∈F.nd.map (dG w x (.node k G F)),∀c∈k::G.nd,r c=0:=by
  intro r hr c hc
  obtain⟨i,hi,rfl⟩:=List.mem_map.mp hr
  exact G2 w N x hi hc
 have eF:b9 F.nd (F.nd.map (dG w x (.node k G F)))=Hd w x F:=c6 _ _ _ _ fun i hi j hj=>v6 w N x hi
 have eJ:b9 F.nd (F.nd.map (gX w x (.node k G F)))=Jd w x F:=c6 _ _ _ _ fun i hi j hj=>by unfold gX;rw[v6 w N x hi]
 rw[IM _ _ _ _ (by simp) z2,Go _ _ _ _ (by simp) z1,Go _ _ _ _ (by simp) z1,F8 w N x,A4 w N x,eF,eJ]at h
 have e:Jd w x (.node k G F)=b9 (k::G.nd++F.nd) ((k::G.nd).map (gX w x (.node k G F))++F.nd.map (gX w x (.node k G F))):=by
  rw[← List.map_append];rfl
 rw[e,h]
 grind
end
noncomputable def hh(x:Int):Fo→Int
 | .nil=>1
 | .node k G F=>w k * (match G with
  | .nil=>1
  | _=>(x+w k) ^ (G.deg - 1) * (x+w k+Wt w G) * hh (x+w k) G) * hh x F
noncomputable def JJ(y:Int)(G:Fo):Int:=match G with
 | .nil=>1
 | _=>y ^ (G.deg - 1) * (y+Wt w G) * hh w y G
theorem qt(x:Int)(k:Nat)(G F:Fo):hh w x (.node k G F)=w k * JJ w (x+w k) G * hh w x F:=by cases G <;> rfl
theorem HJ:∀(F:Fo) (x:Int),F.nd.Nodup→Hd w x F=x ^ F.deg * hh w x F∧Jd w x F=JJ w x F:=by
 intro l₀
 induction l₀ with
 | nil =>
  intro x _
  exact⟨by show(1:Int)=x ^ 0 * 1;simp,rfl⟩
 | node k G F ih₀ ih₁ =>
  intro x h
  have N:=mQ h
  obtain⟨_,i1⟩:=ih₀ (x+w k) N.nG
  obtain⟨i2,i3⟩:=ih₁ x N.nF
  have e1:=Ex w N x
  have e2:=Ew w N x
  rw[i1,i2]at e1
  rw[i1,i2,i3]at e2
  have W:Wt w (.node k G F)=w k+Wt w G+Wt w F:=by
   unfold Wt;show cN (k::(G.nd++F.nd)) w=_
   rw[bG,fX];trivial
  constructor
  ·rw[e1,qt]
   show _=x ^ (F.deg+1) * _
   rw[Int.pow_succ];grind
  ·rw[e2]
   show _=x ^ (F.deg+1 - 1) * (x+Wt w (.node k G F)) * hh w x (.node k G F)
   rw[qt,W,Nat.add_sub_cancel]
   cases F with
   | nil =>
    have:Wt w .nil=0:=rfl
    rw[this]
    show(x+(w k+Wt w G)) * (w k * JJ w (x+w k) G) * (x ^ 0 * 1)+x * (w k * JJ w (x+w k) G) * (1 - x ^ 0 * 1)=x ^ 0 * (x+(w k+Wt w G+0)) * (w k * JJ w (x+w k) G * 1)
    rw[Int.pow_zero];grind
   | node k' G' F' =>
    have:JJ w x (.node k' G' F')=x ^ (F'.deg+1 - 1) * (x+Wt w (.node k' G' F')) * hh w x (.node k' G' F'):=rfl
    rw[this]
    have d:(Fo.node k' G' F').deg=F'.deg+1:=rfl
    rw[d,Nat.add_sub_cancel,Int.pow_succ]
    grind
theorem oK(q:Nat):∀(C:List Nat),C.Nodup→k4 C (unit q)=if q∈C then 1 else 0:=by
 intro l₀
 induction l₀ with
 | nil =>
  intro _
  exact rfl
 | cons c C ih₀ =>
  intro h
  obtain⟨h1,h2⟩:=List.nodup_cons.mp h
  rw[eU,ih₀ h2]
  unfold unit
  by_cases e:c=q
  ·subst e;simp[h1]
  ·rw[if_neg e]
   have:(q∈c::C)↔(q∈C):=by simp[show ¬ q=c from fun h=>e h.symm]
   simp[this]
theorem Gk(f:Nat→Rw)(r q:Nat)(a b:List Nat)(hn:(r::(a++q::b)).Nodup)(hr:∀i∈r::(a++q::b),k4 (r::(a++q::b)) (f i)=0)(hc:∀c∈r::(a++q::b),cN (r::(a++q::b)) (fun i=>f i c)=0) :
  b9 (r::(a++b)) ((r::(a++b)).map f)=b9 (a++q::b) ((a++q::b).map f):=by
 have hn':=hn
 simp only[List.nodup_cons,List.nodup_append,List.mem_append,List.mem_cons,not_or]at hn'
 obtain⟨⟨n1,n2,n3⟩,n4,⟨n5,n6⟩,n7⟩:=hn'
 have n8:q∉a:=fun h=>n7 q h q (.inl rfl) rfl
 generalize hN:r::(a++q::b)=N at *
 -- the kJ cofactors as determinants of all rows
 have p1:b9 N (f r::(a.map f++unit q::b.map f))=b9 (r::(a++b)) ((r::(a++b)).map f):=by
  have:=sQ q (r::a) b (f r::a.map f) (b.map f) (by simp[n8,show ¬ q=r from fun h=>n2 h.symm]) n5 (by simp)
  rw[← hN]
  simpa using this
 have p2:b9 N (unit r::(a.map f++f q::b.map f))=b9 (a++q::b) ((a++q::b).map f):=by
  have:=sQ r [] (a++q::b) [] ((a++q::b).map f) (by simp) (by simp[n1,n2,n3]) rfl
  rw[← hN]
  simpa using this
 have p3:=tr (em N) (f r) (unit q) (a.map f) (b.map f)
 -- the row r is the others' sum,turned
 have hl:=(dU N).cons (unit q)
 have ha:=(em N).cons (unit q)
 have p4:=eV ha (f r) (a.map f) (b.map f)
 have p5:=eV ha (f q) (a.map f) (b.map f)
 have p6:=pU hl ha 1 (a.map f++b.map f) [] (f r)
 simp only[List.nil_append]at p6
 have p7:b9 N (unit q::(fun c=>f r c+1 * mz (a.map f++b.map f) c)::(a.map f++b.map f)) = - b9 N (unit q::f q::(a.map f++b.map f)):=by
  have h1:=c6 (fun z:Rw×Bool=>if z.2 then(fun c=>f r c+1 * mz (a.map f++b.map f) c)else z.1) (fun z:Rw×Bool=>if z.2 then(fun c=>(-1) * f q c+0 * f q c)else z.1) N ((unit q,false)::(unit q,true)::(a.map f++b.map f).map (fun z=>(z,false))) (fun z hz c hcc=>by
   rcases List.mem_cons.mp hz with rfl | hz
   ·rfl
   ·rcases List.mem_cons.mp hz with rfl | hz
    ·simp only[if_true]
     have:=hc c hcc
     rw[← hN,bG,fX,bG]at this
     have e:mz (a.map f++b.map f) c=cN a (fun i=>f i c)+cN b (fun i=>f i c):=by rw[← List.map_append,my,fX]
     rw[e];trivial
    ·obtain⟨z',_,rfl⟩:=List.mem_map.mp hz
     rfl)
  simp only[List.map_cons,List.map_map,if_true,Bool.false_eq_true,if_false]at h1
  have e1:∀(g:Rw),((a.map f++b.map f).map ((fun z:Rw×Bool=>if z.2=true then g else z.1) ∘ fun z=>(z,false)))=a.map f++b.map f:=by intro g;simp[Function.comp_def]
  rw[e1,e1]at h1
  have h2:=dU N [unit q] (-1) 0 (f q) (f q) (a.map f++b.map f)
  simp only[List.cons_append,List.nil_append]at h2
  rw[h1,h2];trivial
 have p8:b9 N (unit q::(a.map f++f r::b.map f)) = - b9 N (unit q::(a.map f++f q::b.map f)):=by
  rw[p4,p5]
  rw[← p6,p7];grind
 -- the difference has rows that sum to nought
 have p9:=dU N [] 1 (-1) (unit r) (unit q) (a.map f++f q::b.map f)
 simp only[List.nil_append]at p9
 have p10:b9 N ((fun c=>1 * unit r c + -1 * unit q c)::(a.map f++f q::b.map f))=0:=by
  refine Br N _ (by rw[← hN];simp) ?_
  intro z hz
  rcases List.mem_cons.mp hz with rfl | hz
  ·rw[rz,oK r N hn,oK q N hn,if_pos (by rw[← hN];simp),if_pos (by rw[← hN];simp)];trivial
  ·have:z∈(a++q::b).map f:=by simpa using hz
   obtain⟨i,hi,rfl⟩:=List.mem_map.mp this
   exact hr i (by rw[← hN];exact List.mem_cons_of_mem _ hi)
 rw[p10]at p9
 rw[← p1,← p2,p3,p8]
 trivial
theorem FG(F:Fo)(h:F.nd.Nodup)(i:Nat)(hi:i∈F.nd):k4 F.nd (dG w 0 F i)=0:=by
 show cN F.nd (dG w 0 F i)=0
 have e1:cN F.nd (dG w 0 F i)=cN F.nd (fun j=>if i=j then w i * (0+tL w F i)else(-(w i)) * (if F.rel i j then w j else 0)):=by
  refine cD fun j ω => ?_
  unfold dG
  by_cases e:j=i
  ·subst e;rw[if_pos rfl,if_pos rfl]
  ·rw[if_neg e,if_neg (show ¬ i=j from fun h=>e h.symm)]
   split <;> grind
 have e2:=vZ i (w i * (0+tL w F i)) (fun j=>(-(w i)) * (if F.rel i j then w j else 0)) F.nd h hi
 rw[jA,pV F h i]at e2
 rw[e1]
 unfold tL at *
 simp only[Bool.false_eq_true,if_false]at e2
 grind
theorem xV(r:Nat)(G:Fo)(h:(Fo.node r G .nil).nd.Nodup)(a b:List Nat)(q:Nat)(hs:(Fo.node r G .nil).nd=a++q::b) :
  b9 (a++b) ((a++b).map (dG w 0 (.node r G .nil)))=w r ^ G.deg * hh w (w r) G:=by
 have N:=mQ h
 have hnd:(Fo.node r G .nil).nd=r::G.nd:=by simp[Fo.nd]
 have root:b9 G.nd (G.nd.map (dG w 0 (.node r G .nil)))=w r ^ G.deg * hh w (w r) G:=by
  rw[← (HJ w G (w r) N.nG).1]
  refine c6 _ _ _ _ fun i hi j hj => ?_
  rw[zI w N 0 hi hj,Int.zero_add]
 rw[hnd]at hs
 match a,hs with
 | [],hs =>
  simp only[List.nil_append,List.cons.injEq]at hs
  obtain⟨rfl,rfl⟩:=hs
  exact root
 | r'::a,hs =>
  simp only[List.cons_append,List.cons.injEq]at hs
  obtain⟨rfl,hs⟩:=hs
  have:=Gk (dG w 0 (.node r G .nil)) r q a b (by rw[← hs,← hnd];exact h) (fun i hi=>by
   rw[← hs,← hnd]at hi ⊢
   exact FG w _ h i hi) (fun c hc=>by
   rw[← hs,← hnd]at hc ⊢
   rw[BB w 0 _ h c hc,Int.zero_mul])
  rw[List.cons_append,this,← hs]
  exact root
end
end
section
theorem zX{F:Nat→Rw}{k:Nat} : ∀(l:List Nat),(∀i∈l,F i k=0)→pY k (l.map F)=none
 | [],_=>rfl
 | i::l,h=>by
  have go:∀(r:Rw) (a:List Rw) (l:List Nat),(∀i∈l,F i k=0)→pY.go k r a (l.map F)=none:=by
   intro r a l
   induction l generalizing a with
   | nil=>intro _;rfl
   | cons j l ih =>
    intro h
    show(if F j k≠0 then _ else pY.go k r (a ++ [F j]) (l.map F))=none
    rw[if_neg (fun e=>e (h j List.mem_cons_self)),ih _ fun x hx=>h x (List.mem_cons_of_mem _ hx)]
  show(if F i k≠0 then _ else pY.go k (F i) [] (l.map F))=none
  rw[if_neg (fun e=>e (h i List.mem_cons_self)),go _ _ _ fun x hx=>h x (List.mem_cons_of_mem _ hx)]
theorem ED{α:Type}(F:Nat→α){k o a:Nat}(h1:a≠k)(h2:a≠o):sw F k o a=F a:=by unfold sw;rw[if_neg h1,if_neg h2]
theorem GO{α:Type}(F:Nat→α){k o:Nat} : sw F k o k=F o:=if_pos rfl
theorem Io{α:Type}(F:Nat→α){k o:Nat}(h:o≠k):sw F k o o=F k:=by unfold sw;rw[if_neg h,if_pos rfl]
theorem vY{α:Type}(F:Nat→α){k:Nat} : sw F k k=F:=by
 funext a
 unfold sw
 by_cases h:a=k
 ·rw[if_pos h,h]
 ·rw[if_neg h,if_neg h]
theorem zV{F:Nat→Rw}{k o m:Nat}(h1:k≤o)(h2:o≤k+m)(hz:∀i,k≤i→i<o→F i k=0)(ho:F o k≠0) :
  pY k ((List.range' k (m+1)).map F)=some (sw F k o k,(List.range' (k+1) m).map (sw F k o),decide (o=k)):=by
 rw[List.range'_succ,List.map_cons]
 by_cases e:o=k
 ·rw[e,vY,decide_eq_true rfl]
  show(if F k k≠0 then some (F k,(List.range' (k+1) m).map F,true)else _)=_
  rw[if_pos (e ▸ ho)]
 ·have hk:F k k=0:=hz k (Nat.le_refl _) (by trivial)
  show(if F k k≠0 then _ else pY.go k (F k) [] ((List.range' (k+1) m).map F))=_
  rw[if_neg (fun q=>q hk),decide_eq_false e,GO]
  obtain⟨x,hx⟩:∃x,o=k+1+x:=⟨o - (k+1),by trivial⟩
  obtain⟨y,hy⟩:∃y,m=x+(y+1):=⟨m - x - 1,by trivial⟩
  have hs:List.range' (k+1) m=List.range' (k+1) x++o::List.range' (o+1) y:=by
   rw[hy,← List.range'_append_1,List.range'_succ,hx]
  have go:∀(l:List Nat) (a b:List Rw),(∀i∈l,F i k=0)→pY.go k (F k) a (l.map F++F o::b)=some (F o,a++l.map F++F k::b,false):=by
   intro l
   induction l with
   | nil =>
    intro a b _
    show(if F o k≠0 then some (F o,a++F k::b,false)else _)=_
    rw[if_pos ho,List.map_nil,List.append_nil]
   | cons i l ih =>
    intro a b h
    show(if F i k≠0 then _ else pY.go k (F k) (a ++ [F i]) (l.map F++F o::b))=_
    rw[if_neg (fun q=>q (h i List.mem_cons_self)),ih _ _ fun x hx=>h x (List.mem_cons_of_mem _ hx),List.append_assoc a];rfl
  rw[hs,List.map_append,List.map_cons,go _ _ _ fun i hi=>by
   have:=List.mem_range'_1.mp hi
   exact hz i (by trivial) (by trivial),List.map_append,List.map_cons,Io F e]
  have c1:(List.range' (k+1) x).map (sw F k o)=(List.range' (k+1) x).map F:=List.map_congr_left fun i hi=>by
   have:=List.mem_range'_1.mp hi
   exact ED F (by trivial) (by trivial)
  have c2:(List.range' (o+1) y).map (sw F k o)=(List.range' (o+1) y).map F:=List.map_congr_left fun i hi=>by
   have:=List.mem_range'_1.mp hi
   exact ED F (by trivial) (by trivial)
  rw[c1,c2];rfl
theorem Dv.next{t:Int}{C:List Nat}{c:Nat}{p:Rw}{l:List Rw}(h:Dv t (c::C) (p::l))(ht:t≠0)(hp:p c≠0):Dv (p c) C (l.map (nT t p c)):=by
 intro s D R hD hR hs1 hs2
 have:∃R':List Rw,R=R'.map (nT t p c)∧∀r∈R',r∈l:=by
  clear hs2
  induction R with
  | nil=>exact⟨[],rfl,fun ω h=>nomatch h⟩
  | cons r R ih =>
   obtain⟨R',i1,i2⟩:=ih (fun r hr=>hR r (List.mem_cons_of_mem _ hr))
   obtain⟨r',j1,j2⟩:=List.mem_map.mp (hR r List.mem_cons_self)
   refine⟨r'::R',by rw[i1,List.map_cons,j2],fun x hx => ?_⟩
   rcases List.mem_cons.mp hx with e | hx
   ·rw[e];exact j1
   ·exact i2 x hx
 obtain⟨R',i1,i2⟩:=this
 rw[i1]at hs2 ⊢
 obtain⟨q,k1,_⟩:=h.step ht hp s D R' hD i2 hs1 (by simpa using hs2)
 rw[k1];exact Int.dvd_mul_right _ _
theorem Dv.sub{t:Int}{C:List Nat}{rs rs':List Rw}(h:Dv t C rs)(hs:∀r∈rs',r∈rs):Dv t C rs':=fun s D R a b=>h s D R a fun r hr=>hs r (b r hr)
theorem qf{x:Int}{B:Nat}(h:x.natAbs<2 ^ B)(hB:B≤8000):kK x=true:=decide_eq_true (by
 by_cases e:x.natAbs=0
 ·rw[e];exact Nat.lt_of_lt_of_le (by decide:Nat.log2 0<1) (by decide)
 ·exact Nat.lt_of_lt_of_le ((Nat.log2_lt e).mpr h) hB)
structure Et(n k:Nat)(t:Int)(f:Nat→Nat→Int)(F:Nat→Rw)(B:Nat):Prop where
 same:∀a b,k≤a→a<n→k≤b→b<n→f a b=F a b
 dv:Dv t (List.range' k (n - k)) ((List.range' k (n - k)).map F)
 t0:t≠0
 tB:t.natAbs<2 ^ B
 fB:∀a b,a<n→b<n→(f a b).natAbs<2 ^ B
section
variable{n k:Nat}{t:Int}{f:Nat→Nat→Int}{F:Nat→Rw}{B:Nat}
theorem Et.swap(S:Et n k t f F B)(hk:k<n){o:Nat}(h1:k≤o)(h2:o<n):Et n k t (sw f k o) (sw F k o) B where
 same:=fun a b ha hn hb hbn=>by
  unfold sw
  by_cases e1:a=k
  ·rw[if_pos e1,if_pos e1];exact S.same o b h1 h2 hb hbn
  ·rw[if_neg e1,if_neg e1]
   by_cases e2:a=o
   ·rw[if_pos e2,if_pos e2];exact S.same k b (Nat.le_refl _) hk hb hbn
   ·rw[if_neg e2,if_neg e2];exact S.same a b ha hn hb hbn
 dv:=S.dv.sub fun r hr=>by
  obtain⟨a,ha,e⟩:=List.mem_map.mp hr
  have hm:=List.mem_range'_1.mp ha
  have mem:∀c,k≤c→c<n→F c∈(List.range' k (n - k)).map F:=fun c c1 c2=>List.mem_map.mpr ⟨c,List.mem_range'_1.mpr ⟨c1,by trivial⟩,rfl⟩
  rw[← e]
  unfold sw
  by_cases e1:a=k
  ·rw[if_pos e1];exact mem o h1 h2
  ·rw[if_neg e1]
   by_cases e2:a=o
   ·rw[if_pos e2];exact mem k (Nat.le_refl _) hk
   ·rw[if_neg e2];exact mem a hm.1 (by trivial)
 t0:=S.t0
 tB:=S.tB
 fB:=fun a b ha hb=>by
  unfold sw
  by_cases e1:a=k
  ·rw[if_pos e1];exact S.fB o b h2 hb
  ·rw[if_neg e1]
   by_cases e2:a=o
   ·rw[if_pos e2];exact S.fB k b hk hb
   ·rw[if_neg e2];exact S.fB a b ha hb
theorem Et.next(S:Et n k t f F B)(hk:k+1<n)(hp:f k k≠0):Et n (k+1) (f k k) (g8 f k n t (List.range' (k+1) (n - (k+1)))) (fun a=>nT t (F k) k (F a)) (2 * B+1):=by
 have hkk:=S.same k k (Nat.le_refl _) (Nat.le_of_lt ‹_›) (Nat.le_refl _) (Nat.le_of_lt ‹_›)
 have hr:List.range' k (n - k)=k::List.range' (k+1) (n - (k+1)):=by rw[show n - k=(n - (k+1))+1 by trivial,List.range'_succ]
 have dv:=S.dv
 rw[hr,List.map_cons]at dv
 have ue:=ze dv S.t0
 have val:∀a b,k<a→a<n→k<b→b<n→f6 f k t a b=nT t (F k) k (F a) b∧t * f6 f k t a b=F k k * F a b + -(F a k) * F k b:=fun a b ha han hb hbn=>by
  have h:=ue (F a) (List.mem_map.mpr ⟨a,List.mem_range'_1.mpr ⟨ha,by trivial⟩,rfl⟩) b (List.mem_range'_1.mpr ⟨hb,by trivial⟩)
  have e:f6 f k t a b=nT t (F k) k (F a) b:=by
   unfold f6
   rw[S.same a b (Nat.le_of_lt ‹_›) han (Nat.le_of_lt ‹_›) hbn,S.same a k (Nat.le_of_lt ‹_›) han (Nat.le_refl _) (Nat.le_of_lt ‹_›),S.same k b (Nat.le_refl _) (Nat.le_of_lt ‹_›) (Nat.le_of_lt ‹_›) hbn,hkk]
   refine Int.fdiv_eq_ediv_of_dvd ⟨nT t (F k) k (F a) b,?_⟩
   rw[h]
   unfold elim
   rw[Int.mul_comm (F a b),Int.sub_eq_add_neg,Int.neg_mul]
  exact⟨e,by rw[e];exact h⟩
 refine⟨fun a b ha han hb hbn => ?_,?_,hp,?_,fun a b ha hb => ?_⟩
 ·exact(if_pos ⟨List.mem_range'_1.mpr ⟨ha,by trivial⟩,List.mem_range'_1.mpr ⟨hb,by trivial⟩⟩).trans (val a b ha han hb hbn).1
 ·have:=dv.next S.t0 (by rw[← hkk];exact hp)
  rw[← hkk,List.map_map]at this
  exact this
 ·exact Nat.lt_of_lt_of_le (S.fB k k (by trivial) (by trivial)) (Nat.pow_le_pow_right (by decide) (by trivial))
 ·have Cj:2 ^ B≤2 ^ (2 * B+1):=Nat.pow_le_pow_right (by decide) (by trivial)
  unfold g8
  by_cases e:a∈List.range' (k+1) (n - (k+1))∧b∈List.range' (k+1) (n - (k+1))
  ·rw[if_pos e]
   have ma:=List.mem_range'_1.mp e.1
   have mb:=List.mem_range'_1.mp e.2
   have h:=(val a b (by trivial) ha (by trivial) hb).2
   have h1:=S.fB k k (Nat.le_of_lt ‹_›) (Nat.le_of_lt ‹_›)
   have h2:=S.fB a b ha hb
   have h3:=S.fB a k ha (Nat.le_of_lt ‹_›)
   have h4:=S.fB k b (Nat.le_of_lt ‹_›) hb
   rw[S.same a b (by trivial) ha (by trivial) hb]at h2
   rw[S.same a k (by trivial) ha (Nat.le_refl _) (by trivial)]at h3
   rw[S.same k b (Nat.le_refl _) (by trivial) (by trivial) hb]at h4
   rw[hkk]at h1
   have hn:=congrArg Int.natAbs h
   rw[Int.natAbs_mul]at hn
   have hle:(F k k * F a b + -(F a k) * F k b).natAbs≤(F k k).natAbs * (F a b).natAbs+(F a k).natAbs * (F k b).natAbs:=by
    refine Nat.le_trans (Int.natAbs_add_le _ _) ?_
    rw[Int.natAbs_mul,Int.natAbs_mul,Int.natAbs_neg];exact Nat.le_refl _
   have p1:(F k k).natAbs * (F a b).natAbs<2 ^ B * 2 ^ B:=Nat.mul_lt_mul'' h1 h2
   have p2:(F a k).natAbs * (F k b).natAbs<2 ^ B * 2 ^ B:=Nat.mul_lt_mul'' h3 h4
   have pw:2 ^ (2 * B+1)=2 ^ B * 2 ^ B+2 ^ B * 2 ^ B:=by rw[Nat.pow_succ,Nat.mul_two,Nat.two_mul,Nat.pow_add]
   have t1:1≤t.natAbs:=by have:=S.t0;trivial
   have:(f6 f k t a b).natAbs≤t.natAbs * (f6 f k t a b).natAbs:=Nat.le_mul_of_pos_left _ t1
   trivial
  ·rw[if_neg e];exact Nat.lt_of_lt_of_le (S.fB a b ha hb) Cj
end
end
section
theorem u6{p:Nat→Bool} : ∀(M k o:Nat) (r:List Nat),(List.range' k M).filter p=o::r→k≤o∧o<k+M∧p o=true∧∀i,k≤i→i<o→p i=false:=by
 intro l₀
 induction l₀ with
 | zero =>
  intro _ _ _ h
  exact nomatch h
 | succ M ih₀ =>
  intro k o r h
  rw[List.range'_succ,List.filter_cons]at h
  cases hp:p k with
  | true =>
   rw[hp,if_pos rfl]at h
   injection h with h1 _
   exact⟨by trivial,by trivial,h1 ▸ hp,fun i h2 h3=>by trivial⟩
  | false =>
   rw[hp,if_neg (by decide)]at h
   obtain⟨h1,h2,h3,h4⟩:=ih₀ (k+1) o r h
   exact⟨by trivial,by trivial,h3,fun i h5 h6=>by
    by_cases e:i=k
    ·rw[e];exact hp
    ·exact h4 i (by trivial) h6⟩
noncomputable def vk:MS:=ae (dF (ap .Mult (mV 3) (ao (ao (mV 1) (ap .Sub (mV 2) (mK (.int 1)))) (ap .Sub (mV 2) (mK (.int 1)))))) aM
noncomputable def HE:ME:=aK [10] (aN (au (aa (mV 5) (aa (mV 2) ak)) aR) (aV 10)) (bA (aW .NotEq (ao (ao (mV 1) (mV 10)) (mV 5)) (mK (.int 0))) (ay (mV 10)))
noncomputable def HD:MS:=ae (aX (d8 (aa (ao (mV 1) (ao (mV 6) (mK (.int 0)))) (aa (ao (mV 1) (mV 5)) (aa (iP (mV 3)) ak)))) (ov 3 (bJ (iS (mV 1) (mV 5)) (bJ (iS (mV 1) (ao (mV 6) (mK (.int 0)))) (bJ (aV 3) io))))) aM
noncomputable def Bz:MS:=ae (gV (aN vj (aV 7)) Bx) (ae (aX (ao (ao (mV 1) (mV 5)) (mV 5)) (aV 4)) aM)
noncomputable def vm:MS:=ae (aX HE (aV 6)) (ae (gI (aW .Eq (mV 6) (bz ak)) (ae (dF (mK (.int 0))) aM) aM) (ae (gI (aW .NotEq (ao (mV 6) (mK (.int 0))) (mV 5)) HD aM) Bz))
section
variable{σ0 σ:St}{r n k:Nat}{s t:Int}{f:Nat→Nat→Int}{as:Nat→Nat}{T x5 x6 x7 x8:AV}
theorem vh(H:lR σ0 σ r n f as)(hk:k<n)(h:n≤100):HE [T,.cell r,.int n,.int s,.int t,.int k,x6,x7,x8,.unbound,.unbound] σ=some (.list (((List.range' k (n - k)).filter fun i => !(f i k==0)).map fun(i:Nat)=>.int i),σ):=by
 have hr:aR [.int k,.int n] σ=some (.range (k:Nat) ((k+(n - k):Nat):Int) 1,σ):=by rw[Nat.add_sub_cancel' (Nat.le_of_lt hk)];rfl
 refine gF (σ:=σ) (List.range' k (n - k)) (fun(j:Nat)=>AV.int j) (fun i => !(f i k==0)) _ (bc (am rfl (am rfl aJ)) hr) (jS k (n - k) (by trivial)) rfl (by show 10<11;decide) ?_ (fun x ω ω=>rfl) (by rw[List.length_range'];trivial)
 intro i hi
 have:=List.mem_range'_1.mp hi
 exact aB (ax (ax rfl rfl (H.row_at (by trivial) h)) rfl (H.at (by trivial) hk h)) rfl rfl
theorem Bq(H:lR σ0 σ r n f as)(hk:k<n)(h:n≤100){o:Nat}(ho:o<n)(hne:o≠k){L:List AV} : ∃σ',HD [T,.cell r,.int n,.int s,.int t,.int k,.list (.int o::L),x7,x8,.unbound,.unbound] σ=some (.next,[T,.cell r,.int n,.int (-s),.int t,.int k,.list (.int o::L),x7,x8,.unbound,.unbound],σ')∧lR σ0 σ' r n (sw f k o) (sw as k o):=by
 obtain⟨σ1,σ2,e1,e2,e3,H2⟩:=H.swap hk ho hne h
 refine⟨σ2,?_,H2⟩
 have i0:∀σ,aZ (.list (.int o::L)) (.int 0) σ=some (.int o,σ):=fun σ=>dp 0 rfl (by decide)
 refine(gm (jZ (am (ax rfl (ax rfl rfl (i0 _)) e3) (am (ax rfl rfl (H.row_at hk h)) (am (j0 rfl) aJ))) rfl) (η' := [T,.cell r,.int n,.int (-s),.int t,.int k,.list (.int o::L),x7,x8,.unbound,.unbound]) (σ2:=σ2) ?_).trans rfl
 show oB (o1 (setCell σ r (.int k) (.cell (as o))) fun σ=>some (([T,.cell r,.int n,.int s,.int t,.int k,.list (.int o::L),x7,x8,.unbound,.unbound]:be),σ)) _=_
 rw[e1]
 show oB (oB (ao (mV 6) (mK (.int 0)) [T,.cell r,.int n,.int s,.int t,.int k,.list (.int o::L),x7,x8,.unbound,.unbound] σ1) _) _=_
 rw[ax (m:=mV 6) (n:=mK (.int 0)) rfl rfl (i0 _)]
 show oB (o1 (setCell σ1 r (.int o) (.cell (as k))) _) _=_
 rw[e2];rfl
theorem Bs{g:Nat→Nat→Int}{B:Nat}{F:Nat→Rw}(H:lR σ0 σ r n g as)(S:Et n k t g F B)(hB:B≤8000)(hk:k<n)(h:n≤100):∃σ' x7' x8',Bz [T,.cell r,.int n,.int s,.int t,.int k,x6,x7,x8,.unbound,.unbound] σ=some (.next,[T,.cell r,.int n,.int s,.int (g k k),.int k,x6,x7',x8',.unbound,.unbound],σ')∧lR σ0 σ' r n (g8 g k n t (List.range' (k+1) (n - (k+1)))) as:=by
 have H':lR σ0 σ r n (g8 g k n t []) as:=by
  have:g8 g k n t []=g:=by funext a b;exact if_neg fun e=>nomatch e.1
  rw[this];exact H
 obtain⟨σ',x7',x8',e,H2⟩:=Bt hk h (fun a b ha hb=>qf (S.fB a b ha hb) hB) S.t0 (qf S.tB hB) T (.int s) x6 .unbound .unbound (List.range' (k+1) (n - (k+1))) [] σ x7 x8 H' (fun j hj=>by
  have:=List.mem_range'_1.mp hj
  exact⟨by trivial,by trivial,fun m=>nomatch m⟩) List.nodup_range' (fun m=>nomatch m)
 rw[List.nil_append]at H2
 refine⟨σ',x7',x8',?_,H2⟩
 have hv:g8 g k n t (List.range' (k+1) (n - (k+1))) k k=g k k:=if_neg fun e=>by have:=List.mem_range'_1.mp e.1;trivial
 have rd:=H2.at hk hk h
 rw[hv]at rd
 exact(me (wG (σ:=σ) hk h rfl rfl 7) e).trans ((bv (R:=aM) (ax (ax rfl rfl (H2.row_at hk h)) rfl rd) (by show 4<11;decide)).trans rfl)
theorem Bu(hn:n≤100):∀(m k:Nat) (s t:Int) (f:Nat→Nat→Int) (F:Nat→Rw) (as:Nat→Nat) (σ:St) (x5 x6 x7 x8:AV) (B:Nat),k+m+1=n→(s=1∨s = -1)→lR σ0 σ r n f as→Et n k t f F B→(B+1) * 2 ^ m≤8000 →
  ∃σ',gw (kS (d9 ((List.range' k m).map fun(k:Nat)=>aV 5 (.int k)) vm [T,.cell r,.int n,.int s,.int t,x5,x6,x7,x8,.unbound,.unbound] σ) vk)=some (.int (s * BP t (List.range' k (m+1)) ((List.range' k (m+1)).map F)),σ')∧∀i,i<σ0.length→σ'[i]? = σ0[i]? := by
 intro m
 induction m with
 | zero =>
  intro k s t f F as σ x5 x6 x7 x8 B hkn hs H S hB
  refine⟨σ,?_,H.old⟩
  have hk:k<n:=by trivial
  have e1:∀σ,bF .Sub (.int (n:Nat)) (.int 1) σ=some (.int (k:Nat),σ):=fun σ=>by rw[vB];congr 3;trivial
  have hB':B≤8000:=by rw[Nat.pow_zero,Nat.mul_one]at hB;trivial
  have dX:kK s=true:=by rcases hs with h | h <;> rw[h] <;> decide
  show gw (vk _ σ)=_
  have hF:BP t (List.range' k (0+1)) ((List.range' k (0+1)).map F)=f k k:=(S.same k k (Nat.le_refl _) hk (Nat.le_refl _) hk).symm
  rw[hF]
  unfold vk
  exact st (eX (aE rfl (ax (ax rfl (aE rfl rfl (e1 _)) (H.row_at hk hn)) (aE rfl rfl (e1 _)) (H.at hk hk hn)) (jq dX (qf (S.fB k k hk hk) hB')))) rfl
 | succ m ih =>
  intro k s t f F as σ x5 x6 x7 x8 B hkn hs H S hB
  have hk:k<n:=by trivial
  have hnk:n - k=m+1+1:=by trivial
  have hB':B≤8000:=by
   have:B+1≤(B+1) * 2 ^ (m+1):=Nat.le_mul_of_pos_right _ (Nat.pow_pos (by decide))
   trivial
  rw[List.range'_succ,List.map_cons]
  unfold d9
  show ∃σ',gw (kS (oB (some (([T,.cell r,.int n,.int s,.int t,.int k,x6,x7,x8,.unbound,.unbound]:be),σ)) _) vk)=_∧_
  rw[cP]
  have ho:=vh (T:=T) (s:=s) (t:=t) (x6:=x6) (x7:=x7) (x8:=x8) H hk hn
  have hbar:BP t (List.range' k (m+1+1)) ((List.range' k (m+1+1)).map F)=match pY k ((List.range' k (m+1+1)).map F)with
   | none=>0
   | some (p,b,s)=>(if s then 1 else -1) * BP (p k) (List.range' (k+1) (m+1)) (b.map (nT t p k)):=by
   rw[List.range'_succ (s:=k),List.range'_succ (s:=k+1)];rfl
  show ∃σ',gw (kS (oF (vm [T,.cell r,.int n,.int s,.int t,.int k,x6,x7,x8,.unbound,.unbound] σ) _) vk)=_∧_
  cases hL:(List.range' k (n - k)).filter fun i => !(f i k==0)with
  | nil =>
   rw[hL]at ho
   have hz:∀i∈List.range' k (m+1+1),F i k=0:=fun i hi=>by
    rw[← hnk]at hi
    have hm:=List.mem_range'_1.mp hi
    have:=List.filter_eq_nil_iff.mp hL i hi
    rw[← S.same i k hm.1 (by trivial) (Nat.le_refl _) hk]
    simpa using this
   rw[hbar,zX _ hz]
   refine⟨σ,?_,H.old⟩
   have:vm [T,.cell r,.int n,.int s,.int t,.int k,x6,x7,x8,.unbound,.unbound] σ=some (.ret (.int 0),[T,.cell r,.int n,.int s,.int t,.int k,.list [],x7,x8,.unbound,.unbound],σ) :=
    (bv ho (by show 6<11;decide)).trans (q7 (aB rfl rfl rfl) (eX rfl))
   rw[this]
   show some (AV.int 0,σ)=some (AV.int (s * 0),σ)
   rw[Int.mul_zero]
  | cons o r' =>
   rw[hL]at ho
   obtain⟨o1,o2,o3,o4⟩:=u6 _ _ _ _ hL
   have on:o<n:=by trivial
   have fo:f o k≠0:=by simpa using o3
   have Fz:∀i,k≤i→i<o→F i k=0:=fun i h1 h2=>by
    rw[← S.same i k h1 (by trivial) (Nat.le_refl _) hk]
    simpa using o4 i h1 h2
   have Fo:F o k≠0:=by rw[← S.same o k o1 on (Nat.le_refl _) hk];exact fo
   rw[hbar,zV o1 (by trivial) Fz Fo]
   dsimp only
   have ne:∀σ,bW .Eq (.list (.int (o:Nat)::r'.map fun(i:Nat)=>AV.int i)) (.list []) σ=some (.bool false,σ):=fun σ=>rfl
   have i0:∀σ,aZ (.list (.int (o:Nat)::r'.map fun(i:Nat)=>AV.int i)) (.int 0) σ=some (.int o,σ):=fun σ=>dp 0 rfl (by decide)
   have eo:∀σ,bW .NotEq (.int (o:Nat)) (.int (k:Nat)) σ=some (.bool (!decide (o=k)),σ):=fun σ=>by rw[px,eG]
   -- the pivot's row stands at k
   have go:∀(s':Int) (as':Nat→Nat) (σ1:St),(s'=1∨s' = -1)→s'=s * (if decide (o=k)then 1 else -1)→lR σ0 σ1 r n (sw f k o) as'→∃σ',gw (kS (oF (Bz [T,.cell r,.int n,.int s',.int t,.int k,.list (.int (o:Nat)::r'.map fun(i:Nat)=>AV.int i),x7,x8,.unbound,.unbound] σ1) (d9 ((List.range' (k+1) m).map fun(k:Nat)=>aV 5 (.int k)) vm)) vk) =
     some (.int (s * ((if decide (o=k)then 1 else -1) * BP (sw F k o k k) (List.range' (k+1) (m+1)) (((List.range' (k+1) (m+1)).map (sw F k o)).map (nT t (sw F k o k) k)))),σ')∧∀i,i<σ0.length→σ'[i]? = σ0[i]? := by
    intro s' as' σ1 hs' es H1
    have S1:=S.swap hk o1 on
    have p0:sw f k o k k≠0:=by rw[GO];exact fo
    obtain⟨σ2,x7',x8',e2,H2⟩:=Bs (T:=T) (s:=s') (x6:=.list (.int (o:Nat)::r'.map fun(i:Nat)=>AV.int i)) (x7:=x7) (x8:=x8) H1 S1 hB' hk hn
    have S2:=S1.next (by trivial) p0
    obtain⟨σ3,e3,h3⟩:=ih (k+1) s' (sw f k o k k) _ _ as' σ2 (.int k) (.list (.int (o:Nat)::r'.map fun(i:Nat)=>AV.int i)) x7' x8' _ (by trivial) hs' H2 S2 (by
     rw[Nat.pow_succ]at hB
     have:(2 * B+1+1) * 2 ^ m=(B+1) * (2 ^ m * 2):=by rw[Nat.mul_comm (2 ^ m) 2,← Nat.mul_assoc,show 2 * B+1+1=(B+1) * 2 by trivial]
     trivial)
    refine⟨σ3,?_,h3⟩
    rw[e2,eP,e3]
    have hkk:sw f k o k k=sw F k o k k:=S1.same k k (Nat.le_refl _) hk (Nat.le_refl _) hk
    rw[List.map_map,hkk,es,Int.mul_assoc];rfl
   by_cases e:o=k
   ·rw[decide_eq_true e]at eo go ⊢
    have hd:vm [T,.cell r,.int n,.int s,.int t,.int k,x6,x7,x8,.unbound,.unbound] σ=Bz [T,.cell r,.int n,.int s,.int t,.int k,.list (.int (o:Nat)::r'.map fun(i:Nat)=>AV.int i),x7,x8,.unbound,.unbound] σ :=
     (bv ho (by show 6<11;decide)).trans ((cS (aB rfl rfl (ne _))).trans (cS (aB (ax rfl rfl (i0 _)) rfl (eo _))))
    rw[hd]
    exact go s as σ hs (by rw[if_pos rfl,Int.mul_one]) (by rw[e,vY];exact H)
   ·rw[decide_eq_false e]at eo go ⊢
    obtain⟨σ1,e1,H1⟩:=Bq (T:=T) (s:=s) (t:=t) (x7:=x7) (x8:=x8) (L:=r'.map fun(i:Nat)=>AV.int i) H hk hn on e
    have hd:vm [T,.cell r,.int n,.int s,.int t,.int k,x6,x7,x8,.unbound,.unbound] σ=Bz [T,.cell r,.int n,.int (-s),.int t,.int k,.list (.int (o:Nat)::r'.map fun(i:Nat)=>AV.int i),x7,x8,.unbound,.unbound] σ1 :=
     (bv ho (by show 6<11;decide)).trans ((cS (aB rfl rfl (ne _))).trans (lA (aB (ax rfl rfl (i0 _)) rfl (eo _)) e1))
    rw[hd]
    exact go (-s) (sw as k o) σ1 (by rcases hs with h | h <;> rw[h] <;> decide) (by rw[if_neg (by decide)];trivial) H1
theorem dl{α:Type}(n:Nat)(g:Nat→α):(List.range n).map g=(List.range' 0 n).map g:=by rw[List.range_eq_range']
theorem Bv(n:Nat)(f:Nat→Nat→Int)(hn:n≤100){η:be}(h9:9<η.length)(b:Nat):∀(m k:Nat) (σ:St) (acc:List AV),k+m=n→acc.length=k→σ.length=b+k→dE ((List.range' k m).map fun i=>aV 9 (.list ((List.range n).map fun j=>.int (f i j)))) (bA (tK true) (ay (au (aa (mV 9) ak) e9))) η σ (.list acc) =
  some (σ++(List.range' k m).map fun i=>.list ((List.range n).map fun j=>.int (f i j)),.list (acc++(List.range' k m).map fun i=>.cell (b+i))):=by
 intro m
 induction m with
 | zero=>intro k σ acc _ _ _;show some (σ,aO.list acc)=_;rw[List.range'_zero,List.map_nil,List.map_nil,List.append_nil,List.append_nil]
 | succ m ih =>
  intro k σ acc hk ha hσ
  rw[List.range'_succ,List.map_cons,List.map_cons,List.map_cons]
  have hc:e9 [.list ((List.range n).map fun j=>.int (f k j))] σ=some (.cell σ.length,σ ++ [.list ((List.range n).map fun j=>.int (f k j))]):=if_pos (by rw[List.length_map,List.length_range];exact cE (Nat.le_trans ‹_› (Nat.le_of_ble_eq_true rfl)))
  have e:=bc (op:=e9) (η:=η.set 9 (.list ((List.range n).map fun j=>.int (f k j)))) (am (IL (a:=.list ((List.range n).map fun j=>.int (f k j))) (List.getElem?_set_self h9) rfl) aJ) hc
  have ih:=ih (k+1) (σ ++ [.list ((List.range n).map fun j=>.int (f k j))]) (acc ++ [.cell σ.length]) (by trivial) (by rw[List.length_append,ha];rfl) (by rw[List.length_append,hσ];rfl)
  show oB (if 9<η.length then some (η.set 9 (.list ((List.range n).map fun j=>.int (f k j))),σ)else none) (fun η' σ=>oB (oT (some (true,σ)) (fun σ=>ay (au (aa (mV 9) ak) e9) η' σ (.list acc)) fun σ=>some (σ,.list acc)) fun σ acc=>dE ((List.range' (k+1) m).map fun i=>aV 9 (.list ((List.range n).map fun j=>.int (f i j)))) (bA (tK true) (ay (au (aa (mV 9) ak) e9))) η σ acc)=_
  rw[if_pos h9,cP,Hb]
  show oB (oB (au (aa (mV 9) ak) e9 (η.set 9 (.list ((List.range n).map fun j=>.int (f k j)))) σ) fun v σ=>if dX acc.length then some (σ,aO.list (acc ++ [v]))else none) _=_
  rw[e,cP,if_pos (cE (by trivial)),cP,ih,List.append_assoc,List.append_assoc,hσ]
  rfl
theorem jJ{n:Nat}(f:Nat→Nat→Int)(h1:1≤n)(h2:n≤7)(hB:∀a b,a<n→b<n→(f a b).natAbs<2 ^ 12)(σ:St) :
  ∃σ',bT [.list ((List.range n).map fun i=>.list ((List.range n).map fun j=>.int (f i j)))] σ=some (.int (b9 (List.range n) ((List.range n).map f)),σ')∧∀i,i<σ.length→σ'[i]? = σ[i]? := by
 have hcopy:=Bv n f (Nat.le_trans ‹_› (Nat.le_of_ble_eq_true rfl)) (η := [.list ((List.range n).map fun i=>.list ((List.range n).map fun j=>.int (f i j))),.unbound,.unbound,.unbound,.unbound,.unbound,.unbound,.unbound,.unbound,.unbound,.unbound]) (by show 9<11;decide) σ.length n 0 σ [] (Nat.zero_add _) rfl rfl
 have hrows:hM [9] (aN (mV 0) (aV 9)) (bA (tK true) (ay (au (aa (mV 9) ak) e9))) [.list ((List.range n).map fun i=>.list ((List.range n).map fun j=>.int (f i j))),.unbound,.unbound,.unbound,.unbound,.unbound,.unbound,.unbound,.unbound,.unbound,.unbound] σ =
   some (.cell (σ.length+n),(σ++(List.range n).map fun i=>.list ((List.range n).map fun j=>.int (f i j))) ++ [.list ((List.range n).map fun i=>.cell (σ.length+i))]):=by
  have hg:eQ [9] (aN (mV 0) (aV 9)) (bA (tK true) (ay (au (aa (mV 9) ak) e9))) [.list ((List.range n).map fun i=>.list ((List.range n).map fun j=>.int (f i j))),.unbound,.unbound,.unbound,.unbound,.unbound,.unbound,.unbound,.unbound,.unbound,.unbound] σ (.list []) =
    dE ((List.range' 0 n).map fun i=>aV 9 (.list ((List.range n).map fun j=>.int (f i j)))) (bA (tK true) (ay (au (aa (mV 9) ak) e9))) [.list ((List.range n).map fun i=>.list ((List.range n).map fun j=>.int (f i j))),.unbound,.unbound,.unbound,.unbound,.unbound,.unbound,.unbound,.unbound,.unbound,.unbound] σ (.list []):=by
   refine(if_pos (c := [9].all (dk _)=true) rfl).trans ?_
   show oB (some (((List.range n).map fun i=>AV.list ((List.range n).map fun j=>.int (f i j))).map (aV 9),σ)) _=_
   rw[cP,List.map_map,dl];rfl
  unfold hM
  rw[hg,hcopy,← dl,← dl,List.nil_append]
  show some (AV.cell (σ++(List.range n).map fun i=>aO.list ((List.range n).map fun j=>.int (f i j))).length,_)=_
  rw[List.length_append,List.length_map,List.length_range]
 generalize hσ:(σ++(List.range n).map fun i=>aO.list ((List.range n).map fun j=>.int (f i j))) ++ [aO.list ((List.range n).map fun i=>.cell (σ.length+i))]=σ1 at hrows
 have H:lR σ σ1 (σ.length+n) n f (fun i=>σ.length+i):=by
  rw[← hσ]
  have hl:(σ++(List.range n).map fun i=>aO.list ((List.range n).map fun j=>AV.int (f i j))).length=σ.length+n:=by rw[List.length_append,List.length_map,List.length_range]
  refine⟨Nat.le_add_right _ _,fun i hi => ?_,?_,fun i hi=>⟨by trivial,Nat.le_add_right _ _,?_⟩,fun i j ω ω e=>by trivial⟩
  ·rw[List.getElem?_append_left (by rw[hl];trivial),List.getElem?_append_left hi]
  ·rw[List.getElem?_append_right (by rw[hl];exact Nat.le_refl _),hl,Nat.sub_self];rfl
  ·rw[List.getElem?_append_left (by rw[hl];trivial),List.getElem?_append_right (Nat.le_add_right _ _),Nat.add_sub_cancel_left]
   exact cW (fun i=>aO.list ((List.range n).map fun j=>AV.int (f i j))) hi
 have S:Et n 0 1 f f 12:=⟨fun ω ω ω ω ω ω=>rfl,Dv.one _ _,by decide,by decide,hB⟩
 have hlen:dH [.cell (σ.length+n)] σ1=some (.int (n:Nat),σ1):=by
  have:=FT (σ:=σ1) H.tab (by rw[List.length_map,List.length_range];trivial)
  rwa [List.length_map,List.length_range]at this
 obtain⟨m,rfl⟩:∃m,n=m+1:=⟨n - 1,by trivial⟩
 obtain⟨σ',e,he⟩:=Bu (T:=.list ((List.range (m+1)).map fun i=>.list ((List.range (m+1)).map fun j=>.int (f i j)))) (by trivial) m 0 1 1 f f _ σ1 .unbound .unbound .unbound .unbound 12 (by trivial) (.inl rfl) H S (by
  have:2 ^ m≤2 ^ 6:=Nat.pow_le_pow_right (by decide) (by trivial)
  trivial)
 refine⟨σ',?_,he⟩
 have hr:aR [.int ((((m+1:Nat)):Int) - 1)] σ1=some (.range (0:Nat) ((0+m:Nat):Int) 1,σ1):=by
  rw[show(((m+1:Nat)):Int) - 1=((0+m:Nat):Int) by trivial];rfl
 have hfor:aN (au (aa (ap .Sub (mV 2) (mK (.int 1))) ak) aR) (aV 5) [.list ((List.range (m+1)).map fun i=>.list ((List.range (m+1)).map fun j=>.int (f i j))),.cell (σ.length+(m+1)),.int ((m+1:Nat):Int),.int 1,.int 1,.unbound,.unbound,.unbound,.unbound,.unbound,.unbound] σ1=some ((List.range' 0 m).map fun(k:Nat)=>aV 5 (.int k),σ1) :=
  gD (bc (am (aE rfl rfl rfl) aJ) hr) (jS 0 m (by trivial))
 rw[Int.one_mul,Eg _ _ (by rw[List.range'_succ];exact List.cons_ne_nil _ _) (by rw[List.length_map]),← dl,← List.range_eq_range']at e
 refine ph rfl ?_
 refine st (bv hrows (by show 1<11;decide)) (st (bv (bc (am rfl aJ) hlen) (by show 2<11;decide)) (st (gm (jZ (am rfl (am rfl aJ)) rfl) (E1 (by show 3<11;decide) (by show 4<11;decide))) ?_))
 show gw (ae (gV (aN (au (aa (ap .Sub (mV 2) (mK (.int 1))) ak) aR) (aV 5)) vm) vk [.list ((List.range (m+1)).map fun i=>.list ((List.range (m+1)).map fun j=>.int (f i j))),.cell (σ.length+(m+1)),.int ((m+1:Nat):Int),.int 1,.int 1,.unbound,.unbound,.unbound,.unbound,.unbound,.unbound] σ1)=_
 rw[dj]
 unfold gV
 rw[hfor,cP,← List.range_eq_range']
 exact e
end
end
section
noncomputable def eK(s:List Nat):Nat→Nat→List Nat
 | 0,_ => []
 | n+1,k=>if k=0 then[]else cK s k::eK s n (cK s k)
section
variable{σ:St}
theorem nE(j:Nat):∀cn:List Nat,ke (de 8) (.int (j:Nat)) (cn.map fun(x:Nat)=>AV.int x)=some (decide (j∈cn)):=by
 intro l₀
 induction l₀ with
 | nil =>
  rw[decide_eq_false (List.not_mem_nil)];rfl
 | cons x r ih₀ =>
  show o1 (some (((x:Nat):Int)==((j:Nat):Int))) (fun a=>o1 (ke (de 8) (.int j) (r.map fun(x:Nat)=>AV.int x)) fun b=>some (a||b))=_
  rw[ih₀,eG]
  show some (decide (x=j)||decide (j∈r))=_
  congr 1
  rw[← Bool.decide_or]
  exact decide_eq_decide.mpr (by rw[List.mem_cons];exact or_congr eq_comm Iff.rfl)
theorem wy(j:Nat)(cn:List Nat):bW .In (.int (j:Nat)) (.list (cn.map fun(x:Nat)=>AV.int x)) σ=some (.bool (decide (j∈cn)),σ):=by
 show gG (ke (de 8) (.int (j:Nat)) (cn.map fun(x:Nat)=>AV.int x)) σ=_
 rw[nE];rfl
theorem G8{n:Nat}{D:List (Int×AV)}{k:Int}{x:AV}(h:σ[n]? = some (.dicti D))(e:f7 k D=some x):aZ (.cell n) (.int k) σ=some (x,σ):=by
 have h1:cA σ (.cell n)=none:=by show o1 σ[n]? lF=_;rw[h];rfl
 have h2:et σ (.cell n)=none:=by show o1 σ[n]? rK=_;rw[h];rfl
 have h3:oG σ (.cell n)=some D:=by show o1 σ[n]? EI=_;rw[h];rfl
 unfold aZ
 rw[h1,h2,h3]
 show o1 (f7 k D) _=_
 rw[e];rfl
theorem nX{q:Nat}{D:List (Int×AV)}{k:Int}{a:AV}(h:σ[q]? = some (.dicti D))(hl:D.length≤16777216):setCell σ q (.int k) a=some (σ.set q (.dicti (t8 D k a))):=by
 unfold setCell
 rw[h]
 show o1 (if dX D.length then some (aO.dicti (t8 D k a))else none) _=_
 rw[if_pos (cE hl)];rfl
end
noncomputable def qV(b:Nat)(P:List Nat):List (Int×AV):=P.zipIdx.map fun p=>(((p.1:Nat):Int),.cell (b+1+p.2))
noncomputable def ju(L:List Nat):List AV:=L.map fun(x:Nat)=>AV.int x
noncomputable def ou(σ0:St)(P:List Nat)(ab:Nat→List Nat):St:=σ0++.dicti (qV σ0.length P)::P.map fun k=>.list (ju (ab k))
theorem Es(b:Nat)(P:List Nat)(k:Nat):qV b (P ++ [k])=qV b P ++ [(((k:Nat):Int),.cell (b+1+P.length))]:=by
 simp[qV,List.zipIdx_append]
theorem B5(b:Nat)(P:List Nat):(qV b P).map (·.1)=P.map fun(k:Nat)=>(k:Int):=by
 unfold qV
 rw[List.map_map]
 have:((fun(x:Int×AV)=>x.1) ∘ fun(p:Nat×Nat)=>(((p.1:Nat):Int),AV.cell (b+1+p.2)))=(fun(k:Nat)=>(k:Int)) ∘ Prod.fst:=rfl
 rw[this,← List.map_map,List.zipIdx_map_fst]
theorem Gv{b:Nat}{P:List Nat}{k:Nat}(h:k∉P):((k:Nat):Int)∉(qV b P).map (·.1):=by
 rw[B5]
 intro m
 obtain⟨x,hx,e⟩:=List.mem_map.mp m
 exact h (by rewrite [← Int.ofNat.inj e];exact hx)
theorem yy{b:Nat} : ∀{P:List Nat} {n i k:Nat},P.Nodup→P[i]? = some k→f7 (k:Nat) ((P.zipIdx n).map fun p=>(((p.1:Nat):Int),AV.cell (b+1+p.2)))=some (.cell (b+1+(n+i))):=by
 intro l₀
 induction l₀ with
 | nil =>
  intro _ _ _ _ h
  exact nomatch h
 | cons j P ih₀ =>
  intro n i k hn h
  obtain⟨h1,h2⟩:=List.nodup_cons.mp hn
  show(if((j:Nat):Int)=((k:Nat):Int)then some (AV.cell (b+1+n))else f7 (k:Nat) ((P.zipIdx (n+1)).map fun p=>(((p.1:Nat):Int),AV.cell (b+1+p.2))))=_
  cases i with
  | zero =>
   have:j=k:=Option.some.inj h
   rw[if_pos (by rw[this])];rfl
  | succ i =>
   have h:P[i]? = some k:=h
   rw[if_neg fun e=>h1 (by rewrite [Int.ofNat.inj e];exact List.mem_of_getElem? h),ih₀ h2 h,Nat.add_assoc n 1,Nat.add_comm 1 i]
theorem tw{b:Nat}{P:List Nat}{i k:Nat}(hn:P.Nodup)(h:P[i]? = some k):f7 (k:Nat) (qV b P)=some (.cell (b+1+i)):=by
 have:=yy (b:=b) (n:=0) hn h
 rwa [Nat.zero_add]at this
end
section
noncomputable def gl(s cn:List Nat)(k:Nat):List Nat:=(eK s 7 k).filter fun x=>decide (x∈cn)
noncomputable def Cs:MT:=aW .GtE (mV 5) (mK (.int 0))
noncomputable def Ct:MS:=ae (gI (aW .In (mV 5) (mV 2)) (ae (dM (br "list" (ao (mV 3) (mV 4)) (aa (mV 5) ak) ej)) aM) aM) (ae (aX (ao (mV 0) (mV 5)) (aV 5)) aM)
noncomputable def rT(s:List Nat)(j:Nat):Int:=if j=0 then -1 else cK s j
noncomputable def dI(cn:List Nat):List AV:=cn.map fun(x:Nat)=>AV.int x
section
variable{s cn:List Nat}{q D k:Nat}{WL:List AV}{x6 x7 x8:AV}
theorem uu(S:c9 s){σ:St}(hq:σ[q]? = some (.list (iO s))){j:Nat}(hj:j<7):aZ (.cell q) (.int j) σ=some (.int (rT s j),σ):=by
 unfold rT
 by_cases h:j=0
 ·rw[if_pos h,h];exact iy hq rfl (by decide)
 ·rw[if_neg h];exact iy hq (S.at (by trivial) hj) (by trivial)
theorem BX{pre:St}{acc:List AV}{x:AV}(h:acc.length≤1000):ej [.cell pre.length,x] (pre ++ [.list acc])=some (.none,pre ++ [.list (acc ++ [x])]):=by
 rw[Am (o7 _) (by trivial),zE]
theorem I7(S:c9 s){pre:St}{Dict:List (Int×AV)}(hq:∀c,(pre ++ [c])[q]? = some (.list (iO s)))(hD:∀c,(pre ++ [c])[D]? = some (.dicti Dict))(hk:f7 (k:Nat) Dict=some (.cell pre.length)) :
  ∀(m j n:Nat) (acc:List AV),j≤m→j<7→j+2≤n→acc.length+j≤900→eY n Cs Ct [.cell q,.list WL,.list (dI cn),.cell D,.int k,.int j,x6,x7,x8,.unbound,.unbound,.unbound] (pre ++ [.list acc]) =
   some (.next,[.cell q,.list WL,.list (dI cn),.cell D,.int k,.int (-1),x6,x7,x8,.unbound,.unbound,.unbound],pre ++ [.list (acc++ju ((j::eK s m j).filter fun x=>decide (x∈cn)))]):=by
 intro m
 have step:∀(j n:Nat) (acc:List AV),j<7→acc.length≤900→eY (n+1) Cs Ct [.cell q,.list WL,.list (dI cn),.cell D,.int k,.int j,x6,x7,x8,.unbound,.unbound,.unbound] (pre ++ [.list acc]) =
   eY n Cs Ct [.cell q,.list WL,.list (dI cn),.cell D,.int k,.int (rT s j),x6,x7,x8,.unbound,.unbound,.unbound] (pre ++ [.list (acc++ju ([j].filter fun x=>decide (x∈cn)))]):=by
  intro j n acc hj ha
  have t1:Cs [.cell q,.list WL,.list (dI cn),.cell D,.int k,.int j,x6,x7,x8,.unbound,.unbound,.unbound] (pre ++ [.list acc])=some (true,pre ++ [.list acc]):=aB rfl rfl ((HM).trans (by rw[decide_eq_true (Int.natCast_nonneg j)]))
  have ei:=wy (σ:=pre ++ [.list acc]) j cn
  show oT (Cs _ (pre ++ [.list acc])) _ _=_
  rw[t1,Hb]
  have body:Ct [.cell q,.list WL,.list (dI cn),.cell D,.int k,.int j,x6,x7,x8,.unbound,.unbound,.unbound] (pre ++ [.list acc])=some (.next,[.cell q,.list WL,.list (dI cn),.cell D,.int k,.int (rT s j),x6,x7,x8,.unbound,.unbound,.unbound],pre ++ [.list (acc++ju ([j].filter fun x=>decide (x∈cn)))]):=by
   unfold Ct
   by_cases h:j∈cn
   ·rw[decide_eq_true h]at ei
    have : [j].filter (fun x=>decide (x∈cn)) = [j]:=by rw[List.filter_cons,if_pos (decide_eq_true h)];rfl
    rw[this]
    have ty:pL (pre ++ [.list acc]) (.cell pre.length)=some "list" := by
     show o1 (pre ++ [.list acc])[pre.length]? vt=_
     rw[o7];rfl
    exact(lA (aB rfl rfl ei) (kR (R:=aM) (bN (ax rfl rfl (G8 (hD _) hk)) ty (am rfl aJ) (BX (by trivial))))).trans ((bv (R:=aM) (ax rfl rfl (uu S (hq _) hj)) (by show 5<12;decide)).trans rfl)
   ·rw[decide_eq_false h]at ei
    have : [j].filter (fun x=>decide (x∈cn)) = []:=by rw[List.filter_cons,if_neg (by rw[decide_eq_false h];decide)];rfl
    rw[this]
    show _=some (_,_,pre ++ [.list (acc ++ [])])
    rw[List.append_nil]
    exact(cS (aB rfl rfl ei)).trans ((bv (R:=aM) (ax rfl rfl (uu S (hq _) hj)) (by show 5<12;decide)).trans rfl)
  rw[body,eP]
 have stop:∀(n:Nat) (acc:List AV),eY (n+1) Cs Ct [.cell q,.list WL,.list (dI cn),.cell D,.int k,.int (-1),x6,x7,x8,.unbound,.unbound,.unbound] (pre ++ [.list acc])=some (.next,[.cell q,.list WL,.list (dI cn),.cell D,.int k,.int (-1),x6,x7,x8,.unbound,.unbound,.unbound],pre ++ [.list acc]):=fun n acc=>rfl
 have zero:∀(n:Nat) (acc:List AV),2≤n→acc.length≤900→eY n Cs Ct [.cell q,.list WL,.list (dI cn),.cell D,.int k,.int (0:Nat),x6,x7,x8,.unbound,.unbound,.unbound] (pre ++ [.list acc]) =
   some (.next,[.cell q,.list WL,.list (dI cn),.cell D,.int k,.int (-1),x6,x7,x8,.unbound,.unbound,.unbound],pre ++ [.list (acc++ju ([0].filter fun x=>decide (x∈cn)))]):=by
  intro n acc hn ha
  obtain⟨n,rfl⟩:∃i,n=i+2:=⟨n - 2,by trivial⟩
  rw[step 0 (n+1) acc (by decide) ha]
  exact stop n _
 induction m with
 | zero =>
  intro j n acc hm hj hn ha
  have:j=0:=by trivial
  rw[this]at hn ⊢
  exact zero n acc hn (by trivial)
 | succ m ih =>
  intro j n acc hm hj hn ha
  by_cases h0:j=0
  ·rw[h0]at hn ⊢
   exact zero n acc hn (by trivial)
  ·have hp:=S.par j (by trivial) hj
   obtain⟨n,rfl⟩:∃i,n=i+1:=⟨n - 1,by trivial⟩
   have hl:(acc++ju ([j].filter fun x=>decide (x∈cn))).length≤acc.length+1:=by
    rw[List.length_append]
    unfold ju
    rw[List.length_map]
    exact Nat.add_le_add_left (List.length_filter_le ..) _
   rw[step j n acc hj (by trivial)]
   have e:rT s j=((cK s j:Nat):Int):=if_neg h0
   rw[e,ih (cK s j) n _ (by trivial) (by trivial) (by trivial) (by trivial)]
   have:(j::eK s (m+1) j) = [j]++(cK s j::eK s m (cK s j)):=by
    show j::(if j=0 then[]else _)=_
    rw[if_neg h0];rfl
   rw[this,List.filter_append,List.append_assoc]
   unfold ju
   rw[List.map_append]
noncomputable def H9:MS:=ae (aX (jP ak) (iS (mV 3) (mV 4))) (ae (aX (ao (mV 0) (mV 4)) (aV 5)) (ae (eY 100 Cs Ct) aM))
theorem E3(σ0:St)(P:List Nat)(ab:Nat→List Nat):(ou σ0 P ab)[σ0.length]? = some (.dicti (qV σ0.length P)):=by
 unfold ou;rw[List.getElem?_append_right (Nat.le_refl _),Nat.sub_self];rfl
theorem wU(σ0:St)(P:List Nat)(ab:Nat→List Nat):(ou σ0 P ab).length=σ0.length+1+P.length:=by
 unfold ou;rw[List.length_append,List.length_cons,List.length_map];trivial
theorem u5(S:c9 s){σ0:St}(hq:σ0[q]? = some (.list (iO s))):∀(L P:List Nat) (x4 x5:AV),(P++L).Nodup→(∀k∈L,k<7)→P.length+L.length≤100 →
  ∃x4' x5',d9 (L.map fun(k:Nat)=>aV 4 (.int k)) H9 [.cell q,.list WL,.list (dI cn),.cell σ0.length,x4,x5,x6,x7,x8,.unbound,.unbound,.unbound] (ou σ0 P (gl s cn))=some (.next,[.cell q,.list WL,.list (dI cn),.cell σ0.length,x4',x5',x6,x7,x8,.unbound,.unbound,.unbound],ou σ0 (P++L) (gl s cn)):=by
 have hq0:=(List.getElem?_eq_some_iff.mp hq).1
 intro L
 induction L with
 | nil=>intro P x4 x5 _ _ _;exact⟨x4,x5,by rw[List.append_nil];rfl⟩
 | cons k L ih =>
  intro P x4 x5 hn hL hl
  rw[List.length_cons]at hl
  have hk:=hL k List.mem_cons_self
  have e2:P++k::L=P ++ [k]++L:=by rw[List.append_assoc];rfl
  have hkP:k∉P:=fun m=>(List.nodup_append.mp hn).2.2 _ m _ List.mem_cons_self rfl
  rw[e2]at hn ⊢
  obtain⟨x4',x5',hx⟩:=ih (P ++ [k]) (.int k) (.int (-1)) hn (fun j hj=>hL j (List.mem_cons_of_mem _ hj)) (by rw[List.length_append];show _+1+_≤_;trivial)
  refine⟨x4',x5',?_⟩
  rw[List.map_cons]
  unfold d9
  show oB (some (([.cell q,.list WL,.list (dI cn),.cell σ0.length,.int k,x5,x6,x7,x8,.unbound,.unbound,.unbound]:be),_)) _=_
  rw[cP]
  let pre:St:=σ0++.dicti (qV σ0.length (P ++ [k]))::P.map fun k=>aO.list (ju (gl s cn k))
  have pl:pre.length=σ0.length+1+P.length:=by
   show(σ0++aO.dicti (qV σ0.length (P ++ [k]))::P.map fun k=>aO.list (ju (gl s cn k))).length=_
   rw[List.length_append,List.length_cons,List.length_map];trivial
  have preq:∀c,(pre ++ [c])[q]? = some (.list (iO s)):=fun c=>by
   rw[List.getElem?_append_left (by trivial)]
   show(σ0++_)[q]? = _
   rw[List.getElem?_append_left hq0];exact hq
  have preD:∀c,(pre ++ [c])[σ0.length]? = some (.dicti (qV σ0.length (P ++ [k]))):=fun c=>by
   rw[List.getElem?_append_left (by trivial)]
   show(σ0++_)[σ0.length]? = _
   rw[List.getElem?_append_right (Nat.le_refl _),Nat.sub_self];rfl
  have fin:pre ++ [aO.list (ju (gl s cn k))]=ou σ0 (P ++ [k]) (gl s cn):=by
   unfold ou
   show σ0++_++_=_
   rw[List.append_assoc,List.map_append];rfl
  have lk:f7 (k:Nat) (qV σ0.length (P ++ [k]))=some (.cell pre.length):=by
   rw[pl]
   exact tw (List.nodup_append.mp hn).1 (by rw[List.getElem?_append_right (Nat.le_refl _),Nat.sub_self];rfl)
  -- a new list
  have s1:setCell (ou σ0 P (gl s cn) ++ [.list []]) σ0.length (.int k) (.cell (ou σ0 P (gl s cn)).length)=some (pre ++ [.list []]):=by
   rw[nX (D:=qV σ0.length P) (by rw[List.getElem?_append_left (by rw[wU];trivial)];exact E3 ..) (by unfold qV;rw[List.length_map,List.length_zipIdx];trivial)]
   have hset:t8 (qV σ0.length P) (k:Nat) (.cell (ou σ0 P (gl s cn)).length)=qV σ0.length (P ++ [k]):=by
    unfold t8
    rw[if_neg,Es,wU]
    intro e
    obtain⟨p,hp,e⟩:=List.any_eq_true.mp e
    exact Gv hkP (List.mem_map.mpr ⟨p,hp,eq_of_beq e⟩)
   rw[hset]
   unfold ou
   rw[List.append_assoc,List.set_append_right _ _ (Nat.le_refl _),Nat.sub_self]
   show some (σ0++aO.dicti _::_)=some (σ0++_++_)
   rw[List.append_assoc];rfl
  have body:H9 [.cell q,.list WL,.list (dI cn),.cell σ0.length,.int k,x5,x6,x7,x8,.unbound,.unbound,.unbound] (ou σ0 P (gl s cn))=some (.next,[.cell q,.list WL,.list (dI cn),.cell σ0.length,.int k,.int (-1),x6,x7,x8,.unbound,.unbound,.unbound],ou σ0 (P ++ [k]) (gl s cn)):=by
   unfold H9
   refine(gm (η' := [.cell q,.list WL,.list (dI cn),.cell σ0.length,.int k,x5,x6,x7,x8,.unbound,.unbound,.unbound]) (σ2:=pre ++ [.list []]) (ve aJ rfl) ?_).trans ?_
   ·show o1 (setCell (ou σ0 P (gl s cn) ++ [.list []]) σ0.length (.int k) (.cell (ou σ0 P (gl s cn)).length)) _=_
    rw[s1];rfl
   refine(bv (ax rfl rfl (uu S (preq _) hk)) (by show 5<12;decide)).trans ?_
   show kS (eY 100 Cs Ct [.cell q,.list WL,.list (dI cn),.cell σ0.length,.int k,.int (rT s k),x6,x7,x8,.unbound,.unbound,.unbound] (pre ++ [.list []])) aM=_
   by_cases h0:k=0
   ·have:gl s cn k = []:=by rw[h0];rfl
    have f:=fin
    rw[this]at f
    rw[show rT s k = -1 from if_pos h0,← f];rfl
   ·have e:rT s k=((cK s k:Nat):Int):=if_neg h0
    have hp:=S.par k (by trivial) hk
    have hab:(cK s k::eK s 6 (cK s k)).filter (fun x=>decide (x∈cn))=gl s cn k:=by
     unfold gl
     show _=(if k=0 then[]else cK s k::eK s 6 (cK s k)).filter _
     rw[if_neg h0]
    rw[e,I7 S preq preD lk 6 (cK s k) 100 [] (by trivial) (by trivial) (by trivial) (by show 0+_≤_;trivial),hab,List.nil_append,fin];rfl
  rw[body,eP]
  exact hx
end
end
section
theorem lw{α:Type}{η:be}{σ σ1:St}{mi:MI}{e:ME}{t:MT}{b:α→aA}{u:α→be}{own:List Nat}(as:List α)(p:α→Bool)(f:α→AV)(hmi:mi η σ=some (as.map b,σ1))(hu:own.all (dk η)=true)(hb:∀a∈as,b a η σ1=some (u a,σ1))(ht:∀a∈as,t (u a) σ1=some (p a,σ1))
  (he:∀a∈as,p a=true→e (u a) σ1=some (f a,σ1)) (hl:as.length≤16777216):aK own mi (bA t (ay e)) η σ=some (.list ((as.filter p).map f),σ1):=by
 unfold aK eQ
 rw[if_pos hu,hmi]
 show oB (dE (as.map b) (bA t (ay e)) η σ1 (.list [])) _=_
 rw[mY as [] hb ht he (by rw[List.length_nil];trivial)]
 rfl
structure qX(σ0 σ:St)(cn:List Nat)(ab:Nat→List Nat):Prop where
 old:∀i,i<σ0.length→σ[i]? = σ0[i]?
 dic:σ[σ0.length]? = some (.dicti (qV σ0.length cn))
 row:∀i k,cn[i]? = some k→∃c,σ[σ0.length+1+i]? = some c∧lF c=some (ju (ab k))∧eR c=some (.list (ju (ab k)))
section
variable{σ0 σ:St}{cn:List Nat}{ab:Nat→List Nat}{k:Nat}
theorem qX.start:qX σ0 (ou σ0 cn ab) cn ab where
 old:=fun i hi=>by unfold ou;rw[List.getElem?_append_left hi]
 dic:=E3 ..
 row:=fun i k h=>by
  refine⟨.list (ju (ab k)),?_,rfl,rfl⟩
  unfold ou
  rw[List.getElem?_append_right (by trivial),show σ0.length+1+i - σ0.length=i+1 by trivial,List.getElem?_cons_succ,List.getElem?_map,h];rfl
theorem uL{l:List Nat}{k:Nat}(h:k∈l):∃i:Nat,l[i]? = some k:=List.getElem?_of_mem h
theorem qX.item(A:qX σ0 σ cn ab)(hn:cn.Nodup){i:Nat}(h:cn[i]? = some k):aZ (.cell σ0.length) (.int k) σ=some (.cell (σ0.length+1+i),σ):=G8 A.dic (tw hn h)
theorem qX.view(A:qX σ0 σ cn ab){i:Nat}(h:cn[i]? = some k):cA σ (.cell (σ0.length+1+i))=some (ju (ab k)):=by
 obtain⟨c,h1,h2,_⟩:=A.row i k h
 show o1 σ[σ0.length+1+i]? lF=_
 rw[h1];exact h2
theorem qX.freeze(A:qX σ0 σ cn ab){i:Nat}(h:cn[i]? = some k):∃σ',Ci (.cell (σ0.length+1+i)) σ=(.list (ju (ab k)),σ')∧qX σ0 σ' cn ab:=by
 obtain⟨c,h1,h2,h3⟩:=A.row i k h
 refine⟨σ.set (σ0.length+1+i) (.dead (.list (ju (ab k)))),?_,fun j hj => ?_,?_,fun j x hx => ?_⟩
 ·show yb _ σ (o1 σ[σ0.length+1+i]? eR)=_
  rw[h1,Dq,h3];rfl
 ·rw[List.getElem?_set_ne (by trivial)];exact A.old j hj
 ·rw[List.getElem?_set_ne (by trivial)];exact A.dic
 ·by_cases e:i=j
  ·rw[e]at h h1 ⊢
   have:x=k:=Option.some.inj (hx.symm.trans h)
   rw[this]
   exact⟨_,List.getElem?_set_self (List.getElem?_eq_some_iff.mp h1).1,rfl,rfl⟩
  ·rw[List.getElem?_set_ne (by trivial)];exact A.row j x hx
variable(W:Nat→Int)
noncomputable def kQ:List AV:=(List.range 7).map fun i=>AV.int (W i)
noncomputable def l9(ab:Nat→List Nat)(k:Nat):Int:=W k+((ab k).map W).sum
noncomputable def iX(cn:List Nat)(ab:Nat→List Nat)(k:Nat):List Nat:=cn.filter fun x=>decide ((ab x).take 1 = [k])
noncomputable def Ef(cn:List Nat)(ab:Nat→List Nat)(k:Nat):Int:=((cn.filter fun x=>decide (k∈ab x)).map W).sum
noncomputable def fv(cn:List Nat)(ab:Nat→List Nat)(k:Nat):Int:=W k * (if iX cn ab k = []then 1 else l9 W ab k ^ ((iX cn ab k).length - 1) * (if k=0 then 1 else l9 W ab k+Ef W cn ab k))
theorem uI{x y:Int}{a b:Nat}(hx:x.natAbs≤2 ^ a)(hy:y.natAbs≤2 ^ b):(x * y).natAbs≤2 ^ (a+b):=by
 rw[Int.natAbs_mul,Nat.pow_add];exact Nat.mul_le_mul hx hy
theorem ll{x:Int}{B:Nat}(h:x.natAbs≤2 ^ B)(hB:B<8000):kK x=true:=qf (B:=B+1) (Nat.lt_of_le_of_lt h (Nat.pow_lt_pow_right (by decide) (Nat.lt_succ_self _))) hB
theorem zv(hW:∀i,i<7→(W i).natAbs≤9):∀l:List Nat,(∀x∈l,x<7)→((l.map W).sum).natAbs≤9 * l.length:=by
 intro l₀
 induction l₀ with
 | nil =>
  intro _
  exact Nat.le_refl _
 | cons x r ih₀ =>
  intro h
  have h1:=ih₀ fun y hy=>h y (List.mem_cons_of_mem _ hy)
  have h2:=hW x (h x List.mem_cons_self)
  rw[List.map_cons,List.sum_cons,List.length_cons]
  have:=Int.natAbs_add_le (W x) ((r.map W).sum)
  trivial
structure tD(cn:List Nat)(ab:Nat→List Nat):Prop where
 w:∀i,i<7→(W i).natAbs≤9
 nd:cn.Nodup
 c7:∀k∈cn,k<7
 cl:cn.length≤7
 a7:∀k∈cn,∀x∈ab k,x<7
 al:∀k∈cn,(ab k).length≤7
variable{W}
theorem HC(P:tD W cn ab)(hk:k∈cn):(l9 W ab k).natAbs≤2 ^ 7:=by
 have h1:=P.w k (P.c7 k hk)
 have h2:=zv W P.w (ab k) (P.a7 k hk)
 have h3:=P.al k hk
 have:=Int.natAbs_add_le (W k) (((ab k).map W).sum)
 unfold l9
 trivial
theorem HQ(P:tD W cn ab):(Ef W cn ab k).natAbs≤63:=by
 have h2:=zv W P.w (cn.filter fun x=>decide (k∈ab x)) fun x hx=>P.c7 x (List.mem_filter.mp hx).1
 have h3:=List.length_filter_le (fun x=>decide (k∈ab x)) cn
 have h4:=P.cl
 unfold Ef
 trivial
theorem FL{x:Int}(h:x.natAbs≤2 ^ 7)(e:Nat)(he:e≤6):(x ^ e).natAbs≤2 ^ 42:=by
 rw[Int.natAbs_pow]
 refine Nat.le_trans (Nat.pow_le_pow_left h e) ?_
 rw[← Nat.pow_mul]
 exact Nat.pow_le_pow_right (by decide) (by trivial)
noncomputable def Iy:ME:=ap .Add (ao (mV 1) (mV 4)) (au (aa (aK [9] (aN (gC (ao (mV 3) (mV 4))) (aV 9)) (bA (tK true) (ay (ao (mV 1) (mV 9))))) ak) jL)
noncomputable def Ix:ME:=aK [10] (aN (mV 2) (aV 10)) (bA (aW .Eq (fu (ao (mV 3) (mV 10)) (mK .none) (mK (.int 1)) (mK .none)) (bz (aa (mV 4) ak))) (ay (mV 10)))
noncomputable def H7:ME:=aK [11] (aN (mV 2) (aV 11)) (bA (aW .In (mV 4) (ao (mV 3) (mV 11))) (ay (ao (mV 1) (mV 11))))
noncomputable def H8:MS:=ae (aX (ap .Mult (mV 6) (ao (mV 1) (mV 4))) (aV 6)) (ae (aX Iy (aV 7)) (ae (aX Ix (aV 8)) (ae (gI (aW .NotEq (mV 8) (bz ak)) (ae (aX (ap .Mult (mV 6) (ap .Pow (mV 7) (ap .Sub (au (aa (mV 8) ak) dH) (mK (.int 1))))) (aV 6)) (ae (gI (aW .NotEq (mV 4) (mK (.int 0))) (ae (aX (ap .Mult (mV 6) (ap .Add (mV 7) (au (aa H7 ak) jL))) (aV 6)) aM) aM) aM)) aM) aM)))
theorem q8{x:Nat}(h:x<7)(σ:St):aZ (.list (kQ W)) (.int x) σ=some (.int (W x),σ):=dp x (cW (fun i=>AV.int (W i)) h) (Nat.le_trans ‹_› (Nat.le_of_ble_eq_true rfl))
variable{q:Nat}{x5 x6 x7 x8:AV}
theorem Dy(A:qX σ0 σ cn ab)(P:tD W cn ab)(hk:k∈cn):∃σ',Iy [.cell q,.list (kQ W),.list (dI cn),.cell σ0.length,.int k,x5,x6,x7,x8,.unbound,.unbound,.unbound] σ=some (.int (l9 W ab k),σ')∧qX σ0 σ' cn ab:=by
 obtain⟨i,hi⟩:=uL hk
 obtain⟨σ',hf,A'⟩:=A.freeze hi
 refine⟨σ',?_,A'⟩
 have hm:gC (ao (mV 3) (mV 4)) [.cell q,.list (kQ W),.list (dI cn),.cell σ0.length,.int k,x5,x6,x7,x8,.unbound,.unbound,.unbound] σ=some (.list (ju (ab k)),σ'):=by
  unfold gC
  rw[ax (m:=mV 3) (n:=mV 4) rfl rfl (A.item P.nd hi),cP,hf]
 have hc:=lw (own := [9]) (e:=ao (mV 1) (mV 9)) (t:=tK true) (b:=fun(x:Nat)=>aV 9 (.int x)) (u:=fun(x:Nat)=>([.cell q,.list (kQ W),.list (dI cn),.cell σ0.length,.int k,x5,x6,x7,x8,.int x,.unbound,.unbound]:be)) (mi:=aN (gC (ao (mV 3) (mV 4))) (aV 9)) (ab k) (fun ω=>true) (fun x=>.int (W x)) (η := [.cell q,.list (kQ W),.list (dI cn),.cell σ0.length,.int k,x5,x6,x7,x8,.unbound,.unbound,.unbound]) (σ:=σ) (σ1:=σ')
  (by
   show oB (gC (ao (mV 3) (mV 4)) _ σ) _=_
   rw[hm,cP]
   show some ((ju (ab k)).map (aV 9),σ')=_
   unfold ju;rw[List.map_map];rfl) rfl (fun ω ω=>rfl) (fun ω ω=>rfl) (fun x hx ω=>ax rfl rfl (q8 (P.a7 k hk x hx) _)) (by have:=P.al k hk;trivial)
 rw[iB]at hc
 have hs:jL [.list ((ab k).map fun x=>.int (W x))] σ'=some (.int ((ab k).map W).sum,σ'):=by
  have:=we (σ:=σ') (l:=(ab k).map W)
  rw[List.map_map]at this;exact this
 exact aE (ax rfl rfl (q8 (P.c7 k hk) _)) (bc (am hc aJ) hs) rfl
theorem zr(L:List Nat)(k:Nat):bW .Eq (.list ((ju L).take 1)) (.list [.int (k:Nat)]) σ=some (.bool (decide (L.take 1 = [k])),σ):=by
 cases L with
 | nil=>rfl
 | cons y r =>
  show some (AV.bool (((y:Nat):Int)==((k:Nat):Int)&&true),σ)=_
  rw[eG,Bool.and_true]
  show _=some (AV.bool (decide ([y] = [k])),σ)
  congr 3
  exact decide_eq_decide.mpr ⟨fun e=>by rw[e],fun e=>by injection e⟩
theorem Dx(A:qX σ0 σ cn ab)(P:tD W cn ab):Ix [.cell q,.list (kQ W),.list (dI cn),.cell σ0.length,.int k,x5,x6,x7,x8,.unbound,.unbound,.unbound] σ=some (.list (dI (iX cn ab k)),σ):=by
 refine lw (own := [10]) (b:=fun(x:Nat)=>aV 10 (.int x)) (u:=fun(x:Nat)=>([.cell q,.list (kQ W),.list (dI cn),.cell σ0.length,.int k,x5,x6,x7,x8,.unbound,.int x,.unbound]:be)) cn (fun x=>decide ((ab x).take 1 = [k])) (fun(x:Nat)=>.int x)
  (by
   show some ((dI cn).map (aV 10),σ)=_
   unfold dI;rw[List.map_map];rfl) rfl (fun ω ω=>rfl) (fun x hx => ?_) (fun x hx ω=>rfl) (by have:=P.cl;trivial)
 obtain⟨i,hi⟩:=uL hx
 have hsl:ci (.cell (σ0.length+1+i)) .none (.int 1) .none σ=some (.list ((ju (ab x)).take 1),σ):=by
  have hl:(ju (ab x)).length=(ab x).length:=List.length_map ..
  have:=P.al x hx
  unfold ci
  rw[A.view hi]
  show(if decide ((none:Option Int)=none)&&dX (ju (ab x)).length then some (AV.list (slc (ju (ab x)) none (some 1)),σ)else none)=_
  rw[if_pos (by rw[hl,cE (Nat.le_trans ‹_› (Nat.le_of_ble_eq_true rfl))];rfl)]
  have hc:clipAt (ju (ab x)).length 1 - 0=min 1 (ju (ab x)).length:=by unfold clipAt;trivial
  show some (AV.list (((ju (ab x)).drop 0).take (clipAt (ju (ab x)).length 1 - 0)),σ)=_
  rw[hc,List.drop_zero]
  cases ju (ab x) <;> rfl
 exact aB (gK (ax rfl rfl (A.item P.nd hi)) rfl rfl hsl) (vf (am rfl aJ) rfl) (zr _ _)
theorem AE(A:qX σ0 σ cn ab)(P:tD W cn ab):au (aa H7 ak) jL [.cell q,.list (kQ W),.list (dI cn),.cell σ0.length,.int k,x5,x6,x7,x8,.unbound,.unbound,.unbound] σ=some (.int (Ef W cn ab k),σ):=by
 have hc:H7 [.cell q,.list (kQ W),.list (dI cn),.cell σ0.length,.int k,x5,x6,x7,x8,.unbound,.unbound,.unbound] σ=some (.list ((cn.filter fun x=>decide (k∈ab x)).map fun x=>.int (W x)),σ):=by
  refine lw (own := [11]) (b:=fun(x:Nat)=>aV 11 (.int x)) (u:=fun(x:Nat)=>([.cell q,.list (kQ W),.list (dI cn),.cell σ0.length,.int k,x5,x6,x7,x8,.unbound,.unbound,.int x]:be)) cn (fun x=>decide (k∈ab x)) (fun x=>.int (W x))
   (by
    show some ((dI cn).map (aV 11),σ)=_
    unfold dI;rw[List.map_map];rfl) rfl (fun ω ω=>rfl) (fun x hx => ?_) (fun x hx ω=>ax rfl rfl (q8 (P.c7 x hx) _)) (by have:=P.cl;trivial)
  obtain⟨i,hi⟩:=uL hx
  refine aB rfl (ax rfl rfl (A.item P.nd hi)) ?_
  show gG (xv σ (.int k) (.cell (σ0.length+1+i))) σ=_
  unfold xv
  rw[A.view hi]
  show gG (ke (de 8) (.int k) ((ab x).map fun(x:Nat)=>AV.int x)) σ=_
  rw[nE];rfl
 have hs:=we (σ:=σ) (l:=(cn.filter fun x=>decide (k∈ab x)).map W)
 rw[List.map_map]at hs
 exact bc (am hc aJ) hs
theorem Dz(A:qX σ0 σ cn ab)(P:tD W cn ab)(hk:k∈cn)(p:Int){B:Nat}(hp:p.natAbs≤2 ^ B)(hB:B≤7000):∃σ' x7' x8',H8 [.cell q,.list (kQ W),.list (dI cn),.cell σ0.length,.int k,x5,.int p,x7,x8,.unbound,.unbound,.unbound] σ=some (.next,[.cell q,.list (kQ W),.list (dI cn),.cell σ0.length,.int k,x5,.int (p * fv W cn ab k),x7',x8',.unbound,.unbound,.unbound],σ')∧qX σ0 σ' cn ab∧(p * fv W cn ab k).natAbs≤2 ^ (B+54):=by
 have k7:=P.c7 k hk
 have w4:(W k).natAbs≤2 ^ 4:=Nat.le_trans (P.w k k7) (by decide)
 have m1:=uI hp w4
 obtain⟨σ',hd,A'⟩:=Dy (q:=q) (x5:=x5) (x6:=.int (p * W k)) (x7:=x7) (x8:=x8) A P hk
 have hnx:=Dx (q:=q) (x5:=x5) (x6:=.int (p * W k)) (x7:=.int (l9 W ab k)) (x8:=x8) (k:=k) A' P
 have dn:=HC P hk
 have nl:(iX cn ab k).length≤7:=Nat.le_trans (List.length_filter_le ..) P.cl
 have up:∀{x:Int} {a b:Nat},x.natAbs≤2 ^ a→a≤b→x.natAbs≤2 ^ b:=fun h hab=>Nat.le_trans h (Nat.pow_le_pow_right (by decide) hab)
 have s1:=aE (o:=.Mult) (m:=mV 6) (n:=ao (mV 1) (mV 4)) (η := [.cell q,.list (kQ W),.list (dI cn),.cell σ0.length,.int k,x5,.int p,x7,x8,.unbound,.unbound,.unbound]) (σ:=σ) rfl (ax rfl rfl (q8 k7 _)) (jq (ll hp (by trivial)) (ll w4 (by trivial)))
 have u0:∀R,ae (aX (ap .Mult (mV 6) (ao (mV 1) (mV 4))) (aV 6)) (ae (aX Iy (aV 7)) (ae (aX Ix (aV 8)) R)) [.cell q,.list (kQ W),.list (dI cn),.cell σ0.length,.int k,x5,.int p,x7,x8,.unbound,.unbound,.unbound] σ=R [.cell q,.list (kQ W),.list (dI cn),.cell σ0.length,.int k,x5,.int (p * W k),.int (l9 W ab k),.list (dI (iX cn ab k)),.unbound,.unbound,.unbound] σ':=fun R =>
  (bv s1 (by show 6<12;decide)).trans ((bv hd (by show 7<12;decide)).trans (bv hnx (by show 8<12;decide)))
 unfold H8
 rw[u0]
 by_cases hnb:iX cn ab k = []
 ·refine⟨σ',.int (l9 W ab k),.list (dI (iX cn ab k)),?_,A',?_⟩
  ·have:fv W cn ab k=W k:=by unfold fv;rw[if_pos hnb,Int.mul_one]
   rw[this,hnb]
   exact(cS (aB rfl rfl rfl)).trans rfl
  ·unfold fv;rw[if_pos hnb,Int.mul_one];exact up m1 (by trivial)
 ·have hne:bW .NotEq (.list (dI (iX cn ab k))) (.list []) σ'=some (.bool true,σ'):=by
   cases h:iX cn ab k with
   | nil=>exact absurd h hnb
   | cons=>rfl
  have hlen:dH [.list (dI (iX cn ab k))] σ'=some (.int ((iX cn ab k).length:Nat),σ'):=by
   have:=je (σ:=σ') (xs:=dI (iX cn ab k)) (by unfold dI;rw[List.length_map];trivial)
   unfold dI at this
   rwa [List.length_map]at this
  have hpos:1≤(iX cn ab k).length:=by cases h:iX cn ab k with | nil=>exact absurd h hnb | cons=>exact Nat.succ_le_succ (Nat.zero_le _)
  have hpow:bF .Pow (.int (l9 W ab k)) (.int (((iX cn ab k).length:Nat) - 1)) σ'=some (.int (l9 W ab k ^ ((iX cn ab k).length - 1)),σ'):=by
   rw[BN (by trivial) (by trivial) (by trivial)]
   congr 4;trivial
  have pw:=FL dn ((iX cn ab k).length - 1) (by trivial)
  have m2:=uI m1 pw
  have a1:=aE (o:=.Mult) (m:=mV 6) (n:=ap .Pow (mV 7) (ap .Sub (au (aa (mV 8) ak) dH) (mK (.int 1)))) (η := [.cell q,.list (kQ W),.list (dI cn),.cell σ0.length,.int k,x5,.int (p * W k),.int (l9 W ab k),.list (dI (iX cn ab k)),.unbound,.unbound,.unbound]) (σ:=σ') rfl (aE rfl (aE (bc (am rfl aJ) hlen) rfl rfl) hpow) (jq (ll m1 (by trivial)) (ll pw (by trivial)))
  have ek:=eG k 0
  by_cases h0:k=0
  ·have hfac:p * fv W cn ab k=p * W k * l9 W ab k ^ ((iX cn ab k).length - 1):=by
    unfold fv;rw[if_neg hnb,if_pos h0,Int.mul_one,Int.mul_assoc]
   refine⟨σ',.int (l9 W ab k),.list (dI (iX cn ab k)),?_,A',?_⟩
   ·rw[hfac]
    exact(lA (aB rfl rfl hne) ((bv a1 (by show 6<12;decide)).trans (cS (R:=aM) (aB rfl rfl ((px).trans (by rw[show(0:Int)=((0:Nat):Int)from rfl,ek,decide_eq_true h0];rfl)))))).trans rfl
   ·rw[hfac];exact up m2 (by trivial)
  ·have hfac:p * fv W cn ab k=p * W k * l9 W ab k ^ ((iX cn ab k).length - 1) * (l9 W ab k+Ef W cn ab k):=by
    unfold fv;rw[if_neg hnb,if_neg h0,← Int.mul_assoc,← Int.mul_assoc]
   have bl:=HQ (k:=k) P
   have b8:(l9 W ab k+Ef W cn ab k).natAbs≤2 ^ 8:=by
    have:=Int.natAbs_add_le (l9 W ab k) (Ef W cn ab k)
    trivial
   have m3:=uI m2 b8
   have hb:=AE (q:=q) (x5:=x5) (x6:=.int (p * W k * l9 W ab k ^ ((iX cn ab k).length - 1))) (x7:=.int (l9 W ab k)) (x8:=.list (dI (iX cn ab k))) (k:=k) A' P
   have a2:=aE (o:=.Mult) (m:=mV 6) (n:=ap .Add (mV 7) (au (aa H7 ak) jL)) (η := [.cell q,.list (kQ W),.list (dI cn),.cell σ0.length,.int k,x5,.int (p * W k * l9 W ab k ^ ((iX cn ab k).length - 1)),.int (l9 W ab k),.list (dI (iX cn ab k)),.unbound,.unbound,.unbound]) (σ:=σ') rfl (aE rfl hb rfl) (jq (ll m2 (by trivial)) (ll b8 (by trivial)))
   refine⟨σ',.int (l9 W ab k),.list (dI (iX cn ab k)),?_,A',?_⟩
   ·rw[hfac]
    exact(lA (aB rfl rfl hne) ((bv a1 (by show 6<12;decide)).trans (lA (R:=aM) (aB rfl rfl ((px).trans (by rw[show(0:Int)=((0:Nat):Int)from rfl,ek,decide_eq_false h0];rfl))) ((bv (R:=aM) a2 (by show 6<12;decide)).trans rfl)))).trans rfl
   ·rw[hfac];exact up m3 (by trivial)
theorem rH(P:tD W cn ab):∀(L:List Nat) (p:Int) (B:Nat) (σ:St) (x4 x7 x8:AV),(∀k∈L,k∈cn)→p.natAbs≤2 ^ B→B+54 * L.length≤7000→qX σ0 σ cn ab →
  ∃σ' x4' x7' x8',d9 (L.map fun(k:Nat)=>aV 4 (.int k)) H8 [.cell q,.list (kQ W),.list (dI cn),.cell σ0.length,x4,x5,.int p,x7,x8,.unbound,.unbound,.unbound] σ=some (.next,[.cell q,.list (kQ W),.list (dI cn),.cell σ0.length,x4',x5,.int (L.foldl (fun p k=>p * fv W cn ab k) p),x7',x8',.unbound,.unbound,.unbound],σ')∧qX σ0 σ' cn ab:=by
 intro L
 induction L with
 | nil=>intro p B σ x4 x7 x8 _ _ _ A;exact⟨σ,x4,x7,x8,rfl,A⟩
 | cons k L ih =>
  intro p B σ x4 x7 x8 hL hp hB A
  rw[List.length_cons]at hB
  obtain⟨σ1,y7,y8,e1,A1,hp1⟩:=Dz (q:=q) (x5:=x5) (x7:=x7) (x8:=x8) A P (hL k List.mem_cons_self) p hp (by trivial)
  obtain⟨σ2,z4,z7,z8,e2,A2⟩:=ih (p * fv W cn ab k) (B+54) σ1 (.int k) y7 y8 (fun j hj=>hL j (List.mem_cons_of_mem _ hj)) hp1 (by trivial) A1
  refine⟨σ2,z4,z7,z8,?_,A2⟩
  rw[List.map_cons]
  unfold d9
  show oB (some (([.cell q,.list (kQ W),.list (dI cn),.cell σ0.length,.int k,x5,.int p,x7,x8,.unbound,.unbound,.unbound]:be),σ)) _=_
  rw[cP,e1,eP,e2];rfl
end
theorem qN{s:List Nat}(S:c9 s):∀(n k:Nat),k<7→(eK s n k).length≤k∧∀x∈eK s n k,x<7:=by
 intro l₀
 induction l₀ with
 | zero =>
  intro k _
  exact⟨Nat.zero_le _,fun x hx=>nomatch hx⟩
 | succ n ih₀ =>
  intro k hk
  unfold eK
  by_cases h:k=0
  ·rw[if_pos h];exact⟨Nat.zero_le _,fun x hx=>nomatch hx⟩
  ·rw[if_neg h]
   have hp:=S.par k (Nat.pos_of_ne_zero ‹_›) hk
   obtain⟨h1,h2⟩:=ih₀ (cK s k) (by trivial)
   refine⟨by rw[List.length_cons];trivial,fun x hx => ?_⟩
   rcases List.mem_cons.mp hx with e | hx
   ·rw[e];trivial
   ·exact h2 x hx
theorem n9{s:List Nat}(S:c9 s){cn:List Nat}{W:Nat→Int}(hW:∀i,i<7→(W i).natAbs≤9)(hn:cn.Nodup)(h7:∀k∈cn,k<7)(hl:cn.length≤7){σ:St}{q:Nat}(hq:σ[q]? = some (.list (iO s))) :
  ∃σ',dN [.cell q,.list (kQ W),.list (dI cn)] σ=some (.int (cn.foldl (fun p k=>p * fv W cn (gl s cn) k) 1),σ'):=by
 have P:tD W cn (gl s cn):=⟨hW,hn,h7,hl,fun k hk x hx=>(qN S 7 k (h7 k hk)).2 x (List.mem_filter.mp hx).1,fun k hk=>by
  have h1:=(qN S 7 k (h7 k hk)).1
  have h2:=h7 k hk
  exact Nat.le_trans (List.length_filter_le ..) (by trivial)⟩
 obtain⟨y4,y5,e1⟩:=u5 (WL:=kQ W) (cn:=cn) (x6:=.unbound) (x7:=.unbound) (x8:=.unbound) S hq cn [] .unbound .unbound (by rw[List.nil_append];exact hn) h7 (by rw[List.length_nil];trivial)
 rw[List.nil_append]at e1
 obtain⟨σ2,z4,z7,z8,e2,A2⟩:=rH (q:=q) (x5:=y5) P cn 1 0 (ou σ cn (gl s cn)) y4 .unbound .unbound (fun ω h=>h) (by decide) (by trivial) qX.start
 refine⟨σ2,?_⟩
 have it:∀(η:be) (σ:St),η[2]? = some (.list (dI cn))→aN (mV 2) (aV 4) η σ=some (cn.map fun(k:Nat)=>aV 4 (.int k),σ):=fun η σ h=>gD (g:=fun(k:Nat)=>AV.int k) (IL h rfl) rfl
 refine ph rfl ?_
 refine st (bv (a:=.cell σ.length) (σ1:=σ ++ [.dicti []]) rfl (by show 3<12;decide)) ?_
 show gw (ae (gV (aN (mV 2) (aV 4)) H9) (ae (aX (mK (.int 1)) (aV 6)) (ae (gV (aN (mV 2) (aV 4)) H8) (ae (dF (mV 6)) aM))) [.cell q,.list (kQ W),.list (dI cn),.cell σ.length,.unbound,.unbound,.unbound,.unbound,.unbound,.unbound,.unbound,.unbound] (ou σ [] (gl s cn)))=_
 exact st (me (it _ _ rfl) e1) (st (bv rfl (by show 6<12;decide)) (st (me (it _ _ rfl) e2) (st (eX rfl) rfl)))
end
section
noncomputable def Fo.app:Fo→Fo→Fo
 | .nil,H=>H
 | .node k G F,H=>.node k G (F.app H)
noncomputable def Fo.filt(p:Nat→Bool):Fo→Fo
 | .nil=>.nil
 | .node k G F=>if p k then .node k (G.filt p) (F.filt p)else(G.filt p).app (F.filt p)
noncomputable def bg:Fo→List Nat→List (Nat×List Nat)
 | .nil,_ => []
 | .node k G F,acc=>(k,acc)::(bg G (k::acc)++bg F acc)
theorem gy:∀(F:Fo) (acc:List Nat),(bg F acc).map (·.1)=F.nd:=by
 intro l₀
 induction l₀ with
 | nil =>
  intro _
  exact rfl
 | node k G F ih₀ ih₁ =>
  intro acc
  show k::((bg G (k::acc)++bg F acc).map (·.1))=k::(G.nd++F.nd)
  rw[List.map_append,ih₀,ih₁]
theorem F0:∀(F H:Fo),(F.app H).nd=F.nd++H.nd:=by
 intro l₀
 induction l₀ with
 | nil =>
  intro _
  exact rfl
 | node k G F ih₀ ih₁ =>
  intro H
  show k::(G.nd++(F.app H).nd)=k::(G.nd++F.nd)++H.nd
  rw[ih₁ H,List.cons_append,List.append_assoc]
theorem BZ:∀(F H:Fo) (acc:List Nat),bg (F.app H) acc=bg F acc++bg H acc:=by
 intro l₀
 induction l₀ with
 | nil =>
  intro _ _
  exact rfl
 | node k G F ih₀ ih₁ =>
  intro H acc
  show(k,acc)::(bg G (k::acc)++bg (F.app H) acc)=(k,acc)::(bg G (k::acc)++bg F acc)++bg H acc
  rw[ih₁ H,List.cons_append,List.append_assoc]
theorem Ds(p:Nat→Bool):∀F:Fo,(F.filt p).nd=F.nd.filter p:=by
 intro l₀
 induction l₀ with
 | nil =>
  exact rfl
 | node k G F ih₀ ih₁ =>
  show(if p k then Fo.node k (G.filt p) (F.filt p)else(G.filt p).app (F.filt p)).nd=(k::(G.nd++F.nd)).filter p
  rw[List.filter_cons,List.filter_append]
  cases p k with
  | true=>show k::((G.filt p).nd++(F.filt p).nd)=_;rw[ih₀,ih₁];rfl
  | false=>show((G.filt p).app (F.filt p)).nd=_;rw[F0,ih₀,ih₁];rfl
theorem yw(p:Nat→Bool):∀(F:Fo) (acc:List Nat),bg (F.filt p) (acc.filter p)=((bg F acc).filter fun q=>p q.1).map fun q=>(q.1,q.2.filter p):=by
 intro l₀
 induction l₀ with
 | nil =>
  intro _
  exact rfl
 | node k G F ih₀ ih₁ =>
  intro acc
  show bg (if p k then Fo.node k (G.filt p) (F.filt p)else(G.filt p).app (F.filt p)) (acc.filter p)=(((k,acc)::(bg G (k::acc)++bg F acc)).filter fun q=>p q.1).map fun q=>(q.1,q.2.filter p)
  rw[List.filter_cons,List.filter_append]
  have iG:=ih₀ (k::acc)
  have iF:=ih₁ acc
  cases hk:p k with
  | true =>
   rw[List.filter_cons,if_pos hk]at iG
   show(k,acc.filter p)::(bg (G.filt p) (k::acc.filter p)++bg (F.filt p) (acc.filter p))=_
   rw[iG,iF,if_pos rfl,List.map_cons,List.map_append]
  | false =>
   rw[List.filter_cons,if_neg (by rw[hk];decide)]at iG
   show bg ((G.filt p).app (F.filt p)) (acc.filter p)=_
   rw[BZ,iG,iF,if_neg (by decide),List.map_append]
theorem C6:∀(F H:Fo) (i j:Nat),(F.app H).rel i j=(F.rel i j||H.rel i j):=by
 intro l₀
 induction l₀ with
 | nil =>
  intro _ _ _
  exact rfl
 | node k G F ih₀ ih₁ =>
  intro H i j
  show((i==k&&G.nd.contains j)||(j==k&&G.nd.contains i)||G.rel i j||(F.app H).rel i j)=(((i==k&&G.nd.contains j)||(j==k&&G.nd.contains i)||G.rel i j||F.rel i j)||H.rel i j)
  rw[ih₁ H];simp only[Bool.or_assoc]
theorem pp{p:Nat→Bool}{l:List Nat}{j:Nat}(h:p j=true):(l.filter p).contains j=l.contains j:=by
 rw[Bool.eq_iff_iff,List.contains_iff_mem,List.contains_iff_mem,List.mem_filter]
 exact⟨fun q=>q.1,fun q=>⟨q,h⟩⟩
theorem zQ{p:Nat→Bool}{i j:Nat}(hi:p i=true)(hj:p j=true):∀F:Fo,(F.filt p).rel i j=F.rel i j:=by
 intro l₀
 induction l₀ with
 | nil =>
  exact rfl
 | node k G F ih₀ ih₁ =>
  show(if p k then Fo.node k (G.filt p) (F.filt p)else(G.filt p).app (F.filt p)).rel i j=((i==k&&G.nd.contains j)||(j==k&&G.nd.contains i)||G.rel i j||F.rel i j)
  cases hk:p k with
  | true =>
   show((i==k&&(G.filt p).nd.contains j)||(j==k&&(G.filt p).nd.contains i)||(G.filt p).rel i j||(F.filt p).rel i j)=_
   rw[Ds,pp hi,pp hj,ih₀,ih₁]
  | false =>
   have e1:(i==k)=false:=beq_eq_false_iff_ne.mpr fun e=>by rw[e,hk]at hi;exact Bool.noConfusion hi
   have e2:(j==k)=false:=beq_eq_false_iff_ne.mpr fun e=>by rw[e,hk]at hj;exact Bool.noConfusion hj
   show((G.filt p).app (F.filt p)).rel i j=_
   rw[C6,ih₀,ih₁,e1,e2,Bool.false_and,Bool.false_and,Bool.false_or,Bool.false_or]
noncomputable def eA(k:Nat)(E:List (Nat×List Nat)):Nat:=(E.filter fun p=>decide (p.2.take 1 = [k])).length
section
variable(w:Nat→Int)
noncomputable def fY(k:Nat)(E:List (Nat×List Nat)):Int:=((E.filter fun p=>decide (k∈p.2)).map fun p=>w p.1).sum
noncomputable def cT{α:Type}(l:List α)(f:α→Int):Int:=l.foldr (fun a p=>f a * p) 1
noncomputable def Gh(p:Nat×List Nat):Int:=w p.1+(p.2.map w).sum
noncomputable def jX(E:List (Nat×List Nat))(p:Nat×List Nat):Int:=w p.1 * (if eA p.1 E=0 then 1 else Gh w p ^ (eA p.1 E - 1) * (Gh w p+fY w p.1 E))
theorem xm{α:Type}(f:α→Int):∀a b:List α,cT (a++b) f=cT a f * cT b f:=by
 intro l₀
 induction l₀ with
 | nil =>
  intro b
  exact(Int.one_mul _).symm
 | cons x a ih₀ =>
  intro b
  show f x * cT (a++b) f=f x * cT a f * cT b f
  rw[ih₀ b,Int.mul_assoc]
theorem gW{α:Type}{f g:α→Int} : ∀{l:List α},(∀a∈l,f a=g a)→cT l f=cT l g:=by
 intro l₀
 induction l₀ with
 | nil =>
  intro _
  exact rfl
 | cons x l ih₀ =>
  intro h
  show f x * cT l f=g x * cT l g
  rw[h x List.mem_cons_self,ih₀ fun a ha=>h a (List.mem_cons_of_mem _ ha)]
theorem um{α:Type}{f:α→Int}{l l':List α}(h:l.Perm l'):cT l f=cT l' f:=by
 induction h with
 | nil=>rfl
 | cons x _ ih=>exact congrArg (f x * ·) ih
 | swap x y l=>show f y * (f x * cT l f)=f x * (f y * cT l f);rw[← Int.mul_assoc,Int.mul_comm (f y),Int.mul_assoc]
 | trans _ _ h1 h2=>exact h1.trans h2
theorem xk{α β:Type}(g:α→β)(f:β→Int):∀l:List α,cT (l.map g) f=cT l fun a=>f (g a):=by
 intro l₀
 induction l₀ with
 | nil =>
  exact rfl
 | cons x l ih₀ =>
  show f (g x) * cT (l.map g) f=f (g x) * _;rw[ih₀];rfl
theorem u3{α:Type}(f:α→Int):∀(l:List α) (p:Int),l.foldl (fun p k=>p * f k) p=p * cT l f:=by
 intro l₀
 induction l₀ with
 | nil =>
  intro p
  exact(Int.mul_one p).symm
 | cons x l ih₀ =>
  intro p
  show l.foldl (fun p k=>p * f k) (p * f x)=p * (f x * cT l f)
  rw[ih₀,Int.mul_assoc]
theorem sV(k:Nat)(a b:List (Nat×List Nat)):eA k (a++b)=eA k a+eA k b:=by unfold eA;rw[List.filter_append,List.length_append]
theorem zx(k:Nat)(a b:List (Nat×List Nat)):fY w k (a++b)=fY w k a+fY w k b:=by unfold fY;rw[List.filter_append,List.map_append,List.sum_append]
theorem ji{x:Nat} : ∀(F:Fo) (acc:List Nat),x∉acc→x∉F.nd→∀p∈bg F acc,x∉p.2:=by
 intro l₀
 induction l₀ with
 | nil =>
  intro _ _ _ _ h
  exact nomatch h
 | node k G F ih₀ ih₁ =>
  intro acc h1 h2 p h
  have hk:x≠k:=fun e=>h2 (by rw[e];exact List.mem_cons_self)
  have hG:x∉G.nd:=fun m=>h2 (List.mem_cons_of_mem _ (List.mem_append_left _ m))
  have hF:x∉F.nd:=fun m=>h2 (List.mem_cons_of_mem _ (List.mem_append_right _ m))
  rcases List.mem_cons.mp h with e | h
  ·rw[e];exact h1
  ·rcases List.mem_append.mp h with h | h
   ·exact ih₀ (k::acc) (fun m=>(List.mem_cons.mp m).elim hk h1) hG p h
   ·exact ih₁ acc h1 hF p h
theorem yx{x:Nat} : ∀(F:Fo) (acc:List Nat),x∈acc→∀p∈bg F acc,x∈p.2:=by
 intro l₀
 induction l₀ with
 | nil =>
  intro _ _ _ h
  exact nomatch h
 | node k G F ih₀ ih₁ =>
  intro acc h1 p h
  rcases List.mem_cons.mp h with e | h
  ·rw[e];exact h1
  ·rcases List.mem_append.mp h with h | h
   ·exact ih₀ (k::acc) (List.mem_cons_of_mem _ h1) p h
   ·exact ih₁ acc h1 p h
theorem iC{x:Nat}{E:List (Nat×List Nat)}(h:∀p∈E,p.2.take 1 ≠ [x]):eA x E=0:=by
 unfold eA
 rw[List.filter_eq_nil_iff.mpr fun p hp=>by rw[decide_eq_false (h p hp)];decide];rfl
theorem k6{x:Nat}{E:List (Nat×List Nat)}(h:∀p∈E,x∉p.2):fY w x E=0:=by
 unfold fY
 rw[List.filter_eq_nil_iff.mpr fun p hp=>by rw[decide_eq_false (h p hp)];decide];rfl
theorem g7{x:Nat}{l:List Nat}(h:x∉l):l.take 1 ≠ [x]:=fun e=>h (List.mem_of_mem_take (i:=1) (by rw[e];exact List.mem_cons_self))
theorem jc{x h:Nat}(hx:h≠x):∀(F:Fo) (acc:List Nat),x∉F.nd→∀p∈bg F (h::acc),p.2.take 1 ≠ [x]
 | .nil,_,_,_,m=>nomatch m
 | .node k G F,acc,hn,p,m=>by
  have hk:k≠x:=fun e=>hn (by rw[e];exact List.mem_cons_self)
  have hF:x∉F.nd:=fun m=>hn (List.mem_cons_of_mem _ (List.mem_append_right _ m))
  have hG:x∉G.nd:=fun m=>hn (List.mem_cons_of_mem _ (List.mem_append_left _ m))
  rcases List.mem_cons.mp m with e | m
  ·rw[e];exact fun q=>hx (by injection q)
  ·rcases List.mem_append.mp m with m | m
   ·exact jc hk G (h::acc) hG p m
   ·exact jc hx F acc hF p m
theorem sU{x:Nat} : ∀(F:Fo) (acc:List Nat),x∉F.nd→eA x (bg F (x::acc))=F.deg:=by
 intro l₀
 induction l₀ with
 | nil =>
  intro _ _
  exact rfl
 | node k G F ih₀ ih₁ =>
  intro acc hn
  have hk:k≠x:=fun e=>hn (by rw[e];exact List.mem_cons_self)
  have hF:x∉F.nd:=fun m=>hn (List.mem_cons_of_mem _ (List.mem_append_right _ m))
  have hG:x∉G.nd:=fun m=>hn (List.mem_cons_of_mem _ (List.mem_append_left _ m))
  have e1:eA x ((k,x::acc)::(bg G (k::x::acc)++bg F (x::acc)))=1+eA x (bg G (k::x::acc)++bg F (x::acc)):=by
   unfold eA
   rw[List.filter_cons,if_pos (show decide ((x::acc).take 1 = [x])=true from decide_eq_true rfl),List.length_cons,Nat.add_comm]
  show eA x ((k,x::acc)::(bg G (k::x::acc)++bg F (x::acc)))=F.deg+1
  rw[e1,sV,iC (jc hk G (x::acc) hG),ih₁ acc hF]
  trivial
theorem zy{x:Nat}{F:Fo}{acc:List Nat}(h:x∈acc):fY w x (bg F acc)=Wt w F:=by
 unfold fY Wt cN
 rw[List.filter_eq_self.mpr fun p hp=>decide_eq_true (yx F acc h p hp),← gy F acc,List.map_map];rfl
theorem Db:∀(F:Fo) (acc:List Nat),(acc++F.nd).Nodup→cT (bg F acc) (jX w (bg F acc))=hh w ((acc.map w).sum) F:=by
 intro l₀
 induction l₀ with
 | nil =>
  intro _ _
  exact rfl
 | node k G F ih₀ ih₁ =>
  intro acc hn
  have hn0:(acc++k::(G.nd++F.nd)).Nodup:=hn
  obtain⟨n1,n2,n3⟩:=List.nodup_append.mp hn0
  obtain⟨n4,n5⟩:=List.nodup_cons.mp n2
  obtain⟨n6,n7,n8⟩:=List.nodup_append.mp n5
  have hka:k∉acc:=fun m=>n3 _ m _ List.mem_cons_self rfl
  have hkG:k∉G.nd:=fun m=>n4 (List.mem_append_left _ m)
  have hkF:k∉F.nd:=fun m=>n4 (List.mem_append_right _ m)
  have iG:=ih₀ (k::acc) (List.nodup_append.mpr ⟨List.nodup_cons.mpr ⟨hka,n1⟩,n6,fun a ha b hb=>by
   rcases List.mem_cons.mp ha with e | ha
   ·rw[e];exact fun q=>hkG (by rw[q];exact hb)
   ·exact n3 a ha b (List.mem_cons_of_mem _ (List.mem_append_left _ hb))⟩)
  have iF:=ih₁ acc (List.nodup_append.mpr ⟨n1,n7,fun a ha b hb=>n3 a ha b (List.mem_cons_of_mem _ (List.mem_append_right _ hb))⟩)
  have hE:bg (.node k G F) acc=(k,acc)::(bg G (k::acc)++bg F acc):=rfl
  have c0:∀x,x∉acc→eA x ((k,acc)::(bg G (k::acc)++bg F acc))=eA x (bg G (k::acc))+eA x (bg F acc):=fun x hx=>by
   rw[← sV]
   unfold eA
   rw[List.filter_cons,if_neg (by rw[decide_eq_false (g7 hx)];decide)]
  have s0:∀x,x∉acc→fY w x ((k,acc)::(bg G (k::acc)++bg F acc))=fY w x (bg G (k::acc))+fY w x (bg F acc):=fun x hx=>by
   rw[← zx]
   unfold fY
   rw[List.filter_cons,if_neg (by rw[decide_eq_false hx];decide)]
  have fG:∀p∈bg G (k::acc),jX w (bg (.node k G F) acc) p=jX w (bg G (k::acc)) p:=fun p hp=>by
   have m1:p.1∈G.nd:=by rw[← gy G (k::acc)];exact List.mem_map.mpr ⟨p,hp,rfl⟩
   have m2:p.1∉acc:=fun m=>n3 _ m _ (List.mem_cons_of_mem _ (List.mem_append_left _ m1)) rfl
   have m3:p.1∉F.nd:=fun m=>n8 _ m1 _ m rfl
   have z:=ji F acc m2 m3
   unfold jX
   rw[hE,c0 _ m2,s0 _ m2,iC fun q hq=>g7 (z q hq),k6 w z,Nat.add_zero,Int.add_zero]
  have fF:∀p∈bg F acc,jX w (bg (.node k G F) acc) p=jX w (bg F acc) p:=fun p hp=>by
   have m1:p.1∈F.nd:=by rw[← gy F acc];exact List.mem_map.mpr ⟨p,hp,rfl⟩
   have m2:p.1∉acc:=fun m=>n3 _ m _ (List.mem_cons_of_mem _ (List.mem_append_right _ m1)) rfl
   have m3:p.1∉G.nd:=fun m=>n8 _ m _ m1 rfl
   have m4:p.1≠k:=fun e=>hkF (by rw[← e];exact m1)
   have z:=ji G (k::acc) (fun m=>(List.mem_cons.mp m).elim m4 m2) m3
   unfold jX
   rw[hE,c0 _ m2,s0 _ m2,iC fun q hq=>g7 (z q hq),k6 w z,Nat.zero_add,Int.zero_add]
  have zF:=ji F acc hka hkF
  have fk:jX w (bg (.node k G F) acc) (k,acc) * hh w ((acc.map w).sum+w k) G=w k * JJ w ((acc.map w).sum+w k) G:=by
   have:jX w (bg (.node k G F) acc) (k,acc)=w k * (if G.deg=0 then 1 else((acc.map w).sum+w k) ^ (G.deg - 1) * ((acc.map w).sum+w k+Wt w G)):=by
    unfold jX
    rw[hE]
    show w k * (if eA k _=0 then 1 else Gh w (k,acc) ^ (eA k _ - 1) * (Gh w (k,acc)+fY w k _))=_
    rw[c0 k hka,s0 k hka,iC fun q hq=>g7 (zF q hq),k6 w zF,Nat.add_zero,Int.add_zero,sU G acc hkG,zy w List.mem_cons_self]
    have hd:Gh w (k,acc)=(acc.map w).sum+w k:=Int.add_comm _ _
    rw[hd]
   rw[this,Int.mul_assoc]
   cases G with
   | nil=>rfl
   | node a b c=>rw[if_neg (by show ¬ c.deg+1=0;trivial)];rfl
  rw[qt,hE]
  show jX w (bg (.node k G F) acc) (k,acc) * cT (bg G (k::acc)++bg F acc) (jX w (bg (.node k G F) acc))=_
  rw[xm,gW fG,gW fF,iG,iF,List.map_cons,List.sum_cons,Int.add_comm (w k),← Int.mul_assoc,fk]
end
end
section
noncomputable def kids(s:List Nat)(k:Nat):List Nat:=(List.range' 1 6).filter fun x=>decide (cK s x=k)
noncomputable def IJ(kd:Nat→List Nat):Nat→List Nat→Fo
 | 0,_=>.nil
 | n+1,l=>l.foldr (fun k F=>.node k (IJ kd n (kd k)) F) .nil
noncomputable def nh(s:List Nat):Fo:=.node 0 (IJ (kids s) 7 (kids s 0)) .nil
noncomputable def jd(s:List Nat):List Nat:=kP (kids s) 8 0
noncomputable def d5:List (List Nat):=(List.range 2).flatMap fun a=>(List.range' 1 2).flatMap fun b=>(List.range' 1 3).flatMap fun c=>(List.range' 1 4).flatMap fun d=>(List.range' 1 5).map fun e => [a,b,c,d,e]
noncomputable def IY(s:List Nat):Bool:=decide (bg (nh s) []=(jd s).map fun k=>(k,eK s 7 k))&&decide ((jd s).Nodup)&&(List.range 7).all (fun k=>decide (k∈jd s))&&(jd s).all fun k=>decide (k<7)
noncomputable def IX(s:List Nat):Bool:=(List.range 7).all fun i=>(List.range 7).all fun j=>(nh s).rel i j==(decide (i∈eK s 7 j)||decide (j∈eK s 7 i))
set_option maxRecDepth 1000000 in
theorem En:d5.all IY=true:=by decide +kernel
set_option maxRecDepth 1000000 in
theorem Ek:d5.all IX=true:=by decide +kernel
structure qO(s:List Nat):Prop where
 an:bg (nh s) []=(jd s).map fun k=>(k,eK s 7 k)
 nd:(jd s).Nodup
 mem:∀k,k∈jd s↔k<7
 rel:∀i j,i<7→j<7→(nh s).rel i j=(decide (i∈eK s 7 j)||decide (j∈eK s 7 i))
theorem I8{s:List Nat}(h:s∈d5):qO s:=by
 have h1:=List.all_eq_true.mp En s h
 have h2:=List.all_eq_true.mp Ek s h
 unfold IY at h1
 unfold IX at h2
 simp only[Bool.and_eq_true,decide_eq_true_eq,List.all_eq_true,List.mem_range,beq_iff_eq]at h1 h2
 exact⟨h1.1.1.1,h1.1.1.2,fun k=>⟨h1.2 k,h1.1.2 k⟩,fun i j hi hj=>h2 i hi j hj⟩
end
section
theorem zu{f:Nat→Int}{l l':List Nat}(h:l.Perm l'):(l.map f).sum=(l'.map f).sum:=by
 induction h with
 | nil=>rfl
 | cons x _ ih=>rw[List.map_cons,List.sum_cons,ih,List.map_cons,List.sum_cons]
 | swap x y l=>simp only[List.map_cons,List.sum_cons];trivial
 | trans _ _ h1 h2=>exact h1.trans h2
section
variable{s:List Nat}{p:Nat→Bool}{W:Nat→Int}
noncomputable def fj(p:Nat→Bool):List Nat:=(List.range 7).filter p
noncomputable def Vt(s:List Nat)(p:Nat→Bool):List Nat:=(jd s).filter p
noncomputable def Gt(s:List Nat)(p:Nat→Bool):Fo:=(IJ (kids s) 7 (kids s 0)).filt p
theorem jO{k:Nat} : k∈fj p↔k<7∧p k=true:=by unfold fj;rw[List.mem_filter,List.mem_range]
theorem kY(h0:p 0=true):(nh s).filt p=.node 0 (Gt s p) .nil:=if_pos h0
theorem ut(T:qO s):(fj p).Perm (Vt s p):=((List.perm_ext_iff_of_nodup List.nodup_range T.nd).mpr fun k=>by rw[List.mem_range,T.mem]).filter p
theorem Gu(S:c9 s){k:Nat}(hk:k<7):gl s (fj p) k=(eK s 7 k).filter p:=by
 unfold gl
 refine List.filter_congr fun x hx => ?_
 have:=(qN S 7 k hk).2 x hx
 cases hp:p x with
 | true=>exact decide_eq_true (jO.mpr ⟨this,hp⟩)
 | false=>exact decide_eq_false fun m=>by rw[(jO.mp m).2]at hp;exact Bool.noConfusion hp
theorem wR(T:qO s)(S:c9 s):bg ((nh s).filt p) []=(Vt s p).map fun k=>(k,gl s (fj p) k):=by
 have:=yw p (nh s) []
 rw[List.filter_nil,T.an,List.filter_map,List.map_map]at this
 rw[this]
 refine List.map_congr_left fun k hk => ?_
 have hk:k∈Vt s p:=hk
 rw[Gu S ((T.mem k).mp (List.mem_filter.mp hk).1)];rfl
theorem Dt(T:qO s)(S:c9 s):((nh s).filt p).nd=Vt s p:=by
 rw[← gy _ [],wR T S,List.map_map]
 exact List.map_id _
theorem vq(T:qO s)(S:c9 s)(k:Nat):eA k (bg ((nh s).filt p) [])=(iX (fj p) (gl s (fj p)) k).length:=by
 rw[wR T S]
 unfold eA iX
 rw[List.filter_map,List.length_map]
 exact((ut T).filter _).length_eq.symm
theorem Ft(T:qO s)(S:c9 s)(k:Nat):fY W k (bg ((nh s).filt p) [])=Ef W (fj p) (gl s (fj p)) k:=by
 rw[wR T S]
 unfold fY Ef
 rw[List.filter_map,List.map_map]
 exact(zu ((ut T).filter _)).symm
theorem pX(T:qO s)(S:c9 s)(h0:p 0=true)(h6:p 6=true):(fj p).foldl (fun q k=>q * fv W (fj p) (gl s (fj p)) k) 1=W 0 ^ (Gt s p).deg * hh W (W 0) (Gt s p):=by
 have hE:bg ((nh s).filt p) []=(0,[])::(bg (Gt s p) [0] ++ []):=by rw[kY h0];rfl
 have hV:Vt s p=0::(Gt s p).nd:=by rw[← Dt T S,kY h0];show 0::((Gt s p).nd ++ [])=_;rw[List.append_nil]
 have hnd:(0::(Gt s p).nd).Nodup:=by rw[← hV];exact T.nd.filter p
 obtain⟨n1,n2⟩:=List.nodup_cons.mp hnd
 have hdeg:(Gt s p).deg≠0:=by
  have:6∈Vt s p:=List.mem_filter.mpr ⟨(T.mem 6).mpr (by decide),h6⟩
  rw[hV]at this
  cases hg:Gt s p with
  | nil=>rw[hg]at this;exact absurd this (by decide)
  | node a b c=>show c.deg+1≠0;trivial
 have c1:∀k,eA k (bg ((nh s).filt p) [])=eA k (bg (Gt s p) [0]):=fun k=>by
  rw[hE,List.append_nil]
  unfold eA
  rw[List.filter_cons,if_neg (by rw[decide_eq_false (g7 (x:=k) (List.not_mem_nil))];decide)]
 have s1:∀k,fY W k (bg ((nh s).filt p) [])=fY W k (bg (Gt s p) [0]):=fun k=>by
  rw[hE,List.append_nil]
  unfold fY
  rw[List.filter_cons,if_neg (by rw[decide_eq_false (List.not_mem_nil)];decide)]
 have nb0:∀k,(iX (fj p) (gl s (fj p)) k = [])↔eA k (bg (Gt s p) [0])=0:=fun k=>by
  rw[← c1,vq T S,List.length_eq_zero_iff]
 have fac:∀k,k≠0→fv W (fj p) (gl s (fj p)) k=jX W (bg (Gt s p) [0]) (k,gl s (fj p) k):=fun k hk=>by
  unfold fv jX l9
  show W k * _=W k * (if eA k (bg (Gt s p) [0])=0 then 1 else Gh W (k,gl s (fj p) k) ^ _ * (Gh W (k,gl s (fj p) k)+fY W k (bg (Gt s p) [0])))
  rw[← s1,Ft T S,if_neg hk]
  by_cases h:iX (fj p) (gl s (fj p)) k = []
  ·rw[if_pos h,if_pos ((nb0 k).mp h)]
  ·rw[if_neg h,if_neg fun e=>h ((nb0 k).mpr e),← c1,vq T S];rfl
 have fac0:fv W (fj p) (gl s (fj p)) 0=W 0 ^ (Gt s p).deg:=by
  have e:(iX (fj p) (gl s (fj p)) 0).length=(Gt s p).deg:=by rw[← vq T S,c1,sU _ _ n1]
  have hn:iX (fj p) (gl s (fj p)) 0 ≠ []:=fun h=>hdeg (by rw[← e,h];rfl)
  have d0:l9 W (gl s (fj p)) 0=W 0:=Int.add_zero _
  unfold fv
  rw[if_neg hn,if_pos rfl,e,d0,Int.mul_one,Int.mul_comm,← Int.pow_succ]
  exact congrArg (W 0 ^ ·) (Nat.sub_add_cancel (Nat.pos_of_ne_zero hdeg))
 have hG:cT (Gt s p).nd (fv W (fj p) (gl s (fj p)))=hh W (W 0) (Gt s p):=by
  have:=Db W (Gt s p) [0] (by rw[List.singleton_append];exact hnd)
  rw[show(([0]:List Nat).map W).sum=W 0 from Int.add_zero _]at this
  rw[← this,← gy (Gt s p) [0],xk]
  refine gW fun q hq => ?_
  have m1:q.1∈(Gt s p).nd:=by rw[← gy (Gt s p) [0]];exact List.mem_map.mpr ⟨q,hq,rfl⟩
  have m2:q∈bg ((nh s).filt p) []:=by rw[hE];exact List.mem_cons_of_mem _ (List.mem_append_left _ hq)
  rw[wR T S]at m2
  obtain⟨k,hk,e⟩:=List.mem_map.mp m2
  rw[← e]at m1 ⊢
  rw[fac k fun h=>n1 (by rw[← h];exact m1)]
 rw[u3,Int.one_mul,um (ut T),hV]
 show fv W (fj p) (gl s (fj p)) 0 * cT (Gt s p).nd (fv W (fj p) (gl s (fj p)))=_
 rw[fac0,hG]
theorem Bp(T:qO s)(S:c9 s)(h0:p 0=true)(h6:p 6=true){a b:List Nat}{q:Nat}(hq:Vt s p=a++q::b) :
  b9 (a++b) ((a++b).map (dG W 0 ((nh s).filt p)))=(fj p).foldl (fun q k=>q * fv W (fj p) (gl s (fj p)) k) 1:=by
 have hnd:((nh s).filt p).nd.Nodup:=by rw[Dt T S];exact T.nd.filter p
 rw[pX T S h0 h6]
 rw[← Dt T S]at hq
 rw[kY h0]at hq hnd ⊢
 exact xV W 0 (Gt s p) hnd a b q hq
theorem yk(φ:Nat→Nat):∀(C:List Nat) (rs:List Rw),b9 (C.map φ) rs=b9 C (rs.map fun r c=>r (φ c)):=by
 have key:∀(F G:List Rw→Int) (c:Nat),(∀l,F l=G (l.map fun r c=>r (φ c)))→∀rs,ex F (φ c) rs=ex G c (rs.map fun r c=>r (φ c)):=by
  intro F G c h rs
  induction rs generalizing F G with
  | nil=>rfl
  | cons r rs ih =>
   show r (φ c) * F rs - ex (fun l=>F (r::l)) (φ c) rs=r (φ c) * G (rs.map fun r c=>r (φ c)) - ex (fun l=>G ((fun c=>r (φ c))::l)) c (rs.map fun r c=>r (φ c))
   rw[h rs,ih (fun l=>F (r::l)) (fun l=>G ((fun c=>r (φ c))::l)) fun l=>h (r::l)]
 intro C
 induction C with
 | nil=>intro rs;cases rs <;> rfl
 | cons c C ih=>intro rs;exact key _ _ c (fun l=>ih l) rs
end
end
section
theorem uK{a b c d e:Nat}(h1:a<2)(h2:1≤b∧b<3)(h3:1≤c∧c<4)(h4:1≤d∧d<5)(h5:1≤e∧e<6) : [a,b,c,d,e]∈d5:=by
 unfold d5
 refine List.mem_flatMap.mpr ⟨a,List.mem_range.mpr h1,List.mem_flatMap.mpr ⟨b,List.mem_range'_1.mpr ⟨h2.1,by trivial⟩,List.mem_flatMap.mpr ⟨c,List.mem_range'_1.mpr ⟨h3.1,by trivial⟩,List.mem_flatMap.mpr ⟨d,List.mem_range'_1.mpr ⟨h4.1,by trivial⟩,List.mem_map.mpr ⟨e,List.mem_range'_1.mpr ⟨h5.1,by trivial⟩,rfl⟩⟩⟩⟩⟩
noncomputable def G6(s:List Nat):Bool:=decide (s.length=5)&&(List.range' 1 6).all (fun k=>decide (cK s k<k))&&(List.range 7).all (fun(k:Nat)=>decide (vp (de 8) (.int (k:Nat)) (iO s)=some (kids s k).length)) &&
 (List.range 7).all (fun k=>decide ((kids s k).map (fun c=>yE (vz s c))=(List.range (kids s k).length).map yE))&&jW (kids s) 8 0
theorem B1:d5.all G6=true:=by decide +kernel
structure GK(s:List Nat):Prop where
 shape:c9 s
 count:∀k:Nat,k<7→vp (de 8) (.int (k:Nat)) (iO s)=some (kids s k).length
 names:∀k,k<7→(kids s k).map (fun c=>yE (vz s c))=(List.range (kids s k).length).map yE
 fits:jW (kids s) 8 0=true
theorem I9{s:List Nat}(h:s∈d5):GK s:=by
 have h1:=List.all_eq_true.mp B1 s h
 unfold G6 at h1
 simp only[Bool.and_eq_true,decide_eq_true_eq,List.all_eq_true,List.mem_range,List.mem_range'_1]at h1
 obtain⟨⟨⟨⟨h1,h2⟩,h3⟩,h4⟩,h5⟩:=h1
 exact⟨⟨h1,fun k k1 k2=>h2 k ⟨k1,by trivial⟩⟩,h3,h4,h5⟩
section
variable{σ:St}{η:be}
theorem rd{i j:Nat}{a x:AV}(h:η[j]? = some a)(hj:i≠j):(η.set i x)[j]? = some a:=by rw[List.getElem?_set_ne hj];exact h
theorem rs{i:Nat}{x:AV}(h:i<η.length):(η.set i x)[i]? = some x:=List.getElem?_set_self h
theorem gq{i j:Nat}{x:AV}(h:dk η j=true)(hj:i≠j):dk (η.set i x) j=true:=by unfold dk at h ⊢;rw[List.getElem?_set_ne hj];exact h
theorem vr{j:Nat}{a:AV}(h:η[j]? = some a)(hu:uU a=false):mV j η σ=some (a,σ):=IL h hu
structure pF(η:be)(l:List (Nat×AV)):Prop where
 len:η.length=63
 u:∀j,27≤j→dk η j=true
 at':∀p∈l,η[p.1]? = some p.2
noncomputable def GD(k:Nat):List (Nat×AV)→Option AV
 | []=>none
 | p::r=>if p.1=k then some p.2 else GD k r
theorem DC{k:Nat}{a:AV} : ∀{l:List (Nat×AV)},GD k l=some a→(k,a)∈l:=by
 intro l₀
 induction l₀ with
 | nil =>
  intro h
  cases h
 | cons p r ih₀ =>
  intro h
  have h:(if p.1=k then some p.2 else GD k r)=some a:=h
  by_cases e:p.1=k
  ·rw[if_pos e]at h;rw[← e,← Option.some.inj h];exact List.mem_cons_self
  ·rw[if_neg e]at h;exact List.mem_cons_of_mem _ (ih₀ h)
theorem pF.get{l:List (Nat×AV)}(H:pF η l)(k:Nat){a:AV}(e:GD k l=some a):η[k]? = some a:=H.at' (k,a) (DC e)
theorem pF.set{l:List (Nat×AV)}(H:pF η l)(i:Nat)(a:AV)(hi:i<27):pF (η.set i a) ((i,a)::l.filter (fun p=>p.1 != i)) where
 len:=by rw[List.length_set];exact H.len
 u:=fun j hj=>gq (H.u j hj) (by trivial)
 at':=fun p hp=>by
  rcases List.mem_cons.mp hp with e | hp
  ·rw[e];exact List.getElem?_set_self (by rw[H.len];trivial)
  ·obtain⟨h1,h2⟩:=List.mem_filter.mp hp
   exact rd (H.at' p h1) fun e=>by rw[e]at h2;simp at h2
theorem IP{m:ME}{R:MS}{a:AV}{σ':St}{l:List (Nat×AV)}(H:pF η l)(i:Nat)(hi:i<27)(hm:m η σ=some (a,σ')):ae (aX m (aV i)) R η σ=R (η.set i a) σ'∧pF (η.set i a) ((i,a)::l.filter (fun p=>p.1 != i)) :=
 ⟨bv hm (by rw[H.len];trivial),H.set i a hi⟩
theorem cL{α:Type}{m e:ME}{a:AV}(hl:η.length=63)(i:Nat)(hu:dk η i=true)(as:List α)(g f:α→AV)(hi:i<63)(hn:as.length≤1000)(hm:m η σ=some (a,σ))(ha:eN a=some (as.map g))
  (he:∀x∈as,e (η.set i (g x)) σ=some (f x,σ)):aK [i] (aN m (aV i)) (bA (tK true) (ay e)) η σ=some (.list (as.map f),σ) :=
 ym as g f hm ha (by simp[hu]) (by rw[hl];exact hi) he (Nat.le_trans ‹_› (Nat.le_of_ble_eq_true rfl))
theorem cF{α:Type}{m e:ME}{t:MT}{a:AV}(hl:η.length=63)(i:Nat)(hu:dk η i=true)(as:List α)(g:α→AV)(p:α→Bool)(f:α→AV)(hi:i<63)(hn:as.length≤1000)(hm:m η σ=some (a,σ))(ha:eN a=some (as.map g))
  (ht:∀x∈as,t (η.set i (g x)) σ=some (p x,σ)) (he:∀x∈as,p x=true→e (η.set i (g x)) σ=some (f x,σ)):aK [i] (aN m (aV i)) (bA t (ay e)) η σ=some (.list ((as.filter p).map f),σ) :=
 gF as g p f hm ha (by simp[hu]) (by rw[hl];exact hi) ht he (Nat.le_trans ‹_› (Nat.le_of_ble_eq_true rfl))
theorem FH:au (aa (mK (.int 7)) ak) aR η σ=some (.range 0 ((7:Nat):Int) 1,σ):=rfl
noncomputable def dq(f:Nat→AV):AV:=.list ((List.range 7).map f)
theorem wP(f:Nat→AV){k:Nat}(h:k<7):aZ (dq f) (.int (k:Nat)) σ=some (f k,σ):=dp k (cW f h) (Nat.le_trans ‹_› (Nat.le_of_ble_eq_true rfl))
theorem c7{e:ME}(hl:η.length=63)(i:Nat)(hi:i<63)(hu:dk η i=true)(f:Nat→AV)(he:∀k,k<7→e (η.set i (.int (k:Nat))) σ=some (f k,σ)):aK [i] (aN (au (aa (mK (.int 7)) ak) aR) (aV i)) (bA (tK true) (ay e)) η σ=some (dq f,σ) :=
 cL hl i hu (List.range 7) (fun(k:Nat)=>.int k) f hi (by decide) FH (cG 7 (by decide)) fun k hk=>he k (List.mem_range.mp hk)
noncomputable def oh(ns:List Int)(i:Nat)(c:Int):Int:=c+(pickNums ns (some i) none (some 4)).sum
theorem xU(hl:η.length=63)(hu:∀j,27≤j→dk η j=true)(ns:List Int)(hns:ns.length≤63)(h0:η[0]? = some (.script ns)) :
  aK [27,28] (m8 (bz (aa (mK (.int 25920000)) (aa (mK (.int 363792304)) (aa (mK (.int 422203924800)) (aa (mK (.int 5)) ak))))) (bJ (aV 27) (bJ (aV 28) io))) (bA (tK true) (ay (ap .Add (mV 28) (au (aa (fu (mV 0) (mV 27) (mK .none) (mK (.int 4))) ak) jL)))) η σ =
   some (.list [.int (oh ns 0 25920000),.int (oh ns 1 363792304),.int (oh ns 2 422203924800),.int (oh ns 3 5)],σ):=by
 refine(yn (σ:=σ) [.int 25920000,.int 363792304,.int 422203924800,.int 5] (fun x=>match x.1 with | .int c=>.int (oh ns x.2 c) | _=>.none) rfl (by simp[hu 27 (by decide),hu 28 (by decide)]) (by rw[hl];decide) (by rw[hl];decide) ?_ (by decide)).trans rfl
 have key:∀(i:Nat) (c:Int),(ap .Add (mV 28) (au (aa (fu (mV 0) (mV 27) (mK .none) (mK (.int 4))) ak) jL)) ((η.set 27 (.int i)).set 28 (.int c)) σ=some (.int (oh ns i c),σ):=by
  intro i c
  have g0:((η.set 27 (AV.int i)).set 28 (.int c))[0]? = some (.script ns):=rd (rd h0 (by decide)) (by decide)
  have g27:((η.set 27 (AV.int i)).set 28 (.int c))[27]? = some (.int i):=rd (rs (by rw[hl];decide)) (by decide)
  have g28:((η.set 27 (AV.int i)).set 28 (.int c))[28]? = some (.int c):=rs (by rw[List.length_set,hl];decide)
  have e1:ci (.script ns) (.int i) .none (.int 4) σ=some (.list ((pickNums ns (some i) none (some 4)).map .int),σ):=by
   show(if ¬ (some (4:Int))=some 0 then if dX ns.length then some (AV.list ((pickNums ns (some i) none (some 4)).map .int),σ)else none else none)=_
   rw[if_pos (by decide),if_pos (cE (Nat.le_trans ‹_› (Nat.le_of_ble_eq_true rfl)))]
  refine aE (vr g28 rfl) (bc (am ?_ aJ) we) rfl
  rw[yI,vr g0 rfl,sr,vr g27 rfl]
  exact e1
 intro x hx
 simp only[List.zipIdx_cons,List.zipIdx_nil,List.mem_cons,List.not_mem_nil,or_false]at hx
 rcases hx with rfl | rfl | rfl | rfl <;> exact key _ _
theorem E0(b k:Nat)(hb:b<1000)(hk:k≤1000):bF .Pow (.int b) (.int k) σ=some (.int ((b ^ k:Nat):Int),σ):=by
 rw[BN (by trivial) (by trivial) (by trivial),Int.toNat_natCast]
 congr 3
theorem BQ(c:Int)(p:Nat)(h0:0<p)(h1:p<18446744073709551616):bF .FloorDiv (.int c) (.int p) σ=some (.int (c / p),σ):=vC (by trivial) (uD (by trivial))
theorem qJ(c:Int)(p:Nat)(h0:0<p):bF .Mod (.int c) (.int p) σ=some (.int (((c % p).toNat:Nat):Int),σ):=by
 rw[nA (by trivial)]
 have:=Int.emod_nonneg c (b:=(p:Int)) (by trivial)
 congr 3;trivial
noncomputable def yi(c:Int)(b k:Nat):Nat:=(c / ((b ^ k:Nat):Int) % (b:Nat)).toNat
theorem wF(c:Int){b:Nat}(hb:0<b)(k:Nat):yi c b k<b:=by
 unfold yi
 have h1:=Int.emod_lt_of_pos (c / ((b ^ k:Nat):Int)) (b:=(b:Int)) (by trivial)
 have h2:=Int.emod_nonneg (c / ((b ^ k:Nat):Int)) (b:=(b:Int)) (by trivial)
 trivial
theorem Bo{m1 m2:ME}{σ:St}{c:Int}{b k:Nat}(hb:0<b)(hb':b<100)(hk:k<8)(h1:m1 η σ=some (.int c,σ))(h2:m2 η σ=some (.int (k:Nat),σ)):ap .Mod (ap .FloorDiv m1 (ap .Pow (mK (.int (b:Nat))) m2)) (mK (.int (b:Nat))) η σ=some (.int (yi c b k:Nat),σ):=by
 have hp:b ^ k≤100 ^ 8:=Nat.le_trans (Nat.pow_le_pow_left (Nat.le_of_lt ‹_›) k) (Nat.pow_le_pow_right (by decide) (Nat.le_of_lt ‹_›))
 have hp0:0<b ^ k:=Nat.pow_pos hb
 exact aE (aE h1 (aE rfl h2 (E0 b k (by trivial) (by trivial))) (BQ _ _ hp0 (by trivial))) rfl (qJ _ b hb)
end
end
section
noncomputable def EJ(c:Int)(k:Nat):Nat:=(c / ((60 ^ (k - 2):Nat):Int) % 60 % ((k - 1:Nat):Int)).toNat
noncomputable def H6(c:Int):List Nat := [(c % 60 % 2).toNat,1+EJ c 3,1+EJ c 4,1+EJ c 5,1+EJ c 6]
theorem zo(x:Int)(n:Nat)(h:0<n):(x % (n:Int)).toNat<n:=by
 have h1:=Int.emod_lt_of_pos x (b:=(n:Int)) (by trivial)
 have h2:=Int.emod_nonneg x (b:=(n:Int)) (by trivial)
 trivial
theorem CY(c:Int):H6 c∈d5:=by
 have h:∀k,3≤k→EJ c k<k - 1:=fun k hk=>zo _ _ (by trivial)
 have h2:=zo (c % 60) 2 (by decide)
 have h3:=h 3 (by decide);have h4:=h 4 (by decide);have h5:=h 5 (by decide);have h6:=h 6 (by decide)
 exact uK h2 ⟨by trivial,by trivial⟩ ⟨by trivial,by trivial⟩ ⟨by trivial,by trivial⟩ ⟨by trivial,by trivial⟩
section
variable{σ:St}{η:be}
theorem A9{b:aA}{bs:List aA}{B:MS}{η1 η2:be}{σ1 σ2:St}(h1:b η σ=some (η1,σ1))(h2:B η1 σ1=some (.next,η2,σ2)):d9 (b::bs) B η σ=d9 bs B η2 σ2:=by
 rw[show d9 (b::bs) B η σ=oB (b η σ) fun η σ=>oF (B η σ) (fun η σ=>d9 bs B η σ)from rfl,h1,cP,h2,eP]
theorem CP{q:Nat}{l:List AV}(h:σ[q]? = some (.list l)):pL σ (.cell q)=some "list" := by
 show o1 σ[q]? vt=_
 rw[h];rfl
noncomputable def z0:ME:=ap .Add (mK (.int 1)) (ap .Mod (ap .Mod (ap .FloorDiv (ao (mV 1) (mK (.int 0))) (ap .Pow (mK (.int 60)) (ap .Sub (mV 3) (mK (.int 2))))) (mK (.int 60))) (ap .Sub (mV 3) (mK (.int 1))))
theorem FN{c c1 c2 c3:Int}{k:Nat}(h1:η[1]? = some (.list [.int c,.int c1,.int c2,.int c3]))(h3:η[3]? = some (.int (k:Nat)))(hk:3≤k)(hk':k<7):z0 η σ=some (.int (((1+EJ c k:Nat)):Int),σ):=by
 have s2:bF .Sub (.int (k:Nat)) (.int 2) σ=some (.int ((k - 2:Nat):Int),σ):=by rw[vB,show((k:Int) - 2)=((k - 2:Nat):Int) by trivial]
 have s1:bF .Sub (.int (k:Nat)) (.int 1) σ=some (.int ((k - 1:Nat):Int),σ):=by rw[vB,show((k:Int) - 1)=((k - 1:Nat):Int) by trivial]
 have hp:60 ^ (k - 2)≤60 ^ 5:=Nat.pow_le_pow_right (by decide) (by trivial)
 have hp0:0<60 ^ (k - 2):=Nat.pow_pos (by decide)
 have m2:=qJ (σ:=σ) (c / ((60 ^ (k - 2):Nat):Int) % 60) (k - 1) (by trivial)
 refine aE rfl (aE (aE (aE (ax (vr h1 rfl) rfl rfl) (aE rfl (aE (vr h3 rfl) rfl s2) (E0 60 (k - 2) (by decide) (by trivial))) (BQ _ _ hp0 (by trivial))) rfl (nA (by decide))) (aE (vr h3 rfl) rfl s1) m2) ?_
 rw[Gp,Int.natCast_add];rfl
theorem zZ{c c1 c2 c3:Int}{k:Nat}{l:List AV}(hl:η.length=63)(h1:η[1]? = some (.list [.int c,.int c1,.int c2,.int c3]))(h2:η[2]? = some (.cell 0))(h3:η[3]? = some (.int (k:Nat)))(hk:3≤k)(hk':k<7)(hn:l.length≤100) :
  ae (dM (br "list" (mV 2) (aa z0 ak) ej)) aM η [.list l]=some (.next,η,[.list (l ++ [.int ((1+EJ c k:Nat):Int)])]) :=
 (kR (R:=aM) (bN (vr h2 rfl) rfl (am (FN h1 h3 hk hk') aJ) (Am (q:=0) rfl (Nat.le_trans ‹_› (Nat.le_of_ble_eq_true rfl))))).trans rfl
theorem DK{c c1 c2 c3:Int}(h1:η[1]? = some (.list [.int c,.int c1,.int c2,.int c3])):jP (aa (iP (mK (.int 1))) (aa (mK (.int 0)) (aa (ap .Mod (ap .Mod (ao (mV 1) (mK (.int 0))) (mK (.int 60))) (mK (.int 2))) ak))) η [] =
  some (.cell 0,[.list [.int (-1),.int 0,.int ((c % 60 % 2).toNat:Nat)]]):=by
 have m2:=qJ (σ := []) (c % 60) 2 (by decide)
 exact ve (am (j0 rfl) (am rfl (am (aE (aE (ax (vr h1 rfl) rfl rfl) rfl (nA (by decide))) rfl m2) aJ))) rfl
theorem AP{c c1 c2 c3:Int}{R:MS}{l:List (Nat×AV)}(H:pF η l)(h1:GD 1 l=some (.list [.int c,.int c1,.int c2,.int c3]))(h2:GD 2 l=some (.cell 0)) :
  ae (gV (aN (au (aa (mK (.int 3)) (aa (mK (.int 7)) ak)) aR) (aV 3)) (ae (dM (br "list" (mV 2) (aa z0 ak) ej)) aM)) R η [.list [.int (-1),.int 0,.int ((c % 60 % 2).toNat:Nat)]]=R (η.set 3 (.int 6)) [.list (iO (H6 c))] ∧
   pF (η.set 3 (.int 6)) ((3,.int 6)::l.filter (fun p=>p.1 != 3)):=by
 refine⟨me (bs := [aV 3 (.int (3:Nat)),aV 3 (.int (4:Nat)),aV 3 (.int (5:Nat)),aV 3 (.int (6:Nat))]) rfl ?_,H.set 3 _ (by decide)⟩
 have g1:=H.get 1 h1
 have g2:=H.get 2 h2
 have hb:∀(η':be) (k:Nat) (σ:St),η'.length=63→aV 3 (.int (k:Nat)) η' σ=some (η'.set 3 (.int (k:Nat)),σ):=fun η' k σ h=>by rw[zd,if_pos (by rw[h];decide)]
 have stp:∀(x:AV) (k:Nat) (acc:List AV) (bs:List aA),3≤k→k<7→acc.length≤100→d9 (aV 3 (.int (k:Nat))::bs) (ae (dM (br "list" (mV 2) (aa z0 ak) ej)) aM) (η.set 3 x) [.list acc]=d9 bs (ae (dM (br "list" (mV 2) (aa z0 ak) ej)) aM) (η.set 3 (.int (k:Nat))) [.list (acc ++ [.int ((1+EJ c k:Nat):Int)])]:=by
  intro x k acc bs hk hk' hn
  refine A9 ((hb (η.set 3 x) k _ (by rw[List.length_set];exact H.len)).trans (by rw[List.set_set])) (zZ (by rw[List.length_set];exact H.len) (rd g1 (by decide)) (rd g2 (by decide)) (rs (by rw[H.len];decide)) hk hk' hn)
 have h0:η=η.set 3 (η[3]'(by rw[H.len];decide)):=(List.set_getElem_self (by rw[H.len];decide)).symm
 rw[h0,stp _ 3 _ _ (by decide) (by decide) (by show 3≤100;decide),stp _ 4 _ _ (by decide) (by decide) (by show 4≤100;decide),stp _ 5 _ _ (by decide) (by decide) (by show 5≤100;decide),stp _ 6 _ _ (by decide) (by decide) (by show 6≤100;decide),List.set_set]
 rfl
noncomputable def lu(c:Int)(k:Nat):Nat:=yi c 18 k
noncomputable def gP(c:Int)(k:Nat):Int:=if lu c k<9 then(lu c k:Int) - 9 else(lu c k:Int) - 8
theorem tO(c:Int)(k:Nat):(gP c k).natAbs≤9:=by
 have:=wF c (b:=18) (by decide) k
 unfold gP lu
 split <;> trivial
theorem DM{c c0 c2 c3:Int}(hl:η.length=63)(hu:dk η 29=true)(h1:η[1]? = some (.list [.int c0,.int c,.int c2,.int c3])):aK [29] (aN (au (aa (mK (.int 7)) ak) aR) (aV 29)) (bA (tK true) (ay (ap .Mod (ap .FloorDiv (ao (mV 1) (mK (.int 1))) (ap .Pow (mK (.int 18)) (mV 29))) (mK (.int 18))))) η σ=some (dq fun k=>.int (lu c k:Nat),σ) :=
 c7 hl 29 (by decide) hu _ fun k hk=>Bo (b:=18) (by decide) (by decide) (Nat.le_trans ‹_› (Nat.le_of_ble_eq_true rfl)) (ax (vr (rd h1 (by decide)) rfl) rfl rfl) (vr (rs (by rw[hl];decide)) rfl)
theorem xT{c c0 c1 c3:Int}(hl:η.length=63)(hu:dk η 31=true)(h1:η[1]? = some (.list [.int c0,.int c1,.int c,.int c3])):aK [31] (aN (au (aa (mK (.int 7)) ak) aR) (aV 31)) (bA (tK true) (ay (ap .Mod (ap .FloorDiv (ao (mV 1) (mK (.int 2))) (ap .Pow (mK (.int 64)) (mV 31))) (mK (.int 64))))) η σ=some (dq fun k=>.int (yi c 64 k:Nat),σ) :=
 c7 hl 31 (by decide) hu _ fun k hk=>Bo (b:=64) (by decide) (by decide) (Nat.le_trans ‹_› (Nat.le_of_ble_eq_true rfl)) (ax (vr (rd h1 (by decide)) rfl) rfl rfl) (vr (rs (by rw[hl];decide)) rfl)
theorem wx(f:Nat→AV):eN (dq f)=some ((List.range 7).map f):=rfl
theorem DG{c:Int}(hl:η.length=63)(hu:dk η 30=true)(h4:η[4]? = some (dq fun k=>.int (lu c k:Nat))):aK [30] (aN (mV 4) (aV 30)) (bA (tK true) (ay (hK (aW .Lt (mV 30) (mK (.int 9))) (ap .Sub (mV 30) (mK (.int 9))) (ap .Sub (mV 30) (mK (.int 8)))))) η σ=some (.list (kQ (gP c)),σ):=by
 refine cL hl 30 hu (List.range 7) (fun k=>.int (lu c k:Nat)) (fun k=>.int (gP c k)) (by decide) (by decide) (vr h4 rfl) (wx _) fun k ω => ?_
 have g:(η.set 30 (AV.int (lu c k:Nat)))[30]? = some (.int (lu c k:Nat)):=rs (by rw[hl];decide)
 unfold gP
 by_cases h:lu c k<9
 ·rw[if_pos h];exact jl (aB (vr g rfl) rfl ((BF).trans (by rw[decide_eq_true (by trivial)]))) (aE (vr g rfl) rfl rfl)
 ·rw[if_neg h];exact jm (aB (vr g rfl) rfl ((BF).trans (by rw[decide_eq_false (by trivial)]))) (aE (vr g rfl) rfl rfl)
noncomputable def zk(c:Int):List Nat:=if c % 2=0 then[]else[47]
theorem DH{c0 c1 c2 c:Int}(h1:η[1]? = some (.list [.int c0,.int c1,.int c2,.int c])):ao (bz (aa (mK (.str [])) (aa (mK (.str [47])) ak))) (ap .Mod (ao (mV 1) (mK (.int 3))) (mK (.int 2))) η σ=some (.str (zk c),σ):=by
 refine ax rfl (aE (ax (vr h1 rfl) rfl rfl) rfl (nA (by decide))) ?_
 unfold zk
 rcases Int.emod_two_eq c with h | h <;> rw[h] <;> rfl
theorem xK{s:List Nat}{top:List Nat}(S:c9 s)(hq:σ[0]? = some (.list (iO s)))(ht:top.length≤100)(hl:η.length=63)(hu:dk η 32=true)(h2:η[2]? = some (.cell 0))(h7:η[7]? = some (.str top)) :
  aK [32] (aN (au (aa (mK (.int 7)) ak) aR) (aV 32)) (bA (tK true) (ay (au (aa (mV 2) (aa (mV 32) (aa (mV 7) ak))) (dB 8)))) η σ=some (dq fun k=>.str (aS s 8 k top),σ) :=
 c7 hl 32 (by decide) hu _ fun k hk=>bc (am (vr (rd h2 (by decide)) rfl) (am (vr (rs (by rw[hl];decide)) rfl) (am (vr (rd h7 (by decide)) rfl) aJ))) (uy S hq 8 k top (Nat.le_trans ‹_› (Nat.le_of_ble_eq_true rfl)) (by decide) hk ht)
noncomputable def lY(s:List Nat)(k:Nat):List (List Nat):=(List.range (kids s k).length).map yE
theorem l5(s:List Nat)(k:Nat):(kids s k).length≤6:=Nat.le_trans (List.length_filter_le ..) (by rw[List.length_range'];decide)
theorem xM{s:List Nat}(S:GK s)(hq:σ[0]? = some (.list (iO s)))(hl:η.length=63)(hu:dk η 33=true)(hu':dk η 34=true)(h2:η[2]? = some (.cell 0)) :
  aK [33] (aN (au (aa (mK (.int 7)) ak) aR) (aV 33)) (bA (tK true) (ay (aK [34] (aN (au (aa (br "list" (mV 2) (aa (mV 33) ak) mP) ak) aR) (aV 34)) (bA (tK true) (ay (ap .Add (mK (.str [97])) (ap .Mult (mK (.str [98])) (mV 34)))))))) η σ=some (dq fun k=>.list ((lY s k).map .str),σ):=by
 refine c7 hl 33 (by decide) hu _ fun k hk => ?_
 have hk6:=l5 s k
 have ec:mP [.cell 0,.int (k:Nat)] σ=some (.int ((kids s k).length:Nat),σ):=by
  have hv:cA σ (.cell 0)=some (iO s):=by show o1 σ[0]? lF=_;rw[hq];rfl
  show o1 (cA σ (.cell 0)) _=_
  rw[hv];show o1 (vp (de 8) (.int (k:Nat)) (iO s)) _=_
  rw[S.count k hk];rfl
 have er:aR [.int ((kids s k).length:Nat)] σ=some (.range 0 ((kids s k).length:Nat) 1,σ):=rfl
 have:=cL (σ:=σ) (η:=η.set 33 (.int (k:Nat))) (m:=au (aa (br "list" (mV 2) (aa (mV 33) ak) mP) ak) aR) (e:=ap .Add (mK (.str [97])) (ap .Mult (mK (.str [98])) (mV 34))) (by rw[List.length_set];exact hl) 34 (gq hu' (by decide)) (List.range (kids s k).length) (fun(j:Nat)=>.int j) (fun j=>.str (yE j)) (by decide) (by rw[List.length_range];trivial)
  (bc (am (bN (vr (rd h2 (by decide)) rfl) (CP hq) (am (vr (rs (by rw[hl];decide)) rfl) aJ) ec) aJ) er) (cG _ (Nat.le_trans ‹_› (Nat.le_of_ble_eq_true rfl))) fun j hj=>by
   have hj:=List.mem_range.mp hj
   have e:bF .Mult (.str [98]) (.int (j:Nat)) σ=some (.str (List.replicate j 98),σ):=by
    rw[BK (by trivial) (by trivial) (by rw[Int.toNat_natCast,jH,List.length_replicate];trivial),Int.toNat_natCast,jH]
   exact aE rfl (aE rfl (vr (rs (by rw[List.length_set,hl];decide)) rfl) e) (cu (m:=1) (n:=6) (by decide) (by rw[List.length_replicate];trivial) (by decide))
 rw[this]
 unfold lY
 rw[List.map_map];rfl
end
end
section
noncomputable def D0(w:Int)(d:Nat):List Nat:=if 0<w then[[],[43],[48],[43,48]].getD (d % 4) []else[]
noncomputable def oP(w:Int)(d:Nat):List Nat:=D0 w d++EX w
noncomputable def IW(w:Int)(e:Nat):Bool:=let p:=D0 w e++EX w
 decide (p.length≤8) && !p.isEmpty&&p.all pN&&decide (PySem.intText? (aj p)=some w)
noncomputable def Gc(f:Nat):Int:=if f<9 then(f:Int) - 9 else(f:Int) - 8
theorem Ej:(List.range 18).all (fun f=>(List.range 4).all fun e=>IW (Gc f) e)=true:=by decide +kernel
theorem F9(w:Int)(d:Nat):D0 w d=D0 w (d % 4):=by unfold D0;rw[Nat.mod_mod]
theorem cb(c:Int)(k d:Nat):dy (oP (gP c k) d) (gP c k):=by
 have h1:=List.all_eq_true.mp (List.all_eq_true.mp Ej (lu c k) (List.mem_range.mpr (wF c (b:=18) (by decide) k))) (d % 4) (List.mem_range.mpr (by trivial))
 have h2:oP (gP c k) d=D0 (Gc (lu c k)) (d % 4)++EX (Gc (lu c k)):=by unfold oP;rw[F9];rfl
 unfold IW at h1
 simp only[Bool.and_eq_true,decide_eq_true_eq,List.all_eq_true]at h1
 obtain⟨⟨⟨h3,h4⟩,h5⟩,h6⟩:=h1
 rw[h2]
 exact⟨h3,fun e=>by rw[e]at h4;exact Bool.noConfusion h4,h5,h6⟩
theorem fc(s:List Nat)(k:Nat):fL (lY s k) where
 ok:=⟨by unfold lY;rw[List.length_map,List.length_range];exact l5 s k,fun t ht=>by
  obtain⟨j,hj,rfl⟩:=List.mem_map.mp ht
  have h1:=List.mem_range.mp hj
  have h2:=l5 s k
  show(List.replicate j 98).length+1≤8
  rw[List.length_replicate];trivial⟩
 tok:=fun t ht=>by
  obtain⟨j,hj,rfl⟩:=List.mem_map.mp ht
  refine⟨fun x hx => ?_,List.cons_ne_nil _ _⟩
  rcases List.mem_cons.mp hx with h | h
  ·rw[h];rfl
  ·rw[List.eq_of_mem_replicate h];rfl
section
variable{σ:St}{η:be}
theorem xR{W:Nat→Int}{d:Nat→Nat}(hl:η.length=63)(hu:dk η 35=true)(h5:η[5]? = some (.list (kQ W)))(h6:η[6]? = some (dq fun k=>.int (d k:Nat))) :
  aK [35] (aN (au (aa (mK (.int 7)) ak) aR) (aV 35)) (bA (tK true) (ay (hK (aW .Gt (ao (mV 5) (mV 35)) (mK (.int 0))) (ao (bz (aa (mK (.str [])) (aa (mK (.str [43])) (aa (mK (.str [48])) (aa (mK (.str [43,48])) ak))))) (ap .Mod (ao (mV 6) (mV 35)) (mK (.int 4)))) (mK (.str []))))) η σ=some (dq fun k=>.str (D0 (W k) (d k)),σ):=by
 refine c7 hl 35 (by decide) hu _ fun k hk => ?_
 have g:(η.set 35 (AV.int (k:Nat)))[35]? = some (.int (k:Nat)):=rs (by rw[hl];decide)
 have g5:=rd (x:=AV.int (k:Nat)) h5 (i:=35) (by decide)
 have g6:=rd (x:=AV.int (k:Nat)) h6 (i:=35) (by decide)
 unfold D0
 by_cases h:0<W k
 ·rw[if_pos h]
  refine jl (aB (ax (vr g5 rfl) (vr g rfl) (q8 hk σ)) rfl ((EZ).trans (by rw[decide_eq_true h]))) ?_
  have i4:=jo (σ:=σ) (d k) (j:=4) 4 rfl (by decide)
  refine ax rfl (aE (ax (vr g6 rfl) (vr g rfl) (wP _ hk)) rfl i4) ?_
  have:d k % 4=0∨d k % 4=1∨d k % 4=2∨d k % 4=3:=by trivial
  rcases this with e | e | e | e <;> rw[e] <;> rfl
 ·rw[if_neg h]
  exact jm (aB (ax (vr g5 rfl) (vr g rfl) (q8 hk σ)) rfl ((EZ).trans (by rw[decide_eq_false h]))) rfl
theorem xH{c:Int}{d:Nat→Nat}(hl:η.length=63)(hu:dk η 36=true)(h5:η[5]? = some (.list (kQ (gP c))))(h10:η[10]? = some (dq fun k=>.str (D0 (gP c k) (d k)))) :
  aK [36] (aN (au (aa (mK (.int 7)) ak) aR) (aV 36)) (bA (tK true) (ay (ap .Add (ao (mV 10) (mV 36)) (au (aa (ao (mV 5) (mV 36)) ak) Dp)))) η σ=some (dq fun k=>.str (oP (gP c k) (d k)),σ):=by
 refine c7 hl 36 (by decide) hu _ fun k hk => ?_
 have g:(η.set 36 (AV.int (k:Nat)))[36]? = some (.int (k:Nat)):=rs (by rw[hl];decide)
 have hw:=tO c k
 have:=(cb c k (d k)).len
 exact aE (ax (vr (rd h10 (by decide)) rfl) (vr g rfl) (wP _ hk)) (bc (am (ax (vr (rd h5 (by decide)) rfl) (vr g rfl) (q8 hk σ)) aJ) (G9 (by trivial))) (ik (Nat.le_trans this (by decide)))
theorem sq{s:List Nat}{c:Int}{d:Nat→Nat}(hl:η.length=63)(hu:dk η 37=true)(h6:η[6]? = some (dq fun k=>.int (d k:Nat)))(h9:η[9]? = some (dq fun k=>.list ((lY s k).map .str)))(h11:η[11]? = some (dq fun k=>.str (oP (gP c k) (d k)))) :
  aK [37] (aN (au (aa (mK (.int 7)) ak) aR) (aV 37)) (bA (tK true) (ay (au (aa (mV 37) (aa (ao (mV 9) (mV 37)) (aa (ao (mV 11) (mV 37)) (aa (ao (mV 6) (mV 37)) ak)))) (eg)))) η σ=some (dq fun k=>.str (iR k (lY s k) (oP (gP c k) (d k)) (d k)),σ):=by
 refine c7 hl 37 (by decide) hu _ fun k hk => ?_
 have g:(η.set 37 (AV.int (k:Nat)))[37]? = some (.int (k:Nat)):=rs (by rw[hl];decide)
 exact bc (am (vr g rfl) (am (ax (vr (rd h9 (by decide)) rfl) (vr g rfl) (wP _ hk)) (am (ax (vr (rd h11 (by decide)) rfl) (vr g rfl) (wP _ hk)) (am (ax (vr (rd h6 (by decide)) rfl) (vr g rfl) (wP _ hk)) aJ)))) (qc k (d k) (lY s k) _ hk (fc s k).ok (cb c k (d k)).len)
noncomputable def lX(k:Nat)(a:List Nat):List Nat:=List.replicate (k % 2) 34++a++List.replicate (k % 2) 34
theorem pK(k:Nat)(a:List Nat)(h:a.head? = some 50):yB (lX k a)=a:=by
 unfold yB lX
 have:k % 2=0∨k % 2=1:=by trivial
 rcases this with e | e <;> rw[e]
 ·rw[List.replicate_zero,List.nil_append,List.append_nil,if_neg (fun q=>by rw[h]at q;exact absurd q.1 (by decide))]
 ·have hl:([34]++a ++ [34]:List Nat).getLast? = some 34:=by rw[List.getLast?_append];rfl
  show(if([34]++a ++ [34]:List Nat).head? = some 34∧_ then _ else _)=_
  rw[if_pos ⟨rfl,hl⟩]
  show(a ++ [34]).take ((a ++ [34]).length+1 - 2)=a
  rw[List.length_append,show a.length + [34].length+1 - 2=a.length by show a.length+1+1 - 2=_;trivial,List.take_left]
theorem FK(k:Nat)(a:List Nat)(h:a.head? = some 50)(hl:a.length≤200):lX k a ≠ []∧(lX k a).length≤202∧(lX k a = [34]→False):=by
 have h1:1≤a.length:=by cases a with | nil=>cases h | cons=>exact Nat.le_add_left _ _
 have hq:(lX k a).length=2 * (k % 2)+a.length:=by unfold lX;rw[List.length_append,List.length_append,List.length_replicate];trivial
 refine⟨fun e=>by rw[e]at hq;have:0=2 * (k % 2)+a.length:=hq;trivial,by trivial,fun e => ?_⟩
 have:yB (lX k a)=a:=pK k a h
 rw[e]at this
 rw[← this]at h1
 exact absurd h1 (by decide)
noncomputable def jG:List Nat := [50,50,57,32,111,107,61,41,32,70,76,65,71,83,32,40,32,32,32,49,32,41]
theorem xJ{top:List Nat}(ht:top.length≤100)(h7:η[7]? = some (.str top)):jP (aa (ap .Add (mV 7) (mK (.str [61,50,50,57,32,111,107,61,41,32,70,76,65,71,83,32,40,32,32,32,49,32,41]))) ak) η σ=some (.cell σ.length,σ ++ [.list [.str (fq (top,jG))]]) :=
 ve (am (aE (vr h7 rfl) rfl (cu (m:=100) (n:=30) ht (by decide) (by decide))) aJ) rfl
theorem AN{pt an:Nat→List Nat}(hp:∀k,k<7→(pt k).length≤200)(ha:∀k,k<7→(an k).length≤200)(hl:η.length=63)(hu:dk η 38=true)(h8:η[8]? = some (dq fun k=>.str (pt k)))(h12:η[12]? = some (dq fun k=>.str (an k))) :
  aK [38] (aN (au (aa (mK (.int 7)) ak) aR) (aV 38)) (bA (tK true) (ay (ap .Add (ap .Add (ap .Add (ap .Add (ao (mV 8) (mV 38)) (mK (.str [61]))) (ap .Mult (mK (.str [34])) (ap .Mod (mV 38) (mK (.int 2))))) (ao (mV 12) (mV 38))) (ap .Mult (mK (.str [34])) (ap .Mod (mV 38) (mK (.int 2))))))) η σ=some (dq fun k=>.str (fq (pt k,lX k (an k))),σ):=by
 refine c7 hl 38 (by decide) hu _ fun k hk => ?_
 have g:(η.set 38 (AV.int (k:Nat)))[38]? = some (.int (k:Nat)):=rs (by rw[hl];decide)
 have k1:=jo (σ:=σ) k (j:=2) 2 rfl (by decide)
 have mu:bF .Mult (.str [34]) (.int ((k % 2:Nat):Int)) σ=some (.str (List.replicate (k % 2) 34),σ):=by
  have:k % 2=0∨k % 2=1:=by trivial
  rcases this with h | h <;> rw[h] <;> rfl
 have hr:(List.replicate (k % 2) 34).length≤1:=by rw[List.length_replicate];trivial
 have q:=aE (m:=mK (.str [34])) rfl (aE (n:=mK (.int 2)) (vr g rfl) rfl k1) mu
 have e:fq (pt k,lX k (an k))=pt k ++ [61]++List.replicate (k % 2) 34++an k++List.replicate (k % 2) 34:=by unfold fq lX;rw[List.append_assoc,List.append_assoc,List.append_assoc,List.append_assoc];rfl
 rw[e]
 have l1:=hp k hk
 have l2:=ha k hk
 refine aE (aE (aE (aE (ax (vr (rd h8 (by decide)) rfl) (vr g rfl) (wP _ hk)) rfl (cu l1 (n:=1) (by decide) (by decide))) q (cu (m:=201) (cX (n:=1) l1 (show[61].length≤1 from Nat.le_refl 1)) hr (by decide))) (ax (vr (rd h12 (by decide)) rfl) (vr g rfl) (wP _ hk)) (cu (m:=202) (cX (cX (n:=1) l1 (show[61].length≤1 from Nat.le_refl 1)) hr) l2 (by decide))) q (cu (m:=402) (cX (cX (cX (n:=1) l1 (show[61].length≤1 from Nat.le_refl 1)) hr) l2) hr (by decide))
theorem oO{pt an:Nat→List Nat}(ha:∀k,k<7→(an k).head? = some 50):∀(L:List Nat) (D:List (List Nat×AV)),(∀k∈L,k<7)→(D.map (·.1)++L.map pt).Nodup→(L.map fun k=>(pt k,lX k (an k))).foldl nY D=D++L.map fun k=>(pt k,.str (an k))
 | [],D,_,_=>(List.append_nil D).symm
 | k::L,D,h7,h=>by
  have hf:pt k∉D.map (·.1):=fun m=>(List.nodup_append.mp h).2.2 _ m _ List.mem_cons_self rfl
  show(L.map fun k=>(pt k,lX k (an k))).foldl nY (gM D (pt k) (.str (yB (lX k (an k)))))=_
  rw[pK k _ (ha k (h7 k List.mem_cons_self)),gr hf,oO (pt:=pt) ha L (D ++ [(pt k,AV.str (an k))]) (fun j hj=>h7 j (List.mem_cons_of_mem _ hj)) (by rw[List.map_append,List.append_assoc];exact h),List.append_assoc]
  rfl
noncomputable def E6(pt an:Nat→List Nat):List (List Nat×AV):=(List.range 7).map fun k=>(pt k,.str (an k))
theorem Df{pt an:Nat→List Nat}{top:List Nat}(h0:pt 0=top)(hp:∀k,k<7→(pt k).length≤200∧61∉pt k)(hn:((List.range 7).map pt).Nodup)(ha:∀k,k<7→(an k).length≤200∧(an k).head? = some 50) :
  bS [.list (.str (fq (top,jG))::(List.range 7).map fun k=>.str (fq (pt k,lX k (an k))))] σ=some (.dict (E6 pt an),σ ++ [.dead (.dict (E6 pt an))]):=by
 have h:=jI (σ:=σ) ((top,jG)::(List.range 7).map fun k=>(pt k,lX k (an k))) (fun p hp'=>by
  rcases List.mem_cons.mp hp' with rfl | hp'
  ·obtain⟨l,n⟩:=hp 0 (by decide)
   rw[h0]at l n
   exact⟨n,by show jG ≠ [];decide,by show top.length+22≤_;trivial,by show jG = [34]→False;decide⟩
  ·obtain⟨k,hk,rfl⟩:=List.mem_map.mp hp'
   have hk:=List.mem_range.mp hk
   obtain⟨l,n⟩:=hp k hk
   obtain⟨q1,q2,q3⟩:=FK k (an k) (ha k hk).2 (ha k hk).1
   exact⟨n,q1,by show(pt k).length+(lX k (an k)).length≤_;trivial,q3⟩) (by rw[List.length_cons,List.length_map];decide)
 have e:((top,jG)::(List.range 7).map fun k=>(pt k,lX k (an k))).foldl nY []=E6 pt an:=by
  show((List.range 7).map fun k=>(pt k,lX k (an k))).foldl nY [(top,.str jG)]=_
  show((List.range' 1 6).map fun k=>(pt k,lX k (an k))).foldl nY (gM [(top,.str jG)] (pt 0) (.str (yB (lX 0 (an 0)))))=_
  rw[pK 0 _ (ha 0 (by decide)).2,show gM [(top,.str jG)] (pt 0) (.str (an 0)) = [(pt 0,.str (an 0))] by
   rw[h0];unfold gM
   show(if((top==top)||false)=true then[if(top==top)=true then(top,AV.str (an 0))else(top,AV.str jG)]else _)=_
   rw[beq_self_eq_true];rfl]
  exact oO (fun k hk=>(ha k hk).2) _ _ (fun k hk=>by have:=(List.mem_range'_1.mp hk).2;trivial) hn
 rw[e,List.map_cons,List.map_map]at h
 exact h
end
end
section
noncomputable def It(s:List Nat):Bool:=decide (((List.range' 1 6).map fun k=>aS s 8 k []).Nodup)&&(List.range' 1 6).all fun k=>decide (aS s 8 k [] ≠ [])&&decide (aS s 8 k [] ≠ [47])&&decide (aS s 7 k []=aS s 8 k [])&&decide (61∉aS s 8 k [])
noncomputable def Iu(s:List Nat):Bool:=(List.range' 1 6).all fun b=>(un []).isPrefixOf (aS s 8 b [])&&(un [47]).isPrefixOf (aS s 8 b []) && !(un (aS s 8 b [])).isPrefixOf [] && !(un (aS s 8 b [])).isPrefixOf [47]&&decide (0∈eK s 7 b) &&
 (List.range' 1 6).all fun a=>(decide (a=b)||(un (aS s 8 a [])).isPrefixOf (aS s 8 b []))==(decide (a=b)||decide (a∈eK s 7 b))
set_option maxRecDepth 1000000 in
theorem B3:d5.all It=true:=by decide +kernel
set_option maxRecDepth 1000000 in
theorem B4:d5.all Iu=true:=by decide +kernel
noncomputable def Jb(s:List Nat):Bool:=decide ((jd s).Pairwise fun x y=>y∉eK s 7 x)
set_option maxRecDepth 1000000 in
theorem El:d5.all Jb=true:=by decide +kernel
section
variable{s:List Nat}{top:List Nat}
theorem zY{k n:Nat}(h:k≠0):aS s (n+1) k top=aS s (n+1) k []:=by unfold aS;rw[if_neg h,if_neg h]
theorem gY:aS s 8 0 top=top:=if_pos rfl
structure GM(s top:List Nat):Prop where
 top':top = []∨top = [47]
 nd:((List.range 7).map fun k=>aS s 8 k top).Nodup
 no61:∀k,k<7→61∉aS s 8 k top
 len:∀k,k<7→(aS s 8 k top).length≤100
 step:∀k,1≤k→k<7→aS s 8 k top=(if aS s 8 (cK s k) top = [47]then[]else aS s 8 (cK s k) top)++47::yE (vz s k)
 sub:∀a b,a<7→b<7→pQ [104] (aS s 8 a top) [104] (aS s 8 b top)=(decide (a=b)||decide (a∈eK s 7 b))
 pw:(jd s).Pairwise fun x y=>y∉eK s 7 x
theorem r7:List.range 7=0::List.range' 1 6:=rfl
theorem DY{k:Nat}(h1:1≤k)(h2:k<7):k∈List.range' 1 6:=List.mem_range'_1.mpr ⟨h1,by trivial⟩
theorem Ja(h:s∈d5)(S:c9 s)(ht:top = []∨top = [47]):GM s top:=by
 have h1:=List.all_eq_true.mp B3 s h
 have h2:=List.all_eq_true.mp B4 s h
 have h3:=of_decide_eq_true (List.all_eq_true.mp El s h)
 obtain⟨hn,h1⟩:=Bool.and_eq_true_iff.mp h1
 have hn:=of_decide_eq_true hn
 have P:∀k,1≤k→k<7→aS s 8 k [] ≠ []∧aS s 8 k [] ≠ [47]∧aS s 7 k []=aS s 8 k []∧61∉aS s 8 k []:=fun k k1 k2=>by
  have:=List.all_eq_true.mp h1 k (DY k1 k2)
  obtain⟨a,d⟩:=Bool.and_eq_true_iff.mp this
  obtain⟨a,c⟩:=Bool.and_eq_true_iff.mp a
  obtain⟨a,b⟩:=Bool.and_eq_true_iff.mp a
  exact⟨of_decide_eq_true a,of_decide_eq_true b,of_decide_eq_true c,of_decide_eq_true d⟩
 have pk:∀k,1≤k→aS s 8 k top=aS s 8 k []:=fun k hk=>zY (by trivial)
 refine⟨ht,?_,?_,?_,?_,?_,h3⟩
 ·rw[r7,List.map_cons,gY]
  rw[List.map_congr_left (g:=fun k=>aS s 8 k []) fun k hk=>pk k (List.mem_range'_1.mp hk).1]
  refine List.nodup_cons.mpr ⟨fun m => ?_,hn⟩
  obtain⟨k,hk,e⟩:=List.mem_map.mp m
  obtain⟨k1,k2⟩:=List.mem_range'_1.mp hk
  obtain⟨a,b,_⟩:=P k k1 (by trivial)
  rcases ht with e' | e' <;> rw[e']at e
  ·exact a e
  ·exact b e
 ·intro k hk
  by_cases h0:k=0
  ·rw[h0,gY];rcases ht with e | e <;> rw[e] <;> decide
  ·rw[pk k (by trivial)];exact(P k (by trivial) hk).2.2.2
 ·intro k hk
  have:=rQ s S 8 k top hk
  have:top.length≤1:=by rcases ht with e | e <;> rw[e] <;> decide
  trivial
 ·intro k k1 k2
  have hp:=S.par k k1 k2
  have e:aS s 8 k top=aS s 7 (cK s k) []++47::yE (vz s k):=if_neg (show k≠0 by trivial)
  rw[e]
  congr 1
  by_cases h0:cK s k=0
  ·rw[h0,gY]
   rcases ht with e | e <;> rw[e] <;> rfl
  ·obtain⟨a,b,c,_⟩:=P (cK s k) (by trivial) (by trivial)
   rw[pk _ (by trivial),if_neg b,c]
 ·intro a b ha hb
  by_cases e:a=b
  ·rw[e];unfold pQ;rw[if_pos ⟨rfl,rfl⟩,decide_eq_true rfl];rfl
  ·have hne:aS s 8 a top≠aS s 8 b top:=fun q=>e (by
    have hnd:((List.range 7).map fun k=>aS s 8 k top).Nodup:=by
     rw[r7,List.map_cons,gY]
     rw[List.map_congr_left (g:=fun k=>aS s 8 k []) fun k hk=>pk k (List.mem_range'_1.mp hk).1]
     refine List.nodup_cons.mpr ⟨fun m => ?_,hn⟩
     obtain⟨k,hk,e⟩:=List.mem_map.mp m
     obtain⟨k1,k2⟩:=List.mem_range'_1.mp hk
     obtain⟨a,b,_⟩:=P k k1 (by trivial)
     rcases ht with e' | e' <;> rw[e']at e
     ·exact a e
     ·exact b e
    have h1:((List.range 7).map fun k=>aS s 8 k top)[a]? = some (aS s 8 a top):=cW _ ha
    have h2:((List.range 7).map fun k=>aS s 8 k top)[b]? = some (aS s 8 b top):=cW _ hb
    exact(List.getElem?_inj (by rw[List.length_map,List.length_range];exact ha) hnd).mp (by rw[h1,h2,q]))
   unfold pQ
   rw[if_neg (fun q=>hne q.2),if_pos rfl,decide_eq_false e,Bool.false_or]
   by_cases b0:b=0
   ·rw[b0,gY]
    have hp:=List.all_eq_true.mp h2 a (DY (by trivial) ha)
    obtain⟨hp,_⟩:=Bool.and_eq_true_iff.mp hp
    obtain⟨hp,_⟩:=Bool.and_eq_true_iff.mp hp
    obtain⟨hp,q2⟩:=Bool.and_eq_true_iff.mp hp
    obtain⟨hp,q1⟩:=Bool.and_eq_true_iff.mp hp
    rw[pk a (by trivial),show decide (a∈eK s 7 0)=false from rfl]
    rcases ht with e' | e' <;> rw[e']
    ·exact(Bool.not_eq_true' _).mp q1
    ·exact(Bool.not_eq_true' _).mp q2
   ·have hp:=List.all_eq_true.mp h2 b (DY (by trivial) hb)
    obtain⟨hp,q6⟩:=Bool.and_eq_true_iff.mp hp
    obtain⟨hp,q5⟩:=Bool.and_eq_true_iff.mp hp
    obtain⟨hp,_⟩:=Bool.and_eq_true_iff.mp hp
    obtain⟨hp,_⟩:=Bool.and_eq_true_iff.mp hp
    obtain⟨q1,q2⟩:=Bool.and_eq_true_iff.mp hp
    rw[pk b (by trivial)]
    by_cases a0:a=0
    ·rw[a0,gY,q5]
     rcases ht with e' | e' <;> rw[e']
     ·exact q1
     ·exact q2
    ·have:=List.all_eq_true.mp q6 a (DY (by trivial) ha)
     rw[decide_eq_false e,Bool.false_or,Bool.false_or]at this
     rw[pk a (by trivial)]
     exact eq_of_beq this
theorem D2{kd:Nat→List Nat} : ∀(n j:Nat),jW kd n j=true→jW kd (n+1) j=true∧kP kd (n+1) j=kP kd n j:=by
 intro l₀
 induction l₀ with
 | zero =>
  intro _ h
  exact Bool.noConfusion h
 | succ n ih₀ =>
  intro j h
  have h1:∀c∈kd j,jW kd n c=true:=List.all_eq_true.mp h
  refine⟨List.all_eq_true.mpr fun c hc=>(ih₀ c (h1 c hc)).1,?_⟩
  show j::(kd j).flatMap (kP kd (n+1))=j::(kd j).flatMap (kP kd n)
  congr 1
  have:∀l:List Nat,(∀c∈l,jW kd n c=true)→l.flatMap (kP kd (n+1))=l.flatMap (kP kd n):=by
   intro l
   induction l with
   | nil=>intro _;rfl
   | cons c l ih =>
    intro hl
    rw[List.flatMap_cons,List.flatMap_cons,(ih₀ c (hl c List.mem_cons_self)).2,ih fun x hx=>hl x (List.mem_cons_of_mem _ hx)]
  exact this _ h1
noncomputable def FY(s:List Nat)(c:Nat):List Nat:=yE (min (vz s c) 6)
theorem Ar{c:Nat}(h:c<7):FY s c=yE (vz s c):=by unfold FY;rw[Nat.min_eq_left (by have:=vy s c;trivial)]
theorem sa(H:GK s){k:Nat}(hk:k<7):(kids s k).map (FY s)=lY s k:=by
 unfold lY
 rw[← H.names k hk]
 exact List.map_congr_left fun c hc=>Ar (by have:=(List.mem_range'_1.mp (List.mem_filter.mp hc).1).2;trivial)
noncomputable def tq(s:List Nat)(c:Int)(d:Nat→Nat)(k:Nat):List Nat:=iR k (lY s k) (oP (gP c k) (d k)) (d k)
noncomputable def pC(s:List Nat)(d:Nat→Nat)(k:Nat):Bool:=sW k (d k) (lY s k)
noncomputable def oI(s:List Nat)(c:Int)(d:Nat→Nat)(k:Nat):AV:=if pC s d k then .tup [.str [104],.int (gP c k)]else .tup [.str (tq s c d k)]
theorem BR(i:Nat):asc (yE i)=true:=List.all_eq_true.mpr fun x hx=>by
 rcases List.mem_cons.mp hx with h | h
 ·rw[h];rfl
 ·rw[List.eq_of_mem_replicate h];rfl
theorem Gj(H:GK s)(P:GM s top)(c:Int)(d:Nat→Nat):E7 (E6 (fun k=>aS s 8 k top) (tq s c d)) (fun k=>aS s 8 k top) (tq s c d) (fun k=>oP (gP c k) (d k)) (FY s) (kids s) (oI s c d) where
 look:=fun j hj=>f8 (pt:=fun k=>aS s 8 k top) (f:=fun k=>AV.str (tq s c d k)) P.nd (List.mem_range.mpr hj)
 asc:=fun j hj=>⟨tn (fc s j) (cb c j (d j)),Nat.le_trans (kg (fc s j) (cb c j (d j))) (by decide)⟩
 flags:=fun j hj=>by rw[sa H hj];exact Gb (fc s j) (cb c j (d j))
 told:=fun j hj σ=>De (fc s j) (cb c j (d j))
 kids:=fun j hj k hk=>by
  obtain⟨h1,h2⟩:=List.mem_filter.mp hk
  obtain⟨k1,k2⟩:=List.mem_range'_1.mp h1
  have k2:k<7:=by trivial
  have e:cK s k=j:=of_decide_eq_true h2
  refine⟨k2,?_⟩
  have:=P.step k k1 k2
  rw[e]at this
  rw[Ar k2];exact this
 name:=fun k=>⟨BR _,List.cons_ne_nil _ _,by show(List.replicate (min (vz s k) 6) 98).length+1≤100;rw[List.length_replicate];trivial⟩
 path:=fun j hj=>Nat.le_trans (P.len j hj) (by decide)
 few:=fun j hj=>Nat.le_trans (l5 s j) (by decide)
end
end
section
section
variable{σ:St}{η:be}{s:List Nat}{top:List Nat}
theorem HK{l:List AV}(h:∀x∈l,de 8 x x=some true):bW .NotEq (.list l) (.list l) σ=some (.bool false,σ):=pv (Bh h) rfl
theorem DN{a:aO}{x:AV}{f:Nat→AV}{m:ME}{R:MS}(h13:η[13]? = some (.cell 1))(hm:m η [a,.list [x]]=some (dq f,[a,.list [x]])) :
  ae (dM (br "list" (mV 13) (aa m ak) jM)) R η [a,.list [x]]=R η [a,.list (x::(List.range 7).map f)]:=by
 refine kR (a:=.none) (bN (vr h13 rfl) rfl (am hm aJ) ?_)
 show(if dX ([x].length+((List.range 7).map f).length)then some (AV.none,[a,.list ([x]++(List.range 7).map f)])else none)=_
 rw[List.length_map]
 exact if_pos (show dX (1+7)=true by decide)
theorem xI{pt an:Nat→List Nat}{a:aO}(h0:pt 0=top)(hp:∀k,k<7→(pt k).length≤200∧61∉pt k)(hn:((List.range 7).map pt).Nodup)(ha:∀k,k<7→(an k).length≤200∧(an k).head? = some 50)(h13:η[13]? = some (.cell 1)) :
  au (aa (gC (mV 13)) ak) (bS) η [a,.list (.str (fq (top,jG))::(List.range 7).map fun k=>.str (fq (pt k,lX k (an k))))] =
   some (.dict (E6 pt an),[a,.dead (.list (.str (fq (top,jG))::(List.range 7).map fun k=>.str (fq (pt k,lX k (an k))))),.dead (.dict (E6 pt an))]):=by
 refine bc (am (a:=.list (.str (fq (top,jG))::(List.range 7).map fun k=>.str (fq (pt k,lX k (an k))))) (σ1 := [a,.dead (.list (.str (fq (top,jG))::(List.range 7).map fun k=>.str (fq (pt k,lX k (an k)))))]) ?_ aJ) (Df h0 hp hn ha)
 show oB (mV 13 η _) (fun a σ=>some (Ci a σ))=_
 rw[vr h13 rfl];rfl
theorem xQ{pt an:Nat→List Nat}(h8:η[8]? = some (dq fun k=>.str (pt k)))(h12:η[12]? = some (dq fun k=>.str (an k)))(h14:η[14]? = some (.dict (E6 pt an))):aW .NotEq (qp (mV 14)) (Dw (mV 8) (mV 12)) η σ=some (false,σ):=by
 have h1:qp (mV 14) η σ=some (.list ((List.range 7).map fun k=>.tup [.str (pt k),.str (an k)]),σ):=by
  show oB (mV 14 η σ) _=_
  rw[vr h14 rfl];rfl
 have h2:Dw (mV 8) (mV 12) η σ=some (.list ((List.range 7).map fun k=>.tup [.str (pt k),.str (an k)]),σ):=by
  show oB (mV 8 η σ) _=_
  rw[vr h8 rfl]
  show oB (mV 12 η σ) _=_
  rw[vr h12 rfl];rfl
 exact aB h1 h2 (HK fun x hx=>by
  obtain⟨k,_,rfl⟩:=List.mem_map.mp hx
  exact jY fun y hy=>by
   rcases List.mem_cons.mp hy with h | hy
   ·rw[h];exact congrArg some (beq_self_eq_true _)
   ·rw[List.mem_singleton.mp hy];exact congrArg some (beq_self_eq_true _))
theorem IG:∀k,k<7→bW .In (.int (k:Nat)) (.tup [.int 0,.int 6]) σ=some (.bool (k==0||k==6),σ)
 | 0,_=>rfl
 | 1,_=>rfl
 | 2,_=>rfl
 | 3,_=>rfl
 | 4,_=>rfl
 | 5,_=>rfl
 | 6,_=>rfl
 | k+7,h=>absurd h (by trivial)
theorem DR{d:Nat→Nat}(hl:η.length=63)(hu:dk η 39=true)(h6:η[6]? = some (dq fun k=>.int (d k:Nat)))(h9:η[9]? = some (dq fun k=>.list ((lY s k).map .str))) :
  aK [39] (aN (au (aa (mK (.int 7)) ak) aR) (aV 39)) (bA (eC (aW .Lt (au (aa (ao (mV 9) (mV 39)) ak) dH) (mK (.int 3))) (eC (tJ (aW .NotEq (ap .Mod (ap .FloorDiv (ao (mV 6) (mV 39)) (mK (.int 4))) (mK (.int 4))) (mK (.int 3))) (tJ (aW .In (mV 39) (d8 (aa (mK (.int 0)) (aa (mK (.int 6)) ak)))) (tK false))) (tK true))) (ay (mV 39))) η σ =
   some (.list (dI (fj (pC s d))),σ):=by
 refine cF hl 39 hu (List.range 7) (fun(k:Nat)=>.int k) (pC s d) (fun(k:Nat)=>.int k) (by decide) (by decide) FH (cG 7 (by decide)) (fun k hk => ?_) fun k hk ω=>vr (rs (by rw[hl];decide)) rfl
 have hk:=List.mem_range.mp hk
 have g:(η.set 39 (AV.int (k:Nat)))[39]? = some (.int (k:Nat)):=rs (by rw[hl];decide)
 have hlen:dH [.list ((lY s k).map .str)] σ=some (.int ((lY s k).length:Nat),σ):=by
  have:=je (σ:=σ) (xs:=(lY s k).map .str) (by rw[List.length_map];have:=(fc s k).ok.len;trivial)
  rwa [List.length_map]at this
 have d4:=qH (σ:=σ) (d k) (j:=4) 4 rfl (by decide) (by decide)
 have m4:=jo (σ:=σ) (d k / 4) (j:=4) 4 rfl (by decide)
 have t1:aW .Lt (au (aa (ao (mV 9) (mV 39)) ak) dH) (mK (.int 3)) (η.set 39 (.int (k:Nat))) σ=some (decide ((lY s k).length<3),σ) :=
  aB (bc (am (ax (vr (rd h9 (by decide)) rfl) (vr g rfl) (wP _ hk)) aJ) hlen) rfl ((BF).trans (by rw[show(3:Int)=((3:Nat):Int)from rfl];congr 3;exact decide_eq_decide.mpr Int.ofNat_lt))
 have t2:aW .NotEq (ap .Mod (ap .FloorDiv (ao (mV 6) (mV 39)) (mK (.int 4))) (mK (.int 4))) (mK (.int 3)) (η.set 39 (.int (k:Nat))) σ=some (!decide (d k / 4 % 4=3),σ) :=
  aB (aE (aE (ax (vr (rd h6 (by decide)) rfl) (vr g rfl) (wP _ hk)) rfl d4) rfl m4) rfl ((px).trans (by rw[show(3:Int)=((3:Nat):Int)from rfl,eG]))
 have t3:aW .In (mV 39) (d8 (aa (mK (.int 0)) (aa (mK (.int 6)) ak))) (η.set 39 (.int (k:Nat))) σ=some (k==0||k==6,σ):=aB (vr g rfl) rfl (IG k hk)
 have:=pn t1 (pn (D5 t2 (D5 t3 (rfl:tK false _ σ=some (false,σ)))) (rfl:tK true _ σ=some (true,σ)))
 rw[this]
 unfold pC sW yC
 rw[Bool.and_true,Bool.or_false,Bool.not_and,Bool.not_not]
theorem DL{a b c:aO}{R:MS}(hl:η.length=63):ae (aX (d8 (aa mW (aa mW ak))) (ov 2 (bJ (aV 16) (bJ (aV 17) io)))) R η [a,b,c]=R ((η.set 16 (.cell 3)).set 17 (.cell 4)) [a,b,c,.dict [],.dict []] :=
 gm (a:=.tup [.cell 3,.cell 4]) (σ1 := [a,b,c,.dict [],.dict []]) rfl (E1 (by rw[hl];decide) (by rw[hl];decide))
theorem law_crawl{R:MS}(H:GK s)(P:GM s top)(T:qO s)(w:Int)(d:Nat→Nat){a b c:aO}(h7:η[7]? = some (.str top))(h14:η[14]? = some (.dict (E6 (fun k=>aS s 8 k top) (tq s w d))))(h16:η[16]? = some (.cell 3))(h17:η[17]? = some (.cell 4)) :
  ae (dM (au (aa (mV 14) (aa (mV 7) (aa (mV 16) (aa (mV 17) ak)))) (cf 9))) R η [a,b,c,.dict [],.dict []] =
   R η [a,b,c,.dict (DA (fun k=>aS s 8 k top) (FY s) (fun k=>oP (gP w k) (d k)) (kids s) (jd s)),.dict (DB (fun k=>aS s 8 k top) (oI s w d) (jd s))]:=by
 obtain⟨f1,f2⟩:=D2 8 0 H.fits
 have ho:([]++kP (kids s) 9 0)=jd s:=f2
 have hsub:(jd s).Perm (List.range 7):=((List.perm_ext_iff_of_nodup List.nodup_range T.nd).mpr fun k=>by rw[List.mem_range,T.mem]).symm
 have:=Dg (σ := [a,b,c,.dict [],.dict []]) (a:=3) (b:=4) (Gj H P w d) (by show 3<5;decide) (by show 4<5;decide) (by decide) 9 0 [] (by decide) f1 (by rw[ho];exact(hsub.map _).nodup_iff.mpr P.nd) (by
  show 0+(kP (kids s) 9 0).length≤_
  rw[f2,show(kP (kids s) 8 0).length=7 from hsub.length_eq.trans (by decide)];decide)
 rw[ho]at this
 refine kR (a:=.none) (bc (am (vr h14 rfl) (am (vr h7 rfl) (am (vr h16 rfl) (am (vr h17 rfl) aJ)))) ?_)
 have e0:aS s 8 0 top=top:=gY
 rw[e0]at this
 exact this
end
end
section
section
variable{σ:St}{η:be}{s:List Nat}{top:List Nat}
theorem xF{α:Type}{mk mv:ME}{b:α→aA}{u:α→be}{kf:α→List Nat}{f:α→AV} : ∀(as:List α) (acc:List (List Nat×AV)),(∀a∈as,b a η σ=some (u a,σ))→(∀a∈as,mk (u a) σ=some (.str (kf a),σ))→(∀a∈as,mv (u a) σ=some (f a,σ)) →
  (acc.map (·.1)++as.map kf).Nodup→acc.length+as.length≤1000→dE (as.map b) (bA (tK true) (jU mk mv)) η σ (.dict acc)=some (σ,.dict (acc++as.map fun a=>(kf a,f a))):=by
 intro l₀
 induction l₀ with
 | nil =>
  intro acc _ _ _ _ _
  rw[List.map_nil,List.map_nil,List.append_nil];rfl
 | cons a as ih₀ =>
  intro acc hb hk hv hn hl
  rw[List.length_cons]at hl
  have hf:kf a∉acc.map (·.1):=fun m=>(List.nodup_append.mp hn).2.2 _ m _ List.mem_cons_self rfl
  show oB (b a η σ) (fun η' σ=>oB (bA (tK true) (jU mk mv) η' σ (.dict acc)) fun σ acc=>dE (as.map b) (bA (tK true) (jU mk mv)) η σ acc)=_
  rw[hb a List.mem_cons_self]
  show oB (oB (mk (u a) σ) fun x σ=>iI x fun kk=>oB (mv (u a) σ) fun v σ=>if dX acc.length then some (σ,aO.dict (gM acc kk v))else none) _=_
  rw[hk a List.mem_cons_self]
  show oB (oB (mv (u a) σ) fun v σ=>if dX acc.length then some (σ,aO.dict (gM acc (kf a) v))else none) _=_
  rw[hv a List.mem_cons_self]
  show oB (if dX acc.length then some (σ,aO.dict (gM acc (kf a) (f a)))else none) _=_
  rw[if_pos (cE (by trivial)),gr hf]
  refine(ih₀ (acc ++ [(kf a,f a)]) (fun x hx=>hb x (List.mem_cons_of_mem _ hx)) (fun x hx=>hk x (List.mem_cons_of_mem _ hx)) (fun x hx=>hv x (List.mem_cons_of_mem _ hx)) (by rw[List.map_append,List.append_assoc];exact hn) (by rw[List.length_append];show acc.length+1+as.length≤_;trivial)).trans ?_
  rw[List.append_assoc];rfl
theorem d7{mk mv:ME}{pt:Nat→List Nat}{f:Nat→AV}(hl:η.length=63)(i:Nat)(hi:i<63)(hu:dk η i=true)(hn:((List.range 7).map pt).Nodup)(hk:∀k,k<7→mk (η.set i (.int (k:Nat))) σ=some (.str (pt k),σ))(hv:∀k,k<7→mv (η.set i (.int (k:Nat))) σ=some (f k,σ)) :
  jj [i] (aN (au (aa (mK (.int 7)) ak) aR) (aV i)) (bA (tK true) (jU mk mv)) η σ=some (.dict ((List.range 7).map fun k=>(pt k,f k)),σ):=by
 unfold jj eQ
 rw[if_pos (by simp[hu]),gD (as:=List.range 7) (g:=fun(k:Nat)=>AV.int k) FH (cG 7 (by decide))]
 show oB (dE ((List.range 7).map fun(k:Nat)=>aV i (.int k)) _ η σ (.dict [])) _=_
 rw[xF (u:=fun(k:Nat)=>η.set i (.int k)) (kf:=pt) (f:=f) (List.range 7) [] (fun k ω=>by rw[zd,if_pos (by rw[hl];exact hi)]) (fun k h=>hk k (List.mem_range.mp h)) (fun k h=>hv k (List.mem_range.mp h)) hn (by rw[List.length_range];decide)]
 rfl
theorem vg{pt:Nat→List Nat}{f:Nat→AV}{W:List Nat}(hn:(W.map pt).Nodup)(hf:∀j,j∈W→de 8 (f j) (f j)=some true):∀V:List Nat,(∀j∈V,j∈W)→ib (de 8) (W.map fun i=>(pt i,f i)) (V.map fun i=>(pt i,f i))=some true:=by
 intro l₀
 induction l₀ with
 | nil =>
  intro _
  exact rfl
 | cons j V ih₀ =>
  intro h
  rw[List.map_cons]
  unfold ib
  rw[f8 hn (h j List.mem_cons_self)]
  show o1 (de 8 (f j) (f j)) _=_
  rw[hf j (h j List.mem_cons_self)]
  show o1 (ib (de 8) (W.map fun i=>(pt i,f i)) (V.map fun i=>(pt i,f i))) _=_
  rw[ih₀ fun i hi=>h i (List.mem_cons_of_mem _ hi)];rfl
theorem wj{pt:Nat→List Nat}{f:Nat→AV}{n:Nat}{V:List Nat}{m:ME}{i:Nat}(hn:((List.range 7).map pt).Nodup)(hf:∀j,j<7→de 8 (f j) (f j)=some true)(hV:V.Perm (List.range 7))(hi:η[i]? = some (.cell n))(hσ:σ[n]? = some (.dict (V.map fun i=>(pt i,f i))))
  (hm:m η σ=some (.dict ((List.range 7).map fun k=>(pt k,f k)),σ)):aW .NotEq (mV i) m η σ=some (false,σ):=by
 refine aB (vr hi rfl) hm ?_
 show gG ((lM σ (.cell n) _).map (!·)) σ=_
 unfold lM
 have hv:et σ (.cell n)=some (V.map fun i=>(pt i,f i)):=by show o1 σ[n]? rK=_;rw[hσ];rfl
 rw[hv]
 show gG (Option.map _ (if(V.map fun i=>(pt i,f i)).length=((List.range 7).map fun k=>(pt k,f k)).length then ib (de 8) ((List.range 7).map fun k=>(pt k,f k)) (V.map fun i=>(pt i,f i))else some false)) σ=_
 rw[if_pos (by rw[List.length_map,List.length_map,hV.length_eq]),vg hn (fun j hj=>hf j (List.mem_range.mp hj)) V fun j hj=>hV.mem_iff.mp hj];rfl
theorem rP(T:qO s):(jd s).Perm (List.range 7):=((List.perm_ext_iff_of_nodup List.nodup_range T.nd).mpr fun k=>by rw[List.mem_range,T.mem]).symm
theorem xO(H:GK s)(P:GM s top)(T:qO s)(w:Int)(d:Nat→Nat)(hl:η.length=63)(hu:dk η 40=true)(hu':dk η 41=true)(h8:η[8]? = some (dq fun k=>.str (aS s 8 k top)))(h9:η[9]? = some (dq fun k=>.list ((lY s k).map .str)))(h11:η[11]? = some (dq fun k=>.str (oP (gP w k) (d k))))(h16:η[16]? = some (.cell 3))
  (hσ:σ[3]? = some (.dict (DA (fun k=>aS s 8 k top) (FY s) (fun k=>oP (gP w k) (d k)) (kids s) (jd s)))) :
  aW .NotEq (mV 16) (jj [40] (aN (au (aa (mK (.int 7)) ak) aR) (aV 40)) (bA (tK true) (jU (ao (mV 8) (mV 40)) (au (aa (aK [41] (aN (ap .Add (ao (mV 9) (mV 40)) (bz (aa (ao (mV 11) (mV 40)) ak))) (aV 41)) (bA (tK true) (ay (br "str" (mV 41) ak iz)))) ak) qj)))) η σ=some (false,σ):=by
 refine wj (f:=D1 (FY s) (fun k=>oP (gP w k) (d k)) (kids s)) P.nd (fun j ω=>jY fun x hx=>by obtain⟨y,_,rfl⟩:=List.mem_map.mp hx;exact yg) (rP T) h16 hσ ?_
 refine d7 hl 40 (by decide) hu P.nd (fun k hk=>ax (vr (rd h8 (by decide)) rfl) (vr (rs (by rw[hl];decide)) rfl) (wP _ hk)) fun k hk => ?_
 have g:(η.set 40 (AV.int (k:Nat)))[40]? = some (.int (k:Nat)):=rs (by rw[hl];decide)
 have hN:=(fc s k).ok
 have hP:=(cb w k (d k))
 have hc:=cL (σ:=σ) (η:=η.set 40 (.int (k:Nat))) (m:=ap .Add (ao (mV 9) (mV 40)) (bz (aa (ao (mV 11) (mV 40)) ak))) (e:=br "str" (mV 41) ak iz) (by rw[List.length_set];exact hl) 41 (gq hu' (by decide)) (lY s k ++ [oP (gP w k) (d k)]) .str (fun t=>.bytes (cI t)) (by decide) (by rw[List.length_append];have:=hN.len;show _+1≤_;trivial)
  (aE (ax (vr (rd h9 (by decide)) rfl) (vr g rfl) (wP _ hk)) (vf (am (ax (vr (rd h11 (by decide)) rfl) (vr g rfl) (wP _ hk)) aJ) rfl) (j6 (a:=lY s k) (b := [oP (gP w k) (d k)]) (by have:=hN.len;show _+1≤_;trivial))) rfl fun t ht=>by
   have:asc t=true∧t.length≤8:=by
    rcases List.mem_append.mp ht with h | h
    ·obtain⟨j,_,e⟩:=List.mem_map.mp h
     exact⟨by rw[← e];exact BR j,hN.each t h⟩
    ·rw[List.mem_singleton.mp h]
     exact⟨List.all_eq_true.mpr fun x hx=>by
      have:=tU (hP.tok x hx)
      exact decide_eq_true (by trivial),hP.len⟩
   exact bN (vr (rs (by rw[List.length_set,hl];decide)) rfl) rfl aJ (r8 this.1 (by trivial))
 refine bc (am hc aJ) ?_
 unfold D1
 rw[sa H hk,List.map_map]
 show(if _ then _ else _)=_
 exact if_pos (cE (by rw[List.length_map,List.length_append];have:=hN.len;show _+1≤_;trivial))
theorem law_told(P:GM s top)(T:qO s)(w:Int)(d:Nat→Nat)(hl:η.length=63)(hu:dk η 42=true)(h5:η[5]? = some (.list (kQ (gP w))))(h8:η[8]? = some (dq fun k=>.str (aS s 8 k top)))(h12:η[12]? = some (dq fun k=>.str (tq s w d k)))(h15:η[15]? = some (.list (dI (fj (pC s d)))))(h17:η[17]? = some (.cell 4))
  (hσ:σ[4]? = some (.dict (DB (fun k=>aS s 8 k top) (oI s w d) (jd s)))) :
  aW .NotEq (mV 17) (jj [42] (aN (au (aa (mK (.int 7)) ak) aR) (aV 42)) (bA (tK true) (jU (ao (mV 8) (mV 42)) (hK (aW .In (mV 42) (mV 15)) (d8 (aa (mK (.str [104])) (aa (ao (mV 5) (mV 42)) ak))) (d8 (aa (ao (mV 12) (mV 42)) ak)))))) η σ=some (false,σ):=by
 refine wj (f:=oI s w d) P.nd (fun j ω => ?_) (rP T) h17 hσ ?_
 ·unfold oI
  split
  ·exact jY fun y hy=>by
    rcases List.mem_cons.mp hy with h | hy
    ·rw[h];exact qv
    ·rw[List.mem_singleton.mp hy];exact D4
  ·exact jY fun y hy=>by rw[List.mem_singleton.mp hy];exact qv
 refine d7 hl 42 (by decide) hu P.nd (fun k hk=>ax (vr (rd h8 (by decide)) rfl) (vr (rs (by rw[hl];decide)) rfl) (wP _ hk)) fun k hk => ?_
 have g:(η.set 42 (AV.int (k:Nat)))[42]? = some (.int (k:Nat)):=rs (by rw[hl];decide)
 have ei:=wy (σ:=σ) k (fj (pC s d))
 have hm:k∈fj (pC s d)↔pC s d k=true:=⟨fun h=>(jO.mp h).2,fun h=>jO.mpr ⟨hk,h⟩⟩
 unfold oI
 by_cases h:pC s d k=true
 ·rw[if_pos h]
  exact jl (aB (vr g rfl) (vr (rd h15 (by decide)) rfl) (ei.trans (by rw[decide_eq_true (hm.mpr h)]))) (jZ (am rfl (am (ax (vr (rd h5 (by decide)) rfl) (vr g rfl) (q8 hk σ)) aJ)) rfl)
 ·rw[if_neg h]
  exact jm (aB (vr g rfl) (vr (rd h15 (by decide)) rfl) (ei.trans (by rw[decide_eq_false (fun q=>h (hm.mp q))]))) (jZ (am (ax (vr (rd h12 (by decide)) rfl) (vr g rfl) (wP _ hk)) aJ) rfl)
end
end
section
section
variable{σ:St}{η:be}{s:List Nat}{top:List Nat}
theorem xE{α:Type}{B:MG}{b:α→aA}{u:α→be}{acc:aO} : ∀(as:List α),(∀a∈as,b a η σ=some (u a,σ))→(∀a∈as,B (u a) σ acc=some (σ,acc))→dE (as.map b) B η σ acc=some (σ,acc):=by
 intro l₀
 induction l₀ with
 | nil =>
  intro _ _
  exact rfl
 | cons a as ih₀ =>
  intro hb hB
  show oB (b a η σ) (fun η' σ=>oB (B η' σ acc) fun σ acc=>dE (as.map b) B η σ acc)=_
  rw[hb a List.mem_cons_self]
  show oB (B (u a) σ acc) _=_
  rw[hB a List.mem_cons_self]
  exact ih₀ (fun x hx=>hb x (List.mem_cons_of_mem _ hx)) fun x hx=>hB x (List.mem_cons_of_mem _ hx)
theorem hY{α:Type}{mi:MI}{B:MG}{b:α→aA}{u:α→be}{own:List Nat}{acc:aO}{σ1:St}(as:List α)(hmi:mi η σ=some (as.map b,σ1))(hu:own.all (dk η)=true)(hb:∀a∈as,b a η σ1=some (u a,σ1))(hB:∀a∈as,B (u a) σ1 acc=some (σ1,acc)):eQ own mi B η σ acc=some (σ1,acc):=by
 unfold eQ
 rw[if_pos hu,hmi]
 exact xE as hb hB
theorem gg{α:Type}{mi:MI}{B:MG}{b:α→aA}{u:α→be}{own:List Nat}{σ1:St}(as:List α)(hmi:mi η σ=some (as.map b,σ1))(hu:own.all (dk η)=true)(hb:∀a∈as,b a η σ1=some (u a,σ1))(hB:∀a∈as,B (u a) σ1 (.list [])=some (σ1,.list [])):aK own mi B η σ=some (.list [],σ1):=by
 unfold aK
 rw[hY as hmi hu hb hB];rfl
theorem sy{t:MT}{m:MG}{acc:aO}(h:t η σ=some (false,σ)):bA t m η σ acc=some (σ,acc):=by
 show oT (t η σ) _ _=_
 rw[h];rfl
theorem A6{t:MT}{m:MG}{acc:aO}(h:t η σ=some (true,σ)):bA t m η σ acc=m η σ acc:=by
 show oT (t η σ) _ _=_
 rw[h];rfl
theorem fO{α:Type}{m:ME}{t:AV→aA}{a:AV}{as:List α}{g:α→AV}{σ1:St}(hm:m η σ=some (a,σ1))(ha:eN a=some (as.map g)):aN m t η σ=some (as.map fun x=>t (g x),σ1):=by
 show oB (m η σ) (fun a σ=>o1 (eN a) fun xs=>some (xs.map t,σ))=_
 rw[hm]
 show o1 (eN a) _=_
 rw[ha]
 show some ((as.map g).map t,σ1)=_
 rw[List.map_map];rfl
theorem bV{i:Nat}{a:AV}(hl:i<η.length):aV i a η σ=some (η.set i a,σ):=by rw[zd,if_pos hl]
theorem tk{η:be}{q:Bool} : tK q η σ=some (q,σ):=rfl
theorem mR{m:ME}{σ1:St}(h:m η σ=some (.list [],σ1)):aW .NotEq m (bz ak) η σ=some (false,σ1):=aB h rfl rfl
theorem uQ{a b c e:aO}{pt:Nat→List Nat}{V:List Nat}{w:Int}{d:Nat→Nat}(hl:η.length=63)(hu:dk η 43=true)(hu':dk η 44=true)(h17:η[17]? = some (.cell 4)) :
  aW .NotEq (aK [43,44] (aN (br "dict" (gC (mV 17)) ak qi) (aV 43)) (bA (tK true) (eQ [44] (aN (fu (mV 43) (mK (.int 1)) (mK .none) (mK .none)) (aV 44)) (bA (rt (gS (uO (mV 44)))) (ay (mV 44)))))) (bz ak) η [a,b,c,e,.dict (DB pt (oI s w d) V)] =
   some (false,[a,b,c,e,.dead (.dict (DB pt (oI s w d) V))]):=by
 refine mR (gg (σ1 := [a,b,c,e,.dead (.dict (DB pt (oI s w d) V))]) V (b:=fun k=>aV 43 (oI s w d k)) (u:=fun k=>η.set 43 (oI s w d k)) ?_ (by simp[hu,hu']) (fun k ω=>bV (by rw[hl];decide)) fun k ω=>(A6 tk).trans ?_)
 ·refine fO (a:=.vals (DB pt (oI s w d) V)) (bN (a:=.dict (DB pt (oI s w d) V)) (σ1 := [a,b,c,e,.dead (.dict (DB pt (oI s w d) V))]) ?_ rfl aJ rfl) ?_
  ·show oB (mV 17 η _) (fun a σ=>some (Ci a σ))=_
   rw[vr h17 rfl];rfl
  ·show some ((DB pt (oI s w d) V).map fun p=>p.2)=_
   unfold DB
   rw[List.map_map];rfl
 ·have g:(η.set 43 (oI s w d k))[43]? = some (oI s w d k):=rs (by rw[hl];decide)
  have hu2:dk (η.set 43 (oI s w d k)) 44=true:=gq hu' (by decide)
  have hl2:(η.set 43 (oI s w d k)).length=63:=by rw[List.length_set];exact hl
  unfold oI at g hu2 hl2 ⊢
  by_cases h:pC s d k=true
  ·rw[if_pos h]at g hu2 hl2 ⊢
   refine hY [gP w k] (b:=fun x=>aV 44 (.int x)) (u:=fun x=>(η.set 43 (.tup [.str [104],.int (gP w k)])).set 44 (.int x)) (fO (a:=.tup [.int (gP w k)]) (gK (vr g rfl) rfl rfl rfl) rfl) (by simp[hu2]) (fun x ω=>bV (by rw[hl2];decide)) fun x ω=>sy (qz (q:=true) (lv (a:=.bool true) ?_ rfl))
   show oB (mV 44 _ _) _=_
   rw[vr (rs (by rw[hl2];decide)) rfl];rfl
  ·rw[if_neg h]at g hu2 hl2 ⊢
   exact hY ([]:List Int) (b:=fun x=>aV 44 (.int x)) (u:=fun x=>η) (fO (g:=fun x=>AV.int x) (a:=.tup []) (gK (vr g rfl) rfl rfl rfl) rfl) (by simp[hu2]) (fun x hx=>nomatch hx) fun x hx=>nomatch hx
noncomputable def tZ(s:List Nat)(w:Int)(d:Nat→Nat)(k:Nat):List Nat:=u0++(dQ k (lY s k) (oP (gP w k) (d k)) (d k) ++ [120])
theorem CS{L tl:List Nat}(h41:41∉L)(hl:(u0++(L++41::tl)).length≤200)(g:η[45]? = some (.str (u0++(L++41::tl)))) :
  ap .Add (fu (mV 45) (mK .none) (br "str" (mV 45) (aa (mK (.str [41])) (aa (mK (.int 16)) ak)) jg) (mK .none)) (mK (.str [120])) η σ=some (.str (u0++(L ++ [120])),σ):=by
 generalize hH:u0=H at *
 have h16:H.length=16:=by rw[← hH];rfl
 have e1:H++(L++41::tl)=(H++L)++41::tl:=(List.append_assoc ..).symm
 rw[e1]at g hl
 have hlen:(H++L).length≤((H++L)++41::tl).length:=by rw[List.length_append (bs:=41::tl)];exact Nat.le_add_right _ _
 have hf:dS ((H++L)++41::tl) 41 16=(H++L).length:=nn (by rw[List.length_append,h16];exact Nat.le_add_right 16 _) (by rw[List.drop_left' h16];exact h41)
 generalize hX:(H++L)++41::tl=X at *
 have hi:jg [.str X,.str [41],.int 16] σ=some (.int ((H++L).length:Nat),σ):=by
  show(if(decide ((0:Int)≤16)&&decide ((16:Int)≤(X.length:Nat))&&decide (0≤dS X 41 16))=true then i8 (dS X 41 16) σ else none)=_
  have hx:16≤X.length:=Nat.le_trans (by rw[List.length_append,h16];exact Nat.le_add_right 16 _) hlen
  rw[hf,if_pos (by rw[decide_eq_true (by trivial),decide_eq_true (by trivial),decide_eq_true (by trivial)];rfl)]
  rfl
 refine aE (σ1:=σ) (σ2:=σ) (gK (d:=.str (H++L)) (vr g rfl) rfl (bN (vr g rfl) rfl (am rfl (am rfl aJ)) hi) ?_) rfl ?_
 ·rw[iw (l:=none) (h:=some ((H++L).length:Nat)) rfl rfl (Nat.le_trans ‹_› (Nat.le_of_ble_eq_true rfl)),t7 _ _ hlen,← hX,List.take_left]
 ·rw[← List.append_assoc]
  exact ik (by rw[List.length_append (bs := [120])];show _+1≤_;trivial)
theorem AL{w:Int}{d:Nat→Nat}(hl:η.length=63)(hu:dk η 45=true)(h12:η[12]? = some (dq fun k=>.str (tq s w d k))) :
  hM [45] (aN (mV 12) (aV 45)) (bA (tK true) (ay (ap .Add (fu (mV 45) (mK .none) (br "str" (mV 45) (aa (mK (.str [41])) (aa (mK (.int 16)) ak)) jg) (mK .none)) (mK (.str [120]))))) η σ=some (.cell σ.length,σ ++ [.list ((List.range 7).map fun k=>.str (tZ s w d k))]):=by
 have hg:eQ [45] (aN (mV 12) (aV 45)) (bA (tK true) (ay (ap .Add (fu (mV 45) (mK .none) (br "str" (mV 45) (aa (mK (.str [41])) (aa (mK (.int 16)) ak)) jg) (mK .none)) (mK (.str [120]))))) η σ (.list [])=some (σ,.list ((List.range 7).map fun k=>.str (tZ s w d k))):=by
  unfold eQ
  rw[if_pos (by simp[hu]),fO (vr h12 rfl) (wx _)]
  show dE ((List.range 7).map fun k=>aV 45 (.str (tq s w d k))) _ η σ (.list [])=_
  have:=mY (σ:=σ) (η:=η) (e:=ap .Add (fu (mV 45) (mK .none) (br "str" (mV 45) (aa (mK (.str [41])) (aa (mK (.int 16)) ak)) jg) (mK .none)) (mK (.str [120]))) (t:=tK true) (b:=fun k=>aV 45 (.str (tq s w d k))) (u:=fun k=>η.set 45 (.str (tq s w d k))) (p:=fun ω=>true) (f:=fun k=>.str (tZ s w d k)) (List.range 7) [] (fun k ω=>bV (by rw[hl];decide)) (fun ω ω=>rfl) (fun k ω ω=>by
   exact CS (jQ (fc s k) (cb w k (d k)) rfl (by decide) (by decide)) (kg (fc s k) (cb w k (d k))) (rs (by rw[hl];decide))) (by decide)
  rw[iB]at this
  exact this
 unfold hM
 rw[hg];rfl
noncomputable def GQ(w:Int)(d:Nat→Nat)(k:Nat):List Nat := [50,50,57,32,50]++oP (gP w k) (d k) ++ [50,41]
noncomputable def GP(w:Int)(d:Nat→Nat)(k:Nat):List Nat := [50,50,57,32,40,124,49,124]++oP (gP w k) (d k) ++ [124,41]
noncomputable def Fu(s:List Nat)(w:Int)(d:Nat→Nat):List (List Nat):=(List.range 7).map (tZ s w d)++((List.range 7).map (GQ w d)++(List.range 7).map (GP w d))
theorem w6{w:Int}{d:Nat→Nat} : ∀x∈Fu s w d,bt [.str x] σ=some (.tup [.str x],σ):=fun x hx=>by
 rcases List.mem_append.mp hx with hx | hx
 ·obtain⟨k,_,rfl⟩:=List.mem_map.mp hx;exact ux (fc s k) (cb w k (d k))
 ·rcases List.mem_append.mp hx with hx | hx
  ·obtain⟨k,_,rfl⟩:=List.mem_map.mp hx;exact uw (cb w k (d k))
  ·obtain⟨k,_,rfl⟩:=List.mem_map.mp hx;exact uv (cb w k (d k))
theorem AK{R:MS}{w:Int}{d:Nat→Nat}{a b c e f:aO}(hl:η.length=63)(hu:dk η 46=true)(hu':dk η 47=true)(h11:η[11]? = some (dq fun k=>.str (oP (gP w k) (d k))))(h18:η[18]? = some (.cell 5)) :
  ae (dM (br "list" (mV 18) (aa (ap .Add (aK [46] (aN (mV 11) (aV 46)) (bA (tK true) (ay (ap .Add (ap .Add (mK (.str [50,50,57,32,50])) (mV 46)) (mK (.str [50,41])))))) (aK [47] (aN (mV 11) (aV 47)) (bA (tK true) (ay (ap .Add (ap .Add (mK (.str [50,50,57,32,40,124,49,124])) (mV 47)) (mK (.str [124,41]))))))) ak) jM)) R η [a,b,c,e,f,.list ((List.range 7).map fun k=>.str (tZ s w d k))] =
   R η [a,b,c,e,f,.list ((Fu s w d).map .str)]:=by
 have c1:=cL (σ := [a,b,c,e,f,.list ((List.range 7).map fun k=>.str (tZ s w d k))]) (m:=mV 11) (e:=ap .Add (ap .Add (mK (.str [50,50,57,32,50])) (mV 46)) (mK (.str [50,41]))) hl 46 hu (List.range 7) (fun k=>.str (oP (gP w k) (d k))) (fun k=>.str (GQ w d k)) (by decide) (by decide) (vr h11 rfl) (wx _) fun k ω =>
  aE (aE rfl (vr (rs (by rw[hl];decide)) rfl) (cu (m:=5) (by decide) (cb w k (d k)).len (by decide))) rfl (cu (n:=2) (cX (m:=5) (by decide) (cb w k (d k)).len) (by decide) (by decide))
 have c2:=cL (σ := [a,b,c,e,f,.list ((List.range 7).map fun k=>.str (tZ s w d k))]) (m:=mV 11) (e:=ap .Add (ap .Add (mK (.str [50,50,57,32,40,124,49,124])) (mV 47)) (mK (.str [124,41]))) hl 47 hu' (List.range 7) (fun k=>.str (oP (gP w k) (d k))) (fun k=>.str (GP w d k)) (by decide) (by decide) (vr h11 rfl) (wx _) fun k ω =>
  aE (aE rfl (vr (rs (by rw[hl];decide)) rfl) (cu (m:=8) (by decide) (cb w k (d k)).len (by decide))) rfl (cu (n:=2) (cX (m:=8) (by decide) (cb w k (d k)).len) (by decide) (by decide))
 refine kR (a:=.none) (bN (vr h18 rfl) rfl (am (aE c1 c2 (BL (by rw[List.length_append,List.length_map,List.length_map];decide))) aJ) ?_)
 rfl
theorem AJ{w:Int}{d:Nat→Nat}{a b c e f:aO}(hl:η.length=63)(hu:dk η 48=true)(h18:η[18]? = some (.cell 5)) :
  aW .NotEq (aK [48] (aN (gC (mV 18)) (aV 48)) (bA (aW .NotEq (au (aa (mV 48) ak) (bt)) (d8 (aa (mV 48) ak))) (ay (mV 48)))) (bz ak) η [a,b,c,e,f,.list ((Fu s w d).map .str)]=some (false,[a,b,c,e,f,.dead (.list ((Fu s w d).map .str))]):=by
 refine mR (gg (σ1 := [a,b,c,e,f,.dead (.list ((Fu s w d).map .str))]) (Fu s w d) (b:=fun x=>aV 48 (.str x)) (u:=fun x=>η.set 48 (.str x)) (fO (g:=.str) (a:=.list ((Fu s w d).map .str)) ?_ rfl) (by simp[hu]) (fun k ω=>bV (by rw[hl];decide)) fun x hx=>sy ?_)
 ·show oB (mV 18 η _) (fun a σ=>some (Ci a σ))=_
  rw[vr h18 rfl];rfl
 ·have g:(η.set 48 (AV.str x))[48]? = some (.str x):=rs (by rw[hl];decide)
  exact aB (bc (am (vr g rfl) aJ) (w6 x hx)) (jZ (am (vr g rfl) aJ) rfl) (pv (jY fun y hy=>by rw[List.mem_singleton.mp hy];exact qv) rfl)
end
end
section
section
variable{σ:St}{η:be}{s:List Nat}{top:List Nat}
theorem zD{α:Type}{l:List α}{i:Nat}{a:α}(h:l[i]? = some a):l.set i a=l:=by
 obtain⟨hi,e⟩:=List.getElem?_eq_some_iff.mp h
 rw[← e,List.set_getElem_self]
theorem sE{n i:Nat}{v:AV}(h:σ[n]? = some (.dead v))(hi:η[i]? = some (.cell n)):gC (mV i) η σ=some (v,σ):=by
 show oB (mV i η σ) (fun a σ=>some (Ci a σ))=_
 rw[vr hi rfl]
 show some (yb n σ (o1 σ[n]? eR))=_
 rw[h]
 show some (v,σ.set n (.dead v))=_
 rw[zD h]
theorem wd{n:Nat}{D:List (List Nat×AV)}{k:List Nat}{x:AV}(h:σ[n]? = some (.dead (.dict D)))(e:eM k D=some x):aZ (.cell n) (.str k) σ=some (x,σ):=by
 have h1:cA σ (.cell n)=none:=by show o1 σ[n]? lF=_;rw[h];rfl
 have h2:et σ (.cell n)=some D:=by show o1 σ[n]? rK=_;rw[h];rfl
 unfold aZ
 rw[h1,h2]
 show o1 (eM k D) _=_
 rw[e];rfl
noncomputable def GC(pt:Nat→List Nat)(V:List Nat):AV:=.list (V.map fun k=>.tup [.str [104],.str (pt k)])
noncomputable def Ce(p:Nat→Bool)(W:Nat→Int)(an:Nat→List Nat)(k:Nat):AV:=if p k then .tup [.str [104],.int (W k)]else .tup [.str (an k)]
theorem zi{p:Nat→Bool}{W:Nat→Int}{an:Nat→List Nat}(k:Nat):dH [Ce p W an k] σ=some (.int (if p k then 2 else 1),σ):=by
 unfold Ce
 cases p k <;> rfl
theorem DJ{p:Nat→Bool}{W:Nat→Int}{an pt:Nat→List Nat}{O:List Nat}(hO:O.length≤1000)(hn:(O.map pt).Nodup)(hl:η.length=63)(hu:dk η 49=true)(h17:η[17]? = some (.cell 4))(hσ:σ[4]? = some (.dead (.dict (DB pt (Ce p W an) O)))) :
  aK [49] (aN (gC (mV 17)) (aV 49)) (bA (aW .Eq (au (aa (ao (mV 17) (mV 49)) ak) dH) (mK (.int 2))) (ay (d8 (aa (ao (ao (mV 17) (mV 49)) (mK (.int 0))) (aa (mV 49) ak))))) η σ=some (GC pt (O.filter p),σ):=by
 have hi:∀k∈O,ao (mV 17) (mV 49) (η.set 49 (.str (pt k))) σ=some (Ce p W an k,σ):=fun k hk=>ax (vr (rd h17 (by decide)) rfl) (vr (rs (by rw[hl];decide)) rfl) (wd hσ (f8 hn hk))
 refine cF hl 49 hu O (fun k=>.str (pt k)) p (fun k=>.tup [.str [104],.str (pt k)]) (by decide) hO (sE hσ h17) (by show some ((DB pt (Ce p W an) O).map fun q=>AV.str q.1)=_;unfold DB;rw[List.map_map];rfl) (fun k hk => ?_) fun k hk hp => ?_
 ·refine aB (bc (am (hi k hk) aJ) (zi k)) rfl ?_
  cases p k <;> rfl
 ·refine jZ (am (ax (hi k hk) rfl ?_) (am (vr (rs (by rw[hl];decide)) rfl) aJ)) rfl
  unfold Ce;rw[hp];rfl
theorem DI{p:Nat→Bool}{W:Nat→Int}{an pt:Nat→List Nat}{O:List Nat}(hO:O.length≤1000)(hn:(O.map pt).Nodup)(hl:η.length=63)(hu:dk η 50=true)(h17:η[17]? = some (.cell 4))(hσ:σ[4]? = some (.dead (.dict (DB pt (Ce p W an) O)))) :
  aK [50] (aN (gC (mV 17)) (aV 50)) (bA (aW .Eq (au (aa (ao (mV 17) (mV 50)) ak) dH) (mK (.int 2))) (ay (ao (ao (mV 17) (mV 50)) (mK (.int 1))))) η σ=some (.list ((O.filter p).map fun k=>.int (W k)),σ):=by
 have hi:∀k∈O,ao (mV 17) (mV 50) (η.set 50 (.str (pt k))) σ=some (Ce p W an k,σ):=fun k hk=>ax (vr (rd h17 (by decide)) rfl) (vr (rs (by rw[hl];decide)) rfl) (wd hσ (f8 hn hk))
 refine cF hl 50 hu O (fun k=>.str (pt k)) p (fun k=>.int (W k)) (by decide) hO (sE hσ h17) (by show some ((DB pt (Ce p W an) O).map fun q=>AV.str q.1)=_;unfold DB;rw[List.map_map];rfl) (fun k hk => ?_) fun k hk hp => ?_
 ·refine aB (bc (am (hi k hk) aJ) (zi k)) rfl ?_
  cases p k <;> rfl
 ·refine ax (hi k hk) rfl ?_
  unfold Ce;rw[hp];rfl
noncomputable def Gi(cv:Nat→Nat→Bool)(V:List Nat):AV:=.list (V.map fun a=>.list (V.map fun b=>.bool (cv a b)))
theorem DQ{C:Addr}{pt:Nat→List Nat}{V:List Nat}{cv:Nat→Nat→Bool}(hV:V.length≤7)(hp:∀k∈V,(pt k).length≤100)(hc:∀a∈V,∀b∈V,pQ [104] (pt a) [104] (pt b)=cv a b)(hl:η.length=63)(hu:dk η 51=true)(hu':dk η 52=true)(h19:η[19]? = some (.inst C))(h20:η[20]? = some (GC pt V)) :
  aK [51] (aN (mV 20) (aV 51)) (bA (tK true) (ay (aK [52] (aN (mV 20) (aV 52)) (bA (tK true) (ay (og C (mV 19) (aa (mV 51) (aa (mV 52) ak)) cg)))))) η σ=some (Gi cv V,σ):=by
 refine cL hl 51 hu V (fun k=>.tup [.str [104],.str (pt k)]) (fun a=>.list (V.map fun b=>.bool (cv a b))) (by decide) (Nat.le_trans ‹_› (Nat.le_of_ble_eq_true rfl)) (vr h20 rfl) rfl fun a ha => ?_
 have hl2:(η.set 51 (AV.tup [.str [104],.str (pt a)])).length=63:=by rw[List.length_set];exact hl
 refine cL hl2 52 (gq hu' (by decide)) V (fun k=>.tup [.str [104],.str (pt k)]) (fun b=>.bool (cv a b)) (by decide) (Nat.le_trans ‹_› (Nat.le_of_ble_eq_true rfl)) (vr (rd h20 (by decide)) rfl) rfl fun b hb => ?_
 rw[← hc a ha b hb]
 exact Bl (vr (rd (rd h19 (by decide)) (by decide)) rfl) (am (vr (rd (rs (by rw[hl];decide)) (by decide)) rfl) (am (vr (rs (by rw[hl2];decide)) rfl) aJ)) (gZ _ _ _ _ _ (Nat.le_trans (hp a ha) (by decide)))
theorem AR{V:List Nat}{cv:Nat→Nat→Bool}(hl:η.length=63)(hu:dk η 53=true)(hu':dk η 54=true)(h22:η[22]? = some (Gi cv V)) :
  aW .NotEq (aK [53,54] (aN (mV 22) (aV 53)) (bA (tK true) (eQ [54] (aN (mV 53) (aV 54)) (bA (eC (aW .IsNot (mV 54) (mK (.bool true))) (eC (aW .IsNot (mV 54) (mK (.bool false))) (tK true))) (ay (mV 54)))))) (bz ak) η σ=some (false,σ):=by
 refine mR (gg V (b:=fun a=>aV 53 (.list (V.map fun b=>.bool (cv a b)))) (u:=fun a=>η.set 53 (.list (V.map fun b=>.bool (cv a b)))) (fO (vr h22 rfl) rfl) (by simp[hu,hu']) (fun k ω=>bV (by rw[hl];decide)) fun a ω=>(A6 tk).trans ?_)
 have hl2:(η.set 53 (AV.list (V.map fun b=>.bool (cv a b)))).length=63:=by rw[List.length_set];exact hl
 refine hY V (b:=fun b=>aV 54 (.bool (cv a b))) (u:=fun b=>(η.set 53 (.list (V.map fun b=>.bool (cv a b)))).set 54 (.bool (cv a b))) (fO (vr (rs (by rw[hl];decide)) rfl) rfl) (by simp[gq hu' (show 53≠54 by decide)]) (fun k ω=>bV (by rw[hl2];decide)) fun b ω=>sy ?_
 have g:=rs (η:=η.set 53 (AV.list (V.map fun b=>.bool (cv a b)))) (i:=54) (x:=.bool (cv a b)) (by rw[hl2];decide)
 cases hc:cv a b with
 | true=>rw[hc]at g;exact qB (aB (vr g rfl) rfl rfl)
 | false=>rw[hc]at g;exact qA (aB (vr g rfl) rfl rfl) (qB (aB (vr g rfl) rfl rfl))
theorem xS{pt:Nat→List Nat}{V:List Nat}(hV:V.length≤7)(h20:η[20]? = some (GC pt V)):au (aa (au (aa (mV 20) ak) dH) ak) aR η σ=some (.range 0 (V.length:Nat) 1,σ):=by
 refine bc (am (bc (am (vr h20 rfl) aJ) (je (by rw[List.length_map];trivial))) aJ) ?_
 rw[List.length_map];rfl
theorem BA{V:List Nat}{cv:Nat→Nat→Bool}(hV:V.length≤7){i j:Nat}(hi:i<V.length)(hj:j<V.length){m1 m2:ME}(h22:η[22]? = some (Gi cv V))(h1:m1 η σ=some (.int (i:Nat),σ))(h2:m2 η σ=some (.int (j:Nat),σ)) :
  gS (ao (ao (mV 22) m1) m2) η σ=some (cv (V.getD i 0) (V.getD j 0),σ):=by
 have e1:aZ (Gi cv V) (.int (i:Nat)) σ=some (.list (V.map fun b=>.bool (cv (V.getD i 0) b)),σ):=dp i (by rw[List.getElem?_map,bD V i hi 0];rfl) (by trivial)
 have e2:aZ (.list (V.map fun b=>.bool (cv (V.getD i 0) b))) (.int (j:Nat)) σ=some (.bool (cv (V.getD i 0) (V.getD j 0)),σ):=dp j (by rw[List.getElem?_map,bD V j hj 0];rfl) (by trivial)
 exact lv (ax (ax (vr h22 rfl) h1 e1) h2 e2) rfl
theorem xL{V:List Nat}{cv:Nat→Nat→Bool}(hV:V.length≤7)(hpw:∀i j,j<i→i<V.length→cv (V.getD i 0) (V.getD j 0)=false)(hl:η.length=63)(hu:dk η 55=true)(hu':dk η 56=true)(h22:η[22]? = some (Gi cv V))(h23:η[23]? = some (.range 0 (V.length:Nat) 1)) :
  aW .NotEq (aK [55,56] (aN (mV 23) (aV 55)) (bA (tK true) (eQ [56] (aN (au (aa (mV 55) ak) aR) (aV 56)) (bA (gS (ao (ao (mV 22) (mV 55)) (mV 56))) (ay (mV 55)))))) (bz ak) η σ=some (false,σ):=by
 refine mR (gg (List.range V.length) (b:=fun(i:Nat)=>aV 55 (.int i)) (u:=fun(i:Nat)=>η.set 55 (.int i)) (fO (vr h23 rfl) (cG _ (Nat.le_trans ‹_› (Nat.le_of_ble_eq_true rfl)))) (by simp[hu,hu']) (fun k ω=>bV (by rw[hl];decide)) fun i hi=>(A6 tk).trans ?_)
 have hi:=List.mem_range.mp hi
 have hl2:(η.set 55 (AV.int (i:Nat))).length=63:=by rw[List.length_set];exact hl
 have g55:(η.set 55 (AV.int (i:Nat)))[55]? = some (.int (i:Nat)):=rs (by rw[hl];decide)
 refine hY (List.range i) (b:=fun(j:Nat)=>aV 56 (.int j)) (u:=fun(j:Nat)=>(η.set 55 (.int (i:Nat))).set 56 (.int j)) (fO (a:=.range 0 (i:Nat) 1) (bc (am (vr g55 rfl) aJ) rfl) (cG _ (by trivial))) (by simp[gq hu' (show 55≠56 by decide)]) (fun k ω=>bV (by rw[hl2];decide)) fun j hj=>sy ?_
 have hj:=List.mem_range.mp hj
 rw[← hpw i j hj hi]
 exact BA hV hi (by trivial) (rd (rd h22 (by decide)) (by decide)) (vr (rd g55 (by decide)) rfl) (vr (rs (by rw[hl2];decide)) rfl)
theorem AM{C:Addr}{pt:Nat→List Nat}{V:List Nat}(hp:∀k∈V,(pt k).length≤100)(ht:top.length≤100)(hl:η.length=63)(hu:dk η 57=true)(h7:η[7]? = some (.str top))(h19:η[19]? = some (.inst C))(h20:η[20]? = some (GC pt V)) :
  aW .NotEq (aK [57] (aN (mV 20) (aV 57)) (bA (tJ (rt (gS (og C (mV 19) (aa (mV 57) (aa (mV 57) ak)) cg))) (tJ (gS (og C (mV 19) (aa (d8 (aa (mK (.str [103])) (aa (mV 7) ak))) (aa (mV 57) ak)) cg)) (tK false))) (ay (mV 57)))) (bz ak) η σ=some (false,σ):=by
 refine mR (gg V (b:=fun k=>aV 57 (.tup [.str [104],.str (pt k)])) (u:=fun k=>η.set 57 (.tup [.str [104],.str (pt k)])) (fO (vr h20 rfl) rfl) (by simp[hu]) (fun k ω=>bV (by rw[hl];decide)) fun k hk=>sy ?_)
 have g:(η.set 57 (AV.tup [.str [104],.str (pt k)]))[57]? = some (.tup [.str [104],.str (pt k)]):=rs (by rw[hl];decide)
 have g19:=vr (σ:=σ) (rd (x:=AV.tup [.str [104],.str (pt k)]) h19 (i:=57) (by decide)) rfl
 have s1:pQ [104] (pt k) [104] (pt k)=true:=if_pos ⟨rfl,rfl⟩
 have s2:pQ [103] top [104] (pt k)=false:=by
  unfold pQ
  rw[if_neg (fun q=>absurd q.1 (by decide)),if_neg (by decide)]
 have t1:=qz (lv (Bl g19 (am (vr (σ:=σ) g rfl) (am (vr g rfl) aJ)) (gZ _ _ _ _ _ (Nat.le_trans (hp k hk) (by decide)))) rfl)
 rw[s1]at t1
 have t2:=lv (Bl g19 (am (jZ (am (σ:=σ) (m:=mK (.str [103])) rfl (am (vr (rd h7 (by decide)) rfl) aJ)) rfl) (am (vr g rfl) aJ)) (gZ _ _ _ _ _ (Nat.le_trans ht (by decide)))) rfl
 rw[s2]at t2
 exact EW t1 (EW t2 tk)
end
end
section
section
variable{σ:St}{η:be}{V:List Nat}{cv:Nat→Nat→Bool}{W:Nat→Int}
noncomputable def wv(cv:Nat→Nat→Bool)(W:Nat→Int)(V:List Nat)(i j:Nat):Int:=if(!decide (i=j)&&(cv (V.getD i 0) (V.getD j 0)||cv (V.getD j 0) (V.getD i 0)))=true then W (V.getD i 0) * W (V.getD j 0)else 0
theorem ET(hW:∀x∈V,(W x).natAbs≤9){i j:Nat}(hi:i<V.length)(hj:j<V.length):(wv cv W V i j).natAbs≤81:=by
 unfold wv
 split
 ·have h1:=hW _ (List.mem_of_getElem? (bD V i hi 0))
  have h2:=hW _ (List.mem_of_getElem? (bD V j hj 0))
  rw[Int.natAbs_mul]
  exact Nat.mul_le_mul h1 h2
 ·decide
theorem xP(hV:V.length≤7)(hW:∀x∈V,(W x).natAbs≤9)(hl:η.length=63)(hu:dk η 58=true)(hu':dk η 59=true)(h21:η[21]? = some (.list (V.map fun k=>.int (W k))))(h22:η[22]? = some (Gi cv V))(h23:η[23]? = some (.range 0 (V.length:Nat) 1)) :
  aK [58] (aN (mV 23) (aV 58)) (bA (tK true) (ay (aK [59] (aN (mV 23) (aV 59)) (bA (tK true) (ay (hK (eC (aW .NotEq (mV 58) (mV 59)) (eC (tJ (gS (ao (ao (mV 22) (mV 58)) (mV 59))) (tJ (gS (ao (ao (mV 22) (mV 59)) (mV 58))) (tK false))) (tK true))) (ap .Mult (ao (mV 21) (mV 58)) (ao (mV 21) (mV 59))) (mK (.int 0)))))))) η σ =
   some (.list ((List.range V.length).map fun i=>.list ((List.range V.length).map fun j=>.int (wv cv W V i j))),σ):=by
 refine cL hl 58 hu (List.range V.length) (fun(i:Nat)=>.int i) _ (by decide) (by rw[List.length_range];trivial) (vr h23 rfl) (cG _ (Nat.le_trans ‹_› (Nat.le_of_ble_eq_true rfl))) fun i hi => ?_
 have hi:=List.mem_range.mp hi
 have hl2:(η.set 58 (AV.int (i:Nat))).length=63:=by rw[List.length_set];exact hl
 refine cL hl2 59 (gq hu' (by decide)) (List.range V.length) (fun(i:Nat)=>.int i) (fun j=>.int (wv cv W V i j)) (by decide) (by rw[List.length_range];trivial) (vr (rd h23 (by decide)) rfl) (cG _ (Nat.le_trans ‹_› (Nat.le_of_ble_eq_true rfl))) fun j hj => ?_
 have hj:=List.mem_range.mp hj
 have g1:((η.set 58 (AV.int (i:Nat))).set 59 (.int (j:Nat)))[58]? = some (.int (i:Nat)):=rd (rs (by rw[hl];decide)) (by decide)
 have g2:((η.set 58 (AV.int (i:Nat))).set 59 (.int (j:Nat)))[59]? = some (.int (j:Nat)):=rs (by rw[hl2];decide)
 have g22:((η.set 58 (AV.int (i:Nat))).set 59 (.int (j:Nat)))[22]? = some (Gi cv V):=rd (rd h22 (by decide)) (by decide)
 have g21:((η.set 58 (AV.int (i:Nat))).set 59 (.int (j:Nat)))[21]? = some (.list (V.map fun k=>.int (W k))):=rd (rd h21 (by decide)) (by decide)
 have pi:∀{n:Nat},n<V.length→aZ (.list (V.map fun k=>.int (W k))) (.int (n:Nat)) σ=some (.int (W (V.getD n 0)),σ):=fun {n} h=>dp n (by rw[List.getElem?_map,bD V n h 0];rfl) (by trivial)
 have t1:aW .NotEq (mV 58) (mV 59) ((η.set 58 (.int (i:Nat))).set 59 (.int (j:Nat))) σ=some (!decide (i=j),σ):=aB (vr g1 rfl) (vr g2 rfl) ((px).trans (by rw[eG]))
 have t:=pn t1 (pn (D5 (BA hV hi hj g22 (vr (σ:=σ) g1 rfl) (vr g2 rfl)) (D5 (BA hV hj hi g22 (vr g2 rfl) (vr g1 rfl)) (tk (q:=false)))) (tk (q:=true)))
 rw[Bool.or_false,Bool.and_true]at t
 have w1:=hW _ (List.mem_of_getElem? (bD V i hi 0))
 have w2:=hW _ (List.mem_of_getElem? (bD V j hj 0))
 unfold wv
 cases hb:(!decide (i=j)&&(cv (V.getD i 0) (V.getD j 0)||cv (V.getD j 0) (V.getD i 0)))with
 | true =>
  rw[hb]at t
  rw[if_pos rfl]
  exact jl t (aE (ax (vr g21 rfl) (vr g1 rfl) (pi hi)) (ax (vr g21 rfl) (vr g2 rfl) (pi hj)) (jq (uD (Nat.lt_of_le_of_lt ‹_› (Nat.le_of_ble_eq_true rfl))) (uD (Nat.lt_of_le_of_lt ‹_› (Nat.le_of_ble_eq_true rfl)))))
 | false =>
  rw[hb]at t
  rw[if_neg (by decide)]
  exact jm t rfl
noncomputable def IH(c:Int)(m:Nat):Nat:=(c / 2 % (m:Int)).toNat
noncomputable def v8(m i0:Nat):List Nat:=(List.range m).filter fun k => !decide (k=i0)
theorem AO{c c0 c1 c2:Int}{pt:Nat→List Nat}(hV:V.length≤7)(h0:0<V.length)(hl:η.length=63)(hu:dk η 60=true)(h1:η[1]? = some (.list [.int c0,.int c1,.int c2,.int c]))(h20:η[20]? = some (GC pt V))(h23:η[23]? = some (.range 0 (V.length:Nat) 1)) :
  aK [60] (aN (mV 23) (aV 60)) (bA (aW .NotEq (mV 60) (ap .Mod (ap .FloorDiv (ao (mV 1) (mK (.int 3))) (mK (.int 2))) (au (aa (mV 20) ak) dH))) (ay (mV 60))) η σ=some (.list ((v8 V.length (IH c V.length)).map fun(k:Nat)=>.int k),σ):=by
 refine cF hl 60 hu (List.range V.length) (fun(i:Nat)=>.int i) (fun k => !decide (k=IH c V.length)) (fun(k:Nat)=>.int k) (by decide) (by rw[List.length_range];trivial) (vr h23 rfl) (cG _ (Nat.le_trans ‹_› (Nat.le_of_ble_eq_true rfl))) (fun k hk => ?_) fun k hk ω=>vr (rs (by rw[hl];decide)) rfl
 have hlen:dH [GC pt V] σ=some (.int (V.length:Nat),σ):=by
  have:=je (σ:=σ) (xs:=V.map fun k=>AV.tup [.str [104],.str (pt k)]) (by rw[List.length_map];trivial)
  rw[List.length_map]at this;exact this
 exact aB (vr (rs (by rw[hl];decide)) rfl) (aE (aE (ax (vr (rd h1 (by decide)) rfl) rfl rfl) rfl (vC (by decide) (by decide))) (bc (am (vr (rd h20 (by decide)) rfl) aJ) hlen) (qJ _ _ h0)) ((px).trans (by rw[eG];rfl))
noncomputable def Ch(cv:Nat→Nat→Bool)(W:Nat→Int)(V:List Nat)(i j:Nat):Int:=if i=j then((List.range V.length).map (wv cv W V i)).sum else -(wv cv W V i j)
theorem xN{R:List Nat}(hV:V.length≤7)(hR:∀i∈R,i<V.length)(hRl:R.length≤7)(hl:η.length=63)(hu:dk η 61=true)(hu':dk η 62=true)(h24:η[24]? = some (.list ((List.range V.length).map fun i=>.list ((List.range V.length).map fun j=>.int (wv cv W V i j)))))(h25:η[25]? = some (.list (R.map fun(k:Nat)=>.int k))) :
  aK [61] (aN (mV 25) (aV 61)) (bA (tK true) (ay (aK [62] (aN (mV 25) (aV 62)) (bA (tK true) (ay (hK (aW .Eq (mV 61) (mV 62)) (au (aa (ao (mV 24) (mV 61)) ak) jL) (iP (ao (ao (mV 24) (mV 61)) (mV 62))))))))) η σ =
   some (.list (R.map fun i=>.list (R.map fun j=>.int (Ch cv W V i j))),σ):=by
 refine cL hl 61 hu R (fun(i:Nat)=>.int i) _ (by decide) (Nat.le_trans ‹_› (Nat.le_of_ble_eq_true rfl)) (vr h25 rfl) rfl fun i hi => ?_
 have hi:=hR i hi
 have hl2:(η.set 61 (AV.int (i:Nat))).length=63:=by rw[List.length_set];exact hl
 refine cL hl2 62 (gq hu' (by decide)) R (fun(i:Nat)=>.int i) (fun j=>.int (Ch cv W V i j)) (by decide) (Nat.le_trans ‹_› (Nat.le_of_ble_eq_true rfl)) (vr (rd h25 (by decide)) rfl) rfl fun j hj => ?_
 have hj:=hR j hj
 have g1:((η.set 61 (AV.int (i:Nat))).set 62 (.int (j:Nat)))[61]? = some (.int (i:Nat)):=rd (rs (by rw[hl];decide)) (by decide)
 have g2:((η.set 61 (AV.int (i:Nat))).set 62 (.int (j:Nat)))[62]? = some (.int (j:Nat)):=rs (by rw[hl2];decide)
 have g24:=rd (x:=AV.int (j:Nat)) (rd (x:=AV.int (i:Nat)) h24 (i:=61) (by decide)) (i:=62) (by decide)
 have e1:=dp (σ:=σ) i (cW (fun i=>AV.list ((List.range V.length).map fun j=>.int (wv cv W V i j))) hi) (by trivial)
 have e2:=dp (σ:=σ) j (cW (fun j=>AV.int (wv cv W V i j)) hj) (by trivial)
 have t:∀b,decide (i=j)=b→aW .Eq (mV 61) (mV 62) ((η.set 61 (.int (i:Nat))).set 62 (.int (j:Nat))) σ=some (b,σ):=fun b hb=>aB (vr g1 rfl) (vr g2 rfl) ((lP).trans (by rw[eG,hb]))
 unfold Ch
 by_cases h:i=j
 ·rw[if_pos h]
  have os:=we (σ:=σ) (l:=(List.range V.length).map (wv cv W V i))
  rw[List.map_map]at os
  exact jl (t true (decide_eq_true h)) (bc (am (ax (vr g24 rfl) (vr g1 rfl) e1) aJ) os)
 ·rw[if_neg h]
  exact jm (t false (decide_eq_false h)) (j0 (ax (ax (vr g24 rfl) (vr g1 rfl) e1) (vr g2 rfl) e2))
end
end
section
theorem d6{β:Type}(φ:Nat→β):∀F:List Nat,(List.range F.length).map (fun i=>φ (F.getD i 0))=F.map φ:=by
 intro l₀
 induction l₀ with
 | nil =>
  exact rfl
 | cons x F ih₀ =>
  rw[List.length_cons,List.range_succ_eq_map,List.map_cons,List.map_map,List.map_cons,← ih₀];rfl
theorem zN:∀(V:List Nat) (i0:Nat),i0<V.length→(v8 V.length i0).map (fun i=>V.getD i 0)=V.take i0++V.drop (i0+1):=by
 intro l₀
 induction l₀ with
 | nil =>
  intro _ h
  exact absurd h (Nat.not_lt_zero _)
 | cons x V ih₀ =>
  intro i0 h
  unfold v8
  rw[List.length_cons,List.range_succ_eq_map,List.filter_cons]
  cases i0 with
  | zero =>
   rw[if_neg (by decide),List.filter_map,(List.filter_eq_self (p:=(fun k => !decide (k=0)) ∘ Nat.succ)).mpr (fun k ω=>by show(!decide (Nat.succ k=0))=true;rw[decide_eq_false (Nat.succ_ne_zero k)];rfl),List.map_map]
   exact(d6 id V).trans (List.map_id _)
  | succ j =>
   rw[if_pos (by rw[decide_eq_false (Nat.succ_ne_zero j).symm];rfl),List.filter_map,List.map_cons,List.map_map]
   have ih:=ih₀ j (Nat.lt_of_succ_lt_succ h)
   unfold v8 at ih
   show x::_=x::(V.take j++V.drop (j+1))
   rw[← ih]
   congr 2
   exact List.filter_congr fun k ω=>by
    show(!decide (k+1=j+1)) = !decide (k=j)
    rw[decide_eq_decide.mpr (Nat.succ_inj)]
theorem Fs{B:Nat} : ∀l:List Int,(∀x∈l,x.natAbs≤B)→l.sum.natAbs≤B * l.length:=by
 intro l₀
 induction l₀ with
 | nil =>
  intro _
  exact Nat.zero_le _
 | cons x l ih₀ =>
  intro h
  have h1:=h x List.mem_cons_self
  have h2:=ih₀ fun y hy=>h y (List.mem_cons_of_mem _ hy)
  rw[List.sum_cons,List.length_cons,Nat.mul_succ]
  exact Nat.le_trans (Int.natAbs_add_le _ _) (Nat.le_trans (Nat.add_le_add h1 h2) (Nat.le_of_eq (Nat.add_comm _ _)))
theorem CR{p:Nat→Bool}{W:Nat→Int}(c:Int):∀V:List Nat,(V.map fun x=>if p x=true then c * W x else 0).sum=c * (V.map fun x=>if p x=true then W x else 0).sum:=by
 intro l₀
 induction l₀ with
 | nil =>
  exact(Int.mul_zero c).symm
 | cons x V ih₀ =>
  rw[List.map_cons,List.map_cons,List.sum_cons,List.sum_cons,ih₀,Int.mul_add]
  congr 1
  split
  ·rfl
  ·exact(Int.mul_zero c).symm
noncomputable def wI(s:List Nat)(a b:Nat):Bool:=decide (a=b)||decide (a∈eK s 7 b)
section
variable{s:List Nat}{p:Nat→Bool}{W:Nat→Int}
theorem pD(T:qO s){k:Nat} : k∈Vt s p↔k<7∧p k=true:=by unfold Vt;rw[List.mem_filter,T.mem]
theorem E5(T:qO s):(Vt s p).length≤7:=Nat.le_trans (List.length_filter_le ..) (Nat.le_of_eq ((rP T).length_eq.trans (by decide)))
theorem E4(T:qO s)(h0:p 0=true)(h6:p 6=true):2≤(Vt s p).length:=by
 have m0:0∈Vt s p:=(pD T).mpr ⟨by decide,h0⟩
 have m6:6∈Vt s p:=(pD T).mpr ⟨by decide,h6⟩
 revert m0 m6
 generalize Vt s p=V
 intro m0 m6
 match V,m0,m6 with
 | [],m0,_=>cases m0
 | [x],m0,m6=>exact absurd ((List.mem_singleton.mp m0).trans (List.mem_singleton.mp m6).symm) (by decide)
 | x::y::r,_,_=>exact Nat.le_add_left 2 _
theorem AF(T:qO s){i j:Nat}(hi:i<(Vt s p).length)(hj:j<(Vt s p).length) :
  wv (wI s) W (Vt s p) i j=if((nh s).filt p).rel ((Vt s p).getD i 0) ((Vt s p).getD j 0)=true then W ((Vt s p).getD i 0) * W ((Vt s p).getD j 0)else 0:=by
 have nd:(Vt s p).Nodup:=T.nd.filter p
 have gi:=bD (Vt s p) i hi 0
 have gj:=bD (Vt s p) j hj 0
 obtain⟨i7,ip⟩:=(pD T).mp (List.mem_of_getElem? gi)
 obtain⟨j7,jp⟩:=(pD T).mp (List.mem_of_getElem? gj)
 have hne:(Vt s p).getD i 0=(Vt s p).getD j 0↔i=j:=⟨fun e=>(List.getElem?_inj hi nd).mp (by rw[gi,gj,e]),fun e=>by rw[e]⟩
 unfold wv
 congr 2
 rw[zQ ip jp,T.rel _ _ i7 j7]
 by_cases e:i=j
 ·rw[decide_eq_true e,e]
  have:decide ((Vt s p).getD j 0∈eK s 7 ((Vt s p).getD j 0))=false:=by
   have h1:=T.rel _ _ j7 j7
   have hF:((nh s).nd).Nodup:=by
    rw[← gy (nh s) [],T.an,List.map_map]
    exact(show((jd s).map id).Nodup by rw[List.map_id];exact T.nd)
   rw[pV (nh s) hF]at h1
   exact(Bool.or_eq_false_iff.mp h1.symm).1
  rw[this];rfl
 ·rw[decide_eq_false e]
  unfold wI
  have d1:decide ((Vt s p).getD i 0=(Vt s p).getD j 0)=false:=decide_eq_false fun q=>e (hne.mp q)
  have d2:decide ((Vt s p).getD j 0=(Vt s p).getD i 0)=false:=decide_eq_false fun q=>e (hne.mp q.symm)
  rw[d1,d2];rfl
theorem Hh(T:qO s)(S:c9 s){i j:Nat}(hi:i<(Vt s p).length)(hj:j<(Vt s p).length):Ch (wI s) W (Vt s p) i j=dG W 0 ((nh s).filt p) ((Vt s p).getD i 0) ((Vt s p).getD j 0):=by
 have nd:(Vt s p).Nodup:=T.nd.filter p
 have gi:=bD (Vt s p) i hi 0
 have gj:=bD (Vt s p) j hj 0
 have hne:(Vt s p).getD i 0=(Vt s p).getD j 0↔i=j:=⟨fun e=>(List.getElem?_inj hi nd).mp (by rw[gi,gj,e]),fun e=>by rw[e]⟩
 unfold Ch dG
 by_cases e:i=j
 ·rw[if_pos e,if_pos (by rw[e]),Int.zero_add]
  unfold tL cN
  rw[Dt T S,← CR,← d6 (fun x=>if((nh s).filt p).rel ((Vt s p).getD i 0) x=true then W ((Vt s p).getD i 0) * W x else 0)]
  exact congrArg List.sum (List.map_congr_left fun k hk=>AF T hi (List.mem_range.mp hk))
 ·rw[if_neg e,if_neg (fun q=>e (hne.mp q.symm)),AF T hi hj]
  split
  ·rfl
  ·rfl
end
section
variable{s:List Nat}{p:Nat→Bool}{W:Nat→Int}{σ:St}{η:be}
theorem DP(T:qO s)(S:c9 s)(h0:p 0=true)(h6:p 6=true)(hW:∀i,i<7→(W i).natAbs≤9){i0:Nat}(hi0:i0<(Vt s p).length) :
  ∃σ',bT [.list ((v8 (Vt s p).length i0).map fun i=>.list ((v8 (Vt s p).length i0).map fun j=>.int (Ch (wI s) W (Vt s p) i j)))] σ=some (.int ((fj p).foldl (fun q k=>q * fv W (fj p) (gl s (fj p)) k) 1),σ')∧∀i,i<σ.length→σ'[i]? = σ[i]? := by
 have hl:=E5 (p:=p) T
 have h2:=E4 T h0 h6
 have hr:∀i∈v8 (Vt s p).length i0,i<(Vt s p).length:=fun i h=>List.mem_range.mp (List.mem_filter.mp h).1
 have hC:=zN (Vt s p) i0 hi0
 have hCl:(v8 (Vt s p).length i0).length=(Vt s p).length - 1:=by
  have:=congrArg List.length hC
  rw[List.length_map,List.length_append,List.length_take,List.length_drop]at this
  trivial
 have hV:Vt s p=(Vt s p).take i0++(Vt s p).getD i0 0::(Vt s p).drop (i0+1):=by
  have h1:=bD (Vt s p) i0 hi0 0
  obtain⟨_,e⟩:=List.getElem?_eq_some_iff.mp h1
  rw[← e,List.getElem_cons_drop,List.take_append_drop]
 have hd:=Bp (W:=W) T S h0 h6 hV
 generalize hCe:(Vt s p).take i0++(Vt s p).drop (i0+1)=C at hC hd
 generalize hRe:dG W 0 ((nh s).filt p)=R at hd
 have e1:∀i∈v8 (Vt s p).length i0,∀j∈v8 (Vt s p).length i0,Ch (wI s) W (Vt s p) i j=R ((Vt s p).getD i 0) ((Vt s p).getD j 0):=fun i hi j hj=>by rw[← hRe];exact Hh T S (hr i hi) (hr j hj)
 have e2:(v8 (Vt s p).length i0).map (fun i=>AV.list ((v8 (Vt s p).length i0).map fun j=>AV.int (Ch (wI s) W (Vt s p) i j)))=(List.range C.length).map fun i=>AV.list ((List.range C.length).map fun j=>AV.int (R (C.getD i 0) (C.getD j 0))):=by
  rw[d6 (fun x=>AV.list ((List.range C.length).map fun j=>AV.int (R x (C.getD j 0)))) C,← hC,List.map_map]
  refine List.map_congr_left fun i hi=>congrArg AV.list ?_
  rw[hC,d6 (fun y=>AV.int (R ((Vt s p).getD i 0) y)) C,← hC,List.map_map]
  exact List.map_congr_left fun j hj=>congrArg AV.int (e1 i hi j hj)
 have hn:C.length=(Vt s p).length - 1:=by rw[← hC,List.length_map,hCl]
 have hb:∀a b,a<C.length→b<C.length→(R (C.getD a 0) (C.getD b 0)).natAbs<2 ^ 12:=fun a b ha hb=>by
  have m1:=List.mem_of_getElem? (bD C a ha 0)
  have m2:=List.mem_of_getElem? (bD C b hb 0)
  rw[← hC]at m1 m2
  obtain⟨i,hi,q1⟩:=List.mem_map.mp m1
  obtain⟨j,hj,q2⟩:=List.mem_map.mp m2
  rw[hC]at q1 q2
  rw[← q1,← q2,← e1 i hi j hj]
  have hWV:∀x∈Vt s p,(W x).natAbs≤9:=fun x hx=>hW x ((pD T).mp hx).1
  unfold Ch
  split
  ·have:=Fs (B:=81) ((List.range (Vt s p).length).map (wv (wI s) W (Vt s p) i)) fun x hx=>by
    obtain⟨k,hk,rfl⟩:=List.mem_map.mp hx
    exact ET hWV (hr i hi) (List.mem_range.mp hk)
   rw[List.length_map,List.length_range]at this
   trivial
  ·have:=ET (cv:=wI s) hWV (hr i hi) (hr j hj)
   rw[Int.natAbs_neg]
   trivial
 rw[e2]
 have:=jJ (n:=C.length) (fun i j=>R (C.getD i 0) (C.getD j 0)) (by trivial) (by trivial) hb σ
 have e3:b9 (List.range C.length) ((List.range C.length).map fun i j=>R (C.getD i 0) (C.getD j 0))=b9 C (C.map R):=by
  have h:=yk (fun i=>C.getD i 0) (List.range C.length) (C.map R)
  rw[d6 (fun x=>x) C,List.map_id',List.map_map]at h
  rw[h]
  exact congrArg (b9 _) (d6 (fun x=>(fun j=>R x (C.getD j 0))) C)
 rw[← hd,← e3]
 exact this
theorem AQ{q0:AV}(T:qO s)(S:c9 s)(h0:p 0=true)(h6:p 6=true)(hW:∀i,i<7→(W i).natAbs≤9){i0:Nat}(hi0:i0<(Vt s p).length)(hq:σ[0]? = some (.list (iO s)))(h2:η[2]? = some (.cell 0))(h5:η[5]? = some (.list (kQ W)))(h15:η[15]? = some (.list (dI (fj p))))
  (h26:η[26]? = some (.list ((v8 (Vt s p).length i0).map fun i=>.list ((v8 (Vt s p).length i0).map fun j=>.int (Ch (wI s) W (Vt s p) i j))))) :
  ∃σ',xD .Eq (au (aa (mV 26) ak) (bT)) (au (aa (mV 2) (aa (mV 5) (aa (mV 15) ak))) (dN)) η σ=some (.bool true,σ'):=by
 obtain⟨σ1,e1,f1⟩:=DP (σ:=σ) T S h0 h6 hW hi0
 have hq1:σ1[0]? = some (.list (iO s)):=(f1 0 (by cases σ with | nil=>cases hq | cons=>exact Nat.succ_pos _)).trans hq
 obtain⟨σ2,e2⟩:=n9 S hW (List.nodup_range.filter p) (fun k hk=>(jO.mp hk).1) (Nat.le_trans (List.length_filter_le ..) (by rw[List.length_range];decide)) hq1 (cn:=fj p)
 refine⟨σ2,HB (bc (am (vr h26 rfl) aJ) e1) (bc (am (vr h2 rfl) (am (vr h5 rfl) (am (vr h15 rfl) aJ))) e2) (lP.trans ?_)⟩
 rw[beq_self_eq_true]
end
end
section
noncomputable def Jc(s:List Nat):Bool:=decide ((kids s 0).length<3)&&decide ((kids s 6).length<3)
theorem Em:d5.all Jc=true:=by decide +kernel
noncomputable def Q(x:Option (fU×be×St)):Prop:=∃σ',gw x=some (.bool true,σ')
section
variable{σ σ':St}{η:be}{l:List (Nat×AV)}
theorem pF.add(H:pF η l)(i:Nat)(a:AV)(hi:i<27)(hf:l.all (fun p=>p.1 != i)=true):pF (η.set i a) ((i,a)::l):=by
 have h:=H.set i a hi
 rwa [List.filter_eq_self.mpr (fun p hp=>List.all_eq_true.mp hf p hp)]at h
noncomputable def G(l:List (Nat×AV))(σ:St)(R:MS):Prop:=∀η,pF η l→Q (R η σ)
theorem Ip{x y:Option (fU×be×St)}(h:x=y)(k:Q y):Q x:=h ▸ k
variable{R F:MS}
theorem cU{m:ME}{a:AV}(i:Nat)(hi:i<27)(hf:l.all (fun p=>p.1 != i)=true)(hm:∀η,pF η l→m η σ=some (a,σ'))(k:G ((i,a)::l) σ' R):G l σ (ae (aX m (aV i)) R):=fun η H=>by
 have h:=k _ (H.add i a hi hf)
 rwa [← (IP (R:=R) H i hi (hm η H)).1]at h
theorem sB{t:MT}{B:MS}(h:∀η,pF η l→t η σ=some (false,σ'))(k:G l σ' R):G l σ (ae (gI t B aM) R):=fun η H=>Ip (cS (h η H)) (k η H)
theorem A7(h:∀η,pF η l→F η σ=R η σ')(k:G l σ' R):G l σ F:=fun η H=>Ip (h η H) (k η H)
theorem HA{l':List (Nat×AV)}(f:be→be)(h:∀η,pF η l→F η σ=R (f η) σ')(hl:∀η,pF η l→pF (f η) l')(k:G l' σ' R):G l σ F:=fun η H=>Ip (h η H) (k _ (hl η H))
theorem F2{m:ME}{R:MS}(h:∃σ',m η σ=some (.bool true,σ')):Q (ae (dF m) R η σ):=by
 obtain⟨σ',e⟩:=h
 exact⟨σ',by rw[eX e];rfl⟩
theorem II{a:AV} : pF (lZ 63 [a]) [(0,a)] where
 len:=by unfold lZ;rw[List.length_append,List.length_replicate];rfl
 u:=fun j hj=>by
  unfold dk lZ
  rw[List.getElem?_append_right (by show 1≤j;trivial)]
  show(match (List.replicate 62 AV.unbound)[j - 1]? with | some v=>uU v | none=>true)=true
  rw[List.getElem?_replicate]
  by_cases h:j - 1<62
  ·rw[if_pos h];rfl
  ·rw[if_neg h]
 at':=fun p hp=>by rw[List.mem_singleton.mp hp];rfl
end
theorem zS(ad:lz)(ns:List Int)(hns:ns.length≤63):∃σ',uB ad [.script ns] []=some (.bool true,σ'):=by
 suffices h:G [(0,.script ns)] [] (AC ad) by
  obtain⟨σ',h⟩:=h _ II
  exact⟨σ',ph rfl h⟩
 refine cU 1 (by decide) rfl (fun η H=>xU H.len H.u ns hns (H.get 0 rfl)) ?_
 generalize oh ns 0 25920000=c0
 generalize oh ns 1 363792304=c1
 generalize oh ns 2 422203924800=c2
 generalize oh ns 3 5=c3
 have hs:=CY c0
 have A:=I9 hs
 have T:=I8 hs
 have P:GM (H6 c0) (zk c3):=Ja hs A.shape (by unfold zk;split;exact .inl rfl;exact .inr rfl)
 have hk:=List.all_eq_true.mp Em _ hs
 refine cU 2 (by decide) rfl (fun η H=>DK (H.get 1 rfl)) ?_
 refine HA (fun η=>η.set 3 (.int 6)) (fun η H=>(AP H rfl rfl).1) (fun η H=>H.add 3 (.int 6) (by decide) rfl) ?_
 generalize H6 c0=s at *
 refine cU 4 (by decide) rfl (fun η H=>DM H.len (H.u _ (by decide)) (H.get 1 rfl)) ?_
 refine cU 5 (by decide) rfl (fun η H=>DG H.len (H.u _ (by decide)) (H.get 4 rfl)) ?_
 refine cU 6 (by decide) rfl (fun η H=>xT H.len (H.u _ (by decide)) (H.get 1 rfl)) ?_
 refine cU 7 (by decide) rfl (fun η H=>DH (H.get 1 rfl)) ?_
 generalize yi c2 64=d at *
 generalize zk c3=top at *
 have ht:top.length≤100:=by rcases P.top' with e | e <;> rw[e] <;> decide
 refine cU 8 (by decide) rfl (fun η H=>xK A.shape rfl ht H.len (H.u _ (by decide)) (H.get 2 rfl) (H.get 7 rfl)) ?_
 refine cU 9 (by decide) rfl (fun η H=>xM A rfl H.len (H.u _ (by decide)) (H.u _ (by decide)) (H.get 2 rfl)) ?_
 refine cU 10 (by decide) rfl (fun η H=>xR (d:=d) H.len (H.u _ (by decide)) (H.get 5 rfl) (H.get 6 rfl)) ?_
 refine cU 11 (by decide) rfl (fun η H=>xH (d:=d) H.len (H.u _ (by decide)) (H.get 5 rfl) (H.get 10 rfl)) ?_
 refine cU 12 (by decide) rfl (fun η H=>sq (d:=d) H.len (H.u _ (by decide)) (H.get 6 rfl) (H.get 9 rfl) (H.get 11 rfl)) ?_
 refine cU 13 (by decide) rfl (fun η H=>xJ ht (H.get 7 rfl)) ?_
 have ha:∀k,k<7→(tq s c1 d k).length≤200∧(tq s c1 d k).head? = some 50:=fun k hk=>⟨kg (fc s k) (cb c1 k (d k)),rfl⟩
 refine A7 (fun η H=>DN (H.get 13 rfl) (AN (pt:=fun k=>aS s 8 k top) (an:=tq s c1 d) (fun k hk=>Nat.le_trans (P.len k hk) (by decide)) (fun k hk=>(ha k hk).1) H.len (H.u _ (by decide)) (H.get 8 rfl) (H.get 12 rfl))) ?_
 refine cU 14 (by decide) rfl (fun η H=>xI (pt:=fun k=>aS s 8 k top) (an:=tq s c1 d) gY (fun k hk=>⟨Nat.le_trans (P.len k hk) (by decide),P.no61 k hk⟩) P.nd ha (H.get 13 rfl)) ?_
 refine sB (fun η H=>xQ (pt:=fun k=>aS s 8 k top) (an:=tq s c1 d) (H.get 8 rfl) (H.get 12 rfl) (H.get 14 rfl)) ?_
 refine cU 15 (by decide) rfl (fun η H=>DR (s:=s) (d:=d) H.len (H.u _ (by decide)) (H.get 6 rfl) (H.get 9 rfl)) ?_
 refine HA (fun η=>(η.set 16 (.cell 3)).set 17 (.cell 4)) (fun η H=>DL H.len) (fun η H=>(H.add 16 (.cell 3) (by decide) rfl).add 17 (.cell 4) (by decide) rfl) ?_
 refine A7 (fun η H=>law_crawl A P T c1 d (H.get 7 rfl) (H.get 14 rfl) (H.get 16 rfl) (H.get 17 rfl)) ?_
 refine sB (fun η H=>xO A P T c1 d H.len (H.u _ (by decide)) (H.u _ (by decide)) (H.get 8 rfl) (H.get 9 rfl) (H.get 11 rfl) (H.get 16 rfl) rfl) ?_
 refine sB (fun η H=>law_told P T c1 d H.len (H.u _ (by decide)) (H.get 5 rfl) (H.get 8 rfl) (H.get 12 rfl) (H.get 15 rfl) (H.get 17 rfl) rfl) ?_
 refine sB (fun η H=>uQ H.len (H.u _ (by decide)) (H.u _ (by decide)) (H.get 17 rfl)) ?_
 refine cU 18 (by decide) rfl (fun η H=>AL (s:=s) (w:=c1) (d:=d) H.len (H.u _ (by decide)) (H.get 12 rfl)) ?_
 refine A7 (fun η H=>AK (s:=s) H.len (H.u _ (by decide)) (H.u _ (by decide)) (H.get 11 rfl) (H.get 18 rfl)) ?_
 refine sB (fun η H=>AJ (s:=s) H.len (H.u _ (by decide)) (H.get 18 rfl)) ?_
 refine cU 19 (by decide) rfl (fun ω ω=>rfl) ?_
 have hO:(jd s).length≤1000:=by rw[(rP T).length_eq];decide
 have hn:((jd s).map fun k=>aS s 8 k top).Nodup:=((rP T).map _).nodup_iff.mpr P.nd
 refine cU 20 (by decide) rfl (fun η H=>DJ (p:=pC s d) (W:=gP c1) (an:=tq s c1 d) hO hn H.len (H.u _ (by decide)) (H.get 17 rfl) rfl) ?_
 refine cU 21 (by decide) rfl (fun η H=>DI (p:=pC s d) (W:=gP c1) (an:=tq s c1 d) hO hn H.len (H.u _ (by decide)) (H.get 17 rfl) rfl) ?_
 have h0:pC s d 0=true:=by
  unfold pC sW lY yC
  rw[List.length_map,List.length_range,(Bool.and_eq_true_iff.mp hk).1,show(!((0:Nat)==0||(0:Nat)==6))=false from rfl,Bool.and_false];rfl
 have h6:pC s d 6=true:=by
  unfold pC sW lY yC
  rw[List.length_map,List.length_range,(Bool.and_eq_true_iff.mp hk).2,show(!((6:Nat)==0||(6:Nat)==6))=false from rfl,Bool.and_false];rfl
 have hV:((jd s).filter (pC s d)).length≤7:=E5 (p:=pC s d) T
 have hV2:2≤((jd s).filter (pC s d)).length:=E4 T h0 h6
 have h7:∀k∈(jd s).filter (pC s d),k<7:=fun k hk=>((pD T).mp hk).1
 have hpl:∀k∈(jd s).filter (pC s d),(aS s 8 k top).length≤100:=fun k hk=>P.len k (h7 k hk)
 refine cU 22 (by decide) rfl (fun η H=>DQ (pt:=fun k=>aS s 8 k top) (cv:=wI s) hV hpl (fun a ha b hb=>P.sub a b (h7 a ha) (h7 b hb)) H.len (H.u _ (by decide)) (H.u _ (by decide)) (H.get 19 rfl) (H.get 20 rfl)) ?_
 refine sB (fun η H=>AR H.len (H.u _ (by decide)) (H.u _ (by decide)) (H.get 22 rfl)) ?_
 refine cU 23 (by decide) rfl (fun η H=>xS hV (H.get 20 rfl)) ?_
 have hpw:∀i j,j<i→i<((jd s).filter (pC s d)).length→wI s (((jd s).filter (pC s d)).getD i 0) (((jd s).filter (pC s d)).getD j 0)=false:=fun i j hj hi=>by
  have hp:=List.pairwise_iff_getElem.mp (P.pw.filter (pC s d)) j i (by trivial) hi hj
  have hq:=List.pairwise_iff_getElem.mp (T.nd.filter (pC s d)) j i (by trivial) hi hj
  have gi:=bD ((jd s).filter (pC s d)) i hi 0
  have gj:=bD ((jd s).filter (pC s d)) j (by trivial) 0
  rw[List.getElem?_eq_getElem hi]at gi
  rw[List.getElem?_eq_getElem (show j<((jd s).filter (pC s d)).length by trivial)]at gj
  rw[Option.some.inj gi,Option.some.inj gj]at hp hq
  unfold wI
  rw[decide_eq_false hp,decide_eq_false (fun e=>hq e.symm)];rfl
 refine sB (fun η H=>xL hV hpw H.len (H.u _ (by decide)) (H.u _ (by decide)) (H.get 22 rfl) (H.get 23 rfl)) ?_
 refine sB (fun η H=>AM hpl ht H.len (H.u _ (by decide)) (H.get 7 rfl) (H.get 19 rfl) (H.get 20 rfl)) ?_
 have hW:∀i,i<7→(gP c1 i).natAbs≤9:=fun i ω=>tO c1 i
 refine cU 24 (by decide) rfl (fun η H=>xP (cv:=wI s) hV (fun x hx=>tO c1 x) H.len (H.u _ (by decide)) (H.u _ (by decide)) (H.get 21 rfl) (H.get 22 rfl) (H.get 23 rfl)) ?_
 refine cU 25 (by decide) rfl (fun η H=>AO hV (Nat.le_of_lt ‹_›) H.len (H.u _ (by decide)) (H.get 1 rfl) (H.get 20 rfl) (H.get 23 rfl)) ?_
 refine cU 26 (by decide) rfl (fun η H=>xN (cv:=wI s) (W:=gP c1) hV (fun i hi=>List.mem_range.mp (List.mem_filter.mp hi).1) (Nat.le_trans (List.length_filter_le ..) (by rw[List.length_range];exact hV)) H.len (H.u _ (by decide)) (H.u _ (by decide)) (H.get 24 rfl) (H.get 25 rfl)) ?_
 exact fun η H=>F2 (AQ (q0:=.none) T A.shape h0 h6 hW (i0:=IH c3 (Vt s (pC s d)).length) (zo _ _ (by show 0<((jd s).filter (pC s d)).length;trivial)) rfl (H.get 2 rfl) (H.get 5 rfl) (H.get 15 rfl) (H.get 26 rfl))
end
section
noncomputable def Gs:lz:=⟨140,137,82,94,151,156,163,170,177,182,187,192⟩
theorem ctx03{w:World}{s₁:Shared}{loose:List Str}{mean:ExcName→Option Value}{mg mb:Str→Option Value}(KX:(hd03.heap_39 w.params).In s₁.heap)(T:Top hd03.view_39 loose mean mg mb s₁.heap)
  {lo:∃b o,s₁.heap.get? b=some o∧sysModules<b} {pk:∃ob,s₁.heap.get? 87=some ob∧ob.cls=.type "re.Pattern" ∧ ob.dict=none} :
  Ctx ⟨pr,w,s₁.heap,callerA.depth,callerA.units,73,87,lo,pk⟩ (hd03.heap_39 w.params) Gs where
 U:=HF
 kat:=⟨KX,by kernel_rfl,by kernel_rfl⟩
 g_exc:=bR T.g KX (o:=_) rfl (by kernel_rfl)
 exc:=Gd T KX (o:=_) rfl (by kernel_rfl) (by decide +kernel)
 g_mgr:=bR T.g KX (o:=_) rfl (by kernel_rfl)
 mgr:=⟨108,_,_,_,_,_,_,{
  inn:=KX
  makes:=by kernel_rfl
  init:=by kernel_rfl
  fnI:=by kernel_rfl
  keep:=by kernel_rfl
  seta:=by kernel_rfl
  plain:=by kernel_rfl
  taker:=by kernel_rfl
  hasd:=by kernel_rfl
  ga:=by kernel_rfl
  noga:=by kernel_rfl
  meth:=by kernel_rfl
  fnS:=by kernel_rfl
  fobj:=⟨_,KX 137 _ rfl,rfl⟩
  FI:=sC KX T.nolimit (o:=_) rfl rfl rfl (by kernel_rfl) rfl rfl rfl rfl rfl rfl (uP fun ω=>rfl)
  self:=by rfl }⟩
 pat:=⟨_,_,_,84,_,86,_,_,_,_,_,_,KX 87 _ rfl,KX 86 _ rfl,rfl,by decide +kernel,KX 84 _ rfl,Dc (KX 84 _ rfl)⟩
 g_pat:=bR T.g KX (o:=_) rfl (by kernel_rfl)
 g_enumerate:=di T.g T.b KX (o:=_) rfl (by kernel_rfl) ((T.builtins _ (by decide +kernel)).trans (by decide +kernel))
 g_int:=di T.g T.b KX (o:=_) rfl (by kernel_rfl) ((T.builtins _ (by decide +kernel)).trans (by decide +kernel))
 g_isinstance:=di T.g T.b KX (o:=_) rfl (by kernel_rfl) ((T.builtins _ (by decide +kernel)).trans (by decide +kernel))
 g_len:=di T.g T.b KX (o:=_) rfl (by kernel_rfl) ((T.builtins _ (by decide +kernel)).trans (by decide +kernel))
 g_list:=di T.g T.b KX (o:=_) rfl (by kernel_rfl) ((T.builtins _ (by decide +kernel)).trans (by decide +kernel))
 g_range:=di T.g T.b KX (o:=_) rfl (by kernel_rfl) ((T.builtins _ (by decide +kernel)).trans (by decide +kernel))
 g_str:=di T.g T.b KX (o:=_) rfl (by kernel_rfl) ((T.builtins _ (by decide +kernel)).trans (by decide +kernel))
 g_sum:=di T.g T.b KX (o:=_) rfl (by kernel_rfl) ((T.builtins _ (by decide +kernel)).trans (by decide +kernel))
 g_tuple:=di T.g T.b KX (o:=_) rfl (by kernel_rfl) ((T.builtins _ (by decide +kernel)).trans (by decide +kernel))
 g_zip:=di T.g T.b KX (o:=_) rfl (by kernel_rfl) ((T.builtins _ (by decide +kernel)).trans (by decide +kernel))
 f_is_suburi:=dR KX T.nolimit (o:=_) rfl rfl rfl rfl (by kernel_rfl) rfl rfl rfl rfl rfl rfl (DF fun ω ω ω=>rfl)
 g_parse229:=bR T.g KX (o:=_) rfl (by kernel_rfl)
 f_parse229:=dR KX T.nolimit (o:=_) rfl rfl rfl rfl (by kernel_rfl) rfl rfl rfl rfl rfl rfl (Ho fun ω ω=>rfl)
 g_ParseFlags:=bR T.g KX (o:=_) rfl (by kernel_rfl)
 f_ParseFlags:=dR KX T.nolimit (o:=_) rfl rfl rfl rfl (by kernel_rfl) rfl rfl rfl rfl rfl rfl (uP fun ω=>rfl)
 g_parse_keqv_list:=bR T.g KX (o:=_) rfl (by kernel_rfl)
 f_parse_keqv_list:=dR KX T.nolimit (o:=_) rfl rfl rfl rfl (by kernel_rfl) rfl rfl rfl rfl rfl rfl (uP fun ω=>rfl)
 g_law_path:=bR T.g KX (o:=_) rfl (by kernel_rfl)
 f_law_path:=dR KX T.nolimit (o:=_) rfl rfl rfl rfl (by kernel_rfl) rfl rfl rfl rfl rfl rfl (DF fun ω ω ω=>rfl)
 g_law_answer:=bR T.g KX (o:=_) rfl (by kernel_rfl)
 f_law_answer:=dR KX T.nolimit (o:=_) rfl rfl rfl rfl (by kernel_rfl) rfl rfl rfl rfl rfl rfl (Hn fun ω ω ω ω=>rfl)
 g_law_told:=bR T.g KX (o:=_) rfl (by kernel_rfl)
 f_law_told:=dR KX T.nolimit (o:=_) rfl rfl rfl rfl (by kernel_rfl) rfl rfl rfl rfl rfl rfl (uP fun ω=>rfl)
 g_law_crawl:=bR T.g KX (o:=_) rfl (by kernel_rfl)
 f_law_crawl:=dR KX T.nolimit (o:=_) rfl rfl rfl rfl (by kernel_rfl) rfl rfl rfl rfl rfl rfl (Hn fun ω ω ω ω=>rfl)
 g_law_determinant:=bR T.g KX (o:=_) rfl (by kernel_rfl)
 f_law_determinant:=dR KX T.nolimit (o:=_) rfl rfl rfl rfl (by kernel_rfl) rfl rfl rfl rfl rfl rfl (uP fun ω=>rfl)
 g_law_product:=bR T.g KX (o:=_) rfl (by kernel_rfl)
 f_law_product:=dR KX T.nolimit (o:=_) rfl rfl rfl rfl (by kernel_rfl) rfl rfl rfl rfl rfl rfl (DF fun ω ω ω=>rfl)
 g_law:=bR T.g KX (o:=_) rfl (by kernel_rfl)
 f_law:=dR KX T.nolimit (o:=_) rfl rfl rfl rfl (by kernel_rfl) rfl rfl rfl rfl rfl rfl (uP fun ω=>rfl)
end
section
theorem pure03(ns:List Int)(h:ns.length≤63):∃σ',uB Gs [.script ns] []=some (.bool true,σ'):=zS Gs ns h
end
end Mine
section
set_option maxHeartbeats 8000000 in
set_option tactic.hygienic true in
theorem PySem.Challenge.cw_wn0050_03_holds : PySem.Challenge.rw_wn0050_03.Holds :=
 Mine.of_row (hd03 (by
 k_fill
 intro w s₀ s₁ mg mb G Y fa o pm cd doc dV kV ho hd hcd hD hmg hg cR vals as hpre hlay hrd hwl hlo
 have KX:=kIn_of Y
 clear hD hcd hd
 refine Ground.open G ?_
 intro T B D TE TW
 have hfa:fa=192:=by
  have h1:=Mine.look_ns T.g (KX 3 _ rfl) (x:=Str.ofString "law") (r:=some (.ref 192)) (by kernel_rfl)
  have h2:mg (Str.ofString "law")=some (.ref fa):=hmg
  rw[h1]at h2
  cases h2;rfl
 subst hfa
 clear hmg B D TE TW Y
 wrow_args hpre hlay hrd hwl hlo
 rename_i ns _ _ _ _ _ _ _ l vs _ hl _ _ _ hI _ hlen _
 have lo:∃b o,s₁.heap.get? b=some o∧sysModules<b:=⟨192,_,KX 192 _ rfl,by decide⟩
 have pk:∃ob,s₁.heap.get? 87=some ob∧ob.cls=.type "re.Pattern" ∧ ob.dict=none:=⟨_,KX 87 _ rfl,rfl,rfl⟩
 obtain⟨σ',hp⟩:=Mine.pure03 ns (by trivial)
 have C:=Mine.ctx03 KX T (lo:=lo) (pk:=pk)
 refine Mine.join_law (lo:=lo) (pk:=pk) hl hI (Mine.c_law C (by trivial)) hp fun s' keep hos hgens => ?_
 refine GoodW.toG ⟨.inl ⟨.bool true,.bool true,[],rfl,?_,.bool true,?_,fun ω=>⟨List.nodup_nil,fun ω h=>nomatch h⟩⟩,keep,hos,hgens.trans hg⟩
 ·intro cls;rfl
 ·wrow_post))
end
