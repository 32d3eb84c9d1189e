import PyProof.Rows.All
import Wide.All
import OpenK.AllK
import Wide.FinOn
import Lean
import PySem.Challenge.RW_jk0047_01
set_option autoImplicit false
set_option genInjectivity false
set_option genSizeOf false
set_option linter.all false
set_option maxRecDepth 100000
set_option maxHeartbeats 0
set_option bootstrap.genMatcherCode false
noncomputable section
namespace Mine
section
open PySem PySem.W PyProof.Rows
structure Gh where
 m:Addr→Option Obj
 wa:Option Addr
 par:Params
 tb:List (Addr×Addr)
 ms:Str→Option Value
structure Gh.le (P P':Gh):Prop where
 m:∀ a o,P.m a=some o→P'.m a=some o
 wa:∀ a,P.wa=some a→P'.wa=some a
 par:P'.par=P.par
 tb:P'.tb=P.tb
 ms:P'.ms=P.ms
theorem Gh.le.refl (P:Gh):P.le P:=⟨fun a a e=>e,fun a e=>e,rfl,rfl,rfl⟩
theorem Gh.le.trans {P Q R:Gh} (x:P.le Q) (y:Q.le R):P.le R :=
 ⟨fun a o e=>y.m a o (x.m a o e),fun a e=>y.wa a (x.wa a e),y.par.trans x.par,y.tb.trans x.tb,y.ms.trans x.ms⟩
set_option genInjectivity true in
inductive V where
 | none
 | bool (b:Bool)
 | int (i:Int)
 | str (s:List Nat)
 | byt (b:List Nat)
 | adr (a:Addr)
 | bi (x:String)
 | ty (x:String)
 | tup (l:List V)
 | lst (l:List V)
 | dct (l:List (List Nat×V))
 | obj (c:Addr) (f:List (Str×V))
 | wref
 | ml (l:List V)
 | md (l:List (List Nat×V))
 | mi (c:Addr) (f:List (Str×V))
noncomputable def S (l:List Nat):Str:=⟨l.toArray⟩
theorem rC (l:List Nat):(S l).cps.toList=l:=rfl
theorem z9 (l:List Nat):(S l).length=l.length:=rfl
theorem uO {a b:List Nat} (h:S a=S b):a=b:=congrArg (fun s=>s.cps.toList) h
theorem S_of (s:Str):S s.cps.toList=s:=rfl
noncomputable def eY (P:Gh) (a:Addr) (xs:List Value):Prop:=∃ o n,P.m a=some o∧(o.cls,o.dict)=(Value.type "list",(none:Option Addr))∧o.data=.seq xs.toArray n
noncomputable def eX (P:Gh) (a:Addr) (xs:List Value):Prop:=∃ o n,P.m a=some o∧o.cls=.type "tuple" ∧ o.data=.seq xs.toArray n
noncomputable def j6 (P:Gh) (a:Addr) (es:List DictEntry):Prop:=∃ n,P.m a=some (dictOf es n)
theorem eY.mono {P P':Gh} {a:Addr} {xs:List Value} (h:P.le P'):eY P a xs→eY P' a xs:=Exists.imp fun b=>Exists.imp fun b=>And.imp_left (h.m _ _)
theorem eX.mono {P P':Gh} {a:Addr} {xs:List Value} (h:P.le P'):eX P a xs→eX P' a xs:=Exists.imp fun b=>Exists.imp fun b=>And.imp_left (h.m _ _)
theorem j6.mono {P P':Gh} {a:Addr} {es:List DictEntry} (h:P.le P'):j6 P a es→j6 P' a es:=Exists.imp fun b=>h.m _ _
mutual
noncomputable def ao (P:Gh):V→Value→Prop
 | .none,x=>x=.none
 | .bool b,x=>x=.bool b
 | .int i,x=>∃ t,x=.int i t
 | .str s,x=>∃ t,x=.str (S s) t
 | .byt b,x=>∃ t,x=.bytes (b.map UInt8.ofNat).toArray t∧∀ c∈b,c<256
 | .adr a,x=>x=.ref a
 | .bi i,x=>x=.builtin i
 | .ty i,x=>x=.type i
 | .tup l,x=>∃ a xs,x=.ref a∧eX P a xs∧VRels P l xs
 | .lst l,x=>∃ a xs,x=.ref a∧eY P a xs∧VRels P l xs
 | .dct l,x=>∃ a es,x=.ref a∧j6 P a es∧VRelD P l es∧a≠sysModules
 | .obj c f,x=>∃ a dx es,x=.ref a∧P.m a=some (instObj c dx)∧j6 P dx es∧VRelF P f es
 | .wref,x=>∃ a,x=.ref a∧P.wa=some a
 | .ml _,_=>False
 | .md _,_=>False
 | .mi _ _,_=>False
noncomputable def VRels (P:Gh):List V→List Value→Prop
 | [],xs=>xs=[]
 | v::r,xs=>∃ y ys,xs=y::ys∧ao P v y∧VRels P r ys
noncomputable def VRelD (P:Gh):List (List Nat×V)→List DictEntry→Prop
 | [],es=>es=[]
 | (k,v)::r,es=>∃ t y es',es=⟨PyData.keyHash P.par (S k),.str (S k) t,y⟩::es'∧ao P v y∧VRelD P r es'
noncomputable def VRelF (P:Gh):List (Str×V)→List DictEntry→Prop
 | [],es=>es=[]
 | (k,v)::r,es=>∃ t y es',es=⟨PyData.keyHash P.par k,.str k t,y⟩::es'∧ao P v y∧VRelF P r es'
end
section
variable {P P':Gh} (h:P.le P')
include h
mutual
theorem ao.mono:∀ (v:V) {x:Value},ao P v x→ao P' v x
 | .none,_=>id
 | .bool _,_=>id
 | .int _,_=>id
 | .str _,_=>id
 | .byt _,_=>id
 | .adr _,_=>id
 | .bi _,_=>id
 | .ty _,_=>id
 | .tup l,_=>Exists.imp fun a=>Exists.imp fun a=>And.imp_right (And.imp (eX.mono h) (VRels.mono l))
 | .lst l,_=>Exists.imp fun a=>Exists.imp fun a=>And.imp_right (And.imp (eY.mono h) (VRels.mono l))
 | .dct l,_=>Exists.imp fun a=>Exists.imp fun a=>And.imp_right (And.imp (j6.mono h) (And.imp_left (VRelD.mono l)))
 | .obj _ f,_=>Exists.imp fun a=>Exists.imp fun a=>Exists.imp fun a=>And.imp_right (And.imp (h.m _ _) (And.imp (j6.mono h) (VRelF.mono f)))
 | .wref,_=>Exists.imp fun a=>And.imp_right (h.wa _)
 | .ml _,_=>id
 | .md _,_=>id
 | .mi _ _,_=>id
theorem VRels.mono:∀ (l:List V) {xs:List Value},VRels P l xs→VRels P' l xs
 | [],_=>id
 | v::r,_=>Exists.imp fun a=>Exists.imp fun a=>And.imp_right (And.imp (ao.mono v) (VRels.mono r))
theorem VRelD.mono:∀ (l:List (List Nat×V)) {xs:List DictEntry},VRelD P l xs→VRelD P' l xs
 | [],_=>id
 | (_,v)::r,_=>Exists.imp fun a=>Exists.imp fun a=>Exists.imp fun a=>And.imp (fun e=>h.par▸e) (And.imp (ao.mono v) (VRelD.mono r))
theorem VRelF.mono:∀ (l:List (Str×V)) {xs:List DictEntry},VRelF P l xs→VRelF P' l xs
 | [],_=>id
 | (_,v)::r,_=>Exists.imp fun a=>Exists.imp fun a=>Exists.imp fun a=>And.imp (fun e=>h.par▸e) (And.imp (ao.mono v) (VRelF.mono r))
end
theorem ao.up {v:V} {x:Value} (a:ao P v x):ao P' v x:=ao.mono h v a
theorem VRels.up {v:List V} {x:List Value} (a:VRels P v x):VRels P' v x:=VRels.mono h v a
end
section
variable {P:Gh}
theorem cq (i:Int) (t:Tok):ao P (.int i) (.int i t):=⟨t,rfl⟩
theorem cV (x:List Nat) (t:Tok):ao P (.str x) (.str (S x) t):=⟨t,rfl⟩
theorem ei (b:Bool):ao P (.bool b) (.bool b):=rfl
theorem oq:ao P .none .none:=rfl
theorem vi_byt {b:List Nat} (t:Tok) (h:∀ c∈b,c<256):ao P (.byt b) (.bytes (b.map UInt8.ofNat).toArray t):=⟨t,rfl,h⟩
theorem eA {l:List V} {a:Addr} {xs:List Value} (h:eY P a xs) (r:VRels P l xs):ao P (.lst l) (.ref a):=⟨a,xs,rfl,h,r⟩
theorem rK {l:List V} {a:Addr} {xs:List Value} (h:eX P a xs) (r:VRels P l xs):ao P (.tup l) (.ref a):=⟨a,xs,rfl,h,r⟩
theorem bz:VRels P [] []:=rfl
theorem bk {v:V} {l:List V} {y:Value} {ys:List Value} (h:ao P v y) (r:VRels P l ys):VRels P (v::l) (y::ys):=⟨y,ys,rfl,h,r⟩
section
variable {x:Value} {C:Value→Prop}
theorem tV {i:Int} (h:ao P (.int i) x) (q:∀ t,C (.int i t)):C x:=h.elim fun t e=>e▸q t
theorem lK {i:List Nat} (h:ao P (.str i) x) (q:∀ t,C (.str (S i) t)):C x:=h.elim fun t e=>e▸q t
theorem s4 {b:Bool} (h:ao P (.bool b) x) (q:C (.bool b)):C x:=(show x=.bool b from h)▸q
theorem l9 (h:ao P .none x) (q:C .none):C x:=(show x=.none from h)▸q
theorem oj {a:Addr} (h:ao P (.adr a) x) (q:C (.ref a)):C x:=(show x=.ref a from h)▸q
theorem bi_q {a:String} (h:ao P (.bi a) x) (q:C (.builtin a)):C x:=(show x=.builtin a from h)▸q
theorem j8 {a:String} (h:ao P (.ty a) x) (q:C (.type a)):C x:=(show x=.type a from h)▸q
theorem zM {b:List Nat} (h:ao P (.byt b) x) (q:∀ t,(∀ c∈b,c<256)→C (.bytes (b.map UInt8.ofNat).toArray t)):C x:=h.elim fun t e=>e.1▸q t e.2
theorem xg {l:List V} (h:ao P (.lst l) x) (q:∀ a xs,eY P a xs→VRels P l xs→C (.ref a)):C x:=h.elim fun a h=>h.elim fun xs e=>e.1▸q a xs e.2.1 e.2.2
theorem wf {l:List V} (h:ao P (.tup l) x) (q:∀ a xs,eX P a xs→VRels P l xs→C (.ref a)):C x:=h.elim fun a h=>h.elim fun xs e=>e.1▸q a xs e.2.1 e.2.2
theorem zc {l:List (List Nat×V)} (h:ao P (.dct l) x) (q:∀ a es,j6 P a es→VRelD P l es→a≠sysModules→C (.ref a)):C x:=h.elim fun a h=>h.elim fun xs e=>e.1▸q a xs e.2.1 e.2.2.1 e.2.2.2
theorem jk {c:Addr} {f:List (Str×V)} (h:ao P (.obj c f) x) (q:∀ a dx es,P.m a=some (instObj c dx)→j6 P dx es→VRelF P f es→C (.ref a)):C x:=h.elim fun a h=>h.elim fun dx h=>h.elim fun es e=>e.1▸q a dx es e.2.1 e.2.2.1 e.2.2.2
theorem rJ (h:ao P .wref x) (q:∀ a,P.wa=some a→C (.ref a)):C x:=h.elim fun a e=>e.1▸q a e.2
end
theorem e9 {v:V} {l:List V} {xs:List Value} {C:List Value→Prop} (h:VRels P (v::l) xs) (q:∀ y ys,ao P v y→VRels P l ys→C (y::ys)):C xs:=h.elim fun y h=>h.elim fun ys e=>e.1▸q y ys e.2.1 e.2.2
theorem fu {xs:List Value} {C:List Value→Prop} (h:VRels P [] xs) (q:C []):C xs:=(show xs=[] from h)▸q
theorem VRels.append:∀ {l l':List V} {xs xs':List Value},VRels P l xs→VRels P l' xs'→VRels P (l++l') (xs++xs')
 | [],_,_,_,e,h=>fu (C:=fun x=>VRels P _ (x++_)) e h
 | _::_,_,_,_,e,h=>e9 (C:=fun x=>VRels P _ (x++_)) e fun c c a b=>bk a (b.append h)
theorem VRels.length:∀ {l:List V} {xs:List Value},VRels P l xs→xs.length=l.length
 | [],_,e=>fu (C:=fun x=>x.length=_) e rfl
 | _::_,_,e=>e9 (C:=fun x=>x.length=_) e fun a a a b=>congrArg (· + 1) b.length
theorem VRels.get:∀ {l:List V} {xs:List Value},VRels P l xs→∀ {i:Nat} {v:V},l[i]? = some v→∃ x,xs[i]? = some x∧ao P v x
 | [],_,_,_,_,h=>nomatch h
 | u::_,_,e,0,v,h=>e9 (C:=fun x=>∃ z,x[0]? = some z∧ao P v z) e fun y c a c=>⟨y,rfl,Option.some.inj h▸a⟩
 | _::_,_,e,_+1,v,h=>e9 (C:=fun x=>∃ z,x[_+1]? = some z∧ao P v z) e fun c c c b=>b.get h
theorem VRels.getIdx {l:List V} {xs:List Value} (h:VRels P l xs) {i:Nat} {x:Value} (e:xs[i]? = some x):∃ v,l[i]? = some v∧ao P v x :=
 have hi:i<l.length:=h.length▸(List.getElem?_eq_some_iff.mp e).1
 have ⟨_,h1,h2⟩:=h.get (List.getElem?_eq_getElem hi)
 ⟨_,List.getElem?_eq_getElem hi,Option.some.inj (e.symm.trans h1)▸h2⟩
theorem VRels.take:∀ {l:List V} {xs:List Value},VRels P l xs→∀ n,VRels P (l.take n) (xs.take n)
 | _,_,_,0=>bz
 | [],_,e,_+1=>fu (C:=fun x=>VRels P _ (x.take _)) e bz
 | _::_,_,e,n+1=>e9 (C:=fun x=>VRels P _ (x.take (n+1))) e fun c c a b=>bk a (b.take n)
theorem VRels.drop:∀ {l:List V} {xs:List Value},VRels P l xs→∀ n,VRels P (l.drop n) (xs.drop n)
 | _,_,e,0=>e
 | [],_,e,_+1=>fu (C:=fun x=>VRels P _ (x.drop _)) e bz
 | _::_,_,e,n+1=>e9 (C:=fun x=>VRels P _ (x.drop (n+1))) e fun a a a b=>b.drop n
theorem VRels.reverse:∀ {l:List V} {xs:List Value},VRels P l xs→VRels P l.reverse xs.reverse
 | [],_,e=>fu (C:=fun x=>VRels P _ x.reverse) e bz
 | _::_,_,e=>e9 (C:=fun x=>VRels P _ x.reverse) e fun c c a b=>by
  rw [List.reverse_cons,List.reverse_cons];exact b.reverse.append (bk a bz)
theorem VRels.set:∀ {l:List V} {xs:List Value},VRels P l xs→∀ (n:Nat) {v:V} {x:Value},ao P v x→VRels P (l.set n v) (xs.set n x)
 | [],_,e,_,_,y,_=>fu (C:=fun x=>VRels P _ (x.set _ y)) e bz
 | _::_,_,e,0,_,y,h=>e9 (C:=fun x=>VRels P _ (x.set 0 y)) e fun c c c b=>bk h b
 | _::_,_,e,n+1,_,y,h=>e9 (C:=fun x=>VRels P _ (x.set (n+1) y)) e fun c c a b=>bk a (b.set n h)
end
noncomputable def Gh.put (P:Gh) (a:Addr) (o:Obj):Gh:={ P with m:=fun b=>if b=a then some o else P.m b }
theorem Gh.put_self (P:Gh) (a:Addr) (o:Obj):(P.put a o).m a=some o:=if_pos rfl
theorem Gh.put_ne {P:Gh} {a b:Addr} {o:Obj} (h:b≠a):(P.put a o).m b=P.m b:=if_neg h
theorem aL {α:Type _} {x:α} {C:Prop} (h:(none:Option α)=some x):C:=nomatch h
theorem Gh.put_le {P:Gh} {a:Addr} {o:Obj} (h:P.m a=none):P.le (P.put a o) :=
 ⟨fun b b e=>(Gh.put_ne fun q=>aL (h.symm.trans (q▸e))).trans e,fun b e=>e,rfl,rfl,rfl⟩
theorem aG {α:Type} {x:Option α} (hn:∀ o,x=some o→False):x=none:=Option.eq_none_iff_forall_ne_some.mpr hn
set_option genInjectivity true in
inductive bf where
 | ns (a:Addr) (x:Str)
 | cell (a:Addr)
noncomputable def bf.addr:bf→Addr
 | .ns a _=>a
 | .cell a=>a
noncomputable abbrev Wt:=Option (List Int×Int)
structure St where
 loc:List (Option V)
 w:Wt
noncomputable def St.set (σ:St) (i:Nat) (v:V):St:={ σ with loc:=σ.loc.set i (some v) }
structure Act where
 hp:Addr→Option Obj
 gens:Array GenState
 drawn:Drawn
 os:OsState
 P0:Gh
 fr:List Addr
 dx:Addr
abbrev Act.at (s:Shared) (P:Gh) (hp:Addr→Option Obj) (fr:List Addr) (dx:Addr:=0):Act:={ hp:=hp,gens:=s.gens,drawn:=s.drawn,os:=s.os,P0:=P,fr:=fr,dx:=dx }
noncomputable def ce (A:Act) (P:Gh) (a:Addr):Prop:=P.m a=none∧P.wa≠some a∧A.hp a=none
noncomputable def bn (h:Heap):bf→Prop
 | .ns a _=>∃ m,h.Ns a m
 | .cell a=>∃ o v,h.get? a=some o∧o.data=.cell v
noncomputable def Holds (h:Heap):bf→Value→Prop
 | .ns a n,x=>∃ m,h.Ns a m∧m n=some x
 | .cell a,x=>∃ o,h.get? a=some o∧o.data=.cell (some x)
inductive cb (A:Act) (P:Gh) (h:Heap):Option Addr→V→Value→Prop
 | val {v:V} {x:Value}:ao P v x→cb A P h none v x
 | ml {l:List V} {a:Addr} {xs:List Value} {n:Nat}:h.get? a=some { cls:=.type "list",data:=.seq (List.toArray xs) n }→VRels P l xs→cb A P h (some a) (.ml l) (.ref a)
 | md {l:List (List Nat×V)} {a:Addr} {es:List DictEntry} {n:Nat}:h.get? a=some (dictOf es n)→VRelD P l es→a≠sysModules→cb A P h (some a) (.md l) (.ref a)
 | mi {c:Addr} {f:List (Str×V)} {a dx:Addr} {es:List DictEntry} {n:Nat}:A.dx=dx→A.hp a=some (instObj c dx)→P.wa≠some a→h.get? dx=some (dictOf es n)→VRelF P f es→cb A P h (some dx) (.mi c f) (.ref a)
inductive bJ (A:Act) (P:Gh) (h:Heap) (p:bf):Option Addr→Option V→Prop
 | no:bn h p→bJ A P h p none none
 | yes {o:Option Addr} {v:V} {x:Value}:Holds h p x→cb A P h o v x→bJ A P h p o (some v)
inductive WIs (P:Gh) (h:Heap) (row:List Int) (pos:Int):Prop
 | mk {a:Addr} {t1 t2:Tok} {r x:Value} {n:Nat}:P.wa=some a→P.m a=none →
  h.get? a=some (dictOf [⟨PyData.keyHash P.par "row",.str "row" t1,r⟩,⟨PyData.keyHash P.par "at",.str "at" t2,x⟩] n) →
  ao P (.lst (row.map .int)) r→ao P (.int pos) x→WIs P h row pos
noncomputable def WOk (P:Gh) (h:Heap):Wt→Prop
 | none=>P.wa=none
 | some w=>WIs P h w.1 w.2
structure hH (A:Act) (P:Gh) (h:Heap) (pl:List bf) (loc:List (Option V)) (own:List (Option Addr)):Prop where
 len:own.length=pl.length
 llen:loc.length=pl.length
 slot:∀ (i:Nat) p o v,pl[i]? = some p→own[i]? = some o→loc[i]? = some v→bJ A P h p o v
 free:∀ (i:Nat) a,own[i]? = some (some a)→ce A P a∧∀ p∈pl,p.addr≠a
 one:∀ (i j:Nat) a,own[i]? = some (some a)→own[j]? = some (some a)→i=j
noncomputable def Odd (o:Obj):Prop:=(∃ ps,o.data=.fields ps)∨o.cls=.none
theorem l8 {c d:Addr}:¬ Odd (instObj c d):=fun h=>h.elim (fun ⟨_,e⟩=>nomatch e) fun e=>nomatch e
noncomputable def jb (P:Gh) (cv:Value):Prop:=∃ c o vs q t,cv=.ref c∧P.m c=some o∧o.data=.fields vs∧vs[1]? = some (.str q t)
theorem jb.mono {P P':Gh} {cv:Value} (l:P.le P'):jb P cv→jb P' cv:=Exists.imp fun a=>Exists.imp fun a=>Exists.imp fun a=>Exists.imp fun a=>Exists.imp fun a=>And.imp_right (And.imp_left (l.m _ _))
def iv (P:Gh) (x:Addr×Addr) (ps:Array Value):Prop:=2≤P.tb.count x→∀ pos cv,codeAmong pos ps.toList=some cv→jb P cv
theorem iv.mono {P P':Gh} {x:Addr×Addr} {ps:Array Value} (l:P.le P') (H:iv P x ps):iv P' x ps:=fun h pos cv e=>(H (l.tb▸h) pos cv e).mono l
inductive fN (P:Gh) (ms:Str→Option Value) (h:Heap) (x:Addr×Addr):Prop
 | tab {ps:Array Value}:x.1≠x.2→h.IsCode x.1 x.2 ps→iv P x ps→h.TableAt x.1 x.2 ps→fN P ms h x
 | stat {mc:Str→Option Value} {o:Obj}:x.1=x.2→h.Ns x.2 mc→h.get? x.2=some o→o.cls=.none→(∀ y:Str,y≠theRefusalsKey→mc y=ms y)→fN P ms h x
theorem TableAt.keep {h h':Heap} {a b:Addr} {ps:Array Value} (k1:∀ o,h.get? a=some o→h'.get? a=some o) (k2:∀ o,h.get? b=some o→h'.get? b=some o):h.TableAt a b ps→h'.TableAt a b ps:=And.imp (Exists.imp fun c=>Exists.imp fun c=>And.imp_left (k1 _)) (k2 _)
theorem fN.at' {P:Gh} {ms:Str→Option Value} {h h':Heap} {x:Addr×Addr} (T:fN P ms h x) (k1:∀ o,h.get? x.1=some o→h'.get? x.1=some o) (k2:∀ o,h.get? x.2=some o→h'.get? x.2=some o):fN P ms h' x :=
 T.rec (fun ne c en t=>.tab ne (c.at2 k1 k2) en (TableAt.keep k1 k2 t)) fun e z q1 q2 q3=>.stat e (z.at' k2) (k2 _ q1) q2 q3
theorem fN.mono {P P':Gh} {ms:Str→Option Value} {h:Heap} {x:Addr×Addr} (T:fN P ms h x) (l:P.le P'):fN P' ms h x:=T.rec (fun ne c en tb=>.tab ne c (en.mono l) tb) .stat
theorem fN.odd {P:Gh} {ms:Str→Option Value} {h:Heap} {x:Addr×Addr} (T:fN P ms h x):∃ o,h.get? x.2=some o∧Odd o :=
 T.rec (fun a a a t=>⟨_,t.2,.inl ⟨_,rfl⟩⟩) fun a a q1 q2 a=>⟨_,q1,.inr q2⟩
structure j2 (A:Act) (P:Gh) (h:Heap) (x:Addr×Addr):Prop where
 hp:∃ o,A.hp x.2=some o∧Odd o
 m0:A.P0.m x.2=none
 wa0:A.P0.wa≠some x.2
 cm:x.1=x.2∨∃ o,A.P0.m x.1=some o
 code:fN P A.P0.ms h x
structure vQ (A:Act) (h:Heap) (a:Addr):Prop where
 m0:A.P0.m a=none
 wa0:A.P0.wa≠some a
 nt:∀ x∈A.P0.tb,x.2≠a
 at_:∃ o sl,A.hp a=some o∧h.get? a=some { o with slots:=sl }
 dic:∃ o es ep,A.hp a=some o∧o.data=.dict es ep
noncomputable def NT (P:Gh) (a:Addr):Prop:=∀ x∈P.tb,x.2≠a
structure Inv (A:Act) (pl:List bf) (P:Gh) (own:List (Option Addr)) (σ:St) (s:Shared):Prop where
 le:A.P0.le P
 new:∀ a o,P.m a=some o→A.P0.m a=some o∨A.hp a=none
 newW:∀ a,P.wa=some a→A.P0.wa=some a∨A.hp a=none
 pin:∀ a o,P.m a=some o→s.heap.get? a=some o
 keep:∀ a o,A.hp a=some o→P.wa≠some a→NT P a→a∉A.fr→s.heap.get? a=some o
 alive:∀ a o,A.hp a=some o→∃ o',s.heap.get? a=some o'
 waAlive:∀ a,P.wa=some a→P.m a=none∧∃ o',s.heap.get? a=some o'
 gens:∀ (i:Nat) x,A.gens[i]? = some x→s.gens[i]? = some x
 bg:∀ y∈s.gens,y.bare=true
 drawn:s.drawn=A.drawn
 os:s.os=A.os
 tab:∀ x∈P.tb,j2 A P s.heap x
 frs:∀ a∈A.fr,vQ A s.heap a
 w:WOk P s.heap σ.w
 pfree:∀ p∈pl,ce A P p.addr
 pnd:pl.Nodup
 own:hH A P s.heap pl σ.loc own
theorem b6 {α:Type} {f:Addr→Option α} {a b:Addr} {o:α} (h:f b=none) (e:f a=some o):a≠b:=fun q=>aL (h.symm.trans (q▸e))
section
variable {A:Act} {pl:List bf} {P P':Gh} {own:List (Option Addr)} {σ:St} {s:Shared} {h h':Heap} {a:Addr}
theorem ce.ne {b:Addr} {o:Obj} (F:ce A P a) (e:A.hp b=some o):b≠a:=b6 F.2.2 e
theorem ce.neM {b:Addr} {o:Obj} (F:ce A P a) (e:P.m b=some o):b≠a:=b6 F.1 e
theorem ce.neW {b:Addr} (F:ce A P a) (e:P.wa=some b):b≠a:=fun q=>F.2.1 (q▸e)
theorem ce.put {b:Addr} {o:Obj} (F:ce A P b) (h:b≠a):ce A (P.put a o) b:=⟨(Gh.put_ne h).trans F.1,F.2⟩
theorem j2.ne {x:Addr×Addr} (T:j2 A P h x) (F:A.hp a=none):x.2≠a:=T.hp.elim fun b e=>b6 F e.1
theorem vQ.ne (T:vQ A h a) {b:Addr} (F:A.hp b=none):a≠b:=T.at_.elim fun c e=>e.elim fun c e=>b6 F e.1
theorem bn.keeps {p:bf} (H:bn h p) (k:∀ o,h.get? p.addr=some o→h'.get? p.addr=some o):bn h' p :=
 match p,H,k with
 | .ns _ _,H,k=>H.imp fun a e=>e.at' k
 | .cell _,H,k=>H.imp fun a=>Exists.imp fun a=>And.imp_left (k _)
theorem Holds.keeps {p:bf} {x:Value} (H:Holds h p x) (k:∀ o,h.get? p.addr=some o→h'.get? p.addr=some o):Holds h' p x :=
 match p,H,k with
 | .ns _ _,H,k=>H.imp fun a=>And.imp_left fun e=>e.at' k
 | .cell _,H,k=>H.imp fun a=>And.imp_left (k _)
theorem Holds.ok {p:bf} {x:Value} (H:Holds h p x):bn h p :=
 match p,H with
 | .ns _ _,⟨m,e,_⟩=>⟨m,e⟩
 | .cell _,⟨o,e⟩=>⟨o,_,e⟩
theorem bJ.ok {p:bf} {o:Option Addr} {v:Option V} (H:bJ A P h p o v):bn h p:=H.rec id fun e a=>e.ok
theorem bn.alive {p:bf} (H:bn h p):∃ o,h.get? p.addr=some o :=
 match p,H with
 | .ns _ _,⟨_,o,_,_,e,_⟩=>⟨o,e⟩
 | .cell _,⟨o,_,e,_⟩=>⟨o,e⟩
theorem cb.keeps {o:Option Addr} {v:V} {x:Value} (H:cb A P h o v x) (l:P.le P') (lw:∀ a,A.hp a≠none→P'.wa=some a→P.wa=some a):(∀ a,o=some a→∀ o,h.get? a=some o→h'.get? a=some o)→cb A P' h' o v x :=
 H.rec (fun r b=>.val (r.up l)) (fun e2 r k=>.ml (k _ rfl _ e2) (r.up l)) (fun e2 r z k=>.md (k _ rfl _ e2) (VRelD.mono l _ r) z)
  fun e0 e1 e3 e4 r k=>.mi e0 e1 (fun q=>e3 (lw _ (fun z=>aL (z.symm.trans e1)) q)) (k _ rfl _ e4) (VRelF.mono l _ r)
theorem bJ.map {p:bf} {o:Option Addr} {v:Option V} (H:bJ A P h p o v) (l:P.le P') (lw:∀ a,A.hp a≠none→P'.wa=some a→P.wa=some a)
 (f:∀ x,Holds h p x→Holds h' p x) (g:bn h p→bn h' p):(∀ a,o=some a→∀ o,h.get? a=some o→h'.get? a=some o)→bJ A P' h' p o v :=
 H.rec (fun e b=>.no (g e)) fun e r k=>.yes (f _ e) (r.keeps l lw k)
theorem bJ.keeps {p:bf} {o:Option Addr} {v:Option V} (H:bJ A P h p o v) (l:P.le P') (lw:∀ a,A.hp a≠none→P'.wa=some a→P.wa=some a)
 (kp:∀ o,h.get? p.addr=some o→h'.get? p.addr=some o):(∀ a,o=some a→∀ o,h.get? a=some o→h'.get? a=some o)→bJ A P' h' p o v :=
 H.map l lw (fun b e=>e.keeps kp) fun e=>e.keeps kp
noncomputable def k9 (h:Heap) (a:Addr):Prop:=∃ o,h.get? a=some o∧∀ vs,o.data≠.fields vs
theorem cb.alive {o:Option Addr} {v:V} {x:Value} (H:cb A P h o v x):∀ a,o=some a→k9 h a :=
 H.rec (fun b b e=>nomatch e) (fun e b b q=>Option.some.inj q▸⟨_,e,fun b e=>nomatch e⟩) (fun e b b b q=>Option.some.inj q▸⟨_,e,fun b e=>nomatch e⟩) fun b b b e b b q=>Option.some.inj q▸⟨_,e,fun b e=>nomatch e⟩
theorem bJ.alive {p:bf} {o:Option Addr} {v:Option V} (H:bJ A P h p o v):∀ a,o=some a→k9 h a:=H.rec (fun b b e=>nomatch e) fun b r=>r.alive
theorem WOk.keeps {w:Wt} (H:WOk P h w) (l:P.le P') (hn:∀ a,P.wa=some a→P.m a=none→P'.m a=none) (k:∀ a,P.wa=some a→∀ o,h.get? a=some o→h'.get? a=some o) (hw:P'.wa=P.wa:=by rfl):WOk P' h' w :=
 match w,H with
 | none,H=>hw.trans H
 | some _,H=>WIs.rec (fun e1 e2 e3 e4 e5=>.mk (l.wa _ e1) (hn _ e1 e2) (l.par▸k _ e1 _ e3) (e4.up l) (e5.up l)) H
theorem hH.at_ {loc:List (Option V)} (O:hH A P h pl loc own) {i:Nat} {p:bf} (hi:pl[i]? = some p):∃ o v,own[i]? = some o∧loc[i]? = some v∧bJ A P h p o v :=
 have hl:=(List.getElem?_eq_some_iff.mp hi).1
 have h2:=List.getElem?_eq_getElem (O.len.symm▸hl:i<own.length)
 have h3:=List.getElem?_eq_getElem (O.llen.symm▸hl:i<loc.length)
 ⟨_,_,h2,h3,O.slot i _ _ _ hi h2 h3⟩
theorem hH.atO {loc:List (Option V)} (O:hH A P h pl loc own) {i:Nat} {a:Addr} (e:own[i]? = some (some a)):∃ p v,pl[i]? = some p∧loc[i]? = some v∧bJ A P h p (some a) v :=
 have hl:i<pl.length:=O.len▸(List.getElem?_eq_some_iff.mp e).1
 have h1:=List.getElem?_eq_getElem hl
 (O.at_ h1).elim fun b e'=>e'.elim fun v q=>⟨_,v,h1,q.2.1,Option.some.inj (q.1.symm.trans e)▸q.2.2⟩
theorem hH.alive {loc:List (Option V)} (O:hH A P h pl loc own) {i:Nat} {a:Addr} (e:own[i]? = some (some a)):k9 h a :=
 (O.atO e).elim fun b e=>e.elim fun b e=>e.2.2.alive _ rfl
theorem hH.keeps {loc:List (Option V)} (O:hH A P h pl loc own) (l:P.le P') (lw:∀ a,A.hp a≠none→P'.wa=some a→P.wa=some a) (kp:∀ p∈pl,∀ o,h.get? p.addr=some o→h'.get? p.addr=some o)
 (ko:∀ (i:Nat) a,own[i]? = some (some a)→∀ o,h.get? a=some o→h'.get? a=some o) (F:∀ (i:Nat) a,own[i]? = some (some a)→ce A P' a):hH A P' h' pl loc own :=
 ⟨O.len,O.llen,fun i b b b h1 h2 h3=>(O.slot i _ _ _ h1 h2 h3).keeps l lw (kp _ (List.mem_of_getElem? h1)) fun a e=>ko i a (h2.trans (congrArg some e)),fun i a e=>⟨F i a e,(O.free i a e).2⟩,O.one⟩
theorem Inv.placeOk (I:Inv A pl P own σ s) {i:Nat} {p:bf} (hi:pl[i]? = some p):bn s.heap p:=(I.own.at_ hi).elim fun a e=>e.elim fun a e=>e.2.2.ok
theorem Inv.place_alive (I:Inv A pl P own σ s) {p:bf} (hp:p∈pl):∃ o,s.heap.get? p.addr=some o:=(List.mem_iff_getElem?.mp hp).elim fun a e=>(I.placeOk e).alive
theorem Inv.nt (I:Inv A pl P own σ s) (h:A.hp a=none):NT P a:=fun x hx=>(I.tab x hx).ne h
theorem Inv.ntO (I:Inv A pl P own σ s) {o:Obj} (h:A.hp a=some o) (hd:¬ Odd o):NT P a:=fun x hx e =>
 (I.tab x hx).hp.elim fun b q=>hd (Option.some.inj ((e▸q.1).symm.trans h)▸q.2)
theorem Inv.notM (I:Inv A pl P own σ s) {o:Obj} (m0:A.P0.m a=none) (e:A.hp a=some o):P.m a=none:=aG fun b z=>(I.new _ _ z).elim (fun y=>aL (m0.symm.trans y)) fun y=>aL (y.symm.trans e)
theorem Inv.notW (I:Inv A pl P own σ s) {o:Obj} (w0:A.P0.wa≠some a) (e:A.hp a=some o):P.wa≠some a:=fun z=>(I.newW _ z).elim w0 fun y=>aL (y.symm.trans e)
theorem Inv.tabM (I:Inv A pl P own σ s) {x:Addr×Addr} (hx:x∈P.tb):P.m x.2=none∧P.wa≠some x.2∧(x.1=x.2∨∃ o,P.m x.1=some o) :=
 have T:=I.tab x hx
 T.hp.elim fun a q=>⟨I.notM T.m0 q.1,I.notW T.wa0 q.1,T.cm.imp_right (Exists.imp fun a=>I.le.m _ _)⟩
theorem Inv.frM (I:Inv A pl P own σ s) (ha:a∈A.fr):P.m a=none∧P.wa≠some a∧NT P a :=
 have T:=I.frs a ha
 T.at_.elim fun b e=>e.elim fun b q=>⟨I.notM T.m0 q.1,I.notW T.wa0 q.1,fun x hx=>T.nt x (I.le.tb▸hx)⟩
theorem Inv.notFrO (I:Inv A pl P own σ s) {o:Obj} (h:A.hp a=some o) (hd:∀ es ep,o.data≠.dict es ep):a∉A.fr:=fun ha =>
 (I.frs a ha).dic.elim fun b e=>e.elim fun es e=>e.elim fun ep q=>hd es ep (Option.some.inj (q.1.symm.trans h)▸q.2)
theorem Inv.notFr (I:Inv A pl P own σ s) (h:A.hp a=none):a∉A.fr:=fun ha=>(I.frs a ha).ne h rfl
theorem Inv.fresh (I:Inv A pl P own σ s) (h:s.heap.get? a=none):A.hp a=none∧P.m a=none∧P.wa≠some a :=
 ⟨aG fun o e=>(I.alive a o e).elim fun b q=>aL (h.symm.trans q),aG fun o e=>aL (h.symm.trans (I.pin a o e)),fun e=>(I.waAlive a e).2.elim fun b q=>aL (h.symm.trans q)⟩
theorem Inv.tabAt (I:Inv A pl P own σ s) {x:Addr×Addr} (hx:x∈P.tb) (k:∀ b o,b≠a→s.heap.get? b=some o→h'.get? b=some o) (hm:P.m a=none) (n2:x.2≠a):j2 A P h' x :=
 have T:=I.tab x hx
 ⟨T.hp,T.m0,T.wa0,T.cm,T.code.at' (fun c e=>k _ _ ((I.tabM hx).2.2.elim (fun q=>q▸n2) fun ⟨_,q⟩=>b6 hm q) e) fun c e=>k _ _ n2 e⟩
theorem Inv.step (I:Inv A pl P own σ s) {t:Nat} {σ':St} {own':List (Option Addr)} (k:∀ b o,b≠a→s.heap.get? b=some o→h'.get? b=some o) (ka:A.hp a≠none∨P.wa=some a→∃ o,h'.get? a=some o)
 (hm:P.m a=none) (hA:∀ o,A.hp a=some o→P.wa≠some a→NT P a→a∉A.fr→False) (tab:∀ x∈P.tb,j2 A P h' x) (nf:a∉A.fr) (w:WOk P h' σ'.w)
 (own:hH A P h' pl σ'.loc own'):Inv A pl P own' σ' { s with heap:=h',toks:=t } :=
 have al:∀ b,(A.hp b≠none∨P.wa=some b)→(∃ o,s.heap.get? b=some o)→∃ o,h'.get? b=some o:=fun b z e=>if q:b=a then q▸ka (q▸z) else e.imp fun o e=>k b o q e
 { I with
   pin:=fun c c e=>k _ _ (b6 hm e) (I.pin _ _ e),keep:=fun b o e h1 h3 h4=>if q:b=a then (hA o (q▸e) (q▸h1) (q▸h3) (q▸h4)).elim else k b o q (I.keep b o e h1 h3 h4),alive:=fun b o e=>al b (.inl fun q=>aL (q.symm.trans e)) (I.alive b o e),
   waAlive:=fun b e=>⟨(I.waAlive b e).1,al b (.inr e) (I.waAlive b e).2⟩,tab:=tab,w:=w,own:=own
   frs:=fun b hb=>have T:=I.frs b hb;⟨T.m0,T.wa0,T.nt,T.at_.imp fun c=>Exists.imp fun c=>And.imp_right (k _ _ fun q=>nf (q▸hb)),T.dic⟩ }
theorem Inv.stepF (I:Inv A pl P own σ s) {t:Nat} {loc':List (Option V)} {own':List (Option Addr)} (F:ce A P a) (k:∀ b o,b≠a→s.heap.get? b=some o→h'.get? b=some o)
 (own:hH A P h' pl loc' own'):Inv A pl P own' ⟨loc',σ.w⟩ { s with heap:=h',toks:=t } :=
 I.step k (fun z=>z.elim (fun q=>(q F.2.2).elim) fun q=>(F.2.1 q).elim) F.1 (fun c e c c c=>F.ne e rfl) (fun x hx=>I.tabAt hx k F.1 (I.nt F.2.2 x hx)) (fun ha=>(I.frs a ha).ne F.2.2 rfl) (I.w.keeps (.refl P) (fun c c e=>e) fun c e c q=>k _ _ (F.neW e) q) own
theorem Inv.keeps (I:Inv A pl P own σ s) {t:Nat} (k:∀ a o,s.heap.get? a=some o→h'.get? a=some o):Inv A pl P own σ { s with heap:=h',toks:=t } :=
 { I with
   pin:=fun c c e=>k _ _ (I.pin _ _ e),keep:=fun b o e h1 h3 h4=>k _ _ (I.keep b o e h1 h3 h4),alive:=fun b o e=>(I.alive b o e).imp fun c=>k _ _,
   waAlive:=fun b e=>⟨(I.waAlive b e).1,(I.waAlive b e).2.imp fun c=>k _ _⟩,
   tab:=fun x hx=>have T:=I.tab x hx;⟨T.hp,T.m0,T.wa0,T.cm,T.code.at' (k _) (k _)⟩,
   frs:=fun b hb=>have T:=I.frs b hb;⟨T.m0,T.wa0,T.nt,T.at_.imp fun c=>Exists.imp fun c=>And.imp_right (k _ _),T.dic⟩,
   w:=I.w.keeps (.refl P) (fun c c e=>e) fun c c=>k _,own:=I.own.keeps (.refl P) (fun c c e=>e) (fun c c=>k _) (fun c a c=>k a) fun i a e=>(I.own.free i a e).1 }
theorem Inv.toks (I:Inv A pl P own σ s) {t:Nat}:Inv A pl P own σ { s with toks:=t }:=I.keeps (h':=s.heap) fun a a e=>e
theorem Inv.lay (I:Inv A pl P own σ s) {o:Obj} {loc':List (Option V)} {own':List (Option Addr)} (F:ce A P a) (hA:A.hp a=none) (hg:s.heap.get? a=some o) (hp:∀ p∈pl,p.addr≠a) (ow:hH A (P.put a o) s.heap pl loc' own'):Inv A pl (P.put a o) own' ⟨loc',σ.w⟩ s :=
 have le:P.le (P.put a o):=Gh.put_le F.1
 { I with
   le:=I.le.trans le,new:=fun b o' e=>if q:b=a then .inr (q▸hA) else I.new b o' ((Gh.put_ne q).symm.trans e),pin:=fun b o' e=>if q:b=a then by rw [q,Gh.put_self] at e;rw [q,← e];exact hg else I.pin b o' ((Gh.put_ne q).symm.trans e),
   tab:=fun x hx=>have T:=I.tab x hx;⟨T.hp,T.m0,T.wa0,T.cm,T.code.mono le⟩,waAlive:=fun b e=>⟨(Gh.put_ne (F.neW e)).trans (I.waAlive b e).1,(I.waAlive b e).2⟩,
   w:=I.w.keeps le (fun c e h=>(Gh.put_ne (F.neW e)).trans h) fun c c c e=>e,pfree:=fun p hp'=>(I.pfree p hp').put (hp p hp'),own:=ow }
end
section
variable {A:Act} {pl:List bf} {P:Gh} {own:List (Option Addr)} {σ:St} {s:Shared} {h h':Heap} {a:Addr} {i:Nat} {p:bf} {v:V} {x:Value} {o':Option Addr} {t:Nat}
theorem dU {α:Type} {l:List α} {i j:Nat} {v x:α} {C:Prop} (h:(l.set i v)[j]? = some x) (q1:j=i→v=x→C) (q2:j≠i→l[j]? = some x→C):C:=by
 rw [List.getElem?_set] at h
 split at h
 · rename_i e
   split at h
   · exact q1 e.symm (Option.some.inj h)
   · exact aL h
 · rename_i e
   exact q2 (fun q=>e q.symm) h
def eh (A:Act) (P:Gh) (pl:List bf) (own:List (Option Addr)) (i:Nat) (a:Addr):Prop :=
 ce A P a∧(∀ q∈pl,q.addr≠a)∧∀ j:Nat,j≠i→own[j]?≠some (some a)
theorem nP {α:Type} {l:List α} (h:l.Nodup) {i j:Nat} {x:α} (hi:l[i]? = some x) (hj:l[j]? = some x):i=j :=
 (List.getElem?_inj (List.getElem?_eq_some_iff.mp hi).1 h).mp (hi.trans hj.symm)
theorem hH.set {loc:List (Option V)} (O:hH A P h pl loc own) (hi:pl[i]? = some p)
 (hh:∀ (j:Nat) q y,j≠i→pl[j]? = some q→Holds h q y→Holds h' q y) (hp:∀ (j:Nat) q,j≠i→pl[j]? = some q→bn h q→bn h' q)
 (k:∀ (j:Nat) a,own[j]? = some (some a)→∀ o,h.get? a=some o→h'.get? a=some o)
 (hx:Holds h' p x) (hv:cb A P h' o' v x) (ho:∀ a,o' = some a→eh A P pl own i a):hH A P h' pl (loc.set i (some v)) (own.set i o') :=
 ⟨(List.length_set ..).trans O.len,(List.length_set ..).trans O.llen,
  fun j q o1 v1 h1 h2 h3=>dU h2 (fun e e1=>dU h3 (fun c e2=>e1▸e2▸(Option.some.inj (hi.symm.trans (e▸h1)):p=q)▸.yes hx hv) fun n c=>absurd e n)
   fun nj h2=>dU h3 (fun e c=>absurd e nj) fun c h3=>(O.slot j q o1 v1 h1 h2 h3).map (.refl P) (fun c c e=>e) (fun y=>hh j q y nj h1) (hp j q nj h1) fun a e=>k j a (h2.trans (congrArg some e)),
  fun j b e=>dU e (fun c e=>⟨(ho b e).1,(ho b e).2.1⟩) fun c=>O.free j b,
  fun j j' b e e'=>dU e (fun q1 e1=>dU e' (fun q2 c=>q1.trans q2.symm) fun n e2=>absurd e2 ((ho b e1).2.2 j' n)) fun n e1=>dU e' (fun c e2=>absurd e1 ((ho b e2).2.2 j n)) fun c e2=>O.one j j' b e1 e2⟩
theorem Inv.setSlot (I:Inv A pl P own σ s) (hi:pl[i]? = some p)
 (k:∀ b o,b≠p.addr→s.heap.get? b=some o→h'.get? b=some o)
 (hh:∀ (j:Nat) q y,j≠i→pl[j]? = some q→Holds s.heap q y→Holds h' q y) (hp:∀ (j:Nat) q,j≠i→pl[j]? = some q→bn s.heap q→bn h' q)
 (hx:Holds h' p x) (hv:cb A P h' o' v x) (ho:∀ a,o' = some a→eh A P pl own i a):Inv A pl P (own.set i o') (σ.set i v) { s with heap:=h',toks:=t } :=
 have hp':p∈pl:=List.mem_of_getElem? hi
 I.stepF (I.pfree p hp') k (I.own.set hi hh hp (fun j a e o=>k a o fun z=>(I.own.free j a e).2 p hp' z.symm) hx hv ho)
theorem Ns.data {m:Str→Option Value} (H:h.Ns a m):∃ o,h.get? a=some o∧∃ es ep,o.data=.dict es ep:=H.elim fun o e=>e.elim fun es e=>e.elim fun ep e=>⟨o,e.1,es,ep,e.2.1⟩
theorem oU {m:Str→Option Value} {o:Obj} {d:Option Value} {C:Prop} (H:h.Ns a m) (e:h.get? a=some o) (hd:o.data=.cell d):C :=
 (Ns.data H).elim fun b q=>q.2.elim fun b r=>r.elim fun b r=>nomatch (hd.symm.trans ((congrArg Obj.data (Option.some.inj (e.symm.trans q.1))).trans r))
theorem Inv.storeNs (I:Inv A pl P own σ s) {L:Addr} {n:Str} {m:Str→Option Value} (hi:pl[i]? = some (.ns L n))
 (hm:s.heap.Ns L m) (hn:h'.Ns L (fun y=>if y=n then some x else m y)) (hs:Heap.SameBut L s.heap h') (hv:cb A P h' o' v x) (ho:∀ a,o' = some a→eh A P pl own i a) :
 Inv A pl P (own.set i o') (σ.set i v) { s with heap:=h',toks:=t } :=
 have hd:∀ (j:Nat) y,j≠i→pl[j]? = some (.ns L y)→y≠n:=fun j y nj hj e=>nj (nP I.pnd hj (e▸hi))
 I.setSlot hi (fun b o nb e=>(hs.2 b nb).trans e)
  (fun j q y nj hj hy=>match q,hj,hy with
   | .ns a z,hj,hy=>if e:a=L then by
    subst e
    exact hy.elim fun c e=>⟨_,hn,(if_neg (hd j z nj hj)).trans ((e.1.agree hm z).symm.trans e.2)⟩
    else Holds.keeps (p:=.ns a z) hy fun o q=>(hs.2 a e).trans q
   | .cell a,hj,hy=>Holds.keeps (p:=.cell a) hy fun o q=>(hs.2 a fun e=>hy.elim fun c q=>oU hm (e▸q.1) q.2).trans q)
  (fun j q nj hj hq=>match q,hq with
   | .ns a z,hq=>if e:a=L then e▸⟨_,hn⟩ else bn.keeps (p:=.ns a z) hq fun o q=>(hs.2 a e).trans q
   | .cell a,hq=>bn.keeps (p:=.cell a) hq fun o q=>(hs.2 a fun e=>hq.elim fun c q=>q.elim fun c q=>oU hm (e▸q.1) q.2).trans q)
  ⟨_,hn,if_pos rfl⟩ hv ho
theorem Inv.storeCell (I:Inv A pl P own σ s) {o:Obj} (hi:pl[i]? = some (.cell a))
 (hn:h'.get? a=some o) (hd:o.data=.cell (some x)) (hs:Heap.SameBut a s.heap h') (hv:cb A P h' o' v x) (ho:∀ a,o' = some a→eh A P pl own i a) :
 Inv A pl P (own.set i o') (σ.set i v) { s with heap:=h',toks:=t } :=
 have hne:∀ (j:Nat) q,j≠i→pl[j]? = some q→bn s.heap q→q.addr≠a:=fun j q nj hj hq e =>
  match q,hj,hq,e with
  | .cell b,hj,_,e=>nj (nP I.pnd hj ((show b=a from e)▸hi))
  | .ns b _,_,hq,e=>(I.placeOk hi).elim fun c r=>r.elim fun c r=>hq.elim fun c z=>oU ((show b=a from e)▸z) r.1 r.2
 I.setSlot hi (fun b o nb e=>(hs.2 b nb).trans e) (fun j q y nj hj hy=>hy.keeps fun o e=>(hs.2 _ (hne j q nj hj hy.ok)).trans e) (fun j q nj hj hq=>hq.keeps fun o e=>(hs.2 _ (hne j q nj hj hq)).trans e) ⟨o,hn,hd⟩ hv ho
theorem bJ.q {o:Option Addr} {u:Option V} {C:Prop} (H:bJ A P h p o u) (e:u=some v) (q:∀ x,Holds h p x→cb A P h o v x→C):C :=
 bJ.rec (motive:=fun o u c=>u=some v→(∀ x,Holds h p x→cb A P h o v x→C)→C) (fun c e=>nomatch e) (fun a b e q=>q _ a (Option.some.inj e▸b)) H e q
theorem Inv.slotOf (I:Inv A pl P own σ s) {C:Prop} (hv:σ.loc[i]? = some (some v)) (q:∀ p o x,pl[i]? = some p→own[i]? = some o→Holds s.heap p x→cb A P s.heap o v x→C):C :=
 have hl:i<pl.length:=I.own.llen▸(List.getElem?_eq_some_iff.mp hv).1
 have h1:=List.getElem?_eq_getElem hl
 (I.own.at_ h1).elim fun o e=>e.elim fun u e=>e.2.2.q (Option.some.inj (e.2.1.symm.trans hv)) fun x a b=>q _ o x h1 e.1 a b
theorem Inv.turn (I:Inv A pl P own σ s) (ho:own[i]? = some (some a))
 (k:∀ b o,b≠a→s.heap.get? b=some o→h'.get? b=some o)
 (hv:∀ v0 x,σ.loc[i]? = some (some v0)→cb A P s.heap (some a) v0 x→cb A P h' (some a) v x):Inv A pl P own (σ.set i v) { s with heap:=h',toks:=t } :=
 have O:=I.own
 have ⟨Fa,hpa⟩:=O.free i a ho
 I.stepF Fa k ⟨O.len,(List.length_set ..).trans O.llen,fun j q o1 v1 h1 h2 h3 =>
  have kp:∀ o,s.heap.get? q.addr=some o→h'.get? q.addr=some o:=fun o e=>k _ o (hpa q (List.mem_of_getElem? h1)) e
  dU h3 (fun e e2=>by
   subst e
   obtain ⟨o2,v2,g2,g3,H⟩:=O.at_ h1
   cases h2.symm.trans ho
   cases g2.symm.trans ho
   cases H with
   | yes c d=>exact e2▸.yes (c.keeps kp) (hv _ _ g3 d))
   fun nj h3=>(O.slot j q o1 v1 h1 h2 h3).keeps (.refl P) (fun f f e=>e) kp fun b e o=>k b o fun z=>nj (O.one j i a (h2.trans (congrArg some (e.trans (congrArg some z)))) ho),O.free,O.one⟩
theorem Inv.freeze (I:Inv A pl P own σ s) {o:Obj} (hi:pl[i]? = some p) (ho:own[i]? = some (some a)) (hf:A.hp a=none) (hg:s.heap.get? a=some o)
 (hx:Holds s.heap p x) (hv:ao (P.put a o) v x):Inv A pl (P.put a o) (own.set i none) (σ.set i v) s :=
 have O:=I.own
 have ⟨Fa,hpa⟩:=O.free i a ho
 have le:P.le (P.put a o):=Gh.put_le Fa.1
 have keep:hH A P s.heap pl σ.loc own→∀ (j:Nat) b,j≠i→own[j]? = some (some b)→ce A (P.put a o) b:=fun O j b nj e=>(O.free j b e).1.put fun z=>nj (O.one j i a (z▸e) ho)
 I.lay Fa hf hg hpa
  ⟨(List.length_set ..).trans O.len,(List.length_set ..).trans O.llen,fun j q o1 v1 h1 h2 h3=>dU h2 (fun e e1=>dU h3 (fun c e2=>e1▸e2▸(Option.some.inj (hi.symm.trans (e▸h1)):p=q)▸.yes hx (.val hv)) fun n c=>absurd e n)
   fun nj h2=>dU h3 (fun e c=>absurd e nj) fun c h3=>(O.slot j q o1 v1 h1 h2 h3).keeps le (fun c c e=>e) (fun c e=>e) fun c c c e=>e,
   fun j b e=>dU e (fun c e=>nomatch e) fun nj e=>⟨keep O j b nj e,(O.free j b e).2⟩,fun j j' b e e'=>dU e (fun c e=>nomatch e) fun c e=>dU e' (fun c e=>nomatch e) fun c e'=>O.one j j' b e e'⟩
theorem Inv.turnW (I:Inv A pl P own σ s) {w':Wt} (ha:P.wa=some a)
 (k:∀ b o,b≠a→s.heap.get? b=some o→h'.get? b=some o) (ka:∃ o,h'.get? a=some o) (hw:WOk P h' w'):Inv A pl P own { σ with w:=w' } { s with heap:=h',toks:=t } :=
 have O:=I.own
 I.step k (fun c=>ka) (I.waAlive a ha).1 (fun c c h1 c c=>h1 ha) (fun x hx=>I.tabAt hx k (I.waAlive a ha).1 fun q=>(I.tabM hx).2.1 (q▸ha)) (fun hb=>(I.frM hb).2.1 ha) hw
  (O.keeps (.refl P) (fun c c e=>e) (fun p hp o=>k _ o fun q=>(I.pfree p hp).2.1 (q▸ha)) (fun i b e o=>k b o fun q=>(O.free i b e).1.2.1 (q▸ha)) fun i a e=>(O.free i a e).1)
theorem bo (h:Heap):h.get? h.objs.size=none:=aG fun a e=>Nat.lt_irrefl _ (Heap.lt_size e)
theorem Inv.apart (I:Inv A pl P own σ s) (h:s.heap.get? a=none):eh A P pl own i a :=
 have f:=I.fresh h
 ⟨⟨f.2.1,f.2.2,f.1⟩,fun p hp e=>(I.place_alive hp).elim fun b q=>aL (h.symm.trans (e▸q)),fun j b e=>(I.own.alive e).elim fun b q=>aL (h.symm.trans q.1)⟩
theorem Inv.put (I:Inv A pl P own σ s) {o:Obj} (hn:s.heap.get? a=none) (k:∀ a o,s.heap.get? a=some o→h'.get? a=some o) (ha:h'.get? a=some o):Inv A pl (P.put a o) own σ { s with heap:=h',toks:=t } :=
 have ap:=I.apart (i:=pl.length) hn
 have I':=I.keeps (t:=t) k
 I'.lay ap.1 (I.fresh hn).1 ha ap.2.1 (I'.own.keeps (Gh.put_le ap.1.1) (fun c c e=>e) (fun c c c e=>e) (fun c c c c e=>e) fun i b e=>(I.own.free i b e).1.put fun q=>(I.own.alive e).elim fun c z=>aL (hn.symm.trans (q▸z.1)))
end
structure aE where
 A:Act
 env:Env
 pl:List bf
 Ar:Around
structure Now (Z:aE) where
 σ:St
 P:Gh
 own:List (Option Addr)
 s:Shared
 I:Inv Z.A Z.pl P own σ s
section
variable {Z:aE} {N N' N'':Now Z}
structure Now.Le (N N':Now Z):Prop where
 P:N.P.le N'.P
 sh:∀ (i:Nat) a,N'.own[i]? = some (some a)→N.own[i]? = some (some a)
theorem Now.Le.refl (N:Now Z):N.Le N:=⟨.refl _,fun a a e=>e⟩
theorem Now.Le.trans (a:N.Le N') (b:N'.Le N''):N.Le N'':=⟨a.P.trans b.P,fun i x e=>a.sh i x (b.sh i x e)⟩
noncomputable def Now.toks (N:Now Z) (t:Nat):Now Z:={ N with s:={ N.s with toks:=t },I:=N.I.toks }
noncomputable def Now.tick (N:Now Z):Now Z:=N.toks (N.s.toks+1)
theorem Now.toks_le {N:Now Z} {t:Nat}:N.Le (N.toks t):=⟨.refl _,fun a a e=>e⟩
theorem Now.tick_le {N:Now Z}:N.Le N.tick:=⟨.refl _,fun a a e=>e⟩
noncomputable def Now.keeps (N:Now Z) {h':Heap} (t:Nat) (k:∀ a o,N.s.heap.get? a=some o→h'.get? a=some o):Now Z:={ N with s:={ N.s with heap:=h',toks:=t },I:=N.I.keeps k }
theorem Now.keeps_le {N:Now Z} {h':Heap} {t:Nat} {k:∀ a o,N.s.heap.get? a=some o→h'.get? a=some o}:N.Le (N.keeps t k):=⟨.refl _,fun b b e=>e⟩
noncomputable def Now.new (N:Now Z) (o:Obj) (hf:o.isFreed=false) (t:Nat):Now Z :=
 { N with P:=N.P.put N.s.heap.objs.size o,s:={ N.s with heap:=N.s.heap.push o,toks:=t },I:=N.I.put (bo _) (fun a a e=>Heap.get?_push_of_some _ e) (Heap.get?_push_size _ hf) }
theorem Now.new_le (N:Now Z) {o:Obj} {hf:o.isFreed=false} {t:Nat}:N.Le (N.new o hf t):=⟨Gh.put_le (N.I.fresh (bo _)).2.1,fun a a e=>e⟩
structure Res (M:Now Z) (Q:V→St→Prop) where
 v:V
 x:Value
 N:Now Z
 le:M.Le N
 rel:ao N.P v x
 q:Q v N.σ
structure li (M:Now Z) (Q:Bool→St→Prop) where
 b:Bool
 N:Now Z
 le:M.Le N
 q:Q b N.σ
structure vO (M:Now Z) (Q:List V→St→Prop) where
 v:List V
 x:List Value
 N:Now Z
 le:M.Le N
 rel:VRels N.P v x
 q:Q v N.σ
section
variable {M:Now Z} {Q Q':V→St→Prop}
noncomputable def Res.up {M':Now Z} (b:Res M' Q') (l:M.Le M'):Res M Q':=⟨b.v,b.x,b.N,l.trans b.le,b.rel,b.q⟩
noncomputable def li.up {M':Now Z} {Q:Bool→St→Prop} (b:li M' Q) (l:M.Le M'):li M Q:=⟨b.b,b.N,l.trans b.le,b.q⟩
end
end
end
section
open PySem PySem.W PyProof.Rows PySem.SeqAt
noncomputable def Ok2 {α β:Type} (o:Option (α×β)) (Q:α→β→Prop):Prop:=∃ a b,o=some (a,b)∧Q a b
noncomputable def OkV {α:Type} (o:Option α) (Q:α→Prop):Prop:=∃ a,o=some a∧Q a
section
variable {α β γ δ:Type}
theorem Ok2.imp {o:Option (α×β)} {Q Q':α→β→Prop} (h:Ok2 o Q) (k:∀ a b,Q a b→Q' a b):Ok2 o Q':=h.elim fun a h=>h.elim fun b e=>⟨a,b,e.1,k _ _ e.2⟩
theorem OkV.imp {o:Option α} {Q Q':α→Prop} (h:OkV o Q) (k:∀ a,Q a→Q' a):OkV o Q':=h.elim fun a e=>⟨a,e.1,k _ e.2⟩
theorem okv {a:α} {Q:α→Prop} (h:Q a):OkV (some a) Q:=⟨a,rfl,h⟩
theorem ok2 {a:α} {b:β} {Q:α→β→Prop} (h:Q a b):Ok2 (some (a,b)) Q:=⟨a,b,rfl,h⟩
theorem u2 {a:α} {b:β} {Q:α→β→Prop} (h:Ok2 (some (a,b)) Q):Q a b:=by obtain ⟨_,_,e,q⟩:=h;cases e;exact q
theorem un {C:Prop} {Q:α→β→Prop} (h:Ok2 none Q):C:=h.elim fun a h=>h.elim fun a e=>nomatch e.1
theorem ub {o:Option (α×β)} {f:α×β→Option (γ×δ)} {Q:γ→δ→Prop} (h:Ok2 (o.bind f) Q):Ok2 o fun a b=>Ok2 (f (a,b)) Q:=match o,h with
 | some (a,b),h=>ok2 h
 | none,h=>un h
theorem um2 {o:Option (α×β)} {f:α×β→γ×δ} {Q:γ→δ→Prop} (h:Ok2 (o.map f) Q):Ok2 o fun a b=>Q (f (a,b)).1 (f (a,b)).2:=match o,h with
 | some (a,b),h=>ok2 (u2 h)
 | none,h=>un h
theorem uv {o:Option α} {f:α→Option (γ×δ)} {Q:γ→δ→Prop} (h:Ok2 (o.bind f) Q):OkV o fun a=>Ok2 (f a) Q:=match o,h with
 | some _,h=>okv h
 | none,h=>un h
theorem um {o:Option α} {f:α→γ×δ} {Q:γ→δ→Prop} (h:Ok2 (o.map f) Q):OkV o fun a=>Q (f a).1 (f a).2:=match o,h with
 | some _,h=>okv (u2 h)
 | none,h=>un h
theorem ui {p:Prop} [Decidable p] {x:γ×δ} {Q:γ→δ→Prop} (h:Ok2 (if p then some x else none) Q):p∧Q x.1 x.2 :=
 if hp:p then ⟨hp,u2 (Eq.mp (congrArg (Ok2 · Q) (if_pos hp)) h)⟩ else un (Eq.mp (congrArg (Ok2 · Q) (if_neg hp)) h)
theorem uib {p:Prop} [Decidable p] {x:Option (γ×δ)} {Q:γ→δ→Prop} (h:Ok2 (if p then x else none) Q):p∧Ok2 x Q :=
 if hp:p then ⟨hp,Eq.mp (congrArg (Ok2 · Q) (if_pos hp)) h⟩ else un (Eq.mp (congrArg (Ok2 · Q) (if_neg hp)) h)
end
structure Gx where
 prog:Program
 w:World
 h0:Heap
 mg:Str→Option Value
 mb:Str→Option Value
 tb:List (Addr×Addr)
 ms:Str→Option Value
structure GOk (g:Gx):Prop where
 ns:g.h0.Ns mainGlobals g.mg
 nb:g.h0.Ns builtinsNs g.mb
 boot:∀ x:Str,x ≠ "__name__" → g.mb x=bootBuiltins x
 stat:g.h0.Ns cStatics g.ms
 nolimit:g.ms "sys.recursionlimit" = none
 noopq:g.ms "thirdparty.any" = none
 uniq:∀ x∈g.tb,∀ y∈g.tb,y.2=x.2→y=x
 mod:∃ bm ob,g.mg "__builtins__" = some (.ref bm)∧bm≠builtinsNs∧g.h0.get? bm=some ob∧ob.cls=.type "module" ∧ ob.dict=some builtinsNs∧ob.data=.plain
structure ec (g:Gx) (A:Act):Prop where
 sub:∀ a o,g.h0.get? a=some o→A.P0.m a=some o
 par:A.P0.par=g.w.params
 tb:A.P0.tb=g.tb
 ms:A.P0.ms=g.ms
 sys:∃ o,A.P0.m sysModules=some o
structure b5 (Ar:Around) (k:Nat):Prop where
 depth:Ar.depth+k<recursionLimit
 units:Ar.units+8 * k+40<cLine
 handled:Ar.handled=none
theorem b5.le {Ar:Around} {k j:Nat} (R:b5 Ar k) (h:j≤k):b5 Ar j:=⟨Nat.lt_of_le_of_lt (Nat.add_le_add_left h _) R.depth,Nat.lt_of_le_of_lt (Nat.add_le_add_right (Nat.add_le_add_left (Nat.mul_le_mul_left 8 h) _) _) R.units,R.handled⟩
theorem b5.u3 {Ar:Around} {k:Nat} (R:b5 Ar k):Ar.units+3<cLine:=Nat.lt_of_le_of_lt (Nat.le_trans (Nat.add_le_add (Nat.le_add_right _ _) (by decide:3≤40)) (Nat.le_refl _)) R.units
structure SC where
 kind:Str→Option NameKind
 slot:Str→Option Nat
 len:Nat
 code:Option Value:=none
 fix:Str→Option V:=fun _=>none
structure iQ (c:SC) (env:Env) (pl:List bf):Prop where
 fn:env.scope.kind=.function
 len:pl.length=c.len
 gl:env.globals=mainGlobals
 bi:env.builtins=builtinsNs
 code:∀ v,c.code=some v→env.code=v
 kind:∀ x,env.kindOf x=c.kind x
 loc:∀ x i,c.kind x=some .local→c.slot x=some i→pl[i]? = some (.ns env.locals x)
 cel:∀ x i,(c.kind x=some .cell∨c.kind x=some .free)→c.slot x=some i→∃ a,env.cells.lookup x=some a∧pl[i]? = some (.cell a)
inductive FixAt (Z:aE) (x:Str) (u:V):Prop
 | mk {a:Addr} {o:Obj} {y:Value}:Z.env.cells.lookup x=some a→Z.A.hp a=some o→o.data=.cell (some y)→Z.A.P0.wa≠some a→NT Z.A.P0 a→ao Z.A.P0 u y→FixAt Z x u
structure Fr (g:Gx) (c:SC) (k:Nat) (Z:aE):Prop where
 X:iQ c Z.env Z.pl
 R:b5 Z.Ar k
 B:ec g Z.A
 fx:∀ x u,c.fix x=some u→FixAt Z x u
noncomputable abbrev DE:=St→Option (V×St)
noncomputable abbrev DT:=St→Option (Bool×St)
set_option genInjectivity true in
inductive Fl where
 | nxt | ret (v:V) | cont | brk
noncomputable abbrev DS:=St→Option (Fl×St)
def ak (g:Gx) (c:SC) (k:Nat) (e:Expr) (d:DE):Prop :=
 ∀ {Z:aE} (F:Fr g c k Z) (N:Now Z) {Q:V→St→Prop} {K:Value→Shared→Prop} {E:Value→Shared→Prop},Ok2 (d N.σ) Q→(∀ r:Res N Q,K r.x r.N.s)→wpAny (model g.prog g.w) Z.Ar (eval e Z.env) K E N.s
def bW (g:Gx) (c:SC) (k:Nat) (e:Expr) (d:DT):Prop :=
 ∀ {Z:aE} (F:Fr g c k Z) (N:Now Z) {Q:Bool→St→Prop} {K:Bool→Shared→Prop} {E:Value→Shared→Prop},Ok2 (d N.σ) Q→(∀ r:li N Q,K r.b r.N.s)→wpAny (model g.prog g.w) Z.Ar (isTrue e Z.env (eval e Z.env)) K E N.s
def FRel (P:Gh):Fl→Flow→Prop
 | .nxt,f=>f=.next
 | .ret v,f=>∃ x,f=.ret x∧ao P v x
 | .cont,f=>f=.cont
 | .brk,f=>f=.brk
section
variable {Z:aE}
structure fq (M:Now Z) (Q:Fl→St→Prop) where
 f:Fl
 x:Flow
 N:Now Z
 le:M.P.le N.P
 rel:FRel N.P f x
 q:Q f N.σ
noncomputable def fq.up {M M':Now Z} {Q:Fl→St→Prop} (b:fq M' Q) (l:M.P.le M'.P):fq M Q:=⟨b.f,b.x,b.N,l.trans b.le,b.rel,b.q⟩
end
def cO (g:Gx) (c:SC) (k:Nat) (st:Stmt) (d:DS):Prop :=
 ∀ {Z:aE} (F:Fr g c k Z) (N:Now Z) {Q:Fl→St→Prop} {K:Flow→Shared→Prop} {E:Value→Shared→Prop},Ok2 (d N.σ) Q→(∀ r:fq N Q,K r.x r.N.s)→wpAny (model g.prog g.w) Z.Ar (exec st Z.env) K E N.s
def bO (g:Gx) (c:SC) (k:Nat) (b:List Stmt) (d:DS):Prop :=
 ∀ {Z:aE} (F:Fr g c k Z) (N:Now Z) {Q:Fl→St→Prop} {K:Flow→Shared→Prop} {E:Value→Shared→Prop},Ok2 (d N.σ) Q→(∀ r:fq N Q,K r.x r.N.s)→wpAny (model g.prog g.w) Z.Ar (execs b Z.env) K E N.s
section
variable {Z:aE} {N:Now Z} {g:Gx} {c:SC} {k:Nat}
theorem Now.base (N:Now Z) (B:ec g Z.A) {a:Addr} {o:Obj} (e:g.h0.get? a=some o):N.s.heap.get? a=some o:=N.I.pin a o (N.I.le.m a o (B.sub a o e))
theorem Now.noLimit (N:Now Z) (B:ec g Z.A) (G:GOk g):N.s.heap.NoLimit:=⟨g.ms,G.stat.keeps fun a a=>N.base B,G.nolimit⟩
theorem Now.params (N:Now Z) (B:ec g Z.A):N.P.par=g.w.params:=N.I.le.par.trans B.par
theorem bc {i:Int} {kk:Nat} {pos:Pos}:ak g c k (.Constant (.int i) kk pos) (fun σ=>some (.int i,σ)) :=
 fun F N a a a h q=>wpAny_Constant_int (q ⟨_,_,N.tick,N.tick_le,cq _ _,u2 h⟩)
theorem den_str {x:Str} {kk:Nat} {pos:Pos}:ak g c k (.Constant (.str x) kk pos) (fun σ=>some (.str x.cps.toList,σ)) :=
 fun F N a a a h q=>Calls.Constant_str (q ⟨_,_,N.tick,N.tick_le,cV _ _,u2 h⟩)
theorem cx {b:Bool} {kk:Nat} {pos:Pos}:ak g c k (.Constant (.bool b) kk pos) (fun σ=>some (.bool b,σ)) :=
 fun F N a a a h q=>wpAny_pure (q ⟨_,_,N,.refl _,ei _,u2 h⟩)
theorem bM {kk:Nat} {pos:Pos}:ak g c k (.Constant .none kk pos) (fun σ=>some (.none,σ)) :=
 fun F N a a a h q=>wpAny_pure (q ⟨_,_,N,.refl _,oq,u2 h⟩)
end
noncomputable def ix (i:Nat):DE:=fun σ=>match σ.loc[i]? with
 | some (some (.ml l))=>some (.lst l,σ.set i (.lst l))
 | some (some (.md l))=>some (.dct l,σ.set i (.dct l))
 | some (some (.mi _ _))=>none
 | some (some v)=>some (v,σ)
 | _=>none
noncomputable def dk (v:V):DE:=fun σ=>some (v,σ)
section
variable {Z:aE} {N:Now Z} {g:Gx} {c:SC} {k i:Nat} {Q:V→St→Prop} {K:Value→Shared→Prop} {E:Value→Shared→Prop} {x:Str} {pos:Pos}
theorem il {o:Option (Option V)} (e:N.σ.loc[i]? = o) (h:Ok2 (ix i N.σ) Q):Ok2 (match o with
 | some (some (.ml l))=>some (V.lst l,N.σ.set i (.lst l))
 | some (some (.md l))=>some (.dct l,N.σ.set i (.dct l))
 | some (some (.mi _ _))=>none
 | some (some v)=>some (v,N.σ)
 | _=>none) Q:=e▸h
theorem yB {v:V} {y:Value} {P:Gh} (h:Ok2 (ix i N.σ) Q) (e:N.σ.loc[i]? = some (some v)) (r:ao P v y):Q v N.σ:=by
 have h:=il e h
 cases v<;>first | exact u2 h | exact r.elim
theorem Now.read (N:Now Z) {C:Prop} (h:Ok2 (ix i N.σ) Q) (q:∀ p (M:Now Z) (v:V) (y:Value),Z.pl[i]? = some p→Holds N.s.heap p y→M.s=N.s→N.Le M→ao M.P v y→Q v M.σ→C):C:=by
 cases e:N.σ.loc[i]? with
 | none=>exact un (il e h)
 | some o=>cases o with
  | none=>exact un (il e h)
  | some v =>
   refine N.I.slotOf e fun p o y h1 h2 h3 H=>?_
   have sh:∀ (j:Nat) a,(N.own.set i none)[j]? = some (some a)→N.own[j]? = some (some a):=fun j a e=>dU e (fun b e=>nomatch e) fun b e=>e
   cases H with
   | val r=>exact q p N v y h1 h3 rfl (.refl N) r (yB h e r)
   | @ml l a xs n hg r =>
    have F:=(N.I.own.free i _ h2).1
    have le:=Gh.put_le (o:={ cls:=.type "list",data:=.seq (List.toArray xs) n }) F.1
    have v:ao (N.P.put a _) (.lst l) (.ref a):=eA ⟨_,_,Gh.put_self ..,rfl,rfl⟩ (r.up le)
    exact q p ⟨_,_,_,N.s,N.I.freeze h1 h2 F.2.2 hg h3 v⟩ (.lst l) _ h1 h3 rfl ⟨le,sh⟩ v (u2 (il e h))
   | @md l a es n hg r hs =>
    have F:=(N.I.own.free i _ h2).1
    have le:=Gh.put_le (o:=dictOf es n) F.1
    have v:ao (N.P.put a _) (.dct l) (.ref a):=⟨_,_,rfl,⟨_,Gh.put_self ..⟩,VRelD.mono le _ r,hs⟩
    exact q p ⟨_,_,_,N.s,N.I.freeze h1 h2 F.2.2 hg h3 v⟩ (.dct l) _ h1 h3 rfl ⟨le,sh⟩ v (u2 (il e h))
   | mi=>exact un (il e h)
theorem zC {α:Type} {K:α→Shared→Prop} {y:α} {s s':Shared} (e:s' = s) (h:K y s'):K y s:=e▸h
theorem aR (hk:c.kind x=some .local) (hs:c.slot x=some i) (hd:(x==("__debug__" : Str))=false):ak g c k (.Name x pos) (ix i) :=
 fun F N a a a h q=>N.read h fun p M v y h1 h2 es le r hq =>
  (Option.some.inj ((F.X.loc x i hk hs).symm.trans h1)▸h2:Holds N.s.heap (.ns _ x) y).elim fun m hm=>wpAny_Name (wpAny_loadName_local F.X.fn ((F.X.kind x).trans hk) hm.1 hm.2 (zC es (q ⟨v,y,M,le,r,hq⟩))) hd
theorem jL (hk:c.kind x=some .cell) (hs:c.slot x=some i) (hd:(x==("__debug__" : Str))=false):ak g c k (.Name x pos) (ix i) :=
 fun F N b b b h q=>N.read h fun p M v y h1 h2 es le r hq=>(F.X.cel x i (.inl hk) hs).elim fun a ha =>
  wpAny_Name (wpAny_loadName_cell F.X.fn ((F.X.kind x).trans hk) ha.1 (Option.some.inj (ha.2.symm.trans h1)▸h2:Holds N.s.heap (.cell a) y) (zC es (q ⟨v,y,M,le,r,hq⟩))) hd
theorem pz {u:V} (hk:c.kind x=some .free) (hf:c.fix x=some u) (hd:(x==("__debug__" : Str))=false) (hn:(x==("__classdict__" : Str))=false):ak g c k (.Name x pos) (dk u) :=
 fun F N b b b h q=>(F.fx x u hf).rec fun {a o y} h1 h2 h3 h4 h5 h6=>wpAny_Name (wpAny_loadName_free F.X.fn ((F.X.kind x).trans hk) h1 ⟨o,N.I.keep a o h2 (N.I.notW h4 h2) (fun t ht=>h5 t (N.I.le.tb▸ht)) (N.I.notFrO h2 fun b b e=>nomatch (h3.symm.trans e)),h3⟩ (q ⟨u,y,N,.refl _,h6.up N.I.le,u2 h⟩) hn) hd
theorem den_gv {v:V} {y:Value} (G:GOk g) (hk:c.kind x=some .globalImplicit) (hv:g.mg x=some y) (r:∀ P:Gh,(∀ b o,g.h0.get? b=some o→P.m b=some o)→ao P v y) (hd:(x==("__debug__" : Str))=false):ak g c k (.Name x pos) (dk v) :=
 fun F N a a a h q=>Calls.Name_function_global F.X.fn ((F.X.kind x).trans hk) (Calls.loadGlobal_global (F.X.gl▸G.ns.keeps fun a a=>N.base F.B) hv (q ⟨v,y,N,.refl N,r _ fun a a e=>N.I.le.m _ _ (F.B.sub _ _ e),u2 h⟩)) hd
theorem yW {a:Addr} (G:GOk g) (hk:c.kind x=some .globalImplicit) (hv:g.mg x=some (.ref a)) (hd:(x==("__debug__" : Str))=false):ak g c k (.Name x pos) (fun σ=>some (.adr a,σ)):=den_gv (v:=.adr a) G hk hv (fun b b=>rfl) hd
theorem y4 {v:V} {y:Value} (G:GOk g) (hk:c.kind x=some .globalImplicit) (hv:g.mg x=none) (hb:bootBuiltins x=some y) (r:∀ P:Gh,ao P v y) (hn:x ≠ "__name__") (hd:(x==("__debug__" : Str))=false):ak g c k (.Name x pos) (dk v) :=
 fun F N a a a h q=>Calls.Name_function_global F.X.fn ((F.X.kind x).trans hk) (Calls.loadGlobal_builtin (F.X.gl▸G.ns.keeps fun a a=>N.base F.B) hv (F.X.bi▸G.nb.keeps fun a a=>N.base F.B) ((G.boot x hn).trans hb) (q ⟨v,y,N,.refl N,r _,u2 h⟩)) hd
theorem y5 {id:String} (G:GOk g) (hk:c.kind x=some .globalImplicit) (hv:g.mg x=none) (hb:bootBuiltins x=some (.builtin id)) (hn:x ≠ "__name__") (hd:(x==("__debug__" : Str))=false) :
 ak g c k (.Name x pos) (fun σ=>some (.bi id,σ)):=y4 (v:=.bi id) G hk hv hb (fun a=>rfl) hn hd
theorem yN {id:String} (G:GOk g) (hk:c.kind x=some .globalImplicit) (hv:g.mg x=none) (hb:bootBuiltins x=some (.type id)) (hn:x ≠ "__name__") (hd:(x==("__debug__" : Str))=false) :
 ak g c k (.Name x pos) (fun σ=>some (.ty id,σ)):=y4 (v:=.ty id) G hk hv hb (fun a=>rfl) hn hd
theorem aD {e:Expr} {v:V} (H:ak g c k e (fun σ=>some (v,σ))):ak g c k e (dk v):=H
end
noncomputable abbrev big:Int:=2 ^ 62
def small (a:Int):Bool:=decide (-big<a)&&decide (a<big)
theorem dG {a:Int}:small a=true↔-big<a∧a<big:=by simp [small]
noncomputable abbrev LIM:Nat:=1000000
theorem b0 {n:Nat} (h:n≤LIM):n≤sizeLine:=Nat.le_trans h (by rw [sizeLine_eq];exact Nat.le_of_ble_eq_true rfl)
theorem rD (a b:List Nat):S a++S b=S (a++b):=congrArg Str.mk (List.append_toArray ..)
theorem eY.isList {P:Gh} {h:Heap} {a:Addr} {xs:List Value} (H:eY P a xs) (k:∀ a o,P.m a=some o→h.get? a=some o):h.IsList a xs.toArray :=
 H.elim fun o e=>e.elim fun n e=>⟨o,k _ _ e.1,congrArg Prod.fst e.2.1,n,e.2.2⟩
theorem eX.isTuple {P:Gh} {h:Heap} {a:Addr} {xs:List Value} (H:eX P a xs) (k:∀ a o,P.m a=some o→h.get? a=some o):h.IsTuple a xs.toArray :=
 H.elim fun o e=>e.elim fun n e=>⟨o,k _ _ e.1,e.2.1,n,e.2.2⟩
theorem aF {α γ:Type} {o:Option α} {f:α→Option γ} {r:γ} {C:Prop} (h:o.bind f=some r) (q:∀ a,o=some a→f a=some r→C):C:=(Option.bind_eq_some_iff.mp h).elim fun a e=>q a e.1 e.2
theorem dH {α γ:Type} {o:Option α} {f:α→γ} {r:γ} {C:Prop} (h:o.map f=some r) (q:∀ a,o=some a→f a=r→C):C:=(Option.map_eq_some_iff.mp h).elim fun a e=>q a e.1 e.2
theorem orQ {α:Type} {o u:Option α} {r:α} {C:Prop} (h:o.or u=some r) (q:o=some r→C) (q':u=some r→C):C:=match o,h,q with
 | none,h,_=>q' h
 | some _,h,q=>q h
theorem dK {α:Type} {p:Prop} [Decidable p] {x r:α} {C:Prop} (h:(if p then some x else none)=some r) (q:p→x=r→C):C :=
 if hp:p then q hp (Option.some.inj ((if_pos hp).symm.trans h)) else aL ((if_neg hp).symm.trans h)
theorem qP {α:Type} {p:Prop} [Decidable p] {x:Option α} {r:α} {C:Prop} (h:(if p then x else none)=some r) (q:p→x=some r→C):C :=
 if hp:p then q hp ((if_pos hp).symm.trans h) else aL ((if_neg hp).symm.trans h)
section
variable {P:Gh} {v a b r:V} {x y:Value} {C:Value→Prop}
set_option backward.match.sparseCases false in
noncomputable def V.sel {α:Type} (d:α) (int:Int→α) (str byt:List Nat→α) (tup lst:List V→α) (bool:Bool→α):V→α
 | .int i=>int i | .str s=>str s | .byt b=>byt b | .tup l=>tup l | .lst l=>lst l | .bool b=>bool b | _=>d
noncomputable abbrev no {α β:Type}:α→Option β:=fun a=>none
def asI:V→Option Int:=V.sel none some no no no no no
def asS:V→Option (List Nat):=V.sel none no some no no no no
def asY:V→Option (List Nat):=V.sel none no no some no no no
def asT:V→Option (List V):=V.sel none no no no some no no
def asL:V→Option (List V):=V.sel none no no no no some no
def asB:V→Option Bool:=V.sel none no no no no no some
theorem uL {i:Int} (h:asI v=some i):v=.int i:=by cases v<;>first | exact aL h | exact congrArg _ (Option.some.inj h)
theorem zV {i:List Nat} (h:asS v=some i):v=.str i:=by cases v<;>first | exact aL h | exact congrArg _ (Option.some.inj h)
theorem nu {i:List V} (h:asL v=some i):v=.lst i:=by cases v<;>first | exact aL h | exact congrArg _ (Option.some.inj h)
theorem asY_e {i:List Nat} (h:asY v=some i):v=.byt i:=by cases v<;>first | exact aL h | exact congrArg _ (Option.some.inj h)
theorem rz {i:List V} (h:asT v=some i):v=.tup i:=by cases v<;>first | exact aL h | exact congrArg _ (Option.some.inj h)
theorem asB_e {i:Bool} (h:asB v=some i):v=.bool i:=by cases v<;>first | exact aL h | exact congrArg _ (Option.some.inj h)
set_option backward.match.sparseCases false in
noncomputable def asW:V→Option Unit | .wref=>some () | _=>none
theorem asW_e {i:Unit} (h:asW v=some i):v=.wref:=by cases v<;>first | rfl | exact aL h
theorem dD {i:Int} (h:asI v=some i) (hx:ao P v x) (q:∀ t,C (.int i t)):C x:=tV (uL h▸hx) q
theorem cB {i:List Nat} (h:asS v=some i) (hx:ao P v x) (q:∀ t,C (.str (S i) t)):C x:=lK (zV h▸hx) q
theorem d7 {i:List V} (h:asL v=some i) (hx:ao P v x) (q:∀ a xs,eY P a xs→VRels P i xs→C (.ref a)):C x:=xg (nu h▸hx) q
theorem zU {i:List Nat} (h:asY v=some i) (hx:ao P v x) (q:∀ t,(∀ c∈i,c<256)→C (.bytes (i.map UInt8.ofNat).toArray t)):C x:=zM (asY_e h▸hx) q
theorem ry {i:List V} (h:asT v=some i) (hx:ao P v x) (q:∀ a xs,eX P a xs→VRels P i xs→C (.ref a)):C x:=wf (rz h▸hx) q
theorem uM {i:Bool} (h:asB v=some i) (hx:ao P v x) (q:C (.bool i)):C x:=s4 (asB_e h▸hx) q
def ii (f:Int→Int→Option V) (a b:V):Option V:=(asI a).bind fun x=>(asI b).bind fun y=>f x y
theorem ii_q {f:Int→Int→Option V} {C:Value→Value→Prop} (h:ii f a b=some r) (ha:ao P a x) (hb:ao P b y) (q:∀ i j t u,f i j=some r→C (.int i t) (.int j u)):C x y :=
 aF h fun i e1 h=>aF h fun j e2 h=>dD (C:=fun x=>C x y) e1 ha fun t=>dD e2 hb fun u=>q i j t u h
end
def addS (a b:V):Option V:=(asS a).bind fun x=>(asS b).bind fun y=>if x.length+y.length≤LIM then some (.str (x++y)) else none
def addL (a b:V):Option V:=(asL a).bind fun x=>(asL b).bind fun y=>if x.length+y.length≤LIM then some (.lst (x++y)) else none
def addY (a b:V):Option V:=(asY a).bind fun x=>(asY b).bind fun y=>if x.length+y.length≤LIM then some (.byt (x++y)) else none
def bop:Operator→V→V→Option V
 | .Add,a,b=>(ii (fun x y=>some (.int (x+y))) a b).or ((addS a b).or ((addL a b).or (addY a b)))
 | .Sub,a,b=>ii (fun x y=>some (.int (x - y))) a b
 | .Mult,a,b=>ii (fun x y=>if small x then some (.int (x * y)) else none) a b
 | .FloorDiv,a,b=>ii (fun x y=>if y≠0∧small y then some (.int (x.fdiv y)) else none) a b
 | .Mod,a,b=>ii (fun x y=>if y≠0 then some (.int (x.fmod y)) else none) a b
 | .Pow,a,b=>ii (fun x y=>if small x∧0≤y∧y≤1000 then some (.int (x ^ y.toNat)) else none) a b
 | _,_,_=>none
theorem abs_of {i:Int} {n:Nat} (h1:-(n:Int)<i) (h2:i<n):i.natAbs<n:=by omega
theorem u4 {b:Int} (h:small b=true):b.natAbs<2 ^ 62:=abs_of (n:=2 ^ 62) (dG.mp h).1 (dG.mp h).2
theorem se {b:Int} (h:small b=true):b.natAbs.log2<9000 :=
 if h0:b.natAbs=0 then h0▸(by decide +kernel) else Nat.lt_trans ((Nat.log2_lt h0).mpr (u4 h)) (by decide)
theorem jf {i:Int} (hs:small i=true):-(2 ^ 64)<i∧i<2 ^ 64:=⟨Int.lt_trans (by decide) (dG.mp hs).1,Int.lt_trans (dG.mp hs).2 (by decide)⟩
section
variable {Z:aE} {N:Now Z} {g:Gx} {Ar:Around} {Q:V→St→Prop} {K:Value→Shared→Prop} {E:Value→Shared→Prop} {a b r:V} {x y:Value}
theorem iP {s:Shared} {l b:Addr} {vs ws:List Value} (hl:s.heap.IsList l vs.toArray) (hb:s.heap.IsList b ws.toArray)
 (hsz:vs.length+ws.length≤sizeLine) (h:K (.ref s.heap.objs.size) { s with heap:=s.heap.push { cls:=.type "list",data:=.seq (vs++ws).toArray } }) :
 wpAny (model g.prog g.w) Ar (binaryOp .Add (.ref l) (.ref b)) K E s:=by
 refine Classical.byContradiction fun hn_=>?_
 obtain ⟨⟨cls,dd,data,sl⟩,ho,hc,n,hd⟩:=id hl
 obtain ⟨⟨cls2,dd2,data2,sl2⟩,ho2,hc2,n2,hd2⟩:=id hb
 refine hn_ ?_;clear hn_
 simp only at hc hd hc2 hd2
 subst hc hd hc2 hd2
 refine concat_meets ⟨_,ho,rfl⟩ ⟨_,ho2,rfl⟩ noFill_list_add seq_list_add PySem.F.slot_list_add PySem.F.entry_list_add (PySem.F.args_list_add_2 _ _) (list_addW l b vs.toArray ws.toArray n n2 dd dd2 sl sl2 hsz) ⟨ho,ho2,?_⟩
 rw [List.append_toArray]
 exact h
variable (hq:Q r N.σ) (q:∀ r:Res N Q,K r.x r.N.s)
include hq q
theorem adds_ok (h:addS a b=some r) (ha:ao N.P a x) (hb:ao N.P b y):wpAny (model g.prog g.w) Ar (binaryOp .Add x y) K E N.s:=by
 refine aF h fun i e1 h=>aF h fun j e2 h=>dK h fun hs e=>?_
 refine cB (C:=fun x=>wpAny _ _ (binaryOp .Add x y) _ _ _) e1 ha fun t=>?_
 refine cB (C:=fun y=>wpAny _ _ (binaryOp .Add _ y) _ _ _) e2 hb fun u=>?_
 subst e
 with_reducible refine PySem.P.add_str ?_
 split
 · rename_i h0
   cases List.eq_nil_of_length_eq_zero (eq_of_beq h0)
   exact q ⟨_,_,N,.refl N,cV _ _,hq⟩
 · split
   · rename_i h0
     cases List.eq_nil_of_length_eq_zero (eq_of_beq h0)
     exact q ⟨_,_,N,.refl N,cV _ _,(List.append_nil i)▸hq⟩
   · rw [rD]
     exact ⟨b0 (Nat.le_trans (Nat.le_of_eq List.length_append) hs),q ⟨_,_,N.tick,N.tick_le,cV _ _,hq⟩⟩
theorem addl_ok (h:addL a b=some r) (ha:ao N.P a x) (hb:ao N.P b y):wpAny (model g.prog g.w) Ar (binaryOp .Add x y) K E N.s:=by
 refine aF h fun i e1 h=>aF h fun j e2 h=>dK h fun hs e=>?_
 refine d7 (C:=fun x=>wpAny _ _ (binaryOp .Add x y) _ _ _) e1 ha fun l xs hl hxs=>?_
 refine d7 (C:=fun y=>wpAny _ _ (binaryOp .Add _ y) _ _ _) e2 hb fun l2 ys hl2 hys=>?_
 subst e
 exact iP (hl.isList N.I.pin) (hl2.isList N.I.pin) (b0 (hxs.length.symm▸hys.length.symm▸hs))
  (q ⟨_,_,N.new _ rfl _,N.new_le,eA ⟨_,_,Gh.put_self ..,rfl,rfl⟩ ((hxs.append hys).up N.new_le.P),hq⟩)
theorem addy_ok (h:addY a b=some r) (ha:ao N.P a x) (hb:ao N.P b y):wpAny (model g.prog g.w) Ar (binaryOp .Add x y) K E N.s:=by
 refine aF h fun i e1 h=>aF h fun j e2 h=>dK h fun hs e=>?_
 refine zU (C:=fun x=>wpAny _ _ (binaryOp .Add x y) _ _ _) e1 ha fun t h1=>?_
 refine zU (C:=fun y=>wpAny _ _ (binaryOp .Add _ y) _ _ _) e2 hb fun u h2=>?_
 subst e
 with_reducible refine KBy.add_bytes (by rw [List.size_toArray,List.size_toArray,List.length_map,List.length_map];exact Nat.le_trans hs (by decide)) ?_
 exact fun t' k=>q ⟨.byt _,_,N.toks k,N.toks_le,⟨t',by simp,fun c hc=>(List.mem_append.mp hc).elim (h1 c) (h2 c)⟩,hq⟩
theorem bop_ok {op:Operator} (h:bop op a b=some r) (ha:ao N.P a x) (hb:ao N.P b y):wpAny (model g.prog g.w) Ar (binaryOp op x y) K E N.s:=by
 have fin:∀ i:Int,V.int i=r→K (.int i N.s.toks) { N.s with toks:=N.s.toks+1 }:=fun i e=>q ⟨_,_,N.tick,N.tick_le,cq _ _,e▸hq⟩
 have key:∀ f:Int→Int→Option V,ii f a b=some r→(∀ i j t u,f i j=some r→wpAny (model g.prog g.w) Ar (binaryOp op (.int i t) (.int j u)) K E N.s)→wpAny (model g.prog g.w) Ar (binaryOp op x y) K E N.s :=
  fun f h q=>ii_q (C:=fun x y=>wpAny _ _ (binaryOp op x y) _ _ _) h ha hb q
 cases op<;>first | exact aL h | skip
 case Add =>
  exact orQ h (fun h=>key _ h fun i j t u h=>PySem.P.add_int (fin _ (Option.some.inj h))) fun h=>orQ h (fun h=>adds_ok hq q h ha hb) fun h=>orQ h (fun h=>addl_ok hq q h ha hb) fun h=>addy_ok hq q h ha hb
 case Sub=>exact key _ h fun i j t u h=>PySem.P.sub_int (fin _ (Option.some.inj h))
 case Mult=>exact key _ h fun i j t u h=>dK h fun hs e=>PySem.P.mul_int (fin _ e) (IntMulOk.of_left (intBits_le_64 (jf hs).1 (jf hs).2))
 case FloorDiv=>exact key _ h fun i j t u h=>dK h fun hs e=>floordiv_int hs.1 (fin _ e) (.inl (PyProof.noPylong_of_log2 (se hs.2)))
 case Mod=>exact key _ h fun i j t u h=>dK h fun hs e=>mod_int' hs (fin _ e)
 case Pow=>exact key _ h fun i j t u h=>dK h fun hs e=>pow_int hs.2.1 (Int.le_trans (Int.mul_le_mul (Int.ofNat_le.mpr (intBits_le_64 (jf hs.1).1 (jf hs.1).2)) hs.2.2 hs.2.1 (by decide)) (by decide)) (fin _ e)
end
theorem bop_go {Z:aE} {N:Now Z} {g:Gx} {Ar:Around} {Q:V→St→Prop} {K:Value→Shared→Prop} {E:Value→Shared→Prop} {a b:V} {x y:Value} {op:Operator} (h:OkV (bop op a b) fun v=>Q v N.σ) (ha:ao N.P a x) (hb:ao N.P b y) (q:∀ r:Res N Q,K r.x r.N.s) :
 wpAny (model g.prog g.w) Ar (binaryOp op x y) K E N.s:=h.elim fun c h=>bop_ok h.2 q h.1 ha hb
noncomputable def qc (f:V→V→Option Bool):List V→List V→Option Bool
 | [],[]=>some true
 | a::as,b::bs=>(f a b).bind fun x=>(qc f as bs).map (x&&·)
 | _,_=>none
def sW (f:Int→Int→Bool) (a b:V):Option Bool:=(asI a).bind fun x=>(asI b).map (f x)
def vH (f:List Nat→List Nat→Bool) (a b:V):Option Bool:=(asS a).bind fun x=>(asS b).map (f x)
def cmpB (f:Bool→Bool→Bool) (a b:V):Option Bool:=(asB a).bind fun x=>(asB b).map (f x)
def wc (a b:V):Option Bool:=(sW (·==·) a b).or ((vH (·==·) a b).or (cmpB (·==·) a b))
noncomputable def veq:Nat→V→V→Option Bool
 | 0,a,b=>wc a b
 | n+1,a,b=>((asL a).bind fun x=>(asL b).bind fun y=>if x.length=y.length then qc (veq n) x y else some false).or
  (((asT a).bind fun x=>(asT b).bind fun y=>if x.length=y.length then qc (veq n) x y else none).or (wc a b))
section
variable {P:Gh} {v v' a b:V} {x y:Value} {r:Bool} {C:Bool→Value→Value→Prop}
theorem S_beq (a b:List Nat):(S a==S b)=(a==b):=Bool.eq_iff_iff.mpr (beq_iff_eq.trans (Iff.trans ⟨uO,congrArg S⟩ beq_iff_eq.symm))
theorem sU {f:Int→Int→Bool} (h:sW f a b=some r) (ha:ao P a x) (hb:ao P b y) (q:∀ i j t u,C (f i j) (.int i t) (.int j u)):C r x y :=
 aF h fun i e1 h=>dH h fun j e2 e=>e▸dD (C:=fun x=>C _ x y) e1 ha fun t=>dD (C:=fun y=>C _ (.int i t) y) e2 hb fun u=>q i j t u
theorem zv {f:List Nat→List Nat→Bool} (h:vH f a b=some r) (ha:ao P a x) (hb:ao P b y) (q:∀ i j t u,C (f i j) (.str (S i) t) (.str (S j) u)):C r x y :=
 aF h fun i e1 h=>dH h fun j e2 e=>e▸cB (C:=fun x=>C _ x y) e1 ha fun t=>cB (C:=fun y=>C _ (.str (S i) t) y) e2 hb fun u=>q i j t u
theorem zw {f:Bool→Bool→Bool} (h:cmpB f a b=some r) (ha:ao P a x) (hb:ao P b y) (q:∀ i j,C (f i j) (.bool i) (.bool j)):C r x y :=
 aF h fun i e1 h=>dH h fun j e2 e=>e▸uM (C:=fun x=>C _ x y) e1 ha (uM (C:=fun y=>C _ (.bool i) y) e2 hb (q i j))
theorem wb (h:wc a b=some r) (ha:ao P a x) (hb:ao P b y) (q1:∀ i j t u,C (i==j) (.int i t) (.int j u)) (q2:∀ i j t u,C (S i==S j) (.str (S i) t) (.str (S j) u)) (q3:∀ i j,C (i==j) (.bool i) (.bool j)):C r x y :=
 orQ h (fun h=>sU h ha hb q1) fun h=>orQ h (fun h=>zv h ha hb fun i j t u=>S_beq i j▸q2 i j t u) fun h=>zw h ha hb q3
theorem nJ (h1:ao P v x) (h2:ao P v' x) (h:wc v v' = some r):r=true :=
 wb (C:=fun r x y=>x=y→r=true) h h1 h2 (fun i j t u e=>beq_iff_eq.mpr (Value.int.inj e).1) (fun i j t u e=>beq_iff_eq.mpr (Value.str.inj e).1) (fun i j e=>beq_iff_eq.mpr (Value.bool.inj e)) rfl
theorem tA {o:Obj} {xs ys:List Value} {n m:Nat} (e:o.data=.seq xs.toArray n) (e':o.data=.seq ys.toArray m):xs=ys:=congrArg Array.toList (Data.seq.inj (e.symm.trans e')).1
theorem eY.fn {a:Addr} {xs ys:List Value} (h1:eY P a xs) (h2:eY P a ys):xs=ys :=
 h1.elim fun b e=>e.elim fun b e=>h2.elim fun b e'=>e'.elim fun b e'=>tA e.2.2 (Option.some.inj (e'.1.symm.trans e.1)▸e'.2.2)
theorem eX.fn {a:Addr} {xs ys:List Value} (h1:eX P a xs) (h2:eX P a ys):xs=ys :=
 h1.elim fun b e=>e.elim fun b e=>h2.elim fun b e'=>e'.elim fun b e'=>tA e.2.2 (Option.some.inj (e'.1.symm.trans e.1)▸e'.2.2)
theorem jz {f:V→V→Option Bool} {R:Value→Value→Bool→Prop} (hf:∀ v v' x y b,ao P v x→ao P v' y→f v v' = some b→R x y b):∀ {as bs:List V} {xs ys:List Value} {r:Bool},qc f as bs=some r→VRels P as xs→VRels P bs ys →
 ys.length=xs.length∧∃ e:Nat→Bool,r=(List.range xs.length).all e∧∀ j (q1:j<xs.length) (q2:j<ys.length),R xs[j] ys[j] (e j)
 | [],[],xs,ys,r,h,h1,h2=>by
  cases (show xs=[] from h1);cases (show ys=[] from h2)
  exact ⟨rfl,fun c=>true,(Option.some.inj h).symm,fun j q=>absurd q (Nat.not_lt_zero j)⟩
 | a::as,b::bs,xs,ys,r,h,h1,h2=>by
  refine e9 (C:=fun xs=>ys.length=xs.length∧∃ e:Nat→Bool,r=(List.range xs.length).all e∧∀ j (q1:j<xs.length) (q2:j<ys.length),R xs[j] ys[j] (e j)) h1 fun x xs a1 a2=>?_
  refine e9 (C:=fun ys=>ys.length=(x::xs).length∧∃ e:Nat→Bool,r=(List.range (x::xs).length).all e∧∀ j (q1:j<(x::xs).length) (q2:j<ys.length),R (x::xs)[j] ys[j] (e j)) h2 fun y ys b1 b2=>?_
  refine aF h fun u e1 h=>dH h fun w e2 e3=>?_
  obtain ⟨hl,e,hr,he⟩:=jz hf e2 a2 b2
  exact ⟨congrArg (· + 1) hl,fun j=>Nat.casesOn (motive:=fun c=>Bool) j u e,by rw [← e3,hr,List.length_cons,List.range_succ_eq_map,List.all_cons,List.all_map];rfl,
   fun j q1 q2=>match j,q1,q2 with
    | 0,_,_=>hf _ _ _ _ _ a1 b1 e1
    | j+1,q1,q2=>he j (Nat.lt_of_succ_lt_succ q1) (Nat.lt_of_succ_lt_succ q2)⟩
theorem zZ {n:Nat} {e:Nat→Bool} (h:∀ j,j<n→e j=true):(List.range n).all e=true:=List.all_eq_true.mpr fun j hj=>h j (List.mem_range.mp hj)
theorem qd:∀ (n:Nat) (v v':V) (x:Value) (b:Bool),ao P v x→ao P v' x→veq n v v' = some b→b=true
 | 0,_,_,_,_,h1,h2,h=>nJ h1 h2 h
 | n+1,v,v',x,b,h1,h2,h=>by
  have rows:∀ {as bs:List V} {xs:List Value},qc (veq n) as bs=some b→VRels P as xs→VRels P bs xs→b=true:=fun h h1 h2 =>
   have ⟨_,e,hr,he⟩:=jz (R:=fun x y b=>x=y→b=true) (fun v v' x y b a1 a2 h e=>qd n v v' x b a1 (e▸a2) h) h h1 h2
   hr.trans (zZ fun j hj=>he j hj hj rfl)
  refine orQ h (fun h=>aF h fun as e1 h=>aF h fun bs e2 h=>?_) fun h=>orQ h (fun h=>aF h fun as e1 h=>aF h fun bs e2 h=>?_) fun h=>nJ h1 h2 h
  · obtain ⟨a,xs,e,hl,hxs⟩:=(nu e1▸h1:ao P (.lst as) x)
    obtain ⟨a',xs',e',hl',hxs'⟩:=(nu e2▸h2:ao P (.lst bs) x)
    cases e.symm.trans e'
    cases hl.fn hl'
    exact rows ((if_pos (hxs.length.symm.trans hxs'.length)).symm.trans h) hxs hxs'
  · obtain ⟨a,xs,e,hl,hxs⟩:=(rz e1▸h1:ao P (.tup as) x)
    obtain ⟨a',xs',e',hl',hxs'⟩:=(rz e2▸h2:ao P (.tup bs) x)
    cases e.symm.trans e'
    cases hl.fn hl'
    exact rows ((if_pos (hxs.length.symm.trans hxs'.length)).symm.trans h) hxs hxs'
end
section
variable {Z:aE} {N:Now Z}
structure C2 (Ar:Around) (s:Shared) (x y:Value) (b:Bool):Prop where
 a:RcAt Ar s x y b
 b:RcNeAt Ar s x y (!b)
structure C3 (Ar:Around) (s:Shared) (x y:Value) (b:Bool):Prop where
 a:EqAt Ar s x y b
 b:C2 Ar s x y b
theorem veq_at':∀ (n:Nat) {Ar:Around} {v v':V} {x y:Value} {b:Bool},Ar.units+n<cLine→ao N.P v x→ao N.P v' y→veq n v v' = some b→C3 Ar N.s x y b:=by
 intro n
 have base:∀ {Ar:Around} {v v':V} {x y:Value} {b:Bool},ao N.P v x→ao N.P v' y→wc v v' = some b→C3 Ar N.s x y b:=fun {Ar} {_} {_} {_} {_} {_} h1 h2 h =>
  wb (C:=fun b x y=>C3 Ar N.s x y b) h h1 h2 (fun i j t u=>⟨EqAt.int_int _ _ _ _,⟨RcAt.int_int _ _ _ _,RcNeAt.int_int _ _ _ _⟩⟩) (fun i j t u=>⟨EqAt.str_str _ _ _ _,⟨RcAt.str_str _ _ _ _,RcNeAt.str_str _ _ _ _⟩⟩) fun i j=>⟨EqAt.bool_bool _ _,⟨RcAt.bool_bool _ _,RcNeAt.bool_bool _ _⟩⟩
 induction n with
 | zero=>exact fun hu h1 h2 h=>base h1 h2 h
 | succ n ih =>
  intro Ar v v' x y b hu h1 h2 h
  have hu':Ar.in1.units+n<cLine:=by rw [Around.in1_units,Nat.add_assoc,Nat.add_comm 1];exact hu
  have hu0:Ar.units<cLine:=Nat.lt_of_le_of_lt (Nat.le_add_right _ _) hu
  have fin:∀ {a a':Addr},ao N.P v (.ref a)→ao N.P v' (.ref a')→C2 Ar N.s (.ref a) (.ref a') b→C3 Ar N.s (.ref a) (.ref a') b:=fun {a a'} h1 h2 both =>
   ⟨if q:a=a' then by subst q;rw [qd (n+1) v v' _ b h1 h2 h];exact EqAt.same _ else EqAt.of_refs q both.a,both⟩
  refine orQ h (fun h=>aF h fun as e1 h=>aF h fun bs e2 h=>?_) fun h=>orQ h (fun h=>aF h fun as e1 h=>aF h fun bs e2 h=>?_) fun h=>base h1 h2 h
  · obtain ⟨a,xs,rfl,hl,hxs⟩:=(nu e1▸h1:ao N.P (.lst as) x)
    obtain ⟨a',ys,rfl,hl',hys⟩:=(nu e2▸h2:ao N.P (.lst bs) y)
    refine fin h1 h2 ?_
    by_cases hlen:as.length=bs.length
    · obtain ⟨hs,e,rfl,he⟩:=jz (R:=fun x y b=>EqAt Ar.in1 N.s x y b) (fun v v' x y b q1 q2 q3=>(ih hu' q1 q2 q3).a) ((if_pos hlen).symm.trans h) hxs hys
      exact ⟨RcAt.lists (hl.isList N.I.pin) (hl'.isList N.I.pin) hs.symm hu0 he,RcNeAt.lists (hl.isList N.I.pin) (hl'.isList N.I.pin) hs.symm hu0 he⟩
    · cases (if_neg hlen).symm.trans h
      have hsz:(xs.toArray.size != ys.toArray.size)=true:=bne_iff_ne.mpr fun e=>hlen (hxs.length.symm.trans (Eq.trans (show xs.length=ys.length from e) hys.length))
      exact ⟨RcAt.lists_lengths (hl.isList N.I.pin) (hl'.isList N.I.pin) hsz hu0,RcNeAt.lists_lengths (hl.isList N.I.pin) (hl'.isList N.I.pin) hsz hu0⟩
  · obtain ⟨a,xs,rfl,hl,hxs⟩:=(rz e1▸h1:ao N.P (.tup as) x)
    obtain ⟨a',ys,rfl,hl',hys⟩:=(rz e2▸h2:ao N.P (.tup bs) y)
    refine fin h1 h2 ?_
    refine qP h fun hlen h=>?_
    obtain ⟨hs,e,rfl,he⟩:=jz (R:=fun x y b=>EqAt Ar.in1 N.s x y b) (fun v v' x y b q1 q2 q3=>(ih hu' q1 q2 q3).a) h hxs hys
    have e1:=RcAt.tuples (hl.isTuple N.I.pin) (hl'.isTuple N.I.pin) hu0 he
    have e2:=RcNeAt.tuples (hl.isTuple N.I.pin) (hl'.isTuple N.I.pin) hu0 he
    have hs':ys.toArray.size=xs.toArray.size:=hs
    rw [hs',Nat.min_self,beq_self_eq_true,Bool.and_true] at e1 e2
    exact ⟨e1,e2⟩
theorem vZ (n:Nat) {Ar:Around} {v v':V} {x y:Value} {b:Bool} (h:Ar.units+n<cLine) (h1:ao N.P v x) (h2:ao N.P v' y) (h3:veq n v v' = some b):EqAt Ar N.s x y b∧RcAt Ar N.s x y b∧RcNeAt Ar N.s x y (!b) :=
 have z:=veq_at' n h h1 h2 h3
 ⟨z.a,z.b.a,z.b.b⟩
end
noncomputable def dm:List V→Option (List (List Nat))
 | []=>some []
 | v::r=>(asS v).bind fun s=>(dm r).map (s::·)
noncomputable def fg:List V→Option (List Int)
 | []=>some []
 | v::r=>(asI v).bind fun s=>(fg r).map (s::·)
set_option backward.match.sparseCases false in
noncomputable def isNone:V→Option Bool
 | .none=>some true
 | .ml _=>none
 | .md _=>none
 | .mi _ _=>none
 | _=>some false
noncomputable def qH (a b:List Nat):Bool:=decide (a<b)
set_option backward.match.sparseCases false in
noncomputable def asN:V→Option Unit
 | .none=>some ()
 | _=>none
def inS (l:List V) (a:V):Option Bool:=(asS a).bind fun x=>(dm l).map fun ss=>ss.any (·==x)
def inI (l:List V) (a:V):Option Bool:=(asI a).bind fun x=>(fg l).map fun ss=>ss.any (·==x)
def inL (a b:V):Option Bool:=((asL b).bind fun l=>(inS l a).or (inI l a)).or ((asT b).bind fun l=>inS l a)
set_option backward.match.sparseCases false in
def isQ (a b:V):Option Bool:=(cmpB (·==·) a b).or ((asN b).bind fun c=>isNone a)
def cop:CmpOp→V→V→Option Bool
 | .Eq,a,b=>veq 3 a b
 | .NotEq,a,b=>(veq 3 a b).map (!·)
 | .Lt,a,b=>(sW (fun x y=>decide (x<y)) a b).or (vH qH a b)
 | .LtE,a,b=>(sW (fun x y=>decide (x≤y)) a b).or (vH (fun x y=>!qH y x) a b)
 | .Gt,a,b=>(sW (fun x y=>decide (x > y)) a b).or (vH (fun x y=>qH y x) a b)
 | .GtE,a,b=>sW (fun x y=>decide (x≥y)) a b
 | .In,a,b=>inL a b
 | .NotIn,a,b=>(inL a b).map (!·)
 | .Is,a,b=>isQ a b
 | .IsNot,a,b=>(isQ a b).map (!·)
section
variable {P:Gh} {a b:V} {r:Bool} {x y:Value}
set_option backward.match.sparseCases false in
noncomputable def o0 (z:Str):Value→Bool
 | .str y _=>y==z
 | _=>false
set_option backward.match.sparseCases false in
noncomputable def o4 (z:Int):Value→Bool
 | .int y _=>y==z
 | _=>false
theorem lJ {a:List Nat}:∀ {l:List V} {xs:List Value} {ss:List (List Nat)},VRels P l xs→dm l=some ss→xs.any (o0 (S a))=ss.any (·==a)∧∀ y∈xs,∃ z t,y=.str z t
 | [],xs,ss,h,e=>Option.some.inj e▸fu (C:=fun xs=>xs.any (o0 (S a))=([]:List (List Nat)).any (·==a)∧∀ y∈xs,∃ z t,y=.str z t) h ⟨rfl,fun b h=>nomatch h⟩
 | v::l,xs,ss,h,e=>e9 (C:=fun xs=>xs.any (o0 (S a))=ss.any (·==a)∧∀ y∈xs,∃ z t,y=.str z t) h fun y ys h1 h2=>aF e fun z e1 e=>dH e fun ss' e2 e3 =>
  have ih:=lJ (a:=a) h2 e2
  e3▸cB (C:=fun y=>(y::ys).any (o0 (S a))=(z::ss').any (·==a)∧∀ y'∈y::ys,∃ z t,y' = .str z t) e1 h1 fun t=>⟨congr (congrArg or (S_beq ..)) ih.1,fun y hy=>(List.mem_cons.mp hy).elim (fun e=>⟨_,_,e⟩) (ih.2 y)⟩
theorem mv {a:Int}:∀ {l:List V} {xs:List Value} {ss:List Int},VRels P l xs→fg l=some ss→xs.any (o4 a)=ss.any (·==a)∧∀ y∈xs,∃ z t,y=.int z t
 | [],xs,ss,h,e=>Option.some.inj e▸fu (C:=fun xs=>xs.any (o4 a)=([]:List Int).any (·==a)∧∀ y∈xs,∃ z t,y=.int z t) h ⟨rfl,fun b h=>nomatch h⟩
 | v::l,xs,ss,h,e=>e9 (C:=fun xs=>xs.any (o4 a)=ss.any (·==a)∧∀ y∈xs,∃ z t,y=.int z t) h fun y ys h1 h2=>aF e fun z e1 e=>dH e fun ss' e2 e3 =>
  have ih:=mv (a:=a) h2 e2
  e3▸dD (C:=fun y=>(y::ys).any (o4 a)=(z::ss').any (·==a)∧∀ y'∈y::ys,∃ z t,y' = .int z t) e1 h1 fun t=>⟨congrArg (z==a||·) ih.1,fun y hy=>(List.mem_cons.mp hy).elim (fun e=>⟨_,_,e⟩) (ih.2 y)⟩
noncomputable abbrev vN (Ar:Around) (s:Shared) (xs:List Value) (x:Value) (r:Bool):Prop:=∃ p,(∀ y,y∈xs.toArray→EqAt Ar.in1 s y x (p y))∧xs.toArray.any p=r
theorem inS_q {l:List V} {xs:List Value} {Ar:Around} {s:Shared} (h:inS l a=some r) (hxs:VRels P l xs) (ha:ao P a x):vN Ar s xs x r :=
 aF h fun z e2 h=>dH h fun ss e3 e4=>cB (C:=fun x=>vN Ar s xs x r) e2 ha fun t =>
  ⟨_,fun y hy=>((lJ (a:=z) hxs e3).2 y (List.mem_toArray.mp hy)).elim fun b e=>e.elim fun b e=>e▸EqAt.str_str _ _ _ _,List.any_toArray.trans ((lJ hxs e3).1.trans e4)⟩
theorem inI_q {l:List V} {xs:List Value} {Ar:Around} {s:Shared} (h:inI l a=some r) (hxs:VRels P l xs) (ha:ao P a x):vN Ar s xs x r :=
 aF h fun z e2 h=>dH h fun ss e3 e4=>dD (C:=fun x=>vN Ar s xs x r) e2 ha fun t =>
  ⟨_,fun y hy=>((mv (a:=z) hxs e3).2 y (List.mem_toArray.mp hy)).elim fun b e=>e.elim fun b e=>e▸EqAt.int_int _ _ _ _,List.any_toArray.trans ((mv hxs e3).1.trans e4)⟩
theorem inL_q {Ar:Around} {s:Shared} {C:Value→Prop} (h:inL a b=some r) (ha:ao P a x) (hb:ao P b y)
 (q:∀ c xs,eY P c xs→vN Ar s xs x r→C (.ref c)) (q':∀ c xs,eX P c xs→vN Ar s xs x r→C (.ref c)):C y :=
 orQ h (fun h=>aF h fun l e1 h=>d7 e1 hb fun c xs hl hxs=>q c xs hl (orQ h (fun h=>inS_q h hxs ha) fun h=>inI_q h hxs ha))
  fun h=>aF h fun l e1 h=>ry e1 hb fun c xs hl hxs=>q' c xs hl (inS_q h hxs ha)
theorem nV {v:V} (hx:ao P v x) (h:isNone v=some r):(x==.none)=r:=by
 cases v<;>first | exact aL h | skip
 case none=>exact (Option.some.inj h:true=r)▸l9 (C:=fun x=>(x==.none)=true) hx rfl
 case bool=>exact (Option.some.inj h:false=r)▸s4 (C:=fun x=>(x==.none)=false) hx rfl
 case int=>exact (Option.some.inj h:false=r)▸tV (C:=fun x=>(x==.none)=false) hx fun a=>rfl
 case str=>exact (Option.some.inj h:false=r)▸lK (C:=fun x=>(x==.none)=false) hx fun a=>rfl
 case byt=>exact (Option.some.inj h:false=r)▸zM (C:=fun x=>(x==.none)=false) hx fun a a=>rfl
 case adr=>exact (Option.some.inj h:false=r)▸oj (C:=fun x=>(x==.none)=false) hx rfl
 case bi=>exact (Option.some.inj h:false=r)▸bi_q (C:=fun x=>(x==.none)=false) hx rfl
 case ty=>exact (Option.some.inj h:false=r)▸j8 (C:=fun x=>(x==.none)=false) hx rfl
 case tup=>exact (Option.some.inj h:false=r)▸wf (C:=fun x=>(x==.none)=false) hx fun a a a a=>rfl
 case lst=>exact (Option.some.inj h:false=r)▸xg (C:=fun x=>(x==.none)=false) hx fun a a a a=>rfl
 case dct=>exact (Option.some.inj h:false=r)▸zc (C:=fun x=>(x==.none)=false) hx fun a a a a a=>rfl
 case obj=>exact (Option.some.inj h:false=r)▸jk (C:=fun x=>(x==.none)=false) hx fun a a a a a a=>rfl
 case wref=>exact (Option.some.inj h:false=r)▸rJ (C:=fun x=>(x==.none)=false) hx fun a a=>rfl
theorem zW {i:Unit} (h:asN b=some i):b=.none:=by cases b<;>first | rfl | exact aL h
theorem sn (i j:List Nat):decide ((S i).cps.toList<(S j).cps.toList)=qH i j:=by rw [rC,rC];unfold qH;congr
end
section
variable {Z:aE} {N:Now Z} {g:Gx} {Ar:Around} {K:Value→Shared→Prop} {E:Value→Shared→Prop} {a b:V} {r:Bool} {x y:Value}
theorem is_go {op:CmpOp} {f:Bool→Bool} (h:(isQ a b).map f=some r) (ha:ao N.P a x) (hb:ao N.P b y) (q:K (.bool r) N.s)
 (q1:∀ i j:Bool,K (.bool (f (i==j))) N.s→wpAny (model g.prog g.w) Ar (compareOp op (.bool i) (.bool j)) K E N.s) (q2:∀ x:Value,K (.bool (f (x==.none))) N.s→wpAny (model g.prog g.w) Ar (compareOp op x .none) K E N.s) :
 wpAny (model g.prog g.w) Ar (compareOp op x y) K E N.s :=
 dH h fun c h e=>orQ h (fun h=>zw (C:=fun c x y=>f c=r→wpAny _ _ (compareOp op x y) K E N.s) h ha hb (fun i j e=>q1 i j (e▸q)) e)
  fun h=>aF h fun d e1 h=>l9 (C:=fun y=>wpAny _ _ (compareOp op x y) K E N.s) (zW e1▸hb) (q2 x (nV ha h▸e▸q))
theorem xf {op:CmpOp} {f:Int→Int→Bool} {f':List Nat→List Nat→Bool} (h:(sW f a b).or (vH f' a b)=some r) (ha:ao N.P a x) (hb:ao N.P b y) (q:K (.bool r) N.s)
 (q1:∀ (i j:Int) t u,K (.bool (f i j)) N.s→wpAny (model g.prog g.w) Ar (compareOp op (.int i t) (.int j u)) K E N.s) (q2:∀ (i j:List Nat) t u,K (.bool (f' i j)) N.s→wpAny (model g.prog g.w) Ar (compareOp op (.str (S i) t) (.str (S j) u)) K E N.s) :
 wpAny (model g.prog g.w) Ar (compareOp op x y) K E N.s :=
 orQ h (fun h=>sU (C:=fun r x y=>K (.bool r) N.s→wpAny _ _ (compareOp op x y) K E N.s) h ha hb q1 q) fun h=>zv (C:=fun r x y=>K (.bool r) N.s→wpAny _ _ (compareOp op x y) K E N.s) h ha hb q2 q
theorem cop_ok {op:CmpOp} (hu:Ar.units+3<cLine) (h:cop op a b=some r) (ha:ao N.P a x) (hb:ao N.P b y) (q:K (.bool r) N.s):wpAny (model g.prog g.w) Ar (compareOp op x y) K E N.s:=by
 cases op
 case Eq=>exact (vZ 3 hu ha hb h).2.1 g.prog g.w E K q
 case NotEq=>exact dH h fun c h e=>(vZ 3 hu ha hb h).2.2 g.prog g.w E K (e▸q)
 case Lt=>exact xf h ha hb q (fun i j t u q=>PySem.P.lt_int q) fun i j t u q=>PySem.P.lt_str (sn i j▸q)
 case LtE=>exact xf h ha hb q (fun i j t u q=>PySem.P.le_int q) fun i j t u q=>PySem.P.le_str (sn j i▸q)
 case Gt=>exact xf h ha hb q (fun i j t u q=>PySem.P.gt_int q) fun i j t u q=>PySem.P.gt_str (sn j i▸q)
 case GtE=>exact sU (C:=fun r x y=>K (.bool r) N.s→wpAny _ _ (compareOp .GtE x y) K E N.s) h ha hb (fun i j t u q=>PySem.P.ge_int q) q
 case In=>exact inL_q (Ar:=Ar) (s:=N.s) (C:=fun y=>wpAny _ _ (compareOp .In x y) K E N.s) h ha hb (fun c xs hl H=>H.elim fun p e=>in_listAt _ (hl.isList N.I.pin) e.1 (e.2.symm▸q)) fun c xs hl H=>H.elim fun p e=>in_tupleAt _ (hl.isTuple N.I.pin) e.1 (e.2.symm▸q)
 case NotIn=>exact dH h fun c h e=>inL_q (Ar:=Ar) (s:=N.s) (C:=fun y=>wpAny _ _ (compareOp .NotIn x y) K E N.s) h ha hb (fun c xs hl H=>H.elim fun p e'=>notIn_listAt _ (hl.isList N.I.pin) e'.1 (e'.2.symm▸e.symm▸q)) fun c xs hl H=>H.elim fun p e'=>notIn_tupleAt _ (hl.isTuple N.I.pin) e'.1 (e'.2.symm▸e.symm▸q)
 case Is=>exact is_go (f:=id) (Option.map_id▸h) ha hb q (fun i j q=>is_bool q) fun x q=>is_none_gen q
 case IsNot=>exact is_go (f:=(!·)) h ha hb q (fun i j q=>isnot_bool q) fun x q=>isnot_none_gen q
theorem kx {op:CmpOp} {T:Bool→Prop} (hu:Ar.units+3<cLine) (h:OkV (cop op a b) T) (ha:ao N.P a x) (hb:ao N.P b y) (q:∀ r,T r→K (.bool r) N.s):wpAny (model g.prog g.w) Ar (compareOp op x y) K E N.s :=
 h.elim fun c h=>cop_ok hu h.1 ha hb (q _ h.2)
def tru (v:V):Option Bool:=(asB v).or (((asI v).map (· != 0)).or (((asS v).bind fun x=>if x.length≤LIM then some (!x.isEmpty) else none).or ((asL v).bind fun l=>if l.length≤LIM then some (!l.isEmpty) else none)))
theorem vq {α:Type} (l:List α):((l.length:Int) != 0)=!l.isEmpty:=by cases l<;>rfl
theorem jw {n:Nat} (h:n≤LIM):(n:Int)<2 ^ 63:=Int.lt_of_le_of_lt (Int.ofNat_le.mpr h) (by decide)
theorem ot {v:V} {T:Bool→Prop} {Q:Bool→Shared→Prop} (h:OkV (tru v) T) (hx:ao N.P v x) (q:∀ b t,T b→Q b { N.s with toks:=t }):wpAny (model g.prog g.w) Ar (truthy x) Q E N.s :=
 h.elim fun b h=>orQ h.1 (fun e=>uM (C:=fun x=>wpAny _ _ (truthy x) Q E N.s) e hx (wpAny_truthy_bool (q b N.s.toks h.2)))
  fun e=>orQ e (fun e=>dH e fun i e e'=>dD (C:=fun x=>wpAny _ _ (truthy x) Q E N.s) e hx fun t=>PySem.P.truthy_int (e'.symm▸q b _ h.2))
  fun e=>orQ e (fun e=>aF e fun l e e'=>dK e' fun hl e'=>cB (C:=fun x=>wpAny _ _ (truthy x) Q E N.s) e hx fun t=>PySem.P.truthy_str (Int.not_le.mpr (jw hl)) ((vq l).symm▸e'.symm▸q b _ h.2))
  fun e=>aF e fun l e e'=>dK e' fun hl e'=>d7 (C:=fun x=>wpAny _ _ (truthy x) Q E N.s) e hx fun a xs ha hxs=>wpAny_truthy_list (ha.isList N.I.pin) (jw (Nat.le_trans (Nat.le_of_eq hxs.length) hl))
   ((show (!l.isEmpty)=!xs.toArray.isEmpty from by cases l<;>cases xs<;>first | rfl | cases hxs.length)▸e'.symm▸q b _ h.2)
end
def dbin1 (op:Operator) (db:DE) (q:V×St):Option (V×St):=(db q.2).bind fun r=>(bop op q.1 r.1).map fun v=>(v,r.2)
def dbin (op:Operator) (da db:DE):DE:=fun σ=>(da σ).bind (dbin1 op db)
def dcmpT1 (op:CmpOp) (db:DE) (q:V×St):Option (Bool×St):=(db q.2).bind fun r=>(cop op q.1 r.1).map fun v=>(v,r.2)
def ze (op:CmpOp) (da db:DE):DT:=fun σ=>(da σ).bind (dcmpT1 op db)
def dcmp (op:CmpOp) (da db:DE):DE:=fun σ=>(ze op da db σ).map fun r=>(.bool r.1,r.2)
def dtru (d:DE):DT:=fun σ=>(d σ).bind fun q=>(tru q.1).map fun b=>(b,q.2)
noncomputable def dnotT (d:DT):DT:=fun σ=>(d σ).map fun q=>(!q.1,q.2)
def dnot (d:DE):DE:=fun σ=>(dtru d σ).map fun q=>(.bool (!q.1),q.2)
noncomputable def dandT (d e:DT):DT:=fun σ=>(d σ).bind fun q=>if q.1 then e q.2 else some (false,q.2)
noncomputable def dorT (d e:DT):DT:=fun σ=>(d σ).bind fun q=>if q.1 then some (true,q.2) else e q.2
def dand (d e:DE):DE:=fun σ=>(d σ).bind fun q=>(tru q.1).bind fun b=>if b then e q.2 else some q
def dor (d e:DE):DE:=fun σ=>(d σ).bind fun q=>(tru q.1).bind fun b=>if b then some q else e q.2
def dneg (d:DE):DE:=fun σ=>(d σ).bind fun q=>(asI q.1).map fun i=>(.int (-i),q.2)
noncomputable def dite (t:DT) (a b:DE):DE:=fun σ=>(t σ).bind fun q=>if q.1 then a q.2 else b q.2
noncomputable def diteT (t:DT) (a b:DT):DT:=fun σ=>(t σ).bind fun q=>if q.1 then a q.2 else b q.2
noncomputable def bY:List DE→St→Option (List V×St)
 | [],σ=>some ([],σ)
 | d::r,σ=>(d σ).bind fun q=>(bY r q.2).map fun t=>(q.1::t.1,t.2)
def dlst (ds:List DE):DE:=fun σ=>(bY ds σ).bind fun q=>if q.1.length≤LIM then some (.lst q.1,q.2) else none
def dtup (ds:List DE):DE:=fun σ=>(bY ds σ).bind fun q=>if q.1.length≤LIM then some (.tup q.1,q.2) else none
def eK (g:Gx) (c:SC) (k:Nat) (es:List Expr) (ds:List DE):Prop :=
 ∀ {Z:aE} (F:Fr g c k Z) (N:Now Z) {Q:List V→St→Prop} {K:List Value→Shared→Prop} {E:Value→Shared→Prop} {pos:Pos},Ok2 (bY ds N.σ) Q→(∀ r:vO N Q,K r.x r.N.s)→wpAny (model g.prog g.w) Z.Ar (spliced (backTo pos (starEach es Z.env))) K E N.s
section
variable {g:Gx} {c:SC} {k:Nat} {l r a b e t:Expr} {pos:Pos} {da db d:DE} {ta tb dt:DT} {es:List Expr} {ds:List DE}
theorem bP {op:Operator} (ha:ak g c k l da) (hb:ak g c k r db):ak g c k (.BinOp l op r pos) (dbin op da db) :=
 fun F N d d d h q=>wpAny_BinOp (ha F N (ub h) fun a=>hb F a.N (ub a.q) fun b=>bop_go (um b.q) (a.rel.up b.le.P) b.rel fun z=>q (z.up (a.le.trans b.le)))
theorem aQ {op:CmpOp} (ha:ak g c k l da) (hb:ak g c k r db) (hm:behindInMarks op r=false):bW g c k (.Compare l [op] [r] pos) (ze op da db) :=
 fun F N d d d h q=>wpAny_isTrue_Compare1 (ha F N (ub h) fun a=>hb F a.N (ub a.q) fun b=>kx F.R.u3 (um b.q) (a.rel.up b.le.P) b.rel fun z hz=>wpAny_truthy_bool (q ⟨z,b.N,a.le.trans b.le,hz⟩)) hm
theorem io {op:CmpOp} (ha:ak g c k l da) (hb:ak g c k r db) (hm:behindInMarks op r=false):ak g c k (.Compare l [op] [r] pos) (dcmp op da db) :=
 fun F N d d d h q=>wpAny_Compare1 (ha F N (ub (um2 h)) fun a=>hb F a.N (ub a.q) fun b=>kx F.R.u3 (um b.q) (a.rel.up b.le.P) b.rel fun z hz=>q ⟨.bool z,_,b.N,a.le.trans b.le,ei _,hz⟩) hm
theorem bB (H:ak g c k e d) (he:∀ env whole,isTrue e env whole=(do let v ← whole;standAt e.pos;holding [v] (truthy v))):bW g c k e (dtru d) :=
 fun F N f f f h q=>he _ _▸wpAny_bind (H F N (ub h) fun a=>wpAny_bind (wpAny_standAt (wpAny_holding (ot (um a.q) a.rel fun b t hb=>q ⟨b,a.N.toks t,a.le.trans Now.toks_le,hb⟩))))
theorem cw (H:bW g c k e dt):bW g c k (.UnaryOp .Not e pos) (dnotT dt) :=
 fun F N b b b h q=>isTrue_not (H F N (um2 h) fun a=>q ⟨_,a.N,a.le,a.q⟩)
theorem pq (H:ak g c k e d):ak g c k (.UnaryOp .USub e pos) (dneg d) :=
 fun F N b K E h q=>UnaryOp_ (H F N (ub h) fun a=>(um a.q).elim fun i h=>dD (C:=fun x=>wpAny _ _ (unaryOp .USub x) K E a.N.s) h.1 a.rel fun t=>PySem.P.neg_int (q ⟨.int _,_,a.N.tick,a.le.trans Now.tick_le,cq _ _,h.2⟩))
theorem tu {C:Bool→Prop} {b:Bool} (h1:b=true→C true) (h2:b=false→C false):C b:=match b with | true=>h1 rfl | false=>h2 rfl
theorem mt {α β:Type} {b:Bool} {x y:Option (α×β)} {Q:α→β→Prop} {C:Bool→Prop} (h:Ok2 (if b then x else y) Q) (h1:Ok2 x Q→C true) (h2:Ok2 y Q→C false):C b:=match b,h with | true,h=>h1 h | false,h=>h2 h
theorem lB (ht:bW g c k t dt) (ha:ak g c k a da) (hb:ak g c k b db):ak g c k (.IfExp t a b pos) (dite dt da db) :=
 fun F N d K E h q=>IfExp_ (ht F N (ub h) fun z=>mt (C:=fun b=>if b then wpAny _ _ _ K E z.N.s else wpAny _ _ _ K E z.N.s) z.q (fun h=>ha F z.N h fun y=>q (y.up z.le)) fun h=>hb F z.N h fun y=>q (y.up z.le))
theorem dc (ha:bW g c k a ta):bW g c k (.BoolOp .And [a] pos) ta :=
 fun F N d K E h q=>isTrue_and (ha F N h fun z=>tu (C:=fun b=>K b z.N.s→if b then wpAny _ _ _ K E z.N.s else K false z.N.s) (fun d q=>isTrue_and_nil q) (fun d q=>q) (q z))
theorem dX (ha:bW g c k a ta):bW g c k (.BoolOp .Or [a] pos) ta :=
 fun F N d K E h q=>isTrue_or (ha F N h fun z=>tu (C:=fun b=>K b z.N.s→if b then K true z.N.s else wpAny _ _ _ K E z.N.s) (fun d q=>q) (fun d q=>isTrue_or_nil q) (q z))
theorem dZ {r:List Expr} (ha:bW g c k a ta) (hb:bW g c k (.BoolOp .And (b::r) pos) tb):bW g c k (.BoolOp .And (a::b::r) pos) (dandT ta tb) :=
 fun F N d K E h q=>isTrue_and (ha F N (ub h) fun z=>mt (C:=fun b=>if b then wpAny _ _ _ K E z.N.s else K false z.N.s) z.q (fun h=>hb F z.N h fun y=>q (y.up z.le)) fun h=>q ⟨_,z.N,z.le,u2 h⟩)
theorem eP {r:List Expr} (ha:bW g c k a ta) (hb:bW g c k (.BoolOp .Or (b::r) pos) tb):bW g c k (.BoolOp .Or (a::b::r) pos) (dorT ta tb) :=
 fun F N d K E h q=>isTrue_or (ha F N (ub h) fun z=>mt (C:=fun b=>if b then K true z.N.s else wpAny _ _ _ K E z.N.s) z.q (fun h=>q ⟨_,z.N,z.le,u2 h⟩) fun h=>hb F z.N h fun y=>q (y.up z.le))
theorem uy (ha:ak g c k a da) (hb:ak g c k b db):ak g c k (.BoolOp .And [a,b] pos) (dand da db) :=
 fun F N d K E h q=>BoolOp_and (ha F N (ub h) fun z=>ot (uv z.q) z.rel fun b t hb'=>mt (C:=fun b=>if b then wpAny _ _ _ K E { z.N.s with toks:=t } else K z.x { z.N.s with toks:=t }) hb'
  (fun h=>BoolOp_one (hb F (z.N.toks t) h fun y=>q (y.up (z.le.trans Now.toks_le)))) fun h=>q ⟨z.v,_,z.N.toks t,z.le.trans Now.toks_le,z.rel,u2 h⟩)
theorem den_or (ha:ak g c k a da) (hb:ak g c k b db):ak g c k (.BoolOp .Or [a,b] pos) (dor da db) :=
 fun F N d K E h q=>BoolOp_or (ha F N (ub h) fun z=>ot (uv z.q) z.rel fun b t hb'=>mt (C:=fun b=>if b then K z.x { z.N.s with toks:=t } else wpAny _ _ _ K E { z.N.s with toks:=t }) hb'
  (fun h=>q ⟨z.v,_,z.N.toks t,z.le.trans Now.toks_le,z.rel,u2 h⟩) fun h=>BoolOp_one (hb F (z.N.toks t) h fun y=>q (y.up (z.le.trans Now.toks_le))))
theorem aU:eK g c k [] []:=fun F N a a a a h q=>Calls.spliced_nil (q ⟨[],_,N,.refl N,bz,u2 h⟩)
theorem aP (hd:ak g c k e d) (hr:eK g c k es ds) (he:∀ env,starEach (e::es) env=(false,eval e env)::starEach es env):eK g c k (e::es) (d::ds) :=
 fun F N Q K E pos h q=>(he _).symm▸show wpAny _ _ (spliced ((false,if false=true then _ else eval e _)::backTo pos (starEach es _))) _ _ _ from
  Calls.spliced_cons (hd F N (ub h) fun a=>hr F a.N (um2 a.q) fun b=>q ⟨_,_,b.N,a.le.trans b.le,bk (a.rel.up b.le.P) b.rel,b.q⟩)
theorem dp {P:Gh} {vs:List V} {xs:List Value} (r:VRels P vs xs) (h:vs.length≤LIM):xs.length≤sizeLine:=b0 (Nat.le_trans (Nat.le_of_eq r.length) h)
theorem cF (H:eK g c k es ds):ak g c k (.List es pos) (dlst ds) :=
 fun F N b b b h q=>List_ (H F N (ub h) fun a=>wpAny_newObj_type (q ⟨.lst _,_,a.N.new _ rfl _,a.le.trans a.N.new_le,eA ⟨_,_,Gh.put_self ..,rfl,rfl⟩ (a.rel.up a.N.new_le.P),(ui a.q).2⟩) (dp a.rel (ui a.q).1))
theorem im {kk:Nat} (H:eK g c k es ds):ak g c k (.Tuple es kk pos) (dtup ds) :=
 fun F N b b b h q=>Tuple_ (H F N (ub h) fun a=>wpAny_newObj_type (q ⟨.tup _,_,a.N.new _ rfl _,a.le.trans a.N.new_le,rK ⟨_,_,Gh.put_self ..,rfl,rfl⟩ (a.rel.up a.N.new_le.P),(ui a.q).2⟩) (dp a.rel (ui a.q).1))
end
def dnil:DS:=fun σ=>some (.nxt,σ)
def dseq (d r:DS):DS:=fun σ=>(d σ).bind fun q=>match q.1 with
 | .nxt=>r q.2
 | f=>some (f,q.2)
def pD (i:Nat) (d:DE):DS:=fun σ=>(d σ).bind fun q=>some (.nxt,q.2.set i q.1)
def dnewl1 (i:Nat) (q:List V×St):Option (Fl×St):=if q.1.length≤LIM then some (.nxt,q.2.set i (.ml q.1)) else none
def dnewl (i:Nat) (ds:List DE):DS:=fun σ=>(bY ds σ).bind (dnewl1 i)
def yF (i:Nat) (q:V×St) (r:V×St):Option (Fl×St):=(asL q.1).bind fun a=>(asL r.1).bind fun b=>if a.length+b.length≤LIM then some (.nxt,r.2.set i (.ml (a++b))) else none
def yG (i:Nat) (db:DE) (q:V×St):Option (Fl×St):=(db q.2).bind (yF i q)
def uq (i:Nat) (da db:DE):DS:=fun σ=>(da σ).bind (yG i db)
def dnewd (i:Nat):DS:=fun σ=>some (.nxt,σ.set i (.md []))
noncomputable def bU (i:Nat) (σ:St):Option V:=σ.loc[i]?.join
def daug (i:Nat) (d:DE):DS:=fun σ=>((bU i σ).bind asI).bind fun a=>(d σ).bind fun q=>(asI q.1).map fun b=>(.nxt,q.2.set i (.int (a+b)))
noncomputable def dif (t:DT) (a b:DS):DS:=fun σ=>(t σ).bind fun q=>if q.1 then a q.2 else b q.2
noncomputable def dret (d:DE):DS:=fun σ=>(d σ).bind fun q=>some (.ret q.1,q.2)
noncomputable def dcont:DS:=fun σ=>some (.cont,σ)
noncomputable def dfail:DS:=fun a=>none
set_option backward.match.sparseCases false in
noncomputable def kq:V→Bool | .ml _=>false | .md _=>false | .mi _ _=>false | _=>true
noncomputable abbrev DG:=V→St→Option St
noncomputable def bA (i:Nat):DG:=fun v σ=>some (σ.set i v)
noncomputable def nv (h:Heap) (I:Addr):Prop:=∃ o n,h.get? I=some o∧o.cls=.type n∧["enumerate","zip","dict_itemiterator","dict_reverseitemiterator","odict_iterator","itertools.zip_longest","itertools.pairwise"].contains n=false
structure gw (g:Gx) (c:SC) (k:Nat) (t:Expr) (asg:DG):Prop where
 noop:∀ {P:Gh} {v:V} {x:Value} {σ:St} {T:St→Prop} {s:Shared} {I:Addr} {Ar:Around} {K:Unit→Shared→Prop} {E:Value→Shared→Prop},ao P v x→OkV (asg v σ) T→nv s.heap I→K () s→wpAny (model g.prog g.w) Ar (letOwnedTupleGo t (.ref I) x) K E s
 go:∀ {Z:aE} (F:Fr g c k Z) (N:Now Z) {v:V} {x:Value} {T:St→Prop} {K:Unit→Shared→Prop} {E:Value→Shared→Prop},ao N.P v x→OkV (asg v N.σ) T→(∀ M:Now Z,N.Le M→T M.σ→K () M.s)→wpAny (model g.prog g.w) Z.Ar (assign t Z.env x) K E N.s
theorem eL {i:Nat} {σ:St} {v:V} (h:bU i σ=some v):σ.loc[i]? = some (some v):=Option.join_eq_some_iff.mp h
theorem cb.relF {A:Act} {P:Gh} {h:Heap} {o:Option Addr} {v:V} {x:Value} (H:cb A P h o v x):kq v=true→ao P v x:=H.rec (fun r f=>r) (fun f f e=>nomatch e) (fun f f f e=>nomatch e) fun f f f f f e=>nomatch e
section
variable {Z:aE} {N:Now Z} {g:Gx} {c:SC} {k i:Nat} {e l r t:Expr} {a b:List Stmt} {pos p1 p2:Pos} {d da db:DE} {dt:DT} {sa sb:DS} {es:List Expr} {ds:List DE} {x:Str} {Ar:Around} {E:Value→Shared→Prop}
theorem fq.elim {Q:Fl→St→Prop} (r:fq N Q) {C:Flow→Prop} (hn:Q .nxt r.N.σ→C .next) (hc:Q .cont r.N.σ→C .cont) (hb:Q .brk r.N.σ→C .brk) (hr:∀ v y,ao r.N.P v y→Q (.ret v) r.N.σ→C (.ret y)):C r.x :=
 match r.f,r.rel,r.q with
 | .nxt,e,h=>(show r.x=.next from e)▸hn h
 | .cont,e,h=>(show r.x=.cont from e)▸hc h
 | .brk,e,h=>(show r.x=.brk from e)▸hb h
 | .ret v,e,h=>e.elim fun y e=>e.1▸hr v y e.2 h
theorem aJ:bO g c k [] dnil:=fun F N a a a h q=>wpAny_execs_nil (q ⟨.nxt,.next,N,.refl _,rfl,u2 h⟩)
theorem aC {st:Stmt} (H:cO g c k st sa) (Hr:bO g c k a sb):bO g c k (st::a) (dseq sa sb) :=
 fun F N Q K E h q=>wpAny_execs_cons (H F N (ub h) fun r=>r.elim (C:=fun f=>match f with | .next=>wpAny _ _ (execs a _) K E r.N.s | f=>K f r.N.s)
  (fun h=>Hr F r.N h fun y=>q (y.up r.le)) (fun h=>q ⟨.cont,.cont,r.N,r.le,rfl,u2 h⟩) (fun h=>q ⟨.brk,.brk,r.N,r.le,rfl,u2 h⟩) fun v y hy h=>q ⟨.ret v,.ret y,r.N,r.le,⟨y,rfl,hy⟩,u2 h⟩)
theorem j9 {v:V} {y:Value} {o':Option Addr} {T:St→Prop} {K:Unit→Shared→Prop} (X:iQ c Z.env Z.pl) (hk:c.kind x=some .local∨c.kind x=some .cell) (hs:c.slot x=some i)
 (hv:∀ h',(∀ b o,(∀ p,Z.pl[i]? = some p→b≠p.addr)→N.s.heap.get? b=some o→h'.get? b=some o)→cb Z.A N.P h' o' v y) (ho:∀ a,o' = some a→eh Z.A N.P Z.pl N.own i a)
 (hT:T (N.σ.set i v)) (q:∀ M:Now Z,N.P.le M.P→(o' = none→N.Le M)→T M.σ→K () M.s):wpAny (model g.prog g.w) Ar (storeName Z.env x y) K E N.s :=
 have sh:o' = none→∀ (j:Nat) a,(N.own.set i o')[j]? = some (some a)→N.own[j]? = some (some a):=fun e j a h=>dU h (fun d z=>nomatch (e.symm.trans z)) fun d z=>z
 hk.elim
  (fun hk=>have hp:=X.loc x i hk hs
   (N.I.placeOk hp).elim fun m hm=>wpAny_storeName_local ((X.kind x).trans hk) hm (fun h' hn hs' =>
    q ⟨_,_,_,_,N.I.storeNs hp hm hn hs' (hv h' fun b o hb e=>(hs'.2 b (hb _ hp)).trans e) ho⟩ (.refl _) (fun e=>⟨.refl _,sh e⟩) hT) (by rw [X.fn];rfl))
  fun hk=>(X.cel x i (.inl hk) hs).elim fun a ha=>(N.I.placeOk ha.2).elim fun o e=>e.elim fun v0 e=>wpAny_storeName_cell X.fn ((X.kind x).trans hk) ha.1 ⟨o,e.1,e.2⟩ fun h' hn hs'=>hn.elim fun o1 e1 =>
   q ⟨_,_,_,_,N.I.storeCell (t:=N.s.toks) ha.2 e1.1 e1.2 hs' (hv h' fun b o hb e=>(hs'.2 b (hb _ ha.2)).trans e) ho⟩ (.refl _) (fun e=>⟨.refl _,sh e⟩) hT
theorem fw {v:V} {y:Value} {T:St→Prop} {K:Unit→Shared→Prop} (X:iQ c Z.env Z.pl) (hk:c.kind x=some .local∨c.kind x=some .cell) (hs:c.slot x=some i) (hv:ao N.P v y)
 (hT:T (N.σ.set i v)) (q:∀ M:Now Z,N.Le M→T M.σ→K () M.s):wpAny (model g.prog g.w) Ar (storeName Z.env x y) K E N.s :=
 j9 X hk hs (o':=none) (fun a a=>.val hv) (fun a e=>nomatch e) hT fun M a e=>q M (e rfl)
theorem bh (hk:c.kind x=some .local∨c.kind x=some .cell) (hs:c.slot x=some i):gw g c k (.Name x pos) (bA i) :=
 ⟨fun a a a q=>wpAny_pure q,fun F N a a a a a hv h q=>wpAny_assign_Name (fw F.X hk hs hv (h.elim fun a e=>Option.some.inj e.1▸e.2) q)⟩
theorem aH (H:ak g c k e d) (hk:c.kind x=some .local∨c.kind x=some .cell) (hs:c.slot x=some i) (hw:∀ env,swapsWith e (some (.Name x p1)) pos.line env=pure false):cO g c k (.Assign [.Name x p1] e pos) (pD i d) :=
 fun F N Q a a h q=>wpAny_Assign_Name (H F N (ub h) fun y=>fw F.X hk hs y.rel (u2 y.q:Q .nxt _) fun M l hT=>q ⟨.nxt,.next,M,y.le.P.trans l.P,rfl,hT⟩) (hw _)
theorem iD {vs:List V} {xs:List Value} {T:St→Prop} {K:Unit→Shared→Prop} (F:Fr g c k Z) (hk:c.kind x=some .local∨c.kind x=some .cell) (hs:c.slot x=some i) (hxs:VRels N.P vs xs)
 (hT:T (N.σ.set i (.ml vs))) (q:∀ M:Now Z,N.P.le M.P→T M.σ→K () M.s):wpAny (model g.prog g.w) Ar (storeName Z.env x (.ref N.s.heap.objs.size)) K E { N.s with heap:=N.s.heap.push { cls:=.type "list",data:=.seq xs.toArray } } :=
 have hn:=bo N.s.heap
 have ap:=N.I.apart (i:=i) hn
 j9 (N:=N.keeps N.s.toks fun a o e=>Heap.get?_push_of_some _ e) (o':=some N.s.heap.objs.size) F.X hk hs
  (fun h' hk'=>.ml (hk' _ _ (fun p hp e=>ap.2.1 p (List.mem_of_getElem? hp) e.symm) (Heap.get?_push_size _ rfl)) hxs) (fun a e=>Option.some.inj e▸ap) hT fun M l b=>q M l
theorem fG (H:eK g c k es ds) (hk:c.kind x=some .local∨c.kind x=some .cell) (hs:c.slot x=some i):cO g c k (.Assign [.Name x p1] (.List es p2) pos) (dnewl i ds) :=
 fun F N Q b b h q=>wpAny_Assign_Name (List_ (H F N (ub h) fun a=>wpAny_newObj_type (iD F hk hs a.rel ((ui a.q).2:Q .nxt _) fun M l hT=>q ⟨.nxt,.next,M,a.le.P.trans l,rfl,hT⟩) (dp a.rel (ui a.q).1))) rfl
theorem mN (ha:ak g c k l da) (hb:ak g c k r db) (hk:c.kind x=some .local∨c.kind x=some .cell) (hs:c.slot x=some i):cO g c k (.Assign [.Name x p1] (.BinOp l .Add r p2) pos) (uq i da db) :=
 fun F N Q K E h q=>wpAny_Assign_Name (wpAny_BinOp (ha F N (ub h) fun a=>hb F a.N (ub a.q) fun b=>(uv b.q).elim fun u h=>(uv h.2).elim fun w h' =>
  d7 (C:=fun x=>wpAny _ _ (binaryOp .Add x b.x) _ E b.N.s) h.1 (a.rel.up b.le.P) fun l1 xs hl hxs=>d7 (C:=fun y=>wpAny _ _ (binaryOp .Add _ y) _ E b.N.s) h'.1 b.rel fun l2 ys hl2 hys =>
   iP (hl.isList b.N.I.pin) (hl2.isList b.N.I.pin) (b0 (hxs.length.symm▸hys.length.symm▸(ui h'.2).1)) (iD F hk hs (hxs.append hys) ((ui h'.2).2:Q .nxt _) fun M l hT=>q ⟨.nxt,.next,M,(a.le.P.trans b.le.P).trans l,rfl,hT⟩))) rfl
theorem Now.notSys (N:Now Z) (B:ec g Z.A) {a:Addr} (h:N.s.heap.get? a=none):a≠sysModules:=fun e=>B.sys.elim fun o q=>aL ((e▸h).symm.trans (N.I.pin _ _ (N.I.le.m _ _ q)))
theorem yS (hk:c.kind x=some .local∨c.kind x=some .cell) (hs:c.slot x=some i):cO g c k (.Assign [.Name x p1] (.Dict [] [] p2) pos) (dnewd i) :=
 fun F N Q b b h q=>wpAny_Assign_Name (show wpAny _ _ (standAt p2>>=fun b=>dictDisplay []) _ _ _ from wpAny_bind (wpAny_standAt (show wpAny _ _ newDict _ _ _ from
  have hn:=bo N.s.heap
  have ap:=N.I.apart (i:=i) hn
  wpAny_newObj_type (j9 (N:=N.keeps N.s.toks fun a o e=>Heap.get?_push_of_some _ e) (o':=some N.s.heap.objs.size) F.X hk hs
   (fun h' hk'=>.md (hk' _ _ (fun p hp e=>ap.2.1 p (List.mem_of_getElem? hp) e.symm) (Heap.get?_push_size _ rfl)) (show VRelD _ [] [] from rfl) (N.notSys F.B hn)) (fun a e=>Option.some.inj e▸ap) (u2 h:Q .nxt _) fun M l b hT=>q ⟨.nxt,.next,M,l,rfl,hT⟩) (Nat.zero_le _)))) rfl
theorem pA (H:ak g c k e d) (hk:c.kind x=some .local) (hs:c.slot x=some i):cO g c k (.AugAssign (.Name x p1) .Add e pos) (daug i d) :=
 fun F N Q K E h q=>(uv h).elim fun a h=>aF h.1 fun v e1 e2=>N.I.slotOf (eL e1) fun p o y h1 h2 h3 h4=>(Option.some.inj ((F.X.loc x i hk hs).symm.trans h1)▸h3:Holds N.s.heap (.ns _ x) y).elim fun m hm =>
  wpAny_AugAssign_Name (wpAny_loadName_local F.X.fn ((F.X.kind x).trans hk) hm.1 hm.2 (dD (C:=fun y=>wpAny _ _ (eval e _) (fun v s₂=>wpAny _ _ (inplaceOp .Add y v) _ E s₂) E N.s) e2 (h4.relF (uL e2▸rfl)) fun t=>H F N (ub h.2) fun z=>(um z.q).elim fun b hb =>
   dD (C:=fun z'=>wpAny _ _ (inplaceOp .Add (.int a t) z') _ E z.N.s) hb.1 z.rel fun u=>PySem.P.iadd_int (fw (N:=z.N.tick) F.X (.inl hk) hs (cq _ _) (hb.2:Q .nxt _) fun M l hT=>q ⟨.nxt,.next,M,z.le.P.trans l.P,rfl,hT⟩)))
theorem bI (ht:bW g c k t dt) (ha:bO g c k a sa) (hb:bO g c k b sb):cO g c k (.If t a b pos) (dif dt sa sb) :=
 fun F N d K E h q=>wpAny_If (ht F N (ub h) fun z=>mt (C:=fun b'=>if b' then wpAny _ _ _ K E z.N.s else wpAny _ _ _ K E z.N.s) z.q (fun h=>ha F z.N h fun y=>q (y.up z.le.P)) fun h=>hb F z.N h fun y=>q (y.up z.le.P))
theorem bu (H:ak g c k e d):cO g c k (.Return (some e) pos) (dret d) :=
 fun F N b b b h q=>wpAny_Return_some (H F N (ub h) fun a=>q ⟨.ret a.v,.ret a.x,a.N,a.le.P,⟨_,rfl,a.rel⟩,u2 a.q⟩)
theorem y3:cO g c k (.Continue pos) dcont :=
 fun F N a a a h q=>show wpAny _ _ (standAt pos>>=fun a=>pure Flow.cont) _ _ _ from wpAny_bind (wpAny_standAt (wpAny_pure (q ⟨.cont,.cont,N,.refl _,rfl,u2 h⟩)))
theorem dY {st:Stmt}:cO g c k st dfail:=fun F N a a a h q=>un h
end
noncomputable def fh (k:Int):Bool:=decide (-(2 ^ 63)≤k)&&decide (k<2 ^ 63)
theorem eH {k:Int}:fh k=true↔-(2 ^ 63)≤k∧k<2 ^ 63:=by simp [fh]
def asR (v:V):Option (List V):=(asL v).or (asT v)
def o5 (a b:V):Option V:=(asI b).bind fun k=>if fh k then ((asS a).bind fun l=>(seqIndex? k l.length).bind fun j=>l[j]?.map fun c=>V.str [c]).or ((asR a).bind fun l=>(seqIndex? k l.length).bind fun j=>l[j]?) else none
noncomputable def slc {α:Type} (lo hi:Option Int) (l:List α):List α:=(l.drop (kms_lo lo l.length)).take (kms_hi hi l.length - kms_lo lo l.length)
def didx (d e:DE):DE:=fun σ=>(d σ).bind fun q=>(e q.2).bind fun r=>(o5 q.1 r.1).map fun v=>(v,r.2)
def qA (v:V):Option (Option Int):=((asN v).map fun a=>none).or ((asI v).map some)
def slcV (lo hi:Option Int) (v:V):Option V:=((asS v).bind fun l=>if l.length≤LIM then some (.str (slc lo hi l)) else none).or ((asL v).bind fun l=>if l.length≤LIM then some (.lst (slc lo hi l)) else none)
def dslc3 (q:V×St) (a:V×St) (b:V×St):Option (V×St):=(qA a.1).bind fun x=>(qA b.1).bind fun y=>(slcV x y q.1).map fun v=>(v,b.2)
def dslc2 (hi:DE) (q:V×St) (a:V×St):Option (V×St):=(hi a.2).bind (dslc3 q a)
def dslc1 (lo:DE) (hi:DE) (q:V×St):Option (V×St):=(lo q.2).bind (dslc2 hi q)
def dslc (d lo hi:DE):DE:=fun σ=>(d σ).bind (dslc1 lo hi)
def drev1 (q:V×St):Option (V×St):=(asL q.1).bind fun l=>if l.length≤LIM then some (.lst l.reverse,q.2) else none
def drev (d:DE):DE:=fun σ=>(d σ).bind drev1
set_option backward.match.sparseCases false in
noncomputable def asM:V→Option (List V) | .ml l=>some l | _=>none
theorem zY {v:V} {l:List V} (h:asM v=some l):v=.ml l:=by cases v<;>first | exact aL h | exact congrArg _ (Option.some.inj h)
def didxo (i:Nat) (k:Int):DE:=fun σ=>((bU i σ).bind asM).bind fun l=>if fh k then ((seqIndex? k l.length).bind fun j=>l[j]?).map fun v=>(v,σ) else none
theorem str_idx (lo hi:Option Int) (n:Nat):Builtin.Str.strSliceIndices lo hi 1 n=(List.range (kms_hi hi n - kms_lo lo n)).map (kms_lo lo n+·):=by
 have h:=kms_bounds lo hi n
 rw [show Builtin.Str.strSliceIndices lo hi 1 n=sliceRange (sliceBounds lo hi none n).1 (sliceBounds lo hi none n).2.1 1 from by cases lo<;>cases hi<;>rfl,h]
 exact sliceRange_one _ _
theorem slc_le {α:Type} (lo hi:Option Int) (l:List α):(slc lo hi l).length≤l.length:=Nat.le_trans (List.length_take_le' ..) (Nat.le_trans (Nat.le_of_eq List.length_drop) (Nat.sub_le ..))
theorem oz (x:List Nat) (lo hi:Option Int):(Builtin.Str.strSliceIndices lo hi 1 x.length).filterMap ((S x).cps[·]?)=slc lo hi x:=(congrArg (List.filterMap _) (str_idx ..)).trans (pick_run x.toArray _ _)
theorem oA (x:List Nat) (lo hi:Option Int) (h:(Builtin.Str.strSliceIndices lo hi 1 x.length).length=x.length):slc lo hi x=x:=by
 rw [str_idx,List.length_map,List.length_range] at h
 have hb:kms_hi hi x.length≤x.length:=by unfold kms_hi;split<;>first | exact Nat.le_refl _ | (split<;>first | exact Nat.sub_le .. | exact Nat.min_le_right ..)
 unfold slc
 rw [h]
 by_cases h0:x.length=0
 · rw [List.eq_nil_of_length_eq_zero h0];rfl
 · have:kms_lo lo x.length=0:=by omega
   rw [this];exact List.take_length
section
variable {Z:aE} {N:Now Z} {g:Gx} {c:SC} {k i:Nat} {Ar:Around} {E:Value→Shared→Prop} {K:Value→Shared→Prop} {e t:Expr} {d dl dh di:DE} {x:Str} {pos p0 p1 p2:Pos} {s:Shared}
theorem fC {l:Addr} {items:List Value} {k:Int} {t:Tok} {j:Nat} {x:Value} (hl:s.heap.IsList l items.toArray) (hk:fh k=true) (hj:seqIndex? k items.length=some j) (hx:items[j]? = some x) (h:K x s) :
 wpAny (model g.prog g.w) Ar (getItem (.ref l) (.int k t)) K E s:=by
 have hk':=eH.mp hk
 unfold seqIndex? at hj
 by_cases h0:k<0
 · simp only [h0,if_true,Bool.and_eq_true,decide_eq_true_eq] at hj
   exact dK hj fun hc e=>wpAny_getItem_list_neg hl h0 (by show -(items.length:Int)≤k;omega) hk'.1 ((List.getElem?_toArray ..).trans (e▸hx)) h
 · simp only [h0,if_false,Bool.and_eq_true,decide_eq_true_eq] at hj
   exact dK hj fun hc e=>wpAny_getItem_list hl hc.1 hk'.2 ((List.getElem?_toArray ..).trans (e▸hx)) h
theorem asR_q {v:V} {l:List V} {y:Value} {C:Value→Prop} (h:asR v=some l) (hx:ao N.P v y) (q:∀ a xs,N.s.heap.IsList a xs.toArray→VRels N.P l xs→C (.ref a)) (q':∀ a xs,N.s.heap.IsTuple a xs.toArray→VRels N.P l xs→C (.ref a)):C y :=
 orQ h (fun h=>d7 h hx fun a xs hl=>q a xs (hl.isList N.I.pin)) fun h=>ry h hx fun a xs hl=>q' a xs (hl.isTuple N.I.pin)
theorem idx_go {v u:V} {y z:Value} {Q:V→St→Prop} (h:OkV (o5 v u) fun r=>Q r N.σ) (hx:ao N.P v y) (hy:ao N.P u z) {value slice:Expr} (hs:subscripted slice false y z=operate [y,z] (getItem y z)) (q:∀ r:Res N Q,K r.x r.N.s) :
 wpAny (model g.prog g.w) Ar (subscriptTail value slice y z) K E N.s :=
 h.elim fun r h=>aF h.1 fun k e1 e2=>qP e2 fun hk e2=>dD (C:=fun z=>subscripted slice false y z=operate [y,z] (getItem y z)→wpAny _ _ (subscriptTail value slice y z) K E N.s) e1 hy (fun u hs =>
  orQ e2 (fun e2=>aF e2 fun l e e2=>aF e2 fun j hj e2=>dH e2 fun ch hc e3=>cB (C:=fun y=>subscripted slice false y _=operate [y,_] (getItem y _)→wpAny _ _ (subscriptTail value slice y _) K E N.s) e hx (fun t hs =>
   tail_any (typeIs_str _ _ _) PySem.F.slot_str_getitem.lookup (PySem.P.getItem_str (c:=ch) (by have:=eH.mp hk;simp only [Bool.or_eq_false_iff,decide_eq_false_iff_not];omega)
    ((congrArg (Option.bind · _) hj).trans ((List.getElem?_toArray ..).trans hc)) (q ⟨_,_,N.tick,N.tick_le,cV [ch] _,e3▸h.2⟩)) hs) hs)
   fun e2=>aF e2 fun l e e2=>aF e2 fun j hj e2=>asR_q (C:=fun y=>subscripted slice false y _=operate [y,_] (getItem y _)→wpAny _ _ (subscriptTail value slice y _) K E N.s) e hx
    (fun a xs hl hxs hs=>(hxs.get e2).elim fun z hz=>tail_any hl.typeIs slot_list_getitem.lookup (fC hl hk (hxs.length▸hj) hz.1 (q ⟨r,z,N,.refl N,hz.2,h.2⟩)) hs)
    (fun a xs hl hxs hs=>(hxs.get e2).elim fun z hz=>item_tupleT hl (eH.mp hk).1 (eH.mp hk).2 (hxs.length▸hj) hz.1 (q ⟨r,z,N,.refl N,hz.2,h.2⟩) hs) hs) hs
theorem bZ (H:ak g c k e d) (Hi:ak g c k t di) (hs:∀ x y,subscripted t false x y=operate [x,y] (getItem x y)):ak g c k (.Subscript e t pos) (didx d di) :=
 fun F N f f f h q=>Subscript_ (H F N (ub h) fun a=>Hi F a.N (ub a.q) fun b=>idx_go (um b.q) (a.rel.up b.le.P) b.rel (hs _ _) fun z=>q (z.up (a.le.trans b.le)))
noncomputable def pX (g:Gx) (i:Expr) (kk:Int):Prop:=∀ (Ar:Around) (env:Env) (s:Shared) (Q:Value→Shared→Prop) (E:Value→Shared→Prop),(∀ u t,Q (.int kk u) { s with toks:=t })→wpAny (model g.prog g.w) Ar (eval i env) Q E s
theorem sR {i:Int} {kk:Nat}:pX g (.Constant (.int i) kk pos) i:=fun Ar env s Q E q=>wpAny_Constant_int (q _ _)
theorem mX {i:Int} {kk:Nat}:pX g (.UnaryOp .USub (.Constant (.int i) kk p1) pos) (-i):=fun Ar env s Q E q=>UnaryOp_ (wpAny_Constant_int (PySem.P.neg_int (q _ _)))
theorem cb.mlQ {A:Act} {P:Gh} {h:Heap} {o:Option Addr} {v:V} {x:Value} {l:List V} {C:Option Addr→Value→Prop} (H:cb A P h o v x) (e:v=.ml l) (q:∀ a xs n,h.get? a=some { cls:=.type "list",data:=.seq (List.toArray xs) n }→VRels P l xs→C (some a) (.ref a)):C o x:=by
 subst e
 cases H with
 | val r=>exact r.elim
 | ml b c=>exact q _ _ _ b c
theorem yV {kk:Int} (hk:c.kind x=some .local) (hsl:c.slot x=some i) (hd:(x==("__debug__" : Str))=false) (Hi:pX g t kk) (hs:∀ x y,subscripted t false x y=operate [x,y] (getItem x y)):ak g c k (.Subscript (.Name x p1) t pos) (didxo i kk) :=
 fun F N Q K E h q=>(uv h).elim fun l h=>aF h.1 fun v e1 e2=>(um (uib h.2).2).elim fun u h'=>aF h'.1 fun j hj hv=>N.I.slotOf (eL e1) fun p o y h1 h2 h3 h4 =>
  (Option.some.inj ((F.X.loc x i hk hsl).symm.trans h1)▸h3:Holds N.s.heap (.ns _ x) y).elim fun m hm=>Subscript_ (wpAny_Name (wpAny_loadName_local F.X.fn ((F.X.kind x).trans hk) hm.1 hm.2 (Hi _ _ _ _ _ fun w t =>
   h4.mlQ (C:=fun b y=>wpAny _ _ (subscriptTail _ _ y _) K E { N.s with toks:=t }) (zY e2) fun a xs n ha hr=>(hr.get hv).elim fun z hz=>have hl:N.s.heap.IsList a xs.toArray:=⟨_,ha,rfl,n,rfl⟩
    tail_any hl.typeIs slot_list_getitem.lookup (fC hl (uib h.2).1 (hr.length▸hj) hz.1 (q ⟨u,z,N.toks t,N.toks_le,hz.2,h'.2⟩)) (hs _ _))) hd)
def hJ (g:Gx) (c:SC) (k:Nat):Option Expr→DE→Prop
 | none,d=>d=dk .none
 | some e,d=>ak g c k e d
theorem hJ.go {o:Option Expr} (H:hJ g c k o d) (F:Fr g c k Z) {Q:V→St→Prop} (h:Ok2 (d N.σ) Q) (q:∀ r:Res N Q,K r.x r.N.s):wpAny (model g.prog g.w) Z.Ar (valueOrNone (evalOpt o Z.env)) K E N.s :=
 match o,H with
 | none,e=>wpAny_pure (q ⟨.none,.none,N,.refl N,rfl,u2 (Eq.mp (congrArg (fun d=>Ok2 (d N.σ) Q) (show d=dk .none from e)) h)⟩)
 | some e,H=>(show ak g c k e d from H) F N h q
theorem tH {v:V} {x:Value} {T:Option Int→Prop} {C:Prop} (h:OkV (qA v) T) (hx:ao N.P v x) (q:∀ o,IsPart x o→T o→C):C :=
 h.elim fun o h=>orQ h.1 (fun e=>dH e fun a e e'=>l9 (C:=fun x=>(∀ o,IsPart x o→T o→C)→C) (zW e▸hx) (fun q=>q _ .none (e'.symm▸h.2)) q)
  fun e=>dH e fun i e e'=>dD (C:=fun x=>(∀ o,IsPart x o→T o→C)→C) e hx (fun t q=>q _ (.int i t) (e'.symm▸h.2)) q
theorem sliceS {h:Heap} {sl:Addr} {vl vu:Value} {lo hi:Option Int} (H:h.IsSliceOf sl vl vu .none) (hlo:IsPart vl lo) (hhi:IsPart vu hi):∃ l' u':Option (Int×Tok),h.IsSlice sl l' u' none∧l'.map (·.1)=lo∧u'.map (·.1)=hi:=by
 cases hlo with
 | none=>cases hhi with
  | none=>exact ⟨none,none,H,rfl,rfl⟩
  | int j u=>exact ⟨none,some (j,u),H,rfl,rfl⟩
 | int i u=>cases hhi with
  | none=>exact ⟨some (i,u),none,H,rfl,rfl⟩
  | int j u'=>exact ⟨some (i,u),some (j,u'),H,rfl,rfl⟩
theorem slc_go {v:V} {y:Value} {lo hi:Option Int} {sl:Addr} {vl vu:Value} {Q:V→St→Prop} (h:OkV (slcV lo hi v) fun r=>Q r N.σ) (hx:ao N.P v y) (hsl:N.s.heap.IsSliceOf sl vl vu .none) (hlo:IsPart vl lo) (hhi:IsPart vu hi)
 {value slice:Expr} {ops:List Value} (hs:subscripted slice false y (.ref sl)=operate ops (getItem y (.ref sl))) (q:∀ r:Res N Q,K r.x r.N.s):wpAny (model g.prog g.w) Ar (subscriptTail value slice y (.ref sl)) K E N.s:=by
 refine h.elim fun r h=>orQ h.1 (fun e=>aF e fun l e e'=>dK e' fun hl e'=>?_) fun e=>aF e fun l e e'=>dK e' fun hl e'=>?_
 · refine cB (C:=fun y=>subscripted slice false y (.ref sl)=operate ops (getItem y (.ref sl))→wpAny _ _ (subscriptTail value slice y _) K E N.s) e hx (fun t hs=>?_) hs
   refine Classical.byContradiction fun hn_=>?_
   obtain ⟨l',u',hS,rfl,rfl⟩:=sliceS hsl hlo hhi
   refine hn_ ?_;clear hn_
   refine tail_any (typeIs_str _ _ _) PySem.F.slot_str_getitem.lookup (wpAny_getItem_str_slice hS rfl ?_) hs
   have e2:=oz l (l'.map (·.1)) (u'.map (·.1))
   unfold sliceMade slicePicked
   split
   · rename_i hc
     exact q ⟨r,_,N,.refl N,e'▸(oA l _ _ (eq_of_beq hc)).symm▸cV _ _,h.2⟩
   · exact ⟨b0 (Nat.le_trans (Nat.le_of_eq (congrArg List.length e2)) (Nat.le_trans (slc_le ..) hl)),q ⟨r,_,N.tick,N.tick_le,e'▸e2▸cV _ _,h.2⟩⟩
 · refine d7 (C:=fun y=>subscripted slice false y (.ref sl)=operate ops (getItem y (.ref sl))→wpAny _ _ (subscriptTail value slice y _) K E N.s) e hx (fun a xs hla hxs hs=>?_) hs
   refine tail_any (hla.isList N.I.pin).typeIs slot_list_getitem.lookup (wpAny_getItem_list_slice (hla.isList N.I.pin) hsl hlo hhi .none (by simp) ?_ (dp hxs hl)) hs
   rw [kms_pick_eq]
   refine q ⟨r,_,N.new _ rfl _,N.new_le,e'▸eA ⟨_,_,Gh.put_self ..,rfl,rfl⟩ (VRels.up N.new_le.P ?_),h.2⟩
   unfold slc
   rw [← hxs.length]
   exact (hxs.drop _).take _
theorem sz3 {a b c:Value}:sizeOk (.fields #[a,b,c]):=by show 3≤_;rw [sizeLine_eq];decide
theorem cE {lo hi:Option Expr} (H:ak g c k e d) (Hl:hJ g c k lo dl) (Hh:hJ g c k hi dh):ak g c k (.Subscript e (.Slice lo hi none p1) pos) (dslc d dl dh) :=
 fun F N Q K E h q=>Subscript_ (H F N (ub h) fun a=>show wpAny _ _ (do
  let l ← valueOrNone (evalOpt lo _)
  let u ← holding [l] (valueOrNone (evalOpt hi _))
  let s ← holding [l,u] (valueOrNone (evalOpt none _))
  newFields "slice" [l,u,s]) _ _ _ from wpAny_bind (Hl.go F (ub a.q) fun y=>wpAny_bind (wpAny_holding (Hh.go F (ub y.q) fun z=>wpAny_bind (wpAny_holding (wpAny_pure (wpAny_newObj_type
   (tH (N:=z.N) (uv z.q) (y.rel.up z.le.P) fun o1 h1 h=>tH (N:=z.N) (uv h) z.rel fun o2 h2 h =>
    slc_go (N:=z.N.keeps z.N.s.toks fun b b e=>Heap.get?_push_of_some _ e) (um h) (a.rel.up (y.le.P.trans z.le.P)) (Heap.IsSliceOf.new _ _ _ _) h1 h2 rfl fun w=>q (w.up (a.le.trans (y.le.trans (z.le.trans Now.keeps_le))))) sz3)))))))
theorem rev_go {v:V} {y:Value} {sl:Addr} {u:Tok} {Q:V→St→Prop} (h:OkV (asL v) fun l=>l.length≤LIM∧Q (.lst l.reverse) N.σ) (hx:ao N.P v y) (hsl:N.s.heap.IsSliceOf sl .none .none (.int (-1) u)) {value slice:Expr} {ops:List Value}
 (hs:subscripted slice false y (.ref sl)=operate ops (getItem y (.ref sl))) (q:∀ r:Res N Q,K r.x r.N.s):wpAny (model g.prog g.w) Ar (subscriptTail value slice y (.ref sl)) K E N.s :=
 h.elim fun l h=>d7 (C:=fun y=>subscripted slice false y (.ref sl)=operate ops (getItem y (.ref sl))→wpAny _ _ (subscriptTail value slice y _) K E N.s) h.1 hx (fun a xs hla hxs hs =>
  have hl:=hla.isList N.I.pin
  tail_any hl.typeIs slot_list_getitem.lookup (wpAny_getItem_list_slice hl hsl .none .none (.int (-1) u) (by decide)
   ((krv_pick xs.toArray).symm▸q ⟨.lst _,_,N.new _ rfl _,N.new_le,eA ⟨_,_,Gh.put_self ..,rfl,rfl⟩ (hxs.reverse.up N.new_le.P),h.2.2⟩) (dp hxs h.2.1)) hs) hs
theorem den_rev {kk:Nat} (H:ak g c k e d):ak g c k (.Subscript e (.Slice none none (some (.UnaryOp .USub (.Constant (.int 1) kk p0) p1)) p2) pos) (drev d) :=
 fun F N Q K E h q=>Subscript_ (H F N (ub h) fun a=>show wpAny _ _ (do
  let l ← valueOrNone (evalOpt none _)
  let u ← holding [l] (valueOrNone (evalOpt none _))
  let s ← holding [l,u] (eval (.UnaryOp .USub (.Constant (.int 1) kk p0) p1) _)
  newFields "slice" [l,u,s]) _ _ _ from wpAny_bind (wpAny_pure (wpAny_bind (wpAny_holding (wpAny_pure (wpAny_bind (wpAny_holding (mX (g:=g) _ _ _ _ _ fun u t=>wpAny_newObj_type
   (rev_go (N:=a.N.keeps t fun b b e=>Heap.get?_push_of_some _ e) ((uv a.q).imp fun l h=>ui h) a.rel (Heap.IsSliceOf.new _ _ _ _) rfl fun w=>q (w.up (a.le.trans Now.keeps_le))) sz3))))))))
end
noncomputable def xD:NameKind→Bool
 | .local=>true
 | .cell=>true
 | _=>false
noncomputable abbrev aq:=List (Str×NameKind)
def kn (names:aq):aq:=names.filter fun y=>xD y.2
def fR (names:aq) (x:Str):Option Nat:=((kn names).map (·.1)).idxOf? x
def cntIn (names:aq):Nat:=(kn names).length
def scC (names:aq) (cd:Option Value):SC:={ kind:=fun x=>names.lookup x,slot:=fR names,len:=cntIn names,code:=cd }
abbrev scOf (names:aq):SC:=scC names none
def lZ (L:Addr) (cs:List (Str×Addr)) (y:Str×NameKind):bf:=if y.2=.cell then .cell ((cs.lookup y.1).getD 0) else .ns L y.1
def qy (L:Addr) (cs:List (Str×Addr)) (names:aq):List bf:=(kn names).map (lZ L cs)
def fB (f:Str→Option V) (names:aq):List (Option V):=(kn names).map fun y=>f y.1
noncomputable def bv:List (Str×V)→(Str→Option V)→Str→Option V
 | [],f=>f
 | (n,v)::r,f=>bv r (fun y=>if y=n then some v else f y)
section
variable {names:aq} {L:Addr} {cs:List (Str×Addr)} {x y:Str} {k:NameKind} {i:Nat}
theorem ff {names:aq} (hn:(names.map (·.1)).Nodup) (h:(y,k)∈names):names.lookup y=some k:=by
 induction names with
 | nil=>cases h
 | cons p r ih =>
  have hn:=List.nodup_cons.mp hn
  rw [List.lookup_cons]
  rcases List.mem_cons.mp h with e | h
  · rw [← e,beq_self_eq_true]
  · rw [beq_eq_false_iff_ne.mpr fun e=>hn.1 (by subst e;exact List.mem_map.mpr ⟨_,h,rfl⟩)];exact ih hn.2 h
theorem nM (hn:(names.map (·.1)).Nodup) (h:fR names x=some i):∃ k,xD k=true∧names.lookup x=some k∧(kn names)[i]? = some (x,k):=by
 obtain ⟨hi,e,_⟩:=List.findIdx?_eq_some_iff_getElem.mp h
 have hl:i<(kn names).length:=List.length_map (f:=fun x:Str×NameKind=>x.1)▸hi
 rw [List.getElem_map] at e
 have e':=eq_of_beq e
 have hm:=List.mem_filter.mp (List.getElem_mem hl)
 have e2:(kn names)[i]=(x,(kn names)[i].2):=e'▸rfl
 exact ⟨(kn names)[i].2,hm.2,ff hn (e2▸hm.1),(List.getElem?_eq_getElem hl).trans (congrArg some e2)⟩
theorem c8 (hn:(names.map (·.1)).Nodup) (h:fR names x=some i) (hx:names.lookup x=some k):(qy L cs names)[i]? = some (lZ L cs (x,k)):=by
 obtain ⟨k',_,e,h⟩:=nM hn h
 cases hx.symm.trans e
 exact (List.getElem?_map ..).trans (congrArg _ h)
theorem ki {y:Str×NameKind} (h:y∈kn names):y∈names∧xD y.2=true:=List.mem_filter.mp h
theorem l6 (ap:cs.Pairwise fun x y=>x.2≠y.2) (hn:(names.map (·.1)).Nodup) (hc:∀ y,(y,.cell)∈names→∃ a,cs.lookup y=some a):(qy L cs names).Nodup:=by
 refine List.pairwise_map.mpr (((List.pairwise_map.mp hn).sublist List.filter_sublist).imp_of_mem fun {a b} ha hb hne e=>?_)
 unfold lZ at e
 split at e
 · split at e
   · rename_i h1 h2
     obtain ⟨u,hu⟩:=hc a.1 (h1▸(ki ha).1)
     obtain ⟨w,hw⟩:=hc b.1 (h2▸(ki hb).1)
     rw [hu,hw] at e
     exact hne (name_of_addr ap (mem_of_lookup hu) ((bf.cell.inj e:u=w)▸mem_of_lookup hw))
   · cases e
 · split at e
   · cases e
   · exact hne (bf.ns.inj e).2
theorem cz:∀ (names:aq) (n:Nat) (acc:List (Str×Addr)),(∃ a,acc.lookup x=some a)∨(x,.cell)∈names→∃ a,(cellsFrom n names acc).lookup x=some a
 | [],_,_,h=>h.elim id (fun h=>nomatch h)
 | (y,k)::r,n,acc,h=>by
  unfold cellsFrom
  split
  · refine cz r _ _ ?_
    by_cases q:x=y
    · exact .inl ⟨n,by rw [q,List.lookup_cons,beq_self_eq_true]⟩
    · exact h.imp (fun h=>by rw [List.lookup_cons,beq_eq_false_iff_ne.mpr q];exact h) fun h=>(List.mem_cons.mp h).resolve_left fun e=>q (congrArg Prod.fst e)
  · rename_i hk
    exact cz r _ _ (h.imp id fun h=>(List.mem_cons.mp h).resolve_left fun e=>hk (beq_iff_eq.mpr (congrArg Prod.snd e).symm))
end
section
variable {A:Act} {pl pl':List bf} {P P':Gh} {own own':List (Option Addr)} {σ σ':St} {s s' s₁:Shared} {names:aq} {L:Addr} {m cm:Str→Option Value} {cs:List (Str×Addr)} {hp:Addr→Option Obj} {fr:List Addr} {dx:Addr}
theorem hZ {α:Type} (l:List α) (a:Addr) (j:Nat):(l.map fun b=>(none:Option Addr))[j]?≠some (some a):=fun e=>by
 rw [List.getElem?_map] at e
 obtain ⟨_,_,e⟩:=Option.map_eq_some_iff.mp e
 cases e
theorem Inv.begin (I:Inv A pl P own σ s) {loc':List (Option V)} {h₁:Heap} {tk:Nat} (kp:∀ b o,s.heap.get? b=some o→h₁.get? b=some o) (hs:∀ a o,hp a=some o→s.heap.get? a=some o) (ht:∀ x∈P.tb,∀ o,s.heap.get? x.2=some o→hp x.2=some o)
 (hfr:∀ a∈fr,∃ o es ep,hp a=some o∧o.data=.dict es ep∧P.m a=none∧P.wa≠some a∧NT P a)
 (above:∀ p∈pl',s.heap.get? p.addr=none) (nd:pl'.Nodup) (hl:loc'.length=pl'.length) (sl:∀ (i:Nat) p v,pl'[i]? = some p→loc'[i]? = some v→bJ (Act.at s P hp fr dx) P h₁ p none v) :
 Inv (Act.at s P hp fr dx) pl' P (pl'.map fun d=>none) ⟨loc',σ.w⟩ { s with heap:=h₁,toks:=tk } :=
 have hn:∀ a,s.heap.get? a=none→hp a=none:=fun a e=>aG fun o q=>aL (e.symm.trans (hs a o q))
 { le:=.refl P,new:=fun d d e=>.inl e,newW:=fun d e=>.inl e,pin:=fun a o e=>kp _ _ (I.pin a o e),keep:=fun a o e d d d=>kp _ _ (hs a o e),alive:=fun a o e=>⟨o,kp _ _ (hs a o e)⟩,
   waAlive:=fun a e=>⟨(I.waAlive a e).1,(I.waAlive a e).2.imp fun d=>kp _ _⟩,gens:=fun d d e=>e,bg:=I.bg,drawn:=rfl,os:=rfl
   tab:=fun x hx=>have M:=I.tabM hx;have c:=(I.tab x hx).code;⟨c.odd.imp fun o e=>⟨ht x hx o e.1,e.2⟩,M.1,M.2.1,M.2.2,(I.le.ms▸c:fN P P.ms s.heap x).at' (kp _) (kp _)⟩
   frs:=fun a ha=>(hfr a ha).elim fun o e=>e.elim fun es e=>e.elim fun ep e=>⟨e.2.2.1,e.2.2.2.1,e.2.2.2.2,⟨o,o.slots,e.1,kp _ _ (hs a o e.1)⟩,⟨o,es,ep,e.1,e.2.1⟩⟩
   w:=I.w.keeps (.refl P) (fun d d e=>e) fun d d=>kp _,pfree:=fun p hp'=>have f:=I.fresh (above p hp');⟨f.2.1,f.2.2,hn _ (above p hp')⟩,pnd:=nd
   own:=⟨List.length_map _,hl,fun i p o v h1 h2 h3=>by cases o with
    | none=>exact sl i p v h1 h3
    | some a=>exact (hZ pl' a i h2).elim,fun i a h=>(hZ pl' a i h).elim,fun i j a h=>(hZ pl' a i h).elim⟩ }
theorem Holds.slots {h h':Heap} {p:bf} {x:Value} (H:Holds h p x) (k:∀ o,h.get? p.addr=some o→∃ sl,h'.get? p.addr=some { o with slots:=sl }):Holds h' p x :=
 match p,H,k with
 | .ns _ _,⟨m,⟨o,es,ep,e,r⟩,q⟩,k=>(k o e).elim fun a e'=>⟨m,⟨_,es,ep,e',r⟩,q⟩
 | .cell _,⟨o,e,r⟩,k=>(k o e).elim fun a e'=>⟨_,e',r⟩
theorem bn.slots {h h':Heap} {p:bf} (H:bn h p) (k:∀ o,h.get? p.addr=some o→∃ sl,h'.get? p.addr=some { o with slots:=sl }):bn h' p :=
 match p,H,k with
 | .ns _ _,⟨m,o,es,ep,e,r⟩,k=>(k o e).elim fun a e'=>⟨m,_,es,ep,e',r⟩
 | .cell _,⟨o,v,e,r⟩,k=>(k o e).elim fun a e'=>⟨_,v,e',r⟩
theorem Inv.back (I:Inv A pl P own σ s) (J:Inv (Act.at s P hp fr dx) pl' P' own' σ' s') (hc:∀ a o,s.heap.get? a=some o→hp a=some o∨eh A P pl own pl.length a)
 (hfr:∀ a∈fr,(A.hp a=none∨a∈A.fr)∧∀ i:Nat,own[i]?≠some (some a)):Inv A pl P' own { σ with w:=σ'.w } s':=by
 have am:∀ a o o',hp a=some o→P'.m a=some o'→P.m a=some o':=fun a o o' e q=>(J.new a o' q).elim id fun z=>aL (z.symm.trans e)
 have aw:∀ a o,hp a=some o→P'.wa=some a→P.wa=some a:=fun a o e q=>(J.newW a q).elim id fun z=>aL (z.symm.trans e)
 have ah:∀ a o,A.hp a=some o→∀ o',s.heap.get? a=some o'→hp a=some o':=fun a o e o' q=>(hc a o' q).elim id fun y=>aL (y.1.2.2.symm.trans e)
 have fb:∀ a,ce A P a→(∃ o,hp a=some o)→ce A P' a:=fun a F ⟨o,e⟩=>⟨aG fun o' q=>aL (F.1.symm.trans (am a o o' e q)),fun q=>F.2.1 (aw a o e q),F.2.2⟩
 have pc:∀ p∈pl,∀ o,s.heap.get? p.addr=some o→hp p.addr=some o:=fun p hp' o e=>(hc _ o e).resolve_right fun y=>y.2.1 p hp' rfl
 have oc:∀ (i:Nat) a,own[i]? = some (some a)→∀ o,s.heap.get? a=some o→hp a=some o:=fun i a h o e=>(hc a o e).resolve_right fun y=>y.2.2 i (fun z=>Nat.lt_irrefl _ (Nat.lt_of_lt_of_eq (List.getElem?_eq_some_iff.mp h).1 (I.own.len.trans z.symm))) h
 have nt':∀ {a},NT P a→NT P' a:=fun h x hx=>h x (J.le.tb▸hx)
 have ks:∀ a o,s.heap.get? a=some o→hp a=some o→P'.wa≠some a→NT P' a→∃ sl,s'.heap.get? a=some { o with slots:=sl }:=fun a o b q h1 h2 =>
  if hf:a∈fr then (J.frs a hf).at_.elim fun o' e=>e.elim fun sl e=>⟨sl,Option.some.inj (e.1.symm.trans q)▸e.2⟩ else ⟨o.slots,J.keep a o q h1 h2 hf⟩
 exact
  { le:=I.le.trans J.le,pin:=J.pin,waAlive:=J.waAlive,gens:=fun i x e=>J.gens i x (I.gens i x e),bg:=J.bg,drawn:=J.drawn.trans I.drawn,os:=J.os.trans I.os,w:=J.w,pnd:=I.pnd
    new:=fun a o e=>(J.new a o e).elim (I.new a o) fun z=>.inr (aG fun o1 q=>(I.alive a o1 q).elim fun o2 q2=>aL (z.symm.trans (ah a o1 q o2 q2)))
    newW:=fun a e=>(J.newW a e).elim (I.newW a) fun z=>.inr (aG fun o1 q=>(I.alive a o1 q).elim fun o2 q2=>aL (z.symm.trans (ah a o1 q o2 q2)))
    keep:=fun a o e h1 h3 h4=>J.keep a o (ah a o e o (I.keep a o e (fun q=>h1 (J.le.wa a q)) (fun x hx=>h3 x (J.le.tb.symm▸hx)) h4)) h1 h3 fun hf=>(hfr a hf).1.elim (fun z=>aL (z.symm.trans e)) h4
    alive:=fun a o e=>(I.alive a o e).elim fun o' q=>J.alive a o' (ah a o e o' q)
    tab:=fun x hx=>have T:=I.tab x (J.le.tb▸hx);⟨T.hp,T.m0,T.wa0,T.cm,(I.le.ms▸(J.tab x hx).code:fN P' A.P0.ms s'.heap x)⟩
    frs:=fun a ha=>have T:=I.frs a ha;have M:=I.frM ha;⟨T.m0,T.wa0,T.nt,T.at_.imp fun o e=>e.elim fun sl e=>(ks a _ e.2 (ah a o e.1 _ e.2) (fun q=>M.2.1 (aw a _ (ah a o e.1 _ e.2) q)) (nt' M.2.2)).elim fun sl' q=>⟨sl',e.1,q⟩,T.dic⟩
    pfree:=fun p hp'=>fb _ (I.pfree p hp') ((I.place_alive hp').imp fun o=>pc p hp' o)
    own:=⟨I.own.len,I.own.llen,fun i p o v h1 h2 h3 =>
     have hp':=List.mem_of_getElem? h1
     have Fp:=I.pfree p hp'
     have kp:∀ o,s.heap.get? p.addr=some o→∃ sl,s'.heap.get? p.addr=some { o with slots:=sl }:=fun o e=>ks _ o e (pc p hp' o e) (fun q=>Fp.2.1 (aw _ o (pc p hp' o e) q)) (nt' (I.nt Fp.2.2))
     (I.own.slot i p o v h1 h2 h3).map J.le (fun a h q=>(Option.ne_none_iff_exists'.mp h).elim fun o1 e=>(I.alive a o1 e).elim fun o2 e2=>aw a o2 (ah a o1 e o2 e2) q) (fun b e=>e.slots kp) (fun e=>e.slots kp) fun a e o1 e1 =>
      have Fa:=(I.own.free i a (h2.trans (congrArg some e))).1
      have ha:=oc i a (h2.trans (congrArg some e)) o1 e1
      J.keep a o1 ha (fun q=>Fa.2.1 (aw a o1 ha q)) (nt' (I.nt Fa.2.2)) fun hf=>(hfr a hf).2 i (h2.trans (congrArg some e)),
     fun i a h=>⟨fb a (I.own.free i a h).1 ((I.own.alive h).imp fun o q=>oc i a h o q.1),(I.own.free i a h).2⟩,I.own.one⟩ }
end
abbrev Sp:=List V→Wt→Option (V×Wt)
noncomputable def i9 (sp:Sp) (vs:List V) (σ:St):Option (V×St):=(sp vs σ.w).map fun r=>(r.1,{ σ with w:=r.2 })
def zh (sp:Sp) (ds:List DE):DE:=fun σ=>(bY ds σ).bind fun q=>i9 sp q.1 q.2
def Con (g:Gx) (k:Nat) (a:Addr) (sp:Sp):Prop :=
 ∀ {Z:aE} (R:b5 Z.Ar k) (B:ec g Z.A) (N:Now Z) {vs:List V} {xs:List Value} {Q:V→St→Prop} {K:Value→Shared→Prop} {E:Value→Shared→Prop},
  VRels N.P vs xs→Ok2 (i9 sp vs N.σ) Q→(∀ r:Res N Q,K r.x r.N.s)→wpAny (model g.prog g.w) Z.Ar (call (.ref a) xs) K E N.s
theorem b5.deeper {Ar:Around} {k:Nat} (R:b5 Ar (k+1)) (env:Env):b5 (Ar.deeper env) k :=
 ⟨(Nat.add_right_comm Ar.depth 1 k).symm▸R.depth,(by have:=R.units;show Ar.units+3+8 * k+40<_;omega),R.handled⟩
structure FnAt (g:Gx) (a:Addr) (fd:FuncData):Prop where
 at_:∃ o,g.h0.get? a=some o∧o.data=.func fd
def ue:Fl→Option V
 | .ret v=>some v
 | .nxt=>some .none
 | _=>none
def er (names:aq) (params:List Str) (d:DS):Sp:=fun vs w =>
 if vs.length=params.length then (d ⟨fB (bv (params.zip vs) (fun a=>none)) names,w⟩).bind fun r=>(ue r.1).map fun v=>(v,r.2.w) else none
structure vR (b:Bool) (g:Gx) (a:Addr) (fd:FuncData) (names:aq) (params:List Str) (body:List Stmt):Prop where
 at_:FnAt g a fd
 code:g.h0.CodeRec fd.code fd.qualname
 body_:fd.body=.stmts body
 names_:fd.scope.names=names
 clo:fd.closure=[]
 gl:fd.globals=mainGlobals
 bi:fd.builtins=builtinsNs
 co:fd.scope.isCoroutine=false
 gen:fd.scope.isGenerator=b
 kind:fd.scope.kind=.function
 bind:∀ xs:List Value,xs.length=params.length→bindArgs fd ⟨xs,[]⟩=pure (params.zip xs)
 pk:∀ p∈params,names.lookup p=some .local∨names.lookup p=some .cell
 nd:(names.map (·.1)).Nodup
 nofree:∀ x∈names,x.2≠.free
noncomputable abbrev FnOk:=vR false
section
variable {Z:aE} {N:Now Z} {g:Gx} {c:SC} {k:Nat} {K:Value→Shared→Prop} {E:Value→Shared→Prop} {names:aq} {params:List Str} {body:List Stmt} {fd:FuncData} {a:Addr} {cd:Option Value}
theorem bS {h h':Heap} {cd:Value} {q:Str} (x:h.CodeRec cd q) (hk:∀ b o,h.get? b=some o→h'.get? b=some o):h'.CodeRec cd q:=x.imp fun a=>Exists.imp fun a=>Exists.imp fun a=>Exists.imp fun a=>And.imp_right (And.imp_left (hk _ _))
theorem i5 (hcd:∀ v,cd=some v→fd.code=v) {b:Bool} (F:vR b g a fd names params body) (L:Addr):iQ (scC names cd) (callEnvC fd L a) (qy L (cellsFrom (L+1) names []) names) where
 fn:=F.kind
 len:=List.length_map _
 gl:=F.gl
 bi:=F.bi
 code:=hcd
 kind:=fun x=>congrArg (List.lookup x) F.names_
 loc:=fun x i h1 h2=>(c8 F.nd h2 h1).trans rfl
 cel:=fun x i h1 h2=>h1.elim (fun h1=>(cz names (L+1) [] (.inr (mem_of_lookup h1))).elim fun b hb=>⟨b,(congrArg (fun n=>(cellsFrom (L+1) n []).lookup x) F.names_).trans hb,(c8 F.nd h2 h1).trans (by unfold lZ;rw [if_pos rfl,hb];rfl)⟩)
  fun h1=>(F.nofree _ (mem_of_lookup h1) rfl).elim
theorem oh {P:Gh} {kindOf:Str→Option NameKind} {y:Str} (hy:kindOf y=some .local):∀ {params:List Str} {vs:List V} {xs:List Value} {f:Str→Option V} {m:Str→Option Value},VRels P vs xs →
 (∀ v,f y=some v→∃ z,m y=some z∧ao P v z)→∀ v,bv (params.zip vs) f y=some v→∃ z,bindL kindOf (params.zip xs) m y=some z∧ao P v z
 | [],_,_,_,_,_,h=>h
 | _::_,[],_,_,m,hx,h=>fu (C:=fun xs=>∀ v,_=some v→∃ z,bindL kindOf (List.zip _ xs) m y=some z∧ao P v z) hx h
 | p::ps,u::vs,_,f,m,hx,h=>e9 (C:=fun xs=>∀ v,bv (List.zip ps vs) _ y=some v→∃ z,bindL kindOf (List.zip (p::ps) xs) m y=some z∧ao P v z) hx fun z zs hu hr =>
  oh hy (params:=ps) hr fun v hv=>if q:y=p then ⟨z,by rw [if_pos (q▸hy)];exact if_pos q,Option.some.inj ((if_pos q).symm.trans hv)▸hu⟩ else
   (h v ((if_neg q).symm.trans hv)).imp fun w e=>⟨by split<;>first | exact (if_neg q).trans e.1 | exact e.1,e.2⟩
theorem oi {P:Gh} {kindOf:Str→Option NameKind} {y:Str} (hy:kindOf y=some .cell):∀ {params:List Str} {vs:List V} {xs:List Value} {f:Str→Option V} {m:Str→Option Value},VRels P vs xs →
 (∀ v,f y=some v→∃ z,m y=some z∧ao P v z)→∀ v,bv (params.zip vs) f y=some v→∃ z,bindC kindOf (params.zip xs) m y=some z∧ao P v z
 | [],_,_,_,_,_,h=>h
 | _::_,[],_,_,m,hx,h=>fu (C:=fun xs=>∀ v,_=some v→∃ z,bindC kindOf (List.zip _ xs) m y=some z∧ao P v z) hx h
 | p::ps,u::vs,_,f,m,hx,h=>e9 (C:=fun xs=>∀ v,bv (List.zip ps vs) _ y=some v→∃ z,bindC kindOf (List.zip (p::ps) xs) m y=some z∧ao P v z) hx fun z zs hu hr =>
  oi hy (params:=ps) hr fun v hv=>if q:y=p then ⟨z,by rw [if_neg (q▸hy▸fun e=>nomatch e)];exact if_pos q,Option.some.inj ((if_pos q).symm.trans hv)▸hu⟩ else
   (h v ((if_neg q).symm.trans hv)).imp fun w e=>⟨by split<;>first | exact e.1 | exact (if_neg q).trans e.1,e.2⟩
def kU (Z:aE) (s:Shared) (P:Gh) (fr:List Addr) (fd:FuncData) (a:Addr) (names:aq):aE :=
 ⟨Act.at s P (fun b=>s.heap.get? b) fr,callEnvC fd s.heap.objs.size a,qy s.heap.objs.size (cellsFrom (s.heap.objs.size+1) names []) names,Z.Ar.deeper (callEnvC fd s.heap.objs.size a)⟩
theorem f7 {s₁:Shared} {fr:List Addr} {b:Bool} (F:vR b g a fd names params body) {vs:List V} {xs:List Value} (hx:VRels N.P vs xs)
 (hfr:∀ a∈fr,∃ o es ep,N.s.heap.get? a=some o∧o.data=.dict es ep∧N.P.m a=none∧N.P.wa≠some a∧NT N.P a)
 (X:InCallC N.s (callEnvC fd N.s.heap.objs.size a).locals (bindL (callEnvC fd N.s.heap.objs.size a).kindOf (params.zip xs) fun _=>none) (callEnvC fd N.s.heap.objs.size a).cells (bindC (callEnvC fd N.s.heap.objs.size a).kindOf (params.zip xs) fun _=>none) s₁) :
 ∃ M:Now (kU Z N.s N.P fr fd a names),M.σ=⟨fB (bv (params.zip vs) (fun _=>none)) names,N.σ.w⟩∧M.s=s₁∧M.P=N.P:=by
 obtain ⟨h₁,tk,rfl⟩:=X.toInCall.same
 have hcs:(callEnvC fd N.s.heap.objs.size a).cells=cellsFrom (N.s.heap.objs.size+1) names []:=congrArg (fun n=>cellsFrom (N.s.heap.objs.size+1) n []) F.names_
 have hcl:∀ y,(y,.cell)∈names→∃ b,(cellsFrom (N.s.heap.objs.size+1) names []).lookup y=some b∧(callEnvC fd N.s.heap.objs.size a).cells.lookup y=some b:=fun y hy=>(cz names _ [] (.inr hy)).imp fun b hb=>⟨hb,hcs▸hb⟩
 have hkk:∀ {y k},(y,k)∈names→(callEnvC fd N.s.heap.objs.size a).kindOf y=some k:=fun hy=>(congrArg (List.lookup _) F.names_).trans (ff F.nd hy)
 have above:∀ b,N.s.heap.objs.size≤b→N.s.heap.get? b=none:=fun b h=>aG fun o e=>Nat.lt_irrefl _ (Nat.lt_of_lt_of_le (Heap.lt_size e) h)
 refine ⟨⟨_,_,_,_,N.I.begin (tk:=tk) X.toInCall.keep (fun _ _ e=>e) (fun _ _ _ e=>e) hfr (fun p hp=>above _ ?_) (l6 (hcs▸X.apart) F.nd fun y hy=>(hcl y hy).imp fun _=>And.left) ((List.length_map _).trans (List.length_map _).symm) fun i p v h1 h3=>?_⟩,rfl,rfl,rfl⟩
 · obtain ⟨y,hy,rfl⟩:=List.mem_map.mp hp
   unfold lZ
   split
   · rename_i hk
     obtain ⟨b,h1,h2⟩:=hcl y.1 (hk▸(ki hy).1)
     show N.s.heap.objs.size≤(_:Option Addr).getD 0
     rw [h1]
     exact Nat.le_of_lt (X.above _ _ (mem_of_lookup h2))
   · exact Nat.le_refl _
 · obtain ⟨y,hy,rfl⟩:=Option.map_eq_some_iff.mp ((List.getElem?_map ..).symm.trans h1)
   obtain ⟨y',hy',rfl⟩:=Option.map_eq_some_iff.mp ((List.getElem?_map ..).symm.trans h3)
   cases hy.symm.trans hy'
   obtain ⟨y,ky⟩:=y
   have hm:=ki (List.mem_of_getElem? hy)
   cases ky with
   | «local» =>
    show bJ _ _ _ (.ns _ _) _ _
    cases q:bv (params.zip vs) (fun _=>none) y with
    | none=>exact .no ⟨_,X.toInCall.ns⟩
    | some v =>
     obtain ⟨z,hz,hv⟩:=oh (hkk hm.1) hx (fun _ e=>aL e) v q
     exact .yes ⟨_,X.toInCall.ns,hz⟩ (.val hv)
   | cell =>
    obtain ⟨b,h1,h2⟩:=hcl y hm.1
    have hcell:=X.cell y b h2
    show bJ _ _ _ (.cell ((_:Option Addr).getD 0)) _ _
    rw [h1]
    cases q:bv (params.zip vs) (fun _=>none) y with
    | none=>exact .no (hcell.imp fun _ e=>⟨_,e⟩)
    | some v =>
     obtain ⟨z,hz,hv⟩:=oi (hkk hm.1) hx (fun _ e=>aL e) v q
     rw [hz] at hcell;exact .yes hcell (.val hv)
   | free=>cases hm.2
   | globalExplicit=>cases hm.2
   | globalImplicit=>cases hm.2
theorem f8 {b:Bool} (F:vR b g a fd names params body) (xs:List Value) (L:Addr):∀ x∈params.zip xs,fd.scope.names.lookup x.1=some .local∨(fd.scope.names.lookup x.1=some .cell∧((cellsFrom (L+1) fd.scope.names []).lookup x.1).isSome=true):=fun x hm=>by
 rw [F.names_]
 exact (F.pk _ (List.of_mem_zip hm).1).imp id fun q=>⟨q,(cz names (L+1) [] (.inr (mem_of_lookup q))).elim fun b hb=>hb▸rfl⟩
noncomputable def Now.back (N:Now Z) {Z':aE} (M:Now Z') {fr:List Addr} (e:Z'.A=Act.at N.s N.P (fun b=>N.s.heap.get? b) fr) (hfr:∀ a∈fr,(Z.A.hp a=none∨a∈Z.A.fr)∧∀ i:Nat,N.own[i]?≠some (some a)):Now Z :=
 ⟨{ N.σ with w:=M.σ.w },M.P,N.own,M.s,N.I.back (pl':=Z'.pl) (own':=M.own) (σ':=M.σ) (e▸M.I) (fun c c e=>.inl e) hfr⟩
theorem zG (B:ec g Z.A):ec g (Act.at N.s N.P (fun b=>N.s.heap.get? b) []):=⟨fun a o e=>N.I.le.m a o (B.sub a o e),N.I.le.par.trans B.par,N.I.le.tb.trans B.tb,N.I.le.ms.trans B.ms,B.sys.imp fun c=>N.I.le.m _ _⟩
theorem fn_open {d:DS} {vs:List V} {Q:V→St→Prop} (h:Ok2 (i9 (er names params d) vs N.σ) Q):vs.length=params.length∧Ok2 (d ⟨fB (bv (params.zip vs) (fun a=>none)) names,N.σ.w⟩) fun f s=>OkV (ue f) fun v=>Q v { N.σ with w:=s.w } :=
 (uib (um2 h)).imp_right fun h=>(ub h).imp fun a a h=>um h
theorem cy {d:DS} (G:GOk g) (F:FnOk g a fd names params body) (H:bO g (scC names cd) k body d) (hcd:∀ v,cd=some v→fd.code=v:=by intro _ h;cases h):Con g (k+1) a (er names params d):=by
 intro Z R B N vs xs Q K E hx h q
 refine Classical.byContradiction fun hn_=>?_
 obtain ⟨hlen,h⟩:=fn_open h
 obtain ⟨o,h1,h2⟩:=F.at_.at_
 refine hn_ ?_;clear hn_
 refine wpAny_call (codeAny_call_cells (Nat.lt_of_le_of_lt (Nat.le_add_right ..) R.depth) (N.base B h1) h2 (N.noLimit B G) (bS F.code fun b b=>N.base B) F.body_ (F.bind xs (hx.length.trans hlen)) F.clo (f8 F xs _) (fun s₁ X=>?_) F.co F.gen F.kind)
 refine Classical.byContradiction fun hn_=>?_
 obtain ⟨M,e1,rfl,e3⟩:=f7 (Z:=Z) (fr:=[]) F hx (fun b h=>nomatch h) X
 refine hn_ ?_;clear hn_
 refine H (Z:=kU Z N.s N.P [] fd a names) ⟨i5 hcd F _,R.deeper _,zG B,fun b b h=>nomatch h⟩ M (e1▸h) fun r=>?_
 have fin:∀ v y,ao r.N.P v y→Q v { N.σ with w:=r.N.σ.w }→K y r.N.s:=fun v y hv hq=>q ⟨v,y,N.back r.N rfl (fun b h=>nomatch h),⟨r.N.I.le,fun b b e=>e⟩,hv,hq⟩
 exact r.elim (C:=fun f=>K (match f with | .ret v=>v | _=>.none) r.N.s) (fun h=>h.elim fun v h=>fin v _ (Option.some.inj h.1▸rfl) h.2) (fun h=>h.elim fun v h=>nomatch h.1) (fun h=>h.elim fun v h=>nomatch h.1) fun v y hy h=>h.elim fun v' h=>fin v' y (Option.some.inj h.1▸hy) h.2
theorem q5 {Z:aE} {M:Model} {f:Value} {args:List Expr} {pos:Pos} {s:Shared} {T:Args→Shared→Prop} (hn:∀ env,∃ e r,backTo pos (starEach args env)=(false,e)::r) (h:wpAny M Z.Ar (spliced (backTo pos (starEach args Z.env))) (fun vs s'=>T ⟨vs,[]⟩ s') E s) :
 wpAny M Z.Ar (evalArgs f true (backTo pos (starEach args Z.env)) []) T E s:=(hn Z.env).elim fun a e=>e.elim fun a hb=>by rw [hb] at h ⊢;exact Calls.evalArgs_plain h
theorem aW {f:Expr} {args:List Expr} {pos:Pos} {sp:Sp} {ds:List DE} (Hf:ak g c k f (dk (.adr a))) (F:FnAt g a fd) (H:Con g k a sp) (Ha:eK g c k args ds) (hn:∀ env,∃ e r,backTo pos (starEach args env)=(false,e)::r)
 (he:∀ env,eval (.Call f args [] pos) env=(do callWith pos (← eval f env) [] (backTo pos (starEach args env)) (backToKw pos (keywordEach [] env)))):ak g c k (.Call f args [] pos) (zh sp ds) :=
 fun {Z} F' N Q K E h q=>PyProof.Rows.Call_ (Hf F' N (Q:=fun v s=>v=.adr a∧Ok2 (zh sp ds s) Q) (ok2 ⟨rfl,h⟩) fun y=>F.at_.elim fun ob ho=>oj (C:=fun y'=>wpAny _ _ (callWith pos y' [] _ _) K E y.N.s) (y.q.1▸y.rel) (Calls.callWith_function (o:=ob) (fd:=fd)
  (q5 hn (Ha F' y.N (ub y.q.2) fun z=>⟨⟨z.N.base F'.B ho.1,ho.2⟩,H F'.R F'.B z.N z.rel z.q fun r=>q (r.up (y.le.trans z.le))⟩)))) (he _)
end
def dapp (i:Nat) (d:DE):DS:=fun σ=>((bU i σ).bind asM).bind fun a=>(d σ).bind fun q=>((bU i q.2).bind asM).bind fun l=>if l.length≤LIM then some (.nxt,q.2.set i (.ml (l++[q.1]))) else none
def dget (b:Bool) (d:DE):DE:=fun σ=>(d σ).bind fun q=>(asW q.1).bind fun a=>q.2.w.map fun w=>(if b then .int w.2 else .lst (w.1.map .int),q.2)
def yD (d dw:DE):DS:=fun σ=>(d σ).bind fun q=>(dw q.2).bind fun r=>(asI q.1).bind fun i=>(asW r.1).bind fun a=>r.2.w.map fun w=>(.nxt,{ r.2 with w:=some (w.1,i) })
section
variable {Z:aE} {N:Now Z} {g:Gx} {c:SC} {k i:Nat} {Ar:Around} {K:Value→Shared→Prop} {E:Value→Shared→Prop} {e o:Expr} {d dw:DE} {x:Str} {p1 p2 ap pos pos2:Pos} {s:Shared}
theorem Now.mlOf (N:Now Z) {l:List V} {C:Prop} (h:OkV ((bU i N.σ).bind asM) fun u=>u=l) (q:∀ p a xs n,Z.pl[i]? = some p→N.own[i]? = some (some a)→Holds N.s.heap p (.ref a)→N.s.heap.get? a=some { cls:=.type "list",data:=.seq (List.toArray xs) n }→VRels N.P l xs→C):C :=
 h.elim fun u h=>aF h.1 fun v e1 e2=>N.I.slotOf (eL e1) fun p o y h1 h2 h3 h4=>h4.mlQ (C:=fun o y=>N.own[i]? = some o→Holds N.s.heap p y→C) (zY e2) (fun a xs n ha hr h2 h3=>q p a xs n h1 h2 h3 ha (h.2▸hr)) h2 h3
theorem cb.turnML {A:Act} {P:Gh} {h h':Heap} {a:Addr} {v:V} {x:Value} {l l':List V} {ys:List Value} {n:Nat} (H:cb A P h (some a) v x) (e:v=.ml l) (hp:h'.get? a=some { cls:=.type "list",data:=.seq (List.toArray ys) n }) (hr:VRels P l' ys):cb A P h' (some a) (.ml l') x :=
 H.mlQ (C:=fun o y=>o=some a→cb A P h' o (.ml l') y) e (fun b c c c c q=>Option.some.inj q▸.ml hp hr) rfl
theorem tx {l:List V} {v0:V} (h:(bU i N.σ).bind asM=some l) (e:N.σ.loc[i]? = some (some v0)):v0=.ml l:=aF h fun a e1 e2=>(Option.some.inj (Option.some.inj (e.symm.trans (eL e1)))).trans (zY e2)
theorem tz {xs:List Value} {l:List V} {P:Gh} (h:VRels P l xs) (hl:l.length≤LIM):(List.toArray xs).size≤sizeLine:=dp h hl
theorem ip (H:ak g c k e d) (hk:c.kind x=some .local) (hs:c.slot x=some i) (hd:(x==("__debug__" : Str))=false)
 (hbase:∀ env,attributeBase (.Name x p1) "append" env (eval (.Name x p1) env)=eval (.Name x p1) env) (hline:(ap.endLine==pos.line)=true) (ht:∀ env,backTo pos (starEach [e] env)=[(false,eval e env)]) :
 cO g c k (.Expr (.Call (.Attribute (.Name x p1) "append" ap) [e] [] pos) pos2) (dapp i d) :=
 fun F N Q K E h q=>(uv h).elim fun l0 h=>N.mlOf ⟨l0,h.1,rfl⟩ fun p a xs0 n0 h1 h2 h3 h4 h5=>(Option.some.inj ((F.X.loc x i hk hs).symm.trans h1)▸h3:Holds N.s.heap (.ns _ x) (.ref a)).elim fun m hm =>
  wpAny_Expr_any (wpAny_Call_append (hbase _) (by rw [ht];rfl) hline (ht _) (wpAny_Name (wpAny_loadName_local F.X.fn ((F.X.kind x).trans hk) hm.1 hm.2 ⟨a,List.toArray xs0,rfl,⟨_,n0,h4,rfl,rfl,rfl⟩,H F N (ub h.2) fun r=>(uv r.q).elim fun l h' =>
   r.N.mlOf ⟨l,h'.1,rfl⟩ fun p' a' xs n g1 g2 g3 g4 g5=>by
    cases (h2.symm.trans (r.le.sh i a' g2))
    exact wpAny_list_append_plain ⟨n,g4⟩ (fun h'' hp hb=>hp.elim fun n' hp=>q ⟨.nxt,.next,⟨_,_,_,_,r.N.I.turn (t:=r.N.s.toks) g2 (v:=.ml (l++[r.v])) (fun b o nb q=>(hb.2 b nb).trans q) fun v0 x0 hv0 hx0 =>
     hx0.turnML (tx h'.1 hv0) (hp.trans (by rw [List.push_toArray])) (g5.append (bk r.rel bz))⟩,r.le.P,rfl,(ui h'.2).2⟩) (tz g5 (ui h'.2).1)⟩) hd)) (by unfold interactive;rw [F.X.fn];rfl) rfl
theorem qq {k:Int} {n j:Nat} (h:seqIndex? k n=some j):j<n :=
 dK h fun hc e=>e▸(Int.toNat_lt (of_decide_eq_true (Bool.and_eq_true_iff.mp hc).1)).mpr (of_decide_eq_true (Bool.and_eq_true_iff.mp hc).2)
theorem oN {m n j:Nat} (h:seqIndex? (Int.ofNat m) n=some j):m=j :=
 dK h fun a e=>(congrArg Int.toNat (if_neg (Int.not_lt.mpr (Int.natCast_nonneg m)))).symm.trans e
theorem kb {l:Addr} {items:List Value} {kk:Int} {t:Tok} {j n:Nat} {v:Value} {Q:Unit→Shared→Prop} (ho:s.heap.get? l=some { cls:=.type "list",data:=.seq items.toArray n }) (hk:fh kk=true) (hj:seqIndex? kk items.length=some j)
 (hQ:∀ h' n',h'.get? l=some { cls:=.type "list",data:=.seq (items.set j v).toArray n' }→Heap.SameBut l s.heap h'→Q () { s with heap:=h' }) :
 wpAny (model g.prog g.w) Ar (setItem (.ref l) (.int kk t) v) Q E s:=by
 have hk':=eH.mp hk
 have hT:s.TypeIs (.ref l) "list" := ⟨_,ho,rfl⟩
 have hfit:Builtin.List.listFitsIndex kk=true:=hk
 have hjl:=qq hj
 have hx':(List.toArray items)[j]? = some items[j]:=(List.getElem?_toArray ..).trans (List.getElem?_eq_getElem hjl)
 have fin:wpAny (model g.prog g.w) Ar.in1 (setSeqItemAt l j v) (fun b s'=>Q () s') E s:=by
  refine wpAny_setSeqItemAt ho rfl (hQ _ n ?_ (Heap.SameBut.update ..))
  have e:Obj.mapSeq (fun a=>a.setIfInBounds j v) ({ cls:=.type "list",data:=.seq items.toArray n }:Obj)={ cls:=.type "list",data:=.seq (items.set j v).toArray n }:=by simp [Obj.mapSeq]
  rw [Heap.get?_update_self _ ho (by rw [e];rfl),e]
 unfold setItem
 try with_reducible refine wpAny_holding ?_
 refine wpAny_bind (wpAny_sequenceKey hT (by decide) ?_)
 refine wpAny_bind (wpAny_callSpecial?_slot (name:=Str.ofString "__setitem__") hT slot_list_setitem
  (wpAny_call_entry slot_list_setitem hT entry_list_setitem ?_ (args_list_setitem _ _ _)))
 show wpAny _ _ (Builtin.List.listSubscript? (.int kk t)>>=_) _ _ s
 refine wpAny_bind (wpAny_listSubscript_int hfit ?_)
 have last:∀ {f:PUnit→Sem PySem.Fin} {R:PySem.Fin→Shared→Prop},(∀ s',Q () s'→wpAny (model g.prog g.w) Ar.in1 (f ⟨⟩) R E s')→wpAny (model g.prog g.w) Ar.in1 (setSeqItemAt l j v>>=f) R E s:=fun h=>wpAny_bind (wpAny_mono fin (fun b s' hq=>h s' hq) fun b b e=>e)
 cases kk with
 | ofNat m =>
  cases oN hj
  show wpAny _ _ ((seqItemAt l j>>=fun r=>pure (r.map (j,·)))>>=_) _ _ s
  refine wpAny_bind (wpAny_bind (wpAny_seqItemAt ho rfl (wpAny_pure ?_)))
  rw [hx']
  exact last fun s' hq=>wpAny_pure ⟨.none,rfl,wpAny_pure hq⟩
 | negSucc m =>
  show wpAny _ _ ((Builtin.List.listItems (.ref l)>>=fun xs=>pure ((seqIndex? (Int.negSucc m) xs.size).bind fun i=>xs[i]?.map (i,·)))>>=_) _ _ s
  refine wpAny_bind (wpAny_bind ?_)
  show wpAny _ _ (seqItems? (.ref l)>>=_) _ _ s
  refine wpAny_bind (wpAny_seqItems ho rfl (wpAny_pure (wpAny_pure ?_)))
  rw [List.size_toArray,hj]
  simp only [Option.bind_some,hx',Option.map_some]
  exact last fun s' hq=>wpAny_pure ⟨.none,rfl,wpAny_pure hq⟩
end
noncomputable def EntsL (par:Params):List (Str×Value)→List DictEntry→Prop
 | [],es=>es=[]
 | (k,y)::r,es=>∃ t es',es=⟨PyData.keyHash par k,.str k t,y⟩::es'∧EntsL par r es'
abbrev iA (par:Params) (es:List DictEntry) (kvs:List (Str×Value)):Prop:=EntsL par kvs es
section
variable {Z:aE} {N:Now Z} {P:Gh} {g:Gx} {c:SC} {k:Nat} {K:Value→Shared→Prop} {E:Value→Shared→Prop} {w:World} {prog:Program} {h:Heap} {e o:Expr} {d dw:DE} {p1 p2 pos:Pos}
noncomputable abbrev sk (prog:Program) (w:World):KeyKind prog w Str:=PySem.strKind prog w
theorem bQ (x:Str) (t:Tok):Value.isStrOf x (.str x t)=true:=beq_self_eq_true x
abbrev Ac (prog:Program) (w:World) (es:List DictEntry):Prop:=∀ e∈es,∃ k,(sk prog w).is k e.key=true∧e.hash=(sk prog w).hash k
theorem iA.pairs:∀ {kvs:List (Str×Value)} {es:List DictEntry},iA w.params es kvs→Pairs (sk prog w) es kvs∧Ac prog w es
 | [],_,h=>(show _=[] from h)▸⟨.nil,fun a h=>nomatch h⟩
 | (k,y)::r,_,h=>h.elim fun t h=>h.elim fun es e=>e.1▸have ih:=iA.pairs e.2;⟨.cons (bQ k t) rfl ih.1,fun e he=>(List.mem_cons.mp he).elim (fun q=>q▸⟨k,bQ k t,rfl⟩) (ih.2 e)⟩
theorem iA.of {es:List DictEntry} {kvs:List (Str×Value)} (h:Pairs (sk prog w) es kvs):Ac prog w es→iA w.params es kvs:=by
 induction h with
 | nil=>exact fun a=>rfl
 | @cons e kv es kvs h1 h2 h3 ih =>
  intro hk
  obtain ⟨k1,h4,h5⟩:=hk _ (.head _)
  obtain ⟨t,ht⟩:=Value.isStrOf_shape h1
  exact ⟨t,es,congrArg (· :: es) (by obtain ⟨hs,key,v⟩:=e;cases Value.isStrOf_inj key k1 kv.1 h4 h1;exact congr (congr (congrArg DictEntry.mk h5) ht) h2),ih fun e he=>hk e (.tail _ he)⟩
theorem jF {d:Addr} {es:List DictEntry} {n:Nat} {kvs:List (Str×Value)} (ho:h.get? d=some (dictOf es n)) (e:iA w.params es kvs) (nd:(kvs.map (·.1)).Nodup):h.DictOf (sk prog w) d kvs :=
 ⟨_,es.toArray,n,ho,⟨rfl,rfl,rfl⟩,rfl,fun x hx=>e.pairs.2 x (List.mem_toArray.mp hx),e.pairs.1,nd⟩
theorem jG {d:Addr} {kvs:List (Str×Value)} {C:Prop} (H:h.DictOf (sk prog w) d kvs) (q:∀ es n,h.get? d=some (dictOf es n)→iA w.params es kvs→C):C:=by
 obtain ⟨⟨cls,dd,data,sl⟩,es,ep,ho,⟨h1,h2,h3⟩,h4,h5,h6,_⟩:=H
 simp only at h1 h2 h3 h4
 subst h1 h2 h3 h4
 exact q es.toList ep ho (iA.of (prog:=prog) h6 fun x hx=>h5 x (Array.mem_toList_iff.mp hx))
theorem VRelD.ents:∀ {r:List (List Nat×V)} {es:List DictEntry},VRelD P r es→∃ ys,VRels P (r.map (·.2)) ys∧iA P.par es ((r.map fun x=>S x.1).zip ys)
 | [],_,h=>⟨[],rfl,h⟩
 | (_,_)::_,_,h=>h.elim fun t h=>h.elim fun y h=>h.elim fun es h=>(VRelD.ents h.2.2).elim fun ys e=>⟨y::ys,bk h.2.1 e.1,t,es,h.1,e.2⟩
theorem iA.vrel:∀ {r:List (List Nat×V)} {es:List DictEntry} {ys:List Value},VRels P (r.map (·.2)) ys→iA P.par es ((r.map fun x=>S x.1).zip ys)→VRelD P r es
 | [],_,_,_,h2=>h2
 | (k,v)::r,es,ys,h1,h2=>e9 (v:=v) (l:=r.map (·.2)) (C:=fun ys=>iA P.par es ((((k,v)::r).map fun x:List Nat×V=>S x.1).zip ys)→VRelD P ((k,v)::r) es) h1 (fun y ys h3 h4 h2=>h2.elim fun t h=>h.elim fun es e=>⟨t,y,es,e.1,h3,iA.vrel (r:=r) (ys:=ys) h4 e.2⟩) h2
noncomputable abbrev kI (r x:Value):List (Str×Value):=[("row",r),("at",x)]
theorem wF:(("row" : Str) = "at")=False:=by simp;decide
theorem qf (r x:Value):valueAt (kI r x) "row" = some r:=by simp [valueAt]
theorem rL (r x:Value):valueAt (kI r x) "at" = some x:=by simp [valueAt,wF]
theorem uY (r x y:Value):stored (kI r x) "at" y=kI r y:=by simp [stored,wF]
theorem WIs.dict {row:List Int} {pos:Int} {C:Prop} (H:WIs P h row pos) (hp:P.par=w.params) (q:∀ a r x,P.wa=some a→P.m a=none→h.DictOf (sk prog w) a (kI r x)→ao P (.lst (row.map .int)) r→ao P (.int pos) x→C):C :=
 WIs.rec (fun h1 h2 h3 h4 h5=>q _ _ _ h1 h2 (jF h3 (hp▸⟨_,_,rfl,_,_,rfl,rfl⟩) (by simp;decide)) h4 h5) H
theorem WIs.of {row:List Int} {pos:Int} {a:Addr} {r x:Value} (hp:P.par=w.params) (h1:P.wa=some a) (h2:P.m a=none) (h3:h.DictOf (sk prog w) a (kI r x)) (h4:ao P (.lst (row.map .int)) r) (h5:ao P (.int pos) x):WIs P h row pos :=
 jG h3 fun es n h6 h7=>h7.elim fun t1 h=>h.elim fun b e=>e.2.elim fun t2 h=>h.elim fun b e'=>.mk h1 h2 (hp▸h6.trans (congrArg (fun l=>some (dictOf l n)) (e.1.trans (congrArg _ (e'.1.trans (congrArg _ (show _=[] from e'.2))))))) h4 h5
theorem Now.wOf (N:Now Z) (B:ec g Z.A) {v:V} {x:Value} {u:Unit} {z:List Int×Int} {C:Value→Prop} (hv:asW v=some u) (hx:ao N.P v x) (hw:N.σ.w=some z) (q:∀ a r y,N.P.wa=some a→N.P.m a=none→N.s.heap.DictOf (sk g.prog g.w) a (kI r y)→ao N.P (.lst (z.1.map .int)) r→ao N.P (.int z.2) y→C (.ref a)):C x :=
 rJ (asW_e hv▸hx) fun a ha=>(show WIs N.P N.s.heap z.1 z.2 from (hw▸N.I.w:WOk N.P N.s.heap (some z))).dict (prog:=g.prog) (N.params B) fun a' r y h1 h2 h3 h4 h5=>(Option.some.inj (h1.symm.trans ha))▸q a' r y h1 h2 h3 h4 h5
theorem ux {kk:Nat} {b:Bool} (H:ak g c k e d):ak g c k (.Subscript e (.Constant (.str (if b then "at" else "row")) kk p1) pos) (dget b d) :=
 fun F N Q K E h q=>Subscript_ (H F N (ub h) fun a=>(uv a.q).elim fun f h=>(um h.2).elim fun z hz=>a.N.wOf F.B (C:=fun x=>wpAny _ _ (eval _ _) (fun y s=>wpAny _ _ (subscriptTail _ _ x y) K E s) E a.N.s) h.1 a.rel hz.1 fun ad r y h1 h2 h3 h4 h5 =>
  Calls.Constant_str (tail_any h3.typeIs slot_dict_getitem.lookup (by
   cases b with
   | true=>exact wpAny_getItem_of (bQ "at" a.N.s.toks) h3.mapOf (rL r y) (q ⟨.int _,y,a.N.toks (a.N.s.toks+1+1),a.le.trans Now.toks_le,h5,hz.2⟩)
   | false=>exact wpAny_getItem_of (bQ "row" a.N.s.toks) h3.mapOf (qf r y) (q ⟨.lst _,r,a.N.toks (a.N.s.toks+1+1),a.le.trans Now.toks_le,h4,hz.2⟩)) rfl))
theorem vw {kk:Nat} (H:ak g c k e d) (Hw:ak g c k o dw) (hs:∀ env,swapsWith e (some (.Subscript o (.Constant (.str "at") kk p1) p2)) pos.line env=pure false):cO g c k (.Assign [.Subscript o (.Constant (.str "at") kk p1) p2] e pos) (yD d dw) :=
 fun F N Q K E h q=>wpAny_Assign_Subscript (H F N (ub h) fun a=>Hw F a.N (ub a.q) fun b=>(uv b.q).elim fun i hi=>(uv hi.2).elim fun f h=>(um h.2).elim fun z hz=>b.N.wOf F.B (C:=fun y=>wpAny _ _ (eval _ _) (fun i s=>wpAny _ _ (setItem y i a.x) (fun f=>K .next) E s) E b.N.s) h.1 b.rel hz.1 fun ad r y h1 h2 h3 h4 h5 =>
  Calls.Constant_str (wpAny_setItem_pairs (hsz:=by rw [sizeLine_eq];simp) (bQ "at" b.N.s.toks) h3 fun h' hd hb=>q ⟨.nxt,.next,⟨_,b.N.P,b.N.own,_,b.N.I.turnW (t:=b.N.s.toks+1+1) (w':=some (z.1,i)) h1 (fun b o nb q=>(hb.2 b nb).trans q) (jG hd fun es n q1 f=>⟨_,q1⟩)
   (WIs.of (prog:=g.prog) (b.N.params F.B) h1 h2 (uY r y a.x▸hd) h4 (uL hi.1▸a.rel.up b.le.P))⟩,a.le.P.trans b.le.P,rfl,hz.2⟩)) (hs _)
end
section
variable {Z:aE} {N:Now Z} {g:Gx} {c:SC} {k:Nat} {a I₀:Addr} {o:Obj}
structure bb (N:Now Z) (a:Addr) (o:Obj):Prop where
 F:ce Z.A N.P a
 pl:∀ p∈Z.pl,p.addr≠a
 own:∀ i:Nat,N.own[i]?≠some (some a)
 at_:N.s.heap.get? a=some o
 ni:∀ c d,o≠instObj c d
noncomputable abbrev cn (N:Now Z) (l:List (Addr×Obj)):Prop:=∀ x∈l,bb N x.1 x.2
noncomputable def Act.hold (A:Act) (l:List (Addr×Obj)):Act:={ A with hp:=fun b=>(A.hp b).or (l.lookup b) }
noncomputable def aE.hold (Z:aE) (l:List (Addr×Obj)):aE:={ Z with A:=Z.A.hold l }
variable {l:List (Addr×Obj)}
theorem r9 {a:Addr} {o:Obj} {l:List (Addr×Obj)} (h:l.lookup a=some o):(a,o)∈l:=by
 induction l with
 | nil=>cases h
 | cons p r ih =>
  rw [List.lookup_cons] at h
  split at h
  · rename_i e;exact List.mem_cons.mpr (.inl (Prod.ext (eq_of_beq e) (Option.some.inj h).symm))
  · exact List.mem_cons_of_mem _ (ih h)
theorem qR {A:Act} (h:l.lookup a=none):(A.hold l).hp a=A.hp a:=by show (A.hp a).or (l.lookup a)=_;rw [h];exact Option.or_none
theorem o6 {A:Act} {C:Prop} (h:(A.hold l).hp a=some o) (q1:(a,o)∈l→C) (q2:A.hp a=some o→C):C :=
 (Option.or_eq_some_iff.mp h).elim q2 fun h=>q1 (r9 h.2)
theorem cn.no (H:cn N l) (h:∀ o,bb N a o→False):l.lookup a=none:=aG fun o e=>h o (H _ (r9 e))
theorem cn.hpE (H:cn N l) {b:Addr} {o:Obj} (e:Z.A.hp b=some o):(Z.A.hold l).hp b=some o:=(qR (H.no fun a S=>aL (S.F.2.2.symm.trans e))).trans e
theorem tZ {A:Act} {b:Addr} {o:Obj} (e:A.hp b=some o):(A.hold l).hp b=some o:=by show (A.hp b).or _=_;rw [e];rfl
theorem cn.hpN (H:cn N l) {b:Addr} (e:Z.A.hp b=none) (h:∀ o,bb N b o→False):(Z.A.hold l).hp b=none:=(qR (H.no h)).trans e
theorem cn.free (H:cn N l) {b:Addr} (F:ce Z.A N.P b) (h:∀ o,bb N b o→False):ce (Z.A.hold l) N.P b:=⟨F.1,F.2.1,H.hpN F.2.2 h⟩
theorem cb.act {A A':Act} {P:Gh} {h:Heap} {ow:Option Addr} {v:V} {x:Value} (H:cb A P h ow v x) (k:∀ a c d,A.hp a=some (instObj c d)→A'.hp a=some (instObj c d)) (q:A'.dx=A.dx):cb A' P h ow v x:=H.rec .val .ml .md fun e0 e=>.mi (q.trans e0) (k _ _ _ e)
theorem bJ.act {A A':Act} {P:Gh} {h:Heap} {p:bf} {ow:Option Addr} {v:Option V} (H:bJ A P h p ow v) (k:∀ a c d,A.hp a=some (instObj c d)→A'.hp a=some (instObj c d)) (q:A'.dx=A.dx):bJ A' P h p ow v:=H.rec .no fun e r=>.yes e (r.act k q)
theorem j2.act {A A':Act} {P:Gh} {h:Heap} {x:Addr×Addr} (T:j2 A P h x) (k:∀ o,A.hp x.2=some o→A'.hp x.2=some o) (e:A'.P0=A.P0):j2 A' P h x:=⟨T.hp.imp fun a=>And.imp_left (k _),e▸T.m0,e▸T.wa0,e▸T.cm,e▸T.code⟩
theorem vQ.act {A A':Act} {h:Heap} (T:vQ A h a) (k:∀ o,A.hp a=some o→A'.hp a=some o) (e:A'.P0=A.P0):vQ A' h a:=⟨e▸T.m0,e▸T.wa0,e▸T.nt,T.at_.imp fun b=>Exists.imp fun b=>And.imp_left (k _),T.dic.imp fun b=>Exists.imp fun b=>Exists.imp fun b=>And.imp_left (k _)⟩
def Now.hold (N:Now Z) (H:cn N l):Now (Z.hold l) :=
 { N with I:={ N.I with
    new:=fun a o e=>(N.I.new a o e).imp id fun q=>H.hpN q fun b S=>aL (S.F.1.symm.trans e),newW:=fun a e=>(N.I.newW a e).imp id fun q=>H.hpN q fun b S=>S.F.2.1 e
    keep:=fun a o e h1 h3 h4=>o6 e (fun hm=>(H _ hm).at_) fun e=>N.I.keep a o e h1 h3 h4,alive:=fun a o e=>o6 e (fun hm=>⟨o,(H _ hm).at_⟩) fun e=>N.I.alive a o e
    tab:=fun x hx=>(N.I.tab x hx).act (fun b=>H.hpE) rfl,frs:=fun a ha=>(N.I.frs a ha).act (fun b=>H.hpE) rfl
    pfree:=fun p hp=>H.free (N.I.pfree p hp) fun b S=>S.pl p hp rfl
    own:=⟨N.I.own.len,N.I.own.llen,fun i p o v h1 h2 h3=>(N.I.own.slot i p o v h1 h2 h3).act (fun b b b=>H.hpE) rfl,fun i a e=>⟨H.free (N.I.own.free i a e).1 fun b S=>S.own i e,(N.I.own.free i a e).2⟩,N.I.own.one⟩ } }
theorem Fr.hold (F:Fr g c k Z):Fr g c k (Z.hold l):=⟨F.X,F.R,⟨F.B.sub,F.B.par,F.B.tb,F.B.ms,F.B.sys⟩,fun x u h=>(F.fx x u h).rec fun h1 h2 h3 h4 h5 h6=>.mk h1 (tZ h2) h3 h4 h5 h6⟩
theorem tY (h:(a,o)∈l):∃ o',l.lookup a=some o':=by
 induction l with
 | nil=>cases h
 | cons p r ih =>
  rw [List.lookup_cons]
  cases e:a==p.1 with
  | true=>exact ⟨_,rfl⟩
  | false=>exact ih ((List.mem_cons.mp h).resolve_left fun q=>by rw [← q,beq_self_eq_true] at e;cases e)
structure Let (N:Now Z) (l:List (Addr×Obj)) (M:Now (Z.hold l)) (M':Now Z):Prop where
 σ:M'.σ=M.σ
 P:M'.P=M.P
 own:M'.own=M.own
 s:M'.s=M.s
 H:cn M' l
theorem Now.unhold (H:cn N l) (M:Now (Z.hold l)) (le:N.P.le M.P):∃ M':Now Z,Let N l M M':=by
 have hs:∀ {a o},(a,o)∈l→(Z.A.hold l).hp a=some o:=fun {a o} hm=>(tY hm).elim fun o' e=>(by show (Z.A.hp a).or (l.lookup a)=_;rw [e,(H _ hm).F.2.2];exact (H _ (r9 e)).at_.symm.trans (H _ hm).at_)
 have nm:∀ {a o},(a,o)∈l→M.P.m a=none:=fun hm=>aG fun o' q=>(M.I.new _ _ q).elim (fun z=>aL ((H _ hm).F.1.symm.trans (N.I.le.m _ _ z))) fun z=>aL (z.symm.trans (hs hm))
 have nw:∀ {a o},(a,o)∈l→M.P.wa≠some a:=fun hm q=>(M.I.newW _ q).elim (fun z=>(H _ hm).F.2.1 (N.I.le.wa _ z)) fun z=>aL (z.symm.trans (hs hm))
 have out:∀ {a},(Z.A.hold l).hp a=none→l.lookup a=none∧Z.A.hp a=none:=fun {a} h=>(Option.or_eq_none_iff.mp h).symm
 have dn:∀ {a o},Z.A.hp a=some o→(Z.A.hold l).hp a=some o:=H.hpE
 have up:∀ {a o},(Z.A.hold l).hp a=some o→(∀ o,(a,o)∉l)→Z.A.hp a=some o:=fun e h=>o6 e (fun hm=>(h _ hm).elim) fun e=>e
 have tb:M.P.tb=N.P.tb:=M.I.le.tb.trans N.I.le.tb.symm
 have I:Inv Z.A Z.pl M.P M.own M.σ M.s:={ M.I with
  new:=fun a o e=>(M.I.new a o e).imp id fun q=>(out q).2,newW:=fun a e=>(M.I.newW a e).imp id fun q=>(out q).2
  keep:=fun a o e h1 h3 h4=>M.I.keep a o (dn e) h1 h3 h4,alive:=fun a o e=>M.I.alive a o (dn e)
  tab:=fun x hx=>(M.I.tab x hx).act (fun o e=>up e fun o' hm=>N.I.nt (H _ hm).F.2.2 x (tb▸hx) rfl) rfl
  frs:=fun a ha=>(M.I.frs a ha).act (fun o e=>up e fun o' hm=>N.I.notFr (H _ hm).F.2.2 ha) rfl
  pfree:=fun p hp=>⟨(M.I.pfree p hp).1,(M.I.pfree p hp).2.1,(out (M.I.pfree p hp).2.2).2⟩
  own:=⟨M.I.own.len,M.I.own.llen,fun i p o v h1 h2 h3=>(M.I.own.slot i p o v h1 h2 h3).act (fun a c d e=>o6 e (fun hm=>((H _ hm).ni c d rfl).elim) fun e=>e) rfl,fun i a e=>⟨⟨(M.I.own.free i a e).1.1,(M.I.own.free i a e).1.2.1,(out (M.I.own.free i a e).1.2.2).2⟩,(M.I.own.free i a e).2⟩,M.I.own.one⟩ }
 exact ⟨⟨_,_,_,_,I⟩,rfl,rfl,rfl,rfl,fun x hx=>have S:=H x hx;⟨⟨nm hx,nw hx,S.F.2.2⟩,S.pl,fun i h=>aL ((M.I.own.free i _ h).1.2.2.symm.trans (hs hx)),M.I.keep _ _ (hs hx) (nw hx) (fun y hy=>N.I.nt S.F.2.2 y (tb▸hy)) (N.I.notFr S.F.2.2),S.ni⟩⟩
section
variable (H:cn N l) {e:Expr} {E:Value→Shared→Prop}
theorem Res.let {Q:V→St→Prop} (r:Res (N.hold H) Q) {C:Value→Shared→Prop} (q:∀ r:Res N Q,cn r.N l→C r.x r.N.s):C r.x r.N.s :=
 (Now.unhold H r.N r.le.P).elim fun M L=>L.s▸q ⟨r.v,r.x,M,⟨L.P▸r.le.P,L.own▸r.le.sh⟩,L.P▸r.rel,L.σ▸r.q⟩ L.H
theorem li.let {Q:Bool→St→Prop} (r:li (N.hold H) Q) {C:Bool→Shared→Prop} (q:∀ r:li N Q,cn r.N l→C r.b r.N.s):C r.b r.N.s :=
 (Now.unhold H r.N r.le.P).elim fun M L=>L.s▸q ⟨r.b,M,⟨L.P▸r.le.P,L.own▸r.le.sh⟩,L.σ▸r.q⟩ L.H
theorem vO.let {Q:List V→St→Prop} (r:vO (N.hold H) Q) {C:List Value→Shared→Prop} (q:∀ r:vO N Q,cn r.N l→C r.x r.N.s):C r.x r.N.s :=
 (Now.unhold H r.N r.le.P).elim fun M L=>L.s▸q ⟨r.v,r.x,M,⟨L.P▸r.le.P,L.own▸r.le.sh⟩,L.P▸r.rel,L.σ▸r.q⟩ L.H
theorem fq.let {Q:Fl→St→Prop} (r:fq (N.hold H) Q) {C:Flow→Shared→Prop} (q:∀ r:fq N Q,cn r.N l→C r.x r.N.s):C r.x r.N.s :=
 (Now.unhold H r.N r.le).elim fun M L=>L.s▸q ⟨r.f,r.x,M,L.P▸r.le,L.P▸r.rel,L.σ▸r.q⟩ L.H
include H in
theorem gw.hold {asg:DG} (D:gw g c k e asg) (F:Fr g c k Z) {v:V} {x:Value} {T:St→Prop} {K:Unit→Shared→Prop} (hv:ao N.P v x) (h:OkV (asg v N.σ) T) (q:∀ M:Now Z,N.Le M→T M.σ→cn M l→K () M.s):wpAny (model g.prog g.w) Z.Ar (assign e Z.env x) K E N.s :=
 D.go F.hold (N.hold H) hv h fun M le hT=>(Now.unhold H M le.P).elim fun M' L=>L.s▸q M' ⟨L.P▸le.P,L.own▸le.sh⟩ (L.σ▸hT) L.H
end
def Now.other (N:Now Z) (S:bb N a o) {h':Heap} (t:Nat) (k:∀ b ob,b≠a→N.s.heap.get? b=some ob→h'.get? b=some ob):Now Z :=
 { N with s:={ N.s with heap:=h',toks:=t },I:=N.I.stepF (loc':=N.σ.loc) S.F k (N.I.own.keeps (.refl _) (fun c c e=>e) (fun p hp ob=>k _ ob (S.pl p hp)) (fun i b e ob=>k b ob fun q=>S.own i (q▸e)) fun i b e=>(N.I.own.free i b e).1) }
theorem bb.to {b:Addr} {ob ob':Obj} (T:bb N b ob) {S:bb N a o} {h':Heap} {t:Nat} {k:∀ b ob,b≠a→N.s.heap.get? b=some ob→h'.get? b=some ob} (e:h'.get? b=some ob') (ni:∀ c d,ob'≠instObj c d):bb (N.other S t k) b ob':=⟨T.F,T.pl,T.own,e,ni⟩
theorem bb.new (N:Now Z) {o:Obj} {t:Nat} (hf:o.isFreed=false) (ni:∀ c d,o≠instObj c d):bb (N.keeps (h':=N.s.heap.push o) t fun a a e=>Heap.get?_push_of_some _ e) N.s.heap.objs.size o :=
 have ap:=N.I.apart (i:=Z.pl.length) (bo N.s.heap)
 ⟨ap.1,ap.2.1,fun i h=>ap.2.2 i (fun z=>Nat.lt_irrefl _ (Nat.lt_of_lt_of_eq (List.getElem?_eq_some_iff.mp h).1 (N.I.own.len.trans z.symm))) h,Heap.get?_push_size _ hf,ni⟩
def Now.layS (N:Now Z) (S:bb N a o):Now Z:={ N with P:=N.P.put a o,I:=N.I.lay (loc':=N.σ.loc) S.F S.F.2.2 S.at_ S.pl (N.I.own.keeps (Gh.put_le S.F.1) (fun c c e=>e) (fun c c c e=>e) (fun c c c c e=>e) fun i b e=>(N.I.own.free i b e).1.put fun q=>S.own i (q▸e)) }
theorem Now.layS_le {S:bb N a o}:N.Le (N.layS S):=⟨Gh.put_le S.F.1,fun b b e=>e⟩
end
structure pV (g:Gx) (P:Gh) (I:Addr) (vs:List V) (ax:List Addr) (Pt:Nat→Value→Prop) (St:Nat→Heap→Prop):Prop where
 walk:∀ A':Around,A'.handled=none→Walks g.prog g.w A' I (I::ax) [I] vs.length Pt St
 fp:∀ b∈ax,∃ o,P.m b=some o
 item:∀ i x,Pt i x→∃ v,vs[i]? = some v∧ao P v x
 cls:∀ i h,St i h→nv h I
inductive It (g:Gx) {Z:aE} (N:Now Z) (I:Addr) (vs:List V):Prop
 | mk {all:List V} {ax:List Addr} {Pt:Nat→Value→Prop} {St:Nat→Heap→Prop} {i:Nat} {o:Obj}:pV g N.P I all ax Pt St→bb N I o→St i N.s.heap→i≤all.length→all.drop i=vs→It g N I vs
inductive ItF (g:Gx) {Z:aE} (N:Now Z) (I:Addr) (vs:List V):Prop
 | mk {ax:List Addr} {Pt:Nat→Value→Prop} {St:Nat→Heap→Prop} {o:Obj}:pV g N.P I vs ax Pt St→bb N I o→St 0 N.s.heap→ItF g N I vs
theorem ItF.it {g:Gx} {Z:aE} {N:Now Z} {I:Addr} {vs:List V} (T:ItF g N I vs):It g N I vs:=T.rec fun W S h=>.mk W S h (Nat.zero_le _) rfl
noncomputable abbrev DI:=St→Option (List V×St)
structure vP (g:Gx) {Z:aE} (M:Now Z) (Q:List V→St→Prop) where
 v:List V
 a:Addr
 N:Now Z
 le:M.Le N
 itf:ItF g N a v
 q:Q v N.σ
def kG (g:Gx) (c:SC) (k:Nat) (e:Expr) (d:DI):Prop :=
 ∀ {Z:aE} (F:Fr g c k Z) (N:Now Z) {Q:List V→St→Prop} {K:Value→Shared→Prop} {E:Value→Shared→Prop},Ok2 (d N.σ) Q→(∀ r:vP g N Q,K (.ref r.a) r.N.s) →
  wpAny (model g.prog g.w) Z.Ar (eval e Z.env) (fun x s1=>wpAny (model g.prog g.w) Z.Ar (pyIter x) K E s1) E N.s
section
variable {Z:aE} {N:Now Z} {g:Gx} {c:SC} {k:Nat} {a I₀:Addr} {o:Obj} {Ar:Around} {E:Value→Shared→Prop} {vs:List V}
theorem pV.mono {P P':Gh} {ax:List Addr} {Pt:Nat→Value→Prop} {St':Nat→Heap→Prop} (W:pV g P I₀ vs ax Pt St') (l:P.le P'):pV g P' I₀ vs ax Pt St' :=
 ⟨W.walk,fun b hb=>(W.fp b hb).imp fun a=>l.m _ _,fun i x h=>(W.item i x h).imp fun a=>And.imp_right (ao.up l),W.cls⟩
theorem It.keep (T:It g N I₀ vs):∃ o,bb N I₀ o∧∀ {Z':aE} (M:Now Z'),N.P.le M.P→bb M I₀ o→It g M I₀ vs:=by
 cases T with
 | @mk all ax Pt St i o W S st hi e =>
  refine ⟨o,S,fun {_} M le S'=>.mk (W.mono le) S' ((W.walk { Z.Ar with handled:=none } rfl).frame _ _ _ st fun b hb ob q=>(List.mem_cons.mp hb).elim (fun z=>by cases z;exact S'.at_.trans (S.at_.symm.trans q)) fun hb=>?_) hi e⟩
  exact (W.fp b hb).elim fun q1 hq1=>M.I.pin b _ (le.m _ _ (Option.some.inj ((N.I.pin b q1 hq1).symm.trans q)▸hq1))
theorem It.next (T:It g N I₀ vs) (hA:Ar.handled=none) {Q:Option Value→Shared→Prop} (q1:∀ v r x (M:Now Z),vs=v::r→M.σ=N.σ→N.Le M→ao M.P v x→It g M I₀ r→(∀ b ob,bb N b ob→b≠I₀→bb M b ob)→Q (some x) M.s)
 (q2:∀ M:Now Z,vs=[]→M.σ=N.σ→N.Le M→(∀ b ob,bb N b ob→b≠I₀→bb M b ob)→Q none M.s):wpAny (model g.prog g.w) Ar (pyNext (.ref I₀)) Q E N.s:=by
 cases T with
 | @mk all ax Pt St i o W S st hi e =>
  have Wk:=W.walk Ar hA
  have ks:∀ {h':Heap},(∀ b ob,b∉[I₀]→N.s.heap.get? b=some ob→h'.get? b=some ob)→∀ b ob,b≠I₀→N.s.heap.get? b=some ob→h'.get? b=some ob:=fun k b ob hb=>k b ob fun z=>hb (List.mem_singleton.mp z)
  by_cases hlt:i<all.length
  · refine Wk.item i N.s _ _ hlt st fun v h' tk hpt st' hk=>?_
    obtain ⟨u,hu,hrel⟩:=W.item i v hpt
    obtain ⟨o2,n2,ho2,hc2,hn2⟩:=W.cls _ _ st'
    have ni:∀ c d,o2≠instObj c d:=fun cc dd e=>nomatch (hc2.symm.trans (congrArg Obj.cls e))
    exact q1 u (all.drop (i+1)) v (N.other S tk (ks hk)) (e.symm.trans ((List.getElem?_eq_some_iff.mp hu).2▸List.drop_eq_getElem_cons hlt)) rfl ⟨.refl _,fun a a e=>e⟩ hrel (.mk W (S.to ho2 ni) st' hlt rfl) fun b ob T hb=>T.to (ks hk b ob hb T.at_) T.ni
  · cases Nat.le_antisymm hi (Nat.not_lt.mp hlt)
    exact Wk.done N.s _ _ st fun h' tk hk=>q2 (N.other S tk (ks hk)) (e.symm.trans List.drop_length) rfl ⟨.refl _,fun a a e=>e⟩ fun b ob T hb=>T.to (ks hk b ob hb T.at_) T.ni
theorem It.plain (T:It g N I₀ vs):nv N.s.heap I₀:=by cases T with | mk W S st hi e=>exact W.cls _ _ st
end
noncomputable def cM (asg:DG) (b:DS):List V→DS
 | [],σ=>some (.nxt,σ)
 | v::r,σ=>(asg v σ).bind fun σ1=>(b σ1).bind fun q=>match q.1 with
  | .nxt=>cM asg b r q.2
  | .cont=>cM asg b r q.2
  | .brk=>some (.nxt,q.2)
  | .ret u=>some (.ret u,q.2)
def dfor (di:DI) (asg:DG) (b:DS):DS:=fun σ=>(di σ).bind fun q=>cM asg b q.1 q.2
noncomputable def fj (t:DT) (b:DS):Nat→DS
 | 0,_=>none
 | n+1,σ=>(t σ).bind fun q=>if q.1 then (b q.2).bind fun r=>match r.1 with
  | .nxt=>fj t b n r.2
  | .cont=>fj t b n r.2
  | .brk=>some (.nxt,r.2)
  | .ret u=>some (.ret u,r.2)
  else some (.nxt,q.2)
noncomputable def kl:List Nat→List V→St→Option St
 | [],[],σ=>some σ
 | i::r,v::l,σ=>kl r l (σ.set i v)
 | _,_,_=>none
def sC (is:List Nat):DG:=fun v σ=>(asT v).bind fun l=>kl is l σ
def dasstup (is:List Nat) (ds:List DE):DS:=fun σ=>(bY ds σ).bind fun q=>(kl is q.1 q.2).map fun σ'=>(.nxt,σ')
def dtruo (i:Nat):DT:=fun σ=>((bU i σ).bind asM).bind fun l=>if l.length≤LIM then some (!l.isEmpty,σ) else none
def lu (v:V):Option (List V):=(asR v).or (((asS v).bind fun s=>if s.all (· < 128) then some (s.map fun c=>.str [c]) else none).or ((asY v).map fun b=>b.map fun (c:Nat)=>.int (c:Int)))
def diof (d:DE):DI:=fun σ=>(d σ).bind fun q=>(lu q.1).map fun l=>(l,q.2)
noncomputable def rng (a b:Int):List V:=(List.range (b - a).toNat).map fun (i:Nat)=>.int (a+(i:Int))
def pe (d:DE):DI:=fun σ=>(d σ).bind fun q=>(asI q.1).bind fun n=>if small n then some (rng 0 n,q.2) else none
def drange2 (d e:DE):DI:=fun σ=>(d σ).bind fun q=>(e q.2).bind fun r=>(asI q.1).bind fun a=>(asI r.1).bind fun b=>if small a∧small b then some (rng a b,r.2) else none
noncomputable def rB (I:Shared→Prop) (R:Result→Shared→Prop):Flow→Shared→Prop
 | .next,s=>I s
 | .cont,s=>I s
 | .brk,s=>R (.ok .next) s
 | .ret v,s=>R (.ok (.ret v)) s
section
variable {Z:aE} {N:Now Z} {g:Gx} {c:SC} {k i:Nat} {I₀:Addr} {Ar:Around} {K:Value→Shared→Prop} {E:Value→Shared→Prop} {vs:List V} {t it e e2 f:Expr} {body:List Stmt} {asg:DG} {db:DS} {dt:DT} {d d2:DE} {di:DI} {pos p:Pos} {x:Str}
theorem n3 {o:Obj} (S:bb N I₀ o):cn N [(I₀,o)]:=fun x hx=>by cases List.mem_singleton.mp hx;exact S
theorem fq.turn {L M:Now Z} {f:Fl→St→Option (Fl×St)} {Q:Fl→St→Prop} (r:fq M fun a b=>Ok2 (f a b) Q) (le:L.P.le M.P) {I:Shared→Prop} {R:Result→Shared→Prop} (h1:f .cont=f .nxt) (h2:∀ s,f .brk s=some (.nxt,s)) (h3:∀ v s,f (.ret v) s=some (.ret v,s))
 (q1:Ok2 (f .nxt r.N.σ) Q→I r.N.s) (q2:∀ r:fq L Q,R (.ok r.x) r.N.s):rB I R r.x r.N.s :=
 r.elim (C:=fun fl=>rB I R fl r.N.s) q1 (fun h=>q1 (h1▸h)) (fun h=>q2 ⟨.nxt,.next,r.N,le.trans r.le,rfl,u2 (h2 _▸h)⟩) fun v y hy h=>q2 ⟨.ret v,.ret y,r.N,le.trans r.le,⟨y,rfl,hy⟩,u2 (h3 _ _▸h)⟩
noncomputable def uP (g:Gx) (N:Now Z) (I₀:Addr) (D:List V→St→Prop) (n:Nat) (s:Shared):Prop:=∃ M:Now Z,M.s=s∧N.P.le M.P∧∃ vs,vs.length=n∧It g M I₀ vs∧D vs M.σ
theorem yq (F:Fr g c k Z) (T:It g N I₀ vs) (Ht:gw g c k t asg) (Hb:bO g c k body db) {Q:Fl→St→Prop} {R₀:Result→Shared→Prop} (h:Ok2 (cM asg db vs N.σ) Q) (q:∀ r:fq N Q,R₀ (.ok r.x) r.N.s) :
 codeAny (model g.prog g.w) Z.Ar (.forLoop t (.ref I₀) body [] Z.env) R₀ N.s:=by
 refine codeAny_forLoop_any (uP g N I₀ fun vs σ=>Ok2 (cM asg db vs σ) Q) ?_ vs.length ⟨N,rfl,.refl _,vs,rfl,T,h⟩
 rintro n s ⟨M,rfl,le,vs,rfl,T,h⟩
 refine T.next F.R.handled (fun v r x M1 e eσ l rel T1 a=>?_) fun M1 e eσ l a=>?_
 · subst e
   have h1:=uv (eσ.symm▸h:Ok2 (cM asg db (v::r) M1.σ) Q)
   obtain ⟨o,S,keep⟩:=T1.keep
   refine Ht.noop rel h1 T1.plain (Ht.hold (n3 S) F rel h1 fun M2 l2 h2 H2=>Hb F.hold (M2.hold H2) (ub h2) fun z=>?_)
   have h5:=z.let H2 (C:=rB (fun s=>∃ m,m<r.length+1∧uP g N I₀ (fun vs σ=>Ok2 (cM asg db vs σ) Q) m s) R₀) fun z Hz=>z.turn (le.trans (l.P.trans l2.P)) rfl (fun a=>rfl) (fun a a=>rfl)
    (fun h=>⟨r.length,Nat.lt_succ_self _,z.N,rfl,(le.trans (l.P.trans l2.P)).trans z.le,r,rfl,keep _ (l2.P.trans z.le) (Hz _ List.mem_cons_self),h⟩) q
   revert h5
   generalize z.x=fl
   cases fl<;>exact id
 · subst e
   exact wpAny_execs_nil (q ⟨.nxt,.next,M1,le.trans l.P,rfl,u2 (eσ.symm▸h:Ok2 (cM asg db [] M1.σ) Q)⟩)
theorem cT (Hi:kG g c k it di) (Ht:gw g c k t asg) (Hb:bO g c k body db) (hs:∀ env x,foldedSetIterable it env x=pure x):cO g c k (.For t it body [] pos) (dfor di asg db) :=
 fun F N Q K E h q=>wpAny_For (Hi F N (ub h) fun r=>yq F r.itf.it Ht Hb r.q fun z=>q (z.up r.le.P)) (hs _)
noncomputable def z7 (N:Now Z) (D:Nat→St→Prop) (m:Nat) (s:Shared):Prop:=∃ M:Now Z,M.s=s∧N.P.le M.P∧D m M.σ
theorem fF (n:Nat) (Ht:bW g c k t dt) (Hb:bO g c k body db):cO g c k (.While t body [] pos) (fj dt db n):=by
 intro Z F N Q K E h q
 refine wpAny_While (codeAny_whileLoop (z7 N fun m σ=>Ok2 (fj dt db m σ) Q) ?_ n ⟨N,rfl,.refl _,h⟩)
 rintro m s ⟨M,rfl,le,h⟩
 cases m with
 | zero=>exact un h
 | succ m =>
  refine Ht F M (ub h) fun z=>?_
  have le1:=le.trans z.le.P
  refine mt (C:=fun b=>if b then wpAny _ _ _ _ _ _ else wpAny _ _ _ _ _ _) z.q (fun h=>Hb F z.N (ub h) fun y=>?_) fun h=>wpAny_execs_nil (q ⟨.nxt,.next,z.N,le1,rfl,u2 h⟩)
  have h5:rB (fun s=>∃ j,j<m+1∧z7 N (fun m σ=>Ok2 (fj dt db m σ) Q) j s) (fun r s'=>match r with | .ok f=>K f s' | .error _=>False) y.x y.N.s:=y.turn le1 rfl (fun a=>rfl) (fun a a=>rfl) (fun h=>⟨m,Nat.lt_succ_self _,y.N,rfl,le1.trans y.le,h⟩) q
  revert h5
  generalize y.x=fl
  cases fl<;>exact id
theorem sj {P:Gh} {l:List V} {xs:List Value} (h:VRels P l xs):(!xs.toArray.isEmpty)=!l.isEmpty:=by cases l<;>cases xs<;>first | rfl | cases h.length
theorem yO (hk:c.kind x=some .local) (hs:c.slot x=some i) (hd:(x==("__debug__" : Str))=false):bW g c k (.Name x p) (dtruo i) :=
 fun F N Q K E h q=>(uv h).elim fun l h=>N.mlOf ⟨l,h.1,rfl⟩ fun p' a xs n h1 h2 h3 h4 h5=>(Option.some.inj ((F.X.loc x i hk hs).symm.trans h1)▸h3:Holds N.s.heap (.ns _ x) (.ref a)).elim fun m hm =>
  show wpAny _ _ (do let v ← eval (.Name x p) _;standAt p;holding [v] (truthy v)) _ _ _ from wpAny_bind (wpAny_Name (wpAny_loadName_local F.X.fn ((F.X.kind x).trans hk) hm.1 hm.2 (wpAny_bind (wpAny_standAt (wpAny_holding
   (wpAny_truthy_list (items:=List.toArray xs) ⟨_,h4,rfl,n,rfl⟩ (jw (Nat.le_trans (Nat.le_of_eq h5.length) (ui h.2).1)) (sj h5▸q ⟨_,N.toks _,N.toks_le,(ui h.2).2⟩)))))) hd)
theorem iW {o:Obj} {tk:Nat} {ax:List Addr} {Pt:Nat→Value→Prop} {S':Nat→Heap→Prop} {l:List V} {Q:List V→St→Prop} (hf:o.isFreed=false) (ni:∀ c d,o≠instObj c d) (hq:Q l N.σ) (W:pV g N.P N.s.heap.objs.size l ax Pt S') (h0:S' 0 (N.s.heap.push o))
 (q:∀ r:vP g N Q,K (.ref r.a) r.N.s):K (.ref N.s.heap.objs.size) { N.s with heap:=N.s.heap.push o,toks:=tk } :=
 q ⟨l,_,N.keeps tk fun b b e=>Heap.get?_push_of_some _ e,N.keeps_le,.mk W (bb.new N hf ni) h0,hq⟩
theorem eD {h:Heap} {a:Addr} {o:Obj} {n:String} (e:h.get? a=some o) (hc:o.cls=.type n) (hn:["enumerate","zip","dict_itemiterator","dict_reverseitemiterator","odict_iterator","itertools.zip_longest","itertools.pairwise"].contains n=false):nv h a:=⟨o,n,e,hc,hn⟩
theorem wG {a:Addr} {xs:List Value} {l:List V} (hxs:VRels N.P l xs) {Pt:Nat→Value→Prop} {S':Nat→Heap→Prop} (W:∀ A':Around,A'.handled=none→Walks g.prog g.w A' N.s.heap.objs.size [N.s.heap.objs.size,a] [N.s.heap.objs.size] xs.toArray.size Pt S')
 (hp:∀ i x,Pt i x→xs.toArray[i]? = some x) (hm:∃ o,N.P.m a=some o) (hc:∀ i h,S' i h→nv h N.s.heap.objs.size):pV g N.P N.s.heap.objs.size l [a] Pt S' :=
 ⟨fun A' hA=>(show xs.toArray.size=l.length from hxs.length)▸W A' hA,fun b hb=>by cases List.mem_singleton.mp hb;exact hm,fun i x h=>hxs.getIdx ((List.getElem?_toArray ..).symm.trans (hp i x h)),hc⟩
theorem mF {a:Addr} {o:Obj} (e:N.s.heap.get? a=some o):a≠N.s.heap.objs.size:=Nat.ne_of_lt (Heap.lt_size e)
theorem ls {v:V} {y:Value} {Q:List V→St→Prop} (R:b5 Ar k) (h:OkV (lu v) fun l=>Q l N.σ) (hx:ao N.P v y) (q:∀ r:vP g N Q,K (.ref r.a) r.N.s):wpAny (model g.prog g.w) Ar (pyIter y) K E N.s:=by
 refine h.elim fun l h=>orQ h.1 (fun e=>orQ e (fun e=>d7 (C:=fun y=>wpAny _ _ (pyIter y) K E N.s) e hx fun a xs hl hxs=>?_) fun e=>ry (C:=fun y=>wpAny _ _ (pyIter y) K E N.s) e hx fun a xs hl hxs=>?_)
  fun e=>orQ e (fun e=>aF e fun s e1 e2=>dK e2 fun hs e2=>cB (C:=fun y=>wpAny _ _ (pyIter y) K E N.s) e1 hx fun t=>?_) fun e=>dH e fun b e1 e2=>zU (C:=fun y=>wpAny _ _ (pyIter y) K E N.s) e1 hx fun t hb=>?_
 · have hL:=hl.isList N.I.pin
   exact wpAny_pyIter_list hL (iW rfl (fun d d e=>nomatch e) h.2 (wG hxs (fun A' hA=>Walks.list hA _ a (hL.elim fun d e=>mF e.1) xs.toArray) (fun d d e=>e) (hl.imp fun d e=>e.elim fun d e=>e.1) fun i h hst=>hst.1.elim fun o e=>eD e.1 e.2.1 (by decide +kernel)) ⟨⟨_,Heap.get?_push_size _ rfl,rfl,rfl⟩,hL.push _⟩ q)
 · have hL:=hl.isTuple N.I.pin
   exact wpAny_pyIter_tuple hL (iW rfl (fun d d e=>nomatch e) h.2 (wG hxs (fun A' hA=>Walks.tuple hA _ a (hL.elim fun d e=>mF e.1) xs.toArray) (fun d d e=>e) (hl.imp fun d e=>e.elim fun d e=>e.1) fun i h hst=>hst.1.elim fun o e=>eD e.1 e.2.1 (by decide +kernel)) ⟨⟨_,Heap.get?_push_size _ rfl,rfl,rfl⟩,hL.at fun o e=>Heap.get?_push_of_some _ e⟩ q)
 · subst e2
   refine wpAny_pyIter_ascii (by simpa [S] using hs) (iW (ax:=[]) (Pt:=SignAt (S s)) (S':=fun i h=>h.IsStrIter N.s.heap.objs.size "str_ascii_iterator" (S s) t i) rfl (fun d d e=>nomatch e) h.2 ⟨fun A' hA=>?_,fun b hb=>(nomatch hb),fun i x h=>?_,fun i h hst=>hst.elim fun o e=>eD e.1 e.2.1 (by decide +kernel)⟩ ⟨_,Heap.get?_push_size _ rfl,rfl,rfl⟩ q)
   · exact (show (S s).cps.size=(s.map fun c=>V.str [c]).length from (List.length_map ..).symm)▸Walks.strAscii (prog:=g.prog) (w:=g.w) hA N.s.heap.objs.size (S s) t
   · obtain ⟨ch,u,h1,rfl⟩:=h
     exact ⟨.str [ch],by rw [List.getElem?_map,show s[i]? = some ch from (List.getElem?_toArray ..).symm.trans h1];rfl,cV [ch] u⟩
 · subst e2
   refine KBw.pyIter_bytes (iW (ax:=[]) (Pt:=fun i v=>∃ c u,(b.map UInt8.ofNat).toArray[i]? = some c∧v=.int (c.toNat:Int) u) (S':=fun i h=>KBw.IsBytesIter h N.s.heap.objs.size (b.map UInt8.ofNat).toArray t i) rfl (fun d d e=>nomatch e) h.2 ⟨fun A' hA=>?_,fun b hb=>(nomatch hb),fun i x h=>?_,fun i h hst=>hst.elim fun o e=>eD e.1 e.2.1 (by decide +kernel)⟩ ⟨_,Heap.get?_push_size _ rfl,rfl,rfl⟩ q)
   · exact (show (b.map UInt8.ofNat).toArray.size=(b.map fun (c:Nat)=>V.int (c:Int)).length by simp)▸KBw.walks (prog:=g.prog) (w:=g.w) hA N.s.heap.objs.size (b.map UInt8.ofNat).toArray t
   · obtain ⟨ch,u,h1,rfl⟩:=h
     obtain ⟨cc,h2,rfl⟩:=Option.map_eq_some_iff.mp ((List.getElem?_map ..).symm.trans ((List.getElem?_toArray ..).symm.trans h1))
     exact ⟨.int (cc:Int),by rw [List.getElem?_map,h2];rfl,by rw [show (UInt8.ofNat cc).toNat=cc from Nat.mod_eq_of_lt (hb cc (List.mem_of_getElem? h2))];exact cq _ _⟩
theorem cG (H:ak g c k e d):kG g c k e (diof d):=fun F N Q K E h q=>H F N (ub h) fun a=>ls F.R (um a.q) a.rel fun z=>q ⟨z.v,z.a,z.N,a.le.trans z.le,z.itf,z.q⟩
theorem lY {a b:Int} (ha:small a=true) (hb:small b=true):Builtin.Range.small a b 1=true∧Builtin.Range.rangeSize a b 1=(((b - a).toNat:Nat):Int):=by
 have ha:=dG.mp ha
 have hb:=dG.mp hb
 unfold big at ha hb
 exact ⟨small_one (by omega) (by omega) (by omega) (by omega),(rangeSize_one ..).trans (by split<;>omega)⟩
theorem wM {a b:Int} {t u v:Tok} {r:Addr} {Q:List V→St→Prop} (ha:small a=true) (hb:small b=true) (hr:IsRange N.s.heap r a b 1 t u v) (hq:Q (rng a b) N.σ) (q:∀ r:vP g N Q,K (.ref r.a) r.N.s):wpAny (model g.prog g.w) Ar (pyIter (.ref r)) K E N.s:=by
 have hz:=lY ha hb
 refine wpAny_pyIter_range hr hz.1 (hz.2▸iW (ax:=[]) (Pt:=fun i v=>i<(b - a).toNat∧∃ t,v=.int (a+(i:Nat) * 1) t) (S':=fun i h=>IsRangeIter h N.s.heap.objs.size (a+(i:Nat) * 1) ((((b - a).toNat:Nat):Int) - (i:Nat)) 1) rfl (fun c c e=>nomatch e) hq
  ⟨fun A' hA=>?_,fun b hb=>(nomatch hb),fun i x h=>?_,fun i h hst=>eD hst rfl (by decide +kernel)⟩ ?_ q)
 · exact (show (b - a).toNat=(rng a b).length by simp [rng])▸(Walks.range (prog:=g.prog) (w:=g.w) hA N.s.heap.objs.size a 1 (b - a).toNat).bound
 · obtain ⟨hi,t,rfl⟩:=h
   exact ⟨.int (a+(i:Int)),by rw [rng,List.getElem?_map,List.getElem?_range hi];rfl,by rw [Int.mul_one];exact cq _ _⟩
 · show IsRangeIter _ _ _ _ _
   simp only [IsRangeIter,Int.natCast_zero,Int.zero_mul,Int.add_zero,Int.sub_zero]
   exact Heap.get?_push_size _ rfl
theorem cY (Hf:ak g c k f (dk (.ty "range"))) (H:ak g c k e d) (hs:∀ env,starEach [e] env=[(false,eval e env)])
 (he:∀ env,eval (.Call f [e] [] pos) env=(do callWith pos (← eval f env) [] (backTo pos (starEach [e] env)) (backToKw pos (keywordEach [] env)))):kG g c k (.Call f [e] [] pos) (pe d) :=
 fun F N Q K E h q=>PyProof.Rows.Call_ (Hf F N (Q:=fun v s=>v=.ty "range" ∧ Ok2 (pe d s) Q) (ok2 ⟨rfl,h⟩) fun y=>j8 (C:=fun y'=>wpAny _ _ (callWith pos y' [] _ _) _ E y.N.s) (y.q.1▸y.rel) (hs _▸PySem.callWith_type1 (H F y.N (ub y.q.2) fun a=>(uv a.q).elim fun n h =>
  dD (C:=fun x=>wpAny _ _ (call (.type "range") [x]) _ E a.N.s) h.1 a.rel fun t=>call_range_1 (wM (N:=a.N.keeps (a.N.s.toks+1+1) fun b b e=>Heap.get?_push_of_some _ e) (by decide) (ui h.2).1 (IsRange.new _ _ _ _ _ _ _) (ui h.2).2 fun z=>q ⟨z.v,z.a,z.N,y.le.trans (a.le.trans (Now.keeps_le.trans z.le)),z.itf,z.q⟩)))) (he _)
end
noncomputable def dun (f:V→Option V) (d:DE):DE:=fun σ=>(d σ).bind fun q=>(f q.1).map fun v=>(v,q.2)
noncomputable def dbi (f:V→V→Option V) (d e:DE):DE:=fun σ=>(d σ).bind fun q=>(e q.2).bind fun r=>(f q.1 r.1).map fun v=>(v,r.2)
def yI (v:V):Option V:=((asS v).bind fun l=>if l.length≤LIM then some (.int l.length) else none).or ((asL v).bind fun l=>if l.length≤LIM then some (.int l.length) else none)
def absV (v:V):Option V:=(asI v).map fun a=>.int (if a<0 then -a else a)
def intbV (v:V):Option V:=(asB v).map fun b=>.int (if b then 1 else 0)
def upL (x:List Nat):List Nat:=(Txt.upper (S x)).cps.toList
def loL (x:List Nat):List Nat:=(Txt.lower (S x)).cps.toList
def j7 (v:V):Option V:=(asS v).bind fun x=>if Builtin.Str.tooLong (upL x).length=false then some (.str (upL x)) else none
def iU (v:V):Option V:=(asS v).bind fun x=>if Builtin.Str.tooLong (loL x).length=false then some (.str (loL x)) else none
def xW (v:V):Option V:=(asS v).bind fun x=>some (.bool (Txt.isdigit (S x)))
def fQ (v u:V):Option V:=(asS v).bind fun x=>(asS u).map fun y=>.bool (Txt.startswith (S x) (S y))
def mz (v u:V):Option V:=(asS v).bind fun x=>(asS u).bind fun y=>Option.map (fun i:Nat=>V.int i) (Builtin.Str.occurrences (S x) (S y) 0 x.length 1).head?
def lN (x y:List Nat):List (List Nat):=(Txt.split (S x) (S y)).map fun z=>z.cps.toList
def ef (v u:V):Option V:=(asS v).bind fun x=>(asS u).bind fun y=>if y.length≠0∧x.length≤LIM then some (.lst ((lN x y).map .str)) else none
def xO (x:List Nat) (l:List (List Nat)):List Nat:=(Txt.join (S x) (l.map S)).cps.toList
def mr (v u:V):Option V:=(asS v).bind fun x=>(asL u).bind fun l=>(dm l).bind fun ss=>if JoinOk (S x) (ss.map S)=true then some (.str (xO x ss)) else none
noncomputable def tj:List Nat:=[117,116,102,45,56]
def eN (v u:V):Option V:=(asS v).bind fun x=>(asS u).bind fun y=>if y=tj∧x.all (· < 128)=true∧x.length≤LIM then some (.byt x) else none
def zL (v:V):Option V:=(asL v).bind fun l=>(fg l).bind fun ns=>if ns.all (fun n=>decide (0≤n)&&decide (n<256))=true∧ns.length≤LIM then some (.byt (ns.map Int.toNat)) else none
def ph (d e:DE):DE:=fun σ=>(d σ).bind fun q=>(e q.2).bind fun r=>(asI q.1).bind fun a=>(asI r.1).bind fun b=>if small a∧small b∧(b - a).toNat≤LIM then some (.lst (rng a b),r.2) else none
section
variable {Z:aE} {g:Gx} {c:SC} {k:Nat} {e a f f2 e2:Expr} {pos ap pos2:Pos} {d da d2:DE} {name:Str} {id:String} {P:Gh}
def Un (g:Gx) (id:String) (f:V→Option V):Prop:=∀ {Z:aE} (N:Now Z) {Ar:Around} {v:V} {x:Value} {Q:V→St→Prop} {K E:Value→Shared→Prop},OkV (f v) (fun r=>Q r N.σ)→ao N.P v x→(∀ r:Res N Q,K r.x r.N.s)→wpAny (model g.prog g.w) Ar (call (.builtin id) [x]) K E N.s
def Bi (g:Gx) (id:String) (f:V→V→Option V):Prop:=∀ {Z:aE} (N:Now Z) {Ar:Around} {v u:V} {x z:Value} {Q:V→St→Prop} {K E:Value→Shared→Prop},OkV (f v u) (fun r=>Q r N.σ)→ao N.P v x→ao N.P u z→(∀ r:Res N Q,K r.x r.N.s)→wpAny (model g.prog g.w) Ar (call (.builtin id) [x,z]) K E N.s
theorem ca {F':V→Option V} (U:Un g id F') (Hf:ak g c k f (dk (.bi id))) (H:ak g c k e d) (hs:∀ env,starEach [e] env=[(false,eval e env)])
 (he:∀ env,eval (.Call f [e] [] pos) env=(do callWith pos (← eval f env) [] (backTo pos (starEach [e] env)) (backToKw pos (keywordEach [] env)))):ak g c k (.Call f [e] [] pos) (dun F' d) :=
 fun F N Q K E h q=>PyProof.Rows.Call_ (Hf F N (Q:=fun v s=>v=.bi id∧Ok2 (dun F' d s) Q) (ok2 ⟨rfl,h⟩) fun y=>bi_q (C:=fun y'=>wpAny _ _ (callWith pos y' [] _ _) _ E y.N.s) (y.q.1▸y.rel) (hs _▸PySem.callWith_builtin1 (H F y.N (ub y.q.2) fun a=>U a.N (um a.q) a.rel fun r=>q (r.up (y.le.trans a.le))))) (he _)
theorem vi_eq {P:Gh} {i j:Int} {r:V} {t:Tok} (e:.int i=r) (h:j=i):ao P r (.int j t):=e▸h▸cq _ _
theorem cr:Un g "len" yI:=fun N Ar v x Q K E h hx q=>h.elim fun r h =>
 orQ h.1 (fun e=>aF e fun l e e'=>dK e' fun hl e'=>cB (C:=fun x=>wpAny _ _ (call _ [x]) K E N.s) e hx fun t=>len_str (Int.not_le.mpr (jw hl)) (q ⟨r,_,N.toks (N.s.toks+1+1),N.toks_le,e'▸cq _ _,h.2⟩))
  fun e=>aF e fun l e e'=>dK e' fun hl e'=>d7 (C:=fun x=>wpAny _ _ (call _ [x]) K E N.s) e hx fun a xs hla hxs=>Calls.call_len_list (hla.isList N.I.pin) (jw (Nat.le_trans (Nat.le_of_eq hxs.length) hl)) (q ⟨r,_,N.toks (N.s.toks+1+1),N.toks_le,vi_eq e' (congrArg Int.ofNat hxs.length),h.2⟩)
theorem un_abs:Un g "abs" absV:=fun N Ar v x Q K E h hx q=>h.elim fun r h=>dH h.1 fun i e e'=>dD (C:=fun x=>wpAny _ _ (call _ [x]) K E N.s) e hx fun t=>call_abs_int fun u tk=>q ⟨r,_,N.toks tk,N.toks_le,e'▸cq _ _,h.2⟩
theorem S_up (x:List Nat):Txt.upper (S x)=S (upL x):=rfl
theorem S_lo (x:List Nat):Txt.lower (S x)=S (loL x):=rfl
theorem qh:Un g "str.upper" j7:=fun N Ar v x Q K E h hx q=>h.elim fun r h=>aF h.1 fun i e e'=>dK e' fun hz e'=>cB (C:=fun x=>wpAny _ _ (call _ [x]) K E N.s) e hx fun t=>SC.upper hz (q ⟨r,_,N.tick,N.tick_le,e'▸cV _ _,h.2⟩)
theorem qi:Un g "str.lower" iU:=fun N Ar v x Q K E h hx q=>h.elim fun r h=>aF h.1 fun i e e'=>dK e' fun hz e'=>cB (C:=fun x=>wpAny _ _ (call _ [x]) K E N.s) e hx fun t=>SC.lower hz (q ⟨r,_,N.tick,N.tick_le,e'▸cV _ _,h.2⟩)
theorem pP {v u:V} {x z:Value} {a b:List Nat} {C:Value→Value→Prop} (e:asS v=some a) (e':asS u=some b) (hx:ao P v x) (hz:ao P u z) (q:∀ t t',C (.str (S a) t) (.str (S b) t')):C x z:=cB (C:=fun x=>C x z) e hx fun t=>cB e' hz fun t'=>q t t'
theorem kC:Bi g "str.startswith" fQ:=fun N Ar v u x z Q K E h hx hz q=>h.elim fun r h=>aF h.1 fun i e e'=>dH e' fun j e2 e3=>pP (C:=fun x z=>wpAny _ _ (call _ [x,z]) K E N.s) e e2 hx hz fun t t'=>SC.startswith (q ⟨r,_,N,.refl N,e3▸ei _,h.2⟩)
theorem zQ:Bi g "str.index" mz:=fun N Ar v u x z Q K E h hx hz q=>h.elim fun r h=>aF h.1 fun i e e'=>aF e' fun j e2 e3=>dH e3 fun n e4 e5=>pP (C:=fun x z=>wpAny _ _ (call _ [x,z]) K E N.s) e e2 hx hz fun t t' =>
 (List.head?_eq_some_iff.mp e4).elim fun a ho=>SC.index ho (q ⟨r,_,N.tick,N.tick_le,e5▸cq _ N.s.toks,h.2⟩)
theorem kH:∀ {l:List V} {xs:List Value} {ss:List (List Nat)},VRels P l xs→dm l=some ss→∃ lt:List (Str×Tok),xs=strValues lt∧lt.map (·.1)=ss.map S
 | [],_,_,h,e=>Option.some.inj e▸⟨[],h,rfl⟩
 | v::l,xs,ss,h,e=>e9 (C:=fun xs=>∃ lt:List (Str×Tok),xs=strValues lt∧lt.map (·.1)=ss.map S) h fun y ys h1 h2=>aF e fun z e1 e=>dH e fun ss' e2 e3=>(kH h2 e2).elim fun lt ih =>
  cB (C:=fun y=>∃ lt:List (Str×Tok),y::ys=strValues lt∧lt.map (·.1)=ss.map S) e1 h1 fun t=>⟨(S z,t)::lt,congrArg (_::·) ih.1,e3▸congrArg (S z::·) ih.2⟩
theorem pO:Bi g "str.join" mr:=fun N Ar v u x z Q K E h hx hz q=>h.elim fun r h=>aF h.1 fun i e e'=>aF e' fun j e2 e3=>aF e3 fun ss e4 e5=>dK e5 fun hok e5=>cB (C:=fun x=>wpAny _ _ (call _ [x,z]) K E N.s) e hx fun t=>d7 (C:=fun z=>wpAny _ _ (call _ [_,z]) K E N.s) e2 hz fun a xs hl hxs =>
 (kH hxs e4).elim fun lt e6=>SC.join (e6.1▸hl.isList N.I.pin) e6.2 hok fun t' tk=>q ⟨r,_,N.toks tk,N.toks_le,e5▸cV (xO i ss) t',h.2⟩
theorem iB:∀ l:List (Str×Tok),VRels P (l.map fun x=>V.str x.1.cps.toList) (strValues l)
 | []=>rfl
 | a::l=>bk ⟨a.2,rfl⟩ (iB l)
theorem j0:Bi g "str.split" ef:=fun N Ar v u x z Q K E h hx hz q=>h.elim fun r h=>aF h.1 fun x e e'=>aF e' fun y e2 e3=>dK e3 fun hc e3=>pP (C:=fun x z=>wpAny _ _ (call _ [x,z]) K E N.s) e e2 hx hz fun t t2=>by
 have hsz:(S x).length≤sizeLine:=b0 hc.2
 have key:∀ (l:List (Str×Tok)) (tk:Nat),l.map (·.1)=Txt.split (S x) (S y)→K (.ref N.s.heap.objs.size) { N.s with heap:=N.s.heap.push { cls:=.type "list",data:=.seq (strValues l).toArray },toks:=tk }:=fun l tk hl =>
  q ⟨r,_,N.new _ rfl tk,N.new_le,e3▸eA ⟨_,_,Gh.put_self ..,rfl,rfl⟩ ((show (lN x y).map V.str=l.map fun z=>V.str z.1.cps.toList by unfold lN;rw [← hl,List.map_map,List.map_map];rfl)▸iB l),h.2⟩
 have hy:((S y).length==0)=false:=beq_eq_false_iff_ne.mpr hc.1
 cases h1:(decide ((S x).length<(S y).length)||decide (Builtin.Str.strKind (S x)<Builtin.Str.strKind (S y)))
 · have hs:Txt.split (S x) (S y)=_:=if_neg (ne_true_of_eq_false h1)
   cases hf:(Builtin.Str.occurrences (S x) (S y) 0 (S x).length ((S x).length+1)).isEmpty
   · have hs:=hs.trans (if_neg (ne_true_of_eq_false hf))
     refine call_meets F.slot_str_split (typeIs_str _ _ _) F.entry_str_split (F.args_str_split_2 _ _) (meets_str_split_sep (S x) (S y) t t2 h1 hy hf hsz ?_) ?_
     · exact Nat.le_trans (hs▸(fact_split (S x) (S y)).2) (Nat.le_trans (Nat.add_le_add_right hc.2 2) (by rw [sizeLine_eq];decide))
     · show wants K E _ { N.s with toks:=_,heap:=N.s.heap.push { cls:=.type "list",data:=.seq (strsFrom N.s.toks _).toArray } }
       rw [strsFrom_eq]
       exact key _ _ ((numbered_texts _ _).trans hs.symm)
   · exact call_meets F.slot_str_split (typeIs_str _ _ _) F.entry_str_split (F.args_str_split_2 _ _) (meets_str_split_not_found (S x) (S y) t t2 h1 hy hf) (key [(S x,t)] N.s.toks (hs.trans (if_pos hf)).symm)
 · exact call_meets F.slot_str_split (typeIs_str _ _ _) F.entry_str_split (F.args_str_split_2 _ _) (meets_str_split_cannot_occur (S x) (S y) t t2 h1) (key [(S x,t)] N.s.toks (if_pos h1).symm)
theorem tr {P:Gh} {z:List Nat} {x:Value} {C:Addr→Prop} (h:ao P (.str z) x):∀ b,x=.ref b→C b:=lK (C:=fun x=>∀ b,x=.ref b→C b) h fun a a e=>nomatch e
theorem pu {f:V→Option V} (U:Un g id f) (slot:Slot "str" name id) (ty:typeOf (.builtin id)=pure (.type "method_descriptor")) (hstr:∀ v r,f v=some r→∃ x,v=.str x)
 (H:ak g c k e d) (hb:∀ env,attributeBase e name env (eval e env)=eval e env) (hl:(ap.endLine==pos.line)=true):ak g c k (.Call (.Attribute e name ap) [] [] pos) (dun f d) :=
 fun F' N Q K E h q=>Call_method0 (hb _) hl (H F' N (ub h) fun a=>have hf:=um a.q;(hf.elim fun r h=>hstr _ r h.1).elim fun z hz =>
  ⟨"str",id,F.plainAttrs_str,slot,ty,lK (C:=fun x=>a.N.s.TypeIs x "str") ((show a.v=V.str z from hz)▸a.rel) fun b=>typeIs_str _ _ _,tr ((show a.v=V.str z from hz)▸a.rel),Calls.callWith_builtin rfl (PyProof.Rows.evalArgs_none (U a.N hf a.rel fun r=>q (r.up a.le)))⟩)
theorem cL {f:V→V→Option V} (U:Bi g id f) (slot:Slot "str" name id) (ty:typeOf (.builtin id)=pure (.type "method_descriptor")) (hstr:∀ v u r,f v u=some r→∃ x,v=.str x)
 (H:ak g c k e d) (Ha:ak g c k a da) (hb:∀ env,attributeBase e name env (eval e env)=eval e env) (hs:∀ env,starEach [a] env=[(false,eval a env)]) (hl:(ap.endLine==pos.line)=true):ak g c k (.Call (.Attribute e name ap) [a] [] pos) (dbi f d da) :=
 fun F' N Q K E h q=>Call_method1 (hb _) (hs _) hl (H F' N (ub h) fun a=>((ub a.q).elim fun i h=>h.elim fun i h=>(um h.2).elim fun r h=>hstr _ _ r h.1).elim fun z hz =>
  ⟨"str",id,F.plainAttrs_str,slot,ty,lK (C:=fun x=>a.N.s.TypeIs x "str") ((show a.v=V.str z from hz)▸a.rel) fun i=>typeIs_str _ _ _,tr ((show a.v=V.str z from hz)▸a.rel),Calls.callWith_builtin rfl (Calls.evalArgs_plain (Calls.spliced_cons (Ha F' a.N (ub a.q) fun b=>Calls.spliced_nil (U b.N (um b.q) (a.rel.up b.le.P) b.rel fun r=>q (r.up (a.le.trans b.le))))))⟩)
theorem isS {F:List Nat→Option V} {v r:V} (h:(asS v).bind F=some r):∃ x,v=.str x:=aF h fun x e a=>⟨x,zV e⟩
theorem tD:∀ v r,j7 v=some r→∃ x,v=.str x:=fun a a=>isS
theorem tE:∀ v r,iU v=some r→∃ x,v=.str x:=fun a a=>isS
theorem s_isdigit:∀ v r,xW v=some r→∃ x,v=.str x:=fun a a=>isS
theorem fU:∀ v u r,fQ v u=some r→∃ x,v=.str x:=fun a a a=>isS
theorem s_index:∀ v u r,mz v u=some r→∃ x,v=.str x:=fun a a a=>isS
theorem ll:∀ v u r,ef v u=some r→∃ x,v=.str x:=fun a a a=>isS
theorem rV:∀ v u r,mr v u=some r→∃ x,v=.str x:=fun a a a=>isS
theorem gK:∀ v u r,eN v u=some r→∃ x,v=.str x:=fun a a a=>isS
theorem ig:∀ {l:List V} {ns:List Int},fg l=some ns→l=ns.map .int
 | [],_,h=>Option.some.inj h▸rfl
 | _::_,_,h=>aF h fun i e h=>dH h fun ns e2 e3=>e3▸congr (congrArg List.cons (uL e)) (ig e2)
theorem VRels.intsAre:∀ {ns:List Int} {xs:List Value},VRels P (ns.map .int) xs→IntsAre xs ns
 | [],_,h=>fu (C:=fun xs=>IntsAre xs []) h .nil
 | n::ns,_,h=>e9 (v:=.int n) (l:=ns.map .int) (C:=fun xs=>IntsAre xs (n::ns)) h fun y ys h1 h2=>tV (C:=fun y=>IntsAre (y::ys) (n::ns)) h1 fun t=>.cons n t h2.intsAre
theorem ut {T:String} {f':V→Option V} (U:∀ {Z:aE} (F:Fr g c k Z) (N:Now Z) {v:V} {x:Value} {Q:V→St→Prop} {K E:Value→Shared→Prop},OkV (f' v) (fun r=>Q r N.σ)→ao N.P v x→(∀ r:Res N Q,K r.x r.N.s)→wpAny (model g.prog g.w) Z.Ar (call (.type T) [x]) K E N.s)
 (Hf:ak g c k f (dk (.ty T))) (H:ak g c k e d) (hs:∀ env,starEach [e] env=[(false,eval e env)])
 (he:∀ env,eval (.Call f [e] [] pos) env=(do callWith pos (← eval f env) [] (backTo pos (starEach [e] env)) (backToKw pos (keywordEach [] env)))):ak g c k (.Call f [e] [] pos) (dun f' d) :=
 fun F N Q K E h q=>PyProof.Rows.Call_ (Hf F N (Q:=fun v s=>v=.ty T∧Ok2 (dun f' d s) Q) (ok2 ⟨rfl,h⟩) fun y=>j8 (C:=fun y'=>wpAny _ _ (callWith pos y' [] _ _) _ E y.N.s) (y.q.1▸y.rel) (hs _▸PySem.callWith_type1 (H F y.N (ub y.q.2) fun a=>U F a.N (um a.q) a.rel fun r=>q (r.up (y.le.trans a.le))))) (he _)
theorem rZ {ns:List Int} (h:ns.all (fun n=>decide (0≤n)&&decide (n<256))=true) {n:Int} (hn:n∈ns):0≤n∧n<256:=have h:=Bool.and_eq_true_iff.mp (List.all_eq_true.mp h n hn);⟨of_decide_eq_true h.1,of_decide_eq_true h.2⟩
theorem vz (Hf:ak g c k f (dk (.ty "bytes"))) (H:ak g c k e d) (hs:∀ env,starEach [e] env=[(false,eval e env)])
 (he:∀ env,eval (.Call f [e] [] pos) env=(do callWith pos (← eval f env) [] (backTo pos (starEach [e] env)) (backToKw pos (keywordEach [] env)))):ak g c k (.Call f [e] [] pos) (dun zL d) :=
 ut (fun F N v x Q K E h hx q=>h.elim fun r h=>aF h.1 fun l e1 e2=>aF e2 fun ns e3 e4=>dK e4 fun hc e4=>d7 (C:=fun x=>wpAny _ _ (call _ [x]) K E N.s) e1 hx fun a xs hl hxs =>
  call_bytes_ints (hl.isList N.I.pin) (VRels.intsAre (ig e3▸hxs)) (fun n hn=>rZ hc.1 hn) (b0 (Nat.le_trans (Nat.le_of_eq (hxs.length.trans ((congrArg List.length (ig e3)).trans (List.length_map _)))) hc.2)) F.R.handled fun h' t kk hk =>
   q ⟨r,_,N.keeps kk hk,N.keeps_le,e4▸⟨t,by unfold byteArr;rw [List.map_map];rfl,fun c hc'=>by obtain ⟨n,hn,rfl⟩:=List.mem_map.mp hc';exact (Int.toNat_lt (rZ hc.1 hn).1).mpr (rZ hc.1 hn).2⟩,h.2⟩) Hf H hs he
theorem yU (Hf:ak g c k f (dk (.ty "int"))) (H:ak g c k e d) (hs:∀ env,starEach [e] env=[(false,eval e env)])
 (he:∀ env,eval (.Call f [e] [] pos) env=(do callWith pos (← eval f env) [] (backTo pos (starEach [e] env)) (backToKw pos (keywordEach [] env)))):ak g c k (.Call f [e] [] pos) (dun intbV d) :=
 ut (fun F N v x Q K E h hx q=>h.elim fun r h=>dH h.1 fun b e1 e2=>uM (C:=fun x=>wpAny _ _ (call _ [x]) K E N.s) e1 hx (call_int_bool (q ⟨r,_,N.tick,N.tick_le,e2▸cq _ _,h.2⟩))) Hf H hs he
theorem mG:∀ (l:List Nat) (acc:Array UInt8),(∀ c∈l,c<128)→l.foldl (fun acc y=>acc++(Str.utf8Of y).toArray) acc=acc++(l.map UInt8.ofNat).toArray
 | [],acc,_=>by simp
 | c::l,acc,h=>by
  have hc:c<128:=h c List.mem_cons_self
  have e:Str.utf8Of c=[UInt8.ofNat c]:=by unfold Str.utf8Of;rw [if_pos hc]
  rw [List.foldl_cons,e,mG l _ fun c hc=>h c (List.mem_cons_of_mem _ hc)]
  simp
theorem uT {β:Type} {f:Nat→β→Sem (ForInStep β)} {b b1:β} (h1:f 0 b=pure (.yield b1)) (h2:∀ i,f i b1=pure (.done b1)):∀ n,forIn (List.range' 0 (n+1) 1) b f=pure b1
 | 0=>by rw [List.range'_succ,List.forIn_cons,h1,pure_bind];exact List.forIn_nil ..
 | n+1=>by rw [List.range'_succ,List.forIn_cons,h1,pure_bind];rw [List.range'_succ];exact (List.forIn_cons ..).trans (by rw [h2,pure_bind])
theorem nK {c:Nat} (h:c<128):Builtin._codecs.utf8Codec.bad c=false:=Bool.and_eq_false_iff.mpr (.inl (decide_eq_false (Nat.not_le.mpr (Nat.lt_of_lt_of_le h (by decide)))))
theorem xh {β γ:Type} {m:Nat} {f:Nat→β→Sem (ForInStep β)} {b b1:β} {k:β→Sem γ} {r:Sem γ} (h1:f 0 b=pure (.yield b1)) (h2:∀ i,f i b1=pure (.done b1)) (h3:k b1=r):(forIn ({ stop:=m+1,step_pos:=Nat.one_pos }:Std.Legacy.Range) b f>>=k)=r:=by
 rw [Std.Legacy.Range.forIn_eq_forIn_range',show Std.Legacy.Range.size _=m+1 by simp [Std.Legacy.Range.size],uT h1 h2,pure_bind,h3]
theorem loop_no {β γ:Type} {f:Nat→β→Sem (ForInStep β)} {b:β} {k:β→Sem γ} {r:Sem γ} (h3:k b=r):(forIn ({ stop:=0,step_pos:=Nat.one_pos }:Std.Legacy.Range) b f>>=k)=r:=by
 rw [Std.Legacy.Range.forIn_eq_forIn_range',show Std.Legacy.Range.size _=0 by simp [Std.Legacy.Range.size]];exact h3
theorem pd (id:String) (self:Value) (l:List Nat) (h:∀ c∈l,c<128) (hl:l.length≤LIM):Builtin._codecs.encodeNarrow id Builtin._codecs.utf8Codec none self (S l)=pure (l.map UInt8.ofNat).toArray:=by
 cases l with
 | nil=>exact loop_no rfl
 | cons a r =>
  have hfi:Array.findIdx? Builtin._codecs.utf8Codec.bad (a::r).toArray=none:=Array.findIdx?_eq_none_iff.mpr fun x hx=>nK (h x (List.mem_toArray.mp hx))
  have hout:Array.foldl (fun acc y=>acc++(Builtin._codecs.utf8Codec.bytesOf y).toArray) (#[]:Array UInt8) (a::r).toArray 0 (a::r).toArray.size=((a::r).map UInt8.ofNat).toArray:=(List.foldl_toArray ..).trans ((mG (a::r) #[] h).trans Array.empty_append)
  have hb:¬ (((a::r).map UInt8.ofNat).toArray.size > sizeLine):=Nat.not_lt.mpr (b0 (Nat.le_trans (Nat.le_of_eq (List.length_map _)) hl))
  have hg:(!Builtin._codecs.utf8Codec.bad a)=true:=congrArg (!·) (nK (h a List.mem_cons_self))
  have hall:(S (a::r)).cps.extract 0 (S (a::r)).cps.size=(a::r).toArray:=Array.extract_size
  have hn:(S (a::r)).cps[(a::r).toArray.size]? = none:=Array.getElem?_size
  refine xh (m:=r.length) (b1:=⟨(a::r).toArray.size,((a::r).map UInt8.ofNat).toArray,{}⟩) ?_ ?_ rfl
  · refine (if_pos hg).trans ?_
    dsimp only
    rw [hall,hfi,Option.getD_none,Array.extract_size,hout,Nat.zero_add]
  · intro i
    refine (if_neg hb).trans ?_
    simp only [hn]
theorem q6 {x:List Nat} {t u:Tok} (h:∀ c∈x,c<128) (hl:x.length≤LIM):Builtin.«str.encode» ⟨[.str (S x) t,.str (S tj) u],[]⟩=(do ret (← mkBytes (x.map UInt8.ofNat).toArray)):=by
 have e1:Builtin.«str.encode» ⟨[.str (S x) t,.str (S tj) u],[]⟩=(do ret (← Builtin._codecs.encodeRoad "str.encode" (.str (S x) t) (S x) (Str.ofString "utf-8") none)):=by kernel_rfl
 rw [e1,encodeRoad_utf8,pd _ _ _ h hl];rfl
theorem fM:Bi g "str.encode" eN:=fun N Ar v u x z Q K E h hx hz q=>h.elim fun r h=>aF h.1 fun x e e'=>aF e' fun y e2 e3=>dK e3 fun hc e5=>pP (C:=fun x z=>wpAny _ _ (call _ [x,z]) K E N.s) e e2 hx hz fun t t2=>by
 obtain ⟨rfl,ha,hl⟩:=hc
 have ha':∀ c∈x,c<128:=fun c hc=>of_decide_eq_true (List.all_eq_true.mp ha c hc)
 refine wpAny_call_entry F.slot_str_encode (typeIs_str _ _ _) F.entry_str_encode ?_ (F.args_str_encode_2 _ _)
 rw [q6 ha' hl,show mkBytes (x.map UInt8.ofNat).toArray=(do return .bytes (x.map UInt8.ofNat).toArray (← fresh)) from if_neg (Nat.not_lt.mpr (b0 (Nat.le_trans (Nat.le_of_eq (List.length_map _)) hl)))]
 exact fun Γ p hΓ=>⟨_,rfl,q ⟨r,_,N.tick,N.tick_le,e5▸vi_byt _ fun c hc=>Nat.lt_trans (ha' c hc) (by decide),h.2⟩⟩
theorem oo {l:List V}:∀ {xs:List Value},xs.length=l.length→(∀ (i:Nat) x,xs[i]? = some x→∃ v,l[i]? = some v∧ao P v x)→VRels P l xs:=by
 induction l with
 | nil=>exact fun h a=>List.eq_nil_of_length_eq_zero h▸bz
 | cons v l ih=>exact fun {xs} h hg=>(List.exists_cons_of_length_eq_add_one h).elim fun x e=>e.elim fun ys e=>Eq.subst (motive:=fun (xs:List Value)=>xs.length=(v::l).length→(∀ (i:Nat) x,xs[i]? = some x→∃ v',(v::l)[i]? = some v'∧ao P v' x)→VRels P (v::l) xs) e.symm (fun h hg=>(hg 0 x rfl).elim fun v' e=>bk (Option.some.inj e.1▸e.2) (ih (Nat.succ.inj h) fun i y hy=>hg (i+1) y hy)) h hg
theorem vx (Hl:ak g c k f (dk (.ty "list"))) (Hf:ak g c k f2 (dk (.ty "range"))) (H:ak g c k e d) (H2:ak g c k e2 d2) (hs:∀ env,starEach [e,e2] env=[(false,eval e env),(false,eval e2 env)])
 (he:∀ env,eval (.Call f2 [e,e2] [] pos2) env=(do callWith pos2 (← eval f2 env) [] (backTo pos2 (starEach [e,e2] env)) (backToKw pos2 (keywordEach [] env))))
 (hs2:∀ env,starEach [.Call f2 [e,e2] [] pos2] env=[(false,eval (.Call f2 [e,e2] [] pos2) env)])
 (he2:∀ env,eval (.Call f [.Call f2 [e,e2] [] pos2] [] pos) env=(do callWith pos (← eval f env) [] (backTo pos (starEach [.Call f2 [e,e2] [] pos2] env)) (backToKw pos (keywordEach [] env)))) :
 ak g c k (.Call f [.Call f2 [e,e2] [] pos2] [] pos) (ph d d2) :=
 fun F N Q K E h q=>PyProof.Rows.Call_ (Hl F N (Q:=fun v s=>v=.ty "list" ∧ Ok2 (ph d d2 s) Q) (ok2 ⟨rfl,h⟩) fun y0=>j8 (C:=fun y'=>wpAny _ _ (callWith pos y' [] _ _) _ E y0.N.s) (y0.q.1▸y0.rel) (hs2 _▸PySem.callWith_type1 (
  PyProof.Rows.Call_ (Hf F y0.N (Q:=fun v s=>v=.ty "range" ∧ Ok2 (ph d d2 s) Q) (ok2 ⟨rfl,y0.q.2⟩) fun y=>j8 (C:=fun y'=>wpAny _ _ (callWith pos2 y' [] _ _) _ E y.N.s) (y.q.1▸y.rel) (hs _▸PySem.callWith_type rfl (Calls.evalArgs_plain (Calls.spliced_cons (H F y.N (ub y.q.2) fun a=>Calls.spliced_cons (H2 F a.N (ub a.q) fun b=>Calls.spliced_nil ((uv b.q).elim fun n h=>(uv h.2).elim fun m h' =>
  dD (C:=fun x=>wpAny _ _ (call (.type "range") [x,_]) _ E b.N.s) h.1 (a.rel.up b.le.P) fun t=>dD (C:=fun x=>wpAny _ _ (call (.type "range") [_,x]) _ E b.N.s) h'.1 b.rel fun u=>by
   obtain ⟨⟨s1,s2,hL⟩,hq⟩:=ui h'.2
   have r:=lY s1 s2
   refine call_range_2 (call_list_range F.R.handled (IsRange.new _ _ _ _ _ _ _) r.1 r.2 (Nat.le_trans hL (by decide)) fun h' tk acc' c' hk hS hacc=>?_)
   refine q ⟨.lst _,_,⟨_,_,_,_,(b.N.I.keeps (t:=b.N.s.toks+1) fun j j e=>Heap.get?_push_of_some _ e).put (t:=tk) (h':=h') (bo _) hk hS⟩,y0.le.trans (y.le.trans (a.le.trans (b.le.trans ⟨Gh.put_le (aG fun o e=>aL ((bo _).symm.trans (Heap.get?_push_of_some _ (b.N.I.pin _ _ e)))),fun j j e=>e⟩))),eA (xs:=acc'.toList) ⟨_,c',Gh.put_self _ _ _,rfl,by simp⟩ (oo (by simp [rng,hacc.1]) fun i x hx=>?_),hq⟩
   obtain ⟨tt,rfl⟩:=hacc.2 i x ((Array.getElem?_toList ..).symm.trans hx)
   have hi:i<(m - n).toNat:=hacc.1▸(List.getElem?_eq_some_iff.mp hx).1
   exact ⟨.int (n+(i:Int)),by rw [rng,List.getElem?_map,List.getElem?_range hi];rfl,by rw [Int.mul_one];exact cq _ _⟩))))))) (he _)))) (he2 _)
end
def dlisted (di:DI):DE:=fun σ=>(di σ).bind fun q=>if q.1.length≤LIM then some (.lst q.1,q.2) else none
def dassg (d:DE) (asg:DG):DS:=fun σ=>(d σ).bind fun q=>(asg q.1 q.2).map fun σ'=>(.nxt,σ')
def dsetl2 (i:Nat) (v:V) (r:V×St):Option (Fl×St):=(asI r.1).bind fun kk=>((bU i r.2).bind asM).bind fun l=>if fh kk then (seqIndex? kk l.length).map fun j=>(.nxt,r.2.set i (.ml (l.set j v))) else none
def dsetl1 (i:Nat) (di:DE) (q:V×St):Option (Fl×St):=((bU i q.2).bind asM).bind fun a=>(di q.2).bind (dsetl2 i q.1)
def dsetl (i:Nat) (d di:DE):DS:=fun σ=>(d σ).bind (dsetl1 i di)
def dretw1 (q:V×St):Option (Fl×St):=(asL q.1).bind fun l=>(fg l).bind fun row=>if q.2.w.isNone=true then some (.ret .wref,{ q.2 with w:=some (row,0) }) else none
def dretw (i:Nat):DS:=fun σ=>(ix i σ).bind dretw1
section
variable {Z:aE} {N:Now Z} {g:Gx} {c:SC} {k i:Nat} {e ie:Expr} {d di:DE} {x:Str} {p1 p2 pos:Pos} {ts:List Expr} {is:List Nat}
theorem rd (H:ak g c k e d) (Hi:ak g c k ie di) (hk:c.kind x=some .local) (hs:c.slot x=some i) (hd:(x==("__debug__" : Str))=false)
 (hw:∀ env,swapsWith e (some (.Subscript (.Name x p1) ie p2)) pos.line env=pure false):cO g c k (.Assign [.Subscript (.Name x p1) ie p2] e pos) (dsetl i d di) :=
 fun F N Q K E h q=>wpAny_Assign_Subscript (H F N (ub h) fun y=>(uv y.q).elim fun l0 h=>y.N.mlOf ⟨l0,h.1,rfl⟩ fun p a xs0 n0 h1 h2 h3 h4 h5=>(Option.some.inj ((F.X.loc x i hk hs).symm.trans h1)▸h3:Holds y.N.s.heap (.ns _ x) (.ref a)).elim fun m hm =>
  wpAny_Name (wpAny_loadName_local F.X.fn ((F.X.kind x).trans hk) hm.1 hm.2 (Hi F y.N (ub h.2) fun z=>(uv z.q).elim fun kk h=>(uv h.2).elim fun l h'=>dD (C:=fun u=>wpAny _ _ (setItem (.ref a) u y.x) _ E z.N.s) h.1 z.rel fun t=>z.N.mlOf ⟨l,h'.1,rfl⟩ fun p' a' xs n g1 g2 g3 g4 g5=>by
   cases (h2.symm.trans (z.le.sh i a' g2))
   have h6:=uib h'.2
   exact (um h6.2).elim fun j h7=>kb g4 h6.1 (g5.length▸h7.1) fun h'' n' hp hb=>q ⟨.nxt,.next,⟨_,_,_,_,z.N.I.turn (t:=z.N.s.toks) g2 (v:=.ml (l.set j y.v)) (fun b o nb q=>(hb.2 b nb).trans q) fun v0 x0 hv0 hx0 =>
    hx0.turnML (tx h'.1 hv0) hp (g5.set j (y.rel.up z.le.P))⟩,y.le.P.trans z.le.P,rfl,h7.2⟩)) hd) (hw _)
inductive GN (c:SC):List Expr→List Nat→Prop
 | nil:GN c [] []
 | cons {x:Str} {p:Pos} {i:Nat} {ts:List Expr} {is:List Nat}:(c.kind x=some .local∨c.kind x=some .cell)→c.slot x=some i→GN c ts is→GN c (.Name x p::ts) (i::is)
theorem o9:GN c [] []:=.nil
theorem lA {p:Pos} (hk:c.kind x=some .local∨c.kind x=some .cell) (hs:c.slot x=some i) (r:GN c ts is):GN c (.Name x p::ts) (i::is):=.cons hk hs r
structure Each (env:Env) (ts:List Expr) (is:List Nat):Prop where
 len:(assignEach ts env).length=is.length
 all:(assignEach ts env).findIdx? (·.1)=none
 map:(assignEach ts env).map (·.2)=ts.map fun t=>assign t env
theorem GN.each {env:Env} (G:GN c ts is):Each env ts is:=by
 induction G with
 | nil=>exact ⟨rfl,rfl,rfl⟩
 | cons _ _ _ ih=>exact ⟨congrArg (· + 1) ih.len,(List.findIdx?_cons ..).trans (congrArg (Option.map (· + 1)) ih.all),congrArg (_::·) ih.map⟩
theorem vb (F:Fr g c k Z) (G:GN c ts is):∀ {vs:List V} {xs:List Value} (N:Now Z) {T:St→Prop} {K:Unit→Shared→Prop} {E:Value→Shared→Prop},VRels N.P vs xs→OkV (kl is vs N.σ) T→(∀ M:Now Z,N.Le M→T M.σ→K () M.s) →
 wpAny (model g.prog g.w) Z.Ar (assignInOrder (ts.map fun t=>assign t Z.env) xs) K E N.s:=by
 induction G with
 | nil=>exact fun {vs xs} N {T K E} hx h q=>match vs,hx,h with
  | [],hx,h=>fu (C:=fun xs=>wpAny _ _ (assignInOrder [] xs) K E N.s) hx (wpAny_pure (q N (.refl _) (h.elim fun a h=>Option.some.inj h.1▸h.2)))
  | _::_,_,h=>h.elim fun a h=>nomatch h.1
 | @cons x p i ts is hk hs _ ih=>exact fun {vs xs} N {T K E} hx h q=>match vs,hx,h with
  | [],_,h=>h.elim fun a h=>nomatch h.1
  | v::vs,hx,h=>e9 (C:=fun xs=>wpAny _ _ (assignInOrder (assign (.Name x p) Z.env::ts.map fun t=>assign t Z.env) xs) K E N.s) hx fun y ys h1 h2 =>
   show wpAny _ _ (do holding ys (assign (.Name x p) Z.env y);assignInOrder (ts.map fun t=>assign t Z.env) ys) _ _ _ from
   wpAny_bind (wpAny_holding (wpAny_assign_Name (fw F.X hk hs (T:=fun σ=>OkV (kl is vs σ) T) h1 h fun M l h'=>ih M (VRels.up l.P h2) h' fun M' l'=>q M' (l.trans l'))))
theorem mE:∀ {is:List Nat} {vs:List V} {σ σ':St},kl is vs σ=some σ'→vs.length=is.length
 | [],[],_,_,_=>rfl
 | i::is,v::vs,σ,σ',h=>congrArg (· + 1) (mE (is:=is) (vs:=vs) h)
 | [],_::_,_,_,h=>nomatch h
 | _::_,[],_,_,h=>nomatch h
theorem wg {I:Addr} {x:Value} {kk:Nat} {p:Pos} {Ar:Around} {K:Unit→Shared→Prop} {E:Value→Shared→Prop} {s:Shared} {M:Model} (hp:nv s.heap I) (q:K () s):wpAny M Ar (letOwnedTupleGo (.Tuple ts kk p) (.ref I) x) K E s:=by
 obtain ⟨o,n,e1,e2,e3⟩:=hp
 cases x
 case ref a =>
  show wpAny _ _ (load I>>=_) _ _ _
  refine wpAny_bind (wpAny_load e1 ?_)
  rw [e2]
  generalize o.data=dd
  cases dd
  case fields vs =>
   show wpAny _ _ (if (_&&_)=true then _ else _) _ _ _
   rw [e3];exact wpAny_pure q
  all_goals exact wpAny_pure q
 all_goals exact wpAny_pure q
theorem jI {kk:Nat} {p:Pos} (G:GN c ts is):gw g c k (.Tuple ts kk p) (sC is) :=
 ⟨fun d d hp q=>wg hp q,
 fun F N v x T K E hv h q=>h.elim fun σ' h=>aF h.1 fun l e1 e2=>ry (C:=fun x=>wpAny _ _ (assign (.Tuple ts kk p) _ x) K E N.s) e1 hv fun a xs hl hxs =>
  have W:=G.each (env:=_)
  wpAny_assign_Tuple F.R.handled (hl.isTuple N.I.pin) (W.len.trans ((mE e2).symm.trans hxs.length.symm)) W.all fun h' hb=>W.map▸vb F G (N.keeps N.s.toks fun b o e=>hb b o (fun q=>aL ((bo _).symm.trans (q▸e))) e) hxs ⟨σ',e2,h.2⟩ fun M l=>q M ⟨l.P,l.sh⟩⟩
theorem mP {kk:Nat} {p pos:Pos} {asg:DG} (H:ak g c k e d) (G:gw g c k (.Tuple ts kk p) asg)
 (hs:∀ env,swapsWithSole [.Tuple ts kk p] e pos.line env=pure false) (hw:∀ env,(∀ x,env.kindOf x=c.kind x)→env.scope.kind=.function→swappedStores [.Tuple ts kk p] e env=pure none) :
 cO g c k (.Assign [.Tuple ts kk p] e pos) (dassg d asg) :=
 fun F N Q K E h q=>Assign_Tuple (H F N (ub h) fun y=>G.go F y.N y.rel (um y.q) fun M l h'=>q ⟨.nxt,.next,M,y.le.P.trans l.P,rfl,h'⟩) (hs _) (hw _ F.X.kind F.X.fn)
def Now.newW (N:Now Z) {a:Addr} {o:Obj} {w:List Int×Int} (S:bb N a o) (hw:N.P.wa=none) (le:N.P.le { N.P with wa:=some a }) (W:WIs { N.P with wa:=some a } N.s.heap w.1 w.2):Now Z :=
 have fr:∀ b,ce Z.A N.P b→b≠a→ce Z.A { N.P with wa:=some a } b:=fun b F h=>⟨F.1,fun e=>h (Option.some.inj e).symm,F.2.2⟩
 { N with P:={ N.P with wa:=some a },σ:=⟨N.σ.loc,some w⟩,I:={ N.I with
    le:=N.I.le.trans le,newW:=fun b e=>.inr (Option.some.inj e▸S.F.2.2),keep:=fun b o e h1 h3 h4=>N.I.keep b o e (fun q=>nomatch (hw.symm.trans q)) h3 h4,waAlive:=fun b e=>Option.some.inj e▸⟨S.F.1,o,S.at_⟩,w:=W,
    tab:=fun x hx=>have T:=N.I.tab x hx;⟨T.hp,T.m0,T.wa0,T.cm,T.code.mono le⟩,pfree:=fun p hp=>fr _ (N.I.pfree p hp) (S.pl p hp),
    own:=N.I.own.keeps le (fun b h e=>(h (Option.some.inj e▸S.F.2.2)).elim) (fun c c c e=>e) (fun c c c c e=>e) fun i b e=>fr _ (N.I.own.free i b e).1 fun q=>S.own i (q▸e) } }
theorem ak.hold {l:List (Addr×Obj)} {Q:V→St→Prop} {K E:Value→Shared→Prop} (D:ak g c k e d) (F:Fr g c k Z) (H:cn N l) (h:Ok2 (d N.σ) Q) (q:∀ r:Res N Q,cn r.N l→K r.x r.N.s):wpAny (model g.prog g.w) Z.Ar (eval e Z.env) K E N.s:=D F.hold (N.hold H) h fun r=>r.let H (C:=K) q
theorem bW.hold {l:List (Addr×Obj)} {dt:DT} {Q:Bool→St→Prop} {K:Bool→Shared→Prop} {E:Value→Shared→Prop} (D:bW g c k e dt) (F:Fr g c k Z) (H:cn N l) (h:Ok2 (dt N.σ) Q) (q:∀ r:li N Q,cn r.N l→K r.b r.N.s):wpAny (model g.prog g.w) Z.Ar (isTrue e Z.env (eval e Z.env)) K E N.s:=D F.hold (N.hold H) h fun r=>r.let H (C:=K) q
theorem r8 {x z:Value}:merged ([]:List (Str×Value)) [("row",x),("at",z)]=kI x z:=by
 have:(("row" : Str) = "at")=False:=by simp;decide
 simp [merged,stored,this]
theorem yR {k1 k2 k3:Nat} {p3 p4 p5:Pos} (hk:c.kind x=some .local) (hs:c.slot x=some i) (hd:(x==("__debug__" : Str))=false) :
 cO g c k (.Return (some (.Dict [some (.Constant (.str "row") k1 p1),some (.Constant (.str "at") k2 p2)] [.Name x p3,.Constant (.int 0) k3 p4] p5)) pos) (dretw i):=by
 intro Z F N Q K E h q
 with_reducible refine wpAny_Return_some ?_
 refine wpAny_Dict_pairs (knd:=sk g.prog g.w) (pairs:=[(eval (.Constant (.str "row") k1 p1) Z.env,do let x ← eval (.Name x p3) Z.env;standAt p5;pure x),(eval (.Constant (.str "at") k2 p2) Z.env,do let x ← eval (.Constant (.int 0) k3 p4) Z.env;standAt p5;pure x)]) rfl (fun e=>nomatch e) (Nat.le_of_ble_eq_true rfl) ?_
 refine evalPairs_cons (Calls.Constant_str ?_)
 have S1:=bb.new N (o:=emptyDict) (t:=N.s.toks+1) rfl fun cc dd e=>nomatch congrArg Obj.cls e
 refine wpAny_bind (ak.hold (aR hk hs hd) F (n3 S1) (ub h) fun r Hr=>?_)
 have S2:=Hr _ List.mem_cons_self
 refine wpAny_bind (wpAny_standAt (wpAny_pure ?_))
 refine evalPairs_cons (Calls.Constant_str ?_)
 refine wpAny_bind (wpAny_Constant_int (wpAny_bind (wpAny_standAt (wpAny_pure ?_))))
 refine evalPairs_nil ?_
 refine ⟨[("row",r.x),("at",.int 0 _)],⟨rfl,rfl,rfl,rfl,trivial⟩,jF (es:=[]) (n:=0) S2.at_ rfl List.nodup_nil,fun h' hdict hb=>?_⟩
 rw [r8] at hdict
 refine (uv r.q).elim fun l h1=>(uv h1.2).elim fun row h2=>?_
 have h3:=ui h2.2
 have pn:r.N.P.wa=none:=by have:=r.N.I.w;revert this;rw [Option.isNone_iff_eq_none.mp h3.1];exact id
 have leW:r.N.P.le { r.N.P with wa:=some N.s.heap.objs.size }:=⟨fun a a e=>e,fun a e=>(nomatch (pn.symm.trans e)),rfl,rfl,rfl⟩
 refine jG hdict fun es n q1 q2=>?_
 have S3:bb (r.N.other (h':=h') S2 r.N.s.toks fun b o nb e=>(hb.2 b nb).trans e) N.s.heap.objs.size (dictOf es n):=S2.to q1 fun cc dd e=>nomatch congrArg Obj.cls e
 exact q ⟨.ret .wref,_,(Now.newW _ S3 pn leW (w:=(row,0)) (WIs.of (prog:=g.prog) (r.N.params F.B) rfl S3.F.1 hdict ((nu h1.1).trans (congrArg V.lst (ig h2.1))▸r.rel.up leW) ⟨_,rfl⟩)).toks _,r.le.P.trans leW,⟨_,rfl,_,rfl,rfl⟩,h3.2⟩
end
noncomputable def kg (names:aq):List Str:=(names.filter fun y=>y.2==.local).map (·.1)
def tP (names:aq) (x:Str):Option Nat:=(kg names).idxOf? x
noncomputable def relF (c:SC) (n:Str) (k:NameKind):NameKind:=if (k==.free&&c.kind n==some .cell)=true then .cell else k
def f0 (c:SC) (names:aq):SC:={ kind:=fun x=>(names.lookup x).map (relF c x),slot:=fun x=>if names.lookup x=some .local then (tP names x).map (c.len+·) else c.slot x,len:=c.len+(kg names).length }
noncomputable def sS (c:SC) (names:aq):Bool :=
 names.all (fun x=>match x.2 with | .cell=>false | .free=>c.kind x.1==some .cell||c.kind x.1==some .free | _=>true)&&decide (names.map (·.1)).Nodup&&(names.lookup (".0" : Str)==some NameKind.local)
noncomputable abbrev yy (C:Addr) (xs:List Str):List bf:=xs.map fun x=>.ns C x
section
variable {Z:aE} {N:Now Z} {c:SC} {names:aq} {x:Str} {C a:Addr} {i:Nat} {xs:List Str} {o:Obj} {α:Type}
theorem k8 {l r:List α} {x:α} {D:Prop} (h:(l++r)[i]? = some x) (q1:l[i]? = some x→D) (q2:l.length≤i→r[i - l.length]? = some x→D):D :=
 if hi:i<l.length then q1 ((List.getElem?_append_left hi).symm.trans h) else q2 (Nat.le_of_not_lt hi) ((List.getElem?_append_right (Nat.le_of_not_lt hi)).symm.trans h)
theorem ct {l:List α} {x:α} (h:l[i]? = some x):i<l.length:=(List.getElem?_eq_some_iff.mp h).1
theorem fP {l:List α} {n:Nat} {x:α} (h:(l.take n)[i]? = some x):l[i]? = some x:=by
 rw [List.getElem?_take] at h
 exact qP h fun a h=>h
theorem xj (h:tP names x=some i):(yy C (kg names))[i]? = some (.ns C x):=by
 obtain ⟨hi,e,_⟩:=List.findIdx?_eq_some_iff_getElem.mp h
 exact (List.getElem?_map ..).trans (by rw [List.getElem?_eq_getElem hi,eq_of_beq e];rfl)
theorem sf (h:(names.map (·.1)).Nodup):(kg names).Nodup:=h.sublist (List.filter_sublist.map _)
theorem locN_of (h:(x,.local)∈names):x∈kg names:=List.mem_map.mpr ⟨_,List.mem_filter.mpr ⟨h,rfl⟩,rfl⟩
theorem jr (f:Str→NameKind→NameKind):∀ names:aq,(names.map fun y=>(y.1,f y.1 y.2)).lookup x=(names.lookup x).map (f x)
 | []=>rfl
 | y::r=>by
  rw [List.map_cons,List.lookup_cons,List.lookup_cons]
  split
  · rename_i e;rw [eq_of_beq e];rfl
  · exact jr f r
theorem i7 {env:Env}:∀ (names:aq) (acc:List (Str×Addr)),(∀ x,(x,.free)∈names→∃ a,env.cells.lookup x=some a) →
 ∃ cl,(forIn names acc fun (x:Str×NameKind) (cs:List (Str×Addr))=>(if (x.2==.free)=true then (do let a ← cellOf env x.1;pure (.yield ((x.1,a)::cs))) else pure (.yield cs):Sem (ForInStep (List (Str×Addr)))))=pure cl ∧
  ∀ x,((x,.free)∈names∨acc.lookup x=env.cells.lookup x)→cl.lookup x=env.cells.lookup x
 | [],acc,_=>⟨acc,List.forIn_nil,fun x h=>h.elim (fun h=>nomatch h) id⟩
 | (y,k)::r,acc,h=>by
  rw [List.forIn_cons]
  by_cases hk:k=.free
  · subst hk
    obtain ⟨a,ha⟩:=h y List.mem_cons_self
    refine (i7 (env:=env) r ((y,a)::acc) fun x hx=>h x (List.mem_cons_of_mem _ hx)).imp fun cl q=>⟨?_,fun x hx=>q.2 x ?_⟩
    · have hc:cellOf env y=pure a:=by show (match env.cells.lookup y with | some a=>pure a | none=>unsupported "internal:no-cell-for-name" : Sem Addr)=_;rw [ha]
      rw [if_pos (beq_self_eq_true _),hc]
      exact q.1
    · by_cases hxy:x=y
      · subst hxy;exact .inr ((List.lookup_cons ..).trans (by rw [beq_self_eq_true];exact ha.symm))
      · exact hx.imp (fun hx=>(List.mem_cons.mp hx).elim (fun e=>absurd (congrArg Prod.fst e) hxy) id) fun hx=>(List.lookup_cons ..).trans (by rw [beq_eq_false_iff_ne.mpr hxy];exact hx)
  · refine (i7 (env:=env) r acc fun x hx=>h x (List.mem_cons_of_mem _ hx)).imp fun cl q=>⟨?_,fun x hx=>q.2 x (hx.imp (fun hx=>(List.mem_cons.mp hx).elim (fun e=>absurd (congrArg Prod.snd e).symm hk) id) id)⟩
    rw [if_neg fun e=>hk (beq_iff_eq.mp e),pure_bind]
    exact q.1
theorem iK {env:Env} {scope:Scope} (h:∀ x,(x,.free)∈scope.names→∃ a,env.cells.lookup x=some a):∃ cl,closureFor scope env=pure cl∧∀ x,(x,.free)∈scope.names→cl.lookup x=env.cells.lookup x :=
 (i7 (env:=env) scope.names [] h).imp fun cl q=>⟨by
  unfold closureFor
  simp only [bind_pure]
  exact q.1,fun x hx=>q.2 x (.inl hx)⟩
def aE.ext (Z:aE) (env:Env) (C:Addr) (xs:List Str):aE:={ Z with env:=env,pl:=Z.pl++yy C xs }
def Now.ext (N:Now Z) {m:Str→Option Value} {env:Env} (hx:xs.Nodup) (ap:eh Z.A N.P Z.pl N.own Z.pl.length C) (hm:N.s.heap.Ns C m):Now (Z.ext env C xs) :=
 have back:∀ (i:Nat) a,(N.own++List.replicate xs.length none)[i]? = some (some a)→N.own[i]? = some (some a):=fun i a h=>k8 h id fun b h=>nomatch List.eq_of_mem_replicate (List.mem_of_getElem? h)
 have onC:∀ i:Nat,N.own[i]?≠some (some C):=fun i h=>ap.2.2 i (fun z=>Nat.lt_irrefl _ (Nat.lt_of_lt_of_eq (ct h) (N.I.own.len.trans z.symm))) h
 have at_:∀ {p:bf},p∈yy C xs→p.addr=C:=fun h=>(List.mem_map.mp h).elim fun b e=>e.2▸rfl
 { P:=N.P,s:=N.s,own:=N.own++List.replicate xs.length none,σ:=⟨N.σ.loc++List.replicate xs.length none,N.σ.w⟩,I:={ N.I with
    pfree:=fun p hp=>(List.mem_append.mp hp).elim (N.I.pfree p) fun h=>(at_ h).symm▸ap.1
    pnd:=List.nodup_append.mpr ⟨N.I.pnd,List.pairwise_map.mpr (hx.imp fun h e=>h (bf.ns.inj e).2),fun p hp q hq e=>ap.2.1 p hp (e▸at_ hq)⟩
    own:=⟨by show List.length (_++_)=List.length (_++_);rw [List.length_append,List.length_append,N.I.own.len,List.length_replicate,List.length_map],by show List.length (_++_)=List.length (_++_);rw [List.length_append,List.length_append,N.I.own.llen,List.length_replicate,List.length_map],
     fun i p o v h1 h2 h3=>k8 h1 (fun l1=>k8 h2 (fun l2=>k8 h3 (N.I.own.slot i p o v l1 l2) fun l b=>absurd (ct l1) (Nat.not_lt.mpr (N.I.own.llen▸l))) fun l b=>absurd (ct l1) (Nat.not_lt.mpr (N.I.own.len▸l)))
      fun l r1=>k8 h2 (fun l2=>absurd (N.I.own.len▸ct l2) (Nat.not_lt.mpr l)) fun b r2=>k8 h3 (fun l3=>absurd (N.I.own.llen▸ct l3) (Nat.not_lt.mpr l)) fun b r3=>by
       cases List.eq_of_mem_replicate (List.mem_of_getElem? r2)
       cases List.eq_of_mem_replicate (List.mem_of_getElem? r3)
       obtain ⟨x,_,rfl⟩:=List.mem_map.mp (List.mem_of_getElem? r1)
       exact .no ⟨m,hm⟩,
     fun i a h=>⟨(N.I.own.free i a (back i a h)).1,fun p hp=>(List.mem_append.mp hp).elim ((N.I.own.free i a (back i a h)).2 p) fun h' e=>onC i ((at_ h').symm.trans e▸back i a h)⟩,
     fun i j a h h'=>N.I.own.one i j a (back i a h) (back j a h')⟩ } }
def Now.cut {env:Env} (M:Now (Z.ext env C xs)):Now Z :=
 { P:=M.P,s:=M.s,own:=M.own.take Z.pl.length,σ:=⟨M.σ.loc.take Z.pl.length,M.σ.w⟩,I:={ M.I with
    pfree:=fun p hp=>M.I.pfree p (List.mem_append_left _ hp),pnd:=(List.nodup_append.mp M.I.pnd).1
    own:=⟨by rw [List.length_take,M.I.own.len];exact Nat.min_eq_left (by simp [aE.ext]),by show (List.take _ _).length=_;rw [List.length_take,M.I.own.llen];exact Nat.min_eq_left (by simp [aE.ext]),
     fun i p o v h1 h2 h3=>M.I.own.slot i p o v ((List.getElem?_append_left (ct h1)).trans h1) (fP h2) (fP h3),
     fun i a h=>⟨(M.I.own.free i a (fP h)).1,fun p hp=>(M.I.own.free i a (fP h)).2 p (List.mem_append_left _ hp)⟩,fun i j a h h'=>M.I.own.one i j a (fP h) (fP h')⟩ } }
section
variable {m:Str→Option Value} {env:Env} {hx:xs.Nodup} {ap:eh Z.A N.P Z.pl N.own Z.pl.length C} {hm:N.s.heap.Ns C m}
theorem Now.cut_le {M:Now (Z.ext env C xs)} (l:(N.ext (env:=env) hx ap hm).Le M):N.Le M.cut:=⟨l.P,fun i a h=>k8 (l.sh i a (fP h)) id fun b h=>nomatch List.eq_of_mem_replicate (List.mem_of_getElem? h)⟩
theorem bb.ext (S:bb N a o) (h:a≠C):bb (N.ext (env:=env) hx ap hm) a o :=
 ⟨S.F,fun p hp=>(List.mem_append.mp hp).elim (S.pl p) fun h'=>(List.mem_map.mp h').elim fun b e=>e.2▸h.symm,fun i h=>k8 h (S.own i) (fun b h=>nomatch List.eq_of_mem_replicate (List.mem_of_getElem? h)),S.at_,S.ni⟩
theorem bb.cut {M:Now (Z.ext env C xs)} (S:bb M a o):bb M.cut a o:=⟨S.F,fun p hp=>S.pl p (List.mem_append_left _ hp),fun i h=>S.own i (fP h),S.at_,S.ni⟩
end
structure nA (c:SC) (names:aq):Prop where
 nocell:∀ x∈names,x.2≠.cell
 free:∀ x,(x,.free)∈names→c.kind x=some .cell∨c.kind x=some .free
 nd:(names.map (·.1)).Nodup
 dot:((".0" : Str),NameKind.local)∈names
theorem nA.of (h:sS c names=true):nA c names :=
 have h:=Bool.and_eq_true_iff.mp h
 have h1:=Bool.and_eq_true_iff.mp h.1
 have al:=List.all_eq_true.mp h1.1
 ⟨fun x hx e=>(nomatch ((congrArg (fun k=>(match k with | .cell=>false | .free=>c.kind x.1==some .cell||c.kind x.1==some .free | _=>true:Bool)) e).symm.trans (al x hx))),
  fun x hx=>(Bool.or_eq_true_iff.mp (show (c.kind x==some .cell||c.kind x==some .free)=true from al _ hx)).imp beq_iff_eq.mp beq_iff_eq.mp,of_decide_eq_true h1.2,mem_of_lookup (beq_iff_eq.mp h.2)⟩
theorem sH {scope:Scope} {env:Env} {cl:List (Str×Addr)} {pl:List bf} (X:iQ c env pl) (K:nA c names) (hn:scope.names=names) (hk:scope.kind=.function) (hcl:∀ x,(x,.free)∈names→cl.lookup x=env.cells.lookup x)
 (hsl:∀ x,(x,.free)∈names→∃ i,c.slot x=some i):iQ (f0 c names) (compEnvC scope cl C env) (pl++yy C (kg names)) where
 fn:=hk
 len:=by rw [List.length_append,X.len,List.length_map];rfl
 gl:=X.gl
 bi:=X.bi
 code:=fun _ h=>nomatch h
 kind:=fun x=>by
  refine Eq.trans (congrArg (List.lookup x) (List.map_congr_left (g:=fun y=>(y.1,relF c y.1 y.2)) fun ⟨n,k⟩ _=>?_)) ((jr ..).trans (hn▸rfl))
  unfold relF
  dsimp only
  rw [X.kind,X.fn,show (ScopeKind.function==ScopeKind.function)=true from rfl,Bool.and_true]
  split<;>rfl
 loc:=fun x i h1 h2=>(Option.map_eq_some_iff.mp h1).elim fun k e=>by
  have hl:names.lookup x=some .local:=by
   have e2:relF c x k=.local:=e.2
   unfold relF at e2
   split at e2
   · cases e2
   · exact e2▸e.1
  have h2:(if names.lookup x=some .local then (tP names x).map (c.len+·) else c.slot x)=some i:=h2
  rw [if_pos hl] at h2
  obtain ⟨j,hj,rfl⟩:=Option.map_eq_some_iff.mp h2
  rw [List.getElem?_append_right (X.len▸Nat.le_add_right ..),X.len,Nat.add_sub_cancel_left]
  exact xj hj
 cel:=fun x i h1 h2=>by
  have hf:names.lookup x=some .free:=by
   have key:∀ kk,(names.lookup x).map (relF c x)=some kk→(kk=.cell∨kk=.free)→names.lookup x=some .free:=fun kk h hk=>by
    obtain ⟨k0,e1,e2⟩:=Option.map_eq_some_iff.mp h
    unfold relF at e2
    split at e2
    · rename_i hc;exact (beq_iff_eq.mp (Bool.and_eq_true_iff.mp hc).1)▸e1
    · subst e2;exact hk.elim (fun e=>(K.nocell _ (mem_of_lookup e1) e).elim) fun e=>e▸e1
   exact h1.elim (fun h=>key _ h (.inl rfl)) fun h=>key _ h (.inr rfl)
  have hm:=mem_of_lookup hf
  have h2:(if names.lookup x=some .local then (tP names x).map (c.len+·) else c.slot x)=some i:=h2
  rw [if_neg fun e:names.lookup x=some .local=>nomatch (hf.symm.trans e)] at h2
  exact (X.cel x i (K.free x hm) h2).imp fun a h=>⟨(hcl x hm).trans h.1,(List.getElem?_append_left (ct h.2)).trans h.2⟩
end
def pW (g:Gx) (c:SC) (k:Nat):List Expr→DT→Prop
 | [],dt=>dt=fun σ=>some (true,σ)
 | [t],dt=>bW g c k t dt
 | _,_=>False
noncomputable def bR (asg:DG) (dt:DT) (de:DE):List V→St→Option (List V×St)
 | [],σ=>some ([],σ)
 | v::r,σ=>(asg v σ).bind fun σ1=>(dt σ1).bind fun q=>if q.1 then (de q.2).bind fun u=>(bR asg dt de r u.2).map fun z=>(u.1::z.1,z.2) else bR asg dt de r q.2
def uz (di:DI) (m:Nat) (asg:DG) (dt:DT) (de:DE):DE:=fun σ=>(di σ).bind fun q =>
 if q.1.length≤LIM then (bR asg dt de q.1 ⟨q.2.loc++List.replicate m none,q.2.w⟩).map fun z=>(.lst z.1,⟨z.2.loc.take q.2.loc.length,z.2.w⟩) else none
noncomputable abbrev qG (ys:List Value) (n:Nat):Obj:={ cls:=.type "list",data:=.seq ys.toArray n }
section
variable {Z:aE} {N:Now Z} {g:Gx} {c:SC} {k:Nat} {I₀ D:Addr} {vs:List V} {t elt iter:Expr} {ifs:List Expr} {scope:Scope} {pos:Pos} {asg:DG} {dt:DT} {de:DE} {di:DI} {names:aq} {m:Nat}
theorem It.self {Ar:Around} {K E:Value→Shared→Prop} (T:It g N I₀ vs) (hA:Ar.handled=none) (h:K (.ref I₀) N.s):wpAny (model g.prog g.w) Ar (pyIter (.ref I₀)) K E N.s:=by cases T with | mk W S st=>exact (W.walk Ar hA).self _ _ _ _ st h
theorem uX {M:Model} {Ar:Around} {Q:Bool→Shared→Prop} {E:Value→Shared→Prop} {s:Shared} {env:Env} (h:wpAny M Ar (isTrue t env (eval t env)) Q E s) :
 wpAny M Ar (forIn [t] true fun c r=>if r=true then do let ok ← isTrue c env (eval c env);pure (ForInStep.yield ok) else pure (ForInStep.yield r)) Q E s:=by
 rw [List.forIn_cons,if_pos rfl]
 refine wpAny_bind (wpAny_bind (wpAny_mono h (fun ok s' q=>wpAny_pure ?_) fun a a e=>e))
 show wpAny M Ar (forIn ([]:List Expr) ok _) Q E s'
 rw [List.forIn_nil]
 exact wpAny_pure q
theorem vt {l:List (Addr×Obj)} {Q:Bool→St→Prop} {K:Bool→Shared→Prop} {E:Value→Shared→Prop} (HF:pW g c k ifs dt) (F:Fr g c k Z) (H:cn N l) (h:Ok2 (dt N.σ) Q) (q:∀ r:li N Q,cn r.N l→K r.b r.N.s) :
 wpAny (model g.prog g.w) Z.Ar (forIn ifs true fun c r=>if r=true then do let ok ← isTrue c Z.env (eval c Z.env);pure (ForInStep.yield ok) else pure (ForInStep.yield r)) K E N.s :=
 match ifs,HF with
 | [],e=>(List.forIn_nil (m:=Sem)).symm▸wpAny_pure (q ⟨true,N,.refl _,u2 (show Ok2 (some (true,N.σ)) Q from congrFun (show dt=_ from e) N.σ▸h)⟩ H)
 | [_],HF=>uX (bW.hold HF F H h q)
structure CompJ (g:Gx) (N M:Now Z) (I₀ D:Addr) (L:List V→St→Option (List V×St)) (Q:List V→St→Prop) (n:Nat) (vs zs:List V) (ys:List Value) (m:Nat):Prop where
 le:N.Le M
 n:vs.length=n
 it:It g M I₀ vs
 sd:bb M D (qG ys m)
 hy:VRels M.P zs ys
 hl:zs.length+vs.length≤LIM
 h:Ok2 (L vs M.σ) fun r σ=>Q (zs++r) σ
def CompI (g:Gx) (N:Now Z) (I₀ D:Addr) (L:List V→St→Option (List V×St)) (Q:List V→St→Prop) (n:Nat) (s:Shared):Prop :=
 ∃ M:Now Z,M.s=s∧∃ vs zs ys m,CompJ g N M I₀ D L Q n vs zs ys m
theorem held2 {o o':Obj} (S:bb N I₀ o) (T:bb N D o'):cn N [(I₀,o),(D,o')]:=fun x hx=>by
 rcases List.mem_cons.mp hx with rfl | hx
 · exact S
 · cases List.mem_singleton.mp hx;exact T
theorem vF {Q:List V→St→Prop} {R₀:Result→Shared→Prop} {n0:Nat} (F:Fr g c k Z) (T:It g N I₀ vs) (SD:bb N D (qG [] n0)) (hD:D≠I₀)
 (Ht:gw g c k t asg) (HF:pW g c k ifs dt) (He:ak g c k elt de) (hg:∀ v,letOwnedTupleGo t (.ref I₀) v=pure ()) (hlen:vs.length≤LIM) (h:Ok2 (bR asg dt de vs N.σ) Q)
 (q:∀ (M:Now Z) zs ys n,N.Le M→Q zs M.σ→bb M D (qG ys n)→VRels M.P zs ys→R₀ (.ok .next) M.s) :
 codeAny (model g.prog g.w) Z.Ar (.compLoop (.ListComp elt [⟨t,iter,ifs,0⟩] scope pos) 0 (.ref I₀) (.ref D) Z.env) R₀ N.s:=by
 refine codeAny_compLoop_tests (CompI g N I₀ D (bR asg dt de) Q) (fun n s h=>h.elim fun M h=>h.1▸h.2.elim fun vs h=>h.elim fun zs h=>h.elim fun ys h=>h.elim fun m J=>?_) vs.length ⟨N,rfl,vs,[],[],n0,.refl _,rfl,T,SD,bz,(Nat.zero_add _).symm▸hlen,h⟩ hg
 refine J.it.next F.R.handled (fun v r x M1 e eσ l rel T1 sd=>?_) fun M1 e eσ l sd=>?_
 · have hd:Ok2 (bR asg dt de (v::r) M1.σ) fun r σ=>Q (zs++r) σ:=by rw [eσ,← e];exact J.h
   have hn:r.length<n:=J.n▸e▸Nat.lt_succ_self _
   have hl:zs.length+(r.length+1)≤LIM:=(congrArg (zs.length+·) (congrArg List.length e)).symm▸J.hl
   refine T1.keep.elim fun o h=>h.elim fun S keep=>Ht.hold (held2 S (sd D _ J.sd hD)) F rel (uv hd) fun M2 l2 h2 H2=>vt HF F H2 (ub h2) fun b Hb=>?_
   have l3:=l.trans (l2.trans b.le)
   have keep':∀ M':Now Z,b.N.Le M'→bb M' I₀ o→It g M' I₀ r:=fun M' l' S'=>keep M' ((l2.trans b.le).trans l').P S'
   have hb:=b.q
   revert hb
   generalize b.b=b'
   intro hb
   cases b' with
   | false=>exact ⟨r.length,hn,b.N,rfl,r,zs,ys,m,J.le.trans l3,rfl,keep' _ (.refl _) (Hb _ List.mem_cons_self),Hb _ (List.mem_cons_of_mem _ List.mem_cons_self),VRels.up l3.P J.hy,Nat.le_of_succ_le hl,hb⟩
   | true =>
    refine He.hold F Hb (ub hb) fun y Hy=>?_
    have T5:=Hy _ (List.mem_cons_of_mem _ List.mem_cons_self)
    have l5:=l3.trans y.le
    refine wpAny_list_append_plain ⟨m,T5.at_⟩ (fun h5 hp hb5=>hp.elim fun n' hp=>?_) (tz J.hy (Nat.le_trans (Nat.le_add_right ..) J.hl))
    have S5:=Hy _ List.mem_cons_self
    have kk:∀ b ob,b≠D→y.N.s.heap.get? b=some ob→h5.get? b=some ob:=fun b ob nb e=>(hb5.2 b nb).trans e
    exact ⟨r.length,hn,y.N.other (h':=h5) T5 y.N.s.toks kk,rfl,r,zs++[y.v],ys++[y.x],n',J.le.trans (l5.trans ⟨.refl _,fun d d e=>e⟩),rfl,keep' _ ⟨y.le.P,y.le.sh⟩ (S5.to (kk _ _ hD.symm S5.at_) S5.ni),
     T5.to (hp.trans (by rw [List.push_toArray])) fun d d e=>(nomatch congrArg Obj.cls e),(VRels.up l5.P J.hy).append (bk y.rel bz),by rw [List.length_append,Nat.add_assoc,Nat.add_comm [y.v].length];exact hl,(um2 y.q).imp fun a b h=>(congrArg (Q · b) (List.append_assoc zs [y.v] a)).mpr h⟩
 · have h0:Ok2 (bR asg dt de [] M1.σ) fun r σ=>Q (zs++r) σ:=by rw [eσ,← e];exact J.h
   exact q M1 zs ys m (J.le.trans l) ((congrArg (Q · M1.σ) (List.append_nil zs)).mp (u2 (a:=([]:List V)) (Q:=fun r σ=>Q (zs++r) σ) h0)) (sd D _ J.sd hD) (VRels.up l.P J.hy)
structure CompF (g:Gx) (c:SC) (k:Nat) (t elt:Expr) (ifs:List Expr) (asg:DG) (dt:DT) (de:DE):Prop where
 Ht:gw g c k t asg
 HF:pW g c k ifs dt
 He:ak g c k elt de
 hg:∀ I₀ v,letOwnedTupleGo t (.ref I₀) v=pure ()
theorem vG {cl:List (Str×Addr)} {Q:List V→St→Prop} {RR:Value→Addr→Result→Shared→Prop} {E:Value→Shared→Prop} (F:Fr g c k Z) (K:nA c names) (hn:scope.names=names) (hk:scope.kind=.function)
 (hcl:∀ x,(x,.free)∈names→cl.lookup x=Z.env.cells.lookup x) (hsl:∀ x,(x,.free)∈names→∃ i,c.slot x=some i) (T:It g N I₀ vs) (C:CompF g (f0 c names) k t elt ifs asg dt de) (hlen:vs.length≤LIM)
 (h:Ok2 (bR asg dt de vs ⟨N.σ.loc++List.replicate (kg names).length none,N.σ.w⟩) Q)
 (q:∀ (M:Now Z) zs σ D C oC m,N.Le M→Q zs σ→M.σ=⟨σ.loc.take Z.pl.length,σ.w⟩→ao M.P (.lst zs) (.ref D)→bb M C oC→M.s.heap.Ns C m→RR (.ref D) C (.ok .next) M.s) :
 wpAny (model g.prog g.w) Z.Ar (newList []) (fun acc s₃=>wpAny (model g.prog g.w) Z.Ar (newFunctionEnv scope Z.env.globals cl [] Z.env.qual none .none (some Z.env)) (fun cenv s₄ =>
  codeAny (model g.prog g.w) Z.Ar (.compStart (.ListComp elt [⟨t,iter,ifs,0⟩] scope pos) 0 (.ref I₀) acc { cenv with scope:=relabel scope Z.env }) (RR acc cenv.locals) s₄) E s₃) E N.s:=by
 refine wpAny_newObj_type (wpAny_newFunctionEnv (fun y hy=>K.nocell y (hn▸hy)) (fun y hy=>nomatch hy) (fun h₁ hns₁ hsb₁=>?_) hk)
 dsimp only at hns₁ hsb₁ ⊢
 generalize hH2:N.s.heap.push { cls:=.type "list",dict:=none,data:=.seq ([]:List Value).toArray }=H2 at hns₁ hsb₁ ⊢
 have hC:H2.objs.size=N.s.heap.objs.size+1:=hH2▸Heap.size_push ..
 have hDn:N.s.heap.get? N.s.heap.objs.size=none:=bo _
 have hCn:N.s.heap.get? H2.objs.size=none:=aG fun o e=>Nat.lt_irrefl _ (Nat.lt_of_succ_lt (hC▸Heap.lt_size e))
 have hDC:N.s.heap.objs.size≠H2.objs.size:=fun e=>Nat.lt_irrefl _ (Nat.lt_of_lt_of_eq (Nat.lt_succ_self _) (hC.symm.trans e.symm))
 have below:∀ b o,N.s.heap.get? b=some o→b≠H2.objs.size:=fun b o e=>b6 hCn e
 have old:∀ b o,N.s.heap.get? b=some o→h₁.get? b=some o:=fun b o e=>hsb₁.extBut b o (below b o e) (Heap.get?_push_of_some _ (hH2▸Heap.get?_push_of_some _ e))
 have hD1:h₁.get? N.s.heap.objs.size=some (qG [] 0):=hsb₁.extBut _ _ hDC (Heap.get?_push_of_some _ (hH2▸Heap.get?_push_size _ rfl))
 refine Classical.byContradiction fun hn_=>?_
 obtain ⟨oI,SI,keep⟩:=T.keep
 have apD:=N.I.apart (i:=Z.pl.length) hDn
 have apC:=N.I.apart (i:=Z.pl.length) hCn
 have noX:∀ {a},eh Z.A N.P Z.pl N.own Z.pl.length a→∀ i:Nat,N.own[i]?≠some (some a):=fun ap i h=>ap.2.2 i (fun z=>Nat.lt_irrefl _ (Nat.lt_of_lt_of_eq (ct h) (N.I.own.len.trans z.symm))) h
 refine hn_ ?_;clear hn_
 let N1:Now Z:=N.keeps (h':=h₁) (N.s.toks+0) old
 have SI1:bb N1 I₀ oI:=⟨SI.F,SI.pl,SI.own,old _ _ SI.at_,SI.ni⟩
 have SD1:bb N1 N.s.heap.objs.size (qG [] 0):=⟨apD.1,apD.2.1,noX apD,hD1,fun d d e=>nomatch congrArg Obj.cls e⟩
 let N2:Now (Z.ext (compEnvC scope cl H2.objs.size Z.env) H2.objs.size (kg names)):=N1.ext (sf K.nd) apC hns₁
 have dotp:bf.ns H2.objs.size ".0" ∈ Z.pl++yy H2.objs.size (kg names):=List.mem_append_right _ (List.mem_map.mpr ⟨_,locN_of K.dot,rfl⟩)
 have L:codeAny (model g.prog g.w) Z.Ar (.compLoop (.ListComp elt [⟨t,iter,ifs,0⟩] scope pos) 0 (.ref I₀) (.ref N.s.heap.objs.size) (compEnvC scope cl H2.objs.size Z.env)) (RR (.ref N.s.heap.objs.size) H2.objs.size) N2.s :=
  vF (Z:=Z.ext (compEnvC scope cl H2.objs.size Z.env) H2.objs.size (kg names)) (N:=N2) ⟨sH F.X K hn hk hcl hsl,F.R,F.B,fun d d h=>nomatch h⟩ (keep N2 (.refl _) (SI1.ext (below _ _ SI.at_))) (SD1.ext hDC) (fun e=>aL (hDn.symm.trans (e▸SI.at_))) C.Ht C.HF C.He (C.hg I₀) hlen h fun M zs ys n l hq SD hys=>by
   obtain ⟨jj,hj⟩:=List.mem_iff_getElem?.mp dotp
   obtain ⟨m,hm⟩:=M.I.placeOk hj
   have hm':M.s.heap.Ns H2.objs.size m:=hm
   obtain ⟨oC,es,ep,hoC,hdC,_⟩:=id hm'
   have lc:N.Le M.cut:=have l':=Now.cut_le l;⟨l'.P,l'.sh⟩
   have SD':bb M.cut _ _:=SD.cut
   have F':=M.I.pfree _ dotp
   exact q (M.cut.layS SD') zs M.σ _ _ oC m (lc.trans Now.layS_le) hq rfl (eA ⟨_,_,Gh.put_self _ _ _,rfl,rfl⟩ (VRels.up (Now.layS_le (S:=SD')).P hys))
    ⟨F'.put hDC.symm,apC.2.1,fun j e=>(M.I.own.free j _ (fP e)).2 _ dotp rfl,hoC,fun cc dd e=>nomatch (congrArg Obj.data e).symm.trans hdC⟩ hm'
 refine codeAny_compStart_list L ((keep N1 (.refl _) SI1).self F.R.handled L)
theorem kT {spos:Pos} {Q:V→St→Prop} {K E:Value→Shared→Prop} {use:Option (Value→Sem Unit)} (F:Fr g c k Z) (hK:nA c names) (hn:scope.names=names) (hk:scope.kind=.function) (hsl:∀ x,(x,.free)∈names→∃ i,c.slot x=some i) (hm:(kg names).length=m)
 (Hi:kG g c k iter di) (C:CompF g (f0 c names) k t elt ifs asg dt de) (hs:∀ env x,foldedSetIterable iter env x=pure x) (h:Ok2 (uz di m asg dt de N.σ) Q)
 (q:∀ (r:Res N Q) C oC m,bb r.N C oC→r.N.s.heap.Ns C m→compPost (model g.prog g.w) Z.Ar E use K r.x C (.ok .next) r.N.s) :
 wpAny (model g.prog g.w) Z.Ar (comprehension (.ListComp elt [⟨t,iter,ifs,0⟩] scope pos) scope Z.env spos (newList []) false (eval iter Z.env) use) K E N.s :=
 (iK (env:=Z.env) (scope:=scope) fun x hx=>(hsl x (hn▸hx)).elim fun i hi=>(F.X.cel x i (hK.free x (hn▸hx)) hi).imp fun a h=>h.1).elim fun cl hc =>
 wpAny_comprehension_free (use:=use) rfl (hs _) hc.1 hk (fun y hy hl=>ff (hn▸hK.nd) (hl▸hy))
  (Hi F N (ub h) fun r=>have h1:=uib r.q
   vG (RR:=fun acc C=>compPost (model g.prog g.w) Z.Ar E use K acc C) F hK hn hk (fun x hx=>hc.2 x (hn▸hx)) hsl r.itf.it C h1.1 (hm▸um2 h1.2) fun M zs σ D C oC mm le hq eσ hv TC hN =>
    q ⟨.lst zs,_,M,r.le.trans le,hv,eσ▸(show List.length r.N.σ.loc=Z.pl.length from r.N.I.own.llen)▸hq⟩ C oC mm TC hN)
theorem jK (hK:sS c names=true) (hn:scope.names=names) (hk:scope.kind=.function) (hsl:∀ x,(x,.free)∈names→∃ i,c.slot x=some i)
 (hm:(kg names).length=m) (Hi:kG g c k iter di) (Ht:gw g (f0 c names) k t asg) (HF:pW g (f0 c names) k ifs dt) (He:ak g (f0 c names) k elt de) (hs:∀ env x,foldedSetIterable iter env x=pure x) (hg:∀ I₀ v,letOwnedTupleGo t (.ref I₀) v=pure ()) :
 ak g c k (.ListComp elt [⟨t,iter,ifs,0⟩] scope pos) (uz di m asg dt de):=by
 intro Z F N Q K E h q
 rw [eval_ListComp]
 exact kT F (.of hK) hn hk hsl hm Hi ⟨Ht,HF,He,hg⟩ hs h fun r C oC mm TC hN=>⟨mm,hN,fun h' hb=>q ⟨r.v,r.x,r.N.other (h':=h') TC r.N.s.toks fun b o nb e=>(hb.2 b nb).trans e,⟨r.le.P,r.le.sh⟩,r.rel,r.q⟩⟩
theorem vA {y:Str} {py spos:Pos} {i:Nat} (hK:sS c names=true) (hn:scope.names=names) (hk:scope.kind=.function) (hsl:∀ x,(x,.free)∈names→∃ i,c.slot x=some i)
 (hm:(kg names).length=m) (Hi:kG g c k iter di) (Ht:gw g (f0 c names) k t asg) (HF:pW g (f0 c names) k ifs dt) (He:ak g (f0 c names) k elt de) (hs:∀ env x,foldedSetIterable iter env x=pure x) (hg:∀ I₀ v,letOwnedTupleGo t (.ref I₀) v=pure ())
 (hy:c.kind y=some .local) (hi:c.slot y=some i) (hsw:∀ env,env.scope.kind=.function→env.kindOf y=some .local→swapsWith (.ListComp elt [⟨t,iter,ifs,0⟩] scope pos) (some (.Name y py)) spos.line env=pure true) :
 cO g c k (.Assign [.Name y py] (.ListComp elt [⟨t,iter,ifs,0⟩] scope pos) spos) (pD i (uz di m asg dt de)):=by
 intro Z F N Q K E h q
 rw [exec_Assign_Name_used _ _ _ _ (hsw _ F.X.fn ((F.X.kind y).trans hy))]
 refine wpAny_bind (wpAny_standAt (wpAny_bind ?_))
 show wpAny _ Z.Ar (do let _ ← comprehension (.ListComp elt [⟨t,iter,ifs,0⟩] scope pos) scope Z.env _ (newList []) false (eval iter Z.env) (some (assign (.Name y py) Z.env))) _ _ N.s
 exact wpAny_bind (kT F (.of hK) hn hk hsl hm Hi ⟨Ht,HF,He,hg⟩ hs (ub h) fun r C oC mm TC hN =>
  (bh (.inl hy) hi).hold (n3 TC) F r.rel (T:=fun s=>Q .nxt s) (okv (u2 r.q)) fun M l hT H=>have S:=H _ List.mem_cons_self
   ⟨mm,hN.at' fun o e=>Option.some.inj (TC.at_.symm.trans e)▸S.at_,fun h' hb=>wpAny_pure (wpAny_pure (q ⟨.nxt,.next,M.other (h':=h') S M.s.toks fun b o nb e=>(hb.2 b nb).trans e,r.le.P.trans l.P,rfl,hT⟩))⟩)
end
structure hV (K:Frag) (C:Addr) (name:Str):Prop where
 get:plainGet K C name=true
 dict:hasDictIn K C=true
 find:∃ attr,findIn K (.ref C) name=some attr∧noGet K attr=true
structure dN (K:Frag) (C:Addr) (name:Str):Prop where
 set:findIn K (.ref C) "__setattr__" = some (some (.builtin "object.__setattr__"))
 over:plainOver K C=true
 taker:takerIn K C name=some none
 dict:hasDictIn K C=true
set_option backward.match.sparseCases false in
noncomputable def kM:V→Bool
 | .bi _=>false
 | _=>true
set_option backward.match.sparseCases false in
noncomputable def asO:V→Option (Addr×List (Str×V)) | .obj c f=>some (c,f) | _=>none
theorem nr {v:V} {w:Addr×List (Str×V)} (h:asO v=some w):v=.obj w.1 w.2:=by cases v<;>first | exact aL h | exact Option.some.inj h▸rfl
set_option backward.match.sparseCases false in
noncomputable def asF:V→Option (Addr×List (Str×V)) | .mi c f=>some (c,f) | _=>none
theorem asF_e {v:V} {w:Addr×List (Str×V)} (h:asF v=some w):v=.mi w.1 w.2:=by cases v<;>first | exact aL h | exact Option.some.inj h▸rfl
def dattr1 (C:Addr) (name:Str) (q:V×St):Option (V×St):=(asO q.1).bind fun w=>if w.1=C then (w.2.lookup name).bind fun v=>if kM v=true then some (v,q.2) else none else none
def zk (C:Addr) (name:Str) (d:DE):DE:=fun σ=>(d σ).bind (dattr1 C name)
def dseta1 (i:Nat) (C:Addr) (name:Str) (q:V×St):Option (Fl×St):=((bU i q.2).bind asF).bind fun w=>if w.1=C∧w.2.lookup name=none∧w.2.length≤50 then some (.nxt,q.2.set i (.mi w.1 (w.2++[(name,q.1)]))) else none
def dseta (i:Nat) (C:Addr) (name:Str) (d:DE):DS:=fun σ=>(d σ).bind (dseta1 i C name)
section
variable {Z:aE} {N:Now Z} {P:Gh} {g:Gx} {c:SC} {k i:Nat} {C:Addr} {K:Frag} {e:Expr} {d:DE} {x name:Str} {p1 p2 pos:Pos} {s:Shared} {Ar:Around} {E:Value→Shared→Prop}
theorem ao.as {v u:V} {x:Value} (h:ao P v x) (e:v=u):ao P u x:=e▸h
theorem kj {v:V} {x:Value} (h:kM v=true) (hx:ao P v x):handedIn x=true :=
 match v,h,hx with
 | .none,_,hx=>l9 (C:=fun x=>handedIn x=true) hx rfl
 | .bool _,_,hx=>s4 (C:=fun x=>handedIn x=true) hx rfl
 | .int _,_,hx=>tV (C:=fun x=>handedIn x=true) hx fun a=>rfl
 | .str _,_,hx=>lK (C:=fun x=>handedIn x=true) hx fun a=>rfl
 | .byt _,_,hx=>zM (C:=fun x=>handedIn x=true) hx fun a a=>rfl
 | .adr _,_,hx=>oj (C:=fun x=>handedIn x=true) hx rfl
 | .ty _,_,hx=>j8 (C:=fun x=>handedIn x=true) hx rfl
 | .tup _,_,hx=>wf (C:=fun x=>handedIn x=true) hx fun a a a a=>rfl
 | .lst _,_,hx=>xg (C:=fun x=>handedIn x=true) hx fun a a a a=>rfl
 | .dct _,_,hx=>zc (C:=fun x=>handedIn x=true) hx fun a a a a a=>rfl
 | .obj _ _,_,hx=>jk (C:=fun x=>handedIn x=true) hx fun a a a a a a=>rfl
 | .wref,_,hx=>rJ (C:=fun x=>handedIn x=true) hx fun a a=>rfl
 | .ml _,_,hx=>hx.elim
 | .md _,_,hx=>hx.elim
 | .mi _ _,_,hx=>hx.elim
theorem mu {k:Str} {t:Tok} (h:(name==k)=false):(Value.str k t).isStr name=false:=beq_eq_false_iff_ne.mpr fun e=>by rw [e,beq_self_eq_true] at h;cases h
theorem VRelF.getL {v:V}:∀ {f:List (Str×V)} {es:List DictEntry},VRelF P f es→f.lookup name=some v→∃ x,W.getL name es=some (some x)∧ao P v x
 | [],_,_,h=>nomatch h
 | (k,u)::r,es,hf,h=>hf.elim fun t hf=>hf.elim fun y hf=>hf.elim fun es' hf=>by
  rw [hf.1]
  rw [List.lookup_cons] at h
  unfold W.getL
  rw [List.find?_cons]
  cases hb:name==k with
  | true =>
   rw [hb] at h
   rw [show (Value.str k t).isStr name=true from beq_iff_eq.mpr (beq_iff_eq.mp hb).symm]
   exact ⟨y,rfl,Option.some.inj h▸hf.2.1⟩
  | false =>
   rw [hb] at h
   refine (VRelF.getL hf.2.2 h).imp fun x q=>⟨?_,q.2⟩
   have h3:=q.1
   unfold W.getL at h3
   rw [mu hb]
   cases hq:List.find? (fun x=>x.key.isStr name) es' with
   | some e=>rw [hq] at h3;exact h3
   | none =>
    rw [hq] at h3
    dsimp only at h3
    split at h3<;>cases h3
theorem VRelF.append {f2:List (Str×V)}:∀ {f:List (Str×V)} {es es2:List DictEntry},VRelF P f es→VRelF P f2 es2→VRelF P (f++f2) (es++es2)
 | [],_,es2,h,h2=>(show _=[] from h)▸h2
 | _::_,_,es2,h,h2=>h.elim fun t h=>h.elim fun y h=>h.elim fun es' h=>⟨t,y,es'++es2,h.1▸rfl,h.2.1,VRelF.append h.2.2 h2⟩
structure FKeys (name:Str) (f:List (Str×V)) (es:List DictEntry):Prop where
 len:es.length=f.length
 rk:∀ e∈es,e.refKey=false
 ne:f.lookup name=none→∀ e∈es,e.key.isStr name=false
theorem VRelF.keys:∀ {f:List (Str×V)} {es:List DictEntry},VRelF P f es→FKeys name f es
 | [],_,h=>(show _=[] from h)▸⟨rfl,fun b h=>(nomatch h),fun b b h=>(nomatch h)⟩
 | (k,v)::r,_,h=>h.elim fun t h=>h.elim fun y h=>h.elim fun es' h=>h.1▸(have a:FKeys name r es':=VRelF.keys h.2.2
  ⟨congrArg (· + 1) a.len,fun e he=>(List.mem_cons.mp he).elim (fun e=>e▸rfl) (a.rk e),fun hl e he=>by
   rw [List.lookup_cons] at hl
   cases hb:name==k with
   | true=>rw [hb] at hl;cases hl
   | false =>
    rw [hb] at hl
    exact (List.mem_cons.mp he).elim (fun e=>e▸mu hb) (a.ne hl e)⟩)
theorem eI (KI:K.In g.h0) (T:hV K C name) (H:ak g c k e d)
 (he:∀ env,eval (.Attribute e name pos) env=(do
  let o ← eval e env
  standAt pos.atName
  let r ← holding [o] (getAttr o name true)
  letTemporaryGo e o r
  pure r)):ak g c k (.Attribute e name pos) (zk C name d) :=
 fun F N Q K' E h q=>Attribute_any_ (H F N (ub h) fun y=>(uv y.q).elim fun w h=>have h1:=uib h.2;(uv h1.2).elim fun v h2=>have h3:=ui h2.2
  jk (C:=fun x=>wpAny _ _ (getAttr x name true) K' E y.N.s) (y.rel.as (nr h.1)) fun a dx es q1 q2 q3=>q2.elim fun n q2=>(q3.getL h2.1).elim fun z h5=>T.find.elim fun attr ha =>
   get_value (fun b o e=>y.N.base F.B (KI b o e)) (show InstAt y.N.s.heap a (instObj C dx) C (some (dictOf es n)) from ⟨y.N.I.pin _ _ (q1.trans (congrArg (fun c=>some (instObj c dx)) h1.1)),rfl,rfl,y.N.I.pin _ _ q2⟩) (plainGet_of T.get).1 (findObj_own T.dict ha.1 ha.2 h5.1) (kj h3.1 h5.2) (q ⟨v,z,y.N.toks (y.N.s.toks+1),y.le.trans Now.toks_le,h5.2,h3.2⟩)) (he _)
theorem osa_any {prog:Program} {w:World} {a dx:Addr} {es:List DictEntry} {n:Nat} {name:Str} {tk:Tok} {v:Value} {R:Result→Shared→Prop} (X:K.In s.heap) (hx:s.heap.get? a=some (instObj C dx)) (D:s.heap.get? dx=some (dictOf es n)) (T:dN K C name)
 (hn:∀ e∈es,e.key.isStr name=false) (hr:∀ e∈es,e.refKey=false) (hz:es.length≤900)
 (h:∀ h',h'.get? dx=some (dictOf (es++[⟨PyData.keyHash w.params name,.str name s.toks,v⟩]) (n+1))→Heap.SameBut dx s.heap h'→R (.ok (.ret .none)) { s with heap:=h',toks:=s.toks+1 }) :
 codeAny (model prog w) Ar (.call (.builtin "object.__setattr__") ⟨[.ref a,.str name tk,v],[]⟩) R s:=by
 have Ia:InstAt s.heap a (instObj C dx) C (some (dictOf es n)):=⟨hx,rfl,rfl,D⟩
 refine osa_open X Ia T.over T.taker fun b=>?_
 refine Classical.byContradiction fun hn_=>?_
 obtain ⟨cd,hc,hd'⟩:=any_some T.dict
 have hany:es.any (·.key.isStr name)=false:=by
  cases q:es.any (·.key.isStr name) with
  | false=>rfl
  | true=>obtain ⟨e,he,z⟩:=List.any_eq_true.mp q;rw [hn e he] at z;cases z
 have hpn:Obj.putName name (PyData.keyHash w.params name) (.str name s.toks) v (dictOf es n)=dictOf (es++[⟨PyData.keyHash w.params name,.str name s.toks,v⟩]) (n+1):=by
  rw [putName_dict]
  have e1:putN name es n=n+1:=by unfold putN;rw [hany];rfl
  have e2:∀ l:List DictEntry,(∀ e∈l,e.key.isStr name=false)→putL name (PyData.keyHash w.params name) (.str name s.toks) v l=l++[⟨PyData.keyHash w.params name,.str name s.toks,v⟩]:=fun l hl=>putL_new hl
  rw [e1,e2 es hn]
 have D':(s.heap.update dx (Obj.putName name (PyData.keyHash w.params name) (.str name s.toks) v)).get? dx=some (dictOf (es++[⟨PyData.keyHash w.params name,.str name s.toks,v⟩]) (n+1)):=by
  rw [Heap.get?_update_self _ D (by rw [hpn];rfl),hpn]
 refine hn_ ?_;clear hn_
 refine wpAny_bind (wpAny_pure (wpAny_bind (wpAny_bind (wpAny_loadPart hx (wpAny_bind ((looks_clsIn X hc).here ?_))))))
 rw [hd']
 refine wpAny_pure (a:=some dx) (wpAny_bind (wpAny_pure (wpAny_bind ?_)))
 unfold nsSet
 refine wpAny_bind (wpAny_bind (wpAny_askSetting (wpAny_pure (wpAny_bind (wpAny_mkText (wpAny_bind (wpAny_loadPart D ?_)))))))
 have hc2:(!es.toArray.any (·.key.isStr name)&&es.toArray.any (·.refKey))=false:=by
  have:es.any (·.refKey)=false:=by
   cases q:es.any (·.refKey) with
   | false=>rfl
   | true=>obtain ⟨e,he,z⟩:=List.any_eq_true.mp q;rw [hr e he] at z;cases z
  rw [← Array.any_toList,← Array.any_toList]
  simp [hany,this]
 dsimp only
 rw [aRefKeyMayBeTheName_at,hc2]
 refine wpAny_updatePart D ?_
 refine wpAny_bind (wpAny_lookBehind D' (by exact pastItsLine_dict (by rw [List.size_toArray,List.length_append,sizeLine_eq];simp only [List.length_singleton];omega)) ?_)
 exact wpAny_pure (h _ D' (Heap.SameBut.update ..))
theorem set_any {prog:Program} {w:World} {a dx:Addr} {es:List DictEntry} {n:Nat} {name:Str} {v:Value} {Q:Unit→Shared→Prop} (X:K.In s.heap) (hx:s.heap.get? a=some (instObj C dx)) (D:s.heap.get? dx=some (dictOf es n)) (T:dN K C name)
 (hn:∀ e∈es,e.key.isStr name=false) (hr:∀ e∈es,e.refKey=false) (hz:es.length≤900)
 (h:∀ h',h'.get? dx=some (dictOf (es++[⟨PyData.keyHash w.params name,.str name (s.toks+1),v⟩]) (n+1))→Heap.SameBut dx s.heap h'→Q () { s with heap:=h',toks:=s.toks+2 }) :
 wpAny (model prog w) Ar (setAttr (.ref a) name v) Q E s:=by
 have Ia:InstAt s.heap a (instObj C dx) C (some (dictOf es n)):=⟨hx,rfl,rfl,D⟩
 refine set_plain X Ia T.set ?_
 exact osa_any (s:={ s with toks:=s.toks+1 }) X hx D T hn hr hz h
theorem cb.miQ {A:Act} {P:Gh} {h:Heap} {o:Option Addr} {v:V} {x:Value} {w:Addr×List (Str×V)} {C:Option Addr→Value→Prop} (H:cb A P h o v x) (e:v=.mi w.1 w.2)
 (q:∀ a dx es n,A.dx=dx→A.hp a=some (instObj w.1 dx)→P.wa≠some a→h.get? dx=some (dictOf es n)→VRelF P w.2 es→C (some dx) (.ref a)):C o x:=by
 subst e
 cases H with
 | val r=>exact r.elim
 | mi a b c d e=>exact q _ _ _ _ a b c d e
theorem Now.miOf (N:Now Z) {w:Addr×List (Str×V)} {C:Prop} (h:(bU i N.σ).bind asF=some w)
 (q:∀ p a dx es n,Z.pl[i]? = some p→N.own[i]? = some (some dx)→Holds N.s.heap p (.ref a)→Z.A.dx=dx→Z.A.hp a=some (instObj w.1 dx)→N.P.wa≠some a→N.s.heap.get? a=some (instObj w.1 dx)→N.s.heap.get? dx=some (dictOf es n)→VRelF N.P w.2 es→C):C :=
 aF h fun v e1 e2=>N.I.slotOf (eL e1) fun p o y h1 h2 h3 h4=>h4.miQ (C:=fun o y=>N.own[i]? = some o→Holds N.s.heap p y→C) (asF_e e2)
  (fun a dx es n q0 q1 q2 q3 q4 h2 h3=>q p a dx es n h1 h2 h3 q0 q1 q2 (N.I.keep _ _ q1 q2 (N.I.ntO q1 l8) (N.I.notFrO q1 fun b b e=>nomatch e)) q3 q4) h2 h3
theorem cu (KI:K.In g.h0) (T:dN K C name) (H:ak g c k e d) (hk:c.kind x=some .local) (hs:c.slot x=some i) (hd:(x==("__debug__" : Str))=false)
 (hx:∀ env,exec (.Assign [.Attribute (.Name x p1) name p2] e pos) env=(do
  standAt pos
  let v ← eval e env
  assign (.Attribute (.Name x p1) name p2) env v
  pure .next))
 (ha:∀ env v,assign (.Attribute (.Name x p1) name p2) env v=(do
  let ov ← holding [v] (eval (.Name x p1) env)
  standAt p2.atName
  holding [v,ov] (setAttr ov name v)
  release [v,ov] [])):cO g c k (.Assign [.Attribute (.Name x p1) name p2] e pos) (dseta i C name d):=by
 intro Z F N Q K' E h q
 rw [hx]
 refine wpAny_bind (wpAny_standAt (wpAny_bind (H F N (ub h) fun y=>(uv y.q).elim fun w h=>?_)))
 have h1:=ui h.2
 rw [ha]
 refine y.N.miOf h.1 fun p a dx es n g1 g2 g3 g0 g4 g6 g7 g8 g9=>?_
 obtain ⟨m,hm⟩:=(Option.some.inj ((F.X.loc x i hk hs).symm.trans g1)▸g3:Holds y.N.s.heap (.ns _ x) (.ref a))
 refine wpAny_bind (wpAny_bind (wpAny_holding (wpAny_Name (wpAny_loadName_local F.X.fn ((F.X.kind x).trans hk) hm.1 hm.2 ?_) hd)))
 refine wpAny_bind (wpAny_standAt ?_)
 have kk:=g9.keys (name:=name)
 refine wpAny_bind (wpAny_holding (set_any (fun b o e=>y.N.base F.B (KI b o e)) (g7.trans (congrArg (fun c=>some (instObj c dx)) h1.1.1)) g8 T (kk.ne h1.1.2.1) kk.rk (Nat.le_trans (Nat.le_of_eq kk.len) (Nat.le_trans h1.1.2.2 (by decide))) fun h' hd' hb=>?_))
 refine wpAny_release (wpAny_pure (q ⟨.nxt,.next,⟨_,_,_,_,y.N.I.turn (t:=y.N.s.toks+2) g2 (v:=.mi w.1 (w.2++[(name,y.v)])) (fun b o nb q=>(hb.2 b nb).trans q) fun v0 x0 hv0 hx0=>?_⟩,y.le.P,rfl,h1.2⟩))
 exact hx0.miQ (C:=fun o x0=>o=some dx→cb _ _ _ (some dx) _ x0) (aF h.1 fun f e1 e2=>(Option.some.inj (Option.some.inj (hv0.symm.trans (eL e1)))).trans (asF_e e2))
  (fun a' dx' es' n' q0 q1 q2 q3 q4 e=>by
   cases Option.some.inj e
   exact .mi q0 q1 q2 hd' (VRelF.append g9 ⟨_,_,[],by rw [y.N.params F.B],y.rel,rfl⟩)) rfl
end
noncomputable def gE (i:Nat):Stmt:=(PySem.Challenge.pw_jk0047_01.main.body).getD i (.Pass ⟨0,0,0,0⟩)
set_option backward.match.sparseCases false in
noncomputable def fnB:Stmt→List Stmt
 | .FunctionDef _ _ b _ _ _ _ _ _ _=>b
 | _=>[]
noncomputable def tc:Nat:=100000
noncomputable def L (s:String):List Nat:=(Str.ofString s).cps.toList
theorem ba {g:Gx} {c:SC} {k:Nat} {kk:Nat} {pos:Pos} (s:String):ak g c k (.Constant (.str (Str.ofString s)) kk pos) (fun σ=>some (.str (L s),σ)):=den_str
set_option backward.match.sparseCases false in
noncomputable def em:Expr→Bool
 | .Starred _ _=>false
 | _=>true
theorem aA {e:Expr} {es:List Expr} (h:em e=true) (env:Env):starEach (e::es) env=(false,eval e env)::starEach es env:=by
 cases e<;>first | rfl | cases h
theorem an {e:Expr} (h:em e=true) (env:Env):starEach [e] env=[(false,eval e env)]:=aA h env
theorem dT {e f:Expr} (h:em e=true) (h2:em f=true) (env:Env):starEach [e,f] env=[(false,eval e env),(false,eval f env)]:=by
 rw [aA h env,an h2 env]
theorem au {e:Expr} {es:List Expr} {pos:Pos} (h:em e=true) (env:Env):∃ x r,backTo pos (starEach (e::es) env)=(false,x)::r:=by
 rw [aA h env]
 exact ⟨_,_,rfl⟩
theorem fy {e:Expr} {pos:Pos} (h:em e=true) (env:Env):backTo pos (starEach [e] env)=[(false,eval e env)]:=by
 rw [an h env];rfl
theorem af {id:Str} {p:Pos} {args:List Expr} {pos:Pos} (env:Env):eval (.Call (.Name id p) args [] pos) env=(do callWith pos (← eval (.Name id p) env) [] (backTo pos (starEach args env)) (backToKw pos (keywordEach [] env))):=arm_eval_Call_Name' _ _ _ _ _ _
noncomputable def dyes:DT:=fun σ=>some (true,σ)
theorem bb_len:bootBuiltins "len" = some (.builtin "len"):=by decide +kernel
theorem bb_abs:bootBuiltins "abs" = some (.builtin "abs"):=by decide +kernel
theorem zR:bootBuiltins "range" = some (.type "range"):=by decide +kernel
theorem bb_list:bootBuiltins "list" = some (.type "list"):=by decide +kernel
theorem zT:bootBuiltins "bytes" = some (.type "bytes"):=by decide +kernel
theorem bb_int:bootBuiltins "int" = some (.type "int"):=by decide +kernel
noncomputable def slOk (c:SC) (names:List (Str×NameKind)):Bool:=names.all fun x=>x.2 != .free||(c.slot x.1).isSome
theorem mB {c:SC} {names:List (Str×NameKind)} (h:slOk c names=true):∀ x,(x,.free)∈names→∃ i,c.slot x=some i:=fun x hx=>by
 have:=List.all_eq_true.mp h _ hx
 simpa [Option.isSome_iff_exists] using this
theorem xT {α:Type} {p:Prop} {inst:Decidable p} {a b c:α} (h:a=c) (h2:b=c):@ite _ p inst a b=c:=by by_cases q:p;exact (if_pos q).trans h;exact (if_neg q).trans h2
theorem lH {x y:Str} {px py pos:Pos} {kk kv:Nat} {a b:Expr} {pv:Pos} {env:Env} {c:SC} (hk:∀ x,env.kindOf x=c.kind x) (_:env.scope.kind=.function) (hc:(c.kind x != some .local)=true) :
 swappedStores [.Tuple [.Name x px,.Name y py] kk pos] (.Tuple [a,b] kv pv) env=pure none:=by
 have hx:(env.kindOf x==some NameKind.local)=false:=(congrArg (·==some NameKind.local) (hk x)).trans (Bool.not_eq_true' _ |>.mp hc)
 unfold swappedStores
 refine xT rfl (xT rfl (if_pos ((Bool.or_eq_true _ _).mpr (.inl (bne_iff_ne.mpr (Nat.ne_of_lt (Nat.lt_of_le_of_lt (m:=1) ?_ (Nat.lt_succ_self 1))))))))
 refine Nat.le_trans (Nat.le_of_eq (congrArg List.length (List.filterMap_cons_none (a:=Expr.Name x px) (l:=[Expr.Name y py]) ?_))) (List.length_filterMap_le _ [Expr.Name y py])
 exact if_neg fun h=>nomatch hx.symm.trans (Bool.and_eq_true_iff.mp h).1
set_option backward.match.sparseCases false in
noncomputable def asA:V→Option Addr | .adr a=>some a | _=>none
theorem asA_e {v:V} {a:Addr} (h:asA v=some a):v=.adr a:=by cases v<;>first | exact aL h | exact congrArg _ (Option.some.inj h)
def dcallv1 (a:Addr) (sp:Sp) (ds:List DE) (q:V×St):Option (V×St):=(asA q.1).bind fun b=>if b=a then (bY ds q.2).bind fun r=>i9 sp r.1 r.2 else none
def zg (a:Addr) (sp:Sp) (d:DE) (ds:List DE):DE:=fun σ=>(d σ).bind (dcallv1 a sp ds)
def dmeth1 (C:Addr) (name:Str) (sp:Sp) (ds:List DE) (q:V×St):Option (V×St):=(asO q.1).bind fun w=>if w.1=C∧w.2.lookup name=none then (bY ds q.2).bind fun r=>i9 sp (q.1::r.1) r.2 else none
def dmeth (C:Addr) (name:Str) (sp:Sp) (d:DE) (ds:List DE):DE:=fun σ=>(d σ).bind (dmeth1 C name sp ds)
def dsmeth1 (C:Addr) (name:Str) (sp:Sp) (ds:List DE) (q:V×St):Option (V×St):=(asO q.1).bind fun w=>if w.1=C∧w.2.lookup name=none then (bY ds q.2).bind fun r=>i9 sp r.1 r.2 else none
def yC (C:Addr) (name:Str) (sp:Sp) (d:DE) (ds:List DE):DE:=fun σ=>(d σ).bind (dsmeth1 C name sp ds)
structure pR (K:Frag) (C:Addr) (name:Str) (f:Addr):Prop where
 get:plainGet K C name=true
 find:findIn K (.ref C) name=some (some (.ref f))
 fn:isFn K (.ref f)=true
 keep:keepIn K (.ref f)=true
structure SmOk (K:Frag) (C:Addr) (name:Str) (f:Addr):Prop where
 get:plainGet K C name=true
 dict:hasDictIn K C=true
 find:∃ p rest,findIn K (.ref C) name=some (some (.ref p))∧specialIn K (.ref p) "__get__" = some (some (.builtin "staticmethod.__get__"))∧takesIn K (.ref p)=some false∧recIn K p "staticmethod" = some (.ref f::rest) ∧
  typeIn K (.ref p)=some (.type "staticmethod")
 copied:copiedNames.contains name=false
 keep:keepIn K (.ref f)=true
section
variable {Z:aE} {N:Now Z} {P:Gh} {g:Gx} {c:SC} {k:Nat} {C f:Addr} {K:Frag} {sp:Sp} {e fe:Expr} {d:DE} {ds:List DE} {args:List Expr} {name:Str} {ap pos:Pos} {s:Shared} {Ar:Around} {E:Value→Shared→Prop}
theorem kX {first:List Value} {Q:List V→St→Prop} {K':Value→Shared→Prop} (KI:K.In g.h0) (hk:keepIn K (.ref f)=true) (F:Fr g c k Z) (Ha:eK g c k args ds)
 (hn:∀ env,∃ e r,backTo pos (starEach args env)=(false,e)::r) (hp:∀ env,(backTo pos (starEach args env)).any (·.1)=false) (h:Ok2 (bY ds N.σ) Q)
 (q:∀ r:vO N Q,wpAny (model g.prog g.w) Z.Ar (call (.ref f) (first++r.x)) K' E r.N.s):wpAny (model g.prog g.w) Z.Ar (callWith pos (.ref f) first (backTo pos (starEach args Z.env)) (backToKw pos (keywordEach [] Z.env))) K' E N.s:=by
 have key:wpAny (model g.prog g.w) Z.Ar (spliced (backTo pos (starEach args Z.env))) (fun vs' s2=>K.In s2.heap∧wpAny (model g.prog g.w) Z.Ar (call (.ref f) (first++vs')) K' E s2) E N.s :=
  Ha F N h fun z=>⟨fun b o e=>z.N.base F.B (KI b o e),q z⟩
 obtain ⟨ee,rr,hb⟩:=hn Z.env
 have hp':=hp Z.env
 rw [hb] at key hp' ⊢
 exact callWith_of (P:=fun h=>K.In h) (by show (_||([]:List (Option Str×Sem Value)).any _)=false;rw [hp'];rfl) (fun h X=>keeps_K hk h X) (Calls.evalArgs_plain key)
theorem f9 {first:List Value} {fv:List V} {Q:V→St→Prop} {K':Value→Shared→Prop} (KI:K.In g.h0) (hk:keepIn K (.ref f)=true) (F:Fr g c k Z) (H:Con g k f sp) (Ha:eK g c k args ds)
 (hn:∀ env,∃ e r,backTo pos (starEach args env)=(false,e)::r) (hp:∀ env,(backTo pos (starEach args env)).any (·.1)=false) (hf:VRels N.P fv first)
 (h:Ok2 ((bY ds N.σ).bind fun r=>i9 sp (fv++r.1) r.2) Q) (q:∀ r:Res N Q,K' r.x r.N.s) :
 wpAny (model g.prog g.w) Z.Ar (callWith pos (.ref f) first (backTo pos (starEach args Z.env)) (backToKw pos (keywordEach [] Z.env))) K' E N.s :=
 kX KI hk F Ha hn hp (ub h) fun z=>H F.R F.B z.N (VRels.append (VRels.up z.le.P hf) z.rel) z.q fun r=>q (r.up z.le)
theorem c9 (KI:K.In g.h0) (hk:keepIn K (.ref f)=true) (Hf:ak g c k fe d) (H:Con g k f sp) (Ha:eK g c k args ds)
 (hn:∀ env,∃ e r,backTo pos (starEach args env)=(false,e)::r) (hp:∀ env,(backTo pos (starEach args env)).any (·.1)=false)
 (he:∀ env,eval (.Call fe args [] pos) env=(do callWith pos (← eval fe env) [] (backTo pos (starEach args env)) (backToKw pos (keywordEach [] env)))) :
 ak g c k (.Call fe args [] pos) (zg f sp d ds) :=
 fun F N Q K' E h q=>PyProof.Rows.Call_ (Hf F N (ub h) fun y=>(uv y.q).elim fun b h=>have h1:=uib h.2
  oj (C:=fun y'=>wpAny _ _ (callWith pos y' [] _ _) K' E y.N.s) (y.rel.as ((asA_e h.1).trans (congrArg V.adr h1.1))) (f9 (fv:=[]) KI hk F H Ha hn hp bz h1.2 fun r=>q (r.up y.le))) (he _)
theorem gN:∀ {f:List (Str×V)} {es:List DictEntry},VRelF P f es→f.lookup name=none→W.getL name es=some none
 | [],_,h,_=>(show _=[] from h)▸rfl
 | (k,u)::r,_,hf,h=>hf.elim fun t hf=>hf.elim fun y hf=>hf.elim fun es' hf=>by
  rw [hf.1]
  rw [List.lookup_cons] at h
  cases hb:name==k with
  | true=>rw [hb] at h;cases h
  | false =>
   rw [hb] at h
   have h3:=gN hf.2.2 h
   unfold W.getL at h3 ⊢
   rw [List.find?_cons,mu hb]
   cases hq:List.find? (fun x=>x.key.isStr name) es' with
   | some e=>rw [hq] at h3;exact h3
   | none =>
    rw [hq] at h3
    exact h3
theorem fX {o:Expr} {name:Str} {apos pos:Pos} {args:List Expr} {env:Env} {Q:Value→Shared→Prop} {M:Model}
 (hbase:attributeBase o name env (eval o env)=eval o env)
 (hfew:methodCallForm (args.length+([]:List Keyword).length) (backTo pos (starEach args env)) (backToKw pos (keywordEach [] env))=true)
 (hline:(apos.endLine==pos.line)=true)
 (h:wpAny M Ar (eval o env) (fun ov s₁=>∀ pl,wpAny M Ar (getMethod ov name pl) (fun fx s₂=>wpAny M Ar (callWith pos fx.1 fx.2 (backTo pos (starEach args env)) (backToKw pos (keywordEach [] env))) Q E s₂) E s₁) E s) :
 wpAny M Ar (eval (.Call (.Attribute o name apos) args [] pos) env) Q E s:=by
 rw [arm_eval_Call,hbase]
 refine wpAny_bind (wpAny_mono h (fun ov s₁ h₁=>?_) fun a a e=>e)
 refine wpAny_bind (wpAny_standAt ?_)
 have hpos:methodCallPos true o env apos pos=pure pos:=by unfold methodCallPos;simp [hline]
 unfold methodCall
 rw [hfew]
 refine wpAny_bind (wpAny_holding (wpAny_mono (h₁ _) (fun fx s₂ h₂=>?_) fun a a e=>e))
 exact wpAny_bind (wpAny_of_eq hpos h₂)
theorem re (KI:K.In g.h0) (T:pR K C name f) (H:ak g c k e d) (HC:Con g k f sp) (Ha:eK g c k args ds)
 (hn:∀ env,∃ e r,backTo pos (starEach args env)=(false,e)::r) (hp:∀ env,(backTo pos (starEach args env)).any (·.1)=false)
 (hb:∀ env,attributeBase e name env (eval e env)=eval e env) (hl:(ap.endLine==pos.line)=true)
 (hfew:∀ env,methodCallForm (args.length+([]:List Keyword).length) (backTo pos (starEach args env)) (backToKw pos (keywordEach [] env))=true) :
 ak g c k (.Call (.Attribute e name ap) args [] pos) (dmeth C name sp d ds) :=
 fun F N Q K' E h q=>fX (hb _) (hfew _) hl (H F N (ub h) fun y pl'=>(uv y.q).elim fun w h=>have h1:=uib h.2
  jk (C:=fun x=>ao y.N.P y.v x→wpAny _ _ (getMethod x name pl') (fun fx s=>wpAny _ _ (callWith pos fx.1 fx.2 _ _) K' E s) E y.N.s) (y.rel.as (nr h.1)) (fun a dx es q1 q2 q3 hx=>q2.elim fun n q2 =>
   method_fn (fun b o e=>y.N.base F.B (KI b o e)) (show InstAt y.N.s.heap a (instObj C dx) C (some (dictOf es n)) from ⟨y.N.I.pin _ _ (q1.trans (congrArg (fun c=>some (instObj c dx)) h1.1.1)),rfl,rfl,y.N.I.pin _ _ q2⟩)
    (plainGet_of T.get).1 (plainGet_of T.get).2 T.find (beq_iff_eq.mp T.fn) (by show (lookIn name (dictOf es n)).map _=_;rw [lookIn_dict,gN q3 h1.1.2];rfl)
    (f9 (N:=y.N) (fv:=[y.v]) KI T.keep F HC Ha hn hp (bk hx bz) h1.2 fun r=>q (r.up y.le))) y.rel)
theorem ld {a gg:Value} {es:List DictEntry} {n:Nat} {name:Str} (hh:hasDictIn K C=true) (ha:findIn K (.ref C) name=some (some a)) (hg:specialIn K a "__get__" = some (some gg)) (ht:takesIn K a=some false)
 (hc:copiedNames.contains name=false) (hl:W.getL name es=some none):findObj K C (some (dictOf es n)) name=some (.bind gg a):=by
 obtain ⟨cd,hc',hd⟩:=any_some hh
 unfold findObj
 have ho:W.ownOf cd (some (dictOf es n)) name=some none:=by unfold W.ownOf;rw [if_pos hd];show lookIn name (dictOf es n)=_;rw [lookIn_dict,hl]
 rw [hc',Option.bind_some,ha,Option.bind_some]
 show ((specialIn K a "__get__").bind _)=_
 rw [hg]
 show ((takesIn K a).bind _)=_
 rw [ht]
 show ((W.ownOf cd _ name).bind _)=_
 rw [ho]
 show (if (copiedNames.contains name&&_)=true then _ else _)=_
 rw [hc]
 rfl
theorem vv (KI:K.In g.h0) (T:SmOk K C name f) (H:ak g c k e d) (HC:Con g k f sp) (Ha:eK g c k args ds)
 (hn:∀ env,∃ e r,backTo pos (starEach args env)=(false,e)::r) (hp:∀ env,(backTo pos (starEach args env)).any (·.1)=false)
 (hb:∀ env,attributeBase e name env (eval e env)=eval e env) (hl:(ap.endLine==pos.line)=true)
 (hfew:∀ env,methodCallForm (args.length+([]:List Keyword).length) (backTo pos (starEach args env)) (backToKw pos (keywordEach [] env))=true) :
 ak g c k (.Call (.Attribute e name ap) args [] pos) (yC C name sp d ds) :=
 fun F N Q K' E h q=>fX (hb _) (hfew _) hl (H F N (ub h) fun y pl'=>(uv y.q).elim fun w h=>have h1:=uib h.2
  jk (C:=fun x=>wpAny _ _ (getMethod x name pl') (fun fx s=>wpAny _ _ (callWith pos fx.1 fx.2 _ _) K' E s) E y.N.s) (y.rel.as (nr h.1)) fun a dx es q1 q2 q3=>q2.elim fun n q2=>by
   obtain ⟨p,rest,t1,t2,t3,t4,t5⟩:=T.find
   have Iat:InstAt y.N.s.heap a (instObj C dx) C (some (dictOf es n)):=⟨y.N.I.pin _ _ (q1.trans (congrArg (fun c=>some (instObj c dx)) h1.1.1)),rfl,rfl,y.N.I.pin _ _ q2⟩
   have KS:K.In y.N.s.heap:=fun b o e=>y.N.base F.B (KI b o e)
   refine method_usual KS Iat (plainGet_of T.get).1 (plainGet_of T.get).2 t1 (by show ((typeIn K (.ref p)).any _)=true;rw [t5];decide +kernel) ?_
   refine get_bind KS Iat (plainGet_of T.get).1 (ld T.dict t1 t2 t3 T.copied (gN q3 h1.1.2)) (plainGet_of T.get).2 ?_
   refine wpAny_call (sm_get (s:={ y.N.s with toks:=y.N.s.toks+1 }) KS t4 ?_)
   refine handed_on rfl ?_
   exact f9 (N:=y.N.tick) (fv:=[]) KI T.keep F HC Ha hn hp bz h1.2 fun r=>q (r.up (y.le.trans Now.tick_le)))
end
abbrev SpI:=List (Str×V)→List V→Wt→Option (List (Str×V)×Wt)
structure j4 {Z:aE} (N:Now Z) (C a dx:Addr) (fl:List (Str×V)):Prop where
 inst:N.s.heap.get? a=some (instObj C dx)
 ma:N.P.m a=none
 wa:N.P.wa≠some a
 dict:∃ es n,N.s.heap.get? dx=some (dictOf es n)∧VRelF N.P fl es
 ap:eh Z.A N.P Z.pl N.own Z.pl.length dx
structure ResM {Z:aE} (N:Now Z) (C a dx:Addr) (Q:List (Str×V)→Wt→Prop) where
 fl:List (Str×V)
 N':Now Z
 le:N.Le N'
 σ:N'.σ={ N.σ with w:=N'.σ.w }
 mkd:j4 N' C a dx fl
 q:Q fl N'.σ.w
noncomputable abbrev retR (Q E:Value→Shared→Prop):Result→Shared→Prop:=fun r s'=>match r with
 | .ok (.ret v)=>Q v s'
 | .ok _=>False
 | .error e=>E e s'
def th (g:Gx) (k:Nat) (f C:Addr) (sp:SpI):Prop :=
 ∀ {Z:aE} (R:b5 Z.Ar k) (B:ec g Z.A) (N:Now Z) {a dx:Addr} {fl:List (Str×V)} {vs:List V} {xs:List Value} {Q:List (Str×V)→Wt→Prop} {K E:Value→Shared→Prop},
  j4 N C a dx fl→VRels N.P vs xs→Ok2 (sp fl vs N.σ.w) Q→(∀ r:ResM N C a dx Q,K .none r.N'.s)→codeAny (model g.prog g.w) Z.Ar (.call (.ref f) ⟨.ref a::xs,[]⟩) (retR K E) N.s
structure FnI (g:Gx) (a:Addr) (fd:FuncData) (names:aq) (slf:Str) (params:List Str) (body:List Stmt) (nd:Nat):Prop where
 at_:FnAt g a fd
 code:g.h0.CodeRec fd.code fd.qualname
 body_:fd.body=.stmts body
 names_:fd.scope.names=names
 gl:fd.globals=mainGlobals
 bi:fd.builtins=builtinsNs
 co:fd.scope.isCoroutine=false
 gen:fd.scope.isGenerator=false
 kind:fd.scope.kind=.function
 bind:∀ (s:Shared),(∀ b o,g.h0.get? b=some o→s.heap.get? b=some o)→∀ (x:Value) (xs:List Value),xs.length+nd=params.length→BindsTo s fd ⟨x::xs,[]⟩ ((slf,x)::params.zip (xs++List.replicate nd .none))
 pk:∀ p∈params,names.lookup p=some .local
 sk:names.lookup slf=some .local
 ns:slf∉params
 nodup:(names.map (·.1)).Nodup
 nocell:∀ x∈names,x.2≠.cell
def bL (names:aq) (params:List Str) (nd:Nat) (vs:List V):List (Option V):=fB (bv (params.zip (vs++List.replicate nd .none)) (fun a=>none)) names
def cQ (i:Nat) (C:Addr) (r:Fl×St):Option (List (Str×V)×Wt):=match r.1 with
 | .nxt=>((bU i r.2).bind asF).bind fun w=>if w.1=C then some (w.2,r.2.w) else none
 | _=>none
def gT (names:aq) (i:Nat) (params:List Str) (nd:Nat) (C:Addr) (d:DS):SpI:=fun fl vs w =>
 if vs.length+nd=params.length then (d ⟨(bL names params nd vs).set i (some (.mi C fl)),w⟩).bind (cQ i C) else none
noncomputable def iw (loc:List (Option V)):List Nat→Option (List V)
 | []=>some []
 | j::js=>(loc[j]?.join).bind fun v=>if kq v=true then (iw loc js).map (v::·) else none
def ij (names:aq) (i:Nat) (params:List Str) (nd:Nat) (C:Addr) (js:List Nat) (sb:SpI) (d:DS):SpI:=fun fl vs w =>
 if vs.length+nd=params.length∧i∉js then (iw (bL names params nd vs) js).bind fun us=>(sb fl us w).bind fun r =>
  (d ⟨(bL names params nd vs).set i (some (.mi C r.1)),r.2⟩).bind (cQ i C) else none
section
variable {Z:aE} {N:Now Z} {P:Gh} {g:Gx} {c:SC} {k i:Nat} {C a dx f:Addr} {K:Frag} {fl:List (Str×V)} {d:DS} {names:aq} {slf:Str} {params:List Str} {body:List Stmt} {nd:Nat} {fd:FuncData} {vs:List V} {xs:List Value} {cd:Option Value}
theorem else_q {α:Type} {p:Prop} [Decidable p] {x:Option α} {o:α} {D:Prop} (h:(if p then none else x)=some o) (q:¬p→x=some o→D):D:=if hp:p then aL ((if_pos hp).symm.trans h) else q hp ((if_neg hp).symm.trans h)
theorem eh.no (ap:eh Z.A N.P Z.pl N.own Z.pl.length a) (i:Nat):N.own[i]?≠some (some a):=fun h=>ap.2.2 i (fun z=>Nat.lt_irrefl _ (Nat.lt_of_lt_of_eq (ct h) (N.I.own.len.trans z.symm))) h
theorem j4.ne (M:j4 N C a dx fl):a≠dx:=fun e=>by
 subst e
 obtain ⟨es,n,h1,_⟩:=M.dict
 exact nomatch congrArg Obj.data (Option.some.inj (h1.symm.trans M.inst))
theorem qz {x:Option V} {loc:List (Option V)}:∀ {js:List Nat},i∉js→iw (loc.set i x) js=iw loc js
 | [],_=>rfl
 | j::js,h=>by
  show (((loc.set i x)[j]?.join).bind fun v=>if kq v=true then (iw (loc.set i x) js).map (v::·) else none)=(loc[j]?.join).bind fun v=>if kq v=true then (iw loc js).map (v::·) else none
  rw [List.getElem?_set_ne (fun e:i=j=>h (by subst e;exact List.mem_cons_self)),qz (js:=js) fun q=>h (List.mem_cons_of_mem _ q)]
theorem q9 {σ:St} {j:Nat} {v:V} (h:σ.loc[j]? = some (some v)) (hf:kq v=true):ix j σ=some (v,σ):=by
 unfold ix
 rw [h]
 cases v<;>first | rfl | cases hf
theorem mK {σ:St}:∀ {js:List Nat} {us:List V},iw σ.loc js=some us→bY (js.map ix) σ=some (us,σ)
 | [],_,h=>Option.some.inj h▸rfl
 | j::js,us,h=>aF h fun v hv h=>qP h fun hf h=>dH h fun us' h1 e=>by
  show ((ix j σ).bind fun q=>(bY (js.map ix) q.2).map _)=_
  rw [q9 (Option.join_eq_some_iff.mp hv) hf]
  show Option.map _ (bY (js.map ix) σ)=_
  rw [mK h1,← e];rfl
theorem nO:∀ n:Nat,VRels P (List.replicate n .none) (List.replicate n .none)
 | 0=>bz
 | n+1=>bk oq (nO n)
theorem zN {y:Str}:∀ {params:List Str} {vs:List V} {xs:List Value} {f:Str→Option V} {t:List (Str×Value)},VRels P vs xs→(∀ v,f y=some v→∃ z,t.lookup y=some z∧ao P v z) →
 ∀ v,bv (params.zip vs) f y=some v→∃ z,((params.zip xs).reverse++t).lookup y=some z∧ao P v z
 | [],_,_,_,_,_,h=>h
 | p::ps,[],_,f,t,hx,h=>fu (C:=fun xs=>∀ v,bv (List.zip (p::ps) []) f y=some v→∃ z,((List.zip (p::ps) xs).reverse++t).lookup y=some z∧ao P v z) hx h
 | p::ps,u::vs,_,f,t,hx,h=>e9 (C:=fun xs=>∀ v,bv (List.zip (p::ps) (u::vs)) f y=some v→∃ z,((List.zip (p::ps) xs).reverse++t).lookup y=some z∧ao P v z) hx fun z zs hu hr v hv=>by
  rw [List.zip_cons_cons,List.reverse_cons,List.append_assoc]
  exact zN (params:=ps) (f:=fun x=>if x=p then some u else f x) (t:=(p,z)::t) hr (fun v hv=>if q:y=p then ⟨z,by rw [q,List.lookup_cons,beq_self_eq_true],Option.some.inj ((if_pos q).symm.trans hv)▸hu⟩ else
   (h v ((if_neg q).symm.trans hv)).imp fun w e=>⟨by rw [List.lookup_cons,beq_eq_false_iff_ne.mpr q];exact e.1,e.2⟩) v hv
theorem tB {x:Value} (hself:slf∉params):((slf,x)::params.zip xs).reverse.lookup slf=some x:=by
 rw [List.reverse_cons]
 have:∀ l:List (Str×Value),(∀ p∈l,p.1≠slf)→(l++[(slf,x)]).lookup slf=some x:=fun l h=>by
  induction l with
  | nil=>exact (List.lookup_cons ..).trans (by rw [beq_self_eq_true])
  | cons a r ih=>rw [List.cons_append,List.lookup_cons,beq_eq_false_iff_ne.mpr (Ne.symm (h a List.mem_cons_self))];exact ih fun p hp=>h p (List.mem_cons_of_mem _ hp)
 exact this _ fun p hp e=>hself (e▸(List.of_mem_zip (List.mem_reverse.mp hp)).1)
def kR (Z:aE) (s:Shared) (P:Gh) (fd:FuncData) (f:Addr) (names:aq) (dx:Addr) (fr:List Addr:=[]):aE :=
 ⟨Act.at s P (fun b=>if b=dx then none else s.heap.get? b) fr dx,callEnv fd s.heap.objs.size f,qy s.heap.objs.size [] names,Z.Ar.deeper (callEnv fd s.heap.objs.size f)⟩
theorem i4 (hcd:∀ v,cd=some v→fd.code=v) (F:FnI g f fd names slf params body nd) (L:Addr):iQ (scC names cd) (callEnv fd L f) (qy L [] names) where
 fn:=F.kind
 len:=List.length_map _
 gl:=F.gl
 bi:=F.bi
 code:=hcd
 kind:=fun x=>congrArg (List.lookup x) F.names_
 loc:=fun x i h1 h2=>(c8 F.nodup h2 h1).trans rfl
 cel:=fun x i h1 h2=>h1.elim (fun h1=>(F.nocell _ (mem_of_lookup h1) rfl).elim) fun h1=>by
  obtain ⟨k,hk,e,_⟩:=nM F.nodup h2
  cases h1.symm.trans e
  cases hk
theorem nX (B:ec g Z.A) {hp:Addr→Option Obj} {dx:Addr} {fr:List Addr}:ec g (Act.at N.s N.P hp fr dx):=⟨fun a o e=>N.I.le.m a o (B.sub a o e),N.I.le.par.trans B.par,N.I.le.tb.trans B.tb,N.I.le.ms.trans B.ms,B.sys.imp fun b=>N.I.le.m _ _⟩
theorem j4.hp (M:j4 N C a dx fl):(if a=dx then none else N.s.heap.get? a)=some (instObj C dx):=(if_neg M.ne).trans M.inst
structure InitAt (N:Now Z) {Z':aE} (N1:Now Z') (C a dx L:Addr) (fl:List (Str×V)) (loc:List (Option V)) (slf:Str) (s:Shared):Prop where
 σ:N1.σ=⟨loc,N.σ.w⟩
 s:N1.s=s
 P:N1.P=N.P
 mkd:j4 N1 C a dx fl
 hh:Holds N1.s.heap (.ns L slf) (.ref a)
theorem iY {h₀:Heap} {tk:Nat} {fr:List Addr} (hfr:∀ a∈fr,a≠dx∧∃ o es ep,N.s.heap.get? a=some o∧o.data=.dict es ep∧N.P.m a=none∧N.P.wa≠some a∧NT N.P a) (F:FnI g f fd names slf params body nd) (M:j4 N C a dx fl) (hx:VRels N.P vs xs) (hns:h₀.Ns N.s.heap.objs.size (fun y=>((slf,Value.ref a)::params.zip (xs++List.replicate nd .none)).reverse.lookup y)) (hk:∀ b o,N.s.heap.get? b=some o→h₀.get? b=some o) :
 ∃ N1:Now (kR Z N.s N.P fd f names dx fr),InitAt N N1 C a dx N.s.heap.objs.size fl (bL names params nd vs) slf { N.s with heap:=h₀,toks:=tk }:=by
 have nl:∀ p∈qy N.s.heap.objs.size [] names,p.addr=N.s.heap.objs.size:=fun p hp=>by
  obtain ⟨y,hy,rfl⟩:=List.mem_map.mp hp
  unfold lZ
  rw [if_neg (F.nocell _ (ki hy).1)];rfl
 have hdx:dx≠N.s.heap.objs.size:=M.dict.elim fun es h=>h.elim fun n h=>Nat.ne_of_lt (Heap.lt_size h.1)
 refine ⟨⟨_,_,_,_,N.I.begin (dx:=dx) (tk:=tk) hk (fun b o e=>else_q e fun c e=>e) (fun x hx o e=>(if_neg fun q=>N.I.nt M.ap.1.2.2 x hx q).trans e) (fun a ha=>(hfr a ha).2.imp fun o=>Exists.imp fun es=>Exists.imp fun ep q=>⟨(if_neg (hfr a ha).1).trans q.1,q.2⟩) (fun p hp=>(nl p hp).symm▸bo _) (l6 .nil F.nodup fun y hy=>(F.nocell _ hy rfl).elim)
  ((List.length_map _).trans (List.length_map _).symm) fun i p v h1 h3=>?_⟩,rfl,rfl,rfl,⟨hk _ _ M.inst,M.ma,M.wa,M.dict.imp fun es=>Exists.imp fun n=>And.imp_left (hk _ _),⟨M.ap.1.1,M.ap.1.2.1,if_pos rfl⟩,fun p hp e=>hdx (e.symm.trans (nl p hp)),fun j c=>hZ _ _ _⟩,⟨_,hns,tB F.ns⟩⟩
 obtain ⟨y,hy,rfl⟩:=Option.map_eq_some_iff.mp ((List.getElem?_map ..).symm.trans h1)
 obtain ⟨y',hy',rfl⟩:=Option.map_eq_some_iff.mp ((List.getElem?_map ..).symm.trans h3)
 cases hy.symm.trans hy'
 unfold lZ
 rw [if_neg (F.nocell _ (ki (List.mem_of_getElem? hy)).1)]
 cases q:bv (params.zip (vs++List.replicate nd .none)) (fun c=>none) y.1 with
 | none=>exact .no ⟨_,hns⟩
 | some v=>exact (zN (f:=fun c=>none) (t:=[(slf,.ref a)]) (hx.append (nO nd)) (fun c e=>aL e) v q).elim fun z hz=>.yes ⟨_,hns,(congrArg (List.lookup y.1) List.reverse_cons).trans hz.1⟩ (.val hz.2)
noncomputable def Now.adopt (N:Now Z) {p:bf} (M:j4 N C a dx fl) (e:Z.A.dx=dx) (hA:Z.A.hp a=some (instObj C dx)) (hi:Z.pl[i]? = some p) (hh:Holds N.s.heap p (.ref a)):Now Z :=
 { N with own:=N.own.set i (some dx),σ:=N.σ.set i (.mi C fl),I:=N.I.setSlot (h':=N.s.heap) (t:=N.s.toks) hi (fun c c c e=>e) (fun c c c c c e=>e) (fun c c c c e=>e) hh (M.dict.elim fun es h=>h.elim fun n h=>.mi e hA M.wa h.1 h.2) fun b q=>Option.some.inj q▸⟨M.ap.1,M.ap.2.1,fun j c=>M.ap.no j⟩ }
theorem mw {Z':aE} {fr:List Addr} {Q:List (Str×V)→Wt→Prop} {N1:Now Z'} (M:j4 N C a dx fl) (e:Z'.A=Act.at N.s N.P (fun b=>if b=dx then none else N.s.heap.get? b) fr dx) (hb:∀ a∈fr,(Z.A.hp a=none∨a∈Z.A.fr)∧∀ i:Nat,N.own[i]?≠some (some a)) (h:Ok2 (cQ i C (.nxt,N1.σ)) Q) {T:Prop} (q:∀ r:ResM N C a dx Q,r.N'.s=N1.s→T):T:=by
 obtain ⟨A,env,pl,Ar⟩:=Z'
 cases (show A=_ from e)
 refine (uv h).elim fun w h=>N1.miOf h.1 fun p a' dx' es n h1 h2 h3 h0 h4 h6 h7 h8 h9=>?_
 cases (show dx=dx' from h0)
 have h5:=ui h.2
 have Fd:=(N1.I.own.free i dx h2).1
 have J:Inv Z.A Z.pl N1.P N.own { N.σ with w:=N1.σ.w } N1.s:=N.I.back N1.I (fun b o e=>if q:b=dx then .inr (q▸M.ap) else .inl ((if_neg q).trans e)) hb
 have wa:=N1.I.notW M.wa M.hp
 exact q ⟨w.2,⟨_,_,_,_,J⟩,⟨N1.I.le,fun c c e=>e⟩,rfl,⟨N1.I.keep a _ M.hp wa (N1.I.ntO M.hp l8) (N1.I.notFrO M.hp fun c c e=>nomatch e),N1.I.notM M.ma M.hp,wa,⟨es,n,h8,h9⟩,⟨Fd.1,Fd.2.1,M.ap.1.2.2⟩,M.ap.2⟩,h5.2⟩ rfl
theorem o7 {x:Value} (F:FnI g f fd names slf params body nd):∀ y∈(slf,x)::params.zip xs,fd.scope.names.lookup y.1=some .local:=fun y hy=>by
 rw [F.names_]
 exact (List.mem_cons.mp hy).elim (fun e=>e▸F.sk) fun hy=>F.pk _ (List.of_mem_zip hy).1
theorem iZ {f:Fl} {s:St} {Q:List (Str×V)→Wt→Prop} (h:Ok2 (cQ i C (f,s)) Q):f=.nxt:=match f,h with
 | .nxt,_=>rfl
 | .cont,h=>un h
 | .brk,h=>un h
 | .ret _,h=>un h
theorem gW (G:GOk g) (F:FnI g f fd names slf params body nd) (hi:fR names slf=some i) (H:bO g (scC names cd) k body d) (hcd:∀ v,cd=some v→fd.code=v:=by intro _ h;cases h) :
 th g (k+1) f C (gT names i params nd C d):=by
 intro Z R B N a dx fl vs xs Q K E M hx h q
 obtain ⟨hlen,h⟩:=uib h
 obtain ⟨o,h1,h2⟩:=F.at_.at_
 have hlx:xs.length+nd=params.length:=hx.length.symm▸hlen
 refine ks_codeAny_call_defAt (fd:=fd) (binds:=(slf,.ref a)::params.zip (xs++List.replicate nd .none)) (Nat.lt_of_le_of_lt (Nat.le_add_right ..) R.depth) (N.base B h1) h2 (N.noLimit B G) (bS F.code fun b b=>N.base B) F.body_ (F.bind N.s (fun b b=>N.base B) _ xs hlx) (fun x hx=>F.nocell x (F.names_▸hx)) (o7 F) (fun h₀ hns hk₁=>wpAt_of_wpAny ?_) F.co F.gen F.kind
 obtain ⟨N1,A1⟩:=iY (fr:=[]) (fun b h=>nomatch h) (tk:=N.s.toks+((slf,Value.ref a)::params.zip (xs++List.replicate nd .none)).length) F M hx hns hk₁
 rw [← A1.s]
 refine H (Z:=kR Z N.s N.P fd f names dx) ⟨i4 hcd F _,R.deeper _,nX B,fun b b h=>nomatch h⟩ (N1.adopt A1.mkd rfl M.hp (c8 F.nodup hi F.sk) A1.hh) (ub (f:=cQ i C) (Q:=Q) (by show Ok2 ((d (N1.σ.set i (.mi C fl))).bind (cQ i C)) Q;rw [A1.σ];exact h)) fun r=>?_
 have e:=iZ r.q
 have hr:=r.q
 have hf:=r.rel
 rw [e] at hr hf
 rw [show r.x=.next from hf]
 exact mw (fr:=[]) M rfl (fun b h=>nomatch h) hr fun r' es=>es▸q r'
end
section
variable {Z:aE} {N:Now Z} {P:Gh} {g:Gx} {c:SC} {k i:Nat} {C a dx f:Addr} {K:Frag} {fl:List (Str×V)} {d:DS} {names:aq} {slf:Str} {params:List Str} {body:List Stmt} {nd:Nat} {fd:FuncData} {vs:List V} {xs:List Value} {cd:Option Value} {Ar:Around} {E:Value→Shared→Prop}
theorem vd {M:Model} {h:Heap} {C:Addr} {mc:Str→Option Value} (hn:h.Ns cStatics mc) (e:mc "thirdparty.any" = none):Looks M h (opaqueClassAbove (.ref C)) none:=by
 intro A Q E s k q
 have hs:s.heap.Ns cStatics mc:=hn.keeps k
 show wpAny M A ((nsGet cStatics "thirdparty.any" >>= fun v=>pure v.isSome)>>=_) Q E s
 refine wpAny_bind (wpAny_bind (wpAny_nsGet hs ?_))
 rw [e]
 exact wpAny_pure (wpAny_pure q)
structure SuOk (g:Gx) (K:Frag) (f C D f2 cc cda:Addr) (fd:FuncData) (names:aq) (slf:Str):Prop where
 clo:fd.closure=[(("__class__" : Str),cc)]
 cde:fd.code=.ref cda
 cell:∃ cl cld csl,K.lookup cc=some ⟨cl,cld,.cell (some (.ref D)),csl⟩
 codeo:∃ ccl cdd vs ccs file tf,K.lookup cda=some ⟨ccl,cdd,.fields vs,ccs⟩∧vs[2]? = some (.str file tf)∧((g.prog.main.file:Str)==file)=true
 htop:(g.prog.main.scope.names.lookup ("super" : Str)).isSome=false
 cls:∃ cd,clsIn K D=some cd
 clsC:∃ cd,clsIn K C=some cd
 sub:mroIn K C (.ref D)=some true
 sup:g.mg "super" = none
 ks:names.lookup ("super" : Str)=some .globalImplicit
 kc:names.lookup ("__class__" : Str)=some .free
 head:∃ ar,(fd.params.posonlyargs++fd.params.args).head? = some ar∧ar.arg=slf
 hm:ks_superIn K C D "__init__" = some (some (.ref f2))
 ht:typeIn K (.ref f2)=some (.type "function")
 keep:fnIn K f2=true
theorem gX {M:Model} {cc:Code} {R:Result→Shared→Prop} {s:Shared} (h:codeAny M Ar cc (retR (fun v s=>R (.ok (.ret v)) s) (fun e s=>R (.error e) s)) s):codeAny M Ar cc R s:=codeAny_mono h fun r s h=>match r,h with
 | .ok (.ret _),h=>h
 | .error _,h=>h
 | .ok .next,h=>h.elim
 | .ok .cont,h=>h.elim
 | .ok .brk,h=>h.elim
theorem nD {l:List (Addr×Obj)} {q f2:Addr} {self:Value} {args:List Expr} {ds:List DE} {cp:Pos} {T:List V→St→Prop} {K':Value→Shared→Prop} (KI:K.In g.h0) (hf:fnIn K f2=true) (Ha:eK g c k args ds)
 (hn:∀ env,∃ e r,backTo cp (starEach args env)=(false,e)::r) (hp:∀ env,(backTo cp (starEach args env)).any (·.1)=false) (F:Fr g c k Z) (H:cn N l) (hq:(q,methodObj (.ref f2) self)∈l) (h:Ok2 (bY ds N.σ) T)
 (h':∀ r:vO N T,cn r.N l→wpAny (model g.prog g.w) Z.Ar (call (.ref q) ([]++r.x)) K' E r.N.s) :
 wpAny (model g.prog g.w) Z.Ar (callWith cp (.ref q) [] (backTo cp (starEach args Z.env)) []) K' E N.s:=by
 have key:wpAny (model g.prog g.w) Z.Ar (spliced (backTo cp (starEach args Z.env))) (fun ys s2=>MethP K q f2 self s2.heap∧wpAny (model g.prog g.w) Z.Ar (call (.ref q) ([]++ys)) K' E s2) E N.s :=
  Ha (Z:=Z.hold l) F.hold (N.hold H) h fun z=>z.let H (C:=fun ys s2=>MethP K q f2 self s2.heap∧wpAny (model g.prog g.w) Z.Ar (call (.ref q) ([]++ys)) K' E s2) fun z Hz=>⟨⟨(Hz _ hq).at_,fun b o e=>z.N.base F.B (KI b o e)⟩,h' z Hz⟩
 obtain ⟨ee,rr,hb⟩:=hn Z.env
 have hp':=hp Z.env
 rw [hb] at key hp' ⊢
 exact callWith_of (P:=MethP K q f2 self) (by show (_||([]:List (Option Str×Sem Value)).any _)=false;rw [hp'];rfl) (fun h X=>keeps_M hf h X) (Calls.evalArgs_plain key)
theorem j4.of {N0:Now Z} {L:Addr} {es:List DictEntry} {n:Nat} (M:j4 N0 C a dx fl) {N':Now (kR Z N0.s N0.P fd f names dx)} (S:bb N' dx (dictOf es n)) (hf:VRelF N0.P fl es):j4 N' C a dx fl :=
 have wa:=N'.I.notW M.wa M.hp
 ⟨N'.I.keep a _ M.hp wa (N'.I.ntO M.hp l8) (fun h=>nomatch h),N'.I.notM M.ma M.hp,wa,⟨es,n,S.at_,VRelF.mono N'.I.le _ hf⟩,S.F,S.pl,fun j b=>S.own j⟩
theorem zz {h:Heap} (X:K.In h) {D:Addr} {cd:ClassData} (hD:clsIn K D=some cd):∃ oD,h.get? D=some oD∧oD.data=.cls cd:=by
 unfold clsIn at hD
 split at hD
 · rename_i ho
   cases hD
   exact ⟨_,X _ _ ho,rfl⟩
 · cases hD
theorem kz {D f2 cc cda:Addr} {p0 p1 ap cp ep:Pos} {args:List Expr} {js:List Nat} {sb:SpI} (G:GOk g) (KI:K.In g.h0)
 (F:FnI g f fd names slf params (.Expr (.Call (.Attribute (.Call (.Name "super" p0) [] [] p1) "__init__" ap) args [] cp) ep::body) nd) (U:SuOk g K f C D f2 cc cda fd names slf) (hi:fR names slf=some i)
 (Ha:eK g (scC names cd) k args (js.map ix)) (hn:∀ env,∃ e r,backTo cp (starEach args env)=(false,e)::r) (hp:∀ env,(backTo cp (starEach args env)).any (·.1)=false)
 (he:∀ env,eval (.Call (.Attribute (.Call (.Name "super" p0) [] [] p1) "__init__" ap) args [] cp) env=(do
  let ov ← attributeBase (.Call (.Name "super" p0) [] [] p1) "__init__" env (eval (.Call (.Name "super" p0) [] [] p1) env)
  standAt ap.atName
  let (f,first) ← holding [ov] (getMethod ov "__init__" (do return (← importBound (.Call (.Name "super" p0) [] [] p1) env).getD true))
  callWith cp f first (backTo cp (starEach args env)) []))
 (hsw:∀ env,swapsWith (.Call (.Attribute (.Call (.Name "super" p0) [] [] p1) "__init__" ap) args [] cp) none ep.line env=pure false)
 (HB:th g k f2 C sb) (H:bO g (scC names cd) k body d) (hcd:∀ v,cd=some v→fd.code=v:=by intro _ h;cases h) :
 th g (k+1) f C (ij names i params nd C js sb d):=by
 intro Z R B N a dx fl vs xs Q K' E M hx h q
 refine Classical.byContradiction fun hn_=>?_
 obtain ⟨⟨hlen,hij⟩,h⟩:=uib h
 refine hn_ ?_;clear hn_
 refine (uv h).elim fun us h=>?_
 refine Classical.byContradiction fun hn_=>?_
 obtain ⟨o,h1,h2⟩:=F.at_.at_
 have hlx:xs.length+nd=params.length:=hx.length.symm▸hlen
 refine hn_ ?_;clear hn_
 refine ks_codeAny_call_defAt (fd:=fd) (binds:=(slf,.ref a)::params.zip (xs++List.replicate nd .none)) (Nat.lt_of_le_of_lt (Nat.le_add_right ..) R.depth) (N.base B h1) h2 (N.noLimit B G) (bS F.code fun m m=>N.base B) F.body_ (F.bind N.s (fun m m=>N.base B) _ xs hlx) (fun x hx=>F.nocell x (F.names_▸hx)) (o7 F) (fun h₀ hns hk₁=>?_) F.co F.gen F.kind
 refine Classical.byContradiction fun hn_=>?_
 obtain ⟨N1,A1⟩:=iY (fr:=[]) (fun m h=>nomatch h) (tk:=N.s.toks+((slf,Value.ref a)::params.zip (xs++List.replicate nd .none)).length) F M hx hns hk₁
 have hpl:(qy N.s.heap.objs.size [] names)[i]? = some (.ns N.s.heap.objs.size slf):=c8 F.nodup hi F.sk
 obtain ⟨es0,n0,hd0,hf0⟩:=M.dict
 refine hn_ ?_;clear hn_
 let N2:Now (kR Z N.s N.P fd f names dx):={ N1 with own:=N1.own.set i none,σ:=N1.σ.set i (.adr a),I:=N1.I.setSlot (h':=N1.s.heap) (t:=N1.s.toks) hpl (fun m m m e=>e) (fun m m m m m e=>e) (fun m m m m e=>e) A1.hh (.val rfl) fun m e=>nomatch e }
 have e2:N2.σ=⟨(bL names params nd vs).set i (some (.adr a)),N.σ.w⟩:=congrArg (fun s:St=>s.set i (.adr a)) A1.σ
 have es2:N2.s={ N.s with heap:=h₀,toks:=N.s.toks+((slf,Value.ref a)::params.zip (xs++List.replicate nd .none)).length }:=A1.s
 have hns2:N2.s.heap.Ns N.s.heap.objs.size (fun y=>((slf,Value.ref a)::params.zip (xs++List.replicate nd .none)).reverse.lookup y):=es2▸hns
 have Sx:bb N2 dx (dictOf es0 n0):=⟨A1.mkd.ap.1,A1.mkd.ap.2.1,fun j h=>dU h (fun m e=>nomatch e) fun nj e=>A1.mkd.ap.no j e,by rw [es2];exact hk₁ _ _ hd0,fun m m e=>nomatch congrArg Obj.data e⟩
 have kp0:∀ b o,g.h0.get? b=some o→N2.s.heap.get? b=some o:=fun b o=>N2.base (nX B)
 have X0:K.In N2.s.heap:=fun b o e=>kp0 _ _ (KI b o e)
 have X:=i4 (L:=N.s.heap.objs.size) hcd F
 have FR:Fr g (scC names cd) k (kR Z N.s N.P fd f names dx):=⟨X,R.deeper _,nX B,fun m m h=>nomatch h⟩
 refine Classical.byContradiction fun hn_=>?_
 obtain ⟨cl,cld,csl,hcell⟩:=U.cell
 obtain ⟨ccl,cdd,vs2,ccs,file,tf,hcode,hvs,hfile⟩:=U.codeo
 obtain ⟨cdD,hD⟩:=U.cls
 obtain ⟨cdC,hC⟩:=U.clsC
 obtain ⟨ar,har1,har2⟩:=U.head
 refine hn_ ?_;clear hn_
 rw [← es2]
 refine ks_wpAt_execs_cons (ks_wpAt_Expr_any (ks_wpAt_MethodCall ?_ (he _)) ?_ (hsw _))
 · refine ks_wpAt_super_base (env:=callEnv fd N.s.heap.objs.size f) (fd:=fd) ((X.kind _).trans U.ks) ((X.kind _).trans U.kc) rfl rfl (kp0 _ _ h1) h2 har1 (by show (callEnv fd N.s.heap.objs.size f).code=_;exact U.cde) (X0 _ _ hcode) rfl hvs hfile U.htop ?_
   refine ks_loadName_global F.kind ((X.kind _).trans U.ks) (Calls.loadGlobal_builtin (by rw [X.gl];exact G.ns.keeps kp0) U.sup (by rw [X.bi];exact G.nb.keeps kp0) ((G.boot "super" (by decide +kernel)).trans Boot.«super») ⟨rfl,?_⟩)
   refine wpAny_loadName_free F.kind ((X.kind _).trans U.kc) (c:=cc) (by show (fd.closure).lookup _=_;rw [U.clo];rfl) ⟨_,X0 _ _ hcell,rfl⟩ ?_
   refine wpAny_loadName_local F.kind ((X.kind _).trans (har2▸F.sk)) hns2 (by rw [har2];exact tB F.ns) ?_
   have clsAt:∀ {D cd},clsIn K D=some cd→∃ oD,N2.s.heap.get? D=some oD∧oD.data=.cls cd:=zz X0
   refine Classical.byContradiction fun hn_=>?_
   obtain ⟨oD,hD1,hD2⟩:=clsAt hD
   have hinst:N2.s.heap.get? a=some (instObj C dx):=A1.mkd.inst
   have hxC:a≠C:=fun e=>(clsAt hC).elim fun oC h=>nomatch (congrArg Obj.data (Option.some.inj (hinst.symm.trans (e▸h.1)))).trans h.2
   refine hn_ ?_;clear hn_
   refine ks_wpAny_isType_cls hD1 hD2 ⟨rfl,?_⟩
   refine ks_wpAny_call_super (C:=C) hD1 hD2 hinst rfl (fun c e=>nomatch e) (looks_mroIn X0 U.sub) (fun h' e' k'=>?_)
   have X1:K.In h':=X0.keeps k'
   have hst1:h'.Ns cStatics g.ms:=(G.stat.keeps kp0).keeps k'
   refine Classical.byContradiction fun hn_=>?_
   obtain ⟨of,hof,hofc⟩:∃ of,h'.get? f2=some of∧of.cls=.type "function" := by
    have ht':(K.lookup f2).map (·.cls)=some (.type "function"):=U.ht
    exact (Option.map_eq_some_iff.mp ht').imp fun of e=>⟨X1 _ _ e.1,e.2⟩
   have hm:=U.hm
   unfold ks_superIn at hm
   rw [hC] at hm
   refine hn_ ?_;clear hn_
   refine ks_wpAny_getMethod_super e' (vd hst1 G.noopq) (l₀:=cdC.mro) (fun A Q E s k q=>wpAny_bind ((looks_clsIn X1 hC) A _ E s k (wpAny_pure q))) rfl X1 hm hof hofc hxC rfl ?_
   let N3:=N2.keeps (h':=h') N2.s.toks k'
   have Sx3:bb N3 dx (dictOf es0 n0):=⟨Sx.F,Sx.pl,Sx.own,k' _ _ Sx.at_,Sx.ni⟩
   have S4:=bb.new N3 (o:=methodObj (.ref f2) (.ref a)) (t:=N2.s.toks+1) rfl fun m m e=>nomatch congrArg Obj.cls e
   have Sx4:bb (N3.keeps (h':=h'.push (methodObj (.ref f2) (.ref a))) (N2.s.toks+1) fun m m e=>Heap.get?_push_of_some _ e) dx (dictOf es0 n0):=⟨Sx3.F,Sx3.pl,Sx3.own,Heap.get?_push_of_some _ Sx3.at_,Sx3.ni⟩
   refine nD (T:=fun vs s=>vs=us∧s=N2.σ) KI U.keep Ha hn hp FR (held2 Sx4 S4) (List.mem_cons_of_mem _ List.mem_cons_self) ⟨us,_,mK (by show iw (N1.σ.set i (.adr a)).loc js=_;rw [A1.σ];exact (qz hij).trans h.1),rfl,rfl⟩ fun z Hz=>?_
   refine wpAny_call (method_call (Hz _ (List.mem_cons_of_mem _ List.mem_cons_self)).at_ (gX ?_))
   refine HB (Z:=kR Z N.s N.P fd f names dx) (R.deeper _) (nX B) z.N (M.of (L:=0) (Hz _ List.mem_cons_self) hf0) z.rel (Q:=fun fl1 w1=>Ok2 ((d ⟨(bL names params nd vs).set i (some (.mi C fl1)),w1⟩).bind (cQ i C)) Q) (by
    rw [z.q.1,show z.N.σ.w=N.σ.w from by rw [z.q.2,e2]];exact ub h.2) fun r=>wpAt_of_wpAny ?_
   have hσ:r.N'.σ=⟨(bL names params nd vs).set i (some (.adr a)),r.N'.σ.w⟩:=r.σ.trans (congrArg (fun s:St=>({ s with w:=r.N'.σ.w }:St)) (z.q.2.trans e2))
   have hli:i<(bL names params nd vs).length:=(congrArg List.length (congrArg St.loc A1.σ)).symm.trans N1.I.own.llen▸ct hpl
   refine r.N'.I.slotOf (i:=i) (v:=.adr a) (by rw [hσ];exact List.getElem?_set_self hli) fun p o' x t1 t2 t3 t4=>?_
   have t3:Holds r.N'.s.heap (.ns N.s.heap.objs.size slf) (.ref a):=(t4.relF rfl:x=.ref a)▸(Option.some.inj (hpl.symm.trans t1):bf.ns N.s.heap.objs.size slf=p).symm▸t3
   refine H FR (r.N'.adopt r.mkd rfl M.hp hpl t3) (ub (f:=cQ i C) (Q:=Q) (by show Ok2 ((d (r.N'.σ.set i (.mi C r.fl))).bind (cQ i C)) Q;rw [show r.N'.σ.set i (.mi C r.fl)=⟨(bL names params nd vs).set i (some (.mi C r.fl)),r.N'.σ.w⟩ from (congrArg (fun s:St=>s.set i (.mi C r.fl)) hσ).trans (congrArg (fun l=>(⟨l,r.N'.σ.w⟩:St)) (List.set_set ..))];exact r.q)) fun y=>?_
   have hr:=y.q
   have hf:=y.rel
   refine Classical.byContradiction fun hn_=>?_
   rw [iZ y.q] at hr hf
   refine hn_ ?_;clear hn_
   rw [show y.x=.next from hf]
   exact mw (fr:=[]) M rfl (fun m h=>nomatch h) hr fun r' es=>es▸q r'
 · show interactive _=false
   unfold interactive
   rw [show (callEnv fd N.s.heap.objs.size f).scope.kind=.function from F.kind]
   rfl
end
noncomputable def qE (C:Addr) (sp:SpI):Sp:=fun vs w=>(sp [] vs w).map fun r=>(.obj C r.1,r.2)
theorem qb (C:Addr) (rest:List Value):(Code.builtin "type.__call__" ⟨.ref C::rest,[]⟩).weight=1:=by kernel_rfl
theorem rM (C:Addr) (rest:List Value):(Code.builtin "type.__call__" ⟨.ref C::rest,[]⟩).cUnits=1:=by kernel_rfl
section
variable {Z:aE} {N:Now Z} {g:Gx} {k:Nat} {C a f:Addr} {K:Frag} {o:Obj}
theorem b5.make {Ar:Around} {C:Addr} {rest:List Value} (R:b5 Ar (k+1)):b5 (Ar.under (.builtin "type.__call__" ⟨.ref C::rest,[]⟩)) k :=
 ⟨by have:=R.depth;show Ar.depth+(Code.builtin "type.__call__" ⟨.ref C::rest,[]⟩).weight+k<_;rw [qb];omega,by have:=R.units;show Ar.units+(Code.builtin "type.__call__" ⟨.ref C::rest,[]⟩).cUnits+8 * k+40<_;rw [rM];omega,R.handled⟩
noncomputable def Now.layA (N:Now Z) (ap:eh Z.A N.P Z.pl N.own Z.pl.length a) (hg:N.s.heap.get? a=some o):Now Z :=
 { N with P:=N.P.put a o,I:=N.I.lay (loc':=N.σ.loc) ap.1 ap.1.2.2 hg ap.2.1 (N.I.own.keeps (Gh.put_le ap.1.1) (fun c c e=>e) (fun c c c e=>e) (fun c c c c e=>e) fun i b e=>(N.I.own.free i b e).1.put fun q=>ap.no i (q▸e)) }
theorem mY {sp:SpI} (KI:K.In g.h0) (hm:makesIn K C=true) (hi:findIn K (.ref C) "__init__" = some (some (.ref f))) (hf:isFn K (.ref f)=true) (HI:th g k f C sp):Con g (k+1) C (qE C sp):=by
 intro Z R B N vs xs Q K' E hx h q
 have X:K.In N.s.heap:=fun b o e=>N.base B (KI b o e)
 have hn1:=bo N.s.heap
 have hn2:N.s.heap.get? (N.s.heap.objs.size+1)=none:=aG fun o e=>Nat.lt_irrefl _ (Nat.lt_of_succ_lt (show N.s.heap.objs.size+1<N.s.heap.objs.size from Heap.lt_size e))
 have k1:∀ b o,N.s.heap.get? b=some o→((N.s.heap.push emptyDict).push (instObj C N.s.heap.objs.size)).get? b=some o:=fun b o e=>Heap.get?_push_of_some _ (Heap.get?_push_of_some _ e)
 have hi':((N.s.heap.push emptyDict).push (instObj C N.s.heap.objs.size)).get? (N.s.heap.objs.size+1)=some (instObj C N.s.heap.objs.size):=by heap_get
 have hd':((N.s.heap.push emptyDict).push (instObj C N.s.heap.objs.size)).get? N.s.heap.objs.size=some (dictOf [] 0):=Heap.get?_push_of_some _ (show (N.s.heap.push emptyDict).get? N.s.heap.objs.size=some emptyDict from Heap.get?_push_size _ rfl)
 have fa:=N.I.fresh hn2
 have apA:=N.I.apart (i:=Z.pl.length) hn2
 let N1:Now { Z with Ar:=Z.Ar.under (.builtin "type.__call__" ⟨.ref C::xs,[]⟩) }:=⟨N.σ,N.P,N.own,{ N.s with heap:=(N.s.heap.push emptyDict).push (instObj C N.s.heap.objs.size),toks:=N.s.toks },N.I.keeps k1⟩
 have main:=fun K'=>HI (Z:={ Z with Ar:=Z.Ar.under (.builtin "type.__call__" ⟨.ref C::xs,[]⟩) }) R.make B N1 (K:=K') (E:=fun a a=>False) ⟨hi',fa.2.1,fa.2.2,⟨[],0,hd',(show VRelF N.P [] [] from rfl)⟩,N.I.apart hn1⟩ hx (um2 (um2 h))
 refine wpAny_call ?_
 refine make_core (h:=N.s.heap) (g:=N.s.gens) (d:=N.s.drawn) (t:=N.s.toks) (os:=N.s.os) (makes_of X hm) (looks_findIn X hi) (fun self=>bind_fn X self (beq_iff_eq.mp hf)) (.inl rfl) (gX (codeAny_mono (main (fun x s=>x=.none∧K' (.ref (N.s.heap.objs.size+1)) s) fun r=>⟨rfl,?_⟩) fun r s h=>?_))
 · obtain ⟨es,n,q1,q2⟩:=r.mkd.dict
   let M:Now Z:=⟨r.N'.σ,r.N'.P,r.N'.own,r.N'.s,r.N'.I⟩
   let M1:=M.layA r.mkd.ap q1
   have ne:=r.mkd.ne
   have apA':eh Z.A M1.P Z.pl M1.own Z.pl.length (N.s.heap.objs.size+1):=⟨ce.put ⟨r.mkd.ma,r.mkd.wa,apA.1.2.2⟩ ne,apA.2.1,fun j hj e=>apA.2.2 j hj (r.le.sh j _ e)⟩
   have l1:M.P.le M1.P:=Gh.put_le r.mkd.ap.1.1
   have l2:M1.P.le (M1.layA apA' r.mkd.inst).P:=Gh.put_le apA'.1.1
   exact q ⟨.obj C r.fl,_,M1.layA apA' r.mkd.inst,⟨r.le.P.trans (l1.trans l2),r.le.sh⟩,⟨_,_,es,rfl,Gh.put_self _ _ _,⟨n,l2.m _ _ (Gh.put_self _ _ _)⟩,VRelF.mono (l1.trans l2) _ q2⟩,r.σ▸r.q⟩
 · match r,h with
   | .ok (.ret _),h=>exact h
   | .error _,h=>exact h.elim
   | .ok .next,h=>exact h.elim
   | .ok .cont,h=>exact h.elim
   | .ok .brk,h=>exact h.elim
end
structure Out {Z:aE} (N:Now Z) (b:Addr):Prop where
 F:ce Z.A N.P b
 pl:∀ p∈Z.pl,p.addr≠b
 own:∀ i:Nat,N.own[i]?≠some (some b)
section
variable {Z:aE} {N:Now Z}
theorem Now.out (N:Now Z) {b:Addr} (h:N.s.heap.get? b=none):Out N b:=have ap:=N.I.apart (i:=Z.pl.length) h;⟨ap.1,ap.2.1,ap.no⟩
theorem bb.out {b:Addr} {o:Obj} (S:bb N b o):Out N b:=⟨S.F,S.pl,S.own⟩
noncomputable def Now.moved (N:Now Z) {wr:List Addr} {s':Shared} (hw:∀ b∈wr,Out N b) (hk:∀ b o,b∉wr→N.s.heap.get? b=some o→s'.heap.get? b=some o)
 (hg:∀ (i:Nat) x,Z.A.gens[i]? = some x→s'.gens[i]? = some x) (hd:s'.drawn=N.s.drawn) (ho:s'.os=N.s.os) (hbg:∀ y∈s'.gens,y.bare=true):Now Z :=
 have kP:∀ a o,N.P.m a=some o→a∉wr:=fun a o e q=>(hw _ q).F.neM e rfl
 have kW:∀ a,N.P.wa=some a→a∉wr:=fun a e q=>(hw _ q).F.neW e rfl
 have kA:∀ a o,Z.A.hp a=some o→a∉wr:=fun a o e q=>(hw _ q).F.ne e rfl
 { N with s:=s',I:={ N.I with
    pin:=fun a o e=>hk _ _ (kP _ _ e) (N.I.pin a o e),keep:=fun a o e h1 h3 h4=>hk _ _ (kA _ _ e) (N.I.keep a o e h1 h3 h4),alive:=fun a o e=>(N.I.alive a o e).imp fun c=>hk _ _ (kA _ _ e),
    waAlive:=fun a e=>⟨(N.I.waAlive a e).1,(N.I.waAlive a e).2.imp fun c=>hk _ _ (kW _ e)⟩,gens:=hg,bg:=hbg,drawn:=hd.trans N.I.drawn,os:=ho.trans N.I.os,
    tab:=fun x hx=>have T:=N.I.tab x hx;have M:=N.I.tabM hx;have k2:x.2∉wr:=T.hp.elim fun c q=>kA _ _ q.1
     ⟨T.hp,T.m0,T.wa0,T.cm,T.code.at' (fun c=>hk _ _ (M.2.2.elim (fun q=>q▸k2) fun q=>q.elim fun c=>kP _ _)) fun c=>hk _ _ k2⟩,
    frs:=fun a ha=>have T:=N.I.frs a ha;⟨T.m0,T.wa0,T.nt,T.at_.imp fun c=>Exists.imp fun c q=>⟨q.1,hk _ _ (kA _ _ q.1) q.2⟩,T.dic⟩,
    w:=N.I.w.keeps (.refl _) (fun c c e=>e) fun a e o=>hk _ _ (kW _ e),
    own:=N.I.own.keeps (.refl _) (fun c c e=>e) (fun p hp o=>hk _ _ fun q=>(hw _ q).pl p hp rfl) (fun i a e o=>hk _ _ fun q=>(hw _ q).own i e) fun i a e=>(N.I.own.free i a e).1 } }
def Now.table (N:Now Z) {x:Addr×Addr} {ps:Array Value} (hx:x∈N.P.tb) (hne:x.1≠x.2) {h':Heap} (t:Nat) (hk:Heap.ExtBut x.2 N.s.heap h') (hc:h'.IsCode x.1 x.2 ps) (hen:iv N.P x ps) (htb:h'.TableAt x.1 x.2 ps) (hu:∀ y∈N.P.tb,y.2=x.2→y=x):Now Z :=
 have M:=N.I.tabM hx
 have k:∀ b o,b≠x.2→N.s.heap.get? b=some o→h'.get? b=some o:=fun b o hb e=>hk b o hb e
 have nF:∀ {a},ce Z.A N.P a→a≠x.2:=fun F q=>N.I.nt F.2.2 x hx q.symm
 have tabs:∀ y∈N.P.tb,j2 Z.A N.P h' y:=fun y hy=>by
  have T:=N.I.tab y hy
  have My:=N.I.tabM hy
  refine ⟨T.hp,T.m0,T.wa0,T.cm,?_⟩
  by_cases q:y.2=x.2
  · cases hu y hy q;exact .tab hne hc hen htb
  · refine T.code.at' (fun o e=>k _ _ ?_ e) fun o e=>k _ _ q e
    exact My.2.2.elim (fun e=>e▸q) fun e=>e.elim fun c e=>b6 M.1 e
 { N with s:={ N.s with heap:=h',toks:=t },I:=N.I.step (σ':=N.σ) k (fun c=>⟨_,htb.2⟩) M.1 (fun o e h1 h3 h4=>h3 x hx rfl) tabs (fun ha=>(N.I.frM ha).2.2 x hx rfl) (N.I.w.keeps (.refl _) (fun c c e=>e) fun a e o=>k _ _ fun q=>M.2.1 (q▸e)) (N.I.own.keeps (.refl _) (fun c c e=>e) (fun p hp o=>k _ _ (nF (N.I.pfree p hp))) (fun i a e o=>k _ _ (nF (N.I.own.free i a e).1)) fun i a e=>(N.I.own.free i a e).1) }
end
def ol (g:Gx) (c:SC) (k:Nat) (iter:Expr) (di:DI):Prop :=
 ∀ {Z:aE} (F:Fr g c k Z) (N:Now Z) {Q:List V→St→Prop} {K:Value→Shared→Prop} {E:Value→Shared→Prop},Ok2 (di N.σ) Q→(∀ r:vP g N Q,K (.ref r.a) r.N.s) →
  wpAny (model g.prog g.w) Z.Ar (eval iter Z.env) (fun xv s1=>wpAny (model g.prog g.w) Z.Ar (genFold iter Z.env xv) (fun xv' s2=>wpAny (model g.prog g.w) Z.Ar (pyIter xv') K E s2) E s1) E N.s
inductive rF (g:Gx) {Z:aE} (M:Now Z) (us:List V) (F:V→Value→Prop) (a:Addr):Prop
 | mk {fp wr:List Addr} {G:Array GenState→Array GenState→Prop} {n:Nat} {S':Nat→Shared→Prop}:WalksS g.prog g.w Z.Ar.in4 a fp wr G n (fun j y=>∃ v,us[j]? = some v∧F v y) S'→n=us.length→S' 0 M.s→(∀ b∈fp,b<M.s.heap.objs.size) →
  (∀ s',Moved wr G M.s s'→∃ M':Now Z,M'.s=s'∧M'.σ=M.σ∧M.Le M')→rF g M us F a
structure GT (g:Gx) (Ar:Around) (scope:Scope) (x:Str) (A':Around) (cenv:Env) (v:V) (xv:Value) (s:Shared) (m:Str→Option Value):Prop where
 hA:A'.handled=none
 hU:A'.units≤Ar.units+8
 sc:cenv.scope=scope
 gl:cenv.globals=mainGlobals
 bi:cenv.builtins=builtinsNs
 rel:∃ P,ao P v xv
 ns:s.heap.Ns cenv.locals m
 at_:m x=some xv
 hg:s.heap.Ns mainGlobals g.mg
 hb:s.heap.Ns builtinsNs g.mb
structure nz (names:aq) (x:Str):Prop where
 free:∀ y∈names,y.2≠.free
 cell:∀ y∈names,y.2≠.cell
 dot:names.lookup (".0" : Str)=some NameKind.local
 x:names.lookup x=some .local
section
variable {Z:aE} {N:Now Z} {g:Gx} {c:SC} {k:Nat} {names:aq} {x:Str} {px pos:Pos} {elt iter:Expr} {ifs:List Expr} {scope:Scope} {cd T:Addr} {di:DI}
theorem km {tst:V→Bool} {F':V→Value→Prop} {Tv:V→Prop} {Q:List V→St→Prop} {K E:Value→Shared→Prop}
 (G:GOk g) (hco:scope.isCoroutine=false) (hnames:scope.names=names) (nm:nz names x) (hkind:scope.kind=.function)
 (hcode:c.code=some (.ref cd)) (htb:(cd,T)∈g.tb) (hct:cd≠T∧g.tb.count (cd,T)≤1) (F:Fr g c k Z) (Hi:ol g c k iter di) (h:Ok2 (di N.σ) fun l σ=>(∀ v∈l,Tv v)∧Q l σ)
 (hT:∀ {A' cenv v xv s₂ m₂} E',GT g Z.Ar scope x A' cenv v xv s₂ m₂→Tv v→wpAny (model g.prog g.w) A' (forIn ifs true fun c r=>if r=true then do let ok ← isTrue c cenv (eval c cenv);pure (ForInStep.yield ok) else pure (ForInStep.yield r)) (fun ok s₃=>ok=tst v∧Keeps s₂ s₃) E' s₂)
 (hE:∀ {A' cenv v xv s₂ m₂} E',GT g Z.Ar scope x A' cenv v xv s₂ m₂→Tv v→tst v=true→wpAny (model g.prog g.w) A' (eval elt cenv) (fun y s₃=>F' v y∧Keeps s₂ s₃) E' s₂)
 (q:∀ l a (M:Now Z),N.Le M→(∀ v∈l,Tv v)→Q l M.σ→rF g M (l.filter tst) F' a→K (.ref a) M.s) :
 wpAny (model g.prog g.w) Z.Ar (eval (.GeneratorExp elt [⟨.Name x px,iter,ifs,0⟩] scope pos) Z.env) K E N.s:=by
 have hh:=F.R.handled
 have hroom:Z.Ar.depth<recursionLimit:=Nat.lt_of_le_of_lt (Nat.le_add_right ..) F.R.depth
 rw [eval_GeneratorExp1 _ _ _ _ _ _ _ hco,closureFor_none (hnames▸nm.free)]
 refine wpAny_bind (wpAny_mono (Hi F N (K:=fun it s3=>∃ r:vP g N (fun l σ=>(∀ v∈l,Tv v)∧Q l σ),it=.ref r.a∧s3=r.N.s) h fun r=>⟨r,rfl,rfl⟩) (fun xv s1 h1=>?_) fun _ _ e=>e)
 refine wpAny_bind (wpAny_standAt (wpAny_bind (wpAny_mono h1 (fun xv' s2 h2=>?_) fun _ _ e=>e)))
 refine wpAny_bind (wpAny_holding (wpAny_mono h2 (fun it s3 h3=>?_) fun _ _ e=>e))
 refine Classical.byContradiction fun hn_=>?_
 obtain ⟨⟨l,I,N3,le3,itf,hTv,hQ⟩,rfl,rfl⟩:=h3
 obtain ⟨W,S3,hst⟩:=itf
 rename_i ax Pt St' o
 refine hn_ ?_;clear hn_
 refine wpAny_bind (wpAny_enterFrame (N3.noLimit F.B G) hroom (wpAny_bind (wpAny_pure (wpAny_bind ?_))))
 have etb:N3.P.tb=g.tb:=N3.I.le.tb.trans F.B.tb
 have hxt:(cd,T)∈N3.P.tb:=etb▸htb
 refine Classical.byContradiction fun hn_=>?_
 obtain ⟨ps,hcc,htab⟩:∃ ps,N3.s.heap.IsCode cd T ps∧N3.s.heap.TableAt cd T ps:=(N3.I.tab _ hxt).code.rec (fun _ c _ t=>⟨_,c,t⟩) fun e=>absurd e hct.1
 refine hn_ ?_;clear hn_
 have hgc:∀ (qn:Str) (Q:Value→Shared→Prop),(∀ code h' tk ps',Heap.ExtBut T N3.s.heap h'→h'.IsCode cd T ps'→h'.TableAt cd T ps'→Q code { N3.s with heap:=h',toks:=tk })→wpAny (model g.prog g.w) Z.Ar (genexprCode Z.env pos qn scope) Q E N3.s:=by
  intro qn Q hQ
  cases hca:codeAmong pos ps.toList with
  | some cv=>exact wpAny_genexprCode_hit (F.X.code _ hcode) hcc hca (hQ cv N3.s.heap N3.s.toks ps (Heap.ExtBut.refl _ _) hcc htab)
  | none=>exact wpAny_genexprCodeX (F.X.code _ hcode) hcc htab hca fun c' h' tk h1 _ _ h2 _ h3 _=>hQ _ h' tk _ h1 h2 h3
 refine hgc _ _ fun code h4 tk4 ps' hext hcc' htab'=>?_
 let N4:=N3.table hxt hct.1 tk4 hext hcc' (fun h=>absurd (Nat.le_trans h (etb▸hct.2)) (by decide)) htab' (fun y hy=>G.uniq _ htb y (etb▸hy))
 have kp4:∀ b o,g.h0.get? b=some o→h4.get? b=some o:=fun b o=>N4.base F.B
 refine Classical.byContradiction fun hn_=>?_
 obtain ⟨bm,ob,hb1,hb2,hb3,hb4,hb5,hb6⟩:=G.mod
 refine hn_ ?_;clear hn_
 refine wpAny_bind (wpAny_builtinsFor (by rw [F.X.gl];exact G.ns.keeps kp4) hb1 hb2 (kp4 _ _ hb3) hb4 hb5 hb6 ?_)
 have tbm:=N3.I.tabM hxt
 have hIT:I≠T:=fun e=>N3.I.nt S3.F.2.2 _ hxt e.symm
 have hIs:h4.get? I=some o:=hext I o hIT S3.at_
 have hst4:St' 0 h4:=(W.walk Z.Ar hh).frame _ _ _ hst fun b hb ob e=>hext b ob ((List.mem_cons.mp hb).elim (fun q=>q▸hIT) fun hb=>(W.fp b hb).elim fun _ z=>b6 tbm.1 z) e
 have hfp:∀ b∈I::ax,b<h4.objs.size:=fun b hb=>(List.mem_cons.mp hb).elim (fun q=>q▸Heap.lt_size hIs) fun hb=>(W.fp b hb).elim fun _ z=>Heap.lt_size (N4.I.pin _ _ z)
 have hl4:h4.NoLimit:=N4.noLimit F.B G
 have hclt:cStatics<h4.objs.size:=hl4.elim fun _ h=>h.1.lt
 have nI:∀ b o,g.h0.get? b=some o→b∉[I]:=fun b o e h=>aL (S3.F.1.symm.trans (List.mem_singleton.mp h▸N3.I.le.m _ _ (F.B.sub _ _ e)))
 have hcw:cStatics∉[I]:=G.stat.elim fun oS h=>h.elim fun _ h=>h.elim fun _ h=>nI _ _ h.1
 refine wpAny_bind (wpAny_newFunctionEnv (by rw [hnames];exact nm.cell) (fun y hy=>by cases List.mem_singleton.mp hy;rw [hnames];exact nm.dot) (fun h' hn' hs'=>?_) hkind)
 simp only [newGenerator,newFields]
 refine wpAny_bind (wpAny_newGen (wpAny_bind (wpAny_mkText (wpAny_bind (wpAny_mkText (wpAny_newObj_type ?_ (by size_fits)))))))
 have hsz:h'.objs.size=h4.objs.size+1:=by rw [hs'.1,Heap.size_push]
 have keep':∀ b o,h4.get? b=some o→h'.get? b=some o:=fun b o e=>hs'.extBut b o (Nat.ne_of_lt (Heap.lt_size e)) (Heap.get?_push_of_some _ e)
 have hsub:∀ b∈[I],b∈List.range h4.objs.size:=fun b hb=>List.mem_range.mpr (hfp b ((W.walk Z.Ar hh).sub b hb))
 have haC:h'.objs.size≠h4.objs.size:=by rw [hsz];exact Nat.succ_ne_self _
 have haf:h'.objs.size∉List.range h4.objs.size:=fun hm=>Nat.lt_irrefl _ (Nat.lt_of_succ_lt (hsz▸List.mem_range.mp hm))
 have hpass:(passing (fun i=>(l[i]?.map tst).getD false) l.length 0).map (fun i=>l[i]?)=(l.filter tst).map some:=by
  unfold passing;rw [List.drop_zero];exact idx_map l tst
 have hlen:(passing (fun i=>(l[i]?.map tst).getD false) l.length 0).length=(l.filter tst).length:=(List.length_map _).symm.trans ((congrArg List.length hpass).trans (List.length_map _))
 have keep₅:∀ b o,h4.get? b=some o→(h'.push { cls:=.type "generator",data:=.fields #[.int N3.s.gens.size 0,.str "<genexpr>" (tk4+[((".0" : Str),Value.ref I)].length),.str (Z.env.qual ++ "<genexpr>") (tk4+[((".0" : Str),Value.ref I)].length+1)] }).get? b=some o :=
  fun b o e=>Heap.get?_push_of_some _ (keep' b o e)
 have WS:=WalksS.genexpQ (prog:=g.prog) (w:=g.w) (A:=Z.Ar.in4) hh h'.objs.size N3.s.gens.size h4.objs.size (List.range h4.objs.size) [I] (fun i=>(l[i]?.map tst).getD false) l.length (fun i y=>∃ v,l[i]? = some v∧F' v y) haC haf hsub hroom (List.mem_range.mpr hclt) (Nat.ne_of_lt hclt) hcw
 have hq:∀ href:Heap,(∀ b o,h4.get? b=some o→href.get? b=some o)→QuietGenD g.prog g.w (genEnv scope [] h4.objs.size code builtinsNs Z.env) x ifs elt (List.range h4.objs.size) [I] Pt (fun i=>(l[i]?.map tst).getD false) (fun i y=>∃ v,l[i]? = some v∧F' v y) href (Z.Ar.depth+1) (Z.Ar.units+8):=fun href hhr=>by
  have up:∀ (s₂:Shared),(∀ b∈List.range h4.objs.size,b∉[I]→∀ o,href.get? b=some o→s₂.heap.get? b=some o)→∀ b o,g.h0.get? b=some o→s₂.heap.get? b=some o:=fun s₂ hk b o e =>
   hk b (List.mem_range.mpr (Heap.lt_size (kp4 _ _ e))) (nI b o e) o (hhr _ _ (kp4 _ _ e))
  refine ⟨fun A' E' i xv s₂ m₂ hA _ hU hP hns hm hk=>?_,fun A' E' i xv s₂ m₂ hA _ hU hP hpz hns hm hk=>?_⟩
  · obtain ⟨v,hv,hr⟩:=W.item i xv hP
    refine wpAny_mono (hT E' ⟨hA,hU,rfl,F.X.gl,rfl,⟨_,hr⟩,hns,hm,G.ns.keeps (up s₂ hk),G.nb.keeps (up s₂ hk)⟩ (hTv v (List.mem_of_getElem? hv))) (fun ok s₃ r=>⟨r.1.trans (by simp [hv]),r.2⟩) fun _ _ e=>e
  · obtain ⟨v,hv,hr⟩:=W.item i xv hP
    refine wpAny_mono (hE E' ⟨hA,hU,rfl,F.X.gl,rfl,⟨_,hr⟩,hns,hm,G.ns.keeps (up s₂ hk),G.nb.keeps (up s₂ hk)⟩ (hTv v (List.mem_of_getElem? hv)) (by simpa [hv] using hpz)) (fun y s₃ r=>⟨⟨v,hv,r.1⟩,r.2⟩) fun _ _ e=>e
 have e0:(fun y:Str=>([((".0" : Str),Value.ref I)]:List (Str×Value)).reverse.lookup y)=fun y:Str=>if y=(".0" : Str) then some (Value.ref I) else none:=by
  funext y
  by_cases hy:y = ".0"
  · subst hy;simp
  · have:(y==(".0" : Str))=false:=by simpa using hy
    simp [List.lookup,this,hy]
 refine Classical.byContradiction fun hn_=>?_
 rw [e0] at hn'
 have GA:=GenAt.freshD (prog:=g.prog) (w:=g.w) (A:=Z.Ar.in4) (elt:=elt) (iter:=iter) (px:=px) (ifs:=ifs) (scope:=scope) (pos:=pos) (I:=I) (a:=h'.objs.size) (g:=N3.s.gens.size) (fp:=List.range h4.objs.size) (wr:=[I]) (n₀:=l.length) (P:=Pt) (St₀:=St')
  (cenv:=genEnv scope [] h4.objs.size code builtinsNs Z.env) (m:=fun y=>if y = ".0" then some (.ref I) else none) hh
  (fun A' hA=>(W.walk A' hA).mono_fp fun b hb=>List.mem_range.mpr (hfp b hb)) (fun i=>(l[i]?.map tst).getD false) (fun i y=>∃ v,l[i]? = some v∧F' v y) (by show scope.names.lookup x=_;rw [hnames];exact nm.x) (by simp [genEnv,hkind]) hco
  (fun hm=>Nat.lt_irrefl _ (List.mem_range.mp hm)) (s:={ N3.s with gens:=N3.s.gens.push (.fresh (.compStart (.GeneratorExp elt [⟨.Name x px,iter,ifs,0⟩] scope pos) 0 (.ref I) .none (genEnv scope [] h4.objs.size code builtinsNs Z.env))),toks:=tk4+[((".0" : Str),Value.ref I)].length+1+1,heap:=h'.push { cls:=.type "generator",data:=.fields #[.int N3.s.gens.size 0,.str "<genexpr>" (tk4+[((".0" : Str),Value.ref I)].length),.str (Z.env.qual ++ "<genexpr>") (tk4+[((".0" : Str),Value.ref I)].length+1)] } }) (hq _ keep₅) ⟨_,_,_,Heap.get?_push_size _ rfl,rfl,rfl,rfl⟩ (Array.getElem?_push_size ..) ((W.walk Z.Ar hh).frame _ _ _ hst4 fun b _ o e=>keep₅ b o e) (hn'.push _) (hl4.keeps keep₅)
 have gl:∀ (i:Nat) y,Z.A.gens[i]? = some y→∃ hlt:i<N3.s.gens.size,N3.s.gens[i]? = some y:=fun i y e=>have e':=N3.I.gens i y e;⟨(Array.getElem?_eq_some_iff.mp e').1,e'⟩
 refine hn_ ?_;clear hn_
 let N5:Now Z:=N4.moved (wr:=[]) (s':={ N3.s with gens:=N3.s.gens.push (.fresh (.compStart (.GeneratorExp elt [⟨.Name x px,iter,ifs,0⟩] scope pos) 0 (.ref I) .none (genEnv scope [] h4.objs.size code builtinsNs Z.env))),toks:=tk4+[((".0" : Str),Value.ref I)].length+1+1,heap:=h'.push { cls:=.type "generator",data:=.fields #[.int N3.s.gens.size 0,.str "<genexpr>" (tk4+[((".0" : Str),Value.ref I)].length),.str (Z.env.qual ++ "<genexpr>") (tk4+[((".0" : Str),Value.ref I)].length+1)] } })
  (fun _ h=>nomatch h) (fun b o _ e=>keep₅ b o e) (fun i y e=>(gl i y e).elim fun hlt e'=>(Array.getElem?_push_lt hlt).trans ((Array.getElem?_eq_getElem hlt).symm.trans e')) rfl rfl (AllBare.push (gens:=N3.s.gens) N4.I.bg rfl)
 refine q l _ N5 (le3.trans ⟨.refl _,fun _ _ e=>e⟩) hTv hQ (.mk (fp:=h'.objs.size::h4.objs.size::List.range h4.objs.size) (wr:=h4.objs.size::[I]) (G:=GenOnlyQ N3.s.gens.size) (n:=(passing (fun i=>(l[i]?.map tst).getD false) l.length 0).length)
  (S':=GenAt g.prog g.w Z.Ar.in4 h'.objs.size N3.s.gens.size h4.objs.size (List.range h4.objs.size) [I] (fun i=>(l[i]?.map tst).getD false) l.length (fun i y=>∃ v,l[i]? = some v∧F' v y)) ?_ hlen GA ?_ ?_)
 · refine WalksS.imp WS fun j y hy=>?_
   refine Classical.byContradiction fun hn_=>?_
   obtain ⟨i,hij,v,hv,hF⟩:=hy
   have e:=congrArg (fun l=>l[j]?) hpass
   simp only [List.getElem?_map,hij,Option.map_some,hv] at e
   refine hn_ ?_;clear hn_
   exact ⟨v,(Option.map_eq_some_iff.mp e.symm).elim fun b hb=>hb.1.trans hb.2,hF⟩
 · intro b hb
   show b<(h'.push _).objs.size
   rw [Heap.size_push]
   refine Classical.byContradiction fun hn_=>?_
   rcases List.mem_cons.mp hb with rfl | hb
   · refine hn_ ?_;clear hn_
     exact Nat.lt_succ_self _
   · rcases List.mem_cons.mp hb with rfl | hb
     · refine hn_ ?_;clear hn_
       rw [hsz];exact Nat.lt_succ_of_lt (Nat.lt_succ_self _)
     · refine hn_ ?_;clear hn_
       rw [hsz];exact Nat.lt_succ_of_lt (Nat.lt_succ_of_lt (List.mem_range.mp hb))
 · intro s' M
   have O1:Out N4 h4.objs.size:=N4.out (bo h4)
   have S5:Out N5 I:=⟨S3.F,S3.pl,S3.own⟩
   refine ⟨N5.moved (wr:=h4.objs.size::[I]) (fun b hb=>(List.mem_cons.mp hb).elim (fun e=>e▸⟨O1.F,O1.pl,O1.own⟩) fun hb=>List.mem_singleton.mp hb▸S5) M.heap (fun i y e=>?_) M.drawn M.os (AllBare.moved N5.I.bg M.gens),rfl,rfl,⟨.refl _,fun _ _ e=>e⟩⟩
   refine Classical.byContradiction fun hn_=>?_
   obtain ⟨hlt,e'⟩:=gl i y e
   have h5:=N5.I.gens i y e
   rcases M.gens with z | ⟨z,_⟩
   · refine hn_ ?_;clear hn_
     rw [z];exact h5
   · refine hn_ ?_;clear hn_
     exact (z.2 i (Nat.ne_of_lt hlt)).trans h5
end
noncomputable def uc (names:aq) (x:Str):Bool :=
 names.all (fun y=>y.2 != .free&&y.2 != .cell)&&(names.lookup (".0" : Str)==some .local)&&(names.lookup x==some .local)
def dsumg (di:DI):DE:=fun σ=>(di σ).bind fun q=>if (q.1.all fun v=>(isNone v).isSome)=true∧q.1.length≤1000 then some (.int ((q.1.filter fun v=>isNone v != some true).length:Int),q.2) else none
set_option backward.match.sparseCases false in
noncomputable def cK:V→Bool
 | .str _=>true
 | _=>false
def danyg (di:DI):DE:=fun σ=>(di σ).bind fun q=>if q.1.all cK=true then some (.bool false,q.2) else none
def po (v:V):Bool:=((asS v).map fun x=>Txt.isdigit (S x)).getD false
def dallg (di:DI):DE:=fun σ=>(di σ).bind fun q=>if q.1.all cK=true then some (.bool (q.1.all po),q.2) else none
section
variable {Z:aE} {N:Now Z} {g:Gx} {c:SC} {k:Nat} {names:aq} {x:Str} {e iter f:Expr} {scope:Scope} {cd T:Addr} {di:DI} {es:List Expr} {ds:List DE} {px p1 p2 p3 p4 p5 ap cp py pn pc pos pg:Pos}
theorem fD (h:uc names x=true):nz names x :=
 have h:=Bool.and_eq_true_iff.mp h
 have h1:=Bool.and_eq_true_iff.mp h.1
 have al:=fun y hy=>Bool.and_eq_true_iff.mp (List.all_eq_true.mp h1.1 y hy)
 ⟨fun y hy=>bne_iff_ne.mp (al y hy).1,fun y hy=>bne_iff_ne.mp (al y hy).2,beq_iff_eq.mp h1.2,beq_iff_eq.mp h.2⟩
theorem pw (H:kG g c k e di) (hf:∀ env x,genFold e env x=pure x):ol g c k e di :=
 fun F N Q K E h q=>wpAny_mono (H F N h q) (fun xv s1 h1=>hf _ xv▸wpAny_pure h1) fun a a e=>e
theorem qU {es:List Expr} {pos:Pos} {x:Addr} {xs:Array Value} {o:Obj} {n:Nat} {prog:Program} {w:World} {Ar:Around} {s:Shared} {Q E:Value→Shared→Prop} (hs:es.all em=true) (ho:s.heap.get? x=some o) (hd:o.data=.seq xs n) (q1:Q (.ref x) s) (q2:wpAny (model prog w) Ar (newTuple xs.toList) Q E s) :
 wpAny (model prog w) Ar (foldedIterable (.List es pos) (.ref x)) Q E s:=by
 unfold foldedIterable
 refine wpAny_bind (wpAny_askSetting ?_)
 split
 · exact wpAny_pure q1
 · dsimp only
   rw [if_neg fun hc=>(List.any_eq_true.mp hc).elim fun e he=>by
    have:=List.all_eq_true.mp hs e he.1
    obtain ⟨he,z⟩:=he
    cases e<;>first | (cases this;done) | cases z]
   exact wpAny_bind (wpAny_rule (wpAny_bind (wpAny_seqItems ho hd q2)))
theorem uw (H:eK g c k es ds) (hs:es.all em=true):ol g c k (.List es pos) (diof (dlst ds)):=fun F N Q K E h q =>
 List_ (H F N (ub (ub h)) fun a=>have h1:=ui a.q
  have h2:OkV (lu (.lst a.v)) fun l=>Q l a.N.σ:=um h1.2
  wpAny_newObj_type (
   let N1:=a.N.new { cls:=.type "list",data:=.seq a.x.toArray } rfl a.N.s.toks
   have l1:N.Le N1:=a.le.trans a.N.new_le
   qU (s:=N1.s) (pos:=pos) hs (N1.I.pin _ _ (Gh.put_self ..)) rfl (ls (N:=N1) F.R h2 (eA ⟨_,_,Gh.put_self ..,rfl,rfl⟩ (a.rel.up a.N.new_le.P)) fun z=>q ⟨z.v,z.a,z.N,l1.trans z.le,z.itf,z.q⟩)
    (show wpAny _ _ (newObj _ _ none) _ _ _ from wpAny_newObj_type (ls (N:=N1.new { cls:=.type "tuple",data:=.seq a.x.toArray } rfl N1.s.toks) (v:=.tup a.v) F.R h2 (rK ⟨_,0,Gh.put_self ..,rfl,rfl⟩ ((a.rel.up a.N.new_le.P).up N1.new_le.P)) fun z=>q ⟨z.v,z.a,z.N,(l1.trans N1.new_le).trans z.le,z.itf,z.q⟩) (dp a.rel h1.1))) (dp a.rel h1.1))
theorem GT.name {Ar A':Around} {cenv:Env} {v:V} {xv:Value} {s:Shared} {m:Str→Option Value} {K E:Value→Shared→Prop} {M:Model} (t:GT g Ar scope x A' cenv v xv s m) (hn:scope.names=names) (nm:nz names x) (hkind:scope.kind=.function) (hd:(x==("__debug__" : Str))=false) (q:K xv s) :
 wpAny M A' (eval (.Name x px) cenv) K E s:=wpAny_Name (wpAny_loadName_local (t.sc.symm▸hkind) ((congrArg (List.lookup x) ((congrArg Scope.names t.sc).trans hn)).trans nm.x) t.ns t.at_ q) hd
theorem GT.bi_ {Ar A':Around} {cenv:Env} {v:V} {xv:Value} {s:Shared} {m:Str→Option Value} {K E:Value→Shared→Prop} {M:Model} {y:Str} {b:Value} (t:GT g Ar scope x A' cenv v xv s m) (hn:scope.names=names) (hkind:scope.kind=.function) (hk:names.lookup y=some .globalImplicit) (hm:g.mg y=none) (hb:g.mb y=some b) (hd:(y==("__debug__" : Str))=false) (q:K b s) :
 wpAny M A' (eval (.Name y px) cenv) K E s:=Calls.Name_function_global (t.sc.symm▸hkind) ((congrArg (List.lookup y) ((congrArg Scope.names t.sc).trans hn)).trans hk) (Calls.loadGlobal_builtin (t.gl.symm▸t.hg) hm (t.bi.symm▸t.hb) hb q) hd
theorem dJ (s:Shared) {t:Nat}:Keeps s { s with toks:=t }:=⟨s.heap,t,rfl,fun a a e=>e⟩
theorem iS:∀ n:Nat,preSum (fun a=>1) n=n
 | 0=>rfl
 | n+1=>congrArg (· + 1) (iS n)
theorem jJ {id:String} {a:Expr} {d:DE} (Hf:ak g c k f (dk (.bi id))) (hs:∀ env,starEach [a] env=[(false,eval a env)])
 (he:∀ env,eval (.Call f [a] [] pos) env=(do callWith pos (← eval f env) [] (backTo pos (starEach [a] env)) (backToKw pos (keywordEach [] env))))
 (H:∀ {Z:aE} (F:Fr g c k Z) (N:Now Z) {Q:V→St→Prop} {K E:Value→Shared→Prop},Ok2 (d N.σ) Q→(∀ r:Res N Q,K r.x r.N.s)→wpAny (model g.prog g.w) Z.Ar (eval a Z.env) (fun x s=>wpAny (model g.prog g.w) Z.Ar (call (.builtin id) [x]) K E s) E N.s):ak g c k (.Call f [a] [] pos) d :=
 fun F N Q K E h q=>PyProof.Rows.Call_ (Hf F N (Q:=fun v s=>v=.bi id∧Ok2 (d s) Q) (ok2 ⟨rfl,h⟩) fun y=>bi_q (C:=fun y'=>wpAny _ _ (callWith pos y' [] _ _) _ E y.N.s) (y.rel.as y.q.1) (hs _▸PySem.callWith_builtin1 (H F y.N y.q.2 fun r=>q (r.up y.le)))) (he _)
theorem jH {i1:Int} {k1 k2:Nat} (G:GOk g) (hcode:c.code=some (.ref cd)) (htb:(cd,T)∈g.tb) (hct:cd≠T∧g.tb.count (cd,T)≤1)
 (hn:scope.names=names) (hok:uc names x=true) (hco:scope.isCoroutine=false) (hkind:scope.kind=.function) (hd:(x==("__debug__" : Str))=false) (hi1:i1=1)
 (Hf:ak g c k f (dk (.bi "sum"))) (Hi:ol g c k iter di)
 (hs:∀ env,starEach [.GeneratorExp (.Constant (.int i1) k1 p1) [⟨.Name x px,iter,[.Compare (.Name x py) [.IsNot] [.Constant .none k2 pn] pc],0⟩] scope pg] env=[(false,eval (.GeneratorExp (.Constant (.int i1) k1 p1) [⟨.Name x px,iter,[.Compare (.Name x py) [.IsNot] [.Constant .none k2 pn] pc],0⟩] scope pg) env)])
 (he:∀ env,eval (.Call f [.GeneratorExp (.Constant (.int i1) k1 p1) [⟨.Name x px,iter,[.Compare (.Name x py) [.IsNot] [.Constant .none k2 pn] pc],0⟩] scope pg] [] pos) env=(do callWith pos (← eval f env) [] (backTo pos (starEach [.GeneratorExp (.Constant (.int i1) k1 p1) [⟨.Name x px,iter,[.Compare (.Name x py) [.IsNot] [.Constant .none k2 pn] pc],0⟩] scope pg] env)) (backToKw pos (keywordEach [] env)))) :
 ak g c k (.Call f [.GeneratorExp (.Constant (.int i1) k1 p1) [⟨.Name x px,iter,[.Compare (.Name x py) [.IsNot] [.Constant .none k2 pn] pc],0⟩] scope pg] [] pos) (dsumg di):=by
 subst hi1
 refine jJ Hf hs he fun F N Q K E h q=>?_
 refine km (tst:=fun v=>isNone v != some true) (F':=fun d y=>∃ t,y=.int 1 t) (Tv:=fun v=>(isNone v).isSome=true) (Q:=fun l σ=>l.length≤1000∧Q (.int ((l.filter fun v=>isNone v != some true).length:Int)) σ) G hco hn (fD hok) hkind hcode htb hct F Hi
  ((ub h).imp fun l σ h=>have h:=ui h;⟨List.all_eq_true.mp h.1.1,h.1.2,h.2⟩) (fun E' t hv=>?_) (fun E' t hv ht=>wpAny_Constant_int ⟨⟨_,rfl⟩,dJ _⟩) fun l a M le hTv hQ R=>?_
 · obtain ⟨b,hb⟩:=Option.isSome_iff_exists.mp hv
   rw [List.forIn_cons,if_pos rfl]
   refine wpAny_bind (wpAny_bind (wpAny_isTrue_Compare1 (t.name hn (fD hok) hkind hd (wpAny_pure (isnot_none_gen (wpAny_truthy_bool (wpAny_pure ?_))))) rfl))
   show wpAny _ _ (forIn [] _ _) _ _ _
   rw [List.forIn_nil]
   refine wpAny_pure ⟨?_,dJ _⟩
   rw [t.rel.elim fun P r=>nV r hb,hb]
   cases b<;>rfl
 · obtain ⟨W,hn',hst,hfp,hmv⟩:=R
   refine call_sum_walkS ((W.in4_1).self 0 _ _ _ hst ⟨_,_,_,_,_,_,_,fun d=>1,rfl,W.in4_1,hst,hfp,fun i y hy=>hy.elim fun d h=>h.2,fun j hj=>?_,fun s' t' M'=>?_⟩)
   · rw [iS]
     have:=Nat.le_trans (Nat.le_of_eq hn') (Nat.le_trans (List.length_filter_le _ _) hQ.1)
     refine ⟨⟨show (-(2 ^ 63):Int)≤1 by decide,show (1:Int)<2 ^ 63 by decide⟩,?_,?_⟩<;>omega
   · obtain ⟨M2,rfl,e2,l2⟩:=hmv s' M'
     rw [iS,hn']
     exact q ⟨_,_,M2,le.trans l2,cq _ _,e2.symm▸hQ.2⟩
theorem oy {v:V} (h:cK v=true):∃ z,v=.str z:=by cases v<;>first | exact ⟨_,rfl⟩ | cases h
theorem ri (G:GOk g) (hcode:c.code=some (.ref cd)) (htb:(cd,T)∈g.tb) (hct:cd≠T∧g.tb.count (cd,T)≤1)
 (hn:scope.names=names) (hok:uc names x=true) (hco:scope.isCoroutine=false) (hkind:scope.kind=.function) (hd:(x==("__debug__" : Str))=false) (hki:names.lookup ("isinstance" : Str)=some .globalImplicit) (hks:names.lookup ("str" : Str)=some .globalImplicit) (hmi:g.mg "isinstance" = none) (hms:g.mg "str" = none)
 (Hf:ak g c k f (dk (.bi "any"))) (Hi:ol g c k iter di)
 (hs:∀ env,starEach [(.GeneratorExp (.UnaryOp .Not (.Call (.Name "isinstance" p1) [.Name x p2,.Name "str" p3] [] p4) p5) [⟨.Name x px,iter,[],0⟩] scope pg)] env=[(false,eval (.GeneratorExp (.UnaryOp .Not (.Call (.Name "isinstance" p1) [.Name x p2,.Name "str" p3] [] p4) p5) [⟨.Name x px,iter,[],0⟩] scope pg) env)])
 (he:∀ env,eval (.Call f [(.GeneratorExp (.UnaryOp .Not (.Call (.Name "isinstance" p1) [.Name x p2,.Name "str" p3] [] p4) p5) [⟨.Name x px,iter,[],0⟩] scope pg)] [] pos) env=(do callWith pos (← eval f env) [] (backTo pos (starEach [(.GeneratorExp (.UnaryOp .Not (.Call (.Name "isinstance" p1) [.Name x p2,.Name "str" p3] [] p4) p5) [⟨.Name x px,iter,[],0⟩] scope pg)] env)) (backToKw pos (keywordEach [] env)))) :
 ak g c k (.Call f [(.GeneratorExp (.UnaryOp .Not (.Call (.Name "isinstance" p1) [.Name x p2,.Name "str" p3] [] p4) p5) [⟨.Name x px,iter,[],0⟩] scope pg)] [] pos) (danyg di):=by
 refine jJ Hf hs he fun F N Q K E h q=>?_
 refine km (tst:=fun b=>true) (F':=fun b y=>y=.bool false) (Tv:=fun v=>cK v=true) (Q:=fun l σ=>Q (.bool false) σ) G hco hn (fD hok) hkind hcode htb hct F Hi
  ((ub h).imp fun l σ h=>have h:=ui h;⟨List.all_eq_true.mp h.1,h.2⟩) (fun E' t hv=>by rw [List.forIn_nil];exact wpAny_pure ⟨rfl,dJ _⟩) (fun E' t hv ht=>?_) fun l a M le hTv hQ R=>?_
 · refine Classical.byContradiction fun hn_=>?_
   obtain ⟨P,hr⟩:=t.rel
   obtain ⟨z,rfl⟩:=oy hv
   obtain ⟨t',rfl⟩:=hr
   refine hn_ ?_;clear hn_
   refine UnaryOp_ (PyProof.Rows.Call_ (t.bi_ hn hkind hki hmi ((G.boot "isinstance" (by decide +kernel)).trans Boot.«isinstance») rfl ?_) (arm_eval_Call_Name' _ _ _ _ _ _))
   rw [dT rfl rfl]
   refine Calls.callWith_builtin rfl (Calls.evalArgs_plain (Calls.spliced_cons (t.name hn (fD hok) hkind hd (Calls.spliced_cons (t.bi_ hn hkind hks hms ((G.boot "str" (by decide +kernel)).trans Boot.«str») rfl (Calls.spliced_nil (IsiPair.str_str (not_of (wpAny_truthy_bool ⟨rfl,dJ _⟩)))))))))
 · refine Classical.byContradiction fun hn_=>?_
   obtain ⟨W,hn',hst,hfp,hmv⟩:=R
   refine hn_ ?_;clear hn_
   refine call_any_walkS ((W.in4_1).self 0 _ _ _ hst ⟨_,_,_,_,_,_,_,fun b=>false,rfl,W.in4_1,hst,fun i y s Q E hy hQ=>hy.elim fun b h=>h.2▸wpAny_truthy_bool hQ,fun s' M'=>?_⟩)
   refine Classical.byContradiction fun hn_=>?_
   obtain ⟨M2,rfl,e2,l2⟩:=hmv s' M'
   refine hn_ ?_;clear hn_
   rw [show ∀ n,(List.range n).any (fun b=>false)=false from fun n=>List.any_eq_false.mpr fun b b e=>nomatch e]
   exact q ⟨_,_,M2,le.trans l2,ei _,e2.symm▸hQ⟩
theorem y6 (G:GOk g) (hcode:c.code=some (.ref cd)) (htb:(cd,T)∈g.tb) (hct:cd≠T∧g.tb.count (cd,T)≤1)
 (hn:scope.names=names) (hok:uc names x=true) (hco:scope.isCoroutine=false) (hkind:scope.kind=.function) (hd:(x==("__debug__" : Str))=false) (hl:(ap.endLine==cp.line)=true)
 (Hf:ak g c k f (dk (.bi "all"))) (Hi:ol g c k iter di)
 (hs:∀ env,starEach [(.GeneratorExp (.Call (.Attribute (.Name x p1) "isdigit" ap) [] [] cp) [⟨.Name x px,iter,[],0⟩] scope pg)] env=[(false,eval (.GeneratorExp (.Call (.Attribute (.Name x p1) "isdigit" ap) [] [] cp) [⟨.Name x px,iter,[],0⟩] scope pg) env)])
 (he:∀ env,eval (.Call f [(.GeneratorExp (.Call (.Attribute (.Name x p1) "isdigit" ap) [] [] cp) [⟨.Name x px,iter,[],0⟩] scope pg)] [] pos) env=(do callWith pos (← eval f env) [] (backTo pos (starEach [(.GeneratorExp (.Call (.Attribute (.Name x p1) "isdigit" ap) [] [] cp) [⟨.Name x px,iter,[],0⟩] scope pg)] env)) (backToKw pos (keywordEach [] env)))) :
 ak g c k (.Call f [(.GeneratorExp (.Call (.Attribute (.Name x p1) "isdigit" ap) [] [] cp) [⟨.Name x px,iter,[],0⟩] scope pg)] [] pos) (dallg di):=by
 refine jJ Hf hs he fun F0 N Q K E h q=>?_
 refine km (tst:=fun b=>true) (F':=fun v y=>y=.bool (po v)) (Tv:=fun v=>cK v=true) (Q:=fun l σ=>Q (.bool (l.all po)) σ) G hco hn (fD hok) hkind hcode htb hct F0 Hi
  ((ub h).imp fun l σ h=>have h:=ui h;⟨List.all_eq_true.mp h.1,h.2⟩) (fun E' t hv=>by rw [List.forIn_nil];exact wpAny_pure ⟨rfl,dJ _⟩) (fun E' t hv ht=>?_) fun l a M le hTv hQ R=>?_
 · obtain ⟨P,hr⟩:=t.rel
   obtain ⟨z,rfl⟩:=oy hv
   obtain ⟨t',rfl⟩:=hr
   refine Call_method0 rfl hl (t.name hn (fD hok) hkind hd ⟨"str","str.isdigit",F.plainAttrs_str,F.slot_str_isdigit,F.type_str_isdigit,typeIs_str _ _ _,(fun b e=>nomatch e),Calls.callWith_builtin rfl (PyProof.Rows.evalArgs_none (SC.isdigit ⟨rfl,dJ _⟩))⟩)
 · obtain ⟨W,hn',hst,hfp,hmv⟩:=R
   rw [List.filter_eq_self.mpr fun b b=>rfl] at hn' W
   refine call_all_walkS ((W.in4_1).self 0 _ _ _ hst ⟨_,_,_,_,_,_,_,fun j=>((l[j]?).map po).getD true,rfl,W.in4_1,hst,fun i y s Q E hy hQ=>hy.elim fun v h=>?_,fun s' M'=>?_⟩)
   · have hQ':Q (((l[i]?).map po).getD true) s:=hQ
     rw [h.1] at hQ'
     exact h.2▸wpAny_truthy_bool hQ'
   · obtain ⟨M2,rfl,e2,l2⟩:=hmv s' M'
     have key:∀ n,n=l.length→(List.range n).all (fun j=>((l[j]?).map po).getD true)=l.all po:=by
      rintro n rfl
      refine Bool.eq_iff_iff.mpr (List.all_eq_true.trans (Iff.trans ⟨fun h v hv=>?_,fun h j hj=>?_⟩ List.all_eq_true.symm))
      · obtain ⟨i,hi,rfl⟩:=List.mem_iff_getElem.mp hv
        have:=h i (List.mem_range.mpr hi)
        rw [List.getElem?_eq_getElem hi] at this;exact this
      · rw [List.getElem?_eq_getElem (List.mem_range.mp hj)];exact h _ (List.getElem_mem _)
     rw [key _ hn']
     exact q ⟨_,_,M2,le.trans l2,ei _,e2.symm▸hQ⟩
end
section
variable {prog:Program} {w:World} {A:Around} {R:Result→Shared→Prop} {E:Value→Shared→Prop} {s:Shared} {I:Addr} {fp wr:List Addr} {G:Array GenState→Array GenState→Prop} {n:Nat} {P:Nat→Value→Prop} {St:Nat→Shared→Prop}
theorem wz (W:WalksS prog w A.in1 I fp wr G n P St) (S:Addr) (hSf:S∉fp) (hn:n≤1) (hval:∀ i v,P i v→∃ k t,v=.str k t) (hst:St 0 s)
 (hS:s.heap.SetOf (strKind prog w) S (fun a=>false) 0)
 (hR:∀ s' K,Moved (S::wr) G s s'→s'.heap.SetOf (strKind prog w) S K n→R (.ok (.ret .none)) s') :
 codeAny (model prog w) A (.builtin "set.update.loop" ⟨[.ref S,.ref I],[]⟩) R s:=by
 have hSw:S∉wr:=fun h=>hSf (W.sub _ h)
 have hsub:∀ b∈wr,b∈S::wr:=fun b hb=>List.mem_cons_of_mem _ hb
 have last:∀ (s₀:Shared) (K:Str→Bool),St n s₀→s₀.heap.SetOf (strKind prog w) S K n→Moved (S::wr) G s s₀→codeAny (model prog w) A (.builtin "set.update.loop" ⟨[.ref S,.ref I],[]⟩) R s₀:=fun s₀ K st hK hm0=>by
  refine codeAny_builtin F.entry_set_update_loop ?_
  rw [Around.under_plainId F.plain_set_update_loop _]
  show wpAny _ A.in1 (pyNext (.ref I)>>=_) _ _ s₀
  refine wpAny_bind (W.done s₀ _ _ st fun s' hm=>?_)
  show wpAny _ A.in1 (ret Value.none) _ _ s'
  refine wpAny_pure (hR s' K (hm0.trans W.gtrans (hm.mono hsub)) ?_)
  obtain ⟨o,es,ep,t,ho,rest⟩:=hK
  exact ⟨o,es,ep,t,hm.heap S _ hSw ho,rest⟩
 refine (Nat.lt_or_ge 0 n).elim (fun h1=>?_) fun h1=>have e:=(Nat.le_zero.mp h1).symm
  last s _ (Eq.subst (motive:=(St · s)) e hst) (Eq.subst (motive:=s.heap.SetOf (strKind prog w) S (fun a=>false)) e hS) (Moved.refl W.grefl)
 have e1:1=n:=Nat.le_antisymm h1 hn
 refine codeAny_builtin F.entry_set_update_loop ?_
 rw [Around.under_plainId F.plain_set_update_loop _]
 show wpAny _ A.in1 (pyNext (.ref I)>>=_) _ _ s
 refine wpAny_bind (W.item 0 s _ _ h1 hst fun v s' hP hst' hm=>(hval 0 v hP).elim fun k h=>h.elim fun t h=>h▸?_)
 have hS':s'.heap.SetOf (strKind prog w) S (fun a=>false) 0:=hS.elim fun o h=>h.elim fun es h=>h.elim fun ep h=>h.elim fun tb h=>⟨o,es,ep,tb,hm.heap S _ hSw h.1,h.2⟩
 show wpAny _ A.in1 (holding [Value.str k t] (setAdd S (.str k t))>>=_) _ _ s'
 refine wpAny_bind (wpAny_holding ?_)
 unfold setAdd
 refine wpAny_holding (wpAny_bind ((strKind prog w).pyHash (k:=k) (strKind_is _ _ _ _) ?_))
 refine wpAny_setAddHashed_of (knd:=strKind prog w) (s:={ s' with toks:=s'.toks+1 }) (strKind_is _ _ _ _) rfl hS' (by decide) fun h' hsb hS2=>?_
 exact wpAny_pure ⟨plainId_quiet F.plain_set_update_loop _,last _ _ (Eq.subst (motive:=(St · _)) e1 (W.frame _ s' _ _ hst' (Nat.le_succ _) fun b hb o e=>(hsb.2 b fun h=>hSf (h▸hb)).trans e)) (PyProof.Rows.SetOf_congr hS2 (fun a=>rfl) e1) ((hm.mono hsub).then_heap (Nat.le_succ _) fun b o hb e=>(hsb.2 b fun h=>hb (h▸List.mem_cons_self)).trans e)⟩
theorem iJ {M:Model} {Ar:Around} {cc:Code} {Q E:Value→Shared→Prop} {R:Result→Shared→Prop} {s:Shared} (h:codeAny M Ar cc (wants Q E) s) (hr:∀ v s',Q v s'→R (.ok (.ret v)) s') (he:∀ e s',E e s'→R (.error e) s'):codeAny M Ar cc R s:=codeAny_mono h fun r s h=>match r,h with
 | .ok (.ret v),h=>hr v s h
 | .error e,h=>he e s h
noncomputable abbrev wC (led:Bool):Obj:={ cls:=.type "set",dict:=none,data:=.set #[] 0 (.fresh 0 0 led) }
set_option maxRecDepth 100000 in
set_option maxRecDepth 100000 in
theorem wA {v:Value} {Q:Value→Shared→Prop}
 (h:∀ led,codeAny (model prog w) A.in1 (.call (.builtin "set.__init__") ⟨[.ref s.heap.objs.size,v],[]⟩) (wants (fun r s₂=>r=.none∧Q (.ref s.heap.objs.size) s₂) E) { s with heap:=s.heap.push (wC led) }):wpAny (model prog w) A (call (.type "set") [v]) Q E s:=by
 obtain ⟨c,tl,hmro⟩:=F.called_set.mro
 have hmade:=F.called_set.made
 have hsub:=F.called_set.sub
 refine wpAny_call (codeAny_of_tree ?_)
 show wpAny _ _ (callAny (.type "set") _) _ _ _
 refine wpAny_pure ⟨Code.quiet_builtin _ (by decide +kernel),codeAny_builtin F.entry_type_call ?_⟩
 rw [Around.under_plain (weight_type_call_type "set" [v] []) rfl]
 have h1:=F.called_set.notType
 have h2:=F.called_set.canCreate
 have hct:=F.typeCall_set_1 v
 repeat (any_goals (first | assumption | wp_step))
 refine iJ (code_set_new_1 v (E:=E) (Q₁:=fun obj s₁=>obj=.ref s.heap.objs.size∧s₁.TypeIs (.ref s.heap.objs.size) "set" ∧ codeAny (model prog w) A.in1 (.call (.builtin "set.__init__") ⟨[.ref s.heap.objs.size,v],[]⟩) (wants (fun r s₂=>r=.none∧Q (.ref s.heap.objs.size) s₂) E) s₁) fun led=>⟨rfl,⟨_,Heap.get?_push_size _ rfl,rfl⟩,h led⟩) (fun obj s₁ hr=>?_) fun a a h=>h
 obtain ⟨rfl,hT,h⟩:=hr
 have hli:=F.called_set.init.lookup
 have hbi:=F.called_set.init.bind (.ref s.heap.objs.size)
 repeat (any_goals (first | assumption | wp_step))
 refine iJ h (fun v s' h=>?_) fun a a h=>h
 obtain ⟨rfl,h⟩:=h
 repeat (any_goals (first | assumption | wp_step))
theorem we {S l:Addr} {Q:Unit→Shared→Prop} (hT:s.TypeIs (.ref l) "list") (h:wpAny (model prog w) A (pyIter (.ref l)) (fun it s=>codeAny (model prog w) A (.builtin "set.update.loop" ⟨[.ref S,it],[]⟩) (retR (fun a=>Q ()) E) s) E s) :
 wpAny (model prog w) A (Builtin.Frozenset.updateFrom "set.__init__" S (.ref l)) Q E s:=by
 unfold Builtin.Frozenset.updateFrom
 have hsls:=F.sub_list_set
 have hslf:=F.sub_list_frozenset
 generalize hPI:pyIter=PI
 wp_walk
 subst hPI
 exact wpAny_mono h (fun it s h=>wpAny_bind (wpAny_runValue (codeAny_mono h fun r s h=>match r,h with
  | .ok (.ret _),h=>wpAny_pure h
  | .error _,h=>h))) fun a a e=>e
theorem wy {S:Addr} {v:Value} {led:Bool} {Q:Shared→Prop} (hS:s.heap.get? S=some (wC led)) (h:wpAny (model prog w) A.in1 (Builtin.Frozenset.updateFrom "set.__init__" S v) (fun a=>Q) E s) :
 codeAny (model prog w) A (.call (.builtin "set.__init__") ⟨[.ref S,v],[]⟩) (wants (fun r s₂=>r=.none∧Q s₂) E) s:=by
 refine codeAny_call_builtin F.called_set.init.plain F.entry_set_init (check_set_init_1 ⟨_,hS,rfl⟩ ?_)
 unfold Builtin.«set.__init__» noKeywords
 generalize hU:Builtin.Frozenset.updateFrom=U at h ⊢
 wp_walk
 exact wpAny_mono h (fun a s q=>wpAny_pure ⟨rfl,q⟩) fun a a e=>e
theorem u5 {s s':Shared} (g:s'.gens=s.gens) (d:s'.drawn=s.drawn) (o:s'.os=s.os):s' = { s with heap:=s'.heap,toks:=s'.toks }:=by
 cases s;cases s';cases g;cases d;cases o;rfl
theorem pM {l:Addr} {items:Array Value} {Q:Value→Shared→Prop}
 (hh:A.handled=none) (hl:s.heap.IsList l items) (hn:items.size≤1) (hval:∀ (i:Nat) v,items[i]? = some v→∃ k t,v=.str k t)
 (h:∀ (h':Heap) (tk:Nat) K,h'.SetOf (strKind prog w) s.heap.objs.size K items.size →
  (∀ b o,b<s.heap.objs.size→s.heap.get? b=some o→h'.get? b=some o)→Q (.ref s.heap.objs.size) { s with heap:=h',toks:=tk }) :
 wpAny (model prog w) A (call (.type "set") [.ref l]) Q E s:=by
 refine wA fun led=>wy (led:=led) (Heap.get?_push_size _ rfl) ?_
 have lS:l<s.heap.objs.size:=hl.elim fun a h=>Heap.lt_size h.1
 refine we (hl.elim fun o h=>⟨o,Heap.get?_push_of_some _ h.1,h.2.1⟩) (wpAny_pyIter_list (hl.push _) ?_)
 have sz:(s.heap.push (wC led)).objs.size=s.heap.objs.size+1:=Heap.size_push ..
 have hSf:s.heap.objs.size∉[(s.heap.push (wC led)).objs.size,l]:=fun h=>(List.mem_cons.mp h).elim (fun e=>Nat.succ_ne_self _ (e.trans sz).symm) fun h=>Nat.ne_of_gt lS (List.mem_singleton.mp h)
 have hneI:l≠(s.heap.push (wC led)).objs.size:=Nat.ne_of_lt (Nat.lt_of_lt_of_eq (Nat.lt_succ_of_lt lS) sz.symm)
 refine wz ((Walks.list (A:=A.in1.in1.in1) hh _ l hneI items).toS) s.heap.objs.size hSf hn hval ⟨⟨_,Heap.get?_push_size _ rfl,rfl,rfl⟩,(hl.push _).push _⟩ ?_ ?_
 · exact PyProof.Rows.SetOf_congr ((PyProof.Rows.setObjOf_fresh (knd:=strKind prog w) led).setOf (Heap.get?_push_of_some _ (Heap.get?_push_size _ rfl)) (by decide)) (fun a=>rfl) rfl
 · intro s' K hm hS'
   exact Eq.subst (motive:=Q (.ref s.heap.objs.size)) (u5 hm.gens hm.drawn hm.os).symm (h s'.heap s'.toks K hS' fun b o hb e=>hm.heap b o (fun h=>(List.mem_cons.mp h).elim (Nat.ne_of_lt hb) fun h=>Nat.ne_of_lt (Nat.lt_of_lt_of_eq (Nat.lt_succ_of_lt hb) sz.symm) (List.mem_singleton.mp h)) (Heap.get?_push_of_some _ (Heap.get?_push_of_some _ e)))
end
def zi (i:Nat) (C:Addr) (name:Str):DE:=fun σ=>((bU i σ).bind asF).bind fun w=>if w.1=C then (w.2.lookup name).bind fun v=>if kM v=true then some (v,σ) else none else none
def yH (d:DE):DE:=fun σ=>(d σ).bind fun q=>(asL q.1).bind fun l=>if l.length≤1∧l.all cK=true then some (.int l.length,q.2) else none
def disi (d:DE):DE:=fun σ=>(d σ).bind fun q=>if cK q.1=true then some (.bool true,q.2) else none
noncomputable def shrI (a b:Int):Option Int:=if 0≤a∧0≤b then some (if b≥(Builtin.Int.intBits a:Nat) then 0 else a.fdiv (2 ^ b.toNat)) else none
def dshr (da db:DE):DE:=fun σ=>(da σ).bind fun q=>(db q.2).bind fun r=>(asI q.1).bind fun a=>(asI r.1).bind fun b=>(shrI a b).map fun c=>(.int c,r.2)
noncomputable def dnone:DE:=fun a=>none
noncomputable def pB:DE:=fun σ=>some (.dct [],σ)
def dfv (d:DE):DE:=fun σ=>(d σ).bind fun q=>(asS q.1).bind fun x=>if x.length≤LIM then some (.str x,q.2) else none
def djs (ds:List DE):DE:=fun σ=>(bY ds σ).bind fun q=>(dm q.1).bind fun ss=>if ss.flatten.length≤LIM then some (.str ss.flatten,q.2) else none
inductive td (g:Gx) (c:SC) (k:Nat):List Expr→List DE→Prop
 | nil:td g c k [] []
 | cons {e:Expr} {es:List Expr} {d:DE} {ds:List DE}:ak g c k e d→td g c k es ds→td g c k (e::es) (d::ds)
section
variable {Z:aE} {N:Now Z} {g:Gx} {c:SC} {k i:Nat} {C:Addr} {K:Frag} {f f2 e e1 e2 l r:Expr} {es:List Expr} {d da db:DE} {ds:List DE} {x name:Str} {p1 pos pos2:Pos}
theorem n8 (KI:K.In g.h0) (T:hV K C name) (hk:c.kind x=some .local) (hs:c.slot x=some i) (hd:(x==("__debug__" : Str))=false)
 (he:∀ env,eval (.Attribute (.Name x p1) name pos) env=(do
  let o ← eval (.Name x p1) env
  standAt pos.atName
  let r ← holding [o] (getAttr o name true)
  letTemporaryGo (.Name x p1) o r
  pure r)):ak g c k (.Attribute (.Name x p1) name pos) (zi i C name) :=
 fun F N Q K' E h q=>(uv h).elim fun w h=>have h1:=uib h.2;(uv h1.2).elim fun v h2=>have h3:=ui h2.2
  N.miOf h.1 fun p a dx es n g1 g2 g3 g0 g4 g6 g7 g8 g9=>(Option.some.inj ((F.X.loc x i hk hs).symm.trans g1)▸g3:Holds N.s.heap (.ns _ x) (.ref a)).elim fun m hm =>
   Attribute_any_ (wpAny_Name (wpAny_loadName_local F.X.fn ((F.X.kind x).trans hk) hm.1 hm.2 ((g9.getL h2.1).elim fun z h5=>T.find.elim fun attr ha =>
    get_value (fun b o e=>N.base F.B (KI b o e)) (show InstAt N.s.heap a (instObj C dx) C (some (dictOf es n)) from ⟨g7.trans (congrArg (fun c=>some (instObj c dx)) h1.1),rfl,rfl,g8⟩) (plainGet_of T.get).1 (findObj_own T.dict ha.1 ha.2 h5.1) (kj h3.1 h5.2)
     (q ⟨v,z,N.toks (N.s.toks+1),Now.toks_le,h5.2,h3.2⟩))) hd) (he _)
theorem strs_at {P:Gh} {l:List V} {xs:List Value} (h:VRels P l xs) (ha:l.all cK=true) (i:Nat) (v:Value) (e:xs.toArray[i]? = some v):∃ k t,v=.str k t :=
 (h.getIdx ((List.getElem?_toArray ..).symm.trans e)).elim fun v' h=>by
  obtain ⟨z,rfl⟩:=oy (List.all_eq_true.mp ha v' (List.mem_of_getElem? h.1))
  exact h.2.elim fun t e=>⟨_,t,e⟩
theorem rf (Hf:ak g c k f (dk (.bi "len"))) (Hf2:ak g c k f2 (dk (.ty "set"))) (H:ak g c k e d)
 (hs:∀ env,starEach [.Call f2 [e] [] pos2] env=[(false,eval (.Call f2 [e] [] pos2) env)])
 (he:∀ env,eval (.Call f [.Call f2 [e] [] pos2] [] pos) env=(do callWith pos (← eval f env) [] (backTo pos (starEach [.Call f2 [e] [] pos2] env)) (backToKw pos (keywordEach [] env))))
 (hs2:∀ env,starEach [e] env=[(false,eval e env)])
 (he2:∀ env,eval (.Call f2 [e] [] pos2) env=(do callWith pos2 (← eval f2 env) [] (backTo pos2 (starEach [e] env)) (backToKw pos2 (keywordEach [] env)))) :
 ak g c k (.Call f [.Call f2 [e] [] pos2] [] pos) (yH d) :=
 jJ Hf hs he fun F N Q K E h q=>PyProof.Rows.Call_ (Hf2 F N (Q:=fun v s=>v=.ty "set" ∧ Ok2 (yH d s) Q) (ok2 ⟨rfl,h⟩) fun y=>j8 (C:=fun y'=>wpAny _ _ (callWith pos2 y' [] _ _) _ E y.N.s) (y.rel.as y.q.1) (hs2 _▸PySem.callWith_type1 (H F y.N (ub y.q.2) fun z=>(uv z.q).elim fun l h=>have h1:=ui h.2
  d7 (C:=fun x=>wpAny _ _ (call (.type "set") [x]) _ E z.N.s) h.1 z.rel fun a xs hl hxs=>pM F.R.handled (hl.isList z.N.I.pin) (Nat.le_trans (Nat.le_of_eq hxs.length) h1.1.1) (strs_at hxs h1.1.2) fun h' tk Kf hS hk=>by
   obtain ⟨o,es,ep,t,ho,hex,hd,_,_,hsc,hf,hn⟩:=hS
   exact call_len_set ho hex hd hf (by unfold scanBound at hsc;omega) (q ⟨_,_,(z.N.keeps (h':=h') tk fun b o e=>hk b o (Heap.lt_size e) e).toks _,y.le.trans (z.le.trans ⟨.refl _,fun i i e=>e⟩),vi_eq rfl (congrArg Int.ofNat (hn.trans hxs.length)),h1.2⟩)))) (he2 _)
theorem uu (Hf:ak g c k f (dk (.bi "isinstance"))) (H:ak g c k e d) (H2:ak g c k e2 (dk (.ty "str"))) (hs:∀ env,starEach [e,e2] env=[(false,eval e env),(false,eval e2 env)])
 (he:∀ env,eval (.Call f [e,e2] [] pos) env=(do callWith pos (← eval f env) [] (backTo pos (starEach [e,e2] env)) (backToKw pos (keywordEach [] env)))):ak g c k (.Call f [e,e2] [] pos) (disi d) :=
 fun F N Q K E h q=>PyProof.Rows.Call_ (Hf F N (Q:=fun v s=>v=.bi "isinstance" ∧ Ok2 (disi d s) Q) (ok2 ⟨rfl,h⟩) fun y=>bi_q (C:=fun y'=>wpAny _ _ (callWith pos y' [] _ _) _ E y.N.s) (y.rel.as y.q.1) (hs _▸Calls.callWith_builtin rfl (Calls.evalArgs_plain (Calls.spliced_cons (H F y.N (ub y.q.2) fun z=>Calls.spliced_cons
  (H2 F z.N (Q:=fun v s=>v=.ty "str" ∧ Q (.bool true) s) (ok2 ⟨rfl,(ui z.q).2⟩) fun w=>Calls.spliced_nil ((oy (ui z.q).1).elim fun s hs=>j8 (C:=fun t=>wpAny _ _ (call (.builtin "isinstance") [z.x,t]) _ E w.N.s) (w.rel.as w.q.1) (lK (C:=fun x=>wpAny _ _ (call (.builtin "isinstance") [x,_]) _ E w.N.s) ((show ao w.N.P z.v z.x from z.rel.up w.le.P).as hs) fun t =>
   IsiPair.str_str (q ⟨.bool true,_,w.N,y.le.trans (z.le.trans w.le),rfl,w.q.2⟩))))))))) (he _)
theorem den_shr (ha:ak g c k l da) (hb:ak g c k r db):ak g c k (.BinOp l .RShift r pos) (dshr da db) :=
 fun F N Q K E h q=>wpAny_BinOp (ha F N (ub h) fun x=>hb F x.N (ub x.q) fun y=>(uv y.q).elim fun a h=>(uv h.2).elim fun b h'=>(um h'.2).elim fun u h3 =>
  dD (C:=fun x=>wpAny _ _ (binaryOp .RShift x y.x) K E y.N.s) h.1 (x.rel.up y.le.P) fun t=>dD (C:=fun y'=>wpAny _ _ (binaryOp .RShift _ y') K E y.N.s) h'.1 y.rel fun t'=>dK h3.1 fun hc e=>by
   have fin:K (.int u y.N.s.toks) y.N.tick.s:=q ⟨_,_,y.N.tick,x.le.trans (y.le.trans Now.tick_le),cq _ _,h3.2⟩
   subst e
   by_cases hq:b≥(Builtin.Int.intBits a:Nat)
   · refine PySem.AutoIntOps.rshift_1 (Int.not_lt.mpr hc.2) hq ?_
     rw [if_neg (Int.not_lt.mpr hc.1)]
     rw [if_pos hq] at fin;exact fin
   · rw [if_neg hq] at fin
     exact PySem.AutoIntOps.rshift_2 (Int.not_lt.mpr hc.2) hq fin)
theorem b7:ak g c k (.Dict [] [] pos) pB:=fun F N Q K E h q =>
 show wpAny _ _ (standAt pos>>=fun a=>dictDisplay []) _ _ _ from wpAny_bind (wpAny_standAt (show wpAny _ _ newDict _ _ _ from
  wpAny_newObj_type (q ⟨.dct [],_,N.new emptyDict rfl _,N.new_le,⟨_,[],rfl,⟨0,Gh.put_self _ _ _⟩,rfl,N.notSys F.B (bo _)⟩,u2 h⟩) (Nat.zero_le _)))
theorem yX (H:ak g c k e d):ak g c k (.FormattedValue e (-1) none pos) (dfv d) :=
 fun F N Q K E h q=>wpAny_FormattedValue_plain (H F N (ub h) fun y=>(uv y.q).elim fun x h=>have h1:=ui h.2
  cB (C:=fun x=>wpAny _ _ (formatField x _) _ E y.N.s) h.1 y.rel fun t=>wpAny_formatField_str (q ⟨_,_,y.N,y.le,cV _ _,h1.2⟩) (q ⟨_,_,y.N.tick,y.le.trans Now.tick_le,cV _ _,h1.2⟩) (b0 h1.1))
theorem xM (F:Fr g c k Z) (J:td g c k es ds):∀ (N:Now Z) {acc:List Nat} {Q:List (List Nat)→St→Prop} {K:Str→Shared→Prop} {E:Value→Shared→Prop},Ok2 (bY ds N.σ) (fun us σ=>OkV (dm us) fun ss=>acc.length+ss.flatten.length≤LIM∧Q ss σ) →
 (∀ ss (M:Now Z),N.Le M→acc.length+List.length (List.flatten ss)≤LIM→Q ss M.σ→K (S (acc++ss.flatten)) M.s)→Joins (model g.prog g.w) Z.Ar E (evalEach es Z.env) (S acc) K N.s:=by
 induction J with
 | nil =>
  intro N acc Q K E h q
  obtain ⟨ss,h1,h2⟩:=u2 h
  cases h1
  have:=q [] N (.refl _) h2.1 h2.2
  rwa [List.flatten_nil,List.append_nil] at this
 | @cons e es d ds H1 H2 ih =>
  intro N acc Q K E h q
  show wpAny _ _ (eval e _) _ _ _
  refine H1 F N (ub h) fun y=>?_
  obtain ⟨us,σ2,e1,ss,e2,hl,hQ⟩:=um2 y.q
  refine aF (show (asS y.v).bind (fun x=>(dm us).map (x::·))=some ss from e2) fun x e3 e4=>dH e4 fun ss' e5 e6=>?_
  subst e6
  rw [List.flatten_cons,List.length_append,← Nat.add_assoc,← List.length_append] at hl
  obtain ⟨t,ht⟩:∃ t,y.x=.str (S x) t:=cB (C:=fun z=>∃ t,z=.str (S x) t) e3 y.rel fun t=>⟨t,rfl⟩
  refine ⟨S x,t,ht,?_⟩
  rw [rD]
  refine ⟨b0 (Nat.le_trans (Nat.le_add_right ..) hl),ih y.N (Q:=fun ss σ=>Q (x::ss) σ) ⟨us,σ2,e1,ss',e5,hl,hQ⟩ fun ss'' M l h3 h4=>?_⟩
  have:=q (x::ss'') M (y.le.trans l) (by rw [List.flatten_cons,List.length_append,← Nat.add_assoc,← List.length_append];exact h3) h4
  rwa [List.flatten_cons,← List.append_assoc] at this
theorem yT (H:td g c k (e1::e2::es) ds):ak g c k (.JoinedStr (e1::e2::es) pos) (djs ds) :=
 fun F N Q K E h q=>wpAny_JoinedStr (xM F H N (acc:=[]) (Q:=fun ss σ=>Q (.str ss.flatten) σ) ((ub h).imp fun us σ h=>(uv h).imp fun ss h=>have h1:=ui h;⟨(Nat.zero_add _).symm▸h1.1,h1.2⟩) fun ss M l h1 h2 =>
  ⟨b0 (Nat.le_trans (Nat.le_of_eq (Nat.zero_add _).symm) h1),q ⟨_,_,M.tick,l.trans Now.tick_le,cV _ _,h2⟩⟩)
end
noncomputable abbrev KV:=List (List Nat×V)
set_option backward.match.sparseCases false in
noncomputable def asD:V→Option KV | .dct l=>some l | _=>none
theorem asD_e {v:V} {l:KV} (h:asD v=some l):v=.dct l:=by cases v<;>first | exact aL h | exact congrArg _ (Option.some.inj h)
set_option backward.match.sparseCases false in
noncomputable def vM:V→Option KV | .md l=>some l | _=>none
theorem zX {v:V} {l:KV} (h:vM v=some l):v=.md l:=by cases v<;>first | exact aL h | exact congrArg _ (Option.some.inj h)
noncomputable def bF (l:KV):Bool:=decide (l.map (·.1)).Nodup
def dkeys (d:DE):DI:=fun σ=>(d σ).bind fun q=>(asD q.1).bind fun l=>if bF l=true then some (l.map fun x=>.str x.1,q.2) else none
def dvals (d:DE):DI:=fun σ=>(d σ).bind fun q=>(asD q.1).bind fun l=>if bF l=true then some (l.map (·.2),q.2) else none
noncomputable def et (l:KV) (x:List Nat):V:=((l.find? fun p=>p.1=x).map (·.2)).getD .none
def ddget (d dk:DE):DE:=fun σ=>(d σ).bind fun q=>(asD q.1).bind fun l=>(dk q.2).bind fun r=>(asS r.1).bind fun x=>if bF l=true then some (et l x,r.2) else none
def dsetd2 (i:Nat) (v:V) (r:V×St):Option (Fl×St):=(asS r.1).bind fun x=>((bU i r.2).bind vM).bind fun l=>if bF l=true∧x∉l.map (·.1)∧l.length≤1000 then some (.nxt,r.2.set i (.md (l++[(x,v)]))) else none
def dsetd1 (i:Nat) (dk:DE) (q:V×St):Option (Fl×St):=((bU i q.2).bind vM).bind fun a=>(dk q.2).bind (dsetd2 i q.1)
def dsetd (i:Nat) (d dk:DE):DS:=fun σ=>(d σ).bind (dsetd1 i dk)
def truO (Cs:List Addr) (v:V):Option Bool:=((asN v).map fun a=>false).or ((asO v).bind fun w=>if w.1∈Cs then some true else none)
def dtruO (Cs:List Addr) (d:DE):DT:=fun σ=>(d σ).bind fun q=>(truO Cs q.1).map fun b=>(b,q.2)
section
variable {Z:aE} {N:Now Z} {P:Gh} {g:Gx} {c:SC} {k i:Nat} {K:Frag} {e ke ie:Expr} {d dk di:DE} {x:Str} {ap p1 p2 pos:Pos} {E:Value→Shared→Prop}
theorem oZ {l:KV} {ys:List Value} (hn:bF l=true) (h:ys.length=l.length):(((l.map fun x=>S x.1).zip ys).map (·.1)).Nodup:=by
 rw [List.map_fst_zip (Nat.le_of_eq ((List.length_map _).trans h.symm))]
 exact (List.map_map (l:=l) (g:=S) (f:=(·.1)))▸List.Pairwise.map S (fun a b hab e=>hab (uO e)) (of_decide_eq_true hn)
structure rG (g:Gx) (N:Now Z) (l:KV) (a:Addr) (ys:List Value) (ep:Nat):Prop where
 rel:VRels N.P (l.map (·.2)) ys
 at_:N.s.heap.DictAt (sk g.prog g.w) a ((l.map fun x=>S x.1).zip ys) ep
 sys:(a==sysModules)=false
 m:∃ o,N.P.m a=some o
 len:ys.length=l.length
 v:ao N.P (.dct l) (.ref a)
theorem Now.dctAt (N:Now Z) {l:KV} {v:V} {y:Value} {C:Value→Prop} (B:ec g Z.A) (hn:bF l=true) (hv:asD v=some l) (hx:ao N.P v y) (q:∀ a ys ep,rG g N l a ys ep→C (.ref a)):C y :=
 zc (C:=fun y=>ao N.P (.dct l) y→C y) (hx.as (asD_e hv)) (fun a es h1 h2 h3 hv=>h1.elim fun n h1=>(VRelD.ents h2).elim fun ys h4=>have hl:ys.length=l.length:=h4.1.length.trans (List.length_map _)
  (jF (prog:=g.prog) (w:=g.w) (N.I.pin _ _ h1) (N.params B▸h4.2) (oZ hn hl)).dictAt.elim fun ep hd=>q a ys ep ⟨h4.1,hd,beq_eq_false_iff_ne.mpr h3,⟨_,h1⟩,hl,hv⟩) (hx.as (asD_e hv))
theorem rG.zl {l:KV} {a:Addr} {ys:List Value} {ep:Nat} (D:rG g N l a ys ep):((l.map fun x=>S x.1).zip ys).length=l.length:=by rw [List.length_zip,List.length_map,D.len];exact Nat.min_self _
theorem rG.slots {l:KV} {a:Addr} {ys:List Value} {ep:Nat} (D:rG g N l a ys ep):∀ b,Value.ref a=.ref b→∃ o,N.s.heap.get? b=some o∧o.dict=none:=fun b e=>by
 cases e
 obtain ⟨o,_,ho,hex,_⟩:=D.at_
 exact ⟨o,ho,hex.2.1⟩
theorem pV.of {I:Addr} {vs:List V} {ax:List Addr} {n:Nat} {Pt:Nat→Value→Prop} {S':Nat→Heap→Prop} (W:∀ A':Around,A'.handled=none→Walks g.prog g.w A' I (I::ax) [I] n Pt S') (hn:n=vs.length)
 (fp:∀ b∈ax,∃ o,P.m b=some o) (item:∀ i x,Pt i x→∃ v,vs[i]? = some v∧ao P v x) (cls:∀ i h,S' i h→nv h I):pV g P I vs ax Pt S':=⟨hn▸W,fp,item,cls⟩
theorem rg (H:ak g c k e d):kG g c k e (dkeys d) :=
 fun F N Q K E h q=>H F N (ub h) fun y=>(uv y.q).elim fun l h=>y.N.dctAt (C:=fun x=>wpAny _ _ (pyIter x) K E y.N.s) F.B (ui h.2).1 h.1 y.rel fun a ys ep D=>wpAny_pyIter_dict D.sys D.at_ (iW (N:=y.N) rfl (fun f f e=>nomatch e) (ui h.2).2
  (.of (fun A' hA=>Walks.dictKeys (prog:=g.prog) (w:=g.w) (knd:=sk g.prog g.w) hA y.N.s.heap.objs.size a (D.m.elim fun f e=>mF (y.N.I.pin _ _ e)) ((l.map fun x=>S x.1).zip ys) ep) (D.zl.trans (List.length_map _).symm) (fun b hb=>List.mem_singleton.mp hb▸D.m)
   (fun i x hx=>hx.elim fun kk h1=>h1.elim fun y h1=>by
    obtain ⟨t,rfl⟩:=Value.isStrOf_shape h1.2
    obtain ⟨p,h4,h5⟩:=Option.map_eq_some_iff.mp ((List.getElem?_map ..).symm.trans (List.getElem?_zip_eq_some.mp h1.1).1)
    exact ⟨.str p.1,by rw [List.getElem?_map,h4];rfl,(show S p.1=kk from h5)▸cV _ _⟩) fun i h hst=>hst.1.elim fun o e=>eD e.1 e.2.1 (by decide +kernel))
  ⟨⟨_,Heap.get?_push_size _ rfl,rfl,rfl⟩,D.at_.push _⟩ fun z=>q ⟨z.v,z.a,z.N,y.le.trans z.le,z.itf,z.q⟩)
theorem yM (H:ak g c k e d) (hb:∀ env,attributeBase e "values" env (eval e env)=eval e env) (hl:(ap.endLine==pos.line)=true):kG g c k (.Call (.Attribute e "values" ap) [] [] pos) (dvals d) :=
 fun {Z} F' N Q K E h q=>Call_method0 (hb _) hl (H F' N (ub h) fun y=>(uv y.q).elim fun l h =>
  y.N.dctAt (C:=fun x=>MethodOnS g.prog g.w Z.Ar E (Str.ofString "values") x pos [] (fun x s1=>wpAny (model g.prog g.w) Z.Ar (pyIter x) K E s1) y.N.s) F'.B (ui h.2).1 h.1 y.rel fun a ys ep D=>⟨"dict","dict.values",F.plainAttrs_dict,F.slot_dict_values,F.type_dict_values,D.at_.dictOf.typeIs,D.slots,Calls.callWith_builtin rfl (PyProof.Rows.evalArgs_none
   (call_meetsIn F.slot_dict_values D.at_.dictOf.typeIs F.entry_dict_values (F.args_dict_values_1 _) (meets_dict_values (sk g.prog g.w) a D.sys) ⟨⟨_,D.at_.dictOf⟩,
    wpAny_pyIter_values (knd:=sk g.prog g.w) ⟨_,Heap.get?_push_size _ rfl,rfl,rfl⟩ (D.at_.push _) (iW (N:=y.N.keeps (h':=y.N.s.heap.push { cls:=.type "dict_values",data:=.fields #[.ref a] }) y.N.s.toks fun f f e=>Heap.get?_push_of_some _ e) rfl (fun f f e=>nomatch e) (ui h.2).2
     (.of (fun A' hA=>Walks.dictValues (prog:=g.prog) (w:=g.w) (knd:=sk g.prog g.w) hA (y.N.s.heap.push { cls:=.type "dict_values",data:=.fields #[.ref a] }).objs.size a (D.m.elim fun f e=>Nat.ne_of_lt (Heap.lt_size (Heap.get?_push_of_some _ (y.N.I.pin _ _ e)))) ((l.map fun x=>S x.1).zip ys) ep) (D.zl.trans (List.length_map _).symm)
      (fun b hb=>List.mem_singleton.mp hb▸D.m) (fun i x hx=>hx.elim fun kk h1=>D.rel.getIdx (List.getElem?_zip_eq_some.mp h1).2) fun i h hst=>hst.1.elim fun o e=>eD e.1 e.2.1 (by decide +kernel))
     ⟨⟨_,Heap.get?_push_size _ rfl,rfl,rfl⟩,(D.at_.push _).push _⟩ fun z=>q ⟨z.v,z.a,z.N,y.le.trans (Now.keeps_le.trans z.le),z.itf,z.q⟩)⟩))⟩)
theorem qW {x:List Nat}:∀ {l:KV} {ys:List Value},VRels P (l.map (·.2)) ys→ao P (et l x) ((valueAt ((l.map fun x=>S x.1).zip ys) (S x)).getD .none)
 | [],ys,h=>oq
 | (k,v)::r,ys,h=>e9 (v:=v) (l:=r.map (·.2)) (C:=fun ys=>ao P (et ((k,v)::r) x) ((valueAt ((((k,v)::r).map fun x:List Nat×V=>S x.1).zip ys) (S x)).getD .none)) h fun y ys' h1 h2=>by
  have ih:=qW (x:=x) h2
  unfold et valueAt at ih ⊢
  rw [List.map_cons,List.zip_cons_cons,List.find?_cons,List.find?_cons]
  by_cases hk:k=x
  · subst hk
    rw [decide_eq_true rfl,decide_eq_true rfl];exact h1
  · rw [decide_eq_false hk,decide_eq_false fun e=>hk (uO e)]
    exact ih
theorem yZ (H:ak g c k e d) (Hk:ak g c k ke dk) (hb:∀ env,attributeBase e "get" env (eval e env)=eval e env) (hs:∀ env,starEach [ke] env=[(false,eval ke env)]) (hl:(ap.endLine==pos.line)=true) :
 ak g c k (.Call (.Attribute e "get" ap) [ke] [] pos) (ddget d dk):=by
 intro Z F' N Q K E h q
 refine Call_method1 (hb _) (hs _) hl (H F' N (ub h) fun y=>(uv y.q).elim fun l h=>?_)
 have hn:bF l=true:=(ub h.2).elim fun a h=>h.elim fun b h=>(uv h.2).elim fun x h=>(ui h.2).1
 refine y.N.dctAt (C:=fun x=>MethodOnS g.prog g.w Z.Ar E (Str.ofString "get") x pos [(false,eval ke Z.env)] K y.N.s) F'.B hn h.1 y.rel fun a ys ep D=>⟨"dict","dict.get",F.plainAttrs_dict,F.slot_dict_get,F.type_dict_get,D.at_.dictOf.typeIs,D.slots,wpAny_dict_get1 (knd:=sk g.prog g.w) D.sys (Hk F' y.N (ub h.2) fun z=>(uv z.q).elim fun x h'=>?_)⟩
 refine Classical.byContradiction fun hn_=>?_
 obtain ⟨t,ht⟩:∃ t,z.x=.str (S x) t:=cB (C:=fun z=>∃ t,z=.str (S x) t) h'.1 z.rel fun t=>⟨t,rfl⟩
 refine hn_ ?_;clear hn_
 refine z.N.dctAt (C:=fun u=>u=.ref a→∃ kk d,(sk g.prog g.w).is kk z.x=true∧z.N.s.heap.MapOf (sk g.prog g.w) a d∧K ((d kk).getD .none) { z.N.s with toks:=z.N.s.toks+1 }) F'.B hn rfl (D.v.up z.le.P) (fun a' ys' ep' D' e=>?_) rfl
 refine Classical.byContradiction fun hn_=>?_
 cases e
 refine hn_ ?_;clear hn_
 exact ⟨S x,_,ht▸bQ _ t,D'.at_.dictOf.mapOf,q ⟨_,_,z.N.tick,y.le.trans (z.le.trans Now.tick_le),qW D'.rel,(ui h'.2).2⟩⟩
theorem cb.mdQ {A:Act} {P:Gh} {h:Heap} {o:Option Addr} {v:V} {x:Value} {l:KV} {C:Option Addr→Value→Prop} (H:cb A P h o v x) (e:v=.md l) (q:∀ a es n,h.get? a=some (dictOf es n)→VRelD P l es→a≠sysModules→C (some a) (.ref a)):C o x:=by
 subst e
 cases H with
 | val r=>exact r.elim
 | md b c d=>exact q _ _ _ b c d
theorem Now.mdOf (N:Now Z) {l:KV} {C:Prop} (h:(bU i N.σ).bind vM=some l) (q:∀ p a es n,Z.pl[i]? = some p→N.own[i]? = some (some a)→Holds N.s.heap p (.ref a)→N.s.heap.get? a=some (dictOf es n)→VRelD N.P l es→a≠sysModules→C):C :=
 aF h fun v e1 e2=>N.I.slotOf (eL e1) fun p o y h1 h2 h3 h4=>h4.mdQ (C:=fun o y=>N.own[i]? = some o→Holds N.s.heap p y→C) (zX e2) (fun a es n h4 h5 h6 h2 h3=>q p a es n h1 h2 h3 h4 h5 h6) h2 h3
theorem lL {l:KV} {w:List Nat} {v:V} {y:Value} {ys:List Value} (h:w∉l.map (·.1)) (hyl:ys.length=l.length):stored ((l.map fun x=>S x.1).zip ys) (S w) y=((l++[(w,v)]).map fun x=>S x.1).zip (ys++[y]) :=
 (if_neg fun hany=>(List.any_eq_true.mp hany).elim fun p h1=>(List.mem_map.mp (List.of_mem_zip h1.1).1).elim fun q h2=>h (List.mem_map.mpr ⟨q,h2.1,uO (h2.2.trans (of_decide_eq_true h1.2))⟩)).trans
  ((List.zip_append (l₁:=l.map fun x=>S x.1) (r₁:=[S w]) (r₂:=[y]) ((List.length_map _).trans hyl.symm)).symm.trans (congrArg (List.zip · (ys++[y])) (List.map_append (f:=fun (x:List Nat×V)=>S x.1) (l₁:=l) (l₂:=[(w,v)])).symm))
theorem yQ (H:ak g c k e d) (Hi:ak g c k ie di) (hk:c.kind x=some .local) (hs:c.slot x=some i) (hd:(x==("__debug__" : Str))=false)
 (hw:∀ env,swapsWith e (some (.Subscript (.Name x p1) ie p2)) pos.line env=pure false):cO g c k (.Assign [.Subscript (.Name x p1) ie p2] e pos) (dsetd i d di) :=
 fun F N Q K' E h q=>wpAny_Assign_Subscript (H F N (ub h) fun y=>(uv y.q).elim fun l0 h=>y.N.mdOf h.1 fun p a es0 n0 h1 h2 h3 h4 h5 f=>(Option.some.inj ((F.X.loc x i hk hs).symm.trans h1)▸h3:Holds y.N.s.heap (.ns _ x) (.ref a)).elim fun m hm =>
  wpAny_Name (wpAny_loadName_local F.X.fn ((F.X.kind x).trans hk) hm.1 hm.2 (Hi F y.N (ub h.2) fun z=>(uv z.q).elim fun w h=>(uv h.2).elim fun l hh=>cB (C:=fun u=>wpAny _ _ (setItem (.ref a) u y.x) _ E z.N.s) h.1 z.rel fun t=>z.N.mdOf hh.1 fun p' a' es n g1 g2 g3 g4 g5 g6=>by
   cases (h2.symm.trans (z.le.sh i a' g2))
   have h6:=ui hh.2
   obtain ⟨ys,hys,hen⟩:=VRelD.ents g5
   have hyl:ys.length=l.length:=hys.length.trans (List.length_map _)
   rw [z.N.params F.B] at hen
   refine wpAny_setItem_pairs (bQ _ t) (jF (prog:=g.prog) g4 hen (oZ h6.1.1 hyl)) (fun h' hd' hb=>?_) (by rw [List.length_zip,List.length_map,hyl,Nat.min_self,sizeLine_eq];have:=h6.1.2.2;omega)
   rw [lL (v:=y.v) h6.1.2.1 hyl] at hd'
   refine jG hd' fun es' n' q1 q2=>q ⟨.nxt,.next,⟨_,_,_,_,z.N.I.turn (t:=z.N.s.toks+1) (h':=h') g2 (v:=.md (l++[(w,y.v)])) (fun b o nb q=>(hb.2 b nb).trans q) fun v0 x0 hv0 hx0=>?_⟩,y.le.P.trans z.le.P,rfl,h6.2⟩
   have hr:VRelD z.N.P (l++[(w,y.v)]) es':=iA.vrel ((List.map_append ..)▸hys.append (bk (y.rel.up z.le.P) bz)) (z.N.params F.B▸q2)
   exact hx0.mdQ (C:=fun o x0=>o=some a→cb _ _ _ (some a) _ x0) (aF hh.1 fun f e1 e2=>(Option.some.inj (Option.some.inj (hv0.symm.trans (eL e1)))).trans (zX e2)) (fun a' f f f f f e=>by cases Option.some.inj e;exact .md q1 hr g6) rfl)) hd) (hw _)
theorem rh {a:Addr} {v:V} (G:GOk g) (hk:c.kind x=some .globalImplicit) (hv:g.mg x=some (.ref a)) (hr:∀ P:Gh,(∀ b o,g.h0.get? b=some o→P.m b=some o)→ao P v (.ref a)) (hd:(x==("__debug__" : Str))=false):ak g c k (.Name x pos) (Mine.dk v) :=
 fun F N Q K E h q=>Calls.Name_function_global F.X.fn ((F.X.kind x).trans hk) (Calls.loadGlobal_global (F.X.gl.symm▸G.ns.keeps fun d d=>N.base F.B) hv (q ⟨v,_,N,.refl _,hr N.P fun b o e=>N.I.le.m _ _ (F.B.sub _ _ e),u2 h⟩)) hd
theorem yP {Cs:List Addr} (KI:K.In g.h0) (hC:∀ C∈Cs,findIn K (.ref C) "__bool__" = some none∧findIn K (.ref C) "__len__" = some none) (H:ak g c k e d)
 (he:∀ env whole,isTrue e env whole=(do let v ← whole;standAt e.pos;holding [v] (truthy v))):bW g c k e (dtruO Cs d):=by
 intro Z F N Q K' E h q
 rw [he]
 refine wpAny_bind (H F N (ub h) fun y=>wpAny_bind (wpAny_standAt (wpAny_holding ((um y.q).elim fun b h=>orQ h.1 (fun e=>dH e fun f e1 e2=>?_) fun e=>aF e fun w e1 e2=>dK e2 fun hc e2=>?_))))
 · exact l9 (C:=fun x=>wpAny _ _ (truthy x) _ E y.N.s) (y.rel.as (zW e1)) (PyProof.Rows.truthy_none (q ⟨false,y.N,y.le,e2.symm▸h.2⟩))
 · refine jk (C:=fun x=>wpAny _ _ (truthy x) _ E y.N.s) (y.rel.as (nr e1)) fun a dx es h1 h2 h3=>h2.elim fun n h2=>?_
   obtain ⟨q1,q2⟩:=hC _ hc
   have Iat:InstAt y.N.s.heap a (instObj w.1 dx) w.1 (some (dictOf es n)):=⟨y.N.I.pin _ _ h1,rfl,rfl,y.N.I.pin _ _ h2⟩
   have XK:K.In y.N.s.heap:=fun b o e=>y.N.base F.B (KI b o e)
   unfold truthy
   refine wpAny_bind (m:=callSpecial? (.ref a) (Str.ofString "__bool__")) (wpAny_bind (wpAny_bind (Iat.type.here ((looks_findIn XK q1).here (wpAny_pure ?_)))))
   refine wpAny_bind (wpAny_bind (Iat.type.here ((looks_findIn XK q2).here ?_)))
   exact wpAny_pure (q ⟨true,y.N,y.le,e2.symm▸h.2⟩)
theorem ou {ts:List Expr} {kk kv k1 k2:Nat} {p pv p1 p2:Pos} {env:Env}:swappedStores [.Tuple ts kk p] (.Tuple [.Constant .none k1 p1,.Constant .none k2 p2] kv pv) env=pure none:=by
 unfold swappedStores
 dsimp only
 split
 · rfl
 · split
   · rfl
   · split
     · rfl
     · rw [if_pos]
       rfl
end
noncomputable def rH (l1 l2:List V):List V:=(l1.zip l2).map fun p=>.tup [p.1,p.2]
def dforz2 (asg:DG) (b:DS) (q:V×St) (r:V×St):Option (Fl×St):=(asL q.1).bind fun l1=>(asL r.1).bind fun l2=>cM asg b (rH l1 l2) r.2
def dforz1 (d2:DE) (asg:DG) (b:DS) (q:V×St):Option (Fl×St):=(d2 q.2).bind (dforz2 asg b q)
def yL (d1 d2:DE) (asg:DG) (b:DS):DS:=fun σ=>(d1 σ).bind (dforz1 d2 asg b)
section
variable {Z:aE} {N:Now Z} {g:Gx} {c:SC} {k:Nat}
noncomputable abbrev ZSt (z TI TO i1 i2 l1 l2:Addr) (xs ys:Array Value) (i:Nat) (h:Heap):Prop :=
 IsZip h z TI TO .none∧IsPair h TI (.ref i1) (.ref i2)∧(∃ a b,IsPair h TO a b)∧h.IsListIter i1 l1 i∧h.IsListIter i2 l2 i∧h.IsList l1 xs∧h.IsList l2 ys
theorem tJ {o:Obj} {n:String} (hc:o.cls=.type n):∀ c d,o≠instObj c d:=fun c d e=>nomatch hc.symm.trans (congrArg Obj.cls e)
structure ZOb (h:Heap) (as:List Addr) (gs:List (Addr×Obj)):Prop where
 as:gs.map (·.1)=as
 at_:∀ p∈gs,h.get? p.1=some p.2∧∀ c d,p.2≠instObj c d
theorem zob_nil {h:Heap}:ZOb h [] []:=⟨rfl,fun a h=>nomatch h⟩
theorem ZOb.cons {h:Heap} {a:Addr} {o:Obj} {n:String} {as:List Addr} {gs:List (Addr×Obj)} (e:h.get? a=some o) (hc:o.cls=.type n) (r:ZOb h as gs):ZOb h (a::as) ((a,o)::gs) :=
 ⟨congrArg (a::·) r.as,fun p hp=>(List.mem_cons.mp hp).elim (fun q=>q▸⟨e,tJ hc⟩) (r.at_ p)⟩
theorem ZSt.objs {z TI TO i1 i2 l1 l2:Addr} {xs ys:Array Value} {i:Nat} {h:Heap} (Z:ZSt z TI TO i1 i2 l1 l2 xs ys i h):∃ gs,ZOb h [z,TI,TO,i1,i2] gs :=
 Z.2.2.1.elim fun a h3=>h3.elim fun a h3=>Z.2.2.2.1.elim fun a h4=>Z.2.2.2.2.1.elim fun a h5=>⟨_,.cons (n := "zip") Z.1 rfl (.cons (n := "tuple") Z.2.1 rfl (.cons (n := "tuple") h3 rfl (.cons h4.1 h4.2.1 (.cons h5.1 h5.2.1 zob_nil))))⟩
theorem Out.side {a:Addr} {o:Obj} (O:Out N a) (e:N.s.heap.get? a=some o) (ni:∀ c d,o≠instObj c d):bb N a o:=⟨O.F,O.pl,O.own,e,ni⟩
structure ZipJ (N M:Now Z) (as:List Addr) (S':Nat→Heap→Prop) (vs:List V) (D:List V→St→Prop) (n i:Nat):Prop where
 le:N.P.le M.P
 hi:i≤vs.length
 n:n=vs.length - i
 out:∀ a∈as,Out M a
 st:S' i M.s.heap
 d:D (vs.drop i) M.σ
noncomputable abbrev ZipI (N:Now Z) (as:List Addr) (S':Nat→Heap→Prop) (vs:List V) (D:List V→St→Prop) (n:Nat) (s:Shared):Prop:=∃ (M:Now Z) (i:Nat),M.s=s∧ZipJ N M as S' vs D n i
theorem ZOb.mem {h:Heap} {as:List Addr} {gs:List (Addr×Obj)} (G:ZOb h as gs) {a:Addr} (ha:a∈as) {C:Prop} (q:∀ o,(a,o)∈gs→C):C:=(List.mem_map.mp (show a∈gs.map (·.1) from G.as▸ha)).elim fun p h=>q p.2 (h.2▸h.1)
theorem uV {I:Addr} {as ws fp:List Addr} {Pt:Nat→Array Value→Prop} {S':Nat→Heap→Prop} {Mid:Nat→Addr→Heap→Prop} {vs:List V} {ts:List Expr} {kk:Nat} {tp:Pos} {asg:DG} {body:List Stmt} {db:DS} {Q:Fl→St→Prop} {R₀:Result→Shared→Prop}
 (F:Fr g c k Z) (W:WalksT g.prog g.w Z.Ar I fp ws vs.length Pt S' Mid) (hw:∀ b∈ws,b∈as) (hfp:∀ b∈fp,b∈as∨∃ o,N.P.m b=some o) (hob:∀ i h,S' i h→∃ gs,ZOb h as gs)
 (hv:∀ i vals,Pt i vals→∃ us xs,vs[i]? = some (.tup us)∧vals=List.toArray xs∧VRels N.P us xs)
 (hS:∀ a∈as,Out N a) (h0:S' 0 N.s.heap) (Ht:gw g c k (.Tuple ts kk tp) asg) (Hb:bO g c k body db) (h:Ok2 (cM asg db vs N.σ) Q) (q:∀ r:fq N Q,R₀ (.ok r.x) r.N.s):codeAny (model g.prog g.w) Z.Ar (.forLoop (.Tuple ts kk tp) (.ref I) body [] Z.env) R₀ N.s:=by
 refine codeAny_forLoop_any (ZipI N as S' vs fun l σ=>Ok2 (cM asg db l σ) Q) (fun n s1 h=>h.elim fun M h=>h.elim fun i h=>h.1▸?_) vs.length ⟨N,0,rfl,.refl _,Nat.zero_le _,rfl,hS,h0,h⟩
 have J:=h.2
 refine (Nat.lt_or_ge i vs.length).elim (fun hlt=>W.item i M.s _ _ hlt J.st fun T vals h' tk hpt hsz hT hmid hkeep=>(hv i vals hpt).elim fun us h=>h.elim fun xs hx=>?_) fun hge=>?_
 · have hd:Ok2 (cM asg db (.tup us::vs.drop (i+1)) M.σ) Q:=(List.getElem?_eq_some_iff.mp hx.1).elim fun hh e=>e▸List.drop_eq_getElem_cons hh▸J.d
   have hd:=uv hd
   have hTn:M.s.heap.get? T=none:=aG fun o e=>Nat.lt_irrefl _ (Nat.lt_of_lt_of_le (Heap.lt_size e) hsz)
   have OT:=M.out hTn
   have nT:∀ a∈as,a≠T:=fun a ha e=>(hob _ _ J.st).elim fun gs G=>G.mem ha fun o h=>aL (hTn.symm.trans (e▸(G.at_ _ h).1))
   refine W.go ts kk tp i T _ _ _ hmid fun h2 hst2 hkeep2=>hT.elim fun oT hT=>(hob _ _ hst2).elim fun gs G=>?_
   let M2:=(M.moved (wr:=ws) (s':={ M.s with heap:=h',toks:=tk }) (fun b hb=>J.out b (hw b hb)) hkeep M.I.gens rfl rfl M.I.bg).moved (wr:=ws) (s':={ M.s with heap:=h2,toks:=tk }) (fun b hb=>have O:=J.out b (hw b hb);⟨O.F,O.pl,O.own⟩) hkeep2 M.I.gens rfl rfl M.I.bg
   have ST:bb M2 T oT:=(⟨OT.F,OT.pl,OT.own⟩:Out M2 T).side (hkeep2 T oT (W.apart _ _ _ hmid) hT.1) (tJ hT.2.1)
   have l3:M2.Le (M2.layS ST):=Now.layS_le
   have hrel:ao (M2.layS ST).P (.tup us) (.ref T):=rK (hT.2.2.elim fun n e=>⟨oT,n,Gh.put_self ..,hT.2.1,hx.2.1▸e⟩) (VRels.up (J.le.trans l3.P) hx.2.2)
   have Sg:cn (M2.layS ST) gs:=fun p hp=>have ha:p.1∈as:=G.as▸List.mem_map.mpr ⟨p,hp,rfl⟩
    have O:=J.out p.1 ha
    ⟨O.F.put (nT _ ha),O.pl,O.own,(G.at_ p hp).1,(G.at_ p hp).2⟩
   refine Ht.hold Sg F hrel hd fun M3 l4 h3 H3=>Hb F.hold (M3.hold H3) (ub h3) fun w=>?_
   have l34:=l3.P.trans l4.P
   have fin:=w.let H3 (C:=rB (fun s=>∃ m,m<n∧ZipI N as S' vs (fun l σ=>Ok2 (cM asg db l σ) Q) m s) R₀) fun w Hw =>
    w.turn (J.le.trans l34) rfl (fun f=>rfl) (fun f f=>rfl) (fun h=>⟨vs.length - (i+1),J.n▸Nat.sub_lt_sub_left hlt (Nat.lt_succ_self _),w.N,i+1,rfl,J.le.trans (l34.trans w.le),hlt,rfl,
     fun a ha=>G.mem ha fun o h=>(Hw _ h).out,W.frame _ _ _ hst2 fun b hb ob e=>(hfp b hb).elim (fun ha=>G.mem ha fun o h=>(G.at_ _ h).1.symm.trans e▸(Hw _ h).at_)
      fun h=>h.elim fun o' e'=>have e':=J.le.m _ _ e';((M2.I.pin b o' e').symm.trans e)▸w.N.I.pin b _ ((l34.trans w.le).m _ _ e'),h⟩) q
   revert fin
   generalize w.x=fl
   cases fl<;>exact id
 · cases Nat.le_antisymm J.hi hge
   exact W.done M.s _ _ J.st fun h' tk hkeep=>wpAny_execs_nil (q ⟨.nxt,.next,M.moved (wr:=ws) (s':={ M.s with heap:=h',toks:=tk }) (fun b hb=>J.out b (hw b hb)) hkeep M.I.gens rfl rfl M.I.bg,J.le,rfl,u2 (show Ok2 (cM asg db [] M.σ) Q from List.drop_length▸J.d)⟩)
theorem vT {A:Around} {z TI TO i1 i2 l1 l2:Addr} {P:Gh} {xs ys:List Value} {u1 u2:List V} (hh:A.handled=none) (D:ZipApart z TI TO i1 i2 l1 l2) (r1:VRels P u1 xs) (r2:VRels P u2 ys):∃ Mid,WalksT g.prog g.w A z [z,TI,TO,i1,i2,l1,l2] [z,TO,i1,i2] (rH u1 u2).length (fun i vals=>∃ us xs,(rH u1 u2)[i]? = some (.tup us)∧vals=List.toArray xs∧VRels P us xs) (ZSt z TI TO i1 i2 l1 l2 xs.toArray ys.toArray) Mid :=
 have W:=WalksT.zip2 (prog:=g.prog) (w:=g.w) (A:=A) hh z TI TO i1 i2 l1 l2 D xs.toArray ys.toArray
 have e:min xs.toArray.size ys.toArray.size=(rH u1 u2).length:=by unfold rH;simp [r1.length,r2.length]
 ⟨_,W.sub,W.frame,fun i s Q E hi hst q=>W.item i s Q E (e▸hi) hst fun T vals h' tk hp=>q T vals h' tk (hp.elim fun x h=>h.elim fun y h=>(r1.getIdx ((List.getElem?_toArray ..).symm.trans h.1)).elim fun v1 h1=>(r2.getIdx ((List.getElem?_toArray ..).symm.trans h.2.1)).elim fun v2 h2 =>
  ⟨[v1,v2],[x,y],(List.getElem?_map ..).trans (by rw [(List.getElem?_zip_eq_some (z:=(v1,v2))).mpr ⟨h1.1,h2.1⟩];rfl),h.2.2,bk h1.2 (bk h2.2 bz)⟩),W.go,W.apart,fun s Q E hst=>W.done s Q E (e▸hst),W.self⟩
theorem yY {f e1 e2:Expr} {ts:List Expr} {kk:Nat} {tp cp pos:Pos} {body:List Stmt} {d1 d2:DE} {asg:DG} {db:DS} (Hf:ak g c k f (dk (.ty "zip"))) (H1:ak g c k e1 d1) (H2:ak g c k e2 d2) (Ht:gw g c k (.Tuple ts kk tp) asg) (Hb:bO g c k body db)
 (hs:∀ env,starEach [e1,e2] env=[(false,eval e1 env),(false,eval e2 env)])
 (he:∀ env,eval (.Call f [e1,e2] [] cp) env=(do callWith cp (← eval f env) [] (backTo cp (starEach [e1,e2] env)) (backToKw cp (keywordEach [] env))))
 (hfs:∀ env x,foldedSetIterable (.Call f [e1,e2] [] cp) env x=pure x) :
 cO g c k (.For (.Tuple ts kk tp) (.Call f [e1,e2] [] cp) body [] pos) (yL d1 d2 asg db):=by
 intro Z F N Q K E h q
 refine wpAny_For (PyProof.Rows.Call_ (Hf F N (Q:=fun v s=>v=.ty "zip" ∧ Ok2 (yL d1 d2 asg db s) Q) (ok2 ⟨rfl,h⟩) fun y=>?_) (he _)) (hfs _)
 refine j8 (C:=fun y'=>wpAny _ _ (callWith cp y' [] _ _) _ E y.N.s) (y.rel.as y.q.1) ?_
 rw [hs]
 refine PySem.callWith_type rfl (Calls.evalArgs_plain (Calls.spliced_cons (H1 F y.N (ub y.q.2) fun a=>Calls.spliced_cons (H2 F a.N (ub a.q) fun b=>Calls.spliced_nil ((uv b.q).elim fun u1 h1=>(uv h1.2).elim fun u2 h2=>?_)))))
 refine d7 (C:=fun x=>wpAny _ _ (call (.type "zip") [x,b.x]) _ E b.N.s) h1.1 (a.rel.up b.le.P) fun l1 xs hl1 hxs=>d7 (C:=fun x=>wpAny _ _ (call (.type "zip") [_,x]) _ E b.N.s) h2.1 b.rel fun l2 ys hl2 hys=>?_
 have L1:=hl1.isList b.N.I.pin
 have L2:=hl2.isList b.N.I.pin
 have lt1:l1<b.N.s.heap.objs.size:=L1.elim fun d e=>Heap.lt_size e.1
 have lt2:l2<b.N.s.heap.objs.size:=L2.elim fun d e=>Heap.lt_size e.1
 refine call_zip_2 L1 L2 fun h' z1 z2 z3 z4 z5 z6 hk=>wpAny_pyIter_zip z1 ?_
 have fr:∀ j,b.N.s.heap.get? (b.N.s.heap.objs.size+j)=none:=fun j=>aG fun o e=>absurd (Heap.lt_size e) (Nat.not_lt.mpr (Nat.le_add_right _ _))
 have ne:∀ (i j:Nat),(i==j)=false→b.N.s.heap.objs.size+i≠b.N.s.heap.objs.size+j:=fun i j h e=>beq_eq_false_iff_ne.mp h (Nat.add_left_cancel e)
 have nl1:∀ j,l1≠b.N.s.heap.objs.size+j:=fun j=>Nat.ne_of_lt (Nat.lt_of_lt_of_le lt1 (Nat.le_add_right _ _))
 have nl2:∀ j,l2≠b.N.s.heap.objs.size+j:=fun j=>Nat.ne_of_lt (Nat.lt_of_lt_of_le lt2 (Nat.le_add_right _ _))
 have pm1:∃ o,b.N.P.m l1=some o:=hl1.elim fun o e=>e.elim fun d e=>⟨o,e.1⟩
 have pm2:∃ o,b.N.P.m l2=some o:=hl2.elim fun o e=>e.elim fun d e=>⟨o,e.1⟩
 refine (vT (i1:=b.N.s.heap.objs.size+0) F.R.handled ⟨ne _ _ rfl,ne _ _ rfl,ne _ _ rfl,ne _ _ rfl,ne _ _ rfl,ne _ _ rfl,ne _ _ rfl,ne _ _ rfl,ne _ _ rfl,ne _ _ rfl,nl1 _,nl1 _,nl1 _,nl1 _,nl2 _,nl2 _,nl2 _,nl2 _⟩ hxs hys).elim fun Mid W=>uV (N:=b.N.keeps (h':=h') b.N.s.toks hk) F W (fun b hb=>(List.mem_cons.mp hb).elim (fun e=>e▸.head _) fun hb=>.tail _ (.tail _ hb)) (fun c hc=>(List.mem_append.mp (show c∈([_,_,_,_,_]:List Addr)++[l1,l2] from hc)).imp_right fun (h:c∈[l1,l2])=>(List.mem_cons.mp h).elim (fun (e:c=l1)=>e▸pm1) fun h=>(List.mem_singleton.mp h:c=l2)▸pm2)
  (fun i h=>ZSt.objs) (fun d d h=>h) (fun a ha=>?_) ⟨z1,z2,⟨_,_,z3⟩,z4,z5,L1.imp fun o=>And.imp_left (hk _ _),L2.imp fun o=>And.imp_left (hk _ _)⟩ Ht Hb h2.2 fun r=>q (r.up (y.le.P.trans (a.le.P.trans b.le.P)))
 have:∃ j,a=b.N.s.heap.objs.size+j:=by
  simp only [List.mem_cons,List.not_mem_nil,or_false] at ha
  rcases ha with h | h | h | h | h<;>exact ⟨_,h⟩
 exact this.elim fun j e=>e▸have O:=b.N.out (fr j);⟨O.F,O.pl,O.own⟩
end
noncomputable def b4 (l:List Env):List Addr:=l.filterMap (·.frame)
structure Fk (Z:aE) (outer:List Env):Prop where
 st:Z.Ar.frames=some (Z.env::outer)
 fr:Z.A.fr=b4 outer
 fun_:∀ e∈outer,e.scope.kind≠.module∧∃ L,e.frame=some L
 kind:Z.env.scope.kind=.function
 own:Z.env.frame=some Z.env.locals
 pl:∃ x,bf.ns Z.env.locals x∈Z.pl
inductive cN (A:Act) (P:Gh) (h:Heap) (e:Addr):Option Value→Prop
 | raw {oe:Obj} {vs:Array Value}:ce A P e→h.get? e=some oe→oe.cls=.type "ValueError" → oe.data=.fields vs→vs[1]? = some .none→cN A P h e none
 | fl {oe oT:Obj} {vs ts:Array Value} {T:Addr} {v:Value}:ce A P e→h.get? e=some oe→oe.cls=.type "ValueError" → oe.data=.fields vs→vs[1]? = some (.ref T)→ce A P T→T≠e→h.get? T=some oT→oT.data=.fields ts→ts[3]? = some v→cN A P h e (some v)
def Ae (L:Addr) (st:Option Value):Prop:=st=none∨st=some .none∨st=some (rawInt L)
section
variable {Z:aE} {N:Now Z} {outer:List Env} {e b:Addr} {h h':Heap} {M:Model} {E:Value→Shared→Prop}
theorem yn {l:List Env} (h:b∈b4 l):∃ e∈l,e.frame=some b:=List.mem_filterMap.mp h
theorem bn.solid {p:bf} (H:bn h p):k9 h p.addr:=match p,H with
 | .ns _ _,⟨_,m⟩=>(Ns.data m).imp fun o q=>⟨q.1,fun vs e=>q.2.elim fun a r=>r.elim fun a r=>nomatch (r.symm.trans e)⟩
 | .cell _,⟨o,v,q⟩=>⟨o,q.1,fun vs e=>nomatch (q.2.symm.trans e)⟩
theorem k9.no {o:Obj} {vs:Array Value} {C:Prop} (H:k9 h b) (e:h.get? b=some o) (d:o.data=.fields vs):C:=H.elim fun o' q=>(q.2 vs (Option.some.inj (q.1.symm.trans e)▸d)).elim
theorem Now.plSolid (N:Now Z) {p:bf} (hp:p∈Z.pl):k9 N.s.heap p.addr:=(List.mem_iff_getElem?.mp hp).elim fun a e=>(N.I.placeOk e).solid
theorem Now.outF (N:Now Z) {o:Obj} {vs:Array Value} (F:ce Z.A N.P b) (e:N.s.heap.get? b=some o) (d:o.data=.fields vs):Out N b:=⟨F,fun p hp q=>(N.plSolid hp).no (q▸e) d,fun i q=>(N.I.own.alive q).no e d⟩
structure Ag (N:Now Z) (outer:List Env):Prop where
 F:ce Z.A N.P Z.env.locals
 own:∀ i:Nat,N.own[i]?≠some (some Z.env.locals)
 dict:∀ b∈b4 (Z.env::outer),∃ o es ep,N.s.heap.get? b=some o∧o.data=.dict es ep
 mem:∀ b,b∈b4 (Z.env::outer)→b=Z.env.locals∨b∈Z.A.fr
theorem Fk.loc (F:Fk Z outer) (N:Now Z):Ag N outer :=
 have mem:∀ b,b∈b4 (Z.env::outer)→b=Z.env.locals∨b∈Z.A.fr:=fun b h=>by
  unfold b4 at h
  rw [List.filterMap_cons,F.own] at h
  exact (List.mem_cons.mp h).imp id fun h=>F.fr.symm▸h
 F.pl.elim fun x hx=>⟨N.I.pfree _ hx,fun i h=>(N.I.own.free i _ h).2 _ hx rfl,fun b hb=>(mem b hb).elim
  (fun e=>(List.mem_iff_getElem?.mp hx).elim fun a q=>(N.I.placeOk q).elim fun m q=>e▸(Ns.data q).imp fun o q=>q.2.imp fun a=>Exists.imp fun a r=>⟨q.1,r⟩)
  (fun hb=>have T:=N.I.frs b hb;T.at_.elim fun o q=>q.elim fun sl q=>T.dic.elim fun o' r=>r.elim fun es r=>r.elim fun ep r=>⟨_,es,ep,q.2,Option.some.inj (r.1.symm.trans q.1)▸r.2⟩),mem⟩
theorem Ag.out (L:Ag N outer) (F:ce Z.A N.P b) (h:b≠Z.env.locals):b∉b4 (Z.env::outer):=fun q=>(L.mem b q).elim h fun q=>(N.I.frs b q).ne F.2.2 rfl
def Now.fly (N:Now Z) (F:Fk Z outer) {t:Nat} {ex:List Addr} (hex:∀ b∈ex,ce Z.A N.P b∧∃ o vs,N.s.heap.get? b=some o∧o.data=.fields vs)
 (k:∀ b o,N.s.heap.get? b=some o→b∉ex→b∉b4 (Z.env::outer)→h'.get? b=some o) (ks:∀ b o,N.s.heap.get? b=some o→b∈b4 (Z.env::outer)→(∃ es ep,o.data=.dict es ep)→∃ sl,h'.get? b=some { o with slots:=sl }):Now Z :=
 have L:=F.loc N
 have kP:∀ b o,N.P.m b=some o→b∉ex∧b∉b4 (Z.env::outer):=fun b o h=>⟨fun q=>(hex b q).1.neM h rfl,fun q=>(L.mem b q).elim (fun e=>L.F.neM h e) fun q=>aL ((N.I.frM q).1.symm.trans h)⟩
 have kW:∀ b,N.P.wa=some b→b∉ex∧b∉b4 (Z.env::outer):=fun b h=>⟨fun q=>(hex b q).1.neW h rfl,fun q=>(L.mem b q).elim (fun e=>L.F.neW h e) fun q=>(N.I.frM q).2.1 h⟩
 have kA:∀ b o,Z.A.hp b=some o→b∉ex:=fun b o h q=>(hex b q).1.ne h rfl
 have kall:∀ b o,N.s.heap.get? b=some o→b∉ex→∃ sl,h'.get? b=some { o with slots:=sl }:=fun b o h hb =>
  if q:b∈b4 (Z.env::outer) then (L.dict b q).elim fun o' r=>r.elim fun es r=>r.elim fun ep r=>ks b o h q ⟨es,ep,Option.some.inj (r.1.symm.trans h)▸r.2⟩ else ⟨o.slots,k b o h hb q⟩
 have pn:∀ {b},k9 N.s.heap b→b∉ex:=fun S q=>(hex _ q).2.elim fun c r=>r.elim fun c r=>S.no r.1 r.2
 have tn:∀ x∈N.P.tb,x.2∉b4 (Z.env::outer):=fun x hx q=>(L.mem _ q).elim (fun q=>N.I.nt L.F.2.2 x hx q) fun q=>(N.I.frM q).2.2 x hx rfl
 { N with s:={ N.s with heap:=h',toks:=t },I:={ N.I with
    pin:=fun a o h=>k a o (N.I.pin a o h) (kP a o h).1 (kP a o h).2
    keep:=fun a o h h1 h3 h4=>k a o (N.I.keep a o h h1 h3 h4) (kA a o h) fun q=>(L.mem a q).elim (fun e=>L.F.ne h e) h4
    alive:=fun a o h=>(N.I.alive a o h).elim fun o' q=>(kall a o' q (kA a o h)).elim fun c q=>⟨_,q⟩
    waAlive:=fun a h=>⟨(N.I.waAlive a h).1,(N.I.waAlive a h).2.imp fun o z=>k a o z (kW a h).1 (kW a h).2⟩
    tab:=fun x hx=>have T:=N.I.tab x hx;have n2:=T.hp.elim fun c q=>kA _ _ q.1
     ⟨T.hp,T.m0,T.wa0,T.cm,T.code.at' (fun o h=>(N.I.tabM hx).2.2.elim (fun q=>(q▸k _ o (q▸h) n2 (tn x hx):h'.get? x.1=some o)) fun q=>q.elim fun c q=>k _ o h (kP _ _ q).1 (kP _ _ q).2) fun o h=>k _ o h n2 (tn x hx)⟩
    frs:=fun a ha=>have T:=N.I.frs a ha;⟨T.m0,T.wa0,T.nt,T.at_.imp fun o q=>q.elim fun sl q=>(kall a _ q.2 (kA a o q.1)).imp fun sl' q'=>⟨q.1,q'⟩,T.dic⟩
    w:=N.I.w.keeps (.refl _) (fun c c e=>e) fun a h o q=>k a o q (kW a h).1 (kW a h).2
    own:=⟨N.I.own.len,N.I.own.llen,fun i p o' v h1 h2 h3=>(N.I.own.slot i p o' v h1 h2 h3).map (.refl _) (fun c c e=>e) (fun c e=>e.slots fun o q=>kall _ o q (pn (N.plSolid (List.mem_of_getElem? h1)))) (fun e=>e.slots fun o q=>kall _ o q (pn (N.plSolid (List.mem_of_getElem? h1))))
     fun a e o q=>have e':=h2.trans (congrArg some e);k a o q (pn (N.I.own.alive e')) (L.out (N.I.own.free i a e').1 fun q=>L.own i (q▸e')),N.I.own.free,N.I.own.one⟩ } }
theorem Fk.fun (F:Fk Z outer) (N:Now Z) (ex:List Addr):N.s.heap.FunFrames (hideAll N.s.heap (b4 (Z.env::outer)++ex)) (Z.env::outer):=by
 have key:∀ l:List Env,(∀ x∈l,x.scope.kind≠.module∧∃ L,x.frame=some L∧L∈b4 (Z.env::outer))→N.s.heap.FunFrames (hideAll N.s.heap (b4 (Z.env::outer)++ex)) l:=by
  intro l
  induction l with
  | nil=>intro _;trivial
  | cons x r ih =>
   intro h
   obtain ⟨h1,L,h2,h3⟩:=h x List.mem_cons_self
   obtain ⟨o,es,ep,h4,h5⟩:=(F.loc N).dict L h3
   exact ⟨h1,⟨L,o,h2,hideAll_none _ (List.mem_append_left _ h3),h4,fun vs e=>nomatch (h5.symm.trans e)⟩,ih fun y hy=>h y (List.mem_cons_of_mem _ hy)⟩
 refine key _ fun x hx=>(List.mem_cons.mp hx).elim (fun e=>by subst e;exact ⟨by rw [F.kind];decide,_,F.own,List.mem_filterMap.mpr ⟨_,List.mem_cons_self,F.own⟩⟩) fun hx'=>?_
 exact ⟨(F.fun_ x hx').1,(F.fun_ x hx').2.imp fun L h2=>⟨h2,List.mem_filterMap.mpr ⟨_,hx,h2⟩⟩⟩
structure Af (N N':Now Z) (s:Shared):Prop where
 s:N'.s=s
 σ:N'.σ=N.σ
 P:N'.P=N.P
 own:N'.own=N.own
structure Flo (N N':Now Z):Prop where
 σ:N'.σ=N.σ
 P:N'.P=N.P
 own:N'.own=N.own
theorem Af.q {N N':Now Z} {s:Shared} {v:Option Value} {Q:Unit→Shared→Prop} (f:Af N N' s) (x:cN Z.A N.P s.heap e v) (q:∀ N',Flo N N'→cN Z.A N'.P N'.s.heap e v→Q () N'.s):Q () s :=
 f.s▸q N' ⟨f.σ,f.P,f.own⟩ (f.P.symm▸f.s.symm▸x)
theorem nN (N:Now Z) (F:Fk Z outer) {ex:List Addr} {cls a0 fl:Value} (hex:∀ b∈ex,ce Z.A N.P b∧∃ o vs,N.s.heap.get? b=some o∧o.data=.fields vs) (he:e∈ex) (hc:cls=.type "ValueError")
 (W:Heap.NotedW (hideAll N.s.heap (b4 (Z.env::outer)++ex)) (Z.env::outer) e cls a0 fl N.s.heap h'):∃ N',Af N N' { N.s with heap:=h' }∧cN Z.A N.P h' e (some fl):=by
 refine Classical.byContradiction fun hn_=>?_
 obtain ⟨n1,n2,⟨oe,vs,T,oT,ts,t1,⟨t2,_⟩,t3,t4,t5,t6,t7,t8,t9⟩,n4⟩:=W
 have dfr:=(F.loc N).dict
 refine hn_ ?_;clear hn_
 refine ⟨N.fly (t:=N.s.toks) F hex (fun b o h hb hb2=>n1 b o (hideAll_get _ h fun q=>(List.mem_append.mp q).elim hb2 hb)) (fun b o h a hd=>n4 b o h fun vs e=>hd.elim fun a r=>r.elim fun a r=>nomatch (r.symm.trans e)),⟨rfl,rfl,rfl,rfl⟩,.fl (hex e he).1 t1 (t2.trans hc) t3 t4 ?_ t6 t7 t8 t9⟩
 cases q:N.s.heap.get? T with
 | none=>have f:=N.I.fresh q;exact ⟨f.2.1,f.2.2,f.1⟩
 | some o =>
  have hm:T∈b4 (Z.env::outer)++ex:=Decidable.byContradiction fun hm=>aL (t5.symm.trans (hideAll_get _ q hm))
  rcases List.mem_append.mp hm with hm | hm
  · obtain ⟨o',es,ep,h1,h2⟩:=dfr T hm
    cases q.symm.trans h1
    obtain ⟨sl,h3⟩:=n4 T o q fun vs e=>nomatch (h2.symm.trans e)
    cases t7.symm.trans h3
    exact nomatch (h2.symm.trans t8)
  · exact (hex T hm).1
theorem lm (F:Fk Z outer) {st:Option Value} (x:cN Z.A N.P N.s.heap e st) (hst:Ae Z.env.locals st) {Q:Unit→Shared→Prop}
 (q:∀ N',Flo N N'→cN Z.A N'.P N'.s.heap e (some (rawInt Z.env.locals))→Q () N'.s):wpAny M Z.Ar (noteFrame (.ref e) Z.env) Q E N.s:=by
 cases x with
 | @raw oe vs x1 x2 x3 x4 x5 =>
  have hsz:1<vs.size:=(Array.getElem?_eq_some_iff.mp x5).1
  unfold noteFrame
  rw [F.own]
  refine wpAny_bind (wpAny_field x2 x4 x5 ?_)
  rw [if_neg (by decide)]
  exact wpAny_entryW (base:=hideAll N.s.heap (b4 (Z.env::outer)++[e])) F.st (F.fun N [e]) F.own x2 (fun b o h=>of_hideAll _ h) (hideAll_none _ (List.mem_append_right _ (List.mem_singleton.mpr rfl))) x4 hsz (Array.getElem?_eq_getElem (Nat.lt_of_succ_lt hsz)) fun h' W =>
   (nN N F (fun b hb=>List.mem_singleton.mp hb▸⟨x1,oe,vs,x2,x4⟩) (List.mem_singleton.mpr rfl) x3 W).elim fun N' r=>r.1.q r.2 q
 | @fl oe oT vs ts T v x1 x2 x3 x4 x5 x6 x7 x8 x9 x10 =>
  have hsz:1<vs.size:=(Array.getElem?_eq_some_iff.mp x5).1
  rcases hst with h | h | h
  · cases h
  · cases h
    refine wpAny_noteFrame_onW (base:=hideAll N.s.heap (b4 (Z.env::outer)++[e,T])) (cls:=oe.cls) (a0:=vs[0]'(Nat.lt_of_succ_lt hsz)) F.st (F.fun N [e,T]) F.own ⟨oe,vs,T,oT,ts,x2,⟨rfl,Array.getElem?_eq_getElem (Nat.lt_of_succ_lt hsz)⟩,x4,x5,hideAll_none _ (List.mem_append_right _ (List.mem_cons_of_mem _ List.mem_cons_self)),x7,x8,x9,x10⟩
     (fun b o h=>of_hideAll _ h) (hideAll_none _ (List.mem_append_right _ List.mem_cons_self)) fun h' W =>
     (nN N F (ex:=[e,T]) (fun b hb=>(List.mem_cons.mp hb).elim (fun q=>q▸⟨x1,oe,vs,x2,x4⟩) fun hb=>List.mem_singleton.mp hb▸⟨x6,oT,ts,x8,x9⟩) List.mem_cons_self x3 W).elim fun N' r=>r.1.q r.2 q
  · cases h
    unfold noteFrame
    rw [F.own]
    refine wpAny_bind (wpAny_field x2 x4 x5 ?_)
    rw [if_pos (show (Value.ref T != Value.none)=true from rfl)]
    refine wpAny_bind (wpAny_field x8 x9 x10 ?_)
    rw [if_pos (show (rawInt Z.env.locals==rawInt Z.env.locals)=true from beq_self_eq_true _)]
    exact wpAny_pure (q N ⟨rfl,rfl,rfl⟩ (.fl x1 x2 x3 x4 x5 x6 x7 x8 x9 x10))
theorem ew {Ar:Around} {fl:Value} (x:cN Z.A N.P N.s.heap e (some fl)) (fr:Option Addr) {Q:Unit→Shared→Prop}
 (q:∀ N',Flo N N'→cN Z.A N'.P N'.s.heap e (some (fr.elim .none fun f=>rawInt f))→Q () N'.s):wpAny M Ar (setFlight (.ref e) fr) Q E N.s:=by
 cases x with
 | @fl oe oT vs ts T v x1 x2 x3 x4 x5 x6 x7 x8 x9 x10 =>
 have hsz:3<ts.size:=(Array.getElem?_eq_some_iff.mp x10).1
 unfold setFlight
 refine wpAny_bind (wpAny_field x2 x4 x5 ?_)
 rw [if_pos (show (Value.ref T != Value.none)=true from rfl)]
 have other:∀ b,b≠T→(N.s.heap.update T (Obj.mapFields (·.setIfInBounds 3 (fr.elim .none fun f=>rawInt f)))).get? b=N.s.heap.get? b:=fun b hb=>Heap.get?_update_other _ _ (Ne.symm hb)
 have hd:=Obj.data_mapFields x9 (·.setIfInBounds 3 (fr.elim .none fun f=>rawInt f))
 have hT:=Heap.get?_update_self (Obj.mapFields (·.setIfInBounds 3 (fr.elim .none fun f=>rawInt f))) x8 (Obj.isFreed_of_fields hd)
 exact wpAny_setField x8 x9 hsz (q (N.moved (wr:=[T]) (s':={ N.s with heap:=N.s.heap.update T (Obj.mapFields (·.setIfInBounds 3 (fr.elim .none fun f=>rawInt f))) }) (fun b hb=>List.mem_singleton.mp hb▸N.outF x6 x8 x9) (fun b o hb h=>(other b fun z=>hb (List.mem_singleton.mpr z)).trans h) N.I.gens rfl rfl N.I.bg) ⟨rfl,rfl,rfl⟩
  (.fl x1 ((other e (Ne.symm x7)).trans x2) x3 x4 x5 x6 x7 hT hd (by simp [hsz])))
theorem iV (F:Fk Z outer) {st:Option Value} (x:cN Z.A N.P N.s.heap e st) (hst:Ae Z.env.locals st) {Q:Unit→Shared→Prop}
 (q:∀ N',Flo N N'→cN Z.A N'.P N'.s.heap e (some .none)→Q () N'.s):wpAny M Z.Ar (leaving Z.env (.ref e)) Q E N.s :=
 wpAny_bind (lm F x hst fun N1 f1 x1=>ew (N:=N1) x1 none fun N2 f2 x2=>q N2 ⟨f2.σ.trans f1.σ,f2.P.trans f1.P,f2.own.trans f1.own⟩ x2)
end
end
section
open PySem PySem.W PyProof.Rows PySem.Calls PySem.NumText
theorem uR {M:Model} {A:Around} {E:Value→Shared→Prop} {s:Shared} {Q:Value→Shared→Prop} {v:Value} {text:List Nat} {n:Int}
 (hs:(text.takeWhile (· != 0)).length≤640) (hr:(int_private% "readNumeral") 0 16 (text.takeWhile (· != 0))=(int_private% "Numeral.value") n)
 (ha:((text.takeWhile (· != 0)).length==text.length)=true) (h:Q (.int n s.toks) { s with toks:=s.toks+1 }) :
 wpAny M A ((int_private% "intFromText") v text 16) Q E s:=by
 obtain ⟨hp,g,d,tk,os⟩:=s
 repeat (any_goals (first
  | assumption
  | (with_reducible refine wpAny_ite_true (decide_eq_true hs) ?_)
  | (with_reducible refine wpAny_ite_true (decide_eq_true ha) ?_)
  | wp_step))
 all_goals (try rw [hr])
 all_goals (try dsimp only)
 repeat (any_goals (first
  | assumption
  | (with_reducible refine wpAny_ite_true (decide_eq_true hs) ?_)
  | (with_reducible refine wpAny_ite_true (decide_eq_true ha) ?_)
  | wp_step))
structure Hid (p:Prop):Prop where
 out:p
set_option maxHeartbeats 4000000 in
theorem pb {x:PySem.Str} {u v:Tok} {n:Int} (hs:(numSeenOf x).length≤640) (hr:(int_private% "readNumeral") 0 16 (numSeenOf x)=(int_private% "Numeral.value") n) (ha:((numSeenOf x).length==(numTextOf x).length)=true) :
 Gives (Builtin.«int.__new__» ⟨[.type "int",.str x u,.int 16 v],[]⟩) (.int n) :=
 .of_wp fun M A E s Q h=>by
  obtain ⟨hp,g,d,tk,os⟩:=s
  have f1:=F.conv_sub_int
  have f2:=F.madeHere_int
  have f3:=KIN.str_int
  have f4:=KIN.str_idx
  have f5:=KIN.str_trunc
  have f6:typeOf (.str x u)=pure (.type "str"):=rfl
  have hk:=Hid.mk (And.intro hs (And.intro hr ha))
  clear hs hr ha
  repeat (any_goals (first
   | assumption
   | ((with_reducible show wpAny _ _ ((int_private% "intFromText") _ _ _) _ _ _);refine uR hk.out.1 hk.out.2.1 hk.out.2.2 ?_)
   | wp_step))
  all_goals first | exact ⟨_,rfl,h⟩ | skip
section
variable {prog:Program} {w:World} {A:Around} {E:Value→Shared→Prop} {s:Shared} {Q:Value→Shared→Prop} {x:PySem.Str} {u v:Tok} {n:Int} {m:PySem.Str→Option Value} {o:Obj}
theorem gI (a b:Value):checkTypeCall "int" ⟨[a,b],[]⟩=pure ():=by kernel_rfl
theorem iE (a b:Value):checkBuiltinCall "int.__new__" ⟨[.type "int",a,b],[]⟩=pure ():=by kernel_rfl
theorem m6 (hs:(numSeenOf x).length≤640) (hr:(int_private% "readNumeral") 0 16 (numSeenOf x)=(int_private% "Numeral.value") n) (ha:((numSeenOf x).length==(numTextOf x).length)=true)
 (h:Q (.int n s.toks) { s with toks:=s.toks+1 }):wpAny (model prog w) A (call (.type "int") [.str x u,.int 16 v]) Q E s :=
 callType_new F.called_int F.newNe_int (gI _ _) (iE _ _) (fun obj=>F.args_object_init_3 obj _ _) F.entry_int_new (pb hs hr ha).meets (show (Made.int n).post _ s from ⟨rfl,h⟩)
end
noncomputable def aZ (c:Nat):Bool:=(decide (48≤c)&&decide (c≤57))||(decide (97≤c)&&decide (c≤102))
noncomputable def fY (c:Nat):Nat:=if c≤57 then c - 48 else c - 87
def bq (l:List Nat):Nat:=l.foldl (fun a c=>a * 16+fY c) 0
def gr (l:List Nat):Bool:=match l.reverse with
 | 103::r=>r.all aZ
 | _=>false
theorem yb {c:Nat} (h:aZ c=true):(48≤c∧c≤57)∨(97≤c∧c≤102):=by
 unfold aZ at h
 simpa using h
theorem wm {p:Array Nat×Bool} {c:Nat} (h:aZ c=true):step 16 p c=some (p.1.push (fY c),true):=by
 have h':=yb h
 unfold NumText.step
 have h1:¬ (c==95)=true:=by simp;omega
 rw [if_neg h1]
 have h2:digit? c=some (fY c):=by
  unfold digit? fY
  rcases h' with h' | h'
  · simp [h'.1,h'.2]
  · have:¬ (c≤57):=by omega
    have:¬ (48≤c∧c≤57):=by omega
    have h3:97≤c∧c≤122:=by omega
    simp [*]
 rw [h2]
 have h3:fY c<16:=by unfold fY;split<;>omega
 simp [h3]
theorem mH:∀ {l:List Nat} {p:Array Nat×Bool},l.all aZ=true→l.foldlM (step 16) p=some (p.1++(l.map fY).toArray,p.2||!l.isEmpty)
 | [],p,_=>by simp [List.foldlM]
 | c::r,p,h=>by
  rw [List.all_cons,Bool.and_eq_true] at h
  rw [List.foldlM_cons,wm h.1]
  show List.foldlM (step 16) (p.1.push (fY c),true) r=_
  rw [mH h.2]
  simp
theorem kt {c:Nat} {r:List Nat} (h:aZ c=true∨c=103):(c::r).dropWhile blank=c::r∧sign (c::r)=(false,c::r):=by
 have h':(48≤c∧c≤57)∨(97≤c∧c≤103):=by
  rcases h with h | h
  · rcases yb h with h | h<;>omega
  · omega
 have hb:blank c=false:=by
  unfold blank
  have:¬ c=32:=by omega
  have:¬ (c≤13):=by omega
  simp [*]
 refine ⟨by rw [List.dropWhile_cons];simp [hb],?_⟩
 unfold sign
 split
 · rename_i e;cases e;omega
 · rename_i e;cases e;omega
 · rfl
theorem uK {l:List Nat} (h:∀ c∈l,aZ c=true∨c=103):based 16 l=(16,false,l):=by
 unfold based
 split
 · rename_i p hp
   have:p≠16:=by
    unfold prefix? at hp
    split at hp
    · rename_i c r
      have hc:=h c (List.mem_cons_of_mem _ List.mem_cons_self)
      have hc':c≠120∧c≠88:=by
       rcases hc with hc | hc
       · rcases yb hc with hc | hc<;>omega
       · omega
      have:¬ ((c==120||c==88)=true):=by simp;omega
      rw [if_neg this] at hp
      split at hp
      · cases hp;decide
      · split at hp
        · cases hp;decide
        · cases hp
    · cases hp
   have hne:((16:Nat)==0||(16:Nat)==p)=false:=Bool.or_eq_false_iff.mpr ⟨rfl,beq_eq_false_iff_ne.mpr fun e=>this e.symm⟩
   rw [hne];rfl
 · rfl
theorem qI {l:List Nat} (h:∀ c∈l,aZ c=true∨c=103):(l.reverse.dropWhile blank).reverse=l:=by
 cases hl:l.reverse with
 | nil=>have:=congrArg List.reverse hl;simp at this;subst this;rfl
 | cons c r =>
  rw [(kt (h c (List.mem_reverse.mp (hl▸List.mem_cons_self)))).1,← hl,List.reverse_reverse]
theorem qw {l:List Nat} (hne:l≠[]) (h:l.all aZ=true):(int_private% "readNumeral") 0 16 l=(int_private% "Numeral.value") (bq l:Int):=by
 have ha:∀ c∈l,aZ c=true∨c=103:=fun c hc=>.inl (List.all_eq_true.mp h c hc)
 obtain ⟨c,r,rfl⟩:∃ c r,l=c::r:=by cases l with | nil=>exact absurd rfl hne | cons c r=>exact ⟨c,r,rfl⟩
 obtain ⟨d1,d2⟩:=kt (r:=r) (ha c List.mem_cons_self)
 rw [readNumeral_eq,d1,d2]
 dsimp only
 rw [uK ha]
 dsimp only
 rw [qI ha]
 have hd:digits? 16 (c::r)=some ((c::r).map fY).toArray:=by
  unfold digits?
  rw [mH h]
  simp
 rw [hd]
 unfold judge
 have e:(((c::r).map fY).toArray).foldl (fun acc d=>acc * 16+d) 0=bq (c::r):=by
  unfold bq
  rw [List.foldl_toArray,List.foldl_map]
 simp only [e]
 rfl
theorem wL {l:List Nat} (h:gr l=true):(int_private% "readNumeral") 0 16 l=(int_private% "Numeral.invalid"):=by
 unfold gr at h
 split at h
 · rename_i r hr
   have hl:l=r.reverse++[103]:=by have:=congrArg List.reverse hr;simpa using this
   have hrr:r.reverse.all aZ=true:=by rw [List.all_reverse];exact h
   have ha:∀ c∈l,aZ c=true∨c=103:=fun c hc=>by
    rw [hl,List.mem_append] at hc
    rcases hc with hc | hc
    · exact .inl (List.all_eq_true.mp hrr c hc)
    · exact .inr (List.mem_singleton.mp hc)
   obtain ⟨c,t,e⟩:∃ c t,l=c::t:=by
    cases l with
    | nil=>rw [List.reverse_nil] at hr;cases hr
    | cons c t=>exact ⟨c,t,rfl⟩
   obtain ⟨d1,d2⟩:=kt (r:=t) (ha c (by rw [e];exact List.mem_cons_self))
   rw [← e] at d1 d2
   rw [readNumeral_eq,d1,d2]
   dsimp only
   rw [uK ha]
   dsimp only
   rw [qI ha]
   have hd:digits? 16 l=none:=by
    unfold digits?
    rw [hl,List.foldlM_append,mH hrr]
    rfl
   rw [hd]
   rfl
 · cases h
theorem lV {l:List Nat} (h:∀ c∈l,aZ c=true∨c=103):numSeenOf (S l)=l∧numTextOf (S l)=l:=by
 have h':∀ c∈l,48≤c∧c≤103:=fun c hc=>by
  rcases h c hc with q | q
  · rcases yb q with q | q<;>omega
  · omega
 have h1:numTextOf (S l)=l:=by
  show (if (S l).cps.all (· < 128) then (S l).cps.toList else Unicode.numberText (S l).cps.toList)=l
  rw [if_pos (by simp [S];intro c hc;have:=h' c hc;omega),rC]
 refine ⟨?_,h1⟩
 show (numTextOf (S l)).takeWhile (· != 0)=l
 rw [h1]
 have:∀ l':List Nat,(∀ c∈l',48≤c)→l'.takeWhile (· != 0)=l':=fun l'=>by
  induction l' with
  | nil=>intro _;rfl
  | cons c r ih =>
   intro hc
   have h0:=hc c List.mem_cons_self
   rw [List.takeWhile_cons,ih fun x hx=>hc x (List.mem_cons_of_mem _ hx)]
   have:(c != 0)=true:=by simp;omega
   rw [this];rfl
 exact this l fun c hc=>(h' c hc).1
end
section
open PySem PySem.W PyProof.Rows
open Sem (wp)
noncomputable def xX:Code→Bool
 | .builtin "claim.caller" _=>true
 | _=>false
def Cal (Γ:Ctx):Prop:=(Γ.code::Γ.below.map (·.1)).any xX=true
def CalB (Γ:Ctx):Prop:=(Γ.below.map (·.1)).any xX=true
theorem CalB.cal {Γ:Ctx} (h:CalB Γ):Cal Γ:=by
 unfold Cal;rw [List.any_cons,show (Γ.below.map (·.1)).any xX=true from h,Bool.or_true]
theorem Cal.enter {Γ:Ctx} (h:Cal Γ) (c:Code) (hd:Option Value) (p:Pos):CalB (Γ.enter c hd p):=h
def wpC {α:Type} (M:Model) (A:Around) (t:Sem α) (Q:α→Shared→Prop) (E:Value→Shared→Prop) (s:Shared):Prop :=
 ∀ Γ p,Γ.In A→Cal Γ→wp M Γ t (fun a b s'=>Q a s') (fun e b s'=>E e s') p s
def d0 (M:Model) (A:Around) (c:Code) (R:Result→Shared→Prop) (s:Shared):Prop :=
 ∀ Γ p,Γ.code=c→Γ.Below A→CalB Γ→wpCode M Γ R p s
section
variable {α β:Type} {M:Model} {A:Around} {E:Value→Shared→Prop} {s:Shared}
theorem ed {t:Sem α} {Q:α→Shared→Prop} (h:wpAny M A t Q E s):wpC M A t Q E s:=fun Γ p hΓ a=>h Γ p hΓ
theorem zt {c:Code} {R:Result→Shared→Prop} (h:codeAny M A c R s):d0 M A c R s:=fun Γ p hc hΓ a=>h Γ p hc hΓ
theorem bw {a:α} {Q:α→Shared→Prop} (h:Q a s):wpC M A (pure a) Q E s:=fun b b b b=>h
theorem bx {t:Sem α} {Q Q':α→Shared→Prop} {E':Value→Shared→Prop} (h:wpC M A t Q E s) (hQ:∀ a s,Q a s→Q' a s) (hE:∀ e s,E e s→E' e s):wpC M A t Q' E' s :=
 fun Γ p hΓ hc=>Sem.wp_mono M Γ t (fun a b s=>hQ a s) (fun e b s=>hE e s) p s (h Γ p hΓ hc)
theorem bj {m:Sem α} {f:α→Sem β} {Q:β→Shared→Prop} (h:wpC M A m (fun a s'=>wpC M A (f a) Q E s') E s):wpC M A (m>>=f) Q E s:=fun Γ p hΓ hc=>by
 rw [Sem.wp_bind']
 exact Sem.wp_mono M Γ m (fun a p' s' h'=>h' Γ p' hΓ hc) (fun b b b h'=>h') p s (h Γ p hΓ hc)
theorem aK {m:Sem α} {f:α→Sem β} {Q:β→Shared→Prop} (h:wpAny M A m (fun a s'=>wpC M A (f a) Q E s') E s):wpC M A (m>>=f) Q E s:=bj (ed h)
theorem gH {m:Sem α} {k:Value→Sem Unit} {Q:α→Shared→Prop} (h:wpC M A m Q (fun e s'=>wpC M A (k e) (fun a s''=>E e s'') E s') s):wpC M A (m.onRaise k) Q E s:=fun Γ p hΓ hc=>by
 rw [Sem.wp_onRaise]
 exact Sem.wp_mono M Γ m (fun a a a h'=>h') (fun e p' s' h'=>h' Γ p' hΓ hc) p s (h Γ p hΓ hc)
theorem qa {m:Sem α} {Q:Except Value α→Shared→Prop} (h:wpC M A m (fun a=>Q (.ok a)) (fun e=>Q (.error e)) s):wpC M A m.attempt Q E s:=fun Γ p hΓ hc=>by
 rw [Sem.wp_attempt];exact h Γ p hΓ hc
theorem dR {vs:List Value} {m:Sem α} {Q:α→Shared→Prop} (h:wpC M A m Q E s):wpC M A (holding vs m) Q E s:=fun Γ p hΓ hc=>by
 rw [Sem.wp_holding];exact h Γ p hΓ hc
theorem wpC_run {c:Code} {h:Option Value} {Q:Flow→Shared→Prop} (hc:d0 M (A.mark h) c (fun r s'=>match r with | .ok f=>Q f s' | .error e=>E e s') s) (hnb:h≠some byPass:=by intro x;cases x):wpC M A (run c h) Q E s :=
 fun Γ p hΓ hk=>by rw [Sem.wp_run];exact hc _ p rfl (hΓ.enter c h p hnb) (hk.enter c h p)
theorem lF {f:Value} {pos:List Value} {kw:List (Str×Value)} {Q:Value→Shared→Prop} (hc:d0 M A (.call f ⟨pos,kw⟩) (fun r s'=>match r with | .ok (.ret v)=>Q v s' | .ok _=>False | .error e=>E e s') s):wpC M A (call f pos kw) Q E s :=
 fun Γ p hΓ hk=>by
  show wp M Γ (runValue (.call f ⟨pos,kw⟩)) _ _ p s
  rw [Sem.wp_runValue];exact hc _ p rfl (hΓ.enter _ none p (by intro x;cases x)) (hk.enter _ none p)
theorem dM {c:Code} {R:Result→Shared→Prop}
 (h:wpC M (A.under c) (M.den c) (fun fin s'=>match fin with | .done f=>R (.ok f) s' | .again c'=>c'.quiet=true∧d0 M A c' R s') (fun e s'=>R (.error e) s') s):d0 M A c R s:=fun Γ p hc hΓ hk=>by
 rw [wpCode_iff_wp,hc]
 refine Sem.wp_mono M Γ _ (fun fin p' s' h'=>?_) (fun a a a h'=>h') p s (h Γ p (hc▸hΓ.in) hk.cal)
 cases fin with
 | done f=>exact h'
 | again c'=>exact ⟨h'.1,h'.2 (Γ.goto c') p' rfl (hΓ.goto c') hk⟩
theorem sT {c:Code} {R:Result→Shared→Prop} (hq:c.quiet=true) (I:Nat→Shared→Prop)
 (turn:∀ n s,I n s→wpC M (A.under c) (M.den c) (fun fin s'=>match fin with
  | .done f=>R (.ok f) s'
  | .again c'=>(c' = c∧∃ m,m<n∧I m s')∨(c'.quiet=true∧d0 M A c' R s')) (fun e s'=>R (.error e) s') s):∀ (n:Nat) (s:Shared),I n s→d0 M A c R s:=by
 intro n
 induction n using Nat.strongRecOn with
 | ind n ih =>
  intro s h
  refine dM (bx (turn n s h) (fun fin s' hf=>?_) fun a a h'=>h')
  cases fin with
  | done f=>exact hf
  | again c' =>
   rcases hf with ⟨rfl,m,hm,hI⟩ | hf
   · exact ⟨hq,ih m hm s' hI⟩
   · exact hf
theorem vW {own:List String} {e:Value} {Q:Unit→Shared→Prop} (q:Q () s):wpC M A (markTheRefusal own e) Q E s:=fun Γ p hΓ hk=>by
 unfold markTheRefusal
 rw [Sem.wp_bind']
 show wp M Γ (.stack _) _ _ p s
 rw [Sem.wp_stack]
 have h:pythonCodeMadeTheCall own (((Γ.code,p)::Γ.below).map (·.1))=false:=by
  unfold pythonCodeMadeTheCall
  refine Bool.and_eq_false_iff.mpr (.inl (Bool.and_eq_false_iff.mpr (.inl ?_)))
  rw [Bool.not_eq_false']
  rw [List.map_cons]
  exact hk
 show wp M Γ (pure ((Γ.code,p)::Γ.below)) _ _ p s
 rw [Sem.wp_pure']
 rw [h]
 exact q
end
open Sem (wp)
section
variable {M:Model} {A:Around} {E:Value→Shared→Prop} {s:Shared} {env:Env}
theorem qZ {st:Stmt} {rest:List Stmt} {Q:Flow→Shared→Prop} (h:wpC M A (exec st env) (fun f s'=>match f with | .next=>wpC M A (execs rest env) Q E s' | f=>Q f s') E s):wpC M A (execs (st::rest) env) Q E s:=by
 rw [execs_cons]
 refine bj (bx h (fun f s' h'=>?_) fun a a x=>x)
 cases f<;>first | exact h' | exact bw h'
theorem ifC {test:Expr} {body orelse:List Stmt} {pos:Pos} {Q:Flow→Shared→Prop} (h:wpC M A (isTrue test env (eval test env)) (fun b s2=>if b then wpC M A (execs body env) Q E s2 else wpC M A (execs orelse env) Q E s2) E s) :
 wpC M A (exec (.If test body orelse pos) env) Q E s:=by
 rw [exec_If]
 refine aK (wpAny_standAt (bj (bx h (fun b s2 h2=>?_) fun a a x=>x)))
 cases b<;>exact h2
theorem assignC {x:Str} {p1 pos:Pos} {value:Expr} {Q:Flow→Shared→Prop} (h:wpC M A (eval value env) (fun v s1=>wpAny M A (storeName env x v) (fun a=>Q .next) E s1) E s) (hs:swapsWith value (some (.Name x p1)) pos.line env=pure false) :
 wpC M A (exec (.Assign [.Name x p1] value pos) env) Q E s:=fun Γ p hΓ hk=>by
 simp only [exec_Assign_Name env x p1 value pos hs,Sem.wp_bind',Sem.wp_cmd_standAt,Sem.wp_bindName,Sem.wp_pure']
 exact Sem.wp_mono M Γ _ (fun v a s1 h1=>h1 Γ _ hΓ) (fun a a a h'=>h') _ _ (h Γ _ hΓ hk)
theorem notC {x:Expr} {pos:Pos} {whole:Sem Value} {Q:Bool→Shared→Prop} (h:wpC M A (isTrue x env (eval x env)) (fun c s'=>Q (!c) s') E s):wpC M A (isTrue (.UnaryOp .Not x pos) env whole) Q E s:=by
 show wpC M A (isTrue x env (eval x env)>>=fun b=>pure (!b)) Q E s
 exact bj (bx h (fun a a h'=>bw h') fun a a x=>x)
theorem andC {x:Expr} {rest:List Expr} {pos:Pos} {whole:Sem Value} {Q:Bool→Shared→Prop} (h:wpC M A (isTrue x env (eval x env)) (fun c s'=>if c then wpC M A (isTrue (.BoolOp .And rest pos) env whole) Q E s' else Q false s') E s) :
 wpC M A (isTrue (.BoolOp .And (x::rest) pos) env whole) Q E s:=by
 show wpC M A (isTrue x env (eval x env)>>=_) Q E s
 refine bj (bx h (fun c s' h'=>?_) fun a a x=>x)
 cases c with
 | false=>exact bw h'
 | true=>exact h'
theorem orC {x:Expr} {rest:List Expr} {pos:Pos} {whole:Sem Value} {Q:Bool→Shared→Prop} (h:wpC M A (isTrue x env (eval x env)) (fun c s'=>if c then Q true s' else wpC M A (isTrue (.BoolOp .Or rest pos) env whole) Q E s') E s) :
 wpC M A (isTrue (.BoolOp .Or (x::rest) pos) env whole) Q E s:=by
 show wpC M A (isTrue x env (eval x env)>>=_) Q E s
 refine bj (bx h (fun c s' h'=>?_) fun a a x=>x)
 cases c with
 | false=>exact h'
 | true=>exact bw h'
theorem zr {l r:Expr} {op:CmpOp} {pos:Pos} {whole:Sem Value} {Q:Bool→Shared→Prop} (h:wpC M A (eval l env) (fun a s1=>wpAny M A (eval r env) (fun b s2=>wpAny M A (compareOp op a b) (fun c s3=>wpAny M A (truthy c) Q E s3) E s2) E s1) E s)
 (hm:behindInMarks op r=false):wpC M A (isTrue (.Compare l [op] [r] pos) env whole) Q E s:=fun Γ p hΓ hk=>by
 simp only [isTrue_Compare1,markedBehindIn_of_false hm,Sem.wp_bind',Sem.wp_holding,Sem.wp_cmd_standAt,Sem.wp_operate]
 exact Sem.wp_mono M Γ _ (fun a p1 s1 h1=>Sem.wp_mono M Γ _ (fun b d s2 h2=>Sem.wp_mono M Γ _ (fun c p3 s3 h3=>h3 Γ p3 hΓ) (fun d d d h'=>h') _ _ (h2 Γ _ hΓ)) (fun d d d h'=>h') _ _ (h1 Γ p1 hΓ)) (fun d d d h'=>h') _ _ (h Γ p hΓ hk)
theorem runOwnC {c:Code} {h:Option Value} {Q:Flow→Shared→Prop} (hc:d0 M (A.mark h) c (fun r s'=>match r with | .ok f=>Q f s' | .error e=>cameBackBy M A env E e s') s) (hnb:h≠some byPass:=by intro x;cases x):wpC M A (runOwn c env h) Q E s:=by
 unfold runOwn
 exact gH (bx (wpC_run hc hnb) (fun a a x=>x) fun a a x=>ed x)
theorem forC {target iter:Expr} {body orelse:List Stmt} {pos:Pos} {Q:Flow→Shared→Prop}
 (h:wpAny M A (eval iter env) (fun x s1=>wpAny M A (pyIter x) (fun it s2=>d0 M A (.forLoop target it body orelse env) (fun r s'=>match r with | .ok f=>Q f s' | .error e=>cameBackBy M A env E e s') s2) E s1) E s)
 (hs:∀ x,foldedSetIterable iter env x=pure x):wpC M A (exec (.For target iter body orelse pos) env) Q E s:=by
 rw [exec_For]
 refine aK (wpAny_standAt (aK (wpAny_mono h (fun x s1 h1=>?_) fun a a x=>x)))
 rw [hs]
 refine aK (wpAny_pure ?_)
 refine aK (wpAny_standAt ?_)
 refine bj (dR (ed (wpAny_mono h1 (fun it s2 h2=>?_) fun a a x=>x)))
 exact runOwnC h2
end
section
variable {prog:Program} {w:World} {A:Around} {E:Value→Shared→Prop} {R:Result→Shared→Prop} {s:Shared} {env:Env}
theorem tryC {body orelse:List Stmt} {h₀:ExceptHandler} {hs:List ExceptHandler} {pos:Pos} {Q:Flow→Shared→Prop}
 (h:wpC (model prog w) A (execs body env) (fun f s1=>match f with | .next=>wpAny (model prog w) A (execs orelse env) Q E s1 | f=>Q f s1)
  (fun e s1=>wpAny (model prog w) A (noteFrame e env) (fun a s2=>wpAny (model prog w) A (setFlight e none) (fun a s3=>wpAny (model prog w) A (handleBy e env (h₀::hs)) Q E s3) E s2) E s1) s) :
 wpC (model prog w) A (exec (.Try body (h₀::hs) orelse [] pos) env) Q E s:=by
 rw [arm_exec_Try]
 refine aK (wpAny_standAt ?_)
 unfold tryStmt
 refine bj (qa (bx h (fun f s1 h1=>?_) fun e s1 h1=>?_))
 · cases f<;>first | exact ed h1 | exact bw h1
 · exact ed (wpAny_bind (wpAny_mono h1 (fun a a h2=>wpAny_bind h2) fun a a x=>x))
theorem funcC {body:List Stmt} (h:wpC (model prog w) (A.deeper env) (execs body env) (fun f s'=>R (.ok (.ret (match f with | .ret v=>v | _=>.none))) s')
 (fun e s'=>wpAny (model prog w) (A.deeper env) (leaving env e) (fun a s2=>R (.error e) s2) (fun e' s2=>R (.error e') s2) s') s):d0 (model prog w) A (.func body env) R s:=by
 refine dM ?_
 show wpC _ (A.deeper env) (do point;match ← (execs body env).onRaise (leaving env) with | .ret v=>ret v | _=>ret .none) _ _ s
 refine aK (wpAny_point (bj (gH (bx h (fun f s' h'=>?_) fun a a x=>ed x))))
 cases f<;>exact bw h'
theorem sZ {a:Addr} {o:Obj} {fd:FuncData} {body:List Stmt} {vals:List Value} {binds:List (Str×Value)}
 (hroom:A.depth<recursionLimit) (ho:s.heap.get? a=some o) (hdata:o.data=.func fd) (hlim:s.heap.NoLimit) (hcd:s.heap.CodeRec fd.code fd.qualname)
 (hbody:fd.body=.stmts body) (hbind:bindArgs fd ⟨vals,[]⟩=pure binds) (hclo:fd.closure=[])
 (hkind:∀ x∈binds,fd.scope.names.lookup x.1=some .local∨(fd.scope.names.lookup x.1=some .cell∧((cellsFrom (s.heap.objs.size+1) fd.scope.names []).lookup x.1).isSome=true))
 (h:∀ s1,InCallC s (callEnvC fd s.heap.objs.size a).locals (bindL (callEnvC fd s.heap.objs.size a).kindOf binds fun b=>none) (callEnvC fd s.heap.objs.size a).cells
  (bindC (callEnvC fd s.heap.objs.size a).kindOf binds fun b=>none) s1 →
  wpC (model prog w) (A.deeper (callEnvC fd s.heap.objs.size a)) (execs body (callEnvC fd s.heap.objs.size a)) (fun f s'=>R (.ok (.ret (match f with | .ret v=>v | _=>.none))) s')
   (fun e s'=>wpAny (model prog w) (A.deeper (callEnvC fd s.heap.objs.size a)) (leaving (callEnvC fd s.heap.objs.size a) e) (fun b s2=>R (.error e) s2) (fun e' s2=>R (.error e') s2) s') s1)
 (hco:fd.scope.isCoroutine=false) (hgen:fd.scope.isGenerator=false) (hk:fd.scope.kind=.function):d0 (model prog w) A (.call (.ref a) ⟨vals,[]⟩) R s:=by
 refine dM ?_
 show wpC _ A.in1 (callAny (.ref a) ⟨vals,[]⟩) _ _ s
 unfold callAny
 refine aK (wpAny_load ho ?_)
 refine Classical.byContradiction fun hn_=>?_
 obtain ⟨c,oc,vs,tq,hc,hoc,hdc,hq⟩:=hcd
 refine hn_ ?_;clear hn_
 rw [hdata]
 show wpC _ _ (callFunction a _ ⟨vals,[]⟩) _ _ _
 unfold callFunction
 rw [hc,hco,hgen,hbody]
 refine aK (m:=field (.ref c) 1) (wpAny_field hoc hdc hq (aK (wpAny_pure ?_)))
 rw [hbind,hclo]
 refine aK (wpAny_pure ?_)
 refine aK (wpAny_newFunctionEnv_cells hk hkind fun env he s' x=>?_)
 refine Classical.byContradiction fun hn_=>?_
 subst he
 refine hn_ ?_;clear hn_
 refine aK (wpAny_enterFrame (hlim.keeps x.toInCall.keep) hroom ?_)
 refine bw ⟨rfl,?_⟩
 have:=funcC (R:=R) (h s' x)
 refine Classical.byContradiction fun hn_=>?_
 unfold callEnvC at this
 rw [hc] at this
 refine hn_ ?_;clear hn_
 exact this
end
open Sem (wp)
section
variable {prog:Program} {w:World} {A:Around} {E:Value→Shared→Prop} {R:Result→Shared→Prop} {s:Shared} {env:Env}
theorem notedC {α:Type} {M:Model} {m:Sem α} {Q:α→Shared→Prop} (h:wpC M A m Q (notedBy M A env E) s):wpC M A (m.onRaise fun x=>do noteFrame x env;theTreesLotGoes x) Q E s :=
 gH (bx h (fun a a q=>q) fun a a hx=>ed (wpAny_bind (wpAny_mono hx (fun a a e=>wpAny_theTreesLotGoes e) fun a a e=>e)))
theorem yt {target:Expr} {it:Value} {body orelse:List Stmt} (I:Nat→Shared→Prop)
 (turn:∀ n s,I n s→wpAny (model prog w) A (pyNext it) (fun r s1=>match r with
  | none=>wpAny (model prog w) A (execs orelse env) (fun f s3=>R (.ok f) s3) (notedBy (model prog w) A env fun e s'=>R (.error e) s') s1
  | some v=>wpAny (model prog w) A (letOwnedTupleGo target it v) (fun a s1' =>
   wpAny (model prog w) A (assign target env v) (fun a s2=>wpC (model prog w) A (execs body env) (fun f s3=>match f with
    | .next | .cont=>∃ m,m<n∧I m s3
    | .brk=>R (.ok .next) s3
    | .ret v=>R (.ok (.ret v)) s3) (notedBy (model prog w) A env fun e s'=>R (.error e) s') s2) (notedBy (model prog w) A env fun e s'=>R (.error e) s') s1') (notedBy (model prog w) A env fun e s'=>R (.error e) s') s1) (notedBy (model prog w) A env fun e s'=>R (.error e) s') s)
 (n:Nat) (h:I n s):d0 (model prog w) A (.forLoop target it body orelse env) R s:=by
 refine sT rfl I (fun n s hI=>?_) n s h
 show wpC _ A ((forTurn target it body orelse env).onRaise (fun x=>do noteFrame x env;theTreesLotGoes x)) _ _ s
 refine notedC ?_
 unfold forTurn
 refine aK (wpAny_standAt ?_)
 refine aK (wpAny_onRaise (wpAny_mono (turn n s hI) (fun r s1 h1=>?_) fun a a x=>wpAny_standAt x))
 cases r with
 | none=>exact bw (.inr ⟨rfl,zt (codeAny_block h1)⟩)
 | some v =>
  refine aK (wpAny_mono h1 (fun a s1' h1'=>?_) fun a a x=>x)
  refine aK (wpAny_mono h1' (fun a s2 h2=>?_) fun a a x=>x)
  refine bj (bx h2 (fun f s3 h3=>?_) fun a a x=>x)
  cases f with
  | next=>exact bw (.inl ⟨rfl,h3⟩)
  | cont=>exact bw (.inl ⟨rfl,h3⟩)
  | brk=>exact bw h3
  | ret v=>exact bw h3
end
section
variable {M:Model} {A:Around} {E:Value→Shared→Prop} {s:Shared}
theorem vX {α:Type} {vs:List Value} {m:Sem α} {Q:α→Shared→Prop} (h:wpC M A m Q E s):wpC M A (m.keep vs) Q E s:=fun Γ p hΓ hc=>by rw [Sem.wp_keep];exact h Γ p hΓ hc
theorem p9 {α:Type} {p:Prop} [Decidable p] {a b:Sem α} {Q:α→Shared→Prop} (h1:wpC M A a Q E s) (h2:wpC M A b Q E s):wpC M A (if p then a else b) Q E s:=by
 by_cases h:p
 · rw [if_pos h];exact h1
 · rw [if_neg h];exact h2
theorem vL {P:Heap→Prop} {pos:Pos} {f:Value} {first:List Value} {args:List (Bool×Sem Value)} {keywords:List (Option Str×Sem Value)} {Q:Value→Shared→Prop} (hplain:(args.any (·.1)||keywords.any (·.1.isNone))=false)
 (hk:∀ h,P h→∃ k,(k=Keeper.frame∨k=Keeper.machine∨k=Keeper.boundFrame)∧Looks M h (keeperOf f) k)
 (h:wpAny M A (evalArgs f true args keywords) (fun a s1=>P s1.heap∧wpC M A (call f (first++a.pos) a.kw) Q E s1) E s):wpC M A (callWith pos f first args keywords) Q E s:=by
 unfold callWith
 refine bj (dR (ed (wpAny_mono h (fun a s1 h1=>?_) fun b b x=>x)))
 refine aK (wpAny_standAt ?_)
 obtain ⟨k,hk',L⟩:=hk _ h1.1
 rw [hplain]
 refine aK (L.here ?_)
 have tail:∀ {t:Sem Value},wpC M A t Q E s1→wpC M A (t>>=fun r=>holding [r] point>>=fun b=>pure r) Q E s1 :=
  fun ht=>bj (bx ht (fun r s2 hr=>aK (wpAny_holding (wpAny_point (bw hr)))) fun b b x=>x)
 have marked (mk:Value):wpC M A (callMarked mk f (first++a.pos) a.kw) Q E s1:=by unfold callMarked;exact vX h1.2
 rcases hk' with rfl | rfl | rfl
 · show wpC _ _ (if args.length+2 * keywords.length > 30 then _ else _) _ _ _
   exact p9 (tail h1.2) (tail (marked _))
 · exact tail h1.2
 · show wpC _ _ (if args.length+2 * keywords.length > 30 then _ else _) _ _ _
   exact p9 (tail h1.2) (tail (marked _))
theorem m7 {pos:Pos} {T:String} {first:List Value} {args:List (Bool×Sem Value)} {Q:Value→Shared→Prop} (hplain:args.any (·.1)=false)
 (h:wpAny M A (evalArgs (.type T) true args []) (fun a s1=>wpC M A (call (.type T) (first++a.pos) a.kw) Q E s1) E s):wpC M A (callWith pos (.type T) first args []) Q E s:=by
 unfold callWith
 refine bj (dR (ed (wpAny_mono h (fun a s1 h1=>?_) fun b b x=>x)))
 refine aK (wpAny_standAt ?_)
 rw [hplain]
 refine aK (wpAny_pure ?_)
 exact bj (bx h1 (fun r s2 hr=>aK (wpAny_holding (wpAny_point (bw hr)))) fun b b x=>x)
end
end
section
open PySem PySem.W PyProof.Rows PySem.Calls PySem.NumText
open Sem (wp)
section
variable {prog:Program} {w:World} {A:Around} {E:Value→Shared→Prop} {R:Result→Shared→Prop} {s:Shared}
theorem ru {id:String} {args:Args} {b:Builtin} (hb:entryFor table id=some b)
 (h:wpC (model prog w) (A.under (.builtin id args)) (b args) (fun fin s'=>match fin with | .done f=>R (.ok f) s' | .again c'=>c'.quiet=true∧d0 (model prog w) A c' R s') (fun e s'=>R (.error e) s') s) :
 d0 (model prog w) A (.builtin id args) R s:=by
 refine dM ?_
 show wpC _ _ (match entryFor table id with | some b=>b args | none=>unsupported ((withoutEnding? id "#data").getD id)) _ _ s
 rw [hb];exact h
theorem pN {id:String} {args:Args} {b:Builtin} (hq:plainId id=true) (hb:entryFor table id=some b) (hc:checkBuiltinCall id args=pure ())
 (h:wpC (model prog w) A.in1 (b args) (fun fin s'=>match fin with | .done f=>R (.ok f) s' | .again c'=>c'.quiet=true∧d0 (model prog w) A c' R s') (fun e s'=>R (.error e) s') s) :
 d0 (model prog w) A (.call (.builtin id) args) R s:=by
 refine dM ?_
 show wpC _ A.in1 (checkBuiltinCall id args>>=fun a=>again (.builtin id args)) _ _ s
 rw [hc]
 refine aK (wpAny_pure ?_)
 refine bw ⟨plainId_quiet hq args,ru hb ?_⟩
 rw [Around.under_plainId hq args];exact h
theorem iR {α β:Type} {m:Sem α} {a:α} {f:α→Sem β} {Q:β→Shared→Prop} {M:Model} (e:m=pure a) (h:wpC M A (f a) Q E s):wpC M A (m>>=f) Q E s:=e▸aK (wpAny_pure h)
theorem fO {α:Type} {p:Prop} {inst:Decidable p} {a b:Sem α} {Q:α→Shared→Prop} {M:Model} (e:¬ p) (h:wpC M A b Q E s):wpC M A (@ite _ p inst a b) Q E s:=(if_neg e).symm▸h
theorem uS {T newId initId:String} {args:List Value} {Q:Fin→Shared→Prop} (ft:TypeCalled T newId initId) (hct:checkTypeCall T ⟨args,[]⟩=pure ())
 (h:wpC (model prog w) A (call (.builtin newId) (.type T::args)) (fun a a=>False) E s):wpC (model prog w) A (Builtin.«type.__call__» ⟨.type T::args,[]⟩) Q E s:=by
 refine ft.mro.elim fun c h1=>h1.elim fun tl hmro=>?_
 unfold Builtin.«type.__call__»
 refine fO (fun e=>nomatch ft.notType.symm.trans e) ?_
 refine fO (fun e=>nomatch ft.canCreate.symm.trans e) ?_
 refine iR hct (iR hmro (fO (fun e=>nomatch e) (iR ft.made (aK (wpAny_pure ?_)))))
 exact bj (dR (bx h (fun a a x=>x.elim) fun a a x=>x))
theorem bad16C {x:Str} {u:Tok} {text:List Nat} {Q:Value→Shared→Prop} (hs:(text.takeWhile (· != 0)).length≤640) (hr:(int_private% "readNumeral") 0 16 (text.takeWhile (· != 0))=(int_private% "Numeral.invalid")) (hlen:(reprText x).length≤sizeLine) (hh:A.handled=none)
 (q:∀ h' t e args,Heap.MadeExc s.heap h' e "ValueError" args→E (.ref e) { s with heap:=h',toks:=t }):wpC (model prog w) A ((int_private% "intFromText") (.str x u) text 16) Q E s:=by
 show wpC (model prog w) A (if (text.takeWhile (· != 0)).length≤640 then _ else _) Q E s
 rw [if_pos hs]
 simp only [pure_bind]
 rw [hr]
 dsimp only
 rw [show ((int_private% "bytesOf?") (.str x u))=pure none from rfl]
 simp only [pure_bind,Option.isSome_none,Bool.false_and,Bool.false_eq_true,if_false]
 refine aK (wpAny_rule ?_)
 refine aK (wpAny_pyRepr_str ?_ hlen)
 refine aK (wpAny_mkStr ?_ ?_)
 · refine aK (wpAny_newExc_plain plainExc_ValueError (fun h' e M=>?_))
   refine bj (vW (ed (wpAny_raiseNew_none hh ?_)))
   exact q h' _ e _ M
 · have h1:(Str.ofString (toString "invalid literal for int() with base " ++ toString 16++toString ": ")).length≤100:=by decide +kernel
   have h2:((reprText x).cps.extract 0 200).size≤200:=by simp;omega
   have h3:∀ a b:Str,(a++b).length=a.length+b.length:=fun a b=>by
    show (a.cps++b.cps).size=_
    simp [Str.length]
   have h4:(({ cps:=(reprText x).cps.extract 0 200 }:Str)).length≤200:=h2
   rw [h3,sizeLine_eq]
   omega
theorem newC {x:Str} {u v:Tok} {Q:Fin→Shared→Prop} (hs:(numSeenOf x).length≤640) (hr:(int_private% "readNumeral") 0 16 (numSeenOf x)=(int_private% "Numeral.invalid")) (hlen:(reprText x).length≤sizeLine) (hh:A.handled=none)
 (q:∀ h' t e args,Heap.MadeExc s.heap h' e "ValueError" args→E (.ref e) { s with heap:=h',toks:=t }):wpC (model prog w) A (Builtin.«int.__new__» ⟨[.type "int",.str x u,.int 16 v],[]⟩) Q E s:=by
 unfold Builtin.«int.__new__»
 refine iR (m:=isType (.type "int")) (a:=true) rfl (fO (by decide) ?_)
 refine iR (m:=isSubtype (.type "int") (.type "int")) F.conv_sub_int (fO (by decide) ?_)
 refine iR F.madeHere_int (fO (fun e=>nomatch (show false=true from e)) (fO (Nat.lt_irrefl 2) (iR List.forIn_nil ?_)))
 show wpC _ _ (Builtin.Int.intIndex "int.__new__" (.int 16 v)>>=_) _ _ _
 refine aK ?_
 have f3:=KIN.str_int
 have f4:=KIN.str_idx
 have f5:=KIN.str_trunc
 have f6:typeOf (.str x u)=pure (.type "str"):=rfl
 repeat (any_goals (first | assumption | wp_step))
 rw [if_neg (by decide)]
 rw [show ((int_private% "numeralText?") (.str x u))=pure (some (numTextOf x)) from rfl]
 simp only [pure_bind]
 exact bj (bad16C (text:=numTextOf x) hs hr hlen hh q)
theorem s0 {x:Str} {u v:Tok} {Q:Value→Shared→Prop} (hs:(numSeenOf x).length≤640) (hr:(int_private% "readNumeral") 0 16 (numSeenOf x)=(int_private% "Numeral.invalid")) (hlen:(reprText x).length≤sizeLine) (hh:A.handled=none)
 (q:∀ h' t e args,Heap.MadeExc s.heap h' e "ValueError" args→E (.ref e) { s with heap:=h',toks:=t }):wpC (model prog w) A (call (.type "int") [.str x u,.int 16 v]) Q E s:=by
 refine lF (dM ?_)
 show wpC _ _ (callAny (.type "int") _) _ _ _
 refine bw ⟨Code.quiet_builtin _ (by decide +kernel),ru F.entry_type_call ?_⟩
 refine uS F.called_int (gI _ _) ?_
 refine lF (pN F.called_int.plain F.entry_int_new (iE _ _) ?_)
 exact newC hs hr hlen hh q
end
end
section
open PySem PySem.W PyProof.Rows
open Sem (wp)
def wpM {α:Type} (m:Bool) (M:Model) (A:Around) (t:Sem α) (Q:α→Shared→Prop) (E:Value→Shared→Prop) (s:Shared):Prop:=cond m (wpC M A t Q E s) (wpAny M A t Q E s)
def rq (m:Bool) (M:Model) (A:Around) (c:Code) (R:Result→Shared→Prop) (s:Shared):Prop:=cond m (d0 M A c R s) (codeAny M A c R s)
section
variable {m:Bool} {α β:Type} {M:Model} {prog:Program} {w:World} {A:Around} {E:Value→Shared→Prop} {R:Result→Shared→Prop} {s:Shared} {env:Env} {e l r x:Expr} {pos p1:Pos} {name:Str}
theorem dj {t:Sem α} {Q:α→Shared→Prop} (h:wpAny M A t Q E s):wpM m M A t Q E s:=match m with | true=>ed h | false=>h
theorem wpM_up {t:Sem α} {Q:α→Shared→Prop} (h:wpM false M A t Q E s):wpM m M A t Q E s:=dj h
theorem pY {t:Sem α} {Q Q':α→Shared→Prop} {E':Value→Shared→Prop} (h:wpM m M A t Q E s) (hQ:∀ a s,Q a s→Q' a s) (hE:∀ e s,E e s→E' e s):wpM m M A t Q' E' s:=match m,h with | true,h=>bx h hQ hE | false,h=>wpAny_mono h hQ hE
theorem gG {t:Sem α} {f:α→Sem β} {Q:β→Shared→Prop} (h:wpM m M A t (fun a s'=>wpM m M A (f a) Q E s') E s):wpM m M A (t>>=f) Q E s:=match m,h with | true,h=>bj h | false,h=>wpAny_bind h
theorem ez {t:Sem α} {f:α→Sem β} {Q:β→Shared→Prop} (h:wpAny M A t (fun a s'=>wpM m M A (f a) Q E s') E s):wpM m M A (t>>=f) Q E s:=gG (dj h)
theorem pZ {vs:List Value} {t:Sem α} {Q:α→Shared→Prop} (h:wpM m M A t Q E s):wpM m M A (holding vs t) Q E s:=match m,h with | true,h=>dR h | false,h=>wpAny_holding h
theorem vV {f:Value} {args:List Value} {kw:List (Str×Value)} {Q:Value→Shared→Prop} (hc:rq m M A (.call f ⟨args,kw⟩) (fun r s'=>match r with | .ok (.ret v)=>Q v s' | .ok _=>False | .error e=>E e s') s):wpM m M A (call f args kw) Q E s:=match m,hc with | true,h=>lF h | false,h=>wpAny_call h
theorem qY {st:Stmt} {rest:List Stmt} {Q:Flow→Shared→Prop} (h:wpM m M A (exec st env) (fun f s'=>match f with | .next=>wpM m M A (execs rest env) Q E s' | f=>Q f s') E s):wpM m M A (execs (st::rest) env) Q E s:=match m,h with | true,h=>qZ h | false,h=>wpAny_execs_cons h
theorem ifM {body orelse:List Stmt} {Q:Flow→Shared→Prop} (h:wpM m M A (isTrue e env (eval e env)) (fun b s2=>if b then wpM m M A (execs body env) Q E s2 else wpM m M A (execs orelse env) Q E s2) E s):wpM m M A (exec (.If e body orelse pos) env) Q E s:=match m,h with | true,h=>ifC h | false,h=>wpAny_If h
theorem retM {Q:Flow→Shared→Prop} (h:wpM m M A (eval e env) (fun v=>Q (.ret v)) E s):wpM m M A (exec (.Return (some e) pos) env) Q E s:=match m,h with
 | true,h=>fun Γ p hΓ hk=>by simp only [exec_Return_some,Sem.wp_bind',Sem.wp_cmd_standAt,Sem.wp_pure'];exact h Γ _ hΓ hk
 | false,h=>wpAny_Return_some h
theorem exprM {Q:Flow→Shared→Prop} (h:wpM m (model prog w) A (eval e env) (fun a=>Q .next) E s) (hi:interactive env=false) (hs:swapsWith e none pos.line env=pure false):wpM m (model prog w) A (exec (.Expr e pos) env) Q E s:=by
 rw [exec_Expr env e pos hi hs]
 exact ez (wpAny_standAt (gG (pY h (fun v s' h'=>dj (wpAny_dropValue h')) fun a a x=>x)))
theorem assignM {y:Str} {Q:Flow→Shared→Prop} (h:wpM m M A (eval e env) (fun v s1=>wpAny M A (storeName env y v) (fun a=>Q .next) E s1) E s) (hs:swapsWith e (some (.Name y p1)) pos.line env=pure false):wpM m M A (exec (.Assign [.Name y p1] e pos) env) Q E s:=match m,h with | true,h=>assignC h hs | false,h=>wpAny_Assign_Name h hs
theorem notM {whole:Sem Value} {Q:Bool→Shared→Prop} (h:wpM m M A (isTrue x env (eval x env)) (fun c s'=>Q (!c) s') E s):wpM m M A (isTrue (.UnaryOp .Not x pos) env whole) Q E s:=match m,h with | true,h=>notC h | false,h=>isTrue_not h
theorem andM {rest:List Expr} {whole:Sem Value} {Q:Bool→Shared→Prop} (h:wpM m M A (isTrue x env (eval x env)) (fun c s'=>if c then wpM m M A (isTrue (.BoolOp .And rest pos) env whole) Q E s' else Q false s') E s):wpM m M A (isTrue (.BoolOp .And (x::rest) pos) env whole) Q E s:=match m,h with | true,h=>andC h | false,h=>isTrue_and h
theorem orM {rest:List Expr} {whole:Sem Value} {Q:Bool→Shared→Prop} (h:wpM m M A (isTrue x env (eval x env)) (fun c s'=>if c then Q true s' else wpM m M A (isTrue (.BoolOp .Or rest pos) env whole) Q E s') E s):wpM m M A (isTrue (.BoolOp .Or (x::rest) pos) env whole) Q E s:=match m,h with | true,h=>orC h | false,h=>isTrue_or h
theorem zq {op:CmpOp} {whole:Sem Value} {Q:Bool→Shared→Prop} (h:wpM m M A (eval l env) (fun a s1=>wpAny M A (eval r env) (fun b s2=>wpAny M A (compareOp op a b) (fun c s3=>wpAny M A (truthy c) Q E s3) E s2) E s1) E s) (hm:behindInMarks op r=false):wpM m M A (isTrue (.Compare l [op] [r] pos) env whole) Q E s:=match m,h with | true,h=>zr h hm | false,h=>wpAny_isTrue_Compare1 h hm
theorem cmpM {op:CmpOp} {Q:Value→Shared→Prop} (h:wpM m M A (eval l env) (fun a s1=>wpAny M A (eval r env) (fun b s2=>wpAny M A (compareOp op a b) Q E s2) E s1) E s) (hm:behindInMarks op r=false):wpM m M A (eval (.Compare l [op] [r] pos) env) Q E s:=match m,h with
 | true,h=>fun Γ p hΓ hk=>by
  simp only [eval_Compare1,markedBehindIn_of_false hm,Sem.wp_bind',Sem.wp_holding,Sem.wp_cmd_standAt,Sem.wp_operate]
  exact Sem.wp_mono M Γ _ (fun a p1 s1 h1=>Sem.wp_mono M Γ _ (fun b c s2 h2=>h2 Γ _ hΓ) (fun c c c h'=>h') _ _ (h1 Γ p1 hΓ)) (fun c c c h'=>h') _ _ (h Γ p hΓ hk)
 | false,h=>wpAny_Compare1 h hm
theorem attrM {Q:Value→Shared→Prop} (h:wpM m (model prog w) A (eval e env) (fun o s1=>wpAny (model prog w) A (getAttr o name true) Q E s1) E s)
 (he:eval (.Attribute e name pos) env=(do
  let o ← eval e env
  standAt pos.atName
  let r ← holding [o] (getAttr o name true)
  letTemporaryGo e o r
  pure r)):wpM m (model prog w) A (eval (.Attribute e name pos) env) Q E s:=by
 rw [he]
 exact gG (pY h (fun o s1 h1=>dj (wpAny_bind (wpAny_standAt (wpAny_bind (wpAny_holding (wpAny_mono h1 (fun r s2 h2=>wpAny_bind (wpAny_letTemporaryGo (wpAny_pure h2))) fun a a x=>x)))))) fun a a x=>x)
theorem forM {target:Expr} {body orelse:List Stmt} {Q:Flow→Shared→Prop}
 (h:wpAny M A (eval x env) (fun x s1=>wpAny M A (pyIter x) (fun it s2=>rq m M A (.forLoop target it body orelse env) (fun r s'=>match r with | .ok f=>Q f s' | .error e=>cameBackBy M A env E e s') s2) E s1) E s)
 (hs:∀ v,foldedSetIterable x env v=pure v):wpM m M A (exec (.For target x body orelse pos) env) Q E s:=match m,h with | true,h=>forC h hs | false,h=>wpAny_For h hs
theorem yr {target:Expr} {it:Value} {body:List Stmt} (I:Nat→Shared→Prop)
 (turn:∀ n s,I n s→wpAny (model prog w) A (pyNext it) (fun r s1=>match r with
  | none=>wpAny (model prog w) A (execs [] env) (fun f s3=>R (.ok f) s3) (notedBy (model prog w) A env fun e s'=>R (.error e) s') s1
  | some v=>wpAny (model prog w) A (letOwnedTupleGo target it v) (fun a s1' =>
   wpAny (model prog w) A (assign target env v) (fun a s2=>wpM m (model prog w) A (execs body env) (fun f s3=>match f with
    | .next | .cont=>∃ m,m<n∧I m s3
    | .brk=>R (.ok .next) s3
    | .ret v=>R (.ok (.ret v)) s3) (notedBy (model prog w) A env fun e s'=>R (.error e) s') s2) (notedBy (model prog w) A env fun e s'=>R (.error e) s') s1') (notedBy (model prog w) A env fun e s'=>R (.error e) s') s1) (notedBy (model prog w) A env fun e s'=>R (.error e) s') s)
 (n:Nat) (h:I n s):rq m (model prog w) A (.forLoop target it body [] env) R s:=match m,turn with | true,turn=>yt I turn n h | false,turn=>codeAny_forLoop_any I turn n h
theorem vK {P:Heap→Prop} {f:Value} {first:List Value} {args:List (Bool×Sem Value)} {keywords:List (Option Str×Sem Value)} {Q:Value→Shared→Prop} (hplain:(args.any (·.1)||keywords.any (·.1.isNone))=false)
 (hk:∀ h,P h→∃ k,(k=Keeper.frame∨k=Keeper.machine∨k=Keeper.boundFrame)∧Looks M h (keeperOf f) k)
 (h:wpAny M A (evalArgs f true args keywords) (fun a s1=>P s1.heap∧wpM m M A (call f (first++a.pos) a.kw) Q E s1) E s):wpM m M A (callWith pos f first args keywords) Q E s:=match m,h with | true,h=>vL hplain hk h | false,h=>callWith_of hplain hk h
theorem tryM {body:List Stmt} {h₀:ExceptHandler} {hs:List ExceptHandler} {Q:Flow→Shared→Prop}
 (h:wpM m (model prog w) A (execs body env) (fun f s1=>match f with | .next=>wpAny (model prog w) A (execs [] env) Q E s1 | f=>Q f s1)
  (fun e s1=>wpAny (model prog w) A (noteFrame e env) (fun a s2=>wpAny (model prog w) A (setFlight e none) (fun a s3=>wpAny (model prog w) A (handleBy e env (h₀::hs)) Q E s3) E s2) E s1) s) :
 wpM m (model prog w) A (exec (.Try body (h₀::hs) [] [] pos) env) Q E s:=match m,h with | true,h=>tryC h | false,h=>wpAny_Try_except h
theorem sY {a:Addr} {o:Obj} {fd:FuncData} {body:List Stmt} {vals:List Value} {binds:List (Str×Value)}
 (hroom:A.depth<recursionLimit) (ho:s.heap.get? a=some o) (hdata:o.data=.func fd) (hlim:s.heap.NoLimit) (hcd:s.heap.CodeRec fd.code fd.qualname)
 (hbody:fd.body=.stmts body) (hbind:bindArgs fd ⟨vals,[]⟩=pure binds) (hclo:fd.closure=[])
 (hkind:∀ x∈binds,fd.scope.names.lookup x.1=some .local∨(fd.scope.names.lookup x.1=some .cell∧((cellsFrom (s.heap.objs.size+1) fd.scope.names []).lookup x.1).isSome=true))
 (h:∀ s1,InCallC s (callEnvC fd s.heap.objs.size a).locals (bindL (callEnvC fd s.heap.objs.size a).kindOf binds fun b=>none) (callEnvC fd s.heap.objs.size a).cells
  (bindC (callEnvC fd s.heap.objs.size a).kindOf binds fun b=>none) s1 →
  wpM m (model prog w) (A.deeper (callEnvC fd s.heap.objs.size a)) (execs body (callEnvC fd s.heap.objs.size a)) (fun f s'=>R (.ok (.ret (match f with | .ret v=>v | _=>.none))) s')
   (fun e s'=>wpAny (model prog w) (A.deeper (callEnvC fd s.heap.objs.size a)) (leaving (callEnvC fd s.heap.objs.size a) e) (fun b s2=>R (.error e) s2) (fun e' s2=>R (.error e') s2) s') s1)
 (hco:fd.scope.isCoroutine=false) (hgen:fd.scope.isGenerator=false) (hk:fd.scope.kind=.function):rq m (model prog w) A (.call (.ref a) ⟨vals,[]⟩) R s :=
 match m,h with | true,h=>sZ hroom ho hdata hlim hcd hbody hbind hclo hkind h hco hgen hk | false,h=>codeAny_call_cells hroom ho hdata hlim hcd hbody hbind hclo hkind h hco hgen hk
end
end
section
open PySem PySem.W PyProof.Rows PySem.SeqAt
open Sem (wp)
noncomputable abbrev DU (α:Type):=St→Option (Option α×St)
noncomputable def qx {α:Type} (d:St→Option (α×St)):DU α:=fun σ=>(d σ).map fun q=>(some q.1,q.2)
noncomputable def fL {α β:Type} (d:DU α) (f:α→DU β):DU β:=fun σ=>(d σ).bind fun q=>q.1.elim (some (none,q.2)) fun a=>f a q.2
abbrev SpU:=List V→Wt→Option (Option V×Wt)
noncomputable def pureSp (sp:Sp):SpU:=fun vs w=>(sp vs w).map fun q=>(some q.1,q.2)
def dseqU (d r:DU Fl):DU Fl:=fun σ=>(d σ).bind fun q=>match q.1 with
 | some .nxt=>r q.2
 | f=>some (f,q.2)
def rn (i:Nat) (d:DU V):DU Fl:=fL d fun v σ=>some (some .nxt,σ.set i v)
def difU (t:DU Bool) (a b:DU Fl):DU Fl:=fL t fun x σ=>if x then a σ else b σ
def dretU (d:DU V):DU Fl:=fL d fun v σ=>some (some (.ret v),σ)
def dnotU (d:DU Bool):DU Bool:=fL d fun b σ=>some (some (!b),σ)
def dandU (d e:DU Bool):DU Bool:=fL d fun b σ=>if b then e σ else some (some false,σ)
def dorU (d e:DU Bool):DU Bool:=fL d fun b σ=>if b then some (some true,σ) else e σ
def dtruU (d:DU V):DU Bool:=fL d fun v σ=>(tru v).map fun b=>(some b,σ)
def zd (op:CmpOp) (da:DU V) (db:DE):DU Bool:=fL da fun a σ=>(db σ).bind fun r=>(cop op a r.1).map fun v=>(some v,r.2)
def dcmpU (op:CmpOp) (da:DU V) (db:DE):DU V:=fL da fun a σ=>(db σ).bind fun r=>(cop op a r.1).map fun v=>(some (.bool v),r.2)
def yE (ds:List DE):DU Fl:=fun σ=>(bY ds σ).bind fun q=>if q.1.length≤LIM then some (none,q.2) else none
def dexprU (d:DU V):DU Fl:=fL d fun a σ=>some (some .nxt,σ)
def zj (C:Addr) (name:Str) (d:DU V):DU V:=fL d fun u σ=>(zk C name (dk u) σ).map fun q=>(some q.1,q.2)
structure j3 {Z:aE} (M:Now Z) (S:Option Value→Prop) (Q:St→Prop) where
 e:Addr
 st:Option Value
 N:Now Z
 le:M.P.le N.P
 exc:cN Z.A N.P N.s.heap e st
 fresh:S st
 q:Q N.σ
noncomputable def j3.up {Z:aE} {M M':Now Z} {S:Option Value→Prop} {Q:St→Prop} (b:j3 M' S Q) (l:M.P.le M'.P):j3 M S Q:=⟨b.e,b.st,b.N,l.trans b.le,b.exc,b.fresh,b.q⟩
structure FrC (g:Gx) (c:SC) (k:Nat) (Z:aE):Prop where
 F:Fr g c k Z
 fk:∃ outer,Fk Z outer
abbrev s7 {Z:aE} (N:Now Z):=j3 N (Ae Z.env.locals)
def eZ (m:Bool) (g:Gx) (c:SC) (k:Nat) (e:Expr) (d:DU V):Prop :=
 ∀ {Z:aE} (F:FrC g c k Z) (N:Now Z) {Q:Option V→St→Prop} {K E:Value→Shared→Prop},Ok2 (d N.σ) Q→(∀ r:Res N fun v=>Q (some v),K r.x r.N.s)→(∀ r:s7 N (Q none),E (.ref r.e) r.N.s)→wpM m (model g.prog g.w) Z.Ar (eval e Z.env) K E N.s
def d9 (m:Bool) (g:Gx) (c:SC) (k:Nat) (e:Expr) (d:DU Bool):Prop :=
 ∀ {Z:aE} (F:FrC g c k Z) (N:Now Z) {Q:Option Bool→St→Prop} {K:Bool→Shared→Prop} {E:Value→Shared→Prop},Ok2 (d N.σ) Q→(∀ r:li N fun v=>Q (some v),K r.b r.N.s)→(∀ r:s7 N (Q none),E (.ref r.e) r.N.s)→wpM m (model g.prog g.w) Z.Ar (isTrue e Z.env (eval e Z.env)) K E N.s
def lb (m:Bool) (g:Gx) (c:SC) (k:Nat) (st:Stmt) (d:DU Fl):Prop :=
 ∀ {Z:aE} (F:FrC g c k Z) (N:Now Z) {Q:Option Fl→St→Prop} {K:Flow→Shared→Prop} {E:Value→Shared→Prop},Ok2 (d N.σ) Q→(∀ r:fq N fun v=>Q (some v),K r.x r.N.s)→(∀ r:s7 N (Q none),E (.ref r.e) r.N.s)→wpM m (model g.prog g.w) Z.Ar (exec st Z.env) K E N.s
def dF (m:Bool) (g:Gx) (c:SC) (k:Nat) (b:List Stmt) (d:DU Fl):Prop :=
 ∀ {Z:aE} (F:FrC g c k Z) (N:Now Z) {Q:Option Fl→St→Prop} {K:Flow→Shared→Prop} {E:Value→Shared→Prop},Ok2 (d N.σ) Q→(∀ r:fq N fun v=>Q (some v),K r.x r.N.s)→(∀ r:s7 N (Q none),E (.ref r.e) r.N.s)→wpM m (model g.prog g.w) Z.Ar (execs b Z.env) K E N.s
section
variable {m:Bool} {Z:aE} {N:Now Z} {g:Gx} {c:SC} {k i:Nat} {e l r:Expr} {a b:List Stmt} {st:Stmt} {d:DU V} {dt du:DU Bool} {sa sb:DU Fl} {db:DE} {x name:Str} {p1 pos:Pos} {C:Addr} {K:Frag} {M:Model} {prog:Program} {w:World} {A:Around} {E:Value→Shared→Prop} {s:Shared} {env:Env}
theorem uU {α β:Type} {d:DU α} {f:α→DU β} {σ:St} {Q:Option β→St→Prop} (h:Ok2 (fL d f σ) Q):Ok2 (d σ) fun r s=>r.elim (Q none s) fun a=>Ok2 (f a s) Q:=(ub h).imp fun r s h=>match r,h with
 | some _,h=>h
 | none,h=>u2 (Q:=Q) h
theorem ak.cc {d:DE} (H:ak g c k e d):eZ m g c k e (qx d):=fun F N a a a h q a=>dj (H F.F N (um2 h) q)
theorem bW.cc {d:DT} (H:bW g c k e d):d9 m g c k e (qx d):=fun F N a a a h q a=>dj (H F.F N (um2 h) q)
theorem cO.cc {d:DS} (H:cO g c k st d):lb m g c k st (qx d):=fun F N a a a h q a=>dj (H F.F N (um2 h) q)
theorem bO.cc {d:DS} (H:bO g c k a d):dF m g c k a (qx d):=fun F N b b b h q b=>dj (H F.F N (um2 h) q)
theorem dL (H:lb m g c k st sa) (Hr:dF m g c k a sb):dF m g c k (st::a) (dseqU sa sb) :=
 fun F N Q K E h q qe=>qY (H F N (ub h) (fun r=>r.elim (C:=fun f=>match f with | .next=>wpM m _ _ (execs a _) K E r.N.s | f=>K f r.N.s)
  (fun h=>Hr F r.N h (fun y=>q (y.up r.le)) fun y=>qe (y.up r.le)) (fun h=>q ⟨.cont,.cont,r.N,r.le,rfl,u2 h⟩) (fun h=>q ⟨.brk,.brk,r.N,r.le,rfl,u2 h⟩) fun v y hy h=>q ⟨.ret v,.ret y,r.N,r.le,⟨y,rfl,hy⟩,u2 h⟩) fun r=>qe ⟨r.e,r.st,r.N,r.le,r.exc,r.fresh,u2 r.q⟩)
theorem lC (ht:d9 m g c k e dt) (ha:dF m g c k a sa) (hb:dF m g c k b sb):lb m g c k (.If e a b pos) (difU dt sa sb) :=
 fun F N Q K E h q qe=>ifM (ht F N (uU h) (fun z=>mt (C:=fun b'=>if b' then wpM m _ _ _ K E z.N.s else wpM m _ _ _ K E z.N.s) z.q (fun h=>ha F z.N h (fun y=>q (y.up z.le.P)) fun y=>qe (y.up z.le.P)) fun h=>hb F z.N h (fun y=>q (y.up z.le.P)) fun y=>qe (y.up z.le.P)) qe)
theorem za (H:eZ m g c k e d):lb m g c k (.Return (some e) pos) (dretU d) :=
 fun F N Q K E h q qe=>retM (H F N (uU h) (fun y=>q ⟨.ret y.v,.ret y.x,y.N,y.le.P,⟨_,rfl,y.rel⟩,u2 y.q⟩) qe)
theorem gV (H:eZ m g c k e d) (hk:c.kind x=some .local∨c.kind x=some .cell) (hs:c.slot x=some i) (hw:∀ env,swapsWith e (some (.Name x p1)) pos.line env=pure false):lb m g c k (.Assign [.Name x p1] e pos) (rn i d) :=
 fun F N Q K E h q qe=>assignM (H F N (uU h) (fun y=>fw F.F.X hk hs y.rel (u2 y.q:Q (some .nxt) _) fun M l hT=>q ⟨.nxt,.next,M,y.le.P.trans l.P,rfl,hT⟩) qe) (hw _)
theorem od (H:d9 m g c k e dt):d9 m g c k (.UnaryOp .Not e pos) (dnotU dt) :=
 fun F N Q K E h q qe=>notM (H F N (uU h) (fun z=>q ⟨!z.b,z.N,z.le,u2 z.q⟩) qe)
theorem sN (H:d9 m g c k e dt):d9 m g c k (.BoolOp .And [e] pos) dt :=
 fun F N Q K E h q qe=>andM (H F N h (fun z=>match z with | ⟨true,M,l,hq⟩=>dj (isTrue_and_nil (q ⟨true,M,l,hq⟩)) | ⟨false,M,l,hq⟩=>q ⟨false,M,l,hq⟩) qe)
theorem n9 (H:d9 m g c k e dt):d9 m g c k (.BoolOp .Or [e] pos) dt :=
 fun F N Q K E h q qe=>orM (H F N h (fun z=>match z with | ⟨true,M,l,hq⟩=>q ⟨true,M,l,hq⟩ | ⟨false,M,l,hq⟩=>dj (isTrue_or_nil (q ⟨false,M,l,hq⟩))) qe)
theorem vD {f:Expr} {es:List Expr} (H:d9 m g c k e dt) (Hr:d9 m g c k (.BoolOp .And (f::es) pos) du):d9 m g c k (.BoolOp .And (e::f::es) pos) (dandU dt du) :=
 fun F N Q K E h q qe=>andM (H F N (uU h) (fun z=>mt (C:=fun b'=>if b' then wpM m _ _ _ K E z.N.s else K false z.N.s) z.q (fun h=>Hr F z.N h (fun y=>q (y.up z.le)) fun y=>qe (y.up z.le.P)) fun h=>q ⟨false,z.N,z.le,u2 h⟩) qe)
theorem rm {f:Expr} {es:List Expr} (H:d9 m g c k e dt) (Hr:d9 m g c k (.BoolOp .Or (f::es) pos) du):d9 m g c k (.BoolOp .Or (e::f::es) pos) (dorU dt du) :=
 fun F N Q K E h q qe=>orM (H F N (uU h) (fun z=>mt (C:=fun b'=>if b' then K true z.N.s else wpM m _ _ _ K E z.N.s) z.q (fun h=>q ⟨true,z.N,z.le,u2 h⟩) fun h=>Hr F z.N h (fun y=>q (y.up z.le)) fun y=>qe (y.up z.le.P)) qe)
theorem ku (H:eZ m g c k e d) (he:∀ env whole,isTrue e env whole=(do let v ← whole;standAt e.pos;holding [v] (truthy v))):d9 m g c k e (dtruU d):=by
 intro Z F N Q K E h q qe
 rw [he]
 exact gG (H F N (uU h) (fun y=>ez (wpAny_standAt (dj (wpAny_holding (ot (um y.q) y.rel fun b t hb=>q ⟨b,y.N.toks t,y.le.trans Now.toks_le,hb⟩))))) qe)
theorem vB {op:CmpOp} (ha:eZ m g c k l d) (hb:ak g c k r db) (hm:behindInMarks op r=false):d9 m g c k (.Compare l [op] [r] pos) (zd op d db) :=
 fun F N Q K E h q qe=>zq (ha F N (uU h) (fun y=>hb F.F y.N (ub y.q) fun z=>kx F.F.R.u3 (um z.q) (y.rel.up z.le.P) z.rel fun v hv=>wpAny_truthy_bool (q ⟨v,z.N,y.le.trans z.le,hv⟩)) qe) hm
theorem zb {op:CmpOp} (ha:eZ m g c k l d) (hb:ak g c k r db) (hm:behindInMarks op r=false):eZ m g c k (.Compare l [op] [r] pos) (dcmpU op d db) :=
 fun F N Q K E h q qe=>cmpM (ha F N (uU h) (fun y=>hb F.F y.N (ub y.q) fun z=>kx F.F.R.u3 (um z.q) (y.rel.up z.le.P) z.rel fun v hv=>q ⟨.bool v,_,z.N,y.le.trans z.le,ei _,hv⟩) qe) hm
theorem attr_go {Ar:Around} {v:V} {y:Value} {K':Value→Shared→Prop} {Q:V→St→Prop} (B:ec g Z.A) (KI:K.In g.h0) (T:hV K C name) (h:Ok2 ((asO v).bind fun w=>if w.1=C then (w.2.lookup name).bind fun v=>if kM v=true then some (v,N.σ) else none else none) Q) (hy:ao N.P v y) (q:∀ r:Res N Q,K' r.x r.N.s):wpAny (model g.prog g.w) Ar (getAttr y name true) K' E N.s :=
 (uv h).elim fun w h=>have h1:=uib h.2;(uv h1.2).elim fun v h2=>have h3:=ui h2.2
  jk (C:=fun x=>wpAny _ _ (getAttr x name true) K' E N.s) (hy.as (nr h.1)) fun a dx es q1 q2 q3=>q2.elim fun n q2=>(q3.getL h2.1).elim fun z h5=>T.find.elim fun attr ha =>
   get_value (fun b o e=>N.base B (KI b o e)) (show InstAt N.s.heap a (instObj C dx) C (some (dictOf es n)) from ⟨N.I.pin _ _ (q1.trans (congrArg (fun c=>some (instObj c dx)) h1.1)),rfl,rfl,N.I.pin _ _ q2⟩) (plainGet_of T.get).1 (findObj_own T.dict ha.1 ha.2 h5.1) (kj h3.1 h5.2) (q ⟨v,z,N.toks (N.s.toks+1),Now.toks_le,h5.2,h3.2⟩)
theorem vC (KI:K.In g.h0) (T:hV K C name) (H:eZ m g c k e d)
 (he:∀ env,eval (.Attribute e name pos) env=(do
  let o ← eval e env
  standAt pos.atName
  let r ← holding [o] (getAttr o name true)
  letTemporaryGo e o r
  pure r)):eZ m g c k (.Attribute e name pos) (zj C name d) :=
 fun F N Q K' E h q qe=>attrM (H F N (uU h) (fun y=>attr_go (Q:=fun v=>Q (some v)) F.F.B KI T (um2 y.q) y.rel fun r=>q (r.up y.le)) qe) (he _)
end
noncomputable def eg (asg:DG) (b:DU Fl):List V→DU Fl
 | [],σ=>some (some .nxt,σ)
 | v::r,σ=>(asg v σ).bind fun σ1=>(b σ1).bind fun q=>match q.1 with
  | some .nxt=>eg asg b r q.2
  | some .cont=>eg asg b r q.2
  | some .brk=>some (some .nxt,q.2)
  | some (.ret u)=>some (some (.ret u),q.2)
  | none=>some (none,q.2)
def dforU (di:DI) (asg:DG) (b:DU Fl):DU Fl:=fun σ=>(di σ).bind fun q=>eg asg b q.1 q.2
noncomputable def cU (sp:SpU) (vs:List V) (σ:St):Option (Option V×St):=(sp vs σ.w).map fun r=>(r.1,{ σ with w:=r.2 })
def iI (names:aq) (params:List Str) (d:DU Fl):SpU:=fun vs w =>
 if vs.length=params.length then (d ⟨fB (bv (params.zip vs) (fun a=>none)) names,w⟩).bind fun r=>r.1.elim (some (none,r.2.w)) fun f=>(ue f).map fun v=>(some v,r.2.w) else none
def pC (a:Addr) (sp:SpU) (d:DE) (ds:List DE):DU V:=fun σ=>(d σ).bind fun q=>(asA q.1).bind fun b=>if b=a then (bY ds q.2).bind fun r=>cU sp r.1 r.2 else none
def pf (C:Addr) (name:Str) (sp:SpU) (d:DE) (ds:List DE):DU V:=fun σ=>(d σ).bind fun q=>(asO q.1).bind fun w=>if w.1=C∧w.2.lookup name=none then (bY ds q.2).bind fun r=>cU sp (q.1::r.1) r.2 else none
noncomputable def dtryU (d:DU Fl) (b:Bool):DU Fl:=fun σ=>(d σ).map fun q=>(some (q.1.getD (.ret (.bool b))),q.2)
structure FrOk {Z:aE} (N:Now Z) (L:Addr):Prop where
 dict:∃ o es ep,N.s.heap.get? L=some o∧o.data=.dict es ep
 m:N.P.m L=none
 wa:N.P.wa≠some L
 nt:NT N.P L
 hp:Z.A.hp L=none∨L∈Z.A.fr
 own:∀ i:Nat,N.own[i]?≠some (some L)
def gD {Z:aE} (N:Now Z) (l:List Env):Prop:=∀ e∈l,e.scope.kind≠.module∧∃ L,e.frame=some L∧FrOk N L
def hO (m:Bool) (g:Gx) (k:Nat) (a:Addr) (sp:SpU):Prop :=
 ∀ {Z:aE} (R:b5 Z.Ar k) (B:ec g Z.A) (N:Now Z) {l:List Env} (hl:Z.Ar.frames=some l) (hF:gD N l) {vs:List V} {xs:List Value} {Q:Option V→St→Prop} {K E:Value→Shared→Prop},
  VRels N.P vs xs→Ok2 (cU sp vs N.σ) Q→(∀ r:Res N fun v=>Q (some v),K r.x r.N.s)→(∀ r:j3 N (· = some .none) (Q none),E (.ref r.e) r.N.s)→wpM m (model g.prog g.w) Z.Ar (call (.ref a) xs) K E N.s
section
variable {m:Bool} {Z:aE} {N:Now Z} {g:Gx} {c:SC} {k i:Nat} {e f:Expr} {sa:DU Fl} {d:DE} {ds:List DE} {asg:DG} {di:DI} {t it:Expr} {body:List Stmt} {args:List Expr} {name:Str} {ap pos:Pos} {a C:Addr} {sp:SpU} {K:Frag} {outer:List Env} {M:Model} {E:Value→Shared→Prop} {I₀:Addr} {vs:List V} {l:List (Addr×Obj)} {Ar:Around}
theorem cN.map {A A':Act} {P P':Gh} {h:Heap} {e:Addr} {st:Option Value} (H:cN A P h e st) (m:∀ b o,h.get? b=some o→ce A P b→ce A' P' b):cN A' P' h e st :=
 H.rec (fun x1 x2=>.raw (m _ _ x2 x1) x2) fun x1 x2 x3 x4 x5 x6 x7 x8=>.fl (m _ _ x2 x1) x2 x3 x4 x5 (m _ _ x8 x6) x7 x8
theorem cN.typeIs {A:Act} {P:Gh} {s:Shared} {e:Addr} {st:Option Value} (H:cN A P s.heap e st):s.TypeIs (.ref e) "ValueError" := H.rec (fun a x2 x3 a a=>⟨_,x2,x3⟩) fun a x2 x3 a a a a a a a=>⟨_,x2,x3⟩
theorem wS {Q:St→Prop} (F:Fk Z outer) (r:s7 N Q) (q:∀ r:j3 N (· = some (rawInt Z.env.locals)) Q,E (.ref r.e) r.N.s):notedBy M Z.Ar Z.env E (.ref r.e) r.N.s :=
 lm F r.exc r.fresh fun N' f x=>q ⟨r.e,_,N',f.P▸r.le,x,rfl,f.σ▸r.q⟩
theorem came_of {Q:St→Prop} (F:Fk Z outer) (r:j3 N (· = some (rawInt Z.env.locals)) Q) (q:∀ r:s7 N Q,E (.ref r.e) r.N.s):cameBackBy M Ar Z.env E (.ref r.e) r.N.s:=by
 obtain ⟨e,st,N1,le,x,rfl,hq⟩:=r
 have x':=x
 cases x with
 | fl x1 x2 x3 x4 x5 x6 x7 x8 x9 x10 =>
 unfold cameBackBy
 refine wpAny_bind (wpAny_field x2 x4 x5 ?_)
 rw [if_neg (show ¬ (Value.ref _==Value.none)=true from fun h=>nomatch h)]
 exact ew x' Z.env.frame fun N' f x=>q ⟨e,_,N',f.P▸le,Eq.subst (motive:=fun z:Option Addr=>cN Z.A N'.P N'.s.heap e (some (z.elim .none fun f=>rawInt f))) F.own x,.inr (.inr rfl),f.σ▸hq⟩
theorem FrC.hold (F:FrC g c k Z):FrC g c k (Z.hold l):=⟨F.F.hold,F.fk.imp fun a F=>⟨F.st,F.fr,F.fun_,F.kind,F.own,F.pl⟩⟩
theorem j3.let {S:Option Value→Prop} {Q:St→Prop} (H:cn N l) (r:j3 (N.hold H) S Q) {C:Addr→Shared→Prop} (q:∀ r:j3 N S Q,C r.e r.N.s):C r.e r.N.s :=
 (Now.unhold H r.N r.le).elim fun M L=>L.s▸q ⟨r.e,r.st,M,L.P▸r.le,L.s▸L.P▸r.exc.map fun b o a F=>⟨F.1,F.2.1,aG fun o h=>aL (F.2.2.symm.trans (H.hpE h))⟩,r.fresh,L.σ▸r.q⟩
theorem qF {h':Heap} {e:Addr} {args:List Value} (N:Now Z) (W:Heap.MadeExc N.s.heap h' e "ValueError" args) (t:Nat) {S:Option Value→Prop} {Q:St→Prop} (hS:S none) (hQ:Q N.σ) {C:Addr→Shared→Prop} (q:∀ r:j3 N S Q,C r.e r.N.s):C e { N.s with heap:=h',toks:=t } :=
 W.there.elim fun tt m=>have f:=N.I.fresh W.new;q ⟨e,none,N.keeps t W.keeps,.refl _,.raw ⟨f.2.1,f.2.2,f.1⟩ m.1 rfl rfl rfl,hS,hQ⟩
theorem mQ {np cpos:Pos} {e₀:Expr} {rest:List Expr} (G:GOk g) (H:eK g c k (e₀::rest) ds) (hk:c.kind "ValueError" = some .globalImplicit) (hv:g.mg "ValueError" = none)
 (he:∀ env,starEach (e₀::rest) env=(false,eval e₀ env)::starEach rest env) (hplain:∀ env,(backTo cpos (starEach rest env)).any (·.1)=false) :
 lb m g c k (.Raise (some (.Call (.Name "ValueError" np) (e₀::rest) [] cpos)) none pos) (yE ds) :=
 fun F N Q K E h q qe=>dj (Raise_madeB PySem.F.excCall_ValueError PySem.F.excRaise_ValueError F.F.R.handled (Calls.Name_function_global F.F.X.fn ((F.F.X.kind _).trans hk) (Calls.loadGlobal_builtin (F.F.X.gl.symm▸G.ns.keeps fun a a=>N.base F.F.B) hv (F.F.X.bi.symm▸G.nb.keeps fun a a=>N.base F.F.B) ((G.boot "ValueError" (by decide +kernel)).trans Boot.«ValueError»)
  ⟨rfl,H F.F N (ub h) fun r=>⟨dp r.rel (ui r.q).1,fun h' e W=>qF r.N W r.N.s.toks (.inl rfl) (ui r.q).2 (C:=fun e s=>E (.ref e) s) fun y=>qe (y.up r.le.P)⟩⟩) (by decide +kernel)) (he _) (hplain _))
theorem fq.turnC {L N:Now Z} {f:Fl→St→Option (Option Fl×St)} {Q:Option Fl→St→Prop} (r:fq N fun a b=>Ok2 (f a b) Q) (le:L.P.le N.P) {I:Shared→Prop} {R:Result→Shared→Prop} (h1:f .cont=f .nxt) (h2:∀ s,f .brk s=some (some .nxt,s)) (h3:∀ v s,f (.ret v) s=some (some (.ret v),s))
 (q1:Ok2 (f .nxt r.N.σ) Q→I r.N.s) (q2:∀ r:fq L fun v=>Q (some v),R (.ok r.x) r.N.s):rB I R r.x r.N.s :=
 r.elim (C:=fun fl=>rB I R fl r.N.s) q1 (fun h=>q1 (h1▸h)) (fun h=>q2 ⟨.nxt,.next,r.N,le.trans r.le,rfl,u2 (h2 _▸h)⟩) fun v y hy h=>q2 ⟨.ret v,.ret y,r.N,le.trans r.le,⟨y,rfl,hy⟩,u2 (h3 _ _▸h)⟩
theorem vo (F:FrC g c k Z) (T:It g N I₀ vs) (Ht:gw g c k t asg) (Hb:dF m g c k body sa) {Q:Option Fl→St→Prop} {R₀:Result→Shared→Prop} (h:Ok2 (eg asg sa vs N.σ) Q) (q:∀ r:fq N fun v=>Q (some v),R₀ (.ok r.x) r.N.s) (qe:∀ r:j3 N (· = some (rawInt Z.env.locals)) (Q none),R₀ (.error (.ref r.e)) r.N.s) :
 rq m (model g.prog g.w) Z.Ar (.forLoop t (.ref I₀) body [] Z.env) R₀ N.s:=by
 refine yr (uP g N I₀ fun vs σ=>Ok2 (eg asg sa vs σ) Q) ?_ vs.length ⟨N,rfl,.refl _,vs,rfl,T,h⟩
 rintro n s ⟨M,rfl,le,vs,rfl,T,h⟩
 refine T.next F.F.R.handled (fun v r x M1 e eσ l rel T1 a=>?_) fun M1 e eσ l a=>?_
 · subst e
   have h1:=uv (eσ.symm▸h:Ok2 (eg asg sa (v::r) M1.σ) Q)
   obtain ⟨o,S,keep⟩:=T1.keep
   refine Ht.noop rel h1 T1.plain (Ht.hold (n3 S) F.F rel h1 fun M2 l2 h2 H2=>Hb F.hold (M2.hold H2) (ub h2) (fun z=>?_) fun z=>?_)
   · have h5:=z.let H2 (C:=rB (fun s=>∃ m,m<r.length+1∧uP g N I₀ (fun vs σ=>Ok2 (eg asg sa vs σ) Q) m s) R₀) fun z Hz=>z.turnC (le.trans (l.P.trans l2.P)) rfl (fun a=>rfl) (fun a a=>rfl)
      (fun h=>⟨r.length,Nat.lt_succ_self _,z.N,rfl,(le.trans (l.P.trans l2.P)).trans z.le,r,rfl,keep _ (l2.P.trans z.le) (Hz _ List.mem_cons_self),h⟩) q
     revert h5
     generalize z.x=fl
     cases fl<;>exact id
   · exact z.let H2 (C:=fun e s=>notedBy _ _ _ (fun e s'=>R₀ (.error e) s') (.ref e) s) fun z=>F.fk.elim fun a fk=>wS fk ⟨z.e,z.st,z.N,(le.trans (l.P.trans l2.P)).trans z.le,z.exc,z.fresh,u2 z.q⟩ qe
 · subst e
   exact wpAny_execs_nil (q ⟨.nxt,.next,M1,le.trans l.P,rfl,u2 (eσ.symm▸h:Ok2 (eg asg sa [] M1.σ) Q)⟩)
theorem mR (Hi:kG g c k it di) (Ht:gw g c k t asg) (Hb:dF m g c k body sa) (hs:∀ env x,foldedSetIterable it env x=pure x):lb m g c k (.For t it body [] pos) (dforU di asg sa) :=
 fun F N Q K E h q qe=>forM (Hi F.F N (ub h) fun r=>vo F r.itf.it Ht Hb r.q (fun z=>q (z.up r.le.P)) fun z=>F.fk.elim fun a fk=>came_of fk z fun y=>qe (y.up r.le.P)) (hs _)
theorem rj {b:Bool} {kk:Nat} {np p1 p2 hp:Pos} (G:GOk g) (hk:c.kind "ValueError" = some .globalImplicit) (hv:g.mg "ValueError" = none) (H:dF m g c k body sa) :
 lb m g c k (.Try body [.ExceptHandler (some (.Name "ValueError" np)) none [.Return (some (.Constant (.bool b) kk p1)) p2] hp] [] [] pos) (dtryU sa b):=by
 intro Z F N Q K E h q qe
 refine tryM (H F N (um2 h) (fun r=>r.elim (C:=fun f=>match f with | .next=>wpAny _ _ (execs [] _) K E r.N.s | f=>K f r.N.s) (fun h=>wpAny_execs_nil (q ⟨.nxt,.next,r.N,r.le,rfl,h⟩)) (fun h=>q ⟨.cont,.cont,r.N,r.le,rfl,h⟩) (fun h=>q ⟨.brk,.brk,r.N,r.le,rfl,h⟩) fun v y hy h=>q ⟨.ret v,.ret y,r.N,r.le,⟨y,rfl,hy⟩,h⟩) fun r=>?_)
 obtain ⟨outer,fk⟩:=F.fk
 refine lm fk r.exc r.fresh fun N1 f1 x1=>?_
 refine ew (N:=N1) x1 none fun N2 f2 x2=>?_
 refine wpAny_handleBy_builtin (X := "ValueError") (T := "ValueError") (b:=true) PySem.F.isExc_ValueError PySem.F.notTuple_ValueError PySem.F.self_ValueError ?_
 refine Calls.Name_function_global F.F.X.fn ((F.F.X.kind _).trans hk) (Calls.loadGlobal_builtin (F.F.X.gl.symm▸G.ns.keeps fun a a=>N2.base F.F.B) hv (F.F.X.bi.symm▸G.nb.keeps fun a a=>N2.base F.F.B) ((G.boot "ValueError" (by decide +kernel)).trans Boot.«ValueError») ⟨rfl,x2.typeIs,?_⟩) (by decide +kernel)
 rw [if_pos rfl]
 refine ew (N:=N2) x2 none fun N3 f3 x3=>?_
 exact wpAny_execs_cons (wpAny_Return_some (wpAny_pure (q ⟨.ret (.bool b),.ret _,N3,(f3.P.trans (f2.P.trans f1.P))▸r.le,⟨_,rfl,ei b⟩,(f3.σ.trans (f2.σ.trans f1.σ))▸r.q⟩)))
theorem Fk.frs (F:Fk Z outer) (N:Now Z):gD N (Z.env::outer):=fun x hx=>by
 have L:=F.loc N
 have hk:x.scope.kind≠.module∧∃ L,x.frame=some L:=(List.mem_cons.mp hx).elim (fun e=>by subst e;exact ⟨by rw [F.kind];decide,_,F.own⟩) (F.fun_ x)
 refine ⟨hk.1,hk.2.imp fun b h2=>⟨h2,?_⟩⟩
 have hm:b∈b4 (Z.env::outer):=List.mem_filterMap.mpr ⟨_,hx,h2⟩
 rcases L.mem b hm with rfl | hb
 · exact ⟨L.dict _ hm,L.F.1,L.F.2.1,N.I.nt L.F.2.2,.inl L.F.2.2,L.own⟩
 · have m:=N.I.frM hb
   exact ⟨L.dict _ hm,m.1,m.2.1,m.2.2,.inr hb,fun i h=>(N.I.frs b hb).ne (N.I.own.free i b h).1.2.2 rfl⟩
end
end
section
open PySem PySem.W PyProof.Rows PySem.SeqAt PySem.NumText
def sK (d:DE):DU V:=fun σ=>(d σ).bind fun q=>(asS q.1).bind fun l=>if l≠[]∧l.length≤64 then (if l.all aZ=true then some (some (.int (bq l)),q.2) else if gr l=true then some (none,q.2) else none) else none
section
variable {m:Bool} {Z:aE} {N:Now Z} {g:Gx} {c:SC} {k i:Nat} {e f:Expr} {sa:DU Fl} {d:DE} {ds:List DE} {body:List Stmt} {args:List Expr} {name:Str} {ap pos:Pos} {a C:Addr} {sp:SpU} {K:Frag} {outer:List Env} {E:Value→Shared→Prop} {names:aq} {params:List Str} {fd:FuncData} {cd:Option Value} {l:List Env} {Ar:Around}
theorem iL {first:List Value} {fv:List V} {Q:Option V→St→Prop} {K':Value→Shared→Prop} (KI:K.In g.h0) (hk:keepIn K (.ref a)=true) (F:FrC g c k Z) (H:hO m g k a sp) (Ha:eK g c k args ds)
 (hn:∀ env,∃ e r,backTo pos (starEach args env)=(false,e)::r) (hp:∀ env,(backTo pos (starEach args env)).any (·.1)=false) (hf:VRels N.P fv first)
 (h:Ok2 ((bY ds N.σ).bind fun r=>cU sp (fv++r.1) r.2) Q) (q:∀ r:Res N fun v=>Q (some v),K' r.x r.N.s) (qe:∀ r:s7 N (Q none),E (.ref r.e) r.N.s) :
 wpM m (model g.prog g.w) Z.Ar (callWith pos (.ref a) first (backTo pos (starEach args Z.env)) (backToKw pos (keywordEach [] Z.env))) K' E N.s:=by
 have key:wpAny (model g.prog g.w) Z.Ar (spliced (backTo pos (starEach args Z.env))) (fun vs' s2=>K.In s2.heap∧wpM m (model g.prog g.w) Z.Ar (call (.ref a) (first++vs')) K' E s2) E N.s :=
  Ha F.F N (ub h) fun z=>⟨fun b o e=>z.N.base F.F.B (KI b o e),F.fk.elim fun d fk=>H F.F.R F.F.B z.N fk.st (fk.frs z.N) (VRels.append (VRels.up z.le.P hf) z.rel) z.q (fun r=>q (r.up z.le)) fun r=>qe ⟨r.e,r.st,r.N,z.le.P.trans r.le,r.exc,.inr (.inl r.fresh),r.q⟩⟩
 obtain ⟨ee,rr,hb⟩:=hn Z.env
 have hp':=hp Z.env
 rw [hb] at key hp' ⊢
 exact vK (P:=fun h=>K.In h) (by show (_||([]:List (Option Str×Sem Value)).any _)=false;rw [hp'];rfl) (fun h X=>keeps_K hk h X) (Calls.evalArgs_plain key)
theorem og (KI:K.In g.h0) (hk:keepIn K (.ref a)=true) (Hf:ak g c k f d) (H:hO m g k a sp) (Ha:eK g c k args ds)
 (hn:∀ env,∃ e r,backTo pos (starEach args env)=(false,e)::r) (hp:∀ env,(backTo pos (starEach args env)).any (·.1)=false)
 (he:∀ env,eval (.Call f args [] pos) env=(do callWith pos (← eval f env) [] (backTo pos (starEach args env)) (backToKw pos (keywordEach [] env)))) :
 eZ m g c k (.Call f args [] pos) (pC a sp d ds):=by
 intro Z F N Q K' E h q qe
 rw [he]
 exact ez (Hf F.F N (ub h) fun y=>(uv y.q).elim fun b h=>have h1:=uib h.2
  oj (C:=fun y'=>wpM m _ _ (callWith pos y' [] _ _) K' E y.N.s) (y.rel.as ((asA_e h.1).trans (congrArg V.adr h1.1))) (iL (fv:=[]) KI hk F H Ha hn hp bz h1.2 (fun r=>q (r.up y.le)) fun r=>qe (r.up y.le.P)))
theorem vc {o:Expr} {apos:Pos} {env:Env} {Q:Value→Shared→Prop} {M:Model} {s:Shared}
 (hbase:attributeBase o name env (eval o env)=eval o env)
 (hfew:methodCallForm (args.length+([]:List Keyword).length) (backTo pos (starEach args env)) (backToKw pos (keywordEach [] env))=true)
 (hline:(apos.endLine==pos.line)=true)
 (h:wpAny M Ar (eval o env) (fun ov s1=>∀ pl,wpAny M Ar (getMethod ov name pl) (fun fx s2=>wpM m M Ar (callWith pos fx.1 fx.2 (backTo pos (starEach args env)) (backToKw pos (keywordEach [] env))) Q E s2) E s1) E s) :
 wpM m M Ar (eval (.Call (.Attribute o name apos) args [] pos) env) Q E s:=by
 rw [arm_eval_Call,hbase]
 refine ez (wpAny_mono h (fun ov s1 h1=>?_) fun a a e=>e)
 refine ez (wpAny_standAt ?_)
 have hpos:methodCallPos true o env apos pos=pure pos:=by unfold methodCallPos;simp [hline]
 unfold methodCall
 rw [hfew]
 refine gG (pZ (dj (wpAny_mono (h1 _) (fun fx s2 h2=>?_) fun a a e=>e)))
 exact ez (wpAny_of_eq hpos h2)
theorem ey {fa:Addr} (KI:K.In g.h0) (T:pR K C name fa) (H:ak g c k e d) (HC:hO m g k fa sp) (Ha:eK g c k args ds)
 (hn:∀ env,∃ e r,backTo pos (starEach args env)=(false,e)::r) (hp:∀ env,(backTo pos (starEach args env)).any (·.1)=false)
 (hb:∀ env,attributeBase e name env (eval e env)=eval e env) (hl:(ap.endLine==pos.line)=true)
 (hfew:∀ env,methodCallForm (args.length+([]:List Keyword).length) (backTo pos (starEach args env)) (backToKw pos (keywordEach [] env))=true) :
 eZ m g c k (.Call (.Attribute e name ap) args [] pos) (pf C name sp d ds) :=
 fun F N Q K' E h q qe=>vc (hb _) (hfew _) hl (H F.F N (ub h) fun y pl'=>(uv y.q).elim fun w h=>have h1:=uib h.2
  jk (C:=fun x=>ao y.N.P y.v x→wpAny _ _ (getMethod x name pl') (fun fx s=>wpM m _ _ (callWith pos fx.1 fx.2 _ _) K' E s) E y.N.s) (y.rel.as (nr h.1)) (fun a dx es q1 q2 q3 hx=>q2.elim fun n q2 =>
   method_fn (fun b o e=>y.N.base F.F.B (KI b o e)) (show InstAt y.N.s.heap a (instObj C dx) C (some (dictOf es n)) from ⟨y.N.I.pin _ _ (q1.trans (congrArg (fun c=>some (instObj c dx)) h1.1.1)),rfl,rfl,y.N.I.pin _ _ q2⟩)
    (plainGet_of T.get).1 (plainGet_of T.get).2 T.find (beq_iff_eq.mp T.fn) (by show (lookIn name (dictOf es n)).map _=_;rw [lookIn_dict,gN q3 h1.1.2];rfl)
    (iL (N:=y.N) (fv:=[y.v]) KI T.keep F HC Ha hn hp (bk hx bz) h1.2 (fun r=>q (r.up y.le)) fun r=>qe (r.up y.le.P))) y.rel)
theorem bad_of {l:List Nat} (h:gr l=true):∀ c∈l,aZ c=true∨c=103:=fun c hc=>by
 unfold gr at h
 split at h
 · rename_i r hr
   rw [show l=r.reverse++[103] from by have:=congrArg List.reverse hr;simpa using this] at hc
   exact (List.mem_append.mp hc).imp (fun q=>List.all_eq_true.mp h c (List.mem_reverse.mp q)) List.mem_singleton.mp
 · cases h
theorem sM {kk:Nat} {p16:Pos} (Hf:ak g c k f (dk (.ty "int"))) (H:ak g c k e d) (hs:∀ env,starEach [e,.Constant (.int 16) kk p16] env=[(false,eval e env),(false,eval (.Constant (.int 16) kk p16) env)])
 (he:∀ env,eval (.Call f [e,.Constant (.int 16) kk p16] [] pos) env=(do callWith pos (← eval f env) [] (backTo pos (starEach [e,.Constant (.int 16) kk p16] env)) (backToKw pos (keywordEach [] env)))) :
 eZ true g c k (.Call f [e,.Constant (.int 16) kk p16] [] pos) (sK d):=by
 intro Z F N Q K' E h q qe
 rw [he]
 refine ez (Hf F.F N (Q:=fun v s=>v=.ty "int" ∧ Ok2 (sK d s) Q) (ok2 ⟨rfl,h⟩) fun y=>?_)
 refine j8 (C:=fun y'=>wpM true _ _ (callWith pos y' [] _ _) K' E y.N.s) (y.rel.as y.q.1) ?_
 rw [hs]
 refine m7 rfl (Calls.evalArgs_plain (Calls.spliced_cons (H F.F y.N (ub y.q.2) fun z=>?_)))
 refine Calls.spliced_cons (wpAny_Constant_int (k:=kk) (pos:=p16) (Calls.spliced_nil ((uv z.q).elim fun l h=>?_)))
 have hl:=uib h.2
 refine cB (C:=fun x=>wpC _ _ (call (.type "int") [x,_]) K' E _) h.1 z.rel fun t=>?_
 have hs1:(numSeenOf (S l)).length≤640:=Nat.le_trans (seen_length _) (Nat.le_trans hl.1.2 (by decide))
 by_cases hh:l.all aZ=true
 · have h2:=hl.2
   rw [if_pos hh] at h2
   obtain ⟨n1,n2⟩:=lV fun c hc=>.inl (List.all_eq_true.mp hh c hc)
   exact ed (m6 (n:=(bq l:Int)) hs1 (by rw [n1];exact qw hl.1.1 hh) (by rw [n1,n2];exact beq_self_eq_true _) (q ⟨_,_,z.N.toks (z.N.s.toks+1+1),y.le.trans (z.le.trans Now.toks_le),cq _ _,u2 h2⟩))
 · have h2:=hl.2
   rw [if_neg hh] at h2
   have h3:=ui h2
   have ha:=bad_of h3.1
   refine s0 hs1 (by rw [(lV ha).1];exact wL h3.1) ?_ F.F.R.handled fun h' t' e' args W=>qF (z.N.toks (z.N.s.toks+1)) W t' (.inl rfl) h3.2 (C:=fun e s=>E (.ref e) s) fun r=>qe (r.up (y.le.P.trans z.le.P))
   have hc:∀ c∈(S l).cps.toList,c<16 ^ 8:=fun c hc=>by
    rcases ha c hc with q | q
    · rcases yb q with q | q<;>omega
    · omega
   have:=StrLaws.reprText_len (S l) hc
   rw [z9] at this
   rw [sizeLine_eq];have:=hl.1.2;omega
theorem gD.at_ (hF:gD N l) {b:Addr} (h:b∈b4 l):FrOk N b:=(yn h).elim fun e q=>(hF e q.1).2.elim fun L r=>Option.some.inj (r.1.symm.trans q.2)▸r.2
theorem cN.back {N:Now Z} {Z':aE} {P':Gh} {h:Heap} {e:Addr} {st:Option Value} (H:cN Z'.A P' h e st) (hz:∀ b,Z'.A.hp b=none→N.s.heap.get? b=none):cN Z.A P' h e st :=
 H.map fun b o a F=>⟨F.1,F.2.1,aG fun o h=>(N.I.alive b o h).elim fun o' q=>aL ((hz b F.2.2).symm.trans q)⟩
theorem yu {vs:List V} {Q:Option V→St→Prop} (h:Ok2 (cU (iI names params sa) vs N.σ) Q):vs.length=params.length∧Ok2 (sa ⟨fB (bv (params.zip vs) (fun a=>none)) names,N.σ.w⟩) fun f s=>f.elim (Q none { N.σ with w:=s.w }) fun f=>OkV (ue f) fun v=>Q (some v) { N.σ with w:=s.w } :=
 (uib (um2 h)).imp_right fun h=>(ub h).imp fun f s h=>match f,h with
  | some _,h=>um h
  | none,h=>u2 (Q:=fun v w=>Q v { N.σ with w:=w }) h
theorem jN (G:GOk g) (F:FnOk g a fd names params body) (H:dF m g (scC names cd) k body sa) (hloc:∃ x,names.lookup x=some .local∧∃ i,fR names x=some i) (hcd:∀ v,cd=some v→fd.code=v:=by intro _ h;cases h) :
 hO m g (k+1) a (iI names params sa):=by
 intro Z R B N l hl hF vs xs Q K' E hx h q qe
 obtain ⟨hlen,h⟩:=yu h
 obtain ⟨o,h1,h2⟩:=F.at_.at_
 refine vV (sY (binds:=params.zip xs) (Nat.lt_of_le_of_lt (Nat.le_add_right ..) R.depth) (N.base B h1) h2 (N.noLimit B G) (bS F.code fun b b=>N.base B) F.body_ (F.bind xs (hx.length.trans hlen)) F.clo (f8 F xs _) (fun s₁ X=>?_) F.co F.gen F.kind)
 obtain ⟨M,e1,rfl,e3⟩:=f7 (Z:=Z) (fr:=b4 l) F hx (fun a ha=>(hF.at_ ha).dict.imp fun o=>Exists.imp fun es=>Exists.imp fun ep q=>⟨q.1,q.2,(hF.at_ ha).m,(hF.at_ ha).wa,(hF.at_ ha).nt⟩) X
 have hb:∀ a∈b4 l,(Z.A.hp a=none∨a∈Z.A.fr)∧∀ i:Nat,N.own[i]?≠some (some a):=fun a ha=>⟨(hF.at_ ha).hp,(hF.at_ ha).own⟩
 have fk:Fk (kU Z N.s N.P (b4 l) fd a names) l:=⟨Around.frames_deeper hl,rfl,fun e he=>⟨(hF e he).1,(hF e he).2.imp fun b=>And.left⟩,F.kind,rfl,hloc.imp fun x q=>q.2.elim fun i hi=>List.mem_of_getElem? (c8 F.nd hi q.1)⟩
 refine H (Z:=kU Z N.s N.P (b4 l) fd a names) ⟨⟨i5 hcd F _,R.deeper _,⟨fun a o e=>N.I.le.m a o (B.sub a o e),N.I.le.par.trans B.par,N.I.le.tb.trans B.tb,N.I.le.ms.trans B.ms,B.sys.imp fun b=>N.I.le.m _ _⟩,fun b b h=>nomatch h⟩,l,fk⟩ M (e1▸h) (fun r=>?_) fun r=>?_
 · have fin:∀ v y,ao r.N.P v y→Q (some v) { N.σ with w:=r.N.σ.w }→K' y r.N.s:=fun v y hv hq=>q ⟨v,y,N.back r.N rfl hb,⟨r.N.I.le,fun b b e=>e⟩,hv,hq⟩
   exact r.elim (C:=fun f=>K' (match f with | .ret v=>v | _=>.none) r.N.s) (fun h=>h.elim fun v h=>fin v _ (Option.some.inj h.1▸rfl) h.2) (fun h=>h.elim fun v h=>nomatch h.1) (fun h=>h.elim fun v h=>nomatch h.1) fun v y hy h=>h.elim fun v' h=>fin v' y (Option.some.inj h.1▸hy) h.2
 · refine iV fk r.exc r.fresh fun N' f x=>?_
   exact qe ⟨r.e,_,N.back N' rfl hb,N'.I.le,x.back (fun b h=>h),rfl,(show Q none { N.σ with w:=N'.σ.w } from f.σ▸r.q)⟩
end
end
section
open PySem PySem.W PyProof.Rows PySem.SeqAt
abbrev z8:=List (Str×V)→List V→Wt→Option (Option (List (Str×V))×Wt)
def ConIU (g:Gx) (k:Nat) (f C:Addr) (sp:z8):Prop :=
 ∀ {Z:aE} (R:b5 Z.Ar k) (B:ec g Z.A) (N:Now Z) {l:List Env} (hl:Z.Ar.frames=some l) (hF:gD N l) {a dx:Addr} {fl:List (Str×V)} {vs:List V} {xs:List Value} {Q:Option (List (Str×V))→Wt→Prop} {K E:Value→Shared→Prop},
  (∀ b∈b4 l,b≠dx)→j4 N C a dx fl→VRels N.P vs xs→Ok2 (sp fl vs N.σ.w) Q→(∀ r:ResM N C a dx fun fl=>Q (some fl),K .none r.N'.s)→(∀ r:j3 N (· = some .none) (fun σ=>σ={ N.σ with w:=σ.w }∧Q none σ.w),E (.ref r.e) r.N.s)→codeAny (model g.prog g.w) Z.Ar (.call (.ref f) ⟨.ref a::xs,[]⟩) (retR K E) N.s
def my (i:Nat) (C:Addr) (r:Option Fl×St):Option (Option (List (Str×V))×Wt):=r.1.elim (some (none,r.2.w)) fun f=>(cQ i C (f,r.2)).map fun q=>(some q.1,q.2)
def lx (names:aq) (i:Nat) (params:List Str) (nd:Nat) (C:Addr) (d:DU Fl):z8:=fun fl vs w =>
 if vs.length+nd=params.length then (d ⟨(bL names params nd vs).set i (some (.mi C fl)),w⟩).bind (my i C) else none
noncomputable def w9 (C:Addr) (sp:z8):SpU:=fun vs w=>(sp [] vs w).map fun r=>(r.1.map fun f=>.obj C f,r.2)
section
variable {Z:aE} {N:Now Z} {g:Gx} {k i:Nat} {C f:Addr} {K:Frag} {d:DU Fl} {names:aq} {slf:Str} {params:List Str} {body:List Stmt} {nd:Nat} {fd:FuncData} {cd:Option Value}
theorem vE (G:GOk g) (F:FnI g f fd names slf params body nd) (hi:fR names slf=some i) (H:dF false g (scC names cd) k body d) (hcd:∀ v,cd=some v→fd.code=v:=by intro _ h;cases h) :
 ConIU g (k+1) f C (lx names i params nd C d):=by
 intro Z R B N l hl hF a dx fl vs xs Q K E hnd M hx h q qe
 obtain ⟨hlen,h⟩:=uib h
 obtain ⟨o,h1,h2⟩:=F.at_.at_
 have hlx:xs.length+nd=params.length:=hx.length.symm▸hlen
 refine ks_codeAny_call_defAt (fd:=fd) (binds:=(slf,.ref a)::params.zip (xs++List.replicate nd .none)) (Nat.lt_of_le_of_lt (Nat.le_add_right ..) R.depth) (N.base B h1) h2 (N.noLimit B G) (bS F.code fun c c=>N.base B) F.body_ (F.bind N.s (fun c c=>N.base B) _ xs hlx) (fun x hx=>F.nocell x (F.names_▸hx)) (o7 F) (fun h₀ hns hk₁=>wpAt_of_wpAny ?_) F.co F.gen F.kind
 obtain ⟨N1,A1⟩:=iY (fr:=b4 l) (fun a ha=>⟨hnd a ha,(hF.at_ ha).dict.imp fun o=>Exists.imp fun es=>Exists.imp fun ep q=>⟨q.1,q.2,(hF.at_ ha).m,(hF.at_ ha).wa,(hF.at_ ha).nt⟩⟩) (tk:=N.s.toks+((slf,Value.ref a)::params.zip (xs++List.replicate nd .none)).length) F M hx hns hk₁
 have hb:∀ a∈b4 l,(Z.A.hp a=none∨a∈Z.A.fr)∧∀ i:Nat,N.own[i]?≠some (some a):=fun a ha=>⟨(hF.at_ ha).hp,(hF.at_ ha).own⟩
 have hpl:=c8 (L:=N.s.heap.objs.size) (cs:=[]) F.nodup hi F.sk
 have fk:Fk (kR Z N.s N.P fd f names dx (b4 l)) l:=⟨Around.frames_deeper hl,rfl,fun e he=>⟨(hF e he).1,(hF e he).2.imp fun c=>And.left⟩,F.kind,rfl,⟨slf,List.mem_of_getElem? hpl⟩⟩
 rw [← A1.s]
 refine H (Z:=kR Z N.s N.P fd f names dx (b4 l)) ⟨⟨i4 hcd F _,R.deeper _,nX B,fun c c h=>nomatch h⟩,l,fk⟩ (N1.adopt A1.mkd rfl M.hp hpl A1.hh) (ub (f:=my i C) (Q:=Q) (by show Ok2 ((d (N1.σ.set i (.mi C fl))).bind (my i C)) Q;rw [A1.σ];exact h)) (fun r=>?_) fun r=>?_
 · have hr:Ok2 (cQ i C (r.f,r.N.σ)) fun fl=>Q (some fl):=um2 r.q
   have hf:=r.rel
   have e:=iZ hr
   rw [e] at hr hf
   rw [show r.x=.next from hf]
   exact mw M rfl hb hr fun r' es=>es▸q r'
 · refine iV fk r.exc r.fresh fun N' f x=>?_
   refine qe ⟨r.e,_,⟨{ N.σ with w:=N'.σ.w },N'.P,N.own,N'.s,N.I.back N'.I (fun b o e=>if q:b=dx then .inr (q▸M.ap) else .inl ((if_neg q).trans e)) hb⟩,N'.I.le,x.map fun b o hb F=>⟨F.1,F.2.1,?_⟩,rfl,rfl,(show Q none N'.σ.w from f.σ▸u2 (Q:=Q) r.q)⟩
   by_cases q:b=dx
   · exact q▸M.ap.1.2.2
   · exact aG fun o h=>(N.I.alive b o h).elim fun o' q'=>aL (F.2.2.symm.trans ((if_neg q).trans q'))
theorem con_mkU {sp:z8} (KI:K.In g.h0) (hm:makesIn K C=true) (hi:findIn K (.ref C) "__init__" = some (some (.ref f))) (hf:isFn K (.ref f)=true) (HI:ConIU g k f C sp):hO false g (k+1) C (w9 C sp):=by
 intro Z R B N l hl hF vs xs Q K' E hx h q qe
 have X:K.In N.s.heap:=fun b o e=>N.base B (KI b o e)
 have hn1:=bo N.s.heap
 have hn2:N.s.heap.get? (N.s.heap.objs.size+1)=none:=aG fun o e=>Nat.lt_irrefl _ (Nat.lt_of_succ_lt (show N.s.heap.objs.size+1<N.s.heap.objs.size from Heap.lt_size e))
 have k1:∀ b o,N.s.heap.get? b=some o→((N.s.heap.push emptyDict).push (instObj C N.s.heap.objs.size)).get? b=some o:=fun b o e=>Heap.get?_push_of_some _ (Heap.get?_push_of_some _ e)
 have hi':((N.s.heap.push emptyDict).push (instObj C N.s.heap.objs.size)).get? (N.s.heap.objs.size+1)=some (instObj C N.s.heap.objs.size):=by heap_get
 have hd':((N.s.heap.push emptyDict).push (instObj C N.s.heap.objs.size)).get? N.s.heap.objs.size=some (dictOf [] 0):=Heap.get?_push_of_some _ (show (N.s.heap.push emptyDict).get? N.s.heap.objs.size=some emptyDict from Heap.get?_push_size _ rfl)
 have fa:=N.I.fresh hn2
 have apA:=N.I.apart (i:=Z.pl.length) hn2
 let N1:Now { Z with Ar:=Z.Ar.under (.builtin "type.__call__" ⟨.ref C::xs,[]⟩) }:=⟨N.σ,N.P,N.own,{ N.s with heap:=(N.s.heap.push emptyDict).push (instObj C N.s.heap.objs.size),toks:=N.s.toks },N.I.keeps k1⟩
 have hF1:gD N1 l:=fun e he=>⟨(hF e he).1,(hF e he).2.imp fun L q=>⟨q.1,⟨q.2.dict.imp fun o=>Exists.imp fun es=>Exists.imp fun ep r=>⟨k1 _ _ r.1,r.2⟩,q.2.m,q.2.wa,q.2.nt,q.2.hp,q.2.own⟩⟩⟩
 refine wpAny_call (make_core (h:=N.s.heap) (g:=N.s.gens) (d:=N.s.drawn) (t:=N.s.toks) (os:=N.s.os) (makes_of X hm) (looks_findIn X hi) (fun self=>bind_fn X self (beq_iff_eq.mp hf)) (.inl rfl) (gX (codeAny_mono
  (HI (Z:={ Z with Ar:=Z.Ar.under (.builtin "type.__call__" ⟨.ref C::xs,[]⟩) }) R.make B N1 (l:=l) hl hF1 (K:=fun x s=>x=.none∧K' (.ref (N.s.heap.objs.size+1)) s) (E:=E) (fun b hb=>(hF.at_ hb).dict.elim fun o q=>q.elim fun a q=>q.elim fun a q=>b6 hn1 q.1) ⟨hi',fa.2.1,fa.2.2,⟨[],0,hd',(show VRelF N.P [] [] from rfl)⟩,N.I.apart hn1⟩ hx (um2 (um2 h)) (fun r=>⟨rfl,?_⟩) fun r=>?_) fun r s h=>?_)))
 · obtain ⟨es,n,q1,q2⟩:=r.mkd.dict
   let M:Now Z:=⟨r.N'.σ,r.N'.P,r.N'.own,r.N'.s,r.N'.I⟩
   let M1:=M.layA r.mkd.ap q1
   have ne:=r.mkd.ne
   have apA':eh Z.A M1.P Z.pl M1.own Z.pl.length (N.s.heap.objs.size+1):=⟨ce.put ⟨r.mkd.ma,r.mkd.wa,apA.1.2.2⟩ ne,apA.2.1,fun j hj e=>apA.2.2 j hj (r.le.sh j _ e)⟩
   have l1:M.P.le M1.P:=Gh.put_le r.mkd.ap.1.1
   have l2:M1.P.le (M1.layA apA' r.mkd.inst).P:=Gh.put_le apA'.1.1
   exact q ⟨.obj C r.fl,_,M1.layA apA' r.mkd.inst,⟨r.le.P.trans (l1.trans l2),r.le.sh⟩,⟨_,_,es,rfl,Gh.put_self _ _ _,⟨n,l2.m _ _ (Gh.put_self _ _ _)⟩,VRelF.mono (l1.trans l2) _ q2⟩,r.σ▸r.q⟩
 · exact qe ⟨r.e,r.st,⟨r.N.σ,r.N.P,r.N.own,r.N.s,r.N.I⟩,r.le,r.exc,r.fresh,r.q.1▸r.q.2⟩
 · match r,h with
   | .ok (.ret _),h=>exact h
   | .error _,h=>exact h
   | .ok .next,h=>exact h.elim
   | .ok .cont,h=>exact h.elim
   | .ok .brk,h=>exact h.elim
end
theorem nC {pos:Pos} {a b:Int} {c v:Value} {l:List Value} (h:TriplesOk l) (hh:codeAmong pos (l++[rawInt a,rawInt b,c])=some v):codeAmong pos l=some v∨v=c:=by
 fun_induction TriplesOk l with
 | case1 =>
  simp only [List.nil_append,codeAmong,rawInt] at hh
  split at hh
  · cases hh;exact .inr rfl
  · cases hh
 | case2 a t b u x rest ih =>
  simp only [List.cons_append,codeAmong] at hh ⊢
  split at hh
  · rename_i hc;rw [if_pos hc];exact .inl hh
  · rename_i hc;rw [if_neg hc];exact ih h hh
 | case3 l h1 h2=>exact h.elim
inductive ny (P:Gh) (f:Addr) (params:Arguments) (scope:Scope) (body:Expr) (clos:List (Str×Addr)):Prop
 | mk {o:Obj} {fd:FuncData}:P.m f=some o→o.data=.func fd→fd.body=.expr body→fd.scope=scope→fd.closure=clos→fd.globals=mainGlobals→fd.builtins=builtinsNs→fd.params=params→fd.defaults=.none→jb P fd.code→ny P f params scope body clos
theorem ny.mono {P P':Gh} {f:Addr} {params:Arguments} {scope:Scope} {body:Expr} {clos:List (Str×Addr)} (H:ny P f params scope body clos) (l:P.le P'):ny P' f params scope body clos :=
 H.rec fun h1 h2 h3 h4 h5 h6 h7 h8 h9 h10=>.mk (l.m _ _ h1) h2 h3 h4 h5 h6 h7 h8 h9 (h10.mono l)
noncomputable def lamSC (names:aq) (fv:List Str) (us:List V):SC:={ kind:=fun x=>names.lookup x,slot:=fun a=>none,len:=1,fix:=fun x=>(fv.zip us).lookup x }
section
variable {Z:aE} {N:Now Z} {g:Gx} {c:SC} {k:Nat}
theorem rN {h:Heap} {cd T:Addr} {ps:Array Value} (hcc:h.IsCode cd T ps):TriplesOk ps.toList:=by
 refine Classical.byContradiction fun hn_=>?_
 obtain ⟨_,_,_,_,_,_,_,_,_,_,_,_,_,_,_,_,_,_,_,t,_⟩:=hcc
 exact hn_ t
theorem ym {cd T:Addr} {pos:Pos} {line:Nat} {name qual:Str} {args:Arguments} {scope:Scope} {body:FuncBody} {K E:Value→Shared→Prop} (G:GOk g) (X:iQ c Z.env Z.pl) (B:ec g Z.A) (hcode:c.code=some (.ref cd)) (htb:(cd,T)∈g.tb) (hct:cd≠T∧2≤g.tb.count (cd,T))
 (q:∀ cv (M:Now Z),N.Le M→M.σ=N.σ→jb M.P cv→K cv M.s):wpAny (model g.prog g.w) Z.Ar (functionCode Z.env pos line name qual args scope body) K E N.s:=by
 have etb:N.P.tb=g.tb:=N.I.le.tb.trans B.tb
 have hxt:(cd,T)∈N.P.tb:=etb▸htb
 have hcnt:2≤N.P.tb.count (cd,T):=etb▸hct.2
 refine (show ∃ ps,N.s.heap.IsCode cd T ps∧iv N.P (cd,T) ps∧N.s.heap.TableAt cd T ps from (N.I.tab _ hxt).code.rec (fun a c e t=>⟨_,c,e,t⟩) fun e=>absurd e hct.1).elim fun ps hp=>?_
 have hcc:=hp.1
 have hen:=hp.2.1
 cases hca:codeAmong pos ps.toList with
 | some cv=>exact wpAny_functionCode_hit (X.code _ hcode) hcc hca (q cv N (.refl N) rfl (hen hcnt pos cv hca))
 | none =>
  refine wpAny_functionCodeX (X.code _ hcode) hcc hp.2.2 hca fun c' h' tk hext h1 h2 hcc' hrec htab' a=>hrec.elim fun c0 h=>h.elim fun oc h=>h.elim fun vs h=>h.elim fun tq hr=>?_
  have hopT:=hp.2.2.2
  have hc0:c0=c':=(Value.ref.inj hr.1).symm
  have hoc:h'.get? c' = some oc:=hc0▸hr.2.1
  have hcT:c'≠T:=fun e=>Nat.lt_irrefl _ (Nat.lt_of_lt_of_le (Heap.lt_size hopT) (e▸h1))
  have hnew:N.s.heap.get? c' = none:=aG fun ob e=>Nat.lt_irrefl _ (Nat.lt_of_lt_of_le (Heap.lt_size e) h1)
  let h0:=h'.update T (fun a=>{ cls:=.none,data:=.fields ps })
  have g1:h0.get? T=some { cls:=.none,data:=.fields ps }:=Heap.get?_update_self _ htab'.2 rfl
  have g2:∀ b,b≠T→h0.get? b=h'.get? b:=fun b hb=>Heap.get?_update_other _ _ (Ne.symm hb)
  have le2:N.P.le (N.P.put c' oc):=Gh.put_le (N.I.fresh hnew).2.1
  let N2:Now Z:=⟨N.σ,N.P.put c' oc,N.own,{ N.s with heap:=h0,toks:=tk },N.I.put hnew (fun b ob e=>if hb:b=T then hb▸g1.trans (hopT.symm.trans (hb▸e)) else (g2 b hb).trans (hext b ob hb e)) ((g2 _ hcT).trans hoc)⟩
  have hci:jb (N.P.put c' oc) (.ref c'):=⟨c',oc,vs,_,tq,rfl,Gh.put_self _ _ _,hr.2.2⟩
  exact q _ (N2.table (x:=(cd,T)) (ps:=ps++#[rawInt pos.line,rawInt pos.col,.ref c']) hxt hct.1 tk (fun b ob hb e=>((g2 b hb).symm.trans e)) hcc' (fun a pos' cv' hca'=>(nC (rN hcc) (show codeAmong pos' (ps.toList++[rawInt pos.line,rawInt pos.col,.ref c'])=some cv' by simpa using hca')).elim (fun z=>(hen hcnt pos' cv' z).mono le2) fun z=>z▸hci) htab' fun y hy e=>G.uniq _ htb y (etb▸(show y∈N.P.tb from hy)) e)
   ⟨le2,fun a a e=>e⟩ rfl hci
theorem xl {args:Arguments} {body:Expr} {scope:Scope} {pos:Pos} {cd T:Addr} {clos:List (Str×Addr)} {K E:Value→Shared→Prop} (G:GOk g) (X:iQ c Z.env Z.pl) (B:ec g Z.A) (hcode:c.code=some (.ref cd)) (htb:(cd,T)∈g.tb) (hct:cd≠T∧2≤g.tb.count (cd,T))
 (hcl:closureFor scope Z.env=pure clos) (hd:∀ env,defaultsOf args env=([],[]))
 (q:∀ f (M:Now Z),N.Le M→M.σ=N.σ→ny M.P f args scope body clos→K (.ref f) M.s):wpAny (model g.prog g.w) Z.Ar (eval (.Lambda args body scope pos) Z.env) K E N.s:=by
 rw [arm_eval_Lambda,hd]
 refine wpAny_bind (wpAny_pure ?_)
 refine wpAny_bind (wpAny_holding (wpAny_pure ?_))
 rw [makeFunction_eq]
 rw [List.zip_nil_right]
 show wpAny _ _ (makeTail (Str.ofString "<lambda>") (Z.env.qual++Str.ofString "<lambda>") args (.expr body) scope Z.env .none .none none pos pos.line) K E N.s
 unfold makeTail
 rw [hcl]
 refine wpAny_bind (wpAny_pure ?_)
 have rest:∀ (ctv:Value) (N1:Now Z),N.Le N1→N1.σ=N.σ→wpAny (model g.prog g.w) Z.Ar (do
  let __do_lift_0 ← functionCode Z.env pos pos.line "<lambda>" (Z.env.qual ++ "<lambda>") args scope (.expr body)
  let __do_lift ← builtinsFor Z.env.globals Z.env.builtins
  let __do_lift_1 ← nsGet Z.env.globals "__name__"
  let __do_lift_2 ← pure Value.none
  newObj (.type "function") (.func { name := "<lambda>",qualname:=Z.env.qual ++ "<lambda>",params:=args,body:=.expr body,scope,globals:=Z.env.globals,closure:=clos,defaults:=.none,kwdefaults:=.none,doc:=__do_lift_2,pyModule:=__do_lift_1.getD .none,annotations:=none,code:=__do_lift_0,closureTuple:=ctv,builtins:=__do_lift })) K E N1.s:=by
  intro ctv N1 le1 e1
  refine wpAny_bind (ym (N:=N1) G X B hcode htb hct fun cv N2 le2 e2 hcv=>?_)
  have kp:∀ b o,g.h0.get? b=some o→N2.s.heap.get? b=some o:=fun b o=>N2.base B
  rw [X.gl]
  refine G.mod.elim fun bm h=>h.elim fun ob hb=>wpAny_bind (wpAny_builtinsFor (G.ns.keeps kp) hb.1 hb.2.1 (kp _ _ hb.2.2.1) hb.2.2.2.1 hb.2.2.2.2.1 hb.2.2.2.2.2 ?_)
  refine wpAny_bind (wpAny_nsGet (G.ns.keeps kp) (wpAny_bind (wpAny_pure (wpAny_newObj_type ?_ (by size_fits)))))
  exact q _ (N2.new _ rfl N2.s.toks) (le1.trans (le2.trans N2.new_le)) (e2.trans e1) (.mk (Gh.put_self ..) rfl rfl rfl rfl rfl rfl rfl rfl (hcv.mono N2.new_le.P))
 cases clos with
 | nil =>
  exact wpAny_bind (wpAny_pure (rest _ N (.refl N) rfl))
 | cons q r =>
  exact wpAny_bind (wpAny_newTextTuple (rest _ (N.keeps N.s.toks fun b o e=>Heap.get?_push_of_some _ e) Now.keeps_le rfl))
end
abbrev SpL:=List V→Wt→Option (Option V×Wt)
def mI (js:List Nat) (sp:SpL):DU V:=fun σ=>(iw σ.loc js).bind fun us=>(sp us σ.w).map fun r=>(some (.bool r.1.isNone),{ σ with w:=r.2 })
structure rE (g:Gx) (k:Nat) (args:Arguments) (scope:Scope) (body:Expr) (names:aq) (fv:List Str) (sp:SpL):Prop where
 names_:scope.names=names
 co:scope.isCoroutine=false
 gen:scope.isGenerator=false
 kind:scope.kind=.function
 nol:∀ y∈names,y.2≠.local∧y.2≠.cell
 bind:∀ fd:FuncData,fd.params=args→fd.defaults=.none→bindArgs fd ⟨[],[]⟩=pure []
 body_:∀ us:List V,us.length=fv.length→∃ d,eZ false g (lamSC names fv us) k body d∧∀ σ Q,Ok2 (cU sp us σ) Q→Ok2 (d σ) Q
def uQ {Z:aE} (N:Now Z) (cl:List (Str×Addr)) (fv:List Str) (us:List V):Prop :=
 ∀ x u,(fv.zip us).lookup x=some u→∃ a o y,cl.lookup x=some a∧N.s.heap.get? a=some o∧o.data=.cell (some y)∧N.P.wa≠some a∧NT N.P a∧ao N.P u y
section
variable {Z:aE} {N:Now Z} {g:Gx} {c:SC} {k:Nat} {args:Arguments} {scope:Scope} {body:Expr} {names:aq} {fv:List Str} {sp:SpL} {f a:Addr} {clos:List (Str×Addr)} {us:List V} {l outer:List Env} {K:Frag}
theorem gD.hfr (hF:gD N l):∀ a∈b4 l,∃ o es ep,N.s.heap.get? a=some o∧o.data=.dict es ep∧N.P.m a=none∧N.P.wa≠some a∧NT N.P a:=fun a ha=>(hF.at_ ha).dict.imp fun o=>Exists.imp fun es=>Exists.imp fun ep q=>⟨q.1,q.2,(hF.at_ ha).m,(hF.at_ ha).wa,(hF.at_ ha).nt⟩
theorem gD.hb (hF:gD N l):∀ a∈b4 l,(Z.A.hp a=none∨a∈Z.A.fr)∧∀ i:Nat,N.own[i]?≠some (some a):=fun a ha=>⟨(hF.at_ ha).hp,(hF.at_ ha).own⟩
theorem zF (B:ec g Z.A) {fr:List Addr}:ec g (Act.at N.s N.P (fun b=>N.s.heap.get? b) fr):=nX B
theorem xm {Q:Option V→St→Prop} {K' E:Value→Shared→Prop} (G:GOk g) (H:rE g k args scope body names fv sp) (hlen:us.length=fv.length) (R:b5 Z.Ar (k+1)) (hl:Z.Ar.frames=some l) (hF:gD N l) (B:ec g Z.A) (hc:uQ N clos fv us) (hL:ny N.P f args scope body clos)
 (h:Ok2 (cU sp us N.σ) Q) (q:∀ r:Res N fun v=>Q (some v),K' r.x r.N.s) (qe:∀ r:j3 N (· = some .none) (Q none),E (.ref r.e) r.N.s):wpAny (model g.prog g.w) Z.Ar (call (.ref f) []) K' E N.s:=by
 refine Classical.byContradiction fun hn_=>?_
 obtain ⟨h1,h2,h3,h4,h5,h6,h7,h8,h9,c0,oc,vs,q0,t0,h10,h11,h12,h13⟩:=hL
 obtain ⟨d,Hd,Hsp⟩:=H.body_ us hlen
 have ho:=N.I.pin _ _ h1
 have hco:=N.I.pin _ _ h11
 refine hn_ ?_;clear hn_
 refine wpAny_call (codeAny_of_tree ?_)
 show wpAny _ Z.Ar.in1 (callAny (.ref f) ⟨[],[]⟩) _ _ N.s
 refine wpAny_bind (wpAny_load ho ?_)
 rw [h2]
 show wpAny _ _ (callFunction f _ ⟨[],[]⟩) _ _ _
 unfold callFunction
 rw [h10,h4,H.co,H.gen,h3]
 refine wpAny_bind (m:=field (.ref c0) 1) (wpAny_field hco h12 h13 (wpAny_bind (wpAny_pure ?_)))
 rw [H.bind _ h8 h9]
 refine wpAny_bind (wpAny_pure ?_)
 rw [h5,h6,h7]
 refine wpAny_bind (wpAny_newFunctionEnv (binds:=[]) (fun x hx=>(H.nol x (H.names_▸hx)).2) (fun x hx=>nomatch hx) (fun h' hn' hs'=>?_) H.kind)
 have keep':∀ b ob,N.s.heap.get? b=some ob→h'.get? b=some ob:=fun b ob e=>hs'.extBut b ob (Nat.ne_of_lt (Heap.lt_size e)) (Heap.get?_push_of_some _ e)
 let env:=newEnv scope N.s.heap.objs.size mainGlobals clos (q0 ++ ".<locals>.") (some f) (.ref c0) none builtinsNs
 let Zl:aE:=⟨Act.at N.s N.P (fun b=>N.s.heap.get? b) (b4 l),env,[.ns N.s.heap.objs.size ""],Z.Ar.deeper env⟩
 let M:Now Zl:=⟨⟨[none],N.σ.w⟩,N.P,[none],{ N.s with heap:=h',toks:=N.s.toks+0 },N.I.begin (pl':=[.ns N.s.heap.objs.size ""]) (loc':=[none]) keep' (fun c c e=>e) (fun c c c e=>e) hF.hfr (fun p hp=>List.mem_singleton.mp hp▸bo _) (List.nodup_cons.mpr ⟨fun h=>(nomatch h),List.nodup_nil⟩) rfl fun i p v e1 e3=>by
  cases i with
  | zero=>cases e1;cases e3;exact .no ⟨_,hn'⟩
  | succ i=>cases e1⟩
 have X:iQ (lamSC names fv us) env [.ns N.s.heap.objs.size ""]:=⟨H.kind,rfl,rfl,rfl,fun v hv=>(nomatch hv),fun x=>congrArg (List.lookup x) H.names_,fun x i c hi=>(nomatch hi),fun x i c hi=>(nomatch hi)⟩
 have fk:Fk Zl l:=⟨Around.frames_deeper hl,rfl,fun e he=>⟨(hF e he).1,(hF e he).2.imp fun c=>And.left⟩,H.kind,rfl,⟨"",List.mem_cons_self⟩⟩
 refine wpAny_bind (wpAny_enterFrame ((N.noLimit B G).keeps keep') (Nat.lt_of_le_of_lt (Nat.le_add_right ..) R.depth) ?_)
 refine wpAny_pure ⟨rfl,kla_codeExpr ?_⟩
 refine Hd (Z:=Zl) ⟨⟨X,R.deeper _,zF B,fun x u hx=>?_⟩,l,fk⟩ M (Q:=fun v s=>Q v { N.σ with w:=s.w }) (Hsp _ _ ?_) (fun r=>q ⟨r.v,r.x,N.back r.N rfl hF.hb,⟨r.le.P,fun c c e=>e⟩,r.rel,r.q⟩) fun r=>?_
 · refine Classical.byContradiction fun hn_=>?_
   obtain ⟨a,o,y,c1,c2,c3,c4,c5,c6⟩:=hc x u hx
   refine hn_ ?_;clear hn_
   exact .mk c1 c2 c3 c4 c5 c6
 · refine Classical.byContradiction fun hn_=>?_
   obtain ⟨v,w',e,hq⟩:=um2 h
   refine hn_ ?_;clear hn_
   exact ⟨v,{ M.σ with w:=w' },by show Option.map _ (sp us N.σ.w)=_;rw [e];rfl,hq⟩
 · refine iV fk r.exc r.fresh fun N' f x=>?_
   exact qe ⟨r.e,_,N.back N' rfl hF.hb,N'.I.le,x.back fun c h=>h,rfl,(show Q none { N.σ with w:=N'.σ.w } from f.σ▸r.q)⟩
structure RefIs (g:Gx) (a:Addr) (fd:FuncData) (names:aq) (k1 k2:Nat) (p1 p2 p3 p4 p5 p6 p7 p8 np hp:Pos):Prop where
 fn:FnOk g a fd names ["make"] [.Try [.Expr (.Call (.Name "make" p1) [] [] p2) p3] [.ExceptHandler (some (.Name "ValueError" np)) none [.Return (some (.Constant (.bool true) k1 p4)) p5] hp] [] [] p6,.Return (some (.Constant (.bool false) k2 p7)) p8]
 mkd:names.lookup ("make" : Str)=some NameKind.local
 ve:names.lookup ("ValueError" : Str)=some NameKind.globalImplicit
 nc:∀ y∈names,y.2≠.cell∧(y.2=.local→y.1 = "make")
 sw:∀ env,swapsWith (.Call (.Name "make" p1) [] [] p2) none p3.line env=pure false
 ev:∀ env,eval (.Call (.Name "make" p1) [] [] p2) env=(do callWith p2 (← eval (.Name "make" p1) env) [] (backTo p2 (starEach [] env)) (backToKw p2 (keywordEach [] env)))
end
noncomputable def fvOk (c:SC) (lnames:aq) (fv:List Str) (js:List Nat):Bool :=
 (fv.length==js.length&&(fv.zip js).all fun p=>c.kind p.1==some .cell&&c.slot p.1==some p.2)&&(fv.all fun x=>lnames.lookup x==some .free)&&lnames.all fun y=>y.2 != .free||fv.contains y.1
structure FvOk (c:SC) (lnames:aq) (fv:List Str) (js:List Nat):Prop where
 len:fv.length=js.length
 at_:∀ x j,(x,j)∈fv.zip js→c.kind x=some .cell∧c.slot x=some j
 free:∀ x∈fv,(x,.free)∈lnames
 all:∀ x,(x,.free)∈lnames→x∈fv
structure RefOk (g:Gx) (K:Frag) (a:Addr):Prop where
 ex:∃ fd names k1 k2 p1 p2 p3 p4 p5 p6 p7 p8 np hp,RefIs g a fd names k1 k2 p1 p2 p3 p4 p5 p6 p7 p8 np hp
 keep:keepIn K (.ref a)=true
 ve:g.mg "ValueError" = none
section
variable {m:Bool} {Z:aE} {N:Now Z} {g:Gx} {c:SC} {k:Nat} {args:Arguments} {scope:Scope} {body:Expr} {names lnames:aq} {fv:List Str} {js:List Nat} {sp:SpL} {f a:Addr} {clos:List (Str×Addr)} {us:List V} {l:List Env} {K:Frag} {fd:FuncData}
theorem FvOk.of (h:fvOk c lnames fv js=true):FvOk c lnames fv js :=
 have h:=Bool.and_eq_true_iff.mp h
 have h1:=Bool.and_eq_true_iff.mp h.1
 have h2:=Bool.and_eq_true_iff.mp h1.1
 ⟨beq_iff_eq.mp h2.1,fun x j hm=>(Bool.and_eq_true_iff.mp (List.all_eq_true.mp h2.2 _ hm)).imp beq_iff_eq.mp beq_iff_eq.mp,fun x hx=>mem_of_lookup (beq_iff_eq.mp (List.all_eq_true.mp h1.2 x hx)),
  fun x hx=>(Bool.or_eq_true_iff.mp (List.all_eq_true.mp h.2 _ hx)).elim (fun q=>(bne_iff_ne.mp q rfl).elim) fun q=>List.contains_iff_mem.mp q⟩
theorem tG:∀ {js:List Nat} {us:List V} {loc:List (Option V)} {fv:List Str},fv.length=js.length→iw loc js=some us→us.length=fv.length∧∀ x u,(x,u)∈fv.zip us→∃ j,(x,j)∈fv.zip js∧loc[j]? = some (some u)∧kq u=true
 | [],_,_,[],_,h=>Option.some.inj h▸⟨rfl,fun a a h=>nomatch h⟩
 | [],_,_,_::_,hl,_=>nomatch hl
 | _::_,_,_,[],hl,_=>nomatch hl
 | j::js,us,loc,x::fv,hl,h=>aF h fun v hv h=>qP h fun hf h=>dH h fun us' h1 e=>e▸(have ih:=tG (fv:=fv) (Nat.succ.inj hl) h1
  ⟨congrArg (· + 1) ih.1,fun y u hm=>(List.mem_cons.mp hm).elim (fun e=>by cases e;exact ⟨j,List.mem_cons_self,Option.join_eq_some_iff.mp hv,hf⟩) fun hm=>(ih.2 y u hm).imp fun j'=>And.imp_left (List.mem_cons_of_mem _)⟩)
theorem oO {k1 k2:Nat} {p1 p2 p3 p4 p5 p6 p7 p8 np hp:Pos} {Q:V→St→Prop} {K' E:Value→Shared→Prop} (G:GOk g) (HL:rE g k args scope body lnames fv sp) (Fn:RefIs g a fd names k1 k2 p1 p2 p3 p4 p5 p6 p7 p8 np hp) (hvm:g.mg "ValueError" = none) (hlen:us.length=fv.length)
 (R:b5 Z.Ar (k+2)) (hl:Z.Ar.frames=some l) (hF:gD N l) (B:ec g Z.A) (hc:uQ N clos fv us) (hL:ny N.P f args scope body clos) (h:Ok2 (cU sp us N.σ) fun v s=>Q (.bool v.isNone) s) (q:∀ r:Res N Q,K' r.x r.N.s):wpAny (model g.prog g.w) Z.Ar (call (.ref a) [.ref f]) K' E N.s:=by
 have F:=Fn.fn
 refine Classical.byContradiction fun hn_=>?_
 obtain ⟨o,h1,h2⟩:=F.at_.at_
 refine hn_ ?_;clear hn_
 refine wpAny_call (codeAny_call_cells (binds:=[("make",.ref f)]) (Nat.lt_of_le_of_lt (Nat.le_add_right ..) R.depth) (N.base B h1) h2 (N.noLimit B G) (bS F.code fun c c=>N.base B) F.body_ (F.bind [.ref f] rfl) F.clo (f8 F [.ref f] _) (fun s₁ X=>?_) F.co F.gen F.kind)
 have hns:=X.toInCall.ns
 have hk:=X.toInCall.keep
 refine Classical.byContradiction fun hn_=>?_
 obtain ⟨M,e1,rfl,e3⟩:=f7 (Z:=Z) (N:=N) (fr:=b4 l) (vs:=[.adr f]) F (bk rfl bz) hF.hfr X
 have hkk:∀ y,(callEnvC fd N.s.heap.objs.size a).kindOf y=names.lookup y:=fun y=>congrArg (List.lookup y) F.names_
 have hsl:∃ i,fR names "make" = some i:=by
  cases e:fR names "make" with
  | some i=>exact ⟨i,rfl⟩
  | none=>exact absurd (show Str.ofString "make" ∈ (kn names).map (·.1) from List.mem_map.mpr ⟨(Str.ofString "make",.local),List.mem_filter.mpr ⟨mem_of_lookup Fn.mkd,rfl⟩,rfl⟩) (List.idxOf?_eq_none_iff.mp (show ((kn names).map (·.1)).idxOf? (Str.ofString "make")=none from e))
 have fk:Fk (kU Z N.s N.P (b4 l) fd a names) l:=⟨Around.frames_deeper hl,rfl,fun e he=>⟨(hF e he).1,(hF e he).2.imp fun c=>And.left⟩,F.kind,rfl,hsl.elim fun i hi=>⟨"make",List.mem_of_getElem? (c8 F.nd hi Fn.mkd)⟩⟩
 have B1:ec g (kU Z N.s N.P (b4 l) fd a names).A:=zF B
 have hmk:(bindL (callEnvC fd N.s.heap.objs.size a).kindOf [("make",.ref f)] fun c=>none) "make" = some (.ref f):=by
  show (if (callEnvC fd N.s.heap.objs.size a).kindOf "make" = some .local then fun y:Str=>if y = "make" then some (Value.ref f) else none else fun c=>none) "make" = some (.ref f)
  rw [if_pos ((hkk _).trans Fn.mkd)]
  exact if_pos rfl
 have lP:N.P.le M.P:=by rw [e3];exact .refl _
 have hL':=hL
 obtain ⟨l1,l2,_⟩:=hL'
 refine hn_ ?_;clear hn_
 refine wpAny_execs_cons (wpAny_Try_except (wpAny_execs_cons (wpAny_Expr_any (PyProof.Rows.Call_ (wpAny_Name (wpAny_loadName_local F.kind ((hkk _).trans Fn.mkd) hns hmk ?_) (by decide +kernel)) (Fn.ev _)) (by unfold interactive;rw [show (callEnvC fd N.s.heap.objs.size a).scope.kind=.function from F.kind];rfl) (Fn.sw _))))
 refine Calls.callWith_function (PySem.evalArgs_none ⟨⟨M.I.pin _ _ (lP.m _ _ l1),l2⟩,?_⟩)
 refine xm (Z:=kU Z N.s N.P (b4 l) fd a names) (N:=M) G HL hlen (R.deeper _) fk.st (fk.frs M) B1 (fun x u hx=>?_) (hL.mono lP) (Q:=fun v s=>Q (.bool v.isNone) { N.σ with w:=s.w }) ?_ (fun r=>?_) fun r=>?_
 · refine Classical.byContradiction fun hn_=>?_
   obtain ⟨b,ob,y,c1,c2,c3,c4,c5,c6⟩:=hc x u hx
   refine hn_ ?_;clear hn_
   exact ⟨b,ob,y,c1,hk _ _ c2,c3,(by rw [e3];exact c4),(by rw [e3];exact c5),c6.up lP⟩
 · refine Classical.byContradiction fun hn_=>?_
   obtain ⟨v,w',e,hq⟩:=um2 h
   refine hn_ ?_;clear hn_
   exact ⟨v,{ M.σ with w:=w' },by show Option.map _ (sp us M.σ.w)=_;rw [e1,e];rfl,hq⟩
 · refine wpAny_execs_nil (wpAny_execs_nil (wpAny_execs_cons (wpAny_Return_some (wpAny_Constant_bool ?_))))
   exact q ⟨.bool false,_,N.back r.N rfl hF.hb,⟨r.N.I.le,fun c c e=>e⟩,rfl,r.q⟩
 · refine lm fk r.exc (.inr (.inl r.fresh)) fun N1 f1 x1=>?_
   refine ew (N:=N1) x1 none fun N2 f2 x2=>?_
   refine wpAny_handleBy_builtin (X := "ValueError") (T := "ValueError") (b:=true) PySem.F.isExc_ValueError PySem.F.notTuple_ValueError PySem.F.self_ValueError ?_
   refine Calls.Name_function_global F.kind ((hkk _).trans Fn.ve) (Calls.loadGlobal_builtin (by show Heap.Ns _ fd.globals g.mg;rw [F.gl];exact G.ns.keeps fun c c=>N2.base B1) hvm (by show Heap.Ns _ fd.builtins g.mb;rw [F.bi];exact G.nb.keeps fun c c=>N2.base B1) ((G.boot "ValueError" (by decide +kernel)).trans Boot.«ValueError») ⟨rfl,x2.typeIs,?_⟩) (by decide +kernel)
   rw [if_pos rfl]
   refine ew (N:=N2) x2 none fun N3 f3 x3=>?_
   exact wpAny_execs_cons (wpAny_Return_some (wpAny_Constant_bool (q ⟨.bool true,_,N.back N3 rfl hF.hb,⟨N3.I.le,fun c c e=>e⟩,rfl,(show Q (.bool true) { N.σ with w:=N3.σ.w } from (f3.σ.trans (f2.σ.trans f1.σ))▸r.q)⟩)))
theorem fZ {fe lbody:Expr} {pos lp:Pos} {cd T:Addr} (G:GOk g) (KI:K.In g.h0) (HR:RefOk g K a) (Hf:ak g c (k+2) fe (dk (.adr a))) (HL:rE g k args scope lbody lnames fv sp)
 (hcode:c.code=some (.ref cd)) (htb:(cd,T)∈g.tb) (hct:cd≠T∧2≤g.tb.count (cd,T)) (hd:∀ env,defaultsOf args env=([],[]))
 (hfv:fvOk c lnames fv js=true)
 (hs:∀ env,starEach [.Lambda args lbody scope lp] env=[(false,eval (.Lambda args lbody scope lp) env)])
 (he:∀ env,eval (.Call fe [.Lambda args lbody scope lp] [] pos) env=(do callWith pos (← eval fe env) [] (backTo pos (starEach [.Lambda args lbody scope lp] env)) (backToKw pos (keywordEach [] env)))) :
 eZ m g c (k+2) (.Call fe [.Lambda args lbody scope lp] [] pos) (mI js sp):=by
 intro Z F N Q K' E h q qe
 refine Classical.byContradiction fun hn_=>?_
 obtain ⟨fd,names,k1,k2,p1,p2,p3,p4,p5,p6,p7,p8,np,hp,Fn⟩:=HR.ex
 have V:=FvOk.of hfv
 have X:=F.F.X
 obtain ⟨cl,hcl,hcl2⟩:=iK (env:=Z.env) (scope:=scope) fun x hx=>by
  have hx:=V.all x (HL.names_▸hx)
  obtain ⟨i,hi⟩:=List.mem_iff_getElem?.mp hx
  have hj:=List.getElem?_eq_getElem (V.len▸ct hi:i<js.length)
  have h2:=V.at_ x _ (List.mem_of_getElem? (List.getElem?_zip_eq_some.mpr ⟨hi,hj⟩))
  exact (X.cel x _ (.inl h2.1) h2.2).imp fun d h=>h.1
 refine hn_ ?_;clear hn_
 refine dj (PyProof.Rows.Call_ (Hf F.F N (Q:=fun v s=>v=.adr a∧Ok2 (mI js sp s) Q) (ok2 ⟨rfl,h⟩) fun y=>?_) (he _))
 refine oj (C:=fun y'=>wpAny _ _ (callWith pos y' [] _ _) K' E y.N.s) (y.rel.as y.q.1) ?_
 rw [hs]
 refine callWith_of (P:=fun h=>K.In h) rfl (fun h X=>keeps_K HR.keep h X) (Calls.evalArgs_plain (Calls.spliced_cons ?_))
 refine xl G X F.F.B hcode htb hct hcl hd fun f M le eσ hL=>Calls.spliced_nil ⟨fun b o e=>M.base F.F.B (KI b o e),?_⟩
 refine (uv y.q.2).elim fun us hu=>?_
 have hp:=tG V.len hu.1
 refine Classical.byContradiction fun hn_=>?_
 obtain ⟨outer,fk⟩:=F.fk
 refine hn_ ?_;clear hn_
 refine oO G HL Fn HR.ve hp.1 F.F.R fk.st (fk.frs M) F.F.B (fun x u hx=>?_) hL (Q:=fun v s=>Q (some v) s) ?_ fun r=>q ⟨r.v,r.x,r.N,y.le.trans (le.trans r.le),r.rel,r.q⟩
 · refine Classical.byContradiction fun hn_=>?_
   obtain ⟨j,hj,hlj,hfz⟩:=hp.2 x u (mem_of_lookup hx)
   have h2:=V.at_ x j hj
   obtain ⟨b,hb1,hb2⟩:=X.cel x j (.inl h2.1) h2.2
   have hxn:(x,.free)∈scope.names:=HL.names_▸V.free x (List.of_mem_zip (mem_of_lookup hx)).1
   refine hn_ ?_;clear hn_
   refine M.I.slotOf (i:=j) (v:=u) (eσ▸hlj) fun p o z t1 t2 t3 t4=>?_
   cases hb2.symm.trans t1
   have Fb:=M.I.pfree _ (List.mem_of_getElem? hb2)
   refine Classical.byContradiction fun hn_=>?_
   obtain ⟨ob,q1,q2⟩:=t3
   refine hn_ ?_;clear hn_
   exact ⟨b,ob,z,(hcl2 x hxn).trans hb1,q1,q2,Fb.2.1,M.I.nt Fb.2.2,t4.relF hfz⟩
 · have h3:=um2 hu.2
   refine Classical.byContradiction fun hn_=>?_
   obtain ⟨v,w',e,hq⟩:=h3
   refine hn_ ?_;clear hn_
   exact ⟨v,{ M.σ with w:=w' },by show Option.map _ (sp us M.σ.w)=_;rw [eσ,e];rfl,(show Q _ { M.σ with w:=w' } from eσ▸hq)⟩
end
end
section
open PySem PySem.W PyProof.Rows PySem.SeqAt PySem.NumText
def dchain2 (o1:CmpOp) (o2:CmpOp) (d3:DE) (a:V×St) (b:V×St):Option (V×St):=(cop o1 a.1 b.1).bind fun t=>if t then (d3 b.2).bind fun c=>(cop o2 b.1 c.1).map fun r=>(.bool r,c.2) else some (.bool false,b.2)
def dchain1 (o1:CmpOp) (o2:CmpOp) (d2:DE) (d3:DE) (a:V×St):Option (V×St):=(d2 a.2).bind (dchain2 o1 o2 d3 a)
def zf (o1 o2:CmpOp) (d1 d2 d3:DE):DE:=fun σ=>(d1 σ).bind (dchain1 o1 o2 d2 d3)
def yJ (q:V×St):Option (V×St):=(asS q.1).bind fun l=>if l≠[]∧l.length≤64∧l.all aZ=true then some (.int (bq l),q.2) else none
def pj (d:DE):DE:=fun σ=>(d σ).bind yJ
section
variable {Z:aE} {N:Now Z} {g:Gx} {c:SC} {k:Nat} {e f e1 e2 e3:Expr} {d d1 d2 d3:DE} {o1 o2:CmpOp} {pos:Pos}
theorem n7 (H1:ak g c k e1 d1) (H2:ak g c k e2 d2) (H3:ak g c k e3 d3) (hm:lastMarks [o1,o2] [e2,e3]=false):ak g c k (.Compare e1 [o1,o2] [e2,e3] pos) (zf o1 o2 d1 d2 d3) :=
 fun F N Q K E h q=>Compare_chain (H1 F N (ub h) fun a=>chain_link (H2 F a.N (ub a.q) fun b=>kx F.R.u3 (uv b.q) (a.rel.up b.le.P) b.rel fun t ht=>wpAny_truthy_bool
  (mt (C:=fun t=>if t=true then wpAny _ _ _ _ _ _ else K _ _) ht (fun h=>chain_last (H3 F b.N (ub h) fun z=>kx F.R.u3 (um z.q) (b.rel.up z.le.P) z.rel fun r hr=>q ⟨.bool r,_,z.N,a.le.trans (b.le.trans z.le),ei _,hr⟩)) fun h=>q ⟨.bool false,_,b.N,a.le.trans b.le,ei _,u2 h⟩))) hm
theorem mO {kk:Nat} {p16:Pos} (Hf:ak g c k f (dk (.ty "int"))) (H:ak g c k e d) (hs:∀ env,starEach [e,.Constant (.int 16) kk p16] env=[(false,eval e env),(false,eval (.Constant (.int 16) kk p16) env)])
 (he:∀ env,eval (.Call f [e,.Constant (.int 16) kk p16] [] pos) env=(do callWith pos (← eval f env) [] (backTo pos (starEach [e,.Constant (.int 16) kk p16] env)) (backToKw pos (keywordEach [] env)))) :
 ak g c k (.Call f [e,.Constant (.int 16) kk p16] [] pos) (pj d) :=
 fun F N Q K E h q=>PyProof.Rows.Call_ (Hf F N (Q:=fun v s=>v=.ty "int" ∧ Ok2 (pj d s) Q) (ok2 ⟨rfl,h⟩) fun y=>j8 (C:=fun y'=>wpAny _ _ (callWith pos y' [] _ _) K E y.N.s) (y.rel.as y.q.1) (hs _▸PySem.callWith_type rfl (Calls.evalArgs_plain (Calls.spliced_cons (H F y.N (ub y.q.2) fun z =>
  Calls.spliced_cons (wpAny_Constant_int (k:=kk) (pos:=p16) (Calls.spliced_nil ((uv z.q).elim fun l h=>have hl:=ui h.2;have n:=lV (l:=l) fun c hc=>.inl (List.all_eq_true.mp hl.1.2.2 c hc)
   cB (C:=fun x=>wpAny _ _ (call (.type "int") [x,_]) K E { z.N.s with toks:=z.N.s.toks+1 }) h.1 z.rel fun t=>m6 (n:=(bq l:Int)) (Nat.le_trans (seen_length _) (Nat.le_trans hl.1.2.1 (by decide))) (n.1.symm▸qw hl.1.1 hl.1.2.2) (by rw [n.1,n.2];exact beq_self_eq_true _)
    (q ⟨_,_,z.N.toks (z.N.s.toks+1+1),y.le.trans (z.le.trans Now.toks_le),cq _ _,hl.2⟩))))))))) (he _)
theorem wk {elt:Expr} {gens:List Comprehension} {scope:Scope} {pos py:Pos} {y:Str} {line:Nat} (hl:(py.line==pos.line)=true) (hn:(scope.names.any fun x=>x.1==y&&(x.2==.local||x.2==.cell))=false) (env:Env) (h1:env.scope.kind=.function) (h2:env.kindOf y=some .local) :
 swapsWith (.ListComp elt gens scope pos) (some (.Name y py)) line env=pure true:=by
 unfold swapsWith
 dsimp only
 have hb:(env.blockKind==.function)=true:=by
  unfold Env.blockKind
  rw [h1];rfl
 rw [hb,h2]
 show (pure (true&&(some NameKind.local==some NameKind.local)&&(py.line==pos.line)&&!_):Sem Bool)=pure true
 rw [hl,hn]
 rfl
end
end
section
open PySem PySem.W PyProof.Rows PySem.SeqAt
theorem mo:typeLookup (.type "list") "keys" = pure none:=by rw [typeLookup_type,builtinLookup_eq_fast];kernel_rfl
theorem i3 {prog:Program} {w:World} {A:Around} {E:Value→Shared→Prop} {s:Shared} {a:Addr} {o:Obj} {xs:Array Value} {k:Nat} {name:Str} {Q:Option Value→Shared→Prop}
 (hx:s.heap.get? a=some o) (hc:o.cls=.type "list") (hdat:o.data=.seq xs k) (hd:o.dict=none) (hmiss:typeLookup (.type "list") name=pure none) (hname:(["__module__","__name__","__qualname__","__doc__","__annotations__"]:List Str).contains name=false) (hA:A.handled=none)
 (h:∀ h' tk,(∀ b o,s.heap.get? b=some o→h'.get? b=some o)→Q none { s with heap:=h',toks:=tk }) (hsz:name.length+100≤sizeLine:=by size_fits) :
 wpAny (model prog w) A (getAttr? (.ref a) name) Q E s:=by
 refine Classical.byContradiction fun hn_=>?_
 obtain ⟨c,dct,dat,sl⟩:=o
 refine hn_ ?_;clear hn_
 simp only at hc hdat hd
 subst hc hdat hd
 refine Classical.byContradiction fun hn_=>?_
 obtain ⟨hp,g,d,tk,os⟩:=s
 have hT:∀ tk',(⟨hp,g,d,tk',os⟩:Shared).TypeIs (.ref a) "list" := fun f=>⟨_,hx,rfl⟩
 have f1:=sub_AttributeError
 have f3:=PySem.F.slot_list_getattribute.lookup
 have f4:=PySem.F.slot_list_getattribute.bind (.ref a)
 have f5:=am_list_getattr_none
 refine hn_ ?_;clear hn_
 unfold getAttr? getAttrBy? getAttrBy
 repeat (any_goals (first | assumption | exact hT _ | ((with_reducible show wpAny _ _ (call (Value.builtin "list.__getattribute__") _ _) _ _ _);refine call_meets PySem.F.slot_list_getattribute (hT _) am_entry_list_getattribute (PySem.F.args_list_getattribute_2 _ _) (meets_getattribute_miss_list a xs k sl name _ hmiss hname hsz) ⟨hx,hA,fun h' tk' e hx'=>?_⟩) | wp_step))
 refine Classical.byContradiction fun hn_=>?_
 obtain ⟨t',u',he⟩:=hx'.there
 refine hn_ ?_;clear hn_
 show wpAny _ _ (getattributeRaised _ _ _ _ _ _ _) _ _ _
 unfold getattributeRaised
 repeat (any_goals (first | assumption | wp_step))
 all_goals exact h _ _ hx'.keeps
theorem eM:entryFor table "dict.update.loop" = some Builtin.«dict.update.loop» := entryFor_of_tree (by kernel_rfl)
theorem ci:plainId "dict.update.loop" = true:=by decide +kernel
theorem list_not_dict:(Value.type "list" != Value.type "dict")=true:=by decide
def pairV (v:V):Option (List Nat×V):=(asT v).bind fun l=>(l[0]?.bind asS).bind fun x=>l[1]?.bind fun u=>if l.length=2 then some (x,u) else none
noncomputable def jh:List V→Option KV
 | []=>some []
 | v::r=>(pairV v).bind fun p=>(jh r).map (p::·)
def sO (d:DE):DE:=fun σ=>(d σ).bind fun q=>(asL q.1).bind fun l=>(jh l).bind fun ps=>if bF ps=true∧ps.length≤1000 then some (.dct ps,q.2) else none
structure Dct {Z:aE} (N:Now Z) (D:Addr) (ps:KV):Prop where
 ex:∃ es n ys,bb N D (dictOf es n)∧VRels N.P (ps.map (·.2)) ys∧iA N.P.par es ((ps.map fun x=>S x.1).zip ys)
section
variable {Z:aE} {N:Now Z} {g:Gx} {c:SC} {k:Nat} {D I:Addr} {R₀:Result→Shared→Prop} {e f:Expr} {d:DE} {pos:Pos}
theorem gL {Ar:Around} {j:Nat} (R:b5 Ar k) (h:j+1≤k):b5 Ar.in1 j:=⟨Nat.lt_of_le_of_lt (Nat.add_le_add_left (Nat.le_of_succ_le h) _) R.depth,by have:=R.units;show Ar.units+1+8 * j+40<_;omega,R.handled⟩
theorem len2 {α:Type} {l:List α} (h:l.length=2):∃ a b,l=[a,b]:=(List.exists_cons_of_length_eq_add_one h).elim fun a h1=>h1.elim fun r e=>(List.exists_cons_of_length_eq_add_one (n:=0) (Nat.succ.inj ((congrArg List.length e).symm.trans h))).elim fun b h2=>h2.elim fun s e2=>⟨a,b,e.trans (congrArg (a::·) (e2.trans (congrArg (b::·) (List.eq_nil_of_length_eq_zero (Nat.succ.inj ((congrArg List.length e2).symm.trans (Nat.succ.inj ((congrArg List.length e).symm.trans h))))))))⟩
theorem pair_q {P:Gh} {v:V} {x:Value} {p:List Nat×V} {C:Value→Prop} (h:pairV v=some p) (hx:ao P v x) (q:∀ a t y,(∃ o n,P.m a=some o∧o.cls=.type "tuple" ∧ o.data=.seq #[.str (S p.1) t,y] n)→ao P p.2 y→C (.ref a)):C x :=
 aF h fun l e1 h=>aF h fun z e2 h=>aF h fun u e3 h=>dK h fun hl e4=>ry e1 hx fun a xs ha hxs=>by
  obtain ⟨v0,v1,rfl⟩:=len2 hl
  cases e3
  obtain ⟨y1,ys1,rfl,hy1,hys⟩:=hxs
  obtain ⟨y2,ys2,rfl,hy2,hys2⟩:=hys
  cases (show ys2=[] from hys2)
  obtain ⟨t,rfl⟩:ao P (.str z) y1:=zV (show asS v0=some z from e2)▸hy1
  cases e4
  exact q a t y2 ha hy2
theorem wd {Ar:Around} (B:ec g Z.A) (hh:Ar.handled=none) (hne:I≠D):∀ (us:List V) (rest done:KV) (N:Now Z) (jv:Value),(∃ i t,jv=.int i t)→jh us=some rest→bF (done++rest)=true→(done++rest).length≤1000→It g N I us→Dct N D done →
 (∀ M:Now Z,N.Le M→M.σ=N.σ→Dct M D (done++rest)→R₀ (.ok (.ret .none)) M.s)→codeAny (model g.prog g.w) Ar (.builtin "dict.update.loop" ⟨[.ref D,.ref I,jv,.none],[]⟩) R₀ N.s:=by
 intro us
 induction us with
 | nil =>
  intro rest done N jv hjv hps hnd hlen T HD hR
  obtain ⟨i0,t0,rfl⟩:=hjv
  obtain ⟨es,n,ys,q1,q2,q3⟩:=HD.ex
  cases hps
  refine codeAny_builtin eM ?_
  rw [Around.under_plainId ci _]
  show wpAny _ Ar.in1 (pyNext (.ref I)>>=_) _ _ N.s
  refine wpAny_bind (T.next (Ar:=Ar.in1) hh (fun v r x M e=>nomatch e) fun M e eσ le sd=>?_)
  show wpAny _ Ar.in1 (Builtin.Dict.addKeywords D []>>=_) _ _ _
  exact wpAny_bind (wpAny_pure (wpAny_pure (hR M le eσ ⟨es,n,ys,sd D _ q1 hne.symm,(List.append_nil done).symm▸VRels.up le.P q2,(List.append_nil done).symm▸le.P.par▸q3⟩)))
 | cons v us ih =>
  intro rest done N jv hjv hps hnd hlen T HD hR
  obtain ⟨i0,t0,rfl⟩:=hjv
  obtain ⟨es,n,ys,q1,q2,q3⟩:=HD.ex
  refine codeAny_builtin eM ?_
  rw [Around.under_plainId ci _]
  show wpAny _ Ar.in1 (pyNext (.ref I)>>=_) _ _ N.s
  refine wpAny_bind (T.next (Ar:=Ar.in1) hh (fun v' r x M1 e eσ le rel T1 sd=>?_) fun M e=>nomatch e)
  cases e
  refine aF hps fun p hp h=>dH h fun rest' hr e=>?_
  subst e
  obtain ⟨ta,tt,y,rfl,⟨to,tn,t1,t2,t3⟩,hy⟩:∃ ta tt y,x=.ref ta∧(∃ o n,M1.P.m ta=some o∧o.cls=.type "tuple" ∧ o.data=.seq #[.str (S p.1) tt,y] n)∧ao M1.P p.2 y:=pair_q (C:=fun x=>∃ ta tt y,x=.ref ta∧(∃ o n,M1.P.m ta=some o∧o.cls=.type "tuple" ∧ o.data=.seq #[.str (S p.1) tt,y] n)∧ao M1.P p.2 y) hp rel fun a t y h1 h2=>⟨a,t,y,rfl,h1,h2⟩
  have hto:=M1.I.pin _ _ t1
  have SD:=sd D _ q1 hne.symm
  show wpAny _ Ar.in1 (holding [.ref ta] _>>=_) _ _ _
  refine wpAny_bind (wpAny_holding ?_)
  refine wpAny_bind (wpAny_tryCatch ?_)
  show wpAny _ Ar.in1 (Builtin.Dict.pairItems (.ref ta)) _ _ _
  unfold Builtin.Dict.pairItems
  refine wpAny_bind (wpAny_typeOf ⟨to,hto,t2⟩ ?_)
  rw [if_pos (by decide)]
  refine wpAny_bind (wpAny_seqItems hto t3 (wpAny_pure ?_))
  show wpAny _ Ar.in1 (holding [.str (S p.1) tt,y] (dictSet D (.str (S p.1) tt) y)) _ _ _
  refine wpAny_holding ?_
  have hyl:ys.length=done.length:=q2.length.trans (List.length_map _)
  have nd0:((done++p::rest').map (·.1)).Nodup:=of_decide_eq_true hnd
  rw [List.map_append,List.map_cons] at nd0
  have ndj:bF done=true:=decide_eq_true (List.nodup_append.mp nd0).1
  have hnew:p.1∉done.map (·.1):=fun h=>(List.nodup_append.mp nd0).2.2 _ h _ List.mem_cons_self rfl
  have q3':=le.P.par▸q3
  have hdo:=jF (prog:=g.prog) (w:=g.w) SD.at_ (M1.params B▸q3') (oZ ndj hyl)
  refine wpAny_dictSet_pairs (bQ _ tt) hdo (fun h2 hd' hb=>?_) (by rw [List.length_zip,List.length_map,hyl,Nat.min_self,sizeLine_eq];rw [List.length_append] at hlen;omega)
  rw [lL (v:=p.2) hnew hyl] at hd'
  refine jG hd' fun es' n' z1 z2=>?_
  have kk:∀ b o,b≠D→M1.s.heap.get? b=some o→h2.get? b=some o:=fun b o nb e=>(hb.2 b nb).trans e
  obtain ⟨oI,SI,keep⟩:=T1.keep
  let M2:=M1.other (h':=h2) SD (M1.s.toks+1) kk
  have ea:done++p::rest' = (done++[p])++rest':=(List.append_cons ..)
  refine wpAny_pure ⟨plainId_quiet ci _,ih rest' (done++[p]) M2 _ ⟨_,0,rfl⟩ hr (ea▸hnd) (ea▸hlen) (keep M2 (.refl _) (SI.to (kk _ _ hne SI.at_) SI.ni)) ⟨es',n',ys++[y],SD.to z1 fun c c e=>(nomatch congrArg Obj.cls e),(show VRels M1.P ((done++[p]).map (·.2)) (ys++[y]) from by rw [List.map_append];exact (VRels.up le.P q2).append (bk hy bz)),M1.params B▸z2⟩ fun M l e h=>hR M (le.trans ⟨l.P,l.sh⟩) (e.trans eσ) (ea▸h)⟩
theorem vy (Hf:ak g c (k+3) f (dk (.ty "dict"))) (H:ak g c (k+3) e d) (hs:∀ env,starEach [e] env=[(false,eval e env)])
 (he:∀ env,eval (.Call f [e] [] pos) env=(do callWith pos (← eval f env) [] (backTo pos (starEach [e] env)) (backToKw pos (keywordEach [] env)))):ak g c (k+3) (.Call f [e] [] pos) (sO d):=by
 intro Z F N Q K E h q
 refine PyProof.Rows.Call_ (Hf F N (Q:=fun v s=>v=.ty "dict" ∧ Ok2 (sO d s) Q) (ok2 ⟨rfl,h⟩) fun y=>j8 (C:=fun y'=>wpAny _ _ (callWith pos y' [] _ _) _ E y.N.s) (y.rel.as y.q.1) (hs _▸PySem.callWith_type1 (H F y.N (ub y.q.2) fun z=>(uv z.q).elim fun l h=>(uv h.2).elim fun ps h2=>?_))) (he _)
 have hc:=ui h2.2
 refine d7 (C:=fun x=>ao z.N.P z.v x→wpAny _ _ (call (.type "dict") [x]) _ E z.N.s) h.1 z.rel (fun la xs hl hxs hx=>?_) z.rel
 refine Classical.byContradiction fun hn_=>?_
 obtain ⟨lo,ln,l1,l2,l3⟩:=hl
 obtain ⟨l21,l22⟩:=Prod.mk.inj l2
 refine hn_ ?_;clear hn_
 refine callType_codes (Q₁:=fun obj s₁=>obj=.ref z.N.s.heap.objs.size∧s₁={ z.N.s with heap:=z.N.s.heap.push { cls:=.type "dict",data:=.dict #[] } }) PySem.F.kt_called_dict (PySem.F.kt_typeCall_dict_1 _) PySem.F.entry_dict_init (kt_code_dict_new _ ⟨rfl,rfl⟩) ?_
 rintro obj s₁ ⟨rfl,rfl⟩
 have SD:=bb.new z.N (o:=dictOf [] 0) (t:=z.N.s.toks) rfl fun m m e=>nomatch congrArg Obj.cls e
 have hT:({ z.N.s with heap:=z.N.s.heap.push { cls:=.type "dict",data:=.dict #[] } }:Shared).TypeIs (.ref z.N.s.heap.objs.size) "dict" := ⟨_,SD.at_,rfl⟩
 refine ⟨hT,PySem.F.args_dict_init_2 _ _,?_⟩
 unfold Builtin.«dict.__init__»
 refine wpAny_bind ?_
 unfold Builtin.Dict.selfAndRest
 refine wpAny_bind (wpAny_notOrdered_dict hT ?_)
 show wpAny _ _ (pure (z.N.s.heap.objs.size,[Value.ref la])) _ _ _
 refine wpAny_pure ?_
 show wpAny _ _ (Builtin.Dict.updateFrom "dict.__init__" z.N.s.heap.objs.size (.ref la) [] .none) _ _ _
 unfold Builtin.Dict.updateFrom
 have hlo:(z.N.s.heap.push (dictOf [] 0)).get? la=some lo:=Heap.get?_push_of_some _ (z.N.I.pin _ _ l1)
 refine wpAny_bind (wpAny_typeOf ⟨lo,hlo,l21⟩ ?_)
 rw [if_pos (by decide)]
 refine wpAny_bind (i3 hlo l21 l3 l22 mo (by decide +kernel) F.R.handled (fun h' tk hk=>?_) (by decide +kernel))
 rw [if_pos (show (none:Option Value).isNone=true from rfl)]
 refine wpAny_bind (wpAny_rule ?_)
 let N4:=z.N.keeps (h':=h') tk fun b o e=>hk b o (Heap.get?_push_of_some _ e)
 have SD4:bb N4 z.N.s.heap.objs.size (dictOf [] 0):=⟨SD.F,SD.pl,SD.own,hk _ _ SD.at_,SD.ni⟩
 have R1:b5 Z.Ar.in1.in1 (k+1):=gL (gL (j:=k+2) F.R (Nat.le_refl _)) (Nat.le_refl _)
 refine wpAny_bind (ls (N:=N4.hold (n3 SD4)) (Q:=fun l' σ=>l' = l∧σ=z.N.σ) R1 (v:=z.v) ⟨l,by rw [show z.v=.lst l from nu h.1];rfl,rfl,rfl⟩ hx fun r=>?_)
 refine Classical.byContradiction fun hn_=>?_
 obtain ⟨M,L⟩:=Now.unhold (n3 SD4) r.N r.le.P
 obtain ⟨oI,SI,keep⟩:=r.itf.it.keep
 have hne:r.a≠z.N.s.heap.objs.size:=fun q=>by
  have e:(Z.A.hold [(z.N.s.heap.objs.size,dictOf [] 0)]).hp z.N.s.heap.objs.size=some (dictOf [] 0):=by
   show (Z.A.hp _).or _=_
   rw [SD.F.2.2,List.lookup_cons,beq_self_eq_true];rfl
  exact aL ((q▸SI.F.2.2).symm.trans e)
 have SIM:bb M r.a oI:=⟨⟨by rw [L.P];exact SI.F.1,by rw [L.P];exact SI.F.2.1,aG fun o h=>aL (SI.F.2.2.symm.trans (tZ h))⟩,SI.pl,by rw [L.own];exact SI.own,by rw [L.s];exact SI.at_,SI.ni⟩
 have hv:r.v=l:=r.q.1
 have SDM:=L.H _ List.mem_cons_self
 refine hn_ ?_;clear hn_
 rw [← L.s]
 refine wpAny_pure ⟨plainId_quiet ci _,wd (Ar:=Z.Ar.in1) F.B F.R.handled hne l ps [] M _ ⟨_,0,rfl⟩ h2.1 hc.1.1 hc.1.2 (Eq.subst (motive:=fun vs=>It g M r.a vs) hv (keep M (by rw [L.P];exact .refl _) SIM)) ⟨[],0,[],SDM,bz,rfl⟩ fun M2 l2 e2 HD=>⟨rfl,?_⟩⟩
 refine Classical.byContradiction fun hn_=>?_
 obtain ⟨es,n,ys,q1,q2,q3⟩:=HD.ex
 have lz:z.N.P.le M2.P:=(by rw [L.P];exact r.le.P:z.N.P.le M.P).trans l2.P
 refine hn_ ?_;clear hn_
 exact q ⟨.dct ps,_,M2.layS q1,⟨y.le.P.trans (z.le.P.trans (lz.trans Now.layS_le.P)),fun i a e=>y.le.sh i a (z.le.sh i a (r.le.sh i a (L.own▸l2.sh i a e)))⟩,⟨_,es,rfl,⟨n,Gh.put_self ..⟩,VRelD.mono (Now.layS_le (S:=q1)).P _ (iA.vrel q2 q3),z.N.notSys F.B (bo _)⟩,(e2.trans (L.σ.trans r.q.2)).symm▸hc.2⟩
end
noncomputable abbrev kE (acc:List Value) (c:Nat):Obj:={ cls:=.type "list",dict:=none,data:=.seq acc.toArray c,slots:=#[] }
noncomputable abbrev s9 (gi:Nat) (nm qn:Value):Obj:={ cls:=.type "generator",data:=.fields #[.int (gi:Int) 0,nm,qn] }
structure GP where
 S:Addr
 a:Addr
 gi:Nat
 nm:Value
 qn:Value
 us:List V
 w:Wt
def GP.two (p:GP) (acc:List Value) (c:Nat) (l:List (Addr×Obj)):List (Addr×Obj):=(p.S,kE acc c)::(p.a,s9 p.gi p.nm p.qn)::l
inductive GW (p:GP) {Z:aE} (N:Now Z) (ext:List (Addr×Obj)) (done:List V) (st:GenState):Prop
 | mk {acc:List Value} {c:Nat}:cn N (p.two acc c ext)→VRels N.P done acc→N.s.gens[p.gi]? = some st→GW p N ext done st
structure GC (g:Gx) (p:GP) (Z:aE):Prop where
 base:ec g Z.A
 ne:p.S≠p.a
 lt:∀ (i:Nat) x,Z.A.gens[i]? = some x→i≠p.gi
noncomputable def aE.gen (Z:aE) (G:Array GenState) (Ar:Around):aE:={ Z with A:={ Z.A with gens:=G },Ar:=Ar }
section
variable {Z:aE} {N:Now Z} {g:Gx} {c:SC} {k:Nat} {p:GP} {done:List V} {u:V} {ext:List (Addr×Obj)} {st st':GenState} {Ar:Around} {K:Value→Shared→Prop} {E:Value→Shared→Prop} {e:Expr}
noncomputable def Now.gen (N:Now Z) (Ar:Around):Now (Z.gen N.s.gens Ar) :=
 { N with I:={ N.I with gens:=fun b b e=>e,tab:=fun x hx=>(N.I.tab x hx).act (fun b e=>e) rfl,frs:=fun a ha=>(N.I.frs a ha).act (fun b e=>e) rfl,own:=⟨N.I.own.len,N.I.own.llen,fun i p o v h1 h2 h3=>(N.I.own.slot i p o v h1 h2 h3).act (fun b b b e=>e) rfl,N.I.own.free,N.I.own.one⟩ } }
noncomputable def Now.ungen (N:Now Z) (M:Now (Z.gen N.s.gens Ar)):Now Z :=
 { M with I:={ M.I with gens:=fun i x e=>M.I.gens i x (N.I.gens i x e),tab:=fun x hx=>(M.I.tab x hx).act (fun b e=>e) rfl,frs:=fun a ha=>(M.I.frs a ha).act (fun b e=>e) rfl,own:=⟨M.I.own.len,M.I.own.llen,fun i p o v h1 h2 h3=>(M.I.own.slot i p o v h1 h2 h3).act (fun b b b e=>e) rfl,M.I.own.free,M.I.own.one⟩ } }
theorem Fr.gen (F:Fr g c k Z) {G:Array GenState} (R:b5 Ar k):Fr g c k (Z.gen G Ar):=⟨F.X,R,⟨F.B.sub,F.B.par,F.B.tb,F.B.ms,F.B.sys⟩,fun x u h=>(F.fx x u h).rec fun h1 h2 h3 h4 h5 h6=>.mk h1 h2 h3 h4 h5 h6⟩
theorem GW.go {C:Prop} (W:GW p N ext done .running) (h:∀ l:List (Addr×Obj),cn (N.gen Ar) l→(∀ I,I≠p.S∧I≠p.a→∀ y∈l,y∈ext∨y.1≠I)→(∀ M:Now (Z.gen N.s.gens Ar),cn M l→N.P.le M.P→GW p (N.ungen M) ext done .running)→C):C:=by
 cases W with
 | @mk acc cc H hv hr=>exact h (p.two acc cc ext) (fun x hx=>have S:=H x hx;⟨S.F,S.pl,S.own,S.at_,S.ni⟩) (fun I hI y hy=>(List.mem_cons.mp hy).elim (fun e=>.inr (e▸hI.1.symm)) fun hy=>(List.mem_cons.mp hy).elim (fun e=>.inr (e▸hI.2.symm)) .inl) fun M Hm le=>.mk (acc:=acc) (c:=cc) (fun x hx=>have S:=Hm x hx;⟨S.F,S.pl,S.own,S.at_,S.ni⟩) (hv.up le) (M.I.gens _ _ hr)
theorem gw_e {d:DE} {Q:V→St→Prop} (H:ak g c k e d) (F:Fr g c k Z) (R:b5 Ar k) (W:GW p N ext done .running) (h:Ok2 (d N.σ) Q) (q:∀ r:Res N Q,GW p r.N ext done .running→K r.x r.N.s):wpAny (model g.prog g.w) Ar (eval e Z.env) K E N.s :=
 W.go fun l Hl hl b=>H (F.gen R).hold ((N.gen Ar).hold Hl) h fun r=>r.let Hl (C:=K) fun r Hr=>q ⟨r.v,r.x,N.ungen r.N,⟨r.le.P,r.le.sh⟩,r.rel,r.q⟩ (b r.N Hr r.le.P)
theorem gw_t {d:DT} {Q:Bool→St→Prop} {K:Bool→Shared→Prop} (H:bW g c k e d) (F:Fr g c k Z) (R:b5 Ar k) (W:GW p N ext done .running) (h:Ok2 (d N.σ) Q) (q:∀ r:li N Q,GW p r.N ext done .running→K r.b r.N.s):wpAny (model g.prog g.w) Ar (isTrue e Z.env (eval e Z.env)) K E N.s :=
 W.go fun l Hl hl b=>H (F.gen R).hold ((N.gen Ar).hold Hl) h fun r=>r.let Hl (C:=K) fun r Hr=>q ⟨r.b,N.ungen r.N,⟨r.le.P,r.le.sh⟩,r.q⟩ (b r.N Hr r.le.P)
theorem gw_g {asg:DG} {v:V} {x:Value} {T:St→Prop} {K:Unit→Shared→Prop} (H:gw g c k e asg) (F:Fr g c k Z) (R:b5 Ar k) (W:GW p N ext done .running) (hv:ao N.P v x) (h:OkV (asg v N.σ) T) (q:∀ M:Now Z,N.Le M→T M.σ→GW p M ext done .running→K () M.s):wpAny (model g.prog g.w) Ar (assign e Z.env x) K E N.s :=
 W.go fun l Hl hl b=>H.hold (N:=N.gen Ar) Hl (F.gen R) hv h fun M le hT Hm=>q (N.ungen M) ⟨le.P,le.sh⟩ hT (b M Hm le.P)
theorem bb.gen {M:Now (Z.gen N.s.gens Ar)} {a:Addr} {o:Obj} (S:bb M a o):bb (N.ungen M) a o:=⟨S.F,S.pl,S.own,S.at_,S.ni⟩
theorem GW.add (W:GW p N [] done st) (S:cn N ext):GW p N ext done st:=W.rec fun H hv hr=>.mk (fun y hy=>(List.mem_append.mp (hy:y∈p.two _ _ []++ext)).elim (H y) (S y)) hv hr
theorem GW.sub (W:GW p N ext done st):GW p N [] done st∧cn N ext:=W.rec fun H hv hr=>⟨.mk (fun y hy=>H y (List.mem_append_left ext hy)) hv hr,fun y hy=>H y (List.mem_append_right (p.two _ _ []) hy)⟩
theorem gw_next {I₀:Addr} {vs:List V} {Q:Option Value→Shared→Prop} (W:GW p N [] done .running) (T:It g N I₀ vs) (hne:I₀≠p.S∧I₀≠p.a) (hA:Ar.handled=none)
 (q1:∀ v r x (M:Now Z),vs=v::r→M.σ=N.σ→ao M.P v x→It g M I₀ r→GW p M [] done .running→Q (some x) M.s) (q2:∀ M:Now Z,vs=[]→M.σ=N.σ→GW p M [] done .running→Q none M.s):wpAny (model g.prog g.w) Ar (pyNext (.ref I₀)) Q E N.s :=
 W.go fun l Hl hl b=>T.keep.elim fun o h=>(h.2 (N.gen Ar) (.refl _) ⟨h.1.F,h.1.pl,h.1.own,h.1.at_,h.1.ni⟩).next hA
  (fun v r x M e eσ le hv T1 hs=>T1.keep.elim fun o1 h1=>q1 v r x (N.ungen M) e eσ hv (h1.2 _ (.refl _) h1.1.gen) (b M (fun y hy=>hs _ _ (Hl y hy) ((hl _ hne y hy).resolve_left fun h=>nomatch h)) le.P))
  fun M e eσ le hs=>q2 (N.ungen M) e eσ (b M (fun y hy=>hs _ _ (Hl y hy) ((hl _ hne y hy).resolve_left fun h=>nomatch h)) le.P)
end
def GY (p:GP) (Z:aE):Protocol:=fun n a v s' kap=>∃ (N:Now Z) (done rem:List V) (u:V),N.s=s'∧done++u::rem=p.us∧rem.length=n∧ao N.P u v∧GW p N [] done .running ∧
 ∀ M:Now Z,M.σ=N.σ→N.Le M→GW p M [] (done++[u]) .running→(∀ b o,b≠p.S→bb N b o→bb M b o)→kap (.send .none) M.s
noncomputable def GR (p:GP) (Z:aE):GenEnd:=fun n a r s=>r=.ok (.ret .none)∧n=0∧∃ N:Now Z,N.s=s∧GW p N [] p.us .running∧N.σ.w=p.w
def kF (g:Gx) (p:GP) (Z:aE) (Ar:Around) (rem:List V) (s₀:Shared) (cd:Code) (t:Sem Fin) (fs:List Frame) (s:Shared):Prop:=Seg (model g.prog g.w) Ar (GR p Z) (GY p Z) rem.length s₀ cd t fs s
section
variable {Z:aE} {N:Now Z} {g:Gx} {c:SC} {k:Nat} {p:GP} {done rem:List V} {u:V} {ext:List (Addr×Obj)} {Ar:Around} {s s₀:Shared} {cd:Code} {fs:List Frame} {pos yp:Pos} {H:Value→Sem Fin} {Kf:Flow→Sem Fin} {gd:Bool→Bool} {lv:List Value→List Value}
theorem dv {α β:Type} {m:Sem α} {f:α→Sem β} {K:β→Sem Fin} (h:wpAny (model g.prog g.w) (Ar.over cd fs) m (fun a s'=>kF g p Z Ar rem s₀ cd ((f a).wrap K H gd lv) fs s') (fun x s'=>kF g p Z Ar rem s₀ cd (H x) fs s') s):kF g p Z Ar rem s₀ cd ((m>>=f).wrap K H gd lv) fs s:=by
 rw [Sem.bind_eq_wrap',Sem.wrap_wrap];exact seg_wrap h
theorem rU {t:Expr} {b1 b2:List Stmt} {dt:DT} {Q:Bool→St→Prop} (Ht:bW g c k t dt) (F:Fr g c k Z) (R:b5 (Ar.over cd fs) k) (W:GW p N ext done .running) (h:Ok2 (dt N.σ) Q)
 (q:∀ r:li N Q,GW p r.N ext done .running→kF g p Z Ar rem s₀ cd ((execs (if r.b then b1 else b2) Z.env).wrap Kf H (fun g=>gd g) lv) fs r.N.s):kF g p Z Ar rem s₀ cd ((exec (.If t b1 b2 pos) Z.env).wrap Kf H gd lv) fs N.s:=by
 rw [exec_If]
 refine dv (wpAny_standAt (dv (gw_t Ht F R W h fun r W=>?_)))
 obtain ⟨b,M,le,hq⟩:=r
 have h:=q ⟨b,M,le,hq⟩ W
 cases b<;>exact h
theorem lU {e:Expr} {d:DE} {Q:V→St→Prop} (He:ak g c k e d) (F:Fr g c k Z) (R:b5 (Ar.over cd fs) k) (hx:∀ x∈ext,x.1≠p.S) (W:GW p N ext done .running) (h:Ok2 (d N.σ) Q) (hQ:∀ v s,Q v s→done++v::rem=p.us)
 (hfs:splitAtGen fs=none) (hgd:gd false=false) (hfg:fs.any Frame.guarded=false) (hco:Z.env.scope.isCoroutine=false)
 (q:∀ M:Now Z,N.Le M→∀ u,Q u M.σ→GW p M ext (done++[u]) .running→kF g p Z Ar rem M.s cd (Kf .next) fs M.s):Seg (model g.prog g.w) Ar (GR p Z) (GY p Z) (rem.length+1) s₀ cd ((exec (.Expr (.Yield (some e) yp) pos) Z.env).wrap Kf H gd lv) fs N.s :=
 seg_Expr_Yield hfs hgd hfg (gw_e He F R W h fun r W kap hkap=>⟨r.N,done,rem,r.v,rfl,hQ _ _ r.q,rfl,r.rel,W.sub.1,fun M eσ le W1 hs=>hkap .none M.s (q M (r.le.trans le) r.v (eσ▸r.q) (W1.add fun x hm=>hs _ _ (hx x hm) (W.sub.2 x hm)))⟩) hco (by unfold interactive;rw [F.X.fn];rfl)
theorem xi {t:Expr} {it:Value} {body:List Stmt} {env:Env}:(model g.prog g.w).den (.forLoop t it body [] env)=(forTurn t it body [] env).onRaise (fun x=>do noteFrame x env;theTreesLotGoes x):=rfl
noncomputable def n5 (te ye:Expr) (yp p1 p2:Pos):List Stmt:=[.If te [.Expr (.Yield (some ye) yp) p1] [] p2]
theorem wB {I₀:Addr} {tg te ye:Expr} {yp p1 p2:Pos} {asg:DG} {dt:DT} {dy:DE} {kr:Result→Sem Fin} {hr:Option Value} {lr:List Value} {c1:Code} {pr:Pos} {kp:List Value}
 (F:Fr g c k Z) (R:b5 (Ar.over (.forLoop tg (.ref I₀) (n5 te ye yp p1 p2) [] Z.env) (.ret kr hr false lr c1 pr kp::fs)) k) (Hg:gw g c k tg asg) (Ht:bW g c k te dt) (Hy:ak g c k ye dy) (hne:I₀≠p.S∧I₀≠p.a)
 (hfs:splitAtGen (.ret kr hr false lr c1 pr kp::fs)=none) (hfg:(Frame.ret kr hr false lr c1 pr kp::fs).any Frame.guarded=false) (hco:Z.env.scope.isCoroutine=false)
 (hend:∀ s₀ (N:Now Z),GW p N [] p.us .running→N.σ.w=p.w→kF g p Z Ar [] s₀ c1 (kr (.ok .next)) fs N.s) :
 ∀ (n:Nat) (vs rem done:List V) (N:Now Z) (s₀:Shared),vs.length=n→done++rem=p.us→It g N I₀ vs→GW p N [] done .running→Ok2 (bR asg dt dy vs N.σ) (fun l s=>l=rem∧s.w=p.w) →
  kF g p Z Ar rem s₀ (.forLoop tg (.ref I₀) (n5 te ye yp p1 p2) [] Z.env) ((model g.prog g.w).den (.forLoop tg (.ref I₀) (n5 te ye yp p1 p2) [] Z.env)) (.ret kr hr false lr c1 pr kp::fs) N.s:=by
 intro n
 induction n using Nat.strongRecOn with
 | _ n ih =>
 intro vs rem done N s₀ hn hd T W h
 rw [xi,Sem.onRaise_eq_wrap]
 unfold forTurn
 refine dv (wpAny_standAt (dv (wpAny_onRaise (gw_next W T hne R.handled (fun v r x M e eσ hv T1 W1=>?_) fun M e eσ W1=>?_))))
 · subst e
   have h1:=uv (eσ.symm▸h:Ok2 (bR asg dt dy (v::r) M.σ) _)
   obtain ⟨o,S,keep⟩:=T1.keep
   refine dv (Hg.noop hv h1 T1.plain (dv (gw_g Hg F R (W1.add (ext:=[(I₀,o)]) fun y hy=>List.mem_singleton.mp hy▸S) hv h1 fun M2 l2 h2 W2=>?_)))
   have again:∀ (done' rem':List V) (s₀:Shared) (M':Now Z),M.P.le M'.P→done'++rem' = p.us→GW p M' [(I₀,o)] done' .running→Ok2 (bR asg dt dy r M'.σ) (fun l s=>l=rem'∧s.w=p.w) →
    kF g p Z Ar rem' s₀ (.forLoop tg (.ref I₀) (n5 te ye yp p1 p2) [] Z.env) (.pure (.again (.forLoop tg (.ref I₀) (n5 te ye yp p1 p2) [] Z.env))) (.ret kr hr false lr c1 pr kp::fs) M'.s :=
    fun done' rem' s₀ M' le hd' W' h'=>seg_again rfl (ih r.length (hn▸Nat.lt_succ_self _) r rem' done' M' s₀ rfl hd' (keep M' le (W'.sub.2 _ (.head _))) W'.sub.1 h')
   rw [Sem.bind_eq_wrap',Sem.wrap_wrap]
   refine seg_execs_cons (rU Ht F R W2 (ub h2) fun a Wa=>?_)
   obtain ⟨b,M3,l3,h3⟩:=a
   cases b with
   | false=>exact seg_execs_nil (seg_execs_nil (again done rem s₀ M3 (l2.P.trans l3.P) hd Wa h3))
   | true =>
    obtain ⟨u,s,e1,l,s',e2,h5,h6⟩:=(ub h3).imp fun d d h=>um2 h
    subst h5
    exact seg_execs_cons (lU (Q:=fun v t=>v=u∧Ok2 (bR asg dt dy r t) fun l' s=>l' = l∧s.w=p.w) Hy F R (fun x hx=>List.mem_singleton.mp hx▸hne.1) Wa ⟨u,s,e1,rfl,l,s',e2,rfl,h6⟩ (fun v d e=>e.1▸hd) hfs rfl hfg hco
     fun M5 l5 v hq W5=>seg_execs_nil (seg_execs_nil (again (done++[u]) l M5.s M5 (l2.P.trans (l3.P.trans l5.P)) ((List.append_assoc ..).trans hd) (hq.1▸W5) hq.2)))
 · subst e
   obtain ⟨rfl,hw⟩:=u2 (eσ.symm▸h:Ok2 (bR asg dt dy [] M.σ) _)
   cases (List.append_nil done).symm.trans hd
   show kF g p Z Ar [] s₀ _ (.pure (.again (.block [] Z.env))) _ _
   refine seg_again rfl ?_
   show kF g p Z Ar [] s₀ _ (((execs [] Z.env).onRaise (fun x=>do noteFrame x Z.env;theTreesLotGoes x))>>=fun f=>pure (Fin.done f)) _ _
   exact seg_bind (wpAny_onRaise (wpAny_execs_nil (seg_leaf (.ok .next) (hend _ M W1 hw))))
end
abbrev SpG:=List V→Wt→Option (List V×Wt)
def qT (names:aq) (params:List Str) (d:St→Option (List V×St)):SpG:=fun vs w =>
 if vs.length=params.length then (d ⟨fB (bv (params.zip vs) (fun a=>none)) names,w⟩).map fun r=>(r.1,r.2.w) else none
def dgen (t1:DT) (di:DI) (asg:DG) (te:DT) (dy:DE) (t3:DT) (dy2:DE):St→Option (List V×St):=fun σ=>(t1 σ).bind fun q=>if q.1 then (di q.2).bind fun r=>bR asg te dy r.1 r.2
 else (t3 q.2).bind fun q3=>if q3.1 then (dy2 q3.2).map fun p=>([p.1],p.2) else some ([],q3.2)
def sJ (C:Addr) (name:Str) (sp:SpG) (d:DE) (ds:List DE):DE:=fun σ=>(d σ).bind fun q=>(asO q.1).bind fun w=>if w.1=C∧w.2.lookup name=none then
 (bY ds q.2).bind fun r=>(sp (q.1::r.1) r.2.w).bind fun z=>if z.1.length≤LIM then some (.lst z.1,{ r.2 with w:=z.2 }) else none else none
theorem b5.func {Ar:Around} {k:Nat} {b:List Stmt} {env:Env} (R:b5 Ar (k+1)):b5 (Ar.over (.func b env) []) k :=
 ⟨(Nat.add_right_comm Ar.depth 1 k).symm▸R.depth,(by have:=R.units;show Ar.units+0+3+8 * k+40<_;omega),R.handled⟩
theorem b5.loop {Ar:Around} {k:Nat} {b B:List Stmt} {env env':Env} {t:Expr} {it:Value} {kr:Result→Sem Fin} {lr:List Value} {p:Pos} {kp:List Value} (R:b5 Ar (k+1)):b5 (Ar.over (.forLoop t it b [] env') [.ret kr none false lr (.func B env) p kp]) k :=
 ⟨(Nat.add_right_comm Ar.depth 1 k).symm▸R.depth,(by have:=R.units;show Ar.units+3+0+8 * k+40<_;omega),R.handled⟩
section
variable {Z:aE} {N:Now Z} {g:Gx} {c:SC} {k:Nat} {p:GP} {done rem:List V} {u:V} {ext:List (Addr×Obj)} {Ar:Around} {s s₀:Shared} {cd:Code} {fs:List Frame} {pos yp:Pos} {H:Value→Sem Fin} {Kf:Flow→Sem Fin} {gd:Bool→Bool} {lv:List Value→List Value}
theorem tX {A:Act} {l:List (Addr×Obj)} {a:Addr} {x:Addr×Obj} (h:(A.hold l).hp a=none) (hx:x∈l):a≠x.1:=fun e=>(tY hx).elim fun b q=>aL ((Option.or_eq_none_iff.mp (e▸h:(A.hold l).hp x.1=none)).2.symm.trans q)
theorem gw_i {e:Expr} {di:DI} {Q:List V→St→Prop} {K E:Value→Shared→Prop} (Hi:kG g c k e di) (F:Fr g c k Z) (R:b5 Ar k) (W:GW p N [] done .running) (h:Ok2 (di N.σ) Q)
 (q:∀ (M:Now Z) l I₀,Q l M.σ→It g M I₀ l→I₀≠p.S∧I₀≠p.a→GW p M [] done .running→K (.ref I₀) M.s):wpAny (model g.prog g.w) Ar (eval e Z.env) (fun x s1=>wpAny (model g.prog g.w) Ar (pyIter x) K E s1) E N.s:=by
 obtain @⟨acc,cc,H,hv,hr⟩:=W
 have Hl:cn (N.gen Ar) (p.two acc cc []):=fun x hx=>have S:=H x hx;⟨S.F,S.pl,S.own,S.at_,S.ni⟩
 refine Hi (F.gen R).hold ((N.gen Ar).hold Hl) h fun r=>?_
 obtain ⟨v,I₀,M,le,T,hq⟩:=r
 obtain ⟨o,S,keep⟩:=T.it.keep
 have nS:=tX S.F.2.2 (.head _)
 have na:=tX S.F.2.2 (.tail _ (.head _))
 obtain ⟨M',L⟩:=Now.unhold Hl M le.P
 have hm:GW p (Now.ungen N M') [] done .running:=.mk (acc:=acc) (c:=cc) (fun x hx=>(L.H x hx).gen) (hv.up (L.P▸le.P)) (M'.I.gens _ _ hr)
 have S':bb M' I₀ o:=⟨L.P▸⟨S.F.1,S.F.2.1,(Option.or_eq_none_iff.mp S.F.2.2).1⟩,S.pl,L.own▸S.own,L.s▸S.at_,S.ni⟩
 exact L.s▸q (Now.ungen N M') v I₀ (L.σ▸hq:Q v M'.σ) (keep (Now.ungen N M') (L.P▸.refl _:M.P.le M'.P) S'.gen) ⟨nS,na⟩ hm
def yh (t1 tg it te ye t3 ye2:Expr) (yp p1 p2 p3 p4 p5 p6 yp2:Pos):List Stmt:=[.If t1 [.For tg it (n5 te ye yp p1 p2) [] p3] [.If t3 [.Expr (.Yield (some ye2) yp2) p4] [] p5] p6]
theorem qs {t1 tg it te ye t3 ye2:Expr} {p1 p2 p3 p4 p5 p6 yp2:Pos} {d1:DT} {di:DI} {asg:DG} {dt:DT} {dy:DE} {d3:DT} {dy2:DE}
 (H1:bW g c k t1 d1) (Hi:kG g c k it di) (Hg:gw g c k tg asg) (Ht:bW g c k te dt) (Hy:ak g c k ye dy) (H3:bW g c k t3 d3) (Hy2:ak g c k ye2 dy2)
 (hs:∀ env x,foldedSetIterable it env x=pure x) (F:Fr g c k Z) (R:b5 Ar (k+1)) (hco:Z.env.scope.isCoroutine=false) (W:GW p N [] [] .running) (h:Ok2 (dgen d1 di asg dt dy d3 dy2 N.σ) fun l s=>l=p.us∧s.w=p.w) :
 kF g p Z Ar p.us s₀ (.func (yh t1 tg it te ye t3 ye2 yp p1 p2 p3 p4 p5 p6 yp2) Z.env) ((model g.prog g.w).den (.func (yh t1 tg it te ye t3 ye2 yp p1 p2 p3 p4 p5 p6 yp2) Z.env)) [] N.s:=by
 have fin:∀ (s₀:Shared) (cd:Code) (N:Now Z),GW p N [] p.us .running→N.σ.w=p.w→kF g p Z Ar [] s₀ cd (.pure (.done (.ret .none))) [] N.s:=fun s₀ cd N W hw=>seg_end (.ok (.ret .none)) ⟨rfl,rfl,N,rfl,W,hw⟩
 refine seg_func (seg_execs_cons (rU H1 F R.func W (ub h) fun r W1=>?_))
 obtain ⟨b,M,le,hq⟩:=r
 cases b with
 | true =>
  refine seg_execs_cons ?_
  rw [exec_For]
  refine dv (wpAny_standAt (dv (wpAny_mono (gw_i (E:=fun d d=>False) (K:=fun x s=>∃ (N:Now Z) (l:List V) (I₀:Addr),x=.ref I₀∧N.s=s∧Ok2 (bR asg dt dy l N.σ) (fun l s=>l=p.us∧s.w=p.w)∧It g N I₀ l∧(I₀≠p.S∧I₀≠p.a)∧GW p N [] [] .running) Hi F R.func W1 (ub hq) fun N l I h1 h2 h3 h4=>⟨N,l,I,rfl,rfl,h1,h2,h3,h4⟩) (fun x s2 hx=>dv (wpAny_of_eq (hs Z.env x)
   (dv (wpAny_standAt (dv (wpAny_holding (wpAny_mono hx (fun itv s3 hr=>?_) fun d d e=>e.elim))))))) fun d d e=>e.elim)))
  obtain ⟨N,l,I₀,rfl,rfl,h1,h2,h3,h4⟩:=hr
  exact seg_call fun pp=>wB F R.loop Hg Ht Hy h3 rfl rfl hco (fun s₀ N W hw=>fin _ _ N W hw) l.length l p.us [] N s₀ rfl rfl h2 h4 h1
 | false =>
  refine seg_execs_cons (rU H3 F R.func W1 (ub hq) fun r W2=>?_)
  obtain ⟨b3,M2,le2,hq2⟩:=r
  cases b3 with
  | true =>
   obtain ⟨u,s,e1,e2,e3⟩:=um2 hq2
   have hl:p.us.length=1:=congrArg List.length e2.symm
   show Seg _ _ _ _ p.us.length _ _ _ _ _
   rw [hl]
   exact seg_execs_cons (lU (rem:=[]) (Q:=fun v t=>[v]=p.us∧t.w=p.w) Hy2 F R.func (ext:=[]) (fun d h=>nomatch h) W2 (um2 hq2) (fun d d e=>e.1) rfl rfl rfl hco fun M5 l5 v hq W5=>seg_execs_nil (seg_execs_nil (seg_execs_nil (fin _ _ M5 (hq.1▸W5) hq.2))))
  | false =>
   obtain ⟨e,hw⟩:=u2 hq2
   have hl:p.us.length=0:=congrArg List.length e.symm
   show Seg _ _ _ _ p.us.length _ _ _ _ _
   rw [hl]
   exact seg_execs_nil (seg_execs_nil (seg_execs_nil (fin _ _ M2 (e▸W2) hw)))
end
section
variable {Z:aE} {N:Now Z} {g:Gx} {c:SC} {k gi:Nat} {p:GP} {done rem us:List V} {u:V} {ext:List (Addr×Obj)} {Ar:Around} {s s₀:Shared} {st st':GenState} {R₀:Result→Shared→Prop} {E:Value→Shared→Prop}
theorem rT (h:s.gens[gi]? = some st) (st':GenState):(s.setGen gi st').gens[gi]? = some st':=by
 have hs:gi<s.gens.size:=(Array.getElem?_eq_some_iff.mp h).1
 simp [Shared.setGen,hs]
theorem u6 {j:Nat} (h:j≠gi) (st':GenState):(s.setGen gi st').gens[j]? = s.gens[j]?:=by
 simp [Shared.setGen,Ne.symm h]
theorem qp {st':GenState} (h:∀ y∈s.gens,y.bare=true) (hb:st'.bare=true):∀ y∈(s.setGen gi st').gens,y.bare=true:=fun y hy =>
 (Array.mem_or_eq_of_mem_setIfInBounds hy).elim (h y) fun e=>e▸hb
noncomputable def Now.setGen (N:Now Z) (C:GC g p Z) (st:GenState) (hb:st.bare=true):Now Z :=
 N.moved (wr:=[]) (s':=N.s.setGen p.gi st) (fun a h=>nomatch h) (fun a a a e=>e) (fun j x e=>(u6 (C.lt j x e) _).trans (N.I.gens j x e)) rfl rfl (qp N.I.bg hb)
theorem GW.setGen (W:GW p N ext done st) (C:GC g p Z) (hb:st'.bare=true):GW p (N.setGen C st' hb) ext done st':=W.rec fun H hv hr=>.mk (fun x hx=>have S:=H x hx;⟨S.F,S.pl,S.own,S.at_,S.ni⟩) hv (rT hr st')
theorem GW.keeps {h':Heap} {t:Nat} (W:GW p N ext done st) (k:∀ a o,N.s.heap.get? a=some o→h'.get? a=some o):GW p (N.keeps t k) ext done st:=W.rec fun H hv hr=>.mk (fun x hx=>have S:=H x hx;⟨S.F,S.pl,S.own,k _ _ S.at_,S.ni⟩) hv hr
theorem u9 {prog:Program} {w:World} {A:Around} {a:Addr} {n:Nat} {gs:GenState} {R:Nat→Shared→Shared→Prop} {Y:Protocol} {Q:Option Value→Shared→Prop} (hh:A.handled=none) (hl:s.heap.NoLimit) (hd:A.depth<recursionLimit)
 (ho:s.heap.IsGen a gi) (hs:s.gens[gi]? = some gs)
 (hgo:gs.Goes (model prog w) A.in1 (fun n s₀ r s₁=>r=.ok (.ret .none)∧R n s₀ s₁) Y n (.send .none) (s.setGen gi .running))
 (hy:∀ v s₁ gs',gs'.bare=true→Y (n - 1) (s.setGen gi .running) v s₁ (fun r' s2=>match n with
  | 0=>False
  | m+1=>gs'.Goes (model prog w) A.in1 (fun n s₀ r s₁=>r=.ok (.ret .none)∧R n s₀ s₁) Y m r' s2)→Q (some v) (s₁.setGen gi gs'))
 (he:∀ s₁,R n (s.setGen gi .running) s₁→∀ h',(∀ b o,s₁.heap.get? b=some o→h'.get? b=some o)→Q none { s₁.setGen gi .finished with heap:=h' }) :
 wpAny (model prog w) A (pyNext (.ref a)) Q E s:=by
 unfold pyNext
 refine wpAny_bind (wpAny_attempt (wpAny_callSpecial?_slot (name:=Str.ofString "__next__") ho.typeIs slot_gen_next (wpAny_call_entry slot_gen_next ho.typeIs entry_gen_next ?_ (args_gen_next _))))
 show wpAny _ _ (Builtin.Generator.genWake (.ref a) (.send .none)) _ _ s
 unfold Builtin.Generator.genWake
 refine wpAny_bind (wpAny_holding (wpAny_genNumber ho (wpAny_bind (wpAny_genState hs ?_))))
 cases gs with
 | running=>exact hgo.elim
 | finished=>exact hgo.elim
 | _ =>
  refine wpAny_bind (wpAny_roomToWake hl hd ?_)
  show wpAny _ _ (.resume gi (.send .none) [] _) _ _ s
  refine wpAny_resumeQ hs hgo (fun x s₁ hx=>?_) (fun v s₁ gs' hb hv=>wpAny_pure ⟨v,rfl,wpAny_pure (hy v s₁ gs' hb hv)⟩)
  obtain ⟨rfl,hr⟩:=hx
  show wpAny _ _ (newExc (.type "StopIteration") []>>=_) _ _ _
  refine wpAny_bind ?_
  unfold newExc newTuple
  refine wpAny_bind (wpAny_newObj_type (wpAny_bind (m:=firstArgMember _ _) (wpAny_of_eq (a:=Value.none) (by first | rfl | (simp only [firstArgMember];rfl)) (wpAny_newObj_type ?_ (by size_fits)))) (by size_fits))
  unfold raiseNew
  refine wpAny_bind (wpAny_bind (wpAny_handled ?_))
  rw [show A.in1.handled=none from hh]
  exact wpAny_throw (wpAny_bind (wpAny_isInstance (T := "StopIteration") (b:=true) ⟨_,Heap.get?_push_size _ rfl,rfl⟩ isSubtype_stop (wpAny_pure (he s₁ hr _ fun b o z=>Heap.get?_push_of_some _ (Heap.get?_push_of_some _ z)))))
theorem u8 {S:Addr} {h:Heap} {acc:List Value} {cc:Nat} {v:Value} (e:h.get? S=some (kE acc cc)):∃ n',(h.update S (Obj.mapSeq (·.push v))).get? S=some (kE (acc++[v]) n'):=by
 rw [Heap.get?_update_self (Obj.mapSeq (·.push v)) e rfl]
 simp only [Obj.mapSeq,List.push_toArray]
 exact ⟨_,rfl⟩
theorem GW.push {v:Value} {C:Prop} (W:GW p N [] done st) (Cn:GC g p Z) (hv:ao N.P u v) (q:∀ (M:Now Z) acc cc,M.s={ N.s with heap:=N.s.heap.update p.S (Obj.mapSeq (·.push v)) }→M.σ=N.σ→N.Le M→N.s.heap.get? p.S=some (kE acc cc)→acc.length=done.length→GW p M [] (done++[u]) st →
 (∀ b o,b≠p.S→bb N b o→bb M b o)→C):C:=by
 obtain @⟨acc,cc,H,hvs,hr⟩:=W
 have S:=H _ (.head _)
 have T:=H _ (.tail _ (.head _))
 obtain ⟨n',hn'⟩:=u8 (v:=v) S.at_
 have k:∀ b o,b≠p.S→N.s.heap.get? b=some o→(N.s.heap.update p.S (Obj.mapSeq (·.push v))).get? b=some o:=fun b o hb e=>(Heap.get?_update_other _ _ (Ne.symm hb)).trans e
 exact q (N.other S N.s.toks k) acc cc rfl rfl ⟨.refl _,fun a a e=>e⟩ S.at_ hvs.length
  (.mk (acc:=acc++[v]) (c:=n') (fun x hx=>(List.mem_cons.mp hx).elim (fun e=>e▸S.to hn' fun a a e=>nomatch e) fun hx=>List.mem_singleton.mp hx▸T.to (k _ _ Cn.ne.symm T.at_) T.ni) (hvs.append (bk hv bz)) hr) fun b o hb T=>T.to (k b o hb T.at_) T.ni
theorem vf (G:GOk g) (Cn:GC g p Z) (hh:Ar.handled=none) (hroom:Ar.depth<recursionLimit) (hlim:p.us.length≤1000000) (res:Value)
 (hR:∀ (N:Now Z) (st:GenState),GW p N [] p.us st→N.σ.w=p.w→R₀ (.ok (.ret res)) N.s):∀ (n:Nat) (N:Now Z) (done rem:List V) (st:GenState),rem.length=n→done++rem=p.us→GW p N [] done st →
  st.Goes (model g.prog g.w) Ar.in1.in1 (GR p Z) (GY p Z) n (.send .none) (N.s.setGen p.gi .running)→codeAny (model g.prog g.w) Ar (.builtin "list.extend.loop" ⟨[.ref p.S,.ref p.a,res],[]⟩) R₀ N.s:=by
 intro n
 induction n using Nat.strongRecOn with
 | _ n ih =>
 intro N done rem st hn hd W hgo
 obtain @⟨acc0,cc0,H,hvs,hr⟩:=id W
 have T:=H _ (.tail _ (.head _))
 have ho:N.s.heap.IsGen p.a p.gi:=⟨_,_,_,T.at_,rfl,rfl,rfl⟩
 refine codeAny_builtin F.entry_extend_loop ?_
 rw [Around.under_plainId F.plain_extend_loop _]
 show wpAny _ Ar.in1 (pyNext (.ref p.a)>>=_) _ _ N.s
 refine wpAny_bind (u9 (n:=n) (R:=fun n c s=>n=0∧∃ N:Now Z,N.s=s∧GW p N [] p.us .running∧N.σ.w=p.w) hh (N.noLimit Cn.base G) hroom ho hr hgo (fun v s₁ gs' hbare hY=>?_) fun s₁ hE h' hk'=>?_)
 · obtain ⟨N1,done1,rem1,u,rfl,h1,h2,hv,W1,hkap⟩:=hY
   refine W1.push Cn hv fun M acc cc e1 e2 le e3 e4 W2 hs=>?_
   obtain ⟨σ2,P2,own2,s2,I2⟩:=M
   obtain rfl:s2=_:=e1
   cases n with
   | zero=>exact (hkap _ e2 le W2 hs).elim
   | succ m =>
    have hl:acc.length≤1000000:=Nat.le_trans (Nat.le_of_eq e4) (Nat.le_trans (h1▸Nat.le_trans (Nat.le_add_right _ _) (Nat.le_of_eq List.length_append.symm)) hlim)
    show wpAny _ Ar.in1 (updateSeq p.S (·.push v)>>=_) _ _ _
    exact wpAny_bind (wpAny_updateSeq (show (N1.s.setGen p.gi gs').heap.get? p.S=some (kE acc cc) from e3) rfl (wpAny_pure ⟨plainId_quiet F.plain_extend_loop _,ih m (Nat.lt_succ_self m) (Now.setGen ⟨σ2,P2,own2,_,I2⟩ Cn gs' hbare) (done1++[u]) rem1 gs' h2 ((List.append_assoc ..).trans h1) (W2.setGen Cn hbare)
     (hkap (Now.setGen (Now.setGen ⟨σ2,P2,own2,_,I2⟩ Cn gs' hbare) Cn .running rfl) e2 ⟨le.P,le.sh⟩ ((W2.setGen Cn hbare).setGen Cn rfl) fun b o hb S=>have S:=hs b o hb S;⟨S.F,S.pl,S.own,S.at_,S.ni⟩)⟩) (by rw [sizeLine_eq];simp;omega) (by rw [sizeLine_eq];simp;omega))
 · obtain ⟨rfl,N1,rfl,W1,hw⟩:=hE
   exact wpAny_pure (hR ((N1.setGen Cn .finished rfl).keeps N1.s.toks hk') .finished ((W1.setGen Cn rfl).keeps hk') hw)
theorem vg (G:GOk g) (Cn:GC g p Z) (hh:Ar.handled=none) (hroom:Ar.depth<recursionLimit) (hlim:p.us.length≤1000000) (hR:∀ (N:Now Z) (st:GenState),GW p N [] p.us st→N.σ.w=p.w→R₀ (.ok (.ret .none)) N.s)
 (hS:cn N (p.two [] 0 [])) (hr:N.s.gens[p.gi]? = some st) (hgo:∀ M:Now Z,M.σ=N.σ→GW p M [] [] .running→st.Goes (model g.prog g.w) Ar.in1.in1 (GR p Z) (GY p Z) p.us.length (.send .none) M.s) :
 wpAny (model g.prog g.w) Ar.in1 (Builtin.«list.__init__» ⟨[.ref p.S,.ref p.a],[]⟩)
  (fun fin s'=>match fin with | .done f=>R₀ (.ok f) s' | .again c'=>c'.quiet=true∧codeAny (model g.prog g.w) Ar c' R₀ s') (fun e s'=>R₀ (.error e) s') N.s:=by
 have S:bb N p.S (kE [] 0):=hS _ (.head _)
 have T:bb N p.a (s9 p.gi p.nm p.qn):=hS _ (.tail _ (.head _))
 have S2:=Heap.get?_update_self (Obj.mapSeq (fun d=>(#[]:Array Value))) S.at_ rfl
 have S3:=Heap.get?_update_self (Obj.mapSeq (·.push Value.none)) S2 rfl
 obtain ⟨n',S4⟩:∃ n',(((N.s.heap.update p.S (Obj.mapSeq (fun d=>(#[]:Array Value)))).update p.S (Obj.mapSeq (·.push Value.none))).update p.S (Obj.mapSeq (·.pop))).get? p.S=some (kE [] n'):=⟨_,Heap.get?_update_self (Obj.mapSeq (·.pop)) S3 rfl⟩
 have k0:∀ b o,b≠p.S→N.s.heap.get? b=some o→(N.s.heap.update p.S (Obj.mapSeq (fun d=>(#[]:Array Value)))).get? b=some o:=fun b o hb e=>(Heap.get?_update_other _ _ (Ne.symm hb)).trans e
 have T1:({ N.s with heap:=N.s.heap.update p.S (Obj.mapSeq (fun d=>(#[]:Array Value))) }:Shared).TypeIs (.ref p.a) "generator" := ⟨_,k0 _ _ Cn.ne.symm T.at_,rfl⟩
 show wpAny _ Ar.in1 (do let old ← Builtin.List.listItems (.ref p.S);Builtin.List.listUpdate (.ref p.S) (fun d=>#[]);letGo old.toList.reverse;Builtin.List.listExtendWith (.ref p.S) (.ref p.a) .none) _ _ N.s
 refine wpAny_bind ?_
 unfold Builtin.List.listItems
 refine wpAny_bind (wpAny_seqItems S.at_ rfl (wpAny_pure ?_))
 show wpAny _ Ar.in1 (updateSeq p.S (fun d=>#[])>>=fun d=>letGo (#[]:Array Value).toList.reverse>>=fun d=>Builtin.List.listExtendWith (.ref p.S) (.ref p.a) .none) _ _ N.s
 refine wpAny_bind (wpAny_updateSeq S.at_ rfl (wpAny_bind (wpAny_letGo ?_)) (Nat.zero_le _) (Nat.zero_le _))
 unfold Builtin.List.listExtendWith
 refine wpAny_bind (wpAny_typeOf T1 ?_)
 have h1:Builtin.List.listSameRef (.ref p.S) (.ref p.a)=false:=by simp [Builtin.List.listSameRef,Cn.ne]
 rw [h1]
 refine wpAny_bind (wpAny_pyIter_gen ⟨_,p.nm,p.qn,k0 _ _ Cn.ne.symm T.at_,rfl,rfl,rfl⟩ (wpAny_bind (wpAny_holding ?_)))
 unfold Builtin.List.listLengthHint
 refine wpAny_bind (wpAny_specialOf T1 PySem.F.gen_no_len ?_)
 show wpAny _ Ar.in1 (specialOf (Value.ref p.a) (Str.ofString "__length_hint__")>>=_) _ _ _
 refine wpAny_bind (wpAny_specialOf T1 PySem.F.gen_no_hint (wpAny_pure ?_))
 show wpAny _ Ar.in1 (rule "list.extend.makes-room" >>= fun d=>Builtin.List.listTouch (.ref p.S)>>=fun d =>
  again (.builtin "list.extend.loop" ⟨[.ref p.S,.ref p.a,.none],[]⟩)) _ _ _
 refine wpAny_bind (wpAny_rule (wpAny_bind ?_))
 show wpAny _ Ar.in1 (updateSeq p.S (·.push .none)>>=fun d=>updateSeq p.S (·.pop)) _ _ _
 have k:∀ b o,b≠p.S→N.s.heap.get? b=some o→(((N.s.heap.update p.S (Obj.mapSeq (fun d=>(#[]:Array Value)))).update p.S (Obj.mapSeq (·.push Value.none))).update p.S (Obj.mapSeq (·.pop))).get? b=some o :=
  fun b o hb e=>(Heap.get?_update_other _ _ (Ne.symm hb)).trans ((Heap.get?_update_other _ _ (Ne.symm hb)).trans (k0 b o hb e))
 have W:GW p (N.other S N.s.toks k) [] [] st:=.mk (acc:=[]) (c:=n') (fun x hx=>(List.mem_cons.mp hx).elim (fun e=>e▸S.to S4 fun d d e=>nomatch e) fun hx=>List.mem_singleton.mp hx▸T.to (k _ _ Cn.ne.symm T.at_) T.ni) bz hr
 refine wpAny_bind (wpAny_updateSeq S2 rfl ?_ (Nat.zero_le _) (Nat.le_add_left 1 _))
 refine wpAny_updateSeq S3 rfl ?_ (by rw [sizeLine_eq];exact (by decide:1≤16777216)) (Nat.zero_le _)
 exact wpAny_pure (⟨plainId_quiet PySem.F.plain_extend_loop _,vf G Cn hh hroom hlim .none hR p.us.length (N.other S N.s.toks k) [] p.us st rfl rfl W (hgo (Now.setGen _ Cn .running rfl) rfl (W.setGen Cn rfl))⟩)
end
def ConG (g:Gx) (k:Nat) (a:Addr) (sp:SpG):Prop :=
 ∀ {Z:aE} (R:b5 Z.Ar k) (B:ec g Z.A) (N:Now Z) {vs:List V} {xs:List Value} {Q:V→St→Prop} {K:Value→Shared→Prop} {E:Value→Shared→Prop},
  VRels N.P vs xs→Ok2 (sp vs N.σ.w) (fun l w=>l.length≤LIM∧Q (.lst l) { N.σ with w:=w })→(∀ r:Res N Q,K r.x r.N.s) →
   wpAny (model g.prog g.w) Z.Ar (call (.ref a) xs) (fun x s1=>wpAny (model g.prog g.w) Z.Ar (call (.type "list") [x]) K E s1) E N.s
section
variable {Z:aE} {N:Now Z} {g:Gx} {c:SC} {k:Nat} {K:Frag} {C fa a:Addr} {names:aq} {params:List Str} {fd:FuncData} {cd:Option Value} {d:DE} {ds:List DE} {sp:SpG}
theorem con_gen {t1 tg it te ye t3 ye2:Expr} {yp p1 p2 p3 p4 p5 p6 yp2:Pos} {d1:DT} {di:DI} {asg:DG} {dt:DT} {dy:DE} {d3:DT} {dy2:DE} (G:GOk g) (F:vR true g a fd names params (yh t1 tg it te ye t3 ye2 yp p1 p2 p3 p4 p5 p6 yp2))
 (H1:bW g (scC names cd) k t1 d1) (Hi:kG g (scC names cd) k it di) (Hg:gw g (scC names cd) k tg asg) (Ht:bW g (scC names cd) k te dt) (Hy:ak g (scC names cd) k ye dy) (H3:bW g (scC names cd) k t3 d3) (Hy2:ak g (scC names cd) k ye2 dy2)
 (hs:∀ env x,foldedSetIterable it env x=pure x) (hcd:∀ v,cd=some v→fd.code=v:=by intro _ h;cases h):ConG g (k+4) a (qT names params (dgen d1 di asg dt dy d3 dy2)):=by
 intro Z R B N vs xs Q K E hx h q
 obtain ⟨hlen,us,σ',e1,hlim,hq⟩:=(uib h).imp_right um2
 obtain ⟨o,h1,h2⟩:=F.at_.at_
 refine wpAny_call (codeAny_call_generator (Nat.lt_of_le_of_lt (Nat.le_add_right ..) R.depth) (N.base B h1) h2 F.co F.gen F.body_ (bS F.code fun d d=>N.base B) ?_)
 rw [F.bind xs (hx.length.trans hlen),F.clo]
 refine wpAny_pure (wpAny_newFunctionEnv_cells F.kind (f8 F xs _) fun env he s₁ X=>?_)
 obtain rfl:env=callEnvC fd N.s.heap.objs.size a:=he
 refine ⟨(N.noLimit B G).keeps X.toInCall.keep,?_⟩
 obtain ⟨M,e2,rfl,e3⟩:=f7 (Z:=Z) (fr:=[]) F hx (fun d h=>nomatch h) X
 have hsz:M.s.heap.objs.size≠M.s.heap.objs.size+1:=Nat.ne_of_lt (Nat.lt_succ_self _)
 refine callType_codes (Q₁:=fun obj s₁=>obj=.ref (M.s.heap.objs.size+1)∧s₁={ M.s with heap:=(M.s.heap.push (s9 M.s.gens.size (.str fd.name M.s.toks) (.str fd.qualname (M.s.toks+1)))).push (kE [] 0),gens:=M.s.gens.push (.fresh (.func (yh t1 tg it te ye t3 ye2 yp p1 p2 p3 p4 p5 p6 yp2) (callEnvC fd N.s.heap.objs.size a))),toks:=M.s.toks+1+1 }) PySem.F.called_list (PySem.F.typeCall_list_1 _) PySem.F.entry_list_init
  (code_list_new _ ⟨by rw [Heap.size_push],rfl⟩) fun obj s₁ h₁=>?_
 obtain ⟨rfl,rfl⟩:=h₁
 have k2:∀ b o,M.s.heap.get? b=some o→((M.s.heap.push (s9 M.s.gens.size (.str fd.name M.s.toks) (.str fd.qualname (M.s.toks+1)))).push (kE [] 0)).get? b=some o:=fun b o e=>Heap.get?_push_of_some _ (Heap.get?_push_of_some _ e)
 have hS:((M.s.heap.push (s9 M.s.gens.size (.str fd.name M.s.toks) (.str fd.qualname (M.s.toks+1)))).push (kE [] 0)).get? (M.s.heap.objs.size+1)=some (kE [] 0):=Heap.size_push M.s.heap (s9 M.s.gens.size (.str fd.name M.s.toks) (.str fd.qualname (M.s.toks+1)))▸Heap.get?_push_size _ rfl
 refine ⟨⟨_,hS,rfl⟩,PySem.F.args_list_init_2 _ _,?_⟩
 have above:∀ b,M.s.heap.objs.size≤b→M.s.heap.get? b=none:=fun b h=>aG fun o e=>Nat.lt_irrefl _ (Nat.lt_of_lt_of_le (Heap.lt_size e) h)
 let p:GP:=⟨M.s.heap.objs.size+1,M.s.heap.objs.size,M.s.gens.size,.str fd.name M.s.toks,.str fd.qualname (M.s.toks+1),us,σ'.w⟩
 let M1:=M.moved (wr:=[]) (s':={ M.s with heap:=(M.s.heap.push (s9 M.s.gens.size (.str fd.name M.s.toks) (.str fd.qualname (M.s.toks+1)))).push (kE [] 0),gens:=M.s.gens.push (.fresh (.func (yh t1 tg it te ye t3 ye2 yp p1 p2 p3 p4 p5 p6 yp2) (callEnvC fd N.s.heap.objs.size a))),toks:=M.s.toks+1+1 }) (fun d h=>nomatch h) (fun b o d=>k2 b o)
  (fun j x e=>have e':=M.I.gens j x e;have hj:=(Array.getElem?_eq_some_iff.mp e').1;(Array.getElem?_push_lt hj).trans ((Array.getElem?_eq_getElem hj).symm.trans e')) rfl rfl (AllBare.push (gens:=M.s.gens) M.I.bg rfl)
 have Cn:GC g p (kU Z N.s N.P [] fd a names):=⟨zG B,Nat.succ_ne_self _,fun j x e q=>Nat.lt_irrefl _ (q▸(Array.getElem?_eq_some_iff.mp (M.I.gens j x e)).1)⟩
 have oS:=M.out (above (M.s.heap.objs.size+1) (Nat.le_succ _))
 have oa:=M.out (above M.s.heap.objs.size (Nat.le_refl _))
 refine vg (p:=p) (N:=M1) (Ar:=Z.Ar.in1) G Cn R.handled (Nat.lt_of_le_of_lt (Nat.le_add_right ..) R.depth) (Nat.le_trans hlim (by decide)) (fun N' st W hw=>?_) (fun x hx=>(List.mem_cons.mp hx).elim (fun e=>e▸⟨oS.F,oS.pl,oS.own,hS,fun d d e=>nomatch e⟩) fun hx=>List.mem_singleton.mp hx▸⟨oa.F,oa.pl,oa.own,Heap.get?_push_of_some _ (Heap.get?_push_size _ rfl),fun d d e=>nomatch e⟩)
  (Array.getElem?_push_size ..) fun N' eσ W=>⟨rfl,qs (c:=scC names cd) H1 Hi Hg Ht Hy H3 Hy2 hs ⟨i5 hcd F _,(R.deeper _).le (Nat.le_add_right ..),zG B,fun d d h=>nomatch h⟩ (gL (gL (gL R (Nat.le_refl _)) (Nat.le_refl _)) (Nat.le_refl _)) F.co W ⟨us,σ',(congrArg _ (eσ.trans e2)).trans e1,rfl,rfl⟩⟩
 obtain @⟨acc,cc,H,hv,hr⟩:=W
 have S:bb N' p.S (kE acc cc):=H _ (.head _)
 exact ⟨rfl,q ⟨.lst us,.ref p.S,N.back (N'.layS S) rfl (fun d h=>nomatch h),⟨(N'.layS S).I.le,fun d d e=>e⟩,eA ⟨_,cc,Gh.put_self ..,rfl,rfl⟩ (hv.up (Gh.put_le S.F.1)),(hw▸hq:Q (.lst us) { N.σ with w:=N'.σ.w })⟩⟩
theorem n6 {f e:Expr} {name:Str} {ap pos pos2:Pos} {args:List Expr} (KI:K.In g.h0) (T:pR K C name fa) (Hf:ak g c k f (dk (.ty "list"))) (H:ak g c k e d) (HC:ConG g k fa sp) (Ha:eK g c k args ds)
 (hn:∀ env,∃ e r,backTo pos (starEach args env)=(false,e)::r) (hp:∀ env,(backTo pos (starEach args env)).any (·.1)=false)
 (hb:∀ env,attributeBase e name env (eval e env)=eval e env) (hl:(ap.endLine==pos.line)=true)
 (hfew:∀ env,methodCallForm (args.length+([]:List Keyword).length) (backTo pos (starEach args env)) (backToKw pos (keywordEach [] env))=true)
 (hs:∀ env,starEach [.Call (.Attribute e name ap) args [] pos] env=[(false,eval (.Call (.Attribute e name ap) args [] pos) env)])
 (he:∀ env,eval (.Call f [.Call (.Attribute e name ap) args [] pos] [] pos2) env=(do callWith pos2 (← eval f env) [] (backTo pos2 (starEach [.Call (.Attribute e name ap) args [] pos] env)) (backToKw pos2 (keywordEach [] env)))) :
 ak g c k (.Call f [.Call (.Attribute e name ap) args [] pos] [] pos2) (sJ C name sp d ds) :=
 fun F N Q K' E h q=>PyProof.Rows.Call_ (Hf F N (Q:=fun v s=>v=.ty "list" ∧ Ok2 (sJ C name sp d ds s) Q) (ok2 ⟨rfl,h⟩) fun y0=>j8 (C:=fun y'=>wpAny _ _ (callWith pos2 y' [] _ _) _ E y0.N.s) (y0.q.1▸y0.rel) (hs _▸PySem.callWith_type1 (fX (hb _) (hfew _) hl (H F y0.N (ub y0.q.2) fun y pl'=>(uv y.q).elim fun w h=>have h1:=uib h.2
  jk (C:=fun x=>ao y.N.P y.v x→wpAny _ _ (getMethod x name pl') (fun fx s=>wpAny _ _ (callWith pos fx.1 fx.2 _ _) (fun x s1=>wpAny _ _ (call (.type "list") [x]) K' E s1) E s) E y.N.s) (y.rel.as (nr h.1)) (fun a dx es q1 q2 q3 hx=>q2.elim fun n q2 =>
   method_fn (fun b o e=>y.N.base F.B (KI b o e)) (show InstAt y.N.s.heap a (instObj C dx) C (some (dictOf es n)) from ⟨y.N.I.pin _ _ (q1.trans (congrArg (fun c=>some (instObj c dx)) h1.1.1)),rfl,rfl,y.N.I.pin _ _ q2⟩)
    (plainGet_of T.get).1 (plainGet_of T.get).2 T.find (beq_iff_eq.mp T.fn) (by show (lookIn name (dictOf es n)).map _=_;rw [lookIn_dict,gN q3 h1.1.2];rfl)
    (kX (N:=y.N) KI T.keep F Ha hn hp (ub h1.2) fun z=>HC F.R F.B z.N (bk (hx.up z.le.P) z.rel) ((ub z.q).imp fun i i h=>ui h) fun r=>q ((r.up z.le).up (y0.le.trans y.le)))) y.rel)))) (he _)
end
noncomputable def om {α:Type} (o:Option α) (K:α→Prop):Prop:=o.elim False K
structure lf {α:Type} (o:Option α) (K:α→Prop):Prop where
 h:om o K
section
variable {α β γ:Type} {o u:Option α} {K:α→Prop} {Q:β→Prop} {C:Prop} {p:Prop} [Decidable p]
theorem av {K':α→Prop} (h:om o K) (k:∀ a,K a→K' a):om o K':=match o,h with
 | some a,h=>k a h
theorem ab {f:α→Option β} (h:om o fun a=>om (f a) Q):om (o.bind f) Q:=match o,h with
 | some _,h=>h
theorem aN {f:α→β} (h:om o fun a=>Q (f a)):om (o.map f) Q:=match o,h with
 | some _,h=>h
theorem l7 (h:om o K):om (o.or u) K:=match o,h with
 | some _,h=>h
theorem nB (e:o=none) (h:om u K):om (o.or u) K:=e▸h
theorem aO {x:Option α} (h:p∧om x K):om (if p then x else none) K:=by rw [if_pos h.1];exact h.2
theorem cD (h:om o K):lf o K:=⟨h⟩
theorem dr (h:lf o K):om o K:=h.h
theorem oR {β:Type} {o:Option (α×β)} {Q:α→β→Prop} (h:om o fun p=>Q p.1 p.2):Ok2 o Q:=match o,h with
 | some (a,b),h=>ok2 h
theorem elE {A:Prop} {B:α→Prop} (h:o.elim A B) (h1:o=none→A→C) (h2:∀ a,o=some a→B a→C):C:=match o,h,h1,h2 with
 | none,h,h1,_=>h1 rfl h
 | some a,h,_,h2=>h2 a rfl h
end
structure Cm (α:Type) where
 d:St→Option (α×St)
 w:St→(α→St→Prop)→Prop
 ok:∀ σ Q,w σ Q→om (d σ) fun p=>Q p.1 p.2
theorem Cm.go {α:Type} (a:Cm α) {σ:St} {Q:α→St→Prop} {R:α×St→Prop} (h:a.w σ Q) (k:∀ x s,Q x s→R (x,s)):om (a.d σ) R:=av (a.ok σ Q h) fun p q=>k p.1 p.2 q
structure Rw where
 ds:List DE
 w:St→(List V→St→Prop)→Prop
 ok:∀ σ Q,w σ Q→om (bY ds σ) fun p=>Q p.1 p.2
theorem Rw.go (a:Rw) {σ:St} {Q:List V→St→Prop} {R:List V×St→Prop} (h:a.w σ Q) (k:∀ x s,Q x s→R (x,s)):om (bY a.ds σ) R:=av (a.ok σ Q h) fun p q=>k p.1 p.2 q
section
variable {α β:Type} (σ:St)
@[reducible] def cpl (d:St→Option (α×St)):Cm α:=⟨d,fun σ Q=>om (d σ) fun p=>Q p.1 p.2,fun a a h=>h⟩
@[reducible] noncomputable def clf (d:St→Option (α×St)):Cm α:=⟨d,fun σ Q=>lf (d σ) fun p=>Q p.1 p.2,fun a a h=>dr h⟩
noncomputable def varW (i:Nat) (σ:St) (Q:V→St→Prop):Prop:=match σ.loc[i]? with
 | some (some (.ml l))=>Q (.lst l) (σ.set i (.lst l))
 | some (some (.md l))=>Q (.dct l) (σ.set i (.dct l))
 | some (some (.mi _ _))=>False
 | some (some v)=>Q v σ
 | _=>False
theorem ti {i:Nat} {σ:St} {Q:V→St→Prop} (h:varW i σ Q):om (ix i σ) fun p=>Q p.1 p.2:=by
 unfold varW at h;unfold ix
 generalize σ.loc[i]? = o at h ⊢
 cases o with
 | none=>exact h
 | some o=>cases o with
  | none=>exact h
  | some v=>cases v<;>exact h
@[reducible] def aa (i:Nat):Cm V:=⟨ix i,varW i,fun a a=>ti⟩
noncomputable def wtW (w:Wt) (K:List Int→Int→Prop):Prop:=match w with
 | some (r,p)=>K r p
 | none=>False
theorem rI {w:Wt} {K:List Int→Int→Prop} (h:wtW w K):om w fun p=>K p.1 p.2:=match w,h with
 | some (_,_),h=>h
@[reducible] def ck (v:V):Cm V:=⟨dk v,fun σ Q=>Q v σ,fun a a h=>h⟩
@[reducible] noncomputable def aB:Rw:=⟨[],fun σ Q=>Q [] σ,fun a a h=>h⟩
@[reducible] noncomputable def rc (a:Cm V) (r:Rw):Rw:=⟨a.d::r.ds,fun σ Q=>a.w σ fun x s=>r.w s fun l t=>Q (x::l) t,fun b b h=>ab (a.go h fun b b h=>aN (r.go h fun b b h=>h))⟩
def bopW (op:Operator) (x y:V) (K:V→Prop):Prop:=match op with
 | .Add=>(asI x).elim ((asS x).elim ((asL x).elim (om (asY x) fun a=>om (asY y) fun b=>a.length+b.length≤LIM∧K (.byt (a++b)))
  fun a=>om (asL y) fun b=>a.length+b.length≤LIM∧K (.lst (a++b))) fun a=>om (asS y) fun b=>a.length+b.length≤LIM∧K (.str (a++b))) fun a=>om (asI y) fun b=>K (.int (a+b))
 | .Sub=>om (asI x) fun a=>om (asI y) fun b=>K (.int (a - b))
 | .Mult=>om (asI x) fun a=>om (asI y) fun b=>small a=true∧K (.int (a * b))
 | .FloorDiv=>om (asI x) fun a=>om (asI y) fun b=>(b≠0∧small b=true)∧K (.int (a.fdiv b))
 | .Mod=>om (asI x) fun a=>om (asI y) fun b=>b≠0∧K (.int (a.fmod b))
 | .Pow=>om (asI x) fun a=>om (asI y) fun b=>(small a=true∧0≤b∧b≤1000)∧K (.int (a ^ b.toNat))
 | _=>False
theorem ii_none {f:Int→Int→Option V} {x y:V} (e:asI x=none):ii f x y=none:=by unfold ii;rw [e];rfl
theorem nY {f:Int→Int→Option V} {x y:V} {K:V→Prop} (h:om (asI x) fun a=>om (asI y) fun b=>om (f a b) K):om (ii f x y) K:=ab (av h fun c h=>ab h)
theorem bopW_ok {op:Operator} {x y:V} {K:V→Prop} (h:bopW op x y K):om (bop op x y) K:=by
 cases op<;>first | exact h.elim | skip
 · refine elE h (fun e h=>nB (ii_none e) ?_) fun a e h=>l7 (nY (by rw [e];exact h))
   refine elE h (fun e h=>nB (by unfold addS;rw [e];rfl) ?_) fun a e h=>l7 (ab (by rw [e];exact ab (av h fun b h=>aO h)))
   refine elE h (fun e h=>nB (by unfold addL;rw [e];rfl) ?_) fun a e h=>l7 (ab (by rw [e];exact ab (av h fun b h=>aO h)))
   exact ab (av h fun b h=>ab (av h fun b h=>aO h))
 · exact nY h
 · exact nY (av h fun b h=>av h fun b h=>aO h)
 · exact nY (av h fun b h=>av h fun b h=>aO h)
 · exact nY (av h fun b h=>av h fun b h=>aO h)
 · exact nY (av h fun b h=>av h fun b h=>aO h)
def uW (v:V) (K:Bool→Prop):Prop:=(asB v).elim ((asI v).elim ((asS v).elim (om (asL v) fun l=>l.length≤LIM∧K (!l.isEmpty)) fun l=>l.length≤LIM∧K (!l.isEmpty)) fun i=>K (i != 0)) K
theorem jc {v:V} {K:Bool→Prop} (h:uW v K):om (tru v) K:=by
 refine elE h (fun e h=>nB e ?_) fun a e h=>l7 (by rw [e];exact h)
 refine elE h (fun e h=>nB (by rw [e];rfl) ?_) fun a e h=>l7 (by rw [e];exact h)
 refine elE h (fun e h=>nB (by rw [e];rfl) ?_) fun a e h=>l7 (by rw [e];exact aO h)
 exact ab (av h fun b h=>aO h)
@[reducible] def aI (op:Operator) (a b:Cm V):Cm V:=⟨dbin op a.d b.d,fun σ Q=>a.w σ fun x s=>b.w s fun y t=>bopW op x y fun v=>Q v t,fun c c h=>ab (a.go h fun c c h=>ab (b.go h fun c c h=>aN (bopW_ok h)))⟩
def sQ (op:CmpOp) (x y:V) (K:Bool→Prop):Prop:=match op with
 | .In=>lf (cop .In x y) K
 | .NotIn=>lf (cop .NotIn x y) K
 | op=>om (cop op x y) K
theorem iq {op:CmpOp} {x y:V} {K:Bool→Prop} (h:sQ op x y K):om (cop op x y) K:=by
 cases op<;>first | exact dr h | exact h
@[reducible] def ay (op:CmpOp) (a b:Cm V):Cm Bool:=⟨ze op a.d b.d,fun σ Q=>a.w σ fun x s=>b.w s fun y t=>sQ op x y fun v=>Q v t,fun c c h=>ab (a.go h fun c c h=>ab (b.go h fun c c h=>aN (iq h)))⟩
@[reducible] def iy (op:CmpOp) (a b:Cm V):Cm V:=⟨dcmp op a.d b.d,fun σ Q=>a.w σ fun x s=>b.w s fun y t=>sQ op x y fun v=>Q (.bool v) t,fun c c h=>aN (ab (a.go h fun c c h=>ab (b.go h fun c c h=>aN (iq h))))⟩
@[reducible] def fm (a:Cm V):Cm Bool:=⟨dtru a.d,fun σ Q=>a.w σ fun x s=>uW x fun v=>Q v s,fun b b h=>ab (a.go h fun b b h=>aN (jc h))⟩
@[reducible] def gA (a:Cm Bool):Cm Bool:=⟨dnotT a.d,fun σ Q=>a.w σ fun x s=>Q (!x) s,fun b b h=>aN (a.go h fun b b h=>h)⟩
@[reducible] def cnot (a:Cm V):Cm V:=⟨dnot a.d,fun σ Q=>a.w σ fun x s=>uW x fun v=>Q (.bool (!v)) s,fun b b h=>aN (ab (a.go h fun b b h=>aN (jc h)))⟩
@[reducible] def eR (a b:Cm Bool):Cm Bool:=⟨dandT a.d b.d,fun σ Q=>a.w σ fun x s=>cond x (b.w s Q) (Q false s),fun c c h=>ab (a.go h fun x s h=>match x,h with
 | true,h=>b.ok _ _ h
 | false,h=>h)⟩
@[reducible] def sP (a b:Cm Bool):Cm Bool:=⟨dorT a.d b.d,fun σ Q=>a.w σ fun x s=>cond x (Q true s) (b.w s Q),fun c c h=>ab (a.go h fun x s h=>match x,h with
 | true,h=>h
 | false,h=>b.ok _ _ h)⟩
@[reducible] def cand (a b:Cm V):Cm V:=⟨dand a.d b.d,fun σ Q=>a.w σ fun x s=>uW x fun v=>cond v (b.w s Q) (Q x s),fun c c h=>ab (a.go h fun x s h=>ab (av (jc h) fun v h=>match v,h with
 | true,h=>b.ok _ _ h
 | false,h=>h))⟩
@[reducible] def cor (a b:Cm V):Cm V:=⟨dor a.d b.d,fun σ Q=>a.w σ fun x s=>uW x fun v=>cond v (Q x s) (b.w s Q),fun c c h=>ab (a.go h fun x s h=>ab (av (jc h) fun v h=>match v,h with
 | true,h=>h
 | false,h=>b.ok _ _ h))⟩
@[reducible] def pG (a:Cm V):Cm V:=⟨dneg a.d,fun σ Q=>a.w σ fun x s=>om (asI x) fun i=>Q (.int (-i)) s,fun b b h=>ab (a.go h fun b b h=>aN h)⟩
theorem pH {t:Cm Bool} {a b:Cm α} {σ:St} {Q:α→St→Prop} (h:t.w σ fun x s=>cond x (a.w s Q) (b.w s Q)):om ((t.d σ).bind fun q=>if q.1 then a.d q.2 else b.d q.2) fun p=>Q p.1 p.2 :=
 ab (t.go h fun x s h=>match x,h with
 | true,h=>a.ok _ _ h
 | false,h=>b.ok _ _ h)
@[reducible] def cite (t:Cm Bool) (a b:Cm V):Cm V:=⟨dite t.d a.d b.d,fun σ Q=>t.w σ fun x s=>cond x (a.w s Q) (b.w s Q),fun c c h=>pH h⟩
@[reducible] def citeT (t a b:Cm Bool):Cm Bool:=⟨diteT t.d a.d b.d,fun σ Q=>t.w σ fun x s=>cond x (a.w s Q) (b.w s Q),fun c c h=>pH h⟩
@[reducible] def cif (t:Cm Bool) (a b:Cm Fl):Cm Fl:=⟨dif t.d a.d b.d,fun σ Q=>t.w σ fun x s=>cond x (a.w s Q) (b.w s Q),fun c c h=>pH h⟩
@[reducible] def d4 (r:Rw):Cm V:=⟨dlst r.ds,fun σ Q=>r.w σ fun l s=>l.length≤LIM∧Q (.lst l) s,fun a a h=>ab (r.go h fun a a h=>aO h)⟩
@[reducible] def lh (r:Rw):Cm V:=⟨dtup r.ds,fun σ Q=>r.w σ fun l s=>l.length≤LIM∧Q (.tup l) s,fun a a h=>ab (r.go h fun a a h=>aO h)⟩
@[reducible] def bT (a b:Cm V):Cm V:=⟨didx a.d b.d,fun σ Q=>a.w σ fun x s=>b.w s fun y t=>lf (o5 x y) fun v=>Q v t,fun c c h=>ab (a.go h fun c c h=>ab (b.go h fun c c h=>aN (dr h)))⟩
def slcW (lo hi:Option Int) (v:V) (K:V→Prop):Prop:=(asS v).elim (om (asL v) fun l=>l.length≤LIM∧K (.lst (slc lo hi l))) fun l=>l.length≤LIM∧K (.str (slc lo hi l))
theorem slcW_ok {lo hi:Option Int} {v:V} {K:V→Prop} (h:slcW lo hi v K):om (slcV lo hi v) K :=
 elE h (fun e h=>nB (by rw [e];rfl) (ab (av h fun b h=>aO h))) fun a e h=>l7 (by rw [e];exact aO h)
@[reducible] def cH (a lo hi:Cm V):Cm V:=⟨dslc a.d lo.d hi.d,fun σ Q=>a.w σ fun x s=>lo.w s fun y t=>hi.w t fun z u=>om (qA y) fun y=>om (qA z) fun z=>slcW y z x fun v=>Q v u,
 fun b b h=>ab (a.go h fun b b h=>ab (lo.go h fun b b h=>ab (hi.go h fun b b h=>ab (av h fun b h=>ab (av h fun b h=>aN (slcW_ok h))))))⟩
@[reducible] def crev (a:Cm V):Cm V:=⟨drev a.d,fun σ Q=>a.w σ fun x s=>om (asL x) fun l=>l.length≤LIM∧Q (.lst l.reverse) s,fun b b h=>ab (a.go h fun b b h=>ab (av h fun b h=>aO h))⟩
@[reducible] def uF (i:Nat) (k:Int):Cm V:=clf (didxo i k)
structure F1 where
 f:V→Option V
 w:V→(V→Prop)→Prop
 ok:∀ v K,w v K→om (f v) K
@[reducible] def f1 (f:V→Option V):F1:=⟨f,fun v K=>om (f v) K,fun a a h=>h⟩
@[reducible] noncomputable def f1l (f:V→Option V):F1:=⟨f,fun v K=>lf (f v) K,fun a a h=>dr h⟩
def lenW (v:V) (K:V→Prop):Prop:=(asS v).elim (om (asL v) fun l=>l.length≤LIM∧K (.int l.length)) fun l=>l.length≤LIM∧K (.int l.length)
theorem lenW_ok {v:V} {K:V→Prop} (h:lenW v K):om (yI v) K :=
 elE h (fun e h=>nB (by rw [e];rfl) (ab (av h fun b h=>aO h))) fun a e h=>l7 (by rw [e];exact aO h)
@[reducible] def cj:F1:=⟨yI,lenW,fun a a=>lenW_ok⟩
@[reducible] def cun (f:F1) (a:Cm V):Cm V:=⟨dun f.f a.d,fun σ Q=>a.w σ fun x s=>f.w x fun v=>Q v s,fun b b h=>ab (a.go h fun b b h=>aN (f.ok _ _ h))⟩
@[reducible] def cbi (f:V→V→Option V) (a b:Cm V):Cm V:=⟨dbi f a.d b.d,fun σ Q=>a.w σ fun x s=>b.w s fun y t=>lf (f x y) fun v=>Q v t,fun c c h=>ab (a.go h fun c c h=>ab (b.go h fun c c h=>aN (dr h)))⟩
noncomputable abbrev spW {β:Type} (o:Option (β×Wt)) (loc:List (Option V)) (Q:β→St→Prop):Prop:=lf o fun p=>Q p.1 ⟨loc,p.2⟩
@[reducible] def be (sp:Sp) (r:Rw):Cm V:=⟨zh sp r.ds,fun σ Q=>r.w σ fun l s=>spW (sp l s.w) s.loc Q,fun a a h=>ab (r.go h fun a a h=>aN (dr h))⟩
@[reducible] def fo (a:Addr) (sp:Sp) (d:Cm V) (r:Rw):Cm V:=⟨zg a sp d.d r.ds,fun σ Q=>d.w σ fun x s=>om (asA x) fun b=>b=a∧r.w s fun l s=>spW (sp l s.w) s.loc Q,
 fun c c h=>ab (d.go h fun c c h=>ab (av h fun c h=>aO ⟨h.1,ab (r.go h.2 fun c c h=>aN (dr h))⟩))⟩
@[reducible] def cget (b:Bool) (a:Cm V):Cm V:=⟨dget b a.d,fun σ Q=>a.w σ fun x s=>om (asW x) fun c=>cond b (wtW s.w fun c p=>Q (.int p) s) (wtW s.w fun r c=>Q (.lst (r.map .int)) s),fun c c h=>ab (a.go h fun c c h=>ab (av h fun c h=>match b,h with
 | true,h=>aN (rI h)
 | false,h=>aN (rI h)))⟩
@[reducible] def ag:Cm Fl:=⟨dnil,fun σ Q=>Q .nxt σ,fun a a h=>h⟩
@[reducible] def ac (a b:Cm Fl):Cm Fl:=⟨dseq a.d b.d,fun σ Q=>a.w σ fun f s=>match f with
 | .nxt=>b.w s Q
 | f=>Q f s,fun c c h=>ab (a.go h fun f c h=>match f,h with
 | .nxt,h=>b.ok _ _ h
 | .ret _,h=>h
 | .cont,h=>h
 | .brk,h=>h)⟩
@[reducible] def ae (i:Nat) (a:Cm V):Cm Fl:=⟨pD i a.d,fun σ Q=>a.w σ fun x s=>Q .nxt (s.set i x),fun b b h=>ab (a.go h fun b b h=>h)⟩
@[reducible] def jP (i:Nat) (r:Rw):Cm Fl:=⟨dnewl i r.ds,fun σ Q=>r.w σ fun l s=>l.length≤LIM∧Q .nxt (s.set i (.ml l)),fun a a h=>ab (r.go h fun a a h=>aO h)⟩
@[reducible] def uE (i:Nat) (a b:Cm V):Cm Fl:=⟨uq i a.d b.d,fun σ Q=>a.w σ fun x s=>b.w s fun y t=>om (asL x) fun k=>om (asL y) fun l=>k.length+l.length≤LIM∧Q .nxt (t.set i (.ml (k++l))),
 fun c c h=>ab (a.go h fun c c h=>ab (b.go h fun c c h=>ab (av h fun c h=>ab (av h fun c h=>aO h))))⟩
@[reducible] def cnewd (i:Nat):Cm Fl:=⟨dnewd i,fun σ Q=>Q .nxt (σ.set i (.md [])),fun a a h=>h⟩
@[reducible] def pK (i:Nat) (a:Cm V):Cm Fl:=⟨daug i a.d,fun σ Q=>om ((bU i σ).bind asI) fun x=>a.w σ fun y s=>om (asI y) fun y=>Q .nxt (s.set i (.int (x+y))),fun b b h=>ab (av h fun b h=>ab (a.go h fun b b h=>aN h))⟩
@[reducible] def bN (a:Cm V):Cm Fl:=⟨dret a.d,fun σ Q=>a.w σ fun x s=>Q (.ret x) s,fun b b h=>ab (a.go h fun b b h=>h)⟩
@[reducible] def ccont:Cm Fl:=⟨dcont,fun σ Q=>Q .cont σ,fun a a h=>h⟩
@[reducible] def eQ:Cm Fl:=⟨dfail,fun a a=>False,fun a a h=>h⟩
@[reducible] def pL (i:Nat) (a:Cm V):Cm Fl:=⟨dapp i a.d,fun σ Q=>om ((bU i σ).bind asM) fun b=>a.w σ fun x s=>om ((bU i s).bind asM) fun l=>l.length≤LIM∧Q .nxt (s.set i (.ml (l++[x]))),
 fun b b h=>ab (av h fun b h=>ab (a.go h fun b b h=>ab (av h fun b h=>aO h)))⟩
@[reducible] def csetat (a b:Cm V):Cm Fl:=⟨yD a.d b.d,fun σ Q=>a.w σ fun x s=>b.w s fun y t=>om (asI x) fun i=>om (asW y) fun c=>wtW t.w fun r c=>Q .nxt { t with w:=some (r,i) },
 fun c c h=>ab (a.go h fun c c h=>ab (b.go h fun c c h=>ab (av h fun c h=>ab (av h fun c h=>aN (rI h)))))⟩
@[reducible] def zD (a:Cm V) (asg:DG):Cm Fl:=⟨dassg a.d asg,fun σ Q=>a.w σ fun x s=>om (asg x s) fun s=>Q .nxt s,fun b b h=>ab (a.go h fun b b h=>aN h)⟩
def itW (v:V) (K:List V→Prop):Prop:=(asR v).elim ((asS v).elim (om (asY v) fun b=>K (b.map fun (c:Nat)=>.int (c:Int))) fun s=>(s.all (· < 128))=true∧K (s.map fun c=>.str [c])) K
theorem itW_ok {v:V} {K:List V→Prop} (h:itW v K):om (lu v) K:=by
 refine elE h (fun e h=>nB e ?_) fun a e h=>l7 (by rw [e];exact h)
 refine elE h (fun e h=>nB (by rw [e];rfl) (aN h)) fun a e h=>l7 (by rw [e];exact aO h)
@[reducible] def d5 (a:Cm V):Cm (List V):=⟨diof a.d,fun σ Q=>a.w σ fun x s=>itW x fun l=>Q l s,fun b b h=>ab (a.go h fun b b h=>aN (itW_ok h))⟩
@[reducible] def dA (a:Cm V):Cm (List V):=⟨pe a.d,fun σ Q=>a.w σ fun x s=>om (asI x) fun n=>small n=true∧Q (rng 0 n) s,fun b b h=>ab (a.go h fun b b h=>ab (av h fun b h=>aO h))⟩
@[reducible] def gF (di:Cm (List V)) (asg:DG) (b:Cm Fl):Cm Fl:=⟨dfor di.d asg b.d,fun σ Q=>di.w σ fun l s=>lf (cM asg b.d l s) fun p=>Q p.1 p.2,fun a a h=>ab (di.go h fun a a h=>dr h)⟩
@[reducible] def i6 (t:Cm Bool) (b:Cm Fl) (n:Nat):Cm Fl:=clf (fj t.d b.d n)
@[reducible] def gY (di:Cm (List V)) (m:Nat) (asg:DG) (dt:Cm Bool) (de:Cm V):Cm V:=⟨uz di.d m asg dt.d de.d,fun σ Q=>di.w σ fun l s=>l.length≤LIM∧lf (bR asg dt.d de.d l ⟨s.loc++List.replicate m none,s.w⟩) fun z=>Q (.lst z.1) ⟨z.2.loc.take s.loc.length,z.2.w⟩,
 fun a a h=>ab (di.go h fun a a h=>aO ⟨h.1,aN (dr h.2)⟩)⟩
end
def FnQ (Q:V→Wt→Prop):Fl→St→Prop
 | .ret v,s=>Q v s.w
 | .nxt,s=>Q .none s.w
 | _,_=>False
theorem fn_ok {names:aq} {params:List Str} {c:Cm Fl} {vs:List V} {w:Wt} {Q:V→Wt→Prop} (loc:List (Option V)) (hl:vs.length=params.length) (e:fB (bv (params.zip vs) (fun a=>none)) names=loc)
 (h:c.w ⟨loc,w⟩ (FnQ Q)):Ok2 (er names params c.d vs w) Q :=
 oR (by unfold er;rw [if_pos hl,e];exact ab (c.go h fun f s h=>match f,h with
  | .ret _,h=>h
  | .nxt,h=>h))
theorem br {b:Bool} {A B:Prop} (h:b=true→A) (k:b=false→B):cond b A B:=match b,h,k with
 | true,h,_=>h rfl
 | false,_,k=>k rfl
theorem oX {α β:Type} {o:Option (α×β)} {Q:α→β→Prop} {R:α×β→Prop} (h:Ok2 o Q) (k:∀ a b,Q a b→R (a,b)):lf o R:=cD (match o,h with
 | some (_,_),h=>k _ _ (u2 h)
 | none,h=>un h)
section
variable {α β:Type}
def atW (C:Addr) (v:Addr×List (Str×V)) (name:Str) (K:V→Prop):Prop:=v.1=C∧om (v.2.lookup name) fun u=>kM u=true∧K u
theorem s5 {C:Addr} {v:Addr×List (Str×V)} {name:Str} {s:St} {Q:V×St→Prop} (h:atW C v name fun u=>Q (u,s)):om (if v.1=C then (v.2.lookup name).bind fun u=>if kM u=true then some (u,s) else none else none) Q :=
 aO ⟨h.1,ab (av h.2 fun a h=>aO h)⟩
@[reducible] def bG (C:Addr) (name:Str) (a:Cm V):Cm V:=⟨zk C name a.d,fun σ Q=>a.w σ fun x s=>om (asO x) fun v=>atW C v name fun u=>Q u s,fun b b h=>ab (a.go h fun b b h=>ab (av h fun b h=>s5 (Q:=fun p=>_) h))⟩
@[reducible] def cattri (i:Nat) (C:Addr) (name:Str):Cm V:=⟨zi i C name,fun σ Q=>om ((bU i σ).bind asF) fun v=>atW C v name fun u=>Q u σ,fun a a h=>ab (av h fun a h=>s5 (Q:=fun p=>_) h)⟩
@[reducible] def bV (i:Nat) (C:Addr) (name:Str) (a:Cm V):Cm Fl:=⟨dseta i C name a.d,fun σ Q=>a.w σ fun x s=>om ((bU i s).bind asF) fun v=>(v.1=C∧v.2.lookup name=none∧v.2.length≤50)∧Q .nxt (s.set i (.mi v.1 (v.2++[(name,x)]))),
 fun b b h=>ab (a.go h fun b b h=>ab (av h fun b h=>aO h))⟩
theorem jQ {C:Addr} {name:Str} {v:Addr×List (Str×V)} {r:Rw} {s:St} {Q:List V→St→Prop} {R:α×St→Prop} {f:List V×St→Option (α×St)} (h:(v.1=C∧v.2.lookup name=none)∧r.w s Q) (k:∀ l s,Q l s→om (f (l,s)) R) :
 om (if v.1=C∧v.2.lookup name=none then (bY r.ds s).bind f else none) R:=aO ⟨h.1,ab (r.go h.2 fun a a h=>k _ _ h)⟩
@[reducible] def cmeth (C:Addr) (name:Str) (sp:Sp) (d:Cm V) (r:Rw):Cm V:=⟨dmeth C name sp d.d r.ds,fun σ Q=>d.w σ fun x s=>om (asO x) fun v=>(v.1=C∧v.2.lookup name=none)∧r.w s fun l s=>spW (sp (x::l) s.w) s.loc Q,
 fun a a h=>ab (d.go h fun a a h=>ab (av h fun a h=>jQ h fun a a h=>aN (dr h)))⟩
@[reducible] def csmeth (C:Addr) (name:Str) (sp:Sp) (d:Cm V) (r:Rw):Cm V:=⟨yC C name sp d.d r.ds,fun σ Q=>d.w σ fun x s=>om (asO x) fun v=>(v.1=C∧v.2.lookup name=none)∧r.w s fun l s=>spW (sp l s.w) s.loc Q,
 fun a a h=>ab (d.go h fun a a h=>ab (av h fun a h=>jQ h fun a a h=>aN (dr h)))⟩
@[reducible] def clset (a:Cm V):Cm V:=⟨yH a.d,fun σ Q=>a.w σ fun x s=>om (asL x) fun l=>(l.length≤1∧l.all cK=true)∧Q (.int l.length) s,fun b b h=>ab (a.go h fun b b h=>ab (av h fun b h=>aO h))⟩
@[reducible] def cisi (a:Cm V):Cm V:=⟨disi a.d,fun σ Q=>a.w σ fun x s=>cK x=true∧Q (.bool true) s,fun b b h=>ab (a.go h fun b b h=>aO h)⟩
@[reducible] def cshr (a b:Cm V):Cm V:=⟨dshr a.d b.d,fun σ Q=>a.w σ fun x s=>b.w s fun y t=>om (asI x) fun i=>om (asI y) fun j=>lf (shrI i j) fun c=>Q (.int c) t,
 fun e e h=>ab (a.go h fun e e h=>ab (b.go h fun e e h=>ab (av h fun e h=>ab (av h fun e h=>aN (dr h)))))⟩
@[reducible] def eJ:Cm V:=⟨pB,fun σ Q=>Q (.dct []) σ,fun a a h=>h⟩
@[reducible] def cfv (a:Cm V):Cm V:=⟨dfv a.d,fun σ Q=>a.w σ fun x s=>om (asS x) fun x=>x.length≤LIM∧Q (.str x) s,fun b b h=>ab (a.go h fun b b h=>ab (av h fun b h=>aO h))⟩
@[reducible] def cjs (r:Rw):Cm V:=⟨djs r.ds,fun σ Q=>r.w σ fun l s=>om (dm l) fun ss=>ss.flatten.length≤LIM∧Q (.str ss.flatten) s,fun a a h=>ab (r.go h fun a a h=>ab (av h fun a h=>aO h))⟩
@[reducible] def ckeys (a:Cm V):Cm (List V):=⟨dkeys a.d,fun σ Q=>a.w σ fun x s=>om (asD x) fun l=>bF l=true∧Q (l.map fun (x:List Nat×V)=>V.str x.1) s,fun b b h=>ab (a.go h fun b b h=>ab (av h fun b h=>aO h))⟩
@[reducible] def cvals (a:Cm V):Cm (List V):=⟨dvals a.d,fun σ Q=>a.w σ fun x s=>om (asD x) fun l=>bF l=true∧Q (l.map fun (x:List Nat×V)=>x.2) s,fun b b h=>ab (a.go h fun b b h=>ab (av h fun b h=>aO h))⟩
@[reducible] def cdget (a b:Cm V):Cm V:=⟨ddget a.d b.d,fun σ Q=>a.w σ fun x s=>om (asD x) fun l=>b.w s fun y t=>om (asS y) fun y=>bF l=true∧Q (et l y) t,
 fun c c h=>ab (a.go h fun c c h=>ab (av h fun c h=>ab (b.go h fun c c h=>ab (av h fun c h=>aO h))))⟩
@[reducible] def csetd (i:Nat) (a b:Cm V):Cm Fl:=⟨dsetd i a.d b.d,fun σ Q=>a.w σ fun x s=>om ((bU i s).bind vM) fun c=>b.w s fun y t=>om (asS y) fun y=>om ((bU i t).bind vM) fun l=>(bF l=true∧y∉l.map (·.1)∧l.length≤1000)∧Q .nxt (t.set i (.md (l++[(y,x)]))),
 fun c c h=>ab (a.go h fun c c h=>ab (av h fun c h=>ab (b.go h fun c c h=>ab (av h fun c h=>ab (av h fun c h=>aO h)))))⟩
@[reducible] def zo (i:Nat) (a b:Cm V):Cm Fl:=⟨dsetl i a.d b.d,fun σ Q=>a.w σ fun x s=>om ((bU i s).bind asM) fun c=>b.w s fun y t=>om (asI y) fun k=>om ((bU i t).bind asM) fun l=>fh k=true∧lf (seqIndex? k l.length) fun j=>Q .nxt (t.set i (.ml (l.set j x))),
 fun c c h=>ab (a.go h fun c c h=>ab (av h fun c h=>ab (b.go h fun c c h=>ab (av h fun c h=>ab (av h fun c h=>aO ⟨h.1,aN (dr h.2)⟩)))))⟩
@[reducible] def cretw (i:Nat):Cm Fl:=⟨dretw i,fun σ Q=>varW i σ fun x s=>om (asL x) fun l=>lf (fg l) fun row=>s.w.isNone=true∧Q (.ret .wref) { s with w:=some (row,0) },
 fun a a h=>ab (av (ti h) fun a h=>ab (av h fun a h=>ab (av (dr h) fun a h=>aO h)))⟩
@[reducible] def clistr (a b:Cm V):Cm V:=⟨ph a.d b.d,fun σ Q=>a.w σ fun x s=>b.w s fun y t=>om (asI x) fun i=>om (asI y) fun j=>(small i=true∧small j=true∧(j - i).toNat≤LIM)∧Q (.lst (rng i j)) t,
 fun c c h=>ab (a.go h fun c c h=>ab (b.go h fun c c h=>ab (av h fun c h=>ab (av h fun c h=>aO h))))⟩
@[reducible] def ctruo (i:Nat):Cm Bool:=⟨dtruo i,fun σ Q=>om ((bU i σ).bind asM) fun l=>l.length≤LIM∧Q (!l.isEmpty) σ,fun a a h=>ab (av h fun a h=>aO h)⟩
@[reducible] def ro:Cm Bool:=⟨dyes,fun σ Q=>Q true σ,fun a a h=>h⟩
@[reducible] def ctruO (Cs:List Addr) (a:Cm V):Cm Bool:=⟨dtruO Cs a.d,fun σ Q=>a.w σ fun x s=>lf (truO Cs x) fun b=>Q b s,fun c c h=>ab (a.go h fun c c h=>aN (dr h))⟩
@[reducible] def cforz (a b:Cm V) (asg:DG) (c:Cm Fl):Cm Fl:=⟨yL a.d b.d asg c.d,fun σ Q=>a.w σ fun x s=>b.w s fun y t=>om (asL x) fun k=>om (asL y) fun l=>lf (cM asg c.d (rH k l) t) fun p=>Q p.1 p.2,
 fun e e h=>ab (a.go h fun e e h=>ab (b.go h fun e e h=>ab (av h fun e h=>ab (av h fun e h=>dr h))))⟩
@[reducible] def sX (o1 o2:CmpOp) (a b c:Cm V):Cm V:=⟨zf o1 o2 a.d b.d c.d,fun σ Q=>a.w σ fun x s=>b.w s fun y t=>sQ o1 x y fun r=>cond r (c.w t fun z u=>sQ o2 y z fun r=>Q (.bool r) u) (Q (.bool false) t),
 fun e e h=>ab (a.go h fun e e h=>ab (b.go h fun e e h=>ab (av (iq h) fun r h=>match r,h with
  | true,h=>ab (c.go h fun e e h=>aN (iq h))
  | false,h=>h)))⟩
@[reducible] def pI (a:Cm V):Cm V:=⟨pj a.d,fun σ Q=>a.w σ fun x s=>om (asS x) fun l=>(l≠[]∧l.length≤64∧l.all aZ=true)∧Q (.int (bq l)) s,fun b b h=>ab (a.go h fun b b h=>ab (av h fun b h=>aO h))⟩
@[reducible] def cdictp (a:Cm V):Cm V:=⟨sO a.d,fun σ Q=>a.w σ fun x s=>om (asL x) fun l=>lf (jh l) fun ps=>(bF ps=true∧ps.length≤1000)∧Q (.dct ps) s,fun b b h=>ab (a.go h fun b b h=>ab (av h fun b h=>ab (av (dr h) fun b h=>aO h)))⟩
@[reducible] def zn (a:Cm (List V)):Cm V:=⟨dsumg a.d,fun σ Q=>a.w σ fun l s=>((l.all fun v=>(isNone v).isSome)=true∧l.length≤1000)∧Q (.int ((l.filter fun v=>isNone v != some true).length:Int)) s,fun b b h=>ab (a.go h fun b b h=>aO h)⟩
@[reducible] def canyg (a:Cm (List V)):Cm V:=⟨danyg a.d,fun σ Q=>a.w σ fun l s=>l.all cK=true∧Q (.bool false) s,fun b b h=>ab (a.go h fun b b h=>aO h)⟩
@[reducible] def callg (a:Cm (List V)):Cm V:=⟨dallg a.d,fun σ Q=>a.w σ fun l s=>l.all cK=true∧Q (.bool (l.all po)) s,fun b b h=>ab (a.go h fun b b h=>aO h)⟩
@[reducible] def ai (a:Cm α):Cm (Option α):=⟨qx a.d,fun σ Q=>a.w σ fun x s=>Q (some x) s,fun b b h=>aN (a.go h fun b b h=>h)⟩
def elW (x:Option α) (N:Prop) (S:α→Prop):Prop:=match x with
 | some a=>S a
 | none=>N
theorem cA {a:Cm (Option α)} {f:α→DU β} {σ:St} {Q:Option β→St→Prop} {S:α→St→Prop} (h:a.w σ fun x s=>elW x (Q none s) fun v=>S v s) (k:∀ v s,S v s→om (f v s) fun p=>Q p.1 p.2):om (fL a.d f σ) fun p=>Q p.1 p.2 :=
 ab (a.go h fun x b h=>match x,h with
 | some _,h=>k _ _ h
 | none,h=>h)
@[reducible] def az (a b:Cm (Option Fl)):Cm (Option Fl):=⟨dseqU a.d b.d,fun σ Q=>a.w σ fun f s=>match f with
 | some .nxt=>b.w s Q
 | f=>Q f s,fun c c h=>ab (a.go h fun f c h=>match f,h with
 | some .nxt,h=>b.ok _ _ h
 | some (.ret _),h=>h
 | some .cont,h=>h
 | some .brk,h=>h
 | none,h=>h)⟩
@[reducible] def gZ (i:Nat) (a:Cm (Option V)):Cm (Option Fl):=⟨rn i a.d,fun σ Q=>a.w σ fun x s=>elW x (Q none s) fun v=>Q (some .nxt) (s.set i v),fun b b h=>cA h fun b b h=>h⟩
@[reducible] def cretU (a:Cm (Option V)):Cm (Option Fl):=⟨dretU a.d,fun σ Q=>a.w σ fun x s=>elW x (Q none s) fun v=>Q (some (.ret v)) s,fun b b h=>cA h fun b b h=>h⟩
@[reducible] def zu (a:Cm (Option Bool)):Cm (Option Bool):=⟨dnotU a.d,fun σ Q=>a.w σ fun x s=>elW x (Q none s) fun v=>Q (some (!v)) s,fun b b h=>cA h fun b b h=>h⟩
@[reducible] def i8 (t:Cm (Option Bool)) (a b:Cm (Option Fl)):Cm (Option Fl):=⟨difU t.d a.d b.d,fun σ Q=>t.w σ fun x s=>elW x (Q none s) fun v=>cond v (a.w s Q) (b.w s Q),fun c c h=>cA h fun v c h=>match v,h with
 | true,h=>a.ok _ _ h
 | false,h=>b.ok _ _ h⟩
@[reducible] def candU (a b:Cm (Option Bool)):Cm (Option Bool):=⟨dandU a.d b.d,fun σ Q=>a.w σ fun x s=>elW x (Q none s) fun v=>cond v (b.w s Q) (Q (some false) s),fun c c h=>cA h fun v c h=>match v,h with
 | true,h=>b.ok _ _ h
 | false,h=>h⟩
@[reducible] def corU (a b:Cm (Option Bool)):Cm (Option Bool):=⟨dorU a.d b.d,fun σ Q=>a.w σ fun x s=>elW x (Q none s) fun v=>cond v (Q (some true) s) (b.w s Q),fun c c h=>cA h fun v c h=>match v,h with
 | true,h=>h
 | false,h=>b.ok _ _ h⟩
@[reducible] def uB (a:Cm (Option V)):Cm (Option Bool):=⟨dtruU a.d,fun σ Q=>a.w σ fun x s=>elW x (Q none s) fun v=>uW v fun b=>Q (some b) s,fun c c h=>cA h fun v c h=>aN (jc h)⟩
@[reducible] def pJ (op:CmpOp) (a:Cm (Option V)) (b:Cm V):Cm (Option Bool):=⟨zd op a.d b.d,fun σ Q=>a.w σ fun x s=>elW x (Q none s) fun v=>b.w s fun y t=>sQ op v y fun r=>Q (some r) t,fun c c h=>cA h fun v c h=>ab (b.go h fun c c h=>aN (iq h))⟩
@[reducible] def ccmpU (op:CmpOp) (a:Cm (Option V)) (b:Cm V):Cm (Option V):=⟨dcmpU op a.d b.d,fun σ Q=>a.w σ fun x s=>elW x (Q none s) fun v=>b.w s fun y t=>sQ op v y fun r=>Q (some (.bool r)) t,fun c c h=>cA h fun v c h=>ab (b.go h fun c c h=>aN (iq h))⟩
@[reducible] def mV (r:Rw):Cm (Option Fl):=⟨yE r.ds,fun σ Q=>r.w σ fun l s=>l.length≤LIM∧Q none s,fun a a h=>ab (r.go h fun a a h=>aO h)⟩
@[reducible] def cexprU (a:Cm (Option V)):Cm (Option Fl):=⟨dexprU a.d,fun σ Q=>a.w σ fun x s=>elW x (Q none s) fun b=>Q (some .nxt) s,fun b b h=>cA h fun b b h=>h⟩
@[reducible] def cattrU (C:Addr) (name:Str) (a:Cm (Option V)):Cm (Option V):=⟨zj C name a.d,fun σ Q=>a.w σ fun x s=>elW x (Q none s) fun u=>om (asO u) fun v=>atW C v name fun u=>Q (some u) s,
 fun b b h=>cA h fun u b h=>aN (ab (o:=some (u,_)) (ab (av h fun b h=>s5 (Q:=fun p=>_) h)))⟩
@[reducible] def uG (di:Cm (List V)) (asg:DG) (b:Cm (Option Fl)):Cm (Option Fl):=⟨dforU di.d asg b.d,fun σ Q=>di.w σ fun l s=>lf (eg asg b.d l s) fun p=>Q p.1 p.2,fun a a h=>ab (di.go h fun a a h=>dr h)⟩
@[reducible] def ccallU (a:Addr) (sp:SpU) (d:Cm V) (r:Rw):Cm (Option V):=⟨pC a sp d.d r.ds,fun σ Q=>d.w σ fun x s=>om (asA x) fun b=>b=a∧r.w s fun l s=>spW (sp l s.w) s.loc Q,
 fun c c h=>ab (d.go h fun c c h=>ab (av h fun c h=>aO ⟨h.1,ab (r.go h.2 fun c c h=>aN (dr h))⟩))⟩
@[reducible] def kB (C:Addr) (name:Str) (sp:SpU) (d:Cm V) (r:Rw):Cm (Option V):=⟨pf C name sp d.d r.ds,fun σ Q=>d.w σ fun x s=>om (asO x) fun v=>(v.1=C∧v.2.lookup name=none)∧r.w s fun l s=>spW (sp (x::l) s.w) s.loc Q,
 fun a a h=>ab (d.go h fun a a h=>ab (av h fun a h=>jQ h fun a a h=>aN (dr h)))⟩
@[reducible] def uA (a:Cm (Option Fl)) (b:Bool):Cm (Option Fl):=⟨dtryU a.d b,fun σ Q=>a.w σ fun x s=>elW x (Q (some (.ret (.bool b))) s) fun f=>Q (some f) s,fun c c h=>aN (a.go h fun x c h=>match x,h with
 | some _,h=>h
 | none,h=>h)⟩
@[reducible] def zB (a:Cm V):Cm (Option V):=⟨sK a.d,fun σ Q=>a.w σ fun x s=>om (asS x) fun l=>(l≠[]∧l.length≤64)∧((l.all aZ=true∧Q (some (.int (bq l))) s)∨(l.all aZ=false∧gr l=true∧Q none s)),
 fun b b h=>ab (a.go h fun b b h=>ab (av h fun b h=>aO ⟨h.1,h.2.elim (fun h=>by rw [if_pos h.1];exact h.2) fun h=>by rw [h.1,if_neg Bool.false_ne_true,if_pos h.2.1];exact h.2.2⟩))⟩
@[reducible] def mU (js:List Nat) (sp:SpL):Cm (Option V):=⟨mI js sp,fun σ Q=>om (iw σ.loc js) fun us=>lf (sp us σ.w) fun p=>Q (some (.bool p.1.isNone)) { σ with w:=p.2 },fun a a h=>ab (av h fun a h=>aN (dr h))⟩
end
def iz (Q:Option V→Wt→Prop):Option Fl→St→Prop
 | none,s=>Q none s.w
 | some (.ret v),s=>Q (some v) s.w
 | some .nxt,s=>Q (some .none) s.w
 | _,_=>False
theorem fn_okU {names:aq} {params:List Str} {c:Cm (Option Fl)} {vs:List V} {w:Wt} {Q:Option V→Wt→Prop} (loc:List (Option V)) (hl:vs.length=params.length) (e:fB (bv (params.zip vs) (fun a=>none)) names=loc)
 (h:c.w ⟨loc,w⟩ (iz Q)):Ok2 (iI names params c.d vs w) Q :=
 oR (by unfold iI;rw [if_pos hl,e];exact ab (c.go h fun f s h=>match f,h with
  | none,h=>h
  | some (.ret _),h=>h
  | some .nxt,h=>h))
def InQ (i:Nat) (C:Addr) (Q:List (Str×V)→Wt→Prop):Fl→St→Prop
 | .nxt,s=>om ((bU i s).bind asF) fun v=>v.1=C∧Q v.2 s.w
 | _,_=>False
theorem s8 {i:Nat} {C:Addr} {Q:List (Str×V)→Wt→Prop} {f:Fl} {s:St} (h:InQ i C Q f s):om (cQ i C (f,s)) fun p=>Q p.1 p.2:=match f,h with
 | .nxt,h=>ab (av h fun a h=>aO h)
theorem jA {names:aq} {i:Nat} {params:List Str} {nd:Nat} {C:Addr} {c:Cm Fl} {fl:List (Str×V)} {vs:List V} {w:Wt} {Q:List (Str×V)→Wt→Prop} (loc:List (Option V)) (hl:vs.length+nd=params.length) (e:(bL names params nd vs).set i (some (.mi C fl))=loc)
 (h:c.w ⟨loc,w⟩ (InQ i C Q)):Ok2 (gT names i params nd C c.d fl vs w) Q :=
 oR (by unfold gT;rw [if_pos hl,e];exact ab (c.go h fun a a h=>s8 h))
theorem mx {names:aq} {i:Nat} {params:List Str} {nd:Nat} {C:Addr} {js:List Nat} {sb:SpI} {c:Cm Fl} {fl:List (Str×V)} {vs us:List V} {w:Wt} {Q:List (Str×V)→Wt→Prop} (hl:vs.length+nd=params.length) (hi:i∉js) (hp:iw (bL names params nd vs) js=some us)
 (h:Ok2 (sb fl us w) fun f w=>c.w ⟨(bL names params nd vs).set i (some (.mi C f)),w⟩ (InQ i C Q)):Ok2 (ij names i params nd C js sb c.d fl vs w) Q :=
 oR (by unfold ij;rw [if_pos ⟨hl,hi⟩,hp];exact ab (o:=some us) (ab (av (dr (oX (R:=fun p=>c.w ⟨(bL names params nd vs).set i (some (.mi C p.1)),p.2⟩ (InQ i C Q)) h fun a a h=>h)) fun a h=>ab (c.go h fun a a h=>s8 h))))
theorem mk_ok {C:Addr} {sp:SpI} {vs:List V} {w:Wt} {Q:V→Wt→Prop} (h:Ok2 (sp [] vs w) fun f w=>Q (.obj C f) w):Ok2 (qE C sp vs w) Q:=oR (aN (dr (oX h fun a a h=>h)))
def InQU (i:Nat) (C:Addr) (Q:Option (List (Str×V))→Wt→Prop):Option Fl→St→Prop
 | none,s=>Q none s.w
 | some f,s=>InQ i C (fun g w=>Q (some g) w) f s
theorem xY {names:aq} {i:Nat} {params:List Str} {nd:Nat} {C:Addr} {c:Cm (Option Fl)} {fl:List (Str×V)} {vs:List V} {w:Wt} {Q:Option (List (Str×V))→Wt→Prop} (loc:List (Option V)) (hl:vs.length+nd=params.length) (e:(bL names params nd vs).set i (some (.mi C fl))=loc)
 (h:c.w ⟨loc,w⟩ (InQU i C Q)):Ok2 (lx names i params nd C c.d fl vs w) Q :=
 oR (by unfold lx;rw [if_pos hl,e];exact ab (c.go h fun f a h=>match f,h with
  | none,h=>h
  | some f,h=>aN (s8 (Q:=fun g w=>Q (some g) w) (f:=f) h)))
theorem mk_okU {C:Addr} {sp:z8} {vs:List V} {w:Wt} {Q:Option V→Wt→Prop} (h:Ok2 (sp [] vs w) fun f w=>Q (f.map fun f=>.obj C f) w):Ok2 (w9 C sp vs w) Q:=oR (aN (dr (oX h fun a a h=>h)))
@[reducible] def zA (C:Addr) (name:Str) (sp:SpG) (d:Cm V) (r:Rw):Cm V:=⟨sJ C name sp d.d r.ds,fun σ Q=>d.w σ fun x s=>om (asO x) fun v=>(v.1=C∧v.2.lookup name=none)∧r.w s fun l s=>lf (sp (x::l) s.w) fun p=>p.1.length≤LIM∧Q (.lst p.1) ⟨s.loc,p.2⟩,
 fun a a h=>ab (d.go h fun a a h=>ab (av h fun a h=>jQ h fun a a h=>ab (av (dr h) fun a h=>aO h)))⟩
@[reducible] def cgen (t1:Cm Bool) (di:Cm (List V)) (asg:DG) (te:Cm Bool) (dy:Cm V) (t3:Cm Bool) (dy2:Cm V):Cm (List V):=⟨dgen t1.d di.d asg te.d dy.d t3.d dy2.d,fun σ Q=>t1.w σ fun x s=>cond x (di.w s fun l t=>lf (bR asg te.d dy.d l t) fun p=>Q p.1 p.2) (t3.w s fun y t=>cond y (dy2.w t fun v u=>Q [v] u) (Q [] t)),
 fun a a h=>ab (t1.go h fun x a h=>match x,h with
  | true,h=>ab (di.go h fun a a h=>dr h)
  | false,h=>ab (t3.go h fun y a h=>match y,h with
   | true,h=>aN (dy2.go h fun a a h=>h)
   | false,h=>h))⟩
theorem gen_ok {names:aq} {params:List Str} {c:Cm (List V)} {vs:List V} {w:Wt} {Q:List V→Wt→Prop} (loc:List (Option V)) (hl:vs.length=params.length) (e:fB (bv (params.zip vs) (fun a=>none)) names=loc)
 (h:c.w ⟨loc,w⟩ fun l s=>Q l s.w):Ok2 (qT names params c.d vs w) Q :=
 oR (by unfold qT;rw [if_pos hl,e];exact aN (c.go h fun a a h=>h))
def lR (C:Addr) (name:Str) (su:SpU):SpL:=fun us w=>(us[0]?.bind asO).bind fun v=>if (v.1=C∧v.2.lookup name=none)∧us.length=2 then su us w else none
noncomputable def spMk (su:SpU):SpL:=fun us w=>if us.length=1 then su (.dct []::us) w else none
theorem xt {C:Addr} {name:Str} {su:SpU} {f:List (Str×V)} {u:V} {w:Wt} {R:Option V×Wt→Prop} (h:f.lookup name=none) (k:lf (su [.obj C f,u] w) R):lf (lR C name su [.obj C f,u] w) R:=cD (aO (x:=su [.obj C f,u] w) ⟨⟨⟨rfl,h⟩,rfl⟩,dr k⟩)
theorem l_mk {su:SpU} {u:V} {w:Wt} {R:Option V×Wt→Prop} (k:lf (su [.dct [],u] w) R):lf (spMk su [u] w) R:=cD (aO (x:=su [.dct [],u] w) ⟨rfl,dr k⟩)
structure Ad where
 (cSig cRol cDel cSuc cDlg cTar m_gr m_isdr m_gdr m_isdp m_grft m_inpat a_law_digest a_law_bins a_law_refused c_SPECIFICATION_VERSION c_TOP_LEVEL_ROLE_NAMES cd_sig tb_sig cd_del tb_del cd_dlg tb_dlg cd_bins tb_bins cd_law tb_law:Addr)
@[irreducible] noncomputable def ad0:Ad:={ cSig:=136,cRol:=182,cDel:=310,cSuc:=384,cDlg:=435,cTar:=513,m_gr:=432,m_isdr:=381,m_gdr:=503,m_isdp:=307,m_grft:=367,m_inpat:=297,a_law_digest:=536,a_law_bins:=595,a_law_refused:=588,c_SPECIFICATION_VERSION:=60,c_TOP_LEVEL_ROLE_NAMES:=61,cd_sig:=101,tb_sig:=97,cd_del:=265,tb_del:=261,cd_dlg:=400,tb_dlg:=396,cd_bins:=594,tb_bins:=590,cd_law:=599,tb_law:=597 }
def bC:V:=.lst [.str (L "1"),.str (L "0"),.str (L "31")]
def bH:V:=.tup [.str (L "root"),.str (L "timestamp"),.str (L "snapshot"),.str (L "targets")]
noncomputable def nc_law_part_0:aq:=[(".0",.local),("k",.local),("_law_next",.globalImplicit),("w",.free)]
noncomputable def r5:aq:=[(".0",.local),("one",.local)]
noncomputable def vS:aq:=[(".0",.local),("k",.local),("_law_fits",.globalImplicit),("_law_tokens",.globalImplicit),("parts",.free),("pieces",.free)]
noncomputable def nc_Del_init_0:aq:=[(".0",.local),("p",.local),("isinstance",.globalImplicit),("str",.globalImplicit)]
noncomputable def nc_Del_init_1:aq:=[(".0",.local),("p",.local),("isinstance",.globalImplicit),("str",.globalImplicit)]
noncomputable def nc_Del_init_2:aq:=[(".0",.local),("var",.local)]
noncomputable def wZ:aq:=[(".0",.local),("v",.local)]
noncomputable def nc_Dlg_init_0:aq:=[(".0",.local),("v",.local)]
noncomputable def va:aq:=[(".0",.local),("el",.local)]
noncomputable def nl_bins_0:aq:=[("other",.free),("targets",.free)]
noncomputable def nl_law_0:aq:=[("some",.free),("Delegations",.globalImplicit)]
noncomputable def nc_law_1:aq:=[(".0",.local),("name",.local),("DelegatedRole",.globalImplicit)]
noncomputable def nl_law_2:aq:=[("name",.free),("targets",.free)]
noncomputable def nc_law_3:aq:=[(".0",.local),("one",.local),("_law_covers",.globalImplicit),("path",.free)]
noncomputable def nc_law_4:aq:=[(".0",.local),("one",.local),("len",.globalImplicit),("signs",.free)]
noncomputable def nc_law_5:aq:=[(".0",.local),("j",.local),("path",.free),("w",.free)]
noncomputable def nc_law_6:aq:=[(".0",.local),("part",.local),("_law_piece",.globalImplicit),("w",.free)]
noncomputable def nc_law_7:aq:=[(".0",.local),("j",.local),("_law_prefix",.globalImplicit),("path",.free),("w",.free)]
noncomputable def nc_law_8:aq:=[(".0",.local),("j",.local),("range",.globalImplicit),("_law_next",.globalImplicit),("w",.free)]
noncomputable def nc_law_9:aq:=[(".0",.local),("k",.local),("_law_part",.globalImplicit),("w",.free)]
noncomputable def mf:aq:=[("w",.local),("many",.local),("at",.local),("value",.local),("len",.globalImplicit)]
def m9:Cm Fl :=
 (ac (ae 2 (cget true (aa 0))) (ac (csetat (aI .Add (aa 2) (ck (.int 1))) (aa 0)) (ac (ae 3 (aI .Mod (aI .Add (aI .Add (aI .Add (aI .Mult (aI .Mult (ck (.int 31)) (aa 2)) (aa 2)) (aI .Mult (ck (.int 7)) (aa 2))) (ck (.int 3))) (cun cj (cget false (aa 0)))) (ck (.int 997)))) (ac (cif (ay .Lt (aa 2) (cun cj (cget false (aa 0)))) (ac (ae 3 (bT (cget false (aa 0)) (aa 2))) ag) ag) (ac (bN (aI .Mod (aa 3) (aa 1))) ag)))))
def bE:Sp:=er mf ["w","many"] m9.d
noncomputable def kQ:aq:=[("script",.local),("row",.local),("cell",.local),("turn",.local),("abs",.globalImplicit),("range",.globalImplicit)]
def k6:Cm Fl :=
 (ac (jP 1 aB) (ac (gF (d5 (cH (aa 0) (ck .none) (ck (.int 24)))) (bA 2) (ac (ae 2 (aI .Mod (cun (f1 absV) (aa 2)) (aI .Pow (ck (.int 10)) (ck (.int 18))))) (ac (gF (dA (ck (.int 6))) (bA 3) (ac (pL 1 (aI .Mod (aa 2) (ck (.int 997)))) (ac (ae 2 (aI .FloorDiv (aa 2) (ck (.int 997)))) ag))) ag))) (ac (cretw 1) ag)))
def oH:Sp:=er kQ ["script"] k6.d
noncomputable def jo:aq:=[("data",.local),("algo",.local),("number",.local),("signs",.local),("octet",.local),("turn",.local),("bytes",.globalImplicit),("range",.globalImplicit)]
def jT:Cm Fl :=
 (ac (ae 2 (ck (.int 7))) (ac (ae 3 (ck (.str (L "")))) (ac (gF (d5 (aI .Add (aa 0) (cun (f1l zL) (d4 (rc (ck (.int 3)) (rc (ck (.int 1)) (rc (ck (.int 4)) (rc (ck (.int 1)) (rc (ck (.int 5)) (rc (ck (.int 9)) (rc (ck (.int 2)) (rc (ck (.int 6)) aB)))))))))))) (bA 4) (ac (ae 2 (aI .Mod (aI .Add (aI .Add (aI .Mult (aa 2) (ck (.int 263))) (aa 4)) (ck (.int 1))) (ck (.int 4294967291)))) (ac (gF (dA (ck (.int 4))) (bA 5) (ac (ae 3 (aI .Add (aa 3) (bT (ck (.str (L "0123456789abcdef"))) (aI .Mod (aI .FloorDiv (aa 2) (aI .Pow (ck (.int 16)) (aI .Add (aa 5) (ck (.int 1))))) (ck (.int 16)))))) ag)) ag))) (ac (bN (cH (aI .Add (aI .Add (aI .Add (aa 3) (aa 3)) (aa 3)) (aa 3)) (ck .none) (ck (.int 64)))) ag))))
def eC:Sp:=er jo ["data","algo"] jT.d
noncomputable def me:aq:=[("w",.cell),("range",.globalImplicit),("_law_next",.globalImplicit)]
def m8:Cm Fl :=
 (ac (bN (cbi mr (ck (.str (L ""))) (gY (dA (be bE (rc (aa 0) (rc (ck (.int 4)) aB)))) 2 (bA 2) ro (bT (ck (.str (L "abcdAB.-05"))) (be bE (rc (aa 0) (rc (ck (.int 10)) aB))))))) ag)
def oE:Sp:=er me ["w"] m8.d
def kN:aq:=[("w",.local),("part",.local),("pick",.local),("menu",.local),("piece",.local),("sign",.local),("forms",.local),("_law_next",.globalImplicit),("_law_part",.globalImplicit)]
@[irreducible] def dQ:Cm Fl :=
 (ac (ae 3 (d4 (rc (ck (.str (L "[a-c]"))) (rc (ck (.str (L "[!a-c]"))) (rc (ck (.str (L "[-a]"))) (rc (ck (.str (L "[b-]"))) (rc (ck (.str (L "[A-C]"))) (rc (ck (.str (L "[!A-Z]"))) (rc (ck (.str (L "[.-]"))) (rc (ck (.str (L "[0-9a]"))) (rc (ck (.str (L "[ad]"))) (rc (ck (.str (L "[b-d]"))) aB)))))))))))) (ac (ae 4 (ck (.str (L "")))) (ac (gF (d5 (aa 1)) (bA 5) (ac (ae 6 (d4 (rc (aa 5) (rc (aa 5) (rc (ck (.str (L "?"))) (rc (ck (.str (L "*"))) (rc (bT (aa 3) (be bE (rc (aa 0) (rc (ck (.int 10)) aB)))) (rc (bT (aa 3) (be bE (rc (aa 0) (rc (ck (.int 10)) aB)))) (rc (cun (f1l j7) (aa 5)) (rc (cun (f1l iU) (aa 5)) aB)))))))))) (ac (ae 4 (aI .Add (aa 4) (bT (aa 6) (be bE (rc (aa 0) (rc (ck (.int 8)) aB)))))) ag))) (ac (bN (aa 4)) ag))))
def kY:Cm Fl :=
 (ac (ae 2 (be bE (rc (aa 0) (rc (ck (.int 6)) aB)))) (ac (cif (ay .Eq (aa 2) (ck (.int 0))) (ac (bN (ck (.str (L "*")))) ag) ag) (ac (cif (ay .Eq (aa 2) (ck (.int 1))) (ac (ae 1 (be oE (rc (aa 0) aB))) ag) ag) dQ)))
def oB:Sp:=er kN ["w","part"] kY.d
noncomputable def jm:aq:=[("w",.local),("path",.local),("signs",.local),("many",.local),("_law_digest",.globalImplicit),("_law_next",.globalImplicit)]
@[irreducible] def dC:Cm Fl :=
 (ac (bN (cH (aa 2) (ck .none) (aa 3))) ag)
def jS:Cm Fl :=
 (ac (ae 2 (be eC (rc (cbi eN (aa 1) (ck (.str (L "utf-8")))) (rc (ck (.str (L "sha256"))) aB)))) (ac (ae 3 (bT (d4 (rc (be bE (rc (aa 0) (rc (ck (.int 6)) aB))) (rc (be bE (rc (aa 0) (rc (ck (.int 65)) aB))) aB))) (be bE (rc (aa 0) (rc (ck (.int 2)) aB))))) (ac (cif (eR (ay .Eq (be bE (rc (aa 0) (rc (ck (.int 3)) aB))) (ck (.int 0))) (ay .Gt (aa 3) (ck (.int 0)))) (ac (bN (aI .Add (cH (aa 2) (ck .none) (aI .Sub (aa 3) (ck (.int 1)))) (bT (ck (.str (L "0123456789abcdef"))) (be bE (rc (aa 0) (rc (ck (.int 16)) aB)))))) ag) ag) dC)))
def lQ:Sp:=er jm ["w","path"] jS.d
noncomputable def fA:aq:=[("inner",.local),("chunks",.local),("begin",.local),("at",.local),("kept",.local),("chunk",.local),("len",.globalImplicit)]
def fI:Cm Fl :=
 (ac (jP 1 aB) (ac (ae 2 (ck (.int 0))) (ac (ae 3 (cite (ay .Eq (bT (aa 0) (ck (.int 0))) (ck (.str (L "!")))) (ck (.int 2)) (ck (.int 1)))) (ac (i6 (ay .Lt (aa 3) (cun cj (aa 0))) (ac (cif (ay .Eq (bT (aa 0) (aa 3)) (ck (.str (L "-")))) (ac (pL 1 (cH (aa 0) (aa 2) (aa 3))) (ac (ae 2 (aI .Add (aa 3) (ck (.int 1)))) (ac (pK 3 (ck (.int 3))) ag))) (ac (pK 3 (ck (.int 1))) ag)) ag) tc) (ac (cif (ay .Lt (aa 2) (cun cj (aa 0))) (ac (pL 1 (cH (aa 0) (aa 2) (ck .none))) ag) (ac (zo 1 (aI .Add (uF 1 (-1)) (ck (.str (L "-")))) (pG (ck (.int 1)))) ag)) (ac (jP 4 (rc (uF 1 (-1)) aB)) (ac (gF (d5 (crev (cH (aa 1) (ck .none) (pG (ck (.int 1)))))) (bA 5) (ac (cif (ay .Gt (bT (aa 5) (pG (ck (.int 1)))) (bT (uF 4 (0)) (ck (.int 0)))) (ac (zo 4 (aI .Add (cH (aa 5) (ck .none) (pG (ck (.int 1)))) (cH (uF 4 (0)) (ck (.int 1)) (ck .none))) (ck (.int 0))) ag) (ac (uE 4 (d4 (rc (aa 5) aB)) (aa 4)) ag)) ag)) (ac (bN (aa 4)) ag))))))))
def ql:Sp:=er fA ["inner"] fI.d
noncomputable def gy:aq:=[("sign",.local),("inner",.local),("members",.local),("chunk",.local),("negated",.local),("found",.local),("at",.local),("low",.local),("_fnmatch_chunks",.globalImplicit),("len",.globalImplicit)]
def gB:Cm Fl :=
 (ac (jP 2 aB) (ac (gF (d5 (be ql (rc (aa 1) aB))) (bA 3) (ac (cif (ctruo 2) (ac (pL 2 (ck (.str (L "")))) ag) ag) (ac (uE 2 (aa 2) (gY (d5 (aa 3)) 2 (bA 9) ro (aa 9))) ag))) (ac (ae 4 (iy .Eq (cH (aa 2) (ck .none) (ck (.int 1))) (d4 (rc (ck (.str (L "!"))) aB)))) (ac (cif (fm (aa 4)) (ac (ae 2 (cH (aa 2) (ck (.int 1)) (ck .none))) ag) ag) (ac (ae 5 (ck (.bool false))) (ac (ae 6 (ck (.int 0))) (ac (i6 (ay .Lt (aa 6) (cun cj (aa 2))) (ac (ae 7 (cite (ay .NotEq (bT (aa 2) (aa 6)) (ck (.str (L "")))) (bT (aa 2) (aa 6)) (ck (.str (L "-"))))) (ac (cif (eR (ay .Lt (aI .Add (aa 6) (ck (.int 2))) (cun cj (aa 2))) (ay .Eq (bT (aa 2) (aI .Add (aa 6) (ck (.int 1)))) (ck (.str (L ""))))) (ac (cif (eR (ay .LtE (aa 7) (aa 0)) (ay .LtE (aa 0) (bT (aa 2) (aI .Add (aa 6) (ck (.int 2)))))) (ac (ae 5 (ck (.bool true))) ag) ag) (ac (pK 6 (ck (.int 3))) ag)) (ac (cif (ay .Eq (aa 7) (aa 0)) (ac (ae 5 (ck (.bool true))) ag) ag) (ac (pK 6 (ck (.int 1))) ag))) ag)) tc) (ac (bN (iy .NotEq (aa 5) (aa 4))) ag))))))))
def je:Sp:=er gy ["sign","inner"] gB.d
def iF:aq:=[("name",.local),("pattern",.local),("places",.local),("at",.local),("sign",.local),("behind",.local),("close",.local),("met",.local),("place",.local),("fits",.local),("len",.globalImplicit),("list",.globalImplicit),("range",.globalImplicit),("_fnmatch_class",.globalImplicit)]
@[irreducible] def dP:Cm Fl :=
 (ac (ae 6 (aa 5)) (ac (cif (eR (ay .Lt (aa 6) (cun cj (aa 1))) (ay .Eq (bT (aa 1) (aa 6)) (ck (.str (L "!"))))) (ac (pK 6 (ck (.int 1))) ag) ag) (ac (cif (eR (ay .Lt (aa 6) (cun cj (aa 1))) (ay .Eq (bT (aa 1) (aa 6)) (ck (.str (L "]"))))) (ac (pK 6 (ck (.int 1))) ag) ag) (ac (i6 (eR (ay .Lt (aa 6) (cun cj (aa 1))) (ay .NotEq (bT (aa 1) (aa 6)) (ck (.str (L "]"))))) (ac (pK 6 (ck (.int 1))) ag) tc) (ac (cif (ay .Lt (aa 6) (cun cj (aa 1))) (ac (ae 5 (aI .Add (aa 6) (ck (.int 1)))) ag) (ac (ae 6 (pG (ck (.int 1)))) ag)) ag)))))
@[irreducible] def hB:Cm Fl :=
 (ac (ae 2 (aa 7)) (ac (ae 3 (aa 5)) ag))
@[irreducible] def eT:Cm Fl :=
 (ac (cif (fm (aa 9)) (ac (pL 7 (aI .Add (aa 8) (ck (.int 1)))) ag) ag) ag)
@[irreducible] def eS:Cm Fl :=
 (ac (cif (ay .Eq (aa 8) (cun cj (aa 0))) (ac ccont ag) ag) (ac (cif (ay .Eq (aa 4) (ck (.str (L "?")))) (ac (ae 9 (ck (.bool true))) ag) (ac (cif (ay .GtE (aa 6) (ck (.int 0))) (ac (ae 9 (be je (rc (bT (aa 0) (aa 8)) (rc (cH (aa 1) (aI .Add (aa 3) (ck (.int 1))) (aa 6)) aB)))) ag) (ac (ae 9 (iy .Eq (bT (aa 0) (aa 8)) (aa 4))) ag)) ag)) eT))
@[irreducible] def dB:Cm Fl :=
 (ac (jP 7 aB) (ac (cif (ay .Eq (aa 4) (ck (.str (L "*")))) (ac (cif (fm (aa 2)) (ac (ae 7 (clistr (bT (aa 2) (ck (.int 0))) (aI .Add (cun cj (aa 0)) (ck (.int 1))))) ag) ag) ag) (ac (gF (d5 (aa 2)) (bA 8) eS) ag)) hB))
def iM:Cm Fl :=
 (ac (ae 2 (d4 (rc (ck (.int 0)) aB))) (ac (ae 3 (ck (.int 0))) (ac (i6 (ay .Lt (aa 3) (cun cj (aa 1))) (ac (ae 4 (bT (aa 1) (aa 3))) (ac (ae 5 (aI .Add (aa 3) (ck (.int 1)))) (ac (ae 6 (pG (ck (.int 1)))) (ac (cif (ay .Eq (aa 4) (ck (.str (L "[")))) dP ag) dB)))) tc) (ac (bN (iy .In (cun cj (aa 0)) (aa 2))) ag))))
def oF:Sp:=er iF ["name","pattern"] iM.d
noncomputable def jl:aq:=[("piece",.local),("tokens",.local),("inner",.local),("sign",.local)]
def jR:Cm Fl :=
 (ac (jP 1 aB) (ac (ae 2 (ck .none)) (ac (gF (d5 (aa 0)) (bA 3) (ac (cif (eR (ay .IsNot (aa 2) (ck .none)) (ay .Eq (aa 3) (ck (.str (L "]"))))) (ac (pL 1 (lh (rc (ck (.str (L "class"))) (rc (aa 2) aB)))) (ac (ae 2 (ck .none)) ag)) (ac (cif (ay .IsNot (aa 2) (ck .none)) (ac (ae 2 (aI .Add (aa 2) (aa 3))) ag) (ac (cif (ay .Eq (aa 3) (ck (.str (L "[")))) (ac (ae 2 (ck (.str (L "")))) ag) (ac (pL 1 (lh (rc (aa 3) (rc (ck (.str (L ""))) aB)))) ag)) ag)) ag)) ag)) (ac (bN (aa 1)) ag))))
def lO:Sp:=er jl ["piece"] jR.d
noncomputable def kO:aq:=[("inner",.local),("sign",.local),("negated",.local),("rest",.local),("found",.local),("int",.globalImplicit),("len",.globalImplicit)]
def kZ:Cm Fl :=
 (ac (ae 2 (iy .Eq (cH (aa 0) (ck .none) (ck (.int 1))) (ck (.str (L "!"))))) (ac (ae 3 (cH (aa 0) (cun (f1 intbV) (aa 2)) (ck .none))) (ac (ae 4 (ck (.bool false))) (ac (i6 (ay .NotEq (aa 3) (ck (.str (L "")))) (ac (cif (eR (ay .Gt (cun cj (aa 3)) (ck (.int 2))) (ay .Eq (bT (aa 3) (ck (.int 1))) (ck (.str (L "-"))))) (ac (ae 4 (cor (aa 4) (cand (iy .LtE (bT (aa 3) (ck (.int 0))) (aa 1)) (iy .LtE (aa 1) (bT (aa 3) (ck (.int 2))))))) (ac (ae 3 (cH (aa 3) (ck (.int 3)) (ck .none))) ag)) (ac (ae 4 (cor (aa 4) (iy .Eq (bT (aa 3) (ck (.int 0))) (aa 1)))) (ac (ae 3 (cH (aa 3) (ck (.int 1)) (ck .none))) ag))) ag) tc) (ac (bN (iy .NotEq (aa 4) (aa 2))) ag)))))
def lk:Sp:=er kO ["inner","sign"] kZ.d
noncomputable def fW:aq:=[("tokens",.local),("text",.local),("kind",.local),("inner",.local),("k",.local),("range",.globalImplicit),("len",.globalImplicit),("_law_fits",.globalImplicit),("_law_holds",.globalImplicit)]
def gj (sp_law_fits:Sp):Cm Fl :=
 (ac (cif (ay .Eq (aa 0) (d4 aB)) (ac (bN (iy .Eq (aa 1) (ck (.str (L ""))))) ag) ag) (ac (zD (bT (aa 0) (ck (.int 0))) (sC [2,3])) (ac (cif (ay .Eq (aa 2) (ck (.str (L "*")))) (ac (gF (dA (aI .Add (cun cj (aa 1)) (ck (.int 1)))) (bA 4) (ac (cif (fm (be sp_law_fits (rc (cH (aa 0) (ck (.int 1)) (ck .none)) (rc (cH (aa 1) (aa 4) (ck .none)) aB)))) (ac (bN (ck (.bool true))) ag) ag) ag)) (ac (bN (ck (.bool false))) ag)) ag) (ac (cif (sP (ay .Eq (aa 1) (ck (.str (L "")))) (eR (ay .Eq (aa 2) (ck (.str (L "class")))) (gA (fm (be lk (rc (aa 3) (rc (bT (aa 1) (ck (.int 0))) aB))))))) (ac (bN (ck (.bool false))) ag) ag) (ac (cif (eR (ay .NotIn (aa 2) (lh (rc (ck (.str (L "class"))) (rc (ck (.str (L "?"))) aB)))) (ay .NotEq (aa 2) (bT (aa 1) (ck (.int 0))))) (ac (bN (ck (.bool false))) ag) ag) (ac (bN (be sp_law_fits (rc (cH (aa 0) (ck (.int 1)) (ck .none)) (rc (cH (aa 1) (ck (.int 1)) (ck .none)) aB)))) ag))))))
noncomputable def fi:Nat→Sp
 | 0=>fun a a=>none
 | n+1=>er fW ["tokens","text"] (gj (fi n)).d
def wu:Sp:=fi 4
noncomputable def jp:aq:=[("pattern",.local),("path",.local),("pieces",.cell),("parts",.cell),("len",.globalImplicit),("range",.globalImplicit)]
def jU:Cm Fl :=
 (ac (zD (lh (rc (cbi ef (aa 0) (ck (.str (L "/")))) (rc (cbi ef (aa 1) (ck (.str (L "/")))) aB))) (sC [2,3])) (ac (bN (cand (iy .Eq (cun cj (aa 2)) (cun cj (aa 3))) (iy .Eq (gY (dA (cun cj (aa 3))) 2 (bA 5) (gA (fm (be wu (rc (be lO (rc (bT (aa 2) (aa 5)) aB)) (rc (bT (aa 3) (aa 5)) aB))))) (aa 5)) (d4 aB)))) ag))
def lT:Sp:=er jp ["pattern","path"] jU.d
noncomputable def n_hex:aq:=[("number",.local),("length",.local),("signs",.local),("len",.globalImplicit)]
def c_hex:Cm Fl :=
 (ac (ae 2 (ck (.str (L "")))) (ac (i6 (sP (ay .Gt (aa 0) (ck (.int 0))) (ay .Lt (cun cj (aa 2)) (aa 1))) (ac (ae 2 (aI .Add (bT (ck (.str (L "0123456789abcdef"))) (aI .Mod (aa 0) (ck (.int 16)))) (aa 2))) (ac (ae 0 (aI .FloorDiv (aa 0) (ck (.int 16)))) ag)) tc) (ac (bN (aa 2)) ag)))
def nL:Sp:=er n_hex ["number","length"] c_hex.d
noncomputable def tM:aq:=[("targetpath",.local),("pathpattern",.local),("target_parts",.local),("pattern_parts",.local),("target",.local),("pattern",.local),("len",.globalImplicit),("zip",.globalImplicit),("_fnmatchcase",.globalImplicit)]
def uI:Cm Fl :=
 (ac (ae 2 (cbi ef (aa 0) (ck (.str (L "/"))))) (ac (ae 3 (cbi ef (aa 1) (ck (.str (L "/"))))) (ac (cif (ay .NotEq (cun cj (aa 2)) (cun cj (aa 3))) (ac (bN (ck (.bool false))) ag) ag) (ac (cforz (aa 2) (aa 3) (sC [4,5]) (ac (cif (gA (fm (be oF (rc (aa 4) (rc (aa 5) aB))))) (ac (bN (ck (.bool false))) ag) ag) ag)) (ac (bN (ck (.bool true))) ag)))))
def oG:Sp:=er tM ["targetpath","pathpattern"] uI.d
noncomputable def iG:aq:=[("self",.local),("version",.local),("spec_version",.local),("expires",.local),("unrecognized_fields",.local),("spec_list",.local),("SPECIFICATION_VERSION",.globalImplicit),("len",.globalImplicit),("all",.globalImplicit),("ValueError",.globalImplicit)]
def iN:Cm Fl :=
 (ac (cif (ay .Is (aa 2) (ck .none)) (ac (ae 2 (cbi mr (ck (.str (L "."))) (ck bC))) ag) ag) (ac (ae 5 (cbi ef (aa 2) (ck (.str (L "."))))) (ac (cif (sP (ay .NotIn (cun cj (aa 5)) (d4 (rc (ck (.int 2)) (rc (ck (.int 3)) aB)))) (gA (fm (callg (d5 (aa 5)))))) (ac eQ ag) ag) (ac (cif (ay .NotEq (bT (aa 5) (ck (.int 0))) (bT (ck bC) (ck (.int 0)))) (ac eQ ag) ag) (ac (bV 0 ad0.cTar "spec_version" (aa 2)) (ac (bV 0 ad0.cTar "expires" (aa 3)) (ac (cif (ay .Is (aa 1) (ck .none)) (ac (ae 1 (ck (.int 1))) ag) (ac (cif (ay .LtE (aa 1) (ck (.int 0))) (ac eQ ag) ag) ag)) (ac (bV 0 ad0.cTar "version" (aa 1)) (ac (cif (ay .Is (aa 4) (ck .none)) (ac (ae 4 eJ) ag) ag) (ac (bV 0 ad0.cTar "unrecognized_fields" (aa 4)) ag))))))))))
noncomputable def jq:aq:=[("self",.local),("keyids",.local),("threshold",.local),("unrecognized_fields",.local),("len",.globalImplicit),("set",.globalImplicit),("ValueError",.globalImplicit)]
def jZ:Cm Fl :=
 (ac (cif (ay .NotEq (clset (aa 1)) (cun cj (aa 1))) (ac eQ ag) ag) (ac (cif (ay .Lt (aa 2) (ck (.int 1))) (ac eQ ag) ag) (ac (bV 0 ad0.cDel "keyids" (aa 1)) (ac (bV 0 ad0.cDel "threshold" (aa 2)) (ac (cif (ay .Is (aa 3) (ck .none)) (ac (ae 3 eJ) ag) ag) (ac (bV 0 ad0.cDel "unrecognized_fields" (aa 3)) ag))))))
noncomputable def oV:aq:=[("self",.local),("keyids",.local),("threshold",.local),("unrecognized_fields",.local),("len",.globalImplicit),("set",.globalImplicit),("ValueError",.globalImplicit)]
def jY:Cm Fl :=
 (ac (cif (ay .NotEq (clset (aa 1)) (cun cj (aa 1))) (ac eQ ag) ag) (ac (cif (ay .Lt (aa 2) (ck (.int 1))) (ac eQ ag) ag) (ac (bV 0 ad0.cSuc "keyids" (aa 1)) (ac (bV 0 ad0.cSuc "threshold" (aa 2)) (ac (cif (ay .Is (aa 3) (ck .none)) (ac (ae 3 eJ) ag) ag) (ac (bV 0 ad0.cSuc "unrecognized_fields" (aa 3)) ag))))))
noncomputable def mn:aq:=[("self",.local),("name",.local),("keyids",.local),("threshold",.local),("terminating",.local),("paths",.local),("path_hash_prefixes",.local),("unrecognized_fields",.local),("exclusive_vars",.local),("__class__",.free),("super",.globalImplicit),("sum",.globalImplicit),("ValueError",.globalImplicit),("any",.globalImplicit)]
def nn:Cm Fl :=
 (ac (bV 0 ad0.cDel "name" (aa 1)) (ac (bV 0 ad0.cDel "terminating" (aa 4)) (ac (ae 8 (d4 (rc (aa 5) (rc (aa 6) aB)))) (ac (cif (ay .NotEq (zn (d5 (aa 8))) (ck (.int 1))) (ac eQ ag) ag) (ac (cif (eR (ay .IsNot (aa 5) (ck .none)) (fm (canyg (d5 (aa 5))))) (ac eQ ag) ag) (ac (cif (eR (ay .IsNot (aa 6) (ck .none)) (fm (canyg (d5 (aa 6))))) (ac eQ ag) ag) (ac (bV 0 ad0.cDel "paths" (aa 5)) (ac (bV 0 ad0.cDel "path_hash_prefixes" (aa 6)) ag))))))))
noncomputable def mj:aq:=[("self",.local),("keyids",.local),("threshold",.local),("bit_length",.local),("name_prefix",.local),("unrecognized_fields",.local),("__class__",.free),("super",.globalImplicit),("ValueError",.globalImplicit),("isinstance",.globalImplicit),("str",.globalImplicit),("len",.globalImplicit),("_hex",.globalImplicit)]
def nk:Cm Fl :=
 (ac (cif (sP (ay .LtE (aa 3) (ck (.int 0))) (ay .Gt (aa 3) (ck (.int 32)))) (ac eQ ag) ag) (ac (cif (gA (fm (cisi (aa 4)))) (ac eQ ag) ag) (ac (bV 0 ad0.cSuc "bit_length" (aa 3)) (ac (bV 0 ad0.cSuc "name_prefix" (aa 4)) (ac (bV 0 ad0.cSuc "number_of_bins" (aI .Pow (ck (.int 2)) (aa 3))) (ac (bV 0 ad0.cSuc "suffix_len" (cun cj (be nL (rc (aI .Sub (cattri 0 ad0.cSuc "number_of_bins") (ck (.int 1))) (rc (ck (.int 1)) aB))))) ag))))))
noncomputable def mh:aq:=[("self",.local),("version",.local),("spec_version",.local),("expires",.local),("targets",.local),("delegations",.local),("unrecognized_fields",.local),("__class__",.free),("super",.globalImplicit)]
def nh:Cm Fl :=
 (ac (bV 0 ad0.cTar "targets" (cite (ay .IsNot (aa 4) (ck .none)) (aa 4) eJ)) (ac (bV 0 ad0.cTar "delegations" (aa 5)) ag))
noncomputable def eF:aq:=[("self",.local),("keys",.local),("roles",.local),("succinct_roles",.local),("unrecognized_fields",.local),("role",.local),("sum",.globalImplicit),("ValueError",.globalImplicit),("TOP_LEVEL_ROLE_NAMES",.globalImplicit)]
def gm:Cm Fl :=
 (ac (bV 0 ad0.cDlg "keys" (aa 1)) (ac (cif (ay .NotEq (zn (d5 (d4 (rc (aa 2) (rc (aa 3) aB))))) (ck (.int 1))) (ac eQ ag) ag) (ac (cif (ay .IsNot (aa 2) (ck .none)) (ac (gF (ckeys (aa 2)) (bA 5) (ac (cif (sP (gA (fm (aa 5))) (ay .In (aa 5) (ck bH))) (ac eQ ag) ag) ag)) ag) ag) (ac (bV 0 ad0.cDlg "roles" (aa 2)) (ac (bV 0 ad0.cDlg "succinct_roles" (aa 3)) (ac (cif (ay .Is (aa 4) (ck .none)) (ac (ae 4 eJ) ag) ag) (ac (bV 0 ad0.cDlg "unrecognized_fields" (aa 4)) ag)))))))
noncomputable def qD:aq:=[("self",.local),("keys",.local),("roles",.local),("succinct_roles",.local),("unrecognized_fields",.local),("role",.local),("sum",.globalImplicit),("ValueError",.globalImplicit),("TOP_LEVEL_ROLE_NAMES",.globalImplicit)]
def k7:Cm (Option Fl) :=
 (az (ai (bV 0 ad0.cDlg "keys" (aa 1))) (az (i8 (ai (ay .NotEq (zn (d5 (d4 (rc (aa 2) (rc (aa 3) aB))))) (ck (.int 1)))) (az (mV (rc (ck (.str (L "One of roles and succinct_roles must be set"))) aB)) (ai ag)) (ai ag)) (az (i8 (ai (ay .IsNot (aa 2) (ck .none))) (az (uG (ckeys (aa 2)) (bA 5) (az (i8 (ai (sP (gA (fm (aa 5))) (ay .In (aa 5) (ck bH)))) (az (mV (rc (ck (.str (L "Delegated roles cannot be empty or use top-level role names"))) aB)) (ai ag)) (ai ag)) (ai ag))) (ai ag)) (ai ag)) (az (ai (bV 0 ad0.cDlg "roles" (aa 2))) (az (ai (bV 0 ad0.cDlg "succinct_roles" (aa 3))) (az (ai (cif (ay .Is (aa 4) (ck .none)) (ac (ae 4 eJ) ag) ag)) (az (ai (bV 0 ad0.cDlg "unrecognized_fields" (aa 4))) (ai ag))))))))
def oM:SpI:=gT jq 0 ["keyids","threshold","unrecognized_fields"] 0 ad0.cDel jZ.d
def oL:SpI:=gT oV 0 ["keyids","threshold","unrecognized_fields"] 0 ad0.cSuc jY.d
def wx:SpI:=gT iG 0 ["version","spec_version","expires","unrecognized_fields"] 0 ad0.cTar iN.d
def tw:Sp:=qE ad0.cDel (ij mn 0 ["name","keyids","threshold","terminating","paths","path_hash_prefixes","unrecognized_fields"] 1 ad0.cDel [2,3,7] oM nn.d)
def wq:Sp:=qE ad0.cSuc (ij mj 0 ["keyids","threshold","bit_length","name_prefix","unrecognized_fields"] 1 ad0.cSuc [1,2,5] oL nk.d)
def tv:Sp:=qE ad0.cTar (ij mh 0 ["version","spec_version","expires","targets","delegations","unrecognized_fields"] 1 ad0.cTar [1,2,3,6] wx nh.d)
def oJ:Sp:=qE ad0.cDlg (gT eF 0 ["keys","roles","succinct_roles","unrecognized_fields"] 1 ad0.cDlg gm.d)
def rS:Sp:=qE ad0.cDlg (gT eF 0 ["keys","roles","succinct_roles","unrecognized_fields"] 2 ad0.cDlg gm.d)
def qk:SpU:=w9 ad0.cDlg (lx qD 0 ["keys","roles","succinct_roles","unrecognized_fields"] 2 ad0.cDlg k7.d)
noncomputable def w7:aq:=[("self",.local),("target_filepath",.local),("digest",.local),("target_filepath_hash",.local),("path_hash_prefix",.local),("pathpattern",.local)]
def zI:Cm Fl :=
 (ac (cif (ay .IsNot (bG ad0.cDel "path_hash_prefixes" (aa 0)) (ck .none)) (ac (ae 3 (fo ad0.a_law_digest eC (aa 2) (rc (cbi eN (aa 1) (ck (.str (L "utf-8")))) (rc (ck (.str (L "sha256"))) aB)))) (ac (gF (d5 (bG ad0.cDel "path_hash_prefixes" (aa 0))) (bA 4) (ac (cif (fm (cbi fQ (aa 3) (aa 4))) (ac (bN (ck (.bool true))) ag) ag) ag)) ag)) (ac (cif (ay .IsNot (bG ad0.cDel "paths" (aa 0)) (ck .none)) (ac (gF (d5 (bG ad0.cDel "paths" (aa 0))) (bA 5) (ac (cif (fm (csmeth ad0.cDel "_is_target_in_pathpattern" oG (aa 0) (rc (aa 1) (rc (aa 5) aB)))) (ac (bN (ck (.bool true))) ag) ag) ag)) ag) ag) ag)) (ac (bN (ck (.bool false))) ag))
def rQ:Sp:=er w7 ["self","target_filepath","digest"] zI.d
noncomputable def w8:aq:=[("self",.local),("target_filepath",.local),("digest",.local),("hash_signs",.local),("shift_value",.local),("bin_number",.local),("suffix",.local),("int",.globalImplicit),("_hex",.globalImplicit)]
def zJ:Cm Fl :=
 (ac (ae 3 (cH (fo ad0.a_law_digest eC (aa 2) (rc (cbi eN (aa 1) (ck (.str (L "utf-8")))) (rc (ck (.str (L "sha256"))) aB))) (ck .none) (ck (.int 8)))) (ac (ae 4 (aI .Sub (ck (.int 32)) (bG ad0.cSuc "bit_length" (aa 0)))) (ac (ae 5 (cshr (pI (aa 3)) (aa 4))) (ac (ae 6 (be nL (rc (aa 5) (rc (bG ad0.cSuc "suffix_len" (aa 0)) aB)))) (ac (bN (cjs (rc (cfv (bG ad0.cSuc "name_prefix" (aa 0))) (rc (ck (.str (L "-"))) (rc (cfv (aa 6)) aB))))) ag)))))
def rR:Sp:=er w8 ["self","target_filepath","digest"] zJ.d
noncomputable def n_gr:aq:=[("self",.local),("target_filepath",.local),("digest",.local),("role",.local)]
def c_gr:Cm (List V) :=
 (cgen (ay .IsNot (bG ad0.cDlg "roles" (aa 0)) (ck .none)) (cvals (bG ad0.cDlg "roles" (aa 0))) (bA 3) (fm (cmeth ad0.cDel "is_delegated_path" rQ (aa 3) (rc (aa 1) (rc (aa 2) aB)))) (lh (rc (bG ad0.cDel "name" (aa 3)) (rc (bG ad0.cDel "terminating" (aa 3)) aB))) (ay .IsNot (bG ad0.cDlg "succinct_roles" (aa 0)) (ck .none)) (lh (rc (cmeth ad0.cSuc "get_role_for_target" rR (bG ad0.cDlg "succinct_roles" (aa 0)) (rc (aa 1) (rc (aa 2) aB))) (rc (ck (.bool true)) aB))))
def wt:SpG:=qT n_gr ["self","target_filepath","digest"] c_gr.d
noncomputable def r6:aq:=[("self",.local),("role_name",.local),("desired_prefix",.local),("suffix",.local),("num",.local),("len",.globalImplicit),("int",.globalImplicit),("ValueError",.globalImplicit)]
def zH:Cm (Option Fl) :=
 (az (ai (ae 2 (aI .Add (bG ad0.cSuc "name_prefix" (aa 0)) (ck (.str (L "-")))))) (az (ai (cif (gA (fm (cbi fQ (aa 1) (aa 2)))) (ac (bN (ck (.bool false))) ag) ag)) (az (ai (ae 3 (cH (aa 1) (cun cj (aa 2)) (ck .none)))) (az (ai (cif (ay .NotEq (cun cj (aa 3)) (bG ad0.cSuc "suffix_len" (aa 0))) (ac (bN (ck (.bool false))) ag) ag)) (az (uA (az (gZ 4 (ai (pI (aa 3)))) (ai ag)) false) (az (ai (bN (sX .LtE .Lt (ck (.int 0)) (aa 4) (bG ad0.cSuc "number_of_bins" (aa 0))))) (ai ag)))))))
def ox:SpU:=iI r6 ["self","role_name"] zH.d
def uH:Cm (Option Fl) :=
 (az (ai (ae 2 (aI .Add (bG ad0.cSuc "name_prefix" (aa 0)) (ck (.str (L "-")))))) (az (ai (cif (gA (fm (cbi fQ (aa 1) (aa 2)))) (ac (bN (ck (.bool false))) ag) ag)) (az (ai (ae 3 (cH (aa 1) (cun cj (aa 2)) (ck .none)))) (az (ai (cif (ay .NotEq (cun cj (aa 3)) (bG ad0.cSuc "suffix_len" (aa 0))) (ac (bN (ck (.bool false))) ag) ag)) (az (uA (az (gZ 4 (zB (aa 3))) (ai ag)) false) (az (ai (bN (sX .LtE .Lt (ck (.int 0)) (aa 4) (bG ad0.cSuc "number_of_bins" (aa 0))))) (ai ag)))))))
def lj:SpU:=iI r6 ["self","role_name"] uH.d
noncomputable def n_gdr:aq:=[("self",.local),("delegated_role",.local),("role",.local),("succinct",.local),("ValueError",.globalImplicit)]
def c_gdr:Cm (Option Fl) :=
 (az (i8 (ai (ay .Is (bG ad0.cTar "delegations" (aa 0)) (ck .none))) (az (mV (rc (ck (.str (L "No delegations found"))) aB)) (ai ag)) (ai ag)) (az (ai (ae 2 (ck .none))) (az (i8 (ai (ay .IsNot (bG ad0.cDlg "roles" (bG ad0.cTar "delegations" (aa 0))) (ck .none))) (ai (ac (ae 2 (cdget (bG ad0.cDlg "roles" (bG ad0.cTar "delegations" (aa 0))) (aa 1))) ag)) (az (i8 (ai (ay .IsNot (bG ad0.cDlg "succinct_roles" (bG ad0.cTar "delegations" (aa 0))) (ck .none))) (az (ai (ae 3 (bG ad0.cDlg "succinct_roles" (bG ad0.cTar "delegations" (aa 0))))) (az (i8 (uB (kB ad0.cSuc "is_delegated_role" ox (aa 3) (rc (aa 1) aB))) (ai (ac (ae 2 (aa 3)) ag)) (ai ag)) (ai ag))) (ai ag)) (ai ag))) (az (i8 (ai (gA (ctruO [ad0.cDel,ad0.cSuc] (aa 2)))) (az (mV (rc (cjs (rc (ck (.str (L "Delegated role "))) (rc (cfv (aa 1)) (rc (ck (.str (L " not found"))) aB)))) aB)) (ai ag)) (ai ag)) (az (ai (bN (aa 2))) (ai ag))))))
def lI:SpU:=iI n_gdr ["self","delegated_role"] c_gdr.d
def r7:aq:=[("w",.local),("path",.local),("bits",.local),("ahead",.local),("roles",.local),("number",.local),("sign",.local),("tail",.local),("k",.local),("beyond",.local),("other",.cell),("targets",.cell),("_law_next",.globalImplicit),("SuccinctRoles",.globalImplicit),("_law_digest",.globalImplicit),("range",.globalImplicit),("list",.globalImplicit),("Delegations",.globalImplicit),("Targets",.globalImplicit),("_law_refused",.globalImplicit)]
@[irreducible] def jX:Cm (Option Bool) :=
 (pJ .IsNot (kB ad0.cSuc "is_delegated_role" lj (aa 4) (rc (aI .Add (aI .Add (aI .Add (aa 3) (ck (.str (L "-")))) (cH (aa 7) (ck .none) (pG (ck (.int 1))))) (ck (.str (L "g")))) aB)) (ck (.bool false)))
@[irreducible] def ir:Cm (Option Fl) :=
 (az (uG (d5 (d4 (rc (aI .Add (aI .Add (cH (aa 3) (ck .none) (pG (ck (.int 1)))) (ck (.str (L "x-")))) (aa 7)) (rc (aI .Add (aI .Add (aa 3) (ck (.str (L "_")))) (aa 7)) (rc (aI .Add (aI .Add (cun (f1l iU) (cun (f1l j7) (cun (f1l iU) (aa 3)))) (ck (.str (L "x")))) (aa 7)) (rc (aI .Add (aI .Add (aI .Add (ck (.str (L "x"))) (cH (aa 3) (ck (.int 1)) (ck .none))) (ck (.str (L "-")))) (aa 7)) aB)))))) (bA 10) (az (i8 (corU (pJ .IsNot (kB ad0.cSuc "is_delegated_role" ox (aa 4) (rc (aa 10) aB)) (ck (.bool false))) (zu (uB (mU [11,10] (lR ad0.cTar "get_delegated_role" lI))))) (ai (ac (bN (ck (.bool false))) ag)) (ai ag)) (ai ag))) (az (ai (bN (ck (.bool true)))) (ai ag)))
@[irreducible] def fK:Cm (Option Fl) :=
 (az (i8 (corU (candU (ai (ay .Gt (aI .Mod (aa 2) (ck (.int 4))) (ck (.int 0)))) (pJ .IsNot (kB ad0.cSuc "is_delegated_role" lj (aa 4) (rc (aI .Add (aI .Add (aa 3) (ck (.str (L "-")))) (aa 9)) aB)) (ck (.bool false)))) jX) (ai (ac (bN (ck (.bool false))) ag)) (ai ag)) ir)
@[irreducible] def iu:Cm (Option Fl) :=
 (az (ai (ae 9 (ck (.str (L ""))))) (az (ai (gF (dA (aI .FloorDiv (aI .Add (aa 2) (ck (.int 3))) (ck (.int 4)))) (bA 8) (ac (ae 9 (aI .Add (bT (ck (.str (L "0123456789abcdef"))) (aI .Mod (aI .FloorDiv (aI .Sub (aI .Pow (ck (.int 16)) (aI .FloorDiv (aI .Add (aa 2) (ck (.int 3))) (ck (.int 4)))) (ck (.int 1))) (aI .Pow (ck (.int 16)) (aa 8))) (ck (.int 16)))) (aa 9))) ag))) fK))
@[irreducible] def hG:Cm (Option Fl) :=
 (az (ai (cif (ay .NotEq (zA ad0.cDlg "get_roles_for_target" wt (fo ad0.cDlg oJ (ck (.adr ad0.cDlg)) (rc eJ (rc (ck .none) (rc (aa 4) aB)))) (rc (aa 1) (rc (ck (.adr ad0.a_law_digest)) aB))) (d4 (rc (lh (rc (aI .Add (aI .Add (aa 3) (ck (.str (L "-")))) (aa 7)) (rc (ck (.bool true)) aB))) aB))) (ac (bN (ck (.bool false))) ag) ag)) (az (ai (ae 11 (fo ad0.cTar tv (ck (.adr ad0.cTar)) (rc (ck (.int 1)) (rc (ck (.str (L "1.0"))) (rc (ck (.int 9)) (rc eJ (rc (fo ad0.cDlg oJ (ck (.adr ad0.cDlg)) (rc eJ (rc (ck .none) (rc (aa 4) aB)))) aB)))))))) (az (i8 (pJ .NotEq (cattrU ad0.cSuc "bit_length" (kB ad0.cTar "get_delegated_role" lI (aa 11) (rc (aI .Add (aI .Add (aa 3) (ck (.str (L "-")))) (aa 7)) aB))) (aa 2)) (ai (ac (bN (ck (.bool false))) ag)) (ai ag)) iu)))
def zK:Cm (Option Fl) :=
 (az (ai (ae 2 (aI .Add (ck (.int 1)) (be bE (rc (aa 0) (rc (ck (.int 9)) aB)))))) (az (ai (ae 3 (bT (d4 (rc (ck (.str (L "bin"))) (rc (ck (.str (L "a-b"))) (rc (ck (.str (L "K"))) aB)))) (be bE (rc (aa 0) (rc (ck (.int 3)) aB)))))) (az (ai (ae 4 (fo ad0.cSuc wq (ck (.adr ad0.cSuc)) (rc (d4 (rc (ck (.str (L "k"))) aB)) (rc (ck (.int 1)) (rc (aa 2) (rc (aa 3) aB))))))) (az (ai (ae 5 (ck (.int 0)))) (az (ai (gF (d5 (cH (be eC (rc (cbi eN (aa 1) (ck (.str (L "utf-8")))) (rc (ck (.str (L "sha256"))) aB))) (ck .none) (ck (.int 8)))) (bA 6) (ac (ae 5 (aI .Add (aI .Mult (ck (.int 16)) (aa 5)) (cbi mz (ck (.str (L "0123456789abcdef"))) (aa 6)))) ag))) (az (ai (ae 5 (aI .FloorDiv (aa 5) (aI .Pow (ck (.int 2)) (aI .Sub (ck (.int 32)) (aa 2)))))) (az (ai (ae 7 (ck (.str (L ""))))) (az (ai (gF (dA (aI .FloorDiv (aI .Add (aa 2) (ck (.int 3))) (ck (.int 4)))) (bA 8) (ac (ae 7 (aI .Add (bT (ck (.str (L "0123456789abcdef"))) (aI .Mod (aI .FloorDiv (aa 5) (aI .Pow (ck (.int 16)) (aa 8))) (ck (.int 16)))) (aa 7))) ag))) hG))))))))
def rP:SpU:=iI r7 ["w","path"] zK.d
noncomputable def w6:aq:=[("script",.local),("w",.cell),("paths",.local),("names",.local),("turn",.local),("roles",.local),("told",.local),("terminating",.local),("path",.cell),("patterns",.local),("prefixes",.local),("delegations",.local),("signs",.cell),("due",.local),("hit",.local),("role",.local),("row",.local),("bad",.local),("name",.cell),("some",.cell),("targets",.cell),("_law_draws",.globalImplicit),("range",.globalImplicit),("_law_next",.globalImplicit),("DelegatedRole",.globalImplicit),("Delegations",.globalImplicit),("Targets",.globalImplicit),("_law_digest",.globalImplicit),("list",.globalImplicit),("_law_bins",.globalImplicit),("_law_refused",.globalImplicit),("dict",.globalImplicit)]
@[irreducible] def eU:Cm V :=
 (gY (dA (ck (.int 3))) 2 (bA 22) ro (cbi mr (ck (.str (L "/"))) (gY (dA (aI .Add (ck (.int 1)) (be bE (rc (aa 1) (rc (ck (.int 2)) aB))))) 2 (bA 24) ro (be oE (rc (aa 1) aB)))))
@[irreducible] def ge:Cm V :=
 (gY (dA (aI .Add (ck (.int 1)) (be bE (rc (aa 1) (rc (ck (.int 2)) aB))))) 2 (bA 22) ro (cbi mr (ck (.str (L "/"))) (gY (d5 (cbi ef (aa 8) (ck (.str (L "/"))))) 2 (bA 24) ro (be oB (rc (aa 1) (rc (aa 24) aB))))))
@[irreducible] def gc:Cm V :=
 (gY (dA (aI .Add (ck (.int 1)) (be bE (rc (aa 1) (rc (ck (.int 2)) aB))))) 2 (bA 22) ro (be lQ (rc (aa 1) (rc (aa 8) aB))))
@[irreducible] def ga:Cm Fl :=
 (ac (csetd 5 (fo ad0.cDel tw (ck (.adr ad0.cDel)) (rc (aa 18) (rc (d4 (rc (aI .Add (ck (.str (L "k"))) (aa 18)) aB)) (rc (ck (.int 1)) (rc (aa 7) (rc (aa 9) (rc (aa 10) aB))))))) (aa 18)) (ac (pL 6 (lh (rc (aa 18) (rc (aa 7) (rc (aa 9) (rc (aa 10) aB)))))) ag))
@[irreducible] def gb:Cm Fl :=
 (ac (ae 7 (iy .Eq (be bE (rc (aa 1) (rc (ck (.int 3)) aB))) (ck (.int 0)))) (ac (ae 8 (bT (aa 2) (be bE (rc (aa 1) (rc (ck (.int 3)) aB))))) (ac (zD (lh (rc (ck .none) (rc (ck .none) aB))) (sC [9,10])) (ac (cif (ay .Gt (be bE (rc (aa 1) (rc (ck (.int 3)) aB))) (ck (.int 0))) (ac (ae 9 ge) ag) (ac (ae 10 gc) ag)) ga))))
@[irreducible] def gk:Cm Fl :=
 (ac (cif (fm (aa 14)) (ac (pL 13 (lh (rc (aa 18) (rc (aa 7) aB)))) ag) ag) ag)
@[irreducible] def fH:Cm Fl :=
 (ac (cif (ay .IsNot (aa 9) (ck .none)) (ac (ae 14 (iy .NotEq (gY (d5 (aa 9)) 2 (bA 22) (fm (be lT (rc (aa 22) (rc (aa 8) aB)))) (aa 22)) (d4 aB))) ag) (ac (ae 14 (iy .NotEq (gY (d5 (aa 10)) 2 (bA 22) (ay .Eq (cH (aa 12) (ck .none) (cun cj (aa 22))) (aa 22)) (aa 22)) (d4 aB))) ag)) gk)
@[irreducible] def eV:Cm (Option Fl) :=
 (az (i8 (corU (ai (ay .NotEq (zA ad0.cDlg "get_roles_for_target" wt (aa 11) (rc (aa 8) (rc (ck (.adr ad0.a_law_digest)) aB))) (aa 13))) (zu (uB (ccallU ad0.a_law_bins rP (ck (.adr ad0.a_law_bins)) (rc (aa 1) (rc (aa 8) aB)))))) (ai (ac (bN (ck (.bool false))) ag)) (ai ag)) (ai ag))
@[irreducible] def gf:Cm (Option Fl) :=
 (az (ai (ae 12 (be eC (rc (cbi eN (aa 8) (ck (.str (L "utf-8")))) (rc (ck (.str (L "sha256"))) aB))))) (az (ai (jP 13 aB)) (az (ai (gF (d5 (aa 6)) (sC [18,7,9,10]) fH)) eV)))
@[irreducible] def gh:Cm (Option Fl) :=
 (az (i8 (ai (ay .In (aa 18) (aa 3))) (az (gZ 15 (kB ad0.cTar "get_delegated_role" lI (aa 20) (rc (aa 18) aB))) (az (ai (cif (sP (ay .NotEq (bG ad0.cDel "name" (aa 15)) (aa 18)) (ay .NotEq (bG ad0.cDel "keyids" (aa 15)) (d4 (rc (aI .Add (ck (.str (L "k"))) (aa 18)) aB)))) (ac (bN (ck (.bool false))) ag) ag)) (ai ag))) (az (i8 (zu (uB (mU [20,18] (lR ad0.cTar "get_delegated_role" lI)))) (ai (ac (bN (ck (.bool false))) ag)) (ai ag)) (ai ag))) (ai ag))
@[irreducible] def jV:Cm (Option Fl) :=
 (az (ai (jP 16 (rc (ck (.str (L "x"))) (rc (ck (.str (L "y"))) (rc (ck (.str (L "u"))) aB))))) (az (ai (ae 17 (bT (d4 (rc (ck (.str (L ""))) (rc (ck (.str (L "root"))) (rc (ck (.str (L "targets"))) (rc (ck (.str (L "snapshot"))) (rc (ck (.str (L "timestamp"))) (rc (ck (.str (L "roots"))) (rc (ck (.str (L "Root"))) aB)))))))) (be bE (rc (aa 1) (rc (ck (.int 7)) aB)))))) (az (ai (zo 16 (aa 17) (be bE (rc (aa 1) (rc (ck (.int 3)) aB))))) (az (ai (ae 19 (cdictp (gY (d5 (aa 16)) 2 (bA 22) ro (lh (rc (aa 22) (rc (fo ad0.cDel tw (ck (.adr ad0.cDel)) (rc (ck (.str (L "r"))) (rc (d4 aB) (rc (ck (.int 1)) (rc (ck (.bool false)) (rc (d4 aB) (rc (ck .none) aB))))))) aB))))))) (az (cretU (ccmpU .Eq (mU [19] (spMk qk)) (iy .NotIn (aa 17) (lh (rc (ck (.str (L "roots"))) (rc (ck (.str (L "Root"))) aB)))))) (ai ag))))))
@[irreducible] def jW:Cm (Option Fl) :=
 (az (uG (d5 (d4 (rc (ck (.str (L "m"))) (rc (ck (.str (L "b"))) (rc (ck (.str (L "z"))) (rc (ck (.str (L "a"))) (rc (ck (.str (L "K"))) (rc (ck (.str (L "k"))) (rc (ck (.str (L ""))) aB))))))))) (bA 18) gh) jV)
@[irreducible] def lE:Cm (Option Fl) :=
 (az (ai (ae 11 (fo ad0.cDlg rS (ck (.adr ad0.cDlg)) (rc eJ (rc (aa 5) aB))))) (az (ai (ae 20 (fo ad0.cTar tv (ck (.adr ad0.cTar)) (rc (ck (.int 1)) (rc (ck (.str (L "1.0"))) (rc (ck (.int 9)) (rc eJ (rc (aa 11) aB)))))))) (az (uG (d5 (aa 2)) (bA 8) gf) jW)))
def c_law:Cm (Option Fl) :=
 (az (ai (ae 1 (be oH (rc (aa 0) aB)))) (az (ai (ae 2 eU)) (az (ai (ae 3 (d4 (rc (ck (.str (L "m"))) (rc (ck (.str (L "b"))) (rc (ck (.str (L "z"))) (rc (ck (.str (L "a"))) (rc (ck (.str (L "K"))) aB)))))))) (az (ai (ae 4 (be bE (rc (aa 1) (rc (ck (.int 5)) aB))))) (az (ai (ae 3 (cH (aI .Add (cH (aa 3) (aa 4) (ck .none)) (cH (aa 3) (ck .none) (aa 4))) (ck .none) (be bE (rc (aa 1) (rc (ck (.int 6)) aB)))))) (az (ai (cnewd 5)) (az (ai (jP 6 aB)) (az (ai (gF (d5 (aa 3)) (bA 18) gb)) lE))))))))
def suLaw:SpU:=iI w6 ["script"] c_law.d
theorem dI {n:Nat} (h:n≤100000):n≤LIM:=Nat.le_trans h (Nat.le_of_ble_eq_true rfl)
theorem wv {a:Int} (h:0≤a) (h2:a<1000000000000):small a=true:=dG.mpr ⟨Int.lt_of_lt_of_le (by decide) h,Int.lt_trans h2 (by decide)⟩
theorem bD {n:Nat} (h:n<1000000000000):small (n:Int)=true:=wv (Int.natCast_nonneg n) (Int.ofNat_lt.mpr h)
theorem mA {k:Nat} (h:k<1000000000):fh (k:Int)=true:=by simp only [fh,Bool.and_eq_true,decide_eq_true_eq];lia
theorem fT {k n:Nat} (h:k<n):seqIndex? (k:Int) n=some k:=by
 simp [seqIndex?];lia
section
variable {l:List V} {s:List Nat} {k c:Nat} {v:V} {K:V→Prop}
theorem xZ {a:V} (hb:k<1000000000):o5 a (.int (k:Int))=((asS a).bind fun l=>(seqIndex? (k:Int) l.length).bind fun j=>l[j]?.map fun c=>V.str [c]).or ((asR a).bind fun l=>(seqIndex? (k:Int) l.length).bind fun j=>l[j]?):=by
 unfold o5
 rw [show asI (.int (k:Int))=some (k:Int) from rfl,Option.bind_some,if_pos (mA hb)]
theorem li_r {a:V} (e:asS a=none) (e2:asR a=some l) (hb:k<1000000000) (hc:l[k]? = some v) (h:K v):lf (o5 a (.int (k:Int))) K:=by
 refine cD ?_
 rw [xZ hb,e,e2,Option.bind_some,fT (List.getElem?_eq_some_iff.mp hc).1,Option.bind_some,hc]
 exact h
theorem dq (hb:k<1000000000) (hc:l[k]? = some v) (h:K v):lf (o5 (.lst l) (.int (k:Int))) K:=li_r rfl rfl hb hc h
theorem eG (hb:k<1000000000) (hc:s[k]? = some c) (h:K (.str [c])):lf (o5 (.str s) (.int (k:Int))) K:=by
 refine cD ?_
 rw [xZ hb]
 refine l7 ?_
 rw [show asS (.str s)=some s from rfl,Option.bind_some,fT (List.getElem?_eq_some_iff.mp hc).1,Option.bind_some,hc]
 exact h
end
section
variable {α X:Type} {asg:DG} {f:α→V}
def LQ (I:St→Prop) (Q:Fl→St→Prop):Fl→St→Prop
 | .nxt,s=>I s
 | .cont,s=>I s
 | .brk,s=>Q .nxt s
 | .ret u,s=>Q (.ret u) s
def LQU (I:St→Prop) (Q:Option Fl→St→Prop):Option Fl→St→Prop
 | some .nxt,s=>I s
 | some .cont,s=>I s
 | some .brk,s=>Q (some .nxt) s
 | some (.ret u),s=>Q (some (.ret u)) s
 | none,s=>Q none s
theorem it_ok {b:Cm Fl} {Q:Fl→St→Prop} (S:X→St) (J:List α→X→Prop) (hb:∀ a r x,J (a::r) x→om (asg (f a) (S x)) fun s=>b.w s (LQ (fun s=>∃ y,s=S y∧J r y) Q))
 (h0:∀ x,J [] x→Q .nxt (S x)):∀ (l:List α) (x:X),J l x→om (cM asg b.d (l.map f) (S x)) fun p=>Q p.1 p.2
 | [],x,h=>h0 x h
 | a::r,x,h=>ab (av (hb a r x h) fun s h=>ab (b.go h fun fl s h =>
  have nx:(∃ y,s=S y∧J r y)→om (cM asg b.d (r.map f) s) fun p=>Q p.1 p.2:=fun h=>h.elim fun y e=>e.1▸it_ok S J hb h0 r y e.2
  match fl,h with
  | .nxt,h=>nx h
  | .cont,h=>nx h
  | .brk,h=>h
  | .ret _,h=>h))
theorem xU {b:Cm (Option Fl)} {Q:Option Fl→St→Prop} (S:X→St) (J:List α→X→Prop) (hb:∀ a r x,J (a::r) x→om (asg (f a) (S x)) fun s=>b.w s (LQU (fun s=>∃ y,s=S y∧J r y) Q))
 (h0:∀ x,J [] x→Q (some .nxt) (S x)):∀ (l:List α) (x:X),J l x→om (eg asg b.d (l.map f) (S x)) fun p=>Q p.1 p.2
 | [],x,h=>h0 x h
 | a::r,x,h=>ab (av (hb a r x h) fun s h=>ab (b.go h fun fl s h =>
  have nx:(∃ y,s=S y∧J r y)→om (eg asg b.d (r.map f) s) fun p=>Q p.1 p.2:=fun h=>h.elim fun y e=>e.1▸xU S J hb h0 r y e.2
  match fl,h with
  | some .nxt,h=>nx h
  | some .cont,h=>nx h
  | some .brk,h=>h
  | some (.ret _),h=>h
  | none,h=>h))
theorem gQ {b:Cm Fl} {R:Fl×St→Prop} {l:List α} {l':List V} {s:St} (S:X→St) (J:List α→X→Prop) (x:X) (hx:J l x) (hl:l' = l.map f) (hs:s=S x)
 (hb:∀ a r x,J (a::r) x→om (asg (f a) (S x)) fun s=>b.w s (LQ (fun s=>∃ y,s=S y∧J r y) fun f s=>R (f,s))) (h0:∀ x,J [] x→R (.nxt,S x)):lf (cM asg b.d l' s) R :=
 hl▸hs▸cD (it_ok (Q:=fun f s=>R (f,s)) S J hb h0 l x hx)
theorem tR {b:Cm (Option Fl)} {R:Option Fl×St→Prop} {l:List α} {l':List V} {s:St} (S:X→St) (J:List α→X→Prop) (x:X) (hx:J l x) (hl:l' = l.map f) (hs:s=S x)
 (hb:∀ a r x,J (a::r) x→om (asg (f a) (S x)) fun s=>b.w s (LQU (fun s=>∃ y,s=S y∧J r y) fun f s=>R (f,s))) (h0:∀ x,J [] x→R (some .nxt,S x)):lf (eg asg b.d l' s) R :=
 hl▸hs▸cD (xU (Q:=fun f s=>R (f,s)) S J hb h0 l x hx)
theorem wh_ok {t:Cm Bool} {b:Cm Fl} {Q:Fl→St→Prop} (S:X→St) (J:Nat→X→Prop)
 (hb:∀ n x,J n x→t.w (S x) fun c s=>cond c (∃ m,n=m+1∧b.w s (LQ (fun s=>∃ y,s=S y∧J m y) Q)) (Q .nxt s)):∀ (k n:Nat) (x:X),n<k→J n x→om (fj t.d b.d k (S x)) fun p=>Q p.1 p.2
 | 0,_,_,h,_=>absurd h (Nat.not_lt_zero _)
 | k+1,n,x,h,hj=>ab (t.go (hb n x hj) fun c s h'=>match c,h' with
  | false,h'=>h'
  | true,h'=>h'.elim fun m e=>ab (b.go e.2 fun fl s h' =>
   have nx:(∃ y,s=S y∧J m y)→om (fj t.d b.d k s) fun p=>Q p.1 p.2:=fun h'=>h'.elim fun y e'=>e'.1▸wh_ok S J hb k m y (Nat.lt_of_succ_lt_succ (Nat.lt_of_le_of_lt (Nat.le_of_eq e.1.symm) h)) e'.2
   match fl,h' with
   | .nxt,h'=>nx h'
   | .cont,h'=>nx h'
   | .brk,h'=>h'
   | .ret _,h'=>h'))
theorem uC {dt:Cm Bool} {de:Cm V} (S:X→St) (J:List α→X→Prop) (P:α→V→Prop)
 (hb:∀ a r x,J (a::r) x→om (asg (f a) (S x)) fun s=>dt.w s fun c s=>c=true∧de.w s fun u s=>∃ y,s=S y∧J r y∧P a u) {R:List V×St→Prop} :
 ∀ (l:List α) (x:X),J l x→(∀ us x,us.length=l.length→(∀ (i:Nat) a u,l[i]? = some a→us[i]? = some u→P a u)→J [] x→R (us,S x))→om (bR asg dt.d de.d (l.map f) (S x)) R
 | [],x,h,q=>q [] x rfl (fun b b b h=>nomatch h) h
 | a::r,x,h,q=>ab (av (hb a r x h) fun s h=>ab (dt.go h fun c s h=>by
  rw [h.1]
  exact ab (de.go h.2 fun u s h=>h.elim fun y e=>aN (e.1▸uC S J P hb r y e.2.1 fun us x h1 h2 h3=>q (u::us) x (congrArg (· + 1) h1) (fun i=>match i with
   | 0=>fun a' u' h4 h5=>Option.some.inj h4▸Option.some.inj h5▸e.2.2
   | i+1=>fun a' u' h4 h5=>h2 i a' u' h4 h5) h3))))
theorem mZ {Y:Type} {dt:Cm Bool} {de:Cm V} {σ:Y→St} (t:α→Bool) (e:α→V) {Q:List V×St→Prop}:∀ (l:List α) (x:Y),(∀ x a,a∈l→om (asg (f a) (σ x)) fun s=>dt.w s fun c s=>c=t a∧cond (t a) (de.w s fun u s=>u=e a∧∃ y,s=σ y) (∃ y,s=σ y)) →
 (∀ y,Q ((l.filter t).map e,σ y))→om (bR asg dt.d de.d (l.map f) (σ x)) Q
 | [],x,_,q=>q x
 | a::r,x,h1,q=>ab (av (h1 x a (.head _)) fun s h=>ab (dt.go h fun c s h=>by
  have h2:=h.2
  have h3:=fun x b hb=>h1 x b (List.Mem.tail a hb)
  rw [h.1]
  cases ht:t a with
  | true =>
   rw [List.filter_cons_of_pos ht] at q
   rw [ht] at h2
   exact ab (de.go h2 fun u s h=>h.2.elim fun y e'=>aN (e'.symm▸mZ t e r y h3 fun y=>h.1▸q y))
  | false =>
   rw [List.filter_cons_of_neg (ht▸Bool.false_ne_true)] at q
   rw [ht] at h2
   exact h2.elim fun y e'=>e'.symm▸mZ t e r y h3 q))
end
end
section
open PySem PySem.W PyProof.Rows
noncomputable def Wr (r:Nat) (w:Wt):Prop:=∃ (row:List Int) (pos:Nat),w=some (row,(pos:Int))∧pos+r≤50000∧row.length≤1000∧∀ x∈row,0≤x∧x<997
theorem Wr.le {r k:Nat} {w:Wt} (h:Wr k w) (l:r≤k):Wr r w:=h.imp fun a=>Exists.imp fun a h=>⟨h.1,Nat.le_trans (Nat.add_le_add_left l _) h.2.1,h.2.2⟩
theorem Wr.drop {r k:Nat} {w:Wt} (h:Wr (r+k) w):Wr r w:=h.le (Nat.le_add_right _ _)
theorem yv {x:Int} {m:Nat} (hx:0≤x) (hm:0<m):∃ v:Nat,x.fmod m=v∧v<m :=
 ⟨(x.fmod m).toNat,(Int.toNat_of_nonneg (Int.fmod_nonneg_of_pos _ (Int.ofNat_lt.mpr hm))).symm,(Int.toNat_lt (Int.fmod_nonneg_of_pos _ (Int.ofNat_lt.mpr hm))).mpr (Int.fmod_lt_of_pos _ (Int.ofNat_lt.mpr hm))⟩
theorem bK {r:Nat} {w:Wt} {m:Nat} {R:V×Wt→Prop} (h:Wr (r+1) w) (hm:0<m) (q:∀ k w',k<m→Wr r w'→R (.int (k:Nat),w')):lf (bE [.wref,.int m] w) R:=by
 obtain ⟨row,a,rfl,ha,hr,hx⟩:=h
 have hmm:(m:Int)≠0:=Int.ofNat_ne_zero.mpr (Nat.ne_of_gt hm)
 have hwk:Wr r (some (row,(a:Int)+1)):=⟨row,a+1,rfl,Nat.le_trans (Nat.le_of_eq (Nat.succ_add a r)) ha,hr,hx⟩
 have hll:(row.map V.int).length≤LIM:=List.length_map (as:=row) V.int▸dI (Nat.le_trans hr (by decide))
 have fin:∀ x:Int,0≤x→R (.int (x.fmod m),some (row,(a:Int)+1)):=fun x h0=>(yv h0 hm).elim fun v e=>e.1▸q v _ e.2 hwk
 refine oX (fn_ok (Q:=fun v w=>R (v,w)) [some .wref,some (.int m),none,none] rfl rfl ?_) fun b b h=>h
 refine And.intro rfl ?_
 refine And.intro (bD (n:=31 * a) (Nat.lt_of_le_of_lt (Nat.mul_le_mul_left 31 (Nat.le_of_add_right_le ha)) (by decide))) ?_
 refine And.intro rfl ?_
 refine And.intro hll ?_
 refine And.intro (by decide) ?_
 refine And.intro hll ?_
 refine br (fun hb=>?_) (fun b=>?_)
 · have hb':a<row.length:=by
    have h2:decide ((a:Int)<((row.map V.int).length:Nat))=true:=hb
    rw [List.length_map] at h2;exact Int.ofNat_lt.mp (of_decide_eq_true h2)
   refine dq (k:=a) (v:=.int row[a]) (Nat.lt_of_lt_of_le hb' (Nat.le_trans hr (by decide))) (by rw [List.getElem?_map,List.getElem?_eq_getElem hb'];rfl) ?_
   conv=>whnf
   exact ⟨hmm,fin _ (hx _ (List.getElem_mem hb')).1⟩
 · conv=>whnf
   exact ⟨hmm,fin _ (Int.fmod_nonneg_of_pos _ (by decide))⟩
noncomputable def jn (s:List Nat):List (List Nat)→List Nat
 | []=>[]
 | [x]=>x
 | x::y::r=>x++s++jn s (y::r)
theorem cat_S (x y:Str):(x++y).cps.toList=x.cps.toList++y.cps.toList:=Array.toList_append
theorem sv (s:List Nat):∀ l:List (List Nat),(Str.join (S s) (l.map S)).cps.toList=jn s l
 | []=>rfl
 | [x]=>rfl
 | x::y::r=>by
  show (S x++S s++(S s).join (S y::List.map S r)).cps.toList=_
  rw [cat_S,cat_S,show (S s).join (S y::List.map S r)=Str.join (S s) ((y::r).map S) from rfl,sv s (y::r)];rfl
theorem xN (s:List Nat) (l:List (List Nat)):xO s l=jn s l:=by
 show (Builtin.Str.glued (S s) (l.map S)).cps.toList=_
 rw [StrLaws.glued_eq_join,sv]
theorem vi {s:List Nat} {l:List (List Nat)} (hs:s.length≤1) (hl:l.length≤1000) (h:∀ x∈l,x.length≤1000):JoinOk (S s) (l.map S)=true:=by
 unfold JoinOk
 rw [StrLaws.joinFits (B:=1000)]
 · rfl
 · intro y hy
   obtain ⟨x,hx,rfl⟩:=List.mem_map.mp hy
   exact h x hx
 · rw [List.length_map]
   exact Nat.le_trans (Nat.add_le_add (Nat.mul_le_mul_right _ hl) (Nat.mul_le_mul hl hs)) (by decide)
theorem eB:∀ l:List (List Nat),dm (l.map V.str)=some l
 | []=>rfl
 | x::r=>congrArg (Option.map (x::·)) (eB r)
theorem iX:∀ l:List Int,fg (l.map V.int)=some l
 | []=>rfl
 | x::r=>congrArg (Option.map (x::·)) (iX r)
theorem sr {K:V→Prop} {s:List Nat} {l:List (List Nat)} (hs:s.length≤1) (hl:l.length≤1000) (h:∀ x∈l,x.length≤1000) (q:K (.str (jn s l))):lf (mr (.str s) (.lst (l.map V.str))) K :=
 cD (by show om ((dm (l.map V.str)).bind _) K;rw [eB];exact aO ⟨vi hs hl h,(xN s l).symm▸q⟩)
theorem xQ:∀ l:List (List Nat),jn [] l=l.flatten
 | []=>rfl
 | [x]=>(List.append_nil x).symm
 | x::y::r=>by show (x++_)++_=_;rw [xQ,List.append_nil];rfl
theorem qr {c:Nat}:∀ {a b x y:List Nat},c∉a→c∉b→a++c::x=b++c::y→a=b∧x=y
 | [],[],_,_,_,_,h=>⟨rfl,(List.cons.inj h).2⟩
 | [],b::bs,_,_,_,hb,h=>absurd ((List.cons.inj h).1▸.head _) hb
 | a::as,[],_,_,ha,_,h=>absurd ((List.cons.inj h).1▸.head _) ha
 | a::as,b::bs,_,_,ha,hb,h =>
  have e:=qr (fun h=>ha (.tail _ h)) (fun h=>hb (.tail _ h)) (List.cons.inj h).2
  ⟨(List.cons.inj h).1▸e.1▸rfl,e.2⟩
theorem jy {c:Nat} {x y:List Nat} {r:List (List Nat)}:jn [c] (x::y::r)=x++c::jn [c] (y::r):=List.append_assoc x [c] _
theorem xP {c:Nat} {x y w:List Nat} {r:List (List Nat)} (h:c∉x) (e:x=jn [c] (w::y::r)):False:=h (e▸jy▸List.mem_append_right _ (.head _))
theorem xS {c:Nat}:∀ {l m:List (List Nat)},l≠[]→m≠[]→(∀ p∈l,c∉p)→(∀ p∈m,c∉p)→jn [c] l=jn [c] m→l=m
 | [],_,h,_,_,_,_=>absurd rfl h
 | _::_,[],_,h,_,_,_=>absurd rfl h
 | [x],[y],_,_,_,_,h=>congrArg (fun z=>[z]) h
 | [x],y::z::r,_,_,hl,_,h=>(xP (hl x (.head _)) h).elim
 | x::w::r,[y],_,_,_,hm,h=>(xP (hm y (.head _)) h.symm).elim
 | x::w::r,y::z::t,_,_,hl,hm,h=>by
  rw [jy,jy] at h
  obtain ⟨rfl,h2⟩:=qr (hl x (.head _)) (hm y (.head _)) h
  rw [xS (l:=w::r) (m:=z::t) (List.cons_ne_nil _ _) (List.cons_ne_nil _ _) (fun p hp=>hl p (.tail _ hp)) (fun p hp=>hm p (.tail _ hp)) h2]
theorem wo (x y:Str):Txt.split x y≠[]:=by
 unfold Txt.split
 split
 · exact List.cons_ne_nil _ _
 · split
   · exact List.cons_ne_nil _ _
   · rw [StrLaws.partsBetween_eq]
     obtain ⟨p,r,h⟩:=StrLaws.partsFrom_ne x y.length 0 (Builtin.Str.occurrences x y 0 x.length (x.length+1))
     rw [h];exact List.cons_ne_nil _ _
theorem map_S:∀ l:List Str,(l.map fun z=>z.cps.toList).map S=l
 | []=>rfl
 | x::r=>congrArg (x::·) (map_S r)
theorem u0 {c:Nat} {l:List (List Nat)} (h0:l≠[]) (h:∀ p∈l,c∉p):lN (jn [c] l) [c]=l:=by
 refine xS (c:=c) (fun e=>wo _ _ (List.map_eq_nil_iff.mp e)) h0 (fun p hp=>?_) h ?_
 · obtain ⟨z,hz,rfl⟩:=List.mem_map.mp hp
   exact StrLaws.split_free _ c z hz
 · have h2:=congrArg (fun z:Str=>z.cps.toList) (StrLaws.join_split (S (jn [c] l)) (S [c]))
   rw [← map_S (Txt.split (S (jn [c] l)) (S [c]))] at h2
   exact (sv _ _).symm.trans h2
theorem oY {K:V→Prop} {c:Nat} {l:List (List Nat)} (h0:l≠[]) (h:∀ p∈l,c∉p) (hl:(jn [c] l).length≤LIM) (q:K (.lst (l.map V.str))):lf (ef (.str (jn [c] l)) (.str [c])) K :=
 cD (aO (x:=some (V.lst ((lN (jn [c] l) [c]).map V.str))) ⟨⟨fun h=>(nomatch h),hl⟩,(u0 h0 h).symm▸q⟩)
theorem uZ (x y:List Nat):Txt.startswith (S x) (S y)=(x.take y.length==y):=by
 unfold Txt.startswith
 rw [StrLaws.subAt_eq,rC,rC,z9,z9,Nat.zero_add,List.drop_zero]
 by_cases h:x.take y.length=y
 · have:y.length≤x.length:=by
    have:=congrArg List.length h;rw [List.length_take] at this;lia
   rw [h,Bool.and_eq_right_iff_imp.mpr fun a=>decide_eq_true this]
 · rw [beq_eq_false_iff_ne.mpr h,Bool.and_false]
theorem qK {K:V→Prop} {x y:List Nat} (q:K (.bool (x.take y.length==y))):lf (fQ (.str x) (.str y)) K:=cD ((uZ x y).symm▸q:om (some (V.bool (Txt.startswith (S x) (S y)))) K)
theorem ya (k n:Nat):kms_hi (some (k:Int)) n=min k n:=by unfold kms_hi;exact if_neg (Int.not_lt.mpr (Int.natCast_nonneg k))
theorem xk (k n:Nat):kms_lo (some (k:Int)) n=min k n:=by unfold kms_lo;exact if_neg (Int.not_lt.mpr (Int.natCast_nonneg k))
section
variable {α:Type} (l:List α)
theorem fc (k:Nat):slc none (some (k:Int)) l=l.take k:=by
 show (l.drop 0).take (kms_hi (some (k:Int)) l.length - 0)=_
 rw [Nat.sub_zero,ya,List.drop_zero,List.take_eq_take_min,List.take_eq_take_min (i:=k)]
 rw [Nat.min_assoc,Nat.min_self]
theorem jg (k:Nat):slc (some (k:Int)) none l=l.drop k:=by
 show (l.drop (kms_lo (some (k:Int)) l.length)).take (l.length - _)=_
 rw [xk,List.take_of_length_le (Nat.le_of_eq List.length_drop)]
 rcases Nat.le_total k l.length with h | h
 · rw [Nat.min_eq_left h]
 · rw [Nat.min_eq_right h,List.drop_length,List.drop_eq_nil_of_le h]
theorem slc_mid (j k:Nat) (h:j≤k) (hk:k≤l.length):slc (some (j:Int)) (some (k:Int)) l=(l.drop j).take (k - j):=by
 show (l.drop (kms_lo _ l.length)).take (kms_hi _ l.length - kms_lo _ l.length)=_
 rw [xk,ya,Nat.min_eq_left hk,Nat.min_eq_left (Nat.le_trans h hk)]
theorem ww:slc none (some (-1)) l=l.dropLast:=by
 rw [List.dropLast_eq_take];rfl
theorem qm:slc (some 1) none l=l.drop 1:=jg l 1
theorem slc_one:slc none (some 1) l=l.take 1:=fc l 1
end
noncomputable def cJ:List Nat:=[97,98,99,100,65,66,46,45,48,53]
theorem L_alpha:L "abcdAB.-05" = cJ:=by decide +kernel
noncomputable def eo:List Nat:=[48,49,50,51,52,53,54,55,56,57,97,98,99,100,101,102]
theorem Ab:L "0123456789abcdef" = eo:=by decide +kernel
theorem j5:L "" = []:=by decide +kernel
theorem qg:∀ c∈cJ,(upL [c]=[c]∨∃ d∈[67,68,65,66],upL [c]=[d])∧(loL [c]=[c]∨∃ d∈[97,98],loL [c]=[d]):=by decide +kernel
section
variable {α X:Type} {asg:DG} {f:α→V} {dt:Cm Bool} {de:Cm V} {l:List α} {l':List V} {s:St} {R:List V×St→Prop}
theorem kh (S:X→St) (J:List α→X→Prop) (P:α→V→Prop) (x:X) (hx:J l x) (hl:l' = l.map f) (hs:s=S x)
 (hb:∀ a r x,J (a::r) x→om (asg (f a) (S x)) fun s=>dt.w s fun c s=>c=true∧de.w s fun u s=>∃ y,s=S y∧J r y∧P a u)
 (q:∀ us x,us.length=l.length→(∀ (i:Nat) a u,l[i]? = some a→us[i]? = some u→P a u)→J [] x→R (us,S x)):lf (bR asg dt.d de.d l' s) R:=hl▸hs▸cD (uC S J P hb l x hx q)
theorem jx {Y:Type} {σ:Y→St} (t:α→Bool) (e:α→V) (x:Y) (hl:l' = l.map f) (hs:s=σ x) (h1:∀ x a,a∈l→om (asg (f a) (σ x)) fun s=>dt.w s fun c s=>c=t a∧cond (t a) (de.w s fun u s=>u=e a∧∃ y,s=σ y) (∃ y,s=σ y))
 (q:∀ y,R ((l.filter t).map e,σ y)):lf (bR asg dt.d de.d l' s) R:=hl▸hs▸cD (mZ t e l x h1 q)
end
noncomputable abbrev bp (k:Nat):V:=.int (k:Int)
theorem cg (n:Nat):rng 0 (n:Int)=(List.range n).map bp:=by
 show (List.range (((n:Int) - 0).toNat)).map _=_
 rw [Int.sub_zero,Int.toNat_natCast];exact List.map_congr_left fun i a=>congrArg V.int (Int.zero_add _)
theorem lX (k:Nat):((List.range k).map bp).length=k:=(List.length_map _).trans List.length_range
theorem ju {n m:Nat} (e:n=m) (h:m≤100000):n≤LIM:=e▸dI h
noncomputable abbrev oQ (c:Nat):V:=.str [c]
theorem cW {sp:Sp} {names:aq} {params:List Str} {c:Cm Fl} {vs:List V} {w:Wt} {R:V×Wt→Prop} (loc:List (Option V)) (hs:sp=er names params c.d) (hl:vs.length=params.length) (e:fB (bv (params.zip vs) (fun a=>none)) names=loc)
 (h:c.w ⟨loc,w⟩ (FnQ fun v w=>R (v,w))):lf (sp vs w) R:=hs▸oX (fn_ok (Q:=fun v w=>R (v,w)) loc hl e h) fun a a h=>h
def IsPart (s:List Nat):Prop:=s.length≤3∧∀ c∈s,c∈cJ
theorem qo {A:List Nat}:∀ {us:List V},(∀ u∈us,∃ c∈A,u=.str [c])→∃ s:List Nat,us=s.map oQ∧s.length=us.length∧∀ c∈s,c∈A
 | [],_=>⟨[],rfl,rfl,fun a h=>nomatch h⟩
 | u::r,h=>(h u (.head _)).elim fun c e=>(qo fun u hu=>h u (.tail _ hu)).elim fun s q =>
  ⟨c::s,by rw [e.2,q.1];rfl,congrArg (· + 1) q.2.1,List.forall_mem_cons.mpr ⟨e.1,q.2.2⟩⟩
theorem qV:∀ s:List Nat,(s.map fun c=>[c]).flatten=s
 | []=>rfl
 | c::r=>congrArg (c::·) (qV r)
theorem yg {α:Type} {P:α→Prop} {l:List α} (h:∀ (i:Nat) u,l[i]? = some u→P u):∀ u∈l,P u:=fun u hu=>(List.mem_iff_getElem?.mp hu).elim fun i e=>h i u e
theorem xr {r:Nat} {w:Wt} {R:V×Wt→Prop} (h:Wr (r+4) w) (q:∀ s w',IsPart s→Wr r w'→R (.str s,w')):lf (oE [.wref] w) R:=by
 refine cW [some .wref] rfl rfl rfl ?_
 refine bK (m:=4) h (by decide) fun k w1 hk hw1=>?_
 refine And.intro (bD (Nat.lt_trans hk (by decide))) ?_
 conv=>whnf
 rw [cg]
 refine ⟨ju (lX k) (Nat.le_trans (Nat.le_of_lt hk) (by decide)),?_⟩
 refine kh (X:=Option V×Wt) (fun x=>⟨[some .wref,none,x.1],x.2⟩) (fun l x=>Wr (r+l.length) x.2) (fun b u=>∃ c∈cJ,u=.str [c]) (none,w1) (hw1.le (Nat.add_le_add_left (Nat.le_trans (Nat.le_of_eq List.length_range) (Nat.le_of_lt_succ hk)) r)) rfl rfl
  (fun a l x hx=>?_) fun us x hl hP hx=>?_
 · refine And.intro rfl ?_
   refine bK (r:=r+l.length) (m:=10) hx (by decide) fun j w3 hj hw3=>?_
   conv=>whnf
   rw [L_alpha]
   exact eG (c:=cJ[j]) (Nat.lt_trans hj (by decide)) (List.getElem?_eq_getElem hj) ⟨(_,w3),rfl,hw3,_,List.getElem_mem hj,rfl⟩
 · refine Classical.byContradiction fun hn_=>?_
   obtain ⟨s,rfl,h1,h2⟩:=qo (A:=cJ) (us:=us) (yg fun i u hu=>hP i _ u (List.getElem?_eq_getElem (hl▸(List.getElem?_eq_some_iff.mp hu).1)) hu)
   have hs:s.length≤3:=Nat.le_trans (Nat.le_of_eq ((h1.trans hl).trans List.length_range)) (Nat.le_of_lt_succ hk)
   refine hn_ ?_;clear hn_
   rw [j5,show s.map oQ=(s.map fun c=>[c]).map V.str by rw [List.map_map];rfl]
   refine sr (by decide) (Nat.le_trans (Nat.le_of_eq (List.length_map _)) (Nat.le_trans hs (by decide))) (fun x hx=>(List.mem_map.mp hx).elim fun c e=>e.2▸(by decide:1≤1000)) ?_
   rw [xQ,qV]
   exact q s _ ⟨hs,h2⟩ hx.drop
inductive Tk where
 | sg (c:Nat) | q | star | cls (i:Nat)
noncomputable def menuL:List (List Nat):=[[97,45,99],[33,97,45,99],[45,97],[98,45],[65,45,67],[33,65,45,90],[46,45],[48,45,57,97],[97,100],[98,45,100]]
def Tk.inner (i:Nat):List Nat:=menuL.getD i []
def Tk.rend:Tk→List Nat
 | .sg c=>[c]
 | .q=>[63]
 | .star=>[42]
 | .cls i=>91::(Tk.inner i++[93])
noncomputable def j1:List Nat:=[97,98,99,100,65,66,46,45,48,53,67,68]
def Tk.Ok:Tk→Prop
 | .sg c=>c∈j1
 | .cls i=>i<10
 | _=>True
def aX (ts:List Tk):List Nat:=(ts.map Tk.rend).flatten
structure pQ (ts:List Tk):Prop where
 len:ts.length≤3
 ok:∀ t∈ts,t.Ok
theorem qv {t:Tk} (h:t.Ok):t.rend.length≤6:=match t,h with
 | .cls i,h=>(by decide:∀ j<10,(Tk.rend (.cls j)).length≤6) i h
 | .sg _,_=>(by decide:1≤6)
 | .q,_=>(by decide:1≤6)
 | .star,_=>(by decide:1≤6)
theorem fz:∀ {ts:List Tk},(∀ t∈ts,t.Ok)→(aX ts).length≤6 * ts.length
 | [],_=>Nat.le_refl _
 | t::r,h=>Nat.le_trans (Nat.le_of_eq List.length_append) (Nat.le_trans (Nat.add_le_add (qv (h t (.head _))) (fz fun x hx=>h x (.tail _ hx))) (Nat.le_of_eq (Nat.add_comm 6 (6 * r.length))))
theorem rX (ts:List Tk) (t:Tk):aX (ts++[t])=aX ts++t.rend:=by rw [aX,List.map_append,List.flatten_append,aX];exact congrArg _ (List.append_nil _)
theorem snoc_ok {ts:List Tk} {t:Tk} (h:∀ t∈ts,t.Ok) (k:t.Ok):∀ u∈ts++[t],u.Ok:=fun a hu=>(List.mem_append.mp hu).elim (h _) fun e=>List.mem_singleton.mp e▸k
theorem ncat {ts:List Tk} {t:Tk}:(ts++[t]).length=ts.length+1:=List.length_append
section
variable {c:Nat} {K:V→Prop}
theorem l_up (h:c∈cJ) (q:∀ d,d∈j1→K (.str [d])):lf (j7 (.str [c])) K:=by
 have:∃ d∈j1,upL [c]=[d]:=(qg c h).1.elim (fun e=>⟨c,(by decide:∀ c∈cJ,c∈j1) c h,e⟩) fun e=>e.imp fun d e=>⟨(by decide:∀ d∈[67,68,65,66],d∈j1) d e.1,e.2⟩
 exact this.elim fun d e=>cD (aO (x:=some (V.str (upL [c]))) ⟨by rw [e.2];exact (by decide:Builtin.Str.tooLong 1=false),e.2.symm▸q d e.1⟩)
theorem l_lo (h:c∈cJ) (q:∀ d,d∈j1→K (.str [d])):lf (iU (.str [c])) K:=by
 have:∃ d∈j1,loL [c]=[d]:=(qg c h).2.elim (fun e=>⟨c,(by decide:∀ c∈cJ,c∈j1) c h,e⟩) fun e=>e.imp fun d e=>⟨(by decide:∀ d∈[97,98],d∈j1) d e.1,e.2⟩
 exact this.elim fun d e=>cD (aO (x:=some (V.str (loL [c]))) ⟨by rw [e.2];exact (by decide:Builtin.Str.tooLong 1=false),e.2.symm▸q d e.1⟩)
end
def xc:List V:=[.str (L "[a-c]"),.str (L "[!a-c]"),.str (L "[-a]"),.str (L "[b-]"),.str (L "[A-C]"),.str (L "[!A-Z]"),.str (L "[.-]"),.str (L "[0-9a]"),.str (L "[ad]"),.str (L "[b-d]")]
theorem menu_eq:[L "[a-c]",L "[!a-c]",L "[-a]",L "[b-]",L "[A-C]",L "[!A-Z]",L "[.-]",L "[0-9a]",L "[ad]",L "[b-d]"]=(List.range 10).map fun i=>(Tk.cls i).rend:=by decide +kernel
theorem tN {k:Nat} (h:k<10):xc[k]? = some (.str (Tk.cls k).rend):=by
 rw [show xc=([L "[a-c]",L "[!a-c]",L "[-a]",L "[b-]",L "[A-C]",L "[!A-Z]",L "[.-]",L "[0-9a]",L "[ad]",L "[b-d]"]).map V.str from rfl,menu_eq,List.getElem?_map,List.getElem?_map,List.getElem?_range h];rfl
theorem L_qs:L "?" = (Tk.q).rend∧L "*" = (Tk.star).rend:=by decide +kernel
def sD (c k1 k2 d1 d2:Nat):List V:=[.str [c],.str [c],.str (L "?"),.str (L "*"),.str (Tk.cls k1).rend,.str (Tk.cls k2).rend,.str [d1],.str [d2]]
theorem yo {c k1 k2 d1 d2 k:Nat} (hc:c∈cJ) (h1:k1<10) (h2:k2<10) (h3:d1∈j1) (h4:d2∈j1) (hk:k<8):∃ t:Tk,t.Ok∧(sD c k1 k2 d1 d2)[k]? = some (.str t.rend):=by
 have hb:c∈j1:=(by decide:∀ c∈cJ,c∈j1) c hc
 have key:∀ u∈sD c k1 k2 d1 d2,∃ t:Tk,t.Ok∧u=.str t.rend:=by
  refine List.forall_mem_cons.mpr ⟨⟨.sg c,hb,rfl⟩,List.forall_mem_cons.mpr ⟨⟨.sg c,hb,rfl⟩,List.forall_mem_cons.mpr ⟨⟨.q,trivial,congrArg V.str L_qs.1⟩,List.forall_mem_cons.mpr ⟨⟨.star,trivial,congrArg V.str L_qs.2⟩,
   List.forall_mem_cons.mpr ⟨⟨.cls k1,h1,rfl⟩,List.forall_mem_cons.mpr ⟨⟨.cls k2,h2,rfl⟩,List.forall_mem_cons.mpr ⟨⟨.sg d1,h3,rfl⟩,List.forall_mem_singleton.mpr ⟨.sg d2,h4,rfl⟩⟩⟩⟩⟩⟩⟩⟩
 exact (key _ (List.getElem_mem (l:=sD c k1 k2 d1 d2) (n:=k) hk)).imp fun t e=>⟨e.1,(List.getElem?_eq_getElem hk).trans (congrArg some e.2)⟩
theorem rx {s A:List Nat} (hA:∀ c∈A,c<128) (h:∀ c∈s,c∈A):s.all (· < 128)=true:=List.all_eq_true.mpr fun c hc=>decide_eq_true (hA c (h c hc))
theorem pc_len {a b:Nat} (h1:a≤6 * 2) (h2:b≤6):a+b≤LIM:=Nat.le_trans (Nat.add_le_add h1 h2) (by decide)
theorem qL {r iw:Nat} {w:Wt} {part:List Nat} {R:V×Wt→Prop} (hp:IsPart part) (h:Wr (r+9) w) (q:∀ ts w',pQ ts→Wr r w'→R (.str (aX ts),w')) :
 dQ.w ⟨[some .wref,some (.str part),some (.int iw),none,none,none,none],w⟩ (FnQ fun v w=>R (v,w)):=by
 unfold dQ
 refine And.intro (by decide) ?_
 refine And.intro (rx (by decide) hp.2) ?_
 conv=>whnf
 refine gQ (f:=oQ) (X:=List Tk×Option V×Option V×Wt) (fun x=>⟨[some .wref,some (.str part),some (.int iw),some (.lst xc),some (.str (aX x.1)),x.2.1,x.2.2.1],x.2.2.2⟩)
  (fun l x=>(x.1.length+l.length≤3∧(∀ t∈x.1,t.Ok)∧∀ c∈l,c∈cJ)∧Wr (r+3 * l.length) x.2.2.2) ([],none,none,w) ⟨⟨Nat.le_trans (Nat.le_of_eq (Nat.zero_add _)) hp.1,(fun a h=>nomatch h),hp.2⟩,h.le (Nat.add_le_add_left (Nat.mul_le_mul_left 3 hp.1) r)⟩ rfl (by rw [j5];rfl)
  (fun c l x hx=>?_) fun x hx=>?_
 · refine Classical.byContradiction fun hn_=>?_
   obtain ⟨⟨hl,hts,hc⟩,hw⟩:=hx
   have hca:c∈cJ:=hc c (.head _)
   refine hn_ ?_;clear hn_
   refine bK (r:=r+3 * l.length+2) (m:=10) hw (by decide) fun k1 w3 hk1 hw3=>?_
   refine dq (Nat.lt_trans hk1 (by decide)) (tN hk1) ?_
   refine bK (r:=r+3 * l.length+1) (m:=10) hw3 (by decide) fun k2 w4 hk2 hw4=>?_
   refine dq (Nat.lt_trans hk2 (by decide)) (tN hk2) ?_
   refine l_up hca fun d1 hd1=>?_
   refine l_lo hca fun d2 hd2=>?_
   refine And.intro (dI (by decide:8≤100000)) ?_
   refine bK (r:=r+3 * l.length) (m:=8) hw4 (by decide) fun k3 w5 hk3 hw5=>?_
   refine Classical.byContradiction fun hn_=>?_
   obtain ⟨t,ht,hat⟩:=yo (k:=k3) hca hk1 hk2 hd1 hd2 hk3
   refine hn_ ?_;clear hn_
   refine dq (Nat.lt_trans hk3 (by decide)) hat ?_
   refine And.intro (pc_len (Nat.le_trans (fz hts) (Nat.mul_le_mul_left 6 (Nat.le_of_succ_le_succ (Nat.le_trans (Nat.succ_le_succ (Nat.le_add_right _ l.length)) hl)))) (qv ht)) ?_
   exact ⟨(x.1++[t],_,_,w5),by rw [rX];rfl,⟨Nat.le_trans (Nat.le_of_eq ((congrArg (· + l.length) ncat).trans (Nat.succ_add_eq_add_succ _ _))) hl,snoc_ok hts ht,fun u hu=>hc u (.tail _ hu)⟩,hw5⟩
 · exact q x.1 _ ⟨hx.1.1,hx.1.2.1⟩ hx.2
theorem l_piece {r:Nat} {w:Wt} {part:List Nat} {R:V×Wt→Prop} (h:Wr (r+14) w) (hp:IsPart part) (q:∀ ts w',pQ ts→Wr r w'→R (.str (aX ts),w')):lf (oB [.wref,.str part] w) R:=by
 refine cW [some .wref,some (.str part),none,none,none,none,none] rfl rfl rfl ?_
 refine bK (r:=r+13) (m:=6) h (by decide) fun iw w1 a hw1=>?_
 refine br (fun a=>?_) fun a=>?_
 · exact L_qs.2▸q [.star] w1 ⟨(by decide),fun t ht=>List.mem_singleton.mp ht▸trivial⟩ (hw1.le (Nat.le_add_right _ _))
 refine br (fun a=>?_) fun a=>?_
 · refine xr (r:=r+9) hw1 fun s w2 hs hw2=>?_
   exact qL hs hw2 q
 · exact qL hp (hw1.le (Nat.le_add_right _ 4)) q
theorem ik (a b:Nat):(a:Int).fmod (b:Int)=((a % b:Nat):Int):=Int.fmod_eq_emod_of_nonneg _ (Int.natCast_nonneg b)
theorem fE (a b:Nat):(a:Int).fdiv (b:Int)=((a / b:Nat):Int):=Int.fdiv_eq_ediv_of_nonneg _ (Int.natCast_nonneg b)
theorem bt {α β:Type} {f:α→β} {l:List α} {n:Nat} (h:l.length≤n):(l.map f).length≤n:=Nat.le_trans (Nat.le_of_eq (List.length_map f)) h
theorem wE {l:List Int} {n:Int} (h:∀ x∈l,0≤x∧x<997):∀ x∈l++[n.fmod 997],0≤x∧x<997:=fun x hx=>(List.mem_append.mp hx).elim (h x) fun e=>List.mem_singleton.mp e▸⟨Int.fmod_nonneg_of_pos _ (by decide),Int.fmod_lt_of_pos _ (by decide)⟩
theorem rgt {a b c:Nat} (h:a+(b+1)≤c):a+1+b≤c:=Nat.le_trans (Nat.le_of_eq (Nat.succ_add_eq_add_succ a b)) h
noncomputable abbrev Row (l:List Int) (n:Nat):Prop:=l.length+n≤144∧∀ x∈l,0≤x∧x<997
theorem l_draws {l:List Int} {R:V×Wt→Prop} (hl:l.length≤1000) (q:∀ w',Wr 50000 w'→R (.wref,w')):lf (oH [.lst (l.map .int)] none) R:=by
 refine cW [some (.lst (l.map .int)),none,none,none] rfl rfl rfl ?_
 refine And.intro (by decide) ?_
 refine And.intro (Nat.le_trans (bt hl) (by decide)) ?_
 refine gQ (f:=V.int) (X:=List Int×Option V×Option V) (l:=l.take 24) (fun x=>⟨[some (.lst (l.map .int)),some (.ml (x.1.map .int)),x.2.1,x.2.2],none⟩) (fun r x=>Row x.1 (6 * r.length)) ([],none,none)
  ⟨Nat.le_trans (Nat.le_of_eq (Nat.zero_add _)) (Nat.mul_le_mul_left 6 (List.length_take_le 24 l)),fun a h=>nomatch h⟩ ((fc (l.map V.int) 24).trans List.map_take.symm) rfl (fun i r x hx=>?_) fun x hx=>?_
 · refine And.intro (by decide) ?_
   refine And.intro (by decide) ?_
   refine And.intro rfl ?_
   refine gQ (f:=bp) (X:=List Int×Int×Option V) (l:=List.range 6) (fun x=>⟨[some (.lst (l.map .int)),some (.ml (x.1.map .int)),some (.int x.2.1),x.2.2],none⟩) (fun r2 x=>Row x.1 (6 * r.length+r2.length)) (x.1,_,x.2.2) hx (cg 6) rfl
    (fun i r2 x hx=>?_) fun x hx=>?_
   · refine And.intro (by decide) ?_
     refine And.intro (Nat.le_trans (bt (Nat.le_of_add_right_le hx.1)) (by decide)) ?_
     refine And.intro ⟨by decide,rfl⟩ ?_
     exact ⟨(x.1++[x.2.1.fmod 997],_,_),by rw [List.map_append];rfl,(List.length_append (as:=x.1) (bs:=[x.2.1.fmod 997])).symm▸rgt hx.1,wE hx.2⟩
   · exact ⟨(x.1,_,_),rfl,hx⟩
 · refine cD ?_
   rw [iX]
   exact ⟨rfl,q _ ⟨x.1,0,rfl,by decide,Nat.le_trans (Nat.le_of_add_right_le hx.1) (by decide),hx.2⟩⟩
def dg1 (n k:Nat):Nat:=eo.getD (n / 16 ^ k % 16) 0
def dgT (n t:Nat):Nat:=dg1 n (t+1)
noncomputable def dgN (n o:Nat):Nat:=(n * 263+o+1) % 4294967291
def dgS (n:Nat):List Nat:=(List.range 4).map (dgT n)
noncomputable def yK:List Nat→Nat→List Nat→List Nat
 | [],_,s=>s
 | o::r,n,s=>yK r (dgN n o) (s++dgS (dgN n o))
noncomputable def dg8:List Nat:=[3,1,4,1,5,9,2,6]
def dgA (data:List Nat):List Nat:=yK (data++dg8) 7 []
def dg (data:List Nat):List Nat:=(dgA data++dgA data++dgA data++dgA data).take 64
theorem o8 {k:Nat} (h:k<16):eo[k]? = some (eo.getD k 0):=by rw [List.getD,List.getElem?_eq_getElem (l:=eo) h];rfl
theorem dg1_mem (n k:Nat):dg1 n k∈eo:=List.mem_of_getElem? (o8 (Nat.mod_lt _ (by decide)))
theorem mM:∀ (l:List Nat) (n:Nat) (s:List Nat),(yK l n s).length=s.length+4 * l.length
 | [],_,_=>rfl
 | o::r,n,s=>(mM r _ _).trans (by rw [List.length_append,Nat.add_assoc];exact congrArg _ (Nat.add_comm 4 (4 * r.length)))
theorem rb:∀ (l:List Nat) (n:Nat) (s:List Nat),(∀ c∈s,c∈eo)→∀ c∈yK l n s,c∈eo
 | [],_,s,h=>h
 | o::r,n,s,h=>rb r _ _ fun c hc=>(List.mem_append.mp hc).elim (h c) fun e=>(List.mem_map.mp e).elim fun t e=>e.2▸dg1_mem _ _
theorem ur (data:List Nat):(dgA data).length=4 * (data.length+8):=(mM _ _ _).trans ((Nat.zero_add _).trans (congrArg (4 * ·) List.length_append))
theorem mL (data:List Nat):(dg data).length=64:=by
 rw [dg,List.length_take,List.length_append,List.length_append,List.length_append,ur];lia
theorem dg_mem (data:List Nat):∀ c∈dg data,c∈eo:=fun c hc =>
 have k:=rb (data++dg8) 7 [] (fun a h=>nomatch h) c
 (List.mem_append.mp (List.mem_of_mem_take hc)).elim (fun h=>(List.mem_append.mp h).elim (fun h=>(List.mem_append.mp h).elim k k) k) k
theorem qN {i:Int} {k:Nat} {K:V→Prop} (e:i=(k:Int)) (hk:k<16) (h:K (.str [eo.getD k 0])):lf (o5 (.str (L "0123456789abcdef")) (.int i)) K:=by
 rw [Ab,e];exact eG (Nat.lt_trans hk (by decide)) (o8 hk) h
theorem wO (k:Nat):(16:Int) ^ (k:Int).toNat=((16 ^ k:Nat):Int):=(Int.natCast_pow 16 k).symm
section
variable {k:Nat} (h:k≤9)
include h
theorem pow_lt:16 ^ k<1000000000000:=Nat.lt_of_le_of_lt (Nat.pow_le_pow_right (by decide) h) (by decide)
theorem yk:small 16=true∧(0:Int)≤k∧(k:Int)≤1000:=⟨rfl,Int.natCast_nonneg k,Int.ofNat_le.mpr (Nat.le_trans h (by decide))⟩
theorem yl:(16:Int) ^ (k:Int).toNat≠0∧small ((16:Int) ^ (k:Int).toNat)=true:=wO k▸⟨Int.ofNat_ne_zero.mpr (Nat.ne_of_gt (Nat.pow_pos (by decide))),bD (pow_lt h)⟩
end
theorem sL (n k:Nat):((n:Int).fdiv ((16:Int) ^ (k:Int).toNat)).fmod 16=((n / 16 ^ k % 16:Nat):Int):=by rw [wO,fE];exact ik _ 16
theorem oK {α:Type} {a b c:List α} {x:α} (h:a++x::b=c):(a++[x])++b=c:=(List.append_assoc ..).trans h
theorem len_of {α:Type} {a b c:List α} (h:a++b=c):a.length≤c.length:=h▸Nat.le_trans (Nat.le_add_right _ _) (Nat.le_of_eq List.length_append.symm)
theorem cZ {α:Type} {a b:List α} {m n:Nat} (h:a.length≤m) (k:b.length≤n):(a++b).length≤m+n:=Nat.le_trans (Nat.le_of_eq List.length_append) (Nat.add_le_add h k)
theorem gR {data:List Nat} (hl:data.length≤1000) {u:V} {w:Wt} {R:V×Wt→Prop} (q:R (.str (dg data),w)):lf (eC [.byt data,u] w) R:=by
 have hA:(dgA data).length≤10000:=Nat.le_trans (Nat.le_of_eq (ur data)) (Nat.mul_le_mul_left 4 (Nat.le_trans (Nat.add_le_add_right hl 8) (by decide:1000+8≤2500)))
 refine cW [some (.byt data),some u,none,none,none,none] rfl rfl rfl ?_
 refine And.intro (by decide) ?_
 refine cD ?_
 refine And.intro (dI (Nat.le_trans (Nat.add_le_add_right hl 8) (by decide))) ?_
 refine gQ (f:=bp) (l:=data++dg8) (X:=Nat×List Nat×Option V×Option V) (fun x=>⟨[some (.byt data),some u,some (.int (x.1:Nat)),some (.str x.2.1),x.2.2.1,x.2.2.2],w⟩) (fun l x=>x.1<4294967291∧yK l x.1 x.2.1=dgA data) (7,[],none,none)
  ⟨by decide,rfl⟩ rfl (by rw [j5];rfl) (fun o l x hx=>?_) fun x hx=>?_
 · have hn:dgN x.1 o<4294967291:=Nat.mod_lt _ (by decide)
   have hg:=Nat.le_trans (Nat.le_trans (Nat.le_add_right _ (4 * l.length)) (Nat.le_of_eq (mM l _ _).symm)) (Nat.le_trans (Nat.le_of_eq (congrArg List.length hx.2)) hA)
   refine And.intro (bD (Nat.lt_trans hx.1 (by decide))) ?_
   refine And.intro (by decide) ?_
   refine And.intro rfl ?_
   refine gQ (f:=bp) (l:=List.range 4) (X:=List Nat×Option V) (fun y=>⟨[some (.byt data),some u,some (.int (dgN x.1 o:Nat)),some (.str y.1),some (bp o),y.2],w⟩) (fun l y=>y.1++l.map (dgT (dgN x.1 o))=x.2.1++dgS (dgN x.1 o)∧∀ a∈l,a<4) (x.2.1,x.2.2.2)
    ⟨rfl,by decide⟩ (cg 4) (congrArg (fun z:Int=>(⟨[some (.byt data),some u,some (.int z),some (.str x.2.1),some (bp o),x.2.2.2],w⟩:St)) (ik (x.1 * 263+o+1) 4294967291)) (fun t l y hy=>?_) fun y hy=>?_
   · have ht:t+1≤9:=Nat.le_trans (hy.2 t (.head _)) (by decide)
     refine And.intro (yk ht) ?_
     refine And.intro (yl ht) ?_
     refine And.intro (by decide) ?_
     refine qN (sL _ (t+1)) (Nat.mod_lt _ (by decide)) ?_
     refine And.intro (dI (Nat.le_trans (Nat.succ_le_succ (Nat.le_trans (len_of hy.1) hg)) (by decide))) ?_
     exact ⟨(_,_),rfl,oK hy.1,fun a ha=>hy.2 a (.tail _ ha)⟩
   · exact ⟨(dgN x.1 o,y.1,_,_),rfl,hn,((List.append_nil y.1).symm.trans hy.1)▸hx.2⟩
 · have e:x.2.1=dgA data:=hx.2
   have h1:=e▸hA
   have h2:=cZ h1 h1
   have h3:=cZ h2 h1
   refine And.intro (dI (Nat.le_trans (Nat.add_le_add h1 h1) (by decide))) ?_
   refine And.intro (dI (Nat.le_trans (Nat.add_le_add h2 h1) (by decide))) ?_
   refine And.intro (dI (Nat.le_trans (Nat.add_le_add h3 h1) (by decide))) ?_
   refine And.intro (dI (Nat.le_trans (cZ h3 h1) (by decide))) ?_
   exact (fc _ 64:slc none (some ((64:Nat):Int)) _=_)▸e▸q
theorem L_utf8:L "utf-8" = tj:=by decide +kernel
structure ja (x:List Nat):Prop where
 len:x.length≤1000
 asc:x.all (· < 128)=true
theorem qO {K:V→Prop} {x:List Nat} (h:ja x) (q:K (.byt x)):lf (eN (.str x) (.str (L "utf-8"))) K:=cD (aO (x:=some (V.byt x)) ⟨⟨L_utf8,h.asc,Nat.le_trans h.len (by decide)⟩,q⟩)
theorem pick2 {a b k m:Nat} (ha:a≤m) (hb:b≤m) (hk:k<2):∃ c:Nat,c≤m∧([V.int (a:Nat),V.int (b:Nat)]:List V)[k]? = some (.int (c:Nat)):=match k,hk with
 | 0,_=>⟨a,ha,rfl⟩
 | 1,_=>⟨b,hb,rfl⟩
theorem tm (x:List Nat) {k n:Nat} (h:k≤n):((dg x).take k).length≤n:=Nat.le_trans (List.length_take_le k _) h
theorem xq {r:Nat} {w:Wt} {R:V×Wt→Prop} (h:Wr (r+5) w) {x:List Nat} (hx:ja x) (q:∀ p w',p.length≤100→Wr r w'→R (.str p,w')):lf (lQ [.wref,.str x] w) R:=by
 have hL:(dg x).length≤LIM:=ju (mL x) (by decide)
 refine cW [some .wref,some (.str x),none,none] rfl rfl rfl ?_
 refine qO hx ?_
 refine gR hx.len ?_
 refine bK (r:=r+4) (m:=6) h (by decide) fun k1 w1 hk1 hw1=>?_
 refine bK (r:=r+3) (m:=65) hw1 (by decide) fun k2 w2 hk2 hw2=>?_
 refine And.intro (by decide:2≤LIM) ?_
 refine bK (r:=r+2) (m:=2) hw2 (by decide) fun k3 w3 hk3 hw3=>?_
 refine (pick2 (m:=64) (Nat.le_trans (Nat.le_of_lt_succ hk1) (by decide)) (Nat.le_of_lt_succ hk2) hk3).elim fun m hm=>?_
 refine dq (Nat.lt_trans hk3 (by decide)) hm.2 ?_
 refine bK (r:=r+1) (m:=3) hw3 (by decide) fun k4 w4 hk4 hw4=>?_
 have hrest:dC.w ⟨[some .wref,some (.str x),some (.str (dg x)),some (bp m)],w4⟩ (FnQ fun v w=>R (v,w)):=by
  unfold dC
  refine And.intro hL ?_
  exact q _ _ (Nat.le_trans (Nat.le_of_eq (congrArg List.length (fc (dg x) m))) (tm x (Nat.le_trans hm.1 (by decide)))) (hw4.le (Nat.le_succ r))
 refine br (fun a=>?_) fun a=>hrest
 refine br (fun hb=>?_) fun a=>hrest
 cases m with
 | zero=>exact absurd (of_decide_eq_true hb) (by decide)
 | succ j =>
 have e:slc none (some ((j+1:Nat) - (1:Int))) (dg x)=(dg x).take j:=(congrArg (fun z=>slc none (some z) (dg x)) (Int.add_sub_cancel (j:Int) 1)).trans (fc _ j)
 have hj:j≤64:=Nat.le_of_succ_le hm.1
 refine And.intro hL ?_
 refine bK (r:=r) (m:=16) hw4 (by decide) fun k5 w5 hk5 hw5=>?_
 refine qN rfl hk5 ?_
 have hj2:(slc none (some ((j+1:Nat) - (1:Int))) (dg x)).length≤64:=Nat.le_trans (Nat.le_of_eq (congrArg List.length e)) (tm x hj)
 refine And.intro (dI (Nat.le_trans (Nat.succ_le_succ hj2) (by decide))) ?_
 exact q _ _ (Nat.le_trans (cZ hj2 (Nat.le_refl 1)) (by decide)) hw5
noncomputable def m5 (i c:Nat):Bool:=match i with
 | 0=>decide (97≤c)&&decide (c≤99)
 | 1=>!(decide (97≤c)&&decide (c≤99))
 | 2=>c==45||c==97
 | 3=>c==98||c==45
 | 4=>decide (65≤c)&&decide (c≤67)
 | 5=>!(decide (65≤c)&&decide (c≤90))
 | 6=>c==46||c==45
 | 7=>(decide (48≤c)&&decide (c≤57))||c==97
 | 8=>c==97||c==100
 | _=>decide (98≤c)&&decide (c≤100)
def ji:List (Nat×Nat):=(List.range 10).flatMap fun i=>cJ.map fun c=>(i,c)
theorem nR {i c:Nat} (hi:i<10) (hc:c∈cJ):(i,c)∈ji:=List.mem_flatMap.mpr ⟨i,List.mem_range.mpr hi,List.mem_map.mpr ⟨c,hc,rfl⟩⟩
theorem vk (w:Wt):ji.map (fun p=>lk [.str (Tk.inner p.1),.str [p.2]] w)=ji.map fun p=>some (.bool (m5 p.1 p.2),w):=by kernel_rfl
theorem vJ (w:Wt):ji.map (fun p=>je [.str [p.2],.str (Tk.inner p.1)] w)=ji.map fun p=>some (.bool (m5 p.1 p.2),w):=by kernel_rfl
section
variable {w:Wt} {i c:Nat} {R:V×Wt→Prop} (hi:i<10) (hc:c∈cJ) (q:R (.bool (m5 i c),w))
include hi hc q
theorem l_holds:lf (lk [.str (Tk.inner i),.str [c]] w) R:=cD ((List.map_inj_left.mp (vk w) (i,c) (nR hi hc)).symm▸q:om _ R)
theorem l_class:lf (je [.str [c],.str (Tk.inner i)] w) R:=cD ((List.map_inj_left.mp (vJ w) (i,c) (nR hi hc)).symm▸q:om _ R)
end
noncomputable def vI:List Nat:=[99,108,97,115,115]
theorem pU:L "class" = vI:=by decide +kernel
theorem L_lb:L "[" = [91]:=by decide +kernel
theorem Aa:L "]" = [93]:=by decide +kernel
theorem L_q:L "?" = [63]:=by decide +kernel
theorem L_st:L "*" = [42]:=by decide +kernel
theorem L_ex:L "!" = [33]:=by decide +kernel
def Tk.kind:Tk→List Nat
 | .sg c=>[c]
 | .q=>[63]
 | .star=>[42]
 | .cls _=>vI
def Tk.arg:Tk→List Nat
 | .cls i=>Tk.inner i
 | _=>[]
noncomputable def gJ (t:Tk):V:=.tup [.str t.kind,.str t.arg]
section
variable {c d:Nat} {s:List Nat}
theorem rY (e:s=[d]) (h:(([c]:List Nat)==s)=true):c=d:=(List.cons.inj ((beq_iff_eq.mp h).trans e)).1
theorem wP (e:s=[d]) (h:(([c]:List Nat)==s)=false):c≠d:=fun q=>Bool.false_ne_true (h.symm.trans (beq_iff_eq.mpr (q▸e.symm)))
end
noncomputable def lW:List Nat→List V→Option (List Nat)→List V
 | [],t,_=>t
 | c::r,t,some a=>if c=93 then lW r (t++[.tup [.str vI,.str a]]) none else lW r t (some (a++[c]))
 | c::r,t,none=>if c=91 then lW r t (some []) else lW r (t++[.tup [.str [c],.str []]]) none
theorem tC {r:List Nat} {t:List V}:∀ (l a:List Nat),(∀ c∈l,c≠93)→lW (l++93::r) t (some a)=lW r (t++[.tup [.str vI,.str (a++l)]]) none
 | [],a,_=>(if_pos rfl).trans (by rw [List.append_nil])
 | c::l,a,h=>(if_neg (h c (.head _))).trans ((tC l (a++[c]) fun d hd=>h d (.tail _ hd)).trans (by rw [List.append_assoc];rfl))
theorem qQ:∀ i<10,(∀ c∈Tk.inner i,c≠93)∧(Tk.inner i).length≤4:=by decide
theorem eW:∀ c∈j1,c≠91∧c≠63∧c≠42∧c≠47∧c<128:=by decide
theorem scan_t {r:List Nat} {s:List V}:∀ {t:Tk},t.Ok→lW (t.rend++r) s none=lW r (s++[gJ t]) none
 | .sg c,h=>if_neg (eW c h).1
 | .q,_=>if_neg (by decide)
 | .star,_=>if_neg (by decide)
 | .cls i,h=>(if_pos rfl).trans ((congrArg (fun z=>lW z s (some [])) (List.append_assoc ..)).trans (tC _ [] (qQ i h).1))
theorem qt:∀ (ts:List Tk) (s:List V),(∀ t∈ts,t.Ok)→lW (aX ts) s none=s++ts.map gJ
 | [],s,_=>(List.append_nil s).symm
 | t::ts,s,h=>(scan_t (h t (.head _))).trans ((qt ts _ fun d hd=>h d (.tail _ hd)).trans (by rw [List.append_assoc];rfl))
theorem kJ {ts:List Tk} (h:∀ t∈ts,t.Ok):∀ c∈aX ts,c<128∧c≠47:=fun c hc =>
 (List.mem_flatten.mp hc).elim fun a e=>(List.mem_map.mp e.1).elim fun t q=>by
  obtain ⟨ht,rfl⟩:=q
  have hk:=h t ht
  cases t with
  | sg d=>exact List.mem_singleton.mp e.2▸⟨(eW d hk).2.2.2.2,(eW d hk).2.2.2.1⟩
  | q=>exact List.mem_singleton.mp e.2▸(by decide)
  | star=>exact List.mem_singleton.mp e.2▸(by decide)
  | cls i=>exact (by decide:∀ i<10,∀ c∈(Tk.cls i).rend,c<128∧c≠47) i hk c e.2
theorem uN {l:List Nat} (h:∀ c∈l,c<128):l.all (· < 128)=true:=List.all_eq_true.mpr fun c hc=>decide_eq_true (h c hc)
noncomputable def innV:Option (List Nat)→V
 | none=>.none
 | some a=>.str a
noncomputable def olen (o:Option (List Nat)):Nat:=o.elim 0 List.length
theorem u7 {a b c:Nat} (h:a+(b+1)≤c):a+b≤c:=Nat.le_of_succ_le h
theorem xo {ts:List Tk} (h:pQ ts) {w:Wt} {R:V×Wt→Prop} (q:R (.lst (ts.map gJ),w)):lf (lO [.str (aX ts)] w) R:=by
 have hr:(aX ts).length≤1000:=Nat.le_trans (fz h.ok) (Nat.le_trans (Nat.mul_le_mul_left 6 h.len) (by decide))
 refine cW [some (.str (aX ts)),none,none,none] rfl rfl rfl ?_
 refine And.intro (by decide) ?_
 refine And.intro (uN fun c hc=>(kJ h.ok c hc).1) ?_
 conv=>whnf
 refine gQ (f:=oQ) (X:=List V×Option (List Nat)×Option V) (l:=aX ts) (fun x=>⟨[some (.str (aX ts)),some (.ml x.1),some (innV x.2.1),x.2.2],w⟩) (fun l x=>lW l x.1 x.2.1=ts.map gJ∧x.1.length+l.length≤1000∧olen x.2.1+l.length≤1000) ([],none,none)
  ⟨qt ts [] h.ok,Nat.le_trans (Nat.le_of_eq (Nat.zero_add _)) hr,Nat.le_trans (Nat.le_of_eq (Nat.zero_add _)) hr⟩ rfl rfl (fun c l x hx=>?_) fun x hx=>?_
 · obtain ⟨toks,inn,y⟩:=x
   obtain ⟨hs,h1,h2⟩:=hx
   have hlim:toks.length≤LIM:=dI (Nat.le_trans (Nat.le_of_add_right_le h1) (by decide))
   have hsn:∀ u:V,(toks++[u]).length+l.length≤1000:=fun u=>Nat.le_trans (Nat.le_of_eq (congrArg (· + l.length) List.length_append)) (rgt h1)
   have hl:olen none+l.length≤1000:=Nat.le_trans (Nat.le_of_eq (Nat.zero_add _)) (Nat.le_trans (Nat.le_add_left _ _) (u7 h1))
   cases inn with
   | none =>
    refine br (fun hb=>?_) fun hb=>?_
    · exact ⟨(toks,some [],_),by rw [j5];rfl,(if_pos (rY L_lb hb)).symm.trans hs,u7 h1,hl⟩
    · refine And.intro (by decide:2≤LIM) ?_
      refine And.intro hlim ?_
      exact ⟨(_,none,some (oQ c)),by rw [j5];rfl,(if_neg (wP L_lb hb)).symm.trans hs,hsn _,hl⟩
   | some a =>
    refine br (fun hb=>?_) fun hb=>?_
    · refine And.intro (by decide:2≤LIM) ?_
      refine And.intro hlim ?_
      exact ⟨(_,none,_),by rw [pU];rfl,(if_pos (rY Aa hb)).symm.trans hs,hsn _,hl⟩
    · refine And.intro (dI (Nat.le_trans (Nat.add_le_add_right (Nat.le_of_add_right_le h2) 1) (by decide))) ?_
      exact ⟨(_,some (a++[c]),_),rfl,(if_neg (wP Aa hb)).symm.trans hs,u7 h1,Nat.le_trans (Nat.le_of_eq (congrArg (· + l.length) List.length_append)) (rgt h2)⟩
 · exact (show x.1=ts.map gJ from hx.1)▸q
def Tk.hit:Tk→Nat→Bool
 | .sg d,c=>d==c
 | .q,_=>true
 | .star,_=>false
 | .cls i,c=>m5 i c
noncomputable def b8:List Tk→List Nat→Bool
 | [],x=>x.isEmpty
 | .star::ts,x=>(List.range (x.length+1)).any fun k=>b8 ts (x.drop k)
 | _::_,[]=>false
 | t::ts,c::r=>t.hit c&&b8 ts r
theorem sE {ts:List Tk} {c:Nat} {r:List Nat}:∀ {t:Tk},t≠.star→b8 (t::ts) (c::r)=(t.hit c&&b8 ts r)
 | .sg _,_=>rfl
 | .q,_=>rfl
 | .cls _,_=>rfl
 | .star,h=>absurd rfl h
theorem yw {ts:List Tk}:∀ {t:Tk},t≠.star→b8 (t::ts) []=false
 | .sg _,_=>rfl
 | .q,_=>rfl
 | .cls _,_=>rfl
 | .star,h=>absurd rfl h
theorem brt {b:Bool} {A B:Prop} (e:b=true) (h:A):cond b A B:=e▸h
theorem brf {b:Bool} {A B:Prop} (e:b=false) (h:B):cond b A B:=e▸h
theorem lq {a:List Nat} {l:List (List Nat)} {K:Bool→Prop} (h:K (!l.any (·==a))):lf (cop .NotIn (.str a) (.tup (l.map .str))) K :=
 cD (by show om ((((dm (l.map V.str)).map fun ss=>ss.any (·==a))).map (!·)) K;rw [eB];exact h)
def gu (x:List Nat):Prop:=x.length≤1000∧∀ c∈x,c∈cJ
theorem gu.drop {x:List Nat} (h:gu x) (k:Nat):gu (x.drop k):=⟨Nat.le_trans (Nat.le_of_eq List.length_drop) (Nat.le_trans (Nat.sub_le _ _) h.1),fun c hc=>h.2 c (List.mem_of_mem_drop hc)⟩
theorem kind_st {t:Tk} (h:t.Ok) (n:t≠.star):(t.kind==L "*")=false:=L_st▸match t,h,n with
 | .sg c,h,_=>beq_eq_false_iff_ne.mpr fun e=>(eW c h).2.2.1 (List.cons.inj e).1
 | .q,_,_=>rfl
 | .cls _,_,_=>rfl
 | .star,_,n=>absurd rfl n
theorem emp_eq (x:List Nat):(x==L "")=x.isEmpty:=j5▸match x with
 | []=>rfl
 | _::_=>rfl
theorem tail_eq {a:V} {l:List V}:V.lst (slc (some 1) none (a::l))=.lst l:=congrArg V.lst (qm (a::l))
theorem any_t {b:Bool} {p:Nat→Bool} {k:Nat} {l:List Nat} (h:b=(k::l).any p) (e:p k=true):b=true:=h.trans (by rw [List.any_cons,e];rfl)
theorem any_f {b:Bool} {p:Nat→Bool} {k:Nat} {l:List Nat} (h:b=(k::l).any p) (e:p k=false):b=l.any p:=h.trans (by rw [List.any_cons,e];rfl)
theorem cls_one (d:Nat):(([d]:List Nat)==L "class")=false:=pU▸beq_eq_false_iff_ne.mpr fun e=>nomatch (List.cons.inj e).2
theorem not_in2 {d:Nat} (h:(([63]:List Nat)==[d])=false):(!([L "class",L "?"].any (·==[d])))=true:=by
 rw [pU,L_q]
 show (!((vI==[d])||((([63]:List Nat)==[d])||false)))=true
 rw [h,show (vI==[d])=false from beq_eq_false_iff_ne.mpr fun e=>nomatch (List.cons.inj (show 99::[108,97,115,115]=[d] from e)).2];rfl
theorem beq1 {a b:Nat}:(([a]:List Nat)==[b])=(a==b):=Bool.and_true _
theorem kK:∀ {b:Bool},(!b)=true→b=false | false,_=>rfl
theorem kL:∀ {b:Bool},(!b)=false→b=true | true,_=>rfl
section
variable {w:Wt}
theorem xz:∀ (n:Nat) (ts:List Tk) (text:List Nat) (R:V×Wt→Prop) {v1 v2:V},v1=.lst (ts.map gJ)→v2=.str text→ts.length<n→ts.length≤3→(∀ t∈ts,t.Ok)→gu text →
 R (.bool (b8 ts text),w)→lf (fi n [v1,v2] w) R
 | 0,_,_,_,_,_,_,_,h,_,_,_=>fun a=>absurd h (Nat.not_lt_zero _)
 | n+1,[],text,R,_,_,e1,e2,_,_,_,hx=>fun q=>by
  subst e1 e2
  refine cW [some (.lst []),some (.str text),none,none,none] (show fi (n+1)=er fW ["tokens","text"] (gj (fi n)).d from rfl) rfl rfl ?_
  refine And.intro (by decide) ?_
  exact (show R (.bool (text==L ""),w) from (emp_eq text).symm▸q)
 | n+1,t::ts,text,R,_,_,e1,e2,hn,h3,hok,hx=>fun q=>by
  subst e1 e2
  have ht:=hok t (.head _)
  have hxl:text.length≤LIM:=dI (Nat.le_trans hx.1 (by decide))
  have hl:(gJ t::ts.map gJ).length≤LIM:=Nat.le_trans (Nat.succ_le_succ (bt (Nat.le_of_succ_le_succ h3))) (by decide)
  have hrec:∀ k {v2:V} {R:V×Wt→Prop},v2=.str (text.drop k)→R (.bool (b8 ts (text.drop k)),w)→lf (fi n [.lst (slc (some 1) none (gJ t::ts.map gJ)),v2] w) R :=
   fun k a a e q=>xz n ts (text.drop k) _ tail_eq e (Nat.lt_of_succ_lt_succ hn) (Nat.le_of_succ_le h3) (fun d hd=>hok d (.tail _ hd)) (hx.drop k) q
  refine cW [some (.lst (gJ t::ts.map gJ)),some (.str text),none,none,none] (show fi (n+1)=er fW ["tokens","text"] (gj (fi n)).d from rfl) rfl rfl ?_
  refine And.intro (by decide) ?_
  refine dq (k:=0) (v:=gJ t) (by decide) rfl ?_
  conv=>whnf
  by_cases hst:t=.star
  · subst hst
    refine And.intro hxl ?_
    refine And.intro (bD (n:=text.length+1) (Nat.lt_of_le_of_lt (Nat.succ_le_succ hx.1) (by decide))) ?_
    refine gQ (f:=bp) (X:=Option V) (l:=List.range (text.length+1)) (fun y=>⟨[some (.lst (gJ .star::ts.map gJ)),some (.str text),some (.str [42]),some (.str []),y],w⟩) (fun ks a=>b8 (.star::ts) text=ks.any fun k=>b8 ts (text.drop k)) none rfl (cg (text.length+1)) rfl (fun k ks y hf=>?_) fun y hf=>?_
    · refine And.intro hl ?_
      refine And.intro hxl ?_
      refine hrec k (congrArg V.str (jg text k)) ?_
      refine br (fun hb=>?_) fun hb=>?_
      · exact any_t (p:=fun k=>b8 ts (text.drop k)) hf hb▸q
      · exact ⟨_,rfl,any_f (p:=fun k=>b8 ts (text.drop k)) hf hb⟩
    · exact (show b8 (.star::ts) text=false from hf)▸q
  refine brf (kind_st ht hst) ?_
  cases text with
  | nil =>
   exact yw (ts:=ts) hst▸q
  | cons c r =>
  have hc:c∈cJ:=hx.2 c (.head _)
  have hfin:t.hit c=true→(ac (bN (be (fi n) (rc (cH (aa 0) (ck (.int 1)) (ck .none)) (rc (cH (aa 1) (ck (.int 1)) (ck .none)) aB)))) ag).w
   ⟨[some (.lst (gJ t::ts.map gJ)),some (.str (c::r)),some (.str t.kind),some (.str t.arg),none],w⟩ (FnQ fun v w=>R (v,w)):=fun hh=>by
   refine And.intro hl ?_
   refine And.intro hxl ?_
   exact hrec 1 (congrArg V.str (qm (c::r))) (show R (.bool (b8 ts r),w) from (show b8 (t::ts) (c::r)=b8 ts r from (sE hst).trans (by rw [hh];rfl))▸q)
  have hno:t.hit c=false→R (.bool false,w):=fun hh=>(show b8 (t::ts) (c::r)=false from (sE hst).trans (by rw [hh];rfl))▸q
  cases t with
  | star=>exact absurd rfl hst
  | q =>
   refine And.intro (by decide) ?_
   refine lq (l:=[L "class",L "?"]) ?_
   exact hfin rfl
  | sg d =>
   refine brf (cls_one d) ?_
   refine And.intro (by decide) ?_
   refine lq (l:=[L "class",L "?"]) ?_
   refine brt (not_in2 (beq_eq_false_iff_ne.mpr fun e=>(eW d ht).2.1 (List.cons.inj e).1.symm)) ?_
   refine eG (k:=0) (by decide) rfl ?_
   refine br (fun hb=>?_) fun hb=>?_
   · exact hno (beq1.symm.trans (kK hb))
   · exact hfin (beq1.symm.trans (kL hb))
  | cls i =>
   refine eG (k:=0) (by decide) rfl ?_
   refine l_holds ht hc ?_
   refine br (fun hb=>?_) fun hb=>?_
   · exact hno (kK hb)
   · refine And.intro (by decide) ?_
     refine lq (l:=[L "class",L "?"]) ?_
     exact hfin (kL hb)
end
theorem xn {α X:Type} {t:Cm Bool} {b:Cm Fl} {R:Fl×St→Prop} {k:Nat} {l:List α} {s:St} (S:X→St) (J:List α→X→Prop) (x:X) (hx:J l x) (hk:l.length<k) (hs:s=S x)
 (h0:∀ x,J [] x→t.w (S x) fun c s=>c=false∧R (.nxt,s)) (hb:∀ a r x,J (a::r) x→t.w (S x) fun c s=>c=true∧b.w s (LQ (fun s=>∃ y,s=S y∧J r y) fun f s=>R (f,s))):lf (fj t.d b.d k s) R:=by
 subst hs
 refine cD ?_
 induction k generalizing l x with
 | zero=>exact absurd hk (Nat.not_lt_zero _)
 | succ k ih=>exact match l,hx,hk with
  | [],hx,_=>ab (t.go (h0 x hx) fun c s h=>by rw [h.1];exact h.2)
  | a::r,hx,hk=>ab (t.go (hb a r x hx) fun c s h=>by
   rw [h.1]
   exact ab (b.go h.2 fun fl s h =>
    have nx:(∃ y,s=S y∧J r y)→om (fj t.d b.d k s) R:=fun h=>h.elim fun y e=>e.1▸ih y e.2 (Nat.lt_of_succ_lt_succ hk)
    match fl,h with
    | .nxt,h=>nx h
    | .cont,h=>nx h
    | .brk,h=>h
    | .ret _,h=>h))
theorem gt {α:Type} {P r:List α} {k:Nat} {c:α} (h:P.drop k=c::r):P[k]? = some c∧P.drop (k+1)=r∧k<P.length:=by
 have e:P[k]? = some c:=(List.getElem?_drop (xs:=P) (i:=k) (j:=0)).symm.trans (by rw [h];rfl)
 exact ⟨e,(List.drop_drop (i:=1) (j:=k) (l:=P)).symm.trans (by rw [h];rfl),(List.getElem?_eq_some_iff.mp e).1⟩
theorem gU {α:Type} {P a b:List α} {k:Nat} (h:P.drop k=a++b):P.drop (k+a.length)=b:=(List.drop_drop (i:=a.length) (j:=k) (l:=P)).symm.trans (by rw [h];exact List.drop_left)
theorem no_drop {α:Type} {P:List α} {k:Nat} (h:P.drop k=[]):P.length≤k:=List.drop_eq_nil_iff.mp h
noncomputable def Tk.hd:Tk→Nat
 | .sg c=>c
 | .q=>63
 | .star=>42
 | .cls _=>91
def Tk.cl (n:Nat):Tk→Int
 | .cls i=>((n+1+(Tk.inner i).length:Nat):Int)
 | _=>-1
theorem Tk.rend_hd:∀ t:Tk,∃ r,t.rend=t.hd::r
 | .sg _=>⟨_,rfl⟩
 | .q=>⟨_,rfl⟩
 | .star=>⟨_,rfl⟩
 | .cls _=>⟨_,rfl⟩
noncomputable def iH (t:Tk) (name:List Nat) (k:Nat):Bool:=(name[k]?.map t.hit).getD false
def nxt (t:Tk) (name:List Nat) (l:List Nat):List Nat:=(l.filter (iH t name)).map (· + 1)
section
variable {t:Tk} {name:List Nat} {k c:Nat}
theorem qS (h:name[k]? = some c):iH t name k=t.hit c:=by rw [iH,h];rfl
theorem mC (h:name[k]? = none):iH t name k=false:=by rw [iH,h];rfl
theorem nxt_t {l:List Nat} (h:iH t name k=true):nxt t name (k::l)=(k+1)::nxt t name l:=by rw [nxt,List.filter_cons_of_pos h];rfl
theorem wQ {l:List Nat} (h:iH t name k=false):nxt t name (k::l)=nxt t name l:=by rw [nxt,List.filter_cons_of_neg (h▸Bool.false_ne_true)];rfl
theorem fits_at (h:t≠.star) (ts:List Tk):b8 (t::ts) (name.drop k)=(iH t name k&&b8 ts (name.drop (k+1))):=by
 cases hk:name[k]? with
 | none=>rw [mC hk,List.drop_eq_nil_of_le (List.getElem?_eq_none_iff.mp hk),yw h];rfl
 | some c =>
  have e:=List.getElem?_eq_some_iff.mp hk
  exact e.elim fun h1 h2=>by rw [List.drop_eq_getElem_cons h1,sE h,h2,qS hk]
theorem tI (h:t≠.star) (ts:List Tk):∀ l:List Nat,(l.any fun k=>b8 (t::ts) (name.drop k))=(nxt t name l).any fun k=>b8 ts (name.drop k)
 | []=>rfl
 | k::l=>by
  rw [List.any_cons,tI h ts l,fits_at h]
  cases hh:iH t name k with
  | true=>rw [nxt_t hh];rfl
  | false=>rw [wQ hh];rfl
theorem nxt_le {l:List Nat}:∀ k∈nxt t name l,k≤name.length:=fun k hk=>(List.mem_map.mp hk).elim fun j e=>e.2▸(by
 cases hj:name[j]? with
 | none=>exact absurd ((mC hj).symm.trans (List.mem_filter.mp e.1).2) Bool.false_ne_true
 | some c=>exact (List.getElem?_eq_some_iff.mp hj).1)
theorem r0 {l:List Nat} (h:l.Pairwise (·≤·)):(nxt t name l).Pairwise (·≤·):=List.Pairwise.map _ (fun a a h=>Nat.succ_le_succ h) (h.filter _)
theorem nxt_len {l:List Nat}:(nxt t name l).length≤l.length:=Nat.le_trans (Nat.le_of_eq (List.length_map _)) (List.length_filter_le _ _)
end
theorem wn (ts:List Tk) (name:List Nat) (p:Nat) (r:List Nat) (hs:(p::r).Pairwise (·≤·)) (hl:∀ k∈p::r,k≤name.length) :
 ((p::r).any fun k=>b8 (.star::ts) (name.drop k))=((List.range (name.length+1 - p)).map (p+·)).any fun k=>b8 ts (name.drop k):=by
 refine Bool.eq_iff_iff.mpr ⟨fun h=>?_,fun h=>?_⟩
 · refine Classical.byContradiction fun hn_=>?_
   obtain ⟨k,hk,h⟩:=List.any_eq_true.mp h
   obtain ⟨j,hj,h⟩:=List.any_eq_true.mp (show ((List.range ((name.drop k).length+1)).any fun j=>b8 ts ((name.drop k).drop j))=true from h)
   have h2:p≤k+j:=Nat.le_trans ((List.mem_cons.mp hk).elim (fun e=>Nat.le_of_eq e.symm) (List.rel_of_pairwise_cons hs)) (Nat.le_add_right k j)
   have h3:k+j<name.length+1:=Nat.lt_of_lt_of_eq (Nat.add_lt_add_left (List.mem_range.mp hj) k) (by rw [List.length_drop];exact congrArg (· + 1) (Nat.add_sub_cancel' (hl k hk)))
   refine hn_ ?_;clear hn_
   exact List.any_eq_true.mpr ⟨k+j,List.mem_map.mpr ⟨k+j - p,List.mem_range.mpr (Nat.sub_lt_sub_right h2 h3),Nat.add_sub_cancel' h2⟩,List.drop_drop (i:=j) (j:=k) (l:=name)▸h⟩
 · refine Classical.byContradiction fun hn_=>?_
   obtain ⟨m,hm,h⟩:=List.any_eq_true.mp h
   obtain ⟨j,hj,rfl⟩:=List.mem_map.mp hm
   refine hn_ ?_;clear hn_
   exact List.any_eq_true.mpr ⟨p,.head _,List.any_eq_true.mpr ⟨j,List.mem_range.mpr (by rw [List.length_drop];exact Nat.lt_of_lt_of_eq (List.mem_range.mp hj) (Nat.succ_sub (hl p (.head _)))),(List.drop_drop (i:=j) (j:=p) (l:=name)).symm▸h⟩⟩
theorem uk (name:List Nat):∀ l:List Nat,(∀ k∈l,k≤name.length)→(l.any fun k=>b8 [] (name.drop k))=l.any fun k=>(k:Int)==(name.length:Int)
 | [],_=>rfl
 | k::l,h=>by
  rw [List.any_cons,List.any_cons,uk name l fun d hd=>h d (.tail _ hd)]
  refine congrArg (·||_) (Bool.eq_iff_iff.mpr (List.isEmpty_iff.trans (List.drop_eq_nil_iff.trans (Iff.trans ⟨fun e=>?_,fun e=>?_⟩ beq_iff_eq.symm))))
  · exact congrArg Int.ofNat (Nat.le_antisymm (h k (.head _)) e)
  · exact Nat.le_of_eq (Int.ofNat_inj.mp e.symm)
theorem l_ini {l:List Nat} {a:Int} {K:Bool→Prop} (h:K (l.any fun k=>(k:Int)==a)):lf (cop .In (.int a) (.lst (l.map bp))) K:=by
 have e:l.map bp=(l.map fun (k:Nat)=>(k:Int)).map V.int:=by rw [List.map_map];rfl
 have hi:fg (l.map bp)=some (l.map fun (k:Nat)=>(k:Int)):=e▸iX _
 refine cD ?_
 show om (((inS (l.map bp) (.int a)).or ((fg (l.map bp)).map fun ss=>ss.any (·==a))).or _) K
 rw [hi]
 exact (List.any_map (l:=l)▸h:K ((l.map fun (k:Nat)=>(k:Int)).any (·==a)))
theorem sA:∀ i<10,∃ c r,Tk.inner i=c::r∧(c=33→r≠[]):=by
 intro i hi
 have:∀ i<10,Tk.inner i≠[]∧((Tk.inner i)[0]? = some 33→(Tk.inner i).drop 1≠[]):=by decide
 cases hh:Tk.inner i with
 | nil=>exact absurd hh (this i hi).1
 | cons c r=>exact ⟨c,r,rfl,fun e=>by have:=(this i hi).2;rw [hh] at this;exact this (congrArg some e)⟩
noncomputable def mSt (name P:List Nat) (v2 v3 v4 v5 v6 v7 v8 v9:Option V) (w:Wt):St:=⟨[some (.str name),some (.str P),v2,v3,v4,v5,v6,v7,v8,v9],w⟩
theorem iT {a b:Nat} (h:a<b):decide ((a:Int)<(b:Int))=true:=decide_eq_true (Int.ofNat_lt.mpr h)
theorem yi {a b:Nat} (h:b≤a):decide ((a:Int)<(b:Int))=false:=decide_eq_false (Int.not_lt.mpr (Int.ofNat_le.mpr h))
theorem lM {c d:Nat} {s:List Nat} (e:s=[d]) (h:c≠d):(([c]:List Nat)==s)=false:=e▸beq_eq_false_iff_ne.mpr fun q=>h (List.cons.inj q).1
theorem l_close {name P rest:List Nat} {v2 v3 v4 v6 v7 v8 v9:Option V} {w:Wt} {i k:Nat} (hi:i<10) (hP:P.length≤1000) (hd:P.drop (k+1)=Tk.inner i++93::rest) {Q:Fl→St→Prop}
 (h:Q .nxt (mSt name P v2 v3 v4 (some (bp (k+1+(Tk.inner i).length+1))) (some (bp (k+1+(Tk.inner i).length))) v7 v8 v9 w)):dP.w (mSt name P v2 v3 v4 (some (bp (k+1))) v6 v7 v8 v9 w) Q:=by
 have hl:P.length≤LIM:=Nat.le_trans hP (by decide)
 have hb:∀ {j:Nat},j<P.length→j<1000000000:=fun h=>Nat.lt_of_lt_of_le h (Nat.le_trans hP (by decide))
 refine Classical.byContradiction fun hn_=>?_
 obtain ⟨c,r,hr,hc⟩:=sA i hi
 have hno:=(qQ i hi).1
 rw [hr] at hno hd h
 have a0:=gt hd
 have a1:=gU (a:=c::r) hd
 have b1:=gt a1
 refine hn_ ?_;clear hn_
 have go:∀ (l:List Nat) (j:Nat),l≠[]→(∀ c∈l,c≠93)→P.drop j=l++93::rest→j+l.length=k+1+(c::r).length →
  (ac (cif (eR (ay .Lt (aa 6) (cun cj (aa 1))) (ay .Eq (bT (aa 1) (aa 6)) (ck (.str (L "]"))))) (ac (pK 6 (ck (.int 1))) ag) ag) (ac (i6 (eR (ay .Lt (aa 6) (cun cj (aa 1))) (ay .NotEq (bT (aa 1) (aa 6)) (ck (.str (L "]"))))) (ac (pK 6 (ck (.int 1))) ag) tc) (ac (cif (ay .Lt (aa 6) (cun cj (aa 1))) (ac (ae 5 (aI .Add (aa 6) (ck (.int 1)))) ag) (ac (ae 6 (pG (ck (.int 1)))) ag)) ag))).w
   (mSt name P v2 v3 v4 (some (bp (k+1))) (some (bp j)) v7 v8 v9 w) Q:=by
  intro l j hne hl9 hj hje
  cases l with
  | nil=>exact absurd rfl hne
  | cons d l =>
  have aj:=gt hj
  refine And.intro hl ?_
  refine brt (iT aj.2.2) ?_
  refine eG (hb aj.2.2) aj.1 ?_
  refine brf (lM Aa (hl9 d (.head _))) ?_
  refine xn (X:=Nat) (l:=d::l) (fun j=>mSt name P v2 v3 v4 (some (bp (k+1))) (some (bp j)) v7 v8 v9 w) (fun l j=>P.drop j=l++93::rest∧(∀ c∈l,c≠93)∧j+l.length=k+1+(c::r).length) j ⟨hj,hl9,hje⟩ ?_ rfl (fun j h1=>?_) fun a l j h1=>?_
  · exact Nat.lt_of_le_of_lt (Nat.le_trans (Nat.le_add_left _ j) (Nat.le_trans (Nat.le_of_eq hje) (Nat.le_of_lt b1.2.2))) (Nat.lt_of_le_of_lt hP (by decide))
  · have aj:=gt h1.1
    have e:j=k+1+(c::r).length:=h1.2.2
    refine And.intro hl ?_
    refine brt (iT aj.2.2) ?_
    refine eG (hb aj.2.2) aj.1 ?_
    refine ⟨by rw [Aa];rfl,?_⟩
    refine And.intro hl ?_
    refine brt (iT aj.2.2) ?_
    exact e▸h
  · have aj:=gt h1.1
    refine And.intro hl ?_
    refine brt (iT aj.2.2) ?_
    refine eG (hb aj.2.2) aj.1 ?_
    refine ⟨congrArg (!·) (lM Aa (h1.2.1 a (.head _))),?_⟩
    exact ⟨j+1,rfl,aj.2.1,fun c hc=>h1.2.1 c (.tail _ hc),(Nat.succ_add_eq_add_succ j l.length).trans h1.2.2⟩
 unfold dP
 refine And.intro hl ?_
 refine brt (iT a0.2.2) ?_
 refine eG (hb a0.2.2) a0.1 ?_
 refine br (fun hb=>?_) fun hb=>?_
 · exact go r (k+1+1) (hc (rY L_ex hb)) (fun d hd=>hno d (.tail _ hd)) a0.2.1 (Nat.succ_add_eq_add_succ (k+1) r.length)
 · exact go (c::r) (k+1) (List.cons_ne_nil _ _) hno hd rfl
structure PlOk (name pl:List Nat):Prop where
 le:∀ k∈pl,k≤name.length
 so:pl.Pairwise (·≤·)
 len:pl.length≤1001
section
variable {name P:List Nat} {w:Wt} {t:Tk} {k:Nat}
theorem xC {i c:Nat} {v:V} {R:V×Wt→Prop} (e:v=.str (Tk.inner i)) (hi:i<10) (hc:c∈cJ) (q:R (.bool (m5 i c),w)):lf (je [.str [c],v] w) R:=e▸l_class hi hc q
def fS (name P:List Nat) (w:Wt) (t:Tk) (k:Nat) (v2 v5:Option V) (z:List Nat×Option V×Option V):St:=mSt name P v2 (some (bp k)) (some (.str [t.hd])) v5 (some (.int (t.cl k))) (some (.ml (z.1.map bp))) z.2.1 z.2.2 w
def fJ (name:List Nat) (t:Tk) (pl r:List Nat) (z:List Nat×Option V×Option V):Prop:=z.1++nxt t name r=nxt t name pl∧(∀ k∈r,k≤name.length)∧z.1.length+r.length≤1001
theorem l_for (ht:t.Ok) (hst:t≠.star) (hx:gu name) (hP:P.length≤1000) {rest:List Nat} (hd:P.drop k=t.rend++rest) {pl:List Nat} (hp:PlOk name pl) {v2 v5 x y:Option V} {R:Fl×St→Prop}
 (h:∀ x y,R (.nxt,fS name P w t k v2 v5 (nxt t name pl,x,y))) :
 lf (cM (bA 8) eS.d (pl.map bp) (fS name P w t k v2 v5 ([],x,y))) R:=by
 have hxl:name.length≤LIM:=Nat.le_trans hx.1 (by decide)
 have hb:∀ {j n:Nat},j<n→n≤1000→j<1000000000:=fun h h2=>Nat.lt_of_lt_of_le h (Nat.le_trans h2 (by decide))
 refine gQ (f:=bp) (fS name P w t k v2 v5) (fJ name t pl) ([],x,y) ⟨rfl,hp.le,Nat.le_trans (Nat.le_of_eq (Nat.zero_add _)) hp.len⟩ rfl rfl (fun j r z hz=>?_) fun z hz=>?_
 · obtain ⟨acc,zx,zy⟩:=z
   obtain ⟨h1,h2,h3⟩:=hz
   unfold eS
   refine And.intro hxl ?_
   refine br (fun hbe=>?_) fun hbe=>?_
   · have e:j=name.length:=Int.ofNat_inj.mp (eq_of_beq hbe)
     exact ⟨(acc,some (bp j),zy),rfl,(congrArg (acc++·) (wQ (mC (List.getElem?_eq_none (Nat.le_of_eq e.symm))))).symm.trans h1,fun k hk=>h2 k (.tail _ hk),u7 h3⟩
   · have hlt:j<name.length:=Nat.lt_of_le_of_ne (h2 j (.head _)) fun e=>(beq_eq_false_iff_ne.mp hbe) (congrArg Int.ofNat e)
     have hn:name[j]? = some name[j]:=List.getElem?_eq_getElem hlt
     have hca:name[j]∈cJ:=hx.2 _ (List.getElem_mem hlt)
     generalize name[j]=c at hn hca
     have hfin:∀ b:Bool,b=t.hit c→eT.w ((fS name P w t k v2 v5 (acc,some (bp j),some (.bool b)))) (LQ (fun s=>∃ z,s=fS name P w t k v2 v5 z∧fJ name t pl r z) fun f s=>R (f,s)):=by
      intro b hbt
      have hh:iH t name j=b:=(qS hn).trans hbt.symm
      unfold eT
      refine br (fun hb=>?_) fun hb=>?_
      · refine And.intro (Nat.le_trans (bt (Nat.le_of_add_right_le h3)) (by decide)) ?_
        exact ⟨(acc++[j+1],some (bp j),some (.bool b)),by unfold fS;rw [List.map_append];rfl,oK ((congrArg (acc++·) (nxt_t (hh.trans hb)).symm).trans h1),fun k hk=>h2 k (.tail _ hk),Nat.le_trans (Nat.le_of_eq (congrArg (· + r.length) List.length_append)) (rgt h3)⟩
      · exact ⟨(acc,_,_),rfl,(congrArg (acc++·) (wQ (hh.trans hb))).symm.trans h1,fun k hk=>h2 k (.tail _ hk),u7 h3⟩
     cases t with
     | star=>exact absurd rfl hst
     | q =>
      exact hfin true rfl
     | sg d =>
      refine brf (lM L_q (eW d ht).2.1) ?_
      refine eG (hb hlt hx.1) hn ?_
      exact hfin _ (beq1.trans Bool.beq_comm)
     | cls i =>
      have ap:P.drop (k+1)=Tk.inner i++([93]++rest):=(gU (P:=P) (k:=k) (a:=[91]) hd).trans (List.append_assoc ..)
      have hcl:k+1+(Tk.inner i).length≤P.length:=Nat.le_of_lt (gt (gU ap)).2.2
      refine eG (hb hlt hx.1) hn ?_
      refine And.intro (Nat.le_trans hP (by decide)) ?_
      refine xC (congrArg V.str ((slc_mid P (k+1) _ (Nat.le_add_right _ _) hcl).trans (by rw [ap,Nat.add_sub_cancel_left];exact List.take_left))) ht hca ?_
      exact hfin _ rfl
 · obtain ⟨acc,zx,zy⟩:=z
   exact ((List.append_nil acc).symm.trans hz.1)▸h zx zy
theorem wJ {p n:Nat}:rng (p:Int) ((n:Int)+1)=((List.range (n+1 - p)).map (p+·)).map bp:=by
 show (List.range (((n:Int)+1 - p).toNat)).map _=_
 rw [List.map_map,show ((n:Int)+1 - p).toNat=n+1 - p from Int.toNat_sub (n+1) p];rfl
theorem l_rest {todo:List Tk} (ht:t.Ok) (hx:gu name) (hP:P.length≤1000) {rest:List Nat} (hd:P.drop k=t.rend++rest) {pl:List Nat} (hp:PlOk name pl) {v7 v8 v9:Option V} {k':Nat} {Q:Fl→St→Prop}
 (hQ:∀ (pl':List Nat) v7 v8 v9,PlOk name pl'→(pl.any fun k=>b8 (t::todo) (name.drop k))=(pl'.any fun k=>b8 todo (name.drop k))→Q .nxt (mSt name P (some (.lst (pl'.map bp))) (some (bp k')) (some (.str [t.hd])) (some (bp k')) (some (.int (t.cl k))) v7 v8 v9 w)) :
 dB.w (mSt name P (some (.lst (pl.map bp))) (some (bp k)) (some (.str [t.hd])) (some (bp k')) (some (.int (t.cl k))) v7 v8 v9 w) Q:=by
 have hxl:name.length≤LIM:=Nat.le_trans hx.1 (by decide)
 unfold dB hB
 refine And.intro (by decide) ?_
 by_cases hst:t=.star
 · subst hst
   cases pl with
   | nil =>
    refine And.intro (by decide) ?_
    exact hQ [] _ _ _ hp rfl
   | cons p r =>
    have hpl:p≤name.length:=hp.le p (.head _)
    refine And.intro (Nat.le_trans (bt hp.len) (by decide)) ?_
    refine dq (k:=0) (v:=bp p) (by decide) rfl ?_
    refine And.intro hxl ?_
    refine And.intro ⟨bD (Nat.lt_of_le_of_lt (Nat.le_trans hpl hx.1) (by decide)),bD (n:=name.length+1) (Nat.lt_of_le_of_lt (Nat.succ_le_succ hx.1) (by decide)),?_⟩ ?_
    · exact Nat.le_trans (Nat.le_of_eq (Int.toNat_sub (name.length+1) p)) (Nat.le_trans (Nat.sub_le _ _) (Nat.le_trans (Nat.succ_le_succ hx.1) (by decide)))
    rw [wJ]
    refine hQ ((List.range (name.length+1 - p)).map (p+·)) _ _ _ ⟨fun k hk=>?_,List.Pairwise.map _ (fun a b h=>Nat.add_le_add_left (Nat.le_of_lt h) p) List.pairwise_lt_range,?_⟩ (wn todo name p r hp.so hp.le)
    · obtain ⟨j,hj,rfl⟩:=List.mem_map.mp hk
      exact Nat.le_of_lt_succ (Nat.lt_of_lt_of_eq (Nat.add_lt_add_left (List.mem_range.mp hj) p) (Nat.add_sub_cancel' (Nat.le_succ_of_le hpl)))
    · exact bt (Nat.le_trans (Nat.le_of_eq List.length_range) (Nat.le_trans (Nat.sub_le _ _) (Nat.succ_le_succ hx.1)))
 · have hk:(([t.hd]:List Nat)==L "*")=false:=match t,ht,hst with
    | .sg c,ht,_=>lM L_st (eW c ht).2.2.1
    | .q,_,_=>lM L_st (by decide)
    | .cls i,_,_=>lM (c:=91) L_st (by decide)
    | .star,_,h=>absurd rfl h
   refine brf hk ?_
   refine l_for ht hst hx hP hd hp fun x y=>?_
   exact hQ (nxt t name pl) _ _ _ ⟨nxt_le,r0 hp.so,Nat.le_trans nxt_len hp.len⟩ (tI hst todo pl)
end
noncomputable abbrev MX:=Nat×List Nat×Option V×Option V×Option V×Option V×Option V×Option V
def mS (name P:List Nat) (w:Wt) (x:MX):St:=mSt name P (some (.lst (x.2.1.map bp))) (some (bp x.1)) x.2.2.1 x.2.2.2.1 x.2.2.2.2.1 x.2.2.2.2.2.1 x.2.2.2.2.2.2.1 x.2.2.2.2.2.2.2 w
def mJ (ts:List Tk) (name:List Nat) (todo:List Tk) (x:MX):Prop:=(aX ts).drop x.1=aX todo∧(∀ t∈todo,t.Ok)∧PlOk name x.2.1∧b8 ts name=x.2.1.any fun k=>b8 todo (name.drop k)
theorem l_match {name:List Nat} {ts:List Tk} (hT:pQ ts) (hx:gu name) {w:Wt} {v1 v2:V} (e1:v1=.str name) (e2:v2=.str (aX ts)) {R:V×Wt→Prop} (q:R (.bool (b8 ts name),w)):lf (oF [v1,v2] w) R:=by
 subst e1 e2
 have hxl:name.length≤LIM:=Nat.le_trans hx.1 (by decide)
 have hP:(aX ts).length≤1000:=Nat.le_trans (fz hT.ok) (Nat.le_trans (Nat.mul_le_mul_left 6 hT.len) (by decide))
 have hPl:(aX ts).length≤LIM:=Nat.le_trans hP (by decide)
 refine cW [some (.str name),some (.str (aX ts)),none,none,none,none,none,none,none,none] rfl rfl rfl ?_
 refine And.intro (by decide) ?_
 conv=>whnf
 refine xn (l:=ts) (mS name (aX ts) w) (mJ ts name) (0,[0],none,none,none,none,none,none)
  ⟨rfl,hT.ok,⟨fun k hk=>List.mem_singleton.mp hk▸Nat.zero_le _,List.pairwise_singleton _ _,(by decide)⟩,(Bool.or_false _).symm⟩ (Nat.lt_of_le_of_lt hT.len (by decide)) rfl (fun x hx=>?_) fun t todo x hx2=>?_
 · obtain ⟨h1,_,h2,h3⟩:=hx
   refine And.intro hPl ?_
   refine ⟨yi (no_drop h1),?_⟩
   refine And.intro hxl ?_
   refine l_ini ?_
   exact (h3.trans (uk name x.2.1 h2.le))▸q
 · obtain ⟨k,pl,v4,v5,v6,v7,v8,v9⟩:=x
   obtain ⟨h1,h2,h3,h4⟩:=hx2
   have ht:=h2 t (.head _)
   have hd:(aX ts).drop k=t.rend++aX todo:=h1
   obtain ⟨rr,hr⟩:=t.rend_hd
   have a0:=gt (P:=aX ts) (k:=k) (c:=t.hd) (r:=rr++aX todo) (hd.trans (by rw [hr];rfl))
   have rest:∀ v7 v8 v9 (Q:Fl→St→Prop),(∀ (s:St),(∃ x,s=mS name (aX ts) w x∧mJ ts name todo x)→Q .nxt s) →
    dB.w (mSt name (aX ts) (some (.lst (pl.map bp))) (some (bp k)) (some (.str [t.hd])) (some (bp (k+t.rend.length))) (some (.int (t.cl k))) v7 v8 v9 w) Q:=fun v7 v8 v9 Q hQ =>
    l_rest (todo:=todo) ht hx hP hd h3 fun pl' v7 v8 v9 g1 g2=>hQ _ ⟨(_,pl',_,_,_,v7,v8,v9),rfl,gU hd,fun d hd=>h2 d (.tail _ hd),g1,h4.trans g2⟩
   refine And.intro hPl ?_
   refine ⟨iT a0.2.2,?_⟩
   refine eG (Nat.lt_of_lt_of_le a0.2.2 (Nat.le_trans hP (by decide))) a0.1 ?_
   conv=>whnf
   cases t with
   | star =>
    exact rest v7 v8 v9 _ fun b h=>h
   | q =>
    exact rest v7 v8 v9 _ fun b h=>h
   | sg c =>
    refine brf (lM L_lb (eW c ht).1) ?_
    exact rest v7 v8 v9 _ fun b h=>h
   | cls i =>
    refine l_close (k:=k) (rest:=aX todo) ht hP ((gU (a:=[91]) hd).trans (List.append_assoc ..)) ?_
    have e:k+1+(Tk.inner i).length+1=k+(Tk.cls i).rend.length:=by rw [Tk.rend,List.length_cons,List.length_append,Nat.add_assoc,Nat.add_assoc];exact congrArg (k+·) (Nat.add_comm 1 _)
    exact e▸rest v7 v8 v9 _ fun b h=>h
theorem L_sl:L "/" = [47]:=by decide +kernel
structure d8 (ps:List (List Nat)):Prop where
 ne:ps≠[]
 len:ps.length≤2
 ok:∀ p∈ps,IsPart p
structure nG (tss:List (List Tk)):Prop where
 ne:tss≠[]
 len:tss.length≤2
 ok:∀ ts∈tss,pQ ts
theorem rA:∀ c∈cJ,c<128∧c≠47:=by decide
theorem IsPart.name {p:List Nat} (h:IsPart p):gu p:=⟨Nat.le_trans h.1 (by decide),h.2⟩
theorem sx (c:Nat) (B:Nat):∀ l:List (List Nat),(∀ x∈l,x.length≤B)→(jn [c] l).length≤l.length * (B+1)
 | [],_=>Nat.zero_le _
 | [x],h=>Nat.le_trans (h x (.head _)) (Nat.le_trans (Nat.le_succ B) (Nat.le_of_eq (Nat.one_mul _).symm))
 | x::y::r,h=>by
  rw [jy,List.length_append,List.length_cons (as:=y::r),Nat.succ_mul,Nat.add_comm]
  exact Nat.le_trans (Nat.le_of_eq (Nat.add_assoc _ 1 _)) (Nat.add_le_add (sx c B (y::r) fun z hz=>h z (.tail _ hz)) (Nat.le_trans (Nat.le_of_eq (Nat.add_comm 1 _)) (Nat.succ_le_succ (h x (.head _)))))
theorem xR {c d:Nat}:∀ {l:List (List Nat)},d∈jn [c] l→d=c∨∃ x∈l,d∈x
 | [],h=>nomatch h
 | [x],h=>.inr ⟨x,.head _,h⟩
 | x::y::r,h=>(List.mem_append.mp (jy (c:=c) (x:=x)▸h)).elim (fun h=>.inr ⟨x,.head _,h⟩) fun h=>(List.mem_cons.mp h).elim .inl fun h=>(xR h).imp_right (Exists.imp fun a=>And.imp_left (.tail _))
def bd (ps:List (List Nat)):List Nat:=jn [47] ps
def eE (tss:List (List Tk)):List Nat:=jn [47] (tss.map aX)
theorem d8.path {ps:List (List Nat)} (h:d8 ps):ja (bd ps) :=
 ⟨Nat.le_trans (sx 47 3 ps fun p hp=>(h.ok p hp).1) (Nat.le_trans (Nat.mul_le_mul_right 4 h.len) (by decide)),uN fun c hc=>(xR hc).elim (fun e=>e▸(by decide)) fun e=>e.elim fun x e=>(rA c ((h.ok x e.1).2 c e.2)).1⟩
theorem d8.free {ps:List (List Nat)} (h:d8 ps):∀ p∈ps,47∉p:=fun p hp h2=>(rA 47 ((h.ok p hp).2 47 h2)).2 rfl
theorem pQ.rl {ts:List Tk} (h:pQ ts):(aX ts).length≤18:=Nat.le_trans (fz h.ok) (Nat.mul_le_mul_left 6 h.len)
theorem gO {α β:Type} {f:α→β} {l:List α} {P:β→Prop} (h:∀ a∈l,P (f a)):∀ b∈l.map f,P b:=fun c hb=>(List.mem_map.mp hb).elim fun a e=>e.2▸h a e.1
theorem nG.len' {tss:List (List Tk)} (h:nG tss):(eE tss).length≤1000 :=
 Nat.le_trans (sx 47 18 (tss.map aX) (gO fun ts hts=>(h.ok ts hts).rl)) (Nat.le_trans (Nat.mul_le_mul_right 19 (bt h.len)) (by decide))
theorem nG.free {tss:List (List Tk)} (h:nG tss):∀ p∈tss.map aX,47∉p:=gO fun ts hts h2=>(kJ (h.ok ts hts).ok 47 h2).2 rfl
theorem sq {K:V→Prop} {ps:List (List Nat)} (h:d8 ps) (q:K (.lst (ps.map .str))):lf (ef (.str (bd ps)) (.str (L "/"))) K :=
 L_sl▸oY h.ne h.free (Nat.le_trans h.path.len (by decide)) q
theorem l_pat {K:V→Prop} {tss:List (List Tk)} (h:nG tss) (q:K (.lst ((tss.map aX).map .str))):lf (ef (.str (eE tss)) (.str (L "/"))) K :=
 L_sl▸oY (fun e=>h.ne (List.map_eq_nil_iff.mp e)) h.free (Nat.le_trans h.len' (by decide)) q
noncomputable def jM:List (List Tk)→List (List Nat)→Bool
 | [],[]=>true
 | t::r,p::q=>b8 t p&&jM r q
 | _,_=>false
theorem rp:∀ {tss:List (List Tk)} {ps:List (List Nat)},tss.length=ps.length→jM tss ps=(tss.zip ps).all fun p=>b8 p.1 p.2
 | [],[],_=>rfl
 | t::r,p::q,h=>congrArg (b8 t p&&·) (rp (Nat.succ.inj h))
theorem pF:∀ {tss:List (List Tk)} {ps:List (List Nat)},tss.length≠ps.length→jM tss ps=false
 | [],[],h=>absurd rfl h
 | t::r,p::q,h=>(congrArg (b8 t p&&·) (pF fun e=>h (congrArg (· + 1) e))).trans (Bool.and_false _)
 | [],_::_,_=>rfl
 | _::_,[],_=>rfl
theorem all_map {α β:Type} (f:α→β) (p:β→Bool):∀ l:List α,(l.map f).all p=l.all fun a=>p (f a)
 | []=>rfl
 | a::l=>congrArg (p (f a)&&·) (all_map f p l)
theorem mW:∀ {tss:List (List Tk)} {ps:List (List Nat)},tss.length=ps.length→jM tss ps=(List.range ps.length).all fun k=>b8 (tss.getD k []) (ps.getD k [])
 | [],[],_=>rfl
 | t::r,p::q,h=>by
  rw [List.length_cons,List.range_succ_eq_map,List.all_cons,all_map]
  exact congrArg (b8 t p&&·) (mW (Nat.succ.inj h))
theorem qX {α:Type} {f:α→V} (g:α→Bool):∀ l:List α,((l.filter fun k=>!g k).map f).isEmpty=l.all g
 | []=>rfl
 | a::l=>by
  cases h:g a with
  | true=>rw [List.filter_cons_of_neg (by rw [h];exact Bool.false_ne_true),List.all_cons,h];exact qX g l
  | false=>rw [List.filter_cons_of_pos (by rw [h];rfl),List.all_cons,h];rfl
theorem e_nil {l:List V} {K:Bool→Prop} (h:K l.isEmpty):om (cop .Eq (.lst l) (.lst [])) K:=match l,h with
 | [],h=>h
 | _::_,h=>h
theorem yA {l:List V} {K:Bool→Prop} (h:K (!l.isEmpty)):om (cop .NotEq (.lst l) (.lst [])) K:=match l,h with
 | [],h=>h
 | _::_,h=>h
theorem gP {n:Nat} {l:List (List Nat)} (h:l.length≤n) (h2:n≤100000):(l.map V.str).length≤LIM:=Nat.le_trans (bt h) (Nat.le_trans h2 (by decide))
theorem uj {α β:Type} {a:List α} {b:List β} (h:((a.length:Int)==(b.length:Int))=true):a.length=b.length:=Int.ofNat_inj.mp (eq_of_beq h)
theorem tL {α β:Type} {a:List α} {b:List β} (h:((a.length:Int)==(b.length:Int))=false):a.length≠b.length:=fun e=>(beq_eq_false_iff_ne.mp h) (congrArg Int.ofNat e)
def cS (tss:List (List Tk)) (ps:List (List Nat)) (w:Wt) (x:Option V):St:=⟨[some (.str (eE tss)),some (.str (bd ps)),some (.lst ((tss.map aX).map .str)),some (.lst (ps.map .str)),none,x],w⟩
theorem xB {tss:List (List Tk)} {ps:List (List Nat)} (hT:nG tss) (hp:d8 ps) {w:Wt} {R:V×Wt→Prop} (q:R (.bool (jM tss ps),w)):lf (lT [.str (eE tss),.str (bd ps)] w) R:=by
 have l1:((tss.map aX).map V.str).length=tss.length:=(List.length_map _).trans (List.length_map _)
 have l2:(ps.map V.str).length=ps.length:=List.length_map _
 have h1:((tss.map aX).map V.str).length≤LIM:=gP (bt hT.len) (by decide)
 have h2:(ps.map V.str).length≤LIM:=gP hp.len (by decide)
 refine cW [some (.str (eE tss)),some (.str (bd ps)),none,none] rfl rfl rfl ?_
 refine l_pat hT ?_
 refine sq hp ?_
 refine And.intro (by decide:2≤LIM) ?_
 refine And.intro h1 ?_
 refine And.intro h2 ?_
 refine br (fun hb=>?_) fun hb=>?_
 · have hl:tss.length=ps.length:=l1.symm.trans ((uj hb).trans l2)
   refine And.intro h2 ?_
   refine And.intro (bD (Nat.lt_of_le_of_lt (bt hp.len) (by decide))) ?_
   rw [cg,l2]
   refine ⟨ju (lX ps.length) (Nat.le_trans hp.len (by decide)),?_⟩
   refine jx (f:=bp) (l:=List.range ps.length) (σ:=cS tss ps w) (fun k=>!b8 (tss.getD k []) (ps.getD k [])) bp none rfl rfl (fun x k hk=>?_) fun y=>?_
   · have hk1:=List.mem_range.mp hk
     have hk2:k<tss.length:=hl▸hk1
     have hT':tss[k]? = some (tss.getD k []):=by rw [List.getD,List.getElem?_eq_getElem hk2];rfl
     have hp':ps[k]? = some (ps.getD k []):=by rw [List.getD,List.getElem?_eq_getElem hk1];rfl
     have hb:k<1000000000:=Nat.lt_of_lt_of_le hk1 (Nat.le_trans hp.len (by decide))
     have ht:=hT.ok _ (List.mem_of_getElem? hT')
     refine dq (v:=.str (aX (tss.getD k []))) hb (by rw [List.getElem?_map,List.getElem?_map,hT'];rfl) ?_
     refine xo ht ?_
     refine dq (v:=.str (ps.getD k [])) hb (by rw [List.getElem?_map,hp'];rfl) ?_
     refine xz 4 (tss.getD k []) (ps.getD k []) _ rfl rfl (Nat.lt_of_le_of_lt ht.len (by decide)) ht.len ht.ok (hp.ok _ (List.mem_of_getElem? hp')).name ?_
     refine ⟨rfl,?_⟩
     refine br (fun a=>?_) fun a=>?_
     · exact ⟨rfl,_,rfl⟩
     · exact ⟨_,rfl⟩
   · refine And.intro (by decide) ?_
     refine e_nil ?_
     exact ((qX _ _).trans (mW hl).symm).symm▸q
 · exact ((pF fun e=>tL hb (l1.trans (e.trans l2.symm))).trans hb.symm)▸q
def zS (tss:List (List Tk)) (ps:List (List Nat)) (w:Wt) (x:Option V×Option V):St:=⟨[some (.str (bd ps)),some (.str (eE tss)),some (.lst (ps.map .str)),some (.lst ((tss.map aX).map .str)),x.1,x.2],w⟩
theorem vU:∀ (a:List (List Tk)) (b:List (List Nat)),rH (b.map V.str) ((a.map aX).map V.str)=(a.zip b).map fun p=>V.tup [.str p.2,.str (aX p.1)]
 | [],[]=>rfl
 | [],_::_=>rfl
 | _::_,[]=>rfl
 | x::a,y::b=>congrArg (V.tup [.str y,.str (aX x)]::·) (vU a b)
theorem l_inpat {tss:List (List Tk)} {ps:List (List Nat)} (hT:nG tss) (hp:d8 ps) {w:Wt} {R:V×Wt→Prop} (q:R (.bool (jM tss ps),w)):lf (oG [.str (bd ps),.str (eE tss)] w) R:=by
 have l1:((tss.map aX).map V.str).length=tss.length:=(List.length_map _).trans (List.length_map _)
 have l2:(ps.map V.str).length=ps.length:=List.length_map _
 have h1:((tss.map aX).map V.str).length≤LIM:=gP (bt hT.len) (by decide)
 have h2:(ps.map V.str).length≤LIM:=gP hp.len (by decide)
 refine cW [some (.str (bd ps)),some (.str (eE tss)),none,none,none,none] rfl rfl rfl ?_
 refine sq hp ?_
 refine l_pat hT ?_
 refine And.intro h2 ?_
 refine And.intro h1 ?_
 refine br (fun hb=>?_) fun hb=>?_
 · exact (pF fun e=>tL (kK hb) (l2.trans (e.symm.trans l1.symm)))▸q
 have hl:tss.length=ps.length:=l1.symm.trans ((uj (kL hb)).symm.trans l2)
 conv=>whnf
 refine gQ (f:=fun p:List Tk×List Nat=>V.tup [.str p.2,.str (aX p.1)]) (l:=tss.zip ps) (zS tss ps w) (fun rs a=>(∀ p∈rs,pQ p.1∧gu p.2)∧jM tss ps=rs.all fun p=>b8 p.1 p.2) (none,none)
  ⟨fun p hp'=>have h:=List.of_mem_zip hp';⟨hT.ok _ h.1,(hp.ok _ h.2).name⟩,rp hl⟩ (vU tss ps) rfl (fun p rs x hx=>?_) fun x hx=>?_
 · have h0:=hx.1 p (.head _)
   refine l_match h0.1 h0.2 rfl rfl ?_
   refine br (fun hb=>?_) fun hb=>?_
   · exact (hx.2.trans (by rw [List.all_cons,kK hb,Bool.false_and]))▸q
   · exact ⟨(_,_),rfl,fun p hp=>hx.1 p (.tail _ hp),hx.2.trans (by rw [List.all_cons,kL hb,Bool.true_and])⟩
 · exact (show jM tss ps=true from hx.2)▸q
noncomputable def hxd:Nat→Nat→List Nat
 | 0,_=>[]
 | L+1,n=>hxd L (n / 16)++[eo.getD (n % 16) 0]
theorem cR:∀ L n,(hxd L n).length=L
 | 0,_=>rfl
 | L+1,n=>List.length_append.trans (congrArg (· + 1) (cR L _))
theorem jB:∀ (L n:Nat),hxd (L+1) n=eo.getD (n / 16 ^ L % 16) 0::hxd L n
 | 0,n=>by show [eo.getD (n % 16) 0]=_;rw [Nat.pow_zero,Nat.div_one];rfl
 | L+1,n=>(congrArg (·++_) (jB L (n / 16))).trans (by rw [Nat.div_div_eq_div_mul,← Nat.pow_succ'];rfl)
theorem tW:∀ (L n:Nat),∀ c∈hxd L n,c∈eo
 | 0,_,_,h=>nomatch h
 | L+1,n,c,h=>(List.mem_append.mp h).elim (tW L _ c) fun h=>List.mem_singleton.mp h▸List.mem_of_getElem? (o8 (Nat.mod_lt _ (by decide)))
def hS (n M:Nat) (w:Wt) (j:Nat):St:=⟨[some (.int ((n / 16 ^ j:Nat):Int)),some (.int M),some (.str (hxd j n))],w⟩
theorem hS_succ {n M j:Nat} {w:Wt}:(⟨[some (.int (((n / 16 ^ j:Nat):Int).fdiv 16)),some (.int M),some (.str ([eo.getD (n / 16 ^ j % 16) 0]++hxd j n))],w⟩:St)=hS n M w (j+1):=by
 unfold hS
 rw [jB,Nat.pow_succ,← Nat.div_div_eq_div_mul,show ((n / 16 ^ j:Nat):Int).fdiv 16=((n / 16 ^ j / 16:Nat):Int) from fE _ 16];rfl
theorem l_hexn {n M:Nat} (hn:n<16 ^ M) (hM:M≤10) {w:Wt} {R:V×Wt→Prop} (q:R (.str (hxd M n),w)):lf (nL [.int n,.int M] w) R:=by
 refine cW [some (.int n),some (.int M),none] rfl rfl rfl ?_
 refine xn (l:=List.range M) (hS n M w) (fun l j=>j+l.length=M) 0 ((Nat.zero_add _).trans List.length_range) (Nat.lt_of_le_of_lt (Nat.le_trans (Nat.le_of_eq List.length_range) hM) (by decide)) (by unfold hS;rw [j5,Nat.pow_zero,Nat.div_one];rfl) (fun j hj=>?_) fun a l j hj=>?_
 · have e:j=M:=hj
   subst e
   have h0:n / 16 ^ j=0:=Nat.div_eq_of_lt hn
   refine brf (decide_eq_false (Int.not_lt.mpr (Int.ofNat_le.mpr (Nat.le_of_eq h0)))) ?_
   refine And.intro (Nat.le_trans (Nat.le_of_eq (cR j n)) (Nat.le_trans hM (by decide))) ?_
   refine ⟨yi (Nat.le_of_eq (cR j n).symm),?_⟩
   exact q
 · have hlt:j<M:=Nat.lt_of_lt_of_eq (Nat.lt_add_of_pos_right (Nat.succ_pos l.length)) hj
   have hlen:(hxd j n).length≤10:=Nat.le_trans (Nat.le_of_eq (cR j n)) (Nat.le_trans (Nat.le_of_lt hlt) hM)
   have body:∀ Q:Fl→St→Prop,(∀ s,(∃ y,s=hS n M w y∧y+l.length=M)→Q .nxt s)→(ac (ae 2 (aI .Add (bT (ck (.str (L "0123456789abcdef"))) (aI .Mod (aa 0) (ck (.int 16)))) (aa 2))) (ac (ae 0 (aI .FloorDiv (aa 0) (ck (.int 16)))) ag)).w (hS n M w j) Q:=fun Q hQ=>by
    refine And.intro (by decide) ?_
    refine qN (ik _ 16) (Nat.mod_lt _ (by decide)) ?_
    refine And.intro (Nat.le_trans (Nat.add_le_add_left hlen 1) (by decide)) ?_
    refine And.intro ⟨by decide,rfl⟩ ?_
    exact hQ _ ⟨j+1,hS_succ,(Nat.succ_add_eq_add_succ j l.length).trans hj⟩
   refine br (fun b=>⟨rfl,body _ fun b h=>h⟩) fun b=>?_
   refine And.intro (Nat.le_trans hlen (by decide)) ?_
   exact ⟨iT (Nat.lt_of_le_of_lt (Nat.le_of_eq (cR j n)) hlt),body _ fun b h=>h⟩
noncomputable def aT (bits:Nat):Nat:=(bits+3) / 4
theorem yc (w:Wt):[1,2,3,4,5,6,7,8,9].map (fun b:Nat=>nL [.int ((2:Int) ^ b - 1),.int 1] w)=[1,2,3,4,5,6,7,8,9].map fun b=>some (.str (hxd (aT b) (2 ^ b - 1)),w):=by kernel_rfl
theorem xd {b:Nat} (h1:1≤b) (h9:b≤9):b∈[1,2,3,4,5,6,7,8,9]:=by
 have:∀ b<10,1≤b→b∈[1,2,3,4,5,6,7,8,9]:=by decide
 exact this b (Nat.lt_succ_of_le h9) h1
theorem l_hexb {b:Nat} (h1:1≤b) (h9:b≤9) {w:Wt} {R:V×Wt→Prop} (q:R (.str (hxd (aT b) (2 ^ b - 1)),w)):lf (nL [.int ((2:Int) ^ b - 1),.int 1] w) R:=cD ((List.map_inj_left.mp (yc w) b (xd h1 h9)).symm▸q:om _ R)
theorem cI {o:Option V} {u:V} {K:V→Prop} (e:o=some u) (h:kM u=true) (k:K u):om o fun u=>kM u=true∧K u:=e▸⟨h,k⟩
theorem qM {sp:Sp} {C:Addr} {si:SpI} {vs:List V} {w:Wt} {R:V×Wt→Prop} (e:sp=qE C si) (h:Ok2 (si [] vs w) fun f w=>R (.obj C f,w)):lf (sp vs w) R:=e▸oX (mk_ok (Q:=fun v w=>R (v,w)) h) fun a a h=>h
theorem wl (ss:List (List Nat)):(ss.map V.str).all cK=true:=List.all_eq_true.mpr fun a h=>(List.mem_map.mp h).elim fun a e=>e.2▸rfl
noncomputable abbrev fRole (l:List V):List (Str×V):=[("keyids",.lst l),("threshold",.int 1),("unrecognized_fields",.dct [])]
noncomputable def sG (keys:V) (name:List Nat) (term:Bool) (paths php:V):List (Str×V):=[("keyids",keys),("threshold",.int 1),("unrecognized_fields",.dct []),("name",.str name),("terminating",.bool term),("paths",paths),("path_hash_prefixes",php)]
theorem wI {l:List V} (hl:l.length≤1) (hs:l.all cK=true) {w:Wt} {Q:List (Str×V)→Wt→Prop} (q:Q (fRole l) w):Ok2 (oM [] [.lst l,.int 1,.none] w) Q:=by
 refine jA [some (.mi ad0.cDel []),some (.lst l),some (.int 1),some .none] rfl rfl ?_
 refine And.intro ⟨hl,hs⟩ ?_
 refine And.intro (Nat.le_trans hl (by decide)) ?_
 refine brf (congrArg (!·) (beq_self_eq_true _)) ?_
 refine And.intro ⟨rfl,rfl,by decide⟩ ?_
 refine And.intro ⟨rfl,by kernel_rfl,(by decide:1≤50)⟩ ?_
 refine And.intro ⟨rfl,by kernel_rfl,(by decide:2≤50)⟩ ?_
 exact ⟨rfl,q⟩
noncomputable def OneOf (a b:V):Prop:=(∃ ss:List (List Nat),a=.lst (ss.map .str)∧b=.none)∨(∃ ss:List (List Nat),b=.lst (ss.map .str)∧a=.none)
theorem l_del {l:List V} (hl:l.length≤1) (hs:l.all cK=true) {name:List Nat} {term:Bool} {a b:V} (h:OneOf a b) {w:Wt} {R:V×Wt→Prop} (q:R (.obj ad0.cDel (sG (.lst l) name term a b),w)) :
 lf (tw [.str name,.lst l,.int 1,.bool term,a,b] w) R:=by
 refine qM rfl (mx (us:=[.lst l,.int 1,.none]) rfl (by decide) rfl (wI hl hs ?_))
 rcases h with ⟨ss,rfl,rfl⟩ | ⟨ss,rfl,rfl⟩
 all_goals
  refine And.intro ⟨rfl,by kernel_rfl,(by decide:3≤50)⟩ ?_
  refine And.intro ⟨rfl,by kernel_rfl,(by decide:4≤50)⟩ ?_
  refine And.intro (by decide:2≤LIM) ?_
  refine And.intro ⟨rfl,(by decide:2≤1000)⟩ ?_
  refine And.intro (wl ss) ?_
  refine And.intro ⟨rfl,by kernel_rfl,(by decide:5≤50)⟩ ?_
  refine And.intro ⟨rfl,by kernel_rfl,(by decide:6≤50)⟩ ?_
  exact ⟨rfl,q⟩
theorem wH {l:List V} (hl:l.length≤1) (hs:l.all cK=true) {w:Wt} {Q:List (Str×V)→Wt→Prop} (q:Q (fRole l) w):Ok2 (oL [] [.lst l,.int 1,.none] w) Q:=by
 refine jA [some (.mi ad0.cSuc []),some (.lst l),some (.int 1),some .none] rfl rfl ?_
 refine And.intro ⟨hl,hs⟩ ?_
 refine And.intro (Nat.le_trans hl (by decide)) ?_
 refine brf (congrArg (!·) (beq_self_eq_true _)) ?_
 refine And.intro ⟨rfl,rfl,by decide⟩ ?_
 refine And.intro ⟨rfl,by kernel_rfl,(by decide:1≤50)⟩ ?_
 refine And.intro ⟨rfl,by kernel_rfl,(by decide:2≤50)⟩ ?_
 exact ⟨rfl,q⟩
def fSuc (bits:Nat) (ahead:List Nat) (n:Nat):List (Str×V):=[("keyids",.lst [.str (L "k")]),("threshold",.int 1),("unrecognized_fields",.dct []),("bit_length",.int bits),("name_prefix",.str ahead),("number_of_bins",.int ((2:Int) ^ bits)),("suffix_len",.int n)]
def ek (bits:Nat) (ahead:List Nat):V:=.obj ad0.cSuc (fSuc bits ahead (aT bits))
theorem eu {b:Nat} (h:b≤9):aT b≤3:=(by decide:∀ b<10,aT b≤3) b (Nat.lt_succ_of_le h)
theorem l_suc {bits:Nat} (h1:1≤bits) (h9:bits≤9) {ahead:List Nat} {w:Wt} {R:V×Wt→Prop} (q:R (ek bits ahead,w)):lf (wq [.lst [.str (L "k")],.int 1,.int bits,.str ahead] w) R:=by
 refine qM rfl (mx (us:=[.lst [.str (L "k")],.int 1,.none]) rfl (by decide) rfl (wH (by decide) rfl ?_))
 refine brf (decide_eq_false (Int.not_le.mpr (Int.ofNat_lt.mpr h1))) ?_
 refine brf (decide_eq_false (Int.not_lt.mpr (Int.ofNat_le.mpr (Nat.le_trans h9 (by decide:9≤32))))) ?_
 refine And.intro rfl ?_
 refine And.intro ⟨rfl,by kernel_rfl,(by decide:3≤50)⟩ ?_
 refine And.intro ⟨rfl,by kernel_rfl,(by decide:4≤50)⟩ ?_
 refine And.intro ⟨rfl,Int.natCast_nonneg _,Int.ofNat_le.mpr (Nat.le_trans h9 (by decide))⟩ ?_
 refine And.intro ⟨rfl,by kernel_rfl,(by decide:5≤50)⟩ ?_
 conv=>whnf
 refine ⟨rfl,cI (u:=.int ((2:Int) ^ bits)) (by kernel_rfl) rfl ?_⟩
 refine l_hexb h1 h9 ?_
 have e:=cR (aT bits) (2 ^ bits - 1)
 refine And.intro (Nat.le_trans (Nat.le_of_eq e) (Nat.le_trans (eu h9) (by decide))) ?_
 refine And.intro ⟨rfl,by kernel_rfl,(by decide:6≤50)⟩ ?_
 exact ⟨rfl,(show R (.obj ad0.cSuc (fSuc bits ahead (hxd (aT bits) (2 ^ bits - 1)).length),w) from e.symm▸q)⟩
theorem L_10:L "1.0" = jn [46] [[49],[48]]:=by decide +kernel
theorem L_dot:L "." = [46]:=by decide +kernel
theorem dig10:([[49],[48]].map V.str).all po=true:=by kernel_rfl
abbrev fSig:List (Str×V):=[("spec_version",.str (L "1.0")),("expires",.int 9),("version",.int 1),("unrecognized_fields",.dct [])]
def sF (dlg:V):List (Str×V):=[("spec_version",.str (L "1.0")),("expires",.int 9),("version",.int 1),("unrecognized_fields",.dct []),("targets",.dct []),("delegations",dlg)]
theorem sig_ok {w:Wt} {Q:List (Str×V)→Wt→Prop} (q:Q fSig w):Ok2 (wx [] [.int 1,.str (L "1.0"),.int 9,.none] w) Q:=by
 refine jA [some (.mi ad0.cTar []),some (.int 1),some (.str (L "1.0")),some (.int 9),some .none,none] rfl rfl ?_
 conv=>whnf
 have hs:∀ {K:V→Prop},K (.lst ([[49],[48]].map V.str))→lf (ef (.str (L "1.0")) (.str (L "."))) K:=fun q=>L_10▸L_dot▸oY (by decide) (by decide) (by decide) q
 refine hs ?_
 refine And.intro (by decide:2≤LIM) ?_
 refine And.intro (by decide:2≤LIM) ?_
 refine cD ?_
 refine And.intro rfl ?_
 refine brf (congrArg (!·) dig10) ?_
 refine dq (k:=0) (v:=.str [49]) (by decide) rfl ?_
 refine dq (k:=0) (v:=.str (L "1")) (by decide) rfl ?_
 refine And.intro ⟨rfl,rfl,by decide⟩ ?_
 refine And.intro ⟨rfl,by kernel_rfl,(by decide:1≤50)⟩ ?_
 refine And.intro ⟨rfl,by kernel_rfl,(by decide:2≤50)⟩ ?_
 refine And.intro ⟨rfl,by kernel_rfl,(by decide:3≤50)⟩ ?_
 exact ⟨rfl,q⟩
theorem l_tar {c:Addr} {f:List (Str×V)} {w:Wt} {R:V×Wt→Prop} (q:R (.obj ad0.cTar (sF (.obj c f)),w)):lf (tv [.int 1,.str (L "1.0"),.int 9,.dct [],.obj c f] w) R:=by
 refine qM rfl (mx (us:=[.int 1,.str (L "1.0"),.int 9,.none]) rfl (by decide) rfl (sig_ok ?_))
 refine And.intro ⟨rfl,by kernel_rfl,(by decide:4≤50)⟩ ?_
 refine And.intro ⟨rfl,by kernel_rfl,(by decide:5≤50)⟩ ?_
 exact ⟨rfl,q⟩
def wh:List (List Nat):=[L "root",L "timestamp",L "snapshot",L "targets"]
def jC (x:List Nat):Bool:=!x.isEmpty&&!wh.any (·==x)
theorem l_int {a:List Nat} {l:List (List Nat)} {K:Bool→Prop} (h:K (l.any (·==a))):lf (cop .In (.str a) (.tup (l.map .str))) K :=
 cD (by show om ((((dm (l.map V.str)).map fun ss=>ss.any (·==a)))) K;rw [eB];exact h)
noncomputable def lg (roles suc:V):List (Str×V):=[("keys",.dct []),("roles",roles),("succinct_roles",suc),("unrecognized_fields",.dct [])]
theorem xA {c:Addr} {f:List (Str×V)} {w:Wt} {R:V×Wt→Prop} (q:R (.obj ad0.cDlg (lg .none (.obj c f)),w)):lf (oJ [.dct [],.none,.obj c f] w) R:=by
 refine qM rfl (jA [some (.mi ad0.cDlg []),some (.dct []),some .none,some (.obj c f),some .none,none] rfl rfl ?_)
 refine And.intro ⟨rfl,rfl,by decide⟩ ?_
 refine And.intro (by decide:2≤LIM) ?_
 refine And.intro ⟨rfl,(by decide:2≤1000)⟩ ?_
 refine And.intro ⟨rfl,by kernel_rfl,(by decide:1≤50)⟩ ?_
 refine And.intro ⟨rfl,by kernel_rfl,(by decide:2≤50)⟩ ?_
 refine And.intro ⟨rfl,by kernel_rfl,(by decide:3≤50)⟩ ?_
 exact ⟨rfl,q⟩
theorem yd {x:List Nat} (h:jC x=true):(!x.isEmpty)=true∧wh.any (·==x)=false:=(Bool.and_eq_true_iff.mp h).imp_right kK
def dlS (l:KV) (w:Wt) (x:Option V):St:=⟨[some (.mi ad0.cDlg [("keys",.dct [])]),some (.dct []),some (.dct l),some .none,some .none,x],w⟩
theorem l_dlg2 {l:KV} (hn:bF l=true) (hg:∀ x∈l,jC x.1=true∧x.1.length≤1000) {w:Wt} {R:V×Wt→Prop} (q:R (.obj ad0.cDlg (lg (.dct l) .none),w)):lf (rS [.dct [],.dct l] w) R:=by
 refine qM rfl (jA [some (.mi ad0.cDlg []),some (.dct []),some (.dct l),some .none,some .none,none] rfl rfl ?_)
 refine And.intro ⟨rfl,rfl,by decide⟩ ?_
 refine And.intro (by decide:2≤LIM) ?_
 refine And.intro ⟨rfl,(by decide:2≤1000)⟩ ?_
 refine And.intro hn ?_
 refine gQ (f:=fun x:List Nat×V=>V.str x.1) (l:=l) (dlS l w) (fun r a=>∀ x∈r,jC x.1=true∧x.1.length≤1000) none hg rfl rfl (fun x r y hx=>?_) fun y a=>?_
 · have g:=hx x (.head _)
   have g2:=yd g.1
   refine And.intro (Nat.le_trans g.2 (by decide)) ?_
   refine brf (congrArg (!·) g2.1) ?_
   refine l_int (l:=wh) ?_
   refine brf g2.2 ?_
   exact ⟨_,rfl,fun x h=>hx x (.tail _ h)⟩
 · refine And.intro ⟨rfl,by kernel_rfl,(by decide:1≤50)⟩ ?_
   refine And.intro ⟨rfl,by kernel_rfl,(by decide:2≤50)⟩ ?_
   refine And.intro ⟨rfl,by kernel_rfl,(by decide:3≤50)⟩ ?_
   exact ⟨rfl,q⟩
theorem l_dlgU {l:KV} (hn:bF l=true) (hg:∀ x∈l,x.1.length≤1000) {w:Wt} {R:Option V×Wt→Prop} (q1:(l.all fun x=>jC x.1)=true→∀ v,R (some v,w)) (q2:(l.all fun x=>jC x.1)=false→R (none,w)):lf (qk [.dct [],.dct l] w) R:=by
 refine oX (mk_okU (Q:=fun v w=>R (v,w)) (xY [some (.mi ad0.cDlg []),some (.dct []),some (.dct l),some .none,some .none,none] rfl rfl ?_)) fun a a h=>h
 refine And.intro ⟨rfl,rfl,by decide⟩ ?_
 refine And.intro (by decide:2≤LIM) ?_
 refine And.intro ⟨rfl,(by decide:2≤1000)⟩ ?_
 refine And.intro hn ?_
 refine tR (f:=fun x:List Nat×V=>V.str x.1) (l:=l) (dlS l w) (fun r a=>(∀ x∈r,x.1.length≤1000)∧(l.all fun x=>jC x.1)=r.all fun x=>jC x.1) none ⟨hg,rfl⟩ rfl rfl (fun x r y hx=>?_) fun y hx=>?_
 · have no:jC x.1=false→(l.all fun x=>jC x.1)=false:=fun e=>hx.2.trans (by rw [List.all_cons,e,Bool.false_and])
   have hgd:jC x.1=(!x.1.isEmpty&&!wh.any (·==x.1)):=rfl
   refine And.intro (Nat.le_trans (hx.1 x (.head _)) (by decide)) ?_
   refine br (fun hb=>?_) fun hb=>?_
   · refine And.intro (by decide) ?_
     exact q2 (no (hgd.trans (by rw [kK hb,Bool.false_and])))
   · refine l_int (l:=wh) ?_
     refine br (fun hc=>?_) fun hc=>?_
     · refine And.intro (by decide) ?_
       exact q2 (no (hgd.trans (by rw [hc,Bool.and_comm];rfl)))
     · exact ⟨_,rfl,fun x h=>hx.1 x (.tail _ h),hx.2.trans (by rw [List.all_cons,hgd,kL hb,hc];rfl)⟩
 · refine And.intro ⟨rfl,by kernel_rfl,(by decide:1≤50)⟩ ?_
   refine And.intro ⟨rfl,by kernel_rfl,(by decide:2≤50)⟩ ?_
   refine And.intro ⟨rfl,by kernel_rfl,(by decide:3≤50)⟩ ?_
   exact ⟨rfl,q1 hx.2 _⟩
inductive cC where
 | pats (l:List (List (List Tk)))
 | pre (l:List (List Nat))
def cC.a:cC→V
 | .pats l=>.lst ((l.map eE).map .str)
 | .pre _=>.none
noncomputable def cC.b:cC→V
 | .pats _=>.none
 | .pre l=>.lst (l.map .str)
noncomputable def cC.Ok:cC→Prop
 | .pats l=>l.length≤2∧∀ p∈l,nG p
 | .pre l=>l.length≤2∧∀ p∈l,p.length≤100
def cC.hit (ps:List (List Nat)):cC→Bool
 | .pats l=>l.any fun p=>jM p ps
 | .pre l=>l.any fun p=>(dg (bd ps)).take p.length==p
theorem cC.one:∀ h:cC,OneOf h.a h.b
 | .pats l=>.inl ⟨l.map eE,rfl,rfl⟩
 | .pre l=>.inr ⟨l,rfl,rfl⟩
structure Rl where
 name:List Nat
 term:Bool
 h:cC
def kNm (name:List Nat):List Nat:=L "k" ++ name
def Rl.obj (r:Rl):V:=.obj ad0.cDel (sG (.lst [.str (kNm r.name)]) r.name r.term r.h.a r.h.b)
section
variable {α:Type} {p:α→Bool} {a:α} {l:List α} {b:Bool}
theorem anyT (h:b=(a::l).any p) (e:p a=true):b=true:=h.trans (by rw [List.any_cons,e];rfl)
theorem anyF (h:b=(a::l).any p) (e:p a=false):b=l.any p:=h.trans (by rw [List.any_cons,e];rfl)
end
def ipS (keys:V) (name:List Nat) (term:Bool) (h:cC) (ps:List (List Nat)) (w:Wt) (x y z:Option V):St:=⟨[some (.obj ad0.cDel (sG keys name term h.a h.b)),some (.str (bd ps)),some (.adr ad0.a_law_digest),x,y,z],w⟩
theorem l_isdp {keys:V} {name:List Nat} {term:Bool}:∀ {h:cC},h.Ok→∀ {ps:List (List Nat)},d8 ps→∀ {w:Wt} {R:V×Wt→Prop},R (.bool (h.hit ps),w) →
 lf (rQ [.obj ad0.cDel (sG keys name term h.a h.b),.str (bd ps),.adr ad0.a_law_digest] w) R
 | .pats l,hh,ps,hp,w,R,q=>by
  refine cW [some (.obj ad0.cDel (sG keys name term (cC.pats l).a (cC.pats l).b)),some (.str (bd ps)),some (.adr ad0.a_law_digest),none,none,none] rfl rfl rfl ?_
  conv=>whnf
  refine ⟨rfl,cI (u:=.none) (by kernel_rfl) rfl ?_⟩
  conv=>whnf
  refine ⟨rfl,cI (u:=(cC.pats l).a) (by kernel_rfl) rfl ?_⟩
  conv=>whnf
  refine ⟨rfl,cI (u:=(cC.pats l).a) (by kernel_rfl) rfl ?_⟩
  refine gQ (f:=fun p=>V.str (eE p)) (l:=l) (fun x=>ipS keys name term (.pats l) ps w none none x) (fun r c=>(∀ p∈r,nG p)∧(cC.pats l).hit ps=r.any fun p=>jM p ps) none ⟨hh.2,rfl⟩ (List.map_map ..) rfl (fun p r x hx=>?_) fun x hx=>?_
  · refine And.intro ⟨rfl,by kernel_rfl⟩ ?_
    refine l_inpat (hx.1 p (.head _)) hp ?_
    refine br (fun hb=>?_) fun hb=>?_
    · exact anyT (p:=fun p=>jM p ps) hx.2 hb▸q
    · exact ⟨_,rfl,fun p h=>hx.1 p (.tail _ h),anyF (p:=fun p=>jM p ps) hx.2 hb⟩
  · exact (show (cC.pats l).hit ps=false from hx.2)▸q
 | .pre l,hh,ps,hp,w,R,q=>by
  refine cW [some (.obj ad0.cDel (sG keys name term (cC.pre l).a (cC.pre l).b)),some (.str (bd ps)),some (.adr ad0.a_law_digest),none,none,none] rfl rfl rfl ?_
  conv=>whnf
  refine ⟨rfl,cI (u:=(cC.pre l).b) (by kernel_rfl) rfl ?_⟩
  refine And.intro rfl ?_
  refine qO hp.path ?_
  refine gR hp.path.len ?_
  conv=>whnf
  refine ⟨rfl,cI (u:=(cC.pre l).b) (by kernel_rfl) rfl ?_⟩
  refine gQ (f:=V.str) (l:=l) (fun x=>ipS keys name term (.pre l) ps w (some (.str (dg (bd ps)))) x none) (fun r c=>(cC.pre l).hit ps=r.any fun p=>(dg (bd ps)).take p.length==p) none rfl rfl rfl (fun p r x hx=>?_) fun x hx=>?_
  · refine qK ?_
    refine br (fun hb=>?_) fun hb=>?_
    · exact anyT (p:=fun p=>(dg (bd ps)).take p.length==p) hx hb▸q
    · exact ⟨_,rfl,anyF (p:=fun p=>(dg (bd ps)).take p.length==p) hx hb⟩
  · exact (show (cC.pre l).hit ps=false from hx)▸q
theorem nZ:∀ (l:List Nat) (a:Nat),(∀ c∈l,fY c<16)→l.foldl (fun a c=>a * 16+fY c) a<(a+1) * 16 ^ l.length
 | [],a,_=>Nat.lt_of_lt_of_eq (Nat.lt_succ_self a) (Nat.mul_one _).symm
 | c::l,a,h=>by
  rw [List.foldl_cons,List.length_cons,Nat.pow_succ',← Nat.mul_assoc]
  exact Nat.lt_of_lt_of_le (nZ l (a * 16+fY c) fun d hd=>h d (.tail _ hd)) (Nat.mul_le_mul_right _ (Nat.le_trans (Nat.add_le_add_left (h c (.head _)) (a * 16)) (Nat.le_of_eq (Nat.succ_mul a 16).symm)))
theorem sB:∀ c∈eo,fY c<16∧aZ c=true:=by decide
theorem vn {l:List Nat} (h:∀ c∈l,c∈eo):bq l<16 ^ l.length:=Nat.lt_of_lt_of_eq (nZ l 0 fun c hc=>(sB c (h c hc)).1) (Nat.one_mul _)
theorem kS (l:List Nat) (c:Nat):bq (l++[c])=bq l * 16+fY c:=List.foldl_append
theorem vm:∀ k<16,fY (eo.getD k 0)=k:=by decide
theorem mD:∀ (M n:Nat),bq (hxd M n)=n % 16 ^ M
 | 0,n=>(Nat.mod_one n).symm
 | M+1,n=>by
  show bq (hxd M (n / 16)++[eo.getD (n % 16) 0])=_
  rw [kS,mD M,vm _ (Nat.mod_lt _ (by decide)),Nat.pow_succ',Nat.mod_mul,Nat.add_comm,Nat.mul_comm]
def iO (bits:Nat) (path:List Nat):Nat:=bq ((dg path).take 8) / 2 ^ (32 - bits)
def aY (bits:Nat) (path:List Nat):List Nat:=hxd (aT bits) (iO bits path)
theorem wj (path:List Nat):((dg path).take 8).length=8:=by rw [List.length_take,mL];rfl
theorem hex8 (path:List Nat):∀ c∈(dg path).take 8,c∈eo:=fun c hc=>dg_mem path c (List.mem_of_mem_take hc)
theorem num8 (path:List Nat):bq ((dg path).take 8)<2 ^ 32:=Nat.lt_of_lt_of_eq (vn (hex8 path)) ((congrArg (16 ^ ·) (wj path)).trans (by decide))
theorem rv {bits:Nat} (h9:bits≤9) (path:List Nat):iO bits path<2 ^ bits :=
 (Nat.div_lt_iff_lt_mul (Nat.pow_pos (by decide))).mpr (Nat.lt_of_lt_of_eq (num8 path) (by rw [← Nat.pow_add,Nat.add_sub_cancel' (Nat.le_trans h9 (by decide))]))
theorem pow_bin {bits:Nat} (h9:bits≤9):2 ^ bits≤16 ^ aT bits:=(by decide:∀ b<10,2 ^ b≤16 ^ aT b) bits (Nat.lt_succ_of_le h9)
theorem zP {bits:Nat} (h9:bits≤9) (path:List Nat):iO bits path<16 ^ aT bits:=Nat.lt_of_lt_of_le (rv h9 path) (pow_bin h9)
theorem bits_lt {a b:Nat} (hb:Builtin.Int.intBits (a:Int)≤b):a<2 ^ b:=by
 cases a with
 | zero=>exact Nat.pow_pos (by decide)
 | succ a=>exact (Nat.log2_lt (Nat.succ_ne_zero a)).mp hb
theorem l_shr {K:Int→Prop} {a b:Nat} (q:K ((a / 2 ^ b:Nat):Int)):lf (shrI (a:Int) (b:Int)) K:=by
 have e:(if (b:Int)≥(Builtin.Int.intBits (a:Int):Nat) then (0:Int) else (a:Int).fdiv (2 ^ (b:Int).toNat))=((a / 2 ^ b:Nat):Int):=by
  split
  · rename_i h;rw [Nat.div_eq_of_lt (bits_lt (Int.ofNat_le.mp h))];rfl
  · rw [show (2:Int) ^ (b:Int).toNat=((2 ^ b:Nat):Int) from (Int.natCast_pow 2 b).symm,fE]
 exact cD (aO (x:=some (if (b:Int)≥(Builtin.Int.intBits (a:Int):Nat) then (0:Int) else (a:Int).fdiv (2 ^ (b:Int).toNat))) ⟨⟨Int.natCast_nonneg _,Int.natCast_nonneg _⟩,e.symm▸q⟩)
theorem pT:L "-" = [45]:=by decide +kernel
def gq (bits:Nat) (ahead path:List Nat):List Nat:=ahead++L "-" ++ aY bits path
theorem l_grft {bits:Nat} (h1:1≤bits) (h9:bits≤9) {ahead:List Nat} (ha:ahead.length≤100) {path:List Nat} (hp:ja path) {w:Wt} {R:V×Wt→Prop} (q:R (.str (gq bits ahead path),w)) :
 lf (rR [ek bits ahead,.str path,.adr ad0.a_law_digest] w) R:=by
 refine cW [some (ek bits ahead),some (.str path),some (.adr ad0.a_law_digest),none,none,none,none] rfl rfl rfl ?_
 refine And.intro rfl ?_
 refine qO hp ?_
 refine gR hp.len ?_
 refine And.intro (ju (mL path) (by decide)) ?_
 conv=>whnf
 refine ⟨rfl,cI (u:=.int bits) (by kernel_rfl) rfl ?_⟩
 have e8:slc none (some (8:Int)) (dg path)=(dg path).take 8:=fc (dg path) 8
 conv=>whnf
 rw [e8]
 refine ⟨⟨fun h=>(nomatch (wj path).symm.trans (congrArg List.length h)),Nat.le_trans (Nat.le_of_eq (wj path)) (by decide),List.all_eq_true.mpr fun c hc=>(sB c (hex8 path c hc)).2⟩,?_⟩
 have e:(32:Int) - (bits:Int)=((32 - bits:Nat):Int):=(Int.ofNat_sub (Nat.le_trans h9 (by decide))).symm
 conv=>whnf
 rw [e]
 refine l_shr ?_
 conv=>whnf
 refine ⟨rfl,cI (u:=.int (aT bits)) (by kernel_rfl) rfl ?_⟩
 have hb3:=eu h9
 refine l_hexn (zP h9 path) (Nat.le_trans hb3 (by decide)) ?_
 conv=>whnf
 refine ⟨rfl,cI (u:=.str ahead) (by kernel_rfl) rfl ?_⟩
 refine And.intro (Nat.le_trans ha (by decide)) ?_
 refine And.intro (Nat.le_trans (Nat.le_of_eq (cR _ _)) (Nat.le_trans hb3 (by decide))) ?_
 have ej:[ahead,L "-",aY bits path].flatten=gq bits ahead path:=by show ahead++(L "-" ++ (aY bits path++[]))=_;rw [List.append_nil,← List.append_assoc];rfl
 refine And.intro ?_ ?_
 · exact Nat.le_trans (Nat.le_of_eq (congrArg List.length ej)) (Nat.le_trans (cZ (cZ ha (Nat.le_of_eq (congrArg List.length pT))) (Nat.le_trans (Nat.le_of_eq (cR _ _)) hb3)) (by decide))
 · exact (show R (.str [ahead,L "-",aY bits path].flatten,w) from ej.symm▸q)
theorem l_gen {c:Cm (List V)} {sp:SpG} {names:aq} {params:List Str} {vs:List V} {w:Wt} {R:List V×Wt→Prop} (loc:List (Option V)) (hs:sp=qT names params c.d) (hl:vs.length=params.length) (e:fB (bv (params.zip vs) (fun a=>none)) names=loc)
 (h:c.w ⟨loc,w⟩ fun l s=>R (l,s.w)):lf (sp vs w) R:=hs▸oX (gen_ok (Q:=fun v w=>R (v,w)) loc hl e h) fun a a h=>h
noncomputable def bl (rs:List Rl):KV:=rs.map fun r=>(r.name,r.obj)
def dS (rs:List Rl):V:=.obj ad0.cDlg (lg (.dct (bl rs)) .none)
def grS (rs:List Rl) (ps:List (List Nat)) (w:Wt) (x:Option V):St:=⟨[some (dS rs),some (.str (bd ps)),some (.adr ad0.a_law_digest),x],w⟩
theorem l_grR {rs:List Rl} (hn:bF (bl rs)=true) (hr:∀ r∈rs,r.h.Ok) {ps:List (List Nat)} (hp:d8 ps) {w:Wt} {R:List V×Wt→Prop} (q:R ((rs.filter fun r=>r.h.hit ps).map fun r=>V.tup [.str r.name,.bool r.term],w)) :
 lf (wt [dS rs,.str (bd ps),.adr ad0.a_law_digest] w) R:=by
 refine l_gen [some (dS rs),some (.str (bd ps)),some (.adr ad0.a_law_digest),none] rfl rfl rfl ?_
 conv=>whnf
 refine ⟨rfl,cI (u:=.dct (bl rs)) (by kernel_rfl) rfl ?_⟩
 conv=>whnf
 refine ⟨rfl,cI (u:=.dct (bl rs)) (by kernel_rfl) rfl ?_⟩
 refine And.intro hn ?_
 refine jx (f:=Rl.obj) (l:=rs) (σ:=grS rs ps w) (fun r=>r.h.hit ps) (fun r=>V.tup [.str r.name,.bool r.term]) none (List.map_map ..) rfl (fun x r hrr=>?_) fun y=>q
 refine And.intro ⟨rfl,by kernel_rfl⟩ ?_
 refine l_isdp (hr r hrr) hp ?_
 refine ⟨rfl,?_⟩
 refine br (fun a=>?_) fun a=>⟨_,rfl⟩
 conv=>whnf
 refine ⟨rfl,cI (u:=.str r.name) (by kernel_rfl) rfl ?_⟩
 conv=>whnf
 refine ⟨rfl,cI (u:=.bool r.term) (by kernel_rfl) rfl ?_⟩
 refine And.intro (by decide:2≤LIM) ?_
 exact ⟨rfl,_,rfl⟩
theorem l_grS {bits:Nat} (h1:1≤bits) (h9:bits≤9) {ahead:List Nat} (ha:ahead.length≤100) {path:List Nat} (hp:ja path) {w:Wt} {R:List V×Wt→Prop} (q:R ([.tup [.str (gq bits ahead path),.bool true]],w)) :
 lf (wt [.obj ad0.cDlg (lg .none (ek bits ahead)),.str path,.adr ad0.a_law_digest] w) R:=by
 refine l_gen [some (.obj ad0.cDlg (lg .none (ek bits ahead))),some (.str path),some (.adr ad0.a_law_digest),none] rfl rfl rfl ?_
 conv=>whnf
 refine ⟨rfl,cI (u:=.none) (by kernel_rfl) rfl ?_⟩
 conv=>whnf
 refine ⟨rfl,cI (u:=ek bits ahead) (by kernel_rfl) rfl ?_⟩
 conv=>whnf
 refine ⟨rfl,cI (u:=ek bits ahead) (by kernel_rfl) rfl ?_⟩
 refine And.intro ⟨rfl,by kernel_rfl⟩ ?_
 refine l_grft h1 h9 ha hp ?_
 refine And.intro (by decide:2≤LIM) ?_
 exact q
noncomputable def cf (ahead x:List Nat):Bool:=x.take (ahead.length+1)==ahead++[45]
noncomputable def rst (ahead x:List Nat):List Nat:=x.drop (ahead.length+1)
def gz (bits:Nat) (ahead x:List Nat):Bool:=cf ahead x&&((rst ahead x).length==aT bits&&((rst ahead x).all aZ&&decide (bq (rst ahead x)<2 ^ bits)))
section
variable {bits:Nat} {ahead x:List Nat}
theorem d6 (ahead:List Nat):(ahead++L "-").length=ahead.length+1:=by rw [pT];exact List.length_append
theorem st_eq:(x.take (ahead++L "-").length==ahead++L "-")=cf ahead x:=by rw [d6,pT];rfl
theorem rst_len (hx:x.length≤1000):(rst ahead x).length≤1000:=Nat.le_trans (Nat.le_of_eq List.length_drop) (Nat.le_trans (Nat.sub_le _ _) hx)
theorem xV (h:cf ahead x=false):gz bits ahead x=false:=by rw [gz,h];rfl
theorem nU (h:cf ahead x=true):gz bits ahead x=((rst ahead x).length==aT bits&&((rst ahead x).all aZ&&decide (bq (rst ahead x)<2 ^ bits))):=by rw [gz,h];rfl
theorem wY {n m:Nat} (h:((n:Int)==(m:Int))=false):(n==m)=false:=beq_eq_false_iff_ne.mpr fun e=>(beq_eq_false_iff_ne.mp h) (congrArg Int.ofNat e)
theorem yz {n m:Nat} (h:((n:Int)==(m:Int))=true):n=m:=Int.ofNat_inj.mp (eq_of_beq h)
theorem dec_pow {n b:Nat}:decide ((n:Int)<(2:Int) ^ b)=decide (n<2 ^ b):=by
 rw [show (2:Int) ^ b=((2 ^ b:Nat):Int) from (Int.natCast_pow 2 b).symm];exact decide_eq_decide.mpr Int.ofNat_lt
theorem ib {sp:SpU} {names:aq} {params:List Str} {c:Cm (Option Fl)} {vs:List V} {w:Wt} {R:Option V×Wt→Prop} (loc:List (Option V)) (hs:sp=iI names params c.d) (hl:vs.length=params.length) (e:fB (bv (params.zip vs) (fun a=>none)) names=loc)
 (h:c.w ⟨loc,w⟩ (iz fun v w=>R (v,w))):lf (sp vs w) R:=hs▸oX (fn_okU (Q:=fun v w=>R (v,w)) loc hl e h) fun a a h=>h
variable {w:Wt} {R:Option V×Wt→Prop}
theorem slc_rst:slc (some ((ahead++L "-").length:Int)) none x=rst ahead x:=(jg x _).trans (congrArg (x.drop ·) (d6 ahead))
def cIsE:Cm (Option Fl):=(az (ai (bN (sX .LtE .Lt (ck (.int 0)) (aa 4) (bG ad0.cSuc "number_of_bins" (aa 0))))) (ai ag))
def cIs (t:Cm (Option Fl)):Cm (Option Fl):=(az (ai (ae 2 (aI .Add (bG ad0.cSuc "name_prefix" (aa 0)) (ck (.str (L "-")))))) (az (ai (cif (gA (fm (cbi fQ (aa 1) (aa 2)))) (ac (bN (ck (.bool false))) ag) ag)) (az (ai (ae 3 (cH (aa 1) (cun cj (aa 2)) (ck .none)))) (az (ai (cif (ay .NotEq (cun cj (aa 3)) (bG ad0.cSuc "suffix_len" (aa 0))) (ac (bN (ck (.bool false))) ag) ag)) (az (uA t false) cIsE)))))
def idS (bits:Nat) (ahead x:List Nat) (w:Wt) (y:Option V):St:=⟨[some (ek bits ahead),some (.str x),some (.str (ahead++L "-")),some (.str (rst ahead x)),y],w⟩
theorem l_isX {t:Cm (Option Fl)} (ha:ahead.length≤100) (hx:x.length≤1000) (q0:gz bits ahead x=false→R (some (.bool false),w))
 (q:cf ahead x=true→(rst ahead x).length=aT bits→(az (uA t false) cIsE).w (idS bits ahead x w none) (iz fun v w=>R (v,w))):(cIs t).w ⟨[some (ek bits ahead),some (.str x),none,none,none],w⟩ (iz fun v w=>R (v,w)):=by
 have hxl:x.length≤LIM:=Nat.le_trans hx (by decide)
 have hal:(ahead++L "-").length≤LIM:=Nat.le_trans (Nat.le_of_eq (d6 ahead)) (Nat.le_trans (Nat.succ_le_succ ha) (by decide))
 conv=>whnf
 refine ⟨rfl,cI (u:=.str ahead) (by kernel_rfl) rfl ?_⟩
 refine And.intro (Nat.le_trans (Nat.le_of_eq List.length_append.symm) hal) ?_
 refine qK ?_
 rw [st_eq]
 refine br (fun hs=>?_) fun hs=>?_
 · exact q0 (xV (kK hs))
 refine And.intro hal ?_
 refine And.intro hxl ?_
 rw [slc_rst]
 refine And.intro (Nat.le_trans (rst_len hx) (by decide)) ?_
 conv=>whnf
 refine ⟨rfl,cI (u:=.int (aT bits)) (by kernel_rfl) rfl ?_⟩
 refine br (fun hl=>?_) fun hl=>?_
 · exact q0 ((nU (kL hs)).trans (by rw [wY (kK hl)];rfl))
 · exact q (kL hs) (yz (kL hl))
theorem l_isE (hs:cf ahead x=true) (hl:(rst ahead x).length=aT bits) (hh:(rst ahead x).all aZ=true) (q:R (some (.bool (gz bits ahead x)),w)):cIsE.w (idS bits ahead x w (some (.int (bq (rst ahead x))))) (iz fun v w=>R (v,w)):=by
 conv=>whnf
 refine ⟨rfl,cI (u:=.int ((2:Int) ^ bits)) (by kernel_rfl) rfl ?_⟩
 have e:gz bits ahead x=decide (((bq (rst ahead x):Nat):Int)<(2:Int) ^ bits):=(nU hs).trans (by rw [hl,hh,beq_self_eq_true,Bool.true_and,Bool.true_and,dec_pow])
 exact (show R (some (.bool (decide (((bq (rst ahead x):Nat):Int)<(2:Int) ^ bits))),w) from e▸q)
theorem wD (h1:1≤bits) (hl:(rst ahead x).length=aT bits) (hb:bits≤9):rst ahead x≠[]∧(rst ahead x).length≤64 :=
 ⟨fun e=>Nat.not_lt.mpr (Nat.le_of_eq (hl.symm.trans (congrArg List.length e))) ((by decide:∀ b<10,1≤b→0<aT b) bits (Nat.lt_succ_of_le hb) h1),Nat.le_trans (Nat.le_of_eq hl) (Nat.le_trans (eu hb) (by decide))⟩
theorem xu (h1:1≤bits) (ha:ahead.length≤100) (hx:x.length≤1000) (hg:cf ahead x=true→(rst ahead x).length=aT bits→(rst ahead x).all aZ=true) (hb:bits≤9)
 (q:R (some (.bool (gz bits ahead x)),w)):lf (ox [ek bits ahead,.str x] w) R:=by
 refine ib (c:=cIs (az (gZ 4 (ai (pI (aa 3)))) (ai ag))) [some (ek bits ahead),some (.str x),none,none,none] rfl rfl rfl (l_isX ha hx (fun e=>e▸q) fun hs hl=>?_)
 have hr:=wD h1 hl hb
 refine And.intro ⟨hr.1,hr.2,hg hs hl⟩ ?_
 exact l_isE hs hl (hg hs hl) q
theorem tS (h1:1≤bits) (ha:ahead.length≤100) (hx:x.length≤1000) (hg:cf ahead x=true→(rst ahead x).length=aT bits→(rst ahead x).all aZ=true∨((rst ahead x).all aZ=false∧gr (rst ahead x)=true)) (hb:bits≤9)
 (q:R (some (.bool (gz bits ahead x)),w)):lf (lj [ek bits ahead,.str x] w) R:=by
 refine ib (c:=cIs (az (gZ 4 (zB (aa 3))) (ai ag))) [some (ek bits ahead),some (.str x),none,none,none] rfl rfl rfl (l_isX ha hx (fun e=>e▸q) fun hs hl=>?_)
 have hr:=wD h1 hl hb
 conv=>whnf
 refine ⟨⟨hr.1,hr.2⟩,(hg hs hl).imp (fun h=>⟨h,l_isE hs hl h q⟩) fun h=>⟨h.1,h.2,?_⟩⟩
 exact ((nU hs).trans (by rw [h.1,Bool.false_and,Bool.and_false]))▸q
end
theorem l_truN {Cs:List Addr} {K:Bool→Prop} (h:K false):lf (truO Cs .none) K:=cD h
theorem l_truO {Cs:List Addr} {c:Addr} {f:List (Str×V)} {K:Bool→Prop} (hc:c∈Cs) (h:K true):lf (truO Cs (.obj c f)) K:=cD (aO (x:=some true) ⟨hc,h⟩)
theorem msg_len {x:List Nat} (hx:x.length≤1000):[L "Delegated role ",x,L " not found"].flatten.length≤LIM :=
 Nat.le_trans (cZ (m:=20) (by decide +kernel) (cZ hx (cZ (m:=20) (n:=0) (by decide +kernel) (Nat.le_refl 0)))) (by decide)
def gdrE:Cm (Option Fl):=(az (i8 (ai (gA (ctruO [ad0.cDel,ad0.cSuc] (aa 2)))) (az (mV (rc (cjs (rc (ck (.str (L "Delegated role "))) (rc (cfv (aa 1)) (rc (ck (.str (L " not found"))) aB)))) aB)) (ai ag)) (ai ag)) (az (ai (bN (aa 2))) (ai ag)))
section
variable {x:List Nat} {w:Wt} {R:Option V×Wt→Prop} {a:V} {s:Option V}
theorem yj (hx:x.length≤1000) (q:R (none,w)):gdrE.w ⟨[some a,some (.str x),some .none,s],w⟩ (iz fun v w=>R (v,w)):=by
 refine l_truN ?_
 refine And.intro (Nat.le_trans hx (by decide)) ?_
 refine And.intro (msg_len hx) ?_
 refine And.intro (by decide:1≤LIM) ?_
 exact q
theorem ud {c:Addr} {f:List (Str×V)} (hc:c∈[ad0.cDel,ad0.cSuc]) (q:R (some (.obj c f),w)):gdrE.w ⟨[some a,some (.str x),some (.obj c f),s],w⟩ (iz fun v w=>R (v,w)):=by
 refine l_truO hc ?_
 exact q
theorem xx {bits:Nat} (h1:1≤bits) {ahead:List Nat} (ha:ahead.length≤100) (hx:x.length≤1000) (hg:cf ahead x=true→(rst ahead x).length=aT bits→(rst ahead x).all aZ=true) (hb:bits≤9)
 (q1:gz bits ahead x=true→R (some (ek bits ahead),w)) (q2:gz bits ahead x=false→R (none,w)):lf (lI [.obj ad0.cTar (sF (.obj ad0.cDlg (lg .none (ek bits ahead)))),.str x] w) R:=by
 refine ib [some (.obj ad0.cTar (sF (.obj ad0.cDlg (lg .none (ek bits ahead))))),some (.str x),none,none] rfl rfl rfl ?_
 conv=>whnf
 refine ⟨rfl,cI (u:=.obj ad0.cDlg (lg .none (ek bits ahead))) (by kernel_rfl) rfl ?_⟩
 conv=>whnf
 refine ⟨rfl,cI (u:=.obj ad0.cDlg (lg .none (ek bits ahead))) (by kernel_rfl) rfl ?_⟩
 conv=>whnf
 refine ⟨rfl,cI (u:=.none) (by kernel_rfl) rfl ?_⟩
 conv=>whnf
 refine ⟨rfl,cI (u:=.obj ad0.cDlg (lg .none (ek bits ahead))) (by kernel_rfl) rfl ?_⟩
 conv=>whnf
 refine ⟨rfl,cI (u:=ek bits ahead) (by kernel_rfl) rfl ?_⟩
 conv=>whnf
 refine ⟨rfl,cI (u:=.obj ad0.cDlg (lg .none (ek bits ahead))) (by kernel_rfl) rfl ?_⟩
 conv=>whnf
 refine ⟨rfl,cI (u:=ek bits ahead) (by kernel_rfl) rfl ?_⟩
 refine And.intro ⟨rfl,by kernel_rfl⟩ ?_
 refine xu h1 ha hx hg hb ?_
 refine br (fun hr=>?_) fun hr=>?_
 · exact ud (.tail _ (.head _)) (q1 hr)
 · exact yj hx (q2 hr)
theorem ra (rs:List Rl) (x:List Nat):(∃ r∈rs,r.name=x∧et (bl rs) x=r.obj)∨((∀ r∈rs,r.name≠x)∧et (bl rs) x=.none):=by
 induction rs with
 | nil=>exact .inr ⟨(fun a h=>nomatch h),rfl⟩
 | cons r rs ih =>
  by_cases h:r.name=x
  · exact .inl ⟨r,.head _,h,by show (((List.find? (fun p:List Nat×V=>decide (p.1=x)) ((r.name,r.obj)::bl rs)).map (·.2)).getD .none)=_;rw [List.find?_cons_of_pos (p:=fun p:List Nat×V=>decide (p.1=x)) (decide_eq_true h)];rfl⟩
  · have e:et (bl (r::rs)) x=et (bl rs) x:=by
     show (((List.find? (fun p:List Nat×V=>decide (p.1=x)) ((r.name,r.obj)::bl rs)).map (·.2)).getD .none)=_
     rw [List.find?_cons_of_neg (p:=fun p:List Nat×V=>decide (p.1=x)) (fun e=>h (of_decide_eq_true e))];rfl
    rw [e]
    exact ih.imp (Exists.imp fun a=>And.imp_left (.tail _)) (And.imp_left fun h1=>List.forall_mem_cons.mpr ⟨h,h1⟩)
theorem xy {rs:List Rl} (hn:bF (bl rs)=true) (hx:x.length≤1000) (q1:∀ r∈rs,r.name=x→R (some r.obj,w)) (q2:(∀ r∈rs,r.name≠x)→R (none,w)):lf (lI [.obj ad0.cTar (sF (dS rs)),.str x] w) R:=by
 refine ib [some (.obj ad0.cTar (sF (dS rs))),some (.str x),none,none] rfl rfl rfl ?_
 conv=>whnf
 refine ⟨rfl,cI (u:=dS rs) (by kernel_rfl) rfl ?_⟩
 conv=>whnf
 refine ⟨rfl,cI (u:=dS rs) (by kernel_rfl) rfl ?_⟩
 conv=>whnf
 refine ⟨rfl,cI (u:=.dct (bl rs)) (by kernel_rfl) rfl ?_⟩
 conv=>whnf
 refine ⟨rfl,cI (u:=dS rs) (by kernel_rfl) rfl ?_⟩
 conv=>whnf
 refine ⟨rfl,cI (u:=.dct (bl rs)) (by kernel_rfl) rfl ?_⟩
 refine And.intro hn ?_
 refine Classical.byContradiction fun hn_=>?_
 rcases ra rs x with ⟨r,hr,h1,h2⟩ | ⟨h1,h2⟩
 · refine hn_ ?_;clear hn_
   rw [h2]
   exact ud (.head _) (q1 r hr h1)
 · refine hn_ ?_;clear hn_
   rw [h2]
   exact yj hx (q2 h1)
end
theorem vj:eo.map (fun c=>mz (.str eo) (.str [c]))=eo.map fun c=>some (.int ((fY c:Nat):Int)):=by kernel_rfl
theorem l_index {c:Nat} (h:c∈eo) {K:V→Prop} (q:K (.int ((fY c:Nat):Int))):lf (mz (.str (L "0123456789abcdef")) (.str [c])) K:=Ab▸cD ((List.map_inj_left.mp vj c h).symm▸q:om _ K)
def kD:List (List Nat):=[L "bin",L "a-b",L "K"]
def tO (a:List Nat):List Nat:=loL (upL (loL a))
def oP (a:List Nat):List (List Nat):=[slc none (some (-1)) a++L "x-",a++L "_",tO a++L "x",L "x" ++ slc (some 1) none a++L "-"]
theorem wN:∀ a∈kD,∀ p∈oP a,p.length=a.length+1∧p≠a++[45]:=by decide +kernel
theorem oW:∀ a∈kD,(a.length≤3∧(tO a).length≤3)∧Builtin.Str.tooLong (loL a).length=false∧Builtin.Str.tooLong (upL (loL a)).length=false∧Builtin.Str.tooLong (tO a).length=false:=by decide +kernel
theorem tQ {x:List Nat} {K:V→Prop} (h:Builtin.Str.tooLong (loL x).length=false) (q:K (.str (loL x))):lf (iU (.str x)) K:=cD (aO (x:=some (V.str (loL x))) ⟨h,q⟩)
theorem l_upper {x:List Nat} {K:V→Prop} (h:Builtin.Str.tooLong (upL x).length=false) (q:K (.str (upL x))):lf (j7 (.str x)) K:=cD (aO (x:=some (V.str (upL x))) ⟨h,q⟩)
noncomputable abbrev prV (p:List Nat×Bool):V:=.tup [.str p.1,.bool p.2]
theorem nH {f:V→V→Option Bool}:∀ {l:List V},(∀ v∈l,f v v=some true)→qc f l l=some true
 | [],_=>rfl
 | v::l,h=>by
  show (f v v).bind (fun x=>(qc f l l).map (x&&·))=_
  rw [h v (.head _),nH fun u hu=>h u (.tail _ hu)];rfl
theorem veq_pr (p:List Nat×Bool):veq 2 (prV p) (prV p)=some true:=by
 show some ((p.1==p.1)&&((p.2==p.2)&&true))=_
 rw [beq_self_eq_true,beq_self_eq_true];rfl
theorem q8 {l:List (List Nat×Bool)} {K:Bool→Prop} (h:K false):om (cop .NotEq (.lst (l.map prV)) (.lst (l.map prV))) K:=by
 show om (((if (l.map prV).length=(l.map prV).length then qc (veq 2) (l.map prV) (l.map prV) else some false).or _).map (!·)) K
 rw [if_pos rfl,nH (gO fun p a=>veq_pr p)];exact h
def lG (bits:Nat) (ahead:List Nat):V:=.obj ad0.cTar (sF (.obj ad0.cDlg (lg .none (ek bits ahead))))
def bSt (path:List Nat) (bits:Nat) (ahead:List Nat) (z:Int) (v6 v7 v8 v9 v10 v11:Option V) (w:Wt):St:=⟨[some .wref,some (.str path),some (.int bits),some (.str ahead),some (ek bits ahead),some (.int z),v6,v7,v8,v9,v10,v11],w⟩
theorem ic (ahead s:List Nat):cf ahead (ahead++L "-" ++ s)=true∧rst ahead (ahead++L "-" ++ s)=s:=by
 refine ⟨?_,List.drop_left' (d6 ahead)⟩
 rw [cf,List.take_left' (d6 ahead),pT,beq_self_eq_true]
theorem sy {ahead pre s:List Nat} (h:pre.length=ahead.length+1∧pre≠ahead++[45]):cf ahead (pre++s)=false:=by
 rw [cf,List.take_left' h.1];exact beq_eq_false_iff_ne.mpr h.2
theorem ly (M n:Nat):(hxd M n).all aZ=true:=List.all_eq_true.mpr fun c hc=>(sB c (tW M n c hc)).2
theorem ua {M n:Nat} (h:n<16 ^ M):bq (hxd M n)=n:=(mD M n).trans (Nat.mod_eq_of_lt h)
theorem jd (bits:Nat) (path:List Nat):(aY bits path).length=aT bits:=cR _ _
section
variable {bits:Nat} {ahead path:List Nat} {w:Wt} {R:Option V×Wt→Prop} (b1:1≤bits) (b9:bits≤9) (ham:ahead∈kD) (q:R (some (.bool true),w))
theorem name_in (b9:bits≤9):gz bits ahead (gq bits ahead path)=true:=by
 have tl:=ic ahead (aY bits path)
 rw [gq,nU tl.1,tl.2,jd,beq_self_eq_true,show (aY bits path).all aZ=true from ly _ _,show bq (aY bits path)=iO bits path from ua (zP b9 path),decide_eq_true (rv b9 path)];rfl
include b1 b9 ham q
theorem uJ {z:Int} {v6 v8 v9 v10:Option V}:ir.w (bSt path bits ahead z v6 (some (.str (aY bits path))) v8 v9 v10 (some (lG bits ahead)) w) (iz fun v w=>R (v,w)):=by
 obtain ⟨⟨a3,lu3⟩,t1,t2,t3⟩:=oW ahead ham
 have ht:(aY bits path).length≤3:=Nat.le_trans (Nat.le_of_eq (jd bits path)) (eu b9)
 have pl:∀ {p:List Nat},p∈oP ahead→p.length≤4:=fun h=>Nat.le_trans (Nat.le_of_eq (wN ahead ham _ h).1) (Nat.succ_le_succ a3)
 have pt:∀ {p:List Nat},p∈oP ahead→p.length+(aY bits path).length≤LIM:=fun h=>Nat.le_trans (Nat.add_le_add (pl h) ht) (by decide)
 have pa:∀ {a b:List Nat},(a++b).length≤4→a.length+b.length≤LIM:=fun h=>Nat.le_trans (Nat.le_of_eq List.length_append.symm) (Nat.le_trans h (by decide))
 have m1:slc none (some (-1)) ahead++L "x-" ∈ oP ahead:=.head _
 have m2:ahead++L "_" ∈ oP ahead:=.tail _ (.head _)
 have m3:tO ahead++L "x" ∈ oP ahead:=.tail _ (.tail _ (.head _))
 have m4:L "x" ++ slc (some 1) none ahead++L "-" ∈ oP ahead:=.tail _ (.tail _ (.tail _ (.head _)))
 unfold ir
 refine And.intro (Nat.le_trans a3 (by decide)) ?_
 refine And.intro (pa (pl m1)) ?_
 refine And.intro (pt m1) ?_
 refine And.intro (pa (pl m2)) ?_
 refine And.intro (pt m2) ?_
 refine tQ t1 ?_
 refine l_upper t2 ?_
 refine tQ t3 ?_
 refine And.intro (pa (pl m3)) ?_
 refine And.intro (pt m3) ?_
 refine And.intro (Nat.le_trans a3 (by decide)) ?_
 refine And.intro (pa (Nat.le_trans (Nat.le_add_right _ _) (Nat.le_trans (Nat.le_of_eq List.length_append.symm) (pl m4)))) ?_
 refine And.intro (pa (pl m4)) ?_
 refine And.intro (pt m4) ?_
 refine And.intro (by decide:4≤LIM) ?_
 refine tR (f:=fun p:List Nat=>V.str (p++aY bits path)) (l:=oP ahead) (fun x=>bSt path bits ahead z v6 (some (.str (aY bits path))) v8 v9 x (some (lG bits ahead)) w) (fun l c=>∀ p∈l,p∈oP ahead) v10 (fun c h=>h) rfl rfl (fun p l x hx=>?_) fun x c=>q
 have hp:=hx p (.head _)
 have ho:=sy (s:=aY bits path) (wN ahead ham p hp)
 have hol:(p++aY bits path).length≤1000:=Nat.le_trans (cZ (pl hp) ht) (by decide)
 have a100:ahead.length≤100:=Nat.le_trans a3 (by decide)
 have no:cf ahead (p++aY bits path)=true→(rst ahead (p++aY bits path)).length=aT bits→(rst ahead (p++aY bits path)).all aZ=true:=fun h=>nomatch ho.symm.trans h
 refine And.intro ⟨rfl,by kernel_rfl⟩ ?_
 refine xu b1 a100 hol no b9 ?_
 rw [xV ho]
 refine xt (by kernel_rfl) (xx b1 a100 hol no b9 (fun h=>nomatch (xV ho).symm.trans h) fun c=>?_)
 exact ⟨_,rfl,fun p hp=>hx p (.tail _ hp)⟩
omit q in
theorem zO {z:Int} {v6 v8 v9 v10 v11:Option V} {Q:Option Bool→St→Prop} (q:Q (some false) (bSt path bits ahead z v6 (some (.str (aY bits path))) v8 v9 v10 v11 w)):jX.w (bSt path bits ahead z v6 (some (.str (aY bits path))) v8 v9 v10 v11 w) Q:=by
 refine Classical.byContradiction fun hn_=>?_
 obtain ⟨⟨a3,lu3⟩,t1,t2,t3⟩:=oW ahead ham
 have a100:ahead.length≤100:=Nat.le_trans a3 (by decide)
 have ht:=Nat.le_trans (Nat.le_of_eq (jd bits path)) (eu b9)
 have e:slc none (some (-1)) (aY bits path)=(aY bits path).dropLast:=ww _
 have hd:(aY bits path).dropLast.length≤3:=Nat.le_trans (Nat.le_of_eq List.length_dropLast) (Nat.le_trans (Nat.sub_le _ _) ht)
 have hg:L "g" = [103]:=by decide +kernel
 have ad4:(ahead++L "-").length≤4:=Nat.le_trans (Nat.le_of_eq (d6 ahead)) (Nat.succ_le_succ a3)
 have tg:=ic ahead ((aY bits path).dropLast++[103])
 have hh:(aY bits path).all aZ=true:=ly _ _
 have g1:((aY bits path).dropLast++[103]).all aZ=false:=by rw [List.all_append];exact Bool.and_false _
 have g2:gr ((aY bits path).dropLast++[103])=true:=by
  unfold gr
  rw [List.reverse_append]
  exact List.all_eq_true.mpr fun c hc=>List.all_eq_true.mp hh c (List.dropLast_subset _ (List.mem_reverse.mp hc))
 refine hn_ ?_;clear hn_
 unfold jX
 refine And.intro ⟨rfl,by kernel_rfl⟩ ?_
 refine And.intro (Nat.le_trans (Nat.le_of_eq List.length_append.symm) (Nat.le_trans ad4 (by decide:4≤LIM))) ?_
 refine And.intro (Nat.le_trans ht (by decide)) ?_
 conv=>whnf
 rw [e]
 refine ⟨Nat.le_trans (Nat.add_le_add ad4 hd) (by decide),?_⟩
 conv=>whnf
 rw [hg]
 refine ⟨Nat.le_trans (Nat.add_le_add (cZ ad4 hd) (Nat.le_refl 1)) (by decide),?_⟩
 conv=>whnf
 rw [List.append_assoc]
 refine tS b1 a100 (Nat.le_trans (cZ ad4 (cZ hd (Nat.le_refl 1))) (by decide)) (fun a a=>.inr (by rw [tg.2];exact ⟨g1,g2⟩)) b9 ?_
 rw [nU tg.1,tg.2,g1,Bool.false_and,Bool.and_false]
 exact q
def nq (bits:Nat):List Nat:=hxd (aT bits) (16 ^ aT bits - 1)
omit b1 b9 ham q in
theorem mod4 (h:decide ((bits:Int).fmod 4 > 0)=true) (b9:bits≤9):¬ 16 ^ aT bits - 1<2 ^ bits:=by
 have h2:bits % 4 > 0:=Int.ofNat_lt.mp ((ik bits 4)▸of_decide_eq_true h:(0:Int)<((bits % 4:Nat):Int))
 exact (by decide:∀ b<10,b % 4 > 0→¬ 16 ^ aT b - 1<2 ^ b) bits (Nat.lt_succ_of_le b9) h2
theorem bins_13 {z:Int} {v6 v8 v10:Option V}:fK.w (bSt path bits ahead z v6 (some (.str (aY bits path))) v8 (some (.str (nq bits))) v10 (some (lG bits ahead)) w) (iz fun v w=>R (v,w)):=by
 have a3:=(oW ahead ham).1.1
 have a100:ahead.length≤100:=Nat.le_trans a3 (by decide)
 have hl:(nq bits).length=aT bits:=cR _ _
 have hl3:=Nat.le_trans (Nat.le_of_eq hl) (eu b9)
 have ad4:(ahead++L "-").length≤4:=Nat.le_trans (Nat.le_of_eq (d6 ahead)) (Nat.succ_le_succ a3)
 have tb:=ic ahead (nq bits)
 have hh:(nq bits).all aZ=true:=ly _ _
 have hn:bq (nq bits)=16 ^ aT bits - 1:=ua (Nat.sub_lt (Nat.pow_pos (by decide)) (by decide))
 unfold fK
 refine And.intro (by decide) ?_
 refine br (fun hb=>?_) fun a=>?_
 · refine And.intro ⟨rfl,by kernel_rfl⟩ ?_
   refine And.intro (Nat.le_trans (Nat.le_of_eq List.length_append.symm) (Nat.le_trans ad4 (by decide:4≤LIM))) ?_
   refine And.intro (Nat.le_trans (Nat.add_le_add ad4 hl3) (by decide)) ?_
   refine tS b1 a100 (Nat.le_trans (cZ ad4 hl3) (by decide)) (fun a a=>.inl (tb.2.symm▸hh)) b9 ?_
   rw [nU tb.1,tb.2,hn,decide_eq_false (mod4 hb b9),Bool.and_false,Bool.and_false]
   exact zO b1 b9 ham (uJ b1 b9 ham q)
 · exact zO b1 b9 ham (uJ b1 b9 ham q)
omit b1 b9 ham q in
theorem gp:((bits:Int)+3).fdiv 4=((aT bits:Nat):Int):=fE (bits+3) 4
omit b1 b9 ham q in
theorem pw_cast:(16:Int) ^ (((bits:Int)+3).fdiv 4).toNat - 1=((16 ^ aT bits - 1:Nat):Int):=by
 rw [gp,wO];exact (Int.ofNat_sub (Nat.pow_pos (by decide))).symm
omit b1 b9 ham q in
theorem tF {a k:Nat} {l:List Nat} {n:Nat} (h:a::l=List.range' k (l.length+1)∧k+(l.length+1)=n):a=k∧(l=List.range' (k+1) l.length∧k+1+l.length=n)∧k<n :=
 have e:=List.cons.inj (h.1.trans (List.range'_succ ..))
 ⟨e.1,⟨e.2,(Nat.succ_add_eq_add_succ k l.length).trans h.2⟩,Nat.lt_of_lt_of_eq (Nat.lt_add_of_pos_right (Nat.succ_pos _)) h.2⟩
omit b1 b9 ham q in
theorem wK (n:Nat):List.range n=List.range' 0 (List.range n).length∧0+(List.range n).length=n:=⟨by rw [List.length_range];exact List.range_eq_range',(Nat.zero_add _).trans List.length_range⟩
theorem bins_11 {z:Int} {v6 v8 v9 v10:Option V}:iu.w (bSt path bits ahead z v6 (some (.str (aY bits path))) v8 v9 v10 (some (lG bits ahead)) w) (iz fun v w=>R (v,w)):=by
 have hb3:=eu b9
 unfold iu
 refine And.intro ⟨by decide,rfl⟩ ?_
 refine And.intro (gp.symm▸bD (Nat.lt_of_le_of_lt hb3 (by decide))) ?_
 refine gQ (f:=bp) (l:=List.range (aT bits)) (X:=Nat×Option V) (fun x=>bSt path bits ahead z v6 (some (.str (aY bits path))) x.2 (some (.str (hxd x.1 (16 ^ aT bits - 1)))) v10 (some (lG bits ahead)) w)
  (fun l x=>l=List.range' x.1 l.length∧x.1+l.length=aT bits) (0,v8) (wK _) ((congrArg (rng 0) gp).trans (cg _)) (by rw [j5];rfl) (fun a l x hx=>?_) fun x hx=>?_
 · obtain ⟨k,y⟩:=x
   obtain ⟨rfl,h2,h3⟩:=tF hx
   have hk:a≤9:=Nat.le_trans (Nat.le_of_lt h3) (Nat.le_trans hb3 (by decide))
   refine And.intro ⟨by decide,rfl⟩ ?_
   refine And.intro ⟨rfl,gp.symm▸Int.natCast_nonneg _,gp.symm▸Int.ofNat_le.mpr (Nat.le_trans hb3 (by decide))⟩ ?_
   refine And.intro (yk hk) ?_
   refine And.intro (yl hk) ?_
   refine And.intro (by decide) ?_
   refine qN ((congrArg (fun z:Int=>(z.fdiv ((16:Int) ^ (a:Int).toNat)).fmod 16) pw_cast).trans (sL _ a)) (Nat.mod_lt _ (by decide)) ?_
   refine And.intro (Nat.le_trans (Nat.add_le_add_left (Nat.le_trans (Nat.le_of_eq (cR _ _)) hk) 1) (by decide)) ?_
   exact ⟨(a+1,some (bp a)),congrArg (fun s=>bSt path bits ahead z v6 (some (.str (aY bits path))) (some (bp a)) (some (.str s)) v10 (some (lG bits ahead)) w) (jB a _).symm,h2⟩
 · have e:x.1=aT bits:=hx.2
   exact (show fK.w (bSt path bits ahead z v6 (some (.str (aY bits path))) x.2 (some (.str (hxd x.1 (16 ^ aT bits - 1)))) v10 (some (lG bits ahead)) w) (iz fun v w=>R (v,w)) from e.symm▸bins_13 b1 b9 ham q)
theorem bins_8 {z:Int} {v6 v8 v9 v10 v11:Option V} (hp:ja path):hG.w (bSt path bits ahead z v6 (some (.str (aY bits path))) v8 v9 v10 v11 w) (iz fun v w=>R (v,w)):=by
 have a3:=(oW ahead ham).1.1
 have a100:ahead.length≤100:=Nat.le_trans a3 (by decide)
 have ht:=Nat.le_trans (Nat.le_of_eq (jd bits path)) (eu b9)
 have ad4:(ahead++L "-").length≤4:=Nat.le_trans (Nat.le_of_eq (d6 ahead)) (Nat.succ_le_succ a3)
 have c1:ahead.length+(L "-").length≤LIM:=Nat.le_trans (Nat.le_of_eq List.length_append.symm) (Nat.le_trans ad4 (by decide:4≤LIM))
 have c2:(ahead++L "-").length+(aY bits path).length≤LIM:=Nat.le_trans (Nat.add_le_add ad4 ht) (by decide)
 have hb:(gq bits ahead path).length≤1000:=Nat.le_trans (cZ ad4 ht) (by decide)
 have tl:=ic ahead (aY bits path)
 unfold hG
 refine And.intro rfl ?_
 refine xA ?_
 refine And.intro ⟨rfl,by kernel_rfl⟩ ?_
 refine l_grS b1 b9 a100 hp ?_
 refine ⟨(by decide:1≤LIM),?_⟩
 refine And.intro c1 ?_
 refine And.intro c2 ?_
 refine And.intro (by decide:2≤LIM) ?_
 refine And.intro (by decide:1≤LIM) ?_
 refine q8 (l:=[(gq bits ahead path,true)]) ?_
 refine And.intro rfl ?_
 refine And.intro rfl ?_
 refine xA ?_
 refine l_tar ?_
 refine And.intro ⟨rfl,by kernel_rfl⟩ ?_
 refine And.intro c1 ?_
 refine And.intro c2 ?_
 refine xx b1 a100 hb (fun a a=>tl.2.symm▸ly _ _) b9 (fun a=>?_) fun h=>nomatch (name_in b9).symm.trans h
 conv=>whnf
 refine ⟨rfl,cI (u:=.int bits) (by kernel_rfl) rfl ?_⟩
 refine brf (congrArg (!·) (beq_self_eq_true _)) ?_
 exact bins_11 b1 b9 ham q
end
theorem wR {p:List Nat} {c:Nat}:(16:Int) * (bq p:Nat)+(fY c:Nat)=((bq (p++[c]):Nat):Int):=by
 rw [kS,Int.natCast_add,Int.natCast_mul,Int.mul_comm];rfl
theorem z0 {k:Nat} (h:k<3):∃ a∈kD,[V.str (L "bin"),.str (L "a-b"),.str (L "K")][k]? = some (.str a) :=
 ⟨kD[k],List.getElem_mem h,(List.getElem?_map (f:=V.str) (l:=kD)).trans (congrArg (Option.map V.str) (List.getElem?_eq_getElem h))⟩
theorem l_bins {r:Nat} {w:Wt} {path:List Nat} {R:Option V×Wt→Prop} (h:Wr (r+2) w) (hp:ja path) (q:∀ w',Wr r w'→R (some (.bool true),w')):lf (rP [.wref,.str path] w) R:=by
 refine ib [some .wref,some (.str path),none,none,none,none,none,none,none,none,none,none] rfl rfl rfl ?_
 refine bK (r:=r+1) (m:=9) h (by decide) fun k1 w1 hk1 hw1=>?_
 have eb:(1:Int)+(k1:Nat)=((1+k1:Nat):Int):=rfl
 have b1:1≤1+k1:=Nat.le_add_right 1 k1
 have b9:1+k1≤9:=Nat.add_comm k1 1▸hk1
 generalize 1+k1=bits at eb b1 b9
 conv=>whnf
 rw [eb]
 refine ⟨(by decide:3≤LIM),?_⟩
 refine bK (r:=r) (m:=3) hw1 (by decide) fun k2 w2 hk2 hw2=>?_
 obtain ⟨ahead,ham,hat⟩:=z0 hk2
 refine dq (Nat.lt_trans hk2 (by decide)) hat ?_
 refine And.intro rfl ?_
 refine And.intro (by decide:1≤LIM) ?_
 refine l_suc b1 b9 ?_
 refine qO hp ?_
 refine gR hp.len ?_
 refine And.intro (ju (mL path) (by decide)) ?_
 have e8:slc none (some (8:Int)) (dg path)=(dg path).take 8:=fc (dg path) 8
 refine And.intro (e8.symm▸rx (by decide) (hex8 path)) ?_
 refine gQ (f:=oQ) (l:=(dg path).take 8) (X:=List Nat×Option V) (fun x=>bSt path bits ahead (bq x.1:Nat) x.2 none none none none none w2) (fun l x=>x.1++l=(dg path).take 8) ([],none) rfl (congrArg (List.map oQ) e8) rfl (fun c l x hx=>?_) fun x hx=>?_
 · refine And.intro rfl ?_
   refine l_index (hex8 path c (hx▸List.mem_append_right _ (.head _))) ?_
   exact ⟨(x.1++[c],some (oQ c)),congrArg (fun z=>bSt path bits ahead z (some (oQ c)) none none none none none w2) wR,oK hx⟩
 · obtain ⟨p,y⟩:=x
   have hpe:p=(dg path).take 8:=(List.append_nil p).symm.trans hx
   subst hpe
   have e32:(32:Int) - (bits:Int)=((32 - bits:Nat):Int):=(Int.ofNat_sub (Nat.le_trans b9 (by decide))).symm
   have ep:(2:Int) ^ ((32:Int) - (bits:Int)).toNat=((2 ^ (32 - bits):Nat):Int):=by rw [e32];exact (Int.natCast_pow 2 _).symm
   have hp32:2 ^ (32 - bits)<1000000000000:=Nat.lt_of_le_of_lt (Nat.pow_le_pow_right (by decide) (Nat.sub_le 32 bits)) (by decide)
   have en:((bq ((dg path).take 8):Nat):Int).fdiv ((2:Int) ^ ((32:Int) - (bits:Int)).toNat)=((iO bits path:Nat):Int):=by rw [ep,fE];rfl
   have hb3:=eu b9
   refine And.intro ⟨rfl,e32.symm▸Int.natCast_nonneg _,e32.symm▸Int.ofNat_le.mpr (Nat.le_trans (Nat.sub_le 32 bits) (by decide))⟩ ?_
   refine And.intro (ep.symm▸⟨Int.ofNat_ne_zero.mpr (Nat.ne_of_gt (Nat.pow_pos (by decide))),bD hp32⟩) ?_
   refine And.intro ⟨by decide,rfl⟩ ?_
   refine And.intro (gp.symm▸bD (Nat.lt_of_le_of_lt hb3 (by decide))) ?_
   refine gQ (f:=bp) (l:=List.range (aT bits)) (X:=Nat×Option V) (fun x=>bSt path bits ahead (iO bits path:Nat) y (some (.str (hxd x.1 (iO bits path)))) x.2 none none none w2)
    (fun l x=>l=List.range' x.1 l.length∧x.1+l.length=aT bits) (0,none) (wK _) ((congrArg (rng 0) gp).trans (cg _)) (by rw [j5];exact congrArg (fun z=>bSt path bits ahead z y (some (.str [])) none none none none w2) en) (fun a l x hx=>?_) fun x hx=>?_
   · obtain ⟨k,u⟩:=x
     obtain ⟨rfl,h2,h3⟩:=tF hx
     have hk:a≤9:=Nat.le_trans (Nat.le_of_lt h3) (Nat.le_trans hb3 (by decide))
     refine And.intro (yk hk) ?_
     refine And.intro (yl hk) ?_
     refine And.intro (by decide) ?_
     refine qN (sL _ a) (Nat.mod_lt _ (by decide)) ?_
     refine And.intro (Nat.le_trans (Nat.add_le_add_left (Nat.le_trans (Nat.le_of_eq (cR _ _)) hk) 1) (by decide)) ?_
     exact ⟨(a+1,some (bp a)),congrArg (fun s=>bSt path bits ahead (iO bits path:Nat) y (some (.str s)) (some (bp a)) none none none w2) (jB a _).symm,h2⟩
   · have e:x.1=aT bits:=hx.2
     exact (show hG.w (bSt path bits ahead (iO bits path:Nat) y (some (.str (hxd x.1 (iO bits path)))) x.2 none none none w2) (iz fun v w=>R (v,w)) from e.symm▸bins_8 b1 b9 ham (q w2 hw2) hp)
abbrev dE (ps:List (List Nat)):V:=.str (bd ps)
theorem xe {α:Type} {P:α→Prop} {f:α→V}:∀ {us:List V},(∀ u∈us,∃ s,P s∧u=f s)→∃ ss:List α,us=ss.map f∧ss.length=us.length∧∀ s∈ss,P s
 | [],_=>⟨[],rfl,rfl,fun a h=>nomatch h⟩
 | u::r,h=>(h u (.head _)).elim fun s e=>(xe fun u hu=>h u (.tail _ hu)).elim fun ss q =>
  ⟨s::ss,by rw [e.2,q.1];rfl,congrArg (· + 1) q.2.1,List.forall_mem_cons.mpr ⟨e.1,q.2.2⟩⟩
theorem jO {α β:Type} {P:α→Prop} {f:α→V} {l:List β} {us:List V} (hl:us.length=l.length) (hP:∀ (i:Nat) a u,l[i]? = some a→us[i]? = some u→∃ s,P s∧u=f s):∃ ss:List α,us=ss.map f∧ss.length=l.length∧∀ s∈ss,P s :=
 (xe (yg fun i u hu=>hP i _ u (List.getElem?_eq_getElem (hl▸(List.getElem?_eq_some_iff.mp hu).1)) hu)).imp fun b h=>⟨h.1,h.2.1.trans hl,h.2.2⟩
theorem kd {k n:Nat} (h:k≤n):(List.range k).length≤n:=Nat.le_trans (Nat.le_of_eq List.length_range) h
noncomputable def lSt (v0 v2 v3 v4 v5 v6 v7 v8 v9 v10 v11 v12 v13 v14 v15 v16 v17 v18 v19 v20:Option V) (w:Wt):St:=⟨[v0,some .wref,v2,v3,v4,v5,v6,v7,v8,v9,v10,v11,v12,v13,v14,v15,v16,v17,v18,v19,v20],w⟩
theorem cP {k:Nat} (h:k<2):1+k≤2:=Nat.add_comm k 1▸h
theorem wX {α β:Type} {l:List α} {m:List β} (h:l.length=m.length) (k:m≠[]):l≠[]:=fun e=>k (List.length_eq_zero_iff.mp (h.symm.trans (congrArg List.length e)))
theorem rng_ne (k:Nat):List.range (1+k)≠[]:=fun e=>Nat.succ_ne_zero k ((Nat.add_comm 1 k).symm.trans (List.length_range.symm.trans (congrArg List.length e)))
section
variable {v0 v2 v3 v4 v5 v6 v7 v8 v9 v10 v11 v12 v13 v14 v15 v16 v17 v18 v19 v20:Option V} {r:Nat} {w:Wt}
theorem l_paths {Q:V→St→Prop} (h:Wr (r+30) w) (q:∀ (pss:List (List (List Nat))) w',pss.length=3→(∀ ps∈pss,d8 ps)→Wr r w'→Q (.lst (pss.map dE)) (lSt v0 v2 v3 v4 v5 v6 v7 v8 v9 v10 v11 v12 v13 v14 v15 v16 v17 v18 v19 v20 w')) :
 eU.w (lSt v0 v2 v3 v4 v5 v6 v7 v8 v9 v10 v11 v12 v13 v14 v15 v16 v17 v18 v19 v20 w) Q:=by
 unfold eU
 refine And.intro rfl ?_
 refine ⟨by decide,?_⟩
 refine kh (f:=bp) (l:=List.range 3) (X:=Option V×Wt) (fun x=>⟨[v0,some .wref,v2,v3,v4,v5,v6,v7,v8,v9,v10,v11,v12,v13,v14,v15,v16,v17,v18,v19,v20,none,x.1],x.2⟩) (fun l x=>Wr (r+10 * l.length) x.2) (fun c u=>∃ ps,d8 ps∧u=dE ps) (none,w) h (cg 3) rfl (fun a l x hx=>?_) fun us x hl hP hx=>?_
 · refine And.intro rfl ?_
   refine bK (r:=r+10 * l.length+9) (m:=2) hx (by decide) fun k w2 hk hw2=>?_
   refine And.intro (bD (n:=1+k) (Nat.lt_of_le_of_lt (cP hk) (by decide))) ?_
   refine ⟨ju ((congrArg List.length (cg (1+k))).trans (lX (1+k))) (Nat.le_trans (cP hk) (by decide)),?_⟩
   refine kh (f:=bp) (l:=List.range (1+k)) (X:=Option V×Wt) (fun y=>⟨[v0,some .wref,v2,v3,v4,v5,v6,v7,v8,v9,v10,v11,v12,v13,v14,v15,v16,v17,v18,v19,v20,none,some (bp a),none,y.1],y.2⟩) (fun l2 y=>Wr (r+10 * l.length+4 * l2.length) y.2) (fun c u=>∃ p,IsPart p∧u=.str p) (none,w2)
    (hw2.le (Nat.add_le_add_left (Nat.le_trans (Nat.mul_le_mul_left 4 (kd (cP hk))) (by decide)) _)) (cg (1+k)) rfl (fun b l2 y hy=>?_) fun us y hl hP hy=>?_
   · refine And.intro rfl ?_
     refine xr (r:=r+10 * l.length+4 * l2.length) hy fun s w3 hs hw3=>?_
     exact ⟨(_,w3),rfl,hw3,s,hs,rfl⟩
   · obtain ⟨ss,rfl,h1,h2⟩:=jO hl hP
     have h3:ss.length≤2:=Nat.le_trans (Nat.le_of_eq h1) (kd (cP hk))
     conv=>whnf
     rw [L_sl]
     refine sr (by decide) (Nat.le_trans h3 (by decide)) (fun x hx=>Nat.le_trans (h2 x hx).1 (by decide)) ?_
     exact ⟨(some (bp a),y.2),rfl,hy,ss,⟨wX h1 (rng_ne k),h3,h2⟩,rfl⟩
 · obtain ⟨pss,rfl,h1,h2⟩:=jO hl hP
   exact q pss x.2 h1 h2 hx
noncomputable def c7 (r:Rl):V:=.tup [.str r.name,.bool r.term,r.h.a,r.h.b]
variable {ps:List (List Nat)} (hp:d8 ps)
include hp
theorem l_pats {Q:V→St→Prop} (h:Wr (r+57) w) (q:∀ (l:List (List (List Tk))) w',(cC.pats l).Ok→Wr r w'→Q (cC.pats l).a (lSt v0 v2 v3 v4 v5 v6 v7 (some (dE ps)) v9 v10 v11 v12 v13 v14 v15 v16 v17 v18 v19 v20 w')) :
 ge.w (lSt v0 v2 v3 v4 v5 v6 v7 (some (dE ps)) v9 v10 v11 v12 v13 v14 v15 v16 v17 v18 v19 v20 w) Q:=by
 unfold ge
 refine bK (r:=r+56) (m:=2) h (by decide) fun k w2 hk hw2=>?_
 refine And.intro (bD (n:=1+k) (Nat.lt_of_le_of_lt (cP hk) (by decide))) ?_
 refine ⟨ju ((congrArg List.length (cg (1+k))).trans (lX (1+k))) (Nat.le_trans (cP hk) (by decide)),?_⟩
 refine kh (f:=bp) (l:=List.range (1+k)) (X:=Option V×Wt) (fun x=>⟨[v0,some .wref,v2,v3,v4,v5,v6,v7,some (dE ps),v9,v10,v11,v12,v13,v14,v15,v16,v17,v18,v19,v20,none,x.1],x.2⟩) (fun l x=>Wr (r+28 * l.length) x.2) (fun b u=>∃ tss,nG tss∧u=.str (eE tss)) (none,w2)
  (hw2.le (Nat.add_le_add_left (Nat.mul_le_mul_left 28 (kd (cP hk))) _)) (cg (1+k)) rfl (fun a l x hx=>?_) fun us x hl hP hx=>?_
 · obtain ⟨xa,xw⟩:=x
   refine And.intro rfl ?_
   refine sq hp ?_
   refine And.intro (gP hp.len (by decide)) ?_
   refine kh (f:=V.str) (l:=ps) (X:=Option V×Wt) (fun y=>⟨[v0,some .wref,v2,v3,v4,v5,v6,v7,some (dE ps),v9,v10,v11,v12,v13,v14,v15,v16,v17,v18,v19,v20,none,some (bp a),none,y.1],y.2⟩) (fun l2 y=>Wr (r+28 * l.length+14 * l2.length) y.2∧∀ p∈l2,IsPart p) (fun b u=>∃ ts,pQ ts∧u=.str (aX ts)) (none,xw)
    ⟨Wr.le hx (Nat.add_le_add_left (Nat.mul_le_mul_left 14 hp.len) _),hp.ok⟩ rfl rfl (fun p l2 y hy=>?_) fun us y hl hP hy=>?_
   · refine And.intro rfl ?_
     refine l_piece (r:=r+28 * l.length+14 * l2.length) hy.1 (hy.2 p (.head _)) fun ts w3 hts hw3=>?_
     exact ⟨(_,w3),rfl,⟨hw3,fun p h=>hy.2 p (.tail _ h)⟩,ts,hts,rfl⟩
   · obtain ⟨tss,rfl,h1,h2⟩:=jO hl hP
     have h3:tss.length≤2:=Nat.le_trans (Nat.le_of_eq h1) hp.len
     conv=>whnf
     rw [L_sl,show (tss.map fun ts=>V.str (aX ts))=(tss.map aX).map V.str from List.map_map.symm]
     refine sr (by decide) (Nat.le_trans (bt h3) (by decide)) (gO fun ts hts=>Nat.le_trans (h2 ts hts).rl (by decide)) ?_
     exact ⟨(some (bp a),y.2),rfl,hy.1,tss,⟨wX h1 hp.ne,h3,h2⟩,rfl⟩
 · obtain ⟨l,rfl,h1,h2⟩:=jO hl hP
   exact (List.map_map (g:=V.str) (f:=eE) (l:=l))▸q l x.2 ⟨Nat.le_trans (Nat.le_of_eq h1) (kd (cP hk)),h2⟩ hx
theorem l_pres {Q:V→St→Prop} (h:Wr (r+57) w) (q:∀ (l:List (List Nat)) w',(cC.pre l).Ok→Wr r w'→Q (cC.pre l).b (lSt v0 v2 v3 v4 v5 v6 v7 (some (dE ps)) v9 v10 v11 v12 v13 v14 v15 v16 v17 v18 v19 v20 w')) :
 gc.w (lSt v0 v2 v3 v4 v5 v6 v7 (some (dE ps)) v9 v10 v11 v12 v13 v14 v15 v16 v17 v18 v19 v20 w) Q:=by
 unfold gc
 refine bK (r:=r+56) (m:=2) h (by decide) fun k w2 hk hw2=>?_
 refine And.intro (bD (n:=1+k) (Nat.lt_of_le_of_lt (cP hk) (by decide))) ?_
 refine ⟨ju ((congrArg List.length (cg (1+k))).trans (lX (1+k))) (Nat.le_trans (cP hk) (by decide)),?_⟩
 refine kh (f:=bp) (l:=List.range (1+k)) (X:=Option V×Wt) (fun x=>⟨[v0,some .wref,v2,v3,v4,v5,v6,v7,some (dE ps),v9,v10,v11,v12,v13,v14,v15,v16,v17,v18,v19,v20,none,x.1],x.2⟩) (fun l x=>Wr (r+5 * l.length) x.2) (fun c u=>∃ p:List Nat,p.length≤100∧u=.str p) (none,w2)
  (hw2.le (Nat.add_le_add_left (Nat.le_trans (Nat.mul_le_mul_left 5 (kd (cP hk))) (by decide)) _)) (cg (1+k)) rfl (fun a l x hx=>?_) fun us x hl hP hx=>?_
 · refine And.intro rfl ?_
   refine xq (r:=r+5 * l.length) hx hp.path fun p w3 hpp hw3=>?_
   exact ⟨(_,w3),rfl,hw3,p,hpp,rfl⟩
 · obtain ⟨l,rfl,h1,h2⟩:=jO hl hP
   exact q l x.2 ⟨Nat.le_trans (Nat.le_of_eq h1) (kd (cP hk)),h2⟩ hx
end
theorem gM (rs:List Rl):(bl rs).map (·.1)=rs.map (·.name):=List.map_map
theorem wT {rs:List Rl} (h:(rs.map (·.name)).Nodup):bF (bl rs)=true:=decide_eq_true (gM rs▸h)
section
variable {v0 v3 v4 v7 v8 v9 v10 v11 v12 v13 v14 v15 v16 v17 v19 v20:Option V} {r:Nat} {w:Wt} {rs:List Rl} {name:List Nat} (hrl:rs.length≤10) (hnm:name.length≤10) (hnd:(rs.map (·.name)).Nodup) (hni:name∉rs.map (·.name))
include hrl hnm hnd hni
theorem xp {v2 v8:Option V} {term:Bool} {hh:cC} (hok:hh.Ok) {Q:Fl→St→Prop}
 (q:Q .nxt (lSt v0 v2 v3 v4 (some (.md (bl (rs++[⟨name,term,hh⟩])))) (some (.ml ((rs++[(⟨name,term,hh⟩:Rl)]).map c7))) (some (.bool term)) v8 (some hh.a) (some hh.b) v11 v12 v13 v14 v15 v16 v17 (some (.str name)) v19 v20 w)) :
 ga.w (lSt v0 v2 v3 v4 (some (.md (bl rs))) (some (.ml (rs.map c7))) (some (.bool term)) v8 (some hh.a) (some hh.b) v11 v12 v13 v14 v15 v16 v17 (some (.str name)) v19 v20 w) Q:=by
 have e1:bl (rs++[⟨name,term,hh⟩])=bl rs++[(name,Rl.obj ⟨name,term,hh⟩)]:=List.map_append
 have e2:(rs++[(⟨name,term,hh⟩:Rl)]).map c7=rs.map c7++[c7 ⟨name,term,hh⟩]:=List.map_append
 rw [e1,e2] at q
 unfold ga
 cases hh
 all_goals
  refine And.intro rfl ?_
  refine And.intro (Nat.le_trans (Nat.add_le_add (by decide +kernel:(L "k").length≤1) hnm) (by decide)) ?_
  refine And.intro (by decide:1≤LIM) ?_
  refine l_del (by exact Nat.le_refl 1) rfl (cC.one _) ?_
  refine And.intro ⟨wT hnd,gM rs▸hni,bt (Nat.le_trans hrl (by decide))⟩ ?_
  refine And.intro (by decide:4≤LIM) ?_
  refine And.intro (bt (Nat.le_trans hrl (by decide))) ?_
  exact q
theorem l_role {pss:List (List (List Nat))} (h:Wr (r+60) w) (h3:pss.length=3) (hps:∀ ps∈pss,d8 ps) {Q:Fl→St→Prop}
 (q:∀ (r1:Rl) w' (x7 x8 x9 x10:Option V),r1.name=name→r1.h.Ok→Wr r w'→Q .nxt (lSt v0 (some (.lst (pss.map dE))) v3 v4 (some (.md (bl (rs++[r1])))) (some (.ml ((rs++[r1]).map c7))) x7 x8 x9 x10 v11 v12 v13 v14 v15 v16 v17 (some (.str name)) v19 v20 w')) :
 gb.w (lSt v0 (some (.lst (pss.map dE))) v3 v4 (some (.md (bl rs))) (some (.ml (rs.map c7))) v7 v8 v9 v10 v11 v12 v13 v14 v15 v16 v17 (some (.str name)) v19 v20 w) Q:=by
 unfold gb
 refine bK (r:=r+59) (m:=3) h (by decide) fun k1 w1 hk1 hw1=>?_
 refine bK (r:=r+58) (m:=3) hw1 (by decide) fun k2 w2 hk2 hw2=>?_
 have hk:k2<pss.length:=h3▸hk2
 refine dq (v:=dE pss[k2]) (Nat.lt_trans hk2 (by decide)) (by rw [List.getElem?_map,List.getElem?_eq_getElem hk];rfl) ?_
 have hp:=hps _ (List.getElem_mem hk)
 generalize pss[k2]=ps at hp
 refine And.intro (by decide) ?_
 refine bK (r:=r+57) (m:=3) hw2 (by decide) fun k3 w3 hk3 hw3=>?_
 refine br (fun a=>?_) fun a=>?_
 · refine l_pats hp hw3 fun l w4 hok hw4=>?_
   exact xp hrl hnm hnd hni (hh:=.pats l) hok (q _ w4 _ _ _ _ rfl hok hw4)
 · refine l_pres hp hw3 fun l w4 hok hw4=>?_
   exact xp hrl hnm hnd hni (hh:=.pre l) hok (q _ w4 _ _ _ _ rfl hok hw4)
end
theorem kf {α:Type} {f:α→V} (g:α→Bool):∀ l:List α,(!((l.filter g).map f).isEmpty)=l.any g
 | []=>rfl
 | a::l=>by
  cases h:g a with
  | false=>rw [List.filter_cons_of_neg (by rw [h];exact Bool.false_ne_true),List.any_cons,h];exact kf g l
  | true=>rw [List.filter_cons_of_pos h,List.any_cons,h];rfl
noncomputable def fV (r:Rl):V:=.tup [.str r.name,.bool r.term]
section
variable {v0 v2 v3 v4 v5 v6 v11 v14 v15 v16 v17 v19 v20:Option V} {r:Rl} (hr:r.h.Ok) {ps:List (List Nat)} (hp:d8 ps) {l:List V} (hl:l.length≤100) {w:Wt} {Q:Fl→St→Prop}
 (q:∀ x14,Q .nxt (lSt v0 v2 v3 v4 v5 v6 (some (.bool r.term)) (some (dE ps)) (some r.h.a) (some r.h.b) v11 (some (.str (dg (bd ps)))) (some (.ml (l++cond (r.h.hit ps) [fV r] []))) x14 v15 v16 v17 (some (.str r.name)) v19 v20 w))
include hr hp hl q
theorem l_dueE {b:Bool} (hb:b=r.h.hit ps):gk.w (lSt v0 v2 v3 v4 v5 v6 (some (.bool r.term)) (some (dE ps)) (some r.h.a) (some r.h.b) v11 (some (.str (dg (bd ps)))) (some (.ml l)) (some (.bool b)) v15 v16 v17 (some (.str r.name)) v19 v20 w) Q:=by
 rw [← hb] at q
 unfold gk
 cases b with
 | true =>
  refine And.intro (by decide:2≤LIM) ?_
  refine And.intro (Nat.le_trans hl (by decide)) ?_
  exact q _
 | false=>exact (List.append_nil l)▸q (some (.bool false))
theorem l_due:fH.w (lSt v0 v2 v3 v4 v5 v6 (some (.bool r.term)) (some (dE ps)) (some r.h.a) (some r.h.b) v11 (some (.str (dg (bd ps)))) (some (.ml l)) v14 v15 v16 v17 (some (.str r.name)) v19 v20 w) Q:=by
 have fin:=fun b=>@l_dueE v0 v2 v3 v4 v5 v6 v11 v15 v16 v17 v19 v20 r hr ps hp l hl w Q q b
 obtain ⟨name,term,hh⟩:=r
 unfold fH
 cases hh with
 | pats pl =>
  refine And.intro (bt (bt (Nat.le_trans hr.1 (by decide)))) ?_
  refine jx (f:=fun t=>V.str (eE t)) (l:=pl) (Y:=Option V) (σ:=fun x=>⟨[v0,some .wref,v2,v3,v4,v5,v6,some (.bool term),some (dE ps),some (cC.pats pl).a,some (cC.pats pl).b,v11,some (.str (dg (bd ps))),some (.ml l),v14,v15,v16,v17,some (.str name),v19,v20,none,x],w⟩) (fun t=>jM t ps) (fun t=>V.str (eE t)) none (List.map_map ..) rfl (fun x t ht=>?_) fun y=>?_
  · refine xB (hr.2 t ht) hp ?_
    refine ⟨rfl,?_⟩
    exact br (fun c=>⟨rfl,_,rfl⟩) fun c=>⟨_,rfl⟩
  · refine And.intro (by decide) ?_
    refine yA ?_
    exact fin _ (kf (fun t=>jM t ps) pl)
 | pre pl =>
  refine And.intro (bt (Nat.le_trans hr.1 (by decide))) ?_
  refine jx (f:=V.str) (l:=pl) (Y:=Option V) (σ:=fun x=>⟨[v0,some .wref,v2,v3,v4,v5,v6,some (.bool term),some (dE ps),some (cC.pre pl).a,some (cC.pre pl).b,v11,some (.str (dg (bd ps))),some (.ml l),v14,v15,v16,v17,some (.str name),v19,v20,none,x],w⟩) (fun p=>(dg (bd ps)).take p.length==p) V.str none rfl rfl (fun x p hpm=>?_) fun y=>?_
  · refine And.intro (Nat.le_trans (hr.2 p hpm) (by decide)) ?_
    refine And.intro (ju (mL _) (by decide)) ?_
    refine ⟨congrArg (·==p) (fc (dg (bd ps)) p.length),?_⟩
    exact br (fun c=>⟨rfl,_,rfl⟩) fun c=>⟨_,rfl⟩
  · refine And.intro (by decide) ?_
    refine yA ?_
    exact fin _ (kf (fun p=>(dg (bd ps)).take p.length==p) pl)
end
theorem e_nedue {l:List Rl} {K:Bool→Prop} (h:K false):om (cop .NotEq (.lst (l.map fun r=>V.tup [.str r.name,.bool r.term])) (.lst (l.map fV))) K:=by
 have e:(l.map fun r=>V.tup [.str r.name,.bool r.term])=(l.map fun r=>(r.name,r.term)).map prV:=by rw [List.map_map];rfl
 have e2:l.map fV=(l.map fun r=>(r.name,r.term)).map prV:=by rw [List.map_map];rfl
 rw [e,e2];exact q8 h
theorem yx {rs:List Rl} {r:Rl} {p:Rl→Bool} {f:Rl→V} {l:List V}:(l++cond (p r) [f r] [])++(rs.filter p).map f=l++((r::rs).filter p).map f:=by
 cases h:p r with
 | true=>rw [List.filter_cons_of_pos h,List.append_assoc];rfl
 | false=>rw [List.filter_cons_of_neg (h▸Bool.false_ne_true)];exact congrArg (·++_) (List.append_nil l)
theorem zp {b:Bool} {u:V} {l:List V} {n:Nat} (h:l.length+(n+1)≤100):(l++cond b [u] []).length+n≤100:=match b with
 | true=>Nat.le_trans (Nat.le_of_eq (congrArg (· + n) List.length_append)) (rgt h)
 | false=>(List.append_nil l).symm▸u7 h
section
variable {v0 v2 v3 v4 v5 v6 v7 v9 v10 v12 v13 v14 v15 v16 v17 v18 v19 v20:Option V} {r:Nat} {w:Wt} {rs:List Rl} (hrl:rs.length≤10) (hrs:∀ r∈rs,r.h.Ok) (hnd:bF (bl rs)=true) {ps:List (List Nat)} (hp:d8 ps)
include hrl hrs hnd hp
theorem l_pathE {Q:Option Fl→St→Prop} (h:Wr (r+2) w) (q:∀ w',Wr r w'→Q (some .nxt) (lSt v0 v2 v3 v4 v5 v6 v7 (some (dE ps)) v9 v10 (some (dS rs)) v12 (some (.lst ((rs.filter fun r=>r.h.hit ps).map fV))) v14 v15 v16 v17 v18 v19 v20 w')) :
 eV.w (lSt v0 v2 v3 v4 v5 v6 v7 (some (dE ps)) v9 v10 (some (dS rs)) v12 (some (.ml ((rs.filter fun r=>r.h.hit ps).map fV))) v14 v15 v16 v17 v18 v19 v20 w) Q:=by
 have hfl:(rs.filter fun r=>r.h.hit ps).length≤10:=Nat.le_trans (List.length_filter_le _ _) hrl
 unfold eV
 refine And.intro ⟨rfl,by kernel_rfl⟩ ?_
 refine l_grR hnd hrs hp ?_
 refine ⟨bt (Nat.le_trans hfl (by decide)),?_⟩
 refine e_nedue ?_
 refine And.intro rfl ?_
 refine l_bins (r:=r) h hp.path fun w' hw'=>?_
 exact q w' hw'
theorem l_path1 {Q:Option Fl→St→Prop} (h:Wr (r+2) w) (h6:v6=some (.ml (rs.map c7))∨v6=some (.lst (rs.map c7)))
 (q:∀ w' x7 x9 x10 x12 x13 x14 x18,Wr r w'→Q (some .nxt) (lSt v0 v2 v3 v4 v5 (some (.lst (rs.map c7))) x7 (some (dE ps)) x9 x10 (some (dS rs)) x12 x13 x14 v15 v16 v17 x18 v19 v20 w')) :
 gf.w (lSt v0 v2 v3 v4 v5 v6 v7 (some (dE ps)) v9 v10 (some (dS rs)) v12 v13 v14 v15 v16 v17 v18 v19 v20 w) Q:=by
 have key:∀ R:Fl×St→Prop,(∀ x7 x9 x10 x14 x18,R (.nxt,lSt v0 v2 v3 v4 v5 (some (.lst (rs.map c7))) x7 (some (dE ps)) x9 x10 (some (dS rs)) (some (.str (dg (bd ps)))) (some (.ml ((rs.filter fun r=>r.h.hit ps).map fV))) x14 v15 v16 v17 x18 v19 v20 w)) →
  lf (cM (sC [18,7,9,10]) fH.d (rs.map c7) (lSt v0 v2 v3 v4 v5 (some (.lst (rs.map c7))) v7 (some (dE ps)) v9 v10 (some (dS rs)) (some (.str (dg (bd ps)))) (some (.ml [])) v14 v15 v16 v17 v18 v19 v20 w)) R:=by
  intro R hR
  refine gQ (f:=c7) (l:=rs) (X:=List V×Option V×Option V×Option V×Option V×Option V) (fun x=>lSt v0 v2 v3 v4 v5 (some (.lst (rs.map c7))) x.2.1 (some (dE ps)) x.2.2.1 x.2.2.2.1 (some (dS rs)) (some (.str (dg (bd ps)))) (some (.ml x.1)) x.2.2.2.2.1 v15 v16 v17 x.2.2.2.2.2 v19 v20 w)
   (fun l x=>(∀ r∈l,r.h.Ok)∧x.1.length+l.length≤100∧x.1++(l.filter fun r=>r.h.hit ps).map fV=(rs.filter fun r=>r.h.hit ps).map fV) ([],v7,v9,v10,v14,v18) ⟨hrs,Nat.le_trans (Nat.le_of_eq (Nat.zero_add _)) (Nat.le_trans hrl (by decide)),rfl⟩ rfl rfl (fun r1 l x hx=>?_) fun x hx=>?_
  · obtain ⟨acc,x7,x9,x10,x14,x18⟩:=x
    obtain ⟨h1,h2,h3⟩:=hx
    exact l_due (h1 r1 (.head _)) hp (Nat.le_of_add_right_le h2) fun y14=>⟨(_,_,_,_,y14,_),rfl,fun r h=>h1 r (.tail _ h),zp h2,yx.trans h3⟩
  · obtain ⟨acc,x7,x9,x10,x14,x18⟩:=x
    have e:acc=(rs.filter fun r=>r.h.hit ps).map fV:=(List.append_nil acc).symm.trans hx.2.2
    subst e
    exact hR x7 x9 x10 x14 x18
 unfold gf
 rcases h6 with rfl | rfl
 all_goals
  refine qO hp.path ?_
  refine gR hp.path.len ?_
  refine And.intro (by decide) ?_
  refine key _ fun x7 x9 x10 x14 x18=>?_
  exact l_pathE hrl hrs hnd hp h fun w' hw'=>q w' _ _ _ _ _ _ _ hw'
end
def qj (rs:List Rl):V:=.obj ad0.cTar (sF (dS rs))
theorem l_inl {a:List Nat} {l:List (List Nat)} {K:Bool→Prop} (h:K (l.any (·==a))):lf (cop .In (.str a) (.lst (l.map .str))) K :=
 cD (by show om (((((dm (l.map V.str)).map fun ss=>ss.any (·==a))).or _).or _) K;rw [eB];exact h)
theorem e_ne1 {a:List Nat} {K:Bool→Prop} (h:K false):om (cop .NotEq (.lst [.str a]) (.lst [.str a])) K:=by
 show K (!((a==a)&&true));rw [beq_self_eq_true];exact h
theorem any_in {rs:List Rl} {x:List Nat} (h:(rs.map (·.name)).any (·==x)=false):∀ r∈rs,r.name≠x:=fun a hr e=>Bool.false_ne_true (h.symm.trans (List.any_eq_true.mpr ⟨_,List.mem_map_of_mem hr,beq_iff_eq.mpr e⟩))
theorem any_some {rs:List Rl} {x:List Nat} (h:(rs.map (·.name)).any (·==x)=true):∃ r∈rs,r.name=x:=(List.any_eq_true.mp h).elim fun a e=>(List.mem_map.mp e.1).elim fun r q=>⟨r,q.1,q.2.trans (beq_iff_eq.mp e.2)⟩
section
variable {v0 v2 v4 v5 v6 v7 v8 v9 v10 v11 v12 v13 v14 v15 v16 v17 v19:Option V} {w:Wt} {rs:List Rl} (hnd:bF (bl rs)=true)
include hnd
theorem l_name {x:List Nat} (hx:x.length≤5) {Q:Option Fl→St→Prop} (q:∀ x15,Q (some .nxt) (lSt v0 v2 (some (.lst ((rs.map (·.name)).map .str))) v4 v5 v6 v7 v8 v9 v10 v11 v12 v13 v14 x15 v16 v17 (some (.str x)) v19 (some (qj rs)) w)) :
 gh.w (lSt v0 v2 (some (.lst ((rs.map (·.name)).map .str))) v4 v5 v6 v7 v8 v9 v10 v11 v12 v13 v14 v15 v16 v17 (some (.str x)) v19 (some (qj rs)) w) Q:=by
 have hx':x.length≤1000:=Nat.le_trans hx (by decide)
 unfold gh
 refine l_inl ?_
 refine br (fun hb=>?_) fun hb=>?_
 · refine And.intro ⟨rfl,by kernel_rfl⟩ ?_
   refine xy hnd hx' (fun r hr e=>?_) fun hno=>(any_some hb).elim fun r e=>absurd e.2 (hno r e.1)
   subst e
   conv=>whnf
   refine ⟨rfl,cI (u:=.str r.name) (by kernel_rfl) rfl ?_⟩
   refine brf (congrArg (!·) (beq_self_eq_true _)) ?_
   conv=>whnf
   refine ⟨rfl,cI (u:=.lst [.str (kNm r.name)]) (by kernel_rfl) rfl ?_⟩
   refine And.intro (Nat.le_trans (Nat.add_le_add (by decide +kernel:(L "k").length≤1) hx) (by decide)) ?_
   refine And.intro (by decide:1≤LIM) ?_
   refine e_ne1 (a:=kNm r.name) ?_
   exact q _
 · refine xt (by kernel_rfl) (xy hnd hx' (fun r hr e=>absurd e (any_in hb r hr)) fun b=>?_)
   exact q _
end
def N5:List (List Nat):=[L "m",L "b",L "z",L "a",L "K"]
def nms (t k:Nat):List (List Nat):=(N5.drop t++N5.take t).take k
theorem nms_ok:∀ t<5,∀ k<6,(nms t k).Nodup∧(nms t k).length≤5∧∀ x∈nms t k,jC x=true∧x.length≤5:=by decide +kernel
def bads:List (List Nat):=[L "",L "root",L "targets",L "snapshot",L "timestamp",L "roots",L "Root"]
def rW:List (List Nat):=[L "x",L "y",L "u"]
theorem bads_ok:∀ b∈bads,∀ j<3,(rW.set j b).Nodup∧((rW.set j b).all jC)=[L "roots",L "Root"].any (·==b)∧∀ x∈rW.set j b,x.length≤20:=by decide +kernel
def N7:List (List Nat):=[L "m",L "b",L "z",L "a",L "K",L "k",L ""]
theorem N7_ok:∀ x∈N7,x.length≤5:=by decide +kernel
theorem l_seqi {k n:Nat} {K:Nat→Prop} (h:k<n) (q:K k):lf (seqIndex? (k:Int) n) K:=cD ((fT h).symm▸q)
def rO:V:=.obj ad0.cDel (sG (.lst []) (L "r") false (.lst []) .none)
theorem qB:∀ l:List (List Nat),jh (l.map fun x=>V.tup [.str x,rO])=some (l.map fun x=>(x,rO))
 | []=>rfl
 | x::l=>congrArg (Option.map ((x,rO)::·)) (qB l)
theorem vp {α:Type} {l:List α}:(l.filter fun a=>true)=l:=List.filter_eq_self.mpr fun a a=>rfl
theorem bad_at {k:Nat} (h:k<7):∃ b∈bads,[V.str (L ""),.str (L "root"),.str (L "targets"),.str (L "snapshot"),.str (L "timestamp"),.str (L "roots"),.str (L "Root")][k]? = some (.str b) :=
 ⟨bads[k],List.getElem_mem h,(List.getElem?_map (f:=V.str) (l:=bads)).trans (congrArg (Option.map V.str) (List.getElem?_eq_getElem h))⟩
section
variable {v0 v2 v3 v4 v5 v6 v7 v8 v9 v10 v11 v12 v13 v14 v15 v16 v17 v18 v19 v20:Option V} {w:Wt} {R:Option V×Wt→Prop} (q:∀ w,R (some (.bool true),w))
include q
theorem law_12 (h:Wr 2 w):jV.w (lSt v0 v2 v3 v4 v5 v6 v7 v8 v9 v10 v11 v12 v13 v14 v15 v16 v17 v18 v19 v20 w) (iz fun v w=>R (v,w)):=by
 unfold jV
 refine And.intro (by decide:3≤LIM) ?_
 refine And.intro (by decide:7≤LIM) ?_
 refine bK (r:=1) (m:=7) h (by decide) fun k3 w4 hk3 hw4=>?_
 refine Classical.byContradiction fun hn_=>?_
 obtain ⟨bad,hbm,hbk⟩:=bad_at hk3
 refine hn_ ?_;clear hn_
 refine dq (Nat.lt_trans hk3 (by decide)) hbk ?_
 refine bK (r:=0) (m:=3) hw4 (by decide) fun k4 w5 hk4 b=>?_
 refine Classical.byContradiction fun hn_=>?_
 obtain ⟨r1,r2,r3⟩:=bads_ok bad hbm k4 hk4
 have r4:(rW.set k4 bad).length=3:=List.length_set
 have e:[V.str (L "x"),.str (L "y"),.str (L "u")].set k4 (.str bad)=(rW.set k4 bad).map .str:=(List.map_set (f:=V.str) (l:=rW) (i:=k4) (a:=bad)).symm
 refine hn_ ?_;clear hn_
 generalize rW.set k4 bad=row at r1 r2 r3 r4 e
 refine And.intro (mA (Nat.lt_trans hk4 (by decide))) ?_
 refine l_seqi hk4 ?_
 rw [e]
 refine And.intro (bt (Nat.le_trans (Nat.le_of_eq r4) (by decide))) ?_
 refine jx (f:=V.str) (l:=row) (Y:=Option V) (σ:=fun x=>⟨[v0,some .wref,v2,v3,v4,v5,v6,v7,v8,v9,v10,v11,v12,v13,v14,v15,some (.lst (row.map .str)),some (.str bad),v18,v19,v20,none,x],w5⟩) (fun b=>true) (fun x=>V.tup [.str x,rO]) none rfl rfl (fun x a ha=>?_) fun y=>?_
 · refine ⟨rfl,?_⟩
   refine And.intro rfl ?_
   refine And.intro (by decide) ?_
   refine And.intro (by decide) ?_
   refine l_del (by decide) rfl (.inl ⟨[],rfl,rfl⟩) ?_
   refine And.intro (by decide:2≤LIM) ?_
   exact ⟨rfl,_,rfl⟩
 rw [vp]
 refine cD ?_
 rw [qB]
 have hn:bF (row.map fun x=>(x,rO))=true:=decide_eq_true ((((List.map_map (f:=fun x=>(x,rO)) (g:=Prod.fst) (l:=row)).trans (List.map_id row):((row.map fun x=>(x,rO)).map (·.1))=row)).symm▸r1)
 refine ⟨⟨hn,bt (Nat.le_trans (Nat.le_of_eq r4) (by decide))⟩,?_⟩
 have hall:((row.map fun x=>(x,rO)).all fun x=>jC x.1)=[L "roots",L "Root"].any (·==bad):=(all_map _ _ row).trans r2
 refine l_mk (l_dlgU hn (gO fun x hx=>Nat.le_trans (r3 x hx) (by decide)) (fun hg v=>?_) fun hg=>?_)
 all_goals
  refine And.intro (by decide) ?_
  refine lq (l:=[L "roots",L "Root"]) ?_
  rw [← hall,hg]
  exact q _
variable {rs:List Rl} (hrl:rs.length≤10) (hrs:∀ r∈rs,r.h.Ok) (hnd:bF (bl rs)=true)
include hrl hrs hnd
theorem law_11 (h:Wr 2 w):jW.w (lSt v0 v2 (some (.lst ((rs.map (·.name)).map .str))) v4 v5 v6 v7 v8 v9 v10 v11 v12 v13 v14 v15 v16 v17 v18 v19 (some (qj rs)) w) (iz fun v w=>R (v,w)):=by
 unfold jW
 refine And.intro (by decide:7≤LIM) ?_
 refine tR (f:=V.str) (l:=N7) (X:=Option V×Option V) (fun x=>lSt v0 v2 (some (.lst ((rs.map (·.name)).map .str))) v4 v5 v6 v7 v8 v9 v10 v11 v12 v13 v14 x.1 v16 v17 x.2 v19 (some (qj rs)) w) (fun l b=>∀ x∈l,x.length≤5) (v15,v18) N7_ok rfl rfl (fun a l x hx=>?_) fun x b=>?_
 · exact l_name hnd (hx a (.head _)) fun y=>⟨(y,_),rfl,fun z hz=>hx z (.tail _ hz)⟩
 · exact law_12 q h
end
abbrev PX:=Option V×Option V×Option V×Option V×Option V×Option V×Option V×Option V×Option V×Wt
def pS (v0 v2 v3 v4 v5 v11 v15 v16 v17 v19 v20:Option V) (x:PX):St:=lSt v0 v2 v3 v4 v5 x.1 x.2.1 x.2.2.1 x.2.2.2.1 x.2.2.2.2.1 v11 x.2.2.2.2.2.1 x.2.2.2.2.2.2.1 x.2.2.2.2.2.2.2.1 v15 v16 v17 x.2.2.2.2.2.2.2.2.1 v19 v20 x.2.2.2.2.2.2.2.2.2
section
variable {v0 v4 v7 v8 v9 v10 v11 v12 v13 v14 v15 v16 v17 v18 v19 v20:Option V} {w:Wt} {R:Option V×Wt→Prop} (q:∀ w,R (some (.bool true),w)) {rs:List Rl} (hrl:rs.length≤10) (hrs:∀ r∈rs,r.h.Ok) (hnd:bF (bl rs)=true)
include q hrl hrs hnd
theorem law_8 (hg:∀ x∈bl rs,jC x.1=true∧x.1.length≤1000) {pss:List (List (List Nat))} (h3:pss.length=3) (hps:∀ ps∈pss,d8 ps) (h:Wr 8 w) :
 lE.w (lSt v0 (some (.lst (pss.map dE))) (some (.lst ((rs.map (·.name)).map .str))) v4 (some (.md (bl rs))) (some (.ml (rs.map c7))) v7 v8 v9 v10 v11 v12 v13 v14 v15 v16 v17 v18 v19 v20 w) (iz fun v w=>R (v,w)):=by
 unfold lE
 refine And.intro rfl ?_
 refine l_dlg2 hnd hg ?_
 refine And.intro rfl ?_
 refine l_tar ?_
 conv=>whnf
 refine tR (f:=dE) (l:=pss) (pS v0 (some (.lst (pss.map dE))) (some (.lst ((rs.map (·.name)).map .str))) v4 (some (.dct (bl rs))) (some (dS rs)) v15 v16 v17 v19 (some (qj rs)))
  (fun l x=>(∀ ps∈l,d8 ps)∧Wr (2+2 * l.length) x.2.2.2.2.2.2.2.2.2∧(x.1=some (.ml (rs.map c7))∨x.1=some (.lst (rs.map c7)))) (some (.ml (rs.map c7)),v7,v8,v9,v10,v12,v13,v14,v18,w) ⟨hps,h3▸h,.inl rfl⟩ rfl rfl (fun ps l x hx=>?_) fun x hx=>?_
 · exact l_path1 (r:=2+2 * l.length) hrl hrs hnd (hx.1 ps (.head _)) hx.2.1 hx.2.2 fun w' y7 y9 y10 y12 y13 y14 y18 hw'=>⟨(_,y7,_,y9,y10,y12,y13,y14,y18,w'),rfl,fun ps h=>hx.1 ps (.tail _ h),hw',.inr rfl⟩
 · exact law_11 q hrl hrs hnd hx.2.1
end
theorem nm_le {ns:List (List Nat)} (nl:ns.length≤5) {rs:List Rl} {rest:List (List Nat)} (e:ns=rs.map (·.name)++rest):rs.length+rest.length≤5 :=
 Nat.le_trans (Nat.le_of_eq (((congrArg (· + rest.length) (List.length_map (·.name)).symm).trans List.length_append.symm).trans (congrArg List.length e.symm))) nl
abbrev LX:=List Rl×Option V×Option V×Option V×Option V×Option V×Wt
def lawS (v0 v2 v3 v4:Option V) (x:LX):St:=lSt v0 v2 v3 v4 (some (.md (bl x.1))) (some (.ml (x.1.map c7))) x.2.1 x.2.2.1 x.2.2.2.1 x.2.2.2.2.1 none none none none none none none x.2.2.2.2.2.1 none none x.2.2.2.2.2.2
def lawJ (ns rest:List (List Nat)) (x:LX):Prop:=ns=x.1.map (·.name)++rest∧(∀ r∈x.1,r.h.Ok)∧Wr (8+60 * rest.length) x.2.2.2.2.2.2
def wW:List V:=[.str (L "m"),.str (L "b"),.str (L "z"),.str (L "a"),.str (L "K")]
theorem wV (k:Nat):slc (some (k:Int)) none wW=(N5.drop k).map .str:=(jg (l:=N5.map V.str) k).trans List.map_drop.symm
theorem nms_to (k:Nat):slc none (some (k:Int)) wW=(N5.take k).map .str:=(fc (l:=N5.map V.str) k).trans List.map_take.symm
theorem tK (k:Nat):slc (some (k:Int)) none wW++slc none (some (k:Int)) wW=(N5.drop k++N5.take k).map .str:=by rw [wV,nms_to,List.map_append]
theorem nms_len:∀ k<5,(N5.drop k++N5.take k).length=5:=by decide +kernel
theorem l_law {l:List Int} (hl:l.length≤1000) {R:Option V×Wt→Prop} (q:∀ w,R (some (.bool true),w)):lf (suLaw [.lst (l.map .int)] none) R:=by
 refine ib [some (.lst (l.map .int)),none,none,none,none,none,none,none,none,none,none,none,none,none,none,none,none,none,none,none,none] rfl rfl rfl ?_
 refine l_draws hl fun w hw=>?_
 refine l_paths (r:=49970) hw fun pss w hp3 hps hw=>?_
 refine And.intro (by decide:5≤LIM) ?_
 refine bK (r:=49969) (m:=5) hw (by decide) fun k1 w hk1 hw=>?_
 refine And.intro (by decide:5≤LIM) ?_
 refine And.intro (by decide:5≤LIM) ?_
 conv=>whnf
 have el:=nms_len k1 hk1
 refine ⟨?_,?_⟩
 · refine Nat.le_trans (Nat.le_of_eq (List.length_append.symm.trans (congrArg List.length (tK k1)))) (bt (Nat.le_trans (Nat.le_of_eq el) (by decide)))
 rw [show [V.str (L "m"),.str (L "b"),.str (L "z"),.str (L "a"),.str (L "K")]=wW from rfl,tK]
 refine bK (r:=49968) (m:=6) hw (by decide) fun k2 w hk2 hw=>?_
 refine And.intro (bt (Nat.le_trans (Nat.le_of_eq el) (by decide))) ?_
 rw [fc,← List.map_take]
 obtain ⟨nd,nl,ng⟩:=nms_ok k1 hk1 k2 hk2
 rw [show (N5.drop k1++N5.take k1).take k2=nms k1 k2 from rfl]
 generalize nms k1 k2=ns at nd nl ng
 refine And.intro (by decide) ?_
 refine gQ (f:=V.str) (l:=ns) (lawS (some (.lst (l.map .int))) (some (.lst (pss.map dE))) (some (.lst (ns.map .str))) (some (.int k1))) (lawJ ns) ([],none,none,none,none,none,w) ⟨rfl,⟨(fun a h=>nomatch h),hw.le (Nat.le_trans (Nat.add_le_add_left (Nat.mul_le_mul_left 60 nl) 8) (by decide))⟩⟩ rfl rfl (fun name rest x hx=>?_) fun x hx=>?_
 · obtain ⟨rs,x7,x8,x9,x10,x18,w⟩:=x
   obtain ⟨e,hok,hw⟩:=hx
   have h5:=nm_le nl e
   have nd2:=List.nodup_append.mp (e▸nd)
   have hin:name∈ns:=e▸List.mem_append_right _ (.head _)
   exact l_role (r:=8+60 * rest.length) (Nat.le_trans (Nat.le_of_add_right_le h5) (by decide)) (Nat.le_trans (ng name hin).2 (by decide)) nd2.1 (fun h=>nd2.2.2 name h name (.head _) rfl) hw hp3 hps fun r w y7 y8 y9 y10 hr hh hw =>
    ⟨(rs++[r],y7,y8,y9,y10,_,w),rfl,by rw [e,List.map_append,List.append_assoc];exact congrArg (fun y=>rs.map (·.name)++y::rest) hr.symm,fun z hz=>(List.mem_append.mp hz).elim (hok z) fun k=>List.mem_singleton.mp k▸hh,hw⟩
 · obtain ⟨rs,x7,x8,x9,x10,x18,w⟩:=x
   obtain ⟨e,hok,hw⟩:=hx
   have e:=e.trans (List.append_nil _)
   subst e
   exact law_8 q (Nat.le_trans (Nat.le_trans (Nat.le_of_eq (List.length_map _).symm) nl) (by decide)) hok (wT nd) (fun x hx=>(ng x.1 ((gM rs)▸List.mem_map_of_mem hx)).imp id fun h=>Nat.le_trans h (by decide)) hp3 hps hw
end
section
open PySem PySem.W PyProof.Rows PySem.SeqAt
noncomputable def nQ:aq:=[("make",.local),("ValueError",.globalImplicit)]
set_option backward.match.sparseCases false in
noncomputable def clB:Stmt→List Stmt
 | .ClassDef _ _ _ b _ _ _ _ _ _ _=>b
 | _=>[]
def mAt (i j:Nat):Stmt:=(clB (gE i)).getD j (.Pass ⟨0,0,0,0⟩)
noncomputable def ia:Program:=PySem.Challenge.rw_jk0047_01.row.prog
noncomputable def tbl:List Addr:=[97,261,396,590,597]
def tbs:List (Addr×Addr):=[(ad0.cd_sig,ad0.tb_sig),(ad0.cd_del,ad0.tb_del),(ad0.cd_dlg,ad0.tb_dlg),(ad0.cd_bins,ad0.tb_bins),(ad0.cd_bins,ad0.tb_bins),(ad0.cd_law,ad0.tb_law),(ad0.cd_law,ad0.tb_law)]
set_option backward.match.sparseCases false in
noncomputable def asFunc:Data→FuncData
 | .func fd=>fd
 | _=>default
set_option backward.match.sparseCases false in
noncomputable def kV:Value→Nat
 | .str _ _=>1
 | .int _ _=>2
 | .bool _=>3
 | _=>0
set_option backward.match.sparseCases false in
noncomputable def sV:Value→Str
 | .str s _=>s
 | _ => ""
set_option backward.match.sparseCases false in
noncomputable def aV:Value→Addr
 | .ref a=>a
 | _=>0
theorem vh {v:Value}:(kV v=1→∃ a b,v=.str a b)∧(kV v=2→∃ a b,v=.int a b)∧(kV v=3→∃ a,v=.bool a):=by
 cases v<;>refine ⟨?_,?_,?_⟩<;>intro h<;>first | exact ⟨_,_,rfl⟩ | exact ⟨_,rfl⟩ | exact nomatch h
set_option backward.match.sparseCases false in
noncomputable def s6:Data→Array Value
 | .fields vs=>vs
 | _=>#[]
noncomputable def dz (K:Frag) (a:Addr):Data:=(K.lookup a).elim .plain (·.data)
def df (K:Frag) (a:Addr):FuncData:=asFunc (dz K a)
def cdB (K:Frag) (fd:FuncData):Bool:=fd.code==.ref (aV fd.code)&&((s6 (dz K (aV fd.code)))[1]?).any fun v=>kV v==1&&sV v==fd.qualname
noncomputable def uh (fd:FuncData):Bool:=fd.globals==mainGlobals&&fd.builtins==builtinsNs&&!fd.scope.isCoroutine&&fd.scope.kind==.function
noncomputable def parB (names:aq) (params:List Str):Bool:=params.all (fun p=>names.lookup p==some .local||names.lookup p==some .cell)&&decide (names.map (·.1)).Nodup&&names.all fun x=>x.2 != .free
structure FE (K:Frag) (a:Addr) (names:aq) (params:List Str) (body:List Stmt) (gen:Bool):Prop where
 h1:dz K a=.func (df K a)
 h2:cdB K (df K a)=true
 h3:(df K a).body=.stmts body
 h4:(df K a).scope.names=names
 h5:uh (df K a)=true
 h6:(df K a).closure=[]
 h7:(df K a).scope.isGenerator=gen
 h8:∀ xs:List Value,xs.length=params.length→bindArgs (df K a) ⟨xs,[]⟩=pure (params.zip xs)
structure IE (K:Frag) (a:Addr) (names:aq) (slf:Str) (params:List Str) (body:List Stmt) (nd:Nat):Prop where
 h1:dz K a=.func (df K a)
 h2:cdB K (df K a)=true
 h3:(df K a).body=.stmts body
 h4:(df K a).scope.names=names
 h5:uh (df K a)=true
 h7:(df K a).scope.isGenerator=false
 h8:∀ (S:Setting) (x:Value) (xs:List Value),xs.length+nd=params.length→peek K S (bindArgs (df K a) ⟨x::xs,[]⟩)=some ((slf,x)::params.zip (xs++List.replicate nd .none))
def codeB (K:Frag) (cda:Addr):Bool:=((s6 (dz K cda))[2]?).any fun v=>kV v==1&&(ia.main.file:Str)==sV v
structure SuE (K:Frag) (a C f2 cc cda:Addr):Prop where
 clo:(df K a).closure=[(("__class__" : Str),cc)]
 cde:(df K a).code=.ref cda
 cell:dz K cc=.cell (some (.ref C))
 codeo:codeB K cda=true
 cls:(clsIn K C).isSome=true
 sub:mroIn K C (.ref C)=some true
 head:((df K a).params.posonlyargs++(df K a).params.args).head?.any (fun ar=>ar.arg==("self" : Str))=true
 hm:ks_superIn K C C "__init__" = some (some (.ref f2))
 ht:typeIn K (.ref f2)=some (.type "function")
 keep:fnIn K f2=true
def cX (K:Frag) (a:Addr) (x:Str):Option Value:=match dz K a with
 | .dict es _=>nsFind es x
 | _=>none
structure KF (K:Frag):Prop where
 f_next:FE K 529 mf ["w","many"] (fnB (gE 22)) false
 f_draws:FE K 522 kQ ["script"] (fnB (gE 21)) false
 f_digest:FE K ad0.a_law_digest jo ["data","algo"] (fnB (gE 23)) false
 f_part:FE K 541 me ["w"] (fnB (gE 24)) false
 f_piece:FE K 548 kN ["w","part"] (fnB (gE 25)) false
 f_tokens:FE K 555 jl ["piece"] (fnB (gE 26)) false
 f_holds:FE K 562 kO ["inner","sign"] (fnB (gE 27)) false
 f_fits:FE K 569 fW ["tokens","text"] (fnB (gE 28)) false
 f_covers:FE K 574 jp ["pattern","path"] (fnB (gE 29)) false
 f_prefix_:FE K 581 jm ["w","path"] (fnB (gE 30)) false
 f_chunks:FE K 68 fA ["inner"] (fnB (gE 8)) false
 f_class_:FE K 73 gy ["sign","inner"] (fnB (gE 9)) false
 f_case_:FE K 80 iF ["name","pattern"] (fnB (gE 10)) false
 f_hex:FE K 319 n_hex ["number","length"] (fnB (gE 16)) false
 f_inpat:FE K ad0.m_inpat tM ["targetpath","pathpattern"] (fnB (mAt 15 4)) false
 f_isdp:FE K ad0.m_isdp w7 ["self","target_filepath","digest"] (fnB (mAt 15 5)) false
 f_grft:FE K ad0.m_grft w8 ["self","target_filepath","digest"] (fnB (mAt 17 4)) false
 f_isdr:FE K ad0.m_isdr r6 ["self","role_name"] (fnB (mAt 17 6)) false
 f_gdr:FE K ad0.m_gdr n_gdr ["self","delegated_role"] (fnB (mAt 19 7)) false
 f_gr:FE K ad0.m_gr n_gr ["self","target_filepath","digest"] (fnB (mAt 18 4)) true
 f_bins:FE K ad0.a_law_bins r7 ["w","path"] (fnB (gE 32)) false
 f_law:FE K 600 w6 ["script"] (fnB (gE 33)) false
 f_refu:FE K ad0.a_law_refused nQ ["make"] (fnB (gE 31)) false
 i_sig:IE K 102 iG "self" ["version","spec_version","expires","unrecognized_fields"] (fnB (mAt 11 2)) 0
 i_rol:IE K 155 jq "self" ["keyids","threshold","unrecognized_fields"] (fnB (mAt 12 0)) 0
 i_del:IE K 266 mn "self" ["name","keyids","threshold","terminating","paths","path_hash_prefixes","unrecognized_fields"] (fnB (mAt 15 0)) 1
 i_suc:IE K 336 mj "self" ["keyids","threshold","bit_length","name_prefix","unrecognized_fields"] (fnB (mAt 17 0)) 1
 i_tar:IE K 456 mh "self" ["version","spec_version","expires","targets","delegations","unrecognized_fields"] (fnB (mAt 19 1)) 1
 i_dlg1:IE K 401 eF "self" ["keys","roles","succinct_roles","unrecognized_fields"] (fnB (mAt 18 0)) 1
 i_dlg2:IE K 401 eF "self" ["keys","roles","succinct_roles","unrecognized_fields"] (fnB (mAt 18 0)) 2
 gn:(["len","abs","range","list","bytes","int","sum","any","all","isinstance","set","str","zip","dict","ValueError","super"]:List Str).all (fun x=>(cX K mainGlobals x).isNone)=true
 g_law_draws:cX K mainGlobals "_law_draws" = some (.ref 522)
 g_law_next:cX K mainGlobals "_law_next" = some (.ref 529)
 g_law_digest:cX K mainGlobals "_law_digest" = some (.ref ad0.a_law_digest)
 g_law_part:cX K mainGlobals "_law_part" = some (.ref 541)
 g_law_piece:cX K mainGlobals "_law_piece" = some (.ref 548)
 g_law_tokens:cX K mainGlobals "_law_tokens" = some (.ref 555)
 g_law_holds:cX K mainGlobals "_law_holds" = some (.ref 562)
 g_law_fits:cX K mainGlobals "_law_fits" = some (.ref 569)
 g_law_covers:cX K mainGlobals "_law_covers" = some (.ref 574)
 g_law_prefix:cX K mainGlobals "_law_prefix" = some (.ref 581)
 g_fnmatch_chunks:cX K mainGlobals "_fnmatch_chunks" = some (.ref 68)
 g_fnmatch_class:cX K mainGlobals "_fnmatch_class" = some (.ref 73)
 g_fnmatchcase:cX K mainGlobals "_fnmatchcase" = some (.ref 80)
 g_hex:cX K mainGlobals "_hex" = some (.ref 319)
 g_law_bins:cX K mainGlobals "_law_bins" = some (.ref ad0.a_law_bins)
 g_law_refused:cX K mainGlobals "_law_refused" = some (.ref ad0.a_law_refused)
 g_law:cX K mainGlobals "law" = some (.ref 600)
 g_DelegatedRole:cX K mainGlobals "DelegatedRole" = some (.ref ad0.cDel)
 g_Delegations:cX K mainGlobals "Delegations" = some (.ref ad0.cDlg)
 g_SuccinctRoles:cX K mainGlobals "SuccinctRoles" = some (.ref ad0.cSuc)
 g_Targets:cX K mainGlobals "Targets" = some (.ref ad0.cTar)
 g_SPECIFICATION_VERSION:cX K mainGlobals "SPECIFICATION_VERSION" = some (.ref ad0.c_SPECIFICATION_VERSION)
 g_TOP_LEVEL_ROLE_NAMES:cX K mainGlobals "TOP_LEVEL_ROLE_NAMES" = some (.ref ad0.c_TOP_LEVEL_ROLE_NAMES)
 sys:(K.lookup sysModules).isSome=true
 spec:K.lookup ad0.c_SPECIFICATION_VERSION=some { cls:=.type "list",data:=.seq #[.str (S (L "1")) 254,.str (S (L "0")) 255,.str (S (L "31")) 256] }
 top:K.lookup ad0.c_TOP_LEVEL_ROLE_NAMES=some { cls:=.type "tuple",data:=.seq #[.str (S (L "root")) 258,.str (S (L "timestamp")) 259,.str (S (L "snapshot")) 260,.str (S (L "targets")) 261] }
 at_cDel_keyids:hV K ad0.cDel "keyids"
 at_cDel_name:hV K ad0.cDel "name"
 at_cDel_path_hash_prefixes:hV K ad0.cDel "path_hash_prefixes"
 at_cDel_paths:hV K ad0.cDel "paths"
 at_cDel_terminating:hV K ad0.cDel "terminating"
 at_cDlg_roles:hV K ad0.cDlg "roles"
 at_cDlg_succinct_roles:hV K ad0.cDlg "succinct_roles"
 at_cSuc_bit_length:hV K ad0.cSuc "bit_length"
 at_cSuc_name_prefix:hV K ad0.cSuc "name_prefix"
 at_cSuc_number_of_bins:hV K ad0.cSuc "number_of_bins"
 at_cSuc_suffix_len:hV K ad0.cSuc "suffix_len"
 at_cTar_delegations:hV K ad0.cTar "delegations"
 st_cDel_keyids:dN K ad0.cDel "keyids"
 st_cDel_name:dN K ad0.cDel "name"
 st_cDel_path_hash_prefixes:dN K ad0.cDel "path_hash_prefixes"
 st_cDel_paths:dN K ad0.cDel "paths"
 st_cDel_terminating:dN K ad0.cDel "terminating"
 st_cDel_threshold:dN K ad0.cDel "threshold"
 st_cDel_unrecognized_fields:dN K ad0.cDel "unrecognized_fields"
 st_cDlg_keys:dN K ad0.cDlg "keys"
 st_cDlg_roles:dN K ad0.cDlg "roles"
 st_cDlg_succinct_roles:dN K ad0.cDlg "succinct_roles"
 st_cDlg_unrecognized_fields:dN K ad0.cDlg "unrecognized_fields"
 st_cSuc_bit_length:dN K ad0.cSuc "bit_length"
 st_cSuc_keyids:dN K ad0.cSuc "keyids"
 st_cSuc_name_prefix:dN K ad0.cSuc "name_prefix"
 st_cSuc_number_of_bins:dN K ad0.cSuc "number_of_bins"
 st_cSuc_suffix_len:dN K ad0.cSuc "suffix_len"
 st_cSuc_threshold:dN K ad0.cSuc "threshold"
 st_cSuc_unrecognized_fields:dN K ad0.cSuc "unrecognized_fields"
 st_cTar_delegations:dN K ad0.cTar "delegations"
 st_cTar_expires:dN K ad0.cTar "expires"
 st_cTar_spec_version:dN K ad0.cTar "spec_version"
 st_cTar_targets:dN K ad0.cTar "targets"
 st_cTar_unrecognized_fields:dN K ad0.cTar "unrecognized_fields"
 st_cTar_version:dN K ad0.cTar "version"
 me_cDel_is_delegated_path:pR K ad0.cDel "is_delegated_path" ad0.m_isdp
 me_cDlg_get_roles_for_target:pR K ad0.cDlg "get_roles_for_target" ad0.m_gr
 me_cSuc_get_role_for_target:pR K ad0.cSuc "get_role_for_target" ad0.m_grft
 me_cSuc_is_delegated_role:pR K ad0.cSuc "is_delegated_role" ad0.m_isdr
 me_cTar_get_delegated_role:pR K ad0.cTar "get_delegated_role" ad0.m_gdr
 sm:SmOk K ad0.cDel "_is_target_in_pathpattern" ad0.m_inpat
 kp_a_law_bins:keepIn K (.ref ad0.a_law_bins)=true
 kp_a_law_digest:keepIn K (.ref ad0.a_law_digest)=true
 kp_cDel:keepIn K (.ref ad0.cDel)=true
 kp_cDlg:keepIn K (.ref ad0.cDlg)=true
 kp_cSuc:keepIn K (.ref ad0.cSuc)=true
 kp_cTar:keepIn K (.ref ad0.cTar)=true
 kp_refused:keepIn K (.ref ad0.a_law_refused)=true
 tr_cDel:findIn K (.ref ad0.cDel) "__bool__" = some none∧findIn K (.ref ad0.cDel) "__len__" = some none
 tr_cSuc:findIn K (.ref ad0.cSuc) "__bool__" = some none∧findIn K (.ref ad0.cSuc) "__len__" = some none
 mk_del:makesIn K ad0.cDel=true∧findIn K (.ref ad0.cDel) "__init__" = some (some (.ref 266))∧isFn K (.ref 266)=true
 mk_suc:makesIn K ad0.cSuc=true∧findIn K (.ref ad0.cSuc) "__init__" = some (some (.ref 336))∧isFn K (.ref 336)=true
 mk_tar:makesIn K ad0.cTar=true∧findIn K (.ref ad0.cTar) "__init__" = some (some (.ref 456))∧isFn K (.ref 456)=true
 mk_dlg:makesIn K ad0.cDlg=true∧findIn K (.ref ad0.cDlg) "__init__" = some (some (.ref 401))∧isFn K (.ref 401)=true
 su_del:SuE K 266 ad0.cDel 155 253 265
 su_suc:SuE K 336 ad0.cSuc 155 323 335
 su_tar:SuE K 456 ad0.cTar 102 443 455
 cd_sig:(df K 102).code=.ref ad0.cd_sig
 cd_del:(df K 266).code=.ref ad0.cd_del
 cd_dlg:(df K 401).code=.ref ad0.cd_dlg
 cd_bins:(df K ad0.a_law_bins).code=.ref ad0.cd_bins
 cd_law:(df K 600).code=.ref ad0.cd_law
structure Tq (g:Gx) (K:Frag):Prop where
 F:KF K
 KI:K.In g.h0
 G:GOk g
 gl:∀ x,g.mg x=cX K mainGlobals x
 prog:g.prog=ia
 tb:g.tb=tbs
section
variable {g:Gx} {K:Frag} {a:Addr} {names:aq} {params:List Str} {body:List Stmt}
theorem lD {d:Data} (h:dz K a=d) (hd:d≠.plain):∃ o,K.lookup a=some o∧o.data=d:=by
 unfold dz at h
 cases e:K.lookup a with
 | none=>rw [e] at h;exact absurd h.symm hd
 | some o=>exact ⟨o,rfl,by rw [e] at h;exact h⟩
theorem uf {i:Nat} {c:Addr} {x:Value} (h:(s6 (dz K c))[i]? = some x):∃ o vs,K.lookup c=some o∧o.data=.fields vs∧vs[i]? = some x:=by
 cases e:dz K c with
 | fields vs=>rw [e] at h;exact (lD e (fun e=>nomatch e)).imp fun o q=>⟨vs,q.1,q.2,h⟩
 | _=>rw [e] at h;exact nomatch h
theorem bX (KI:K.In g.h0) (h:dz K a=.func (df K a)):FnAt g a (df K a):=(lD h fun e=>nomatch e).elim fun b q=>⟨_,KI _ _ q.1,q.2⟩
theorem uD {fd:FuncData} (KI:K.In g.h0) (h:cdB K fd=true):g.h0.CodeRec fd.code fd.qualname :=
 (Bool.and_eq_true_iff.mp h).elim fun e h=>((Option.any_eq_true ..).mp h).elim fun v h=>(Bool.and_eq_true_iff.mp h.2).elim fun k s=>(vh.1 (beq_iff_eq.mp k)).elim fun q hq=>hq.elim fun t e3=>(uf h.1).elim fun o h1=>h1.elim fun vs h1 =>
  ⟨aV fd.code,o,vs,t,beq_iff_eq.mp e,KI _ _ h1.1,h1.2.1,h1.2.2.trans (congrArg some (e3.trans (congrArg (Value.str · t) ((congrArg sV e3).symm.trans (beq_iff_eq.mp s)))))⟩
theorem ug {fd:FuncData} (h:uh fd=true):fd.globals=mainGlobals∧fd.builtins=builtinsNs∧fd.scope.isCoroutine=false∧fd.scope.kind=.function:=by
 unfold uh at h
 simp only [Bool.and_eq_true,beq_iff_eq,Bool.not_eq_true'] at h
 exact ⟨h.1.1.1,h.1.1.2,h.1.2,h.2⟩
theorem par_at (h:parB names params=true):(∀ p∈params,names.lookup p=some .local∨names.lookup p=some .cell)∧(names.map (·.1)).Nodup∧∀ x∈names,x.2≠.free:=by
 unfold parB at h
 simp only [Bool.and_eq_true,List.all_eq_true,Bool.or_eq_true,beq_iff_eq,decide_eq_true_eq,bne_iff_ne] at h
 exact ⟨h.1.1,h.1.2,h.2⟩
theorem FE.ok {b:Bool} (KI:K.In g.h0) (F:FE K a names params body b) (hp:parB names params=true):vR b g a (df K a) names params body :=
 have h:=ug F.h5
 have p:=par_at hp
 ⟨bX KI F.h1,uD KI F.h2,F.h3,F.h4,F.h6,h.1,h.2.1,h.2.2.1,F.h7,h.2.2.2,F.h8,p.1,p.2.1,p.2.2⟩
noncomputable def inB (names:aq) (slf:Str) (params:List Str):Bool:=params.all (fun p=>names.lookup p==some .local)&&names.lookup slf==some .local&&!params.contains slf&&decide (names.map (·.1)).Nodup&&names.all fun x=>x.2 != .cell
theorem IE.ok {slf:Str} {nd:Nat} (KI:K.In g.h0) (F:IE K a names slf params body nd) (hp:inB names slf params=true):FnI g a (df K a) names slf params body nd:=by
 have h:=ug F.h5
 refine Classical.byContradiction fun hn_=>?_
 unfold inB at hp
 simp only [Bool.and_eq_true,List.all_eq_true,beq_iff_eq,decide_eq_true_eq,bne_iff_ne,Bool.not_eq_true',List.contains_eq_mem,decide_eq_false_iff_not] at hp
 obtain ⟨⟨⟨⟨p1,p2⟩,p3⟩,p4⟩,p5⟩:=hp
 refine hn_ ?_;clear hn_
 exact ⟨bX KI F.h1,uD KI F.h2,F.h3,F.h4,h.1,h.2.1,h.2.2.1,F.h7,h.2.2.2,fun s k x xs e M A E Q q=>Looks.of_peek (M:=M) (KI.keeps k) (F.h8 _ x xs e) A Q E s (fun b b e=>e) q,p1,p2,p3,p4,p5⟩
noncomputable def atB (K:Frag) (C:Addr) (name:Str):Bool:=plainGet K C name&&hasDictIn K C&&(findIn K (.ref C) name).any (noGet K)
theorem gC {C:Addr} {name:Str} (h:atB K C name=true):hV K C name:=by
 unfold atB at h
 simp only [Bool.and_eq_true,Option.any_eq_true] at h
 exact ⟨h.1.1,h.1.2,h.2⟩
theorem Tq.gv (T:Tq g K) {x:Str} {v:Option Value} (h:cX K mainGlobals x=v):g.mg x=v:=(T.gl x).trans h
theorem Tq.n (T:Tq g K) {x:Str} (h:(["len","abs","range","list","bytes","int","sum","any","all","isinstance","set","str","zip","dict","ValueError","super"]:List Str).contains x=true):g.mg x=none:=T.gv (Option.isNone_iff_eq_none.mp (List.all_eq_true.mp T.F.gn x (List.contains_iff_mem.mp h)))
theorem cell_at {cc C:Addr} (h:dz K cc=.cell (some (.ref C))):∃ cl cld csl,K.lookup cc=some ⟨cl,cld,.cell (some (.ref C)),csl⟩:=by
 obtain ⟨⟨cl,d,da,sl⟩,h1,h2⟩:=lD h fun e=>nomatch e
 cases h2
 exact ⟨cl,d,sl,h1⟩
theorem code_su {cda:Addr} (h:codeB K cda=true):∃ ccl cdd vs ccs file tf,K.lookup cda=some ⟨ccl,cdd,.fields vs,ccs⟩∧vs[2]? = some (.str file tf)∧((ia.main.file:Str)==file)=true:=by
 refine ((Option.any_eq_true ..).mp h).elim fun v h=>(Bool.and_eq_true_iff.mp h.2).elim fun k s=>(vh.1 (beq_iff_eq.mp k)).elim fun q hq=>hq.elim fun t e3=>?_
 obtain ⟨⟨cl,d,da,sl⟩,vs,h1,h2,h3⟩:=uf h.1
 cases h2
 exact ⟨cl,d,vs,sl,q,t,h1,h3.trans (congrArg some e3),(congrArg ((ia.main.file:Str)==sV ·) e3).symm.trans s⟩
theorem SuE.ok {C f2 cc cda:Addr} (T:Tq g K) (H:SuE K a C f2 cc cda) (h1:names.lookup ("super" : Str)=some .globalImplicit) (h2:names.lookup ("__class__" : Str)=some .free) :
 SuOk g K a C C f2 cc cda (df K a) names "self" :=
 ⟨H.clo,H.cde,cell_at H.cell,T.prog▸code_su H.codeo,T.prog▸(by decide +kernel),Option.isSome_iff_exists.mp H.cls,Option.isSome_iff_exists.mp H.cls,H.sub,T.n (by decide +kernel),h1,h2,((Option.any_eq_true ..).mp H.head).imp fun b=>And.imp_right beq_iff_eq.mp,H.hm,H.ht,H.keep⟩
theorem Tq.ref (T:Tq g K):RefOk g K ad0.a_law_refused :=
 have hv:g.mg "ValueError" = none:=T.n (by decide +kernel)
 ⟨⟨df K ad0.a_law_refused,nQ,_,_,_,_,_,_,_,_,_,_,_,_,T.F.f_refu.ok T.KI (by decide +kernel),rfl,rfl,by decide +kernel,fun b=>rfl,fun b=>rfl⟩,T.F.kp_refused,hv⟩
end
section
variable {g:Gx} {K:Frag} {c:SC} {k:Nat} {x:Str} {pos:Pos} {a:Addr}
theorem bb_sum:bootBuiltins "sum" = some (.builtin "sum"):=by decide +kernel
theorem bb_any:bootBuiltins "any" = some (.builtin "any"):=by decide +kernel
theorem bb_all:bootBuiltins "all" = some (.builtin "all"):=by decide +kernel
theorem nE:bootBuiltins "isinstance" = some (.builtin "isinstance"):=by decide +kernel
theorem bb_set:bootBuiltins "set" = some (.type "set"):=by decide +kernel
theorem bb_str:bootBuiltins "str" = some (.type "str"):=by decide +kernel
theorem bb_zip:bootBuiltins "zip" = some (.type "zip"):=by decide +kernel
theorem bb_dict:bootBuiltins "dict" = some (.type "dict"):=by decide +kernel
theorem q7 {id:String} (T:Tq g K) (h:(["len","abs","range","list","bytes","int","sum","any","all","isinstance","set","str","zip","dict","ValueError","super"]:List Str).contains x=true) (hb:bootBuiltins x=some (.type id)) (hn:x ≠ "__name__") (hd:(x==("__debug__" : Str))=false) (hk:c.kind x=some .globalImplicit):ak g c k (.Name x pos) (dk (.ty id)) :=
 aD (yN T.G hk (T.n h) hb hn hd)
theorem vr {id:String} (T:Tq g K) (h:(["len","abs","range","list","bytes","int","sum","any","all","isinstance","set","str","zip","dict","ValueError","super"]:List Str).contains x=true) (hb:bootBuiltins x=some (.builtin id)) (hn:x ≠ "__name__") (hd:(x==("__debug__" : Str))=false) (hk:c.kind x=some .globalImplicit):ak g c k (.Name x pos) (dk (.bi id)) :=
 aD (y5 T.G hk (T.n h) hb hn hd)
theorem jE (T:Tq g K) (h:cX K mainGlobals x=some (.ref a)) (hd:(x==("__debug__" : Str))=false) (hk:c.kind x=some .globalImplicit):ak g c k (.Name x pos) (dk (.adr a)):=aD (yW T.G hk (T.gv h) hd)
theorem dW (T:Tq g K) (hk:c.kind "len" = some .globalImplicit):ak g c k (.Name "len" pos) (dk (.bi "len")):=vr T (by decide +kernel) bb_len (by decide +kernel) rfl hk
theorem e_abs (T:Tq g K) (hk:c.kind "abs" = some .globalImplicit):ak g c k (.Name "abs" pos) (dk (.bi "abs")):=vr T (by decide +kernel) bb_abs (by decide +kernel) rfl hk
theorem eO (T:Tq g K) (hk:c.kind "range" = some .globalImplicit):ak g c k (.Name "range" pos) (dk (.ty "range")):=q7 T (by decide +kernel) zR (by decide +kernel) rfl hk
theorem sI (T:Tq g K) (hk:c.kind "list" = some .globalImplicit):ak g c k (.Name "list" pos) (dk (.ty "list")):=q7 T (by decide +kernel) bb_list (by decide +kernel) rfl hk
theorem e_bytes (T:Tq g K) (hk:c.kind "bytes" = some .globalImplicit):ak g c k (.Name "bytes" pos) (dk (.ty "bytes")):=q7 T (by decide +kernel) zT (by decide +kernel) rfl hk
theorem uo (T:Tq g K) (hk:c.kind "int" = some .globalImplicit):ak g c k (.Name "int" pos) (dk (.ty "int")):=q7 T (by decide +kernel) bb_int (by decide +kernel) rfl hk
end
section
variable {g:Gx} {K:Frag} (T:Tq g K) {k:Nat}
include T
theorem mq:Con g (k+1) 529 bE:=by
 refine cy (cd:=none) T.G (T.F.f_next.ok T.KI (by decide +kernel)) ?_;delta m9;show bO _ _ _ (_::_) _;repeat' first | ((with_reducible show ak _ _ _ _ _);first | ((with_reducible refine aR ?_ ?_ ?_);rfl;rfl;rfl) | with_reducible exact aD bc | with_reducible refine bP ?_ ?_ | with_reducible refine bZ ?_ ?_ ?_ | with_reducible refine ca cr ?_ ?_ (an ?_) af | (refine ux (b:=true) ?_) | (refine ux (b:=false) ?_) | ((with_reducible refine dW T ?_);rfl)) | ((with_reducible show cO _ _ _ _ _);first | ((with_reducible refine aH ?_ ?_ ?_ ?_);rotate_left;(first | exact .inl rfl | exact .inr rfl);rfl;exact fun a=>rfl) | with_reducible refine bI ?_ ?_ ?_ | with_reducible refine bu ?_ | (refine vw ?_ ?_ ?_)) | with_reducible refine aC ?_ ?_ | with_reducible exact aJ | with_reducible refine aQ ?_ ?_ ?_ | rfl | exact fun a=>rfl | exact fun a a=>rfl
theorem k_draws:Con g (k+1) 522 oH:=by
 refine cy (cd:=none) T.G (T.F.f_draws.ok T.KI (by decide +kernel)) ?_;delta k6;show bO _ _ _ (_::_) _;repeat' first | ((with_reducible refine aR ?_ ?_ ?_);rfl;rfl;rfl) | with_reducible exact aD bc | with_reducible refine bP ?_ ?_ | with_reducible refine cE ?_ ?_ ?_ | with_reducible refine ca un_abs ?_ ?_ (an ?_) af | ((with_reducible refine e_abs T ?_);rfl) | ((with_reducible refine eO T ?_);rfl) | with_reducible exact aU | ((with_reducible show cO _ _ _ _ _);first | ((with_reducible refine aH ?_ ?_ ?_ ?_);rotate_left;(first | exact .inl rfl | exact .inr rfl);rfl;exact fun a=>rfl) | with_reducible refine cT ?_ ?_ ?_ ?_ | ((with_reducible refine ip ?_ ?_ ?_ ?_ ?_ ?_ (fy ?_));rotate_left;rfl;rfl;rfl;exact fun a=>rfl;rfl;rfl) | ((with_reducible refine fG ?_ ?_ ?_);rotate_left;(first | exact .inl rfl | exact .inr rfl);rfl) | ((refine yR ?_ ?_ ?_);rfl;rfl;rfl)) | with_reducible refine aC ?_ ?_ | with_reducible exact aJ | with_reducible refine cG ?_ | with_reducible refine cY ?_ ?_ (an ?_) af | ((with_reducible refine bh ?_ ?_);(first | exact .inl rfl | exact .inr rfl);rfl) | ((with_reducible show hJ _ _ _ _ _);first | rfl | show ak _ _ _ _ _) | rfl | exact fun a a=>rfl
theorem gS:Con g (k+1) ad0.a_law_digest eC:=by
 refine cy (cd:=none) T.G (T.F.f_digest.ok T.KI (by decide +kernel)) ?_;delta jT;show bO _ _ _ (_::_) _;repeat' first | ((with_reducible refine aR ?_ ?_ ?_);rfl;rfl;rfl) | with_reducible exact aD bc | with_reducible exact aD (ba _) | with_reducible refine bP ?_ ?_ | with_reducible refine bZ ?_ ?_ ?_ | with_reducible refine cE ?_ ?_ ?_ | with_reducible refine vz ?_ ?_ (an ?_) af | with_reducible refine cF ?_ | ((with_reducible refine eO T ?_);rfl) | ((with_reducible refine e_bytes T ?_);rfl) | with_reducible refine aP ?_ ?_ (aA ?_) | with_reducible exact aU | ((with_reducible refine aH ?_ ?_ ?_ ?_);rotate_left;(first | exact .inl rfl | exact .inr rfl);rfl;exact fun a=>rfl) | with_reducible refine bu ?_ | with_reducible refine cT ?_ ?_ ?_ ?_ | with_reducible refine aC ?_ ?_ | with_reducible exact aJ | with_reducible refine cG ?_ | with_reducible refine cY ?_ ?_ (an ?_) af | ((with_reducible refine bh ?_ ?_);(first | exact .inl rfl | exact .inr rfl);rfl) | ((with_reducible show hJ _ _ _ _ _);first | rfl | show ak _ _ _ _ _) | rfl | exact fun a a=>rfl
theorem xG:Con g (k+2) 541 oE:=by
 refine cy (cd:=none) T.G (T.F.f_part.ok T.KI (by decide +kernel)) ?_;delta m8;show bO _ _ _ (_::_) _;repeat' first | with_reducible exact aD bc | with_reducible exact aD (ba _) | with_reducible refine aW ?_ (bX T.KI T.F.f_next.h1) (mq T) ?_ (au ?_) af | ((with_reducible refine jL ?_ ?_ ?_);rfl;rfl;rfl) | with_reducible refine bZ ?_ ?_ ?_ | with_reducible refine cL pO F.slot_str_join F.type_str_join rV ?_ ?_ ?_ (an ?_) ?_ | ((with_reducible refine jK ?_ rfl ?_ (mB ?_) ?_ ?_ ?_ ?_ ?_ ?_ ?_);kernel_rfl;rfl;kernel_rfl;rfl) | ((with_reducible refine eO T ?_);rfl) | ((with_reducible refine jE T ?_ ?_ ?_);(with_reducible exact T.F.g_law_next);rfl;rfl) | with_reducible refine aP ?_ ?_ (aA ?_) | with_reducible exact aU | with_reducible refine bu ?_ | with_reducible refine aC ?_ ?_ | with_reducible exact aJ | with_reducible refine cY ?_ ?_ (an ?_) af | ((with_reducible refine bh ?_ ?_);(first | exact .inl rfl | exact .inr rfl);rfl) | ((with_reducible show pW _ _ _ _ _);first | rfl) | rfl | exact fun a=>rfl | exact fun a a=>rfl
theorem k_piece:Con g (k+3) 548 oB:=by
 refine cy (cd:=none) T.G (T.F.f_piece.ok T.KI (by decide +kernel)) ?_;delta kY;show bO _ _ _ (_::_) _;repeat' first | ((with_reducible refine aR ?_ ?_ ?_);rfl;rfl;rfl) | with_reducible exact aD bc | with_reducible exact aD (ba _) | with_reducible refine aW ?_ (bX T.KI T.F.f_next.h1) (mq T) ?_ (au ?_) af | with_reducible refine aW ?_ (bX T.KI T.F.f_part.h1) (xG T) ?_ (au ?_) af | with_reducible refine bP ?_ ?_ | with_reducible refine bZ ?_ ?_ ?_ | with_reducible refine cF ?_ | with_reducible refine pu qh F.slot_str_upper F.type_str_upper tD ?_ ?_ ?_ | with_reducible refine pu qi F.slot_str_lower F.type_str_lower tE ?_ ?_ ?_ | ((with_reducible refine jE T ?_ ?_ ?_);(with_reducible first | exact T.F.g_law_next | exact T.F.g_law_part);rfl;rfl) | with_reducible refine aP ?_ ?_ (aA ?_) | with_reducible exact aU | ((with_reducible refine aH ?_ ?_ ?_ ?_);rotate_left;(first | exact .inl rfl | exact .inr rfl);rfl;exact fun a=>rfl) | with_reducible refine bI ?_ ?_ ?_ | with_reducible refine bu ?_ | with_reducible refine cT ?_ ?_ ?_ ?_ | ((with_reducible show bO _ _ _ _ _);first | with_reducible refine aC ?_ ?_ | with_reducible exact aJ | delta dQ) | with_reducible refine aQ ?_ ?_ ?_ | with_reducible refine cG ?_ | ((with_reducible refine bh ?_ ?_);(first | exact .inl rfl | exact .inr rfl);rfl) | rfl | exact fun a=>rfl | exact fun a a=>rfl
theorem xF:Con g (k+2) 581 lQ:=by
 refine cy (cd:=none) T.G (T.F.f_prefix_.ok T.KI (by decide +kernel)) ?_;delta jS;show bO _ _ _ (_::_) _;repeat' first | ((with_reducible refine aR ?_ ?_ ?_);rfl;rfl;rfl) | with_reducible exact aD bc | with_reducible exact aD (ba _) | with_reducible refine aW ?_ (bX T.KI T.F.f_next.h1) (mq T) ?_ (au ?_) af | with_reducible refine aW ?_ (bX T.KI T.F.f_digest.h1) (gS T) ?_ (au ?_) af | with_reducible refine bP ?_ ?_ | with_reducible refine bZ ?_ ?_ ?_ | with_reducible refine cE ?_ ?_ ?_ | with_reducible refine cF ?_ | with_reducible refine cL fM F.slot_str_encode F.type_str_encode gK ?_ ?_ ?_ (an ?_) ?_ | ((with_reducible refine jE T ?_ ?_ ?_);(with_reducible first | exact T.F.g_law_next | exact T.F.g_law_digest);rfl;rfl) | with_reducible refine aP ?_ ?_ (aA ?_) | with_reducible exact aU | ((with_reducible refine aH ?_ ?_ ?_ ?_);rotate_left;(first | exact .inl rfl | exact .inr rfl);rfl;exact fun a=>rfl) | with_reducible refine bI ?_ ?_ ?_ | with_reducible refine bu ?_ | ((with_reducible show bO _ _ _ _ _);first | with_reducible refine aC ?_ ?_ | with_reducible exact aJ | delta dC) | with_reducible refine aQ ?_ ?_ ?_ | with_reducible refine dZ ?_ ?_ | with_reducible refine dc ?_ | ((with_reducible show hJ _ _ _ _ _);first | rfl | show ak _ _ _ _ _) | rfl | exact fun a=>rfl | exact fun a a=>rfl
theorem xL:Con g (k+1) 68 ql:=by
 refine cy (cd:=none) T.G (T.F.f_chunks.ok T.KI (by decide +kernel)) ?_;delta fI;show bO _ _ _ (_::_) _;repeat' first | ((with_reducible refine aR ?_ ?_ ?_);rfl;rfl;rfl) | with_reducible exact aD bc | with_reducible exact aD (ba _) | with_reducible refine bP ?_ ?_ | with_reducible refine bZ ?_ ?_ ?_ | with_reducible refine cE ?_ ?_ ?_ | with_reducible refine ca cr ?_ ?_ (an ?_) af | with_reducible refine cF ?_ | with_reducible refine pq ?_ | with_reducible refine lB ?_ ?_ ?_ | ((with_reducible refine yV ?_ ?_ ?_ ?_ ?_);rfl;rfl;rfl) | with_reducible refine den_rev ?_ | ((with_reducible refine dW T ?_);rfl) | with_reducible refine aP ?_ ?_ (aA ?_) | with_reducible exact aU | ((with_reducible refine aH ?_ ?_ ?_ ?_);rotate_left;(first | exact .inl rfl | exact .inr rfl);rfl;exact fun a=>rfl) | with_reducible refine bI ?_ ?_ ?_ | with_reducible refine bu ?_ | with_reducible refine cT ?_ ?_ ?_ ?_ | with_reducible refine fF _ ?_ ?_ | ((with_reducible refine ip ?_ ?_ ?_ ?_ ?_ ?_ (fy ?_));rotate_left;rfl;rfl;rfl;exact fun a=>rfl;rfl;rfl) | ((with_reducible refine pA ?_ ?_ ?_);rotate_left;rfl;rfl) | ((with_reducible refine fG ?_ ?_ ?_);rotate_left;(first | exact .inl rfl | exact .inr rfl);rfl) | ((with_reducible refine mN ?_ ?_ ?_ ?_);rotate_left 2;(first | exact .inl rfl | exact .inr rfl);rfl) | ((with_reducible refine rd ?_ ?_ ?_ ?_ ?_ ?_);rotate_left 2;rfl;rfl;rfl;exact fun a=>rfl) | with_reducible refine aC ?_ ?_ | with_reducible exact aJ | with_reducible refine aQ ?_ ?_ ?_ | with_reducible refine cG ?_ | ((with_reducible refine bh ?_ ?_);(first | exact .inl rfl | exact .inr rfl);rfl) | ((with_reducible show hJ _ _ _ _ _);first | rfl | show ak _ _ _ _ _) | ((with_reducible show pX _ _ _);first | with_reducible exact sR | with_reducible exact mX) | rfl | exact fun a a=>rfl
theorem k_class:Con g (k+2) 73 je:=by
 refine cy (cd:=none) T.G (T.F.f_class_.ok T.KI (by decide +kernel)) ?_;delta gB;show bO _ _ _ (_::_) _;repeat' first | ((with_reducible refine aR ?_ ?_ ?_);rfl;rfl;rfl) | with_reducible exact aD bc | with_reducible exact aD (ba _) | with_reducible refine aW ?_ (bX T.KI T.F.f_chunks.h1) (xL T) ?_ (au ?_) af | with_reducible refine bP ?_ ?_ | with_reducible exact aD cx | with_reducible refine bZ ?_ ?_ ?_ | with_reducible refine cE ?_ ?_ ?_ | with_reducible refine ca cr ?_ ?_ (an ?_) af | with_reducible refine cF ?_ | with_reducible refine io ?_ ?_ ?_ | with_reducible refine lB ?_ ?_ ?_ | ((with_reducible refine jK ?_ rfl ?_ (mB ?_) ?_ ?_ ?_ ?_ ?_ ?_ ?_);kernel_rfl;rfl;kernel_rfl;rfl) | ((with_reducible refine dW T ?_);rfl) | ((with_reducible refine jE T ?_ ?_ ?_);(with_reducible exact T.F.g_fnmatch_chunks);rfl;rfl) | with_reducible refine aP ?_ ?_ (aA ?_) | with_reducible exact aU | ((with_reducible refine aH ?_ ?_ ?_ ?_);rotate_left;(first | exact .inl rfl | exact .inr rfl);rfl;exact fun a=>rfl) | with_reducible refine bI ?_ ?_ ?_ | with_reducible refine bu ?_ | with_reducible refine cT ?_ ?_ ?_ ?_ | with_reducible refine fF _ ?_ ?_ | ((with_reducible refine ip ?_ ?_ ?_ ?_ ?_ ?_ (fy ?_));rotate_left;rfl;rfl;rfl;exact fun a=>rfl;rfl;rfl) | ((with_reducible refine pA ?_ ?_ ?_);rotate_left;rfl;rfl) | ((with_reducible refine fG ?_ ?_ ?_);rotate_left;(first | exact .inl rfl | exact .inr rfl);rfl) | ((with_reducible refine mN ?_ ?_ ?_ ?_);rotate_left 2;(first | exact .inl rfl | exact .inr rfl);rfl) | with_reducible refine aC ?_ ?_ | with_reducible exact aJ | with_reducible refine aQ ?_ ?_ ?_ | with_reducible refine dZ ?_ ?_ | with_reducible refine dc ?_ | ((with_reducible refine yO ?_ ?_ ?_);rfl;rfl;rfl) | with_reducible refine bB ?_ ?_ | with_reducible refine cG ?_ | ((with_reducible refine bh ?_ ?_);(first | exact .inl rfl | exact .inr rfl);rfl) | ((with_reducible show hJ _ _ _ _ _);first | rfl | show ak _ _ _ _ _) | ((with_reducible show pW _ _ _ _ _);first | rfl) | rfl | exact fun a a=>rfl
theorem k_case:Con g (k+3) 80 oF:=by
 refine cy (cd:=none) T.G (T.F.f_case_.ok T.KI (by decide +kernel)) ?_;delta iM;show bO _ _ _ (_::_) _;repeat' first | ((with_reducible refine aR ?_ ?_ ?_);rfl;rfl;rfl) | with_reducible exact aD bc | with_reducible exact aD (ba _) | with_reducible refine aW ?_ (bX T.KI T.F.f_class_.h1) (k_class T) ?_ (au ?_) af | with_reducible refine bP ?_ ?_ | with_reducible exact aD cx | with_reducible refine bZ ?_ ?_ ?_ | with_reducible refine cE ?_ ?_ ?_ | with_reducible refine ca cr ?_ ?_ (an ?_) af | with_reducible refine cF ?_ | with_reducible refine io ?_ ?_ ?_ | with_reducible refine pq ?_ | with_reducible refine vx ?_ ?_ ?_ ?_ (dT ?_ ?_) af (an ?_) af | ((with_reducible refine dW T ?_);rfl) | ((with_reducible refine eO T ?_);rfl) | ((with_reducible refine sI T ?_);rfl) | ((with_reducible refine jE T ?_ ?_ ?_);(with_reducible exact T.F.g_fnmatch_class);rfl;rfl) | with_reducible refine aP ?_ ?_ (aA ?_) | with_reducible exact aU | ((with_reducible refine aH ?_ ?_ ?_ ?_);rotate_left;(first | exact .inl rfl | exact .inr rfl);rfl;exact fun a=>rfl) | with_reducible refine bI ?_ ?_ ?_ | with_reducible refine bu ?_ | with_reducible refine cT ?_ ?_ ?_ ?_ | with_reducible refine fF _ ?_ ?_ | ((with_reducible refine ip ?_ ?_ ?_ ?_ ?_ ?_ (fy ?_));rotate_left;rfl;rfl;rfl;exact fun a=>rfl;rfl;rfl) | ((with_reducible refine pA ?_ ?_ ?_);rotate_left;rfl;rfl) | ((with_reducible refine fG ?_ ?_ ?_);rotate_left;(first | exact .inl rfl | exact .inr rfl);rfl) | with_reducible exact y3 | ((with_reducible show bO _ _ _ _ _);first | with_reducible refine aC ?_ ?_ | with_reducible exact aJ | delta dP | delta hB | delta eT | delta eS | delta dB) | with_reducible refine aQ ?_ ?_ ?_ | with_reducible refine dZ ?_ ?_ | with_reducible refine dc ?_ | with_reducible refine bB ?_ ?_ | with_reducible refine cG ?_ | ((with_reducible refine bh ?_ ?_);(first | exact .inl rfl | exact .inr rfl);rfl) | ((with_reducible show hJ _ _ _ _ _);first | show ak _ _ _ _ _) | rfl | exact fun a a=>rfl
theorem xI:Con g (k+1) 319 nL:=by
 refine cy (cd:=none) T.G (T.F.f_hex.ok T.KI (by decide +kernel)) ?_;delta c_hex;show bO _ _ _ (_::_) _;repeat' first | ((with_reducible refine aR ?_ ?_ ?_);rfl;rfl;rfl) | with_reducible exact aD bc | with_reducible exact aD (ba _) | with_reducible refine bP ?_ ?_ | with_reducible refine bZ ?_ ?_ ?_ | with_reducible refine ca cr ?_ ?_ (an ?_) af | ((with_reducible refine dW T ?_);rfl) | ((with_reducible refine aH ?_ ?_ ?_ ?_);rotate_left;(first | exact .inl rfl | exact .inr rfl);rfl;exact fun a=>rfl) | with_reducible refine bu ?_ | with_reducible refine fF _ ?_ ?_ | with_reducible refine aC ?_ ?_ | with_reducible exact aJ | with_reducible refine aQ ?_ ?_ ?_ | with_reducible refine eP ?_ ?_ | with_reducible refine dX ?_ | rfl | exact fun a a=>rfl
theorem xE:Con g (k+1) 555 lO:=by
 refine cy (cd:=none) T.G (T.F.f_tokens.ok T.KI (by decide +kernel)) ?_;delta jR;show bO _ _ _ (_::_) _;repeat' first | ((with_reducible refine aR ?_ ?_ ?_);rfl;rfl;rfl) | with_reducible exact aD (ba _) | with_reducible refine bP ?_ ?_ | with_reducible exact aD bM | with_reducible refine im ?_ | with_reducible refine aP ?_ ?_ (aA ?_) | with_reducible exact aU | ((with_reducible refine aH ?_ ?_ ?_ ?_);rotate_left;(first | exact .inl rfl | exact .inr rfl);rfl;exact fun a=>rfl) | with_reducible refine bI ?_ ?_ ?_ | with_reducible refine bu ?_ | with_reducible refine cT ?_ ?_ ?_ ?_ | ((with_reducible refine ip ?_ ?_ ?_ ?_ ?_ ?_ (fy ?_));rotate_left;rfl;rfl;rfl;exact fun a=>rfl;rfl;rfl) | ((with_reducible refine fG ?_ ?_ ?_);rotate_left;(first | exact .inl rfl | exact .inr rfl);rfl) | with_reducible refine aC ?_ ?_ | with_reducible exact aJ | with_reducible refine aQ ?_ ?_ ?_ | with_reducible refine dZ ?_ ?_ | with_reducible refine dc ?_ | with_reducible refine cG ?_ | ((with_reducible refine bh ?_ ?_);(first | exact .inl rfl | exact .inr rfl);rfl) | rfl | exact fun a a=>rfl
theorem k_holds:Con g (k+1) 562 lk:=by
 refine cy (cd:=none) T.G (T.F.f_holds.ok T.KI (by decide +kernel)) ?_;delta kZ;show bO _ _ _ (_::_) _;repeat' first | ((with_reducible refine aR ?_ ?_ ?_);rfl;rfl;rfl) | with_reducible exact aD bc | with_reducible exact aD (ba _) | with_reducible exact aD cx | with_reducible refine bZ ?_ ?_ ?_ | with_reducible refine cE ?_ ?_ ?_ | with_reducible refine ca cr ?_ ?_ (an ?_) af | with_reducible refine yU ?_ ?_ (an ?_) af | with_reducible refine io ?_ ?_ ?_ | with_reducible refine uy ?_ ?_ | with_reducible refine den_or ?_ ?_ | ((with_reducible refine dW T ?_);rfl) | ((with_reducible refine uo T ?_);rfl) | ((with_reducible refine aH ?_ ?_ ?_ ?_);rotate_left;(first | exact .inl rfl | exact .inr rfl);rfl;exact fun a=>rfl) | with_reducible refine bI ?_ ?_ ?_ | with_reducible refine bu ?_ | with_reducible refine fF _ ?_ ?_ | with_reducible refine aC ?_ ?_ | with_reducible exact aJ | with_reducible refine aQ ?_ ?_ ?_ | with_reducible refine dZ ?_ ?_ | with_reducible refine dc ?_ | ((with_reducible show hJ _ _ _ _ _);first | rfl | show ak _ _ _ _ _) | rfl | exact fun a a=>rfl
theorem k_fits (n:Nat):Con g (k+n+1) 569 (fi n):=by
 induction n with
 | zero=>exact fun a a a a a a a a a h=>un h
 | succ n H_fits =>
  show Con g (k+n+1+1) 569 _
  refine cy (cd:=none) T.G (T.F.f_fits.ok T.KI (by decide +kernel)) ?_;delta gj;show bO _ _ _ (_::_) _;repeat' first | ((with_reducible refine aR ?_ ?_ ?_);rfl;rfl;rfl) | with_reducible exact aD bc | with_reducible exact aD (ba _) | with_reducible refine aW ?_ (bX T.KI T.F.f_fits.h1) H_fits ?_ (au ?_) af | with_reducible refine aW ?_ (bX T.KI T.F.f_holds.h1) (k_holds T) ?_ (au ?_) af | with_reducible refine bP ?_ ?_ | with_reducible exact aD cx | with_reducible refine bZ ?_ ?_ ?_ | with_reducible refine cE ?_ ?_ ?_ | with_reducible refine ca cr ?_ ?_ (an ?_) af | with_reducible refine cF ?_ | with_reducible refine im ?_ | with_reducible refine io ?_ ?_ ?_ | ((with_reducible refine dW T ?_);rfl) | ((with_reducible refine eO T ?_);rfl) | ((with_reducible refine jE T ?_ ?_ ?_);(with_reducible first | exact T.F.g_law_holds | exact T.F.g_law_fits);rfl;rfl) | with_reducible refine aP ?_ ?_ (aA ?_) | with_reducible exact aU | with_reducible refine bI ?_ ?_ ?_ | with_reducible refine bu ?_ | with_reducible refine cT ?_ ?_ ?_ ?_ | ((with_reducible refine mP ?_ ?_ ?_ ?_);rotate_left 2;exact fun a=>rfl;(first | exact fun a a a=>rfl | exact fun a hk hf=>lH hk hf rfl | exact fun a a a=>ou)) | with_reducible refine aC ?_ ?_ | with_reducible exact aJ | with_reducible refine aQ ?_ ?_ ?_ | with_reducible refine cw ?_ | with_reducible refine dZ ?_ ?_ | with_reducible refine eP ?_ ?_ | with_reducible refine dc ?_ | with_reducible refine dX ?_ | with_reducible refine bB ?_ ?_ | with_reducible refine cY ?_ ?_ (an ?_) af | ((with_reducible refine bh ?_ ?_);(first | exact .inl rfl | exact .inr rfl);rfl) | with_reducible refine jI ?_ | ((with_reducible show hJ _ _ _ _ _);first | rfl | show ak _ _ _ _ _) | ((with_reducible show GN _ _ _);first | ((with_reducible refine lA ?_ ?_ ?_);(first | exact .inl rfl | exact .inr rfl);rfl) | with_reducible exact o9) | rfl | exact fun a a=>rfl
theorem k_fits4:Con g (k+5) 569 wu:=k_fits T 4
theorem xK:Con g (k+6) 574 lT:=by
 refine cy (cd:=none) T.G (T.F.f_covers.ok T.KI (by decide +kernel)) ?_;delta jU;show bO _ _ _ (_::_) _;repeat' first | ((with_reducible refine aR ?_ ?_ ?_);rfl;rfl;rfl) | with_reducible exact aD (ba _) | with_reducible refine aW ?_ (bX T.KI T.F.f_fits.h1) (k_fits4 T) ?_ (au ?_) af | with_reducible refine aW ?_ (bX T.KI T.F.f_tokens.h1) (xE T) ?_ (au ?_) af | ((with_reducible refine jL ?_ ?_ ?_);rfl;rfl;rfl) | with_reducible refine bZ ?_ ?_ ?_ | with_reducible refine ca cr ?_ ?_ (an ?_) af | with_reducible refine cF ?_ | with_reducible refine im ?_ | with_reducible refine io ?_ ?_ ?_ | with_reducible refine cL j0 F.slot_str_split F.type_str_split ll ?_ ?_ ?_ (an ?_) ?_ | ((with_reducible refine jK ?_ rfl ?_ (mB ?_) ?_ ?_ ?_ ?_ ?_ ?_ ?_);kernel_rfl;rfl;kernel_rfl;rfl) | with_reducible refine uy ?_ ?_ | ((with_reducible refine dW T ?_);rfl) | ((with_reducible refine eO T ?_);rfl) | ((with_reducible refine jE T ?_ ?_ ?_);(with_reducible first | exact T.F.g_law_tokens | exact T.F.g_law_fits);rfl;rfl) | with_reducible refine aP ?_ ?_ (aA ?_) | with_reducible exact aU | with_reducible refine bu ?_ | ((with_reducible refine mP ?_ ?_ ?_ ?_);rotate_left 2;exact fun a=>rfl;(first | exact fun a a a=>rfl | exact fun a hk hf=>lH hk hf rfl | exact fun a a a=>ou)) | with_reducible refine aC ?_ ?_ | with_reducible exact aJ | with_reducible refine cw ?_ | with_reducible refine bB ?_ ?_ | with_reducible refine cY ?_ ?_ (an ?_) af | ((with_reducible refine bh ?_ ?_);(first | exact .inl rfl | exact .inr rfl);rfl) | with_reducible refine jI ?_ | ((with_reducible show pW _ _ _ _ _);first | show bW _ _ _ _ _) | ((with_reducible show GN _ _ _);first | ((with_reducible refine lA ?_ ?_ ?_);(first | exact .inl rfl | exact .inr rfl);rfl) | with_reducible exact o9) | rfl | exact fun a=>rfl | exact fun a a=>rfl
end
section
variable {g:Gx} {K:Frag} (T:Tq g K) {c:SC} {k:Nat} {pos:Pos}
theorem aM {es:List Expr} {pos:Pos} (h:es.all em=true) (env:Env):(backTo pos (starEach es env)).any (·.1)=false:=by
 induction es with
 | nil=>rfl
 | cons e r ih =>
  rw [List.all_cons,Bool.and_eq_true] at h
  rw [aA h.1 env]
  exact ih h.2
include T
theorem e_spec (hk:c.kind "SPECIFICATION_VERSION" = some .globalImplicit):ak g c k (.Name "SPECIFICATION_VERSION" pos) (dk bC) :=
 rh (v:=bC) T.G hk (T.gv T.F.g_SPECIFICATION_VERSION) (fun P h=>⟨_,_,rfl,⟨_,_,h _ _ (T.KI _ _ T.F.spec),rfl,rfl⟩,_,_,rfl,⟨_,rfl⟩,_,_,rfl,⟨_,rfl⟩,_,_,rfl,⟨_,rfl⟩,rfl⟩) rfl
theorem e_top (hk:c.kind "TOP_LEVEL_ROLE_NAMES" = some .globalImplicit):ak g c k (.Name "TOP_LEVEL_ROLE_NAMES" pos) (dk bH) :=
 rh (v:=bH) T.G hk (T.gv T.F.g_TOP_LEVEL_ROLE_NAMES) (fun P h=>⟨_,_,rfl,⟨_,_,h _ _ (T.KI _ _ T.F.top),rfl,rfl⟩,_,_,rfl,⟨_,rfl⟩,_,_,rfl,⟨_,rfl⟩,_,_,rfl,⟨_,rfl⟩,_,_,rfl,⟨_,rfl⟩,rfl⟩) rfl
theorem ul (hk:c.kind "sum" = some .globalImplicit):ak g c k (.Name "sum" pos) (dk (.bi "sum")):=vr T (by decide +kernel) bb_sum (by decide +kernel) rfl hk
theorem e_any (hk:c.kind "any" = some .globalImplicit):ak g c k (.Name "any" pos) (dk (.bi "any")):=vr T (by decide +kernel) bb_any (by decide +kernel) rfl hk
theorem e_all (hk:c.kind "all" = some .globalImplicit):ak g c k (.Name "all" pos) (dk (.bi "all")):=vr T (by decide +kernel) bb_all (by decide +kernel) rfl hk
theorem jD (hk:c.kind "isinstance" = some .globalImplicit):ak g c k (.Name "isinstance" pos) (dk (.bi "isinstance")):=vr T (by decide +kernel) nE (by decide +kernel) rfl hk
theorem e_set (hk:c.kind "set" = some .globalImplicit):ak g c k (.Name "set" pos) (dk (.ty "set")):=q7 T (by decide +kernel) bb_set (by decide +kernel) rfl hk
theorem e_str (hk:c.kind "str" = some .globalImplicit):ak g c k (.Name "str" pos) (dk (.ty "str")):=q7 T (by decide +kernel) bb_str (by decide +kernel) rfl hk
theorem e_zip (hk:c.kind "zip" = some .globalImplicit):ak g c k (.Name "zip" pos) (dk (.ty "zip")):=q7 T (by decide +kernel) bb_zip (by decide +kernel) rfl hk
theorem e_dict (hk:c.kind "dict" = some .globalImplicit):ak g c k (.Name "dict" pos) (dk (.ty "dict")):=q7 T (by decide +kernel) bb_dict (by decide +kernel) rfl hk
theorem iC:g.mg "isinstance" = none:=T.n (by decide +kernel)
theorem wU:g.mg "str" = none:=T.n (by decide +kernel)
theorem dO:g.mg "ValueError" = none:=T.n (by decide +kernel)
theorem tb_sig:(ad0.cd_sig,ad0.tb_sig)∈g.tb:=T.tb▸by decide +kernel
theorem ct_sig:ad0.cd_sig≠ad0.tb_sig∧g.tb.count (ad0.cd_sig,ad0.tb_sig)≤1:=T.tb▸by decide +kernel
theorem tb_del:(ad0.cd_del,ad0.tb_del)∈g.tb:=T.tb▸by decide +kernel
theorem pE:ad0.cd_del≠ad0.tb_del∧g.tb.count (ad0.cd_del,ad0.tb_del)≤1:=T.tb▸by decide +kernel
theorem tb_dlg:(ad0.cd_dlg,ad0.tb_dlg)∈g.tb:=T.tb▸by decide +kernel
theorem zm:ad0.cd_dlg≠ad0.tb_dlg∧g.tb.count (ad0.cd_dlg,ad0.tb_dlg)≤1:=T.tb▸by decide +kernel
theorem tb_bins:(ad0.cd_bins,ad0.tb_bins)∈g.tb:=T.tb▸by decide +kernel
theorem ct_bins:ad0.cd_bins≠ad0.tb_bins∧2≤g.tb.count (ad0.cd_bins,ad0.tb_bins):=T.tb▸by decide +kernel
theorem tb_law:(ad0.cd_law,ad0.tb_law)∈g.tb:=T.tb▸by decide +kernel
theorem ct_law:ad0.cd_law≠ad0.tb_law∧2≤g.tb.count (ad0.cd_law,ad0.tb_law):=T.tb▸by decide +kernel
theorem truo:∀ C∈[ad0.cDel,ad0.cSuc],findIn K (.ref C) "__bool__" = some none∧findIn K (.ref C) "__len__" = some none:=fun C h =>
 (List.mem_cons.mp h).elim (fun e=>e▸T.F.tr_cDel) fun h=>List.mem_singleton.mp h▸T.F.tr_cSuc
end
section
variable {g:Gx} {K:Frag} (T:Tq g K) {k:Nat}
include T
theorem k_rolD:th g (k+1) 155 ad0.cDel oM:=by
 refine gW (cd:=none) T.G (T.F.i_rol.ok T.KI (by decide +kernel)) rfl ?_;delta jZ;show bO _ _ _ (_::_) _;repeat' first | ((with_reducible refine aR ?_ ?_ ?_);rfl;rfl;rfl) | with_reducible exact aD bc | with_reducible exact aD bM | with_reducible refine ca cr ?_ ?_ (an ?_) af | with_reducible exact b7 | ((with_reducible refine e_set T ?_);rfl) | with_reducible refine rf ?_ ?_ ?_ (an ?_) af (an ?_) af | ((with_reducible refine dW T ?_);rfl) | ((with_reducible refine aH ?_ ?_ ?_ ?_);rotate_left;(first | exact .inl rfl | exact .inr rfl);rfl;exact fun a=>rfl) | with_reducible refine bI ?_ ?_ ?_ | ((with_reducible refine cu T.KI ?_ ?_ ?_ ?_ ?_ ?_ ?_);(with_reducible first | exact T.F.st_cDel_keyids | exact T.F.st_cDel_threshold | exact T.F.st_cDel_unrecognized_fields);rotate_left;rfl;rfl;rfl;exact fun a=>rfl;exact fun a a=>rfl) | with_reducible exact dY | with_reducible refine aC ?_ ?_ | with_reducible exact aJ | with_reducible refine aQ ?_ ?_ ?_ | rfl
theorem k_rolS:th g (k+1) 155 ad0.cSuc oL:=by
 refine gW (cd:=none) T.G (T.F.i_rol.ok T.KI (by decide +kernel)) rfl ?_;delta jY;show bO _ _ _ (_::_) _;repeat' first | ((with_reducible refine aR ?_ ?_ ?_);rfl;rfl;rfl) | with_reducible exact aD bc | with_reducible exact aD bM | with_reducible refine ca cr ?_ ?_ (an ?_) af | with_reducible exact b7 | ((with_reducible refine e_set T ?_);rfl) | with_reducible refine rf ?_ ?_ ?_ (an ?_) af (an ?_) af | ((with_reducible refine dW T ?_);rfl) | ((with_reducible refine aH ?_ ?_ ?_ ?_);rotate_left;(first | exact .inl rfl | exact .inr rfl);rfl;exact fun a=>rfl) | with_reducible refine bI ?_ ?_ ?_ | ((with_reducible refine cu T.KI ?_ ?_ ?_ ?_ ?_ ?_ ?_);(with_reducible first | exact T.F.st_cSuc_keyids | exact T.F.st_cSuc_threshold | exact T.F.st_cSuc_unrecognized_fields);rotate_left;rfl;rfl;rfl;exact fun a=>rfl;exact fun a a=>rfl) | with_reducible exact dY | with_reducible refine aC ?_ ?_ | with_reducible exact aJ | with_reducible refine aQ ?_ ?_ ?_ | rfl
theorem k_sig:th g (k+1) 102 ad0.cTar wx:=by
 refine gW (cd:=some (.ref ad0.cd_sig)) T.G (T.F.i_sig.ok T.KI (by decide +kernel)) rfl ?_ (fun a e=>Option.some.inj e▸T.F.cd_sig);delta iN;show bO _ _ _ (_::_) _;repeat' first | ((with_reducible refine aR ?_ ?_ ?_);rfl;rfl;rfl) | with_reducible exact aD bc | with_reducible exact aD (ba _) | with_reducible exact aD bM | with_reducible refine bZ ?_ ?_ ?_ | with_reducible refine ca cr ?_ ?_ (an ?_) af | with_reducible refine cF ?_ | with_reducible refine cL pO F.slot_str_join F.type_str_join rV ?_ ?_ ?_ (an ?_) ?_ | with_reducible refine cL j0 F.slot_str_split F.type_str_split ll ?_ ?_ ?_ (an ?_) ?_ | with_reducible exact b7 | ((with_reducible refine e_spec T ?_);rfl) | ((with_reducible refine e_all T ?_);rfl) | ((with_reducible refine y6 T.G ?_ (tb_sig T) (ct_sig T) rfl ?_ ?_ ?_ ?_ ?_ ?_ ?_ (an ?_) af);rfl;decide +kernel;rfl;rfl;rfl;rfl) | ((with_reducible refine dW T ?_);rfl) | with_reducible refine aP ?_ ?_ (aA ?_) | with_reducible exact aU | ((with_reducible refine aH ?_ ?_ ?_ ?_);rotate_left;(first | exact .inl rfl | exact .inr rfl);rfl;exact fun a=>rfl) | with_reducible refine bI ?_ ?_ ?_ | ((with_reducible refine cu T.KI ?_ ?_ ?_ ?_ ?_ ?_ ?_);(with_reducible first | exact T.F.st_cTar_expires | exact T.F.st_cTar_spec_version | exact T.F.st_cTar_unrecognized_fields | exact T.F.st_cTar_version);rotate_left;rfl;rfl;rfl;exact fun a=>rfl;exact fun a a=>rfl) | with_reducible exact dY | with_reducible refine aC ?_ ?_ | with_reducible exact aJ | with_reducible refine aQ ?_ ?_ ?_ | with_reducible refine cw ?_ | with_reducible refine eP ?_ ?_ | with_reducible refine dX ?_ | with_reducible refine bB ?_ ?_ | with_reducible refine cG ?_ | with_reducible refine pw ?_ ?_ | rfl | exact fun a=>rfl | exact fun a a=>rfl
theorem k_del:Con g (k+3) ad0.cDel tw:=by
 refine mY T.KI T.F.mk_del.1 T.F.mk_del.2.1 T.F.mk_del.2.2 ?_
 refine kz (cd:=some (.ref ad0.cd_del)) T.G T.KI (T.F.i_del.ok T.KI (by decide +kernel)) (T.F.su_del.ok T (by decide +kernel) (by decide +kernel)) rfl ?_ (au ?_) ?_ ?_ ?_ (k_rolD T) ?_ (fun a e=>Option.some.inj e▸T.F.cd_del)
 · show eK _ _ _ _ [_,_,_];repeat' first | ((with_reducible refine aR ?_ ?_ ?_);rfl;rfl;rfl) | with_reducible exact aD bc | with_reducible exact aD bM | with_reducible refine cF ?_ | ((with_reducible refine ul T ?_);rfl) | ((with_reducible refine e_any T ?_);rfl) | ((with_reducible refine jH T.G ?_ (tb_del T) (pE T) rfl ?_ ?_ ?_ ?_ ?_ ?_ ?_ (an ?_) af);rfl;decide +kernel;rfl;rfl;rfl;rfl) | ((with_reducible refine ri T.G ?_ (tb_del T) (pE T) rfl ?_ ?_ ?_ ?_ ?_ ?_ (iC T) (wU T) ?_ ?_ (an ?_) af);rfl;decide +kernel;rfl;rfl;rfl;rfl;rfl) | with_reducible refine aP ?_ ?_ (aA ?_) | with_reducible exact aU | ((with_reducible refine aH ?_ ?_ ?_ ?_);rotate_left;(first | exact .inl rfl | exact .inr rfl);rfl;exact fun a=>rfl) | with_reducible refine bI ?_ ?_ ?_ | ((with_reducible refine cu T.KI ?_ ?_ ?_ ?_ ?_ ?_ ?_);(with_reducible first | exact T.F.st_cDel_name | exact T.F.st_cDel_path_hash_prefixes | exact T.F.st_cDel_paths | exact T.F.st_cDel_terminating);rotate_left;rfl;rfl;rfl;exact fun a=>rfl;exact fun a a=>rfl) | with_reducible exact dY | with_reducible refine aC ?_ ?_ | with_reducible exact aJ | with_reducible refine aQ ?_ ?_ ?_ | with_reducible refine dZ ?_ ?_ | with_reducible refine dc ?_ | with_reducible refine bB ?_ ?_ | with_reducible refine cG ?_ | with_reducible refine pw ?_ ?_ | rfl | exact fun a=>rfl | exact fun a a=>rfl
 all_goals try delta nn
 all_goals repeat' first | ((with_reducible refine aR ?_ ?_ ?_);rfl;rfl;rfl) | with_reducible exact aD bc | with_reducible exact aD bM | with_reducible refine cF ?_ | ((with_reducible refine ul T ?_);rfl) | ((with_reducible refine e_any T ?_);rfl) | ((with_reducible refine jH T.G ?_ (tb_del T) (pE T) rfl ?_ ?_ ?_ ?_ ?_ ?_ ?_ (an ?_) af);rfl;decide +kernel;rfl;rfl;rfl;rfl) | ((with_reducible refine ri T.G ?_ (tb_del T) (pE T) rfl ?_ ?_ ?_ ?_ ?_ ?_ (iC T) (wU T) ?_ ?_ (an ?_) af);rfl;decide +kernel;rfl;rfl;rfl;rfl;rfl) | with_reducible refine aP ?_ ?_ (aA ?_) | with_reducible exact aU | ((with_reducible refine aH ?_ ?_ ?_ ?_);rotate_left;(first | exact .inl rfl | exact .inr rfl);rfl;exact fun a=>rfl) | with_reducible refine bI ?_ ?_ ?_ | ((with_reducible refine cu T.KI ?_ ?_ ?_ ?_ ?_ ?_ ?_);(with_reducible first | exact T.F.st_cDel_name | exact T.F.st_cDel_path_hash_prefixes | exact T.F.st_cDel_paths | exact T.F.st_cDel_terminating);rotate_left;rfl;rfl;rfl;exact fun a=>rfl;exact fun a a=>rfl) | with_reducible exact dY | with_reducible refine aC ?_ ?_ | with_reducible exact aJ | with_reducible refine aQ ?_ ?_ ?_ | with_reducible refine dZ ?_ ?_ | with_reducible refine dc ?_ | with_reducible refine bB ?_ ?_ | with_reducible refine cG ?_ | with_reducible refine pw ?_ ?_ | rfl | exact fun a=>rfl | exact fun a a=>rfl
theorem k_suc:Con g (k+3) ad0.cSuc wq:=by
 refine mY T.KI T.F.mk_suc.1 T.F.mk_suc.2.1 T.F.mk_suc.2.2 ?_
 refine kz (cd:=none) T.G T.KI (T.F.i_suc.ok T.KI (by decide +kernel)) (T.F.su_suc.ok T (by decide +kernel) (by decide +kernel)) rfl ?_ (au ?_) ?_ ?_ ?_ (k_rolS T) ?_
 · show eK _ _ _ _ [_,_,_];repeat' first | ((with_reducible refine aR ?_ ?_ ?_);rfl;rfl;rfl) | with_reducible exact aD bc | with_reducible refine aW ?_ (bX T.KI T.F.f_hex.h1) (xI T) ?_ (au ?_) af | with_reducible refine bP ?_ ?_ | with_reducible refine ca cr ?_ ?_ (an ?_) af | ((with_reducible refine n8 T.KI ?_ ?_ ?_ ?_ ?_);(with_reducible exact T.F.at_cSuc_number_of_bins);rfl;rfl;rfl;exact fun a=>rfl) | ((with_reducible refine jD T ?_);rfl) | ((with_reducible refine e_str T ?_);rfl) | with_reducible refine uu ?_ ?_ ?_ (dT ?_ ?_) af | ((with_reducible refine dW T ?_);rfl) | ((with_reducible refine jE T ?_ ?_ ?_);(with_reducible exact T.F.g_hex);rfl;rfl) | with_reducible refine aP ?_ ?_ (aA ?_) | with_reducible exact aU | with_reducible refine bI ?_ ?_ ?_ | ((with_reducible refine cu T.KI ?_ ?_ ?_ ?_ ?_ ?_ ?_);(with_reducible first | exact T.F.st_cSuc_bit_length | exact T.F.st_cSuc_name_prefix | exact T.F.st_cSuc_number_of_bins | exact T.F.st_cSuc_suffix_len);rotate_left;rfl;rfl;rfl;exact fun a=>rfl;exact fun a a=>rfl) | with_reducible exact dY | with_reducible refine aC ?_ ?_ | with_reducible exact aJ | with_reducible refine aQ ?_ ?_ ?_ | with_reducible refine cw ?_ | with_reducible refine eP ?_ ?_ | with_reducible refine dX ?_ | with_reducible refine bB ?_ ?_ | rfl | exact fun a=>rfl | exact fun a a=>rfl
 all_goals try delta nk
 all_goals repeat' first | ((with_reducible refine aR ?_ ?_ ?_);rfl;rfl;rfl) | with_reducible exact aD bc | with_reducible refine aW ?_ (bX T.KI T.F.f_hex.h1) (xI T) ?_ (au ?_) af | with_reducible refine bP ?_ ?_ | with_reducible refine ca cr ?_ ?_ (an ?_) af | ((with_reducible refine n8 T.KI ?_ ?_ ?_ ?_ ?_);(with_reducible exact T.F.at_cSuc_number_of_bins);rfl;rfl;rfl;exact fun a=>rfl) | ((with_reducible refine jD T ?_);rfl) | ((with_reducible refine e_str T ?_);rfl) | with_reducible refine uu ?_ ?_ ?_ (dT ?_ ?_) af | ((with_reducible refine dW T ?_);rfl) | ((with_reducible refine jE T ?_ ?_ ?_);(with_reducible exact T.F.g_hex);rfl;rfl) | with_reducible refine aP ?_ ?_ (aA ?_) | with_reducible exact aU | with_reducible refine bI ?_ ?_ ?_ | ((with_reducible refine cu T.KI ?_ ?_ ?_ ?_ ?_ ?_ ?_);(with_reducible first | exact T.F.st_cSuc_bit_length | exact T.F.st_cSuc_name_prefix | exact T.F.st_cSuc_number_of_bins | exact T.F.st_cSuc_suffix_len);rotate_left;rfl;rfl;rfl;exact fun a=>rfl;exact fun a a=>rfl) | with_reducible exact dY | with_reducible refine aC ?_ ?_ | with_reducible exact aJ | with_reducible refine aQ ?_ ?_ ?_ | with_reducible refine cw ?_ | with_reducible refine eP ?_ ?_ | with_reducible refine dX ?_ | with_reducible refine bB ?_ ?_ | rfl | exact fun a=>rfl | exact fun a a=>rfl
theorem k_tar:Con g (k+3) ad0.cTar tv:=by
 refine mY T.KI T.F.mk_tar.1 T.F.mk_tar.2.1 T.F.mk_tar.2.2 ?_
 refine kz (cd:=none) T.G T.KI (T.F.i_tar.ok T.KI (by decide +kernel)) (T.F.su_tar.ok T (by decide +kernel) (by decide +kernel)) rfl ?_ (au ?_) ?_ ?_ ?_ (k_sig T) ?_
 · show eK _ _ _ _ [_,_,_,_];repeat' first | ((with_reducible refine aR ?_ ?_ ?_);rfl;rfl;rfl) | with_reducible exact aD bM | with_reducible refine lB ?_ ?_ ?_ | with_reducible exact b7 | with_reducible refine aP ?_ ?_ (aA ?_) | with_reducible exact aU | ((with_reducible refine cu T.KI ?_ ?_ ?_ ?_ ?_ ?_ ?_);(with_reducible first | exact T.F.st_cTar_delegations | exact T.F.st_cTar_targets);rotate_left;rfl;rfl;rfl;exact fun a=>rfl;exact fun a a=>rfl) | with_reducible refine aC ?_ ?_ | with_reducible exact aJ | with_reducible refine aQ ?_ ?_ ?_ | rfl | exact fun a=>rfl
 all_goals try delta nh
 all_goals repeat' first | ((with_reducible refine aR ?_ ?_ ?_);rfl;rfl;rfl) | with_reducible exact aD bM | with_reducible refine lB ?_ ?_ ?_ | with_reducible exact b7 | with_reducible refine aP ?_ ?_ (aA ?_) | with_reducible exact aU | ((with_reducible refine cu T.KI ?_ ?_ ?_ ?_ ?_ ?_ ?_);(with_reducible first | exact T.F.st_cTar_delegations | exact T.F.st_cTar_targets);rotate_left;rfl;rfl;rfl;exact fun a=>rfl;exact fun a a=>rfl) | with_reducible refine aC ?_ ?_ | with_reducible exact aJ | with_reducible refine aQ ?_ ?_ ?_ | rfl | exact fun a=>rfl
theorem xJ:bO g (scC eF (some (.ref ad0.cd_dlg))) k (fnB (mAt 18 0)) gm.d:=by
 delta gm;show bO _ _ _ (_::_) _;repeat' first | ((with_reducible refine aR ?_ ?_ ?_);rfl;rfl;rfl) | with_reducible exact aD bc | with_reducible exact aD bM | with_reducible exact b7 | ((with_reducible refine e_top T ?_);rfl) | ((with_reducible refine ul T ?_);rfl) | ((with_reducible refine jH T.G ?_ (tb_dlg T) (zm T) rfl ?_ ?_ ?_ ?_ ?_ ?_ ?_ (an ?_) af);rfl;decide +kernel;rfl;rfl;rfl;rfl) | with_reducible refine aP ?_ ?_ (aA ?_) | with_reducible exact aU | ((with_reducible refine aH ?_ ?_ ?_ ?_);rotate_left;(first | exact .inl rfl | exact .inr rfl);rfl;exact fun a=>rfl) | with_reducible refine bI ?_ ?_ ?_ | with_reducible refine cT ?_ ?_ ?_ ?_ | ((with_reducible refine cu T.KI ?_ ?_ ?_ ?_ ?_ ?_ ?_);(with_reducible first | exact T.F.st_cDlg_keys | exact T.F.st_cDlg_roles | exact T.F.st_cDlg_succinct_roles | exact T.F.st_cDlg_unrecognized_fields);rotate_left;rfl;rfl;rfl;exact fun a=>rfl;exact fun a a=>rfl) | with_reducible exact dY | with_reducible refine aC ?_ ?_ | with_reducible exact aJ | with_reducible refine aQ ?_ ?_ ?_ | with_reducible refine cw ?_ | with_reducible refine eP ?_ ?_ | with_reducible refine dX ?_ | with_reducible refine bB ?_ ?_ | with_reducible refine rg ?_ | with_reducible refine uw ?_ ?_ | ((with_reducible refine bh ?_ ?_);(first | exact .inl rfl | exact .inr rfl);rfl) | rfl | exact fun a a=>rfl
theorem k_dlg1:Con g (k+2) ad0.cDlg oJ :=
 mY T.KI T.F.mk_dlg.1 T.F.mk_dlg.2.1 T.F.mk_dlg.2.2 (gW (cd:=some (.ref ad0.cd_dlg)) T.G (T.F.i_dlg1.ok T.KI (by decide +kernel)) rfl (xJ T) (fun a e=>Option.some.inj e▸T.F.cd_dlg))
theorem k_dlg2:Con g (k+2) ad0.cDlg rS :=
 mY T.KI T.F.mk_dlg.1 T.F.mk_dlg.2.1 T.F.mk_dlg.2.2 (gW (cd:=some (.ref ad0.cd_dlg)) T.G (T.F.i_dlg2.ok T.KI (by decide +kernel)) rfl (xJ T) (fun a e=>Option.some.inj e▸T.F.cd_dlg))
theorem k_inpat:Con g (k+4) ad0.m_inpat oG:=by
 refine cy (cd:=none) T.G (T.F.f_inpat.ok T.KI (by decide +kernel)) ?_;delta uI;show bO _ _ _ (_::_) _;repeat' first | ((with_reducible refine aR ?_ ?_ ?_);rfl;rfl;rfl) | with_reducible exact aD (ba _) | with_reducible refine aW ?_ (bX T.KI T.F.f_case_.h1) (k_case T) ?_ (au ?_) af | with_reducible exact aD cx | with_reducible refine ca cr ?_ ?_ (an ?_) af | with_reducible refine cL j0 F.slot_str_split F.type_str_split ll ?_ ?_ ?_ (an ?_) ?_ | ((with_reducible refine e_zip T ?_);rfl) | ((with_reducible refine dW T ?_);rfl) | ((with_reducible refine jE T ?_ ?_ ?_);(with_reducible exact T.F.g_fnmatchcase);rfl;rfl) | with_reducible refine aP ?_ ?_ (aA ?_) | with_reducible exact aU | ((with_reducible refine aH ?_ ?_ ?_ ?_);rotate_left;(first | exact .inl rfl | exact .inr rfl);rfl;exact fun a=>rfl) | with_reducible refine bI ?_ ?_ ?_ | with_reducible refine bu ?_ | with_reducible refine yY ?_ ?_ ?_ ?_ ?_ (dT ?_ ?_) af ?_ | with_reducible refine aC ?_ ?_ | with_reducible exact aJ | with_reducible refine aQ ?_ ?_ ?_ | with_reducible refine cw ?_ | with_reducible refine bB ?_ ?_ | with_reducible refine jI ?_ | ((with_reducible show GN _ _ _);first | ((with_reducible refine lA ?_ ?_ ?_);(first | exact .inl rfl | exact .inr rfl);rfl) | with_reducible exact o9) | rfl | exact fun a=>rfl | exact fun a a=>rfl
theorem k_isdp:Con g (k+5) ad0.m_isdp rQ:=by
 refine cy (cd:=none) T.G (T.F.f_isdp.ok T.KI (by decide +kernel)) ?_;delta zI;show bO _ _ _ (_::_) _;repeat' first | ((with_reducible refine aR ?_ ?_ ?_);rfl;rfl;rfl) | with_reducible exact aD (ba _) | with_reducible exact aD cx | with_reducible exact aD bM | with_reducible refine cL kC F.slot_str_startswith F.type_str_startswith fU ?_ ?_ ?_ (an ?_) ?_ | with_reducible refine cL fM F.slot_str_encode F.type_str_encode gK ?_ ?_ ?_ (an ?_) ?_ | ((with_reducible refine eI T.KI ?_ ?_ ?_);(with_reducible first | exact T.F.at_cDel_path_hash_prefixes | exact T.F.at_cDel_paths)) | with_reducible refine c9 T.KI T.F.kp_a_law_digest ?_ (gS T) ?_ (au ?_) (aM ?_) af | with_reducible refine vv T.KI T.F.sm ?_ (k_inpat T) ?_ (au ?_) (aM ?_) ?_ ?_ ?_ | with_reducible refine aP ?_ ?_ (aA ?_) | with_reducible exact aU | ((with_reducible refine aH ?_ ?_ ?_ ?_);rotate_left;(first | exact .inl rfl | exact .inr rfl);rfl;exact fun a=>rfl) | with_reducible refine bI ?_ ?_ ?_ | with_reducible refine bu ?_ | with_reducible refine cT ?_ ?_ ?_ ?_ | with_reducible refine aC ?_ ?_ | with_reducible exact aJ | with_reducible refine aQ ?_ ?_ ?_ | with_reducible refine bB ?_ ?_ | with_reducible refine cG ?_ | ((with_reducible refine bh ?_ ?_);(first | exact .inl rfl | exact .inr rfl);rfl) | rfl | exact fun a=>rfl | exact fun a a=>rfl
theorem k_grft:Con g (k+2) ad0.m_grft rR:=by
 refine cy (cd:=none) T.G (T.F.f_grft.ok T.KI (by decide +kernel)) ?_;delta zJ;show bO _ _ _ (_::_) _;repeat' first | ((with_reducible refine aR ?_ ?_ ?_);rfl;rfl;rfl) | with_reducible exact aD bc | with_reducible exact aD (ba _) | with_reducible refine aW ?_ (bX T.KI T.F.f_hex.h1) (xI T) ?_ (au ?_) af | with_reducible refine bP ?_ ?_ | with_reducible refine cE ?_ ?_ ?_ | with_reducible refine cL fM F.slot_str_encode F.type_str_encode gK ?_ ?_ ?_ (an ?_) ?_ | ((with_reducible refine eI T.KI ?_ ?_ ?_);(with_reducible first | exact T.F.at_cSuc_bit_length | exact T.F.at_cSuc_name_prefix | exact T.F.at_cSuc_suffix_len)) | with_reducible refine den_shr ?_ ?_ | with_reducible refine yT ?_ | with_reducible refine yX ?_ | with_reducible refine c9 T.KI T.F.kp_a_law_digest ?_ (gS T) ?_ (au ?_) (aM ?_) af | with_reducible refine mO ?_ ?_ (dT ?_ ?_) af | ((with_reducible refine uo T ?_);rfl) | ((with_reducible refine jE T ?_ ?_ ?_);(with_reducible exact T.F.g_hex);rfl;rfl) | with_reducible refine aP ?_ ?_ (aA ?_) | with_reducible exact aU | ((with_reducible refine aH ?_ ?_ ?_ ?_);rotate_left;(first | exact .inl rfl | exact .inr rfl);rfl;exact fun a=>rfl) | with_reducible refine bu ?_ | with_reducible refine aC ?_ ?_ | with_reducible exact aJ | ((with_reducible show td _ _ _ _ _);first | with_reducible refine .cons ?_ ?_ | with_reducible exact .nil) | ((with_reducible show hJ _ _ _ _ _);first | rfl | show ak _ _ _ _ _) | rfl | exact fun a=>rfl
theorem k_gr:ConG g (k+9) ad0.m_gr wt:=by
 refine con_gen (k:=k+5) (cd:=none) T.G (T.F.f_gr.ok T.KI (by decide +kernel)) ?_ ?_ ?_ ?_ ?_ ?_ ?_ fun a a=>rfl
 all_goals repeat' first | ((with_reducible refine aR ?_ ?_ ?_);rfl;rfl;rfl) | with_reducible exact aD cx | with_reducible exact aD bM | with_reducible refine im ?_ | ((with_reducible refine eI T.KI ?_ ?_ ?_);(with_reducible first | exact T.F.at_cDel_name | exact T.F.at_cDel_terminating | exact T.F.at_cDlg_roles | exact T.F.at_cDlg_succinct_roles)) | with_reducible refine re T.KI T.F.me_cDel_is_delegated_path ?_ (k_isdp T) ?_ (au ?_) (aM ?_) ?_ ?_ ?_ | with_reducible refine re T.KI T.F.me_cSuc_get_role_for_target ?_ (k_grft T) ?_ (au ?_) (aM ?_) ?_ ?_ ?_ | with_reducible refine aP ?_ ?_ (aA ?_) | with_reducible exact aU | with_reducible refine aQ ?_ ?_ ?_ | with_reducible refine bB ?_ ?_ | with_reducible refine yM ?_ ?_ ?_ | ((with_reducible refine bh ?_ ?_);(first | exact .inl rfl | exact .inr rfl);rfl) | rfl | exact fun a=>rfl | exact fun a a=>rfl
end
section
variable {g:Gx} {K:Frag} (T:Tq g K) {k:Nat} {m:Bool}
theorem hO.of {j:Nat} {a:Addr} {sp:SpU} (H:hO false g j a sp):hO m g j a sp:=fun R B N b hl hF b b b b b hx h q qe=>wpM_up (H R B N hl hF hx h q qe)
include T
theorem xH:hO m g (k+1) ad0.m_isdr ox:=by
 refine hO.of (jN (cd:=none) T.G (T.F.f_isdr.ok T.KI (by decide +kernel)) ?_ ⟨"self",rfl,0,rfl⟩);delta zH;show dF _ _ _ _ (_::_) _;repeat' first | ((with_reducible refine aR ?_ ?_ ?_);rfl;rfl;rfl) | with_reducible exact aD bc | with_reducible exact aD (ba _) | with_reducible refine bP ?_ ?_ | with_reducible exact aD cx | with_reducible refine cE ?_ ?_ ?_ | with_reducible refine ca cr ?_ ?_ (an ?_) af | with_reducible refine cL kC F.slot_str_startswith F.type_str_startswith fU ?_ ?_ ?_ (an ?_) ?_ | ((with_reducible refine eI T.KI ?_ ?_ ?_);(with_reducible first | exact T.F.at_cSuc_name_prefix | exact T.F.at_cSuc_number_of_bins | exact T.F.at_cSuc_suffix_len)) | with_reducible refine n7 ?_ ?_ ?_ ?_ | with_reducible refine mO ?_ ?_ (dT ?_ ?_) af | ((with_reducible refine dW T ?_);rfl) | ((with_reducible refine uo T ?_);rfl) | ((with_reducible refine aH ?_ ?_ ?_ ?_);rotate_left;(first | exact .inl rfl | exact .inr rfl);rfl;exact fun a=>rfl) | with_reducible refine bI ?_ ?_ ?_ | with_reducible refine bu ?_ | with_reducible refine aC ?_ ?_ | with_reducible exact aJ | with_reducible refine aQ ?_ ?_ ?_ | with_reducible refine cw ?_ | with_reducible refine bB ?_ ?_ | ((with_reducible show hJ _ _ _ _ _);first | rfl | show ak _ _ _ _ _) | with_reducible refine dL ?_ ?_ | with_reducible refine bO.cc ?_ | with_reducible refine cO.cc ?_ | ((with_reducible refine gV ?_ ?_ ?_ ?_);rotate_left;(first | exact .inl rfl | exact .inr rfl);rfl;exact fun a=>rfl) | with_reducible refine rj T.G ?_ (dO T) ?_ | with_reducible refine ak.cc ?_ | rfl | exact fun a=>rfl | exact fun a a=>rfl
theorem k_isdrC:hO true g (k+1) ad0.m_isdr lj:=by
 refine jN (cd:=none) T.G (T.F.f_isdr.ok T.KI (by decide +kernel)) ?_ ⟨"self",rfl,0,rfl⟩;delta uH;show dF _ _ _ _ (_::_) _;repeat' first | ((with_reducible refine aR ?_ ?_ ?_);rfl;rfl;rfl) | with_reducible exact aD bc | with_reducible exact aD (ba _) | with_reducible refine bP ?_ ?_ | with_reducible exact aD cx | with_reducible refine cE ?_ ?_ ?_ | with_reducible refine ca cr ?_ ?_ (an ?_) af | with_reducible refine cL kC F.slot_str_startswith F.type_str_startswith fU ?_ ?_ ?_ (an ?_) ?_ | ((with_reducible refine eI T.KI ?_ ?_ ?_);(with_reducible first | exact T.F.at_cSuc_name_prefix | exact T.F.at_cSuc_number_of_bins | exact T.F.at_cSuc_suffix_len)) | with_reducible refine n7 ?_ ?_ ?_ ?_ | ((with_reducible refine dW T ?_);rfl) | ((with_reducible refine uo T ?_);rfl) | ((with_reducible refine aH ?_ ?_ ?_ ?_);rotate_left;(first | exact .inl rfl | exact .inr rfl);rfl;exact fun a=>rfl) | with_reducible refine bI ?_ ?_ ?_ | with_reducible refine bu ?_ | with_reducible refine aC ?_ ?_ | with_reducible exact aJ | with_reducible refine aQ ?_ ?_ ?_ | with_reducible refine cw ?_ | with_reducible refine bB ?_ ?_ | ((with_reducible show hJ _ _ _ _ _);first | rfl | show ak _ _ _ _ _) | with_reducible refine dL ?_ ?_ | with_reducible refine bO.cc ?_ | with_reducible refine cO.cc ?_ | ((with_reducible refine gV ?_ ?_ ?_ ?_);rotate_left;(first | exact .inl rfl | exact .inr rfl);rfl;exact fun a=>rfl) | with_reducible refine rj T.G ?_ (dO T) ?_ | with_reducible refine sM ?_ ?_ (dT ?_ ?_) af | rfl | exact fun a=>rfl | exact fun a a=>rfl
theorem tT:hO m g (k+2) ad0.m_gdr lI:=by
 refine hO.of (jN (cd:=none) T.G (T.F.f_gdr.ok T.KI (by decide +kernel)) ?_ ⟨"self",rfl,0,rfl⟩);delta c_gdr;show dF _ _ _ _ (_::_) _;repeat' first | ((with_reducible refine aR ?_ ?_ ?_);rfl;rfl;rfl) | with_reducible exact aD (ba _) | with_reducible exact aD bM | ((with_reducible refine eI T.KI ?_ ?_ ?_);(with_reducible first | exact T.F.at_cDlg_roles | exact T.F.at_cDlg_succinct_roles | exact T.F.at_cTar_delegations)) | with_reducible refine yT ?_ | with_reducible refine yX ?_ | with_reducible refine yZ ?_ ?_ ?_ (an ?_) ?_ | with_reducible refine aP ?_ ?_ (aA ?_) | with_reducible exact aU | ((with_reducible refine aH ?_ ?_ ?_ ?_);rotate_left;(first | exact .inl rfl | exact .inr rfl);rfl;exact fun a=>rfl) | with_reducible refine bu ?_ | with_reducible refine aC ?_ ?_ | with_reducible exact aJ | with_reducible refine aQ ?_ ?_ ?_ | with_reducible refine cw ?_ | with_reducible refine yP T.KI (truo T) ?_ ?_ | ((with_reducible show td _ _ _ _ _);first | with_reducible refine .cons ?_ ?_ | with_reducible exact .nil) | with_reducible refine dL ?_ ?_ | with_reducible refine bO.cc ?_ | with_reducible refine cO.cc ?_ | with_reducible refine lC ?_ ?_ ?_ | with_reducible refine mQ T.G ?_ ?_ (dO T) (aA ?_) (aM ?_) | with_reducible refine bW.cc ?_ | with_reducible refine ku ?_ ?_ | with_reducible refine ey T.KI T.F.me_cSuc_is_delegated_role ?_ (xH T) ?_ (au ?_) (aM ?_) ?_ ?_ ?_ | rfl | exact fun a=>rfl | exact fun a a=>rfl
theorem k_dlgU:hO false g (k+2) ad0.cDlg qk:=by
 refine con_mkU T.KI T.F.mk_dlg.1 T.F.mk_dlg.2.1 T.F.mk_dlg.2.2 (vE (cd:=some (.ref ad0.cd_dlg)) T.G (T.F.i_dlg2.ok T.KI (by decide +kernel)) rfl ?_ (fun a e=>Option.some.inj e▸T.F.cd_dlg));delta k7;show dF _ _ _ _ (_::_) _;repeat' first | ((with_reducible refine aR ?_ ?_ ?_);rfl;rfl;rfl) | with_reducible exact aD bc | with_reducible exact aD (ba _) | with_reducible exact aD bM | with_reducible exact b7 | ((with_reducible refine e_top T ?_);rfl) | ((with_reducible refine ul T ?_);rfl) | ((with_reducible refine jH T.G ?_ (tb_dlg T) (zm T) rfl ?_ ?_ ?_ ?_ ?_ ?_ ?_ (an ?_) af);rfl;decide +kernel;rfl;rfl;rfl;rfl) | with_reducible refine aP ?_ ?_ (aA ?_) | with_reducible exact aU | ((with_reducible refine aH ?_ ?_ ?_ ?_);rotate_left;(first | exact .inl rfl | exact .inr rfl);rfl;exact fun a=>rfl) | with_reducible refine bI ?_ ?_ ?_ | ((with_reducible refine cu T.KI ?_ ?_ ?_ ?_ ?_ ?_ ?_);(with_reducible first | exact T.F.st_cDlg_keys | exact T.F.st_cDlg_roles | exact T.F.st_cDlg_succinct_roles | exact T.F.st_cDlg_unrecognized_fields);rotate_left;rfl;rfl;rfl;exact fun a=>rfl;exact fun a a=>rfl) | with_reducible refine aC ?_ ?_ | with_reducible exact aJ | with_reducible refine aQ ?_ ?_ ?_ | with_reducible refine cw ?_ | with_reducible refine eP ?_ ?_ | with_reducible refine dX ?_ | with_reducible refine bB ?_ ?_ | with_reducible refine rg ?_ | with_reducible refine uw ?_ ?_ | ((with_reducible refine bh ?_ ?_);(first | exact .inl rfl | exact .inr rfl);rfl) | with_reducible refine dL ?_ ?_ | with_reducible refine bO.cc ?_ | with_reducible refine cO.cc ?_ | with_reducible refine lC ?_ ?_ ?_ | with_reducible refine mR ?_ ?_ ?_ ?_ | with_reducible refine mQ T.G ?_ ?_ (dO T) (aA ?_) (aM ?_) | with_reducible refine bW.cc ?_ | rfl | exact fun a a=>rfl
end
theorem bind0 (fd:FuncData) (h1:fd.params.posonlyargs=[]) (h2:fd.params.args=[]) (h3:fd.params.vararg=none) (h4:fd.params.kwonlyargs=[]) (h5:fd.params.kwarg=none) (hd:fd.defaults=.none):bindArgs fd ⟨[],[]⟩=pure []:=by
 cases fd with
 | mk =>
  rename_i a1 a2 params a4 a5 a6 a7 a8 a9 a10 a11 a12 a13 a14 a15
  cases params
  dsimp only at h1 h2 h3 h4 h5 hd
  subst h1 h2 h3 h4 h5 hd
  rfl
section
variable {g:Gx} {K:Frag} (T:Tq g K) {k:Nat} {C fa:Addr} {name x y:Str} {su:SpU} {σ:St} {Q:Option V→St→Prop} {u v:V} {names:aq} {args:Arguments} {scope:Scope} {px py ap pos:Pos}
omit T in
theorem at_su {vs:List V} (h:Ok2 (su vs σ.w) fun a b=>Q a { σ with w:=b }):Ok2 (cU su vs σ) Q:=h.elim fun a h=>h.elim fun b h=>⟨a,_,by unfold cU;rw [h.1];rfl,h.2⟩
theorem xb (h:Ok2 (cU (lR C name su) [u,v] σ) Q):Ok2 (pf C name su (dk u) [dk v] σ) Q:=by
 obtain ⟨w,hw,h⟩:=uv (um2 h)
 obtain ⟨hc,h⟩:=uib h
 show Ok2 ((asO u).bind _) Q
 rw [show asO u=some w from hw]
 show Ok2 (if _ then _ else none) Q
 rw [if_pos hc.1]
 exact at_su h
theorem mk_lam (h:Ok2 (cU (spMk su) [u] σ) Q):Ok2 (pC C su (dk (.adr C)) [pB,dk u] σ) Q:=by
 obtain ⟨hc,h⟩:=uib (um2 h)
 show Ok2 (if C=C then _ else none) Q
 rw [if_pos rfl]
 exact at_su h
include T
theorem qJ (Me:pR K C name fa) (HC:hO false g k fa su) (hn:scope.names=names) (hco:scope.isCoroutine=false) (hge:scope.isGenerator=false) (hki:scope.kind=.function) (hno:∀ y∈names,y.2≠.local∧y.2≠.cell)
 (hbi:∀ fd:FuncData,fd.params=args→fd.defaults=.none→bindArgs fd ⟨[],[]⟩=pure []) (hx:names.lookup x=some .free) (hy:names.lookup y=some .free) (hxy:(y==x)=false) (dx:(x==("__debug__" : Str))=false∧(x==("__classdict__" : Str))=false) (dy:(y==("__debug__" : Str))=false∧(y==("__classdict__" : Str))=false)
 (hl:(ap.endLine==pos.line)=true) (hb:∀ env,attributeBase (.Name x px) name env (eval (.Name x px) env)=eval (.Name x px) env):rE g k args scope (.Call (.Attribute (.Name x px) name ap) [.Name y py] [] pos) names [x,y] (lR C name su) where
 names_:=hn
 co:=hco
 gen:=hge
 kind:=hki
 nol:=hno
 bind:=hbi
 body_ us h:=match us,h with
  | [u,v],_=>⟨pf C name su (dk u) [dk v],ey T.KI Me (pz hx (by show List.lookup x [(x,u),(y,v)]=_;rw [List.lookup_cons,beq_self_eq_true]) dx.1 dx.2) HC (aP (pz hy (by show List.lookup y [(x,u),(y,v)]=_;rw [List.lookup_cons,hxy,List.lookup_cons,beq_self_eq_true]) dy.1 dy.2) aU (aA rfl)) (au rfl) (aM rfl) hb hl fun a=>rfl,fun a a h=>xb h⟩
theorem lam_mk (hn:scope.names=names) (hco:scope.isCoroutine=false) (hge:scope.isGenerator=false) (hki:scope.kind=.function) (hno:∀ y∈names,y.2≠.local∧y.2≠.cell)
 (hbi:∀ fd:FuncData,fd.params=args→fd.defaults=.none→bindArgs fd ⟨[],[]⟩=pure []) (hd:names.lookup ("Delegations" : Str)=some .globalImplicit) (hx:names.lookup x=some .free) (dx:(x==("__debug__" : Str))=false∧(x==("__classdict__" : Str))=false):rE g (k+2) args scope (.Call (.Name "Delegations" py) [.Dict [] [] ap,.Name x px] [] pos) names [x] (spMk qk) where
 names_:=hn
 co:=hco
 gen:=hge
 kind:=hki
 nol:=hno
 bind:=hbi
 body_ us h:=match us,h with
  | [u],_=>⟨pC ad0.cDlg qk (dk (.adr ad0.cDlg)) [pB,dk u],og T.KI T.F.kp_cDlg (jE T T.F.g_Delegations rfl hd) (k_dlgU T) (aP b7 (aP (pz hx (by show List.lookup x [(x,u)]=_;rw [List.lookup_cons,beq_self_eq_true]) dx.1 dx.2) aU (aA rfl)) (aA rfl)) (au rfl) (aM rfl) af,fun a a h=>mk_lam h⟩
end
section
variable {g:Gx} {K:Frag} (T:Tq g K) {k:Nat}
include T
theorem k_bins:hO true g (k+13) ad0.a_law_bins rP:=by
 refine jN (k:=k+12) (cd:=some (.ref ad0.cd_bins)) T.G (T.F.f_bins.ok T.KI (by decide +kernel)) ?_ ⟨"w",rfl,0,rfl⟩ (fun a e=>Option.some.inj e▸T.F.cd_bins)
 have HC:(scC r7 (some (.ref ad0.cd_bins))).code=some (.ref ad0.cd_bins):=rfl
 have HT:=tb_bins T
 have HN:=ct_bins T
 delta zK;show dF _ _ _ _ (_::_) _;repeat' first | ((with_reducible refine aR ?_ ?_ ?_);rfl;rfl;rfl) | with_reducible exact aD bc | with_reducible exact aD (ba _) | with_reducible refine aW ?_ (bX T.KI T.F.f_next.h1) (mq T) ?_ (au ?_) af | with_reducible refine aW ?_ (bX T.KI T.F.f_digest.h1) (gS T) ?_ (au ?_) af | with_reducible refine bP ?_ ?_ | ((with_reducible refine jL ?_ ?_ ?_);rfl;rfl;rfl) | with_reducible exact aD cx | with_reducible exact aD bM | with_reducible refine bZ ?_ ?_ ?_ | with_reducible refine cE ?_ ?_ ?_ | with_reducible refine cF ?_ | with_reducible refine im ?_ | with_reducible refine pq ?_ | with_reducible refine pu qh F.slot_str_upper F.type_str_upper tD ?_ ?_ ?_ | with_reducible refine pu qi F.slot_str_lower F.type_str_lower tE ?_ ?_ ?_ | with_reducible refine cL zQ F.slot_str_index F.type_str_index s_index ?_ ?_ ?_ (an ?_) ?_ | with_reducible refine cL fM F.slot_str_encode F.type_str_encode gK ?_ ?_ ?_ (an ?_) ?_ | with_reducible exact b7 | with_reducible refine c9 T.KI T.F.kp_cSuc ?_ (k_suc T) ?_ (au ?_) (aM ?_) af | with_reducible refine c9 T.KI T.F.kp_cDlg ?_ (k_dlg1 T) ?_ (au ?_) (aM ?_) af | with_reducible refine c9 T.KI T.F.kp_cTar ?_ (k_tar T) ?_ (au ?_) (aM ?_) af | with_reducible refine n6 T.KI T.F.me_cDlg_get_roles_for_target ?_ ?_ (k_gr T) ?_ (au ?_) (aM ?_) ?_ ?_ ?_ (an ?_) af | ((with_reducible refine eO T ?_);rfl) | ((with_reducible refine sI T ?_);rfl) | ((with_reducible refine jE T ?_ ?_ ?_);(with_reducible first | exact T.F.g_law_next | exact T.F.g_law_digest | exact T.F.g_law_refused | exact T.F.g_Delegations | exact T.F.g_SuccinctRoles | exact T.F.g_Targets);rfl;rfl) | with_reducible refine aP ?_ ?_ (aA ?_) | with_reducible exact aU | ((with_reducible refine aH ?_ ?_ ?_ ?_);rotate_left;(first | exact .inl rfl | exact .inr rfl);rfl;exact fun a=>rfl) | with_reducible refine bI ?_ ?_ ?_ | with_reducible refine bu ?_ | with_reducible refine cT ?_ ?_ ?_ ?_ | with_reducible refine aC ?_ ?_ | with_reducible exact aJ | with_reducible refine aQ ?_ ?_ ?_ | with_reducible refine cG ?_ | with_reducible refine cY ?_ ?_ (an ?_) af | ((with_reducible refine bh ?_ ?_);(first | exact .inl rfl | exact .inr rfl);rfl) | ((with_reducible show hJ _ _ _ _ _);first | rfl | show ak _ _ _ _ _) | ((with_reducible show dF _ _ _ _ _ _);first | with_reducible refine dL ?_ ?_ | with_reducible refine bO.cc ?_ | delta ir | delta fK | delta iu | delta hG) | with_reducible refine cO.cc ?_ | with_reducible refine lC ?_ ?_ ?_ | with_reducible refine mR ?_ ?_ ?_ ?_ | ((with_reducible show d9 _ _ _ _ _ _);first | with_reducible refine bW.cc ?_ | with_reducible refine od ?_ | with_reducible refine vD ?_ ?_ | with_reducible refine rm ?_ ?_ | with_reducible refine vB ?_ ?_ ?_ | with_reducible refine sN ?_ | with_reducible refine n9 ?_ | with_reducible refine ku ?_ ?_ | delta jX) | ((with_reducible refine vC T.KI ?_ ?_ ?_);(with_reducible exact T.F.at_cSuc_bit_length)) | with_reducible refine ey T.KI T.F.me_cSuc_is_delegated_role ?_ (k_isdrC T) ?_ (au ?_) (aM ?_) ?_ ?_ ?_ | with_reducible refine ey T.KI T.F.me_cSuc_is_delegated_role ?_ (xH T) ?_ (au ?_) (aM ?_) ?_ ?_ ?_ | with_reducible refine ey T.KI T.F.me_cTar_get_delegated_role ?_ (tT T) ?_ (au ?_) (aM ?_) ?_ ?_ ?_ | with_reducible refine fZ T.G T.KI T.ref ?_ (qJ T T.F.me_cTar_get_delegated_role (tT T) rfl ?_ ?_ ?_ ?_ ?_ ?_ ?_ ?_ ?_ ?_ ?_ ?_) HC HT HN (fun a=>rfl) ?_ (an ?_) af | rfl | exact fun a=>rfl | exact fun fd h1 h2=>bind0 fd (by rw [h1]) (by rw [h1]) (by rw [h1]) (by rw [h1]) (by rw [h1]) h2 | decide +kernel | exact fun a a=>rfl
theorem k_law:hO true g (k+20) 600 suLaw:=by
 refine jN (k:=k+19) (cd:=some (.ref ad0.cd_law)) T.G (T.F.f_law.ok T.KI (by decide +kernel)) ?_ ⟨"script",rfl,0,rfl⟩ (fun a e=>Option.some.inj e▸T.F.cd_law)
 have HC:(scC w6 (some (.ref ad0.cd_law))).code=some (.ref ad0.cd_law):=rfl
 have HT:=tb_law T
 have HN:=ct_law T
 delta c_law;show dF _ _ _ _ (_::_) _;repeat' first | ((with_reducible refine aR ?_ ?_ ?_);rfl;rfl;rfl) | with_reducible exact aD bc | with_reducible exact aD (ba _) | with_reducible refine aW ?_ (bX T.KI T.F.f_next.h1) (mq T) ?_ (au ?_) af | with_reducible refine aW ?_ (bX T.KI T.F.f_digest.h1) (gS T) ?_ (au ?_) af | with_reducible refine aW ?_ (bX T.KI T.F.f_part.h1) (xG T) ?_ (au ?_) af | with_reducible refine aW ?_ (bX T.KI T.F.f_piece.h1) (k_piece T) ?_ (au ?_) af | with_reducible refine aW ?_ (bX T.KI T.F.f_prefix_.h1) (xF T) ?_ (au ?_) af | with_reducible refine aW ?_ (bX T.KI T.F.f_covers.h1) (xK T) ?_ (au ?_) af | with_reducible refine aW ?_ (bX T.KI T.F.f_draws.h1) (k_draws T) ?_ (au ?_) af | with_reducible refine bP ?_ ?_ | ((with_reducible refine jL ?_ ?_ ?_);rfl;rfl;rfl) | with_reducible exact aD cx | with_reducible exact aD bM | with_reducible refine bZ ?_ ?_ ?_ | with_reducible refine cE ?_ ?_ ?_ | with_reducible refine ca cr ?_ ?_ (an ?_) af | with_reducible refine cF ?_ | with_reducible refine im ?_ | with_reducible refine io ?_ ?_ ?_ | with_reducible refine cL pO F.slot_str_join F.type_str_join rV ?_ ?_ ?_ (an ?_) ?_ | with_reducible refine cL j0 F.slot_str_split F.type_str_split ll ?_ ?_ ?_ (an ?_) ?_ | with_reducible refine cL fM F.slot_str_encode F.type_str_encode gK ?_ ?_ ?_ (an ?_) ?_ | ((with_reducible refine jK ?_ rfl ?_ (mB ?_) ?_ ?_ ?_ ?_ ?_ ?_ ?_);kernel_rfl;rfl;kernel_rfl;rfl) | ((with_reducible refine eI T.KI ?_ ?_ ?_);(with_reducible first | exact T.F.at_cDel_keyids | exact T.F.at_cDel_name)) | with_reducible exact b7 | with_reducible refine c9 T.KI T.F.kp_cDel ?_ (k_del T) ?_ (au ?_) (aM ?_) af | with_reducible refine c9 T.KI T.F.kp_cDlg ?_ (k_dlg2 T) ?_ (au ?_) (aM ?_) af | with_reducible refine c9 T.KI T.F.kp_cTar ?_ (k_tar T) ?_ (au ?_) (aM ?_) af | ((with_reducible refine e_dict T ?_);rfl) | with_reducible refine vy ?_ ?_ (an ?_) af | with_reducible refine n6 T.KI T.F.me_cDlg_get_roles_for_target ?_ ?_ (k_gr T) ?_ (au ?_) (aM ?_) ?_ ?_ ?_ (an ?_) af | ((with_reducible refine dW T ?_);rfl) | ((with_reducible refine eO T ?_);rfl) | ((with_reducible refine sI T ?_);rfl) | ((with_reducible refine jE T ?_ ?_ ?_);(with_reducible first | exact T.F.g_law_next | exact T.F.g_law_digest | exact T.F.g_law_part | exact T.F.g_law_piece | exact T.F.g_law_covers | exact T.F.g_law_prefix | exact T.F.g_law_draws | exact T.F.g_law_bins | exact T.F.g_law_refused | exact T.F.g_DelegatedRole | exact T.F.g_Delegations | exact T.F.g_Targets);rfl;rfl) | with_reducible refine aP ?_ ?_ (aA ?_) | with_reducible exact aU | ((with_reducible show cO _ _ _ _ _);first | ((with_reducible refine aH ?_ ?_ ?_ ?_);rotate_left;(first | exact .inl rfl | exact .inr rfl);rfl;exact fun a=>rfl) | delta eU | delta ge | delta gc | with_reducible refine bI ?_ ?_ ?_ | with_reducible refine bu ?_ | with_reducible refine cT ?_ ?_ ?_ ?_ | ((with_reducible refine ip ?_ ?_ ?_ ?_ ?_ ?_ (fy ?_));rotate_left;rfl;rfl;rfl;exact fun a=>rfl;rfl;rfl) | ((with_reducible refine fG ?_ ?_ ?_);rotate_left;(first | exact .inl rfl | exact .inr rfl);rfl) | ((with_reducible refine yQ ?_ ?_ ?_ ?_ ?_ ?_);rotate_left 2;rfl;rfl;rfl;exact fun a=>rfl) | ((with_reducible refine yS ?_ ?_);(first | exact .inl rfl | exact .inr rfl);rfl) | ((with_reducible refine vA ?_ rfl ?_ (mB ?_) ?_ ?_ ?_ ?_ ?_ ?_ ?_ ?_ ?_ (wk ?_ ?_));kernel_rfl;rfl;kernel_rfl;rfl) | ((with_reducible refine rd ?_ ?_ ?_ ?_ ?_ ?_);rotate_left 2;rfl;rfl;rfl;exact fun a=>rfl) | ((with_reducible refine mP ?_ ?_ ?_ ?_);rotate_left 2;exact fun a=>rfl;(first | exact fun a a a=>rfl | exact fun a hk hf=>lH hk hf rfl | exact fun a a a=>ou))) | ((with_reducible show bO _ _ _ _ _);first | with_reducible refine aC ?_ ?_ | with_reducible exact aJ | delta ga | delta gb | delta gk | delta fH) | with_reducible refine aQ ?_ ?_ ?_ | with_reducible refine eP ?_ ?_ | with_reducible refine dX ?_ | with_reducible refine bB ?_ ?_ | with_reducible refine cG ?_ | with_reducible refine cY ?_ ?_ (an ?_) af | ((with_reducible refine bh ?_ ?_);(first | exact .inl rfl | exact .inr rfl);rfl) | with_reducible refine jI ?_ | ((with_reducible show hJ _ _ _ _ _);first | rfl | show ak _ _ _ _ _) | ((with_reducible show pW _ _ _ _ _);first | rfl | show bW _ _ _ _ _) | ((with_reducible show GN _ _ _);first | ((with_reducible refine lA ?_ ?_ ?_);(first | exact .inl rfl | exact .inr rfl);rfl) | with_reducible exact o9) | ((with_reducible show dF _ _ _ _ _ _);first | with_reducible refine dL ?_ ?_ | with_reducible refine bO.cc ?_ | delta jV | delta jW | delta lE | delta gf | delta eV | delta gh) | with_reducible refine cO.cc ?_ | with_reducible refine lC ?_ ?_ ?_ | with_reducible refine za ?_ | ((with_reducible refine gV ?_ ?_ ?_ ?_);rotate_left;(first | exact .inl rfl | exact .inr rfl);rfl;exact fun a=>rfl) | with_reducible refine mR ?_ ?_ ?_ ?_ | with_reducible refine bW.cc ?_ | with_reducible refine od ?_ | with_reducible refine rm ?_ ?_ | with_reducible refine n9 ?_ | with_reducible refine ku ?_ ?_ | with_reducible refine zb ?_ ?_ ?_ | with_reducible refine ey T.KI T.F.me_cTar_get_delegated_role ?_ (tT T) ?_ (au ?_) (aM ?_) ?_ ?_ ?_ | with_reducible refine og T.KI T.F.kp_a_law_bins ?_ (k_bins T) ?_ (au ?_) (aM ?_) af | with_reducible refine fZ T.G T.KI T.ref ?_ (qJ T T.F.me_cTar_get_delegated_role (tT T) rfl ?_ ?_ ?_ ?_ ?_ ?_ ?_ ?_ ?_ ?_ ?_ ?_) HC HT HN (fun a=>rfl) ?_ (an ?_) af | with_reducible refine fZ T.G T.KI T.ref ?_ (lam_mk T rfl ?_ ?_ ?_ ?_ ?_ ?_ ?_ ?_) HC HT HN (fun a=>rfl) ?_ (an ?_) af | rfl | exact fun a=>rfl | exact fun fd h1 h2=>bind0 fd (by rw [h1]) (by rw [h1]) (by rw [h1]) (by rw [h1]) (by rw [h1]) h2 | decide +kernel | exact fun a a=>rfl
end
noncomputable def P0 (g:Gx):Gh:={ m:=fun a=>g.h0.get? a,wa:=none,par:=g.w.params,tb:=g.tb,ms:=g.ms }
structure Tab0 (g:Gx) (h:Heap) (x:Addr×Addr):Prop where
 ne:x.1≠x.2
 code:h.IsCode x.1 x.2 #[]
 tab:h.TableAt x.1 x.2 #[]
 hid:g.h0.get? x.2=none
 cm:∃ o,g.h0.get? x.1=some o
def Z0 (g:Gx) (s:Shared):aE:=⟨Act.at s (P0 g) (fun b=>s.heap.get? b) [],default,[],callerA⟩
section
variable {g:Gx} {s:Shared}
def start (hm:∀ a o,g.h0.get? a=some o→s.heap.get? a=some o) (hg:s.gens=#[]) (ht:∀ x∈g.tb,Tab0 g s.heap x):Now (Z0 g s):=⟨⟨[],none⟩,P0 g,[],s,
 { le:=.refl _,new:=fun b b=>.inl,newW:=fun b e=>(nomatch e),pin:=hm,keep:=fun b b h b b b=>h,alive:=fun b o h=>⟨o,h⟩,waAlive:=fun b e=>(nomatch e),gens:=fun b b e=>e,bg:=fun y hy=>by rw [hg] at hy;exact absurd hy (Array.not_mem_empty y),drawn:=rfl,os:=rfl
   tab:=fun x hx=>have T:=ht x hx;⟨⟨_,T.tab.2,.inl ⟨_,rfl⟩⟩,T.hid,(fun e=>nomatch e),.inr T.cm,.tab T.ne T.code (fun b b b e=>nomatch e) T.tab⟩
   frs:=fun b h=>(nomatch h),w:=rfl,pfree:=fun b h=>(nomatch h),pnd:=.nil,own:=⟨rfl,rfl,fun b b b b h=>(nomatch h),fun b b h=>(nomatch h),fun b b b h=>(nomatch h)⟩ }⟩
theorem finish (ht:∀ x∈g.tb,Tab0 g s.heap x) (N:Now (Z0 g s)):OldK s.heap N.s.heap:=by
 refine ⟨fun b o hb=>?_,fun b o hb=>N.I.alive b o hb⟩
 have nw:N.P.wa≠some b:=fun e=>(N.I.newW b e).elim (fun q=>nomatch q) fun q=>aL (q.symm.trans hb)
 by_cases n:NT N.P b
 · exact .inl (N.I.keep b o hb nw n fun h=>nomatch h)
 · obtain ⟨x,hx,rfl⟩:∃ x∈N.P.tb,x.2=b:=Classical.byContradiction fun h=>n fun x hx e=>h ⟨x,hx,e⟩
   have T:=ht x ((show N.P.tb=g.tb from N.I.le.tb)▸hx)
   cases T.tab.2.symm.trans hb
   exact (N.I.tab x hx).code.rec (fun {ps} _ _ _ t=>.inr (.inl ⟨T.tab.isCodeTable,rfl,#[],ps,rfl,by rw [t.2];simp⟩)) fun q a a a a=>absurd q T.ne
theorem nW {P:Gh}:∀ {xs:List Value} {l:List Int},IntsAre xs l→VRels P (l.map .int) xs
 | _,_,.nil=>bz
 | _,_,.cons n t h=>bk (cq _ _) (nW h)
theorem law_end {K:Frag} (T:Tq g K) {a:Addr} {l:List Int} {xs:List Value} (hm:∀ a o,g.h0.get? a=some o→s.heap.get? a=some o) (hg:s.gens=#[]) (ht:∀ x∈g.tb,Tab0 g s.heap x)
 (sys:∃ o,g.h0.get? sysModules=some o) (hl:l.length≤1000) (hL:g.h0.get? a=some { cls:=.type "list",data:=.seq xs.toArray }) (hI:IntsAre xs l) :
 wpC (model g.prog g.w) callerA (call (.ref 600) [.ref a]) (fun v s'=>v=.bool true∧OldK s.heap s'.heap∧s'.os=s.os∧∀ y∈s'.gens,y.bare=true) (fun b b=>False) s:=by
 refine k_law (k:=0) T (Z:=Z0 g s) ⟨(by decide:callerA.depth+20<recursionLimit),(by decide:callerA.units+8 * 20+40<cLine),rfl⟩ ⟨fun b b h=>h,rfl,rfl,rfl,sys⟩ (start hm hg ht) (l:=[]) rfl (fun b h=>nomatch h) (vs:=[.lst (l.map .int)]) (Q:=fun v b=>v=some (.bool true)) ?_ ?_ (fun r=>?_) fun r=>nomatch r.q
 · exact bk (eA ⟨_,_,hL,rfl,rfl⟩ (nW hI)) bz
 · exact oR (aN (dr (l_law (R:=fun p=>p.1=some (.bool true)) hl fun b=>rfl)))
 · obtain ⟨v,x,N,le,hv,hq⟩:=r
   cases Option.some.inj hq
   exact ⟨hv,finish ht N,N.I.os,N.I.bg⟩
end
structure Top0 (s:Shared) (mg mb ms:Str→Option Value):Prop where
 g:s.heap.Ns mainGlobals mg
 b:s.heap.Ns builtinsNs mb
 builtins:∀ x:Str,x ≠ "__name__" → mb x=bootBuiltins x
 st:s.heap.Ns cStatics ms
 mod:∃ bm ob,mg "__builtins__" = some (.ref bm)∧bm≠builtinsNs∧s.heap.get? bm=some ob∧ob.cls=.type "module" ∧ ob.dict=some builtinsNs∧ob.data=.plain
theorem no_tf {C:Prop} (h:false=true):C:=nomatch h
def cut (K:Frag):Frag:=K.filter fun x=>!tbl.contains x.1
theorem jt {a:Addr} {o:Obj}:∀ {K:Frag},(cut K).lookup a=some o→K.lookup a=some o∧a∉tbl
 | [],h=>nomatch h
 | (b,p)::K,h=>by
  unfold cut at h
  rw [List.filter_cons] at h
  rw [List.lookup_cons]
  cases hb:tbl.contains b with
  | true =>
   rw [if_neg (by rw [hb];exact fun q=>nomatch q)] at h
   have h:=jt (K:=K) h
   rw [show (a==b)=false from beq_eq_false_iff_ne.mpr fun e=>h.2 (e.symm▸List.contains_iff_mem.mp hb)]
   exact h
  | false =>
   rw [if_pos (by rw [hb];rfl),List.lookup_cons] at h
   cases e:a==b with
   | true =>
    rw [e] at h
    exact ⟨h,fun q=>no_tf (hb.symm.trans (List.contains_iff_mem.mpr (beq_iff_eq.mp e▸q)))⟩
   | false=>rw [e] at h;exact jt (K:=K) h
theorem mT {K:Frag} {h:Heap} (X:K.In h):(cut K).In (hideAll h tbl):=fun a o e=>hideAll_get _ (X a o (jt e).1) (jt e).2
set_option backward.match.sparseCases false in
def tU (K:Frag) (a:Addr):Bool:=match dz K a with
 | .dict _ _=>true
 | _=>false
theorem yf {K:Frag} {a:Addr} {h:Heap} {m:Str→Option Value} (KI:K.In h) (N:h.Ns a m) (hb:tU K a=true) (x:Str):m x=cX K a x:=by
 refine Classical.byContradiction fun hn_=>?_
 unfold tU at hb
 refine hn_ ?_;clear hn_
 unfold cX
 refine Classical.byContradiction fun hn_=>?_
 split at hb
 · rename_i es ep e
   obtain ⟨o,q1,q2⟩:=lD e fun e=>nomatch e
   obtain ⟨o',es',ep',h1,h2,_,h4⟩:=N
   refine hn_ ?_;clear hn_
   cases (KI _ _ q1).symm.trans h1
   cases q2.symm.trans h2
   first | rw [e,← h4] | rw [← h4]
 · cases hb
theorem wi {a:Addr} (h:a∈tbl):∃ x∈tbs,x.2=a:=(by decide +kernel:∀ a∈tbl,∃ x∈tbs,x.2=a) a h
set_option backward.match.sparseCases false in
noncomputable def fldsD:Data→Option (Array Value)
 | .fields vs=>some vs
 | _=>none
theorem fldsD_e {d:Data} {vs:Array Value} (h:fldsD d=some vs):d=.fields vs:=by cases d<;>first | exact congrArg Data.fields (Option.some.inj h) | cases h
def tabF (x:Addr×Addr) (vs:Array Value):Bool:=vs[11]?==some (.ref x.2)&&(kV (vs.getD 18 .none)==1&&(kV (vs.getD 7 .none)==2&&(kV (vs.getD 9 .none)==3&&kV (vs.getD 10 .none)==2)))
def tabB (K:Frag) (x:Addr×Addr):Bool:=((K.lookup x.1).any fun o=>o.cls==.type "code" && (fldsD o.data).any (tabF x))&&(x.1 != x.2&&(tbl.contains x.2&&!tbl.contains x.1))
structure KT (K:Frag):Prop where
 F:KF (cut K)
 tb:tbs.all (tabB K)=true
 te:∀ P∈tbl,K.lookup P=some { cls:=.none,data:=.fields #[] }
 ns:tU (cut K) mainGlobals=true
 st:tU (cut K) cStatics=true
 stn:cX (cut K) cStatics "sys.recursionlimit" = none
 stq:cX (cut K) cStatics "thirdparty.any" = none
def gx (w:World) (s:Shared) (mg mb ms:Str→Option Value):Gx:=⟨ia,w,hideAll s.heap tbl,mg,mb,tbs,ms⟩
section
variable {K:Frag} {w:World} {s:Shared} {mg mb ms:Str→Option Value} (F:KT K) (KX:K.In s.heap) (T:Top0 s mg mb ms)
theorem hW {h:Heap} {a:Addr} {m:Str→Option Value} (N:h.Ns a m) (ha:a∉tbl):(hideAll h tbl).Ns a m:=N.imp fun b=>Exists.imp fun b=>Exists.imp fun b=>And.imp_left fun h=>hideAll_get _ h ha
include F KX
theorem tabs0:∀ x∈(gx w s mg mb ms).tb,Tab0 (gx w s mg mb ms) s.heap x:=fun x hx =>
 have E:=Bool.and_eq_true_iff.mp (List.all_eq_true.mp F.tb x hx)
 have E2:=Bool.and_eq_true_iff.mp E.2
 have E3:=Bool.and_eq_true_iff.mp E2.2
 have h3:=bne_iff_ne.mp E2.1
 have h4:=List.contains_iff_mem.mp E3.1
 have k2:=KX _ _ (F.te _ h4)
 (Option.any_eq_true _ _ |>.mp E.1).elim fun o h=>(Bool.and_eq_true_iff.mp h.2).elim fun hc h2=>(Option.any_eq_true _ _ |>.mp h2).elim fun vs hv =>
  have hd:=fldsD_e hv.1
  have f:=Bool.and_eq_true_iff.mp hv.2
  have f2:=Bool.and_eq_true_iff.mp f.2
  have f3:=Bool.and_eq_true_iff.mp f2.2
  have f4:=Bool.and_eq_true_iff.mp f3.2
  have h6:=beq_iff_eq.mp f.1
  have k1:=KX _ _ h.1
  (vh.1 (beq_iff_eq.mp f2.1)).elim fun a e=>e.elim fun a e1=>(vh.2.1 (beq_iff_eq.mp f3.1)).elim fun a e=>e.elim fun a e2=>(vh.2.2 (beq_iff_eq.mp f4.1)).elim fun a e3=>(vh.2.1 (beq_iff_eq.mp f4.2)).elim fun a e=>e.elim fun a e4 =>
  ⟨h3,⟨o,vs,_,_,_,_,_,_,_,_,k1,hd,Array.getD_eq_getD_getElem?.trans (congrArg (Option.getD · Value.none) h6),e1,e2,e3,e4,k2,rfl,trivial,h3⟩,⟨⟨o,vs,k1,beq_iff_eq.mp hc,hd,h6⟩,k2⟩,hideAll_none _ h4,⟨o,hideAll_get _ k1 fun q=>no_tf ((show tbl.contains x.1=false from (Bool.not_eq_true' _).mp E3.2).symm.trans (List.contains_iff_mem.mpr q))⟩⟩
include T
theorem mkTq:Tq (gx w s mg mb ms) (cut K) where
 F:=F.F
 KI:=mT KX
 gl:=yf (mT KX) (hW T.g (by decide)) F.ns
 prog:=rfl
 tb:=rfl
 G:={
  ns:=hW T.g (by decide)
  nb:=hW T.b (by decide)
  boot:=T.builtins
  stat:=hW T.st (by decide)
  nolimit:=(yf (mT KX) (hW T.st (by decide)) F.st _).trans F.stn
  noopq:=(yf (mT KX) (hW T.st (by decide)) F.st _).trans F.stq
  uniq:=by show ∀ x∈tbs,∀ y∈tbs,y.2=x.2→y=x;decide +kernel
  mod:=by
   obtain ⟨bm,ob,h1,h2,h3,h4,h5,h6⟩:=T.mod
   refine ⟨bm,ob,h1,h2,hideAll_get _ h3 fun q=>?_,h4,h5,h6⟩
   obtain ⟨x,hx,rfl⟩:=wi q
   cases (tabs0 (w:=w) (mg:=mg) (mb:=mb) (ms:=ms) F KX x hx).tab.2.symm.trans h3
   cases h4 }
theorem vY {l:List Int} {xs:List Value} {a:Addr} (hg:s.gens=#[]) (hl:l.length≤1000) (hL:s.heap.get? a=some { cls:=.type "list",data:=.seq xs.toArray }) (hI:IntsAre xs l) :
 wpC (model ia w) callerA (call (.ref 600) [.ref a]) (fun v s'=>v=.bool true∧OldK s.heap s'.heap∧s'.os=s.os∧∀ y∈s'.gens,y.bare=true) (fun c c=>False) s:=by
 have ht:=tabs0 (w:=w) (mg:=mg) (mb:=mb) (ms:=ms) F KX
 have na:a∉tbl:=fun q=>(wi q).elim fun x e=>nomatch (e.2▸(ht x e.1).tab.2.symm).trans hL
 exact law_end (g:=gx w s mg mb ms) (mkTq F KX T) (fun b o h=>of_hideAll _ h) hg ht ((Option.isSome_iff_exists.mp F.F.sys).imp fun o h=>mT KX _ _ h) hl (hideAll_get _ hL na) hI
end
end
section
open PySem PySem.W PyProof.Rows
theorem qu {prog:Program} {w:World} {t:Sem Fin} {s:Shared} {R:Result→Shared→Prop} (hz:s.asleep)
 (h:wpC (model prog w) callerA t (fun fin s'=>∃ f,fin=.done f∧R (.ok f) s'∧leftWithCleanup s'.gens=false) (fun e s'=>R (.error e) s'∧leftWithCleanup s'.gens=false) s) :
 ∃ n r s' s'',schedN (denote table) prog w n (.single s ⟨t,.builtin "claim.caller" {},default,[]⟩)=.halted (outcomeOf r) s''∧s''.heap=s'.heap∧s''.os=s'.os∧s''.heap.life=s.heap.life∧R r s':=by
 refine Classical.byContradiction fun hn_=>?_
 obtain ⟨n,r,s',s'',h1,h2,h3,h4⟩:=wp_halts_full (M:=model prog w) (c:=.builtin "claim.caller" {}) (R:=R) (p:=default) hz
  (Sem.wp_mono _ _ t (fun fin p' s' q=>by obtain ⟨f,rfl,q⟩:=q;exact q) (fun a a a q=>q) default s (h _ default caller_in rfl))
 obtain ⟨e1,_,_,e2,_⟩:=Shared.forget_eq h3
 refine hn_ ?_;clear hn_
 exact ⟨n,r,s',s'',h1,e1,e2,runN_life _ _ _ h2,h4⟩
abbrev WalkC (q:Program) (loose:List Str) (XP:(Str→Option Value)→Heap→Prop) (YP:World→Heap→Prop) (r:RowW) (d:DefRec) (kwd:List (Str×Expr)):Prop :=
 ∀ (w:World) (s₀ s₁:Shared) (mg mb:Str→Option Value),Ground q loose r.records XP w s₀ mg mb s₁.heap→YP w s₁.heap→mg d.name≠none →
  ∀ (args:List WData) (vals:List Value) (as:List Addr),r.claim.pre args=true→WData.layableAll args=true→s₁.gens=#[]→ReadsAllW r.records (classAt s₀.heap) s₁.heap vals args as→WellAll w.params s₁.heap vals args→(∀ a∈as,(a==sysModules)=false)→Laid r.records w s₀ s₁ args vals as →
   ∃ a,mg d.name=some (.ref a)∧wpC (model r.prog w) callerA (PySem.call (.ref a) vals) (fun v s'=>GoodWG r.claim (classAt s₀.heap) (ExcName.means s₀.heap) args s₁ (.ok (.ret v)) s')
    (fun e s'=>GoodWG r.claim (classAt s₀.heap) (ExcName.means s₀.heap) args s₁ (.error e) s') s₁
theorem rt {c:ClaimW} {stub:List Value→Thread} {w:World} {free:Addr→Prop} {gens:Prop} {kept:Heap→Prop} {s:Shared} (hg:s.gens=#[])
 (H:∀ args,c.pre args=true→WData.layableAll args=true→∀ ord:List DictEntry→List DictEntry,(∀ l,(ord l).Perm l)→∀ C:Prop,(∀ vs s₁ s' n x,layAllW c.records (classAt s.heap) w.params ord args s=some (vs,s₁) →
  schedN (denote table) c.prog w n (.single s₁ (stub vs))=.halted (outcomeOf x) s'→c.Ends s args vs s₁ x s'→kept s'.heap→s'.heap.life.seen=s.heap.life.seen→s'.rest=s.rest→C)→C):c.CallFrom stub w free gens kept s :=
 fun args hp hl ord ho=>H args hp hl ord ho _ fun vs s₁ s' n x l r e k a b=>⟨vs,s₁,l,n,_,s',r,
  e.imp (fun h=>h.imp fun v d=>⟨congrArg outcomeOf d.1,d.2.1,d.2.2.1,d.2.2.2.1,fun b o y f=>d.2.2.2.2.1 b o y,d.2.2.2.2.2⟩) (fun h=>h.imp fun e h=>h.imp fun ob h=>h.imp fun cls d=>⟨congrArg outcomeOf d.1,d.2.1,d.2.2.1,d.2.2.2.1,d.2.2.2.2.1,fun b o y f=>d.2.2.2.2.2 b o y⟩),
  (fun f i z hz=>by rw [hg] at hz;exact nomatch hz),k,a,b⟩
theorem zE {c:ClaimW} {q:Program} {loose:List Str} {XP:(Str→Option Value)→Heap→Prop} {mg mb:Str→Option Value} {name:Str} {w:World} {s:Shared} {free:Addr→Prop} {gens:Prop} {kept:Heap→Prop} {shapes:List WShape}
 (hsame:c.same=none) (hin:c.within=[]) (hid:∀ a b,c.ident a b=true) (hz:s.asleep) (hgens:s.gens=#[]) (hsp:∀ args,c.pre args=true→WShape.hasAll c.records args shapes=true) (G:Ground q loose c.records XP w s mg mb s.heap)
 (hk:∀ s₁ s':Shared,(∀ b o,s.heap.get? b=some o→s₁.heap.get? b=some o)→(∀ b o,s₁.heap.get? b=some o→asItWas s₁.heap s'.heap b o)→kept s'.heap)
 (walk:∀ s₁ args vals as,c.pre args=true→WData.layableAll args=true→Laid c.records w s s₁ args vals as→∃ a,mg name=some (.ref a)∧wpC (model c.prog w) callerA (PySem.call (.ref a) vals) (fun v s'=>GoodWG c (classAt s.heap) (ExcName.means s.heap) args s₁ (.ok (.ret v)) s')
  (fun e s'=>GoodWG c (classAt s.heap) (ExcName.means s.heap) args s₁ (.error e) s') s₁) :
 c.CallFrom (callStub name) w free gens kept s:=by
 refine rt hgens ?_
 intro args hpre hlay ord hord C qC
 obtain ⟨⟨vs,s₁⟩,hl⟩:=Option.isSome_iff_exists.mp (layAllW_isSome (P:=w.params) (ord:=ord) G.has args shapes s (hsp _ hpre))
 have rest:=layAllW_rest _ _ _ hl
 obtain ⟨as,hrd,hnew,hold⟩:=reads_layAllW hord _ _ _ hl hlay s₁.heap (fun d d e=>e)
 have L:Laid c.records w s s₁ args vs as:=⟨⟨ord,hord,hl⟩,hrd,hnew,hold,layAllW_keeps _ _ _ hl,rest.1.trans hgens,rest.2.2.1⟩
 obtain ⟨a,ea,hc⟩:=walk s₁ args vs as hpre hlay L
 have fin:∀ {x:Result} {s':Shared},GoodWG c (classAt s.heap) (ExcName.means s.heap) args s₁ x s'→(c.Ends s args vs s₁ x s'∧s'.os=s.os∧kept s'.heap)∧leftWithCleanup s'.gens=false:=fun g =>
  have z:=GoodWG.laid hsame hin hid L g
  ⟨⟨z.1,z.2.1,hk _ _ L.keeps g.2.1.old⟩,leftWithCleanup_false_of_bare z.2.2⟩
 obtain ⟨n,x,s',s'',e1,e2,e3,e4,e5,e6,e7⟩:=qu (prog:=c.prog) (w:=w) (R:=fun x s'=>c.Ends s args vs s₁ x s'∧s'.os=s.os∧kept s'.heap)
  (t:=do match ← nsGet mainNs name with
   | some f=>do ret (← PySem.call f vs)
   | none=>unsupported "claim.caller:no-such-global")
  (s:=s₁) (Shared.asleep_of_life rest.2.2.2 hz)
  (aK (wpAny_nsGet (G.T.g.keeps L.keeps) (by
   rw [ea]
   exact bj (bx hc (fun d s' g=>bw ⟨_,rfl,fin g⟩) fun e s' g=>fin g))))
 exact qC vs s₁ s'' n x hl e1 (e5.congr e2) (e2▸e7) ((congrArg (·.seen) e4).trans (congrArg (·.seen) rest.2.2.2)) (Shared.rest_eq (e3.trans e6))
theorem def_in {x n:Str} {b:Bool} (h:n∈(if b=true then [x] else [])):n=x:=match b,h with
 | true,h=>List.mem_singleton.mp h
theorem holdsC {r:OpenRow} {q:Program} {loose:List Str} {Xt:Shared→Bool} {XP:(Str→Option Value)→Heap→Prop} {α:Type} {Yf:Shared→α} {Ya:World→α} {YP:World→Heap→Prop} {d:DefRec} {kwd:List (Str×Expr)} {N:Nat}
 (left:LeftO r.prog q loose Xt Yf Ya N) (hY:∀ w s,Yf s=Ya w→YP w s.heap) (hYk:∀ w h h',YP w h→(∀ b o,h.get? b=some o→h'.get? b=some o)→YP w h')
 (hX:∀ s,Xt s=true→XP (s.heap.nsMap mainGlobals) s.heap) (hXk:∀ mg h h',XP mg h→(∀ b o,h.get? b=some o→h'.get? b=some o)→XP mg h')
 (hdef:defOf q r.name=some (d,kwd)) (hp:r.prog.theDef r.name=some (d.params,d.body,d.scope)) (hk:kwWritten? d.params.kwonlyargs d.params.kw_defaults=some kwd) (hRf:∀ s,Xt s=true→RecFacts r.records s.heap) (hwr:(!r.writes||r.records.isEmpty)=true)
 (k1:r.wellSaid=true) (ok:(chainsOk q&&opensWell r.prog&&(frees r.toRowW&&r.within.isEmpty))=true) (hb:r.prog.bare) (hw:r.toRowW.promised)
 (walk:WalkC q loose XP YP r.toRowW d kwd):r.Holds :=
 have o1:=Bool.and_eq_true_iff.mp ok
 have o2:=Bool.and_eq_true_iff.mp o1.1
 have o3:=Bool.and_eq_true_iff.mp o1.2
 have fr:=frees_parts o3.1
 ⟨k1,hw,⟨hb,o2.2,(by show r.toRowW.makers.map _=[];rw [fr.2.2.2.2];rfl)⟩,hw.witness,fun w =>
  have B:=left.behind (XP:=fun mg h=>XP mg h∧RecFacts r.records h) (fun s x=>⟨hX s x,hRf s x⟩) o2.1 w
  ⟨B.1,fun sb hsb=>(B.2 sb hsb).imp fun s₀ h=>⟨h.1,h.2.1,h.2.2.imp fun s h =>
   have G:=h.2.2.2.2.1
   have G0:Ground q loose [] XP w s (s.heap.nsMap mainGlobals) (s.heap.nsMap builtinsNs) s.heap:=⟨G.T,G.B,G.D,G.TE,G.TD,G.W,G.X.1,G.cls,G.has,G.apart,G.once,G.K⟩
   have G1:Ground q loose r.toRowW.records XP w s _ _ s.heap:=RecFacts.ground G.X.2 G0
   have hgens:s.gens=#[]:=Array.eq_empty_of_size_eq_zero (beq_iff_eq.mp h.2.2.1)
   ⟨h.1,fun n hn=>(def_in hn).symm▸pinned_of_view h.2.2.2.1 G0 hdef hp hk,G.X.2.1,G.X.2.2.1,zE (shapes:=r.toRowW.args) fr.1 (List.isEmpty_iff.mp o3.2) (ident_freeW fr.2.1 fr.2.2.1 fr.2.2.2.1) h.2.1 hgens (fun c h=>(pre_splitW h).1) G1
    (fun h₁ h' k g q=>⟨namesKept_of h.1 h.2.2.2.1 r.keeps k g,noTable hwr q⟩)
    fun s₁ args vs as hpre hlay L=>have G2:=G1.keeps hXk L.keeps
     (walk w s s₁ _ _ G2 (hYk _ _ _ (hY w s h.2.2.2.2.2) L.keeps) (by obtain ⟨a,o,pm,cd,doc,dV,kV,h1,_⟩:=G2.fn hdef;rw [defOf_name hdef,h1];exact fun h=>nomatch h) args vs as hpre hlay L.gens L.reads L.well (L.low G1.low) L).imp fun a e=>⟨defOf_name hdef▸e.1,e.2⟩⟩⟩⟩⟩
end
section
open PySem PySem.W PyProof.Rows
theorem aS {P:List Value→Prop} {n:Nat} (h:∀ a xs,xs.length=n→P (a::xs)):∀ xs,xs.length=n+1→P xs:=fun xs=>List.casesOn (motive:=fun xs=>xs.length=n+1→P xs) xs (fun e=>nomatch e) fun a xs e=>h a xs (Nat.succ.inj e)
theorem a0 {P:List Value→Prop} (h:P []):∀ xs,xs.length=0→P xs:=fun a e=>List.eq_nil_of_length_eq_zero e▸h
theorem cv {P:List Value→Prop} {m n N:Nat} (e:n+m=N) (h:∀ xs,xs.length=n→P xs):∀ xs:List Value,xs.length+m=N→P xs:=fun xs q=>h xs (Nat.add_right_cancel (q.trans e.symm))
theorem PySem.W.holds_open {r:OpenRow} {q:Program} {loose:List Str} {Xt:Shared→Bool} {XP:(Str→Option Value)→Heap→Prop} {α:Type} {Yf:Shared→α} {Ya:World→α} {YP:World→Heap→Prop} {d:DefRec} {kwd:List (Str×Expr)} {N:Nat}
 (left:LeftO r.prog q loose Xt Yf Ya N) (hY:∀ w s,Yf s=Ya w→YP w s.heap) (hYk:∀ w h h',YP w h→(∀ b o,h.get? b=some o→h'.get? b=some o)→YP w h')
 (hX:∀ s,Xt s=true→XP (s.heap.nsMap mainGlobals) s.heap) (hXk:∀ mg h h',XP mg h→(∀ b o,h.get? b=some o→h'.get? b=some o)→XP mg h')
 (hdef:defOf q r.name=some (d,kwd)) (hp:r.prog.theDef r.name=some (d.params,d.body,d.scope)) (hk:kwWritten? d.params.kwonlyargs d.params.kw_defaults=some kwd) (hRf:∀ s,Xt s=true→RecFacts r.records s.heap) (hwr:(!r.writes||r.records.isEmpty)=true)
 (k1:r.wellSaid=true) (ok:(chainsOk q&&opensWell r.prog&&(frees r.toRowW&&r.within.isEmpty))=true) (hb:r.prog.bare) (hw:r.toRowW.promised)
 (walk:WalkC q loose XP YP r.toRowW d kwd):r.Holds :=
 holdsC left hY hYk hX hXk hdef hp hk hRf hwr k1 ok hb hw walk
end
namespace main
theorem tw10044588960856096794:0=0:=rfl
theorem tw10047389527955405517:0=0:=rfl
theorem tw10092017014551392330:0=0:=rfl
theorem tw10094358506670053839:0=0:=rfl
theorem tw10114013102757674387:0=0:=rfl
theorem tw10123989817122485451:0=0:=rfl
theorem tw10140136200207757160:0=0:=rfl
theorem tw10149618387772673413:0=0:=rfl
theorem tw10159738436595150677:0=0:=rfl
theorem tw10169072693733980587:0=0:=rfl
theorem tw10177057350305019805:0=0:=rfl
theorem tw10199874654664476236:0=0:=rfl
theorem tw10231336680788121439:0=0:=rfl
theorem tw10234815189450012239:0=0:=rfl
theorem tw1027651156746619712:0=0:=rfl
theorem tw10283388844273144081:0=0:=rfl
theorem tw10363585996791799541:0=0:=rfl
theorem tw10391951854915411234:0=0:=rfl
theorem tw10404194590929265045:0=0:=rfl
theorem tw10450603732522932521:0=0:=rfl
theorem tw10455743928339290457:0=0:=rfl
theorem tw10463206416058312583:0=0:=rfl
theorem tw10564528347858357063:0=0:=rfl
theorem tw10609540516017602915:0=0:=rfl
theorem tw10616033007858572203:0=0:=rfl
theorem tw10625486282989778954:0=0:=rfl
theorem tw10642606787283503386:0=0:=rfl
theorem tw10652611922669240339:0=0:=rfl
theorem tw10652863235454686790:0=0:=rfl
theorem tw10663580350406149668:0=0:=rfl
theorem tw10665089971535097683:0=0:=rfl
theorem tw10665469846841522134:0=0:=rfl
theorem tw10707853282979444102:0=0:=rfl
theorem tw10755775206947875856:0=0:=rfl
theorem tw10821422270917381399:0=0:=rfl
theorem tw10864377008497418100:0=0:=rfl
theorem tw10876229203375891673:0=0:=rfl
theorem tw10876375607700338302:0=0:=rfl
theorem tw10877679251791092727:0=0:=rfl
theorem tw10896356407431480244:0=0:=rfl
theorem tw10924716458440934090:0=0:=rfl
theorem tw1092785777240315536:0=0:=rfl
theorem tw10953687544409504101:0=0:=rfl
theorem tw10992214633131536827:0=0:=rfl
theorem tw1099256609624015869:0=0:=rfl
theorem tw11001617756164336837:0=0:=rfl
theorem tw11003572833241299968:0=0:=rfl
theorem tw11020365191643786025:0=0:=rfl
theorem tw11041547156204584376:0=0:=rfl
theorem tw11049269918873537771:0=0:=rfl
theorem tw11092141859048813250:0=0:=rfl
theorem tw11101190512080308003:0=0:=rfl
theorem tw11120327062377616369:0=0:=rfl
theorem tw11135027115929721415:0=0:=rfl
theorem tw11156056980113079860:0=0:=rfl
theorem tw1118068078248606362:0=0:=rfl
theorem tw11181722664286889309:0=0:=rfl
theorem tw11221353774195762014:0=0:=rfl
theorem tw11239335112260394413:0=0:=rfl
theorem tw11251407683458634364:0=0:=rfl
theorem tw11261727412033496967:0=0:=rfl
theorem tw11273777480241942364:0=0:=rfl
theorem tw11311155076762098589:0=0:=rfl
theorem tw11349898740250378076:0=0:=rfl
theorem tw11374851513655246148:0=0:=rfl
theorem tw11388154006635350966:0=0:=rfl
theorem tw11399646045708457374:0=0:=rfl
theorem tw11403851563620829512:0=0:=rfl
theorem tw11410963132546700228:0=0:=rfl
theorem tw11461230924637031220:0=0:=rfl
theorem tw11476092923266045095:0=0:=rfl
theorem tw11501822485730972192:0=0:=rfl
theorem tw1150287232629052791:0=0:=rfl
theorem tw11531331273489700057:0=0:=rfl
theorem tw11544348965984651327:0=0:=rfl
theorem tw1156462466702112376:0=0:=rfl
theorem tw1157997071576566072:0=0:=rfl
theorem tw11595355409239048105:0=0:=rfl
theorem tw11646826074482590764:0=0:=rfl
theorem tw11692516046256081784:0=0:=rfl
theorem tw11712081513822626495:0=0:=rfl
theorem tw11716418206903941319:0=0:=rfl
theorem tw11735423636902730196:0=0:=rfl
theorem tw11752208632293872130:0=0:=rfl
theorem tw1178595665728414349:0=0:=rfl
theorem tw11815829001073249272:0=0:=rfl
theorem tw11849172195013744880:0=0:=rfl
theorem tw11857135199678951331:0=0:=rfl
theorem tw11962923498438245051:0=0:=rfl
theorem tw1198661942849946583:0=0:=rfl
theorem tw11987853993630220354:0=0:=rfl
theorem tw12014785543569010823:0=0:=rfl
theorem tw12027323910402764344:0=0:=rfl
theorem tw12053492024775567401:0=0:=rfl
theorem tw12077450504624328385:0=0:=rfl
theorem tw12093223907033996073:0=0:=rfl
theorem tw12093647306153771053:0=0:=rfl
theorem tw12139096438432415106:0=0:=rfl
theorem tw12170992721606120685:0=0:=rfl
theorem tw12205347405646519318:0=0:=rfl
theorem tw12252054271945606052:0=0:=rfl
theorem tw12273490649430754879:0=0:=rfl
theorem tw12283931031945665480:0=0:=rfl
theorem tw12343854547171428336:0=0:=rfl
theorem tw12361340156312767134:0=0:=rfl
theorem tw1236483940969888574:0=0:=rfl
theorem tw1242282695825638017:0=0:=rfl
theorem tw12431561837914552411:0=0:=rfl
theorem tw12431731261707249289:0=0:=rfl
theorem tw12450111651097656602:0=0:=rfl
theorem tw12455012482086183272:0=0:=rfl
theorem tw12463224122652932544:0=0:=rfl
theorem tw12483276189755474720:0=0:=rfl
theorem tw12518504611687188807:0=0:=rfl
theorem tw1253437644075932092:0=0:=rfl
theorem tw12543713266681445118:0=0:=rfl
theorem tw1255815211270559930:0=0:=rfl
theorem tw12564604832814323664:0=0:=rfl
theorem tw12590340796369385619:0=0:=rfl
theorem tw12594366453804578888:0=0:=rfl
theorem tw1261021989165538067:0=0:=rfl
theorem tw12623159325031504133:0=0:=rfl
theorem tw12653679108036650311:0=0:=rfl
theorem tw12675357926760492328:0=0:=rfl
theorem tw1270039299266317192:0=0:=rfl
theorem tw12702744160499308131:0=0:=rfl
theorem tw12732289081945773324:0=0:=rfl
theorem tw12741544251441588921:0=0:=rfl
theorem tw12747388180105724736:0=0:=rfl
theorem tw12748397558918655664:0=0:=rfl
theorem tw12751799325998411230:0=0:=rfl
theorem tw1277820614484962519:0=0:=rfl
theorem tw12800608258095302798:0=0:=rfl
theorem tw12839114828313443825:0=0:=rfl
theorem tw12872379398031375081:0=0:=rfl
theorem tw12885385263037960081:0=0:=rfl
theorem tw1289389943133740499:0=0:=rfl
theorem tw12900284412222446716:0=0:=rfl
theorem tw12909650291622432550:0=0:=rfl
theorem tw12915833801598196605:0=0:=rfl
theorem tw12922898485456448571:0=0:=rfl
theorem tw12927740378394474205:0=0:=rfl
theorem tw12941917028564957548:0=0:=rfl
theorem tw12974819211118642341:0=0:=rfl
theorem tw12987577155417789579:0=0:=rfl
theorem tw12992176717851604617:0=0:=rfl
theorem tw1306636233014830658:0=0:=rfl
theorem tw13110577991587790113:0=0:=rfl
theorem tw13113777628852026922:0=0:=rfl
theorem tw13116522157475607773:0=0:=rfl
theorem tw13132915859168520264:0=0:=rfl
theorem tw13148611719377898607:0=0:=rfl
theorem tw13154001654789283132:0=0:=rfl
theorem tw13180746182150919023:0=0:=rfl
theorem tw1319676515408343850:0=0:=rfl
theorem tw13219505800766818778:0=0:=rfl
theorem tw13224007501803129859:0=0:=rfl
theorem tw13227692790652741651:0=0:=rfl
theorem tw13260870731297125680:0=0:=rfl
theorem tw13270728482189477470:0=0:=rfl
theorem tw13293747886898857621:0=0:=rfl
theorem tw13313126695403321540:0=0:=rfl
theorem tw13348322127785295214:0=0:=rfl
theorem tw13465503431842376007:0=0:=rfl
theorem tw13590572293223372214:0=0:=rfl
theorem tw13591255225166038476:0=0:=rfl
theorem tw13626721169425172152:0=0:=rfl
theorem tw13639669503049741792:0=0:=rfl
theorem tw13642826006792871662:0=0:=rfl
theorem tw13676971244355772609:0=0:=rfl
theorem tw13693970394777133609:0=0:=rfl
theorem tw13724616953566380437:0=0:=rfl
theorem tw13797323745857372409:0=0:=rfl
theorem tw13803360072150633466:0=0:=rfl
theorem tw13838900630717943254:0=0:=rfl
theorem tw13876859957761632879:0=0:=rfl
theorem tw1390771862084280389:0=0:=rfl
theorem tw13962693860625380366:0=0:=rfl
theorem tw13972245371655741198:0=0:=rfl
theorem tw13974046611088194958:0=0:=rfl
theorem tw13980345723018547825:0=0:=rfl
theorem tw13989496423458381343:0=0:=rfl
theorem tw14009396871252706886:0=0:=rfl
theorem tw14061640607465278742:0=0:=rfl
theorem tw14064073609400967072:0=0:=rfl
theorem tw14080665800827857628:0=0:=rfl
theorem tw1409966394225722968:0=0:=rfl
theorem tw14161005256144132680:0=0:=rfl
theorem tw14168887731352723522:0=0:=rfl
theorem tw14216407083858561409:0=0:=rfl
theorem tw14218914174604095658:0=0:=rfl
theorem tw14235155234550121937:0=0:=rfl
theorem tw1429040668314091153:0=0:=rfl
theorem tw14313897822631088780:0=0:=rfl
theorem tw14364048958407549093:0=0:=rfl
theorem tw14368271195830560734:0=0:=rfl
theorem tw1439166485080882:0=0:=rfl
theorem tw14406990849044604362:0=0:=rfl
theorem tw14492832472218066102:0=0:=rfl
theorem tw14504180641510445567:0=0:=rfl
theorem tw1453356044741674121:0=0:=rfl
theorem tw1454224541498743561:0=0:=rfl
theorem tw14562738103837258888:0=0:=rfl
theorem tw14635473669698735251:0=0:=rfl
theorem tw14639212616227390028:0=0:=rfl
theorem tw14640416626631428029:0=0:=rfl
theorem tw14646587721710459877:0=0:=rfl
theorem tw14662554035588321541:0=0:=rfl
theorem tw14666387041718499266:0=0:=rfl
theorem tw14672674291997333471:0=0:=rfl
theorem tw1469836325065767749:0=0:=rfl
theorem tw14722489848711283861:0=0:=rfl
theorem tw14759895335926876869:0=0:=rfl
theorem tw14788915703135433725:0=0:=rfl
theorem tw14793117695081215449:0=0:=rfl
theorem tw14814594519894181452:0=0:=rfl
theorem tw14864641218109852296:0=0:=rfl
theorem tw14907226015203709474:0=0:=rfl
theorem tw14909365282108701170:0=0:=rfl
theorem tw1496695287857109588:0=0:=rfl
theorem tw15023316991559800185:0=0:=rfl
theorem tw1504049600530537962:0=0:=rfl
theorem tw15059693217772790739:0=0:=rfl
theorem tw15060185592220127646:0=0:=rfl
theorem tw15062679425460387418:0=0:=rfl
theorem tw15109750227778091905:0=0:=rfl
theorem tw15131278010643852716:0=0:=rfl
theorem tw15136431859952498927:0=0:=rfl
theorem tw1519927702969063271:0=0:=rfl
theorem tw15225127925928830808:0=0:=rfl
theorem tw15270170921892066516:0=0:=rfl
theorem tw15277975159832343749:0=0:=rfl
theorem tw15303317825217679618:0=0:=rfl
theorem tw15350898050860989542:0=0:=rfl
theorem tw15387884906608193903:0=0:=rfl
theorem tw15410482203810522393:0=0:=rfl
theorem tw15438212644395081984:0=0:=rfl
theorem tw1545906260438175962:0=0:=rfl
theorem tw15465920861327815835:0=0:=rfl
theorem tw15467891735981029475:0=0:=rfl
theorem tw15485851114877660061:0=0:=rfl
theorem tw15510692781650021527:0=0:=rfl
theorem tw15514936471743626214:0=0:=rfl
theorem tw15554039934745177238:0=0:=rfl
theorem tw15558288988949320067:0=0:=rfl
theorem tw15580989882048331800:0=0:=rfl
theorem tw15589955886551607785:0=0:=rfl
theorem tw15595112118272840620:0=0:=rfl
theorem tw15608450976537380609:0=0:=rfl
theorem tw15616401959046598769:0=0:=rfl
theorem tw15624239662980076321:0=0:=rfl
theorem tw15643365686152983790:0=0:=rfl
theorem tw15734200111481486640:0=0:=rfl
theorem tw15768048840197415361:0=0:=rfl
theorem tw15803610866087392283:0=0:=rfl
theorem tw15806524323241146399:0=0:=rfl
theorem tw15955573374722617477:0=0:=rfl
theorem tw15984706205718930553:0=0:=rfl
theorem tw16008252555379753968:0=0:=rfl
theorem tw16008457594558532635:0=0:=rfl
theorem tw16022572192331126682:0=0:=rfl
theorem tw16026485685270457870:0=0:=rfl
theorem tw16046730324260685337:0=0:=rfl
theorem tw16049902774474827687:0=0:=rfl
theorem tw16102231251864390963:0=0:=rfl
theorem tw16135426469972691074:0=0:=rfl
theorem tw16136984950599521427:0=0:=rfl
theorem tw1615045767204293396:0=0:=rfl
theorem tw16153842264607907944:0=0:=rfl
theorem tw161903638078081290:0=0:=rfl
theorem tw16193401482309157537:0=0:=rfl
theorem tw16218864148678617972:0=0:=rfl
theorem tw16251939892948500945:0=0:=rfl
theorem tw1628013610222277130:0=0:=rfl
theorem tw16320215318167395912:0=0:=rfl
theorem tw1632041292262086317:0=0:=rfl
theorem tw16320729459185622934:0=0:=rfl
theorem tw16356685582667847594:0=0:=rfl
theorem tw16357356043003861740:0=0:=rfl
theorem tw16411370214107742406:0=0:=rfl
theorem tw16451033083921036709:0=0:=rfl
theorem tw16452447596832230105:0=0:=rfl
theorem tw1645717771770832407:0=0:=rfl
theorem tw16480584520131690045:0=0:=rfl
theorem tw16508919721030705984:0=0:=rfl
theorem tw16512967305710189361:0=0:=rfl
theorem tw16519101796099990279:0=0:=rfl
theorem tw16544489699163171333:0=0:=rfl
theorem tw16572128252103988241:0=0:=rfl
theorem tw16629339528299215175:0=0:=rfl
theorem tw16641786646906312760:0=0:=rfl
theorem tw16676564476587882173:0=0:=rfl
theorem tw16689149305811164139:0=0:=rfl
theorem tw16721930046160240684:0=0:=rfl
theorem tw16765925921980633802:0=0:=rfl
theorem tw1677766988990989824:0=0:=rfl
theorem tw1678875084529416142:0=0:=rfl
theorem tw16798622893749714585:0=0:=rfl
theorem tw16817993663026736274:0=0:=rfl
theorem tw16826212616301561204:0=0:=rfl
theorem tw16832360635688203351:0=0:=rfl
theorem tw16922381011570985944:0=0:=rfl
theorem tw16923884221124529275:0=0:=rfl
theorem tw16950194794029067938:0=0:=rfl
theorem tw16965079339398995527:0=0:=rfl
theorem tw17052023290607921161:0=0:=rfl
theorem tw17091655785135471103:0=0:=rfl
theorem tw17118054049896295152:0=0:=rfl
theorem tw17128291446047057950:0=0:=rfl
theorem tw17146568849442343683:0=0:=rfl
theorem tw1714950047550659301:0=0:=rfl
theorem tw17201416709059790184:0=0:=rfl
theorem tw17223442867436993403:0=0:=rfl
theorem tw17236958762192778904:0=0:=rfl
theorem tw17264900360498390715:0=0:=rfl
theorem tw17268439761433841065:0=0:=rfl
theorem tw17290568124846718506:0=0:=rfl
theorem tw17292155258170135553:0=0:=rfl
theorem tw17353955331779342651:0=0:=rfl
theorem tw17402982504261768225:0=0:=rfl
theorem tw17403364634526059139:0=0:=rfl
theorem tw17413556829735388813:0=0:=rfl
theorem tw17431719831054627609:0=0:=rfl
theorem tw17438294365789470252:0=0:=rfl
theorem tw17450470499104002142:0=0:=rfl
theorem tw17453503289922162039:0=0:=rfl
theorem tw17477492558424962760:0=0:=rfl
theorem tw17495560712657236704:0=0:=rfl
theorem tw1750913461105467063:0=0:=rfl
theorem tw17510229520200029679:0=0:=rfl
theorem tw17561526911342447988:0=0:=rfl
theorem tw17644181745481072423:0=0:=rfl
theorem tw17679725944135375923:0=0:=rfl
theorem tw17699438841360665129:0=0:=rfl
theorem tw17708487481403421675:0=0:=rfl
theorem tw17715262827843222689:0=0:=rfl
theorem tw17725498274588495791:0=0:=rfl
theorem tw17737603089517620647:0=0:=rfl
theorem tw17767330081159143506:0=0:=rfl
theorem tw1777545030009416734:0=0:=rfl
theorem tw17864028415675338326:0=0:=rfl
theorem tw17906638245316424091:0=0:=rfl
theorem tw17958375852430007124:0=0:=rfl
theorem tw17974016328880235120:0=0:=rfl
theorem tw18031918436515192882:0=0:=rfl
theorem tw18063282731904131703:0=0:=rfl
theorem tw18134284020713443437:0=0:=rfl
theorem tw18178676814319149831:0=0:=rfl
theorem tw18218335207050127959:0=0:=rfl
theorem tw18238007617527299592:0=0:=rfl
theorem tw1826329307503635854:0=0:=rfl
theorem tw18284262389922463811:0=0:=rfl
theorem tw18287795668848337631:0=0:=rfl
theorem tw18315214858253571532:0=0:=rfl
theorem tw18325589031809861271:0=0:=rfl
theorem tw18332899500509843999:0=0:=rfl
theorem tw18344032359734412310:0=0:=rfl
theorem tw18385570937342765463:0=0:=rfl
theorem tw18392154025008590481:0=0:=rfl
theorem tw18403998269306519403:0=0:=rfl
theorem tw18418235949754561950:0=0:=rfl
theorem tw18421580907717582127:0=0:=rfl
theorem tw18425317256667529438:0=0:=rfl
theorem tw18431692314602308842:0=0:=rfl
theorem tw18442785490491869365:0=0:=rfl
theorem tw1850612553970854742:0=0:=rfl
theorem tw1886080085820668685:0=0:=rfl
theorem tw1980160206288974728:0=0:=rfl
theorem tw2007339730380871907:0=0:=rfl
theorem tw2019394398466159022:0=0:=rfl
theorem tw2039954845988140816:0=0:=rfl
theorem tw2110754180369666209:0=0:=rfl
theorem tw2164743871083121425:0=0:=rfl
theorem tw2173562974560187446:0=0:=rfl
theorem tw2190695567426971638:0=0:=rfl
theorem tw2195194259037543316:0=0:=rfl
theorem tw2225956059507018244:0=0:=rfl
theorem tw223528310411579522:0=0:=rfl
theorem tw2279707942289718827:0=0:=rfl
theorem tw2341703837736514645:0=0:=rfl
theorem tw2402762420636078793:0=0:=rfl
theorem tw2406621943657119228:0=0:=rfl
theorem tw2433702464844828792:0=0:=rfl
theorem tw244467455267321384:0=0:=rfl
theorem tw2456247091588846565:0=0:=rfl
theorem tw2496676261509829067:0=0:=rfl
theorem tw2524017781993486291:0=0:=rfl
theorem tw2538046985915079169:0=0:=rfl
theorem tw2544328076492683441:0=0:=rfl
theorem tw2566753976717531306:0=0:=rfl
theorem tw2583023086579268501:0=0:=rfl
theorem tw2629084897520917108:0=0:=rfl
theorem tw2647654807098235363:0=0:=rfl
theorem tw2663023399769592480:0=0:=rfl
theorem tw2702614204127132176:0=0:=rfl
theorem tw2704602940660078815:0=0:=rfl
theorem tw2714283472998740243:0=0:=rfl
theorem tw2724176850512262202:0=0:=rfl
theorem tw2729793432009153956:0=0:=rfl
theorem tw2744014450722944760:0=0:=rfl
theorem tw2750411421705246143:0=0:=rfl
theorem tw2821470743931037460:0=0:=rfl
theorem tw2852251193174398662:0=0:=rfl
theorem tw2900998541784483753:0=0:=rfl
theorem tw2906824675625879941:0=0:=rfl
theorem tw2921621734765799159:0=0:=rfl
theorem tw2921958311620399285:0=0:=rfl
theorem tw3027586509356016917:0=0:=rfl
theorem tw3045742163950154196:0=0:=rfl
theorem tw3089863615562363699:0=0:=rfl
theorem tw3160845607165458772:0=0:=rfl
theorem tw31828345220925962:0=0:=rfl
theorem tw3234112476842188716:0=0:=rfl
theorem tw3299218664060906527:0=0:=rfl
theorem tw330327031418712150:0=0:=rfl
theorem tw3314904115985164895:0=0:=rfl
theorem tw3334898401069334800:0=0:=rfl
theorem tw3343439749351644125:0=0:=rfl
theorem tw33456957511925785:0=0:=rfl
theorem tw3370190323706015969:0=0:=rfl
theorem tw3370842686811476594:0=0:=rfl
theorem tw3394367416137920725:0=0:=rfl
theorem tw341453280667917650:0=0:=rfl
theorem tw3454311308915712629:0=0:=rfl
theorem tw3464709057266567092:0=0:=rfl
theorem tw3466206800631347469:0=0:=rfl
theorem tw3469585674874982918:0=0:=rfl
theorem tw3491332818749588091:0=0:=rfl
theorem tw3532412968194664532:0=0:=rfl
theorem tw3549514262204291990:0=0:=rfl
theorem tw3557749057250611081:0=0:=rfl
theorem tw3562595001068472590:0=0:=rfl
theorem tw358491910552652209:0=0:=rfl
theorem tw3613476055612923068:0=0:=rfl
theorem tw3626430660855392483:0=0:=rfl
theorem tw3627144658338631552:0=0:=rfl
theorem tw3635900802997115186:0=0:=rfl
theorem tw365850788961202214:0=0:=rfl
theorem tw3706830351922483016:0=0:=rfl
theorem tw372505627349444580:0=0:=rfl
theorem tw3779293765908593550:0=0:=rfl
theorem tw3796207824708393856:0=0:=rfl
theorem tw3829396358689915599:0=0:=rfl
theorem tw3848698983108048278:0=0:=rfl
theorem tw3864431920445960829:0=0:=rfl
theorem tw3864827586467847463:0=0:=rfl
theorem tw3867218068155391060:0=0:=rfl
theorem tw387501639795913443:0=0:=rfl
theorem tw3899540372106597375:0=0:=rfl
theorem tw3905226178654972811:0=0:=rfl
theorem tw3911810758690780188:0=0:=rfl
theorem tw3934531018447913466:0=0:=rfl
theorem tw3958507339218470045:0=0:=rfl
theorem tw3960113756560652017:0=0:=rfl
theorem tw3963758770060641990:0=0:=rfl
theorem tw4026956272090484662:0=0:=rfl
theorem tw4038153913678941442:0=0:=rfl
theorem tw4039676971129161736:0=0:=rfl
theorem tw4044139247061151142:0=0:=rfl
theorem tw4088224383575840552:0=0:=rfl
theorem tw4126091431370883743:0=0:=rfl
theorem tw4139100593308808776:0=0:=rfl
theorem tw4156125974679941130:0=0:=rfl
theorem tw4189750870438640210:0=0:=rfl
theorem tw4297412468100583042:0=0:=rfl
theorem tw4310270188432123100:0=0:=rfl
theorem tw4324958949535026087:0=0:=rfl
theorem tw4333880214566435006:0=0:=rfl
theorem tw4413345314126155841:0=0:=rfl
theorem tw4438296763453613264:0=0:=rfl
theorem tw4452170602077327944:0=0:=rfl
theorem tw4475767826048309731:0=0:=rfl
theorem tw4491334807805099456:0=0:=rfl
theorem tw4500915450034043215:0=0:=rfl
theorem tw451873465583785326:0=0:=rfl
theorem tw452746233719593009:0=0:=rfl
theorem tw4544244032028310869:0=0:=rfl
theorem tw4573282807186111410:0=0:=rfl
theorem tw4585930131862741453:0=0:=rfl
theorem tw4638281056170512193:0=0:=rfl
theorem tw4650958065196391918:0=0:=rfl
theorem tw4651154628705390771:0=0:=rfl
theorem tw4681395471914393968:0=0:=rfl
theorem tw4710631507477712386:0=0:=rfl
theorem tw471287901995484742:0=0:=rfl
theorem tw474381771622712015:0=0:=rfl
theorem tw4749052000479324790:0=0:=rfl
theorem tw4766233809647381661:0=0:=rfl
theorem tw4775608329324902142:0=0:=rfl
theorem tw4812270449578504274:0=0:=rfl
theorem tw4817600198373253283:0=0:=rfl
theorem tw4839478117068044826:0=0:=rfl
theorem tw48596604365144762:0=0:=rfl
theorem tw4900431672193113347:0=0:=rfl
theorem tw4924694640843408985:0=0:=rfl
theorem tw4946776927847147119:0=0:=rfl
theorem tw49674306023711395:0=0:=rfl
theorem tw4990475226369331113:0=0:=rfl
theorem tw5061512775090418087:0=0:=rfl
theorem tw5102693214775723256:0=0:=rfl
theorem tw5127751686995613262:0=0:=rfl
theorem tw5160751907100791332:0=0:=rfl
theorem tw5181119749688162637:0=0:=rfl
theorem tw5203219222101121401:0=0:=rfl
theorem tw52199770228462824:0=0:=rfl
theorem tw5234446048077146213:0=0:=rfl
theorem tw5240536507193477226:0=0:=rfl
theorem tw5240779543111244032:0=0:=rfl
theorem tw5243159528196176124:0=0:=rfl
theorem tw5287059835090251167:0=0:=rfl
theorem tw5309058905264134205:0=0:=rfl
theorem tw5363903885879670357:0=0:=rfl
theorem tw5372645768047454471:0=0:=rfl
theorem tw5378808338967829844:0=0:=rfl
theorem tw5396361742852586263:0=0:=rfl
theorem tw5400957986263281647:0=0:=rfl
theorem tw5401703158475992631:0=0:=rfl
theorem tw5418533224930618480:0=0:=rfl
theorem tw5436791530062809996:0=0:=rfl
theorem tw5450094653865882931:0=0:=rfl
theorem tw545269030811804461:0=0:=rfl
theorem tw5456330333991267789:0=0:=rfl
theorem tw5517759331935216279:0=0:=rfl
theorem tw5518243967957118194:0=0:=rfl
theorem tw5532463470591059822:0=0:=rfl
theorem tw5571399437266216444:0=0:=rfl
theorem tw5585478044538960755:0=0:=rfl
theorem tw5613160597433933154:0=0:=rfl
theorem tw5623159541915647742:0=0:=rfl
theorem tw5638201095994319732:0=0:=rfl
theorem tw5649967823195072380:0=0:=rfl
theorem tw5665406974723832613:0=0:=rfl
theorem tw5665735395497279834:0=0:=rfl
theorem tw5677329702179833609:0=0:=rfl
theorem tw5781596087445459943:0=0:=rfl
theorem tw5790326737455844299:0=0:=rfl
theorem tw5797031442667253490:0=0:=rfl
theorem tw5831584030425509755:0=0:=rfl
theorem tw5837888446457221635:0=0:=rfl
theorem tw5842977544298395883:0=0:=rfl
theorem tw588950844065142505:0=0:=rfl
theorem tw5921134243170700561:0=0:=rfl
theorem tw593772263882113370:0=0:=rfl
theorem tw5995161000843957690:0=0:=rfl
theorem tw6019089244302038806:0=0:=rfl
theorem tw6044114016751833949:0=0:=rfl
theorem tw6053611964639427726:0=0:=rfl
theorem tw6075091234017535682:0=0:=rfl
theorem tw6112859857366181021:0=0:=rfl
theorem tw6161133996638707016:0=0:=rfl
theorem tw6162249291895867263:0=0:=rfl
theorem tw6164561884633627433:0=0:=rfl
theorem tw6183352029847204284:0=0:=rfl
theorem tw6214117541549086881:0=0:=rfl
theorem tw6222487380544312443:0=0:=rfl
theorem tw6259829193980601927:0=0:=rfl
theorem tw6334894449686545209:0=0:=rfl
theorem tw6385024630547198690:0=0:=rfl
theorem tw6389877041954997217:0=0:=rfl
theorem tw6418098437765475518:0=0:=rfl
theorem tw6449824600675878752:0=0:=rfl
theorem tw645136716886899192:0=0:=rfl
theorem tw6455149578367423246:0=0:=rfl
theorem tw6508729118710982530:0=0:=rfl
theorem tw6511744376749373798:0=0:=rfl
theorem tw6541472054586571296:0=0:=rfl
theorem tw6542085627976250192:0=0:=rfl
theorem tw6545385358150927430:0=0:=rfl
theorem tw6557543464795787104:0=0:=rfl
theorem tw656089360051881306:0=0:=rfl
theorem tw65644731488775911:0=0:=rfl
theorem tw6596593509180878263:0=0:=rfl
theorem tw66260789543402106:0=0:=rfl
theorem tw6632538468102435922:0=0:=rfl
theorem tw6635558491612396129:0=0:=rfl
theorem tw6639522245352263942:0=0:=rfl
theorem tw6655696309031964122:0=0:=rfl
theorem tw6660377722381337597:0=0:=rfl
theorem tw6674386428176565332:0=0:=rfl
theorem tw6674893403203295414:0=0:=rfl
theorem tw6690441779611380620:0=0:=rfl
theorem tw6696893160125735727:0=0:=rfl
theorem tw6697339332421208802:0=0:=rfl
theorem tw6702130215012162313:0=0:=rfl
theorem tw6741292078354696603:0=0:=rfl
theorem tw6785657489111691699:0=0:=rfl
theorem tw6788530277367551627:0=0:=rfl
theorem tw6788695710022549768:0=0:=rfl
theorem tw6801380410627298636:0=0:=rfl
theorem tw6855474311058116810:0=0:=rfl
theorem tw6862268138105152660:0=0:=rfl
theorem tw6862492499505807319:0=0:=rfl
theorem tw6877560268529008848:0=0:=rfl
theorem tw6880717277089553138:0=0:=rfl
theorem tw6886502059237256666:0=0:=rfl
theorem tw6907636171062424033:0=0:=rfl
theorem tw6910295442248876197:0=0:=rfl
theorem tw6912675738884088206:0=0:=rfl
theorem tw6981815665589151136:0=0:=rfl
theorem tw7019240024125815769:0=0:=rfl
theorem tw7074144079889050967:0=0:=rfl
theorem tw7083192437325867461:0=0:=rfl
theorem tw7093617532817203218:0=0:=rfl
theorem tw7108953243070827183:0=0:=rfl
theorem tw7113585516715319716:0=0:=rfl
theorem tw7153082081811710619:0=0:=rfl
theorem tw716429049611869786:0=0:=rfl
theorem tw7165207203227711834:0=0:=rfl
theorem tw7173623326730630234:0=0:=rfl
theorem tw7186131708394509389:0=0:=rfl
theorem tw7221758910455160077:0=0:=rfl
theorem tw7235775444256392728:0=0:=rfl
theorem tw7237411587787531456:0=0:=rfl
theorem tw7273056430967151046:0=0:=rfl
theorem tw7293298908176781663:0=0:=rfl
theorem tw7298748307773712898:0=0:=rfl
theorem tw7308723440029596264:0=0:=rfl
theorem tw7332330508316399935:0=0:=rfl
theorem tw7332552209862256014:0=0:=rfl
theorem tw7411558596216406370:0=0:=rfl
theorem tw7439787175107056256:0=0:=rfl
theorem tw750237026923860459:0=0:=rfl
theorem tw7514964652732493775:0=0:=rfl
theorem tw7590696779544312186:0=0:=rfl
theorem tw7623511443260959870:0=0:=rfl
theorem tw7624122152786673341:0=0:=rfl
theorem tw7624293977416268664:0=0:=rfl
theorem tw7647378279178456250:0=0:=rfl
theorem tw765107192605250810:0=0:=rfl
theorem tw7699798408344515789:0=0:=rfl
theorem tw7742616358663508648:0=0:=rfl
theorem tw7751025194823839400:0=0:=rfl
theorem tw7761410557224570781:0=0:=rfl
theorem tw7846812961960373227:0=0:=rfl
theorem tw785246043732427063:0=0:=rfl
theorem tw7884331609784382070:0=0:=rfl
theorem tw7929128423345735474:0=0:=rfl
theorem tw796168687070700412:0=0:=rfl
theorem tw7974275031393228247:0=0:=rfl
theorem tw7990673052136372694:0=0:=rfl
theorem tw799486724532869496:0=0:=rfl
theorem tw8046773169563483271:0=0:=rfl
theorem tw8049371512179776102:0=0:=rfl
theorem tw8060562821785662972:0=0:=rfl
theorem tw8079908401900000222:0=0:=rfl
theorem tw8090509862211737132:0=0:=rfl
theorem tw8127475511531132179:0=0:=rfl
theorem tw8207831470162742035:0=0:=rfl
theorem tw8211959896082780389:0=0:=rfl
theorem tw8228058824784995430:0=0:=rfl
theorem tw8260724100714396741:0=0:=rfl
theorem tw8265370782698574782:0=0:=rfl
theorem tw832900586485598795:0=0:=rfl
theorem tw833945537157984683:0=0:=rfl
theorem tw834873547066669988:0=0:=rfl
theorem tw8436210846270712021:0=0:=rfl
theorem tw8440099810896429113:0=0:=rfl
theorem tw8465960824934942068:0=0:=rfl
theorem tw8467378866343419333:0=0:=rfl
theorem tw8475525182357872103:0=0:=rfl
theorem tw8478376212529829071:0=0:=rfl
theorem tw8484041278411425421:0=0:=rfl
theorem tw8546124895413445307:0=0:=rfl
theorem tw854977524454699277:0=0:=rfl
theorem tw8627561154394265716:0=0:=rfl
theorem tw8652556701797213591:0=0:=rfl
theorem tw8707812797481193996:0=0:=rfl
theorem tw8729708805864041840:0=0:=rfl
theorem tw8809968196449919288:0=0:=rfl
theorem tw8834365191522931223:0=0:=rfl
theorem tw8844999433837080629:0=0:=rfl
theorem tw8905464785575363620:0=0:=rfl
theorem tw8917762570133797999:0=0:=rfl
theorem tw892681787802806017:0=0:=rfl
theorem tw8930851030842425676:0=0:=rfl
theorem tw8947760058931562597:0=0:=rfl
theorem tw8952462522180670554:0=0:=rfl
theorem tw9069182735580402390:0=0:=rfl
theorem tw9121559901702372667:0=0:=rfl
theorem tw917386388269078853:0=0:=rfl
theorem tw9175052073728820173:0=0:=rfl
theorem tw918671981122897330:0=0:=rfl
theorem tw9189880136782149556:0=0:=rfl
theorem tw9190990891756207365:0=0:=rfl
theorem tw9253799994812790149:0=0:=rfl
theorem tw9268297945177815525:0=0:=rfl
theorem tw9270581731022351580:0=0:=rfl
theorem tw9272984997812220495:0=0:=rfl
theorem tw9274054859765456524:0=0:=rfl
theorem tw9302470337196694018:0=0:=rfl
theorem tw9303439499767911484:0=0:=rfl
theorem tw9307664123825394698:0=0:=rfl
theorem tw9360745474812902239:0=0:=rfl
theorem tw9369988214560726041:0=0:=rfl
theorem tw9381277316556691805:0=0:=rfl
theorem tw9392487213469676918:0=0:=rfl
theorem tw9394770849952503311:0=0:=rfl
theorem tw9406782406253462049:0=0:=rfl
theorem tw9417822746687237092:0=0:=rfl
theorem tw9508770018378322450:0=0:=rfl
theorem tw9512817274939609580:0=0:=rfl
theorem tw9515011664573035354:0=0:=rfl
theorem tw9558744834307401277:0=0:=rfl
theorem tw9563168847844234846:0=0:=rfl
theorem tw9573086628692744296:0=0:=rfl
theorem tw9603942743374253068:0=0:=rfl
theorem tw962193829226610041:0=0:=rfl
theorem tw9656510801202774680:0=0:=rfl
theorem tw9670510015898674028:0=0:=rfl
theorem tw9681375758050803366:0=0:=rfl
theorem tw9682133043923132273:0=0:=rfl
theorem tw9730157408454304684:0=0:=rfl
theorem tw9756827057097773860:0=0:=rfl
theorem tw979501456738626862:0=0:=rfl
theorem tw9808303207383738048:0=0:=rfl
theorem tw9848185148710128376:0=0:=rfl
theorem tw9897820754763898449:0=0:=rfl
theorem tw9925469786538053656:0=0:=rfl
theorem tw993764313979041722:0=0:=rfl
theorem tw9942282790977331292:0=0:=rfl
theorem tw9957550378297406723:0=0:=rfl
theorem tw9976160756891316704:0=0:=rfl
end main
open _root_.PySem _root_.PySem.W _root_.PyProof.Rows
theorem main:_root_.PySem.Challenge.rw_jk0047_01.Holds:=by
 w_on;o_law;x_head;(case hw=>w_witness2)
 have KFp:∀ p,KT (Mine.main.heap_1_39 p):=fun p=>{
  F:={
  f_next:=⟨by kernel_rfl,by kernel_rfl,by kernel_rfl,by kernel_rfl,by kernel_rfl,by kernel_rfl,by kernel_rfl,aS fun _=>aS fun _=>a0 (by kernel_rfl)⟩
  f_draws:=⟨by kernel_rfl,by kernel_rfl,by kernel_rfl,by kernel_rfl,by kernel_rfl,by kernel_rfl,by kernel_rfl,aS fun _=>a0 (by kernel_rfl)⟩
  f_digest:=⟨by kernel_rfl,by kernel_rfl,by kernel_rfl,by kernel_rfl,by kernel_rfl,by kernel_rfl,by kernel_rfl,aS fun _=>aS fun _=>a0 (by kernel_rfl)⟩
  f_part:=⟨by kernel_rfl,by kernel_rfl,by kernel_rfl,by kernel_rfl,by kernel_rfl,by kernel_rfl,by kernel_rfl,aS fun _=>a0 (by kernel_rfl)⟩
  f_piece:=⟨by kernel_rfl,by kernel_rfl,by kernel_rfl,by kernel_rfl,by kernel_rfl,by kernel_rfl,by kernel_rfl,aS fun _=>aS fun _=>a0 (by kernel_rfl)⟩
  f_tokens:=⟨by kernel_rfl,by kernel_rfl,by kernel_rfl,by kernel_rfl,by kernel_rfl,by kernel_rfl,by kernel_rfl,aS fun _=>a0 (by kernel_rfl)⟩
  f_holds:=⟨by kernel_rfl,by kernel_rfl,by kernel_rfl,by kernel_rfl,by kernel_rfl,by kernel_rfl,by kernel_rfl,aS fun _=>aS fun _=>a0 (by kernel_rfl)⟩
  f_fits:=⟨by kernel_rfl,by kernel_rfl,by kernel_rfl,by kernel_rfl,by kernel_rfl,by kernel_rfl,by kernel_rfl,aS fun _=>aS fun _=>a0 (by kernel_rfl)⟩
  f_covers:=⟨by kernel_rfl,by kernel_rfl,by kernel_rfl,by kernel_rfl,by kernel_rfl,by kernel_rfl,by kernel_rfl,aS fun _=>aS fun _=>a0 (by kernel_rfl)⟩
  f_prefix_:=⟨by kernel_rfl,by kernel_rfl,by kernel_rfl,by kernel_rfl,by kernel_rfl,by kernel_rfl,by kernel_rfl,aS fun _=>aS fun _=>a0 (by kernel_rfl)⟩
  f_chunks:=⟨by kernel_rfl,by kernel_rfl,by kernel_rfl,by kernel_rfl,by kernel_rfl,by kernel_rfl,by kernel_rfl,aS fun _=>a0 (by kernel_rfl)⟩
  f_class_:=⟨by kernel_rfl,by kernel_rfl,by kernel_rfl,by kernel_rfl,by kernel_rfl,by kernel_rfl,by kernel_rfl,aS fun _=>aS fun _=>a0 (by kernel_rfl)⟩
  f_case_:=⟨by kernel_rfl,by kernel_rfl,by kernel_rfl,by kernel_rfl,by kernel_rfl,by kernel_rfl,by kernel_rfl,aS fun _=>aS fun _=>a0 (by kernel_rfl)⟩
  f_hex:=⟨by kernel_rfl,by kernel_rfl,by kernel_rfl,by kernel_rfl,by kernel_rfl,by kernel_rfl,by kernel_rfl,aS fun _=>aS fun _=>a0 (by kernel_rfl)⟩
  f_inpat:=⟨by kernel_rfl,by kernel_rfl,by kernel_rfl,by kernel_rfl,by kernel_rfl,by kernel_rfl,by kernel_rfl,aS fun _=>aS fun _=>a0 (by kernel_rfl)⟩
  f_isdp:=⟨by kernel_rfl,by kernel_rfl,by kernel_rfl,by kernel_rfl,by kernel_rfl,by kernel_rfl,by kernel_rfl,aS fun _=>aS fun _=>aS fun _=>a0 (by kernel_rfl)⟩
  f_grft:=⟨by kernel_rfl,by kernel_rfl,by kernel_rfl,by kernel_rfl,by kernel_rfl,by kernel_rfl,by kernel_rfl,aS fun _=>aS fun _=>aS fun _=>a0 (by kernel_rfl)⟩
  f_isdr:=⟨by kernel_rfl,by kernel_rfl,by kernel_rfl,by kernel_rfl,by kernel_rfl,by kernel_rfl,by kernel_rfl,aS fun _=>aS fun _=>a0 (by kernel_rfl)⟩
  f_gdr:=⟨by kernel_rfl,by kernel_rfl,by kernel_rfl,by kernel_rfl,by kernel_rfl,by kernel_rfl,by kernel_rfl,aS fun _=>aS fun _=>a0 (by kernel_rfl)⟩
  f_gr:=⟨by kernel_rfl,by kernel_rfl,by kernel_rfl,by kernel_rfl,by kernel_rfl,by kernel_rfl,by kernel_rfl,aS fun _=>aS fun _=>aS fun _=>a0 (by kernel_rfl)⟩
  f_bins:=⟨by kernel_rfl,by kernel_rfl,by kernel_rfl,by kernel_rfl,by kernel_rfl,by kernel_rfl,by kernel_rfl,aS fun _=>aS fun _=>a0 (by kernel_rfl)⟩
  f_law:=⟨by kernel_rfl,by kernel_rfl,by kernel_rfl,by kernel_rfl,by kernel_rfl,by kernel_rfl,by kernel_rfl,aS fun _=>a0 (by kernel_rfl)⟩
  f_refu:=⟨by kernel_rfl,by kernel_rfl,by kernel_rfl,by kernel_rfl,by kernel_rfl,by kernel_rfl,by kernel_rfl,aS fun _=>a0 (by kernel_rfl)⟩
  i_sig:=⟨by kernel_rfl,by kernel_rfl,by kernel_rfl,by kernel_rfl,by kernel_rfl,by kernel_rfl,fun _ _=>cv (n:=4) rfl (aS fun _=>aS fun _=>aS fun _=>aS fun _=>a0 (by kernel_rfl))⟩
  i_rol:=⟨by kernel_rfl,by kernel_rfl,by kernel_rfl,by kernel_rfl,by kernel_rfl,by kernel_rfl,fun _ _=>cv (n:=3) rfl (aS fun _=>aS fun _=>aS fun _=>a0 (by kernel_rfl))⟩
  i_del:=⟨by kernel_rfl,by kernel_rfl,by kernel_rfl,by kernel_rfl,by kernel_rfl,by kernel_rfl,fun _ _=>cv (n:=6) rfl (aS fun _=>aS fun _=>aS fun _=>aS fun _=>aS fun _=>aS fun _=>a0 (by kernel_rfl))⟩
  i_suc:=⟨by kernel_rfl,by kernel_rfl,by kernel_rfl,by kernel_rfl,by kernel_rfl,by kernel_rfl,fun _ _=>cv (n:=4) rfl (aS fun _=>aS fun _=>aS fun _=>aS fun _=>a0 (by kernel_rfl))⟩
  i_tar:=⟨by kernel_rfl,by kernel_rfl,by kernel_rfl,by kernel_rfl,by kernel_rfl,by kernel_rfl,fun _ _=>cv (n:=5) rfl (aS fun _=>aS fun _=>aS fun _=>aS fun _=>aS fun _=>a0 (by kernel_rfl))⟩
  i_dlg1:=⟨by kernel_rfl,by kernel_rfl,by kernel_rfl,by kernel_rfl,by kernel_rfl,by kernel_rfl,fun _ _=>cv (n:=3) rfl (aS fun _=>aS fun _=>aS fun _=>a0 (by kernel_rfl))⟩
  i_dlg2:=⟨by kernel_rfl,by kernel_rfl,by kernel_rfl,by kernel_rfl,by kernel_rfl,by kernel_rfl,fun _ _=>cv (n:=2) rfl (aS fun _=>aS fun _=>a0 (by kernel_rfl))⟩
  gn:=by kernel_rfl
  g_law_draws:=by kernel_rfl
  g_law_next:=by kernel_rfl
  g_law_digest:=by kernel_rfl
  g_law_part:=by kernel_rfl
  g_law_piece:=by kernel_rfl
  g_law_tokens:=by kernel_rfl
  g_law_holds:=by kernel_rfl
  g_law_fits:=by kernel_rfl
  g_law_covers:=by kernel_rfl
  g_law_prefix:=by kernel_rfl
  g_fnmatch_chunks:=by kernel_rfl
  g_fnmatch_class:=by kernel_rfl
  g_fnmatchcase:=by kernel_rfl
  g_hex:=by kernel_rfl
  g_law_bins:=by kernel_rfl
  g_law_refused:=by kernel_rfl
  g_law:=by kernel_rfl
  g_DelegatedRole:=by kernel_rfl
  g_Delegations:=by kernel_rfl
  g_SuccinctRoles:=by kernel_rfl
  g_Targets:=by kernel_rfl
  g_SPECIFICATION_VERSION:=by kernel_rfl
  g_TOP_LEVEL_ROLE_NAMES:=by kernel_rfl
  sys:=by kernel_rfl
  spec:=by kernel_rfl
  top:=by kernel_rfl
  at_cDel_keyids:=gC (by kernel_rfl)
  at_cDel_name:=gC (by kernel_rfl)
  at_cDel_path_hash_prefixes:=gC (by kernel_rfl)
  at_cDel_paths:=gC (by kernel_rfl)
  at_cDel_terminating:=gC (by kernel_rfl)
  at_cDlg_roles:=gC (by kernel_rfl)
  at_cDlg_succinct_roles:=gC (by kernel_rfl)
  at_cSuc_bit_length:=gC (by kernel_rfl)
  at_cSuc_name_prefix:=gC (by kernel_rfl)
  at_cSuc_number_of_bins:=gC (by kernel_rfl)
  at_cSuc_suffix_len:=gC (by kernel_rfl)
  at_cTar_delegations:=gC (by kernel_rfl)
  st_cDel_keyids:=⟨by kernel_rfl,by kernel_rfl,by kernel_rfl,by kernel_rfl⟩
  st_cDel_name:=⟨by kernel_rfl,by kernel_rfl,by kernel_rfl,by kernel_rfl⟩
  st_cDel_path_hash_prefixes:=⟨by kernel_rfl,by kernel_rfl,by kernel_rfl,by kernel_rfl⟩
  st_cDel_paths:=⟨by kernel_rfl,by kernel_rfl,by kernel_rfl,by kernel_rfl⟩
  st_cDel_terminating:=⟨by kernel_rfl,by kernel_rfl,by kernel_rfl,by kernel_rfl⟩
  st_cDel_threshold:=⟨by kernel_rfl,by kernel_rfl,by kernel_rfl,by kernel_rfl⟩
  st_cDel_unrecognized_fields:=⟨by kernel_rfl,by kernel_rfl,by kernel_rfl,by kernel_rfl⟩
  st_cDlg_keys:=⟨by kernel_rfl,by kernel_rfl,by kernel_rfl,by kernel_rfl⟩
  st_cDlg_roles:=⟨by kernel_rfl,by kernel_rfl,by kernel_rfl,by kernel_rfl⟩
  st_cDlg_succinct_roles:=⟨by kernel_rfl,by kernel_rfl,by kernel_rfl,by kernel_rfl⟩
  st_cDlg_unrecognized_fields:=⟨by kernel_rfl,by kernel_rfl,by kernel_rfl,by kernel_rfl⟩
  st_cSuc_bit_length:=⟨by kernel_rfl,by kernel_rfl,by kernel_rfl,by kernel_rfl⟩
  st_cSuc_keyids:=⟨by kernel_rfl,by kernel_rfl,by kernel_rfl,by kernel_rfl⟩
  st_cSuc_name_prefix:=⟨by kernel_rfl,by kernel_rfl,by kernel_rfl,by kernel_rfl⟩
  st_cSuc_number_of_bins:=⟨by kernel_rfl,by kernel_rfl,by kernel_rfl,by kernel_rfl⟩
  st_cSuc_suffix_len:=⟨by kernel_rfl,by kernel_rfl,by kernel_rfl,by kernel_rfl⟩
  st_cSuc_threshold:=⟨by kernel_rfl,by kernel_rfl,by kernel_rfl,by kernel_rfl⟩
  st_cSuc_unrecognized_fields:=⟨by kernel_rfl,by kernel_rfl,by kernel_rfl,by kernel_rfl⟩
  st_cTar_delegations:=⟨by kernel_rfl,by kernel_rfl,by kernel_rfl,by kernel_rfl⟩
  st_cTar_expires:=⟨by kernel_rfl,by kernel_rfl,by kernel_rfl,by kernel_rfl⟩
  st_cTar_spec_version:=⟨by kernel_rfl,by kernel_rfl,by kernel_rfl,by kernel_rfl⟩
  st_cTar_targets:=⟨by kernel_rfl,by kernel_rfl,by kernel_rfl,by kernel_rfl⟩
  st_cTar_unrecognized_fields:=⟨by kernel_rfl,by kernel_rfl,by kernel_rfl,by kernel_rfl⟩
  st_cTar_version:=⟨by kernel_rfl,by kernel_rfl,by kernel_rfl,by kernel_rfl⟩
  me_cDel_is_delegated_path:=⟨by kernel_rfl,by kernel_rfl,by kernel_rfl,by kernel_rfl⟩
  me_cDlg_get_roles_for_target:=⟨by kernel_rfl,by kernel_rfl,by kernel_rfl,by kernel_rfl⟩
  me_cSuc_get_role_for_target:=⟨by kernel_rfl,by kernel_rfl,by kernel_rfl,by kernel_rfl⟩
  me_cSuc_is_delegated_role:=⟨by kernel_rfl,by kernel_rfl,by kernel_rfl,by kernel_rfl⟩
  me_cTar_get_delegated_role:=⟨by kernel_rfl,by kernel_rfl,by kernel_rfl,by kernel_rfl⟩
  sm:=⟨by kernel_rfl,by kernel_rfl,⟨299,[.bool false],by kernel_rfl,by kernel_rfl,by kernel_rfl,by kernel_rfl,by kernel_rfl⟩,by kernel_rfl,by kernel_rfl⟩
  kp_a_law_bins:=by kernel_rfl
  kp_a_law_digest:=by kernel_rfl
  kp_cDel:=by kernel_rfl
  kp_cDlg:=by kernel_rfl
  kp_cSuc:=by kernel_rfl
  kp_cTar:=by kernel_rfl
  kp_refused:=by kernel_rfl
  tr_cDel:=⟨by kernel_rfl,by kernel_rfl⟩
  tr_cSuc:=⟨by kernel_rfl,by kernel_rfl⟩
  mk_del:=⟨by kernel_rfl,by kernel_rfl,by kernel_rfl⟩
  mk_suc:=⟨by kernel_rfl,by kernel_rfl,by kernel_rfl⟩
  mk_tar:=⟨by kernel_rfl,by kernel_rfl,by kernel_rfl⟩
  mk_dlg:=⟨by kernel_rfl,by kernel_rfl,by kernel_rfl⟩
  su_del:=⟨by kernel_rfl,by kernel_rfl,by kernel_rfl,by kernel_rfl,by kernel_rfl,by kernel_rfl,by kernel_rfl,by kernel_rfl,by kernel_rfl,by kernel_rfl⟩
  su_suc:=⟨by kernel_rfl,by kernel_rfl,by kernel_rfl,by kernel_rfl,by kernel_rfl,by kernel_rfl,by kernel_rfl,by kernel_rfl,by kernel_rfl,by kernel_rfl⟩
  su_tar:=⟨by kernel_rfl,by kernel_rfl,by kernel_rfl,by kernel_rfl,by kernel_rfl,by kernel_rfl,by kernel_rfl,by kernel_rfl,by kernel_rfl,by kernel_rfl⟩
  cd_sig:=by kernel_rfl
  cd_del:=by kernel_rfl
  cd_dlg:=by kernel_rfl
  cd_bins:=by kernel_rfl
  cd_law:=by kernel_rfl },
  tb:=by kernel_rfl,
  te:=List.forall_mem_cons.mpr ⟨by kernel_rfl,List.forall_mem_cons.mpr ⟨by kernel_rfl,List.forall_mem_cons.mpr ⟨by kernel_rfl,List.forall_mem_cons.mpr ⟨by kernel_rfl,List.forall_mem_cons.mpr ⟨by kernel_rfl,fun _ h=>nomatch h⟩⟩⟩⟩⟩,
  ns:=by kernel_rfl,
  st:=by kernel_rfl,
  stn:=by kernel_rfl,
  stq:=by kernel_rfl }
 intro w s₀ s₁ mg mb G Y hm args vals as hpre hlay hg hrd hwl hlo L
 have KX:=kIn_of Y
 refine Ground.open G ?_
 intro T B D TE TW
 clear D TE TW B
 obtain ⟨mc,hmc,_⟩:=T.nodigits
 have F:=KFp w.params
 have T0:Top0 s₁ mg mb mc:=⟨T.g,T.b,T.builtins,hmc,T.bmain⟩
 clear G Y
 have hm:mg "law" = some (.ref 600):=(mkTq (w:=w) F KX T0).gv F.F.g_law
 clear T
 wrow_args hpre hlay hrd hwl hlo
 rename_i l h1 h2 h3 h4 h5 xs1 xs2 a vs xs3 hL h6 h7 h8 hI h9 hc _
 refine ⟨600,hm,bx (vY F KX T0 hg (by omega) (X.script_obj L hL) hI) (fun v s' h=>?_) fun _ _ h=>h.elim⟩
 obtain ⟨rfl,k,o,b⟩:=h
 exact ⟨.inl ⟨_,.bool true,[],rfl,fun _=>rfl,.bool true,(by kernel_rfl),fun _=>⟨.nil,fun a h=>nomatch h⟩⟩,k,o,b⟩
end Mine
end
theorem PySem.Challenge.cw_jk0047_01_holds : PySem.Challenge.rw_jk0047_01.Holds := by
  exact Mine.main
