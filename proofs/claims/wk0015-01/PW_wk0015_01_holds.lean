import PyProof.Rows.All
import PyProof.ExcFactsAll.ValueError
import PyProof.GenQ
import KE.KMulAny
import Wide.FinOn
import OpenK.AllK
import Wide.All
import Lean
import PySem.Challenge.RW_wk0015_01
set_option Elab.async false
set_option maxRecDepth 100000
open PySem PySem.W PyProof.Rows PySem.SeqAt
namespace Mine
inductive D where
 | none
 | bool (b:Bool)
 | int (g:Bool) (i:Int)
 | str (g:Bool) (s:Str)
 | list (l:List D)
 | tup (l:List D)
 deriving Inhabited
structure Cx where
 prog:Program
 w:World
 base:Heap
 P:Addr
 os:OsState
 mg:Str→Option Value
 mb:Str→Option Value
 places:List (Pos×Str)
 fa:Addr→Prop
structure Cx.Ok(C:Cx):Prop where
 Pin:∃o,C.base.get? C.P=some o
 g:C.base.Ns mainGlobals C.mg
 b:C.base.Ns builtinsNs C.mb
 st:∃mc,C.base.Ns cStatics mc∧mc "sys.recursionlimit" = Option.none∧mc sharingNotToldKey=Option.none
 gP:mainGlobals≠C.P
 bP:builtinsNs≠C.P
 sP:cStatics≠C.P
def qq(C:Cx)(h:Heap):Prop:=∃ps:Array Value,h.get? C.P=some (tabObj ps)∧TriplesOk ps.toList∧∀q∈C.places,q.2≠Str.empty∧(codeAmong q.1 ps.toList=Option.none∨∃cv,codeAmong q.1 ps.toList=some cv∧h.CodeRec cv q.2)
def oZ(h:Heap)(b:Addr):Prop:=∀o vs q t,h.get? b=some o→o.data = .fields vs→q≠Str.empty→vs[1]?≠some (.str q t)
theorem qq.to{C:Cx}{h h':Heap}(x:qq C h)(hk:∀b o,(b=C.P∨¬oZ h b)→h.get? b=some o→h'.get? b=some o):qq C h':=by
 obtain⟨ps,h1,h2,h3⟩:=x
 refine⟨ps,hk _ _ (.inl rfl) h1,h2,λq hq=>⟨(h3 q hq).1,(h3 q hq).2.imp id λ⟨cv,e,c,o,vs,t,e1,e2,e3,e4⟩=>⟨cv,e,c,o,vs,t,e1,hk _ _ (.inr λn=>n o vs _ t e2 e3 (h3 q hq).1 e4) e2,e3,e4⟩⟩⟩
theorem qq.keeps{C:Cx}{h h':Heap}(x:qq C h)(hk:∀b o,h.get? b=some o→h'.get? b=some o):qq C h':=x.to λb o _ e=>hk b o e
def sB(o o':Obj):Prop:=o'=o∨((∃es n,o.data = .dict es n)∧∃sl,o'={ o with slots:=sl })
theorem sB.refl(o:Obj):sB o o:=.inl rfl
theorem sB.parts{o o':Obj}(x:sB o o'):o'.cls=o.cls∧o'.data=o.data∧o'.dict=o.dict:=by
 rcases x with rfl|⟨_,sl,rfl⟩<;>exact⟨rfl,rfl,rfl⟩
theorem sB.trans{o o' o'':Obj}(x:sB o o')(y:sB o' o''):sB o o'':=by
 rcases x with rfl|⟨⟨es,n,h⟩,sl,rfl⟩
 ·exact y
 ·rcases y with rfl|⟨_,sl',rfl⟩
  ·exact .inr ⟨⟨es,n,h⟩,sl,rfl⟩
  ·exact .inr ⟨⟨es,n,h⟩,sl',rfl⟩
theorem sB.ex{o o':Obj}(x:sB o o')(h:∀es n,o.data ≠ .dict es n):o'=o:=x.elim id λ⟨⟨es,n,e⟩,_⟩=>absurd e (h es n)
theorem sB.slots{o o':Obj}(x:sB o o'):∃sl,o'={ o with slots:=sl }:=by
 rcases x with rfl|⟨_,sl,h⟩
 ·exact⟨o'.slots,rfl⟩
 ·exact⟨sl,h⟩
def Kp(X:Addr→Prop)(h h':Heap):Prop:=∀b o,¬X b→h.get? b=some o→∃o',h'.get? b=some o'∧sB o o'
section
variable{X:Addr→Prop}{h h' h'':Heap}{b:Addr}{o:Obj}
theorem Kp.refl(X:Addr→Prop)(h:Heap):Kp X h h:=λ_ o _ e=>⟨o,e,.refl o⟩
theorem Kp.trans(x:Kp X h h')(y:Kp X h' h''):Kp X h h'':=λb o n e=>let ⟨o',e',q⟩:=x b o n e;let ⟨o'',e'',q'⟩:=y b o' n e';⟨o'',e'',q.trans q'⟩
theorem Kp.of(k:∀b o,¬X b→h.get? b=some o→h'.get? b=some o):Kp X h h':=λb o n e=>⟨o,k b o n e,.refl o⟩
theorem Kp.sub{Y:Addr→Prop}(x:Kp X h h')(k:∀a,X a→Y a):Kp Y h h':=λb o n e=>x b o (λq=>n (k b q)) e
theorem Kp.ex(x:Kp X h h')(n:¬X b)(e:h.get? b=some o)(d:∀es n,o.data ≠ .dict es n):h'.get? b=some o:=let ⟨_,e',q⟩:=x b o n e;by rw[e',q.ex d]
theorem Kp.dt(x:Kp X h h')(n:¬X b)(e:h.get? b=some o):∃o',h'.get? b=some o'∧o'.cls=o.cls∧o'.data=o.data∧o'.dict=o.dict:=let ⟨o',e',q⟩:=x b o n e;⟨o',e',q.parts⟩
theorem Kp.sl(x:Kp X h h')(n:¬X b)(e:h.get? b=some o):∃sl,h'.get? b=some { o with slots:=sl }:=let ⟨o',e',q⟩:=x b o n e;let ⟨sl,q⟩:=q.slots;⟨sl,by rw[e',q]⟩
theorem Kp.there(x:Kp X h h')(n:¬X b)(e:h.get? b=some o):∃o',h'.get? b=some o':=let ⟨o',e',_⟩:=x b o n e;⟨o',e'⟩
theorem Kp.none(x:Kp X h h')(n:¬X b)(e:h'.get? b=Option.none):h.get? b=Option.none:=by
 cases q:h.get? b with
 | none=>rfl
 | some o=>obtain⟨o',e',_⟩:=x b o n q;rw[e]at e';cases e'
theorem bo{its:Array Value}(x:h.IsList b its)(k:Kp X h h')(n:¬X b):h'.IsList b its:=let ⟨_,e,c,m,d⟩:=x;let ⟨o',e',c',d',_⟩:=k.dt n e;⟨o',e',c'.trans c,m,d'.trans d⟩
theorem gD{its:Array Value}(x:h.IsTuple b its)(k:Kp X h h')(n:¬X b):h'.IsTuple b its:=let ⟨_,e,c,m,d⟩:=x;let ⟨o',e',c',d',_⟩:=k.dt n e;⟨o',e',c'.trans c,m,d'.trans d⟩
theorem cN{v:Option Value}(x:h.IsCell b v)(k:Kp X h h')(n:¬X b):h'.IsCell b v:=let ⟨_,e,d⟩:=x;let ⟨o',e',_,d',_⟩:=k.dt n e;⟨o',e',d'.trans d⟩
theorem jH{m:Str→Option Value}(x:h.Ns b m)(k:Kp X h h')(n:¬X b):h'.Ns b m:=let ⟨_,es,ep,e,d,r⟩:=x;let ⟨o',e',_,d',_⟩:=k.dt n e;⟨o',es,ep,e',d'.trans d,r⟩
theorem aE{its:Array Value}(x:h.PlainList b its)(k:Kp X h h')(n:¬X b):h'.PlainList b its:=let ⟨m,e⟩:=x;⟨m,k.ex n e nofun⟩
end
structure ny(C:Cx)(s:Shared):Prop where
 old:OldK C.base s.heap
 ext:Heap.ExtBut C.P C.base s.heap
 os:s.os=C.os
 bare:AllBare s.gens
 tab:qq C s.heap
 fr:∀a,C.fa a→C.base.get? a=none∧∃o es n,s.heap.get? a=some o∧o.data = .dict es n
structure Wd where
 h:Heap
 k:Nat
 g:Nat→D
 gn:Array GenState
def i5(W:Wd)(t:Tok)(d:D):Prop:=0<t∧t<W.k∧W.g t=d
mutual
def aN(S:Addr→Prop)(W:Wd):D→Value→Prop
 | .none,v=>v = .none
 | .bool b,v=>v = .bool b
 | .int g i,v=>∃t,v = .int i t∧(g=true→i5 W t (.int true i))
 | .str g x,v=>∃t,v = .str x t∧(g=true→i5 W t (.str true x))
 | .list l,v=>∃a items,v = .ref a∧¬S a∧W.h.IsList a items∧av S W l items.toList
 | .tup l,v=>∃a items,v = .ref a∧¬S a∧W.h.IsTuple a items∧av S W l items.toList
def av(S:Addr→Prop)(W:Wd):List D→List Value→Prop
 | [],vs=>vs=[]
 | d::ds,vs=>∃v r,vs=v::r∧aN S W d v∧av S W ds r
end
structure Le(C:Cx)(W W':Wd):Prop where
 ext:Kp (· = C.P) W.h W'.h
 k:W.k≤W'.k
 g:∀t,t<W.k→W'.g t=W.g t
 cr:∀cv q,q≠Str.empty→W.h.CodeRec cv q→W'.h.CodeRec cv q
 gn:∀(i:Nat) (z:GenState),W.gn[i]?=some z→W'.gn[i]?=some z
theorem Le.refl(C:Cx)(W:Wd):Le C W W:=⟨Kp.refl _ _,Nat.le_refl _,λ_ _=>rfl,λ_ _ _ h=>h,λ_ _ h=>h⟩
theorem Le.trans{C:Cx}{aj W₂ bf:Wd}(x:Le C aj W₂)(y:Le C W₂ bf):Le C aj bf:=
 ⟨x.ext.trans y.ext,Nat.le_trans x.k y.k,λt ht=>(y.g t (Nat.lt_of_lt_of_le ht x.k)).trans (x.g t ht),λcv q ne h=>y.cr cv q ne (x.cr cv q ne h),λi z h=>y.gn i z (x.gn i z h)⟩
structure At(C:Cx)(W:Wd)(s:Shared):Prop where
 h:W.h=s.heap
 pos:0<W.k
 k:W.k≤s.toks
 inv:ny C s
 gn:W.gn=s.gens
theorem i5.le{C:Cx}{W W':Wd}(L:Le C W W'){t:Tok}{d:D}(x:i5 W t d):i5 W' t d:=
 ⟨x.1,Nat.lt_of_lt_of_le x.2.1 L.k,(L.g t x.2.1).trans x.2.2⟩
mutual
theorem aN.le{C:Cx}{S:Addr→Prop}{W W':Wd}(L:Le C W W')(hS:S C.P):∀(d:D) {v:Value},aN S W d v→aN S W' d v
 | .none,_,x=>x
 | .bool _,_,x=>x
 | .int _ _,_,⟨t,e,h⟩=>⟨t,e,λq=>(h q).le L⟩
 | .str _ _,_,⟨t,e,h⟩=>⟨t,e,λq=>(h q).le L⟩
 | .list l,_,⟨a,its,e,n,h,r⟩=>⟨a,its,e,n,bo h L.ext (λq=>n (q▸hS)),av.le L hS l r⟩
 | .tup l,_,⟨a,its,e,n,h,r⟩=>⟨a,its,e,n,gD h L.ext (λq=>n (q▸hS)),av.le L hS l r⟩
theorem av.le{C:Cx}{S:Addr→Prop}{W W':Wd}(L:Le C W W')(hS:S C.P):∀(ds:List D) {vs:List Value},av S W ds vs→av S W' ds vs
 | [],_,x=>x
 | d::ds,_,⟨v,r,e,h,hr⟩=>⟨v,r,e,aN.le L hS d h,av.le L hS ds hr⟩
end
structure D8(S:Addr→Prop)(W W':Wd):Prop where
 ext:Kp S W.h W'.h
 k:W.k≤W'.k
 g:∀t,t<W.k→W'.g t=W.g t
theorem i5.leS{S:Addr→Prop}{W W':Wd}(L:D8 S W W'){t:Tok}{d:D}(x:i5 W t d):i5 W' t d:=
 ⟨x.1,Nat.lt_of_lt_of_le x.2.1 L.k,(L.g t x.2.1).trans x.2.2⟩
mutual
theorem aN.leS{S:Addr→Prop}{W W':Wd}(L:D8 S W W'):∀(d:D) {v:Value},aN S W d v→aN S W' d v
 | .none,_,x=>x
 | .bool _,_,x=>x
 | .int _ _,_,⟨t,e,h⟩=>⟨t,e,λq=>(h q).leS L⟩
 | .str _ _,_,⟨t,e,h⟩=>⟨t,e,λq=>(h q).leS L⟩
 | .list l,_,⟨a,its,e,n,h,r⟩=>⟨a,its,e,n,bo h L.ext n,av.leS L l r⟩
 | .tup l,_,⟨a,its,e,n,h,r⟩=>⟨a,its,e,n,gD h L.ext n,av.leS L l r⟩
theorem av.leS{S:Addr→Prop}{W W':Wd}(L:D8 S W W'):∀(ds:List D) {vs:List Value},av S W ds vs→av S W' ds vs
 | [],_,x=>x
 | d::ds,_,⟨v,r,e,h,hr⟩=>⟨v,r,e,aN.leS L d h,av.leS L ds hr⟩
end
mutual
theorem aN.sub{S S':Addr→Prop}{W:Wd}(k:∀a,S' a→S a):∀(d:D) {v:Value},aN S W d v→aN S' W d v
 | .none,_,x=>x
 | .bool _,_,x=>x
 | .int _ _,_,x=>x
 | .str _ _,_,x=>x
 | .list l,_,⟨a,its,e,n,h,r⟩=>⟨a,its,e,λq=>n (k a q),h,av.sub k l r⟩
 | .tup l,_,⟨a,its,e,n,h,r⟩=>⟨a,its,e,λq=>n (k a q),h,av.sub k l r⟩
theorem av.sub{S S':Addr→Prop}{W:Wd}(k:∀a,S' a→S a):∀(ds:List D) {vs:List Value},av S W ds vs→av S' W ds vs
 | [],_,x=>x
 | d::ds,_,⟨v,r,e,h,hr⟩=>⟨v,r,e,aN.sub k d h,av.sub k ds hr⟩
end
theorem av.length{S:Addr→Prop}{W:Wd}:∀{ds:List D} {vs:List Value},av S W ds vs→vs.length=ds.length
 | [],_,x=>by rw[x];rfl
 | _::_,_,⟨_,_,e,_,hr⟩=>by rw[e,List.length_cons,List.length_cons,hr.length]
theorem av.append{S:Addr→Prop}{W:Wd}:∀{ds es:List D} {vs us:List Value},av S W ds vs→av S W es us→av S W (ds++es) (vs++us)
 | [],_,_,_,x,y=>by rw[x];exact y
 | _::_,_,_,_,⟨v,r,e,h,hr⟩,y=>⟨v,_,by rw[e];rfl,h,hr.append y⟩
theorem av.get{S:Addr→Prop}{W:Wd}:∀{ds:List D} {vs:List Value} {i:Nat} {d:D},av S W ds vs→ds[i]?=some d→∃v,vs[i]?=some v∧aN S W d v
 | [],_,_,_,_,e=>by cases e
 | _::_,_,0,_,⟨v,r,e,h,hr⟩,q=>by subst e;cases q;exact⟨v,rfl,h⟩
 | _::_,_,i+1,_,⟨v,r,e,h,hr⟩,q=>by subst e;exact hr.get (i:=i) (by simpa using q)
theorem av.take{S:Addr→Prop}{W:Wd}:∀{ds:List D} {vs:List Value} (i:Nat),av S W ds vs→av S W (ds.take i) (vs.take i)
 | [],_,_,x=>by rw[x];simp[av]
 | _::_,_,0,_=>by simp[av]
 | _::_,_,i+1,⟨v,r,e,h,hr⟩=>by subst e;exact⟨v,_,rfl,h,hr.take i⟩
theorem av.drop{S:Addr→Prop}{W:Wd}:∀{ds:List D} {vs:List Value} (i:Nat),av S W ds vs→av S W (ds.drop i) (vs.drop i)
 | [],_,_,x=>by rw[x];simp[av]
 | _::_,_,0,x=>x
 | _::_,_,i+1,⟨v,r,e,h,hr⟩=>by subst e;exact hr.drop i
section
variable{C:Cx}{W:Wd}{s:Shared}
theorem ny.keep(I:ny C s){h':Heap}(hk:∀b o,s.heap.get? b=some o→h'.get? b=some o){tk:Nat}{d:Drawn}:ny C { s with heap:=h',toks:=tk,drawn:=d }:=
 ⟨I.old.step_keeps hk,λb o hb e=>hk _ _ (I.ext b o hb e),I.os,I.bare,I.tab.keeps hk,λa h=>let ⟨n,o,es,m,e,d⟩:=I.fr a h;⟨n,o,es,m,hk _ _ e,d⟩⟩
theorem At.keepW(a:At C W s){h':Heap}(hk:∀b o,s.heap.get? b=some o→h'.get? b=some o){tk:Nat}(htk:s.toks≤tk):
  At C { W with h:=h' } { s with heap:=h',toks:=tk }∧Le C W { W with h:=h' }:=
 ⟨⟨rfl,a.pos,Nat.le_trans a.k htk,a.inv.keep hk,a.gn⟩,⟨.of λb o _ e=>by have e':W.h.get? b=some o:=e;rw[a.h]at e';exact hk _ _ e',Nat.le_refl _,λ_ _=>rfl,λ_ _ _ h=>h.keeps λb o e=>by have e':W.h.get? b=some o:=e;rw[a.h]at e';exact hk _ _ e',λ_ _ h=>h⟩⟩
theorem At.tick(a:At C W s)(t:Tok)(d:D)(ht:s.toks≤t){h':Heap}(hk:∀b o,s.heap.get? b=some o→h'.get? b=some o){tk:Nat}(htk:t<tk):
  ∃W',At C W' { s with heap:=h',toks:=tk }∧Le C W W'∧W'.h=h'∧i5 W' t d:=by
 refine⟨⟨h',t+1,λu=>if u=t then d else W.g u,W.gn⟩,⟨rfl,Nat.succ_pos _,htk,a.inv.keep hk,a.gn⟩,
  ⟨.of λb o _ e=>by have e':W.h.get? b=some o:=e;rw[a.h]at e';exact hk _ _ e',?_,λu hu=>?_,λ_ _ _ h=>h.keeps λb o e=>by have e':W.h.get? b=some o:=e;rw[a.h]at e';exact hk _ _ e',λ_ _ h=>h⟩,rfl,?_,Nat.lt_succ_self _,if_pos rfl⟩
 ·exact Nat.le_succ_of_le (Nat.le_trans a.k ht)
 ·have:u≠t:=Nat.ne_of_lt (Nat.lt_of_lt_of_le hu (Nat.le_trans a.k ht))
  exact if_neg this
 ·exact Nat.lt_of_lt_of_le a.pos (Nat.le_trans a.k ht)
def be(C:Cx)(S:Addr→Prop)(W:Wd)(d:D)(v:Value)(s':Shared):Prop:=∃W',Le C W W'∧At C W' s'∧aN S W' d v
def f7(C:Cx)(W:Wd)(b b':Bool)(s':Shared):Prop:=b'=b∧∃W',Le C W W'∧At C W' s'
theorem be.same{S:Addr→Prop}{d:D}{v:Value}(a:At C W s)(r:aN S W d v):be C S W d v s:=⟨W,.refl ..,a,r⟩
theorem be.int{S:Addr→Prop}{i:Int}(a:At C W s){t:Tok}(ht:s.toks≤t){h':Heap}(hk:∀b o,s.heap.get? b=some o→h'.get? b=some o){tk:Nat}(htk:t<tk)(g:Bool):
  be C S W (.int g i) (.int i t) { s with heap:=h',toks:=tk }:=
 let ⟨W',a',L,_,gd⟩:=a.tick t (.int true i) ht hk htk
 ⟨W',L,a',t,rfl,λ_=>gd⟩
theorem be.str{S:Addr→Prop}{x:Str}(a:At C W s){t:Tok}(ht:s.toks≤t){h':Heap}(hk:∀b o,s.heap.get? b=some o→h'.get? b=some o){tk:Nat}(htk:t<tk)(g:Bool):
  be C S W (.str g x) (.str x t) { s with heap:=h',toks:=tk }:=
 let ⟨W',a',L,_,gd⟩:=a.tick t (.str true x) ht hk htk
 ⟨W',L,a',t,rfl,λ_=>gd⟩
theorem bt(h:Heap)(o:Obj):∀b o',h.get? b=some o'→(h.push o).get? b=some o':=λ_ _ e=>Heap.get?_push_of_some o e
theorem a8(h:Heap):∀b o',h.get? b=some o'→h.get? b=some o':=λ_ _ e=>e
end
def Cs(C:Cx)(S:Addr→Prop)(n:Nat):Prop:=S C.P∧∀a,S a→a<n
def bl(n:Nat)(A:Around):Prop:=A.handled=none∧A.depth+n≤990∧A.units+20*n≤9800
theorem bl.le{n m:Nat}{A:Around}(h:bl n A)(k:m≤n):bl m A:=⟨h.1,by have:=h.2.1;omega,by have:=h.2.2;omega⟩
theorem bl.in1{n:Nat}{A:Around}(h:bl (n+1) A):bl n A.in1:=⟨h.1,by have:=h.2.1;show A.depth+n≤990;omega,by have:=h.2.2;show A.units+1+20*n≤9800;omega⟩
theorem bl.deeper{n:Nat}{A:Around}(h:bl (n+1) A)(env:Env):bl n (A.deeper env):=⟨h.1,by have:=h.2.1;show A.depth+1+n≤990;omega,by have:=h.2.2;show A.units+3+20*n≤9800;omega⟩
theorem bl.units{n:Nat}{A:Around}(h:bl n A):A.units+9<cLine:=by have:=h.2.2;show A.units+9<9900;omega
theorem bl.depth{n:Nat}{A:Around}(h:bl n A):A.depth<recursionLimit:=by have:=h.2.1;show A.depth<1000;omega
def kC(f:D→D→Option Bool):List D→List D→Option Bool
 | [],[]=>some true
 | a::as,b::bs=>match f a b,kC f as bs with
  | some x,some y=>some (x&&y)
  | _,_=>Option.none
 | _,_=>some false
def eV:Nat→D→D→Option Bool
 | _,.none,.none=>some true
 | _,.bool a,.bool b=>some (a==b)
 | _,.int _ a,.int _ b=>some (a==b)
 | _,.str _ a,.str _ b=>some (a==b)
 | k+1,.list a,.list b=>if a.length=b.length then kC (eV k) a b else some false
 | k+1,.tup a,.tup b=>if a.length=b.length then kC (eV k) a b else Option.none
 | _,_,_=>Option.none
section
variable{S:Addr→Prop}{W:Wd}
theorem sC{h:Heap}{a:Addr}{x y:Array Value}(p:h.IsList a x)(q:h.IsList a y):x=y:=by
 obtain⟨o,ho,_,n,hd⟩:=p;obtain⟨o',ho',_,n',hd'⟩:=q
 rw[ho]at ho';cases ho';rw[hd]at hd';injection hd'
theorem vc{h:Heap}{a:Addr}{x y:Array Value}(p:h.IsTuple a x)(q:h.IsTuple a y):x=y:=by
 obtain⟨o,ho,_,n,hd⟩:=p;obtain⟨o',ho',_,n',hd'⟩:=q
 rw[ho]at ho';cases ho';rw[hd]at hd';injection hd'
theorem kD(f:D→D→Option Bool)(hf:∀a b v x,aN S W a v→aN S W b v→f a b=some x→x=true):
  ∀(as bs:List D) (vs:List Value) (x:Bool),av S W as vs→av S W bs vs→kC f as bs=some x→x=true
 | [],[],_,x,_,_,e=>by cases e;rfl
 | [],_::_,_,_,p,⟨v,r,e,_⟩,_=>by rw[p]at e;cases e
 | _::_,[],_,_,⟨v,r,e,_⟩,p,_=>by rw[p]at e;cases e
 | a::as,b::bs,_,x,⟨v,r,e,h,hr⟩,⟨v',r',e',h',hr'⟩,q=>by
  rw[e]at e';cases e'
  unfold kC at q
  split at q
  ·rename_i x1 y1 q1 q2
   cases q
   rw[hf a b v x1 h h' q1,kD f hf as bs r y1 hr hr' q2];rfl
  ·cases q
theorem qr:∀(k:Nat) (a b:D) (v:Value) (x:Bool),aN S W a v→aN S W b v→eV k a b=some x→x=true:=by
 intro k
 induction k with
 | zero=>
  intro a b v x p q e
  cases a<;>cases b<;>simp only[eV]at e<;>first
   | (cases e;done)
   | (cases e;rfl)
   | (simp only[aN]at p q;rw[p]at q;cases q;cases e;simp;done)
   | (simp only[aN]at p q;obtain⟨t,e1,_⟩:=p;obtain⟨t',e2,_⟩:=q;rw[e1]at e2;cases e2;cases e;simp;done)
 | succ k ih=>
  intro a b v x p q e
  cases a<;>cases b<;>simp only[eV]at e<;>first
   | (cases e;done)
   | (cases e;rfl)
   | (simp only[aN]at p q;rw[p]at q;cases q;cases e;simp;done)
   | (simp only[aN]at p q;obtain⟨t,e1,_⟩:=p;obtain⟨t',e2,_⟩:=q;rw[e1]at e2;cases e2;cases e;simp;done)
   | skip
  ·obtain⟨a1,i1,e1,_,h1,r1⟩:=p
   obtain⟨a2,i2,e2,_,h2,r2⟩:=q
   rw[e1]at e2;cases e2
   have:=sC h1 h2
   subst this
   split at e
   ·exact kD _ ih _ _ _ _ r1 r2 e
   ·rename_i hn;exact absurd (r1.length.symm.trans r2.length) hn
  ·obtain⟨a1,i1,e1,_,h1,r1⟩:=p
   obtain⟨a2,i2,e2,_,h2,r2⟩:=q
   rw[e1]at e2;cases e2
   have:=vc h1 h2
   subst this
   split at e
   ·exact kD _ ih _ _ _ _ r1 r2 e
   ·rename_i hn;exact absurd (r1.length.symm.trans r2.length) hn
end
theorem lY(n:Nat)(e:Nat→Bool):(List.range (n+1)).all e=(e 0&&(List.range n).all λj=>e (j+1)):=by
 rw[List.range_succ_eq_map,List.all_cons,List.all_map];rfl
section
variable{S:Addr→Prop}{W:Wd}{s:Shared}
theorem gF(f:D→D→Option Bool){A:Around}(hf:∀a b v u x,aN S W a v→aN S W b u→f a b=some x→EqAt A s v u x):
  ∀(as bs:List D) (vs us:List Value) (x:Bool),av S W as vs→av S W bs us→as.length=bs.length→kC f as bs=some x→
   ∃e:Nat→Bool,(List.range vs.length).all e=x∧∀j v u,vs[j]?=some v→us[j]?=some u→EqAt A s v u (e j)
 | [],[],_,_,x,p,q,_,r=>by rw[p,q];cases r;exact⟨λ_=>true,rfl,λj v u h=>by simp at h⟩
 | a::as,b::bs,_,_,x,⟨v,r,e,h,hr⟩,⟨v',r',e',h',hr'⟩,hl,q=>by
  subst e e'
  unfold kC at q
  split at q
  ·rename_i x1 y1 q1 q2
   cases q
   obtain⟨e,he,hj⟩:=gF f hf as bs r r' y1 hr hr' (by simpa using hl) q2
   refine⟨λj=>match j with|0=>x1|j+1=>e j,?_,λj=>?_⟩
   ·rw[List.length_cons,lY,he]
   ·cases j with
    | zero=>intro v1 u1 h1 h2;cases h1;cases h2;exact hf a b v v' x1 h h' q1
    | succ j=>intro v1 u1 h1 h2;exact hj j v1 u1 (by simpa using h1) (by simpa using h2)
  ·cases q
 | [],_::_,_,_,_,_,_,hl,_=>by cases hl
 | _::_,[],_,_,_,_,_,hl,_=>by cases hl
theorem o0:∀(k:Nat) (A:Around),A.units+k<cLine→∀(a b:D) (v u:Value) (x:Bool),W.h=s.heap→aN S W a v→aN S W b u→eV k a b=some x→EqAt A s v u x:=by
 intro k
 induction k with
 | zero=>
  intro A hu a b v u x hW p q e
  cases a<;>cases b<;>simp only[eV]at e<;>first
   | (cases e;done)
   | (simp only[aN]at p q;subst p q;cases e;first|exact EqAt.same _|exact EqAt.bool_bool _ _)
   | (simp only[aN]at p q;obtain⟨t,e1,_⟩:=p;obtain⟨t',e2,_⟩:=q;subst e1 e2;cases e;first|exact EqAt.int_int _ _ _ _|exact EqAt.str_str _ _ _ _)
 | succ k ih=>
  intro A hu a b v u x hW p q e
  have hu':A.in1.units+k<cLine:=by show A.units+1+k<cLine;omega
  cases a<;>cases b<;>simp only[eV]at e<;>first
   | (cases e;done)
   | (simp only[aN]at p q;subst p q;cases e;first|exact EqAt.same _|exact EqAt.bool_bool _ _)
   | (simp only[aN]at p q;obtain⟨t,e1,_⟩:=p;obtain⟨t',e2,_⟩:=q;subst e1 e2;cases e;first|exact EqAt.int_int _ _ _ _|exact EqAt.str_str _ _ _ _)
   | skip
  ·rename_i l1 l2
   have e0:eV (k+1) (.list l1) (.list l2)=some x:=e
   by_cases same:v=u
   ·subst same
    rw[qr (k+1) _ _ v x p q e0];exact EqAt.same _
   obtain⟨a1,i1,e1,_,h1,r1⟩:=p
   obtain⟨a2,i2,e2,_,h2,r2⟩:=q
   subst e1 e2
   rw[hW]at h1 h2
   refine EqAt.of_refs (λq=>same (by rw[q])) ?_
   split at e
   ·rename_i hl
    obtain⟨f,hf,hj⟩:=gF (s:=s) (eV k) (A:=A.in1) (λa b v u x p q e=>ih A.in1 hu' a b v u x hW p q e) l1 l2 _ _ x r1 r2 hl e
    have hsz:i1.size=i2.size:=by have:=r1.length;have:=r2.length;simp only[Array.length_toList]at *;omega
    rw[←hf,Array.length_toList]
    exact RcAt.lists h1 h2 hsz (by omega) λj h1 h2=>hj j _ _ (by simp[h1]) (by simp[h2])
   ·rename_i hl
    cases e
    exact RcAt.lists_lengths h1 h2 (by have:=r1.length;have:=r2.length;simp only[Array.length_toList]at *;simp;omega) (by omega)
  ·rename_i l1 l2
   have e0:eV (k+1) (.tup l1) (.tup l2)=some x:=e
   by_cases same:v=u
   ·subst same
    rw[qr (k+1) _ _ v x p q e0];exact EqAt.same _
   obtain⟨a1,i1,e1,_,h1,r1⟩:=p
   obtain⟨a2,i2,e2,_,h2,r2⟩:=q
   subst e1 e2
   rw[hW]at h1 h2
   refine EqAt.of_refs (λq=>same (by rw[q])) ?_
   split at e
   ·rename_i hl
    obtain⟨f,hf,hj⟩:=gF (s:=s) (eV k) (A:=A.in1) (λa b v u x p q e=>ih A.in1 hu' a b v u x hW p q e) l1 l2 _ _ x r1 r2 hl e
    have hsz:i1.size=i2.size:=by have:=r1.length;have:=r2.length;simp only[Array.length_toList]at *;omega
    have:=RcAt.tuples (s:=s) (e:=f) h1 h2 (by omega) λj h1 h2=>hj j _ _ (by simp[h1]) (by simp[h2])
    rw[Array.length_toList]at hf
    rw[hsz,Nat.min_self,←hsz,hf]at this
    simpa [hsz]using this
   ·rename_i hl
    cases e
end
section
open PySem.AutoSeq1 (wpAny_loadPart')
open PySem.MeetsSeq PySem.MeetsSeq3
def lK:List Int→List Int→Bool
 | _,[]=>false
 | [],_::_=>true
 | a::as,b::bs=>if a=b then lK as bs else decide (a<b)
def o1(items:Array Value)(xs:List Int):Prop:=items.size=xs.length∧∀j (h:j<items.size) (h':j<xs.length),∃t,items[j] = .int xs[j] t
theorem yI(l b:Addr)(items items2:Array Value)(n n2:Nat)(dd dd2:Option Addr)(sl sl2:Array (Option Value))(xs ys:List Int)(hx:o1 items xs)(hy:o1 items2 ys)(k:Nat):
  ∀i:Nat,items.size-i=k→i≤items.size→i≤items2.size→Meets (Builtin.«list.__eq__.loop» ⟨[.ref l,.ref b,rawInt i,rawInt 0],[]⟩)
   (λ_ R s=>s.heap.get? l=some { cls:=.type "list",dict:=dd,data:=.seq items n,slots:=sl }∧s.heap.get? b=some { cls:=.type "list",dict:=dd2,data:=.seq items2 n2,slots:=sl2 }∧
    R (.ok (.ret (.bool (lK (xs.drop i) (ys.drop i))))) s):=by
 have ends:∀i:Nat,i≤items.size→i≤items2.size→¬(i<items.size∧i<items2.size)→decide (items.size<items2.size)=lK (xs.drop i) (ys.drop i):=by
  intro i h1 h2 h3
  rw[hx.1]at h1 h3;rw[hy.1]at h2 h3
  rw[hx.1,hy.1]
  by_cases e:i<xs.length
  ·have:ys.drop i=[]:=by simp;omega
   rw[this]
   have:lK (xs.drop i) []=false:=by cases xs.drop i<;>rfl
   rw[this];simp;omega
  ·have:xs.drop i=[]:=by simp;omega
   rw[this]
   by_cases e2:i<ys.length
   ·obtain⟨y,r,hr⟩:∃y r,ys.drop i=y::r:=by
     cases q:ys.drop i with
     | nil=>simp at q;omega
     | cons y r=>exact⟨y,r,rfl⟩
    rw[hr];simp[lK];omega
   ·have:ys.drop i=[]:=by simp;omega
    rw[this];simp[lK];omega
 induction k with
 | zero=>
  intro i hk hi1' hi2' prog w A R s h
  obtain⟨hp,g,d,tk,os⟩:=s;obtain⟨hl,hb,h⟩:=h
  wp_walk using wpAny_loadPart' hl,wpAny_loadPart' hb
  have hi1:items[((i:Nat):Int).toNat]?=none:=by simp;omega
  rw[hi1]
  wp_walk using wpAny_loadPart' hl,wpAny_loadPart' hb
  show R (.ok (.ret (.bool (decide (items.size<items2.size))))) _
  rw[ends i hi1' hi2' (by omega)]
  exact h
 | succ k ih=>
  intro i hk hi1' hi2' prog w A R s h
  obtain⟨hp,g,d,tk,os⟩:=s;obtain⟨hl,hb,h⟩:=h
  wp_walk using wpAny_loadPart' hl,wpAny_loadPart' hb
  have hlt:i<items.size:=by omega
  have hi1:items[((i:Nat):Int).toNat]?=some items[i]:=by simp[hlt]
  by_cases hlt2:i<items2.size
  ·have hi2:items2[((i:Nat):Int).toNat]?=some items2[i]:=by simp[hlt2]
   have hc:((i:Int)+1)=((i+1:Nat):Int):=by push_cast;rfl
   have hlx:i<xs.length:=by rw[←hx.1];exact hlt
   have hly:i<ys.length:=by rw[←hy.1];exact hlt2
   obtain⟨t1,e1⟩:=hx.2 i hlt hlx
   obtain⟨t2,e2⟩:=hy.2 i hlt2 hly
   rw[hi1,hi2,e1,e2]
   rw[List.drop_eq_getElem_cons hlx,List.drop_eq_getElem_cons hly]at h
   refine wpAny_bind (wpAny_eqBool_int ?_)
   unfold lK at h
   by_cases he:xs[i]=ys[i]
   ·rw[if_pos he]at h
    rw[show(xs[i]==ys[i])=true by simpa using he]
    wp_walk
    rw[hc]
    exact⟨plainId_quiet plain_eq_loop _,codeAny_builtin entry_eq_loop (by
     rw[Around.under_plainId plain_eq_loop _]
     exact ih (i+1) (by omega) (by omega) (by omega) prog w A R _ ⟨hl,hb,h⟩)⟩
   ·rw[if_neg he]at h
    rw[show(xs[i]==ys[i])=false by simpa using he]
    wp_walk using wpAny_loadPart' hl,wpAny_loadPart' hb
    rw[hi1,hi2,e1,e2]
    show wpAny _ _ (compareOp .Lt _ _ >>= _) _ _ _
    exact wpAny_bind (PyProof.Rows.lt_int (wpAny_pure h))
  ·have hi2:items2[((i:Nat):Int).toNat]?=none:=by simp;omega
   rw[hi1,hi2]
   wp_walk using wpAny_loadPart' hl,wpAny_loadPart' hb
   show R (.ok (.ret (.bool (decide (items.size<items2.size))))) _
   rw[ends i hi1' hi2' (by omega)]
   exact h
theorem yJ(l b:Addr)(items items2:Array Value)(n n2:Nat)(dd dd2:Option Addr)(sl sl2:Array (Option Value))(xs ys:List Int)(hx:o1 items xs)(hy:o1 items2 ys)(k:Nat):
  ∀i:Nat,items.size-i=k→i≤items.size→i≤items2.size→Meets (Builtin.«list.__eq__.loop» ⟨[.ref l,.ref b,rawInt i,rawInt 4],[]⟩)
   (λ_ R s=>s.heap.get? l=some { cls:=.type "list",dict:=dd,data:=.seq items n,slots:=sl }∧s.heap.get? b=some { cls:=.type "list",dict:=dd2,data:=.seq items2 n2,slots:=sl2 }∧
    R (.ok (.ret (.bool (lK (ys.drop i) (xs.drop i))))) s):=by
 have ends:∀i:Nat,i≤items.size→i≤items2.size→¬(i<items.size∧i<items2.size)→decide (items2.size<items.size)=lK (ys.drop i) (xs.drop i):=by
  intro i h1 h2 h3
  rw[hx.1]at h1 h3;rw[hy.1]at h2 h3
  rw[hx.1,hy.1]
  by_cases e:i<ys.length
  ·have:xs.drop i=[]:=by simp;omega
   rw[this]
   have:lK (ys.drop i) []=false:=by cases ys.drop i<;>rfl
   rw[this];simp;omega
  ·have:ys.drop i=[]:=by simp;omega
   rw[this]
   by_cases e2:i<xs.length
   ·obtain⟨y,r,hr⟩:∃y r,xs.drop i=y::r:=by
     cases q:xs.drop i with
     | nil=>simp at q;omega
     | cons y r=>exact⟨y,r,rfl⟩
    rw[hr];simp[lK];omega
   ·have:xs.drop i=[]:=by simp;omega
    rw[this];simp[lK];omega
 induction k with
 | zero=>
  intro i hk hi1' hi2' prog w A R s h
  obtain⟨hp,g,d,tk,os⟩:=s;obtain⟨hl,hb,h⟩:=h
  wp_walk using wpAny_loadPart' hl,wpAny_loadPart' hb
  have hi1:items[((i:Nat):Int).toNat]?=none:=by simp;omega
  rw[hi1]
  wp_walk using wpAny_loadPart' hl,wpAny_loadPart' hb
  show R (.ok (.ret (.bool (decide (items2.size<items.size))))) _
  rw[ends i hi1' hi2' (by omega)]
  exact h
 | succ k ih=>
  intro i hk hi1' hi2' prog w A R s h
  obtain⟨hp,g,d,tk,os⟩:=s;obtain⟨hl,hb,h⟩:=h
  wp_walk using wpAny_loadPart' hl,wpAny_loadPart' hb
  have hlt:i<items.size:=by omega
  have hi1:items[((i:Nat):Int).toNat]?=some items[i]:=by simp[hlt]
  by_cases hlt2:i<items2.size
  ·have hi2:items2[((i:Nat):Int).toNat]?=some items2[i]:=by simp[hlt2]
   have hc:((i:Int)+1)=((i+1:Nat):Int):=by push_cast;rfl
   have hlx:i<xs.length:=by rw[←hx.1];exact hlt
   have hly:i<ys.length:=by rw[←hy.1];exact hlt2
   obtain⟨t1,e1⟩:=hx.2 i hlt hlx
   obtain⟨t2,e2⟩:=hy.2 i hlt2 hly
   rw[hi1,hi2,e1,e2]
   rw[List.drop_eq_getElem_cons hlx,List.drop_eq_getElem_cons hly]at h
   refine wpAny_bind (wpAny_eqBool_int ?_)
   unfold lK at h
   by_cases he:xs[i]=ys[i]
   ·rw[if_pos he.symm]at h
    rw[show(xs[i]==ys[i])=true by simpa using he]
    wp_walk
    rw[hc]
    exact⟨plainId_quiet plain_eq_loop _,codeAny_builtin entry_eq_loop (by
     rw[Around.under_plainId plain_eq_loop _]
     exact ih (i+1) (by omega) (by omega) (by omega) prog w A R _ ⟨hl,hb,h⟩)⟩
   ·rw[if_neg (Ne.symm he)]at h
    rw[show(xs[i]==ys[i])=false by simpa using he]
    wp_walk using wpAny_loadPart' hl,wpAny_loadPart' hb
    rw[hi1,hi2,e1,e2]
    show wpAny _ _ (compareOp .Gt _ _ >>= _) _ _ _
    exact wpAny_bind (PyProof.Rows.gt_int (wpAny_pure h))
  ·have hi2:items2[((i:Nat):Int).toNat]?=none:=by simp;omega
   rw[hi1,hi2]
   wp_walk using wpAny_loadPart' hl,wpAny_loadPart' hb
   show R (.ok (.ret (.bool (decide (items2.size<items.size))))) _
   rw[ends i hi1' hi2' (by omega)]
   exact h
section
variable{prog:Program}{w:World}{A:Around}{E:Value→Shared→Prop}{s:Shared}{l b:Addr}{items items2:Array Value}{xs ys:List Int}{Q:Value→Shared→Prop}
theorem wB(hl:s.heap.IsList l items)(hb:s.heap.IsList b items2)(hx:o1 items xs)(hy:o1 items2 ys)(hu:A.units<cLine)(h:Q (.bool (lK xs ys)) s):wpAny (model prog w) A (compareOp .Lt (.ref l) (.ref b)) Q E s:=by
 obtain⟨⟨cls,dd,data,sl⟩,ho,hc,m,hd⟩:=hl
 obtain⟨⟨cls2,dd2,data2,sl2⟩,ho2,hc2,m2,hd2⟩:=hb
 simp only at hc hd hc2 hd2
 subst hc hd hc2 hd2
 show wpAny _ _ (richCompare .Lt _ _) _ _ _
 have g:Meets (Builtin.«list.__lt__» ⟨[.ref l,.ref b],[]⟩) (λ_ R s=>s.heap.get? l=some { cls:=.type "list",dict:=dd,data:=.seq items m,slots:=sl }∧s.heap.get? b=some { cls:=.type "list",dict:=dd2,data:=.seq items2 m2,slots:=sl2 }∧R (.ok (.ret (.bool (lK xs ys)))) s):=by
  intro prog w A R s h
  obtain⟨hp,g,d,tk,os⟩:=s;obtain⟨hl,hb,h⟩:=h
  have f3:=AutoSeq1.sub_list_list
  wp_walk using wpAny_loadPart' hl,wpAny_loadPart' hb
  exact⟨plainId_quiet plain_eq_loop _,codeAny_builtin entry_eq_loop (by
   rw[Around.under_plainId plain_eq_loop _]
   exact yI l b items items2 m m2 dd dd2 sl sl2 xs ys hx hy _ 0 rfl (Nat.zero_le _) (Nat.zero_le _) prog w A R _ ⟨hl,hb,h⟩)⟩
 exact richCompare_meets_room ⟨_,ho,rfl⟩ ⟨_,ho2,rfl⟩ PySem.F.slot_list_lt PySem.F.entry_list_lt (PySem.F.args_list_lt_2 _ _) g ⟨ho,ho2,nofun,h⟩ hu
theorem wC(hl:s.heap.IsList l items)(hb:s.heap.IsList b items2)(hx:o1 items xs)(hy:o1 items2 ys)(hu:A.units<cLine)(h:Q (.bool (lK ys xs)) s):wpAny (model prog w) A (compareOp .Gt (.ref l) (.ref b)) Q E s:=by
 obtain⟨⟨cls,dd,data,sl⟩,ho,hc,m,hd⟩:=hl
 obtain⟨⟨cls2,dd2,data2,sl2⟩,ho2,hc2,m2,hd2⟩:=hb
 simp only at hc hd hc2 hd2
 subst hc hd hc2 hd2
 show wpAny _ _ (richCompare .Gt _ _) _ _ _
 have g:Meets (Builtin.«list.__gt__» ⟨[.ref l,.ref b],[]⟩) (λ_ R s=>s.heap.get? l=some { cls:=.type "list",dict:=dd,data:=.seq items m,slots:=sl }∧s.heap.get? b=some { cls:=.type "list",dict:=dd2,data:=.seq items2 m2,slots:=sl2 }∧R (.ok (.ret (.bool (lK ys xs)))) s):=by
  intro prog w A R s h
  obtain⟨hp,g,d,tk,os⟩:=s;obtain⟨hl,hb,h⟩:=h
  have f3:=AutoSeq1.sub_list_list
  wp_walk using wpAny_loadPart' hl,wpAny_loadPart' hb
  exact⟨plainId_quiet plain_eq_loop _,codeAny_builtin entry_eq_loop (by
   rw[Around.under_plainId plain_eq_loop _]
   exact yJ l b items items2 m m2 dd dd2 sl sl2 xs ys hx hy _ 0 rfl (Nat.zero_le _) (Nat.zero_le _) prog w A R _ ⟨hl,hb,h⟩)⟩
 exact richCompare_meets_room ⟨_,ho,rfl⟩ ⟨_,ho2,rfl⟩ PySem.F.slot_list_gt PySem.F.entry_list_gt (PySem.F.args_list_gt_2 _ _) g ⟨ho,ho2,nofun,h⟩ hu
end
end
inductive Op where|add|sub|mul|mod|fdiv
 deriving DecidableEq
def Op.ast:Op→Operator
 | .add=>.Add | .sub=>.Sub | .mul=>.Mult | .mod=>.Mod | .fdiv=>.FloorDiv
inductive Cm where|eq|ne|lt|le|gt|ge|isin|notin
 deriving DecidableEq
def Cm.ast:Cm→CmpOp
 | .eq=>.Eq | .ne=>.NotEq | .lt=>.Lt | .le=>.LtE | .gt=>.Gt | .ge=>.GtE | .isin=>.In | .notin=>.NotIn
def bh:List D→Option (List Int)
 | []=>some []
 | .int _ i::r=>match bh r with|some l=>some (i::l)|Option.none=>Option.none
 | _=>Option.none
def b2(b:Bool):Int:=if b then 1 else 0
def dm:Op→D→D→Option D
 | .add,.int _ a,.int _ b=>some (.int true (a+b))
 | .add,.str g x,.str h y=>if x.length+y.length≤100000 then some (.str (g&&h) (x++y))else Option.none
 | .add,.list a,.list b=>if a.length+b.length≤100000 then some (.list (a++b))else Option.none
 | .sub,.int _ a,.int _ b=>some (.int true (a-b))
 | .sub,.bool a,.bool b=>some (.int true (b2 a-b2 b))
 | .mul,.list a,.int _ n=>if 0≤n∧n≤250∧a.length≤1 then some (.list (List.replicate n.toNat a).flatten)else Option.none
 | .mul,.str _ x,.int _ n=>if 2≤n∧n≤250∧1≤x.length∧x.length≤100 then some (.str true (Txt.mul x n))else Option.none
 | .mod,.int _ a,.int _ b=>if b=0 then Option.none else some (.int true (Int.fmod a b))
 | .fdiv,.int _ a,.int _ b=>if b=0∨b.natAbs.log2≥64 then Option.none else some (.int true (Int.fdiv a b))
 | _,_,_=>Option.none
def a9:Cm→D→D→Option Bool
 | .eq,a,b=>eV 8 a b
 | .ne,a,b=>match eV 8 a b with|some x=>some (!x)|Option.none=>Option.none
 | .lt,.int _ a,.int _ b=>some (decide (a<b))
 | .le,.int _ a,.int _ b=>some (decide (a≤b))
 | .gt,.int _ a,.int _ b=>some (decide (b<a))
 | .ge,.int _ a,.int _ b=>some (decide (b≤a))
 | .lt,.str _ a,.str _ b=>some (decide (a.cps.toList<b.cps.toList))
 | .gt,.str _ a,.str _ b=>some (decide (b.cps.toList<a.cps.toList))
 | .lt,.list a,.list b=>match bh a,bh b with|some x,some y=>some (lK x y)|_,_=>Option.none
 | .gt,.list a,.list b=>match bh a,bh b with|some x,some y=>some (lK y x)|_,_=>Option.none
 | .isin,.int _ k,.list l=>match bh l with|some ns=>some (ns.any (· == k))|Option.none=>Option.none
 | .notin,.int _ k,.list l=>match bh l with|some ns=>some (!ns.any (· == k))|Option.none=>Option.none
 | .isin,.int _ k,.tup l=>match bh l with|some ns=>some (ns.any (· == k))|Option.none=>Option.none
 | .isin,.str _ y,.str _ x=>match y.cps.toList with|[c]=>some (decide (c∈x.cps.toList))|_=>Option.none
 | _,_,_=>Option.none
def aC:D→Option Bool
 | .none=>some false
 | .bool b=>some b
 | .int _ i=>some (i != 0)
 | .str _ x=>if x.length≤100000 then some ((x.length:Int) != 0)else Option.none
 | .list l=>if l.length≤100000 then some (!l.isEmpty)else Option.none
 | .tup l=>if l.length≤100000 then some (!l.isEmpty)else Option.none
section
variable{C:Cx}{S:Addr→Prop}{W:Wd}{s:Shared}{prog:Program}{w:World}{A:Around}{E:Value→Shared→Prop}
theorem fq:∀(l:List D) (vs:List Value) (ns:List Int),av S W l vs→bh l=some ns→IntsAre vs ns
 | [],_,_,x,e=>by rw[x];cases e;exact .nil
 | d::l,_,ns,⟨v,r,e,h,hr⟩,q=>by
  subst e
  cases d with
  | int g i=>
   obtain⟨t,rfl,_⟩:=h
   unfold bh at q
   split at q
   ·rename_i l' q'
    cases q
    exact .cons i t (fq l r l' hr q')
   ·cases q
  | _=>cases q
theorem Eh(x:Array Value):x.toList.toArray=x:=by simp
theorem AV{n:Nat}(hR:bl n A)(a:At C W s)(o:Op)(d1 d2 d:D)(v1 v2:Value)(r1:aN S W d1 v1)(r2:aN S W d2 v2)(hS:Cs C S s.heap.objs.size)(e:dm o d1 d2=some d):
  wpAny (model prog w) A (binaryOp o.ast v1 v2) (be C S W d) E s:=by
 have newS:¬S s.heap.objs.size:=λq=>Nat.lt_irrefl _ (hS.2 _ q)
 cases o<;>cases d1<;>cases d2<;>simp only[dm]at e<;>try (cases e;done)
 ·obtain⟨t1,rfl,_⟩:=r1;obtain⟨t2,rfl,_⟩:=r2
  cases e
  exact add_int (be.int a (Nat.le_refl _) (a8 _) (Nat.lt_succ_self _) _)
 ·obtain⟨t1,rfl,g1⟩:=r1;obtain⟨t2,rfl,g2⟩:=r2
  rename_i x _ y
  split at e
  ·rename_i hl
   cases e
   refine P.add_str ?_
   have e1:∀z:Str,z.length=0→z.cps=#[]:=λz hz=>Array.eq_empty_of_size_eq_zero hz
   split
   ·rename_i h0
    have hx:x++y=y:=by
     apply Str.ext'
     rw[Str.cps_append,e1 x (by simpa using h0)];simp
    refine⟨W,.refl ..,a,t2,by rw[hx],λq=>?_⟩
    rw[hx];exact g2 (by simp at q;exact q.2)
   ·split
    ·rename_i h0
     have hx:x++y=x:=by
      apply Str.ext'
      rw[Str.cps_append,e1 y (by simpa using h0)];simp
     refine⟨W,.refl ..,a,t1,by rw[hx],λq=>?_⟩
     rw[hx];exact g1 (by simp at q;exact q.1)
    ·refine⟨?_,be.str a (Nat.le_refl _) (a8 _) (Nat.lt_succ_self _) _⟩
     rw[Str.length_append,sizeLine_eq];omega
  ·cases e
 ·obtain⟨l,i1,rfl,_,h1,q1⟩:=r1;obtain⟨b,i2,rfl,_,h2,q2⟩:=r2
  split at e
  ·rename_i hl
   cases e
   rw[a.h]at h1 h2
   obtain⟨⟨cls,dd,data,sl⟩,ho,hc,m,hd⟩:=id h1
   obtain⟨⟨cls2,dd2,data2,sl2⟩,ho2,hc2,m2,hd2⟩:=id h2
   simp only at hc hd hc2 hd2
   subst hc hd hc2 hd2
   refine concat_meets ⟨_,ho,rfl⟩ ⟨_,ho2,rfl⟩ noFill_list_add seq_list_add PySem.F.slot_list_add PySem.F.entry_list_add (PySem.F.args_list_add_2 _ _) (list_addW l b i1 i2 m m2 dd dd2 sl sl2 (by have:=q1.length;have:=q2.length;simp only[Array.length_toList]at *;rw[sizeLine_eq];omega)) ⟨ho,ho2,?_⟩
   obtain⟨a',L⟩:=a.keepW (bt _ { cls:=.type "list",data:=.seq (i1++i2) }) (Nat.le_refl _)
   refine⟨_,L,a',_,_,rfl,newS,⟨_,Heap.get?_push_size _ rfl,rfl,_,rfl⟩,?_⟩
   rw[Array.toList_append]
   exact(q1.le L hS.1).append (q2.le L hS.1)
  ·cases e
 ·cases r1;cases r2;cases e
  exact sub_bool (be.int a (Nat.le_refl _) (a8 _) (Nat.lt_succ_self _) _)
 ·obtain⟨t1,rfl,_⟩:=r1;obtain⟨t2,rfl,_⟩:=r2
  cases e
  exact sub_int (be.int a (Nat.le_refl _) (a8 _) (Nat.lt_succ_self _) _)
 ·rename_i x _ k
  obtain⟨t1,rfl,_⟩:=r1;obtain⟨t2,rfl,_⟩:=r2
  split at e
  ·rename_i hb
   cases e
   obtain⟨h1,h2,h0,h3⟩:=hb
   have n1:¬k<1:=by omega
   have n2:¬((k==1||x.length==0)=true):=by simp;constructor<;>omega
   refine P.mul_str ?_ (λh4 _ h5=>?_) (λh4 _=>?_) ?_
   ·simp;omega
   ·have:(2:Int)^55≤(2^63-1)/k:=by
     apply Int.le_ediv_of_mul_le (by omega)
     have:(2:Int)^55*k≤2^55*250:=Int.mul_le_mul_of_nonneg_left h2 (by decide)
     omega
    omega
   ·have hk:k.toNat≤250:=by omega
    have:x.length*k.toNat≤100*250:=Nat.mul_le_mul h3 hk
    simp only[Builtin.Str.tooLong,sizeLine_eq,decide_eq_false_iff_not]
    omega
   ·rw[if_neg n1,if_neg n2]
    have e:Txt.mul x k=⟨(List.replicate k.toNat x.cps).foldl (· ++ ·) #[]⟩:=by unfold Txt.mul;rw[if_neg n1,if_neg n2]
    rw[←e]
    refine⟨?_,be.str a (Nat.le_refl _) (a8 _) (Nat.lt_succ_self _) true⟩
    refine e▸fits_reps ?_
    have hk:k.toNat≤250:=by omega
    have:x.length*k.toNat≤100*250:=Nat.mul_le_mul h3 hk
    simp only[Builtin.Str.tooLong,sizeLine_eq,decide_eq_false_iff_not]
    omega
  ·cases e
 ·rename_i ds g x
  obtain⟨l,i1,rfl,_,h1,q1⟩:=r1;obtain⟨u,rfl,_⟩:=r2
  split at e
  ·rename_i hl
   cases e
   rw[a.h]at h1
   obtain⟨⟨cls,dd,data,sl⟩,ho,hcl,k,hd⟩:=id h1
   simp only at hcl hd
   subst hcl hd
   have hlen:i1.size=ds.length:=by have:=q1.length;simpa using this
   have hz:i1.size*x.toNat≤250:=by
    have:i1.size≤1:=by omega
    have h2:x.toNat≤250:=by omega
    calc i1.size*x.toNat≤1*250:=Nat.mul_le_mul this h2
     _=250:=rfl
   refine wpAny_binaryOp_repeat_ref (T:= "list") (U:= "int") (by decide) ⟨_,ho,rfl⟩ (λs'=>typeIs_int s' x u) noFill_list_mul F.fills_int_mul F.slot_int_rmul repeat_list F.slot_int_index.lookup
    (call_meets F.slot_int_rmul (typeIs_int s x u) F.entry_int_rmul (F.args_int_rmul_2 _ _) (lm_int_rmul_list_any x u l i1 k dd sl)
     ⟨ho,rfl,⟨_,ho,rfl⟩,call_meets F.slot_list_mul ⟨_,ho,rfl⟩ F.entry_list_mul (F.args_list_mul_2 _ _)
      (lm_list_mul_any l i1 k dd sl x u (by simp[Builtin.List.listFitsIndex];omega) (by omega) (by simp[Builtin.List.listTooLong,sizeLine];omega))
      ⟨ho,?_⟩⟩)
   have ei:i1=i1.toList.toArray:=by simp
   rw[ei,listMul_foldl_if]
   obtain⟨a',L⟩:=a.keepW (bt _ { cls:=.type "list",data:=.seq (List.replicate x.toNat i1.toList).flatten.toArray }) (Nat.le_refl _)
   refine⟨_,L,a',_,_,rfl,newS,⟨_,Heap.get?_push_size _ rfl,rfl,_,rfl⟩,?_⟩
   have rep:∀m:Nat,av S W (List.replicate m ds).flatten (List.replicate m i1.toList).flatten:=by
    intro m
    induction m with
    | zero=>simp[av]
    | succ m ih=>simp only[List.replicate_succ,List.flatten_cons];exact q1.append ih
   simpa using(rep x.toNat).le L hS.1
  ·cases e
 ·obtain⟨t1,rfl,_⟩:=r1;obtain⟨t2,rfl,_⟩:=r2
  split at e
  ·cases e
  ·rename_i hb
   cases e
   exact mod_int' hb (be.int a (Nat.le_refl _) (a8 _) (Nat.lt_succ_self _) _)
 ·rename_i _ _ _ b
  obtain⟨t1,rfl,_⟩:=r1;obtain⟨t2,rfl,_⟩:=r2
  split at e
  ·cases e
  ·rename_i hb
   cases e
   have hb0:=λq=>hb (.inl q)
   refine floordiv_int_or hR.1 (λq=>absurd q hb0) (λ_=>be.int a (Nat.le_refl _) (a8 _) (Nat.lt_succ_self _) _) (λ_=>.inl ?_)
   unfold Builtin.divisionGoesByPylong
   dsimp only
   have:¬b.natAbs.log2≥64:=λq=>hb (.inr q)
   split<;>simp<;>intro h<;>omega
theorem f7.up{b:Bool}(a:At C W s){tk:Nat}(ht:s.toks≤tk):f7 C W b b { s with toks:=tk }:=⟨rfl,_,(a.keepW (a8 _) ht).2,(a.keepW (a8 _) ht).1⟩
theorem lZ{ds:List D}{x:Array Value}(h:av S W ds x.toList):(!x.isEmpty)=!ds.isEmpty:=by
 have hl:=h.length
 simp only[Array.length_toList]at hl
 cases ds with
 | nil=>simp at hl;simp[hl]
 | cons=>simp only[List.length_cons]at hl;show(!decide (x.size=0))=true;rw[hl];simp
theorem og(a:At C W s)(d:D)(v:Value)(b:Bool)(r:aN S W d v)(e:aC d=some b):
  wpAny (model prog w) A (truthy v) (f7 C W b) E s:=by
 have big:sizeLine=16777216:=rfl
 cases d with
 | none=>cases e;cases r;exact truthy_none ⟨rfl,W,.refl ..,a⟩
 | bool=>cases e;cases r;exact wpAny_truthy_bool ⟨rfl,W,.refl ..,a⟩
 | int=>cases e;obtain⟨t,rfl,_⟩:=r;exact truthy_int ⟨rfl,W,.refl ..,a⟩
 | str=>
  simp only[aC]at e
  obtain⟨t,rfl,_⟩:=r
  split at e
  ·cases e
   exact P.truthy_str (by omega) (.up a (by omega))
  ·cases e
 | list=>
  simp only[aC]at e
  obtain⟨l,i1,rfl,_,h1,q1⟩:=r
  rw[a.h]at h1
  split at e
  ·cases e
   have hl:=q1.length
   simp only[Array.length_toList]at hl
   rw[←lZ q1]
   exact wpAny_truthy_list h1 (by omega) (.up a (by omega))
  ·cases e
 | tup=>
  simp only[aC]at e
  obtain⟨l,i1,rfl,_,h1,q1⟩:=r
  rw[a.h]at h1
  split at e
  ·cases e
   have hl:=q1.length
   simp only[Array.length_toList]at hl
   rw[←lZ q1]
   exact truthy_tuple h1 (by omega) (.up a (by omega))
  ·cases e
theorem AW(A:Around)(hu:A.units+8<cLine)(a b:D)(v u:Value)(x:Bool)(hW:W.h=s.heap)(p:aN S W a v)(q:aN S W b u)(e:eV 8 a b=some x):RcNeAt A s v u (!x):=by
 have hu':A.in1.units+7<cLine:=by show A.units+1+7<cLine;omega
 cases a<;>cases b<;>simp only[eV]at e<;>first
  | (cases e;done)
  | (simp only[aN]at p q;subst p q;cases e;first|exact RcNeAt.none_none|exact RcNeAt.bool_bool _ _)
  | (simp only[aN]at p q;obtain⟨t,e1,_⟩:=p;obtain⟨t',e2,_⟩:=q;subst e1 e2;cases e;first|exact RcNeAt.int_int _ _ _ _|exact RcNeAt.str_str _ _ _ _)
  | skip
 ·rename_i l1 l2
  obtain⟨a1,i1,e1,_,h1,r1⟩:=p
  obtain⟨a2,i2,e2,_,h2,r2⟩:=q
  subst e1 e2
  rw[hW]at h1 h2
  split at e
  ·rename_i hl
   obtain⟨f,hf,hj⟩:=gF (s:=s) (eV 7) (A:=A.in1) (λa b v u x p q e=>o0 7 A.in1 hu' a b v u x hW p q e) l1 l2 _ _ x r1 r2 hl e
   have hsz:i1.size=i2.size:=by have:=r1.length;have:=r2.length;simp only[Array.length_toList]at *;omega
   rw[←hf,Array.length_toList]
   exact RcNeAt.lists h1 h2 hsz (by omega) λj h1 h2=>hj j _ _ (by simp[h1]) (by simp[h2])
  ·rename_i hl
   cases e
   exact RcNeAt.lists_lengths h1 h2 (by have:=r1.length;have:=r2.length;simp only[Array.length_toList]at *;simp;omega) (by omega)
 ·rename_i l1 l2
  obtain⟨a1,i1,e1,_,h1,r1⟩:=p
  obtain⟨a2,i2,e2,_,h2,r2⟩:=q
  subst e1 e2
  rw[hW]at h1 h2
  split at e
  ·rename_i hl
   obtain⟨f,hf,hj⟩:=gF (s:=s) (eV 7) (A:=A.in1) (λa b v u x p q e=>o0 7 A.in1 hu' a b v u x hW p q e) l1 l2 _ _ x r1 r2 hl e
   have hsz:i1.size=i2.size:=by have:=r1.length;have:=r2.length;simp only[Array.length_toList]at *;omega
   have:=RcNeAt.tuples (s:=s) (e:=f) h1 h2 (by omega) λj h1 h2=>hj j _ _ (by simp[h1]) (by simp[h2])
   rw[Array.length_toList]at hf
   rw[hsz,Nat.min_self,←hsz,hf]at this
   simpa [hsz]using this
  ·cases e
theorem AX(A:Around)(hu:A.units+8<cLine)(a b:D)(v u:Value)(x:Bool)(hW:W.h=s.heap)(p:aN S W a v)(q:aN S W b u)(e:eV 8 a b=some x):RcAt A s v u x:=by
 have hu':A.in1.units+7<cLine:=by show A.units+1+7<cLine;omega
 cases a<;>cases b<;>simp only[eV]at e<;>first
  | (cases e;done)
  | (simp only[aN]at p q;subst p q;cases e;first|exact RcAt.none_none|exact RcAt.bool_bool _ _)
  | (simp only[aN]at p q;obtain⟨t,e1,_⟩:=p;obtain⟨t',e2,_⟩:=q;subst e1 e2;cases e;first|exact RcAt.int_int _ _ _ _|exact RcAt.str_str _ _ _ _)
  | skip
 ·rename_i l1 l2
  obtain⟨a1,i1,e1,_,h1,r1⟩:=p
  obtain⟨a2,i2,e2,_,h2,r2⟩:=q
  subst e1 e2
  rw[hW]at h1 h2
  split at e
  ·rename_i hl
   obtain⟨f,hf,hj⟩:=gF (s:=s) (eV 7) (A:=A.in1) (λa b v u x p q e=>o0 7 A.in1 hu' a b v u x hW p q e) l1 l2 _ _ x r1 r2 hl e
   have hsz:i1.size=i2.size:=by have:=r1.length;have:=r2.length;simp only[Array.length_toList]at *;omega
   rw[←hf,Array.length_toList]
   exact RcAt.lists h1 h2 hsz (by omega) λj h1 h2=>hj j _ _ (by simp[h1]) (by simp[h2])
  ·rename_i hl
   cases e
   exact RcAt.lists_lengths h1 h2 (by have:=r1.length;have:=r2.length;simp only[Array.length_toList]at *;simp;omega) (by omega)
 ·rename_i l1 l2
  obtain⟨a1,i1,e1,_,h1,r1⟩:=p
  obtain⟨a2,i2,e2,_,h2,r2⟩:=q
  subst e1 e2
  rw[hW]at h1 h2
  split at e
  ·rename_i hl
   obtain⟨f,hf,hj⟩:=gF (s:=s) (eV 7) (A:=A.in1) (λa b v u x p q e=>o0 7 A.in1 hu' a b v u x hW p q e) l1 l2 _ _ x r1 r2 hl e
   have hsz:i1.size=i2.size:=by have:=r1.length;have:=r2.length;simp only[Array.length_toList]at *;omega
   have:=RcAt.tuples (s:=s) (e:=f) h1 h2 (by omega) λj h1 h2=>hj j _ _ (by simp[h1]) (by simp[h2])
   rw[Array.length_toList]at hf
   rw[hsz,Nat.min_self,←hsz,hf]at this
   simpa [hsz]using this
  ·cases e
theorem wD{S:Addr→Prop}{W:Wd}:∀(l:List D) (vs:List Value) (ns:List Int),av S W l vs→bh l=some ns→vs.length=ns.length∧∀j (h:j<vs.length) (h':j<ns.length),∃t,vs[j] = .int ns[j] t
 | [],_,_,x,e=>by rw[x];cases e;exact⟨rfl,λj h=>by cases h⟩
 | d::l,_,ns,⟨v,r,e,h,hr⟩,q=>by
  subst e
  cases d with
  | int g i=>
   obtain⟨t,rfl,_⟩:=h
   unfold bh at q
   split at q
   ·rename_i l' q'
    cases q
    obtain⟨e1,e2⟩:=wD l r l' hr q'
    refine⟨by rw[List.length_cons,List.length_cons,e1],λj h h'=>?_⟩
    cases j with
    | zero=>exact⟨t,rfl⟩
    | succ j=>exact e2 j (by simpa using h) (by simpa using h')
   ·cases q
  | _=>cases q
theorem lL{S:Addr→Prop}{W:Wd}{l:List D}{items:Array Value}{ns:List Int}(r:av S W l items.toList)(q:bh l=some ns):o1 items ns:=by
 obtain⟨e1,e2⟩:=wD l _ ns r q
 rw[Array.length_toList]at e1
 exact⟨e1,λj h h'=>by
  obtain⟨t,q⟩:=e2 j (by simpa using h) h'
  exact⟨t,by rw[←q,Array.getElem_toList]⟩⟩
theorem dj{n:Nat}(hR:bl n A)(a:At C W s)(o:Cm)(d1 d2:D)(v1 v2:Value)(x:Bool)(r1:aN S W d1 v1)(r2:aN S W d2 v2)(e:a9 o d1 d2=some x):
  wpAny (model prog w) A (compareOp o.ast v1 v2) (λv s'=>v = .bool x∧s'=s) E s:=by
 have hu:=hR.units
 have end_:(λv s'=>v=Value.bool x∧s'=s) (Value.bool x) s:=⟨rfl,rfl⟩
 cases o
 case eq=>exact AX A (by omega) d1 d2 v1 v2 x a.h r1 r2 e prog w E _ end_
 case ne=>
  simp only[a9]at e
  split at e
  ·rename_i y q
   cases e
   exact AW A (by omega) d1 d2 v1 v2 y a.h r1 r2 q prog w E _ end_
  ·cases e
 case lt=>
  cases d1<;>cases d2<;>simp only[a9]at e<;>try (cases e;done)
  ·obtain⟨t1,rfl,_⟩:=r1;obtain⟨t2,rfl,_⟩:=r2;cases e;exact lt_int end_
  ·obtain⟨t1,rfl,_⟩:=r1;obtain⟨t2,rfl,_⟩:=r2;cases e;exact PyProof.Rows.lt_str end_
  ·obtain⟨l,i1,rfl,_,h1,q1⟩:=r1;obtain⟨b,i2,rfl,_,h2,q2⟩:=r2
   rw[a.h]at h1 h2
   split at e
   ·rename_i x y hx hy
    cases e
    exact wB h1 h2 (lL q1 hx) (lL q2 hy) (by omega) end_
   ·cases e
 case le=>
  cases d1<;>cases d2<;>simp only[a9]at e<;>try (cases e;done)
  obtain⟨t1,rfl,_⟩:=r1;obtain⟨t2,rfl,_⟩:=r2;cases e;exact le_int end_
 case gt=>
  cases d1<;>cases d2<;>simp only[a9]at e<;>try (cases e;done)
  ·obtain⟨t1,rfl,_⟩:=r1;obtain⟨t2,rfl,_⟩:=r2;cases e;exact gt_int end_
  ·obtain⟨t1,rfl,_⟩:=r1;obtain⟨t2,rfl,_⟩:=r2;cases e;exact P.gt_str end_
  ·obtain⟨l,i1,rfl,_,h1,q1⟩:=r1;obtain⟨b,i2,rfl,_,h2,q2⟩:=r2
   rw[a.h]at h1 h2
   split at e
   ·rename_i x y hx hy
    cases e
    exact wC h1 h2 (lL q1 hx) (lL q2 hy) (by omega) end_
   ·cases e
 case ge=>
  cases d1<;>cases d2<;>simp only[a9]at e<;>try (cases e;done)
  obtain⟨t1,rfl,_⟩:=r1;obtain⟨t2,rfl,_⟩:=r2;cases e;exact ge_int end_
 all_goals (cases d1<;>cases d2<;>simp only[a9]at e<;>try (cases e;done))
 ·obtain⟨t1,rfl,_⟩:=r1;obtain⟨l,i1,rfl,_,h1,q1⟩:=r2
  rw[a.h]at h1
  split at e
  ·rename_i ns hns
   cases e
   exact in_list_ints (by rw[Eh];exact h1) (fq _ _ _ q1 hns) end_
  ·cases e
 ·obtain⟨t1,rfl,_⟩:=r1;obtain⟨l,i1,rfl,_,h1,q1⟩:=r2
  rw[a.h]at h1
  split at e
  ·rename_i ns hns
   cases e
   exact in_tuple_ints h1 (fq _ _ _ q1 hns) end_
  ·cases e
 ·rename_i g y g1 z
  obtain⟨t1,rfl,_⟩:=r1;obtain⟨t2,rfl,_⟩:=r2
  split at e
  ·rename_i c hc
   cases e
   have hx:y=⟨#[c]⟩:=by
    apply Str.ext'
    apply Array.ext'
    simpa using hc
   subst hx
   refine in_str ?_
   rw[StrLaws.found_one]
   exact end_
  ·cases e
 ·obtain⟨t1,rfl,_⟩:=r1;obtain⟨l,i1,rfl,_,h1,q1⟩:=r2
  rw[a.h]at h1
  split at e
  ·rename_i ns hns
   cases e
   exact notin_list_ints (by rw[Eh];exact h1) (fq _ _ _ q1 hns) end_
  ·cases e
end
def lA(l:List D)(i:Int):Option D:=
 if 0≤i then(if i<2^62 then l[i.toNat]? else Option.none)
 else if -(l.length:Int)≤i∧ -(2^62)≤i then l[(i+l.length).toNat]? else Option.none
def ft:D→D→Option D
 | .list l,.int _ i=>lA l i
 | .tup l,.int _ i=>lA l i
 | .str _ x,.int _ i=>if 0≤i∧i<2^62 then(match x.cps.toList[i.toNat]? with|some c=>some (.str true ⟨#[c]⟩)|Option.none=>Option.none)else Option.none
 | _,_=>Option.none
def l4:D→Option (Option Int)
 | .none=>some Option.none
 | .int _ i=>some (some i)
 | _=>Option.none
def fu(l:List D)(lo hi:Option Int):List D:=(l.drop (lo.elim 0 (clipAt l.length))).take (hi.elim l.length (clipAt l.length)-lo.elim 0 (clipAt l.length))
def dC:D→D→D→Option D
 | .list l,a,b=>if l.length≤100000 then(match l4 a,l4 b with|some lo,some hi=>some (.list (fu l lo hi))|_,_=>Option.none)else Option.none
 | .str g x,.int _ i,.int _ j=>if 0≤i∧j=i+1 then some (.str g ⟨(x.cps.toList[i.toNat]?).toList.toArray⟩)else Option.none
 | _,_,_=>Option.none
theorem AY(i n:Nat):Builtin.Str.strSliceIndices (some (i:Int)) (some ((i:Int)+1)) 1 n=if i<n then [i]else []:=by
 split
 ·rename_i h
  have:=PySem.StrLaws.strSliceIndices_plain (a:=i) (b:=i+1) (len:=n) (by omega) (by omega)
  rw[show((i:Int)+1)=((i+1:Nat):Int) by omega,this]
  simp
 ·rename_i h
  have h1:¬((i:Int)<0):=by omega
  have h2:¬((i:Int)+1<0):=by omega
  have e1:max (0:Int) (min (i:Int) (n:Int))=n:=by omega
  have e2:max (0:Int) (min ((i:Int)+1) (n:Int))=n:=by omega
  simp[Builtin.Str.strSliceIndices,sliceRange,h1,h2,e1,e2]
def ins(x:Int):List Int→List Int
 | []=>[x]
 | y::r=>if x≤y then x::y::r else y::ins x r
def cj:List Int→List Int
 | []=>[]
 | x::r=>ins x (cj r)
def l5:List Int→Option Int
 | []=>Option.none
 | x::r=>match l5 r with|Option.none=>some x|some y=>some (if x≤y then x else y)
def iP(l:List Int):Bool:=decide (l.length≤1000)&&l.all λn=>decide (-(2^40)≤n)&&decide (n≤2^40)
inductive Bi where|len|sum|min|max|sorted|ord
 deriving DecidableEq
def Bi.id:Bi→String
 | .len=> "len" | .sum=> "sum" | .min=> "min" | .max=> "max" | .sorted=> "sorted" | .ord=> "ord"
def nB:Bi→List D→Option D
 | .len,[.list l]=>if l.length≤100000 then some (.int true l.length)else Option.none
 | .len,[.tup l]=>if l.length≤100000 then some (.int true l.length)else Option.none
 | .len,[.str _ x]=>if x.length≤100000 then some (.int true x.length)else Option.none
 | .sum,[.list l]=>match bh l with|some ns=>if iP ns then some (.int false ns.sum)else Option.none|Option.none=>Option.none
 | .min,[.list l]=>match bh l with|some ns=>(match l5 ns with|some m=>some (.int false m)|Option.none=>Option.none)|Option.none=>Option.none
 | .max,[.int _ a,.int _ b]=>some (.int false (if b>a then b else a))
 | .sorted,[.list l]=>if l.length<64 then(match bh l with|some ns=>some (.list ((cj ns).map (D.int false)))|Option.none=>Option.none)else Option.none
 | .ord,[.str _ x]=>match x.cps.toList with|[c]=>some (.int true c)|_=>Option.none
 | _,_=>Option.none
theorem l6(x:Int):∀l:List Int,(ins x l).Perm (x::l)
 | []=>.refl _
 | y::r=>by
  unfold ins
  split
  ·exact .refl _
  ·exact((l6 x r).cons y).trans (.swap x y r)
theorem bJ:∀l:List Int,(cj l).Perm l
 | []=>.refl _
 | x::r=>(l6 x _).trans ((bJ r).cons x)
theorem l7(x:Int):∀l:List Int,l.Pairwise (· ≤ ·)→(ins x l).Pairwise (· ≤ ·)
 | [],_=>by simp[ins]
 | y::r,h=>by
  unfold ins
  rw[List.pairwise_cons]at h
  split
  ·rename_i hxy
   refine List.pairwise_cons.mpr ⟨λz hz=>?_,List.pairwise_cons.mpr h⟩
   rcases List.mem_cons.mp hz with rfl|hz
   ·exact hxy
   ·exact Int.le_trans hxy (h.1 z hz)
  ·rename_i hxy
   refine List.pairwise_cons.mpr ⟨λz hz=>?_,l7 x r h.2⟩
   rcases List.mem_cons.mp ((l6 x r).mem_iff.mp hz)with rfl|hz
   ·omega
   ·exact h.1 z hz
theorem dX:∀l:List Int,(cj l).Pairwise (· ≤ ·)
 | []=>.nil
 | x::r=>l7 x _ (dX r)
theorem qs{l l':List Int}(p:l'.Perm l)(q:l'.Pairwise (· ≤ ·)):l'=cj l:=
 List.Perm.eq_of_pairwise (λ_ _ _ _ h1 h2=>Int.le_antisymm h1 h2) q (dX l) (p.trans (bJ l).symm)
theorem o3:∀{l:List Int} {m:Int},l5 l=some m→m∈l∧∀a∈l,m≤a
 | x::r,m,e=>by
  unfold l5 at e
  split at e
  ·rename_i h
   cases e
   cases r with
   | nil=>simp
   | cons y r=>
    exfalso
    unfold l5 at h
    split at h<;>cases h
  ·rename_i y h
   obtain⟨h1,h2⟩:=o3 h
   cases e
   split
   ·rename_i hxy
    refine⟨.head _,λa ha=>?_⟩
    rcases List.mem_cons.mp ha with rfl|ha
    ·exact Int.le_refl _
    ·exact Int.le_trans hxy (h2 a ha)
   ·rename_i hxy
    refine⟨.tail _ h1,λa ha=>?_⟩
    rcases List.mem_cons.mp ha with rfl|ha
    ·omega
    ·exact h2 a ha
section
variable{C:Cx}{S:Addr→Prop}{W:Wd}{s:Shared}{prog:Program}{w:World}{A:Around}{E:Value→Shared→Prop}
theorem oh:∀(vs:List Value) (ns:List Int),IntsAre vs ns→av S W (ns.map (D.int false)) vs
 | _,_,.nil=>rfl
 | _,_,.cons n t h=>⟨_,_,rfl,⟨t,rfl,λq=>by cases q⟩,oh _ _ h⟩
theorem qt{l:List D}{vs:List Value}{i:Int}{d:D}(h:av S W l vs)(e:lA l i=some d):
  ∃v,aN S W d v∧ -(2^62)≤i∧i<2^62∧((0≤i∧vs[i.toNat]?=some v)∨(i<0∧ -(vs.length:Int)≤i∧vs[(i+vs.length).toNat]?=some v)):=by
 unfold lA at e
 have hl:=h.length
 split at e
 ·rename_i h0
  split at e
  ·rename_i h1
   obtain⟨v,hv,r⟩:=h.get e
   exact⟨v,r,by omega,h1,.inl ⟨h0,hv⟩⟩
  ·cases e
 ·rename_i h0
  split at e
  ·rename_i h1
   rw[←hl]at e h1
   obtain⟨v,hv,r⟩:=h.get e
   exact⟨v,r,h1.2,by omega,.inr ⟨by omega,h1.1,hv⟩⟩
  ·cases e
theorem AZ(a:At C W s)(d1 d2 d:D)(v1 v2:Value)(r1:aN S W d1 v1)(r2:aN S W d2 v2)(e:ft d1 d2=some d):
  wpAny (model prog w) A (getItem v1 v2) (be C S W d) E s:=by
 cases d1<;>cases d2<;>simp only[ft]at e<;>try (cases e;done)
 ·rename_i g x g' i
  obtain⟨t1,rfl,_⟩:=r1;obtain⟨t2,rfl,_⟩:=r2
  split at e
  ·rename_i hi
   split at e
   ·rename_i c hc
    cases e
    have hc':x.cps[i.toNat]?=some c:=by rw[←Array.getElem?_toList];exact hc
    have hlt:i.toNat<x.length:=by
     have:=(Array.getElem?_eq_some_iff.mp hc').1
     exact this
    refine getItem_str (c:=c) (by simp;omega) ?_ (be.str a (Nat.le_refl _) (a8 _) (Nat.lt_succ_self _) _)
    have:seqIndex? i x.length=some i.toNat:=by
     unfold seqIndex?
     simp only[show ¬i<0 by omega,if_false]
     have:(decide (0≤i)&&decide (i<(x.length:Int)))=true:=by simp;omega
     rw[if_pos this]
    rw[this];exact hc'
   ·cases e
  ·cases e
 ·obtain⟨l,i1,rfl,_,h1,q1⟩:=r1;obtain⟨t2,rfl,_⟩:=r2
  rw[a.h]at h1
  obtain⟨v,r,b1,b2,h⟩:=qt q1 e
  rcases h with⟨h0,hv⟩|⟨h0,hn,hv⟩
  ·exact wpAny_getItem_list h1 h0 (by omega) (by simpa using hv) (be.same a r)
  ·exact wpAny_getItem_list_neg h1 h0 (by simpa using hn) (by omega) (by simpa using hv) (be.same a r)
 ·rename_i ds g i
  obtain⟨l,i1,rfl,_,h1,q1⟩:=r1;obtain⟨t2,rfl,_⟩:=r2
  rw[a.h]at h1
  obtain⟨v,r,b1,b2,h⟩:=qt q1 e
  rcases h with⟨h0,hv⟩|⟨h0,hn,hv⟩
  ·refine getItem_tuple (j:=i.toNat) h1 (by omega) (by omega) ?_ (by simpa using hv) (be.same a r)
   have hlt:i.toNat<i1.size:=by have:=(List.getElem?_eq_some_iff.mp hv).1;simpa using this
   unfold seqIndex?
   simp only[show ¬i<0 by omega,if_false]
   have:(decide (0≤i)&&decide (i<(i1.size:Int)))=true:=by simp;omega
   rw[if_pos this]
  ·refine getItem_tuple (j:=(i+i1.size).toNat) h1 (by omega) (by omega) ?_ (by simpa using hv) (be.same a r)
   have hn' : -(i1.size:Int)≤i:=by simpa using hn
   unfold seqIndex?
   simp only[show i<0 from h0,if_true]
   have:(decide (0≤i+(i1.size:Int))&&decide (i+(i1.size:Int)<(i1.size:Int)))=true:=by simp;omega
   rw[if_pos this]
theorem sD{l:List D}{x:Array Value}(h:av S W l x.toList)(lo hi:Option Int):av S W (fu l lo hi) (slicePick x lo hi none).toList:=by
 have hl:=h.length
 rw[Array.length_toList]at hl
 rw[slicePick_plain,hl]
 exact(h.drop _).take _
theorem uc{d:D}{v:Value}{o:Option Int}(r:aN S W d v)(e:l4 d=some o):IsPart v o:=by
 cases d<;>simp only[l4]at e<;>try (cases e;done)
 ·cases e;cases r;exact .none
 ·cases e;obtain⟨t,rfl,_⟩:=r;exact .int _ _
theorem wE(a:At C W s)(hS:Cs C S s.heap.objs.size)(d1 d2 d3 d:D)(v1 v2 v3:Value)(sl:Addr)(r1:aN S W d1 v1)(r2:aN S W d2 v2)(r3:aN S W d3 v3)(hsl:s.heap.IsSliceOf sl v2 v3 .none)(e:dC d1 d2 d3=some d):
  wpAny (model prog w) A (getItem v1 (.ref sl)) (be C S W d) E s:=by
 have newS:¬S s.heap.objs.size:=λq=>Nat.lt_irrefl _ (hS.2 _ q)
 have key:(∃l,d1 = .list l)∨∃g x g2 i g3 j,d1 = .str g x∧d2 = .int g2 i∧d3 = .int g3 j:=by
  cases d1<;>first|exact .inl ⟨_,rfl⟩|(cases d2<;>first|(cases d3<;>first|exact .inr ⟨_,_,_,_,_,_,rfl,rfl,rfl⟩|(simp[dC]at e;done))|(simp[dC]at e;done))|(simp[dC]at e;done)
 rcases key with⟨l0,rfl⟩|⟨g,x,g2,i,g3,j,rfl,rfl,rfl⟩
 rotate_left
 ·obtain⟨t1,rfl,q1⟩:=r1
  obtain⟨t2,rfl,_⟩:=r2
  obtain⟨t3,rfl,_⟩:=r3
  simp only[dC]at e
  split at e
  ·rename_i h
   obtain⟨h0,rfl⟩:=h
   cases e
   obtain⟨k,rfl⟩:=Int.eq_ofNat_of_zero_le h0
   refine wpAny_getItem_str_slice (l:=some ((k:Int),t2)) (u:=some ((k:Int)+1,t3)) (st:=none) hsl rfl ?_
   have pk:slicePicked x (some ((k:Int),t2)) (some ((k:Int)+1,t3)) none=if k<x.length then [k]else []:=AY k x.length
   have ex:((if k<x.length then [k]else []).filterMap (x.cps[·]?))=(x.cps.toList[k]?).toList:=by
    split
    ·rename_i hk
     have hk':k<x.cps.size:=hk
     simp[hk']
    ·rename_i hk
     have hk':¬k<x.cps.size:=hk
     simp[hk']
   have hnat:((k:Int)).toNat=k:=by omega
   rw[hnat]
   generalize hp:(if k<x.length then [k]else [])=pkd at pk ex
   unfold sliceMade
   rw[pk,ex]
   split
   ·rename_i hw
    have hx:(⟨(x.cps.toList[k]?).toList.toArray⟩:Str)=x:=by
     rw[Bool.and_eq_true]at hw
     have hlen:=eq_of_beq hw.2
     have hl:x.length=x.cps.size:=rfl
     apply Str.ext'
     rw[←hp]at hlen
     split at hlen
     ·rename_i hk
      have h1:x.cps.size=1:=by simp at hlen;omega
      have hk0:k=0:=by omega
      subst hk0
      apply Array.ext'
      simp only
      cases hc:x.cps.toList with
      | nil=>
       have h3:=congrArg List.length hc
       rw[Array.length_toList,h1]at h3
       cases h3
      | cons c r=>
       have h3:=congrArg List.length hc
       have h4:x.cps.toList.length=x.cps.size:=Array.length_toList
       rw[h4,h1]at h3
       have:r=[]:=List.eq_nil_of_length_eq_zero (by simp at h3;first|exact h3.symm|omega|(rw[←h3])|(subst h3;rfl))
       subst this;simp
     ·rename_i hk
      have h0:x.cps.size=0:=by simp at hlen;omega
      apply Array.ext'
      have:x.cps.toList=[]:=List.eq_nil_of_length_eq_zero (by simpa using h0)
      rw[this];simp
    rw[hx]
    exact be.same a ⟨t1,rfl,q1⟩
   ·refine⟨?_,be.str a (Nat.le_refl _) (a8 _) (Nat.lt_succ_self _) _⟩
    cases hc:x.cps.toList[k]?<;>simp[Str.length,sizeLine_eq]
  ·cases e
 simp only[dC]at e
 obtain⟨l,i1,rfl,_,h1,q1⟩:=r1
 rw[a.h]at h1
 split at e
 ·rename_i hl
  split at e
  ·rename_i lo hi e1 e2
   cases e
   obtain⟨a',L⟩:=a.keepW (bt _ { cls:=.type "list",data:=.seq (slicePick i1 lo hi none) }) (Nat.le_refl _)
   refine wpAny_getItem_list_slice h1 hsl (uc r2 e1) (uc r3 e2) .none (by simp) ⟨_,L,a',_,_,rfl,newS,⟨_,Heap.get?_push_size _ rfl,rfl,_,rfl⟩,(sD q1 lo hi).le L hS.1⟩ ?_
   have:=q1.length
   rw[Array.length_toList]at this
   rw[sizeLine_eq];omega
  ·cases e
 ·cases e
theorem qu:∀(l:List (Int×Tok)) (k:Nat),k≤l.length→preSum (numAt l.toArray) k=((l.map (·.1)).take k).sum
 | l,0,_=>by simp[preSum]
 | l,k+1,h=>by
  rw[preSum,qu l k (by omega)]
  have hk:k<l.length:=by omega
  have:numAt l.toArray k=(l.map (·.1))[k]'(by simpa using hk):=by
   simp[numAt,hk]
  rw[this,List.take_succ_eq_append_getElem (by simpa using hk)]
  simp
theorem A0(l:List Int)(h:∀n∈l,-(2^40)≤n∧n≤2^40): -(l.length*2^40:Int)≤l.sum∧l.sum≤l.length*2^40:=by
 induction l with
 | nil=>simp
 | cons x r ih=>
  have h1:=h x (.head _)
  have h2:=ih λn hn=>h n (.tail _ hn)
  simp only[List.sum_cons,List.length_cons]
  omega
theorem Cw{n:Nat}(hR:bl n A)(a:At C W s)(hS:Cs C S s.heap.objs.size)(b:Bi)(ds:List D)(d:D)(vs:List Value)(r:av S W ds vs)(e:nB b ds=some d):
  wpAny (model prog w) A (call (.builtin b.id) vs) (be C S W d) E s:=by
 have newS:¬S s.heap.objs.size:=λq=>Nat.lt_irrefl _ (hS.2 _ q)
 unfold nB at e
 split at e
 ·obtain⟨v,_,rfl,⟨l,i1,rfl,_,h1,q1⟩,rfl⟩:=r
  rw[a.h]at h1
  split at e
  ·cases e
   have hl:=q1.length
   rw[Array.length_toList]at hl
   rw[←hl]
   exact Calls.call_len_list h1 (by omega) (be.int a (Nat.le_succ _) (a8 _) (Nat.lt_succ_self _) _)
  ·cases e
 ·obtain⟨v,_,rfl,⟨l,i1,rfl,_,h1,q1⟩,rfl⟩:=r
  rw[a.h]at h1
  split at e
  ·cases e
   have hl:=q1.length
   rw[Array.length_toList]at hl
   rw[←hl]
   exact len_tuple h1 (by omega) (be.int a (Nat.le_succ _) (a8 _) (Nat.lt_succ_self _) _)
  ·cases e
 ·obtain⟨v,_,rfl,⟨t,rfl,_⟩,rfl⟩:=r
  split at e
  ·cases e
   exact P.len_str (by omega) (be.int a (Nat.le_succ _) (a8 _) (Nat.lt_succ_self _) _)
  ·cases e
 ·obtain⟨v,_,rfl,⟨l,i1,rfl,_,h1,q1⟩,rfl⟩:=r
  rw[a.h]at h1
  split at e
  ·rename_i ns hns
   split at e
   ·rename_i hsm
    cases e
    have hi:=fq _ _ _ q1 hns
    obtain⟨xs,ex⟩:=hi.allInts.items
    have hns':ns=xs.toList.map (·.1):=by rw[←hi.numsOf,←nums_intItems,←ex]
    have e2:i1=intItems xs:=by rw[←ex]
    rw[e2]at h1
    have hsm':ns.length≤1000∧∀n∈ns,-(2^40)≤n∧n≤2^40:=by
     unfold iP at hsm
     rw[Bool.and_eq_true]at hsm
     refine⟨of_decide_eq_true hsm.1,λn hn=>?_⟩
     have:=List.all_eq_true.mp hsm.2 n hn
     rw[Bool.and_eq_true]at this
     exact⟨of_decide_eq_true this.1,of_decide_eq_true this.2⟩
    have hlen:xs.size=ns.length:=by rw[hns'];simp
    have key:∀k≤xs.size,preSum (numAt xs) k=(ns.take k).sum:=λk hk=>by
     have:=qu xs.toList k (by simpa using hk)
     rw[Array.toArray_toList]at this
     rw[this,hns']
    refine wpAny_with_toks (n:=s.toks) (Nat.le_refl _) (sum_intList hR.1 h1 (λj hj=>?_) λh' tk t' hk htk=>?_)
    ·have h3:=A0 (ns.take (j+1)) λn hn=>hsm'.2 n (List.mem_of_mem_take hn)
     have h4:(ns.take (j+1)).length≤1000:=by rw[List.length_take];omega
     rw[key (j+1) (by omega)]
     have h5:numAt xs j∈ns:=by
      rw[hns',numAt_eq]
      exact getD_mem (by simpa using hj)
     have h6:=hsm'.2 _ h5
     unfold InLong
     omega
    ·rw[key _ (Nat.le_refl _),hlen,List.take_length]
     exact⟨_,(a.keepW hk htk).2,(a.keepW hk htk).1,t',rfl,λq=>by cases q⟩
   ·cases e
  ·cases e
 ·obtain⟨v,_,rfl,⟨l,i1,rfl,_,h1,q1⟩,rfl⟩:=r
  rw[a.h]at h1
  split at e
  ·rename_i ns hns
   split at e
   ·rename_i m hm
    cases e
    have hi:=fq _ _ _ q1 hns
    obtain⟨xs,ex⟩:=hi.allInts.items
    have hns':ns=xs.toList.map (·.1):=by rw[←hi.numsOf,←nums_intItems,←ex]
    have e2:i1=intItems xs:=by rw[←ex]
    rw[e2]at h1
    obtain⟨m1,m2⟩:=o3 hm
    have hsz:0<xs.size:=by
     have:0<ns.length:=List.length_pos_of_mem m1
     rw[hns',List.length_map,Array.length_toList]at this;exact this
    refine wpAny_with_toks (n:=s.toks) (Nat.le_refl _) (min_intList hR.1 h1 hsz λv h' tk hv hk htk=>?_)
    obtain⟨t,rfl⟩:=intItems_at hv
    obtain⟨k1,k2⟩:=argBest_lt (numAt xs) (xs.size-1)
    have hmem:numAt xs (argBest (λi j=>decide (numAt xs i<numAt xs j)) (xs.size-1))∈ns:=by
     rw[hns',numAt_eq];exact getD_mem (by rw[List.length_map,Array.length_toList];omega)
    have hle:∀b∈ns,numAt xs (argBest (λi j=>decide (numAt xs i<numAt xs j)) (xs.size-1))≤b:=by
     intro b hb
     rw[hns']at hb
     obtain⟨i,hi,rfl⟩:=List.mem_iff_getElem.mp hb
     have hi':i<xs.size:=by simpa using hi
     have:=k2 i (by omega)
     have e3:numAt xs i=(xs.toList.map (·.1))[i]:=by simp[numAt,hi']
     rw[←e3];exact this
    have:numAt xs (argBest (λi j=>decide (numAt xs i<numAt xs j)) (xs.size-1))=m:=Int.le_antisymm (hle _ m1) (m2 _ hmem)
    exact⟨_,(a.keepW hk htk).2,(a.keepW hk htk).1,t,by rw[this],λq=>by cases q⟩
   ·cases e
  ·cases e
 ·obtain⟨v,_,rfl,⟨t1,rfl,_⟩,v',_,rfl,⟨t2,rfl,_⟩,rfl⟩:=r
  cases e
  refine wpAny_with_toks (n:=s.toks) (Nat.le_refl _) (max_two_ints hR.1 λh' tk hk htk=>⟨_,(a.keepW hk htk).2,(a.keepW hk htk).1,?_⟩)
  split
  ·exact⟨t2,rfl,λq=>by cases q⟩
  ·exact⟨t1,rfl,λq=>by cases q⟩
 ·obtain⟨v,_,rfl,⟨l,i1,rfl,_,h1,q1⟩,rfl⟩:=r
  rw[a.h]at h1
  split at e
  ·rename_i hlt
   split at e
   ·rename_i ns hns
    cases e
    have hi:=fq _ _ _ q1 hns
    have hl:=q1.length
    refine sorted_ints (vs:=i1.toList) (by rw[Eh];exact h1) hi (by omega) λout ns' b1 b2 b3=>?_
    obtain⟨ep,hep⟩:=sortedAll_at s.heap i1.toList out
    have hk:∀b o,s.heap.get? b=some o→(sortedAll s.heap i1.toList out).get? b=some o:=λb o hb=>sortedAll_old hb
    refine⟨_,(a.keepW hk (Nat.le_refl _)).2,(a.keepW hk (Nat.le_refl _)).1,_,out,rfl,λq=>?_,⟨_,hep,rfl,_,rfl⟩,?_⟩
    ·exact Nat.lt_irrefl _ (Nat.lt_of_succ_lt (hS.2 _ q))
    ·rw[←qs b2 b3]
     exact oh _ _ b1
   ·cases e
  ·cases e
 ·obtain⟨v,_,rfl,⟨t,rfl,_⟩,rfl⟩:=r
  split at e
  ·rename_i xx _ ll c hc
   cases e
   have hx:xx=⟨#[c]⟩:=by
    apply Str.ext'
    apply Array.ext'
    simpa using hc
   subst hx
   exact ord_of_one rfl (be.int a (Nat.le_refl _) (a8 _) (Nat.lt_succ_self _) _)
  ·cases e
 ·cases e
end
def nm(x:String):Str:=Str.ofString x
structure a6 where
 page:Str
 at_:Nat
 line:Nat
 back:List D
 deriving Inhabited
def df:Str:=nm "\n\t\r "
def cut(page:Str)(i:Nat):Str:=⟨(page.cps.toList[i]?).toList.toArray⟩
def a6.read(L:a6):a6:={ L with at_:=L.at_+(cut L.page L.at_).length,line:=if cut L.page L.at_=nm "\n" then L.line+1 else L.line }
def a6.sg(L:a6):Option Nat:=L.page.cps.toList[L.at_]?
abbrev one(c:Nat):Str:=⟨#[c]⟩
def ia(step:a6→Str→Nat→Option (a6×Str)):Nat→a6→Str→Option (a6×Str×Bool)
 | 0,_,_=>none
 | n+1,L,tok=>match L.sg with
  | none=>some (L.read,tok,false)
  | some c=>match step L.read tok c with
   | none=>some (L.read,tok,true)
   | some (L',tok')=>ia step n L' tok'
def l8(L:a6)(tok:Str)(c:Nat):a6×Str:=if one c=nm "\\" then(L.read,tok++cut L.page L.at_)else(L,tok++one c)
def f8(L:a6)(tok:Str)(c:Nat):Option (a6×Str):=if one c=nm "\"" then none else some (l8 L tok c)
def f9(L:a6)(tok:Str)(c:Nat):Option (a6×Str):=if c∈df.cps.toList then none else some (l8 L tok c)
def nC(L:a6)(c:Nat):a6:=if one c=nm "\\" then L.read else L
def nD(L:a6)(c:Nat):Str:=if one c=nm "\\" then cut L.page L.at_ else one c
def jI(step:a6→Str→Nat→Option (a6×Str))(n:Nat)(L:a6)(tok:Str):Option (a6×Str):=match ia step n L tok with
 | some (L',t,_)=>some (L',t)
 | none=>none
def fv:Nat→a6→Option (a6×Str)
 | 0,_=>none
 | n+1,L=>match L.sg with
  | none=>some (L.read,nm "")
  | some c=>if c∈df.cps.toList then fv n L.read
   else if one c=nm "\"" then jI f8 n L.read (nm "")
   else jI f9 n (nC L.read c) (nm "" ++ nD L.read c)
def a6.get(n:Nat)(L:a6):Option (D×a6):=match L.back with
 | d::r=>some (d,{ L with back:=r })
 | []=>match fv n L with
  | some (L',t)=>some (.str true t,L')
  | none=>none
def fJ{α:Type}(k:Int)(y:α)(xs:List α):List α:=(xs.take (min k.toNat xs.length))++y::xs.drop (min k.toNat xs.length)
inductive dA where
 | one (i:Nat)
 | two (i j:Nat)
 deriving DecidableEq
inductive X where
 | const (d:D)
 | var (i:Nat)
 | bin (o:Op) (a b:X)
 | cmp (o:Cm) (a b:X)
 | cmp2 (o o2:Cm) (a b c:X)
 | isEq (a b:X)
 | and (a b:X)
 | or (a b:X)
 | not (a:X)
 | neg (a:X)
 | ite (t a b:X)
 | sub (a i:X)
 | slice (a:X) (lo hi:Option X)
 | list (l:List X)
 | tup (l:List X)
 | comp (elt:X) (gens:List (dA×X×List X))
 | range (a:X)
 | enum (a:X)
 | bi (b:Bi) (l:List X)
 | call (f:Nat) (l:List X)
 deriving Inhabited
abbrev Me:=List (Nat×D)
def jJ:D→D→Option D
 | .int true i,.int true j=>some (.bool (i==j))
 | .str true x,.str true y=>some (.bool (x==y))
 | _,_=>Option.none
def bn{α β:Type}(f:α→Option β):List α→Option (List β)
 | []=>some []
 | x::r=>match f x with
  | some y=>(match bn f r with|some ys=>some (y::ys)|Option.none=>Option.none)
  | Option.none=>Option.none
def ib{α β:Type}(f:α→Option (List β)):List α→Option (List β)
 | []=>some []
 | x::r=>match f x with
  | some y=>(match ib f r with|some ys=>some (y++ys)|Option.none=>Option.none)
  | Option.none=>Option.none
def dM:Nat→List D→List D
 | _,[]=>[]
 | i,d::r=>.tup [.int true i,d]::dM (i+1) r
def dD:D→Option (List D)
 | .list l=>if l.length≤100000 then some l else Option.none
 | .tup l=>if l.length≤100000 then some l else Option.none
 | .str _ x=>if x.length≤100000 then some (x.cps.toList.map λc=>.str true ⟨#[c]⟩)else Option.none
 | _=>Option.none
def gY(e:X→Me→Option D):dA→X→Me→Option (List D)
 | .one _,.range a,me=>match e a me with
  | some (.int _ k)=>if 0≤k∧k≤1000 then some ((List.range k.toNat).map λi:Nat=>D.int true (i:Int))else Option.none
  | _=>Option.none
 | .two _ _,.enum a,me=>match e a me with
  | some (.list l)=>if l.length≤100000 then some (dM 0 l)else Option.none
  | _=>Option.none
 | .one _,a,me=>match e a me with
  | some d=>dD d
  | Option.none=>Option.none
 | _,_,_=>Option.none
def gZ:dA→D→Me→Option Me
 | .one i,d,me=>some ((i,d)::me)
 | .two i j,.tup [a,b],me=>some ((j,b)::(i,a)::me)
 | _,_,_=>Option.none
def dE(e:X→Me→Option D):List X→Me→Option Bool
 | [],_=>some true
 | t::r,me=>match e t me with
  | some d=>(match aC d with|some true=>dE e r me|some false=>some false|Option.none=>Option.none)
  | Option.none=>Option.none
def hU(e:X→Me→Option D)(it:dA→X→Me→Option (List D))(elt:X):List (dA×X×List X)→Me→Option (List D)
 | [],me=>match e elt me with|some d=>some [d]|Option.none=>Option.none
 | (t,i,ifs)::gs,me=>match it t i me with
  | some xs=>ib (λd=>match gZ t d me with
    | some me'=>(match dE e ifs me' with
     | some true=>hU e it elt gs me'
     | some false=>some []
     | Option.none=>Option.none)
    | Option.none=>Option.none) xs
  | Option.none=>Option.none
def fy:dA→List Nat
 | .one i=>[i]
 | .two i j=>[i,j]
def eX(gens:List (dA×X×List X)):List Nat:=gens.flatMap λg=>fy g.1
def bA(l:List Nat)(me:Me):Me:=me.filter λp=>!l.contains p.1
def ev(F:Nat→List D→Option D):Nat→X→Me→Option D
 | 0,_,_=>Option.none
 | n+1,x,me=>match x with
  | .const d=>some d
  | .var i=>me.lookup i
  | .bin o a b=>match ev F n a me,ev F n b me with
   | some x,some y=>dm o x y
   | _,_=>Option.none
  | .cmp o a b=>match ev F n a me,ev F n b me with
   | some x,some y=>(match a9 o x y with|some t=>some (.bool t)|Option.none=>Option.none)
   | _,_=>Option.none
  | .cmp2 o o2 a b c=>match ev F n a me,ev F n b me with
   | some x,some y=>(match a9 o x y with
    | some true=>(match ev F n c me with
     | some z=>(match a9 o2 y z with|some t=>some (.bool t)|Option.none=>Option.none)
     | Option.none=>Option.none)
    | some false=>some (.bool false)
    | Option.none=>Option.none)
   | _,_=>Option.none
  | .isEq a b=>match ev F n a me,ev F n b me with
   | some x,some y=>jJ x y
   | _,_=>Option.none
  | .and a b=>match ev F n a me with
   | some x=>(match aC x with|some true=>ev F n b me|some false=>some x|Option.none=>Option.none)
   | Option.none=>Option.none
  | .or a b=>match ev F n a me with
   | some x=>(match aC x with|some true=>some x|some false=>ev F n b me|Option.none=>Option.none)
   | Option.none=>Option.none
  | .not a=>match ev F n a me with
   | some x=>(match aC x with|some t=>some (.bool (!t))|Option.none=>Option.none)
   | Option.none=>Option.none
  | .neg a=>match ev F n a me with
   | some (.int _ i)=>some (.int true (-i))
   | _=>Option.none
  | .ite t a b=>match ev F n t me with
   | some x=>(match aC x with|some true=>ev F n a me|some false=>ev F n b me|Option.none=>Option.none)
   | Option.none=>Option.none
  | .sub a i=>match ev F n a me,ev F n i me with
   | some x,some y=>ft x y
   | _,_=>Option.none
  | .slice a lo hi=>match ev F n a me,(match lo with|some l=>ev F n l me|Option.none=>some .none),(match hi with|some l=>ev F n l me|Option.none=>some .none)with
   | some x,some l,some h=>dC x l h
   | _,_,_=>Option.none
  | .list l=>match bn (λy=>ev F n y me) l with|some ds=>if ds.length≤100000 then some (.list ds)else Option.none|Option.none=>Option.none
  | .tup l=>match bn (λy=>ev F n y me) l with|some ds=>if ds.length≤100000 then some (.tup ds)else Option.none|Option.none=>Option.none
  | .comp elt gens=>match hU (ev F n) (gY (ev F n)) elt gens (bA (eX gens) me)with
   | some ds=>if ds.length≤100000 then some (.list ds)else Option.none
   | Option.none=>Option.none
  | .range _=>Option.none
  | .enum _=>Option.none
  | .bi b l=>match bn (λy=>ev F n y me) l with|some ds=>nB b ds|Option.none=>Option.none
  | .call f l=>match bn (λy=>ev F n y me) l with|some ds=>F f ds|Option.none=>Option.none
inductive Y where
 | assign (i:Nat) (e:X)
 | fresh (i:Nat) (l:List X)
 | aug (i:Nat) (e:X)
 | augSub (i:Nat) (k e:X)
 | append (i:Nat) (e:X)
 | ite (t:X) (a b:List Y)
 | loop (t:X) (a:List Y)
 | for (t:dA) (it:X) (a:List Y) (r:Bool)
 | ret (e:X)
 | newLex (i:Nat) (e:X)
 | getTok (i j:Nat)
 | gets (i j k:Nat)
 | push (j:Nat) (e:X)
 | insert (i:Nat) (k e:X)
 | delIt (i:Nat) (k:X)
 | iteLine (t:X) (j:Nat) (e:X) (a b:List Y)
 | retLines (i j:Nat) (e t a b:X)
 deriving Inhabited
inductive Ob where
 | list (l:List D)
 | lex (L:a6)
 deriving Inhabited
structure St where
 me:Me
 own:List (Nat×Ob)
 deriving Inhabited
inductive lB where
 | next (s:St)
 | ret (d:D)
 deriving Inhabited
def put{α:Type}(i:Nat)(d:α):List (Nat×α)→List (Nat×α)
 | []=>[(i,d)]
 | p::r=>if p.1=i then(i,d)::r else p::put i d r
def nz{α:Type}(i:Nat):List (Nat×α)→List (Nat×α)
 | []=>[]
 | p::r=>if p.1=i then nz i r else p::nz i r
def aS(s:St):List Nat:=s.own.map (·.1)
def eE:Nat×Ob→Option (Nat×D)
 | (i,.list l)=>some (i,.list l)
 | _=>Option.none
def ud:Nat×Ob→Bool
 | (_,.lex _)=>true
 | _=>false
def thaw(s:St):St:=⟨s.own.filterMap eE++s.me,s.own.filter ud⟩
def flat:D→Bool
 | .list _=>false
 | .tup _=>false
 | _=>true
def dF(F:Nat→List D→Option D)(n:Nat)(x:X)(s:St):Option D:=
 match ev F n x s.me with
 | some d=>some d
 | Option.none=>match ev F n x (thaw s).me with
  | some d=>if flat d then some d else Option.none
  | Option.none=>Option.none
def evS(F:Nat→List D→Option D)(n:Nat)(x:X)(s:St):Option (D×St):=
 match dF F n x s with
 | some d=>some (d,s)
 | Option.none=>match ev F n x (thaw s).me with
  | some d=>some (d,thaw s)
  | Option.none=>Option.none
def vd(k:St→Option Bool)(f:St→Option lB):Nat→St→Option lB
 | 0,_=>Option.none
 | n+1,s=>match k s with
  | some true=>(match f s with
   | some (.next s')=>vd k f n s'
   | o=>o)
  | some false=>some (.next s)
  | Option.none=>Option.none
def gG(f:St→D→Option lB):List D→St→Option lB
 | [],s=>some (.next s)
 | d::r,s=>match f s d with
  | some (.next s')=>gG f r s'
  | o=>o
def Cy(l:List D)(k:D)(f:D→Option D):Option (List D):=match k with
 | .int _ i=>if 0≤i∧i<2^62 then(match l[i.toNat]? with
   | some x=>(match f x with|some y=>some (l.set i.toNat y)|Option.none=>Option.none)
   | Option.none=>Option.none)else Option.none
 | _=>Option.none
def o4(l:List D)(i:Int):Int:=if i<0 then i+(l.length:Int)else i
def ue(l:List D)(k:D):Option (List D):=match k with
 | .int _ i=>if 0≤o4 l i∧o4 l i<(l.length:Int)∧l.length≤1000 then some (l.eraseIdx (o4 l i).toNat)else Option.none
 | _=>Option.none
def wF(l:List D)(k x:D):Option (List D):=match k with
 | .int _ i=>if 0≤i∧i≤100000∧l.length≤1000 then some (fJ i x l)else Option.none
 | _=>Option.none
def gH:Nat:=1000
def a6.tok(L:a6):Option (D×a6):=if L.at_≤10000∧L.back.length≤1000 then L.get gH else Option.none
def toks:Nat→a6→Option (List D×a6)
 | 0,L=>some ([],L)
 | n+1,L=>match L.tok with
  | some (d,L')=>(match toks n L' with
   | some (ds,L'')=>some (d::ds,L'')
   | Option.none=>Option.none)
  | Option.none=>Option.none
def dN(s:St)(j:Nat):Option a6:=match s.own.lookup j with
 | some (.lex L)=>some L
 | _=>Option.none
def dY(s:St)(j:Nat):Option (List D):=match s.own.lookup j with
 | some (.list l)=>some l
 | _=>Option.none
def gb:dA→D→Me→Option Me
 | .one i,d,me=>some (put i d me)
 | .two i j,.tup [a,b],me=>some (put j b (put i a me))
 | _,_,_=>Option.none
def jo:Bool→Option lB→Option lB
 | true,some (.next _)=>Option.none
 | _,o=>o
def jK(F:Nat→List D→Option D)(n:Nat)(t:dA)(x:X)(s:St):Option (List D):=
 match gY (ev F n) t x s.me with
 | some xs=>some xs
 | Option.none=>match t,x with
  | .one _,.range a=>(match dF F n a s with
   | some (.int _ k)=>if -1000≤k∧k≤1000 then some ((List.range k.toNat).map λi:Nat=>D.int true (i:Int))else Option.none
   | _=>Option.none)
  | _,_=>Option.none
mutual
def ex(F:Nat→List D→Option D):Nat→Y→St→Option lB
 | 0,_,_=>Option.none
 | n+1,y,s=>match y with
  | .assign i e=>match evS F n e s with
   | some (d,s')=>if(aS s').contains i then Option.none else some (.next ⟨put i d s'.me,s'.own⟩)
   | Option.none=>Option.none
  | .fresh i l=>match bn (λy=>ev F n y s.me) l with
   | some ds=>if(aS s).contains i||decide (100000<ds.length)then Option.none else some (.next ⟨nz i s.me,(i,.list ds)::s.own⟩)
   | Option.none=>Option.none
  | .aug i e=>match s.me.lookup i,ev F n e s.me with
   | some x,some y=>(match dm .add x y,x with
    | some _,.list _=>Option.none
    | some z,_=>if(aS s).contains i then Option.none else some (.next ⟨put i z s.me,s.own⟩)
    | Option.none,_=>Option.none)
   | _,_=>Option.none
  | .augSub i k e=>match dY s i,ev F n k s.me,ev F n e s.me with
   | some l,some kd,some y=>(match Cy l kd (λx=>match x with | .int _ _=>dm .add x y|_=>Option.none)with
    | some l'=>some (.next ⟨s.me,put i (.list l') s.own⟩)
    | Option.none=>Option.none)
   | _,_,_=>Option.none
  | .append i e=>match dY s i,ev F n e s.me with
   | some l,some d=>if l.length≤100000 then some (.next ⟨s.me,put i (.list (l++[d])) s.own⟩)else Option.none
   | _,_=>Option.none
  | .ite t a b=>match evS F n t s with
   | some (d,s')=>(match aC d with
    | some true=>bC F n a s'
    | some false=>bC F n b s'
    | Option.none=>Option.none)
   | Option.none=>Option.none
  | .loop t a=>vd (λs'=>match ev F n t s'.me with|some d=>aC d|Option.none=>Option.none)
    (λs'=>match bC F n a s' with
     | some (.next s'')=>if aS s''=aS s' then some (.next s'')else Option.none
     | o=>o) n s
  | .for t it a rr=>match jK F n t it s with
   | some ds=>jo rr (gG (λs' d=>if(match t with | .one i=>(aS s').contains i | .two i j=>(aS s').contains i||(aS s').contains j)then Option.none else
     match gb t d s'.me with
     | some me'=>(match bC F n a ⟨me',s'.own⟩with
      | some (.next s'')=>if aS s''=aS s' then some (.next s'')else Option.none
      | o=>o)
     | Option.none=>Option.none) ds s)
   | Option.none=>Option.none
  | .ret e=>match evS F n e s with
   | some (d,_)=>some (.ret d)
   | Option.none=>Option.none
  | .newLex i e=>match ev F n e s.me with
   | some (.str true page)=>if(aS s).contains i then Option.none else some (.next ⟨nz i s.me,(i,.lex ⟨page,0,1,[]⟩)::s.own⟩)
   | _=>Option.none
  | .getTok i j=>match dN s j with
   | some L=>(match L.tok with
    | some (d,L')=>if(aS s).contains i then Option.none else some (.next ⟨put i d s.me,put j (.lex L') s.own⟩)
    | Option.none=>Option.none)
   | Option.none=>Option.none
  | .gets i j k=>match dN s j with
   | some L=>if k≤1000 then(match toks k L with
    | some (ds,L')=>if(aS s).contains i then Option.none else some (.next ⟨put i (.list ds) s.me,put j (.lex L') s.own⟩)
    | Option.none=>Option.none)else Option.none
   | Option.none=>Option.none
  | .push j e=>match dN s j,ev F n e s.me with
   | some L,some d=>if L.back.length≤1000 then some (.next ⟨s.me,put j (.lex { L with back:=L.back++[d] }) s.own⟩)else Option.none
   | _,_=>Option.none
  | .insert i k e=>match dY s i,dF F n k s,ev F n e s.me with
   | some l,some kd,some d=>(match wF l kd d with
    | some l'=>some (.next ⟨s.me,put i (.list l') s.own⟩)
    | Option.none=>Option.none)
   | _,_,_=>Option.none
  | .delIt i k=>match dY s i,dF F n k s with
   | some l,some kd=>(match ue l kd with
    | some l'=>some (.next ⟨s.me,put i (.list l') s.own⟩)
    | Option.none=>Option.none)
   | _,_=>Option.none
  | .iteLine t j e a b=>match dF F n t s,dN s j,dF F n e s with
   | some d,some L,some (.int _ k)=>(match aC d with
    | some true=>bC F n a s
    | some false=>if(L.line:Int)=k then bC F n b s else bC F n a s
    | Option.none=>Option.none)
   | _,_,_=>Option.none
  | .retLines i j e t a b=>match dN s i,dN s j,dF F n e s,dF F n t s with
   | some L,some L',some (.int _ k),some td=>(match aC td with
    | some tb=>(match evS F n (if L.line=L'.line∧(L'.line:Int)=k∧tb=true then a else b) s with
     | some (d,_)=>some (.ret d)
     | Option.none=>Option.none)
    | Option.none=>Option.none)
   | _,_,_,_=>Option.none
def bC(F:Nat→List D→Option D):Nat→List Y→St→Option lB
 | 0,_,_=>Option.none
 | _+1,[],s=>some (.next s)
 | n+1,y::r,s=>match ex F n y s with
  | some (.next s')=>bC F n r s'
  | o=>o
end
abbrev Kd:=List (Str×NameKind)
def iQ(K:Kd)(x:Str):Bool:=match K.lookup x with
 | some .local=>true
 | some .cell=>true
 | some .free=>true
 | _=>false
def cK(K:Kd)(x:Str):Bool:=match K.lookup x with
 | some .local=>true
 | some .cell=>true
 | _=>false
def lC(K:Kd)(x:Str):Bool:=match K.lookup x with
 | some .globalImplicit=>true
 | _=>false
def oi:Expr→Bool
 | .Set .. =>false
 | .Starred .. =>false
 | .Slice .. =>false
 | _=>true
def A1(x:Str):Option Bi:=
 if x==Str.ofString "len" then some .len else if x==Str.ofString "sum" then some .sum else if x==Str.ofString "min" then some .min
 else if x==Str.ofString "max" then some .max else if x==Str.ofString "sorted" then some .sorted else if x==Str.ofString "ord" then some .ord else Option.none
def A2:Operator→Option Op
 | .Add=>some .add | .Sub=>some .sub | .Mult=>some .mul | .Mod=>some .mod | .FloorDiv=>some .fdiv
 | _=>Option.none
def wG:CmpOp→Option Cm
 | .Eq=>some .eq | .NotEq=>some .ne | .Lt=>some .lt | .LtE=>some .le | .Gt=>some .gt | .GtE=>some .ge | .In=>some .isin | .NotIn=>some .notin
 | _=>Option.none
def aW(sc:Scope)(K:Kd):Bool:=
 sc.kind == .function&&decide ((sc.names.map (·.1)).Nodup)&&sc.names.all λp=>match p.2 with
  | .free=>(match K.lookup p.1 with|some .cell=>true|some .free=>true|_=>false)
  | .local=>true
  | .cell=>true
  | .globalImplicit=>true
  | .globalExplicit=>false
section
variable(T fns:List Str)
def oj(K:Kd):Expr→Option dA
 | .Name x _=>if cK K x then(match T.findIdx? (· == x)with|some i=>some (.one i)|Option.none=>Option.none)else Option.none
 | .Tuple [.Name x _,.Name y _] _ _=>if cK K x&&cK K y then(match T.findIdx? (· == x),T.findIdx? (· == y)with|some i,some j=>if i=j then Option.none else some (.two i j)|_,_=>Option.none)else Option.none
 | _=>Option.none
def sE(sc:Scope)(gens:List (dA×X×List X)):Bool:=
 decide (eX gens).Nodup&&sc.names.all λp=>match p.2 with
  | .local=>((eX gens).any λi=>T[i]?==some p.1)||!T.contains p.1
  | .cell=>((eX gens).any λi=>T[i]?==some p.1)||!T.contains p.1
  | _=>true
def kE:Expr→Expr→Expr→Expr→Bool
 | .Name a _,.Name b _,.Name c _,.Name d _=>a==c&&b==d
 | _,_,_,_=>false
def cE:Nat→Kd→Expr→Option X
 | 0,_,_=>Option.none
 | n+1,K,e=>match e with
  | .Constant .none _ _=>some (.const .none)
  | .Constant (.bool b) _ _=>some (.const (.bool b))
  | .Constant (.int i) _ _=>some (.const (.int true i))
  | .Constant (.str x) _ _=>some (.const (.str true x))
  | .Name x _=>if iQ K x then(match T.findIdx? (· == x)with|some i=>some (.var i)|Option.none=>Option.none)else Option.none
  | .BinOp l op r _=>match A2 op,cE n K l,cE n K r with
   | some o,some a,some b=>some (.bin o a b)
   | _,_,_=>Option.none
  | .UnaryOp .Not x _=>match cE n K x with
   | some a=>some (.not a)
   | Option.none=>Option.none
  | .UnaryOp .USub x _=>match cE n K x with
   | some a=>some (.neg a)
   | Option.none=>Option.none
  | .BoolOp .And [x,y] _=>match cE n K x,cE n K y with
   | some a,some b=>some (.and a b)
   | _,_=>Option.none
  | .BoolOp .Or [x,y] _=>match x,y with
   | .Compare l [.Is] [r] _,.Compare l' [.Eq] [r'] _=>if kE l r l' r' then(match cE n K l,cE n K r with
     | some a,some b=>some (.isEq a b)
     | _,_=>Option.none)else Option.none
   | x,y=>match cE n K x,cE n K y with
    | some a,some b=>some (.or a b)
    | _,_=>Option.none
  | .Compare l [o] [r] _=>match wG o,cE n K l,cE n K r with
   | some o,some a,some b=>some (.cmp o a b)
   | _,_,_=>Option.none
  | .Compare l [o,o2] [m,r] _=>match wG o,wG o2,cE n K l,cE n K m,cE n K r with
   | some o,some o2,some a,some b,some c=>some (.cmp2 o o2 a b c)
   | _,_,_,_,_=>Option.none
  | .IfExp t x y _=>match cE n K t,cE n K x,cE n K y with
   | some a,some b,some c=>some (.ite a b c)
   | _,_,_=>Option.none
  | .Subscript v (.Slice lo hi Option.none _) _=>match cE n K v,cO n K lo,cO n K hi with
   | some a,some b,some c=>some (.slice a b c)
   | _,_,_=>Option.none
  | .Subscript v i _=>match cE n K v,cE n K i with
   | some a,some b=>some (.sub a b)
   | _,_=>Option.none
  | .List es _=>match cL n K es with
   | some l=>some (.list l)
   | Option.none=>Option.none
  | .Tuple es _ _=>match cL n K es with
   | some l=>some (.tup l)
   | Option.none=>Option.none
  | .ListComp elt gens sc _=>if aW sc K then(match gens with
    | ⟨t,i,ifs,0⟩::rest=>(match oj T sc.names t,cE n K i,cL n sc.names ifs,cG n sc.names rest,cE n sc.names elt with
     | some t,some i,some ifs,some gs,some a=>if sE T sc ((t,i,ifs)::gs)then some (.comp a ((t,i,ifs)::gs))else Option.none
     | _,_,_,_,_=>Option.none)
    | _=>Option.none)else Option.none
  | .Call (.Name f _) args [] _=>if lC K f then(match cL n K args with
    | some l=>if f==Str.ofString "range" then(match l with|[a]=>some (.range a)|_=>Option.none)
     else if f==Str.ofString "enumerate" then(match l with|[a]=>some (.enum a)|_=>Option.none)
     else(match A1 f with
      | some b=>some (.bi b l)
      | Option.none=>(match fns.findIdx? (· == f)with|some i=>if l.isEmpty then Option.none else some (.call i l)|Option.none=>Option.none))
    | Option.none=>Option.none)else Option.none
  | _=>Option.none
where
 cO:Nat→Kd→Option Expr→Option (Option X)
  | _,_,Option.none=>some Option.none
  | 0,_,_=>Option.none
  | n+1,K,some e=>match cE n K e with
   | some a=>some (some a)
   | Option.none=>Option.none
 cL:Nat→Kd→List Expr→Option (List X)
  | _,_,[]=>some []
  | 0,_,_=>Option.none
  | n+1,K,e::es=>match cE n K e,cL n K es with
   | some a,some l=>some (a::l)
   | _,_=>Option.none
 cG:Nat→Kd→List Comprehension→Option (List (dA×X×List X))
  | _,_,[]=>some []
  | 0,_,_=>Option.none
  | n+1,K,⟨t,i,ifs,0⟩::gs=>match oj T K t,cE n K i,cL n K ifs,cG n K gs with
   | some t,some i,some ifs,some gs=>some ((t,i,ifs)::gs)
   | _,_,_,_=>Option.none
  | _,_,_=>Option.none
def cS:Nat→Kd→Stmt→Option Y
 | 0,_,_=>Option.none
 | n+1,K,s=>match s with
  | .Assign [.Name x _] v _=>if cK K x then(match T.findIdx? (· == x)with
    | some i=>(match v with
     | .List es _=>(match cE.cL T fns n K es with|some l=>some (.fresh i l)|Option.none=>Option.none)
     | .Call (.Name f p) [e] [] q=>if f==Str.ofString "_law_lexer" && lC K f then(match cE T fns n K e with|some a=>some (.newLex i a)|Option.none=>Option.none)
       else(match cE T fns n K (.Call (.Name f p) [e] [] q)with|some a=>some (.assign i a)|Option.none=>Option.none)
     | .Call (.Attribute (.Name y _) m ap) [] [] p=>if m==Str.ofString "get_token" && iQ K y&&ap.endLine==p.line then(match T.findIdx? (· == y)with|some j=>some (.getTok i j)|Option.none=>Option.none)else Option.none
     | .ListComp (.Call (.Attribute (.Name y _) m ap) [] [] p) [⟨.Name t _,.Call (.Name r _) [.Constant (.int k) _ _] [] _,[],0⟩] sc _=>
       if m==Str.ofString "get_token" && iQ K y&&ap.endLine==p.line&&r==Str.ofString "range" && lC K r&&decide (sc.names=[(Str.ofString ".0",.local),(t,.local),(y,.free)])&&t==Str.ofString "turn" && aW sc K&&decide (0≤k∧k≤1000)then
        (match T.findIdx? (· == y)with|some j=>some (.gets i j k.toNat)|Option.none=>Option.none)else Option.none
     | v=>(match cE T fns n K v with|some a=>some (.assign i a)|Option.none=>Option.none))
    | Option.none=>Option.none)else Option.none
  | .AugAssign (.Name x _) .Add v _=>if cK K x then(match T.findIdx? (· == x),cE T fns n K v with
    | some i,some a=>some (.aug i a)
    | _,_=>Option.none)else Option.none
  | .AugAssign (.Subscript (.Name x _) k _) .Add v _=>if cK K x then(match T.findIdx? (· == x),cE T fns n K k,cE T fns n K v with
    | some i,some b,some a=>some (.augSub i b a)
    | _,_,_=>Option.none)else Option.none
  | .Expr (.Call (.Attribute (.Name x _) m ap) [e] [] p) _=>if m==Str.ofString "append" && cK K x&&ap.endLine==p.line then(match T.findIdx? (· == x),cE T fns n K e with
    | some i,some a=>some (.append i a)
    | _,_=>Option.none)else if m==Str.ofString "push_token" && iQ K x&&ap.endLine==p.line then(match T.findIdx? (· == x),cE T fns n K e with
    | some i,some a=>some (.push i a)
    | _,_=>Option.none)else Option.none
  | .Expr (.Call (.Attribute (.Name x _) m ap) [k,e] [] p) _=>if m==Str.ofString "insert" && cK K x&&ap.endLine==p.line then(match T.findIdx? (· == x),cE T fns n K k,cE T fns n K e with
    | some i,some b,some a=>some (.insert i b a)
    | _,_,_=>Option.none)else Option.none
  | .Expr (.Call (.Name f _) [.Name x _,k] [] _) _=>if f==Str.ofString "delitem" && lC K f&&cK K x then(match T.findIdx? (· == x),cE T fns n K k with
    | some i,some b=>some (.delIt i b)
    | _,_=>Option.none)else Option.none
  | .If (.BoolOp .Or [t,.Compare (.Attribute (.Name y _) m _) [.NotEq] [e] _] _) a b _=>if m==Str.ofString "lineno" && iQ K y then(match cE T fns n K t,T.findIdx? (· == y),cE T fns n K e,cSs n K a,cSs n K b with
    | some t,some j,some e,some a,some b=>some (.iteLine t j e a b)
    | _,_,_,_,_=>Option.none)else Option.none
  | .If t a b _=>match cE T fns n K t,cSs n K a,cSs n K b with
   | some t,some a,some b=>some (.ite t a b)
   | _,_,_=>Option.none
  | .While t a [] _=>match cE T fns n K t,cSs n K a with
   | some t,some a=>some (.loop t a)
   | _,_=>Option.none
  | .For t i a els _=>match oj T K t,cE T fns n K i,cSs n K a with
   | some t,some i,some a=>some (.for t i a (!els.isEmpty))
   | _,_,_=>Option.none
  | .Return (some (.IfExp (.BoolOp .And [.Compare (.Attribute (.Name x _) m _) [.Eq,.Eq] [.Attribute (.Name y _) m' _,e] _,t] _) a b _)) _=>
    if m==Str.ofString "lineno" && m'==Str.ofString "lineno" && iQ K x&&iQ K y then(match T.findIdx? (· == x),T.findIdx? (· == y),cE T fns n K e,cE T fns n K t,cE T fns n K a,cE T fns n K b with
    | some i,some j,some e,some t,some a,some b=>some (.retLines i j e t a b)
    | _,_,_,_,_,_=>Option.none)else Option.none
  | .Return (some e) _=>match cE T fns n K e with
   | some a=>some (.ret a)
   | Option.none=>Option.none
  | _=>Option.none
where
 cSs:Nat→Kd→List Stmt→Option (List Y)
  | _,_,[]=>some []
  | 0,_,_=>Option.none
  | n+1,K,e::es=>match cS n K e,cSs n K es with
   | some a,some l=>some (a::l)
   | _,_=>Option.none
end
section
variable(T fns:List Str)
inductive TG:Kd→Expr→dA→Prop
 | one {K:Kd} {x:Str} {p:Pos} {i:Nat}:cK K x=true→T[i]?=some x→TG K (.Name x p) (.one i)
 | two {K:Kd} {x y:Str} {p q r:Pos} {k i j:Nat}:cK K x=true→cK K y=true→T[i]?=some x→T[j]?=some y→i≠j→TG K (.Tuple [.Name x p,.Name y q] k r) (.two i j)
mutual
inductive CE:Kd→Expr→X→Prop
 | none {K:Kd} {k:Nat} {p:Pos}:CE K (.Constant .none k p) (.const .none)
 | bool {K:Kd} {b:Bool} {k:Nat} {p:Pos}:CE K (.Constant (.bool b) k p) (.const (.bool b))
 | int {K:Kd} {i:Int} {k:Nat} {p:Pos}:CE K (.Constant (.int i) k p) (.const (.int true i))
 | str {K:Kd} {x:Str} {k:Nat} {p:Pos}:CE K (.Constant (.str x) k p) (.const (.str true x))
 | var {K:Kd} {x:Str} {p:Pos} {i:Nat}:iQ K x=true→T[i]?=some x→CE K (.Name x p) (.var i)
 | bin {K:Kd} {l r:Expr} {o:Op} {p:Pos} {a b:X}:CE K l a→CE K r b→CE K (.BinOp l o.ast r p) (.bin o a b)
 | not {K:Kd} {e:Expr} {p:Pos} {a:X}:CE K e a→CE K (.UnaryOp .Not e p) (.not a)
 | neg {K:Kd} {e:Expr} {p:Pos} {a:X}:CE K e a→CE K (.UnaryOp .USub e p) (.neg a)
 | and {K:Kd} {x y:Expr} {p:Pos} {a b:X}:CE K x a→CE K y b→CE K (.BoolOp .And [x,y] p) (.and a b)
 | or {K:Kd} {x y:Expr} {p:Pos} {a b:X}:CE K x a→CE K y b→CE K (.BoolOp .Or [x,y] p) (.or a b)
 | isEq {K:Kd} {x y:Str} {p p1 p2 p3 p4 p5 p6:Pos} {a b:X}:CE K (.Name x p1) a→CE K (.Name y p2) b→CE K (.Name x p4) a→CE K (.Name y p5) b→
   CE K (.BoolOp .Or [.Compare (.Name x p1) [.Is] [.Name y p2] p3,.Compare (.Name x p4) [.Eq] [.Name y p5] p6] p) (.isEq a b)
 | cmp {K:Kd} {l r:Expr} {o:Cm} {p:Pos} {a b:X}:CE K l a→CE K r b→CE K (.Compare l [o.ast] [r] p) (.cmp o a b)
 | cmp2 {K:Kd} {l m r:Expr} {o o2:Cm} {p:Pos} {a b c:X}:CE K l a→CE K m b→CE K r c→CE K (.Compare l [o.ast,o2.ast] [m,r] p) (.cmp2 o o2 a b c)
 | ite {K:Kd} {t x y:Expr} {p:Pos} {a b c:X}:CE K t a→CE K x b→CE K y c→CE K (.IfExp t x y p) (.ite a b c)
 | slice {K:Kd} {v:Expr} {lo hi:Option Expr} {p q:Pos} {a:X} {b c:Option X}:CE K v a→CO K lo b→CO K hi c→CE K (.Subscript v (.Slice lo hi Option.none q) p) (.slice a b c)
 | sub {K:Kd} {v i:Expr} {p:Pos} {a b:X}:CE K v a→CE K i b→CE K (.Subscript v i p) (.sub a b)
 | list {K:Kd} {es:List Expr} {p:Pos} {l:List X}:CL K es l→CE K (.List es p) (.list l)
 | tup {K:Kd} {es:List Expr} {k:Nat} {p:Pos} {l:List X}:CL K es l→CE K (.Tuple es k p) (.tup l)
 | comp {K:Kd} {elt t i:Expr} {ifs:List Expr} {rest:List Comprehension} {sc:Scope} {p:Pos} {t':dA} {i' a:X} {ifs':List X} {gs:List (dA×X×List X)} :
   aW sc K=true→sE T sc ((t',i',ifs')::gs)=true→TG T sc.names t t'→CE K i i'→CL sc.names ifs ifs'→CG sc.names rest gs→CE sc.names elt a→CE K (.ListComp elt (⟨t,i,ifs,0⟩::rest) sc p) (.comp a ((t',i',ifs')::gs))
 | range {K:Kd} {p q:Pos} {e:Expr} {a:X}:lC K (Str.ofString "range")=true→CE K e a→CE K (.Call (.Name (Str.ofString "range") p) [e] [] q) (.range a)
 | enum {K:Kd} {p q:Pos} {e:Expr} {a:X}:lC K (Str.ofString "enumerate")=true→CE K e a→CE K (.Call (.Name (Str.ofString "enumerate") p) [e] [] q) (.enum a)
 | bi {K:Kd} {p q:Pos} {es:List Expr} {l:List X} {b:Bi}:lC K (Str.ofString b.id)=true→CL K es l→CE K (.Call (.Name (Str.ofString b.id) p) es [] q) (.bi b l)
 | call {K:Kd} {x:Str} {p q:Pos} {e:Expr} {es:List Expr} {l:List X} {f:Nat}:lC K x=true→fns[f]?=some x→CL K (e::es) l→CE K (.Call (.Name x p) (e::es) [] q) (.call f l)
inductive CO:Kd→Option Expr→Option X→Prop
 | none {K:Kd}:CO K Option.none Option.none
 | some {K:Kd} {e:Expr} {a:X}:CE K e a→CO K (some e) (some a)
inductive CL:Kd→List Expr→List X→Prop
 | nil {K:Kd}:CL K [] []
 | cons {K:Kd} {e:Expr} {a:X} {es:List Expr} {l:List X}:CE K e a→CL K es l→CL K (e::es) (a::l)
inductive CG:Kd→List Comprehension→List (dA×X×List X)→Prop
 | nil {K:Kd}:CG K [] []
 | cons {K:Kd} {t i:Expr} {ifs:List Expr} {rest:List Comprehension} {t':dA} {i':X} {ifs':List X} {gs:List (dA×X×List X)} :
   TG T K t t'→CE K i i'→CL K ifs ifs'→CG K rest gs→CG K (⟨t,i,ifs,0⟩::rest) ((t',i',ifs')::gs)
end
theorem bd{x:Str}{i:Nat}(h:T.findIdx? (· == x)=some i):T[i]?=some x:=by
 obtain⟨hi,hp,_⟩:=List.findIdx?_eq_some_iff_getElem.mp h
 rw[List.getElem?_eq_getElem hi,beq_iff_eq.mp hp]
theorem wH{o:Operator}{a:Op}(h:A2 o=some a):o=a.ast:=by
 cases o<;>simp only[A2]at h<;>cases h<;>rfl
theorem ma{o:CmpOp}{a:Cm}(h:wG o=some a):o=a.ast:=by
 cases o<;>simp only[wG]at h<;>cases h<;>rfl
theorem yK{x:Str}{b:Bi}(h:A1 x=some b):x=Str.ofString b.id:=by
 unfold A1 at h
 repeat (split at h;· (rename_i q;cases h;exact beq_iff_eq.mp q))
 cases h
theorem jL{K:Kd}{e:Expr}{t:dA}(h:oj T K e=some t):TG T K e t:=by
 unfold oj at h
 split at h
 ·split at h
  ·split at h
   ·cases h;rename_i q _ i r;exact .one q (bd T r)
   ·cases h
  ·cases h
 ·split at h
  ·split at h
   ·split at h
    ·cases h
    ·cases h;rename_i q _ _ i j r1 r2 ne
     rw[Bool.and_eq_true]at q
     exact .two q.1 q.2 (bd T r1) (bd T r2) ne
   ·cases h
  ·cases h
 ·cases h
theorem o6{a b c d:Expr}(h:kE a b c d=true):∃x p y q r s,a = .Name x p∧b = .Name y q∧c = .Name x r∧d = .Name y s:=by
 unfold kE at h
 split at h
 ·rw[Bool.and_eq_true]at h
  exact⟨_,_,_,_,_,_,rfl,rfl,by rw[beq_iff_eq.mp h.1],by rw[beq_iff_eq.mp h.2]⟩
 ·cases h
theorem qv{K:Kd}{x:Str}{p q:Pos}{a:X}(h:CE T fns K (.Name x p) a):CE T fns K (.Name x q) a:=by
 cases h with
 | var h1 h2=>exact .var h1 h2
theorem jc:∀n,(∀K e x,cE T fns n K e=some x→CE T fns K e x)∧(∀K e x,cE.cO T fns n K e=some x→CO T fns K e x)∧
  (∀K e x,cE.cL T fns n K e=some x→CL T fns K e x)∧(∀K e x,cE.cG T fns n K e=some x→CG T fns K e x):=by
 intro n
 induction n with
 | zero=>
  refine⟨λK e x h=>?_,λK e x h=>?_,λK e x h=>?_,λK e x h=>?_⟩
  ·simp[cE]at h
  ·cases e<;>simp[cE.cO]at h;subst h;exact .none
  ·cases e<;>simp[cE.cL]at h;subst h;exact .nil
  ·cases e<;>simp[cE.cG]at h;subst h;exact .nil
 | succ n ih=>
  obtain⟨iE,iO,iL,iG⟩:=ih
  refine⟨λK e x h=>?_,λK e x h=>?_,λK e x h=>?_,λK e x h=>?_⟩
  ·unfold cE at h
   split at h
   ·cases h;exact .none
   ·cases h;exact .bool
   ·cases h;exact .int
   ·cases h;exact .str
   ·split at h
    ·split at h
     ·cases h;rename_i q _ i r;exact .var q (bd T r)
     ·cases h
    ·cases h
   ·split at h
    ·cases h;rename_i q1 q2 q3;rw[wH q1];exact .bin (iE _ _ _ q2) (iE _ _ _ q3)
    ·cases h
   ·split at h
    ·cases h;rename_i q;exact .not (iE _ _ _ q)
    ·cases h
   ·split at h
    ·cases h;rename_i q;exact .neg (iE _ _ _ q)
    ·cases h
   ·split at h
    ·cases h;rename_i q1 q2;exact .and (iE _ _ _ q1) (iE _ _ _ q2)
    ·cases h
   ·split at h
    ·split at h
     ·rename_i hs
      split at h
      ·cases h;rename_i q1 q2
       obtain⟨x,p,y,q,r,s,rfl,rfl,rfl,rfl⟩:=o6 hs
       exact .isEq (iE _ _ _ q1) (iE _ _ _ q2) (qv T fns (iE _ _ _ q1)) (qv T fns (iE _ _ _ q2))
      ·cases h
     ·cases h
    ·split at h
     ·cases h;rename_i q1 q2;exact .or (iE _ _ _ q1) (iE _ _ _ q2)
     ·cases h
   ·split at h
    ·cases h;rename_i q1 q2 q3;rw[ma q1];exact .cmp (iE _ _ _ q2) (iE _ _ _ q3)
    ·cases h
   ·split at h
    ·cases h;rename_i q1 q2 q3 q4 q5;rw[ma q1,ma q2];exact .cmp2 (iE _ _ _ q3) (iE _ _ _ q4) (iE _ _ _ q5)
    ·cases h
   ·split at h
    ·cases h;rename_i q1 q2 q3;exact .ite (iE _ _ _ q1) (iE _ _ _ q2) (iE _ _ _ q3)
    ·cases h
   ·split at h
    ·cases h;rename_i q1 q2 q3;exact .slice (iE _ _ _ q1) (iO _ _ _ q2) (iO _ _ _ q3)
    ·cases h
   ·split at h
    ·cases h;rename_i q1 q2;exact .sub (iE _ _ _ q1) (iE _ _ _ q2)
    ·cases h
   ·split at h
    ·cases h;rename_i q1;exact .list (iL _ _ _ q1)
    ·cases h
   ·split at h
    ·cases h;rename_i q1;exact .tup (iL _ _ _ q1)
    ·cases h
   ·split at h
    ·rename_i hsc
     split at h
     ·split at h
      ·rename_i q1 q2 q3 q4 q5
       split at h
       ·cases h;rename_i hco
        exact .comp hsc hco (jL T q1) (iE _ _ _ q2) (iL _ _ _ q3) (iG _ _ _ q4) (iE _ _ _ q5)
       ·cases h
      ·cases h
     ·cases h
    ·cases h
   ·split at h
    ·rename_i hg
     split at h
     ·rename_i l hl
      have hL:=iL _ _ _ hl
      split at h
      ·rename_i hf
       have:=beq_iff_eq.mp hf
       subst this
       split at h
       ·cases h;cases hL with|cons h1 h2=>cases h2;exact .range hg h1
       ·cases h
      ·split at h
       ·rename_i hf
        have:=beq_iff_eq.mp hf
        subst this
        split at h
        ·cases h;cases hL with|cons h1 h2=>cases h2;exact .enum hg h1
        ·cases h
       ·split at h
        ·cases h;rename_i b hb
         have:=yK hb
         subst this
         exact .bi hg hL
        ·split at h
         ·split at h
          ·cases h
          ·cases h;rename_i q hne
           cases hL with
           | nil=>simp at hne
           | cons h1 h2=>exact .call hg (bd fns q) (.cons h1 h2)
         ·cases h
     ·cases h
    ·cases h
   ·cases h
  ·cases e with
   | none=>simp[cE.cO]at h;subst h;exact .none
   | some e=>
    simp only[cE.cO]at h
    split at h
    ·cases h;rename_i q;exact .some (iE _ _ _ q)
    ·cases h
  ·cases e with
   | nil=>simp[cE.cL]at h;subst h;exact .nil
   | cons e es=>
    simp only[cE.cL]at h
    split at h
    ·cases h;rename_i q1 q2;exact .cons (iE _ _ _ q1) (iL _ _ _ q2)
    ·cases h
  ·cases e with
   | nil=>simp[cE.cG]at h;subst h;exact .nil
   | cons g es=>
    obtain⟨t,i,ifs,a⟩:=g
    by_cases ha:a=0
    ·subst ha
     simp only[cE.cG]at h
     split at h
     ·cases h;rename_i q1 q2 q3 q4
      exact .cons (jL T q1) (iE _ _ _ q2) (iL _ _ _ q3) (iG _ _ _ q4)
     ·cases h
    ·unfold cE.cG at h
     split at h<;>simp_all
end
def Fd(C:Cx)(A:Around):Prop:=∃l,A.frames=some l∧∀env∈l,env.scope.kind ≠ .module∧∃L,env.frame=some L∧C.fa L
structure bB(C:Cx)(n:Nat)(A:Around):Prop where
 r:bl n A
 fr:6≤n→Fd C A
theorem bl.low{C:Cx}{n:Nat}{A:Around}(h:bl n A)(k:n≤5:=by decide):bB C n A:=⟨h,λq=>absurd (Nat.le_trans q k) (by decide)⟩
structure ay(C:Cx)(env:Env)(h:Heap)(m:Str→Option Value):Prop where
 kind:env.scope.kind = .function
 ns:∃ml,h.Ns env.locals ml∧∀x,env.kindOf x=some .local→ml x=m x
 nP:env.locals≠C.P
 cell:∀x,(env.kindOf x=some .cell∨env.kindOf x=some .free)→∃c,env.cells.lookup x=some c∧h.IsCell c (m x)∧c≠C.P
 glob:env.globals=mainGlobals
 bi:env.builtins=builtinsNs
theorem ay.ext{C:Cx}{env:Env}{h h':Heap}{m:Str→Option Value}(F:ay C env h m)(hs:Kp (· = C.P) h h'):ay C env h' m where
 kind:=F.kind
 ns:=let ⟨ml,h1,h2⟩:=F.ns;⟨ml,jH h1 hs F.nP,h2⟩
 nP:=F.nP
 cell:=λx hx=>let ⟨c,h1,h2,h3⟩:=F.cell x hx;⟨c,h1,cN h2 hs h3,h3⟩
 glob:=F.glob
 bi:=F.bi
structure Ag(K:Kd)(env:Env):Prop where
 v:∀x,iQ K x=true→env.kindOf x=some .local∨env.kindOf x=some .cell∨env.kindOf x=some .free
 g:∀x,lC K x=true→env.kindOf x=some .globalImplicit
 c:∀x,(K.lookup x=some .cell∨K.lookup x=some .free)→env.kindOf x=some .cell∨env.kindOf x=some .free
def bO(T:List Str)(S:Addr→Prop)(W:Wd)(m:Str→Option Value)(me:Me):Prop:=
 ∀i d,me.lookup i=some d→∃x v,T[i]?=some x∧m x=some v∧aN S W d v
structure bG(C:Cx)(T:List Str)(K:Kd)(S:Addr→Prop)(W:Wd)(env:Env)(m:Str→Option Value)(me:Me):Prop where
 fr:ay C env W.h m
 ag:Ag K env
 vars:bO T S W m me
theorem bG.le{C:Cx}{T:List Str}{K:Kd}{S:Addr→Prop}{W W':Wd}{env:Env}{m:Str→Option Value}{me:Me}(L:Le C W W')(hS:S C.P)(x:bG C T K S W env m me):bG C T K S W' env m me:=
 ⟨x.fr.ext L.ext,x.ag,λi d h=>let ⟨y,v,h1,h2,h3⟩:=x.vars i d h;⟨y,v,h1,h2,h3.le L hS⟩⟩
def SX(C:Cx)(S:Addr→Prop)(h:Heap):Prop:=S C.P∧∀a,S a→∃o,h.get? a=some o
theorem SX.ok{C:Cx}{S:Addr→Prop}{h:Heap}(x:SX C S h):Cs C S h.objs.size:=⟨x.1,λa ha=>let ⟨_,ho⟩:=x.2 a ha;Heap.lt_size ho⟩
theorem SX.le{C:Cx}(hC:C.Ok){S:Addr→Prop}{W W':Wd}{s':Shared}(x:SX C S W.h)(L:Le C W W')(a:At C W' s'):SX C S W'.h:=by
 refine⟨x.1,λb hb=>?_⟩
 by_cases e:b=C.P
 ·subst e
  obtain⟨o,ho⟩:=hC.Pin
  obtain⟨o',ho'⟩:=a.inv.old.there _ _ ho
  exact⟨o',by rw[a.h];exact ho'⟩
 ·obtain⟨o,ho⟩:=x.2 b hb
  exact L.ext.there e ho
def Cx.wi(C:Cx)(fa:Addr→Prop):Cx:={ C with fa:=fa }
def b8(C:Cx)(K:Nat)(a:Addr)(ds:List D)(d:D):Prop:=
 ∀fa A s W S vs E,bB (C.wi fa) K A→At (C.wi fa) W s→SX C S W.h→av S W ds vs→wpAny (model C.prog C.w) A (call (.ref a) vs) (be (C.wi fa) S W d) E s
structure Lk(C:Cx)(T fns:List Str)(F:Nat→List D→Option D)(R:Nat):Prop where
 ok:C.Ok
 fn:∀f ds d,F f ds=some d→∃x a o fd,fns[f]?=some x∧C.mg x=some (.ref a)∧a≠C.P∧C.base.get? a=some o∧o.data = .func fd∧b8 C R a ds d
 bi:∀b:Bi,C.mg (Str.ofString b.id)=none∧C.mb (Str.ofString b.id)=some (.builtin b.id)
 range:C.mg (Str.ofString "range")=none∧C.mb (Str.ofString "range")=some (.type "range")
 enum:C.mg (Str.ofString "enumerate")=none∧C.mb (Str.ofString "enumerate")=some (.type "enumerate")
 plain:∀x∈T,(x==("__debug__" : Str))=false∧(x==("__classdict__" : Str))=false
 plainF:∀x∈fns,(x==("__debug__" : Str))=false
section
variable{C:Cx}{T fns:List Str}{F:Nat→List D→Option D}{R:Nat}{K:Kd}{S:Addr→Prop}{W:Wd}{s:Shared}{env:Env}{m:Str→Option Value}{me:Me}{A:Around}{E:Value→Shared→Prop}
theorem be.trans{aj:Wd}{d:D}{v:Value}{s':Shared}(L:Le C W aj)(h:be C S aj d v s'):be C S W d v s':=
 let ⟨W',L',a,r⟩:=h;⟨W',L.trans L',a,r⟩
theorem be.then{aj:Wd}{d:D}{t:Sem Value}(L:Le C W aj){ae:Shared}{M:Model}(h:wpAny M A t (be C S aj d) E ae):wpAny M A t (be C S W d) E ae:=
 wpAny_mono h (λ_ _ q=>q.trans L) λ_ _ x=>x
theorem At.gns(hC:C.Ok)(a:At C W s):s.heap.Ns mainGlobals C.mg∧s.heap.Ns builtinsNs C.mb:=
 ⟨hC.g.extBut a.inv.ext hC.gP,hC.b.extBut a.inv.ext hC.bP⟩
theorem md{x:Str}{v:Value}{Q:Value→Shared→Prop}{M:Model}(hC:C.Ok)(a:At C W s)(x':bG C T K S W env m me)(hg:lC K x=true)(hv:C.mg x=some v)(h:Q v s):wpAny M A (loadName env x) Q E s:=by
 rw[loadName_read x'.fr.kind (x'.ag.g x hg)]
 exact Calls.loadGlobal_global (by rw[x'.fr.glob];exact(a.gns hC).1) hv h
theorem jM{x:Str}{v:Value}{Q:Value→Shared→Prop}{M:Model}(hC:C.Ok)(a:At C W s)(x':bG C T K S W env m me)(hg:lC K x=true)(hm:C.mg x=none)(hv:C.mb x=some v)(h:Q v s):wpAny M A (loadName env x) Q E s:=by
 rw[loadName_read x'.fr.kind (x'.ag.g x hg)]
 exact Calls.loadGlobal_builtin (by rw[x'.fr.glob];exact(a.gns hC).1) hm (by rw[x'.fr.bi];exact(a.gns hC).2) hv h
theorem bj{x:Str}{v:Value}{Q:Value→Shared→Prop}{M:Model}(hW:W.h=s.heap)(f:ay C env W.h m)(hk:env.kindOf x=some .local∨env.kindOf x=some .cell∨env.kindOf x=some .free)(hn:(x==("__classdict__" : Str))=false) (hv:m x=some v) (h:Q v s):wpAny M A (loadName env x) Q E s:=by
 rcases hk with hk|hk|hk
 ·obtain⟨ml,h1,h2⟩:=f.ns
  rw[hW]at h1
  exact wpAny_loadName_local f.kind hk h1 ((h2 x hk).trans hv) h
 ·obtain⟨c,h1,h2,h3⟩:=f.cell x (.inl hk)
  rw[hW,hv]at h2
  exact wpAny_loadName_cell f.kind hk h1 h2 h
 ·obtain⟨c,h1,h2,h3⟩:=f.cell x (.inr hk)
  rw[hW,hv]at h2
  exact wpAny_loadName_free f.kind hk h1 h2 h hn
theorem aH{K:Kd}{e:Expr}{x:X}(h:CE T fns K e x):oi e=true:=by cases h<;>rfl
theorem aA{e:Expr}{es:List Expr}(h:oi e=true):starEach (e::es) env=(false,eval e env)::starEach es env:=by
 cases e<;>first|rfl|(simp[oi]at h)
theorem fc{op:CmpOp}{e:Expr}(h:oi e=true):behindInMarks op e=false:=by
 cases e<;>first|rfl|(simp[oi]at h)
theorem eY{o o2:CmpOp}{a b:Expr}(h:oi b=true):lastMarks [o,o2] [a,b]=false:=by
 simp[lastMarks,fc h]
end
def SE(C:Cx)(T fns:List Str)(F:Nat→List D→Option D)(R n:Nat):Prop:=
 ∀K e x me d A s W S env m E,CE T fns K e x→ev F n x me=some d→bB C R A→At C W s→SX C S W.h→bG C T K S W env m me→
  wpAny (model C.prog C.w) A (eval e env) (be C S W d) E s
def ST(C:Cx)(T fns:List Str)(F:Nat→List D→Option D)(R n:Nat):Prop:=
 ∀K e x me d b A s W S env m E,CE T fns K e x→ev F n x me=some d→aC d=some b→bB C R A→At C W s→SX C S W.h→bG C T K S W env m me→
  wpAny (model C.prog C.w) A (isTrue e env (eval e env)) (f7 C W b) E s
section
variable{C:Cx}{T fns:List Str}{F:Nat→List D→Option D}{R n:Nat}{K:Kd}{S:Addr→Prop}{W:Wd}{s:Shared}{env:Env}{m:Str→Option Value}{me:Me}{A:Around}{E:Value→Shared→Prop}
theorem f7.trans{aj:Wd}{b b':Bool}{s':Shared}(L:Le C W aj)(h:f7 C aj b b' s'):f7 C W b b' s':=
 let ⟨e,W',L',a⟩:=h;⟨e,W',L.trans L',a⟩
theorem om{d:D}{b:Bool}{t:Sem Value}{M:Model}{prog:Program}{w:World}(hM:M=model prog w)(h:wpAny M A t (be C S W d) E s)(hb:aC d=some b):
  wpAny M A t (λv ae=>wpAny M A (truthy v) (f7 C W b) E ae) E s:=by
 subst hM
 exact wpAny_mono h (λv ae ⟨aj,L,aq,r⟩=>wpAny_mono (og aq d v b r hb) (λ_ _ q=>q.trans L) λ_ _ x=>x) λ_ _ x=>x
theorem fz(iE:SE C T fns F R n)(hC:C.Ok){l r:Expr}{a b:X}{d1 d2:D}(h1:CE T fns K l a)(h2:CE T fns K r b)(e1:ev F n a me=some d1)(e2:ev F n b me=some d2)
  (hR:bB C R A) (hA:At C W s) (hS:SX C S W.h) (hX:bG C T K S W env m me) {Q:Value→Value→Shared→Prop}
  (h:∀v1 v2 s' W',Le C W W'→At C W' s'→SX C S W'.h→aN S W' d1 v1→aN S W' d2 v2→Q v1 v2 s') :
  wpAny (model C.prog C.w) A (eval l env) (λv1 ae=>wpAny (model C.prog C.w) A (eval r env) (λv2 ak=>Q v1 v2 ak) E ae) E s:=
 wpAny_mono (iE K l a me d1 A s W S env m E h1 e1 hR hA hS hX) (λv1 ae ⟨aj,am,aq,bx⟩=>
  wpAny_mono (iE K r b me d2 A ae aj S env m E h2 e2 hR aq (hS.le hC am aq) (hX.le am hS.1)) (λv2 ak ⟨W₂,an,au,bE⟩=>
   h v1 v2 ak W₂ (am.trans an) au (hS.le hC (am.trans an) au) (bx.le an hS.1) bE) λ_ _ x=>x) λ_ _ x=>x
theorem gf(iE:SE C T fns F R n)(hC:C.Ok)(pos:Pos)(hR:bB C R A):∀(es:List Expr) (l:List X) (ds:List D) (s:Shared) (W:Wd) (Q:List Value→Shared→Prop),CL T fns K es l→bn (λy=>ev F n y me) l=some ds→At C W s→SX C S W.h→bG C T K S W env m me→
  (∀vs s' W',Le C W W'→At C W' s'→SX C S W'.h→av S W' ds vs→Q vs s')→wpAny (model C.prog C.w) A (spliced (backTo pos (starEach es env))) Q E s
 | [],_,ds,s,W,Q,h,e,hA,hS,hX,k=>by
  cases h;cases e
  exact Calls.spliced_nil (k [] s W (.refl ..) hA hS rfl)
 | e::es,_,ds,s,W,Q,h,q,hA,hS,hX,k=>by
  cases h with
  | cons h1 h2=>
   simp only[bn]at q
   split at q
   ·rename_i d hd
    split at q
    ·rename_i ds' hds
     cases q
     rw[aA (aH h1)]
     refine Calls.spliced_cons (wpAny_mono (iE K e _ me d A s W S env m E h1 hd hR hA hS hX) (λv ae ⟨aj,am,aq,bx⟩=>
      gf iE hC pos hR es _ ds' ae aj _ h2 hds aq (hS.le hC am aq) (hX.le am hS.1) λvs ak W₂ an au mh bE=>
       k (v::vs) ak W₂ (am.trans an) au mh ⟨v,vs,rfl,bx.le an hS.1,bE⟩) λ_ _ x=>x)
    ·cases q
   ·cases q
end
section
variable{C:Cx}{T fns:List Str}{F:Nat→List D→Option D}{R n:Nat}{K:Kd}{S:Addr→Prop}{W:Wd}{s:Shared}{env:Env}{m:Str→Option Value}{me:Me}{A:Around}{E:Value→Shared→Prop}
def Ac(C:Cx)(T fns:List Str)(F:Nat→List D→Option D)(R n:Nat):Prop:=
 ∀K e elt gens me ds A s W S env m E,CE T fns K e (.comp elt gens)→hU (ev F n) (gY (ev F n)) elt gens (bA (eX gens) me)=some ds→ds.length≤100000→bB C R A→At C W s→SX C S W.h→bG C T K S W env m me→
  wpAny (model C.prog C.w) A (eval e env) (be C S W (.list ds)) E s
theorem k7(a:At C W s)(hS:SX C S W.h){ds:List D}{vs:List Value}(r:av S W ds vs):
  be C S W (.list ds) (.ref s.heap.objs.size) { s with heap:=s.heap.push { cls:=.type "list",data:=.seq vs.toArray } }:=by
 obtain⟨a',L⟩:=a.keepW (bt _ { cls:=.type "list",data:=.seq vs.toArray }) (Nat.le_refl _)
 have hS':=(show SX C S s.heap by rw[←a.h];exact hS).ok
 exact⟨_,L,a',_,_,rfl,λq=>Nat.lt_irrefl _ (hS'.2 _ q),⟨_,Heap.get?_push_size _ rfl,rfl,_,rfl⟩,r.le L hS.1⟩
theorem sF(a:At C W s)(hS:SX C S W.h){ds:List D}{vs:List Value}(r:av S W ds vs):
  be C S W (.tup ds) (.ref s.heap.objs.size) { s with heap:=s.heap.push { cls:=.type "tuple",data:=.seq vs.toArray } }:=by
 obtain⟨a',L⟩:=a.keepW (bt _ { cls:=.type "tuple",data:=.seq vs.toArray }) (Nat.le_refl _)
 have hS':=(show SX C S s.heap by rw[←a.h];exact hS).ok
 exact⟨_,L,a',_,_,rfl,λq=>Nat.lt_irrefl _ (hS'.2 _ q),⟨_,Heap.get?_push_size _ rfl,rfl,_,rfl⟩,r.le L hS.1⟩
theorem oo(iE:SE C T fns F R n){lo:Option Expr}{b:Option X}{d:D}(e:(match b with|some l=>ev F n l me|Option.none=>some D.none)=some d)(h:CO T fns K lo b)
  (hR:bB C R A) (hA:At C W s) (hS:SX C S W.h) (hX:bG C T K S W env m me):wpAny (model C.prog C.w) A (evalPart lo env) (be C S W d) E s:=by
 cases h with
 | none=>cases e;exact wpAny_pure (be.same hA rfl)
 | some h=>exact iE K _ _ me d A s W S env m E h e hR hA hS hX
theorem jN{sl:Expr}(hn:oi sl=true)(o i:Value):subscripted sl false o i=operate [o,i] (getItem o i):=by
 cases sl<;>first|rfl|(simp[oi]at hn)
theorem jO{v:Value}{T':String}{id:String}(hT:s.TypeIs v T')(hl:typeLookup (.type T') "__getitem__" = pure (some (.builtin id))) {M:Model} {Q:Bool→Shared→Prop} (h:Q false s) :
  wpAny M A (getitemInPython v) Q E s:=by
 rw[getitemInPython_of_ne hT.not_modules]
 refine wpAny_bind (wpAny_specialOf hT hl ?_)
 first
  | exact wpAny_pure h
  | exact wpAny_bind (wpAny_pure h)
theorem Ad(a:At C W s){d:D}{v:Value}(r:aN S W d v)(hd:(∃g x,d = .str g x)∨(∃l,d = .list l)∨(∃l,d = .tup l)):∃T' id,s.TypeIs v T'∧typeLookup (.type T') "__getitem__" = pure (some (.builtin id)):=by
 rcases hd with⟨g,x,rfl⟩|⟨l,rfl⟩|⟨l,rfl⟩
 ·obtain⟨t,rfl,_⟩:=r
  exact⟨"str",_,typeIs_str s x t,slot_str_getitem.lookup⟩
 ·obtain⟨b,its,rfl,_,h,_⟩:=r
  rw[a.h]at h
  exact⟨"list",_,h.typeIs,slot_list_getitem.lookup⟩
 ·obtain⟨b,its,rfl,_,h,_⟩:=r
  rw[a.h]at h
  obtain⟨o,ho,hc,_⟩:=h
  exact⟨"tuple",_,⟨o,ho,hc⟩,slot_tuple_getitem.lookup⟩
theorem wI(a:At C W s){sl:Expr}(hn:oi sl=true){d1 d2 d:D}{v1 v2:Value}(r1:aN S W d1 v1)(r2:aN S W d2 v2)(e:ft d1 d2=some d){base:Expr}:
  wpAny (model C.prog C.w) A (do
   let r←subscripted sl (←getitemInPython v1) v1 v2
   letTemporaryGo base v1 r
   pure r) (be C S W d) E s:=by
 have hd:(∃g x,d1 = .str g x)∨(∃l,d1 = .list l)∨(∃l,d1 = .tup l):=by
  cases d1<;>first|(cases d2<;>simp[ft]at e;done)|exact .inl ⟨_,_,rfl⟩|exact .inr (.inl ⟨_,rfl⟩)|exact .inr (.inr ⟨_,rfl⟩)
 obtain⟨T',id,hT,hl⟩:=Ad a r1 hd
 refine wpAny_bind (jO hT hl ?_)
 rw[jN hn]
 exact wpAny_bind (wpAny_operating (wpAny_mono (AZ a d1 d2 d v1 v2 r1 r2 e) (λr ae aX=>wpAny_bind (wpAny_letTemporaryGo (wpAny_pure aX))) λ_ _ x=>x))
theorem sG(a:At C W s)(hS:SX C S W.h){lo hi:Option Expr}{q:Pos}{d1 d2 d3 d:D}{v1 v2 v3:Value}{sl:Addr}(r1:aN S W d1 v1)(r2:aN S W d2 v2)(r3:aN S W d3 v3)(hsl:s.heap.IsSliceOf sl v2 v3 .none)(e:dC d1 d2 d3=some d){base:Expr}:
  wpAny (model C.prog C.w) A (do
   let r←subscripted (.Slice lo hi Option.none q) (←getitemInPython v1) v1 (.ref sl)
   letTemporaryGo base v1 r
   pure r) (be C S W d) E s:=by
 have hd:(∃g x,d1 = .str g x)∨(∃l,d1 = .list l)∨(∃l,d1 = .tup l):=by
  cases d1<;>first|(simp[dC]at e;done)|exact .inr (.inl ⟨_,rfl⟩)|exact .inl ⟨_,_,rfl⟩
 obtain⟨T',id,hT,hl⟩:=Ad a r1 hd
 refine wpAny_bind (jO hT hl ?_)
 have e2:∀b,subscripted (.Slice lo hi Option.none q) b v1 (.ref sl)=operate [.ref sl,v1] (getItem v1 (.ref sl)):=λb=>by cases b<;>rfl
 rw[e2]
 have hS':Cs C S s.heap.objs.size:=by rw[←a.h];exact hS.ok
 exact wpAny_bind (wpAny_operating (wpAny_mono (wE a hS' d1 d2 d3 d v1 v2 v3 sl r1 r2 r3 hsl e) (λr ae aX=>wpAny_bind (wpAny_letTemporaryGo (wpAny_pure aX))) λ_ _ x=>x))
theorem fg(iE:SE C T fns F R n)(hC:C.Ok){M:Model}(hM:M=model C.prog C.w){pos:Pos}{f:Value}(hR:bB C R A){e:Expr}{es:List Expr}{l:List X}{ds:List D}(h:CL T fns K (e::es) l)(q:bn (λy=>ev F n y me) l=some ds)
  (hA:At C W s) (hS:SX C S W.h) (hX:bG C T K S W env m me) {Q:Args→Shared→Prop} (k:∀vs s' W',Le C W W'→At C W' s'→SX C S W'.h→av S W' ds vs→Q ⟨vs,[]⟩ s') :
  wpAny M A (evalArgs f true (backTo pos (starEach (e::es) env)) []) Q E s:=by
 subst hM
 have h1:=gf (E:=E) iE hC pos hR (e::es) l ds s W (λvs s'=>Q ⟨vs,[]⟩ s') h q hA hS hX k
 cases h with
 | cons he _=>
  rw[aA (aH he)]at h1 ⊢
  exact Calls.evalArgs_plain h1
theorem jP:∀{es:List Expr} {l:List X},CL T fns K es l→(backTo pos (starEach es env)).any (·.1)=false
 | [],_,_=>rfl
 | e::es,_,.cons h1 h2=>by
  rw[aA (aH h1)]
  show(false||(backTo pos (starEach es env)).any (·.1))=false
  rw[jP h2];rfl
theorem uf(hC:C.Ok)(a:At C W s){M:Model}{t:Tok}{Q:Bool→Shared→Prop}(h:Q false s):wpAny M A (sharingNotTold t) Q E s:=by
 obtain⟨mc,h1,_,h2⟩:=hC.st
 unfold sharingNotTold
 refine wpAny_bind (wpAny_nsGet (h1.extBut a.inv.ext hC.sP) ?_)
 rw[h2]
 exact wpAny_pure h
theorem mi(hC:C.Ok)(a:At C W s){M:Model}{eq:Bool}{t u:Tok}(ht:0<t)(hu:0<u)(hs:t=u→eq=true){Q:Bool→Shared→Prop}(h:∀b,(b=true→eq=true)→Q b s):
  wpAny M A (isSame.created eq t u) Q E s:=by
 have e1:(t==0||u==0)=false:=by
  have h1:(t==0)=false:=beq_eq_false_iff_ne.mpr (Nat.ne_of_gt ht)
  have h2:(u==0)=false:=beq_eq_false_iff_ne.mpr (Nat.ne_of_gt hu)
  rw[h1,h2];rfl
 unfold isSame.created
 rw[e1]
 have fin:wpAny M A (do
   if←sharingNotTold t then unsupported "is:whether-what-a-reader-has-made-is-one-object-with-an-equal-value-is-not-told"
   if←sharingNotTold u then unsupported "is:whether-what-a-reader-has-made-is-one-object-with-an-equal-value-is-not-told"
   rule "is.world.by-value"
   let w:=(←ask).params
   return w.mergeTok t==w.mergeTok u:Sem Bool) (λb s'=>s'=s) E s:=by
  refine wpAny_bind (uf hC a ?_)
  refine wpAny_bind (uf hC a ?_)
  refine wpAny_bind (wpAny_rule ?_)
  exact wpAny_bind (wpAny_askSetting (wpAny_pure rfl))
 by_cases htu:t=u
 ·have e2:(t==u)=true:=beq_iff_eq.mpr htu
  simp only[e2,if_true,Bool.false_eq_true,if_false]
  exact wpAny_pure (h true λ_=>hs htu)
 ·have e2:(t==u)=false:=beq_eq_false_iff_ne.mpr htu
  simp only[e2,Bool.false_eq_true,if_false]
  cases eq with
  | false=>exact wpAny_pure (h false λq=>by cases q)
  | true=>
   simp only[Bool.not_true,Bool.false_eq_true,if_false]
   exact wpAny_mono fin (λb s' e=>by subst e;exact h b λ_=>rfl) λ_ _ x=>x
theorem ug(hC:C.Ok)(a:At C W s){d1 d2:D}{v1 v2:Value}{x:Bool}(r1:aN S W d1 v1)(r2:aN S W d2 v2)(e:jJ d1 d2=some (.bool x)){M:Model}{Q:Bool→Shared→Prop}(h:∀b,(b=true→x=true)→Q b s):
  wpAny M A (isSame v1 v2) Q E s:=by
 unfold jJ at e
 split at e
 ·rename_i i j
  cases e
  obtain⟨t,rfl,g1⟩:=r1;obtain⟨u,rfl,g2⟩:=r2
  obtain⟨p1,_,p3⟩:=g1 rfl;obtain⟨q1,_,q3⟩:=g2 rfl
  have hs:t=u→(i==j)=true:=λq=>by
   subst q;rw[p3]at q3;cases q3;simp
  unfold isSame
  dsimp only
  split
  ·rename_i hij
   have hij':(i==j)=true:=by rw[Bool.and_eq_true]at hij;exact hij.1
   unfold isSame.cachedInt
   have e1:(t==0||u==0)=false:=by
    have h1:(t==0)=false:=beq_eq_false_iff_ne.mpr (Nat.ne_of_gt p1)
    have h2:(u==0)=false:=beq_eq_false_iff_ne.mpr (Nat.ne_of_gt q1)
    rw[h1,h2];rfl
   rw[e1]
   exact wpAny_bind (wpAny_rule (wpAny_pure (h true λ_=>hij')))
  ·exact mi hC a p1 q1 hs h
 ·rename_i i j
  cases e
  obtain⟨t,rfl,g1⟩:=r1;obtain⟨u,rfl,g2⟩:=r2
  obtain⟨p1,_,p3⟩:=g1 rfl;obtain⟨q1,_,q3⟩:=g2 rfl
  have hs:t=u→(i==j)=true:=λq=>by
   subst q;rw[p3]at q3;cases q3;simp
  exact mi hC a p1 q1 hs h
 ·cases e
theorem qw{d1 d2 d:D}(e:jJ d1 d2=some d):∃x,d = .bool x∧a9 .eq d1 d2=some x:=by
 unfold jJ at e
 split at e
 ·cases e;exact⟨_,rfl,rfl⟩
 ·cases e;exact⟨_,rfl,rfl⟩
 ·cases e
theorem yL(hL:Lk C T fns F R)(iE:SE C T fns F R n)(iT:ST C T fns F R n)(iC:Ac C T fns F R n):SE C T fns F R (n+1):=by
 intro K e x me d A s W S env m E h q hR hA hS hX
 have hC:=hL.ok
 cases h with
 | none=>cases q;exact wpAny_Constant_none (be.same hA rfl)
 | bool=>cases q;exact wpAny_Constant_bool (be.same hA rfl)
 | int=>cases q;exact wpAny_Constant_int (be.int hA (Nat.le_refl _) (a8 _) (Nat.lt_succ_self _) _)
 | str=>cases q;exact wpAny_Constant_str (be.str hA (Nat.le_refl _) (a8 _) (Nat.lt_succ_self _) _)
 | var h1 h2=>
  obtain⟨y,v,e1,e2,r⟩:=hX.vars _ _ (show me.lookup _=some d from q)
  rw[h2]at e1;cases e1
  have hp:=hL.plain _ (List.mem_of_getElem? h2)
  exact wpAny_Name (bj hA.h hX.fr (hX.ag.v _ h1) hp.2 e2 (be.same hA r)) hp.1
 | bin h1 h2=>
  simp only[ev]at q
  split at q
  ·rename_i d1 d2 e1 e2
   exact wpAny_BinOp (fz iE hC h1 h2 e1 e2 hR hA hS hX λv1 v2 s' W' L a' S' r1 r2=>be.then L (AV hR.r a' _ d1 d2 d v1 v2 r1 r2 (by rw[←a'.h];exact S'.ok) q))
  ·cases q
 | not h1=>
  simp only[ev]at q
  split at q
  ·rename_i d1 e1
   split at q
   ·rename_i b hb
    cases q
    refine wpAny_UnaryOp (wpAny_mono (om rfl (iE K _ _ me d1 A s W S env m E h1 e1 hR hA hS hX) hb) (λv ae aX=>not_of (wpAny_mono aX (λc ak aw=>?_) λ_ _ x=>x)) λ_ _ x=>x)
    obtain⟨rfl,W₂,an,au⟩:=aw
    exact⟨W₂,an,au,rfl⟩
   ·cases q
  ·cases q
 | neg h1=>
  simp only[ev]at q
  split at q
  ·rename_i g i e1
   cases q
   refine wpAny_UnaryOp (wpAny_mono (iE K _ _ me _ A s W S env m E h1 e1 hR hA hS hX) (λv ae aX=>?_) λ_ _ x=>x)
   obtain⟨aj,am,aq,t,rfl,_⟩:=aX
   exact neg_int ((be.int aq (Nat.le_refl _) (a8 _) (Nat.lt_succ_self _) _).trans am)
  ·cases q
 | and h1 h2=>
  simp only[ev]at q
  split at q
  ·rename_i d1 e1
   refine wpAny_And2 (wpAny_mono (iE K _ _ me d1 A s W S env m E h1 e1 hR hA hS hX) (λv ae aX=>?_) λ_ _ x=>x)
   obtain⟨aj,am,aq,bx⟩:=aX
   split at q
   ·rename_i hb
    refine wpAny_mono (og aq d1 v true bx hb) (λc ak aw=>?_) λ_ _ x=>x
    obtain⟨rfl,W₂,an,au⟩:=aw
    rw[if_pos rfl]
    exact be.then (am.trans an) (iE K _ _ me d A ak W₂ S env m E h2 q hR au (hS.le hC (am.trans an) au) (hX.le (am.trans an) hS.1))
   ·rename_i hb
    have eq:=Option.some.inj q
    subst eq
    refine wpAny_mono (og aq d1 v false bx hb) (λc ak aw=>?_) λ_ _ x=>x
    obtain⟨rfl,W₂,an,au⟩:=aw
    exact⟨W₂,am.trans an,au,bx.le an hS.1⟩
   ·cases q
  ·cases q
 | or h1 h2=>
  simp only[ev]at q
  split at q
  ·rename_i d1 e1
   refine wpAny_Or2 (wpAny_mono (iE K _ _ me d1 A s W S env m E h1 e1 hR hA hS hX) (λv ae aX=>?_) λ_ _ x=>x)
   obtain⟨aj,am,aq,bx⟩:=aX
   split at q
   ·rename_i hb
    have eq:=Option.some.inj q
    subst eq
    refine wpAny_mono (og aq d1 v true bx hb) (λc ak aw=>?_) λ_ _ x=>x
    obtain⟨rfl,W₂,an,au⟩:=aw
    exact⟨W₂,am.trans an,au,bx.le an hS.1⟩
   ·rename_i hb
    refine wpAny_mono (og aq d1 v false bx hb) (λc ak aw=>?_) λ_ _ x=>x
    obtain⟨rfl,W₂,an,au⟩:=aw
    rw[if_neg (by decide)]
    exact be.then (am.trans an) (iE K _ _ me d A ak W₂ S env m E h2 q hR au (hS.le hC (am.trans an) au) (hX.le (am.trans an) hS.1))
   ·cases q
  ·cases q
 | isEq h1 h2 h3 h4=>
  simp only[ev]at q
  split at q
  ·rename_i d1 d2 e1 e2
   obtain⟨b,rfl,hb⟩:=qw q
   refine wpAny_Or2 (wpAny_Compare1 (fz iE hC h1 h2 e1 e2 hR hA hS hX λv1 v2 s' W' L a' S' r1 r2=>?_) (by rfl))
   refine wpAny_bind (ug hC a' r1 r2 q λc hc=>wpAny_pure (wpAny_truthy_bool ?_))
   cases c with
   | true=>
    rw[if_pos rfl,hc rfl]
    exact⟨W',L,a',rfl⟩
   | false=>
    rw[if_neg (by decide)]
    refine wpAny_Compare1 (fz iE hC h3 h4 e1 e2 hR a' S' (hX.le L hS.1) λv1 v2 ak W₂ an au mh r1 r2=>wpAny_mono (dj hR.r au .eq d1 d2 v1 v2 b r1 r2 hb) (λv bF gI=>?_) λ_ _ x=>x) (by rfl)
    obtain⟨rfl,rfl⟩:=gI
    exact⟨W₂,L.trans an,au,rfl⟩
  ·cases q
 | cmp h1 h2=>
  simp only[ev]at q
  split at q
  ·rename_i d1 d2 e1 e2
   split at q
   ·rename_i b hb
    cases q
    refine wpAny_Compare1 (fz iE hC h1 h2 e1 e2 hR hA hS hX λv1 v2 s' W' L a' S' r1 r2=>wpAny_mono (dj hR.r a' _ d1 d2 v1 v2 b r1 r2 hb) (λv ak aw=>?_) λ_ _ x=>x) (fc (aH h2))
    obtain⟨rfl,rfl⟩:=aw
    exact⟨W',L,a',rfl⟩
   ·cases q
  ·cases q
 | cmp2 h1 h2 h3=>
  simp only[ev]at q
  split at q
  ·rename_i d1 d2 e1 e2
   refine Compare_chain ?_ (eY (aH h3))
   refine wpAny_mono (iE K _ _ me d1 A s W S env m E h1 e1 hR hA hS hX) (λv1 ae ⟨aj,am,aq,bx⟩=>?_) λ_ _ x=>x
   refine chain_link (wpAny_mono (iE K _ _ me d2 A ae aj S env m E h2 e2 hR aq (hS.le hC am aq) (hX.le am hS.1)) (λv2 ak ⟨W₂,an,au,bE⟩=>?_) λ_ _ x=>x)
   have fN:=am.trans an
   split at q
   ·rename_i hb
    refine wpAny_mono (dj hR.r au _ d1 d2 v1 v2 true (bx.le an hS.1) bE hb) (λv bF gI=>?_) λ_ _ x=>x
    obtain⟨rfl,rfl⟩:=gI
    refine wpAny_truthy_bool ?_
    rw[if_pos rfl]
    split at q
    ·rename_i d3 e3
     split at q
     ·rename_i b hb2
      cases q
      refine chain_last (wpAny_mono (iE K _ _ me d3 A bF W₂ S env m E h3 e3 hR au (hS.le hC fN au) (hX.le fN hS.1)) (λv3 cq ⟨bf,aD,aO,gJ⟩=>?_) λ_ _ x=>x)
      refine wpAny_mono (dj hR.r aO _ d2 d3 v2 v3 b (bE.le aD hS.1) gJ hb2) (λv cu jp=>?_) λ_ _ x=>x
      obtain⟨rfl,rfl⟩:=jp
      exact⟨bf,fN.trans aD,aO,rfl⟩
     ·cases q
    ·cases q
   ·rename_i hb
    cases q
    refine wpAny_mono (dj hR.r au _ d1 d2 v1 v2 false (bx.le an hS.1) bE hb) (λv bF gI=>?_) λ_ _ x=>x
    obtain⟨rfl,rfl⟩:=gI
    exact wpAny_truthy_bool ⟨W₂,fN,au,rfl⟩
   ·cases q
  ·cases q
 | ite h1 h2 h3=>
  simp only[ev]at q
  split at q
  ·rename_i d1 e1
   split at q
   ·rename_i hb
    refine wpAny_IfExp (wpAny_mono (iT K _ _ me d1 true A s W S env m E h1 e1 hb hR hA hS hX) (λc ak aw=>?_) λ_ _ x=>x)
    obtain⟨rfl,W₂,an,au⟩:=aw
    rw[if_pos rfl]
    exact be.then an (iE K _ _ me d A ak W₂ S env m E h2 q hR au (hS.le hC an au) (hX.le an hS.1))
   ·rename_i hb
    refine wpAny_IfExp (wpAny_mono (iT K _ _ me d1 false A s W S env m E h1 e1 hb hR hA hS hX) (λc ak aw=>?_) λ_ _ x=>x)
    obtain⟨rfl,W₂,an,au⟩:=aw
    rw[if_neg (by decide)]
    exact be.then an (iE K _ _ me d A ak W₂ S env m E h3 q hR au (hS.le hC an au) (hX.le an hS.1))
   ·cases q
  ·cases q
 | slice h1 h2 h3=>
  simp only[ev]at q
  split at q
  ·rename_i d1 d2 d3 e1 e2 e3
   rw[eval_Subscript]
   refine wpAny_bind (wpAny_mono (iE K _ _ me d1 A s W S env m E h1 e1 hR hA hS hX) (λv1 ae ⟨aj,am,aq,bx⟩=>wpAny_bind (wpAny_holding (wpAny_Slice ?_))) λ_ _ x=>x)
   refine wpAny_mono (oo iE e2 h2 hR aq (hS.le hC am aq) (hX.le am hS.1)) (λv2 ak ⟨W₂,an,au,bE⟩=>?_) λ_ _ x=>x
   have fN:=am.trans an
   refine wpAny_mono (oo iE e3 h3 hR au (hS.le hC fN au) (hX.le fN hS.1)) (λv3 bF ⟨bf,aD,aO,gJ⟩=>?_) λ_ _ x=>x
   refine wpAny_pure (wpAny_bind (wpAny_standAt ?_))
   obtain⟨bH,aU⟩:=aO.keepW (bt _ { cls:=.type "slice",data:=.fields #[v2,v3,.none] }) (Nat.le_refl _)
   have Ae:=fN.trans (aD.trans aU)
   exact be.then Ae (sG bH (hS.le hC Ae bH) (bx.le (an.trans (aD.trans aU)) hS.1) (bE.le (aD.trans aU) hS.1) (gJ.le aU hS.1) (Heap.IsSliceOf.new ..) q)
  ·cases q
 | sub h1 h2=>
  simp only[ev]at q
  split at q
  ·rename_i d1 d2 e1 e2
   rw[eval_Subscript]
   refine wpAny_bind (wpAny_mono (iE K _ _ me d1 A s W S env m E h1 e1 hR hA hS hX) (λv1 ae ⟨aj,am,aq,bx⟩=>wpAny_bind (wpAny_holding ?_)) λ_ _ x=>x)
   refine wpAny_mono (iE K _ _ me d2 A ae aj S env m E h2 e2 hR aq (hS.le hC am aq) (hX.le am hS.1)) (λv2 ak ⟨W₂,an,au,bE⟩=>wpAny_bind (wpAny_standAt ?_)) λ_ _ x=>x
   exact be.then (am.trans an) (wI au (aH h2) (bx.le an hS.1) bE q)
  ·cases q
 | list h1=>
  simp only[ev]at q
  split at q
  ·rename_i ds hds
   split at q
   ·rename_i hl
    cases q
    refine wpAny_List (gf iE hC _ hR _ _ ds s W _ h1 hds hA hS hX λvs s' W' L a' S' r=>⟨?_,(k7 a' S' r).trans L⟩)
    rw[sizeLine_eq,r.length];omega
   ·cases q
  ·cases q
 | tup h1=>
  simp only[ev]at q
  split at q
  ·rename_i ds hds
   split at q
   ·rename_i hl
    cases q
    refine wpAny_Tuple (gf iE hC _ hR _ _ ds s W _ h1 hds hA hS hX λvs s' W' L a' S' r=>⟨?_,(sF a' S' r).trans L⟩)
    rw[sizeLine_eq,r.length];omega
   ·cases q
  ·cases q
 | comp h0 h0' h1 h2 h3 h4 h5=>
  simp only[ev]at q
  split at q
  ·rename_i ds hds
   split at q
   ·rename_i hl
    cases q
    exact iC K _ _ _ me ds A s W S env m E (.comp h0 h0' h1 h2 h3 h4 h5) hds hl hR hA hS hX
   ·cases q
  ·cases q
 | range=>cases q
 | enum=>cases q
 | bi h1 h2=>
  rename_i es l b
  simp only[ev]at q
  split at q
  ·rename_i ds hds
   cases es with
   | nil=>cases h2;cases hds;cases b<;>cases q
   | cons e es=>
    refine wpAny_Call_NameR (wpAny_Name (jM hC hA hX h1 (hL.bi b).1 (hL.bi b).2 ?_) (by cases b<;>decide))
    refine Calls.callWith_builtin (jP h2) (fg iE hC rfl hR h2 hds hA hS hX λvs s' W' L a' S' r=>?_)
    exact be.then L (Cw hR.r a' (by rw[←a'.h];exact S'.ok) b ds d vs r q)
  ·cases q
 | call h1 h2 h3=>
  simp only[ev]at q
  split at q
  ·rename_i ds hds
   obtain⟨x,a,o,fd,e1,e2,e3,e4,e5,ok⟩:=hL.fn _ _ _ q
   rw[h2]at e1;cases e1
   refine wpAny_Call_NameR (wpAny_Name (md hC hA hX h1 e2 ?_) (hL.plainF _ (List.mem_of_getElem? h2)))
   refine Calls.callWith_function (o:=o) (fd:=fd) (fg iE hC rfl hR h3 hds hA hS hX λvs s' W' L a' S' r=>⟨⟨a'.inv.ext _ _ e3 e4,e5⟩,?_⟩)
   exact be.then L (ok C.fa A s' W' S vs E hR a' S' r)
  ·cases q
end
section
variable{C:Cx}{T fns:List Str}{F:Nat→List D→Option D}{R n:Nat}{K:Kd}{S:Addr→Prop}{W:Wd}{s:Shared}{env:Env}{m:Str→Option Value}{me:Me}{A:Around}{E:Value→Shared→Prop}
theorem bL{M:Model}{op:BoolOp}{x:Expr}{rest:List Expr}{Q:Bool→Shared→Prop}(h:wpAny M A (isTrue x env (eval x env)) (λb ae=>match op,b with
   | .And,false=>Q false ae
   | .Or,true=>Q true ae
   | _,_=>wpAny M A (allTrue op rest env) Q E ae) E s):wpAny M A (allTrue op (x::rest) env) Q E s:=by
 unfold allTrue
 refine wpAny_bind (wpAny_mono h (λb ae aX=>?_) λ_ _ x=>x)
 cases op<;>cases b<;>first|exact wpAny_pure aX|exact aX
theorem yM(hL:Lk C T fns F R)(iE:SE C T fns F R n)(iT:ST C T fns F R n)(iE':SE C T fns F R (n+1)):ST C T fns F R (n+1):=by
 intro K e x me d b A s W S env m E h q hb hR hA hS hX
 have hC:=hL.ok
 have plain:(isTrue e env (eval e env)=do let v←eval e env;standAt e.pos;holding [v] (truthy v))→wpAny (model C.prog C.w) A (isTrue e env (eval e env)) (f7 C W b) E s:=λh0=>
  wpAny_isTrue_value (om rfl (iE' K e x me d A s W S env m E h q hR hA hS hX) hb) h0
 cases h with
 | none=>exact plain rfl
 | bool=>exact plain rfl
 | int=>exact plain rfl
 | str=>exact plain rfl
 | var=>exact plain rfl
 | bin=>exact plain rfl
 | neg=>exact plain rfl
 | slice=>exact plain rfl
 | sub=>exact plain rfl
 | list=>exact plain rfl
 | tup=>exact plain rfl
 | comp=>exact plain rfl
 | range=>exact plain rfl
 | enum=>exact plain rfl
 | bi=>exact plain rfl
 | call=>exact plain rfl
 | not h1=>
  simp only[ev]at q
  split at q
  ·rename_i d1 e1
   split at q
   ·rename_i c hc
    cases q;cases hb
    refine wpAny_isTrue_Not (wpAny_mono (iT K _ _ me d1 c A s W S env m E h1 e1 hc hR hA hS hX) (λc' ae aX=>?_) λ_ _ x=>x)
    obtain⟨rfl,aj,am,aq⟩:=aX
    exact⟨rfl,aj,am,aq⟩
   ·cases q
  ·cases q
 | and h1 h2=>
  simp only[ev]at q
  split at q
  ·rename_i d1 e1
   refine wpAny_isTrue_BoolOp (bL ?_)
   split at q
   ·rename_i hc
    refine wpAny_mono (iT K _ _ me d1 true A s W S env m E h1 e1 hc hR hA hS hX) (λc' ae aX=>?_) λ_ _ x=>x
    obtain⟨rfl,aj,am,aq⟩:=aX
    refine bL (wpAny_mono (iT K _ _ me d b A ae aj S env m E h2 q hb hR aq (hS.le hC am aq) (hX.le am hS.1)) (λc' ak aw=>?_) λ_ _ x=>x)
    obtain⟨rfl,W₂,an,au⟩:=aw
    cases c' with
    | false=>exact⟨rfl,W₂,am.trans an,au⟩
    | true=>exact wpAny_pure ⟨rfl,W₂,am.trans an,au⟩
   ·rename_i hc
    have eq:=Option.some.inj q
    subst eq
    rw[hb]at hc;cases hc
    refine wpAny_mono (iT K _ _ me d1 false A s W S env m E h1 e1 hb hR hA hS hX) (λc' ae aX=>?_) λ_ _ x=>x
    obtain⟨rfl,aj,am,aq⟩:=aX
    exact⟨rfl,aj,am,aq⟩
   ·cases q
  ·cases q
 | or h1 h2=>
  simp only[ev]at q
  split at q
  ·rename_i d1 e1
   refine wpAny_isTrue_BoolOp (bL ?_)
   split at q
   ·rename_i hc
    have eq:=Option.some.inj q
    subst eq
    rw[hb]at hc;cases hc
    refine wpAny_mono (iT K _ _ me d1 true A s W S env m E h1 e1 hb hR hA hS hX) (λc' ae aX=>?_) λ_ _ x=>x
    obtain⟨rfl,aj,am,aq⟩:=aX
    exact⟨rfl,aj,am,aq⟩
   ·rename_i hc
    refine wpAny_mono (iT K _ _ me d1 false A s W S env m E h1 e1 hc hR hA hS hX) (λc' ae aX=>?_) λ_ _ x=>x
    obtain⟨rfl,aj,am,aq⟩:=aX
    refine bL (wpAny_mono (iT K _ _ me d b A ae aj S env m E h2 q hb hR aq (hS.le hC am aq) (hX.le am hS.1)) (λc' ak aw=>?_) λ_ _ x=>x)
    obtain⟨rfl,W₂,an,au⟩:=aw
    cases c' with
    | true=>exact⟨rfl,W₂,am.trans an,au⟩
    | false=>exact wpAny_pure ⟨rfl,W₂,am.trans an,au⟩
   ·cases q
  ·cases q
 | isEq h1 h2 h3 h4=>
  simp only[ev]at q
  split at q
  ·rename_i d1 d2 e1 e2
   obtain⟨c,rfl,hc⟩:=qw q
   cases hb
   refine wpAny_isTrue_BoolOp (bL (wpAny_isTrue_Compare1 (fz iE hC h1 h2 e1 e2 hR hA hS hX λv1 v2 s' W' L a' S' r1 r2=>?_) (by rfl)))
   refine wpAny_bind (ug hC a' r1 r2 q λc' hc'=>wpAny_pure (wpAny_truthy_bool ?_))
   cases c' with
   | true=>exact⟨(hc' rfl).symm,W',L,a'⟩
   | false=>
    refine bL (wpAny_isTrue_Compare1 (fz iE hC h3 h4 e1 e2 hR a' S' (hX.le L hS.1) λv1 v2 ak W₂ an au mh r1 r2=>wpAny_mono (dj hR.r au .eq d1 d2 v1 v2 b r1 r2 hc) (λv bF gI=>?_) λ_ _ x=>x) (by rfl))
    obtain⟨rfl,rfl⟩:=gI
    refine wpAny_truthy_bool ?_
    cases b with
    | true=>exact⟨rfl,W₂,L.trans an,au⟩
    | false=>exact wpAny_pure ⟨rfl,W₂,L.trans an,au⟩
  ·cases q
 | cmp h1 h2=>
  simp only[ev]at q
  split at q
  ·rename_i d1 d2 e1 e2
   split at q
   ·rename_i c hc
    cases q;cases hb
    refine wpAny_isTrue_Compare1 (fz iE hC h1 h2 e1 e2 hR hA hS hX λv1 v2 s' W' L a' S' r1 r2=>wpAny_mono (dj hR.r a' _ d1 d2 v1 v2 b r1 r2 hc) (λv ak aw=>?_) λ_ _ x=>x) (fc (aH h2))
    obtain⟨rfl,rfl⟩:=aw
    exact wpAny_truthy_bool ⟨rfl,W',L,a'⟩
   ·cases q
  ·cases q
 | cmp2 h1 h2 h3=>
  simp only[ev]at q
  split at q
  ·rename_i d1 d2 e1 e2
   refine isTrue_chain ?_ (eY (aH h3))
   refine wpAny_mono (iE K _ _ me d1 A s W S env m E h1 e1 hR hA hS hX) (λv1 ae ⟨aj,am,aq,bx⟩=>?_) λ_ _ x=>x
   show wpAny _ A (do
    let rv←holding [v1] (eval _ env)
    standAt _
    let c←holding [v1,rv] (compareOp _ v1 rv)
    release [v1,rv] [c]
    if←holding [c,rv] (truthy c)then testChain _ rv _ _ else pure false) _ E ae
   refine wpAny_bind (wpAny_holding (wpAny_mono (iE K _ _ me d2 A ae aj S env m E h2 e2 hR aq (hS.le hC am aq) (hX.le am hS.1)) (λv2 ak ⟨W₂,an,au,bE⟩=>wpAny_bind (wpAny_standAt (wpAny_bind (wpAny_holding ?_)))) λ_ _ x=>x))
   have fN:=am.trans an
   split at q
   ·rename_i hc
    refine wpAny_mono (dj hR.r au _ d1 d2 v1 v2 true (bx.le an hS.1) bE hc) (λv bF gI=>?_) λ_ _ x=>x
    obtain⟨rfl,rfl⟩:=gI
    refine wpAny_bind (wpAny_release' (wpAny_bind (wpAny_holding (wpAny_truthy_bool ?_))))
    split at q
    ·rename_i d3 e3
     split at q
     ·rename_i c2 hc2
      cases q;cases hb
      show wpAny _ A (do
       let rv←holding [v2] (eval _ env)
       standAt _
       let c←operate [v2,rv] (compareOp _ v2 rv)
       holding [c] (truthy c)) _ E bF
      refine wpAny_bind (wpAny_holding (wpAny_mono (iE K _ _ me d3 A bF W₂ S env m E h3 e3 hR au (hS.le hC fN au) (hX.le fN hS.1)) (λv3 cq ⟨bf,aD,aO,gJ⟩=>wpAny_bind (wpAny_standAt (wpAny_bind (wpAny_operating ?_)))) λ_ _ x=>x))
      refine wpAny_mono (dj hR.r aO _ d2 d3 v2 v3 b (bE.le aD hS.1) gJ hc2) (λv cu jp=>?_) λ_ _ x=>x
      obtain⟨rfl,rfl⟩:=jp
      exact wpAny_holding (wpAny_truthy_bool ⟨rfl,bf,fN.trans aD,aO⟩)
     ·cases q
    ·cases q
   ·rename_i hc
    cases q;cases hb
    refine wpAny_mono (dj hR.r au _ d1 d2 v1 v2 false (bx.le an hS.1) bE hc) (λv bF gI=>?_) λ_ _ x=>x
    obtain⟨rfl,rfl⟩:=gI
    refine wpAny_bind (wpAny_release' (wpAny_bind (wpAny_holding (wpAny_truthy_bool ?_))))
    exact wpAny_pure ⟨rfl,W₂,fN,au⟩
   ·cases q
  ·cases q
 | ite h1 h2 h3=>
  simp only[ev]at q
  split at q
  ·rename_i d1 e1
   split at q
   ·rename_i hc
    refine isTrue_IfExp (wpAny_mono (iT K _ _ me d1 true A s W S env m E h1 e1 hc hR hA hS hX) (λc ak aw=>?_) λ_ _ x=>x)
    obtain⟨rfl,W₂,an,au⟩:=aw
    rw[if_pos rfl]
    exact wpAny_mono (iT K _ _ me d b A ak W₂ S env m E h2 q hb hR au (hS.le hC an au) (hX.le an hS.1)) (λ_ _ h=>h.trans an) λ_ _ x=>x
   ·rename_i hc
    refine isTrue_IfExp (wpAny_mono (iT K _ _ me d1 false A s W S env m E h1 e1 hc hR hA hS hX) (λc ak aw=>?_) λ_ _ x=>x)
    obtain⟨rfl,W₂,an,au⟩:=aw
    rw[if_neg (by decide)]
    exact wpAny_mono (iT K _ _ me d b A ak W₂ S env m E h3 q hb hR au (hS.le hC an au) (hX.le an hS.1)) (λ_ _ h=>h.trans an) λ_ _ x=>x
   ·cases q
  ·cases q
end
structure aZ(X:Addr→Prop)(W W':Wd):Prop where
 ext:Kp X W.h W'.h
 k:W.k≤W'.k
 g:∀t,t<W.k→W'.g t=W.g t
 cr:∀cv q,q≠Str.empty→W.h.CodeRec cv q→W'.h.CodeRec cv q
 gn:∀(i:Nat) (z:GenState),W.gn[i]?=some z→W'.gn[i]?=some z
theorem aZ.refl(X:Addr→Prop)(W:Wd):aZ X W W:=⟨.refl _ _,Nat.le_refl _,λ_ _=>rfl,λ_ _ _ h=>h,λ_ _ h=>h⟩
theorem aZ.trans{X:Addr→Prop}{aj W₂ bf:Wd}(x:aZ X aj W₂)(y:aZ X W₂ bf):aZ X aj bf:=
 ⟨x.ext.trans y.ext,Nat.le_trans x.k y.k,λt ht=>(y.g t (Nat.lt_of_lt_of_le ht x.k)).trans (x.g t ht),λcv q ne h=>y.cr cv q ne (x.cr cv q ne h),λi z h=>y.gn i z (x.gn i z h)⟩
theorem aZ.sub{X Y:Addr→Prop}{W W':Wd}(h:∀a,X a→Y a)(x:aZ X W W'):aZ Y W W':=⟨x.ext.sub h,x.k,x.g,x.cr,x.gn⟩
theorem Le.leX{C:Cx}{X:Addr→Prop}{W W':Wd}(L:Le C W W')(h:X C.P):aZ X W W':=⟨L.ext.sub λ_ q=>q▸h,L.k,L.g,L.cr,L.gn⟩
theorem aZ.leS{X S:Addr→Prop}{W W':Wd}(L:aZ X W W')(h:∀a,X a→S a):D8 S W W':=⟨L.ext.sub h,L.k,L.g⟩
theorem aN.leX{X S:Addr→Prop}{W W':Wd}(L:aZ X W W')(h:∀a,X a→S a){d:D}{v:Value}(r:aN S W d v):aN S W' d v:=aN.leS (L.leS h) d r
theorem av.leX{X S:Addr→Prop}{W W':Wd}(L:aZ X W W')(h:∀a,X a→S a){d:List D}{v:List Value}(r:av S W d v):av S W' d v:=av.leS (L.leS h) d r
theorem qx{h₀ h h':Heap}(K:OldK h₀ h)(hk:∀b o,(∃sH,h₀.get? b=some sH)→h.get? b=some o→h'.get? b=some o):OldK h₀ h':=
 ⟨λb o e=>by
  rcases K.old b o e with x|⟨t,hc,vs,more,hv,x⟩|⟨rfl,hc,⟨o',es,n,ho',r⟩,z⟩
  ·exact .inl (hk _ _ ⟨o,e⟩ x)
  ·exact .inr (.inl ⟨t,hc,vs,more,hv,hk _ _ ⟨o,e⟩ x⟩)
  ·exact .inr (.inr ⟨rfl,hc,⟨o',es,n,hk _ _ ⟨o,e⟩ ho',r⟩,λkey=>by rw[OldK.staticOf_congr ((hk _ _ ⟨o,e⟩ ho').trans ho'.symm) key];exact z key⟩),
  λb o e=>let ⟨o',ho'⟩:=K.there b o e;⟨o',hk _ _ ⟨o,e⟩ ho'⟩⟩
def Nw(C:Cx)(a:Addr):Prop:=C.base.get? a=none
theorem Nw.ne{C:Cx}{a b:Addr}{o:Obj}(x:Nw C a)(e:C.base.get? b=some o):b≠a:=λq=>by subst q;rw[x]at e;cases e
theorem Nw.nP{C:Cx}(hC:C.Ok){a:Addr}(x:Nw C a):a≠C.P:=let ⟨_,e⟩:=hC.Pin;λq=>x.ne e q.symm
structure nE(C:Cx)(h h':Heap)(b:Addr):Prop where
 c:oZ h b
 f:C.fa b→(∃o,h.get? b=some o∧∀es n,o.data ≠ .dict es n)∨∃o es n,h'.get? b=some o∧o.data = .dict es n
section
variable{C:Cx}{S:Addr→Prop}{W:Wd}{s:Shared}{A:Around}{E:Value→Shared→Prop}
theorem ny.there(I:ny C s){b:Addr}{o:Obj}(e:C.base.get? b=some o):b<s.heap.objs.size:=let ⟨_,h⟩:=I.old.there b o e;Heap.lt_size h
theorem ny.nw(I:ny C s){a:Addr}(ha:s.heap.objs.size≤a):Nw C a:=by
 cases e:C.base.get? a with
 | none=>exact e
 | some o=>exact absurd (I.there e) (Nat.not_lt.mpr ha)
theorem ny.but(I:ny C s){h':Heap}(hF:∀b,C.fa b→∃o es n,h'.get? b=some o∧o.data = .dict es n)(hk:∀b o,(∃sH,C.base.get? b=some sH)→s.heap.get? b=some o→h'.get? b=some o)(hN:∀b o,¬oZ s.heap b→s.heap.get? b=some o→h'.get? b=some o)(hP:∃o,C.base.get? C.P=some o){tk:Nat}{d:Drawn}:ny C { s with heap:=h',toks:=tk,drawn:=d }:=
 ⟨qx I.old hk,λb o hb e=>hk b o ⟨o,e⟩ (I.ext b o hb e),I.os,I.bare,I.tab.to λb o hb e=>hb.elim (λq=>hk b o (q▸hP) e) λq=>hN b o q e,λa h=>⟨(I.fr a h).1,hF a h⟩⟩
theorem At.but(a:At C W s)(hC:C.Ok){X:Addr→Prop}(hX:∀b,X b→Nw C b){h':Heap}(hN:∀b,X b→nE C s.heap h' b)(hk:∀b o,¬X b→s.heap.get? b=some o→h'.get? b=some o){tk:Nat}(htk:s.toks≤tk):
  At C { W with h:=h' } { s with heap:=h',toks:=tk }∧aZ X W { W with h:=h' }:=
 ⟨⟨rfl,a.pos,Nat.le_trans a.k htk,a.inv.but (λb q=>by
   by_cases x:X b
   ·exact((hN b x).f q).elim (λ⟨o,e,d⟩=>by obtain⟨_,o',es,n,e',d'⟩:=a.inv.fr b q;rw[e]at e';cases e';exact absurd d' (d es n)) id
   ·obtain⟨_,o,es,n,e,d⟩:=a.inv.fr b q;exact⟨o,es,n,hk b o x e,d⟩) (λb o ⟨sH,e⟩ q=>hk b o (λx=>(hX b x).ne e rfl) q) (λb o n q=>hk b o (λx=>n (hN b x).c) q) hC.Pin,a.gn⟩,⟨.of λb o n e=>by have e':W.h.get? b=some o:=e;rw[a.h]at e';exact hk b o n e',Nat.le_refl _,λ_ _=>rfl,λcv q ne ⟨c,o,vs,t,e1,e2,e3,e4⟩=>by have e':W.h.get? c=some o:=e2;rw[a.h]at e';exact⟨c,o,vs,t,e1,hk c o (λx=>(hN c x).c o vs q t e' e3 ne e4) e',e3,e4⟩,λ_ _ h=>h⟩⟩
theorem At.butT(a:At C W s)(hC:C.Ok){X:Addr→Prop}(hX:∀b,X b→Nw C b){h':Heap}(hN:∀b,X b→nE C s.heap h' b)(t:Tok)(d:D)(ht:s.toks≤t)(hk:∀b o,¬X b→s.heap.get? b=some o→h'.get? b=some o){tk:Nat}(htk:t<tk):
  ∃W',At C W' { s with heap:=h',toks:=tk }∧aZ X W W'∧W'.h=h'∧i5 W' t d:=by
 obtain⟨a',L⟩:=a.but hC hX hN hk (tk:=s.toks) (Nat.le_refl _)
 obtain⟨W',a'',L',e,g⟩:=a'.tick t d ht (a8 _) htk
 exact⟨W',a'',⟨by rw[e];exact L.ext,L'.k,L'.g,λcv q ne h=>L'.cr cv q ne (L.cr cv q ne h),λi z h=>L'.gn i z (L.gn i z h)⟩,e,g⟩
end
theorem oZ.seq{h:Heap}{b:Addr}{its:Array Value}(x:h.IsList b its):oZ h b:=λo vs q t e hd _=>by
 obtain⟨o',ho',_,n,hd'⟩:=x
 rw[e]at ho';cases ho';rw[hd]at hd';cases hd'
theorem oZ.dict{h:Heap}{b:Addr}{m:Str→Option Value}(x:h.Ns b m):oZ h b:=λo vs q t e hd _=>by
 obtain⟨o',es,ep,ho',hd',_⟩:=x
 rw[e]at ho';cases ho';rw[hd]at hd';cases hd'
theorem oZ.cell{h:Heap}{b:Addr}{v:Option Value}(x:h.IsCell b v):oZ h b:=λo vs q t e hd _=>by
 obtain⟨o',ho',hd'⟩:=x
 rw[e]at ho';cases ho';rw[hd]at hd';cases hd'
theorem oZ.flds{h:Heap}{b:Addr}{o:Obj}{ws:Array Value}{v:Value}(e:h.get? b=some o)(hd:o.data = .fields ws)(h1:ws[1]?=some v)(h2:∀q t,v ≠ .str q t):oZ h b:=λo' vs q t' e' hd' _=>by
 rw[e]at e';cases e';rw[hd]at hd';cases hd';rw[h1];exact λz=>h2 q t' (Option.some.inj z)
theorem nE.seq{C:Cx}{h h':Heap}{b:Addr}{its:Array Value}(x:h.IsList b its):nE C h h' b:=⟨.seq x,λ_=>let ⟨o,e,_,_,d⟩:=x;.inl ⟨o,e,λ_ _=>by rw[d];nofun⟩⟩
theorem nE.dict{C:Cx}{h h':Heap}{b:Addr}{m m':Str→Option Value}(x:h.Ns b m)(y:h'.Ns b m'):nE C h h' b:=⟨.dict x,λ_=>let ⟨o,es,n,e,d,_⟩:=y;.inr ⟨o,es,n,e,d⟩⟩
theorem nE.cell{C:Cx}{h h':Heap}{b:Addr}{v:Option Value}(x:h.IsCell b v):nE C h h' b:=⟨.cell x,λ_=>let ⟨o,e,d⟩:=x;.inl ⟨o,e,λ_ _=>by rw[d];nofun⟩⟩
theorem nE.flds{C:Cx}{h h':Heap}{b:Addr}{o:Obj}{ws:Array Value}{v:Value}(e:h.get? b=some o)(hd:o.data = .fields ws)(h1:ws[1]?=some v)(h2:∀q t,v ≠ .str q t):nE C h h' b:=⟨.flds e hd h1 h2,λ_=>.inl ⟨o,e,λ_ _=>by rw[hd];nofun⟩⟩
theorem nE.new{C:Cx}{W:Wd}{s:Shared}{h h':Heap}{b:Addr}(n:oZ h b)(a:At C W s)(e:W.h.get? b=Option.none):nE C h h' b:=⟨n,λq=>by obtain⟨_,o,es,m,e',_⟩:=a.inv.fr b q;rw[←a.h,e]at e';cases e'⟩
theorem qm{C:Cx}{h h':Heap}{a:Addr}(n:nE C h h' a):∀b,b∈[a]→nE C h h' b:=λb hb=>by rcases List.mem_cons.mp hb with rfl|hb;exact n;cases hb
def E9(c:Nat):D:=.str true ⟨#[c]⟩
inductive dZ(C:Cx)(S:Addr→Prop)(W:Wd):List Addr→Value→List D→Prop
 | list {a l:Addr} {i:Nat} {items:Array Value} {rest:List D}:W.h.IsListIter a l i→W.h.IsList l items→¬S l→av S W rest (items.toList.drop i)→Nw C a→dZ C S W [a] (.ref a) rest
 | tup {a l:Addr} {i:Nat} {items:Array Value} {rest:List D}:W.h.IsTupleIter a l i→W.h.IsTuple l items→¬S l→av S W rest (items.toList.drop i)→Nw C a→dZ C S W [a] (.ref a) rest
 | str {a:Addr} {x:Str} {t:Tok} {i:Nat}:W.h.IsStrIter a (strIterType x) x t i→Nw C a→dZ C S W [a] (.ref a) ((x.cps.toList.drop i).map E9)
 | range {a:Addr} {i k:Nat}:i≤k→IsRangeIter W.h a i ((k:Int)-i) 1→Nw C a→dZ C S W [a] (.ref a) (((List.range k).drop i).map λj:Nat=>.int true (j:Int))
inductive fe(C:Cx)(S:Addr→Prop)(W:Wd):List Addr→Value→List D→Prop
 | enum {e a l:Addr} {i:Nat} {items:Array Value} {rest:List D} {old:Value}:IsEnum W.h e a i old→W.h.IsListIter a l i→W.h.IsList l items→¬S l→av S W rest (items.toList.drop i)→e≠a→Nw C e→Nw C a→fe C S W [e,a] (.ref e) (dM i rest)
section
variable{C:Cx}{S X:Addr→Prop}{W W':Wd}{s:Shared}{A:Around}{E:Value→Shared→Prop}
theorem dZ.leX(L:aZ X W W')(hX:∀a,X a→S a){fp:List Addr}(hf:∀a∈fp,¬X a){it:Value}{rest:List D}(x:dZ C S W fp it rest):dZ C S W' fp it rest:=by
 cases x with
 | list h1 h2 h3 h4 h5=>
  obtain⟨o,ho,r1⟩:=h1
  exact .list ⟨o,L.ext.ex (hf _ (.head _)) ho (λ_ _=>by rw[r1.2];nofun),r1⟩ (bo h2 L.ext λq=>h3 (hX _ q)) h3 (h4.leX L hX) h5
 | tup h1 h2 h3 h4 h5=>
  obtain⟨o,ho,r1⟩:=h1
  exact .tup ⟨o,L.ext.ex (hf _ (.head _)) ho (λ_ _=>by rw[r1.2];nofun),r1⟩ (gD h2 L.ext λq=>h3 (hX _ q)) h3 (h4.leX L hX) h5
 | str h1 h5=>
  obtain⟨o,ho,r1⟩:=h1
  exact .str ⟨o,L.ext.ex (hf _ (.head _)) ho (λ_ _=>by rw[r1.2];nofun),r1⟩ h5
 | range h0 h1 h5=>exact .range h0 (L.ext.ex (hf _ (.head _)) h1 nofun) h5
theorem fe.leX(L:aZ X W W')(hX:∀a,X a→S a){fp:List Addr}(hf:∀a∈fp,¬X a){it:Value}{rest:List D}(x:fe C S W fp it rest):fe C S W' fp it rest:=by
 cases x with
 | enum h0 h1 h2 h3 h4 h5 h6 h7=>
  obtain⟨o,ho,r1⟩:=h1
  exact .enum (L.ext.ex (hf _ (.head _)) h0 nofun) ⟨o,L.ext.ex (hf _ (.tail _ (.head _))) ho (λ_ _=>by rw[r1.2];nofun),r1⟩ (bo h2 L.ext λq=>h3 (hX _ q)) h3 (h4.leX L hX) h5 h6 h7
theorem dZ.nw{fp:List Addr}{it:Value}{rest:List D}(x:dZ C S W fp it rest):∀a∈fp,Nw C a:=by
 cases x<;>exact(λa ha=>by
  rcases List.mem_cons.mp ha with e|e
  ·rw[e];assumption
  ·cases e)
theorem fe.nw{fp:List Addr}{it:Value}{rest:List D}(x:fe C S W fp it rest):∀a∈fp,Nw C a:=by
 cases x;intro a ha
 rcases List.mem_cons.mp ha with rfl|ha
 ·assumption
 ·rcases List.mem_cons.mp ha with rfl|ha
  ·assumption
  ·cases ha
theorem dO{α:Type}{l:List α}{i:Nat}{x:α}{r:List α}(h:l.drop i=x::r):l[i]?=some x∧l.drop (i+1)=r:=by
 have h1:i<l.length:=by
  rcases Nat.lt_or_ge i l.length with h'|h'
  ·exact h'
  ·rw[List.drop_eq_nil_of_le h']at h;cases h
 rw[List.drop_eq_getElem_cons h1]at h
 injection h with e1 e2
 exact⟨by rw[List.getElem?_eq_getElem h1,e1],e2⟩
theorem fh{α:Type}{l:List α}{i:Nat}(h:l.drop i=[]):l[i]?=none:=by
 rw[List.getElem?_eq_none];exact List.drop_eq_nil_iff.mp h
theorem iR{d:D}{ds:List D}{vs:List Value}(h:av S W (d::ds) vs):∃v r,vs=v::r∧aN S W d v∧av S W ds r:=h
def Af(C:Cx)(S:Addr→Prop)(W:Wd)(fp:List Addr)(it:Value)(rest:List D)(r:Option Value)(s':Shared):Prop:=
 ∃W',aZ (· ∈ fp) W W'∧At C W' s'∧match rest,r with
  | [],none=>True
  | d::ds,some v=>aN S W' d v∧dZ C S W' fp it ds
  | _,_=>False
theorem ic{h h':Heap}{a:Addr}(hs:Heap.SameBut a h h'):∀b o,¬(b∈[a])→h.get? b=some o→h'.get? b=some o:=λb _ n e=>(hs.2 b (λq=>n (q ▸ .head _))).trans e
theorem dB{h h':Heap}{a:Addr}(hs:Heap.ExtBut a h h'):∀b o,¬(b∈[a])→h.get? b=some o→h'.get? b=some o:=λb _ n e=>hs b _ (λq=>n (q ▸ .head _)) e
theorem ie{C:Cx}{a:Addr}(h:Nw C a):∀b,b∈[a]→Nw C b:=λb hb=>by rcases List.mem_cons.mp hb with rfl|hb;exact h;cases hb
theorem yN{R:Nat}(hC:C.Ok)(hR:bB C R A)(a:At C W s){fp:List Addr}{it:Value}{rest:List D}(hf:∀b∈fp,S b)(x:dZ C S W fp it rest):
  wpAny (model C.prog C.w) A (pyNext it) (Af C S W fp it rest) E s:=by
 have hS:∀b,b∈fp→S b:=hf
 cases x with
 | list h1 h2 h3 h4 h5=>
  rename_i p l i items
  have h1':=h1;have h2':=h2
  rw[a.h]at h1' h2'
  have npl:l≠p:=λq=>h3 (q▸hf p (.head _))
  have hnc:∀{h'},nE C s.heap h' p:=by obtain⟨o,ho,_,hd⟩:=h1';exact .flds ho hd rfl (λ_ _=>nofun)
  cases rest with
  | nil=>
   have e:items.toList.drop i=[]:=h4
   exact wpAny_pyNext_list_end hR.r.1 h1' h2' (by have:=fh e;simpa using this) λh' hs=>⟨_,(a.but hC (ie h5) (qm hnc) (dB hs) (Nat.le_refl _)).2,(a.but hC (ie h5) (qm hnc) (dB hs) (Nat.le_refl _)).1,trivial⟩
  | cons d ds=>
   obtain⟨v,r,e,r1,r2⟩:=iR h4
   obtain⟨e1,e2⟩:=dO e
   refine wpAny_pyNext_list_item h1' h2' (by simpa using e1) λh' hi hs=>?_
   obtain⟨a',L⟩:=a.but hC (ie h5) (qm hnc) (ic hs) (Nat.le_refl _)
   refine⟨_,L,a',r1.leX L hS,.list hi (h2'.extBut hs.extBut npl) h3 ?_ h5⟩
   rw[e2];exact r2.leX L hS
 | tup h1 h2 h3 h4 h5=>
  rename_i p l i items
  have h1':=h1;have h2':=h2
  rw[a.h]at h1' h2'
  have npl:l≠p:=λq=>h3 (q▸hf p (.head _))
  have hnc:∀{h'},nE C s.heap h' p:=by obtain⟨o,ho,_,hd⟩:=h1';exact .flds ho hd rfl (λ_ _=>nofun)
  cases rest with
  | nil=>
   have e:items.toList.drop i=[]:=h4
   exact wpAny_pyNext_tuple_end hR.r.1 h1' h2' (by have:=fh e;simpa using this) λh' hs=>⟨_,(a.but hC (ie h5) (qm hnc) (dB hs) (Nat.le_refl _)).2,(a.but hC (ie h5) (qm hnc) (dB hs) (Nat.le_refl _)).1,trivial⟩
  | cons d ds=>
   obtain⟨v,r,e,r1,r2⟩:=iR h4
   obtain⟨e1,e2⟩:=dO e
   refine wpAny_pyNext_tuple_item h1' h2' (by simpa using e1) λh' hi hs=>?_
   obtain⟨a',L⟩:=a.but hC (ie h5) (qm hnc) (ic hs) (Nat.le_refl _)
   refine⟨_,L,a',r1.leX L hS,.tup hi (h2'.extBut hs.extBut npl) h3 ?_ h5⟩
   rw[e2];exact r2.leX L hS
 | str h1 h5=>
  rename_i p y t i
  have h1':=h1
  rw[a.h]at h1'
  have hnc:∀{h'},nE C s.heap h' p:=by obtain⟨o,ho,_,hd⟩:=h1';exact .flds ho hd rfl (λ_ _=>nofun)
  unfold strIterType at h1'
  cases e:y.cps.toList.drop i with
  | nil=>
   have e0:y.cps[i]?=none:=by have:=fh e;simpa using this
   split at h1'
   ·exact wpAny_pyNext_ascii_end hR.r.1 h1' e0 λh' hs=>⟨_,(a.but hC (ie h5) (qm hnc) (dB hs) (Nat.le_refl _)).2,(a.but hC (ie h5) (qm hnc) (dB hs) (Nat.le_refl _)).1,trivial⟩
   ·exact wpAny_pyNext_wide_end hR.r.1 h1' e0 λh' hs=>⟨_,(a.but hC (ie h5) (qm hnc) (dB hs) (Nat.le_refl _)).2,(a.but hC (ie h5) (qm hnc) (dB hs) (Nat.le_refl _)).1,trivial⟩
  | cons c r=>
   obtain⟨e1,e2⟩:=dO e
   have e0:y.cps[i]?=some c:=by simpa using e1
   have fin:∀h',Heap.SameBut p s.heap h'→h'.IsStrIter p (strIterType y) y t (i+1)→Af C S W [p] (.ref p) ((c::r).map E9) (some (.str ⟨#[c]⟩ s.toks)) { s with heap:=h',toks:=s.toks+1 }:=by
    intro h' hs hi
    obtain⟨W',a',L,e3,g⟩:=a.butT hC (ie h5) (qm hnc) s.toks (.str true ⟨#[c]⟩) (Nat.le_refl _) (ic hs) (Nat.lt_succ_self _)
    refine⟨W',L,a',⟨_,rfl,λ_=>g⟩,?_⟩
    rw[←e2]
    exact .str (by rw[e3];exact hi) h5
   split at h1'
   ·rename_i hc
    refine wpAny_pyNext_ascii_item h1' e0 λh' hi hs=>fin h' hs ?_
    unfold strIterType;rw[if_pos hc];exact hi
   ·rename_i hc
    refine wpAny_pyNext_wide_item h1' e0 λh' hi hs=>fin h' hs ?_
    unfold strIterType;rw[if_neg hc];exact hi
 | range h0 h1 h5=>
  rename_i p i k
  have h1':=h1
  rw[a.h]at h1'
  have hnc:∀{h'},nE C s.heap h' p:=.flds h1' rfl rfl (λ_ _=>nofun)
  rcases Nat.lt_or_ge i k with hik|hik
  ·have e:(List.range k).drop i=i::(List.range k).drop (i+1):=by
    rw[List.drop_eq_getElem_cons (by simpa using hik)];simp
   rw[e]
   refine wpAny_pyNext_range_item h1' (by omega) λh' hi hs=>?_
   obtain⟨W',a',L,e3,g⟩:=a.butT hC (ie h5) (qm hnc) s.toks (.int true i) (Nat.le_refl _) (ic hs) (Nat.lt_succ_self _)
   refine⟨W',L,a',⟨_,rfl,λ_=>g⟩,.range hik ?_ h5⟩
   rw[e3]
   have e4:((k:Int)-i)-1=(k:Int)-((i+1:Nat):Int):=by omega
   rw[←e4];exact hi
  ·have e:(List.range k).drop i=[]:=by rw[List.drop_eq_nil_iff];simpa using hik
   rw[e]
   exact wpAny_pyNext_range_end hR.r.1 h1' (by omega) λh' hs=>⟨_,(a.but hC (ie h5) (qm hnc) (dB hs) (Nat.le_refl _)).2,(a.but hC (ie h5) (qm hnc) (dB hs) (Nat.le_refl _)).1,trivial⟩
theorem yO{R:Nat}(hC:C.Ok)(hR:bB C R A)(a:At C W s)(hSx:SX C S W.h){fp:List Addr}{it:Value}{rest:List D}(hf:∀b∈fp,S b)(x:fe C S W fp it rest){elts:List Expr}{k:Nat}{pos:Pos}:
  wpAny (model C.prog C.w) A (pyNext it) (λr ae=>match rest,r with
   | [],none=>∃W',aZ (· ∈ fp) W W'∧At C W' ae
   | d::ds,some v=>wpAny (model C.prog C.w) A (letOwnedTupleGo (.Tuple elts k pos) it v) (λ_ s'=>∃W',aZ (· ∈ fp) W W'∧At C W' s'∧aN S W' d v∧fe C S W' fp it ds) E ae
   | _,_=>False) E s:=by
 cases x with
 | enum h0 h1 h2 h3 h4 h5 h6 h7=>
  rename_i e p l i items rest old
  have h0':=h0;have h1':=h1;have h2':=h2
  rw[a.h]at h0' h1' h2'
  have nX:∀b,b∈[e,p]→Nw C b:=λb hb=>by
   rcases List.mem_cons.mp hb with rfl|hb
   ·exact h6
   ·rcases List.mem_cons.mp hb with rfl|hb
    ·exact h7
    ·cases hb
  have npl:l≠p:=λq=>h3 (q▸hf p (.tail _ (.head _)))
  have hNc:∀{h'},∀b,b∈[e,p]→nE C s.heap h' b:=λb hb=>by
   rcases List.mem_cons.mp hb with rfl|hb
   ·exact .flds h0' rfl rfl (λ_ _=>nofun)
   ·obtain⟨o,ho,_,hd⟩:=h1'
    exact qm (.flds ho hd rfl (λ_ _=>nofun)) b hb
  have nel:l≠e:=λq=>h3 (q▸hf e (.head _))
  cases rest with
  | nil=>
   have e0:items.toList.drop i=[]:=h4
   refine wpAny_pyNext_enum_end hR.r.1 h0' h1' h2' (by have:=fh e0;simpa using this) λh' hs=>?_
   have hk:∀b o,¬b∈[e,p]→s.heap.get? b=some o→h'.get? b=some o:=λb o n q=>hs b o (λz=>n (z ▸ .tail _ (.head _))) q
   exact⟨_,(a.but hC nX hNc hk (Nat.le_refl _)).2,(a.but hC nX hNc hk (Nat.le_refl _)).1⟩
  | cons d ds=>
   obtain⟨v,r,e1,r1,r2⟩:=iR h4
   obtain⟨e2,e3⟩:=dO e1
   refine wpAny_pyNext_enum_item h0' h1' h2' (by simpa using e2) h5 λh' ho hi ht _ hk=>?_
   refine wpAny_letOwnedTupleGo_enum ho λh'' he hs=>?_
   have hne:s.heap.objs.size≠e:=λq=>by have hlt:=Heap.lt_size h0';rw[q]at hlt;exact Nat.lt_irrefl _ hlt
   have hk':∀b o,¬b∈[e,p]→s.heap.get? b=some o→h''.get? b=some o:=λb o n q=>by
    have n1:b≠e:=λz=>n (z ▸ .head _)
    exact(hs.2 b n1).trans (hk b o n1 (λz=>n (z ▸ .tail _ (.head _))) q)
   obtain⟨W',a',L,e4,g⟩:=a.butT hC nX hNc s.toks (.int true i) (Nat.le_refl _) hk' (Nat.lt_succ_self _)
   have eq:(i:Int)+1=((i+1:Nat):Int):=by omega
   rw[eq]at he
   have hSk:Cs C S s.heap.objs.size:=by rw[←a.h];exact hSx.ok
   refine⟨W',L,a',⟨_,_,rfl,λq=>Nat.lt_irrefl _ (hSk.2 _ q),⟨_,by rw[e4,hs.2 _ hne];exact ht,rfl,_,rfl⟩,?_⟩,?_⟩
   ·exact⟨_,_,rfl,⟨_,rfl,λ_=>g⟩,_,_,rfl,r1.leX L hf,rfl⟩
   ·refine .enum (items:=items) (by rw[e4];exact he) ?_ ?_ h3 ?_ h5 h6 h7
    ·rw[e4];exact hi.extBut hs.extBut (Ne.symm h5)
    ·rw[e4]
     obtain⟨o,ho2,q2⟩:=h2'
     exact⟨o,hk' l o (λz=>by
      rcases List.mem_cons.mp z with z|z
      ·exact nel z
      ·rcases List.mem_cons.mp z with z|z
       ·exact npl z
       ·cases z) ho2,q2⟩
    ·rw[e3];exact r2.leX L hf
theorem wJ(a:At C W s){fp:List Addr}{it:Value}{rest:List D}(x:dZ C S W fp it rest){Q:Value→Shared→Prop}(h:Q it s):wpAny (model C.prog C.w) A (pyIter it) Q E s:=by
 cases x with
 | list h1=>rw[a.h]at h1;exact wpAny_pyIter_listiter h1 h
 | tup h1=>rw[a.h]at h1;exact wpAny_pyIter_tupleiter h1 h
 | str h1=>
  rw[a.h]at h1
  unfold strIterType at h1
  split at h1
  ·exact wpAny_pyIter_striter_ascii h1 h
  ·exact wpAny_pyIter_striter_wide h1 h
 | range h0 h1=>rw[a.h]at h1;exact wpAny_pyIter_rangeiter h1 h
theorem vf(a:At C W s){fp:List Addr}{it:Value}{rest:List D}(x:fe C S W fp it rest){Q:Value→Shared→Prop}(h:Q it s):wpAny (model C.prog C.w) A (pyIter it) Q E s:=by
 cases x with
 | enum h0=>rw[a.h]at h0;exact wpAny_pyIter_enum h0 h
mutual
theorem aN.grow{S S':Addr→Prop}{W:Wd}(k:∀a,S' a→S a∨W.h.get? a=none):∀(d:D) {v:Value},aN S W d v→aN S' W d v
 | .none,_,x=>x
 | .bool _,_,x=>x
 | .int _ _,_,x=>x
 | .str _ _,_,x=>x
 | .list l,_,⟨a,its,e,n,h,r⟩=>⟨a,its,e,λq=>(k a q).elim n λq=>(let ⟨_,ho,_⟩:=h;nomatch (q.symm.trans ho)),h,av.grow k l r⟩
 | .tup l,_,⟨a,its,e,n,h,r⟩=>⟨a,its,e,λq=>(k a q).elim n λq=>(let ⟨_,ho,_⟩:=h;nomatch (q.symm.trans ho)),h,av.grow k l r⟩
theorem av.grow{S S':Addr→Prop}{W:Wd}(k:∀a,S' a→S a∨W.h.get? a=none):∀(ds:List D) {vs:List Value},av S W ds vs→av S' W ds vs
 | [],_,x=>x
 | d::ds,_,⟨v,r,e,h,hr⟩=>⟨v,r,e,aN.grow k d h,av.grow k ds hr⟩
end
theorem aK(a:At C W s){b:Addr}(hb:s.heap.objs.size≤b):W.h.get? b=none:=by
 rw[a.h]
 cases e:s.heap.get? b with
 | none=>rfl
 | some o=>exact absurd (Heap.lt_size e) (Nat.not_lt.mpr hb)
structure nF(C:Cx)(W W':Wd)(fp:List Addr)(s':Shared):Prop where
 le:Le C W W'
 at':At C W' s'
 fresh:∀b∈fp,W.h.get? b=none∧Nw C b∧∃o,W'.h.get? b=some o
def aM(S:Addr→Prop)(fp:List Addr):Addr→Prop:=λb=>S b∨b∈fp
theorem Cz(a:At C W s){d:D}{v:Value}{xs:List D}(r:aN S W d v)(hS:SX C S W.h)(e:dD d=some xs):
  wpAny (model C.prog C.w) A (pyIter v) (λit s'=>∃fp W',nF C W W' fp s'∧dZ C (aM S fp) W' fp it xs) E s:=by
 have nw:Nw C s.heap.objs.size:=a.inv.nw (Nat.le_refl _)
 have fr:=aK a (Nat.le_refl _)
 have gr:∀b,aM S [s.heap.objs.size] b→S b∨W.h.get? b=none:=λb hb=>hb.imp id λq=>by
  rcases List.mem_cons.mp q with rfl|q
  ·exact fr
  ·cases q
 have made:∀o:Obj,o.isFreed=false→nF C W { W with h:=s.heap.push o } [s.heap.objs.size] { s with heap:=s.heap.push o }:=λo ho=>
  ⟨(a.keepW (bt _ o) (Nat.le_refl _)).2,(a.keepW (bt _ o) (Nat.le_refl _)).1,λb hb=>by
   rcases List.mem_cons.mp hb with rfl|hb
   ·exact⟨fr,nw,o,Heap.get?_push_size _ ho⟩
   ·cases hb⟩
 have hPn:¬C.P∈[s.heap.objs.size]:=λq=>by
  rcases List.mem_cons.mp q with q|q
  ·obtain⟨o,ho⟩:=hS.2 _ hS.1;rw[q,fr]at ho;cases ho
  ·cases q
 have hP:aM S [s.heap.objs.size] C.P:=.inl hS.1
 cases d with
 | list l=>
  simp only[dD]at e
  split at e
  ·cases e
   obtain⟨p,its,rfl,n,h,q⟩:=r
   have h':=h;rw[a.h]at h'
   have M:=made { cls:=.type "list_iterator",data:=.fields #[.ref p,.int 0 0] } rfl
   have np:¬aM S [s.heap.objs.size] p:=λz=>by
    rcases gr p z with z|z
    ·exact n z
    ·obtain⟨o,ho,_⟩:=h;rw[z]at ho;cases ho
   exact wpAny_pyIter_list h' ⟨_,_,M,.list ⟨_,Heap.get?_push_size _ rfl,rfl,rfl⟩ (bo h M.le.ext (λz=>np (z▸hP))) np ((av.grow gr _ q).le M.le hP) nw⟩
  ·cases e
 | tup l=>
  simp only[dD]at e
  split at e
  ·cases e
   obtain⟨p,its,rfl,n,h,q⟩:=r
   have h':=h;rw[a.h]at h'
   have M:=made { cls:=.type "tuple_iterator",data:=.fields #[.ref p,.int 0 0] } rfl
   have np:¬aM S [s.heap.objs.size] p:=λz=>by
    rcases gr p z with z|z
    ·exact n z
    ·obtain⟨o,ho,_⟩:=h;rw[z]at ho;cases ho
   exact wpAny_pyIter_tuple h' ⟨_,_,M,.tup ⟨_,Heap.get?_push_size _ rfl,rfl,rfl⟩ (gD h M.le.ext (λz=>np (z▸hP))) np ((av.grow gr _ q).le M.le hP) nw⟩
  ·cases e
 | str g x=>
  simp only[dD]at e
  split at e
  ·cases e
   obtain⟨t,rfl,_⟩:=r
   have M:=made { cls:=.type (strIterType x),data:=.fields #[.str x t,.int 0 0] } rfl
   exact wpAny_pyIter_strU ⟨_,_,M,.str (i:=0) ⟨_,Heap.get?_push_size _ rfl,rfl,rfl⟩ nw⟩
  ·cases e
 | none=>cases e
 | bool=>cases e
 | int=>cases e
end
def cC(C:Cx)(S:Addr→Prop)(W:Wd):dA→List Addr→Value→List D→Prop
 | .one _,fp,it,xs=>dZ C S W fp it xs
 | .two _ _,fp,it,xs=>fe C S W fp it xs
section
variable{C:Cx}{T fns:List Str}{F:Nat→List D→Option D}{R n:Nat}{K:Kd}{S Z:Addr→Prop}{W W':Wd}{s:Shared}{env:Env}{m:Str→Option Value}{me:Me}{A:Around}{E:Value→Shared→Prop}
theorem cC.leX(L:aZ Z W W')(hX:∀a,Z a→S a){t:dA}{fp:List Addr}(hf:∀a∈fp,¬Z a){it:Value}{rest:List D}(x:cC C S W t fp it rest):cC C S W' t fp it rest:=by
 cases t
 ·exact dZ.leX L hX hf x
 ·exact fe.leX L hX hf x
theorem cC.nw{t:dA}{fp:List Addr}{it:Value}{rest:List D}(x:cC C S W t fp it rest):∀a∈fp,Nw C a:=by
 cases t
 ·exact dZ.nw x
 ·exact fe.nw x
theorem cC.again(a:At C W s){t:dA}{fp:List Addr}{it:Value}{rest:List D}(x:cC C S W t fp it rest){Q:Value→Shared→Prop}(h:Q it s):wpAny (model C.prog C.w) A (pyIter it) Q E s:=by
 cases t
 ·exact wJ a x h
 ·exact vf a x h
theorem qy{k:Int}(h0:0≤k)(h1:k≤1000):Builtin.Range.small 0 k 1=true:=by
 unfold Builtin.Range.small
 rw[rangeSize_one]
 unfold Builtin.Range.rangeFitsLong
 split<;>simp<;>omega
theorem nF.trans{aj:Wd}{fp:List Addr}{s':Shared}(L:Le C W aj)(x:nF C aj W' fp s')(hf:∀b∈fp,W.h.get? b=none):nF C W W' fp s':=
 ⟨L.trans x.le,x.at',λb hb=>⟨hf b hb,(x.fresh b hb).2⟩⟩
theorem bu(_hC:C.Ok)(L:Le C W W'){b:Addr}(hb:b≠C.P)(h:W'.h.get? b=none):W.h.get? b=none:=by
 cases e:W.h.get? b with
 | none=>rfl
 | some o=>obtain⟨o',e',_⟩:=L.ext b o hb e;rw[h]at e';cases e'
theorem o7(hL:Lk C T fns F R)(iE:SE C T fns F R n){i:Expr}{x:X}{t:dA}{xs:List D}(h:CE T fns K i x)(e:gY (ev F n) t x me=some xs)(hR:bB C R A)(hA:At C W s)(hS:SX C S W.h)(hX:bG C T K S W env m me):
  wpAny (model C.prog C.w) A (eval i env) (λv ae=>wpAny (model C.prog C.w) A (pyIter v) (λit ak=>∃fp W',nF C W W' fp ak∧cC C (aM S fp) W' t fp it xs) E ae) E s:=by
 have hC:=hL.ok
 have plain:∀{j:Nat} {d:D},t = .one j→ev F n x me=some d→dD d=some xs→wpAny (model C.prog C.w) A (eval i env) (λv ae=>wpAny (model C.prog C.w) A (pyIter v) (λit ak=>∃fp W',nF C W W' fp ak∧cC C (aM S fp) W' t fp it xs) E ae) E s:=by
  intro j d ht hd hxs
  refine wpAny_mono (iE K i x me d A s W S env m E h hd hR hA hS hX) (λv ae ⟨aj,am,aq,bx⟩=>?_) λ_ _ x=>x
  refine wpAny_mono (Cz aq bx (hS.le hC am aq) hxs) (λit ak ⟨fp,W₂,M,I⟩=>⟨fp,W₂,M.trans am (λb hb=>bu hC am ((M.fresh b hb).2.1.nP hC) (M.fresh b hb).1),?_⟩) λ_ _ x=>x
  subst ht;exact I
 unfold gY at e
 split at e
 ·
  split at e
  ·rename_i j a _ g k hk
   split at e
   ·rename_i hb
    cases e
    cases h with
    | range hg h1=>
     refine wpAny_Call_NameR (wpAny_Name (jM hC hA hX hg hL.range.1 hL.range.2 ?_) (by decide))
     refine PySem.callWith_type (by rw[aA (aH h1)];rfl) ?_
     rw[aA (aH h1)]
     refine Calls.evalArgs_plain (Calls.spliced_cons (wpAny_mono (iE K _ _ me _ A s W S env m E h1 hk hR hA hS hX) (λv ae ⟨aj,am,aq,bx⟩=>Calls.spliced_nil ?_) λ_ _ x=>x))
     obtain⟨t,rfl,_⟩:=bx
     refine call_range_1 ?_
     refine wpAny_pyIter_range (t:=ae.toks) (u:=t) (v:=ae.toks+1) (Heap.get?_push_size _ rfl) (qy hb.1 hb.2) ?_
     have hk2:∀b o,ae.heap.get? b=some o→((ae.heap.push { cls:=.type "range",data:=.fields #[.int 0 ae.toks,.int k t,.int 1 (ae.toks+1)] }).push { cls:=.type "range_iterator",data:=.fields #[rawInt 0,rawInt (Builtin.Range.rangeSize 0 k 1),rawInt 1] }).get? b=some o:=
      λb o q=>Heap.get?_push_of_some _ (Heap.get?_push_of_some _ q)
     obtain⟨au,an⟩:=aq.keepW hk2 (tk:=ae.toks+1+1) (by omega)
     have hsz:(ae.heap.push { cls:=.type "range",data:=.fields #[.int 0 ae.toks,.int k t,.int 1 (ae.toks+1)] }).objs.size=ae.heap.objs.size+1:=Heap.size_push ..
     have nw:Nw C (ae.heap.objs.size+1):=aq.inv.nw (Nat.le_succ _)
     refine⟨[ae.heap.objs.size+1],_,⟨am.trans an,au,λb hb=>?_⟩,?_⟩
     ·rcases List.mem_cons.mp hb with rfl|hb
      ·have hobj:=Heap.get?_push_size (ae.heap.push { cls:=.type "range",data:=.fields #[.int 0 ae.toks,.int k t,.int 1 (ae.toks+1)] }) (o:={ cls:=.type "range_iterator",data:=.fields #[rawInt 0,rawInt (Builtin.Range.rangeSize 0 k 1),rawInt 1] }) rfl
       rw[hsz]at hobj
       exact⟨bu hC am (nw.nP hC) (aK aq (Nat.le_succ _)),nw,_,hobj⟩
      ·cases hb
     ·have hsize:Builtin.Range.rangeSize 0 k 1=(k.toNat:Int)-((0:Nat):Int):=by rw[rangeSize_one];split<;>omega
      have:=dZ.range (C:=C) (S:=aM S [ae.heap.objs.size+1]) (W:={ aj with h:=(ae.heap.push { cls:=.type "range",data:=.fields #[.int 0 ae.toks,.int k t,.int 1 (ae.toks+1)] }).push { cls:=.type "range_iterator",data:=.fields #[rawInt 0,rawInt (Builtin.Range.rangeSize 0 k 1),rawInt 1] } })
       (a:=ae.heap.objs.size+1) (i:=0) (k:=k.toNat) (Nat.zero_le _) (by rw[hsize,←hsz];exact Heap.get?_push_size _ rfl) nw
      rw[hsz]
      exact this
   ·cases e
  ·cases e
 ·
  split at e
  ·rename_i j1 j2 a _ l hk
   split at e
   ·rename_i hb
    cases e
    cases h with
    | enum hg h1=>
     refine wpAny_Call_NameR (wpAny_Name (jM hC hA hX hg hL.enum.1 hL.enum.2 ?_) (by decide))
     refine PySem.callWith_type (by rw[aA (aH h1)];rfl) ?_
     rw[aA (aH h1)]
     refine Calls.evalArgs_plain (Calls.spliced_cons (wpAny_mono (iE K _ _ me _ A s W S env m E h1 hk hR hA hS hX) (λv ae ⟨aj,am,aq,bx⟩=>Calls.spliced_nil ?_) λ_ _ x=>x))
     obtain⟨p,its,rfl,np,hl,q⟩:=bx
     have hl':=hl;rw[aq.h]at hl'
     refine call_enumerate_list hl' λh' he hi _ hk=>?_
     refine wpAny_pyIter_enum he ?_
     obtain⟨au,an⟩:=aq.keepW hk (tk:=ae.toks) (Nat.le_refl _)
     have nw0:Nw C ae.heap.objs.size:=aq.inv.nw (Nat.le_refl _)
     have nw1:Nw C (ae.heap.objs.size+1):=aq.inv.nw (Nat.le_succ _)
     have f0:=aK aq (Nat.le_refl ae.heap.objs.size)
     have f1:=aK aq (Nat.le_succ ae.heap.objs.size)
     have gr:∀b,aM S [ae.heap.objs.size+1,ae.heap.objs.size] b→S b∨aj.h.get? b=none:=λb hb=>hb.imp id λq=>by
      rcases List.mem_cons.mp q with rfl|q
      ·exact f1
      ·rcases List.mem_cons.mp q with rfl|q
       ·exact f0
       ·cases q
     have hP:aM S [ae.heap.objs.size+1,ae.heap.objs.size] C.P:=.inl hS.1
     have np':¬aM S [ae.heap.objs.size+1,ae.heap.objs.size] p:=λz=>by
      rcases gr p z with z|z
      ·exact np z
      ·obtain⟨o,ho,_⟩:=hl;rw[z]at ho;cases ho
     refine⟨[ae.heap.objs.size+1,ae.heap.objs.size],_,⟨am.trans an,au,λb hb=>?_⟩,?_⟩
     ·rcases List.mem_cons.mp hb with rfl|hb
      ·exact⟨bu hC am (nw1.nP hC) f1,nw1,_,he⟩
      ·rcases List.mem_cons.mp hb with rfl|hb
       ·obtain⟨o,ho,_⟩:=hi
        exact⟨bu hC am (nw0.nP hC) f0,nw0,o,ho⟩
       ·cases hb
     ·exact fe.enum (i:=0) (items:=its) he hi (bo hl an.ext (λz=>np' (z▸hP))) np' ((av.grow gr _ q).le an hP) (Nat.succ_ne_self _) nw1 nw0
   ·cases e
  ·cases e
 ·split at e
  ·rename_i d hd
   exact plain rfl hd e
  ·cases e
 ·cases e
end
structure bv(C:Cx)(K:Kd)(S:Addr→Prop)(env:Env):Prop where
 locS:S env.locals
 locN:Nw C env.locals
 kl:∀x,K.lookup x=some .local→env.kindOf x=some .local
 kc:∀x,K.lookup x=some .cell→env.kindOf x=some .cell
 cell:∀x c,K.lookup x=some .cell→env.cells.lookup x=some c→S c∧Nw C c∧∀y,y≠x→env.cells.lookup y≠some c
def cU(K:Kd)(env:Env):Addr→Prop:=λb=>b=env.locals∨∃x,K.lookup x=some .cell∧env.cells.lookup x=some b
theorem bv.sub{C:Cx}{K:Kd}{S S':Addr→Prop}{env:Env}(O:bv C K S env)(h:∀a,S a→S' a):bv C K S' env:=
 ⟨h _ O.locS,O.locN,O.kl,O.kc,λx c h1 h2=>let ⟨a,b,d⟩:=O.cell x c h1 h2;⟨h _ a,b,d⟩⟩
theorem bv.mutS{C:Cx}{K:Kd}{S:Addr→Prop}{env:Env}(O:bv C K S env):∀b,cU K env b→S b:=λb h=>by
 rcases h with rfl|⟨x,h1,h2⟩
 ·exact O.locS
 ·exact(O.cell x b h1 h2).1
theorem bv.mutF{C:Cx}{K:Kd}{S:Addr→Prop}{env:Env}{h h':Heap}{m ml':Str→Option Value}(O:bv C K S env)(f:ay C env h m)(hl:h'.Ns env.locals ml'):∀b,cU K env b→nE C h h' b:=λb hb=>by
 rcases hb with rfl|⟨x,h1,h2⟩
 ·obtain⟨ml,hn,_⟩:=f.ns;exact .dict hn hl
 ·obtain⟨c,e1,e2,_⟩:=f.cell x (.inl (O.kc x h1))
  rw[h2]at e1;cases e1
  exact .cell e2
theorem bv.mutN{C:Cx}{K:Kd}{S:Addr→Prop}{env:Env}(O:bv C K S env):∀b,cU K env b→Nw C b:=λb h=>by
 rcases h with rfl|⟨x,h1,h2⟩
 ·exact O.locN
 ·exact(O.cell x b h1 h2).2.1
def bM(m:Str→Option Value)(x:Str)(v:Value):Str→Option Value:=λy=>if y=x then some v else m y
section
variable{C:Cx}{T fns:List Str}{F:Nat→List D→Option D}{R n:Nat}{K:Kd}{S:Addr→Prop}{W W':Wd}{s:Shared}{env:Env}{m:Str→Option Value}{me:Me}{A:Around}{E:Value→Shared→Prop}
theorem ig{h:Heap}{a:Addr}{ml:Str→Option Value}{v:Option Value}(hn:h.Ns a ml)(hc:h.IsCell a v):False:=by
 obtain⟨o,es,ep,ho,hd,_⟩:=hn
 obtain⟨o',ho',hd'⟩:=hc
 rw[ho]at ho';cases ho';rw[hd]at hd';cases hd'
theorem b9(O:bv C K S env)(hC:C.Ok)(a:At C W s)(f:ay C env W.h m){x:Str}{v:Value}(hx:cK K x=true){M:Model}:
  wpAny M A (storeName env x v) (λ_ s'=>∃W',aZ (cU K env) W W'∧At C W' s'∧ay C env W'.h (bM m x v)) E s:=by
 obtain⟨ml,hn,hm⟩:=f.ns
 have hn':=hn;rw[a.h]at hn'
 have hk:K.lookup x=some .local∨K.lookup x=some .cell:=by
  unfold cK at hx
  split at hx
  ·exact .inl (by assumption)
  ·exact .inr (by assumption)
  ·cases hx
 rcases hk with hk|hk
 ·have hl:=O.kl x hk
  refine wpAny_storeName_local hl hn' (λh' hns hs=>?_) (by rw[f.kind];rfl)
  have hkeep:∀b o,¬cU K env b→s.heap.get? b=some o→h'.get? b=some o:=λb o nb e=>(hs.2 b (λq=>nb (.inl q))).trans e
  obtain⟨a',L⟩:=a.but hC O.mutN (a.h▸O.mutF f hns) hkeep (tk:=s.toks+1) (Nat.le_succ _)
  refine⟨_,L,a',⟨f.kind,⟨_,hns,λy hy=>?_⟩,f.nP,λy hy=>?_,f.glob,f.bi⟩⟩
  ·unfold bM
   by_cases e:y=x
   ·simp[e]
   ·simp[e,hm y hy]
  ·obtain⟨c,h1,h2,h3⟩:=f.cell y hy
   have ne:y≠x:=λe=>by subst e;rw[hl]at hy;rcases hy with q|q<;>cases q
   have nl:c≠env.locals:=λe=>ig hn (e▸h2)
   refine⟨c,h1,?_,h3⟩
   unfold bM;rw[if_neg ne]
   rw[a.h]at h2
   exact h2.sameBut hs nl
 ·have hl:=O.kc x hk
  obtain⟨c,h1,h2,h3⟩:=f.cell x (.inl hl)
  have h2':=h2;rw[a.h]at h2'
  refine wpAny_storeName_cell f.kind hl h1 h2' (λh' hc hs=>?_)
  have hkeep:∀b o,¬cU K env b→s.heap.get? b=some o→h'.get? b=some o:=λb o nb e=>(hs.2 b (λq=>nb (.inr ⟨x,hk,q▸h1⟩))).trans e
  have nl:env.locals≠c:=λe=>ig hn (e▸h2)
  obtain⟨a',L⟩:=a.but hC O.mutN (a.h▸O.mutF f (hn'.sameBut hs nl)) hkeep (tk:=s.toks) (Nat.le_refl _)
  refine⟨_,L,a',⟨f.kind,⟨ml,hn'.sameBut hs nl,λy hy=>?_⟩,f.nP,λy hy=>?_,f.glob,f.bi⟩⟩
  ·have ne:y≠x:=λe=>by subst e;rw[hl]at hy;cases hy
   unfold bM;rw[if_neg ne];exact hm y hy
  ·by_cases e:y=x
   ·subst e
    refine⟨c,h1,?_,h3⟩
    unfold bM;rw[if_pos rfl];exact hc
   ·obtain⟨c',k1,k2,k3⟩:=f.cell y hy
    have ne:c'≠c:=λq=>(O.cell x c hk h1).2.2 y e (q▸k1)
    refine⟨c',k1,?_,k3⟩
    unfold bM;rw[if_neg e]
    rw[a.h]at k2
    exact k2.sameBut hs ne
def sI:dA→D→Option (List (Nat×D))
 | .one i,d=>some [(i,d)]
 | .two i j,.tup [a,b]=>some [(i,a),(j,b)]
 | _,_=>Option.none
structure A3(C:Cx)(T:List Str)(K:Kd)(S:Addr→Prop)(W:Wd)(env:Env)(m:Str→Option Value)(t:dA)(bs:List (Nat×D))(W':Wd)(m':Str→Option Value)(s':Shared):Prop where
 le:aZ (cU K env) W W'
 at':At C W' s'
 fr:ay C env W'.h m'
 other:∀x,(∀j∈fy t,T[j]?≠some x)→m' x=m x
 here:∀j d,(j,d)∈bs→∃x v,T[j]?=some x∧m' x=some v∧aN S W' d v
theorem iU(hC:C.Ok)(hT:T.Nodup)(hR:bB C R A)(O:bv C K S env)(a:At C W s)(hSP:S C.P)(f:ay C env W.h m){tx:Expr}{t:dA}(ht:TG T K tx t){d:D}{v:Value}(r:aN S W d v){bs:List (Nat×D)}(e:sI t d=some bs):
  wpAny (model C.prog C.w) A (assign tx env v) (λ_ s'=>∃W' m',A3 C T K S W env m t bs W' m' s') E s:=by
 cases ht with
 | one h1 h2=>
  cases e
  refine wpAny_assign_Name (wpAny_mono (b9 O hC a f h1) (λ_ s' ⟨W',L,a',f'⟩=>⟨W',_,L,a',f',λx hx=>?_,λj d' hj=>?_⟩) λ_ _ x=>x)
  ·unfold bM
   rw[if_neg (by intro q;subst q;exact hx _ (.head _) h2)]
  ·rcases List.mem_cons.mp hj with q|q
   ·cases q
    exact⟨_,v,h2,by unfold bM;rw[if_pos rfl],r.leX L O.mutS⟩
   ·cases q
 | two h1 h2 h3 h4 hne=>
  rename_i x y p q r0 k i j
  have exy:x≠y:=λz=>by
   subst z
   have:=(List.getElem?_inj (by have:=List.getElem?_eq_some_iff.mp h3;exact this.1) hT).mp (h3.trans h4.symm)
   exact hne this
  cases d with
  | tup l=>
   cases l with
   | nil=>cases e
   | cons da l=>
    cases l with
    | nil=>cases e
    | cons db l=>
     cases l with
     | cons=>cases e
     | nil=>
      cases e
      obtain⟨b,its,rfl,nb,hb,va,_,e1,ra,vb,_,e2,rb,e3⟩:=r
      subst e2 e3
      rw[a.h]at hb
      have hsz:its.size=2:=by rw[←Array.length_toList,e1];rfl
      show wpAny _ A (assign (.Tuple [.Name x p,.Name y q] k r0) env (.ref b)) _ E s
      rw[arm_assign_Tuple]
      refine wpAny_bind (wpAny_standAt ?_)
      refine wpAny_unpack_tuple hR.r.1 hb (by rw[hsz];rfl) rfl λh' hx=>?_
      have hk:∀c o,s.heap.get? c=some o→h'.get? c=some o:=λc o hc=>hx c o (λz=>by have:=Heap.lt_size hc;rw[z]at this;exact Nat.lt_irrefl _ this) hc
      obtain⟨aq,am⟩:=a.keepW hk (tk:=s.toks) (Nat.le_refl _)
      have sJ:=f.ext am.ext
      rw[e1]
      show wpAny _ A (do holding [vb] (assign (.Name x p) env va);assignInOrder [assign (.Name y q) env] [vb]) _ E _
      refine wpAny_bind (wpAny_holding (wpAny_assign_Name (wpAny_mono (b9 O hC aq sJ h1) (λ_ ak ⟨W₂,an,au,jQ⟩=>?_) λ_ _ x=>x)))
      show wpAny _ A (do holding [] (assign (.Name y q) env vb);assignInOrder [] []) _ E ak
      refine wpAny_bind (wpAny_holding (wpAny_assign_Name (wpAny_mono (b9 O hC au jQ h2) (λ_ bF ⟨bf,aD,aO,d6⟩=>wpAny_pure ?_) λ_ _ x=>x)))
      have hSP':cU K env C.P→False:=λz=>(O.mutN _ z).nP hC rfl
      have CA:aZ (cU K env) W { W with h:=h' }:=⟨.of λc o _ hc=>by have e':W.h.get? c=some o:=hc;rw[a.h]at e';exact hk c o e',Nat.le_refl _,λ_ _=>rfl,λ_ _ _ h=>h.keeps λc o hc=>by have e':W.h.get? c=some o:=hc;rw[a.h]at e';exact hk c o e',λ_ _ h=>h⟩
      have L:=(CA.trans an).trans aD
      refine⟨bf,_,L,aO,d6,λz hz=>?_,λj' d' hj=>?_⟩
      ·unfold bM
       rw[if_neg (by intro w;subst w;exact hz _ (.tail _ (.head _)) h4),if_neg (by intro w;subst w;exact hz _ (.head _) h3)]
      ·rcases List.mem_cons.mp hj with w|w
       ·cases w
        exact⟨x,va,h3,by unfold bM;rw[if_neg exy,if_pos rfl],ra.leX L O.mutS⟩
       ·rcases List.mem_cons.mp w with w|w
        ·cases w
         exact⟨y,vb,h4,by unfold bM;rw[if_pos rfl],rb.leX L O.mutS⟩
        ·cases w
  | _=>cases e
theorem qz{t:dA}{d:D}{me me':Me}(e:gZ t d me=some me'):∃bs,sI t d=some bs∧∀j d',me'.lookup j=some d'→(j,d')∈bs∨(j∉fy t∧me.lookup j=some d'):=by
 unfold gZ at e
 split at e
 ·cases e
  refine⟨[(_,_)],rfl,λj d' h=>?_⟩
  rw[List.lookup_cons]at h
  split at h
  ·rename_i q
   cases h;rw[beq_iff_eq.mp q];exact .inl (.head _)
  ·rename_i q
   refine .inr ⟨λz=>?_,h⟩
   rcases List.mem_cons.mp z with z|z
   ·subst z;simp at q
   ·cases z
 ·cases e
  refine⟨[(_,_),(_,_)],rfl,λk d' h=>?_⟩
  rw[List.lookup_cons]at h
  split at h
  ·rename_i q
   cases h;rw[beq_iff_eq.mp q];exact .inl (.tail _ (.head _))
  ·rename_i q
   rw[List.lookup_cons]at h
   split at h
   ·rename_i q'
    cases h;rw[beq_iff_eq.mp q'];exact .inl (.head _)
   ·rename_i q'
    refine .inr ⟨λz=>?_,h⟩
    rcases List.mem_cons.mp z with rfl|z
    ·simp at q'
    ·rcases List.mem_cons.mp z with rfl|z
     ·simp at q
     ·cases z
 ·cases e
end
def i6:Value→Shared→Prop:=λ_ _=>False
section
variable{M:Model}{prog:Program}{w:World}{A:Around}{E:Value→Shared→Prop}{s:Shared}{R:Result→Shared→Prop}
abbrev qA(ifs:List Expr)(env:Env):Sem Bool:=
 forIn ifs true λc r=>if r=true then do let ok←isTrue c env (eval c env);pure (ForInStep.yield ok)else pure (ForInStep.yield r)
abbrev A4(Q:Shared→Prop):Result→Shared→Prop:=λr s'=>match r with | .ok _=>Q s' | .error _=>False
theorem mj{i:Expr}(h:oi i=true)(env:Env)(x:Value):foldedSetIterable i env x=pure x:=by
 cases i<;>first|rfl|(simp[oi]at h)
theorem fj{elt:Expr}{gens:List Comprehension}{sc:Scope}{pos:Pos}{k:Nat}{t i:Expr}{ifs:List Expr}{it acc:Value}{env:Env}
  (hg:gens[k]?=some ⟨t,i,ifs,0⟩)
  (hn:∀g',gens[k+1]?=some g'→g'.is_async=0∧oi g'.iter=true)
  (h:wpAny (model prog w) A (pyNext it) (λr ae=>match r with
   | none=>R (.ok .next) ae
   | some v=>wpAny (model prog w) A (letOwnedTupleGo t it v) (λ_ ak=>wpAny (model prog w) A (assign t env v) (λ_ bF=>wpAny (model prog w) A (qA ifs env) (λok cq=>
    if ok=true then(match gens[k+1]? with
     | some g'=>wpAny (model prog w) A (eval g'.iter env) (λx cu=>wpAny (model prog w) A (pyIter x) (λit' dp=>
       codeAny (model prog w) A (.compStart (.ListComp elt gens sc pos) (k+1) it' acc env) (A4 λs'=>codeAny (model prog w) A (.compLoop (.ListComp elt gens sc pos) k it acc env) R s') dp) i6 cu) i6 cq
     | none=>wpAny (model prog w) A (eval elt env) (λx cu=>wpAny (model prog w) A (call (.builtin "list.append") [acc,x]) (λ_ dp=>codeAny (model prog w) A (.compLoop (.ListComp elt gens sc pos) k it acc env) R dp) i6 cu) i6 cq)
    else codeAny (model prog w) A (.compLoop (.ListComp elt gens sc pos) k it acc env) R cq) i6 bF) i6 ak) i6 ae) i6 s) :
  codeAny (model prog w) A (.compLoop (.ListComp elt gens sc pos) k it acc env) R s:=by
 refine codeAny_of_tree ?_
 show wpAny _ A ((compTurn (.ListComp elt gens sc pos) k it acc env).onRaise (λx=>do noteFrame x env;theTreesLotGoes x)) _ _ s
 refine wpAny_noted ?_
 unfold compTurn
 dsimp only
 rw[hg]
 dsimp only
 refine wpAny_bind (wpAny_standAt (wpAny_bind (wpAny_mono h (λr ae aX=>?_) λ_ _ h'=>h'.elim)))
 cases r with
 | none=>exact wpAny_pure aX
 | some v=>
  refine wpAny_bind (wpAny_mono aX (λ_ ak aw=>wpAny_bind (wpAny_mono aw (λ_ bF gI=>wpAny_bind (wpAny_mono gI (λok cq qB=>?_) λ_ _ h'=>h'.elim)) λ_ _ h'=>h'.elim)) λ_ _ h'=>h'.elim)
  cases ok with
  | false=>exact wpAny_pure ⟨rfl,qB⟩
  | true=>
   rw[if_pos rfl]at qB
   rw[if_pos rfl]
   cases hg':gens[k+1]? with
   | none=>
    rw[hg']at qB
    exact wpAny_bind (wpAny_bind (wpAny_mono qB (λx cu jp=>wpAny_bind (wpAny_mono jp (λ_ dp sK=>wpAny_pure (wpAny_pure ⟨rfl,sK⟩)) λ_ _ h'=>h'.elim)) λ_ _ h'=>h'.elim))
   | some g'=>
    rw[hg']at qB
    obtain⟨ha,hi⟩:=hn g' hg'
    dsimp only
    rw[ha]
    refine wpAny_bind (wpAny_mono qB (λx cu jp=>wpAny_bind (wpAny_standAt ?_)) λ_ _ h'=>h'.elim)
    refine wpAny_bind (wpAny_of_eq (mj hi env x) (wpAny_bind (wpAny_holding (wpAny_mono jp (λit' dp sK=>?_) λ_ _ h'=>h'.elim))))
    refine wpAny_bind (wpAny_runOwn (codeAny_mono sK λr s' hr=>?_))
    cases r with
    | ok f=>exact wpAny_pure ⟨rfl,hr⟩
    | error=>exact hr.elim
theorem jq{elt:Expr}{gens:List Comprehension}{sc:Scope}{pos:Pos}{k:Nat}{t i:Expr}{ifs:List Expr}{it acc:Value}{env:Env}
  (hg:gens[k]?=some ⟨t,i,ifs,0⟩)
  (h0:codeAny (model prog w) A (.compLoop (.ListComp elt gens sc pos) k it acc env) R s)
  (h:wpAny (model prog w) A (pyIter it) (λit' s'=>codeAny (model prog w) A (.compLoop (.ListComp elt gens sc pos) k it' acc env) R s') i6 s) :
  codeAny (model prog w) A (.compStart (.ListComp elt gens sc pos) k it acc env) R s:=by
 refine codeAny_of_tree ?_
 show wpAny _ A ((compStart (.ListComp elt gens sc pos) k it acc env).onRaise (λx=>do noteFrame x env;standAt theWindowsPlace)) _ _ s
 refine wpAny_notedAt ?_
 unfold compStart
 have e:(clausesOf (.ListComp elt gens sc pos))[k]?=some ⟨t,i,ifs,0⟩:=hg
 rw[e]
 show wpAny _ _ (ask >>= _) _ _ s
 refine wpAny_bind (wpAny_askSetting (wpAny_ite ?_))
 split
 ·first
   | exact wpAny_bind (wpAny_pure (wpAny_pure (And.intro rfl h0)))
   | exact wpAny_pure (And.intro rfl h0)
 ·refine wpAny_bind (wpAny_rule ?_)
  first
   | exact wpAny_bind (wpAny_standAt (wpAny_bind (wpAny_mono h (λit' s' h'=>wpAny_pure (And.intro rfl h')) λ_ _ x=>x.elim)))
   | (show wpAny _ _ (standAt i.pos >>= _) _ _ s;exact wpAny_bind (wpAny_standAt (wpAny_bind (wpAny_mono h (λit' s' h'=>wpAny_pure (And.intro rfl h')) λ_ _ x=>x.elim))))
end
section
variable{C:Cx}{T fns:List Str}{F:Nat→List D→Option D}{R n:Nat}{K:Kd}{S:Addr→Prop}{W:Wd}{s:Shared}{env:Env}{m:Str→Option Value}{me:Me}{A:Around}{E:Value→Shared→Prop}
theorem eF(hC:C.Ok)(hR:bB C R A)(a:At C W s)(hS:SX C S W.h){tx:Expr}{t:dA}(ht:TG T K tx t){fp:List Addr}{it:Value}{xs:List D}(hf:∀b∈fp,S b)(x:cC C S W t fp it xs):
  wpAny (model C.prog C.w) A (pyNext it) (λr ae=>match xs,r with
   | [],none=>∃W',aZ (· ∈ fp) W W'∧At C W' ae
   | d::ds,some v=>wpAny (model C.prog C.w) A (letOwnedTupleGo tx it v) (λ_ s'=>∃W',aZ (· ∈ fp) W W'∧At C W' s'∧aN S W' d v∧cC C S W' t fp it ds) E ae
   | _,_=>False) E s:=by
 cases ht with
 | one h1 h2=>
  refine wpAny_mono (yN hC hR a hf x) (λr ae ⟨W',L,a',z⟩=>?_) λ_ _ x=>x
  cases xs<;>cases r
  ·exact⟨W',L,a'⟩
  ·exact z.elim
  ·exact z.elim
  ·exact wpAny_pure ⟨W',L,a',z.1,z.2⟩
 | two h1 h2 h3 h4 h5=>
  rename_i x1 y1 p1 q1 r1 k1 i1 j1
  refine wpAny_mono (yO (E:=E) (elts:=[.Name x1 p1,.Name y1 q1]) (k:=k1) (pos:=r1) hC hR a hS hf x) (λr ae z=>?_) λ_ _ x=>x
  cases xs<;>cases r<;>exact z
end
section
variable{C:Cx}{T fns:List Str}{F:Nat→List D→Option D}{R n:Nat}{K:Kd}{S:Addr→Prop}{env:Env}{m:Str→Option Value}{me:Me}{A:Around}{E:Value→Shared→Prop}
theorem qC(ifs:List Expr){s:Shared}{Q:Bool→Shared→Prop}{M:Model}(h:Q false s):wpAny M A (forIn ifs false λc r=>if r=true then do let ok←isTrue c env (eval c env);pure (ForInStep.yield ok)else pure (ForInStep.yield r)) Q E s:=by
 induction ifs with
 | nil=>exact wpAny_pure h
 | cons c r ih=>
  rw[List.forIn_cons]
  rw[if_neg (by simp)]
  exact wpAny_bind (wpAny_pure ih)
theorem qD(hC:C.Ok)(iT:ST C T fns F R n)(hR:bB C R A):∀(ifs:List Expr) (l:List X) (b:Bool) (s:Shared) (W:Wd),CL T fns K ifs l→dE (ev F n) l me=some b→At C W s→SX C S W.h→bG C T K S W env m me→
  wpAny (model C.prog C.w) A (qA ifs env) (f7 C W b) E s
 | [],_,b,s,W,h,e,hA,hS,hX=>by
  cases h;cases e
  exact wpAny_pure ⟨rfl,W,.refl ..,hA⟩
 | c::r,_,b,s,W,h,e,hA,hS,hX=>by
  cases h with
  | cons h1 h2=>
   simp only[dE]at e
   split at e
   ·rename_i d hd
    unfold qA
    rw[List.forIn_cons,if_pos rfl]
    split at e
    ·rename_i ht
     refine wpAny_bind (wpAny_bind (wpAny_mono (iT K c _ me d true A s W S env m E h1 hd ht hR hA hS hX) (λok ae ⟨e1,aj,am,aq⟩=>wpAny_pure ?_) λ_ _ x=>x))
     subst e1
     exact wpAny_mono (qD hC iT hR r _ b ae aj h2 e aq (hS.le hC am aq) (hX.le am hS.1)) (λ_ _ q=>q.trans am) λ_ _ x=>x
    ·rename_i ht
     cases e
     refine wpAny_bind (wpAny_bind (wpAny_mono (iT K c _ me d false A s W S env m E h1 hd ht hR hA hS hX) (λok ae ⟨e1,aj,am,aq⟩=>wpAny_pure ?_) λ_ _ x=>x))
     subst e1
     exact qC r ⟨rfl,aj,am,aq⟩
    ·cases e
   ·cases e
end
theorem Kp.fresh{Z Z':Addr→Prop}{h aX aw:Heap}(x:Kp Z h aX)(y:Kp Z' aX aw)(k:∀b,Z' b→Z b∨h.get? b=Option.none):Kp Z h aw:=λb o n e=>
 let ⟨o',e',q⟩:=x b o n e
 let ⟨o'',e'',q'⟩:=y b o' (λz=>(k b z).elim n λw=>by rw[w]at e;cases e) e'
 ⟨o'',e'',q.trans q'⟩
theorem Kp.step{Z:Addr→Prop}{aX aw:Heap}{b:Addr}{o:Obj}(y:Kp Z aX aw)(n:¬Z b)(x:∃o',aX.get? b=some o'∧sB o o'):∃o',aw.get? b=some o'∧sB o o':=
 let ⟨o',e',q⟩:=x;let ⟨o'',e'',q'⟩:=y b o' n e';⟨o'',e'',q.trans q'⟩
def NF(h:Heap)(b:Addr):Prop:=∀o,h.get? b=some o→(∀es ep,o.data ≠ .dict es ep)∧∀v,o.data ≠ .cell v
theorem NF.list{h:Heap}{b:Addr}{items:Array Value}(x:h.IsList b items):NF h b:=λo ho=>by
 obtain⟨o',ho',_,n,hd⟩:=x
 rw[ho]at ho';cases ho'
 rw[hd];exact⟨λ_ _=>nofun,λ_=>nofun⟩
theorem NF.fields{h:Heap}{b:Addr}{o:Obj}{vs:Array Value}(e:h.get? b=some o)(hd:o.data = .fields vs):NF h b:=λo' ho'=>by
 rw[e]at ho';cases ho'
 rw[hd];exact⟨λ_ _=>nofun,λ_=>nofun⟩
section
variable{C:Cx}{T fns:List Str}{F:Nat→List D→Option D}{R n:Nat}{K:Kd}{S XX:Addr→Prop}{W W':Wd}{s:Shared}{env:Env}{m:Str→Option Value}{me:Me}{A:Around}{E:Value→Shared→Prop}
theorem ay.leX(f:ay C env W.h m)(L:aZ XX W W')(h:∀b,XX b→b=C.P∨NF W.h b):ay C env W'.h m where
 kind:=f.kind
 ns:=let ⟨ml,h1,h2⟩:=f.ns
  ⟨ml,jH h1 L.ext (λq=>(h _ q).elim f.nP λz=>let ⟨o,es,ep,ho,hd,_⟩:=h1;(z o ho).1 es ep hd),h2⟩
 nP:=f.nP
 cell:=λx hx=>let ⟨c,h1,h2,h3⟩:=f.cell x hx
  ⟨c,h1,cN h2 L.ext (λq=>(h _ q).elim h3 λz=>let ⟨o,ho,hd⟩:=h2;(z o ho).2 _ hd),h3⟩
 glob:=f.glob
 bi:=f.bi
theorem ay.mut(f:ay C env W.h m)(O:bv C K S env){b:Addr}(hb:cU K env b):b≠C.P∧¬NF W.h b:=by
 rcases hb with rfl|⟨x,h1,h2⟩
 ·obtain⟨ml,⟨o,es,ep,ho,hd,r⟩,_⟩:=f.ns
  exact⟨f.nP,λz=>(z o ho).1 es ep hd⟩
 ·obtain⟨c,e1,⟨o,ho,hd⟩,h3⟩:=f.cell x (.inl (O.kc x h1))
  rw[h2]at e1;cases e1
  exact⟨h3,λz=>(z o ho).2 _ hd⟩
theorem dZ.nf{fp:List Addr}{it:Value}{rest:List D}(x:dZ C S W fp it rest):∀a∈fp,(∃o,W.h.get? a=some o)∧NF W.h a∧∀its,¬W.h.IsList a its:=by
 have key:∀{a:Addr} {o:Obj} {vs:Array Value},W.h.get? a=some o→o.data = .fields vs→(∃o,W.h.get? a=some o)∧NF W.h a∧∀its,¬W.h.IsList a its:=λe hd=>⟨⟨_,e⟩,.fields e hd,λits ⟨o',ho',_,n,hd'⟩=>by rw[e]at ho';cases ho';rw[hd]at hd';cases hd'⟩
 intro a ha
 cases x with
 | list h1=>
  rcases List.mem_cons.mp ha with rfl|ha
  ·obtain⟨o,ho,_,hd⟩:=h1;exact key ho hd
  ·cases ha
 | tup h1=>
  rcases List.mem_cons.mp ha with rfl|ha
  ·obtain⟨o,ho,_,hd⟩:=h1;exact key ho hd
  ·cases ha
 | str h1=>
  rcases List.mem_cons.mp ha with rfl|ha
  ·obtain⟨o,ho,_,hd⟩:=h1;exact key ho hd
  ·cases ha
 | range h0 h1=>
  rcases List.mem_cons.mp ha with rfl|ha
  ·exact key h1 rfl
  ·cases ha
theorem fe.nf{fp:List Addr}{it:Value}{rest:List D}(x:fe C S W fp it rest):∀a∈fp,(∃o,W.h.get? a=some o)∧NF W.h a∧∀its,¬W.h.IsList a its:=by
 have key:∀{a:Addr} {o:Obj} {vs:Array Value},W.h.get? a=some o→o.data = .fields vs→(∃o,W.h.get? a=some o)∧NF W.h a∧∀its,¬W.h.IsList a its:=λe hd=>⟨⟨_,e⟩,.fields e hd,λits ⟨o',ho',_,n,hd'⟩=>by rw[e]at ho';cases ho';rw[hd]at hd';cases hd'⟩
 intro a ha
 cases x with
 | enum h0 h1=>
  rcases List.mem_cons.mp ha with rfl|ha
  ·exact key h0 rfl
  ·rcases List.mem_cons.mp ha with rfl|ha
   ·obtain⟨o,ho,_,hd⟩:=h1;exact key ho hd
   ·cases ha
theorem cC.nf{t:dA}{fp:List Addr}{it:Value}{rest:List D}(x:cC C S W t fp it rest):∀a∈fp,(∃o,W.h.get? a=some o)∧NF W.h a∧∀its,¬W.h.IsList a its:=by
 cases t
 ·exact dZ.nf x
 ·exact fe.nf x
theorem aZ.fresh{aj W₂:Wd}{Z Z':Addr→Prop}(L1:aZ Z W aj)(L2:aZ Z' aj W₂)(h:∀b,Z' b→Z b∨W.h.get? b=Option.none):aZ Z W W₂:=
 ⟨L1.ext.fresh L2.ext h,Nat.le_trans L1.k L2.k,λt ht=>(L2.g t (Nat.lt_of_lt_of_le ht L1.k)).trans (L1.g t ht),λcv q ne h=>L2.cr cv q ne (L1.cr cv q ne h),λi z h=>L2.gn i z (L1.gn i z h)⟩
theorem SX.leX(x:SX C S W.h)(L:aZ XX W W')(h:∀b,XX b→S b→∃o,W'.h.get? b=some o):SX C S W'.h:=
 ⟨x.1,λb hb=>by
  by_cases q:XX b
  ·exact h b q hb
  ·obtain⟨o,ho⟩:=x.2 b hb
   exact L.ext.there q ho⟩
structure CR(C:Cx)(S:Addr→Prop)(W:Wd)(env:Env)(m:Str→Option Value)(l:Addr)(ds:List D):Prop where
 fr:ay C env W.h m
 list:∃items,W.h.IsList l items∧av S W ds items.toList
theorem ay.there(f:ay C env W.h m)(O:bv C K S env){b:Addr}(hb:cU K env b):∃o,W.h.get? b=some o:=by
 rcases hb with rfl|⟨x,h1,h2⟩
 ·obtain⟨ml,⟨o,es,ep,ho,_⟩,_⟩:=f.ns
  exact⟨o,ho⟩
 ·obtain⟨c,e1,⟨o,ho,hd⟩,h3⟩:=f.cell x (.inl (O.kc x h1))
  rw[h2]at e1;cases e1
  exact⟨o,ho⟩
theorem bO.keep{js:List Nat}{m':Str→Option Value}(hT:T.Nodup)(x:bO T S W m me)(L:aZ XX W W')(hX:∀a,XX a→S a)(hm:∀x,(∀j∈js,T[j]?≠some x)→m' x=m x)(hj:∀j∈js,me.lookup j=Option.none):bO T S W' m' me:=λi d h=>by
 obtain⟨y,v,h1,h2,h3⟩:=x i d h
 refine⟨y,v,h1,(hm y λj hjs e=>?_).trans h2,h3.leX L hX⟩
 have:j=i:=(List.getElem?_inj (List.getElem?_eq_some_iff.mp e).1 hT).mp (e.trans h1.symm)
 subst this
 rw[hj j hjs]at h;cases h
theorem bO.took{t:dA}{d:D}{me':Me}{m':Str→Option Value}{bs:List (Nat×D)}{s':Shared}(hT:T.Nodup)(x:bO T S W m me)(O:bv C K S env)(k:A3 C T K S W env m t bs W' m' s')
  (hb:∀j d',me'.lookup j=some d'→(j,d')∈bs∨(j∉fy t∧me.lookup j=some d')):bO T S W' m' me':=λi d h=>by
 rcases hb i d h with h|⟨h1,h2⟩
 ·obtain⟨y,v,e1,e2,e3⟩:=k.here i d h
  exact⟨y,v,e1,e2,e3⟩
 ·obtain⟨y,v,e1,e2,e3⟩:=x i d h2
  refine⟨y,v,e1,(k.other y λj hj e=>?_).trans e2,e3.leX k.le O.mutS⟩
  have:j=i:=(List.getElem?_inj (List.getElem?_eq_some_iff.mp e).1 hT).mp (e.trans e1.symm)
  exact h1 (this▸hj)
def uh(e:X→Me→Option D)(it:dA→X→Me→Option (List D))(elt:X)(t:dA)(ifs:List X)(gs:List (dA×X×List X))(me:Me)(d:D):Option (List D):=
 match gZ t d me with
 | some me'=>(match dE e ifs me' with
  | some true=>hU e it elt gs me'
  | some false=>some []
  | Option.none=>Option.none)
 | Option.none=>Option.none
theorem oq{e:X→Me→Option D}{it:dA→X→Me→Option (List D)}{elt:X}{t:dA}{i:X}{ifs:List X}{gs:List (dA×X×List X)}{me:Me}{ds:List D}(h:hU e it elt ((t,i,ifs)::gs) me=some ds):
  ∃xs,it t i me=some xs∧ib (uh e it elt t ifs gs me) xs=some ds:=by
 unfold hU at h
 split at h
 ·rename_i xs hx
  exact⟨xs,hx,h⟩
 ·cases h
def Zs(C:Cx)(K:Kd)(env:Env)(l:Addr)(fp:List Addr):Addr→Prop:=λb=>b=C.P∨cU K env b∨b=l∨b∈fp
def A5(C:Cx)(T fns:List Str)(F:Nat→List D→Option D)(n:Nat)(K:Kd)(env:Env)(A:Around)(elt:Expr)(all:List Comprehension)(sc:Scope)(pos:Pos)(a:X)(l:Addr)(gs:List (dA×X×List X)):Prop:=
 ∀(k:Nat) (rest:List Comprehension) (t i:Expr) (ifs:List Expr) (t':dA) (ifs':List X),all.drop k=⟨t,i,ifs,0⟩::rest→TG T K t t'→CL T fns K ifs ifs'→CG T fns K rest gs→(fy t'++eX gs).Nodup→
 ∀(xs:List D) (s:Shared) (W:Wd) (S:Addr→Prop) (m:Str→Option Value) (me:Me) (fp:List Addr) (it:Value) (done ds:List D),
  At C W s→SX C S W.h→bv C K S env→CR C S W env m l done→S l→bO T S W m me→(∀j∈fy t'++eX gs,me.lookup j=Option.none)→cC C S W t' fp it xs→(∀b∈fp,S b)→
  ib (uh (ev F n) (gY (ev F n)) a t' ifs' gs me) xs=some ds→(done++ds).length≤100000→
  codeAny (model C.prog C.w) A (.compLoop (.ListComp elt all sc pos) k it (.ref l) env) (A4 λs'=>∃W' m',aZ (Zs C K env l fp) W W'∧At C W' s'∧CR C S W' env m' l (done++ds)∧∀x,(∀j∈fy t'++eX gs,T[j]?≠some x)→m' x=m x) s
theorem Zs.sub{l:Addr}{fp:List Addr}(hS:S C.P)(O:bv C K S env)(hl:S l)(hf:∀b∈fp,S b):∀b,Zs C K env l fp b→S b:=λb h=>by
 rcases h with rfl|h|rfl|h
 ·exact hS
 ·exact O.mutS _ h
 ·exact hl
 ·exact hf _ h
theorem wK(hC:C.Ok)(a:At C W s){l:Addr}(hl:Nw C l)(hS:S l){ds:List D}(c:CR C S W env m l ds){d:D}{v:Value}(r:aN S W d v)(hsz:ds.length≤100000):
  wpAny (model C.prog C.w) A (call (.builtin "list.append") [.ref l,v]) (λ_ s'=>∃W',aZ (· = l) W W'∧At C W' s'∧CR C S W' env m l (ds++[d])) E s:=by
 obtain⟨items,h1,h2⟩:=c.list
 have h1':=h1;rw[a.h]at h1'
 refine wpAny_list_append h1' (λh' hl' hs=>?_) (by have:=h2.length;rw[Array.length_toList]at this;unfold sizeLine;omega)
 obtain⟨a',L⟩:=a.but hC (X:=(· = l)) (λb hb=>hb▸hl) (λb hb=>hb ▸ .seq h1') (λb o n e=>(hs.2 b n).trans e) (tk:=s.toks) (Nat.le_refl _)
 have hX:∀b,b=l→S b:=λb hb=>hb▸hS
 refine⟨_,L,a',c.fr.leX L (λb hb=>.inr (hb ▸ .list h1)),_,hl',?_⟩
 rw[Array.toList_push]
 exact(h2.leX L hX).append ⟨v,[],rfl,r.leX L hX,rfl⟩
end
section
variable{C:Cx}{T fns:List Str}{F:Nat→List D→Option D}{R n:Nat}{K:Kd}{env:Env}{A:Around}{elt:Expr}{all:List Comprehension}{sc:Scope}{pos:Pos}{a:X}{l:Addr}
theorem mq{α β:Type}{f:α→Option (List β)}{x:α}{r:List α}{ds:List β}(h:ib f (x::r)=some ds):∃y ys,f x=some y∧ib f r=some ys∧ds=y++ys:=by
 unfold ib at h
 split at h
 ·rename_i y hy
  split at h
  ·rename_i ys hys
   cases h;exact⟨y,ys,hy,hys,rfl⟩
  ·cases h
 ·cases h
theorem mr{e:X→Me→Option D}{it:dA→X→Me→Option (List D)}{elt:X}{t:dA}{ifs:List X}{gs:List (dA×X×List X)}{me:Me}{d:D}{ds:List D}(h:uh e it elt t ifs gs me d=some ds):
  ∃me' b,gZ t d me=some me'∧dE e ifs me'=some b∧(b=true→hU e it elt gs me'=some ds)∧(b=false→ds=[]):=by
 unfold uh at h
 split at h
 ·rename_i me' h1
  split at h
  ·rename_i h2
   exact⟨me',true,h1,h2,λ_=>h,nofun⟩
  ·rename_i h2
   cases h
   exact⟨me',false,h1,h2,nofun,λ_=>rfl⟩
  ·cases h
 ·cases h
theorem sL{t:dA}{d:D}{me me':Me}(h:gZ t d me=some me'){j:Nat}(hj:j∉fy t):me'.lookup j=me.lookup j:=by
 unfold gZ at h
 split at h
 ·cases h
  rw[List.lookup_cons]
  split
  ·rename_i q;exact absurd (by rw[beq_iff_eq.mp q];exact .head _) hj
  ·rfl
 ·cases h
  rw[List.lookup_cons]
  split
  ·rename_i q;exact absurd (by rw[beq_iff_eq.mp q];exact .tail _ (.head _)) hj
  ·rw[List.lookup_cons]
   split
   ·rename_i q;exact absurd (by rw[beq_iff_eq.mp q];exact .head _) hj
   ·rfl
 ·cases h
theorem CR.leX{S X:Addr→Prop}{W W':Wd}{m:Str→Option Value}{ds:List D}(c:CR C S W env m l ds)(L:aZ X W W')(hX:∀b,X b→S b)(h:∀b,X b→b=C.P∨NF W.h b)(hl:¬X l):CR C S W' env m l ds:=
 ⟨c.fr.leX L h,let ⟨its,r1,r2⟩:=c.list;⟨its,bo r1 L.ext hl,r2.leX L hX⟩⟩
theorem ii{M:Model}{c:Code}{Q Q':Shared→Prop}{s:Shared}(h:codeAny M A c (A4 Q) s)(k:∀s',Q s'→Q' s'):codeAny M A c (A4 Q') s:=codeAny_mono h λr s' q=>by
 cases r with
 | ok=>exact k s' q
 | error=>exact q.elim
theorem mt(hL:Lk C T fns F R)(hT:T.Nodup)(iT:ST C T fns F R n)(hR:bB C R A)(hK:Ag K env)(hl:Nw C l){t:Expr}{t':dA}{ifs:List Expr}{ifs':List X}(ht:TG T K t t')(hi:CL T fns K ifs ifs')
  {d:D} {xs:List D} {s:Shared} {W:Wd} {S:Addr→Prop} {m:Str→Option Value} {me me':Me} {fp:List Addr} {it:Value} {done:List D} {b:Bool}
  (hA:At C W s) (hS:SX C S W.h) (O:bv C K S env) (c:CR C S W env m l done) (hSl:S l) (hv:bO T S W m me) (hit:cC C S W t' fp it (d::xs)) (hf:∀b∈fp,S b)
  (b1:gZ t' d me=some me') (b2:dE (ev F n) ifs' me'=some b) :
  wpAny (model C.prog C.w) A (pyNext it) (λr ae=>match r with
   | none=>False
   | some v=>wpAny (model C.prog C.w) A (letOwnedTupleGo t it v) (λ_ ak=>wpAny (model C.prog C.w) A (assign t env v) (λ_ bF=>wpAny (model C.prog C.w) A (qA ifs env) (λok cq=>ok=b∧
    ∃aB i7,aZ (Zs C K env l fp) W aB∧At C aB cq∧SX C S aB.h∧CR C S aB env i7 l done∧bO T S aB i7 me'∧(∀x,(∀j∈fy t',T[j]?≠some x)→i7 x=m x)∧cC C S aB t' fp it xs) i6 bF) i6 ak) i6 ae) i6 s:=by
 have hC:=hL.ok
 refine wpAny_mono (eF (E:=i6) hC hR hA hS ht hf hit) (λr ae z=>?_) λ_ _ x=>x
 cases r with
 | none=>exact z.elim
 | some v=>
  refine wpAny_mono z (λ_ ak ⟨W₂,an,au,rv,eP⟩=>?_) λ_ _ x=>x
  obtain⟨its,hls,_⟩:=c.list
  have kF:CR C S W₂ env m l done:=c.leX an hf (λb hb=>.inr (hit.nf b hb).2.1) (λq=>(hit.nf _ q).2.2 its hls)
  have mh:SX C S W₂.h:=hS.leX an λb hb _=>(eP.nf b hb).1
  have Ei:bO T S W₂ m me:=hv.keep (js:=[]) hT an hf (λ_ _=>rfl) nofun
  obtain⟨bs,hbs,hb⟩:=qz b1
  refine wpAny_mono (iU hC hT hR O au hS.1 kF.fr ht rv hbs) (λ_ bF ⟨bf,dG,k⟩=>?_) λ_ _ x=>x
  obtain⟨wM,wN,CB⟩:=kF.list
  have nm:∀{b},cU K env b→NF W₂.h b→False:=λhb q=>(kF.fr.mut O hb).2 q
  have A6:CR C S bf env dG l done:=by
   exact⟨k.fr,wM,bo wN k.le.ext (λq=>nm q (.list wN)),CB.leX k.le O.mutS⟩
  have o8:SX C S bf.h:=mh.leX k.le λb hb _=>k.fr.there O hb
  have CC:=Ei.took (d:=d) hT O k hb
  have fA:cC C S bf t' fp it xs:=eP.leX k.le O.mutS (λb hb q=>nm q (eP.nf b hb).2.1)
  refine wpAny_mono (qD (me:=me') (m:=dG) hC iT hR ifs ifs' b bF bf hi b2 k.at' o8 ⟨k.fr,hK,CC⟩) (λok cq ⟨e,aB,aU,bH⟩=>⟨e,aB,dG,?_⟩) λ_ _ x=>x
  have LP:aZ (· = C.P) bf aB:=aU.leX rfl
  have hXP:∀b,b=C.P→S b:=λb hb=>hb▸hS.1
  refine⟨?_,bH,o8.le hC aU bH,A6.leX LP hXP (λb hb=>.inl hb) (hl.nP hC),⟨λi d h=>let ⟨y,v,h1,h2,h3⟩:=CC i d h;⟨y,v,h1,h2,h3.le aU hS.1⟩,k.other,fA.leX LP hXP (λb hb=>(fA.nw b hb).nP hC)⟩⟩
  exact((an.sub λb hb=>.inr (.inr (.inr hb))).trans (k.le.sub λb hb=>.inr (.inl hb))).trans (LP.sub λb hb=>.inl hb)
theorem yP(hL:Lk C T fns F R)(hT:T.Nodup)(iE:SE C T fns F R n)(iT:ST C T fns F R n)(hR:bB C R A)(hK:Ag K env)(hl:Nw C l)(he:CE T fns K elt a):
  ∀gs,A5 C T fns F n K env A elt all sc pos a l gs:=by
 have hC:=hL.ok
 intro gs
 induction gs with
 | nil=>
  intro k rest t i ifs t' ifs' hk ht hi hg hnd xs
  cases hg
  obtain⟨e1,e2⟩:=dO hk
  have e3:=fh e2
  have hgo:∀g',all[k+1]?=some g'→g'.is_async=0∧oi g'.iter=true:=λg' hg'=>by rw[e3]at hg';cases hg'
  induction xs with
  | nil=>
   intro s W S m me fp it done ds hA hS O c hSl hv hno hit hf hfl hsz
   cases hfl
   refine fj e1 hgo (wpAny_mono (eF (E:=i6) hC hR hA hS ht hf hit) (λr ae z=>?_) λ_ _ x=>x)
   cases r with
   | some=>exact z.elim
   | none=>
    obtain⟨aj,am,aq⟩:=z
    rw[List.append_nil]
    obtain⟨its,hls,_⟩:=c.list
    exact⟨aj,m,am.sub λb hb=>.inr (.inr (.inr hb)),aq,c.leX am hf (λb hb=>.inr (hit.nf b hb).2.1) (λq=>(hit.nf _ q).2.2 its hls),λ_ _=>rfl⟩
  | cons d xs ih=>
   intro s W S m me fp it done ds hA hS O c hSl hv hno hit hf hfl hsz
   obtain⟨y,ys,q1,q2,rfl⟩:=mq hfl
   obtain⟨me',b,b1,b2,b3,b4⟩:=mr q1
   have zs:=Zs.sub (l:=l) hS.1 O hSl hf
   refine fj e1 hgo (wpAny_mono (mt hL hT iT hR hK hl ht hi hA hS O c hSl hv hit hf b1 b2) (λr ae z=>?_) λ_ _ x=>x)
   cases r with
   | none=>exact z.elim
   | some v=>
    refine wpAny_mono z (λ_ ak z=>wpAny_mono z (λ_ bF z=>wpAny_mono z (λok cq ⟨e,aB,i7,aU,bH,dH,i8,vg,A7,eQ⟩=>?_) λ_ _ x=>x) λ_ _ x=>x) λ_ _ x=>x
    have mu:∀x,(∀j∈fy t'++eX [],T[j]?≠some x)→i7 x=m x:=λx hx=>A7 x λj hj=>hx j (List.mem_append_left _ hj)
    have vb:bO T S aB i7 me:=hv.keep hT aU zs mu hno
    subst e
    cases ok with
    | false=>
     have:=b4 rfl;subst this
     rw[if_neg (by simp)]
     refine ii (ih cq aB S i7 me fp it done ys bH dH O i8 hSl vb hno eQ hf q2 (by simpa using hsz)) λs' ⟨W',m',L',a',c',o'⟩=>⟨W',m',aU.trans L',a',by simpa using c',λx hx=>(o' x hx).trans (mu x hx)⟩
    | true=>
     rw[if_pos rfl,e3]
     have hc:=b3 rfl
     unfold hU at hc
     split at hc
     ·rename_i d' hd'
      cases hc
      refine wpAny_mono (iE K elt a me' d' A cq aB S env i7 i6 he hd' hR bH dH ⟨i8.fr,hK,vg⟩) (λu cu ⟨dI,bI,dJ,qE⟩=>?_) λ_ _ x=>x
      have LP:aZ (· = C.P) aB dI:=bI.leX rfl
      have hXP:∀b,b=C.P→S b:=λb hb=>hb▸hS.1
      have kG:=i8.leX LP hXP (λb hb=>.inl hb) (hl.nP hC)
      refine wpAny_mono (wK hC dJ hl hSl kG qE (by simp at hsz;omega)) (λ_ dp ⟨cx,cY,eG,sM⟩=>?_) λ_ _ x=>x
      have L46:aZ (Zs C K env l fp) aB cx:=(LP.sub λb hb=>.inl hb).trans (cY.sub λb hb=>.inr (.inr (.inl hb)))
      have L06:=aU.trans L46
      have g7:=eQ.leX LP hXP (λb hb=>(eQ.nw b hb).nP hC)
      obtain⟨A8,A9,_⟩:=kG.list
      have g8:cC C S cx t' fp it xs:=g7.leX cY (λb hb=>hb▸hSl) (λb hb q=>(g7.nf b hb).2.2 A8 (q▸A9))
      have Ba:SX C S cx.h:=(dH.le hC bI dJ).leX cY λb hb _=>by obtain⟨its,⟨o,ho,_⟩,_⟩:=sM.list;exact⟨o,hb▸ho⟩
      refine ii (ih dp cx S i7 me fp it (done++[d']) ys eG Ba O sM hSl (vb.keep (js:=[]) hT L46 zs (λ_ _=>rfl) nofun) hno g8 hf q2 (by simpa using hsz)) λs' ⟨W',m',L',a',c',o'⟩=>⟨W',m',L06.trans L',a',by simpa using c',λx hx=>(o' x hx).trans (mu x hx)⟩
     ·cases hc
 | cons g gs ihg=>
  intro k rest t i ifs t' ifs' hk ht hi hg hnd xs
  cases hg with
  | cons ht2 hi2 hf2 hg2=>
  rename_i t2 i2 ifs2 rest2 t2' i2' ifs2'
  obtain⟨e1,e2⟩:=dO hk
  have e3:=(dO e2).1
  have hgo:∀g',all[k+1]?=some g'→g'.is_async=0∧oi g'.iter=true:=λg' hg'=>by rw[e3]at hg';cases hg';exact⟨rfl,aH hi2⟩
  have htg:eX ((t2',i2',ifs2')::gs)=fy t2'++eX gs:=rfl
  rw[htg]at hnd ⊢
  induction xs with
  | nil=>
   intro s W S m me fp it done ds hA hS O c hSl hv hno hit hf hfl hsz
   cases hfl
   refine fj e1 hgo (wpAny_mono (eF (E:=i6) hC hR hA hS ht hf hit) (λr ae z=>?_) λ_ _ x=>x)
   cases r with
   | some=>exact z.elim
   | none=>
    obtain⟨aj,am,aq⟩:=z
    rw[List.append_nil]
    obtain⟨its,hls,_⟩:=c.list
    exact⟨aj,m,am.sub λb hb=>.inr (.inr (.inr hb)),aq,c.leX am hf (λb hb=>.inr (hit.nf b hb).2.1) (λq=>(hit.nf _ q).2.2 its hls),λ_ _=>rfl⟩
  | cons d xs ih=>
   intro s W S m me fp it done ds hA hS O c hSl hv hno hit hf hfl hsz
   obtain⟨y,ys,q1,q2,rfl⟩:=mq hfl
   obtain⟨me',b,b1,b2,b3,b4⟩:=mr q1
   have zs:=Zs.sub (l:=l) hS.1 O hSl hf
   refine fj e1 hgo (wpAny_mono (mt hL hT iT hR hK hl ht hi hA hS O c hSl hv hit hf b1 b2) (λr ae z=>?_) λ_ _ x=>x)
   cases r with
   | none=>exact z.elim
   | some v=>
    refine wpAny_mono z (λ_ ak z=>wpAny_mono z (λ_ bF z=>wpAny_mono z (λok cq ⟨e,aB,i7,aU,bH,dH,i8,vg,A7,eQ⟩=>?_) λ_ _ x=>x) λ_ _ x=>x) λ_ _ x=>x
    have mu:∀x,(∀j∈fy t'++(fy t2'++eX gs),T[j]?≠some x)→i7 x=m x:=λx hx=>A7 x λj hj=>hx j (List.mem_append_left _ hj)
    have vb:bO T S aB i7 me:=hv.keep hT aU zs mu hno
    subst e
    cases ok with
    | false=>
     have:=b4 rfl;subst this
     rw[if_neg (by simp)]
     refine ii (ih cq aB S i7 me fp it done ys bH dH O i8 hSl vb hno eQ hf q2 (by simpa using hsz)) λs' ⟨W',m',L',a',c',o'⟩=>⟨W',m',aU.trans L',a',by simpa using c',λx hx=>(o' x hx).trans (mu x hx)⟩
    | true=>
     rw[if_pos rfl,e3]
     dsimp only
     obtain⟨xs2,hx2,hfl2⟩:=oq (b3 rfl)
     refine wpAny_mono (o7 hL iE hi2 hx2 hR bH dH ⟨i8.fr,hK,vg⟩) (λu cu z=>wpAny_mono z (λit' dp ⟨fp2,cx,jr,g8⟩=>?_) λ_ _ x=>x) λ_ _ x=>x
     have LP:aZ (· = C.P) aB cx:=jr.le.leX rfl
     have hXP:∀b,b=C.P→S b:=λb hb=>hb▸hS.1
     have sM:=i8.leX LP hXP (λb hb=>.inl hb) (hl.nP hC)
     have pl:∀b,S b→aM S fp2 b:=λb hb=>.inl hb
     have CD:=dH.le hC jr.le jr.at'
     have Ba:SX C (aM S fp2) cx.h:=⟨.inl hS.1,λb hb=>hb.elim (CD.2 b) λq=>(jr.fresh b q).2.2⟩
     have gr:∀b,aM S fp2 b→S b∨aB.h.get? b=Option.none:=λb hb=>hb.imp id λq=>(jr.fresh b q).1
     have Ej:bO T (aM S fp2) cx i7 me':=λi d h=>let ⟨y,v,h1,h2,h3⟩:=vg i d h;⟨y,v,h1,h2,(aN.grow gr _ h3).le jr.le (.inl hS.1)⟩
     have CF:CR C (aM S fp2) cx env i7 l done:=⟨sM.fr,by
      obtain⟨its,r1,r2⟩:=i8.list
      exact⟨its,bo r1 LP.ext (hl.nP hC),(av.grow gr _ r2).le jr.le (.inl hS.1)⟩⟩
     have hno':∀j∈fy t2'++eX gs,me'.lookup j=Option.none:=λj hj=>by
      rw[sL b1 (λq=>(List.nodup_append.mp hnd).2.2 j q j hj rfl)]
      exact hno j (List.mem_append_right _ hj)
     have inner:codeAny (model C.prog C.w) A (.compLoop (.ListComp elt all sc pos) (k+1) it' (.ref l) env) (A4 λs'=>codeAny (model C.prog C.w) A (.compLoop (.ListComp elt all sc pos) k it (.ref l) env) (A4 λs'=>∃W' m',aZ (Zs C K env l fp) W W'∧At C W' s'∧CR C S W' env m' l (done++(y++ys))∧∀x,(∀j∈fy t'++(fy t2'++eX gs),T[j]?≠some x)→m' x=m x) s') dp:=by
      refine ii (ihg (k+1) rest2 t2 i2 ifs2 t2' ifs2' e2 ht2 hf2 hg2 (List.nodup_append.mp hnd).2.1 xs2 dp cx (aM S fp2) i7 me' fp2 it' done y jr.at' Ba (O.sub pl) CF (.inl hSl) Ej hno' g8 (λb hb=>.inr hb) hfl2 (by simp at hsz ⊢;omega)) λkH ⟨eA,qG,eZ,fK,yQ,Ek⟩=>?_
      have L48:aZ (λb=>b=C.P∨cU K env b∨b=l) aB eA:=aZ.fresh (LP.sub λb hb=>.inl hb) eZ λb hb=>by
       rcases hb with h|h|h|h
       ·exact .inl (.inl h)
       ·exact .inl (.inr (.inl h))
       ·exact .inl (.inr (.inr h))
       ·exact .inr (jr.fresh b h).1
      have hXX:∀b,(b=C.P∨cU K env b∨b=l)→S b:=λb hb=>zs b (by
       rcases hb with h|h|h
       ·exact .inl h
       ·exact .inr (.inl h)
       ·exact .inr (.inr (.inl h)))
      have L48':aZ (Zs C K env l fp) aB eA:=L48.sub λb hb=>by
       rcases hb with h|h|h
       ·exact .inl h
       ·exact .inr (.inl h)
       ·exact .inr (.inr (.inl h))
      obtain⟨Bb,Bc,_⟩:=i8.list
      have CH:cC C S eA t' fp it xs:=eQ.leX L48 hXX λb hb q=>by
       rcases q with h|h|h
       ·exact(eQ.nw b hb).nP hC h
       ·exact(i8.fr.mut O h).2 (eQ.nf b hb).2.1
       ·exact(eQ.nf b hb).2.2 Bb (h▸Bc)
      have CJ:CR C S eA env qG l (done++y):=⟨yQ.fr,let ⟨its,h1,h2⟩:=yQ.list;⟨its,h1,av.sub pl _ h2⟩⟩
      have El:SX C S eA.h:=dH.leX L48 λb hb hSb=>by
       rcases hb with h|h|h
       ·subst h
        obtain⟨o,ho⟩:=hC.Pin
        obtain⟨o',ho'⟩:=fK.inv.old.there _ _ ho
        exact⟨o',by rw[fK.h];exact ho'⟩
       ·exact yQ.fr.there (O.sub pl) h
       ·obtain⟨its,⟨o,ho,_⟩,_⟩:=yQ.list;exact⟨o,h▸ho⟩
      have Ah:∀x,(∀j∈fy t'++(fy t2'++eX gs),T[j]?≠some x)→qG x=m x:=λx hx=>(Ek x λj hj=>hx j (List.mem_append_right _ hj)).trans (mu x hx)
      refine ii (ih kH eA S qG me fp it (done++y) ys fK El O CJ hSl (hv.keep hT (aU.trans L48') zs Ah hno) hno CH hf q2 (by simpa using hsz)) λs' ⟨W',m',L',a',c',o'⟩=>⟨W',m',(aU.trans L48').trans L',a',by simpa using c',λx hx=>(o' x hx).trans (Ah x hx)⟩
     exact jq e3 inner (g8.again jr.at' inner)
end
def vh(env:Env)(x:Str):Option NameKind→Option NameKind
 | some .free=>some (if(env.scope.kind == .function&&env.kindOf x==some .cell)=true then .cell else .free)
 | k=>k
theorem ij(env:Env):∀(names:List (Str×NameKind)) (x:Str),
  (names.map λ(n,k)=>if(k==NameKind.free&&env.scope.kind == .function&&env.kindOf n==some .cell)then(n,NameKind.cell)else(n,k)).lookup x=vh env x (names.lookup x)
 | [],_=>rfl
 | (n,k)::r,x=>by
  have ih:=ij env r x
  show List.lookup x ((if(k==NameKind.free&&env.scope.kind == .function&&env.kindOf n==some .cell)=true then(n,NameKind.cell)else(n,k))::_)=_
  cases hx:x==n with
  | true=>
   have e:=beq_iff_eq.mp hx
   subst e
   simp only[List.lookup_cons,hx]
   cases k<;>simp only[vh]
   ·simp[List.lookup_cons]
   ·simp[List.lookup_cons]
   ·by_cases hc:(env.scope.kind == .function&&env.kindOf x==some .cell)=true
    ·have:(NameKind.free==NameKind.free&&env.scope.kind == .function&&env.kindOf x==some .cell)=true:=by simpa using hc
     rw[if_pos this,if_pos hc];simp[List.lookup_cons]
    ·have:¬(NameKind.free==NameKind.free&&env.scope.kind == .function&&env.kindOf x==some .cell)=true:=by simpa using hc
     rw[if_neg this,if_neg hc];simp[List.lookup_cons]
   ·simp[List.lookup_cons]
   ·simp[List.lookup_cons]
  | false=>
   by_cases hc:(k==NameKind.free&&env.scope.kind == .function&&env.kindOf n==some .cell)=true
   ·rw[if_pos hc];simp only[List.lookup_cons,hx];exact ih
   ·rw[if_neg hc];simp only[List.lookup_cons,hx];exact ih
theorem o9{env:Env}(f:Str×NameKind→List (Str×Addr)→Sem (ForInStep (List (Str×Addr))))
  (hf:∀name kind cs,f (name,kind) cs=if kind == .free then(do let c←cellOf env name;pure (.yield ((name,c)::cs)))else pure (.yield cs)) :
  ∀(names:List (Str×NameKind)) (acc:List (Str×Addr)),(∀x,(x,NameKind.free)∈names→∃c,env.cells.lookup x=some c)→
   ∃cl,forIn names acc f=pure cl∧(∀x c,(x,c)∈cl→(x,c)∈acc∨((x,NameKind.free)∈names∧env.cells.lookup x=some c))∧(∀x,(x,NameKind.free)∈names→∃c,(x,c)∈cl)∧∀p∈acc,p∈cl
 | [],acc,_=>⟨acc,rfl,λ_ _ h=>.inl h,nofun,λ_ h=>h⟩
 | (name,kind)::r,acc,h=>by
  rw[List.forIn_cons,hf]
  by_cases hk:(kind==NameKind.free)=true
  ·have e:=beq_iff_eq.mp hk
   subst e
   obtain⟨c,hc⟩:=h name (.head _)
   obtain⟨cl,h1,h2,h3,h4⟩:=o9 f hf r ((name,c)::acc) λx hx=>h x (.tail _ hx)
   refine⟨cl,?_,λx c' hx=>?_,λx hx=>?_,λp hp=>h4 p (.tail _ hp)⟩
   ·rw[if_pos hk]
    unfold cellOf
    rw[hc]
    exact h1
   ·rcases h2 x c' hx with z|z
    ·rcases List.mem_cons.mp z with z|z
     ·cases z;exact .inr ⟨.head _,hc⟩
     ·exact .inl z
    ·exact .inr ⟨.tail _ z.1,z.2⟩
   ·rcases List.mem_cons.mp hx with z|z
    ·cases z;exact⟨c,h4 _ (.head _)⟩
    ·exact h3 x z
  ·obtain⟨cl,h1,h2,h3,h4⟩:=o9 f hf r acc λx hx=>h x (.tail _ hx)
   refine⟨cl,?_,λx c' hx=>(h2 x c' hx).imp id λz=>⟨.tail _ z.1,z.2⟩,λx hx=>?_,h4⟩
   ·rw[if_neg hk];exact h1
   ·rcases List.mem_cons.mp hx with z|z
    ·cases z;exact absurd rfl hk
    ·exact h3 x z
theorem jd{sc:Scope}{env:Env}(h:∀x,(x,NameKind.free)∈sc.names→∃c,env.cells.lookup x=some c):
  ∃cl,closureFor sc env=pure cl∧(∀x c,(x,c)∈cl→(x,NameKind.free)∈sc.names∧env.cells.lookup x=some c)∧∀x,(x,NameKind.free)∈sc.names→∃c,(x,c)∈cl:=by
 obtain⟨cl,h1,h2,h3,_⟩:=o9 (env:=env) (λx cs=>do
   let (name,kind):=x
   if kind == .free then do
    let c←cellOf env name
    pure (.yield ((name,c)::cs))
   else pure (.yield cs)) (λ_ _ _=>rfl) sc.names [] h
 refine⟨cl,?_,λx c hx=>(h2 x c hx).elim nofun id,h3⟩
 have e:closureFor sc env=(forIn sc.names [] (λx cs=>do
   let (name,kind):=x
   if kind == .free then do
    let c←cellOf env name
    pure (.yield ((name,c)::cs))
   else pure (.yield cs)) >>= λcs=>pure cs):=rfl
 rw[e,h1];rfl
theorem eH:∀(names:List (Str×NameKind)) (n:Nat) (a b:List (Str×Addr)),cellsFrom n names (a++b)=cellsFrom n names a++b
 | [],_,_,_=>rfl
 | (name,kind)::r,n,a,b=>by
  unfold cellsFrom
  split
  ·exact eH r (n+1) ((name,n)::a) b
  ·exact eH r n a b
theorem fW:∀(names:List (Str×NameKind)) (n:Nat) (acc:List (Str×Addr)) (x:Str) (c:Addr),(x,c)∈cellsFrom n names acc→(x,NameKind.cell)∈names∨(x,c)∈acc
 | [],_,_,_,_,h=>.inr h
 | (name,kind)::r,n,acc,x,c,h=>by
  unfold cellsFrom at h
  split at h
  ·rename_i hk
   rcases fW r _ _ x c h with z|z
   ·exact .inl (.tail _ z)
   ·rcases List.mem_cons.mp z with z|z
    ·cases z;rw[beq_iff_eq.mp hk];exact .inl (.head _)
    ·exact .inr z
  ·exact(fW r _ _ x c h).imp (.tail _) id
theorem fX:∀(names:List (Str×NameKind)) (n:Nat) (acc:List (Str×Addr)) (p:Str×Addr),p∈acc→p∈cellsFrom n names acc
 | [],_,_,_,h=>h
 | (name,kind)::r,n,acc,p,h=>by
  unfold cellsFrom
  split
  ·exact fX r _ _ p (.tail _ h)
  ·exact fX r _ _ p h
theorem ce:∀(names:List (Str×NameKind)) (n:Nat) (acc:List (Str×Addr)) (x:Str),(x,NameKind.cell)∈names→∃c,(x,c)∈cellsFrom n names acc
 | (name,kind)::r,n,acc,x,h=>by
  unfold cellsFrom
  rcases List.mem_cons.mp h with z|z
  ·cases z
   exact⟨n,by rw[if_pos (by decide)];exact fX r _ _ _ (.head _)⟩
  ·split
   ·exact ce r _ _ x z
   ·exact ce r _ _ x z
theorem a7{α:Type}:∀{l:List (Str×α)} {x:Str} {c:α},(x,c)∈l→∃c',l.lookup x=some c'
 | (k,v)::r,x,c,h=>by
  rw[List.lookup_cons]
  cases hb:x==k with
  | true=>exact⟨v,rfl⟩
  | false=>
   rcases List.mem_cons.mp h with z|z
   ·cases z;simp at hb
   ·exact a7 z
theorem ik{α:Type}:∀{l:List (Str×α)} {x:Str},(∀c,(x,c)∉l)→l.lookup x=none
 | [],_,_=>rfl
 | (k,v)::r,x,h=>by
  rw[List.lookup_cons]
  cases hb:x==k with
  | true=>exact absurd (by rw[beq_iff_eq.mp hb];exact .head _) (h v)
  | false=>exact ik λc hc=>h c (.tail _ hc)
theorem cQ{α:Type}:∀{l:List (Str×α)},(l.map (·.1)).Nodup→∀{x:Str} {c:α},(x,c)∈l→l.lookup x=some c
 | (k,v)::r,hn,x,c,h=>by
  rw[List.lookup_cons]
  rw[List.map_cons,List.nodup_cons]at hn
  rcases List.mem_cons.mp h with z|z
  ·cases z;simp
  ·cases hb:x==k with
   | true=>exact absurd (by rw[←beq_iff_eq.mp hb];exact List.mem_map_of_mem (f:=(·.1)) z) hn.1
   | false=>exact cQ hn.2 z
theorem dq{sc:Scope}{K:Kd}(h:aW sc K=true):sc.kind = .function∧(sc.names.map (·.1)).Nodup∧(∀x,(x,NameKind.free)∈sc.names→K.lookup x=some .cell∨K.lookup x=some .free)∧∀x,(x,NameKind.globalExplicit)∉sc.names:=by
 unfold aW at h
 rw[Bool.and_eq_true,Bool.and_eq_true]at h
 obtain⟨⟨h1,h2⟩,h3⟩:=h
 refine⟨eq_of_beq h1,of_decide_eq_true h2,λx hx=>?_,λx hx=>?_⟩
 ·have:=List.all_eq_true.mp h3 _ hx
  dsimp only at this
  split at this
  ·left;assumption
  ·right;assumption
  ·cases this
 ·have:=List.all_eq_true.mp h3 _ hx
  cases this
section
variable{C:Cx}{T fns:List Str}{F:Nat→List D→Option D}{R n:Nat}{K:Kd}{S:Addr→Prop}{W:Wd}{s:Shared}{env:Env}{m:Str→Option Value}{me:Me}{A:Around}{E:Value→Shared→Prop}
def jR(sc:Scope)(m:Str→Option Value):Str→Option Value:=λx=>if cK sc.names x=true then none else m x
structure CM(C:Cx)(S:Addr→Prop)(W:Wd)(sc:Scope)(m:Str→Option Value)(cenv env':Env)(s':Shared)(W':Wd)(S':Addr→Prop):Prop where
 le:Le C W W'
 at':At C W' s'
 sx:SX C S' W'.h
 fr:ay C env' W'.h (jR sc m)
 ag:Ag sc.names env'
 own:bv C sc.names S' env'
 gr:∀b,S' b→S b∨W.h.get? b=none
 up:∀b,S b→S' b
 loc:env'.locals=cenv.locals
 nw:∀b,cU sc.names env' b→W.h.get? b=none
theorem il:∀(names:List (Str×NameKind)) (h:Heap),h.objs.size≤(pushCells h names).objs.size
 | [],_=>Nat.le_refl _
 | (_,kind)::r,h=>by
  unfold pushCells
  split
  ·have:=il r (h.push { cls:=.type "cell",data:=.cell none })
   rw[Heap.size_push]at this
   omega
  ·exact il r h
theorem qH{sc:Scope}{M:Model}(hsc:aW sc K=true)(hC:C.Ok)(hA:At C W s)(hS:SX C S W.h)(hf:ay C env W.h m)(hK:Ag K env){cl:List (Str×Addr)}
  (hcl:∀x c,(x,c)∈cl→env.cells.lookup x=some c) (hcl2:∀x,(x,NameKind.free)∈sc.names→∃c,(x,c)∈cl) (hcl3:∀x c,(x,c)∈cl→∃o,W.h.get? c=some o) :
  wpAny M A (newFunctionEnv sc env.globals cl [] env.qual none .none (some env)) (λcenv s'=>∃W' S',CM C S W sc m cenv { cenv with scope:=relabel sc env } s' W' S') E s:=by
 obtain⟨hk,hnd,hfree,_⟩:=dq hsc
 simp only[newFunctionEnv,Option.isSome_some,if_true]
 refine wpAny_bind (wpAny_alloc ?_)
 refine wpAny_bind (wpAny_layCells _ (λname kind cells=>by cases hkc:kind==NameKind.cell<;>simp[hkc]) _ _ _ _ ?_)
 have ok:=cellsFrom_ok sc.names (s.heap.push { cls:=.type "dict",data:=.dict #[] }) (s.heap.objs.size+1) [] ⟨λ_ _ hm=>(nomatch hm),List.Pairwise.nil⟩ (by rw[Heap.size_push];exact Nat.le_refl _)
 rw[Heap.size_push]at ok
 rw[show({ s with heap:=s.heap.push { cls:=.type "dict",data:=.dict #[] } }:Shared).heap.objs.size=s.heap.objs.size+1 from Heap.size_push ..]
 have e0:cellsFrom (s.heap.objs.size+1) sc.names cl=cellsFrom (s.heap.objs.size+1) sc.names []++cl:=eH sc.names _ [] cl
 rw[e0]
 generalize hcs:cellsFrom (s.heap.objs.size+1) sc.names []=cs at ok ⊢
 generalize hH:pushCells (s.heap.push { cls:=.type "dict",data:=.dict #[] }) sc.names=H at ok
 have hkeep:∀b o,s.heap.get? b=some o→H.get? b=some o:=λb o e=>by rw[←hH];exact pushCells_keeps _ _ b o (Heap.get?_push_of_some _ e)
 have hns:H.Ns s.heap.objs.size λ_=>none:=by rw[←hH];exact(Heap.Ns.new s.heap (.type "dict")).keeps (pushCells_keeps _ _)
 obtain⟨a',L⟩:=hA.keepW hkeep (tk:=s.toks) (Nat.le_refl _)
 have nwL:Nw C s.heap.objs.size:=hA.inv.nw (Nat.le_refl _)
 have inCs:∀x c,(x,c)∈cs→H.IsCell c none∧s.heap.objs.size+1≤c∧Nw C c∧W.h.get? c=none∧(x,NameKind.cell)∈sc.names:=λx c h=>by
  obtain⟨h1,h2⟩:=ok.empty x c h
  refine⟨h1,h2,hA.inv.nw (by omega),aK hA (by omega),?_⟩
  rw[←hcs]at h
  exact(fW _ _ _ x c h).elim id nofun
 refine wpAny_bind (wpAny_pure (wpAny_pure ?_))
 have kindOf:∀x,Env.kindOf { scope:=relabel sc env,locals:=s.heap.objs.size,globals:=env.globals,cells:=cs++cl,qual:=env.qual,func:=none,code:=env.code,frame:=env.frame,builtins:=env.builtins } x=vh env x (sc.names.lookup x):=λx=>ij env sc.names x
 have hH':({ s with heap:=H }:Shared).heap=H:=rfl
 refine⟨{ W with h:=H },λb=>S b∨b=s.heap.objs.size∨∃x,(x,b)∈cs,L,a',?_,?_,?_,?_,?_,λb hb=>.inl hb,rfl,?_⟩
 ·refine⟨.inl hS.1,λb hb=>?_⟩
  rcases hb with h|h|⟨x,h⟩
  ·exact(hS.le hC L a').2 b h
  ·obtain⟨o,es,ep,ho,_⟩:=hns;exact⟨o,h▸ho⟩
  ·obtain⟨o,ho,_⟩:=(inCs x b h).1;exact⟨o,ho⟩
 ·refine⟨hk,⟨_,hns,λx hx=>?_⟩,nwL.nP hC,λx hx=>?_,hf.glob,hf.bi⟩
  ·rw[kindOf]at hx
   have:sc.names.lookup x=some .local:=by
    cases e:sc.names.lookup x with
    | none=>rw[e]at hx;cases hx
    | some k=>
     rw[e]at hx
     cases k<;>first|rfl|(simp only[vh]at hx;first|cases hx|(split at hx<;>cases hx))
   unfold jR cK;rw[this];rfl
  ·rw[kindOf]at hx
   cases e:sc.names.lookup x with
   | none=>rw[e]at hx;rcases hx with q|q<;>cases q
   | some k=>
    have hmem:=mem_of_lookup e
    cases k with
    | «local» =>rw[e]at hx;rcases hx with q|q<;>cases q
    | cell=>
     obtain⟨c,hc⟩:=ce sc.names (s.heap.objs.size+1) [] x hmem
     rw[hcs]at hc
     obtain⟨c',hc'⟩:=a7 hc
     obtain⟨h1,_,h3,_⟩:=inCs x c' (mem_of_lookup hc')
     refine⟨c',?_,?_,h3.nP hC⟩
     ·show List.lookup x (cs++cl)=some c'
      rw[List.lookup_append,hc'];rfl
     ·have:jR sc m x=none:=by unfold jR cK;rw[e];rfl
      rw[this];exact h1
    | free=>
     have nocs:cs.lookup x=none:=ik λc hc=>by
      have:=(inCs x c hc).2.2.2.2
      rw[cQ hnd this]at e;cases e
     obtain⟨c,hc⟩:=hcl2 x hmem
     obtain⟨c',hc'⟩:=a7 hc
     have hc'':=hcl x c' (mem_of_lookup hc')
     obtain⟨c1,k1,k2,k3⟩:=hf.cell x (hK.c x (hfree x hmem))
     rw[hc'']at k1;cases k1
     refine⟨c',?_,?_,k3⟩
     ·show List.lookup x (cs++cl)=some c'
      rw[List.lookup_append,nocs,hc'];rfl
     ·have:jR sc m x=m x:=by unfold jR cK;rw[e];rfl
      rw[this];exact cN k2 L.ext k3
    | globalImplicit=>rw[e]at hx;rcases hx with q|q<;>cases q
    | globalExplicit=>rw[e]at hx;rcases hx with q|q<;>cases q
 ·refine⟨λx hx=>?_,λx hx=>?_,λx hx=>?_⟩
  ·rw[kindOf]
   unfold iQ at hx
   split at hx
   ·rename_i e;rw[e];exact .inl rfl
   ·rename_i e;rw[e];exact .inr (.inl rfl)
   ·rename_i e;rw[e];simp only[vh];split
    ·exact .inr (.inl rfl)
    ·exact .inr (.inr rfl)
   ·cases hx
  ·rw[kindOf]
   unfold lC at hx
   split at hx
   ·rename_i e;rw[e];rfl
   ·cases hx
  ·rw[kindOf]
   rcases hx with e|e
   ·rw[e];exact .inl rfl
   ·rw[e];simp only[vh];split
    ·exact .inl rfl
    ·exact .inr rfl
 ·refine⟨.inr (.inl rfl),nwL,λx e=>by rw[kindOf,e];rfl,λx e=>by rw[kindOf,e];rfl,λx c e hc=>?_⟩
  have hc:List.lookup x (cs++cl)=some c:=hc
  obtain⟨c0,hc0⟩:=ce sc.names (s.heap.objs.size+1) [] x (mem_of_lookup e)
  rw[hcs]at hc0
  obtain⟨c1,hc1⟩:=a7 hc0
  rw[List.lookup_append,hc1]at hc
  cases hc
  have hm:=mem_of_lookup hc1
  obtain⟨h1,h2,h3,h4,_⟩:=inCs x _ hm
  refine⟨.inr (.inr ⟨x,hm⟩),h3,λy hy q=>?_⟩
  have q:List.lookup y (cs++cl)=some _:=q
  rcases List.mem_append.mp (mem_of_lookup q)with z|z
  ·exact hy (name_of_addr ok.apart z hm)
  ·obtain⟨o,ho⟩:=hcl3 y _ z
   rw[h4]at ho;cases ho
 ·intro b hb
  rcases hb with h|h|⟨x,h⟩
  ·exact .inl h
  ·exact .inr (aK hA (Nat.le_of_eq h.symm))
  ·exact .inr (inCs x b h).2.2.2.1
 ·intro b hb
  rcases hb with h|⟨x,e,hc⟩
  ·exact aK hA (Nat.le_of_eq h.symm)
  ·have hc:List.lookup x (cs++cl)=some b:=hc
   obtain⟨c0,hc0⟩:=ce sc.names (s.heap.objs.size+1) [] x (mem_of_lookup e)
   rw[hcs]at hc0
   obtain⟨c1,hc1⟩:=a7 hc0
   rw[List.lookup_append,hc1]at hc
   cases hc
   exact(inCs x _ (mem_of_lookup hc1)).2.2.2.1
theorem dZ.grow{S':Addr→Prop}(k:∀a,S' a→S a∨W.h.get? a=none){fp:List Addr}{it:Value}{rest:List D}(x:dZ C S W fp it rest):dZ C S' W fp it rest:=by
 cases x with
 | list h1 h2 h3 h4 h5=>exact .list h1 h2 (λq=>(k _ q).elim h3 λz=>by obtain⟨o,ho,_⟩:=h2;rw[z]at ho;cases ho) (av.grow k _ h4) h5
 | tup h1 h2 h3 h4 h5=>exact .tup h1 h2 (λq=>(k _ q).elim h3 λz=>by obtain⟨o,ho,_⟩:=h2;rw[z]at ho;cases ho) (av.grow k _ h4) h5
 | str h1 h5=>exact .str h1 h5
 | range h0 h1 h5=>exact .range h0 h1 h5
theorem fe.grow{S':Addr→Prop}(k:∀a,S' a→S a∨W.h.get? a=none){fp:List Addr}{it:Value}{rest:List D}(x:fe C S W fp it rest):fe C S' W fp it rest:=by
 cases x with
 | enum h0 h1 h2 h3 h4 h5 h6 h7=>exact .enum h0 h1 h2 (λq=>(k _ q).elim h3 λz=>by obtain⟨o,ho,_⟩:=h2;rw[z]at ho;cases ho) (av.grow k _ h4) h5 h6 h7
theorem cC.grow{S':Addr→Prop}(k:∀a,S' a→S a∨W.h.get? a=none){t:dA}{fp:List Addr}{it:Value}{rest:List D}(x:cC C S W t fp it rest):cC C S' W t fp it rest:=by
 cases t
 ·exact dZ.grow k x
 ·exact fe.grow k x
theorem aY(l:List Nat):∀(me:Me) (i:Nat),(bA l me).lookup i=if l.contains i=true then none else me.lookup i
 | [],i=>by simp[bA]
 | (k,d)::r,i=>by
  have ih:=aY l r i
  unfold bA at ih ⊢
  rw[List.filter_cons]
  cases hc:l.contains k with
  | true=>
   rw[if_neg (by simp[hc])]
   rw[ih,List.lookup_cons]
   cases hb:i==k with
   | true=>rw[beq_iff_eq.mp hb,hc];rfl
   | false=>rfl
  | false=>
   rw[if_pos (by simp[hc])]
   rw[List.lookup_cons,List.lookup_cons]
   cases hb:i==k with
   | true=>rw[beq_iff_eq.mp hb,hc];rfl
   | false=>exact ih
def RR(C:Cx)(S:Addr→Prop)(W:Wd)(ds:List D)(l c:Addr)(s':Shared):Prop:=
 ∃Wf,Le C W Wf∧At C Wf s'∧aN (aM S [c]) Wf (.list ds) (.ref l)∧W.h.get? c=none∧Nw C c∧∃mm,s'.heap.Ns c mm
theorem ou(hL:Lk C T fns F R)(hT:T.Nodup)(iE:SE C T fns F R n)(iT:ST C T fns F R n){elt:Expr}{gens:List Comprehension}{sc:Scope}{pos pos':Pos}{a:X}{gs:List (dA×X×List X)}{ds:List D}{use:Option (Value→Sem Unit)}{Q:Value→Shared→Prop}
  (h:CE T fns K (.ListComp elt gens sc pos) (.comp a gs)) (e:hU (ev F n) (gY (ev F n)) a gs (bA (eX gs) me)=some ds) (hlen:ds.length≤100000) (hR:bB C R A) (hA:At C W s) (hS:SX C S W.h) (hX:bG C T K S W env m me)
  (hQ:∀l c s',RR C S W ds l c s'→compPost (model C.prog C.w) A E use Q (.ref l) c (.ok .next) s') :
  wpAny (model C.prog C.w) A (comprehension (.ListComp elt gens sc pos) sc env pos' (newList []) false (firstIter gens env) use) Q E s:=by
 have hC:=hL.ok
 cases h with
 | comp hsc hco ht hi hifs hg hel=>
 rename_i t i ifs rest t' i' ifs' gs
 obtain⟨hk,hnd,hfree,_⟩:=dq hsc
 obtain⟨cl,hclos,hc1,hc2⟩:=jd (sc:=sc) (env:=env) λx hx=>let ⟨c,h1,_⟩:=hX.fr.cell x (hX.ag.c x (hfree x hx));⟨c,h1⟩
 unfold sE at hco
 rw[Bool.and_eq_true]at hco
 have hnod:(fy t'++eX gs).Nodup:=of_decide_eq_true hco.1
 refine wpAny_comprehension_free rfl (λx=>mj (aH hi) env x) hclos hk (λx hx he=>cQ hnd (by rw[←he];exact hx)) ?_
 obtain⟨xs,hxs,hfl⟩:=oq e
 have hXd:bG C T K S W env m (bA (eX ((t',i',ifs')::gs)) me):=⟨hX.fr,hX.ag,λj d hj=>by
  rw[aY]at hj
  split at hj
  ·cases hj
  ·exact hX.vars j d hj⟩
 show wpAny _ A (eval i env) _ E s
 refine wpAny_mono (o7 hL iE hi hxs hR hA hS hXd) (λxv ae z=>wpAny_mono z (λit ak ⟨fp,W₂,cy,eP⟩=>?_) λ_ _ x=>x) λ_ _ x=>x
 refine wpAny_newObj_type ?_
 have hl2:=aK cy.at' (Nat.le_refl _)
 have nwl:Nw C ak.heap.objs.size:=cy.at'.inv.nw (Nat.le_refl _)
 have hl0:W.h.get? ak.heap.objs.size=none:=bu hC cy.le (nwl.nP hC) hl2
 obtain⟨aO,aD⟩:=cy.at'.keepW (bt _ { cls:=.type "list",dict:=none,data:=.seq ([]:List Value).toArray }) (Nat.le_refl ak.toks)
 have d7:(ak.heap.push { cls:=.type "list",dict:=none,data:=.seq ([]:List Value).toArray }).IsList ak.heap.objs.size #[]:=⟨_,Heap.get?_push_size _ rfl,rfl,_,rfl⟩
 generalize hl:ak.heap.objs.size=l at hl2 nwl hl0 d7 ⊢
 generalize hH:ak.heap.push { cls:=.type "list",dict:=none,data:=.seq ([]:List Value).toArray }=H at aO aD d7 ⊢
 have mh:=hS.le hC cy.le cy.at'
 have wO:SX C (aM S fp) W₂.h:=⟨.inl hS.1,λb hb=>hb.elim (mh.2 b) λq=>(cy.fresh b q).2.2⟩
 have wP:SX C (aM (aM S fp) [l]) H:=⟨.inl (.inl hS.1),λb hb=>hb.elim ((wO.le hC aD aO).2 b) λq=>by
  rcases List.mem_cons.mp q with rfl|q
  ·obtain⟨o,ho,_⟩:=d7;exact⟨o,ho⟩
  ·cases q⟩
 have d6:ay C env H m:=(hX.fr.ext cy.le.ext).ext aD.ext
 refine wpAny_mono (qH (K:=K) (m:=m) hsc hC aO wP d6 hX.ag (λx c h=>(hc1 x c h).2) hc2 (λx c h=>?_)) (λcenv cq ⟨aB,dH,N⟩=>?_) λ_ _ x=>x
 ·obtain⟨c',k1,⟨o,ho,_⟩,_⟩:=d6.cell x (hX.ag.c x (hfree x (hc1 x c h).1))
  rw[(hc1 x c h).2]at k1;cases k1
  exact⟨o,ho⟩
 generalize hE:{ cenv with scope:=relabel sc env }=env' at N ⊢
 have jS:Le C W₂ aB:=aD.trans N.le
 have cz:Le C W aB:=cy.le.trans jS
 have back:∀b,b≠C.P→H.get? b=none→W₂.h.get? b=none:=λb hb q=>bu hC aD hb q
 have qI:∀b,dH b→aM S fp b∨W₂.h.get? b=none:=λb hb=>by
  by_cases hP:b=C.P
  ·exact .inl (.inl (hP▸hS.1))
  rcases N.gr b hb with h|h
  ·rcases h with h|h
   ·exact .inl h
   ·rcases List.mem_cons.mp h with h|h
    ·exact .inr (h▸hl2)
    ·cases h
  ·exact .inr (back b hP h)
 have ui:∀b,dH b→S b∨W.h.get? b=none:=λb hb=>by
  by_cases hP:b=C.P
  ·exact .inl (hP▸hS.1)
  rcases qI b hb with h|h
  ·rcases h with h|h
   ·exact .inl h
   ·exact .inr (cy.fresh b h).1
  ·exact .inr (bu hC cy.le hP h)
 have eQ:cC C dH aB t' fp it xs:=(eP.grow qI).leX (jS.leX (X:=(· = C.P)) rfl) (λb hb=>hb▸N.sx.1) (λb hb=>(eP.nw b hb).nP hC)
 have i8:CR C dH aB env' (jR sc m) l []:=⟨N.fr,#[],bo d7 N.le.ext (nwl.nP hC),rfl⟩
 have vg:bO T dH aB (jR sc m) (bA (eX ((t',i',ifs')::gs)) me):=λj d hj=>by
  rw[aY]at hj
  split at hj
  ·cases hj
  ·rename_i hnj
   obtain⟨x,v,h1,h2,h3⟩:=hX.vars j d hj
   refine⟨x,v,h1,?_,(aN.grow ui _ h3).le cz N.sx.1⟩
   unfold jR
   rw[if_neg ?_]
   ·exact h2
   ·intro ho
    have key:((eX ((t',i',ifs')::gs)).any (λi=>T[i]?==some x)||!T.contains x)=true:=by
     unfold cK at ho
     split at ho
     ·rename_i q;exact List.all_eq_true.mp hco.2 _ (mem_of_lookup q)
     ·rename_i q;exact List.all_eq_true.mp hco.2 _ (mem_of_lookup q)
     ·cases ho
    have hin:T.contains x=true:=List.contains_iff_mem.mpr (List.mem_of_getElem? h1)
    rw[hin]at key
    simp only[Bool.not_true,Bool.or_false]at key
    obtain⟨j',hj',e'⟩:=List.any_eq_true.mp key
    have e'':=eq_of_beq e'
    have:j'=j:=(List.getElem?_inj (List.getElem?_eq_some_iff.mp e'').1 hT).mp (e''.trans h1.symm)
    subst this
    exact hnj (List.contains_iff_mem.mpr hj')
 have loop:codeAny (model C.prog C.w) A (.compLoop (.ListComp elt (⟨t,i,ifs,0⟩::rest) sc pos) 0 it (.ref l) env') (compPost (model C.prog C.w) A E use Q (.ref l) cenv.locals) cq:=by
  refine codeAny_mono (yP hL hT iE iT hR N.ag nwl hel gs 0 rest t i ifs t' ifs' rfl ht hifs hg hnod xs cq aB dH (jR sc m) _ fp it [] ds N.at' N.sx N.own i8 (N.up _ (.inr (.head _))) vg (λj hj=>?_) eQ (λb hb=>N.up _ (.inl (.inr hb))) hfl (by simpa using hlen)) (λr s' q=>?_)
  ·rw[aY,if_pos (List.contains_iff_mem.mpr (by exact hj))]
  ·cases r with
   | error=>exact q.elim
   | ok f=>
    obtain⟨dI,Em,bI,dJ,kG,_⟩:=q
    have:=hQ l cenv.locals s' ?_
    ·cases use<;>exact this
    ·obtain⟨its,hls,hrl⟩:=kG.list
     have lnS:¬S l:=λq=>by obtain⟨o,ho⟩:=hS.2 _ q;rw[hl0]at ho;cases ho
     have lnc:l≠cenv.locals:=λq=>by
      rw[←N.loc]at q
      exact(kG.fr.mut N.own (.inl q)).2 (.list hls)
     refine⟨dI,⟨λb o hb e0=>bI.ext.step (λq=>?_) (cz.ext b o hb e0),Nat.le_trans cz.k bI.k,λt ht=>(bI.g t (Nat.lt_of_lt_of_le ht cz.k)).trans (cz.g t ht),λcv q ne h=>bI.cr cv q ne (cz.cr cv q ne h),λi z h=>bI.gn i z (cz.gn i z h)⟩,dJ,⟨l,its,rfl,λq=>?_,hls,av.sub (λb hb=>?_) _ hrl⟩,?_,?_,?_⟩
     ·rcases q with h|h|h|h
      ·exact hb h
      ·have:=bu hC cy.le hb (back b hb (N.nw b h))
       rw[this]at e0;cases e0
      ·rw[h,hl0]at e0;cases e0
      ·rw[(cy.fresh b h).1]at e0;cases e0
     ·rcases q with h|h
      ·exact lnS h
      ·rcases List.mem_cons.mp h with h|h
       ·exact lnc h
       ·cases h
     ·rcases hb with h|h
      ·exact N.up _ (.inl (.inl h))
      ·rcases List.mem_cons.mp h with h|h
       ·rw[h,←N.loc];exact N.own.locS
       ·cases h
     ·have hP:cenv.locals≠C.P:=by rw[←N.loc];exact N.fr.nP
      exact bu hC cy.le hP (back _ hP (by rw[←N.loc];exact N.nw _ (.inl rfl)))
     ·rw[←N.loc];exact N.own.locN
     ·obtain⟨ml,h1,_⟩:=kG.fr.ns
      rw[dJ.h,N.loc]at h1
      exact⟨ml,h1⟩
 refine jq rfl loop (eQ.again N.at' loop)
theorem yR(hL:Lk C T fns F R)(hT:T.Nodup)(iE:SE C T fns F R n)(iT:ST C T fns F R n):Ac C T fns F R n:=by
 intro K e elt gens me ds A s W S env m E h hv hlen hR hA hS hX
 have hC:=hL.ok
 have h0:=h
 cases h0 with
 | comp hsc hco ht hi hifs hg hel=>
 rw[eval_ListComp]
 refine ou hL hT iE iT h hv hlen hR hA hS hX λl c s' ⟨Wf,L,a,r,hc,hn,mm,hns⟩=>?_
 refine⟨mm,hns,λh' hs=>?_⟩
 obtain⟨a',L'⟩:=a.but hC (X:=(· = c)) (λb hb=>hb▸hn) (λb hb=>hb ▸ .new (.dict hns) hA hc) (λb o nb e=>(hs.2 b nb).trans e) (tk:=s'.toks) (Nat.le_refl _)
 have cP:=hn.nP hC
 refine⟨_,⟨λb o hb e=>L'.ext.step (λq=>by subst q;rw[hc]at e;cases e) (L.ext b o hb e),Nat.le_trans L.k L'.k,λt ht=>(L'.g t (Nat.lt_of_lt_of_le ht L.k)).trans (L.g t ht),λcv q ne h=>L'.cr cv q ne (L.cr cv q ne h),λi z h=>L'.gn i z (L.gn i z h)⟩,a',aN.sub (λb hb=>.inl hb) _ (aN.leX L' (λb hb=>.inr (hb ▸ .head _)) r)⟩
end
theorem ba{C:Cx}{T fns:List Str}{F:Nat→List D→Option D}{R:Nat}(hL:Lk C T fns F R)(hT:T.Nodup):∀n,SE C T fns F R n∧ST C T fns F R n
 | 0=>And.intro (by intro K e x me d A s W S env m E _ q;cases q) (by intro K e x me d b A s W S env m E _ q;cases q)
 | n+1=>
  let ⟨iE,iT⟩:=ba hL hT n
  let iE':=yL hL iE iT (yR hL hT iE iT)
  ⟨iE',yM hL iE iT iE'⟩
section
variable(T fns:List Str)
mutual
inductive CY:Kd→Stmt→Y→Prop
 | assign {K:Kd} {x:Str} {p r:Pos} {v:Expr} {i:Nat} {a:X}:cK K x=true→T[i]?=some x→CE T fns K v a→CY K (.Assign [.Name x p] v r) (.assign i a)
 | fresh {K:Kd} {x:Str} {p q r:Pos} {es:List Expr} {i:Nat} {l:List X}:cK K x=true→T[i]?=some x→CL T fns K es l→CY K (.Assign [.Name x p] (.List es q) r) (.fresh i l)
 | aug {K:Kd} {x:Str} {p r:Pos} {v:Expr} {i:Nat} {a:X}:cK K x=true→T[i]?=some x→CE T fns K v a→CY K (.AugAssign (.Name x p) .Add v r) (.aug i a)
 | augSub {K:Kd} {x:Str} {p q r:Pos} {k v:Expr} {i:Nat} {b a:X}:cK K x=true→T[i]?=some x→CE T fns K k b→CE T fns K v a→CY K (.AugAssign (.Subscript (.Name x p) k q) .Add v r) (.augSub i b a)
 | append {K:Kd} {x:Str} {q ap p r:Pos} {e:Expr} {i:Nat} {a:X}:cK K x=true→T[i]?=some x→(ap.endLine==p.line)=true→CE T fns K e a→CY K (.Expr (.Call (.Attribute (.Name x q) (Str.ofString "append") ap) [e] [] p) r) (.append i a)
 | ite {K:Kd} {t:Expr} {x y:List Stmt} {p:Pos} {t':X} {a b:List Y}:CE T fns K t t'→nH K x a→nH K y b→CY K (.If t x y p) (.ite t' a b)
 | loop {K:Kd} {t:Expr} {x:List Stmt} {p:Pos} {t':X} {a:List Y}:CE T fns K t t'→nH K x a→CY K (.While t x [] p) (.loop t' a)
 | for {K:Kd} {t i:Expr} {x els:List Stmt} {p:Pos} {t':dA} {i':X} {a:List Y}:TG T K t t'→CE T fns K i i'→nH K x a→CY K (.For t i x els p) (.for t' i' a (!els.isEmpty))
 | ret {K:Kd} {e:Expr} {p:Pos} {a:X}:CE T fns K e a→CY K (.Return (some e) p) (.ret a)
 | newLex {K:Kd} {x:Str} {p q q' r:Pos} {v:Expr} {i:Nat} {a:X}:cK K x=true→T[i]?=some x→lC K (Str.ofString "_law_lexer")=true→CE T fns K v a→CY K (.Assign [.Name x p] (.Call (.Name (Str.ofString "_law_lexer") q) [v] [] q') r) (.newLex i a)
 | getTok {K:Kd} {x y:Str} {p q ap p' r:Pos} {i j:Nat}:cK K x=true→T[i]?=some x→iQ K y=true→T[j]?=some y→(ap.endLine==p'.line)=true→CY K (.Assign [.Name x p] (.Call (.Attribute (.Name y q) (Str.ofString "get_token") ap) [] [] p') r) (.getTok i j)
 | gets {K:Kd} {x y:Str} {p q ap p' p1 p2 p3 p4 p5 r:Pos} {i j kk:Nat} {k:Int} {sc:Scope}:cK K x=true→T[i]?=some x→iQ K y=true→T[j]?=some y→(ap.endLine==p'.line)=true→lC K (Str.ofString "range")=true→aW sc K=true→
   sc.names=[(Str.ofString ".0",.local),(Str.ofString "turn",.local),(y,.free)]→0≤k→k≤1000→
   CY K (.Assign [.Name x p] (.ListComp (.Call (.Attribute (.Name y q) (Str.ofString "get_token") ap) [] [] p') [⟨.Name (Str.ofString "turn") p1,.Call (.Name (Str.ofString "range") p2) [.Constant (.int k) kk p3] [] p4,[],0⟩] sc p5) r) (.gets i j k.toNat)
 | push {K:Kd} {x:Str} {q ap p r:Pos} {e:Expr} {i:Nat} {a:X}:iQ K x=true→T[i]?=some x→(ap.endLine==p.line)=true→CE T fns K e a→CY K (.Expr (.Call (.Attribute (.Name x q) (Str.ofString "push_token") ap) [e] [] p) r) (.push i a)
 | insert {K:Kd} {x:Str} {q ap p r:Pos} {k e:Expr} {i:Nat} {b a:X}:cK K x=true→T[i]?=some x→(ap.endLine==p.line)=true→CE T fns K k b→CE T fns K e a→CY K (.Expr (.Call (.Attribute (.Name x q) (Str.ofString "insert") ap) [k,e] [] p) r) (.insert i b a)
 | delIt {K:Kd} {x:Str} {q q' p r:Pos} {k:Expr} {i:Nat} {b:X}:lC K (Str.ofString "delitem")=true→cK K x=true→T[i]?=some x→CE T fns K k b→CY K (.Expr (.Call (.Name (Str.ofString "delitem") q) [.Name x q',k] [] p) r) (.delIt i b)
 | iteLine {K:Kd} {t e:Expr} {y:Str} {x z:List Stmt} {q ap p p' r:Pos} {t' e':X} {j:Nat} {a b:List Y}:CE T fns K t t'→iQ K y=true→T[j]?=some y→CE T fns K e e'→nH K x a→nH K z b→
   CY K (.If (.BoolOp .Or [t,.Compare (.Attribute (.Name y q) (Str.ofString "lineno") ap) [.NotEq] [e] p] p') x z r) (.iteLine t' j e' a b)
 | retLines {K:Kd} {t e a b:Expr} {x y:Str} {q q' ap ap' p p1 p2 r:Pos} {t' e' a' b':X} {i j:Nat}:iQ K x=true→T[i]?=some x→iQ K y=true→T[j]?=some y→CE T fns K e e'→CE T fns K t t'→CE T fns K a a'→CE T fns K b b'→
   CY K (.Return (some (.IfExp (.BoolOp .And [.Compare (.Attribute (.Name x q) (Str.ofString "lineno") ap) [.Eq,.Eq] [.Attribute (.Name y q') (Str.ofString "lineno") ap',e] p,t] p1) a b p2)) r) (.retLines i j e' t' a' b')
inductive nH:Kd→List Stmt→List Y→Prop
 | nil {K:Kd}:nH K [] []
 | cons {K:Kd} {s:Stmt} {r:List Stmt} {y:Y} {ys:List Y}:CY K s y→nH K r ys→nH K (s::r) (y::ys)
end
theorem dg:∀n,(∀K s y,cS T fns n K s=some y→CY T fns K s y)∧∀K s y,cS.cSs T fns n K s=some y→nH T fns K s y:=by
 intro n
 induction n with
 | zero=>
  refine⟨λK s y h=>by simp[cS]at h,λK s y h=>?_⟩
  cases s<;>simp[cS.cSs]at h;subst h;exact .nil
 | succ n ih=>
  obtain⟨iS,iL⟩:=ih
  have iE:=(jc T fns n).1
  have iCL:=(jc T fns n).2.2.1
  refine⟨λK s y h=>?_,λK s y h=>?_⟩
  ·have beq:∀{x y:Str},(x==y)=true→x=y:=λh=>beq_iff_eq.mp h
   unfold cS at h
   split at h
   ·split at h
    ·rename_i ho
     split at h
     ·rename_i i hi
      split at h
      ·split at h
       ·cases h;rename_i q;exact .fresh ho (bd T hi) (iCL _ _ _ q)
       ·cases h
      ·split at h
       ·rename_i hf
        rw[Bool.and_eq_true]at hf
        have:=beq hf.1;subst this
        split at h
        ·cases h;rename_i q;exact .newLex ho (bd T hi) hf.2 (iE _ _ _ q)
        ·cases h
       ·split at h
        ·cases h;rename_i q;exact .assign ho (bd T hi) (iE _ _ _ q)
        ·cases h
      ·split at h
       ·rename_i hf
        rw[Bool.and_eq_true,Bool.and_eq_true]at hf
        have:=beq hf.1.1;subst this
        split at h
        ·cases h;rename_i q;exact .getTok ho (bd T hi) hf.1.2 (bd T q) hf.2
        ·cases h
       ·cases h
      ·split at h
       ·rename_i hf
        simp only[Bool.and_eq_true,decide_eq_true_eq]at hf
        obtain⟨⟨⟨⟨⟨⟨⟨⟨h1,h2⟩,h3⟩,h4⟩,h5⟩,h6⟩,h7⟩,h8⟩,h9⟩:=hf
        have:=beq h1;subst this
        have:=beq h4;subst this
        have:=beq h7;subst this
        split at h
        ·cases h;rename_i q;exact .gets ho (bd T hi) h2 (bd T q) h3 h5 h8 h6 h9.1 h9.2
        ·cases h
       ·cases h
      ·split at h
       ·cases h;rename_i q;exact .assign ho (bd T hi) (iE _ _ _ q)
       ·cases h
     ·cases h
    ·cases h
   ·split at h
    ·rename_i ho
     split at h
     ·cases h;rename_i q1 q2;exact .aug ho (bd T q1) (iE _ _ _ q2)
     ·cases h
    ·cases h
   ·split at h
    ·rename_i ho
     split at h
     ·cases h;rename_i q1 q2 q3;exact .augSub ho (bd T q1) (iE _ _ _ q2) (iE _ _ _ q3)
     ·cases h
    ·cases h
   ·split at h
    ·rename_i ho
     rw[Bool.and_eq_true,Bool.and_eq_true]at ho
     split at h
     ·cases h;rename_i q1 q2
      have:=beq ho.1.1
      subst this
      exact .append ho.1.2 (bd T q1) ho.2 (iE _ _ _ q2)
     ·cases h
    ·split at h
     ·rename_i ho
      rw[Bool.and_eq_true,Bool.and_eq_true]at ho
      split at h
      ·cases h;rename_i q1 q2
       have:=beq ho.1.1
       subst this
       exact .push ho.1.2 (bd T q1) ho.2 (iE _ _ _ q2)
      ·cases h
     ·cases h
   ·split at h
    ·rename_i ho
     rw[Bool.and_eq_true,Bool.and_eq_true]at ho
     split at h
     ·cases h;rename_i q1 q2 q3
      have:=beq ho.1.1
      subst this
      exact .insert ho.1.2 (bd T q1) ho.2 (iE _ _ _ q2) (iE _ _ _ q3)
     ·cases h
    ·cases h
   ·split at h
    ·rename_i ho
     rw[Bool.and_eq_true,Bool.and_eq_true]at ho
     split at h
     ·cases h;rename_i q1 q2
      have:=beq ho.1.1
      subst this
      exact .delIt ho.1.2 ho.2 (bd T q1) (iE _ _ _ q2)
     ·cases h
    ·cases h
   ·split at h
    ·rename_i ho
     rw[Bool.and_eq_true]at ho
     split at h
     ·cases h;rename_i q1 q2 q3 q4 q5
      have:=beq ho.1
      subst this
      exact .iteLine (iE _ _ _ q1) ho.2 (bd T q2) (iE _ _ _ q3) (iL _ _ _ q4) (iL _ _ _ q5)
     ·cases h
    ·cases h
   ·split at h
    ·cases h;rename_i q1 q2 q3;exact .ite (iE _ _ _ q1) (iL _ _ _ q2) (iL _ _ _ q3)
    ·cases h
   ·split at h
    ·cases h;rename_i q1 q2;exact .loop (iE _ _ _ q1) (iL _ _ _ q2)
    ·cases h
   ·split at h
    ·cases h;rename_i q1 q2 q3;exact .for (jL T q1) (iE _ _ _ q2) (iL _ _ _ q3)
    ·cases h
   ·split at h
    ·rename_i ho
     simp only[Bool.and_eq_true]at ho
     obtain⟨⟨⟨h1,h2⟩,h3⟩,h4⟩:=ho
     have:=beq h1;subst this
     have:=beq h2;subst this
     split at h
     ·cases h;rename_i q1 q2 q3 q4 q5 q6
      exact .retLines h3 (bd T q1) h4 (bd T q2) (iE _ _ _ q3) (iE _ _ _ q4) (iE _ _ _ q5) (iE _ _ _ q6)
     ·cases h
    ·cases h
   ·split at h
    ·cases h;rename_i q1;exact .ret (iE _ _ _ q1)
    ·cases h
   ·cases h
  ·cases s with
   | nil=>simp[cS.cSs]at h;subst h;exact .nil
   | cons e es=>
    simp only[cS.cSs]at h
    split at h
    ·cases h;rename_i q1 q2;exact .cons (iS _ _ _ q1) (iL _ _ _ q2)
    ·cases h
end
section
variable{prog:Program}{w:World}{A:Around}{E:Value→Shared→Prop}{s:Shared}
theorem je{l:Addr}{items:Array Value}{k:Int}{t:Tok}{v:Value}{Q:Unit→Shared→Prop}(hl:s.heap.PlainList l items)
  (h0:0≤k) (hfit:k<2^63) (hn:k<items.size)
  (hQ:∀h',h'.PlainList l (items.setIfInBounds k.toNat v)→Heap.SameBut l s.heap h'→Q () { s with heap:=h' }) :
  wpAny (model prog w) A (setItem (.ref l) (.int k t) v) Q E s:=by
 obtain⟨n,ho⟩:=hl
 have hl:s.heap.IsList l items:=⟨_,ho,rfl,n,rfl⟩
 unfold setItem
 try with_reducible refine wpAny_holding ?_
 first|refine wpAny_bind (wpAny_pure ?_)|skip
 refine wpAny_bind (wpAny_sequenceKey hl.typeIs (by decide) ?_)
 refine wpAny_bind (wpAny_callSpecial?_slot (name:=Str.ofString "__setitem__") hl.typeIs slot_list_setitem
  (wpAny_call_entry slot_list_setitem hl.typeIs entry_list_setitem ?_ (args_list_setitem _ _ _)))
 show wpAny _ _ (Builtin.List.listSubscript? (.int k t) >>= _) _ _ s
 refine wpAny_bind (wpAny_listSubscript_int (fitsIndex_of h0 hfit) ?_)
 clear hfit
 obtain⟨j,rfl⟩:=Int.eq_ofNat_of_zero_le h0
 have hj:j<items.size:=by omega
 have hx':items[j]?=some items[j]:=Array.getElem?_eq_getElem hj
 show wpAny _ _ ((seqItemAt l j >>= λr=>pure (r.map (j,·))) >>= _) _ _ s
 refine wpAny_bind (wpAny_bind (wpAny_seqItemAt ho rfl (wpAny_pure ?_)))
 rw[hx']
 show wpAny _ _ (setSeqItemAt l j v >>= _) _ _ s
 have em:Obj.mapSeq (·.setIfInBounds j v) { cls:=.type "list",data:=.seq items n }={ cls:=.type "list",data:=.seq (items.setIfInBounds j v) n }:=by
  simp[Obj.mapSeq]
 have hfin:(s.heap.update l (Obj.mapSeq (·.setIfInBounds j v))).PlainList l (items.setIfInBounds j v):=
  ⟨n,by rw[Heap.get?_update_self _ ho (by rw[em];rfl),em]⟩
 refine wpAny_bind (wpAny_setSeqItemAt ho rfl ?_)
 first
  | exact wpAny_bind (wpAny_pure (wpAny_pure ⟨.none,rfl,wpAny_pure (hQ _ hfin (Heap.SameBut.update ..))⟩))
  | exact wpAny_pure ⟨.none,rfl,wpAny_pure (hQ _ hfin (Heap.SameBut.update ..))⟩
end
def PM(C:Cx)(K:Kd)(env:Env):Addr→Prop:=λb=>b=C.P∨cU K env b
section
variable{C:Cx}{T fns:List Str}{F:Nat→List D→Option D}{R n:Nat}{K:Kd}{S ab:Addr→Prop}{W W':Wd}{s:Shared}{env:Env}{m:Str→Option Value}{me:Me}{A:Around}{E:Value→Shared→Prop}{ad:Nat→Addr}{st:St}
theorem pa(hR:bB C R A)(a:At C W s)(d1 d2 d:D)(v1 v2:Value)(r1:aN S W d1 v1)(r2:aN S W d2 v2)(e:dm .add d1 d2=some d)(hn:∀l,d1 ≠ .list l):
  wpAny (model C.prog C.w) A (inplaceOp .Add v1 v2) (be C S W d) E s:=by
 cases d1<;>cases d2<;>simp only[dm]at e<;>try (cases e;done)
 ·obtain⟨t1,rfl,_⟩:=r1;obtain⟨t2,rfl,_⟩:=r2
  cases e
  exact iadd_int (be.int a (Nat.le_refl _) (a8 _) (Nat.lt_succ_self _) _)
 ·obtain⟨t1,rfl,g1⟩:=r1;obtain⟨t2,rfl,g2⟩:=r2
  rename_i x _ y
  split at e
  ·rename_i hl
   cases e
   refine P.iadd_str ?_
   have e1:∀z:Str,z.length=0→z.cps=#[]:=λz hz=>Array.eq_empty_of_size_eq_zero hz
   split
   ·rename_i h0
    have hx:x++y=y:=by
     apply Str.ext'
     rw[Str.cps_append,e1 x (by simpa using h0)];simp
    refine⟨W,.refl ..,a,t2,by rw[hx],λq=>?_⟩
    rw[hx];exact g2 (by simp at q;exact q.2)
   ·split
    ·rename_i h0
     have hx:x++y=x:=by
      apply Str.ext'
      rw[Str.cps_append,e1 y (by simpa using h0)];simp
     refine⟨W,.refl ..,a,t1,by rw[hx],λq=>?_⟩
     rw[hx];exact g1 (by simp at q;exact q.1)
    ·refine⟨?_,be.str a (Nat.le_refl _) (a8 _) (Nat.lt_succ_self _) _⟩
     rw[Str.length_append,sizeLine_eq];omega
  ·cases e
 ·exact absurd rfl (hn _)
theorem wQ{v:Expr}{a:X}(h:CE T fns K v a)(x:Str)(p:Pos)(line:Nat):swapsWith v (some (.Name x p)) line env=pure false∨(swapsWith v (some (.Name x p)) line env=pure true∧∃elt gens sc pos,v = .ListComp elt gens sc pos):=by
 cases h with
 | comp hsc hco ht hi hifs hg hel=>
  rename_i elt t i ifs rest sc pos _ _ _ _ _
  have e:∃b:Bool,swapsWith (.ListComp elt (⟨t,i,ifs,0⟩::rest) sc pos) (some (.Name x p)) line env=pure b:=⟨_,rfl⟩
  obtain⟨b,hb⟩:=e
  cases b with
  | false=>exact .inl hb
  | true=>exact .inr ⟨hb,_,_,_,_,rfl⟩
 | _=>exact .inl rfl
theorem PM.sub(O:bv C K S env)(hS:S C.P):∀b,PM C K env b→S b:=λb hb=>hb.elim (λh=>h▸hS) (O.mutS b)
theorem Le.pm(L:Le C W W'):aZ (PM C K env) W W':=L.leX (.inl rfl)
theorem ay.leX'{X:Addr→Prop}(f:ay C env W.h m)(L:aZ X W W')(h1:¬X env.locals)(h2:∀x c,env.kindOf x=some .cell∨env.kindOf x=some .free→env.cells.lookup x=some c→¬X c):ay C env W'.h m where
 kind:=f.kind
 ns:=let ⟨ml,k,q⟩:=f.ns;⟨ml,jH k L.ext h1,q⟩
 nP:=f.nP
 cell:=λx hx=>let ⟨c,k1,k2,k3⟩:=f.cell x hx;⟨c,k1,cN k2 L.ext (h2 x c hx k1),k3⟩
 glob:=f.glob
 bi:=f.bi
theorem eI(O:bv C K S env)(hC:C.Ok)(hS:S C.P){aj:Wd}{ae:Shared}(L:aZ (PM C K env) W aj)(a:At C aj ae)(f:ay C env aj.h m){x:Str}(hx:cK K x=true){d:D}{v:Value}(r:aN S aj d v){M:Model}:
  wpAny M A (storeName env x v) (λ_ s'=>∃W' u,aZ (PM C K env) W W'∧At C W' s'∧ay C env W'.h (bM m x u)∧aN S W' d u) E ae:=
 wpAny_mono (b9 O hC a f hx) (λ_ s' ⟨W',L',a',f'⟩=>⟨W',v,L.trans (L'.sub λb hb=>.inr hb),a',f',r.leX L' O.mutS⟩) λ_ _ x=>x
theorem kI(hL:Lk C T fns F R)(hT:T.Nodup)(O:bv C K S env){x:Str}(hx:cK K x=true){v:Expr}{a:X}{d:D}{p r:Pos}(h:CE T fns K v a)(e:ev F n a me=some d)(hR:bB C R A)(hA:At C W s)(hS:SX C S W.h)(hX:bG C T K S W env m me):
  wpAny (model C.prog C.w) A (exec (.Assign [.Name x p] v r) env) (λf s'=>f = .next∧∃W' u,aZ (PM C K env) W W'∧At C W' s'∧ay C env W'.h (bM m x u)∧aN S W' d u) E s:=by
 have hC:=hL.ok
 rcases wQ (env:=env) h x p r.line with hs|⟨hs,elt,gens,sc,pos,rfl⟩
 ·refine wpAny_Assign_Name (wpAny_mono ((ba hL hT n).1 K v a me d A s W S env m E h e hR hA hS hX) (λu ae ⟨aj,am,aq,bx⟩=>?_) λ_ _ x=>x) hs
  exact wpAny_mono (eI O hC hS.1 am.pm aq (hX.fr.ext am.ext) hx bx) (λ_ s' q=>⟨rfl,q⟩) λ_ _ x=>x
 ·rw[exec_Assign_Name_used _ _ _ _ hs]
  refine wpAny_bind (wpAny_standAt (wpAny_bind ?_))
  have h0:=h
  cases h with
  | comp hsc hco ht hi hifs hg hel=>
  cases n with
  | zero=>cases e
  | succ n=>
   simp only[ev]at e
   split at e
   ·rename_i ds hds
    split at e
    ·rename_i hlen
     cases e
     obtain⟨iE,iT⟩:=ba hL hT n
     show wpAny _ A (do let _←comprehension _ sc env _ (newList []) false (firstIter _ env) (some (assign (.Name x p) env))) _ _ s
     refine wpAny_bind (wpAny_mono (ou (use:=some (assign (.Name x p) env)) (Q:=λ_ s'=>∃W' u,aZ (PM C K env) W W'∧At C W' s'∧ay C env W'.h (bM m x u)∧aN S W' (.list ds) u) hL hT iE iT h0 hds hlen hR hA hS hX ?_) (λ_ s' hq=>wpAny_pure (wpAny_pure ⟨rfl,hq⟩)) λ_ _ e=>e)
     intro l c ae ⟨Wf,L,aq,bx,hc,hn,mm,hns⟩
     have sJ:=hX.fr.ext L.ext
     have O':bv C K (aM S [c]) env:=O.sub λb hb=>.inl hb
     show wpAny _ A (assign (.Name x p) env (.ref l)) _ E ae
     refine wpAny_assign_Name (wpAny_mono (eI O' hC (.inl hS.1) (aZ.refl _ Wf) aq sJ hx bx) (λ_ ak ⟨W₂,u,an,au,jQ,bE⟩=>?_) λ_ _ x=>x)
     have nc:¬PM C K env c:=λq=>q.elim (hn.nP hC) λq=>by obtain⟨o,ho⟩:=hX.fr.there O q;rw[hc]at ho;cases ho
     rw[←aq.h]at hns
     have ju:=jH hns an.ext nc
     rw[au.h]at ju
     refine⟨mm,ju,λh' hs'=>?_⟩
     obtain⟨aO,aD⟩:=au.but hC (X:=(· = c)) (λb hb=>hb▸hn) (λb hb=>hb ▸ .new (.dict ju) hA hc) (λb o nb e=>(hs'.2 b nb).trans e) (tk:=ak.toks) (Nat.le_refl _)
     refine⟨_,u,(L.pm.trans an).fresh aD (λb hb=>.inr (hb▸hc)),aO,jQ.leX' aD (λq=>?_) (λy c' hy hc' q=>?_),aN.sub (λb hb=>.inl hb) _ (aN.leX aD (λb hb=>.inr (hb ▸ .head _)) bE)⟩
     ·obtain⟨ml,⟨o,_,_,ho,_⟩,_⟩:=hX.fr.ns
      rw[q,hc]at ho;cases ho
     ·obtain⟨c1,k1,⟨o,ho,_⟩,_⟩:=hX.fr.cell y hy
      rw[hc']at k1;cases k1
      rw[q,hc]at ho;cases ho
    ·cases e
   ·cases e
end
section
variable{kindOf:Str→Option NameKind}
theorem ow:∀(binds:List (Str×Value)) (m:Str→Option Value) (x:Str),(∀v,(x,v)∉binds)→bindL kindOf binds m x=m x
 | [],_,_,_=>rfl
 | (n,v)::r,m,x,h=>by
  have hx:x≠n:=λe=>h v (e ▸ .head _)
  unfold bindL
  rw[ow r _ x λw hw=>h w (.tail _ hw)]
  split
  ·exact if_neg hx
  ·rfl
theorem oy:∀(binds:List (Str×Value)) (m:Str→Option Value) (x:Str),(∀v,(x,v)∉binds)→bindC kindOf binds m x=m x
 | [],_,_,_=>rfl
 | (n,v)::r,m,x,h=>by
  have hx:x≠n:=λe=>h v (e ▸ .head _)
  unfold bindC
  rw[oy r _ x λw hw=>h w (.tail _ hw)]
  split
  ·rfl
  ·exact if_neg hx
theorem oz:∀(binds:List (Str×Value)) (m:Str→Option Value) (x:Str) (v:Value),(binds.map (·.1)).Nodup→(x,v)∈binds→kindOf x=some .local→bindL kindOf binds m x=some v
 | (n,w)::r,m,x,v,hn,h,hk=>by
  rw[List.map_cons,List.nodup_cons]at hn
  unfold bindL
  rcases List.mem_cons.mp h with e|h
  ·cases e
   rw[ow r _ _ λu hu=>hn.1 (List.mem_map_of_mem (f:=(·.1)) hu),if_pos hk]
   exact if_pos rfl
  ·exact oz r _ x v hn.2 h hk
theorem oA:∀(binds:List (Str×Value)) (m:Str→Option Value) (x:Str) (v:Value),(binds.map (·.1)).Nodup→(x,v)∈binds→kindOf x≠some .local→bindC kindOf binds m x=some v
 | (n,w)::r,m,x,v,hn,h,hk=>by
  rw[List.map_cons,List.nodup_cons]at hn
  unfold bindC
  rcases List.mem_cons.mp h with e|h
  ·cases e
   rw[oy r _ _ λu hu=>hn.1 (List.mem_map_of_mem (f:=(·.1)) hu),if_neg hk]
   exact if_pos rfl
  ·exact oA r _ x v hn.2 h hk
theorem uj:∀{ps:List Str} {vs:List Value},vs.length=ps.length→(ps.zip vs).map (·.1)=ps
 | [],_,_=>by simp
 | p::ps,[],h=>by cases h
 | p::ps,v::vs,h=>by rw[List.zip_cons_cons,List.map_cons,uj (by simpa using h)]
theorem im{ps:List Str}{vs:List Value}{x:Str×Value}(h:x∈ps.zip vs):x.1∈ps:=(List.of_mem_zip (a:=x.1) (b:=x.2) h).1
end
def TT:List Str:=(["a", "b", "count", "i", "j", "grouping", "last_interval", "interval", "self", "fp", "ch", "token", "fiter", "page", "_law_read_on", "stream", "at", "size", "sign", "script",
 "cells", "place", "x", "word", "quoted", "text", "words", "comes", "minute", "row", "marks", "stop", "sizes", "sums", "book", "told", "codes", "due", "turn", "one",
 "two", "line", "ring", "pile", "rows", "come", "gone", "other", "three", "idle", "hours", "last", "busy", "ends", "ranks", "who", "there", "more", "hour", "waits",
 "tops", "pairs", "nested", "crossed", "pair", "column", "guests"]:List String).map Str.ofString
def aT:List Str:=(["countOf", "getitem", "indexOf", "_strcoll", "_law_cells", "_law_written", "_law_guests", "_law_row", "_law_marks", "_law_sums", "_law_read", "_law_who", "_law_called", "_law_hours",
 "_law_in_turn", "_law_alike", "_law_fair", "law"]:List String).map Str.ofString
theorem az:TT.Nodup:=by decide +kernel
theorem qJ:∀x∈TT,(x==("__debug__" : Str))=false∧(x==("__classdict__" : Str))=false:=by decide +kernel
theorem oB:∀x∈aT,(x==("__debug__" : Str))=false:=by decide +kernel
def wR:Nat→List D→Option D:=λ_ _=>Option.none
structure Fa(C:Cx):Prop where
 bi:∀b:Bi,C.mg (Str.ofString b.id)=none∧C.mb (Str.ofString b.id)=some (.builtin b.id)
 range:C.mg (Str.ofString "range")=none∧C.mb (Str.ofString "range")=some (.type "range")
 enum:C.mg (Str.ofString "enumerate")=none∧C.mb (Str.ofString "enumerate")=some (.type "enumerate")
 iter:C.mg (Str.ofString "iter")=none∧C.mb (Str.ofString "iter")=some (.builtin "iter")
theorem uk{C:Cx}(h:C.Ok)(b:Fa C)(R:Nat):Lk C TT aT wR R where
 ok:=h
 fn:=λ_ _ _ e=>nomatch e
 bi:=b.bi
 range:=b.range
 enum:=b.enum
 plain:=qJ
 plainF:=oB
section
theorem qK:Slot "function" "__setattr__" "object.__setattr__" :=
 .of (owner:= "object") (n:= "__setattr__") (by rw[typeLookup_type,builtinLookup_eq_fast];kernel_rfl) (by decide +kernel) (by decide +kernel) (by decide +kernel)
  (by first|exact .inl (by decide +kernel)|exact .inr (by decide +kernel)) (by rw[isSubtype_type];kernel_rfl)
theorem pc:mroOf (.type "function")=pure [.type "function",.type "object"]:=by kernel_rfl
theorem lD(self:Value):refuseLoop self "__setattr__" [.type "function",.type "object"]=pure ():=by kernel_rfl
theorem eJ:typeLookup (.type "function") "read" = pure none:=by rw[typeLookup_type,builtinLookup_eq_fast];kernel_rfl
theorem jT:Slot "function" "__getattribute__" "object.__getattribute__" :=
 .of (owner:= "object") (n:= "__getattribute__") (by rw[typeLookup_type,builtinLookup_eq_fast];kernel_rfl) (by decide +kernel) (by decide +kernel) (by decide +kernel)
  (by first|exact .inl (by decide +kernel)|exact .inr (by decide +kernel)) (by rw[isSubtype_type];kernel_rfl)
theorem i9:typeLookup (.type "function") "__getattr__" = pure none:=by rw[typeLookup_type,builtinLookup_eq_fast];kernel_rfl
open Builtin Builtin.ObjectAttr in
theorem Bd{prog:Program}{w:World}{A:Around}{E:Value→Shared→Prop}{s:Shared}{f:Addr}{o:Obj}{fd:FuncData}{v:Value}{Q:Unit→Shared→Prop}
  (ho:s.heap.get? f=some o) (hc:o.cls = .type "function") (hd:o.dict=none) (hdat:o.data = .func fd)
  (hq:∀h' tk,s.toks≤tk→h'.get? f=some { o with dict:=some s.heap.objs.size }→h'.Ns s.heap.objs.size (λy=>if y=Str.ofString "read" then some v else none)→(∀b ob,b≠f→s.heap.get? b=some ob→h'.get? b=some ob)→
   Q () { s with heap:=h',toks:=tk }) :
  wpAny (model prog w) A (setAttr (.ref f) (Str.ofString "read") v) Q E s:=by
 have hT:s.TypeIs (.ref f) "function" :=⟨o,ho,hc⟩
 unfold setAttr
 refine wpAny_bind (wpAny_mkText (wpAny_bind ?_))
 refine wpAny_callSpecial?_slot (s:={ s with toks:=s.toks+1 }) hT qK (wpAny_call_entry qK hT F.store_object.entry ?_ (F.store_object.args _ _ _))
 rw[osa_eq,refuse_eq]
 have ty:∀{α:Type} {k:Value→Sem α} {Q:α→Shared→Prop} {E:Value→Shared→Prop} {A:Around} {s':Shared},s'.heap.get? f=some o→wpAny (model prog w) A (k (.type "function")) Q E s'→wpAny (model prog w) A (typeOf (.ref f) >>= k) Q E s':=λe h=>by
  refine wpAny_bind ?_
  show wpAny _ _ (loadPart f _ >>= _) _ _ _
  exact wpAny_bind (wpAny_loadPart e (by rw[hc];exact wpAny_pure h))
 refine wpAny_bind (ty ho ?_)
 rw[pc]
 refine wpAny_bind (wpAny_pure ?_)
 rw[lD]
 refine wpAny_pure (ty ho ?_)
 rw[eJ]
 refine wpAny_bind (wpAny_pure (wpAny_bind (wpAny_pure ?_)))
 show wpAny _ _ (storeInOwnDict _ _ _ _ _ _) _ _ _
 unfold storeInOwnDict ownDictForStores instanceDict
 refine wpAny_bind (m:=ownStreamTells (.ref f) (.type "function")) (wpAny_pure ?_)
 rw[if_neg (by decide)]
 have hx:s.heap.get? f=some o:=ho
 have hxs:f≠s.heap.objs.size:=Nat.ne_of_lt (Heap.lt_size hx)
 refine wpAny_bind (wpAny_bind (wpAny_loadPart ho ?_))
 rw[hc,hd,hdat]
 dsimp only
 rw[if_neg (by decide +kernel)]
 refine wpAny_bind (wpAny_alloc (wpAny_bind (wpAny_update (Heap.get?_push_of_some _ hx) (wpAny_pure ?_))))
 generalize hH:((s.heap.push { cls:=.type "dict",data:=.dict #[] }).update f λo=>{ cls:=o.cls,dict:=some s.heap.objs.size,data:=o.data,slots:=o.slots })=H
 have hgd:H.get? s.heap.objs.size=some { cls:=.type "dict",data:=.dict #[] }:=by
  rw[←hH];exact(Heap.get?_update_ne _ _ _ _ hxs.symm).trans (Heap.get?_push_at rfl rfl)
 have hgf:H.get? f=some { o with dict:=some s.heap.objs.size }:=by
  rw[←hH,Heap.get?_update_self _ (Heap.get?_push_of_some _ hx) (by
   have hfr:=(Heap.get?_some_iff.mp hx).2
   obtain⟨oc,od,odt,osl⟩:=o
   dsimp only at hdat;subst hdat;rfl)]
 have hgo:∀b ob,b≠f→s.heap.get? b=some ob→H.get? b=some ob:=λb ob hb e=>by
  rw[←hH];exact(Heap.get?_update_ne _ _ _ _ hb).trans (Heap.get?_push_of_some _ e)
 have hnd:H.Ns s.heap.objs.size (λ_=>none):=⟨_,#[],_,hgd,rfl,λe he=>absurd he (by simp),λ_=>rfl⟩
 show wpAny _ _ (storeInDict _ _ _ _) _ _ _
 unfold storeInDict newKeyGuard
 refine wpAny_bind (wpAny_pure (wpAny_bind (wpAny_nsSet1 (Heap.Ns1.of_empty hnd) λh' hn' hs=>?_)))
 obtain⟨oD,esD,epD,hoD,hdD,hcD⟩:=hn'.count (Within.cons (Str.ofString "read") v Within.nil)
 refine wpAny_bind (wpAny_lookBehind hoD (by rw[hdD];exact pastItsLine_dict (Nat.le_trans hcD (by rw[List.length_cons,List.length_nil,sizeLine_eq];omega))) ?_)
 refine wpAny_pure ⟨.none,rfl,?_⟩
 refine wpAny_pure (hq h' _ ?_ ((hs.2 f hxs).trans hgf) ?_ (λb ob hb e=>(hs.2 b (Nat.ne_of_lt (Heap.lt_size e))).trans (hgo b ob hb e)))
 ·show s.toks≤s.toks+1+1;omega
 ·obtain⟨o',es,ep,e1,e2,e3,eu,e4⟩:=hn'
  exact⟨o',es,ep,e1,e2,e3,e4⟩
end
section
theorem vi:entryFor table "object.__getattribute__" = some Builtin.«object.__getattribute__» :=entryFor_of_tree (by kernel_rfl)
theorem wT(a b:Value):argsOk "object.__getattribute__" ⟨[a,b],[]⟩:=by unfold argsOk;kernel_rfl
section
open Builtin Builtin.ObjectAttr
variable{prog:Program}{w:World}{A:Around}{E:Value→Shared→Prop}{s:Shared}{f dx rf:Addr}{o:Obj}{fd:FuncData}
theorem jU{M:Model}{Q:Value→Shared→Prop}(ho:s.heap.get? f=some o)(hc:o.cls = .type "function") (h:Q (.type "function") s):wpAny M A (typeOf (.ref f)) Q E s:=by
 show wpAny _ _ (loadPart f _ >>= _) _ _ _
 exact wpAny_bind (wpAny_loadPart ho (by rw[hc];exact wpAny_pure h))
theorem pe{Q:Value×List Value→Shared→Prop}{pl:Sem Bool}{mf:Str→Option Value}(ho:s.heap.get? f=some o)(hc:o.cls = .type "function") (hd:o.dict=some dx) (hdat:o.data = .func fd) (hn:s.heap.Ns dx mf) (hm:mf (Str.ofString "read")=some (.ref rf))
  (h:∀tk,s.toks≤tk→Q (.ref rf,[]) { s with toks:=tk }):wpAny (model prog w) A (getMethod (.ref f) (Str.ofString "read") pl) Q E s:=by
 have hT:s.TypeIs (.ref f) "function" :=⟨o,ho,hc⟩
 have hcan:=PySem.F.canon_object_ga
 unfold getMethod specialOf
 refine wpAny_bind (wpAny_bind (jU ho hc ?_))
 rw[jT.lookup]
 refine wpAny_pure ?_
 dsimp only
 rw[hcan,if_neg (by decide)]
 refine wpAny_bind (wpAny_bind (jU ho hc ?_))
 rw[i9]
 refine wpAny_pure ?_
 rw[if_neg (by decide)]
 refine wpAny_bind (wpAny_bind (jU ho hc ?_))
 rw[eJ]
 refine wpAny_pure ?_
 dsimp only
 show wpAny _ _ (getAttr (.ref f) (Str.ofString "read") >>= _) _ _ _
 unfold getAttr
 refine wpAny_bind (wpAny_bind (wpAny_mkText ?_))
 unfold getAttrBy
 refine wpAny_holding (wpAny_bind (jU (s:={ s with toks:=s.toks+1 }) ho hc ?_))
 rw[jT.lookup]
 refine wpAny_bind (wpAny_pure ?_)
 dsimp only
 rw[if_neg (by decide)]
 unfold getAttrByItsOwn
 refine wpAny_bind (m:=hookBefore (.type "function")) (wpAny_pure ?_)
 refine wpAny_bind (wpAny_attempt (wpAny_holding ?_))
 show wpAny _ _ (boundAndCalled _ _ _) _ _ _
 unfold boundAndCalled
 rw[jT.bind]
 refine wpAny_bind (wpAny_pure ?_)
 refine wpAny_call_entry (s:={ s with toks:=s.toks+1 }) jT hT vi ?_ (wT _ _)
 unfold Builtin.«object.__getattribute__»
 refine wpAny_bind (m:=slotArgs "__getattribute__" 1 _) (wpAny_pure ?_)
 refine wpAny_bind (m:=attrName _) (wpAny_pure ?_)
 refine wpAny_bind (jU (s:={ s with toks:=s.toks+1 }) ho hc ?_)
 unfold find
 rw[eJ]
 refine wpAny_bind (wpAny_bind (wpAny_pure (wpAny_bind (m:=getOf none) (wpAny_pure (wpAny_bind (m:=dataDescriptor? none none) (wpAny_pure ?_))))))
 unfold ownThenClass inOwnDict ObjectAttr.ownDict
 refine wpAny_bind (wpAny_bind (wpAny_bind (wpAny_loadPart ho ?_)))
 rw[hdat]
 dsimp only
 unfold instanceDict
 refine wpAny_bind (wpAny_loadPart ho ?_)
 rw[hc,hd]
 dsimp only
 refine wpAny_pure (wpAny_nsGet hn ?_)
 rw[hm]
 refine wpAny_bind (wpAny_rule (wpAny_pure ?_))
 refine wpAny_pure ⟨_,rfl,?_⟩
 exact wpAny_pure (wpAny_pure (h _ (Nat.le_succ _)))
end
end
section
section
open Builtin Builtin.ObjectAttr
variable{prog:Program}{w:World}{A:Around}{E:Value→Shared→Prop}{K:Frag}{C x dx:Addr}{s:Shared}{ox od od':Obj}{name:Str}{v:Value}{es:List DictEntry}{n:Nat}
theorem qL{Q:Unit→Shared→Prop}(X:K.In s.heap)(I:InstAt s.heap x ox C (some od))(hd:ox.dict=some dx)
  (hs:findIn K (.ref C) "__setattr__" = some (some (.builtin "object.__setattr__"))) (hp:plainOver K C=true) (ht:takerIn K C name=some none) (hh:(clsIn K C).any (·.hasDict)=true)
  (hl:(lookIn name od).isSome=true) (e:Obj.putName name (PyData.keyHash w.params name) (.str name (s.toks+1)) v od=od') (e':od'.data = .dict es.toArray n) (hz:es.length≤1000)
  (h:∀h',h'.get? dx=some od'→Heap.SameBut dx s.heap h'→Q () { s with heap:=h',toks:=s.toks+2 }):wpAny (model prog w) A (setAttr (.ref x) name v) Q E s:=by
 refine set_plain X I hs ?_
 refine osa_open (s:={ s with toks:=s.toks+1 }) X I hp ht λb=>?_
 obtain⟨cd,hc,hd'⟩:∃cd,clsIn K C=some cd∧cd.hasDict=true:=by
  cases q:clsIn K C with
  | none=>rw[q]at hh;cases hh
  | some cd=>rw[q]at hh;exact⟨cd,rfl,hh⟩
 obtain⟨hx,hcl,hn,hdo⟩:=I
 rw[hd]at hdo
 have D:s.heap.get? dx=some od:=hdo
 obtain⟨oc,odi,oda,osl⟩:=ox
 dsimp only at hcl hd
 subst hcl hd
 refine wpAny_bind (wpAny_pure (wpAny_bind (wpAny_bind (wpAny_loadPart hx (wpAny_bind ((looks_clsIn (M:=model prog w) X hc _ _ _ _ (λ_ _ e=>e) ?_)))))))
 rw[hd']
 refine wpAny_pure (a:=some dx) (wpAny_bind (wpAny_pure (wpAny_bind ?_)))
 unfold nsSet
 refine wpAny_bind (wpAny_bind (wpAny_askSetting (wpAny_pure (wpAny_bind (wpAny_mkText (wpAny_bind (wpAny_loadPart D ?_)))))))
 unfold lookIn at hl
 split at hl
 ·rename_i Ai Fe q
  rw[q]
  dsimp only
  have c:(!Ai.any (·.key.isStr name)&&Ai.any (·.refKey))=false:=by
   rw[←Array.any_toList,←Array.any_toList]
   split at hl
   ·rename_i en he
    rw[List.any_eq_true.mpr ⟨en,List.mem_of_find?_eq_some he,List.find?_some he⟩];rfl
   ·split at hl
    ·cases hl
    ·rename_i z;rw[Bool.not_eq_true]at z;rw[z,Bool.and_false]
  rw[aRefKeyMayBeTheName_at,c]
  have D':(s.heap.update dx (Obj.putName name (PyData.keyHash w.params name) (.str name (s.toks+1)) v)).get? dx=some od':=by
   rw[Heap.get?_update_self _ D (by rw[e];obtain⟨_,_,dd,_⟩:=od';cases e';rfl),e]
  refine wpAny_updatePart D ?_
  refine wpAny_bind (wpAny_lookBehind D' (by rw[e'];exact pastItsLine_dict (by rw[List.size_toArray,sizeLine_eq];omega)) ?_)
  exact wpAny_pure (h _ D' (Heap.SameBut.update ..))
 ·cases hl
end
end
structure sN(h:Heap)(a:Addr)(fd:FuncData)(body:List Stmt)(params:List Str):Prop where
 at':∃o,h.get? a=some o∧o.data = .func fd
 code:h.CodeRec fd.code fd.qualname
 body:fd.body = .stmts body
 bind:∀vals:List Value,vals.length=params.length→bindArgs fd ⟨vals,[]⟩=pure (params.zip vals)
 co:fd.scope.isCoroutine=false
 gen:fd.scope.isGenerator=false
 kind:fd.scope.kind = .function
 glob:fd.globals=mainGlobals
 bi:fd.builtins=builtinsNs
 nocell:∀x∈fd.scope.names,x.2 ≠ .cell
def wU:Flow→Value
 | .ret v=>v
 | _=>.none
structure Ct(C:Cx)(S:Addr→Prop)(W:Wd)(names:Kd)(env:Env)(mm:Str→Option Value)(ae:Shared)(aj:Wd):Prop where
 keep:∀b o,W.h.get? b=some o→aj.h.get? b=some o
 le:Le C W aj
 at':At C aj ae
 fr:ay C env aj.h mm
 ag:Ag names env
 own:bv C names (aM S [env.locals]) env
 sx:SX C (aM S [env.locals]) aj.h
 frl:W.h.get? env.locals=none
 ko:∀x,env.kindOf x=names.lookup x
section
variable{C:Cx}{S:Addr→Prop}{W:Wd}{s:Shared}{A:Around}{E:Value→Shared→Prop}{R:Nat}
abbrev vj(Q E:Value→Shared→Prop):Result→Shared→Prop:=λr s'=>match r with | .ok (.ret v)=>Q v s' | .ok _=>False | .error e=>E e s'
theorem oC(hC:C.Ok){a:Addr}{fd:FuncData}{body:List Stmt}{params:List Str}{vs:List Value}{cm:Str→Option Value}{Q:Value→Shared→Prop}(hf:sN s.heap a fd body params)(hpk:∀x∈params,fd.scope.names.lookup x=some .local)(hlen:vs.length=params.length)
  (hclo:∀x,fd.scope.names.lookup x=some .free→∃c,fd.closure.lookup x=some c∧W.h.IsCell c (cm x)∧c≠C.P) (hA:At C W s) (hS:SX C S W.h) (hR:bl (R+1) A)
  (h:∀env ae aj mm,(∀x,fd.scope.names.lookup x=some .local→mm x=(params.zip vs).reverse.lookup x)→(∀x,fd.scope.names.lookup x=some .free→mm x=cm x)→Ct C S W fd.scope.names env mm ae aj→bl R (A.deeper env)→
   wpAny (model C.prog C.w) (A.deeper env) (execs body env) (λf s'=>Q (wU f) s') i6 ae) :
  codeAny (model C.prog C.w) A (.call (.ref a) ⟨vs,[]⟩) (vj Q E) s:=by
 obtain⟨o,ho,hd⟩:=hf.at'
 obtain⟨mc,st1,st2,_⟩:=hC.st
 refine codeAny_call_function hR.depth ho hd hf.co hf.gen hf.body hf.code ?_
 rw[hf.bind vs hlen]
 refine wpAny_pure (wpAny_newFunctionEnv hf.nocell (λx hx=>hpk x.1 (im hx)) (λh' hns hsb=>?_) hf.kind)
 generalize hE:newEnv fd.scope s.heap.objs.size fd.globals fd.closure (fd.qualname ++ ".<locals>.") (some a) fd.code none fd.builtins=env
 have hne:∀b o,s.heap.get? b=some o→h'.get? b=some o:=λb o e=>hsb.extBut b o (Nat.ne_of_lt (Heap.lt_size e)) (Heap.get?_push_of_some _ e)
 obtain⟨aq,am⟩:=hA.keepW hne (tk:=s.toks+(params.zip vs).length) (Nat.le_add_right _ _)
 refine⟨Heap.NoLimit.keeps ⟨mc,st1.extBut hA.inv.ext hC.sP,st2⟩ hne,codeAny_func ?_⟩
 have ek:∀y,env.kindOf y=fd.scope.names.lookup y:=λy=>by rw[←hE];rfl
 have el:env.locals=s.heap.objs.size:=by rw[←hE];rfl
 have ec:env.cells=fd.closure:=by rw[←hE];rfl
 have eg:env.globals=mainGlobals:=by rw[←hE];exact hf.glob
 have eb:env.builtins=builtinsNs:=by rw[←hE];exact hf.bi
 have es:env.scope.kind = .function:=by rw[←hE];exact hf.kind
 have nwl:Nw C env.locals:=hA.inv.nw (Nat.le_of_eq el.symm)
 have frl:W.h.get? env.locals=none:=aK hA (Nat.le_of_eq el.symm)
 have nocell:∀y,fd.scope.names.lookup y≠some .cell:=λy q=>hf.nocell _ (mem_of_lookup q) rfl
 rw[←el]at hns
 refine wpAny_mono (h env _ { W with h:=h' } (λx=>if fd.scope.names.lookup x=some .local then(params.zip vs).reverse.lookup x else cm x) (λx hx=>if_pos hx) (λx hx=>if_neg (by rw[hx];exact nofun)) ⟨λb o e=>by have e':W.h.get? b=some o:=e;rw[hA.h]at e';exact hne b o e',am,aq,⟨es,⟨_,hns,λx hx=>?_⟩,nwl.nP hC,λx hx=>?_,eg,eb⟩,⟨λy hy=>?_,λy hy=>?_,λy hy=>?_⟩,⟨.inr (.head _),nwl,λy q=>by rw[ek];exact q,λy q=>by rw[ek];exact q,λy c q=>absurd q (nocell y)⟩,⟨.inl hS.1,λb hb=>?_⟩,frl,ek⟩ (hR.deeper env)) (λf s' q=>?_) λ_ _ x=>x.elim
 ·rw[ek]at hx;rw[if_pos hx]
 ·have hx:fd.scope.names.lookup x=some .free:=by
   rw[ek]at hx;exact hx.resolve_left (nocell x)
  obtain⟨c,h1,h2,h4⟩:=hclo x hx
  refine⟨c,by rw[ec];exact h1,?_,h4⟩
  rw[if_neg (by rw[hx];exact nofun)]
  exact cN h2 am.ext h4
 ·rw[ek]
  unfold iQ at hy
  split at hy
  ·rename_i q;exact .inl q
  ·rename_i q;exact .inr (.inl q)
  ·rename_i q;exact .inr (.inr q)
  ·cases hy
 ·rw[ek]
  unfold lC at hy
  split at hy
  ·rename_i q;exact q
  ·cases hy
 ·rw[ek];exact hy
 ·rcases hb with h|h
  ·exact(hS.le hC am aq).2 b h
  ·rcases List.mem_cons.mp h with h|h
   ·obtain⟨o,_,_,ho,_⟩:=hns;exact⟨o,h▸ho⟩
   ·cases h
 ·cases f<;>exact q
end
section
variable{prog:Program}{w:World}{A:Around}{E:Value→Shared→Prop}{s:Shared}{env:Env}{o:Expr}{name:Str}{apos pos:Pos}{Q:Value→Shared→Prop}{pl:Sem Bool}
theorem jv(hb:attributeBase o name env (eval o env)=eval o env)(hl:(apos.endLine==pos.line)=true)
  (h:wpAny (model prog w) A (eval o env) (λov ae=>∀pl,wpAny (model prog w) A (getMethod ov name pl) (λfx ak=>wpAny (model prog w) A (callWith pos fx.1 fx.2 [] []) Q E ak) E ae) E s) :
  wpAny (model prog w) A (eval (.Call (.Attribute o name apos) [] [] pos) env) Q E s:=by
 rw[arm_eval_Call,hb]
 refine wpAny_bind (wpAny_mono h (λov ae aX=>wpAny_bind (wpAny_standAt ?_)) λ_ _ x=>x)
 unfold methodCall
 have e1:methodCallForm (([]:List Expr).length+([]:List Keyword).length) (backTo pos (starEach [] env)) (backToKw pos (keywordEach [] env))=true:=rfl
 rw[e1]
 have hpos:methodCallPos true o env apos pos=pure pos:=by unfold methodCallPos;simp[hl]
 rw[hpos]
 unfold calleeOf
 exact wpAny_bind (wpAny_holding (wpAny_mono (aX _) (λfx ak aw=>wpAny_bind (wpAny_pure aw)) λ_ _ x=>x))
theorem jw{e:Expr}(hb:attributeBase o name env (eval o env)=eval o env)(hl:(apos.endLine==pos.line)=true)(he:oi e=true)
  (h:wpAny (model prog w) A (eval o env) (λov ae=>∀pl,wpAny (model prog w) A (getMethod ov name pl) (λfx ak=>wpAny (model prog w) A (callWith pos fx.1 fx.2 [(false,eval e env)] []) Q E ak) E ae) E s) :
  wpAny (model prog w) A (eval (.Call (.Attribute o name apos) [e] [] pos) env) Q E s:=by
 rw[arm_eval_Call,hb]
 refine wpAny_bind (wpAny_mono h (λov ae aX=>wpAny_bind (wpAny_standAt ?_)) λ_ _ x=>x)
 unfold methodCall
 have e0:backTo pos (starEach [e] env)=[(false,eval e env)]:=by rw[aA he];rfl
 have e1:methodCallForm (([e]:List Expr).length+([]:List Keyword).length) (backTo pos (starEach [e] env)) (backToKw pos (keywordEach [] env))=true:=by rw[e0];rfl
 rw[e1]
 have hpos:methodCallPos true o env apos pos=pure pos:=by unfold methodCallPos;simp[hl]
 rw[hpos,e0]
 unfold calleeOf
 exact wpAny_bind (wpAny_holding (wpAny_mono (aX _) (λfx ak aw=>wpAny_bind (wpAny_pure aw)) λ_ _ x=>x))
end
set_option maxHeartbeats 8000000
open_top hd for PySem.Challenge.rw_wk0015_01
#check @hd
noncomputable abbrev KK (p:Params):Frag:=hd.heap_39 p
def aF(K:Frag)(a:Addr):FuncData:=match K.lookup a with
 | some ⟨_,_,.func fd,_⟩=>fd
 | _=>default
def aR(fd:FuncData):List Stmt:=match fd.body with
 | .stmts b=>b
 | _=>[]
noncomputable def lexFd (p:Params):FuncData:=aF (KK p) 105
def wV:List Stmt→Option (Str×Arguments×List Stmt×Scope×Str×Pos)
 | .FunctionDef n a b _ _ _ sc _ q p::_=>some (n,a,b,sc,q,p)
 | _::r=>wV r
 | []=>none
noncomputable def ro (p:Params):Str×Arguments×List Stmt×Scope×Str×Pos:=(wV (aR (lexFd p))).getD default
noncomputable def roFd (p:Params) (cp ca:Addr) (qual:Str) (doc pm cv ctv:Value):FuncData:=
 fnX (nm "_law_read_on") qual (ro p).2.1 (ro p).2.2.1 (ro p).2.2.2.1 [(nm "page",cp),(nm "at",ca)] .none .none doc pm none cv ctv
abbrev oE:Pos:=⟨82,4,85,19⟩
abbrev kJ:Pos:=⟨86,13,86,25⟩
def Be:Str:=nm "_law_lexer" ++ ".<locals>." ++ nm "_law_read_on"
def wW:Str:=nm "_law_lexer" ++ ".<locals>." ++ "<lambda>"
structure CK(C:Cx):Prop where
 ok:C.Ok
 kin:(KK C.w.params).In C.base
 P:C.P=100
 bis:Fa C
 hd:CodeHd C.base 104 C.P
 bat:C.base.BuiltinsAt C.mg C.P
 pt:C.base.get? C.P=some (tabObj #[])
 pl:C.places=[(oE,Be),(kJ,wW)]
theorem CK.now{C:Cx}(x:CK C){W:Wd}{s:Shared}(a:At C W s):(KK C.w.params).In s.heap:=λb o e=>a.inv.ext b o (λq=>by rw[q,x.P]at e;cases e) (x.kin b o e)
def hV(p:Params)(sl:Array (Option Value))(n:Nat)(t0 t1 t2 t3:Tok)(a b c d:Value):Obj:=
 { cls:=.type "dict",data:=.dict #[⟨PyData.keyHash p (nm "lineno"),.str (nm "lineno") t0,a⟩,⟨PyData.keyHash p (nm "instream"),.str (nm "instream") t1,b⟩,⟨PyData.keyHash p (nm "whitespace"),.str (nm "whitespace") t2,c⟩,⟨PyData.keyHash p (nm "pushback"),.str (nm "pushback") t3,d⟩] n,slots:=sl }
theorem fO{X:Addr→Prop}{h h':Heap}{d:Addr}{p:Params}{line:Int}{f pb:Addr}(x:∃sl n t0 t1 t2 t3 t tw,h.get? d=some (hV p sl n t0 t1 t2 t3 (.int line t) (.ref f) (.str df tw) (.ref pb)))(k:Kp X h h')(m:¬X d):
  ∃sl n t0 t1 t2 t3 t tw,h'.get? d=some (hV p sl n t0 t1 t2 t3 (.int line t) (.ref f) (.str df tw) (.ref pb)):=
 let ⟨_,n,t0,t1,t2,t3,t,tw,e⟩:=x;let ⟨sl',e'⟩:=k.sl m e;⟨sl',n,t0,t1,t2,t3,t,tw,e'⟩
structure eK(C:Cx)(S:Addr→Prop)(W:Wd)(page:Str)(x d f fx rf cp ca al:Addr):Prop where
 nS:¬S x∧¬S f∧¬S fx∧¬S rf∧¬S cp∧¬S ca
 inst:W.h.get? x=some (instObj 94 d)
 fo:∃o fd,W.h.get? f=some o∧o.cls = .type "function" ∧o.dict=some fx∧o.data = .func fd
 fxo:∃m,W.h.Ns fx m∧m (nm "read")=some (.ref rf)
 rfo:∃o qual doc pm cv ctv,W.h.get? rf=some o∧o.cls = .type "function" ∧o.data = .func (roFd C.w.params cp ca qual doc pm cv ctv)∧W.h.CodeRec cv qual∧qual≠Str.empty
 cpo:∃t,W.h.IsCell cp (some (.str page t))∧i5 W t (.str true page)
 cao:W.h.IsCell ca (some (.ref al))
structure bS(C:Cx)(S:Addr→Prop)(W:Wd)(L:a6)(d pb al f:Addr):Prop where
 dict:∃sl n t0 t1 t2 t3 t tw,W.h.get? d=some (hV C.w.params sl n t0 t1 t2 t3 (.int L.line t) (.ref f) (.str df tw) (.ref pb))
 pbo:∃items,W.h.PlainList pb items∧av S W L.back items.toList
 alo:∃t,W.h.PlainList al #[.int L.at_ t]
 nw:Nw C d∧Nw C pb∧Nw C al
 ne:d≠pb∧d≠al∧pb≠al
theorem Bf(p:Params):∃ps,(ro p).2.1={ posonlyargs:=[],args:=[{ arg:=nm "size",annotation:=none,pos:=ps }],vararg:=none,kwonlyargs:=[],kw_defaults:=[],kwarg:=none,defaults:=[] }:=⟨_,rfl⟩
theorem gh(p:Params):(ro p).2.2.2.1={ kind:=.function,names:=[(nm "size",.local),(nm "sign",.local),(nm "at",.free),(nm "page",.free),(nm "len",.globalImplicit)],isGenerator:=false,isCoroutine:=false }:=rfl
abbrev En(x:Str)(ps:Pos):Arguments:={ posonlyargs:=[],args:=[{ arg:=x,annotation:=none,pos:=ps }],vararg:=none,kwonlyargs:=[],kw_defaults:=[],kwarg:=none,defaults:=[] }
theorem vk{fd:FuncData}{ps:Pos}(h:fd.params=En (nm "size") ps) (h1:fd.defaults = .none) (h2:fd.kwdefaults = .none) :
  ∀vals:List Value,vals.length=[nm "size"].length→bindArgs fd ⟨vals,[]⟩=pure ([nm "size"].zip vals)
 | [v],_=>by
  cases fd
  dsimp only at h h1 h2
  subst h h1 h2
  rfl
 | [],h=>by cases h
 | _::_::_,h=>by cases h
theorem CN{h:Heap}{rf:Addr}{o:Obj}{p:Params}{cp ca:Addr}{qual:Str}{doc pm cv ctv:Value}(ho:h.get? rf=some o)(hd:o.data = .func (roFd p cp ca qual doc pm cv ctv))(hc:h.CodeRec cv qual):
  sN h rf (roFd p cp ca qual doc pm cv ctv) (ro p).2.2.1 [nm "size"]:=by
 obtain⟨ps,hp⟩:=Bf p
 have es:(roFd p cp ca qual doc pm cv ctv).scope=(ro p).2.2.2.1:=rfl
 refine⟨⟨o,ho,hd⟩,hc,rfl,vk (fd:=roFd p cp ca qual doc pm cv ctv) hp rfl rfl,?_,?_,?_,rfl,rfl,?_⟩
 ·rw[es,gh]
 ·rw[es,gh]
 ·rw[es,gh]
 ·rw[es,gh];decide
abbrev Aj:Kd:=[(nm "size",.local),(nm "sign",.local),(nm "at",.free),(nm "page",.free),(nm "len",.globalImplicit)]
theorem Bg{T fns:List Str}{n:Nat}{K:Kd}{e:Expr}{x:X}(h:cE T fns n K e=some x):CE T fns K e x:=(jc T fns n).1 K e x h
abbrev at0:X:=.sub (.var 16) (.const (.int true 0))
section
variable{C:Cx}{S:Addr→Prop}{W:Wd}{s:Shared}{A:Around}{E:Value→Shared→Prop}{T:List Str}{m:Str→Option Value}{me:Me}
theorem cD(m:Str→Option Value)(x:Str)(v:Value):bM m x v x=some v:=if_pos rfl
theorem cA{m:Str→Option Value}{x y:Str}{u:Value}{v:Option Value}(n:y≠x)(e:m y=v):bM m x u y=v:=(if_neg n).trans e
theorem bO.nil:bO T S W m []:=λ_ _ h=>by cases h
theorem bO.cons{i:Nat}{x:Str}{d:D}{v:Value}(h1:T[i]?=some x)(h2:m x=some v)(h3:aN S W d v)(h:bO T S W m me):bO T S W m ((i,d)::me):=λj e q=>by
 rw[List.lookup_cons]at q
 split at q
 ·rename_i z;cases q;rw[beq_iff_eq.mp z];exact⟨x,v,h1,h2,h3⟩
 ·exact h j e q
theorem aN.anyS{S S':Addr→Prop}{g:Bool}{x:Str}{v:Value}(h:aN S W (.str g x) v):aN S' W (.str g x) v:=h
theorem lM(page:Str)(i:Nat):(cut page i).length≤1:=by
 unfold cut Str.length
 rw[List.size_toArray]
 cases page.cps.toList[i]?<;>simp
theorem vl(x:CK C){page:Str}{rf cp ca al:Addr}{o:Obj}{qual:Str}{doc pm cv ctv:Value}{i:Nat}{t u tp:Tok}(ho:s.heap.get? rf=some o)(hd:o.data = .func (roFd C.w.params cp ca qual doc pm cv ctv))(hc:s.heap.CodeRec cv qual)
  (hcp:W.h.IsCell cp (some (.str page tp))) (hgp:i5 W tp (.str true page)) (hca:W.h.IsCell ca (some (.ref al))) (np:cp≠C.P∧ca≠C.P) (hal:W.h.PlainList al #[.int i t]) (nw:Nw C al) (hA:At C W s) (hS:SX C S W.h) (hSal:¬S al) (hR:bl 1 A) (hi:i<2^61) :
  wpAny (model C.prog C.w) A (call (.ref rf) [.int 1 u]) (λv s'=>∃W' t',aZ (λb=>b=C.P∨b=al) W W'∧At C W' s'∧W'.h.PlainList al #[.int ((i+(cut page i).length:Nat):Int) t']∧aN S W' (.str true (cut page i)) v) E s:=by
 have hL:=uk x.ok x.bis 0
 have hC:=x.ok
 refine wpAny_call (oC (cm:=λy=>if y=nm "page" then some (.str page tp)else some (.ref al)) hC (CN ho hd hc) (λy hy=>?_) rfl (λy hy=>?_) hA hS hR (λenv ae aj mm q1 q2 en b6=>?_))
 ·rcases List.mem_cons.mp hy with rfl|hy
  ·rfl
  ·cases hy
 ·have hy:Aj.lookup y=some .free:=hy
  by_cases h1:y=nm "page"
  ·subst h1;exact⟨cp,rfl,by rw[if_pos rfl];exact hcp,np.1⟩
  ·by_cases h2:y=nm "at"
   ·subst h2;exact⟨ca,rfl,by rw[if_neg (by decide)];exact hca,np.2⟩
   ·rw[if_neg h1]
    have:y∈[nm "at",nm "page"]:=by
     have:=mem_of_lookup hy
     simp[Aj]at this
     simp
     exact this
    simp[h1,h2]at this
 have m3:mm (nm "size")=some (.int 1 u):=q1 _ rfl
 have m1:mm (nm "page")=some (.str page tp):=q2 (nm "page") rfl
 have m2:mm (nm "at")=some (.ref al):=q2 (nm "at") rfl
 clear q1 q2
 have nal:¬aM S [env.locals] al:=λq=>q.elim hSal λq=>by
  rcases List.mem_cons.mp q with q|q
  ·obtain⟨n,e⟩:=hal;rw[q,en.frl]at e;cases e
  ·cases q
 have wX:aj.h.PlainList al #[.int i t]:=let ⟨n,e⟩:=hal;⟨n,en.keep _ _ e⟩
 have hX:bG C TT Aj (aM S [env.locals]) aj env mm [(13,.str true page),(16,.list [.int false i]),(17,.int false 1)]:=
  ⟨en.fr,en.ag,.cons rfl m1 ⟨_,rfl,λ_=>hgp.le en.le⟩ (.cons rfl m2 ⟨al,_,rfl,nal,wX.isList,_,_,rfl,⟨t,rfl,nofun⟩,rfl⟩ (.cons rfl m3 ⟨_,rfl,nofun⟩ .nil))⟩
 have ev1:ev wR 20 (.slice (.var 13) (some at0) (some (.bin .add at0 (.var 17)))) [(13,.str true page),(16,.list [.int false i]),(17,.int false 1)]=some (.str true (cut page i)):=by
  simp[ev,ft,lA,dm,dC,cut,List.lookup]
 refine wpAny_execs_cons (wpAny_mono (kI (n:=20) hL az en.own (x:=nm "sign") rfl (Bg (n:=20) rfl) ev1 b6.low en.at' en.sx hX) (λf ak ⟨ef,W₂,sg,an,au,jQ,bE⟩=>?_) λ_ _ x=>x)
 subst ef
 dsimp only
 have npm:¬PM C Aj env al:=λq=>by
  rcases q with q|q|⟨y,q,_⟩
  ·exact nw.nP hC q
  ·exact nal (.inr (q ▸ .head _))
  ·have:y∈[]:=by have:=mem_of_lookup q;simp[Aj]at this
   cases this
 have wY:W₂.h.PlainList al #[.int i t]:=aE wX an.ext npm
 have Ak:bG C TT Aj (aM S [env.locals]) W₂ env (bM mm (nm "sign") sg) [(16,.list [.int false i]),(18,.str true (cut page i))]:=
  ⟨jQ,en.ag,.cons rfl (cA (by decide) m2) ⟨al,_,rfl,nal,wY.isList,_,_,rfl,⟨t,rfl,nofun⟩,rfl⟩ (.cons rfl (cD mm (nm "sign") sg) bE .nil)⟩
 have hcl:=lM page i
 have ev2:ev wR 20 (.bin .add at0 (.bi .len [.var 18])) [(16,.list [.int false i]),(18,.str true (cut page i))]=some (.int true ((i+(cut page i).length:Nat):Int)):=by
  have h5:(cut page i).length≤100000:=by omega
  simp[ev,ft,lA,dm,nB,bn,List.lookup,h5]
 have qM:SX C (aM S [env.locals]) W₂.h:=en.sx.leX an λb hb _=>by
  rcases hb with h|h
  ·exact h▸(let ⟨o,e⟩:=hC.Pin;let ⟨o',e'⟩:=au.inv.old.there _ _ e;⟨o',by rw[au.h];exact e'⟩)
  ·exact jQ.there en.own h
 refine wpAny_execs_cons (wpAny_Assign_Subscript (wpAny_mono ((ba hL az 20).1 Aj _ _ _ _ _ _ _ _ _ _ _ (Bg (n:=20) rfl) ev2 b6.low au qM Ak) (λnv bF ⟨bf,aD,aO,gJ⟩=>?_) λ_ _ x=>x))
 have d6:=jQ.ext aD.ext
 refine wpAny_Name (bj aO.h d6 (en.ag.v (nm "at") rfl) (by decide) (cA (by decide) m2) ?_) (by decide)
 have wZ:=Ak.le aD qM.1
 refine wpAny_mono ((ba hL az 20).1 Aj _ (.const (.int true 0)) _ (.int true 0) _ _ _ _ _ _ _ (.int) rfl b6.low aO (qM.le hC aD aO) wZ) (λiv cq ⟨aB,aU,bH,kK⟩=>?_) λ_ _ x=>x
 obtain⟨tn,rfl,_⟩:=gJ
 obtain⟨ti,rfl,_⟩:=kK
 have io:aB.h.PlainList al #[.int i t]:=aE (aE wY aD.ext (nw.nP hC)) aU.ext (nw.nP hC)
 have pf:=io;rw[bH.h]at pf
 refine je pf (Int.le_refl 0) (by decide) (by show 0<1;decide) λh' hl' hs'=>?_
 obtain⟨dJ,bI⟩:=bH.but hC (X:=(· = al)) (λb hb=>hb▸nw) (λb hb=>hb ▸ .seq pf.isList) (λb o n e=>(hs'.2 b n).trans e) (tk:=cq.toks) (Nat.le_refl _)
 have ph:=d6.ext aU.ext
 have lE:=ph.leX (XX:=(· = al)) bI λb hb=>.inr (hb▸NF.list io.isList)
 have CP:bM mm (nm "sign") sg (nm "sign")=some sg:=cD ..
 refine wpAny_execs_cons (wpAny_Return_some (wpAny_Name (bj dJ.h lE (en.ag.v (nm "sign") rfl) (by decide) CP ?_) (by decide)))
 refine⟨_,tn,?_,dJ,hl',?_⟩
 ·have L02:aZ (λb=>b=C.P∨b=al) W W₂:=by
   refine(en.le.leX (.inl rfl)).fresh an λb hb=>?_
   rcases hb with h|h|⟨y,h,_⟩
   ·exact .inl (.inl h)
   ·exact .inr (h▸en.frl)
   ·have:y∈[]:=by have:=mem_of_lookup h;simp[roFd,gh]at this
    cases this
  exact((L02.trans (aD.leX (.inl rfl))).trans (aU.leX (.inl rfl))).trans (bI.sub λb hb=>.inr hb)
 ·exact aN.anyS (S:=λb=>b=al) (aN.leX bI (λb hb=>hb) (aN.anyS (S:=aM S [env.locals]) (aN.le aU qM.1 _ (aN.le aD qM.1 _ bE))))
end
theorem Bh(p:Params):findIn (KK p) (.ref 94) "__getattribute__" = some (some (.builtin "object.__getattribute__")):=by rfl
theorem CQ(p:Params):findIn (KK p) (.ref 94) "__getattr__" = some none:=by rfl
theorem Bj(p:Params):findIn (KK p) (.ref 94) (nm "__init__")=some (some (.ref 70)):=by rfl
theorem Eo(p:Params):findIn (KK p) (.ref 94) (nm "_read_char")=some (some (.ref 77)):=by rfl
theorem w0(p:Params):findIn (KK p) (.ref 94) (nm "get_token")=some (some (.ref 84)):=by rfl
theorem Bk(p:Params):findIn (KK p) (.ref 94) (nm "push_token")=some (some (.ref 91)):=by rfl
theorem vm(p:Params):typeIn (KK p) (.ref 70)=some (.type "function")∧typeIn (KK p) (.ref 77)=some (.type "function")∧typeIn (KK p) (.ref 84)=some (.type "function")∧typeIn (KK p) (.ref 91)=some (.type "function"):=by refine⟨?_,?_,?_,?_⟩<;>rfl
section
variable{p:Params}{sl:Array (Option Value)}{n:Nat}{t0 t1 t2 t3:Tok}{a b c d:Value}
theorem w5:findObj (KK p) 94 (some (hV p sl n t0 t1 t2 t3 a b c d)) (nm "lineno")=some (.value a):=by rfl
theorem Bl:findObj (KK p) 94 (some (hV p sl n t0 t1 t2 t3 a b c d)) (nm "instream")=some (.value b):=by rfl
theorem yS:findObj (KK p) 94 (some (hV p sl n t0 t1 t2 t3 a b c d)) (nm "whitespace")=some (.value c):=by rfl
theorem sO:findObj (KK p) 94 (some (hV p sl n t0 t1 t2 t3 a b c d)) (nm "pushback")=some (.value d):=by rfl
theorem CS:shadowIn (some (hV p sl n t0 t1 t2 t3 a b c d)) (nm "_read_char")=some false:=by rfl
theorem Al:shadowIn (some (hV p sl n t0 t1 t2 t3 a b c d)) (nm "get_token")=some false:=by rfl
theorem CT:shadowIn (some (hV p sl n t0 t1 t2 t3 a b c d)) (nm "push_token")=some false:=by rfl
theorem Ep:findObj (KK p) 94 (some (hV p sl n t0 t1 t2 t3 a b c d)) (nm "_read_char")=some (.bind (.builtin "function.__get__") (.ref 77)):=by rfl
end
noncomputable abbrev bodyAt (p:Params) (a:Addr):List Stmt:=aR (aF (KK p) a)
theorem nJ{P:List Value→Prop}{x:Str}(h:∀v,P [v]):∀vals:List Value,vals.length=[x].length→P vals
 | [v],_=>h v
 | [],h=>by cases h
 | _::_::_,h=>by cases h
theorem lF{P:List Value→Prop}{x y:Str}(h:∀v w,P [v,w]):∀vals:List Value,vals.length=[x,y].length→P vals
 | [v,w],_=>h v w
 | [],h=>by cases h
 | [_],h=>by cases h
 | _::_::_::_,h=>by cases h
theorem CU{P:List Value→Prop}{x y z:Str}(h:∀v w u,P [v,w,u]):∀vals:List Value,vals.length=[x,y,z].length→P vals
 | [v,w,u],_=>h v w u
 | [],h=>by cases h
 | [_],h=>by cases h
 | [_,_],h=>by cases h
 | _::_::_::_::_,h=>by cases h
theorem yT(p:Params){h:Heap}(X:(KK p).In h):sN h 77 (aF (KK p) 77) (bodyAt p 77) [nm "self"]:=
 ⟨⟨_,X _ _ rfl,rfl⟩,codeRec_of X rfl,rfl,nJ λ_=>by kernel_rfl,rfl,rfl,rfl,rfl,rfl,by show ∀x∈[(nm "self",NameKind.local),(nm "ch",NameKind.local)],x.2 ≠ .cell;decide⟩
theorem Bm(p:Params){h:Heap}(X:(KK p).In h):sN h 84 (aF (KK p) 84) (bodyAt p 84) [nm "self"]:=
 ⟨⟨_,X _ _ rfl,rfl⟩,codeRec_of X rfl,rfl,nJ λ_=>by kernel_rfl,rfl,rfl,rfl,rfl,rfl,by show ∀x∈[(nm "self",NameKind.local),(nm "token",NameKind.local),(nm "fiter",NameKind.local),(nm "ch",NameKind.local),(nm "iter",NameKind.globalImplicit)],x.2 ≠ .cell;decide⟩
theorem CV(p:Params){h:Heap}(X:(KK p).In h):sN h 91 (aF (KK p) 91) (bodyAt p 91) [nm "self",nm "token"]:=
 ⟨⟨_,X _ _ rfl,rfl⟩,codeRec_of X rfl,rfl,lF λ_ _=>by kernel_rfl,rfl,rfl,rfl,rfl,rfl,by show ∀x∈[(nm "self",NameKind.local),(nm "token",NameKind.local)],x.2 ≠ .cell;decide⟩
theorem Er(p:Params){h:Heap}(X:(KK p).In h):sN h 70 (aF (KK p) 70) (bodyAt p 70) [nm "self",nm "fp"]:=
 ⟨⟨_,X _ _ rfl,rfl⟩,codeRec_of X rfl,rfl,lF λ_ _=>by kernel_rfl,rfl,rfl,rfl,rfl,rfl,by show ∀x∈[(nm "self",NameKind.local),(nm "fp",NameKind.local)],x.2 ≠ .cell;decide⟩
abbrev Am:Kd:=[(nm "self",.local),(nm "ch",.local)]
section
variable{C:Cx}{S:Addr→Prop}{W:Wd}{s:Shared}{A:Around}{E:Value→Shared→Prop}
theorem qN{M:Model}{f:Addr}{first:List Value}{args:List (Bool×Sem Value)}{pos:Pos}{Q:Value→Shared→Prop}(hplain:args.any (·.1)=false)
  (h:wpAny M A (evalArgs (.ref f) true args []) (λa ae=>(∃o fd,ae.heap.get? f=some o∧o.data = .func fd)∧wpAny M A (call (.ref f) (first++a.pos) a.kw) Q E ae) E s):wpAny M A (callWith pos (.ref f) first args []) Q E s:=by
 refine callWith_of (P:=λh=>∃o fd,h.get? f=some o∧o.data = .func fd) (by rw[hplain];rfl) (λh' ⟨o,fd,q,hd⟩=>⟨.frame,.inl rfl,(Looks.ld (part:=none) q).andThen ?_⟩) h
 rw[hd];exact .now
theorem w6(hC:C.Ok){T fns:List Str}{F:Nat→List D→Option D}{R n:Nat}(hL:Lk C T fns F R)(hT:T.Nodup){K:Kd}{env:Env}{m:Str→Option Value}{me:Me}{f:Addr}{first:List Value}{pos:Pos}{e:Expr}{x:X}{d:D}{Q:Value→Shared→Prop}
  (h:CE T fns K e x) (he:ev F n x me=some d) (hR:bB C R A) (hA:At C W s) (hS:SX C S W.h) (hX:bG C T K S W env m me) (hf:∃o fd,s.heap.get? f=some o∧o.data = .func fd) (hfP:f≠C.P)
  (k:∀v s' W',Le C W W'→At C W' s'→aN S W' d v→wpAny (model C.prog C.w) A (call (.ref f) (first++[v])) Q E s') :
  wpAny (model C.prog C.w) A (callWith pos (.ref f) first [(false,eval e env)] []) Q E s:=by
 refine qN rfl ?_
 have:=fg (E:=E) (f:=.ref f) (pos:=pos) (Q:=λa ae=>(∃o fd,ae.heap.get? f=some o∧o.data = .func fd)∧wpAny (model C.prog C.w) A (call (.ref f) (first++a.pos) a.kw) Q E ae) (ba hL hT n).1 hC rfl hR (CL.cons h .nil) (ds:=[d]) (by simp[bn,he]) hA hS hX (λvs s' W' L a' S' r=>by
  obtain⟨v,r',rfl,r1,rfl⟩:=r
  refine⟨?_,k v s' W' L a' r1⟩
  obtain⟨o,fd,e1,e2⟩:=hf
  rw[←hA.h]at e1
  exact⟨o,fd,by rw[←a'.h];exact L.ext.ex hfP e1 (λ_ _=>by rw[e2];nofun),e2⟩)
 rw[aA (aH h)]at this
 exact this
theorem sQ{f:Addr}{M:Model}{first:List Value}{pos:Pos}{Q:Value→Shared→Prop}(hf:∃o fd,s.heap.get? f=some o∧o.data = .func fd)(k:wpAny M A (call (.ref f) first) Q E s):wpAny M A (callWith pos (.ref f) first [] []) Q E s:=by
 refine qN rfl ?_
 have e:evalArgs (.ref f) true [] []=pure ⟨[],[]⟩:=rfl
 rw[e]
 exact wpAny_pure ⟨hf,by simpa using k⟩
theorem jV{xa d:Addr}{od:Obj}(hA:At C W s)(I:W.h.get? xa=some (instObj 94 d))(hd:W.h.get? d=some od):InstAt s.heap xa (instObj 94 d) 94 (some od):=by
 rw[hA.h]at I hd
 exact⟨I,rfl,rfl,hd⟩
theorem jx(x:CK C){xa d:Addr}{od:Obj}{name:Str}{v:Value}{expr:Bool}{Q:Value→Shared→Prop}(hA:At C W s)(I:W.h.get? xa=some (instObj 94 d))(hd:W.h.get? d=some od)
  (hf:findObj (KK C.w.params) 94 (some od) name=some (.value v)) (hh:handedIn v=true) (h:∀s',At C W s'→Q v s'):wpAny (model C.prog C.w) A (getAttr (.ref xa) name expr) Q E s:=
 get_value (x.now hA) (jV hA I hd) (Bh _) hf hh (h _ ⟨hA.h,hA.pos,Nat.le_succ_of_le hA.k,hA.inv.keep (a8 _),hA.gn⟩)
theorem lN(x:CK C){xa d f:Addr}{od:Obj}{name:Str}{pl:Sem Bool}{Q:Value×List Value→Shared→Prop}(hA:At C W s)(I:W.h.get? xa=some (instObj 94 d))(hd:W.h.get? d=some od)
  (hf:findIn (KK C.w.params) (.ref 94) name=some (some (.ref f))) (ht:typeIn (KK C.w.params) (.ref f)=some (.type "function")) (hs:shadowIn (some od) name=some false) (h:Q (.ref f,[.ref xa]) s):wpAny (model C.prog C.w) A (getMethod (.ref xa) name pl) Q E s:=
 method_fn (x.now hA) (jV hA I hd) (Bh _) (CQ _) hf ht hs h
end
section
variable{C:Cx}{S:Addr→Prop}{W W':Wd}{s:Shared}{A:Around}{E:Value→Shared→Prop}{X:Addr→Prop}{page:Str}{L:a6}{xa d f fx rf cp ca al pb:Addr}
theorem eK.leX(I:eK C S W page xa d f fx rf cp ca al)(Lx:aZ X W W')(hX:∀b,X b→S b):eK C S W' page xa d f fx rf cp ca al:=by
 obtain⟨n1,n2,n3,n4,n5,n6⟩:=I.nS
 have k:∀{b:Addr},¬S b→¬X b:=λn q=>n (hX _ q)
 refine⟨I.nS,Lx.ext.ex (k n1) I.inst nofun,?_,?_,?_,?_,?_⟩
 ·obtain⟨o,fd,e,r1,r2,r3⟩:=I.fo;exact⟨o,fd,Lx.ext.ex (k n2) e (λ_ _=>by rw[r3];nofun),r1,r2,r3⟩
 ·obtain⟨m,e,q⟩:=I.fxo;exact⟨m,jH e Lx.ext (k n3),q⟩
 ·obtain⟨o,qual,doc,pm,cv,ctv,e,r1,r2,r3,r4⟩:=I.rfo;exact⟨o,qual,doc,pm,cv,ctv,Lx.ext.ex (k n4) e (λ_ _=>by rw[r2];nofun),r1,r2,Lx.cr _ _ r4 r3,r4⟩
 ·obtain⟨t,e,g⟩:=I.cpo;exact⟨t,cN e Lx.ext (k n5),⟨g.1,Nat.lt_of_lt_of_le g.2.1 Lx.k,(Lx.g t g.2.1).trans g.2.2⟩⟩
 ·exact cN I.cao Lx.ext (k n6)
theorem bS.leX(M:bS C S W L d pb al f)(Lx:aZ X W W')(hX:∀b,X b→S b)(h1:¬X d)(h2:¬X pb)(h3:¬X al):bS C S W' L d pb al f:=by
 refine⟨?_,?_,?_,M.nw,M.ne⟩
 ·exact fO M.dict Lx.ext h1
 ·obtain⟨its,e,r⟩:=M.pbo;exact⟨its,aE e Lx.ext h2,r.leX Lx hX⟩
 ·obtain⟨t,e⟩:=M.alo;exact⟨t,aE e Lx.ext h3⟩
theorem w7{p:Params}{sl:Array (Option Value)}{n:Nat}{t0 t1 t2 t3 t:Tok}{a b c e v:Value}:Obj.putName (nm "lineno") (PyData.keyHash p (nm "lineno")) (.str (nm "lineno") t) v (hV p sl n t0 t1 t2 t3 a b c e)=hV p sl n t0 t1 t2 t3 v b c e:=by rfl
theorem An(p:Params):findIn (KK p) (.ref 94) "__setattr__" = some (some (.builtin "object.__setattr__")):=by rfl
theorem w8(p:Params):plainOver (KK p) 94=true:=by rfl
theorem CX(p:Params):(clsIn (KK p) 94).any (·.hasDict)=true:=by rfl
theorem Ao(p:Params):takerIn (KK p) 94 (nm "lineno")=some none:=by rfl
theorem sR(x:CK C){K:Kd}{env:Env}{m:Str→Option Value}{Q:Flow→Shared→Prop}{ep p:Pos}{vp tp:Pos}(I:eK C S W L.page xa d f fx rf cp ca al)(M:bS C S W L d pb al f)(hA:At C W s)(hS:SX C S W.h)(hd:S d)(hR:bl 0 A)
  (fr:ay C env W.h m) (hK:Ag K env) (hv:iQ K (nm "self")=true) (hm:m (nm "self")=some (.ref xa))
  (h:∀s' W',aZ (λb=>b=C.P∨b=d) W W'→At C W' s'→bS C S W' { L with line:=L.line+1 } d pb al f→Q .next s') :
  wpAny (model C.prog C.w) A (exec (.AugAssign (.Attribute (.Name (nm "self") vp) (nm "lineno") tp) .Add (.Constant (.int 1) 0 ep) p) env) Q E s:=by
 have hC:=x.ok
 obtain⟨sl,n,t0,t1,t2,t3,t,tw,e⟩:=M.dict
 refine wpAny_AugAssign_AttributeAny (wpAny_Name (bj hA.h fr (hK.v _ hv) (by decide) hm ?_) (by decide))
 refine jx x hA I.inst e w5 rfl λae aq=>?_
 have hX:bG C TT K S W env m []:=⟨fr,hK,.nil⟩
 refine wpAny_mono ((ba (uk hC x.bis 0) az 2).1 K _ (.const (.int true 1)) [] (.int true 1) _ _ _ _ _ _ _ (.int) rfl hR.low aq hS hX) (λiv ak ⟨W₂,an,au,bE⟩=>?_) λ_ _ x=>x
 obtain⟨ti,rfl,_⟩:=bE
 refine iadd_int ?_
 obtain⟨aO,aD⟩:=au.keepW (a8 _) (tk:=ak.toks+1) (Nat.le_succ _)
 have dP:d≠C.P:=M.nw.1.nP hC
 have xP:xa≠C.P:=λq=>I.nS.1 (q▸hS.1)
 obtain⟨sl',vn⟩:=(an.ext.trans aD.ext).sl dP e
 have yU:=(an.ext.trans aD.ext).ex xP I.inst nofun
 refine qL (x.now aO) (jV aO yU (od:=hV C.w.params sl' n t0 t1 t2 t3 (.int L.line t) (.ref f) (.str df tw) (.ref pb)) vn) rfl (An _) (w8 _) (Ao _) (CX _) rfl w7 rfl (by simp) λh' hg hb=>?_
 have CZ:=vn
 have nf:oZ ak.heap d:=λo vs q t' ho hdt _=>by
  have e4:=CZ;rw[aO.h]at e4
  have e5:ak.heap.get? d=some _:=e4
  rw[ho]at e5;cases e5;cases hdt
 obtain⟨bH,aU⟩:=aO.but hC (X:=(· = d)) (λb hb=>hb▸M.nw.1) (λb hb=>hb▸⟨nf,λ_=>.inr ⟨_,_,_,hg,rfl⟩⟩) (λb o n e=>(hb.2 b n).trans e) (tk:=ak.toks+1+2) (by show ak.toks+1≤ak.toks+1+2;omega)
 have LL:aZ (λb=>b=C.P∨b=d) W { W₂ with h:=h' }:=((an.leX (.inl rfl)).trans (aD.leX (.inl rfl))).trans (aU.sub λb hb=>.inr hb)
 refine h _ _ LL bH ⟨⟨sl',n,t0,t1,t2,t3,ak.toks,tw,?_⟩,?_,?_,M.nw,M.ne⟩
 ·rw[show((L.line+1:Nat):Int)=(L.line:Int)+1 by omega];exact hg
 ·obtain⟨its,e,r⟩:=M.pbo
  exact⟨its,aE e LL.ext (λq=>q.elim (M.nw.2.1.nP hC) M.ne.1.symm),r.leX LL λb hb=>hb.elim (λh=>h▸hS.1) λh=>h▸hd⟩
 ·obtain⟨u,e⟩:=M.alo
  exact⟨u,aE e LL.ext (λq=>q.elim (M.nw.2.2.nP hC) M.ne.2.1.symm)⟩
theorem Ff:ev wR 20 (.cmp .eq (.var 10) (.const (.str true (nm "\n")))) [(10,.str true (cut L.page L.at_))]=some (.bool (decide (cut L.page L.at_=nm "\n"))):=by
 simp[ev,a9,eV,List.lookup]
 by_cases h:cut L.page L.at_=nm "\n" <;> simp[h]
theorem gK(hC:C.Ok)(a:At C W s):∃o,W.h.get? C.P=some o:=by
 obtain⟨o,ho⟩:=hC.Pin
 obtain⟨o',ho'⟩:=a.inv.old.there _ _ ho
 exact⟨o',by rw[a.h];exact ho'⟩
theorem bS.there(M:bS C S W L d pb al f):(∃o,W.h.get? d=some o)∧(∃o,W.h.get? pb=some o)∧∃o,W.h.get? al=some o:=by
 obtain⟨sl,n,t0,t1,t2,t3,t,tw,e⟩:=M.dict
 obtain⟨its,⟨k,e'⟩,_⟩:=M.pbo
 obtain⟨u,k',e''⟩:=M.alo
 exact⟨⟨_,e⟩,⟨_,e'⟩,⟨_,e''⟩⟩
theorem bS.moved(M:bS C S W L d pb al f)(hC:C.Ok)(Lx:aZ (λb=>b=C.P∨b=al) W W')(hP:S C.P)(hal:S al){k:Nat}(h:∃t,W'.h.PlainList al #[.int k t]):bS C S W' { L with at_:=k } d pb al f:=by
 refine⟨?_,?_,h,M.nw,M.ne⟩
 ·exact fO M.dict Lx.ext (λq=>q.elim (M.nw.1.nP hC) M.ne.2.1)
 ·obtain⟨its,e,r⟩:=M.pbo
  exact⟨its,aE e Lx.ext (λq=>q.elim (M.nw.2.1.nP hC) M.ne.2.2),r.leX Lx λb hb=>hb.elim (λh=>h▸hP) λh=>h▸hal⟩
theorem k8(x:CK C)(I:eK C S W L.page xa d f fx rf cp ca al)(M:bS C S W L d pb al f)(hA:At C W s)(hS:SX C S W.h)(hd:S d)(hal:S al)(hR:bl 2 A)(hat:L.at_<2^61):
  codeAny (model C.prog C.w) A (.call (.ref 77) ⟨[.ref xa],[]⟩) (vj (λv s'=>∃W',aZ (λb=>b=C.P∨b=d∨b=al) W W'∧At C W' s'∧bS C S W' L.read d pb al f∧aN S W' (.str true (cut L.page L.at_)) v) E) s:=by
 have hC:=x.ok
 have hL:=uk hC x.bis 0
 refine oC (cm:=λ_=>none) hC (yT _ (x.now hA)) (λy hy=>?_) rfl (λy hy=>?_) hA hS hR (λenv ae aj mm q1 q2 en b6=>?_)
 ·rcases List.mem_cons.mp hy with rfl|hy
  ·rfl
  ·cases hy
 ·have hy:Am.lookup y=some .free:=hy
  have:=mem_of_lookup hy
  simp[Am]at this
 have en:Ct C S W Am env mm ae aj:=en
 have m1:mm (nm "self")=some (.ref xa):=q1 (nm "self") rfl
 clear q1 q2
 have hSP:∀b,b=C.P→S b:=λb h=>h▸hS.1
 have fresh:∀{b:Addr} {o:Obj},W.h.get? b=some o→b≠env.locals:=λe q=>by rw[q,en.frl]at e;cases e
 have nK:=I.leX (en.le.leX (X:=(· = C.P)) rfl) hSP
 have iq:=M.leX (en.le.leX (X:=(· = C.P)) rfl) hSP (M.nw.1.nP hC) (M.nw.2.1.nP hC) (M.nw.2.2.nP hC)
 have w9:=hS.le hC en.le en.at'
 obtain⟨sl,n,t0,t1,t2,t3,tl,tw,sS⟩:=iq.dict
 refine wpAny_execs_cons (wpAny_Assign_Name (jw rfl rfl rfl (Attribute_name (wpAny_Name (bj en.at'.h en.fr (en.ag.v (nm "self") rfl) (by decide) m1 ?_) (by decide)))))
 refine jx x en.at' nK.inst sS Bl rfl λak au pl=>?_
 obtain⟨of,fdf,g1,g2,g3,g4⟩:=nK.fo
 obtain⟨mf,g5,g6⟩:=nK.fxo
 rw[au.h]at g1 g5
 refine pe g1 g2 g3 g4 g5 g6 λtk htk=>?_
 obtain⟨aO,aD⟩:=au.keepW (a8 _) htk
 have rP:rf≠C.P:=λq=>I.nS.2.2.2.1 (q▸hS.1)
 obtain⟨orf,qual,doc,pm,cv,ctv,r1,r2,r3,r4,r5⟩:=nK.rfo
 refine w6 (n:=2) hC hL az (me:=[]) (CE.int) (d:=.int true 1) rfl (b6.le (Nat.zero_le _)).low aO (en.sx.le hC aD aO) ⟨en.fr.ext aD.ext,en.ag,.nil⟩ ⟨orf,_,by have:=r1;rw[au.h]at this;exact this,r3⟩ rP λv cq aB aU bH kK=>?_
 obtain⟨t1i,rfl,_⟩:=kK
 have L14:Le C aj aB:=aD.trans aU
 have sT:=nK.leX (L14.leX (X:=(· = C.P)) rfl) hSP
 have vo:=iq.leX (L14.leX (X:=(· = C.P)) rfl) hSP (M.nw.1.nP hC) (M.nw.2.1.nP hC) (M.nw.2.2.nP hC)
 have C0:=w9.le hC L14 bH
 obtain⟨ta,io⟩:=vo.alo
 obtain⟨tp,Bn,Bo⟩:=sT.cpo
 have hS':SX C (λb=>S b∧b≠al) aB.h:=⟨⟨hS.1,λq=>M.nw.2.2.nP hC q.symm⟩,λb hb=>C0.2 b hb.1⟩
 obtain⟨orf,qual,doc,pm,cv,ctv,r1,r2,r3,r4,r5⟩:=sT.rfo
 rw[bH.h]at r1 r4
 refine wpAny_mono (vl x r1 r3 r4 Bn Bo sT.cao ⟨λq=>I.nS.2.2.2.2.1 (q▸hS.1),λq=>I.nS.2.2.2.2.2 (q▸hS.1)⟩ io M.nw.2.2 bH hS' (λq=>q.2 rfl) (b6.le (Nat.le_refl _)) hat) (λv cu ⟨dI,t',bI,dJ,Bp,qE⟩=>?_) λ_ _ x=>x
 have L15:aZ (λb=>b=C.P∨b=al) aj dI:=(L14.leX (.inl rfl)).trans bI
 have nk:∀y,¬(env.kindOf y=some .cell∨env.kindOf y=some .free):=λy q=>by
  rw[en.ko]at q
  rcases q with q|q<;>(have:=mem_of_lookup q;simp[Am]at this)
 have fall:∀{cH jf:Wd} {Y:Addr→Prop} {mm':Str→Option Value},ay C env cH.h mm'→aZ Y cH jf→¬Y env.locals→ay C env jf.h mm':=λf L n=>f.leX' L n λy c hk _=>absurd hk (nk y)
 have lP:env.locals≠C.P:=en.own.locN.nP hC
 have lal:env.locals≠al:=λq=>by obtain⟨o,e⟩:=M.there.2.2;exact fresh e q.symm
 have ld:env.locals≠d:=λq=>by obtain⟨o,e⟩:=M.there.1;exact fresh e q.symm
 have lpb:env.locals≠pb:=λq=>by obtain⟨o,e⟩:=M.there.2.1;exact fresh e q.symm
 have lE:=fall en.fr L15 (λq=>q.elim lP lal)
 have hMut:∀b,cU Am env b→b=env.locals:=λb hb=>by
  rcases hb with h|⟨y,h,_⟩
  ·exact h
  ·have:=mem_of_lookup h;simp[Am]at this
 refine wpAny_mono (b9 (x:=nm "ch") en.own hC dJ lE rfl) (λ_ dp ⟨cx,cY,eG,jW⟩=>?_) λ_ _ x=>x
 dsimp only
 have xc:aZ (· = env.locals) dI cx:=cY.sub hMut
 have L06:aZ (λb=>b=C.P∨b=al) W cx:=((en.le.leX (.inl rfl)).trans L15).fresh xc λb hb=>.inr (hb▸en.frl)
 have hX06:∀b,(b=C.P∨b=al)→S b:=λb hb=>hb.elim (hSP b) λh=>h▸hal
 have Es:=I.leX L06 hX06
 have Bq:cx.h.PlainList al #[.int ((L.at_+(cut L.page L.at_).length:Nat):Int) t']:=aE Bp xc.ext lal.symm
 have jr:=M.moved hC L06 hS.1 hal ⟨t',Bq⟩
 have Ap:SX C S cx.h:=hS.leX L06 λb hb _=>hb.elim (λh=>h▸gK hC eG) λh=>h▸jr.there.2.2
 have Br:SX C (aM S [env.locals]) cx.h:=⟨.inl hS.1,λb hb=>by
  rcases hb with h|h
  ·exact Ap.2 b h
  ·exact jW.there en.own (.inl (by simpa using h))⟩
 have C1:aN (aM S [env.locals]) cx (.str true (cut L.page L.at_)) v:=aN.leX xc (λb hb=>.inr (hb ▸ .head _)) (aN.anyS (S:=λb=>S b∧b≠al) qE)
 have C2:bG C TT Am (aM S [env.locals]) cx env (bM mm (nm "ch") v) [(10,.str true (cut L.page L.at_))]:=⟨jW,en.ag,.cons rfl (cD mm (nm "ch") v) C1 .nil⟩
 refine wpAny_execs_cons (wpAny_mono (Q:=λfl kH=>fl=Flow.next∧∃eA,aZ (λb=>b=C.P∨b=d) cx eA∧At C eA kH∧bS C S eA L.read d pb al f) (wpAny_If (wpAny_mono ((ba hL az 20).2 Am _ _ _ _ _ _ _ _ _ _ _ _ (Bg (n:=20) rfl) Ff rfl (b6.le (Nat.zero_le _)).low eG Br C2) (λb' qO ⟨eb,lG,cM,fL⟩=>?_) λ_ _ x=>x)) (λfl kH ⟨efl,eA,eZ,fK,Bs⟩=>?_) λ_ _ x=>x)
 ·subst eb
  have Et:=Es.leX (cM.leX (X:=(· = C.P)) rfl) hSP
  have xe:=jr.leX (cM.leX (X:=(· = C.P)) rfl) hSP (M.nw.1.nP hC) (M.nw.2.1.nP hC) (M.nw.2.2.nP hC)
  have C3:=Ap.le hC cM fL
  have sU:=jW.ext cM.ext
  by_cases hnl:cut L.page L.at_=nm "\n"
  ·rw[if_pos (by simpa using hnl)]
   refine wpAny_execs_cons (sR x (L:={ L with at_:=L.at_+(cut L.page L.at_).length }) Et xe fL C3 hd (b6.le (Nat.zero_le _)) sU en.ag rfl (cA (by decide) m1) λkH eA eZ fK Bs=>?_)
   refine wpAny_execs_nil ⟨rfl,eA,(cM.leX (.inl rfl)).trans eZ,fK,?_⟩
   unfold a6.read
   rw[if_pos hnl]
   exact Bs
  ·rw[if_neg (by simpa using hnl)]
   refine wpAny_execs_nil ⟨rfl,lG,cM.leX (.inl rfl),fL,?_⟩
   unfold a6.read
   rw[if_neg hnl]
   exact xe
 ·subst efl
  dsimp only
  have vq:=fall jW eZ (λq=>q.elim lP ld)
  refine wpAny_execs_cons (wpAny_Return_some (wpAny_Name (bj fK.h vq (en.ag.v (nm "ch") rfl) (by decide) (cD mm (nm "ch") v) ?_) (by decide)))
  refine⟨eA,(L06.sub λb hb=>hb.imp id .inr).trans (eZ.sub λb hb=>hb.imp id .inl),fK,Bs,?_⟩
  exact aN.anyS (S:=S) (aN.leX eZ (λb hb=>hb.elim (hSP b) λh=>h▸hd) (aN.anyS (S:=aM S [env.locals]) C1))
end
theorem gL:Slot "callable_iterator" "__next__" "callable_iterator.__next__" :=
 .of (owner:= "callable_iterator") (n:= "__next__") (by rw[typeLookup_type,builtinLookup_eq_fast];kernel_rfl) (by decide +kernel) (by decide +kernel) (by decide +kernel)
  (by first|exact .inl (by decide +kernel)|exact .inr (by decide +kernel)) (by rw[isSubtype_type];kernel_rfl)
theorem jX:Slot "callable_iterator" "__iter__" "callable_iterator.__iter__" :=
 .of (owner:= "callable_iterator") (n:= "__iter__") (by rw[typeLookup_type,builtinLookup_eq_fast];kernel_rfl) (by decide +kernel) (by decide +kernel) (by decide +kernel)
  (by first|exact .inl (by decide +kernel)|exact .inr (by decide +kernel)) (by rw[isSubtype_type];kernel_rfl)
theorem nL:entryFor table "callable_iterator.__next__" = some Builtin.«callable_iterator.__next__» :=entryFor_of_tree (by kernel_rfl)
theorem pi(a:Value):argsOk "callable_iterator.__next__" ⟨[a],[]⟩:=by unfold argsOk;kernel_rfl
theorem nN:entryFor table "callable_iterator.__iter__" = some Builtin.«dict_keyiterator.__iter__» :=entryFor_alias (id':= "dict_keyiterator.__iter__") (by kernel_rfl) rfl (by decide +kernel) (by kernel_rfl)
theorem pj(a:Value):argsOk "callable_iterator.__iter__" ⟨[a],[]⟩:=by unfold argsOk;kernel_rfl
abbrev ir(f sen:Value)(e:Bool):Obj:={ cls:=.type "callable_iterator",data:=.fields #[f,sen,.bool e] }
section
variable{prog:Program}{w:World}{A:Around}{E:Value→Shared→Prop}{s:Shared}{it m f x:Addr}{sen:Str}{t:Tok}{e:Bool}{v1 v2:Value}
theorem ul{Q:Value→Shared→Prop}(hit:s.heap.get? it=some (ir v1 v2 e))(h:Q (.ref it) s):wpAny (model prog w) A (pyIter (.ref it)) Q E s:=by
 have hT:s.TypeIs (.ref it) "callable_iterator" :=⟨_,hit,rfl⟩
 refine wpAny_pyIter_slot hT jX (wpAny_call_entry jX hT nN ?_ (pj _))
 show wpAny _ _ (ret (.ref it)) _ _ s
 exact wpAny_pure ⟨_,rfl, "callable_iterator",_,hT,gL.lookup,h⟩
theorem um{α:Type}{Q:α→Shared→Prop}{E':Value→Shared→Prop}{A':Around}(hh:A'.handled=none)(h:∀h' x,(∀b o,s.heap.get? b=some o→h'.get? b=some o)→(∃o,h'.get? x=some o∧o.cls = .type "StopIteration")→E' (.ref x) { s with heap:=h' }) :
  wpAny (model prog w) A' (do raiseNew (α:=α) (←newExc (.type "StopIteration") [])) Q E' s:=by
 refine wpAny_bind ?_
 simp only[newExc,newTuple]
 refine wpAny_bind (wpAny_newObj_type ?_ (by size_fits))
 refine wpAny_bind (m:=firstArgMember _ _) (wpAny_of_eq (a:=Value.none) (by first|rfl|(simp only[firstArgMember];rfl)) ?_)
 refine wpAny_newObj_type ?_ (by size_fits)
 simp only[raiseNew]
 refine wpAny_bind (wpAny_handled ?_)
 rw[hh]
 refine wpAny_bind (wpAny_pure (wpAny_throw ?_))
 refine h _ _ (λb o e=>Heap.get?_push_of_some _ (Heap.get?_push_of_some _ e)) ⟨_,Heap.get?_push_size _ rfl,rfl⟩
theorem un{Q:Option Value→Shared→Prop}(hit:s.heap.get? it=some (ir v1 v2 e))
  (h:wpAny (model prog w) A.in1 (Builtin.«callable_iterator.__next__» ⟨[.ref it],[]⟩) (λfin s'=>match fin with | .done (.ret v)=>Q (some v) s'|_=>False) (λx s'=>(∃o,s'.heap.get? (match x with | .ref a=>a|_=>0)=some o∧o.cls = .type "StopIteration")∧(∃a,x = .ref a)∧Q none s') s) :
  wpAny (model prog w) A (pyNext (.ref it)) Q E s:=by
 have hT:s.TypeIs (.ref it) "callable_iterator" :=⟨_,hit,rfl⟩
 unfold pyNext
 refine wpAny_bind (wpAny_attempt (wpAny_callSpecial?_slot (name:=Str.ofString "__next__") hT gL
  (wpAny_call_entry gL hT nL ?_ (pi _))))
 refine wpAny_mono h (λfin s' q=>?_) λx s' ⟨⟨o,h1,h2⟩,⟨a,ea⟩,q⟩=>?_
 ·rcases fin with(_|_|_|_)|_<;>first|exact⟨_,rfl,wpAny_pure q⟩|exact q.elim
 ·subst ea
  exact wpAny_bind (wpAny_isInstance (T:= "StopIteration") (b:=true) ⟨o,h1,h2⟩ isSubtype_stop (wpAny_pure q))
theorem xf{Q:Option Value→Shared→Prop}(hh:A.handled=none)(hit:s.heap.get? it=some (ir v1 v2 true))(h:∀h',(∀b o,s.heap.get? b=some o→h'.get? b=some o)→Q none { s with heap:=h' }):
  wpAny (model prog w) A (pyNext (.ref it)) Q E s:=by
 refine un hit ?_
 unfold Builtin.«callable_iterator.__next__»
 refine wpAny_bind (m:=slotArgs "__next__" 0 _) (wpAny_pure ?_)
 refine wpAny_bind (wpAny_field hit rfl rfl ?_)
 rw[if_pos (by rfl)]
 refine wpAny_bind (wpAny_rule (wpAny_bind ?_))
 exact um (A':=A.in1) hh λh' y hk ⟨o,e1,e2⟩=>⟨⟨o,e1,e2⟩,⟨y,rfl⟩,h h' hk⟩
theorem lI(g:Value)(pos:List Value):callBorrowed g pos=(call g pos).keep [borrowed]:=by
 show Sem.call _ _ _ _ _=Sem.call _ _ _ _ _
 congr 1
 funext r
 rcases r with e|(_|_|_|_)<;>rfl
theorem jY{A:Around}{E:Value→Shared→Prop}{s:Shared}{Q:Bool→Shared→Prop}{fo:Obj}{fd:FuncData}(hm:s.heap.get? m=some (methodObj (.ref f) (.ref x)))(hf:s.heap.get? f=some fo)(hd:fo.data = .func fd)(h:Q true s):
  wpAny (model prog w) A (borrowsExactly (.ref m)) Q E s:=by
 unfold borrowsExactly
 dsimp only
 refine wpAny_bind (wpAny_load hm ?_)
 dsimp only
 rw[if_pos (by rfl)]
 refine wpAny_bind (wpAny_load hf ?_)
 rw[hd]
 exact wpAny_pure h
structure sV(h:Heap)(it m f x:Addr)(sen:Str)(t:Tok):Prop where
 it:h.get? it=some (ir (.ref m) (.str sen t) false)
 m:h.get? m=some (methodObj (.ref f) (.ref x))
 f:∃fo fd,h.get? f=some fo∧fo.data = .func fd
theorem yV{Q:Option Value→Shared→Prop}(hh:A.handled=none)(c:sV s.heap it m f x sen t)
  (h:codeAny (model prog w) A.in1 (.call (.ref f) ⟨[.ref x],[]⟩) (vj (λv s'=>∃y u,v = .str y u∧sV s'.heap it m f x sen t∧(y≠sen→Q (some v) s')∧
   (y=sen→∀h',h'.get? it=some (ir .none .none true)→(∀b o,b≠it→s'.heap.get? b=some o→h'.get? b=some o)→Q none { s' with heap:=h' })) i6) s) :
  wpAny (model prog w) A (pyNext (.ref it)) Q E s:=by
 refine un c.it ?_
 obtain⟨fo,fd,hf,hd⟩:=c.f
 unfold Builtin.«callable_iterator.__next__»
 refine wpAny_bind (m:=slotArgs "__next__" 0 _) (wpAny_pure ?_)
 refine wpAny_bind (wpAny_field c.it rfl rfl ?_)
 rw[if_neg (by show ¬((Value.bool false==Value.bool true)=true);decide)]
 refine wpAny_bind (wpAny_field c.it rfl rfl ?_)
 unfold callOutOfASlot
 refine wpAny_bind (wpAny_attempt (wpAny_bind (jY c.m hf hd ?_)))
 rw[if_pos rfl,lI]
 refine Calls.wpAny_keep (wpAny_call (ks_codeAny_call_bound c.m (codeAny_mono h λr s' q=>?_)))
 rcases r with e|(_|_|_|v)<;>try exact q.elim
 ·obtain⟨y,u,rfl,c',k1,k2⟩:=q
  dsimp only
  refine wpAny_bind (wpAny_field c'.it rfl rfl ?_)
  rw[if_neg (by show ¬((Value.bool false==Value.bool true)=true);decide)]
  refine wpAny_bind (wpAny_field c'.it rfl rfl ?_)
  refine wpAny_bind (wpAny_holding (wpAny_eqBool_str ?_))
  by_cases hy:y=sen
  ·rw[if_neg (by simpa using hy.symm)]
   refine wpAny_bind (wpAny_rule (wpAny_bind ?_))
   obtain⟨fo',fd',hf',hd'⟩:=c'.f
   refine wpAny_bind (m:=field (.ref it) 0) (wpAny_field c'.it rfl rfl ?_)
   refine wpAny_bind ?_
   unfold slotLetsGo
   dsimp only
   refine wpAny_bind (jY c'.m hf' hd' ?_)
   rw[if_pos rfl]
   refine wpAny_pure ?_
   refine wpAny_bind (wpAny_setField_rec c'.it (by show 0<3;decide) λaX sS ae=>?_)
   refine wpAny_bind (wpAny_setField_rec (s:={ s' with heap:=aX }) sS (by show 1<3;decide) λaw Eu ak=>?_)
   refine wpAny_setField_rec (s:={ s' with heap:=aw }) Eu (by show 2<3;decide) λgI vn bF=>?_
   exact um (s:={ s' with heap:=gI }) (A':=A.in1) hh λh' y' hk ⟨o,g1,g2⟩=>⟨⟨o,g1,g2⟩,⟨y',rfl⟩,k2 hy h' (hk _ _ vn) λb o n e=>hk _ _ ((bF.2 b n).trans ((ak.2 b n).trans ((ae.2 b n).trans e)))⟩
  ·rw[if_pos (by simpa using λq=>hy q.symm)]
   exact wpAny_pure (k1 hy)
end
theorem vr:builtinKind "iter" = none:=by decide +kernel
theorem sW:plainId "iter" = true:=by decide +kernel
theorem sX:entryFor table "iter" = some Builtin.«iter» :=entryFor_of_tree (by kernel_rfl)
theorem qP(a b:Value):argsOk "iter" ⟨[a,b],[]⟩:=by unfold argsOk;kernel_rfl
theorem mv:∃v,typeLookup (.type "method") "__call__" = pure (some v):=⟨.builtin "method.__call__",by rw[typeLookup_type,builtinLookup_eq_fast];kernel_rfl⟩
abbrev nA:Kd:=[(nm "self",NameKind.local),(nm "token",.local),(nm "fiter",.local),(nm "ch",.local),(nm "iter",.globalImplicit)]
section
variable{C:Cx}{S:Addr→Prop}{W W':Wd}{s:Shared}{A:Around}{E:Value→Shared→Prop}{X:Addr→Prop}{page:Str}{L:a6}{xa d f fx rf cp ca al pb:Addr}
theorem vt{prog:Program}{w:World}{m:Addr}{o:Obj}{sen:Value}{Q:Value→Shared→Prop}(hm:s.heap.get? m=some o)(hc:o.cls = .type "method")
  (h:Q (.ref s.heap.objs.size) { s with heap:=s.heap.push (ir (.ref m) sen false) }):wpAny (model prog w) A (call (.builtin "iter") [.ref m,sen]) Q E s:=by
 refine Calls.call_function_entry vr sW sX (qP _ _) ?_
 obtain⟨v,hv⟩:=mv
 unfold Builtin.«iter»
 refine wpAny_bind (wpAny_of_eq (a:=[.ref m,sen]) (by first|rfl|kernel_rfl) ?_)
 dsimp only
 unfold specialOf
 refine wpAny_bind (wpAny_bind (wpAny_typeOf (T:= "method") ⟨o,hm,hc⟩ ?_))
 rw[hv]
 refine wpAny_pure ?_
 rw[if_neg (by simp)]
 refine wpAny_bind (wpAny_rule (wpAny_bind ?_))
 unfold newFields
 refine wpAny_newObj_type ?_ (by size_fits)
 exact wpAny_pure ⟨_,rfl,h⟩
theorem vu(x:CK C){env:Env}{m:Str→Option Value}{Q:Value→Shared→Prop}{p1 p2 p3 p4 p5:Pos}{k:Nat}(I:eK C S W L.page xa d f fx rf cp ca al)(M:bS C S W L d pb al f)(hA:At C W s)(hS:SX C S W.h)(hR:bl 0 A)
  (fr:ay C env W.h m) (hK:Ag nA env) (hm:m (nm "self")=some (.ref xa))
  (h:∀s' W' it mo t,Le C W W'→At C W' s'→sV W'.h it mo 77 xa (nm "") t→W.h.get? it=none→W.h.get? mo=none→Nw C it→it≠mo→Q (.ref it) s') :
  wpAny (model C.prog C.w) A (eval (.Call (.Name (nm "iter") p1) [.Attribute (.Name (nm "self") p2) (nm "_read_char") p3,.Constant (.str (nm "")) k p4] [] p5) env) Q E s:=by
 have hC:=x.ok
 have hX:bG C TT nA S W env m []:=⟨fr,hK,.nil⟩
 obtain⟨sl,n,t0,t1,t2,t3,tl,tw,e⟩:=M.dict
 refine wpAny_Call_NameR (wpAny_Name (jM hC hA hX rfl x.bis.iter.1 x.bis.iter.2 ?_) (by decide))
 refine Calls.callWith_builtin rfl ?_
 rw[aA rfl,aA rfl]
 refine Calls.evalArgs_plain (Calls.spliced_cons (Attribute_name (wpAny_Name (bj hA.h fr (hK.v (nm "self") rfl) (by decide) hm ?_) (by decide))))
 have jy:At C W { s with toks:=s.toks+1 }:=⟨hA.h,hA.pos,Nat.le_succ_of_le hA.k,hA.inv.keep (a8 _),hA.gn⟩
 refine get_bind (x.now hA) (jV hA I.inst e) (Bh _) Ep (CQ _) (wpAny_call (fn_get (s:={ s with toks:=s.toks+1 }) (x.now jy) (vm _).2.1 (handed_on rfl ?_)))
 obtain⟨aq,am⟩:=hA.keepW (bt s.heap (methodObj (.ref 77) (.ref xa))) (tk:=s.toks+1) (Nat.le_succ _)
 have hmo:(s.heap.push (methodObj (.ref 77) (.ref xa))).get? s.heap.objs.size=some (methodObj (.ref 77) (.ref xa)):=Heap.get?_push_size _ rfl
 have fmo:W.h.get? s.heap.objs.size=none:=aK hA (Nat.le_refl _)
 generalize hmm:s.heap.objs.size=mo at hmo fmo
 refine Calls.spliced_cons (wpAny_mono ((ba (uk hC x.bis 0) az 2).1 nA _ (.const (.str true (nm ""))) [] (.str true (nm "")) _ _ _ _ _ _ _ (.str) rfl hR.low aq (hS.le hC am aq) (hX.le am hS.1)) (λsv ak ⟨W₂,an,au,bE⟩=>?_) λ_ _ x=>x)
 obtain⟨ts,rfl,_⟩:=bE
 refine Calls.spliced_nil ?_
 have nmo:mo≠C.P:=by rw[←hmm];exact(hA.inv.nw (Nat.le_refl _)).nP hC
 have mw:=an.ext.ex nmo hmo nofun
 have uo:=mw;rw[au.h]at uo
 refine vt uo rfl ?_
 obtain⟨aO,aD⟩:=au.keepW (bt ak.heap (ir (.ref mo) (.str (nm "") ts) false)) (Nat.le_refl ak.toks)
 have hit:(ak.heap.push (ir (.ref mo) (.str (nm "") ts) false)).get? ak.heap.objs.size=some (ir (.ref mo) (.str (nm "") ts) false):=Heap.get?_push_size _ rfl
 have fit:=aK au (Nat.le_refl ak.heap.objs.size)
 have nit:Nw C ak.heap.objs.size:=au.inv.nw (Nat.le_refl _)
 refine h _ _ _ mo ts ((am.trans an).trans aD) aO ⟨hit,aD.ext.ex nmo mw nofun,?_⟩ ?_ fmo nit ?_
 ·obtain⟨of,h1,h2⟩:=(yT C.w.params (x.now aO)).at'
  exact⟨of,_,h1,h2⟩
 ·cases q:W.h.get? ak.heap.objs.size with
  | none=>rfl
  | some o=>
   obtain⟨_,this,_⟩:=(am.trans an).ext _ _ (nit.nP hC) q
   rw[fit]at this;cases this
 ·intro q
  rw[←q]at mw
  rw[fit]at mw;cases mw
end
structure GC(C:Cx)(S:Addr→Prop)(Wz:Wd)(L0:a6)(xa d f fx rf cp ca al pb it mo:Addr)(env:Env)(A:Around):Prop where
 x:CK C
 I:eK C S Wz L0.page xa d f fx rf cp ca al
 hS:SX C S Wz.h
 hd:S d
 hal:S al
 M0:bS C S Wz L0 d pb al f
 own:bv C nA (aM S [env.locals]) env
 ag:Ag nA env
 ko:∀y,env.kindOf y=nA.lookup y
 frl:Wz.h.get? env.locals=none
 fit:Wz.h.get? it=none
 fmo:Wz.h.get? mo=none
 nit:Nw C it
 itl:it≠env.locals
 mol:mo≠env.locals
 itm:it≠mo
 moP:mo≠C.P
 R:bl 4 A
structure GS(C:Cx)(S:Addr→Prop)(Wz:Wd)(L0:a6)(xa d f al pb it mo:Addr)(env:Env)(run:Bool)(L:a6)(tok:Str)(ch:Option Str)(W:Wd)(m:Str→Option Value)(s:Shared):Prop where
 lz:aZ (λb=>b=C.P∨b=d∨b=al) Wz W
 at':At C W s
 pg:L.page=L0.page
 bk:L.back=L0.back
 dict:∃sl n t0 t1 t2 t3 t tw,W.h.get? d=some (hV C.w.params sl n t0 t1 t2 t3 (.int L.line t) (.ref f) (.str df tw) (.ref pb))
 alo:∃t,W.h.PlainList al #[.int L.at_ t]
 fr:ay C env W.h m
 self:m (nm "self")=some (.ref xa)
 fi:m (nm "fiter")=some (.ref it)
 tk:∃v,m (nm "token")=some v∧aN S W (.str true tok) v
 ch:∀c,ch=some c→∃v,m (nm "ch")=some v∧aN S W (.str true c) v
 it:match run with
  | true=>∃t,sV W.h it mo 77 xa (nm "") t
  | false=>W.h.get? it=some (ir .none .none true)
section
variable{C:Cx}{S:Addr→Prop}{Wz W W':Wd}{s:Shared}{A:Around}{E:Value→Shared→Prop}{L0 L:a6}{xa d f fx rf cp ca al pb it mo:Addr}{env:Env}{run:Bool}{tok:Str}{ch:Option Str}{m:Str→Option Value}
theorem GC.hX(G:GC C S Wz L0 xa d f fx rf cp ca al pb it mo env A):∀b,(b=C.P∨b=d∨b=al)→S b:=λb hb=>by
 rcases hb with h|h|h
 ·exact h▸G.hS.1
 ·exact h▸G.hd
 ·exact h▸G.hal
theorem GC.nk(G:GC C S Wz L0 xa d f fx rf cp ca al pb it mo env A):∀y,¬(env.kindOf y=some .cell∨env.kindOf y=some .free):=λy q=>by
 rw[G.ko]at q
 rcases q with q|q<;>(have:=mem_of_lookup q;simp[nA]at this)
theorem GC.hMut(G:GC C S Wz L0 xa d f fx rf cp ca al pb it mo env A):∀b,cU nA env b→b=env.locals:=λb hb=>by
 rcases hb with h|⟨y,h,_⟩
 ·exact h
 ·have:=mem_of_lookup h;simp[nA]at this
theorem GC.ld(G:GC C S Wz L0 xa d f fx rf cp ca al pb it mo env A):env.locals≠d∧env.locals≠pb∧env.locals≠al∧env.locals≠C.P:=by
 refine⟨λq=>?_,λq=>?_,λq=>?_,G.own.locN.nP G.x.ok⟩
 ·obtain⟨o,e⟩:=G.M0.there.1;rw[←q,G.frl]at e;cases e
 ·obtain⟨o,e⟩:=G.M0.there.2.1;rw[←q,G.frl]at e;cases e
 ·obtain⟨o,e⟩:=G.M0.there.2.2;rw[←q,G.frl]at e;cases e
theorem GC.itd(G:GC C S Wz L0 xa d f fx rf cp ca al pb it mo env A):it≠d∧it≠pb∧it≠al∧it≠C.P:=by
 refine⟨λq=>?_,λq=>?_,λq=>?_,G.nit.nP G.x.ok⟩
 ·obtain⟨o,e⟩:=G.M0.there.1;rw[←q,G.fit]at e;cases e
 ·obtain⟨o,e⟩:=G.M0.there.2.1;rw[←q,G.fit]at e;cases e
 ·obtain⟨o,e⟩:=G.M0.there.2.2;rw[←q,G.fit]at e;cases e
theorem GC.mod(G:GC C S Wz L0 xa d f fx rf cp ca al pb it mo env A):mo≠d∧mo≠al:=by
 refine⟨λq=>?_,λq=>?_⟩
 ·obtain⟨o,e⟩:=G.M0.there.1;rw[←q,G.fmo]at e;cases e
 ·obtain⟨o,e⟩:=G.M0.there.2.2;rw[←q,G.fmo]at e;cases e
theorem GS.M(G:GC C S Wz L0 xa d f fx rf cp ca al pb it mo env A)(g:GS C S Wz L0 xa d f al pb it mo env run L tok ch W m s):bS C S W L d pb al f:=by
 refine⟨g.dict,?_,g.alo,G.M0.nw,G.M0.ne⟩
 obtain⟨its,e,r⟩:=G.M0.pbo
 rw[g.bk]
 refine⟨its,aE e g.lz.ext (λq=>?_),r.leX g.lz G.hX⟩
 rcases q with q|q|q
 ·exact G.M0.nw.2.1.nP G.x.ok q
 ·exact G.M0.ne.1 q.symm
 ·exact G.M0.ne.2.2 q
theorem GC.sx(G:GC C S Wz L0 xa d f fx rf cp ca al pb it mo env A)(g:GS C S Wz L0 xa d f al pb it mo env run L tok ch W m s):SX C S W.h∧SX C (aM S [env.locals]) W.h:=by
 have h1:SX C S W.h:=G.hS.leX g.lz λb hb _=>by
  rcases hb with h|h|h
  ·exact h▸gK G.x.ok g.at'
  ·exact h▸(g.M G).there.1
  ·exact h▸(g.M G).there.2.2
 refine⟨h1,.inl G.hS.1,λb hb=>?_⟩
 rcases hb with h|h
 ·exact h1.2 b h
 ·exact g.fr.there G.own (.inl (by simpa using h))
theorem GC.lx(G:GC C S Wz L0 xa d f fx rf cp ca al pb it mo env A)(g:GS C S Wz L0 xa d f al pb it mo env run L tok ch W m s):eK C S W L.page xa d f fx rf cp ca al:=g.pg▸G.I.leX g.lz G.hX
theorem sV.leX{X:Addr→Prop}{t:Tok}{Wa Wb:Wd}{sb:Shared}(c:sV Wa.h it mo 77 xa (nm "") t) (Lx:aZ X Wa Wb) (x:CK C) (a:At C Wb sb) (h1:¬X it) (h2:¬X mo):sV Wb.h it mo 77 xa (nm "") t:=
 ⟨Lx.ext.ex h1 c.it nofun,Lx.ext.ex h2 c.m nofun,by rw[a.h];obtain⟨o,e1,e2⟩:=(yT C.w.params (x.now a)).at';exact⟨o,_,e1,e2⟩⟩
theorem GS.le(G:GC C S Wz L0 xa d f fx rf cp ca al pb it mo env A)(g:GS C S Wz L0 xa d f al pb it mo env run L tok ch W m s){s':Shared}(Lx:Le C W W')(a:At C W' s'):GS C S Wz L0 xa d f al pb it mo env run L tok ch W' m s' where
 lz:=g.lz.trans (Lx.leX (.inl rfl))
 at':=a
 pg:=g.pg
 bk:=g.bk
 dict:=fO g.dict Lx.ext (G.M0.nw.1.nP G.x.ok)
 alo:=let ⟨t,e⟩:=g.alo;⟨t,aE e Lx.ext (G.M0.nw.2.2.nP G.x.ok)⟩
 fr:=g.fr.ext Lx.ext
 self:=g.self
 fi:=g.fi
 tk:=let ⟨v,h1,h2⟩:=g.tk;⟨v,h1,aN.le Lx G.hS.1 _ h2⟩
 ch:=λc h=>let ⟨v,h1,h2⟩:=g.ch c h;⟨v,h1,aN.le Lx G.hS.1 _ h2⟩
 it:=by
  have:=g.it
  cases run with
  | true=>obtain⟨t,c⟩:=this;exact⟨t,c.leX (Lx.leX (X:=(· = C.P)) rfl) G.x a G.itd.2.2.2 G.moP⟩
  | false=>exact Lx.ext.ex G.itd.2.2.2 this nofun
theorem GS.store(G:GC C S Wz L0 xa d f fx rf cp ca al pb it mo env A)(g:GS C S Wz L0 xa d f al pb it mo env run L tok ch W m s){y:Str}{v:Value}(hy:cK nA y=true)(h1:y≠nm "self") (h2:y≠nm "fiter") {tok':Str} {ch':Option Str}
  (ht:if y=nm "token" then aN S W (.str true tok') v else tok'=tok) (hc:if y=nm "ch" then(∀c,ch'=some c→aN S W (.str true c) v)else ch'=ch) {M:Model} :
  wpAny M A (storeName env y v) (λ_ s'=>∃W' m',GS C S Wz L0 xa d f al pb it mo env run L tok' ch' W' m' s') E s:=by
 refine wpAny_mono (b9 G.own G.x.ok g.at' g.fr hy) (λ_ s' ⟨W',L',a',f'⟩=>⟨W',bM m y v,?_⟩) λ_ _ x=>x
 have L'':=L'.sub G.hMut
 have hl:∀{c:Str} {u:Value},aN S W (.str true c) u→aN S W' (.str true c) u:=λr=>aN.anyS (S:=aM S [env.locals]) (aN.leX L'' (λb hb=>.inr (hb ▸ .head _)) (aN.anyS (S:=S) r))
 refine⟨g.lz.fresh L'' λb hb=>.inr (hb▸G.frl),a',g.pg,g.bk,?_,?_,f',cA h1.symm g.self,cA h2.symm g.fi,?_,?_,?_⟩
 ·exact fO g.dict L''.ext G.ld.1.symm
 ·obtain⟨t,e⟩:=g.alo;exact⟨t,aE e L''.ext G.ld.2.2.1.symm⟩
 ·by_cases q:y=nm "token"
  ·rw[if_pos q]at ht
   exact⟨v,by rw[q];exact cD ..,hl ht⟩
  ·rw[if_neg q]at ht
   subst ht
   obtain⟨u,e1,e2⟩:=g.tk
   exact⟨u,cA (Ne.symm q) e1,hl e2⟩
 ·intro c hc'
  by_cases q:y=nm "ch"
  ·rw[if_pos q]at hc
   exact⟨v,by rw[q];exact cD ..,hl (hc c hc')⟩
  ·rw[if_neg q]at hc
   subst hc
   obtain⟨u,e1,e2⟩:=g.ch c hc'
   exact⟨u,cA (Ne.symm q) e1,hl e2⟩
 ·have:=g.it
  cases run with
  | true=>obtain⟨t,c⟩:=this;exact⟨t,c.leX L'' G.x a' G.itl G.mol⟩
  | false=>exact L''.ext.ex G.itl this nofun
end
theorem mx{L:a6}{c:Nat}(h:L.sg=some c):cut L.page L.at_=one c:=by
 unfold a6.sg at h;unfold cut;rw[h];rfl
theorem xg{L:a6}(h:L.sg=none):cut L.page L.at_=nm "" :=by
 unfold a6.sg at h;unfold cut;rw[h];rfl
section
variable{C:Cx}{S:Addr→Prop}{Wz W W':Wd}{s:Shared}{A:Around}{E:Value→Shared→Prop}{L0 L:a6}{xa d f fx rf cp ca al pb it mo:Addr}{env:Env}{run:Bool}{tok:Str}{ch:Option Str}{m:Str→Option Value}
theorem GS.read(G:GC C S Wz L0 xa d f fx rf cp ca al pb it mo env A)(g:GS C S Wz L0 xa d f al pb it mo env run L tok ch W m s){s':Shared}(Lx:aZ (λb=>b=C.P∨b=d∨b=al) W W')(a:At C W' s')(M:bS C S W' L.read d pb al f):
  GS C S Wz L0 xa d f al pb it mo env run L.read tok ch W' m s' where
 lz:=g.lz.trans Lx
 at':=a
 pg:=g.pg
 bk:=g.bk
 dict:=M.dict
 alo:=M.alo
 fr:=g.fr.leX' Lx (λq=>by rcases q with q|q|q;exact G.ld.2.2.2 q;exact G.ld.1 q;exact G.ld.2.2.1 q) λy c hk _=>absurd hk (G.nk y)
 self:=g.self
 fi:=g.fi
 tk:=let ⟨v,h1,h2⟩:=g.tk;⟨v,h1,aN.leX Lx G.hX h2⟩
 ch:=λc h=>let ⟨v,h1,h2⟩:=g.ch c h;⟨v,h1,aN.leX Lx G.hX h2⟩
 it:=by
  have:=g.it
  cases run with
  | true=>obtain⟨t,c⟩:=this;exact⟨t,c.leX Lx G.x a (λq=>by rcases q with q|q|q;exact G.itd.2.2.2 q;exact G.itd.1 q;exact G.itd.2.2.1 q) (λq=>by rcases q with q|q|q;exact G.moP q;exact G.mod.1 q;exact G.mod.2 q)⟩
  | false=>exact Lx.ext.ex (λq=>by rcases q with q|q|q;exact G.itd.2.2.2 q;exact G.itd.1 q;exact G.itd.2.2.1 q) this nofun
def qQ(C:Cx)(S:Addr→Prop)(Wz:Wd)(L0:a6)(xa d f al pb it mo:Addr)(env:Env)(L:a6)(tok:Str)(ch:Option Str)(m:Str→Option Value)(r:Option Value)(s':Shared):Prop:=match L.sg,r with
 | some c,some v=>∃W',GS C S Wz L0 xa d f al pb it mo env true L.read tok ch W' m s'∧aN S W' (.str true (one c)) v
 | none,none=>∃W',GS C S Wz L0 xa d f al pb it mo env false L.read tok ch W' m s'
 | _,_=>False
theorem GS.next(G:GC C S Wz L0 xa d f fx rf cp ca al pb it mo env A)(g:GS C S Wz L0 xa d f al pb it mo env true L tok ch W m s)(hat:L.at_<2^61):
  wpAny (model C.prog C.w) A (pyNext (.ref it)) (qQ C S Wz L0 xa d f al pb it mo env L tok ch m) E s:=by
 obtain⟨t,c⟩:=g.it
 have c':=c;rw[g.at'.h]at c'
 refine yV G.R.1 c' (codeAny_mono (k8 (E:=i6) G.x (G.lx g) (g.M G) g.at' (G.sx g).1 G.hd G.hal ((G.R.le (by decide):bl 3 A).in1) hat) λr s' q=>?_)
 rcases r with e|(_|_|_|v)<;>try exact q
 obtain⟨W',Lx,a',M',r'⟩:=q
 have g':=g.read G Lx a' M'
 obtain⟨t',C4⟩:=g'.it
 have kF:=C4;rw[a'.h]at kF
 obtain⟨u,rfl,hu⟩:=r'
 have tt:t'=t:=by
  have e1:=c.it
  have e2:=Lx.ext.ex (λq=>by rcases q with q|q|q;exact G.itd.2.2.2 q;exact G.itd.1 q;exact G.itd.2.2.1 q) e1 nofun
  rw[C4.it]at e2
  simp at e2
  exact e2
 subst tt
 refine⟨cut L.page L.at_,u,rfl,kF,λhne=>?_,λhe h' hit hk=>?_⟩
 ·unfold qQ
  cases hs:L.sg with
  | none=>exact absurd (xg hs) hne
  | some c=>exact⟨W',g',u,by rw[mx hs],λq=>by rw[←mx hs];exact hu q⟩
 ·have hs:L.sg=none:=by
   cases hs:L.sg with
   | none=>rfl
   | some c=>
    rw[mx hs]at he
    have h0:(nm "").cps.size=0:=by decide
    rw[←he]at h0
    exact absurd h0 (by show ¬(1=0);decide)
  unfold qQ
  rw[hs]
  have nd:oZ s'.heap it:=λo vs q t e1 e2 ne e3=>by
   rw[kF.it]at e1;cases e1
   cases e2
   injection (Option.some.inj e3)with e4 _
   exact ne (e4.symm.trans (by decide))
  obtain⟨au,an⟩:=a'.but G.x.ok (X:=(· = it)) (λb hb=>hb▸G.nit) (λb hb=>hb▸⟨nd,λ_=>.inl ⟨_,kF.it,nofun⟩⟩) hk (tk:=s'.toks) (Nat.le_refl _)
  refine⟨_,⟨g'.lz.fresh an λb hb=>.inr (hb▸G.fit),au,g'.pg,g'.bk,?_,?_,g'.fr.leX' an G.itl.symm λy c hk _=>absurd hk (G.nk y),g'.self,g'.fi,?_,?_,hit⟩⟩
  ·exact fO g'.dict an.ext G.itd.1.symm
  ·obtain⟨t,e⟩:=g'.alo;exact⟨t,aE e an.ext G.itd.2.2.1.symm⟩
  ·obtain⟨v,h1,h2⟩:=g'.tk;exact⟨v,h1,aN.anyS (S:=(· = it)) (aN.leX an (λb hb=>hb) (aN.anyS (S:=S) h2))⟩
  ·intro c hc;obtain⟨v,h1,h2⟩:=g'.ch c hc;exact⟨v,h1,aN.anyS (S:=(· = it)) (aN.leX an (λb hb=>hb) (aN.anyS (S:=S) h2))⟩
end
section
variable{C:Cx}{S:Addr→Prop}{Wz W W':Wd}{s:Shared}{A:Around}{E:Value→Shared→Prop}{L0 L:a6}{xa d f fx rf cp ca al pb it mo:Addr}{env:Env}{run:Bool}{tok c:Str}{ch:Option Str}{m:Str→Option Value}
theorem GS.at0(G:GC C S Wz L0 xa d f fx rf cp ca al pb it mo env A)(g:GS C S Wz L0 xa d f al pb it mo env run L tok ch W m s):∀{s':Shared},At C W s'→GS C S Wz L0 xa d f al pb it mo env run L tok ch W m s':=λa=>{ g with at':=a }
theorem GS.ended(G:GC C S Wz L0 xa d f fx rf cp ca al pb it mo env A)(g:GS C S Wz L0 xa d f al pb it mo env false L tok ch W m s):
  wpAny (model C.prog C.w) A (pyNext (.ref it)) (λr s'=>r=none∧∃W',GS C S Wz L0 xa d f al pb it mo env false L tok ch W' m s') E s:=by
 have h:=g.it
 have h':W.h.get? it=some (ir .none .none true):=h
 rw[g.at'.h]at h'
 refine xf G.R.1 h' λaX hk=>⟨rfl,?_⟩
 obtain⟨a',L'⟩:=g.at'.keepW hk (Nat.le_refl s.toks)
 exact⟨_,g.le G L' a'⟩
theorem GS.rdch(G:GC C S Wz L0 xa d f fx rf cp ca al pb it mo env A)(g:GS C S Wz L0 xa d f al pb it mo env run L tok ch W m s)(hat:L.at_<2^61){p1 p2 p3 p4 p5:Pos}(hl:(p3.endLine==p4.line)=true):
  wpAny (model C.prog C.w) A (exec (.Assign [.Name (nm "ch") p1] (.Call (.Attribute (.Name (nm "self") p2) (nm "_read_char") p3) [] [] p4) p5) env)
   (λfl s'=>fl=Flow.next∧∃W' m',GS C S Wz L0 xa d f al pb it mo env run L.read tok (some (cut L.page L.at_)) W' m' s') E s:=by
 obtain⟨sl,n,t0,t1,t2,t3,tl,tw,e⟩:=g.dict
 have I:=G.lx g
 refine wpAny_Assign_Name (jv rfl hl (wpAny_Name (bj g.at'.h g.fr (G.ag.v (nm "self") rfl) (by decide) g.self λpl=>?_) (by decide)))
 refine lN G.x g.at' I.inst e (Eo _) (vm _).2.1 CS ?_
 have hfn:∃o fd,s.heap.get? 77=some o∧o.data = .func fd:=by obtain⟨o,e1,e2⟩:=(yT C.w.params (G.x.now g.at')).at';exact⟨o,_,e1,e2⟩
 refine sQ hfn (wpAny_call (codeAny_mono (k8 (E:=E) G.x I (g.M G) g.at' (G.sx g).1 G.hd G.hal (G.R.le (by decide)) hat) λr s' q=>?_))
 rcases r with e|(_|_|_|v)<;>try exact q
 obtain⟨W',Lx,a',M',r'⟩:=q
 have g':=g.read G Lx a' M'
 exact wpAny_mono (g'.store G (y:=nm "ch") (tok':=tok) (ch':=some (cut L.page L.at_)) rfl (by decide) (by decide) (by rw[if_neg (by decide)]) (by rw[if_pos rfl];intro c hc;cases hc;exact r')) (λ_ s'' ⟨W'',m'',g''⟩=>⟨rfl,W'',m'',g''⟩) λ_ _ x=>x
theorem GS.add(G:GC C S Wz L0 xa d f fx rf cp ca al pb it mo env A)(g:GS C S Wz L0 xa d f al pb it mo env run L tok (some c) W m s)(hn:tok.length+c.length≤100000){p1 p2 p3:Pos}:
  wpAny (model C.prog C.w) A (exec (.AugAssign (.Name (nm "token") p1) .Add (.Name (nm "ch") p2) p3) env)
   (λfl s'=>fl=Flow.next∧∃W' m',GS C S Wz L0 xa d f al pb it mo env run L (tok++c) (some c) W' m' s') E s:=by
 obtain⟨tv,h1,h2⟩:=g.tk
 obtain⟨cv,h3,h4⟩:=g.ch c rfl
 refine wpAny_AugAssign_Name (bj g.at'.h g.fr (G.ag.v (nm "token") rfl) (by decide) h1 ?_)
 refine wpAny_Name (bj g.at'.h g.fr (G.ag.v (nm "ch") rfl) (by decide) h3 ?_) (by decide)
 refine wpAny_mono (pa (d:=.str (true&&true) (tok++c)) (bl.low (C:=C) G.R) g.at' _ _ tv cv h2 h4 (by simp[dm,hn]) (λ_=>nofun)) (λt ak ⟨W₂,an,au,bE⟩=>?_) λ_ _ x=>x
 have fY:=g.le G an au
 exact wpAny_mono (fY.store G (y:=nm "token") (tok':=tok++c) (ch':=some c) rfl (by decide) (by decide) (by rw[if_pos rfl];exact bE) (by rw[if_neg (by decide)])) (λ_ s'' ⟨W'',m'',g''⟩=>⟨rfl,W'',m'',g''⟩) λ_ _ x=>x
theorem GS.eqc(G:GC C S Wz L0 xa d f fx rf cp ca al pb it mo env A)(g:GS C S Wz L0 xa d f al pb it mo env run L tok (some c) W m s){y:Str}{p1 p2 p3:Pos}{k:Nat}{whole:Sem Value}:
  wpAny (model C.prog C.w) A (isTrue (.Compare (.Name (nm "ch") p1) [.Eq] [.Constant (.str y) k p2] p3) env whole)
   (λb s'=>b=decide (c=y)∧∃W',GS C S Wz L0 xa d f al pb it mo env run L tok (some c) W' m s') E s:=by
 obtain⟨cv,h3,h4⟩:=g.ch c rfl
 refine wpAny_isTrue_Compare1 (wpAny_Name (bj g.at'.h g.fr (G.ag.v (nm "ch") rfl) (by decide) h3 ?_) (by decide)) rfl
 have hX:bG C TT nA S W env m []:=⟨g.fr,G.ag,.nil⟩
 refine wpAny_mono ((ba (uk G.x.ok G.x.bis 0) az 2).1 nA _ (.const (.str true y)) [] (.str true y) _ _ _ _ _ _ _ (.str) rfl ((G.R.le (by decide:0≤4)).low) g.at' (G.sx g).1 hX) (λsv ak ⟨W₂,an,au,bE⟩=>?_) λ_ _ x=>x
 have fY:=g.le G an au
 refine wpAny_mono (dj G.R au .eq (.str true c) (.str true y) cv sv (decide (c=y)) (aN.le an G.hS.1 _ h4) bE (by simp[a9,eV];by_cases q:c=y<;>simp[q])) (λv bF ⟨ev,es⟩=>?_) λ_ _ x=>x
 subst ev es
 exact wpAny_truthy_bool ⟨rfl,W₂,fY⟩
theorem GS.inw(G:GC C S Wz L0 xa d f fx rf cp ca al pb it mo env A){n:Nat}(g:GS C S Wz L0 xa d f al pb it mo env run L tok (some (one n)) W m s){p1 p2 p3 p4:Pos}{whole:Sem Value}:
  wpAny (model C.prog C.w) A (isTrue (.Compare (.Name (nm "ch") p1) [.In] [.Attribute (.Name (nm "self") p2) (nm "whitespace") p3] p4) env whole)
   (λb s'=>b=decide (n∈df.cps.toList)∧∃W',GS C S Wz L0 xa d f al pb it mo env run L tok (some (one n)) W' m s') E s:=by
 obtain⟨cv,h3,h4⟩:=g.ch _ rfl
 obtain⟨sl,k,t0,t1,t2,t3,tl,tw,e⟩:=g.dict
 refine wpAny_isTrue_Compare1 (wpAny_Name (bj g.at'.h g.fr (G.ag.v (nm "ch") rfl) (by decide) h3 ?_) (by decide)) rfl
 refine Attribute_name (wpAny_Name (bj g.at'.h g.fr (G.ag.v (nm "self") rfl) (by decide) g.self ?_) (by decide))
 refine jx G.x g.at' (G.lx g).inst e yS rfl λak au=>?_
 refine wpAny_mono (dj G.R au .isin (.str true (one n)) (.str false df) cv (.str df tw) (decide (n∈df.cps.toList)) h4 ⟨tw,rfl,nofun⟩ (by simp[a9])) (λv bF ⟨ev,es⟩=>?_) λ_ _ x=>x
 subst ev es
 exact wpAny_truthy_bool ⟨rfl,W,g.at0 G au⟩
end
def Rm(n:Nat)(L:a6)(tok:Str):Prop:=L.at_+4*n<2^60∧tok.length+2*n≤100000
theorem jZ(L:a6):L.read.at_≤L.at_+1:=by
 show L.at_+(cut L.page L.at_).length≤_
 have:=lM L.page L.at_;omega
theorem uq{L:a6}{tok:Str}{c n:Nat}(h:Rm (n+1) L tok):Rm n (l8 L.read tok c).1 (l8 L.read tok c).2:=by
 obtain⟨h1,h2⟩:=h
 have r1:=jZ L
 have r2:=jZ L.read
 have r3:=lM L.read.page L.read.at_
 have r4:(one c).length=1:=rfl
 unfold l8 Rm
 split<;>(dsimp only;rw[Str.length_append];omega)
section
variable{C:Cx}{S:Addr→Prop}{Wz W W':Wd}{s:Shared}{A:Around}{E:Value→Shared→Prop}{L0 L:a6}{xa d f fx rf cp ca al pb it mo:Addr}{env:Env}{run:Bool}{tok c:Str}{ch:Option Str}{m:Str→Option Value}
def C5(C:Cx)(S:Addr→Prop)(Wz:Wd)(L0:a6)(xa d f al pb it mo:Addr)(env:Env)(L':a6)(tok':Str)(ret:Bool)(fl:Flow)(s':Shared):Prop:=match ret with
 | true=>∃v,fl = .ret v∧∃W' m' ch',GS C S Wz L0 xa d f al pb it mo env true L' tok' ch' W' m' s'∧aN S W' (.str true tok') v
 | false=>fl = .next∧∃W' m' ch',GS C S Wz L0 xa d f al pb it mo env false L' tok' ch' W' m' s'
def my(C:Cx)(S:Addr→Prop)(Wz:Wd)(L0:a6)(xa d f al pb it mo:Addr)(env:Env)(A:Around)(body:List Stmt)(step:a6→Str→Nat→Option (a6×Str)):Prop:=
 ∀L tok c W m s E,GS C S Wz L0 xa d f al pb it mo env true L tok (some (one c)) W m s→L.at_<2^60→tok.length+1≤100000→
  wpAny (model C.prog C.w) A (execs body env) (λfl s'=>match step L tok c with
   | none=>∃v,fl = .ret v∧∃W' m' ch',GS C S Wz L0 xa d f al pb it mo env true L tok ch' W' m' s'∧aN S W' (.str true tok) v
   | some (L',tok')=>fl = .next∧∃W' m' ch',GS C S Wz L0 xa d f al pb it mo env true L' tok' ch' W' m' s') E s
theorem GS.loop(G:GC C S Wz L0 xa d f fx rf cp ca al pb it mo env A){body:List Stmt}{step:a6→Str→Nat→Option (a6×Str)}(hb:my C S Wz L0 xa d f al pb it mo env A body step)
  (hs:∀n L tok c L' tok',Rm (n+1) L tok→step L.read tok c=some (L',tok')→Rm n L' tok')
  {n:Nat} {L':a6} {tok':Str} {ret:Bool} (h:ia step n L tok=some (L',tok',ret)) (hr:Rm n L tok) (g:GS C S Wz L0 xa d f al pb it mo env true L tok ch W m s) {p1 p2 p3:Pos} :
  wpAny (model C.prog C.w) A (exec (.For (.Name (nm "ch") p1) (.Name (nm "fiter") p2) body [] p3) env) (C5 C S Wz L0 xa d f al pb it mo env L' tok' ret) E s:=by
 obtain⟨t,c⟩:=g.it
 have c':=c.it;rw[g.at'.h]at c'
 refine wpAny_For (wpAny_Name (bj g.at'.h g.fr (G.ag.v (nm "fiter") rfl) (by decide) g.fi (ul c' ?_)) (by decide)) (λx=>mj rfl env x)
 refine codeAny_forLoop_any (λj s=>∃L tok ch W m,GS C S Wz L0 xa d f al pb it mo env true L tok ch W m s∧ia step j L tok=some (L',tok',ret)∧Rm j L tok) ?_ n ⟨L,tok,ch,W,m,g,h,hr⟩
 rintro j ae ⟨am,sY,qR,aj,gM,j0,aX,mz⟩
 cases j with
 | zero=>cases aX
 | succ j=>
  refine wpAny_mono (j0.next G (by have:=mz.1;omega)) (λr ak q=>?_) λ_ _ x=>x
  unfold qQ at q
  unfold ia at aX
  cases hsg:am.sg with
  | none=>
   rw[hsg]at q aX
   cases r with
   | some=>exact q.elim
   | none=>
    obtain⟨W₂,fY⟩:=q
    cases aX
    exact wpAny_execs_nil ⟨rfl,W₂,gM,qR,fY⟩
  | some c=>
   rw[hsg]at q aX
   cases r with
   | none=>exact q.elim
   | some v=>
    obtain⟨W₂,fY,rv⟩:=q
    dsimp only at aX ⊢
    refine wpAny_pure (a:=()) (wpAny_assign_Name (wpAny_mono (fY.store G (y:=nm "ch") (tok':=sY) (ch':=some (one c)) rfl (by decide) (by decide) (by rw[if_neg (by decide)]) (by rw[if_pos rfl];intro c hc;cases hc;exact rv)) (λ_ bF ⟨bf,dG,sZ⟩=>?_) λ_ _ x=>x))
    have r1:=jZ am
    refine wpAny_mono (hb am.read sY c bf dG bF _ sZ (by have:=mz.1;omega) (by have:=mz.2;omega)) (λfl cq q=>?_) λ_ _ x=>x
    cases hst:step am.read sY c with
    | none=>
     rw[hst]at q aX
     obtain⟨v',rfl,W',m',ch',g',r'⟩:=q
     cases aX
     exact⟨v',rfl,W',m',ch',g',r'⟩
    | some p=>
     rw[hst]at q aX
     obtain⟨bI,Bt⟩:=p
     obtain⟨rfl,W',m',ch',g'⟩:=q
     exact⟨j,Nat.lt_succ_self _,bI,Bt,ch',W',m',g',aX,hs _ _ _ _ _ _ mz hst⟩
end
section
variable{C:Cx}{S:Addr→Prop}{Wz W W':Wd}{s:Shared}{A:Around}{E:Value→Shared→Prop}{L0 L:a6}{xa d f fx rf cp ca al pb it mo:Addr}{env:Env}{run:Bool}{tok:Str}{c:Nat}{ch:Option Str}{m:Str→Option Value}
theorem qS(L:a6)(tok:Str)(c:Nat):l8 L tok c=(nC L c,tok++nD L c):=by unfold l8 nC nD;split<;>rfl
theorem mA(L:a6)(c:Nat):(nD L c).length≤1:=by unfold nD;split;exact lM ..;exact Nat.le_refl 1
theorem GS.esc(G:GC C S Wz L0 xa d f fx rf cp ca al pb it mo env A)(g:GS C S Wz L0 xa d f al pb it mo env run L tok (some (one c)) W m s)(hat:L.at_<2^61){p1 p2 p3 p4 p5 p6 p7 p8 p9:Pos}{k:Nat}(hl:(p6.endLine==p7.line)=true):
  wpAny (model C.prog C.w) A (exec (.If (.Compare (.Name (nm "ch") p1) [.Eq] [.Constant (.str (nm "\\")) k p2] p3) [.Assign [.Name (nm "ch") p4] (.Call (.Attribute (.Name (nm "self") p5) (nm "_read_char") p6) [] [] p7) p8] [] p9) env)
   (λfl s'=>fl=Flow.next∧∃W' m',GS C S Wz L0 xa d f al pb it mo env run (nC L c) tok (some (nD L c)) W' m' s') E s:=by
 refine wpAny_If (wpAny_mono (g.eqc G) (λb ae ⟨eb,aj,j0⟩=>?_) λ_ _ x=>x)
 subst eb
 unfold nC nD
 by_cases h:one c=nm "\\"
 ·rw[if_pos (by simpa using h),if_pos h,if_pos h]
  refine wpAny_execs_cons (wpAny_mono (j0.rdch G hat hl) (λfl ak ⟨ef,q⟩=>?_) λ_ _ x=>x)
  subst ef
  exact wpAny_execs_nil ⟨rfl,q⟩
 ·rw[if_neg (by simpa using h),if_neg h,if_neg h]
  exact wpAny_execs_nil ⟨rfl,aj,m,j0⟩
theorem GS.rett(G:GC C S Wz L0 xa d f fx rf cp ca al pb it mo env A)(g:GS C S Wz L0 xa d f al pb it mo env run L tok ch W m s){p1 p2:Pos}:
  wpAny (model C.prog C.w) A (exec (.Return (some (.Name (nm "token") p1)) p2) env) (λfl s'=>∃v,fl=Flow.ret v∧GS C S Wz L0 xa d f al pb it mo env run L tok ch W m s'∧aN S W (.str true tok) v) E s:=by
 obtain⟨tv,h1,h2⟩:=g.tk
 exact wpAny_Return_some (wpAny_Name (bj g.at'.h g.fr (G.ag.v (nm "token") rfl) (by decide) h1 ⟨tv,rfl,g,h2⟩) (by decide))
theorem qT(G:GC C S Wz L0 xa d f fx rf cp ca al pb it mo env A){p1 p2 p3 p4 p5 q1 q2 q3 q4 q5 q6 q7 q8 q9 r1 r2 r3 r4:Pos}{k1 k2:Nat}(hl:(q6.endLine==q7.line)=true):
  my C S Wz L0 xa d f al pb it mo env A [.If (.Compare (.Name (nm "ch") p1) [.Eq] [.Constant (.str (nm "\"")) k1 p2] p3) [.Return (some (.Name (nm "token") p4)) p5]
   [.If (.Compare (.Name (nm "ch") q1) [.Eq] [.Constant (.str (nm "\\")) k2 q2] q3) [.Assign [.Name (nm "ch") q4] (.Call (.Attribute (.Name (nm "self") q5) (nm "_read_char") q6) [] [] q7) q8] [] q9] r4,
   .AugAssign (.Name (nm "token") r1) .Add (.Name (nm "ch") r2) r3] f8:=by
 intro L tok c W m s E g h1 h2
 unfold f8
 refine wpAny_execs_cons (wpAny_If (wpAny_mono (g.eqc G) (λb ae ⟨eb,aj,j0⟩=>?_) λ_ _ x=>x))
 subst eb
 by_cases h:one c=nm "\""
 ·rw[if_pos (by simpa using h),if_pos h]
  refine wpAny_execs_cons (wpAny_mono (j0.rett G) (λfl ak ⟨v,ef,fY,bE⟩=>?_) λ_ _ x=>x)
  subst ef
  exact⟨v,rfl,aj,m,_,fY,bE⟩
 ·rw[if_neg (by simpa using h),if_neg h,qS]
  refine wpAny_execs_cons (wpAny_mono (j0.esc G (by omega) hl) (λfl ak ⟨ef,W₂,Bu,fY⟩=>?_) λ_ _ x=>x)
  subst ef
  refine wpAny_execs_nil ?_
  have:=mA L c
  refine wpAny_execs_cons (wpAny_mono (fY.add G (by omega)) (λfl bF ⟨ef,bf,dG,sZ⟩=>?_) λ_ _ x=>x)
  subst ef
  exact wpAny_execs_nil ⟨rfl,bf,dG,_,sZ⟩
theorem vw(G:GC C S Wz L0 xa d f fx rf cp ca al pb it mo env A){p1 p2 p3 p6 p4 p5 q1 q2 q3 q4 q5 q6 q7 q8 q9 r1 r2 r3 r4:Pos}{k2:Nat}(hl:(q6.endLine==q7.line)=true):
  my C S Wz L0 xa d f al pb it mo env A [.If (.Compare (.Name (nm "ch") p1) [.In] [.Attribute (.Name (nm "self") p2) (nm "whitespace") p6] p3) [.Return (some (.Name (nm "token") p4)) p5]
   [.If (.Compare (.Name (nm "ch") q1) [.Eq] [.Constant (.str (nm "\\")) k2 q2] q3) [.Assign [.Name (nm "ch") q4] (.Call (.Attribute (.Name (nm "self") q5) (nm "_read_char") q6) [] [] q7) q8] [] q9] r4,
   .AugAssign (.Name (nm "token") r1) .Add (.Name (nm "ch") r2) r3] f9:=by
 intro L tok c W m s E g h1 h2
 unfold f9
 refine wpAny_execs_cons (wpAny_If (wpAny_mono (g.inw G) (λb ae ⟨eb,aj,j0⟩=>?_) λ_ _ x=>x))
 subst eb
 by_cases h:c∈df.cps.toList
 ·rw[if_pos (by simpa using h),if_pos h]
  refine wpAny_execs_cons (wpAny_mono (j0.rett G) (λfl ak ⟨v,ef,fY,bE⟩=>?_) λ_ _ x=>x)
  subst ef
  exact⟨v,rfl,aj,m,_,fY,bE⟩
 ·rw[if_neg (by simpa using h),if_neg h,qS]
  refine wpAny_execs_cons (wpAny_mono (j0.esc G (by omega) hl) (λfl ak ⟨ef,W₂,Bu,fY⟩=>?_) λ_ _ x=>x)
  subst ef
  refine wpAny_execs_nil ?_
  have:=mA L c
  refine wpAny_execs_cons (wpAny_mono (fY.add G (by omega)) (λfl bF ⟨ef,bf,dG,sZ⟩=>?_) λ_ _ x=>x)
  subst ef
  exact wpAny_execs_nil ⟨rfl,bf,dG,_,sZ⟩
end
section
variable{prog:Program}{w:World}{A:Around}{E:Value→Shared→Prop}{s:Shared}{l:Addr}{items:Array Value}{u:Tok}{Q:Value→Shared→Prop}
theorem oF{name:Str}{id:String}{pl:Sem Bool}{Q:Value×List Value→Shared→Prop}(hl:s.heap.PlainList l items)(slot:Slot "list" name id) (hty:typeOf (.builtin id)=pure (.type "method_descriptor"))
  (h:Q (.builtin id,[.ref l]) s):wpAny (model prog w) A (getMethod (.ref l) name pl) Q E s:=by
 obtain⟨n,ho⟩:=hl
 exact getMethod_builtin ⟨_,ho,rfl⟩ PySem.F.plainAttrs_list slot hty (λa e=>by cases e;exact⟨_,ho,rfl⟩) h
theorem Bv(y:Value)(q:List Value):(y::q).toArray.eraseIdxIfInBounds 0=q.toArray:=by
 unfold Array.eraseIdxIfInBounds
 rw[dif_pos (by simp)]
 apply Array.toList_inj.mp
 rw[Array.toList_eraseIdx]
 rfl
theorem s7{y:Value}{q:List Value}(hl:s.heap.PlainList l (y::q).toArray)(hz:q.length≤100000)(h:∀h',h'.PlainList l q.toArray→Heap.SameBut l s.heap h'→Q y { s with heap:=h' }):
  wpAny (model prog w) A (call (.builtin "list.pop") [.ref l,.int 0 u]) Q E s:=by
 obtain⟨n,ho⟩:=hl
 have hk:seqIndex? 0 (y::q).toArray.size=some 0:=by unfold seqIndex?;simp
 have hy:(y::q).toArray[0]?=some y:=by simp
 have hz':(y::q).toArray.size≤sizeLine:=by rw[List.size_toArray,List.length_cons,sizeLine_eq];omega
 refine call_meets PySem.F.slot_list_pop ⟨_,ho,rfl⟩ PySem.F.entry_list_pop (PySem.F.args_list_pop_2 _ _) (PySem.MeetsSeq.list_pop_at l _ n 0 u 0 y (by decide +kernel) hk hy hz') ⟨ho,h _ ?_ (Heap.SameBut.update ..)⟩
 have:=IsL.update (n:=n) ho (λxs=>xs.eraseIdxIfInBounds 0)
 rw[←Bv y q]
 exact⟨_,this⟩
theorem pn{y:Value}{k:Int}(hk:0≤k)(hk2:k≤100000)(hl:s.heap.PlainList l items)(hz:items.size≤100000)(h:∀h',h'.PlainList l (fJ k y items.toList).toArray→Heap.SameBut l s.heap h'→Q .none { s with heap:=h' }):
  wpAny (model prog w) A (call (.builtin "list.insert") [.ref l,.int k u,y]) Q E s:=by
 obtain⟨n,ho⟩:=hl
 have hf:¬(!Builtin.List.listFitsIndex k)=true:=by
  have:Builtin.List.listFitsIndex k=true:=by unfold Builtin.List.listFitsIndex;simp;omega
  simp[this]
 refine call_meets PySem.F.slot_list_insert ⟨_,ho,rfl⟩ PySem.F.entry_list_insert (PySem.F.args_list_insert_3 _ _ _) (PySem.AutoListH.list_insert_list_int_val_1 l items n k u y hf (by rw[sizeLine_eq];omega)) ⟨ho,h _ ?_ (Heap.SameBut.update ..)⟩
 have:=IsL.update (n:=n) ho (λxs=>have k':=if k<0 then(k+(xs.size:Int)).toNat else min k.toNat xs.size;(xs.extract 0 k').push y++xs.extract k')
 have e:((items.extract 0 (min k.toNat items.size)).push y++items.extract (min k.toNat items.size))=(fJ k y items.toList).toArray:=by
  apply Array.toList_inj.mp
  unfold fJ
  simp
  rw[List.take_of_length_le (l:=items.toList.drop _) (by simp)]
 have e2:(have k':=if k<0 then(k+(items.size:Int)).toNat else min k.toNat items.size;(items.extract 0 k').push y++items.extract k')=(fJ k y items.toList).toArray:=by
  rw[←e]
  show((items.extract 0 (if k<0 then _ else _)).push y++items.extract (if k<0 then _ else _))=_
  rw[if_neg (by omega)]
 rw[←e2]
 exact⟨_,this⟩
end
theorem mB{step:a6→Str→Nat→Option (a6×Str)}{n:Nat}{L:a6}{tok:Str}{r:a6×Str}(h:jI step n L tok=some r):∃b,ia step n L tok=some (r.1,r.2,b):=by
 unfold jI at h
 split at h
 ·rename_i L' t b q;cases h;exact⟨b,q⟩
 ·cases h
theorem xh:∀n L tok c L' tok',Rm (n+1) L tok→f8 L.read tok c=some (L',tok')→Rm n L' tok':=by
 intro n L tok c L' tok' h e
 unfold f8 at e
 split at e
 ·cases e
 ·have:=uq (c:=c) h;rw[Option.some.inj e]at this;exact this
theorem xi:∀n L tok c L' tok',Rm (n+1) L tok→f9 L.read tok c=some (L',tok')→Rm n L' tok':=by
 intro n L tok c L' tok' h e
 unfold f9 at e
 split at e
 ·cases e
 ·have:=uq (c:=c) h;rw[Option.some.inj e]at this;exact this
section
variable{C:Cx}{S:Addr→Prop}{Wz W W':Wd}{s:Shared}{A:Around}{E:Value→Shared→Prop}{L0 L:a6}{xa d f fx rf cp ca al pb it mo:Addr}{env:Env}{run:Bool}{tok:Str}{c:Nat}{ch:Option Str}{m:Str→Option Value}
def Ew(C:Cx)(S:Addr→Prop)(Wz:Wd)(L0:a6)(xa d f al pb it mo:Addr)(env:Env)(r:a6×Str)(fl:Flow)(s':Shared):Prop:=∃run W' m' ch',GS C S Wz L0 xa d f al pb it mo env run r.1 r.2 ch' W' m' s'∧(fl = .next∨∃v,fl = .ret v∧aN S W' (.str true r.2) v)
theorem GS.outer(G:GC C S Wz L0 xa d f fx rf cp ca al pb it mo env A){bq bb:List Stmt}(hq:my C S Wz L0 xa d f al pb it mo env A bq f8)(hb:my C S Wz L0 xa d f al pb it mo env A bb f9)
  {n:Nat} {r:a6×Str} (h:fv n L=some r) (hr:Rm n L (nm "")) (g:GS C S Wz L0 xa d f al pb it mo env true L (nm "") ch W m s) {p1 p2 p3 p4 p5 p6 p7 p8 p9 q1 q2 q3 q4 q5 q6 q7 r1 r2 r3 r4 r5 r6 r7 r8 r9 u1 u2 u3 u4 u5 u6:Pos} {k1 k2:Nat} (hl:(r6.endLine==r7.line)=true) :
  wpAny (model C.prog C.w) A (exec (.For (.Name (nm "ch") p1) (.Name (nm "fiter") p2) [
   .If (.Compare (.Name (nm "ch") p3) [.In] [.Attribute (.Name (nm "self") p4) (nm "whitespace") p5] p6) [.Continue p7] [] p8,
   .If (.Compare (.Name (nm "ch") q1) [.Eq] [.Constant (.str (nm "\"")) k1 q2] q3) [.For (.Name (nm "ch") q4) (.Name (nm "fiter") q5) bq [] q6]
    [.If (.Compare (.Name (nm "ch") r1) [.Eq] [.Constant (.str (nm "\\")) k2 r2] r3) [.Assign [.Name (nm "ch") r4] (.Call (.Attribute (.Name (nm "self") r5) (nm "_read_char") r6) [] [] r7) r8] [] r9,
     .AugAssign (.Name (nm "token") u1) .Add (.Name (nm "ch") u2) u3,.For (.Name (nm "ch") u4) (.Name (nm "fiter") u5) bb [] u6] q7] [] p9) env)
   (Ew C S Wz L0 xa d f al pb it mo env r) E s:=by
 obtain⟨t,c⟩:=g.it
 have c':=c.it;rw[g.at'.h]at c'
 refine wpAny_For (wpAny_Name (bj g.at'.h g.fr (G.ag.v (nm "fiter") rfl) (by decide) g.fi (ul c' ?_)) (by decide)) (λx=>mj rfl env x)
 refine codeAny_forLoop_any (λj s=>(∃n L ch W m,j=n+1∧GS C S Wz L0 xa d f al pb it mo env true L (nm "") ch W m s∧fv n L=some r∧Rm n L (nm ""))∨(j=0∧∃ch W m,GS C S Wz L0 xa d f al pb it mo env false r.1 r.2 ch W m s)) ?_ (n+1) (.inl ⟨n,L,ch,W,m,rfl,g,h,hr⟩)
 rintro j ae (⟨xj,am,qR,aj,gM,rfl,j0,aX,mz⟩|⟨rfl,qR,aj,gM,j0⟩)
 ·cases xj with
  | zero=>cases aX
  | succ xj=>
   have b1:=mz.1
   have b2:=mz.2
   have r1:=jZ am
   refine wpAny_mono (j0.next G (by omega)) (λrr ak q=>?_) λ_ _ x=>x
   unfold qQ at q
   unfold fv at aX
   cases hsg:am.sg with
   | none=>
    rw[hsg]at q aX
    cases rr with
    | some=>exact q.elim
    | none=>
     obtain⟨W₂,fY⟩:=q
     cases aX
     exact wpAny_execs_nil ⟨false,W₂,gM,qR,fY,.inl rfl⟩
   | some c=>
    rw[hsg]at q aX
    cases rr with
    | none=>exact q.elim
    | some v=>
     obtain⟨W₂,fY,rv⟩:=q
     dsimp only at aX ⊢
     refine wpAny_pure (a:=()) (wpAny_assign_Name (wpAny_mono (fY.store G (y:=nm "ch") (tok':=nm "") (ch':=some (one c)) rfl (by decide) (by decide) (by rw[if_neg (by decide)]) (by rw[if_pos rfl];intro c hc;cases hc;exact rv)) (λ_ bF ⟨bf,dG,sZ⟩=>?_) λ_ _ x=>x))
     refine wpAny_execs_cons (wpAny_If (wpAny_mono (sZ.inw G) (λb cq ⟨eb,aB,C6⟩=>?_) λ_ _ x=>x))
     subst eb
     by_cases hw:c∈df.cps.toList
     ·rw[if_pos (by simpa using hw)]
      rw[if_pos hw]at aX
      refine wpAny_execs_cons (wpAny_Continue ?_)
      exact⟨xj+1,Nat.lt_succ_self _,.inl ⟨xj,am.read,_,aB,dG,rfl,C6,aX,⟨by omega,by omega⟩⟩⟩
     ·rw[if_neg (by simpa using hw)]
      rw[if_neg hw]at aX
      refine wpAny_execs_nil (wpAny_execs_cons (wpAny_If (wpAny_mono (C6.eqc G) (λb cu ⟨eb,dI,C7⟩=>?_) λ_ _ x=>x)))
      subst eb
      by_cases hqt:one c=nm "\""
      ·rw[if_pos (by simpa using hqt)]
       rw[if_pos hqt]at aX
       obtain⟨ret,hsc⟩:=mB aX
       refine wpAny_execs_cons (wpAny_mono (C7.loop G hq xh hsc ⟨by omega,by omega⟩) (λfl dp q=>?_) λ_ _ x=>x)
       cases ret with
       | true=>
        obtain⟨v',rfl,W',m',ch',g',r'⟩:=q
        exact⟨true,W',m',ch',g',.inr ⟨v',rfl,r'⟩⟩
       | false=>
        obtain⟨rfl,W',m',ch',g'⟩:=q
        refine wpAny_execs_nil (wpAny_execs_nil ⟨0,Nat.succ_pos _,.inr ⟨rfl,ch',W',m',g'⟩⟩)
      ·rw[if_neg (by simpa using hqt)]
       rw[if_neg hqt]at aX
       obtain⟨ret,hsc⟩:=mB aX
       refine wpAny_execs_cons (wpAny_mono (C7.esc G (by omega) hl) (λfl dp ⟨ef,cx,vx,Ex⟩=>?_) λ_ _ x=>x)
       subst ef
       have e1:=mA am.read c
       have e0:(nm "").length=0:=by decide
       refine wpAny_execs_cons (wpAny_mono (Ex.add G (by omega)) (λfl qO ⟨ef,lG,yW,Ey⟩=>?_) λ_ _ x=>x)
       subst ef
       have rr2:Rm xj (nC am.read c) (nm "" ++ nD am.read c):=by
        have:=jZ am.read
        refine⟨?_,by rw[Str.length_append];omega⟩
        unfold nC;split<;>omega
       refine wpAny_execs_cons (wpAny_mono (Ey.loop G hb xi hsc rr2) (λfl kH q=>?_) λ_ _ x=>x)
       cases ret with
       | true=>
        obtain⟨v',rfl,W',m',ch',g',r'⟩:=q
        exact⟨true,W',m',ch',g',.inr ⟨v',rfl,r'⟩⟩
       | false=>
        obtain⟨rfl,W',m',ch',g'⟩:=q
        refine wpAny_execs_nil (wpAny_execs_nil ⟨0,Nat.succ_pos _,.inr ⟨rfl,ch',W',m',g'⟩⟩)
 ·refine wpAny_mono (j0.ended G) (λrr ak ⟨er,W₂,fY⟩=>?_) λ_ _ x=>x
  subst er
  exact wpAny_execs_nil ⟨false,W₂,gM,qR,fY,.inl rfl⟩
end
section
variable{C:Cx}{S:Addr→Prop}{W W':Wd}{s:Shared}{A:Around}{E:Value→Shared→Prop}{L L':a6}{xa d f fx rf cp ca al pb:Addr}
theorem i5.leX{X:Addr→Prop}{W W':Wd}(L:aZ X W W'){t:Tok}{d:D}(z:i5 W t d):i5 W' t d:=⟨z.1,Nat.lt_of_lt_of_le z.2.1 L.k,(L.g t z.2.1).trans z.2.2⟩
theorem vy{a:Addr}{its:Array Value}(h:W.h.PlainList a its)(Lx:Le C W W')(n:a≠C.P):W'.h.PlainList a its:=aE h Lx.ext n
theorem xk(hC:C.Ok)(M:bS C S W L d pb al f):aN (λb=>S b∧b≠pb) W (.list L.back) (.ref pb):=by
 obtain⟨its,h,r⟩:=M.pbo
 exact⟨pb,its,rfl,λq=>q.2 rfl,h.isList,av.sub (λb hb=>hb.1) _ r⟩
theorem oG(x:CK C)(I:eK C S W L.page xa d f fx rf cp ca al)(M:bS C S W L d pb al f)(hA:At C W s)(hS:SX C S W.h)(hd:S d)(hal:S al)(hpb:S pb)(hR:bl 5 A){n:Nat}{dd:D}(h:L.get n=some (dd,L'))(hr:Rm n L (nm "")) (hb:L.back.length≤1000) :
  wpAny (model C.prog C.w) A (call (.ref 84) [.ref xa]) (λv s'=>∃W',aZ (λb=>b=C.P∨b=d∨b=al∨b=pb) W W'∧At C W' s'∧bS C S W' L' d pb al f∧aN S W' dd v) E s:=by
 have hC:=x.ok
 have hL:=uk hC x.bis 0
 refine wpAny_call (oC (cm:=λ_=>none) hC (Bm _ (x.now hA)) (λy hy=>?_) rfl (λy hy=>?_) hA hS hR (λenv ae aj mm q1 q2 en b6=>?_))
 ·rcases List.mem_cons.mp hy with rfl|hy
  ·rfl
  ·cases hy
 ·have hy:nA.lookup y=some .free:=hy
  have:=mem_of_lookup hy
  simp[nA]at this
 have en:Ct C S W nA env mm ae aj:=en
 have m1:mm (nm "self")=some (.ref xa):=q1 (nm "self") rfl
 clear q1 q2
 have hSP:∀b,b=C.P→S b:=λb h=>h▸hS.1
 have nK:=I.leX (en.le.leX (X:=(· = C.P)) rfl) hSP
 have iq:=M.leX (en.le.leX (X:=(· = C.P)) rfl) hSP (M.nw.1.nP hC) (M.nw.2.1.nP hC) (M.nw.2.2.nP hC)
 have w9:=hS.le hC en.le en.at'
 obtain⟨sl,k,t0,t1,t2,t3,tl,tw,sS⟩:=iq.dict
 have ht:aC (.list L.back)=some (!L.back.isEmpty):=by
  have:L.back.length≤100000:=by omega
  simp[aC,this]
 refine wpAny_execs_cons (wpAny_If (isTrue_plain (Attribute_name (wpAny_Name (bj en.at'.h en.fr (en.ag.v (nm "self") rfl) (by decide) m1 ?_) (by decide)))))
 refine jx x en.at' nK.inst sS sO rfl λak au=>?_
 refine wpAny_mono (og au (.list L.back) (.ref pb) _ (xk hC iq) ht) (λb bF ⟨eb,bf,aD,aO⟩=>?_) λ_ _ x=>x
 subst eb
 have nO:=nK.leX (aD.leX (X:=(· = C.P)) rfl) hSP
 have nQ:=iq.leX (aD.leX (X:=(· = C.P)) rfl) hSP (M.nw.1.nP hC) (M.nw.2.1.nP hC) (M.nw.2.2.nP hC)
 have Aq:=w9.le hC aD aO
 have d6:=en.fr.ext aD.ext
 obtain⟨sl',k',t0',t1',t2',t3',tl',tw',vn⟩:=nQ.dict
 unfold a6.get at h
 cases hbk:L.back with
 | cons dh dt=>
  rw[hbk]at h
  cases h
  rw[if_pos (by rfl)]
  refine wpAny_execs_cons (wpAny_Return_some (jw rfl rfl rfl (Attribute_name (wpAny_Name (bj aO.h d6 (en.ag.v (nm "self") rfl) (by decide) m1 ?_) (by decide)))))
  refine jx x aO nO.inst vn sO rfl λcq bH pl=>?_
  obtain⟨its,hpl,hrl⟩:=nQ.pbo
  rw[hbk]at hrl
  obtain⟨v,r,ev,rv,rr⟩:=hrl
  have ei:its=(v::r).toArray:=by rw[←ev]
  subst ei
  have xl:=hpl;rw[bH.h]at xl
  refine oF xl PySem.F.slot_list_pop PySem.F.type_list_pop ?_
  refine Calls.callWith_builtin rfl (Calls.evalArgs_plain (Calls.spliced_cons ?_))
  have C8:bG C TT nA S bf env mm []:=⟨d6,en.ag,.nil⟩
  refine wpAny_mono ((ba hL az 2).1 nA _ (.const (.int true 0)) [] (.int true 0) _ _ _ _ _ _ _ (.int) rfl (b6.le (Nat.zero_le _)).low bH Aq C8) (λiv cu ⟨dI,bI,dJ,qE⟩=>?_) λ_ _ x=>x
  obtain⟨ti,rfl,_⟩:=qE
  refine Calls.spliced_nil ?_
  have s8:=vy hpl bI (M.nw.2.1.nP hC);rw[dJ.h]at s8
  have hlen:r.length≤100000:=by
   have h1:=rr.length
   rw[hbk]at hb
   rw[h1];rw[List.length_cons]at hb;omega
  refine s7 (q:=r) s8 hlen λh' hl' hs'=>?_
  obtain⟨eG,cY⟩:=dJ.but hC (X:=(· = pb)) (λb hb=>hb▸M.nw.2.1) (λb hb=>hb ▸ .seq s8.isList) (λb o n e=>(hs'.2 b n).trans e) (tk:=cu.toks) (Nat.le_refl _)
  have L15:Le C W dI:=(en.le.trans aD).trans bI
  have L16:aZ (λb=>b=C.P∨b=d∨b=al∨b=pb) W { dI with h:=h' }:=(L15.leX (.inl rfl)).trans (cY.sub λb hb=>.inr (.inr (.inr hb)))
  have hX6:∀b,b=pb→S b:=λb hb=>hb▸hpb
  refine⟨_,L16,eG,?_,aN.leX cY hX6 (aN.le bI hS.1 _ rv)⟩
  have qU:=nQ.leX (bI.leX (X:=(· = C.P)) rfl) hSP (M.nw.1.nP hC) (M.nw.2.1.nP hC) (M.nw.2.2.nP hC)
  refine⟨?_,⟨_,hl',?_⟩,?_,M.nw,M.ne⟩
  ·exact fO qU.dict cY.ext M.ne.1
  ·exact av.leX cY hX6 (av.le bI hS.1 _ rr)
  ·obtain⟨t,e⟩:=qU.alo;exact⟨t,aE e cY.ext M.ne.2.2.symm⟩
 | nil=>
  rw[hbk]at h
  rw[if_neg (by simp)]
  refine wpAny_execs_nil ?_
  dsimp only at h
  cases hst:fv n L with
  | none=>rw[hst]at h;cases h
  | some r=>
  rw[hst]at h
  cases h
  have nk:∀y,¬(env.kindOf y=some .cell∨env.kindOf y=some .free):=λy q=>by
   rw[en.ko]at q
   rcases q with q|q<;>(have:=mem_of_lookup q;simp[nA]at this)
  have hMut:∀b,cU nA env b→b=env.locals:=λb hb=>by
   rcases hb with h|⟨y,h,_⟩
   ·exact h
   ·have:=mem_of_lookup h;simp[nA]at this
  have lP:env.locals≠C.P:=en.own.locN.nP hC
  have fresh:∀{b:Addr} {o:Obj},W.h.get? b=some o→b≠env.locals:=λe q=>by rw[q,en.frl]at e;cases e
  have dl:d≠env.locals:=by obtain⟨o,e⟩:=M.there.1;exact fresh e
  have pl:pb≠env.locals:=by obtain⟨o,e⟩:=M.there.2.1;exact fresh e
  have al':al≠env.locals:=by obtain⟨o,e⟩:=M.there.2.2;exact fresh e
  have Ez:SX C (aM S [env.locals]) bf.h:=en.sx.le hC aD aO
  have wZ:bG C TT nA S bf env mm []:=⟨d6,en.ag,.nil⟩
  refine wpAny_execs_cons (wpAny_Assign_Name (wpAny_mono ((ba hL az 2).1 nA _ (.const (.str true (nm ""))) [] (.str true (nm "")) _ _ _ _ _ _ _ (.str) rfl (b6.le (Nat.zero_le _)).low aO Aq wZ) (λtv cq ⟨aB,aU,bH,kK⟩=>?_) λ_ _ x=>x))
  have ph:=d6.ext aU.ext
  refine wpAny_mono (b9 (x:=nm "token") en.own hC bH ph rfl) (λ_ cu ⟨dI,bI,dJ,lE⟩=>?_) λ_ _ x=>x
  dsimp only
  have C9:=bI.sub hMut
  have L14:Le C aj aB:=aD.trans aU
  have L05:aZ (λb=>b=C.P) W dI:=((en.le.trans L14).leX (X:=λb=>b=C.P) rfl).fresh C9 λb hb=>.inr (hb▸en.frl)
  have EA:=I.leX L05 hSP
  have qU:=M.leX L05 hSP (M.nw.1.nP hC) (M.nw.2.1.nP hC) (M.nw.2.2.nP hC)
  have Da:SX C S dI.h:=hS.leX L05 λb hb _=>hb▸gK hC dJ
  have qE:aN S dI (.str true (nm "")) tv:=let ⟨t,e,g⟩:=kK;⟨t,e,λq=>(g q).leX bI⟩
  have Ar:bM mm (nm "token") tv (nm "self")=some (.ref xa):=cA (by decide) m1
  refine wpAny_execs_cons (wpAny_Assign_Name (vu x EA qU dJ Da (b6.le (Nat.zero_le _)) lE en.ag Ar λdp cx it mo t cY eG ci fit fmo nit itm=>?_))
  have jW:=lE.ext cY.ext
  refine wpAny_mono (b9 (x:=nm "fiter") en.own hC eG jW rfl) (λ_ qO ⟨lG,cM,fL,sU⟩=>?_) λ_ _ x=>x
  dsimp only
  have ur:=cM.sub hMut
  have L06:=L05.trans (cY.leX (X:=(· = C.P)) rfl)
  have L07:aZ (λb=>b=C.P) W lG:=L06.fresh ur λb hb=>.inr (hb▸en.frl)
  have As:∃o,dI.h.get? env.locals=some o:=lE.there en.own (.inl rfl)
  have itl:it≠env.locals:=λq=>by obtain⟨o,e⟩:=As;rw[←q,fit]at e;cases e
  have mol:mo≠env.locals:=λq=>by obtain⟨o,e⟩:=As;rw[←q,fmo]at e;cases e
  have nb:∀{b:Addr},dI.h.get? b=none→b≠C.P→W.h.get? b=none:=λ{b} e n=>by
   cases q:W.h.get? b with
   | none=>rfl
   | some o=>obtain⟨_,e',_⟩:=L05.ext _ _ n q;rw[e']at e;cases e
  have moP:mo≠C.P:=λq=>by obtain⟨o,e⟩:=gK hC dJ;rw[←q,fmo]at e;cases e
  have xe:=M.leX L07 hSP (M.nw.1.nP hC) (M.nw.2.1.nP hC) (M.nw.2.2.nP hC)
  have G:GC C S W L xa d f fx rf cp ca al pb it mo env (A.deeper env):=⟨x,I,hS,hd,hal,M,en.own,en.ag,en.ko,en.frl,nb fit (nit.nP hC),nb fmo moP,nit,itl,mol,itm,moP,b6⟩
  have g:GS C S W L xa d f al pb it mo env true L (nm "") none lG (bM (bM mm (nm "token") tv) (nm "fiter") (.ref it)) qO:=
   ⟨L07.sub λb hb=>.inl hb,fL,rfl,rfl,xe.dict,xe.alo,sU,cA (by decide) Ar,cD ..,⟨tv,cA (by decide) (cD ..),let ⟨t,e,g⟩:=kK;⟨t,e,λq=>((((g q).leX bI).le cY).leX cM)⟩⟩,nofun,⟨t,ci.leX ur x fL itl mol⟩⟩
  refine wpAny_execs_cons (wpAny_mono (g.outer G (qT G rfl) (vw G rfl) hst hr rfl) (λfl kH ⟨run,eA,qG,Db,Dc,q⟩=>?_) λ_ _ x=>x)
  have fin:∀{v:Value} {s':Shared},GS C S W L xa d f al pb it mo env run r.1 r.2 Db eA qG s'→aN S eA (.str true r.2) v→∃W',aZ (λb=>b=C.P∨b=d∨b=al∨b=pb) W W'∧At C W' s'∧bS C S W' r.1 d pb al f∧aN S W' (.str true r.2) v:=
   λg' rv=>⟨eA,g'.lz.sub λb hb=>hb.imp id λh=>h.imp id .inl,g'.at',g'.M G,rv⟩
  rcases q with rfl|⟨v,rfl,rv⟩
  ·dsimp only
   refine wpAny_execs_cons (wpAny_mono (Dc.rett G) (λfl Fg ⟨v,ef,EB,rv⟩=>?_) λ_ _ x=>x)
   subst ef
   exact fin EB rv
  ·exact fin Dc rv
end
abbrev EC:Kd:=[(nm "self",NameKind.local),(nm "token",.local)]
section
variable{C:Cx}{S:Addr→Prop}{W W':Wd}{s:Shared}{A:Around}{E:Value→Shared→Prop}{L L':a6}{xa d f fx rf cp ca al pb:Addr}
theorem yX(x:CK C)(I:eK C S W L.page xa d f fx rf cp ca al)(M:bS C S W L d pb al f)(hA:At C W s)(hS:SX C S W.h)(hd:S d)(hal:S al)(hpb:S pb)(hR:bl 1 A)(hb:L.back.length≤1000){dd:D}{v:Value}(hv:aN S W dd v):
  wpAny (model C.prog C.w) A (call (.ref 91) [.ref xa,v]) (λr s'=>r = .none∧∃W',aZ (λb=>b=C.P∨b=pb) W W'∧At C W' s'∧bS C S W' { L with back:=L.back++[dd] } d pb al f) E s:=by
 have hC:=x.ok
 have hL:=uk hC x.bis 0
 refine wpAny_call (oC (cm:=λ_=>none) hC (CV _ (x.now hA)) (λy hy=>?_) rfl (λy hy=>?_) hA hS hR (λenv ae aj mm q1 q2 en b6=>?_))
 ·rcases List.mem_cons.mp hy with rfl|hy
  ·rfl
  ·rcases List.mem_cons.mp hy with rfl|hy
   ·rfl
   ·cases hy
 ·have hy:EC.lookup y=some .free:=hy
  have:=mem_of_lookup hy
  simp[EC]at this
 have en:Ct C S W EC env mm ae aj:=en
 have m1:mm (nm "self")=some (.ref xa):=q1 (nm "self") rfl
 have m2:mm (nm "token")=some v:=q1 (nm "token") rfl
 clear q1 q2
 have hSP:∀b,b=C.P→S b:=λb h=>h▸hS.1
 have nK:=I.leX (en.le.leX (X:=(· = C.P)) rfl) hSP
 have iq:=M.leX (en.le.leX (X:=(· = C.P)) rfl) hSP (M.nw.1.nP hC) (M.nw.2.1.nP hC) (M.nw.2.2.nP hC)
 obtain⟨sl,k,t0,t1,t2,t3,tl,tw,sS⟩:=iq.dict
 refine wpAny_execs_cons (wpAny_Expr (wpAny_Call_append rfl rfl rfl rfl (Attribute_name (wpAny_Name (bj en.at'.h en.fr (en.ag.v (nm "self") rfl) (by decide) m1 ?_) (by decide)))) (by unfold interactive;rw[en.fr.kind];rfl) rfl)
 refine jx x en.at' nK.inst sS sO rfl λak au=>?_
 obtain⟨its,hpl,hrl⟩:=iq.pbo
 have po:=hpl;rw[au.h]at po
 refine⟨pb,its,rfl,(let ⟨n,q⟩:=po;⟨_,n,q,rfl,rfl,rfl⟩),?_⟩
 refine wpAny_Name (bj au.h en.fr (en.ag.v (nm "token") rfl) (by decide) m2 ?_) (by decide)
 have hlen:its.size≤sizeLine:=by have:=hrl.length;rw[Array.length_toList]at this;rw[sizeLine_eq];omega
 refine wpAny_list_append_plain po (λh' hl' hs'=>?_) hlen
 obtain⟨aO,aD⟩:=au.but hC (X:=(· = pb)) (λb hb=>hb▸M.nw.2.1) (λb hb=>hb ▸ .seq po.isList) (λb o n e=>(hs'.2 b n).trans e) (tk:=ak.toks) (Nat.le_refl _)
 have hX3:∀b,b=pb→S b:=λb hb=>hb▸hpb
 refine wpAny_execs_nil ⟨rfl,_,(en.le.leX (.inl rfl)).trans (aD.sub λb hb=>.inr hb),aO,?_,⟨_,hl',?_⟩,?_,M.nw,M.ne⟩
 ·exact fO iq.dict aD.ext M.ne.1
 ·rw[Array.toList_push]
  exact(av.leX aD hX3 hrl).append ⟨v,[],rfl,aN.leX aD hX3 (aN.le en.le hS.1 _ hv),rfl⟩
 ·obtain⟨t,e⟩:=iq.alo;exact⟨t,aE e aD.ext M.ne.2.2.symm⟩
end
abbrev Au:Kd:=[(nm "self",NameKind.local),(nm "fp",.local)]
abbrev dk(sl:Array (Option Value))(l:List DictEntry)(n:Nat):Obj:={ cls:=.type "dict",data:=.dict l.toArray n,slots:=sl }
section
variable{p:Params}{sl:Array (Option Value)}{t t0 t1 t2 t3:Tok}{a b c e:Value}
abbrev vz(p:Params)(t0:Tok)(a:Value):DictEntry:=⟨PyData.keyHash p (nm "lineno"),.str (nm "lineno") t0,a⟩
abbrev yY(p:Params)(t1:Tok)(b:Value):DictEntry:=⟨PyData.keyHash p (nm "instream"),.str (nm "instream") t1,b⟩
abbrev Dd(p:Params)(t2:Tok)(c:Value):DictEntry:=⟨PyData.keyHash p (nm "whitespace"),.str (nm "whitespace") t2,c⟩
abbrev Fh(p:Params)(t3:Tok)(e:Value):DictEntry:=⟨PyData.keyHash p (nm "pushback"),.str (nm "pushback") t3,e⟩
theorem ED:Obj.putName (nm "lineno") (PyData.keyHash p (nm "lineno")) (.str (nm "lineno") t0) a (dk sl [] 0)=dk sl [vz p t0 a] 1:=by rfl
theorem EE:Obj.putName (nm "instream") (PyData.keyHash p (nm "instream")) (.str (nm "instream") t1) b (dk sl [vz p t0 a] 1)=dk sl [vz p t0 a,yY p t1 b] 2:=by rfl
theorem EF:Obj.putName (nm "whitespace") (PyData.keyHash p (nm "whitespace")) (.str (nm "whitespace") t2) c (dk sl [vz p t0 a,yY p t1 b] 2)=dk sl [vz p t0 a,yY p t1 b,Dd p t2 c] 3:=by rfl
theorem EG:Obj.putName (nm "pushback") (PyData.keyHash p (nm "pushback")) (.str (nm "pushback") t3) e (dk sl [vz p t0 a,yY p t1 b,Dd p t2 c] 3)=hV p sl 4 t0 t1 t2 t3 a b c e:=by rfl
theorem Fi:takerIn (KK p) 94 (nm "instream")=some none:=by rfl
theorem Fj:takerIn (KK p) 94 (nm "whitespace")=some none:=by rfl
theorem Fk:takerIn (KK p) 94 (nm "pushback")=some none:=by rfl
end
section
variable{C:Cx}{S:Addr→Prop}{W W':Wd}{s:Shared}{A:Around}{E:Value→Shared→Prop}{xa dx:Addr}
theorem oZ.dk{h:Heap}{o:Obj}{es:Array DictEntry}{n:Nat}(e:h.get? dx=some o)(hd:o.data = .dict es n):oZ h dx:=λo' vs q t e' hd' _=>by
 rw[e]at e';cases e';rw[hd]at hd';cases hd'
theorem yZ(x:CK C){name:Str}{v:Value}{od:Obj}{od':Tok→Obj}{es:Tok→List DictEntry}{n:Nat}(hA:At C W s)(hi:W.h.get? xa=some (instObj 94 dx))(hd:W.h.get? dx=some od)(nd:Nw C dx)(hdat:∃es n,od.data = .dict es n)(ht:takerIn (KK C.w.params) 94 name=some none)
  (hl:(lookIn name od).isSome=true) (hp:∀t,Obj.putName name (PyData.keyHash C.w.params name) (.str name t) v od=od' t) (he:∀t,(od' t).data = .dict (es t).toArray n) (hz:∀t,(es t).length≤1000) :
  wpAny (model C.prog C.w) A (setAttr (.ref xa) name v) (λ_ s'=>∃W' t,aZ (· = dx) W W'∧At C W' s'∧W'.h.get? dx=some (od' t)) E s:=by
 refine qL (x.now hA) (jV hA hi hd) rfl (An _) (w8 _) ht (CX _) hl (hp _) (he _) (hz _) λh' hg hb=>?_
 have hd':=hd;rw[hA.h]at hd'
 obtain⟨es',n',hdd⟩:=hdat
 obtain⟨bH,aU⟩:=hA.but x.ok (X:=(· = dx)) (λb hb=>hb▸nd) (λb hb=>hb▸⟨oZ.dk hd' hdd,λ_=>.inr ⟨_,_,_,hg,he _⟩⟩) (λb o n e=>(hb.2 b n).trans e) (tk:=s.toks+2) (by omega)
 exact⟨_,_,aU,bH,hg⟩
end
section
variable{C:Cx}{S:Addr→Prop}{W W':Wd}{s:Shared}{A:Around}{E:Value→Shared→Prop}{xa dx f:Addr}
theorem y3(x:CK C)(hA:At C W s)(hS:SX C S W.h)(hi:W.h.get? xa=some (instObj 94 dx))(hd:W.h.get? dx=some emptyDict)(nd:Nw C dx)(nx:xa≠C.P)(nxd:xa≠dx)(hR:bl 1 A):
  codeAny (model C.prog C.w) A (.call (.ref 70) ⟨[.ref xa,.ref f],[]⟩) (vj (λv s'=>v = .none∧∃W' sl t0 t1 t2 t3 t tw pb,aZ (λb=>b=C.P∨b=dx) W W'∧At C W' s'∧W.h.get? pb=none∧Nw C pb∧W'.h.PlainList pb #[]∧
   W'.h.get? dx=some (hV C.w.params sl 4 t0 t1 t2 t3 (.int 1 t) (.ref f) (.str df tw) (.ref pb))) E) s:=by
 have hC:=x.ok
 have hL:=uk hC x.bis 0
 refine oC (cm:=λ_=>none) hC (Er _ (x.now hA)) (λy hy=>?_) rfl (λy hy=>?_) hA hS hR (λenv ae aj mm q1 q2 en b6=>?_)
 ·rcases List.mem_cons.mp hy with rfl|hy
  ·rfl
  ·rcases List.mem_cons.mp hy with rfl|hy
   ·rfl
   ·cases hy
 ·have hy:Au.lookup y=some .free:=hy
  have:=mem_of_lookup hy
  simp[Au]at this
 have en:Ct C S W Au env mm ae aj:=en
 have m1:mm (nm "self")=some (.ref xa):=q1 (nm "self") rfl
 have m2:mm (nm "fp")=some (.ref f):=q1 (nm "fp") rfl
 clear q1 q2
 have hSP:∀b,b=C.P→S b:=λb h=>h▸hS.1
 have hSP':∀b,b=C.P→aM S [env.locals] b:=λb h=>.inl (hSP b h)
 have dP:dx≠C.P:=nd.nP hC
 have nk:∀y,¬(env.kindOf y=some .cell∨env.kindOf y=some .free):=λy q=>by
  rw[en.ko]at q
  rcases q with q|q<;>(have:=mem_of_lookup q;simp[Au]at this)
 have dl:env.locals≠dx:=λq=>by have:=en.frl;rw[q,hd]at this;cases this
 have fall:∀{cH jf:Wd},ay C env cH.h mm→aZ (· = dx) cH jf→ay C env jf.h mm:=λf L=>f.leX' L dl λy c hk _=>absurd hk (nk y)
 have sxd:∀{cH jf:Wd} {aV:Shared} {o:Obj},SX C (aM S [env.locals]) cH.h→aZ (· = dx) cH jf→At C jf aV→jf.h.get? dx=some o→SX C (aM S [env.locals]) jf.h:=λh L _ e=>h.leX L λb hb _=>hb▸⟨_,e⟩
 have Bw:bG C TT Au (aM S [env.locals]) aj env mm []:=⟨en.fr,en.ag,.nil⟩
 refine wpAny_execs_cons (plainObj_wpAny_Assign_Attribute (wpAny_mono ((ba hL az 2).1 Au _ (.const (.int true 1)) [] (.int true 1) _ _ _ _ _ _ _ (.int) rfl b6.low en.at' en.sx Bw) (λv ak ⟨W₂,an,au,bE⟩=>?_) λ_ _ x=>x))
 obtain⟨ti,rfl,_⟩:=bE
 have De:=(en.le.ext.trans an.ext).ex nx hi nofun
 obtain⟨sl1,EH⟩:=(en.le.ext.trans an.ext).sl dP hd
 refine wpAny_Name (bj au.h (en.fr.ext an.ext) (en.ag.v (nm "self") rfl) (by decide) m1 ?_) (by decide)
 refine wpAny_mono (yZ x (od':=λt=>dk sl1 [vz C.w.params t (.int 1 ti)] 1) (es:=λt=>[vz C.w.params t (.int 1 ti)]) au De EH nd ⟨_,_,rfl⟩ (Ao _) rfl (λt=>ED) (λt=>rfl) (λt=>by simp)) (λ_ bF ⟨bf,t0,aD,aO,Df⟩=>?_) λ_ _ x=>x
 dsimp only
 have d6:=fall (en.fr.ext an.ext) aD
 have o8:=sxd (en.sx.le hC an au) aD aO Df
 have yU:=aD.ext.ex nxd De nofun
 refine wpAny_execs_cons (plainObj_wpAny_Assign_Attribute (wpAny_Name (bj aO.h d6 (en.ag.v (nm "fp") rfl) (by decide) m2 ?_) (by decide)))
 refine wpAny_Name (bj aO.h d6 (en.ag.v (nm "self") rfl) (by decide) m1 ?_) (by decide)
 refine wpAny_mono (yZ x (od':=λt=>dk sl1 [vz C.w.params t0 (.int 1 ti),yY C.w.params t (.ref f)] 2) (es:=λt=>[vz C.w.params t0 (.int 1 ti),yY C.w.params t (.ref f)]) aO yU Df nd ⟨_,_,rfl⟩ Fi rfl (λt=>EE) (λt=>rfl) (λt=>by simp)) (λ_ cq ⟨aB,t1,aU,bH,Dg⟩=>?_) λ_ _ x=>x
 dsimp only
 have ph:=fall d6 aU
 have dH:=sxd o8 aU bH Dg
 have EI:=aU.ext.ex nxd yU nofun
 have EJ:bG C TT Au (aM S [env.locals]) aB env mm []:=⟨ph,en.ag,.nil⟩
 refine wpAny_execs_cons (plainObj_wpAny_Assign_Attribute (wpAny_mono ((ba hL az 2).1 Au _ (.const (.str true df)) [] (.str true df) _ _ _ _ _ _ _ (.str) rfl b6.low bH dH EJ) (λv cu ⟨dI,bI,dJ,qE⟩=>?_) λ_ _ x=>x))
 obtain⟨tw,rfl,_⟩:=qE
 have lE:=ph.ext bI.ext
 have Dh:=bI.ext.ex nx EI nofun
 obtain⟨sl2,EK⟩:=bI.ext.sl dP Dg
 refine wpAny_Name (bj dJ.h lE (en.ag.v (nm "self") rfl) (by decide) m1 ?_) (by decide)
 refine wpAny_mono (yZ x (od':=λt=>dk sl2 [vz C.w.params t0 (.int 1 ti),yY C.w.params t1 (.ref f),Dd C.w.params t (.str df tw)] 3) (es:=λt=>[vz C.w.params t0 (.int 1 ti),yY C.w.params t1 (.ref f),Dd C.w.params t (.str df tw)]) dJ Dh EK nd ⟨_,_,rfl⟩ Fj rfl (λt=>EF) (λt=>rfl) (λt=>by simp)) (λ_ dp ⟨cx,t2,cY,eG,Di⟩=>?_) λ_ _ x=>x
 dsimp only
 have jW:=fall lE cY
 have EM:=cY.ext.ex nxd Dh nofun
 refine wpAny_execs_cons (plainObj_wpAny_Assign_Attribute ?_)
 rw[arm_eval_List]
 refine wpAny_bind (wpAny_standAt (wpAny_bind (Calls.spliced_nil ?_)))
 refine wpAny_newObj_type ?_ (by size_fits)
 have hpb:(dp.heap.push { cls:=.type "list",dict:=none,data:=.seq ([]:List Value).toArray }).PlainList dp.heap.objs.size #[]:=⟨_,Heap.get?_push_size _ rfl⟩
 obtain⟨fL,cM⟩:=eG.keepW (bt dp.heap { cls:=.type "list",dict:=none,data:=.seq ([]:List Value).toArray }) (Nat.le_refl dp.toks)
 have npb:Nw C dp.heap.objs.size:=eG.inv.nw (Nat.le_refl _)
 have fpb:=aK eG (Nat.le_refl dp.heap.objs.size)
 have sU:=jW.ext cM.ext
 have EN:=cM.ext.ex nx EM nofun
 obtain⟨sl3,EO⟩:=cM.ext.sl dP Di
 refine wpAny_Name (bj fL.h sU (en.ag.v (nm "self") rfl) (by decide) m1 ?_) (by decide)
 refine wpAny_mono (yZ x (od':=λt=>hV C.w.params sl3 4 t0 t1 t2 t (.int 1 ti) (.ref f) (.str df tw) (.ref dp.heap.objs.size)) (es:=λt=>[vz C.w.params t0 (.int 1 ti),yY C.w.params t1 (.ref f),Dd C.w.params t2 (.str df tw),Fh C.w.params t (.ref dp.heap.objs.size)]) fL EN EO nd ⟨_,_,rfl⟩ Fk rfl (λt=>EG) (λt=>rfl) (λt=>by simp)) (λ_ kH ⟨eA,t3,eZ,fK,EP⟩=>?_) λ_ _ x=>x
 dsimp only
 have b1:∀b,b=dx→(b=C.P∨b=dx):=λb h=>.inr h
 have LL:aZ (λb=>b=C.P∨b=dx) W cx:=(((((en.le.leX (.inl rfl)).trans (an.leX (.inl rfl))).trans (aD.sub b1)).trans (aU.sub b1)).trans (bI.leX (.inl rfl))).trans (cY.sub b1)
 have pbd:dp.heap.objs.size≠dx:=λq=>by rw[q,Di]at fpb;cases fpb
 refine wpAny_execs_nil ⟨rfl,eA,sl3,t0,t1,t2,t3,ti,tw,dp.heap.objs.size,(LL.trans (cM.leX (.inl rfl))).trans (eZ.sub b1),fK,?_,npb,?_,EP⟩
 ·cases q:W.h.get? dp.heap.objs.size with
  | none=>rfl
  | some o=>obtain⟨_,e',_⟩:=LL.ext _ _ (λh=>h.elim (npb.nP hC) pbd) q;rw[e']at fpb;cases fpb
 ·exact aE hpb eZ.ext pbd
end
structure eM(C:Cx)(a:Addr)(fd:FuncData)(body:List Stmt)(params:List Str):Prop where
 at':∃o,C.base.get? a=some o∧o.data = .func fd
 aP:a≠C.P
 code:∀h,Heap.ExtBut C.P C.base h→h.CodeRec fd.code fd.qualname
 body:fd.body = .stmts body
 bind:∀vals:List Value,vals.length=params.length→bindArgs fd ⟨vals,[]⟩=pure (params.zip vals)
 clo:fd.closure=[]
 co:fd.scope.isCoroutine=false
 gen:fd.scope.isGenerator=false
 kind:fd.scope.kind = .function
 glob:fd.globals=mainGlobals
 bi:fd.builtins=builtinsNs
section
variable{C:Cx}{T fns:List Str}{F:Nat→List D→Option D}{R n:Nat}{S:Addr→Prop}{W:Wd}{s:Shared}
theorem fP{ps:List Nat}{params:List Str}{ds:List D}{vs:List Value}{mm:Str→Option Value}:∀(hp:ps.map (T[·]?)=params.map some) (r:av S W ds vs) (hlen:vs.length=params.length)
  (hm:∀x v,(x,v)∈params.zip vs→mm x=some v),bO T S W mm (ps.zip ds):=by
 induction ps generalizing params ds vs with
 | nil=>intro _ _ _ _ i d h;simp at h
 | cons p ps ih=>
  intro hp r hlen hm i d h
  cases params with
  | nil=>cases hp
  | cons x params=>
   cases vs with
   | nil=>cases hlen
   | cons v vs=>
    cases ds with
    | nil=>simp at h
    | cons d0 ds=>
     obtain⟨v',r',e,h1,h2⟩:=r
     cases e
     rw[List.map_cons,List.map_cons]at hp
     injection hp with hp1 hp2
     rw[List.zip_cons_cons,List.lookup_cons]at h
     cases hb:i==p with
     | true=>
      rw[hb]at h;cases h
      rw[beq_iff_eq.mp hb]
      exact⟨x,v,hp1,hm x v (.head _),h1⟩
     | false=>
      rw[hb]at h
      exact ih hp2 h2 (by simpa using hlen) (λy u hu=>hm y u (.tail _ hu)) i d h
structure Bx(C:Cx)(S:Addr→Prop)(W:Wd)(fd:FuncData)(env:Env)(mm:Str→Option Value)(ae:Shared)(aj:Wd)(S':Addr→Prop):Prop where
 le:Le C W aj
 at':At C aj ae
 fr:ay C env aj.h mm
 ag:Ag fd.scope.names env
 own:bv C fd.scope.names S' env
 sx:SX C S' aj.h
 sup:∀b,S b→S' b
 gr:∀b,S' b→S b∨W.h.get? b=none
 ko:∀y,env.kindOf y=fd.scope.names.lookup y
 code:env.code=fd.code
 qual:env.qual=fd.qualname ++ ".<locals>."
 ceq:env.cells=cellsFrom (env.locals+1) fd.scope.names []
 cells:∀y c,env.cells.lookup y=some c→Nw C c∧W.h.get? c=none
 frl:W.h.get? env.locals=none
 sl:S' env.locals
 sc:∀y c,env.cells.lookup y=some c→S' c
 only:∀b,S' b→S b∨b=env.locals∨∃y,env.cells.lookup y=some b
 frm:env.frame=some env.locals
 sco:env.scope=fd.scope
theorem At.noLimit(hC:C.Ok)(a:At C W s):s.heap.NoLimit:=let ⟨mc,st1,st2,_⟩:=hC.st;⟨mc,st1.extBut a.inv.ext hC.sP,st2⟩
theorem oH(hC:C.Ok){a:Addr}{fd:FuncData}{params:List Str}{vs:List Value}{Q:Env→Shared→Prop}{A:Around}{E:Value→Shared→Prop}{M:Model}(hkind:fd.scope.kind = .function)(hglob:fd.globals=mainGlobals)(hbi:fd.builtins=builtinsNs)(hsc:aW fd.scope []=true)(hpn:params.Nodup)(hpk:∀x∈params,cK fd.scope.names x=true)(hvl:vs.length=params.length)
  (hA:At C W s) (hS:SX C S W.h) (h:∀env ae aj mm S',(∀x v,(x,v)∈params.zip vs→mm x=some v)→Bx C S W fd env mm ae aj S'→Q env ae) :
  wpAny M A (newFunctionEnv fd.scope fd.globals [] (params.zip vs) (fd.qualname ++ ".<locals>.") (some a) fd.code none fd.builtins) Q E s:=by
 obtain⟨hk,hnd,hfree,_⟩:=dq hsc
 have nofree:∀x,(x,NameKind.free)∉fd.scope.names:=λx hx=>by rcases hfree x hx with q|q<;>cases q
 refine wpAny_with_toks (Nat.le_refl s.toks) (wpAny_newFunctionEnv_cells hkind (λx hx=>?_) λenv he ae x htk=>?_)
 ·have:=hpk x.1 (im hx)
  unfold cK at this
  split at this
  ·rename_i q;exact .inl q
  ·rename_i q
   obtain⟨c,hc⟩:=ce fd.scope.names (s.heap.objs.size+1) [] x.1 (mem_of_lookup q)
   obtain⟨c',hc'⟩:=a7 hc
   exact .inr ⟨q,by rw[hc'];rfl⟩
  ·cases this
 ·have ek:∀y,env.kindOf y=fd.scope.names.lookup y:=λy=>by rw[he];rfl
  have el:env.locals=s.heap.objs.size:=by rw[he];rfl
  have ec:env.cells=cellsFrom (s.heap.objs.size+1) fd.scope.names []:=by rw[he];rfl
  have eg:env.globals=mainGlobals:=by rw[he];exact hglob
  have eb:env.builtins=builtinsNs:=by rw[he];exact hbi
  have es:env.scope.kind = .function:=by rw[he];exact hkind
  obtain⟨⟨⟨h',tk,rfl⟩,hns,hkeep,hfr⟩,hcell,hapart,habove⟩:=x
  dsimp only at hns hkeep hcell htk
  obtain⟨aq,am⟩:=hA.keepW hkeep htk
  generalize hmm:(λy=>if env.kindOf y=some .cell then bindC env.kindOf (params.zip vs) (λ_=>none) y else bindL env.kindOf (params.zip vs) (λ_=>none) y)=mm
  have fr:ay C env h' mm:=by
   refine⟨es,⟨_,hns,λy hy=>?_⟩,(hA.inv.nw (Nat.le_of_eq el.symm)).nP hC,λy hy=>?_,eg,eb⟩
   ·rw[←hmm];dsimp only;rw[if_neg (by rw[hy];exact nofun)]
   ·have hy:env.kindOf y=some .cell:=hy.elim id λq=>by
     rw[ek]at q;exact absurd (mem_of_lookup q) (nofree y)
    obtain⟨c,hc⟩:=ce fd.scope.names (s.heap.objs.size+1) [] y (mem_of_lookup ((ek y).symm.trans hy))
    obtain⟨c',hc'⟩:=a7 hc
    rw[←ec]at hc'
    have:=habove y c' (mem_of_lookup hc')
    refine⟨c',hc',?_,(hA.inv.nw (by rw[el]at this;exact Nat.le_of_lt this)).nP hC⟩
    rw[←hmm];dsimp only;rw[if_pos hy]
    exact hcell y c' hc'
  have ag:Ag fd.scope.names env:=by
   refine⟨λy hy=>?_,λy hy=>?_,λy hy=>?_⟩
   ·rw[ek]
    unfold iQ at hy
    split at hy
    ·rename_i q;exact .inl q
    ·rename_i q;exact .inr (.inl q)
    ·rename_i q;exact .inr (.inr q)
    ·cases hy
   ·rw[ek]
    unfold lC at hy
    split at hy
    ·rename_i q;exact q
    ·cases hy
   ·rw[ek];exact hy
  have inC:∀y c,env.cells.lookup y=some c→Nw C c∧W.h.get? c=none∧h'.IsCell c (bindC env.kindOf (params.zip vs) (λ_=>none) y):=λy c hc=>by
   have:=habove y c (mem_of_lookup hc)
   rw[el]at this
   exact⟨hA.inv.nw (Nat.le_of_lt this),aK hA (Nat.le_of_lt this),hcell y c hc⟩
  have nwl:Nw C env.locals:=hA.inv.nw (Nat.le_of_eq el.symm)
  have frl:W.h.get? env.locals=none:=aK hA (Nat.le_of_eq el.symm)
  generalize hS':(λb=>S b∨b=env.locals∨∃y,env.cells.lookup y=some b)=S'
  have sup:∀b,S b→S' b:=λb hb=>by rw[←hS'];exact .inl hb
  have gr:∀b,S' b→S b∨W.h.get? b=none:=λb hb=>by
   rw[←hS']at hb
   rcases hb with h|h|⟨y,h⟩
   ·exact .inl h
   ·exact .inr (h▸frl)
   ·exact .inr (inC y b h).2.1
  have sx:SX C S' h':=⟨sup _ hS.1,λb hb=>by
   rw[←hS']at hb
   rcases hb with h|h|⟨y,h⟩
   ·exact(hS.le hC am aq).2 b h
   ·obtain⟨o,_,_,ho,_⟩:=hns;exact⟨o,h▸ho⟩
   ·obtain⟨o,ho,_⟩:=(inC y b h).2.2;exact⟨o,ho⟩⟩
  have own:bv C fd.scope.names S' env:=by
   refine⟨by rw[←hS'];exact .inr (.inl rfl),nwl,λy q=>by rw[ek];exact q,λy q=>by rw[ek];exact q,λy c _ hc=>⟨by rw[←hS'];exact .inr (.inr ⟨y,hc⟩),(inC y c hc).1,λz hz q=>hz ?_⟩⟩
   exact name_of_addr hapart (mem_of_lookup q) (mem_of_lookup hc)
  have hmmv:∀x v,(x,v)∈params.zip vs→mm x=some v:=λx v hx=>by
   have hp:=hpk x (im (x:=(x,v)) hx)
   have hnz:((params.zip vs).map (·.1)).Nodup:=by rw[uj hvl];exact hpn
   rw[←hmm];dsimp only
   unfold cK at hp
   split at hp
   ·rename_i q
    have q':env.kindOf x=some .local:=(ek x).trans q
    rw[if_neg (by rw[q'];exact nofun)]
    exact oz _ _ x v hnz hx q'
   ·rename_i q
    have q':env.kindOf x=some .cell:=(ek x).trans q
    rw[if_pos q']
    exact oA _ _ x v hnz hx (by rw[q'];exact nofun)
   ·cases hp
  exact h env _ { W with h:=h' } mm S' hmmv ⟨am,aq,fr,ag,own,sx,sup,gr,ek,by rw[he];rfl,by rw[he];rfl,by rw[ec,el],λy c q=>⟨(inC y c q).1,(inC y c q).2.1⟩,frl,by rw[←hS'];exact .inr (.inl rfl),λy c q=>by rw[←hS'];exact .inr (.inr ⟨y,q⟩),λb hb=>by rw[←hS']at hb;exact hb,by rw[el,he];rfl,by rw[he];rfl⟩
theorem pq(hC:C.Ok){a:Addr}{fd:FuncData}{body:List Stmt}{params:List Str}{vs:List Value}{Q:Value→Shared→Prop}{A:Around}{E:Value→Shared→Prop}(hf:eM C a fd body params)(hsc:aW fd.scope []=true)(hpn:params.Nodup)(hpk:∀x∈params,cK fd.scope.names x=true)(hvl:vs.length=params.length)
  (hA:At C W s) (hS:SX C S W.h) (hR:bl (R+1) A)
  (h:∀env ae aj mm S',(∀x v,(x,v)∈params.zip vs→mm x=some v)→Bx C S W fd env mm ae aj S'→bl R (A.deeper env)→wpAny (model C.prog C.w) (A.deeper env) (execs body env) (λf s'=>Q (wU f) s') (λe s'=>wpAny (model C.prog C.w) (A.deeper env) (leaving env e) (λ_ s''=>E e s'') E s') ae) :
  codeAny (model C.prog C.w) A (.call (.ref a) ⟨vs,[]⟩) (vj Q E) s:=by
 obtain⟨o,ho,hd⟩:=hf.at'
 have ho':=hA.inv.ext a o hf.aP ho
 refine codeAny_call_function hR.depth ho' hd hf.co hf.gen hf.body (hf.code _ hA.inv.ext) ?_
 rw[hf.bind vs hvl,hf.clo]
 refine wpAny_pure (oH hC hf.kind hf.glob hf.bi hsc hpn hpk hvl hA hS λenv ae aj mm S' hmm en=>⟨en.at'.noLimit hC,codeAny_func ?_⟩)
 ·refine wpAny_mono (h env _ aj mm S' hmm en (hR.deeper env)) (λf s' q=>?_) λ_ _ x=>x
  cases f<;>exact q
theorem xm(hC:C.Ok){a:Addr}{fd:FuncData}{body:List Stmt}{params:List Str}{vs:List Value}{Q:Value→Shared→Prop}{A:Around}{E:Value→Shared→Prop}(hf:eM C a fd body params)(hsc:aW fd.scope []=true)(hpn:params.Nodup)(hpk:∀x∈params,cK fd.scope.names x=true)(hvl:vs.length=params.length)
  (hA:At C W s) (hS:SX C S W.h) (hR:bl (R+1) A)
  (h:∀env ae aj mm S',(∀x v,(x,v)∈params.zip vs→mm x=some v)→Bx C S W fd env mm ae aj S'→bl R (A.deeper env)→wpAny (model C.prog C.w) (A.deeper env) (execs body env) (λf s'=>Q (wU f) s') i6 ae) :
  codeAny (model C.prog C.w) A (.call (.ref a) ⟨vs,[]⟩) (vj Q E) s:=by
 exact pq hC hf hsc hpn hpk hvl hA hS hR λenv ae aj mm S' h1 h2 h3=>wpAny_mono (h env ae aj mm S' h1 h2 h3) (λ_ _ q=>q) λ_ _ q=>q.elim
end
theorem lJ{pos q:Pos}{c:Value}(l:List Value)(h:TriplesOk l)(hn:¬(q.line=pos.line∧q.col=pos.col)):codeAmong q (l++[rawInt pos.line,rawInt pos.col,c])=codeAmong q l:=by
 fun_induction TriplesOk l with
 | case1=>
  simp only[List.nil_append,codeAmong,rawInt]
  rw[if_neg]
  simp only[Bool.and_eq_true,beq_iff_eq,not_and]
  intro e1 e2
  exact hn ⟨by omega,by omega⟩
 | case2 a t b u x rest ih=>
  simp only[List.cons_append,codeAmong]
  split
  ·rfl
  ·exact ih h
 | case3 l h1 h2=>exact h.elim
theorem qV{ps:Array Value}(ht:TriplesOk ps.toList){q:Str}{t:Tok}:ps[1]?≠some (.str q t):=by
 rw[←Array.getElem?_toList]
 intro e1
 generalize ps.toList=l at ht e1
 unfold TriplesOk at ht
 split at ht
 ·cases e1
 ·cases e1
 ·exact ht
section
variable{C:Cx}{S:Addr→Prop}{W:Wd}{s:Shared}
theorem CK.codeHd(x:CK C)(a:At C W s):CodeHd s.heap 104 C.P:=by
 obtain⟨o,vs,file,tf,flags,tg,inF,text,tt,e,r⟩:=x.hd
 exact⟨o,vs,file,tf,flags,tg,inF,text,tt,a.inv.ext _ _ (by rw[x.P];decide) e,r⟩
theorem CK.batNow(x:CK C)(a:At C W s):s.heap.BuiltinsAt C.mg C.P:=by
 obtain⟨bm,o,h1,h2,h3,h4,h5,r⟩:=x.bat
 exact⟨bm,o,h1,h2,h3,h4,a.inv.ext _ _ h4 h5,r⟩
theorem At.grow(x:CK C)(a:At C W s){pos:Pos}{qual:Str}(hu:∀q∈C.places,(q.1.line=pos.line∧q.1.col=pos.col)→q=(pos,qual)){ps:Array Value}(hP:s.heap.get? C.P=some (tabObj ps))(ht:TriplesOk ps.toList)(hT:∀q∈C.places,q.2≠Str.empty∧(codeAmong q.1 ps.toList=Option.none∨∃cv,codeAmong q.1 ps.toList=some cv∧s.heap.CodeRec cv q.2))
  (hn:codeAmong pos ps.toList=none) {c':Addr} {h':Heap} {tk:Nat} {o:Obj} (hx:Heap.ExtBut C.P s.heap h') (hr:h'.CodeRec (.ref c') qual) (hp:h'.get? C.P=some (tabObj (ps++#[rawInt pos.line,rawInt pos.col,.ref c']))) (htk:s.toks≤tk) :
  At C { W with h:=h'.push o } { s with heap:=h'.push o,toks:=tk }∧Le C W { W with h:=h'.push o }:=by
 have cr:∀cv q,s.heap.CodeRec cv q→h'.CodeRec cv q:=λcv q ⟨c,o,vs,t,e1,e2,e3,e4⟩=>by
  refine⟨c,o,vs,t,e1,hx _ _ (λz=>?_) e2,e3,e4⟩
  rw[z,hP]at e2;cases e2;cases e3
  exact qV ht e4
 have kp:∀b o',h'.get? b=some o'→(h'.push o).get? b=some o':=λb o' e=>Heap.get?_push_of_some _ e
 have hc:=x.codeHd a
 have hc':CodeHd h' 104 C.P:=by
  obtain⟨o,vs,file,tf,flags,tg,inF,text,tt,e,r⟩:=hc
  exact⟨o,vs,file,tf,flags,tg,inF,text,tt,hx _ _ (by rw[x.P];decide) e,r⟩
 have tab':qq C h':=by
  refine⟨_,hp,?_,λq hq=>⟨(hT q hq).1,?_⟩⟩
  ·have:=TriplesOk_snoc pos.line pos.col (.ref c') ps.toList ht
   simpa using this
  ·by_cases e:q.1.line=pos.line∧q.1.col=pos.col
   ·have:=hu q hq e;subst this
    right
    refine⟨.ref c',?_,hr⟩
    have:=codeAmong_snoc (c:=.ref c') ps.toList ht hn
    simpa using this
   ·have:=lJ (c:=.ref c') ps.toList ht e
    have e2:codeAmong q.1 (ps++#[rawInt pos.line,rawInt pos.col,.ref c']).toList=codeAmong q.1 ps.toList:=by simpa using this
    rw[e2]
    exact(hT q hq).2.imp id λ⟨cv,h1,h2⟩=>⟨cv,h1,cr _ _ h2⟩
 refine⟨⟨rfl,a.pos,Nat.le_trans a.k htk,⟨?_,?_,a.inv.os,a.inv.bare,tab'.keeps kp,?_⟩,a.gn⟩,⟨.of λb o' hb e=>?_,Nat.le_refl _,λ_ _=>rfl,λcv q ne h=>?_,λ_ _ h=>h⟩⟩
 ·exact(a.inv.old.step_table (x.hd.tab x.pt) (hc.tab hP) (hc'.tab hp) hx x.ok.sP.symm).step_keeps kp
 ·exact λb o' hb e=>kp _ _ (hx _ _ hb (a.inv.ext b o' hb e))
 ·intro b hb
  obtain⟨n1,o',es,n,e,d⟩:=a.inv.fr b hb
  exact⟨n1,o',es,n,kp _ _ (hx _ _ (λq=>by obtain⟨_,z⟩:=x.ok.Pin;rw[q,z]at n1;cases n1) e),d⟩
 ·have e':W.h.get? b=some o':=e
  rw[a.h]at e'
  exact kp _ _ (hx _ _ hb e')
 ·have h':W.h.CodeRec cv q:=h
  rw[a.h]at h'
  exact(cr _ _ h').keeps kp
end
abbrev qW:Kd:=[(nm "page",.cell),(nm "_law_read_on",.local),(nm "stream",.local),(nm "at",.cell),(nm "_netrclex",.globalImplicit)]
theorem bV{C:Cx}(x:CK C){a:Addr}{o:Obj}{fd:FuncData}{body:List Stmt}{params:List Str}(h1:(KK C.w.params).lookup a=some o)(h2:o.data = .func fd)(h3:a≠100)(h4:codeIn (KK C.w.params) fd.code fd.qualname=true)(h5:fd.body = .stmts body)
  (h6:∀vals:List Value,vals.length=params.length→bindArgs fd ⟨vals,[]⟩=pure (params.zip vals)) (h7:fd.closure=[]) (h8:fd.scope.isCoroutine=false) (h9:fd.scope.isGenerator=false) (h10:fd.scope.kind = .function) (h11:fd.globals=mainGlobals) (h12:fd.builtins=builtinsNs):eM C a fd body params:=
 ⟨⟨o,x.kin _ _ h1,h2⟩,by rw[x.P];exact h3,λh hx=>codeRec_of (K:=KK C.w.params) (λb o e=>hx b o (λq=>by rw[q,x.P]at e;cases e) (x.kin b o e)) h4,h5,h6,h7,h8,h9,h10,h11,h12⟩
theorem Av{C:Cx}(x:CK C):eM C 105 (lexFd C.w.params) (aR (lexFd C.w.params)) [nm "page"]:=
 bV x rfl rfl (by decide) rfl rfl (nJ λ_=>by kernel_rfl) rfl rfl rfl rfl rfl rfl
theorem y4{p:Params}{env:Env}{l:Nat}(h:env.cells=cellsFrom l qW []):closureFor (ro p).2.2.2.1 env=pure [(nm "page",l),(nm "at",l+1)]:=by
 rw[gh]
 have h':env.cells=[(nm "at",l+1),(nm "page",l)]:=h
 unfold closureFor
 simp[cellOf,h']
 rfl
section
variable{C:Cx}{S:Addr→Prop}{W:Wd}{s:Shared}{A:Around}{E:Value→Shared→Prop}{name qual:Str}{params:Arguments}{scope:Scope}{env:Env}{pos:Pos}{firstLine:Nat}{clos:List (Str×Addr)}
abbrev D9(fd:FuncData):Obj:={ cls:=.type "function",data:=.func fd }
theorem xn(x:CK C){body:List Stmt}(hA:At C W s)(hcl:closureFor scope env=pure clos)(hge0:env.globals=mainGlobals)(hcode:env.code = .ref 104)(hq:(pos,qual)∈C.places)(hu:∀q∈C.places,(q.1.line=pos.line∧q.1.col=pos.col)→q=(pos,qual)):
  wpAny (model C.prog C.w) A (makeFunction name qual params (.stmts body) scope env [] [] [] pos firstLine) (λv s'=>∃W' rf doc pm cv ctv,v = .ref rf∧Le C W W'∧At C W' s'∧W.h.get? rf=none∧Nw C rf∧W'.h.get? rf=some (D9 (fnX name qual params body scope clos .none .none doc pm none cv ctv))∧W'.h.CodeRec cv qual) E s:=by
 have hC:=x.ok
 obtain⟨ps,hP,ht,hT⟩:=hA.inv.tab
 refine wpAny_with_toks (Nat.le_refl s.toks) ?_
 cases hc:codeAmong pos ps.toList with
 | none=>
  refine makeFunction_K hcl hge0 (hA.gns hC).1 hcode (x.codeHd hA) hP ht hc hC.gP (x.batNow hA) λc' ctv doc h' tk hx h1 h2 hr hp htk=>?_
  obtain⟨a',L'⟩:=hA.grow x hu hP ht hT hc hx hr hp (o:=fnMade name qual params body scope clos doc ((C.mg "__name__").getD .none) c' ctv) htk
  have sz:s.heap.objs.size≤h'.objs.size:=by omega
  exact⟨_,h'.objs.size,doc,_,.ref c',ctv,rfl,L',a',aK hA sz,hA.inv.nw sz,Heap.get?_push_size _ rfl,hr.push _⟩
 | some cv=>
  refine makeFunction_hit hcl hge0 (hA.gns hC).1 hcode (x.codeHd hA) hP ht hc (x.batNow hA) λctv doc h' tk hk sz htk=>?_
  obtain⟨a',L'⟩:=hA.keepW (h':=h'.push (D9 (fnX name qual params body scope clos .none .none doc ((C.mg "__name__").getD .none) none cv ctv))) (λb o e=>Heap.get?_push_of_some _ (hk b o e)) htk
  have hrec:s.heap.CodeRec cv qual:=by
   rcases(hT _ hq).2 with q|⟨cv',q1,q2⟩
   ·rw[hc]at q;cases q
   ·rw[hc]at q1;cases q1;exact q2
  exact⟨_,h'.objs.size,doc,_,cv,ctv,rfl,L',a',aK hA sz,hA.inv.nw sz,Heap.get?_push_size _ rfl,(hrec.keeps hk).push _⟩
theorem xo(x:CK C){body:Expr}(hA:At C W s)(hcl:closureFor scope env=pure clos)(hge0:env.globals=mainGlobals)(hcode:env.code = .ref 104)(hq:(pos,qual)∈C.places)(hu:∀q∈C.places,(q.1.line=pos.line∧q.1.col=pos.col)→q=(pos,qual)):
  wpAny (model C.prog C.w) A (makeFunction name qual params (.expr body) scope env [] [] [] pos firstLine) (λv s'=>∃W' rf fd,v = .ref rf∧Le C W W'∧At C W' s'∧W.h.get? rf=none∧Nw C rf∧W'.h.get? rf=some (D9 fd)) E s:=by
 have hC:=x.ok
 obtain⟨ps,hP,ht,hT⟩:=hA.inv.tab
 refine wpAny_with_toks (Nat.le_refl s.toks) ?_
 cases hc:codeAmong pos ps.toList with
 | none=>
  refine kla_makeFunction hcl hge0 (hA.gns hC).1 hcode (x.codeHd hA) hP ht hc hC.gP (x.batNow hA) λc' ctv h' tk hx h1 h2 hr hp htk=>?_
  obtain⟨a',L'⟩:=hA.grow x hu hP ht hT hc hx hr hp (o:=kla_obj name qual params body scope clos ((C.mg "__name__").getD .none) c' ctv) htk
  have sz:s.heap.objs.size≤h'.objs.size:=by omega
  exact⟨_,h'.objs.size,_,rfl,L',a',aK hA sz,hA.inv.nw sz,Heap.get?_push_size _ rfl⟩
 | some cv=>
  refine kla_makeFunctionHit hcl hge0 (hA.gns hC).1 hcode (x.codeHd hA) hP ht hc (x.batNow hA) λctv h' tk hk sz htk=>?_
  obtain⟨a',L'⟩:=hA.keepW (h':=h'.push (D9 (kla_fn name qual params body scope clos ((C.mg "__name__").getD .none) cv ctv))) (λb o e=>Heap.get?_push_of_some _ (hk b o e)) htk
  exact⟨_,h'.objs.size,_,rfl,L',a',aK hA sz,hA.inv.nw sz,Heap.get?_push_size _ rfl⟩
end
theorem CK.plR{C:Cx}(x:CK C):(oE,Be)∈C.places∧(∀q∈C.places,(q.1.line=oE.line∧q.1.col=oE.col)→q=(oE,Be))∧(kJ,wW)∈C.places∧∀q∈C.places,(q.1.line=kJ.line∧q.1.col=kJ.col)→q=(kJ,wW):=by
 rw[x.pl]
 refine⟨.head _,λq hq=>?_,.tail _ (.head _),λq hq=>?_⟩
 ·rcases List.mem_cons.mp hq with rfl|hq
  ·exact λ_=>rfl
  ·rcases List.mem_cons.mp hq with rfl|hq
   ·intro h;exact absurd h (by decide)
   ·cases hq
 ·rcases List.mem_cons.mp hq with rfl|hq
  ·intro h;exact absurd h (by decide)
  ·rcases List.mem_cons.mp hq with rfl|hq
   ·exact λ_=>rfl
   ·cases hq
theorem vA{n:Nat}{A:Around}{c:Addr}{vs:List Value}(h:bl (n+1) A):bl n (A.under (.builtin "type.__call__" ⟨.ref c::vs,[]⟩)):=by
 have hu:(Code.builtin "type.__call__" ⟨.ref c::vs,[]⟩).cUnits≤20:=by
  first|decide|(simp[Code.cUnits,Code.frames,Code.isFrame])
 refine⟨h.1,?_,?_⟩
 ·have:=h.2.1;show A.depth+1+n≤990;omega
 ·have:=h.2.2;show A.units+(Code.builtin "type.__call__" ⟨.ref c::vs,[]⟩).cUnits+20*n≤9800;omega
theorem iV{h:Heap}{a b:Addr}{o:Obj}(h1:h.get? a=none)(h2:h.get? b=some o):a≠b:=by
 rintro rfl;rw[h1]at h2;cases h2
section
variable{C:Cx}{S:Addr→Prop}{W:Wd}{s:Shared}{A:Around}{E:Value→Shared→Prop}
def By(C:Cx)(S:Addr→Prop)(W:Wd)(page:Str)(v:Value)(s':Shared):Prop:=∃W' xa d f fx rf cp ca al pb,v = .ref xa∧Le C W W'∧At C W' s'∧eK C (aM S [d,pb,al]) W' page xa d f fx rf cp ca al∧
 bS C (aM S [d,pb,al]) W' ⟨page,0,1,[]⟩ d pb al f∧W.h.get? d=none∧W.h.get? pb=none∧W.h.get? al=none∧W.h.get? xa=none
theorem xp(x:CK C){page:Str}{t:Tok}(hgp:i5 W t (.str true page))(hA:At C W s)(hS:SX C S W.h)(hR:bl 4 A):
  wpAny (model C.prog C.w) A (call (.ref 105) [.str page t]) (By C S W page) E s:=by
 have hC:=x.ok
 have hL:=uk hC x.bis 0
 refine wpAny_call (xm hC (Av x) rfl (by decide) (λy hy=>?_) rfl hA hS hR λenv ae aj mm vB hmm en b6=>?_)
 ·rcases List.mem_cons.mp hy with rfl|hy
  ·rfl
  ·cases hy
 have own:bv C qW vB env:=en.own
 have ag:Ag qW env:=en.ag
 have ko:∀y,env.kindOf y=qW.lookup y:=en.ko
 have ceq:env.cells=cellsFrom (env.locals+1) qW []:=en.ceq
 have code:env.code = .ref 104:=en.code
 have qual:env.qual=nm "_law_lexer" ++ ".<locals>." :=en.qual
 have m1:mm (nm "page")=some (.str page t):=hmm _ _ (.head _)
 have hSP:∀b,b=C.P→vB b:=λb h=>en.sup _ (h▸hS.1)
 obtain⟨p1,p2,p3,p4⟩:=x.plR
 refine wpAny_execs_cons (wpAny_Assign_Name ?_ rfl)
 rw[arm_eval_List]
 refine wpAny_bind (wpAny_standAt (wpAny_bind ?_))
 rw[aA rfl]
 have Bw:bG C TT qW vB aj env mm []:=⟨en.fr,ag,.nil⟩
 refine Calls.spliced_cons (wpAny_mono ((ba hL az 2).1 qW _ (.const (.int true 0)) [] (.int true 0) _ _ _ _ _ _ _ (.int) rfl (b6.le (Nat.zero_le _)).low en.at' en.sx Bw) (λv ak ⟨W₂,an,au,bE⟩=>?_) λ_ _ x=>x)
 obtain⟨t0,rfl,_⟩:=bE
 refine Calls.spliced_nil (wpAny_newObj_type ?_ (by size_fits))
 have hal:(ak.heap.push { cls:=.type "list",dict:=none,data:=.seq ([Value.int 0 t0]:List Value).toArray }).PlainList ak.heap.objs.size #[.int 0 t0]:=⟨_,Heap.get?_push_size _ rfl⟩
 obtain⟨aO,aD⟩:=au.keepW (bt ak.heap { cls:=.type "list",dict:=none,data:=.seq ([Value.int 0 t0]:List Value).toArray }) (Nat.le_refl ak.toks)
 have nal:Nw C ak.heap.objs.size:=au.inv.nw (Nat.le_refl _)
 have fal:=aK au (Nat.le_refl ak.heap.objs.size)
 generalize ak.heap.objs.size=al at hal nal fal ⊢
 have d6:=(en.fr.ext an.ext).ext aD.ext
 refine wpAny_mono (b9 (x:=nm "at") own hC aO d6 rfl) (λ_ cq ⟨aB,aU,bH,ph⟩=>?_) λ_ _ x=>x
 dsimp only
 have nk:∀y c,env.cells.lookup y=some c→Nw C c∧W.h.get? c=none:=en.cells
 have ls:∀{b:Addr} {V:Wd},cU qW env b→V.h.get? b=none→(∃o,V.h.get? b=some o)→False:=λ_ h1 ⟨o,h2⟩=>by rw[h1]at h2;cases h2
 have alm:¬cU qW env al:=λq=>by
  obtain⟨o,ho⟩:=(en.fr.ext an.ext).there own q
  rw[fal]at ho;cases ho
 have io:aB.h.PlainList al #[.int 0 t0]:=aE hal aU.ext alm
 have hqn:qualnameIn env (nm "_law_read_on") (nm "_law_read_on")=Be:=by unfold qualnameIn;rw[ko,qual];rfl
 refine wpAny_execs_cons (nestDef_K rfl rfl rfl ?_)
 erw [hqn]
 refine wpAny_mono (xn x bH (y4 (p:=C.w.params) ceq) en.fr.glob code p1 p2) (λv cu ⟨dI,rf,doc,pm,cv,ctv,ev,bI,dJ,frf,nrf,hrf,crf⟩=>?_) λ_ _ x=>x
 subst ev
 have lE:=ph.ext bI.ext
 refine wpAny_mono (b9 (x:=nm "_law_read_on") own hC dJ lE rfl) (λ_ dp ⟨cx,cY,eG,jW⟩=>?_) λ_ _ x=>x
 dsimp only
 have rfm:¬cU qW env rf:=λq=>ls q frf (ph.there own q)
 have s9:=cY.ext.ex rfm hrf nofun
 have Bz:=cY.cr _ _ (by decide) crf
 have hql:env.qual ++ "<lambda>" = wW:=by rw[qual];rfl
 refine wpAny_execs_cons (wpAny_Assign_Name (kla_eval rfl ?_))
 erw [hql]
 refine wpAny_mono (xo x eG (clos:=[]) rfl en.fr.glob code p3 p4) (λv qO ⟨lG,f,fd,ev,cM,fL,ff,nf,hf⟩=>?_) λ_ _ x=>x
 subst ev
 have sU:=jW.ext cM.ext
 refine wpAny_mono (b9 (x:=nm "stream") own hC fL sU rfl) (λ_ kH ⟨eA,eZ,fK,vq⟩=>?_) λ_ _ x=>x
 dsimp only
 have fm:¬cU qW env f:=λq=>ls q ff (jW.there own q)
 have Dj:=eZ.ext.ex fm hf nofun
 have v1:bM (bM (bM mm (nm "at") (.ref al)) (nm "_law_read_on") (.ref rf)) (nm "stream") (.ref f) (nm "_law_read_on")=some (.ref rf):=cA (by decide) (cD ..)
 have v2:bM (bM (bM mm (nm "at") (.ref al)) (nm "_law_read_on") (.ref rf)) (nm "stream") (.ref f) (nm "stream")=some (.ref f):=cD ..
 have v3:bM (bM (bM mm (nm "at") (.ref al)) (nm "_law_read_on") (.ref rf)) (nm "stream") (.ref f) (nm "at")=some (.ref al):=cA (by decide) (cA (by decide) (cD ..))
 have v4:bM (bM (bM mm (nm "at") (.ref al)) (nm "_law_read_on") (.ref rf)) (nm "stream") (.ref f) (nm "page")=some (.str page t):=cA (by decide) (cA (by decide) (cA (by decide) m1))
 generalize bM (bM (bM mm (nm "at") (.ref al)) (nm "_law_read_on") (.ref rf)) (nm "stream") (.ref f)=qG at vq v1 v2 v3 v4
 refine wpAny_execs_cons (plainObj_wpAny_Assign_Attribute (wpAny_Name (bj fK.h vq (ag.v (nm "_law_read_on") rfl) (by decide) v1 (wpAny_Name (bj fK.h vq (ag.v (nm "stream") rfl) (by decide) v2 ?_) (by decide))) (by decide)))
 have pu:=Dj;rw[fK.h]at pu
 refine Bd pu rfl rfl rfl λh' tk htk hg hns hk=>?_
 have nfx:Nw C kH.heap.objs.size:=fK.inv.nw (Nat.le_refl _)
 have ffx:=aK fK (Nat.le_refl kH.heap.objs.size)
 generalize kH.heap.objs.size=fx at hg hns nfx ffx
 have ndf:oZ kH.heap f:=λo vs q t' e1 e2 _=>by rw[pu]at e1;cases e1;cases e2
 obtain⟨kL,tc⟩:=fK.but hC (X:=(· = f)) (λb hb=>hb▸nf) (λb hb=>hb▸⟨ndf,λ_=>.inl ⟨_,pu,nofun⟩⟩) (λb o n e=>hk b o n e) htk
 dsimp only
 have nfree:∀y c,(env.kindOf y=some .cell∨env.kindOf y=some .free)→env.cells.lookup y=some c→cU qW env c:=λy c hk hc=>by
  refine .inr ⟨y,?_,hc⟩
  rw[ko]at hk
  refine hk.elim id λq=>?_
  have:=mem_of_lookup q;simp[qW]at this
 have y5:ay C env h' qG:=vq.leX' tc (λq=>fm (.inl q.symm)) (λy c hk hc q=>fm (q▸nfree y c hk hc))
 have fw:∀b,cU qW env b→W.h.get? b=none:=λb hb=>by
  rcases hb with rfl|⟨y,_,hc⟩
  ·exact en.frl
  ·exact(nk y b hc).2
 have LA:aZ (λb=>b=C.P) W aB:=(((en.le.trans an).trans aD).leX (X:=λb=>b=C.P) rfl).fresh aU λb hb=>.inr (fw b hb)
 have LB:aZ (λb=>b=C.P) W cx:=(LA.trans (bI.leX (X:=λb=>b=C.P) rfl)).fresh cY λb hb=>.inr (fw b hb)
 have LC:aZ (λb=>b=C.P) W eA:=(LB.trans (cM.leX (X:=λb=>b=C.P) rfl)).fresh eZ λb hb=>.inr (fw b hb)
 have back:∀{V:Wd} {b:Addr},aZ (λb=>b=C.P) W V→V.h.get? b=none→b≠C.P→W.h.get? b=none:=λ{V b} L e n=>by
  cases q:W.h.get? b with
  | none=>rfl
  | some o=>obtain⟨_,e',_⟩:=L.ext _ _ n q;rw[e']at e;cases e
 have LD:aZ (λb=>b=C.P) W { eA with h:=h' }:=LC.fresh tc λb hb=>.inr (hb▸back LB ff (nf.nP hC))
 have y6:∃o,aB.h.get? al=some o:=let ⟨n,e⟩:=io;⟨_,e⟩
 have ut:eA.h.PlainList al #[.int 0 t0]:=by
  have e5:=aE io bI.ext (nal.nP hC)
  have e6:=aE e5 cY.ext alm
  have e7:=aE e6 cM.ext (nal.nP hC)
  exact aE e7 eZ.ext alm
 have rf_al:rf≠al:=λq=>by obtain⟨o,e⟩:=y6;rw[←q,frf]at e;cases e
 have f_al:f≠al:=λq=>by
  obtain⟨n,this⟩:=aE (aE io bI.ext (nal.nP hC)) cY.ext alm
  rw[←q,ff]at this;cases this
 have fx_al:fx≠al:=λq=>by obtain⟨n,e⟩:=ut;rw[←q,ffx]at e;cases e
 have rf_f:rf≠f:=λq=>by rw[q,ff]at s9;cases s9
 have BA:=eZ.ext.ex rfm (cM.ext.ex (nrf.nP hC) s9 nofun) nofun
 have BB:=eZ.cr _ _ (by decide) (cM.cr _ _ (by decide) Bz)
 have pv:h'.get? rf=some _:=tc.ext.ex rf_f BA nofun
 have BC:h'.CodeRec cv Be:=tc.cr _ _ (by decide) BB
 have BD:h'.PlainList al #[.int 0 t0]:=aE ut tc.ext f_al.symm
 have hcls:C.mg (nm "_netrclex")=some (.ref 94):=mg_of x.kin hC.g (by rfl)
 have EQ:bG C TT qW S { eA with h:=h' } env qG []:=⟨y5,ag,.nil⟩
 refine wpAny_execs_cons (wpAny_Return_some (wpAny_Call_NameR (wpAny_Name (md hC kL EQ (x:=nm "_netrclex") rfl hcls ?_) (by decide))))
 refine callWith_K (K:=KK C.w.params) (h₀:=C.base) x.kin rfl ?_
 rw[aA rfl]
 refine Calls.spliced_cons (wpAny_Name (bj kL.h y5 (ag.v (nm "stream") rfl) (by decide) v2 (Calls.spliced_nil ⟨x.now kL,wpAny_call ?_⟩)) (by decide))
 refine make_core (makes_of (x.now kL) rfl) (looks_findIn (x.now kL) (Bj _)) (λself=>bind_fn (x.now kL) self (vm _).1) (.inl rfl) ?_
 obtain⟨pw,j3⟩:=kL.keepW (h':=(h'.push emptyDict).push (instObj 94 h'.objs.size)) (λb o e=>Heap.get?_push_of_some _ (Heap.get?_push_of_some _ e)) (Nat.le_refl tk)
 have hi:((h'.push emptyDict).push (instObj 94 h'.objs.size)).get? (h'.objs.size+1)=some (instObj 94 h'.objs.size):=by heap_get
 have hdd:((h'.push emptyDict).push (instObj 94 h'.objs.size)).get? h'.objs.size=some emptyDict:=by heap_get
 have nd:Nw C h'.objs.size:=kL.inv.nw (Nat.le_refl _)
 have nx:Nw C (h'.objs.size+1):=kL.inv.nw (Nat.le_succ _)
 have fd9:=aK kL (Nat.le_refl h'.objs.size)
 have fx9:=aK kL (Nat.le_succ h'.objs.size)
 have LE:=LD.trans (j3.leX (X:=λb=>b=C.P) rfl)
 have uu:SX C S ((h'.push emptyDict).push (instObj 94 h'.objs.size)):=hS.leX LE λb hb _=>hb▸gK hC pw
 refine codeAny_mono (y3 (E:=i6) x pw uu hi hdd nd (nx.nP hC) (Nat.succ_ne_self _) (vA (b6.le (by decide):bl 2 (A.deeper env)))) λr s' q=>?_
 rcases r with e|(_|_|_|v)<;>try exact q.elim
 obtain⟨rfl,Wf,slf,t0',t1',t2',t3',tl,tw,pb,Lf,af,fpb,npb,hpb,hdf⟩:=q
 refine⟨rfl,?_⟩
 have gi:∀{b:Addr} {o:Obj},h'.get? b=some o→b≠h'.objs.size:=λe=>Nat.ne_of_lt (Heap.lt_size e)
 generalize hdx:h'.objs.size=d at hi hdd nd nx fd9 fx9 fpb uu Lf hdf j3 LE pw gi
 clear hdx
 have LF:aZ (λb=>b=C.P) W Wf:=LE.fresh Lf λb hb=>hb.elim .inl λh=>.inr (h▸back LD fd9 (nd.nP hC))
 have up:Kp (λb=>b=C.P∨b=d) h' Wf.h:=(j3.ext.sub λ_ q=>.inl q).trans Lf.ext
 have nn:∀{b:Addr},b≠C.P→b≠d→¬(b=C.P∨b=d):=λn1 n2 q=>q.elim n1 n2
 have notS:∀{b:Addr},W.h.get? b=none→¬S b:=λe hb=>by obtain⟨o,ho⟩:=hS.2 _ hb;rw[e]at ho;cases ho
 obtain⟨cp,c1,c2,c3⟩:=y5.cell (nm "page") (.inl (by rw[ko];rfl))
 obtain⟨ca,d1,d2,d3⟩:=y5.cell (nm "at") (.inl (by rw[ko];rfl))
 rw[v4]at c2
 rw[v3]at d2
 have hcp:ca=env.locals+1+1∧cp=env.locals+1:=by
  rw[ceq]at c1 d1
  exact⟨Option.some.inj (d1.symm.trans rfl),Option.some.inj (c1.symm.trans rfl)⟩
 have cpM:cU qW env cp:=.inr ⟨_,rfl,c1⟩
 have caM:cU qW env ca:=.inr ⟨_,rfl,d1⟩
 have fcp:=fw _ cpM
 have fca:=fw _ caM
 obtain⟨ocp,ecp,rcp⟩:=c2
 obtain⟨oca,eca,rca⟩:=d2
 obtain⟨ofx,esx,epx,efx,rfx⟩:=hns
 obtain⟨nal9,eal⟩:=BD
 have nP:∀{b:Addr},Nw C b→b≠C.P:=λh=>h.nP hC
 have pbne:∀{b:Addr} {o:Obj},h'.get? b=some o→b≠C.P→b≠pb:=λe n=>let ⟨_,e',_⟩:=j3.ext _ _ n e;(iV fpb e').symm
 have pbd:pb≠d:=iV fpb hdd
 have pbx:pb≠d+1:=iV fpb hi
 have fal9:W.h.get? al=none:=by
  cases q:W.h.get? al with
  | none=>rfl
  | some o=>obtain⟨_,this,_⟩:=(en.le.trans an).ext _ _ (nal.nP hC) q;rw[fal]at this;cases this
 have ff9:W.h.get? f=none:=back LB ff (nf.nP hC)
 have ffx9:W.h.get? fx=none:=back LC ffx (nfx.nP hC)
 have frf9:W.h.get? rf=none:=back LA frf (nrf.nP hC)
 have fd0:W.h.get? d=none:=back LD fd9 (nd.nP hC)
 have fx0:W.h.get? (d+1)=none:=back LD fx9 (nx.nP hC)
 have fpb0:W.h.get? pb=none:=back LE fpb (npb.nP hC)
 have cpal:cp≠al:=λq=>alm (q▸cpM)
 have caal:ca≠al:=λq=>alm (q▸caM)
 have xal:d+1≠al:=iV fx9 eal
 have S3:∀{b:Addr},W.h.get? b=none→b≠d→b≠pb→b≠al→¬aM S [d,pb,al] b:=λe n1 n2 n3 q=>by
  rcases q with q|q
  ·exact notS e q
  ·simp at q;rcases q with q|q|q
   ·exact n1 q
   ·exact n2 q
   ·exact n3 q
 refine⟨Wf,d+1,d,f,fx,rf,cp,ca,al,pb,rfl,⟨LF.ext,LF.k,LF.g,LF.cr,LF.gn⟩,af,?_,?_,fd0,fpb0,fal9,fx0⟩
 ·refine⟨⟨S3 fx0 (Nat.succ_ne_self _) pbx.symm xal,S3 ff9 (gi hg) (pbne hg (nf.nP hC)) f_al,S3 ffx9 (gi efx) (pbne efx (nfx.nP hC)) fx_al,S3 frf9 (gi pv) (pbne pv (nrf.nP hC)) rf_al,S3 fcp (gi ecp) (pbne ecp c3) cpal,S3 fca (gi eca) (pbne eca d3) caal⟩,?_,?_,?_,?_,?_,?_⟩
  ·exact Lf.ext.ex (λq=>q.elim (nx.nP hC) (Nat.succ_ne_self _)) hi nofun
  ·exact⟨_,_,up.ex (nn (nf.nP hC) (gi hg)) hg nofun,rfl,rfl,rfl⟩
  ·exact⟨_,jH ⟨ofx,esx,epx,efx,rfx⟩ up (nn (nfx.nP hC) (gi efx)),if_pos rfl⟩
  ·refine⟨_,Be,doc,pm,cv,ctv,up.ex (nn (nrf.nP hC) (gi pv)) pv nofun,rfl,?_,Lf.cr _ _ (by decide) (j3.cr _ _ (by decide) BC),by decide⟩
   rw[hcp.1,hcp.2]
   rfl
  ·exact⟨t,cN ⟨ocp,ecp,rcp⟩ up (nn c3 (gi ecp)),⟨hgp.1,Nat.lt_of_lt_of_le hgp.2.1 LF.k,(LF.g t hgp.2.1).trans hgp.2.2⟩⟩
  ·exact cN ⟨oca,eca,rca⟩ up (nn d3 (gi eca))
 ·refine⟨⟨slf,4,t0',t1',t2',t3',tl,tw,hdf⟩,⟨#[],hpb,rfl⟩,⟨t0,aE ⟨nal9,eal⟩ up (nn (nal.nP hC) (gi eal))⟩,⟨nd,npb,nal⟩,⟨pbd.symm,(gi eal).symm,(pbne eal (nal.nP hC)).symm⟩⟩
end
structure LA where
 xa:Addr
 d:Addr
 f:Addr
 fx:Addr
 rf:Addr
 cp:Addr
 ca:Addr
 al:Addr
 pb:Addr
def bT(a:LA):Ob→Addr→Prop
 | .list _,b=>a.pb=b
 | .lex _,b=>a.pb=b∨a.d=b∨a.al=b
def hid(ab:Addr→Prop)(ad:Nat→LA)(own:List (Nat×Ob)):Addr→Prop:=λb=>ab b∨∃i o,own.lookup i=some o∧bT (ad i) o b
def ZZ(C:Cx)(K:Kd)(env:Env)(ad:Nat→LA)(own:List (Nat×Ob)):Addr→Prop:=λb=>PM C K env b∨∃i o,own.lookup i=some o∧bT (ad i) o b
structure SI(C:Cx)(T:List Str)(K:Kd)(ab:Addr→Prop)(W:Wd)(env:Env)(m:Str→Option Value)(ad:Nat→LA)(st:St):Prop where
 sx:SX C (hid ab ad st.own) W.h
 fr:ay C env W.h m
 vars:bO T (hid ab ad st.own) W m st.me
 ls:∀i l,st.own.lookup i=some (.list l)→∃x items,T[i]?=some x∧cK K x=true∧m x=some (.ref (ad i).pb)∧Nw C (ad i).pb∧W.h.PlainList (ad i).pb items∧av (hid ab ad st.own) W l items.toList
 lx:∀i L,st.own.lookup i=some (.lex L)→∃x,T[i]?=some x∧cK K x=true∧m x=some (.ref (ad i).xa)∧
  eK C (hid ab ad st.own) W L.page (ad i).xa (ad i).d (ad i).f (ad i).fx (ad i).rf (ad i).cp (ad i).ca (ad i).al∧bS C (hid ab ad st.own) W L (ad i).d (ad i).pb (ad i).al (ad i).f
 inj:∀i j o o' b,st.own.lookup i=some o→st.own.lookup j=some o'→bT (ad i) o b→bT (ad j) o' b→i=j
 out:∀i o b,st.own.lookup i=some o→bT (ad i) o b→¬ab b∧Nw C b∧b≠env.locals∧∀ob,W.h.get? b=some ob→∀v,ob.data ≠ .cell v
 nd:(aS st).Nodup
theorem aa{α:Type}(i:Nat)(d:α):∀(l:List (Nat×α)) (j:Nat),(put i d l).lookup j=if j=i then some d else l.lookup j
 | [],j=>by
  unfold put
  rw[List.lookup_cons]
  by_cases h:j=i
  ·simp[h]
  ·have:(j==i)=false:=by simpa using h
   rw[this,if_neg h]
 | p::r,j=>by
  have ih:=aa i d r j
  obtain⟨k,e⟩:=p
  unfold put
  by_cases hk:k=i
  ·rw[if_pos hk,List.lookup_cons,List.lookup_cons]
   subst hk
   by_cases h:j=k
   ·simp[h]
   ·have:(j==k)=false:=by simpa using h
    simp only[this,if_neg h]
  ·rw[if_neg hk,List.lookup_cons,List.lookup_cons]
   by_cases h:j=k
   ·subst h;simp[hk]
   ·have:(j==k)=false:=by simpa using h
    rw[this];exact ih
theorem mC{α:Type}(i:Nat):∀(l:List (Nat×α)) (j:Nat),(nz i l).lookup j=if j=i then none else l.lookup j
 | [],j=>by simp[nz]
 | p::r,j=>by
  have ih:=mC i r j
  obtain⟨k,e⟩:=p
  unfold nz
  by_cases hk:k=i
  ·rw[if_pos hk,List.lookup_cons,ih]
   subst hk
   by_cases h:j=k
   ·simp[h]
   ·have:(j==k)=false:=by simpa using h
    simp only[this,if_neg h]
  ·rw[if_neg hk,List.lookup_cons,List.lookup_cons]
   by_cases h:j=k
   ·subst h;simp[hk]
   ·have:(j==k)=false:=by simpa using h
    rw[this];exact ih
theorem j4{α:Type}{i:Nat}{d:α}:∀{l:List (Nat×α)},i∈l.map (·.1)→(put i d l).map (·.1)=l.map (·.1)
 | [],h=>by cases h
 | p::r,h=>by
  unfold put
  split
  ·rename_i e;rw[List.map_cons,List.map_cons,e]
  ·rename_i ne
   rw[List.map_cons,List.map_cons]
   rcases List.mem_cons.mp h with q|q
   ·exact absurd q.symm ne
   ·rw[j4 q]
theorem fB{α:Type}{i:Nat}{a:α}:∀{l:List (Nat×α)},l.lookup i=some a→(i,a)∈l
 | [],h=>by cases h
 | p::r,h=>by
  obtain⟨k,b⟩:=p
  rw[List.lookup_cons]at h
  split at h
  ·rename_i q;cases h;rw[beq_iff_eq.mp q];exact .head _
  ·exact .tail _ (fB h)
theorem jz{α:Type}{i:Nat}{a:α}:∀{l:List (Nat×α)},(l.map (·.1)).Nodup→(i,a)∈l→l.lookup i=some a
 | p::r,hn,h=>by
  obtain⟨k,b⟩:=p
  rw[List.map_cons,List.nodup_cons]at hn
  rw[List.lookup_cons]
  rcases List.mem_cons.mp h with e|h
  ·cases e;rw[beq_self_eq_true]
  ·have:i≠k:=λe=>hn.1 (e▸List.mem_map_of_mem (f:=(·.1)) h)
   rw[show(i==k)=false by simpa using this]
   exact jz hn.2 h
theorem dQ{s:St}{i:Nat}{l:Ob}(h:s.own.lookup i=some l):i∈aS s:=List.mem_map_of_mem (f:=(·.1)) (fB h)
theorem fQ{s:St}{i:Nat}{l:List D}(h:dY s i=some l):s.own.lookup i=some (.list l):=by
 unfold dY at h
 split at h
 ·cases h;assumption
 ·cases h
theorem eN{s:St}{i:Nat}{L:a6}(h:dN s i=some L):s.own.lookup i=some (.lex L):=by
 unfold dN at h
 split at h
 ·cases h;assumption
 ·cases h
theorem fC{s:St}(hn:(aS s).Nodup){i:Nat}{o:Ob}(h:(thaw s).own.lookup i=some o):s.own.lookup i=some o∧∃L,o = .lex L:=by
 have:=fB h
 obtain⟨h1,h2⟩:=List.mem_filter.mp this
 refine⟨jz hn h1,?_⟩
 cases o with
 | list l=>cases h2
 | lex L=>exact⟨L,rfl⟩
theorem y7{s:St}(hn:(aS s).Nodup){i:Nat}{d:D}(h:(thaw s).me.lookup i=some d):(∃l,s.own.lookup i=some (.list l)∧d = .list l)∨s.me.lookup i=some d:=by
 unfold thaw at h
 rw[List.lookup_append]at h
 cases e:(s.own.filterMap eE).lookup i with
 | none=>rw[e]at h;exact .inr h
 | some d'=>
  rw[e]at h;cases h
  left
  obtain⟨p,h1,h2⟩:=List.mem_filterMap.mp (fB e)
  obtain⟨j,o⟩:=p
  cases o with
  | list l=>cases h2;exact⟨l,jz hn h1,rfl⟩
  | lex L=>cases h2
theorem qX{S S':Addr→Prop}{W:Wd}:∀{d:D} {v:Value},flat d=true→aN S W d v→aN S' W d v
 | .none,_,_,h=>h
 | .bool _,_,_,h=>h
 | .int _ _,_,_,h=>h
 | .str _ _,_,_,h=>h
section
variable{C:Cx}{T fns:List Str}{F:Nat→List D→Option D}{R n:Nat}{K:Kd}{S ab:Addr→Prop}{W W':Wd}{s:Shared}{env:Env}{m:Str→Option Value}{me:Me}{A:Around}{E:Value→Shared→Prop}{ad:Nat→LA}{st:St}
def Cu(env:Env)(h:Heap)(b:Addr):Prop:=b≠env.locals∧∀ob,h.get? b=some ob→∀v,ob.data ≠ .cell v
theorem NF.e{b:Addr}(h:NF W.h b)(f:ay C env W.h m):Cu env W.h b:=⟨λq=>by
 obtain⟨ml,⟨o,es,ep,ho,hd,r⟩,_⟩:=f.ns
 exact(h o (q▸ho)).1 es ep hd,λo ho v=>(h o ho).2 v⟩
theorem ay.leXe{XX:Addr→Prop}(f:ay C env W.h m)(L:aZ XX W W')(h:∀b,XX b→b=C.P∨Cu env W.h b):ay C env W'.h m where
 kind:=f.kind
 ns:=let ⟨ml,h1,h2⟩:=f.ns
  ⟨ml,jH h1 L.ext (λq=>(h _ q).elim f.nP λz=>z.1 rfl),h2⟩
 nP:=f.nP
 cell:=λx hx=>let ⟨c,h1,h2,h3⟩:=f.cell x hx
  ⟨c,h1,cN h2 L.ext (λq=>(h _ q).elim h3 λz=>let ⟨o,ho,hd⟩:=h2;z.2 o ho _ hd),h3⟩
 glob:=f.glob
 bi:=f.bi
theorem SI.envok(x:SI C T K ab W env m ad st)(hK:Ag K env):bG C T K (hid ab ad st.own) W env m st.me:=⟨x.fr,hK,x.vars⟩
theorem SI.there(x:SI C T K ab W env m ad st){i:Nat}{o:Ob}{b:Addr}(h:st.own.lookup i=some o)(hb:bT (ad i) o b):∃ob,W.h.get? b=some ob:=x.sx.2 b (.inr ⟨i,o,h,hb⟩)
theorem SI.npm(O:bv C K ab env)(hC:C.Ok)(x:SI C T K ab W env m ad st){i:Nat}{o:Ob}{b:Addr}(h:st.own.lookup i=some o)(hb:bT (ad i) o b):¬PM C K env b:=λq=>by
 obtain⟨h1,h2,h3,h4⟩:=x.out i o b h hb
 rcases q with q|q|⟨y,k1,k2⟩
 ·exact h2.nP hC q
 ·exact h3 q
 ·obtain⟨c,e1,⟨o',ho,hd⟩,_⟩:=x.fr.cell y (.inl (O.kc y k1))
  rw[k2]at e1;cases e1
  exact h4 o' ho _ hd
theorem SI.leX{X:Addr→Prop}(x:SI C T K ab W env m ad st)(L:aZ X W W')(h1:∀b,X b→hid ab ad st.own b)(h2:∀b,X b→b=C.P∨Cu env W.h b)(h3:∀i o b,st.own.lookup i=some o→bT (ad i) o b→¬X b)(h4:∀b,X b→∃o,W'.h.get? b=some o):SI C T K ab W' env m ad st where
 sx:=x.sx.leX L λb hb _=>h4 b hb
 fr:=x.fr.leXe L h2
 vars:=λi d h=>let ⟨y,v,e1,e2,e3⟩:=x.vars i d h;⟨y,v,e1,e2,e3.leX L h1⟩
 ls:=λi l h=>let ⟨y,its,e1,e2,e3,e4,e6,e7⟩:=x.ls i l h;⟨y,its,e1,e2,e3,e4,aE e6 L.ext (h3 i _ _ h rfl),e7.leX L h1⟩
 lx:=λi Lx h=>let ⟨y,e1,e2,e3,e4,e5⟩:=x.lx i Lx h;⟨y,e1,e2,e3,e4.leX L h1,e5.leX L h1 (h3 i _ _ h (.inr (.inl rfl))) (h3 i _ _ h (.inl rfl)) (h3 i _ _ h (.inr (.inr rfl)))⟩
 inj:=x.inj
 out:=λi o b h hb=>by
  obtain⟨k1,k2,k3,k4⟩:=x.out i o b h hb
  obtain⟨ob,hob⟩:=x.there h hb
  obtain⟨_,hob',hsm⟩:=L.ext _ _ (h3 i o b h hb) hob
  exact⟨k1,k2,k3,λob' e v=>by rw[hob']at e;cases e;rw[hsm.parts.2.1];exact k4 _ hob v⟩
 nd:=x.nd
theorem fR(hC:C.Ok)(a:At C W s):∃o,W.h.get? C.P=some o:=gK hC a
theorem SI.le(x:SI C T K ab W env m ad st)(hC:C.Ok)(L:Le C W W')(a:At C W' s):SI C T K ab W' env m ad st:=
 x.leX (L.leX (X:=(· = C.P)) rfl) (λb hb=>hb▸x.sx.1) (λb hb=>.inl hb) (λi o b h hb=>(x.out i o b h hb).2.1.nP hC) (λb hb=>hb▸fR hC a)
theorem eK.sub{S S':Addr→Prop}{h:Wd}{page:Str}{xa d f fx rf cp ca al:Addr}(I:eK C S h page xa d f fx rf cp ca al)(k:∀b,S' b→S b):eK C S' h page xa d f fx rf cp ca al:=
 ⟨⟨λq=>I.nS.1 (k _ q),λq=>I.nS.2.1 (k _ q),λq=>I.nS.2.2.1 (k _ q),λq=>I.nS.2.2.2.1 (k _ q),λq=>I.nS.2.2.2.2.1 (k _ q),λq=>I.nS.2.2.2.2.2 (k _ q)⟩,I.inst,I.fo,I.fxo,I.rfo,I.cpo,I.cao⟩
theorem bS.sub{S S':Addr→Prop}{L:a6}{d f al pb:Addr}(M:bS C S W L d pb al f)(k:∀b,S' b→S b):bS C S' W L d pb al f:=
 ⟨M.dict,let ⟨its,h1,h2⟩:=M.pbo;⟨its,h1,av.sub k _ h2⟩,M.alo,M.nw,M.ne⟩
theorem SI.hidT(x:SI C T K ab W env m ad st):∀b,hid ab ad (thaw st).own b→hid ab ad st.own b:=λb hb=>
 hb.imp id λ⟨i,o,h1,h2⟩=>⟨i,o,(fC x.nd h1).1,h2⟩
theorem SI.notT(x:SI C T K ab W env m ad st){i:Nat}{l:List D}(h:st.own.lookup i=some (.list l)):¬hid ab ad (thaw st).own (ad i).pb:=λq=>by
 rcases q with q|⟨j,o,h1,h2⟩
 ·exact(x.out i _ _ h rfl).1 q
 ·obtain⟨h3,L,rfl⟩:=fC x.nd h1
  have:=x.inj i j _ _ _ h h3 rfl h2
  subst this
  rw[h]at h3;cases h3
theorem SI.thaw(x:SI C T K ab W env m ad st)(hS:ab C.P):SI C T K ab W env m ad (thaw st):=by
 have e':=x.hidT
 refine⟨⟨.inl hS,λb hb=>x.sx.2 b (e' b hb)⟩,x.fr,λi d h=>?_,λi l h=>?_,λi L h=>?_,λi j o o' b h1 h2=>x.inj i j o o' b (fC x.nd h1).1 (fC x.nd h2).1,λi o b h1=>x.out i o b (fC x.nd h1).1,?_⟩
 ·rcases y7 x.nd h with⟨l,hl,rfl⟩|h
  ·obtain⟨y,its,e1,e2,e3,e4,e6,e7⟩:=x.ls i l hl
   exact⟨y,_,e1,e3,_,its,rfl,x.notT hl,e6.isList,av.sub e' _ e7⟩
  ·obtain⟨y,v,e1,e2,e3⟩:=x.vars i d h
   exact⟨y,v,e1,e2,aN.sub e' _ e3⟩
 ·obtain⟨_,L,q⟩:=fC x.nd h;cases q
 ·obtain⟨y,e1,e2,e3,e4,e5⟩:=x.lx i L (fC x.nd h).1
  exact⟨y,e1,e2,e3,e4.sub e',e5.sub e'⟩
 ·unfold aS Mine.thaw
  exact(List.filter_sublist.map _).nodup x.nd
inductive mD(F:Nat→List D→Option D)(n:Nat)(e:X)(st:St)(d:D):Prop
 | here:ev F n e st.me=some d→mD F n e st d
 | flat:ev F n e (thaw st).me=some d→flat d=true→mD F n e st d
theorem dR{e:X}{d:D}(h:dF F n e st=some d):mD F n e st d:=by
 unfold dF at h
 split at h
 ·cases h;exact .here (by assumption)
 ·split at h
  ·split at h
   ·cases h;exact .flat (by assumption) (by assumption)
   ·cases h
  ·cases h
theorem vC{e:X}{d:D}{st':St}(h:evS F n e st=some (d,st')):(st'=st∧mD F n e st d)∨(st'=thaw st∧ev F n e (thaw st).me=some d):=by
 unfold evS at h
 split at h
 ·cases h;exact .inl ⟨rfl,dR (by assumption)⟩
 ·split at h
  ·cases h;exact .inr ⟨rfl,by assumption⟩
  ·cases h
theorem gN(hL:Lk C T fns F R)(hT:T.Nodup){v:Expr}{e:X}{d:D}(h:CE T fns K v e)(p:mD F n e st d)(hR:bB C R A)(hA:At C W s)(x:SI C T K ab W env m ad st)(hK:Ag K env)(hS:ab C.P):
  wpAny (model C.prog C.w) A (eval v env) (be C (hid ab ad st.own) W d) E s:=by
 cases p with
 | here e1=>exact(ba hL hT n).1 K v e _ d A s W _ env m E h e1 hR hA x.sx (x.envok hK)
 | flat e1 e2=>
  have x':=x.thaw hS
  exact wpAny_mono ((ba hL hT n).1 K v e _ d A s W _ env m E h e1 hR hA x'.sx (x'.envok hK)) (λu ae ⟨aj,am,aq,bx⟩=>⟨aj,am,aq,qX e2 bx⟩) λ_ _ x=>x
theorem j5(hL:Lk C T fns F R)(hT:T.Nodup){v:Expr}{e:X}{d:D}{b:Bool}(h:CE T fns K v e)(p:mD F n e st d)(hb:aC d=some b)(hR:bB C R A)(hA:At C W s)(x:SI C T K ab W env m ad st)(hK:Ag K env)(hS:ab C.P):
  wpAny (model C.prog C.w) A (isTrue v env (eval v env)) (f7 C W b) E s:=by
 cases p with
 | here e1=>exact(ba hL hT n).2 K v e _ d b A s W _ env m E h e1 hb hR hA x.sx (x.envok hK)
 | flat e1 e2=>
  have x':=x.thaw hS
  exact(ba hL hT n).2 K v e _ d b A s W _ env m E h e1 hb hR hA x'.sx (x'.envok hK)
theorem SI.evS(x:SI C T K ab W env m ad st)(hS:ab C.P){e:X}{d:D}{st':St}(h:evS F n e st=some (d,st')):SI C T K ab W env m ad st'∧(∀b,hid ab ad st'.own b→hid ab ad st.own b)∧mD F n e st' d:=by
 rcases vC h with⟨rfl,p⟩|⟨rfl,p⟩
 ·exact⟨x,λ_ h=>h,p⟩
 ·exact⟨x.thaw hS,x.hidT,.here p⟩
def gQ(C:Cx)(T:List Str)(K:Kd)(ab:Addr→Prop)(W:Wd)(env:Env)(Z H:Addr→Prop):lB→Flow→Shared→Prop
 | .next st',f,s'=>f = .next∧∃W' m' ad',aZ Z W W'∧At C W' s'∧SI C T K ab W' env m' ad' st'∧∀b,hid ab ad' st'.own b→H b∨W.h.get? b=none
 | .ret d,f,s'=>∃v,f = .ret v∧∃W',aZ Z W W'∧At C W' s'∧aN ab W' d v
theorem gQ.trans{aj:Wd}{Z Dk H Dl:Addr→Prop}(L:aZ Z W aj)(hZ:∀b,Dk b→Z b∨W.h.get? b=none)(hH:∀b,Dl b→H b∨W.h.get? b=none)(hZH:∀b,Z b→H b):
  ∀{o:lB} {f:Flow} {s':Shared},gQ C T K ab aj env Dk Dl o f s'→gQ C T K ab W env Z H o f s'
 | .next _,_,_,⟨e,W',m',ad',L',a,x,h⟩=>⟨e,W',m',ad',L.fresh L' hZ,a,x,λb hb=>(h b hb).elim (hH b) λq=>by
   cases e:W.h.get? b with
   | none=>exact .inr rfl
   | some o=>
    by_cases z:Z b
    ·exact .inl (hZH b z)
    ·obtain⟨_,this,_⟩:=L.ext b o z e;rw[q]at this;cases this⟩
 | .ret _,_,_,⟨v,e,W',L',a,r⟩=>⟨v,e,W',L.fresh L' hZ,a,r⟩
theorem ZZ.hid(O:bv C K ab env)(hS:ab C.P){own:List (Nat×Ob)}:∀b,ZZ C K env ad own b→hid ab ad own b:=λb hb=>by
 rcases hb with(h|h)|h
 ·exact .inl (h▸hS)
 ·exact .inl (O.mutS _ h)
 ·exact .inr h
theorem SI.zz{aj:Wd}{Z H:Addr→Prop}(x:SI C T K ab aj env m ad st)(hZ:∀b,PM C K env b→Z b)(hH:∀b,Mine.hid ab ad st.own b→H b∨W.h.get? b=none)(hHZ:∀b,¬ab b→H b→Z b):∀b,ZZ C K env ad st.own b→Z b∨W.h.get? b=none:=λb hb=>by
 rcases hb with h|h
 ·exact .inl (hZ b h)
 ·obtain⟨i,o,hl,hb⟩:=h
  exact(hH _ (.inr ⟨i,o,hl,hb⟩)).imp (hHZ _ (x.out i o b hl hb).1) id
end
section
variable{C:Cx}{T fns:List Str}{F:Nat→List D→Option D}{R n:Nat}{K:Kd}{S ab:Addr→Prop}{W W':Wd}{s:Shared}{env:Env}{m:Str→Option Value}{me:Me}{A:Around}{E:Value→Shared→Prop}{ad:Nat→LA}{st:St}
theorem hid.up{own:List (Nat×Ob)}(O:bv C K ab env):bv C K (hid ab ad own) env:=O.sub λb hb=>.inl hb
theorem kM(hT:T.Nodup){i j:Nat}{x y:Str}(h1:T[i]?=some x)(h2:T[j]?=some y)(h:j≠i):y≠x:=λe=>by
 subst e
 exact h ((List.getElem?_inj (List.getElem?_eq_some_iff.mp h2).1 hT).mp (h2.trans h1.symm))
theorem PM.there(hC:C.Ok)(O:bv C K S env)(f:ay C env W.h m)(a:At C W s):∀b,PM C K env b→∃o,W.h.get? b=some o:=λb hb=>hb.elim (λh=>h▸fR hC a) (f.there O)
theorem SI.set(hC:C.Ok)(hT:T.Nodup)(hS:ab C.P)(O:bv C K ab env)(x:SI C T K ab W env m ad st){W':Wd}{s':Shared}(L:aZ (PM C K env) W W')(a:At C W' s'){i:Nat}{y:Str}{u:Value}{d:D}
  (f:ay C env W'.h (bM m y u)) (hy:T[i]?=some y) (r:aN (hid ab ad st.own) W' d u) (hi:i∉aS st):SI C T K ab W' env (bM m y u) ad ⟨put i d st.me,st.own⟩:=by
 have O':=hid.up (ad:=ad) (own:=st.own) O
 have hX:=PM.sub (C:=C) O' (.inl hS)
 have ne:∀{j:Nat} {o:Ob},st.own.lookup j=some o→j≠i:=λh q=>hi (q▸dQ h)
 have np:∀{j:Nat} {o:Ob} {b:Addr},st.own.lookup j=some o→bT (ad j) o b→¬PM C K env b:=λh hb=>x.npm O hC h hb
 refine⟨x.sx.leX L λb hb _=>PM.there hC O f a b hb,f,λj e h=>?_,λj l h=>?_,λj L1 h=>?_,x.inj,λj o b h hb=>?_,x.nd⟩
 ·rw[aa]at h
  split at h
  ·rename_i q
   cases h;subst q
   exact⟨y,u,hy,by unfold bM;rw[if_pos rfl],r⟩
  ·rename_i q
   obtain⟨z,v,e1,e2,e3⟩:=x.vars j e h
   exact⟨z,v,e1,by unfold bM;rw[if_neg (kM hT hy e1 q)];exact e2,e3.leX L hX⟩
 ·obtain⟨z,its,e1,e2,e3,e4,e6,e7⟩:=x.ls j l h
  exact⟨z,its,e1,e2,by unfold bM;rw[if_neg (kM hT hy e1 (ne h))];exact e3,e4,aE e6 L.ext (np h rfl),e7.leX L hX⟩
 ·obtain⟨z,e1,e2,e3,e4,e5⟩:=x.lx j _ h
  exact⟨z,e1,e2,by unfold bM;rw[if_neg (kM hT hy e1 (ne h))];exact e3,e4.leX L hX,e5.leX L hX (np h (.inr (.inl rfl))) (np h (.inl rfl)) (np h (.inr (.inr rfl)))⟩
 ·obtain⟨k1,k2,k3,k4⟩:=x.out j o b h hb
  obtain⟨ob,hob⟩:=x.there h hb
  obtain⟨_,hob',hsm⟩:=L.ext _ _ (np h hb) hob
  exact⟨k1,k2,k3,λob' e v=>by rw[hob']at e;cases e;rw[hsm.parts.2.1];exact k4 _ hob v⟩
theorem SI.own(hC:C.Ok)(hT:T.Nodup)(hS:ab C.P)(O:bv C K ab env)(x:SI C T K ab W env m ad st){W':Wd}{s':Shared}(L:aZ (PM C K env) W W')(a:At C W' s'){i:Nat}{y:Str}{v:Value}{c:LA}{ob:Ob}
  (hc:∀b,bT c ob b→W.h.get? b=none) (hn:∀b,bT c ob b→Nw C b∧b≠env.locals∧∀o,W'.h.get? b=some o→∀v,o.data ≠ .cell v) (f:ay C env W'.h (bM m y v)) (hy:T[i]?=some y) (hi:i∉aS st) (th:∀b,bT c ob b→∃o,W'.h.get? b=some o)
  (hl:∀S',(∀b,S' b→hid ab ad st.own b∨bT c ob b)→(∀b,hid ab ad st.own b→S' b)→(∀b,bT c ob b→S' b)→match ob with
   | .list ds=>∃its,cK K y=true∧v = .ref c.pb∧W'.h.PlainList c.pb its∧av S' W' ds its.toList
   | .lex L=>cK K y=true∧v = .ref c.xa∧eK C S' W' L.page c.xa c.d c.f c.fx c.rf c.cp c.ca c.al∧bS C S' W' L c.d c.pb c.al c.f) :
  SI C T K ab W' env (bM m y v) (λj=>if j=i then c else ad j) ⟨nz i st.me,(i,ob)::st.own⟩∧∀b,hid ab (λj=>if j=i then c else ad j) ((i,ob)::st.own) b→hid ab ad st.own b∨W.h.get? b=none:=by
 have O':=hid.up (ad:=ad) (own:=st.own) O
 have hX:=PM.sub (C:=C) O' (.inl hS)
 have hin:st.own.lookup i=none:=by
  cases e:st.own.lookup i with
  | none=>rfl
  | some l=>exact absurd (dQ e) hi
 generalize had:(λj=>if j=i then c else ad j)=ad'
 have adi:ad' i=c:=by rw[←had];exact if_pos rfl
 have adj:∀j,j≠i→ad' j=ad j:=λj q=>by rw[←had];exact if_neg q
 have lkj:∀j,j≠i→List.lookup j ((i,ob)::st.own)=st.own.lookup j:=λj q=>by
  rw[List.lookup_cons]
  have q':(j==i)=false:=by simpa using q
  rw[q']
 have lki:List.lookup i ((i,ob)::st.own)=some ob:=by rw[List.lookup_cons,beq_self_eq_true]
 have hu':∀b,hid ab ad' ((i,ob)::st.own) b→hid ab ad st.own b∨bT c ob b:=λb hb=>by
  rcases hb with h|⟨j,l,h1,h2⟩
  ·exact .inl (.inl h)
  ·by_cases q:j=i
   ·subst q;rw[adi]at h2;rw[lki]at h1;cases h1;exact .inr h2
   ·rw[lkj j q]at h1
    rw[adj j q]at h2
    exact .inl (.inr ⟨j,l,h1,h2⟩)
 have hu:∀b,hid ab ad' ((i,ob)::st.own) b→hid ab ad st.own b∨W.h.get? b=none:=λb hb=>(hu' b hb).imp id (hc b)
 have cS:∀b,bT c ob b→¬hid ab ad st.own b:=λb hb q=>by obtain⟨o,ho⟩:=x.sx.2 b q;rw[hc b hb]at ho;cases ho
 have hX':∀b,hid ab ad st.own b→hid ab ad' ((i,ob)::st.own) b:=λb hb=>by
  rcases hb with h|⟨j,l,h1,h2⟩
  ·exact .inl h
  ·have q:j≠i:=λq=>by rw[q,hin]at h1;cases h1
   exact .inr ⟨j,l,by rw[lkj j q];exact h1,by rw[adj j q];exact h2⟩
 have hXc:∀b,bT c ob b→hid ab ad' ((i,ob)::st.own) b:=λb hb=>.inr ⟨i,ob,lki,by rw[adi];exact hb⟩
 have up:∀d v,aN (hid ab ad st.own) W d v→aN (hid ab ad' ((i,ob)::st.own)) W' d v:=λd v h=>
  aN.leX L (λb hb=>hX' b (hX b hb)) (aN.grow hu d h)
 have upL:∀d v,av (hid ab ad st.own) W d v→av (hid ab ad' ((i,ob)::st.own)) W' d v:=λd v h=>
  av.leX L (λb hb=>hX' b (hX b hb)) (av.grow hu d h)
 have np:∀{j:Nat} {o:Ob} {b:Addr},st.own.lookup j=some o→bT (ad j) o b→¬PM C K env b:=λh hb=>x.npm O hC h hb
 have hl':=hl (hid ab ad' ((i,ob)::st.own)) hu' hX' hXc
 refine⟨⟨⟨.inl hS,λb hb=>?_⟩,f,λj e h=>?_,λj l h=>?_,λj L' h=>?_,λj k o o' b h1 h2 e1 e2=>?_,λj o b h hb=>?_,?_⟩,hu⟩
 ·rcases hu' b hb with h|h
  ·exact(x.sx.leX L λb hb _=>PM.there hC O f a b hb).2 b h
  ·exact th b h
 ·rw[mC]at h
  split at h
  ·cases h
  ·rename_i q
   obtain⟨z,v,e1,e2,e3⟩:=x.vars j e h
   exact⟨z,v,e1,by unfold bM;rw[if_neg (kM hT hy e1 q)];exact e2,up _ _ e3⟩
 ·by_cases q:j=i
  ·subst q
   have h:List.lookup j ((j,ob)::st.own)=some (.list l):=h
   rw[lki]at h;cases h
   obtain⟨its,e1,e2,e3,e4⟩:=hl'
   rw[adi]
   exact⟨y,its,hy,e1,by unfold bM;rw[if_pos rfl,e2],(hn _ rfl).1,e3,e4⟩
  ·have h:List.lookup j ((i,ob)::st.own)=some (.list l):=h
   rw[lkj j q]at h
   rw[adj j q]
   obtain⟨z,its,e1,e2,e3,e4,e6,e7⟩:=x.ls j l h
   exact⟨z,its,e1,e2,by unfold bM;rw[if_neg (kM hT hy e1 q)];exact e3,e4,aE e6 L.ext (np h rfl),upL _ _ e7⟩
 ·by_cases q:j=i
  ·subst q
   have h:List.lookup j ((j,ob)::st.own)=some (.lex L'):=h
   rw[lki]at h;cases h
   obtain⟨e1,e2,e3,e4⟩:=hl'
   rw[adi]
   exact⟨y,hy,e1,by unfold bM;rw[if_pos rfl,e2],e3,e4⟩
  ·have h:List.lookup j ((i,ob)::st.own)=some (.lex L'):=h
   rw[lkj j q]at h
   rw[adj j q]
   obtain⟨z,e1,e2,e3,e4,e5⟩:=x.lx j _ h
   have hX2:∀b,PM C K env b→hid ab ad' ((i,ob)::st.own) b:=λb hb=>hX' b (hX b hb)
   have e4':eK C (hid ab ad' ((i,ob)::st.own)) W L'.page (ad j).xa (ad j).d (ad j).f (ad j).fx (ad j).rf (ad j).cp (ad j).ca (ad j).al:=by
    have nn:∀{b:Addr},¬hid ab ad st.own b→(∃o,W.h.get? b=some o)→¬hid ab ad' ((i,ob)::st.own) b:=λn1 ⟨o,ho⟩ q=>by
     rcases hu _ q with q|q
     ·exact n1 q
     ·rw[q]at ho;cases ho
    refine⟨⟨nn e4.nS.1 ⟨_,e4.inst⟩,nn e4.nS.2.1 ?_,nn e4.nS.2.2.1 ?_,nn e4.nS.2.2.2.1 ?_,nn e4.nS.2.2.2.2.1 ?_,nn e4.nS.2.2.2.2.2 ?_⟩,e4.inst,e4.fo,e4.fxo,e4.rfo,e4.cpo,e4.cao⟩
    ·obtain⟨o,_,ho,_⟩:=e4.fo;exact⟨o,ho⟩
    ·obtain⟨_,⟨o,_,_,ho,_⟩,_⟩:=e4.fxo;exact⟨o,ho⟩
    ·obtain⟨o,_,_,_,_,_,ho,_⟩:=e4.rfo;exact⟨o,ho⟩
    ·obtain⟨_,⟨o,ho,_⟩,_⟩:=e4.cpo;exact⟨o,ho⟩
    ·obtain⟨o,ho,_⟩:=e4.cao;exact⟨o,ho⟩
   have e5':bS C (hid ab ad' ((i,ob)::st.own)) W L' (ad j).d (ad j).pb (ad j).al (ad j).f:=⟨e5.dict,let ⟨its,h1,h2⟩:=e5.pbo;⟨its,h1,av.grow hu _ h2⟩,e5.alo,e5.nw,e5.ne⟩
   exact⟨z,e1,e2,by unfold bM;rw[if_neg (kM hT hy e1 q)];exact e3,e4'.leX L hX2,e5'.leX L hX2 (np h (.inr (.inl rfl))) (np h (.inl rfl)) (np h (.inr (.inr rfl)))⟩
 ·have g1:List.lookup j ((i,ob)::st.own)=some o:=h1
  have g2:List.lookup k ((i,ob)::st.own)=some o':=h2
  clear h1 h2
  by_cases q:j=i<;>by_cases q':k=i
  ·rw[q,q']
  ·rw[lkj k q']at g2
   subst q
   rw[lki]at g1;cases g1
   rw[adi]at e1;rw[adj k q']at e2
   exact absurd (.inr ⟨k,o',g2,e2⟩) (cS b e1)
  ·rw[lkj j q]at g1
   subst q'
   rw[lki]at g2;cases g2
   rw[adi]at e2;rw[adj j q]at e1
   exact absurd (.inr ⟨j,o,g1,e1⟩) (cS b e2)
  ·rw[lkj j q]at g1
   rw[lkj k q']at g2
   rw[adj j q]at e1;rw[adj k q']at e2
   exact x.inj j k o o' b g1 g2 e1 e2
 ·have h:List.lookup j ((i,ob)::st.own)=some o:=h
  by_cases q:j=i
  ·subst q
   rw[lki]at h;cases h
   rw[adi]at hb
   exact⟨λq=>cS b hb (.inl q),hn b hb⟩
  ·rw[lkj j q]at h
   rw[adj j q]at hb
   obtain⟨k1,k2,k3,k4⟩:=x.out j o b h hb
   obtain⟨ob',hob⟩:=x.there h hb
   obtain⟨_,hob',hsm⟩:=L.ext _ _ (np h hb) hob
   exact⟨k1,k2,k3,λob'' e v=>by rw[hob']at e;cases e;rw[hsm.parts.2.1];exact k4 _ hob v⟩
 ·show(List.map (·.1) ((i,ob)::st.own)).Nodup
  rw[List.map_cons,List.nodup_cons]
  exact⟨hi,x.nd⟩
def mE:Ob→Ob→Bool
 | .list _,.list _=>true
 | .lex _,.lex _=>true
 | _,_=>false
theorem kN{a:LA}{o o':Ob}{b:Addr}(h:mE o o'=true):bT a o b↔bT a o' b:=by
 cases o<;>cases o'<;>first|exact Iff.rfl|cases h
theorem SI.modO(hC:C.Ok)(x:SI C T K ab W env m ad st){i:Nat}{o o':Ob}(hi:st.own.lookup i=some o)(hk:mE o o'=true){W':Wd}{s':Shared}(a:At C W' s'){X:Addr→Prop}(hXo:∀b,X b→b=C.P∨bT (ad i) o b)(L:aZ X W W')(th:∀b,bT (ad i) o b→∃ob,W'.h.get? b=some ob∧∀v,ob.data ≠ .cell v)
  (hl:match o' with
   | .list ds=>∃its,W'.h.PlainList (ad i).pb its∧av (hid ab ad st.own) W' ds its.toList
   | .lex L'=>eK C (hid ab ad st.own) W' L'.page (ad i).xa (ad i).d (ad i).f (ad i).fx (ad i).rf (ad i).cp (ad i).ca (ad i).al∧bS C (hid ab ad st.own) W' L' (ad i).d (ad i).pb (ad i).al (ad i).f) :
  SI C T K ab W' env m ad ⟨st.me,put i o' st.own⟩∧∀b,hid ab ad (put i o' st.own) b↔hid ab ad st.own b:=by
 have hX:∀b,X b→hid ab ad st.own b:=λb hb=>(hXo b hb).elim (λh=>h▸x.sx.1) λh=>.inr ⟨i,o,hi,h⟩
 have hh:∀b,hid ab ad (put i o' st.own) b↔hid ab ad st.own b:=λb=>by
  constructor
  ·rintro(h|⟨j,k,h1,h2⟩)
   ·exact .inl h
   ·rw[aa]at h1
    split at h1
    ·rename_i q;cases h1;subst q;exact .inr ⟨j,o,hi,(kN hk).mpr h2⟩
    ·exact .inr ⟨j,k,h1,h2⟩
  ·rintro(h|⟨j,k,h1,h2⟩)
   ·exact .inl h
   ·by_cases q:j=i
    ·subst q;rw[hi]at h1;cases h1;exact .inr ⟨j,o',by rw[aa,if_pos rfl],(kN hk).mp h2⟩
    ·exact .inr ⟨j,k,by rw[aa,if_neg q];exact h1,h2⟩
 have dn:∀b,hid ab ad (put i o' st.own) b→hid ab ad st.own b:=λb=>(hh b).mp
 have nX:∀{j:Nat} {k:Ob} {b:Addr},st.own.lookup j=some k→j≠i→bT (ad j) k b→¬X b:=λh q hb w=>(hXo _ w).elim (λe=>(x.out _ _ _ h hb).2.1.nP hC e) λw=>q (x.inj _ i _ _ _ h hi hb w)
 have key:∀{j:Nat} {a:Ob} {b:Addr},(put i o' st.own).lookup j=some a→bT (ad j) a b→∃a',st.own.lookup j=some a'∧bT (ad j) a' b:=λ{j a b} h hb=>by
  rw[aa]at h
  split at h
  ·rename_i q;cases h;subst q;exact⟨o,hi,(kN hk).mpr hb⟩
  ·exact⟨a,h,hb⟩
 refine⟨⟨⟨.inl ((x.sx.1).elim id λ⟨j,k,h1,h2⟩=>absurd rfl ((x.out j k _ h1 h2).2.1.nP hC)),λb hb=>?_⟩,x.fr.leXe L (λb hb=>(hXo b hb).imp id λhb=>?_),λj e h=>?_,λj k h=>?_,λj k h=>?_,λj k a b c h1 h2 e1 e2=>?_,λj k b h hb=>?_,?_⟩,hh⟩
 ·exact(x.sx.leX L λb hb _=>(hXo b hb).elim (λh=>h▸fR hC a) λh=>let ⟨ob,e,_⟩:=th b h;⟨ob,e⟩).2 b (dn b hb)
 ·obtain⟨_,_,k3,k4⟩:=x.out i o b hi hb;exact⟨k3,k4⟩
 ·obtain⟨z,v,e1,e2,e3⟩:=x.vars j e h
  exact⟨z,v,e1,e2,aN.sub dn _ (e3.leX L hX)⟩
 ·have h:(put i o' st.own).lookup j=some (.list k):=h
  rw[aa]at h
  split at h
  ·rename_i q
   cases h;subst q
   cases o with
   | lex=>cases hk
   | list l=>
    obtain⟨z,its',e1,e2,e3,e4,e6,e7⟩:=x.ls j l hi
    obtain⟨its,h1,h2⟩:=hl
    exact⟨z,its,e1,e2,e3,e4,h1,av.sub dn _ h2⟩
  ·rename_i q
   obtain⟨z,its',e1,e2,e3,e4,e6,e7⟩:=x.ls j k h
   exact⟨z,its',e1,e2,e3,e4,aE e6 L.ext (nX h q rfl),av.sub dn _ (e7.leX L hX)⟩
 ·have h:(put i o' st.own).lookup j=some (.lex k):=h
  rw[aa]at h
  split at h
  ·rename_i q
   cases h;subst q
   cases o with
   | list=>cases hk
   | lex l=>
    obtain⟨z,e1,e2,e3,e4,e5⟩:=x.lx j l hi
    exact⟨z,e1,e2,e3,hl.1.sub dn,hl.2.sub dn⟩
  ·rename_i q
   obtain⟨z,e1,e2,e3,e4,e5⟩:=x.lx j k h
   exact⟨z,e1,e2,e3,(e4.leX L hX).sub dn,(e5.leX L hX (nX h q (.inr (.inl rfl))) (nX h q (.inl rfl)) (nX h q (.inr (.inr rfl)))).sub dn⟩
 ·obtain⟨a',h1',e1'⟩:=key h1 e1
  obtain⟨b',h2',e2'⟩:=key h2 e2
  exact x.inj j k a' b' c h1' h2' e1' e2'
 ·obtain⟨k',h',hb'⟩:=key h hb
  obtain⟨k1,k2,k3,k4⟩:=x.out j k' b h' hb'
  refine⟨k1,k2,k3,?_⟩
  by_cases q:j=i
  ·subst q
   rw[hi]at h';cases h'
   obtain⟨ob,e1,e2⟩:=th b hb'
   intro ob' e v;rw[e1]at e;cases e;exact e2 v
  ·obtain⟨ob',hob⟩:=x.there h' hb'
   obtain⟨_,hob',hsm⟩:=L.ext _ _ (nX h' q hb') hob
   intro ob'' e v;rw[hob']at e;cases e;rw[hsm.parts.2.1];exact k4 _ hob v
 ·show(List.map (·.1) (put i o' st.own)).Nodup
  rw[j4 (dQ hi)]
  exact x.nd
end
def SY(C:Cx)(T fns:List Str)(F:Nat→List D→Option D)(R n:Nat):Prop:=
 ∀K y Y st o A s W ab env m ad E,CY T fns K y Y→ex F n Y st=some o→bB C R A→At C W s→SI C T K ab W env m ad st→Ag K env→bv C K ab env→ab C.P→
  wpAny (model C.prog C.w) A (exec y env) (gQ C T K ab W env (ZZ C K env ad st.own) (hid ab ad st.own) o) E s
def y8(C:Cx)(T fns:List Str)(F:Nat→List D→Option D)(R n:Nat):Prop:=
 ∀K ys Ys st o A s W ab env m ad E,nH T fns K ys Ys→bC F n Ys st=some o→bB C R A→At C W s→SI C T K ab W env m ad st→Ag K env→bv C K ab env→ab C.P→
  wpAny (model C.prog C.w) A (execs ys env) (gQ C T K ab W env (ZZ C K env ad st.own) (hid ab ad st.own) o) E s
section
variable{C:Cx}{T fns:List Str}{F:Nat→List D→Option D}{R n:Nat}{K:Kd}{S ab:Addr→Prop}{W W':Wd}{s:Shared}{env:Env}{m:Str→Option Value}{me:Me}{A:Around}{E:Value→Shared→Prop}{ad:Nat→LA}{st:St}{o:lB}
theorem bN{st:St}{i:Nat}(h:(aS st).contains i=false):i∉aS st:=λq=>by
 rw[List.contains_iff_mem.mpr q]at h;cases h
theorem eB{own:List (Nat×Ob)}:∀b,PM C K env b→ZZ C K env ad own b:=λ_ h=>.inl h
theorem j6{x:Str}(h:cK K x=true):iQ K x=true:=by
 unfold cK at h;unfold iQ
 split at h
 ·rename_i q;rw[q]
 ·rename_i q;rw[q]
 ·cases h
theorem vD(hL:Lk C T fns F R)(hT:T.Nodup){x:Str}{p r:Pos}{v:Expr}{i:Nat}{a:X}(hx:cK K x=true)(hi:T[i]?=some x)(h:CE T fns K v a)(e:ex F (n+1) (.assign i a) st=some o)(hR:bB C R A)(hA:At C W s)(x0:SI C T K ab W env m ad st)(hK:Ag K env)(O:bv C K ab env)(hS:ab C.P):
  wpAny (model C.prog C.w) A (exec (.Assign [.Name x p] v r) env) (gQ C T K ab W env (ZZ C K env ad st.own) (hid ab ad st.own) o) E s:=by
 have hC:=hL.ok
 simp only[ex]at e
 split at e
 ·rename_i d st' he
  split at e
  ·cases e
  ·rename_i hk
   cases e
   obtain⟨x1,hh,pk⟩:=x0.evS hS he
   cases pk with
   | here e1=>
    refine wpAny_mono (kI hL hT (hid.up O) hx h e1 hR hA x1.sx (x1.envok hK)) (λf s' ⟨ef,W',u,L,a',fr,r'⟩=>?_) λ_ _ x=>x
    exact⟨ef,W',_,ad,L.sub eB,a',x1.set hC hT hS O L a' fr hi r' (bN (by simpa using hk)),λb hb=>.inl (hh b hb)⟩
   | flat e1 e2=>
    have xt:=x1.thaw hS
    refine wpAny_mono (kI hL hT (hid.up O) hx h e1 hR hA xt.sx (xt.envok hK)) (λf s' ⟨ef,W',u,L,a',fr,r'⟩=>?_) λ_ _ x=>x
    exact⟨ef,W',_,ad,L.sub eB,a',x1.set hC hT hS O L a' fr hi (qX e2 r') (bN (by simpa using hk)),λb hb=>.inl (hh b hb)⟩
 ·cases e
theorem xq{α β:Type}{f:α→Option β}:∀{l:List α} {r:List β},bn f l=some r→r.length=l.length
 | [],_,h=>by cases h;rfl
 | x::l,r,h=>by
  unfold bn at h
  split at h
  ·split at h
   ·rename_i q
    cases h
    rw[List.length_cons,List.length_cons,xq q]
   ·cases h
  ·cases h
theorem xr(hL:Lk C T fns F R)(hT:T.Nodup){x:Str}{p q r:Pos}{es:List Expr}{i:Nat}{l:List X}(hx:cK K x=true)(hi:T[i]?=some x)(h:CL T fns K es l)(e:ex F (n+1) (.fresh i l) st=some o)(hR:bB C R A)(hA:At C W s)(x0:SI C T K ab W env m ad st)(hK:Ag K env)(O:bv C K ab env)(hS:ab C.P):
  wpAny (model C.prog C.w) A (exec (.Assign [.Name x p] (.List es q) r) env) (gQ C T K ab W env (ZZ C K env ad st.own) (hid ab ad st.own) o) E s:=by
 have hC:=hL.ok
 simp only[ex]at e
 split at e
 ·rename_i ds hds
  split at e
  ·cases e
  ·rename_i hk
   cases e
   rw[Bool.or_eq_true,not_or]at hk
   obtain⟨hk1,hk2⟩:=hk
   have hlen:ds.length≤100000:=by simpa using hk2
   refine wpAny_Assign_Name ?_ rfl
   rw[arm_eval_List]
   refine wpAny_bind (wpAny_standAt (wpAny_bind (gf (ba hL hT n).1 hC q hR es l ds s W _ h hds hA x0.sx (x0.envok hK) λvs ae aj am aq vB bx=>?_)))
   have x1:=x0.le hC am aq
   refine wpAny_newObj_type ?_ (by
    have:=bx.length
    show vs.toArray.size≤sizeLine
    rw[List.size_toArray,this];unfold sizeLine;omega)
   have hc:=aK aq (Nat.le_refl ae.heap.objs.size)
   have hn:Nw C ae.heap.objs.size:=aq.inv.nw (Nat.le_refl _)
   obtain⟨au,an⟩:=aq.keepW (bt _ { cls:=.type "list",dict:=none,data:=.seq vs.toArray }) (Nat.le_refl ae.toks)
   have hpl:(ae.heap.push { cls:=.type "list",dict:=none,data:=.seq vs.toArray }).PlainList ae.heap.objs.size vs.toArray:=⟨_,Heap.get?_push_size _ rfl⟩
   generalize hcc:ae.heap.objs.size=c at hc hn hpl ⊢
   have npm:¬PM C K env c:=λq=>by obtain⟨o,ho⟩:=PM.there hC O x1.fr aq c q;rw[hc]at ho;cases ho
   refine wpAny_mono (b9 (O.sub λb hb=>.inl hb:bv C K (hid ab ad st.own) env) hC au (x1.fr.ext an.ext) hx) (λ_ bF ⟨bf,aD,aO,d6⟩=>?_) λ_ _ x=>x
   have L13:aZ (PM C K env) aj bf:=an.pm.trans (aD.sub λb hb=>.inr hb)
   have te:=aE hpl aD.ext (λq=>npm (.inr q))
   obtain⟨y1,y2⟩:=x1.own hC hT hS O L13 aO (c:=⟨0,0,0,0,0,0,0,0,c⟩) (ob:=.list ds) (λb hb=>hb▸hc) (λb hb=>hb▸⟨hn,λq=>npm (.inr (.inl q)),λo ho v hd=>by obtain⟨k,q⟩:=te;rw[q]at ho;cases ho;cases hd⟩) d6 hi (bN (by simpa using hk1)) (λb hb=>hb▸let ⟨k,q⟩:=te;⟨_,q⟩)
    (λS' d1 d2 d3=>⟨_,hx,rfl,te,av.leX L13 (λb hb=>d2 b (PM.sub (C:=C) (hid.up (ad:=ad) (own:=st.own) O) (.inl hS) b hb)) (av.grow (λb hb=>(d1 b hb).imp id λq=>q▸hc) _ (by simpa using bx))⟩)
   refine⟨rfl,bf,_,_,(am.pm.trans L13).sub eB,aO,y1,λb hb=>(y2 b hb).imp id λq=>?_⟩
   cases e0:W.h.get? b with
   | none=>rfl
   | some o=>
    by_cases z:b=C.P
    ·obtain⟨o',ho'⟩:=fR hC aq;rw[z,ho']at q;cases q
    ·obtain⟨_,this,_⟩:=am.ext b o z e0;rw[q]at this;cases this
 ·cases e
theorem BE(hL:Lk C T fns F R)(hT:T.Nodup){x:Str}{p r:Pos}{v:Expr}{i:Nat}{a:X}(hx:cK K x=true)(hi:T[i]?=some x)(h:CE T fns K v a)(e:ex F (n+1) (.aug i a) st=some o)(hR:bB C R A)(hA:At C W s)(x0:SI C T K ab W env m ad st)(hK:Ag K env)(O:bv C K ab env)(hS:ab C.P):
  wpAny (model C.prog C.w) A (exec (.AugAssign (.Name x p) .Add v r) env) (gQ C T K ab W env (ZZ C K env ad st.own) (hid ab ad st.own) o) E s:=by
 have hC:=hL.ok
 simp only[ex]at e
 split at e
 ·rename_i xd yd h1 h2
  have key:∃z,dm .add xd yd=some z∧(∀l,xd ≠ .list l)∧(aS st).contains i=false∧o = .next ⟨put i z st.me,st.own⟩:=by
   split at e
   ·cases e
   ·rename_i hne hz
    split at e
    ·cases e
    ·rename_i hk
     cases e
     exact⟨_,hz,λl q=>hne l q,by simpa using hk,rfl⟩
   ·cases e
  obtain⟨z,hz,hnl,hk,rfl⟩:=key
  obtain⟨y,ov,e1,e2,e3⟩:=x0.vars i xd h1
  rw[hi]at e1;cases e1
  refine wpAny_AugAssign_Name (bj hA.h x0.fr (hK.v x (j6 hx)) (hL.plain x (List.mem_of_getElem? hi)).2 e2 ?_)
  refine wpAny_mono ((ba hL hT n).1 K v a _ yd A s W _ env m E h h2 hR hA x0.sx (x0.envok hK)) (λu ae ⟨aj,am,aq,bx⟩=>?_) λ_ _ x=>x
  refine wpAny_mono (pa hR aq xd yd z ov u (e3.le am x0.sx.1) bx hz hnl) (λt ak ⟨W₂,an,au,bE⟩=>?_) λ_ _ x=>x
  have L:=am.trans an
  refine wpAny_mono (eI (hid.up O) hC x0.sx.1 L.pm au (x0.fr.ext L.ext) hx bE) (λ_ bF ⟨bf,u,aD,aO,d6,gJ⟩=>?_) λ_ _ x=>x
  exact⟨rfl,bf,_,ad,aD.sub eB,aO,x0.set hC hT hS O aD aO d6 hi gJ (bN hk),λb hb=>.inl hb⟩
 ·cases e
theorem BF(hL:Lk C T fns F R)(hT:T.Nodup){p:Pos}{v:Expr}{a:X}(h:CE T fns K v a)(e:ex F (n+1) (.ret a) st=some o)(hR:bB C R A)(hA:At C W s)(x0:SI C T K ab W env m ad st)(hK:Ag K env)(hS:ab C.P):
  wpAny (model C.prog C.w) A (exec (.Return (some v) p) env) (gQ C T K ab W env (ZZ C K env ad st.own) (hid ab ad st.own) o) E s:=by
 simp only[ex]at e
 split at e
 ·rename_i d st' he
  cases e
  obtain⟨x1,hh,pk⟩:=x0.evS hS he
  refine wpAny_Return_some (wpAny_mono (gN hL hT h pk hR hA x1 hK hS) (λu ae ⟨aj,am,aq,bx⟩=>?_) λ_ _ x=>x)
  exact⟨u,rfl,aj,am.pm.sub eB,aq,aN.sub (λb hb=>.inl hb) _ bx⟩
 ·cases e
end
section
variable{C:Cx}{T fns:List Str}{F:Nat→List D→Option D}{R n:Nat}{K:Kd}{S ab:Addr→Prop}{W W':Wd}{s:Shared}{env:Env}{m:Str→Option Value}{me:Me}{A:Around}{E:Value→Shared→Prop}{ad:Nat→LA}{st:St}{o:lB}
theorem av.set:∀{ds:List D} {vs:List Value} {i:Nat} {d:D} {v:Value},av S W ds vs→aN S W d v→av S W (ds.set i d) (vs.set i v)
 | [],_,_,_,_,x,_=>by rw[x];simp[av]
 | _::_,_,0,_,_,⟨v,r,e,h,hr⟩,q=>by subst e;exact⟨_,r,rfl,q,hr⟩
 | _::_,_,i+1,_,_,⟨v,r,e,h,hr⟩,q=>by subst e;exact⟨v,_,rfl,h,hr.set q⟩
theorem vE{i:Expr}(h:oi i=true)(ov iv new:Value):augStore i ov iv new=(do holding [new,ov,iv] (setItem ov iv new);release [new,ov,iv] [];pure .next):=by
 cases i<;>first|rfl|(simp[oi]at h)
theorem mF(hC:C.Ok){aj W₂:Wd}{ak:Shared}(am:aZ (PM C K env) W aj)(x1:SI C T K ab aj env m ad st){i:Nat}{l l':List D}(hi:st.own.lookup i=some (.list l))(L:aZ (· = (ad i).pb) aj W₂)(a:At C W₂ ak){its:Array Value}(hl:W₂.h.PlainList (ad i).pb its)
  (r:av (hid ab ad st.own) W₂ l' its.toList):gQ C T K ab W env (ZZ C K env ad st.own) (hid ab ad st.own) (.next ⟨st.me,put i (.list l') st.own⟩) .next ak:=by
 obtain⟨y1,y2⟩:=x1.modO hC hi (o':=.list l') rfl a (X:=(· = (ad i).pb)) (λb hb=>.inr hb.symm) L (λb hb=>hb▸let ⟨k,q⟩:=hl;⟨_,q,λv hd=>by cases hd⟩) ⟨its,hl,r⟩
 exact⟨rfl,W₂,m,ad,(am.sub eB).trans (L.sub λb hb=>.inr ⟨i,_,hi,hb.symm⟩),a,y1,λb hb=>.inl ((y2 b).mp hb)⟩
theorem vF(hL:Lk C T fns F R)(hT:T.Nodup){x:Str}{p q r:Pos}{k v:Expr}{i:Nat}{b a:X}(hx:cK K x=true)(hi:T[i]?=some x)(hk:CE T fns K k b)(h:CE T fns K v a)(e:ex F (n+1) (.augSub i b a) st=some o)(hR:bB C R A)(hA:At C W s)(x0:SI C T K ab W env m ad st)(hK:Ag K env)(O:bv C K ab env)(hS:ab C.P):
  wpAny (model C.prog C.w) A (exec (.AugAssign (.Subscript (.Name x p) k q) .Add v r) env) (gQ C T K ab W env (ZZ C K env ad st.own) (hid ab ad st.own) o) E s:=by
 have hC:=hL.ok
 simp only[ex]at e
 split at e
 ·rename_i l kd yd h1 h2 h3
  have h1:=fQ h1
  split at e
  ·rename_i l' hu
   cases e
   obtain⟨z,its,e1,e2,e3,e4,e6,e7⟩:=x0.ls i l h1
   rw[hi]at e1;cases e1
   unfold Cy at hu
   split at hu
   ·rename_i g j
    split at hu
    ·rename_i hj
     split at hu
     ·rename_i xd hxd
      split at hu
      ·rename_i yd' hy
       cases hu
       dsimp only at hy
       split at hy
       ·rename_i g' ai
        refine wpAny_AugAssign_Subscript_any (wpAny_Name (bj hA.h x0.fr (hK.v x (j6 hx)) (hL.plain x (List.mem_of_getElem? hi)).2 e3 ?_) (hL.plain x (List.mem_of_getElem? hi)).1) (vE (aH hk))
        refine wpAny_mono ((ba hL hT n).1 K k b _ _ A s W _ env m E hk h2 hR hA x0.sx (x0.envok hK)) (λiv ae ⟨aj,am,aq,bx⟩=>?_) λ_ _ x=>x
        obtain⟨t,rfl,_⟩:=bx
        have x1:=x0.le hC am aq
        obtain⟨_,px,_,_,_,_,qY,mG⟩:=x1.ls i l h1
        obtain⟨ov,hov,rov⟩:=mG.get hxd
        have kO:=qY;rw[aq.h]at kO
        refine wpAny_getItem_list kO.isList hj.1 (by omega) (by simpa using hov) ?_
        refine wpAny_mono ((ba hL hT n).1 K v a _ yd A ae aj _ env m E h h3 hR aq x1.sx (x1.envok hK)) (λu ak ⟨W₂,an,au,bE⟩=>?_) λ_ _ x=>x
        refine wpAny_mono (pa hR au _ yd yd' ov u (rov.le an x1.sx.1) bE hy (λ_=>nofun)) (λw bF ⟨bf,aD,aO,gJ⟩=>?_) λ_ _ x=>x
        have x3:=x1.le hC (an.trans aD) aO
        obtain⟨_,BG,_,_,_,hn,Dm,Aw⟩:=x3.ls i l h1
        have tj:=Dm;rw[aO.h]at tj
        have hsz:j<BG.size:=by
         have h5:=Aw.length
         have h6:=(List.getElem?_eq_some_iff.mp hxd).1
         rw[Array.length_toList]at h5
         have:=hj.1
         omega
        refine je tj hj.1 (by omega) hsz λh' hl' hs'=>?_
        obtain⟨bH,aU⟩:=aO.but hC (X:=(· = (ad i).pb)) (λb hb=>hb▸hn) (λb hb=>hb ▸ .seq tj.isList) (λb o n e=>(hs'.2 b n).trans e) (tk:=bF.toks) (Nat.le_refl _)
        have hX:∀b,b=(ad i).pb→hid ab ad st.own b:=λb hb=>.inr ⟨i,_,h1,hb.symm⟩
        refine mF hC ((am.trans an).trans aD).pm x3 h1 aU bH hl' ?_
        rw[Array.toList_setIfInBounds]
        exact(Aw.leX aU hX).set (gJ.leX aU hX)
       ·cases hy
      ·cases hu
     ·cases hu
    ·cases hu
   ·cases hu
  ·cases e
 ·cases e
theorem vG(hL:Lk C T fns F R)(hT:T.Nodup){x:Str}{q ap p r:Pos}{v:Expr}{i:Nat}{a:X}(hx:cK K x=true)(hi:T[i]?=some x)(hline:(ap.endLine==p.line)=true)(h:CE T fns K v a)(e:ex F (n+1) (.append i a) st=some o)(hR:bB C R A)(hA:At C W s)(x0:SI C T K ab W env m ad st)(hK:Ag K env)(O:bv C K ab env)(hS:ab C.P):
  wpAny (model C.prog C.w) A (exec (.Expr (.Call (.Attribute (.Name x q) (Str.ofString "append") ap) [v] [] p) r) env) (gQ C T K ab W env (ZZ C K env ad st.own) (hid ab ad st.own) o) E s:=by
 have hC:=hL.ok
 simp only[ex]at e
 split at e
 ·rename_i l d h1 h2
  have h1:=fQ h1
  split at e
  ·rename_i hlen
   cases e
   obtain⟨z,its,e1,e2,e3,e4,e6,e7⟩:=x0.ls i l h1
   rw[hi]at e1;cases e1
   have hst:backTo p (starEach [v] env)=[(false,eval v env)]:=by rw[aA (aH h)];rfl
   refine wpAny_Expr ?_ (by unfold interactive;rw[x0.fr.kind];rfl) rfl
   refine wpAny_Call_append rfl (by rw[hst];rfl) hline hst (wpAny_Name (bj hA.h x0.fr (hK.v x (j6 hx)) (hL.plain x (List.mem_of_getElem? hi)).2 e3 ?_) (hL.plain x (List.mem_of_getElem? hi)).1)
   have e6':=e6;rw[hA.h]at e6'
   refine⟨(ad i).pb,its,rfl,(let ⟨nn,q⟩:=e6';⟨_,nn,q,rfl,rfl,rfl⟩),?_⟩
   refine wpAny_mono ((ba hL hT n).1 K v a _ d A s W _ env m E h h2 hR hA x0.sx (x0.envok hK)) (λu ae ⟨aj,am,aq,bx⟩=>?_) λ_ _ x=>x
   have x1:=x0.le hC am aq
   obtain⟨_,px,_,_,_,hn,qY,mG⟩:=x1.ls i l h1
   have kO:=qY;rw[aq.h]at kO
   refine wpAny_list_append_plain kO (λh' hl' hs'=>?_) (by have:=mG.length;rw[Array.length_toList]at this;unfold sizeLine;omega)
   obtain⟨au,an⟩:=aq.but hC (X:=(· = (ad i).pb)) (λb hb=>hb▸hn) (λb hb=>hb ▸ .seq kO.isList) (λb o n e=>(hs'.2 b n).trans e) (tk:=ae.toks) (Nat.le_refl _)
   have hX:∀b,b=(ad i).pb→hid ab ad st.own b:=λb hb=>.inr ⟨i,_,h1,hb.symm⟩
   refine mF hC am.pm x1 h1 an au hl' ?_
   rw[Array.toList_push]
   exact(mG.leX an hX).append ⟨u,[],rfl,bx.leX an hX,rfl⟩
  ·cases e
 ·cases e
theorem py(hC:C.Ok)(O:bv C K ab env)(hS:ab C.P){aj:Wd}{ae:Shared}(L:Le C W aj)(a:At C aj ae){st':St}{f:Flow}{s':Shared}(x:SI C T K ab W env m ad st')(hh:∀b,hid ab ad st'.own b→hid ab ad st.own b)
  (h:gQ C T K ab aj env (ZZ C K env ad st'.own) (hid ab ad st'.own) o f s'):gQ C T K ab W env (ZZ C K env ad st.own) (hid ab ad st.own) o f s':=
 gQ.trans (L.pm.sub eB) (λb hb=>by
  rcases hb with h|⟨i,l,h1,h2⟩
  ·exact .inl (.inl h)
  ·rcases hh b (.inr ⟨i,l,h1,h2⟩)with h|h
   ·exact absurd h (x.out i l b h1 h2).1
   ·exact .inl (.inr h)) (λb hb=>.inl (hh b hb)) (ZZ.hid O hS) h
theorem BH(hL:Lk C T fns F R)(hT:T.Nodup)(iL:y8 C T fns F R n){t:Expr}{x y:List Stmt}{p:Pos}{t':X}{a b:List Y}(h:CE T fns K t t')(h1:nH T fns K x a)(h2:nH T fns K y b)(e:ex F (n+1) (.ite t' a b) st=some o)(hR:bB C R A)(hA:At C W s)(x0:SI C T K ab W env m ad st)(hK:Ag K env)(O:bv C K ab env)(hS:ab C.P):
  wpAny (model C.prog C.w) A (exec (.If t x y p) env) (gQ C T K ab W env (ZZ C K env ad st.own) (hid ab ad st.own) o) E s:=by
 have hC:=hL.ok
 simp only[ex]at e
 split at e
 ·rename_i d st' he
  obtain⟨x1,hh,pk⟩:=x0.evS hS he
  split at e
  ·rename_i ht
   refine wpAny_If (wpAny_mono (j5 hL hT h pk ht hR hA x1 hK hS) (λb' ae ⟨eb,aj,am,aq⟩=>?_) λ_ _ x=>x)
   subst eb
   rw[if_pos rfl]
   exact wpAny_mono (iL K x a st' o A ae aj ab env m ad E h1 e hR aq (x1.le hC am aq) hK O hS) (λf s' q=>py hC O hS am aq x1 hh q) λ_ _ x=>x
  ·rename_i ht
   refine wpAny_If (wpAny_mono (j5 hL hT h pk ht hR hA x1 hK hS) (λb' ae ⟨eb,aj,am,aq⟩=>?_) λ_ _ x=>x)
   subst eb
   rw[if_neg (by simp)]
   exact wpAny_mono (iL K y b st' o A ae aj ab env m ad E h2 e hR aq (x1.le hC am aq) hK O hS) (λf s' q=>py hC O hS am aq x1 hh q) λ_ _ x=>x
  ·cases e
 ·cases e
theorem mH(O:bv C K ab env)(hS:ab C.P){aj:Wd}{gM:Str→Option Value}{dS:Nat→LA}{b7:St}(L:aZ (ZZ C K env ad st.own) W aj)(x1:SI C T K ab aj env gM dS b7)(hh:∀b,hid ab dS b7.own b→hid ab ad st.own b∨W.h.get? b=none){f:Flow}{s':Shared}
  (h:gQ C T K ab aj env (ZZ C K env dS b7.own) (hid ab dS b7.own) o f s'):gQ C T K ab W env (ZZ C K env ad st.own) (hid ab ad st.own) o f s':=
 gQ.trans L (x1.zz eB hh λb hb h=>.inr (h.resolve_left hb)) hh (ZZ.hid O hS) h
theorem xu(hL:Lk C T fns F R)(iS:SY C T fns F R n)(iL:y8 C T fns F R n):y8 C T fns F R (n+1):=by
 intro K ys Ys st o A s W ab env m ad E h e hR hA x0 hK O hS
 cases h with
 | nil=>
  simp only[bC]at e
  cases e
  exact wpAny_execs_nil ⟨rfl,W,m,ad,.refl ..,hA,x0,λb hb=>.inl hb⟩
 | cons h1 h2=>
  rename_i s0 r y ys
  simp only[bC]at e
  refine wpAny_execs_cons ?_
  split at e
  ·rename_i b7 he
   refine wpAny_mono (iS K s0 y st _ A s W ab env m ad E h1 he hR hA x0 hK O hS) (λf ae ⟨ef,aj,gM,dS,am,aq,x1,hh⟩=>?_) λ_ _ x=>x
   subst ef
   exact wpAny_mono (iL K r ys b7 o A ae aj ab env gM dS E h2 e hR aq x1 hK O hS) (λf s' q=>mH O hS am x1 hh q) λ_ _ x=>x
  ·rename_i hne
   refine wpAny_mono (iS K s0 y st o A s W ab env m ad E h1 e hR hA x0 hK O hS) (λf ae q=>?_) λ_ _ x=>x
   cases o with
   | next b7=>exact absurd e (hne b7)
   | ret d=>
    have q':=q
    obtain⟨v,ef,_⟩:=q
    subst ef
    exact q'
end
section
variable{C:Cx}{T fns:List Str}{F:Nat→List D→Option D}{R n:Nat}{K:Kd}{S ab:Addr→Prop}{W W':Wd}{s:Shared}{env:Env}{m:Str→Option Value}{me:Me}{A:Around}{E:Value→Shared→Prop}{ad:Nat→LA}{st:St}
theorem pz{k:Int}(h0 : -1000≤k)(h1:k≤1000):Builtin.Range.small 0 k 1=true:=by
 unfold Builtin.Range.small
 rw[rangeSize_one]
 unfold Builtin.Range.rangeFitsLong
 split<;>simp<;>omega
theorem vH(hL:Lk C T fns F R){e:Expr}{p q:Pos}{k:Int}(hn:oi e=true)(hg:lC K (Str.ofString "range")=true) (hb : -1000≤k∧k≤1000) (hA:At C W s) (hX:bG C T K S W env m me)
  (hv:wpAny (model C.prog C.w) A (eval e env) (λv ae=>∃aj t,v = .int k t∧Le C W aj∧At C aj ae) E s) (j:Nat) :
  wpAny (model C.prog C.w) A (eval (.Call (.Name (Str.ofString "range") p) [e] [] q) env) (λv ae=>wpAny (model C.prog C.w) A (pyIter v) (λit ak=>∃fp W',nF C W W' fp ak∧cC C (aM S fp) W' (.one j) fp it ((List.range k.toNat).map λi:Nat=>D.int true (i:Int))) E ae) E s:=by
 have hC:=hL.ok
 refine wpAny_Call_NameR (wpAny_Name (jM hC hA hX hg hL.range.1 hL.range.2 ?_) (by decide))
 refine PySem.callWith_type (by rw[aA hn];rfl) ?_
 rw[aA hn]
 refine Calls.evalArgs_plain (Calls.spliced_cons (wpAny_mono hv (λv ae ⟨aj,t,ev,am,aq⟩=>Calls.spliced_nil ?_) λ_ _ x=>x))
 subst ev
 refine call_range_1 ?_
 refine wpAny_pyIter_range (t:=ae.toks) (u:=t) (v:=ae.toks+1) (Heap.get?_push_size _ rfl) (pz hb.1 hb.2) ?_
 have hk2:∀b o,ae.heap.get? b=some o→((ae.heap.push { cls:=.type "range",data:=.fields #[.int 0 ae.toks,.int k t,.int 1 (ae.toks+1)] }).push { cls:=.type "range_iterator",data:=.fields #[rawInt 0,rawInt (Builtin.Range.rangeSize 0 k 1),rawInt 1] }).get? b=some o:=
  λb o q=>Heap.get?_push_of_some _ (Heap.get?_push_of_some _ q)
 obtain⟨au,an⟩:=aq.keepW hk2 (tk:=ae.toks+1+1) (by omega)
 have hsz:(ae.heap.push { cls:=.type "range",data:=.fields #[.int 0 ae.toks,.int k t,.int 1 (ae.toks+1)] }).objs.size=ae.heap.objs.size+1:=Heap.size_push ..
 have nw:Nw C (ae.heap.objs.size+1):=aq.inv.nw (Nat.le_succ _)
 refine⟨[ae.heap.objs.size+1],_,⟨am.trans an,au,λb hb=>?_⟩,?_⟩
 ·rcases List.mem_cons.mp hb with rfl|hb
  ·have hobj:=Heap.get?_push_size (ae.heap.push { cls:=.type "range",data:=.fields #[.int 0 ae.toks,.int k t,.int 1 (ae.toks+1)] }) (o:={ cls:=.type "range_iterator",data:=.fields #[rawInt 0,rawInt (Builtin.Range.rangeSize 0 k 1),rawInt 1] }) rfl
   rw[hsz]at hobj
   exact⟨bu hC am (nw.nP hC) (aK aq (Nat.le_succ _)),nw,_,hobj⟩
  ·cases hb
 ·have hsize:Builtin.Range.rangeSize 0 k 1=(k.toNat:Int)-((0:Nat):Int):=by rw[rangeSize_one];split<;>omega
  have:=dZ.range (C:=C) (S:=aM S [ae.heap.objs.size+1]) (W:={ aj with h:=(ae.heap.push { cls:=.type "range",data:=.fields #[.int 0 ae.toks,.int k t,.int 1 (ae.toks+1)] }).push { cls:=.type "range_iterator",data:=.fields #[rawInt 0,rawInt (Builtin.Range.rangeSize 0 k 1),rawInt 1] } })
   (a:=ae.heap.objs.size+1) (i:=0) (k:=k.toNat) (Nat.zero_le _) (by rw[hsize,←hsz];exact Heap.get?_push_size _ rfl) nw
  rw[hsz]
  exact this
theorem uv(hL:Lk C T fns F R)(hT:T.Nodup){i:Expr}{x:X}{t:dA}{xs:List D}(h:CE T fns K i x)(e:jK F n t x st=some xs)(hR:bB C R A)(hA:At C W s)(x0:SI C T K ab W env m ad st)(hK:Ag K env)(hS:ab C.P):
  wpAny (model C.prog C.w) A (eval i env) (λv ae=>wpAny (model C.prog C.w) A (pyIter v) (λit ak=>∃fp W',nF C W W' fp ak∧cC C (aM (hid ab ad st.own) fp) W' t fp it xs) E ae) E s:=by
 unfold jK at e
 split at e
 ·cases e
  exact o7 hL (ba hL hT n).1 h (by assumption) hR hA x0.sx (x0.envok hK)
 ·split at e
  ·rename_i j a _
   split at e
   ·rename_i g k hk
    split at e
    ·rename_i hb
     cases e
     cases h with
     | range hg h1=>
      refine vH hL (aH h1) hg hb hA (x0.envok hK) (wpAny_mono (gN hL hT h1 (dR hk) hR hA x0 hK hS) (λv ae ⟨aj,am,aq,bx⟩=>?_) λ_ _ x=>x) j
      obtain⟨t,rfl,_⟩:=bx
      exact⟨aj,t,rfl,am,aq⟩
    ·cases e
   ·cases e
  ·cases e
end
section
variable{C:Cx}{T fns:List Str}{F:Nat→List D→Option D}{R n:Nat}{K:Kd}{S ab:Addr→Prop}{W W':Wd}{s:Shared}{env:Env}{m:Str→Option Value}{me:Me}{A:Around}{E:Value→Shared→Prop}{ad:Nat→LA}{st:St}{o:lB}
abbrev Dn(Q:Flow→Shared→Prop):Result→Shared→Prop:=λr s'=>match r with | .ok f=>Q f s' | .error _=>False
theorem y9(hL:Lk C T fns F R)(hT:T.Nodup)(iL:y8 C T fns F R n){t:Expr}{x:List Stmt}{p:Pos}{t':X}{a:List Y}(h:CE T fns K t t')(h1:nH T fns K x a)(e:ex F (n+1) (.loop t' a) st=some o)(hR:bB C R A)(hA:At C W s)(x0:SI C T K ab W env m ad st)(hK:Ag K env)(O:bv C K ab env)(hS:ab C.P):
  wpAny (model C.prog C.w) A (exec (.While t x [] p) env) (gQ C T K ab W env (ZZ C K env ad st.own) (hid ab ad st.own) o) E s:=by
 have hC:=hL.ok
 simp only[ex]at e
 refine wpAny_While (codeAny_mono (R:=Dn (gQ C T K ab W env (ZZ C K env ad st.own) (hid ab ad st.own) o)) ?_ λr s' q=>?_)
 ·refine codeAny_whileLoop (λj s=>∃aj gM dS b7,aZ (ZZ C K env ad st.own) W aj∧At C aj s∧SI C T K ab aj env gM dS b7∧(∀b,hid ab dS b7.own b→hid ab ad st.own b∨W.h.get? b=none)∧vd _ _ j b7=some o) ?_ n ⟨W,m,ad,st,.refl ..,hA,x0,λb hb=>.inl hb,e⟩
  rintro j ae ⟨aj,gM,dS,b7,am,aq,x1,hh,ew⟩
  cases j with
  | zero=>cases ew
  | succ j=>
   simp only[vd]at ew
   have key:∃d b,ev F n t' b7.me=some d∧aC d=some b∧(b=true→(match (match bC F n a b7 with
     | some (.next s'')=>if aS s''=aS b7 then some (lB.next s'')else none
     | o=>o)with
    | some (.next s')=>vd (λs'=>match ev F n t' s'.me with|some d=>aC d|none=>none) (λs'=>match bC F n a s' with
     | some (.next s'')=>if aS s''=aS s' then some (.next s'')else none
     | o=>o) j s'
    | o=>o)=some o)∧(b=false→o = .next b7):=by
    cases hd:ev F n t' b7.me with
    | none=>rw[hd]at ew;cases ew
    | some d=>
     rw[hd]at ew
     dsimp only at ew
     cases hb:aC d with
     | none=>rw[hb]at ew;cases ew
     | some b=>
      rw[hb]at ew
      cases b with
      | true=>exact⟨d,true,rfl,hb,λ_=>ew,nofun⟩
      | false=>cases ew;exact⟨d,false,rfl,hb,nofun,λ_=>rfl⟩
   obtain⟨d,b,hd,hb,ht,hf⟩:=key
   refine wpAny_mono ((ba hL hT n).2 K t t' _ d b A ae aj _ env gM _ h hd hb hR aq x1.sx (x1.envok hK)) (λb' ak ⟨eb,W₂,an,au⟩=>?_) λ_ _ x=>x
   subst eb
   have x2:=x1.le hC an au
   have L02:aZ (ZZ C K env ad st.own) W W₂:=am.trans (an.pm.sub eB)
   cases b' with
   | false=>
    rw[if_neg (by simp)]
    have:=hf rfl;subst this
    exact wpAny_execs_nil ⟨rfl,W₂,gM,dS,L02,au,x2,hh⟩
   | true=>
    rw[if_pos rfl]
    have hw:=ht rfl
    cases he:bC F n a b7 with
    | none=>rw[he]at hw;cases hw
    | some ja=>
     rw[he]at hw
     refine wpAny_mono (iL K x a b7 ja A ak W₂ ab env gM dS _ h1 he hR au x2 hK O hS) (λf bF q=>?_) λ_ _ x=>x
     have q':gQ C T K ab W env (ZZ C K env ad st.own) (hid ab ad st.own) ja f bF:=mH O hS L02 x2 hh q
     cases ja with
     | next Fb=>
      dsimp only at hw
      obtain⟨ef,bf,dG,bY,aD,aO,x3,h3⟩:=q'
      subst ef
      split at hw
      ·rename_i s' hs'
       split at hs'
       ·cases hs'
        exact⟨j,Nat.lt_succ_self _,bf,dG,bY,_,aD,aO,x3,h3,hw⟩
       ·cases hs'
      ·rename_i hne
       split at hw
       ·cases hw
        exact absurd (by assumption) (λq=>hne _ (if_pos q))
       ·cases hw
     | ret d'=>
      dsimp only at hw
      cases hw
      obtain⟨v,ef,r⟩:=q'
      subst ef
      exact⟨v,rfl,r⟩
 ·cases r with
  | ok f=>exact q
  | error=>exact q.elim
theorem dZ.less{S':Addr→Prop}(k:∀a,S' a→S a){fp:List Addr}{it:Value}{rest:List D}(x:dZ C S W fp it rest):dZ C S' W fp it rest:=by
 cases x with
 | list h1 h2 h3 h4 h5=>exact .list h1 h2 (λq=>h3 (k _ q)) (av.sub k _ h4) h5
 | tup h1 h2 h3 h4 h5=>exact .tup h1 h2 (λq=>h3 (k _ q)) (av.sub k _ h4) h5
 | str h1 h5=>exact .str h1 h5
 | range h0 h1 h5=>exact .range h0 h1 h5
theorem fe.less{S':Addr→Prop}(k:∀a,S' a→S a){fp:List Addr}{it:Value}{rest:List D}(x:fe C S W fp it rest):fe C S' W fp it rest:=by
 cases x with
 | enum h0 h1 h2 h3 h4 h5 h6 h7=>exact .enum h0 h1 h2 (λq=>h3 (k _ q)) (av.sub k _ h4) h5 h6 h7
theorem cC.less{S':Addr→Prop}(k:∀a,S' a→S a){t:dA}{fp:List Addr}{it:Value}{rest:List D}(x:cC C S W t fp it rest):cC C S' W t fp it rest:=by
 cases t
 ·exact dZ.less k x
 ·exact fe.less k x
theorem k9{t:dA}{d:D}{me me':Me}(e:gb t d me=some me'):∃bs,sI t d=some bs∧∀j d',me'.lookup j=some d'→(j,d')∈bs∨(j∉fy t∧me.lookup j=some d'):=by
 unfold gb at e
 split at e
 ·cases e
  rename_i i d _
  refine⟨[(_,_)],rfl,λj d' h=>?_⟩
  rw[aa]at h
  split at h
  ·rename_i q;cases h;subst q;exact .inl (.head _)
  ·rename_i q
   refine .inr ⟨λz=>?_,h⟩
   rcases List.mem_cons.mp z with z|z
   ·exact q z
   ·cases z
 ·cases e
  refine⟨[(_,_),(_,_)],rfl,λk d' h=>?_⟩
  rw[aa]at h
  split at h
  ·rename_i q;cases h;subst q;exact .inl (.tail _ (.head _))
  ·rename_i q
   rw[aa]at h
   split at h
   ·rename_i q;cases h;subst q;exact .inl (.head _)
   ·rename_i q'
    refine .inr ⟨λz=>?_,h⟩
    rcases List.mem_cons.mp z with z|z
    ·exact q' z
    ·rcases List.mem_cons.mp z with z|z
     ·exact q z
     ·cases z
 ·cases e
theorem eK.grow{S S':Addr→Prop}{page:Str}{xa d f fx rf cp ca al:Addr}(e4:eK C S W page xa d f fx rf cp ca al)(hu:∀b,S' b→S b∨W.h.get? b=none):eK C S' W page xa d f fx rf cp ca al:=by
 have nn:∀{b:Addr},¬S b→(∃o,W.h.get? b=some o)→¬S' b:=λn1 ⟨o,ho⟩ q=>by
  rcases hu _ q with q|q
  ·exact n1 q
  ·rw[q]at ho;cases ho
 refine⟨⟨nn e4.nS.1 ⟨_,e4.inst⟩,nn e4.nS.2.1 ?_,nn e4.nS.2.2.1 ?_,nn e4.nS.2.2.2.1 ?_,nn e4.nS.2.2.2.2.1 ?_,nn e4.nS.2.2.2.2.2 ?_⟩,e4.inst,e4.fo,e4.fxo,e4.rfo,e4.cpo,e4.cao⟩
 ·obtain⟨o,_,ho,_⟩:=e4.fo;exact⟨o,ho⟩
 ·obtain⟨_,⟨o,_,_,ho,_⟩,_⟩:=e4.fxo;exact⟨o,ho⟩
 ·obtain⟨o,_,_,_,_,_,ho,_⟩:=e4.rfo;exact⟨o,ho⟩
 ·obtain⟨_,⟨o,ho,_⟩,_⟩:=e4.cpo;exact⟨o,ho⟩
 ·obtain⟨o,ho,_⟩:=e4.cao;exact⟨o,ho⟩
theorem bS.grow{S S':Addr→Prop}{L:a6}{d f al pb:Addr}(e5:bS C S W L d pb al f)(hu:∀b,S' b→S b∨W.h.get? b=none):bS C S' W L d pb al f:=⟨e5.dict,let ⟨its,h1,h2⟩:=e5.pbo;⟨its,h1,av.grow hu _ h2⟩,e5.alo,e5.nw,e5.ne⟩
theorem SI.took(hC:C.Ok)(hT:T.Nodup)(_hS:ab C.P)(O:bv C K ab env)(x:SI C T K ab W env m ad st){t:dA}{d:D}{me':Me}{m':Str→Option Value}{bs:List (Nat×D)}{s':Shared}(k:A3 C T K (hid ab ad st.own) W env m t bs W' m' s')
  (hb:∀j d',me'.lookup j=some d'→(j,d')∈bs∨(j∉fy t∧st.me.lookup j=some d')) (hk:∀j∈fy t,j∉aS st):SI C T K ab W' env m' ad ⟨me',st.own⟩:=by
 have O':=hid.up (ad:=ad) (own:=st.own) O
 have np:∀{j:Nat} {o:Ob} {b:Addr},st.own.lookup j=some o→bT (ad j) o b→¬cU K env b:=λh hb q=>x.npm O hC h hb (.inr q)
 have ot:∀{j:Nat} {o:Ob} {z:Str},st.own.lookup j=some o→T[j]?=some z→m' z=m z:=λh e1=>k.other _ λi hi e=>by
  have:i=_:=(List.getElem?_inj (List.getElem?_eq_some_iff.mp e).1 hT).mp (e.trans e1.symm)
  exact hk i hi (this▸dQ h)
 refine⟨x.sx.leX k.le λb hb _=>k.fr.there O hb,k.fr,x.vars.took (d:=d) hT O' k hb,λj l h=>?_,λj L h=>?_,x.inj,λj o b h hb=>?_,x.nd⟩
 ·obtain⟨z,its,e1,e2,e3,e4,e6,e7⟩:=x.ls j l h
  exact⟨z,its,e1,e2,(ot h e1).trans e3,e4,aE e6 k.le.ext (np h rfl),e7.leX k.le O'.mutS⟩
 ·obtain⟨z,e1,e2,e3,e4,e5⟩:=x.lx j _ h
  exact⟨z,e1,e2,(ot h e1).trans e3,e4.leX k.le O'.mutS,e5.leX k.le O'.mutS (np h (.inr (.inl rfl))) (np h (.inl rfl)) (np h (.inr (.inr rfl)))⟩
 ·obtain⟨k1,k2,k3,k4⟩:=x.out j o b h hb
  obtain⟨ob',hob⟩:=x.there h hb
  obtain⟨_,hob',hsm⟩:=k.le.ext _ _ (np h hb) hob
  exact⟨k1,k2,k3,λob'' e v=>by rw[hob']at e;cases e;rw[hsm.parts.2.1];exact k4 _ hob v⟩
theorem SI.grow(hC:C.Ok)(x:SI C T K ab W env m ad st){fp:List Addr}{ak:Shared}(M:nF C W W' fp ak)(hS:ab C.P):SI C T K (aM ab fp) W' env m ad st∧(∀b,hid (aM ab fp) ad st.own b↔aM (hid ab ad st.own) fp b):=by
 have hh:∀b,hid (aM ab fp) ad st.own b↔aM (hid ab ad st.own) fp b:=λb=>by
  constructor
  ·rintro((h|h)|h)
   ·exact .inl (.inl h)
   ·exact .inr h
   ·exact .inl (.inr h)
  ·rintro((h|h)|h)
   ·exact .inl (.inl h)
   ·exact .inr h
   ·exact .inl (.inr h)
 have gr:∀b,hid (aM ab fp) ad st.own b→hid ab ad st.own b∨W.h.get? b=none:=λb hb=>((hh b).mp hb).imp id λq=>(M.fresh b q).1
 have hP:hid (aM ab fp) ad st.own C.P:=.inl (.inl hS)
 have y:=x.le hC M.le M.at'
 have hPX:∀b,b=C.P→hid (aM ab fp) ad st.own b:=λb h=>h▸hP
 have LP:=M.le.leX (X:=(· = C.P)) rfl
 have np:∀{j:Nat} {o:Ob} {b:Addr},st.own.lookup j=some o→bT (ad j) o b→b≠C.P:=λh hb=>(x.out _ _ _ h hb).2.1.nP hC
 refine⟨⟨⟨hP,λb hb=>?_⟩,y.fr,λi d h=>?_,λi l h=>?_,λi L h=>?_,x.inj,λi o b h hb=>?_,x.nd⟩,hh⟩
 ·rcases(hh b).mp hb with h|h
  ·exact y.sx.2 b h
  ·exact(M.fresh b h).2.2
 ·obtain⟨z,v,e1,e2,e3⟩:=x.vars i d h
  exact⟨z,v,e1,e2,(aN.grow gr _ e3).le M.le hP⟩
 ·obtain⟨z,its,e1,e2,e3,e4,e6,e7⟩:=x.ls i l h
  exact⟨z,its,e1,e2,e3,e4,aE e6 M.le.ext (e4.nP hC),(av.grow gr _ e7).le M.le hP⟩
 ·obtain⟨z,e1,e2,e3,e4,e5⟩:=x.lx i _ h
  exact⟨z,e1,e2,e3,(e4.grow gr).leX LP hPX,(e5.grow gr).leX LP hPX (np h (.inr (.inl rfl))) (np h (.inl rfl)) (np h (.inr (.inr rfl)))⟩
 ·obtain⟨k1,k2,k3,k4⟩:=y.out i o b h hb
  refine⟨λq=>q.elim k1 λq=>?_,k2,k3,k4⟩
  obtain⟨ob,hob⟩:=x.there h hb
  rw[(M.fresh _ q).1]at hob;cases hob
theorem SI.drop{fp:List Addr}(x:SI C T K (aM ab fp) W env m ad st)(hS:ab C.P):SI C T K ab W env m ad st:=by
 have dn:∀b,hid ab ad st.own b→hid (aM ab fp) ad st.own b:=λb hb=>hb.imp (λh=>.inl h) id
 exact⟨⟨.inl hS,λb hb=>x.sx.2 b (dn b hb)⟩,x.fr,λi d h=>let ⟨z,v,e1,e2,e3⟩:=x.vars i d h;⟨z,v,e1,e2,aN.sub dn _ e3⟩,
  λi l h=>let ⟨z,its,e1,e2,e3,e4,e6,e7⟩:=x.ls i l h;⟨z,its,e1,e2,e3,e4,e6,av.sub dn _ e7⟩,
  λi L h=>let ⟨z,e1,e2,e3,e4,e5⟩:=x.lx i _ h;⟨z,e1,e2,e3,e4.sub dn,e5.sub dn⟩,x.inj,
  λi o b h hb=>let ⟨k1,k2,k3,k4⟩:=x.out i o b h hb;⟨λq=>k1 (.inl q),k2,k3,k4⟩,x.nd⟩
def nR(t:dA)(s':St):Bool:=match t with | .one i=>(aS s').contains i | .two i j=>(aS s').contains i||(aS s').contains j
def a5(F:Nat→List D→Option D)(n:Nat)(t:dA)(a:List Y):St→D→Option lB:=λs' d=>
 if nR t s' then Option.none else
  match gb t d s'.me with
  | some me'=>(match bC F n a ⟨me',s'.own⟩with
   | some (.next s'')=>if aS s''=aS s' then some (.next s'')else Option.none
   | o=>o)
  | Option.none=>Option.none
theorem mI{t:dA}{a:List Y}{d:D}(h:a5 F n t a st d=some o):(∀j∈fy t,j∉aS st)∧∃me',gb t d st.me=some me'∧bC F n a ⟨me',st.own⟩=some o:=by
 unfold a5 at h
 split at h
 ·cases h
 ·rename_i hk
  refine⟨λj hj=>?_,?_⟩
  ·unfold nR at hk
   cases t with
   | one i=>
    rcases List.mem_cons.mp hj with q|q
    ·subst q;exact bN (by simpa using hk)
    ·cases q
   | two i k=>
    simp only[Bool.or_eq_true,not_or]at hk
    rcases List.mem_cons.mp hj with q|q
    ·subst q;exact bN (by simpa using hk.1)
    ·rcases List.mem_cons.mp q with q|q
     ·subst q;exact bN (by simpa using hk.2)
     ·cases q
  ·split at h
   ·rename_i me' hm
    refine⟨me',hm,?_⟩
    split at h
    ·rename_i s'' he
     split at h
     ·cases h;exact he
     ·cases h
    ·exact h
   ·cases h
theorem BI(hL:Lk C T fns F R)(hT:T.Nodup)(iL:y8 C T fns F R n){t i:Expr}{x els:List Stmt}{p:Pos}{t':dA}{i':X}{a:List Y}(ht:TG T K t t')(h:CE T fns K i i')(h1:nH T fns K x a)(e:ex F (n+1) (.for t' i' a (!els.isEmpty)) st=some o)(hR:bB C R A)(hA:At C W s)(x0:SI C T K ab W env m ad st)(hK:Ag K env)(O:bv C K ab env)(hS:ab C.P):
  wpAny (model C.prog C.w) A (exec (.For t i x els p) env) (gQ C T K ab W env (ZZ C K env ad st.own) (hid ab ad st.own) o) E s:=by
 have hC:=hL.ok
 simp only[ex]at e
 split at e
 ·rename_i xs hxs
  replace e:jo (!els.isEmpty) (gG (a5 F n t' a) xs st)=some o:=e
  refine wpAny_For (wpAny_mono (uv hL hT h hxs hR hA x0 hK hS) (λu ae z=>wpAny_mono z (λit ak ⟨fp,W₂,M,eP⟩=>?_) λ_ _ x=>x) λ_ _ x=>x) (λx=>mj (aH h) env x)
  obtain⟨x2,hh2⟩:=x0.grow hC M hS
  have hS':aM ab fp C.P:=.inl hS
  have O':bv C K (aM ab fp) env:=O.sub λb hb=>.inl hb
  have tm:cC C (hid (aM ab fp) ad st.own) W₂ t' fp it xs:=eP.less λb hb=>(hh2 b).mp hb
  refine codeAny_mono (R:=Dn (gQ C T K ab W₂ env (λb=>ZZ C K env ad st.own b∨b∈fp) (hid (aM ab fp) ad st.own) o)) ?_ λr s' q=>?_
  ·refine codeAny_forLoop_any (λj s=>∃xs aj gM dS b7,xs.length=j∧aZ (λb=>ZZ C K env ad st.own b∨b∈fp) W₂ aj∧At C aj s∧SI C T K (aM ab fp) aj env gM dS b7∧(∀b,hid (aM ab fp) dS b7.own b→hid (aM ab fp) ad st.own b∨W₂.h.get? b=none)∧
    cC C (hid (aM ab fp) dS b7.own) aj t' fp it xs∧jo (!els.isEmpty) (gG (a5 F n t' a) xs b7)=some o) ?_ xs.length ⟨xs,W₂,m,ad,st,rfl,.refl ..,M.at',x2,λb hb=>.inl hb,tm,e⟩
   rintro j bF ⟨ys,bf,dG,bY,cF,rfl,aD,aO,x3,h3,fA,e3⟩
   have hf:∀b∈fp,hid (aM ab fp) bY cF.own b:=λb hb=>.inl (.inr hb)
   have nfo:∀{i:Nat} {o:Ob} {b:Addr},cF.own.lookup i=some o→bT (bY i) o b→¬b∈fp:=λ{i o b} hl hb q=>by
    obtain⟨_,n1,n2⟩:=fA.nf b q
    cases o with
    | list l=>
     obtain⟨_,its,_,_,_,_,e6,_⟩:=x3.ls _ _ hl
     exact n2 its (hb▸e6.isList)
    | lex L=>
     obtain⟨_,_,_,_,_,M⟩:=x3.lx _ _ hl
     rcases hb with rfl|rfl|rfl
     ·obtain⟨its,e,_⟩:=M.pbo;exact n2 its e.isList
     ·obtain⟨_,_,_,_,_,_,_,_,e⟩:=M.dict;exact(n1 _ e).1 _ _ rfl
     ·obtain⟨t,e⟩:=M.alo;exact n2 _ e.isList
   refine wpAny_mono (eF hC hR aO x3.sx ht hf fA) (λr cq z=>?_) λ_ _ x=>x
   cases ys with
   | nil=>
    cases r with
    | some=>exact z.elim
    | none=>
     obtain⟨aB,aU,bH⟩:=z
     simp only[gG]at e3
     cases hels:els with
     | cons=>rw[hels]at e3;cases e3
     | nil=>
      rw[hels]at e3
      cases e3
      refine wpAny_execs_nil ?_
      have x4:SI C T K ab aB env dG bY cF:=by
       have y:=x3.drop hS
       have dn:∀b,hid ab bY cF.own b→hid (aM ab fp) bY cF.own b:=λb hb=>hb.imp (λh=>.inl h) id
       refine⟨y.sx.leX aU λb hb hs=>?_,x3.fr.leX aU (λb hb=>.inr (fA.nf b hb).2.1),λi d h=>let ⟨z,v,e1,e2,e3⟩:=x3.vars i d h;⟨z,v,e1,e2,aN.sub dn _ (e3.leX aU hf)⟩,λi l h=>?_,λi L h=>?_,x3.inj,λi o b h hb=>?_,x3.nd⟩
       ·rcases hs with h|⟨i,l,h,h2⟩
        ·exfalso
         have:=(M.fresh b hb).1
         obtain⟨o,ho⟩:=x0.sx.2 b (.inl h)
         rw[this]at ho;cases ho
        ·exact absurd hb (nfo h h2)
       ·obtain⟨z,its,e1,e2,e3,e4,e6,e7⟩:=x3.ls i l h
        exact⟨z,its,e1,e2,e3,e4,aE e6 aU.ext (nfo h rfl),av.sub dn _ (e7.leX aU hf)⟩
       ·obtain⟨z,e1,e2,e3,e4,e5⟩:=x3.lx i _ h
        exact⟨z,e1,e2,e3,(e4.leX aU hf).sub dn,(e5.leX aU hf (nfo h (.inr (.inl rfl))) (nfo h (.inl rfl)) (nfo h (.inr (.inr rfl)))).sub dn⟩
       ·obtain⟨k1,k2,k3,k4⟩:=y.out i o b h hb
        obtain⟨ob,hob⟩:=y.there h hb
        obtain⟨_,hob',hsm⟩:=aU.ext _ _ (nfo h hb) hob
        exact⟨k1,k2,k3,λob' e v=>by rw[hob']at e;cases e;rw[hsm.parts.2.1];exact k4 _ hob v⟩
      exact⟨rfl,aB,dG,bY,aD.trans (aU.sub λb hb=>.inr hb),bH,x4,λb hb=>h3 b (hb.imp (λh=>.inl h) id)⟩
   | cons d ys=>
    cases r with
    | none=>exact z.elim
    | some v=>
     refine wpAny_mono z (λ_ cu ⟨dI,bI,dJ,rv,g7⟩=>?_) λ_ _ x=>x
     have x5:SI C T K (aM ab fp) dI env dG bY cF:=x3.leX bI hf (λb hb=>.inr ((fA.nf b hb).2.1.e x3.fr)) (λi o b h hb=>nfo h hb) (λb hb=>(g7.nf b hb).1)
     have key:∃ja,a5 F n t' a cF d=some ja∧(∀eR,ja = .next eR→jo (!els.isEmpty) (gG (a5 F n t' a) ys eR)=some o)∧(∀d',ja = .ret d'→o=ja):=by
      simp only[gG]at e3
      cases hb:a5 F n t' a cF d with
      | none=>rw[hb]at e3;dsimp only at e3;cases hels:els<;>(rw[hels]at e3;cases e3)
      | some ja=>
       rw[hb]at e3
       refine⟨ja,rfl,λeR q=>?_,λd' q=>?_⟩
       ·subst q;exact e3
       ·subst q;dsimp only at e3;cases hels:els<;>(rw[hels]at e3;cases e3;rfl)
     obtain⟨ja,hb,hn,hr⟩:=key
     obtain⟨hkey,me',hme,hex⟩:=mI hb
     obtain⟨bs,hbs,hbb⟩:=k9 hme
     refine wpAny_mono (iU hC hT hR (hid.up O') dJ x5.sx.1 x5.fr ht rv hbs) (λ_ dp ⟨cx,vx,k⟩=>?_) λ_ _ x=>x
     have x6:=x5.took (d:=d) hC hT hS' O' k hbb hkey
     have O5:=hid.up (ad:=bY) (own:=cF.own) O'
     have g8:cC C (hid (aM ab fp) bY cF.own) cx t' fp it ys:=g7.leX k.le O5.mutS (λb hb q=>(x5.fr.mut O5 q).2 (g7.nf b hb).2.1)
     refine wpAny_mono (iL K x a ⟨me',cF.own⟩ ja A dp cx (aM ab fp) env vx bY _ h1 hex hR k.at' x6 hK O' hS') (λf qO q=>?_) λ_ _ x=>x
     have L26:aZ (λb=>ZZ C K env ad st.own b∨b∈fp) W₂ cx:=(aD.trans (bI.sub λb hb=>.inr hb)).trans (k.le.sub λb hb=>.inl (.inl (.inr hb)))
     have back:∀b,cx.h.get? b=none→W₂.h.get? b=none∨hid (aM ab fp) ad st.own b:=λb hb=>by
      cases e:W₂.h.get? b with
      | none=>exact .inl rfl
      | some o=>
       by_cases z:ZZ C K env ad st.own b∨b∈fp
       ·exact .inr (z.elim (ZZ.hid O' hS' b) λz=>.inl (.inr z))
       ·obtain⟨_,this,_⟩:=L26.ext b o z e;rw[hb]at this;cases this
     have q':gQ C T K (aM ab fp) W₂ env (λb=>ZZ C K env ad st.own b∨b∈fp) (hid (aM ab fp) ad st.own) ja f qO:=
      gQ.trans L26 (λb hb=>by
       rcases hb with h|⟨i,l,h1,h2⟩
       ·exact .inl (.inl (.inl h))
       ·rcases h3 b (.inr ⟨i,l,h1,h2⟩)with q|q
        ·rcases q with q|q
         ·exact absurd q (x5.out i l b h1 h2).1
         ·exact .inl (.inl (.inr q))
        ·exact .inr q) h3 (λb hb=>hb.elim (ZZ.hid O' hS' b) λz=>.inl (.inr z)) q
     cases ja with
     | ret d'=>
      have:=hr d' rfl;subst this
      obtain⟨v',ef,lG,cM,fL,ER⟩:=q'
      subst ef
      exact⟨v',rfl,lG,cM,fL,aN.sub (λb hb=>.inl hb) _ ER⟩
     | next eR=>
      obtain⟨ef,lG,yW,qZ,cM,fL,x7,h7⟩:=q
      obtain⟨_,Do,Dp,BJ,ur,Dq,x7',h7'⟩:=q'
      subst ef
      refine⟨ys.length,Nat.lt_succ_self _,ys,lG,yW,qZ,eR,rfl,?_,fL,x7,?_,?_,hn eR rfl⟩
      ·refine L26.fresh cM λb hb=>?_
       rcases hb with h|⟨i,l,h1,h2⟩
       ·exact .inl (.inl (.inl h))
       ·rcases h3 b (.inr ⟨i,l,h1,h2⟩)with q|q
        ·rcases q with q|q
         ·exact absurd q (x5.out i l b h1 h2).1
         ·exact .inl (.inl (.inr q))
        ·exact .inr q
      ·intro b hb
       rcases h7 b hb with q|q
       ·exact h3 b q
       ·rcases back b q with q|q
        ·exact .inr q
        ·exact .inl q
      ·have up:cC C (λb=>hid (aM ab fp) bY cF.own b∨hid (aM ab fp) qZ eR.own b) cx t' fp it ys:=g8.grow λb hb=>hb.elim .inl (h7 b)
       refine(up.leX cM (λb hb=>.inl (ZZ.hid O' hS' b hb)) λb hb q=>?_).less λb hb=>.inr hb
       rcases q with(q|q)|⟨i,l,h1,h2⟩
       ·exact(g8.nw b hb).nP hC q
       ·exact(x6.fr.mut (hid.up (ad:=bY) (own:=cF.own) O') q).2 (g8.nf b hb).2.1
       ·exact nfo h1 h2 hb
  ·cases r with
   | error=>exact q.elim
   | ok f=>
    have Lm:aZ (ZZ C K env ad st.own) W W₂:=M.le.pm.sub eB
    refine gQ.trans Lm (λb hb=>hb.imp id λq=>(M.fresh b q).1) (λb hb=>?_) (ZZ.hid O hS) q
    exact((hh2 b).mp hb).imp id λq=>(M.fresh b q).1
 ·cases e
end
section
variable{C:Cx}{T fns:List Str}{F:Nat→List D→Option D}{R n:Nat}{K:Kd}{S ab:Addr→Prop}{W W':Wd}{s:Shared}{env:Env}{m:Str→Option Value}{me:Me}{A:Around}{E:Value→Shared→Prop}{ad:Nat→LA}{st:St}{o:lB}
theorem lO(x0:SI C T K ab W env m ad st){j:Nat}{L:a6}(hj:st.own.lookup j=some (.lex L)):hid ab ad st.own (ad j).d∧hid ab ad st.own (ad j).al∧hid ab ad st.own (ad j).pb:=
 ⟨.inr ⟨j,_,hj,.inr (.inl rfl)⟩,.inr ⟨j,_,hj,.inr (.inr rfl)⟩,.inr ⟨j,_,hj,.inl rfl⟩⟩
theorem bS.notCell{S:Addr→Prop}{L L':a6}{a:LA}(M:bS C S W L a.d a.pb a.al a.f):∀b,bT a (.lex L') b→∃ob,W.h.get? b=some ob∧∀v,ob.data ≠ .cell v:=λb hb=>by
 rcases hb with rfl|rfl|rfl
 ·obtain⟨its,⟨k,e⟩,_⟩:=M.pbo;exact⟨_,e,λ_=>nofun⟩
 ·obtain⟨_,_,_,_,_,_,_,_,e⟩:=M.dict;exact⟨_,e,λ_=>nofun⟩
 ·obtain⟨t,k,e⟩:=M.alo;exact⟨_,e,λ_=>nofun⟩
theorem vI(x:CK C)(hL:Lk C T fns F R)(hR4:4≤R)(hT:T.Nodup){y:Str}{p q q' r:Pos}{v:Expr}{i:Nat}{a:X}(hx:cK K y=true)(hi:T[i]?=some y)(hg:lC K (Str.ofString "_law_lexer")=true) (h:CE T fns K v a) (e:ex F (n+1) (.newLex i a) st=some o) (hR:bB C R A) (hA:At C W s) (x0:SI C T K ab W env m ad st) (hK:Ag K env) (O:bv C K ab env) (hS:ab C.P) :
  wpAny (model C.prog C.w) A (exec (.Assign [.Name y p] (.Call (.Name (Str.ofString "_law_lexer") q) [v] [] q') r) env) (gQ C T K ab W env (ZZ C K env ad st.own) (hid ab ad st.own) o) E s:=by
 have hC:=hL.ok
 simp only[ex]at e
 split at e
 ·rename_i page hv
  split at e
  ·cases e
  ·rename_i hk
   cases e
   have hcls:C.mg (nm "_law_lexer")=some (.ref 105):=mg_of x.kin hC.g (by rfl)
   obtain⟨⟨ofn,e3,e5⟩,e4,_⟩:=Av x
   refine wpAny_Assign_Name (wpAny_Call_NameR (wpAny_Name (md hC hA (x0.envok hK) hg hcls ?_) (by decide))) rfl
   refine Calls.callWith_function (o:=ofn) (fd:=lexFd C.w.params) (fg (ba hL hT n).1 hC rfl hR (CL.cons h .nil) (ds:=[.str true page]) (by simp[bn,hv]) hA x0.sx (x0.envok hK) λvs ae aj am aq vB bx=>⟨⟨aq.inv.ext _ _ e4 e3,e5⟩,?_⟩)
   obtain⟨vv,rr,rfl,⟨t,rfl,hgd⟩,rfl⟩:=bx
   refine wpAny_mono (xp x (hgd rfl) aq vB (hR.r.le hR4)) (λlv ak ⟨W₂,xa,d,f,fx,rf,cp,ca,al,pb,elv,an,au,pA,cy,fd,fpb,fal,fxa⟩=>?_) λ_ _ x=>x
   subst elv
   have x1:=x0.le hC am aq
   refine wpAny_mono (b9 (O.sub λb hb=>.inl hb:bv C K (hid ab ad st.own) env) hC au (x1.fr.ext an.ext) hx) (λ_ bF ⟨bf,aD,aO,d6⟩=>?_) λ_ _ x=>x
   have npm:∀b,aj.h.get? b=none→¬PM C K env b:=λb e q=>by obtain⟨o,ho⟩:=PM.there hC O x1.fr aq b q;rw[e]at ho;cases ho
   have L13:aZ (PM C K env) aj bf:=an.pm.trans (aD.sub λb hb=>.inr hb)
   have fr1:∀b,bT ⟨xa,d,f,fx,rf,cp,ca,al,pb⟩ (.lex ⟨page,0,1,[]⟩) b→aj.h.get? b=none:=λb hb=>by
    rcases hb with rfl|rfl|rfl
    ·exact fpb
    ·exact fd
    ·exact fal
   have nM:∀b,aj.h.get? b=none→¬cU K env b:=λb e q=>npm b e (.inr q)
   have MutH:∀b,cU K env b→hid ab ad st.own b:=λb hb=>.inl (O.mutS b hb)
   have nQ:bS C (aM (hid ab ad st.own) [d,pb,al]) bf ⟨page,0,1,[]⟩ d pb al f:=cy.leX aD (λb hb=>.inl (MutH b hb)) (nM _ fd) (nM _ fpb) (nM _ fal)
   have nO:=pA.leX aD λb hb=>.inl (MutH b hb)
   have ex3:=bS.notCell (L':=⟨page,0,1,[]⟩) (a:=⟨xa,d,f,fx,rf,cp,ca,al,pb⟩) nQ
   obtain⟨y1,y2⟩:=x1.own hC hT hS O L13 aO (c:=⟨xa,d,f,fx,rf,cp,ca,al,pb⟩) (ob:=.lex ⟨page,0,1,[]⟩) fr1 (λb hb=>⟨by rcases hb with rfl|rfl|rfl;exact cy.nw.2.1;exact cy.nw.1;exact cy.nw.2.2,λq=>npm b (fr1 b hb) (.inr (.inl q)),by obtain⟨ob,e1,e2⟩:=ex3 b hb;intro ob' e;rw[e1]at e;cases e;exact e2⟩) d6 hi (bN (by simpa using hk)) (λb hb=>let ⟨ob,e1,_⟩:=ex3 b hb;⟨ob,e1⟩)
    (λS' d1 d2 d3=>by
     have k:∀b,S' b→aM (hid ab ad st.own) [d,pb,al] b:=λb hb=>(d1 b hb).imp id λq=>by
      rcases q with rfl|rfl|rfl<;>simp
     exact⟨hx,rfl,nO.sub k,nQ.sub k⟩)
   refine⟨rfl,bf,_,_,(am.pm.trans L13).sub eB,aO,y1,λb hb=>(y2 b hb).imp id λq=>?_⟩
   cases e0:W.h.get? b with
   | none=>rfl
   | some o=>
    by_cases z:b=C.P
    ·obtain⟨o',ho'⟩:=fR hC aq;rw[z,ho']at q;cases q
    ·obtain⟨_,this,_⟩:=am.ext b o z e0;rw[q]at this;cases this
 ·cases e
theorem lQ(hC:C.Ok){aj W₂:Wd}{ak:Shared}(am:aZ (PM C K env) W aj)(x1:SI C T K ab aj env m ad st){j:Nat}{L L':a6}(hj:st.own.lookup j=some (.lex L))(hp:L'.page=L.page){X:Addr→Prop}(hX:∀b,X b→b=C.P∨bT (ad j) (.lex L) b)(Lx:aZ X aj W₂)(a:At C W₂ ak)
  (M:bS C (hid ab ad st.own) W₂ L' (ad j).d (ad j).pb (ad j).al (ad j).f) :
  SI C T K ab W₂ env m ad ⟨st.me,put j (.lex L') st.own⟩∧(∀b,hid ab ad (put j (.lex L') st.own) b↔hid ab ad st.own b)∧aZ (ZZ C K env ad st.own) W W₂:=by
 obtain⟨y,e1,e2,e3,e4,e5⟩:=x1.lx j _ hj
 have hX':∀b,X b→hid ab ad st.own b:=λb hb=>(hX b hb).elim (λh=>h▸x1.sx.1) λh=>.inr ⟨j,_,hj,h⟩
 obtain⟨z1,z2⟩:=x1.modO hC hj (o':=.lex L') rfl a hX Lx (bS.notCell M) ⟨hp▸e4.leX Lx hX',M⟩
 exact⟨z1,z2,(am.sub eB).trans (Lx.sub λb hb=>(hX b hb).elim (λh=>.inl (.inl h)) λh=>.inr ⟨j,_,hj,h⟩)⟩
theorem mJ{n:Nat}:∀{L:a6} {d:D} {L':a6},L.get n=some (d,L')→L'.page=L.page:=by
 have hs:∀(step:a6→Str→Nat→Option (a6×Str)),(∀L tok c L' t,step L tok c=some (L',t)→L'.page=L.page)→∀n L tok L' t b,ia step n L tok=some (L',t,b)→L'.page=L.page:=by
  intro step hst n
  induction n with
  | zero=>intro L tok L' t b h;cases h
  | succ n ih=>
   intro L tok L' t b h
   unfold ia at h
   split at h
   ·cases h;rfl
   ·split at h
    ·cases h;rfl
    ·rename_i hq
     have e1:=hst _ _ _ _ _ hq
     exact(ih _ _ _ _ _ h).trans e1
 have ha:∀L tok c,(l8 L tok c).1.page=L.page:=λL tok c=>by unfold l8;split<;>rfl
 have hq:∀n L tok L' t b,ia f8 n L tok=some (L',t,b)→L'.page=L.page:=hs f8 λL tok c L' t h=>by
  unfold f8 at h;split at h
  ·cases h
  ·have:=ha L tok c;rw[Option.some.inj h]at this;exact this
 have hb:∀n L tok L' t b,ia f9 n L tok=some (L',t,b)→L'.page=L.page:=hs f9 λL tok c L' t h=>by
  unfold f9 at h;split at h
  ·cases h
  ·have:=ha L tok c;rw[Option.some.inj h]at this;exact this
 have he:∀step,(∀n L tok L' t b,ia step n L tok=some (L',t,b)→L'.page=L.page)→∀n L tok r,jI step n L tok=some r→r.1.page=L.page:=λstep k n L tok r h=>by
  unfold jI at h
  split at h
  ·rename_i q;cases h;exact k _ _ _ _ _ _ q
  ·cases h
 have hst:∀n L r,fv n L=some r→r.1.page=L.page:=by
  intro n
  induction n with
  | zero=>intro L r h;cases h
  | succ n ih=>
   intro L r h
   unfold fv at h
   split at h
   ·cases h;rfl
   ·split at h
    ·have e1:=ih _ _ h;exact e1
    ·split at h
     ·have e1:=he f8 hq _ _ _ _ h;exact e1
     ·refine(he f9 hb _ _ _ _ h).trans ?_
      unfold nC;split<;>rfl
 intro L d L' h
 unfold a6.get at h
 split at h
 ·cases h;rfl
 ·split at h
  ·rename_i q;cases h;exact hst _ _ _ q
  ·cases h
theorem mK{L L':a6}{d:D}(h:L.tok=some (d,L')):L.get 1000=some (d,L')∧Rm 1000 L (nm "")∧L.back.length≤1000:=by
 unfold a6.tok at h
 split at h
 ·rename_i hb
  refine⟨h,⟨by have:=hb.1;omega,?_⟩,hb.2⟩
  have:(nm "").length=0:=by decide
  omega
 ·cases h
theorem xw(x:CK C)(hL:Lk C T fns F R)(hR5:5≤R){y:Str}{q ap p':Pos}{j:Nat}{L L':a6}{d:D}(hy:iQ K y=true)(hj:T[j]?=some y)(hl:(ap.endLine==p'.line)=true)(hlk:st.own.lookup j=some (.lex L))(ht:L.tok=some (d,L'))(hR:bB C R A)(hA:At C W s)(x0:SI C T K ab W env m ad st)(hK:Ag K env){Q:Value→Shared→Prop}
  (k:∀v s' W',aZ (λb=>b=C.P∨bT (ad j) (.lex L) b) W W'→At C W' s'→SI C T K ab W' env m ad ⟨st.me,put j (.lex L') st.own⟩→(∀b,hid ab ad (put j (.lex L') st.own) b↔hid ab ad st.own b)→aN (hid ab ad st.own) W' d v→Q v s') :
  wpAny (model C.prog C.w) A (eval (.Call (.Attribute (.Name y q) (Str.ofString "get_token") ap) [] [] p') env) Q E s:=by
 have hC:=hL.ok
 obtain⟨z,e1,e2,e3,e4,e5⟩:=x0.lx j _ hlk
 rw[hj]at e1;cases e1
 obtain⟨g1,g2,g3⟩:=mK ht
 obtain⟨k1,k2,k3⟩:=lO x0 hlk
 obtain⟨sl,n',t0,t1,t2,t3,tl,tw,e⟩:=e5.dict
 refine jv rfl hl (wpAny_Name (bj hA.h x0.fr (hK.v y hy) (hL.plain y (List.mem_of_getElem? hj)).2 e3 λpl=>?_) (hL.plain y (List.mem_of_getElem? hj)).1)
 refine lN x hA e4.inst e (w0 _) (vm _).2.2.1 Al ?_
 have hfn:∃o fd,s.heap.get? 84=some o∧o.data = .func fd:=by obtain⟨o,e1,e2⟩:=(Bm C.w.params (x.now hA)).at';exact⟨o,_,e1,e2⟩
 refine sQ hfn (wpAny_mono (oG x e4 e5 hA x0.sx k1 k2 k3 (hR.r.le hR5) g1 g2 g3) (λv ae ⟨aj,am,aq,iq,bx⟩=>?_) λ_ _ x=>x)
 have Lx:aZ (λb=>b=C.P∨bT (ad j) (.lex L) b) W aj:=am.sub λb hb=>by
  rcases hb with h|h|h|h
  ·exact .inl h
  ·exact .inr (.inr (.inl h.symm))
  ·exact .inr (.inr (.inr h.symm))
  ·exact .inr (.inl h.symm)
 obtain⟨z1,z2,z3⟩:=lQ hC (aZ.refl _ W) x0 hlk (mJ g1) (λb hb=>hb) Lx aq iq
 exact k v ae aj Lx aq z1 z2 bx
theorem vJ(x:CK C)(hL:Lk C T fns F R)(hR5:5≤R)(hT:T.Nodup){y z:Str}{p q ap p' r:Pos}{i j:Nat}(hx:cK K y=true)(hi:T[i]?=some y)(hy:iQ K z=true)(hj:T[j]?=some z)(hl:(ap.endLine==p'.line)=true)(e:ex F (n+1) (.getTok i j) st=some o)(hR:bB C R A)(hA:At C W s)(x0:SI C T K ab W env m ad st)(hK:Ag K env)(O:bv C K ab env)(hS:ab C.P):
  wpAny (model C.prog C.w) A (exec (.Assign [.Name y p] (.Call (.Attribute (.Name z q) (Str.ofString "get_token") ap) [] [] p') r) env) (gQ C T K ab W env (ZZ C K env ad st.own) (hid ab ad st.own) o) E s:=by
 have hC:=hL.ok
 simp only[ex]at e
 split at e
 ·rename_i L hlk
  have hlk:=eN hlk
  split at e
  ·rename_i d L' ht
   split at e
   ·cases e
   ·rename_i hk
    cases e
    refine wpAny_Assign_Name (xw x hL hR5 hy hj hl hlk ht hR hA x0 hK λv ae aj am aq x1 hh rv=>?_) rfl
    have hk':i∉aS st:=bN (by simpa using hk)
    have hk2:i∉aS ⟨st.me,put j (.lex L') st.own⟩:=by
     show i∉List.map (·.1) (put j (.lex L') st.own)
     rw[j4 (dQ hlk)];exact hk'
    have rv':aN (hid ab ad (put j (.lex L') st.own)) aj d v:=aN.sub (λb hb=>(hh b).mp hb) _ rv
    refine wpAny_mono (eI (hid.up (ad:=ad) (own:=put j (.lex L') st.own) O) hC x1.sx.1 (aZ.refl _ aj) aq x1.fr hx rv') (λ_ ak ⟨W₂,u,an,au,jQ,bE⟩=>?_) λ_ _ x=>x
    have x2:=x1.set hC hT hS O an au jQ hi bE hk2
    refine⟨rfl,W₂,_,ad,(am.sub λb hb=>hb.elim (λh=>.inl (.inl h)) λh=>.inr ⟨j,_,hlk,h⟩).trans (an.sub eB),au,x2,λb hb=>.inl ((hh b).mp hb)⟩
  ·cases e
 ·cases e
end
abbrev Ea:Kd:=[(nm "a",NameKind.local),(nm "b",.local)]
theorem Dr(p:Params){h:Heap}(X:(KK p).In h):sN h 28 (aF (KK p) 28) (bodyAt p 28) [nm "a",nm "b"]:=
 ⟨⟨_,X _ _ rfl,rfl⟩,codeRec_of X rfl,rfl,lF λ_ _=>by kernel_rfl,rfl,rfl,rfl,rfl,rfl,by show ∀x∈Ea,x.2 ≠ .cell;decide⟩
section
variable{prog:Program}{w:World}{A:Around}{E:Value→Shared→Prop}{s:Shared}{env:Env}{o:Expr}{name:Str}{apos pos:Pos}{Q:Value→Shared→Prop}
theorem tq{e e2:Expr}(hb:attributeBase o name env (eval o env)=eval o env)(hl:(apos.endLine==pos.line)=true)(he:oi e=true)(he2:oi e2=true)
  (h:wpAny (model prog w) A (eval o env) (λov ae=>∀pl,wpAny (model prog w) A (getMethod ov name pl) (λfx ak=>wpAny (model prog w) A (callWith pos fx.1 fx.2 [(false,eval e env),(false,eval e2 env)] []) Q E ak) E ae) E s) :
  wpAny (model prog w) A (eval (.Call (.Attribute o name apos) [e,e2] [] pos) env) Q E s:=by
 rw[arm_eval_Call,hb]
 refine wpAny_bind (wpAny_mono h (λov ae aX=>wpAny_bind (wpAny_standAt ?_)) λ_ _ x=>x)
 unfold methodCall
 have e0:backTo pos (starEach [e,e2] env)=[(false,eval e env),(false,eval e2 env)]:=by rw[aA he,aA he2];rfl
 have e1:methodCallForm (([e,e2]:List Expr).length+([]:List Keyword).length) (backTo pos (starEach [e,e2] env)) (backToKw pos (keywordEach [] env))=true:=by rw[e0];rfl
 rw[e1]
 have hpos:methodCallPos true o env apos pos=pure pos:=by unfold methodCallPos;simp[hl]
 rw[hpos,e0]
 unfold calleeOf
 exact wpAny_bind (wpAny_holding (wpAny_mono (aX _) (λfx ak aw=>wpAny_bind (wpAny_pure aw)) λ_ _ x=>x))
end
section
variable{C:Cx}{T fns:List Str}{F:Nat→List D→Option D}{R n:Nat}{K:Kd}{S ab:Addr→Prop}{W W':Wd}{s:Shared}{env:Env}{m:Str→Option Value}{me:Me}{A:Around}{E:Value→Shared→Prop}{ad:Nat→LA}{st:St}{o:lB}
theorem za(x:CK C)(hL:Lk C T fns F R)(hR5:5≤R)(hT:T.Nodup){y:Str}{q ap p r:Pos}{v:Expr}{j:Nat}{a:X}(hy:iQ K y=true)(hj:T[j]?=some y)(hl:(ap.endLine==p.line)=true)(h:CE T fns K v a)(e:ex F (n+1) (.push j a) st=some o)(hR:bB C R A)(hA:At C W s)(x0:SI C T K ab W env m ad st)(hK:Ag K env):
  wpAny (model C.prog C.w) A (exec (.Expr (.Call (.Attribute (.Name y q) (Str.ofString "push_token") ap) [v] [] p) r) env) (gQ C T K ab W env (ZZ C K env ad st.own) (hid ab ad st.own) o) E s:=by
 have hC:=hL.ok
 simp only[ex]at e
 split at e
 ·rename_i L d hlk hv
  have hlk:=eN hlk
  split at e
  ·rename_i hb
   cases e
   obtain⟨z,e1,e2,e3,e4,e5⟩:=x0.lx j _ hlk
   rw[hj]at e1;cases e1
   obtain⟨sl,n',t0,t1,t2,t3,tl,tw,e6⟩:=e5.dict
   have hpl:=hL.plain y (List.mem_of_getElem? hj)
   refine wpAny_Expr (jw rfl hl (aH h) (wpAny_Name (bj hA.h x0.fr (hK.v y hy) hpl.2 e3 λpl=>?_) hpl.1)) (by unfold interactive;rw[x0.fr.kind];rfl) rfl
   refine lN x hA e4.inst e6 (Bk _) (vm _).2.2.2 CT ?_
   have hfn:∃o fd,s.heap.get? 91=some o∧o.data = .func fd:=by obtain⟨o,e1,e2⟩:=(CV C.w.params (x.now hA)).at';exact⟨o,_,e1,e2⟩
   refine w6 hC hL hT h hv hR hA x0.sx (x0.envok hK) hfn (by rw[x.P];decide) λu ae aj am aq bx=>?_
   have x1:=x0.le hC am aq
   obtain⟨z1,g1,g2,g3,g4,g5⟩:=x1.lx j _ hlk
   obtain⟨k1,k2,k3⟩:=lO x1 hlk
   refine wpAny_mono (yX x g4 g5 aq x1.sx k1 k2 k3 (hR.r.le (by omega)) hb bx) (λu' ak ⟨eu,W₂,an,au,cy⟩=>?_) λ_ _ x=>x
   subst eu
   have Lx:aZ (λb=>b=C.P∨bT (ad j) (.lex L) b) aj W₂:=an.sub λb hb=>hb.imp id λh=>.inl h.symm
   obtain⟨z1,z2,z3⟩:=lQ hC am.pm x1 hlk (L':={ L with back:=L.back++[d] }) rfl (λb hb=>hb) Lx au cy
   exact⟨rfl,W₂,m,ad,z3,au,z1,λb hb=>.inl ((z2 b).mp hb)⟩
  ·cases e
 ·cases e
theorem av.ins{ds:List D}{vs:List Value}{d:D}{v:Value}(k:Int)(h:av S W ds vs)(r:aN S W d v):av S W (fJ k d ds) (fJ k v vs):=by
 unfold fJ
 rw[h.length]
 exact(h.take _).append ⟨v,_,rfl,r,h.drop _⟩
theorem vK(hL:Lk C T fns F R)(hT:T.Nodup){y:Str}{q ap p r:Pos}{kx v:Expr}{i:Nat}{b a:X}(hx:cK K y=true)(hi:T[i]?=some y)(hl:(ap.endLine==p.line)=true)(hk:CE T fns K kx b)(h:CE T fns K v a)(e:ex F (n+1) (.insert i b a) st=some o)(hR:bB C R A)(hA:At C W s)(x0:SI C T K ab W env m ad st)(hK:Ag K env)(hS:ab C.P):
  wpAny (model C.prog C.w) A (exec (.Expr (.Call (.Attribute (.Name y q) (Str.ofString "insert") ap) [kx,v] [] p) r) env) (gQ C T K ab W env (ZZ C K env ad st.own) (hid ab ad st.own) o) E s:=by
 have hC:=hL.ok
 simp only[ex]at e
 split at e
 ·rename_i l kd d h1 h2 h3
  have h1:=fQ h1
  split at e
  ·rename_i l' hins
   cases e
   unfold wF at hins
   split at hins
   ·rename_i g ki
    split at hins
    ·rename_i hb
     cases hins
     obtain⟨z,its,e1,e2,e3,e4,e6,e7⟩:=x0.ls i l h1
     rw[hi]at e1;cases e1
     have hpl:=hL.plain y (List.mem_of_getElem? hi)
     refine wpAny_Expr (tq rfl hl (aH hk) (aH h) (wpAny_Name (bj hA.h x0.fr (hK.v y (j6 hx)) hpl.2 e3 λpl=>?_) hpl.1)) (by unfold interactive;rw[x0.fr.kind];rfl) rfl
     have e6':=e6;rw[hA.h]at e6'
     refine oF e6' PySem.F.slot_list_insert PySem.F.type_list_insert ?_
     refine Calls.callWith_builtin rfl (Calls.evalArgs_plain (Calls.spliced_cons ?_))
     refine wpAny_mono (gN hL hT hk (dR h2) hR hA x0 hK hS) (λkv ae ⟨aj,am,aq,bx⟩=>?_) λ_ _ x=>x
     obtain⟨tk,rfl,_⟩:=bx
     have x1:=x0.le hC am aq
     refine Calls.spliced_cons (wpAny_mono ((ba hL hT n).1 K v a _ d A ae aj _ env m E h h3 hR aq x1.sx (x1.envok hK)) (λu ak ⟨W₂,an,au,bE⟩=>Calls.spliced_nil ?_) λ_ _ x=>x)
     have x2:=x1.le hC an au
     obtain⟨_,wM,_,_,_,hn,uw,Ax⟩:=x2.ls i l h1
     have tr:=uw;rw[au.h]at tr
     have hlen:=Ax.length
     rw[Array.length_toList]at hlen
     refine pn hb.1 hb.2.1 tr (by omega) λh' hl' hs'=>?_
     obtain⟨aO,aD⟩:=au.but hC (X:=(· = (ad i).pb)) (λb hb=>hb▸hn) (λb hb=>hb ▸ .seq tr.isList) (λb o n e=>(hs'.2 b n).trans e) (tk:=ak.toks) (Nat.le_refl _)
     have hX:∀b,b=(ad i).pb→hid ab ad st.own b:=λb hb=>.inr ⟨i,_,h1,hb.symm⟩
     exact mF hC (am.trans an).pm x2 h1 aD aO hl' ((Ax.leX aD hX).ins ki (bE.leX aD hX))
    ·cases hins
   ·cases hins
  ·cases e
 ·cases e
theorem tu(x:CK C){pb:Addr}{items:Array Value}{i:Int}{t:Tok}{k:Nat}(hA:At C W s)(hS:SX C S W.h)(hpl:W.h.PlainList pb items)(hnw:Nw C pb)(hfit:Builtin.List.listFitsIndex i=true)(hk:seqIndex? i items.size=some k)(hz:items.size≤100000)(hR:bl 1 A):
  wpAny (model C.prog C.w) A (call (.ref 28) [.ref pb,.int i t]) (λv s'=>v = .none∧∃W',aZ (λb=>b=C.P∨b=pb) W W'∧At C W' s'∧W'.h.PlainList pb (items.eraseIdxIfInBounds k)) E s:=by
 have hC:=x.ok
 refine wpAny_call (oC (cm:=λ_=>none) hC (Dr _ (x.now hA)) (λy hy=>?_) rfl (λy hy=>?_) hA hS hR (λenv ae aj mm q1 q2 en b6=>?_))
 ·rcases List.mem_cons.mp hy with rfl|hy
  ·rfl
  ·rcases List.mem_cons.mp hy with rfl|hy
   ·rfl
   ·cases hy
 ·have hy:Ea.lookup y=some .free:=hy
  have:=mem_of_lookup hy
  simp[Ea]at this
 have en:Ct C S W Ea env mm ae aj:=en
 have m1:mm (nm "a")=some (.ref pb):=q1 (nm "a") rfl
 have m2:mm (nm "b")=some (.int i t):=q1 (nm "b") rfl
 refine wpAny_execs_cons (wpAny_Delete (wpAny_deleteEach_cons ?_))
 rw[arm_delete_Subscript]
 refine wpAny_bind (wpAny_Name (bj en.at'.h en.fr (en.ag.v (nm "a") rfl) (by decide) m1 ?_) (by decide))
 refine wpAny_bind (wpAny_holding (wpAny_Name (bj en.at'.h en.fr (en.ag.v (nm "b") rfl) (by decide) m2 ?_) (by decide)))
 refine wpAny_bind (wpAny_standAt ?_)
 have BK:aj.h.PlainList pb items:=let ⟨n,e⟩:=hpl;⟨n,en.keep _ _ e⟩
 have pB:=BK;rw[en.at'.h]at pB
 refine wpAny_bind (wpAny_holding (wpAny_delItem_plain pB hfit hk (λh' hl' hs'=>?_) (by rw[sizeLine_eq];omega)))
 refine wpAny_release' ?_
 obtain⟨au,an⟩:=en.at'.but hC (X:=(· = pb)) (λb hb=>hb▸hnw) (λb hb=>hb ▸ .seq pB.isList) (λb o n e=>(hs'.2 b n).trans e) (tk:=ae.toks) (Nat.le_refl _)
 exact wpAny_deleteEach_nil (wpAny_execs_nil ⟨rfl,_,(en.le.leX (.inl rfl)).trans (an.sub λb hb=>.inr hb),au,hl'⟩)
theorem av.erase{ds:List D}{vs:List Value}:∀(k:Nat),av S W ds vs→av S W (ds.eraseIdx k) (vs.eraseIdx k):=by
 intro k
 induction ds generalizing vs k with
 | nil=>intro h;rw[show vs=[]from h];exact rfl
 | cons d ds ih=>
  rintro⟨v,r,rfl,h1,h2⟩
  cases k with
  | zero=>exact h2
  | succ k=>exact⟨v,_,rfl,h1,ih k h2⟩
theorem pC{items:Array Value}{k:Nat}:(items.eraseIdxIfInBounds k).toList=items.toList.eraseIdx k:=by
 unfold Array.eraseIdxIfInBounds
 split
 ·rw[Array.toList_eraseIdx]
 ·rename_i h
  rw[List.eraseIdx_of_length_le (by rw[Array.length_toList];omega)]
theorem xy(x:CK C)(hL:Lk C T fns F R)(hR1:1≤R)(hT:T.Nodup){y:Str}{q q' p r:Pos}{kx:Expr}{i:Nat}{b:X}(hg:lC K (Str.ofString "delitem")=true) (hx:cK K y=true) (hi:T[i]?=some y) (hk:CE T fns K kx b) (e:ex F (n+1) (.delIt i b) st=some o) (hR:bB C R A) (hA:At C W s) (x0:SI C T K ab W env m ad st) (hK:Ag K env) (hS:ab C.P) :
  wpAny (model C.prog C.w) A (exec (.Expr (.Call (.Name (Str.ofString "delitem") q) [.Name y q',kx] [] p) r) env) (gQ C T K ab W env (ZZ C K env ad st.own) (hid ab ad st.own) o) E s:=by
 have hC:=hL.ok
 simp only[ex]at e
 split at e
 ·rename_i l kd h1 h2
  have h1:=fQ h1
  split at e
  ·rename_i l' hdel
   cases e
   unfold ue at hdel
   split at hdel
   ·rename_i g ki
    split at hdel
    ·rename_i hb
     cases hdel
     have hcls:C.mg (nm "delitem")=some (.ref 28):=mg_of x.kin hC.g (by rfl)
     obtain⟨z,its,e1,e2,e3,e4,e6,e7⟩:=x0.ls i l h1
     rw[hi]at e1;cases e1
     have hpl:=hL.plain y (List.mem_of_getElem? hi)
     obtain⟨ofn,e8,e9⟩:=(Dr C.w.params (h:=C.base) x.kin).at'
     refine wpAny_Expr (wpAny_Call_NameR (wpAny_Name (md hC hA (x0.envok hK) hg hcls ?_) (by decide))) (by unfold interactive;rw[x0.fr.kind];rfl) rfl
     refine Calls.callWith_function (o:=ofn) (fd:=aF (KK C.w.params) 28) ?_
     rw[aA rfl,aA (aH hk)]
     refine Calls.evalArgs_plain (Calls.spliced_cons (wpAny_Name (bj hA.h x0.fr (hK.v y (j6 hx)) hpl.2 e3 ?_) hpl.1))
     refine Calls.spliced_cons (wpAny_mono (gN hL hT hk (dR h2) hR hA x0 hK hS) (λkv ae ⟨aj,am,aq,bx⟩=>Calls.spliced_nil ⟨⟨aq.inv.ext _ _ (by rw[x.P];decide) e8,e9⟩,?_⟩) λ_ _ x=>x)
     obtain⟨tk,rfl,_⟩:=bx
     have x1:=x0.le hC am aq
     obtain⟨_,px,_,_,_,hn,qY,mG⟩:=x1.ls i l h1
     have hlen:=mG.length
     rw[Array.length_toList]at hlen
     obtain⟨hb1,hb2,hb3⟩:=hb
     have hsq:seqIndex? ki px.size=some (o4 l ki).toNat:=by
      unfold o4 at hb1 hb2 ⊢
      unfold seqIndex?
      rw[hlen]
      simp only
      rw[if_pos (by simp;exact⟨hb1,hb2⟩)]
     have hsz:px.size≤100000:=by omega
     refine wpAny_mono (tu x aq x1.sx qY hn (by unfold o4 at hb1 hb2;unfold Builtin.List.listFitsIndex;simp;split at hb1<;>simp_all<;>omega) hsq hsz (hR.r.le hR1)) (λv ak ⟨ev,W₂,an,au,uw⟩=>?_) λ_ _ x=>x
     subst ev
     have fN:aZ (λb=>b=C.P∨b=(ad i).pb) aj W₂:=an
     have hX:∀b,(b=C.P∨b=(ad i).pb)→hid ab ad st.own b:=λb hb=>hb.elim (λh=>h ▸ .inl hS) λh=>.inr ⟨i,_,h1,h.symm⟩
     obtain⟨y1,y2⟩:=x1.modO hC h1 (o':=.list (l.eraseIdx (o4 l ki).toNat)) rfl au (X:=λb=>b=C.P∨b=(ad i).pb) (λb hb=>hb.imp id Eq.symm) an (λb hb=>hb▸let ⟨k,q⟩:=uw;⟨_,q,λv hd=>by cases hd⟩) ⟨_,uw,by rw[pC];exact(mG.leX an hX).erase _⟩
     exact⟨rfl,W₂,m,ad,(am.pm.sub eB).trans (an.sub λb hb=>hb.elim (λh=>.inl (.inl h)) λh=>.inr ⟨i,_,h1,h.symm⟩),au,y1,λb hb=>.inl ((y2 b).mp hb)⟩
    ·cases hdel
   ·cases hdel
  ·cases e
 ·cases e
end
section
variable{C:Cx}{T fns:List Str}{F:Nat→List D→Option D}{R n:Nat}{K:Kd}{S ab:Addr→Prop}{W W':Wd}{s:Shared}{env:Env}{m:Str→Option Value}{me:Me}{A:Around}{E:Value→Shared→Prop}{ad:Nat→LA}{st:St}{o:lB}
theorem pD(x:CK C)(hL:Lk C T fns F R){y:Str}{q ap:Pos}{j:Nat}{L:a6}(hy:iQ K y=true)(hj:T[j]?=some y)(hlk:st.own.lookup j=some (.lex L))(hA:At C W s)(x0:SI C T K ab W env m ad st)(hK:Ag K env){Q:Value→Shared→Prop}
  (k:∀t s',At C W s'→Q (.int L.line t) s'):wpAny (model C.prog C.w) A (eval (.Attribute (.Name y q) (Str.ofString "lineno") ap) env) Q E s:=by
 obtain⟨z,e1,e2,e3,e4,e5⟩:=x0.lx j _ hlk
 rw[hj]at e1;cases e1
 obtain⟨sl,n',t0,t1,t2,t3,tl,tw,e6⟩:=e5.dict
 have hpl:=hL.plain y (List.mem_of_getElem? hj)
 exact Attribute_name (wpAny_Name (bj hA.h x0.fr (hK.v y hy) hpl.2 e3 (jx x hA e4.inst e6 w5 rfl λs' a'=>k _ s' a')) hpl.1)
theorem zb(x:CK C)(hL:Lk C T fns F R)(hT:T.Nodup){t e:Expr}{y:Str}{q ap p p':Pos}{t' e':X}{j:Nat}{L:a6}{d:D}{tb g:Bool}{k:Int}(ht:CE T fns K t t')(hy:iQ K y=true)(hj:T[j]?=some y)(he:CE T fns K e e')(hlk:st.own.lookup j=some (.lex L))(h1:mD F n t' st d)(h2:aC d=some tb)(h3:mD F n e' st (.int g k))
  (hR:bB C R A) (hA:At C W s) (x0:SI C T K ab W env m ad st) (hK:Ag K env) (hS:ab C.P) :
  wpAny (model C.prog C.w) A (isTrue (.BoolOp .Or [t,.Compare (.Attribute (.Name y q) (Str.ofString "lineno") ap) [.NotEq] [e] p] p') env (eval (.BoolOp .Or [t,.Compare (.Attribute (.Name y q) (Str.ofString "lineno") ap) [.NotEq] [e] p] p') env)) (f7 C W (tb||decide ((L.line:Int)≠k))) E s:=by
 have hC:=hL.ok
 refine wpAny_isTrue_BoolOp (bL ?_)
 refine wpAny_mono (j5 hL hT ht h1 h2 hR hA x0 hK hS) (λc' ae ⟨ec,aj,am,aq⟩=>?_) λ_ _ x=>x
 subst ec
 cases c' with
 | true=>exact⟨rfl,aj,am,aq⟩
 | false=>
  have x1:=x0.le hC am aq
  refine bL (wpAny_isTrue_Compare1 (pD x hL hy hj hlk aq x1 hK λtl ak au=>?_) (fc (aH he)))
  refine wpAny_mono (gN hL hT he h3 hR au x1 hK hS) (λv bF ⟨bf,aD,aO,gJ⟩=>?_) λ_ _ x=>x
  refine wpAny_mono (dj hR.r aO .ne (.int false L.line) (.int g k) (.int L.line tl) v (decide ((L.line:Int)≠k)) ⟨tl,rfl,nofun⟩ gJ (by simp[a9,eV];by_cases q:(L.line:Int)=k<;>simp[q])) (λu cq ⟨eu,es⟩=>?_) λ_ _ x=>x
  subst eu es
  refine wpAny_truthy_bool ?_
  rw[Bool.false_or]
  cases decide ((L.line:Int)≠k)with
  | true=>exact⟨rfl,bf,am.trans aD,aO⟩
  | false=>exact wpAny_pure ⟨rfl,bf,am.trans aD,aO⟩
theorem tz(x:CK C)(hL:Lk C T fns F R)(hT:T.Nodup)(iL:y8 C T fns F R n){t e1:Expr}{y:Str}{xs zs:List Stmt}{q ap p p' r:Pos}{t' e':X}{j:Nat}{a b:List Y}(ht:CE T fns K t t')(hy:iQ K y=true)(hj:T[j]?=some y)(he:CE T fns K e1 e')(ha:nH T fns K xs a)(hb:nH T fns K zs b)
  (e:ex F (n+1) (.iteLine t' j e' a b) st=some o) (hR:bB C R A) (hA:At C W s) (x0:SI C T K ab W env m ad st) (hK:Ag K env) (O:bv C K ab env) (hS:ab C.P) :
  wpAny (model C.prog C.w) A (exec (.If (.BoolOp .Or [t,.Compare (.Attribute (.Name y q) (Str.ofString "lineno") ap) [.NotEq] [e1] p] p') xs zs r) env) (gQ C T K ab W env (ZZ C K env ad st.own) (hid ab ad st.own) o) E s:=by
 have hC:=hL.ok
 simp only[ex]at e
 split at e
 ·rename_i d L g k h1 h2 h3
  have h2:=eN h2
  have key:∃tb,aC d=some tb∧(if(tb||decide ((L.line:Int)≠k))=true then bC F n a st else bC F n b st)=some o:=by
   split at e
   ·exact⟨true,by assumption,by rw[if_pos (by simp)];exact e⟩
   ·refine⟨false,by assumption,?_⟩
    split at e
    ·rename_i hk;rw[if_neg (by simp[hk])];exact e
    ·rename_i hk;rw[if_pos (by simp[hk])];exact e
   ·cases e
  obtain⟨tb,h4,h5⟩:=key
  refine wpAny_If (wpAny_mono (zb x hL hT ht hy hj he h2 (dR h1) h4 (dR h3) hR hA x0 hK hS) (λc ae ⟨ec,aj,am,aq⟩=>?_) λ_ _ x=>x)
  subst ec
  generalize (tb||decide ((L.line:Int)≠k))=c at h5
  cases c with
  | true=>
   rw[if_pos rfl]at h5 ⊢
   exact wpAny_mono (iL K xs a st o A ae aj ab env m ad E ha h5 hR aq (x0.le hC am aq) hK O hS) (λf s' q=>py hC O hS am aq x0 (λ_ h=>h) q) λ_ _ x=>x
  | false=>
   rw[if_neg (by simp)]at h5 ⊢
   exact wpAny_mono (iL K zs b st o A ae aj ab env m ad E hb h5 hR aq (x0.le hC am aq) hK O hS) (λf s' q=>py hC O hS am aq x0 (λ_ h=>h) q) λ_ _ x=>x
 ·cases e
theorem vL(x:CK C)(hL:Lk C T fns F R)(hT:T.Nodup){t e:Expr}{y z:Str}{q q' ap ap' p p1:Pos}{t' e':X}{i j:Nat}{L L':a6}{d:D}{tb g:Bool}{k:Int}(hy:iQ K y=true)(hi:T[i]?=some y)(hz:iQ K z=true)(hj:T[j]?=some z)(he:CE T fns K e e')(ht:CE T fns K t t')
  (hlk:st.own.lookup i=some (.lex L)) (hlk':st.own.lookup j=some (.lex L')) (h1:mD F n t' st d) (h2:aC d=some tb) (h3:mD F n e' st (.int g k))
  (hR:bB C R A) (hA:At C W s) (x0:SI C T K ab W env m ad st) (hK:Ag K env) (hS:ab C.P) :
  wpAny (model C.prog C.w) A (isTrue (.BoolOp .And [.Compare (.Attribute (.Name y q) (Str.ofString "lineno") ap) [.Eq,.Eq] [.Attribute (.Name z q') (Str.ofString "lineno") ap',e] p,t] p1) env (eval (.BoolOp .And [.Compare (.Attribute (.Name y q) (Str.ofString "lineno") ap) [.Eq,.Eq] [.Attribute (.Name z q') (Str.ofString "lineno") ap',e] p,t] p1) env))
   (f7 C W (decide (L.line=L'.line∧(L'.line:Int)=k∧tb=true))) E s:=by
 have hC:=hL.ok
 refine wpAny_isTrue_BoolOp (bL ?_)
 refine isTrue_chain ?_ (eY (aH he))
 refine pD x hL hy hi hlk hA x0 hK λt1 ae aq=>?_
 show wpAny _ A (do
  let rv←holding [_] (eval _ env)
  standAt _
  let c←holding [_,rv] (compareOp _ _ rv)
  release [_,rv] [c]
  if←holding [c,rv] (truthy c)then testChain _ rv _ _ else pure false) _ E ae
 refine wpAny_bind (wpAny_holding (pD x hL hz hj hlk' aq x0 hK λt2 ak au=>wpAny_bind (wpAny_standAt (wpAny_bind (wpAny_holding ?_)))))
 refine wpAny_mono (dj (S:=hid ab ad st.own) hR.r au .eq (.int false L.line) (.int false L'.line) (.int L.line t1) (.int L'.line t2) (decide (L.line=L'.line)) ⟨t1,rfl,nofun⟩ ⟨t2,rfl,nofun⟩ (by simp[a9,eV];by_cases q:L.line=L'.line<;>simp[q]<;>omega)) (λv bF ⟨ev,es⟩=>?_) λ_ _ x=>x
 subst ev es
 refine wpAny_bind (wpAny_release' (wpAny_bind (wpAny_holding (wpAny_truthy_bool ?_))))
 by_cases hq:L.line=L'.line
 ·rw[if_pos (by simpa using hq)]
  show wpAny _ A (do
   let rv←holding [_] (eval _ env)
   standAt _
   let c←operate [_,rv] (compareOp _ _ rv)
   holding [c] (truthy c)) _ E bF
  refine wpAny_bind (wpAny_holding (wpAny_mono (gN hL hT he h3 hR au x0 hK hS) (λv3 cq ⟨bf,aD,aO,gJ⟩=>wpAny_bind (wpAny_standAt (wpAny_bind (wpAny_operating ?_)))) λ_ _ x=>x))
  refine wpAny_mono (dj hR.r aO .eq (.int false L'.line) (.int g k) (.int L'.line t2) v3 (decide ((L'.line:Int)=k)) ⟨t2,rfl,nofun⟩ gJ (by simp[a9,eV];by_cases q:(L'.line:Int)=k<;>simp[q])) (λv cu ⟨ev,es⟩=>?_) λ_ _ x=>x
  subst ev es
  refine wpAny_holding (wpAny_truthy_bool ?_)
  by_cases hk:(L'.line:Int)=k
  ·simp only[hq,hk,true_and,decide_true]
   have x1:=x0.le hC aD aO
   refine bL (wpAny_mono (j5 hL hT ht h1 h2 hR aO x1 hK hS) (λc dp ⟨ec,cx,cY,eG⟩=>?_) λ_ _ x=>x)
   subst ec
   cases c with
   | true=>exact wpAny_pure ⟨by simp,cx,aD.trans cY,eG⟩
   | false=>exact⟨by simp,cx,aD.trans cY,eG⟩
  ·simp only[hk,decide_false]
   exact⟨by simp,bf,aD,aO⟩
 ·rw[if_neg (by simpa using hq)]
  exact wpAny_pure ⟨by simp[hq],W,.refl ..,au⟩
theorem rd(x:CK C)(hL:Lk C T fns F R)(hT:T.Nodup){t e1 a b:Expr}{y z:Str}{q q' ap ap' p p1 p2 r:Pos}{t' e' a' b':X}{i j:Nat}(hy:iQ K y=true)(hi:T[i]?=some y)(hz:iQ K z=true)(hj:T[j]?=some z)(he:CE T fns K e1 e')(ht:CE T fns K t t')(ha:CE T fns K a a')(hb:CE T fns K b b')
  (e:ex F (n+1) (.retLines i j e' t' a' b') st=some o) (hR:bB C R A) (hA:At C W s) (x0:SI C T K ab W env m ad st) (hK:Ag K env) (hS:ab C.P) :
  wpAny (model C.prog C.w) A (exec (.Return (some (.IfExp (.BoolOp .And [.Compare (.Attribute (.Name y q) (Str.ofString "lineno") ap) [.Eq,.Eq] [.Attribute (.Name z q') (Str.ofString "lineno") ap',e1] p,t] p1) a b p2)) r) env) (gQ C T K ab W env (ZZ C K env ad st.own) (hid ab ad st.own) o) E s:=by
 have hC:=hL.ok
 simp only[ex]at e
 split at e
 ·rename_i L L' g k td h1 h2 h3 h4
  have h1:=eN h1
  have h2:=eN h2
  split at e
  ·rename_i tb h5
   split at e
   ·rename_i d st' hs
    cases e
    refine wpAny_Return_some (wpAny_IfExp (wpAny_mono (vL x hL hT hy hi hz hj he ht h1 h2 (dR h4) h5 (dR h3) hR hA x0 hK hS) (λc ae ⟨ec,aj,am,aq⟩=>?_) λ_ _ x=>x))
    have x1:=x0.le hC am aq
    obtain⟨x2,hh,pk⟩:=x1.evS hS hs
    have fin:∀{v:Expr},CE T fns K v (if L.line=L'.line∧(L'.line:Int)=k∧tb=true then a' else b')→wpAny (model C.prog C.w) A (eval v env) (λv s'=>gQ C T K ab W env (ZZ C K env ad st.own) (hid ab ad st.own) (.ret d) (.ret v) s') E ae:=λhv=>
     wpAny_mono (gN hL hT hv pk hR aq x2 hK hS) (λu ak ⟨W₂,an,au,bE⟩=>⟨u,rfl,W₂,(am.trans an).pm.sub eB,au,aN.sub (λb hb=>.inl hb) _ bE⟩) λ_ _ x=>x
    subst ec
    by_cases hq:L.line=L'.line∧(L'.line:Int)=k∧tb=true
    ·rw[if_pos (by simpa using hq)]
     exact fin (by rw[if_pos hq];exact ha)
    ·rw[if_neg (by simpa using hq)]
     exact fin (by rw[if_neg hq];exact hb)
   ·cases e
  ·cases e
 ·cases e
end
section
variable{C:Cx}{T fns:List Str}{F:Nat→List D→Option D}{R n:Nat}{K:Kd}{S ab:Addr→Prop}{W W':Wd}{s:Shared}{env:Env}{m:Str→Option Value}{me:Me}{A:Around}{E:Value→Shared→Prop}{ad:Nat→LA}{st:St}{o:lB}
theorem CR.leXe{S X:Addr→Prop}{W W':Wd}{m:Str→Option Value}{l:Addr}{ds:List D}(c:CR C S W env m l ds)(L:aZ X W W')(hX:∀b,X b→S b)(h:∀b,X b→b=C.P∨Cu env W.h b)(hl:¬X l):CR C S W' env m l ds:=
 ⟨c.fr.leXe L h,let ⟨its,r,q⟩:=c.list;⟨its,bo r L.ext hl,q.leX L hX⟩⟩
abbrev LP(C:Cx)(a:LA):Addr→Prop:=λb=>b=C.P∨bT a (.lex default) b
theorem kP:∀{k:Nat} {L L':a6} {ds:List D},toks k L=some (ds,L')→L'.page=L.page∧ds.length=k
 | 0,_,_,_,h=>by cases h;exact⟨rfl,rfl⟩
 | k+1,L,L',ds,h=>by
  unfold toks at h
  split at h
  ·rename_i d am h1
   split at h
   ·rename_i ds' an h2
    cases h
    obtain⟨e1,e2⟩:=kP h2
    exact⟨e1.trans (mJ (mK h1).1),by rw[List.length_cons,e2]⟩
   ·cases h
  ·cases h
theorem oI(x:CK C)(hL:Lk C T fns F R)(hR5:5≤R)(hT:T.Nodup)(hR:bB C R A){a:LA}{page:Str}{y:Str}{sc:Scope}{env':Env}{q ap p' p1 pos:Pos}{i:Expr}{l:Addr}(hl:Nw C l)(hline:(ap.endLine==p'.line)=true)(hK:Ag sc.names env')(hy:iQ sc.names y=true)(hyt:y≠Str.ofString "turn") (hyd:(y==("__debug__" : Str))=false∧(y==("__classdict__" : Str))=false)
  {jt:Nat} (htn:T[jt]?=some (Str.ofString "turn")) (hto:cK sc.names (Str.ofString "turn")=true) :
  ∀(xs:List D) (L L':a6) (ds done:List D) (s:Shared) (W:Wd) (S:Addr→Prop) (m:Str→Option Value) (fp:List Addr) (it:Value),toks xs.length L=some (ds,L')→L.page=page→At C W s→SX C S W.h→bv C sc.names S env'→CR C S W env' m l done→S l→cC C S W (.one jt) fp it xs→(∀b∈fp,S b)→(done++ds).length≤100000→
  m y=some (.ref a.xa)→eK C S W page a.xa a.d a.f a.fx a.rf a.cp a.ca a.al→bS C S W L a.d a.pb a.al a.f→(S a.d∧S a.al∧S a.pb)→(∀b,bT a (.lex L) b→b≠l∧b∉fp∧¬cU sc.names env' b)→
  codeAny (model C.prog C.w) A (.compLoop (.ListComp (.Call (.Attribute (.Name y q) (Str.ofString "get_token") ap) [] [] p') [⟨.Name (Str.ofString "turn") p1,i,[],0⟩] sc pos) 0 it (.ref l) env')
   (A4 λs'=>∃W' m',aZ (λb=>Zs C sc.names env' l fp b∨bT a (.lex L) b) W W'∧At C W' s'∧CR C S W' env' m' l (done++ds)∧bS C S W' L' a.d a.pb a.al a.f) s
 | [],L,L',ds,done,s,W,S,m,fp,it,ht,hp,hA,hS,O,c,hSl,hit,hf,hsz,hm,I,M,hSd,hnb=>by
  have hC:=hL.ok
  cases ht
  refine fj rfl (λg' e=>by cases e) (wpAny_mono (eF hC hR hA hS (.one (p:=p1) hto htn) hf hit) (λr ae z=>?_) λ_ _ x=>x)
  cases r with
  | some=>exact z.elim
  | none=>
   obtain⟨aj,am,aq⟩:=z
   have hlf:¬l∈fp:=λq=>by obtain⟨its,h1,_⟩:=c.list;exact(hit.nf l q).2.2 its h1
   refine⟨aj,m,am.sub λb hb=>.inl (.inr (.inr (.inr hb))),aq,?_,M.leX am hf (λq=>(hnb _ (.inr (.inl rfl))).2.1 q) (λq=>(hnb _ (.inl rfl)).2.1 q) (λq=>(hnb _ (.inr (.inr rfl))).2.1 q)⟩
   rw[List.append_nil]
   exact c.leX am hf (λb hb=>.inr (hit.nf b hb).2.1) hlf
 | d0::xs,L,L',ds,done,s,W,S,m,fp,it,ht,hp,hA,hS,O,c,hSl,hit,hf,hsz,hm,I,M,hSd,hnb=>by
  have hC:=hL.ok
  rw[List.length_cons]at ht
  unfold toks at ht
  split at ht
  ·rename_i d am ht1
   split at ht
   ·rename_i ds' an ht2
    cases ht
    obtain⟨g1,g2,g3⟩:=mK ht1
    refine fj rfl (λg' e=>by cases e) (wpAny_mono (eF (E:=i6) hC hR hA hS (.one (p:=p1) hto htn) hf hit) (λr ae z=>?_) λ_ _ x=>x)
    cases r with
    | none=>exact z.elim
    | some v=>
     refine wpAny_mono z (λ_ ak ⟨W₂,an,au,rv,eP⟩=>?_) λ_ _ x=>x
     have hlf:¬l∈fp:=λq=>by obtain⟨its,h1,_⟩:=c.list;exact(hit.nf l q).2.2 its h1
     have kF:=c.leX an hf (λb hb=>.inr (hit.nf b hb).2.1) hlf
     have mh:SX C S W₂.h:=hS.leX an λb hb _=>(eP.nf b hb).1
     have pA:=I.leX an hf
     have cy:=M.leX an hf (λq=>(hnb _ (.inr (.inl rfl))).2.1 q) (λq=>(hnb _ (.inl rfl)).2.1 q) (λq=>(hnb _ (.inr (.inr rfl))).2.1 q)
     refine wpAny_mono (iU hC hT hR O au hS.1 kF.fr (.one (p:=p1) hto htn) rv rfl) (λ_ bF ⟨bf,dG,k⟩=>?_) λ_ _ x=>x
     have hmut:∀b,cU sc.names env' b→S b:=O.mutS
     have A6:CR C S bf env' dG l done:=by
      obtain⟨its,h1,h2⟩:=kF.list
      refine⟨k.fr,its,?_,h2.leX k.le hmut⟩
      exact bo h1 k.le.ext (λq=>(kF.fr.mut O q).2 (.list h1))
     have o8:SX C S bf.h:=mh.leX k.le λb hb _=>k.fr.there O hb
     have nO:=pA.leX k.le hmut
     have nQ:=cy.leX k.le hmut (hnb _ (.inr (.inl rfl))).2.2 (hnb _ (.inl rfl)).2.2 (hnb _ (.inr (.inr rfl))).2.2
     have fA:cC C S bf (.one jt) fp it xs:=eP.leX k.le hmut λb hb q=>(kF.fr.mut O q).2 (eP.nf b hb).2.1
     have Ay:dG y=some (.ref a.xa):=(k.other y λj hj e=>by
      rcases List.mem_cons.mp hj with rfl|hj
      ·rw[htn]at e;exact hyt (Option.some.inj e).symm
      ·cases hj).trans hm
     show wpAny _ A (qA [] env') _ _ bF
     refine wpAny_pure ?_
     rw[if_pos rfl]
     show wpAny _ A (eval _ env') _ _ bF
     obtain⟨sl,n',t0,t1,t2,t3,tl,tw,e⟩:=nQ.dict
     refine jv rfl hline (wpAny_Name (bj k.at'.h k.fr (hK.v y hy) hyd.2 Ay λpl=>?_) hyd.1)
     refine lN x k.at' nO.inst e (w0 _) (vm _).2.2.1 Al ?_
     have hfn:∃o fd,bF.heap.get? 84=some o∧o.data = .func fd:=by obtain⟨o,e1,e2⟩:=(Bm C.w.params (x.now k.at')).at';exact⟨o,_,e1,e2⟩
     refine sQ hfn (wpAny_mono (oG (E:=i6) x (hp▸nO) nQ k.at' o8 hSd.1 hSd.2.1 hSd.2.2 (hR.r.le hR5) g1 g2 g3) (λtv cq ⟨aB,aU,bH,vo,kK⟩=>?_) λ_ _ x=>x)
     have re:aZ (λb=>b=C.P∨bT a (.lex L) b) bf aB:=aU.sub λb hb=>by
      rcases hb with h|h|h|h
      ·exact .inl h
      ·exact .inr (.inr (.inl h.symm))
      ·exact .inr (.inr (.inr h.symm))
      ·exact .inr (.inl h.symm)
     have hX4:∀b,(b=C.P∨bT a (.lex L) b)→S b:=λb hb=>by
      rcases hb with h|h|h|h
      ·exact h▸hS.1
      ·exact h▸hSd.2.2
      ·exact h▸hSd.1
      ·exact h▸hSd.2.1
     have nf4:∀b,(b=C.P∨bT a (.lex L) b)→b=C.P∨Cu env' bf.h b:=λb hb=>hb.imp id λh=>by
      refine⟨λq=>(hnb b h).2.2 (.inl q),λob eo=>?_⟩
      obtain⟨ob',e1,e2⟩:=bS.notCell nQ (L':=L) b h
      rw[e1]at eo;cases eo;exact e2
     have i8:=A6.leXe re hX4 nf4 (λq=>q.elim (hl.nP hC) λq=>(hnb l q).1 rfl)
     have dH:SX C S aB.h:=o8.leX re λb hb _=>by
      rcases hb with h|h
      ·exact h▸gK hC bH
      ·obtain⟨ob',e1,e2⟩:=bS.notCell vo (L':=L) b h;exact⟨_,e1⟩
     have sT:=nO.leX re hX4
     have eQ:cC C S aB (.one jt) fp it xs:=fA.leX re hX4 λb hb q=>q.elim ((fA.nw b hb).nP hC) λq=>(hnb b q).2.1 hb
     refine wpAny_mono (wK hC bH hl hSl i8 kK (by rw[List.length_append]at hsz;omega)) (λ_ cu ⟨dI,bI,dJ,kG⟩=>?_) λ_ _ x=>x
     have hX5:∀b,b=l→S b:=λb h=>h▸hSl
     have hl5:∀{b:Addr},bT a (.lex L) b→¬b=l:=λh=>(hnb _ h).1
     have qU:=vo.leX bI hX5 (hl5 (.inr (.inl rfl))) (hl5 (.inl rfl)) (hl5 (.inr (.inr rfl)))
     have ES:SX C S dI.h:=dH.leX bI λb hb _=>by obtain⟨its,⟨o,e,_⟩,_⟩:=kG.list;exact⟨o,hb▸e⟩
     have g7:cC C S dI (.one jt) fp it xs:=eQ.leX bI hX5 λb hb q=>hlf (q▸hb)
     refine codeAny_mono (oI x hL hR5 hT hR hl hline hK hy hyt hyd htn hto xs am L' ds' (done++[d]) cu dI S dG fp it ht2 ((mJ g1).trans hp) dJ ES O kG hSl g7 hf (by rw[List.append_assoc];exact hsz) Ay (sT.leX bI hX5) qU hSd hnb) (λr s' z=>?_)
     cases r with
     | error=>exact z.elim
     | ok f=>
      obtain⟨cx,vx,cY,eG,sM,jr⟩:=z
      refine⟨cx,vx,((((an.sub λb hb=>?_).trans (k.le.sub λb hb=>?_)).trans (re.sub λb hb=>?_)).trans (bI.sub λb hb=>?_)).trans cY,eG,by rw[List.append_assoc]at sM;exact sM,jr⟩
      ·exact .inl (.inr (.inr (.inr hb)))
      ·exact .inl (.inr (.inl hb))
      ·exact hb.elim (λh=>.inl (.inl h)) .inr
      ·exact .inl (.inr (.inr (.inl hb)))
   ·cases ht
  ·cases ht
end
section
variable{C:Cx}{T fns:List Str}{F:Nat→List D→Option D}{R n:Nat}{K:Kd}{S ab:Addr→Prop}{W W':Wd}{s:Shared}{env:Env}{m:Str→Option Value}{me:Me}{A:Around}{E:Value→Shared→Prop}{ad:Nat→LA}{st:St}{o:lB}
def RG(C:Cx)(S:Addr→Prop)(W:Wd)(a:LA)(L L':a6)(ds:List D)(l c:Addr)(s':Shared):Prop:=
 ∃Wf,aZ (λb=>b=C.P∨bT a (.lex L) b) W Wf∧At C Wf s'∧aN (aM S [c]) Wf (.list ds) (.ref l)∧bS C (aM S [c]) Wf L' a.d a.pb a.al a.f∧W.h.get? c=none∧Nw C c∧∃mm,s'.heap.Ns c mm
theorem oJ(x:CK C)(hL:Lk C T fns F R)(hR5:5≤R)(hT:T.Nodup){y:Str}{q ap p' p1 p2 p3 p4 pos pos':Pos}{kk:Nat}{k:Int}{sc:Scope}{a:LA}{L L':a6}{ds:List D}{use:Option (Value→Sem Unit)}{Q:Value→Shared→Prop}(hline:(ap.endLine==p'.line)=true)(hg:lC K (Str.ofString "range")=true) (hsc:aW sc K=true)
  (hnm:sc.names=[(Str.ofString ".0",.local),(Str.ofString "turn",.local),(y,.free)]) (h0:0≤k) (h1:k≤1000) {j jt:Nat} (hj:T[j]?=some y) (htn:T[jt]?=some (Str.ofString "turn")) (hyK:K.lookup y=some .cell∨K.lookup y=some .free)
  (ht:toks k.toNat L=some (ds,L')) (hR:bB C R A) (hA:At C W s) (hS:SX C S W.h) (hX:bG C T K S W env m []) (hm:m y=some (.ref a.xa)) (I:eK C S W L.page a.xa a.d a.f a.fx a.rf a.cp a.ca a.al) (M:bS C S W L a.d a.pb a.al a.f) (hSd:S a.d∧S a.al∧S a.pb)
  (hQ:∀l c s',RG C S W a L L' ds l c s'→compPost (model C.prog C.w) A E use Q (.ref l) c (.ok .next) s') :
  wpAny (model C.prog C.w) A (comprehension (.ListComp (.Call (.Attribute (.Name y q) (Str.ofString "get_token") ap) [] [] p') [⟨.Name (Str.ofString "turn") p1,.Call (.Name (Str.ofString "range") p2) [.Constant (.int k) kk p3] [] p4,[],0⟩] sc pos) sc env pos' (newList []) false
   (firstIter [⟨.Name (Str.ofString "turn") p1,.Call (.Name (Str.ofString "range") p2) [.Constant (.int k) kk p3] [] p4,[],0⟩] env) use) Q E s:=by
 have hC:=hL.ok
 obtain⟨hk,hnd,hfree,_⟩:=dq hsc
 have hyf:(y,NameKind.free)∈sc.names:=by rw[hnm];simp
 have hyne:y≠Str.ofString ".0" ∧y≠Str.ofString "turn" :=by
  rw[hnm]at hnd
  simp only[List.map_cons,List.map_nil,List.nodup_cons,List.mem_cons,List.not_mem_nil,or_false,not_or]at hnd
  exact⟨λq=>hnd.1.2 q.symm,λq=>hnd.2.1 q.symm⟩
 have hlu:sc.names.lookup y=some .free:=cQ hnd hyf
 obtain⟨cl,hclos,hc1,hc2⟩:=jd (sc:=sc) (env:=env) λx hx=>let ⟨c,h1,_⟩:=hX.fr.cell x (hX.ag.c x (hfree x hx));⟨c,h1⟩
 have hi:CE T fns K (.Call (.Name (Str.ofString "range") p2) [.Constant (.int k) kk p3] [] p4) (.range (.const (.int true k))):=.range hg .int
 have hxs:gY (ev F 1) (.one jt) (.range (.const (.int true k))) []=some ((List.range k.toNat).map λi:Nat=>D.int true (i:Int)):=by
  simp[gY,ev,h0,h1]
 refine wpAny_comprehension_free rfl (λx=>mj rfl env x) hclos hk (λx hx he=>cQ hnd (by rw[←he];exact hx)) ?_
 show wpAny _ A (eval _ env) _ E s
 refine wpAny_mono (o7 hL (ba hL hT 1).1 hi hxs hR hA hS hX) (λxv ae z=>wpAny_mono z (λit ak ⟨fp,W₂,cy,eP⟩=>?_) λ_ _ x=>x) λ_ _ x=>x
 refine wpAny_newObj_type ?_
 have hl2:=aK cy.at' (Nat.le_refl _)
 have nwl:Nw C ak.heap.objs.size:=cy.at'.inv.nw (Nat.le_refl _)
 have hl0:W.h.get? ak.heap.objs.size=none:=bu hC cy.le (nwl.nP hC) hl2
 obtain⟨aO,aD⟩:=cy.at'.keepW (bt _ { cls:=.type "list",dict:=none,data:=.seq ([]:List Value).toArray }) (Nat.le_refl ak.toks)
 have d7:(ak.heap.push { cls:=.type "list",dict:=none,data:=.seq ([]:List Value).toArray }).IsList ak.heap.objs.size #[]:=⟨_,Heap.get?_push_size _ rfl,rfl,_,rfl⟩
 generalize hl:ak.heap.objs.size=l at hl2 nwl hl0 d7 ⊢
 generalize hH:ak.heap.push { cls:=.type "list",dict:=none,data:=.seq ([]:List Value).toArray }=H at aO aD d7 ⊢
 have mh:=hS.le hC cy.le cy.at'
 have wO:SX C (aM S fp) W₂.h:=⟨.inl hS.1,λb hb=>hb.elim (mh.2 b) λq=>(cy.fresh b q).2.2⟩
 have wP:SX C (aM (aM S fp) [l]) H:=⟨.inl (.inl hS.1),λb hb=>hb.elim ((wO.le hC aD aO).2 b) λq=>by
  rcases List.mem_cons.mp q with rfl|q
  ·obtain⟨o,ho,_⟩:=d7;exact⟨o,ho⟩
  ·cases q⟩
 have d6:ay C env H m:=(hX.fr.ext cy.le.ext).ext aD.ext
 refine wpAny_mono (qH (K:=K) (m:=m) hsc hC aO wP d6 hX.ag (λx c h=>(hc1 x c h).2) hc2 (λx c h=>?_)) (λcenv cq ⟨aB,dH,N⟩=>?_) λ_ _ x=>x
 ·obtain⟨c',k1,⟨o,ho,_⟩,_⟩:=d6.cell x (hX.ag.c x (hfree x (hc1 x c h).1))
  rw[(hc1 x c h).2]at k1;cases k1
  exact⟨o,ho⟩
 generalize hE:{ cenv with scope:=relabel sc env }=env' at N ⊢
 have jS:Le C W₂ aB:=aD.trans N.le
 have cz:Le C W aB:=cy.le.trans jS
 have back:∀b,b≠C.P→H.get? b=none→W₂.h.get? b=none:=λb hb q=>bu hC aD hb q
 have qI:∀b,dH b→aM S fp b∨W₂.h.get? b=none:=λb hb=>by
  by_cases hP:b=C.P
  ·exact .inl (.inl (hP▸hS.1))
  rcases N.gr b hb with h|h
  ·rcases h with h|h
   ·exact .inl h
   ·rcases List.mem_cons.mp h with h|h
    ·exact .inr (h▸hl2)
    ·cases h
  ·exact .inr (back b hP h)
 have ui:∀b,dH b→S b∨W.h.get? b=none:=λb hb=>by
  by_cases hP:b=C.P
  ·exact .inl (hP▸hS.1)
  rcases qI b hb with h|h
  ·rcases h with h|h
   ·exact .inl h
   ·exact .inr (cy.fresh b h).1
  ·exact .inr (bu hC cy.le hP h)
 have eQ:cC C dH aB (.one jt) fp it _:=(eP.grow qI).leX (jS.leX (X:=(· = C.P)) rfl) (λb hb=>hb▸N.sx.1) (λb hb=>(eP.nw b hb).nP hC)
 have i8:CR C dH aB env' (jR sc m) l []:=⟨N.fr,#[],bo d7 N.le.ext (nwl.nP hC),rfl⟩
 have upS:∀b,S b→dH b:=λb hb=>N.up _ (.inl (.inl hb))
 have exb:∀b,bT a (.lex L) b→∃ob,W.h.get? b=some ob:=λb hb=>let ⟨ob,e,_⟩:=bS.notCell M (L':=L) b hb;⟨ob,e⟩
 have sT:eK C dH aB L.page a.xa a.d a.f a.fx a.rf a.cp a.ca a.al:=(I.grow ui).leX (cz.leX (X:=(· = C.P)) rfl) λb hb=>hb▸N.sx.1
 have nP1:∀{b:Addr},Nw C b→¬b=C.P:=λh=>h.nP hC
 have vo:bS C dH aB L a.d a.pb a.al a.f:=(M.grow ui).leX (cz.leX (X:=(· = C.P)) rfl) (λb hb=>hb▸N.sx.1) (nP1 M.nw.1) (nP1 M.nw.2.1) (nP1 M.nw.2.2)
 have Ds:jR sc m y=some (.ref a.xa):=by unfold jR;rw[if_neg (by unfold cK;rw[hlu];simp)];exact hm
 have hnb:∀b,bT a (.lex L) b→b≠l∧b∉fp∧¬cU sc.names env' b:=λb hb=>by
  obtain⟨ob,e⟩:=exb b hb
  have bP:b≠C.P:=by rcases hb with rfl|rfl|rfl;exact nP1 M.nw.2.1;exact nP1 M.nw.1;exact nP1 M.nw.2.2
  refine⟨λq=>(by rw[q,hl0]at e;cases e),λq=>(by rw[(cy.fresh b q).1]at e;cases e),λq=>?_⟩
  have:=bu hC cy.le bP (back b bP (N.nw b q))
  rw[this]at e;cases e
 have hyd:=hL.plain y (List.mem_of_getElem? hj)
 have hto:cK sc.names (Str.ofString "turn")=true:=by
  unfold cK
  rw[show sc.names.lookup (Str.ofString "turn")=some .local from cQ hnd (by rw[hnm];simp)]
 have loop:codeAny (model C.prog C.w) A (.compLoop (.ListComp (.Call (.Attribute (.Name y q) (Str.ofString "get_token") ap) [] [] p') [⟨.Name (Str.ofString "turn") p1,.Call (.Name (Str.ofString "range") p2) [.Constant (.int k) kk p3] [] p4,[],0⟩] sc pos) 0 it (.ref l) env') (compPost (model C.prog C.w) A E use Q (.ref l) cenv.locals) cq:=by
  refine codeAny_mono (oI x hL hR5 hT hR nwl hline N.ag (by unfold iQ;rw[hlu]) hyne.2 ⟨hyd.1,hyd.2⟩ htn hto _ L L' ds [] cq aB dH (jR sc m) fp it (by simpa using ht) rfl N.at' N.sx N.own i8 (N.up _ (.inr (.head _))) eQ (λb hb=>N.up _ (.inl (.inr hb))) (by have:=(kP ht).2;simp;omega) Ds sT vo ⟨upS _ hSd.1,upS _ hSd.2.1,upS _ hSd.2.2⟩ hnb) (λr s' q=>?_)
  cases r with
  | error=>exact q.elim
  | ok f=>
   obtain⟨dI,Em,bI,dJ,kG,qU⟩:=q
   have:=hQ l cenv.locals s' ?_
   ·cases use<;>exact this
   ·obtain⟨its,hls,hrl⟩:=kG.list
    have lnS:¬S l:=λq=>by obtain⟨o,ho⟩:=hS.2 _ q;rw[hl0]at ho;cases ho
    have up2:∀b,aM S [cenv.locals] b→dH b:=λb hb=>by
     rcases hb with h|h
     ·exact upS _ h
     ·rcases List.mem_cons.mp h with h|h
      ·rw[h,←N.loc];exact N.own.locS
      ·cases h
    have lnc:l≠cenv.locals:=λq=>by
     rw[←N.loc]at q
     exact(kG.fr.mut N.own (.inl q)).2 (.list hls)
    refine⟨dI,⟨λb o hb e0=>bI.ext.step (λq=>?_) (cz.ext b o (λh=>hb (.inl h)) e0),Nat.le_trans cz.k bI.k,λt ht=>(bI.g t (Nat.lt_of_lt_of_le ht cz.k)).trans (cz.g t ht),λcv q ne h=>bI.cr cv q ne (cz.cr cv q ne h),λi z h=>bI.gn i z (cz.gn i z h)⟩,dJ,⟨l,its,rfl,λq=>?_,hls,av.sub up2 _ hrl⟩,qU.sub up2,?_,?_,?_⟩
    ·rcases q with(h|h|h|h)|h
     ·exact hb (.inl h)
     ·have:=bu hC cy.le (λh=>hb (.inl h)) (back b (λh=>hb (.inl h)) (N.nw b h))
      rw[this]at e0;cases e0
     ·rw[h,hl0]at e0;cases e0
     ·rw[(cy.fresh b h).1]at e0;cases e0
     ·exact hb (.inr h)
    ·rcases q with h|h
     ·exact lnS h
     ·rcases List.mem_cons.mp h with h|h
      ·exact lnc h
      ·cases h
    ·have hP:cenv.locals≠C.P:=by rw[←N.loc];exact N.fr.nP
     exact bu hC cy.le hP (back _ hP (by rw[←N.loc];exact N.nw _ (.inl rfl)))
    ·rw[←N.loc];exact N.own.locN
    ·obtain⟨ml,h1,_⟩:=kG.fr.ns
     rw[dJ.h,N.loc]at h1
     exact⟨ml,h1⟩
 refine jq rfl loop (eQ.again N.at' loop)
end
mutual
theorem aN.hide{S X:Addr→Prop}{W:Wd}(hN:∀b,X b→(∀its,¬W.h.IsList b its)∧∀its,¬W.h.IsTuple b its):∀(d:D) {v:Value},aN S W d v→aN (λb=>S b∨X b) W d v
 | .none,_,x=>x
 | .bool _,_,x=>x
 | .int _ _,_,x=>x
 | .str _ _,_,x=>x
 | .list l,_,⟨a,its,e,n,h,r⟩=>⟨a,its,e,λq=>q.elim n λq=>(hN a q).1 _ h,h,av.hide hN l r⟩
 | .tup l,_,⟨a,its,e,n,h,r⟩=>⟨a,its,e,λq=>q.elim n λq=>(hN a q).2 _ h,h,av.hide hN l r⟩
theorem av.hide{S X:Addr→Prop}{W:Wd}(hN:∀b,X b→(∀its,¬W.h.IsList b its)∧∀its,¬W.h.IsTuple b its):∀(ds:List D) {vs:List Value},av S W ds vs→av (λb=>S b∨X b) W ds vs
 | [],_,x=>x
 | d::ds,_,⟨v,r,e,h,hr⟩=>⟨v,r,e,aN.hide hN d h,av.hide hN ds hr⟩
end
section
variable{C:Cx}{T fns:List Str}{F:Nat→List D→Option D}{R n:Nat}{K:Kd}{S ab:Addr→Prop}{W W':Wd}{s:Shared}{env:Env}{m:Str→Option Value}{me:Me}{A:Around}{E:Value→Shared→Prop}{ad:Nat→LA}{st:St}{o:lB}
def LA.ims(a:LA)(b:Addr):Prop:=a.xa=b∨a.f=b∨a.fx=b∨a.rf=b∨a.cp=b∨a.ca=b
theorem eK.ims{page:Str}{a:LA}(I:eK C S W page a.xa a.d a.f a.fx a.rf a.cp a.ca a.al){b:Addr}(h:a.ims b):∃o,W.h.get? b=some o:=by
 rcases h with rfl|rfl|rfl|rfl|rfl|rfl
 ·exact⟨_,I.inst⟩
 ·obtain⟨o,_,ho,_⟩:=I.fo;exact⟨o,ho⟩
 ·obtain⟨_,⟨o,_,_,ho,_⟩,_⟩:=I.fxo;exact⟨o,ho⟩
 ·obtain⟨o,_,_,_,_,_,ho,_⟩:=I.rfo;exact⟨o,ho⟩
 ·obtain⟨_,⟨o,ho,_⟩,_⟩:=I.cpo;exact⟨o,ho⟩
 ·obtain⟨o,ho,_⟩:=I.cao;exact⟨o,ho⟩
theorem SI.away(x:SI C T K ab W env m ad st){c:Addr}(hN:(∀its,¬W.h.IsList c its)∧∀its,¬W.h.IsTuple c its)(hcS:¬hid ab ad st.own c)(hfr:Cu env W.h c)(hLx:∀i L,st.own.lookup i=some (.lex L)→¬(ad i).ims c)(L:aZ (· = c) W W'):SI C T K ab W' env m ad st:=by
 have hN':∀b,b=c→(∀its,¬W.h.IsList b its)∧∀its,¬W.h.IsTuple b its:=λb h=>h▸hN
 have rp:∀{d:D} {v:Value},aN (hid ab ad st.own) W d v→aN (hid ab ad st.own) W' d v:=λr=>aN.sub (λb hb=>.inl hb) _ (aN.leX (S:=λb=>hid ab ad st.own b∨b=c) L (λb hb=>.inr hb) (aN.hide (X:=(· = c)) hN' _ r))
 have rpL:∀{d:List D} {v:List Value},av (hid ab ad st.own) W d v→av (hid ab ad st.own) W' d v:=λr=>av.sub (λb hb=>.inl hb) _ (av.leX (S:=λb=>hid ab ad st.own b∨b=c) L (λb hb=>.inr hb) (av.hide (X:=(· = c)) hN' _ r))
 have no:∀{i:Nat} {o:Ob} {b:Addr},st.own.lookup i=some o→bT (ad i) o b→¬b=c:=λh hb q=>hcS (q ▸ .inr ⟨_,_,h,hb⟩)
 refine⟨x.sx.leX L λb hb hs=>absurd (hb▸hs) hcS,x.fr.leXe L λb hb=>.inr (hb▸hfr),λi d h=>?_,λi l h=>?_,λi Lx h=>?_,x.inj,λi o b h hb=>?_,x.nd⟩
 ·obtain⟨y,v,e1,e2,e3⟩:=x.vars i d h
  exact⟨y,v,e1,e2,rp e3⟩
 ·obtain⟨y,its,e1,e2,e3,e4,e6,e7⟩:=x.ls i l h
  exact⟨y,its,e1,e2,e3,e4,aE e6 L.ext (no h rfl),rpL e7⟩
 ·obtain⟨y,e1,e2,e3,e4,e5⟩:=x.lx i Lx h
  obtain⟨n1,n2,n3,n4,n5,n6⟩:=e4.nS
  have nc:∀{b:Addr},(ad i).ims b→¬hid ab ad st.own b→¬(hid ab ad st.own b∨b=c):=λhb n q=>q.elim n λq=>hLx i Lx h (q▸hb)
  have e4':eK C (λb=>hid ab ad st.own b∨b=c) W Lx.page (ad i).xa (ad i).d (ad i).f (ad i).fx (ad i).rf (ad i).cp (ad i).ca (ad i).al:=
   ⟨⟨nc (.inl rfl) n1,nc (.inr (.inl rfl)) n2,nc (.inr (.inr (.inl rfl))) n3,nc (.inr (.inr (.inr (.inl rfl)))) n4,nc (.inr (.inr (.inr (.inr (.inl rfl))))) n5,nc (.inr (.inr (.inr (.inr (.inr rfl))))) n6⟩,e4.inst,e4.fo,e4.fxo,e4.rfo,e4.cpo,e4.cao⟩
  refine⟨y,e1,e2,e3,(e4'.leX L λb hb=>.inr hb).sub λb hb=>.inl hb,⟨?_,?_,?_,e5.nw,e5.ne⟩⟩
  ·exact fO e5.dict L.ext (no h (.inr (.inl rfl)))
  ·obtain⟨its,h1,h2⟩:=e5.pbo
   exact⟨its,aE h1 L.ext (no h (.inl rfl)),rpL h2⟩
  ·obtain⟨t,e⟩:=e5.alo;exact⟨t,aE e L.ext (no h (.inr (.inr rfl)))⟩
 ·obtain⟨k1,k2,k3,k4⟩:=x.out i o b h hb
  obtain⟨ob,hob⟩:=x.there h hb
  obtain⟨_,hob',hsm⟩:=L.ext _ _ (no h hb) hob
  exact⟨k1,k2,k3,λob' e v=>by rw[hob']at e;cases e;rw[hsm.parts.2.1];exact k4 _ hob v⟩
theorem vM{h:Heap}{c:Addr}{mm:Str→Option Value}(hns:h.Ns c mm):(∀its,¬h.IsList c its)∧∀its,¬h.IsTuple c its:=by
 obtain⟨o,es,ep,ho,hd,_⟩:=hns
 exact⟨λits ⟨o',e,_,n,hd'⟩=>(by rw[ho]at e;cases e;rw[hd]at hd';cases hd'),λits ⟨o',e,_,n,hd'⟩=>(by rw[ho]at e;cases e;rw[hd]at hd';cases hd')⟩
theorem zc(x:CK C)(hL:Lk C T fns F R)(hR5:5≤R)(hT:T.Nodup)(hturn:∃jt:Nat,T[jt]?=some (Str.ofString "turn")) {y z:Str} {p q ap p' p1 p2 p3 p4 p5 r:Pos} {i j kk:Nat} {k:Int} {sc:Scope} (hx:cK K y=true) (hi:T[i]?=some y) (hz:iQ K z=true) (hj:T[j]?=some z) (hline:(ap.endLine==p'.line)=true) (hg:lC K (Str.ofString "range")=true) (hsc:aW sc K=true)
  (hnm:sc.names=[(Str.ofString ".0",.local),(Str.ofString "turn",.local),(z,.free)]) (h0:0≤k) (h1:k≤1000) (e:ex F (n+1) (.gets i j k.toNat) st=some o) (hR:bB C R A) (hA:At C W s) (x0:SI C T K ab W env m ad st) (hK:Ag K env) (O:bv C K ab env) (hS:ab C.P) :
  wpAny (model C.prog C.w) A (exec (.Assign [.Name y p] (.ListComp (.Call (.Attribute (.Name z q) (Str.ofString "get_token") ap) [] [] p') [⟨.Name (Str.ofString "turn") p1,.Call (.Name (Str.ofString "range") p2) [.Constant (.int k) kk p3] [] p4,[],0⟩] sc p5) r) env)
   (gQ C T K ab W env (ZZ C K env ad st.own) (hid ab ad st.own) o) E s:=by
 have hC:=hL.ok
 obtain⟨jt,htn⟩:=hturn
 simp only[ex]at e
 split at e
 ·rename_i L hlk
  have hlk:=eN hlk
  split at e
  ·split at e
   ·rename_i ds L' ht
    split at e
    ·cases e
    ·rename_i hk
     cases e
     obtain⟨z',e1,e2,e3,e4,e5⟩:=x0.lx j _ hlk
     rw[hj]at e1;cases e1
     obtain⟨_,hnd,hfree,_⟩:=dq hsc
     have hyK:=hfree z (by rw[hnm];simp)
     have hX:bG C T K (hid ab ad st.own) W env m []:=⟨x0.fr,hK,.nil⟩
     have hpg:=(kP ht).1
     have hk':i∉aS st:=bN (by simpa using hk)
     have hk2:i∉aS ⟨st.me,put j (.lex L') st.own⟩:=by
      show i∉List.map (·.1) (put j (.lex L') st.own)
      rw[j4 (dQ hlk)];exact hk'
     have hXo:∀b,(b=C.P∨bT (ad j) (.lex L) b)→b=C.P∨bT (ad j) (.lex L) b:=λb hb=>hb
     have zz:∀{V:Wd},aZ (λb=>b=C.P∨bT (ad j) (.lex L) b) W V→aZ (ZZ C K env ad st.own) W V:=λLx=>Lx.sub λb hb=>hb.elim (λh=>.inl (.inl h)) λh=>.inr ⟨j,_,hlk,h⟩
     have nex:∀{b c:Addr},W.h.get? c=none→(∃o,W.h.get? b=some o)→¬b=c:=λh1 ⟨o,h2⟩ q=>by rw[q,h1]at h2;cases h2
     obtain⟨bsw,hsw⟩:∃b:Bool,swapsWith (.ListComp (.Call (.Attribute (.Name z q) (Str.ofString "get_token") ap) [] [] p') [⟨.Name (Str.ofString "turn") p1,.Call (.Name (Str.ofString "range") p2) [.Constant (.int k) kk p3] [] p4,[],0⟩] sc p5) (some (.Name y p)) r.line env=pure b:=⟨_,rfl⟩
     cases bsw with
     | false=>
      refine wpAny_Assign_Name ?_ hsw
      rw[eval_ListComp]
      refine oJ x hL hR5 hT hline hg hsc hnm h0 h1 hj htn hyK ht hR hA x0.sx hX e3 e4 e5 (lO x0 hlk) λl c ae ⟨Wf,Lf,aq,bx,iq,hc,hn,mm,hns⟩=>?_
      refine⟨mm,hns,λh' hs'=>?_⟩
      obtain⟨au,an⟩:=aq.but hC (X:=(· = c)) (λb hb=>hb▸hn) (λb hb=>hb ▸ .new (.dict hns) hA hc) (λb o nb e=>(hs'.2 b nb).trans e) (tk:=ae.toks) (Nat.le_refl _)
      have hXc:∀b,b=c→aM (hid ab ad st.own) [c] b:=λb hb=>.inr (hb ▸ .head _)
      have exo:∀{b:Addr},bT (ad j) (.lex L) b→¬b=c:=λhb=>nex hc (x0.there hlk hb)
      have cy:bS C (hid ab ad st.own) { Wf with h:=h' } L' (ad j).d (ad j).pb (ad j).al (ad j).f:=(iq.leX an hXc (exo (.inr (.inl rfl))) (exo (.inl rfl)) (exo (.inr (.inr rfl)))).sub λb hb=>.inl hb
      have bE:aN (hid ab ad st.own) { Wf with h:=h' } (.list ds) (.ref l):=aN.sub (λb hb=>.inl hb) _ (aN.leX an hXc bx)
      have L02:=Lf.fresh an λb hb=>.inr (hb▸hc)
      obtain⟨z1,z2,z3⟩:=lQ hC (aZ.refl _ W) x0 hlk hpg hXo L02 au cy
      have Dt:aN (hid ab ad (put j (.lex L') st.own)) { Wf with h:=h' } (.list ds) (.ref l):=aN.sub (λb hb=>(z2 b).mp hb) _ bE
      refine wpAny_mono (eI (hid.up (ad:=ad) (own:=put j (.lex L') st.own) O) hC z1.sx.1 (aZ.refl _ _) au z1.fr hx Dt) (λ_ bF ⟨bf,u,aD,aO,d6,gJ⟩=>?_) λ_ _ x=>x
      have x3:=z1.set hC hT hS O aD aO d6 hi gJ hk2
      exact⟨rfl,bf,_,ad,(zz L02).trans (aD.sub eB),aO,x3,λb hb=>.inl ((z2 b).mp hb)⟩
     | true=>
      rw[exec_Assign_Name_used _ _ _ _ hsw]
      refine wpAny_bind (wpAny_standAt (wpAny_bind ?_))
      show wpAny _ A (do let _←comprehension _ sc env _ (newList []) false (firstIter _ env) (some (assign (.Name y p) env))) _ _ s
      refine wpAny_bind (wpAny_mono (oJ (use:=some (assign (.Name y p) env)) (Q:=λ_ s'=>gQ C T K ab W env (ZZ C K env ad st.own) (hid ab ad st.own) (.next ⟨put i (.list ds) st.me,put j (.lex L') st.own⟩) .next s') x hL hR5 hT hline hg hsc hnm h0 h1 hj htn hyK ht hR hA x0.sx hX e3 e4 e5 (lO x0 hlk) ?_) (λ_ s' hq=>wpAny_pure (wpAny_pure hq)) λ_ _ e=>e)
      intro l c ae ⟨Wf,Lf,aq,bx,iq,hc,hn,mm,hns⟩
      have Du:bS C (hid ab ad st.own) Wf L' (ad j).d (ad j).pb (ad j).al (ad j).f:=iq.sub λb hb=>.inl hb
      have Dv:aN (hid ab ad st.own) Wf (.list ds) (.ref l):=aN.sub (λb hb=>.inl hb) _ bx
      obtain⟨z1,z2,z3⟩:=lQ hC (aZ.refl _ W) x0 hlk hpg hXo Lf aq Du
      have BL:aN (hid ab ad (put j (.lex L') st.own)) Wf (.list ds) (.ref l):=aN.sub (λb hb=>(z2 b).mp hb) _ Dv
      show wpAny _ A (assign (.Name y p) env (.ref l)) _ E ae
      refine wpAny_assign_Name (wpAny_mono (eI (hid.up (ad:=ad) (own:=put j (.lex L') st.own) O) hC z1.sx.1 (aZ.refl _ _) aq z1.fr hx BL) (λ_ ak ⟨W₂,u,an,au,jQ,bE⟩=>?_) λ_ _ x=>x)
      have x2:=z1.set hC hT hS O an au jQ hi bE hk2
      have nc:¬PM C K env c:=λq=>q.elim (hn.nP hC) λq=>by obtain⟨o,ho⟩:=x0.fr.there O q;rw[hc]at ho;cases ho
      rw[←aq.h]at hns
      have ju:W₂.h.Ns c mm:=jH hns an.ext nc
      have pE:=ju;rw[au.h]at pE
      refine⟨mm,pE,λh' hs'=>?_⟩
      obtain⟨aO,aD⟩:=au.but hC (X:=(· = c)) (λb hb=>hb▸hn) (λb hb=>hb ▸ .new (.dict pE) hA hc) (λb o nb e=>(hs'.2 b nb).trans e) (tk:=ak.toks) (Nat.le_refl _)
      have key:∀{i':Nat} {o':Ob},(put j (.lex L') st.own).lookup i'=some o'→∃o'',st.own.lookup i'=some o''∧mE o'' o'=true:=λ{i' o'} h=>by
       rw[aa]at h
       split at h
       ·rename_i q;cases h;subst q;exact⟨_,hlk,rfl⟩
       ·exact⟨o',h,by cases o'<;>rfl⟩
      have hLx:∀i' L'',(put j (.lex L') st.own).lookup i'=some (.lex L'')→¬(ad i').ims c:=λi' L'' h hb=>by
       obtain⟨o'',h2,h3⟩:=key h
       cases o'' with
       | list=>cases h3
       | lex Lo=>
        obtain⟨_,_,_,_,g4,_⟩:=x0.lx i' _ h2
        exact nex hc (g4.ims hb) rfl
      have hcS:¬hid ab ad (put j (.lex L') st.own) c:=λq=>by
       obtain⟨o',e⟩:=x0.sx.2 c ((z2 c).mp q)
       rw[hc]at e;cases e
      have x3:=x2.away (vM ju) hcS ⟨λq=>nc (.inr (.inl q)),λob eo v hv=>ig ju ⟨ob,eo,hv⟩⟩ hLx aD
      exact⟨rfl,_,_,ad,((zz Lf).trans (an.sub eB)).fresh aD (λb hb=>.inr (hb▸hc)),aO,x3,λb hb=>.inl ((z2 b).mp hb)⟩
   ·cases e
  ·cases e
 ·cases e
end
section
variable{C:Cx}{T fns:List Str}{F:Nat→List D→Option D}{R n:Nat}
theorem zd(x:CK C)(hL:Lk C T fns F R)(hR5:5≤R)(hT:T.Nodup)(htn:∃jt:Nat,T[jt]?=some (Str.ofString "turn")) (iL:y8 C T fns F R n):SY C T fns F R (n+1):=by
 intro K y Y st o A s W ab env m ad E h e hR hA x0 hK O hS
 cases h with
 | assign h1 h2 h3=>exact vD hL hT h1 h2 h3 e hR hA x0 hK O hS
 | fresh h1 h2 h3=>exact xr hL hT h1 h2 h3 e hR hA x0 hK O hS
 | aug h1 h2 h3=>exact BE hL hT h1 h2 h3 e hR hA x0 hK O hS
 | augSub h1 h2 h3 h4=>exact vF hL hT h1 h2 h3 h4 e hR hA x0 hK O hS
 | append h1 h2 h3 h4=>exact vG hL hT h1 h2 h3 h4 e hR hA x0 hK O hS
 | ite h1 h2 h3=>exact BH hL hT iL h1 h2 h3 e hR hA x0 hK O hS
 | loop h1 h2=>exact y9 hL hT iL h1 h2 e hR hA x0 hK O hS
 | «for» h1 h2 h3=>exact BI hL hT iL h1 h2 h3 e hR hA x0 hK O hS
 | ret h1=>exact BF hL hT h1 e hR hA x0 hK hS
 | newLex h1 h2 h3 h4=>exact vI x hL (by omega) hT h1 h2 h3 h4 e hR hA x0 hK O hS
 | getTok h1 h2 h3 h4 h5=>exact vJ x hL hR5 hT h1 h2 h3 h4 h5 e hR hA x0 hK O hS
 | gets h1 h2 h3 h4 h5 h6 h7 h8 h9 h10=>exact zc x hL hR5 hT htn h1 h2 h3 h4 h5 h6 h7 h8 h9 h10 e hR hA x0 hK O hS
 | push h1 h2 h3 h4=>exact za x hL hR5 hT h1 h2 h3 h4 e hR hA x0 hK
 | insert h1 h2 h3 h4 h5=>exact vK hL hT h1 h2 h3 h4 h5 e hR hA x0 hK hS
 | delIt h1 h2 h3 h4=>exact xy x hL (by omega) hT h1 h2 h3 h4 e hR hA x0 hK hS
 | iteLine h1 h2 h3 h4 h5 h6=>exact tz x hL hT iL h1 h2 h3 h4 h5 h6 e hR hA x0 hK O hS
 | retLines h1 h2 h3 h4 h5 h6 h7 h8=>exact rd x hL hT h1 h2 h3 h4 h5 h6 h7 h8 e hR hA x0 hK hS
theorem fS(x:CK C)(hL:Lk C T fns F R)(hR5:5≤R)(hT:T.Nodup)(htn:∃jt:Nat,T[jt]?=some (Str.ofString "turn")):∀n,SY C T fns F R n∧y8 C T fns F R n
 | 0=>And.intro (by intro K y Y st o A s W ab env m ad E _ q;simp[ex]at q) (by intro K y Y st o A s W ab env m ad E _ q;simp[bC]at q)
 | n+1=>
  let ⟨iS,iL⟩:=fS x hL hR5 hT htn n
  ⟨zd x hL hR5 hT htn iL,xu hL iS iL⟩
end
section
variable{C:Cx}{T fns:List Str}{F:Nat→List D→Option D}{R n:Nat}{S:Addr→Prop}{W:Wd}{s:Shared}
theorem Cx.Ok.wi{fa:Addr→Prop}(x:C.Ok):(C.wi fa).Ok:=⟨x.Pin,x.g,x.b,x.st,x.gP,x.bP,x.sP⟩
theorem CK.wi(x:CK C)(fa:Addr→Prop):CK (C.wi fa):=⟨x.ok.wi,x.kin,x.P,⟨x.bis.bi,x.bis.range,x.bis.enum,x.bis.iter⟩,x.hd,x.bat,x.pt,x.pl⟩
theorem Lk.wi(x:Lk C T fns F R)(fa:Addr→Prop):Lk (C.wi fa) T fns F R:=⟨x.ok.wi,x.fn,x.bi,x.range,x.enum,x.plain,x.plainF⟩
theorem eM.wi{a:Addr}{fd:FuncData}{body:List Stmt}{params:List Str}(x:eM C a fd body params)(fa:Addr→Prop):eM (C.wi fa) a fd body params:=⟨x.at',x.aP,x.code,x.body,x.bind,x.clo,x.co,x.gen,x.kind,x.glob,x.bi⟩
theorem ay.wi{fa:Addr→Prop}{env:Env}{h:Heap}{m:Str→Option Value}(x:ay C env h m):ay (C.wi fa) env h m:=⟨x.kind,x.ns,x.nP,x.cell,x.glob,x.bi⟩
theorem bv.wi{fa:Addr→Prop}{K:Kd}{env:Env}(x:bv C K S env):bv (C.wi fa) K S env:=⟨x.locS,x.locN,x.kl,x.kc,x.cell⟩
theorem At.less{fa fa':Addr→Prop}(a:At (C.wi fa') W s)(h:∀b,fa b→fa' b):At (C.wi fa) W s:=⟨a.h,a.pos,a.k,⟨a.inv.old,a.inv.ext,a.inv.os,a.inv.bare,a.inv.tab,λb hb=>a.inv.fr b (h b hb)⟩,a.gn⟩
theorem At.with{fa fa':Addr→Prop}{env:Env}{mm:Str→Option Value}(a:At (C.wi fa) W s)(e:fa'=λb=>b=env.locals∨fa b)(n:Nw C env.locals)(f:ay (C.wi fa) env W.h mm):At (C.wi fa') W s:=⟨a.h,a.pos,a.k,⟨a.inv.old,a.inv.ext,a.inv.os,a.inv.bare,a.inv.tab,λb hb=>by
 rw[e]at hb
 rcases hb with rfl|hb
 ·obtain⟨ml,⟨o,es,ep,ho,hd,_⟩,_⟩:=f.ns
  exact⟨n,o,es,ep,by rw[←a.h];exact ho,hd⟩
 ·exact a.inv.fr b hb⟩,a.gn⟩
theorem cB(x:CK C)(hL:Lk C T fns F R)(hR5:5≤R)(hT:T.Nodup)(htn:∃jt:Nat,T[jt]?=some (Str.ofString "turn")) {a:Addr} {fd:FuncData} {body:List Stmt} {params:List Str} (hf:eM C a fd body params) (hsc:aW fd.scope []=true) {Ys:List Y} (hb:nH T fns fd.scope.names body Ys)
  (hpn:params.Nodup) {ps:List Nat} (hps:ps.map (T[·]?)=params.map some) (hpk:∀x∈params,cK fd.scope.names x=true) {ds:List D} {d:D} (hlen:ds.length=params.length)
  (e:bC F n Ys ⟨ps.zip ds,[]⟩=some (.ret d)):b8 C (R+1) a ds d:=by
 intro fa A s W S vs E hR hA hS hr
 have hL:=hL.wi fa
 have x:=x.wi fa
 have hf:=hf.wi fa
 have hC:=hL.ok
 have hvl:vs.length=params.length:=hr.length.trans hlen
 refine wpAny_call (xm hC hf hsc hpn hpk hvl hA hS hR.r λenv ae aj mm S' hmm en b6=>?_)
 have vars:bO T S' aj mm (ps.zip ds):=fP hps ((av.grow en.gr _ hr).le en.le (en.sup _ hS.1)) hvl hmm
 have hh:∀b,hid S' (λ_=>⟨0,0,0,0,0,0,0,0,0⟩) ([]:List (Nat×Ob)) b→S' b:=λb hb=>hb.elim id λ⟨i,l,h,_⟩=>by cases h
 generalize hfa':(λb=>b=env.locals∨fa b)=fa'
 have au:At (C.wi fa') aj ae:=en.at'.with hfa'.symm en.own.locN en.fr
 have fb:bB (C.wi fa') R (A.deeper env):=⟨b6,λq=>by
  obtain⟨l,h1,h2⟩:=hR.fr (Nat.le_succ_of_le q)
  refine⟨env::l,Around.frames_deeper h1,λe he=>?_⟩
  rcases List.mem_cons.mp he with rfl|he
  ·exact⟨by rw[en.fr.kind];nofun,_,en.frm,by rw[←hfa'];exact .inl rfl⟩
  ·obtain⟨k1,L,k2,k3⟩:=h2 e he
   exact⟨k1,L,k2,by rw[←hfa'];exact .inr k3⟩⟩
 have si:SI (C.wi fa') T fd.scope.names S' aj env mm (λ_=>⟨0,0,0,0,0,0,0,0,0⟩) ⟨ps.zip ds,[]⟩:=
  ⟨⟨.inl (en.sup _ hS.1),λb hb=>en.sx.2 b (hh b hb)⟩,en.fr.wi,λi d h=>let ⟨y,v,e1,e2,e3⟩:=vars i d h;⟨y,v,e1,e2,aN.sub hh _ e3⟩,λi l h=>(by cases h),λi l h=>(by cases h),λi j o o' b h=>(by cases h),λi o b h=>(by cases h),List.nodup_nil⟩
 refine wpAny_mono ((fS (x.wi fa') (hL.wi fa') hR5 hT htn n).2 _ body Ys _ _ _ _ _ S' env mm _ i6 hb e fb au si en.ag en.own.wi (en.sup _ hS.1)) (λf ak ⟨v,ef,W₂,an,aO,bE⟩=>?_) λ_ _ x=>x.elim
 subst ef
 refine⟨W₂,⟨λb o hb e0=>an.ext.step (λq=>?_) (en.le.ext b o hb e0),Nat.le_trans en.le.k an.k,λt ht=>(an.g t (Nat.lt_of_lt_of_le ht en.le.k)).trans (en.le.g t ht),λcv q ne h=>an.cr cv q ne (en.le.cr cv q ne h),λi z h=>an.gn i z (en.le.gn i z h)⟩,aO.less (λb hb=>by rw[←hfa'];exact .inr hb),aN.sub en.sup _ bE⟩
 rcases q with(h|(h|⟨y,_,h⟩))|⟨i,l,h,_⟩
 ·exact hb h
 ·rw[h,en.frl]at e0;cases e0
 ·rw[(en.cells y b h).2]at e0;cases e0
 ·cases h
end
section
variable{C:Cx}{T fns:List Str}{F:Nat→List D→Option D}{R n:Nat}{K:Kd}{S ab:Addr→Prop}{W W':Wd}{s:Shared}{env:Env}{m:Str→Option Value}{me:Me}{A:Around}{E:Value→Shared→Prop}{ad:Nat→LA}{st:St}
theorem xz(hL:Lk C T fns F R)(hT:T.Nodup)(iL:y8 C T fns F R n){t i:Expr}{x els:List Stmt}{p:Pos}{t':dA}{i':X}{a:List Y}(ht:TG T K t t')(h:CE T fns K i i')(h1:nH T fns K x a){xs:List D}(hxs:jK F n t' i' st=some xs){st1:St}(e:gG (a5 F n t' a) xs st=some (.next st1))(hR:bB C R A)(hA:At C W s)(x0:SI C T K ab W env m ad st)(hK:Ag K env)(O:bv C K ab env)(hS:ab C.P)
  {Q:Flow→Shared→Prop} (hE:PassesOwn (model C.prog C.w) A env E) (k:∀s' W' m' ad',aZ (ZZ C K env ad st.own) W W'→At C W' s'→SI C T K ab W' env m' ad' st1→wpAny (model C.prog C.w) A (execs els env) Q E s') :
  wpAny (model C.prog C.w) A (exec (.For t i x els p) env) Q E s:=by
 have hC:=hL.ok
 ·have HX:=hxs
  refine wpAny_For (wpAny_mono (uv hL hT h hxs hR hA x0 hK hS) (λu ae z=>wpAny_mono z (λit ak ⟨fp,W₂,M,eP⟩=>?_) λ_ _ x=>x) λ_ _ x=>x) (λx=>mj (aH h) env x)
  obtain⟨x2,hh2⟩:=x0.grow hC M hS
  have hS':aM ab fp C.P:=.inl hS
  have O':bv C K (aM ab fp) env:=O.sub λb hb=>.inl hb
  have tm:cC C (hid (aM ab fp) ad st.own) W₂ t' fp it xs:=eP.less λb hb=>(hh2 b).mp hb
  ·refine codeAny_forLoop_any (λj s=>∃xs aj gM dS b7,xs.length=j∧aZ (λb=>ZZ C K env ad st.own b∨b∈fp) W₂ aj∧At C aj s∧SI C T K (aM ab fp) aj env gM dS b7∧(∀b,hid (aM ab fp) dS b7.own b→hid (aM ab fp) ad st.own b∨W₂.h.get? b=none)∧
    cC C (hid (aM ab fp) dS b7.own) aj t' fp it xs∧gG (a5 F n t' a) xs b7=some (.next st1)) ?_ xs.length ⟨xs,W₂,m,ad,st,rfl,.refl ..,M.at',x2,λb hb=>.inl hb,tm,e⟩
   rintro j bF ⟨ys,bf,dG,bY,cF,rfl,aD,aO,x3,h3,fA,e3⟩
   have hf:∀b∈fp,hid (aM ab fp) bY cF.own b:=λb hb=>.inl (.inr hb)
   have nfo:∀{i:Nat} {o:Ob} {b:Addr},cF.own.lookup i=some o→bT (bY i) o b→¬b∈fp:=λ{i o b} hl hb q=>by
    obtain⟨_,n1,n2⟩:=fA.nf b q
    cases o with
    | list l=>
     obtain⟨_,its,_,_,_,_,e6,_⟩:=x3.ls _ _ hl
     exact n2 its (hb▸e6.isList)
    | lex L=>
     obtain⟨_,_,_,_,_,M⟩:=x3.lx _ _ hl
     rcases hb with rfl|rfl|rfl
     ·obtain⟨its,e,_⟩:=M.pbo;exact n2 its e.isList
     ·obtain⟨_,_,_,_,_,_,_,_,e⟩:=M.dict;exact(n1 _ e).1 _ _ rfl
     ·obtain⟨t,e⟩:=M.alo;exact n2 _ e.isList
   refine wpAny_mono (eF hC hR aO x3.sx ht hf fA) (λr cq z=>?_) λ_ _ x=>x
   cases ys with
   | nil=>
    cases r with
    | some=>exact z.elim
    | none=>
     obtain⟨aB,aU,bH⟩:=z
     simp only[gG,Option.some.injEq,lB.next.injEq]at e3
     ·skip
      have x4:SI C T K ab aB env dG bY cF:=by
       have y:=x3.drop hS
       have dn:∀b,hid ab bY cF.own b→hid (aM ab fp) bY cF.own b:=λb hb=>hb.imp (λh=>.inl h) id
       refine⟨y.sx.leX aU λb hb hs=>?_,x3.fr.leX aU (λb hb=>.inr (fA.nf b hb).2.1),λi d h=>let ⟨z,v,e1,e2,e3⟩:=x3.vars i d h;⟨z,v,e1,e2,aN.sub dn _ (e3.leX aU hf)⟩,λi l h=>?_,λi L h=>?_,x3.inj,λi o b h hb=>?_,x3.nd⟩
       ·rcases hs with h|⟨i,l,h,h2⟩
        ·exfalso
         have:=(M.fresh b hb).1
         obtain⟨o,ho⟩:=x0.sx.2 b (.inl h)
         rw[this]at ho;cases ho
        ·exact absurd hb (nfo h h2)
       ·obtain⟨z,its,e1,e2,e3,e4,e6,e7⟩:=x3.ls i l h
        exact⟨z,its,e1,e2,e3,e4,aE e6 aU.ext (nfo h rfl),av.sub dn _ (e7.leX aU hf)⟩
       ·obtain⟨z,e1,e2,e3,e4,e5⟩:=x3.lx i _ h
        exact⟨z,e1,e2,e3,(e4.leX aU hf).sub dn,(e5.leX aU hf (nfo h (.inr (.inl rfl))) (nfo h (.inl rfl)) (nfo h (.inr (.inr rfl)))).sub dn⟩
       ·obtain⟨k1,k2,k3,k4⟩:=y.out i o b h hb
        obtain⟨ob,hob⟩:=y.there h hb
        obtain⟨_,hob',hsm⟩:=aU.ext _ _ (nfo h hb) hob
        exact⟨k1,k2,k3,λob' e v=>by rw[hob']at e;cases e;rw[hsm.parts.2.1];exact k4 _ hob v⟩
      exact wpAny_passesOwn hE (k _ aB dG bY ((M.le.pm.sub eB).fresh (aD.trans (aU.sub λb hb=>.inr hb)) λb hb=>hb.imp id λq=>(M.fresh b q).1) bH (e3▸x4))
   | cons d ys=>
    cases r with
    | none=>exact z.elim
    | some v=>
     refine wpAny_mono z (λ_ cu ⟨dI,bI,dJ,rv,g7⟩=>?_) λ_ _ x=>x
     have x5:SI C T K (aM ab fp) dI env dG bY cF:=x3.leX bI hf (λb hb=>.inr ((fA.nf b hb).2.1.e x3.fr)) (λi o b h hb=>nfo h hb) (λb hb=>(g7.nf b hb).1)
     have key:∃eR,a5 F n t' a cF d=some (.next eR)∧gG (a5 F n t' a) ys eR=some (.next st1):=by
      simp only[gG]at e3
      cases hb:a5 F n t' a cF d with
      | none=>rw[hb]at e3;cases e3
      | some ja=>
       rw[hb]at e3
       cases ja with
       | next eR=>exact⟨eR,rfl,e3⟩
       | ret d'=>cases e3
     obtain⟨eR,hb,hn⟩:=key
     obtain⟨hkey,me',hme,hex⟩:=mI hb
     obtain⟨bs,hbs,hbb⟩:=k9 hme
     refine wpAny_mono (iU hC hT hR (hid.up O') dJ x5.sx.1 x5.fr ht rv hbs) (λ_ dp ⟨cx,vx,k⟩=>?_) λ_ _ x=>x
     have x6:=x5.took (d:=d) hC hT hS' O' k hbb hkey
     have O5:=hid.up (ad:=bY) (own:=cF.own) O'
     have g8:cC C (hid (aM ab fp) bY cF.own) cx t' fp it ys:=g7.leX k.le O5.mutS (λb hb q=>(x5.fr.mut O5 q).2 (g7.nf b hb).2.1)
     refine wpAny_mono (iL K x a ⟨me',cF.own⟩ (.next eR) A dp cx (aM ab fp) env vx bY _ h1 hex hR k.at' x6 hK O' hS') (λf qO q=>?_) λ_ _ x=>x
     have L26:aZ (λb=>ZZ C K env ad st.own b∨b∈fp) W₂ cx:=(aD.trans (bI.sub λb hb=>.inr hb)).trans (k.le.sub λb hb=>.inl (.inl (.inr hb)))
     have back:∀b,cx.h.get? b=none→W₂.h.get? b=none∨hid (aM ab fp) ad st.own b:=λb hb=>by
      cases e:W₂.h.get? b with
      | none=>exact .inl rfl
      | some o=>
       by_cases z:ZZ C K env ad st.own b∨b∈fp
       ·exact .inr (z.elim (ZZ.hid O' hS' b) λz=>.inl (.inr z))
       ·obtain⟨_,this,_⟩:=L26.ext b o z e;rw[hb]at this;cases this
     have q':gQ C T K (aM ab fp) W₂ env (λb=>ZZ C K env ad st.own b∨b∈fp) (hid (aM ab fp) ad st.own) (.next eR) f qO:=
      gQ.trans L26 (λb hb=>by
       rcases hb with h|⟨i,l,h1,h2⟩
       ·exact .inl (.inl (.inl h))
       ·rcases h3 b (.inr ⟨i,l,h1,h2⟩)with q|q
        ·rcases q with q|q
         ·exact absurd q (x5.out i l b h1 h2).1
         ·exact .inl (.inl (.inr q))
        ·exact .inr q) h3 (λb hb=>hb.elim (ZZ.hid O' hS' b) λz=>.inl (.inr z)) q
     ·skip
      obtain⟨ef,lG,yW,qZ,cM,fL,x7,h7⟩:=q
      obtain⟨_,Do,Dp,BJ,ur,Dq,x7',h7'⟩:=q'
      subst ef
      refine⟨ys.length,Nat.lt_succ_self _,ys,lG,yW,qZ,eR,rfl,?_,fL,x7,?_,?_,hn⟩
      ·refine L26.fresh cM λb hb=>?_
       rcases hb with h|⟨i,l,h1,h2⟩
       ·exact .inl (.inl (.inl h))
       ·rcases h3 b (.inr ⟨i,l,h1,h2⟩)with q|q
        ·rcases q with q|q
         ·exact absurd q (x5.out i l b h1 h2).1
         ·exact .inl (.inl (.inr q))
        ·exact .inr q
      ·intro b hb
       rcases h7 b hb with q|q
       ·exact h3 b q
       ·rcases back b q with q|q
        ·exact .inr q
        ·exact .inl q
      ·have up:cC C (λb=>hid (aM ab fp) bY cF.own b∨hid (aM ab fp) qZ eR.own b) cx t' fp it ys:=g8.grow λb hb=>hb.elim .inl (h7 b)
       refine(up.leX cM (λb hb=>.inl (ZZ.hid O' hS' b hb)) λb hb q=>?_).less λb hb=>.inr hb
       rcases q with(q|q)|⟨i,l,h1,h2⟩
       ·exact(g8.nw b hb).nP hC q
       ·exact(x6.fr.mut (hid.up (ad:=bY) (own:=cF.own) O') q).2 (g8.nf b hb).2.1
       ·exact nfo h1 h2 hb
end
section
variable{C:Cx}{T fns:List Str}{F:Nat→List D→Option D}{R n:Nat}{K:Kd}{S ab:Addr→Prop}{W W':Wd}{s:Shared}{env:Env}{m:Str→Option Value}{me:Me}{A:Around}{E:Value→Shared→Prop}
theorem At.slots(hC:C.Ok)(a:At C W s){h':Heap}(hx:∀b o,¬C.fa b→s.heap.get? b=some o→h'.get? b=some o)(hu:∀b o,C.fa b→s.heap.get? b=some o→∃sl,h'.get? b=some { o with slots:=sl }){tk:Nat}(htk:s.toks≤tk):
  At C { W with h:=h' } { s with heap:=h',toks:=tk }∧Le C W { W with h:=h' }:=by
 have nb:∀b o,C.base.get? b=some o→¬C.fa b:=λb o e q=>by rw[(a.inv.fr b q).1]at e;cases e
 have nc:∀b,¬oZ s.heap b→¬C.fa b:=λb n q=>n λo vs q' t e hd _=>by
  obtain⟨_,o',es,k,e',d'⟩:=a.inv.fr b q
  rw[e]at e';cases e';rw[hd]at d';cases d'
 refine⟨⟨rfl,a.pos,Nat.le_trans a.k htk,⟨qx a.inv.old (λb o ⟨sH,e⟩ q=>hx b o (nb b sH e) q),λb o hb e=>hx b o (nb b o e) (a.inv.ext b o hb e),a.inv.os,a.inv.bare,a.inv.tab.to λb o hb e=>hx b o (hb.elim (λq=>?_) (nc b)) e,λb hb=>?_⟩,a.gn⟩,⟨λb o _ e=>?_,Nat.le_refl _,λ_ _=>rfl,λcv q ne ⟨c,o,vs,t,e1,e2,e3,e4⟩=>?_,λ_ _ h=>h⟩⟩
 ·obtain⟨sH,ET⟩:=hC.Pin
  exact q▸nb _ _ ET
 ·obtain⟨k,o,es,n,e,d⟩:=a.inv.fr b hb
  obtain⟨sl,e'⟩:=hu b o hb e
  exact⟨k,_,es,n,e',d⟩
 ·have e':W.h.get? b=some o:=e
  rw[a.h]at e'
  by_cases q:C.fa b
  ·obtain⟨sl,e2⟩:=hu b o q e'
   obtain⟨_,o',es,n,e3,d⟩:=a.inv.fr b q
   rw[e']at e3;cases e3
   exact⟨_,e2,.inr ⟨⟨es,n,d⟩,sl,rfl⟩⟩
  ·exact⟨o,hx b o q e',.refl o⟩
 ·have e':W.h.get? c=some o:=e2
  rw[a.h]at e'
  exact⟨c,o,vs,t,e1,hx c o (nc c λz=>z o vs q t e' e3 ne e4) e',e3,e4⟩
theorem ux(a:At C W s){B:Heap}:∀{l:List Env},(∀env∈l,env.scope.kind ≠ .module∧∃L,env.frame=some L∧C.fa L∧B.get? L=none)→s.heap.FunFrames B l
 | [],_=>trivial
 | env::l,h=>by
  obtain⟨k,L,e,hL,hn⟩:=h env (.head _)
  obtain⟨_,o,es,n,e',d⟩:=a.inv.fr L hL
  exact⟨k,⟨L,o,e,hn,e',λvs q=>by rw[d]at q;cases q⟩,ux a λenv he=>h env (.tail _ he)⟩
structure xA(C:Cx)(outer:List Env)(W:Wd)(e:Addr)(s':Shared):Prop where
 ex:∃fa' ak W₂ h' l a0,(∀b,C.fa b→fa' b)∧At (C.wi fa') W₂ ak∧Le C W W₂∧s'={ ak with heap:=h' }∧(∀b∈l,fa' b)∧(hideAll ak.heap l).FlyingW outer e (.type "ValueError") a0 h'∧ak.heap.UpToSlots h'
theorem j7{fa':Addr→Prop}{outer:List Env}{ak:Shared}{W₂:Wd}{aX:Heap}{e:Addr}{vs:List Value}{Q:Unit→Shared→Prop}{M:Model}(a:At (C.wi fa') W₂ ak)(hfa:∀b,C.fa b→fa' b)(hfr:A.frames=some outer)(hk:env.scope.kind = .function)(hf:env.frame=some env.locals)(hl:fa' env.locals)
  (ho:∀env∈outer,env.scope.kind ≠ .module∧∃L,env.frame=some L∧C.fa L) (hx:ak.heap.MadeExc aX e "ValueError" vs) (hQ:∀h' l a0,(∀b∈l,fa' b)→(hideAll ak.heap l).FlyingW outer e (.type "ValueError") a0 h'→ak.heap.UpToSlots h'→Q () { ak with heap:=h' }) :
  wpAny M (A.deeper env) (leaving env (.ref e)) Q E { ak with heap:=aX }:=by
 have hfl:∀env'∈env::outer,env'.scope.kind ≠ .module∧∃L,env'.frame=some L∧fa' L:=λenv' h=>by
  rcases List.mem_cons.mp h with rfl|h
  ·exact⟨by rw[hk];nofun,_,hf,hl⟩
  ·obtain⟨k1,L,k2,k3⟩:=ho env' h;exact⟨k1,L,k2,hfa _ k3⟩
 refine wpAny_leaves_madeW (base:=hideAll ak.heap ((env::outer).filterMap (·.frame))) (h:=ak.heap) (Around.frames_deeper hfr) hf (λb o e=>of_hideAll _ e) (ux a λenv' h=>?_) ⟨hx.keeps,hx.new,hx.there⟩ λh' t x1 x2 x3 x4=>hQ h' _ _ (λb hb=>?_) x1 λb o e hn=>x4 b o (hx.keeps b o e) hn
 ·obtain⟨k1,L,k2,k3⟩:=hfl env' h
  exact⟨k1,L,k2,k3,hideAll_none _ (List.mem_filterMap.mpr ⟨env',h,k2⟩)⟩
 ·obtain⟨env',h,e⟩:=List.mem_filterMap.mp hb
  obtain⟨_,L,k2,k3⟩:=hfl env' h
  rw[k2]at e;cases e;exact k3
theorem rg{fa':Addr→Prop}{outer:List Env}{ak:Shared}{W₂:Wd}{aX:Heap}{e:Addr}{vs:List Value}{Q:Unit→Shared→Prop}{M:Model}(a:At (C.wi fa') W₂ ak)(hfa:∀b,C.fa b→fa' b)(L:Le C W W₂)(hfr:A.frames=some outer)(hk:env.scope.kind = .function)(hf:env.frame=some env.locals)(hl:fa' env.locals)
  (ho:∀env∈outer,env.scope.kind ≠ .module∧∃L,env.frame=some L∧C.fa L) (hx:ak.heap.MadeExc aX e "ValueError" vs) (hQ:∀s',xA C outer W e s'→Q () s') :
  wpAny M (A.deeper env) (leaving env (.ref e)) Q E { ak with heap:=aX }:=
 j7 a hfa hfr hk hf hl ho hx λ_ _ _ p q r=>hQ _ ⟨fa',ak,W₂,_,_,_,hfa,a,L,rfl,p,q,r⟩
end
def xB:List Y:=[.ite (.isEq (.var 4) (.var 1)) [.ret (.var 3)] []]
theorem uy{n:Nat}{F:Nat→List D→Option D}{me:Me}{k:Nat}{w y:Str}(h1:me.lookup 1=some (.str true y))(hne:w≠y):a5 F (n+8) (.two 3 4) xB ⟨me,[]⟩ (.tup [.int true k,.str true w])=some (.next ⟨put 4 (.str true w) (put 3 (.int true k) me),[]⟩):=by
 have e:(w==y)=false:=by simpa using hne
 simp[a5,nR,aS,gb,bC,ex,evS,dF,ev,xB,aa,h1,jJ,e,aC]
theorem uz{F:Nat→List D→Option D}{y:Str}:∀(ws:List Str) (k:Nat) (me:Me),me.lookup 1=some (.str true y)→(∀w∈ws,w≠y)→∃me1,gG (a5 F 8 (.two 3 4) xB) (dM k (ws.map (.str true))) ⟨me,[]⟩=some (.next ⟨me1,[]⟩)
 | [],_,me,_,_=>⟨me,rfl⟩
 | w::ws,k,me,h1,hn=>by
  obtain⟨me1,h⟩:=uz (F:=F) ws (k+1) (put 4 (.str true w) (put 3 (.int true k) me)) (by simp[aa,h1]) λv hv=>hn v (.tail _ hv)
  refine⟨me1,?_⟩
  simp only[List.map_cons,dM,gG]
  rw[uy (n:=0) h1 (hn w (.head _))]
  exact h
theorem BN{n:Nat}{F:Nat→List D→Option D}{me:Me}{k:Nat}{y:Str}(h1:me.lookup 1=some (.str true y)):a5 F (n+8) (.two 3 4) xB ⟨me,[]⟩ (.tup [.int true k,.str true y])=some (.ret (.int true k)):=by
 simp[a5,nR,aS,gb,bC,ex,evS,dF,ev,xB,aa,h1,jJ,aC]
theorem uA{n:Nat}{F:Nat→List D→Option D}{y:Str}:∀(ws:List Str) (k:Nat) (me:Me) (i:Nat),me.lookup 1=some (.str true y)→ws.findIdx? (· == y)=some i→gG (a5 F (n+8) (.two 3 4) xB) (dM k (ws.map (.str true))) ⟨me,[]⟩=some (.ret (.int true ((k+i:Nat):Int)))
 | [],_,_,_,_,h=>by cases h
 | w::ws,k,me,i,h1,h=>by
  simp only[List.map_cons,dM,gG]
  rw[List.findIdx?_cons]at h
  by_cases e:w=y
  ·subst e
   simp at h;subst h
   rw[BN h1];rfl
  ·have e':(w==y)=false:=by simpa using e
   rw[e']at h
   simp only[Bool.false_eq_true,if_false]at h
   cases q:ws.findIdx? (· == y)with
   | none=>rw[q]at h;cases h
   | some j=>
    rw[q]at h;simp at h;subst h
    rw[uy h1 e]
    have:=uA (n:=n) (F:=F) ws (k+1) (put 4 (.str true w) (put 3 (.int true k) me)) j (by simp[aa,h1]) q
    rw[show k+1+j=k+(j+1) by omega]at this
    exact this
theorem BO{F:Nat→List D→Option D}{ws:List Str}{y:Str}{i:Nat}(hl:ws.length≤100000)(h:ws.findIdx? (· == y)=some i):bC F 60 [.for (.two 3 4) (.enum (.var 0)) xB true] ⟨[(0,.list (ws.map (.str true))),(1,.str true y)],[]⟩=some (.ret (.int true (i:Int))):=by
 have hx:jK F 58 (.two 3 4) (.enum (.var 0)) ⟨[(0,.list (ws.map (.str true))),(1,.str true y)],[]⟩=some (dM 0 (ws.map (.str true))):=by
  simp[jK,gY,ev,hl]
 have hf:=uA (n:=50) (F:=F) ws 0 [(0,.list (ws.map (.str true))),(1,.str true y)] i rfl h
 rw[Nat.zero_add]at hf
 have e:ex F 59 (.for (.two 3 4) (.enum (.var 0)) xB true) ⟨[(0,.list (ws.map (.str true))),(1,.str true y)],[]⟩=some (.ret (.int true (i:Int))):=by
  unfold ex
  dsimp only
  rw[hx]
  show jo true (gG (a5 F 58 (.two 3 4) xB) (dM 0 (ws.map (.str true))) _)=_
  rw[hf];rfl
 unfold bC
 rw[e]
def gj:List Y:=
 [.assign 2 (.const (.int true (0))),
  .for (.one 3) (.var 0) [.ite (.isEq (.var 3) (.var 1)) [.aug 2 (.const (.int true (1)))] []] false,
  .ret (.var 2)]
def gm:List Nat:=[0,1]
def gp:List Y:=
 [.ret (.sub (.var 0) (.var 1))]
def gq:List Nat:=[0,1]
def fk:List Y:=
 [.for (.two 3 4) (.enum (.var 0)) [.ite (.isEq (.var 4) (.var 1)) [.ret (.var 3)] []] true]
def bg:List Nat:=[0,1]
def gR:List Y:=
 [.ret (.bin .sub (.cmp .gt (.var 0) (.var 1)) (.cmp .lt (.var 0) (.var 1)))]
def gS:List Nat:=[0,1]
def d8:List Y:=
 [.fresh 20 [(.const (.int true (44))),(.const (.int true (19))),(.const (.int true (121))),(.const (.int true (99))),(.const (.int true (23))),(.const (.int true (16)))],
  .for (.two 21 22) (.enum (.slice (.var 19) none (some (.const (.int true (18)))))) [.augSub 20 (.bin .mod (.var 21) (.const (.int true (6)))) (.bin .mod (.var 22) (.const (.int true (1000000))))] false,
  .ret (.var 20)]
def d9:List Nat:=[19]
def fD:List Y:=
 [.assign 25 (.const (.str true (nm ""))),
  .for (.one 18) (.var 23) [.ite (.or (.cmp .isin (.var 18) (.const (.str true (nm "\"\\")))) (.and (.cmp .isin (.var 18) (.const (.str true (nm " #ace")))) (.not (.var 24)))) [.aug 25 (.const (.str true (nm "\\")))] [],
  .aug 25 (.var 18)] false,
  .ret (.ite (.var 24) (.bin .add (.bin .add (.const (.str true (nm "\""))) (.var 25)) (.const (.str true (nm "\"")))) (.var 25))]
def fE:List Nat:=[23,24]
def dr:List Y:=
 [.fresh 26 [],
  .fresh 27 [],
  .assign 13 (.const (.str true (nm ""))),
  .assign 28 (.const (.int true (0))),
  .for (.one 21) (.range (.const (.int true (5)))) [.assign 22 (.sub (.var 20) (.var 21)),
  .aug 28 (.bin .mod (.var 22) (.const (.int true (3)))),
  .assign 23 (.bin .add (.sub (.const (.str true (nm " \"#M\\z"))) (.bin .mod (.bin .fdiv (.var 22) (.const (.int true (3)))) (.const (.int true (6))))) (.sub (.const (.str true (nm "abcde"))) (.var 21))),
  .append 26 (.var 23),
  .append 27 (.var 28),
  .aug 13 (.bin .add (.call 5 [(.var 23),(.bin .mod (.bin .fdiv (.var 22) (.const (.int true (18)))) (.const (.int true (2))))]) (.sub (.const (.str true (nm "\n\t\x0d "))) (.bin .mod (.bin .fdiv (.var 22) (.const (.int true (36)))) (.const (.int true (4))))))] false,
  .ret (.tup [(.var 26),(.var 27),(.var 13)])]
def du:List Nat:=[20]
def fF:List Y:=
 [.fresh 29 [(.sub (.tup [(.const (.int true (1))),(.const (.int true (2))),(.const (.int true (1))),(.const (.int true (3))),(.const (.int true (2))),(.const (.int true (1))),(.const (.int true (2))),(.const (.int true (0)))]) (.bin .mod (.var 22) (.const (.int true (8))))),(.sub (.tup [(.const (.int true (1))),(.const (.int true (2))),(.const (.int true (3))),(.const (.int true (0))),(.const (.int true (2))),(.const (.int true (127))),(.const (.int true (1))),(.const (.int true (3)))]) (.bin .mod (.bin .fdiv (.var 22) (.const (.int true (8)))) (.const (.int true (8)))))],
  .ret (.bin .add (.var 29) (.list [(.sub (.tup [(.const (.int true (2))),(.const (.int true (127))),(.const (.int true (1))),(.const (.int true (0))),(.const (.int true (3))),(.const (.int true (1))),(.const (.int true (2))),(.const (.int true (0)))]) (.bin .mod (.bin .fdiv (.var 22) (.const (.int true (64)))) (.const (.int true (8))))),(.sub (.tup [(.const (.int true (127))),(.const (.int true (1))),(.const (.int true (2))),(.const (.int true (3)))]) (.bin .mod (.bin .fdiv (.var 22) (.const (.int true (512)))) (.const (.int true (4)))))]))]
def fG:List Nat:=[22]
def iu:List Y:=
 [.ite (.cmp .eq (.sub (.var 29) (.const (.int true (0)))) (.const (.int true (0)))) [.ret (.list [(.const (.int true (0)))])] [],
  .assign 31 (.bi .min [(.bin .add (.comp (.var 21) [((.one 21),(.range (.const (.int true (4)))),[(.cmp .isin (.sub (.var 29) (.var 21)) (.tup [(.const (.int true (0))),(.const (.int true (127)))]))])]) (.list [(.const (.int true (4)))]))]),
  .assign 32 (.slice (.var 29) none (some (.var 31))),
  .ite (.cmp .isin (.const (.int true (0))) (.slice (.var 29) (some (.var 31)) (some (.bin .add (.var 31) (.const (.int true (1))))))) [.assign 32 (.bin .add (.var 32) (.bin .mul (.slice (.var 32) (some (.neg (.const (.int true (1))))) none) (.const (.int true (12)))))] [],
  .assign 33 (.comp (.bi .sum [(.slice (.var 32) none (some (.bin .add (.var 21) (.const (.int true (1))))))]) [((.one 21),(.range (.bi .len [(.var 32)])),[])]),
  .ret (.comp (.var 28) [((.one 28),(.var 33),[(.cmp .le (.var 28) (.const (.int true (12))))])])]
def iw:List Nat:=[29]
def eS:List Y:=
 [.newLex 34 (.var 13),
  .gets 35 34 6,
  .iteLine (.cmp .ne (.var 35) (.bin .add (.var 26) (.list [(.const (.str true (nm "")))]))) 34 (.bin .add (.const (.int true (1))) (.call 0 [(.var 13),(.const (.str true (nm "\n")))])) [.ret (.const (.bool false))] [],
  .assign 36 (.comp (.comp (.bi .ord [(.var 18)]) [((.one 18),(.var 23),[])]) [((.one 23),(.var 26),[])]),
  .assign 37 (.comp (.comp (.bin .sub (.cmp .gt (.var 39) (.var 40)) (.cmp .lt (.var 39) (.var 40))) [((.one 40),(.var 36),[])]) [((.one 39),(.var 36),[])]),
  .ret (.cmp .eq (.comp (.comp (.call 3 [(.var 39),(.var 40)]) [((.one 40),(.var 26),[])]) [((.one 39),(.var 26),[])]) (.var 37))]
def eU:List Nat:=[26,13]
def cf:List Y:=
 [.newLex 41 (.bin .mul (.const (.str true (nm ".\n"))) (.const (.int true (18)))),
  .newLex 42 (.bin .mul (.const (.str true (nm ".\n"))) (.const (.int true (18)))),
  .fresh 43 [],
  .fresh 44 [],
  .assign 45 (.const (.int true (0))),
  .assign 46 (.const (.int true (0))),
  .assign 28 (.const (.int true (0))),
  .loop (.cmp .lt (.var 46) (.const (.int true (5)))) [.loop (.and (.cmp .lt (.var 45) (.const (.int true (5)))) (.cmp .eq (.sub (.var 27) (.var 45)) (.var 28))) [.push 41 (.sub (.var 26) (.var 45)),
  .push 42 (.sub (.var 26) (.var 45)),
  .insert 43 (.bin .fdiv (.bi .len [(.var 43)]) (.const (.int true (2)))) (.sub (.var 26) (.var 45)),
  .aug 45 (.const (.int true (1)))],
  .ite (.or (.cmp .isin (.var 28) (.var 30)) (.cmp .gt (.var 28) (.sub (.var 30) (.neg (.const (.int true (1))))))) [.getTok 39 41,
  .getTok 40 42,
  .for (.one 38) (.range (.bin .sub (.bi .len [(.var 43)]) (.const (.int true (1))))) [.getTok 47 42,
  .ite (.cmp .eq (.call 3 [(.var 47),(.var 40)]) (.neg (.const (.int true (1))))) [.push 42 (.var 40),
  .assign 40 (.var 47)] [.push 42 (.var 47)]] false,
  .assign 48 (.const (.str true (nm "."))),
  .ite (.cmp .ne (.var 43) (.list [])) [.assign 48 (.call 1 [(.var 43),(.bin .fdiv (.bin .sub (.bi .len [(.var 43)]) (.const (.int true (1)))) (.const (.int true (2))))]),
  .delIt 43 (.bin .sub (.neg (.const (.int true (1)))) (.bin .fdiv (.bi .len [(.var 43)]) (.const (.int true (2))))),
  .aug 46 (.const (.int true (1)))] [],
  .append 44 (.bin .add (.list [(.var 28)]) (.comp (.call 11 [(.var 26),(.var 23)]) [((.one 23),(.tup [(.var 39),(.var 40),(.var 48)]),[])]))] [],
  .aug 28 (.const (.int true (1)))],
  .assign 49 (.bi .len [(.comp (.var 29) [((.one 29),(.var 44),[(.cmp .eq (.slice (.var 29) (some (.const (.int true (1)))) none) (.list [(.const (.int true (9))),(.const (.int true (9))),(.const (.int true (9)))]))])])]),
  .retLines 41 42 (.bin .add (.const (.int true (1))) (.var 49)) (.cmp .eq (.bi .len [(.var 44)]) (.bin .add (.const (.int true (5))) (.var 49))) (.var 44) (.list [])]
def cT:List Nat:=[26,27,30]
def ee:List Y:=
 [.fresh 50 [],
  .assign 51 (.neg (.const (.int true (1)))),
  .for (.one 45) (.var 27) [.assign 51 (.bi .max [(.bin .add (.var 51) (.const (.int true (1)))),(.var 45)]),
  .loop (.and (.cmp .notin (.var 51) (.var 30)) (.cmp .le (.var 51) (.sub (.var 30) (.neg (.const (.int true (1))))))) [.aug 51 (.const (.int true (1)))],
  .append 50 (.var 51)] false,
  .ret (.var 50)]
def eh:List Nat:=[27,30]
def cW:List Y:=
 [.assign 54 (.comp (.bi .len [(.comp (.const (.int true (1))) [((.one 47),(.var 26),[(.cmp .lt (.var 47) (.var 23))])])]) [((.one 23),(.var 26),[])]),
  .for (.two 21 29) (.enum (.var 52)) [.assign 46 (.comp (.sub (.var 47) (.const (.int true (2)))) [((.one 47),(.slice (.var 52) none (some (.var 21))),[])]),
  .assign 56 (.comp (.sub (.var 54) (.var 55)) [((.one 55),(.range (.const (.int true (5)))),[(.and (.cmp .le (.sub (.var 27) (.var 55)) (.sub (.var 29) (.const (.int true (0))))) (.cmp .notin (.var 55) (.var 46)))])]),
  .ite (.or (.cmp .ne (.sub (.var 29) (.const (.int true (1)))) (.var 21)) (.cmp .ne (.sub (.var 54) (.sub (.var 29) (.const (.int true (2))))) (.bi .min [(.var 56)]))) [.ret (.const (.bool false))] []] false,
  .for (.one 55) (.range (.const (.int true (5)))) [.assign 50 (.comp (.sub (.var 29) (.const (.int true (0)))) [((.one 29),(.var 52),[(.cmp .ge (.sub (.var 29) (.const (.int true (0)))) (.sub (.var 27) (.var 55)))])]),
  .assign 57 (.comp (.bin .sub (.bin .add (.var 38) (.const (.int true (1)))) (.bi .len [(.comp (.var 45) [((.one 45),(.slice (.var 27) (some (.bin .add (.var 55) (.const (.int true (1))))) none),[(.cmp .le (.var 45) (.var 58))])])])) [((.two 38 58),(.enum (.var 50)),[])]),
  .ite (.cmp .ne (.sub (.sub (.var 53) (.const (.int true (2)))) (.var 55)) (.sub (.var 50) (.call 2 [(.var 57),(.const (.int true (1)))]))) [.ret (.const (.bool false))] []] false,
  .ret (.const (.bool true))]
def cX:List Nat:=[26,27,52,53]
def ej:List Y:=
 [.assign 59 (.comp (.bi .sorted [(.comp (.bin .sub (.sub (.var 41) (.var 55)) (.sub (.var 27) (.var 55))) [((.one 55),(.range (.const (.int true (5)))),[])])]) [((.one 41),(.var 53),[])]),
  .assign 60 (.comp (.comp (.bi .sum [(.slice (.var 41) (some (.var 21)) none)]) [((.one 21),(.range (.const (.int true (5)))),[])]) [((.one 41),(.var 59),[])]),
  .for (.one 21) (.range (.const (.int true (5)))) [.ite (.not (.cmp2 .le .le (.sub (.sub (.var 60) (.const (.int true (0)))) (.var 21)) (.sub (.sub (.var 60) (.const (.int true (1)))) (.var 21)) (.sub (.sub (.var 60) (.const (.int true (2)))) (.var 21)))) [.ret (.const (.bool false))] []] false,
  .assign 61 (.comp (.tup [(.sub (.var 27) (.var 39)),(.sub (.sub (.var 53) (.const (.int true (1)))) (.var 39)),(.sub (.var 27) (.var 40)),(.sub (.sub (.var 53) (.const (.int true (1)))) (.var 40))]) [((.one 39),(.range (.const (.int true (5)))),[]),((.one 40),(.range (.const (.int true (5)))),[(.cmp .lt (.sub (.var 27) (.var 39)) (.sub (.var 27) (.var 40)))])]),
  .assign 62 (.comp (.var 64) [((.one 64),(.var 61),[(.cmp .lt (.sub (.var 64) (.const (.int true (3)))) (.sub (.var 64) (.const (.int true (1)))))])]),
  .assign 63 (.comp (.var 64) [((.one 64),(.var 61),[(.cmp2 .le .lt (.sub (.var 64) (.const (.int true (2)))) (.sub (.var 64) (.const (.int true (1)))) (.sub (.var 64) (.const (.int true (3)))))])]),
  .ret (.and (.cmp .eq (.cmp .eq (.sub (.var 59) (.const (.int true (1)))) (.sub (.var 59) (.const (.int true (0))))) (.cmp .eq (.var 62) (.list []))) (.cmp .eq (.cmp .eq (.sub (.var 59) (.const (.int true (1)))) (.sub (.var 59) (.const (.int true (2))))) (.cmp .eq (.var 63) (.list []))))]
def ez:List Nat:=[27,53]
def fT:List Y:=
 [.assign 52 (.comp (.var 29) [((.one 29),(.call 12 [(.var 26),(.var 27),(.var 30)]),[(.cmp .ne (.sub (.var 29) (.const (.int true (3)))) (.const (.int true (9))))])]),
  .ite (.cmp .ne (.comp (.sub (.var 29) (.const (.int true (0)))) [((.one 29),(.var 52),[])]) (.call 13 [(.var 27),(.var 30)])) [.ret (.const (.bool false))] [],
  .fresh 53 [],
  .for (.one 65) (.tup [(.const (.int true (1))),(.const (.int true (2))),(.const (.int true (3)))]) [.ite (.cmp .ne (.bi .sorted [(.comp (.sub (.var 29) (.var 65)) [((.one 29),(.var 52),[])])]) (.list [(.const (.int true (0))),(.const (.int true (1))),(.const (.int true (2))),(.const (.int true (3))),(.const (.int true (4)))])) [.ret (.const (.bool false))] [],
  .append 53 (.comp (.sub (.comp (.sub (.var 29) (.const (.int true (0)))) [((.one 29),(.var 52),[(.cmp .eq (.sub (.var 29) (.var 65)) (.var 55))])]) (.const (.int true (0)))) [((.one 55),(.range (.const (.int true (5)))),[])])] false,
  .ret (.and (.call 14 [(.var 26),(.var 27),(.var 52),(.var 53)]) (.call 15 [(.var 27),(.var 53)]))]
def fU:List Nat:=[26,27,30]
def uB:List Y:=
 [.assign 20 (.call 4 [(.var 19)]),
  .assign 66 (.call 6 [(.var 20)]),
  .assign 29 (.call 7 [(.sub (.var 20) (.const (.int true (5))))]),
  .assign 30 (.call 8 [(.var 29)]),
  .ite (.or (.cmp .ne (.var 30) (.call 9 [(.var 29)])) (.not (.call 10 [(.sub (.var 66) (.const (.int true (0)))),(.sub (.var 66) (.const (.int true (2))))]))) [.ret (.const (.bool false))] [],
  .ret (.call 16 [(.sub (.var 66) (.const (.int true (0)))),(.sub (.var 66) (.const (.int true (1)))),(.var 30)])]
def uC:List Nat:=[19]
theorem EU{P:List Value→Prop}{x y z a:Str}(h:∀v w u t,P [v,w,u,t]):∀vals:List Value,vals.length=[x,y,z,a].length→P vals
 | [v,w,u,t],_=>h v w u t
 | [],e|[_],e|[_,_],e|[_,_,_],e=>by cases e
 | _::_::_::_::_::_,e=>by cases e
theorem vN(p:Params):cS.cSs TT aT 60 (aF (KK p) 21).scope.names (aR (aF (KK p) 21))=some gj:=by kernel_rfl
theorem mL{C:Cx}(x:CK C):eM C 21 (aF (KK C.w.params) 21) (aR (aF (KK C.w.params) 21)) [nm "a",nm "b"]:=
 bV x rfl rfl (by decide) rfl rfl (lF λ_ _=>by kernel_rfl) rfl rfl rfl rfl rfl rfl
theorem oK(p:Params):aW (aF (KK p) 21).scope []=true∧[nm "a",nm "b"].all (cK (aF (KK p) 21).scope.names)=true:=⟨by rfl,by rfl⟩
theorem vO:[nm "a",nm "b"].Nodup:=by decide +kernel
theorem vP:gm.map (TT[·]?)=[nm "a",nm "b"].map some:=by decide +kernel
theorem vQ(p:Params):cS.cSs TT aT 60 (aF (KK p) 35).scope.names (aR (aF (KK p) 35))=some gp:=by kernel_rfl
theorem mM{C:Cx}(x:CK C):eM C 35 (aF (KK C.w.params) 35) (aR (aF (KK C.w.params) 35)) [nm "a",nm "b"]:=
 bV x rfl rfl (by decide) rfl rfl (lF λ_ _=>by kernel_rfl) rfl rfl rfl rfl rfl rfl
theorem oL(p:Params):aW (aF (KK p) 35).scope []=true∧[nm "a",nm "b"].all (cK (aF (KK p) 35).scope.names)=true:=⟨by rfl,by rfl⟩
theorem vR:[nm "a",nm "b"].Nodup:=by decide +kernel
theorem vS:gq.map (TT[·]?)=[nm "a",nm "b"].map some:=by decide +kernel
theorem vT(p:Params):cS.cSs TT aT 60 (aF (KK p) 42).scope.names (aR (aF (KK p) 42))=some fk:=by kernel_rfl
theorem gT{C:Cx}(x:CK C):eM C 42 (aF (KK C.w.params) 42) (aR (aF (KK C.w.params) 42)) [nm "a",nm "b"]:=
 bV x rfl rfl (by decide) rfl rfl (lF λ_ _=>by kernel_rfl) rfl rfl rfl rfl rfl rfl
theorem iW(p:Params):aW (aF (KK p) 42).scope []=true∧[nm "a",nm "b"].all (cK (aF (KK p) 42).scope.names)=true:=⟨by rfl,by rfl⟩
theorem oM:[nm "a",nm "b"].Nodup:=by decide +kernel
theorem oN:bg.map (TT[·]?)=[nm "a",nm "b"].map some:=by decide +kernel
theorem tA(p:Params):cS.cSs TT aT 60 (aF (KK p) 49).scope.names (aR (aF (KK p) 49))=some gR:=by kernel_rfl
theorem lb{C:Cx}(x:CK C):eM C 49 (aF (KK C.w.params) 49) (aR (aF (KK C.w.params) 49)) [nm "a",nm "b"]:=
 bV x rfl rfl (by decide) rfl rfl (lF λ_ _=>by kernel_rfl) rfl rfl rfl rfl rfl rfl
theorem mN(p:Params):aW (aF (KK p) 49).scope []=true∧[nm "a",nm "b"].all (cK (aF (KK p) 49).scope.names)=true:=⟨by rfl,by rfl⟩
theorem tB:[nm "a",nm "b"].Nodup:=by decide +kernel
theorem tC:gS.map (TT[·]?)=[nm "a",nm "b"].map some:=by decide +kernel
theorem pF(p:Params):cS.cSs TT aT 60 (aF (KK p) 112).scope.names (aR (aF (KK p) 112))=some d8:=by kernel_rfl
theorem jg{C:Cx}(x:CK C):eM C 112 (aF (KK C.w.params) 112) (aR (aF (KK C.w.params) 112)) [nm "script"]:=
 bV x rfl rfl (by decide) rfl rfl (nJ λ_=>by kernel_rfl) rfl rfl rfl rfl rfl rfl
theorem j8(p:Params):aW (aF (KK p) 112).scope []=true∧[nm "script"].all (cK (aF (KK p) 112).scope.names)=true:=⟨by rfl,by rfl⟩
theorem pG:[nm "script"].Nodup:=by decide +kernel
theorem pH:d9.map (TT[·]?)=[nm "script"].map some:=by decide +kernel
theorem mO(p:Params):cS.cSs TT aT 60 (aF (KK p) 119).scope.names (aR (aF (KK p) 119))=some fD:=by kernel_rfl
theorem g9{C:Cx}(x:CK C):eM C 119 (aF (KK C.w.params) 119) (aR (aF (KK C.w.params) 119)) [nm "word",nm "quoted"]:=
 bV x rfl rfl (by decide) rfl rfl (lF λ_ _=>by kernel_rfl) rfl rfl rfl rfl rfl rfl
theorem iy(p:Params):aW (aF (KK p) 119).scope []=true∧[nm "word",nm "quoted"].all (cK (aF (KK p) 119).scope.names)=true:=⟨by rfl,by rfl⟩
theorem mP:[nm "word",nm "quoted"].Nodup:=by decide +kernel
theorem mQ:fE.map (TT[·]?)=[nm "word",nm "quoted"].map some:=by decide +kernel
theorem nT(p:Params):cS.cSs TT aT 60 (aF (KK p) 126).scope.names (aR (aF (KK p) 126))=some dr:=by kernel_rfl
theorem iz{C:Cx}(x:CK C):eM C 126 (aF (KK C.w.params) 126) (aR (aF (KK C.w.params) 126)) [nm "cells"]:=
 bV x rfl rfl (by decide) rfl rfl (nJ λ_=>by kernel_rfl) rfl rfl rfl rfl rfl rfl
theorem jh(p:Params):aW (aF (KK p) 126).scope []=true∧[nm "cells"].all (cK (aF (KK p) 126).scope.names)=true:=⟨by rfl,by rfl⟩
theorem nU:[nm "cells"].Nodup:=by decide +kernel
theorem nV:du.map (TT[·]?)=[nm "cells"].map some:=by decide +kernel
theorem tD(p:Params):cS.cSs TT aT 60 (aF (KK p) 133).scope.names (aR (aF (KK p) 133))=some fF:=by kernel_rfl
theorem lc{C:Cx}(x:CK C):eM C 133 (aF (KK C.w.params) 133) (aR (aF (KK C.w.params) 133)) [nm "x"]:=
 bV x rfl rfl (by decide) rfl rfl (nJ λ_=>by kernel_rfl) rfl rfl rfl rfl rfl rfl
theorem mR(p:Params):aW (aF (KK p) 133).scope []=true∧[nm "x"].all (cK (aF (KK p) 133).scope.names)=true:=⟨by rfl,by rfl⟩
theorem tE:[nm "x"].Nodup:=by decide +kernel
theorem tF:fG.map (TT[·]?)=[nm "x"].map some:=by decide +kernel
theorem rh(p:Params):cS.cSs TT aT 60 (aF (KK p) 145).scope.names (aR (aF (KK p) 145))=some iu:=by kernel_rfl
theorem j9{C:Cx}(x:CK C):eM C 145 (aF (KK C.w.params) 145) (aR (aF (KK C.w.params) 145)) [nm "row"]:=
 bV x rfl rfl (by decide) rfl rfl (nJ λ_=>by kernel_rfl) rfl rfl rfl rfl rfl rfl
theorem lg(p:Params):aW (aF (KK p) 145).scope []=true∧[nm "row"].all (cK (aF (KK p) 145).scope.names)=true:=⟨by rfl,by rfl⟩
theorem rj:[nm "row"].Nodup:=by decide +kernel
theorem rn:iw.map (TT[·]?)=[nm "row"].map some:=by decide +kernel
theorem rq(p:Params):cS.cSs TT aT 60 (aF (KK p) 150).scope.names (aR (aF (KK p) 150))=some eS:=by kernel_rfl
theorem ka{C:Cx}(x:CK C):eM C 150 (aF (KK C.w.params) 150) (aR (aF (KK C.w.params) 150)) [nm "words",nm "page"]:=
 bV x rfl rfl (by decide) rfl rfl (lF λ_ _=>by kernel_rfl) rfl rfl rfl rfl rfl rfl
theorem lj(p:Params):aW (aF (KK p) 150).scope []=true∧[nm "words",nm "page"].all (cK (aF (KK p) 150).scope.names)=true:=⟨by rfl,by rfl⟩
theorem rs:[nm "words",nm "page"].Nodup:=by decide +kernel
theorem rt:eU.map (TT[·]?)=[nm "words",nm "page"].map some:=by decide +kernel
theorem nW(p:Params):cS.cSs TT aT 60 (aF (KK p) 162).scope.names (aR (aF (KK p) 162))=some cf:=by kernel_rfl
theorem iA{C:Cx}(x:CK C):eM C 162 (aF (KK C.w.params) 162) (aR (aF (KK C.w.params) 162)) [nm "words",nm "comes",nm "marks"]:=
 bV x rfl rfl (by decide) rfl rfl (CU λ_ _ _=>by kernel_rfl) rfl rfl rfl rfl rfl rfl
theorem ji(p:Params):aW (aF (KK p) 162).scope []=true∧[nm "words",nm "comes",nm "marks"].all (cK (aF (KK p) 162).scope.names)=true:=⟨by rfl,by rfl⟩
theorem nY:[nm "words",nm "comes",nm "marks"].Nodup:=by decide +kernel
theorem nZ:cT.map (TT[·]?)=[nm "words",nm "comes",nm "marks"].map some:=by decide +kernel
theorem pI(p:Params):cS.cSs TT aT 60 (aF (KK p) 169).scope.names (aR (aF (KK p) 169))=some ee:=by kernel_rfl
theorem jj{C:Cx}(x:CK C):eM C 169 (aF (KK C.w.params) 169) (aR (aF (KK C.w.params) 169)) [nm "comes",nm "marks"]:=
 bV x rfl rfl (by decide) rfl rfl (lF λ_ _=>by kernel_rfl) rfl rfl rfl rfl rfl rfl
theorem kb(p:Params):aW (aF (KK p) 169).scope []=true∧[nm "comes",nm "marks"].all (cK (aF (KK p) 169).scope.names)=true:=⟨by rfl,by rfl⟩
theorem pJ:[nm "comes",nm "marks"].Nodup:=by decide +kernel
theorem pK:eh.map (TT[·]?)=[nm "comes",nm "marks"].map some:=by decide +kernel
theorem mS(p:Params):cS.cSs TT aT 60 (aF (KK p) 174).scope.names (aR (aF (KK p) 174))=some cW:=by kernel_rfl
theorem hJ{C:Cx}(x:CK C):eM C 174 (aF (KK C.w.params) 174) (aR (aF (KK C.w.params) 174)) [nm "words",nm "comes",nm "busy",nm "ends"]:=
 bV x rfl rfl (by decide) rfl rfl (EU λ_ _ _ _=>by kernel_rfl) rfl rfl rfl rfl rfl rfl
theorem iB(p:Params):aW (aF (KK p) 174).scope []=true∧[nm "words",nm "comes",nm "busy",nm "ends"].all (cK (aF (KK p) 174).scope.names)=true:=⟨by rfl,by rfl⟩
theorem mT:[nm "words",nm "comes",nm "busy",nm "ends"].Nodup:=by decide +kernel
theorem mU:cX.map (TT[·]?)=[nm "words",nm "comes",nm "busy",nm "ends"].map some:=by decide +kernel
theorem pL(p:Params):cS.cSs TT aT 60 (aF (KK p) 179).scope.names (aR (aF (KK p) 179))=some ej:=by kernel_rfl
theorem jk{C:Cx}(x:CK C):eM C 179 (aF (KK C.w.params) 179) (aR (aF (KK C.w.params) 179)) [nm "comes",nm "ends"]:=
 bV x rfl rfl (by decide) rfl rfl (lF λ_ _=>by kernel_rfl) rfl rfl rfl rfl rfl rfl
theorem ke(p:Params):aW (aF (KK p) 179).scope []=true∧[nm "comes",nm "ends"].all (cK (aF (KK p) 179).scope.names)=true:=⟨by rfl,by rfl⟩
theorem pM:[nm "comes",nm "ends"].Nodup:=by decide +kernel
theorem pN:ez.map (TT[·]?)=[nm "comes",nm "ends"].map some:=by decide +kernel
theorem rx(p:Params):cS.cSs TT aT 60 (aF (KK p) 184).scope.names (aR (aF (KK p) 184))=some fT:=by kernel_rfl
theorem kf{C:Cx}(x:CK C):eM C 184 (aF (KK C.w.params) 184) (aR (aF (KK C.w.params) 184)) [nm "words",nm "comes",nm "marks"]:=
 bV x rfl rfl (by decide) rfl rfl (CU λ_ _ _=>by kernel_rfl) rfl rfl rfl rfl rfl rfl
theorem lm(p:Params):aW (aF (KK p) 184).scope []=true∧[nm "words",nm "comes",nm "marks"].all (cK (aF (KK p) 184).scope.names)=true:=⟨by rfl,by rfl⟩
theorem ry:[nm "words",nm "comes",nm "marks"].Nodup:=by decide +kernel
theorem rz:fU.map (TT[·]?)=[nm "words",nm "comes",nm "marks"].map some:=by decide +kernel
theorem Dw(p:Params):cS.cSs TT aT 60 (aF (KK p) 191).scope.names (aR (aF (KK p) 191))=some uB:=by kernel_rfl
theorem xC{C:Cx}(x:CK C):eM C 191 (aF (KK C.w.params) 191) (aR (aF (KK C.w.params) 191)) [nm "script"]:=
 bV x rfl rfl (by decide) rfl rfl (nJ λ_=>by kernel_rfl) rfl rfl rfl rfl rfl rfl
theorem Az(p:Params):aW (aF (KK p) 191).scope []=true∧[nm "script"].all (cK (aF (KK p) 191).scope.names)=true:=⟨by rfl,by rfl⟩
theorem Dx:[nm "script"].Nodup:=by decide +kernel
theorem Dy:uC.map (TT[·]?)=[nm "script"].map some:=by decide +kernel
abbrev VE:Str:=Str.ofString "ValueError"
structure kQ(C:Cx):Prop where
 ve:C.mg VE=none∧C.mb VE=some (.type "ValueError")
theorem ze(p:Params):∃t i x np msg k cp cpos rp fp,aR (aF (KK p) 42)=[.For t i x [.Raise (some (.Call (.Name VE np) [.Constant (.str msg) k cp] [] cpos)) none rp] fp]∧
  oj TT (aF (KK p) 42).scope.names t=some (.two 3 4)∧cE TT aT 60 (aF (KK p) 42).scope.names i=some (.enum (.var 0))∧cS.cSs TT aT 60 (aF (KK p) 42).scope.names x=some xB∧lC (aF (KK p) 42).scope.names VE=true:=
 ⟨_,_,_,_,_,_,_,_,_,_,rfl,by kernel_rfl,by kernel_rfl,by kernel_rfl,rfl⟩
section
variable{C:Cx}{S:Addr→Prop}{W:Wd}{s:Shared}{A:Around}{E:Value→Shared→Prop}
theorem di:∃jt:Nat,TT[jt]?=some (Str.ofString "turn"):=⟨38,by decide +kernel⟩
theorem mV(x:CK C)(xv:kQ C){ws:List Str}{y:Str}(hnf:∀w∈ws,w≠y)(hlen:ws.length≤1000){outer:List Env}(hfr:A.frames=some outer)(ho:∀env∈outer,env.scope.kind ≠ .module∧∃L,env.frame=some L∧C.fa L)(hR:bl 7 A)(hA:At C W s)(hS:SX C S W.h){vs:List Value}
  (hr:av S W [.list (ws.map (.str true)),.str true y] vs) (hE:∀e s',xA C outer W e s'→E (.ref e) s') :
  wpAny (model C.prog C.w) A (call (.ref 42) vs) (λ_ _=>False) E s:=by
 have hvl:vs.length=[nm "a",nm "b"].length:=hr.length
 refine wpAny_call (pq x.ok (gT x) (iW _).1 oM (List.all_eq_true.mp (iW _).2) hvl hA hS hR λenv ae aj mm S' hmm en b6=>?_)
 have vars:bO TT S' aj mm (bg.zip [.list (ws.map (.str true)),.str true y]):=fP oN ((av.grow en.gr _ hr).le en.le (en.sup _ hS.1)) hvl hmm
 have hh:∀b,hid S' (λ_=>⟨0,0,0,0,0,0,0,0,0⟩) ([]:List (Nat×Ob)) b→S' b:=λb hb=>hb.elim id λ⟨i,l,h,_⟩=>by cases h
 generalize hfa':(λb=>b=env.locals∨C.fa b)=fa'
 have au:At (C.wi fa') aj ae:=At.with (C:=C) (fa:=C.fa) en.at' hfa'.symm en.own.locN en.fr
 have fb:bB (C.wi fa') 6 (A.deeper env):=⟨b6,λq=>by
  refine⟨env::outer,Around.frames_deeper hfr,λe he=>?_⟩
  rcases List.mem_cons.mp he with rfl|he
  ·exact⟨by rw[en.fr.kind];nofun,_,en.frm,by rw[←hfa'];exact .inl rfl⟩
  ·obtain⟨k1,L,k2,k3⟩:=ho e he
   exact⟨k1,L,k2,by show fa' L;rw[←hfa'];exact .inr k3⟩⟩
 have si:SI (C.wi fa') TT (aF (KK C.w.params) 42).scope.names S' aj env mm (λ_=>⟨0,0,0,0,0,0,0,0,0⟩) ⟨bg.zip [.list (ws.map (.str true)),.str true y],[]⟩:=
  ⟨⟨.inl (en.sup _ hS.1),λb hb=>en.sx.2 b (hh b hb)⟩,en.fr.wi,λi d h=>let ⟨y,v,e1,e2,e3⟩:=vars i d h;⟨y,v,e1,e2,aN.sub hh _ e3⟩,λi l h=>(by cases h),λi l h=>(by cases h),λi j o o' b h=>(by cases h),λi o b h=>(by cases h),List.nodup_nil⟩
 have x2:=x.wi fa'
 have hL2:=uk x2.ok x2.bis 6
 obtain⟨t,i,xb,np,msg,k,cp,cpos,rp,fp,eb,c1,c2,c3,c4⟩:=ze C.w.params
 rw[eb]
 obtain⟨me1,hloop⟩:=uz (F:=wR) ws 0 [(0,.list (ws.map (.str true))),(1,.str true y)] rfl hnf
 have hxs:jK wR 8 (.two 3 4) (.enum (.var 0)) ⟨bg.zip [.list (ws.map (.str true)),.str true y],[]⟩=some (dM 0 (ws.map (.str true))):=by
  have:ws.length≤100000:=Nat.le_trans hlen (by decide)
  simp[jK,gY,ev,bg,this]
 refine wpAny_execs_cons (xz hL2 az (fS x2 hL2 (by decide) az di 8).2 (jL TT c1) ((jc TT aT 60).1 _ _ _ c2) ((dg TT aT 60).2 _ _ _ c3) hxs hloop fb au si en.ag en.own.wi (en.sup _ hS.1) PassesOwn.leaving λbF bf dG bY aD aO gv=>?_)
 have xD:=gv.envok en.ag
 refine wpAny_execs_cons (Raise_madeB PySem.F.excCall_ValueError PySem.F.excRaise_ValueError fb.r.1 (wpAny_Name (jM x2.ok aO xD c4 xv.ve.1 xv.ve.2 ⟨rfl,?_⟩) (by decide)) rfl rfl)
 rw[aA rfl]
 refine Calls.spliced_cons (wpAny_mono ((ba hL2 az 2).1 _ _ (.const (.str true msg)) _ (.str true msg) _ _ _ _ _ _ _ (.str) rfl fb aO gv.sx xD) (λv cq ⟨aB,aU,bH,kK⟩=>Calls.spliced_nil ⟨by show 1≤sizeLine;rw[sizeLine_eq];omega,λh' e hx=>?_⟩) λ_ _ x=>x)
 have LA:Le C W bf:=⟨λb o hb e0=>aD.ext.step (λq=>?_) (en.le.ext b o hb e0),Nat.le_trans en.le.k aD.k,λt ht=>(aD.g t (Nat.lt_of_lt_of_le ht en.le.k)).trans (en.le.g t ht),λcv q ne h=>aD.cr cv q ne (en.le.cr cv q ne h),λi z h=>aD.gn i z (en.le.gn i z h)⟩
 ·exact rg (C:=C) bH (λb hb=>by rw[←hfa'];exact .inr hb) (LA.trans ⟨aU.ext,aU.k,aU.g,aU.cr,aU.gn⟩) hfr en.fr.kind en.frm (by rw[←hfa'];exact .inl rfl) ho hx λs' fl=>hE e s' fl
 ·rcases q with(h|(h|⟨y,_,h⟩))|⟨i,l,h,_⟩
  ·exact hb h
  ·rw[h,en.frl]at e0;cases e0
  ·rw[(en.cells y b h).2]at e0;cases e0
  ·cases h
end
theorem xE(p:Params):∃ip as1 cp rp np k kp rp2 hp tp,aR (aF (KK p) 157)=[.Try [.Return (some (.Call (.Name (Str.ofString "indexOf") ip) as1 [] cp)) rp] [.ExceptHandler (some (.Name VE np)) none [.Return (some (.Constant (.int 9) k kp)) rp2] hp] [] [] tp]∧
  cE.cL TT aT 60 (aF (KK p) 157).scope.names as1=some [.var 26,.var 23]∧cS.cSs TT aT 60 (aF (KK p) 157).scope.names [.Return (some (.Call (.Name (Str.ofString "indexOf") ip) as1 [] cp)) rp]=some [.ret (.call 2 [.var 26,.var 23])]∧lC (aF (KK p) 157).scope.names VE=true∧lC (aF (KK p) 157).scope.names (Str.ofString "indexOf")=true:=
 ⟨_,_,_,_,_,_,_,_,_,_,rfl,by kernel_rfl,by kernel_rfl,rfl,rfl⟩
theorem lp{C:Cx}(x:CK C):eM C 157 (aF (KK C.w.params) 157) (aR (aF (KK C.w.params) 157)) [nm "words",nm "word"]:=
 bV x rfl rfl (by decide) rfl rfl (lF λ_ _=>by kernel_rfl) rfl rfl rfl rfl rfl rfl
theorem mW(p:Params):aW (aF (KK p) 157).scope []=true∧[nm "words",nm "word"].all (cK (aF (KK p) 157).scope.names)=true:=⟨by rfl,by rfl⟩
theorem tH:[nm "words",nm "word"].Nodup:=by decide +kernel
theorem tI:[26,23].map (TT[·]?)=[nm "words",nm "word"].map some:=by decide +kernel
section
variable{C:Cx}{S:Addr→Prop}{W W₂:Wd}{s ak:Shared}{A:Around}{E:Value→Shared→Prop}{F:Nat→List D→Option D}{R:Nat}
theorem kQ.wi(x:kQ C)(fa:Addr→Prop):kQ (C.wi fa):=⟨x.ve⟩
theorem At.over{fa':Addr→Prop}(hC:C.Ok)(a:At (C.wi fa') W₂ ak){l:List Addr}(hl:∀b∈l,fa' b){h:Heap}(k:(hideAll ak.heap l).StaysIn h)(u:ak.heap.UpToSlots h):
  At (C.wi fa') { W₂ with h:=h } { ak with heap:=h,toks:=ak.toks }∧Le (C.wi fa') W₂ { W₂ with h:=h }:=
 At.slots hC.wi a (λb o n e=>k b o (hideAll_get l e λq=>n (hl b q))) (λb o q e=>by
  obtain⟨_,o',es,n,e',d⟩:=a.inv.fr b q
  rw[e]at e';cases e'
  exact u b o e λvs z=>by rw[d]at z;cases z) (Nat.le_refl _)
def gw(ws:List Str)(y:Str):Int:=match ws.findIdx? (· == y)with|some i=>(i:Int)|none=>9
theorem xF(x:CK C)(xv:kQ C)(hL:Lk C TT aT F R)(h7:7≤R){ws:List Str}{y:Str}(hlen:ws.length≤1000)(hF:y∈ws→F 2 [.list (ws.map (.str true)),.str true y]=some (.int true (gw ws y)))
  (hR:bB C (R+1) A) (hA:At C W s) (hS:SX C S W.h) {vs:List Value} (hr:av S W [.list (ws.map (.str true)),.str true y] vs) :
  wpAny (model C.prog C.w) A (call (.ref 157) vs) (be C S W (.int true (gw ws y))) E s:=by
 have hvl:vs.length=[nm "words",nm "word"].length:=hr.length
 obtain⟨outer,hfr,ho⟩:=hR.fr (by omega)
 refine wpAny_call (pq x.ok (lp x) (mW _).1 tH (List.all_eq_true.mp (mW _).2) hvl hA hS hR.r λenv ae aj mm S' hmm en b6=>?_)
 have vars:bO TT S' aj mm ([26,23].zip [.list (ws.map (.str true)),.str true y]):=fP tI ((av.grow en.gr _ hr).le en.le (en.sup _ hS.1)) hvl hmm
 have hh:∀b,hid S' (λ_=>⟨0,0,0,0,0,0,0,0,0⟩) ([]:List (Nat×Ob)) b→S' b:=λb hb=>hb.elim id λ⟨i,l,h,_⟩=>by cases h
 generalize hfa':(λb=>b=env.locals∨C.fa b)=fa'
 have au:At (C.wi fa') aj ae:=At.with (C:=C) (fa:=C.fa) en.at' hfa'.symm en.own.locN en.fr
 have rD:∀e∈env::outer,e.scope.kind ≠ .module∧∃L,e.frame=some L∧(C.wi fa').fa L:=λe he=>by
  rcases List.mem_cons.mp he with rfl|he
  ·exact⟨by rw[en.fr.kind];nofun,_,en.frm,by show fa' _;rw[←hfa'];exact .inl rfl⟩
  ·obtain⟨k1,L,k2,k3⟩:=ho e he
   exact⟨k1,L,k2,by show fa' L;rw[←hfa'];exact .inr k3⟩
 have fb:bB (C.wi fa') R (A.deeper env):=⟨b6,λq=>⟨env::outer,Around.frames_deeper hfr,rD⟩⟩
 have si:SI (C.wi fa') TT (aF (KK C.w.params) 157).scope.names S' aj env mm (λ_=>⟨0,0,0,0,0,0,0,0,0⟩) ⟨[26,23].zip [.list (ws.map (.str true)),.str true y],[]⟩:=
  ⟨⟨.inl (en.sup _ hS.1),λb hb=>en.sx.2 b (hh b hb)⟩,en.fr.wi,λi d h=>let ⟨y,v,e1,e2,e3⟩:=vars i d h;⟨y,v,e1,e2,aN.sub hh _ e3⟩,λi l h=>(by cases h),λi l h=>(by cases h),λi j o o' b h=>(by cases h),λi o b h=>(by cases h),List.nodup_nil⟩
 have x2:=x.wi fa'
 have hL2:=hL.wi fa'
 obtain⟨ip,as1,cp,rp,np,k,kp,rp2,hp,tp,eb,c1,c2,c3,c4⟩:=xE C.w.params
 rw[eb]
 refine wpAny_execs_cons (wpAny_Try_except ?_)
 by_cases hin:y∈ws
 ·have he:bC F 8 [.ret (.call 2 [.var 26,.var 23])] ⟨[26,23].zip [.list (ws.map (.str true)),.str true y],[]⟩=some (.ret (.int true (gw ws y))):=by
   simp[bC,ex,evS,dF,ev,bn,List.lookup,hF hin]
  refine wpAny_mono ((fS x2 hL2 (by omega) az di 8).2 _ _ _ _ _ _ _ _ S' env mm _ _ ((dg TT aT 60).2 _ _ _ c2) he fb au si en.ag en.own.wi (en.sup _ hS.1)) (λf ak ⟨v,ef,W₂,an,aO,bE⟩=>?_) λ_ _ x=>x
  subst ef
  refine⟨W₂,⟨λb o hb e0=>an.ext.step (λq=>?_) (en.le.ext b o hb e0),Nat.le_trans en.le.k an.k,λt ht=>(an.g t (Nat.lt_of_lt_of_le ht en.le.k)).trans (en.le.g t ht),λcv q ne h=>an.cr cv q ne (en.le.cr cv q ne h),λi z h=>an.gn i z (en.le.gn i z h)⟩,At.less (C:=C) (fa:=C.fa) aO (λb hb=>by rw[←hfa'];exact .inr hb),aN.sub en.sup _ bE⟩
  rcases q with(h|(h|⟨y,_,h⟩))|⟨i,l,h,_⟩
  ·exact hb h
  ·rw[h,en.frl]at e0;cases e0
  ·rw[(en.cells y b h).2]at e0;cases e0
  ·cases h
 ·have h9:gw ws y=9:=by
   unfold gw
   have:ws.findIdx? (· == y)=none:=by
    rw[List.findIdx?_eq_none_iff];intro w hw;simp;rintro rfl;exact hin hw
   rw[this]
  rw[h9]
  have hmg:C.mg (Str.ofString "indexOf")=some (.ref 42):=mg_of x.kin x.ok.g (by rfl)
  obtain⟨⟨ofn,e3,e5⟩,e4,_⟩:=gT x
  have Dz:=si.envok en.ag
  refine wpAny_execs_cons (wpAny_Return_some (wpAny_Call_NameR (wpAny_Name (md x2.ok au Dz c4 hmg ?_) (by decide))))
  cases as1 with
  | nil=>cases c1
  | cons a1 as1=>
  refine Calls.callWith_function (o:=ofn) (fd:=aF (KK C.w.params) 42) (fg (ba hL2 az 4).1 x2.ok rfl fb ((jc TT aT 60).2.2.1 _ _ _ c1) (ds:=[.list (ws.map (.str true)),.str true y]) (by simp[bn,ev,List.lookup]) au si.sx Dz λus bF bf aD aO o8 gJ=>⟨⟨aO.inv.ext _ _ e4 e3,e5⟩,?_⟩)
  refine wpAny_mono (mV x2 (xv.wi fa') (λw hw (q:w=y)=>hin (q▸hw)) hlen (Around.frames_deeper hfr) rD (fb.r.le h7) aO o8 gJ (E:=_) λe s' fl=>?_) (λ_ _ h=>h.elim) λ_ _ h=>h
  obtain⟨fa'',cq,aB,h',l,a0,hfa,bH,aU,rfl,hl,hfl,hu⟩:=fl.ex
  have DA:ay (C.wi fa'') env aB.h mm:=(((en.fr.ext aD.ext).ext aU.ext)).wi
  refine wpAny_looks_onW (Around.frames_deeper hfr) en.frm hfl λjp pO xG=>wpAny_landsW pO λsK mX xH=>?_
  obtain⟨eG,cY⟩:=At.over (C:=C) (fa':=fa'') x.ok bH hl mX.1 ((hu.trans xG).trans xH)
  have BP:bG (C.wi fa'') TT (aF (KK C.w.params) 157).scope.names S' { aB with h:=sK } env mm []:=⟨DA.ext cY.ext,en.ag,.nil⟩
  obtain⟨ob,hob,hobc⟩:=mX.there
  refine wpAny_handleBy_builtin (b:=true) PySem.F.isExc_ValueError PySem.F.notTuple_ValueError excClass_ValueError.self (wpAny_Name (jM (C:=C.wi fa'') x.ok.wi eG BP c3 xv.ve.1 xv.ve.2 ⟨rfl,⟨ob,hob,hobc⟩,?_⟩) (by decide))
  rw[if_pos rfl]
  refine lands_againW mX λBQ xI BR=>?_
  obtain⟨fL,cM⟩:=At.over (C:=C) (fa':=fa'') x.ok bH hl xI.1 (((hu.trans xG).trans xH).trans BR)
  refine wpAny_execs_cons (wpAny_Return_some (wpAny_Constant_int ?_))
  obtain⟨eA,eZ,fK,BS⟩:=be.int (S:=S) fL (i:=9) (Nat.le_refl cq.toks) (a8 _) (Nat.lt_succ_self _) true
  exact⟨eA,(en.le.trans ⟨aD.ext,aD.k,aD.g,aD.cr,aD.gn⟩).trans ((Le.trans (C:=C) ⟨aU.ext,aU.k,aU.g,aU.cr,aU.gn⟩ ⟨cM.ext,cM.k,cM.g,cM.cr,cM.gn⟩).trans ⟨eZ.ext,eZ.k,eZ.g,eZ.cr,eZ.gn⟩),At.less (C:=C) (fa:=C.fa) fK (λb hb=>hfa b (by show fa' b;rw[←hfa'];exact .inr hb)),BS⟩
theorem BT(x:CK C)(xv:kQ C)(hL:Lk C TT aT F R)(h7:7≤R){ws:List Str}{y:Str}(hlen:ws.length≤1000)(hF:y∈ws→F 2 [.list (ws.map (.str true)),.str true y]=some (.int true (gw ws y))):
  b8 C (R+1) 157 [.list (ws.map (.str true)),.str true y] (.int true (gw ws y)):=
 λfa _ _ _ _ _ _ hR hA hS hr=>xF (x.wi fa) (xv.wi fa) (hL.wi fa) h7 hlen hF hR hA hS hr
end
def rF:Nat→Option (List Nat×List Y)
 | 0=>some (gm,gj)
 | 1=>some (gq,gp)
 | 2=>some (bg,fk)
 | 3=>some (gS,gR)
 | 4=>some (d9,d8)
 | 5=>some (fE,fD)
 | 6=>some (du,dr)
 | 7=>some (fG,fF)
 | 9=>some (iw,iu)
 | 10=>some (eU,eS)
 | 12=>some (cT,cf)
 | 13=>some (eh,ee)
 | 14=>some (cX,cW)
 | 15=>some (ez,ej)
 | 16=>some (fU,fT)
 | 17=>some (uC,uB)
 | _=>none
def kg:List D→Option (List Str)
 | []=>some []
 | .str true w::r=>(kg r).map (w::·)
 | _=>none
theorem rG:∀{l:List D} {ws:List Str},kg l=some ws→l=ws.map (.str true)
 | [],_,h=>by cases h;rfl
 | d::r,ws,h=>by
  cases d with
  | str g w=>
   cases g with
   | false=>simp[kg]at h
   | true=>
    simp only[kg]at h
    cases q:kg r with
    | none=>rw[q]at h;cases h
    | some v=>rw[q]at h;cases h;rw[rG q];rfl
  | _=>simp[kg]at h
def BU:List D→Option D
 | [.list l,.str true y]=>(match kg l with|some ws=>if ws.length≤1000 then some (.int true (gw ws y))else none|none=>none)
 | _=>none
def FF(mk:List D→Option D):Nat→Nat→List D→Option D
 | 0=>wR
 | k+1=>λf ds=>if f=11 then(if k=0 then none else BU ds)else if f=8 then mk ds else match rF f with
  | some (ps,Ys)=>if ds.length=ps.length then(match bC (FF mk k) 60 Ys ⟨ps.zip ds,[]⟩with|some (.ret d)=>some d|_=>none)else none
  | none=>none
section
variable{C:Cx}{F:Nat→List D→Option D}{R:Nat}{ds:List D}{d:D}
theorem vU(x:CK C)(hL:Lk C TT aT F R)(h5:5≤R)(hl:ds.length=2)(e:bC F 60 gj ⟨gm.zip ds,[]⟩=some (.ret d)):b8 C (R+1) 21 ds d:=
 cB x hL h5 az di (mL x) (oK _).1 ((dg TT aT 60).2 _ _ _ (vN _)) vO vP (List.all_eq_true.mp (oK _).2) hl e
theorem vV(x:CK C):C.mg (Str.ofString "countOf")=some (.ref 21):=mg_of x.kin x.ok.g (by rfl)
theorem vW(x:CK C)(hL:Lk C TT aT F R)(h5:5≤R)(hl:ds.length=2)(e:bC F 60 gp ⟨gq.zip ds,[]⟩=some (.ret d)):b8 C (R+1) 35 ds d:=
 cB x hL h5 az di (mM x) (oL _).1 ((dg TT aT 60).2 _ _ _ (vQ _)) vR vS (List.all_eq_true.mp (oL _).2) hl e
theorem vX(x:CK C):C.mg (Str.ofString "getitem")=some (.ref 35):=mg_of x.kin x.ok.g (by rfl)
theorem vY(x:CK C)(hL:Lk C TT aT F R)(h5:5≤R)(hl:ds.length=2)(e:bC F 60 fk ⟨bg.zip ds,[]⟩=some (.ret d)):b8 C (R+1) 42 ds d:=
 cB x hL h5 az di (gT x) (iW _).1 ((dg TT aT 60).2 _ _ _ (vT _)) oM oN (List.all_eq_true.mp (iW _).2) hl e
theorem vZ(x:CK C):C.mg (Str.ofString "indexOf")=some (.ref 42):=mg_of x.kin x.ok.g (by rfl)
theorem tJ(x:CK C)(hL:Lk C TT aT F R)(h5:5≤R)(hl:ds.length=2)(e:bC F 60 gR ⟨gS.zip ds,[]⟩=some (.ret d)):b8 C (R+1) 49 ds d:=
 cB x hL h5 az di (lb x) (mN _).1 ((dg TT aT 60).2 _ _ _ (tA _)) tB tC (List.all_eq_true.mp (mN _).2) hl e
theorem tK(x:CK C):C.mg (Str.ofString "_strcoll")=some (.ref 49):=mg_of x.kin x.ok.g (by rfl)
theorem pP(x:CK C)(hL:Lk C TT aT F R)(h5:5≤R)(hl:ds.length=1)(e:bC F 60 d8 ⟨d9.zip ds,[]⟩=some (.ret d)):b8 C (R+1) 112 ds d:=
 cB x hL h5 az di (jg x) (j8 _).1 ((dg TT aT 60).2 _ _ _ (pF _)) pG pH (List.all_eq_true.mp (j8 _).2) hl e
theorem pQ(x:CK C):C.mg (Str.ofString "_law_cells")=some (.ref 112):=mg_of x.kin x.ok.g (by rfl)
theorem mY(x:CK C)(hL:Lk C TT aT F R)(h5:5≤R)(hl:ds.length=2)(e:bC F 60 fD ⟨fE.zip ds,[]⟩=some (.ret d)):b8 C (R+1) 119 ds d:=
 cB x hL h5 az di (g9 x) (iy _).1 ((dg TT aT 60).2 _ _ _ (mO _)) mP mQ (List.all_eq_true.mp (iy _).2) hl e
theorem mZ(x:CK C):C.mg (Str.ofString "_law_written")=some (.ref 119):=mg_of x.kin x.ok.g (by rfl)
theorem n0(x:CK C)(hL:Lk C TT aT F R)(h5:5≤R)(hl:ds.length=1)(e:bC F 60 dr ⟨du.zip ds,[]⟩=some (.ret d)):b8 C (R+1) 126 ds d:=
 cB x hL h5 az di (iz x) (jh _).1 ((dg TT aT 60).2 _ _ _ (nT _)) nU nV (List.all_eq_true.mp (jh _).2) hl e
theorem n7(x:CK C):C.mg (Str.ofString "_law_guests")=some (.ref 126):=mg_of x.kin x.ok.g (by rfl)
theorem tL(x:CK C)(hL:Lk C TT aT F R)(h5:5≤R)(hl:ds.length=1)(e:bC F 60 fF ⟨fG.zip ds,[]⟩=some (.ret d)):b8 C (R+1) 133 ds d:=
 cB x hL h5 az di (lc x) (mR _).1 ((dg TT aT 60).2 _ _ _ (tD _)) tE tF (List.all_eq_true.mp (mR _).2) hl e
theorem tM(x:CK C):C.mg (Str.ofString "_law_row")=some (.ref 133):=mg_of x.kin x.ok.g (by rfl)
theorem rH(x:CK C)(hL:Lk C TT aT F R)(h5:5≤R)(hl:ds.length=1)(e:bC F 60 iu ⟨iw.zip ds,[]⟩=some (.ret d)):b8 C (R+1) 145 ds d:=
 cB x hL h5 az di (j9 x) (lg _).1 ((dg TT aT 60).2 _ _ _ (rh _)) rj rn (List.all_eq_true.mp (lg _).2) hl e
theorem rI(x:CK C):C.mg (Str.ofString "_law_sums")=some (.ref 145):=mg_of x.kin x.ok.g (by rfl)
theorem rJ(x:CK C)(hL:Lk C TT aT F R)(h5:5≤R)(hl:ds.length=2)(e:bC F 60 eS ⟨eU.zip ds,[]⟩=some (.ret d)):b8 C (R+1) 150 ds d:=
 cB x hL h5 az di (ka x) (lj _).1 ((dg TT aT 60).2 _ _ _ (rq _)) rs rt (List.all_eq_true.mp (lj _).2) hl e
theorem rK(x:CK C):C.mg (Str.ofString "_law_read")=some (.ref 150):=mg_of x.kin x.ok.g (by rfl)
theorem n8(x:CK C)(hL:Lk C TT aT F R)(h5:5≤R)(hl:ds.length=3)(e:bC F 60 cf ⟨cT.zip ds,[]⟩=some (.ret d)):b8 C (R+1) 162 ds d:=
 cB x hL h5 az di (iA x) (ji _).1 ((dg TT aT 60).2 _ _ _ (nW _)) nY nZ (List.all_eq_true.mp (ji _).2) hl e
theorem n9(x:CK C):C.mg (Str.ofString "_law_called")=some (.ref 162):=mg_of x.kin x.ok.g (by rfl)
theorem pR(x:CK C)(hL:Lk C TT aT F R)(h5:5≤R)(hl:ds.length=2)(e:bC F 60 ee ⟨eh.zip ds,[]⟩=some (.ret d)):b8 C (R+1) 169 ds d:=
 cB x hL h5 az di (jj x) (kb _).1 ((dg TT aT 60).2 _ _ _ (pI _)) pJ pK (List.all_eq_true.mp (kb _).2) hl e
theorem pS(x:CK C):C.mg (Str.ofString "_law_hours")=some (.ref 169):=mg_of x.kin x.ok.g (by rfl)
theorem m0(x:CK C)(hL:Lk C TT aT F R)(h5:5≤R)(hl:ds.length=4)(e:bC F 60 cW ⟨cX.zip ds,[]⟩=some (.ret d)):b8 C (R+1) 174 ds d:=
 cB x hL h5 az di (hJ x) (iB _).1 ((dg TT aT 60).2 _ _ _ (mS _)) mT mU (List.all_eq_true.mp (iB _).2) hl e
theorem m4(x:CK C):C.mg (Str.ofString "_law_in_turn")=some (.ref 174):=mg_of x.kin x.ok.g (by rfl)
theorem pT(x:CK C)(hL:Lk C TT aT F R)(h5:5≤R)(hl:ds.length=2)(e:bC F 60 ej ⟨ez.zip ds,[]⟩=some (.ret d)):b8 C (R+1) 179 ds d:=
 cB x hL h5 az di (jk x) (ke _).1 ((dg TT aT 60).2 _ _ _ (pL _)) pM pN (List.all_eq_true.mp (ke _).2) hl e
theorem pU(x:CK C):C.mg (Str.ofString "_law_alike")=some (.ref 179):=mg_of x.kin x.ok.g (by rfl)
theorem rL(x:CK C)(hL:Lk C TT aT F R)(h5:5≤R)(hl:ds.length=3)(e:bC F 60 fT ⟨fU.zip ds,[]⟩=some (.ret d)):b8 C (R+1) 184 ds d:=
 cB x hL h5 az di (kf x) (lm _).1 ((dg TT aT 60).2 _ _ _ (rx _)) ry rz (List.all_eq_true.mp (lm _).2) hl e
theorem rM(x:CK C):C.mg (Str.ofString "_law_fair")=some (.ref 184):=mg_of x.kin x.ok.g (by rfl)
theorem DB(x:CK C)(hL:Lk C TT aT F R)(h5:5≤R)(hl:ds.length=1)(e:bC F 60 uB ⟨uC.zip ds,[]⟩=some (.ret d)):b8 C (R+1) 191 ds d:=
 cB x hL h5 az di (xC x) (Az _).1 ((dg TT aT 60).2 _ _ _ (Dw _)) Dx Dy (List.all_eq_true.mp (Az _).2) hl e
theorem DC(x:CK C):C.mg (Str.ofString "law")=some (.ref 191):=mg_of x.kin x.ok.g (by rfl)
theorem tN(x:CK C):C.mg (Str.ofString "_law_who")=some (.ref 157):=mg_of x.kin x.ok.g (by rfl)
end
section
variable{C:Cx}{F:Nat→List D→Option D}{R:Nat}{ds:List D}{d:D}
def Fn(C:Cx)(R f:Nat)(ds:List D)(d:D):Prop:=∃x a o fd,aT[f]?=some x∧C.mg x=some (.ref a)∧a≠C.P∧C.base.get? a=some o∧o.data = .func fd∧b8 C R a ds d
theorem eC{f a:Nat}{fd:FuncData}{body:List Stmt}{params:List Str}{x:Str}(h1:aT[f]?=some x)(h2:C.mg x=some (.ref a))(hf:eM C a fd body params)(h:b8 C R a ds d):Fn C R f ds d:=
 let ⟨o,e1,e2⟩:=hf.at';⟨x,a,o,fd,h1,h2,hf.aP,e1,e2,h⟩
theorem zf(x:CK C)(hL:Lk C TT aT F R)(h5:5≤R):∀{f:Nat} {ps:List Nat} {Ys:List Y},rF f=some (ps,Ys)→ds.length=ps.length→bC F 60 Ys ⟨ps.zip ds,[]⟩=some (.ret d)→Fn C (R+1) f ds d:=by
 intro f ps Ys hb hl e
 unfold rF at hb
 split at hb
 ·cases hb;exact eC (x:=Str.ofString "countOf") (by decide +kernel) (vV x) (mL x) (vU x hL h5 hl e)
 ·cases hb;exact eC (x:=Str.ofString "getitem") (by decide +kernel) (vX x) (mM x) (vW x hL h5 hl e)
 ·cases hb;exact eC (x:=Str.ofString "indexOf") (by decide +kernel) (vZ x) (gT x) (vY x hL h5 hl e)
 ·cases hb;exact eC (x:=Str.ofString "_strcoll") (by decide +kernel) (tK x) (lb x) (tJ x hL h5 hl e)
 ·cases hb;exact eC (x:=Str.ofString "_law_cells") (by decide +kernel) (pQ x) (jg x) (pP x hL h5 hl e)
 ·cases hb;exact eC (x:=Str.ofString "_law_written") (by decide +kernel) (mZ x) (g9 x) (mY x hL h5 hl e)
 ·cases hb;exact eC (x:=Str.ofString "_law_guests") (by decide +kernel) (n7 x) (iz x) (n0 x hL h5 hl e)
 ·cases hb;exact eC (x:=Str.ofString "_law_row") (by decide +kernel) (tM x) (lc x) (tL x hL h5 hl e)
 ·cases hb;exact eC (x:=Str.ofString "_law_sums") (by decide +kernel) (rI x) (j9 x) (rH x hL h5 hl e)
 ·cases hb;exact eC (x:=Str.ofString "_law_read") (by decide +kernel) (rK x) (ka x) (rJ x hL h5 hl e)
 ·cases hb;exact eC (x:=Str.ofString "_law_called") (by decide +kernel) (n9 x) (iA x) (n8 x hL h5 hl e)
 ·cases hb;exact eC (x:=Str.ofString "_law_hours") (by decide +kernel) (pS x) (jj x) (pR x hL h5 hl e)
 ·cases hb;exact eC (x:=Str.ofString "_law_in_turn") (by decide +kernel) (m4 x) (hJ x) (m0 x hL h5 hl e)
 ·cases hb;exact eC (x:=Str.ofString "_law_alike") (by decide +kernel) (pU x) (jk x) (pT x hL h5 hl e)
 ·cases hb;exact eC (x:=Str.ofString "_law_fair") (by decide +kernel) (rM x) (kf x) (rL x hL h5 hl e)
 ·cases hb;exact eC (x:=Str.ofString "law") (by decide +kernel) (DC x) (xC x) (DB x hL h5 hl e)
 ·cases hb
theorem BV{ws:List Str}{y:Str}(h:y∈ws):∃i,ws.findIdx? (· == y)=some i∧gw ws y=(i:Int):=by
 cases q:ws.findIdx? (· == y)with
 | none=>
  rw[List.findIdx?_eq_none_iff]at q
  exact absurd (q y h) (by simp)
 | some i=>exact⟨i,rfl,by unfold gw;rw[q]⟩
theorem BW{mk:List D→Option D}{k:Nat}{ws:List Str}{y:Str}(hl:ws.length≤1000)(h:y∈ws):FF mk (k+1) 2 [.list (ws.map (.str true)),.str true y]=some (.int true (gw ws y)):=by
 obtain⟨i,e1,e2⟩:=BV h
 have:=BO (F:=FF mk k) (Nat.le_trans hl (by decide)) e1
 unfold FF
 simp only[Nat.reduceEqDiff,if_false]
 show(if [D.list (ws.map (.str true)),.str true y].length=bg.length then(match bC (FF mk k) 60 [.for (.two 3 4) (.enum (.var 0)) xB true] ⟨[(0,.list (ws.map (.str true))),(1,.str true y)],[]⟩with|some (.ret d)=>some d|_=>none)else none)=_
 rw[if_pos (show [D.list (ws.map (.str true)),.str true y].length=bg.length from rfl),this,e2]
theorem AA(x:CK C)(xv:kQ C){mk:List D→Option D}(hm:∀R ds d,7≤R→mk ds=some d→Fn C (R+1) 8 ds d):∀k,Lk C TT aT (FF mk k) (7+k)
 | 0=>uk x.ok x.bis 7
 | k+1=>by
  have hL:=AA x xv hm k
  refine⟨x.ok,λf ds d h=>?_,x.bis.bi,x.bis.range,x.bis.enum,qJ,oB⟩
  show Fn C (7+k+1) f ds d
  unfold FF at h
  by_cases h11:f=11
  ·subst h11
   rw[if_pos rfl]at h
   cases k with
   | zero=>rw[if_pos rfl]at h;cases h
   | succ k=>
    rw[if_neg (Nat.succ_ne_zero _)]at h
    unfold BU at h
    split at h
    ·rename_i l y
     split at h
     ·rename_i ws hw
      split at h
      ·rename_i hl
       cases h
       have:=rG hw;subst this
       exact eC (x:=Str.ofString "_law_who") (by decide +kernel) (tN x) (lp x) (BT x xv hL (by omega) hl λhin=>BW hl hin)
      ·cases h
     ·cases h
    ·cases h
  ·rw[if_neg h11]at h
   by_cases h8:f=8
   ·subst h8
    rw[if_pos rfl]at h
    exact hm _ ds d (by omega) h
   ·rw[if_neg h8]at h
    split at h
    ·rename_i ps Ys hb
     split at h
     ·rename_i hl
      split at h
      ·rename_i d' he
       cases h
       exact zf x hL (by omega) hb hl he
      ·cases h
     ·cases h
    ·cases h
end
section
open Sem (wp)
section
variable{M:Model}{A:Around}{R:GenEnd}{Y:Protocol}{n:Nat}{aV:Shared}{c:Code}{fs:List Frame}{s:Shared}{env:Env}
 {K:Flow→Sem Fin} {H:Value→Sem Fin} {gd:Bool→Bool} {lv:List Value→List Value}
theorem kh{st:Stmt}(h:wpAny M (A.over c fs) (exec st env) (λf s'=>Seg M A R Y n aV c (K f) fs s') (λx s'=>Seg M A R Y n aV c (H x) fs s') s):
  Seg M A R Y n aV c ((exec st env).wrap K H gd lv) fs s:=seg_wrap h
theorem tO{test:Expr}{body orelse:List Stmt}{pos:Pos}
  (h:wpAny M (A.over c fs) (isTrue test env (eval test env)) (λb s'=>if b=true then Seg M A R Y n aV c ((execs body env).wrap K H gd lv) fs s' else Seg M A R Y n aV c ((execs orelse env).wrap K H gd lv) fs s')
   (λx s'=>Seg M A R Y n aV c (H x) fs s') s) :
  Seg M A R Y n aV c ((exec (.If test body orelse pos) env).wrap K H gd lv) fs s:=by
 rw[exec_If]
 show Seg M A R Y n aV c (.at pos λ_=>((isTrue test env (eval test env)) >>= λb=>if b=true then execs body env else execs orelse env).wrap K H gd lv) fs s
 refine seg_at ?_
 rw[Sem.bind_eq_wrap',Sem.wrap_wrap]
 refine seg_wrap (wpAny_mono h (λb s' hb=>?_) λ_ _ x=>x)
 cases b with
 | true=>rw[if_pos rfl]at hb;exact hb
 | false=>rw[if_neg (by decide)]at hb;exact hb
theorem zg{target iter:Expr}{body orelse:List Stmt}{pos:Pos}
  (h:wpAny M (A.over c fs) (eval iter env) (λx ae=>wpAny M (A.over c fs) (pyIter x) (λit ak=>
   ∀p,Seg M A R Y n aV (.forLoop target it body orelse env) (M.den (.forLoop target it body orelse env))
   (.ret (λr=>((match r with | .ok f=>(.pure f:Sem Flow) | .error e=>.raise e).onRaise λ(x:Value)=>do
    if(←field x 1)==Value.none then unsupported "frame.own-activation:exception-without-traceback"
    setFlight x env.frame).wrap K H gd lv) none (gd false) (lv []) c p []::fs) ak) (λx s'=>Seg M A R Y n aV c (H x) fs s') ae) (λx s'=>Seg M A R Y n aV c (H x) fs s') s)
  (hs:∀x,foldedSetIterable iter env x=pure x:=by intro _;rfl) :
  Seg M A R Y n aV c ((exec (.For target iter body orelse pos) env).wrap K H gd lv) fs s:=by
 rw[exec_For]
 show Seg M A R Y n aV c (.at pos λ_=>(eval iter env >>= λv=>foldedSetIterable iter env v >>= λx=>standAt iter.pos >>= λ_=>holding [x] (pyIter x) >>= λit=>runOwn (.forLoop target it body orelse env) env).wrap K H gd lv) fs s
 refine seg_at ?_
 rw[Sem.bind_eq_wrap',Sem.wrap_wrap]
 refine seg_wrap (wpAny_mono h (λx ae aX=>?_) λ_ _ x=>x)
 rw[hs x]
 show Seg M A R Y n aV c (.at iter.pos λ_=>(holding [x] (pyIter x) >>= λit=>runOwn (.forLoop target it body orelse env) env).wrap K H gd lv) fs ae
 refine seg_at ?_
 rw[Sem.bind_eq_wrap',Sem.wrap_wrap]
 refine seg_wrap (wpAny_holding (wpAny_mono aX (λit ak aw=>?_) λ_ _ x=>x))
 exact seg_call aw
end
section
variable{prog:Program}{w:World}{A:Around}{R:GenEnd}{Y:Protocol}{n:Nat}{aV:Shared}{fs:List Frame}{s:Shared}{env:Env}
abbrev uD(env:Env):Value→Sem Fin:=λe=>(do noteFrame e env;theTreesLotGoes e:Sem Unit).wrap (λ_=>.raise e) .raise id id
theorem lq{target:Expr}{it:Value}{body orelse:List Stmt}
  (h:wpAny (model prog w) (A.over (.forLoop target it body orelse env) fs) (pyNext it) (λr ae=>match r with
    | none=>Seg (model prog w) A R Y n aV (.forLoop target it body orelse env) (.pure (.again (.block orelse env))) fs ae
    | some v=>wpAny (model prog w) (A.over (.forLoop target it body orelse env) fs) (letOwnedTupleGo target it v) (λ_ ak=>wpAny (model prog w) (A.over (.forLoop target it body orelse env) fs) (assign target env v) (λ_ bF=>
     Seg (model prog w) A R Y n aV (.forLoop target it body orelse env) ((execs body env).wrap (λf=>match f with
      | .next | .cont=>.pure (.again (.forLoop target it body orelse env))
      | .brk=>.pure (.done .next)
      | .ret v=>.pure (.done (.ret v))) (uD env) id id) fs bF) i6 ak) i6 ae) i6 s) :
  Seg (model prog w) A R Y n aV (.forLoop target it body orelse env) ((model prog w).den (.forLoop target it body orelse env)) fs s:=by
 show Seg _ A R Y n aV _ ((forTurn target it body orelse env).onRaise (λx=>do noteFrame x env;theTreesLotGoes x)) fs s
 unfold forTurn
 rw[Sem.onRaise_eq_wrap]
 show Seg _ A R Y n aV _ (.at target.pos λ_=>Sem.wrap _ _ _ _ _) fs s
 refine seg_at ?_
 show Seg _ A R Y n aV _ (Sem.wrap _ _ _ _ ((pyNext it).onRaise _ >>= _)) fs s
 rw[Sem.bind_eq_wrap',Sem.wrap_wrap]
 refine seg_wrap (wpAny_onRaise (wpAny_mono h (λr ae aX=>?_) λ_ _ x=>x.elim))
 cases r with
 | none=>exact aX
 | some v=>
  dsimp only at aX
  show Seg _ A R Y n aV _ (Sem.wrap _ _ _ _ (letOwnedTupleGo target it v >>= λ_=>assign target env v >>= λ_=>execs body env >>= _)) fs ae
  rw[Sem.bind_eq_wrap',Sem.wrap_wrap]
  refine seg_wrap (wpAny_mono aX (λ_ ak aw=>?_) λ_ _ x=>x.elim)
  rw[Sem.bind_eq_wrap',Sem.wrap_wrap]
  refine seg_wrap (wpAny_mono aw (λ_ bF gI=>?_) λ_ _ x=>x.elim)
  rw[Sem.bind_eq_wrap',Sem.wrap_wrap]
  rw[Sem.wrap_congr (execs body env) _ _ (K':=λf=>match f with
      | .next | .cont=>.pure (.again (.forLoop target it body orelse env))
      | .brk=>.pure (.done .next)
      | .ret v=>.pure (.done (.ret v))) (H':=uD env)
    (λf=>by cases f<;>rfl)
    (λe=>by first|exact Sem.bind_eq_wrap _ _|(show(do noteFrame e env;theTreesLotGoes e:Sem Unit).bind (λ_=>.raise e)=_;rw[Sem.bind_eq_wrap]))]
  exact gI
end
end
section
open Sem (wp)
section
variable{prog:Program}{w:World}{A:Around}{E:Value→Shared→Prop}{s:Shared}
theorem rN:isSubtype (.type "ValueError") (.type "StopIteration")=pure false:=by rw[isSubtype_type];kernel_rfl
theorem kR{e:Addr}{M:Model}{Q:Bool→Shared→Prop}(h:s.TypeIs (.ref e) "ValueError") (k:Q false s):wpAny M A (isInstance (.ref e) (.type "StopIteration")) Q E s:=
 wpAny_isInstance h rN k
theorem zh{a:Addr}{g n:Nat}{gs:GenState}{Rr:GenEnd}{Y:Protocol}{Q:Option Value→Shared→Prop}(hh:A.handled=none)
  (hl:s.heap.NoLimit) (hroom:A.depth<recursionLimit) (hg:s.heap.IsGen a g) (hgs:s.gens[g]?=some gs)
  (hgo:gs.Goes (model prog w) A.in1 Rr Y n (.send .none) (s.setGen g .running))
  (hY:∀v ae gs',gs'.bare=true→Y (n-1) (s.setGen g .running) v ae (λr' s''=>match n with
    | 0=>False
    | m+1=>gs'.Goes (model prog w) A.in1 Rr Y m r' s'')→Q (some v) (ae.setGen g gs'))
  (hR:∀r ae,Rr n (s.setGen g .running) r ae→(r = .ok (.ret .none)∧∀h',(∀b o,ae.heap.get? b=some o→h'.get? b=some o)→Q none { ae.setGen g .finished with heap:=h' })∨
   ∃e,r = .error (.ref e)∧ae.heap.IsGen a g∧(ae.setGen g .finished).TypeIs (.ref e) "ValueError" ∧E (.ref e) (ae.setGen g .finished)) :
  wpAny (model prog w) A (pyNext (.ref a)) Q E s:=by
 unfold pyNext
 refine wpAny_bind (wpAny_attempt (wpAny_callSpecial?_slot (name:=Str.ofString "__next__") hg.typeIs slot_gen_next
  (wpAny_call_entry slot_gen_next hg.typeIs entry_gen_next ?_ (args_gen_next _))))
 show wpAny _ A.in1 (Builtin.Generator.genWake (.ref a) (.send .none)) _ _ s
 unfold Builtin.Generator.genWake
 refine wpAny_bind (wpAny_holding (wpAny_genNumber hg (wpAny_bind (wpAny_genState hgs ?_))))
 cases gs with
 | running=>exact hgo.elim
 | finished=>exact hgo.elim
 | _=>
  refine wpAny_bind (wpAny_roomToWake hl hroom ?_)
  show wpAny _ A.in1 (.resume g (.send .none) [] _) _ _ s
  refine wpAny_resumeQ hgs hgo (λx ae hx=>?_) (λv ae gs' hb hv=>?_)
  ·rcases hR x ae hx with⟨rfl,hp⟩|⟨e,rfl,hG,hT,hE⟩
   ·show wpAny _ A.in1 (newExc (.type "StopIteration") [] >>= _) _ _ _
    refine wpAny_bind ?_
    simp only[newExc,newTuple]
    refine wpAny_bind (wpAny_newObj_type ?_ (by size_fits))
    refine wpAny_bind (m:=firstArgMember _ _) (wpAny_of_eq (a:=Value.none) (by first|rfl|(simp only[firstArgMember];rfl)) ?_)
    refine wpAny_newObj_type ?_ (by size_fits)
    simp only[raiseNew]
    refine wpAny_bind (wpAny_bind (wpAny_handled ?_))
    rw[show A.in1.handled=none from hh]
    refine wpAny_throw ?_
    refine wpAny_bind (wpAny_isInstance (T:= "StopIteration") (b:=true) ⟨_,Heap.get?_push_size _ rfl,rfl⟩ isSubtype_stop ?_)
    exact wpAny_pure (hp _ λb o hb=>Heap.get?_push_of_some _ (Heap.get?_push_of_some _ hb))
   ·show wpAny _ A.in1 (Builtin.Generator.genLeft (.ref a) (.ref e)) _ _ _
    obtain⟨o,nm',qn,ho,hc,hd,hsl⟩:=hG
    unfold Builtin.Generator.genLeft Builtin.Generator.madeByALambda
    refine wpAny_bind (wpAny_bind (wpAny_load (s:=ae.setGen g .finished) ho ?_))
    rw[hd]
    refine wpAny_pure ?_
    have e1:(o.cls==Value.type "generator" && (match Data.fields #[Value.int (g:Int) 0,nm',qn]with | .fields vs=>vs[3]?==some (Value.bool true)|_=>false))=false:=by
     simp
    simp only[e1,Bool.false_eq_true,if_false]
    unfold Builtin.Generator.genEscaped
    refine wpAny_bind (kR hT ?_)
    rw[if_neg (by decide)]
    refine wpAny_bind (kR hT ?_)
    rw[if_pos (by decide)]
    exact wpAny_bind (wpAny_throw (wpAny_bind (kR hT (wpAny_throw hE))))
  ·exact wpAny_pure ⟨v,rfl,wpAny_pure (hY v ae gs' hb hv)⟩
end
end
section
open Sem (wp)
section
variable{A:Around}{env:Env}{body:List Stmt}
theorem iX:A.over (.func body env) []=A.deeper env:=by
 obtain⟨h,d,f,g,u⟩:=A
 cases f<;>cases g<;>rfl
theorem dw{t:Expr}{it:Value}{b o:List Stmt}{k:Result→Sem PySem.Fin}{gu:Bool}{l:List Value}{p:Pos}{kp:List Value}:A.over (.forLoop t it b o env) [.ret k none gu l (.func body env) p kp]=A.deeper env:=by
 obtain⟨h,d,f,g,u⟩:=A
 cases f<;>cases g<;>rfl
theorem gU{t:Expr}{b o:List Stmt}{k k':Result→Sem PySem.Fin}{gu gu':Bool}{l l':List Value}{p p':Pos}{kp kp':List Value}{t':Expr}{it:Value}{b' o':List Stmt}:
  A.over (.whileLoop t b o env) [.ret k none gu l (.forLoop t' it b' o' env) p kp,.ret k' none gu' l' (.func body env) p' kp']=A.deeper env:=by
 obtain⟨h,d,f,g,u⟩:=A
 cases f<;>cases g<;>rfl
end
abbrev Eb(env:Env)(K:Flow→Sem PySem.Fin)(H:Value→Sem PySem.Fin)(gd:Bool→Bool)(lv:List Value→List Value):Result→Sem PySem.Fin:=λr=>
 ((match r with | .ok f=>(.pure f:Sem Flow) | .error e=>.raise e).onRaise λ(x:Value)=>do
    if(←field x 1)==Value.none then unsupported "frame.own-activation:exception-without-traceback"
    setFlight x env.frame).wrap K H gd lv
abbrev tP(env:Env):Value→Sem PySem.Fin:=λe=>(leaving env e).wrap (λ_=>.raise e) .raise id id
section
variable{M:Model}{A:Around}{R:GenEnd}{Y:Protocol}{n:Nat}{aV s:Shared}{env:Env}{body:List Stmt}{x:Value}
theorem v5(h:wpAny M (A.deeper env) (leaving env x) (λ_ s'=>R n aV (.error x) s') i6 s):Seg M A R Y n aV (.func body env) (tP env x) [] s:=
 seg_wrap (by rw[iX];exact wpAny_mono h (λ_ s' r=>seg_end (.error x) r) λ_ _ q=>q.elim)
theorem oa{t:Expr}{it:Value}{b o:List Stmt}{K:Flow→Sem PySem.Fin}{gd:Bool→Bool}{lv:List Value→List Value}{gu:Bool}{l:List Value}{p:Pos}{kp:List Value}
  (h:wpAny M (A.deeper env) (leaving env x) (λ_ s'=>R n aV (.error x) s') i6 s) :
  Seg M A R Y n aV (.forLoop t it b o env) (uD env x) [.ret (Eb env K (tP env) gd lv) none gu l (.func body env) p kp] s:=by
 have h2:=wpAny_leaving_again (M:=M) (what:= "frame.own-activation:exception-without-traceback") (A'':=A.deeper env) (E₂:=i6) (E₃:=i6) (SameStack.refl (A.deeper env)) h
 refine seg_wrap ?_
 rw[dw]
 refine wpAny_bind (wpAny_mono h2 (λ_ ae aX=>wpAny_theTreesLotGoes ?_) λ_ _ q=>q.elim)
 ·refine seg_leaf (.error x) ?_
  show Seg M A R Y n aV _ (Sem.wrap K (tP env) gd lv ((do
    if(←field x 1)==Value.none then unsupported "frame.own-activation:exception-without-traceback"
    setFlight x env.frame:Sem Unit).bind λ_=>.raise x)) [] ae
  rw[Sem.bind_eq_wrap,Sem.wrap_wrap]
  refine seg_wrap ?_
  rw[iX]
  exact wpAny_mono aX (λ_ ak aw=>v5 aw) λ_ _ q=>q.elim
end
end
noncomputable abbrev giFd (p:Params):FuncData:=aF (KK p) 56
theorem zi(p:Params):∃a1 k1 a2 a3 b1 b2 b3 q1 q2 q3 c1 c2 q4 k2 q5 q6 e4 q7 k3 q8 q9 d1 msg k4 d2 d3 d4 d5 q10 k5 q11 q12 q13 q14 q15 f1 f2 f3 g1 g2 g3,aR (giFd p)=[
  .Assign [.Name (nm "last_interval") a1] (.Constant .none k1 a2) a3,
  .For (.Name (nm "interval") b1) (.Name (nm "grouping") b2) [
   .If (.Compare (.Name (nm "interval") q1) [.Eq] [.Name (nm "CHAR_MAX") q2] q3) [.Return none c1] [] c2,
   .If (.Compare (.Name (nm "interval") q4) [.Eq] [.Constant (.int 0) k2 q5] q6) [
    .If (.Compare (.Name (nm "last_interval") q7) [.Is] [.Constant .none k3 q8] q9) [.Raise (some (.Call (.Name VE d1) [.Constant (.str msg) k4 d2] [] d3)) none d4] [] d5,
    .While (.Constant (.bool true) k5 q10) [.Expr (.Yield (some (.Name (nm "last_interval") q11)) q12) q13] [] q14] [] e4,
   .Expr (.Yield (some (.Name (nm "interval") f1)) f2) f3,
   .Assign [.Name (nm "last_interval") g1] (.Name (nm "interval") g2) g3] [] b3]∧q15=q10:=
 ⟨_,_,_,_,_,_,_,_,_,_,_,_,_,_,_,_,_,_,_,_,_,_,_,_,_,_,_,_,_,_,_,_,_,_,_,_,_,_,_,_,_,rfl,rfl⟩
noncomputable abbrev mkFd (p:Params):FuncData:=aF (KK p) 140
theorem zj(p:Params):∃s1 s2 b1 b2 b3 b4 b5 body hp np h1 rp tp fp last,aR (mkFd p)=[s1,s2,
  .Try [.For (.Name (nm "size") b1) (.Call (.Name (nm "_grouping_intervals") b2) [.Name (nm "row") b3] [] b4) body [] fp] [.ExceptHandler (some (.Name VE np)) none [.Return (some h1) rp] hp] [] [] tp,last]∧
  cS.cSs TT aT 60 (mkFd p).scope.names [s1,s2]=some [.fresh 30 [],.assign 28 (.const (.int true 0))]∧
  cS.cSs TT aT 60 (mkFd p).scope.names body=some [.aug 28 (.var 17),.ite (.cmp .gt (.var 28) (.const (.int true 12))) [.ret (.var 30)] [],.append 30 (.var 28)]∧
  cE TT aT 60 (mkFd p).scope.names h1=some (.list [.const (.int true 0)])∧cS.cSs TT aT 60 (mkFd p).scope.names [last]=some [.ret (.var 30)]∧b5=b4:=
 ⟨_,_,_,_,_,_,_,_,_,_,_,_,_,_,_,rfl,by kernel_rfl,by kernel_rfl,by kernel_rfl,by kernel_rfl,rfl⟩
structure pV(X:Addr→Prop)(s s':Shared):Prop where
 kp:Kp X s.heap s'.heap
 tk:s.toks≤s'.toks
 cr:∀cv q,q≠Str.empty→s.heap.CodeRec cv q→s'.heap.CodeRec cv q
def GK(s s':Shared):Prop:=∀(i:Nat) (z:GenState),s.gens[i]?=some z→s'.gens[i]?=some z
section
variable{C C':Cx}{X:Addr→Prop}{W W':Wd}{s s':Shared}
theorem pV.to(a:At C W s)(r:pV X s s')(I:ny C' s'):At C' { W with h:=s'.heap,k:=s'.toks,gn:=s'.gens } s':=
 ⟨rfl,Nat.lt_of_lt_of_le a.pos (Nat.le_trans a.k r.tk),Nat.le_refl _,I,rfl⟩
theorem pV.of(a:At C W s)(hk:W.k=s.toks)(L:aZ X W W')(a':At C' W' s'):pV X s s'∧GK s s':=
 ⟨⟨by rw[←a.h,←a'.h];exact L.ext,by rw[←hk];exact Nat.le_trans L.k a'.k,λcv q ne h=>by rw[←a'.h];exact L.cr cv q ne (by rw[a.h];exact h)⟩,λi z h=>by rw[←a'.gn];exact L.gn i z (by rw[a.gn];exact h)⟩
end
theorem aN.flat{S S':Addr→Prop}{W W':Wd}(hk:W.k≤W'.k)(hg:∀t,t<W.k→W'.g t=W.g t):∀{d:D} {v:Value},flat d=true→aN S W d v→aN S' W' d v
 | .none,_,_,h=>h
 | .bool _,_,_,h=>h
 | .int _ _,_,_,⟨t,e,h⟩=>⟨t,e,λq=>let ⟨a,b,c⟩:=h q;⟨a,Nat.lt_of_lt_of_le b hk,(hg t b).trans c⟩⟩
 | .str _ _,_,_,⟨t,e,h⟩=>⟨t,e,λq=>let ⟨a,b,c⟩:=h q;⟨a,Nat.lt_of_lt_of_le b hk,(hg t b).trans c⟩⟩
theorem av.flat{S S':Addr→Prop}{W W':Wd}(hk:W.k≤W'.k)(hg:∀t,t<W.k→W'.g t=W.g t):∀{ds:List D} {vs:List Value},(∀d∈ds,Mine.flat d=true)→av S W ds vs→av S' W' ds vs
 | [],_,_,h=>h
 | _::_,_,f,⟨v,r,e,h,hr⟩=>⟨v,r,e,aN.flat hk hg (f _ (.head _)) h,av.flat hk hg (λd hd=>f d (.tail _ hd)) hr⟩
def xJ(st:St):Prop:=(∀i d,st.me.lookup i=some d→flat d=true)∧∀i o,st.own.lookup i=some o→∃l,o = .list l∧∀d∈l,flat d=true
section
variable{C:Cx}{T:List Str}{K:Kd}{ab Z:Addr→Prop}{W W':Wd}{s:Shared}{env:Env}{m:Str→Option Value}{ad:Nat→LA}{st:St}
def BX(K:Kd):Prop:=∀x,K.lookup x≠some .cell∧K.lookup x≠some .free
theorem dT{K:Kd}(h:K.all (λp=>p.2 != .cell&&p.2 != .free)=true):BX K:=λx=>by
 have:∀k,K.lookup x=some k→k ≠ .cell∧k ≠ .free:=λk hk=>by
  have:=List.all_eq_true.mp h (x,k) (mem_of_lookup hk)
  simpa using this
 exact⟨λq=>(this _ q).1 rfl,λq=>(this _ q).2 rfl⟩
theorem SI.over(x:SI C T K ab W env m ad st)(hf:xJ st)(hc:∀y,env.kindOf y≠some .cell∧env.kindOf y≠some .free)(k:Kp Z W.h W'.h)(hk:W.k≤W'.k)(hg:∀t,t<W.k→W'.g t=W.g t)
  (hl:¬Z env.locals) (ho:∀i l,st.own.lookup i=some (.list l)→¬Z (ad i).pb) (hS:ab C.P) (hS':∀b,ab b→∃o,W'.h.get? b=some o):SI C T K ab W' env m ad st where
 sx:=⟨.inl hS,λb hb=>by
  rcases hb with h|⟨i,o,h1,h2⟩
  ·exact hS' b h
  ·obtain⟨l,rfl,_⟩:=hf.2 i o h1
   obtain⟨y,its,_,_,_,_,e6,_⟩:=x.ls i l h1
   obtain⟨n,e⟩:=aE e6 k (ho i l h1)
   exact⟨_,h2▸e⟩⟩
 fr:=⟨x.fr.kind,let ⟨ml,h1,h2⟩:=x.fr.ns;⟨ml,jH h1 k hl,h2⟩,x.fr.nP,λy hy=>(hy.elim (hc y).1 (hc y).2).elim,x.fr.glob,x.fr.bi⟩
 vars:=λi d h=>let ⟨y,v,e1,e2,e3⟩:=x.vars i d h;⟨y,v,e1,e2,aN.flat hk hg (hf.1 i d h) e3⟩
 ls:=λi l h=>let ⟨y,its,e1,e2,e3,e4,e6,e7⟩:=x.ls i l h
  ⟨y,its,e1,e2,e3,e4,aE e6 k (ho i l h),av.flat hk hg (by obtain⟨l',q,f⟩:=hf.2 i _ h;cases q;exact f) e7⟩
 lx:=λi L h=>by obtain⟨l,q,_⟩:=hf.2 i _ h;cases q
 inj:=x.inj
 out:=λi o b h hb=>by
  obtain⟨k1,k2,k3,k4⟩:=x.out i o b h hb
  obtain⟨l,rfl,_⟩:=hf.2 i o h
  refine⟨k1,k2,k3,λob e v=>?_⟩
  obtain⟨y,its,_,_,_,_,e6,_⟩:=x.ls i l h
  obtain⟨n,e'⟩:=aE e6 k (ho i l h)
  rw[show(ad i).pb=b from hb,e]at e'
  cases e'
  nofun
 nd:=x.nd
theorem SI.forget(x:SI C T K ab W env m ad st){me':Me}(h:∀i d,me'.lookup i=some d→st.me.lookup i=some d):SI C T K ab W env m ad ⟨me',st.own⟩:=
 ⟨x.sx,x.fr,λi d e=>x.vars i d (h i d e),x.ls,x.lx,x.inj,x.out,x.nd⟩
structure LI(C:Cx)(W:Wd)(a l:Addr)(i:Nat)(its:Array Value)(rest:List D):Prop where
 it:W.h.IsListIter a l i
 ls:W.h.IsList l its
 rp:av (λ_=>False) W rest (its.toList.drop i)
 nw:Nw C a
 ne:l≠a
theorem LI.over{a l:Addr}{i:Nat}{its:Array Value}{rest:List D}(x:LI C W a l i its rest)(hf:∀d∈rest,flat d=true)(hz:¬Z a)(hZl:¬Z l)(k:Kp Z W.h W'.h)(hk:W.k≤W'.k)(hg:∀t,t<W.k→W'.g t=W.g t):LI C W' a l i its rest:=
 ⟨let ⟨o,e,r⟩:=x.it;⟨o,k.ex hz e (λ_ _=>by rw[r.2];nofun),r⟩,bo x.ls k hZl,av.flat hk hg hf x.rp,x.nw,x.ne⟩
theorem LI.leX{a l:Addr}{i:Nat}{its:Array Value}{rest:List D}(x:LI C W a l i its rest)(hf:∀d∈rest,flat d=true)(L:aZ Z W W')(hz:¬Z a)(hZl:¬Z l):LI C W' a l i its rest:=x.over hf hz hZl L.ext L.k L.g
theorem uE{R:Nat}{A:Around}{E:Value→Shared→Prop}(hC:C.Ok)(hR:bB C R A)(jy:At C W s){a l:Addr}{i:Nat}{its:Array Value}{rest:List D}(x:LI C W a l i its rest)(hf:∀d∈rest,flat d=true):
  wpAny (model C.prog C.w) A (pyNext (.ref a)) (λr ae=>∃W',aZ (· ∈ [a]) W W'∧At C W' ae∧match rest,r with
   | [],none=>True
   | d::ds,some v=>aN (λ_=>False) W' d v∧LI C W' a l (i+1) its ds
   | _,_=>False) E s:=by
 have h1':=x.it;have h2':=x.ls
 rw[jy.h]at h1' h2'
 have hnc:∀{h'},nE C s.heap h' a:=by obtain⟨o,ho,_,hd⟩:=h1';exact .flds ho hd rfl (λ_ _=>nofun)
 cases rest with
 | nil=>
  have e:its.toList.drop i=[]:=x.rp
  exact wpAny_pyNext_list_end hR.r.1 h1' h2' (by have:=fh e;simpa using this) λh' hs=>⟨_,(jy.but hC (ie x.nw) (qm hnc) (dB hs) (Nat.le_refl _)).2,(jy.but hC (ie x.nw) (qm hnc) (dB hs) (Nat.le_refl _)).1,trivial⟩
 | cons d ds=>
  obtain⟨v,r,e,r1,r2⟩:=iR x.rp
  obtain⟨e1,e2⟩:=dO e
  refine wpAny_pyNext_list_item h1' h2' (by simpa using e1) λh' hi hs=>?_
  obtain⟨a',L⟩:=jy.but hC (ie x.nw) (qm hnc) (ic hs) (Nat.le_refl _)
  refine⟨_,L,a',aN.flat L.k L.g (hf d (.head _)) r1,hi,h2'.extBut hs.extBut x.ne,?_,x.nw,x.ne⟩
  rw[e2];exact av.flat L.k L.g (λd hd=>hf d (.tail _ hd)) r2
end
inductive Ev where
 | yld (i:Int)
 | stop
 | err
 deriving DecidableEq
def sy:List Int→Option Int→Nat→Ev
 | [],_,_=>.stop
 | i::r,last,j=>if i=127 then .stop else if i=0 then(match last with|none=>.err|some v=>.yld v)else match j with
  | 0=>.yld i
  | j+1=>sy r (some i) j
def lr(row:List Int):Nat→Nat→Int→List Int→Option (List Int)
 | 0,_,_,_=>none
 | n+1,j,m,acc=>match sy row none j with
  | .stop=>some acc
  | .err=>some [0]
  | .yld i=>if m+i>12 then some acc else lr row n (j+1) (m+i) (acc++[m+i])
def gx:List D→Option (List Int)
 | []=>some []
 | .int _ i::r=>(gx r).map (i::·)
 | _=>none
def aI:List D→Option D
 | [.list l]=>(match gx l with
  | some row=>(lr row 14 0 0 []).map λl=>.list (l.map (.int true))
  | none=>none)
 | _=>none
abbrev qo:Kd:=[(nm "grouping",.local),(nm "last_interval",.local),(nm "interval",.local),(nm "CHAR_MAX",.globalImplicit),(VE,.globalImplicit)]
abbrev Cx.ge(C:Cx)(env:Env):Cx:=C.wi λb=>b=env.locals∨C.fa b
def Zg(C:Cx)(aw h:Heap)(b:Addr):Prop:=b=C.P∨(aw.get? b=none∧∀o,h.get? b=some o→o.cls = .type "list_iterator" ∨∃es n,o.data = .dict es n)
def Xm(C:Cx)(aw:Heap)(H:Addr→Prop)(h:Heap)(b:Addr):Prop:=b=C.P∨H b∨(aw.get? b=none∧∃its,h.IsList b its)
def Yg(C:Cx)(row:List Int)(aw:Heap)(H:Addr→Prop):Protocol:=λn aV v s' kap=>
 ∃i t,sy row none (13-n) = .yld i∧v = .int i t∧pV (Zg C aw aV.heap) aV s'∧GK aV s'∧ny C s'∧(0<n→∀s'',pV (Xm C aw H s'.heap) s' s''→ny C s''→kap (.send .none) s'')
def Rg(C:Cx)(row:List Int)(aw:Heap)(env:Env)(outer:List Env):GenEnd:=λn aV r s'=>
 (sy row none (14-n) = .stop∧r = .ok (.ret .none)∧pV (Zg C aw aV.heap) aV s'∧GK aV s'∧ny C s')∨
 (sy row none (14-n) = .err∧∃e,r = .error (.ref e)∧∃ak h' l a0,pV (Zg C aw aV.heap) aV ak∧GK aV ak∧ny (C.ge env) ak∧s'={ ak with heap:=h' }∧(∀b∈l,(C.ge env).fa b)∧(hideAll ak.heap l).FlyingW outer e (.type "ValueError") a0 h'∧ak.heap.UpToSlots h')
structure oO(C:Cx)(env:Env)(S':Addr→Prop)(aw:Heap)(H:Addr→Prop)(outer:List Env)(A:Around)(l:Addr):Prop where
 ck:CK C
 xv:kQ C
 ag:Ag qo env
 own:bv (C.ge env) qo S' env
 ko:∀y,env.kindOf y=qo.lookup y
 kind:env.scope.kind = .function
 co:env.scope.isCoroutine=false
 frm:env.frame=some env.locals
 sP:S' C.P
 so:∀b,S' b→b=C.P∨b=env.locals
 frG:aw.get? env.locals=none
 hH:∀b,H b→∃o,aw.get? b=some o
 lH:¬H l∧l≠C.P∧∃o,aw.get? l=some o
 rm:bB (C.ge env) 5 (A.deeper env)
 fr:A.frames=some outer
 ho:∀env∈outer,env.scope.kind ≠ .module∧∃L,env.frame=some L∧C.fa L
abbrev xK:Nat→LA:=λ_=>⟨0,0,0,0,0,0,0,0,0⟩
structure lu(C:Cx)(env:Env)(S':Addr→Prop)(aw:Heap)(a l:Addr)(W:Wd)(s:Shared)(me:Me)(rest:List D):Prop where
 at':At (C.ge env) W s
 si:∃m,SI (C.ge env) TT qo S' W env m xK ⟨me,[]⟩
 li:∃i its,LI C W a l i its rest
 fa:aw.get? a=none
 fl:(∀d∈rest,flat d=true)∧∀i d,me.lookup i=some d→flat d=true
section
variable{C:Cx}{env:Env}{S' H:Addr→Prop}{aw:Heap}{outer:List Env}{A:Around}{a l:Addr}{W:Wd}{s s'':Shared}{me:Me}{rest:List D}
theorem oO.nc(g:oO C env S' aw H outer A l):∀y,env.kindOf y≠some .cell∧env.kindOf y≠some .free:=λy=>by
 rw[g.ko];exact dT (K:=qo) (by rfl) y
theorem lu.z(x:lu C env S' aw a l W s me rest)(g:oO C env S' aw H outer A l):∀b,b=C.P∨b=env.locals∨b=a→Zg C aw s.heap b:=λb hb=>by
 rcases hb with rfl|rfl|rfl
 ·exact .inl rfl
 ·obtain⟨m,si⟩:=x.si
  obtain⟨ml,⟨o,es,ep,ho,hd,_⟩,_⟩:=si.fr.ns
  exact .inr ⟨g.frG,λo' e=>.inr ⟨es,ep,by rw[x.at'.h]at ho;rw[ho]at e;cases e;exact hd⟩⟩
 ·obtain⟨i,its,li⟩:=x.li
  obtain⟨o,ho,hc,_⟩:=li.it
  exact .inr ⟨x.fa,λo' e=>.inl (by rw[x.at'.h]at ho;rw[ho]at e;cases e;exact hc)⟩
theorem lu.again(x:lu C env S' aw a l W s me rest)(g:oO C env S' aw H outer A l)(r:pV (Xm C aw H s.heap) s s'')(I:ny C s''):
  lu C env S' aw a l { W with h:=s''.heap,k:=s''.toks,gn:=s''.gens } s'' me rest:=by
 obtain⟨m,si⟩:=x.si
 obtain⟨i,its,li⟩:=x.li
 have hC:=g.ck.ok
 have hk:W.k≤s''.toks:=Nat.le_trans x.at'.k r.tk
 have nG:¬Xm C aw H s.heap env.locals:=λq=>by
  rcases q with q|q|⟨_,its,o,e,_,_,d⟩
  ·exact si.fr.nP q
  ·obtain⟨o,e⟩:=g.hH _ q;rw[g.frG]at e;cases e
  ·obtain⟨ml,⟨o',es,ep,ho,hd,_⟩,_⟩:=si.fr.ns
   rw[x.at'.h,e]at ho;cases ho;rw[hd]at d;cases d
 have na:¬Xm C aw H s.heap a:=λq=>by
  rcases q with q|q|⟨_,its,o,e,_,_,d⟩
  ·exact li.nw.nP hC q
  ·obtain⟨o,e⟩:=g.hH _ q;rw[x.fa]at e;cases e
  ·obtain⟨o',ho,_,hd⟩:=li.it
   rw[x.at'.h,e]at ho;cases ho;rw[hd]at d;cases d
 have nl:¬Xm C aw H s.heap l:=λq=>by
  rcases q with q|q|⟨q,_⟩
  ·exact g.lH.2.1 q
  ·exact g.lH.1 q
  ·obtain⟨o,e⟩:=g.lH.2.2;rw[q]at e;cases e
 have k:Kp (Xm C aw H s.heap) W.h s''.heap:=by rw[x.at'.h];exact r.kp
 have tG:∃o,s''.heap.get? env.locals=some o:=by
  obtain⟨ml,⟨o',es,ep,ho,hd,_⟩,_⟩:=si.fr.ns
  exact k.there nG ho
 have si':SI (C.ge env) TT qo S' { W with h:=s''.heap,k:=s''.toks,gn:=s''.gens } env m xK ⟨me,[]⟩:=
  si.over ⟨x.fl.2,λi o h=>by cases h⟩ g.nc k hk (λ_ _=>rfl) nG (λi l h=>by cases h) g.sP λb hb=>by
   rcases g.so b hb with rfl|rfl
   ·obtain⟨o,ho⟩:=hC.Pin;exact I.old.there _ _ ho
   ·exact tG
 refine⟨?_,⟨m,si'⟩,⟨i,its,li.over x.fl.1 na nl k hk λ_ _=>rfl⟩,x.fa,x.fl⟩
 exact At.with (C:=C) (fa:=C.fa) (r.to (C':=C) (At.less (C:=C) (fa:=C.fa) x.at' λb hb=>.inr hb) I) rfl g.own.locN (si'.fr.wi (fa:=C.fa))
end
section
variable{C:Cx}{env:Env}{S' H:Addr→Prop}{aw:Heap}{outer:List Env}{A:Around}{a l:Addr}{W cH:Wd}{s aV s'':Shared}{me:Me}{rest:List D}{row:List Int}
theorem oO.lk(g:oO C env S' aw H outer A l):Lk (C.ge env) TT aT wR 5:=uk (g.ck.wi _).ok (g.ck.wi _).bis 5
theorem lu.step{W':Wd}{s':Shared}(x:lu C env S' aw a l W s me rest)(g:oO C env S' aw H outer A l){Z:Addr→Prop}(L:aZ Z W W')(a':At (C.ge env) W' s')(hz:∀b,Z b→b=C.P∨b=env.locals){me':Me}{m':Str→Option Value}(si:SI (C.ge env) TT qo S' W' env m' xK ⟨me',[]⟩)(hf:∀i d,me'.lookup i=some d→flat d=true):
  lu C env S' aw a l W' s' me' rest:=by
 obtain⟨i,its,li⟩:=x.li
 obtain⟨m,si0⟩:=x.si
 have hG:∃o,aw.get? l=some o:=g.lH.2.2
 refine⟨a',⟨m',si⟩,⟨i,its,li.leX x.fl.1 L (λq=>?_) (λq=>?_)⟩,x.fa,x.fl.1,hf⟩
 ·rcases hz _ q with q|q
  ·exact li.nw.nP g.ck.ok q
  ·obtain⟨ml,⟨o,es,ep,ho,hd,_⟩,_⟩:=si0.fr.ns
   obtain⟨o',ho',_,hd'⟩:=li.it
   rw[q]at ho';rw[ho]at ho';cases ho';rw[hd]at hd';cases hd'
 ·rcases hz _ q with q|q
  ·exact g.lH.2.1 q
  ·obtain⟨o,e⟩:=hG;rw[q,g.frG]at e;cases e
theorem zk(g:oO C env S' aw H outer A l)(x:lu C env S' aw a l W s me rest){st:Stmt}{y:Y}{me':Me}{n:Nat}{E:Value→Shared→Prop}(h:CY TT aT qo st y)(e:ex wR n y ⟨me,[]⟩=some (.next ⟨me',[]⟩))(hf:∀i d,me'.lookup i=some d→flat d=true):
  wpAny (model C.prog C.w) (A.deeper env) (exec st env) (λf s'=>f = .next∧∃W',aZ (λb=>b=C.P∨b=env.locals) W W'∧lu C env S' aw a l W' s' me' rest) E s:=by
 obtain⟨m,si⟩:=x.si
 refine wpAny_mono ((fS (g.ck.wi _) g.lk (by decide) az di n).1 _ _ _ _ _ _ _ _ S' env m xK _ h e g.rm x.at' si g.ag g.own g.sP) (λf s' ⟨ef,W',m',ad',L,a',si',_⟩=>?_) λ_ _ x=>x
 have hz:∀b,ZZ (C.ge env) qo env xK [] b→b=C.P∨b=env.locals:=λb hb=>by
  rcases hb with(h|h|⟨y,h,_⟩)|⟨i,o,h,_⟩
  ·exact .inl h
  ·exact .inr h
  ·exact((dT (K:=qo) (by rfl) y).1 h).elim
  ·cases h
 have si'':SI (C.ge env) TT qo S' W' env m' xK ⟨me',[]⟩:=⟨⟨.inl g.sP,λb hb=>si'.sx.2 b (hb.elim .inl λ⟨i,o,h,_⟩=>by cases h)⟩,si'.fr,λi d h=>let ⟨y,v,e1,e2,e3⟩:=si'.vars i d h;⟨y,v,e1,e2,aN.sub (λb hb=>hb.elim .inl λ⟨i,o,h,_⟩=>by cases h) _ e3⟩,(λi l h=>by cases h),(λi l h=>by cases h),(λi j o o' b h=>by cases h),(λi o b h=>by cases h),List.nodup_nil⟩
 exact⟨ef,W',L.sub hz,x.step g L a' hz si'' hf⟩
theorem pW(g:oO C env S' aw H outer A l)(x:lu C env S' aw a l W s me rest){t:Expr}{y:X}{d:D}{b:Bool}{n:Nat}{E:Value→Shared→Prop}(h:CE TT aT qo t y)(e:ev wR n y me=some d)(hb:aC d=some b):
  wpAny (model C.prog C.w) (A.deeper env) (isTrue t env (eval t env)) (λb' s'=>b'=b∧∃W',aZ (λb=>b=C.P∨b=env.locals) W W'∧lu C env S' aw a l W' s' me rest) E s:=by
 obtain⟨m,si⟩:=x.si
 refine wpAny_mono ((ba g.lk az n).2 _ _ _ _ _ _ _ _ _ _ env m _ h e hb g.rm x.at' si.sx (si.envok g.ag)) (λb' s' ⟨eb,W',L,a'⟩=>?_) λ_ _ x=>x
 exact⟨eb,W',L.leX (.inl rfl),x.step g (L.leX (X:=(· = C.P)) rfl) a' (λb h=>.inl h) (si.le (g.ck.wi _).ok L a') x.fl.2⟩
theorem BY(g:oO C env S' aw H outer A l)(x:lu C env S' aw a l W s me rest){q1 q2 q3:Pos}{gg:Bool}{i:Int}{E:Value→Shared→Prop}(e:me.lookup 7=some (.int gg i)):
  wpAny (model C.prog C.w) (A.deeper env) (isTrue (.Compare (.Name (nm "interval") q1) [.Eq] [.Name (nm "CHAR_MAX") q2] q3) env (eval (.Compare (.Name (nm "interval") q1) [.Eq] [.Name (nm "CHAR_MAX") q2] q3) env)) (λb' s'=>b'=decide (i=127)∧s'=s) E s:=by
 obtain⟨m,si⟩:=x.si
 obtain⟨y,v,e1,e2,t,rfl,_⟩:=si.vars 7 _ e
 have ey:y=nm "interval" :=by
  have:TT[7]?=some (nm "interval"):=by decide +kernel
  rw[this]at e1;cases e1;rfl
 subst ey
 obtain⟨t2,hmg⟩:∃t,C.mg (nm "CHAR_MAX")=some (.int 127 t):=⟨_,mg_of g.ck.kin g.ck.ok.g (by rfl)⟩
 have hx:=si.envok g.ag
 refine wpAny_isTrue_Compare1 (wpAny_Name (bj x.at'.h si.fr (.inl (by rw[g.ko];rfl)) (by decide) e2 (wpAny_Name (md (g.ck.wi _).ok x.at' hx (by rfl) hmg ?_) (by decide))) (by decide))
 refine wpAny_mono (dj (S:=S') g.rm.r x.at' .eq (.int false i) (.int false 127) (.int i t) (.int 127 t2) (decide (i=127)) ⟨t,rfl,nofun⟩ ⟨t2,rfl,nofun⟩ (by simp[a9,eV];by_cases q:i=127<;>simp[q])) (λv ak aw=>?_) λ_ _ x=>x
 obtain⟨rfl,rfl⟩:=aw
 exact wpAny_truthy_bool ⟨rfl,rfl⟩
theorem uF(g:oO C env S' aw H outer A l)(x:lu C env S' aw a l W s me rest){q7 q8 q9:Pos}{k3:Nat}{d:D}{E:Value→Shared→Prop}(e:me.lookup 6=some d)(hd:d = .none∨∃gg i,d = .int gg i):
  wpAny (model C.prog C.w) (A.deeper env) (isTrue (.Compare (.Name (nm "last_interval") q7) [.Is] [.Constant .none k3 q8] q9) env (eval (.Compare (.Name (nm "last_interval") q7) [.Is] [.Constant .none k3 q8] q9) env)) (λb' s'=>b'=(match d with | .none=>true|_=>false)∧s'=s) E s:=by
 obtain⟨m,si⟩:=x.si
 obtain⟨y,v,e1,e2,e3⟩:=si.vars 6 _ e
 have ey:y=nm "last_interval" :=by
  have:TT[6]?=some (nm "last_interval"):=by decide +kernel
  rw[this]at e1;cases e1;rfl
 subst ey
 refine wpAny_isTrue_Compare1 (wpAny_Name (bj x.at'.h si.fr (.inl (by rw[g.ko];rfl)) (by decide) e2 (wpAny_Constant_none ?_)) (by decide))
 refine is_none (wpAny_truthy_bool ?_)
 rcases hd with rfl|⟨gg,i,rfl⟩
 ·cases e3;exact⟨rfl,rfl⟩
 ·obtain⟨t,rfl,_⟩:=e3;exact⟨rfl,rfl⟩
end
section
variable{C:Cx}{env:Env}{S' H:Addr→Prop}{aw:Heap}{outer:List Env}{A:Around}{a l:Addr}{W cH:Wd}{s aV s'':Shared}{me:Me}{rest:List D}{row:List Int}
structure Sg(C:Cx)(env:Env)(aw:Heap)(a:Addr)(cH:Wd)(aV:Shared)(W:Wd):Prop where
 at':At (C.ge env) cH aV
 k:cH.k=aV.toks
 le:aZ (Zg C aw aV.heap) cH W
 z:∀b,b=C.P∨b=env.locals∨b=a→Zg C aw aV.heap b
theorem Sg.step{W':Wd}(x:Sg C env aw a cH aV W)(L:aZ (λb=>b=C.P∨b=env.locals) W W'):Sg C env aw a cH aV W':=⟨x.at',x.k,x.le.trans (L.sub λb hb=>x.z b (hb.imp id .inl)),x.z⟩
theorem Sg.new(x:lu C env S' aw a l W s me rest)(g:oO C env S' aw H outer A l)(hk:W.k=s.toks):Sg C env aw a W s W:=⟨x.at',hk,.refl ..,x.z g⟩
theorem At.base(a:At (C.ge env) W s):At C W s:=At.less (C:=C) (fa:=C.fa) a λb hb=>.inr hb
theorem m5(g:oO C env S' aw H outer A l)(x:lu C env S' aw a l W s me rest)(sg:Sg C env aw a cH aV W){x':Str}{i:Nat}{y0 y1 y2:Pos}{gg:Bool}{v:Int}{m:Nat}(hx:TT[i]?=some x')(hk:qo.lookup x'=some .local)(hd:(x'==("__classdict__" : Str))=false) (hd':(x'==("__debug__" : Str))=false) (e:me.lookup i=some (.int gg v)) (he:sy row none (13-m) = .yld v)
  {c:Code} {fs:List Frame} {K:Flow→Sem PySem.Fin} {Hh:Value→Sem PySem.Fin} (hfs:splitAtGen fs=none) (hfg:fs.any Frame.guarded=false) (hov:A.over c fs=A.deeper env)
  (k:∀m',m=m'+1→∀s'' W'',W''.k=s''.toks→lu C env S' aw a l W'' s'' me rest→Seg (model C.prog C.w) A (Rg C row aw env outer) (Yg C row aw H) (m'+1) s'' c (K .next) fs s'') :
  Seg (model C.prog C.w) A (Rg C row aw env outer) (Yg C row aw H) (m+1) aV c ((exec (.Expr (.Yield (some (.Name x' y0)) y1) y2) env).wrap K Hh id id) fs s:=by
 obtain⟨mm,si⟩:=x.si
 obtain⟨y,u,e1,e2,t,rfl,_⟩:=si.vars i _ e
 rw[hx]at e1;cases e1
 refine seg_Expr_Yield hfs rfl hfg ?_ g.co (by unfold interactive;rw[g.kind];rfl)
 rw[hov]
 refine wpAny_Name (bj x.at'.h si.fr (.inl (by rw[g.ko];exact hk)) hd e2 λkap hkap=>?_) hd'
 obtain⟨r,gk⟩:=pV.of sg.at' sg.k sg.le x.at'
 refine⟨v,t,he,rfl,r,gk,x.at'.base.inv,λhm s'' hr hi=>hkap .none s'' ?_⟩
 obtain⟨m',rfl⟩:∃m',m=m'+1:=⟨m-1,by omega⟩
 exact k m' rfl s'' _ rfl (x.again g hr hi)
theorem xL(g:oO C env S' aw H outer A l){k5:Nat}{q10 q11 q12 q13:Pos}{t:Expr}{it:Value}{b o:List Stmt}{k1 k2:Result→Sem PySem.Fin}{p1 p2:Pos}{body:List Stmt}{gg:Bool}{v:Int}:∀(m:Nat),(∀m',m'≤m→sy row none (13-m') = .yld v)→∀(W cH:Wd) (s aV:Shared),lu C env S' aw a l W s me rest→Sg C env aw a cH aV W→me.lookup 6=some (.int gg v)→
  Seg (model C.prog C.w) A (Rg C row aw env outer) (Yg C row aw H) (m+1) aV (.whileLoop (.Constant (.bool true) k5 q10) [.Expr (.Yield (some (.Name (nm "last_interval") q11)) q12) q13] [] env)
   ((model C.prog C.w).den (.whileLoop (.Constant (.bool true) k5 q10) [.Expr (.Yield (some (.Name (nm "last_interval") q11)) q12) q13] [] env))
   [.ret k1 none false [] (.forLoop t it b o env) p1 [],.ret k2 none false [] (.func body env) p2 []] s:=by
 intro m
 induction m with
 | zero=>
  intro he W cH s aV x sg e
  refine seg_whileLoop ?_
  rw[gU]
  refine wpAny_mono (pW g x (y:=.const (.bool true)) (d:=.bool true) (b:=true) (n:=1) ((jc TT aT 60).1 _ _ _ (by rfl)) rfl rfl) (λb' s' ⟨eb,W',L,x'⟩=>?_) λ_ _ x=>x
  subst eb
  rw[if_pos rfl]
  refine seg_execs_cons (m5 g x' (sg.step L) (x':=nm "last_interval") (i:=6) (by decide +kernel) (by rfl) (by decide) (by decide) e (he 0 (Nat.le_refl _)) rfl rfl gU λm' q=>by cases q)
 | succ m ih=>
  intro he W cH s aV x sg e
  refine seg_whileLoop ?_
  rw[gU]
  refine wpAny_mono (pW g x (y:=.const (.bool true)) (d:=.bool true) (b:=true) (n:=1) ((jc TT aT 60).1 _ _ _ (by rfl)) rfl rfl) (λb' s' ⟨eb,W',L,x'⟩=>?_) λ_ _ x=>x
  subst eb
  rw[if_pos rfl]
  refine seg_execs_cons (m5 g x' (sg.step L) (x':=nm "last_interval") (i:=6) (by decide +kernel) (by rfl) (by decide) (by decide) e (he (m+1) (Nat.le_refl _)) rfl rfl gU λm' q s'' W'' hk x''=>?_)
  cases q
  exact seg_execs_nil (seg_again rfl (ih (λm' h=>he m' (Nat.le_succ_of_le h)) W'' W'' s'' s'' x'' (Sg.new x'' g hk) e))
end
abbrev DD:Flow→Sem PySem.Fin:=λf=>.pure (.done (.ret (match f with | .ret v=>v|_=>.none)))
abbrev BZ(env:Env):Flow→Sem PySem.Fin:=λf=>match f with | .next=>(execs [] env).wrap DD (tP env) id id|f=>DD f
def B0(me:Me):Option Int→Prop
 | none=>me.lookup 6=some .none
 | some v=>∃gg,me.lookup 6=some (.int gg v)
section
variable{C:Cx}{env:Env}{S' H:Addr→Prop}{aw:Heap}{outer:List Env}{A:Around}{a l:Addr}{W cH:Wd}{s aV s'':Shared}{me:Me}{rest:List D}{row:List Int}{n:Nat}
theorem xM(sg:Sg C env aw a cH aV W)(x:At (C.ge env) W s)(he:sy row none (14-n) = .stop){r:PySem.Result}(hr:r = .ok .next∨r = .ok (.ret .none)){c:Code}{p:Pos}{body:List Stmt}:
  Seg (model C.prog C.w) A (Rg C row aw env outer) (Yg C row aw H) n aV c (leafOf r) [.ret (Eb env (BZ env) (tP env) id id) none false [] (.func body env) p []] s:=by
 obtain⟨r1,gk⟩:=pV.of sg.at' sg.k sg.le x
 refine seg_leaf r ?_
 have key:Seg (model C.prog C.w) A (Rg C row aw env outer) (Yg C row aw H) n aV (.func body env) (leafOf (.ok (.ret .none))) [] s:=seg_end (.ok (.ret .none)) (.inl ⟨he,rfl,r1,gk,x.base.inv⟩)
 rcases hr with rfl|rfl<;>exact key
structure GP where
 (b1 q1 q2 q3 c1 c2 q4 q5 q6 q7 q8 q9 d1 d2 d3 d4 d5 q10 q11 q12 q13 q14 e4 f1 f2 f3 g1 g2 g3:Pos)
 (k2 k3 k4 k5:Nat)
 msg:Str
abbrev tQ(p:GP):List Stmt:=[
 .If (.Compare (.Name (nm "interval") p.q1) [.Eq] [.Name (nm "CHAR_MAX") p.q2] p.q3) [.Return none p.c1] [] p.c2,
 .If (.Compare (.Name (nm "interval") p.q4) [.Eq] [.Constant (.int 0) p.k2 p.q5] p.q6) [
  .If (.Compare (.Name (nm "last_interval") p.q7) [.Is] [.Constant .none p.k3 p.q8] p.q9) [.Raise (some (.Call (.Name VE p.d1) [.Constant (.str p.msg) p.k4 p.d2] [] p.d3)) none p.d4] [] p.d5,
  .While (.Constant (.bool true) p.k5 p.q10) [.Expr (.Yield (some (.Name (nm "last_interval") p.q11)) p.q12) p.q13] [] p.q14] [] p.e4,
 .Expr (.Yield (some (.Name (nm "interval") p.f1)) p.f2) p.f3,
 .Assign [.Name (nm "last_interval") p.g1] (.Name (nm "interval") p.g2) p.g3]
theorem rO{α:Type}(i:Nat)(d:α)(l:List (Nat×α)):(put i d l).lookup i=some d:=by rw[aa,if_pos rfl]
theorem rQ{i:Nat}{d:D}{me:Me}(h:∀i d,me.lookup i=some d→flat d=true)(hd:flat d=true):∀j e,(put i d me).lookup j=some e→flat e=true:=λj e q=>by
 rw[aa]at q
 split at q
 ·cases q;exact hd
 ·exact h j e q
theorem xN(g:oO C env S' aw H outer A l)(sg:Sg C env aw a cH aV W)(x:lu C env S' aw a l W s me rest)(he:sy row none (14-n) = .err){d1 d2 d3 d4:Pos}{msg:Str}{k4:Nat}{K:Flow→Sem PySem.Fin}{t:Expr}{it:Value}{b o:List Stmt}{p:Pos}{body:List Stmt}:
  Seg (model C.prog C.w) A (Rg C row aw env outer) (Yg C row aw H) n aV (.forLoop t it b o env) ((exec (.Raise (some (.Call (.Name VE d1) [.Constant (.str msg) k4 d2] [] d3)) none d4) env).wrap K (uD env) id id)
   [.ret (Eb env (BZ env) (tP env) id id) none false [] (.func body env) p []] s:=by
 refine kh ?_
 rw[dw]
 obtain⟨m,si⟩:=x.si
 have hL2:=g.lk
 refine Raise_madeB PySem.F.excCall_ValueError PySem.F.excRaise_ValueError g.rm.r.1 (wpAny_Name (jM (g.ck.wi _).ok x.at' (si.envok g.ag) (by rfl) g.xv.ve.1 g.xv.ve.2 ⟨rfl,?_⟩) (by decide)) rfl rfl
 rw[aA rfl]
 refine Calls.spliced_cons (wpAny_mono ((ba hL2 az 2).1 _ _ (.const (.str true msg)) _ (.str true msg) _ _ _ _ _ _ _ (.str) rfl g.rm x.at' si.sx (si.envok g.ag)) (λv cq ⟨aB,aU,bH,kK⟩=>Calls.spliced_nil ⟨by show 1≤sizeLine;rw[sizeLine_eq];omega,λh' e hx=>?_⟩) λ_ _ x=>x)
 have L0:aZ (Zg C aw aV.heap) cH aB:=sg.le.trans (aU.leX (X:=Zg C aw aV.heap) (.inl rfl))
 obtain⟨r1,gk⟩:=pV.of sg.at' sg.k L0 bH
 refine oa (j7 (C:=C) (fa':=(C.ge env).fa) (W₂:=aB) (vs:=[v]) bH (λb hb=>.inr hb) g.fr g.kind g.frm (.inl rfl) g.ho hx λh' l a0 p1 p2 p3=>?_)
 exact .inr ⟨he,e,rfl,_,h',l,a0,r1,gk,bH.inv,rfl,p1,p2,p3⟩
theorem iD(i:Int)(r:List Int)(last:Option Int)(k:Nat):sy (i::r) last k=if i=127 then .stop else if i=0 then(match last with|none=>.err|some v=>.yld v)else match k with
  | 0=>.yld i
  | j+1=>sy r (some i) j:=by
 cases k<;>rfl
theorem Sg.more{W':Wd}(x:Sg C env aw a cH aV W){Z:Addr→Prop}(L:aZ Z W W')(hz:∀b,Z b→b=C.P∨b=env.locals∨b=a):Sg C env aw a cH aV W':=⟨x.at',x.k,x.le.trans (L.sub λb hb=>x.z b (hz b hb)),x.z⟩
theorem lu.next{W':Wd}{s':Shared}{d:D}{ds:List D}{i:Nat}{its:Array Value}(x:lu C env S' aw a l W s me (d::ds))(g:oO C env S' aw H outer A l)(L:aZ (· ∈ [a]) W W')(a':At (C.ge env) W' s')(li':LI C W' a l i its ds):lu C env S' aw a l W' s' me ds:=by
 obtain⟨m,si⟩:=x.si
 obtain⟨_,_,li⟩:=x.li
 have hn:¬env.locals∈[a]:=λq=>by
  have q:=List.mem_singleton.mp q
  obtain⟨ml,⟨o,es,ep,ho,hd,_⟩,_⟩:=si.fr.ns
  obtain⟨o',ho',_,hd'⟩:=li.it
  rw[q,ho']at ho;cases ho;rw[hd']at hd;cases hd
 refine⟨a',⟨m,si.over ⟨x.fl.2,λi o h=>by cases h⟩ g.nc L.ext L.k L.g hn (λi l h=>by cases h) g.sP λb hb=>?_⟩,⟨i,its,li'⟩,x.fa,λe he=>x.fl.1 e (.tail _ he),x.fl.2⟩
 rcases g.so b hb with rfl|rfl
 ·obtain⟨o,ho⟩:=g.ck.ok.Pin;rw[a'.h];exact a'.inv.old.there _ _ ho
 ·obtain⟨ml,⟨o,es,ep,ho,hd,_⟩,_⟩:=si.fr.ns
  exact L.ext.there hn ho
theorem zl(g:oO C env S' aw H outer A l){q:Pos}{d:D}{ds:List D}(x:lu C env S' aw a l W s me ds)(hd:flat d=true){v:Value}(r:aN (λ_=>False) W d v):
  wpAny (model C.prog C.w) (A.deeper env) (assign (.Name (nm "interval") q) env v) (λ_ s'=>∃W',aZ (λb=>b=C.P∨b=env.locals) W W'∧lu C env S' aw a l W' s' (put 7 d me) ds) i6 s:=by
 obtain⟨m,si⟩:=x.si
 have hC:(C.ge env).Ok:=(g.ck.wi _).ok
 refine wpAny_mono (iU hC az g.rm (hid.up (ad:=xK) (own:=[]) g.own) x.at' si.sx.1 si.fr (.one (i:=7) (by rfl) (by decide +kernel)) (d:=d) (aN.flat (Nat.le_refl _) (λ_ _=>rfl) hd r) (bs:=[(7,d)]) rfl) (λ_ s' ⟨W',m',k⟩=>?_) λ_ _ x=>x
 have hz:∀b,cU qo env b→b=C.P∨b=env.locals:=λb hb=>by
  rcases hb with h|⟨y,h,_⟩
  ·exact .inr h
  ·exact((dT (K:=qo) (by rfl) y).1 h).elim
 have si':=si.took (d:=d) (me':=put 7 d me) hC az g.sP g.own k (λj d' h=>by
  rw[aa]at h
  split at h
  ·rename_i e;cases h;exact .inl (by rw[e];exact .head _)
  ·rename_i e;exact .inr ⟨λz=>e (List.mem_singleton.mp z),h⟩) (λj _ z=>by cases z)
 exact⟨W',k.le.sub hz,x.step g k.le k.at' hz si' (rQ x.fl.2 hd)⟩
theorem xO(g:oO C env S' aw H outer A l)(q:GP){p:Pos}{body:List Stmt}:∀(rest:List D) (ri:List Int),gx rest=some ri→∀(m:Nat) (last:Option Int),m≤13→(∀k,sy row none (13-m+k)=sy ri last k)→∀(me:Me) (W cH:Wd) (s aV:Shared),lu C env S' aw a l W s me rest→Sg C env aw a cH aV W→B0 me last→
  Seg (model C.prog C.w) A (Rg C row aw env outer) (Yg C row aw H) (m+1) aV (.forLoop (.Name (nm "interval") q.b1) (.ref a) (tQ q) [] env)
   ((model C.prog C.w).den (.forLoop (.Name (nm "interval") q.b1) (.ref a) (tQ q) [] env)) [.ret (Eb env (BZ env) (tP env) id id) none false [] (.func body env) p []] s
 | [],ri,hi,m,last,hm,hev,me,W,cH,s,aV,x,sg,hl=>by
  cases hi
  have he:sy row none (14-(m+1)) = .stop:=by
   have:=hev 0
   rw[show 14-(m+1)=13-m by omega]
   exact this
  obtain⟨i,its,li⟩:=x.li
  refine lq ?_
  rw[dw]
  refine wpAny_mono (uE (C:=C.ge env) (g.ck.wi _).ok g.rm x.at' ⟨li.it,li.ls,li.rp,li.nw,li.ne⟩ x.fl.1) (λr ae ⟨aj,am,aq,z⟩=>?_) λ_ _ x=>x
  cases r with
  | some v=>exact z.elim
  | none=>exact seg_again rfl (xM (sg.more am λb hb=>.inr (.inr (List.mem_singleton.mp hb))) aq he (.inl rfl))
 | d::ds,ri,hi,m,last,hm,hev,me,W,cH,s,aV,x,sg,hl=>by
  obtain⟨gg,i,r,rfl,hr,rfl⟩:∃gg i r,d = .int gg i∧gx ds=some r∧ri=i::r:=by
   cases d with
   | int gg i=>
    simp only[gx]at hi
    cases hr:gx ds with
    | none=>rw[hr]at hi;cases hi
    | some r=>rw[hr]at hi;cases hi;exact⟨gg,i,r,rfl,rfl,rfl⟩
   | _=>cases hi
  have he0:sy row none (13-m)=sy (i::r) last 0:=hev 0
  have h14:14-(m+1)=13-m:=by omega
  obtain⟨i0,its,li⟩:=x.li
  refine lq ?_
  rw[dw]
  refine wpAny_mono (uE (C:=C.ge env) (g.ck.wi _).ok g.rm x.at' ⟨li.it,li.ls,li.rp,li.nw,li.ne⟩ x.fl.1) (λrr ae ⟨aj,am,aq,z⟩=>?_) λ_ _ x=>x
  cases rr with
  | none=>exact z.elim
  | some v=>
   obtain⟨rv,rR⟩:=z
   have EV:=x.next g am aq ⟨rR.it,rR.ls,rR.rp,rR.nw,rR.ne⟩
   have DE:=sg.more am λb hb=>.inr (.inr (List.mem_singleton.mp hb))
   refine wpAny_pure (wpAny_mono (zl g EV rfl rv) (λ_ bF ⟨bf,aD,B1⟩=>?_) λ_ _ x=>x)
   have AB:=DE.step aD
   have h7:=rO 7 (D.int gg i) me
   have h6:∀dd,me.lookup 6=some dd→(put 7 (D.int gg i) me).lookup 6=some dd:=λdd h=>by rw[aa,if_neg (by decide)];exact h
   refine seg_execs_cons (tO ?_)
   rw[dw]
   refine wpAny_mono (BY g B1 h7) (λb' s' ⟨eb,es⟩=>?_) λ_ _ x=>x
   subst eb;subst es
   by_cases h127:i=127
   ·rw[if_pos (by simpa using h127)]
    refine seg_execs_cons (kh ?_)
    rw[dw]
    refine wpAny_Return_none ?_
    exact xM AB B1.at' (by rw[h14,he0,iD,if_pos h127]) (.inr rfl)
   ·rw[if_neg (by simpa using h127)]
    refine seg_execs_nil (seg_execs_cons (tO ?_))
    rw[dw]
    refine wpAny_mono (pW g B1 (y:=.cmp .eq (.var 7) (.const (.int true 0))) (d:=.bool (decide (i=0))) (b:=decide (i=0)) (n:=3) ((jc TT aT 60).1 _ _ _ (by rfl)) (by simp only[ev,h7,a9,eV];by_cases q0:i=0<;>simp[q0]) rfl) (λb' s' ⟨eb,aB,aU,xQ⟩=>?_) λ_ _ x=>x
    subst eb
    have xR:=AB.step aU
    by_cases h0:i=0
    ·rw[if_pos (by simpa using h0)]
     refine seg_execs_cons (tO ?_)
     rw[dw]
     cases last with
     | none=>
      refine wpAny_mono (uF g xQ (h6 _ hl) (.inl rfl)) (λb' s' ⟨eb,es⟩=>?_) λ_ _ x=>x
      subst eb;subst es
      rw[if_pos rfl]
      exact seg_execs_cons (xN g xR xQ (by rw[h14,he0,iD,if_neg h127,if_pos h0]))
     | some v0=>
      obtain⟨g0,hl0⟩:=hl
      refine wpAny_mono (uF g xQ (h6 _ hl0) (.inr ⟨_,_,rfl⟩)) (λb' s' ⟨eb,es⟩=>?_) λ_ _ x=>x
      subst eb;subst es
      rw[if_neg (λz=>by cases z)]
      refine seg_execs_nil (seg_execs_cons (seg_While λp'=>?_))
      refine xL g m (λm' hm'=>?_) aB cH _ aV xQ xR (h6 _ hl0)
      have:=hev (m-m')
      rw[show 13-m+(m-m')=13-m' by omega]at this
      rw[this,iD,if_neg h127,if_pos h0]
    ·rw[if_neg (by simpa using h0)]
     refine seg_execs_nil (seg_execs_cons (m5 g xQ xR (x':=nm "interval") (i:=7) (by decide +kernel) (by rfl) (by decide) (by decide) h7 (by rw[he0,iD,if_neg h127,if_neg h0]) rfl rfl dw λm' em s'' W'' hk x''=>?_))
     subst em
     refine seg_execs_cons (kh ?_)
     rw[dw]
     refine wpAny_mono (zk g x'' (y:=.assign 6 (.var 7)) (me':=put 6 (.int gg i) (put 7 (.int gg i) me)) (n:=5) ((dg TT aT 60).1 _ _ _ (by rfl)) (by simp[ex,evS,dF,ev,h7,aS]) (rQ x''.fl.2 rfl)) (λf cu ⟨ef,dI,bI,EW⟩=>?_) λ_ _ x=>x
     subst ef
     refine seg_execs_nil (seg_again rfl (xO g q ds r hr m' (some i) (by omega) (λk=>?_) _ dI W'' _ s'' EW ((Sg.new x'' g hk).step bI) ⟨gg,rO ..⟩))
     have:=hev (k+1)
     rw[show 13-(m'+1)+(k+1)=13-m'+k by omega]at this
     rw[this,iD,if_neg h127,if_neg h0]
end
theorem B2(p:Params):∃(q:GP) (a1 a2 a3 b2 b3:Pos) (k1:Nat),aR (giFd p)=[.Assign [.Name (nm "last_interval") a1] (.Constant .none k1 a2) a3,.For (.Name (nm "interval") q.b1) (.Name (nm "grouping") b2) (tQ q) [] b3]:=by
 obtain⟨a1,k1,a2,a3,b1,b2,b3,q1,q2,q3,c1,c2,q4,k2,q5,q6,e4,q7,k3,q8,q9,d1,msg,k4,d2,d3,d4,d5,q10,k5,q11,q12,q13,q14,q15,f1,f2,f3,g1,g2,g3,e,_⟩:=zi p
 exact⟨⟨b1,q1,q2,q3,c1,c2,q4,q5,q6,q7,q8,q9,d1,d2,d3,d4,d5,q10,q11,q12,q13,q14,e4,f1,f2,f3,g1,g2,g3,k2,k3,k4,k5,msg⟩,a1,a2,a3,b2,b3,k1,e⟩
theorem kS:∀{ds:List D} {r:List Int},gx ds=some r→∀d∈ds,flat d=true
 | [],_,_,d,h=>by cases h
 | e::ds,r,hi,d,h=>by
  cases e with
  | int g i=>
   simp only[gx]at hi
   cases hr:gx ds with
   | none=>rw[hr]at hi;cases hi
   | some r'=>
    rcases List.mem_cons.mp h with rfl|h
    ·rfl
    ·exact kS hr d h
  | _=>cases hi
section
variable{C:Cx}{env:Env}{S' H:Addr→Prop}{aw:Heap}{outer:List Env}{A:Around}{l:Addr}{cH:Wd}{aV:Shared}{row:List Int}
theorem xS(g:oO C env S' aw H outer A l){mm:Str→Option Value}{its:Array Value}{gV:List D}(hk:cH.k=aV.toks)(jy:At (C.ge env) cH aV)(fr:ay C env cH.h mm)(hv:mm (nm "grouping")=some (.ref l)) (hl:cH.h.IsList l its)
  (hr:av (λ_=>False) cH gV its.toList) (hi:gx gV=some row) (h2:∀b o,aw.get? b=some o→∃o',aV.heap.get? b=some o') :
  Seg (model C.prog C.w) A (Rg C row aw env outer) (Yg C row aw H) 14 aV (.func (aR (giFd C.w.params)) env) ((model C.prog C.w).den (.func (aR (giFd C.w.params)) env)) [] aV:=by
 obtain⟨q,p1,p2,p3,p4,p5,k1,eb⟩:=B2 C.w.params
 have hC:(C.ge env).Ok:=(g.ck.wi _).ok
 have hfl:=kS hi
 rw[eb]
 refine seg_func (seg_execs_cons (kh ?_))
 rw[iX]
 refine wpAny_Assign_Name (wpAny_Constant_none (wpAny_mono (b9 g.own hC jy fr.wi (by rfl)) (λ_ ae ⟨aj,am,aq,sJ⟩=>?_) λ_ _ x=>x)) rfl
 have hz:∀b,cU qo env b→b=env.locals:=λb hb=>by
  rcases hb with h|⟨y,h,_⟩
  ·exact h
  ·exact((dT (K:=qo) (by rfl) y).1 h).elim
 refine seg_execs_cons (zg ?_)
 rw[iX]
 have e2:bM mm (nm "last_interval") .none (nm "grouping")=some (.ref l):=by unfold bM;rw[if_neg (by decide)];exact hv
 refine wpAny_Name (bj aq.h sJ (.inl (by rw[g.ko];rfl)) (by decide) e2 ?_) (by decide)
 have nl:l≠env.locals:=λz=>by obtain⟨o,ho⟩:=g.lH.2.2;rw[z,g.frG]at ho;cases ho
 have xT:aj.h.IsList l its:=bo hl am.ext λz=>nl (hz _ z)
 have hl':=xT;rw[aq.h]at hl'
 refine wpAny_pyIter_list hl' λp=>?_
 obtain⟨au,an⟩:=aq.keepW (bt ae.heap { cls:=.type "list_iterator",data:=.fields #[.ref l,.int 0 0] }) (Nat.le_refl _)
 have nw:Nw (C.ge env) ae.heap.objs.size:=aq.inv.nw (Nat.le_refl _)
 have uG:=aK aq (Nat.le_refl ae.heap.objs.size)
 have hnew:aw.get? ae.heap.objs.size=none:=by
  cases z:aw.get? ae.heap.objs.size with
  | none=>rfl
  | some o=>
   obtain⟨o',z'⟩:=h2 _ _ z
   obtain⟨o'',z'',_⟩:=am.ext ae.heap.objs.size o' (λw=>by rw[hz _ w,g.frG]at z;cases z) (by rw[jy.h];exact z')
   rw[uG]at z'';cases z''
 have jQ:ay (C.ge env) env _ _:=sJ.ext an.ext
 have tl:∃o,(ae.heap.push { cls:=.type "list_iterator",data:=.fields #[.ref l,.int 0 0] }).get? env.locals=some o:=by
  obtain⟨ml,⟨o,es,ep,ho,_⟩,_⟩:=jQ.ns
  exact⟨o,ho⟩
 have L02:aZ (cU qo env) cH aj:=am
 have x:lu C env S' aw ae.heap.objs.size l { aj with h:=ae.heap.push { cls:=.type "list_iterator",data:=.fields #[.ref l,.int 0 0] } } { ae with heap:=ae.heap.push { cls:=.type "list_iterator",data:=.fields #[.ref l,.int 0 0] },toks:=ae.toks } [(6,.none)] gV:=by
  refine⟨au,⟨_,⟨⟨.inl g.sP,λb hb=>?_⟩,jQ,λi d h=>?_,(λi l h=>by cases h),(λi l h=>by cases h),(λi j o o' b h=>by cases h),(λi o b h=>by cases h),List.nodup_nil⟩⟩,⟨0,its,⟨_,Heap.get?_push_size _ rfl,rfl,rfl⟩,bo xT an.ext (λz=>g.lH.2.1 z),?_,nw,?_⟩,hnew,hfl,λi d h=>?_⟩
  ·rcases hb with hb|⟨i,o,h,_⟩
   ·rcases g.so b hb with rfl|rfl
    ·obtain⟨o,ho⟩:=g.ck.ok.Pin;exact au.inv.old.there _ _ ho
    ·exact tl
   ·cases h
  ·rw[List.lookup_cons]at h
   split at h
   ·rename_i z;cases h
    rw[beq_iff_eq.mp z]
    exact⟨nm "last_interval",.none,by decide +kernel,by unfold bM;rw[if_pos rfl],rfl⟩
   ·cases h
  ·exact av.flat (Nat.le_trans am.k an.k) (λt ht=>(an.g t (Nat.lt_of_lt_of_le ht am.k)).trans (am.g t ht)) hfl hr
  ·exact λz=>by obtain⟨o,ho,_⟩:=xT;rw[z,uG]at ho;cases ho
  ·rw[List.lookup_cons]at h
   split at h
   ·cases h;rfl
   ·cases h
 have zG:Zg C aw aV.heap env.locals:=.inr ⟨g.frG,λo e=>by
  obtain⟨ml,⟨o',es,ep,ho,hd,_⟩,_⟩:=fr.ns
  rw[jy.h,e]at ho;cases ho
  exact .inr ⟨es,ep,hd⟩⟩
 refine xO g q gV row hi 13 none (Nat.le_refl _) (λk=>by simp) _ _ cH _ aV x ⟨jy,hk,(am.sub λb hb=>by rw[hz b hb];exact zG).trans (an.leX (.inl rfl)),λb hb=>?_⟩ rfl
 rcases hb with rfl|rfl|rfl
 ·exact .inl rfl
 ·exact zG
 ·refine .inr ⟨hnew,λo e=>?_⟩
  obtain⟨o',z,_⟩:=am.ext ae.heap.objs.size o (λw=>by
   obtain⟨ml,⟨o',es,ep,ho,hd,_⟩,_⟩:=sJ.ns
   rw[←hz _ w,uG]at ho;cases ho) (by rw[jy.h];exact e)
  rw[uG]at z;cases z
end
section
variable{C:Cx}{s s':Shared}
theorem ny.setGen(I:ny C s){g:Nat}{x:GenState}(hx:x.bare=true):ny C (s.setGen g x):=⟨I.old,I.ext,I.os,λy hy=>(Array.mem_or_eq_of_mem_setIfInBounds hy).elim (I.bare y) λe=>e▸hx,I.tab,I.fr⟩
theorem oP{g i:Nat}{x z:GenState}(h:i≠g)(e:s.gens[i]?=some z):(s.setGen g x).gens[i]?=some z:=by
 simp only[Shared.setGen]
 rw[Array.getElem?_setIfInBounds_ne (Ne.symm h)];exact e
end
noncomputable abbrev mkK (p:Params):Kd:=(mkFd p).scope.names
abbrev eD(acc:List Int):List (Nat×Ob):=[(30,.list (acc.map (D.int true)))]
structure MC(C:Cx)(env:Env)(S' H:Addr→Prop)(aB:Wd)(g:Nat)(ga:Addr):Prop where
 ck:CK C
 ag:Ag (mkK C.w.params) env
 own:bv C (mkK C.w.params) S' env
 ko:∀y,env.kindOf y=(mkK C.w.params).lookup y
 sP:S' C.P
 hH:∀b,S' b→H b
 h4:∀b,H b→∃o,aB.h.get? b=some o
 g4:aB.gn.size≤g
 ga4:aB.h.get? ga=none
 gan:Nw C ga
def Mu(C:Cx)(env:Env)(S' H:Addr→Prop)(b:Addr):Prop:=(H b∧¬S' b)∨b=C.P∨b=env.locals
structure MS(C:Cx)(env:Env)(S' H:Addr→Prop)(aB:Wd)(g:Nat)(ga:Addr)(W:Wd)(s:Shared)(me:Me)(acc:List Int):Prop where
 le:aZ (Mu C env S' H) aB W
 si:∃m ad,SI C TT (mkK C.w.params) S' W env m ad ⟨me,eD acc⟩∧∀b,hid S' ad (eD acc) b→H b∨aB.h.get? b=none
 fl:∀i d,me.lookup i=some d→flat d=true
 gen:W.h.IsGen ga g
section
variable{C:Cx}{env:Env}{S' H:Addr→Prop}{aB:Wd}{g:Nat}{ga:Addr}{W W':Wd}{s ak:Shared}{me:Me}{acc:List Int}
theorem MC.nc(c:MC C env S' H aB g ga):∀y,env.kindOf y≠some .cell∧env.kindOf y≠some .free:=λy=>by
 rw[c.ko];exact dT (K:=mkK C.w.params) (by rfl) y
theorem zm{me:Me}(fl:∀i d,me.lookup i=some d→flat d=true):xJ ⟨me,eD acc⟩:=⟨fl,λi o h=>by
 rw[List.lookup_cons]at h
 split at h
 ·cases h;exact⟨_,rfl,λd hd=>by obtain⟨_,_,rfl⟩:=List.mem_map.mp hd;rfl⟩
 ·cases h⟩
theorem MS.gen'(x:MS C env S' H aB g ga W s me acc)(c:MC C env S' H aB g ga)(a:At C W s)(r:pV (Zg C aB.h s.heap) s ak)(hg:∀(i:Nat) (z:GenState),i≠g→s.gens[i]?=some z→ak.gens[i]?=some z)(hP:∃o,ak.heap.get? C.P=some o):
  MS C env S' H aB g ga { W with h:=ak.heap,k:=ak.toks,gn:=ak.gens } ak me acc:=by
 obtain⟨m,ad,si,hh⟩:=x.si
 have hC:=c.ck.ok
 have k:Kp (Zg C aB.h s.heap) W.h ak.heap:=by rw[a.h];exact r.kp
 have hk:W.k≤ak.toks:=Nat.le_trans a.k r.tk
 have nz4:∀b,(∃o,aB.h.get? b=some o)→Zg C aB.h s.heap b→b=C.P:=λb ⟨o,e⟩ q=>q.elim id λq=>by rw[q.1]at e;cases e
 have nl:¬Zg C aB.h s.heap env.locals:=λq=>si.fr.nP (nz4 _ (c.h4 _ (c.hH _ c.own.locS)) q)
 have npb:∀i l,(eD acc).lookup i=some (.list l)→¬Zg C aB.h s.heap (ad i).pb:=λi l h q=>by
  obtain⟨_,k2,_,_⟩:=si.out i _ _ h rfl
  rcases q with q|⟨q1,q2⟩
  ·exact k2.nP hC q
  ·obtain⟨_,its,_,_,_,_,⟨n,e⟩,_⟩:=si.ls i l h
   rw[a.h]at e
   rcases q2 _ e with q|⟨es,n',q⟩
   ·injection q with q;exact absurd q (by decide)
   ·cases q
 refine⟨?_,⟨m,ad,si.over (zm x.fl) c.nc k hk (λ_ _=>rfl) nl npb c.sP λb hb=>?_,hh⟩,x.fl,?_⟩
 ·refine⟨x.le.ext.fresh k λb hb=>?_,Nat.le_trans x.le.k hk,x.le.g,λcv q ne h=>r.cr cv q ne (by rw[←a.h];exact x.le.cr cv q ne h),λi z h=>hg i z (λq=>?_) (by rw[←a.gn];exact x.le.gn i z h)⟩
  ·rcases hb with hb|hb
   ·exact .inl (.inr (.inl hb))
   ·exact .inr hb.1
  ·rw[q,Array.getElem?_eq_none c.g4]at h;cases h
 ·by_cases e:b=C.P
  ·rw[e];exact hP
  ·obtain⟨o,ho⟩:=si.sx.2 b (.inl hb)
   exact k.there (λq=>e (nz4 _ (c.h4 _ (c.hH _ hb)) q)) ho
 ·obtain⟨o,nm',qn,ho,hc,hd,hsl⟩:=x.gen
  refine⟨o,nm',qn,k.ex (λq=>?_) ho (λ_ _=>by rw[hd];nofun),hc,hd,hsl⟩
  rcases q with q|⟨_,q⟩
  ·exact c.gan.nP hC q
  ·rw[a.h]at ho
   rcases q _ ho with q|⟨es,n,q⟩
   ·rw[hc]at q;injection q with q;exact absurd q (by decide)
   ·rw[hd]at q;cases q
end
abbrev EX:List Y:=[.aug 28 (.var 17),.ite (.cmp .gt (.var 28) (.const (.int true 12))) [.ret (.var 30)] [],.append 30 (.var 28)]
theorem zn{acc:List Int}{mn i:Int}(hl:acc.length≤1000):bC wR 9 EX ⟨put 17 (.int false i) [(28,.int true mn)],eD acc⟩ =
  if mn+i>12 then some (.ret (.list (acc.map (D.int true))))else some (.next ⟨[(28,.int true (mn+i)),(17,.int false i)],eD (acc++[mn+i])⟩):=by
 have h1:acc.length≤100000:=by omega
 by_cases q:mn+i>12
 ·simp[bC,ex,ev,evS,dF,put,aS,thaw,eE,ud,dm,a9,aC,flat,q,List.lookup]
 ·simp[bC,ex,ev,evS,dF,put,aS,dY,dm,a9,aC,q,List.lookup,h1]
section
variable{C:Cx}{env:Env}{S' H:Addr→Prop}{aB:Wd}{g:Nat}{ga:Addr}{W W':Wd}{s ak s':Shared}{me me':Me}{acc acc':List Int}{A:Around}{E:Value→Shared→Prop}{R:Nat}
def Zm(C:Cx)(env:Env)(ad:Nat→LA)(b:Addr):Prop:=b=C.P∨b=env.locals∨b=(ad 30).pb
theorem xU(c:MC C env S' H aB g ga){ad:Nat→LA}:∀b,ZZ C (mkK C.w.params) env ad (eD acc) b→Zm C env ad b:=λb hb=>by
 rcases hb with(h|h|⟨y,h,_⟩)|⟨i,o,h1,h2⟩
 ·exact .inl h
 ·exact .inr (.inl h)
 ·exact((dT (K:=mkK C.w.params) (by rfl) y).1 h).elim
 ·rw[List.lookup_cons]at h1
  split at h1
  ·rename_i q;cases h1
   rw[beq_iff_eq.mp q]at h2
   exact .inr (.inr h2.symm)
  ·cases h1
theorem v6:(eD acc).lookup 30=some (.list (acc.map (D.int true))):=rfl
theorem xV{m:Str→Option Value}{ad:Nat→LA}(si:SI C TT (mkK C.w.params) S' W env m ad ⟨me,eD acc⟩)(hh:∀b,hid S' ad (eD acc) b→H b∨aB.h.get? b=none):∀b,Zm C env ad b→Mu C env S' H b∨aB.h.get? b=none:=λb hb=>by
 rcases hb with h|h|rfl
 ·exact .inl (.inr (.inl h))
 ·exact .inl (.inr (.inr h))
 ·exact(hh _ (.inr ⟨30,_,v6,rfl⟩)).imp (λq=>.inl ⟨q,(si.out 30 _ _ v6 rfl).1⟩) id
theorem MS.step(x:MS C env S' H aB g ga W s me acc)(c:MC C env S' H aB g ga){m:Str→Option Value}{ad ad':Nat→LA}{m':Str→Option Value}(si:SI C TT (mkK C.w.params) S' W env m ad ⟨me,eD acc⟩)(hh:∀b,hid S' ad (eD acc) b→H b∨aB.h.get? b=none)
  (L:aZ (Zm C env ad) W W') (si':SI C TT (mkK C.w.params) S' W' env m' ad' ⟨me',eD acc'⟩) (hh':∀b,hid S' ad' (eD acc') b→hid S' ad (eD acc) b∨W.h.get? b=none) (fl':∀i d,me'.lookup i=some d→flat d=true):MS C env S' H aB g ga W' s' me' acc':=by
 have hz:=xV si hh
 refine⟨x.le.fresh L hz,⟨m',ad',si',λb hb=>(hh' b hb).elim (hh b) λe=>?_⟩,fl',?_⟩
 ·by_cases q:H b
  ·exact .inl q
  ·exact .inr (x.le.ext.none (λz=>q (z.elim (·.1) λz=>z.elim (λz=>z▸c.hH _ c.sP) λz=>z▸c.hH _ c.own.locS)) e)
 ·obtain⟨o,nm',qn,ho,hc,hd,hsl⟩:=x.gen
  refine⟨o,nm',qn,L.ext.ex (λq=>?_) ho (λ_ _=>by rw[hd];nofun),hc,hd,hsl⟩
  rcases q with q|q|q
  ·exact c.gan.nP c.ck.ok q
  ·obtain⟨o',e⟩:=c.h4 _ (c.hH _ c.own.locS);rw[←q,c.ga4]at e;cases e
  ·obtain⟨_,its,_,_,_,_,⟨n,e⟩,_⟩:=si.ls 30 _ v6
   rw[←q,ho]at e;cases e;cases hd
theorem DF(c:MC C env S' H aB g ga)(a:At C W s){m:Str→Option Value}{ad:Nat→LA}(si:SI C TT (mkK C.w.params) S' W env m ad ⟨me,eD acc⟩)(hh:∀b,hid S' ad (eD acc) b→H b∨aB.h.get? b=none):∀b,Zm C env ad b→Xm C aB.h H s.heap b:=λb hb=>by
 rcases hb with rfl|rfl|rfl
 ·exact .inl rfl
 ·exact .inr (.inl (c.hH _ c.own.locS))
 ·rcases hh _ (.inr ⟨30,_,v6,rfl⟩)with q|q
  ·exact .inr (.inl q)
  ·obtain⟨_,its,_,_,_,_,e,_⟩:=si.ls 30 _ v6
   rw[a.h]at e
   exact .inr (.inr ⟨q,its,e.isList⟩)
def xW(C:Cx)(env:Env)(S' H:Addr→Prop)(aB:Wd)(g:Nat)(ga:Addr)(W:Wd)(s:Shared)(acc:List Int)(mn i:Int)(f:Flow)(s':Shared):Prop:=
 if mn+i>12 then ∃v W',f = .ret v∧aZ (Mu C env S' H) aB W'∧At C W' s'∧aN S' W' (.list (acc.map (D.int true))) v
 else f = .next∧∃W',At C W' s'∧MS C env S' H aB g ga W' s' [(28,.int true (mn+i))] (acc++[mn+i])∧∃Z,aZ Z W W'∧∀b,Z b→Xm C aB.h H s.heap b
theorem zo(c:MC C env S' H aB g ga){mn i:Int}(x:MS C env S' H aB g ga W s [(28,.int true mn)] acc)(a:At C W s)(hR:bB C R A)(h5:5≤R){bs:List Stmt}(hb:nH TT aT (mkK C.w.params) bs EX){q:Pos}{it:Value}{t:Tok}(hl:acc.length≤1000):
  wpAny (model C.prog C.w) A (letOwnedTupleGo (.Name (nm "size") q) it (.int i t)) (λ_ ae=>wpAny (model C.prog C.w) A (assign (.Name (nm "size") q) env (.int i t)) (λ_ ak=>wpAny (model C.prog C.w) A (execs bs env) (xW C env S' H aB g ga W s acc mn i) E ak) E ae) E s:=by
 obtain⟨m,ad,si,hh⟩:=x.si
 have hC:=c.ck.ok
 have hL:=uk hC c.ck.bis R
 refine wpAny_pure ?_
 have O':=hid.up (ad:=ad) (own:=eD acc) c.own
 refine wpAny_mono (iU hC az hR O' a si.sx.1 si.fr (.one (i:=17) (by rfl) (by decide +kernel)) (d:=.int false i) ⟨t,rfl,nofun⟩ (bs:=[(17,.int false i)]) rfl) (λ_ bF ⟨bf,dG,k⟩=>?_) λ_ _ x=>x
 have gv:=si.took (d:=.int false i) (me':=put 17 (.int false i) [(28,.int true mn)]) hC az c.sP c.own k (λj d' h=>by
  rw[aa]at h
  split at h
  ·rename_i e;cases h;exact .inl (by rw[e];exact .head _)
  ·rename_i e;exact .inr ⟨λz=>e (List.mem_singleton.mp z),h⟩) (λj hj z=>by
  rcases List.mem_singleton.mp hj with rfl
  cases z with
  | tail _ z=>cases z)
 have aD:aZ (Zm C env ad) W bf:=k.le.sub λb hb=>by
  rcases hb with h|⟨y,h,_⟩
  ·exact .inr (.inl h)
  ·exact((dT (K:=mkK C.w.params) (by rfl) y).1 h).elim
 have hrun:=zn (acc:=acc) (mn:=mn) (i:=i) hl
 unfold xW
 by_cases hq:mn+i>12
 ·rw[if_pos hq]at hrun
  simp only[if_pos hq]
  refine wpAny_mono ((fS c.ck hL h5 az di 9).2 _ _ _ _ _ _ _ _ S' env dG ad _ hb hrun hR k.at' gv c.ag c.own c.sP) (λf cq ⟨v,ef,W',L',a',r'⟩=>?_) λ_ _ x=>x
  refine⟨v,W',ef,x.le.fresh (aD.trans (L'.sub (xU c))) (xV si hh),a',r'⟩
 ·rw[if_neg hq]at hrun
  simp only[if_neg hq]
  refine wpAny_mono ((fS c.ck hL h5 az di 9).2 _ _ _ _ _ _ _ _ S' env dG ad _ hb hrun hR k.at' gv c.ag c.own c.sP) (λf cq ⟨ef,W',m',ad',L',a',si',hh'⟩=>?_) λ_ _ x=>x
  have L:aZ (Zm C env ad) W W':=aD.trans (L'.sub (xU c))
  refine⟨ef,W',a',x.step c si hh L (si'.forget λi d h=>?_) (λb hb=>(hh' b hb).imp id λe=>?_) (λi d h=>?_),_,L,DF c a si hh⟩
  ·rw[List.lookup_cons]at h ⊢
   split at h
   ·cases h;rfl
   ·cases h
  ·by_cases z:Zm C env ad b
   ·exfalso
    have:∃o,bf.h.get? b=some o:=by
     rcases z with rfl|rfl|rfl
     ·exact gv.sx.2 _ gv.sx.1
     ·exact gv.sx.2 _ (.inl c.own.locS)
     ·exact gv.sx.2 _ (.inr ⟨30,_,v6,rfl⟩)
    obtain⟨o,ho⟩:=this
    rw[e]at ho;cases ho
   ·exact aD.ext.none z e
  ·rw[List.lookup_cons]at h
   split at h
   ·cases h;rfl
   ·cases h
end
section
variable{C:Cx}{env G:Env}{S' SG H:Addr→Prop}{aB:Wd}{g:Nat}{ga l:Addr}{W W':Wd}{s ak s':Shared}{me me':Me}{acc acc' accF:List Int}{A:Around}{E:Value→Shared→Prop}{R:Nat}{outer:List Env}{row:List Int}
def AC(C:Cx)(env G:Env)(S' H:Addr→Prop)(aB:Wd)(g:Nat)(ga:Addr)(A:Around)(outer:List Env)(row accF:List Int)(n:Nat)(s:Shared):Prop:=
 ∃W mn acc gs,At C W s∧MS C env S' H aB g ga W s [(28,.int true mn)] acc∧s.gens[g]?=some gs∧gs.Goes (model C.prog C.w) A.in1 (Rg C row aB.h G outer) (Yg C row aB.h H) n (.send .none) (s.setGen g .running)∧lr row n (14-n) mn acc=some accF∧n≤14∧acc.length=14-n
theorem lR{X:Addr→Prop}{s ae:Shared}{g:Nat}{x:GenState}(r:pV X (s.setGen g .running) ae):pV X s (ae.setGen g x):=⟨r.kp,r.tk,r.cr⟩
theorem zp(c:MC C env S' H aB g ga)(hR:bB C R A)(h6:6≤R){bs:List Stmt}(hb:nH TT aT (mkK C.w.params) bs EX){q:Pos}{Q:Flow→Shared→Prop}(hPo:PassesOwn (model C.prog C.w) A env E)
  (hret:∀v W' s',aZ (Mu C env S' H) aB W'→At C W' s'→aN S' W' (.list (accF.map (D.int true))) v→Q (.ret v) s')
  (hnext:∀W' s' mn,At C W' s'→MS C env S' H aB g ga W' s' [(28,.int true mn)] accF→Q .next s')
  (hraise:∀e ak W₂ h' lf a0 mn acc,accF=[0]→At (C.ge G) W₂ ak→MS C env S' H aB g ga W₂ ak [(28,.int true mn)] acc→(∀b∈lf,(C.ge G).fa b)→(hideAll ak.heap lf).FlyingW outer e (.type "ValueError") a0 h'→ak.heap.UpToSlots h'→E (.ref e) { ak with heap:=h' })
  {s:Shared} (hI:AC C env G S' H aB g ga A outer row accF 14 s) :
  codeAny (model C.prog C.w) A (.forLoop (.Name (nm "size") q) (.ref ga) bs [] env) (λr s'=>match r with | .ok f=>Q f s' | .error e=>cameBackBy (model C.prog C.w) A env E e s') s:=by
 refine codeAny_forLoop_any (AC C env G S' H aB g ga A outer row accF) ?_ 14 hI
 rintro n s ⟨W,mn,acc,gs,a,x,hgs,hgo,hrun,hn,hacc⟩
 have hC:=c.ck.ok
 cases n with
 | zero=>cases hrun
 | succ m=>
 have e13:14-(m+1)=13-m:=by omega
 have hgen:s.heap.IsGen ga g:=by rw[←a.h];exact x.gen
 have hk0:∀{ae:Shared} {y:GenState},GK (s.setGen g .running) ae→∀(i:Nat) (z:GenState),i≠g→s.gens[i]?=some z→(ae.setGen g y).gens[i]?=some z:=λgk i z h e=>oP h (gk i z (oP h e))
 unfold lr at hrun
 rw[e13]at hrun
 refine wpAny_passesOwn hPo (zh (A:=A) hR.r.1 (a.noLimit hC) hR.r.depth hgen hgs hgo (λv ae gs' hbare hY=>?_) (λr ae hr=>?_))
 ·obtain⟨i,t,he,rfl,r,gk,I',hk⟩:=hY
  rw[show m+1-1=m from rfl]at he hk
  rw[he]at hrun
  dsimp only at hrun
  have au:=pV.to a (lR (x:=gs') r) (I'.setGen hbare)
  have zq:=x.gen' c a (lR (x:=gs') r) (hk0 gk) (let ⟨_,ho⟩:=hC.Pin;I'.old.there _ _ ho)
  refine wpAny_passesOwn hPo (wpAny_mono (zo c zq au hR (by omega) hb (by omega)) (λ_ bF gI=>wpAny_passesOwn hPo (wpAny_mono gI (λ_ cq qB=>wpAny_passesOwn hPo (wpAny_mono qB (λf cu jp=>?_) λ_ _ x=>x)) λ_ _ x=>x)) λ_ _ x=>x)
  unfold xW at jp
  by_cases hq:mn+i>12
  ·simp only[if_pos hq]at jp hrun
   cases hrun
   obtain⟨v,W',rfl,L,a',rv⟩:=jp
   exact hret v W' cu L a' rv
  ·simp only[if_neg hq]at jp hrun
   obtain⟨rfl,W',a',x',Z,L,hZ⟩:=jp
   have hm0:0<m:=by
    cases m with
    | zero=>cases hrun
    | succ m=>exact Nat.succ_pos m
   have hg1:ae.gens[g]?=some .running:=gk g _ (setGen_self hgs)
   have hg2:(ae.setGen g gs').gens[g]?=some gs':=setGen_self hg1
   refine⟨m,Nat.lt_succ_self _,W',mn+i,acc++[mn+i],gs',a',x',?_,?_,?_,by omega,?_⟩
   ·rw[←a'.gn];exact L.gn g gs' hg2
   ·refine hk hm0 _ ⟨?_,?_,?_⟩ (a'.inv.setGen rfl)
    ·have:=L.ext.sub hZ
     rw[a'.h]at this
     exact this
    ·show ae.toks≤cu.toks
     exact Nat.le_trans L.k a'.k
    ·intro cv q ne h
     have:=L.cr cv q ne h
     rw[a'.h]at this
     exact this
   ·rw[show 14-m=13-m+1 by omega];exact hrun
   ·rw[List.length_append,hacc];simp;omega
 ·rcases hr with⟨he,rfl,r,gk,I'⟩|⟨he,e,rfl,ak,h',lf,a0,r,gk,pA,rfl,hl,hfl,hu⟩
  ·rw[e13]at he
   rw[he]at hrun
   cases hrun
   refine .inl ⟨rfl,λh' hx=>wpAny_execs_nil ?_⟩
   have bE:pV (Zg C aB.h s.heap) s { ae.setGen g .finished with heap:=h' }:=⟨r.kp.trans (Kp.of λb o _ e=>hx b o e),r.tk,λcv q ne h=>(r.cr cv q ne h).keeps hx⟩
   have pA:ny C { ae.setGen g .finished with heap:=h' }:=(I'.setGen (g:=g) (x:=.finished) rfl).keep (tk:=ae.toks) (d:=ae.drawn) hx
   exact hnext _ _ mn (pV.to a bE pA) (x.gen' c a bE (hk0 (y:=.finished) gk) (let ⟨_,ho⟩:=hC.Pin;pA.old.there _ _ ho))
  ·rw[e13]at he
   rw[he]at hrun
   cases hrun
   have nO:ny (C.ge G) (ak.setGen g .finished):=pA.setGen rfl
   have zq:=x.gen' c a (lR (x:=.finished) r) (hk0 gk) (let ⟨_,ho⟩:=hC.Pin;nO.old.there _ _ ho)
   have au:=pV.to (C':=C.ge G) a (lR (x:=.finished) r) nO
   refine .inr ⟨e,rfl,?_,?_,hraise e _ _ h' lf a0 mn acc rfl au zq hl hfl hu⟩
   ·obtain⟨o,nm',qn,ho,hc,hd,hsl⟩:=zq.gen
    refine⟨o,nm',qn,hfl.1 ga o (hideAll_get lf ho λz=>?_),hc,hd,hsl⟩
    obtain⟨_,o',es,n,e',d'⟩:=pA.fr ga (hl _ z)
    have ho':ak.heap.get? ga=some o:=ho
    rw[ho']at e';cases e';rw[hd]at d';cases d'
   ·obtain⟨ob,hob,hobc⟩:=hfl.there
    exact⟨ob,hob,hobc⟩
end
theorem rS{C:Cx}(x:CK C):eM C 140 (mkFd C.w.params) (aR (mkFd C.w.params)) [nm "row"]:=
 bV x rfl rfl (by decide) rfl rfl (nJ λ_=>by kernel_rfl) rfl rfl rfl rfl rfl rfl
theorem uH(p:Params):aW (mkFd p).scope []=true∧[nm "row"].all (cK (mkFd p).scope.names)=true:=⟨by rfl,by rfl⟩
theorem zr:[29].map (TT[·]?)=[nm "row"].map some:=by decide +kernel
theorem DG{C:Cx}(x:CK C):∃o,C.base.get? 56=some o∧o.data = .func (giFd C.w.params):=⟨_,x.kin _ _ rfl,rfl⟩
theorem zt{C:Cx}(x:CK C):∀h,Heap.ExtBut C.P C.base h→h.CodeRec (giFd C.w.params).code (giFd C.w.params).qualname:=λh hx=>
 codeRec_of (K:=KK C.w.params) (λb o e=>hx b o (λq=>by rw[q,x.P]at e;cases e) (x.kin b o e)) (by rfl)
theorem zu(p:Params):∀vals:List Value,vals.length=[nm "grouping"].length→bindArgs (giFd p) ⟨vals,[]⟩=pure ([nm "grouping"].zip vals):=nJ λ_=>by kernel_rfl
theorem AD(p:Params):aW (giFd p).scope []=true∧[nm "grouping"].all (cK (giFd p).scope.names)=true:=⟨by rfl,by rfl⟩
section
variable{C:Cx}{W:Wd}{s:Shared}{S:Addr→Prop}{A:Around}{E:Value→Shared→Prop}{R:Nat}
theorem At.setG(a:At C W s){g:Nat}{x:GenState}(hx:x.bare=true):At C { W with gn:=(s.setGen g x).gens } (s.setGen g x):=⟨a.h,a.pos,a.k,a.inv.setGen hx,rfl⟩
theorem At.gen(a:At C W s){o:Obj}{y:GenState}(hy:y.bare=true){tk:Nat}(htk:s.toks≤tk):
  At C { W with h:=s.heap.push o,k:=tk,gn:=s.gens.push y } { s with gens:=s.gens.push y,toks:=tk,heap:=s.heap.push o }∧Le C W { W with h:=s.heap.push o,k:=tk,gn:=s.gens.push y }:=by
 have hk:∀b o',s.heap.get? b=some o'→(s.heap.push o).get? b=some o':=bt s.heap o
 have I:=a.inv.keep (tk:=tk) (d:=s.drawn) hk
 refine⟨⟨rfl,Nat.lt_of_lt_of_le a.pos (Nat.le_trans a.k htk),Nat.le_refl _,⟨I.old,I.ext,I.os,AllBare.push a.inv.bare hy,I.tab,I.fr⟩,rfl⟩,
  ⟨.of λb o _ e=>hk _ _ (by rw[←a.h];exact e),Nat.le_trans a.k htk,λ_ _=>rfl,λcv q _ h=>h.keeps λb o e=>hk _ _ (by rw[←a.h];exact e),λi z h=>?_⟩⟩
 rw[a.gn]at h
 show(s.gens.push y)[i]?=some z
 rw[Array.getElem?_push]
 split
 ·rename_i q;rw[q,Array.getElem?_eq_none (Nat.le_refl _)]at h;cases h
 ·exact h
theorem tR(x:CK C)(xv:kQ C)(h7:7≤R){gV:List D}{row accF:List Int}(hi:gx gV=some row)(hrun:lr row 14 0 0 []=some accF)(hR:bB C (R+1) A)(hA:At C W s)(hS:SX C S W.h){vs:List Value}(hr:av S W [.list gV] vs):
  wpAny (model C.prog C.w) A (call (.ref 140) vs) (be C S W (.list (accF.map (D.int true)))) E s:=by
 have hvl:vs.length=[nm "row"].length:=hr.length
 obtain⟨outer,hfr,ho⟩:=hR.fr (by omega)
 refine wpAny_call (pq x.ok (rS x) (uH _).1 (by decide +kernel) (List.all_eq_true.mp (uH _).2) hvl hA hS hR.r λenv ae aj mm S' hmm en b6=>?_)
 have vars:bO TT S' aj mm ([29].zip [.list gV]):=fP zr ((av.grow en.gr _ hr).le en.le (en.sup _ hS.1)) hvl hmm
 have hh:∀b,hid S' xK ([]:List (Nat×Ob)) b→S' b:=λb hb=>hb.elim id λ⟨i,l,h,_⟩=>by cases h
 generalize hfa':(λb=>b=env.locals∨C.fa b)=fa'
 have aq:At (C.wi fa') aj ae:=At.with (C:=C) (fa:=C.fa) en.at' hfa'.symm en.own.locN en.fr
 have rD:∀e∈env::outer,e.scope.kind ≠ .module∧∃L,e.frame=some L∧(C.wi fa').fa L:=λe he=>by
  rcases List.mem_cons.mp he with rfl|he
  ·exact⟨by rw[en.fr.kind];nofun,_,en.frm,by show fa' _;rw[←hfa'];exact .inl rfl⟩
  ·obtain⟨k1,L,k2,k3⟩:=ho e he
   exact⟨k1,L,k2,by show fa' L;rw[←hfa'];exact .inr k3⟩
 have fb:bB (C.wi fa') R (A.deeper env):=⟨b6,λq=>⟨env::outer,Around.frames_deeper hfr,rD⟩⟩
 have si:SI (C.wi fa') TT (mkK C.w.params) S' aj env mm xK ⟨[29].zip [.list gV],[]⟩:=
  ⟨⟨.inl (en.sup _ hS.1),λb hb=>en.sx.2 b (hh b hb)⟩,en.fr.wi,λi d h=>let ⟨y,v,e1,e2,e3⟩:=vars i d h;⟨y,v,e1,e2,aN.sub hh _ e3⟩,λi l h=>(by cases h),λi l h=>(by cases h),λi j o o' b h=>(by cases h),λi o b h=>(by cases h),List.nodup_nil⟩
 have x2:=x.wi fa'
 have xv2:=xv.wi fa'
 have hL2:=uk x2.ok x2.bis R
 have own:=en.own.wi (fa:=fa')
 have hSP:=en.sup _ hS.1
 obtain⟨s1,s2,b1,b2,b3,b4,b5,body,hp,np,hx1,rp,tp,fp,last,eb,c12,cb,ch,cl,_⟩:=zj C.w.params
 rw[eb]
 have h12:=(dg TT aT 60).2 _ _ _ c12
 have hbd:=(dg TT aT 60).2 _ _ _ cb
 have hlast:=(dg TT aT 60).2 _ _ _ cl
 have hlv:=fS x2 hL2 (by omega) az di
 obtain⟨hs1,hs2⟩:CY TT aT (mkK C.w.params) s1 (.fresh 30 [])∧CY TT aT (mkK C.w.params) s2 (.assign 28 (.const (.int true 0))):=by
  cases h12 with
  | cons h1 h=>cases h with
   | cons h2 _=>exact⟨h1,h2⟩
 refine wpAny_execs_cons (wpAny_mono ((hlv 3).1 _ _ _ _ (.next ⟨[(29,.list gV)],[(30,.list [])]⟩) _ _ _ S' env mm xK _ hs1 (by simp[ex,bn,aS,nz]) fb aq si en.ag own hSP) (λf ak ⟨ef,W₂,Bu,DH,an,au,AE,DI⟩=>?_) λ_ _ x=>x)
 subst ef
 refine wpAny_execs_cons (wpAny_mono ((hlv 5).1 _ _ _ _ (.next ⟨[(29,.list gV),(28,.int true 0)],[(30,.list [])]⟩) _ _ _ S' env Bu DH _ hs2 (by simp[ex,evS,dF,ev,aS,put]) fb au AE en.ag own hSP) (λf bF q=>?_) λ_ _ x=>x)
 have q':=mH own hSP an AE DI q
 obtain⟨ef,bf,dG,bY,aD,aO,gv,DJ⟩:=q'
 subst ef
 refine wpAny_execs_cons (wpAny_Try_except (wpAny_execs_cons ?_))
 obtain⟨o56,e3,e5⟩:=DG x
 have e4:(56:Addr)≠(C.wi fa').P:=by show 56≠C.P;rw[x.P];decide
 have hmg:C.mg (nm "_grouping_intervals")=some (.ref 56):=mg_of x.kin x.ok.g (by rfl)
 have xD:=gv.envok en.ag
 have hrow:CL TT aT (mkK C.w.params) [.Name (nm "row") b3] [.var 29]:=(jc TT aT 60).2.2.1 _ _ _ (by rfl)
 refine wpAny_For (wpAny_Call_NameR (wpAny_Name (md x2.ok aO xD (by rfl) hmg ?_) (by decide))) (λx=>rfl)
 refine Calls.callWith_function (o:=o56) (fd:=giFd C.w.params) (fg (ba hL2 az 4).1 x2.ok rfl fb hrow (ds:=[.list gV]) (by simp[bn,ev,List.lookup]) aO gv.sx xD λus cq aB aU bH dH kK=>⟨⟨bH.inv.ext _ _ e4 e3,e5⟩,?_⟩)
 have hul:us.length=[nm "grouping"].length:=kK.length
 obtain⟨u,us',rfl,ru,rus⟩:=kK
 cases rus
 obtain⟨l,its,rfl,nl,hl,rl⟩:=ru
 have hC:=x2.ok
 have hPt:∃o,aB.h.get? C.P=some o:=fR (C:=C.wi fa') hC bH
 refine wpAny_call (codeAny_call_generator fb.r.depth (bH.inv.ext _ _ e4 e3) e5 rfl rfl rfl (zt x _ bH.inv.ext) ?_)
 change wpAny _ _ (bindArgs (giFd C.w.params) ⟨[Value.ref l],[]⟩) _ _ _
 rw[zu _ _ hul]
 refine wpAny_pure (oH (S:=(· = C.P)) hC rfl rfl rfl (AD _).1 (by decide +kernel) (List.all_eq_true.mp (AD _).2) hul bH ⟨rfl,λb hb=>hb▸hPt⟩ λG cu dI mg SG hmg en5=>⟨en5.at'.noLimit hC,?_⟩)
 obtain⟨eG,L56⟩:=en5.at'.gen (o:={ cls:=.type "generator",data:=.fields #[.int cu.gens.size 0,.str (giFd C.w.params).name cu.toks,.str (giFd C.w.params).qualname (cu.toks+1)] }) (y:=.fresh (.func (aR (giFd C.w.params)) G)) rfl (tk:=cu.toks+1+1) (by omega)
 have L46:=en5.le.trans L56
 have hga:(cu.heap.push { cls:=.type "generator",data:=.fields #[.int cu.gens.size 0,.str (giFd C.w.params).name cu.toks,.str (giFd C.w.params).qualname (cu.toks+1)] }).IsGen cu.heap.objs.size cu.gens.size:=⟨_,_,_,Heap.get?_push_size _ rfl,rfl,rfl,rfl⟩
 refine wpAny_pyIter_gen hga ?_
 have nwg:Nw (C.wi fa') cu.heap.objs.size:=en5.at'.inv.nw (Nat.le_refl _)
 have g4:aB.gn.size≤cu.gens.size:=by
  rcases Nat.lt_or_ge cu.gens.size aB.gn.size with h|h
  ·have:=en5.le.gn _ _ (Array.getElem?_eq_getElem h)
   rw[en5.at'.gn,Array.getElem?_eq_none (Nat.le_refl _)]at this;cases this
  ·exact h
 generalize hH:(λb=>hid S' bY [(30,Ob.list [])] b)=H
 have HS:∀b,S' b→H b:=λb hb=>by rw[←hH];exact .inl hb
 have H4:∀b,H b→∃o,aB.h.get? b=some o:=λb hb=>by rw[←hH]at hb;exact dH.2 b hb
 have c:MC (C.wi fa') env S' H aB cu.gens.size cu.heap.objs.size:=⟨x2,en.ag,own,en.ko,hSP,HS,H4,g4,bu hC en5.le (nwg.nP hC) (aK en5.at' (Nat.le_refl _)),nwg⟩
 have hl2:∃o,aB.h.get? l=some o:=let ⟨o,e,_⟩:=hl;⟨o,e⟩
 have hgc:∀y,G.cells.lookup y=none:=λy=>by rw[en5.ceq];rfl
 have so:∀b,SG b→b=C.P∨b=G.locals:=λb hb=>by
  rcases en5.only b hb with h|h|⟨y,h⟩
  ·exact .inl h
  ·exact .inr h
  ·rw[hgc]at h;cases h
 have gE:oO (C.wi fa') G SG aB.h H (env::outer) (A.deeper env).in1 l:=⟨x2,xv2,en5.ag,en5.own.wi,en5.ko,en5.fr.kind,by rw[en5.sco];rfl,en5.frm,en5.sup _ rfl,so,en5.frl,H4,⟨by rw[←hH];exact nl,λz=>nl (z ▸ .inl hSP),hl2⟩,
  bl.low (n:=5) (((b6.le h7).in1).deeper G),Around.frames_deeper hfr,rD⟩
 have mu4:∀b,Mu (C.wi fa') env S' H b→b=C.P∨W.h.get? b=none:=λb hb=>by
  have old:b≠C.P→aj.h.get? b=none→W.h.get? b=none:=λn e=>en.le.ext.none n e
  by_cases hbP:b=C.P
  ·exact .inl hbP
  ·rcases hb with⟨h1,h2⟩|h|h
   ·rw[←hH]at h1
    rcases DJ b h1 with q|q
    ·exact absurd (hh b q) h2
    ·exact .inr (old hbP q)
   ·exact .inl h
   ·exact .inr (h▸en.frl)
 have z1:∀b,ZZ (C.wi fa') (mkK C.w.params) env xK [] b→b=C.P∨W.h.get? b=none:=λb hb=>by
  rcases hb with(h|h|⟨y,h,_⟩)|⟨i,o,h,_⟩
  ·exact .inl h
  ·exact .inr (h▸en.frl)
  ·exact((dT (K:=mkK C.w.params) (by rfl) y).1 h).elim
  ·cases h
 have L14:aZ (· = C.P) W aB:=((en.le.leX (X:=(· = C.P)) rfl).fresh aD z1).trans (aU.leX (X:=(· = C.P)) rfl)
 have fin:∀{W':Wd},aZ (Mu (C.wi fa') env S' H) aB W'→Le C W W':=λL=>by
  have:=L14.fresh L mu4
  exact⟨this.ext,this.k,this.g,this.cr,this.gn⟩
 refine zp (C:=C.wi fa') (row:=row) (accF:=accF) (outer:=env::outer) (G:=G) c fb (by omega) hbd PassesOwn.looking (λv W' s' L a' rv=>?_) (λW' s' mn a' x'=>?_) (λe DK AF h' lf a0 mn acc hacc a' x' hlf hfl hu=>?_) ?_
 ·exact⟨W',fin L,At.less (C:=C) (fa:=C.fa) a' (λb hb=>by rw[←hfa'];exact .inr hb),aN.sub en.sup _ rv⟩
 ·refine wpAny_execs_nil (wpAny_execs_nil ?_)
  obtain⟨m',ad',si',hh'⟩:=x'.si
  refine wpAny_mono ((hlv 6).2 _ _ _ _ (.ret (.list (accF.map (D.int true)))) _ _ _ S' env m' ad' _ hlast (by simp[bC,ex,evS,dF,ev,thaw,eE,ud,flat,List.lookup]) fb a' si' en.ag own hSP) (λf s'' ⟨v,ef,W'',L'',a'',r''⟩=>?_) λ_ _ x=>x
  subst ef
  refine⟨W'',fin (x'.le.fresh (L''.sub (xU c)) (xV si' hh')),At.less (C:=C) (fa:=C.fa) a'' (λb hb=>by rw[←hfa'];exact .inr hb),aN.sub en.sup _ r''⟩
 ·subst hacc
  refine wpAny_looks_onW (Around.frames_deeper hfr) en.frm hfl λjp pO xG=>wpAny_landsW pO λsK mX xH=>?_
  obtain⟨eG,cY⟩:=At.over (C:=C) (fa':=((C.wi fa').ge G).fa) x.ok a' hlf mX.1 ((hu.trans xG).trans xH)
  obtain⟨m',ad',si',hh'⟩:=x'.si
  have BP:bG (C.wi ((C.wi fa').ge G).fa) TT (mkK C.w.params) S' { AF with h:=sK } env m' []:=⟨(si'.fr.wi (fa:=((C.wi fa').ge G).fa)).ext cY.ext,en.ag,.nil⟩
  obtain⟨ob,hob,hobc⟩:=mX.there
  refine wpAny_handleBy_builtin (b:=true) PySem.F.isExc_ValueError PySem.F.notTuple_ValueError excClass_ValueError.self (wpAny_Name (jM (C:=C.wi ((C.wi fa').ge G).fa) x.ok.wi eG BP (by rfl) xv.ve.1 xv.ve.2 ⟨rfl,⟨ob,hob,hobc⟩,?_⟩) (by decide))
  rw[if_pos rfl]
  refine lands_againW mX λBQ xI BR=>?_
  obtain⟨fL,cM⟩:=At.over (C:=C) (fa':=((C.wi fa').ge G).fa) x.ok a' hlf xI.1 (((hu.trans xG).trans xH).trans BR)
  have Fl:bG (C.wi ((C.wi fa').ge G).fa) TT (mkK C.w.params) S' { AF with h:=BQ } env m' []:=⟨(si'.fr.wi (fa:=((C.wi fa').ge G).fa)).ext cM.ext,en.ag,.nil⟩
  have EY:SX (C.wi ((C.wi fa').ge G).fa) S' BQ:=⟨hSP,λb hb=>by
   by_cases e:b=C.P
   ·rw[e];exact fR (C:=C.wi ((C.wi fa').ge G).fa) x.ok.wi fL
   ·obtain⟨o,ho⟩:=si'.sx.2 b (.inl hb)
    exact cM.ext.there e ho⟩
  refine wpAny_execs_cons (wpAny_Return_some ?_)
  have hce:=(jc TT aT 60).1 _ _ _ ch
  cases hce with
  | list h1=>
  cases h1 with
  | cons h1 h2=>
  cases h2
  cases h1
  rename_i kk pp
  refine wpAny_List ?_
  rw[aA rfl]
  refine Calls.spliced_cons ?_
  refine wpAny_Constant_int (k:=kk) (pos:=pp) ?_
  refine Calls.spliced_nil ?_
  obtain⟨eA,eZ,fK,BS⟩:=be.int (S:=S') fL (i:=0) (Nat.le_refl DK.toks) (a8 _) (Nat.lt_succ_self _) true
  refine⟨by rw[sizeLine_eq];show 1≤_;omega,?_⟩
  obtain⟨EZ,tc,kL,E0⟩:=k7 fK (EY.le x.ok.wi eZ fK) (ds:=[.int true 0]) ⟨_,[],rfl,BS,rfl⟩
  refine⟨EZ,fin ((x'.le.trans (cM.leX (X:=Mu (C.wi fa') env S' H) (.inr (.inl rfl)))).trans ((eZ.trans tc).leX (X:=Mu (C.wi fa') env S' H) (.inr (.inl rfl)))),At.less (C:=C) (fa:=C.fa) kL (λb hb=>.inr (by show fa' b;rw[←hfa'];exact .inr hb)),aN.sub en.sup _ E0⟩
 ·have hPl:l≠C.P:=λz=>nl (z ▸ .inl hSP)
  have DL:=gv.le hC (aU.trans L46) eG
  have E3:=eG.setG (g:=cu.gens.size) (x:=.running) rfl
  have jW:ay (C.wi fa') G _ mg:=en5.fr.ext L56.ext
  have jy:=At.with (C:=C.wi fa') (fa:=fa') (fa':=((C.wi fa').ge G).fa) E3 rfl en5.own.locN jW.wi
  refine⟨_,0,[],.fresh (.func (aR (giFd C.w.params)) G),eG,⟨L46.leX (.inr (.inl rfl)),⟨dG,bY,DL.forget λi d h=>?_,λb hb=>.inl (by rw[←hH];exact hb)⟩,λi d h=>?_,hga⟩,Array.getElem?_push_size ..,?_,hrun,Nat.le_refl _,rfl⟩
  ·rw[List.lookup_cons]at h
   split at h
   ·rename_i z
    cases h
    rw[beq_iff_eq.mp z];rfl
   ·cases h
  ·rw[List.lookup_cons]at h
   split at h
   ·cases h;rfl
   ·cases h
  ·exact⟨rfl,xS gE rfl jy jW (hmg _ _ (.head _)) (bo hl L46.ext hPl) (by exact av.flat (W:=aB) (by exact L46.k) (by exact L46.g) (kS hi) rl) hi λb o e=>by
    by_cases z:b=C.P
    ·rw[z];exact fR (C:=C.wi fa') hC jy.base
    ·obtain⟨o',e',_⟩:=L46.ext b o z e;exact⟨o',e'⟩⟩
theorem xX(x:CK C)(xv:kQ C)(h7:7≤R){ds:List D}{d:D}(h:aI ds=some d):b8 C (R+1) 140 ds d:=by
 unfold aI at h
 split at h
 ·split at h
  ·rename_i l row hi
   cases hr:lr row 14 0 0 []with
   | none=>rw[hr]at h;cases h
   | some acc=>
    rw[hr]at h;cases h
    exact λfa _ _ _ _ _ _ hR hA hS hv=>tR (x.wi fa) (xv.wi fa) h7 hi hr hR hA hS hv
  ·cases h
 ·cases h
theorem xY(x:CK C)(xv:kQ C):∀R ds d,7≤R→aI ds=some d→Fn C (R+1) 8 ds d:=λR ds d h7 h=>
 eC (x:=Str.ofString "_law_marks") (by decide +kernel) (mg_of x.kin x.ok.g (by rfl)) (rS x) (xX x xv h7 h)
end
theorem iY{K:Frag}{h:Heap}{m:Str→Option Value}{a:Addr}{n:Str}(X:K.In h)(G:h.Ns a m)(e:nsIn K a n=some none):m n=none:=by
 obtain⟨o,es,ep,ho,hd,_,hf⟩:=G
 unfold nsIn at e
 split at e
 ·rename_i c d es' n' sl q
  have:=X _ _ q
  rw[ho]at this
  cases this
  cases hd
  split at e
  ·cases e
  ·rename_i he
   rw[←hf]
   unfold nsFind findBy
   rw[←Array.find?_toList,he]
   rfl
 ·cases e
theorem rT{W:Wd}{S:Addr→Prop}:∀{vs:List Value} {ns:List Int},IntsAre vs ns→av S W (ns.map (D.int false)) vs
 | _,_,.nil=>rfl
 | _,_,.cons n t h=>⟨_,_,rfl,⟨t,rfl,nofun⟩,rT h⟩
section
variable{prog:Program}{w:World}{ae:Shared}{mg mb:Str→Option Value}
noncomputable abbrev theC (prog:Program) (w:World) (ae:Shared) (mg mb:Str→Option Value):Cx:=⟨prog,w,ae.heap,100,ae.os,mg,mb,[(oE,Be),(kJ,wW)],λ_=>False⟩
theorem B3(KX:(KK w.params).In ae.heap)(hT:ae.heap.get? 100=some (tabObj #[]))(g:ae.heap.Ns mainGlobals mg)(b:ae.heap.Ns builtinsNs mb)(nl:ae.heap.NoLimit):(theC prog w ae mg mb).Ok:=by
 refine⟨⟨_,hT⟩,g,b,?_,by show mainGlobals≠100;decide,by show builtinsNs≠100;decide,by show cStatics≠100;decide⟩
 obtain⟨mc,h1,h2⟩:=nl
 exact⟨mc,h1,h2,iY KX h1 (by rfl)⟩
theorem B4(KX:(KK w.params).In ae.heap)(hT:ae.heap.get? 100=some (tabObj #[]))(g:ae.heap.Ns mainGlobals mg)(b:ae.heap.Ns builtinsNs mb)(nl:ae.heap.NoLimit)(bui:∀x:Str,x ≠ "__name__" →mb x=bootBuiltins x)
  (bat:ae.heap.BuiltinsAt mg 100):CK (theC prog w ae mg mb):=by
 refine⟨B3 KX hT g b nl,KX,rfl,⟨λx=>⟨?_,?_⟩,⟨iY KX g (by rfl),(bui _ (by decide +kernel)).trans (by rfl)⟩,⟨iY KX g (by rfl),(bui _ (by decide +kernel)).trans (by rfl)⟩,⟨iY KX g (by rfl),(bui _ (by decide +kernel)).trans (by rfl)⟩⟩,codeHd_of_K (K:=KK w.params) (c:=104) (P:=100) KX (by kernel_rfl),bat,hT,rfl⟩
 ·cases x<;>exact iY KX g (by rfl)
 ·cases x<;>exact(bui _ (by decide +kernel)).trans (by rfl)
theorem B5(KX:(KK w.params).In ae.heap)(g:ae.heap.Ns mainGlobals mg)(bui:∀x:Str,x ≠ "__name__" →mb x=bootBuiltins x):kQ (theC prog w ae mg mb):=⟨iY KX g (by rfl),(bui _ (by decide +kernel)).trans (by rfl)⟩
theorem zv(hplain:∀l:List Int,l.length≤63→FF aI 8 17 [.list (l.map (D.int false))]=some (.bool true))
  (KX:(KK w.params).In ae.heap) (hT:ae.heap.get? 100=some (tabObj #[])) (g:ae.heap.Ns mainGlobals mg) (b:ae.heap.Ns builtinsNs mb) (nl:ae.heap.NoLimit) (bui:∀x:Str,x ≠ "__name__" →mb x=bootBuiltins x)
  (bat:ae.heap.BuiltinsAt mg 100) (hg:ae.gens=#[]) (htk:0<ae.toks) {a:Addr} {vals:List Value} {ns:List Int} (hL:ae.heap.IsList a vals.toArray) (hI:IntsAre vals ns) (ha:a≠100) (hlen:ns.length≤63) {E:Value→Shared→Prop} :
  wpAny (model prog w) callerA (call (.ref 191) [.ref a]) (λv s'=>v = .bool true∧OldK ae.heap s'.heap∧s'.os=ae.os∧AllBare s'.gens) E ae:=by
 have x:CK (theC prog w ae mg mb):=B4 KX hT g b nl bui bat
 have xv:kQ (theC prog w ae mg mb):=B5 KX g bui
 have hLk:=AA x xv (xY x xv) 8
 obtain⟨nm',a',o,fd,e1,e2,_,_,_,hcall⟩:=hLk.fn 17 _ _ (hplain ns hlen)
 have e3:mg (Str.ofString "law")=some (.ref 191):=mg_of KX g (by rfl)
 have e4:nm'=Str.ofString "law" :=by
  have:aT[17]?=some (Str.ofString "law"):=by decide +kernel
  rw[this]at e1;cases e1;rfl
 have e5:a'=191:=by
  have e2':mg nm'=some (.ref a'):=e2
  rw[e4,e3]at e2';cases e2';rfl
 subst e5
 have hat:At ((theC prog w ae mg mb).wi λ_=>False) ⟨ae.heap,ae.toks,λ_=>.none,ae.gens⟩ ae:=
  ⟨rfl,htk,Nat.le_refl _,⟨OldK.refl _,λ_ _ _ e=>e,rfl,by rw[hg];exact AllBare.empty,⟨#[],hT,by simp[TriplesOk],λq hq=>⟨?_,.inl (by simp[codeAmong])⟩⟩,λ_ h=>h.elim⟩,rfl⟩
 ·refine wpAny_mono (hcall (λ_=>False) callerA ae _ (· = 100) [.ref a] E ⟨⟨rfl,by decide +kernel,by decide +kernel⟩,λ_=>⟨[],rfl,λ_ h=>by cases h⟩⟩ hat ⟨rfl,λb hb=>⟨_,hb▸hT⟩⟩ ⟨_,[],rfl,⟨a,_,rfl,ha,hL,rT hI⟩,rfl⟩) (λv s' ⟨W',L',a',r'⟩=>?_) λ_ _ x=>x
  exact⟨r',a'.inv.old,a'.inv.os,a'.inv.bare⟩
 ·rcases List.mem_cons.mp hq with rfl|hq
  ·decide +kernel
  ·rcases List.mem_cons.mp hq with rfl|hq
   ·decide +kernel
   ·cases hq
end
theorem m6{α β:Type}{f:α→Option (List β)}{g:α→List β}:∀{xs:List α},(∀x∈xs,f x=some (g x))→ib f xs=some (xs.flatMap g)
 | [],_=>rfl
 | x::r,h=>by
  rw[ib,h x (.head _),m6 λy hy=>h y (.tail _ hy)]
  rfl
theorem v7{α β:Type}{f:α→Option β}{g:α→β}:∀{xs:List α},(∀x∈xs,f x=some (g x))→bn f xs=some (xs.map g)
 | [],_=>rfl
 | x::r,h=>by
  rw[bn,h x (.head _),v7 λy hy=>h y (.tail _ hy)]
  rfl
section
variable{F:Nat→List D→Option D}{n:Nat}{me:Me}
theorem jA{α β:Type}(p:α→Bool)(f:α→β):∀l:List α,l.flatMap (λx=>if p x=true then [f x]else [])=(l.filter p).map f
 | []=>rfl
 | x::r=>by
  rw[List.flatMap_cons,jA p f r,List.filter_cons]
  by_cases h:p x=true
  ·simp[h]
  ·simp[h]
theorem AG{elt it:X}{i:Nat}{ifs:List X}{xs:List D}(p:D→Bool)(f:D→D)(hit:gY (ev F n) (.one i) it (bA [i] me)=some xs)(hp:∀x∈xs,dE (ev F n) ifs ((i,x)::bA [i] me)=some (p x))
  (hf:∀x∈xs,p x=true→ev F n elt ((i,x)::bA [i] me)=some (f x)) (hl:xs.length≤100000):ev F (n+1) (.comp elt [(.one i,it,ifs)]) me=some (.list ((xs.filter p).map f)):=by
 have ht:eX [(dA.one i,it,ifs)]=[i]:=rfl
 rw[ev]
 rw[ht,hU,hit]
 dsimp only
 rw[m6 (g:=λx=>if p x=true then [f x]else []) λx hx=>?_,jA]
 ·dsimp only
  rw[if_pos]
  rw[List.length_map]
  exact Nat.le_trans (List.length_filter_le _ _) hl
 ·simp only[gZ,hp x hx]
  cases hq:p x with
  | true=>simp[hU,hf x hx hq]
  | false=>simp
theorem DM{elt it:X}{i:Nat}{xs:List D}(f:D→D)(hit:gY (ev F n) (.one i) it (bA [i] me)=some xs)
  (hf:∀x∈xs,ev F n elt ((i,x)::bA [i] me)=some (f x)) (hl:xs.length≤100000):ev F (n+1) (.comp elt [(.one i,it,[])]) me=some (.list (xs.map f)):=by
 have:=AG (F:=F) (n:=n) (me:=me) (elt:=elt) (it:=it) (i:=i) (ifs:=[]) (λ_=>true) f hit (λx _=>rfl) (λx hx _=>hf x hx) hl
 rw[List.filter_eq_self.mpr (λ_ _=>rfl)]at this
 exact this
end
theorem uI{k:St→Option Bool}{f:St→Option lB}(P:Nat→St→Prop)(R:St→Prop)(step:∀m st,P m st→(k st=some false∧R st)∨(∃m' st',m=m'+1∧k st=some true∧f st=some (.next st')∧P m' st')):∀(m n:Nat) (st:St),P m st→m<n→∃st',vd k f n st=some (.next st')∧R st'
 | m,0,st,_,h=>absurd h (Nat.not_lt_zero _)
 | m,n+1,st,hp,h=>by
  rcases step m st hp with⟨h1,h2⟩|⟨m',st',rfl,h1,h2,h3⟩
  ·exact⟨st,by rw[vd,h1],h2⟩
  ·obtain⟨s2,e,r⟩:=uI P R step m' n st' h3 (by omega)
   exact⟨s2,by rw[vd,h1];dsimp only;rw[h2];exact e,r⟩
theorem dy{ns:List Int}(g:Bool):bh (ns.map (D.int g))=some ns:=by
 induction ns with
 | nil=>rfl
 | cons a r ih=>rw[List.map_cons,bh,ih]
theorem rU{k:Nat}:∀{a b:List D} {x y:List Int},bh a=some x→bh b=some y→a.length=b.length→kC (eV k) a b=some (x==y)
 | [],[],x,y,h1,h2,_=>by cases h1;cases h2;rfl
 | d::a,e::b,x,y,h1,h2,hl=>by
  cases d with
  | int g i=>
   cases e with
   | int g' j=>
    simp only[bh]at h1 h2
    cases q1:bh a with
    | none=>rw[q1]at h1;cases h1
    | some x'=>
     cases q2:bh b with
     | none=>rw[q2]at h2;cases h2
     | some y'=>
      rw[q1]at h1;rw[q2]at h2;cases h1;cases h2
      have ih:=rU (k:=k) q1 q2 (by simpa using hl)
      have e1:eV k (.int g i) (.int g' j)=some (i==j):=by cases k<;>rfl
      rw[kC,e1,ih]
      rfl
   | _=>cases h2
  | _=>cases h1
theorem kj:∀{a:List D} {x:List Int},bh a=some x→a.length=x.length
 | [],x,h=>by cases h;rfl
 | d::a,x,h=>by
  cases d with
  | int g i=>
   simp only[bh]at h
   cases q:bh a with
   | none=>rw[q]at h;cases h
   | some x'=>rw[q]at h;cases h;simp[kj q]
  | _=>cases h
theorem iF{a b:List D}{x y:List Int}(h1:bh a=some x)(h2:bh b=some y):eV 8 (.list a) (.list b)=some (x==y):=by
 rw[eV]
 by_cases hl:a.length=b.length
 ·rw[if_pos hl,rU h1 h2 hl]
 ·rw[if_neg hl]
  rw[kj h1,kj h2]at hl
  have:(x==y)=false:=by
   rw[beq_eq_false_iff_ne];intro e;exact hl (by rw[e])
  rw[this]
def B6:Str:=Txt.mul (nm ".\n") 18
abbrev cO(A B:a6)(pl rows:List D):List (Nat×Ob):=[(44,.list rows),(43,.list pl),(42,.lex B),(41,.lex A)]
abbrev xZ:List Y:=[.push 41 (.sub (.var 26) (.var 45)),.push 42 (.sub (.var 26) (.var 45)),.insert 43 (.bin .fdiv (.bi .len [(.var 43)]) (.const (.int true (2)))) (.sub (.var 26) (.var 45)),.aug 45 (.const (.int true (1)))]
def a6.add(L:a6)(x:D):a6:={ L with back:=L.back++[x] }
section
variable{F:Nat→List D→Option D}{me:Me}{A B:a6}{pl rows W:List D}{c:Nat}{x:D}
theorem gW{l:List D}{i:Nat}{x:D}(h:l[i]?=some x)(hl:l.length≤1000):lA l (i:Int)=some x:=by
 have hi:i<l.length:=(List.getElem?_eq_some_iff.mp h).1
 unfold lA
 rw[if_pos (by omega),if_pos (by omega),Int.toNat_natCast,h]
theorem tS{g h:Bool}{a:Int}:dm .fdiv (.int g a) (.int h 2)=some (.int true (Int.fdiv a 2)):=rfl
theorem gy{g h:Bool}{a b:Int}:dm .add (.int g a) (.int h b)=some (.int true (a+b)):=rfl
theorem oQ{g h:Bool}{a b:Int}:dm .sub (.int g a) (.int h b)=some (.int true (a-b)):=rfl
theorem AH(n:Nat):Int.fdiv (n:Int) 2=((n/2:Nat):Int):=by rw[Int.fdiv_eq_ediv_of_nonneg _ (by decide)];omega
theorem zw(h26:me.lookup 26=some (.list W))(h45:me.lookup 45=some (.int true c))(h43:me.lookup 43=none)(hx:W[c]?=some x)(hW:W.length≤1000)(hA:A.back.length≤1000)(hB:B.back.length≤1000)(hp:pl.length≤1000):
  bC F 49 xZ ⟨me,cO A B pl rows⟩=some (.next ⟨put 45 (.int true (c+1)) me,cO (A.add x) (B.add x) (fJ ((pl.length/2:Nat):Int) x pl) rows⟩):=by
 have hs:=gW hx hW
 have hp2:pl.length≤100000:=by omega
 have h0:(0:Int)≤((pl.length/2:Nat):Int)∧((pl.length/2:Nat):Int)≤100000:=by omega
 simp[bC,ex,ev,dF,dN,dY,ft,h26,h45,h43,hs,hA,hB,hp,hp2,put,thaw,eE,ud,bn,nB,tS,gy,flat,wF,aS,h0.2,a6.add,List.lookup,AH,-Int.natCast_ediv]
end
abbrev wS(wd:Nat→Str)(i:Nat):D:=.str true (wd i)
def f6(wd:Nat→Str)(i j:Nat):Bool:=decide ((wd i).cps.toList<(wd j).cps.toList)
def aQ(lt:Nat→Nat→Bool):Nat→Nat→List Nat→Nat×List Nat
 | 0,t,q=>(t,q)
 | _+1,t,[]=>(t,[])
 | n+1,t,o::q=>if lt o t then aQ lt n o (q++[t])else aQ lt n t (q++[o])
abbrev uJ:List Y:=[.getTok 47 42,.ite (.cmp .eq (.call 3 [(.var 47),(.var 40)]) (.neg (.const (.int true (1))))) [.push 42 (.var 40),.assign 40 (.var 47)] [.push 42 (.var 47)]]
def SC(F:Nat→List D→Option D):Prop:=∀x y:Str,F 3 [.str true x,.str true y]=some (.int true (b2 (decide (y.cps.toList<x.cps.toList))-b2 (decide (x.cps.toList<y.cps.toList))))
section
variable{F:Nat→List D→Option D}{me:Me}{A B:a6}{pl rows W:List D}{c:Nat}{x:D}{wd:Nat→Str}
theorem rV{a b:List Nat}(h:a<b):¬b<a:=λh'=>List.lt_irrefl a (List.lt_trans h h')
theorem DN(hF:SC F){d:D}{x y:Str}{q:List D}(h40:me.lookup 40=some (.str true x))(hB:B.back = .str true y::q)(hq:q.length≤900)(ha:B.at_≤10000):
  ∃me',a5 F 44 (.one 38) uJ ⟨me,cO A B pl rows⟩ d=some (.next ⟨me',cO A { B with back:=q++[if y.cps.toList<x.cps.toList then .str true x else .str true y] } pl rows⟩)∧
   me'.lookup 40=some (if y.cps.toList<x.cps.toList then .str true y else .str true x)∧∀j,j≠38→j≠40→j≠47→me'.lookup j=me.lookup j:=by
 have ht:B.tok=some (.str true y,{ B with back:=q }):=by
  unfold a6.tok a6.get
  rw[hB]
  rw[if_pos ⟨ha,by rw[List.length_cons];omega⟩]
 have hq2:q.length≤1000:=by omega
 by_cases h:y.cps.toList<x.cps.toList
 ·have h':=rV h
  refine⟨put 40 (.str true y) (put 47 (.str true y) (put 38 d me)),?_,?_,λj h1 h2 h3=>?_⟩
  ·simp[a5,nR,gb,aS,bC,ex,ev,evS,dF,dN,ht,aa,h40,bn,hF y x,h,h',b2,a9,eV,aC,put,List.lookup,hq2]
  ·simp[aa,h]
  ·simp[aa,h1,h2,h3]
 ·by_cases h':x.cps.toList<y.cps.toList
  ·refine⟨put 47 (.str true y) (put 38 d me),?_,?_,λj h1 h2 h3=>?_⟩
   ·simp[a5,nR,gb,aS,bC,ex,ev,evS,dF,dN,ht,aa,h40,bn,hF y x,h,h',b2,a9,eV,aC,put,List.lookup,hq2]
   ·simp[aa,h,h40]
   ·simp[aa,h1,h3]
  ·refine⟨put 47 (.str true y) (put 38 d me),?_,?_,λj h1 h2 h3=>?_⟩
   ·simp[a5,nR,gb,aS,bC,ex,ev,evS,dF,dN,ht,aa,h40,bn,hF y x,h,h',b2,a9,eV,aC,put,List.lookup,hq2]
   ·simp[aa,h,h40]
   ·simp[aa,h1,h3]
theorem rW(hF:SC F):∀(ds:List D) (t:Nat) (q:List Nat) (me:Me) (B:a6),me.lookup 40=some (wS wd t)→B.back=q.map (wS wd)→ds.length≤q.length→q.length≤900→B.at_≤10000→
  ∃me',gG (a5 F 44 (.one 38) uJ) ds ⟨me,cO A B pl rows⟩=some (.next ⟨me',cO A { B with back:=(aQ (f6 wd) ds.length t q).2.map (wS wd) } pl rows⟩)∧
   me'.lookup 40=some (wS wd (aQ (f6 wd) ds.length t q).1)∧∀j,j≠38→j≠40→j≠47→me'.lookup j=me.lookup j
 | [],t,q,me,B,h40,hB,_,_,_=>⟨me,by rw[gG];simp[aQ,←hB],by simpa [aQ]using h40,λ_ _ _ _=>rfl⟩
 | d::ds,t,[],me,B,h40,hB,hl,_,_=>by simp at hl
 | d::ds,t,o::q,me,B,h40,hB,hl,hq,ha=>by
  simp only[List.length_cons]at hl hq
  obtain⟨me',e1,e2,e3⟩:=DN (pl:=pl) (rows:=rows) (A:=A) (d:=d) hF h40 (y:=wd o) (q:=q.map (wS wd)) hB (by rw[List.length_map];omega) ha
  have step:∀(t':Nat) (q':List Nat),q'.length=q.length+1→(wS wd t'=if(wd o).cps.toList<(wd t).cps.toList then .str true (wd o)else .str true (wd t))→
    q'.map (wS wd)=q.map (wS wd)++[if(wd o).cps.toList<(wd t).cps.toList then .str true (wd t)else .str true (wd o)]→aQ (f6 wd) (ds.length+1) t (o::q)=aQ (f6 wd) ds.length t' q'→
    ∃me',gG (a5 F 44 (.one 38) uJ) (d::ds) ⟨me,cO A B pl rows⟩=some (.next ⟨me',cO A { B with back:=(aQ (f6 wd) (d::ds).length t (o::q)).2.map (wS wd) } pl rows⟩)∧
   me'.lookup 40=some (wS wd (aQ (f6 wd) (d::ds).length t (o::q)).1)∧∀j,j≠38→j≠40→j≠47→me'.lookup j=me.lookup j:=λt' q' hl' ht' hq' hr=>by
   obtain⟨me2,f1,f2,f3⟩:=rW hF ds t' q' me' { B with back:=q.map (wS wd)++[if(wd o).cps.toList<(wd t).cps.toList then .str true (wd t)else .str true (wd o)] } (by rw[e2,ht']) hq'.symm (by omega) (by omega) ha
   refine⟨me2,?_,?_,λj h1 h2 h3=>(f3 j h1 h2 h3).trans (e3 j h1 h2 h3)⟩
   ·rw[gG,e1]
    dsimp only
    rw[f1,List.length_cons,hr]
   ·rw[f2,List.length_cons,hr]
  by_cases h:(wd o).cps.toList<(wd t).cps.toList
  ·exact step o (q++[t]) (by simp) (by rw[if_pos h]) (by rw[if_pos h];simp) (by rw[aQ,if_pos (by simp[f6,h])])
  ·exact step t (q++[o]) (by simp) (by rw[if_neg h]) (by rw[if_neg h];simp) (by rw[aQ,if_neg (by simp[f6,h])])
end
structure Qs where
 c:Nat
 ring:List Nat
 pile:List Nat
 deriving DecidableEq
def Qs.arr(q:Qs):Qs:=⟨q.c+1,q.ring++[q.c],fJ ((q.pile.length/2:Nat):Int) q.c q.pile⟩
def bQ:Nat→Qs→Qs
 | 0,q=>q
 | k+1,q=>bQ k q.arr
def Qs.srv(lt:Nat→Nat→Bool)(q:Qs):(Nat×Nat)×Qs:=match q.ring with
 | []=>((9,9),q)
 | t::r=>let x:=aQ lt (q.pile.length-1) t r
  ((x.1,q.pile.getD ((q.pile.length-1)/2) 9),⟨q.c,x.2,q.pile.eraseIdx (q.pile.length-1-q.pile.length/2)⟩)
theorem gz:∀(k:Nat) (q:Qs),bQ (k+1) q=(bQ k q).arr
 | 0,_=>rfl
 | k+1,q=>gz k q.arr
theorem tT:∀(k:Nat) (q:Qs),(bQ k q).c=q.c+k
 | 0,_=>rfl
 | k+1,q=>by rw[bQ,tT];show q.c+1+k=_;omega
theorem rX(j:Nat):∀(k:Nat) (q:Qs),bQ k (bQ j q)=bQ (j+k) q
 | 0,_=>rfl
 | k+1,q=>by rw[←Nat.add_assoc,gz,gz,rX]
theorem x8{α β:Type}(f:α→β)(k:Int)(y:α)(l:List α):fJ k (f y) (l.map f)=(fJ k y l).map f:=by
 unfold fJ
 simp[List.map_take,List.map_drop]
theorem rY{α:Type}(k:Int)(y:α)(l:List α):(fJ k y l).length=l.length+1:=by
 unfold fJ
 simp;omega
theorem km:∀(k:Nat) (q:Qs),(bQ k q).ring.length=q.ring.length+k∧(bQ k q).pile.length=q.pile.length+k
 | 0,_=>⟨rfl,rfl⟩
 | k+1,q=>by
  obtain⟨h1,h2⟩:=km k q.arr
  rw[bQ,h1,h2]
  show(q.ring++[q.c]).length+k=_∧(fJ _ _ _).length+k=_
  rw[rY];simp;omega
abbrev wL(wd:Nat→Str):List D:=(List.range 5).map (wS wd)
abbrev cL(cm:Nat→Int):List D:=(List.range 5).map λi=>.int true (cm i)
structure BM(wd:Nat→Str)(cm:Nat→Int)(mks:List D)(me:Me):Prop where
 l26:me.lookup 26=some (.list (wL wd))
 l27:me.lookup 27=some (.list (cL cm))
 l30:me.lookup 30=some (.list mks)
 n43:me.lookup 43=none
 n44:me.lookup 44=none
section
variable{F:Nat→List D→Option D}{me:Me}{A B:a6}{pl rows:List D}{wd:Nat→Str}{cm:Nat→Int}{mks:List D}
theorem BM.same{me':Me}(x:BM wd cm mks me)(h:∀j,j∈[26,27,30,43,44]→me'.lookup j=me.lookup j):BM wd cm mks me':=
 ⟨(h _ (by simp)).trans x.l26,(h _ (by simp)).trans x.l27,(h _ (by simp)).trans x.l30,(h _ (by simp)).trans x.n43,(h _ (by simp)).trans x.n44⟩
theorem BM.put(x:BM wd cm mks me){i:Nat}{d:D}(h:i∉[26,27,30,43,44]):BM wd cm mks (put i d me):=x.same λj hj=>by
 rw[aa,if_neg];intro e;exact h (e▸hj)
theorem B7{α:Type}(f:Nat→α){c:Nat}(h:c<5):((List.range 5).map f)[c]?=some (f c):=by
 rw[List.getElem?_map,List.getElem?_range h];rfl
abbrev v8:X:=.and (.cmp .lt (.var 45) (.const (.int true (5)))) (.cmp .eq (.sub (.var 27) (.var 45)) (.var 28))
abbrev lw(F:Nat→List D→Option D)(n:Nat)(t:X)(a:List Y)(m:Nat)(s:St):Option lB:=vd (λs'=>match ev F n t s'.me with|some d=>aC d|Option.none=>Option.none)
    (λs'=>match bC F n a s' with
     | some (.next s'')=>if aS s''=aS s' then some (.next s'')else Option.none
     | o=>o) m s
theorem uK:aS ⟨me,cO A B pl rows⟩=[44,43,42,41]:=rfl
theorem oR{t:Int}:∀(k c:Nat) (q:Qs) (me:Me) (A B:a6) (n:Nat),c+k=5→k<n→BM wd cm mks me→me.lookup 45=some (.int true c)→me.lookup 28=some (.int true t)→q.c=c→B.back=q.ring.map (wS wd)→A.back.length≤c→q.ring.length≤c→q.pile.length≤c→
  ∃j me',j≤k∧lw F 49 v8 xZ n ⟨me,cO A B (q.pile.map (wS wd)) rows⟩=some (.next ⟨me',cO { A with back:=A.back++(List.range' c j).map (wS wd) } { B with back:=(bQ j q).ring.map (wS wd) } ((bQ j q).pile.map (wS wd)) rows⟩)∧
   (∀i,c≤i→i<c+j→cm i=t)∧(c+j<5→cm (c+j)≠t)∧BM wd cm mks me'∧me'.lookup 45=some (.int true ((c+j:Nat):Int))∧me'.lookup 28=some (.int true t)∧∀i,i≠45→me'.lookup i=me.lookup i
 | k,c,q,me,A,B,0,_,h,_,_,_,_,_,_,_,_=>absurd h (Nat.not_lt_zero _)
 | k,c,q,me,A,B,n+1,hk,hn,x,h45,h28,hc,hB,hA,hr,hp=>by
  have stop:(match ev F 49 v8 me with|some d=>aC d|Option.none=>Option.none)=some false→(c<5→cm c≠t)→∃j me',j≤k∧lw F 49 v8 xZ (n+1) ⟨me,cO A B (q.pile.map (wS wd)) rows⟩=some (.next ⟨me',cO { A with back:=A.back++(List.range' c j).map (wS wd) } { B with back:=(bQ j q).ring.map (wS wd) } ((bQ j q).pile.map (wS wd)) rows⟩)∧
   (∀i,c≤i→i<c+j→cm i=t)∧(c+j<5→cm (c+j)≠t)∧BM wd cm mks me'∧me'.lookup 45=some (.int true ((c+j:Nat):Int))∧me'.lookup 28=some (.int true t)∧∀i,i≠45→me'.lookup i=me.lookup i:=λe he=>by
   refine⟨0,me,Nat.zero_le _,?_,λi h1 h2=>absurd h2 (by omega),he,x,h45,h28,λ_ _=>rfl⟩
   unfold lw vd
   dsimp only
   rw[e]
   simp[bQ,←hB]
  cases k with
  | zero=>
   have:c=5:=by omega
   subst this
   refine stop ?_ (λh=>absurd h (by decide))
   simp[ev,h45,a9,aC]
  | succ k=>
   have hc5:c<5:=by omega
   have hsub:lA (cL cm) (c:Int)=some (.int true (cm c)):=gW (B7 _ hc5) (by simp)
   have hc5':(c:Int)<5:=by omega
   by_cases e:cm c=t
   ·have hkt:(match ev F 49 v8 me with|some d=>aC d|Option.none=>Option.none)=some true:=by
     simp[ev,h45,h28,x.l27,a9,eV,ft,aC,hsub,e,hc5']
    have hrun:=zw (F:=F) (A:=A) (B:=B) (pl:=q.pile.map (wS wd)) (rows:=rows) (c:=c) x.l26 h45 x.n43 (B7 (wS wd) hc5) (by simp) (by omega) (by rw[hB,List.length_map];omega) (by rw[List.length_map];omega)
    obtain⟨j,me',h1,h2,h3,h4,h5,h6,h7,h8⟩:=oR k (c+1) q.arr (put 45 (.int true ((c:Int)+1)) me) (A.add (wS wd c)) (B.add (wS wd c)) n (by omega) (by omega) (x.put (by decide)) (by rw[aa,if_pos rfl];rfl) (by rw[aa,if_neg (by decide)];exact h28) (by rw[←hc];rfl)
     (by show B.back++[wS wd c]=(q.ring++[q.c]).map (wS wd);rw[hB,hc];simp) (by show(A.back++[wS wd c]).length≤_;simp;omega) (by show(q.ring++[q.c]).length≤_;simp;omega) (by show(fJ _ _ _).length≤_;rw[rY];omega)
    refine⟨j+1,me',by omega,?_,λi g1 g2=>?_,λg=>?_,h5,?_,h7,λi hi=>(h8 i hi).trans (by rw[aa,if_neg hi])⟩
    ·unfold lw vd
     dsimp only
     rw[hkt]
     dsimp only
     rw[hrun]
     have hpile:fJ (((q.pile.map (wS wd)).length/2:Nat):Int) (wS wd c) (q.pile.map (wS wd))=q.arr.pile.map (wS wd):=by
      rw[x8,List.length_map,←hc];rfl
     rw[hpile]
     dsimp only
     simp only[uK,if_true]
     have:=h2
     unfold lw at this
     rw[this]
     simp[bQ,a6.add,List.range'_succ]
    ·rcases Nat.eq_or_lt_of_le g1 with rfl|g1
     ·exact e
     ·exact h3 i g1 (by omega)
    ·have:=h4 (by omega)
     rw[show c+1+j=c+(j+1) by omega]at this
     exact this
    ·rw[h6,show c+1+j=c+(j+1) by omega]
   ·refine stop ?_ (λ_=>e)
    have e':(cm c==t)=false:=by simpa using e
    simp[ev,h45,h28,x.l27,a9,eV,ft,aC,hsub,e',hc5']
end
abbrev rZ:List Y:=[.getTok 39 41,
  .getTok 40 42,
  .for (.one 38) (.range (.bin .sub (.bi .len [(.var 43)]) (.const (.int true (1))))) uJ false,
  .assign 48 (.const (.str true (nm "."))),
  .ite (.cmp .ne (.var 43) (.list [])) [.assign 48 (.call 1 [(.var 43),(.bin .fdiv (.bin .sub (.bi .len [(.var 43)]) (.const (.int true (1)))) (.const (.int true (2))))]),
  .delIt 43 (.bin .sub (.neg (.const (.int true (1)))) (.bin .fdiv (.bi .len [(.var 43)]) (.const (.int true (2))))),
  .aug 46 (.const (.int true (1)))] [],
  .append 44 (.bin .add (.list [(.var 28)]) (.comp (.call 11 [(.var 26),(.var 23)]) [((.one 23),(.tup [(.var 39),(.var 40),(.var 48)]),[])]))]
section
variable{F:Nat→List D→Option D}{me:Me}{A B:a6}{pl rows:List D}{wd:Nat→Str}{cm:Nat→Int}{mks:List D}
theorem oS{α β:Type}(f:α→β):∀(l:List α) (i:Nat),(l.map f).eraseIdx i=(l.eraseIdx i).map f
 | [],_=>rfl
 | _::_,0=>rfl
 | x::l,i+1=>by rw[List.map_cons,List.eraseIdx_cons_succ,List.eraseIdx_cons_succ,oS f l i];rfl
theorem ah{n:Nat}{y:Y}{r:List Y}{s s':St}(h:ex F n y s=some (.next s')):bC F (n+1) (y::r) s=bC F n r s':=by rw[bC,h]
def GI(F:Nat→List D→Option D):Prop:=∀a b:D,F 1 [a,b]=ft a b
def WH(F:Nat→List D→Option D)(wd:Nat→Str):Prop:=∀y:Str,F 11 [.list (wL wd),.str true y]=some (.int true (gw ((List.range 5).map wd) y))
abbrev gV(t:Int)(wd:Nat→Str)(x y z:Str):D:=.list [.int true t,.int true (gw ((List.range 5).map wd) x),.int true (gw ((List.range 5).map wd) y),.int true (gw ((List.range 5).map wd) z)]
theorem sa{L:a6}{d:D}{q:List D}(hB:L.back=d::q)(hq:q.length≤900)(ha:L.at_≤10000):L.tok=some (d,{ L with back:=q }):=by
 unfold a6.tok a6.get
 rw[hB,if_pos ⟨ha,by rw[List.length_cons];omega⟩]
theorem m7(hW:WH F wd)(x:BM wd cm mks me){t:Int}{a b c:Str}(h28:me.lookup 28=some (.int true t))(h39:me.lookup 39=some (.str true a))(h40:me.lookup 40=some (.str true b))(h48:me.lookup 48=some (.str true c))(hr:rows.length≤100000):
  ex F 42 (.append 44 (.bin .add (.list [(.var 28)]) (.comp (.call 11 [(.var 26),(.var 23)]) [((.one 23),(.tup [(.var 39),(.var 40),(.var 48)]),[])]))) ⟨me,cO A B pl rows⟩=some (.next ⟨me,cO A B pl (rows++[gV t wd a b c])⟩):=by
 have hc:ev F 40 (.comp (.call 11 [(.var 26),(.var 23)]) [((.one 23),(.tup [(.var 39),(.var 40),(.var 48)]),[])]) me=some (.list ([D.str true a,D.str true b,D.str true c].map λd=>match d with | .str _ y=>.int true (gw ((List.range 5).map wd) y)|_=>.none)):=by
  refine DM _ ?_ (λd hd=>?_) (by simp)
  ·simp[gY,ev,bn,aY,h39,h40,h48,dD]
  ·simp only[List.mem_cons,List.not_mem_nil,or_false]at hd
   rcases hd with rfl|rfl|rfl<;>simp[ev,bn,aY,x.l26,List.lookup,hW _]
 have he:ev F 41 (.bin .add (.list [(.var 28)]) (.comp (.call 11 [(.var 26),(.var 23)]) [((.one 23),(.tup [(.var 39),(.var 40),(.var 48)]),[])])) me=some (gV t wd a b c):=by
  rw[ev,hc]
  simp[ev,bn,h28,dm]
 rw[ex,he]
 simp[dY,List.lookup,put,hr]
theorem v9(hS:SC F)(hG:GI F)(hW:WH F wd)(x:BM wd cm mks me){t:Int}{g:Nat}{q:Qs}{r0:Nat}{rest:List Nat}(h28:me.lookup 28=some (.int true t))(h46:me.lookup 46=some (.int true g))
  {a0:Str} {ar:List D} (hA:A.back = .str true a0::ar) (hal:ar.length≤900) (hB:B.back=(r0::rest).map (wS wd)) (hrl:rest.length≤900) (haA:A.at_≤10000) (haB:B.at_≤10000) {pile:List Nat} (hp:pile.length=rest.length+1) (hr:rows.length≤100000) :
  ∃me',bC F 48 rZ ⟨me,cO A B (pile.map (wS wd)) rows⟩=some (.next ⟨me',cO { A with back:=ar } { B with back:=(aQ (f6 wd) (pile.length-1) r0 rest).2.map (wS wd) } ((pile.eraseIdx (pile.length-1-pile.length/2)).map (wS wd))
   (rows++[gV t wd a0 (wd (aQ (f6 wd) (pile.length-1) r0 rest).1) (wd (pile.getD ((pile.length-1)/2) 9))])⟩)∧BM wd cm mks me'∧me'.lookup 46=some (.int true (g+1))∧∀j,j=28∨j=45→me'.lookup j=me.lookup j:=by
 have hpl:(pile.map (wS wd)).length=pile.length:=List.length_map ..
 have hp5:pile.length≤100000:=by omega
 rw[ah (s':=⟨put 39 (.str true a0) me,cO { A with back:=ar } B (pile.map (wS wd)) rows⟩) (by simp[ex,dN,List.lookup,sa hA hal haA,aS,put])]
 rw[ah (s':=⟨put 40 (wS wd r0) (put 39 (.str true a0) me),cO { A with back:=ar } { B with back:=rest.map (wS wd) } (pile.map (wS wd)) rows⟩) (by simp[ex,dN,List.lookup,sa (by simpa using hB) (by rw[List.length_map];exact hrl) haB,aS,put])]
 obtain⟨me2,e1,e2,e3⟩:=rW (pl:=pile.map (wS wd)) (rows:=rows) (A:={ A with back:=ar }) hS ((List.range (pile.length-1)).map λi:Nat=>D.int true (i:Int)) r0 rest (put 40 (wS wd r0) (put 39 (.str true a0) me)) { B with back:=rest.map (wS wd) }
  (by rw[aa,if_pos rfl]) rfl (by simp;omega) hrl haB
 have hls:((List.range (pile.length-1)).map λi:Nat=>D.int true (i:Int)).length=pile.length-1:=by simp
 rw[hls]at e1 e2
 have hit:jK F 44 (.one 38) (.range (.bin .sub (.bi .len [(.var 43)]) (.const (.int true (1))))) ⟨put 40 (wS wd r0) (put 39 (.str true a0) me),cO { A with back:=ar } { B with back:=rest.map (wS wd) } (pile.map (wS wd)) rows⟩=some ((List.range (pile.length-1)).map λi:Nat=>D.int true (i:Int)):=by
  have hk:(((pile.length:Int)-1)).toNat=pile.length-1:=by omega
  have hk2 : -1000≤(pile.length:Int)-1∧(pile.length:Int)-1≤1000:=by omega
  simp[jK,gY,ev,dF,bn,aa,x.n43,thaw,eE,List.lookup,nB,hp5,oQ,flat,hk,hk2]
 rw[ah (s':=⟨me2,cO { A with back:=ar } { B with back:=(aQ (f6 wd) (pile.length-1) r0 rest).2.map (wS wd) } (pile.map (wS wd)) rows⟩) (by
  rw[ex,hit]
  exact congrArg (jo false) e1)]
 have x2:BM wd cm mks me2:=x.same λj hj=>by
  have hj':j=26∨j=27∨j=30∨j=43∨j=44:=by simpa using hj
  rw[e3 j (by omega) (by omega) (by omega),aa,if_neg (by omega),aa,if_neg (by omega)]
 rw[ah (s':=⟨put 48 (.str true (nm ".")) me2,cO { A with back:=ar } { B with back:=(aQ (f6 wd) (pile.length-1) r0 rest).2.map (wS wd) } (pile.map (wS wd)) rows⟩) (by simp[ex,evS,dF,ev,aS])]
 have hne:¬pile.length=0:=by omega
 have hnil:pile≠[]:=λe=>by rw[e]at hne;exact hne rfl
 have hmid:(pile.map (wS wd))[(pile.length-1)/2]?=some (wS wd (pile.getD ((pile.length-1)/2) 9)):=by
  rw[List.getElem?_map,List.getD_eq_getElem?_getD,List.getElem?_eq_getElem (by omega)];rfl
 have hsub:=gW hmid (by rw[List.length_map];omega)
 have hf1:Int.fdiv ((pile.length:Int)-1) 2=(((pile.length-1)/2:Nat):Int):=by rw[Int.fdiv_eq_ediv_of_nonneg _ (by decide)];omega
 have hdel:ue (pile.map (wS wd)) (.int true (-1-((pile.length/2:Nat):Int)))=some ((pile.eraseIdx (pile.length-1-pile.length/2)).map (wS wd)):=by
  have h1:o4 (pile.map (wS wd)) (-1-((pile.length/2:Nat):Int))=((pile.length-1-pile.length/2:Nat):Int):=by
   unfold o4;rw[if_pos (by omega),List.length_map];omega
  unfold ue
  dsimp only
  rw[h1,if_pos (by rw[List.length_map];omega),Int.toNat_natCast,oS]
 have h46':me2.lookup 46=some (.int true g):=by rw[e3 46 (by decide) (by decide) (by decide),aa,if_neg (by decide),aa,if_neg (by decide)];exact h46
 have h39':me2.lookup 39=some (.str true a0):=by rw[e3 39 (by decide) (by decide) (by decide),aa,if_neg (by decide),aa,if_pos rfl]
 have h28':me2.lookup 28=some (.int true t):=by rw[e3 28 (by decide) (by decide) (by decide),aa,if_neg (by decide),aa,if_neg (by decide)];exact h28
 rw[ah (s':=⟨put 46 (.int true (g+1)) (put 48 (wS wd (pile.getD ((pile.length-1)/2) 9)) (put 48 (.str true (nm ".")) me2)),cO { A with back:=ar } { B with back:=(aQ (f6 wd) (pile.length-1) r0 rest).2.map (wS wd) } ((pile.eraseIdx (pile.length-1-pile.length/2)).map (wS wd)) rows⟩) (by
  have ht:evS F 42 (.cmp .ne (.var 43) (.list [])) ⟨put 48 (.str true (nm ".")) me2,cO { A with back:=ar } { B with back:=(aQ (f6 wd) (pile.length-1) r0 rest).2.map (wS wd) } (pile.map (wS wd)) rows⟩=some (.bool true,⟨put 48 (.str true (nm ".")) me2,cO { A with back:=ar } { B with back:=(aQ (f6 wd) (pile.length-1) r0 rest).2.map (wS wd) } (pile.map (wS wd)) rows⟩):=by
   simp[evS,dF,ev,aa,x2.n43,thaw,eE,List.lookup,bn,a9,eV,hnil,flat]
  rw[ex,ht]
  dsimp only[aC]
  rw[ah (s':=⟨put 48 (wS wd (pile.getD ((pile.length-1)/2) 9)) (put 48 (.str true (nm ".")) me2),cO { A with back:=ar } { B with back:=(aQ (f6 wd) (pile.length-1) r0 rest).2.map (wS wd) } (pile.map (wS wd)) rows⟩) (by
   simp[ex,evS,dF,ev,aa,x2.n43,thaw,eE,List.lookup,bn,nB,hp5,oQ,tS,hf1,hG _ _,ft,hsub,flat,aS,-Int.natCast_ediv])]
  rw[ah (s':=⟨put 48 (wS wd (pile.getD ((pile.length-1)/2) 9)) (put 48 (.str true (nm ".")) me2),cO { A with back:=ar } { B with back:=(aQ (f6 wd) (pile.length-1) r0 rest).2.map (wS wd) } ((pile.eraseIdx (pile.length-1-pile.length/2)).map (wS wd)) rows⟩) (by
   simp[ex,dF,ev,aa,x2.n43,thaw,eE,List.lookup,dY,bn,nB,hp5,oQ,tS,AH,hdel,flat,put,-Int.natCast_ediv])]
  simp[bC,ex,ev,aa,h46',gy,aS])]
 rw[ah (m7 hW (((x2.put (by decide)).put (by decide)).put (by decide)) (a:=a0) (b:=wd (aQ (f6 wd) (pile.length-1) r0 rest).1) (c:=wd (pile.getD ((pile.length-1)/2) 9)) (t:=t) (by simp[aa,h28']) (by simp[aa,h39']) (by simp[aa,e2]) (by simp[aa]) hr)]
 refine⟨_,rfl,((x2.put (by decide)).put (by decide)).put (by decide),by rw[aa,if_pos rfl],λj hj=>?_⟩
 rw[aa,if_neg (by omega),aa,if_neg (by omega),aa,if_neg (by omega),e3 j (by omega) (by omega) (by omega),aa,if_neg (by omega),aa,if_neg (by omega)]
abbrev LX(i:Nat)(q:List D):a6:=⟨B6,2*i,1+i,q⟩
def AI(i:Nat):Bool:=match fv gH (LX i [])with
 | some (L,x)=>x==nm "." && L.page==B6&&L.at_==2*(i+1)&&L.line==1+(i+1)&&L.back.isEmpty
 | none=>false
theorem wa:∀i:Fin 18,AI i.val=true:=by decide +kernel
theorem zx{i:Nat}(h:i<18):(LX i []).tok=some (.str true (nm "."),LX (i+1) []):=by
 have:=wa ⟨i,h⟩
 unfold AI at this
 unfold a6.tok
 rw[if_pos ⟨by show 2*i≤10000;omega,Nat.zero_le _⟩]
 show(match fv gH (LX i [])with|some (L',t)=>some (D.str true t,L')|none=>none)=_
 split at this
 ·rename_i L x e
  dsimp only at e
  rw[e]
  simp only[Bool.and_eq_true,beq_iff_eq,List.isEmpty_iff]at this
  obtain⟨⟨⟨⟨h1,h2⟩,h3⟩,h4⟩,h5⟩:=this
  obtain⟨p,a,l,b⟩:=L
  dsimp only at h1 h2 h3 h4 h5
  subst h1 h2 h3 h4 h5
  rfl
 ·cases this
theorem wb(hS:SC F)(hW:WH F wd)(x:BM wd cm mks me){t:Int}{i:Nat}(hi:i<18)(h28:me.lookup 28=some (.int true t))(hr:rows.length≤100000):
  ∃me',bC F 48 rZ ⟨me,cO (LX i []) (LX i []) [] rows⟩=some (.next ⟨me',cO (LX (i+1) []) (LX (i+1) []) [] (rows++[gV t wd (nm ".") (nm ".") (nm ".")])⟩)∧BM wd cm mks me'∧∀j,j=28∨j=45∨j=46→me'.lookup j=me.lookup j:=by
 have ht:=zx hi
 rw[ah (s':=⟨put 39 (.str true (nm ".")) me,cO (LX (i+1) []) (LX i []) [] rows⟩) (by simp only[ex,dN,List.lookup];simp[ht,aS,put])]
 rw[ah (s':=⟨put 40 (.str true (nm ".")) (put 39 (.str true (nm ".")) me),cO (LX (i+1) []) (LX (i+1) []) [] rows⟩) (by simp only[ex,dN,List.lookup];simp[ht,aS,put])]
 have hit:jK F 44 (.one 38) (.range (.bin .sub (.bi .len [(.var 43)]) (.const (.int true (1))))) ⟨put 40 (.str true (nm ".")) (put 39 (.str true (nm ".")) me),cO (LX (i+1) []) (LX (i+1) []) [] rows⟩=some []:=by
  simp[jK,gY,ev,dF,bn,aa,x.n43,thaw,eE,List.lookup,nB,oQ,flat]
 rw[ah (s':=⟨put 40 (.str true (nm ".")) (put 39 (.str true (nm ".")) me),cO (LX (i+1) []) (LX (i+1) []) [] rows⟩) (by rw[ex,hit];rfl)]
 rw[ah (s':=⟨put 48 (.str true (nm ".")) (put 40 (.str true (nm ".")) (put 39 (.str true (nm ".")) me)),cO (LX (i+1) []) (LX (i+1) []) [] rows⟩) (by simp[ex,evS,dF,ev,aS])]
 rw[ah (s':=⟨put 48 (.str true (nm ".")) (put 40 (.str true (nm ".")) (put 39 (.str true (nm ".")) me)),cO (LX (i+1) []) (LX (i+1) []) [] rows⟩) (by
  simp[ex,bC,evS,dF,ev,aa,x.n43,thaw,eE,List.lookup,bn,a9,eV,kC,flat,aC])]
 rw[ah (m7 hW (((x.put (by decide)).put (by decide)).put (by decide)) (a:=nm ".") (b:=nm ".") (c:=nm ".") (t:=t) (by simp[aa,h28]) (by simp[aa]) (by simp[aa]) (by simp[aa]) hr)]
 refine⟨_,rfl,((x.put (by decide)).put (by decide)).put (by decide),λj hj=>?_⟩
 rw[aa,if_neg (by omega),aa,if_neg (by omega),aa,if_neg (by omega)]
end
def gX(lt:Nat→Nat→Bool)(x:Qs×List (Nat×Nat))(n:Nat):Qs×List (Nat×Nat):=
 let y:=(bQ (n-x.1.c) x.1).srv lt
 (y.2,x.2++[y.1])
def cI(lt:Nat→Nat→Bool)(ns:List Nat):Qs×List (Nat×Nat):=ns.foldl (gX lt) (⟨0,[],[]⟩,[])
theorem oT(lt:Nat→Nat→Bool)(ns:List Nat)(n:Nat):cI lt (ns++[n])=gX lt (cI lt ns) n:=by unfold cI;rw[List.foldl_append];rfl
theorem kn(lt:Nat→Nat→Bool):∀(ns:List Nat) (x:Qs×List (Nat×Nat)),(ns.foldl (gX lt) x).2.length=x.2.length+ns.length
 | [],_=>rfl
 | n::ns,x=>by
  rw[List.foldl_cons,kn lt ns]
  show(x.2++[_]).length+ns.length=_
  simp;omega
abbrev AR:=Int×Int×Int×Int
def m8(r:AR):Bool:=r.2.2.2 != 9
abbrev cc(r:AR):D:=.list [.int true r.1,.int true r.2.1,.int true r.2.2.1,.int true r.2.2.2]
def kB(hs:List Nat)(p:Nat):Nat:=if p=0 then 0 else hs.getD (p-1) 0+1
structure DO(op:Nat→Bool)(lo c h:Nat):Prop where
 o:op h=true
 l:lo≤h
 k:c≤h
 no:∀s,lo≤s→c≤s→s<h→op s=false
structure tU(lt:Nat→Nat→Bool)(cm:Nat→Nat)(op:Nat→Bool)(g:Nat)(ns hs:List Nat):Prop where
 ln:ns.length=g
 lh:hs.length=g
 nx:∀p,p<g→DO op (kB hs p) (cm p) (hs.getD p 0)
 nn:∀p,p<g→∀j,j<5→(j<ns.getD p 0↔cm j≤hs.getD p 0)
 n5:∀p,p<g→p<ns.getD p 0∧ns.getD p 0≤5
def oU(lt:Nat→Nat→Bool)(ns hs:List Nat)(g:Nat):List AR:=(List.range g).map λp=>((hs.getD p 0:Nat),(p:Nat),(((cI lt ns).2.getD p (0,0)).1:Nat),(((cI lt ns).2.getD p (0,0)).2:Nat))
structure tV(lt:Nat→Nat→Bool)(g i:Nat)(ns hs:List Nat)(ar:List AR):Prop where
 bz:ar.filter m8=oU lt ns hs g
 al:ar.length=g+i
 ax:∀r∈ar,(r.2.1=9∧r.2.2.1=9∧r.2.2.2=9)∨(r.2.1≠9∧r.2.2.2≠9)
structure CI(lt:Nat→Nat→Bool)(cm:Nat→Nat)(op:Nat→Bool)(t g c i:Nat)(ns hs:List Nat)(ar:List AR)(q:Qs):Prop where
 hi:tU lt cm op g ns hs
 gc:g≤c
 c5:c≤5
 rc:(cI lt ns).1.c≤c
 run:q=bQ (c-(cI lt ns).1.c) (cI lt ns).1
 rl:q.ring.length=c-g
 pll:q.pile.length=c-g
 rm:∀x∈q.ring,x<c
 pm:∀x∈q.pile,x<c
 pd:g<5→∀s,kB hs g≤s→cm g≤s→s<t→op s=false
 ht:kB hs g≤t
 it:i≤t
 ro:tV lt g i ns hs ar
section
variable{lt:Nat→Nat→Bool}{cm:Nat→Nat}{op:Nat→Bool}{t g c i:Nat}{ns hs:List Nat}{ar:List AR}{q:Qs}
theorem CI.qc(x:CI lt cm op t g c i ns hs ar q):q.c=c:=by rw[x.run,tT];have:=x.rc;omega
theorem x9{α:Type}{k:Int}{y z:α}{l:List α}(h:z∈fJ k y l):z=y∨z∈l:=by
 unfold fJ at h
 rcases List.mem_append.mp h with h|h
 ·exact .inr (List.mem_of_mem_take h)
 ·rcases List.mem_cons.mp h with h|h
  ·exact .inl h
  ·exact .inr (List.mem_of_mem_drop h)
theorem sd:∀(k:Nat) (q:Qs),(∀x∈q.ring,x<q.c)→(∀x∈q.pile,x<q.c)→(∀x∈(bQ k q).ring,x<q.c+k)∧∀x∈(bQ k q).pile,x<q.c+k
 | 0,_,h1,h2=>⟨h1,h2⟩
 | k+1,q,h1,h2=>by
  obtain⟨f1,f2⟩:=sd k q.arr (λx hx=>by
   rcases List.mem_append.mp hx with h|h
   ·exact Nat.lt_succ_of_lt (h1 x h)
   ·rw[List.mem_singleton.mp h];exact Nat.lt_succ_self _) (λx hx=>by
   rcases x9 hx with h|h
   ·rw[h];exact Nat.lt_succ_self _
   ·exact Nat.lt_succ_of_lt (h2 x h))
  have e:q.arr.c=q.c+1:=rfl
  rw[e]at f1 f2
  exact⟨λx hx=>by have:=f1 x hx;omega,λx hx=>by have:=f2 x hx;omega⟩
theorem CI.come(x:CI lt cm op t g c i ns hs ar q){j:Nat}(h5:c+j≤5):CI lt cm op t g (c+j) i ns hs ar (bQ j q):=by
 have hc:=x.qc
 obtain⟨m1,m2⟩:=sd j q (λy hy=>by rw[hc];exact x.rm y hy) (λy hy=>by rw[hc];exact x.pm y hy)
 have hrc:=x.rc
 refine⟨x.hi,by have:=x.gc;omega,h5,by omega,?_,?_,?_,λy hy=>by rw[←hc];exact m1 y hy,λy hy=>by rw[←hc];exact m2 y hy,x.pd,x.ht,x.it,x.ro⟩
 ·rw[x.run,rX];congr 1;omega
 ·rw[(km j q).1,x.rl];have:=x.gc;omega
 ·rw[(km j q).2,x.pll];have:=x.gc;omega
theorem bX{α:Type}(l:List α)(y d:α)(p:Nat):(l++[y]).getD p d=if p<l.length then l.getD p d else if p=l.length then y else d:=by
 rw[List.getD_eq_getElem?_getD,List.getD_eq_getElem?_getD]
 by_cases h:p<l.length
 ·rw[if_pos h,List.getElem?_append_left h]
 ·rw[if_neg h,List.getElem?_append_right (by omega)]
  by_cases e:p=l.length
  ·rw[if_pos e,e];simp
  ·rw[if_neg e,List.getElem?_eq_none (by simp;omega)];rfl
theorem ya{hs:List Nat}{y p:Nat}(h:p≤hs.length):kB (hs++[y]) p=kB hs p:=by
 unfold kB
 by_cases e:p=0
 ·rw[if_pos e,if_pos e]
 ·rw[if_neg e,if_neg e,bX,if_pos (by omega)]
theorem eO:∀(n t:Nat) (q:List Nat),(aQ lt n t q).2.length=q.length
 | 0,_,_=>rfl
 | _+1,_,[]=>rfl
 | n+1,t,o::q=>by
  unfold aQ
  split
  ·rw[eO n];simp
  ·rw[eO n];simp
theorem dU:∀(n t:Nat) (q:List Nat),((aQ lt n t q).1::(aQ lt n t q).2).Perm (t::q)
 | 0,_,_=>.refl _
 | _+1,_,[]=>.refl _
 | n+1,t,o::q=>by
  unfold aQ
  split
  ·exact(dU n o (q++[t])).trans ((List.Perm.cons o (List.perm_append_singleton t q)).trans (.swap t o q))
  ·exact(dU n t (q++[o])).trans (List.Perm.cons t (List.perm_append_singleton o q))
theorem CI.go(x:CI lt cm op t g c i ns hs ar q)(h5:g<5)(hgc:g<c)(hop:op t=true)(hlo:∀j,j<c→cm j≤t)(hhi:∀j,c≤j→j<5→t<cm j){r0:Nat}{rest:List Nat}(hq:q.ring=r0::rest):
  CI lt cm op (t+1) (g+1) c i (ns++[c]) (hs++[t]) (ar++[((t:Int),(g:Int),((aQ lt (q.pile.length-1) r0 rest).1:Int),((q.pile.getD ((q.pile.length-1)/2) 9:Nat):Int))]) ⟨c,(aQ lt (q.pile.length-1) r0 rest).2,q.pile.eraseIdx (q.pile.length-1-q.pile.length/2)⟩:=by
 have hc:=x.qc
 have hstep:cI lt (ns++[c])=(⟨c,(aQ lt (q.pile.length-1) r0 rest).2,q.pile.eraseIdx (q.pile.length-1-q.pile.length/2)⟩,(cI lt ns).2++[((aQ lt (q.pile.length-1) r0 rest).1,q.pile.getD ((q.pile.length-1)/2) 9)]):=by
  rw[oT]
  unfold gX
  rw[←x.run]
  unfold Qs.srv
  rw[hq]
  dsimp only
  rw[hc]
 have hl:rest.length+1=c-g:=by have:=x.rl;rw[hq]at this;exact this
 have hgo:=x.hi.lh
 have hgn:=x.hi.ln
 have outl:(cI lt ns).2.length=g:=by unfold cI;rw[kn,hgn];simp
 have r5:(aQ lt (q.pile.length-1) r0 rest).1<5:=by
  have:(aQ lt (q.pile.length-1) r0 rest).1∈r0::rest:=(dU _ _ _).mem_iff.mp (.head _)
  have:=x.rm _ (hq▸this)
  have:=x.c5;omega
 have p5:q.pile.getD ((q.pile.length-1)/2) 9<5:=by
  have hlt:(q.pile.length-1)/2<q.pile.length:=by have:=x.pll;omega
  rw[List.getD_eq_getElem?_getD,List.getElem?_eq_getElem hlt]
  have:=x.pm _ (List.getElem_mem hlt)
  have h5:=x.c5
  exact Nat.lt_of_lt_of_le this h5
 have hist:tU lt cm op (g+1) (ns++[c]) (hs++[t]):=by
  refine⟨by simp[hgn],by simp[hgo],λp hp=>?_,λp hp j hj=>?_,λp hp=>?_⟩
  ·rw[ya (by omega),bX]
   by_cases e:p<g
   ·rw[if_pos (by omega)];exact x.hi.nx p e
   ·have e:p=g:=by omega
    subst e
    rw[if_neg (by omega),if_pos hgo.symm]
    exact⟨hop,x.ht,hlo _ hgc,x.pd h5⟩
  ·rw[bX,bX]
   by_cases e:p<g
   ·rw[if_pos (by omega),if_pos (by omega)];exact x.hi.nn p e j hj
   ·have e:p=g:=by omega
    subst e
    rw[if_neg (by omega),if_pos hgn.symm,if_neg (by omega),if_pos hgo.symm]
    constructor
    ·exact hlo j
    ·intro h
     rcases Nat.lt_or_ge j c with h'|h'
     ·exact h'
     ·have:=hhi j h' hj;omega
  ·rw[bX]
   by_cases e:p<g
   ·rw[if_pos (by omega)];exact x.hi.n5 p e
   ·have e:p=g:=by omega
    subst e
    rw[if_neg (by omega),if_pos hgn.symm]
    exact⟨hgc,x.c5⟩
 refine⟨hist,hgc,x.c5,by rw[hstep];exact Nat.le_refl _,by rw[hstep];simp[bQ],?_,?_,λy hy=>?_,λy hy=>x.pm y (List.mem_of_mem_eraseIdx hy),λh s h1 h2 h3=>?_,?_,by have:=x.it;omega,?_⟩
 ·show(aQ lt (q.pile.length-1) r0 rest).2.length=_
  rw[eO];omega
 ·show(q.pile.eraseIdx _).length=_
  rw[List.length_eraseIdx_of_lt (by have:=x.pll;omega)]
  have:=x.pll;omega
 ·have:y∈r0::rest:=(dU _ _ _).mem_iff.mp (.tail _ hy)
  exact x.rm y (hq▸this)
 ·unfold kB at h1
  rw[if_neg (by omega),Nat.add_sub_cancel,bX,if_neg (by omega),if_pos hgo.symm]at h1
  omega
 ·unfold kB
  rw[if_neg (by omega),Nat.add_sub_cancel,bX,if_neg (by omega),if_pos hgo.symm]
  exact Nat.le_refl _
 ·refine⟨?_,by rw[List.length_append,x.ro.al];simp;omega,λr hr=>?_⟩
  ·rw[List.filter_append,x.ro.bz]
   have hb:m8 ((t:Int),(g:Int),((aQ lt (q.pile.length-1) r0 rest).1:Int),((q.pile.getD ((q.pile.length-1)/2) 9:Nat):Int))=true:=by
    unfold m8
    simp only[bne_iff_ne]
    omega
   rw[List.filter_cons,if_pos hb,List.filter_nil]
   unfold oU
   rw[List.range_succ,List.map_append,hstep]
   have two:∀{a b c d:List AR},a=b→c=d→a++c=b++d:=λh1 h2=>by rw[h1,h2]
   refine two (List.map_congr_left λp hp=>?_) ?_
   ·have hp:=List.mem_range.mp hp
    dsimp only
    rw[bX,if_pos (by omega),bX,if_pos (by omega)]
   ·dsimp only[List.map]
    rw[bX,if_neg (by omega),if_pos hgo.symm,bX,if_neg (by omega),if_pos outl.symm]
  ·rcases List.mem_append.mp hr with hr|hr
   ·exact x.ro.ax r hr
   ·rw[List.mem_singleton.mp hr]
    right
    dsimp only
    omega
theorem CI.idle(x:CI lt cm op t g c i ns hs ar q)(hgc:g=c)(hhi:∀j,c≤j→j<5→t<cm j):CI lt cm op (t+1) g c (i+1) ns hs (ar++[((t:Int),9,9,9)]) q:=by
 refine⟨x.hi,x.gc,x.c5,x.rc,x.run,x.rl,x.pll,x.rm,x.pm,λh s h1 h2 h3=>?_,by have:=x.ht;omega,by have:=x.it;omega,?_,?_,λr hr=>?_⟩
 ·rcases Nat.lt_or_ge s t with h'|h'
  ·exact x.pd h s h1 h2 h'
  ·have:=hhi g (by omega) h;omega
 ·rw[List.filter_append,x.ro.bz]
  simp[m8]
 ·rw[List.length_append,x.ro.al];simp;omega
 ·rcases List.mem_append.mp hr with hr|hr
  ·exact x.ro.ax r hr
  ·rw[List.mem_singleton.mp hr];exact .inl ⟨rfl,rfl,rfl⟩
theorem CI.wait(x:CI lt cm op t g c i ns hs ar q)(hop:op t=false):CI lt cm op (t+1) g c i ns hs ar q:=
 ⟨x.hi,x.gc,x.c5,x.rc,x.run,x.rl,x.pll,x.rm,x.pm,λh s h1 h2 h3=>by
  rcases Nat.lt_or_ge s t with h'|h'
  ·exact x.pd h s h1 h2 h'
  ·have:s=t:=by omega
   rw[this];exact hop,by have:=x.ht;omega,by have:=x.it;omega,x.ro⟩
end
section
variable{lt:Nat→Nat→Bool}
theorem jB(ha:∀x y,lt x y=true→lt y x=false)(ht:∀x y z,lt x y=true→lt y z=true→lt x z=true):∀(a b:List Nat) (t:Nat),(∀y∈b,lt y t=false)→∀y∈(aQ lt a.length t (a++b)).2,lt y (aQ lt a.length t (a++b)).1=false
 | [],b,t,h,y,hy=>h y hy
 | o::a,b,t,h,y,hy=>by
  rw[List.length_cons,List.cons_append]at hy ⊢
  unfold aQ at hy ⊢
  by_cases q:lt o t=true
  ·rw[if_pos q]at hy ⊢
   rw[List.append_assoc]at hy ⊢
   refine jB ha ht a (b++[t]) o (λz hz=>?_) y hy
   rcases List.mem_append.mp hz with hz|hz
   ·cases e:lt z o with
    | false=>rfl
    | true=>have:=h z hz;rw[ht z o t e q]at this;cases this
   ·rw[List.mem_singleton.mp hz];exact ha o t q
  ·rw[if_neg q]at hy ⊢
   rw[List.append_assoc]at hy ⊢
   refine jB ha ht a (b++[o]) t (λz hz=>?_) y hy
   rcases List.mem_append.mp hz with hz|hz
   ·exact h z hz
   ·rw[List.mem_singleton.mp hz];simpa using q
theorem oV:∀(j:Nat) (q:Qs) (o:List Nat),(o++q.ring).Perm (List.range q.c)→(o++(bQ j q).ring).Perm (List.range (q.c+j))
 | 0,_,_,h=>h
 | j+1,q,o,h=>by
  have e:(o++q.arr.ring).Perm (List.range (q.c+1)):=by
   show(o++(q.ring++[q.c])).Perm _
   rw[List.range_succ,←List.append_assoc]
   exact h.append_right _
  have:=oV j q.arr o e
  rw[bQ]
  refine this.trans (.of_eq ?_)
  show List.range (q.c+1+j)=_
  congr 1;omega
structure B8(lt:Nat→Nat→Bool):Prop where
 a:∀x y,lt x y=true→lt y x=false
 t:∀x y z,lt x y=true→lt y z=true→lt x z=true
structure DP(ns:List Nat):Prop where
 gt:∀p,p<ns.length→p<ns.getD p 0
 mo:∀p,p+1<ns.length→ns.getD p 0≤ns.getD (p+1) 0
def fs(o:List (Nat×Nat)):List Nat:=o.map (·.1)
structure RI(lt:Nat→Nat→Bool)(ns:List Nat)(k:Nat)(x:Qs×List (Nat×Nat)):Prop where
 ol:x.2.length=k
 pr:(fs x.2++x.1.ring).Perm (List.range x.1.c)
 pl:x.1.pile.length=x.1.ring.length
 c:x.1.c=if k=0 then 0 else ns.getD (k-1) 0
 mn:∀p,p<k→∀w,w<ns.getD p 0→w∉(fs x.2).take p→lt w ((fs x.2).getD p 9)=false
theorem pX(hl:B8 lt){ns:List Nat}(hn:DP ns):∀k,k≤ns.length→RI lt ns k (cI lt (ns.take k))
 | 0,_=>⟨rfl,.refl _,rfl,rfl,λp h=>absurd h (Nat.not_lt_zero _)⟩
 | k+1,hk=>by
  have ih:=pX hl hn k (by omega)
  have hkl:k<ns.length:=hk
  have en:ns[k]=ns.getD k 0:=by rw[List.getD_eq_getElem?_getD,List.getElem?_eq_getElem hkl];rfl
  rw[List.take_succ_eq_append_getElem hkl,oT,en]
  generalize cI lt (ns.take k)=x at ih ⊢
  have hgt:=hn.gt k hkl
  have hcn:x.1.c≤ns.getD k 0:=by
   rw[ih.c]
   by_cases e:k=0
   ·rw[if_pos e];omega
   ·rw[if_neg e]
    have:=hn.mo (k-1) (by omega)
    rw[show k-1+1=k by omega]at this
    exact this
  have hp:=oV (ns.getD k 0-x.1.c) x.1 (fs x.2) ih.pr
  rw[show x.1.c+(ns.getD k 0-x.1.c)=ns.getD k 0 by omega]at hp
  obtain⟨l1,l2⟩:=km (ns.getD k 0-x.1.c) x.1
  have hcc:=tT (ns.getD k 0-x.1.c) x.1
  rw[show x.1.c+(ns.getD k 0-x.1.c)=ns.getD k 0 by omega]at hcc
  unfold gX Qs.srv
  dsimp only
  generalize bQ (ns.getD k 0-x.1.c) x.1=q1 at hp l1 l2 hcc ⊢
  have hfl:(fs x.2).length=k:=by unfold fs;rw[List.length_map,ih.ol]
  have hlen:=hp.length_eq
  rw[List.length_append,List.length_range,hfl]at hlen
  cases hr:q1.ring with
  | nil=>rw[hr,List.length_nil]at hlen;omega
  | cons r0 rest=>
   dsimp only
   rw[hr]at hp l1
   have hp1:q1.pile.length=rest.length+1:=by
    have:(r0::rest).length=x.1.ring.length+_:=l1
    rw[List.length_cons]at this
    have:=ih.pl
    omega
   have hpl:q1.pile.length-1=rest.length:=by omega
   have hpe:=dU (lt:=lt) (q1.pile.length-1) r0 rest
   have hmin:=jB hl.a hl.t rest [] r0 (λy hy=>by cases hy)
   rw[List.append_nil,←hpl]at hmin
   have hfs:fs (x.2++[((aQ lt (q1.pile.length-1) r0 rest).1,q1.pile.getD ((q1.pile.length-1)/2) 9)])=fs x.2++[(aQ lt (q1.pile.length-1) r0 rest).1]:=by unfold fs;rw[List.map_append];rfl
   refine⟨by simp[ih.ol],?_,?_,by rw[if_neg (by omega)];exact hcc,λp hp' w hw hnot=>?_⟩
   ·rw[hfs]
    show(fs x.2++[_]++(aQ lt (q1.pile.length-1) r0 rest).2).Perm (List.range q1.c)
    rw[List.append_assoc,hcc]
    exact(hpe.append_left _).trans hp
   ·show(q1.pile.eraseIdx _).length=(aQ lt (q1.pile.length-1) r0 rest).2.length
    rw[eO,List.length_eraseIdx_of_lt (by omega)]
    omega
   ·rw[hfs]at hnot ⊢
    rw[bX]
    by_cases e:p<k
    ·rw[if_pos (by omega)]
     rw[List.take_append_of_le_length (by omega)]at hnot
     exact ih.mn p e w hw hnot
    ·have e:p=k:=by omega
     subst e
     rw[if_neg (by omega),if_pos hfl.symm]
     rw[List.take_append_of_le_length (by omega),List.take_of_length_le (by omega)]at hnot
     have hw':w∈fs x.2++r0::rest:=hp.mem_iff.mpr (List.mem_range.mpr hw)
     rcases List.mem_append.mp hw' with h|h
     ·exact absurd h hnot
     ·rcases List.mem_cons.mp (hpe.mem_iff.mpr h)with h|h
      ·rw[h]
       cases z:lt (aQ lt (q1.pile.length-1) r0 rest).1 (aQ lt (q1.pile.length-1) r0 rest).1 with
       | false=>rfl
       | true=>rw[←hl.a _ _ z,z]
      ·exact hmin w h
theorem se(lt':Nat→Nat→Bool):∀(ns:List Nat) (x y:Qs×List (Nat×Nat)),x.1.c=y.1.c→x.1.pile=y.1.pile→x.1.ring.length=y.1.ring.length→x.2.map (·.2)=y.2.map (·.2)→(ns.foldl (gX lt) x).2.map (·.2)=(ns.foldl (gX lt') y).2.map (·.2)
 | [],_,_,_,_,_,h=>h
 | n::ns,x,y,h1,h2,h3,h4=>by
  rw[List.foldl_cons,List.foldl_cons]
  have key:∀j,(bQ j x.1).c=(bQ j y.1).c∧(bQ j x.1).pile=(bQ j y.1).pile∧(bQ j x.1).ring.length=(bQ j y.1).ring.length:=λj=>by
   induction j with
   | zero=>exact⟨h1,h2,h3⟩
   | succ j ih=>
    obtain⟨i1,i2,i3⟩:=ih
    rw[gz,gz]
    refine⟨by show _+1=_+1;rw[i1],?_,?_⟩
    ·show fJ _ _ _=fJ _ _ _;rw[i1,i2]
    ·show(_++[_]).length=(_++[_]).length;simp[i3]
  obtain⟨k1,k2,k3⟩:=key (n-x.1.c)
  rw[h1]at k1 k2 k3
  refine se lt' ns _ _ ?_ ?_ ?_ ?_
  all_goals
   unfold gX Qs.srv
   rw[h1]
   generalize bQ (n-y.1.c) x.1=a at k1 k2 k3 ⊢
   generalize bQ (n-y.1.c) y.1=b at k1 k2 k3 ⊢
   obtain⟨ac,ar,ap⟩:=a
   obtain⟨bc,br,bp⟩:=b
   dsimp only at k1 k2 k3
   subst k1 k2
   cases ar with
   | nil=>cases br with
    | nil=>first|rfl|(simp[h4])|skip
    | cons=>cases k3
   | cons r ar=>cases br with
    | nil=>cases k3
    | cons r' br=>
     first
     | rfl
     | (dsimp only;rw[eO,eO];simpa using k3)
     | (simp[h4])
end
def c5(f:Nat→Bool):Nat:=(f 0).toNat+((f 1).toNat+((f 2).toNat+((f 3).toNat+(f 4).toNat)))
def cn(s:List Nat)(p0 a:Nat):Nat:=c5 λp=>Nat.ble p0 p&&Nat.blt (s.getD p 9) a
def dW:List Nat:=[0,1,2,3,4]
def Ec(r:List Nat)(a p1:Nat):Bool:=(List.range 5).any λp2=>Nat.blt p1 p2&&(Nat.blt (r.getD p2 9) a&&Nat.ble a (r.getD p1 9))
def Ed(r ns:List Nat)(a p1:Nat):Bool:=(List.range 5).any λp2=>Nat.blt p1 p2&&(Nat.blt (r.getD p1 9) a&&(Nat.ble a (r.getD p2 9)&&Nat.blt (r.getD p2 9) (ns.getD p1 9)))
def pY(r:List Nat):Bool:=((List.range 6).all λa=>(List.range 6).all λp0=>Nat.ble (cn dW p0 a) (cn r p0 a)&&(Nat.beq (cn dW p0 a) (cn r p0 a)||(List.range 5).any λp1=>Ec r a p1)) &&
 ((List.range 6).all λa=>(List.range 5).all λp1=>!Ec r a p1||Nat.blt (cn dW (p1+1) a) (cn r (p1+1) a))
def pZ(ns la r:List Nat):Bool:=((List.range 6).all λa=>(List.range 6).all λp0=>Nat.ble (cn r p0 a) (cn la p0 a)&&(Nat.beq (cn r p0 a) (cn la p0 a)||(List.range 5).any λp1=>Ed r ns a p1)) &&
 ((List.range 6).all λa=>(List.range 5).all λp1=>!Ed r ns a p1||Nat.blt (cn r (p1+1) a) (cn la (p1+1) a))
def tW:List Nat→List Nat→List (List Nat)
 | [],_=>[[]]
 | n::ns,used=>((List.range n).filter λx=>!used.contains x).flatMap λx=>(tW ns (x::used)).map (x::·)
def DQ:Nat→Nat→Nat→List (List Nat)
 | 0,_,_=>[[]]
 | k+1,p,lo=>((List.range 6).filter λx=>Nat.ble lo x&&Nat.blt p x).flatMap λx=>(DQ k (p+1) x).map (x::·)
def cJ(ns:List Nat):List Nat:=(cI (λ_ _=>false) ns).2.map (·.2)
def zy:List (List Nat×List Nat):=[([1,2,3,4,5],[0,1,2,3,4]),([1,2,3,5,5],[0,1,2,4,3]),([1,2,4,4,5],[0,1,3,2,4]),([1,2,4,5,5],[0,1,3,4,2]),([1,2,5,5,5],[0,1,4,3,2]),([1,3,3,4,5],[0,2,1,3,4]),([1,3,3,5,5],[0,2,1,4,3]),([1,3,4,4,5],[0,2,3,1,4]),([1,3,4,5,5],[0,2,3,4,1]),([1,3,5,5,5],[0,2,4,3,1]),([1,4,4,4,5],[0,3,2,1,4]),([1,4,4,5,5],[0,3,2,4,1]),([1,4,5,5,5],[0,3,4,2,1]),([1,5,5,5,5],[0,4,3,2,1]),([2,2,3,4,5],[1,0,2,3,4]),([2,2,3,5,5],[1,0,2,4,3]),([2,2,4,4,5],[1,0,3,2,4]),([2,2,4,5,5],[1,0,3,4,2]),([2,2,5,5,5],[1,0,4,3,2]),([2,3,3,4,5],[1,2,0,3,4]),([2,3,3,5,5],[1,2,0,4,3]),([2,3,4,4,5],[1,2,3,0,4]),([2,3,4,5,5],[1,2,3,4,0]),([2,3,5,5,5],[1,2,4,3,0]),([2,4,4,4,5],[1,3,2,0,4]),([2,4,4,5,5],[1,3,2,4,0]),([2,4,5,5,5],[1,3,4,2,0]),([2,5,5,5,5],[1,4,3,2,0]),([3,3,3,4,5],[2,1,0,3,4]),([3,3,3,5,5],[2,1,0,4,3]),([3,3,4,4,5],[2,1,3,0,4]),([3,3,4,5,5],[2,1,3,4,0]),([3,3,5,5,5],[2,1,4,3,0]),([3,4,4,4,5],[2,3,1,0,4]),([3,4,4,5,5],[2,3,1,4,0]),([3,4,5,5,5],[2,3,4,1,0]),([3,5,5,5,5],[2,4,3,1,0]),([4,4,4,4,5],[3,2,1,0,4]),([4,4,4,5,5],[3,2,1,4,0]),([4,4,5,5,5],[3,2,4,1,0]),([4,5,5,5,5],[3,4,2,1,0]),([5,5,5,5,5],[4,3,2,1,0])]
theorem B9:(DQ 5 0 0).map (λns=>(ns,cJ ns))=zy:=by decide +kernel
theorem zA:((tW [5,5,5,5,5] []).all λr=>pY r)=true:=by decide +kernel
theorem zB:(zy.all λx=>(tW x.1 []).all λr=>pZ x.1 x.2 r)=true:=by decide +kernel
theorem kq:∀{ns r used:List Nat},r.length=ns.length→(∀p,p<ns.length→r.getD p 9<ns.getD p 9)→r.Nodup→(∀x∈r,x∉used)→r∈tW ns used
 | [],[],_,_,_,_,_=>by simp[tW]
 | [],_::_,_,h,_,_,_=>by cases h
 | _::_,[],_,h,_,_,_=>by cases h
 | n::ns,x::r,used,h,hl,hn,hu=>by
  rw[tW,List.mem_flatMap]
  have h0:x<n:=hl 0 (by simp)
  rw[List.nodup_cons]at hn
  refine⟨x,?_,List.mem_map.mpr ⟨r,kq (by simpa using h) (λp hp=>?_) hn.2 (λy hy=>?_),rfl⟩⟩
  ·rw[List.mem_filter]
   refine⟨List.mem_range.mpr h0,?_⟩
   have:=hu x (.head _)
   simpa using this
  ·have:=hl (p+1) (by simp;omega)
   simpa using this
  ·intro hc
   rcases List.mem_cons.mp hc with rfl|hc
   ·exact hn.1 hy
   ·exact hu y (.tail _ hy) hc
theorem uL:∀(k p lo:Nat) (ns:List Nat),ns.length=k→(∀q,q<k→p+q<ns.getD q 0∧ns.getD q 0≤5)→(∀q,q+1<k→ns.getD q 0≤ns.getD (q+1) 0)→(∀q,q<k→lo≤ns.getD q 0)→ns∈DQ k p lo
 | 0,_,_,[],_,_,_,_=>by simp[DQ]
 | 0,_,_,_::_,h,_,_,_=>by cases h
 | _+1,_,_,[],h,_,_,_=>by cases h
 | k+1,p,lo,n::ns,h,h5,hm,hlo=>by
  rw[DQ,List.mem_flatMap]
  have a1:=h5 0 (by omega)
  have a2:=hlo 0 (by omega)
  simp only[List.getD_cons_zero]at a1 a2
  have hl:ns.length=k:=by simpa using h
  have up:∀q,q<k→n≤ns.getD q 0:=λq=>by
   induction q with
   | zero=>intro hq;have:=hm 0 (by omega);simpa using this
   | succ q ih=>
    intro hq
    have:=hm (q+1) (by omega)
    simp only[List.getD_cons_succ]at this
    have:=ih (by omega)
    omega
  refine⟨n,?_,List.mem_map.mpr ⟨ns,uL k (p+1) n ns hl (λq hq=>?_) (λq hq=>?_) up,rfl⟩⟩
  ·rw[List.mem_filter]
   refine⟨List.mem_range.mpr (by omega),?_⟩
   simp only[Bool.and_eq_true,Nat.ble_eq,Nat.blt_eq]
   omega
  ·have:=h5 (q+1) (by omega)
   simp only[List.getD_cons_succ]at this
   omega
  ·have:=hm (q+1) (by omega)
   simpa using this
theorem Ca{P:Nat→Prop}[DecidablePred P]:∀{n:Nat},(∀i j,i≤j→j<n→P j→P i)→∃a,a≤n∧∀j,j<n→(P j↔j<a)
 | 0,_=>⟨0,Nat.le_refl _,λj h=>absurd h (Nat.not_lt_zero _)⟩
 | n+1,h=>by
  by_cases q:P n
  ·exact⟨n+1,Nat.le_refl _,λj hj=>⟨λ_=>hj,λ_=>h j n (by omega) (by omega) q⟩⟩
  ·obtain⟨a,h1,h2⟩:=Ca (P:=P) (n:=n) λi j h1 h2=>h i j h1 (by omega)
   refine⟨a,by omega,λj hj=>?_⟩
   rcases Nat.lt_or_ge j n with h'|h'
   ·exact h2 j h'
   ·have:j=n:=by omega
    subst this
    exact⟨λz=>absurd z q,λz=>by omega⟩
structure AO(ns:List Nat)(cm hf:Nat→Nat):Prop where
 nl:ns.length=5
 n5:∀p,p<5→p<ns.getD p 0∧ns.getD p 0≤5
 nm:∀p,p+1<5→ns.getD p 0≤ns.getD (p+1) 0
 hi:∀p q,p<q→q<5→hf p<hf q
 mo:∀i j,i≤j→j<5→cm i≤cm j
 nn:∀p,p<5→∀j,j<5→(j<ns.getD p 0↔cm j≤hf p)
structure RO(ns r:List Nat):Prop where
 l:r.length=5
 nd:r.Nodup
 lt:∀p,p<5→r.getD p 9<ns.getD p 0
def cR(cm hf:Nat→Nat)(s:List Nat)(t u:Nat):Nat:=c5 λp=>decide (cm (s.getD p 9)≤t)&&decide (u<hf p)
theorem sf{f g:Nat→Bool}(h:∀p,p<5→f p=g p):c5 f=c5 g:=by
 unfold c5
 rw[h 0 (by decide),h 1 (by decide),h 2 (by decide),h 3 (by decide),h 4 (by decide)]
theorem yb{l:List Nat}{p:Nat}(h:p<l.length):l.getD p 9=l.getD p 0:=by
 rw[List.getD_eq_getElem?_getD,List.getD_eq_getElem?_getD,List.getElem?_eq_getElem h];rfl
theorem uM{r:List Nat}{a p1:Nat}:Ec r a p1=true↔∃p2,p2<5∧p1<p2∧r.getD p2 9<a∧a≤r.getD p1 9:=by
 unfold Ec
 rw[List.any_eq_true]
 constructor
 ·rintro⟨p2,h1,h2⟩
  simp only[Bool.and_eq_true,Nat.blt_eq,Nat.ble_eq]at h2
  exact⟨p2,List.mem_range.mp h1,h2⟩
 ·rintro⟨p2,h1,h2⟩
  refine⟨p2,List.mem_range.mpr h1,?_⟩
  simp only[Bool.and_eq_true,Nat.blt_eq,Nat.ble_eq]
  exact h2
theorem uN{r ns:List Nat}{a p1:Nat}:Ed r ns a p1=true↔∃p2,p2<5∧p1<p2∧r.getD p1 9<a∧a≤r.getD p2 9∧r.getD p2 9<ns.getD p1 9:=by
 unfold Ed
 rw[List.any_eq_true]
 constructor
 ·rintro⟨p2,h1,h2⟩
  simp only[Bool.and_eq_true,Nat.blt_eq,Nat.ble_eq]at h2
  exact⟨p2,List.mem_range.mp h1,h2⟩
 ·rintro⟨p2,h1,h2⟩
  refine⟨p2,List.mem_range.mpr h1,?_⟩
  simp only[Bool.and_eq_true,Nat.blt_eq,Nat.ble_eq]
  exact h2
theorem jC{r:List Nat}(h:pY r=true){a p0:Nat}(ha:a≤5)(hp:p0≤5):cn dW p0 a≤cn r p0 a∧(cn dW p0 a≠cn r p0 a→∃p1 p2,p1<5∧p2<5∧p1<p2∧r.getD p2 9<a∧a≤r.getD p1 9)∧
  (∀p1 p2,p1<5→p2<5→p1<p2→r.getD p2 9<a→a≤r.getD p1 9→cn dW (p1+1) a<cn r (p1+1) a):=by
 unfold pY at h
 rw[Bool.and_eq_true,List.all_eq_true,List.all_eq_true]at h
 obtain⟨h1,h2⟩:=h
 have h1:=List.all_eq_true.mp (h1 a (List.mem_range.mpr (by omega))) p0 (List.mem_range.mpr (by omega))
 have h2:=List.all_eq_true.mp (h2 a (List.mem_range.mpr (by omega)))
 rw[Bool.and_eq_true,Bool.or_eq_true,Nat.ble_eq,Nat.beq_eq,List.any_eq_true]at h1
 refine⟨h1.1,λhne=>?_,λp1 p2 q1 q2 q3 q4 q5=>?_⟩
 ·rcases h1.2 with h|⟨p1,hp1,h⟩
  ·exact absurd h hne
  ·obtain⟨p2,k⟩:=uM.mp h
   exact⟨p1,p2,List.mem_range.mp hp1,k.1,k.2.1,k.2.2.1,k.2.2.2⟩
 ·have:=h2 p1 (List.mem_range.mpr q1)
  rw[uM.mpr ⟨p2,q2,q3,q4,q5⟩]at this
  simpa using this
theorem jD{ns la r:List Nat}(h:pZ ns la r=true){a p0:Nat}(ha:a≤5)(hp:p0≤5):cn r p0 a≤cn la p0 a∧(cn r p0 a≠cn la p0 a→∃p1 p2,p1<5∧p2<5∧p1<p2∧r.getD p1 9<a∧a≤r.getD p2 9∧r.getD p2 9<ns.getD p1 9)∧
  (∀p1 p2,p1<5→p2<5→p1<p2→r.getD p1 9<a→a≤r.getD p2 9→r.getD p2 9<ns.getD p1 9→cn r (p1+1) a<cn la (p1+1) a):=by
 unfold pZ at h
 rw[Bool.and_eq_true,List.all_eq_true,List.all_eq_true]at h
 obtain⟨h1,h2⟩:=h
 have h1:=List.all_eq_true.mp (h1 a (List.mem_range.mpr (by omega))) p0 (List.mem_range.mpr (by omega))
 have h2:=List.all_eq_true.mp (h2 a (List.mem_range.mpr (by omega)))
 rw[Bool.and_eq_true,Bool.or_eq_true,Nat.ble_eq,Nat.beq_eq,List.any_eq_true]at h1
 refine⟨h1.1,λhne=>?_,λp1 p2 q1 q2 q3 q4 q5 q6=>?_⟩
 ·rcases h1.2 with h|⟨p1,hp1,h⟩
  ·exact absurd h hne
  ·obtain⟨p2,k⟩:=uN.mp h
   exact⟨p1,p2,List.mem_range.mp hp1,k.1,k.2.1,k.2.2.1,k.2.2.2.1,k.2.2.2.2⟩
 ·have:=h2 p1 (List.mem_range.mpr q1)
  rw[uN.mpr ⟨p2,q2,q3,q4,q5,q6⟩]at this
  simpa using this
section
variable{ns r:List Nat}{cm hf:Nat→Nat}
theorem AO.mem(x:AO ns cm hf):(ns,cJ ns)∈zy:=by
 rw[←B9]
 refine List.mem_map.mpr ⟨ns,uL 5 0 0 ns x.nl (λq hq=>?_) (λq hq=>x.nm q hq) (λq hq=>Nat.zero_le _),rfl⟩
 have:=x.n5 q hq;omega
theorem RO.lt5(x:AO ns cm hf)(y:RO ns r){p:Nat}(h:p<5):r.getD p 9<5:=by have:=y.lt p h;have:=x.n5 p h;omega
theorem RO.ck1(x:AO ns cm hf)(y:RO ns r):pY r=true:=by
 refine List.all_eq_true.mp zA r (kq (by rw[y.l];rfl) (λp hp=>?_) y.nd λ_ _=>List.not_mem_nil)
 have hp:p<5:=hp
 have:=y.lt5 x hp
 have:[5,5,5,5,5].getD p 9=5:=by
  match p,hp with
  | 0,_|1,_|2,_|3,_|4,_=>rfl
 omega
theorem RO.ck2(x:AO ns cm hf)(y:RO ns r):pZ ns (cJ ns) r=true:=by
 have h:=List.all_eq_true.mp zB _ x.mem
 refine List.all_eq_true.mp h r (kq (by rw[y.l,x.nl]) (λp hp=>?_) y.nd λ_ _=>List.not_mem_nil)
 have hp':p<ns.length:=hp
 show _<ns.getD p 9
 rw[yb hp']
 exact y.lt p (by rw[x.nl]at hp';exact hp')
theorem wc(x:AO ns cm hf)(t u:Nat):∃a p0,a≤5∧p0≤5∧(∀j,j<5→(cm j≤t↔j<a))∧(∀p,p<5→(hf p≤u↔p<p0))∧∀s:List Nat,(∀p,p<5→s.getD p 9<5)→cR cm hf s t u=cn s p0 a:=by
 obtain⟨a,h1,h2⟩:=Ca (P:=λj=>cm j≤t) (n:=5) λi j h1 h2 h3=>Nat.le_trans (x.mo i j h1 h2) h3
 obtain⟨p0,g1,g2⟩:=Ca (P:=λp=>hf p≤u) (n:=5) λi j h1 h2 h3=>by
  rcases Nat.eq_or_lt_of_le h1 with e|e
  ·rw[e];exact h3
  ·have:=x.hi i j e h2;show hf i≤u;have:hf j≤u:=h3;omega
 refine⟨a,p0,h1,g1,h2,g2,λs hs=>sf λp hp=>?_⟩
 rw[Bool.eq_iff_iff]
 simp only[Bool.and_eq_true,decide_eq_true_eq,Nat.ble_eq,Nat.blt_eq]
 have e1:=h2 _ (hs p hp)
 have e2:=g2 p hp
 omega
theorem tX:∀p,p<5→dW.getD p 9<5
 | 0,_|1,_|2,_|3,_|4,_=>by decide
theorem yc:∀p,p<5→dW.getD p 9=p
 | 0,_|1,_|2,_|3,_|4,_=>by rfl
theorem tY(x:AO ns cm hf)(y:RO ns r):(∀t u,cR cm hf dW t u≤cR cm hf r t u)∧
  ((∀p1 p2,p1<p2→p2<5→¬cm (r.getD p2 9)<cm (r.getD p1 9))↔∀t u,t≤u→cR cm hf dW t u=cR cm hf r t u):=by
 have hr:∀p,p<5→r.getD p 9<5:=λp hp=>y.lt5 x hp
 refine⟨λt u=>?_,λhn t u _=>?_,λhe p1 p2 h1 h2 hlt=>?_⟩
 ·obtain⟨a,p0,ha,hp,_,_,hc⟩:=wc x t u
  rw[hc _ tX,hc _ hr]
  exact(jC (y.ck1 x) ha hp).1
 ·obtain⟨a,p0,ha,hp,h1,h2,hc⟩:=wc x t u
  rw[hc _ tX,hc _ hr]
  refine Classical.byContradiction λhne=>?_
  obtain⟨p1,p2,k1,k2,k3,k4,k5⟩:=(jC (y.ck1 x) ha hp).2.1 hne
  have e1:=h1 _ (hr p1 k1)
  have e2:=h1 _ (hr p2 k2)
  have:=hn p1 p2 k3 k2
  omega
 ·obtain⟨a,p0,ha,hp,g1,g2,hc⟩:=wc x (cm (r.getD p2 9)) (hf p1)
  have hle:cm (r.getD p1 9)≤hf p1:=(x.nn p1 (by omega) _ (hr p1 (by omega))).mp (y.lt p1 (by omega))
  have:=he (cm (r.getD p2 9)) (hf p1) (by omega)
  rw[hc _ tX,hc _ hr]at this
  have e1:=g1 _ (hr p1 (by omega))
  have e2:=g1 _ (hr p2 h2)
  have hp0:p0=p1+1:=by
   have a1:=g2 p1 (by omega)
   have a2:=g2 (p1+1) (by omega)
   have a3:=x.hi p1 (p1+1) (by omega) (by omega)
   omega
  have:=(jC (y.ck1 x) ha hp).2.2 p1 p2 (by omega) h2 h1 (by omega) (by omega)
  rw[←hp0]at this
  omega
theorem tZ(x:AO ns cm hf)(y:RO ns r)(z:RO ns (cJ ns)):(∀t u,cR cm hf r t u≤cR cm hf (cJ ns) t u)∧
  ((∀p1 p2,p1<p2→p2<5→¬(cm (r.getD p1 9)<cm (r.getD p2 9)∧cm (r.getD p2 9)≤hf p1))↔∀t u,t≤u→cR cm hf r t u=cR cm hf (cJ ns) t u):=by
 have hr:∀p,p<5→r.getD p 9<5:=λp hp=>y.lt5 x hp
 have hz:∀p,p<5→(cJ ns).getD p 9<5:=λp hp=>z.lt5 x hp
 have hns:∀p,p<5→ns.getD p 9=ns.getD p 0:=λp hp=>yb (by rw[x.nl];exact hp)
 refine⟨λt u=>?_,λhn t u _=>?_,λhe p1 p2 h1 h2 hlt=>?_⟩
 ·obtain⟨a,p0,ha,hp,_,_,hc⟩:=wc x t u
  rw[hc _ hr,hc _ hz]
  exact(jD (y.ck2 x) ha hp).1
 ·obtain⟨a,p0,ha,hp,h1,h2,hc⟩:=wc x t u
  rw[hc _ hr,hc _ hz]
  refine Classical.byContradiction λhne=>?_
  obtain⟨p1,p2,k1,k2,k3,k4,k5,k6⟩:=(jD (y.ck2 x) ha hp).2.1 hne
  rw[hns p1 k1]at k6
  have e1:=h1 _ (hr p1 k1)
  have e2:=h1 _ (hr p2 k2)
  have e3:=(x.nn p1 k1 _ (hr p2 k2)).mp k6
  exact hn p1 p2 k3 k2 ⟨by omega,e3⟩
 ·obtain⟨a,p0,ha,hp,g1,g2,hc⟩:=wc x (cm (r.getD p1 9)) (hf p1)
  have hle:cm (r.getD p1 9)≤hf p1:=(x.nn p1 (by omega) _ (hr p1 (by omega))).mp (y.lt p1 (by omega))
  have:=he (cm (r.getD p1 9)) (hf p1) (by omega)
  rw[hc _ hr,hc _ hz]at this
  have e1:=g1 _ (hr p1 (by omega))
  have e2:=g1 _ (hr p2 h2)
  have hp0:p0=p1+1:=by
   have a1:=g2 p1 (by omega)
   have a2:=g2 (p1+1) (by omega)
   have a3:=x.hi p1 (p1+1) (by omega) (by omega)
   omega
  have h6:r.getD p2 9<ns.getD p1 9:=by rw[hns p1 (by omega)];exact(x.nn p1 (by omega) _ (hr p2 h2)).mpr hlt.2
  have:=(jD (y.ck2 x) ha hp).2.2 p1 p2 (by omega) h2 h1 (by omega) (by omega) h6
  rw[←hp0]at this
  omega
end
def fM(f:Nat→Nat):Nat→Nat
 | 0=>0
 | n+1=>fM f n+f n
theorem iH(f g:Nat→Nat):∀n,fM (λt=>f t+g t) n=fM f n+fM g n
 | 0=>rfl
 | n+1=>by rw[fM,fM,fM,iH f g n];omega
theorem qa{f g:Nat→Nat}(h:∀t,f t≤g t):∀n,fM f n≤fM g n
 | 0=>Nat.le_refl _
 | n+1=>Nat.add_le_add (qa h n) (h n)
theorem qb{f g:Nat→Nat}(h:∀t,f t≤g t):∀n,fM f n=fM g n→∀t,t<n→f t=g t
 | 0,_,t,ht=>absurd ht (Nat.not_lt_zero _)
 | n+1,e,t,ht=>by
  have h1:=qa h n
  have h2:=h n
  rw[fM,fM]at e
  rcases Nat.lt_or_ge t n with q|q
  ·exact qb h n (by omega) t q
  ·have:t=n:=by omega
   subst this
   omega
theorem m9{f g:Nat→Nat}:∀n,(∀t,t<n→f t=g t)→fM f n=fM g n
 | 0,_=>rfl
 | n+1,h=>by rw[fM,fM,m9 n λt ht=>h t (by omega),h n (by omega)]
theorem DR(c H θ:Nat):∀N,fM (λt=>(decide (c≤t)&&decide (t+θ<H)).toNat) N=min N (H-θ)-c
 | 0=>by simp[fM]
 | N+1=>by
  rw[fM,DR c H θ N]
  by_cases h1:c≤N
  ·by_cases h2:N+θ<H
   ·simp only[h1,h2,decide_true,Bool.and_self,Bool.toNat_true];omega
   ·simp only[h1,h2,decide_true,decide_false,Bool.and_false,Bool.toNat_false];omega
  ·simp only[h1,decide_false,Bool.false_and,Bool.toNat_false];omega
def jb(l:List Int)(θ:Nat):Nat:=(l.map λx=>(x-(θ:Int)).toNat).sum
abbrev wl(cm hf:Nat→Nat)(s:List Nat):List Int:=(List.range 5).map λp=>(hf p:Int)-(cm (s.getD p 9):Int)
theorem gA{l l':List Int}(h:l.Perm l')(θ:Nat):jb l θ=jb l' θ:=(h.map _).sum_nat
theorem kT(cm hf:Nat→Nat)(s:List Nat)(θ N:Nat)(hN:∀p,p<5→hf p≤N):jb (wl cm hf s) θ=fM (λt=>cR cm hf s t (t+θ)) N:=by
 have key:∀p,p<5→((hf p:Int)-(cm (s.getD p 9):Int)-(θ:Int)).toNat=fM (λt=>(decide (cm (s.getD p 9)≤t)&&decide (t+θ<hf p)).toNat) N:=λp hp=>by
  rw[DR]
  have:=hN p hp
  omega
 unfold cR c5
 rw[iH,iH,iH,iH,←key 0 (by decide),←key 1 (by decide),←key 2 (by decide),←key 3 (by decide),←key 4 (by decide)]
 rfl
theorem DS{l:List Int}(h:l.length=5):∃a b c d e,l=[a,b,c,d,e]:=by
 match l,h with
 | [a,b,c,d,e],_=>exact⟨a,b,c,d,e,rfl⟩
theorem DT(x:Int):∀(l:List Int) (θ:Nat),l.sum≤l.length*(θ:Int)+jb l θ
 | [],θ=>by simp[jb]
 | y::l,θ=>by
  have ih:=DT 0 l θ
  have e:jb (y::l) θ=(y-θ).toNat+jb l θ:=by simp[jb]
  rw[e,List.sum_cons,List.length_cons]
  push_cast
  rw[Int.add_mul]
  omega
theorem DU:∀(l:List Int) (θ:Nat),(∀x∈l,(θ:Int)≤x)→(l.length*(θ:Int)+jb l θ:Int)=l.sum
 | [],θ,_=>by simp[jb]
 | y::l,θ,h=>by
  have ih:=DU l θ λx hx=>h x (.tail _ hx)
  have hy:=h y (.head _)
  have e:jb (y::l) θ=(y-θ).toNat+jb l θ:=by simp[jb]
  rw[e,List.sum_cons,List.length_cons]
  push_cast
  rw[Int.add_mul]
  omega
theorem DV:∀(l:List Int) (θ:Nat),(∀x∈l,x≤(θ:Int))→jb l θ=0
 | [],θ,_=>by simp[jb]
 | y::l,θ,h=>by
  have ih:=DV l θ λx hx=>h x (.tail _ hx)
  have hy:=h y (.head _)
  have e:jb (y::l) θ=(y-θ).toNat+jb l θ:=by simp[jb]
  rw[e,ih]
  omega
theorem uO(a b:List Int)(θ:Nat):jb (a++b) θ=jb a θ+jb b θ:=by simp[jb]
theorem uP{a b:List Int}(ha:a.length=5)(hb:b.length=5)(pb:b.Pairwise (· ≤ ·))(h0:∀x∈b,0≤x)(h:∀θ:Nat,jb a θ≤jb b θ):∀k,k<5→(a.drop k).sum≤(b.drop k).sum:=λk hk=>by
 have hkb:k<b.length:=by omega
 have hz:=h0 _ (List.getElem_mem hkb)
 have hθ:((b[k].toNat:Nat):Int)=b[k]:=Int.toNat_of_nonneg hz
 have hu:=h b[k].toNat
 have e1:jb a b[k].toNat=jb (a.take k) b[k].toNat+jb (a.drop k) b[k].toNat:=by rw[←uO,List.take_append_drop]
 have e2:jb b b[k].toNat=jb (b.take k) b[k].toNat+jb (b.drop k) b[k].toNat:=by rw[←uO,List.take_append_drop]
 have e3:jb (b.take k) b[k].toNat=0:=DV _ _ λx hx=>by
  rw[hθ]
  obtain⟨i,hi,rfl⟩:=List.mem_iff_getElem.mp hx
  rw[List.getElem_take]
  have:i<k:=by rw[List.length_take]at hi;omega
  exact List.pairwise_iff_getElem.mp pb i k (by omega) hkb this
 have e4:=DU (b.drop k) b[k].toNat λx hx=>by
  rw[hθ]
  obtain⟨i,hi,rfl⟩:=List.mem_iff_getElem.mp hx
  rw[List.getElem_drop]
  rw[List.length_drop]at hi
  rcases Nat.eq_zero_or_pos i with rfl|q
  ·exact Int.le_refl _
  ·exact List.pairwise_iff_getElem.mp pb k (k+i) hkb (by omega) (by omega)
 have e5:=DT 0 (a.drop k) b[k].toNat
 rw[List.length_drop]at e4 e5
 rw[hb]at e4
 rw[ha]at e5
 rw[e1,e2,e3]at hu
 generalize ((5-k:Nat):Int)*((b[k].toNat:Nat):Int)=z at e4 e5
 omega
theorem zC{a b:List Int}(ha:a.length=5)(hb:b.length=5)(h1:∀k,k<5→(a.drop k).sum≤(b.drop k).sum)(h2:∀k,k<5→(b.drop k).sum≤(a.drop k).sum):a=b:=by
 obtain⟨a0,a1,a2,a3,a4,rfl⟩:=DS ha
 obtain⟨b0,b1,b2,b3,b4,rfl⟩:=DS hb
 have e0:=h1 0 (by decide);have e1:=h1 1 (by decide);have e2:=h1 2 (by decide);have e3:=h1 3 (by decide);have e4:=h1 4 (by decide)
 have f0:=h2 0 (by decide);have f1:=h2 1 (by decide);have f2:=h2 2 (by decide);have f3:=h2 3 (by decide);have f4:=h2 4 (by decide)
 simp only[List.drop,List.sum_cons,List.sum_nil]at *
 have:a0=b0∧a1=b1∧a2=b2∧a3=b3∧a4=b4:=by omega
 obtain⟨rfl,rfl,rfl,rfl,rfl⟩:=this
 rfl
section
variable{cm hf:Nat→Nat}{s s':List Nat}
theorem AJ(hs:∀p,p<5→cm (s.getD p 9)≤hf p):∀x∈cj (wl cm hf s),0≤x:=λx hx=>by
 have:=(bJ _).mem_iff.mp hx
 obtain⟨p,hp,rfl⟩:=List.mem_map.mp this
 have:=hs p (List.mem_range.mp hp)
 omega
theorem iI:(cj (wl cm hf s)).length=5:=by rw[(bJ _).length_eq];simp
theorem ye:∃N,∀p,p<5→hf p≤N:=⟨hf 0+hf 1+hf 2+hf 3+hf 4,λp hp=>by
 match p,hp with
 | 0,_|1,_|2,_|3,_|4,_=>omega⟩
theorem ng(hs':∀p,p<5→cm (s'.getD p 9)≤hf p)(h:∀t u,cR cm hf s t u≤cR cm hf s' t u):∀k,k<5→((cj (wl cm hf s)).drop k).sum≤((cj (wl cm hf s')).drop k).sum:=by
 obtain⟨N,hN⟩:=ye (hf:=hf)
 refine uP iI iI (dX _) (AJ hs') λθ=>?_
 rw[gA (bJ _),gA (bJ _),kT _ _ _ _ N hN,kT _ _ _ _ N hN]
 exact qa (λt=>h t (t+θ)) N
theorem sh(hs:∀p,p<5→cm (s.getD p 9)≤hf p)(hs':∀p,p<5→cm (s'.getD p 9)≤hf p)(h:∀t u,cR cm hf s t u≤cR cm hf s' t u):cj (wl cm hf s)=cj (wl cm hf s')↔∀t u,t≤u→cR cm hf s t u=cR cm hf s' t u:=by
 obtain⟨N,hN⟩:=ye (hf:=hf)
 constructor
 ·intro e t u htu
  have hS:jb (wl cm hf s) (u-t)=jb (wl cm hf s') (u-t):=by rw[←gA (bJ _),←gA (bJ (wl cm hf s')),e]
  rw[kT _ _ _ _ N hN,kT _ _ _ _ N hN]at hS
  rcases Nat.lt_or_ge t N with q|q
  ·have:=qb (λt=>h t (t+(u-t))) N
   have:=qb (f:=λt'=>cR cm hf s t' (t'+(u-t))) (g:=λt'=>cR cm hf s' t' (t'+(u-t))) (λt'=>h t' (t'+(u-t))) N hS t q
   simpa [show t+(u-t)=u by omega]using this
  ·refine sf λp hp=>?_
   have:=hN p hp
   have e:decide (u<hf p)=false:=by simp;omega
   rw[e,Bool.and_false,Bool.and_false]
 ·intro he
  refine zC iI iI (ng hs' h) ?_
  refine uP iI iI (dX _) (AJ hs) λθ=>?_
  rw[gA (bJ _),gA (bJ _),kT _ _ _ _ N hN,kT _ _ _ _ N hN]
  exact Nat.le_of_eq (m9 N λt _=>(he t (t+θ) (by omega)).symm)
end
abbrev yf:X:=.or (.cmp .isin (.var 28) (.var 30)) (.cmp .gt (.var 28) (.sub (.var 30) (.neg (.const (.int true (1))))))
abbrev we:X:=.cmp .lt (.var 46) (.const (.int true (5)))
abbrev yg:List Y:=[.loop v8 xZ,.ite yf rZ [],.aug 28 (.const (.int true (1)))]
structure MK(mks:List D)(op:Nat→Bool):Prop where
 ex:∃ms g L,bh mks=some ms∧lA mks (-1)=some (.int g L)∧L≤12∧∀t:Nat,op t=(ms.any (· == (t:Int))||decide (L<(t:Int)))
structure Cv(cm:Nat→Nat):Prop where
 mo:∀i j,i≤j→j<5→cm i≤cm j
 le:∀i,i<5→cm i≤10
structure WO(wd:Nat→Str):Prop where
 ix:∀i,i<5→gw ((List.range 5).map wd) (wd i)=i
 dot:gw ((List.range 5).map wd) (nm ".")=9
section
variable{F:Nat→List D→Option D}{me:Me}{wd:Nat→Str}{cm:Nat→Nat}{mks:List D}{op:Nat→Bool}
abbrev fZ(cm:Nat→Nat):Nat→Int:=λi=>(cm i:Int)
structure CW(wd:Nat→Str)(cm:Nat→Nat)(mks:List D)(op:Nat→Bool)(g:Nat)(st:St):Prop where
 ex:∃t c i ns hs ar q me,st=⟨me,cO (LX i ((List.range' g (c-g)).map (wS wd))) (LX i (q.ring.map (wS wd))) (q.pile.map (wS wd)) (ar.map cc)⟩∧BM wd (fZ cm) mks me∧me.lookup 45=some (.int true ((c:Nat):Int))∧me.lookup 46=some (.int true ((g:Nat):Int))∧me.lookup 28=some (.int true ((t:Nat):Int))∧
  CI (f6 wd) cm op t g c i ns hs ar q∧g≤5∧(∀j,j<c→cm j<t)∧(∀j,c≤j→j<5→t≤cm j)∧t≤30
def DW(wd:Nat→Str)(cm:Nat→Nat)(mks:List D)(op:Nat→Bool)(m:Nat)(st:St):Prop:=∃g t:Nat,CW wd cm mks op g st∧st.me.lookup 28=some (.int true (t:Int))∧(13-t)+(5-g)≤m∧t+m≤30
theorem sj(wd:Nat→Str){g c j:Nat}(h:g≤c):(List.range' g (c-g)).map (wS wd)++(List.range' c j).map (wS wd)=(List.range' g (c+j-g)).map (wS wd):=by
 rw[←List.map_append]
 have:=List.range'_append_1 (s:=g) (m:=c-g) (n:=j)
 rw[show g+(c-g)=c by omega,show c-g+j=c+j-g by omega]at this
 rw[this]
theorem DX(hm:MK mks op){t:Nat}{me:Me}(x:BM wd (fZ cm) mks me)(h28:me.lookup 28=some (.int true (t:Int))):ev F 48 yf me=some (.bool (op t)):=by
 obtain⟨ms,g,L,h1,h2,_,h3⟩:=hm.ex
 rw[h3]
 cases hb:ms.any (· == (t:Int))with
 | true=>simp[ev,h28,x.l30,a9,h1,hb,aC]
 | false=>simp[ev,h28,x.l30,a9,h1,hb,aC,ft,h2]
theorem zD(hS:SC F)(hG:GI F)(hW:WH F wd)(hm:MK mks op)(hc:Cv cm)(hw:WO wd){m:Nat}{st:St}(x:DW wd cm mks op m st):
  ((match ev F 51 we st.me with|some d=>aC d|Option.none=>Option.none)=some false∧CW wd cm mks op 5 st)∨
  (∃m' st',m=m'+1∧(match ev F 51 we st.me with|some d=>aC d|Option.none=>Option.none)=some true∧(match bC F 51 yg st with
     | some (.next s'')=>if aS s''=aS st then some (.next s'')else Option.none
     | o=>o)=some (.next st')∧DW wd cm mks op m' st'):=by
 obtain⟨g,t,cw,ht28,hmeas,ht30⟩:=x
 have cw0:=cw
 obtain⟨t',c,i,ns,hs,ar,q,me,rfl,bm,h45,h46,h28,ci,hg5,hlo,hhi,_⟩:=cw
 have et:t=t':=by
  have:some (D.int true (t:Int))=some (.int true (t':Int)):=ht28.symm.trans h28
  have h:=Option.some.inj this
  injection h with _ h
  exact Int.ofNat.inj h
 subst et
 by_cases hg:g<5
 ·right
  have hg':(g:Int)<5:=by omega
  obtain⟨m',rfl⟩:∃m',m=m'+1:=⟨m-1,by omega⟩
  have hk:(match ev F 51 we me with|some d=>aC d|Option.none=>Option.none)=some true:=by
   simp[ev,h46,a9,aC,hg']
  have hgc:=ci.gc
  have hc5:=ci.c5
  obtain⟨j,me1,hj,e1,hj1,hj2,bm1,t4,kU,hsame⟩:=oR (F:=F) (rows:=ar.map cc) (t:=(t:Int)) (5-c) c q me (LX i ((List.range' g (c-g)).map (wS wd))) (LX i (q.ring.map (wS wd))) 49 (by omega) (by omega) bm h45 h28 ci.qc rfl (by simp) (by have:=ci.rl;omega) (by have:=ci.pll;omega)
  have ci1:=ci.come (j:=j) (by omega)
  have hlo1:∀j',j'<c+j→cm j'≤t:=λj' h=>by
   rcases Nat.lt_or_ge j' c with h'|h'
   ·have:=hlo j' h';omega
   ·have:=hj1 j' h' h
    have:(cm j':Int)=(t:Int):=this
    omega
  have hhi1:∀j',c+j≤j'→j'<5→t<cm j':=λj' h h'=>by
   have h1:(cm (c+j):Int)≠(t:Int):=hj2 (by omega)
   have h2:=hhi (c+j) (by omega) (by omega)
   have h3:=hc.mo (c+j) j' h h'
   omega
  have hA1:({ LX i ((List.range' g (c-g)).map (wS wd))with back:=(LX i ((List.range' g (c-g)).map (wS wd))).back++(List.range' c j).map (wS wd) }:a6)=LX i ((List.range' g (c+j-g)).map (wS wd)):=by
   show a6.mk _ _ _ _=a6.mk _ _ _ _
   rw[sj wd hgc]
  rw[hA1]at e1
  have t5:me1.lookup 46=some (.int true (g:Int)):=(hsame 46 (by decide)).trans h46
  have fin:∀(me2:Me) (g2 i2:Nat) (ns2 hs2:List Nat) (ar2:List AR) (q2:Qs),(match op t with|true=>bC F 48 rZ ⟨me1,cO (LX i ((List.range' g (c+j-g)).map (wS wd))) (LX i ((bQ j q).ring.map (wS wd))) ((bQ j q).pile.map (wS wd)) (ar.map cc)⟩|false=>some (.next ⟨me1,cO (LX i ((List.range' g (c+j-g)).map (wS wd))) (LX i ((bQ j q).ring.map (wS wd))) ((bQ j q).pile.map (wS wd)) (ar.map cc)⟩))=some (.next ⟨me2,cO (LX i2 ((List.range' g2 (c+j-g2)).map (wS wd))) (LX i2 (q2.ring.map (wS wd))) (q2.pile.map (wS wd)) (ar2.map cc)⟩)→
    BM wd (fZ cm) mks me2→me2.lookup 45=some (.int true ((c+j:Nat):Int))→me2.lookup 46=some (.int true (g2:Int))→me2.lookup 28=some (.int true (t:Int))→CI (f6 wd) cm op (t+1) g2 (c+j) i2 ns2 hs2 ar2 q2→g2≤5→(13-(t+1))+(5-g2)≤m'→
    ∃m'' st',m'+1=m''+1∧(match ev F 51 we me with|some d=>aC d|Option.none=>Option.none)=some true∧(match bC F 51 yg ⟨me,cO (LX i ((List.range' g (c-g)).map (wS wd))) (LX i (q.ring.map (wS wd))) (q.pile.map (wS wd)) (ar.map cc)⟩with
     | some (.next s'')=>if aS s''=aS ⟨me,cO (LX i ((List.range' g (c-g)).map (wS wd))) (LX i (q.ring.map (wS wd))) (q.pile.map (wS wd)) (ar.map cc)⟩then some (.next s'')else Option.none
     | o=>o)=some (.next st')∧DW wd cm mks op m'' st':=λme2 g2 i2 ns2 hs2 ar2 q2 hex b2 l45 l46 l28 ci2 hg2 hme=>by
   refine⟨m',⟨put 28 (.int true ((t+1:Nat):Int)) me2,cO (LX i2 ((List.range' g2 (c+j-g2)).map (wS wd))) (LX i2 (q2.ring.map (wS wd))) (q2.pile.map (wS wd)) (ar2.map cc)⟩,rfl,hk,?_,g2,t+1,⟨t+1,c+j,i2,ns2,hs2,ar2,q2,_,rfl,b2.put (by decide),by rw[aa,if_neg (by decide)];exact l45,by rw[aa,if_neg (by decide)];exact l46,by rw[aa,if_pos rfl],ci2,hg2,λj' h=>Nat.lt_succ_of_le (hlo1 j' h),λj' h h'=>hhi1 j' h h',by omega⟩,by show(put 28 _ me2).lookup 28=_;rw[aa,if_pos rfl],hme,by omega⟩
   have e2:bC F 51 yg ⟨me,cO (LX i ((List.range' g (c-g)).map (wS wd))) (LX i (q.ring.map (wS wd))) (q.pile.map (wS wd)) (ar.map cc)⟩=some (.next ⟨put 28 (.int true ((t+1:Nat):Int)) me2,cO (LX i2 ((List.range' g2 (c+j-g2)).map (wS wd))) (LX i2 (q2.ring.map (wS wd))) (q2.pile.map (wS wd)) (ar2.map cc)⟩):=by
    rw[ah (show ex F 50 (.loop v8 xZ) _=_ from e1)]
    have e3:ex F 49 (.ite yf rZ []) ⟨me1,cO (LX i ((List.range' g (c+j-g)).map (wS wd))) (LX i ((bQ j q).ring.map (wS wd))) ((bQ j q).pile.map (wS wd)) (ar.map cc)⟩=some (.next ⟨me2,cO (LX i2 ((List.range' g2 (c+j-g2)).map (wS wd))) (LX i2 (q2.ring.map (wS wd))) (q2.pile.map (wS wd)) (ar2.map cc)⟩):=by
     rw[ex,evS,dF,DX hm bm1 kU]
     dsimp only[aC]
     rw[←hex]
     cases op t<;>rfl
    rw[ah e3]
    have:(t:Int)+1=((t+1:Nat):Int):=by omega
    simp[bC,ex,ev,l28,gy,aS]
   rw[e2]
   dsimp only
   simp only[uK,if_true]
  cases hop:op t with
  | false=>
   rw[hop]at fin
   exact fin me1 g i ns hs ar (bQ j q) rfl bm1 t4 t5 kU (ci1.wait hop) hg5 (by
    have:t<13:=by
     rcases Nat.lt_or_ge t 13 with h|h
     ·exact h
     ·obtain⟨ms,gl,L,_,_,hL,h3⟩:=hm.ex
      rw[h3]at hop
      simp only[Bool.or_eq_false_iff,decide_eq_false_iff_not]at hop
      omega
    omega)
  | true=>
   rw[hop]at fin
   by_cases hgc1:g<c+j
   ·cases hq:(bQ j q).ring with
    | nil=>have:=ci1.rl;rw[hq]at this;simp at this;omega
    | cons r0 rest=>
     rw[hq]at fin
     have hrl:=ci1.rl
     rw[hq]at hrl
     have hrl':rest.length+1=c+j-g:=hrl
     have hpl:=ci1.pll
     have hAb:(LX i ((List.range' g (c+j-g)).map (wS wd))).back = .str true (wd g)::(List.range' (g+1) (c+j-(g+1))).map (wS wd):=by
      show(List.range' g (c+j-g)).map (wS wd)=_
      rw[show c+j-g=(c+j-(g+1))+1 by omega,List.range'_succ];rfl
     have hi1:=ci.it
     have hal:(ar.map cc).length≤100000:=by rw[List.length_map,ci.ro.al];omega
     obtain⟨me2,e2,b2,l46,lsame⟩:=v9 (F:=F) (me:=me1) (A:=LX i ((List.range' g (c+j-g)).map (wS wd))) (B:=LX i ((r0::rest).map (wS wd))) (rows:=ar.map cc) (cm:=fZ cm) (mks:=mks) (pile:=(bQ j q).pile) hS hG hW bm1 kU t5 (q:=q) hAb (by simp;omega) rfl (by omega) (by show 2*i≤10000;omega) (by show 2*i≤10000;omega) (by omega) hal
     have go:=ci1.go hg hgc1 hop hlo1 hhi1 hq
     have r5:(aQ (f6 wd) ((bQ j q).pile.length-1) r0 rest).1<5:=by
      have:(aQ (f6 wd) ((bQ j q).pile.length-1) r0 rest).1∈r0::rest:=(dU _ _ _).mem_iff.mp (.head _)
      have:=ci1.rm _ (hq▸this)
      omega
     have p5:(bQ j q).pile.getD (((bQ j q).pile.length-1)/2) 9<5:=by
      have hlt:((bQ j q).pile.length-1)/2<(bQ j q).pile.length:=by omega
      rw[List.getD_eq_getElem?_getD,List.getElem?_eq_getElem hlt]
      have:=ci1.pm _ (List.getElem_mem hlt)
      exact Nat.lt_of_lt_of_le this (by omega)
     refine fin me2 (g+1) i _ _ _ _ (e2.trans ?_) b2 ((lsame 45 (.inr rfl)).trans t4) (by rw[l46];rfl) ((lsame 28 (.inl rfl)).trans kU) go (by omega) (by omega)
     rw[List.map_append]
     unfold gV
     rw[hw.ix g hg,hw.ix _ r5,hw.ix _ p5]
     rfl
   ·have hge:g=c+j:=by have:=ci1.gc;omega
    have hr0:(bQ j q).ring=[]:=List.eq_nil_of_length_eq_zero (by rw[ci1.rl];omega)
    have hp0:(bQ j q).pile=[]:=List.eq_nil_of_length_eq_zero (by rw[ci1.pll];omega)
    have h10:t<10:=by
     have h1:=hhi1 g (by omega) hg
     have h2:=hc.le g hg
     omega
    have hi1:=ci.it
    have hal:(ar.map cc).length≤100000:=by rw[List.length_map,ci.ro.al];omega
    have hA0:(List.range' g (c+j-g)).map (wS wd)=[]:=by rw[hge,Nat.sub_self];rfl
    obtain⟨me2,e2,b2,lsame⟩:=wb (F:=F) (me:=me1) (rows:=ar.map cc) (cm:=fZ cm) (mks:=mks) (t:=(t:Int)) (i:=i) hS hW bm1 (by omega) kU hal
    have id:=ci1.idle hge hhi1
    refine fin me2 g (i+1) _ _ _ _ ?_ b2 ((lsame 45 (.inr (.inl rfl))).trans t4) ((lsame 46 (.inr (.inr rfl))).trans t5) ((lsame 28 (.inl rfl)).trans kU) id hg5 (by omega)
    rw[hr0,hp0,hA0]
    refine e2.trans ?_
    rw[List.map_append]
    unfold gV
    rw[hw.dot]
    rfl
 ·have e:g=5:=by omega
  subst e
  left
  exact⟨by simp[ev,h46,a9,aC],cw0⟩
end
def nh:D→Bool
 | .list [_,.int _ b,.int _ c,.int _ e]=>b==9&&(c==9&&e==9)
 | _=>false
theorem kr{α:Type}(p:α→Bool):∀l:List α,(l.filter p).length+(l.filter λx=>!p x).length=l.length
 | []=>rfl
 | x::l=>by
  have ih:=kr p l
  rw[List.filter_cons,List.filter_cons]
  cases h:p x<;>simp<;>omega
section
variable{F:Nat→List D→Option D}{me:Me}{wd:Nat→Str}{cm:Nat→Nat}{mks:List D}{op:Nat→Bool}
theorem AK{n:Nat}{x:X}{d:D}(b:Bi)(h:ev F n x me=some d):ev F (n+1) (.bi b [x]) me=nB b [d]:=by rw[ev];simp only[bn,h]
theorem Fm{n:Nat}{x:X}(b:Bi)(h:ev F n x me=none):ev F (n+1) (.bi b [x]) me=none:=by rw[ev];simp only[bn,h]
theorem wf{n i:Nat}{elt it:X}{ifs:List X}(h:gY (ev F n) (.one i) it (bA [i] me)=none):ev F (n+1) (.comp elt [(.one i,it,ifs)]) me=none:=by
 have ht:eX [(dA.one i,it,ifs)]=[i]:=rfl
 rw[ev,ht,hU,h]
theorem yh{lt:Nat→Nat→Bool}{g i:Nat}{ns hs:List Nat}{ar:List AR}(r:tV lt g i ns hs ar):((ar.map cc).filter nh).length=i:=by
 have h1:=kr m8 ar
 rw[r.bz,r.al]at h1
 have h2:(oU lt ns hs g).length=g:=by simp[oU]
 have h3:(ar.map cc).filter nh=(ar.filter λx=>!m8 x).map cc:=by
  rw[List.filter_map]
  congr 1
  refine List.filter_congr λx hx=>?_
  show(x.2.1==9&&(x.2.2.1==9&&x.2.2.2==9))=!(x.2.2.2 != 9)
  rcases r.ax x hx with⟨a,b,c⟩|⟨a,c⟩
  ·simp[a,b,c]
  ·have e1:(x.2.1==9)=false:=by simpa using a
   have e2:(x.2.2.2==9)=false:=by simpa using c
   simp[e1,bne,e2]
 rw[h3,List.length_map]
 omega
theorem wg(hS:SC F)(hG:GI F)(hW:WH F wd)(hm:MK mks op)(hc:Cv cm)(hw:WO wd):
  ∃ns hs ar i,tU (f6 wd) cm op 5 ns hs∧tV (f6 wd) 5 i ns hs ar∧i≤40∧bC F 60 cf ⟨cT.zip [.list (wL wd),.list (cL (fZ cm)),.list mks],[]⟩=some (.ret (.list (ar.map cc))):=by
 have hdots:dm .mul (.str true (nm ".\n")) (.int true 18)=some (.str true B6):=by rfl
 have hst:∃me0,BM wd (fZ cm) mks me0∧me0.lookup 45=some (.int true ((0:Nat):Int))∧me0.lookup 46=some (.int true ((0:Nat):Int))∧me0.lookup 28=some (.int true ((0:Nat):Int))∧bC F 60 cf ⟨cT.zip [.list (wL wd),.list (cL (fZ cm)),.list mks],[]⟩=bC F 53 (cf.drop 7) ⟨me0,cO (LX 0 []) (LX 0 []) [] []⟩:=by
  refine⟨[(26,.list (wL wd)),(27,.list (cL (fZ cm))),(30,.list mks),(45,.int true 0),(46,.int true 0),(28,.int true 0)],⟨rfl,rfl,rfl,rfl,rfl⟩,rfl,rfl,rfl,?_⟩
  unfold cf cT
  simp only[List.drop,List.zip_cons_cons,List.zip_nil_right]
  rw[ah (s':=⟨[(26,.list (wL wd)),(27,.list (cL (fZ cm))),(30,.list mks)],[(41,.lex (LX 0 []))]⟩) (by simp[ex,ev,hdots,aS,nz]),
   ah (s':=⟨[(26,.list (wL wd)),(27,.list (cL (fZ cm))),(30,.list mks)],[(42,.lex (LX 0 [])),(41,.lex (LX 0 []))]⟩) (by simp[ex,ev,hdots,aS,nz]),
   ah (s':=⟨[(26,.list (wL wd)),(27,.list (cL (fZ cm))),(30,.list mks)],[(43,.list []),(42,.lex (LX 0 [])),(41,.lex (LX 0 []))]⟩) (by simp[ex,bn,aS,nz]),
   ah (s':=⟨[(26,.list (wL wd)),(27,.list (cL (fZ cm))),(30,.list mks)],cO (LX 0 []) (LX 0 []) [] []⟩) (by simp[ex,bn,aS,nz]),
   ah (s':=⟨[(26,.list (wL wd)),(27,.list (cL (fZ cm))),(30,.list mks),(45,.int true 0)],cO (LX 0 []) (LX 0 []) [] []⟩) (by simp[ex,evS,dF,ev,aS,put]),
   ah (s':=⟨[(26,.list (wL wd)),(27,.list (cL (fZ cm))),(30,.list mks),(45,.int true 0),(46,.int true 0)],cO (LX 0 []) (LX 0 []) [] []⟩) (by simp[ex,evS,dF,ev,aS,put]),
   ah (s':=⟨[(26,.list (wL wd)),(27,.list (cL (fZ cm))),(30,.list mks),(45,.int true 0),(46,.int true 0),(28,.int true 0)],cO (LX 0 []) (LX 0 []) [] []⟩) (by simp[ex,evS,dF,ev,aS,put])]
 obtain⟨me0,b0,l45,l46,l28,e0⟩:=hst
 have init:DW wd cm mks op 18 ⟨me0,cO (LX 0 []) (LX 0 []) [] []⟩:=by
  refine⟨0,0,⟨0,0,0,[],[],[],⟨0,[],[]⟩,me0,rfl,b0,l45,l46,l28,?_,by omega,λj h=>absurd h (Nat.not_lt_zero _),λj _ _=>Nat.zero_le _,by omega⟩,l28,by omega,by omega⟩
  exact⟨⟨rfl,rfl,λp h=>absurd h (Nat.not_lt_zero _),λp h=>absurd h (Nat.not_lt_zero _),λp h=>absurd h (Nat.not_lt_zero _)⟩,Nat.le_refl _,Nat.zero_le _,Nat.le_refl _,rfl,rfl,rfl,λx h=>(by cases h),λx h=>(by cases h),λ_ s _ _ h=>absurd h (Nat.not_lt_zero _),Nat.le_refl _,Nat.le_refl _,⟨rfl,rfl,λr h=>(by cases h)⟩⟩
 obtain⟨st',e1,cw⟩:=uI (DW wd cm mks op) (CW wd cm mks op 5) (λm st x=>zD hS hG hW hm hc hw x) 18 51 _ init (by decide)
 obtain⟨t,c,i,ns,hs,ar,q,me,rfl,bm,h45,h46,h28,ci,_,_,_,ht30⟩:=cw
 have hi40:i≤40:=by have:=ci.it;omega
 refine⟨ns,hs,ar,i,ci.hi,ci.ro,hi40,?_⟩
 rw[e0]
 show bC F 53 [.loop we yg,.assign 49 _,.retLines 41 42 _ _ _ _] _=_
 rw[ah (show ex F 52 (.loop we yg) _=_ from e1)]
 have hal:ar.length≤100000:=by rw[ci.ro.al];omega
 have hal':(ar.map cc).length≤100000:=by rw[List.length_map];exact hal
 have hcomp:ev F 49 (.comp (.var 29) [((.one 29),(.var 44),[(.cmp .eq (.slice (.var 29) (some (.const (.int true (1)))) none) (.list [(.const (.int true (9))),(.const (.int true (9))),(.const (.int true (9)))]))])])
   (thaw ⟨me,cO (LX i ((List.range' 5 (c-5)).map (wS wd))) (LX i (q.ring.map (wS wd))) (q.pile.map (wS wd)) (ar.map cc)⟩).me=some (.list (((ar.map cc).filter nh).map id)):=by
  refine AG nh id ?_ (λx hx=>?_) (λx hx _=>?_) hal'
  ·simp[gY,ev,aY,thaw,eE,List.lookup,dD,hal]
  ·obtain⟨r,_,rfl⟩:=List.mem_map.mp hx
   have hsl:dC (cc r) (.int true 1) .none=some (.list [.int true r.2.1,.int true r.2.2.1,.int true r.2.2.2]):=rfl
   simp[dE,ev,bn,List.lookup,hsl,a9,eV,kC,aC,nh]
   cases h1:(r.2.1==9)<;>cases h2:(r.2.2.1==9)<;>cases h3:(r.2.2.2==9)<;>simp
  ·simp[ev,List.lookup]
 rw[List.map_id]at hcomp
 have hlen:=yh ci.ro
 have hil:((ar.map cc).filter nh).length≤100000:=by rw[hlen];omega
 have hthaw:=AK .len hcomp
 rw[show nB .len [.list ((ar.map cc).filter nh)]=some (.int true (i:Int)) by rw[nB,if_pos hil,hlen]]at hthaw
 have hno:ev F 50 (.bi .len [(.comp (.var 29) [((.one 29),(.var 44),[(.cmp .eq (.slice (.var 29) (some (.const (.int true (1)))) none) (.list [(.const (.int true (9))),(.const (.int true (9))),(.const (.int true (9)))]))])])]) me=none:=Fm .len (wf (by simp[gY,ev,aY,bm.n44]))
 rw[ah (s':=⟨put 49 (.int true (i:Int)) me,cO (LX i ((List.range' 5 (c-5)).map (wS wd))) (LX i (q.ring.map (wS wd))) (q.pile.map (wS wd)) (ar.map cc)⟩) (by
  rw[ex,evS,dF,hno,hthaw]
  simp[flat,aS])]
 have hal5:(ar.length:Int)=5+(i:Int):=by rw[ci.ro.al];omega
 have n44:(put 49 (D.int true (i:Int)) me).lookup 44=none:=by rw[aa,if_neg (by decide)];exact bm.n44
 have l49:(put 49 (D.int true (i:Int)) me).lookup 49=some (.int true (i:Int)):=by rw[aa,if_pos rfl]
 generalize put 49 (D.int true (i:Int)) me=me9 at n44 l49 ⊢
 have h3:dF F 49 (.bin .add (.const (.int true (1))) (.var 49)) ⟨me9,cO (LX i ((List.range' 5 (c-5)).map (wS wd))) (LX i (q.ring.map (wS wd))) (q.pile.map (wS wd)) (ar.map cc)⟩=some (.int true (1+(i:Int))):=by
  simp[dF,ev,l49,gy]
 have t44:(thaw ⟨me9,cO (LX i ((List.range' 5 (c-5)).map (wS wd))) (LX i (q.ring.map (wS wd))) (q.pile.map (wS wd)) (ar.map cc)⟩).me.lookup 44=some (.list (ar.map cc)):=rfl
 have t49:(thaw ⟨me9,cO (LX i ((List.range' 5 (c-5)).map (wS wd))) (LX i (q.ring.map (wS wd))) (q.pile.map (wS wd)) (ar.map cc)⟩).me.lookup 49=some (.int true (i:Int)):=l49
 have h5:evS F 49 (.var 44) ⟨me9,cO (LX i ((List.range' 5 (c-5)).map (wS wd))) (LX i (q.ring.map (wS wd))) (q.pile.map (wS wd)) (ar.map cc)⟩=some (.list (ar.map cc),thaw ⟨me9,cO (LX i ((List.range' 5 (c-5)).map (wS wd))) (LX i (q.ring.map (wS wd))) (q.pile.map (wS wd)) (ar.map cc)⟩):=by
  simp only[evS,dF,ev,n44,t44,flat,Bool.false_eq_true,if_false]
 have h4:dF F 49 (.cmp .eq (.bi .len [(.var 44)]) (.bin .add (.const (.int true (5))) (.var 49))) ⟨me9,cO (LX i ((List.range' 5 (c-5)).map (wS wd))) (LX i (q.ring.map (wS wd))) (q.pile.map (wS wd)) (ar.map cc)⟩=some (.bool true):=by
  simp only[dF,ev,bn,n44,t44,t49,nB,hal',if_true,gy,a9,eV,List.length_map,hal,hal5,flat,beq_self_eq_true]
 have hret:ex F 50 (.retLines 41 42 (.bin .add (.const (.int true (1))) (.var 49)) (.cmp .eq (.bi .len [(.var 44)]) (.bin .add (.const (.int true (5))) (.var 49))) (.var 44) (.list [])) ⟨me9,cO (LX i ((List.range' 5 (c-5)).map (wS wd))) (LX i (q.ring.map (wS wd))) (q.pile.map (wS wd)) (ar.map cc)⟩=some (.ret (.list (ar.map cc))):=by
  rw[ex]
  rw[show dN ⟨me9,cO (LX i ((List.range' 5 (c-5)).map (wS wd))) (LX i (q.ring.map (wS wd))) (q.pile.map (wS wd)) (ar.map cc)⟩ 41=some (LX i ((List.range' 5 (c-5)).map (wS wd)))from rfl,
   show dN ⟨me9,cO (LX i ((List.range' 5 (c-5)).map (wS wd))) (LX i (q.ring.map (wS wd))) (q.pile.map (wS wd)) (ar.map cc)⟩ 42=some (LX i (q.ring.map (wS wd)))from rfl,h3,h4]
  dsimp only[aC]
  rw[if_pos ⟨rfl,by omega,rfl⟩,h5]
 show bC F 51 [_] _=_
 rw[bC,hret]
end
abbrev zE:X:=.and (.cmp .notin (.var 51) (.var 30)) (.cmp .le (.var 51) (.sub (.var 30) (.neg (.const (.int true (1))))))
abbrev zF:List Y:=[.aug 51 (.const (.int true (1)))]
abbrev Cb:List Y:=[.assign 51 (.bi .max [(.bin .add (.var 51) (.const (.int true (1)))),(.var 45)]),.loop zE zF,.append 50 (.var 51)]
section
variable{F:Nat→List D→Option D}{cm:Nat→Nat}{mks:List D}{op:Nat→Bool}
structure HM(cm:Nat→Nat)(mks:List D)(me:Me):Prop where
 l27:me.lookup 27=some (.list (cL (fZ cm)))
 l30:me.lookup 30=some (.list mks)
 n50:me.lookup 50=none
theorem HM.put{me:Me}(x:HM cm mks me){i:Nat}{d:D}(h:i≠27)(h2:i≠30)(h3:i≠50):HM cm mks (put i d me):=
 ⟨by rw[aa,if_neg (Ne.symm h)];exact x.l27,by rw[aa,if_neg (Ne.symm h2)];exact x.l30,by rw[aa,if_neg (Ne.symm h3)];exact x.n50⟩
theorem yi(hm:MK mks op){v:Nat}{me:Me}{g:Bool}(x:HM cm mks me)(h51:me.lookup 51=some (.int g (v:Int))):ev F 53 zE me=some (.bool (!op v)):=by
 obtain⟨ms,g',L,h1,h2,_,h3⟩:=hm.ex
 rw[h3]
 cases hb:ms.any (· == (v:Int))with
 | true=>simp[ev,h51,x.l30,a9,h1,hb,aC]
 | false=>
  by_cases hL:L<(v:Int)
  ·have:¬(v:Int)≤L:=by omega
   simp[ev,h51,x.l30,a9,h1,hb,aC,ft,h2,hL,this]
  ·have:(v:Int)≤L:=by omega
   simp[ev,h51,x.l30,a9,h1,hb,aC,ft,h2,hL,this]
theorem t6{b:Bool}:aC (.bool b)=some b:=rfl
theorem yj{me:Me}{own:List (Nat×Ob)}:aS ⟨me,own⟩=own.map (·.1):=rfl
theorem sk(hm:MK mks op){own:List (Nat×Ob)}(hk:(aS ⟨[],own⟩).contains 51=false):∀(k v n:Nat) (me:Me) (g:Bool),k<n→op (v+k)=true→(∀s,v≤s→s<v+k→op s=false)→HM cm mks me→me.lookup 51=some (.int g (v:Int))→
  ∃me' g',lw F 53 zE zF n ⟨me,own⟩=some (.next ⟨me',own⟩)∧HM cm mks me'∧me'.lookup 51=some (.int g' ((v+k:Nat):Int))
 | k,v,0,_,_,h,_,_,_,_=>absurd h (Nat.not_lt_zero _)
 | 0,v,n+1,me,g,_,ho,_,x,h51=>⟨me,g,by unfold lw vd;dsimp only;rw[yi hm x h51,show op v=true from ho];rfl,x,h51⟩
 | k+1,v,n+1,me,g,h,ho,hno,x,h51=>by
  obtain⟨me',g',e,x',l'⟩:=sk hm hk k (v+1) n (put 51 (.int true ((v+1:Nat):Int)) me) true (by omega) (by rw[show v+1+k=v+(k+1) by omega];exact ho) (λs h1 h2=>hno s (by omega) (by omega)) (x.put (by decide) (by decide) (by decide)) (by rw[aa,if_pos rfl])
  refine⟨me',g',?_,x',by rw[l',show v+1+k=v+(k+1) by omega]⟩
  unfold lw vd
  dsimp only
  rw[yi hm x h51,hno v (Nat.le_refl _) (by omega)]
  simp only[Bool.not_false,t6]
  have hs:bC F 53 zF ⟨me,own⟩=some (.next ⟨put 51 (.int true ((v+1:Nat):Int)) me,own⟩):=by
   have:(v:Int)+1=((v+1:Nat):Int):=by omega
   have hk':(aS ⟨me,own⟩).contains 51=false:=hk
   simp only[bC,ex,ev,h51,gy,this,hk',Bool.false_eq_true,if_false]
  rw[hs]
  simp only[yj,if_true]
  exact e
theorem jE(hm:MK mks op){lo c h:Nat}(x:DO op lo c h):h≤max (max lo c) 13:=by
 rcases Nat.lt_or_ge (max (max lo c) 13) h with q|q
 ·have:=x.no (max (max lo c) 13) (by omega) (by omega) q
  obtain⟨ms,g,L,_,_,hL,h3⟩:=hm.ex
  rw[h3]at this
  simp only[Bool.or_eq_false_iff,decide_eq_false_iff_not]at this
  omega
 ·exact q
theorem cZ{n:Nat}{t:dA}{a:List Y}{st st':St}{d:D}{me':Me}(hk:nR t st=false)(hb:gb t d st.me=some me')(he:bC F n a ⟨me',st.own⟩=some (.next st'))(hkk:aS st'=aS st):a5 F n t a st d=some (.next st'):=by
 unfold a5
 rw[hk,hb]
 simp only[Bool.false_eq_true,if_false,he,hkk,if_true]
theorem oW(hm:MK mks op)(hc:Cv cm){lt:Nat→Nat→Bool}{ns hs:List Nat}(hh:tU lt cm op 5 ns hs):∀(k p:Nat) (me:Me) (g:Bool) (dn:List D),p+k=5→HM cm mks me→me.lookup 51=some (.int g ((kB hs p:Nat)-1:Int))→bh dn=some ((hs.take p).map λh:Nat=>(h:Int))→
  ∃me' dn',gG (a5 F 56 (.one 45) Cb) ((List.range' p k).map λi=>D.int true (fZ cm i)) ⟨me,[(50,.list dn)]⟩=some (.next ⟨me',[(50,.list dn')]⟩)∧HM cm mks me'∧bh dn'=some (hs.map λh:Nat=>(h:Int))
 | 0,p,me,g,dn,hp,x,_,hd=>⟨me,dn,rfl,x,by rw[hd,List.take_of_length_le (by rw[hh.lh];omega)]⟩
 | k+1,p,me,g,dn,hp,x,h51,hd=>by
  have nx:=hh.nx p (by omega)
  have hb:=jE hm nx
  have hlen:=kj hd
  rw[List.length_map,List.length_take]at hlen
  have hdl:dn.length≤100000:=by omega
  have hb1:dm .add (.int g ((kB hs p:Nat)-1:Int)) (.int true 1)=some (.int true ((kB hs p:Nat):Int)):=by rw[gy];congr 2;omega
  have hv:nB .max [.int true ((kB hs p:Nat):Int),.int true (fZ cm p)]=some (.int false ((max (kB hs p) (cm p):Nat):Int)):=by
   have:∀a b:Int,nB .max [.int true a,.int true b]=some (.int false (if b>a then b else a)):=λ_ _=>rfl
   rw[this]
   congr 2
   show(if(cm p:Int)>_ then(cm p:Int)else _)=_
   split<;>omega
  obtain⟨me',g2,e,x',l'⟩:=sk (F:=F) (cm:=cm) hm (own:=[(50,.list dn)]) (by rfl) (hs.getD p 0-max (kB hs p) (cm p)) (max (kB hs p) (cm p)) 53 (put 51 (.int false ((max (kB hs p) (cm p):Nat):Int)) (put 45 (.int true (fZ cm p)) me)) false (by have:=hc.le p (by omega);omega)
   (by have:=nx.l;have:=nx.k;rw[show max (kB hs p) (cm p)+(hs.getD p 0-max (kB hs p) (cm p))=hs.getD p 0 by omega];exact nx.o)
   (λs h1 h2=>nx.no s (by omega) (by omega) (by have:=nx.l;have:=nx.k;omega)) ((x.put (by decide) (by decide) (by decide)).put (by decide) (by decide) (by decide)) (by rw[aa,if_pos rfl])
  have hh':max (kB hs p) (cm p)+(hs.getD p 0-max (kB hs p) (cm p))=hs.getD p 0:=by have:=nx.l;have:=nx.k;omega
  rw[hh']at l'
  have hbody:a5 F 56 (.one 45) Cb ⟨me,[(50,.list dn)]⟩ (.int true (fZ cm p))=some (.next ⟨me',[(50,.list (dn++[.int g2 ((hs.getD p 0:Nat):Int)]))]⟩):=by
   have e1:bC F 56 Cb ⟨put 45 (.int true (fZ cm p)) me,[(50,.list dn)]⟩=some (.next ⟨me',[(50,.list (dn++[.int g2 ((hs.getD p 0:Nat):Int)]))]⟩):=by
    rw[ah (s':=⟨put 51 (.int false ((max (kB hs p) (cm p):Nat):Int)) (put 45 (.int true (fZ cm p)) me),[(50,.list dn)]⟩) (by
     have hev:ev F 54 (.bi .max [(.bin .add (.var 51) (.const (.int true (1)))),(.var 45)]) (put 45 (.int true (fZ cm p)) me)=some (.int false ((max (kB hs p) (cm p):Nat):Int)):=by
      rw[ev]
      have l1:(put 45 (D.int true (fZ cm p)) me).lookup 51=some (.int g ((kB hs p:Nat)-1:Int)):=by rw[aa,if_neg (by decide)];exact h51
      have l2:(put 45 (D.int true (fZ cm p)) me).lookup 45=some (.int true (fZ cm p)):=by rw[aa,if_pos rfl]
      simp only[ev,bn,l1,l2,hb1,hv]
     rw[ex,evS,dF,hev]
     rfl)]
    rw[ah (show ex F 54 (.loop zE zF) _=_ from e)]
    simp[bC,ex,ev,l',dY,List.lookup,hdl,put]
   exact cZ (by rfl) rfl e1 rfl
  have lo1:kB hs (p+1)=hs.getD p 0+1:=by unfold kB;rw[if_neg (by omega),Nat.add_sub_cancel]
  obtain⟨me2,dn2,f1,f2,f3⟩:=oW hm hc hh k (p+1) me' g2 (dn++[.int g2 ((hs.getD p 0:Nat):Int)]) (by omega) x' (by rw[l',lo1];congr 2;omega) (by
   have hpl:p<hs.length:=by rw[hh.lh];omega
   rw[List.take_succ_eq_append_getElem hpl,List.map_append]
   have:∀(a b:List D) (x y:List Int),bh a=some x→bh b=some y→bh (a++b)=some (x++y):=by
    intro a
    induction a with
    | nil=>intro b x y h1 h2;cases h1;exact h2
    | cons d a ih=>
     intro b x y h1 h2
     cases d with
     | int g i=>
      simp only[bh]at h1
      cases q:bh a with
      | none=>rw[q]at h1;cases h1
      | some x'=>rw[q]at h1;cases h1;rw[List.cons_append,bh,ih b x' y q h2];rfl
     | _=>cases h1
   refine this _ _ _ _ hd ?_
   rw[List.getD_eq_getElem?_getD,List.getElem?_eq_getElem hpl];rfl)
  refine⟨me2,dn2,?_,f2,f3⟩
  rw[List.range'_succ,List.map_cons,gG,hbody]
  exact f1
theorem yk(hm:MK mks op)(hc:Cv cm){lt:Nat→Nat→Bool}{ns hs:List Nat}(hh:tU lt cm op 5 ns hs):∃dn,bC F 60 ee ⟨eh.zip [.list (cL (fZ cm)),.list mks],[]⟩=some (.ret (.list dn))∧bh dn=some (hs.map λh:Nat=>(h:Int)):=by
 obtain⟨me',dn,e,x',hd⟩:=oW (F:=F) (mks:=mks) hm hc hh 5 0 [(27,.list (cL (fZ cm))),(30,.list mks),(51,.int true (-1))] true [] rfl ⟨rfl,rfl,rfl⟩ rfl rfl
 refine⟨dn,?_,hd⟩
 unfold ee eh
 rw[List.zip_cons_cons,List.zip_cons_cons,List.zip_nil_left]
 rw[ah (s':=⟨[(27,.list (cL (fZ cm))),(30,.list mks)],[(50,.list [])]⟩) (by simp[ex,bn,aS,nz]),
  ah (s':=⟨[(27,.list (cL (fZ cm))),(30,.list mks),(51,.int true (-1))],[(50,.list [])]⟩) (by simp[ex,evS,dF,ev,aS,put])]
 have hit:jK F 56 (.one 45) (.var 27) ⟨[(27,.list (cL (fZ cm))),(30,.list mks),(51,.int true (-1))],[(50,.list [])]⟩=some (cL (fZ cm)):=by
  simp[jK,gY,ev,List.lookup,dD]
 rw[ah (s':=⟨me',[(50,.list dn)]⟩) (by rw[ex,hit];exact congrArg (jo false) e)]
 simp[bC,ex,evS,dF,ev,x'.n50,thaw,eE,flat]
end
section
variable{F:Nat→List D→Option D}{n:Nat}{me:Me}
theorem ly{α β:Type}(f:α→β):∀l:List α,l.flatMap (λx=>[f x])=l.map f
 | []=>rfl
 | x::l=>by rw[List.flatMap_cons,ly f l];rfl
def IX(F:Nat→List D→Option D):Prop:=∀(l:List Int) (k:Nat),l.length≤1000→l.findIdx? (· == 1)=some k→F 2 [.list (l.map (D.int true)),.int true 1]=some (.int true (k:Int))
theorem uQ:∀(l:List Int) (i k:Nat) (me:Me),me.lookup 1=some (.int true 1)→l.findIdx? (· == 1)=some k→gG (a5 F 58 (.two 3 4) [.ite (.isEq (.var 4) (.var 1)) [.ret (.var 3)] []]) (dM i (l.map (D.int true))) ⟨me,[]⟩=some (.ret (.int true ((i+k:Nat):Int)))
 | [],_,_,_,_,h=>by cases h
 | x::l,i,k,me,h1,h=>by
  rw[List.map_cons,dM,gG]
  have l1:(put 4 (D.int true x) (put 3 (.int true (i:Int)) me)).lookup 1=some (.int true 1):=by rw[aa,if_neg (by decide),aa,if_neg (by decide)];exact h1
  rw[List.findIdx?_cons]at h
  by_cases e:x=1
  ·have hk:k=0:=by rw[show(x==1)=true by simpa using e]at h;simpa using h.symm
   subst hk
   have hb:a5 F 58 (.two 3 4) [.ite (.isEq (.var 4) (.var 1)) [.ret (.var 3)] []] ⟨me,[]⟩ (.tup [.int true (i:Int),.int true x])=some (.ret (.int true (i:Int))):=by
    simp[a5,nR,aS,gb,bC,ex,evS,dF,ev,aa,h1,jJ,e,aC]
   rw[hb]
   rfl
  ·rw[show(x==1)=false by simpa using e]at h
   simp only[Bool.false_eq_true,if_false]at h
   cases hf:l.findIdx? (· == 1)with
   | none=>rw[hf]at h;cases h
   | some k'=>
    rw[hf]at h
    simp only[Option.map_some,Option.some.injEq]at h
    have hb:a5 F 58 (.two 3 4) [.ite (.isEq (.var 4) (.var 1)) [.ret (.var 3)] []] ⟨me,[]⟩ (.tup [.int true (i:Int),.int true x])=some (.next ⟨put 4 (.int true x) (put 3 (.int true (i:Int)) me),[]⟩):=by
     have e':(x==1)=false:=by simpa using e
     simp[a5,nR,aS,gb,bC,ex,evS,dF,ev,aa,h1,jJ,e',aC]
    rw[hb]
    dsimp only
    rw[uQ l (i+1) k' _ l1 hf]
    congr 4
    omega
theorem DY{mk:List D→Option D}{k:Nat}:IX (FF mk (k+1)):=λl j hl h=>by
 unfold FF
 simp only[Nat.reduceEqDiff,if_false]
 show(if [D.list (l.map (D.int true)),D.int true 1].length=bg.length then(match bC (FF mk k) 60 fk ⟨bg.zip [D.list (l.map (D.int true)),D.int true 1],[]⟩with|some (.ret d)=>some d|_=>none)else none)=_
 rw[if_pos (show [D.list (l.map (D.int true)),D.int true 1].length=bg.length from rfl)]
 have hit:jK (FF mk k) 58 (.two 3 4) (.enum (.var 0)) ⟨bg.zip [D.list (l.map (D.int true)),D.int true 1],[]⟩=some (dM 0 (l.map (D.int true))):=by
  have:l.length≤100000:=by omega
  simp[jK,gY,ev,bg,List.lookup,this]
 have hloop:=uQ (F:=FF mk k) l 0 j (bg.zip [D.list (l.map (D.int true)),D.int true 1]) rfl h
 have:bC (FF mk k) 60 fk ⟨bg.zip [D.list (l.map (D.int true)),D.int true 1],[]⟩=some (.ret (.int true (j:Int))):=by
  have e2:ex (FF mk k) 59 (.for (.two 3 4) (.enum (.var 0)) [.ite (.isEq (.var 4) (.var 1)) [.ret (.var 3)] []] true) ⟨bg.zip [D.list (l.map (D.int true)),D.int true 1],[]⟩=some (.ret (.int true (j:Int))):=by
   rw[ex,hit]
   have h2:jo true (gG (a5 (FF mk k) 58 (.two 3 4) [.ite (.isEq (.var 4) (.var 1)) [.ret (.var 3)] []]) (dM 0 (l.map (D.int true))) ⟨bg.zip [D.list (l.map (D.int true)),D.int true 1],[]⟩)=some (.ret (.int true (j:Int))):=by
    rw[hloop,Nat.zero_add];rfl
   exact h2
  unfold fk
  rw[bC,e2]
 rw[this]
end
section
variable{F:Nat→List D→Option D}{n:Nat}{me:Me}
theorem gB{α:Type}{f:D→Option (List D)}{g:α→D}{h:α→List D}:∀{l:List α},(∀a∈l,f (g a)=some (h a))→ib f (l.map g)=some (l.flatMap h)
 | [],_=>rfl
 | a::l,k=>by
  rw[List.map_cons,ib,k a (.head _),gB λy hy=>k y (.tail _ hy)]
  rfl
theorem ks{α:Type}{elt it:X}{i:Nat}{ifs:List X}(l:List α)(g:α→D)(p:α→Bool)(f:α→D)(hit:gY (ev F n) (.one i) it (bA [i] me)=some (l.map g))(hp:∀a∈l,dE (ev F n) ifs ((i,g a)::bA [i] me)=some (p a))
  (hf:∀a∈l,p a=true→ev F n elt ((i,g a)::bA [i] me)=some (f a)) (hl:l.length≤100000):ev F (n+1) (.comp elt [(.one i,it,ifs)]) me=some (.list ((l.filter p).map f)):=by
 have ht:eX [(dA.one i,it,ifs)]=[i]:=rfl
 rw[ev,ht,hU,hit]
 dsimp only
 rw[gB (h:=λx=>if p x=true then [f x]else []) λx hx=>?_,jA]
 ·dsimp only
  rw[if_pos]
  rw[List.length_map]
  exact Nat.le_trans (List.length_filter_le _ _) hl
 ·simp only[gZ,hp x hx]
  cases hq:p x with
  | true=>simp[hU,hf x hx hq]
  | false=>simp
theorem dK{α:Type}{elt it:X}{i:Nat}(l:List α)(g:α→D)(f:α→D)(hit:gY (ev F n) (.one i) it (bA [i] me)=some (l.map g))(hf:∀a∈l,ev F n elt ((i,g a)::bA [i] me)=some (f a))(hl:l.length≤100000):
  ev F (n+1) (.comp elt [(.one i,it,[])]) me=some (.list (l.map f)):=by
 have:=ks (F:=F) (n:=n) (me:=me) (elt:=elt) (it:=it) (i:=i) (ifs:=[]) l g (λ_=>true) f hit (λx _=>rfl) (λx hx _=>hf x hx) hl
 rw[List.filter_eq_self.mpr (λ_ _=>rfl)]at this
 exact this
theorem aJ{i:Nat}{d:D}(h:me.lookup i=some d):ev F (n+1) (.var i) me=some d:=h
theorem bR{d:D}:ev F (n+1) (.const d) me=some d:=rfl
theorem aL{a b:X}{x y:D}(h1:ev F n a me=some x)(h2:ev F n b me=some y):ev F (n+1) (.sub a b) me=ft x y:=by rw[ev,h1,h2]
theorem cg{o:Op}{a b:X}{x y:D}(h1:ev F n a me=some x)(h2:ev F n b me=some y):ev F (n+1) (.bin o a b) me=dm o x y:=by rw[ev,h1,h2]
theorem bW{o:Cm}{a b:X}{x y:D}{t:Bool}(h1:ev F n a me=some x)(h2:ev F n b me=some y)(h3:a9 o x y=some t):ev F (n+1) (.cmp o a b) me=some (.bool t):=by rw[ev,h1,h2];simp only[h3]
theorem t7{a b:X}{t:Bool}{d:D}(h1:ev F n a me=some (.bool t))(h2:t=true→ev F n b me=some d):ev F (n+1) (.and a b) me=some (if t then d else .bool false):=by
 rw[ev,h1]
 cases t with
 | true=>exact h2 rfl
 | false=>rfl
theorem AL{a b:X}{t:Bool}{d:D}(h1:ev F n a me=some (.bool t))(h2:t=false→ev F n b me=some d):ev F (n+1) (.or a b) me=some (if t then .bool true else d):=by
 rw[ev,h1]
 cases t with
 | true=>rfl
 | false=>exact h2 rfl
theorem jF{t:X}{b:Bool}(h:ev F n t me=some (.bool b)):dE (ev F n) [t] me=some b:=by
 rw[dE,h]
 cases b<;>rfl
theorem cV{g:Nat→D}{w:Nat}(h:w<5):ft (.list ((List.range 5).map g)) (.int true (w:Int))=some (g w):=gW (B7 _ h) (by simp)
theorem bK{i:Nat}{e:X}{d:D}(h:ev F n e me=some d):ex F (n+1) (.assign i e) ⟨me,[]⟩=some (.next ⟨put i d me,[]⟩):=by
 rw[ex,evS,dF,h];rfl
theorem iJ{t:X}{a:List Y}(h:ev F (n+1) t me=some (.bool false)):ex F (n+2) (.ite t a []) ⟨me,[]⟩=some (.next ⟨me,[]⟩):=by rw[ex,evS,dF,h];rfl
theorem aG{i:Nat}{d:D}{r:Me}:List.lookup i ((i,d)::r)=some d:=by rw[List.lookup_cons,beq_self_eq_true]
theorem bw{i j:Nat}{d:D}(h:j≠i):List.lookup j ((i,d)::bA [i] me)=me.lookup j:=by
 rw[List.lookup_cons,show(j==i)=false by simpa using h]
 dsimp only
 rw[aY,if_neg (by simp[h])]
theorem bU{i j:Nat}(h:j≠i):(bA [i] me).lookup j=me.lookup j:=by rw[aY,if_neg (by simp[h])]
abbrev nI(i:Nat):D:=.int true (i:Int)
theorem dc{i:Nat}:gY (ev F (n+1)) (.one i) (.range (.const (.int true 5))) me=some ((List.range 5).map nI):=by simp[gY,ev]
theorem dL{i j:Nat}{l:List D}(h:me.lookup j=some (.list l))(hl:l.length≤100000):gY (ev F (n+1)) (.one i) (.var j) me=some l:=by simp[gY,ev,h,dD,hl]
theorem t8{l:List D}{p:Nat}(h:p≤l.length)(hl:l.length≤1000):fu l none (some (p:Int))=l.take p:=by
 unfold fu
 have:clipAt l.length (p:Int)=p:=by simp[clipAt];omega
 simp[this]
theorem ni{l:List D}{p:Nat}(h:p≤l.length)(hl:l.length≤1000):fu l (some (p:Int)) none=l.drop p:=by
 unfold fu
 have:clipAt l.length (p:Int)=p:=by simp[clipAt];omega
 simp only[this,Option.elim]
 rw[List.take_of_length_le (by rw[List.length_drop];omega)]
end
def rk(wd:Nat→Str)(i:Nat):Nat:=((List.range 5).filter λj=>f6 wd j i).length
abbrev bD(hf rho la:Nat→Nat)(p:Nat):D:=.list [nI (hf p),nI p,nI (rho p),nI (la p)]
abbrev Fo:X:=.comp (.bi .len [(.comp (.const (.int true (1))) [((.one 47),(.var 26),[(.cmp .lt (.var 47) (.var 23))])])]) [((.one 23),(.var 26),[])]
abbrev zH:List Y:=[.assign 46 (.comp (.sub (.var 47) (.const (.int true (2)))) [((.one 47),(.slice (.var 52) none (some (.var 21))),[])]),
  .assign 56 (.comp (.sub (.var 54) (.var 55)) [((.one 55),(.range (.const (.int true (5)))),[(.and (.cmp .le (.sub (.var 27) (.var 55)) (.sub (.var 29) (.const (.int true (0))))) (.cmp .notin (.var 55) (.var 46)))])]),
  .ite (.or (.cmp .ne (.sub (.var 29) (.const (.int true (1)))) (.var 21)) (.cmp .ne (.sub (.var 54) (.sub (.var 29) (.const (.int true (2))))) (.bi .min [(.var 56)]))) [.ret (.const (.bool false))] []]
abbrev zI:List Y:=[.assign 50 (.comp (.sub (.var 29) (.const (.int true (0)))) [((.one 29),(.var 52),[(.cmp .ge (.sub (.var 29) (.const (.int true (0)))) (.sub (.var 27) (.var 55)))])]),
  .assign 57 (.comp (.bin .sub (.bin .add (.var 38) (.const (.int true (1)))) (.bi .len [(.comp (.var 45) [((.one 45),(.slice (.var 27) (some (.bin .add (.var 55) (.const (.int true (1))))) none),[(.cmp .le (.var 45) (.var 58))])])])) [((.two 38 58),(.enum (.var 50)),[])]),
  .ite (.cmp .ne (.sub (.sub (.var 53) (.const (.int true (2)))) (.var 55)) (.sub (.var 50) (.call 2 [(.var 57),(.const (.int true (1)))]))) [.ret (.const (.bool false))] []]
structure IM(wd:Nat→Str)(cm hf rho la:Nat→Nat)(E1 E2:D)(ps:Nat→Nat)(me:Me):Prop where
 l26:me.lookup 26=some (.list (wL wd))
 l27:me.lookup 27=some (.list ((List.range 5).map λi=>nI (cm i)))
 l52:me.lookup 52=some (.list ((List.range 5).map (bD hf rho la)))
 l53:me.lookup 53=some (.list [E1,E2,.list ((List.range 5).map λw=>nI (hf (ps w)))])
 l54:me.lookup 54=some (.list ((List.range 5).map λi=>nI (rk wd i)))
section
variable{F:Nat→List D→Option D}{me:Me}{wd:Nat→Str}{cm hf rho la:Nat→Nat}{E1 E2:D}{ps:Nat→Nat}
theorem IM.up(x:IM wd cm hf rho la E1 E2 ps me){i:Nat}{d:D}(h:i∉[26,27,52,53,54]):IM wd cm hf rho la E1 E2 ps (put i d me):=by
 have k:∀j,j∈[26,27,52,53,54]→(put i d me).lookup j=me.lookup j:=λj hj=>by rw[aa,if_neg];intro e;exact h (e▸hj)
 exact⟨(k _ (by simp)).trans x.l26,(k _ (by simp)).trans x.l27,(k _ (by simp)).trans x.l52,(k _ (by simp)).trans x.l53,(k _ (by simp)).trans x.l54⟩
theorem DZ{n:Nat}(l26:me.lookup 26=some (.list (wL wd))):ev F (n+6) Fo me=some (.list ((List.range 5).map λi=>nI (rk wd i))):=by
 refine dK (List.range 5) (wS wd) (λi=>nI (rk wd i)) (dL (by simp[aY,l26]) (by simp)) (λi _=>?_) (by simp)
 have hin:ev F (n+4) (.comp (.const (.int true (1))) [((.one 47),(.var 26),[(.cmp .lt (.var 47) (.var 23))])]) ((23,wS wd i)::bA [23] me)=some (.list (((List.range 5).filter λj=>f6 wd j i).map λ_=>.int true 1)):=by
  refine ks (List.range 5) (wS wd) (λj=>f6 wd j i) (λ_=>.int true 1) (dL (by simp[aY,List.lookup,l26]) (by simp)) (λj _=>?_) (λj _ _=>?_) (by simp)
  ·by_cases h:(wd j).cps.toList<(wd i).cps.toList<;>simp[dE,ev,List.lookup,aY,a9,aC,f6,h]
  ·simp[ev]
 rw[AK .len hin]
 have:((List.range 5).filter λj=>f6 wd j i).length≤5:=Nat.le_trans (List.length_filter_le _ _) (by simp)
 simp only[nB,List.length_map]
 rw[if_pos (by omega)]
 rfl
theorem kt(f:Nat→Nat)(l:List Nat):bh (l.map λi=>nI (f i))=some (l.map λi=>(f i:Int)):=by
 induction l with
 | nil=>rfl
 | cons a r ih=>rw[List.map_cons,bh,ih];rfl
theorem sm(f:Nat→Nat):∀(l:List Nat) (w:Nat),(l.map λi=>(f i:Int)).any (· == (w:Int))=(l.map f).contains w
 | [],_=>rfl
 | a::l,w=>by
  rw[List.map_cons,List.map_cons,List.any_cons,List.contains_cons,sm f l w]
  congr 1
  by_cases e:f a=w
  ·rw[e,beq_self_eq_true,beq_self_eq_true]
  ·rw[beq_eq_false_iff_ne.mpr (show(f a:Int)≠(w:Int) by omega),beq_eq_false_iff_ne.mpr (Ne.symm e)]
theorem Fp(x:IM wd cm hf rho la E1 E2 ps me){p:Nat}(hp:p<5)(hr:rho p<5)(c1:l5 (((List.range 5).filter λw=>decide (cm w≤hf p)&&!(((List.range 5).take p).map rho).contains w).map λw=>(rk wd w:Int))=some (rk wd (rho p):Int)):
  ∃me',a5 F 57 (.two 21 29) zH ⟨me,[]⟩ (.tup [nI p,bD hf rho la p])=some (.next ⟨me',[]⟩)∧IM wd cm hf rho la E1 E2 ps me':=by
 have x1:IM wd cm hf rho la E1 E2 ps (put 29 (bD hf rho la p) (put 21 (nI p) me)):=(x.up (by decide)).up (by decide)
 have l21:(put 29 (bD hf rho la p) (put 21 (nI p) me)).lookup 21=some (nI p):=by simp[aa]
 have l29:(put 29 (bD hf rho la p) (put 21 (nI p) me)).lookup 29=some (bD hf rho la p):=by simp[aa]
 generalize hme1:put 29 (bD hf rho la p) (put 21 (nI p) me)=me1 at x1 l21 l29
 have e46:ev F 55 (.comp (.sub (.var 47) (.const (.int true (2)))) [((.one 47),(.slice (.var 52) none (some (.var 21))),[])]) me1=some (.list (((List.range 5).take p).map λq=>nI (rho q))):=by
  refine dK ((List.range 5).take p) (bD hf rho la) (λq=>nI (rho q)) ?_ (λq _=>?_) (by simp;omega)
  ·have h1:fu ((List.range 5).map (bD hf rho la)) none (some (p:Int))=((List.range 5).take p).map (bD hf rho la):=by rw[t8 (by simp;omega) (by simp),List.map_take]
   simp[gY,ev,aY,x1.l52,l21,dC,l4,h1,dD]
   omega
  ·simp[ev,List.lookup,ft,lA]
 have l46:(put 46 (.list (((List.range 5).take p).map λq=>nI (rho q))) me1).lookup 46=some (.list (((List.range 5).take p).map λq=>nI (rho q))):=by rw[aa,if_pos rfl]
 have x2:=x1.up (i:=46) (d:=.list (((List.range 5).take p).map λq=>nI (rho q))) (by decide)
 have l29':(put 46 (.list (((List.range 5).take p).map λq=>nI (rho q))) me1).lookup 29=some (bD hf rho la p):=by rw[aa,if_neg (by decide)];exact l29
 have l21':(put 46 (.list (((List.range 5).take p).map λq=>nI (rho q))) me1).lookup 21=some (nI p):=by rw[aa,if_neg (by decide)];exact l21
 generalize hme2:put 46 (.list (((List.range 5).take p).map λq=>nI (rho q))) me1=me2 at l46 x2 l29' l21'
 have e56:ev F 54 (.comp (.sub (.var 54) (.var 55)) [((.one 55),(.range (.const (.int true (5)))),[(.and (.cmp .le (.sub (.var 27) (.var 55)) (.sub (.var 29) (.const (.int true (0))))) (.cmp .notin (.var 55) (.var 46)))])]) me2=some (.list (((List.range 5).filter λw=>decide (cm w≤hf p)&&!(((List.range 5).take p).map rho).contains w).map λw=>nI (rk wd w))):=by
  refine ks (List.range 5) nI (λw=>decide (cm w≤hf p)&&!(((List.range 5).take p).map rho).contains w) (λw=>nI (rk wd w)) dc (λw hw=>?_) (λw hw _=>?_) (by simp)
  ·have hw5:=List.mem_range.mp hw
   have hany:=sm rho ((List.range 5).take p) w
   refine jF ?_
   refine(t7 (t:=decide (cm w≤hf p)) (d:=.bool (!(((List.range 5).take p).map rho).contains w)) (bW (x:=nI (cm w)) (y:=nI (hf p)) ?_ ?_ ?_) λ_=>bW (aJ aG) (aJ ((bw (by decide)).trans l46)) ?_).trans ?_
   ·exact(aL (aJ ((bw (by decide)).trans x2.l27)) (aJ aG)).trans (cV hw5)
   ·exact(aL (aJ ((bw (by decide)).trans l29')) bR).trans rfl
   ·simp[a9]
   ·rw[a9,kt]
    simp only[hany]
   ·cases decide (cm w≤hf p)<;>rfl
  ·have hw5:=List.mem_range.mp hw
   exact(aL (aJ ((bw (by decide)).trans x2.l54)) (aJ aG)).trans (cV hw5)
 have l56:(put 56 (.list (((List.range 5).filter λw=>decide (cm w≤hf p)&&!(((List.range 5).take p).map rho).contains w).map λw=>nI (rk wd w))) me2).lookup 56=some (.list (((List.range 5).filter λw=>decide (cm w≤hf p)&&!(((List.range 5).take p).map rho).contains w).map λw=>nI (rk wd w))):=by rw[aa,if_pos rfl]
 have x3:=x2.up (i:=56) (d:=.list (((List.range 5).filter λw=>decide (cm w≤hf p)&&!(((List.range 5).take p).map rho).contains w).map λw=>nI (rk wd w))) (by decide)
 have l29'':(put 56 (.list (((List.range 5).filter λw=>decide (cm w≤hf p)&&!(((List.range 5).take p).map rho).contains w).map λw=>nI (rk wd w))) me2).lookup 29=some (bD hf rho la p):=by rw[aa,if_neg (by decide)];exact l29'
 have l21'':(put 56 (.list (((List.range 5).filter λw=>decide (cm w≤hf p)&&!(((List.range 5).take p).map rho).contains w).map λw=>nI (rk wd w))) me2).lookup 21=some (nI p):=by rw[aa,if_neg (by decide)];exact l21'
 have s1:=bK (i:=46) e46
 have s2:=bK (i:=56) e56
 rw[hme2]at s1
 generalize hme3:put 56 (.list (((List.range 5).filter λw=>decide (cm w≤hf p)&&!(((List.range 5).take p).map rho).contains w).map λw=>nI (rk wd w))) me2=me3 at l56 x3 l29'' l21'' s2
 have hT:ev F 53 (.or (.cmp .ne (.sub (.var 29) (.const (.int true (1)))) (.var 21)) (.cmp .ne (.sub (.var 54) (.sub (.var 29) (.const (.int true (2))))) (.bi .min [(.var 56)]))) me3=some (.bool false):=by
  refine(AL (t:=false) (d:=.bool false) (bW (x:=nI p) (y:=nI p) ?_ (aJ l21'') ?_) λ_=>bW (x:=nI (rk wd (rho p))) (y:=.int false (rk wd (rho p):Int)) ?_ ?_ ?_).trans rfl
  ·exact(aL (aJ l29'') bR).trans rfl
  ·simp[a9,eV]
  ·exact(aL (aJ x3.l54) ((aL (aJ l29'') bR).trans (show _=some (nI (rho p))from rfl))).trans (cV hr)
  ·refine(AK .min (aJ l56)).trans ?_
   rw[nB,kt]
   dsimp only
   rw[c1]
  ·simp[a9,eV]
 refine⟨me3,?_,x3⟩
 refine cZ (me':=me1) (by rfl) (by rw[←hme1];rfl) ?_ rfl
 show bC F 57 zH ⟨me1,[]⟩=_
 rw[ah s1,ah s2,ah (iJ hT)]
 rfl
end
def pos(s:List Nat)(w:Nat):Nat:=s.idxOf w
def nj(r:List Nat):Bool:=((List.range 5).all λw=>((List.range 5).filter λp=>r.getD p 9==w)==[pos r w]&&Nat.blt (pos r w) 5)&&(((List.range 5).all λp=>Nat.beq (pos r (r.getD p 9)) p)&&cj ((List.range 5).map λp=>(r.getD p 9:Int))==[0,1,2,3,4])
theorem zJ:((tW [5,5,5,5,5] []).all λr=>nj r)=true:=by decide +kernel
def fV:Nat→List Nat→List (Nat×Nat)
 | _,[]=>[]
 | i,p::l=>(i,p)::fV (i+1) l
def sA(ns:List Nat)(w:Nat):List Nat:=(List.range 5).filter λp=>Nat.blt w (ns.getD p 0)
def gC(ns:List Nat)(w:Nat):List Int:=(fV 0 (sA ns w)).map λx=>(x.1:Int)+1-((ns.getD x.2 0-(w+1):Nat):Int)
def yl(ns la:List Nat):Bool:=(la.length==5&&(decide la.Nodup&&(List.range 5).all λp=>Nat.blt (la.getD p 9) (ns.getD p 0)))&&(List.range 5).all λw=>match (gC ns w).findIdx? (· == 1)with
 | some k=>(sA ns w)[k]?==some (pos la w)
 | none=>false
theorem zK:(zy.all λx=>yl x.1 x.2)=true:=by decide +kernel
section
variable{ns r:List Nat}{cm hf:Nat→Nat}
theorem RO.ck3(x:AO ns cm hf)(y:RO ns r):nj r=true:=by
 refine List.all_eq_true.mp zJ r (kq (by rw[y.l];rfl) (λp hp=>?_) y.nd λ_ _=>List.not_mem_nil)
 have hp:p<5:=hp
 have:=y.lt5 x hp
 have:[5,5,5,5,5].getD p 9=5:=by
  match p,hp with
  | 0,_|1,_|2,_|3,_|4,_=>rfl
 omega
theorem RO.pos(x:AO ns cm hf)(y:RO ns r){w:Nat}(h:w<5):((List.range 5).filter λp=>r.getD p 9==w)=[Mine.pos r w]∧Mine.pos r w<5:=by
 have:=y.ck3 x
 unfold nj at this
 rw[Bool.and_eq_true]at this
 have:=List.all_eq_true.mp this.1 w (List.mem_range.mpr h)
 rw[Bool.and_eq_true,beq_iff_eq,Nat.blt_eq]at this
 exact this
theorem RO.inv(x:AO ns cm hf)(y:RO ns r){p:Nat}(h:p<5):Mine.pos r (r.getD p 9)=p:=by
 have:=y.ck3 x
 unfold nj at this
 rw[Bool.and_eq_true,Bool.and_eq_true]at this
 have:=List.all_eq_true.mp this.2.1 p (List.mem_range.mpr h)
 exact Nat.eq_of_beq_eq_true this
theorem RO.srt(x:AO ns cm hf)(y:RO ns r):cj ((List.range 5).map λp=>(r.getD p 9:Int))=[0,1,2,3,4]:=by
 have:=y.ck3 x
 unfold nj at this
 rw[Bool.and_eq_true,Bool.and_eq_true]at this
 exact eq_of_beq this.2.2
theorem AO.la(x:AO ns cm hf):RO ns (cJ ns)∧∀w,w<5→∃k,(gC ns w).findIdx? (· == 1)=some k∧(sA ns w)[k]?=some (Mine.pos (cJ ns) w):=by
 have:=List.all_eq_true.mp zK _ x.mem
 dsimp only at this
 unfold yl at this
 rw[Bool.and_eq_true,Bool.and_eq_true,Bool.and_eq_true,beq_iff_eq,decide_eq_true_eq]at this
 obtain⟨⟨h1,h2,h3⟩,h4⟩:=this
 refine⟨⟨h1,h2,λp hp=>?_⟩,λw hw=>?_⟩
 ·have:=List.all_eq_true.mp h3 p (List.mem_range.mpr hp)
  rwa [Nat.blt_eq]at this
 ·have:=List.all_eq_true.mp h4 w (List.mem_range.mpr hw)
  split at this
  ·rename_i k e
   exact⟨k,e,eq_of_beq this⟩
  ·cases this
theorem RO.eta(y:RO ns r):r=(List.range 5).map λp=>r.getD p 9:=by
 refine List.ext_getElem (by rw[y.l];simp) λi h1 h2=>?_
 rw[List.getElem_map,List.getElem_range,List.getD_eq_getElem?_getD,List.getElem?_eq_getElem h1];rfl
theorem RO.perm(x:AO ns cm hf)(y:RO ns r):(List.range 5).Perm r:=by
 have h:((List.range 5).map λp=>(r.getD p 9:Int)).Perm [0,1,2,3,4]:=by rw[←y.srt x];exact(bJ _).symm
 have h2:=h.map Int.toNat
 rw[List.map_map]at h2
 have e:(List.range 5).map (Int.toNat∘λp=>(r.getD p 9:Int))=r:=by
  conv=>rhs;rw[y.eta]
  exact List.map_congr_left λp _=>by simp
 rw[e]at h2
 exact h2.symm
theorem RO.waits(x:AO ns cm hf)(y:RO ns r):cj ((List.range 5).map λw=>(hf (Mine.pos r w):Int)-(cm w:Int))=cj (wl cm hf r):=by
 refine qs ?_ (dX _)
 refine(bJ _).trans (((y.perm x).map _).trans (.of_eq ((congrArg (List.map _) y.eta).trans ?_)))
 rw[List.map_map]
 refine List.map_congr_left λp hp=>?_
 show(hf (Mine.pos r (r.getD p 9)):Int)-_=_
 rw[y.inv x (List.mem_range.mp hp)]
theorem uR(x:AO ns cm hf):RO ns dW:=⟨rfl,by decide,λp hp=>by rw[yc p hp];exact(x.n5 p hp).1⟩
end
section
variable{lt:Nat→Nat→Bool}{cm:Nat→Nat}{op:Nat→Bool}{ns hs:List Nat}
abbrev hF(hs:List Nat)(p:Nat):Nat:=hs.getD p 0
theorem tU.ao(h:tU lt cm op 5 ns hs)(hc:∀i j,i≤j→j<5→cm i≤cm j):AO ns cm (hF hs):=by
 have st:∀p,p+1<5→hF hs p<hF hs (p+1):=λp hp=>by
  have:=(h.nx (p+1) hp).l
  unfold kB at this
  rw[if_neg (by omega),Nat.add_sub_cancel]at this
  exact this
 have hi:∀p q,p<q→q<5→hF hs p<hF hs q:=λp q hpq=>by
  induction q with
  | zero=>omega
  | succ q ih=>
   intro hq
   have:=st q hq
   rcases Nat.lt_or_ge p q with h'|h'
   ·have:=ih h' (by omega);omega
   ·have:p=q:=by omega
    rw[this];assumption
 refine⟨h.ln,λp hp=>h.n5 p hp,λp hp=>?_,hi,hc,λp hp j hj=>h.nn p hp j hj⟩
 have h1:=h.n5 p (by omega)
 have h2:=(h.nn p (by omega) (ns.getD p 0-1) (by omega)).mp (by omega)
 have h3:=st p hp
 have h4:=(h.nn (p+1) hp (ns.getD p 0-1) (by omega)).mpr (by unfold hF at h3;omega)
 omega
theorem AO.nsok{hf:Nat→Nat}(x:AO ns cm hf):DP ns:=⟨λp hp=>(x.n5 p (by rw[←x.nl];exact hp)).1,λp hp=>x.nm p (by rw[←x.nl];exact hp)⟩
theorem uS(lt:Nat→Nat→Bool):∀(ns:List Nat) (x:Qs×List (Nat×Nat)) (p:Nat),p<x.2.length→(ns.foldl (gX lt) x).2.getD p (0,0)=x.2.getD p (0,0)
 | [],_,_,_=>rfl
 | n::ns,x,p,h=>by
  rw[List.foldl_cons,uS lt ns _ p (by show p<(x.2++[_]).length;simp;omega)]
  show(x.2++[_]).getD p (0,0)=_
  rw[bX,if_pos h]
theorem ym(o:List (Nat×Nat)){p:Nat}(h:p<o.length):(fs o).getD p 9=(o.getD p (0,0)).1:=by
 unfold fs
 rw[List.getD_eq_getElem?_getD,List.getD_eq_getElem?_getD,List.getElem?_map,List.getElem?_eq_getElem h];rfl
theorem yn(hl:B8 lt){hf:Nat→Nat}(x:AO ns cm hf):RO ns (fs (cI lt ns).2)∧∀p,p<5→∀w,w<ns.getD p 0→w∉(fs (cI lt ns).2).take p→lt w ((fs (cI lt ns).2).getD p 9)=false:=by
 have hn:=x.nsok
 have R:=pX hl hn 5 (by rw[x.nl];exact Nat.le_refl _)
 rw[List.take_of_length_le (by rw[x.nl];exact Nat.le_refl _)]at R
 have hlen:(fs (cI lt ns).2).length=5:=by unfold fs;rw[List.length_map,R.ol]
 refine⟨⟨hlen,?_,λp hp=>?_⟩,λp hp w hw hnot=>R.mn p hp w hw hnot⟩
 ·have:=R.pr.nodup_iff.mpr List.nodup_range
  exact(List.nodup_append.mp this).1
 ·have P:=pX hl hn (p+1) (by rw[x.nl];exact hp)
  have hpl:p<(cI lt (ns.take (p+1))).2.length:=by rw[P.ol];omega
  have e:(cI lt ns).2.getD p (0,0)=(cI lt (ns.take (p+1))).2.getD p (0,0):=by
   have:=uS lt (ns.drop (p+1)) (cI lt (ns.take (p+1))) p hpl
   unfold cI at this ⊢
   rw[←List.foldl_append,List.take_append_drop]at this
   exact this
  rw[ym _ (by rw[R.ol];exact hp),e,←ym _ hpl]
  have hfl:(fs (cI lt (ns.take (p+1))).2).length=p+1:=by unfold fs;rw[List.length_map,P.ol]
  have hm:(fs (cI lt (ns.take (p+1))).2).getD p 9∈fs (cI lt (ns.take (p+1))).2++(cI lt (ns.take (p+1))).1.ring:=by
   refine List.mem_append_left _ ?_
   rw[List.getD_eq_getElem?_getD,List.getElem?_eq_getElem (by omega)]
   exact List.getElem_mem _
  have:=List.mem_range.mp (P.pr.mem_iff.mp hm)
  rw[P.c,if_neg (by omega),Nat.add_sub_cancel]at this
  exact this
theorem D0(lt:Nat→Nat→Bool)(h:ns.length=5){p:Nat}(hp:p<5):(cJ ns).getD p 9=((cI lt ns).2.getD p (0,0)).2:=by
 have e:cJ ns=(cI lt ns).2.map (·.2):=se _ ns _ _ rfl rfl rfl rfl
 have hl:p<(cI lt ns).2.length:=by unfold cI;rw[kn,h];simpa using hp
 rw[e,List.getD_eq_getElem?_getD,List.getD_eq_getElem?_getD,List.getElem?_map,List.getElem?_eq_getElem hl];rfl
end
section
variable{wd:Nat→Str}
theorem Cc:B8 (f6 wd):=⟨λx y h=>by
 unfold f6 at h ⊢
 simp only[decide_eq_true_eq,decide_eq_false_iff_not]at h ⊢
 exact rV h,λx y z h1 h2=>by
 unfold f6 at h1 h2 ⊢
 simp only[decide_eq_true_eq]at h1 h2 ⊢
 exact List.lt_trans h1 h2⟩
theorem D1{x w:Nat}(h:f6 wd w x=false):rk wd x≤rk wd w:=by
 unfold rk
 rw[←List.countP_eq_length_filter,←List.countP_eq_length_filter]
 refine List.countP_mono_left λj _ hj=>?_
 unfold f6 at h hj ⊢
 simp only[decide_eq_true_eq,decide_eq_false_iff_not]at h hj ⊢
 exact Classical.byContradiction λhn=>absurd hj (List.not_lt.mpr (List.le_trans (List.not_lt.mp h) (List.not_lt.mp hn)))
theorem zL:∀{l:List Int} {m:Int},m∈l→(∀a∈l,m≤a)→l5 l=some m
 | x::l,m,hm,ha=>by
  unfold l5
  cases e:l5 l with
  | none=>
   cases l with
   | nil=>simp at hm;simp[hm]
   | cons y l=>unfold l5 at e;split at e<;>cases e
  | some y=>
   have hy:=o3 e
   have hx:=ha x (.head _)
   have:=ha y (.tail _ hy.1)
   dsimp only
   rcases List.mem_cons.mp hm with rfl|hm
   ·rw[if_pos this]
   ·have:=hy.2 m hm
    have:y=m:=by omega
    subst this
    split
    ·congr 1;omega
    ·rfl
end
section
variable{F:Nat→List D→Option D}{n:Nat}{me:Me}
theorem Cd{α:Type}{elt it:X}{i j:Nat}(l:List α)(g:α→D)(b:α→Me)(f:α→D)(hit:gY (ev F n) (.two i j) it (bA [i,j] me)=some (l.map g))(hb:∀a∈l,gZ (.two i j) (g a) (bA [i,j] me)=some (b a))
  (hf:∀a∈l,ev F n elt (b a)=some (f a)) (hl:l.length≤100000):ev F (n+1) (.comp elt [(.two i j,it,[])]) me=some (.list (l.map f)):=by
 have ht:eX [(dA.two i j,it,([]:List X))]=[i,j]:=rfl
 rw[ev,ht,hU,hit]
 dsimp only
 rw[gB (h:=λx=>[f x]) λx hx=>?_,ly]
 ·dsimp only
  rw[if_pos (by rw[List.length_map];exact hl)]
 ·simp[hb x hx,dE,hU,hf x hx]
theorem kW{α:Type}(g:Nat→D):∀(l:List Nat) (i:Nat),dM i (l.map g)=(fV i l).map λx=>D.tup [nI x.1,g x.2]
 | [],_=>rfl
 | a::l,i=>by rw[List.map_cons,dM,fV,List.map_cons,kW (α:=α) g l (i+1)]
theorem kX:∀(l:List Nat) (i:Nat),(fV i l).length=l.length
 | [],_=>rfl
 | a::l,i=>by rw[fV,List.length_cons,List.length_cons,kX l]
theorem oX:∀(l:List Nat) (i:Nat) (x:Nat×Nat),x∈fV i l→x.2∈l
 | a::l,i,x,h=>by
  rw[fV]at h
  rcases List.mem_cons.mp h with rfl|h
  ·exact .head _
  ·exact .tail _ (oX l _ x h)
theorem yo:∀w:Fin 5,∀m:Fin 6,(((List.range 5).drop (w.val+1)).filter λj=>decide (j<m.val)).length=m.val-(w.val+1):=by decide
theorem nq{e:X}{d:D}{st:St}(h:ev F n e st.me=some d):ex F (n+1) (.ret e) st=some (.ret d):=by
 rw[ex,evS,dF,h]
end
section
variable{F:Nat→List D→Option D}{me:Me}{wd:Nat→Str}{ns la:List Nat}{cm hf rho laf:Nat→Nat}{E1 E2:D}
theorem Fq(hI:IX F)(ao:AO ns cm hf)(x:IM wd cm hf rho laf E1 E2 (Mine.pos (cJ ns)) me){w:Nat}(hw:w<5):
  ∃me',a5 F 56 (.one 55) zI ⟨me,[]⟩ (nI w)=some (.next ⟨me',[]⟩)∧IM wd cm hf rho laf E1 E2 (Mine.pos (cJ ns)) me':=by
 obtain⟨k,hk1,hk2⟩:=ao.la.2 w hw
 have x1:IM wd cm hf rho laf E1 E2 (Mine.pos (cJ ns)) (put 55 (nI w) me):=x.up (by decide)
 have l55:(put 55 (nI w) me).lookup 55=some (nI w):=by simp[aa]
 generalize hme1:put 55 (nI w) me=me1 at x1 l55
 have hfil:((List.range 5).filter λp=>decide (cm w≤hf p))=sA ns w:=List.filter_congr λp hp=>by
  have:=ao.nn p (List.mem_range.mp hp) w hw
  rw[Bool.eq_iff_iff,Nat.blt_eq,decide_eq_true_eq]
  exact this.symm
 have e50:ev F 54 (.comp (.sub (.var 29) (.const (.int true (0)))) [((.one 29),(.var 52),[(.cmp .ge (.sub (.var 29) (.const (.int true (0)))) (.sub (.var 27) (.var 55)))])]) me1=some (.list ((sA ns w).map λp=>nI (hf p))):=by
  rw[←hfil]
  refine ks (List.range 5) (bD hf rho laf) (λp=>decide (cm w≤hf p)) (λp=>nI (hf p)) (dL ((bU (by decide)).trans x1.l52) (by simp)) (λp _=>jF ?_) (λp _ _=>?_) (by simp)
  ·refine bW (x:=nI (hf p)) (y:=nI (cm w)) ((aL (aJ aG) bR).trans rfl) ((aL (aJ ((bw (by decide)).trans x1.l27)) (aJ ((bw (by decide)).trans l55))).trans (cV hw)) ?_
   simp[a9]
  ·exact(aL (aJ aG) bR).trans rfl
 have pl:(sA ns w).length≤5:=Nat.le_trans (List.length_filter_le _ _) (by simp)
 have s1:=bK (i:=50) e50
 have x2:=x1.up (i:=50) (d:=.list ((sA ns w).map λp=>nI (hf p))) (by decide)
 have l50:(put 50 (.list ((sA ns w).map λp=>nI (hf p))) me1).lookup 50=some (.list ((sA ns w).map λp=>nI (hf p))):=by rw[aa,if_pos rfl]
 have l55':(put 50 (.list ((sA ns w).map λp=>nI (hf p))) me1).lookup 55=some (nI w):=by rw[aa,if_neg (by decide)];exact l55
 generalize hme2:put 50 (.list ((sA ns w).map λp=>nI (hf p))) me1=me2 at s1 x2 l50 l55'
 have e57:ev F 53 (.comp (.bin .sub (.bin .add (.var 38) (.const (.int true (1)))) (.bi .len [(.comp (.var 45) [((.one 45),(.slice (.var 27) (some (.bin .add (.var 55) (.const (.int true (1))))) none),[(.cmp .le (.var 45) (.var 58))])])])) [((.two 38 58),(.enum (.var 50)),[])]) me2=some (.list ((gC ns w).map (D.int true))):=by
  have ed:(gC ns w).map (D.int true)=(fV 0 (sA ns w)).map λx=>D.int true ((x.1:Int)+1-((ns.getD x.2 0-(w+1):Nat):Int)):=by unfold gC;rw[List.map_map];rfl
  rw[ed]
  have dl:∀j,j≠38→j≠58→(bA [38,58] me2).lookup j=me2.lookup j:=λj h1 h2=>by rw[aY,if_neg (by simp[h1,h2])]
  refine Cd (fV 0 (sA ns w)) (λx=>D.tup [nI x.1,nI (hf x.2)]) (λx=>(58,nI (hf x.2))::(38,nI x.1)::bA [38,58] me2) _ ?_ (λa _=>rfl) (λa ha=>?_) (by rw[kX];omega)
  ·have hl5:((sA ns w).map λp=>nI (hf p)).length≤100000:=by rw[List.length_map];omega
   rw[gY,aJ ((dl 50 (by decide) (by decide)).trans l50)]
   dsimp only
   rw[if_pos hl5,kW (α:=Nat)]
  ·have hp:a.2<5:=List.mem_range.mp (List.mem_filter.mp (oX _ _ _ ha)).1
   have hme:∀j,j≠38→j≠58→List.lookup j ((58,nI (hf a.2))::(38,nI a.1)::bA [38,58] me2)=me2.lookup j:=λj h1 h2=>by
    rw[List.lookup_cons,show(j==58)=false by simpa using h2]
    dsimp only
    rw[List.lookup_cons,show(j==38)=false by simpa using h1]
    exact dl j h1 h2
   have h38:List.lookup 38 ((58,nI (hf a.2))::(38,nI a.1)::bA [38,58] me2)=some (nI a.1):=rfl
   have h58:List.lookup 58 ((58,nI (hf a.2))::(38,nI a.1)::bA [38,58] me2)=some (nI (hf a.2)):=rfl
   generalize (58,nI (hf a.2))::(38,nI a.1)::bA [38,58] me2=me3 at hme h38 h58
   have hsl:fu ((List.range 5).map λi=>nI (cm i)) (some ((w:Int)+1)) none=((List.range 5).drop (w+1)).map λi=>nI (cm i):=by
    have:=ni (l:=(List.range 5).map λi=>nI (cm i)) (p:=w+1) (by simp;omega) (by simp)
    rw[List.map_drop,←this]
    rfl
   have hin:ev F 50 (.comp (.var 45) [((.one 45),(.slice (.var 27) (some (.bin .add (.var 55) (.const (.int true (1))))) none),[(.cmp .le (.var 45) (.var 58))])]) me3=some (.list ((((List.range 5).drop (w+1)).filter λj=>decide (cm j≤hf a.2)).map λj=>nI (cm j))):=by
    refine ks ((List.range 5).drop (w+1)) (λj=>nI (cm j)) (λj=>decide (cm j≤hf a.2)) (λj=>nI (cm j)) ?_ (λj _=>jF (bW (aJ aG) (aJ ((bw (by decide)).trans h58)) ?_)) (λj _ _=>aJ aG) (by simp;omega)
    ·have h27:(bA [45] me3).lookup 27=some (.list ((List.range 5).map λi=>nI (cm i))):=(bU (by decide)).trans ((hme 27 (by decide) (by decide)).trans x2.l27)
     have h55:(bA [45] me3).lookup 55=some (nI w):=(bU (by decide)).trans ((hme 55 (by decide) (by decide)).trans l55')
     simp[gY,ev,h27,h55,dC,l4,gy,hsl,dD]
     omega
    ·simp[a9]
   have hlen:(((List.range 5).drop (w+1)).filter λj=>decide (cm j≤hf a.2)).length=ns.getD a.2 0-(w+1):=by
    have h5:=(ao.n5 a.2 hp).2
    have:=yo ⟨w,hw⟩ ⟨ns.getD a.2 0,by omega⟩
    dsimp only at this
    rw[←this]
    congr 1
    refine List.filter_congr λj hj=>?_
    have hj5:j<5:=List.mem_range.mp (List.mem_of_mem_drop hj)
    have:=ao.nn a.2 hp j hj5
    rw[Bool.eq_iff_iff,decide_eq_true_eq,decide_eq_true_eq]
    exact this.symm
   have hbl:ev F 51 (.bi .len [(.comp (.var 45) [((.one 45),(.slice (.var 27) (some (.bin .add (.var 55) (.const (.int true (1))))) none),[(.cmp .le (.var 45) (.var 58))])])]) me3=some (.int true ((ns.getD a.2 0-(w+1):Nat):Int)):=by
    rw[AK .len hin]
    have h5:=(ao.n5 a.2 hp).2
    simp only[nB,List.length_map]
    rw[hlen,if_pos (by omega)]
   refine(cg ((cg (aJ h38) bR).trans gy) hbl).trans ?_
   rw[oQ]
 have ml:(gC ns w).length≤1000:=by unfold gC;rw[List.length_map,kX];omega
 have s2:=bK (i:=57) e57
 have x3:=x2.up (i:=57) (d:=.list ((gC ns w).map (D.int true))) (by decide)
 have l57:(put 57 (.list ((gC ns w).map (D.int true))) me2).lookup 57=some (.list ((gC ns w).map (D.int true))):=by rw[aa,if_pos rfl]
 have l50':(put 57 (.list ((gC ns w).map (D.int true))) me2).lookup 50=some (.list ((sA ns w).map λp=>nI (hf p))):=by rw[aa,if_neg (by decide)];exact l50
 have l55'':(put 57 (.list ((gC ns w).map (D.int true))) me2).lookup 55=some (nI w):=by rw[aa,if_neg (by decide)];exact l55'
 generalize put 57 (.list ((gC ns w).map (D.int true))) me2=me3 at s2 x3 l57 l50' l55''
 have hT:ev F 52 (.cmp .ne (.sub (.sub (.var 53) (.const (.int true (2)))) (.var 55)) (.sub (.var 50) (.call 2 [(.var 57),(.const (.int true (1)))]))) me3=some (.bool false):=by
  refine bW (x:=nI (hf (Mine.pos (cJ ns) w))) (y:=nI (hf (Mine.pos (cJ ns) w))) ?_ ?_ ?_
  ·refine(aL ((aL (aJ x3.l53) bR).trans (show _=some (D.list ((List.range 5).map λw=>nI (hf (Mine.pos (cJ ns) w))))from rfl)) (aJ l55'')).trans (cV hw)
  ·have hc:ev F 50 (.call 2 [(.var 57),(.const (.int true (1)))]) me3=some (.int true (k:Int)):=by
    rw[ev]
    simp only[bn,aJ l57,bR]
    exact hI _ _ ml hk1
   refine(aL (aJ l50') hc).trans ?_
   have:((sA ns w).map λp=>nI (hf p))[k]?=some (nI (hf (Mine.pos (cJ ns) w))):=by rw[List.getElem?_map,hk2];rfl
   exact gW this (by rw[List.length_map];omega)
  ·simp[a9,eV]
 refine⟨me3,?_,x3⟩
 refine cZ (me':=me1) (by rfl) (by rw[←hme1];rfl) ?_ rfl
 show bC F 56 zI ⟨me1,[]⟩=_
 rw[ah s1,ah s2,ah (iJ hT)]
 rfl
theorem lS{f:St→D→Option lB}(P:St→Prop):∀(ds:List D) (st:St),P st→(∀d∈ds,∀st,P st→∃st',f st d=some (.next st')∧P st')→∃st',gG f ds st=some (.next st')∧P st'
 | [],st,h,_=>⟨st,rfl,h⟩
 | d::ds,st,h,hs=>by
  obtain⟨st',e,h'⟩:=hs d (.head _) st h
  obtain⟨s2,e2,h2⟩:=lS P ds st' h' λd hd=>hs d (.tail _ hd)
  exact⟨s2,by rw[gG,e];exact e2,h2⟩
theorem t9(hI:IX F)(ao:AO ns cm hf)(hr:∀p,p<5→rho p<5)(c1:∀p,p<5→l5 (((List.range 5).filter λw=>decide (cm w≤hf p)&&!(((List.range 5).take p).map rho).contains w).map λw=>(rk wd w:Int))=some (rk wd (rho p):Int)):
  bC F 60 cW ⟨cX.zip [.list (wL wd),.list ((List.range 5).map λi=>nI (cm i)),.list ((List.range 5).map (bD hf rho laf)),.list [E1,E2,.list ((List.range 5).map λw=>nI (hf (Mine.pos (cJ ns) w)))]],[]⟩=some (.ret (.bool true)):=by
 unfold cW cX
 simp only[List.zip_cons_cons,List.zip_nil_right]
 have e54:=DZ (F:=F) (n:=52) (wd:=wd) (me:=[(26,D.list (wL wd)),(27,D.list ((List.range 5).map λi=>nI (cm i))),(52,D.list ((List.range 5).map (bD hf rho laf))),(53,D.list [E1,E2,.list ((List.range 5).map λw=>nI (hf (Mine.pos (cJ ns) w)))])]) rfl
 rw[ah (bK e54)]
 have x0:IM wd cm hf rho laf E1 E2 (Mine.pos (cJ ns)) (put 54 (.list ((List.range 5).map λi=>nI (rk wd i))) [(26,D.list (wL wd)),(27,D.list ((List.range 5).map λi=>nI (cm i))),(52,D.list ((List.range 5).map (bD hf rho laf))),(53,D.list [E1,E2,.list ((List.range 5).map λw=>nI (hf (Mine.pos (cJ ns) w)))])]):=⟨rfl,rfl,rfl,rfl,rfl⟩
 generalize put 54 (D.list ((List.range 5).map λi=>nI (rk wd i))) [(26,D.list (wL wd)),(27,D.list ((List.range 5).map λi=>nI (cm i))),(52,D.list ((List.range 5).map (bD hf rho laf))),(53,D.list [E1,E2,.list ((List.range 5).map λw=>nI (hf (Mine.pos (cJ ns) w)))])]=me0 at x0
 have hit1:jK F 57 (.two 21 29) (.enum (.var 52)) ⟨me0,[]⟩=some ((fV 0 (List.range 5)).map λx=>D.tup [nI x.1,bD hf rho laf x.2]):=by
  have:gY (ev F 57) (.two 21 29) (.enum (.var 52)) me0=some ((fV 0 (List.range 5)).map λx=>D.tup [nI x.1,bD hf rho laf x.2]):=by
   rw[gY,aJ x0.l52]
   dsimp only
   rw[if_pos (by simp),kW (α:=Nat)]
  unfold jK
  rw[this]
 obtain⟨st1,f1,me1,rfl,x1⟩:=lS (f:=a5 F 57 (.two 21 29) zH) (λst=>∃me,st=⟨me,[]⟩∧IM wd cm hf rho laf E1 E2 (Mine.pos (cJ ns)) me) ((fV 0 (List.range 5)).map λx=>D.tup [nI x.1,bD hf rho laf x.2]) ⟨me0,[]⟩ ⟨me0,rfl,x0⟩ (λd hd st hst=>by
  obtain⟨me,rfl,x⟩:=hst
  obtain⟨y,hy,rfl⟩:=List.mem_map.mp hd
  have:∀y∈fV 0 (List.range 5),y.1=y.2∧y.2<5:=by decide
  obtain⟨h1,h2⟩:=this y hy
  rw[h1]
  obtain⟨me',e,x'⟩:=Fp (F:=F) x h2 (hr _ h2) (c1 _ h2)
  exact⟨⟨me',[]⟩,e,me',rfl,x'⟩)
 rw[ah (show ex F 58 (.for (.two 21 29) (.enum (.var 52)) zH false) ⟨me0,[]⟩=some (.next ⟨me1,[]⟩) by rw[ex,hit1];exact congrArg (jo false) f1)]
 have hit2:jK F 56 (.one 55) (.range (.const (.int true (5)))) ⟨me1,[]⟩=some ((List.range 5).map nI):=by unfold jK;rw[dc]
 obtain⟨st2,f2,me2,rfl,x2⟩:=lS (f:=a5 F 56 (.one 55) zI) (λst=>∃me,st=⟨me,[]⟩∧IM wd cm hf rho laf E1 E2 (Mine.pos (cJ ns)) me) ((List.range 5).map nI) ⟨me1,[]⟩ ⟨me1,rfl,x1⟩ (λd hd st hst=>by
  obtain⟨me,rfl,x⟩:=hst
  obtain⟨w,hw,rfl⟩:=List.mem_map.mp hd
  obtain⟨me',e,x'⟩:=Fq hI ao x (List.mem_range.mp hw)
  exact⟨⟨me',[]⟩,e,me',rfl,x'⟩)
 rw[ah (show ex F 57 (.for (.one 55) (.range (.const (.int true (5)))) zI false) ⟨me1,[]⟩=some (.next ⟨me2,[]⟩) by rw[ex,hit2];exact congrArg (jo false) f2)]
 rw[bC,nq bR]
end
abbrev EL(hf:Nat→Nat)(s:List Nat):D:=.list ((List.range 5).map λw=>nI (hf (Mine.pos s w)))
abbrev WD(cm hf:Nat→Nat)(s:List Nat):D:=.list ((cj (wl cm hf s)).map (D.int false))
abbrev TD(cm hf:Nat→Nat)(s:List Nat):D:=.list ((List.range 5).map λk=>D.int false ((cj (wl cm hf s)).drop k).sum)
def jl(cm:Nat→Nat):List (Nat×Nat):=(List.range 5).flatMap λo=>(List.range 5).flatMap λt=>if decide (cm o<cm t)=true then [(o,t)]else []
abbrev jm(cm hf:Nat→Nat)(r:List Nat)(x:Nat×Nat):D:=.tup [nI (cm x.1),nI (hf (Mine.pos r x.1)),nI (cm x.2),nI (hf (Mine.pos r x.2))]
theorem lT{cm:Nat→Nat}{x:Nat×Nat}:x∈jl cm↔x.1<5∧x.2<5∧cm x.1<cm x.2:=by
 unfold jl
 rw[List.mem_flatMap]
 constructor
 ·rintro⟨o,ho,h⟩
  obtain⟨t,ht,h⟩:=List.mem_flatMap.mp h
  split at h
  ·rename_i q
   rw[List.mem_singleton.mp h]
   exact⟨List.mem_range.mp ho,List.mem_range.mp ht,by simpa using q⟩
  ·cases h
 ·rintro⟨h1,h2,h3⟩
  refine⟨x.1,List.mem_range.mpr h1,List.mem_flatMap.mpr ⟨x.2,List.mem_range.mpr h2,?_⟩⟩
  rw[if_pos (by simpa using h3)]
  exact .head _
theorem qd(cm:Nat→Nat):(jl cm).length≤25:=by
 have h1:∀(o:Nat) (l:List Nat),(l.flatMap λt=>if decide (cm o<cm t)=true then [(o,t)]else []).length≤l.length:=λo l=>by
  induction l with
  | nil=>exact Nat.le_refl _
  | cons a l ih=>
   rw[List.flatMap_cons,List.length_append,List.length_cons]
   split<;>simp only[List.length_cons,List.length_nil]<;>omega
 have h2:∀l:List Nat,(l.flatMap λo=>(List.range 5).flatMap λt=>if decide (cm o<cm t)=true then [(o,t)]else []).length≤5*l.length:=λl=>by
  induction l with
  | nil=>exact Nat.le_refl _
  | cons a l ih=>
   rw[List.flatMap_cons,List.length_append,List.length_cons]
   have:=h1 a (List.range 5)
   rw[List.length_range]at this
   omega
 exact h2 (List.range 5)
section
variable{F:Nat→List D→Option D}{me:Me}{ns r:List Nat}{cm hf:Nat→Nat}
theorem RO.at(x:AO ns cm hf)(y:RO ns r){w:Nat}(h:w<5):r.getD (Mine.pos r w) 9=w:=by
 have:=(y.pos x h).1
 have hm:Mine.pos r w∈(List.range 5).filter λp=>r.getD p 9==w:=by rw[this];exact .head _
 exact eq_of_beq (List.mem_filter.mp hm).2
theorem yp(hb:∀p,p<5→hf p≤1000){s:List Nat}(hs:∀p,p<5→cm (s.getD p 9)≤hf p)(k:Nat):iP ((cj (wl cm hf s)).drop k)=true:=by
 unfold iP
 rw[Bool.and_eq_true,decide_eq_true_eq,List.all_eq_true]
 refine⟨by rw[List.length_drop,iI];omega,λz hz=>?_⟩
 have hz:=(bJ _).mem_iff.mp (List.mem_of_mem_drop hz)
 obtain⟨p,hp,rfl⟩:=List.mem_map.mp hz
 have h1:=hs p (List.mem_range.mp hp)
 have h2:=hb p (List.mem_range.mp hp)
 simp only[Bool.and_eq_true,decide_eq_true_eq]
 omega
structure KM(ns r:List Nat)(cm hf:Nat→Nat)(me:Me):Prop where
 l27:me.lookup 27=some (.list ((List.range 5).map λi=>nI (cm i)))
 l53:me.lookup 53=some (.list ([dW,r,cJ ns].map (EL hf)))
theorem KM.up(x:KM ns r cm hf me){i:Nat}{d:D}(h:i≠27)(h2:i≠53):KM ns r cm hf (put i d me):=
 ⟨by rw[aa,if_neg (Ne.symm h)];exact x.l27,by rw[aa,if_neg (Ne.symm h2)];exact x.l53⟩
theorem E4(ao:AO ns cm hf)(y:RO ns r)(x:KM ns r cm hf me){n:Nat}:ev F (n+6) (.comp (.bi .sorted [(.comp (.bin .sub (.sub (.var 41) (.var 55)) (.sub (.var 27) (.var 55))) [((.one 55),(.range (.const (.int true (5)))),[])])]) [((.one 41),(.var 53),[])]) me=some (.list ([dW,r,cJ ns].map (WD cm hf))):=by
 refine dK [dW,r,cJ ns] (EL hf) _ (dL ((bU (by decide)).trans x.l53) (by simp)) (λs hs=>?_) (by simp)
 have hin:ev F (n+4) (.comp (.bin .sub (.sub (.var 41) (.var 55)) (.sub (.var 27) (.var 55))) [((.one 55),(.range (.const (.int true (5)))),[])]) ((41,EL hf s)::bA [41] me)=some (.list ((List.range 5).map λw=>D.int true ((hf (Mine.pos s w):Int)-(cm w:Int)))):=by
  refine dK (List.range 5) nI _ dc (λw hw=>?_) (by simp)
  have hw:=List.mem_range.mp hw
  exact(cg ((aL (aJ ((bw (by decide)).trans aG)) (aJ aG)).trans (cV hw)) ((aL (aJ ((bw (by decide)).trans ((bw (by decide)).trans x.l27))) (aJ aG)).trans (cV hw))).trans oQ
 rw[AK .sorted hin]
 have e:((List.range 5).map λw=>D.int true ((hf (Mine.pos s w):Int)-(cm w:Int)))=((List.range 5).map λw=>(hf (Mine.pos s w):Int)-(cm w:Int)).map (D.int true):=by rw[List.map_map];rfl
 have hro:RO ns s:=by
  simp only[List.mem_cons,List.not_mem_nil,or_false]at hs
  rcases hs with rfl|rfl|rfl
  ·exact uR ao
  ·exact y
  ·exact ao.la.1
 rw[nB,e,dy]
 dsimp only
 rw[if_pos (by simp),hro.waits ao]
theorem E5(ao:AO ns cm hf)(y:RO ns r)(hb:∀p,p<5→hf p≤1000)(l59:me.lookup 59=some (.list ([dW,r,cJ ns].map (WD cm hf)))){n:Nat}:ev F (n+7) (.comp (.comp (.bi .sum [(.slice (.var 41) (some (.var 21)) none)]) [((.one 21),(.range (.const (.int true (5)))),[])]) [((.one 41),(.var 59),[])]) me=some (.list ([dW,r,cJ ns].map (TD cm hf))):=by
 refine dK [dW,r,cJ ns] (WD cm hf) _ (dL ((bU (by decide)).trans l59) (by simp)) (λs hs=>?_) (by simp)
 refine dK (List.range 5) nI _ dc (λk hk=>?_) (by simp)
 have hk:=List.mem_range.mp hk
 have hro:RO ns s:=by
  simp only[List.mem_cons,List.not_mem_nil,or_false]at hs
  rcases hs with rfl|rfl|rfl
  ·exact uR ao
  ·exact y
  ·exact ao.la.1
 have hs5:∀p,p<5→cm (s.getD p 9)≤hf p:=λp hp=>(ao.nn p hp _ (hro.lt5 ao hp)).mp (hro.lt p hp)
 have hsl:ev F (n+4) (.slice (.var 41) (some (.var 21)) none) ((21,nI k)::bA [21] ((41,WD cm hf s)::bA [41] me))=some (.list (((cj (wl cm hf s)).drop k).map (D.int false))):=by
  have l41:List.lookup 41 ((21,nI k)::bA [21] ((41,WD cm hf s)::bA [41] me))=some (WD cm hf s):=(bw (by decide)).trans aG
  have l21:List.lookup 21 ((21,nI k)::bA [21] ((41,WD cm hf s)::bA [41] me))=some (nI k):=aG
  generalize (21,nI k)::bA [21] ((41,WD cm hf s)::bA [41] me)=me2 at l41 l21
  have h5:=iI (cm:=cm) (hf:=hf) (s:=s)
  have:=ni (l:=(cj (wl cm hf s)).map (D.int false)) (p:=k) (by rw[List.length_map,h5];omega) (by rw[List.length_map,h5];omega)
  rw[ev]
  simp only[aJ l41,aJ l21]
  rw[dC,if_pos (by rw[List.length_map,h5];omega)]
  show some (D.list (fu ((cj (wl cm hf s)).map (D.int false)) (some (k:Int)) none))=_
  rw[this,List.map_drop]
 rw[AK .sum hsl,nB,dy]
 dsimp only
 rw[if_pos (yp hb hs5 k)]
theorem E6(x:KM ns r cm hf me){n:Nat}:ev F (n+7) (.comp (.tup [(.sub (.var 27) (.var 39)),(.sub (.sub (.var 53) (.const (.int true (1)))) (.var 39)),(.sub (.var 27) (.var 40)),(.sub (.sub (.var 53) (.const (.int true (1)))) (.var 40))]) [((.one 39),(.range (.const (.int true (5)))),[]),((.one 40),(.range (.const (.int true (5)))),[(.cmp .lt (.sub (.var 27) (.var 39)) (.sub (.var 27) (.var 40)))])]) me=some (.list ((jl cm).map (jm cm hf r))):=by
 have ht:∀(a b:X) (c d:List X),eX [(dA.one 39,a,c),(dA.one 40,b,d)]=[39,40]:=λ_ _ _ _=>rfl
 rw[ev,ht,hU,dc]
 dsimp only
 have d27:(bA [39,40] me).lookup 27=some (.list ((List.range 5).map λi=>nI (cm i))):=by rw[aY,if_neg (by decide)];exact x.l27
 have d53:(bA [39,40] me).lookup 53=some (.list ([dW,r,cJ ns].map (EL hf))):=by rw[aY,if_neg (by decide)];exact x.l53
 generalize bA [39,40] me=me1 at d27 d53
 rw[gB (h:=λo=>((List.range 5).flatMap λt=>if decide (cm o<cm t)=true then [(o,t)]else []).map (jm cm hf r)) λo ho=>?_]
 ·dsimp only
  have:((List.range 5).flatMap λo=>((List.range 5).flatMap λt=>if decide (cm o<cm t)=true then [(o,t)]else []).map (jm cm hf r))=(jl cm).map (jm cm hf r):=by unfold jl;rw[List.map_flatMap]
  rw[this,if_pos (by rw[List.length_map];have:=qd cm;omega)]
 ·have ho:=List.mem_range.mp ho
  simp only[gZ,dE,hU,dc]
  rw[gB (h:=λt=>(if decide (cm o<cm t)=true then [(o,t)]else []).map (jm cm hf r)) λt ht=>?_,List.map_flatMap]
  have ht:=List.mem_range.mp ht
  have l39:List.lookup 39 ((40,nI t)::(39,nI o)::me1)=some (nI o):=rfl
  have l40:List.lookup 40 ((40,nI t)::(39,nI o)::me1)=some (nI t):=rfl
  have l27:List.lookup 27 ((40,nI t)::(39,nI o)::me1)=some (.list ((List.range 5).map λi=>nI (cm i))):=d27
  have l53:List.lookup 53 ((40,nI t)::(39,nI o)::me1)=some (.list ([dW,r,cJ ns].map (EL hf))):=d53
  generalize (40,nI t)::(39,nI o)::me1=me2 at l39 l40 l27 l53
  have c1:∀m,ev F (m+3) (.sub (.var 27) (.var 39)) me2=some (nI (cm o)):=λm=>(aL (aJ l27) (aJ l39)).trans (cV ho)
  have c2:∀m,ev F (m+3) (.sub (.var 27) (.var 40)) me2=some (nI (cm t)):=λm=>(aL (aJ l27) (aJ l40)).trans (cV ht)
  have s1:∀m,ev F (m+3) (.sub (.sub (.var 53) (.const (.int true (1)))) (.var 39)) me2=some (nI (hf (Mine.pos r o))):=λm=>(aL ((aL (aJ l53) bR).trans (show _=some (EL hf r)from rfl)) (aJ l39)).trans (cV ho)
  have s2:∀m,ev F (m+3) (.sub (.sub (.var 53) (.const (.int true (1)))) (.var 40)) me2=some (nI (hf (Mine.pos r t))):=λm=>(aL ((aL (aJ l53) bR).trans (show _=some (EL hf r)from rfl)) (aJ l40)).trans (cV ht)
  have hcmp:ev F (n+6) (.cmp .lt (.sub (.var 27) (.var 39)) (.sub (.var 27) (.var 40))) me2=some (.bool (decide (cm o<cm t))):=by
   refine bW (c1 (n+2)) (c2 (n+2)) ?_
   simp[a9]
  have htup:ev F (n+6) (.tup [(.sub (.var 27) (.var 39)),(.sub (.sub (.var 53) (.const (.int true (1)))) (.var 39)),(.sub (.var 27) (.var 40)),(.sub (.sub (.var 53) (.const (.int true (1)))) (.var 40))]) me2=some (jm cm hf r (o,t)):=by
   rw[ev]
   simp[bn,c1 (n+2),c2 (n+2),s1 (n+2),s2 (n+2)]
  rw[hcmp,htup]
  by_cases q:cm o<cm t
  ·simp[aC,q]
  ·simp[aC,q]
end
section
variable{F:Nat→List D→Option D}{me:Me}{ns r:List Nat}{cm hf:Nat→Nat}
theorem iZ(x:AO ns cm hf)(y:RO ns r):∀p,p<5→cm (r.getD p 9)≤hf p:=λp hp=>(x.nn p hp _ (y.lt5 x hp)).mp (y.lt p hp)
theorem uT(x:AO ns cm hf){p q:Nat}(hp:p<5)(hq:q<5):hf p<hf q↔p<q:=by
 constructor
 ·intro h
  rcases Nat.lt_or_ge p q with k|k
  ·exact k
  ·rcases Nat.eq_or_lt_of_le k with e|k
   ·rw[e]at h;omega
   ·have:=x.hi q p k hp;omega
 ·exact λh=>x.hi p q h hq
theorem yq(x:AO ns cm hf)(y:RO ns r):((jl cm).filter λz=>decide (hf (Mine.pos r z.2)<hf (Mine.pos r z.1)))=[]↔∀p1 p2,p1<p2→p2<5→¬cm (r.getD p2 9)<cm (r.getD p1 9):=by
 rw[List.filter_eq_nil_iff]
 constructor
 ·intro h p1 p2 h1 h2 h3
  have a1:=y.lt5 x (show p1<5 by omega)
  have a2:=y.lt5 x h2
  have:=h (r.getD p2 9,r.getD p1 9) (lT.mpr ⟨a2,a1,h3⟩)
  rw[decide_eq_true_eq]at this
  dsimp only at this
  rw[y.inv x (show p1<5 by omega),y.inv x h2]at this
  exact this ((uT x (by omega) h2).mpr h1)
 ·intro h z hz hd
  obtain⟨h1,h2,h3⟩:=lT.mp hz
  rw[decide_eq_true_eq]at hd
  have b1:=(y.pos x h1).2
  have b2:=(y.pos x h2).2
  have:=h _ _ ((uT x b2 b1).mp hd) b1
  rw[y.at x h1,y.at x h2]at this
  exact this h3
theorem wh(x:AO ns cm hf)(y:RO ns r):((jl cm).filter λz=>decide (cm z.2≤hf (Mine.pos r z.1))&&decide (hf (Mine.pos r z.1)<hf (Mine.pos r z.2)))=[]↔∀p1 p2,p1<p2→p2<5→¬(cm (r.getD p1 9)<cm (r.getD p2 9)∧cm (r.getD p2 9)≤hf p1):=by
 rw[List.filter_eq_nil_iff]
 constructor
 ·intro h p1 p2 h1 h2 h3
  have a1:=y.lt5 x (show p1<5 by omega)
  have a2:=y.lt5 x h2
  have:=h (r.getD p1 9,r.getD p2 9) (lT.mpr ⟨a1,a2,h3.1⟩)
  rw[Bool.and_eq_true,decide_eq_true_eq,decide_eq_true_eq]at this
  dsimp only at this
  rw[y.inv x (show p1<5 by omega),y.inv x h2]at this
  exact this ⟨h3.2,(uT x (by omega) h2).mpr h1⟩
 ·intro h z hz hd
  obtain⟨h1,h2,h3⟩:=lT.mp hz
  rw[Bool.and_eq_true,decide_eq_true_eq,decide_eq_true_eq]at hd
  have b1:=(y.pos x h1).2
  have b2:=(y.pos x h2).2
  have:=h _ _ ((uT x b1 b2).mp hd.2) b2
  rw[y.at x h1,y.at x h2]at this
  exact this ⟨h3,hd.1⟩
theorem uU{n:Nat}{o o2:Cm}{a b c:X}{x y z:D}{t:Bool}(h1:ev F n a me=some x)(h2:ev F n b me=some y)(h3:a9 o x y=some true)(h4:ev F n c me=some z)(h5:a9 o2 y z=some t):ev F (n+1) (.cmp2 o o2 a b c) me=some (.bool t):=by
 rw[ev,h1,h2];simp only[h3,h4,h5]
theorem yr{n:Nat}{o o2:Cm}{a b c:X}{x y:D}(h1:ev F n a me=some x)(h2:ev F n b me=some y)(h3:a9 o x y=some false):ev F (n+1) (.cmp2 o o2 a b c) me=some (.bool false):=by
 rw[ev,h1,h2];simp only[h3]
theorem yt{n:Nat}{a:X}{t:Bool}(h:ev F n a me=some (.bool t)):ev F (n+1) (.not a) me=some (.bool (!t)):=by rw[ev,h];rfl
theorem yu{l:List D}:a9 .eq (.list l) (.list [])=some l.isEmpty:=by
 cases l with
 | nil=>rfl
 | cons a l=>rw[a9,eV,if_neg (by simp)];rfl
theorem yv{a b:Bool}:a9 .eq (.bool a) (.bool b)=some (a==b):=rfl
abbrev Fc:X:=.not (.cmp2 .le .le (.sub (.sub (.var 60) (.const (.int true (0)))) (.var 21)) (.sub (.sub (.var 60) (.const (.int true (1)))) (.var 21)) (.sub (.sub (.var 60) (.const (.int true (2)))) (.var 21)))
abbrev E7:List Y:=[.ite Fc [.ret (.const (.bool false))] []]
theorem yw(ao:AO ns cm hf)(y:RO ns r)(hb:∀p,p<5→hf p≤1000):
  bC F 60 ej ⟨ez.zip [.list ((List.range 5).map λi=>nI (cm i)),.list ([dW,r,cJ ns].map (EL hf))],[]⟩=some (.ret (.bool true)):=by
 unfold ej ez
 simp only[List.zip_cons_cons,List.zip_nil_right]
 have la:=ao.la.1
 obtain⟨w1,w2⟩:=tY ao y
 obtain⟨w3,w4⟩:=tZ ao y la
 have x0:KM ns r cm hf [(27,D.list ((List.range 5).map λi=>nI (cm i))),(53,D.list ([dW,r,cJ ns].map (EL hf)))]:=⟨rfl,rfl⟩
 generalize [(27,D.list ((List.range 5).map λi=>nI (cm i))),(53,D.list ([dW,r,cJ ns].map (EL hf)))]=me0 at x0
 rw[ah (bK (E4 ao y x0 (n:=52)))]
 have x1:=x0.up (i:=59) (d:=.list ([dW,r,cJ ns].map (WD cm hf))) (by decide) (by decide)
 have l59:(put 59 (.list ([dW,r,cJ ns].map (WD cm hf))) me0).lookup 59=some (.list ([dW,r,cJ ns].map (WD cm hf))):=by rw[aa,if_pos rfl]
 generalize put 59 (.list ([dW,r,cJ ns].map (WD cm hf))) me0=me1 at x1 l59
 rw[ah (bK (E5 ao y hb l59 (n:=50)))]
 have x2:=x1.up (i:=60) (d:=.list ([dW,r,cJ ns].map (TD cm hf))) (by decide) (by decide)
 have l59':(put 60 (.list ([dW,r,cJ ns].map (TD cm hf))) me1).lookup 59=some (.list ([dW,r,cJ ns].map (WD cm hf))):=by rw[aa,if_neg (by decide)];exact l59
 have l60:(put 60 (.list ([dW,r,cJ ns].map (TD cm hf))) me1).lookup 60=some (.list ([dW,r,cJ ns].map (TD cm hf))):=by rw[aa,if_pos rfl]
 generalize put 60 (.list ([dW,r,cJ ns].map (TD cm hf))) me1=me2 at x2 l59' l60
 have hit:jK F 56 (.one 21) (.range (.const (.int true (5)))) ⟨me2,[]⟩=some ((List.range 5).map nI):=by unfold jK;rw[dc]
 obtain⟨st3,f3,me3,rfl,x3,l3,l3'⟩:=lS (f:=a5 F 56 (.one 21) E7) (λst=>∃me,st=⟨me,[]⟩∧KM ns r cm hf me∧me.lookup 59=some (.list ([dW,r,cJ ns].map (WD cm hf)))∧me.lookup 60=some (.list ([dW,r,cJ ns].map (TD cm hf)))) ((List.range 5).map nI) ⟨me2,[]⟩ ⟨me2,rfl,x2,l59',l60⟩ (λd hd st hst=>by
  obtain⟨me,rfl,x,l9,l0⟩:=hst
  obtain⟨k,hk,rfl⟩:=List.mem_map.mp hd
  have hk:=List.mem_range.mp hk
  have x':=x.up (i:=21) (d:=nI k) (by decide) (by decide)
  have l9':(put 21 (nI k) me).lookup 59=some (.list ([dW,r,cJ ns].map (WD cm hf))):=by rw[aa,if_neg (by decide)];exact l9
  have l0':(put 21 (nI k) me).lookup 60=some (.list ([dW,r,cJ ns].map (TD cm hf))):=by rw[aa,if_neg (by decide)];exact l0
  have l21:(put 21 (nI k) me).lookup 21=some (nI k):=by rw[aa,if_pos rfl]
  refine⟨⟨put 21 (nI k) me,[]⟩,cZ (me':=put 21 (nI k) me) (by rfl) rfl ?_ rfl,_,rfl,x',l9',l0'⟩
  show bC F 56 E7 ⟨put 21 (nI k) me,[]⟩=_
  generalize put 21 (nI k) me=me' at l0' l21
  have t0:=ng (s':=r) (s:=dW) (iZ ao y) w1 k hk
  have t1:=ng (s':=cJ ns) (s:=r) (iZ ao la) w3 k hk
  have hT:ev F 54 Fc me'=some (.bool false):=by
   refine(yt (t:=true) (uU (x:=.int false ((cj (wl cm hf dW)).drop k).sum) (y:=.int false ((cj (wl cm hf r)).drop k).sum) (z:=.int false ((cj (wl cm hf (cJ ns))).drop k).sum) ?_ ?_ ?_ ?_ ?_))
   ·exact(aL ((aL (aJ l0') bR).trans (show _=some (TD cm hf dW)from rfl)) (aJ l21)).trans (cV hk)
   ·exact(aL ((aL (aJ l0') bR).trans (show _=some (TD cm hf r)from rfl)) (aJ l21)).trans (cV hk)
   ·simp[a9,t0]
   ·exact(aL ((aL (aJ l0') bR).trans (show _=some (TD cm hf (cJ ns))from rfl)) (aJ l21)).trans (cV hk)
   ·simp[a9,t1]
  rw[ah (iJ hT)]
  rfl)
 rw[ah (show ex F 57 (.for (.one 21) (.range (.const (.int true (5)))) E7 false) ⟨me2,[]⟩=some (.next ⟨me3,[]⟩) by rw[ex,hit];exact congrArg (jo false) f3)]
 rw[ah (bK (E6 x3 (n:=48)))]
 have m59:(put 61 (.list ((jl cm).map (jm cm hf r))) me3).lookup 59=some (.list ([dW,r,cJ ns].map (WD cm hf))):=by rw[aa,if_neg (by decide)];exact l3
 have m61:(put 61 (.list ((jl cm).map (jm cm hf r))) me3).lookup 61=some (.list ((jl cm).map (jm cm hf r))):=by rw[aa,if_pos rfl]
 generalize put 61 (.list ((jl cm).map (jm cm hf r))) me3=me4 at m59 m61
 have pl25:((jl cm).map (jm cm hf r)).length≤100000:=by rw[List.length_map];have:=qd cm;omega
 have pl25':(jl cm).length≤100000:=by have:=qd cm;omega
 have e62:ev F 54 (.comp (.var 64) [((.one 64),(.var 61),[(.cmp .lt (.sub (.var 64) (.const (.int true (3)))) (.sub (.var 64) (.const (.int true (1)))))])]) me4=some (.list (((jl cm).filter λz=>decide (hf (Mine.pos r z.2)<hf (Mine.pos r z.1))).map (jm cm hf r))):=by
  refine ks (jl cm) (jm cm hf r) _ _ (dL ((bU (by decide)).trans m61) pl25) (λz _=>jF (bW ((aL (aJ aG) bR).trans (show _=some (nI (hf (Mine.pos r z.2)))from rfl)) ((aL (aJ aG) bR).trans (show _=some (nI (hf (Mine.pos r z.1)))from rfl)) ?_)) (λz _ _=>aJ aG) pl25'
  simp[a9]
 rw[ah (bK e62)]
 have k59:(put 62 (.list (((jl cm).filter λz=>decide (hf (Mine.pos r z.2)<hf (Mine.pos r z.1))).map (jm cm hf r))) me4).lookup 59=some (.list ([dW,r,cJ ns].map (WD cm hf))):=by rw[aa,if_neg (by decide)];exact m59
 have k61:(put 62 (.list (((jl cm).filter λz=>decide (hf (Mine.pos r z.2)<hf (Mine.pos r z.1))).map (jm cm hf r))) me4).lookup 61=some (.list ((jl cm).map (jm cm hf r))):=by rw[aa,if_neg (by decide)];exact m61
 have k62:(put 62 (.list (((jl cm).filter λz=>decide (hf (Mine.pos r z.2)<hf (Mine.pos r z.1))).map (jm cm hf r))) me4).lookup 62=some (.list (((jl cm).filter λz=>decide (hf (Mine.pos r z.2)<hf (Mine.pos r z.1))).map (jm cm hf r))):=by rw[aa,if_pos rfl]
 generalize put 62 (.list (((jl cm).filter λz=>decide (hf (Mine.pos r z.2)<hf (Mine.pos r z.1))).map (jm cm hf r))) me4=me5 at k59 k61 k62
 have e63:ev F 53 (.comp (.var 64) [((.one 64),(.var 61),[(.cmp2 .le .lt (.sub (.var 64) (.const (.int true (2)))) (.sub (.var 64) (.const (.int true (1)))) (.sub (.var 64) (.const (.int true (3)))))])]) me5=some (.list (((jl cm).filter λz=>decide (cm z.2≤hf (Mine.pos r z.1))&&decide (hf (Mine.pos r z.1)<hf (Mine.pos r z.2))).map (jm cm hf r))):=by
  refine ks (jl cm) (jm cm hf r) _ _ (dL ((bU (by decide)).trans k61) pl25) (λz _=>jF ?_) (λz _ _=>aJ aG) pl25'
  have a1:ev F 51 (.sub (.var 64) (.const (.int true (2)))) ((64,jm cm hf r z)::bA [64] me5)=some (nI (cm z.2)):=(aL (aJ aG) bR).trans rfl
  have a2:ev F 51 (.sub (.var 64) (.const (.int true (1)))) ((64,jm cm hf r z)::bA [64] me5)=some (nI (hf (Mine.pos r z.1))):=(aL (aJ aG) bR).trans rfl
  have a3:ev F 51 (.sub (.var 64) (.const (.int true (3)))) ((64,jm cm hf r z)::bA [64] me5)=some (nI (hf (Mine.pos r z.2))):=(aL (aJ aG) bR).trans rfl
  by_cases q:cm z.2≤hf (Mine.pos r z.1)
  ·rw[uU a1 a2 (by simp[a9,q]) a3 (t:=decide (hf (Mine.pos r z.1)<hf (Mine.pos r z.2))) (by simp[a9])]
   simp[q]
  ·rw[yr a1 a2 (by simp[a9];omega)]
   simp[q]
 rw[ah (bK e63)]
 have j59:(put 63 (.list (((jl cm).filter λz=>decide (cm z.2≤hf (Mine.pos r z.1))&&decide (hf (Mine.pos r z.1)<hf (Mine.pos r z.2))).map (jm cm hf r))) me5).lookup 59=some (.list ([dW,r,cJ ns].map (WD cm hf))):=by rw[aa,if_neg (by decide)];exact k59
 have j62:(put 63 (.list (((jl cm).filter λz=>decide (cm z.2≤hf (Mine.pos r z.1))&&decide (hf (Mine.pos r z.1)<hf (Mine.pos r z.2))).map (jm cm hf r))) me5).lookup 62=some (.list (((jl cm).filter λz=>decide (hf (Mine.pos r z.2)<hf (Mine.pos r z.1))).map (jm cm hf r))):=by rw[aa,if_neg (by decide)];exact k62
 have j63:(put 63 (.list (((jl cm).filter λz=>decide (cm z.2≤hf (Mine.pos r z.1))&&decide (hf (Mine.pos r z.1)<hf (Mine.pos r z.2))).map (jm cm hf r))) me5).lookup 63=some (.list (((jl cm).filter λz=>decide (cm z.2≤hf (Mine.pos r z.1))&&decide (hf (Mine.pos r z.1)<hf (Mine.pos r z.2))).map (jm cm hf r))):=by rw[aa,if_pos rfl]
 generalize put 63 (.list (((jl cm).filter λz=>decide (cm z.2≤hf (Mine.pos r z.1))&&decide (hf (Mine.pos r z.1)<hf (Mine.pos r z.2))).map (jm cm hf r))) me5=me6 at j59 j62 j63
 have q1:=(sh (s:=dW) (s':=r) (iZ ao (uR ao)) (iZ ao y) w1).trans (w2.symm.trans (yq ao y).symm)
 have q2:=(sh (s:=r) (s':=cJ ns) (iZ ao y) (iZ ao la) w3).trans (w4.symm.trans (wh ao y).symm)
 generalize hN:((jl cm).filter λz=>decide (hf (Mine.pos r z.2)<hf (Mine.pos r z.1)))=N at j62 q1
 generalize hC:((jl cm).filter λz=>decide (cm z.2≤hf (Mine.pos r z.1))&&decide (hf (Mine.pos r z.1)<hf (Mine.pos r z.2)))=C at j63 q2
 have v0:∀m,ev F (m+2) (.sub (.var 59) (.const (.int true 0))) me6=some (WD cm hf dW):=λm=>(aL (aJ j59) bR).trans rfl
 have v1:∀m,ev F (m+2) (.sub (.var 59) (.const (.int true 1))) me6=some (WD cm hf r):=λm=>(aL (aJ j59) bR).trans rfl
 have v2:∀m,ev F (m+2) (.sub (.var 59) (.const (.int true 2))) me6=some (WD cm hf (cJ ns)):=λm=>(aL (aJ j59) bR).trans rfl
 have b1:(((cj (wl cm hf r))==(cj (wl cm hf dW)))==(N.map (jm cm hf r)).isEmpty)=true:=by
  rw[beq_iff_eq,Bool.eq_iff_iff,beq_iff_eq,List.isEmpty_iff,List.map_eq_nil_iff]
  exact⟨λe=>q1.mp e.symm,λe=>(q1.mpr e).symm⟩
 have b2:(((cj (wl cm hf r))==(cj (wl cm hf (cJ ns))))==(C.map (jm cm hf r)).isEmpty)=true:=by
  rw[beq_iff_eq,Bool.eq_iff_iff,beq_iff_eq,List.isEmpty_iff,List.map_eq_nil_iff]
  exact q2
 have nilE:∀m,ev F (m+1) (.list []) me6=some (.list []):=λm=>rfl
 have g1:ev F 51 (.cmp .eq (.cmp .eq (.sub (.var 59) (.const (.int true (1)))) (.sub (.var 59) (.const (.int true (0))))) (.cmp .eq (.var 62) (.list []))) me6=some (.bool true):=by
  refine(bW (o:=.eq) (bW (o:=.eq) (v1 47) (v0 47) (iF (dy false) (dy false))) (bW (o:=.eq) (aJ j62) (nilE _) yu) yv).trans ?_
  rw[b1]
 have g2:ev F 51 (.cmp .eq (.cmp .eq (.sub (.var 59) (.const (.int true (1)))) (.sub (.var 59) (.const (.int true (2))))) (.cmp .eq (.var 63) (.list []))) me6=some (.bool true):=by
  refine(bW (o:=.eq) (bW (o:=.eq) (v1 47) (v2 47) (iF (dy false) (dy false))) (bW (o:=.eq) (aJ j63) (nilE _) yu) yv).trans ?_
  rw[b2]
 rw[bC,nq (t7 g1 λ_=>g2)]
 rfl
end
section
variable{mk:List D→Option D}{k:Nat}
theorem de{f:Nat}{ds:List D}{ps:List Nat}{Ys:List Y}{d:D}(h11:f≠11)(h8:f≠8)(hb:rF f=some (ps,Ys))(hl:ds.length=ps.length)(h:bC (FF mk k) 60 Ys ⟨ps.zip ds,[]⟩=some (.ret d)):FF mk (k+1) f ds=some d:=by
 rw[FF]
 simp only[if_neg h11,if_neg h8,hb,if_pos hl,h]
theorem AM:SC (FF mk (k+1)):=λx y=>by
 refine de (by decide) (by decide) rfl rfl ?_
 simp[gR,gS,bC,ex,evS,dF,ev,List.lookup,a9,dm]
theorem D2:GI (FF mk (k+1)):=λa b=>by
 cases e:ft a b with
 | some d=>
  refine de (by decide) (by decide) rfl rfl ?_
  simp[gp,gq,bC,ex,evS,dF,ev,List.lookup,e]
 | none=>
  rw[FF]
  simp[rF,gp,gq,bC,ex,evS,dF,ev,List.lookup,thaw,e]
theorem wj(l:List Str):kg (l.map (.str true))=some l:=by
 induction l with
 | nil=>rfl
 | cons a l ih=>rw[List.map_cons,kg,ih];rfl
theorem D3(wd:Nat→Str):WH (FF mk (k+2)) wd:=λy=>by
 rw[FF]
 simp only[if_true]
 rw[if_neg (by omega)]
 have:wL wd=((List.range 5).map wd).map (.str true):=by rw[List.map_map];rfl
 rw[this]
 simp only[BU,wj]
 rw[if_pos (by simp)]
end
section
variable{F:Nat→List D→Option D}{me:Me}{ns r s:List Nat}{cm hf rho laf:Nat→Nat}
theorem zM{n:Nat}{e:X}{st:St}{d:D}(h:dF F n e st=some d):ex F (n+1) (.ret e) st=some (.ret d):=by
 rw[ex,evS,h]
structure FM(hf rho laf:Nat→Nat)(me:Me)(W C M:D):Prop where
 l26:me.lookup 26=some W
 l27:me.lookup 27=some C
 l30:me.lookup 30=some M
 l52:me.lookup 52=some (.list ((List.range 5).map (bD hf rho laf)))
 n53:me.lookup 53=none
theorem FM.up{W C M:D}(x:FM hf rho laf me W C M){i:Nat}{d:D}(h:i∉[26,27,30,52,53]):FM hf rho laf (put i d me) W C M:=by
 have k:∀j,j∈[26,27,30,52,53]→(put i d me).lookup j=me.lookup j:=λj hj=>by rw[aa,if_neg];intro e;exact h (e▸hj)
 exact⟨(k _ (by simp)).trans x.l26,(k _ (by simp)).trans x.l27,(k _ (by simp)).trans x.l30,(k _ (by simp)).trans x.l52,(k _ (by simp)).trans x.n53⟩
abbrev Ee:List Y:=[.ite (.cmp .ne (.bi .sorted [(.comp (.sub (.var 29) (.var 65)) [((.one 29),(.var 52),[])])]) (.list [(.const (.int true (0))),(.const (.int true (1))),(.const (.int true (2))),(.const (.int true (3))),(.const (.int true (4)))])) [.ret (.const (.bool false))] [],
  .append 53 (.comp (.sub (.comp (.sub (.var 29) (.const (.int true (0)))) [((.one 29),(.var 52),[(.cmp .eq (.sub (.var 29) (.var 65)) (.var 55))])]) (.const (.int true (0)))) [((.one 55),(.range (.const (.int true (5)))),[])])]
theorem nr(ao:AO ns cm hf)(y:RO ns s){W C M:D}(x:FM hf rho laf me W C M){c:Int}(hcol:∀p,p<5→ft (bD hf rho laf p) (.int true c)=some (nI (s.getD p 9))){acc:List D}(ha:acc.length≤100):
  ∃me',a5 F 55 (.one 65) Ee ⟨me,[(53,.list acc)]⟩ (.int true c)=some (.next ⟨me',[(53,.list (acc++[EL hf s]))]⟩)∧FM hf rho laf me' W C M:=by
 have x1:=x.up (i:=65) (d:=.int true c) (by decide)
 have l65:(put 65 (.int true c) me).lookup 65=some (.int true c):=by rw[aa,if_pos rfl]
 refine⟨put 65 (.int true c) me,cZ (me':=put 65 (.int true c) me) (by rfl) rfl ?_ rfl,x1⟩
 show bC F 55 Ee ⟨put 65 (.int true c) me,[(53,.list acc)]⟩=_
 generalize put 65 (.int true c) me=me1 at x1 l65
 have hcomp:ev F 51 (.comp (.sub (.var 29) (.var 65)) [((.one 29),(.var 52),[])]) me1=some (.list ((List.range 5).map λp=>nI (s.getD p 9))):=by
  refine dK (List.range 5) (bD hf rho laf) _ (dL ((bU (by decide)).trans x1.l52) (by simp)) (λp hp=>?_) (by simp)
  exact(aL (aJ aG) (aJ ((bw (by decide)).trans l65))).trans (hcol p (List.mem_range.mp hp))
 have hsort:ev F 52 (.bi .sorted [(.comp (.sub (.var 29) (.var 65)) [((.one 29),(.var 52),[])])]) me1=some (.list ([0,1,2,3,4].map (D.int false))):=by
  rw[AK .sorted hcomp,nB,kt]
  dsimp only
  rw[if_pos (by simp),y.srt ao]
 have hT:ev F 53 (.cmp .ne (.bi .sorted [(.comp (.sub (.var 29) (.var 65)) [((.one 29),(.var 52),[])])]) (.list [(.const (.int true (0))),(.const (.int true (1))),(.const (.int true (2))),(.const (.int true (3))),(.const (.int true (4)))])) me1=some (.bool false):=by
  refine bW (o:=.ne) hsort (y:=.list ([0,1,2,3,4].map (D.int true))) rfl ?_
  rw[a9,iF (dy false) (dy true)]
  rfl
 have s1:ex F 54 (.ite (.cmp .ne (.bi .sorted [(.comp (.sub (.var 29) (.var 65)) [((.one 29),(.var 52),[])])]) (.list [(.const (.int true (0))),(.const (.int true (1))),(.const (.int true (2))),(.const (.int true (3))),(.const (.int true (4)))])) [.ret (.const (.bool false))] []) ⟨me1,[(53,.list acc)]⟩=some (.next ⟨me1,[(53,.list acc)]⟩):=by
  rw[ex,evS,dF]
  dsimp only
  rw[hT]
  rfl
 rw[ah s1]
 have hends:ev F 52 (.comp (.sub (.comp (.sub (.var 29) (.const (.int true (0)))) [((.one 29),(.var 52),[(.cmp .eq (.sub (.var 29) (.var 65)) (.var 55))])]) (.const (.int true (0)))) [((.one 55),(.range (.const (.int true (5)))),[])]) me1=some (EL hf s):=by
  refine dK (List.range 5) nI _ dc (λw hw=>?_) (by simp)
  have hw:=List.mem_range.mp hw
  have hin:ev F 50 (.comp (.sub (.var 29) (.const (.int true (0)))) [((.one 29),(.var 52),[(.cmp .eq (.sub (.var 29) (.var 65)) (.var 55))])]) ((55,nI w)::bA [55] me1)=some (.list (((List.range 5).filter λp=>s.getD p 9==w).map λp=>nI (hf p))):=by
   refine ks (List.range 5) (bD hf rho laf) _ _ (dL ((bU (by decide)).trans ((bw (by decide)).trans x1.l52)) (by simp)) (λp hp=>jF ?_) (λp hp _=>?_) (by simp)
   ·refine bW (o:=.eq) ((aL (aJ aG) (aJ ((bw (by decide)).trans ((bw (by decide)).trans l65)))).trans (hcol p (List.mem_range.mp hp))) (aJ ((bw (by decide)).trans aG)) ?_
    show some ((s.getD p 9:Int)==(w:Int))=_
    congr 1
    rw[Bool.eq_iff_iff,beq_iff_eq,beq_iff_eq]
    omega
   ·exact(aL (aJ aG) bR).trans rfl
  rw[(y.pos ao hw).1]at hin
  exact(aL hin bR).trans rfl
 have s2:ex F 53 (.append 53 (.comp (.sub (.comp (.sub (.var 29) (.const (.int true (0)))) [((.one 29),(.var 52),[(.cmp .eq (.sub (.var 29) (.var 65)) (.var 55))])]) (.const (.int true (0)))) [((.one 55),(.range (.const (.int true (5)))),[])])) ⟨me1,[(53,.list acc)]⟩=some (.next ⟨me1,[(53,.list (acc++[EL hf s]))]⟩):=by
  have hl:acc.length≤100000:=by omega
  rw[ex,hends]
  simp[dY,List.lookup,hl,put]
 rw[ah s2]
 rfl
end
section
variable{mk:List D→Option D}{k:Nat}{wd:Nat→Str}{cm:Nat→Nat}{mks:List D}{op:Nat→Bool}
theorem sn{ns r:List Nat}(y:RO ns r){p:Nat}:((List.range 5).take p).map (λq=>r.getD q 9)=r.take p:=by
 conv=>rhs;rw[y.eta]
 rw[List.map_take]
theorem zN(hm:MK mks op)(hc:Cv cm)(hw:WO wd):FF mk (k+5) 16 [.list (wL wd),.list (cL (fZ cm)),.list mks]=some (.bool true):=by
 obtain⟨ns,hs,ar,i,hh,ro,hi,e12⟩:=wg (F:=FF mk (k+3)) (wd:=wd) (mks:=mks) (cm:=cm) (op:=op) AM D2 (D3 wd) hm hc hw
 obtain⟨dn,e13,hdn⟩:=yk (F:=FF mk (k+3)) (mks:=mks) hm hc hh
 have ao:=hh.ao hc.mo
 obtain⟨y,hmin⟩:=yn (Cc (wd:=wd)) ao
 have la:=ao.la.1
 have hb:∀p,p<5→hF hs p≤1000:=λp=>by
  have:∀p,p<5→hF hs p≤13+p:=λp=>by
   induction p with
   | zero=>
    intro hp
    have:=jE hm (hh.nx 0 hp)
    have:=hc.le 0 hp
    unfold kB at *
    rw[if_pos rfl]at *
    unfold hF
    omega
   | succ p ih=>
    intro hp
    have h1:=jE hm (hh.nx (p+1) hp)
    have h2:=hc.le (p+1) hp
    have h3:=ih (by omega)
    unfold kB at h1
    rw[if_neg (by omega),Nat.add_sub_cancel]at h1
    unfold hF at h3 ⊢
    omega
  intro hp
  have:=this p hp
  omega
 have hbusy:(oU (f6 wd) ns hs 5).map cc=(List.range 5).map (bD (hF hs) (λp=>(fs (cI (f6 wd) ns).2).getD p 9) (λp=>(cJ ns).getD p 9)):=by
  unfold oU
  rw[List.map_map]
  refine List.map_congr_left λp hp=>?_
  have hp:=List.mem_range.mp hp
  have hl:p<(cI (f6 wd) ns).2.length:=by unfold cI;rw[kn,ao.nl];simpa using hp
  show D.list [nI (hs.getD p 0),nI p,nI ((cI (f6 wd) ns).2.getD p (0,0)).1,nI ((cI (f6 wd) ns).2.getD p (0,0)).2]=D.list [nI (hF hs p),nI p,nI ((fs (cI (f6 wd) ns).2).getD p 9),nI ((cJ ns).getD p 9)]
  rw[ym _ hl,D0 (f6 wd) ao.nl hp]
 generalize hr:fs (cI (f6 wd) ns).2=r at y hmin hbusy
 have c12:FF mk (k+4) 12 [.list (wL wd),.list (cL (fZ cm)),.list mks]=some (.list (ar.map cc)):=de (by decide) (by decide) rfl rfl e12
 have c13:FF mk (k+4) 13 [.list (cL (fZ cm)),.list mks]=some (.list dn):=de (by decide) (by decide) rfl rfl e13
 have c14:FF mk (k+4) 14 [.list (wL wd),.list (cL (fZ cm)),.list ((List.range 5).map (bD (hF hs) (λp=>r.getD p 9) (λp=>(cJ ns).getD p 9))),.list [EL (hF hs) dW,EL (hF hs) r,EL (hF hs) (cJ ns)]]=some (.bool true):=by
  refine de (by decide) (by decide) rfl rfl (t9 (F:=FF mk (k+3)) DY ao (λp hp=>y.lt5 ao hp) λp hp=>zL ?_ ?_)
  ·refine List.mem_map.mpr ⟨r.getD p 9,List.mem_filter.mpr ⟨List.mem_range.mpr (y.lt5 ao hp),?_⟩,rfl⟩
   rw[sn y,Bool.and_eq_true,decide_eq_true_eq]
   refine⟨(ao.nn p hp _ (y.lt5 ao hp)).mp (y.lt p hp),?_⟩
   have hpl:p<r.length:=by rw[y.l];exact hp
   rw[Bool.not_eq_true',List.contains_eq_mem,decide_eq_false_iff_not]
   intro hmem
   obtain⟨q,hq,e⟩:=List.mem_iff_getElem.mp hmem
   rw[List.length_take]at hq
   rw[List.getElem_take,List.getD_eq_getElem?_getD,List.getElem?_eq_getElem hpl]at e
   have:=(List.getElem_inj y.nd).mp e
   omega
  ·intro a ha
   obtain⟨w,hw',rfl⟩:=List.mem_map.mp ha
   obtain⟨h1,h2⟩:=List.mem_filter.mp hw'
   rw[sn y,Bool.and_eq_true,decide_eq_true_eq,Bool.not_eq_true',List.contains_eq_mem,decide_eq_false_iff_not]at h2
   have h3:=hmin p hp w ((ao.nn p hp w (List.mem_range.mp h1)).mpr h2.1) h2.2
   have:=D1 h3
   omega
 have c15:FF mk (k+4) 15 [.list (cL (fZ cm)),.list [EL (hF hs) dW,EL (hF hs) r,EL (hF hs) (cJ ns)]]=some (.bool true):=de (by decide) (by decide) rfl rfl (yw (F:=FF mk (k+3)) ao y hb)
 refine de (by decide) (by decide) rfl rfl ?_
 unfold fT fU
 simp only[List.zip_cons_cons,List.zip_nil_right]
 have hal:ar.length≤100000:=by rw[ro.al];omega
 have e52:ev (FF mk (k+4)) 58 (.comp (.var 29) [((.one 29),(.call 12 [(.var 26),(.var 27),(.var 30)]),[(.cmp .ne (.sub (.var 29) (.const (.int true (3)))) (.const (.int true (9))))])]) [(26,D.list (wL wd)),(27,D.list (cL (fZ cm))),(30,D.list mks)]=some (.list ((List.range 5).map (bD (hF hs) (λp=>r.getD p 9) (λp=>(cJ ns).getD p 9)))):=by
  rw[←hbusy,←ro.bz]
  refine ks ar cc m8 cc ?_ (λa _=>jF ?_) (λa _ _=>aJ aG) hal
  ·have:ev (FF mk (k+4)) 57 (.call 12 [(.var 26),(.var 27),(.var 30)]) (bA [29] [(26,D.list (wL wd)),(27,D.list (cL (fZ cm))),(30,D.list mks)])=some (.list (ar.map cc)):=by
    rw[ev]
    simp only[bn]
    exact c12
   rw[gY,this]
   ·dsimp only[dD]
    rw[if_pos (by rw[List.length_map];exact hal)]
   ·intro _ h;cases h
  ·refine bW (o:=.ne) ((aL (aJ aG) bR).trans (show _=some (D.int true a.2.2.2)from rfl)) bR ?_
   rfl
 rw[ah (bK e52)]
 have x0:FM (hF hs) (λp=>r.getD p 9) (λp=>(cJ ns).getD p 9) (put 52 (.list ((List.range 5).map (bD (hF hs) (λp=>r.getD p 9) (λp=>(cJ ns).getD p 9)))) [(26,D.list (wL wd)),(27,D.list (cL (fZ cm))),(30,D.list mks)]) (D.list (wL wd)) (D.list (cL (fZ cm))) (D.list mks):=⟨rfl,rfl,rfl,rfl,rfl⟩
 generalize put 52 (.list ((List.range 5).map (bD (hF hs) (λp=>r.getD p 9) (λp=>(cJ ns).getD p 9)))) [(26,D.list (wL wd)),(27,D.list (cL (fZ cm))),(30,D.list mks)]=me0 at x0
 have hhs:hs.map (λh:Nat=>(h:Int))=(List.range 5).map λp=>(hF hs p:Int):=by
  refine List.ext_getElem (by simp[hh.lh]) λj h1 h2=>?_
  rw[List.length_map]at h1
  rw[List.getElem_map,List.getElem_map,List.getElem_range]
  unfold hF
  rw[List.getD_eq_getElem?_getD,List.getElem?_eq_getElem h1];rfl
 have eT:ev (FF mk (k+4)) 57 (.cmp .ne (.comp (.sub (.var 29) (.const (.int true (0)))) [((.one 29),(.var 52),[])]) (.call 13 [(.var 27),(.var 30)])) me0=some (.bool false):=by
  have h1:ev (FF mk (k+4)) 56 (.comp (.sub (.var 29) (.const (.int true (0)))) [((.one 29),(.var 52),[])]) me0=some (.list ((List.range 5).map λp=>nI (hF hs p))):=by
   refine dK (List.range 5) (bD _ _ _) _ (dL ((bU (by decide)).trans x0.l52) (by simp)) (λp _=>?_) (by simp)
   exact(aL (aJ aG) bR).trans rfl
  have h2:ev (FF mk (k+4)) 56 (.call 13 [(.var 27),(.var 30)]) me0=some (.list dn):=by
   rw[ev]
   simp only[bn,aJ x0.l27,aJ x0.l30]
   exact c13
  refine bW (o:=.ne) h1 h2 ?_
  rw[a9,iF (kt _ _) hdn,hhs]
  simp
 rw[ah (iJ eT)]
 rw[ah (s':=⟨me0,[(53,.list [])]⟩) (by
  have hdel:nz 53 me0=me0:=by
   have:∀l:Me,l.lookup 53=none→nz 53 l=l:=λl=>by
    induction l with
    | nil=>intro _;rfl
    | cons q l ih=>
     intro h
     rw[List.lookup_cons]at h
     by_cases e:q.1=53
     ·rw[e]at h;simp at h
     ·rw[show(53==q.1)=false by simpa using Ne.symm e]at h
      rw[nz,if_neg e,ih h]
   exact this _ x0.n53
  simp[ex,bn,aS,hdel])]
 have hit:jK (FF mk (k+4)) 55 (.one 65) (.tup [(.const (.int true (1))),(.const (.int true (2))),(.const (.int true (3)))]) ⟨me0,[(53,.list [])]⟩=some [.int true 1,.int true 2,.int true 3]:=rfl
 obtain⟨me1,f1,x1⟩:=nr (F:=FF mk (k+4)) ao (uR ao) x0 (c:=1) (λp hp=>by rw[yc p hp];rfl) (acc:=[]) (by simp)
 obtain⟨me2,f2,x2⟩:=nr (F:=FF mk (k+4)) ao y x1 (c:=2) (λp hp=>rfl) (acc:=[EL (hF hs) dW]) (by simp)
 obtain⟨me3,f3,x3⟩:=nr (F:=FF mk (k+4)) ao la x2 (c:=3) (λp hp=>rfl) (acc:=[EL (hF hs) dW,EL (hF hs) r]) (by simp)
 have hfr:gG (a5 (FF mk (k+4)) 55 (.one 65) Ee) [.int true 1,.int true 2,.int true 3] ⟨me0,[(53,.list [])]⟩=some (.next ⟨me3,[(53,.list [EL (hF hs) dW,EL (hF hs) r,EL (hF hs) (cJ ns)])]⟩):=by
  rw[gG,f1]
  dsimp only[List.nil_append]
  rw[gG,f2]
  dsimp only[List.cons_append,List.nil_append]
  rw[gG,f3]
  rfl
 rw[ah (show ex (FF mk (k+4)) 56 (.for (.one 65) (.tup [(.const (.int true (1))),(.const (.int true (2))),(.const (.int true (3)))]) Ee false) ⟨me0,[(53,.list [])]⟩=some (.next ⟨me3,[(53,.list [EL (hF hs) dW,EL (hF hs) r,EL (hF hs) (cJ ns)])]⟩) by rw[ex,hit];exact congrArg (jo false) hfr)]
 have hlast:dF (FF mk (k+4)) 54 (.and (.call 14 [(.var 26),(.var 27),(.var 52),(.var 53)]) (.call 15 [(.var 27),(.var 53)])) ⟨me3,[(53,.list [EL (hF hs) dW,EL (hF hs) r,EL (hF hs) (cJ ns)])]⟩=some (.bool true):=by
  have hno:ev (FF mk (k+4)) 54 (.and (.call 14 [(.var 26),(.var 27),(.var 52),(.var 53)]) (.call 15 [(.var 27),(.var 53)])) me3=none:=by
   simp[ev,bn,x3.n53,x3.l26,x3.l27,x3.l52]
  have hth:(thaw ⟨me3,[(53,.list [EL (hF hs) dW,EL (hF hs) r,EL (hF hs) (cJ ns)])]⟩).me=(53,D.list [EL (hF hs) dW,EL (hF hs) r,EL (hF hs) (cJ ns)])::me3:=rfl
  have g1:ev (FF mk (k+4)) 53 (.call 14 [(.var 26),(.var 27),(.var 52),(.var 53)]) ((53,D.list [EL (hF hs) dW,EL (hF hs) r,EL (hF hs) (cJ ns)])::me3)=some (.bool true):=by
   rw[ev]
   simp only[bn]
   rw[aJ (show List.lookup 26 ((53,D.list [EL (hF hs) dW,EL (hF hs) r,EL (hF hs) (cJ ns)])::me3)=_ from x3.l26),aJ (show List.lookup 27 ((53,D.list [EL (hF hs) dW,EL (hF hs) r,EL (hF hs) (cJ ns)])::me3)=_ from x3.l27),
    aJ (show List.lookup 52 ((53,D.list [EL (hF hs) dW,EL (hF hs) r,EL (hF hs) (cJ ns)])::me3)=_ from x3.l52),aJ aG]
   exact c14
  have g2:ev (FF mk (k+4)) 53 (.call 15 [(.var 27),(.var 53)]) ((53,D.list [EL (hF hs) dW,EL (hF hs) r,EL (hF hs) (cJ ns)])::me3)=some (.bool true):=by
   rw[ev]
   simp only[bn]
   rw[aJ (show List.lookup 27 ((53,D.list [EL (hF hs) dW,EL (hF hs) r,EL (hF hs) (cJ ns)])::me3)=_ from x3.l27),aJ aG]
   exact c15
  rw[dF]
  dsimp only
  rw[hno]
  dsimp only
  rw[hth,t7 g1 λ_=>g2]
  rfl
 rw[bC,zM hlast]
end
def yx(ms:List Int):Bool:=match ms.getLast? with
 | some L=>decide (L≤12)
 | none=>false
def yy(row:List Int):Bool:=match lr row 14 0 0 []with
 | some ms=>(match FF aI 7 9 [.list (row.map (D.int true))]with
  | some (.list l)=>bh l==some ms&&(yx ms&&decide (ms.length≤1000))
  | _=>false)
 | none=>false
def f5(a b:Int):Bool:=([1,2,3,0,127]:List Int).all λc=>([1,2,3,127]:List Int).all λd=>yy [a,b,c,d]
theorem zO:f5 1 1=true:=by decide +kernel
theorem zP:f5 1 2=true:=by decide +kernel
theorem zQ:f5 1 3=true:=by decide +kernel
theorem zR:f5 1 0=true:=by decide +kernel
theorem wk:f5 1 127=true:=by decide +kernel
theorem zS:f5 2 1=true:=by decide +kernel
theorem zT:f5 2 2=true:=by decide +kernel
theorem zU:f5 2 3=true:=by decide +kernel
theorem zV:f5 2 0=true:=by decide +kernel
theorem wm:f5 2 127=true:=by decide +kernel
theorem zW:f5 3 1=true:=by decide +kernel
theorem zX:f5 3 2=true:=by decide +kernel
theorem zY:f5 3 3=true:=by decide +kernel
theorem zZ:f5 3 0=true:=by decide +kernel
theorem wn:f5 3 127=true:=by decide +kernel
theorem z0:f5 0 1=true:=by decide +kernel
theorem z4:f5 0 2=true:=by decide +kernel
theorem z5:f5 0 3=true:=by decide +kernel
theorem z6:f5 0 0=true:=by decide +kernel
theorem wo:f5 0 127=true:=by decide +kernel
theorem wq:(([1,2,3,0]:List Int).all λa=>([1,2,3,0,127]:List Int).all λb=>f5 a b)=true:=by
 simp only[List.all_cons,List.all_nil,Bool.and_true,zO,zP,zQ,zR,wk,zS,zT,zU,zV,wm,zW,zX,zY,zZ,wn,z0,z4,z5,z6,wo]
theorem ku{g h:Bool}{x m:Nat}(hm:m≠0):dm .mod (.int g (x:Int)) (.int h (m:Int))=some (nI (x%m)):=by
 rw[dm,if_neg (by omega),Int.fmod_eq_emod_of_nonneg _ (by omega)];rfl
theorem AN{g h:Bool}{x m:Nat}(hm:m≠0)(hl:m<2^64):dm .fdiv (.int g (x:Int)) (.int h (m:Int))=some (nI (x/m)):=by
 have:m.log2<64:=(Nat.log2_lt hm).mpr hl
 rw[dm,if_neg (by rw[Int.natAbs_natCast];omega),Int.fdiv_eq_ediv_of_nonneg _ (by omega)];rfl
def rA:List Int:=[1,2,1,3,2,1,2,0]
def rB:List Int:=[1,2,3,0,2,127,1,3]
def rC:List Int:=[2,127,1,0,3,1,2,0]
def rE:List Int:=[127,1,2,3]
def jn(x:Nat):List Int:=[rA.getD (x%8) 0,rB.getD (x/8%8) 0,rC.getD (x/64%8) 0,rE.getD (x/512%4) 0]
theorem lU{l:List Int}{m:Nat}(h:m<l.length)(hl:l.length≤1000):ft (.tup (l.map (D.int true))) (nI m)=some (.int true (l.getD m 0)):=by
 refine gW ?_ (by rw[List.length_map];exact hl)
 rw[List.getElem?_map,List.getElem?_eq_getElem h,List.getD_eq_getElem?_getD,List.getElem?_eq_getElem h];rfl
section
variable{F:Nat→List D→Option D}{me:Me}
theorem Ce{g:Bool}(x:Nat):bC F 60 fF ⟨fG.zip [.int g (x:Int)],[]⟩=some (.ret (.list ((jn x).map (D.int true)))):=by
 unfold fF fG
 simp only[List.zip_cons_cons,List.zip_nil_right]
 have dv:∀(n m:Nat) (me:Me),me.lookup 22=some (.int g (x:Int))→m≠0→m<2^64→ev F (n+2) (.bin .fdiv (.var 22) (.const (.int true (m:Int)))) me=some (nI (x/m)):=λn m me h h1 h2=>(cg (aJ h) bR).trans (AN h1 h2)
 have at1:∀(n:Nat) (me:Me),me.lookup 22=some (.int g (x:Int))→ev F (n+3) (.sub (.tup [(.const (.int true (1))),(.const (.int true (2))),(.const (.int true (1))),(.const (.int true (3))),(.const (.int true (2))),(.const (.int true (1))),(.const (.int true (2))),(.const (.int true (0)))]) (.bin .mod (.var 22) (.const (.int true (8))))) me=some (.int true (rA.getD (x%8) 0)):=λn me h=>
  (aL (x:=.tup (rA.map (D.int true))) rfl ((cg (aJ h) bR).trans (ku (m:=8) (by decide)))).trans (lU (by show _<8;omega) (by decide))
 have at2:∀(n:Nat) (me:Me),me.lookup 22=some (.int g (x:Int))→ev F (n+4) (.sub (.tup [(.const (.int true (1))),(.const (.int true (2))),(.const (.int true (3))),(.const (.int true (0))),(.const (.int true (2))),(.const (.int true (127))),(.const (.int true (1))),(.const (.int true (3)))]) (.bin .mod (.bin .fdiv (.var 22) (.const (.int true (8)))) (.const (.int true (8))))) me=some (.int true (rB.getD (x/8%8) 0)):=λn me h=>
  (aL (x:=.tup (rB.map (D.int true))) rfl ((cg (dv n 8 me h (by decide) (by decide)) bR).trans (ku (m:=8) (by decide)))).trans (lU (by show _<8;omega) (by decide))
 have at3:∀(n:Nat) (me:Me),me.lookup 22=some (.int g (x:Int))→ev F (n+4) (.sub (.tup [(.const (.int true (2))),(.const (.int true (127))),(.const (.int true (1))),(.const (.int true (0))),(.const (.int true (3))),(.const (.int true (1))),(.const (.int true (2))),(.const (.int true (0)))]) (.bin .mod (.bin .fdiv (.var 22) (.const (.int true (64)))) (.const (.int true (8))))) me=some (.int true (rC.getD (x/64%8) 0)):=λn me h=>
  (aL (x:=.tup (rC.map (D.int true))) rfl ((cg (dv n 64 me h (by decide) (by decide)) bR).trans (ku (m:=8) (by decide)))).trans (lU (by show _<8;omega) (by decide))
 have at4:∀(n:Nat) (me:Me),me.lookup 22=some (.int g (x:Int))→ev F (n+4) (.sub (.tup [(.const (.int true (127))),(.const (.int true (1))),(.const (.int true (2))),(.const (.int true (3)))]) (.bin .mod (.bin .fdiv (.var 22) (.const (.int true (512)))) (.const (.int true (4))))) me=some (.int true (rE.getD (x/512%4) 0)):=λn me h=>
  (aL (x:=.tup (rE.map (D.int true))) rfl ((cg (dv n 512 me h (by decide) (by decide)) bR).trans (ku (m:=4) (by decide)))).trans (lU (by show _<4;omega) (by decide))
 have l0:List.lookup 22 [(22,D.int g (x:Int))]=some (.int g (x:Int)):=rfl
 rw[ah (s':=⟨[(22,D.int g (x:Int))],[(29,.list [.int true (rA.getD (x%8) 0),.int true (rB.getD (x/8%8) 0)])]⟩) (by
  rw[ex]
  simp only[bn,at1 55 _ l0,at2 54 _ l0]
  simp[aS,nz])]
 have l1:List.lookup 22 [(29,D.list [.int true (rA.getD (x%8) 0),.int true (rB.getD (x/8%8) 0)]),(22,D.int g (x:Int))]=some (.int g (x:Int)):=rfl
 have hl:ev F 56 (.list [(.sub (.tup [(.const (.int true (2))),(.const (.int true (127))),(.const (.int true (1))),(.const (.int true (0))),(.const (.int true (3))),(.const (.int true (1))),(.const (.int true (2))),(.const (.int true (0)))]) (.bin .mod (.bin .fdiv (.var 22) (.const (.int true (64)))) (.const (.int true (8))))),(.sub (.tup [(.const (.int true (127))),(.const (.int true (1))),(.const (.int true (2))),(.const (.int true (3)))]) (.bin .mod (.bin .fdiv (.var 22) (.const (.int true (512)))) (.const (.int true (4)))))]) [(29,D.list [.int true (rA.getD (x%8) 0),.int true (rB.getD (x/8%8) 0)]),(22,D.int g (x:Int))]=some (.list [.int true (rC.getD (x/64%8) 0),.int true (rE.getD (x/512%4) 0)]):=by
  rw[ev]
  simp only[bn,at3 51 _ l1,at4 51 _ l1]
  simp
 have hno:∀e:X,ev F 57 (.bin .add (.var 29) e) [(22,D.int g (x:Int))]=none:=λe=>by
  rw[ev,show ev F 56 (.var 29) [(22,D.int g (x:Int))]=none from rfl]
 have hy:∀e:X,ev F 56 e [(29,D.list [.int true (rA.getD (x%8) 0),.int true (rB.getD (x/8%8) 0)]),(22,D.int g (x:Int))]=some (.list [.int true (rC.getD (x/64%8) 0),.int true (rE.getD (x/512%4) 0)])→ex F 58 (.ret (.bin .add (.var 29) e)) ⟨[(22,D.int g (x:Int))],[(29,.list [.int true (rA.getD (x%8) 0),.int true (rB.getD (x/8%8) 0)])]⟩=some (.ret (.list ((jn x).map (D.int true)))):=λe he=>by
  have h2:ev F 57 (.bin .add (.var 29) e) (thaw ⟨[(22,D.int g (x:Int))],[(29,.list [.int true (rA.getD (x%8) 0),.int true (rB.getD (x/8%8) 0)])]⟩).me=some (.list ((jn x).map (D.int true))):=by
   rw[show(thaw ⟨[(22,D.int g (x:Int))],[(29,.list [.int true (rA.getD (x%8) 0),.int true (rB.getD (x/8%8) 0)])]⟩).me=[(29,D.list [.int true (rA.getD (x%8) 0),.int true (rB.getD (x/8%8) 0)]),(22,D.int g (x:Int))]from rfl]
   exact(cg (aJ rfl) he).trans rfl
  rw[ex,evS,dF]
  dsimp only
  rw[hno,h2]
  rfl
 rw[bC,hy _ hl]
end
theorem wr(x:Nat):yy (jn x)=true:=by
 have h1:∀m:Fin 8,rA.getD m.val 0∈([1,2,3,0]:List Int):=by decide
 have h2:∀m:Fin 8,rB.getD m.val 0∈([1,2,3,0,127]:List Int):=by decide
 have h3:∀m:Fin 8,rC.getD m.val 0∈([1,2,3,0,127]:List Int):=by decide
 have h4:∀m:Fin 4,rE.getD m.val 0∈([1,2,3,127]:List Int):=by decide
 exact List.all_eq_true.mp (List.all_eq_true.mp (List.all_eq_true.mp (List.all_eq_true.mp wq _ (h1 ⟨x%8,by omega⟩)) _ (h2 ⟨x/8%8,by omega⟩)) _ (h3 ⟨x/64%8,by omega⟩)) _ (h4 ⟨x/512%4,by omega⟩)
theorem wt(l:List Int):gx (l.map (D.int true))=some l:=by
 induction l with
 | nil=>rfl
 | cons a l ih=>rw[List.map_cons,gx,ih];rfl
theorem yz(x:Nat):∃ms l,aI [.list ((jn x).map (D.int true))]=some (.list (ms.map (D.int true)))∧FF aI 7 9 [.list ((jn x).map (D.int true))]=some (.list l)∧bh l=some ms∧MK (ms.map (D.int true)) (λt=>ms.any (· == (t:Int))||decide ((ms.getLast?.getD 0)<(t:Int))):=by
 have h:=wr x
 unfold yy at h
 cases e:lr (jn x) 14 0 0 []with
 | none=>rw[e]at h;cases h
 | some ms=>
  rw[e]at h
  dsimp only at h
  split at h
  ·rename_i l e2
   rw[Bool.and_eq_true,Bool.and_eq_true,beq_iff_eq,decide_eq_true_eq]at h
   obtain⟨h1,h2,h3⟩:=h
   refine⟨ms,l,?_,e2,h1,?_⟩
   ·rw[aI,wt]
    dsimp only
    rw[e];rfl
   ·unfold yx at h2
    split at h2
    ·rename_i L eL
     refine⟨ms,true,L,dy true,?_,of_decide_eq_true h2,λt=>by rw[eL];rfl⟩
     have hne:ms≠[]:=λe=>by rw[e]at eL;cases eL
     have hpos:0<ms.length:=List.length_pos_iff.mpr hne
     unfold lA
     rw[if_neg (by decide),List.length_map,if_pos (by omega)]
     rw[List.getLast?_eq_getElem?]at eL
     rw[show(-1+(ms.length:Int)).toNat=ms.length-1 by omega,List.getElem?_map,eL];rfl
    ·cases h2
  ·cases h
section
variable{F:Nat→List D→Option D}
def z7(d:D):Prop:=∃(g:Bool) (n:Nat),d = .int g (n:Int)
abbrev Ef:List Y:=[.augSub 20 (.bin .mod (.var 21) (.const (.int true (6)))) (.bin .mod (.var 22) (.const (.int true (1000000))))]
theorem wu{n i:Nat}{k e:X}{l l':List D}{kd y:D}{st:St}(h1:dY st i=some l)(h2:ev F n k st.me=some kd)(h3:ev F n e st.me=some y)(h4:∀f:D→Option D,(∀g a,f (.int g a)=dm .add (.int g a) y)→Cy l kd f=some l'):ex F (n+1) (.augSub i k e) st=some (.next ⟨st.me,put i (.list l') st.own⟩):=by
 rw[ex,h1,h2,h3]
 dsimp only
 rw[h4 _ λ_ _=>rfl]
theorem Cf{g h:Bool}{v:Int}{m:Nat}(hm:0<m):∃k:Nat,dm .mod (.int g v) (.int h (m:Int))=some (.int true (k:Int)):=by
 have hv:0≤Int.fmod v (m:Int):=Int.fmod_nonneg_of_pos _ (by omega)
 obtain⟨k,hk⟩:=Int.eq_ofNat_of_zero_le hv
 exact⟨k,by rw[dm,if_neg (by omega),hk]⟩
theorem wv{cs:List D}(hl:cs.length=6)(hn:∀d∈cs,z7 d){me:Me}(h20:me.lookup 20=none)(j:Nat)(v:Int)(g:Bool):∃cs' me',a5 F 57 (.two 21 22) Ef ⟨me,[(20,.list cs)]⟩ (.tup [nI j,.int g v])=some (.next ⟨me',[(20,.list cs')]⟩)∧me'.lookup 20=none∧cs'.length=6∧∀d∈cs',z7 d:=by
 have hj:j%6<cs.length:=by omega
 obtain⟨g',n,e⟩:=hn _ (List.getElem_mem hj)
 obtain⟨m,hm⟩:=Cf (g:=g) (h:=true) (v:=v) (m:=1000000) (by omega)
 refine⟨cs.set (j%6) (.int true ((n+m:Nat):Int)),put 22 (.int g v) (put 21 (nI j) me),?_,by rw[aa,if_neg (by decide),aa,if_neg (by decide)];exact h20,by rw[List.length_set];exact hl,λd hd=>?_⟩
 ·refine cZ (me':=put 22 (.int g v) (put 21 (nI j) me)) (by rfl) rfl ?_ rfl
  have l21:(put 22 (.int g v) (put 21 (nI j) me)).lookup 21=some (nI j):=by rw[aa,if_neg (by decide),aa,if_pos rfl]
  have l22:(put 22 (.int g v) (put 21 (nI j) me)).lookup 22=some (.int g v):=by rw[aa,if_pos rfl]
  generalize put 22 (.int g v) (put 21 (nI j) me)=me1 at l21 l22
  have e1:ev F 55 (.bin .mod (.var 21) (.const (.int true (6)))) me1=some (nI (j%6)):=(cg (aJ l21) bR).trans (ku (m:=6) (by decide))
  have e2:ev F 55 (.bin .mod (.var 22) (.const (.int true (1000000)))) me1=some (.int true (m:Int)):=(cg (aJ l22) bR).trans hm
  have e3:∀f:D→Option D,(∀g a,f (.int g a)=dm .add (.int g a) (.int true (m:Int)))→Cy cs (nI (j%6)) f=some (cs.set (j%6) (.int true ((n+m:Nat):Int))):=λf hf=>by
   unfold Cy
   dsimp only
   rw[if_pos (by omega),Int.toNat_natCast,List.getElem?_eq_getElem hj,e]
   dsimp only
   rw[hf,gy]
   rfl
  show bC F 57 Ef ⟨me1,[(20,.list cs)]⟩=_
  rw[ah (wu (st:=⟨me1,[(20,.list cs)]⟩) rfl e1 e2 e3)]
  rfl
 ·rcases List.mem_or_eq_of_mem_set hd with h|h
  ·exact hn d h
  ·exact⟨true,n+m,h⟩
theorem nt:∀(l:List Int) (i:Nat) (cs:List D) (me:Me),me.lookup 20=none→cs.length=6→(∀d∈cs,z7 d)→∃cs' me',gG (a5 F 57 (.two 21 22) Ef) (dM i (l.map (D.int false))) ⟨me,[(20,.list cs)]⟩=some (.next ⟨me',[(20,.list cs')]⟩)∧me'.lookup 20=none∧cs'.length=6∧∀d∈cs',z7 d
 | [],_,cs,me,h0,h1,h2=>⟨cs,me,rfl,h0,h1,h2⟩
 | v::l,i,cs,me,h0,h1,h2=>by
  obtain⟨cs1,me1,e1,g0,g1,g2⟩:=wv (F:=F) h1 h2 h0 i v false
  obtain⟨cs2,me2,e2,k0,k1,k2⟩:=nt l (i+1) cs1 me1 g0 g1 g2
  refine⟨cs2,me2,?_,k0,k1,k2⟩
  rw[List.map_cons,dM,gG,e1]
  exact e2
theorem yA{l:List Int}(hl:l.length≤63):∃(gs:Nat→Bool) (c:Nat→Nat),bC F 60 d8 ⟨d9.zip [.list (l.map (D.int false))],[]⟩=some (.ret (.list ((List.range 6).map λi=>D.int (gs i) (c i:Int)))):=by
 have hsl:fu (l.map (D.int false)) none (some 18)=(l.take (clipAt (l.map (D.int false)).length 18)).map (D.int false):=by
  unfold fu
  simp[List.map_take]
 obtain⟨cs,me',e,h0,h1,h2⟩:=nt (F:=F) (l.take (clipAt (l.map (D.int false)).length 18)) 0 [.int true 44,.int true 19,.int true 121,.int true 99,.int true 23,.int true 16] [(19,D.list (l.map (D.int false)))] rfl rfl (λd hd=>by
  simp only[List.mem_cons,List.not_mem_nil,or_false]at hd
  rcases hd with rfl|rfl|rfl|rfl|rfl|rfl
  ·exact⟨true,44,rfl⟩
  ·exact⟨true,19,rfl⟩
  ·exact⟨true,121,rfl⟩
  ·exact⟨true,99,rfl⟩
  ·exact⟨true,23,rfl⟩
  ·exact⟨true,16,rfl⟩)
 have hcs:∃(gs:Nat→Bool) (c:Nat→Nat),cs=(List.range 6).map λi=>D.int (gs i) (c i:Int):=by
  refine⟨λi=>match cs[i]? with|some (.int g _)=>g|_=>true,λi=>match cs[i]? with|some (.int _ n)=>n.toNat|_=>0,List.ext_getElem (by rw[h1];simp) λi q1 q2=>?_⟩
  obtain⟨g,n,en⟩:=h2 _ (List.getElem_mem q1)
  rw[List.getElem_map,List.getElem_range]
  dsimp only
  rw[List.getElem?_eq_getElem q1,en]
  simp
 obtain⟨gs,c,rfl⟩:=hcs
 refine⟨gs,c,?_⟩
 unfold d8 d9
 simp only[List.zip_cons_cons,List.zip_nil_right]
 rw[ah (s':=⟨[(19,D.list (l.map (D.int false)))],[(20,.list [.int true 44,.int true 19,.int true 121,.int true 99,.int true 23,.int true 16])]⟩) (by simp[ex,bn,ev,aS,nz])]
 have hit:jK F 57 (.two 21 22) (.enum (.slice (.var 19) none (some (.const (.int true (18)))))) ⟨[(19,D.list (l.map (D.int false)))],[(20,.list [.int true 44,.int true 19,.int true 121,.int true 99,.int true 23,.int true 16])]⟩=some (dM 0 ((l.take (clipAt (l.map (D.int false)).length 18)).map (D.int false))):=by
  have h3:ev F 57 (.slice (.var 19) none (some (.const (.int true (18))))) [(19,D.list (l.map (D.int false)))]=some (.list ((l.take (clipAt (l.map (D.int false)).length 18)).map (D.int false))):=by
   rw[←hsl]
   have:l.length≤100000:=by omega
   simp[ev,List.lookup,dC,this,l4]
  have h4:gY (ev F 57) (.two 21 22) (.enum (.slice (.var 19) none (some (.const (.int true (18)))))) [(19,D.list (l.map (D.int false)))]=some (dM 0 ((l.take (clipAt (l.map (D.int false)).length 18)).map (D.int false))):=by
   rw[gY,h3]
   dsimp only
   rw[if_pos (by rw[List.length_map,List.length_take];omega)]
  unfold jK
  rw[h4]
 rw[ah (show ex F 58 (.for (.two 21 22) (.enum (.slice (.var 19) none (some (.const (.int true (18)))))) Ef false) _=some (.next ⟨me',[(20,.list ((List.range 6).map λi=>D.int (gs i) (c i:Int)))]⟩) by rw[ex,hit];exact congrArg (jo false) e)]
 have hno:∀n,ev F n (.var 20) me'=none:=λn=>by
  cases n with
  | zero=>rfl
  | succ n=>exact h0
 rw[bC,ex,evS,dF]
 dsimp only
 rw[hno,aJ (show(thaw ⟨me',[(20,Ob.list ((List.range 6).map λi=>D.int (gs i) (c i:Int)))]⟩).me.lookup 20=some (.list ((List.range 6).map λi=>D.int (gs i) (c i:Int)))from rfl)]
 rfl
end
def z8:List Nat:=[32,34,35,77,92,122]
def AP:List Nat:=[97,98,99,100,101]
def AQ:List Nat:=[10,9,13,32]
def ww(q c:Nat):List Nat:=if c=34∨c=92∨(q=0∧c∈[32,35,97,99,101])then [92,c]else [c]
def Cg(h l q:Nat):List Nat:=if q=0 then ww 0 h++ww 0 l else 34::(ww 1 h++(ww 1 l++[34]))
def D4(h l q:Nat):Bool:=match FF aI 6 5 [.str true ⟨#[h,l]⟩,.int true (q:Int)]with
 | some (.str true s)=>s==⟨(Cg h l q).toArray⟩
 | _=>false
theorem yB:(z8.all λh=>AP.all λl=>[0,1].all λq=>D4 h l q)=true:=by decide +kernel
theorem D5{h l q:Nat}(hh:h∈z8)(hl:l∈AP)(hq:q<2):FF aI 6 5 [.str true ⟨#[h,l]⟩,.int true (q:Int)]=some (.str true ⟨(Cg h l q).toArray⟩):=by
 have:=List.all_eq_true.mp (List.all_eq_true.mp (List.all_eq_true.mp yB h hh) l hl) q (by
  have:q=0∨q=1:=by omega
  rcases this with rfl|rfl<;>decide)
 unfold D4 at this
 split at this
 ·rename_i s e
  rw[e,eq_of_beq this]
 ·cases this
def yC(c:Nat→Nat)(p:Nat):Nat:=z8.getD (c p/3%6) 0
def qF(c:Nat→Nat)(p:Nat):Nat:=c p/18%2
def D6(c:Nat→Nat)(p:Nat):Nat:=AQ.getD (c p/36%4) 0
def eW(c:Nat→Nat)(p:Nat):Str:=⟨#[yC c p,97+p]⟩
def iK(c:Nat→Nat):Nat→Nat
 | 0=>0
 | p+1=>iK c p+c p%3
def AS(c:Nat→Nat)(p:Nat):List Nat:=Cg (yC c p) (97+p) (qF c p)++[D6 c p]
def qe(c:Nat→Nat):Nat→List Nat
 | 0=>[]
 | p+1=>qe c p++AS c p
theorem uV(c:Nat→Nat)(p:Nat):yC c p∈z8:=by
 have:∀m:Fin 6,z8.getD m.val 0∈z8:=by decide
 exact this ⟨c p/3%6,by omega⟩
theorem uW{p:Nat}(h:p<5):97+p∈AP:=by
 have:∀m:Fin 5,97+m.val∈AP:=by decide
 exact this ⟨p,h⟩
theorem uX(c:Nat→Nat)(p:Nat):D6 c p∈AQ:=by
 have:∀m:Fin 4,AQ.getD m.val 0∈AQ:=by decide
 exact this ⟨c p/36%4,by omega⟩
theorem ky(q c:Nat):(ww q c).length≤2:=by unfold ww;split<;>simp
theorem uY(c:Nat→Nat)(p:Nat):(AS c p).length≤7:=by
 unfold AS Cg
 have h1:=ky 0 (yC c p);have h2:=ky 0 (97+p);have h3:=ky 1 (yC c p);have h4:=ky 1 (97+p)
 split<;>simp<;>omega
theorem lV(c:Nat→Nat):∀p,(qe c p).length≤7*p
 | 0=>Nat.le_refl _
 | p+1=>by
  have h1:=lV c p
  have h2:=uY c p
  rw[qe,List.length_append];omega
theorem yD(c:Nat→Nat):∀p,iK c p≤2*p
 | 0=>Nat.le_refl _
 | p+1=>by have:=yD c p;rw[iK];omega
abbrev Fr:Str:=nm " \"#M\\z"
abbrev Fs:Str:=nm "abcde"
abbrev Ft:Str:=nm "\n\t\x0d "
theorem Ch:Fr.cps.toList=z8:=by decide +kernel
theorem Ci:Fs.cps.toList=AP:=by decide +kernel
theorem Cj:Ft.cps.toList=AQ:=by decide +kernel
theorem qf{g:Bool}{x:Str}{l:List Nat}(hx:x.cps.toList=l){m:Nat}(hm:m<l.length)(hl:l.length≤1000):ft (.str g x) (nI m)=some (.str true ⟨#[l.getD m 0]⟩):=by
 have:l[m]?=some (l.getD m 0):=by rw[List.getD_eq_getElem?_getD,List.getElem?_eq_getElem hm];rfl
 unfold ft
 dsimp only
 rw[if_pos (by omega),hx,Int.toNat_natCast,this]
theorem add_str{x y:List Nat}(h:x.length+y.length≤100000):dm .add (.str true ⟨x.toArray⟩) (.str true ⟨y.toArray⟩)=some (.str true ⟨(x++y).toArray⟩):=by
 unfold dm
 dsimp only
 rw[if_pos (by simpa [Str.length]using h)]
 congr 2
 show Str.mk _=_
 simp
section
variable{me:Me}{gs:Nat→Bool}{c:Nat→Nat}
abbrev Eg:List Y:=[.assign 22 (.sub (.var 20) (.var 21)),
  .aug 28 (.bin .mod (.var 22) (.const (.int true (3)))),
  .assign 23 (.bin .add (.sub (.const (.str true (nm " \"#M\\z"))) (.bin .mod (.bin .fdiv (.var 22) (.const (.int true (3)))) (.const (.int true (6))))) (.sub (.const (.str true (nm "abcde"))) (.var 21))),
  .append 26 (.var 23),
  .append 27 (.var 28),
  .aug 13 (.bin .add (.call 5 [(.var 23),(.bin .mod (.bin .fdiv (.var 22) (.const (.int true (18)))) (.const (.int true (2))))]) (.sub (.const (.str true (nm "\n\t\x0d "))) (.bin .mod (.bin .fdiv (.var 22) (.const (.int true (36)))) (.const (.int true (4))))))]
structure GM(gs:Nat→Bool)(c:Nat→Nat)(p:Nat)(me:Me):Prop where
 l20:me.lookup 20=some (.list ((List.range 6).map λi=>D.int (gs i) (c i:Int)))
 l13:me.lookup 13=some (.str true ⟨(qe c p).toArray⟩)
 l28:me.lookup 28=some (nI (iK c p))
 n26:me.lookup 26=none
 n27:me.lookup 27=none
abbrev gO(c:Nat→Nat)(p:Nat):List (Nat×Ob):=[(27,.list ((List.range p).map λi=>nI (iK c (i+1)))),(26,.list ((List.range p).map (wS (eW c))))]
theorem jG{F:Nat→List D→Option D}{n i:Nat}{e:X}{d:D}{st:St}(h:ev F n e st.me=some d)(hk:(aS st).contains i=false):ex F (n+1) (.assign i e) st=some (.next ⟨put i d st.me,st.own⟩):=by
 rw[ex,evS,dF,h]
 simp only[hk,Bool.false_eq_true,if_false]
theorem yE{F:Nat→List D→Option D}{n i:Nat}{e:X}{d:D}{st:St}{l:List D}(h1:dY st i=some l)(h:ev F n e st.me=some d)(hl:l.length≤100000):ex F (n+1) (.append i e) st=some (.next ⟨st.me,put i (.list (l++[d])) st.own⟩):=by
 rw[ex,h1,h]
 simp only[hl,if_true]
theorem z9{p:Nat}(hp:p<5)(x:GM gs c p me):∃me',a5 (FF aI 6) 54 (.one 21) Eg ⟨me,gO c p⟩ (nI p)=some (.next ⟨me',gO c (p+1)⟩)∧GM gs c (p+1) me':=by
 have a21:(put 21 (nI p) me).lookup 21=some (nI p):=by rw[aa,if_pos rfl]
 have a20:(put 21 (nI p) me).lookup 20=some (.list ((List.range 6).map λi=>D.int (gs i) (c i:Int))):=by rw[aa,if_neg (by decide)];exact x.l20
 have a13:(put 21 (nI p) me).lookup 13=some (.str true ⟨(qe c p).toArray⟩):=by rw[aa,if_neg (by decide)];exact x.l13
 have a28:(put 21 (nI p) me).lookup 28=some (nI (iK c p)):=by rw[aa,if_neg (by decide)];exact x.l28
 have a26:(put 21 (nI p) me).lookup 26=none:=by rw[aa,if_neg (by decide)];exact x.n26
 have a27:(put 21 (nI p) me).lookup 27=none:=by rw[aa,if_neg (by decide)];exact x.n27
 generalize hm1:put 21 (nI p) me=me1 at a21 a20 a13 a28 a26 a27
 have h22:ev (FF aI 6) 52 (.sub (.var 20) (.var 21)) me1=some (.int (gs p) (c p:Int)):=by
  refine(aL (aJ a20) (aJ a21)).trans (gW (x:=.int (gs p) (c p:Int)) ?_ (by simp))
  rw[List.getElem?_map,List.getElem?_range (by omega)];rfl
 have s1:=jG (i:=22) (st:=⟨me1,gO c p⟩) h22 (by rfl)
 have b22:(put 22 (.int (gs p) (c p:Int)) me1).lookup 22=some (.int (gs p) (c p:Int)):=by rw[aa,if_pos rfl]
 have b21:(put 22 (.int (gs p) (c p:Int)) me1).lookup 21=some (nI p):=by rw[aa,if_neg (by decide)];exact a21
 have b20:(put 22 (.int (gs p) (c p:Int)) me1).lookup 20=some (.list ((List.range 6).map λi=>D.int (gs i) (c i:Int))):=by rw[aa,if_neg (by decide)];exact a20
 have b13:(put 22 (.int (gs p) (c p:Int)) me1).lookup 13=some (.str true ⟨(qe c p).toArray⟩):=by rw[aa,if_neg (by decide)];exact a13
 have b28:(put 22 (.int (gs p) (c p:Int)) me1).lookup 28=some (nI (iK c p)):=by rw[aa,if_neg (by decide)];exact a28
 have b26:(put 22 (.int (gs p) (c p:Int)) me1).lookup 26=none:=by rw[aa,if_neg (by decide)];exact a26
 have b27:(put 22 (.int (gs p) (c p:Int)) me1).lookup 27=none:=by rw[aa,if_neg (by decide)];exact a27
 dsimp only at s1
 generalize put 22 (.int (gs p) (c p:Int)) me1=me2 at s1 b22 b21 b20 b13 b28 b26 b27
 have s2:ex (FF aI 6) 52 (.aug 28 (.bin .mod (.var 22) (.const (.int true (3))))) ⟨me2,gO c p⟩=some (.next ⟨put 28 (nI (iK c (p+1))) me2,gO c p⟩):=by
  have:ev (FF aI 6) 51 (.bin .mod (.var 22) (.const (.int true (3)))) me2=some (nI (c p%3)):=(cg (aJ b22) bR).trans (ku (m:=3) (by decide))
  rw[ex]
  simp only[b28,this,gy]
  have e:((iK c p:Int)+((c p%3:Nat):Int))=((iK c (p+1):Nat):Int):=by rw[iK];omega
  rw[e]
  rfl
 have c22:(put 28 (nI (iK c (p+1))) me2).lookup 22=some (.int (gs p) (c p:Int)):=by rw[aa,if_neg (by decide)];exact b22
 have c21:(put 28 (nI (iK c (p+1))) me2).lookup 21=some (nI p):=by rw[aa,if_neg (by decide)];exact b21
 have c20:(put 28 (nI (iK c (p+1))) me2).lookup 20=some (.list ((List.range 6).map λi=>D.int (gs i) (c i:Int))):=by rw[aa,if_neg (by decide)];exact b20
 have c13:(put 28 (nI (iK c (p+1))) me2).lookup 13=some (.str true ⟨(qe c p).toArray⟩):=by rw[aa,if_neg (by decide)];exact b13
 have c28:(put 28 (nI (iK c (p+1))) me2).lookup 28=some (nI (iK c (p+1))):=by rw[aa,if_pos rfl]
 have c26:(put 28 (nI (iK c (p+1))) me2).lookup 26=none:=by rw[aa,if_neg (by decide)];exact b26
 have c27:(put 28 (nI (iK c (p+1))) me2).lookup 27=none:=by rw[aa,if_neg (by decide)];exact b27
 generalize put 28 (nI (iK c (p+1))) me2=me3 at s2 c22 c21 c20 c13 c28 c26 c27
 have dv:∀(n m:Nat) (me:Me),me.lookup 22=some (.int (gs p) (c p:Int))→m≠0→m<2^64→ev (FF aI 6) (n+2) (.bin .fdiv (.var 22) (.const (.int true (m:Int)))) me=some (nI (c p/m)):=λn m me h h1 h2=>(cg (aJ h) bR).trans (AN h1 h2)
 have h23:ev (FF aI 6) 50 (.bin .add (.sub (.const (.str true (nm " \"#M\\z"))) (.bin .mod (.bin .fdiv (.var 22) (.const (.int true (3)))) (.const (.int true (6))))) (.sub (.const (.str true (nm "abcde"))) (.var 21))) me3=some (wS (eW c) p):=by
  have q1:ev (FF aI 6) 49 (.sub (.const (.str true (nm " \"#M\\z"))) (.bin .mod (.bin .fdiv (.var 22) (.const (.int true (3)))) (.const (.int true (6))))) me3=some (.str true ⟨[yC c p].toArray⟩):=
   (aL bR ((cg (dv 45 3 _ c22 (by decide) (by decide)) bR).trans (ku (m:=6) (by decide)))).trans (qf Ch (by show _<6;omega) (by decide))
  have q2:ev (FF aI 6) 49 (.sub (.const (.str true (nm "abcde"))) (.var 21)) me3=some (.str true ⟨[97+p].toArray⟩):=by
   refine(aL bR (aJ c21)).trans ((qf Ci (by show _<5;omega) (by decide)).trans ?_)
   have:∀m:Fin 5,AP.getD m.val 0=97+m.val:=by decide
   rw[this ⟨p,hp⟩]
  exact(cg q1 q2).trans (add_str (by simp))
 have s3:=jG (i:=23) (st:=⟨me3,gO c p⟩) h23 (by rfl)
 have d23:(put 23 (wS (eW c) p) me3).lookup 23=some (wS (eW c) p):=by rw[aa,if_pos rfl]
 have d22:(put 23 (wS (eW c) p) me3).lookup 22=some (.int (gs p) (c p:Int)):=by rw[aa,if_neg (by decide)];exact c22
 have d20:(put 23 (wS (eW c) p) me3).lookup 20=some (.list ((List.range 6).map λi=>D.int (gs i) (c i:Int))):=by rw[aa,if_neg (by decide)];exact c20
 have d13:(put 23 (wS (eW c) p) me3).lookup 13=some (.str true ⟨(qe c p).toArray⟩):=by rw[aa,if_neg (by decide)];exact c13
 have d28:(put 23 (wS (eW c) p) me3).lookup 28=some (nI (iK c (p+1))):=by rw[aa,if_neg (by decide)];exact c28
 have d26:(put 23 (wS (eW c) p) me3).lookup 26=none:=by rw[aa,if_neg (by decide)];exact c26
 have d27:(put 23 (wS (eW c) p) me3).lookup 27=none:=by rw[aa,if_neg (by decide)];exact c27
 dsimp only at s3
 generalize put 23 (wS (eW c) p) me3=me4 at s3 d23 d22 d20 d13 d28 d26 d27
 have s4:ex (FF aI 6) 50 (.append 26 (.var 23)) ⟨me4,gO c p⟩=some (.next ⟨me4,[(27,.list ((List.range p).map λi=>nI (iK c (i+1)))),(26,.list ((List.range p).map (wS (eW c))++[wS (eW c) p]))]⟩):=yE (F:=FF aI 6) (n:=49) (i:=26) (st:=⟨me4,gO c p⟩) (e:=.var 23) rfl (aJ d23) (by simp;omega)
 have s5:ex (FF aI 6) 49 (.append 27 (.var 28)) ⟨me4,[(27,.list ((List.range p).map λi=>nI (iK c (i+1)))),(26,.list ((List.range p).map (wS (eW c))++[wS (eW c) p]))]⟩=some (.next ⟨me4,[(27,Ob.list ((List.range p).map (λi=>nI (iK c (i+1)))++[nI (iK c (p+1))])),(26,Ob.list ((List.range p).map (wS (eW c))++[wS (eW c) p]))]⟩):=yE (F:=FF aI 6) (n:=48) (i:=27) (st:=⟨me4,[(27,.list ((List.range p).map λi=>nI (iK c (i+1)))),(26,.list ((List.range p).map (wS (eW c))++[wS (eW c) p]))]⟩) (e:=.var 28) rfl (aJ d28) (by simp;omega)
 have o5:[(27,Ob.list ((List.range p).map (λi=>nI (iK c (i+1)))++[nI (iK c (p+1))])),(26,Ob.list ((List.range p).map (wS (eW c))++[wS (eW c) p]))]=gO c (p+1):=by
  unfold gO
  rw[List.range_succ,List.map_append,List.map_append];rfl
 have s6:ex (FF aI 6) 48 (.aug 13 (.bin .add (.call 5 [(.var 23),(.bin .mod (.bin .fdiv (.var 22) (.const (.int true (18)))) (.const (.int true (2))))]) (.sub (.const (.str true (nm "\n\t\x0d "))) (.bin .mod (.bin .fdiv (.var 22) (.const (.int true (36)))) (.const (.int true (4))))))) ⟨me4,gO c (p+1)⟩=some (.next ⟨put 13 (.str true ⟨(qe c (p+1)).toArray⟩) me4,gO c (p+1)⟩):=by
  have q1:ev (FF aI 6) 46 (.call 5 [(.var 23),(.bin .mod (.bin .fdiv (.var 22) (.const (.int true (18)))) (.const (.int true (2))))]) me4=some (.str true ⟨(Cg (yC c p) (97+p) (qF c p)).toArray⟩):=by
   have:ev (FF aI 6) 45 (.bin .mod (.bin .fdiv (.var 22) (.const (.int true (18)))) (.const (.int true (2)))) me4=some (nI (qF c p)):=(cg (dv 42 18 _ d22 (by decide) (by decide)) bR).trans (ku (m:=2) (by decide))
   rw[ev]
   simp only[bn,aJ d23,this]
   exact D5 (uV c p) (uW hp) (by unfold qF;omega)
  have q2:ev (FF aI 6) 46 (.sub (.const (.str true (nm "\n\t\x0d "))) (.bin .mod (.bin .fdiv (.var 22) (.const (.int true (36)))) (.const (.int true (4))))) me4=some (.str true ⟨[D6 c p].toArray⟩):=
   (aL bR ((cg (dv 42 36 _ d22 (by decide) (by decide)) bR).trans (ku (m:=4) (by decide)))).trans (qf Cj (by show _<4;omega) (by decide))
  have hl:=uY c p
  have hl2:=lV c p
  have q3:ev (FF aI 6) 47 (.bin .add (.call 5 [(.var 23),(.bin .mod (.bin .fdiv (.var 22) (.const (.int true (18)))) (.const (.int true (2))))]) (.sub (.const (.str true (nm "\n\t\x0d "))) (.bin .mod (.bin .fdiv (.var 22) (.const (.int true (36)))) (.const (.int true (4)))))) me4=some (.str true ⟨(AS c p).toArray⟩):=
   (cg q1 q2).trans (add_str (by unfold AS at hl;rw[List.length_append]at hl;omega))
  rw[ex]
  simp only[d13,q3]
  rw[add_str (by omega)]
  rfl
 refine⟨put 13 (.str true ⟨(qe c (p+1)).toArray⟩) me4,cZ (me':=me1) (by rfl) (by rw[←hm1];rfl) ?_ rfl,?_⟩
 ·show bC (FF aI 6) 54 Eg ⟨me1,gO c p⟩=_
  rw[ah s1,ah s2,ah s3,ah s4,ah s5]
  rw[o5,ah s6]
  rfl
 ·exact⟨by rw[aa,if_neg (by decide)];exact d20,by rw[aa,if_pos rfl],by rw[aa,if_neg (by decide)];exact d28,by rw[aa,if_neg (by decide)];exact d26,by rw[aa,if_neg (by decide)];exact d27⟩
theorem uZ:∀(k p:Nat) (me:Me),p+k=5→GM gs c p me→∃me',gG (a5 (FF aI 6) 54 (.one 21) Eg) ((List.range' p k).map nI) ⟨me,gO c p⟩=some (.next ⟨me',gO c 5⟩)∧GM gs c 5 me'
 | 0,p,me,h,x=>by
  have:p=5:=by omega
  subst this
  exact⟨me,rfl,x⟩
 | k+1,p,me,h,x=>by
  obtain⟨me1,e1,x1⟩:=z9 (show p<5 by omega) x
  obtain⟨me2,e2,x2⟩:=uZ k (p+1) me1 (by omega) x1
  refine⟨me2,?_,x2⟩
  rw[List.range'_succ,List.map_cons,gG,e1]
  exact e2
abbrev bZ(c:Nat→Nat):D:=.list (wL (eW c))
abbrev fH(c:Nat→Nat):D:=.list ((List.range 5).map λi=>nI (iK c (i+1)))
abbrev dz(c:Nat→Nat):Str:=⟨(qe c 5).toArray⟩
theorem wx:bC (FF aI 6) 60 dr ⟨du.zip [.list ((List.range 6).map λi=>D.int (gs i) (c i:Int))],[]⟩=some (.ret (.tup [bZ c,fH c,.str true (dz c)])):=by
 unfold dr du
 simp only[List.zip_cons_cons,List.zip_nil_right]
 generalize hcs:D.list ((List.range 6).map λi=>D.int (gs i) (c i:Int))=cs
 have e0:nm "" = ⟨[].toArray⟩:=by decide +kernel
 rw[ah (s':=⟨[(20,cs)],[(26,.list [])]⟩) (by simp[ex,bn,aS,nz]),
  ah (s':=⟨[(20,cs)],[(27,.list []),(26,.list [])]⟩) (by simp[ex,bn,aS,nz]),
  ah (show ex (FF aI 6) 57 (.assign 13 (.const (.str true (nm "")))) ⟨[(20,cs)],[(27,.list []),(26,.list [])]⟩=some (.next ⟨[(20,cs),(13,.str true (nm ""))],[(27,.list []),(26,.list [])]⟩)from jG bR (by rfl)),
  ah (show ex (FF aI 6) 56 (.assign 28 (.const (.int true 0))) ⟨[(20,cs),(13,.str true (nm ""))],[(27,.list []),(26,.list [])]⟩=some (.next ⟨[(20,cs),(13,.str true (nm "")),(28,.int true 0)],[(27,.list []),(26,.list [])]⟩)from jG bR (by rfl))]
 obtain⟨me',e,x⟩:=uZ (gs:=gs) (c:=c) 5 0 [(20,cs),(13,.str true (nm "")),(28,.int true 0)] rfl ⟨by rw[hcs];rfl,by rw[e0];rfl,rfl,rfl,rfl⟩
 have hit:jK (FF aI 6) 54 (.one 21) (.range (.const (.int true (5)))) ⟨[(20,cs),(13,.str true (nm "")),(28,.int true 0)],[(27,.list []),(26,.list [])]⟩=some ((List.range 5).map nI):=by unfold jK;rw[dc]
 rw[ah (show ex (FF aI 6) 55 (.for (.one 21) (.range (.const (.int true (5)))) Eg false) ⟨[(20,cs),(13,.str true (nm "")),(28,.int true 0)],[(27,.list []),(26,.list [])]⟩=some (.next ⟨me',gO c 5⟩) by rw[ex,hit];exact congrArg (jo false) e)]
 have hno:ev (FF aI 6) 53 (.tup [(.var 26),(.var 27),(.var 13)]) me'=none:=by
  simp[ev,bn,x.n26]
 have hth:(thaw ⟨me',gO c 5⟩).me=(27,fH c)::(26,bZ c)::me':=rfl
 have hyes:ev (FF aI 6) 53 (.tup [(.var 26),(.var 27),(.var 13)]) ((27,fH c)::(26,bZ c)::me')=some (.tup [bZ c,fH c,.str true (dz c)]):=by
  have l26:List.lookup 26 ((27,fH c)::(26,bZ c)::me')=some (bZ c):=rfl
  have l27:List.lookup 27 ((27,fH c)::(26,bZ c)::me')=some (fH c):=rfl
  have l13:List.lookup 13 ((27,fH c)::(26,bZ c)::me')=some (.str true (dz c)):=x.l13
  rw[ev]
  simp only[bn,aJ l26,aJ l27,aJ l13]
  simp
 rw[bC,ex,evS,dF]
 dsimp only
 rw[hno,hth,hyes]
 rfl
end
def Ck(c:Nat):Bool:=c==10||(c==9||(c==13||c==32))
def sp:List Nat→Bool→List Nat→Option (List Nat×List Nat)
 | [],_,_=>none
 | c::r,true,t=>if c=10 then none else sp r false (t++[c])
 | c::r,false,t=>if c=34 then some (t,r)else if c=10 then none else if c=92 then sp r true t else sp r false (t++[c])
def qp:List Nat→Bool→List Nat→Option (List Nat×List Nat×Nat)
 | [],_,_=>none
 | c::r,true,t=>if c=10 then none else qp r false (t++[c])
 | c::r,false,t=>if Ck c=true then some (t,r,if c=10 then 1 else 0)else if c=92 then qp r true t else qp r false (t++[c])
def kY:List Nat→Option (List Nat×List Nat×Nat)
 | []=>none
 | c::r=>if Ck c=true then(match kY r with|some (t,r',k)=>some (t,r',k+(if c=10 then 1 else 0))|none=>none)
  else if c=34 then(match sp r false []with|some (t,r')=>some (t,r',0)|none=>none)
  else if c=92 then qp r true []else qp r false [c]
theorem lW(z:List Nat):∀(a:List Nat) (b:Bool) (t t' r:List Nat),sp a b t=some (t',r)→sp (a++z) b t=some (t',r++z)
 | [],b,_,_,_,h=>by cases b<;>cases h
 | c::a,true,t,t',r,h=>by
  rw[sp]at h
  rw[List.cons_append,sp]
  split at h
  ·cases h
  ·rename_i q;rw[if_neg q];exact lW z a _ _ _ _ h
 | c::a,false,t,t',r,h=>by
  rw[sp]at h
  rw[List.cons_append,sp]
  split at h
  ·rename_i q;rw[if_pos q];cases h;rfl
  ·rename_i q;rw[if_neg q]
   split at h
   ·cases h
   ·rename_i q2;rw[if_neg q2]
    split at h
    ·rename_i q3;rw[if_pos q3];exact lW z a _ _ _ _ h
    ·rename_i q3;rw[if_neg q3];exact lW z a _ _ _ _ h
theorem kz(z:List Nat):∀(a:List Nat) (b:Bool) (t t' r:List Nat) (k:Nat),qp a b t=some (t',r,k)→qp (a++z) b t=some (t',r++z,k)
 | [],b,_,_,_,_,h=>by cases b<;>cases h
 | c::a,true,t,t',r,k,h=>by
  rw[qp]at h
  rw[List.cons_append,qp]
  split at h
  ·cases h
  ·rename_i q;rw[if_neg q];exact kz z a _ _ _ _ _ h
 | c::a,false,t,t',r,k,h=>by
  rw[qp]at h
  rw[List.cons_append,qp]
  split at h
  ·rename_i q;rw[if_pos q];cases h;rfl
  ·rename_i q;rw[if_neg q]
   split at h
   ·rename_i q3;rw[if_pos q3];exact kz z a _ _ _ _ _ h
   ·rename_i q3;rw[if_neg q3];exact kz z a _ _ _ _ _ h
theorem sq(z:List Nat):∀(a t r:List Nat) (k:Nat),kY a=some (t,r,k)→kY (a++z)=some (t,r++z,k)
 | [],_,_,_,h=>by cases h
 | c::a,t,r,k,h=>by
  rw[kY]at h
  rw[List.cons_append,kY]
  split at h
  ·rename_i q;rw[if_pos q]
   split at h
   ·rename_i t1 r1 k1 e
    rw[sq z a _ _ _ e]
    cases h;rfl
   ·cases h
  ·rename_i q;rw[if_neg q]
   split at h
   ·rename_i q2;rw[if_pos q2]
    split at h
    ·rename_i t1 r1 e
     rw[lW z a _ _ _ _ e]
     cases h;rfl
    ·cases h
   ·rename_i q2;rw[if_neg q2]
    split at h
    ·rename_i q3;rw[if_pos q3];exact kz z a _ _ _ _ _ h
    ·rename_i q3;rw[if_neg q3];exact kz z a _ _ _ _ _ h
theorem fI(c:Nat)(r:List Nat):(c::r).count 10=r.count 10+if c=10 then 1 else 0:=by
 rw[List.count_cons]
 by_cases e:c=10<;>simp[e]
theorem qg:∀(a:List Nat) (b:Bool) (t t' r:List Nat),sp a b t=some (t',r)→r.count 10=a.count 10
 | [],b,_,_,_,h=>by cases b<;>cases h
 | c::a,true,t,t',r,h=>by
  rw[sp]at h
  split at h
  ·cases h
  ·rename_i q;rw[fI,if_neg q,qg a _ _ _ _ h];rfl
 | c::a,false,t,t',r,h=>by
  rw[sp]at h
  rw[fI]
  split at h
  ·rename_i q;cases h;rw[if_neg (by omega)];rfl
  ·split at h
   ·cases h
   ·rename_i q2;rw[if_neg q2]
    split at h<;>rw[qg a _ _ _ _ h]<;>rfl
theorem qh:∀(a:List Nat) (b:Bool) (t t' r:List Nat) (k:Nat),qp a b t=some (t',r,k)→k+r.count 10=a.count 10
 | [],b,_,_,_,_,h=>by cases b<;>cases h
 | c::a,true,t,t',r,k,h=>by
  rw[qp]at h
  split at h
  ·cases h
  ·rename_i q;rw[fI,if_neg q,qh a _ _ _ _ _ h];rfl
 | c::a,false,t,t',r,k,h=>by
  rw[qp]at h
  rw[fI]
  split at h
  ·rename_i q;cases h;omega
  ·rename_i q
   have q2:c≠10:=λe=>by subst e;exact q rfl
   rw[if_neg q2]
   split at h<;>rw[qh a _ _ _ _ _ h]<;>rfl
theorem sr:∀(a t r:List Nat) (k:Nat),kY a=some (t,r,k)→k+r.count 10=a.count 10
 | [],_,_,_,h=>by cases h
 | c::a,t,r,k,h=>by
  rw[kY]at h
  rw[fI]
  split at h
  ·split at h
   ·rename_i t1 r1 k1 e
    have:=sr a _ _ _ e
    cases h
    omega
   ·cases h
  ·rename_i q
   have q2:c≠10:=λe=>by subst e;exact q rfl
   rw[if_neg q2]
   split at h
   ·split at h
    ·rename_i t1 r1 e
     have:=qg a _ _ _ _ e
     cases h
     omega
    ·cases h
   ·split at h<;>rw[qh a _ _ _ _ _ h]<;>rfl
structure kZ(L:a6)(rest:List Nat):Prop where
 d:L.page.cps.toList.drop L.at_=rest
 l:L.at_≤L.page.cps.toList.length
theorem kZ.sg{L:a6}{c:Nat}{r:List Nat}(h:kZ L (c::r)):L.sg=some c:=by
 unfold a6.sg
 have:=congrArg List.head? h.d
 rw[List.head?_drop]at this
 exact this
theorem kZ.sg0{L:a6}(h:kZ L []):L.sg=none:=by
 unfold a6.sg
 have:=congrArg List.head? h.d
 rw[List.head?_drop]at this
 exact this
theorem kZ.ct{L:a6}{c:Nat}{r:List Nat}(h:kZ L (c::r)):cut L.page L.at_=one c:=by
 unfold Mine.cut
 rw[show L.page.cps.toList[L.at_]?=some c from h.sg];rfl
theorem kZ.ct0{L:a6}(h:kZ L []):cut L.page L.at_=nm "" :=by
 unfold Mine.cut
 rw[show L.page.cps.toList[L.at_]?=none from h.sg0]
 decide +kernel
theorem qi{c:Nat}:(one c=nm "\n")↔c=10:=by
 have:nm "\n" = one 10:=by decide +kernel
 rw[this]
 constructor
 ·intro h;injection h with h;simpa using h
 ·rintro rfl;rfl
theorem iM{c:Nat}:(one c=nm "\\")↔c=92:=by
 have:nm "\\" = one 92:=by decide +kernel
 rw[this]
 constructor
 ·intro h;injection h with h;simpa using h
 ·rintro rfl;rfl
theorem qj{c:Nat}:(one c=nm "\"")↔c=34:=by
 have:nm "\"" = one 34:=by decide +kernel
 rw[this]
 constructor
 ·intro h;injection h with h;simpa using h
 ·rintro rfl;rfl
theorem nu{c:Nat}:c∈df.cps.toList↔Ck c=true:=by
 have:df.cps.toList=[10,9,13,32]:=by decide +kernel
 rw[this]
 simp[Ck]
structure hO(L L':a6):Prop where
 p:L'.page=L.page
 b:L'.back=L.back
theorem hO.trans{a b c:a6}(h:hO a b)(k:hO b c):hO a c:=⟨k.p.trans h.p,k.b.trans h.b⟩
theorem kZ.read{L:a6}{c:Nat}{r:List Nat}(h:kZ L (c::r)):kZ L.read r∧L.read.line=L.line+(if c=10 then 1 else 0)∧hO L L.read:=by
 have hc:=h.ct
 have hat:L.read.at_=L.at_+1:=by unfold a6.read;rw[hc];rfl
 refine⟨⟨?_,?_⟩,?_,⟨rfl,rfl⟩⟩
 ·show L.page.cps.toList.drop L.read.at_=r
  rw[hat,←List.tail_drop,h.d];rfl
 ·show L.read.at_≤L.page.cps.toList.length
  rw[hat]
  have:=congrArg List.length h.d
  rw[List.length_drop,List.length_cons]at this
  omega
 ·unfold a6.read
  dsimp only
  rw[hc]
  by_cases e:c=10
  ·rw[if_pos (qi.mpr e),if_pos e]
  ·rw[if_neg (λh=>e (qi.mp h)),if_neg e];rfl
theorem kZ.read0{L:a6}(h:kZ L []):kZ L.read []∧L.read.line=L.line∧hO L L.read:=by
 have hc:=h.ct0
 have hl:(nm "").length=0:=by decide +kernel
 have hat:L.read.at_=L.at_:=by unfold a6.read;rw[hc,hl];rfl
 refine⟨⟨by show L.page.cps.toList.drop L.read.at_=[];rw[hat];exact h.d,by show L.read.at_≤_;rw[hat];exact h.l⟩,?_,⟨rfl,rfl⟩⟩
 unfold a6.read
 dsimp only
 rw[hc,if_neg (by decide +kernel)]
theorem kA(a b:List Nat):(Str.mk a.toArray)++(Str.mk b.toArray)=Str.mk (a++b).toArray:=by
 show Str.mk _=_
 simp
theorem iN(c:Nat):one c=Str.mk [c].toArray:=rfl
theorem u0:∀(rest:List Nat) (L:a6) (n:Nat) (t t' r':List Nat),kZ L rest→rest.length<n→
  (sp rest false t=some (t',r')→∃L',ia f8 n L ⟨t.toArray⟩=some (L',⟨t'.toArray⟩,true)∧kZ L' r'∧L'.line=L.line∧hO L L')∧
  (sp rest true t=some (t',r')→∃L',ia f8 n L.read (⟨t.toArray⟩++cut L.page L.at_)=some (L',⟨t'.toArray⟩,true)∧kZ L' r'∧L'.line=L.line∧hO L L')
 | [],_,_,_,_,_,_,_=>⟨λh=>(by cases h),λh=>(by cases h)⟩
 | c::r,L,0,_,_,_,_,h=>absurd h (Nat.not_lt_zero _)
 | c::r,L,n+1,t,t',r',hL,hn=>by
  obtain⟨h1,h2,h3⟩:=hL.read
  have hlen:r.length<n:=by simpa using hn
  refine⟨λh=>?_,λh=>?_⟩
  ·rw[sp]at h
   rw[ia,hL.sg]
   dsimp only
   unfold f8
   split at h
   ·rename_i q
    cases h
    rw[if_pos (qj.mpr q)]
    exact⟨L.read,rfl,h1,by rw[h2,if_neg (by omega)];rfl,h3⟩
   ·rename_i q
    rw[if_neg λe=>q (qj.mp e)]
    dsimp only
    split at h
    ·cases h
    ·rename_i q2
     rw[if_neg q2]at h2
     unfold l8
     split at h
     ·rename_i q3
      rw[if_pos (iM.mpr q3)]
      dsimp only
      obtain⟨L',e,k1,k2,k3⟩:=(u0 r L.read n t t' r' h1 hlen).2 h
      exact⟨L',e,k1,by rw[k2,h2];rfl,h3.trans k3⟩
     ·rename_i q3
      rw[if_neg λe=>q3 (iM.mp e)]
      dsimp only
      obtain⟨L',e,k1,k2,k3⟩:=(u0 r L.read n (t++[c]) t' r' h1 hlen).1 h
      refine⟨L',?_,k1,by rw[k2,h2];rfl,h3.trans k3⟩
      rw[iN,kA]
      exact e
  ·rw[sp]at h
   split at h
   ·cases h
   ·rename_i q2
    rw[if_neg q2]at h2
    obtain⟨L',e,k1,k2,k3⟩:=(u0 r L.read (n+1) (t++[c]) t' r' h1 (by omega)).1 h
    refine⟨L',?_,k1,by rw[k2,h2];rfl,h3.trans k3⟩
    rw[hL.ct,iN,kA]
    exact e
theorem ss:∀(rest:List Nat) (L:a6) (n:Nat) (t t' r':List Nat) (k:Nat),kZ L rest→rest.length<n→
  (qp rest false t=some (t',r',k)→∃L',ia f9 n L ⟨t.toArray⟩=some (L',⟨t'.toArray⟩,true)∧kZ L' r'∧L'.line=L.line+k∧hO L L')∧
  (qp rest true t=some (t',r',k)→∃L',ia f9 n L.read (⟨t.toArray⟩++cut L.page L.at_)=some (L',⟨t'.toArray⟩,true)∧kZ L' r'∧L'.line=L.line+k∧hO L L')
 | [],_,_,_,_,_,_,_,_=>⟨λh=>(by cases h),λh=>(by cases h)⟩
 | c::r,L,0,_,_,_,_,_,h=>absurd h (Nat.not_lt_zero _)
 | c::r,L,n+1,t,t',r',k,hL,hn=>by
  obtain⟨h1,h2,h3⟩:=hL.read
  have hlen:r.length<n:=by simpa using hn
  refine⟨λh=>?_,λh=>?_⟩
  ·rw[qp]at h
   rw[ia,hL.sg]
   dsimp only
   unfold f9
   split at h
   ·rename_i q
    cases h
    rw[if_pos (nu.mpr q)]
    exact⟨L.read,rfl,h1,h2,h3⟩
   ·rename_i q
    rw[if_neg λe=>q (nu.mp e)]
    dsimp only
    have q2:c≠10:=λe=>by subst e;exact q rfl
    rw[if_neg q2]at h2
    unfold l8
    split at h
    ·rename_i q3
     rw[if_pos (iM.mpr q3)]
     dsimp only
     obtain⟨L',e,k1,k2,k3⟩:=(ss r L.read n t t' r' k h1 hlen).2 h
     exact⟨L',e,k1,by rw[k2,h2];rfl,h3.trans k3⟩
    ·rename_i q3
     rw[if_neg λe=>q3 (iM.mp e)]
     dsimp only
     obtain⟨L',e,k1,k2,k3⟩:=(ss r L.read n (t++[c]) t' r' k h1 hlen).1 h
     refine⟨L',?_,k1,by rw[k2,h2];rfl,h3.trans k3⟩
     rw[iN,kA]
     exact e
  ·rw[qp]at h
   split at h
   ·cases h
   ·rename_i q2
    rw[if_neg q2]at h2
    obtain⟨L',e,k1,k2,k3⟩:=(ss r L.read (n+1) (t++[c]) t' r' k h1 (by omega)).1 h
    refine⟨L',?_,k1,by rw[k2,h2];rfl,h3.trans k3⟩
    rw[hL.ct,iN,kA]
    exact e
theorem E8:nm "" = Str.mk ([]:List Nat).toArray:=by decide +kernel
theorem u7:∀(rest:List Nat) (L:a6) (n:Nat) (t r':List Nat) (k:Nat),kZ L rest→rest.length<n→kY rest=some (t,r',k)→∃L',fv n L=some (L',⟨t.toArray⟩)∧kZ L' r'∧L'.line=L.line+k∧hO L L'
 | [],_,_,_,_,_,_,_,h=>by cases h
 | c::r,L,0,_,_,_,_,h,_=>absurd h (Nat.not_lt_zero _)
 | c::r,L,n+1,t,r',k,hL,hn,h=>by
  obtain⟨h1,h2,h3⟩:=hL.read
  have hlen:r.length<n:=by simpa using hn
  rw[kY]at h
  rw[fv,hL.sg]
  dsimp only
  split at h
  ·rename_i q
   rw[if_pos (nu.mpr q)]
   split at h
   ·rename_i t1 r1 k1 e
    obtain⟨L',e',g1,g2,g3⟩:=u7 r L.read n t1 r1 k1 h1 hlen e
    cases h
    exact⟨L',e',g1,by rw[g2,h2];omega,h3.trans g3⟩
   ·cases h
  ·rename_i q
   rw[if_neg λe=>q (nu.mp e)]
   have q2:c≠10:=λe=>by subst e;exact q rfl
   rw[if_neg q2]at h2
   split at h
   ·rename_i q3
    rw[if_pos (qj.mpr q3)]
    split at h
    ·rename_i t1 r1 e
     cases h
     obtain⟨L',e',g1,g2,g3⟩:=(u0 r L.read n [] t r' h1 hlen).1 e
     refine⟨L',?_,g1,by rw[g2,h2],h3.trans g3⟩
     unfold jI
     rw[E8,e']
    ·cases h
   ·rename_i q3
    rw[if_neg λe=>q3 (qj.mp e)]
    split at h
    ·rename_i q4
     obtain⟨L',e',g1,g2,g3⟩:=(ss r L.read n [] t r' k h1 hlen).2 h
     refine⟨L',?_,g1,by rw[g2,h2];rfl,h3.trans g3⟩
     unfold jI nC nD
     rw[if_pos (iM.mpr q4),if_pos (iM.mpr q4),E8,e']
    ·rename_i q4
     obtain⟨L',e',g1,g2,g3⟩:=(ss r L.read n [c] t r' k h1 hlen).1 h
     refine⟨L',?_,g1,by rw[g2,h2];rfl,h3.trans g3⟩
     unfold jI nC nD
     rw[if_neg (λe=>q4 (iM.mp e)),if_neg (λe=>q4 (iM.mp e)),E8,iN,kA,List.nil_append,e']
theorem u8:∀(rest:List Nat) (L:a6) (n:Nat),kZ L rest→rest.length<n→(∀c∈rest,Ck c=true)→∃L',fv n L=some (L',nm "")∧L'.line=L.line+rest.count 10
 | [],L,0,_,h,_=>absurd h (Nat.not_lt_zero _)
 | _::_,L,0,_,h,_=>absurd h (Nat.not_lt_zero _)
 | [],L,n+1,hL,_,_=>⟨L.read,by rw[fv,hL.sg0],by rw[hL.read0.2.1];rfl⟩
 | c::r,L,n+1,hL,hn,hw=>by
  obtain⟨h1,h2,h3⟩:=hL.read
  obtain⟨L',e,k⟩:=u8 r L.read n h1 (by simpa using hn) λd hd=>hw d (.tail _ hd)
  refine⟨L',?_,by rw[k,h2,fI];omega⟩
  rw[fv,hL.sg]
  dsimp only
  rw[if_pos (nu.mpr (hw c (.head _)))]
  exact e
def oY:List (List Nat):=[[],[10],[9],[13],[32]]
def AT(pd:List Nat)(h l q s:Nat):Bool:=match kY (pd++(Cg h l q++[s]))with
 | some (t,r,_)=>t==[h,l]&&r==(if q=0 then []else [s])
 | none=>false
theorem wy:(oY.all λpd=>z8.all λh=>AP.all λl=>[0,1].all λq=>AQ.all λs=>AT pd h l q s)=true:=by decide +kernel
theorem yF{pd:List Nat}{h l q s:Nat}(hp:pd∈oY)(hh:h∈z8)(hl:l∈AP)(hq:q<2)(hs:s∈AQ):∃k,kY (pd++(Cg h l q++[s]))=some ([h,l],(if q=0 then []else [s]),k):=by
 have:=List.all_eq_true.mp (List.all_eq_true.mp (List.all_eq_true.mp (List.all_eq_true.mp (List.all_eq_true.mp wy pd hp) h hh) l hl) q (by
  have:q=0∨q=1:=by omega
  rcases this with rfl|rfl<;>decide)) s hs
 unfold AT at this
 split at this
 ·rename_i t r k e
  rw[Bool.and_eq_true,beq_iff_eq,beq_iff_eq]at this
  rw[e,this.1,this.2]
  exact⟨k,rfl⟩
 ·cases this
def yG(c:Nat→Nat):Nat→Nat→List Nat
 | _,0=>[]
 | p,k+1=>AS c p++yG c (p+1) k
theorem AU(c:Nat→Nat):yG c 0 5=qe c 5:=by
 simp[yG,qe,List.append_assoc]
theorem Cl{L:a6}{rest t r:List Nat}{k:Nat}(hL:kZ L rest)(hb:L.back=[])(hp:L.page.cps.toList.length≤900)(h:kY rest=some (t,r,k)):∃L',L.tok=some (.str true ⟨t.toArray⟩,L')∧kZ L' r∧L'.line=L.line+k∧hO L L':=by
 have hlen:rest.length<gH:=by
  have:=congrArg List.length hL.d
  rw[List.length_drop]at this
  show rest.length<1000
  omega
 obtain⟨L',e,h1,h2,h3⟩:=u7 rest L gH t r k hL hlen h
 refine⟨L',?_,h1,h2,h3⟩
 unfold a6.tok a6.get
 rw[if_pos ⟨by have:=hL.l;omega,by rw[hb];simp⟩,hb]
 dsimp only
 rw[e]
theorem u9(c:Nat→Nat):∀(k p:Nat) (L:a6) (pd:List Nat),p+k=5→kZ L (pd++yG c p k)→pd∈oY→L.back=[]→L.page.cps.toList.length≤900→∃L',toks (k+1) L=some ((List.range' p k).map (wS (eW c))++[.str true (nm "")],L')∧L'.line=L.line+(pd++yG c p k).count 10
 | 0,p,L,pd,_,hL,hpd,hb,hp=>by
  have hw:∀x∈pd++yG c p 0,Ck x=true:=λx hx=>by
   rw[yG,List.append_nil]at hx
   have:∀l∈oY,∀y∈l,Ck y=true:=by decide
   exact this pd hpd x hx
  have hlen:(pd++yG c p 0).length<gH:=by
   have:=congrArg List.length hL.d
   rw[List.length_drop]at this
   show _<1000
   omega
  obtain⟨L',e,h⟩:=u8 _ L gH hL hlen hw
  refine⟨L',?_,h⟩
  have ht:L.tok=some (.str true (nm ""),L'):=by
   unfold a6.tok a6.get
   rw[if_pos ⟨by have:=hL.l;omega,by rw[hb];simp⟩,hb]
   dsimp only
   rw[e]
  rw[toks,ht]
  rfl
 | k+1,p,L,pd,hpk,hL,hpd,hb,hp=>by
  have hq:qF c p<2:=by unfold qF;omega
  obtain⟨n,hn⟩:=yF hpd (uV c p) (uW (show p<5 by omega)) hq (uX c p)
  have hn':kY (pd++AS c p)=some ([yC c p,97+p],(if qF c p=0 then []else [D6 c p]),n):=hn
  have h2:=sq (yG c (p+1) k) _ _ _ _ hn'
  rw[List.append_assoc]at h2
  have hc:=sr _ _ _ _ h2
  obtain⟨L1,e1,g1,g2,g3⟩:=Cl hL hb hp h2
  have hpd':(if qF c p=0 then []else [D6 c p])∈oY:=by
   have:∀s∈AQ,[s]∈oY:=by decide
   split
   ·decide
   ·exact this _ (uX c p)
  obtain⟨L2,e2,k2⟩:=u9 c k (p+1) L1 _ (by omega) g1 hpd' (g3.b.trans hb) (by rw[g3.p];exact hp)
  refine⟨L2,?_,?_⟩
  ·rw[toks,e1]
   dsimp only
   rw[e2]
   dsimp only
   rw[List.range'_succ]
   rfl
  ·rw[k2,g2]
   show _=L.line+(pd++(AS c p++yG c (p+1) k)).count 10
   omega
section
variable{F:Nat→List D→Option D}
theorem su:∀(l:List Nat) (m:Nat) (me:Me),me.lookup 1=some (.str true (nm "\n"))→me.lookup 2=some (.int true (m:Int))→∃me',gG (a5 F 57 (.one 3) [.ite (.isEq (.var 3) (.var 1)) [.aug 2 (.const (.int true (1)))] []]) (l.map λc=>D.str true (one c)) ⟨me,[]⟩=some (.next ⟨me',[]⟩)∧me'.lookup 2=some (.int true ((m+l.count 10:Nat):Int))
 | [],m,me,_,h2=>⟨me,rfl,h2⟩
 | c::l,m,me,h1,h2=>by
  have l1:(put 3 (.str true (one c)) me).lookup 1=some (.str true (nm "\n")):=by rw[aa,if_neg (by decide)];exact h1
  have l2:(put 3 (.str true (one c)) me).lookup 2=some (.int true (m:Int)):=by rw[aa,if_neg (by decide)];exact h2
  have l3:(put 3 (.str true (one c)) me).lookup 3=some (.str true (one c)):=by rw[aa,if_pos rfl]
  have hnext:∀me1:Me,a5 F 57 (.one 3) [.ite (.isEq (.var 3) (.var 1)) [.aug 2 (.const (.int true (1)))] []] ⟨me,[]⟩ (.str true (one c))=some (.next ⟨me1,[]⟩)→me1.lookup 1=some (.str true (nm "\n"))→me1.lookup 2=some (.int true ((m+(if c=10 then 1 else 0):Nat):Int))→∃me',gG (a5 F 57 (.one 3) [.ite (.isEq (.var 3) (.var 1)) [.aug 2 (.const (.int true (1)))] []]) ((c::l).map λc=>D.str true (one c)) ⟨me,[]⟩=some (.next ⟨me',[]⟩)∧me'.lookup 2=some (.int true ((m+(c::l).count 10:Nat):Int)):=λme1 e k1 k2=>by
   obtain⟨me',e',k'⟩:=su l _ me1 k1 k2
   refine⟨me',?_,by rw[k',fI,show m+(if c=10 then 1 else 0)+l.count 10=m+(l.count 10+if c=10 then 1 else 0) by omega]⟩
   rw[List.map_cons,gG,e]
   exact e'
  generalize hm1:put 3 (.str true (one c)) me=me1 at l1 l2 l3
  have hev:ev F 55 (.isEq (.var 3) (.var 1)) me1=some (.bool (one c==nm "\n")):=by
   rw[ev];simp only[aJ l3,aJ l1];rfl
  by_cases e:c=10
  ·have hb:(one c==nm "\n")=true:=by rw[beq_iff_eq];exact qi.mpr e
   refine hnext (put 2 (.int true ((m:Int)+1)) me1) (cZ (me':=me1) (by rfl) (by rw[←hm1];rfl) ?_ rfl) (by rw[aa,if_neg (by decide)];exact l1) (by rw[aa,if_pos rfl,if_pos e];rfl)
   rw[bC,ex,evS,dF,hev,hb]
   simp[aC,bC,ex,ev,l2,gy,aS]
  ·have hb:(one c==nm "\n")=false:=by rw[beq_eq_false_iff_ne];exact λh=>e (qi.mp h)
   refine hnext me1 (cZ (me':=me1) (by rfl) (by rw[←hm1];rfl) ?_ rfl) l1 (by rw[if_neg e];exact l2)
   rw[bC,ex,evS,dF,hev,hb]
   simp[aC,bC]
theorem yH{x:Str}(hx:x.length≤100000):bC F 60 gj ⟨gm.zip [.str true x,.str true (nm "\n")],[]⟩=some (.ret (.int true (x.cps.toList.count 10:Nat))):=by
 unfold gj gm
 simp only[List.zip_cons_cons,List.zip_nil_right]
 rw[ah (show ex F 59 (.assign 2 (.const (.int true 0))) ⟨[(0,D.str true x),(1,.str true (nm "\n"))],[]⟩=some (.next ⟨[(0,D.str true x),(1,.str true (nm "\n")),(2,.int true 0)],[]⟩)from jG bR (by rfl))]
 obtain⟨me',e,k⟩:=su (F:=F) x.cps.toList 0 [(0,D.str true x),(1,.str true (nm "\n")),(2,.int true 0)] rfl rfl
 have hit:jK F 57 (.one 3) (.var 0) ⟨[(0,D.str true x),(1,.str true (nm "\n")),(2,.int true 0)],[]⟩=some (x.cps.toList.map λc=>D.str true (one c)):=by
  simp[jK,gY,ev,List.lookup,dD,hx]
 rw[ah (show ex F 58 (.for (.one 3) (.var 0) [.ite (.isEq (.var 3) (.var 1)) [.aug 2 (.const (.int true (1)))] []] false) ⟨[(0,D.str true x),(1,.str true (nm "\n")),(2,.int true 0)],[]⟩=some (.next ⟨me',[]⟩) by rw[ex,hit];exact congrArg (jo false) e)]
 rw[bC,nq (aJ k),Nat.zero_add]
end
theorem qk:∀a b:List Nat,lK (a.map λn:Nat=>(n:Int)) (b.map λn:Nat=>(n:Int))=decide (a<b)
 | [],[]=>by simp[lK]
 | [],_::_=>by simp[lK]
 | _::_,[]=>by simp[lK]
 | x::a,y::b=>by
  rw[List.map_cons,List.map_cons,lK,qk a b,Bool.eq_iff_iff,decide_eq_true_eq,List.cons_lt_cons_iff]
  by_cases e:x=y
  ·subst e
   rw[if_pos rfl];simp
  ·rw[if_neg (by omega)];simp[e]
theorem i4{f:D→D→Option Bool}:∀l:List D,(∀x∈l,f x x=some true)→kC f l l=some true
 | [],_=>rfl
 | a::l,h=>by rw[kC,h a (.head _),i4 l λx hx=>h x (.tail _ hx)];rfl
abbrev wA(c:Nat→Nat)(p:Nat):List Nat:=[yC c p,97+p]
abbrev ua(c:Nat→Nat)(p:Nat):D:=.list ((wA c p).map nI)
abbrev Cn(c:Nat→Nat)(i j:Nat):D:=.int true (b2 (decide (wA c j<wA c i))-b2 (decide (wA c i<wA c j)))
abbrev ql(c:Nat→Nat):D:=.list ((List.range 5).map λi=>D.list ((List.range 5).map (Cn c i)))
theorem lX(c:Nat→Nat)(p:Nat):bh ((wA c p).map nI)=some ((wA c p).map λn:Nat=>(n:Int)):=kt (λn=>n) _
theorem Co(c:Nat→Nat):a9 .eq (ql c) (ql c)=some true:=by
 rw[a9,eV,if_pos rfl]
 refine i4 _ λx hx=>?_
 obtain⟨i,_,rfl⟩:=List.mem_map.mp hx
 rw[eV,if_pos rfl]
 refine i4 _ λy hy=>?_
 obtain⟨j,_,rfl⟩:=List.mem_map.mp hy
 rw[eV,beq_self_eq_true]
section
variable{F:Nat→List D→Option D}{me:Me}{c:Nat→Nat}
theorem oe{n:Nat}(l26:me.lookup 26=some (bZ c)):ev F (n+6) (.comp (.comp (.bi .ord [(.var 18)]) [((.one 18),(.var 23),[])]) [((.one 23),(.var 26),[])]) me=some (.list ((List.range 5).map (ua c))):=by
 refine dK (List.range 5) (wS (eW c)) _ (dL ((bU (by decide)).trans l26) (by simp)) (λp _=>?_) (by simp)
 refine dK (wA c p) (λx=>D.str true (one x)) nI ?_ (λx _=>?_) (by simp)
 ·have hl:(eW c p).length≤100000:=by show(2:Nat)≤100000;omega
  have l23:(bA [18] ((23,wS (eW c) p)::bA [23] me)).lookup 23=some (wS (eW c) p):=(bU (by decide)).trans aG
  simp only[gY,aJ l23,dD]
  rw[if_pos hl]
  rfl
 ·rw[AK .ord (aJ aG)];rfl
theorem sw{n:Nat}(l36:me.lookup 36=some (.list ((List.range 5).map (ua c)))):ev F (n+6) (.comp (.comp (.bin .sub (.cmp .gt (.var 39) (.var 40)) (.cmp .lt (.var 39) (.var 40))) [((.one 40),(.var 36),[])]) [((.one 39),(.var 36),[])]) me=some (ql c):=by
 refine dK (List.range 5) (ua c) _ (dL ((bU (by decide)).trans l36) (by simp)) (λi _=>?_) (by simp)
 refine dK (List.range 5) (ua c) (Cn c i) (dL ((bU (by decide)).trans ((bw (by decide)).trans l36)) (by simp)) (λj _=>?_) (by simp)
 have l39:List.lookup 39 ((40,ua c j)::bA [40] ((39,ua c i)::bA [39] me))=some (ua c i):=(bw (by decide)).trans aG
 have l40:List.lookup 40 ((40,ua c j)::bA [40] ((39,ua c i)::bA [39] me))=some (ua c j):=aG
 refine(cg (bW (t:=decide (wA c j<wA c i)) (aJ l39) (aJ l40) ?_) (bW (t:=decide (wA c i<wA c j)) (aJ l39) (aJ l40) ?_)).trans rfl
 ·rw[a9,lX,lX]
  dsimp only
  rw[qk]
 ·rw[a9,lX,lX]
  dsimp only
  rw[qk]
theorem ub{n:Nat}(hS:SC F)(l26:me.lookup 26=some (bZ c)):ev F (n+6) (.comp (.comp (.call 3 [(.var 39),(.var 40)]) [((.one 40),(.var 26),[])]) [((.one 39),(.var 26),[])]) me=some (ql c):=by
 refine dK (List.range 5) (wS (eW c)) _ (dL ((bU (by decide)).trans l26) (by simp)) (λi _=>?_) (by simp)
 refine dK (List.range 5) (wS (eW c)) (Cn c i) (dL ((bU (by decide)).trans ((bw (by decide)).trans l26)) (by simp)) (λj _=>?_) (by simp)
 have l39:List.lookup 39 ((40,wS (eW c) j)::bA [40] ((39,wS (eW c) i)::bA [39] me))=some (wS (eW c) i):=(bw (by decide)).trans aG
 have l40:List.lookup 40 ((40,wS (eW c) j)::bA [40] ((39,wS (eW c) i)::bA [39] me))=some (wS (eW c) j):=aG
 rw[ev]
 simp only[bn,aJ l39,aJ l40]
 exact hS _ _
theorem Aa(l:List D)(h:∀x∈l,∃s,x = .str true s):eV 8 (.list l) (.list l)=some true:=by
 rw[eV,if_pos rfl]
 refine i4 _ λx hx=>?_
 obtain⟨s,rfl⟩:=h x hx
 rw[eV,beq_self_eq_true]
theorem Ab(hS:SC F)(hC:F 0 [.str true (dz c),.str true (nm "\n")]=some (.int true ((qe c 5).count 10:Nat))):bC F 60 eS ⟨eU.zip [bZ c,.str true (dz c)],[]⟩=some (.ret (.bool true)):=by
 unfold eS eU
 simp only[List.zip_cons_cons,List.zip_nil_right]
 have hpl:(dz c).cps.toList.length≤900:=by
  have:=lV c 5
  show(qe c 5).toArray.toList.length≤900
  simp;omega
 have hat:kZ ⟨dz c,0,1,[]⟩ ([]++yG c 0 5):=⟨by rw[List.nil_append,AU];rfl,Nat.zero_le _⟩
 obtain⟨L',ht,hline⟩:=u9 c 5 0 ⟨dz c,0,1,[]⟩ [] rfl hat (by decide) rfl hpl
 rw[List.nil_append,AU]at hline
 dsimp only at hline
 rw[←List.range_eq_range']at ht
 rw[ah (show ex F 59 (.newLex 34 (.var 13)) ⟨[(26,bZ c),(13,.str true (dz c))],[]⟩=some (.next ⟨[(26,bZ c),(13,.str true (dz c))],[(34,.lex ⟨dz c,0,1,[]⟩)]⟩) by simp[ex,ev,List.lookup,aS,nz])]
 rw[ah (show ex F 58 (.gets 35 34 6) ⟨[(26,bZ c),(13,.str true (dz c))],[(34,.lex ⟨dz c,0,1,[]⟩)]⟩=some (.next ⟨[(26,bZ c),(13,.str true (dz c)),(35,.list ((List.range 5).map (wS (eW c))++[.str true (nm "")]))],[(34,.lex L')]⟩) by
  rw[ex]
  simp only[dN,List.lookup,beq_self_eq_true]
  rw[if_pos (by omega),ht]
  simp[aS,put])]
 generalize hme:[(26,bZ c),(13,D.str true (dz c)),(35,.list ((List.range 5).map (wS (eW c))++[.str true (nm "")]))]=me
 have l26:me.lookup 26=some (bZ c):=by rw[←hme];rfl
 have l13:me.lookup 13=some (.str true (dz c)):=by rw[←hme];rfl
 have l35:me.lookup 35=some (.list ((List.range 5).map (wS (eW c))++[.str true (nm "")])):=by rw[←hme];rfl
 clear hme
 have e1:ev F 56 (.cmp .ne (.var 35) (.bin .add (.var 26) (.list [(.const (.str true (nm "")))]))) me=some (.bool false):=by
  refine bW (o:=.ne) (aJ l35) ((cg (aJ l26) (show ev F 54 (.list [(.const (.str true (nm "")))]) me=some (.list [.str true (nm "")])from rfl)).trans (show _=some (D.list ((List.range 5).map (wS (eW c))++[.str true (nm "")]))from ?_)) ?_
  ·rw[dm,if_pos (by simp)]
  ·rw[a9,Aa]
   ·rfl
   ·intro x hx
    rcases List.mem_append.mp hx with h|h
    ·obtain⟨p,_,rfl⟩:=List.mem_map.mp h
     exact⟨_,rfl⟩
    ·rw[List.mem_singleton.mp h];exact⟨_,rfl⟩
 have e2:ev F 56 (.bin .add (.const (.int true (1))) (.call 0 [(.var 13),(.const (.str true (nm "\n")))])) me=some (.int true (1+((qe c 5).count 10:Nat))):=by
  refine(cg bR (y:=.int true ((qe c 5).count 10:Nat)) ?_).trans gy
  rw[ev]
  simp only[bn,aJ l13,bR]
  exact hC
 rw[ah (show ex F 57 (.iteLine (.cmp .ne (.var 35) (.bin .add (.var 26) (.list [(.const (.str true (nm "")))]))) 34 (.bin .add (.const (.int true (1))) (.call 0 [(.var 13),(.const (.str true (nm "\n")))])) [.ret (.const (.bool false))] []) ⟨me,[(34,.lex L')]⟩=some (.next ⟨me,[(34,.lex L')]⟩) by
  rw[ex,dF,dF]
  dsimp only
  rw[e1,e2]
  simp only[dN,List.lookup,beq_self_eq_true,aC]
  rw[if_pos (by rw[hline];omega)]
  rfl)]
 rw[ah (show ex F 56 (.assign 36 _) ⟨me,[(34,.lex L')]⟩=some (.next ⟨put 36 (.list ((List.range 5).map (ua c))) me,[(34,.lex L')]⟩)from jG (oe (n:=49) l26) (by rfl))]
 have l26':(put 36 (.list ((List.range 5).map (ua c))) me).lookup 26=some (bZ c):=by rw[aa,if_neg (by decide)];exact l26
 have l36:(put 36 (.list ((List.range 5).map (ua c))) me).lookup 36=some (.list ((List.range 5).map (ua c))):=by rw[aa,if_pos rfl]
 generalize put 36 (.list ((List.range 5).map (ua c))) me=me2 at l26' l36
 rw[ah (show ex F 55 (.assign 37 _) ⟨me2,[(34,.lex L')]⟩=some (.next ⟨put 37 (ql c) me2,[(34,.lex L')]⟩)from jG (sw (n:=48) l36) (by rfl))]
 have l26'':(put 37 (ql c) me2).lookup 26=some (bZ c):=by rw[aa,if_neg (by decide)];exact l26'
 have l37:(put 37 (ql c) me2).lookup 37=some (ql c):=by rw[aa,if_pos rfl]
 generalize put 37 (ql c) me2=me3 at l26'' l37
 rw[bC,nq (bW (o:=.eq) (ub (n:=46) hS l26'') (aJ l37) (Co c))]
end
theorem Cp{c:Nat→Nat}{p q:Nat}(h:eW c p=eW c q):p=q:=by
 have:=congrArg (λs:Str=>s.cps.toList) h
 change [yC c p,97+p]=[yC c q,97+q]at this
 simp only[List.cons.injEq,and_true]at this
 omega
theorem D7(c:Nat→Nat):WO (eW c):=by
 have e:(List.range 5).map (eW c)=[eW c 0,eW c 1,eW c 2,eW c 3,eW c 4]:=rfl
 have hb:∀p q,(eW c p==eW c q)=decide (p=q):=λp q=>by
  rw[Bool.eq_iff_iff,beq_iff_eq,decide_eq_true_eq]
  exact⟨Cp,λh=>by rw[h]⟩
 have hd:∀p,(eW c p==nm ".")=false:=λp=>by
  rw[beq_eq_false_iff_ne]
  intro h
  have h2:nm "." = one 46:=by decide +kernel
  rw[h2]at h
  have:=congrArg (λs:Str=>s.cps.toList.length) h
  change (2:Nat)=1 at this
  omega
 refine⟨λi hi=>?_,?_⟩
 ·unfold gw
  rw[e]
  match i,hi with
  | 0,_|1,_|2,_|3,_|4,_=>simp[List.findIdx?_cons,hb]
 ·unfold gw
  rw[e]
  simp[List.findIdx?_cons,hd]
theorem Cq(c:Nat→Nat):Cv λi=>iK c (i+1):=by
 have mo:∀i j,i≤j→iK c i≤iK c j:=λi j h=>by
  induction j with
  | zero=>rw[Nat.le_zero.mp h];exact Nat.le_refl _
  | succ j ih=>
   rcases Nat.eq_or_lt_of_le h with rfl|h
   ·exact Nat.le_refl _
   ·have:=ih (by omega);rw[iK];omega
 refine⟨λi j h _=>mo _ _ (by omega),λi hi=>?_⟩
 have:=yD c (i+1)
 show iK c (i+1)≤10
 omega
theorem wz:∀l:List Int,l.length≤63→FF aI 8 17 [.list (l.map (D.int false))]=some (.bool true):=λl hl=>by
 obtain⟨gs,c,e4⟩:=yA (F:=FF aI 6) hl
 have c4:FF aI 7 4 [.list (l.map (D.int false))]=some (.list ((List.range 6).map λi=>D.int (gs i) (c i:Int))):=de (by decide) (by decide) rfl rfl e4
 have c6:FF aI 7 6 [.list ((List.range 6).map λi=>D.int (gs i) (c i:Int))]=some (.tup [bZ c,fH c,.str true (dz c)]):=de (by decide) (by decide) rfl rfl wx
 have c7:FF aI 7 7 [.int (gs 5) (c 5:Int)]=some (.list ((jn (c 5)).map (D.int true))):=de (by decide) (by decide) rfl rfl (Ce (c 5))
 obtain⟨ms,sl,e8,c9,hsl,mk⟩:=yz (c 5)
 have c8:FF aI 7 8 [.list ((jn (c 5)).map (D.int true))]=some (.list (ms.map (D.int true))):=by
  rw[FF]
  simp only[Nat.reduceEqDiff,if_false,if_true]
  exact e8
 have hpl:(dz c).length≤100000:=by
  have:=lV c 5
  show(qe c 5).toArray.size≤100000
  simp;omega
 have c0:FF aI 6 0 [.str true (dz c),.str true (nm "\n")]=some (.int true ((qe c 5).count 10:Nat)):=de (by decide) (by decide) rfl rfl (yH hpl)
 have c10:FF aI 7 10 [bZ c,.str true (dz c)]=some (.bool true):=de (by decide) (by decide) rfl rfl (Ab AM c0)
 have c16:FF aI 7 16 [bZ c,fH c,.list (ms.map (D.int true))]=some (.bool true):=zN (mk:=aI) (k:=2) (wd:=eW c) (cm:=λi=>iK c (i+1)) mk (Cq c) (D7 c)
 refine de (by decide) (by decide) rfl rfl ?_
 unfold uB uC
 simp only[List.zip_cons_cons,List.zip_nil_right]
 generalize D.list (l.map (D.int false))=script at c4
 generalize hcs:D.list ((List.range 6).map λi=>D.int (gs i) (c i:Int))=cs at c4 c6
 generalize bZ c=W at c6 c10 c16
 generalize fH c=C at c6 c16
 generalize D.str true (dz c)=P at c6 c10
 generalize hrow:D.list ((jn (c 5)).map (D.int true))=row at c7 c8 c9
 have hcall:∀(n f i:Nat) (me:Me) (x d:D),me.lookup i=some x→FF aI 7 f [x]=some d→ev (FF aI 7) (n+2) (.call f [.var i]) me=some d:=λn f i me x d h1 h2=>by
  rw[ev]
  simp only[bn,aJ h1]
  exact h2
 rw[ah (show ex (FF aI 7) 59 (.assign 20 (.call 4 [(.var 19)])) ⟨[(19,script)],[]⟩=some (.next ⟨[(19,script),(20,cs)],[]⟩)from bK (hcall 56 4 19 _ _ _ rfl c4))]
 rw[ah (show ex (FF aI 7) 58 (.assign 66 (.call 6 [(.var 20)])) ⟨[(19,script),(20,cs)],[]⟩=some (.next ⟨[(19,script),(20,cs),(66,.tup [W,C,P])],[]⟩)from bK (hcall 55 6 20 _ _ _ rfl c6))]
 have e29:ev (FF aI 7) 56 (.call 7 [(.sub (.var 20) (.const (.int true (5))))]) [(19,script),(20,cs),(66,.tup [W,C,P])]=some row:=by
  have:ev (FF aI 7) 55 (.sub (.var 20) (.const (.int true (5)))) [(19,script),(20,cs),(66,.tup [W,C,P])]=some (.int (gs 5) (c 5:Int)):=by
   refine(aL (x:=cs) (aJ rfl) bR).trans ?_
   rw[←hcs];rfl
  rw[ev]
  simp only[bn,this]
  exact c7
 rw[ah (show ex (FF aI 7) 57 (.assign 29 (.call 7 [(.sub (.var 20) (.const (.int true (5))))])) ⟨[(19,script),(20,cs),(66,.tup [W,C,P])],[]⟩=some (.next ⟨[(19,script),(20,cs),(66,.tup [W,C,P]),(29,row)],[]⟩)from bK e29)]
 rw[ah (show ex (FF aI 7) 56 (.assign 30 (.call 8 [(.var 29)])) ⟨[(19,script),(20,cs),(66,.tup [W,C,P]),(29,row)],[]⟩=some (.next ⟨[(19,script),(20,cs),(66,.tup [W,C,P]),(29,row),(30,.list (ms.map (D.int true)))],[]⟩)from bK (hcall 53 8 29 _ _ _ rfl c8))]
 generalize hme:[(19,script),(20,cs),(66,D.tup [W,C,P]),(29,row),(30,.list (ms.map (D.int true)))]=me
 have l66:me.lookup 66=some (.tup [W,C,P]):=by rw[←hme];rfl
 have l29:me.lookup 29=some row:=by rw[←hme];rfl
 have l30:me.lookup 30=some (.list (ms.map (D.int true))):=by rw[←hme];rfl
 have g0:∀n,ev (FF aI 7) (n+2) (.sub (.var 66) (.const (.int true (0)))) me=some W:=λn=>(aL (aJ l66) bR).trans rfl
 have g1:∀n,ev (FF aI 7) (n+2) (.sub (.var 66) (.const (.int true (1)))) me=some C:=λn=>(aL (aJ l66) bR).trans rfl
 have g2:∀n,ev (FF aI 7) (n+2) (.sub (.var 66) (.const (.int true (2)))) me=some P:=λn=>(aL (aJ l66) bR).trans rfl
 have hT:ev (FF aI 7) 54 (.or (.cmp .ne (.var 30) (.call 9 [(.var 29)])) (.not (.call 10 [(.sub (.var 66) (.const (.int true (0)))),(.sub (.var 66) (.const (.int true (2))))]))) me=some (.bool false):=by
  refine(AL (t:=false) (d:=.bool false) (bW (o:=.ne) (aJ l30) (hcall 50 9 29 _ _ _ l29 c9) ?_) λ_=>?_).trans rfl
  ·rw[a9,iF (dy true) hsl]
   simp
  ·refine yt (t:=true) ?_
   rw[ev]
   simp only[bn,g0 49,g2 49]
   exact c10
 rw[ah (iJ hT)]
 have hR:ev (FF aI 7) 53 (.call 16 [(.sub (.var 66) (.const (.int true (0)))),(.sub (.var 66) (.const (.int true (1)))),(.var 30)]) me=some (.bool true):=by
  rw[ev]
  simp only[bn,g0 50,g1 50,aJ l30]
  exact c16
 rw[bC,nq hR]
set_option maxHeartbeats 8000000
theorem Cr{K K':Frag}{h:Heap}(X:K'.In h)(e:K=(K.map (·.1)).filterMap λa=>(K'.lookup a).map λo=>(a,o)):K.In h:=λa o q=>by
 have hm:=fB q
 rw[e]at hm
 obtain⟨b,_,hb⟩:=List.mem_filterMap.mp hm
 cases z:K'.lookup b with
 | none=>rw[z]at hb;cases hb
 | some o'=>rw[z]at hb;cases hb;exact X _ _ z
theorem joined:PySem.Challenge.rw_wk0015_01.Holds:=by
 w_on;o_law;z_head
 case hw=>w_witness2
 intro w aV ae mg mb G y fa o pm cd doc dV kV ho hdd hcd hD hmg hg args vals as L hpre hlay hrd hwl hlo
 clear ho hdd hcd hD
 obtain⟨ZA,ZI,ZN,ZT⟩:=PySem.W.X.z_facts (λ_=>by kernel_rfl) y
 have ZX:=Frag.In.keeps ZI L.keeps
 have KX:(KK w.params).In ae.heap:=Cr ZX (by kernel_rfl)
 have hT:ae.heap.get? 100=some (tabObj #[]):=ZX _ _ (by kernel_rfl)
 clear ZA ZI y ZX
 have T:=G.T
 obtain⟨bm,ob,hb1,hb2,hb3,hb4,hb5,hb6⟩:=T.bmain
 have hb7:mg (Str.ofString "__builtins__")=some (.ref _):=mg_of KX T.g (by rfl)
 have bat:ae.heap.BuiltinsAt mg 100:=by
  have hb1':mg (Str.ofString "__builtins__")=some (.ref bm):=hb1
  rw[hb7]at hb1'
  cases hb1'
  exact⟨_,ob,hb7,hb2,by decide,by decide,hb3,hb4,hb5,hb6⟩
 have hfa:fa=191:=by
  have e3:mg (Str.ofString "law")=some (.ref 191):=mg_of KX T.g (by rfl)
  have e4:mg (Str.ofString "law")=some (.ref fa):=hmg
  rw[e3]at e4;cases e4;rfl
 subst hfa
 clear hmg
 wrow_args hpre hlay hrd hwl hlo
 rename_i ns _ _ _ _ _ _ _ a vals _ hL _ _ _ hI _ hlen _
 have htk:437≤ae.toks:=PySem.W.X.script_toks L ZT
 have hat:a=192:=(PySem.W.X.script_at L).1.trans ZN
 refine wpAny_mono (zv wz KX hT T.g T.b T.nolimit T.builtins bat hg (by omega) hL hI (by rw[hat];decide) (by omega)) (λv s' ⟨ev,h1,h2,h3⟩=>?_) λ_ _ x=>x
 subst ev
 exact⟨.inl ⟨_,_,[],rfl,λcls=>by rfl,ReadsW.bool true,by wrow_post,λ_=>⟨List.nodup_nil,λ_ hm=>(nomatch hm)⟩⟩,h1,h2,h3⟩
end Mine
theorem PySem.Challenge.cw_wk0015_01_holds : PySem.Challenge.rw_wk0015_01.Holds :=
  Mine.joined
