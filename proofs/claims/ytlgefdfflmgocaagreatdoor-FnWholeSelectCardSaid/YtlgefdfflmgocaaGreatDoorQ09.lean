import Derived.Test.YtlgefdfflmgocaaGreatDoorQ08
import Derived.Deep.LoopGhost
set_option linter.all false
set_option maxRecDepth 100000
set_option maxHeartbeats 2000000
namespace Xc
open Go Go.RowKit
theorem fq{κ:Type}[DecidableEq κ]{ν μ:Type}(f:ν→μ)(k:κ)(l:List (κ×ν)):aT k (l.map fun x=>(x.1,f x.2))=(aT k l).map f:=by
 induction l with
 |nil=>rfl
 |cons x l d=>
  simp only[aN,aT];split
  ·rfl
  ·exact d
theorem lI{κ:Type}[DecidableEq κ]{ν μ:Type}(f:ν→μ)(k:κ)(v:ν)(l:List (κ×ν)):(cf k v l).map (fun x=>(x.1,f x.2))=cf k (f v) (l.map fun x=>(x.1,f x.2)):=by
 induction l with
 |nil=>rfl
 |cons x l d=>
  simp only[aN,cf];split
  ·rfl
  ·rw[aN,d]
theorem mget_mem{κ:Type}[DecidableEq κ]{ν:Type}{k:κ}{v:ν}{l:List (κ×ν)}(h:aT k l=some v):(k,v)∈l:=by
 induction l with
 |nil=>cases h
 |cons x l d=>
  simp only[aT]at h;split at h
  ·rename_i e;cases h;rw[e];exact eo
  ·exact aH _ (d h)
theorem iQ{κ:Type}[DecidableEq κ]{ν:Type}{k:κ}{v:ν}{l:List (κ×ν)}(h:aT k l=some v):∃a b,l=a++(k,v)::b∧∀u,cf k u l=a++(k,u)::b:=by
 induction l with
 |nil=>cases h
 |cons x l d=>
  simp only[aT]at h;split at h
  ·rename_i e;cases h;exact⟨[],l,by rw[e];rfl,fun u=>by rw[cf,if_pos e,e];rfl⟩
  ·rename_i e;obtain⟨a,b,h1,z⟩:=d h;exact⟨x::a,b,by rw[h1];rfl,fun u=>by rw[cf,if_neg e,z];rfl⟩
structure mK(w:World)(e:TypeId)(v:Value)(q:Nat)(xs:List Nat):Prop where
 own:w.ownsRow 0 e 1 v xs.length (xs.map fun x=>Value.int .u32 (x:Nat))
 blk:v.ownBlock=some q
theorem mK.upd{w w':World}{e:TypeId}{L:List Nat}{v:Value}{q:Nat}{xs:List Nat}(h:mK w e v q xs)(hu:Upd L w w')(hq:q∉L):mK w' e v q xs:=
 ⟨hu.row h.own (by rw[h.blk];rintro _ ⟨⟩;exact hq),h.blk⟩
theorem mK.shape{w:World}{e:TypeId}{v:Value}{q:Nat}{xs:List Nat}(h:mK w e v q xs):∃cap,v=.slice (some ⟨q,0,none⟩) xs.length cap:=by
 rcases h.own.2 with⟨rfl,_⟩|⟨g,cap,cur,rfl,_⟩
 ·exact absurd h.blk (by simp[Value.ownBlock])
 ·have:=h.blk;cases this;exact⟨cap,rfl⟩
theorem mK.lt{w:World}{e:TypeId}{v:Value}{q:Nat}{xs:List Nat}(h:mK w e v q xs):q<w.heap.size:=(h.own.lt q h.blk).2
abbrev PE:=Nat×Value×Nat×List Nat
abbrev PI:=Nat×Nat×List PE
def bN(bp:Nat)(M:List PI):List Nat:=bp::M.flatMap fun x=>x.2.1::x.2.2.map fun y=>y.2.2.1
structure lr(w:World)(e:TypeId)(base bp:Nat)(M:List PI):Prop where
 o:w.heap[bp]? =some (bI (ec .u32) (M.map fun x=>(x.1,Value.map (some x.2.1))))
 inn:∀x∈M,w.heap[x.2.1]? =some (bI (ec .u32) (x.2.2.map fun y=>(y.1,y.2.1)))
 row:∀x∈M,∀y∈x.2.2,mK w e y.2.1 y.2.2.1 y.2.2.2
 dis:(bN bp M).Nodup
 ge:∀b∈bN bp M,base≤b
theorem lr.upd{w w':World}{e:TypeId}{base bp:Nat}{M:List PI}{L:List Nat}(h:lr w e base bp M)(hu:Upd L w w')(hL:∀b∈L,b∉bN bp M):lr w' e base bp M:=by
 have hn:∀b∈bN bp M,b∉L:=fun b hb hl=>hL b hl hb;refine⟨hu.blk h.o (hn _ (by simp[bN])),fun x d=>hu.blk (h.inn x d) (hn _ ?_),fun x d y z=>(h.row x d y z).upd hu (hn _ ?_),h.dis,h.ge⟩
 ·simp only[bN,ah,eU];exact .inr ⟨x,d,.inl rfl⟩
 ·simp only[bN,ah,eU];exact .inr ⟨x,d,.inr (List.mem_map.2 ⟨y,z,rfl⟩)⟩
theorem lr.lt{w:World}{e:TypeId}{base bp:Nat}{M:List PI}(h:lr w e base bp M):∀b∈bN bp M,b<w.heap.size:=by
 intro b hb;simp only[bN,ah,eU]at hb;rcases hb with rfl|⟨x,d,rfl|hb⟩
 ·exact lt_of_block h.o
 ·exact lt_of_block (h.inn x d)
 ·obtain⟨y,z,rfl⟩:=List.mem_map.1 hb;exact(h.row x d y z).lt
theorem d9{w:World}{b:Nat}{o:Obj}:Upd [b] w (ChangeMaps.setBlock w b o):=by
 refine⟨rfl,rfl,rfl,?_,fun i d hn=>?_⟩
 ·simp[ChangeMaps.setBlock]
 ·simp only[ag]at hn;simp only[ChangeMaps.setBlock];simp[aF hn]
theorem gN{w:World}{b:Nat}{o:Obj}(h:b<w.heap.size):(ChangeMaps.setBlock w b o).heap[b]? =some o:=by simp[ChangeMaps.setBlock,h]
theorem lr.make{w w1:World}{e:TypeId}{base bp a b:Nat}{M:List PI}{L:List Nat}(h:lr w e base bp M)(hu:Upd L w w1)(hL:∀c∈L,c∉bN bp M)(W:aT a M=none)(hb:w1.heap[b]? =some (bI (ec .u32) []))(hb1:w.heap.size≤b)(hb2:base≤b):
 lr (ChangeMaps.setBlock w1 bp (bI (ec .u32) (cf a (Value.map (some b)) (M.map fun x=>(x.1,Value.map (some x.2.1)))))) e base bp (M++[(a,b,[])]):=by
 have h1:=h.upd hu hL;have O:bp<w1.heap.size:=lt_of_block h1.o;have D:∀x∈M,∀c,(c=x.2.1∨c∈x.2.2.map fun y=>y.2.2.1)→c≠bp:=by intro x d c z e;have U:=h.dis;simp only[bN,a8,eU,ah]at U;exact U.1 ⟨x,d,e▸z⟩
 have F:b∉bN bp M:=fun hm=>by have:=h.lt b hm;omega
 have G:b≠bp:=fun e=>F (by rw[e];simp[bN]);have hS:Upd [bp] w1 (ChangeMaps.setBlock w1 bp (bI (ec .u32) (cf a (Value.map (some b)) (M.map fun x=>(x.1,Value.map (some x.2.1)))))):=d9;refine⟨?_,?_,?_,?_,?_⟩
 ·rw[gN O,fu (by have V:=fq (fun y:Nat×List PE=>Value.map (some y.1)) a M;rw[W]at V;exact V),aX];rfl
 ·intro x d;simp only[aA,ag]at d;rcases d with d|rfl
  ·exact hS.blk (h1.inn x d) (by simpa using D x d _ (.inl rfl))
  ·exact hS.blk hb (by simpa using G)
 ·intro x d y A;simp only[aA,ag]at d;rcases d with d|rfl
  ·exact(h1.row x d y A).upd hS (by simpa using D x d _ (.inr (List.mem_map.2 ⟨y,A,rfl⟩)))
  ·cases A
 ·have:bN bp (M++[(a,b,[])])=bN bp M++[b]:=by simp[bN]
  rw[this];exact List.nodup_append.2 ⟨h.dis,by simp,fun x d y A=>by simp only[ag]at A;subst A;exact fun e=>F (e▸d)⟩
 ·intro c z;have:bN bp (M++[(a,b,[])])=bN bp M++[b]:=by simp[bN]
  rw[this]at z;simp only[aA,ag]at z;rcases z with z|rfl
  ·exact h.ge c z
  ·exact hb2
theorem oj{l1 l2 m m':List Nat}{n:Nat}(h:(l1++(m++l2)).Nodup)(hm:m'.Nodup)(hs:∀b∈m',b∈m∨n≤b)(hl:∀b∈l1++(m++l2),b<n):(l1++(m'++l2)).Nodup:=by
 have h1:=List.nodup_append.1 h;have A:=List.nodup_append.1 h1.2.1;refine List.nodup_append.2 ⟨h1.1,List.nodup_append.2 ⟨hm,A.2.1,?_⟩,?_⟩
 ·intro a z b hb e;subst e;rcases hs a z with d|d
  ·exact A.2.2 a d a hb rfl
  ·have:=hl a (by simp[hb]);omega
 ·intro a z b hb e;subst e;rcases List.mem_append.1 hb with d|d
  ·rcases hs a d with h4|h4
   ·exact h1.2.2 a z a (by simp[h4]) rfl
   ·have:=hl a (by simp[z]);omega
  ·exact h1.2.2 a z a (by simp[d]) rfl
theorem lr.add{w w1:World}{e:TypeId}{base bp a b c q q' x:Nat}{v':Value}{xs:List Nat}{M:List PI}{es:List PE}{L:List Nat}(h:lr w e base bp M)(ha:aT a M=some (b,es))
 (G:(aT c es=none∧xs=[]∧L=[]∧w.heap.size≤q')∨(∃v,aT c es=some (v,q,xs)∧L=[q]∧(q'=q∨w.heap.size≤q')))(bb:base≤q')
 (hu:Upd L w w1)(hr:mK w1 e v' q' (xs++[x])):
 lr (ChangeMaps.setBlock w1 b (bI (ec .u32) (cf c v' (es.map fun y=>(y.1,y.2.1))))) e base bp (cf a (b,cf c (v',q',xs++[x]) es) M):=by
 obtain⟨A,B,hM,bd⟩:=iQ ha;have hB:∀a1,bN bp (A++(a,b,a1)::B)=(bp::A.flatMap fun x=>x.2.1::x.2.2.map fun y=>y.2.2.1)++((b::a1.map fun y=>y.2.2.1)++B.flatMap fun x=>x.2.1::x.2.2.map fun y=>y.2.2.1):=by intro a1;simp[bN]
 have hd:=h.dis;have V:=h.lt;rw[hM,hB]at hd V;have hmem:∀z,z∈M↔z∈A∨z=(a,b,es)∨z∈B:=by intro z;rw[hM];simp
 have F:∀y∈cf c (v',q',xs++[x]) es,y=(c,v',q',xs++[x])∨(y∈es∧∀p∈L,y.2.2.1≠p):=by
  intro y d;rcases G with⟨h1,_,O,_⟩|⟨v,h1,O,_⟩
  ·rw[fu h1]at d;simp only[aA,ag]at d;rcases d with d|d
   ·exact .inr ⟨d,by rw[O];simp⟩
   ·exact .inl d
  ·obtain⟨A1,B1,he,a2⟩:=iQ h1;rw[a2]at d;simp only[aA,ah]at d;have G5:(b::es.map fun y=>y.2.2.1).Nodup:=(List.nodup_append.1 (List.nodup_append.1 hd).2.1).1;rw[he]at G5;simp only[a8,aX,aN,List.nodup_append]at G5;rcases d with d|d|d
   ·exact .inr ⟨by rw[he];simp[d],by rw[O];simp only[ag];rintro p rfl e;exact G5.2.2.2 y.2.2.1 (List.mem_map.2 ⟨y,d,rfl⟩) p (by simp) e⟩
   ·exact .inl d
   ·exact .inr ⟨by rw[he];simp[d],by rw[O];simp only[ag];rintro p rfl e;exact G5.2.2.1.1 (List.mem_map.2 ⟨y,d,e⟩)⟩
 have be:q'∈(b::es.map fun y=>y.2.2.1)∨w.heap.size≤q':=by
  rcases G with⟨_,_,_,h4⟩|⟨v,h1,_,h4|h4⟩
  ·exact .inr h4
  ·exact .inl (by rw[h4];exact aH _ (List.mem_map.2 ⟨_,mget_mem h1,rfl⟩))
  ·exact .inr h4
 have a4:q'≠b:=by
  intro e;rcases G with⟨_,_,_,h4⟩|⟨v,h1,_,h4|h4⟩
  ·have:=V b (by simp);omega
  ·have G5:(b::es.map fun y=>y.2.2.1).Nodup:=(List.nodup_append.1 (List.nodup_append.1 hd).2.1).1;simp only[a8]at G5;exact G5.1 (List.mem_map.2 ⟨_,mget_mem h1,by rw[←e,h4]⟩)
  ·have:=V b (by simp);omega
 have a5:∀p∈L,p∈es.map fun y=>y.2.2.1:=by
  intro p D;rcases G with⟨_,_,O,_⟩|⟨v,h1,O,_⟩
  ·rw[O]at D;cases D
  ·rw[O]at D;simp only[ag]at D;subst D;exact List.mem_map.2 ⟨_,mget_mem h1,rfl⟩
 have a6:=List.nodup_append.1 hd;have W:=List.nodup_append.1 a6.2.1;have hb1:w1.heap[b]? =some (bI (ec .u32) (es.map fun y=>(y.1,y.2.1))):=hu.blk (h.inn (a,b,es) ((hmem _).2 (.inr (.inl rfl)))) (fun D=>(List.nodup_cons.1 W.1).1 (a5 b D));have hS:Upd [b] w1 (ChangeMaps.setBlock w1 b (bI (ec .u32) (cf c v' (es.map fun y=>(y.1,y.2.1))))):=d9;have ad:∀p,(p∈(bp::A.flatMap fun x=>x.2.1::x.2.2.map fun y=>y.2.2.1)∨p∈(B.flatMap fun x=>x.2.1::x.2.2.map fun y=>y.2.2.1))→p∉L∧p≠b:=by
  intro p D;have key:∀z∈(b::es.map fun y=>y.2.2.1),p≠z:=by
   intro z hz;rcases D with D|D
   ·exact a6.2.2 p D z (List.mem_append.2 (.inl hz))
   ·exact fun e=>W.2.2 z hz p D e.symm
  exact⟨fun hl=>key p (aH _ (a5 p hl)) rfl,key b (by simp)⟩
 have a7:∀z∈A,∀p,(p=z.2.1∨p∈z.2.2.map fun y=>y.2.2.1)→p∈(bp::A.flatMap fun x=>x.2.1::x.2.2.map fun y=>y.2.2.1):=fun z hz p D=>
  aH _ (List.mem_flatMap.2 ⟨z,hz,List.mem_cons.2 D⟩)
 have a9:∀z∈B,∀p,(p=z.2.1∨p∈z.2.2.map fun y=>y.2.2.1)→p∈(B.flatMap fun x=>x.2.1::x.2.2.map fun y=>y.2.2.1):=fun z hz p D=>
  List.mem_flatMap.2 ⟨z,hz,List.mem_cons.2 D⟩
 rw[bd];refine⟨?_,?_,?_,?_,?_⟩
 ·have:=h.o;rw[hM]at this;have U:=ad bp (.inl (by simp));rw[hS.blk (hu.blk this U.1) (by simpa using U.2)];simp
 ·intro z hz;simp only[aA,ah]at hz;rcases hz with hz|rfl|hz
  ·have U:=ad z.2.1 (.inl (a7 z hz _ (.inl rfl)));exact hS.blk (hu.blk (h.inn z ((hmem z).2 (.inl hz))) U.1) (by simpa using U.2)
  ·rw[gN (lt_of_block hb1)];have:=lI (fun y:Value×Nat×List Nat=>y.1) c (v',q',xs++[x]) es;exact congrArg (fun l=>some (bI (ec .u32) l)) this.symm
  ·have U:=ad z.2.1 (.inr (a9 z hz _ (.inl rfl)));exact hS.blk (hu.blk (h.inn z ((hmem z).2 (.inr (.inr hz)))) U.1) (by simpa using U.2)
 ·intro z hz y d;simp only[aA,ah]at hz;rcases hz with hz|rfl|hz
  ·have U:=ad y.2.2.1 (.inl (a7 z hz _ (.inr (List.mem_map.2 ⟨y,d,rfl⟩))));exact((h.row z ((hmem z).2 (.inl hz)) y d).upd hu U.1).upd hS (by simpa using U.2)
  ·rcases F y d with rfl|⟨O,h4⟩
   ·exact hr.upd hS (by simpa using a4)
   ·refine((h.row (a,b,es) ((hmem _).2 (.inr (.inl rfl))) y O).upd hu (fun hl=>h4 _ hl rfl)).upd hS ?_;simp only[ag];exact fun e=>(List.nodup_cons.1 W.1).1 (List.mem_map.2 ⟨y,O,e⟩)
  ·have U:=ad y.2.2.1 (.inr (a9 z hz _ (.inr (List.mem_map.2 ⟨y,d,rfl⟩))));exact((h.row z ((hmem z).2 (.inr (.inr hz))) y d).upd hu U.1).upd hS (by simpa using U.2)
 ·rw[hB];refine oj (n:=w.heap.size) hd ?_ ?_ V
  ·refine List.nodup_cons.2 ⟨?_,?_⟩
   ·intro hm;obtain⟨y,d,e⟩:=List.mem_map.1 hm;rcases F y d with rfl|⟨O,_⟩
    ·exact a4 e
    ·exact(List.nodup_cons.1 W.1).1 (List.mem_map.2 ⟨y,O,e⟩)
   ·rcases G with⟨h1,_,_,h4⟩|⟨v,h1,_,h4⟩
    ·rw[fu h1,aX];refine List.nodup_append.2 ⟨(List.nodup_cons.1 W.1).2,by simp,fun y d z hz=>?_⟩;simp only[aN,cQ,ag]at hz;subst hz;intro e;have:=V y (by simp only[aA,ah];exact .inr (.inl (.inr d)));omega
    ·obtain⟨A1,B1,he,a2⟩:=iQ h1;have G5:=(List.nodup_cons.1 W.1).2;have a3:∀z∈es.map fun y=>y.2.2.1,z<w.heap.size:=fun z hz=>V z (by simp only[aA,ah];exact .inr (.inl (.inr hz)));rw[he]at G5 a3;rw[a2];simp only[aX,aN]at G5 a3⊢;exact oj (m:=[q]) (m':=[q']) (n:=w.heap.size) G5 (by simp) (by simpa using h4) a3
  ·intro p D;simp only[ah,bU]at D;rcases D with rfl|⟨y,d,rfl⟩
   ·exact .inl (by simp)
   ·rcases F y d with rfl|⟨O,_⟩
    ·exact be
    ·exact .inl (aH _ (List.mem_map.2 ⟨y,O,rfl⟩))
 ·intro p D;rw[hB]at D;simp only[aA,ah]at D;have a0:=h.ge;rw[hM,hB]at a0;rcases D with D|(rfl|D)|D
  ·exact a0 p (by simp only[aA,ah];exact .inl D)
  ·exact a0 p (by simp)
  ·obtain⟨y,d,rfl⟩:=List.mem_map.1 D;rcases F y d with rfl|⟨O,_⟩
   ·exact bb
   ·exact a0 _ (by simp only[aA,ah,bU];exact .inr (.inl (.inr ⟨y,O,rfl⟩)))
  ·exact a0 p (by simp only[aA];exact .inr (.inr D))
abbrev PA:=List (Nat×List (Nat×List Nat))
def fK(A:PA)(a:Nat):List (Nat×List Nat):=(aT a A).getD []
structure PIn(I:List (Nat×List Nat))(a:Nat)(T:List (Nat×Nat×Nat)):Prop where
 nodup:(I.map (·.1)).Nodup
 mem:∀b,b∈I.map (·.1)↔∃p,(p,a,b)∈T
 val:∀b,(aT b I).getD []=(T.filter fun t=>t.2=(a,b)).map (·.1)
def nY(A:PA)(T:List (Nat×Nat×Nat)):Prop:=∀a,PIn (fK A a) a T
theorem nY.nil:nY [] []:=fun a=>⟨by simp[fK,aT],by simp[fK,aT],by simp[fK,aT]⟩
theorem nY.make{A:PA}{T:List (Nat×Nat×Nat)}{a:Nat}(h:nY A T)(d:aT a A=none):nY (A++[(a,[])]) T:=by
 intro c;have:fK (A++[(a,[])]) c=fK A c:=by
  rw[←fu d];simp only[fK,gj];split
  ·rename_i e;rw[e,d];rfl
  ·rfl
 rw[this];exact h c
theorem nY.add{A:PA}{T:List (Nat×Nat×Nat)}{a b p:Nat}{I:List (Nat×List Nat)}{xs:List Nat}(h:nY A T)(hI:aT a A=some I)(G:xs=(aT b I).getD []):nY (cf a (cf b (xs++[p]) I) A) (T++[(p,a,b)]):=by
 intro c;have z:=h c;by_cases e:c=a
 ·subst e;have e1:fK (cf c (cf b (xs++[p]) I) A) c=cf b (xs++[p]) I:=by simp[fK,gj]
  have e2:fK A c=I:=by simp[fK,hI]
  rw[e1];rw[e2]at z;refine⟨?_,?_,?_⟩
  ·rw[ky];split
   ·exact z.nodup
   ·rename_i hb;exact List.nodup_append.2 ⟨z.nodup,by simp,fun x D y F=>by simp only[ag]at F;subst F;exact fun e=>hb (e▸D)⟩
  ·intro d;rw[ky];have:=z.mem d;have hb:=z.mem b;split
   ·rename_i hm;rw[this];constructor
    ·rintro⟨q,hq⟩;exact⟨q,List.mem_append.2 (.inl hq)⟩
    ·rintro⟨q,hq⟩;simp only[aA,ag,cW]at hq;rcases hq with hq|⟨rfl,_,rfl⟩
     ·exact⟨q,hq⟩
     ·exact hb.1 hm
   ·simp only[aA,ag,this,cW];constructor
    ·rintro(⟨q,hq⟩|rfl)
     ·exact⟨q,.inl hq⟩
     ·exact⟨p,.inr (by simp)⟩
    ·rintro⟨q,hq|hq⟩
     ·exact .inl ⟨q,hq⟩
     ·exact .inr (by simpa using hq.2)
  ·intro d;rw[gj,fM,aX];by_cases e:d=b
   ·subst e;rw[if_pos rfl,←z.val,G];simp
   ·rw[if_neg e,z.val];have:¬(c,b)=(c,d):=by simp only[cW,true_and];exact fun x=>e x.symm
    simp[this]
 ·have e1:fK (cf a (cf b (xs++[p]) I) A) c=fK A c:=by simp[fK,gj,e]
  rw[e1];refine⟨z.nodup,fun d=>?_,fun d=>?_⟩
  ·rw[z.mem d];constructor
   ·rintro⟨q,hq⟩;exact⟨q,List.mem_append.2 (.inl hq)⟩
   ·rintro⟨q,hq⟩;simp only[aA,ag,cW]at hq;rcases hq with hq|⟨_,O,_⟩
    ·exact⟨q,hq⟩
    ·exact absurd O e
  ·have:¬(a,b)=(c,d):=by simp only[cW,not_and];exact fun x=>absurd x.symm e
   rw[z.val,fM,aX];simp[this]
def oW(es:List PE):List (Nat×List Nat):=es.map fun y=>(y.1,y.2.2.2)
def nu(M:List PI):PA:=M.map fun x=>(x.1,oW x.2.2)
theorem lx(a:Nat)(M:List PI):aT a (nu M)=(aT a M).map fun y=>oW y.2:=fq (fun y:Nat×List PE=>oW y.2) a M
theorem pC(c:Nat)(es:List PE):aT c (oW es)=(aT c es).map fun y=>y.2.2:=fq (fun y:Value×Nat×List Nat=>y.2.2) c es
theorem xM(M:List PI)(a b:Nat):nu (M++[(a,b,[])])=nu M++[(a,[])]:=by simp[nu,oW]
theorem zw(M:List PI)(a b c q:Nat)(v:Value)(xs:List Nat)(es:List PE):nu (cf a (b,cf c (v,q,xs) es) M)=cf a (cf c xs (oW es)) (nu M):=by have h1:=lI (fun y:Nat×List PE=>oW y.2) a (b,cf c (v,q,xs) es) M;have d:=lI (fun y:Value×Nat×List Nat=>y.2.2) c (v,q,xs) es;simp only[nu];rw[h1];congr 1
theorem rN{α:Type}{lt:α→α→Prop}(d:∀a,¬lt a a)(tr:∀a b c,lt a b→lt b c→lt a c):∀{a b:List α},a.Pairwise lt→b.Pairwise lt→(∀x,x∈a↔x∈b)→a=b:=by
 intro a;induction a with
 |nil=>
  intro b _ _ h;cases b with
  |nil=>rfl
  |cons y b=>exact absurd ((h y).2 (by simp)) (by simp)
 |cons x a G=>
  intro b O hb h;cases b with
  |nil=>exact absurd ((h x).1 (by simp)) (by simp)
  |cons y b=>
   have A:=List.pairwise_cons.1 O;have hb1:=List.pairwise_cons.1 hb;have e:x=y:=by
    have h1:=(h x).1 (by simp);have D:=(h y).2 (by simp);simp only[ah]at h1 D;rcases h1 with h1|h1
    ·exact h1
    rcases D with D|D
    ·exact D.symm
    exact absurd (tr _ _ _ (hb1.1 x h1) (A.1 y D)) (d y)
   subst e;congr 1;refine G A.2 hb1.2 (fun z=>?_);have:=h z;simp only[ah]at this;constructor
   ·intro hz;rcases this.1 (.inr hz)with rfl|F
    ·exact absurd (A.1 z hz) (d z)
    ·exact F
   ·intro hz;rcases this.2 (.inr hz)with rfl|F
    ·exact absurd (hb1.1 z hz) (d z)
    ·exact F
theorem rO{α:Type}{le:α→α→Prop}{a:List α}(h:a.Pairwise le)(hn:a.Nodup):a.Pairwise fun x y=>le x y∧x≠y:=by
 induction a with
 |nil=>exact .nil
 |cons x a A=>
  have h1:=List.pairwise_cons.1 h;have d:=List.nodup_cons.1 hn;exact List.pairwise_cons.2 ⟨fun y z=>⟨h1.1 y z,fun e=>d.1 (e▸z)⟩,A h1.2 d.2⟩
structure IsA(c:Nat)(av:List (List Nat))(rem:List Nat):Prop where
 asc:∀l∈av,l.Pairwise (· <·)
 rasc:rem.Pairwise (· <·)
 mem:∀x,x∈rem↔c≤x∧∀l∈av,x∈l
theorem oI{α:Type}{l:List α}{i:Nat}{a x:α}(d:i<l.length)(h:x∈l.set i a):x=a∨x∈l:=by
 rcases List.mem_or_eq_of_mem_set h with h|h
 ·exact .inr h
 ·exact .inl h
theorem IsA.empty{c i:Nat}{av:List (List Nat)}{rem:List Nat}(h:IsA c av rem)(d:av[i]? =some []):rem=[]:=by
 cases rem with
 |nil=>rfl
 |cons x r=>
  have:=((h.mem x).1 (by simp)).2 [] (bY d);cases this
theorem nx{x:Nat}{l:List Nat}(h:(x::l).Pairwise (· <·)):∀y∈x::l,x≤y:=by
 intro y d;simp only[ah]at d;rcases d with rfl|d
 ·exact aw _
 ·exact Nat.le_of_lt ((List.pairwise_cons.1 h).1 y d)
theorem IsA.rise{c x i:Nat}{l:List Nat}{av:List (List Nat)}{rem:List Nat}(h:IsA c av rem)(z:av[i]? =some (x::l)):IsA (max c x) av rem:=
 ⟨h.asc,h.rasc,fun y=>by
   rw[h.mem y];constructor
   ·rintro⟨h1,d⟩;have:=nx (h.asc _ (bY z)) y (d _ (bY z));exact⟨Nat.max_le.2 ⟨h1,this⟩,d⟩
   ·rintro⟨h1,d⟩;exact⟨aW (Nat.le_max_left _ _) h1,d⟩⟩
theorem IsA.rise_le{c x i:Nat}{l:List Nat}{av:List (List Nat)}{rem:List Nat}(h:IsA c av rem)(d:av[i]? =some (x::l))(z:c≤x):IsA x av rem:=by have:=h.rise d;rwa [Nat.max_eq_right z]at this
theorem mu{c x:Nat}:∀{l:List Nat},l.Pairwise (· <·)→c≤x→(x∈l.dropWhile (fun y=>decide (y<c))↔x∈l):=by
 intro l;induction l with
 |nil=>intro _ _;rfl
 |cons y l d=>
  intro h z;rw[gD];split
  ·rename_i A;rw[d (List.pairwise_cons.1 h).2 z];have:y<c:=by simpa using A
   simp only[ah];constructor
   ·exact .inr
   ·rintro(rfl|h1)
    ·omega
    ·exact h1
  ·rfl
theorem qN{c:Nat}{l:List Nat}(h:l.Pairwise (· <·)):(l.dropWhile (fun y=>decide (y<c))).Pairwise (· <·):=h.sublist (List.dropWhile_sublist _)
theorem nz{c:Nat}:∀{l:List Nat} {x:Nat} {r:List Nat},l.dropWhile (fun y=>decide (y<c))=x::r→c≤x:=by
 intro l;induction l with
 |nil=>intro x r h;cases h
 |cons y l d=>
  intro x r h;rw[gD]at h;split at h
  ·exact d h
  ·rename_i z;cases h;simpa using z
theorem IsA.seek{c i:Nat}{l:List Nat}{av:List (List Nat)}{rem:List Nat}(h:IsA c av rem)(D:av[i]? =some l):IsA c (av.set i (l.dropWhile fun y=>decide (y<c))) rem:=by
 have z:=(List.getElem?_eq_some_iff.1 D).1;have Ia:=bY D;refine⟨fun k d=>?_,h.rasc,fun x=>?_⟩
 ·rcases oI z d with rfl|d
  ·exact qN (h.asc _ Ia)
  ·exact h.asc k d
 ·rw[h.mem x];constructor
  ·rintro⟨h1,A⟩;refine⟨h1,fun k d=>?_⟩;rcases oI z d with rfl|d
   ·exact(mu (h.asc _ Ia) h1).2 (A l Ia)
   ·exact A k d
  ·rintro⟨h1,A⟩;refine⟨h1,fun k d=>?_⟩;obtain⟨j,F,rfl⟩:=aQ d;by_cases e:j=i
   ·subst e;have hl:av[j]=l:=(List.getElem?_eq_some_iff.1 D).2;rw[hl];have G:=A (l.dropWhile fun y=>decide (y<c)) (List.mem_iff_getElem?.2 ⟨j,by rw[gU F]⟩);exact(mu (h.asc _ Ia) h1).1 G
   ·exact A av[j] (List.mem_iff_getElem?.2 ⟨j,by rw[iF (aF e)];exact az F⟩)
theorem IsA.done{c:Nat}{A:List (List Nat)}{rem:List Nat}(G5:A≠[])(h:IsA c (A.map (c::·)) rem):∃r,rem=c::r∧IsA c A r:=by
 have F:c∈rem:=(h.mem c).2 ⟨aw _,fun l hl=>by obtain⟨t,_,rfl⟩:=List.mem_map.1 hl;simp⟩;cases rem with
 |nil=>cases F
 |cons x r=>
  have U:=((h.mem x).1 (by simp)).1;have e:x=c:=by have:=nx h.rasc c F;omega
  subst e;refine⟨r,rfl,fun l hl=>?_,(List.pairwise_cons.1 h.rasc).2,fun y=>?_⟩
  ·exact(List.pairwise_cons.1 (h.asc (x::l) (List.mem_map.2 ⟨l,hl,rfl⟩))).2
  ·obtain⟨t0,z⟩:=fY _ G5;constructor
   ·intro G;have h1:=(h.mem y).1 (by simp[G]);have D:=(List.pairwise_cons.1 h.rasc).1 y G;refine⟨h1.1,fun l hl=>?_⟩;have:=h1.2 (x::l) (List.mem_map.2 ⟨l,hl,rfl⟩);simp only[ah]at this;rcases this with rfl|d
    ·omega
    ·exact d
   ·rintro⟨h1,D⟩;have d:y∈x::r:=(h.mem y).2 ⟨h1,fun l hl=>by obtain⟨t,O,rfl⟩:=List.mem_map.1 hl;simp[D t O]⟩;simp only[ah]at d;rcases d with rfl|d
    ·have h4:=(List.pairwise_cons.1 (h.asc (y::t0) (List.mem_map.2 ⟨t0,z,rfl⟩))).1 y (D t0 z);omega
    ·exact d
def dif(a b:List Nat):List Nat:=a.filter fun x=> !b.contains x
theorem sB(a:List Nat):dif a []=a:=by simp[dif]
theorem zO{x:Nat}{a b:List Nat}(h:∀y∈a,x≤y):dif a (b.dropWhile fun y=>decide (y<x))=dif a b:=by
 unfold dif;apply nf;intro y d;have A:=h y d;congr 1;rw[dR,kf,kf];induction b with
 |nil=>rfl
 |cons z b D=>
  rw[gD];split
  ·rename_i hz;rw[D];have:z<x:=by simpa using hz
   simp only[ah];constructor
   ·exact .inr
   ·rintro(rfl|h1)
    ·omega
    ·exact h1
  ·rfl
theorem DP{x y:Nat}{a b:List Nat}(hb:(y::b).Pairwise (· <·))(h:x<y):dif (x::a) (y::b)=x::dif a (y::b):=by unfold dif;rw[db,if_pos];simp only[Bool.not_eq_true',List.contains_eq_mem,decide_eq_false_iff_not];intro hm;have:=nx hb x hm;omega
theorem DO{x:Nat}{a b:List Nat}:dif (x::a) (x::b)=dif a (x::b):=by unfold dif;rw[db,if_neg (by simp)]
end Xc
namespace Go.Proofs.YtlgefdfflmgocaaGreatDoor
open Go Go.RowKit Xc Go.Proofs.Tryz
attribute [local go_sem ↓] Go.wp_at_zero Go.wp_at_succ
abbrev gK(X:Nat):Value:=.iface 267 (ptr X 0)
abbrev da:Value:=.iface 270 (.agg #[.nilIface])
theorem p8(v:Value)(w:World):(method 616 267 v "Next").run prog w=.ok (314,v) w:=by kernel_rfl
theorem sN(v:Value)(w:World):(method 616 267 v "At").run prog w=.ok (312,v) w:=by kernel_rfl
theorem uo(v:Value)(w:World):(method 616 267 v "Seek").run prog w=.ok (315,v) w:=by kernel_rfl
theorem sP(v:Value)(w:World):(method 616 267 v "Err").run prog w=.ok (313,v) w:=by kernel_rfl
theorem uu(v:Value)(w:World):(nilAhead 616 267 v "Seek").run prog w=.ok (some false) w:=by kernel_rfl
theorem Ay(v:Value)(w:World):(method 616 270 v "Next").run prog w=.ok (319,v) w:=by kernel_rfl
theorem Ed(v:Value)(w:World):(method 616 270 v "At").run prog w=.ok (317,v) w:=by kernel_rfl
theorem Co(v:Value)(w:World):(method 616 270 v "Err").run prog w=.ok (318,v) w:=by kernel_rfl
def za(w:World)(X g:Nat)(xs:List Nat)(e:Ending)(w':World):Prop:=e=.returned (.bool (!xs.isEmpty))∧(∀x t,xs=x::t→iE w' X g x t)∧Upd [X] w w'
theorem pG(X g cur:Nat)(xs:List Nat)(w:World)(h:iE w X g cur xs):Calls prog 314 #[ptr X 0] w (za w X g xs):=by
 cases xs with
 |nil=>
  refine(zC X g cur w h.b).mono ?_;rintro e w' ⟨rfl,rfl⟩;exact⟨rfl,by simp,(ae _).mono (by simp)⟩
 |cons x t=>
  have hlen:=h.len;have d:=h.lt x (by simp);simp only[aj]at hlen;refine(BL X g cur x t w h.b (by omega) h.ne (by omega)).mono ?_;rintro e w' ⟨rfl,hb,hu⟩;refine⟨rfl,fun y u e=>?_,hu⟩;cases e;exact⟨hb,h.ne,(List.pairwise_cons.1 h.asc).2,fun z hz=>h.lt z (by simp only[ah]at hz⊢;exact .inr hz),by omega⟩
theorem sq(X g cur:Nat)(xs:List Nat)(w:World)(h:iE w X g cur xs):Calls prog 312 #[ptr X 0] w fun e w'=>e=.returned (.int .u64 cur)∧w=w':=
 E5 X g cur xs w h.b (by have:=h.lt cur (by simp);omega)
def GY(x:Nat)(l:List Nat):List Nat:=l.dropWhile fun y=>decide (y<x)
structure dH(k:Nat)(w:World)(Y q g c:Nat)(Xs:List Nat)(av:List (List Nat)):Prop where
 blk:∃cap,w.heap[Y]? =some (.cells #[.slice (some ⟨q,0,none⟩) Xs.length cap,.int .u64 (c:Nat)] 285 (0,0))
 arr:∀i (h:i<Xs.length),w.cell? ⟨q,i,none⟩=some (gK Xs[i])
 len:av.length=Xs.length
 its:∀i (h:i<Xs.length),∃ci d,iE w Xs[i] g ci d∧av[i]? =some (if i<k then ci::d else d)
 dis:(Y::q::g::Xs).Nodup
 c:c<10000
 ne:Xs≠[]
 few:Xs.length≤12
section
variable {k:Nat} {w w':World} {Y q g c:Nat} {Xs:List Nat} {av:List (List Nat)}
theorem dH.mem_ne(h:dH k w Y q g c Xs av){X:Nat}(hX:X∈Xs):X≠Y∧X≠q∧X≠g:=by have d:=h.dis;simp only[a8,ah,not_or]at d;exact⟨fun e=>d.1.2.2 (e▸hX),fun e=>d.2.1.2 (e▸hX),fun e=>d.2.2.1 (e▸hX)⟩
theorem dH.at_ne(h:dH k w Y q g c Xs av){i j:Nat}(z:i<Xs.length)(A:j<Xs.length)(d:i≠j):Xs[i]≠Xs[j]:=by
 have D:=h.dis;simp only[a8]at D;have F:=List.pairwise_iff_getElem.1 D.2.2.2;rcases Nat.lt_or_gt_of_ne d with h1|h1
 ·exact F i j z A h1
 ·exact(F j i A z h1).symm
theorem dH.upd{L:List Nat}(h:dH k w Y q g c Xs av)(hu:Upd L w w')(hL:∀b∈L,b≠Y∧b≠q∧b≠g∧b∉Xs):dH k w' Y q g c Xs av:=by
 have hn:∀b,b=Y∨b=q∨b=g∨b∈Xs→b∉L:=fun b hb hm=>by
  obtain⟨h1,z,A,h4⟩:=hL b hm;rcases hb with rfl|rfl|rfl|hb
  ·exact h1 rfl
  ·exact z rfl
  ·exact A rfl
  ·exact h4 hb
 obtain⟨cap,hb⟩:=h.blk;exact⟨⟨cap,hu.blk hb (hn Y (.inl rfl))⟩,fun i d=>hu.cell (hn q (.inr (.inl rfl))) (h.arr i d),h.len,fun i d=>by obtain⟨ci,D,hb,F⟩:=h.its i d;exact⟨ci,D,hb.upd hu (hn _ (.inr (.inr (.inr (aq d))))) (hn g (.inr (.inr (.inl rfl)))),F⟩,h.dis,h.c,h.ne,h.few⟩
theorem dH.new(h:dH k w Y q g c Xs av)(hu:Upd [] w w'):dH k w' Y q g c Xs av:=h.upd hu (by simp)
theorem dH.step{k' i y:Nat}{t:List Nat}(h:dH k w Y q g c Xs av)(z:i<Xs.length)(hu:Upd [Xs[i]] w w')(hb:iE w' Xs[i] g y t)(F:∀j,j≠i→(j<k'↔j<k)):dH k' w' Y q g c Xs (av.set i (if i<k' then y::t else t)):=by
 have G5:=h.mem_ne (aq z);obtain⟨cap,A⟩:=h.blk;refine⟨⟨cap,hu.blk A (by simpa using aF G5.1)⟩,fun j d=>hu.cell (by simpa using aF G5.2.1) (h.arr j d),by rw[List.length_set];exact h.len,fun j d=>?_,h.dis,h.c,h.ne,h.few⟩;by_cases e:j=i
 ·subst e;exact⟨y,t,hb,gU (by rw[h.len];exact z)⟩
 ·obtain⟨ci,G,D,O⟩:=h.its j d;refine⟨ci,G,D.upd hu (by simpa using h.at_ne d z e) (by simpa using aF G5.2.2),?_⟩;rw[iF (aF e),O];by_cases h1:j<k
  ·rw[if_pos h1,if_pos ((F j e).2 h1)]
  ·rw[if_neg h1,if_neg (fun U=>h1 ((F j e).1 U))]
theorem dH.cur{y:Nat}(h:dH k w Y q g c Xs av)(D:y<10000):dH k (w.setCell ⟨Y,1,none⟩ (.int .u64 (y:Nat))) Y q g y Xs av∧Upd [Y] w (w.setCell ⟨Y,1,none⟩ (.int .u64 (y:Nat))):=by have z:Upd [Y] w (w.setCell ⟨Y,1,none⟩ (.int .u64 (y:Nat))):=((ae w).mono (by simp)).setCell (by simp) _;have A:=h.dis;simp only[a8,ah,not_or]at A;obtain⟨cap,hb⟩:=h.blk;refine⟨⟨⟨cap,au hb 1 _⟩,fun i d=>z.cell (by simpa using fun e=>A.1.1 e.symm) (h.arr i d),h.len,fun i d=>?_,h.dis,D,h.ne,h.few⟩,z⟩;obtain⟨ci,F,hb,G⟩:=h.its i d;exact⟨ci,F,hb.upd z (by simpa using(h.mem_ne (aq d)).1) (by simpa using fun e=>A.1.2.1 e.symm),G⟩
theorem dH.o(h:dH Xs.length w Y q g c Xs av)(G:∀i,i<Xs.length→∃t,av[i]? =some (c::t)):∃d,av=d.map (c::·)∧dH 0 w Y q g c Xs d∧d≠[]:=by
 have A:∀l:List (List Nat),(∀i,i<l.length→∃t,l[i]? =some (c::t))→∃d:List (List Nat),l=d.map (c::·):=by
  intro l;induction l with
  |nil=>intro _;exact⟨[],rfl⟩
  |cons x l O=>
   intro hl;obtain⟨t,F⟩:=hl 0 (by simp);obtain⟨d,e⟩:=O (fun i z=>by have:=hl (i+1) (by simpa using z);simpa using this);simp only[gH,aM]at F;exact⟨t::d,by rw[F,e];rfl⟩
 obtain⟨d,e⟩:=A av (fun i z=>G i (by rw[←h.len];exact z));have hlen:d.length=Xs.length:=by rw[←h.len,e,aB]
 refine⟨d,e,⟨h.blk,h.arr,hlen,fun i z=>?_,h.dis,h.c,h.ne,h.few⟩,fun U=>?_⟩
 ·obtain⟨ci,V,hb,D⟩:=h.its i z;refine⟨ci,V,hb,?_⟩;have hit:i<d.length:=by omega
  rw[e,cx,az hit,if_pos z]at D;simp only[gh,aM,dS]at D;simp[az hit,D.2]
 ·rw[U]at hlen;exact h.ne (dh (by simpa using hlen.symm))
end
def GZ(w:World)(Y:Nat):Nat:=match w.cell? ⟨Y,1,none⟩with|some (.int _ n)=>n.toNat|_=>0
structure my(w:World)(Y q:Nat)(Xs:List Nat):Prop where
 blk:∃cap c,w.heap[Y]? =some (.cells #[.slice (some ⟨q,0,none⟩) Xs.length cap,.int .u64 c] 285 (0,0))
 arr:∀i (h:i<Xs.length),w.cell? ⟨q,i,none⟩=some (gK Xs[i])
 few:Xs.length≤12
theorem dH.shape{k:Nat}{w:World}{Y q g c:Nat}{Xs:List Nat}{av:List (List Nat)}(h:dH k w Y q g c Xs av):my w Y q Xs:=by obtain⟨cap,hb⟩:=h.blk;exact⟨⟨cap,_,hb⟩,h.arr,h.few⟩
theorem my.upd{L:List Nat}{w w':World}{Y q:Nat}{Xs:List Nat}(h:my w Y q Xs)(hu:Upd L w w')(h1:Y∉L)(d:q∉L):my w' Y q Xs:=by obtain⟨cap,c,hb⟩:=h.blk;exact⟨⟨cap,c,hu.blk hb h1⟩,fun i z=>hu.cell d (h.arr i z),h.few⟩
def ve(w:World)(Y q g:Nat)(Xs:List Nat)(rem:List Nat)(e:Ending)(w':World):Prop:=
 e=.returned (.bool (!rem.isEmpty))∧(∀x r,rem=x::r→∃d,dH 0 w' Y q g x Xs d∧IsA x d r)∧my w' Y q Xs∧Upd (Y::Xs) w w'
def j7(w wr:World)(Y q g c:Nat)(Xs:List Nat)(av:List (List Nat))(rem:List Nat):Prop:=dH Xs.length wr Y q g c Xs av∧IsA c av rem∧Upd (Y::Xs) w wr
theorem j7.drew{w wr:World}{Y q g c:Nat}{Xs:List Nat}{av:List (List Nat)}{rem:List Nat}(h:j7 w wr Y q g c Xs av rem):j7 w wr.drew Y q g c Xs av rem:=⟨h.1.new (ae _).drew,h.2.1,h.2.2.drew⟩
def rW(w wr:World)(Y q g c:Nat)(Xs:List Nat)(av:List (List Nat))(rem:List Nat):Prop:=Hid (j7 w wr Y q g c Xs av rem)
theorem rW.drew{w wr:World}{Y q g c:Nat}{Xs:List Nat}{av:List (List Nat)}{rem:List Nat}(h:rW w wr Y q g c Xs av rem):Hid (j7 w wr.drew Y q g c Xs av rem):=aa (Hid.o h).drew
def rX(w wr:World)(Y q g c:Nat)(Xs:List Nat)(av:List (List Nat))(rem:List Nat)(k:Nat):Prop:=Hid (j7 w wr Y q g c Xs av rem∧∀i,i<k→∃t,av[i]? =some (c::t))
theorem rX.drew{w wr:World}{Y q g c k:Nat}{Xs:List Nat}{av:List (List Nat)}{rem:List Nat}(h:rX w wr Y q g c Xs av rem k):Hid (j7 w wr.drew Y q g c Xs av rem∧∀i,i<k→∃t,av[i]? =some (c::t)):=aa ⟨(Hid.o h).1.drew,(Hid.o h).2⟩
theorem Ci(w:World)(Y q g c0:Nat)(Xs:List Nat)(F:List (List Nat))(rem:List Nat)(h:dH Xs.length w Y q g c0 Xs F)(ha:IsA c0 F rem):
 Calls prog 285 #[ptr Y 0] w (ve w Y q g Xs rem):=by
 have a3:Hid (j7 w w Y q g c0 Xs F rem):=aa ⟨h,ha,(ae _).mono (by simp)⟩;have a9:=h.c;obtain⟨n,hn⟩:∃n,n=Xs.length:=⟨_,rfl⟩;have a4:=h.few;rw[←hn]at a4;have HN:=aa hn;have br:=uo;have bv:=sN;have bw:=uu;clear h ha hn;go_enter func285,ntmps285
 go_wp2
 go_step3
 go_wp2
 go_step3
 go_wp2
 go_loopg [2] (10000-c0) (fun gg s2 wx=>∃c av,s2=.bool false∧gg=10000-c∧Hid (j7 w wx Y q g c Xs av rem))
 case atStart=>exact⟨c0,F,rfl,rfl,a3⟩
 case round=>
  obtain⟨c,av,rfl,bA,HR⟩:=hrel;clear a3 a9;obtain⟨cap,hb⟩:=HR.o.1.blk;have hc:=HR.o.1.c;rw[←HN.o]at hb;have y0:wr.cell? ⟨Y,0,none⟩=some (.slice (some ⟨q,0,none⟩) n cap):=af hb 0;clear hb;go_wp2_with fail;go_loopg [2,10] n (fun gi s2 bb wx=>∃k d,s2=.bool false∧bb=.int .i64 (k:Nat)∧k≤n∧gi=n-k∧Hid (j7 w wx Y q g c Xs d rem∧∀i,i<k→∃t,d[i]? =some (c::t)))
  case atStart=>exact⟨0,av,rfl,rfl,ay _,rfl,⟨HR.o,by omega⟩⟩
  case round=>
   obtain⟨k,d,rfl,rfl,bB,bE,z⟩:=hrel;clear y0;by_cases hk:k<n
   ·have A:k<Xs.length:=by rw[←HN.o];exact hk
    obtain⟨X,hX⟩:∃X,X=Xs[k]:=⟨_,rfl⟩;have ha:=z.o.1.1.arr k A;obtain⟨ci,ti,G,a0⟩:=z.o.1.1.its k A;rw[if_pos (by rw[←HN.o];exact hk)]at a0;rw[←hX]at ha G;obtain⟨G6,hb⟩:=z.o.1.1.blk;have y1:wr.cell? ⟨Y,1,none⟩=some (.int .u64 (c:Nat)):=af hb 1;have a5:X≠Y:=by rw[hX];exact(z.o.1.1.mem_ne (aq A)).1
    have bK:=G.lt ci (by simp);have HB:=aa G;have HA:=aa (And.intro hX a0);have bd:(k:Int)<(n:Int):=by omega
    clear G a0 hX hb;have HS:=aa (wS X g ci c ti _ (HB.o.upd ((ae wr).drew) (by simp) (by simp)) hc);unfold zf at HS;rcases hd:(ci::ti).dropWhile (fun y=>decide (y<c))with _|⟨y,t⟩
    ·rw[hd]at HS;have V:rem=[]:=by have h1:=z.o.1.2.1.seek HA.o.2;rw[hd]at h1;exact h1.empty (i:=k) (gU (by rw[z.o.1.1.len];exact A))
     have W:=aa V;clear V hd;go_wp2_with fail;go_region_with (go_at_call 315;refine HS.o.mono ?_;rintro e w2 ⟨rfl,_,D⟩;have O:=aa (cz D);clear D)
     all_goals
      go_wp2_with fail;try rw[Exit.noGoto_ret]
      go_ret;exact⟨by rw[W.o];rfl,fun x r h=>(by rw[W.o]at h;cases h),z.o.1.1.shape.upd O.o (by simpa using aF a5) (by have:=(z.o.1.1.mem_ne (aq A)).2.1;rw[HA.o.1];simpa using aF this),z.o.1.2.2.then O.o (fun b hb _=>by simp only[ag]at hb;subst hb;rw[HA.o.1];simp)⟩
    ·rw[hd]at HS;have be:c≤y:=nz hd;have Hd:=aa hd;clear hd;go_wp2_with fail;go_cut [14,23]from 14 to 23 (fun v v' wx=>v=gK X∧v'=.bool false∧iE wx X g y t∧Upd [X] wr wx)
     case first=>
      go_region_with (go_at_call 315;refine HS.o.mono ?_;rintro e w2 ⟨rfl,hb2,D⟩;have O:=aa (cz D);have bg:=aa (hb2 y t rfl);clear D hb2)
      all_goals
       go_wp2_with fail;go_meet
       exact⟨rfl,rfl,bg.o,O.o⟩
     case rest=>
      obtain⟨rfl,rfl,hb2,U⟩:=hcut;have a1:dH Xs.length wc Y q g c Xs (d.set k (y::t)):=by have:=z.o.1.1.step (k':=Xs.length) A (by rw[←HA.o.1];exact U) (by rw[←HA.o.1];exact hb2) (fun _ _=>Iff.rfl);rwa [if_pos A]at this
      have a6:IsA c (d.set k (y::t)) rem:=by have:=z.o.1.2.1.seek HA.o.2;rwa [Hd.o]at this
      have D:Upd (Y::Xs) w wc:=z.o.1.2.2.then U (fun b hb _=>by simp only[ag]at hb;subst hb;rw[HA.o.1];simp);have ad:(d.set k (y::t))[k]? =some (y::t):=gU (by rw[z.o.1.1.len];exact A);have bL:=U.cell (by simpa using aF a5) y1;have f1:wc.frozen? ⟨Y,1,none⟩=false:=by obtain⟨cap3,hb⟩:=a1.blk;exact ao hb 1
      have bl:=hb2.lt y (by simp);have KA:=aa (fun(w':World) (hu:Upd [] wc w')=>sq X g y t w' (hb2.upd hu (by simp) (by simp)));have a7:=aa (And.intro a1 (And.intro a6 (And.intro D ad)));clear y1 a1 a6 D ad hb2 U;by_cases bM:c<y
      ·have bn:(c:Int)<(y:Int):=by omega
       have a2:rW w (wc.setCell ⟨Y,1,none⟩ (.int .u64 (y:Nat))) Y q g y Xs (d.set k (y::t)) rem:=by obtain⟨h1,h2,h3,h4⟩:=a7.o;have h5:=h1.cur bl;exact aa ⟨h5.1,h2.rise_le h4 be,h3.then h5.2 (by simp)⟩
       go_wp2_with fail;go_region_held3 (fun w'=>w'.cell? ⟨Y,1,none⟩=some (.int .u64 (c:Nat))) (go_keep) ((go_at_call 312;refine(KA.o _ (by first|exact ae _|exact(ae _).drew)).mono ?_;rintro e w3 ⟨rfl,rfl⟩))
       all_goals
        go_wp2_with (go_at_call 312;refine(KA.o _ (by first|exact ae _|exact(ae _).drew)).mono ?_;rintro e w3 ⟨rfl,rfl⟩);go_roundg (10000-y)
        case measure=>omega
        case rel=>exact⟨y,d.set k (y::t),rfl,rfl,a2.drew⟩
      ·obtain rfl:c=y:=by omega
       have bn:¬(c:Int)<(c:Int):=by omega
       have a2:rX w wc Y q g c Xs (d.set k (c::t)) rem (k+1):=by
        obtain⟨h1,h2,h3,h4⟩:=a7.o;refine aa ⟨⟨h1,h2,h3⟩,fun i hi=>?_⟩;by_cases e:i=k
        ·subst e;exact⟨t,h4⟩
        ·rw[iF (aF e)];exact z.o.2 i (by omega)
       go_wp2_with fail;go_region_held3 (fun w'=>w'.cell? ⟨Y,1,none⟩=some (.int .u64 (c:Nat))) (go_keep) ((go_at_call 312;refine(KA.o _ (by first|exact ae _|exact(ae _).drew)).mono ?_;rintro e w3 ⟨rfl,rfl⟩))
       all_goals
        go_wp2_with fail;go_roundg (n-(k+1))
        case measure=>omega
        case rel=>exact⟨k+1,d.set k (c::t),rfl,by go_num,by omega,rfl,a2.drew⟩
   ·obtain rfl:k=n:=by omega
    have bd:¬(k:Int)<(k:Int):=by omega
    obtain⟨tl,e1,e2,e3⟩:=(show dH Xs.length wr Y q g c Xs d from z.o.1.1).o (fun i hi=>z.o.2 i (by rw[HN.o];exact hi));have hA:=z.o.1.2.1;rw[e1]at hA;obtain⟨r,e4,e5⟩:=hA.done e3;have HE:=aa (And.intro e2 (And.intro e4 e5));clear e1 e2 e3 e4 e5 hA;go_wp2_with fail;try rw[Exit.noGoto_ret]
    go_ret;exact⟨by rw[HE.o.2.1];rfl,fun x r' h=>(by rw[HE.o.2.1]at h;cases h;exact⟨tl,HE.o.1,HE.o.2.2⟩),HE.o.1.shape,z.o.1.2.2⟩
def mz(w wr:World)(Y q g c k:Nat)(Xs:List Nat)(av:List (List Nat))(rem:List Nat):Prop:=Hid (dH k wr Y q g c Xs av∧IsA c av rem∧Upd (Y::Xs) w wr)
theorem mz.drew{w wr:World}{Y q g c k:Nat}{Xs:List Nat}{av:List (List Nat)}{rem:List Nat}(h:mz w wr Y q g c k Xs av rem):mz w wr.drew Y q g c k Xs av rem:=aa ⟨(Hid.o h).1.new (ae _).drew,(Hid.o h).2.1,(Hid.o h).2.2.drew⟩
theorem yf(w:World)(Y q g c0:Nat)(Xs:List Nat)(av:List (List Nat))(rem:List Nat)(h:dH 0 w Y q g c0 Xs av)(ha:IsA c0 av rem):
 Calls prog 283 #[ptr Y 0] w (ve w Y q g Xs rem):=by
 have ad:mz w w Y q g c0 0 Xs av rem:=aa ⟨h,ha,(ae _).mono (by simp)⟩;obtain⟨n,hn⟩:∃n,n=Xs.length:=⟨_,rfl⟩;have a0:=h.few;rw[←hn]at a0;have HN:=aa hn;have bb:=p8;have bd:=sN;obtain⟨cap,hb⟩:=h.blk;rw[←hn]at hb;have y0:w.cell? ⟨Y,0,none⟩=some (.slice (some ⟨q,0,none⟩) n cap):=af hb 0;clear h ha hn hb;go_enter func283,ntmps283
 go_wp2
 go_loopg [2,10] n (fun gg s2 a4 wx=>∃k c,s2=.bool false∧a4=.int .i64 (k:Nat)∧k≤n∧gg=n-k∧mz w wx Y q g c k Xs av rem)
 case atStart=>exact⟨0,c0,rfl,rfl,ay _,rfl,ad⟩
 case round=>
  obtain⟨k,c,rfl,rfl,be,bg,d⟩:=hrel;have d:Hid _:=d;clear ad y0;by_cases hk:k<n
  ·have A:k<Xs.length:=by rw[←HN.o];exact hk
   obtain⟨X,hX⟩:∃X,X=Xs[k]:=⟨_,rfl⟩;have ha:=d.o.1.arr k A;obtain⟨ci,ti,O,D⟩:=d.o.1.its k A;rw[if_neg (cR k)]at D;rw[←hX]at ha O;obtain⟨G6,hb⟩:=d.o.1.blk;have y1:wr.cell? ⟨Y,1,none⟩=some (.int .u64 (c:Nat)):=af hb 1;have a1:X≠Y:=by rw[hX];exact(d.o.1.mem_ne (aq A)).1
   have hc:=d.o.1.c;have HB:=aa O;have U:=aa (And.intro hX D);have a5:(k:Int)<(n:Int):=by omega
   clear O hX hb;have HS:=aa (pG X g ci ti wr HB.o);unfold za at HS;cases ti with
   |nil=>
    have G:=aa (d.o.2.1.empty D);clear D;go_wp2_with fail;refine HS.o.mono ?_;rintro e w2 ⟨rfl,_,F⟩;have a2:=aa F;clear F;go_wp2_with fail;go_ret;exact⟨by rw[G.o];rfl,fun x r h=>(by rw[G.o]at h;cases h),d.o.1.shape.upd a2.o (by simpa using aF a1) (by have:=(d.o.1.mem_ne (aq A)).2.1;rw[U.o.1];simpa using aF this),d.o.2.2.then a2.o (fun b hb _=>by simp only[ag]at hb;subst hb;rw[U.o.1];simp)⟩
   |cons y t=>
    clear D;go_wp2_with fail;refine HS.o.mono ?_;rintro e w2 ⟨rfl,hb2,z⟩;have hb2:=hb2 y t rfl;have V:dH (k+1) w2 Y q g c Xs av:=by
     have:=d.o.1.step (k':=k+1) A (by rw[←U.o.1];exact z) (by rw[←U.o.1];exact hb2) (fun j hj=>by omega);rw[if_pos (Nat.lt_succ_self k)]at this;have e:av.set k (y::t)=av:=by
      apply List.ext_getElem?;intro i;by_cases hi:i=k
      ·subst hi;rw[gU (by rw[d.o.1.len];exact A),U.o.2]
      ·rw[iF (aF hi)]
     rwa [e]at this
    have F:Upd (Y::Xs) w w2:=d.o.2.2.then z (fun b hb _=>by simp only[ag]at hb;subst hb;rw[U.o.1];simp);have bl:=z.cell (by simpa using aF a1) y1;have f1:w2.frozen? ⟨Y,1,none⟩=false:=by obtain⟨cap3,hb⟩:=V.blk;exact ao hb 1
    have a6:=hb2.lt y (by simp);have KA:=aa (fun(w':World) (hu:Upd [] w2 w')=>sq X g y t w' (hb2.upd hu (by simp) (by simp)));have a3:=aa (And.intro V (And.intro d.o.2.1 (And.intro F U.o.2)));clear y1 V F hb2 z;by_cases a7:c<y
    ·have a9:(c:Int)<(y:Int):=by omega
     have W:mz w (w2.setCell ⟨Y,1,none⟩ (.int .u64 (y:Nat))) Y q g y (k+1) Xs av rem:=by obtain⟨h1,h2,h3,h4⟩:=a3.o;have h5:=h1.cur a6;exact aa ⟨h5.1,h2.rise_le h4 (Nat.le_of_lt a7),h3.then h5.2 (by simp)⟩
     go_wp2_with fail;go_region_held3 (fun w'=>w'.cell? ⟨Y,1,none⟩=some (.int .u64 (c:Nat))) (go_keep) ((go_at_call 312;refine(KA.o _ (by first|exact ae _|exact(ae _).drew)).mono ?_;rintro e w3 ⟨rfl,rfl⟩))
     all_goals
      go_wp2_with (go_at_call 312;refine(KA.o _ (by first|exact ae _|exact(ae _).drew)).mono ?_;rintro e w3 ⟨rfl,rfl⟩);go_roundg (n-(k+1))
      case measure=>omega
      case rel=>exact⟨k+1,y,rfl,by go_num,by omega,rfl,W.drew⟩
    ·have a9:¬(c:Int)<(y:Int):=by omega
     have W:mz w w2 Y q g c (k+1) Xs av rem:=by obtain⟨h1,h2,h3,h4⟩:=a3.o;exact aa ⟨h1,h2,h3⟩
     go_wp2_with fail;go_region_held3 (fun w'=>w'.cell? ⟨Y,1,none⟩=some (.int .u64 (c:Nat))) (go_keep) ((go_at_call 312;refine(KA.o _ (by first|exact ae _|exact(ae _).drew)).mono ?_;rintro e w3 ⟨rfl,rfl⟩))
     all_goals
      go_wp2_with fail;go_roundg (n-(k+1))
      case measure=>omega
      case rel=>exact⟨k+1,c,rfl,by go_num,by omega,rfl,W.drew⟩
  ·obtain rfl:k=n:=by omega
   have a5:¬(k:Int)<(k:Int):=by omega
   have HD:=aa (Ci wr Y q g c Xs av rem (by rw[←HN.o];exact d.o.1) d.o.2.1);unfold ve at HD;go_wp2_with fail;refine HD.o.mono ?_;rintro e w2 ⟨rfl,h2,hE,z⟩;have HQ:=aa (And.intro h2 (And.intro hE (d.o.2.2.then z (fun b hb _=>hb))));clear h2 z hE;go_wp2_with fail;go_ret;exact⟨rfl,HQ.o.1,HQ.o.2.1,HQ.o.2.2⟩
theorem Ch{k:Nat}(w:World)(Y q g c:Nat)(Xs:List Nat)(av:List (List Nat))(h:dH k w Y q g c Xs av):
 Calls prog 281 #[ptr Y 0] w fun e w'=>e=.returned (.int .u64 (c:Nat))∧w=w':=by
 obtain⟨cap,hb⟩:=h.blk;have d:w.cell? ⟨Y,1,none⟩=some (.int .u64 (c:Nat)):=af hb 1;clear h hb;go_enter func281,ntmps281
 go_wp2_with fail;go_ret;exact⟨rfl,rfl⟩
theorem Ai(w:World)(Y q:Nat)(Xs:List Nat)(h:my w Y q Xs):
 Calls prog 282 #[ptr Y 0] w fun e w'=>e=.returned .nilIface∧w=w':=by
 obtain⟨n,hn⟩:∃n,n=Xs.length:=⟨_,rfl⟩;have d:=h.few;rw[←hn]at d;have F:=aa hn;have G:=sP;obtain⟨cap,c,hb⟩:=h.blk;rw[←hn]at hb;have y0:w.cell? ⟨Y,0,none⟩=some (.slice (some ⟨q,0,none⟩) n cap):=af hb 0;have O:=aa h.arr;clear h hn hb;go_enter func282,ntmps282
 go_wp2
 go_loopg [2,10] n (fun U s2 z V=>∃k,s2=.nilIface∧z=.int .i64 (k:Nat)∧k≤n∧U=n-k∧V=w)
 case atStart=>exact⟨0,rfl,rfl,ay _,rfl,rfl⟩
 case round=>
  obtain⟨k,rfl,rfl,W,ad,rfl⟩:=hrel;by_cases hk:k<n
  ·have A:k<Xs.length:=by rw[←F.o];exact hk
   have ha:=O.o k A;obtain⟨X,hX⟩:∃X,X=Xs[k]:=⟨_,rfl⟩;rw[←hX]at ha;have D:(k:Int)<(n:Int):=by omega
   clear hX;go_wp2_with (go_at_call 313;refine(vz X _).mono ?_;rintro e w3 ⟨rfl,rfl⟩);go_roundg (n-(k+1))
   case measure=>omega
   case rel=>exact⟨k+1,rfl,by go_num,by omega,rfl,rfl⟩
  ·obtain rfl:k=n:=by omega
   have D:¬(k:Int)<(k:Int):=by omega
   go_wp2_with fail;go_ret;exact⟨rfl,rfl⟩
end Go.Proofs.YtlgefdfflmgocaaGreatDoor
