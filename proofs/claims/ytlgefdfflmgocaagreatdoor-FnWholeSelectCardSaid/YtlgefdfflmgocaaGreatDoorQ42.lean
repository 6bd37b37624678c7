import Derived.Test.YtlgefdfflmgocaaGreatDoorQ41
import Derived.Deep.AppendSrc
import Derived.Deep.Upon
set_option linter.all false
set_option maxRecDepth 100000
set_option maxHeartbeats 4000000
namespace Go.Proofs.YtlgefdfflmgocaaGreatDoor
open Go Go.RowKit Xc Go.Proofs.Tryz
attribute [local go_sem ↓] Go.wp_at_zero Go.wp_at_succ
def eu(l:List Int):List Value:=l.map (Value.int .i64)
theorem ud(l:List Int):∀u∈eu l,u.oneCell'=true:=fun u hu=>by obtain⟨x,_,rfl⟩:=List.mem_map.1 hu;rfl
theorem tZ(m:List Int)(t:Int)(a:Nat):eu (m.take a++t::m.drop a)=eu (m.take a)++[.int .i64 t]++eu (m.drop a):=by simp[eu]
theorem rA(m:List Int)(x:Int)(k:Nat):(m.take k++x::m.drop k).Perm (m++[x]):=by refine List.perm_middle.trans ?_;rw[aI];exact(kg (l₁:=[x]) (l₂:=m))
theorem rB{m:List Int}{x:Int}{k:Nat}(hm:m.Pairwise (· <·))(O:k≤m.length)(h1:∀j (h:j<m.length),k≤j→x<m[j])(G:∀_:0<k,∃h:k-1<m.length,m[k-1]<x):(m.take k++x::m.drop k).Pairwise (· <·):=by
 rw[List.pairwise_append];refine⟨hm.sublist (List.take_sublist _ _),?_,?_⟩
 ·rw[List.pairwise_cons];refine⟨fun y A=>?_,hm.sublist (List.drop_sublist _ _)⟩;obtain⟨j,D,rfl⟩:=aQ A;rw[ng];exact h1 _ _ (by omega)
 ·intro y A z hz;obtain⟨j,D,rfl⟩:=aQ A;rw[aZ]at D;rw[jO];have d:m[j]'(by omega)<x:=by
   obtain⟨h,F⟩:=G (by omega);by_cases e:j=k-1
   ·subst e;exact F
   ·exact Int.lt_trans (List.pairwise_iff_getElem.1 hm j (k-1) (by omega) h (by omega)) F
  rcases List.mem_cons.1 hz with rfl|hz
  ·exact d
  ·obtain⟨i,U,rfl⟩:=aQ hz;rw[ng];exact Int.lt_trans d (h1 _ _ (by omega))
theorem Tryz.infoI2:(Tryz.prog.info? 2).map (fun i=>(i.zero,i.size,i.bytes))=some (some (.int .i64 0),1,8):=by kernel_rfl
theorem BJ{b0 w:World}{v:Value}{n:Nat}{xs:List Value}(h:aP b0 w 2 1 n v xs)(U:b0.heap.size≤w.heap.size)(ob:Option Addr)(m c:Nat)(news:List Value)(hl:news.length=m*1)(V:∀j u,news[j]? =some u→∃a,ob=some a∧w.cell? (a.add j)=some u)(h1:∀u∈news,u.oneCell'=true)(G5:ob=none→m=0)(hn:n+m≤1000):
 ∃v' w2,(Builtin.append_ #[112,112] 112 #[v,.slice ob m c]).run prog w=.ok v' w2∧aP b0 w2 2 1 (n+m) v' (xs++news)∧Upd v.ownBlock.toList w w2∧∀b,v'.ownBlock=some b→v.ownBlock=some b∨w.heap.size≤b:=by
 obtain⟨i0,O,A,D,F⟩:=info_parts Tryz.infoI2;cases ob with
 |none=>
  have hm:=G5 rfl;subst hm;have d:news=[]:=by cases news with|nil=>rfl|cons a l=>simp at hl
  subst d;obtain⟨b,z,e,hle⟩:∃b z,v=.slice b n z∧n≤z:=by
   rcases h.1.2 with⟨e,e2⟩|⟨g,cap,cur,e,_,_,G,_⟩
   ·exact⟨none,0,by rw[e,e2],by omega⟩
   ·exact⟨_,cap,e,G⟩
  refine⟨v,w,?_,by simpa using h,(ae w).mono (by simp),fun b hb=>.inl hb⟩;have hs:Src prog i0.size 112 (.slice none 0 c) 0 [] w:=Src.ofNil w underlying112 c;rw[e];exact run_append_nothing w 112 112 112 2 i0 underlying112 O b n z hle (.slice none 0 c) hs
 |some a=>
  obtain⟨v',w',hr,G,W,h4⟩:=iz (P:=prog) w 112 112 2 i0 _ 1 8 underlying112 O A D F rfl (by decide) v n xs h.1 a m c news hl (fun j u hu=>by obtain⟨a',e,h⟩:=V j u hu;cases e;exact h) h1 (by unfold maxLen;omega) (by omega);refine⟨v',w',hr,⟨G,fun b hb=>?_⟩,?_,fun b hb=>?_⟩
  ·rcases h4 with h4|⟨g,h4,h5⟩
   ·exact h.2 b (h4▸hb)
   ·rw[hb]at h4;cases h4;omega
  ·exact((ae w).mono (by simp)).grown W (fun k hk _=>by rw[hk];simp)
  ·rcases h4 with h4|⟨g,h4,h5⟩
   ·exact .inl (h4▸hb)
   ·rw[hb]at h4;cases h4;exact .inr h5
theorem Dd{b0 w:World}{A:Nat}(d:b0.heap.size≤A)(h:w.heap[A]? =some (.cells #[] 2 (0,0))):aP b0 w 2 1 0 (.slice (some ⟨A,0,none⟩) 0 0) []:=
 ⟨⟨rfl,.inr ⟨A,0,#[],rfl,ay _,h,aw _,by unfold maxLen;omega,rfl,rfl⟩⟩,fun b hb=>by simp only[Value.ownBlock,aM]at hb;omega⟩
theorem FG{w:World}{B:Nat}{t:Int}(h:w.heap[B]? =some (.cells #[.int .i64 t] 2 (0,0))):∀j u,[Value.int .i64 t][j]? =some u→∃a,some (⟨B,0,none⟩:Addr)=some a∧w.cell? (a.add j)=some u:=fun j u d=>by refine⟨_,rfl,?_⟩;rw[aO,af h,aK];simpa using d
theorem dy{w w':World}{o:Obj}{A:Nat}(hu:Upd [] (w.alloc o) w')(d:A=w.heap.size):w'.heap[A]? =some o:=by subst d;exact hu.blk (an _) (by simp)
theorem kF{ops:Array Oper}{o:Oper}{a:Act}{w:World}{K:Act→World→Prop}{Q:Exit→Act→World→Prop}{E:Prop}
 (hg:o.guard=none)(s x:Operand)(z:o.op=Op.call {callee:=Callee.builtin Builtin.append,args:= #[s,x],argTypes:= #[112,112]})(A:o.type=112)
 (b0:World)(d:Value)(ob:Option Addr)(m c:Nat)(hs:a.eval s=d)(O:a.eval x=.slice ob m c)(n:Nat)(xs news:List Value)
 (h:aP b0 w 2 1 n d xs)(hu:Upd [] b0 w)(hl:news.length=m*1)(U:∀j u,news[j]? =some u→∃a,ob=some a∧w.cell? (a.add j)=some u)(h1:∀u∈news,u.oneCell'=true)(G5:ob=none→m=0)(hn:n+m≤1000)
 (hK:∀v' w',aP b0 w' 2 1 (n+m) v' (xs++news)→Upd [] b0 w'→(∀B o,w.heap[B]? =some o→d.ownBlock≠some B→w'.heap[B]? =some o)→(∀b,v'.ownBlock=some b→d.ownBlock=some b∨w.heap.size≤b)→(∃b' D,v'=.slice b' (n+m) D)→K (a.put o.dst v') w'):
 if Region.wanted o (yielded ops a.tmps)=true then Oper.wp prog o a w K Q else E:=by
 obtain⟨v',w',hr,F,G,h4⟩:=BJ h hu.size ob m c news hl U h1 G5 hn;refine df hg s x _ z d (.slice ob m c) v' w' hs O (by rw[A];exact hr) (hK v' w' F (hu.then G (fun b hb hl=>?_)) (fun B o hB G5=>G.blk hB (fun hm=>G5 (by simpa using hm))) h4 ?_)
 ·have:=h.2 b (by simpa using hb);omega
 ·rcases F.shape with⟨e1,e2,_⟩|⟨g,D,e1,_⟩
  ·exact⟨none,0,by rw[e1,e2]⟩
  ·exact⟨_,D,e1⟩
theorem Df{w A:World}{m:List Int}{n a c:Nat}{b:Option Addr}(h:aP w A 2 1 n (.slice b n c) (eu m)):∀w',Upd [] A w'→∀j u,(eu (m.take a))[j]? =some u→∃x,b=some x∧w'.cell? (x.add j)=some u:=fun w' z j u D=>by
 have e:eu m=eu (m.take a)++eu (m.drop a):=by unfold eu;rw[←aX,aI]
 have d:(eu m)[j]? =some u:=by obtain⟨hl,_⟩:=List.getElem?_eq_some_iff.1 D;rw[e,bH hl];exact D
 rcases h.shape with⟨_,_,e3⟩|⟨g,F,e1,_⟩
 ·rw[e3]at d;simp at d
 ·simp only[bx]at e1;obtain⟨rfl,-,rfl⟩:=e1;refine⟨_,rfl,z.cell (by simp) ?_⟩;exact h.1.cells (g:=g) rfl j u d
theorem C5{w d:World}{m:List Int}{n a c:Nat}{b:Option Addr}(h:aP w d 2 1 n (.slice b n c) (eu m))(F:n≤c)(G:a≤n):∀w',Upd [] d w'→∀j u,(eu (m.drop a))[j]? =some u→∃x,(if c=a then b else Option.map (fun x=>x.add a) b)=some x∧w'.cell? (x.add j)=some u:=fun w' z j u A=>by
 have e:eu m=eu (m.take a)++eu (m.drop a):=by unfold eu;rw[←aX,aI]
 have Ia:m.length=n:=by have:=h.1.1;unfold eu at this;simp at this;omega
 have O:a<n:=by
  by_cases U:a<n
  ·exact U
  ·rw[eF (by omega)]at A;simp[eu]at A
 have htl:(eu (m.take a)).length=a:=by unfold eu;rw[aB,aZ];omega
 have D:(eu m)[a+j]? =some u:=by rw[e,bC (by omega),htl,Nat.add_sub_cancel_left];exact A
 rcases h.shape with⟨_,e2,_⟩|⟨g,V,e1,_⟩
 ·omega
 ·simp only[bx]at e1;obtain⟨rfl,-,rfl⟩:=e1;rw[if_neg (by omega)];refine⟨_,rfl,z.cell (by simp) ?_⟩;have:=h.1.cells (g:=g) rfl (a+j) u D;rw[aO,aK]at this;show d.cell? (((⟨g,0,none⟩:Addr).add a).add j)=some u;rw[aO,aO,aK];exact this
abbrev LL:List (List (Int×Nat)):=[L1,L2]
def kZ(i k:Nat):List Int:=((LL.take i).flatten++(LL.getD i []).take k).map (·.1)
def tAt(i k:Nat):Int:=((LL.getD i []).getD k (0,0)).1
def zAt(i:Nat):Nat:=(LL.getD i []).length
theorem zX:∀i<2,∀k<2,k<zAt i→tAt i k∉kZ i k:=by decide
theorem xY:∀i<2,∀k<2,k<zAt i→kZ i k++[tAt i k]=kZ i (k+1):=by decide
theorem zV:∀i<2,kZ i (zAt i)=kZ (i+1) 0:=by decide
theorem EP:∀i<2,zAt i≤2:=by decide
theorem zW:∀i<3,∀k<3,(kZ i k).length≤10:=by decide
def Gg(w:World)(e:Ending)(w':World):Prop:=∃v,e=.returned v∧aP w w' 2 1 3 v (eu [1,2,3])∧Upd [] w w'
theorem FH{m:List Int}(h:m.Perm (kZ 2 0))(hs:m.Pairwise (· <·)):m=[1,2,3]:=by
 have e:kZ 2 0=[1,3,2]:=by decide
 rw[e]at h;have hl:=h.length_eq;match m,hl,h,hs with
 |[a,b,c],_,h,hs=>
  have d:a∈[1,3,2]:=h.subset (by simp);have hb:b∈[1,3,2]:=h.subset (by simp);have z:c∈[1,3,2]:=h.subset (by simp);simp only[ah,ai,or_false]at d hb z;simp only[List.pairwise_cons,ah,ai,or_false,forall_eq_or_imp,forall_eq]at hs;have h1:=hs.1.1;have A:=hs.2.1;have:a=1∧b=2∧c=3:=by omega
  rw[this.1,this.2.1,this.2.2]
theorem times(w:World)(v:Value)(h:sj w v LL):Calls prog 41 #[v] w (Gg w):=by
 obtain⟨q,o,cc,rfl,hc⟩:=h;have HC:=aa hc;clear hc;go_enter func41,ntmps41
 go_wp2_with fail;go_loopg [3,4] 2 (fun gg s3 s4 wx=>∃(i n:Nat) (m:List Int),s4=.int .i64 i∧Hid (gg+i=2)∧Hid (aP w wx 2 1 n s3 (eu m)∧Upd [] w wx∧m.Perm (kZ i 0)∧m.Pairwise (· <·)))
 case atStart=>exact⟨0,0,[],rfl,aa rfl,aa ⟨er,ae _,by decide,by simp⟩⟩
 case round=>
  obtain⟨i,n,m,rfl,Hi,HS⟩:=hrel;by_cases U:i<2
  ·obtain⟨u,k0,hu⟩:=HC.o i U;obtain⟨ga,ob,d,rfl,hs⟩:=hu;have HR:=aa (show∀k,k<zAt i→w.cell? ⟨ga,ob+k*2,none⟩=some (.int .i64 (tAt i k))from fun k hk=>by
    match i,U with
    |0,_=>match k,hk with
     |0,_=>exact(hs 0 (show 0<2 by decide)).1
     |1,_=>exact(hs 1 (show 1<2 by decide)).1
    |1,_=>match k,hk with
     |0,_=>exact(hs 0 (show 0<1 by decide)).1)
   obtain⟨z,hz⟩:∃z,z=zAt i:=⟨_,rfl⟩;have bR:LL[i].length=z:=by
    rw[hz];match i,U with
    |0,_=>rfl
    |1,_=>rfl
   rw[bR]at k0;have cF:z≤2:=by rw[hz];exact EP i U
   have HZ:=aa (And.intro hz k0);have cL:(0:Int)≤(i:Int):=by omega
   have cM:(i:Int)<2:=by omega
   clear hz hs k0 bR;go_wp2_with fail;go_loopg [3,5] z (fun gg s3 s5 wx=>∃(k n:Nat) (m:List Int),s5=.int .i64 k∧Hid (gg+k=z)∧Hid (aP w wx 2 1 n s3 (eu m)∧Upd [] w wx∧m.Perm (kZ i k)∧m.Pairwise (· <·)))
   case atStart=>exact⟨0,n,m,rfl,aa rfl,HS⟩
   case round=>
    clear HS;obtain⟨k,n,m,rfl,Hk,A⟩:=hrel;have k1:=A.o.2.1.cell (by simp) HZ.o.2;by_cases cN:k<z
    ·have a0:k<zAt i:=by have:=HZ.o.1;omega
     have r0:=A.o.2.1.cell (by simp) (HR.o k a0);obtain⟨t,ht⟩:∃t,t=tAt i k:=⟨_,rfl⟩;rw[←ht]at r0;have Ht:Hid (kZ i (k+1)=kZ i k++[t]∧t∉m):=aa ⟨by rw[ht];exact(xY i U k (by omega) a0).symm,fun hm=>zX i U k (by omega) a0 (by rw[←ht];exact A.o.2.2.1.subset hm)⟩;obtain⟨b,c,e3,bS,bW⟩:∃b c,u3=.slice b n c∧n≤c∧(b=none→n=0):=by
      rcases A.o.1.1.2 with⟨e,e2⟩|⟨g,cap,cur,e,_,_,h2,_⟩
      ·exact⟨none,0,by rw[e,e2],by omega,fun _=>e2⟩
      ·exact⟨_,cap,e,h2,fun h=>by simp at h⟩
     subst e3;have a1:=aa bW;have cE:n≤10:=by have h1:=A.o.1.1.1;have h2:=A.o.2.2.1.length_eq;have h3:=zW i (by omega) k (by omega);unfold eu at h1;simp at h1;omega
     have cO:(0:Int)≤(k:Int):=by omega
     have ad:(k:Int)<(z:Int):=by omega
     clear bW ht;go_wp2_with fail;clear r0;go_loopg [7] n (fun gg s7 wx=>∃a:Nat,s7=.int .i64 a∧Hid (gg=a∧a≤n)∧Hid (Upd [] wr wx∧∀j (h:j<m.length),a≤j→t<m[j]))
     case atStart=>exact⟨n,rfl,aa ⟨rfl,aw _⟩,aa ⟨ae _,fun j hj h=>by have:=A.o.1.1.1;unfold eu at this;simp at this;omega⟩⟩
     case round=>
      obtain⟨a,rfl,b5,HT⟩:=hrel;have O:Hid (a≤n):=aa b5.o.2;have cn:(a:Int)≤(n:Int):=by have:=O.o;omega
      have cp:(a:Int)≤(c:Int):=by omega
      have cP:(0:Int)≤(a:Int):=by omega
      have cs:(n:Int)≤(c:Int):=by omega
      clear k1;rcases gV a with hp|hp
      ·have hd:¬(0:Int)<(a:Int):=by omega
       have HX:Hid (∀_:0<a,∃h:a-1<m.length,m[a-1]<t):=aa (fun h=>by omega);go_upto_region 12 with fail
       clear hp hd;obtain⟨D,V⟩:∃x,x=wr:=⟨_,rfl⟩;rw[←V];rw[←V]at HT;have HU:Hid (Upd [] w D):=aa (A.o.2.1.then HT.o.1 (by simp));have F:aP w D 2 1 n (.slice b n c) (eu m):=A.o.1.upd HT.o.1 (by simp);have Ia:m.length=n:=by have:=F.1.1;unfold eu at this;simp at this;omega
       have a2:Hid ((eu (m.take a)).length=a*1∧(eu (m.drop a)).length=(n-a)*1):=aa (by have:=O.o;unfold eu;rw[aB,aB,aZ,cy];omega)
       have bb:Hid (∀w',Upd [] D w'→∀j u,(eu (m.take a))[j]? =some u→∃x,b=some x∧w'.cell? (x.add j)=some u):=aa (Df F);have bd:Hid (∀w',Upd [] D w'→∀j u,(eu (m.drop a))[j]? =some u→∃x,(if c=a then b else Option.map (fun x=>x.add a) b)=some x∧w'.cell? (x.add j)=some u):=aa (C5 F bS (by have:=O.o;omega));have a3:Hid (∀m':List Int,∀u∈eu m',u.oneCell'=true):=aa ud;have be:Hid (b=none→a=0):=aa (fun h=>by have:=a1.o h;have:=O.o;omega);have bg:Hid ((if c=a then b else Option.map (fun x=>x.add a) b)=none→n-a=0):=aa (fun h=>by
        have h2:b=none:=by
         split at h
         ·exact h
         ·simpa using h
        have:=a1.o h2;omega)
       have W:Hid (a+1+n≤1000):=aa (by have:=O.o;omega);have bl:=aa Ia;clear F V Ia
       go_region_held3 (fun _=>True) (trivial) (first
        |((refine kF (by rfl) _ _ (by rfl) (by rfl) D (.slice b2 (a+1) c2) _ _ _ (by rfl) (by rfl) (a+1) (eu (m.take a)++[.int .i64 t]) (eu (m.drop a)) ?_ ?_ ?_ ?_ ?_ ?_ ?_ ?_;exact a4;exact(by with_reducible ((repeat' (first|exact ae _|assumption|refine aG ?_|refine aE ?_ _|refine aC ?_ _))<;>fail));exact a2.o.2;exact bd.o _ (by with_reducible ((repeat' (first|exact ae _|assumption|refine aG ?_|refine aE ?_ _|refine aC ?_ _))<;>fail));exact a3.o _;exact bg.o;(have:=W.o;omega);intro v3 w3 a5 G4 bn br bv;obtain⟨b3,c3,rfl⟩:=bv))
        |((refine kF (by rfl) _ _ (by rfl) (by rfl) D (.slice b1 a c1) (some ⟨_,0,none⟩) 1 1 (by rfl) (by rfl) a (eu (m.take a)) [.int .i64 t] ?_ ?_ ?_ ?_ ?_ ?_ ?_ ?_;(first|exact G|exact G.upd (L:=[]) (by with_reducible ((repeat' (first|exact ae _|assumption|refine aG ?_|refine aE ?_ _|refine aC ?_ _))<;>fail)) (by simp)|fail);exact(by with_reducible ((repeat' (first|exact ae _|assumption|refine aG ?_|refine aE ?_ _|refine aC ?_ _))<;>fail));rfl;(exact FG (by first|exact dy (w:=w1) (by with_reducible ((repeat' (first|exact ae _|assumption|refine aG ?_|refine aE ?_ _|refine aC ?_ _))<;>fail)) (by first|rfl|(simp<;>fail)|fail)|exact dy (w:=w1.drew) (by with_reducible ((repeat' (first|exact ae _|assumption|refine aG ?_|refine aE ?_ _|refine aC ?_ _))<;>fail)) (by first|rfl|(simp<;>fail)|fail)|exact Upd.blk (w:=w1) (by with_reducible ((repeat' (first|exact ae _|assumption|refine aG ?_|refine aE ?_ _|refine aC ?_ _))<;>fail)) (ad _ _ (by first|exact dy (w:=D) (by with_reducible ((repeat' (first|exact ae _|assumption|refine aG ?_|refine aE ?_ _|refine aC ?_ _))<;>fail)) (by first|rfl|(simp<;>fail)|fail)|exact dy (w:=D.alloc _) (by with_reducible ((repeat' (first|exact ae _|assumption|refine aG ?_|refine aE ?_ _|refine aC ?_ _))<;>fail)) (by first|rfl|(simp[aJ]<;>fail)|fail)|exact dy (w:=D.drew) (by with_reducible ((repeat' (first|exact ae _|assumption|refine aG ?_|refine aE ?_ _|refine aC ?_ _))<;>fail)) (by first|rfl|(simp<;>fail)|fail)|exact dy (w:=(D.alloc _).drew) (by with_reducible ((repeat' (first|exact ae _|assumption|refine aG ?_|refine aE ?_ _|refine aC ?_ _))<;>fail)) (by first|rfl|(simp[aJ]<;>fail)|fail)|exact dy (w:=D.drew.alloc _) (by with_reducible ((repeat' (first|exact ae _|assumption|refine aG ?_|refine aE ?_ _|refine aC ?_ _))<;>fail)) (by first|rfl|(simp[aJ]<;>fail)|fail)|fail) (by simp[Value.ownBlock])) (by simp)|fail));exact kB rfl;(simp);(have:=W.o;omega);intro v2 w2 a4 bw bA bB bE;obtain⟨b2,c2,rfl⟩:=bE))
        |((refine kF (by rfl) _ _ (by rfl) (by rfl) D _ _ a _ (by rfl) (by rfl) 0 [] (eu (m.take a)) (Dd (by first|exact aw _|simp) (by first|exact dy (w:=D) (by with_reducible ((repeat' (first|exact ae _|assumption|refine aG ?_|refine aE ?_ _|refine aC ?_ _))<;>fail)) (by first|rfl|(simp<;>fail)|fail)|exact dy (w:=D.alloc _) (by with_reducible ((repeat' (first|exact ae _|assumption|refine aG ?_|refine aE ?_ _|refine aC ?_ _))<;>fail)) (by first|rfl|(simp[aJ]<;>fail)|fail)|exact dy (w:=D.drew) (by with_reducible ((repeat' (first|exact ae _|assumption|refine aG ?_|refine aE ?_ _|refine aC ?_ _))<;>fail)) (by first|rfl|(simp<;>fail)|fail)|exact dy (w:=(D.alloc _).drew) (by with_reducible ((repeat' (first|exact ae _|assumption|refine aG ?_|refine aE ?_ _|refine aC ?_ _))<;>fail)) (by first|rfl|(simp[aJ]<;>fail)|fail)|exact dy (w:=D.drew.alloc _) (by with_reducible ((repeat' (first|exact ae _|assumption|refine aG ?_|refine aE ?_ _|refine aC ?_ _))<;>fail)) (by first|rfl|(simp[aJ]<;>fail)|fail)|fail)) (by with_reducible ((repeat' (first|exact ae _|assumption|refine aG ?_|refine aE ?_ _|refine aC ?_ _))<;>fail)) a2.o.1 (bb.o _ (by with_reducible ((repeat' (first|exact ae _|assumption|refine aG ?_|refine aE ?_ _|refine aC ?_ _))<;>fail))) (a3.o _) be.o (by have:=W.o;omega) ?_;intro v1 w1 G bK ad bL a6;simp only[aK,bz]at G a6;obtain⟨b1,c1,rfl⟩:=a6))
        |fail)
       all_goals
        clear ad bL bA bB bn br G a4 bK bw;have bM:=aa a5;have bO:=aa G4;clear a5 G4;obtain⟨g1,ct⟩:∃g1,g1=z-(k+1):=⟨_,rfl⟩;go_wp2_with fail
        all_goals
         go_roundg g1
         case measure=>have:=Hk.o;omega
         case rel=>
          refine⟨k+1,n+1,m.take a++t::m.drop a,by simp,aa (by have:=Hk.o;omega),aa ⟨?_,HU.o.then bO.o (by simp),?_,?_⟩⟩
          ·have h4:=bM.o.old HU.o.size;have e:a+1+(n-a)=n+1:=by have:=O.o;omega
           rw[e]at h4;rw[tZ];first|exact h4|(rw[e];exact h4)
          ·refine(rA m t a).trans ?_;rw[Ht.o.1];exact A.o.2.2.1.append_right _
          ·exact rB A.o.2.2.2 (by have:=O.o;have:=bl.o;omega) (fun j hj a7=>HT.o.2 j hj a7) (fun h=>HX.o h)
      ·obtain⟨a',b6⟩:∃a',a=a'+1:=⟨a-1,by omega⟩;have b7:m.length=n:=by have:=A.o.1.1.1;unfold eu at this;simp at this;omega
       have b8:a'<m.length:=by have:=O.o;omega
       obtain⟨g,hg⟩:∃g,b=some ⟨g,0,none⟩:=by
        rcases A.o.1.shape with⟨_,e2,_⟩|⟨g,c,e,_⟩
        ·have:=O.o;omega
        ·simp only[bx]at e;exact⟨g,e.1⟩
       have b9:wr.cell? ⟨g,a',none⟩=some (.int .i64 m[a']):=by refine HT.o.1.cell (by simp) ?_;have hr:=A.o.1.1;rw[hg]at hr;have:=hr.cells (g:=g) rfl a' (.int .i64 m[a']) (by unfold eu;rw[cx,az b8];rfl);rw[aO,aK]at this;exact this
       obtain⟨y,hy⟩:∃y,y=m[a']:=⟨_,rfl⟩;rw[←hy]at b9;have Hy:=aa hy;have cA:¬y=t:=fun e=>Ht.o.2 (by rw[←e,hy];exact aq b8);have ca:(a':Int)<(n:Int):=by have:=O.o;omega
       have cB:(0:Int)≤(a':Int):=by omega
       have cg:(a:Int)-1=(a':Int):=by omega
       have ck:(0:Int)<(a:Int):=by omega
       have a9:=aa b6;subst hg;clear hy b6 b7;by_cases hB:t<y
       ·clear cn cp cs;go_wp2_with fail;go_roundg a'
        case measure=>have:=a9.o;have:=b5.o;omega
        case rel=>
         refine⟨a',by simp,aa ⟨rfl,by have:=a9.o;have:=O.o;omega⟩,aa ⟨HT.o.1,fun j hj a7=>?_⟩⟩;by_cases cD:j=a'
         ·subst cD;rw[←Hy.o];exact hB
         ·exact HT.o.2 j hj (by have:=a9.o;omega)
       ·have HX:Hid (∀_:0<a,∃h:a-1<m.length,m[a-1]<t):=aa (fun h=>by
         have e:a-1=a':=by have:=a9.o;omega
         refine⟨by omega,?_⟩;simp only[e];rw[←Hy.o];omega)
        go_upto_region 12 with fail
        clear ca cB cg ck b9 hB cA hp;obtain⟨b,hb⟩:∃b:Option Addr,b=some ⟨g,0,none⟩:=⟨_,rfl⟩;rw[←hb]at A a1⊢;clear hb;obtain⟨D,V⟩:∃x,x=wr:=⟨_,rfl⟩;rw[←V];rw[←V]at HT;have HU:Hid (Upd [] w D):=aa (A.o.2.1.then HT.o.1 (by simp));have F:aP w D 2 1 n (.slice b n c) (eu m):=A.o.1.upd HT.o.1 (by simp);have Ia:m.length=n:=by have:=F.1.1;unfold eu at this;simp at this;omega
        have a2:Hid ((eu (m.take a)).length=a*1∧(eu (m.drop a)).length=(n-a)*1):=aa (by have:=O.o;unfold eu;rw[aB,aB,aZ,cy];omega)
        have bb:Hid (∀w',Upd [] D w'→∀j u,(eu (m.take a))[j]? =some u→∃x,b=some x∧w'.cell? (x.add j)=some u):=aa (Df F);have bd:Hid (∀w',Upd [] D w'→∀j u,(eu (m.drop a))[j]? =some u→∃x,(if c=a then b else Option.map (fun x=>x.add a) b)=some x∧w'.cell? (x.add j)=some u):=aa (C5 F bS (by have:=O.o;omega));have a3:Hid (∀m':List Int,∀u∈eu m',u.oneCell'=true):=aa ud;have be:Hid (b=none→a=0):=aa (fun h=>by have:=a1.o h;have:=O.o;omega);have bg:Hid ((if c=a then b else Option.map (fun x=>x.add a) b)=none→n-a=0):=aa (fun h=>by
         have h2:b=none:=by
          split at h
          ·exact h
          ·simpa using h
         have:=a1.o h2;omega)
        have W:Hid (a+1+n≤1000):=aa (by have:=O.o;omega);have bl:=aa Ia;clear F V Ia
        go_region_held3 (fun _=>True) (trivial) (first
         |((refine kF (by rfl) _ _ (by rfl) (by rfl) D (.slice b2 (a+1) c2) _ _ _ (by rfl) (by rfl) (a+1) (eu (m.take a)++[.int .i64 t]) (eu (m.drop a)) ?_ ?_ ?_ ?_ ?_ ?_ ?_ ?_;exact a4;exact(by with_reducible ((repeat' (first|exact ae _|assumption|refine aG ?_|refine aE ?_ _|refine aC ?_ _))<;>fail));exact a2.o.2;exact bd.o _ (by with_reducible ((repeat' (first|exact ae _|assumption|refine aG ?_|refine aE ?_ _|refine aC ?_ _))<;>fail));exact a3.o _;exact bg.o;(have:=W.o;omega);intro v3 w3 a5 G4 bn br bv;obtain⟨b3,c3,rfl⟩:=bv))
         |((refine kF (by rfl) _ _ (by rfl) (by rfl) D (.slice b1 a c1) (some ⟨_,0,none⟩) 1 1 (by rfl) (by rfl) a (eu (m.take a)) [.int .i64 t] ?_ ?_ ?_ ?_ ?_ ?_ ?_ ?_;(first|exact G|exact G.upd (L:=[]) (by with_reducible ((repeat' (first|exact ae _|assumption|refine aG ?_|refine aE ?_ _|refine aC ?_ _))<;>fail)) (by simp)|fail);exact(by with_reducible ((repeat' (first|exact ae _|assumption|refine aG ?_|refine aE ?_ _|refine aC ?_ _))<;>fail));rfl;(exact FG (by first|exact dy (w:=w1) (by with_reducible ((repeat' (first|exact ae _|assumption|refine aG ?_|refine aE ?_ _|refine aC ?_ _))<;>fail)) (by first|rfl|(simp<;>fail)|fail)|exact dy (w:=w1.drew) (by with_reducible ((repeat' (first|exact ae _|assumption|refine aG ?_|refine aE ?_ _|refine aC ?_ _))<;>fail)) (by first|rfl|(simp<;>fail)|fail)|exact Upd.blk (w:=w1) (by with_reducible ((repeat' (first|exact ae _|assumption|refine aG ?_|refine aE ?_ _|refine aC ?_ _))<;>fail)) (ad _ _ (by first|exact dy (w:=D) (by with_reducible ((repeat' (first|exact ae _|assumption|refine aG ?_|refine aE ?_ _|refine aC ?_ _))<;>fail)) (by first|rfl|(simp<;>fail)|fail)|exact dy (w:=D.alloc _) (by with_reducible ((repeat' (first|exact ae _|assumption|refine aG ?_|refine aE ?_ _|refine aC ?_ _))<;>fail)) (by first|rfl|(simp[aJ]<;>fail)|fail)|exact dy (w:=D.drew) (by with_reducible ((repeat' (first|exact ae _|assumption|refine aG ?_|refine aE ?_ _|refine aC ?_ _))<;>fail)) (by first|rfl|(simp<;>fail)|fail)|exact dy (w:=(D.alloc _).drew) (by with_reducible ((repeat' (first|exact ae _|assumption|refine aG ?_|refine aE ?_ _|refine aC ?_ _))<;>fail)) (by first|rfl|(simp[aJ]<;>fail)|fail)|exact dy (w:=D.drew.alloc _) (by with_reducible ((repeat' (first|exact ae _|assumption|refine aG ?_|refine aE ?_ _|refine aC ?_ _))<;>fail)) (by first|rfl|(simp[aJ]<;>fail)|fail)|fail) (by simp[Value.ownBlock])) (by simp)|fail));exact kB rfl;(simp);(have:=W.o;omega);intro v2 w2 a4 bw bA bB bE;obtain⟨b2,c2,rfl⟩:=bE))
         |((refine kF (by rfl) _ _ (by rfl) (by rfl) D _ _ a _ (by rfl) (by rfl) 0 [] (eu (m.take a)) (Dd (by first|exact aw _|simp) (by first|exact dy (w:=D) (by with_reducible ((repeat' (first|exact ae _|assumption|refine aG ?_|refine aE ?_ _|refine aC ?_ _))<;>fail)) (by first|rfl|(simp<;>fail)|fail)|exact dy (w:=D.alloc _) (by with_reducible ((repeat' (first|exact ae _|assumption|refine aG ?_|refine aE ?_ _|refine aC ?_ _))<;>fail)) (by first|rfl|(simp[aJ]<;>fail)|fail)|exact dy (w:=D.drew) (by with_reducible ((repeat' (first|exact ae _|assumption|refine aG ?_|refine aE ?_ _|refine aC ?_ _))<;>fail)) (by first|rfl|(simp<;>fail)|fail)|exact dy (w:=(D.alloc _).drew) (by with_reducible ((repeat' (first|exact ae _|assumption|refine aG ?_|refine aE ?_ _|refine aC ?_ _))<;>fail)) (by first|rfl|(simp[aJ]<;>fail)|fail)|exact dy (w:=D.drew.alloc _) (by with_reducible ((repeat' (first|exact ae _|assumption|refine aG ?_|refine aE ?_ _|refine aC ?_ _))<;>fail)) (by first|rfl|(simp[aJ]<;>fail)|fail)|fail)) (by with_reducible ((repeat' (first|exact ae _|assumption|refine aG ?_|refine aE ?_ _|refine aC ?_ _))<;>fail)) a2.o.1 (bb.o _ (by with_reducible ((repeat' (first|exact ae _|assumption|refine aG ?_|refine aE ?_ _|refine aC ?_ _))<;>fail))) (a3.o _) be.o (by have:=W.o;omega) ?_;intro v1 w1 G bK ad bL a6;simp only[aK,bz]at G a6;obtain⟨b1,c1,rfl⟩:=a6))
         |fail)
        all_goals
         clear ad bL bA bB bn br G a4 bK bw;have bM:=aa a5;have bO:=aa G4;clear a5 G4;obtain⟨g1,ct⟩:∃g1,g1=z-(k+1):=⟨_,rfl⟩;go_wp2_with fail
         all_goals
          go_roundg g1
          case measure=>have:=Hk.o;omega
          case rel=>
           refine⟨k+1,n+1,m.take a++t::m.drop a,by simp,aa (by have:=Hk.o;omega),aa ⟨?_,HU.o.then bO.o (by simp),?_,?_⟩⟩
           ·have h4:=bM.o.old HU.o.size;have e:a+1+(n-a)=n+1:=by have:=O.o;omega
            rw[e]at h4;rw[tZ];first|exact h4|(rw[e];exact h4)
           ·refine(rA m t a).trans ?_;rw[Ht.o.1];exact A.o.2.2.1.append_right _
           ·exact rB A.o.2.2.2 (by have:=O.o;have:=bl.o;omega) (fun j hj a7=>HT.o.2 j hj a7) (fun h=>HX.o h)
    ·obtain rfl:z=k:=by have:=Hk.o;omega
     go_wp2_with fail;go_roundg (2-(i+1))
     case measure=>have:=Hi.o;omega
     case rel=>exact⟨i+1,n,m,by simp,aa (by have:=Hi.o;omega),aa ⟨A.o.1,A.o.2.1,by rw[←zV i U,←HZ.o.1];exact A.o.2.2.1,A.o.2.2.2⟩⟩
  ·obtain rfl:i=2:=by have:=Hi.o;omega
   go_wp2_with fail;have e:=FH HS.o.2.2.1 HS.o.2.2.2;subst e;have h3:=HS.o.1.1.1;obtain rfl:n=3:=by simp[eu]at h3;omega
   refine bodyPost_ret (v:=u3) (by simp[results,results41]) rfl ⟨_,rfl,HS.o.1,HS.o.2.1⟩
end Go.Proofs.YtlgefdfflmgocaaGreatDoor
