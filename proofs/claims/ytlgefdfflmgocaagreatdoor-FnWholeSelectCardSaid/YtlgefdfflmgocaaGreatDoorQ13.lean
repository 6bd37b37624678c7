import Derived.Test.YtlgefdfflmgocaaGreatDoorQ12
import Derived.Sort.LotA
import Derived.Sort.Grow
set_option linter.all false
set_option maxRecDepth 100000
set_option maxHeartbeats 8000000
namespace Xc
open Go Go.RowKit
section
variable {κ:Type} [DecidableEq κ] {ν:Type}
theorem i9(k:κ)(l m:List (κ×ν)):aT k (l++m)=(aT k l).or (aT k m):=by
 induction l with
 |nil=>rfl
 |cons x l d=>
  obtain⟨a,v⟩:=x;simp only[dn,aT];split
  ·rfl
  ·exact d
theorem us{k:κ}{v:ν}:∀{l m:List (κ×ν)},(aT k l).isSome=true→cf k v (l++m)=cf k v l++m:=by
 intro l;induction l with
 |nil=>intro m h;simp[aT]at h
 |cons x l d=>
  obtain⟨a,u⟩:=x;intro m h;simp only[aT]at h;simp only[dn,cf];split
  ·rfl
  ·rename_i e;rw[if_neg e]at h;rw[d h];rfl
theorem rJ{k:κ}{v u:ν}{l:List (κ×ν)}(h:aT k l=none):cf k v (l++[(k,u)])=l++[(k,v)]:=by
 induction l with
 |nil=>simp[cf]
 |cons x l d=>
  obtain⟨a,y⟩:=x;simp only[aT]at h;by_cases e:k=a
  ·rw[if_pos e]at h;cases h
  ·rw[if_neg e]at h;simp only[dn,cf,if_neg e,d h]
end
end Xc
namespace Go.Proofs.YtlgefdfflmgocaaGreatDoor
open Go Go.RowKit Xc Go.Proofs.Tryz
structure RP where
 (M:List (ByteArray×List (ByteArray×Nat))) (last:Option (Bytes×Bytes)) (lastOff cnt:Nat)
def fU(M:List (ByteArray×List (ByteArray×Nat)))(n:ByteArray)(v:ByteArray)(o:Nat):List (ByteArray×List (ByteArray×Nat)):=cf n ((aT n M).getD []++[(v,o)]) M
def j4(M:List (ByteArray×List (ByteArray×Nat)))(last:Option (Bytes×Bytes))(o:Nat):List (ByteArray×List (ByteArray×Nat)):=
 match last with
 |none=>M
 |some x=>fU M (str x.1) (str x.2) o
def ji(s:RP)(nm:Bytes):RP:=
 if(aT (str nm) s.M).isSome=true then s else{s with M:=j4 (cf (str nm) [] s.M) s.last s.lastOff,cnt:=0}
def nP(s:RP)(nm d:Bytes)(off:Nat):RP:=
 if s.cnt % 32=0 then{s with M:=fU s.M (str nm) (str d) off,last:=none,cnt:=s.cnt+1}else{s with last:=some (nm,d),lastOff:=off,cnt:=s.cnt+1}
def ee(s:RP)(x:Bytes×Bytes×Nat):RP:=nP (ji s x.1) x.1 x.2.1 x.2.2
def iy(l:List (Bytes×Bytes×Nat)):RP:=l.foldl ee ⟨[],none,0,0⟩
def fD(s:RP):List (ByteArray×List (ByteArray×Nat)):=j4 s.M s.last s.lastOff
theorem wB(l:List (Bytes×Bytes×Nat))(j:Nat)(h:j<l.length):iy (l.take (j+1))=ee (iy (l.take j)) l[j]:=by rw[ax h,iy,ff];rfl
def mO{α:Type}:List α→List α
 |[]=>[]
 |[x]=>[x]
 |x::y::l=>[x,(y::l).getLast (by simp)]
def ent(g:Bytes×List (Bytes×Nat)):List (Bytes×Bytes×Nat):=g.2.map fun y=>(g.1,y.1,y.2)
def vst(y:Bytes×Nat):ByteArray×Nat:=(str y.1,y.2)
theorem vK(nm:Bytes):∀(l:List (Bytes×Nat)) (s:RP),(aT (str nm) s.M).isSome=true→0<s.cnt→s.cnt+l.length≤32→
 (ent (nm,l)).foldl ee s=match l.getLast? with|none=>s|some y=>{s with last:=some (nm,y.1),lastOff:=y.2,cnt:=s.cnt+l.length}:=by
 intro l;induction l with
 |nil=>intro s _ _ _;rfl
 |cons y l A=>
  intro s h1 D d;have e1:ee s (nm,y.1,y.2)={s with last:=some (nm,y.1),lastOff:=y.2,cnt:=s.cnt+1}:=by simp only[ee,ji,h1,if_true,nP];simp only[aj]at d;rw[if_neg (by omega)]
  have:=A {s with last:=some (nm,y.1),lastOff:=y.2,cnt:=s.cnt+1} h1 (by simp) (by simp only[aj]at d;simp only;omega);show(ent (nm,l)).foldl ee (ee s (nm,y.1,y.2))=_;rw[e1,this];cases l with
  |nil=>simp
  |cons z l=>
   simp only[List.getLast?_cons_cons,aj];have hz:∃u,(z::l).getLast? =some u:=⟨_,gT (by simp)⟩;obtain⟨u,hu⟩:=hz;rw[hu];simp only[RP.mk.injEq,true_and];omega
theorem AX(g:Bytes×List (Bytes×Nat))(s:RP)(hl:∀x,s.last=some x→(aT (str x.1) s.M).isSome=true)(hn:aT (str g.1) s.M=none)(G5:g.2≠[])(O:g.2.length≤32):
 fD ((ent g).foldl ee s)=fD s++[(str g.1,mO (g.2.map vst))]∧(∀x,((ent g).foldl ee s).last=some x→(aT (str x.1) ((ent g).foldl ee s).M).isSome=true)∧
  (∀k,(aT k ((ent g).foldl ee s).M).isSome=true↔k=str g.1∨(aT k s.M).isSome=true):=by
 obtain⟨nm,l⟩:=g;cases l with
 |nil=>exact absurd rfl G5
 |cons y l=>
  have A:∀k,(aT k (fD s)).isSome=true↔(aT k s.M).isSome=true:=by
   intro k;unfold fD j4;cases hs:s.last with
   |none=>rfl
   |some x=>
    simp only[fU,gj];split
    ·rename_i e;rw[e,hl x hs];simp
    ·rfl
  have d:aT (str nm) (fD s)=none:=by
   have:=A (str nm);rw[hn]at this;cases h:aT (str nm) (fD s)with
   |none=>rfl
   |some z=>rw[h]at this;simp at this
  have V:ji s nm={s with M:=fD s++[(str nm,[])],cnt:=0}:=by
   simp only[ji,hn,Option.isSome_none];rw[if_neg (by simp)];simp only[RP.mk.injEq,and_true];rw[fu hn];unfold fD j4;cases hs:s.last with
   |none=>rfl
   |some x=>
    have F:=hl x hs;simp only[fU];have e1:aT (str x.1) (s.M++[(str nm,[])])=aT (str x.1) s.M:=by
     rw[i9];cases hm:aT (str x.1) s.M with
     |none=>rw[hm]at F;simp at F
     |some z=>rfl
    rw[e1,us F]
  have e1:ee s (nm,y.1,y.2)={s with M:=fD s++[(str nm,[vst y])],last:=none,cnt:=1}:=by simp only[ee,V,nP];rw[if_pos (by simp)];simp only[RP.mk.injEq,and_true];simp only[fU,rJ d,i9,d];simp[aT,vst]
  have D:(aT (str nm) (fD s++[(str nm,[vst y])])).isSome=true:=by rw[i9,d];simp[aT]
  have e2:(ent (nm,y::l)).foldl ee s=(ent (nm,l)).foldl ee (ee s (nm,y.1,y.2)):=rfl;have e3:=vK nm l {s with M:=fD s++[(str nm,[vst y])],last:=none,cnt:=1} D (by simp) (by simp only[aj]at O;simp only;omega);rw[e2,e1,e3];have G:∀k,(aT k (fD s++[(str nm,[vst y])])).isSome=true↔k=str nm∨(aT k s.M).isSome=true:=by intro k;rw[i9,Option.isSome_or,Bool.or_eq_true,A k];simp only[aT];by_cases e:k=str nm<;>simp[e]
  cases l with
  |nil=>
   simp only[List.getLast?_nil];exact⟨by simp[fD,j4,mO],by simp,G⟩
  |cons z l=>
   have hu:=gT (l:=z::l) (by simp);rw[hu];refine⟨?_,?_,G⟩
   ·simp only[fD,j4,fU];have h1:aT (str nm) (fD s++[(str nm,[vst y])])=some [vst y]:=by rw[i9,d];simp[aT]
    have U:=rJ (v:=[vst y]++[(str ((z::l).getLast (by simp)).1,((z::l).getLast (by simp)).2)]) (u:=[vst y]) d;simp only[fD,j4,fU]at h1 U;rw[h1];simp only[dq];rw[U];simp only[aN,mO,dn,bz];have W:(vst z::l.map vst).getLast (by simp)=vst ((z::l).getLast (by simp)):=by have:=List.getLast_map (f:=vst) (l:=z::l) (by simp);simpa using this
    rw[W];rfl
   ·intro x F;simp only[aM]at F;rw[←F];exact D
theorem yF:∀(gs:List (Bytes×List (Bytes×Nat))) (s:RP),(∀x,s.last=some x→(aT (str x.1) s.M).isSome=true)→(∀g∈gs,aT (str g.1) s.M=none∧g.2≠[]∧g.2.length≤32)→(gs.map (·.1)).Nodup→
 fD ((gs.flatMap ent).foldl ee s)=fD s++gs.map fun g=>(str g.1,mO (g.2.map vst)):=by
 intro gs;induction gs with
 |nil=>intro s _ _ _;simp
 |cons g gs A=>
  intro s hl hg hn;obtain⟨h1,D,F⟩:=hg g (by simp);obtain⟨e1,e2,e3⟩:=AX g s hl h1 D F;rw[aN,a8]at hn;have:=A ((ent g).foldl ee s) e2 (fun x d=>by
   obtain⟨G,O⟩:=hg x (by simp[d]);refine⟨?_,O⟩;have h4:=e3 (str x.1);cases hm:aT (str x.1) ((ent g).foldl ee s).M with
   |none=>rfl
   |some z=>
    rw[hm,G]at h4;simp only[mg,Option.isSome_none,true_iff]at h4;rcases h4 with h4|h4
    ·exact absurd (List.mem_map.2 ⟨x,d,by have:=congrArg sb h4;rwa [dG,dG]at this⟩) hn.1
    ·cases h4) hn.2
  rw[aY,ff,this,e1];simp
def rl:Nat→List (Bytes×Bytes×Nat)→List (Bytes×Bytes×Nat)
 |_,[]=>[]
 |n,x::l=>(x.1,x.2.1,n)::rl (n+(poE x.1 x.2.1 x.2.2).length) l
theorem lL:∀(l:List (Bytes×Bytes×Nat)) (n:Nat),(rl n l).length=l.length:=by
 intro l;induction l with
 |nil=>intro n;rfl
 |cons x l d=>intro n;simp only[rl,aj,d]
theorem poB_append(a b:List (Bytes×Bytes×Nat)):poB (a++b)=poB a++poB b:=by simp[poB]
theorem rP:∀(a b:List (Bytes×Bytes×Nat)) (n:Nat),rl n (a++b)=rl n a++rl (n+(poB a).length) b:=by
 intro a;induction a with
 |nil=>intro b n;simp[rl,poB]
 |cons x a d=>
  intro b n;have e:(poB (x::a)).length=(poE x.1 x.2.1 x.2.2).length+(poB a).length:=by simp[poB]
  simp only[dn,rl,d,e,kH]
theorem AW(l:List (Bytes×Bytes×Nat))(n j:Nat)(h:j<l.length):(rl n l)[j]? =some (l[j].1,l[j].2.1,n+(poB (l.take j)).length):=by
 have e:=aI j l;have e2:l.drop j=l[j]::l.drop (j+1):=bf h;rw[e2]at e;conv=>lhs;rw[←e]
 rw[rP,bC (by rw[lL,aZ];omega),lL,aZ,Nat.min_eq_left (by omega),iN];rfl
def rlG:Nat→List (Bytes×List (Bytes×Nat))→List (Bytes×List (Bytes×Nat))
 |_,[]=>[]
 |n,g::gs=>(g.1,(rl n (ent g)).map fun x=>(x.2.1,x.2.2))::rlG (n+(poB (ent g)).length) gs
theorem EB(nm:Bytes):∀(l:List (Bytes×Nat)) (n:Nat),rl n (ent (nm,l))=ent (nm,(rl n (ent (nm,l))).map fun x=>(x.2.1,x.2.2)):=by
 intro l;induction l with
 |nil=>intro n;rfl
 |cons y l d=>
  intro n;have:=d (n+(poE nm y.1 y.2).length);simp only[ent,aN,rl]at this⊢;rw[dS];exact⟨rfl,this⟩
theorem yE:∀(gs:List (Bytes×List (Bytes×Nat))) (n:Nat),rl n (gs.flatMap ent)=(rlG n gs).flatMap ent:=by
 intro gs;induction gs with
 |nil=>intro n;rfl
 |cons g gs d=>
  intro n;rw[aY,rP,d,rlG,aY,←EB]
theorem kD:∀(gs:List (Bytes×List (Bytes×Nat))) (n:Nat),(rlG n gs).map (·.1)=gs.map (·.1):=by
 intro gs;induction gs with
 |nil=>intro n;rfl
 |cons g gs d=>intro n;simp only[rlG,aN,d]
theorem uG:∀(gs:List (Bytes×List (Bytes×Nat))) (n:Nat),(rlG n gs).map (·.2.length)=gs.map (·.2.length):=by
 intro gs;induction gs with
 |nil=>intro n;rfl
 |cons g gs d=>intro n;simp only[rlG,aN,d,aB,lL,ent]
def jj(gs:List (Bytes×List (Bytes×Nat))):List (ByteArray×List (ByteArray×Nat)):=(rlG 4 gs).map fun g=>(str g.1,mO (g.2.map vst))
theorem AY(gs:List (Bytes×List (Bytes×Nat)))(hn:(gs.map (·.1)).Nodup)(hg:∀g∈gs,g.2≠[]∧g.2.length≤32):fD (iy (rl 4 (gs.flatMap ent)))=jj gs:=by
 rw[yE];have h:=yF (rlG 4 gs) ⟨[],none,0,0⟩ (by simp) (fun g h=>by have:g.2.length∈(rlG 4 gs).map (·.2.length):=List.mem_map.2 ⟨g,h,rfl⟩;rw[uG]at this;obtain⟨g',d,e⟩:=List.mem_map.1 this;have h1:=hg g' d;have A:=List.length_pos_iff.2 h1.1;exact⟨rfl,fun z=>by rw[z]at e;simp at e;exact h1.1 e,by omega⟩) (by rw[kD];exact hn)
 exact h
theorem mZ{M:List (ByteArray×List (ByteArray×Nat))}{k v:ByteArray}{o d:Nat}(h:∀y∈M,y.2.length≤d):∀y∈fU M k v o,y.2.length≤d+1:=fun y A=>by
 have hm:∀{l:List (ByteArray×List (ByteArray×Nat))},y∈cf k ((aT k M).getD []++[(v,o)]) l→y=(k,(aT k M).getD []++[(v,o)])∨y∈l:=by
  intro l;induction l with
  |nil=>intro h;simp[cf]at h;exact .inl h
  |cons x l D=>
   obtain⟨a,u⟩:=x;intro h;simp only[cf]at h;split at h
   ·rename_i e;simp only[ah]at h;rcases h with h|h
    ·exact .inl (by rw[h,e])
    ·exact .inr (by simp[h])
   ·simp only[ah]at h;rcases h with h|h
    ·exact .inr (by simp[h])
    ·rcases D h with h|h
     ·exact .inl h
     ·exact .inr (by simp[h])
 rcases hm A with rfl|A
 ·simp only[ab,aj,ar];cases hg:aT k M with
  |none=>simp
  |some z=>
   have:=h _ (mget_mem hg);simp only[dq];simp only at this;omega
 ·have:=h y A;omega
theorem rQ{s:RP}{nm:Bytes}{d:Nat}(h:∀y∈s.M,y.2.length≤d):(ji s nm).cnt≤s.cnt∧∀y∈(ji s nm).M,y.2.length≤d+1:=by
 unfold ji;split
 ·exact⟨aw _,fun y A=>by have:=h y A;omega⟩
 ·rename_i hs
  have hn:aT (str nm) s.M=none:=by cases hg:aT (str nm) s.M with
   |none=>rfl
   |some z=>rw[hg]at hs;simp at hs
  have D:∀y∈cf (str nm) [] s.M,y.2.length≤d:=fun y A=>by
   rw[fu hn,aA,ag]at A;rcases A with A|rfl
   ·exact h y A
   ·simp
  refine⟨ay _,fun y A=>?_⟩;unfold j4 at A;cases hl:s.last with
  |none=>rw[hl]at A;have:=D y A;omega
  |some x=>rw[hl]at A;exact mZ D y A
theorem ql{s:RP}{x:Bytes×Bytes×Nat}{d:Nat}(h:∀y∈s.M,y.2.length≤d):(ee s x).cnt≤s.cnt+1∧∀y∈(ee s x).M,y.2.length≤d+2:=by
 obtain⟨h1,A⟩:=rQ (nm:=x.1) h;unfold ee nP;split
 ·exact⟨by simp only;omega,fun y z=>mZ A y z⟩
 ·exact⟨by simp only;omega,fun y z=>by have:=A y z;omega⟩
theorem rR(l:List (Bytes×Bytes×Nat)):(iy l).cnt≤l.length∧∀y∈(iy l).M,y.2.length≤2*l.length:=by
 have h:∀(l:List (Bytes×Bytes×Nat)) (s:RP) (c d:Nat),s.cnt≤c→(∀y∈s.M,y.2.length≤d)→(l.foldl ee s).cnt≤c+l.length∧∀y∈(l.foldl ee s).M,y.2.length≤d+2*l.length:=by
  intro l;induction l with
  |nil=>intro s c d h1 z;exact⟨h1,z⟩
  |cons x l A=>
   intro s c d h1 z;obtain⟨G,h4⟩:=ql (x:=x) z;obtain⟨h5,D⟩:=A (ee s x) (c+1) (d+2) (by omega) h4;simp only[dg,aj];exact⟨by omega,fun y F=>by have:=D y F;omega⟩
 have:=h l ⟨[],none,0,0⟩ 0 0 (aw _) (by simp);simpa[iy]using this
theorem uvl(x:Nat)(h:x<2097152):0<(Lib.uvarint x).length∧(Lib.uvarint x).length≤3:=by
 refine⟨Lib.uvarint_pos x,?_⟩;by_cases h1:x<128
 ·rw[Lib.uvarint_small h1];simp
 ·rw[Lib.uvarint_big (by omega)];by_cases d:x/128<128
  ·rw[Lib.uvarint_small d];simp
  ·rw[Lib.uvarint_big (by omega),Lib.uvarint_small (by omega)];simp
theorem mC(g tb:Nat)(v:Value)(bs a body c:Bytes)(w:World)(h:RdG w v g bs)(ht:ij w tb)(hb:bs=a++(gy body++c))(bw:0<body.length)(G9:body.length<2097152)(hn:bs.length<1073741824):
 Calls prog 132 #[.iface 139 v,.int .i64 a.length,.pointer (some ⟨tb,0,none⟩)] w fun r w'=>∃v',r=.returned (.agg #[v',.nilIface])∧RdG w' v' g body∧Upd [] w w':=by
 have bA:=fp;have bB:=eA;obtain⟨A,hA⟩:∃A,A=a.length:=⟨_,rfl⟩;obtain⟨L,hL⟩:∃L,L=body.length:=⟨_,rfl⟩;obtain⟨U,hU⟩:∃U,U=(Lib.uvarint L).length:=⟨_,rfl⟩;have bE:=uvl L (by omega);rw[←hU]at bE;have a3:A+U+L+4+c.length=bs.length:=by rw[hb,hA,hU,hL];simp only[gy,ab,cd];omega
 have a4:∀w,RdG w v g bs→Calls prog 277 #[v,.int .i64 A,.int .i64 ((A:Int)+5)] w fun r w'=>∃v',r=.returned v'∧RdG w v' g (Lib.uvarint L++(body++Lib.beBytes 4 (crc body)++c).take (5-U))∧w=w':=fun w h=>by
  rw[show((A:Int)+5)=((A+5:Nat):Int) by omega];refine kU g A (A+5) v bs a (Lib.uvarint L++(body++Lib.beBytes 4 (crc body)++c).take (5-U)) ((body++Lib.beBytes 4 (crc body)++c).drop (5-U)) w h ?_ hA ?_ hn
  ·rw[hb,al,aI,gy,←hL];simp only[al]
  ·simp only[ab,aZ,cd];omega
 have a5:∀w,RdG w v g bs→Calls prog 277 #[v,.int .i64 ((A:Int)+U),.int .i64 ((A:Int)+U+L+4)] w fun r w'=>∃d G6,r=.returned (.slice (some ⟨g,d,none⟩) (L+4) G6)∧RdG w (.slice (some ⟨g,d,none⟩) (L+4) G6) g (body++Lib.beBytes 4 (crc body))∧L+4≤G6∧w=w':=fun w h=>by
  rw[show((A:Int)+U+L+4)=((A+U+L+4:Nat):Int) by omega,show((A:Int)+U)=((A+U:Nat):Int) by omega];refine en (kU g (A+U) (A+U+L+4) v bs (a++Lib.uvarint L) (body++Lib.beBytes 4 (crc body)) c w h (by rw[hb,gy,←hL];simp only[al]) (by rw[hA,hU,ab]) (by rw[hA,hL,hU,ab,ab,cd,hL];omega) hn) ?_;rintro r w' ⟨v',rfl,V,rfl⟩;obtain⟨d,G6,rfl,W,bK⟩:=id V;have e:(body++Lib.beBytes 4 (crc body)).length=L+4:=by rw[ab,cd,hL]
  rw[e]at V W⊢;exact⟨d,G6,rfl,V,W.1,rfl⟩
 have a6:∀w v1,RdG w v1 g (Lib.uvarint L++(body++Lib.beBytes 4 (crc body)++c).take (5-U))→Calls prog 185 #[v1] w fun e w'=>e=.returned (.tuple #[.int .u64 L,.int .i64 U])∧w=w':=fun w v1 h1=>by rw[hU];exact wQ v1 L _ w h1.rd (by omega) (by simp only[ab,aZ,cd];omega)
 have bL:=aa a4;have bM:=aa a5;have bO:=aa a6;have H:=aa h;have HB:=aa hb;have HL:=aa hL;rw[←hL]at bw G9;rw[←hA];clear h hb a4 a5 hA hL a6 hU;have bR:=H.o.lt;have HT:=aa ht;clear ht;obtain⟨n,ad⟩:∃n,n=bs.length:=⟨_,rfl⟩;have O:∀w,RdG w v g bs→Calls prog 276 #[v] w fun e w'=>e=.returned (.int .i64 n)∧w=w':=fun w h=>by rw[ad];exact yH g v bs w h
 have a7:=aa O;rw[←ad]at a3 hn;clear O ad;have a0:Upd [] w (w.alloc (.cells #[.slice none 0 0,.nilIface] 159 (0,0))):=(ae w).alloc _;have H1:=aa (H.o.upd a0 (by simp));have a9:=aa a0;clear a0;go_enter func132,ntmps132
 go_wp2_with (first
  |(go_at_call 276;refine(a7.o _ H1.o).mono ?_;rintro e w1 ⟨rfl,rfl⟩)
  |(go_at_call_of 277 (Value.int IntKind.i64 (A:Int));refine(bL.o _ H1.o).mono ?_;rintro e w1 ⟨v1,rfl,bb,rfl⟩)
  |(go_at_call 185;refine(bO.o _ _ bb).mono ?_;rintro e w1 ⟨rfl,rfl⟩))
 refine(bM.o _ H1.o).mono ?_;rintro e w1 ⟨d,G6,rfl,a1,W,rfl⟩;have cg:(G6=L)=False:=by simp;omega
 have ck:(L:Int)≤(G6:Int):=by omega
 have cn:(0:Int)≤(L:Int):=by omega
 have a2:=aa a1;have G5:body++Lib.beBytes 4 (crc body)=body++(Lib.beBytes 4 (crc body)++[]):=by rw[bk]
 have bd:Hid (RdG (w.alloc (.cells #[.slice none 0 0,.nilIface] 159 (0,0))) (.slice (some ⟨g,d+L,none⟩) 4 (G6-L)) g (Lib.beBytes 4 (crc body))):=by obtain⟨cp,bS,N2,e2,_,_,_,_,HM⟩:=a1.mid (e:=L+4) G5 HL.o (by rw[cd,HL.o]);cases e2;have:=HM.o (d+L) (fun _=>rfl);rw[show L+4-L=4 by omega]at this;exact this
 have G4:(L:Int)≤(L:Int)+4:=by omega
 have cs:IntKind.i64.wrap (L:Int)=(L:Int):=by rw[bo];omega
 have ct:IntKind.i64.wrap ((L:Int)+4-4)=(L:Int):=by rw[bo];omega
 have bW:Hid (body.length<1073741824):=aa (by have:=HL.o;omega);clear a1 bA bB bb a3 G5;go_wp2_with fail;have F:cm ((w.alloc (.cells #[.slice none 0 0,.nilIface] 159 (0,0))).alloc (.cells #[.slice (some ⟨g,d,none⟩) L G6,.nilIface] 159 (0,0))) (w.heap.size+1) g body:=by
  have h1:(w.alloc (.cells #[.slice none 0 0,.nilIface] 159 (0,0))).heap.size=w.heap.size+1:=by simp
  rw[←h1];exact⟨⟨_,an _,(a2.o.head HL.o).upd ((ae _).alloc _) (by simp)⟩,lm a2.o.lt⟩
 have h6:((w.alloc (.cells #[.slice none 0 0,.nilIface] 159 (0,0))).alloc (.cells #[.slice (some ⟨g,d,none⟩) L G6,.nilIface] 159 (0,0))).heap[w.heap.size]? =some (.cells #[.slice none 0 0,.nilIface] 159 (0,0)):=bt _ (an _);have z:Upd [] w ((w.alloc (.cells #[.slice none 0 0,.nilIface] 159 (0,0))).alloc (.cells #[.slice (some ⟨g,d,none⟩) L G6,.nilIface] 159 (0,0))):=a9.o.alloc _;have G:RdG ((w.alloc (.cells #[.slice none 0 0,.nilIface] 159 (0,0))).alloc (.cells #[.slice (some ⟨g,d,none⟩) L G6,.nilIface] 159 (0,0))) (.slice (some ⟨g,d+L,none⟩) 4 (G6-L)) g (Lib.beBytes 4 (crc body)):=bd.o.upd ((ae _).alloc _) (by simp);obtain⟨S,hS⟩:∃S,S=w.heap.size:=⟨_,rfl⟩;have HS:Hid (w.heap.size≤S):=aa (by omega);have be:g<S:=by omega
 have b5:=aa be;revert F h6 z G;rw[←hS];generalize ((w.alloc (.cells #[.slice none 0 0,.nilIface] 159 (0,0))).alloc (.cells #[.slice (some ⟨g,d,none⟩) L G6,.nilIface] 159 (0,0)))=wa;intro F h6 z G;have bg:=aa F;have H6:=aa h6;have b6:=aa z;have b7:=aa G;have b8:=aa (z.blk HT.o (by simp):ij wa tb);have HK:Hid (∀w',Upd [] wa w'→cm w' (S+1) g body∧ij w' tb):=aa (fun w' hu=>⟨bg.o.upd hu (by simp) (by simp),hu.blk b8.o (by simp)⟩);clear F h6 z G hS be bR bd a2 H1 a9
 go_region_held3 (fun w'=>True) (trivial) (first
  |(go_at_call 121;refine(vH (S+1) g tb body _ (HK.o _ (by with_reducible first|exact(ae _).drew|exact D.o)).1 (HK.o _ (by with_reducible first|exact(ae _).drew|exact D.o)).2 bW.o).mono ?_;rintro e _ ⟨rfl,rfl⟩)
  |(go_at_call 120;refine(qE g (crc body) _ [] _ (by rw[bk];exact b7.o.drew) (sw body)).mono ?_;rintro e w3 ⟨rfl,bl⟩;have D:=aa (cz bl);clear bl))
 all_goals
  have hb3:=D.o.blk H6.o (by simp);have bn:=bg.o.upd D.o (by simp) (by simp);obtain⟨br,cap3,N3,cA,b9,cB,cD,cE,ca,_⟩:=bn.open;have r0:=af hb3 0;have r1:=af hb3 1;have cF:=ao hb3 0;have cL:=ao hb3 1;have cc:=aa hb3;clear hb3 bn;go_wp2_with fail
  have bv:Upd [S] w3 ((w3.setCell ⟨S,0,none⟩ (.slice (some ⟨g,br,none⟩) N3 cap3)).setCell ⟨S,1,none⟩ .nilIface):=
   (((ae w3).mono (by simp)).setCell (by simp) _).setCell (by simp) _
  have cM:=b5.o;refine bodyPost_ret (results_cell_row rfl _ _ S 159 _ (0,0) _ rfl (au (au cc.o 0 _) 1 _) underlying159 rfl Tryz.sizeDec) rfl ?_;exact⟨_,rfl,ca.o.upd bv (by simp;omega),(b6.o.then D.o (by simp)).then bv (by have:=HS.o;simp;omega)⟩
end Go.Proofs.YtlgefdfflmgocaaGreatDoor
namespace Xc
open Go Go.RowKit Go.Sort
section
variable {α:Type} [Inhabited α] (lt:α→α→Bool)
theorem tW(a j:Nat)(d:Array α)(z:a<j)(hl:lt d[j]! d[j-1]! =true):insInner lt a j d=insInner lt a (j-1) (swp d j (j-1)):=by obtain⟨k,rfl⟩:∃k,j=k+1:=⟨j-1,by omega⟩;rw[insInner];simp only[Nat.add_sub_cancel]at hl⊢;simp[z,hl]
theorem qR(a j:Nat)(d:Array α)(h:j≤a∨lt d[j]! d[j-1]! =false):insInner lt a j d=d:=by
 cases j with
 |zero=>rw[insInner]
 |succ k=>
  rw[insInner];simp only[Nat.add_sub_cancel]at h;rcases h with h|h
  ·simp[show¬k+1>a by omega]
  ·simp[h]
theorem tX(a b i:Nat)(d:Array α)(h:i<b):insOuter lt a b i d=insOuter lt a b (i+1) (insInner lt a i d):=by rw[insOuter,if_pos h]
theorem qS(a b i:Nat)(d:Array α)(h:¬i<b):insOuter lt a b i d=d:=by rw[insOuter,if_neg h]
end
section
variable {α:Type} [Inhabited α] (enc:α→Value)
theorem nO(w:World)(m q blk off:Nat)(d:Array α):(putRow enc (Sort.ahead w m) blk off d).drewN q=putRow enc (Sort.ahead w (m+q)) blk off d:=by show Sort.ahead (putRow enc (Sort.ahead w m) blk off d) q=_;rw[putRow_ahead enc w m,ahead_ahead,←putRow_ahead]
theorem uO(w:World)(m q blk off:Nat)(d:Array α)(j k:Nat)(z:j<d.size)(A:k<d.size):
 (((putRow enc (Sort.ahead w m) blk off d).drewN q).setCell ⟨blk,off+j,none⟩ (enc d[k]!)).setCell ⟨blk,off+k,none⟩ (enc d[j]!)=putRow enc (Sort.ahead w (m+q)) blk off (swp d j k):=by
 rw[nO];exact putRow_swp enc _ blk off d j k z A
variable {w:World}
theorem qx(q n:Nat)(d:Array α):Upd [q] w (putRow enc (Sort.ahead w n) q 0 d):=by
 refine⟨rfl,rfl,rfl,?_,fun b hb hn=>?_⟩
 ·simp[putRow,mapBlock,Sort.ahead]
 ·have G5:q≠b:=fun e=>hn (by simp[e]);simp[putRow,mapBlock,Sort.ahead,im,G5]
theorem uT(os:Array Obj):Upd [] w (grow w os):=⟨rfl,rfl,rfl,by simp,fun b hb _=>heap_grow_old w os hb⟩
theorem re(d:Array α)(c:Array Value)(h:d.size≤c.size):(putCells enc 0 d c).toList.take d.size=d.toList.map enc:=by
 apply List.ext_getElem?;intro i;simp only[putCells,me,Array.getElem?_toList,Array.getElem?_mapIdx,cx];by_cases z:i<d.size
 ·have A:i<c.size:=by omega
  rw[if_pos z,dm A,dm z];simp[z]
 ·rw[if_neg z,Array.getElem?_eq_none (by omega)];rfl
theorem lJ{e:TypeId}{q n cap:Nat}{xs:List Value}(h:w.ownsRow 0 e 1 (.slice (some ⟨q,0,none⟩) n cap) n xs)(d:Array α)(F:d.size=n)(k:Nat):
 (putRow enc (Sort.ahead w k) q 0 d).ownsRow 0 e 1 (.slice (some ⟨q,0,none⟩) n cap) n (d.toList.map enc):=by
 refine⟨by simp[F],?_⟩;rcases h.2 with⟨hv,_⟩|⟨g,cap',cur,hv,hb,hg,z,A,D,_⟩
 ·cases hv
 ·cases hv;refine .inr ⟨q,cap,putCells enc 0 d cur,rfl,hb,?_,z,A,?_,?_⟩
  ·have hq:=lt_of_block hg;have G:w.heap[q]=.cells cur e (0,0):=by simpa[dm hq]using hg
   simp only[putRow,mapBlock,Sort.ahead,im,if_true,hg,gh,onCells]
  ·simp[putCells,D]
  ·rw[iI,←F];exact re enc d cur (by omega)
theorem nD{e:TypeId}{q n cap:Nat}{xs:List Value}(h:w.ownsRow 0 e 1 (.slice (some ⟨q,0,none⟩) n cap) n xs)(d:Array α)(D:d.size=n)(z:xs=d.toList.map enc):Holds enc w q 0 d:=by
 intro j A;have hl:j<xs.length:=by rw[h.1];omega
 have h1:=h.cells (g:=q) rfl j (enc d[j]!) (by rw[z,cx];simp[A]);rw[aO]at h1;refine⟨h1,?_⟩;rcases h.2 with⟨hv,_⟩|⟨g,cap',cur,hv,_,hg,_⟩
 ·cases hv
 ·cases hv;exact ao hg _
end
theorem yK{a b:List (List UInt8)}(h:a.Perm b):(a.mergeSort fun x y=>decide (x≤y))=b.mergeSort fun x y=>decide (x≤y):=by
 have tr:∀a b c:List UInt8,decide (a≤b)=true→decide (b≤c)=true→decide (a≤c)=true:=fun a b c h1 d=>by simp only[decide_eq_true_eq]at*;exact List.le_trans h1 d
 have z:∀a b:List UInt8,(decide (a≤b)||decide (b≤a))=true:=fun a b=>by have:=List.le_total a b;simpa using this
 refine List.Perm.eq_of_pairwise (le:=fun x y:List UInt8=>decide (x≤y)=true) (fun a b _ _ h1 d=>?_) (gJ tr z _) (gJ tr z _) ((eK _ _).trans (h.trans (eK _ _).symm));simp only[decide_eq_true_eq]at h1 d;exact List.le_antisymm h1 d
theorem tY(xs:List Nat):∃ys:List Nat,(insertionSort ltInt (xs.map Int.ofNat).toArray 0 xs.length).toList=ys.map Int.ofNat∧ys.Perm xs∧ys.Pairwise (· ≤·):=by
 obtain⟨⟨h1,_,D⟩,h4⟩:=insertionSort_holds swo_ltInt (xs.map Int.ofNat).toArray 0 xs.length (ay _) (by simp);generalize insertionSort ltInt (xs.map Int.ofNat).toArray 0 xs.length=d at*;have hs:d.size=xs.length:=by rw[h1];simp
 have e1:d.extract 0 xs.length=d:=by rw[←hs];exact Array.extract_size
 have e2:(xs.map Int.ofNat).toArray.extract 0 xs.length=(xs.map Int.ofNat).toArray:=by
  have:xs.length=(xs.map Int.ofNat).toArray.size:=by simp
  rw[this];exact Array.extract_size
 rw[e1,e2]at D;have A:∀x∈d.toList,∃n:Nat,x=Int.ofNat n:=by intro x F;have:=D.mem_iff.1 F;simp only[bU]at this;obtain⟨n,_,rfl⟩:=this;exact⟨n,rfl⟩
 have z:d.toList=(d.toList.map Int.toNat).map Int.ofNat:=by
  rw[bT];conv=>lhs;rw[←List.map_id d.toList]
  apply i6;intro x F;obtain⟨n,rfl⟩:=A x F;rfl
 refine⟨d.toList.map Int.toNat,z,?_,?_⟩
 ·have:=D.map Int.toNat;rw[bT]at this;have e:(Int.toNat∘Int.ofNat)=id:=by funext n;rfl
  rwa [e,List.map_id]at this
 ·rw[mB];intro i j V W G;have O:i<d.size:=by simpa using V
  have U:j<d.size:=by simpa using W
  have:=h4 i j (ay _) G (by omega);rw[getElem!_pos d j U,getElem!_pos d i O,ltInt,decide_eq_false_iff_not]at this;simp only[de,Array.getElem_toList];omega
end Xc
namespace Go.Proofs.YtlgefdfflmgocaaGreatDoor
section
open Go Go.RowKit Xc Go.Proofs.Tryz
attribute [local go_sem ↓] Go.wp_at_zero Go.wp_at_succ
variable {w:World} {k:WK} {r:WR} {s:WS}
theorem Tryz.infoLi:(Tryz.prog.info? 387).map (fun i=>(i.zero,i.size,i.bytes))=some (some (.agg #[.slice none 0 0,.int .u64 0]),2,32):=by kernel_rfl
theorem sJ(l:List (Nat×ByteArray×Nat))(x:Nat×ByteArray×Nat):jr (l++[x])=jr l++[.slice (some ⟨x.1,0,none⟩) 1 1,.int .u64 x.2.2]:=by simp[jr]
theorem qK{p b i j:Nat}(w:World)(v:Value)(h:p≠b):(w.setCell ⟨p,i,none⟩ v).cell? ⟨b,j,none⟩=w.cell? ⟨b,j,none⟩:=by simp only[World.cell?];rw[gv (k:=b) _ _ (by simpa using aF h)]
theorem yP(n q e P:Nat)(name:ByteArray)(w0:World)(h:WI w0 k r s)(hw:Upd [] w0 w)(be:w0.heap.size≤q)(hq:w.heap[q]? =some (.cells #[.string name] 9 (0,0)))(he:w.heap[e]? =some (.cells #[.slice (some ⟨q,0,none⟩) 1 1,.int .u64 P] 387 (0,0)))(hl:s.li.length<1000000):
 ∃V g' cap' w2,w0.cell? ⟨k.W,39,none⟩=some V∧
  Hid ((Builtin.append_ #[237,237] 237 #[V,.slice (some ⟨e,0,none⟩) 1 1]).run prog w=.ok (.slice (some ⟨g',0,none⟩) (s.li.length+1) cap') w2)∧Hid (Upd (gx (wl k r) [13]) w0 w2)∧
  Hid (WPL w0 k r n {s with li:=s.li++[(q,name,P)]} (w2.setCell ⟨k.W,39,none⟩ (.slice (some ⟨g',0,none⟩) (s.li.length+1) cap'))):=by
 obtain⟨c,hB⟩:=h.blk;obtain⟨V,a0,hr⟩:=hB.li;obtain⟨i0,A,a1,a2,a3⟩:=info_parts Tryz.infoLi;have O:=hw.row hr.own (by simp);have D:∀j u,[Value.slice (some ⟨q,0,none⟩) 1 1,.int .u64 P][j]? =some u→w.cell? ((⟨e,0,none⟩:Addr).add j)=some u:=by intro j u hu;rw[aO,af he,aK];simpa using hu
 obtain⟨g',cap',w2,W,G,hu,hg⟩:=dZ (P:=prog) w 237 237 387 i0 (.agg #[.slice none 0 0,.int .u64 0]) 2 32 underlying237 A a1 a2 a3 rfl (by decide) V s.li.length (jr s.li) O ⟨e,0,none⟩ 1 1 _ rfl D (by simp[Value.oneCell']) (by unfold maxLen;omega) (by omega) (by omega);rw[hr.blk]at hu hg;have a4:Upd r.gL.toList w0 w2:=(hw.mono (by simp)).then hu (fun i A _=>A);have U:Upd (gx (wl k r) [13]) w0 w2:=a4.mono (by intro b hb;exact cu.2 ⟨13,by simp,congrArg some (by simpa using hb)⟩)
 have F:∀b,(some g':Option Nat)=some b→(wl k r)[13]? =some (some b)∨w0.heap.size≤b:=by
  intro b hb;cases hb;rcases hg with hg|hg
  ·exact .inl (congrArg some hg)
  ·have:=hw.size;exact .inr (by omega)
 have a5:=U.blk hB.blk (nin h.dis (i:=0) rfl (by simp))
 have d:Upd (gx (wl k r) [0,13]) w0 (w2.setCell ⟨k.W,39,none⟩ (.slice (some ⟨g',0,none⟩) (s.li.length+1) cap')):=
  (U.mono (fun b hb=>by obtain⟨i,A,e⟩:=cu.1 hb;exact cu.2 ⟨i,by simp at A;simp[A],e⟩)).setCell (fun _=>cu.2 ⟨0,by simp,rfl⟩) _
 have hf:=h.frame _ d;have a6:k.W≠g':=by
  rcases hg with hg|hg
  ·exact h.dis.ne (i:=0) (j:=13) rfl (congrArg some hg) (by decide)
  ·have:=h.lt 0 _ rfl;have:=hw.size;omega
 have a7:g'<w2.heap.size:=(G.lt g' rfl).2;have z:wl k {r with gL:=some g'}=(wl k r).set 13 (some g'):=rfl;have a9:q≠g':=by
  rcases hg with hg|hg
  ·have:=h.lt 13 g' (congrArg some hg);omega
  ·have:=lt_of_block hq;omega
 refine⟨V,g',cap',w2,by rw[af hB.blk,a0],aa W,aa U,aa ⟨{r with gL:=some g'},⟨⟨_,au a5 39 _,?_,?_,?_,.slice (some ⟨g',0,none⟩) (s.li.length+1) cap',?_,?_,rfl⟩,hf.f (by simp) (by simp),hf.fP (by simp) (by simp),hf.fPO (by simp) (by simp),hf.mc (by simp),hf.mn (by simp),hf.dig (by simp) (by simp),?_,?_,?_⟩,⟨d.mono (eC (by simp)),?_,h.kept d (by simp) n⟩,WJ.mono (J:=[0,13]) ⟨d,fun i A=>by rw[z];exact qw i (fun hm=>A (by simp at hm;simp[hm])),by rw[z];exact eV F⟩ (by simp)⟩⟩
 ·exact⟨by simpa using hB.wf.size,fun i v A=>by
   by_cases ad:i=39
   ·subst ad;simp[wfl]at A
   ·rw[ba (aF ad)];exact hB.wf.at_ i v A⟩
 ·exact(hB.e1.set (by omega)).upd d (fun q hq=>nin h.dis (i:=11) (congrArg some hq) (by simp))
 ·exact(hB.e2.set (by omega)).upd d (fun q hq=>nin h.dis (i:=12) (congrArg some hq) (by simp))
 ·simp[hB.wf.size]
 ·have h1:=ownsRow_setCell_other G (a:=⟨k.W,39,none⟩) (by simpa[Value.ownBlock]using aF a6) (.slice (some ⟨g',0,none⟩) (s.li.length+1) cap');rw[sJ,ab];exact h1
 ·intro x hx;simp only[aA,ag]at hx;rcases hx with hx|rfl
  ·exact⟨hf.keys x hx,g5 h z F x hx⟩
  ·refine⟨?_,?_⟩
   ·have bb:q≠k.W:=by have:=h.lt 0 _ rfl;omega
    have bd:q∉r.gL.toList:=by
     intro hm;have:r.gL=some q:=by simpa using hm
     have:=h.lt 13 q (congrArg some this);omega
    have h2:w2.heap[q]? =some (.cells #[.string name] 9 (0,0)):=hu.blk hq bd;rw[qK _ _ (aF bb),af h2];rfl
   ·intro i ei;rw[z]at ei;rcases fz ei with⟨rfl,e2⟩|⟨_,e2⟩
    ·cases e2;exact a9 rfl
    ·have:=h.lt _ _ e2;simp at this;omega
 ·rw[z];exact iW h.dis h.lt F
 ·rw[z];exact iU h.lt d.size (fun b hb=>by cases hb;simpa[World.setCell]using a7)
 ·rw[z];exact eV F
end
section
open Go Go.RowKit Xc Go.Proofs.Tryz
attribute [local go_sem ↓] Go.wp_at_zero Go.wp_at_succ
variable {w:World} {k:WK} {r:WR} {s:WS}
def liB(xs:List Nat):Bytes:=Lib.beBytes 4 1++(Lib.beBytes 4 xs.length++fZ xs)
def liS(s:WS)(q:Nat)(name:ByteArray)(xs:List Nat)(b1:Bytes)(c:Nat):WS:=
 {s with bF:=s.bF++pad 4 s.bF.length++sec (liB xs),li:=s.li++[(q,name,(s.bF++pad 4 s.bF.length).length)],b1:=b1,crc:=c}
theorem zL(a b:Bytes):iK ld (crc a) b=crc (a++b):=(ny ld 0 a b).symm
theorem k9(n qv:Nat)(v:Value)(xs:List Nat)(name:ByteArray)(h:WI w k r s)(hv:nr w v qv xs)(hq:∀i:Nat,(wl k r)[i]?≠some (some qv))(hx:∀x∈xs,x<4294967296)(ds:xs.length<10000)(hn:n≤s.bF.length)(hl:s.bF.length<10000000)(b9:s.li.length<1000000):
 Calls prog 208 #[ptr k.W 0,.string name,v] w fun e w'=>e=.returned .nilIface∧∃q b1 c,WPL w k r n (liS s q name xs b1 c) w':=by
 have dF:=hv;obtain⟨o,cap,rfl,f5,G⟩:=dF;have d:=aa h;have dP:Hid (WT w k r n w r):=aa gZ;have dT:Hid (WJ w k r fL w r):=aa WJ.refl;have HC:=aa G;have HQ:=aa hq;have HX:=aa hx;have Hn:=aa (And.intro hn hl);have d0:=aa b9;obtain⟨M,hM⟩:∃M,M=xs.length:=⟨_,rfl⟩;rw[←hM]at ds⊢;have HM:=aa hM;clear h hv hq hx hn hl b9 hM G;go_enter func208,ntmps208
 go_wp2_with fail;refine((GD n 4 d.o Hn.o.1 (by decide) (by decide) (by have:=Hn.o.2;omega)).mono ?_);rintro e w1 ⟨rfl,r1,hI,hT,hJ⟩;have a2:=aa hI;have ea:=aa (ak d.o dP.o hT);have eb:=aa (bu dT.o (hJ.mono (by decide)));clear hI hT hJ;obtain⟨P,W,cP⟩:=a2.o.fpos;have c0:=a2.o.cell 0 _ rfl;have a1:Upd [] w1 (w1.alloc (.cells #[.string name] 9 (0,0))):=(ae w1).alloc _;have ca:Upd [] w1 (((w1.alloc (.cells #[.string name] 9 (0,0))).alloc (.cells #[.slice (some ⟨w1.heap.size,0,none⟩) 1 1,.int .u64 P] 387 (0,0))).drew):=(a1.alloc _).drew;obtain⟨lv,g',cap',w3,bv,HR,cg,ck⟩:=yP n w1.heap.size (w1.heap.size+1) P name w1 a2.o ca (aw _) (bQ (bt _ (an _))) (bQ (kr _ (by simp))) d0.o;have cn:=a1.cell (by simp) bv;have ef:=a1.cell (by simp) c0;have eg:=a1.cell (by simp) cP;have cp:Upd [] w1 ((w1.alloc (.cells #[.string name] 9 (0,0))).alloc (.cells #[.slice (some ⟨w1.heap.size,0,none⟩) 1 1,.int .u64 P] 387 (0,0))):=a1.alloc _;have cs:=cp.cell (by simp) bv;obtain⟨cc,bL⟩:=a2.o.blk;have bM:=cg.o.blk bL.blk (nin a2.o.dis (i:=0) rfl (by simp));have f39:=ao bM 39;have ei:w3.cell? ⟨k.W,39,none⟩=some lv:=by have h1:=af bL.blk 39;rw[bv]at h1;rw[af bM,←h1]
 clear a1 ca cp bL bM;go_wp2_with fail;go_cut [] (fun wx=>wx=w3.setCell ⟨k.W,39,none⟩ (.slice (some ⟨g',0,none⟩) (s.li.length+1) cap'))
 case first=>
  go_region_law ((refine df rfl _ _ _ rfl _ _ _ _ rfl rfl HR.o ?_))
  all_goals
   go_wp2_with fail;go_meet
   rfl
 case rest=>
  subst hcut;obtain⟨r4,ct,bO,cA⟩:=ck.o;have O:=aa ct;have bR:=aa (ak d.o ea.o bO);have bS:Hid (WJ w k r fL _ r4):=aa (bu eb.o cA);have ej:=aa (bO.newer);clear ct bO cA cP c0 bv cn ef eg cs f39 ei ck HR cg;obtain⟨q0,cB⟩:∃q0,q0=w1.heap.size:=⟨_,rfl⟩;rw[←cB]at O;clear cB ej;revert O bR bS;generalize w3.setCell ⟨k.W,39,none⟩ (.slice (some ⟨g',0,none⟩) (s.li.length+1) cap')=w4;intro bR bS O;obtain⟨A,hA⟩:∃A,A=s.bF++pad 4 s.bF.length:=⟨_,rfl⟩;have hP:P=A.length:=by rw[hA];exact W.o
  rw[show s.bF++pad 4 s.bF.length=A from hA.symm]at O;have W:=aa hP;have HA:=aa hA;have bW:n≤P∧P<11000000:=by have h1:=Hn.o.1;have h2:=Hn.o.2;have h3:=jE 4 s.bF.length (by decide);rw[hP,hA,ab];omega
  have f6:P<11000000:=bW.2;have U:=aa bW;have c0:=O.o.cell 0 _ rfl;have cP:w4.cell? ⟨k.F,1,none⟩=some (.int .u64 P):=by obtain⟨P',b5,hp⟩:=O.o.fpos;rw[hp,b5.o,W.o]
  have kc:=fun(w:World) (C:Array Value) (n c:Nat)=>Lib.run_convert_bytes_const (P:=prog) w 65 5 C n c underlying65 underlying5;clear hA hP bW;go_wp2_with fail;obtain⟨w5,cD,bw,bA,bB⟩:=nH w4 #[.int .u8 97,.int .u8 108,.int .u8 101,.int .u8 110] ia 5 4 4 (4,5) rfl rfl;rw[←cD,←bB];have el:=aa (O.o.new bw);have ep:=aa (ak d.o bR.o (dN O.o bw));have et:Hid (WJ w k r fL w5 r4):=aa (bu bS.o (i7 bw));have cE:=aa bA;have ev:=aa O.o.size_out;clear cD bw bA bB c0 cP kc;go_wp2_with fail;refine((g4 (n:=n) 65 1 el.o (by have h1:=U.o.1;have h2:=W.o;simp only;omega) (cV.o cE.o (by simp[ia]) rfl ev.o) (by have h1:=U.o.2;have h2:=W.o;simp only[ia,aj,ar];omega)).mono ?_);rintro e w6 ⟨rfl,r6,hI,hT,hJ⟩;have cF:=aa hI;have eE:=aa (ak d.o ep.o hT);have eG:=aa (bu et.o (hJ.mono (by decide)));clear hI hT hJ;have eN:=iY;have ad:=cF.o.cell 44 _ rfl;go_wp2_with fail;refine((sF n cF.o).mono ?_);rintro e w7 ⟨rfl,r7,hI,hT,hJ⟩;have eR:=aa hI;have e0:=aa (ak d.o eE.o hT);have e5:=aa (bu eG.o (hJ.mono (by decide)));clear hI hT hJ;clear eN ad;go_wp2_with fail;refine((jY n eR.o).mono ?_);rintro e w8 ⟨rfl,r8,hI,hT,hJ⟩;have e6:=aa hI;have e7:=aa (ak d.o e0.o hT);have e8:=aa (bu e5.o (hJ.mono (by decide)));clear hI hT hJ;go_wp2_with fail;refine((ku n 1 e6.o (by decide) (by simp)).mono ?_);rintro e w9 ⟨rfl,r9,hI,hT,hJ⟩;have e9:=aa hI;have fa:=aa (ak d.o e7.o hT);have fb:=aa (bu e8.o (hJ.mono (by decide)));clear hI hT hJ;go_wp2_with fail;refine((ku n M e9.o (by omega) (by simp[cd])).mono ?_);rintro e f7 ⟨rfl,f8,hI,hT,hJ⟩;have a0:=aa hI;have cL:=aa (ak d.o fa.o hT);have cM:=aa (bu fb.o (hJ.mono (by decide)));clear hI hT hJ;have ad:=a0.o.cell 44 _ rfl;go_wp2_with fail;go_still_tail 7,(by kernel_rfl)
  change wpList _ _ _ _ _ (World.drew _);go_wp2_with fail;refine((kw n a0.o.drew (by simp[cd])).mono ?_);rintro e f9 ⟨rfl,ga,hI,hT,hJ⟩;have a3:=aa hI;have cN:=aa (ak d.o cL.o (ak a0.o (dt a0.o) hT));have cO:=aa (bu cM.o (bu (i7 (ae _).drew) (hJ.mono (by decide))));clear hI hT hJ;clear ad;have b6:Hid (([]:Bytes)++Lib.beBytes 4 1++Lib.beBytes 4 M=Lib.beBytes 4 1++(Lib.beBytes 4 M++fZ (xs.take 0))):=aa (by simp[fZ]);have cX:Hid (iK ld 0 (([]:Bytes)++Lib.beBytes 4 1++Lib.beBytes 4 M)=crc (Lib.beBytes 4 1++(Lib.beBytes 4 M++fZ (xs.take 0)))):=aa (by rw[b6.o];rfl);go_wp2_with fail;refine(iC a3.o (fI _ _)).mono ?_;rintro e _ ⟨q2,G6,N2,rfl,gd,fc,rfl⟩;go_wp2_with fail;refine((g4 (n:=n) 65 1 a3.o (by have h1:=U.o.1;have h2:=W.o;simp only[ab];omega) (dD a3.o fc.o (fI _ _) (by decide) (by decide)) (by have h1:=U.o.2;have h2:=W.o;simp only[ia,ab,aj,ar,cd];omega)).mono ?_);rintro e gg ⟨rfl,fk,hI,hT,hJ⟩;have a4:=aa hI;have cY:=aa (ak d.o cN.o hT);have cZ:=aa (bu cO.o (hJ.mono (by decide)));clear hI hT hJ;simp only[cX.o]at a4;simp only[b6.o]at a4;clear cX b6;go_wp2_with fail;go_loopw [94] (fun i wr=>∃j:Nat,j≤M∧i=.int .i64 j∧∃r' b1,WI wr k r' {s with bF:=A++ia++(Lib.beBytes 4 1++(Lib.beBytes 4 M++fZ (xs.take j))),b1:=b1,crc:=crc (Lib.beBytes 4 1++(Lib.beBytes 4 M++fZ (xs.take j))),li:=s.li++[(q0,name,P)]}∧WT w k r n wr r'∧WJ w k r fL wr r') (fun i _=>M-(intOf i).toNat)
  case atStart=>exact⟨0,ay _,rfl,fk,_,a4.o,cY.o,cZ.o⟩
  case round=>
   obtain⟨j,hj,rfl,r13,gi,hI,hT,hJ⟩:=hrel;have a5:=aa hI;have bE:=aa hT;have bK:=aa hJ;by_cases gk:j<M
   ·have a6:j<xs.length:=by have:=HM.o;omega
    have G:wr.cell? ⟨qv,o+j,none⟩=some (.int .u32 (xs[j]:Nat)):=hT.upd.cell (fw HQ.o) (HC.o j a6);have hx:=HX.o _ (aq a6);have Ht:=aa (rq xs j a6);have c6:=aa (gq (xs.take j));have fr:=aa (cH j xs);generalize xs[j]=x at*;have fs:=aa hx;clear hI hT hJ hx;generalize wr=w13 at*;go_wp2_with fail;refine((jY n a5.o).mono ?_);rintro e c7 ⟨rfl,ft,hI,hT,hJ⟩;have V:=aa hI;have a7:=aa (ak d.o bE.o hT);have a9:=aa (bu bK.o (hJ.mono (by decide)));clear hI hT hJ;clear G;go_wp2_with fail;refine((D5 n x V.o fs.o (by simp)).mono ?_);rintro e fv ⟨rfl,fA,hI,hT,hJ⟩;have z:=aa hI;have bb:=aa (ak d.o a7.o hT);have bd:=aa (bu a9.o (hJ.mono (by decide)));clear hI hT hJ;have ad:=z.o.cell 44 _ rfl;go_wp2_with fail;go_still_tail 7,(by kernel_rfl)
    change wpList _ _ _ _ _ (World.drew _);go_wp2_with fail;refine((kw n z.o.drew (by simp[cd])).mono ?_);rintro e fE ⟨rfl,fN,hI,hT,hJ⟩;have D:=aa hI;have be:=aa (ak d.o bb.o (ak z.o (dt z.o) hT));have bg:=aa (bu bd.o (bu (i7 (ae _).drew) (hJ.mono (by decide))));clear hI hT hJ;clear ad;go_wp2_with fail;refine(iC D.o (fI _ _)).mono ?_;rintro e _ ⟨q3,cap3,N3,rfl,fP,b7,rfl⟩;go_wp2_with fail;refine((g4 (n:=n) 65 1 D.o (by have h1:=U.o.1;have h2:=W.o;simp only[ab];omega) (dD D.o b7.o (fI _ _) (by decide) (by decide)) (by have h1:=U.o.2;have h2:=W.o;have h3:=c6.o;have h4:=fr.o;simp only[ia,ab,aj,ar,cd];omega)).mono ?_);rintro e fX ⟨rfl,c8,hI,hT,hJ⟩;have F:=aa hI;have bl:=aa (ak d.o be.o hT);have bn:=aa (bu bg.o (hJ.mono (by decide)));clear hI hT hJ;go_wp2_with fail;refine⟨⟨j+1,by omega,rfl,c8,[]++Lib.beBytes 4 x,F.o.cast ?_,bl.o,bn.o⟩,by simp only[intOf];omega⟩;simp only[Ht.o,bz,zL,al]
   ·obtain rfl:j=M:=by omega
    clear hI hT hJ;generalize wr=w13 at*;have c9:Hid (Lib.beBytes 4 1++(Lib.beBytes 4 j++fZ (xs.take j))=liB xs):=aa (by rw[liB,HM.o,aS]);rw[c9.o]at a5;have b8:Hid ((liB xs).length=8+4*j):=aa (by rw[liB,ab,ab,cd,cd,gq,HM.o];omega);go_wp2_with fail;refine((jY n a5.o).mono ?_);rintro e c7 ⟨rfl,ft,hI,hT,hJ⟩;have V:=aa hI;have a7:=aa (ak d.o bE.o hT);have a9:=aa (bu bK.o (hJ.mono (by decide)));clear hI hT hJ;obtain⟨L,hL⟩:∃L,L=8+4*j:=⟨_,rfl⟩;have gF:L<50000:=by omega
    have c0:=V.o.cell 0 _ rfl;have cP:c7.cell? ⟨k.F,1,none⟩=some (.int .u64 ((P:Int)+4+L)):=by
     obtain⟨P',b5,hp⟩:=V.o.fpos;have h1:P'=P+4+L:=by have h2:=b5.o;have h3:=b8.o;have h4:=W.o;simp only[ia,ab,aj,ar]at h2;omega
     rw[hp,h1];congr 2
    have f0:¬(4294967295:Int)<(L:Int):=by omega
    have HL:=aa hL;clear hL;go_wp2_with fail;rw[show((P:Int)+4+L-P-4)=(L:Int)from by omega];clear f0 c0 cP;go_wp2_with fail;refine((ku n L V.o (by omega) (by simp)).mono ?_);rintro e fv ⟨rfl,fA,hI,hT,hJ⟩;have z:=aa hI;have bb:=aa (ak d.o a7.o hT);have bd:=aa (bu a9.o (hJ.mono (by decide)));clear hI hT hJ;go_wp2_with fail;refine(iC z.o (fI _ _)).mono ?_;rintro e _ ⟨q3,cap3,N3,rfl,fP,b7,rfl⟩;have f1:Hid (eX (A++ia++liB xs) P ([]++Lib.beBytes 4 L)=A++(Lib.beBytes 4 L++liB xs)):=aa (by rw[bz,al];exact lV _ _ _ _ _ W.o (by simp[ia,cd]));go_wp2_with fail;refine((jAt (n:=n) (pos:=P) z.o (dD z.o b7.o (fI _ _) (by decide) (by decide)) U.o.1 (by have h1:=W.o;simp only[ab,ar,cd,ia,aj];omega)).mono ?_);rintro e fE ⟨rfl,fN,hI,hT,hJ⟩;have D:=aa hI;have be:=aa (ak d.o bb.o hT);have bg:=aa (bu bd.o (hJ.mono (by decide)));clear hI hT hJ;rw[f1.o]at D;go_wp2_with fail;refine((jY n D.o).mono ?_);rintro e fX ⟨rfl,c8,hI,hT,hJ⟩;have F:=aa hI;have bl:=aa (ak d.o be.o hT);have bn:=aa (bu bg.o (hJ.mono (by decide)));clear hI hT hJ;have ad:=F.o.cell 44 _ rfl;go_wp2_with fail;go_still_tail 7,(by kernel_rfl)
    change wpList _ _ _ _ _ (World.drew _);go_wp2_with fail;refine((yg n F.o.drew (by simp)).mono ?_);rintro e gL ⟨rfl,gP,hI,hT,hJ⟩;have br:=aa hI;have dc:=aa (ak d.o bl.o (ak F.o (dt F.o) hT));have dd:=aa (bu bn.o (bu (i7 (ae _).drew) (hJ.mono (by decide))));clear hI hT hJ;clear ad;go_wp2_with fail;refine(iC br.o (fI _ _)).mono ?_;rintro e _ ⟨q4,f4,N4,rfl,g0,f2,rfl⟩;go_wp2_with fail;refine((g4 (n:=n) 65 1 br.o (by have h1:=U.o.1;have h2:=W.o;simp only[ab];omega) (dD br.o f2.o (fI _ _) (by decide) (by decide)) (by have h1:=U.o.2;have h2:=W.o;have h3:=b8.o;simp only[ab,cd,ar];omega)).mono ?_);rintro e g8 ⟨rfl,f3,hI,hT,hJ⟩;have dj:=aa hI;have dk:=aa (ak d.o dc.o hT);have dp:=aa (bu dd.o (hJ.mono (by decide)));clear hI hT hJ;go_wp2_with fail;go_ret;refine⟨rfl,q0,[]++Lib.beBytes 4 (crc (liB xs)),crc (liB xs),f3,dj.o.cast ?_,dk.o,dp.o⟩;have h1:L=(liB xs).length:=by rw[b8.o,HL.o]
    simp only[liS,sec,←h1,←HA.o,←W.o,bz,al]
end
end Go.Proofs.YtlgefdfflmgocaaGreatDoor
