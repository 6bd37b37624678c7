import Derived.Test.YtlgefdfflmgocaaGreatDoorQ05
import Derived.Sort.Walk0
set_option linter.all false
set_option maxRecDepth 100000
set_option maxHeartbeats 2000000
namespace Go.Proofs.YtlgefdfflmgocaaGreatDoor
open Go Go.RowKit Xc Go.Proofs.Tryz
attribute [local go_sem ↓] Go.wp_at_zero Go.wp_at_succ
def gtB(x y:Bytes):Bool:=decide (y<x)
theorem Fg(x:Bytes)(k:ByteArray):(!Op.bytesLess x k.toList&& !x==k.toList)=gtB x (sb k):=by
 have e2:k.toList=sb k:=bV k;rw[e2,bytesLess_eq,gtB];by_cases h1:x<sb k
 ·have:¬sb k<x:=fun h=>List.lt_asymm h1 h;simp[h1,this]
 ·by_cases z:x=sb k
  ·subst z;simp[h1]
  ·have d:sb k<x:=by
    by_cases d:sb k<x
    ·exact d
    ·exact absurd (List.le_antisymm (List.not_lt.1 d) (List.not_lt.1 h1)) z
   simp[h1,z,d]
theorem AV{a b:Bool}(h:a=b):Ending.returned (.bool a)=.returned (.bool b):=by rw[h]
structure pB(w:World)(X g off N cap:Nat)(r rc:Nat)(bs:Bytes)(A:Nat)(l:List Bytes):Prop where
 blk:w.heap[X]? =some (.cells #[.iface 139 (.slice (some ⟨g,off,none⟩) N cap),.int .i64 2,.int .i64 A,.slice (some ⟨r,0,none⟩) ((l.length+31)/32) rc,.int .i64 l.length] 394 (0,0))
 rd:RdG w (.slice (some ⟨g,off,none⟩) N cap) g bs
 offs:∀i,i<(l.length+31)/32→w.cell? ⟨r,i,none⟩=some (.int .i64 (gS A l i:Nat))
theorem pB.upd{w w':World}{X g off N cap r rc:Nat}{bs:Bytes}{A:Nat}{l:List Bytes}(h:pB w X g off N cap r rc bs A l)(hu:Upd [] w w'):pB w' X g off N cap r rc bs A l:=
 ⟨hu.blk h.blk (by simp),h.rd.upd hu (by simp),fun i d=>hu.cell (by simp) (h.offs i d)⟩
structure gY(bs a c:Bytes)(l:List Bytes)(A N:Nat):Prop where
 eq:bs=a++(sec (bi l)++c)
 fa:A=a.length
 fn:N=bs.length
 lt:N<1073741824
 few:l.length<65536
 small:∀s∈l,s.length<2097152
theorem gY.off{bs a c:Bytes}{l:List Bytes}{A N:Nat}(h:gY bs a c l A N)(i:Nat):bs.drop (gS A l i)=bj (l.drop (32*i))++(Lib.beBytes 4 (crc (bi l))++c)∧gS A l i≤N:=by refine⟨by rw[h.fa];exact tO bs a c l h.eq i,?_⟩;have h1:=congrArg List.length h.eq;rw[gS,h.fa,h.fn];have d:=gu l (32*i);simp only[ab,dx,bi,Lib.beBytes_length]at h1;omega
theorem gY.rest{bs a c:Bytes}{l:List Bytes}{A N:Nat}(h:gY bs a c l A N)(k:Nat):(bj (l.drop k)++(Lib.beBytes 4 (crc (bi l))++c)).length<1073741824:=by have h1:=congrArg List.length h.eq;have d:=gu l k;have z:=h.fn;have h4:=h.lt;simp only[ab,dx,bi,Lib.beBytes_length]at h1⊢;omega
theorem gY.read{bs a c:Bytes}{l:List Bytes}{A N:Nat}(h:gY bs a c l A N)(p g k:Nat)(d:k<l.length)(w:World)(z:cm w p g (bj (l.drop k)++(Lib.beBytes 4 (crc (bi l))++c))):
 Calls prog 128 #[.pointer (some ⟨p,0,none⟩)] w fun e w'=>∃v,e=.returned v∧RdG w' v g l[k]∧cm w' p g (bj (l.drop (k+1))++(Lib.beBytes 4 (crc (bi l))++c))∧Upd [p] w w':=by
 have hlen:=h.rest k;rw[jX l k d,ed,al,al]at z hlen;exact dM p g l[k] _ w z (h.small _ (aq d)) hlen
theorem gY.skip{bs a c:Bytes}{l:List Bytes}{A N:Nat}(h:gY bs a c l A N)(p g i:Nat)(w:World)(d:cm w p g bs):
 Calls prog 124 #[.pointer (some ⟨p,0,none⟩),.int .i64 (gS A l i:Nat)] w fun e w'=>e=.returned (.tuple #[])∧cm w' p g (bj (l.drop (32*i))++(Lib.beBytes 4 (crc (bi l))++c))∧Upd [p] w w':=by
 rw[←(h.off i).1];exact tF p g _ bs w d (by rw[←h.fn];exact(h.off i).2) (by rw[←h.fn];exact h.lt)
theorem pt(X g off N cap r rc Y i A:Nat)(k:ByteArray)(bs a c:Bytes)(l:List Bytes)(w:World)(hB:pB w X g off N cap r rc bs A l)(hF:gY bs a c l A N)(hY:w.heap[Y]? =some (.cells #[.string k] 9 (0,0)))(U:i<(l.length+31)/32)(a4:32*i<l.length):
 Calls prog 216 #[.int .i64 i,.pointer (some ⟨X,0,none⟩),.pointer (some ⟨Y,0,none⟩)] w fun e w'=>e=.returned (.bool (gtB l[32*i] (sb k)))∧Upd [] w w':=by
 have a5:=fp;have a6:=eA;have a7:=iv;have HF:=aa hF;have HB:=aa hB;have HY:=aa hY;have O:N≤cap:=by obtain⟨_,_,e,h,_⟩:=hB.rd;cases e;exact h.1
 have c0:w.cell? ⟨X,0,none⟩=some (.iface 139 (.slice (some ⟨g,off,none⟩) N cap)):=by rw[af hB.blk];rfl
 have V:w.heap.size≠X:=by have:=lt_of_block hB.blk;omega
 have bv:=hB.rd.lt;clear hF hB hY;go_enter func216,ntmps216
 go_wp2_with fail;go_cut [5] (fun v wx=>v=.pointer (some ⟨w.heap.size,0,none⟩)∧wx=(w.alloc (.cells #[.slice (some ⟨g,off,none⟩) N cap,.nilIface] 159 (0,0))).drew)
 case first=>
  go_region_held3 (fun w'=>w'.cell? ⟨X,0,none⟩=some (.iface 139 (.slice (some ⟨g,off,none⟩) N cap))) (go_keep) (first
   |(go_at_call 276;refine(tj g off N cap _).mono ?_;rintro e w2 ⟨rfl,rfl⟩)
   |(go_at_call 277;refine(ou g off N cap _ O).mono ?_;rintro e w2 ⟨rfl,rfl⟩))
  all_goals
   go_wp2_with fail;go_meet
   exact⟨rfl,rfl⟩
 case rest=>
  obtain⟨rfl,rfl⟩:=hcut;have d:Upd [] w (w.alloc (.cells #[.slice (some ⟨g,off,none⟩) N cap,.nilIface] 159 (0,0))).drew:=((ae w).alloc _).drew
  have D:cm (w.alloc (.cells #[.slice (some ⟨g,off,none⟩) N cap,.nilIface] 159 (0,0))).drew w.heap.size g bs:=
   ⟨⟨_,an _,HB.o.rd.upd d (by simp)⟩,by omega⟩
  have z:=HB.o.upd d;have F:=d.blk HY.o (by simp);revert d D z F;clear c0 V a5 a6 a7 HB;generalize (w.alloc (.cells #[.slice (some ⟨g,off,none⟩) N cap,.nilIface] 159 (0,0))).drew=w2;generalize hp:w.heap.size=p;intro d D z F;have c3:w2.cell? ⟨X,3,none⟩=some (.slice (some ⟨r,0,none⟩) ((l.length+31)/32) rc):=by rw[af z.blk];rfl
  have co:=z.offs i U;have a9:=aa d;have bb:=aa D;have bd:=aa F;have be:(0:Int)≤(i:Int):=by omega
  obtain⟨n,hn⟩:∃n,n=(l.length+31)/32:=⟨_,rfl⟩;rw[←hn]at c3 U;have bg:(i:Int)<(n:Int):=by omega
  clear d D F z hn;go_wp2_with (go_at_call 124;refine(HF.o.skip p g i _ bb.o).mono ?_;rintro e w3 ⟨rfl,W,ad⟩;have bl:=aa W;have a0:=aa ad;clear W ad);have a1:Y≠p:=by have:=lt_of_block HY.o;omega
  have cY:w3.cell? ⟨Y,0,none⟩=some (.string k):=a0.o.cell (by simpa using a1) (by rw[af bd.o];rfl);have bn:=aa (Fg l[32*i] k);clear co c3 be bg
  go_region_held3 (fun w'=>w'.cell? ⟨Y,0,none⟩=some (.string k)) (go_keep) (first
   |(go_at_call 128;refine(HF.o.read p g (32*i) a4 _ bl.o.drew).mono ?_;rintro e w4 ⟨v4,rfl,a2,_,a3⟩;have G:=cz a3;have bw:=G.cell (a:=⟨Y,0,none⟩) (by simpa using a1) cY;have br:=aa a2;clear a2 a3)
   |(go_at_call 129;refine(tw g _ _ _ br.o).mono ?_;rintro e w5 ⟨rfl,rfl⟩))
  all_goals
   go_wp2_with fail;go_ret;refine⟨?_,a9.o.then (a0.o.then G (fun i U _=>U)) (by intro i U hl;simp at U;omega)⟩;exact AV bn.o
theorem j8(w:World)(d z:Obj):∃w1,w1=(w.alloc d).alloc z∧Upd [] w w1∧w1.heap[w.heap.size]? =some d∧w1.heap[w.heap.size+1]? =some z∧w1.heap.size=w.heap.size+2:=by refine⟨_,rfl,((ae w).alloc _).alloc _,(eB _ (by simp)).trans (an _),?_,by simp⟩;have:=an (w:=w.alloc d) z;rw[aJ]at this;exact this
theorem C6(x:Bytes)(k:ByteArray)(h:x<sb k):Op.bytesLess x k.toList=true:=by have e2:k.toList=sb k:=bV k;rw[e2,bytesLess_eq];simpa using h
theorem zY(k:ByteArray):Op.bytesLess (sb k) k.toList=false:=by have e2:k.toList=sb k:=bV k;rw[e2,bytesLess_eq];simp[cT]
theorem zS(k:ByteArray):(sb k==k.toList)=true:=by have e2:k.toList=sb k:=bV k;rw[e2];simp
theorem qI(g off N cap r rc A m:Nat)(k:ByteArray)(bs a c:Bytes)(l:List Bytes)(w:World)(hF:gY bs a c l A N)(hr:RdG w (.slice (some ⟨g,off,none⟩) N cap) g bs)
 (ho:∀i,i<(l.length+31)/32→w.cell? ⟨r,i,none⟩=some (.int .i64 (gS A l i:Nat)))(hm:m<l.length)(hk:l[m]=sb k)(hs:l.Pairwise (· <·)):
 Calls prog 180 #[.agg #[.iface 139 (.slice (some ⟨g,off,none⟩) N cap),.int .i64 2,.int .i64 A,.slice (some ⟨r,0,none⟩) ((l.length+31)/32) rc,.int .i64 l.length],.string k] w fun e w'=>
  e=.returned (.tuple #[.int .u32 m,.nilIface])∧Upd [] w w':=by
 have cY:=fp;have cZ:=eA;have c6:=iv;have HF:=aa hF;have HR:=aa hr;have HO:=aa ho;have HK:=aa hk;have HS:=aa hs;have bB:N≤cap:=by obtain⟨_,_,e,h,_⟩:=hr;cases e;exact h.1
 have dp:=hr.lt;have ds:=hF.few;obtain⟨n,hn⟩:∃n,n=(l.length+31)/32:=⟨_,rfl⟩;have hn0:0<n:=by omega
 have Hn:=aa hn;have c7:n<1073741824:=by omega
 rw[←hn];clear hF hr ho hk hs hn;go_enter func180,ntmps180
 obtain⟨w1,ca,cc,cg,ck,dF⟩:=j8 w (.cells #[.iface 139 (.slice (some ⟨g,off,none⟩) N cap),.int .i64 2,.int .i64 A,.slice (some ⟨r,0,none⟩) n rc,.int .i64 l.length] 394 (0,0)) (.cells #[.string k] 9 (0,0));have bE:=aa cc;have cn:=aa cg;have bK:=aa ck;have cp:=aa ca;clear cc cg ck ca;go_wp2_with fail;rw[←cp.o];have bL:Hid (pB w1 w.heap.size g off N cap r rc bs A l):=aa ⟨by rw[←Hn.o];exact cn.o,HR.o.upd bE.o (by simp),fun i hi=>bE.o.cell (by simp) (HO.o i hi)⟩;refine(ze n _ _ (fun i=>gtB (l.getD (32*i) []) (sb k)) (fun w'=>Upd [] w1 w') w1 c7 (ae w1) ?hf).mono ?_;case hf=>
  intro i w' hi hu;have a6:32*i<l.length:=by have:=Hn.o;omega
  have hg:l.getD (32*i) []=l[32*i]:=by simp[List.getD,a6]
  rw[hg];refine(pt w.heap.size g off N cap r rc (w.heap.size+1) i A k bs a c l w' (bL.o.upd hu) HF.o (hu.blk bK.o (by simp)) (by rw[←Hn.o];exact hi) a6).mono ?_;rintro e bM ⟨rfl,c8⟩;exact⟨rfl,hu.then c8 (by simp)⟩
 rintro e w2 ⟨i0,rfl,dk,cs,_,a7⟩;obtain⟨i1,ct,cA,bA,cB⟩:∃i1,(0<i0→i0=i1+1)∧(i0=0→i1=0)∧32*i1≤m∧i1<n:=by
  by_cases h0:i0=0
  ·exact⟨0,by omega,fun _=>rfl,by omega,hn0⟩
  ·refine⟨i0-1,by omega,by omega,?_,by omega⟩;have a6:32*(i0-1)<l.length:=by have:=Hn.o;omega
   have hp:gtB (l.getD (32*(i0-1)) []) (sb k)=false:=by
    rcases cs with h|h
    ·exact absurd h h0
    ·exact h
   have hg:l.getD (32*(i0-1)) []=l[32*(i0-1)]:=by simp[List.getD,a6]
   rw[hg,gtB,←HK.o]at hp;have c9:¬l[m]<l[32*(i0-1)]:=by simpa using hp
   by_cases hle:32*(i0-1)≤m
   ·exact hle
   ·exact absurd (List.pairwise_iff_getElem.1 HS.o m (32*(i0-1)) hm a6 (by omega)) c9
 have dc:=aa a7;have bO:=aa (bL.o.upd a7);have cD:=aa (a7.blk bK.o (by simp));have dP:w.heap.size+2≤w2.heap.size:=by have:=a7.size;omega
 clear a7 bL cn bK cs cp;have c0:w2.cell? ⟨w.heap.size,0,none⟩=some (.iface 139 (.slice (some ⟨g,off,none⟩) N cap)):=by rw[af bO.o.blk];rfl
 have cE:w2.heap.size≠w.heap.size:=by omega
 go_wp2_with fail;go_cut [7] (fun v wx=>v=.pointer (some ⟨w2.heap.size,0,none⟩)∧wx=(w2.alloc (.cells #[.slice (some ⟨g,off,none⟩) N cap,.nilIface] 159 (0,0))).drew)
 case first=>
  go_region_held3 (fun w'=>w'.cell? ⟨w.heap.size,0,none⟩=some (.iface 139 (.slice (some ⟨g,off,none⟩) N cap))) (go_keep) (first
   |(go_at_call 276;refine(tj g off N cap _).mono ?_;rintro e w2 ⟨rfl,rfl⟩)
   |(go_at_call 277;refine(ou g off N cap _ bB).mono ?_;rintro e w2 ⟨rfl,rfl⟩))
  all_goals
   go_wp2_with fail;go_meet
   exact⟨rfl,rfl⟩
 case rest=>
  obtain⟨rfl,rfl⟩:=hcut;have ad:Upd [] w2 (w2.alloc (.cells #[.slice (some ⟨g,off,none⟩) N cap,.nilIface] 159 (0,0))).drew:=((ae w2).alloc _).drew
  have bv:cm (w2.alloc (.cells #[.slice (some ⟨g,off,none⟩) N cap,.nilIface] 159 (0,0))).drew w2.heap.size g bs:=
   ⟨⟨_,an _,bO.o.rd.upd ad (by simp)⟩,by omega⟩
  have V:=bO.o.upd ad;have bw:=ad.blk cD.o (by simp);revert ad bv V bw;clear c0 cE cY cZ c6 cD;generalize (w2.alloc (.cells #[.slice (some ⟨g,off,none⟩) N cap,.nilIface] 159 (0,0))).drew=w3;generalize hp:w2.heap.size=p at*;generalize dT:w.heap.size=X at*;intro ad bv V bw;have c3:w3.cell? ⟨X,3,none⟩=some (.slice (some ⟨r,0,none⟩) n rc):=by rw[af V.blk,Hn.o];rfl
  have c1:w3.cell? ⟨X,1,none⟩=some (.int .i64 2):=by rw[af V.blk];rfl
  have c4:w3.cell? ⟨X,4,none⟩=some (.int .i64 l.length):=by rw[af V.blk];rfl
  have co:=V.offs i1 (by rw[←Hn.o];exact cB);have cF:=aa ((bE.o.then dc.o (by simp)).then ad (by simp));have cL:=aa bv;have cM:=aa V;have cN:=aa bw;have cO:(0:Int)≤(i1:Int):=by omega
  have cP:(i1:Int)<(n:Int):=by omega
  have cX:∀w' bM:World,Upd [] w w'→Upd [p] w' bM→Upd [] w bM:=fun _ _ h1 h2=>h1.then h2 (fun i hi hl=>by simp at hi;omega);have a5:=aa cX;clear ad bv bw V cX;have key:i0=i1∨i0=i1+1:=by omega
  have a9:i0=i1→i1=0:=by omega
  clear ct cA;rcases key with rfl|rfl
  ·have hz:=a9 rfl;have d0:¬(0:Int)<(i0:Int):=by omega
   clear hz a9;go_wp2_with (go_at_call 124;refine(HF.o.skip p g i0 _ cL.o).mono ?_;rintro e w4 ⟨rfl,bb,O⟩;have bR:=aa bb;have bS:=aa (a5.o _ _ cF.o O);have bW:=aa (O.blk cM.o.blk (by simp;omega));have b5:=aa (O.blk cN.o (by simp;omega));clear bb O);clear c1 c3 c4 co;go_loopw [8,9,10] (fun a _ _ wr=>∃j,a=.int .i64 (j:Nat)∧32*i0≤j∧j≤m∧cm wr p g (bj (l.drop j)++(Lib.beBytes 4 (crc (bi l))++c))∧Upd [] w wr∧wr.heap[X]? =some (.cells #[.iface 139 (.slice (some ⟨g,off,none⟩) N cap),.int .i64 2,.int .i64 A,.slice (some ⟨r,0,none⟩) ((l.length+31)/32) rc,.int .i64 l.length] 394 (0,0))∧wr.heap[X+1]? =some (.cells #[.string k] 9 (0,0))) (fun a _ _ _=>m+1-(intOf a).toNat)
   case atStart=>exact⟨32*i0,by congr 1;omega,aw _,bA,bR.o,bS.o,bW.o,b5.o⟩
   case round=>
    obtain⟨j,rfl,cO,cP,bd,be,a0,bg⟩:=hrel;have z:=aa bd;have bl:=aa be;have bn:=aa a0;have a1:=aa bg;have c4:wr.cell? ⟨X,4,none⟩=some (.int .i64 l.length):=by rw[af a0];rfl
    clear bd be a0 bg;have a2:j<l.length:=by omega
    have dd:(j:Int)≤(l.length:Int):=by omega
    by_cases b6:j=m
    ·subst b6;have hb1:=zY k;have hb2:=zS k;have U:=aa (fun w h=>HF.o.read p g j a2 w h);rw[HK.o]at U
     go_wp2_with (first
      |(go_at_call 118;refine(je p g _ _ (by first|exact D.o|exact z.o)).mono ?_;rintro e W ⟨rfl,rfl⟩)
      |(go_at_call 126;refine(kL p g _ _ z.o).mono ?_;rintro e W ⟨rfl,rfl⟩)
      |(go_at_call 128;refine(U.o _ z.o).mono ?_;rintro e W ⟨v5,rfl,F,G,d⟩;have D:=aa G;have a3:=aa F;have a4:=aa (a5.o _ _ bl.o d);have b7:W.cell? ⟨X+1,0,none⟩=some (.string k):=(by rw[af (d.blk a1.o (by simp;omega))];rfl);have dj:W.cell? ⟨X,1,none⟩=some (.int .i64 2):=(by rw[af (d.blk bn.o (by simp;omega))];rfl);clear F G d)
      |(go_at_call 129;refine(tw g _ _ _ a3.o).mono ?_;rintro e w6 ⟨rfl,rfl⟩))
     go_ret2
     exact⟨rfl,a4.o⟩
    ·have br:j<m:=by omega
     have hb1:=C6 l[j] k (by rw[←HK.o];exact List.pairwise_iff_getElem.1 HS.o j m a2 hm br);have U:=aa (fun w h=>HF.o.read p g j a2 w h)
     go_wp2_with (first
      |(go_at_call 118;refine(je p g _ _ z.o).mono ?_;rintro e W ⟨rfl,rfl⟩)
      |(go_at_call 126;refine(kL p g _ _ z.o).mono ?_;rintro e W ⟨rfl,rfl⟩)
      |(go_at_call 128;refine(U.o _ z.o).mono ?_;rintro e W ⟨v5,rfl,F,G,d⟩;have D:=aa G;have a3:=aa F;have a4:=aa (a5.o _ _ bl.o d);have b7:W.cell? ⟨X+1,0,none⟩=some (.string k):=(by rw[af (d.blk a1.o (by simp;omega))];rfl);have b8:=aa (d.blk bn.o (by simp;omega));have b9:=aa (d.blk a1.o (by simp;omega));clear F G d)
      |(go_at_call 129;refine(tw g _ _ _ a3.o).mono ?_;rintro e w6 ⟨rfl,rfl⟩))
     exact⟨⟨j+1,rfl,by omega,by omega,D.o,a4.o,b8.o,b9.o⟩,by simp only[intOf];omega⟩
  ·clear a9;go_wp2_with (go_at_call 124;refine(HF.o.skip p g i1 _ cL.o).mono ?_;rintro e w4 ⟨rfl,bb,O⟩;have bR:=aa bb;have bS:=aa (a5.o _ _ cF.o O);have bW:=aa (O.blk cM.o.blk (by simp;omega));have b5:=aa (O.blk cN.o (by simp;omega));clear bb O);clear c1 c3 c4 co;go_loopw [8,9,10] (fun a _ _ wr=>∃j,a=.int .i64 (j:Nat)∧32*i1≤j∧j≤m∧cm wr p g (bj (l.drop j)++(Lib.beBytes 4 (crc (bi l))++c))∧Upd [] w wr∧wr.heap[X]? =some (.cells #[.iface 139 (.slice (some ⟨g,off,none⟩) N cap),.int .i64 2,.int .i64 A,.slice (some ⟨r,0,none⟩) ((l.length+31)/32) rc,.int .i64 l.length] 394 (0,0))∧wr.heap[X+1]? =some (.cells #[.string k] 9 (0,0))) (fun a _ _ _=>m+1-(intOf a).toNat)
   case atStart=>exact⟨32*i1,by congr 1;omega,aw _,bA,bR.o,bS.o,bW.o,b5.o⟩
   case round=>
    obtain⟨j,rfl,cO,cP,bd,be,a0,bg⟩:=hrel;have z:=aa bd;have bl:=aa be;have bn:=aa a0;have a1:=aa bg;have c4:wr.cell? ⟨X,4,none⟩=some (.int .i64 l.length):=by rw[af a0];rfl
    clear bd be a0 bg;have a2:j<l.length:=by omega
    have dd:(j:Int)≤(l.length:Int):=by omega
    by_cases b6:j=m
    ·subst b6;have hb1:=zY k;have hb2:=zS k;have U:=aa (fun w h=>HF.o.read p g j a2 w h);rw[HK.o]at U
     go_wp2_with (first
      |(go_at_call 118;refine(je p g _ _ (by first|exact D.o|exact z.o)).mono ?_;rintro e W ⟨rfl,rfl⟩)
      |(go_at_call 126;refine(kL p g _ _ z.o).mono ?_;rintro e W ⟨rfl,rfl⟩)
      |(go_at_call 128;refine(U.o _ z.o).mono ?_;rintro e W ⟨v5,rfl,F,G,d⟩;have D:=aa G;have a3:=aa F;have a4:=aa (a5.o _ _ bl.o d);have b7:W.cell? ⟨X+1,0,none⟩=some (.string k):=(by rw[af (d.blk a1.o (by simp;omega))];rfl);have dj:W.cell? ⟨X,1,none⟩=some (.int .i64 2):=(by rw[af (d.blk bn.o (by simp;omega))];rfl);clear F G d)
      |(go_at_call 129;refine(tw g _ _ _ a3.o).mono ?_;rintro e w6 ⟨rfl,rfl⟩))
     go_ret2
     exact⟨rfl,a4.o⟩
    ·have br:j<m:=by omega
     have hb1:=C6 l[j] k (by rw[←HK.o];exact List.pairwise_iff_getElem.1 HS.o j m a2 hm br);have U:=aa (fun w h=>HF.o.read p g j a2 w h)
     go_wp2_with (first
      |(go_at_call 118;refine(je p g _ _ z.o).mono ?_;rintro e W ⟨rfl,rfl⟩)
      |(go_at_call 126;refine(kL p g _ _ z.o).mono ?_;rintro e W ⟨rfl,rfl⟩)
      |(go_at_call 128;refine(U.o _ z.o).mono ?_;rintro e W ⟨v5,rfl,F,G,d⟩;have D:=aa G;have a3:=aa F;have a4:=aa (a5.o _ _ bl.o d);have b7:W.cell? ⟨X+1,0,none⟩=some (.string k):=(by rw[af (d.blk a1.o (by simp;omega))];rfl);have b8:=aa (d.blk bn.o (by simp;omega));have b9:=aa (d.blk a1.o (by simp;omega));clear F G d)
      |(go_at_call 129;refine(tw g _ _ _ a3.o).mono ?_;rintro e w6 ⟨rfl,rfl⟩))
     exact⟨⟨j+1,rfl,by omega,by omega,D.o,a4.o,b8.o,b9.o⟩,by simp only[intOf];omega⟩
section
variable {w:World} {k:WK} {r:WR} {s:WS}
theorem Upd.setBlock{w:World}{b:Nat}{es:Array MapEntry}{clock:Nat}(hb:w.heap[b]? =some (.map es clock))(o:Obj):Upd [b] w (ChangeMaps.setBlock w b o):=
 ⟨rfl,rfl,rfl,by simp[ChangeMaps.setBlock],fun i _ hn=>ChangeMaps.heap_setBlock_other hb o (by simpa using hn)⟩
theorem WI.setMC(n:Nat)(h:WI w k r s)(l:List (ByteArray×Value)):WI (ChangeMaps.setBlock w k.MC (smap l)) k r {s with cache:=l}∧WT w k r n (ChangeMaps.setBlock w k.MC (smap l)) r:=by
 have hu:Upd (gx (wl k r) [4]) w (ChangeMaps.setBlock w k.MC (smap l)):=Upd.setBlock h.mc _;have hf:=h.frame _ hu;obtain⟨c,hb⟩:=hf.blk (by simp) (by simp) (by simp) (by simp)
 exact⟨⟨⟨c,hb.blk,hb.wf.as rfl,hb.e1,hb.e2,hb.li⟩,hf.f (by simp) (by simp),hf.fP (by simp) (by simp),hf.fPO (by simp) (by simp),ChangeMaps.heap_setBlock_same h.mc _,hf.mn (by simp),hf.dig (by simp) (by simp),
  fun x d=>⟨hf.keys x d,(h.keys x d).2⟩,h.dis,h.lt.mono hu.size⟩,hu.mono (eC (by simp)),fun _ _ e=>.inl e,h.kept hu (by simp) n⟩
theorem WI.setMN(n:Nat)(h:WI w k r s)(l:List (ByteArray×Value)):WI (ChangeMaps.setBlock w k.MN (smap l)) k r {s with names:=l}∧WT w k r n (ChangeMaps.setBlock w k.MN (smap l)) r:=by
 have hu:Upd (gx (wl k r) [5]) w (ChangeMaps.setBlock w k.MN (smap l)):=Upd.setBlock h.mn _;have hf:=h.frame _ hu;obtain⟨c,hb⟩:=hf.blk (by simp) (by simp) (by simp) (by simp)
 exact⟨⟨⟨c,hb.blk,hb.wf.as rfl,hb.e1,hb.e2,hb.li⟩,hf.f (by simp) (by simp),hf.fP (by simp) (by simp),hf.fPO (by simp) (by simp),hf.mc (by simp),ChangeMaps.heap_setBlock_same h.mn _,hf.dig (by simp) (by simp),
  fun x d=>⟨hf.keys x d,(h.keys x d).2⟩,h.dis,h.lt.mono hu.size⟩,hu.mono (eC (by simp)),fun _ _ e=>.inl e,h.kept hu (by simp) n⟩
theorem iT:vf prog 9 ByteArray Value.string:=wG underlying9
def symS(s:WS)(sym:ByteArray):WS:=
 {s with bF:=s.bF++ed (sb sym),lastSym:=sym,cache:=cf sym (.int .u32 s.nsym) s.cache,nsym:=s.nsym+1,b1:=ed (sb sym)}
theorem wV(x:Bytes):ed x≠[]:=by intro h;have h1:=congrArg List.length h;have d:=Lib.uvarint_pos x.length;rw[ed,ab]at h1;simp only[ar]at h1;omega
theorem um(a b:ByteArray)(h:sb a<sb b):Op.bytesLess b.toList a.toList=false∧(b.toList==a.toList)=false:=by have d:a.toList=sb a:=bV a;have z:b.toList=sb b:=bV b;rw[d,z,bytesLess_eq];refine⟨by simpa using List.le_of_lt h,?_⟩;simp;intro e;rw[show b=a from ByteArray.ext e]at h;exact cT _ h
theorem ri(n:Nat)(sym:ByteArray)(s1:WS)(h:WI w k r s)(bB:Calls prog 91 #[ptr k.W 0,.int .u8 1] w fun e w'=>e=.returned .nilIface∧WP w k r n s1 w')
 (bb:s1.nsym=0∨sb s1.lastSym<sb sym)(bE:sym.size<1000000)(hns:s1.nsym<65536)(hn:n≤s1.bF.length)(hl:s1.bF.length<100000000):
 Calls prog 48 #[ptr k.W 0,.string sym] w fun e w'=>e=.returned .nilIface∧WP w k r n (symS s1 sym) w':=by
 have z:=aa h;have bR:=aa bB;have Hn:=aa hn;have Hl:=aa hl;clear h bB hn hl;obtain⟨N,hN⟩:∃N,N=s1.nsym:=⟨_,rfl⟩;rw[←hN]at bb hns;have HN:=aa hN;clear hN;go_enter func48,ntmps48
 go_wp2_with fail;refine bR.o.mono ?_;rintro e w1 ⟨rfl,r1,hI,hT⟩;have bK:=aa hI;have bL:=aa hT;have W:w1.cell? ⟨k.W,34,none⟩=some (.int .i64 N):=by rw[hI.cell 34 _ rfl,HN.o]
 have bM:=hI.cell 37 _ rfl;have f37:=hI.free 37;clear hI hT;have hm:(N:Int) % 4294967296=N:=by omega
 have bO:N=0∨(0<N∧Op.bytesLess sym.toList s1.lastSym.toList=false∧(sym.toList==s1.lastSym.toList)=false):=by
  by_cases h0:N=0
  ·exact .inl h0
  ·rcases bb with h|h
   ·exact absurd h h0
   ·exact .inr ⟨by omega,um _ _ h⟩
 clear bb;rcases bO with bd|⟨bd,hb1,hb2⟩
 ·have ad:((N:Int) !=0)=false:=by simp[bd]
  clear bd;go_wp2_with fail;clear ad;obtain⟨a0,a1⟩:=bK.o.set_lastSym n sym;have d:=aa a0;have F:=aa (ak z.o bL.o a1);clear a0 a1 W bM f37;revert d F;generalize w1.setCell ⟨k.W,37,none⟩ (.string sym)=w2;intro d F;have W:w2.cell? ⟨k.W,34,none⟩=some (.int .i64 N):=by rw[d.o.cell 34 _ rfl];simp only[HN.o]
  have be:=d.o.cell 38 _ rfl;have bg:=dB (w:=w2.drew) Value.string iT underlying236 d.o.drew.mc sym (.int .u32 (N:Int));go_still_tail 10,(by kernel_rfl)
  change wpList _ _ _ _ _ (World.drew _);obtain⟨A,a2⟩:=d.o.drew.setMC n (cf sym (.int .u32 (N:Int)) s1.cache);have G:=aa A;have O:=aa (ak z.o F.o (ak d.o (dt d.o) a2));have a3:(ChangeMaps.setBlock w2.drew k.MC (bI Value.string (cf sym (.int .u32 (N:Int)) s1.cache))).cell? ⟨k.W,34,none⟩=some (.int .i64 N):=by rw[A.cell 34 _ rfl];simp only[HN.o]
  have a4:=A.free 34;clear A a2;go_wp2_with fail;clear bg W be a3 a4;revert G O;generalize ChangeMaps.setBlock w2.drew k.MC (smap (cf sym (.int .u32 (N:Int)) s1.cache))=w3;intro G O;obtain⟨a5,a6⟩:=G.o.set_nsym n (N+1);have U:=aa a5;have V:=aa (ak z.o O.o a6);clear a5 a6;rw[show((N:Int)+1)=((N+1:Nat):Int)from by omega];revert U V;generalize w3.setCell ⟨k.W,34,none⟩ (.int .i64 ((N+1:Nat):Int))=w4;intro U V;go_wp2_with fail;refine((iZ n U.o).mono ?_);rintro e w5 ⟨rfl,r5,hI,hT⟩;have bl:=aa hI;have bn:=aa (ak z.o V.o hT);clear hI hT;go_wp2_with fail;refine((xv n sym bl.o bE (by simp)).mono ?_);rintro e w6 ⟨rfl,r6,hI,hT⟩;have D:=aa hI;have br:=aa (ak z.o bn.o hT);clear hI hT;have HB:Hid ([]++(Lib.uvarint sym.size++sb sym)=ed (sb sym)):=aa (by rw[bz,ed,dA]);rw[HB.o]at D;have a7:Hid (ed (sb sym)≠[]):=aa (wV _);have a9:Hid (s1.bF.length+(ed (sb sym)).length<1073741824):=aa (by have h1:=Hl.o;have h2:=bh sym.size (by omega);rw[ed,dA,ab,dA];omega);go_wp2_with fail;refine(iC D.o a7.o).mono ?_;rintro e _ ⟨q,cap,N6,rfl,bS,bv,rfl⟩;go_wp2_with fail;refine((jK 65 1 D.o Hn.o (dD D.o bv.o a7.o (by decide) (by decide)) a9.o).mono ?_);rintro e w7 ⟨rfl,r7,hI,hT⟩;have bw:=aa hI;have bA:=aa (ak z.o br.o hT);clear hI hT;go_wp2_with fail;go_ret;refine⟨rfl,r7,?_,bA.o⟩;have:=bw.o;rw[HN.o]at this;exact this
 ·have ad:((N:Int) !=0)=true:=by simp;omega
  go_wp2_with fail;clear ad hb1 hb2;obtain⟨a0,a1⟩:=bK.o.set_lastSym n sym;have d:=aa a0;have F:=aa (ak z.o bL.o a1);clear a0 a1 W bM f37;revert d F;generalize w1.setCell ⟨k.W,37,none⟩ (.string sym)=w2;intro d F;have W:w2.cell? ⟨k.W,34,none⟩=some (.int .i64 N):=by rw[d.o.cell 34 _ rfl];simp only[HN.o]
  have be:=d.o.cell 38 _ rfl;have bg:=dB (w:=w2.drew) Value.string iT underlying236 d.o.drew.mc sym (.int .u32 (N:Int));go_still_tail 10,(by kernel_rfl)
  change wpList _ _ _ _ _ (World.drew _);obtain⟨A,a2⟩:=d.o.drew.setMC n (cf sym (.int .u32 (N:Int)) s1.cache);have G:=aa A;have O:=aa (ak z.o F.o (ak d.o (dt d.o) a2));have a3:(ChangeMaps.setBlock w2.drew k.MC (bI Value.string (cf sym (.int .u32 (N:Int)) s1.cache))).cell? ⟨k.W,34,none⟩=some (.int .i64 N):=by rw[A.cell 34 _ rfl];simp only[HN.o]
  have a4:=A.free 34;clear A a2;go_wp2_with fail;clear bg W be a3 a4;revert G O;generalize ChangeMaps.setBlock w2.drew k.MC (smap (cf sym (.int .u32 (N:Int)) s1.cache))=w3;intro G O;obtain⟨a5,a6⟩:=G.o.set_nsym n (N+1);have U:=aa a5;have V:=aa (ak z.o O.o a6);clear a5 a6;rw[show((N:Int)+1)=((N+1:Nat):Int)from by omega];revert U V;generalize w3.setCell ⟨k.W,34,none⟩ (.int .i64 ((N+1:Nat):Int))=w4;intro U V;go_wp2_with fail;refine((iZ n U.o).mono ?_);rintro e w5 ⟨rfl,r5,hI,hT⟩;have bl:=aa hI;have bn:=aa (ak z.o V.o hT);clear hI hT;go_wp2_with fail;refine((xv n sym bl.o bE (by simp)).mono ?_);rintro e w6 ⟨rfl,r6,hI,hT⟩;have D:=aa hI;have br:=aa (ak z.o bn.o hT);clear hI hT;have HB:Hid ([]++(Lib.uvarint sym.size++sb sym)=ed (sb sym)):=aa (by rw[bz,ed,dA]);rw[HB.o]at D;have a7:Hid (ed (sb sym)≠[]):=aa (wV _);have a9:Hid (s1.bF.length+(ed (sb sym)).length<1073741824):=aa (by have h1:=Hl.o;have h2:=bh sym.size (by omega);rw[ed,dA,ab,dA];omega);go_wp2_with fail;refine(iC D.o a7.o).mono ?_;rintro e _ ⟨q,cap,N6,rfl,bS,bv,rfl⟩;go_wp2_with fail;refine((jK 65 1 D.o Hn.o (dD D.o bv.o a7.o (by decide) (by decide)) a9.o).mono ?_);rintro e w7 ⟨rfl,r7,hI,hT⟩;have bw:=aa hI;have bA:=aa (ak z.o br.o hT);clear hI hT;go_wp2_with fail;go_ret;refine⟨rfl,r7,?_,bA.o⟩;have:=bw.o;rw[HN.o]at this;exact this
end
def ic(l:List Bytes):Bytes:=l.flatMap eJ
theorem gw(a b:List Bytes):ic (a++b)=ic a++ic b:=by simp[ic]
theorem kz(a:Bytes)(b:List Bytes):ic (a::b)=eJ a++ic b:=rfl
theorem rF:∀(x y:Bytes),x.length=y.length→x≠y→∃p u v d z,x=p++u::d∧y=p++v::z∧u≠v
 |[],[],_,h=>absurd rfl h
 |[],_::_,h,_=>by simp at h
 |_::_,[],h,_=>by simp at h
 |a::x,b::y,hl,h=>by
  by_cases e:a=b
  ·subst e;obtain⟨p,u,v,d,z,h1,A,D⟩:=rF x y (by simpa using hl) (fun e=>h (by rw[e]));exact⟨a::p,u,v,d,z,by rw[h1];rfl,by rw[A];rfl,D⟩
  ·exact⟨[],a,b,x,y,rfl,rfl,e⟩
theorem uR{a b:Nat}(d:a<255)(hb:b<255)(h:a.toUInt8=b.toUInt8):a=b:=by have:=congrArg UInt8.toNat h;simp[Nat.toUInt8,fQ]at this;omega
theorem zR(x y:Bytes)(A:x.length<255)(D:y.length<255)(h:x≠y):∃p u v d z,eJ x=p++u::d∧eJ y=p++v::z∧u≠v:=by
 by_cases hl:x.length=y.length
 ·obtain⟨p,u,v,d,z,h1,F,G⟩:=rF x y hl h;refine⟨x.length.toUInt8::p,u,v,d,z,?_,?_,G⟩
  ·rw[eJ,dn,←h1]
  ·rw[eJ,dn,←F,hl]
 ·exact⟨[],x.length.toUInt8,y.length.toUInt8,x,y,rfl,rfl,fun e=>hl (uR A D e)⟩
theorem xo{a b:ByteArray}{q ra rb:Bytes}(d:sb a=q++ra)(hb:sb b=q++rb)(j:Nat)(z:j<q.length):∃(h1:j<a.size) (A:j<b.size),(a[j]'h1)=(b[j]'A):=by
 have l1:a.size=q.length+ra.length:=by rw[←dA,d,ab]
 have l2:b.size=q.length+rb.length:=by rw[←dA,hb,ab]
 refine⟨by omega,by omega,?_⟩;have e1:(sb a)[j]? =q[j]? :=by rw[d,bH z]
 have e2:(sb b)[j]? =q[j]? :=by rw[hb,bH z]
 have e:(sb a)[j]? =(sb b)[j]? :=e1.trans e2.symm;have g1:(sb a)[j]? =some (a[j]'(by omega)):=by
  have:j<(sb a).length:=by rw[dA];omega
  rw[az this];rfl
 have g2:(sb b)[j]? =some (b[j]'(by omega)):=by
  have:j<(sb b).length:=by rw[dA];omega
  rw[az this];rfl
 rw[g1,g2]at e;exact cI e
structure lu(a b:ByteArray)(D:Nat):Prop where
 la:D<a.size
 lb:D<b.size
 ne:(a[D]'la)≠(b[D]'lb)
 eq:∀j,j<D→∃(h1:j<a.size) (d:j<b.size),(a[j]'h1)=(b[j]'d)
theorem lu.mk'{a b:ByteArray}{q ra rb:Bytes}{u v:UInt8}(d:sb a=q++u::ra)(hb:sb b=q++v::rb)(h:u≠v):lu a b q.length:=by obtain⟨h1,e1⟩:=lS d;obtain⟨z,e2⟩:=lS hb;exact⟨h1,z,by rw[e1,e2];exact h,fun j A=>xo d hb j A⟩
theorem lu.symm{a b:ByteArray}{D:Nat}(h:lu a b D):lu b a D:=⟨h.lb,h.la,h.ne.symm,fun j d=>by obtain⟨h1,z,e⟩:=h.eq j d;exact⟨z,h1,e.symm⟩⟩
theorem lu.test{a b:ByteArray}{D:Nat}(h:lu a b D):((((a[D]'h.la).toNat:Nat):Int) !=(((b[D]'h.lb).toNat:Nat):Int))=true:=by simp only[bne_iff_ne,ne_eq,Int.natCast_inj];exact fun e=>h.ne (UInt8.toNat_inj.1 e)
theorem lu.test2{a b:ByteArray}{D:Nat}(h:lu a b D){j:Nat}(z:j<D):∃(h1:j<a.size) (d:j<b.size),((((a[j]'h1).toNat:Nat):Int) !=(((b[j]'d).toNat:Nat):Int))=false:=by obtain⟨h1,d,e⟩:=h.eq j z;exact⟨h1,d,by rw[e];simp⟩
theorem tC(a b:ByteArray)(ra:Bytes)(w:World)(G:sb a=sb b++ra)(hr:ra≠[])(hl:a.size<1073741824):
 Calls prog 97 #[.agg #[.string a],.agg #[.string b]] w fun e w'=>∃n:Int,0<n∧e=.returned (.int .i64 n)∧Upd [] w w':=by
 have O:a.size=b.size+ra.length:=by rw[←dA,G,ab,dA]
 have U:=List.length_pos_iff.2 hr;have a1:b.size<a.size:=by omega
 have V:=aa (fun j (hj:j<b.size)=>xo (a:=b) (b:=a) (q:=sb b) (ra:=[]) (rb:=ra) (by simp) G j (by rw[dA];exact hj));clear G O U;go_enter func97,ntmps97
 obtain⟨w1,d,z,A,D,W⟩:=j8 w (.cells #[.string a] 135 (0,0)) (.cells #[.string b] 135 (0,0));have cX:=af A 0;have cY:=af D 0;have ad:=aa z;have a0:=aa d;clear z A D W d;go_wp2_with fail;rw[←a0.o];go_quiet (fail)
 go_wp2_with fail;go_quiet (fail)
 go_wp2_with fail;go_loopw [7] (fun i wr=>∃j:Nat,j≤b.size∧i=.int .i64 j∧wr.cell? ⟨w.heap.size,0,none⟩=some (.string a)∧wr.cell? ⟨w.heap.size+1,0,none⟩=some (.string b)∧Upd [] w wr) (fun i _=>b.size-(intOf i).toNat)
 case atStart=>exact⟨0,ay _,rfl,cX,cY,(ad.o.drewN _).drewN _⟩
 case round=>
  obtain⟨j,hj,rfl,hX,hY,hU⟩:=hrel;have HU:=aa hU;clear hU cX cY;by_cases F:j<b.size
  ·obtain⟨h1,h2,he⟩:=V.o j F;have ht:((((b[j]'h1).toNat:Nat):Int) !=(((a[j]'h2).toNat:Nat):Int))=false:=by rw[he];simp
   have a2:(0:Int)≤(j:Int):=by omega
   have a3:(j:Int)<(b.size:Int):=by omega
   have a4:(j:Int)<(a.size:Int):=by omega
   clear he;go_wp2_with fail;go_quiet (fail)
   go_wp2_with fail;exact⟨⟨j+1,by omega,rfl,hX,hY,HU.o.drewN _⟩,by simp only[intOf];omega⟩
  ·obtain rfl:j=b.size:=by omega
   have hd:¬((b.size:Int)<(b.size:Int)):=by omega
   go_wp2_with fail;go_ret;exact⟨_,by omega,rfl,HU.o⟩
def offs(L:List Bytes)(f:Nat):Nat:=(ic (L.take f)).length
theorem yu(L:List Bytes)(f:Nat)(h:f<L.length):offs L (f+1)=offs L f+1+L[f].length:=by unfold offs;rw[ax h,gw,ab];simp[ic,eJ];omega
theorem yt(L:List Bytes)(f g:Nat)(h:f≤g):offs L f≤offs L g:=by
 unfold offs;have:L.take f=(L.take g).take f:=by rw[List.take_take,Nat.min_eq_left h]
 rw[this];conv=>rhs;rw[←aI f (L.take g),gw,ab]
 omega
theorem xW(a:ByteArray)(L:List Bytes)(z:sb a=ic L)(hs:∀x∈L,x.length<255)(hl:a.size<1073741824)(f:Nat)(hf:f<L.length)(w:World):
 Calls prog 163 #[.string a,.int .i64 (offs L f:Nat)] w fun e w'=>e=.returned (.tuple #[.int .i64 (L[f].length:Nat),.int .i64 (((offs L f:Nat):Int)+1)])∧w=w':=by
 have d:sb a=ic (L.take f)++(L[f].length.toUInt8::(L[f]++ic (L.drop (f+1)))):=by
  rw[z];conv=>lhs;rw[←aI f L,gw,bf hf,kz]
  rfl
 obtain⟨h1,A⟩:=lS d;have D:=hs _ (aq hf);refine kM a (offs L f) L[f].length w h1 ?_ D ?_
 ·show(a[(ic (L.take f)).length]'h1).toNat=_;rw[A];simp[Nat.toUInt8,fQ];omega
 ·have:offs L f<a.size:=h1;omega
theorem yT(a b:ByteArray)(pre ra rb:List Bytes)(x y:Bytes)(w:World)(ha:sb a=ic (pre++x::ra))(hb:sb b=ic (pre++y::rb))(ad:∀z∈pre++x::ra,z.length<255)(hy:y.length<255)(a0:y<x)(hl:a.size<1073741824)(a3:b.size<1073741824):
 Calls prog 97 #[.agg #[.string a],.agg #[.string b]] w fun e w'=>e=.returned (.int .i64 1)∧Upd [] w w':=by
 have hx:=ad x (by simp);have G5:x≠y:=fun e=>by rw[e]at a0;exact cT _ a0
 obtain⟨p,u,v,ru,rv,e1,e2,bn⟩:=zR x y hx hy G5;obtain⟨D,hD⟩:∃D,D=(ic pre++p).length:=⟨_,rfl⟩;have hP:lu a b D:=by
  rw[hD];refine lu.mk' (ra:=ru++ic ra) (rb:=rv++ic rb) (u:=u) (v:=v) ?_ ?_ bn
  ·rw[ha,gw,kz,e1];simp
  ·rw[hb,gw,kz,e2];simp
 obtain⟨L,hL⟩:∃L,L=pre++x::ra:=⟨_,rfl⟩;obtain⟨d,a1⟩:∃d,d=pre.length:=⟨_,rfl⟩;have b9:d<L.length:=by rw[a1,hL];simp
 have br:L[d]=x:=by simp[hL,a1]
 have ho:offs L d=(ic pre).length:=by unfold offs;rw[hL,a1,List.take_left]
 have hpl:p.length<x.length+1:=by have:=congrArg List.length e1;simp[eJ]at this;omega
 have a4:offs L d≤D:=by rw[ho,hD,ab];omega
 have bv:D<offs L d+1+L[d].length:=by rw[ho,hD,ab,br];omega
 have HS:=aa (fun f hf w=>xW a L (by rw[ha,hL]) (by rw[hL];exact ad) hl f hf w);obtain⟨sx,a5⟩:∃q,q=str x:=⟨_,rfl⟩;obtain⟨sy,a6⟩:∃q,q=str y:=⟨_,rfl⟩;have HA:Hid (∀w,Calls prog 164 #[.string a,.int .i64 (offs L d:Nat)] w fun e w'=>e=.returned (.tuple #[.string sx,.int .i64 (((ic pre).length+(eJ x).length:Nat):Int)])∧w=w'):=aa (fun w=>by rw[ho,a5];exact jn a (ic pre) x (ic ra) w (by rw[ha,gw,kz]) hx hl)
 have HB:Hid (∀w,Calls prog 164 #[.string b,.int .i64 (offs L d:Nat)] w fun e w'=>e=.returned (.tuple #[.string sy,.int .i64 (((ic pre).length+(eJ y).length:Nat):Int)])∧w=w'):=aa (fun w=>by rw[ho,a6];exact jn b (ic pre) y (ic rb) w (by rw[hb,gw,kz]) hy a3)
 have G9:=(um sy sx (by rw[a5,a6,dG,dG];exact a0)).1;have bw:0<L.length:=by omega
 have bA:Hid (∀f (h:f<L.length),L[f].length<255):=aa (fun f h=>by have:=aq h;generalize L[f]=z at*;rw[hL]at this;exact ad z this);have H0:Hid (∀w,Calls prog 163 #[.string a,.int .i64 0] w fun e w'=>e=.returned (.tuple #[.int .i64 ((L[0]'bw).length:Nat),.int .i64 1])∧w=w'):=aa (fun w=>HS.o 0 bw w);have Hl:=aa (And.intro hl a3);have Hm:=aa (fun f (hf:f<d)=>(show offs L (f+1)≤D from aW (yt L (f+1) d hf) a4));have bB:=aa (yu L);have ca:=hP.la;have cc:=hP.lb;have HP:=aa hP;clear ha hb ad a0 hP hL a1 br ho hpl hD e1 e2 bn G5 hx hy hl a3 a5 a6;go_enter func97,ntmps97
 obtain⟨w1,bE,bK,bL,bM,bO⟩:=j8 w (.cells #[.string a] 135 (0,0)) (.cells #[.string b] 135 (0,0));have cX:=af bL 0;have cY:=af bM 0;have a2:=aa bK;have bR:=aa bE;clear bK bL bM bO bE;go_wp2_with fail;rw[←bR.o];go_quiet (fail)
 by_cases cg:b.size<a.size
 ·have F:=aa HP.o.symm;go_wp2_with fail;go_quiet (fail)
  go_wp2_with fail;go_loopw [7] (fun i wr=>∃j:Nat,j≤D∧i=.int .i64 j∧wr.cell? ⟨w.heap.size,0,none⟩=some (.string a)∧wr.cell? ⟨w.heap.size+1,0,none⟩=some (.string b)∧Upd [] w wr) (fun i _=>D-(intOf i).toNat)
  case atStart=>exact⟨0,ay _,rfl,cX,cY,by first|exact a2.o.drewN _|exact(a2.o.drewN _).drewN _⟩
  case round=>
   obtain⟨j,hj,rfl,hX,hY,hU⟩:=hrel;have HU:=aa hU;clear hU cX cY;have bS:(0:Int)≤(j:Int):=by omega
   have bW:(j:Int)<(b.size:Int):=by omega
   have b5:(j:Int)<(a.size:Int):=by omega
   have b6:(j:Int)<1073741824:=by have:=Hl.o;omega
   by_cases G:j<D
   ·obtain⟨h1,h2,ht⟩:=F.o.test2 G;go_wp2_with fail;go_quiet (fail)
    go_wp2_with fail;exact⟨⟨j+1,by omega,rfl,hX,hY,HU.o.drewN _⟩,by simp only[intOf];omega⟩
   ·obtain rfl:j=D:=by omega
    have ht:=F.o.test;have a7:((j:Int)==(b.size:Int))=false:=by simp;omega
    have a9:((j:Int)==(a.size:Int))=false:=by simp;omega
    go_wp2_with fail;go_quiet (fail)
    go_wp2_with fail;refine(H0.o _).mono ?_;rintro e _ ⟨rfl,rfl⟩;clear a7 a9;go_wp2_with fail;go_loopw [7,9,10] (fun i z m A=>∃f:Nat,∃hf:f≤d,i=.int .i64 (offs L f:Nat)∧z=.int .i64 ((L[f]'(by omega)).length:Nat)∧m=.int .i64 (((offs L f:Nat):Int)+1)∧A.cell? ⟨w.heap.size,0,none⟩=some (.string a)∧A.cell? ⟨w.heap.size+1,0,none⟩=some (.string b)∧Upd [] w A) (fun i _ _ _=>j+1-(intOf i).toNat)
    case atStart=>exact⟨0,ay _,rfl,rfl,by simp[offs,ic],hX,hY,by first|exact HU.o.drewN _|exact(HU.o.drewN _).drewN _⟩
    case round=>
     obtain⟨f,hf,rfl,rfl,rfl,bb,bd,O⟩:=hrel;have U:=aa O;clear O hX hY;have hle:=bB.o f (by omega);have b7:offs L f≤j:=by
      by_cases h:f<d
      ·have:=Hm.o f h;omega
      ·obtain rfl:f=d:=by omega
       exact a4
     obtain⟨N,hN⟩:∃N,N=(L[f]'(by omega)).length:=⟨_,rfl⟩;by_cases be:f<d
     ·have hm:=Hm.o f be;have HF:=HS.o (f+1) (by omega);rw[hle,←hN]at hm;rw[hle,←hN]at HF;have bg:=aa HF;have V:=aa hle;rw[←hN];have hN2:(((offs L f:Nat):Int)+1+(N:Nat))≤(j:Int):=by omega
      have W:(((offs L f:Nat):Int)+1+(N:Nat))=((offs L f+1+N:Nat):Int):=by omega
      have HN:=aa hN;have bl:=aa W;clear HF hle hm hN W;go_wp2_with fail;rw[bl.o];refine(bg.o _).mono ?_;rintro e _ ⟨rfl,rfl⟩;go_wp2_with fail;exact⟨⟨f+1,by omega,by rw[V.o,←HN.o];congr 1,rfl,by rw[V.o,←HN.o];congr 1,bb,bd,U.o⟩,by simp only[intOf];omega⟩
     ·obtain rfl:f=d:=by omega
      rw[←hN];rw[←hN]at bv;have b8:N<255:=by rw[hN];exact bA.o f (by omega)
      have hN2:decide ((((offs L f:Nat):Int)+1+(N:Nat))≤(j:Int))=false:=by simp;omega
      have HN:=aa hN;clear hle hN;go_wp2_with fail;refine(HA.o _).mono ?_;rintro e _ ⟨rfl,rfl⟩;go_wp2_with fail;refine(HB.o _).mono ?_;rintro e _ ⟨rfl,rfl⟩;go_wp2_with fail;go_ret;exact⟨rfl,U.o⟩
 ·have F:=aa HP.o;go_wp2_with fail;go_loopw [7] (fun i wr=>∃j:Nat,j≤D∧i=.int .i64 j∧wr.cell? ⟨w.heap.size,0,none⟩=some (.string a)∧wr.cell? ⟨w.heap.size+1,0,none⟩=some (.string b)∧Upd [] w wr) (fun i _=>D-(intOf i).toNat)
  case atStart=>exact⟨0,ay _,rfl,cX,cY,by first|exact a2.o.drewN _|exact(a2.o.drewN _).drewN _⟩
  case round=>
   obtain⟨j,hj,rfl,hX,hY,hU⟩:=hrel;have HU:=aa hU;clear hU cX cY;have bS:(0:Int)≤(j:Int):=by omega
   have bW:(j:Int)<(b.size:Int):=by omega
   have b5:(j:Int)<(a.size:Int):=by omega
   have b6:(j:Int)<1073741824:=by have:=Hl.o;omega
   by_cases G:j<D
   ·obtain⟨h1,h2,ht⟩:=F.o.test2 G;go_wp2_with fail;go_quiet (fail)
    go_wp2_with fail;exact⟨⟨j+1,by omega,rfl,hX,hY,HU.o.drewN _⟩,by simp only[intOf];omega⟩
   ·obtain rfl:j=D:=by omega
    have ht:=F.o.test;have a7:((j:Int)==(b.size:Int))=false:=by simp;omega
    have a9:((j:Int)==(a.size:Int))=false:=by simp;omega
    go_wp2_with fail;go_quiet (fail)
    go_wp2_with fail;refine(H0.o _).mono ?_;rintro e _ ⟨rfl,rfl⟩;clear a7 a9;go_wp2_with fail;go_loopw [7,9,10] (fun i z m A=>∃f:Nat,∃hf:f≤d,i=.int .i64 (offs L f:Nat)∧z=.int .i64 ((L[f]'(by omega)).length:Nat)∧m=.int .i64 (((offs L f:Nat):Int)+1)∧A.cell? ⟨w.heap.size,0,none⟩=some (.string a)∧A.cell? ⟨w.heap.size+1,0,none⟩=some (.string b)∧Upd [] w A) (fun i _ _ _=>j+1-(intOf i).toNat)
    case atStart=>exact⟨0,ay _,rfl,rfl,by simp[offs,ic],hX,hY,by first|exact HU.o.drewN _|exact(HU.o.drewN _).drewN _⟩
    case round=>
     obtain⟨f,hf,rfl,rfl,rfl,bb,bd,O⟩:=hrel;have U:=aa O;clear O hX hY;have hle:=bB.o f (by omega);have b7:offs L f≤j:=by
      by_cases h:f<d
      ·have:=Hm.o f h;omega
      ·obtain rfl:f=d:=by omega
       exact a4
     obtain⟨N,hN⟩:∃N,N=(L[f]'(by omega)).length:=⟨_,rfl⟩;by_cases be:f<d
     ·have hm:=Hm.o f be;have HF:=HS.o (f+1) (by omega);rw[hle,←hN]at hm;rw[hle,←hN]at HF;have bg:=aa HF;have V:=aa hle;rw[←hN];have hN2:(((offs L f:Nat):Int)+1+(N:Nat))≤(j:Int):=by omega
      have W:(((offs L f:Nat):Int)+1+(N:Nat))=((offs L f+1+N:Nat):Int):=by omega
      have HN:=aa hN;have bl:=aa W;clear HF hle hm hN W;go_wp2_with fail;rw[bl.o];refine(bg.o _).mono ?_;rintro e _ ⟨rfl,rfl⟩;go_wp2_with fail;exact⟨⟨f+1,by omega,by rw[V.o,←HN.o];congr 1,rfl,by rw[V.o,←HN.o];congr 1,bb,bd,U.o⟩,by simp only[intOf];omega⟩
     ·obtain rfl:f=d:=by omega
      rw[←hN];rw[←hN]at bv;have b8:N<255:=by rw[hN];exact bA.o f (by omega)
      have hN2:decide ((((offs L f:Nat):Int)+1+(N:Nat))≤(j:Int))=false:=by simp;omega
      have HN:=aa hN;clear hle hN;go_wp2_with fail;refine(HA.o _).mono ?_;rintro e _ ⟨rfl,rfl⟩;go_wp2_with fail;refine(HB.o _).mono ?_;rintro e _ ⟨rfl,rfl⟩;go_wp2_with fail;go_ret;exact⟨rfl,U.o⟩
end Go.Proofs.YtlgefdfflmgocaaGreatDoor
