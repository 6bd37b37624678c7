import Derived.Test.YtlgefdfflmgocaaGreatDoorQ37
set_option linter.all false
set_option maxRecDepth 100000
set_option maxHeartbeats 8000000
namespace Go.Proofs.YtlgefdfflmgocaaGreatDoor
open Go Go.RowKit Xc Go.Proofs.Tryz
attribute [local go_sem ↓] Go.wp_at_zero Go.wp_at_succ
def xF(w:World)(e:Ending)(w':World):Prop:=e=.returned (.bool true)∧Upd [] w w'
theorem lE{w0 w:World}{n:Nat}{v:Value}{l:LabL}(h:aP w0 w 56 2 n v (aV l))(hn:n=l.length):ki w v l:=by
 subst hn;rcases h.shape with⟨e,e2,_⟩|⟨g,c,e,_,z⟩
 ·exact⟨none,0,by rw[e,e2],fun j d=>by omega⟩
 ·subst e;refine⟨_,c,rfl,fun j d=>⟨g,0,rfl,z,?_,?_⟩⟩
  ·have:=h.1.cells (g:=g) rfl (2*j) _ (iu l j d).1;rw[aO,iM]at this;exact this
  ·have:=h.1.cells (g:=g) rfl (2*j+1) _ (iu l j d).2;rw[aO,iM]at this;exact this
structure Chk(ls:List LabL)(i:Nat):Prop where
 one:∀j (h:j<ls.length),j<i→qH ls[j]
 ord:∀j (h:j+1<ls.length),j+1<i→fl (dY (ls[j]'(by omega))) (dY ls[j+1])<0
theorem Chk.zero(ls:List LabL):Chk ls 0:=⟨fun _ _ h=>by omega,fun _ _ h=>by omega⟩
theorem Chk.next{ls:List LabL}{i:Nat}(h:Chk ls i)(D:i<ls.length)(h1:qH ls[i])(A:∀k,(e:i=k+1)→fl (dY (ls[k]'(by omega))) (dY ls[i])<0):Chk ls (i+1):=by
 refine⟨fun j d z=>?_,fun j d z=>?_⟩
 ·by_cases e:j=i
  ·subst e;exact h1
  ·exact h.one j d (by omega)
 ·by_cases e:j+1=i
  ·subst e;exact A j rfl
  ·exact h.ord j d (by omega)
theorem Chk.all{ls:List LabL}{i:Nat}(h:Chk ls i)(z:i=ls.length):(∀l∈ls,qH l)∧∀j (h:j+1<ls.length),fl (dY (ls[j]'(by omega))) (dY ls[j+1])<0:=by subst z;refine⟨fun l hl=>?_,fun j d=>h.ord j d d⟩;obtain⟨j,d,rfl⟩:=aQ hl;exact h.one j d d
theorem qz{ls:List LabL}{ms:nX}{i:Nat}(d:i<ls.length):il (ls.take (i+1)) ms=il (ls.take i) ms++(if lR ms ls[i]then[dY ls[i]]else[]):=by unfold il;rw[ax d,fM,aX];rw[db];cases h:lR ms ls[i]<;>simp
theorem qy{ms:nX}{k:Nat}{l:LabL}(d:k<ms.length):lR (ms.take (k+1)) l=(lR (ms.take k) l&&lF ms[k].1 ms[k].2.2 (g7 l ms[k].2.1)):=by unfold lR;rw[ax d,List.all_append];simp
theorem jl.shape{w0 w:World}{d:Value}{ls:List LabL}(h:jl w0 w d ls):∃b c,d=.slice b ls.length c:=by
 obtain⟨z,h1,_⟩:=h;rcases h1.shape with⟨e,e2,_⟩|⟨g,c,e,_⟩
 ·exact⟨none,0,by rw[e,e2]⟩
 ·exact⟨_,c,e⟩
theorem jl.at_{w0 w:World}{d:Value}{ls:List LabL}(h:jl w0 w d ls)(i:Nat)(z:i<ls.length):∃g c v,d=.slice (some ⟨g,0,none⟩) ls.length c∧w.cell? ⟨g,i,none⟩=some v∧ki w v ls[i]:=by
 obtain⟨D,h1,A⟩:=h;obtain⟨v,hv,hr,_⟩:=A i z;rcases h1.shape with⟨_,e2,_⟩|⟨g,c,e,_⟩
 ·omega
 ·subst e;refine⟨g,c,v,rfl,?_,lE hr rfl⟩;have:=h1.1.cells (g:=g) rfl i v hv;rw[aO,aK]at this;exact this
theorem Law(hA:∀w,Calls prog 6 #[] w (xF w))(w:World)(v1 v2:Value)(ls:List LabL)(ms:nX)(h1:pj w v1 ls)(h2:vg w v2 ms):Calls prog 3 #[v1,v2] w (xF w):=by
 have HA:=aa hA;have K1:=aa (Bm w v1 ls h1);have G:=aa (And.intro h1 h2);obtain⟨b1,c1,rfl,a5⟩:=h1;obtain⟨b2,c2,rfl,a6⟩:=h2;have H1:=aa a5;have H2:=aa a6;obtain⟨n,hn⟩:∃n,n=ls.length:=⟨_,rfl⟩;obtain⟨M,hM⟩:∃M,M=ms.length:=⟨_,rfl⟩;rw[←hn]at K1;rw[←hn,←hM]at G;rw[←hn,←hM];have HN:=aa (And.intro hn hM);clear hA a5 a6 hn hM;go_enter func3,ntmps3
 go_wp2_with fail;refine K1.o.mono ?_;rintro e w1 ⟨r,rfl,hu⟩;have bK:=aa hu;have K2:=aa (Bo w1 _ ms (G.o.2.upd hu));clear hu K1;cases r with
 |false=>
  go_wp2_with fail;refine bodyPost_ret (v:=.bool true) (by simp[results,results3]) rfl ⟨rfl,bK.o⟩
 |true=>
  go_wp2_with fail;refine K2.o.mono ?_;rintro e w2 ⟨r,rfl,hu⟩;have a7:=aa (bK.o.then hu (by simp));clear hu bK K2;cases r with
  |false=>
   go_wp2_with fail;refine bodyPost_ret (v:=.bool true) (by simp[results,results3]) rfl ⟨rfl,a7.o⟩
  |true=>
   by_cases ef:(12:Int)<(n:Int)
   ·
    go_wp2_with fail;refine(HA.o _).mono ?_;rintro e w9 ⟨rfl,d⟩;have A:=aa d;clear d;go_wp2_with fail;refine bodyPost_ret (v:=.bool true) (by simp[results,results3]) rfl ⟨rfl,(a7.o).then A.o (by simp)⟩
   by_cases et:(M:Int)<1
   ·
    go_wp2_with fail;refine(HA.o _).mono ?_;rintro e w9 ⟨rfl,d⟩;have A:=aa d;clear d;go_wp2_with fail;refine bodyPost_ret (v:=.bool true) (by simp[results,results3]) rfl ⟨rfl,(a7.o).then A.o (by simp)⟩
   by_cases ev:(6:Int)<(M:Int)
   ·
    go_wp2_with fail;refine(HA.o _).mono ?_;rintro e w9 ⟨rfl,d⟩;have A:=aa d;clear d;go_wp2_with fail;refine bodyPost_ret (v:=.bool true) (by simp[results,results3]) rfl ⟨rfl,(a7.o).then A.o (by simp)⟩
   go_wp2_with fail;go_loopg [42] n (fun gg cL wx=>∃i:Nat,cL=.int .i64 i∧Hid (gg+i=n)∧Hid (Upd [] w wx∧Chk ls i))
   case atStart=>exact⟨0,rfl,aa (by omega),aa ⟨a7.o,Chk.zero _⟩⟩
   case round=>
    obtain⟨i,rfl,O,F⟩:=hrel;by_cases a9:i<n
    ·have Hf:i<ls.length:=by have:=HN.o.1;omega
     obtain⟨q,o,u,e1,hq,k0,hv⟩:=H1.o i Hf;have k1:=F.o.1.cell (by simp) k0;obtain⟨l,hl⟩:∃l,l=ls[i]:=⟨_,rfl⟩;rw[←hl]at hv;have D:=hv.upd F.o.1;clear hv k0;obtain⟨ub,uc,rfl,_⟩:=id D;obtain⟨m,hm⟩:∃m,m=l.length:=⟨_,rfl⟩;have K3:=aa (tD wr _ l D);have W:=aa (And.intro D (And.intro hl hm));rw[←hm]at k1 K3;have bd:(0:Int)≤(i:Int):=by omega
     have be:(i:Int)<(n:Int):=by omega
     have E1:=aa e1;subst e1;clear D hl hm hq;go_wp2_with fail;refine K3.o.mono ?_;rintro e w3 bL;obtain⟨r,rfl,hr,hu⟩:=bL;have a2:=aa hu;have ca:=aa hr;clear hu hr K3;cases r with
     |false=>
      go_wp2_with fail;refine(HA.o _).mono ?_;rintro e w9 ⟨rfl,d⟩;have A:=aa d;clear d;go_wp2_with fail;refine bodyPost_ret (v:=.bool true) (by simp[results,results3]) rfl ⟨rfl,(F.o.1.then a2.o (by simp)).then A.o (by simp)⟩
     |true=>
      have HR:=aa (ca.o rfl);clear ca;have K4:=aa (Dm w3 _ l (W.o.1.upd a2.o) HR.o.1);rw[←W.o.2.2]at K4;go_wp2_with fail;refine K4.o.mono ?_;rintro e w4 cM;obtain⟨fb,k,fc,rfl,hk,cc,hu⟩:=cM;have ad:=aa (a2.o.then hu (by simp));have HK:=aa (And.intro hk cc);clear hk cc hu K4 a2;by_cases eE:(k:Int)<(m:Int)
      ·
       go_wp2_with fail;refine(HA.o _).mono ?_;rintro e w9 ⟨rfl,d⟩;have A:=aa d;clear d;go_wp2_with fail;refine bodyPost_ret (v:=.bool true) (by simp[results,results3]) rfl ⟨rfl,(F.o.1.then ad.o (by simp)).then A.o (by simp)⟩
      by_cases cN:m=0
      ·have cN:(m:Int)=0:=by omega
       go_wp2_with fail;refine(HA.o _).mono ?_;rintro e w9 ⟨rfl,d⟩;have A:=aa d;clear d;go_wp2_with fail;refine bodyPost_ret (v:=.bool true) (by simp[results,results3]) rfl ⟨rfl,(F.o.1.then ad.o (by simp)).then A.o (by simp)⟩
      have cg:¬(m:Int)=0:=by omega
      have eg:¬k<m:=by omega
      have eG:((m:Int)==0)=false:=by rw[beq_eq_false_iff_ne];exact cg
      have HO:Hid (qH l):=aa (Cw HR.o (by have:=W.o.2.2;omega) (HK.o.2 (by have:=W.o.2.2;have:=HK.o.1;omega)));cases i with
      |zero=>
       go_wp2_with fail;go_roundg (n-1)
       case measure=>have:=O.o;omega
       case rel=>exact⟨1,by simp,aa (by have:=O.o;omega),aa ⟨F.o.1.then ad.o (by simp),F.o.2.next Hf (by rw[←W.o.2.1];exact HO.o) (fun k e=>by omega)⟩⟩
      |succ i=>
       have bB:i<ls.length:=by omega
       obtain⟨q',o',u',e2,_,k0,hv⟩:=H1.o i bB;simp only[aM,eD,and_true]at e2;obtain⟨rfl,rfl⟩:=e2;have a0:=aa (F.o.1.then ad.o (by simp));have k2:=a0.o.cell (by simp) k0;obtain⟨l',br⟩:∃l,l=ls[i]:=⟨_,rfl⟩;rw[←br]at hv;have D:=hv.upd a0.o;have ho:=F.o.2.one i bB (by omega);rw[←br]at ho;have cO:=aa br;have K5:=aa (vq w4 _ l' D ho.len ho.names);have cP:=aa ho;have ei:(0:Int)<(i:Int)+1:=by omega
       have eN:(0:Int)≤(i:Int):=by omega
       have eR:(i:Int)<(n:Int):=by omega
       clear k0 hv D ho br k1;go_wp2_with fail;refine K5.o.mono ?_;rintro e w5 cX;obtain⟨s1,rfl,G3,hu⟩:=cX;have ck:=aa G3;have U:=aa hu;have K6:=aa (vq w5 _ l ((W.o.1.upd ad.o).upd hu) HO.o.len HO.o.names);rw[←W.o.2.2]at K6;clear G3 hu K5;go_wp2_with fail;refine K6.o.mono ?_;rintro e w6 bg;obtain⟨s2,rfl,G3,hu⟩:=bg;have cn:=aa (a0.o.then (U.o.then hu (by simp)) (by simp));have K7:=aa (Dk w6 s1 s2 (dY l') (dY l) (lE (ck.o.upd hu (by simp)) (ex l').length_eq.symm) (lE G3 (ex l).length_eq.symm) (by rw[(ex l').length_eq];exact cP.o.len) (by rw[(ex l).length_eq];exact HO.o.len));obtain⟨B,hB⟩:∃B,B=fl (dY l') (dY l):=⟨_,rfl⟩;rw[←hB]at K7;have HB:=aa hB;clear G3 hu K6 ck hB U a0;go_wp2_with fail;refine K7.o.mono ?_;rintro e w7 ⟨rfl,hu⟩;have bv:=aa (cn.o.then hu (by simp));clear hu K7 cn;by_cases e0:(0:Int)≤B
       ·
        go_wp2_with fail;refine(HA.o _).mono ?_;rintro e w9 ⟨rfl,d⟩;have A:=aa d;clear d;go_wp2_with fail;refine bodyPost_ret (v:=.bool true) (by simp[results,results3]) rfl ⟨rfl,(bv.o).then A.o (by simp)⟩
       ·go_wp2_with fail;go_roundg (n-(i+1+1))
        case measure=>have:=O.o;omega
        case rel=>exact⟨i+1+1,by simp,aa (by have:=O.o;omega),aa ⟨bv.o,F.o.2.next Hf (by rw[←W.o.2.1];exact HO.o) (fun k e=>by
         obtain rfl:i=k:=by omega
         have:=HB.o;rw[cO.o,W.o.2.1]at this;omega)⟩⟩
    ·obtain rfl:n=i:=by have:=O.o;omega
     have HC:=aa (F.o.2.all HN.o.1);have a2:=aa F.o.1;clear F a7 O a9;go_wp2_with fail;go_loopg [83] M (fun gg cY wx=>∃i:Nat,cY=.int .i64 i∧Hid (gg+i=M)∧Hid (Upd [] w wx∧∀j (h:j<ms.length),j<i→rm ms[j]))
     case atStart=>exact⟨0,rfl,aa (by omega),aa ⟨a2.o,fun _ _ h=>by omega⟩⟩
     case round=>
      obtain⟨i,rfl,O,F⟩:=hrel;by_cases a9:i<M
      ·have Hf:i<ms.length:=by have:=HN.o.2;omega
       obtain⟨q2,o2,e2,bM,k0,k1,k2⟩:=H2.o i Hf;have r0:=F.o.1.cell (by simp) k0;have r1:=F.o.1.cell (by simp) k1;have r2:=F.o.1.cell (by simp) k2;obtain⟨t,ht⟩:∃t,t=ms[i].1:=⟨_,rfl⟩;obtain⟨s,hs⟩:∃t,t=ms[i].2.1:=⟨_,rfl⟩;obtain⟨v,hv⟩:∃t,t=ms[i].2.2:=⟨_,rfl⟩;rw[←ht]at r0;rw[←hs]at r1;rw[←hv]at r2;have HT:=aa (And.intro ht (And.intro hs hv));have bd:(0:Int)≤(i:Int):=by omega
       have be:(i:Int)<(M:Int):=by omega
       subst e2;clear bM k0 k1 k2 ht hs hv;have a3:Hid (Upd [] w (wr.alloc (.cells #[.int .i64 t,.string s,.string v] 32 (0,0)))):=aa (F.o.1.alloc _);by_cases e5:t<0
       ·
        go_wp2_with fail;refine(HA.o _).mono ?_;rintro e w9 ⟨rfl,d⟩;have A:=aa d;clear d;go_wp2_with fail;refine bodyPost_ret (v:=.bool true) (by simp[results,results3]) rfl ⟨rfl,(a3.o).then A.o (by simp)⟩
       by_cases e6:1<t
       ·
        go_wp2_with fail;refine(HA.o _).mono ?_;rintro e w9 ⟨rfl,d⟩;have A:=aa d;clear d;go_wp2_with fail;refine bodyPost_ret (v:=.bool true) (by simp[results,results3]) rfl ⟨rfl,(a3.o).then A.o (by simp)⟩
       obtain⟨b1,hb1⟩:∃b,s.toList.isEmpty=b:=⟨_,rfl⟩;have cZ:=aa hb1;cases b1 with
       |true=>
        go_wp2_with fail;refine(HA.o _).mono ?_;rintro e w9 ⟨rfl,d⟩;have A:=aa d;clear d;go_wp2_with fail;refine bodyPost_ret (v:=.bool true) (by simp[results,results3]) rfl ⟨rfl,(a3.o).then A.o (by simp)⟩
       |false=>
        by_cases ej:(60:Int)<(s.size:Int)
        ·
         go_wp2_with fail;refine(HA.o _).mono ?_;rintro e w9 ⟨rfl,d⟩;have A:=aa d;clear d;go_wp2_with fail;refine bodyPost_ret (v:=.bool true) (by simp[results,results3]) rfl ⟨rfl,(a3.o).then A.o (by simp)⟩
        obtain⟨b2,hb2⟩:∃b,v.toList.isEmpty=b:=⟨_,rfl⟩;have c0:=aa hb2;cases b2 with
        |true=>
         go_wp2_with fail;refine(HA.o _).mono ?_;rintro e w9 ⟨rfl,d⟩;have A:=aa d;clear d;go_wp2_with fail;refine bodyPost_ret (v:=.bool true) (by simp[results,results3]) rfl ⟨rfl,(a3.o).then A.o (by simp)⟩
        |false=>
         by_cases el:(60:Int)<(v.size:Int)
         ·
          go_wp2_with fail;refine(HA.o _).mono ?_;rintro e w9 ⟨rfl,d⟩;have A:=aa d;clear d;go_wp2_with fail;refine bodyPost_ret (v:=.bool true) (by simp[results,results3]) rfl ⟨rfl,(a3.o).then A.o (by simp)⟩
         go_wp2_with fail;go_roundg (M-(i+1))
         case measure=>have:=O.o;omega
         case rel=>
          have bO:=cZ.o;have D:=c0.o;rw[oe]at bO D;have bO:=of_decide_eq_false bO;have D:=of_decide_eq_false D;refine⟨i+1,by simp,aa (by have:=O.o;omega),aa ⟨a3.o,fun j hj e7=>?_⟩⟩;by_cases e:j=i
          ·subst e;exact⟨by rw[←HT.o.1];omega,by rw[←HT.o.1];omega,by rw[←HT.o.2.1];omega,by rw[←HT.o.2.2];omega⟩
          ·exact F.o.2 j hj (by omega)
      ·obtain rfl:M=i:=by have:=O.o;omega
       have HM:=aa (show∀m∈ms,rm m from fun m hm=>by obtain⟨j,hj,rfl⟩:=aQ hm;exact F.o.2 j hj (by have:=HN.o.2;omega))
       have ad:=aa F.o.1;clear F a2 O a9;go_wp2_with fail;go_loopg [7,121] n (fun gg s7 cp wx=>∃i:Nat,cp=.int .i64 i∧Hid (gg+i=n)∧Hid (jl w wx s7 (il (ls.take i) ms)∧Upd [] w wx))
       case atStart=>exact⟨0,rfl,aa (by omega),aa ⟨by rw[fd];exact jl.nil _ _,ad.o⟩⟩
       case round=>
        obtain⟨i,rfl,O,F⟩:=hrel;have a4:Hid (Upd [] w wr):=aa F.o.2;by_cases a9:i<n
        ·have Hf:i<ls.length:=by have:=HN.o.1;omega
         obtain⟨q3,o3,u,e3,bL,k0,hv⟩:=H1.o i Hf;have k1:=a4.o.cell (by simp) k0;obtain⟨l,hl⟩:∃l,l=ls[i]:=⟨_,rfl⟩;rw[←hl]at hv;have D:=hv.upd a4.o;clear hv k0;obtain⟨ub,uc,rfl,_⟩:=id D;obtain⟨m,hm⟩:∃m,m=l.length:=⟨_,rfl⟩;have ho:qH l:=HC.o.1 l (by rw[hl];exact aq Hf);have W:=aa (And.intro D (And.intro hl (And.intro hm ho)));rw[←hm]at k1;have bd:(0:Int)≤(i:Int):=by omega
         have be:(i:Int)<(n:Int):=by omega
         subst e3;clear D hl hm bL ho;go_wp2_with fail;go_loopg [12,127] M (fun gg c6 cs wx=>∃(k:Nat) (bb:Bool),cs=.int .i64 k∧c6=.bool bb∧Hid (gg+k=M∧bb=lR (ms.take k) l)∧Hid (Upd [] wr wx))
         case atStart=>exact⟨0,true,rfl,rfl,aa ⟨by omega,by simp[lR]⟩,aa (ae _)⟩
         case round=>
          obtain⟨k,bb,rfl,rfl,Hk,HT⟩:=hrel;clear k1 bd be;by_cases c9:k<M
          ·have bR:k<ms.length:=by have:=HN.o.2;omega
           obtain⟨q2,o2,e2,bM,k0,k1,k2⟩:=H2.o k bR;have hU:=a4.o.then HT.o (by simp);have r0:=hU.cell (by simp) k0;have r1:=hU.cell (by simp) k1;have r2:=hU.cell (by simp) k2;obtain⟨t,ht⟩:∃t,t=ms[k].1:=⟨_,rfl⟩;obtain⟨s,hs⟩:∃t,t=ms[k].2.1:=⟨_,rfl⟩;obtain⟨v,hv⟩:∃t,t=ms[k].2.2:=⟨_,rfl⟩;rw[←ht]at r0;rw[←hs]at r1;rw[←hv]at r2;have HX:=aa (And.intro ht (And.intro hs hv));have bd:(0:Int)≤(k:Int):=by omega
           have be:(k:Int)<(M:Int):=by omega
           subst e2;clear bM k0 k1 k2 ht hs hv hU;cases bb with
           |false=>
            go_upto_region 25 with fail
            go_quiet (fail)
            go_wp2_with fail;go_roundg (M-(k+1))
            case measure=>have:=Hk.o.1;omega
            case rel=>exact⟨k+1,false,by simp,rfl,aa ⟨by have:=Hk.o.1;omega,by rw[qy bR,←Hk.o.2];rfl⟩,aa ((HT.o.alloc _).drewN _)⟩
           |true=>
            go_upto_region 25 with fail
            obtain⟨wm,bw⟩:∃x,x=wr.alloc (.cells #[.int .i64 t,.string s,.string v] 32 (0,0)):=⟨_,rfl⟩;rw[←bw];obtain⟨X,hX⟩:∃x,x=wr.heap.size:=⟨_,rfl⟩;rw[←hX];have hB:wm.heap[X]? =some (.cells #[.int .i64 t,.string s,.string v] 32 (0,0)):=by rw[bw,hX];exact an _
            have bS:Upd [] wr wm:=by rw[bw];exact(ae _).alloc _
            have KP:Hid (∀w',Upd [] wm w'→w'.cell? ⟨X,0,none⟩=some (.int .i64 t)∧w'.cell? ⟨X,1,none⟩=some (.string s)∧w'.cell? ⟨X,2,none⟩=some (.string v)):=aa fun w' h=>⟨h.cell (by simp) (af hB 0),h.cell (by simp) (af hB 1),h.cell (by simp) (af hB 2)⟩;have dc:=aa bS;obtain⟨V,bW⟩:∃V,V=g7 l s:=⟨_,rfl⟩;have KV:Hid (∀w',Upd [] wm w'→Calls prog 12 #[.slice ub m uc,.string s] w' fun e a1=>e=.returned (.string V)∧Upd [] wm a1):=aa fun w' hu=>by have h:=BF w' _ l s (W.o.1.upd (HT.o.then (bS.then hu (by simp)) (by simp))) W.o.2.2.2.len;rw[←W.o.2.2.1,←bW]at h;exact h.mono fun e a1 h=>⟨h.1,hu.then h.2 (by simp)⟩
            obtain⟨B2,b5⟩:∃b,b=lF t v V:=⟨_,rfl⟩;have KM:Hid (∀w',Upd [] wm w'→Calls prog 11 #[.agg #[.int .i64 t,.string s,.string v],.string V] w' fun e a1=>e=.returned (.bool B2)∧Upd [] wm a1):=aa fun w' hu=>by have h:=Matches w' t s v V;rw[←b5]at h;exact h.mono fun e a1 h=>⟨h.1,hu.then h.2 (by simp)⟩
            have HB:=aa (And.intro bW b5);clear bw hX hB bS bW b5 r0 r1 r2
            go_region_held3 (fun w'=>w'.cell? ⟨X,0,none⟩=some (.int .i64 t)∧w'.cell? ⟨X,1,none⟩=some (.string s)∧w'.cell? ⟨X,2,none⟩=some (.string v)) (exact KP.o _ (by with_reducible first|exact ae _|exact(ae _).drew|assumption|exact aG (by assumption))) (first
             |(go_at_call 12;refine(KV.o _ (by with_reducible first|exact ae _|exact(ae _).drew|assumption|exact aG (by assumption))).mono ?_;rintro e w5 ⟨rfl,dd⟩)
             |(go_at_call 11;refine(KM.o _ (by with_reducible first|exact ae _|exact(ae _).drew|assumption|exact aG (by assumption))).mono ?_;rintro e w6 ⟨rfl,bl⟩)
             |fail)
            all_goals
             have U:=aa bl;clear dd bl;go_wp2_with fail;go_roundg (M-(k+1))
             case measure=>have:=Hk.o.1;omega
             case rel=>exact⟨k+1,B2,by simp,rfl,aa ⟨by have:=Hk.o.1;omega,by rw[qy bR,←Hk.o.2,HB.o.2,HB.o.1,HX.o.1,HX.o.2.1,HX.o.2.2];rfl⟩,aa (HT.o.then (dc.o.then (by first|exact U.o|exact U.o.drew) (by simp)) (by simp))⟩
          ·obtain rfl:M=k:=by have:=Hk.o.1;omega
           have ct:Hid (bb=lR ms l):=aa (by have:=Hk.o.2;rwa [HN.o.2,aS]at this);have a0:=aa (a4.o.then HT.o (by simp));have b6:=aa (F.o.1.upd HT.o (by simp));have dj:=aa (W.o.1.upd HT.o);have cA:m=l.length:=W.o.2.2.1;have b9:=aa cA;clear cA Hk c9;cases bb with
           |false=>
            go_wp2_with fail;go_roundg (n-(i+1))
            case measure=>have:=O.o;omega
            case rel=>
             refine⟨i+1,by simp,aa (by have:=O.o;omega),aa ⟨?_,a0.o⟩⟩;rw[qz Hf,←W.o.2.1,←ct.o];simpa using b6.o
           |true=>
            have K:=aa (vq wr _ l dj.o W.o.2.2.2.len W.o.2.2.2.names);rw[←b9.o]at K;go_wp2_with fail;refine K.o.mono ?_;rintro e w6 bg;obtain⟨sv,rfl,G3,hu⟩:=bg;have dk:0<l.length:=List.length_pos_iff.2 W.o.2.2.2.ne;obtain⟨g,cap,rfl⟩:∃g cap,sv=.slice (some ⟨g,0,none⟩) l.length cap:=by
             rcases G3.shape with⟨_,e2,_⟩|⟨g,cap,e,_⟩
             ·omega
             ·exact⟨g,cap,e⟩
            have hsl:l.length=(dY l).length:=(ex l).length_eq.symm;have cB:(il (ls.take i) ms).length<1000:=by
             have h1:(il (ls.take i) ms).length≤(ls.take i).length:=by unfold il;rw[aB];exact eQ _ _
             have h2:(ls.take i).length≤ls.length:=by rw[aZ];omega
             have:=HN.o.1;omega
            have bn:aP wr w6 56 2 (dY l).length (.slice (some ⟨g,0,none⟩) l.length cap) (aV (dY l)):=by rw[←hsl];exact G3
            obtain⟨e8,w8,bE,dp,cD,_⟩:=jl.push b6.o hu bn a0.o.size cB;have bv:Hid (Upd [] w w8):=aa ((a0.o.then hu (by simp)).then cD.o (fun b hb hl=>by obtain⟨vs,hr,_⟩:=b6.o;have:=hr.2 b (by simpa using hb);omega))
            rw[←b9.o]at bE;rw[←b9.o];clear G3 hu K dk hsl cB bn cD;go_wp2_with (at_builtin;refine bc rfl _ _ _ rfl _ _ _ _ rfl rfl bE.o ?_);go_roundg (n-(i+1))
            case measure=>have:=O.o;omega
            case rel=>
             refine⟨i+1,by simp,aa (by have:=O.o;omega),aa ⟨?_,bv.o⟩⟩;rw[qz Hf,←W.o.2.1,←ct.o];exact dp.o
        ·obtain rfl:n=i:=by have:=O.o;omega
         have HO:Hid (jl w wr u7 (il ls ms)):=aa (by have:=F.o.1;rwa [HN.o.1,aS]at this);clear F O a9 ad;have K:Hid (Calls prog 13 #[.slice b1 n c1,.slice b2 M c2] wr (WsQ wr (il ls ms))):=aa (by obtain⟨ds,dF⟩:=G.o;obtain⟨lb,lc,e1,dP⟩:=yj (ds.upd a4.o) (fun l hl=>List.length_pos_iff.2 (HC.o.1 l hl).ne);obtain⟨mb,mc,e2,cE⟩:=AE (dF.upd a4.o) HM.o;have dT:=Cu (ms:=ms) (by have:=HN.o.2;omega) HM.o;have h:=tH wr lc mc lb mb ls (mV ms) dP cE (by have:=HN.o.1;omega) HC.o.1 HC.o.2 dT;rw[yw HC.o.1 HM.o,←e1,←e2]at h;exact h)
         obtain⟨b7,c7,rfl⟩:=HO.o.shape;obtain⟨N,hN⟩:∃N,N=(il ls ms).length:=⟨_,rfl⟩;have d0:=aa hN;have ep:N≤12:=by rw[hN];unfold il;rw[aB];exact aW (eQ _ _) (by have:=HN.o.1;omega)
         rw[←hN];rw[←hN]at HO;go_wp2_with fail;refine K.o.mono ?_;rintro e w6 bg;obtain⟨ov,rfl,bA,hu⟩:=bg;obtain⟨b8,c8,rfl⟩:=bA.shape;rw[←hN]at bA;rw[←hN];have ea:=aa bA;have eb:=aa (HO.o.upd hu (by simp));have U:=aa (a4.o.then hu (by simp));clear bA hu K hN;go_wp2_with fail;go_loopg [165] N (fun gg cF wx=>∃i:Nat,cF=.int .i64 i∧Hid (gg+i=N)∧Hid (Upd [] w6 wx))
         case atStart=>exact⟨0,rfl,aa (by omega),aa (ae _)⟩
         case round=>
          obtain⟨i,rfl,O,HT⟩:=hrel;by_cases a9:i<N
          ·have Hf:i<(il ls ms).length:=by have:=d0.o;omega
           obtain⟨g1,d1,u1,e1,k1,a5⟩:=(eb.o.upd HT.o (by simp)).at_ i Hf;obtain⟨g2,d2,u2,e2,k2,a6⟩:=(ea.o.upd HT.o (by simp)).at_ i Hf;simp only[bx]at e1 e2;obtain⟨rfl,-,rfl⟩:=e1;obtain⟨rfl,-,rfl⟩:=e2;obtain⟨x1,y1,rfl,_⟩:=id a5;obtain⟨x2,y2,rfl,_⟩:=id a6;have hlen:(il ls ms)[i].length≤6:=by obtain⟨l,hl,e⟩:=List.mem_map.1 (aq Hf:(il ls ms)[i]∈il ls ms);rw[←e,(ex l).length_eq];exact(HC.o.1 l (List.mem_filter.1 hl).1).len
           have KS:Hid (∀w',Upd [] wr w'→Calls prog 14 #[.slice x2 (il ls ms)[i].length y2,.slice x1 (il ls ms)[i].length y1] w' fun e a1=>e=.returned (.bool true)∧Upd [] wr a1):=aa fun w' hu=>(vp w' _ _ _ (a6.upd hu) (a5.upd hu) hlen).mono fun e a1 h=>⟨h.1,hu.then h.2 (by simp)⟩;obtain⟨z,hz⟩:∃z,z=(il ls ms)[i].length:=⟨_,rfl⟩;rw[←hz]at KS k1 k2;have KP:Hid (∀w',Upd [] wr w'→w'.cell? ⟨g1,i,none⟩=some (.slice x1 z y1)∧w'.cell? ⟨g2,i,none⟩=some (.slice x2 z y2)):=aa fun w' hu=>⟨hu.cell (by simp) k1,hu.cell (by simp) k2⟩;have bd:(0:Int)≤(i:Int):=by omega
           have be:(i:Int)<(N:Int):=by omega
           clear a5 a6 hlen hz k1 k2;go_upto_region 36 with fail
           go_region_held3 (fun w'=>w'.cell? ⟨g1,i,none⟩=some (.slice x1 z y1)∧w'.cell? ⟨g2,i,none⟩=some (.slice x2 z y2)) (exact KP.o _ (by with_reducible first|exact ae _|exact(ae _).drew|assumption|exact aG (by assumption))) (first
            |(go_at_call 14;refine(KS.o _ (by with_reducible first|exact ae _|exact(ae _).drew|assumption|exact aG (by assumption))).mono ?_;rintro e w8 ⟨rfl,bl⟩)
            |fail)
           all_goals
            have U:=aa bl;clear bl;go_wp2_with fail;go_roundg (N-(i+1))
            case measure=>have:=O.o;omega
            case rel=>exact⟨i+1,by simp,aa (by have:=O.o;omega),aa (HT.o.then (by first|exact U.o|exact U.o.drew) (by simp))⟩
          ·obtain rfl:N=i:=by have:=O.o;omega
           go_wp2_with fail;refine(HA.o _).mono ?_;rintro e w9 ⟨rfl,d⟩;have A:=aa d;clear d;go_wp2_with fail;refine bodyPost_ret (v:=.bool true) (by simp[results,results3]) rfl ⟨rfl,(U.o.then HT.o (by simp)).then A.o (by simp)⟩
end Go.Proofs.YtlgefdfflmgocaaGreatDoor
