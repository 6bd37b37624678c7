import Derived.Test.YtlgefdfflmgocaaGreatDoorQ34
import Derived.Deep.AppendSrc
import Derived.Deep.Upon
set_option linter.all false
set_option maxRecDepth 100000
set_option maxHeartbeats 4000000
namespace Go.Proofs.YtlgefdfflmgocaaGreatDoor
open Go Go.RowKit Xc Go.Proofs.Tryz
attribute [local go_sem ↓] Go.wp_at_zero Go.wp_at_succ
theorem ki.at_{w:World}{v:Value}{l:LabL}(h:ki w v l)(i:Nat)(z:i<l.length):∃a d cap,v=.slice (some ⟨a,d,none⟩) l.length cap∧w.cell? ⟨a,d+i*2,none⟩=some (.string l[i].1)∧w.cell? ⟨a,d+i*2+1,none⟩=some (.string l[i].2):=by obtain⟨ob,cap,rfl,h⟩:=h;obtain⟨a,d,rfl,_,A,D⟩:=h i z;exact⟨a,d,cap,rfl,A,D⟩
theorem vp(w:World)(v1 v2:Value)(l:LabL)(h1:ki w v1 l)(D:ki w v2 l)(hl:l.length≤6):Calls prog 14 #[v1,v2] w fun e w'=>e=.returned (.bool true)∧Upd [] w w':=by
 obtain⟨b1,c1,rfl,h1⟩:=h1;obtain⟨b2,c2,rfl,D⟩:=D;obtain⟨n,hn⟩:∃n,n=l.length:=⟨_,rfl⟩;rw[←hn]at hl;rw[←hn];have H:=aa (And.intro h1 D);have Hn:=aa hn;clear h1 D hn;go_enter func14,ntmps14
 go_wp2_with fail;go_loopg [5] n (fun gg s5 wx=>∃i:Nat,s5=.int .i64 i∧Hid (gg+i=n)∧Hid (Upd [] w wx))
 case atStart=>exact⟨0,rfl,aa (by omega),aa (ae _)⟩
 case round=>
  obtain⟨i,rfl,O,d⟩:=hrel;by_cases ad:i<n
  ·have Hf:i<l.length:=by have:=Hn.o;omega
   obtain⟨a,oa,rfl,ha,U,V⟩:=H.o.1 i Hf;obtain⟨a2,a0,rfl,F,z,A⟩:=H.o.2 i Hf;have k1:=d.o.cell (by simp) U;have k3:=d.o.cell (by simp) V;have k4:=d.o.cell (by simp) z;have k5:=d.o.cell (by simp) A;obtain⟨s,hs⟩:∃s,s=l[i].1:=⟨_,rfl⟩;obtain⟨t,W⟩:∃t,t=l[i].2:=⟨_,rfl⟩;rw[←hs]at k1 k4;rw[←W]at k3 k5;have a1:(0:Int)≤(i:Int):=by omega
   have a3:(i:Int)<(n:Int):=by omega
   clear ha V U F z A hs W;go_upto_region 6 with fail
   go_quiet (fail)
   go_wp2_with fail;go_roundg (n-(i+1))
   case measure=>have:=O.o;omega
   case rel=>exact⟨i+1,by simp,aa (by omega),aa (d.o.drewN _)⟩
  ·have G:i=n:=by have:=O.o;omega
   subst G;go_wp2_with fail;go_ret;exact⟨rfl,d.o⟩
def zc(l:LabL):Prop:=l.length≤6∧(∀p∈l,0<p.1.size∧p.1.size≤60∧p.2.size≤60)∧(l.map (·.1)).Nodup
def Dv(w:World)(l:LabL)(e:Ending)(w':World):Prop:=∃r,e=.returned (.bool r)∧(r=true→zc l)∧Upd [] w w'
theorem oe(s:ByteArray):s.toList.isEmpty=decide (s.size=0):=by rw[bV];obtain⟨⟨x⟩⟩:=s;show x.isEmpty=decide (x.length=0);cases x<;>simp
theorem tD(w:World)(v:Value)(l:LabL)(h:ki w v l):Calls prog 7 #[v,.int .i64 6,.int .i64 60] w (Dv w l):=by
 obtain⟨ob,cap,rfl,h⟩:=h;obtain⟨n,hn⟩:∃n,n=l.length:=⟨_,rfl⟩;rw[←hn];have H:=aa h;have Hn:=aa hn;clear h hn;by_cases a7:(6:Int)<(n:Int)
 ·refine en (R:=fun e w'=>e=.returned (.bool false)∧Upd [] w w') ?_ (fun e w' h=>⟨_,h.1,by simp,h.2⟩);go_enter func7,ntmps7
  go_wp2_with fail;go_ret;exact⟨rfl,ae _⟩
 have a9:n≤6:=by omega
 go_enter func7,ntmps7
 go_wp2_with fail;go_loopg [7] n (fun gg s7 wx=>∃i:Nat,s7=.int .i64 i∧Hid (gg+i=n)∧Hid (Upd [] w wx∧∀j (h:j<l.length),j<i→(0<l[j].1.size∧l[j].1.size≤60∧l[j].2.size≤60)∧∀k (hk:k<j),l[k].1≠l[j].1))
 case atStart=>exact⟨0,rfl,aa (by omega),aa ⟨ae _,fun j _ h=>by omega⟩⟩
 case round=>
  obtain⟨i,rfl,Hi,d⟩:=hrel;by_cases bb:i<n
  ·have Hf:i<l.length:=by have:=Hn.o;omega
   obtain⟨a,oa,rfl,ha,z,k2⟩:=H.o i Hf;have k1:=d.o.1.cell (by simp) z;have k3:=d.o.1.cell (by simp) k2;obtain⟨s,hs⟩:∃s,s=l[i].1:=⟨_,rfl⟩;obtain⟨t,ht⟩:∃t,t=l[i].2:=⟨_,rfl⟩;rw[←hs]at k1;rw[←ht]at k3;have A:=aa (And.intro hs ht);have bd:(0:Int)≤(i:Int):=by omega
   have bg:(i:Int)<(n:Int):=by omega
   obtain⟨be,D⟩:∃be,be=s.toList.isEmpty:=⟨_,rfl⟩;have ad:=aa D;have V:=D.symm;clear ha z k2 hs ht D;cases be with
   |true=>
    go_wp2_with fail;refine bodyPost_ret (v:=.bool false) (by simp[results,results7]) rfl ⟨_,rfl,by simp,d.o.1⟩
   |false=>
    by_cases a0:(60:Int)<(s.size:Int)
    ·go_wp2_with fail;refine bodyPost_ret (v:=.bool false) (by simp[results,results7]) rfl ⟨_,rfl,by simp,d.o.1⟩
    by_cases a1:(60:Int)<(t.size:Int)
    ·go_wp2_with fail;refine bodyPost_ret (v:=.bool false) (by simp[results,results7]) rfl ⟨_,rfl,by simp,d.o.1⟩
    have a2:Hid (0<s.size∧s.size≤60∧t.size≤60):=aa ⟨by have:=ad.o;rw[oe]at this;have:=of_decide_eq_false this.symm;omega,by omega,by omega⟩;go_wp2_with fail;clear a0 a1 V;go_loopg [8] i (fun gg s8 wx=>∃k:Nat,s8=.int .i64 k∧Hid (gg+k=i)∧Hid (Upd [] w wx∧∀j (F:j<i),j<k→l[j].1≠s))
    case atStart=>exact⟨0,rfl,aa (by omega),aa ⟨d.o.1,fun j _ h=>by omega⟩⟩
    case round=>
     obtain⟨k,rfl,Hk,G⟩:=hrel;clear k1 k3;obtain⟨a',a3,e,_,z,_⟩:=H.o i Hf;simp only[aM,eD]at e;obtain⟨rfl,rfl,-⟩:=e;have k1:=G.o.1.cell (by simp) z;rw[←A.o.1]at k1;clear z;by_cases bl:k<i
     ·have a4:k<l.length:=by omega
      obtain⟨a',a3,e,_,z,_⟩:=H.o k a4;simp only[aM,eD]at e;obtain⟨rfl,rfl,-⟩:=e;have k5:=G.o.1.cell (by simp) z;obtain⟨s',O⟩:∃s,s=l[k].1:=⟨_,rfl⟩;rw[←O]at k5;obtain⟨b,hb⟩:∃b,b=(s'.toList==s.toList):=⟨_,rfl⟩;have hb2:=hb.symm;have HB:=aa (And.intro hb O);have bn:(0:Int)≤(k:Int):=by omega
      have br:(k:Int)<(i:Int):=by omega
      have bv:(k:Int)<(n:Int):=by omega
      clear z hb O;cases b
      ·go_upto_region 11 with fail
       go_quiet (fail)
       go_wp2_with fail;go_roundg (i-(k+1))
       case measure=>have:=Hk.o;omega
       case rel=>
        refine⟨k+1,by simp,aa (by omega),aa ⟨G.o.1.drewN _,fun j F W=>?_⟩⟩;by_cases U:j=k
        ·subst U;have:=HB.o.1;rw[bytes_beq]at this;rw[←HB.o.2];simpa using this.symm
        ·exact G.o.2 j F (by omega)
      ·go_upto_region 11 with fail
       go_quiet (fail)
       go_wp2_with fail;refine bodyPost_ret (v:=.bool false) (by simp[results,results7]) rfl ⟨_,rfl,by simp,G.o.1.drewN _⟩
     ·have a5:k=i:=by have:=Hk.o;omega
      subst a5;go_wp2_with fail;obtain⟨g1,bw⟩:∃g1,g1=n-(k+1):=⟨_,rfl⟩;go_roundg g1
      case measure=>have:=Hi.o;omega
      case rel=>
       refine⟨k+1,by simp,aa (by have:=Hi.o;omega),aa ⟨G.o.1,fun j F bA=>?_⟩⟩;by_cases U:j=k
       ·subst U;rw[←A.o.1,←A.o.2];exact⟨a2.o,fun m hm=>G.o.2 m hm hm⟩
       ·exact d.o.2 j F (by omega)
  ·have a6:i=n:=by have:=Hi.o;omega
   subst a6;go_wp2_with fail;refine bodyPost_ret (v:=.bool true) (by simp[results,results7]) rfl ⟨_,rfl,fun _=>?_,d.o.1⟩;have hn:=Hn.o;refine⟨by omega,fun p hp=>?_,?_⟩
   ·obtain⟨j,F,rfl⟩:=aQ hp;exact(d.o.2 j F (by omega)).1
   ·rw[List.Nodup,fg,mB];intro j k F hk W;exact(d.o.2 k hk (by omega)).2 j W
theorem Dk(w:World)(v1 v2:Value)(l1 l2:LabL)(h1:ki w v1 l1)(h2:ki w v2 l2)(a4:l1.length≤6)(a5:l2.length≤6):Calls prog 9 #[v1,v2] w fun e w'=>e=.returned (.int .i64 (fl l1 l2))∧Upd [] w w':=by
 obtain⟨b1,c1,rfl,h1⟩:=h1;obtain⟨b2,c2,rfl,h2⟩:=h2;obtain⟨O,A⟩:∃n,n=l1.length:=⟨_,rfl⟩;obtain⟨U,D⟩:∃n,n=l2.length:=⟨_,rfl⟩;rw[←A]at a4;rw[←D]at a5;rw[←A,←D];have H:=aa (And.intro h1 h2);have F:=aa (And.intro A D);clear h1 h2 A D;go_enter func9,ntmps9
 go_wp2_with fail;go_loopg [5] O (fun gg s5 wx=>∃i:Nat,s5=.int .i64 i∧Hid (gg+i=O)∧Hid (i≤U)∧Hid (Upd [] w wx∧fl l1 l2=fl (l1.drop i) (l2.drop i)))
 case atStart=>exact⟨0,rfl,aa (by omega),aa (by omega),aa ⟨ae _,by simp⟩⟩
 case round=>
  obtain⟨i,rfl,Hi,ad,d⟩:=hrel;by_cases bb:i<O
  ·by_cases a9:i<U
   ·have Hf:i<l1.length:=by have:=F.o.1;omega
    have G:i<l2.length:=by have:=F.o.2;omega
    obtain⟨a,oa,rfl,ha,k0,k2⟩:=H.o.1 i Hf;obtain⟨a2,bd,rfl,a6,a0,a1⟩:=H.o.2 i G;have k1:=d.o.1.cell (by simp) k0;have k3:=d.o.1.cell (by simp) k2;have k4:=d.o.1.cell (by simp) a0;have k5:=d.o.1.cell (by simp) a1;obtain⟨s,hs⟩:∃s,s=l1[i].1:=⟨_,rfl⟩;obtain⟨t,ht⟩:∃t,t=l1[i].2:=⟨_,rfl⟩;obtain⟨s2,z⟩:∃s,s=l2[i].1:=⟨_,rfl⟩;obtain⟨t2,ht2⟩:∃t,t=l2[i].2:=⟨_,rfl⟩;rw[←hs]at k1;rw[←ht]at k3;rw[←z]at k4;rw[←ht2]at k5;have be:(0:Int)≤(i:Int):=by omega
    have bg:(i:Int)<(O:Int):=by omega
    have bl:(i:Int)<(U:Int):=by omega
    have V:=And.intro hs (And.intro ht (And.intro z ht2));clear ha k2 k0 a6 a0 a1 hs ht z ht2;obtain⟨L,hL⟩:∃b,Op.bytesLess s.toList s2.toList=b:=⟨_,rfl⟩;obtain⟨E,hE⟩:∃b,(s.toList==s2.toList)=b:=⟨_,rfl⟩;obtain⟨M,hM⟩:∃b,Op.bytesLess t.toList t2.toList=b:=⟨_,rfl⟩;obtain⟨T,hT⟩:∃b,(t.toList==t2.toList)=b:=⟨_,rfl⟩;have HB:=aa (And.intro hL (And.intro hE (And.intro hM (And.intro hT V))));have hd:Hid (fl (l1.drop i) (l2.drop i)=if L=true∨E=true∧M=true then-1 else if E=true∧T=true then fl (l1.drop (i+1)) (l2.drop (i+1))else 1):=aa (by
     rw[bf Hf,bf G,fl];rw[oH]at hL hM;rw[bytes_beq]at hE hT;obtain⟨hs,ht,z,ht2⟩:=V;rw[←hL,←hE,←hM,←hT,←hs,←z,←ht,←ht2];simp only[decide_eq_true_eq];congr 1;have:(l1[i]=l2[i])=(s=s2∧t=t2):=by rw[hs,z,ht,ht2,Prod.ext_iff]
     simp only[this])
    clear V;cases L with
    |true=>
     go_upto_region 4 with fail
     go_quiet (fail)
     go_wp2_with fail;go_ret;refine⟨?_,d.o.1.drewN _⟩;rw[d.o.2,hd.o];simp
    |false=>
     cases E with
     |false=>
      go_upto_region 4 with fail
      go_quiet (fail)
      go_upto_region 5 with fail
      go_quiet (fail)
      go_upto_region 7 with fail
      go_quiet (fail)
      go_wp2_with fail;go_ret;refine⟨?_,((d.o.1.drewN _).drewN _).drewN _⟩;rw[d.o.2,hd.o];simp
     |true=>
      cases M with
      |true=>
       go_upto_region 4 with fail
       go_quiet (fail)
       go_upto_region 5 with fail
       go_quiet (fail)
       go_wp2_with fail;go_ret;refine⟨?_,d.o.1.drewN _⟩;rw[d.o.2,hd.o];simp
      |false=>
       cases T with
       |false=>
        go_upto_region 4 with fail
        go_quiet (fail)
        go_upto_region 5 with fail
        go_quiet (fail)
        go_upto_region 7 with fail
        go_quiet (fail)
        go_wp2_with fail;go_ret;refine⟨?_,d.o.1.drewN _⟩;rw[d.o.2,hd.o];simp
       |true=>
        go_upto_region 4 with fail
        go_quiet (fail)
        go_upto_region 5 with fail
        go_quiet (fail)
        go_upto_region 7 with fail
        go_quiet (fail)
        go_wp2_with fail;obtain⟨g1,bn⟩:∃g1,g1=O-(i+1):=⟨_,rfl⟩;go_roundg g1
        case measure=>have:=Hi.o;omega
        case rel=>exact⟨i+1,by simp,aa (by have:=Hi.o;omega),aa (by omega),aa ⟨d.o.1.drewN _,by rw[d.o.2,hd.o];simp⟩⟩
   ·have W:i=U:=by have:=ad.o;omega
    subst W;have a7:(i:Int)<(O:Int):=by omega
    go_wp2_with fail;go_ret;refine⟨?_,d.o.1⟩;rw[d.o.2,bf (l:=l1) (by have:=F.o.1;omega),eF (l:=l2) (by have:=F.o.2;omega)];rfl
  ·have W:i=O:=by have:=Hi.o;omega
   subst W;have hle:=ad.o;by_cases br:i<U
   ·have a7:(i:Int)<(U:Int):=by omega
    go_wp2_with fail;go_ret;refine⟨?_,d.o.1⟩;rw[d.o.2,bf (l:=l2) (by have:=F.o.2;omega),eF (l:=l1) (by have:=F.o.1;omega)];rfl
   ·have a3:i=U:=by omega
    subst a3;go_wp2_with fail;go_ret;refine⟨?_,d.o.1⟩;rw[d.o.2,eF (l:=l2) (by have:=F.o.2;omega),eF (l:=l1) (by have:=F.o.1;omega)];rfl
def ER(w:World)(l:LabL)(e:Ending)(w':World):Prop:=∃b k c,e=.returned (.slice b k c)∧k≤l.length∧(k=l.length→∀p∈l,0<p.2.size)∧Upd [] w w'
theorem Dm(w:World)(v:Value)(l:LabL)(h:ki w v l)(hl:l.length≤6):Calls prog 8 #[v] w (ER w l):=by
 obtain⟨ob,cap,rfl,h⟩:=h;obtain⟨n,hn⟩:∃n,n=l.length:=⟨_,rfl⟩;rw[←hn]at hl;rw[←hn];have H:=aa h;have W:=aa hn;clear h hn;go_enter func8,ntmps8
 go_wp2_with fail;go_loopg [3,4] n (fun gg s3 s4 wx=>∃(i k:Nat) (xs:List Value),s4=.int .i64 i∧Hid (gg+i=n)∧Hid (k≤i∧aP w wx 56 2 k s3 xs∧Upd [] w wx∧(k=i→∀j (h:j<l.length),j<i→0<l[j].2.size)))
 case atStart=>exact⟨0,0,[],rfl,aa (by omega),aa ⟨by omega,er,ae _,fun _ j _ h=>by omega⟩⟩
 case round=>
  obtain⟨i,k,xs,rfl,A,d⟩:=hrel;by_cases a6:i<n
  ·have Hf:i<l.length:=by have:=W.o;omega
   obtain⟨a,oa,rfl,ha,k0,k2⟩:=H.o i Hf;have k1:=d.o.2.2.1.cell (by simp) k0;have k3:=d.o.2.2.1.cell (by simp) k2;obtain⟨s,hs⟩:∃s,s=l[i].1:=⟨_,rfl⟩;obtain⟨t,ht⟩:∃t,t=l[i].2:=⟨_,rfl⟩;rw[←hs]at k1;rw[←ht]at k3;have a7:(0:Int)≤(i:Int):=by omega
   have a9:(i:Int)<(n:Int):=by omega
   obtain⟨be,z⟩:∃be,be=t.toList.isEmpty:=⟨_,rfl⟩;have D:=aa (And.intro z ht);have a4:=z.symm;clear ha k0 k2 hs ht z;cases be with
   |true=>
    go_wp2_with fail;obtain⟨g1,ad⟩:∃g1,g1=n-(i+1):=⟨_,rfl⟩;go_roundg g1
    case measure=>have:=A.o;omega
    case rel=>exact⟨i+1,k,xs,by simp,aa (by have:=A.o;omega),aa ⟨by have:=d.o.1;omega,d.o.2.1,d.o.2.2.1,fun hk=>by have:=d.o.1;omega⟩⟩
   |false=>
    obtain⟨i0,hi,F,G,O⟩:=info_parts Tryz.info56;have U:=d.o.2.2.1.size;have a0:=d.o.1;obtain⟨v',w4,V,G3,a1,a5⟩:=jH (P:=prog) 27 56 i0 _ 2 32 underlying27 hi F G O rfl (by decide) d.o.2.1 ((ae wr).alloc (.cells #[.string s,.string t] 56 (0,0))) [.string s,.string t] rfl (by simp[Value.oneCell']) wr.heap.size 56 (an _) U (by unfold maxLen;omega) (by omega);clear hi F G O U a0;go_wp2_with (at_builtin;refine bc rfl _ _ _ rfl _ _ _ _ rfl rfl V.o ?_);obtain⟨g1,ad⟩:∃g1,g1=n-(i+1):=⟨_,rfl⟩;go_roundg g1
    case measure=>have:=A.o;omega
    case rel=>
     refine⟨i+1,k+1,_,by simp,aa (by have:=A.o;omega),aa ⟨by have:=d.o.1;omega,G3.o,d.o.2.2.1.then a1.o (fun b hb hl=>by have:=d.o.2.1.2 b (by simpa using hb);omega),fun hk j hj bb=>?_⟩⟩;by_cases a2:j=i
     ·subst a2;rw[←D.o.2];have:=D.o.1;rw[oe]at this;have:=of_decide_eq_false this.symm;omega
     ·exact d.o.2.2.2 (by omega) j hj (by omega)
  ·have a3:i=n:=by have:=A.o;omega
   subst a3;obtain⟨b,c,e3⟩:∃b c,u3=.slice b k c:=by
    rcases d.o.2.1.shape with⟨e,e2,_⟩|⟨g,c,e,_⟩
    ·exact⟨none,0,by rw[e,e2]⟩
    ·exact⟨_,c,e⟩
   subst e3;go_wp2_with fail;refine bodyPost_ret (v:=.slice b k c) (by simp[results,results8]) rfl ⟨b,k,c,rfl,by have:=d.o.1;have:=W.o;omega,fun hk p hp=>?_,d.o.2.2.1⟩;obtain⟨j,hj,rfl⟩:=aQ hp;exact d.o.2.2.2 (by rw[hk,W.o]) j hj (by have:=W.o;omega)
theorem rC(m:LabL)(x:ByteArray×ByteArray)(k:Nat):(m.take k++x::m.drop k).Perm (m++[x]):=by have h1:(m.take k++x::m.drop k).Perm (m.take k++(m.drop k++[x])):=(List.perm_append_left_iff _).2 (kg (l₁:=[x]) (l₂:=m.drop k));rwa [←al,aI]at h1
theorem rD{m:LabL}{x:ByteArray×ByteArray}{k:Nat}(hm:m.Pairwise fun x y=>sb x.1<sb y.1)(hk:k≤m.length)(h1:∀j (h:j<m.length),k≤j→sb x.1<sb m[j].1)(U:∀h:0<k,sb (m[k-1]'(by omega)).1<sb x.1):(m.take k++x::m.drop k).Pairwise fun x y=>sb x.1<sb y.1:=by
 have V:=hm.sublist (List.take_sublist k m);have W:=hm.sublist (List.drop_sublist k m);have d:∀y∈m.drop k,sb x.1<sb y.1:=fun y A=>by obtain⟨j,F,rfl⟩:=aQ A;rw[ng];exact h1 _ _ (by omega)
 have z:∀y∈m.take k,sb y.1<sb x.1:=fun y A=>by
  obtain⟨j,F,rfl⟩:=aQ A;rw[aZ]at F;rw[jO];have G:=U (by omega);by_cases D:j=k-1
  ·subst D;exact G
  ·exact ig (List.pairwise_iff_getElem.1 hm j (k-1) (by omega) (by omega) (by omega)) G
 rw[List.pairwise_append];refine⟨V,List.pairwise_cons.2 ⟨d,W⟩,fun a O b hb=>?_⟩;rcases List.mem_cons.1 hb with rfl|hb
 ·exact z a O
 ·exact ig (z a O) (d b hb)
theorem jh(a b:LabL):aV (a++b)=aV a++aV b:=by simp[aV]
theorem nE(m:LabL)(x:ByteArray×ByteArray)(k:Nat):aV (m.take k++x::m.drop k)=aV (m.take k)++[.string x.1,.string x.2]++aV (m.drop k):=by rw[jh];simp[aV]
theorem BK{b0 w:World}{v:Value}{n:Nat}{xs:List Value}(h:aP b0 w 56 2 n v xs)(U:b0.heap.size≤w.heap.size)(ob:Option Addr)(m c:Nat)(news:List Value)(hl:news.length=m*2)(V:∀j u,news[j]? =some u→∃a,ob=some a∧w.cell? (a.add j)=some u)(h1:∀u∈news,u.oneCell'=true)(G5:ob=none→m=0)(hn:n+m≤1000):
 ∃v' w2,(Builtin.append_ #[27,27] 27 #[v,.slice ob m c]).run prog w=.ok v' w2∧aP b0 w2 56 2 (n+m) v' (xs++news)∧Upd v.ownBlock.toList w w2∧∀b,v'.ownBlock=some b→v.ownBlock=some b∨w.heap.size≤b:=by
 obtain⟨i0,O,A,D,F⟩:=info_parts Tryz.info56;cases ob with
 |none=>
  have hm:=G5 rfl;subst hm;have d:news=[]:=by cases news with|nil=>rfl|cons a l=>simp at hl
  subst d;obtain⟨b,z,e,hle⟩:∃b z,v=.slice b n z∧n≤z:=by
   rcases h.1.2 with⟨e,e2⟩|⟨g,cap,cur,e,_,_,G,_⟩
   ·exact⟨none,0,by rw[e,e2],by omega⟩
   ·exact⟨_,cap,e,G⟩
  refine⟨v,w,?_,by simpa using h,(ae w).mono (by simp),fun b hb=>.inl hb⟩;have hs:Src prog i0.size 27 (.slice none 0 c) 0 [] w:=Src.ofNil w underlying27 c;rw[e];exact run_append_nothing w 27 27 27 56 i0 underlying27 O b n z hle (.slice none 0 c) hs
 |some a=>
  obtain⟨v',w',hr,G,W,h4⟩:=iz (P:=prog) w 27 27 56 i0 _ 2 32 underlying27 O A D F rfl (by decide) v n xs h.1 a m c news hl (fun j u hu=>by obtain⟨a',e,h⟩:=V j u hu;cases e;exact h) h1 (by unfold maxLen;omega) (by omega);refine⟨v',w',hr,⟨G,fun b hb=>?_⟩,?_,fun b hb=>?_⟩
  ·rcases h4 with h4|⟨g,h4,h5⟩
   ·exact h.2 b (h4▸hb)
   ·rw[hb]at h4;cases h4;omega
  ·exact((ae w).mono (by simp)).grown W (fun k hk _=>by rw[hk];simp)
  ·rcases h4 with h4|⟨g,h4,h5⟩
   ·exact .inl (h4▸hb)
   ·rw[hb]at h4;cases h4;exact .inr h5
theorem Fx{b0 w:World}{A:Nat}(d:b0.heap.size≤A)(h:w.heap[A]? =some (.cells #[] 56 (0,0))):aP b0 w 56 2 0 (.slice (some ⟨A,0,none⟩) 0 0) []:=
 ⟨⟨rfl,.inr ⟨A,0,#[],rfl,ay _,h,aw _,by unfold maxLen;omega,rfl,rfl⟩⟩,fun b hb=>by simp only[Value.ownBlock,aM]at hb;omega⟩
theorem FF{w:World}{B:Nat}{s t:ByteArray}(h:w.heap[B]? =some (.cells #[.string s,.string t] 56 (0,0))):∀j u,[Value.string s,Value.string t][j]? =some u→∃a,some (⟨B,0,none⟩:Addr)=some a∧w.cell? (a.add j)=some u:=fun j u d=>by refine⟨_,rfl,?_⟩;rw[aO,af h,aK];simpa using d
theorem kG{ops:Array Oper}{o:Oper}{a:Act}{w:World}{K:Act→World→Prop}{Q:Exit→Act→World→Prop}{E:Prop}
 (hg:o.guard=none)(s x:Operand)(z:o.op=Op.call {callee:=Callee.builtin Builtin.append,args:= #[s,x],argTypes:= #[27,27]})(A:o.type=27)
 (b0:World)(d:Value)(ob:Option Addr)(m c:Nat)(hs:a.eval s=d)(O:a.eval x=.slice ob m c)(n:Nat)(xs news:List Value)
 (h:aP b0 w 56 2 n d xs)(hu:Upd [] b0 w)(hl:news.length=m*2)(U:∀j u,news[j]? =some u→∃a,ob=some a∧w.cell? (a.add j)=some u)(h1:∀u∈news,u.oneCell'=true)(G5:ob=none→m=0)(hn:n+m≤1000)
 (hK:∀v' w',aP b0 w' 56 2 (n+m) v' (xs++news)→Upd [] b0 w'→(∀B o,w.heap[B]? =some o→d.ownBlock≠some B→w'.heap[B]? =some o)→(∀b,v'.ownBlock=some b→d.ownBlock=some b∨w.heap.size≤b)→(∃b' D,v'=.slice b' (n+m) D)→K (a.put o.dst v') w'):
 if Region.wanted o (yielded ops a.tmps)=true then Oper.wp prog o a w K Q else E:=by
 obtain⟨v',w',hr,F,G,h4⟩:=BK h hu.size ob m c news hl U h1 G5 hn;refine df hg s x _ z d (.slice ob m c) v' w' hs O (by rw[A];exact hr) (hK v' w' F (hu.then G (fun b hb hl=>?_)) (fun B o hB G5=>G.blk hB (fun hm=>G5 (by simpa using hm))) h4 ?_)
 ·have:=h.2 b (by simpa using hb);omega
 ·rcases F.shape with⟨e1,e2,_⟩|⟨g,D,e1,_⟩
  ·exact⟨none,0,by rw[e1,e2]⟩
  ·exact⟨_,D,e1⟩
theorem dV{w w':World}{o:Obj}{A:Nat}(hu:Upd [] (w.alloc o) w')(d:A=w.heap.size):w'.heap[A]? =some o:=by subst d;exact hu.blk (an _) (by simp)
theorem nF(m':LabL):∀u∈aV m',u.oneCell'=true:=fun u hu=>by simp only[aV,eU]at hu;obtain⟨p,_,d⟩:=hu;simp only[ah,ai,or_false]at d;rcases d with rfl|rfl<;>rfl
theorem rV{w A:World}{m:LabL}{i k c:Nat}{b:Option Addr}(h:aP w A 56 2 i (.slice b i c) (aV m)):∀w',Upd [] A w'→∀j u,(aV (m.take k))[j]? =some u→∃a,b=some a∧w'.cell? (a.add j)=some u:=fun w' z j u D=>by
 have e:aV m=aV (m.take k)++aV (m.drop k):=by rw[←jh,aI]
 have d:(aV m)[j]? =some u:=by obtain⟨hl,_⟩:=List.getElem?_eq_some_iff.1 D;rw[e,bH hl];exact D
 rcases h.shape with⟨_,_,e3⟩|⟨g,F,e1,_⟩
 ·rw[e3]at d;simp at d
 ·simp only[bx]at e1;obtain⟨rfl,-,rfl⟩:=e1;refine⟨_,rfl,z.cell (by simp) ?_⟩;exact h.1.cells (g:=g) rfl j u d
theorem ry{w d:World}{m:LabL}{i k c:Nat}{b:Option Addr}(h:aP w d 56 2 i (.slice b i c) (aV m))(F:i≤c):∀w',Upd [] d w'→∀j u,(aV (m.drop k))[j]? =some u→∃a,(if c=k then b else Option.map (fun x=>x.add (k*2)) b)=some a∧w'.cell? (a.add j)=some u:=fun w' z j u A=>by
 have e:aV m=aV (m.take k)++aV (m.drop k):=by rw[←jh,aI]
 have Ia:m.length=i:=by have:=h.1.1;rw[fj]at this;omega
 have G:k<i:=by
  by_cases O:k<i
  ·exact O
  ·rw[eF (by omega)]at A;simp[aV]at A
 have htl:(aV (m.take k)).length=k*2:=by rw[fj,aZ];congr 1;omega
 have D:(aV m)[k*2+j]? =some u:=by rw[e,bC (by omega),htl,Nat.add_sub_cancel_left];exact A
 rcases h.shape with⟨_,e2,_⟩|⟨g,U,e1,_⟩
 ·omega
 ·simp only[bx]at e1;obtain⟨rfl,-,rfl⟩:=e1;rw[if_neg (by omega)];refine⟨_,rfl,z.cell (by simp) ?_⟩;have:=h.1.cells (g:=g) rfl (k*2+j) u D;rw[aO,aK]at this;show d.cell? (((⟨g,0,none⟩:Addr).add (k*2)).add j)=some u;rw[aO,aO,aK];exact this
def EZ(w:World)(l:LabL)(e:Ending)(w':World):Prop:=∃v,e=.returned v∧aP w w' 56 2 l.length v (aV (dY l))∧Upd [] w w'
theorem vq(w:World)(v:Value)(l:LabL)(h:ki w v l)(hl:l.length≤6)(hnd:(l.map (·.1)).Nodup):Calls prog 10 #[v] w (EZ w l):=by
 obtain⟨ob,cap,rfl,h⟩:=h;obtain⟨n,hn⟩:∃n,n=l.length:=⟨_,rfl⟩;rw[←hn]at hl;rw[←hn];have H:=aa h;have Hn:=aa (And.intro hn hnd);clear h hn hnd;go_enter func10,ntmps10
 go_wp2_with fail;go_loopg [3,4] n (fun gg s3 s4 wx=>∃(i:Nat) (m:LabL),s4=.int .i64 i∧Hid (gg+i=n)∧Hid (aP w wx 56 2 i s3 (aV m)∧Upd [] w wx∧m.length=i∧m.Perm (l.take i)∧m.Pairwise fun x y=>sb x.1<sb y.1))
 case atStart=>exact⟨0,[],rfl,aa (by omega),aa ⟨er,ae _,rfl,by simp,by simp⟩⟩
 case round=>
  obtain⟨i,m,rfl,Hi,D⟩:=hrel;obtain⟨b,c,e3,bL,bM⟩:∃b c,u3=.slice b i c∧i≤c∧(b=none→i=0):=by
   rcases D.o.1.1.2 with⟨e,e2⟩|⟨g,cap,cur,e,_,_,h2,_⟩
   ·exact⟨none,0,by rw[e,e2],by omega,fun _=>e2⟩
   ·exact⟨_,cap,e,h2,fun h=>by simp at h⟩
  subst e3;have V:=aa bM;clear bM;by_cases cn:i<n
  ·have Hf:i<l.length:=by have:=Hn.o.1;omega
   obtain⟨a,oa,rfl,ha,k0,k2⟩:=H.o i Hf;have k1:=D.o.2.1.cell (by simp) k0;have k3:=D.o.2.1.cell (by simp) k2;obtain⟨s,hs⟩:∃s,s=l[i].1:=⟨_,rfl⟩;obtain⟨t,ht⟩:∃t,t=l[i].2:=⟨_,rfl⟩;rw[←hs]at k1;rw[←ht]at k3;have W:=aa (And.intro hs ht);have cp:(0:Int)≤(i:Int):=by omega
   have cs:(i:Int)<(n:Int):=by omega
   have Hk:=aa (And.intro k1 k3);clear ha k0 k2 hs ht;go_wp2_with fail;clear k1 k3;go_loopg [5] i (fun gg s5 wx=>∃k:Nat,s5=.int .i64 k∧Hid (gg=k∧k≤i)∧Hid (Upd [] wr wx∧∀j (h:j<m.length),k≤j→sb s<sb m[j].1))
   case atStart=>exact⟨i,rfl,aa ⟨rfl,aw _⟩,aa ⟨ae _,fun j hj h=>by have:=D.o.2.2.1;omega⟩⟩
   case round=>
    obtain⟨k,rfl,z,HT⟩:=hrel;have k1:=HT.o.1.cell (by simp) Hk.o.1;have k3:=HT.o.1.cell (by simp) Hk.o.2;have b6:(k:Int)≤(i:Int):=by have:=z.o;omega
    have b7:(k:Int)≤(c:Int):=by have:=z.o;omega
    have b8:(i:Int)≤(c:Int):=by omega
    have ck:(0:Int)≤(k:Int):=by omega
    rcases gV k with a9|a9
    ·have hd:¬(0:Int)<(k:Int):=by omega
     go_upto_region 6 with fail
     go_quiet (fail)
     go_upto_region 8 with fail
     have HX:Hid (∀h:0<k,∃h':k-1<m.length,sb m[k-1].1<sb s):=aa (fun h=>by omega);clear a9 hd;obtain⟨d,A⟩:∃x,x=wr.drewN nq:=⟨_,rfl⟩;rw[←A];have ad:Hid (∀w',Upd [] d w'→w'.cell? ⟨a,oa+i*2,none⟩=some (.string s)∧w'.cell? ⟨a,oa+i*2+1,none⟩=some (.string t)):=aa fun w' h=>⟨h.cell (by simp) (by rw[A];exact k1),h.cell (by simp) (by rw[A];exact k3)⟩;have KP:=ad;have HU:Hid (Upd [] w d):=aa (by rw[A];exact(D.o.2.1.then HT.o.1 (by simp)).drewN _);have G:aP w d 56 2 i (.slice b i c) (aV m):=by rw[A];exact D.o.1.upd (HT.o.1.drewN _) (by simp)
     have a0:Hid ((aV (m.take k)).length=k*2∧(aV (m.drop k)).length=(i-k)*2):=aa (by have:=D.o.2.2.1;have:=z.o;rw[fj,fj,aZ,cy];exact⟨by congr 1;omega,by congr 1;omega⟩)
     have bb:Hid (∀w',Upd [] d w'→∀j u,(aV (m.take k))[j]? =some u→∃a,b=some a∧w'.cell? (a.add j)=some u):=aa (rV G);have bd:Hid (∀w',Upd [] d w'→∀j u,(aV (m.drop k))[j]? =some u→∃a,(if c=k then b else Option.map (fun x=>x.add (k*2)) b)=some a∧w'.cell? (a.add j)=some u):=aa (ry G bL);clear G A;have a1:Hid (∀m':LabL,∀u∈aV m',u.oneCell'=true):=aa nF;have be:Hid (b=none→k=0):=aa (fun h=>by have:=V.o h;have:=z.o;omega);have bg:Hid ((if c=k then b else Option.map (fun x=>x.add (k*2)) b)=none→i-k=0):=aa (fun h=>by
      have h2:b=none:=by
       split at h
       ·exact h
       ·simpa using h
      have:=V.o h2;omega)
     have O:Hid (k+1+i≤1000):=aa (by omega);clear k1 k3 ad
     go_region_held3 (fun w'=>w'.cell? ⟨a,oa+i*2,none⟩=some (.string s)∧w'.cell? ⟨a,oa+i*2+1,none⟩=some (.string t)) (exact KP.o _ (by with_reducible ((repeat' (first|exact ae _|assumption|refine aG ?_|refine aE ?_ _|refine aC ?_ _))<;>fail))) (first
      |((refine kG (by rfl) _ _ (by rfl) (by rfl) d (.slice b2 (k+1) c2) _ _ _ (by rfl) (by rfl) (k+1) (aV (m.take k)++[.string s,.string t]) (aV (m.drop k)) ?_ ?_ ?_ ?_ ?_ ?_ ?_ ?_;((exact a2));(exact(by with_reducible ((repeat' (first|exact ae _|assumption|refine aG ?_|refine aE ?_ _|refine aC ?_ _))<;>fail)));(exact a0.o.2);(exact bd.o _ (by with_reducible ((repeat' (first|exact ae _|assumption|refine aG ?_|refine aE ?_ _|refine aC ?_ _))<;>fail)));(exact a1.o _);(exact bg.o);((have:=O.o;omega));intro v3 w3 bl G4 bn br bv;obtain⟨b3,c3,rfl⟩:=bv))
      |((refine kG (by rfl) _ _ (by rfl) (by rfl) d (.slice b1 k c1) (some ⟨_,0,none⟩) 1 1 (by rfl) (by rfl) k (aV (m.take k)) [.string s,.string t] ?_ ?_ ?_ ?_ ?_ ?_ ?_ ?_;(first|exact F|exact F.upd (L:=[]) (by with_reducible ((repeat' (first|exact ae _|assumption|refine aG ?_|refine aE ?_ _|refine aC ?_ _))<;>fail)) (by simp));exact(by with_reducible ((repeat' (first|exact ae _|assumption|refine aG ?_|refine aE ?_ _|refine aC ?_ _))<;>fail));rfl;(exact FF (by first|exact dV (w:=w1) (by with_reducible ((repeat' (first|exact ae _|assumption|refine aG ?_|refine aE ?_ _|refine aC ?_ _))<;>fail)) (by first|rfl|(simp<;>fail)|fail)|exact dV (w:=w1.drew) (by with_reducible ((repeat' (first|exact ae _|assumption|refine aG ?_|refine aE ?_ _|refine aC ?_ _))<;>fail)) (by first|rfl|(simp<;>fail)|fail)|exact Upd.blk (w:=w1) (by with_reducible ((repeat' (first|exact ae _|assumption|refine aG ?_|refine aE ?_ _|refine aC ?_ _))<;>fail)) (U _ _ (by first|exact dV (w:=d) (by with_reducible ((repeat' (first|exact ae _|assumption|refine aG ?_|refine aE ?_ _|refine aC ?_ _))<;>fail)) (by first|rfl|(simp<;>fail)|fail)|exact dV (w:=d.alloc _) (by with_reducible ((repeat' (first|exact ae _|assumption|refine aG ?_|refine aE ?_ _|refine aC ?_ _))<;>fail)) (by first|rfl|(simp[aJ]<;>fail)|fail)|exact dV (w:=d.drew) (by with_reducible ((repeat' (first|exact ae _|assumption|refine aG ?_|refine aE ?_ _|refine aC ?_ _))<;>fail)) (by first|rfl|(simp<;>fail)|fail)|exact dV (w:=(d.alloc _).drew) (by with_reducible ((repeat' (first|exact ae _|assumption|refine aG ?_|refine aE ?_ _|refine aC ?_ _))<;>fail)) (by first|rfl|(simp[aJ]<;>fail)|fail)|exact dV (w:=d.drew.alloc _) (by with_reducible ((repeat' (first|exact ae _|assumption|refine aG ?_|refine aE ?_ _|refine aC ?_ _))<;>fail)) (by first|rfl|(simp[aJ]<;>fail)|fail)|fail) (by simp[Value.ownBlock])) (by simp)|fail));(simp[Value.oneCell']);(simp);(have:=O.o;omega);intro v2 w2 a2 bw a3 bA bB;obtain⟨b2,c2,rfl⟩:=bB))
      |((refine kG (by rfl) _ _ (by rfl) (by rfl) d _ _ k _ (by rfl) (by rfl) 0 [] (aV (m.take k)) (Fx (by first|exact aw _|simp) (by first|exact dV (w:=d) (by with_reducible ((repeat' (first|exact ae _|assumption|refine aG ?_|refine aE ?_ _|refine aC ?_ _))<;>fail)) (by first|rfl|(simp<;>fail)|fail)|exact dV (w:=d.alloc _) (by with_reducible ((repeat' (first|exact ae _|assumption|refine aG ?_|refine aE ?_ _|refine aC ?_ _))<;>fail)) (by first|rfl|(simp[aJ]<;>fail)|fail)|exact dV (w:=d.drew) (by with_reducible ((repeat' (first|exact ae _|assumption|refine aG ?_|refine aE ?_ _|refine aC ?_ _))<;>fail)) (by first|rfl|(simp<;>fail)|fail)|exact dV (w:=(d.alloc _).drew) (by with_reducible ((repeat' (first|exact ae _|assumption|refine aG ?_|refine aE ?_ _|refine aC ?_ _))<;>fail)) (by first|rfl|(simp[aJ]<;>fail)|fail)|exact dV (w:=d.drew.alloc _) (by with_reducible ((repeat' (first|exact ae _|assumption|refine aG ?_|refine aE ?_ _|refine aC ?_ _))<;>fail)) (by first|rfl|(simp[aJ]<;>fail)|fail)|fail)) (by with_reducible ((repeat' (first|exact ae _|assumption|refine aG ?_|refine aE ?_ _|refine aC ?_ _))<;>fail)) a0.o.1 (bb.o _ (by with_reducible ((repeat' (first|exact ae _|assumption|refine aG ?_|refine aE ?_ _|refine aC ?_ _))<;>fail))) (a1.o _) be.o (by have:=O.o;omega) ?_;intro v1 w1 F bE U bK a4;simp only[aK,bz]at F a4;obtain⟨b1,c1,rfl⟩:=a4))
        |fail)
     all_goals
      clear U bK a3 bA bn br F a2 bE bw;obtain⟨g1,b9⟩:∃g1,g1=n-(i+1):=⟨_,rfl⟩;go_wp2_with fail
      all_goals
       go_roundg g1
       case measure=>have:=Hi.o;omega
       case rel=>
        have Ia:=D.o.2.2.1;have a3:=z.o;refine⟨i+1,m.take k++(s,t)::m.drop k,by simp,aa (by have:=Hi.o;omega),aa ⟨?_,HU.o.then G4 (by simp),?_,?_,?_⟩⟩
        ·have h4:=bl.old HU.o.size;rw[nE];have e:k+1+(i-k)=i+1:=by omega
         rw[e]at h4;first|exact h4|(rw[e];exact h4)
        ·rw[ab,aj,aZ,cy];omega
        ·refine(rC m (s,t) k).trans ?_;rw[ax Hf];have e:l[i]=(s,t):=by rw[W.o.1,W.o.2]
         rw[e];exact D.o.2.2.2.1.append_right _
        ·exact rD D.o.2.2.2.2 (by omega) (fun j hj a5=>HT.o.2 j hj a5) (fun h=>(HX.o h).2)
    ·obtain⟨k',bO⟩:∃k',k=k'+1:=⟨k-1,by omega⟩;have bR:k'<m.length:=by have:=D.o.2.2.1;have:=z.o;omega
     obtain⟨g,hg⟩:∃g,b=some ⟨g,0,none⟩:=by
      rcases D.o.1.shape with⟨e,e2,_⟩|⟨g,c,e,_⟩
      ·have:=z.o;omega
      ·simp only[bx]at e;exact⟨g,e.1⟩
     have bS:wr.cell? ⟨g,k'*2,none⟩=some (.string m[k'].1):=by refine HT.o.1.cell (by simp) ?_;have hr:=D.o.1.1;rw[hg]at hr;have:=hr.cells (g:=g) rfl (2*k') (.string m[k'].1) (iu m k' bR).1;rw[aO,aK,iM]at this;exact this
     obtain⟨y,hy⟩:∃y,y=m[k'].1:=⟨_,rfl⟩;rw[←hy]at bS;obtain⟨B,hB⟩:∃B,Op.bytesLess s.toList y.toList=B:=⟨_,rfl⟩;have HB:=aa (And.intro hB hy);have bW:(k':Int)<(i:Int):=by have:=z.o;omega
     have U:(0:Int)≤(k':Int):=by omega
     have a7:(k:Int)-1=(k':Int):=by omega
     have b5:(0:Int)<(k:Int):=by omega
     have ca:IntKind.i64.wrap ((k:Int)-1)=(k':Int):=by rw[a7,bo];omega
     have a6:=aa bO;subst hg;clear hy bO;cases B with
     |true=>
      clear b6 b7 b8;go_upto_region 6 with fail
      go_quiet (fail)
      go_wp2_with fail;go_roundg k'
      case measure=>have:=a6.o;have:=z.o;omega
      case rel=>
       refine⟨k',by simp,aa ⟨rfl,by have:=a6.o;have:=z.o;omega⟩,aa ⟨HT.o.1.drewN _,fun j hj a5=>?_⟩⟩;by_cases cc:j=k'
       ·subst cc;have:=HB.o.1;rw[oH]at this;rw[←HB.o.2];exact of_decide_eq_true this
       ·exact HT.o.2 j hj (by have:=a6.o;omega)
     |false=>
      go_upto_region 6 with fail
      go_quiet (fail)
      go_upto_region 8 with fail
      have HX:Hid (∀h:0<k,∃h':k-1<m.length,sb m[k-1].1<sb s):=aa (fun h=>by
       have e:k-1=k':=by have:=a6.o;omega
       have h1:=HB.o.1;rw[oH]at h1;have h1:=of_decide_eq_false h1;have hm:m[k']∈l.take i:=D.o.2.2.2.1.subset (aq bR);obtain⟨q,hq,e2⟩:=aQ hm;rw[aZ]at hq;rw[jO]at e2;have h2:m[k'].1≠s:=fun e3=>by have:=List.pairwise_iff_getElem.1 Hn.o.2 q i (by simp;omega) (by simpa using Hf) (by omega);simp only[de]at this;exact this (by rw[e2,e3,W.o.1])
       refine⟨by omega,?_⟩;simp only[e];rw[HB.o.2]at h1;exact pX (List.not_lt.1 h1) (fun e3=>h2 (qp e3)))
      clear bW U a7 b5 bS hB ca a9;obtain⟨b,hb⟩:∃b:Option Addr,b=some ⟨g,0,none⟩:=⟨_,rfl⟩;rw[←hb]at D V⊢;obtain⟨d,A⟩:∃x,x=wr.drewN nq:=⟨_,rfl⟩;rw[←A];have ad:Hid (∀w',Upd [] d w'→w'.cell? ⟨a,oa+i*2,none⟩=some (.string s)∧w'.cell? ⟨a,oa+i*2+1,none⟩=some (.string t)):=aa fun w' h=>⟨h.cell (by simp) (by rw[A];exact k1),h.cell (by simp) (by rw[A];exact k3)⟩;have KP:=ad;have HU:Hid (Upd [] w d):=aa (by rw[A];exact(D.o.2.1.then HT.o.1 (by simp)).drewN _);have G:aP w d 56 2 i (.slice b i c) (aV m):=by rw[A];exact D.o.1.upd (HT.o.1.drewN _) (by simp)
      have a0:Hid ((aV (m.take k)).length=k*2∧(aV (m.drop k)).length=(i-k)*2):=aa (by have:=D.o.2.2.1;have:=z.o;rw[fj,fj,aZ,cy];exact⟨by congr 1;omega,by congr 1;omega⟩)
      have bb:Hid (∀w',Upd [] d w'→∀j u,(aV (m.take k))[j]? =some u→∃a,b=some a∧w'.cell? (a.add j)=some u):=aa (rV G);have bd:Hid (∀w',Upd [] d w'→∀j u,(aV (m.drop k))[j]? =some u→∃a,(if c=k then b else Option.map (fun x=>x.add (k*2)) b)=some a∧w'.cell? (a.add j)=some u):=aa (ry G bL);clear G A;have a1:Hid (∀m':LabL,∀u∈aV m',u.oneCell'=true):=aa nF;have be:Hid (b=none→k=0):=aa (fun h=>by have:=V.o h;have:=z.o;omega);have bg:Hid ((if c=k then b else Option.map (fun x=>x.add (k*2)) b)=none→i-k=0):=aa (fun h=>by
       have h2:b=none:=by
        split at h
        ·exact h
        ·simpa using h
       have:=V.o h2;omega)
      have O:Hid (k+1+i≤1000):=aa (by omega);clear k1 k3 ad;clear hb
      go_region_held3 (fun w'=>w'.cell? ⟨a,oa+i*2,none⟩=some (.string s)∧w'.cell? ⟨a,oa+i*2+1,none⟩=some (.string t)) (exact KP.o _ (by with_reducible ((repeat' (first|exact ae _|assumption|refine aG ?_|refine aE ?_ _|refine aC ?_ _))<;>fail))) (first
       |((refine kG (by rfl) _ _ (by rfl) (by rfl) d (.slice b2 (k+1) c2) _ _ _ (by rfl) (by rfl) (k+1) (aV (m.take k)++[.string s,.string t]) (aV (m.drop k)) ?_ ?_ ?_ ?_ ?_ ?_ ?_ ?_;((exact a2));(exact(by with_reducible ((repeat' (first|exact ae _|assumption|refine aG ?_|refine aE ?_ _|refine aC ?_ _))<;>fail)));(exact a0.o.2);(exact bd.o _ (by with_reducible ((repeat' (first|exact ae _|assumption|refine aG ?_|refine aE ?_ _|refine aC ?_ _))<;>fail)));(exact a1.o _);(exact bg.o);((have:=O.o;omega));intro v3 w3 bl G4 bn br bv;obtain⟨b3,c3,rfl⟩:=bv))
       |((refine kG (by rfl) _ _ (by rfl) (by rfl) d (.slice b1 k c1) (some ⟨_,0,none⟩) 1 1 (by rfl) (by rfl) k (aV (m.take k)) [.string s,.string t] ?_ ?_ ?_ ?_ ?_ ?_ ?_ ?_;(first|exact F|exact F.upd (L:=[]) (by with_reducible ((repeat' (first|exact ae _|assumption|refine aG ?_|refine aE ?_ _|refine aC ?_ _))<;>fail)) (by simp));exact(by with_reducible ((repeat' (first|exact ae _|assumption|refine aG ?_|refine aE ?_ _|refine aC ?_ _))<;>fail));rfl;(exact FF (by first|exact dV (w:=w1) (by with_reducible ((repeat' (first|exact ae _|assumption|refine aG ?_|refine aE ?_ _|refine aC ?_ _))<;>fail)) (by first|rfl|(simp<;>fail)|fail)|exact dV (w:=w1.drew) (by with_reducible ((repeat' (first|exact ae _|assumption|refine aG ?_|refine aE ?_ _|refine aC ?_ _))<;>fail)) (by first|rfl|(simp<;>fail)|fail)|exact Upd.blk (w:=w1) (by with_reducible ((repeat' (first|exact ae _|assumption|refine aG ?_|refine aE ?_ _|refine aC ?_ _))<;>fail)) (U _ _ (by first|exact dV (w:=d) (by with_reducible ((repeat' (first|exact ae _|assumption|refine aG ?_|refine aE ?_ _|refine aC ?_ _))<;>fail)) (by first|rfl|(simp<;>fail)|fail)|exact dV (w:=d.alloc _) (by with_reducible ((repeat' (first|exact ae _|assumption|refine aG ?_|refine aE ?_ _|refine aC ?_ _))<;>fail)) (by first|rfl|(simp[aJ]<;>fail)|fail)|exact dV (w:=d.drew) (by with_reducible ((repeat' (first|exact ae _|assumption|refine aG ?_|refine aE ?_ _|refine aC ?_ _))<;>fail)) (by first|rfl|(simp<;>fail)|fail)|exact dV (w:=(d.alloc _).drew) (by with_reducible ((repeat' (first|exact ae _|assumption|refine aG ?_|refine aE ?_ _|refine aC ?_ _))<;>fail)) (by first|rfl|(simp[aJ]<;>fail)|fail)|exact dV (w:=d.drew.alloc _) (by with_reducible ((repeat' (first|exact ae _|assumption|refine aG ?_|refine aE ?_ _|refine aC ?_ _))<;>fail)) (by first|rfl|(simp[aJ]<;>fail)|fail)|fail) (by simp[Value.ownBlock])) (by simp)|fail));(simp[Value.oneCell']);(simp);(have:=O.o;omega);intro v2 w2 a2 bw a3 bA bB;obtain⟨b2,c2,rfl⟩:=bB))
       |((refine kG (by rfl) _ _ (by rfl) (by rfl) d _ _ k _ (by rfl) (by rfl) 0 [] (aV (m.take k)) (Fx (by first|exact aw _|simp) (by first|exact dV (w:=d) (by with_reducible ((repeat' (first|exact ae _|assumption|refine aG ?_|refine aE ?_ _|refine aC ?_ _))<;>fail)) (by first|rfl|(simp<;>fail)|fail)|exact dV (w:=d.alloc _) (by with_reducible ((repeat' (first|exact ae _|assumption|refine aG ?_|refine aE ?_ _|refine aC ?_ _))<;>fail)) (by first|rfl|(simp[aJ]<;>fail)|fail)|exact dV (w:=d.drew) (by with_reducible ((repeat' (first|exact ae _|assumption|refine aG ?_|refine aE ?_ _|refine aC ?_ _))<;>fail)) (by first|rfl|(simp<;>fail)|fail)|exact dV (w:=(d.alloc _).drew) (by with_reducible ((repeat' (first|exact ae _|assumption|refine aG ?_|refine aE ?_ _|refine aC ?_ _))<;>fail)) (by first|rfl|(simp[aJ]<;>fail)|fail)|exact dV (w:=d.drew.alloc _) (by with_reducible ((repeat' (first|exact ae _|assumption|refine aG ?_|refine aE ?_ _|refine aC ?_ _))<;>fail)) (by first|rfl|(simp[aJ]<;>fail)|fail)|fail)) (by with_reducible ((repeat' (first|exact ae _|assumption|refine aG ?_|refine aE ?_ _|refine aC ?_ _))<;>fail)) a0.o.1 (bb.o _ (by with_reducible ((repeat' (first|exact ae _|assumption|refine aG ?_|refine aE ?_ _|refine aC ?_ _))<;>fail))) (a1.o _) be.o (by have:=O.o;omega) ?_;intro v1 w1 F bE U bK a4;simp only[aK,bz]at F a4;obtain⟨b1,c1,rfl⟩:=a4))
        |fail)
      all_goals
       clear U bK a3 bA bn br F a2 bE bw;obtain⟨g1,b9⟩:∃g1,g1=n-(i+1):=⟨_,rfl⟩;go_wp2_with fail
       all_goals
        go_roundg g1
        case measure=>have:=Hi.o;omega
        case rel=>
         have Ia:=D.o.2.2.1;have a3:=z.o;refine⟨i+1,m.take k++(s,t)::m.drop k,by simp,aa (by have:=Hi.o;omega),aa ⟨?_,HU.o.then G4 (by simp),?_,?_,?_⟩⟩
         ·have h4:=bl.old HU.o.size;rw[nE];have e:k+1+(i-k)=i+1:=by omega
          rw[e]at h4;first|exact h4|(rw[e];exact h4)
         ·rw[ab,aj,aZ,cy];omega
         ·refine(rC m (s,t) k).trans ?_;rw[ax Hf];have e:l[i]=(s,t):=by rw[W.o.1,W.o.2]
          rw[e];exact D.o.2.2.2.1.append_right _
         ·exact rD D.o.2.2.2.2 (by omega) (fun j hj a5=>HT.o.2 j hj a5) (fun h=>(HX.o h).2)
  ·have cg:i=n:=by have:=Hi.o;omega
   subst cg;go_wp2_with fail;refine bodyPost_ret (v:=.slice b i c) (by simp[results,results10]) rfl ⟨_,rfl,?_,D.o.2.1⟩;have e:m=dY l:=A5 Hn.o.2 (by rw[bG (by rw[←Hn.o.1];exact aw _)]at D;exact D.o.2.2.2.1) D.o.2.2.2.2;rw[←e];rw[←Hn.o.1];exact D.o.1
def mV(ms:nX):ni:=ms.map fun m=>(m.1.toNat,m.2.1,m.2.2)
structure rm(m:Int×ByteArray×ByteArray):Prop where
 ge:0≤m.1
 le:m.1≤1
 name:0<m.2.1.size
 value:0<m.2.2.size
def lR(ms:nX)(l:LabL):Bool:=ms.all fun m=>lF m.1 m.2.2 (g7 l m.2.1)
def il(ls:List LabL)(ms:nX):List LabL:=(ls.filter fun l=>lR ms l).map dY
theorem yv{l:LabL}(hn:(l.map (·.1)).Nodup){m:Int×ByteArray×ByteArray}(h:rm m):okM (m.1.toNat,m.2.1,m.2.2) (dY l)=lF m.1 m.2.2 (g7 l m.2.1):=by
 have h1:=sD hn (nm:=m.2.1) h.value;have d:=xZ (ex l) (sb m.2.1) (sb m.2.2);rw[h1]at d;unfold okM lF;simp only[d];have z:=h.ge;by_cases e:m.1=0
 ·have e2:m.1.toNat=0:=by omega
  simp[e,eq_comm]
 ·have e2:¬m.1.toNat=0:=by omega
  simp only[e2,e,if_false,decide_false];by_cases e3:g7 l m.2.1=m.2.2
  ·simp[e3]
  ·simp[e3,aF e3,eq_comm]
theorem zz(ms:nX)(f:Nat×ByteArray×ByteArray→Bool):(mV ms).all f=ms.all fun m=>f (m.1.toNat,m.2.1,m.2.2):=by unfold mV;rw[List.all_map];rfl
theorem yw{ls:List LabL}{ms:nX}(d:∀l∈ls,qH l)(hm:∀m∈ms,rm m):kC (ls.map dY) (mV ms)=il ls ms:=by unfold kC il;rw[List.filter_map];congr 1;apply nf;intro l hl;show((mV ms).all fun m=>okM m (dY l))=lR ms l;rw[zz];unfold lR;rw[dR];simp only[List.all_eq_true];exact forall_congr' fun m=>forall_congr' fun h=>by rw[yv (d l hl).names (hm m h)]
theorem Cu{ms:nX}(h:ms.length≤6)(hm:∀m∈ms,rm m):(mV ms).length≤6∧∀m∈mV ms,m.1≤1∧sb m.2.1≠[]:=by refine⟨by simpa[mV]using h,fun m d=>?_⟩;obtain⟨x,A,rfl⟩:=List.mem_map.1 d;have h1:=hm x A;refine⟨by have:=h1.le;show x.1.toNat≤1;omega,fun e=>?_⟩;have D:=h1.name;have z:(sb x.2.1).length=x.2.1.size:=dA _;have e:sb x.2.1=[]:=e;rw[e]at z;simp at z;omega
theorem Cw{l:LabL}(h:zc l)(z:0<l.length)(A:∀p∈l,0<p.2.size):qH l:=
 ⟨fun e=>by rw[e]at z;simp at z,h.1,h.2.2,fun p d=>⟨(h.2.1 p d).1,(h.2.1 p d).2.1,A p d,(h.2.1 p d).2.2⟩⟩
theorem yj{w:World}{v:Value}{ls:List LabL}(h:pj w v ls)(A:∀l∈ls,0<l.length):∃b cap,v=.slice b ls.length cap∧yX w b ls:=by obtain⟨ob,cap,rfl,h⟩:=h;refine⟨ob,cap,rfl,fun j d=>?_⟩;obtain⟨q,o,u,e,h1,F,D⟩:=h j d;obtain⟨a,G,c,rfl,_,_⟩:=D.at_ 0 (A _ (aq d));obtain⟨O,c2,e2,h4⟩:=D;simp only[bx]at e2;obtain⟨rfl,-,rfl⟩:=e2;have h5:=h4 0 (A _ (aq d));obtain⟨U,z,e3,V,_,_⟩:=h5;simp only[aM,eD,and_true]at e3;obtain⟨rfl,rfl⟩:=e3;refine⟨q,o,a,G,c,e,h1,V,F,fun k W=>?_⟩;obtain⟨U,z,e3,_,h7,h8⟩:=h4 k W;simp only[aM,eD,and_true]at e3;obtain⟨rfl,rfl⟩:=e3;rw[iM 2 k];exact⟨h7,h8⟩
theorem AE{w:World}{v:Value}{ms:nX}(h:vg w v ms)(hm:∀m∈ms,rm m):∃b cap,v=.slice b (mV ms).length cap∧rj w b (mV ms) []:=by
 obtain⟨ob,cap,rfl,h⟩:=h;refine⟨ob,cap,by simp[mV],fun j z=>?_⟩;have d:j<ms.length:=by simpa[mV]using z
 obtain⟨q,o,e,h1,A,D,h4⟩:=h j d;have F:=hm _ (aq d);refine⟨q,o,e,by simp,h1,?_,?_,?_⟩
 ·simp only[mV,de];rw[A,Int.toNat_of_nonneg F.ge]
 ·simp only[mV,de];exact D
 ·simp only[mV,de];exact h4
end Go.Proofs.YtlgefdfflmgocaaGreatDoor
