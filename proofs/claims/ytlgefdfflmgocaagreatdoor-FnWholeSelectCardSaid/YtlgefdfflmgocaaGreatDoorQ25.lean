import Derived.Test.YtlgefdfflmgocaaGreatDoorQ24
import Derived.Shelf.Spec.SlicesInsert
set_option linter.all false
set_option maxRecDepth 100000
set_option maxHeartbeats 8000000
namespace Go.Proofs.YtlgefdfflmgocaaGreatDoor
variable{Ua Ub Uc Ud Ue Uf Ug Uh Uj Uk Ul Um Un Uo Up Uq Ur Us Ut Uu Uv Uw Ux Uy Uz UA UB UC UD UE UF UG UH UI UJ UK UL UM UN UO UP UQ UR US UT UU UV UW UX UY UZ Va Vb Vc Vd Ve Vf Vg Vh Vi Vj Vk Vl Vm Vn Vo Vp Vq Vr Vt Vu Vv Vw Vx Vy Vz VA VB VD VE VF VG VH VI VJ VK VL VM VN VO VP VQ VR VS VT VU VV VW VX VY VZ Wa Wb Wc Wd We Wf Wg Wh Wi Wj Wk Wl Wm Wn Wp Wq Wr Ws Wt Wu Wv Ww Wx Wy Wz WA WC WD WE WG WH WL WM WN WO WU WV WW WX WY WZ Xd Xe Xf Xg Xh Xi Xj Xk Xl Xm Xn Xo Xp Xq Xr Xt Xu Xv Xw Xx Xy Xz XA XB XC XD XF XG XH XI XJ XK XM XN XO XP XQ XR XS XT XU XV XW XX XY XZ Ya Yb Yc Yd Ye Yf Yg Yh Yi Yj Yk Yl Ym Yn Yo Yp Yq Yr Ys Yt Yu Yv Yw Yx Yy Yz YA YB YC YD YE YF YG YH YI YJ YK YL YM YN YO YP YQ YR YS YT:Go.Value}
open Go Go.RowKit Xc Go.Proofs.Tryz
def mQ(l:LabL)(nm v:Bytes):Bool:=l.any fun p=>decide (sb p.1=nm∧sb p.2=v)
def dJ(syms:List Bytes)(G0:List LabL)(nm v:Bytes):List Nat:=
 if nm=[]then cG (ch syms).length (dr syms G0)
 else(((cG (ch syms).length (dr syms G0)).zip G0).filter fun y=>mQ y.2 nm v).map (·.1)
theorem q8(T U:List (Nat×Nat×Nat))(a b:Nat):ew (T++U) a b=ew T a b++ew U a b:=by simp[ew]
theorem wn(z a b:Nat):∀P:List (Nat×Nat),(P.map (·.1)).Nodup→ew (P.map fun p=>(z,p.1,p.2)) a b=if(a,b)∈P then[z]else[]:=by
 intro P;induction P with
 |nil=>intro _;simp[ew]
 |cons p P A=>
  intro h;rw[aN,a8]at h;have h1:=A h.2;have e:ew ((p::P).map fun p=>(z,p.1,p.2)) a b=(if p=(a,b)then[z]else[])++ew (P.map fun p=>(z,p.1,p.2)) a b:=by
   simp only[ew,aN,db];by_cases d:p=(a,b)
   ·subst d;simp
   ·have:¬((p.1,p.2)=(a,b)):=d;simp[d]
  rw[e,h1];by_cases d:p=(a,b)
  ·subst d;have:(a,b)∉P:=fun hm=>h.1 (List.mem_map.2 ⟨(a,b),hm,rfl⟩);simp[this]
  ·have:¬((a,b)=p):=fun e=>d e.symm;simp[d,this]
theorem uz(a b:Nat):∀(l:fO) (n:Nat),(∀x∈l,(x.1.map (·.1)).Nodup)→ew (trip n l) a b=(((cG n l).zip l).filter fun y=>decide ((a,b)∈y.2.1)).map (·.1):=by
 intro l;induction l with
 |nil=>intro n _;rfl
 |cons x l d=>
  intro n h;have h1:=d (n+(Go.Proofs.YtlgefdfflmgocaaGreatDoor.serOne n x).length) (fun y z=>h y (by simp[z]));simp only[trip,cG,List.zip_cons_cons,db,q8,wn _ a b x.1 (h x (by simp)),h1];by_cases hm:(a,b)∈x.1<;>simp[hm]
theorem lO:∀(l:fO) (n:Nat),(cG n l).Pairwise (· <·)∧∀p∈cG n l,n≤16*p:=by
 intro l;induction l with
 |nil=>intro n;simp[cG]
 |cons x l A=>
  intro n;obtain⟨h1,z⟩:=A (n+(Go.Proofs.YtlgefdfflmgocaaGreatDoor.serOne n x).length);have D:=j6 n;have h4:(pad 16 n).length<(Go.Proofs.YtlgefdfflmgocaaGreatDoor.serOne n x).length:=by have:=(xu (cq x.1 x.2).length (lN _ _));obtain⟨b,r,e,_⟩:=this;simp only[Go.Proofs.YtlgefdfflmgocaaGreatDoor.serOne,gy,e,ab,aj];omega
  simp only[cG,List.pairwise_cons,ah];refine⟨⟨fun p d=>by have:=z p d;omega,h1⟩,?_⟩;rintro p (rfl|d)
  ·omega
  ·have:=z p d;omega
def mm{α:Type}(gs:List (Bytes×List (Bytes×α))):List (Bytes×Bytes×α):=gs.flatMap fun g=>g.2.map fun y=>(g.1,y.1,y.2)
theorem CB{α β:Type}:∀(gs:List (Bytes×List (Bytes×α))) (es:List (Bytes×Bytes×β)),es.map (fun x=>(x.1,x.2.1))=(mm gs).map (fun x=>(x.1,x.2.1))→
 ∃d:List (Bytes×List (Bytes×β)),es=mm d∧d.map (fun g=>(g.1,g.2.map (·.1)))=gs.map (fun g=>(g.1,g.2.map (·.1))):=by
 intro gs;induction gs with
 |nil=>intro es h;cases es with
  |nil=>exact⟨[],rfl,rfl⟩
  |cons x es=>simp[mm]at h
 |cons g gs A=>
  intro es h;obtain⟨nm,l⟩:=g;have z:es.map (fun x=>(x.1,x.2.1))=(l.map fun y=>(nm,y.1))++(mm gs).map (fun x=>(x.1,x.2.1)):=by rw[h];simp[mm,ip]
  have hl:=congrArg List.length z;simp only[aB,ab]at hl;have e1:(es.take l.length).map (fun x=>(x.1,x.2.1))=l.map fun y=>(nm,y.1):=by rw[List.map_take,z,List.take_left' (by simp)]
  have e2:(es.drop l.length).map (fun x=>(x.1,x.2.1))=(mm gs).map (fun x=>(x.1,x.2.1)):=by rw[List.map_drop,z,List.drop_left' (by simp)]
  obtain⟨d,g1,g2⟩:=A _ e2;have e3:es.take l.length=(es.take l.length).map fun x=>(nm,x.2.1,x.2.2):=by
   conv=>lhs;rw[←List.map_id (es.take l.length)]
   refine i6 fun x D=>?_;have:(x.1,x.2.1)∈(es.take l.length).map (fun x=>(x.1,x.2.1)):=List.mem_map.2 ⟨x,D,rfl⟩;rw[e1]at this;obtain⟨y,_,e⟩:=List.mem_map.1 this;simp only[cW]at e;show x=_;rw[e.1]
  refine⟨(nm,(es.take l.length).map fun x=>(x.2.1,x.2.2))::d,?_,?_⟩
  ·conv=>lhs;rw[←aI l.length es,g1,e3]
   simp[mm,ip]
  ·simp only[aN,g2,bT];congr 2;have:=congrArg (List.map (·.2)) e1;simpa[ip]using this
theorem AR:∀(L:PtL) (F:Bytes),(ptP F L).map (fun x=>(x.1,x.2.1))=L.map fun x=>(x.1,x.2.1):=by
 intro L;induction L with
 |nil=>intro F;rfl
 |cons x L d=>intro F;simp only[ptP,aN,d]
theorem Ew:∀(L:PtL) (F:Bytes) (x:Bytes×Bytes×Nat),x∈ptP F L→∃y∈L,x.1=y.1∧x.2.1=y.2.1∧∃A C,ptF F L=A++(sec (ey y.2.2)++C)∧A.length=x.2.2:=by
 intro L;induction L with
 |nil=>intro F x h;simp[ptP]at h
 |cons z L d=>
  intro F x h;simp only[ptP,ah]at h;rcases h with rfl|h
  ·have G:∀(L:PtL) (F:Bytes),∃C,ptF F L=F++C:=by
    intro L;induction L with
    |nil=>intro F;exact⟨[],by simp[ptF]⟩
    |cons z L d=>
     intro F;obtain⟨C,D⟩:=d (F++pad 4 F.length++sec (ey z.2.2));exact⟨pad 4 F.length++(sec (ey z.2.2)++C),by rw[ptF,D];simp only[al]⟩
   obtain⟨C,D⟩:=G L (F++pad 4 F.length++sec (ey z.2.2));exact⟨z,by simp,rfl,rfl,F++pad 4 F.length,C,by rw[ptF,D];simp only[al],rfl⟩
  ·obtain⟨y,O,h1⟩:=d _ x h;exact⟨y,by simp[O],h1⟩
theorem wD:∀(l:fO) (n j p:Nat) (x:List (Nat×Nat)×Bytes),(cG n l)[j]? =some p→l[j]? =some x→∃A C,cU n l=A++(gy (cq x.1 x.2)++C)∧n+A.length=16*p:=by
 intro l;induction l with
 |nil=>intro n j p x h;simp[cG]at h
 |cons z l D=>
  intro n j p x h1 d;cases j with
  |zero=>
   simp only[cG,gH,aM]at h1 d;subst h1 d;exact⟨pad 16 n,cU (n+(Go.Proofs.YtlgefdfflmgocaaGreatDoor.serOne n z).length) l,by simp only[cU,Go.Proofs.YtlgefdfflmgocaaGreatDoor.serOne,al],(j6 n).symm⟩
  |succ j=>
   simp only[cG,gG]at h1 d;obtain⟨A,C,e1,e2⟩:=D _ j p x h1 d;exact⟨Go.Proofs.YtlgefdfflmgocaaGreatDoor.serOne n z++A,C,by simp only[cU,e1,al],by simp only[ab];omega⟩
structure Bq(bs:Bytes)(syms:List Bytes)(G0:List LabL)(gs:List (Bytes×List (Bytes×Nat)))(t1 t2 t3 t4 t5:Nat):Prop where
 toc:∃a,bs=a++kd (jJ 5 t1 t2 t3 t4 t5)
 len:bs.length<1000000∧t1<1000000∧t2<1000000∧t3<1000000∧t4<1000000∧t5<1000000
 sym:∃c,bs=dE++(sec (bi syms)++c)
 pot:∃a c,bs=a++(sec (gf (gs.flatMap ent))++c)∧a.length=t5
 names:(gs.map (·.1)).Nodup
 vals:∀g∈gs,g.2≠[]∧g.2.length≤12∧(g.2.map (·.1)).Pairwise (· <·)
 small:gs.length≤73∧∀g∈gs,g.1.length≤60∧(g.1≠[]→g.1∈syms)∧∀y∈g.2,y.1.length≤60∧y.2<1000000
 post:∀g∈gs,∀y∈g.2,∃a c,bs=a++(sec (ey (dJ syms G0 g.1 y.1))++c)∧a.length=y.2
 full:∀nm v,nm≠[]→dJ syms G0 nm v≠[]→∃g∈gs,g.1=nm∧∃y∈g.2,y.1=v
 all:∃g∈gs,g.1=[]∧∃y∈g.2,y.1=[]
 ser:∀(j p:Nat) (l:LabL),(cG (ch syms).length (dr syms G0))[j]? =some p→G0[j]? =some l→∃a c,bs=a++(gy (cq (dC syms (aD l)) [0])++c)∧a.length=16*p
 refs:∀nm v,(∀p∈dJ syms G0 nm v,0<p∧p<10000)∧(dJ syms G0 nm v).length≤12∧(dJ syms G0 nm v).Pairwise (· <·)
section
variable {syms:List Bytes} {ls G0:List LabL}
theorem lC{l:LabL}{nm v:Bytes}:mQ l nm v=true↔∃p∈l,sb p.1=nm∧sb p.2=v:=by simp[mQ]
theorem cJ.refsEq(H:cJ syms ls G0){nm v:Bytes}(h1:nm∈syms)(G:v∈syms):ew (lwT syms G0) (cj (bJ syms) nm) (cj (bJ syms) v)=dJ syms G0 nm v:=by
 have G5:nm≠[]:=fun e=>by have:=(H.symSmall nm h1).1;rw[e]at this;simp at this
 unfold lwT dJ;rw[uz _ _ _ _ H.nodupS,if_neg G5];have e:∀(d:List Nat) (l:List LabL),(∀x∈l,x∈G0)→((d.zip (dr syms l)).filter fun y=>decide ((cj (bJ syms) nm,cj (bJ syms) v)∈y.2.1)).map (·.1)=((d.zip l).filter fun y=>mQ y.2 nm v).map (·.1):=by
  intro d;induction d with
  |nil=>intro l _;simp
  |cons p d O=>
   intro l hl;cases l with
   |nil=>simp[dr]
   |cons x l=>
    have F:=O l (fun y U=>hl y (by simp[U]));have D:=hl x (by simp);have e2:(decide ((cj (bJ syms) nm,cj (bJ syms) v)∈dC syms (aD x)))=mQ x nm v:=by
     rw[dR,decide_eq_true_eq,lC];constructor
     ·intro hm;obtain⟨q,hq,e⟩:=List.mem_map.1 hm;obtain⟨z,hz,rfl⟩:=fo.1 hq;simp only[cW]at e;have A:=H.mem1 D hz;exact⟨z,hz,pN H.nodup A.1 h1 e.1,pN H.nodup A.2 G e.2⟩
     ·rintro⟨z,hz,rfl,rfl⟩;exact List.mem_map.2 ⟨(sb z.1,sb z.2),fo.2 ⟨z,hz,rfl⟩,rfl⟩
    show((((p,(dC syms (aD x),[0]))::d.zip (dr syms l)).filter _).map _)=_;simp only[List.zip_cons_cons,db,e2];split
    ·simp only[aN,F]
    ·exact F
 exact e _ G0 (fun x D=>D)
theorem cJ.refsSub(_:cJ syms ls G0)(nm v:Bytes):(dJ syms G0 nm v).Sublist (cG (ch syms).length (dr syms G0)):=by
 unfold dJ;split
 ·exact List.Sublist.refl _
 ·refine(List.Sublist.map (fun y:Nat×LabL=>y.1) lh).trans ?_;have e:=List.map_fst_zip (l₁:=cG (ch syms).length (dr syms G0)) (l₂:=G0) (by rw[gz];simp[dr]);have e2:List.map (fun y:Nat×LabL=>y.1) ((cG (ch syms).length (dr syms G0)).zip G0)=cG (ch syms).length (dr syms G0):=e;rw[e2];exact List.Sublist.refl _
def qW(syms:List Bytes)(G0:List LabL):List (Bytes×List (Bytes×List Nat)):=
 ([],[([],cG (ch syms).length (dr syms G0))])::(du (lnL G0)).map fun nm=>(nm,(dK syms.length (lwT syms G0) (cj (bJ syms) nm)).map fun b=>(syms[b]?.getD [],ew (lwT syms G0) (cj (bJ syms) nm) b))
theorem yl:mm (qW syms G0)=lwL syms G0:=by simp only[mm,qW,lwL,dI,kS,aY,aN,cQ,List.flatMap_map,bT,ip];rfl
theorem cJ.idx(H:cJ syms ls G0):∃gs t1 t2 t3 t4 t5,Bq (lwB syms G0) syms G0 gs t1 t2 t3 t4 t5:=by
 have hk:(fe (jA (cC (ch syms) (dr syms G0)) (lwG syms G0)) (ptP [] (lwL syms G0))).map (fun x=>(x.1,x.2.1))=(mm (qW syms G0)).map (fun x=>(x.1,x.2.1)):=by rw[yl,←AR (lwL syms G0) [],fe,bT];rfl
 obtain⟨gs,hes,W⟩:=CB _ _ hk;have bg:=H.lenF5;have bl:=H.lenF4;have bn:=H.lenF3;have br:=H.lenF2;have bv:=H.filAll;have bw:=H.symFLen;have ad:gs.map (·.1)=[]::du (lnL G0):=by have:=congrArg (List.map (·.1)) W;simpa[qW,ip]using this
 have a6:∀g∈gs,∃g'∈qW syms G0,g.1=g'.1∧g.2.map (·.1)=g'.2.map (·.1):=fun g hg=>by have:(g.1,g.2.map (·.1))∈gs.map (fun g=>(g.1,g.2.map (·.1))):=List.mem_map.2 ⟨g,hg,rfl⟩;rw[W]at this;obtain⟨g',d,e⟩:=List.mem_map.1 this;simp only[cW]at e;exact⟨g',d,e.1.symm,e.2.symm⟩
 have V:∀g'∈qW syms G0,∃g∈gs,g.1=g'.1∧g.2.map (·.1)=g'.2.map (·.1):=fun g hg=>by have:(g.1,g.2.map (·.1))∈(qW syms G0).map (fun g=>(g.1,g.2.map (·.1))):=List.mem_map.2 ⟨g,hg,rfl⟩;rw[←W]at this;obtain⟨g',d,e⟩:=List.mem_map.1 this;simp only[cW]at e;exact⟨g',d,e.1,e.2⟩
 have a1:∀g∈gs,∀y∈g.2,(g.1,y.1,y.2)∈fe (jA (cC (ch syms) (dr syms G0)) (lwG syms G0)) (ptP [] (lwL syms G0)):=fun g hg y hy=>by rw[hes];exact List.mem_flatMap.2 ⟨g,hg,List.mem_map.2 ⟨y,hy,rfl⟩⟩
 have O:∀nm∈du (lnL G0),∀b,b∈dK syms.length (lwT syms G0) (cj (bJ syms) nm)↔b<syms.length∧ew (lwT syms G0) (cj (bJ syms) nm) b≠[]:=by
  intro nm _ b;simp only[dK,eO,mf,List.any_eq_true,decide_eq_true_eq];refine and_congr_right fun _=>?_;constructor
  ·rintro⟨⟨p,a',b'⟩,ht,e⟩ h0;simp only at e;rw[e]at ht;have:=kQ.2 ht;rw[h0]at this;simp at this
  ·intro h0;obtain⟨p,D⟩:=fY _ h0;exact⟨_,kQ.1 D,rfl⟩
 refine⟨gs,(ch syms).length,(cC (ch syms) (dr syms G0)).length,(jf (cC (ch syms) (dr syms G0)) (lwG syms G0) (lwL syms G0)).length,(ib (cC (ch syms) (dr syms G0)) (lwG syms G0)).length,(kt (cC (ch syms) (dr syms G0)) (lwG syms G0) (lwL syms G0)).length,?_⟩;have U:∃c,lwB syms G0=cC (ch syms) (dr syms G0)++c:=by
  have a7:∀(G:List (Bytes×List Nat)) (F:Bytes),∃c,liF F G=F++c:=by
   intro G;induction G with
   |nil=>intro F;exact⟨[],by simp[liF]⟩
   |cons z G ih=>
    intro F;obtain⟨C,hC⟩:=ih (F++pad 4 F.length++sec (liB z.2));exact⟨pad 4 F.length++(sec (liB z.2)++C),by rw[liF,hC];simp only[al]⟩
  obtain⟨c,hc⟩:=a7 (lwG syms G0) (cC (ch syms) (dr syms G0));refine⟨?_,?_⟩;rotate_left
  ·simp only[lwB,ixF,mh,kt,jf,ib,hc,al];rfl
 refine⟨⟨mh (cC (ch syms) (dr syms G0)) (lwG syms G0) (lwL syms G0),rfl⟩,⟨?_,by omega,by omega,by omega,by omega,by omega⟩,?_,⟨kt (cC (ch syms) (dr syms G0)) (lwG syms G0) (lwL syms G0),kd (jJ 5 (ch syms).length (cC (ch syms) (dr syms G0)).length (jf (cC (ch syms) (dr syms G0)) (lwG syms G0) (lwL syms G0)).length (ib (cC (ch syms) (dr syms G0)) (lwG syms G0)).length (kt (cC (ch syms) (dr syms G0)) (lwG syms G0) (lwL syms G0)).length),?_,rfl⟩,?_,?_,?_,?_,?_,?_,?_,?_⟩
 ·have:(kd (jJ 5 (ch syms).length (cC (ch syms) (dr syms G0)).length (jf (cC (ch syms) (dr syms G0)) (lwG syms G0) (lwL syms G0)).length (ib (cC (ch syms) (dr syms G0)) (lwG syms G0)).length (kt (cC (ch syms) (dr syms G0)) (lwG syms G0) (lwL syms G0)).length)).length=52:=by simp[kd,jJ,Lib.beBytes_length]
  simp only[lwB,ixF,ab,this];omega
 ·obtain⟨c,hc⟩:=U;rw[hc,iS,ch];exact⟨cU (dE++sec (bi syms)).length (dr syms G0)++c,by simp only[al]⟩
 ·simp only[lwB,ixF,mh,hes,al];rfl
 ·rw[ad,a8];refine⟨fun h=>?_,ka H.nmRise⟩;have:=(H.nmSmall _ h).2.1;simp at this
 ·intro g hg;obtain⟨g',d,e1,e2⟩:=a6 g hg;simp only[qW,ah,bU]at d;rcases d with rfl|⟨nm,G8,rfl⟩
  ·have hl:g.2.length=1:=by have:=congrArg List.length e2;simpa using this
   refine⟨fun e=>by rw[e]at hl;simp at hl,by omega,by rw[e2];simp⟩
  ·have hln:g.2.length=(dK syms.length (lwT syms G0) (cj (bJ syms) nm)).length:=by have:=congrArg List.length e2;simpa using this
   have bA:=H.v12 (cj (bJ syms) nm);refine⟨fun e=>?_,by omega,?_⟩
   ·rw[e]at hln;have a9:dK syms.length (lwT syms G0) (cj (bJ syms) nm)=[]:=dh (by simpa using hln.symm);obtain⟨l,hl,p,D,rfl⟩:=H.nmMem.1 G8;have hm:=H.mem1 hl D;obtain⟨q,hq⟩:=uS (a:=cj (bJ syms) (sb p.1)) (b:=cj (bJ syms) (sb p.2)) (n:=(ch syms).length) (List.mem_map.2 ⟨l,hl,rfl⟩:(dC syms (aD l),[0])∈dr syms G0) (List.mem_map.2 ⟨(sb p.1,sb p.2),fo.2 ⟨p,D,rfl⟩,rfl⟩);have:=(O _ G8 (cj (bJ syms) (sb p.2))).2 ⟨(fm H.nodup hm.2).2.1,fun e=>by have h9:q∈ew (lwT syms G0) (cj (bJ syms) (sb p.1)) (cj (bJ syms) (sb p.2)):=kQ.2 hq;rw[e]at h9;simp at h9⟩;rw[a9]at this;simp at this
   ·rw[e2,bT];have hr:=lQ syms.length (lwT syms G0) (cj (bJ syms) nm);have a2:∀b∈dK syms.length (lwT syms G0) (cj (bJ syms) nm),b<syms.length:=fun b hb=>by simp only[dK,eO,mf]at hb;exact hb.1
    refine List.pairwise_map.2 (hr.imp_of_mem fun{a b} ha hb h=>?_);have h1:=a2 a ha;have h2:=a2 b hb;simp only[Function.comp_apply,az h1,az h2,dq];exact(List.pairwise_iff_getElem.1 H.symS) a b h1 h2 h
 ·refine⟨?_,fun g hg=>?_⟩
  ·have:=congrArg List.length ad;have h1:=H.nmLen;simp only[aB,aj]at this;omega
  ·have a0:g.1∈gs.map (·.1):=List.mem_map.2 ⟨g,hg,rfl⟩;rw[ad,ah]at a0;refine⟨?_,?_,fun y hy=>?_⟩
   ·rcases a0 with e|h1
    ·rw[e];simp
    ·exact(H.nmSmall _ h1).2.2
   ·intro G5;rcases a0 with e|h1
    ·exact absurd e G5
    ·exact(H.nmSmall _ h1).1
   ·have:=H.memE (a1 g hg y hy);exact⟨this.2.1,gW this.2.2.1 (by decide)⟩
 ·intro g hg y hy;have h1:=a1 g hg y hy;obtain⟨z,hz,e⟩:=List.mem_map.1 h1;obtain⟨x,hx,e1,e2,A,C,hA,bb⟩:=Ew _ _ z hz;simp only[cW]at e;have bd:x.2.2=dJ syms G0 g.1 y.1:=by
   rw[←e.1,←e.2.1,e1,e2];simp only[lwL,ah]at hx;rcases hx with rfl|hx
   ·simp[dJ]
   ·simp only[dI,kS,eU,bU]at hx;obtain⟨nm,G8,b,hb,rfl⟩:=hx;have hb1:=(O nm G8 b).1 hb;have a3:syms[b]? =some (syms[b]'hb1.1):=az hb1.1;have hid:cj (bJ syms) (syms[b]'hb1.1)=b:=by unfold cj;rw[oJ H.nodup a3];rfl
    simp only[a3,dq];have:=H.refsEq (H.nmSmall nm G8).1 (aq hb1.1);rw[hid]at this;exact this
  refine⟨ib (cC (ch syms) (dr syms G0)) (lwG syms G0)++pad 4 (ib (cC (ch syms) (dr syms G0)) (lwG syms G0)).length++A,?_,?_,?_⟩;rotate_left
  ·rw[←bd];simp only[lwB,ixF,mh,kt,jf,hA,al];rfl
  ·rw[←e.2.2,ab,bb];unfold jA;omega
 ·intro nm v G5 hr;have be:=hr;unfold dJ at hr;rw[if_neg G5]at hr;obtain⟨p,D⟩:=fY _ hr;obtain⟨y,hy,rfl⟩:=List.mem_map.1 D;obtain⟨hz,hl⟩:=List.mem_filter.1 hy;have a4:y.2∈G0:=(List.of_mem_zip (a:=y.1) (b:=y.2) hz).2;obtain⟨q,hq,rfl,rfl⟩:=lC.1 hl;have G8:sb q.1∈du (lnL G0):=H.nmMem.2 ⟨y.2,a4,q,hq,rfl⟩;have hm:=H.mem1 a4 hq;have hi:=fm H.nodup hm.2;have hb:cj (bJ syms) (sb q.2)∈dK syms.length (lwT syms G0) (cj (bJ syms) (sb q.1)):=(O _ G8 _).2 ⟨hi.2.1,by rw[H.refsEq hm.1 hm.2];exact be⟩;obtain⟨g,hg,e1,e2⟩:=V (sb q.1,(dK syms.length (lwT syms G0) (cj (bJ syms) (sb q.1))).map fun b=>(syms[b]?.getD [],ew (lwT syms G0) (cj (bJ syms) (sb q.1)) b)) (by simp only[qW,ah,bU];exact .inr ⟨_,G8,rfl⟩);refine⟨g,hg,e1,?_⟩;have:sb q.2∈g.2.map (·.1):=by rw[e2,bT];exact List.mem_map.2 ⟨_,hb,by simp[hi.2.2]⟩
  obtain⟨z,hz,e⟩:=List.mem_map.1 this;exact⟨z,hz,e⟩
 ·obtain⟨g,hg,e1,e2⟩:=V ([],[([],cG (ch syms).length (dr syms G0))]) (by simp[qW]);have:([]:Bytes)∈g.2.map (·.1):=by rw[e2];simp
  obtain⟨z,hz,e⟩:=List.mem_map.1 this;exact⟨g,hg,e1,z,hz,e⟩
 ·intro j p l D hl;have hx:(dr syms G0)[j]? =some (dC syms (aD l),[0]):=by simp[dr,hl]
  obtain⟨A,C,e1,e2⟩:=wD _ _ j p _ D hx;obtain⟨c,hc⟩:=U;rw[iS,e1]at hc;exact⟨ch syms++A,C++c,by rw[hc];simp only[al],by rw[ab];exact e2⟩
 ·intro nm v;have hs:=H.refsSub nm v;have a5:∀p∈dJ syms G0 nm v,0<p:=fun p D=>by have h1:=(lO (dr syms G0) (ch syms).length).2 p (hs.subset D);have h2:=oP syms;omega
  refine⟨fun p D=>⟨a5 p D,H.posLe p (hs.subset D)⟩,?_,(lO _ _).1.sublist hs⟩;have:=hs.length_le;rw[gz]at this;have:=H.serLen;omega
end
theorem EA:∀(gs:List (Bytes×List (Bytes×Nat))) (n i:Nat) (h:i<gs.length),(rlG n gs)[i]? =some (gs[i].1,(rl (n+(poB ((gs.take i).flatMap ent)).length) (ent gs[i])).map fun x=>(x.2.1,x.2.2)):=by
 intro gs;induction gs with
 |nil=>intro n i h;simp at h
 |cons g gs d=>
  intro n i h;cases i with
  |zero=>simp[rlG,poB]
  |succ i=>
   have:=d (n+(poB (ent g)).length) i (by simpa using h);simp only[rlG,gG,this,eH,List.take_succ_cons,aY,poB_append,ab,kH]
def nR(n:Nat)(g:Bytes×List (Bytes×Nat)):List (ByteArray×Nat):=(rl n (ent g)).map fun x=>(str x.2.1,x.2.2)
theorem yM(n:Nat)(g:Bytes×List (Bytes×Nat)):(nR n g).length=g.2.length:=by simp[nR,lL,ent]
theorem uQ(n:Nat)(g:Bytes×List (Bytes×Nat))(t:Nat)(h:t<g.2.length):(nR n g)[t]? =some (str g.2[t].1,n+(poB ((ent g).take t)).length):=by
 have h1:t<(ent g).length:=by simpa[ent]using h
 have e:(ent g)[t]=(g.1,g.2[t].1,g.2[t].2):=by simp[ent]
 rw[nR,cx,AW (ent g) n t h1,e];rfl
theorem B6{α:Type}(L:List α)(n:Nat)(hn:n=L.length)(d:0<n):(n=1∧∃a,mO L=[a]∧L[0]? =some a)∨(2≤n∧∃a b,mO L=[a,b]∧L[0]? =some a∧L[n-1]? =some b):=by
 subst hn;match L with
 |[]=>simp at d
 |[x]=>exact .inl ⟨rfl,x,rfl,rfl⟩
 |x::y::l=>
  refine .inr ⟨by simp,x,(y::l).getLast (by simp),rfl,rfl,?_⟩;have:(x::y::l).length-1=(y::l).length-1+1:=by simp
  rw[this,gG,←List.getLast?_eq_getElem?];exact gT _
structure wK(gs:List (Bytes×List (Bytes×Nat)))(nm:Bytes)(k n0:Nat)(g:Bytes×List (Bytes×Nat))(rest:List (Bytes×Bytes×Nat)):Prop where
 mem:g∈gs
 name:g.1=nm
 tab:aT (str nm) (jj gs)=some (mO (nR n0 g))
 off:n0=4+(poB ((gs.flatMap ent).take k)).length
 ent:(gs.flatMap ent).drop k=Go.Proofs.YtlgefdfflmgocaaGreatDoor.ent g++rest
theorem yL{l:List Bytes}(h:l.Nodup):(l.map str).Nodup:=by rw[List.Nodup,fg];exact h.imp fun G5 e=>G5 (pf e)
theorem oN(gs:List (Bytes×List (Bytes×Nat))):(jj gs).map (·.1)=(gs.map (·.1)).map str:=by rw[←kD gs 4,jj,bT,bT];rfl
theorem DU{gs:List (Bytes×List (Bytes×Nat))}(hn:(gs.map (·.1)).Nodup){g:Bytes×List (Bytes×Nat)}(hg:g∈gs):∃k n0 rest,wK gs g.1 k n0 g rest:=by
 obtain⟨i,d,rfl⟩:=aQ hg;refine⟨((gs.take i).flatMap ent).length,4+(poB ((gs.take i).flatMap ent)).length,(gs.drop (i+1)).flatMap ent,hg,rfl,?_,?_,?_⟩
 ·refine qh (by rw[oN];exact yL hn) (j:=i) ?_;rw[jj,cx,EA gs 4 i d,gh];simp only[nR,bT];rfl
 ·have e:(gs.flatMap ent).take ((gs.take i).flatMap ent).length=(gs.take i).flatMap ent:=by
   conv=>lhs;rw[←aI i gs,aU]
   exact List.take_left' (by rw[aI])
  rw[e]
 ·have e:gs.flatMap ent=(gs.take i).flatMap ent++(gs.drop i).flatMap ent:=by rw[←aU,aI]
  rw[e,List.drop_left',bf d,aY];rfl
theorem Aa{gs:List (Bytes×List (Bytes×Nat))}{nm:Bytes}(h:∀g∈gs,g.1≠nm):aT (str nm) (jj gs)=none:=by rw[oi,oN,bU];rintro⟨x,d,e⟩;obtain⟨g,hg,rfl⟩:=List.mem_map.1 d;exact h g hg (pf e)
theorem zU(z:List Bytes)(v:Bytes)(t0 l:Nat)(F:t0≤l)(hl:l<z.length)(hv:¬z[l]<v):∃m,t0≤m∧∃hm:m<z.length,¬z[m]<v∧∀j (h:j<z.length),t0≤j→j<m→z[j]<v:=by
 generalize V:l-t0=d;induction d generalizing t0 with
 |zero=>exact⟨l,F,hl,hv,fun j h h1 A=>by omega⟩
 |succ d G=>
  have O:t0<z.length:=by omega
  by_cases h:z[t0]<v
  ·obtain⟨m,h1,hm,A,U⟩:=G (t0+1) (by omega) (by omega);refine⟨m,by omega,hm,A,fun j D h4 h5=>?_⟩;by_cases e:j=t0
   ·subst e;exact h
   ·exact U j D (by omega) h5
  ·exact⟨t0,aw _,O,h,fun j D h4 h5=>by omega⟩
theorem xn{d:List Bytes}(hs:d.Pairwise (· <·)){v:Bytes}{m:Nat}(hm:m<d.length)(h1:¬d[m]<v)(A:d[m]≠v)(D:∀j (h:j<d.length),j<m→d[j]<v):v∉d:=by
 intro h;obtain⟨j,z,rfl⟩:=aQ h;rcases Nat.lt_trichotomy j m with h4|rfl|h4
 ·exact absurd (D j z h4) (cT _)
 ·exact A rfl
 ·exact h1 (List.pairwise_iff_getElem.1 hs m j hm z h4)
attribute [local go_sem ↓] Go.wp_at_zero Go.wp_at_succ
def hdE(nm:Bytes):Bytes:=Lib.uvarint 2++ed nm
theorem Et(nm v:Bytes)(o:Nat)(r:Bytes):poE nm v o++r=hdE nm++(Lib.uvarint v.length++(v++(Lib.uvarint o++r))):=by simp only[poE,hdE,ed,al]
structure TrH(bs a c:Bytes)(es:List (Bytes×Bytes×Nat))(k m:Nat)(nm:Bytes):Prop where
 eq:bs=a++(sec (gf es)++c)
 len:bs.length<1000000
 small:∀x∈es,x.1.length≤60∧x.2.1.length≤60∧x.2.2<1000000
 lt:k+m<es.length
 few:m<1000
 name:∀j (h:k+j<es.length),j≤m→(es[k+j]).1=nm
theorem TrH.potlen{bs a c:Bytes}{es:List (Bytes×Bytes×Nat)}{k m:Nat}{nm:Bytes}(h:TrH bs a c es k m nm):(gf es).length<1000000∧(∀j,(poB (es.drop j)).length≤(gf es).length)∧a.length<1000000:=by have h1:=congrArg List.length h.eq;rw[ab,ab,dx]at h1;have d:=h.len;refine⟨by omega,fun j=>?_,by omega⟩;have e:=rK es j;rw[gf,ab,cd];omega
theorem TrH.drop{bs a c:Bytes}{es:List (Bytes×Bytes×Nat)}{k m:Nat}{nm:Bytes}(h:TrH bs a c es k m nm)(o:Nat)(d:o=4+(poB (es.take k)).length):o≤(gf es).length∧(gf es).drop o=poB (es.drop k):=by
 have e:gf es=(Lib.beBytes 4 es.length++poB (es.take k))++poB (es.drop k):=by rw[gf,al,←poB_append,aI]
 have hl:(Lib.beBytes 4 es.length++poB (es.take k)).length=o:=by rw[ab,cd,d]
 refine⟨by rw[e,ab];omega,?_⟩;rw[e,List.drop_left' hl]
def DA(L:List Nat)(d:World→World→Prop)(w:World)(e:Ending)(w':World):Prop:=e=.returned .nilIface∧∃w1,Upd [] w w1∧d w1 w'∧Upd L w1 w'
theorem zj(g R X k m o:Nat)(v:Value)(bs a c:Bytes)(es:List (Bytes×Bytes×Nat))(nm:Bytes)(c0 c1 c2 c3 c4 c5 c6:Value)(w:World)(L:List Nat)(a3:World→World→Prop)(h:RdG w v g bs)(H:TrH bs a c es k m nm)(ho:o=4+(poB (es.take k)).length)
 (b8:w.cell? ⟨R,0,none⟩=some (.iface 139 v))(ad:w.cell? ⟨R,1,none⟩=some (ptr X 0))(b9:w.cell? ⟨X,5,none⟩=some (.int .u64 (a.length:Nat)))(hL:∀b∈L,b<w.heap.size∧b≠g)
 (ca:∀j (h:k+j<es.length),j<m→∀w',Upd [] w w'→Calls prog 63 #[.string (str es[k+j].2.1),.int .u64 (es[k+j].2.2:Nat),c0,c1,c2,c3,c4,c5,c6] w' fun e d=>e=.returned (.tuple #[.bool true,.nilIface])∧Upd [] w' d)
 (cc:∀(h:k+m<es.length) w',Upd [] w w'→Calls prog 63 #[.string (str es[k+m].2.1),.int .u64 (es[k+m].2.2:Nat),c0,c1,c2,c3,c4,c5,c6] w' fun e d=>e=.returned (.tuple #[.bool false,.nilIface])∧a3 w' d∧Upd L w' d):
 Calls prog 62 #[ptr R 0,.agg #[],.int .i64 (o:Nat),.func (.func 63) #[] #[c0,c1,c2,c3,c4,c5,c6]] w (DA L a3 w):=by
 obtain⟨hpl,a4,c9⟩:=H.potlen;obtain⟨cg,D⟩:=H.drop o ho;obtain⟨A,hA⟩:∃A,A=a.length:=⟨_,rfl⟩;have ck:∀w' x u,x=.iface 139 v→u=.int .i64 (A:Nat)→RdG w' v g bs→Calls prog 57 #[x,u,.pointer none] w' fun r d=>∃v',r=.returned (.agg #[v',.nilIface])∧RdG d v' g (gf es)∧Upd [] w' d:=fun w' x u hx hu h=>by subst hx hu;rw[hA];exact se g v bs a (gf es) c w' h H.eq (by have:=H.len;omega)
 obtain⟨w1,br⟩:∃w1,w1=w.alloc (.cells #[] 80 (0,0)):=⟨_,rfl⟩;have a0:Upd [] w w1:=by rw[br];exact(ae w).alloc _
 have a5:w1.heap[w.heap.size]? =some (.cells #[] 80 (0,0)):=by rw[br];exact an _
 obtain⟨b5,bv⟩:∃b5,b5=w.heap.size:=⟨_,rfl⟩;rw[←bv]at a5;have hH:=aa H;have cn:=aa ck;have a6:=aa ca;have a7:=aa cc;have HL:=aa hL;have H1:=aa (h.upd a0 (by simp));have a9:=aa (And.intro hpl (And.intro a4 (And.intro cg D)));have cp:=aa bv;have r0:=a0.cell (by simp) b8;have r1:=a0.cell (by simp) ad;have x5:=a0.cell (by simp) b9;rw[←hA]at x5;have cs:IntKind.i64.wrap (A:Int)=(A:Int):=by rw[bo];omega
 have bw:=aa a0;have n1:w1.heap.size≠R:=by have:=ez r0;simp only at this;omega
 have n2:w1.heap.size≠X:=by have:=ez x5;simp only at this;omega
 clear h H ho b8 ad b9 hL ca cc hpl a4 c9 cg D hA ck a0;go_enter func62,ntmps62
 go_upto_region 1 with fail
 rw[←br];try rw[←bv]
 clear br bv;go_cut [9] (fun v9 wx=>∃p,v9=ptr p 0∧cm wx p g (gf es)∧w1.heap.size≤p∧Upd [] w1 wx)
 case first=>
  have KS:=aa (fun w' (hu:Upd [] w1 w')=>show w'.cell? ⟨R,0,none⟩=some (.iface 139 v)∧w'.cell? ⟨R,1,none⟩=some (ptr X 0)∧w'.cell? ⟨X,5,none⟩=some (.int .u64 (A:Nat))from⟨hu.cell (by simp) r0,hu.cell (by simp) r1,hu.cell (by simp) x5⟩);have ct:=aa H1.o.lt;clear hH a6 a7 HL a9 cp bw a5
  go_region_held3 (fun w'=>w'.cell? ⟨R,0,none⟩=some (.iface 139 v)∧w'.cell? ⟨R,1,none⟩=some (ptr X 0)∧w'.cell? ⟨X,5,none⟩=some (.int .u64 (A:Nat))) (go_keep) (first
   |(go_at_call 57;refine(cn.o _ _ _ (by with_reducible rfl) (by first|with_reducible rfl|(rw[cs])) (H1.o.upd (by with_reducible first|exact(ae _).drew|exact((ae _).drew).alloc _|exact((ae _).alloc _).drew) (by simp))).mono ?_;rintro e bA ⟨v',rfl,cA,bb⟩;have z:Hid (Upd [] w1 bA):=aa (by with_reducible first|exact((ae _).drew).then bb (fun _ h _=>h)|exact(((ae _).drew).alloc _).then bb (fun _ h _=>h)|exact(((ae _).alloc _).drew).then bb (fun _ h _=>h));have bL:=aa cA;obtain⟨o',c',rfl,dc,dd⟩:=cA;(try(have W:bA.heap[w1.heap.size]? =some (.cells #[.slice none 0 0,.nilIface] 159 (0,0)):=bb.blk (by with_reducible first|exact an _|exact bQ (an _)|exact bQ (w:=w1.alloc (.cells #[.slice none 0 0,.nilIface] 159 (0,0))) (an w1)) (by simp);have d0:bA.cell? ⟨w1.heap.size,0,none⟩=some (.slice none 0 0):=af W 0;have d1:bA.cell? ⟨w1.heap.size,1,none⟩=some .nilIface:=af W 1;have f0:=ao W 0;have f1:=ao W 1;have HD:=aa W;clear W));clear bb dc dd;have r0:=(KS.o _ z.o).1;have r1:=(KS.o _ z.o).2.1;have x5:=(KS.o _ z.o).2.2))
  all_goals
   go_wp2_with fail;go_meet
   have ei:=ct.o;have dj:=z.o.size
   first
    |exact⟨_,rfl,⟨⟨_,an _,bL.o.upd ((ae _).alloc _) (by simp)⟩,by omega⟩,dj,z.o.alloc _⟩
    |exact⟨_,rfl,⟨⟨_,au (au HD.o 0 _) 1 _,bL.o.upd ((((ae _).mono (M:=[w1.heap.size]) (by simp)).setCell (fun _=>by simp) _).setCell (fun _=>by simp) _) (by simp only[ag];omega)⟩,by omega⟩,aw _,(z.o.setCell (fun h=>absurd h (cR _)) _).setCell (fun h=>absurd h (cR _)) _⟩
 case rest=>
  obtain⟨p,rfl,W,dk,cB⟩:=hcut;generalize wc=w2 at*;have Hp:Hid (w.heap.size≤p):=aa (by have:=bw.o.size;omega);have cD:Hid (Upd [] w w2):=aa (bw.o.then cB (by simp));have cE:Hid (Calls prog 124 #[.pointer (some ⟨p,0,none⟩),.int .i64 o] w2 fun e w'=>e=.returned (.tuple #[])∧cm w' p g (poB (es.drop k))∧Upd [p] w2 w'):=aa (by have h1:=a9.o;have h2:=tF p g o (gf es) w2 W h1.2.2.1 (by omega);rw[h1.2.2.2]at h2;exact h2)
  clear W dk cB bw H1 a5 cp r0 r1 x5 n1 n2 cn cs
  go_wp2_with (first
   |(go_at_call 124;refine cE.o.mono ?_;rintro e w3 ⟨rfl,cF,cL⟩;have cM:=aa cF;have cN:Hid (Upd [] w w3):=aa (cD.o.then cL (by intro b hb hl;simp only[ag]at hb;have:=Hp.o;omega));clear cF cL)
   |(go_at_call 125;refine(zN _).mono ?_;rintro e w4 ⟨rfl,bO⟩;have cO:=aa (cN.o.then bO (by simp));have cP:=aa (cM.o.upd bO (by simp) (by simp));clear bO))
  obtain⟨S,hS⟩:∃S,S=(hdE nm).length:=⟨_,rfl⟩;have ej:0<S:=by rw[hS,hdE,ab];have:=Lib.uvarint_pos 2;omega
  have HS:=aa hS;clear hS cD cE cM cN;go_loopg [10,11] m (fun gg dp ds wx=>∃j sk,dp=.int .i64 (sk:Nat)∧ds=.nilIface∧Hid ((j=0∧sk=0∨0<j∧sk=S)∧gg+j=m)∧Hid (cm wx p g (poB (es.drop (k+j)))∧Upd [] w wx))
  case atStart=>exact⟨0,0,rfl,rfl,aa ⟨.inl ⟨rfl,rfl⟩,rfl⟩,aa ⟨cP.o,cO.o⟩⟩
  case round=>
   obtain⟨j,sk,rfl,rfl,Hj,HR⟩:=hrel;clear cP cO;have a1:k+j<es.length:=by have:=Hj.o.2;have:=hH.o.lt;omega
   obtain⟨x,hx⟩:∃x,x=es[k+j]:=⟨_,rfl⟩;have bR:=hH.o.small _ (aq a1);have bB:=hH.o.name j a1 (by have:=Hj.o.2;omega);have a4:=a9.o.2.1 (k+j);have dF:=a9.o.1;have D:=nN es (k+j) a1;rw[←hx]at bR bB D;rw[bB,Et]at D;obtain⟨r2,bS⟩:∃r2,r2=poB (es.drop (k+j+1)):=⟨_,rfl⟩;rw[←bS]at D;obtain⟨r1,ad⟩:∃r1,r1=Lib.uvarint x.2.1.length++(x.2.1++(Lib.uvarint x.2.2++r2)):=⟨_,rfl⟩;rw[←ad]at D;have W:=HR.o.1;rw[D]at W a4;have HD:=aa W;have HX:=aa (And.intro hx (And.intro bR (And.intro bB (And.intro ad bS))));have bd:(hdE nm++r1).length<1000000:=by omega
   have U:=aa bd;have bW:=aa (je p g _ wr W);clear hx bR bB a4 dF D bS ad W bd;go_upto_if 40 with(go_at_call 118;refine bW.o.mono ?_;rintro e _ ⟨rfl,rfl⟩)
   go_cut [10]from 40 to 48 (fun u wx=>u=.int .i64 (S:Nat)∧Hid (cm wx p g r1∧Upd [p] wr wx))
   case first=>
    clear a6 a7 HL a9 hH HX a1 HR bW;rcases Hj.o.1 with⟨h0,rfl⟩|⟨h0,rfl⟩
    ·obtain⟨P,hP⟩:∃P,P=(hdE nm++r1).length:=⟨_,rfl⟩;obtain⟨q,hq⟩:∃q,q=r1.length:=⟨_,rfl⟩;have dP:P=S+q:=by rw[hP,ab,HS.o,hq]
     have el:P<1000000:=by rw[hP];exact U.o
     have K1:Hid (Calls prog 126 #[.pointer (some ⟨p,0,none⟩)] wr fun e w'=>e=.returned (.int .i64 (P:Nat))∧wr=w'):=aa (by rw[hP];exact kL p g _ wr HD.o);have he:hdE nm++r1=Lib.uvarint 2++(Lib.uvarint nm.length++(nm++r1)):=by simp only[hdE,ed,al]
     have hl:(Lib.uvarint 2++(Lib.uvarint nm.length++(nm++r1))).length<1000000:=by rw[←he];exact U.o
     have bE:(Lib.uvarint nm.length++(nm++r1)).length<1000000:=by rw[ab]at hl;omega
     have dT:nm.length<1000000:=by rw[ab,ab]at bE;omega
     have K2:Hid (Calls prog 127 #[.pointer (some ⟨p,0,none⟩)] wr fun e w'=>e=.returned (.int .i64 2)∧cm w' p g (Lib.uvarint nm.length++(nm++r1))∧Upd [p] wr w'):=aa (fG p g 2 _ wr (he▸HD.o) (by decide) (by omega));have K3:Hid (∀w',cm w' p g (Lib.uvarint nm.length++(nm++r1))→Calls prog 128 #[.pointer (some ⟨p,0,none⟩)] w' fun e d=>∃v,e=.returned v∧RdG d v g nm∧cm d p g r1∧Upd [p] w' d):=aa (fun w' h=>dM p g nm r1 w' h (by omega) (by omega));have K4:Hid (∀w',cm w' p g r1→Calls prog 126 #[.pointer (some ⟨p,0,none⟩)] w' fun e d=>e=.returned (.int .i64 (q:Nat))∧w'=d):=aa (fun w' h=>by rw[hq];exact kL p g _ w' h);have ef:(P:Int)-(q:Int)=(S:Int):=by omega
     have ep:IntKind.i64.wrap (S:Int)=(S:Int):=by rw[bo];omega
     clear hP hq dP he hl bE dT U HD
     go_wp2_with (first
      |(go_at_call 127;refine K2.o.mono ?_;rintro e w5 ⟨rfl,F,be⟩;have H5:=aa (And.intro F be);clear F be)
      |(go_at_call 128;refine(K3.o _ H5.o.1).mono ?_;rintro e w6 ⟨v6,rfl,_,G,O⟩;have H6:=aa (And.intro G (H5.o.2.then O (fun b hb _=>hb)));clear G O)
      |(go_at_call 126;first|(refine(K4.o _ H6.o.1).mono ?_;rintro e _ ⟨rfl,rfl⟩)|(refine K1.o.mono ?_;rintro e _ ⟨rfl,rfl⟩)))
     go_meet
     exact⟨rfl,H6⟩
    ·have eg:((sk:Int)==0)=false:=by simp;omega
     have K1:Hid (Calls prog 124 #[.pointer (some ⟨p,0,none⟩),.int .i64 sk] wr fun e w'=>e=.returned (.tuple #[])∧cm w' p g r1∧Upd [p] wr w'):=aa (by have h1:=tF p g sk (hdE nm++r1) wr HD.o (by rw[ab];have:=HS.o;omega) (by have:=U.o;omega);rw[List.drop_left' HS.o.symm]at h1;exact h1)
     clear HD U;go_wp2_with (go_at_call 124;refine K1.o.mono ?_;rintro e w5 ⟨rfl,F,be⟩;have H5:=aa (And.intro F be);clear F be);go_meet
     exact⟨rfl,H5⟩
   case rest=>
    obtain⟨rfl,H5⟩:=hcut;generalize wc=w5 at*;have hx:=HX.o.1;have bd:(Lib.uvarint x.2.1.length++(x.2.1++(Lib.uvarint x.2.2++r2))).length<1000000:=by have h1:=U.o;rw[ab,HX.o.2.2.2.1]at h1;omega
    have bE:(Lib.uvarint x.2.2++r2).length<1000000:=by rw[ab,ab]at bd;omega
    have F:cm w5 p g (Lib.uvarint x.2.1.length++(x.2.1++(Lib.uvarint x.2.2++r2))):=by rw[←HX.o.2.2.2.1];exact H5.o.1
    have K1:=aa (dM p g x.2.1 _ w5 F (by have:=HX.o.2.1;omega) (by omega));obtain⟨oo,b6⟩:∃oo,oo=x.2.2:=⟨_,rfl⟩;have K2:Hid (∀w',cm w' p g (Lib.uvarint x.2.2++r2)→Calls prog 130 #[.pointer (some ⟨p,0,none⟩)] w' fun e d=>e=.returned (.int .u64 (oo:Nat))∧cm d p g r2∧Upd [p] w' d):=aa (fun w' h=>by rw[b6];exact ju p g x.2.2 r2 w' h (by have:=HX.o.2.1;omega) (by omega));have cX:Hid (Upd [] w w5):=aa (HR.o.2.then H5.o.2 (by intro b hb hl;simp only[ag]at hb;have:=Hp.o;omega));have cY:∀(w1 w2:World),Upd [] w w1→Upd [p] w1 w2→Upd [] w w2:=fun _ _ h1 h2=>h1.then h2 (by intro b hb hl;simp only[ag]at hb;have:=Hp.o;omega);have bK:=aa cY;obtain⟨vv,cZ⟩:∃vv,vv=str x.2.1:=⟨_,rfl⟩;have a2:=aa (And.intro cZ b6);clear bd bE F hx cY HD U bW H5 cZ b6;by_cases ea:j<m
    ·have KC:Hid (∀w',Upd [] w w'→Calls prog 63 #[.string vv,.int .u64 (oo:Nat),c0,c1,c2,c3,c4,c5,c6] w' fun e d=>e=.returned (.tuple #[.bool true,.nilIface])∧Upd [] w' d):=aa (by have h1:=a6.o j a1 ea;rw[←HX.o.1]at h1;rw[a2.o.1,a2.o.2];exact h1)
     clear a6 a7
     go_wp2_with (first
      |(go_at_call 128;refine K1.o.mono ?_;rintro e w6 ⟨v6,rfl,bg,G,O⟩;have H6:=aa (And.intro bg (And.intro G (bK.o _ _ cX.o O)));clear bg G O)
      |(go_at_call 129;refine(tw g _ _ _ H6.o.1).mono ?_;rintro e _ ⟨rfl,rfl⟩;rw[←a2.o.1])
      |(go_at_call 130;refine(K2.o _ H6.o.2.1).mono ?_;rintro e w7 ⟨rfl,bl,bn⟩;have H7:=aa (And.intro bl (bK.o _ _ H6.o.2.2 bn));clear bl bn)
      |(go_at_call 63;refine(KC.o _ H7.o.2).mono ?_;rintro e w8 ⟨rfl,V⟩;have H8:=aa (And.intro (H7.o.1.upd V (by simp) (by simp)) (H7.o.2.then V (by simp)));clear V)
      |(go_at_call 125;refine(zN _).mono ?_;rintro e w9 ⟨rfl,b7⟩;have H9:=aa (And.intro (H8.o.1.upd b7 (by simp) (by simp)) (H8.o.2.then b7 (by simp)));clear b7))
     obtain⟨g1,ct⟩:∃g1,g1=gk-1:=⟨_,rfl⟩;go_roundg g1
     case measure=>have:=Hj.o.2;omega
     case rel=>exact⟨j+1,S,rfl,rfl,aa ⟨.inr ⟨by omega,rfl⟩,by have:=Hj.o.2;omega⟩,aa ⟨by have h1:=H9.o.1;rw[HX.o.2.2.2.2]at h1;exact h1,H9.o.2⟩⟩
    ·have bM:j=m:=by have:=Hj.o.2;omega
     have KC:Hid (∀w',Upd [] w w'→Calls prog 63 #[.string vv,.int .u64 (oo:Nat),c0,c1,c2,c3,c4,c5,c6] w' fun e d=>e=.returned (.tuple #[.bool false,.nilIface])∧a3 w' d∧Upd L w' d):=aa (by have hx:=HX.o.1;subst bM;have h1:=a7.o a1;rw[←hx]at h1;rw[a2.o.1,a2.o.2];exact h1)
     have c7:Hid (p∉L∧g∉L):=aa ⟨fun h=>by have:=(HL.o p h).1;have:=Hp.o;omega,fun h=>(HL.o g h).2 rfl⟩;clear a6 a7 bM HL
     go_wp2_with (first
      |(go_at_call 128;refine K1.o.mono ?_;rintro e w6 ⟨v6,rfl,bg,G,O⟩;have H6:=aa (And.intro bg (And.intro G (bK.o _ _ cX.o O)));clear bg G O)
      |(go_at_call 129;refine(tw g _ _ _ H6.o.1).mono ?_;rintro e _ ⟨rfl,rfl⟩;rw[←a2.o.1])
      |(go_at_call 130;refine(K2.o _ H6.o.2.1).mono ?_;rintro e w7 ⟨rfl,bl,bn⟩;have H7:=aa (And.intro bl (bK.o _ _ H6.o.2.2 bn));clear bl bn)
      |(go_at_call 63;refine(KC.o _ H7.o.2).mono ?_;rintro e w8 ⟨rfl,c8,V⟩;have H8:=aa (And.intro c8 V);have eb:=aa (je p g _ w8 (H7.o.1.upd V c7.o.1 c7.o.2));clear c8 V)
      |(go_at_call 118;refine eb.o.mono ?_;rintro e _ ⟨rfl,rfl⟩))
     go_ret;exact⟨rfl,w7,H7.o.2,H8.o.1,H8.o.2⟩
noncomputable def Db (n:Nat):Code:=((Tryz.f114.body.bind (is n)).getD .skip)
def C3(w:World)(bm BR R base:Nat)(M:RM)(z:World):Prop:=∃d,kj Value.string clP 2 z 172 base bm d∧jy d=jy M∧(∀b∈aR bm d,b∈aR bm M∨w.heap.size≤b)
theorem GK{w:World}(bm BR R I base:Nat)(M:RM)(hit:MIt Value.string w bm I (M.map fun x=>(x.1,x.2.1)) [])(hm:kj Value.string clP 2 w 172 base bm M)(Hw:base≤w.heap.size)(hnd:(M.map (·.1)).Nodup)(hlen:∀y∈M,y.2.2.2.length<1000000)
 (hb:w.heap[BR]? =some (.cells #[ptr R 0] 69 (0,0)))(hr:w.cell? ⟨R,3,none⟩=some (.map (some bm)))(G5:bm≠BR∧bm≠R∧I≠BR∧I≠R∧I≠bm)(hI:I∉aR bm M)
 {Q:Exit→Act→World→Prop}{ds:List Deferred}
 (hJ:∀(pc pg pl nq nt nB nI n1 n2 n3 n4 n5 n6 n7 n8 n9 oa ob oc og:Value) (wx:World),C3 w bm BR R base M wx→Upd [bm,I] w wx→Q .normal ⟨#[Ua,Ub,Uc,Ud,Ue,Uf,Ug,Uh,ptr BR 0,Uj,Uk,Ul,Um,Un,Uo,Up,Uq,pc,pg,pl,Uu,Uv,Uw,Ux,Uy,Uz,UA,UB,UC,UD,UE,UF,UG,UH,UI,UJ,UK,UL,UM,UN,UO,UP,UQ,UR,US,UT,UU,UV,UW,UX,UY,UZ,Va,Vb,Vc,Vd,Ve,Vf,Vg,Vh,Vi,Vj,Vk,Vl,Vm,Vn,Vo,Vp,Vq,Vr,Vt,Vu,Vv,Vw,Vx,Vy,Vz,VA,VB,VD,VE,VF,VG,VH,VI,VJ,VK,VL,VM,VN,VO,VP,VQ,VR,VS,VT,VU,VV,VW,VX,VY,VZ,Wa,Wb,Wc,Wd,We,Wf,Wg,Wh,Wi,Wj,Wk,Wl,Wm,Wn,Wp,Wq,Wr,Ws,Wt,Wu,Wv,Ww,Wx,Wy,Wz,WA,WC,WD,WE,WG,WH,WL,WM,WN,WO,WU,WV,WW,WX,WY,WZ,Xd,Xe,Xf,Xg,Xh,Xi,Xj,Xk,Xl,Xm,Xn,Xo,Xp,Xq,Xr,Xt,Xu,Xv,Xw,Xx,Xy,Xz,XA,XB,XC,XD,.pointer (some ⟨I,0,none⟩),nq,nt,nB,nI,n1,n2,n3,n4,n5,n6,n7,n8,n9,oa,ob,oc,og,XX,XY,XZ,Ya,Yb,Yc,Yd,Ye,Yf,Yg,Yh,Yi,Yj,Yk,Yl,Ym,Yn,Yo,Yp,Yq,Yr,Ys,Yt,Yu,Yv,Yw,Yx,Yy,Yz,YA,YB,YC,YD,YE,YF,YG,YH,YI,YJ,YK,YL,YM,YN,YO,YP,YQ,YR,YS,YT],ds⟩ wx):
 Code.wp prog (Db 1) Q ⟨#[Ua,Ub,Uc,Ud,Ue,Uf,Ug,Uh,ptr BR 0,Uj,Uk,Ul,Um,Un,Uo,Up,Uq,Ur,Us,Ut,Uu,Uv,Uw,Ux,Uy,Uz,UA,UB,UC,UD,UE,UF,UG,UH,UI,UJ,UK,UL,UM,UN,UO,UP,UQ,UR,US,UT,UU,UV,UW,UX,UY,UZ,Va,Vb,Vc,Vd,Ve,Vf,Vg,Vh,Vi,Vj,Vk,Vl,Vm,Vn,Vo,Vp,Vq,Vr,Vt,Vu,Vv,Vw,Vx,Vy,Vz,VA,VB,VD,VE,VF,VG,VH,VI,VJ,VK,VL,VM,VN,VO,VP,VQ,VR,VS,VT,VU,VV,VW,VX,VY,VZ,Wa,Wb,Wc,Wd,We,Wf,Wg,Wh,Wi,Wj,Wk,Wl,Wm,Wn,Wp,Wq,Wr,Ws,Wt,Wu,Wv,Ww,Wx,Wy,Wz,WA,WC,WD,WE,WG,WH,WL,WM,WN,WO,WU,WV,WW,WX,WY,WZ,Xd,Xe,Xf,Xg,Xh,Xi,Xj,Xk,Xl,Xm,Xn,Xo,Xp,Xq,Xr,Xt,Xu,Xv,Xw,Xx,Xy,Xz,XA,XB,XC,XD,.pointer (some ⟨I,0,none⟩),XF,XG,XH,XI,XJ,XK,XM,XN,XO,XP,XQ,XR,XS,XT,XU,XV,XW,XX,XY,XZ,Ya,Yb,Yc,Yd,Ye,Yf,Yg,Yh,Yi,Yj,Yk,Yl,Ym,Yn,Yo,Yp,Yq,Yr,Ys,Yt,Yu,Yv,Yw,Yx,Yy,Yz,YA,YB,YC,YD,YE,YF,YG,YH,YI,YJ,YK,YL,YM,YN,YO,YP,YQ,YR,YS,YT],ds⟩ w:=by
 have om:=aa hit;have gF:=aa (And.intro hm (And.intro hnd hlen));have HJ:=aa hJ;have HB:=aa (And.intro hb hr);have Hn:=aa (And.intro G5 (And.intro hI Hw));clear hit hm hJ hb hr G5 hI hnd hlen Hw;conv=>arg 2;whnf
 dsimp only;go_wp2_with fail;go_loopw [17] (fun _ wr=>∃done M',MIt Value.string wr bm I (M'.map fun x=>(x.1,x.2.1)) done∧M'.length=M.length∧kj Value.string clP 2 wr 172 base bm M'∧jy M'=jy M∧(∀b∈aR bm M',b∈aR bm M∨w.heap.size≤b)∧Upd [bm,I] w wr) (fun _ wr=>g6 wr I M.length)
 case atStart=>exact⟨[],M,om.o,rfl,gF.o.1,rfl,fun b hb=>.inl hb,(ae _).mono (by simp)⟩
 case round=>
  obtain⟨done,M1,hI,hl,hM,hA,hBl,hU⟩:=hrel;have HI:=aa hI;have HM:=aa (And.intro hM (And.intro hA (And.intro hl hBl)));have HU:=aa hU;rcases hI.next (P:=prog) 0 with⟨hd,d⟩|⟨j,a,v0,w3,hj,po,oo,d,oq,G4,ov⟩
  ·have A:=aa d;clear hI hl hM hA hBl hU d hd;go_wp2_with (at_next;refine dQ rfl _ rfl _ _ _ rfl A.o ?_);exact HJ.o _ _ _ _ _ _ _ _ _ _ _ _ _ _ _ _ _ _ _ _ _ ⟨M1,HM.o.1,HM.o.2.1,HM.o.2.2.2⟩ HU.o
  ·have A:=aa d;have pA:I<w.heap.size:=by obtain⟨c,_,h⟩:=om.o.it;exact lt_of_block h
   have oR:∀b∈[I],b∉aR bm M1:=fun b hb hm=>by
    simp only[ag]at hb;subst hb;rcases hBl _ hm with h1|h1
    ·exact Hn.o.2.1 h1
    ·omega
   have oS:=hM.upd G4 oR;have hk:M1.map (·.1)=M.map (·.1):=by rw[←An,←An,hA]
   have D:∀y∈M1,y.2.2.2.length<1000000:=fun y hy=>by
    have h1:(y.1,y.2.2.2)∈jy M1:=List.mem_map.2 ⟨y,hy,rfl⟩;rw[hA]at h1;obtain⟨z,hz,e⟩:=List.mem_map.1 h1;have h2:=gF.o.2.2 z hz;have e2:z.2.2.2=y.2.2.2:=by simpa using(Prod.mk.inj e).2
    rw[←e2];exact h2
   have oX:=hU.size;have gk:=G4.size;obtain⟨q,n,cap,w4,w5,w6,M2,K⟩:=CM oS (by have:=Hn.o.2.2;omega) (by rw[hk];exact gF.o.2.1) hj D;obtain⟨⟩:=K.val;have o0:=aa (HU.o.then G4 (by intro b hb _;simp only[ag]at hb;simp[hb]));have o1:=aa (o0.o.then K.u2 (by simp));have b0:w5.cell? ⟨BR,0,none⟩=some (ptr R 0):=o1.o.cell (by have:=Hn.o.1;simp only[ah,ai,or_false,not_or];exact⟨aF this.1,aF this.2.2.1⟩) (af HB.o.1 0);have r3:w5.cell? ⟨R,3,none⟩=some (.map (some bm)):=o1.o.cell (by have:=Hn.o.1;simp only[ah,ai,or_false,not_or];exact⟨aF this.2.1,aF this.2.2.2.1⟩) HB.o.2;have HK:=aa K;have pz:(Instr.entry (.pointer (some ⟨I,0,none⟩))).run prog w3=.ok (.tuple #[.string a,.slice (some ⟨q,0,none⟩) n cap]) w3:=ov;have kp:=K.put;have pK:=K.make;have pr:=K.copy;have ps:=aa oq;have o2:=aa (And.intro oo (And.intro oX gk));clear hI hl hM hA hBl hU d oq G4 oS hk D hj po oo ov oR oX gk K
   go_wp2_with (first
    |(at_next;refine dQ rfl _ rfl _ _ _ rfl A.o ?_)
    |(at_builtin;refine wpList_copy_runI _ rfl _ _ _ _ rfl _ _ rfl rfl pr ?_))
   have KI:=HK.o.it I (done++[j]) Hn.o.1.2.2.2.2 ps.o;have pv:M2.length=M1.length:=by have h1:=congrArg List.length HK.o.abs;simpa[jy]using h1
   refine⟨⟨done++[j],M2,KI,by rw[pv];exact HM.o.2.2.1,HK.o.mem,HK.o.abs.trans HM.o.2.1,fun b hb=>?_,o0.o.then HK.o.u3 (fun b hb _=>by simp only[ag]at hb;simp[hb])⟩,?_⟩
   ·rcases HK.o.blk b hb with h1|h1
    ·exact HM.o.2.2.2 b h1
    ·have:=o2.o;exact .inr (by omega)
   ·rw[KI.left,(show g6 wr I M.length=M.length-done.length from HI.o.left _),ab];have:=o2.o.1;rw[aB,HM.o.2.2.1]at this;simp only[aj,ar];omega
end Go.Proofs.YtlgefdfflmgocaaGreatDoor
