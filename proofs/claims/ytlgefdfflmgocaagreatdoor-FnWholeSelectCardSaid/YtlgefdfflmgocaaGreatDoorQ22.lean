import Derived.Test.YtlgefdfflmgocaaGreatDoorQ21
import Derived.Lib.LazyBuf
import Derived.Shelf.SlSortCmp.SmallK
import Derived.Ground.SlsfProg
set_option linter.all false
set_option maxRecDepth 100000
set_option maxHeartbeats 4000000
namespace Go.Proofs.YtlgefdfflmgocaaGreatDoor
section
open Go Go.RowKit Xc Go.Proofs.Tryz
attribute [local go_sem ↓] Go.wp_at_zero Go.wp_at_succ
variable {k:WK}
theorem CK{w0:World}{r0:WR}{s0:WS}(F0 F1:Bytes)(G1:fO)(ln ids:List (ByteArray×Nat))(syms:List Bytes)(L:PtL)(G:List (Bytes×List Nat))(h0:WI w0 k r0 s0)(bO:s0.stage=0)
 (hC:Calls prog 91 #[ptr k.W 0,.int .u8 2] w0 fun e w=>e=.returned .nilIface∧∃r s S g2 N2 G6 rr,WI w k r s∧WT w0 k r0 0 w r∧lw w k r S g2 N2 G6 rr (ch syms) 5 syms∧zh k s F0 G1 ln ids syms S∧s.bF=F1∧∃Z,s.sfV=ptr Z 0)
 (hL:L=([],[],cG F0.length G1)::dI syms.length (trip F0.length G1) syms (cj ids) (du ln))(hG:G=jZ (fC (cj ids) (ptP [] L)))
 (hb1:(ptF [] L).length<1000000)(hb2:(poB (ptP [] L)).length<1000000)(hb3:L.length<999)(hb4:∀x∈L,x.2.2.length<10000∧∀y∈x.2.2,y<4294967296)
 (hes:∀x∈ptP [] L,x.1.length<1000∧x.2.1.length<1000∧x.2.2<1000000)(hid:∀x∈ptP [] L,x.1≠[]→(aT (str x.2.1) ids).isSome=true∧cj ids x.2.1<4294967296)(hlp:∀x∈liP F1 G,x.1.size<1000∧x.2<1000000000)(hbF:(ib F1 G).length<2000000)(hbF5:(mh F1 G L).length<9000000):
 Calls prog 91 #[ptr k.W 0,.int .u8 3] w0 fun e w'=>e=.returned .nilIface∧∃s',s'.bF=ixF F0.length F1 G L∧s'.pP=.pointer none∧s'.pPO=.pointer none∧(∃Z,s'.sfV=ptr Z 0)∧WP w0 k r0 0 s' w':=by
 have a7:w0.cell? ⟨k.W,10,none⟩=some (.int .u8 0):=by rw[h0.cell 10 _ rfl,bO];rfl
 have HB:=aa (And.intro hb1 (And.intro hb2 (And.intro hb3 (And.intro hb4 (And.intro hes (And.intro hid (And.intro hlp (And.intro hbF hbF5))))))));have HL:=aa hL;have HG:=aa hG;have ep:=aa h0;have HC:=aa hC;clear h0 bO hC hL hG hb1 hb2 hb3 hb4 hes hid hlp hbF hbF5;go_enter func91,ntmps91
 go_wp2_with fail;refine HC.o.mono ?_;rintro e w ⟨rfl,r,s,S,g2,N2,G6,rr,h,hT0,hS,H,et,ev⟩;have eE:=aa hT0;have HH:=aa H;clear a7 hT0;have a7:w.cell? ⟨k.W,10,none⟩=some (.int .u8 2):=by rw[h.cell 10 _ rfl,H.stage];rfl
 have H0:=aa h;have bR:=aa hS;subst et;clear h hS H HC;have c0:=H0.o.cell 0 _ rfl;obtain⟨P,HP,cP⟩:=H0.o.fpos;have c6:=H0.o.cell 6 _ rfl;have f6:=H0.o.free 6;obtain⟨bS,bW⟩:=H0.o.set_t2 0 P;have b5:=bR.o.setf H0.o 6 (.int .u64 P);have hZ:=HH.o.zero;have b6:=uX F0 G1 ln ids syms S g2 N2 G6 rr L (HH.o.tpH P HP.o bS b5) HL.o (by show(ptF s.bP L).length<_;rw[hZ.1];exact HB.o.1) (by show(s.bPO++poB (ptP s.bP L)).length<_;rw[hZ.1,hZ.2.1];exact HB.o.2.1) (by show s.cnt+L.length<_;have:=HB.o.2.2.1;rw[hZ.2.2.1];omega) HB.o.2.2.2.1;have b8:=aa bW;have ca:=aa b6;clear bS bW b5 hZ b6;go_wp2_with fail;refine ca.o.mono ?_;rintro e w2 ⟨rfl,b1,b2,c,r2,hI,hT⟩;obtain⟨s2,bw⟩:∃s2,s2=ptS {s with t2:=P} L b1 b2 c:=⟨_,rfl⟩;rw[←bw]at hI;have cc:=aa (ak H0.o b8.o (hT.mono (ay _)));have cg:=aa hI;have hz:=HH.o.zero;have F:Hid (s2.bF=s.bF∧s2.bP=ptF [] L∧s2.bPO=poB (ptP [] L)∧s2.cnt=(ptP [] L).length∧s2.pP=ptr k.FP 0∧s2.pPO=ptr k.FPO 0∧s2.cache=eW .u32 ids∧s2.li=[]∧s2.t0=5∧s2.t1=F0.length∧s2.t2=s.bF.length∧s2.sfV=s.sfV):=aa (by
  rw[bw];refine⟨rfl,?_,?_,?_,HH.o.pP,HH.o.pPO,HH.o.cache,hz.2.2.2,HH.o.t0,HH.o.t1,HP.o,rfl⟩
  ·show ptF s.bP L=_;rw[hz.1]
  ·show s.bPO++poB (ptP s.bP L)=_;rw[hz.1,hz.2.1];rfl
  ·show s.cnt+L.length=_;rw[hz.2.2.1,kT];omega)
 clear hI hT bw hz a7 c0 c6 f6 cP ca b8 bR;have bg:(ptP [] L).length=L.length:=kT _ _;have G5:ptP [] L≠[]:=fun e=>by rw[e,HL.o]at bg;simp at bg
 have bA:=aa (And.intro G5 bg);have bB:=xx 0 (ptP [] L) ids cg.o F.o.2.2.2.2.2.1 F.o.2.2.1 F.o.2.2.2.1 G5 (by have:=HB.o.2.2.1;omega) HB.o.2.2.2.2.1 F.o.2.2.2.2.2.2.1 HB.o.2.2.2.2.2.1 (ay _) (by rw[F.o.1];exact HH.o.bFl.2) (by rw[F.o.2.2.2.2.2.2.2.1];decide);rw[←HG.o,F.o.1,F.o.2.2.2.2.2.2.2.1]at bB;have ck:=aa bB;clear bB G5 bg;go_wp2_with fail;refine ck.o.mono ?_;rintro e w3 ⟨rfl,li,eG,c1,cn,r3,hI,hT⟩;obtain⟨d,bE⟩:∃d,d={s2 with bF:=liF s.bF G,li:=li,b1:=eG,crc:=c1}:=⟨_,rfl⟩;rw[←bE]at hI;have a9:li.map (·.2)=liP s.bF G:=by simpa using cn
 have a4:=aa hI;have cp:=aa (ak H0.o cc.o hT);have ad:Hid (d.bF=ib s.bF G∧d.bP=ptF [] L∧d.bPO=poB (ptP [] L)∧d.cnt=(ptP [] L).length∧d.pP=ptr k.FP 0∧d.pPO=ptr k.FPO 0∧kO d.li=sL (liP s.bF G)∧d.li=li∧d.t0=5∧d.t1=F0.length∧d.t2=s.bF.length∧d.sfV=s.sfV):=aa (by rw[bE];obtain⟨e1,e2,e3,e4,e5,e6,e7,e8,e9,U,a0,a1⟩:=F.o;exact⟨rfl,e2,e3,e4,e5,e6,by rw[xa];simp only[a9],rfl,e9,U,a0,a1⟩)
 have ct:=aa a9;clear hI hT bE cn a9 cg cc F ck;have c0:=a4.o.cell 0 _ rfl;obtain⟨P4,cA,cP⟩:=a4.o.fpos;have c8:=a4.o.cell 8 _ rfl;have f8:=a4.o.free 8;obtain⟨cB,cD⟩:=a4.o.set_t4 0 P4;have cE:=aa (ak H0.o cp.o cD);have cF:=aa cB;have hbF:=HB.o.2.2.2.2.2.2.2.1;have hbF5:=HB.o.2.2.2.2.2.2.2.2;have cL:(jf s.bF G L).length≤(kt s.bF G L).length∧(kt s.bF G L).length≤(mh s.bF G L).length∧(ib s.bF G).length≤(jf s.bF G L).length∧jA s.bF G≤(jf s.bF G L).length∧s.bF.length≤(ib s.bF G).length:=by
  refine⟨?_,?_,?_,?_,pZ _ _⟩
  ·simp only[kt,ab];omega
  ·simp only[mh,ab];omega
  ·simp only[jf,ab];omega
  ·simp only[jf,jA,ab];omega
 have O:=aa (And.intro cL (And.intro hbF hbF5));have hp:ptF [] L≠[]:=by rw[HL.o];intro e;have h1:=ot (dI syms.length (trip F0.length G1) syms (cj ids) (du ln)) ([]++pad 4 ([]:Bytes).length++sec (ey (cG F0.length G1)));rw[ptF,]at e;rw[e,ab,dx]at h1;simp at h1
 have cM:d.bF≠[]:=by intro e;have h1:=O.o.1.2.2.2.2;rw[←ad.o.1,e]at h1;have h2:=HH.o.bFl.1;rw[HH.o.F,ab]at h1;have h3:=List.length_pos_iff.2 h2;simp only[ar]at h1;omega
 have cN:=mw 0 cF.o (ay _) cM (show d.bP≠[] by rw[ad.o.2.1];exact hp) (show d.bF.length+d.bP.length<10000000 by rw[ad.o.1,ad.o.2.1];have:=HB.o.1;omega) ad.o.2.2.2.2.1;have cO:=aa cN;clear cB cD hbF hbF5 cL hp cM cN cp;go_wp2_with fail;refine cO.o.mono ?_;rintro e w5 ⟨rfl,r5,hI,hT⟩;obtain⟨A,bK⟩:∃A,A={d with t4:=P4,bF:=d.bF++pad 4 d.bF.length++d.bP,pst:=(d.bF++pad 4 d.bF.length).length,pP:=.pointer none}:=⟨_,rfl⟩;replace hI:WI w5 k r5 A:=hI.cast (by rw[bK]);have a5:=aa hI;have cX:=aa (ak H0.o cE.o hT);have bb:Hid (A.bF=jf s.bF G L∧A.bPO=poB (ptP [] L)∧A.cnt=(ptP [] L).length∧A.pP=.pointer none∧A.pPO=ptr k.FPO 0∧kO A.li=sL (liP s.bF G)∧A.li=li∧A.t0=5∧A.t1=F0.length∧A.t2=s.bF.length∧A.sfV=s.sfV∧A.t4=(ib s.bF G).length∧A.pst=jA s.bF G):=aa (by
  rw[bK];obtain⟨e1,e2,e3,e4,e5,e6,e7,e8,e9,U,a0,a1⟩:=ad.o;refine⟨?_,e3,e4,rfl,e6,e7,e8,e9,U,a0,a1,by rw[←e1];exact cA.o,?_⟩
  ·show d.bF++pad 4 d.bF.length++d.bP=_;rw[e1,e2];rfl
  ·show(d.bF++pad 4 d.bF.length).length=_;rw[e1];rfl)
 clear hI hT bK a4 cF cE ad cO c0 cP c8 f8 cA;have c0:=a5.o.cell 0 _ rfl;obtain⟨P3,cY,cP⟩:=a5.o.fpos;have c7:=a5.o.cell 7 _ rfl;have f7:=a5.o.free 7;obtain⟨cZ,dc⟩:=a5.o.set_t3 0 P3;have dd:=aa (ak H0.o cX.o dc);have dj:=aa cZ;have dk:li.length=G.length:=by have:=congrArg List.length ct.o;rw[aB,nG]at this;exact this
 have eN:G.length≤L.length+1:=by
  have h2:=kA (cj ids) (ptP [] L);have h3:=bA.o.2;rw[HG.o,jZ];split
  ·omega
  ·simp only[ab,aj,ar];omega
 have dp:=uU 0 dj.o (ay _) (show A.bF.length<10000000 by rw[bb.o.1];have:=O.o;omega) (show A.li.length<1000 by rw[bb.o.2.2.2.2.2.2.1,dk];have:=HB.o.2.2.1;omega) (fun x hx=>by
  have hx:x∈li:=by rw[←bb.o.2.2.2.2.2.2.1];exact hx
  exact HB.o.2.2.2.2.2.2.1 x.2 (by rw[←ct.o];exact List.mem_map_of_mem hx))
 have ds:=aa dp;clear cZ dc dk eN dp cX;go_wp2_with fail;refine ds.o.mono ?_;rintro e w7 ⟨rfl,b7,c7,r7,hI,hT⟩;obtain⟨D,bL⟩:∃D,D={A with t3:=P3,bF:=A.bF++sec (kO A.li),b1:=b7,crc:=c7}:=⟨_,rfl⟩;replace hI:WI w7 k r7 D:=hI.cast (by rw[bL]);have a6:=aa hI;have dF:=aa (ak H0.o dd.o hT);have a2:Hid (D.bF=kt s.bF G L∧D.bPO=poB (ptP [] L)∧D.cnt=(ptP [] L).length∧D.pP=.pointer none∧D.pPO=ptr k.FPO 0∧D.t0=5∧D.t1=F0.length∧D.t2=s.bF.length∧D.sfV=s.sfV∧D.t4=(ib s.bF G).length∧D.pst=jA s.bF G∧D.t3=(jf s.bF G L).length):=aa (by rw[bL];obtain⟨e1,e2,e3,e4,e5,e6,e7,e8,e9,U,a0,a1,eR⟩:=bb.o;refine⟨?_,e2,e3,e4,e5,e8,e9,U,a0,a1,eR,by rw[←e1];exact cY.o⟩;show A.bF++sec (kO A.li)=_;rw[e1,e6];rfl)
 clear hI hT bL a5 dj dd bb ds c0 cP c7 f7 cY;have c0:=a6.o.cell 0 _ rfl;obtain⟨P5,dP,cP⟩:=a6.o.fpos;have c9:=a6.o.cell 9 _ rfl;have f9:=a6.o.free 9;obtain⟨dT,d0⟩:=a6.o.set_t5 0 P5;have ea:=aa (ak H0.o dF.o d0);have eb:=aa dT;have Ib:=uV 0 (ptP [] L) eb.o a2.o.2.2.2.2.1 a2.o.2.1 a2.o.2.2.1 bA.o.1 (by have:=bA.o.2;have:=HB.o.2.2.1;omega) HB.o.2.2.2.2.1 (show D.pst<100000000 by rw[a2.o.2.2.2.2.2.2.2.2.2.2.1];have:=O.o;omega) (ay _) (show D.bF.length<10000000 by rw[a2.o.1];have:=O.o;omega);have ef:=aa Ib;clear dT d0 Ib dF;go_wp2_with fail;refine ef.o.mono ?_;rintro e w9 ⟨rfl,b9,c9,r9,hI,hT⟩;obtain⟨z,bM⟩:∃z,z={D with t5:=P5,bF:=D.bF++sec (gf (fe D.pst (ptP [] L))),b1:=b9,crc:=c9,pPO:=.pointer none}:=⟨_,rfl⟩;replace hI:WI w9 k r9 z:=hI.cast (by rw[bM]);have eg:=aa hI;have ei:=aa (ak H0.o ea.o hT);have V:Hid (z.bF=mh s.bF G L∧z.pP=.pointer none∧z.pPO=.pointer none∧z.t0=5∧z.t1=F0.length∧z.t2=s.bF.length∧z.sfV=s.sfV∧z.t4=(ib s.bF G).length∧z.t3=(jf s.bF G L).length∧z.t5=(kt s.bF G L).length):=aa (by rw[bM];obtain⟨e1,e2,e3,e4,e5,e6,e7,e8,e9,U,a0,a1⟩:=a2.o;refine⟨?_,e4,rfl,e6,e7,e8,e9,U,a1,by rw[←e1];exact dP.o⟩;show D.bF++sec (gf (fe D.pst (ptP [] L)))=_;rw[e1,a0];rfl)
 have hn0:F0.length≤s.bF.length:=by rw[HH.o.F,ab];omega
 clear hI hT bM a6 eb ea a2 ef c0 cP c9 f9 dP;have bl:=uW 0 eg.o (ay _) (by rw[V.o.1];have:=O.o;omega) (by rw[V.o.2.2.2.1];decide) (by rw[V.o.2.2.2.2.1];have:=O.o;omega) (by rw[V.o.2.2.2.2.2.1];have:=O.o;omega) (by rw[V.o.2.2.2.2.2.2.2.2.1];have:=O.o;omega) (by rw[V.o.2.2.2.2.2.2.2.1];have:=O.o;omega) (by rw[V.o.2.2.2.2.2.2.2.2.2];have:=O.o;omega);have bn:=aa bl;clear bl hn0;go_wp2_with fail;refine bn.o.mono ?_;rintro e e0 ⟨rfl,fa,a7,ej,hI,hT⟩;obtain⟨W,bd⟩:∃W,W={z with bF:=z.bF++kd (jJ z.t0 z.t1 z.t2 z.t3 z.t4 z.t5),b1:=fa,crc:=a7}:=⟨_,rfl⟩;replace hI:WI e0 k ej W:=hI.cast (by rw[bd]);have be:=aa hI;have el:=aa (ak H0.o ei.o hT);have a3:Hid (W.bF=ixF F0.length s.bF G L∧W.pP=.pointer none∧W.pPO=.pointer none∧W.sfV=s.sfV):=aa (by rw[bd];obtain⟨e1,e2,e3,e4,e5,e6,e7,e8,e9,U⟩:=V.o;refine⟨?_,e2,e3,e7⟩;show z.bF++kd (jJ z.t0 z.t1 z.t2 z.t3 z.t4 z.t5)=_;rw[e1,e4,e5,e6,e9,e8,U];rfl)
 clear hI hT bd eg ei V bn;have cs:=be.o.cell 10 _ rfl;have fs:=be.o.free 10;obtain⟨br,bv⟩:=be.o.set_stage 0 3;have HF:=aa (And.intro br (ak H0.o el.o bv));clear br bv;go_wp2_with fail;go_ret;exact⟨rfl,{W with stage:=3},a3.o.1,a3.o.2.1,a3.o.2.2.1,by rw[show({W with stage:=3}:WS).sfV=s.sfV from a3.o.2.2.2];exact ev,ej,HF.o.1,ak ep.o eE.o HF.o.2⟩
end
section
open Go Go.RowKit Xc Go.Proofs.Tryz
attribute [local go_sem ↓] Go.wp_at_zero Go.wp_at_succ
variable {w:World} {k:WK} {r:WR} {s:WS}
theorem Bh(B:Bytes)
 (F:Calls prog 91 #[ptr k.W 0,.int .u8 3] w fun e w'=>e=.returned .nilIface∧∃d,d.bF=B∧d.pP=.pointer none∧d.pPO=.pointer none∧(∃Z,d.sfV=ptr Z 0)∧WP w k r 0 d w'):
 Calls prog 51 #[ptr k.W 0] w fun e w'=>e=.returned .nilIface∧∃d,d.bF=B∧WP w k r 0 d w':=by
 have O:=aa F;clear F;go_enter func51,ntmps51
 go_wp2_with fail;refine O.o.mono ?_;rintro e w1 ⟨rfl,s1,hB,G,Ib,⟨Z,hz⟩,r1,hI,hT⟩;have z:=aa hT;have A:=aa hI;have U:=aa hB;have V:=hI.cell 0 _ rfl;have c1:=hI.cell 1 _ rfl;have c2:=hI.cell 2 _ rfl;have D:=hI.cell 36 _ rfl;rw[G]at c1;rw[Ib]at c2;rw[hz]at D;clear hI hT hB G Ib hz
 go_wp2_with (first
  |(go_at_call 112;refine(qD Z _).mono ?_;rintro e _ ⟨rfl,rfl⟩)
  |(go_at_call 113;refine(pH _ _).mono ?_;rintro e _ ⟨rfl,rfl⟩))
 go_ret;exact⟨rfl,s1,U.o,r1,A.o,z.o⟩
theorem EO(h:WI w k r s):
 Calls prog 52 #[ptr k.W 0] w fun e w'=>∃v,e=.returned v∧gl w v r.gF s.bF∧w=w':=by
 have d:=h.cell 0 _ rfl;have H:=aa h;obtain⟨v,nm,hb,hr⟩:=h.f.blk;have z:=af hb 0;clear h hb H;go_enter func52,ntmps52
 go_wp2_with fail;go_ret;exact⟨_,rfl,hr,rfl⟩
end
open Go Go.RowKit Xc Go.Proofs.Tryz
theorem xl{a b:Int}{k:IntKind}(h:a=b):Ending.returned (.int k a)=.returned (.int k b):=by rw[h]
theorem k6(x:Nat)(w:World)(h:x<255):Calls prog 219 #[.int .u64 x] w fun e w'=>e=.returned (.int .i64 1)∧w=w':=by
 go_enter func219,ntmps219
 go_wp2_with fail;go_ret;exact⟨rfl,rfl⟩
theorem yi(q o:Nat)(n v:ByteArray)(w:World)(D:w.cell? ⟨q,o,none⟩=some (.string n))(h1:w.cell? ⟨q,o+1,none⟩=some (.string v))(hn:n.size<255)(hv:v.size<255):
 Calls prog 190 #[.pointer (some ⟨q,o,none⟩)] w fun e w'=>e=.returned (.int .i64 ((n.size+v.size+2:Nat):Int))∧w=w':=by
 have d:∀(x:Nat),x<255→((x:Int) % 18446744073709551616=x):=by intro x F;omega
 have z:=d _ hn;have A:=d _ hv;clear d;go_enter func190,ntmps190
 go_wp2_with (first
  |(go_at_call_of 219 (Value.int IntKind.u64 (n.size:Int));refine(k6 n.size _ hn).mono ?_;rintro e w1 ⟨rfl,rfl⟩)
  |(go_at_call_of 219 (Value.int IntKind.u64 (v.size:Int));refine(k6 v.size _ hv).mono ?_;rintro e w1 ⟨rfl,rfl⟩))
 go_ret;exact⟨xl (by omega),rfl⟩
def fS(w:World)(q o:Nat)(l:List (ByteArray×ByteArray)):Prop:=∀j (h:j<l.length),w.cell? ⟨q,o+2*j,none⟩=some (.string l[j].1)∧w.cell? ⟨q,o+2*j+1,none⟩=some (.string l[j].2)
theorem fS.upd{L:List Nat}{w w':World}{q o:Nat}{l:List (ByteArray×ByteArray)}(h:fS w q o l)(hu:Upd L w w')(hn:q∉L):fS w' q o l:=
 fun j d=>⟨hu.cell hn (h j d).1,hu.cell hn (h j d).2⟩
def aD(l:List (ByteArray×ByteArray)):List (Bytes×Bytes):=l.map fun p=>(sb p.1,sb p.2)
theorem j9(l:List (ByteArray×ByteArray))(j:Nat)(h:j<l.length):(aL (aD (l.take (j+1)))).length=(aL (aD (l.take j))).length+(l[j].1.size+l[j].2.size+2):=by unfold aD;rw[ax h,aX,fH,ab];simp[aL,dw];omega
theorem pV(q o cap:Nat)(l:List (ByteArray×ByteArray))(w:World)(hr:fS w q o l)(hs:∀p∈l,p.1.size<255∧p.2.size<255)(hl:l.length<1000000):
 Calls prog 138 #[.slice (some ⟨q,o,none⟩) l.length cap] w fun e w'=>e=.returned (.int .i64 (aL (aD l)).length)∧Upd [] w w':=by
 have W:=aa hr;have HS:=aa hs;have A:∀j,j≤l.length→(aL (aD (l.take j))).length≤600*j:=by
  intro j;induction j with
  |zero=>intro _;simp[aD,aL]
  |succ j ih=>
   intro G;have h1:=j9 l j (by omega);have h2:=hs _ (aq (show j<l.length by omega));have h3:=ih (by omega);omega
 have HB:=aa A;clear hr hs A;go_enter func138,ntmps138
 go_wp2_with fail;go_loopw [2,7] (fun n i wr=>∃j,j≤l.length∧i=.int .i64 (j:Nat)∧n=.int .i64 (aL (aD (l.take j))).length∧Upd [] w wr) (fun _ i _=>l.length-(intOf i).toNat)
 case atStart=>exact⟨0,ay _,rfl,rfl,ae w⟩
 case round=>
  obtain⟨j,G,rfl,rfl,F⟩:=hrel;have O:=aa F;by_cases d:j<l.length
  ·have G3:=W.o.upd F (by simp) j d;have h0:=G3.1;have h1:=G3.2;have D:=HS.o _ (aq d);have HT:=aa (j9 l j d);have hb1:=HB.o j G;have ad:(j:Int)<(l.length:Int):=by omega
   obtain⟨P,hP⟩:∃P,P=(aL (aD (l.take j))).length:=⟨_,rfl⟩;rw[←hP]at hb1⊢;have HP:=aa hP;have U:o+j*2=o+2*j:=by omega
   clear F G3 hP;have V:∀X (z:World),z.cell? ⟨X,0,none⟩=some (.string l[j].1)→z.cell? ⟨X,1,none⟩=some (.string l[j].2)→Calls prog 190 #[.pointer (some ⟨X,0,none⟩)] z fun e w'=>e=.returned (.int .i64 ((l[j].1.size+l[j].2.size+2:Nat):Int))∧z=w':=fun X z a b=>yi X 0 _ _ z a b D.1 D.2;have HC:=aa V;clear V;go_wp2_with (go_at_call 190;refine(HC.o _ _ (af (an _) 0) (af (an _) 1)).mono ?_;rintro e w1 ⟨rfl,rfl⟩);exact⟨⟨j+1,d,rfl,by rw[HT.o,←HP.o];congr 1,O.o.alloc _⟩,by simp only[intOf];omega⟩
  ·obtain rfl:j=l.length:=by omega
   rw[aS];clear F;go_wp2_with fail;go_ret;exact⟨rfl,O.o⟩
theorem pJ(g n cap at_ x:Nat)(c:Array Value)(w:World)(hg:w.heap[g]? =some (.cells c 5 (0,0)))(A:n≤c.size)(D:1≤at_)(d:at_≤n)(F:x<255)(hn:n<1073741824):
 Calls prog 220 #[.slice (some ⟨g,0,none⟩) n cap,.int .i64 at_,.int .i64 x] w fun e w'=>e=.returned (.int .i64 ((at_-1:Nat):Int))∧w'.heap[g]? =some (.cells (c.setIfInBounds (at_-1) (.int .u8 x)) 5 (0,0))∧Upd [g] w w':=by
 obtain⟨p,rfl⟩:∃p,at_=p+1:=⟨at_-1,by omega⟩;have G:w.cell? ⟨g,p,none⟩=some (c[p]'(by omega)):=by rw[af hg];simp
 have O:=ao hg p;have hm:(x:Int) % 256=x:=by omega
 have z:(p:Int)<(n:Int):=by omega
 have hK:=aa (au hg p (.int .u8 x));go_enter func220,ntmps220
 go_wp2_with fail;go_ret;exact⟨rfl,hK.o,((ae w).mono (by simp)).setCell (by simp) _⟩
def lU(c:Array Value)(n:Nat)(s:ByteArray):Array Value:=(fB c (n-s.size) (Lib.strCells s)).setIfInBounds (n-s.size-1) (.int .u8 s.size)
theorem uN(w:World):(Go.sizeOf 5).run prog w=.ok 1 w:=by obtain⟨i,d,he⟩:=Option.map_eq_some_iff.1 Tryz.size5;simp[Go.sizeOf,typeInfo,d,he]
theorem sU(q o g n cap:Nat)(s v:ByteArray)(c:Array Value)(w:World)(h0:w.cell? ⟨q,o,none⟩=some (.string s))(h1:w.cell? ⟨q,o+1,none⟩=some (.string v))(z:q≠g)
 (hg:w.heap[g]? =some (.cells c 5 (0,0)))(hc:n≤c.size)(cg:n≤cap)(hs:s.size<255)(hv:v.size<255)(ck:0<s.size)(cn:0<v.size)(hn:s.size+v.size+2≤n)(a2:n<1073741824):
 Calls prog 191 #[.pointer (some ⟨q,o,none⟩),.slice (some ⟨g,0,none⟩) n cap] w fun e w'=>e=.returned (.int .i64 ((s.size+v.size+2:Nat):Int))∧
  w'.heap[g]? =some (.cells (lU (lU c n v) (n-v.size-1) s) 5 (0,0))∧Upd [g] w w':=by
 obtain⟨a,ha⟩:∃a,a=n-v.size:=⟨_,rfl⟩;have br:(n:Int)-(v.size:Int)=(a:Nat):=by omega
 have a3:∀j,j<v.size→(w.cell? ⟨g,a+j,none⟩).isSome=true:=fun j hj=>by rw[af hg];simp;omega
 have HG:=aa hg;have bv:=aa a3;have bw:(cap=a)=False:=by simp;omega
 have hb1:(0:Int)≤(a:Int):=by omega
 have hb2:(a:Int)≤(n:Int):=by omega
 have hb3:(a:Int)≤(cap:Int):=by omega
 have hle:v.size≤n-a:=by omega
 have HA:=aa ha;clear hg a3 ha;go_enter func191,ntmps191
 go_wp2_with fail;go_cut [5] (fun i wx=>i=.int .i64 (a:Nat)∧wx=w.drew.setCells g a (Lib.strCells v))
 case first=>
  go_region_law (refine step_copy_string rfl (.tmp 17) (.tmp 21) 65 9 rfl 5 underlying65 uN g a (n-a) (cap-a) (by rfl) v (by rfl) hle bv.o (fun j _=>ao HG.o _) ?_)
  all_goals
   go_wp2_with fail;go_meet
   exact⟨rfl,rfl⟩
 case rest=>
  obtain⟨rfl,rfl⟩:=hcut;have d:Upd [g] w (w.drew.setCells g a (Lib.strCells v)):=(((ae w).mono (by simp)).drew).setCells (fun _=>by simp) a _;have D:(w.drew.setCells g a (Lib.strCells v)).heap[g]? =_:=iX (w:=w.drew) HG.o a (Lib.strCells v);revert d D;generalize w.drew.setCells g a (Lib.strCells v)=w1;intro d D;have e0:=d.cell (by simpa using z) h0;have e1:=d.cell (by simpa using z) h1;have bA:=HA.o;obtain⟨b,hb⟩:∃b,b=a-1-s.size:=⟨_,rfl⟩;have bB:((a-1:Nat):Int)-(s.size:Int)=(b:Nat):=by omega
  have F:b+s.size+1=a:=by omega
  have a0:(fB c a (Lib.strCells v)).size=c.size:=jb _ _ _;have a4:=pJ g n cap a v.size _ w1 D (by rw[a0];exact hc) (by omega) (by omega) hv a2;have bE:=aa a4;have bK:=aa d;have HB:=aa hb;have a5:=aa F;have bL:=aa a0;have bM:(cap=b)=False:=by simp;omega
  have bO:(0:Int)≤(b:Int):=by omega
  have bR:(b:Int)≤(n:Int):=by omega
  have bS:(b:Int)≤(cap:Int):=by omega
  have U:s.size≤n-b:=by omega
  clear a4 d D bA hb F a0 bw hb1 hb2 hb3 hle h0 h1 br;go_wp2_with (go_at_call 220;refine bE.o.mono ?_;rintro e w2 ⟨rfl,a6,G⟩;have a7:=G.cell (a:=⟨q,o,none⟩) (by simpa using z) e0;have bW:=G.cell (a:=⟨q,o+1,none⟩) (by simpa using z) e1;have a1:=aa a6;have b5:=aa G;clear a6 G e0 e1);have V:∀j,j<s.size→(w2.cell? ⟨g,b+j,none⟩).isSome=true:=fun j hj=>by have:=bL.o;have:=a5.o;rw[af a1.o];simp;omega
  have a9:=aa V;clear V;go_cut [5] (fun i wx=>i=.int .i64 (b:Nat)∧wx=w2.drew.setCells g b (Lib.strCells s))
  case first=>
   go_region_law (refine step_copy_string rfl (.tmp 40) (.tmp 44) 65 9 rfl 5 underlying65 uN g b (n-b) (cap-b) (by rfl) s (by rfl) U a9.o (fun j _=>ao a1.o _) ?_)
   all_goals
    go_wp2_with fail;go_meet
    exact⟨rfl,rfl⟩
  case rest=>
   obtain⟨rfl,rfl⟩:=hcut;have A:Upd [g] w2 (w2.drew.setCells g b (Lib.strCells s)):=(((ae w2).mono (by simp)).drew).setCells (fun _=>by simp) b _;have O:(w2.drew.setCells g b (Lib.strCells s)).heap[g]? =_:=iX (w:=w2.drew) a1.o b (Lib.strCells s);revert A O;generalize w2.drew.setCells g b (Lib.strCells s)=w3;intro A O;have cp:=A.cell (by simpa using z) a7;have F:=a5.o;have W:(fB ((fB c a (Lib.strCells v)).setIfInBounds (a-1) (.int .u8 v.size)) b (Lib.strCells s)).size=c.size:=by rw[jb];simp[jb]
   have bb:=pJ g n cap b s.size _ w3 O (by rw[W];exact hc) (by have:=HA.o;omega) (by omega) hs a2;have b6:=aa bb;have b7:=aa A;have ad:(n:Int)-((b-1:Nat):Int)=((s.size+v.size+2:Nat):Int):=by have:=HA.o;omega
   have bd:=aa ad;have be:a=n-v.size:=HA.o;have bg:b=n-v.size-1-s.size:=by omega
   have b8:=aa be;have b9:=aa bg;clear bb A O F W bM bO bR bS U a7 bW bB ad be bg;go_wp2_with (go_at_call 220;refine b6.o.mono ?_;rintro e w4 ⟨rfl,bl,bn⟩;have ca:=aa bl;have cc:=aa bn;clear bl bn);go_ret;refine⟨xl (by rw[bd.o];unfold wrap64;omega),?_,((bK.o.then b5.o (fun i hi _=>hi)).then b7.o (fun i hi _=>hi)).then cc.o (fun i hi _=>hi)⟩;have h4:=ca.o;rw[b9.o,b8.o]at h4;exact h4
theorem iV(B:Bytes)(i:Nat):(Lib.byteCells B).toArray[i]? =(B[i]?).map fun b=>Value.int .u8 b.toNat:=by simp[Lib.byteCells]
theorem yz(B x:Bytes)(p i:Nat)(h:p+x.length≤B.length):(eX B p x)[i]? =if i<p then B[i]?else if i<p+x.length then x[i-p]?else B[i]? :=by
 unfold eX;have z:(B.take p).length=p:=by rw[aZ];omega
 rw[kI,z];by_cases h1:i<p
 ·rw[if_pos h1,if_pos h1,me,if_pos h1]
 ·rw[if_neg h1,if_neg h1,kI];by_cases d:i<p+x.length
  ·rw[if_pos d,if_pos (by omega)]
  ·rw[if_neg d,if_neg (by omega),md];congr 1;omega
theorem mq(B:Bytes)(n:Nat)(s:ByteArray)(hn:s.size+1≤n)(hB:n≤B.length)(hs:s.size<256):
 lU (Lib.byteCells B).toArray n s=(Lib.byteCells (eX B (n-s.size-1) (eJ (sb s)))).toArray:=by
 have d:(eJ (sb s)).length=s.size+1:=by rw[dw,dA]
 have hsl:(Lib.strCells s).length=s.size:=Lib.strCells_length s;have z:(Lib.byteCells B).toArray.size=B.length:=by simp[Lib.byteCells]
 apply Array.ext_getElem?;intro i;rw[iV,yz _ _ _ _ (by rw[d];omega),d,lU];by_cases h1:i=n-s.size-1
 ·subst h1;rw[if_neg (by omega),if_pos (by omega),iN,di (by rw[jb,z];omega)];simp[eJ,Nat.toUInt8,fQ];omega
 ·rw[ba (by omega)];by_cases A:i<n-s.size-1
  ·rw[if_pos A,fV _ _ _ _ (by omega),iV]
  ·rw[if_neg A];by_cases D:i<n-s.size-1+(s.size+1)
   ·rw[if_pos D];have e:i=n-s.size+(i-(n-s.size)):=by omega
    have F:i-(n-s.size)<(Lib.strCells s).length:=by omega
    have hg:=oy (Lib.byteCells B).toArray (n-s.size) (Lib.strCells s) (i-(n-s.size)) F (by rw[z];omega);rw[←e]at hg;rw[hg];have e2:i-(n-s.size-1)=(i-(n-s.size))+1:=by omega
    rw[e2,eJ,gG];simp[Lib.strCells]
   ·rw[if_neg D,fV _ _ _ _ (by omega),iV]
theorem qj(B x:Bytes)(p:Nat)(h:p+x.length≤B.length):(eX B p x).drop p=x++B.drop (p+x.length):=by
 unfold eX;have d:(B.take p).length=p:=by rw[aZ];omega
 conv=>lhs;arg 1;rw[←d]
 exact eZ
def jw(l:List (ByteArray×ByteArray)):Prop:=∀p∈l,0<p.1.size∧p.1.size<255∧0<p.2.size∧p.2.size<255
theorem qT(l:List (ByteArray×ByteArray))(j:Nat)(h:j<l.length):aL (aD (l.drop j))=eJ (sb l[j].1)++(eJ (sb l[j].2)++aL (aD (l.drop (j+1)))):=by rw[bf h];exact jo _ _
theorem pT(l:List (ByteArray×ByteArray))(j:Nat):(aL (aD l)).length=(aL (aD (l.take j))).length+(aL (aD (l.drop j))).length:=by
 have h:aD l=aD (l.take j)++aD (l.drop j):=by unfold aD;rw[←aX,aI]
 conv=>lhs;rw[h,fH,ab]
theorem D8(C:Bytes)(P Q:Nat)(s v:ByteArray)(hs:s.size<255)(hv:v.size<255)(hP:P≤C.length)(F:P=Q+(s.size+v.size+2)):
 ∃A,lU (lU (Lib.byteCells C).toArray P v) (P-v.size-1) s=(Lib.byteCells A).toArray∧A.length=C.length∧A.drop Q=eJ (sb s)++(eJ (sb v)++C.drop P):=by
 have z:(eJ (sb v)).length=v.size+1:=by rw[dw,dA]
 have hes:(eJ (sb s)).length=s.size+1:=by rw[dw,dA]
 have d:=ix C (P-v.size-1) (eJ (sb v)) (by rw[z];omega);have D:=ix (eX C (P-v.size-1) (eJ (sb v))) (P-v.size-1-s.size-1) (eJ (sb s)) (by rw[hes,d];omega);refine⟨eX (eX C (P-v.size-1) (eJ (sb v))) (P-v.size-1-s.size-1) (eJ (sb s)),?_,by rw[D,d],?_⟩
 ·rw[mq C P v (by omega) hP (by omega),mq _ _ s (by omega) (by rw[d];omega) (by omega)]
 ·have e:Q=P-v.size-1-s.size-1:=by omega
  rw[e,qj _ _ _ (by rw[hes,d];omega),hes,show P-v.size-1-s.size-1+(s.size+1)=P-v.size-1 by omega,qj _ _ _ (by rw[z];omega),z,show P-v.size-1+(v.size+1)=P by omega]
theorem mr(q o qc g cap T:Nat)(l:List (ByteArray×ByteArray))(B:Bytes)(w:World)(hr:fS w q o l)(hs:jw l)(hl:l.length<1000000)(F:q≠g)
 (hT:T=(aL (aD l)).length)(hB:B.length=T)(hg:w.heap[g]? =some (.cells (Lib.byteCells B).toArray 5 (0,0)))(a9:T≤cap)(bd:T<1073741824):
 Calls prog 139 #[.slice (some ⟨q,o,none⟩) l.length qc,.slice (some ⟨g,0,none⟩) T cap] w fun e w'=>
  e=.returned (.int .i64 T)∧w'.heap[g]? =some (.cells (Lib.byteCells (aL (aD l))).toArray 5 (0,0))∧Upd [g] w w':=by
 have HR:=aa hr;have HS:=aa hs;have HT:=aa hT;have HB:=aa hB;have HG:=aa hg;clear hr hs hT hB hg;go_enter func139,ntmps139
 go_wp2_with fail
 go_loopw [5,6,7] (fun i d _ wr=>∃(j:Nat) (C:Bytes),j≤l.length∧i=.int .i64 (aL (aD (l.take j))).length∧d=.int .i64 ((j:Int)-1)∧C.length=T∧wr.heap[g]? =some (.cells (Lib.byteCells C).toArray 5 (0,0))∧
  C.drop (aL (aD (l.take j))).length=aL (aD (l.drop j))∧Upd [g] w wr) (fun _ d _ _=>(intOf d+1).toNat)
 case atStart=>
  refine⟨l.length,B,aw _,by rw[aS,←HT.o],rfl,HB.o,HG.o,?_,(ae w).mono (by simp)⟩;rw[aS,eT,←HT.o,←HB.o,eT];rfl
 case round=>
  obtain⟨j,C,hj,rfl,rfl,hC,hg,D,hU⟩:=hrel;have HC:=aa hC;have G:=aa hg;have HD:=aa D;have HU:=aa hU;clear hC hg D hU;by_cases be:0<j
  ·obtain⟨k,rfl⟩:∃k,j=k+1:=⟨j-1,by omega⟩;have hk:k<l.length:=by omega
   have G3:=HR.o.upd HU.o (by simpa using F) k hk;have z:=HS.o _ (aq hk);obtain⟨P,hP⟩:∃P,P=(aL (aD (l.take (k+1)))).length:=⟨_,rfl⟩;obtain⟨Q,hQ⟩:∃Q,Q=(aL (aD (l.take k))).length:=⟨_,rfl⟩;have A:=j9 l k hk;rw[←hP,←hQ]at A;have O:P≤T:=by rw[HT.o,hP,pT l (k+1)];omega
   rw[←hP];have e1:o+k*2=o+2*k:=by omega
   have Ii:=sU q (o+2*k) g P cap l[k].1 l[k].2 (Lib.byteCells C).toArray wr.drew G3.1 G3.2 F G.o (by simp[Lib.byteCells,HC.o];exact O) (by omega) z.2.1 z.2.2.2 z.1 z.2.2.1 (by omega) (by omega);have a2:=aa Ii;have U:=aa A;have HP:=aa hP;have HQ:=aa hQ;have bg:(0:Int)≤(k:Int):=by omega
   have bl:(k:Int)<(l.length:Int):=by omega
   have bn:(0:Int)≤(P:Int):=by omega
   have br:(P:Int)≤(cap:Int):=by omega
   clear Ii G3 hP hQ A;go_wp2_with fail;go_still_tail 6,(by kernel_rfl)
   change wpList _ _ _ _ _ (World.drew _);obtain⟨C',V,W,ad⟩:=D8 C P Q l[k].1 l[k].2 z.2.1 z.2.2.2 (by rw[HC.o];exact O) U.o;have a3:=aa V;have a4:=aa W;have a5:=aa ad;have bb:(P:Int)-((l[k].1.size+l[k].2.size+2:Nat):Int)=(Q:Nat):=by have:=U.o;omega
   clear V W ad;go_wp2_with (go_at_call 191;refine a2.o.mono ?_;rintro e w2 ⟨rfl,a0,a1⟩;have a6:=aa a0;have a7:=aa a1;clear a0 a1);refine⟨⟨k,C',by omega,?_,rfl,by rw[a4.o,HC.o],by rw[a6.o,a3.o],?_,HU.o.then (cz a7.o) (fun i hi _=>hi)⟩,by simp only[intOf];omega⟩
   ·rw[←HQ.o];congr 1
   ·rw[←HQ.o,a5.o,qT l k hk,←HD.o,←HP.o]
  ·obtain rfl:j=0:=by omega
   go_wp2_with fail;go_ret;have D:=HD.o;simp only[fd,List.drop_zero]at D;have h0:(aL (aD [])).length=0:=rfl;rw[h0,List.drop_zero]at D;refine⟨?_,by rw[G.o,D],HU.o⟩;simp[aD,aL];unfold wrap64;omega
theorem Tryz.sizeLabels:(Tryz.prog.info? 135).map (·.size)=some 1:=by kernel_rfl
theorem oB(w:World):Calls prog 186 #[] w fun e w'=>e=.returned (.agg #[.string ⟨#[]⟩])∧Upd [] w w':=by
 go_enter func186,ntmps186
 go_wp2_with fail;refine bodyPost_ret (results_cell_row rfl _ _ w.heap.size 135 _ (0,0) _ rfl (an _) underlying135 rfl Tryz.sizeLabels) rfl ?_;exact⟨rfl,(ae w).alloc _⟩
theorem py(p:Nat)(v:Value)(w:World):Calls prog 133 #[.pointer (some ⟨p,0,none⟩),v] w fun e w'=>e=.returned (.tuple #[])∧w=w':=by
 go_enter func133,ntmps133
 go_wp2_with fail;go_end0
 exact⟨rfl,rfl⟩
def aV(l:List (ByteArray×ByteArray)):List Value:=l.flatMap fun p=>[.string p.1,.string p.2]
theorem fj(l:List (ByteArray×ByteArray)):(aV l).length=l.length*2:=by
 induction l with
 |nil=>rfl
 |cons p l d=>simp[aV]at d⊢;omega
structure SB(w:World)(p:Nat)(r:Option Nat)(l:List (ByteArray×ByteArray))(out:ByteArray):Prop where
 blk:∃v ob,w.heap[p]? =some (.cells #[v,.string out,ob] 188 (0,0))∧w.ownsRow 0 253 2 v l.length (aV l)∧v.ownBlock=r
 ne:r≠some p
theorem SB.upd{L:List Nat}{w w':World}{p:Nat}{r:Option Nat}{l:List (ByteArray×ByteArray)}{out:ByteArray}(h:SB w p r l out)(hu:Upd L w w')(h1:p∉L)(d:∀k,r=some k→k∉L):SB w' p r l out:=by obtain⟨v,ob,hb,z,e⟩:=h.blk;exact⟨⟨v,ob,hu.blk hb h1,hu.row z (by rw[e];exact d),e⟩,h.ne⟩
end Go.Proofs.YtlgefdfflmgocaaGreatDoor
namespace Go.Proofs
open Go.Shelf Go.RowKit Go.Lib Go.Sort Xc Go.Proofs.Tryz
def iP(x:ByteArray×ByteArray):List Value:=[.string x.1,.string x.2]
def lz(x y:ByteArray×ByteArray):Int:=Lib.compareBytes x.1.data.toList y.1.data.toList
theorem F4(x y:ByteArray×ByteArray)(W:World):Calls prog 171 #[.agg #[.string x.1,.string x.2],.agg #[.string y.1,.string y.2]] W fun e w'=>e=.returned (.int .i64 (lz x y))∧∃q z,w'=grow (W.drewN q) z:=by
 have d:=fun A=>Tryz.strings_Compare x.1 y.1 A;change∀A,Calls prog 172 _ _ (fun e w'=>e=.returned (.int .i64 (lz x y))∧_)at d;generalize lz x y=r at d⊢;go_enter func171,ntmps171
 go_wp2_with (go_at_call 172;refine(d _).mono ?_;rintro e w' ⟨rfl,rfl⟩);go_ret;exact⟨rfl,0,_,by rw[alloc_eq_grow,alloc_eq_grow,grow_grow];rfl⟩
theorem BZ(blk off size:Nat)(w:World):CmpLays prog 171 #[] iP 2 lz blk off size w:=
 fun _ _ _ _ x y=>F4 x y _
theorem tT(n:Nat)(W:World)(h:n≤12):Calls prog 45 #[.int .u64 n] W fun e w'=>(∃l:Int,e=.returned (.int .i64 l))∧w'=W:=
 (Tryz.bits_Len n W (by omega) (by omega)).mono fun _ _ ⟨he,d⟩=>⟨⟨_,he⟩,d⟩
end Go.Proofs
namespace Go.Proofs.YtlgefdfflmgocaaGreatDoor
open Go Go.RowKit Xc Go.Shelf Go.Lib Go.Sort Go.Proofs Go.Proofs.Tryz
theorem sH{w:World}{q o:Nat}{l:List (ByteArray×ByteArray)}(h:fS w q o l)(hf:∀j,j<2*l.length→w.frozen? ⟨q,o+j,none⟩=false):HoldsK iP 2 w q o l.toArray:=by
 intro t D;have d:t<l.length*2:=by simpa using D
 refine⟨?_,hf t (by omega)⟩;rw[get_flatK iP 2 l.toArray t (by simpa using d)];have z:t/2<l.length:=by omega
 have F:l.toArray[t/2]! =l[t/2]:=by simp[z]
 rw[F];rcases Nat.mod_two_eq_zero_or_one t with A|A
 ·have e:o+t=o+2*(t/2):=by omega
  rw[A,e,(h (t/2) z).1];rfl
 ·have e:o+t=o+2*(t/2)+1:=by omega
  rw[A,e,(h (t/2) z).2];rfl
theorem sE{w:World}{q o:Nat}{d:Array (ByteArray×ByteArray)}(h:HoldsK iP 2 w q o d):fS w q o d.toList:=by
 intro j F;have z:j<d.size:=by simpa using F
 have A:d[j]! =d.toList[j]:=by simp[z]
 have D:=(h (2*j) (by rw[size_flatK];omega)).1;have h1:=(h (2*j+1) (by rw[size_flatK];omega)).1;rw[get_flatK iP 2 d (2*j) (by omega),show 2*j/2=j by omega,show 2*j % 2=0 by omega,A]at D;rw[get_flatK iP 2 d (2*j+1) (by omega),show(2*j+1)/2=j by omega,show(2*j+1) % 2=1 by omega,A]at h1;exact⟨D,by rw[kH];exact h1⟩
theorem rh(w:World)(q o n:Nat)(d:Array (ByteArray×ByteArray))(os:Array Obj):Upd [q] w (sortWorldK iP 2 w q o n d os):=by
 refine⟨rfl,rfl,rfl,?_,?_⟩
 ·simp[sortWorldK,grow,putRowK,putRow,mapBlock,Sort.ahead]
 ·intro b hb hn;have hb2:b<(putRowK iP 2 (Sort.ahead w n) q o d).heap.size:=by simpa[putRowK,putRow,mapBlock,Sort.ahead]using hb
  unfold sortWorldK;rw[heap_grow_old _ _ hb2];simp only[putRowK,putRow,mapBlock,Sort.ahead];have G5:q≠b:=fun e=>hn (by simp[e]);simp[im,G5]
theorem kY:∀(a b:Bytes),(Lib.compareBytes a b<0)↔Op.bytesLess a b=true
 |[],[]=>by simp[Lib.compareBytes,Op.bytesLess]
 |[],_::_=>by simp[Lib.compareBytes,Op.bytesLess]
 |_::_,[]=>by simp[Lib.compareBytes,Op.bytesLess]
 |a::xs,b::ys=>by
  have z:=kY xs ys;simp only[Lib.compareBytes,Op.bytesLess];by_cases h1:a<b
  ·simp[h1]
  ·by_cases d:b<a
   ·have:a≠b:=fun e=>by subst e;exact h1 d
    simp[h1,d,this]
   ·have:a=b:=UInt8.le_antisymm (UInt8.not_lt.1 d) (UInt8.not_lt.1 h1);subst this;simp[h1,z]
theorem j3(x y:ByteArray×ByteArray):ltOf lz x y=decide (sb x.1<sb y.1):=by
 unfold ltOf lz;show _=decide (x.1.data.toList<y.1.data.toList);rw[←bytesLess_eq];have h:=kY x.1.data.toList y.1.data.toList;cases hb:Op.bytesLess x.1.data.toList y.1.data.toList
 ·rw[hb]at h;simp only[decide_eq_false_iff_not];intro d;exact absurd (h.1 d) (by simp)
 ·rw[hb]at h;simp only[decide_eq_true_eq];exact h.2 rfl
theorem EG:SWO (ltOf lz) where
 irrefl x:=by rw[j3];simp[cT]
 trans x y z h1 h2:=by rw[j3]at h1 h2⊢;simp only[decide_eq_true_eq]at h1 h2⊢;exact ig h1 h2
 ntrans x y z h1 h2:=by rw[j3]at h1 h2⊢;simp only[decide_eq_false_iff_not]at h1 h2⊢;intro d;have a:=List.not_lt.1 h1;have b:=List.not_lt.1 h2;exact(List.not_lt.2 (List.le_trans b a)) d
theorem BE(q o cap:Nat)(l:List (ByteArray×ByteArray))(w:World)(hr:fS w q o l)(hf:∀j,j<2*l.length→w.frozen? ⟨q,o+j,none⟩=false)(hq:q<w.heap.size)(F:l.length≤12):
 Calls prog 170 #[.slice (some ⟨q,o,none⟩) l.length cap,.func (.func 171) #[] #[]] w fun e w'=>e=.returned (.tuple #[])∧
  ∃G,G.Perm l∧G.Pairwise (fun x y=>¬sb y.1<sb x.1)∧fS w' q o G∧Upd [q] w w':=by
 have eg:∀args w,(callFunc 171 args).run prog w=.ok (.enter 171 args) w:=enters_of func171 (by kernel_rfl) rfl;have W:=sH hr hf;have z:=AnyQ.slices_SortFunc_small_sorted Tryz.sortLabel 2 Tryz.isAgg253 Tryz.sizeOf253 iP (fun _=>rfl) (fun x v hv=>by simp[iP]at hv;rcases hv with rfl|rfl<;>rfl) lz 171 #[] EG q o cap l.toArray w eg (BZ q o l.toArray.size w) W hq (by simpa using F) tT;change Calls prog 170 _ _ _ at z;refine en z ?_;rintro e w' ⟨rfl,d,n,os,A,O,rfl⟩;refine⟨rfl,d.toList,?_,?_,?_,rh w q o n d os⟩
 ·have h:=A.2.2;have e1:d.extract 0 l.toArray.size=d:=by rw[←A.1];simp
  have e2:l.toArray.extract 0 l.toArray.size=l.toArray:=by simp
  rw[e1,e2]at h;exact h
 ·rw[mB];intro i j hi D U;have V:=A.1;have h:=O i j (ay _) U (by simp at D;rw[←V];exact D);rw[j3]at h;have e1:d[j]! =d.toList[j]:=by simp at D;simp[D]
  have e2:d[i]! =d.toList[i]:=by simp at hi;simp[hi]
  rw[e1,e2]at h;simpa using h
 ·refine sE ?_;have h0:HoldsK iP 2 (Sort.ahead w n) q o l.toArray:=W;have h1:=holdsK_putRowK (enc:=iP) (k:=2) (Sort.ahead w n) q o l.toArray d h0 A.1;exact holdsK_grow iP 2 _ _ _ _ _ (by simpa[putRowK,putRow,mapBlock,Sort.ahead]using hq) h1
theorem lK{w:World}{g T cap:Nat}{B:Bytes}(hg:w.heap[g]? =some (.cells (Lib.byteCells B).toArray 5 (0,0)))(hB:T=B.length)(d:T≤cap):RdG w (.slice (some ⟨g,0,none⟩) T cap) g B:=by subst hB;refine⟨0,cap,rfl,⟨d,lt_of_block hg⟩,fun j z=>?_⟩;rw[af hg,aK,iV,az z];rfl
theorem mR{w:World}{B g n:Nat}(h:w.ownsRow B 5 1 (.slice (some ⟨g,0,none⟩) n n) n (madeCells #[Value.int .u8 0] n).toList):w.heap[g]? =some (.cells (Lib.byteCells (List.replicate n 0)).toArray 5 (0,0)):=by
 rcases h.2 with⟨e,_⟩|⟨g',cap,cur,e,_,hg,_,_,hs,d⟩
 ·cases e
 ·cases e;rw[hg];have hl:cur.toList.length=n:=by simpa using hs
  rw[iI,bG (by omega)]at d;have e2:cur=(Lib.byteCells (List.replicate n 0)).toArray:=by apply Array.ext';rw[d];simp[nK,Lib.byteCells]
  rw[e2]
theorem qV{l d:List (ByteArray×ByteArray)}(h:jw l)(z:d.Perm l):jw d:=fun p hm=>h p (z.mem_iff.1 hm)
theorem sG{l d:List (ByteArray×ByteArray)}(z:d.Perm l):(aL (aD d)).length=(aL (aD l)).length:=
 ((z.map _).flatMap_right _).length_eq
theorem D7(q o cap:Nat)(l:List (ByteArray×ByteArray))(w:World)(hr:fS w q o l)(hf:∀j,j<2*l.length→w.frozen? ⟨q,o+j,none⟩=false)(hq:q<w.heap.size)(bE:l.length≤12)(hs:jw l)(hT:(aL (aD l)).length<1000000):
 Calls prog 110 #[.slice (some ⟨q,o,none⟩) l.length cap] w fun e w'=>
  ∃z,e=.returned (.agg #[.string (str (aL (aD z)))])∧z.Perm l∧z.Pairwise (fun x y=>¬sb y.1<sb x.1)∧fS w' q o z∧Upd [q] w w':=by
 obtain⟨X,hX⟩:∃X,X=w.heap.size:=⟨_,rfl⟩;have U:Upd [] w (w.alloc (.cells #[.string ⟨#[]⟩] 135 (0,0))):=(ae w).alloc _;have a6:(w.alloc (.cells #[.string ⟨#[]⟩] 135 (0,0))).heap[w.heap.size]? =some (.cells #[.string ⟨#[]⟩] 135 (0,0)):=an _;have a7:∀j,j<2*l.length→(w.alloc (.cells #[.string ⟨#[]⟩] 135 (0,0))).frozen? ⟨q,o+j,none⟩=false:=fun j hj=>by have:=hf j hj;simp only[World.frozen?,eB _ hq]at this⊢;exact this
 have a9:q<(w.alloc (.cells #[.string ⟨#[]⟩] 135 (0,0))).heap.size:=by simp;omega
 have hC:=BE q o cap l _ (hr.upd U (by simp)) a7 a9 bE;have HC:=aa hC;have bK:=aa U;have bL:=aa a6;have HS:=aa hs;have HT:=aa hT;clear hC U a6 a7 a9 hr hf hs hT;go_enter func110,ntmps110
 go_wp2_with (go_at_call 170;refine HC.o.mono ?_;rintro e w1 ⟨rfl,z,hp,bb,V,D⟩);have W:z.length=l.length:=hp.length_eq;have bd:=sG hp;obtain⟨T,F⟩:∃T,T=(aL (aD z)).length:=⟨_,rfl⟩;have ck:T<1000000:=by rw[F,bd];exact HT.o
 have G:=qV HS.o hp;have ad:=pV q o cap z w1 V (fun p hm=>⟨(G p hm).2.1,(G p hm).2.2.2⟩) (by omega);rw[←F,W]at ad;have bM:=aa ad;have be:=aa V;have bg:=aa F;have bO:=aa G;have bR:=aa ((bK.o.mono (M:=[q]) (by simp)).then D (fun i hi _=>hi));have a0:=aa (D.blk bL.o (by simp;omega));have cn:q<w1.heap.size:=by have:=D.size;simp at this;omega
 have Hp:=aa hp;have bS:=aa bb;have bl:=aa W;obtain⟨i0,hi,bW,b5,b6⟩:=info_parts Tryz.info5;clear ad V F G D hp bb W bd;refine bM.o.mono ?_;rintro e w2 ⟨rfl,a1⟩;have d:=aa a1;have cp:q<w2.heap.size:=by have:=a1.size;omega
 clear a1;go_wp2_with (at_make;refine wpList_make_full _ rfl _ _ 65 rfl 0 5 i0 (.int .u8 0) 1 underlying65 hi bW b5 .i64 .i64 T T T rfl rfl rfl rfl ?b2 ?b3 ?b4 ?_);case b2=>rw[b6];omega
 case b3=>unfold maxLen;omega
 case b4=>omega
 intro w3 A bn;obtain⟨g,hg⟩:∃g,g=w2.heap.size:=⟨_,rfl⟩;rw[←hg]at A⊢;have a2:Upd [] w2 w3:=(ae w2).grown bn (by simp);have br:=mR (B:=0) A;have Ii:=mr q o cap g T T z (List.replicate T 0) w3 ((be.o.upd d.o (by simp)).upd a2 (by simp)) bO.o (by rw[bl.o];omega) (by omega) bg.o (by simp) br (aw _) (by omega);rw[bl.o]at Ii;have b7:=aa Ii;have a3:=aa a2;clear Ii a2 br A bn;have bv:=a3.o.blk (d.o.blk a0.o (by simp)) (by simp);have bw:w.heap.size≠g:=by have:=d.o.size;have:=lt_of_block a0.o;omega
 have cs:w.heap.size≤g:=by have:=d.o.size;have:=lt_of_block a0.o;omega
 have b8:q≠g:=by omega
 have b9:=aa bv;have ca:=aa bw;clear bv bw hg hX;go_wp2_with fail;refine b7.o.mono ?_;rintro e w4 ⟨rfl,a4,a5⟩;have O:=a5.blk b9.o (by simpa using ca.o);have c4:=af O 0;have f4:=ao O 0;have ct:=aa a4;have bA:=aa a5;have cc:=aa O;have hY:=Bj g _ (aL (aD z)) w4 (lK a4 bg.o (aw _));have HY:=aa hY;clear a4 a5 O hY;go_wp2_with (go_at_call 140;refine HY.o.mono ?_;rintro e w5 ⟨rfl,rfl⟩);refine bodyPost_ret (results_cell_row rfl _ _ w.heap.size 135 _ (0,0) _ rfl (au cc.o 0 _) underlying135 rfl Tryz.sizeLabels) rfl ?_;have cg:Upd [q] w w4:=((bR.o.then d.o (by simp)).then a3.o (by simp)).then bA.o (by intro i hi hl;simp at hi;omega);have bB:Upd [w.heap.size] w4 (w4.setCell ⟨w.heap.size,0,none⟩ (.string (str (aL (aD z))))):=((ae w4).mono (by simp)).setCell (by simp) _;refine⟨z,rfl,Hp.o,bS.o,?_,cg.then bB (by intro i hi hl;simp at hi;omega)⟩;exact(((be.o.upd d.o (by simp)).upd a3.o (by simp)).upd bA.o (by simpa using b8)).upd bB (by simp;omega)
end Go.Proofs.YtlgefdfflmgocaaGreatDoor
