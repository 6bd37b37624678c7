import Derived.Test.YtlgefdfflmgocaaGreatDoorQ14
import Derived.Defers
import Derived.Recover
set_option linter.all false
set_option maxRecDepth 100000
set_option maxHeartbeats 8000000
namespace Go.Proofs.YtlgefdfflmgocaaGreatDoor
section
open Go Go.RowKit Xc Go.Proofs.Tryz
attribute [local go_sem ↓] Go.wp_at_zero Go.wp_at_succ
variable {w:World} {k:WK} {r:WR} {s:WS}
theorem fx(l:Bytes):(str l).size=l.length:=by have:=dA (str l);rw[dG]at this;exact this.symm
theorem AP(X:Nat)(w:World)(h:w.cell? ⟨X,0,none⟩=some (.pointer none)):
 CallsD prog 211 #[ptr X 0] .returning w fun e d w'=>d=.returning∧(e=.returned (.tuple #[])∧w'=w):=by
 go_enter_d func211,ntmps211
 go_wp2
 go_end0
 exact⟨rfl,rfl⟩
theorem uV(n:Nat)(es:List (Bytes×Bytes×Nat))(h:WI w k r s)(cF:s.pPO=ptr k.FPO 0)(hb:s.bPO=poB es)(cL:s.cnt=es.length)(G5:es≠[])(gg:es.length<1000)(hes:∀x∈es,x.1.length<1000∧x.2.1.length<1000∧x.2.2<1000000)(dj:s.pst<100000000)
 (hn:n≤s.bF.length)(hl:s.bF.length<10000000):
 Calls prog 159 #[ptr k.W 0] w fun e w'=>e=.returned .nilIface∧∃b1 c,WP w k r n {s with bF:=s.bF++sec (gf (fe s.pst es)),b1:=b1,crc:=c,pPO:=.pointer none} w':=by
 have d:=aa h;have kP:Hid (WT w k r n w r):=aa gZ;have k0:Hid (WJ w k r fJ w r):=aa WJ.refl;have Hn:=aa (And.intro hn hl);have HE:=aa hes;have HB:=aa hb;have gi:=aa G5;have cM:=aa cF;obtain⟨M,hM⟩:∃M,M=es.length:=⟨_,rfl⟩;obtain⟨A,hA⟩:∃A,A=s.pst:=⟨_,rfl⟩;rw[←hM]at gg cL;rw[←hA]at dj⊢;have HM:=aa hM;have HA:=aa hA;have dk:=aa cL;obtain⟨P,HP,cP⟩:=h.fpos;have V:=h.cell 0 _ rfl;have c2:w.cell? ⟨k.W,2,none⟩=some (ptr k.FPO 0):=by rw[h.cell 2 _ rfl,cF]
 have k1:∀(fn:Fn) (first cap:Array Value) (w:World),(Instr.makeFunc fn first cap).run prog w=.ok (.func fn first cap) w:=fun _ _ _ _=>rfl;have kc:=fun(w:World) (C:Array Value) (n c:Nat)=>Lib.run_convert_bytes_const (P:=prog) w 65 5 C n c underlying65 underlying5;clear h hb G5 cF cL hn hl hM hA hes;go_enter_defers func159,ntmps159
 go_wp2_with (go_at_call 173;refine(jz _ _).mono ?_;rintro e w1 ⟨rfl,rfl⟩);obtain⟨w1,dp,ad,b5,b6⟩:=nH w #[.int .u8 97,.int .u8 108,.int .u8 101,.int .u8 110] ia 5 4 4 (4,5) rfl rfl;rw[←dp,←b6];have gk:=aa (d.o.new ad);have gF:=aa (dN (n:=n) d.o ad);have gL:Hid (WJ w k r fJ w1 r):=aa (i7 ad);have ds:=aa b5;have gP:=aa d.o.size_out;clear dp ad b5 b6 V cP c2 kc;go_wp2_with fail;refine((g4 (n:=n) 65 1 gk.o Hn.o.1 (cV.o ds.o (by simp[ia]) rfl gP.o) (by have h1:=Hn.o.2;simp only[ia,aj,ar];omega)).mono ?_);rintro e w2 ⟨rfl,r2,hI,hT,hJ⟩;have dF:=aa hI;have g0:=aa (ak d.o gF.o hT);have g8:=aa (bu gL.o (hJ.mono (by decide)));clear hI hT hJ;have ha:w2.cell? ⟨k.W,11,none⟩=some (.int .u64 (A:Nat)):=by rw[dF.o.cell 11 _ rfl];simp only[HA.o]
 have he:=iY;go_wp2_with fail;refine((jY n dF.o).mono ?_);rintro e w3 ⟨rfl,r3,hI,hT,hJ⟩;have dP:=aa hI;have hh:=aa (ak d.o g0.o hT);have hi:=aa (bu g8.o (hJ.mono (by decide)));clear hI hT hJ;have be:=dP.o.cell 44 _ rfl;clear ha;go_wp2_with fail;refine((sF n dP.o).mono ?_);rintro e w4 ⟨rfl,r4,hI,hT,hJ⟩;have bL:=aa hI;have hk:=aa (ak d.o hh.o hT);have ho:=aa (bu hi.o (hJ.mono (by decide)));clear hI hT hJ;clear he be;have c3:w4.cell? ⟨k.W,3,none⟩=some (.int .u64 (M:Nat)):=by rw[bL.o.cell 3 _ rfl];simp only[dk.o]
 go_wp2_with fail;go_still_tail 8,(by kernel_rfl)
 change wpList _ _ _ _ _ (World.drew _);go_wp2_with fail;refine((ku n M bL.o.drew (by omega) (by simp)).mono ?_);rintro e w5 ⟨rfl,r5,hI,hT,hJ⟩;have bM:=aa hI;have hp:=aa (ak d.o hk.o (ak bL.o (dt bL.o) hT));have hw:=aa (bu ho.o (bu (i7 (ae _).drew) (hJ.mono (by decide))));clear hI hT hJ;clear c3;have be:=bM.o.cell 44 _ rfl;go_wp2_with fail;go_still_tail 7,(by kernel_rfl)
 change wpList _ _ _ _ _ (World.drew _);go_wp2_with fail;refine((kw n bM.o.drew (by simp[cd])).mono ?_);rintro e w6 ⟨rfl,r6,hI,hT,hJ⟩;have cO:=aa hI;have hC:=aa (ak d.o hp.o (ak bM.o (dt bM.o) hT));have hE:=aa (bu hw.o (bu (i7 (ae _).drew) (hJ.mono (by decide))));clear hI hT hJ;clear be;have cY:Hid (([]:Bytes)++Lib.beBytes 4 M=Lib.beBytes 4 M++poB (fe A (es.take 0))):=aa (by simp[fe,poB]);have dT:Hid (iK ld 0 (([]:Bytes)++Lib.beBytes 4 M)=crc (Lib.beBytes 4 M++poB (fe A (es.take 0)))):=aa (by rw[cY.o];rfl);go_wp2_with fail;refine(iC cO.o (fI _ _)).mono ?_;rintro e _ ⟨q2,G6,N2,rfl,k3,hG,rfl⟩;go_wp2_with fail;refine((g4 (n:=n) 65 1 cO.o (by have h1:=Hn.o.1;simp only[ab];omega) (dD cO.o hG.o (fI _ _) (by decide) (by decide)) (by have h1:=Hn.o.2;simp only[ia,ab,aj,ar,cd];omega)).mono ?_);rintro e w7 ⟨rfl,r7,hI,hT,hJ⟩;have a0:=aa hI;have hH:=aa (ak d.o hC.o hT);have hQ:=aa (bu hE.o (hJ.mono (by decide)));clear hI hT hJ;simp only[dT.o]at a0;simp only[cY.o]at a0;clear dT cY;have c2:w7.cell? ⟨k.W,2,none⟩=some (ptr k.FPO 0):=by rw[a0.o.cell 2 _ rfl];simp only[cM.o]
 obtain⟨g,hg,ea⟩:∃g,r7.gPO=some g∧poB es≠[]:=by
  have eb:poB es≠[]:=by intro e;obtain⟨x,l,rfl⟩:=List.exists_cons_of_ne_nil gi.o;have:=congrArg List.length e;have h2:=Lib.uvarint_pos 2;simp only[poB,aY,ab,poE,ar]at this;omega
  obtain⟨v0,nm,_,hU⟩:=a0.o.fPO.blk;obtain⟨q,cap,_,hq⟩:=hU.shape (by simp only[HB.o];exact eb);exact⟨q,hq,eb⟩
 have Hg:=aa hg;have ef:=aa ea;clear hg ea;have eg:=tA k.FPO r7.gPO (poB es) w7 (by have:=a0.o.fPO;simp only[HB.o]at this;exact this);have ei:=aa eg;clear eg;go_wp2_with (go_at_call 200;refine ei.o.mono ?_;rintro e w8 ⟨Z,zv,rfl,hZ,hR,ej,hu⟩);have bg:=aa (a0.o.new hu);have cZ:=aa (ak d.o hH.o (dN a0.o hu));have el:Hid (WJ w k r fJ w8 r7):=aa (bu hQ.o (i7 hu));obtain⟨N,hNl⟩:∃N,N=(poB es).length:=⟨_,rfl⟩;have G9:=lX es (fun x W=>by have:=HE.o x W;omega);have hN2:N<10000000:=by have:=HM.o;omega
 obtain⟨off,cap,rfl,ep⟩:∃off cap,zv=.slice (some ⟨g,off,none⟩) N cap∧RdG w8 zv g (poB es):=by
  rw[Hg.o]at hR;obtain⟨q,cap,rfl,hq⟩:=hR.shape ef.o;cases hq;exact⟨0,cap,by rw[hNl],hR.rdG ef.o rfl (by
   rcases hR.own.2 with⟨e,_⟩|⟨q1,ks,kE,e1,_,_,hW,_⟩
   ·cases e
   ·cases e1;exact hW)⟩
 have ev:=aa ep;have eE:=aa hNl;have k4:=aa (a0.o.out_of ej);have HZ:=aa hZ;have k5:=aa ej;clear ep hNl G9 hZ hR hu c2;go_wp2_with fail;obtain⟨X,hX⟩:∃X,X=w8.heap.size:=⟨_,rfl⟩;have a1:Upd [] w8 (w8.alloc (.cells #[ptr Z 0] 235 (0,0))):=(ae w8).alloc _;have a5:(w8.alloc (.cells #[ptr Z 0] 235 (0,0))).heap[w8.heap.size]? =some (.cells #[ptr Z 0] 235 (0,0)):=an _;have bO:X<(w8.alloc (.cells #[ptr Z 0] 235 (0,0))).heap.size:=by rw[hX];exact lt_of_block a5
 have c6:=bg.o.size_out;have hY:Hid (∀x∈s.li,x.1≠X):=aa (fun x W e=>by have h1:=(bg.o.keys x W).1;rw[e,hX]at h1;exact absurd (ez h1) (cR _))
 have h0:Hid (w.heap.size≤X):=aa (by have h1:=cZ.o.upd.size;omega);rw[←hX]at a5 c6⊢;revert a1 a5 bO;generalize (w8.alloc (.cells #[ptr Z 0] 235 (0,0)))=G;intro a1 a5 bO;have h6:=aa c6;have eG:=aa bO;have eR:=aa a5;have a2:=aa (bg.o.new a1);have e0:=aa (ak d.o cZ.o (dN bg.o a1));have k7:Hid (WJ w k r fJ G r7):=aa (bu el.o (i7 a1));have bR:=aa (a1.blk HZ.o (by simp));have c7:=aa (ev.o.upd a1 (by simp));have cX:G.cell? ⟨X,0,none⟩=some (ptr Z 0):=by rw[af a5];rfl
 have c2:G.cell? ⟨k.W,2,none⟩=some (ptr k.FPO 0):=by rw[a2.o.cell 2 _ rfl];simp only[cM.o]
 obtain⟨N',e5,cN⟩:=a2.o.popos;have eN:N'=N:=by rw[e5.o,eE.o];simp only[HB.o]
 subst eN;clear hX a1 a5 bO c6 e5 bg cZ el ev HZ ei;go_cut [10]from 91 to 102 (fun v wx=>∃p,v=ptr p 0∧cm wx p g (poB es)∧G.heap.size≤p∧Upd [] G wx)
 case first=>
  have kX:=fun w' (hu:Upd [] G w')=>hu.cell (a:=⟨X,0,none⟩) (by simp) cX;have k2:=fun w' (hu:Upd [] G w')=>hu.cell (a:=⟨k.W,2,none⟩) (by simp) c2;have kN:=fun w' (hu:Upd [] G w')=>hu.cell (a:=⟨k.FPO,1,none⟩) (by simp) cN;have HK:=aa (And.intro kX (And.intro k2 kN));have Hd:Hid (∀w' o,Upd [] G w'→Upd [] G (w'.alloc o)):=aa (fun w' o h=>h.alloc o);have h7:=aa c7.o.lt;have n1:G.heap.size≠X:=by have:=eG.o;omega
  have n2:G.heap.size≠k.W:=by have:=a2.o.lt 0 _ rfl;omega
  have n3:G.heap.size≠k.FPO:=by have:=a2.o.lt 3 _ rfl;omega
  have h8:IntKind.i64.wrap ((N':Nat):Int)=(N':Int):=by rw[bo];omega
  have b7:∀w' x u,x=.iface 139 (.slice (some ⟨g,off,none⟩) N' cap)→u=.int .i64 N'→RdG w' (.slice (some ⟨g,off,none⟩) N' cap) g (poB es)→Calls prog 202 #[x,u] w' fun e c8=>∃v',e=.returned (.agg #[v',.nilIface])∧RdG c8 v' g (poB es)∧Upd [] w' c8:=fun w' x u W hu h=>by have e:=eE.o;subst W hu e;exact jk g _ (poB es) (poB es) [] w' h (by simp) (by omega)
  have e6:=aa b7;clear b7 kX k2 kN
  go_region_held3 (fun w'=>w'.cell? ⟨X,0,none⟩=some (ptr Z 0)∧w'.cell? ⟨k.W,2,none⟩=some (ptr k.FPO 0)∧w'.cell? ⟨k.FPO,1,none⟩=some (.int .u64 N')) (go_keep) (first
   |(go_at_call 201;refine(ma Z (.slice (some ⟨g,off,none⟩) N' cap) _ (by with_reducible first|exact bQ bR.o|exact bt _ (bQ bR.o)|exact bQ (bt _ bR.o))).mono ?_;rintro e _ ⟨rfl,rfl⟩)
   |(go_at_call 202;refine(e6.o _ _ _ (by with_reducible rfl) (by first|with_reducible rfl|(rw[h8])) (c7.o.upd (by with_reducible first|exact(ae _).drew|exact((ae _).drew).alloc _|exact((ae _).alloc _).drew) (by simp))).mono ?_;rintro e bb ⟨v',rfl,e7,bl⟩;have U:Hid (Upd [] G bb):=aa (by with_reducible first|exact((ae _).drew).then bl (fun _ h _=>h)|exact(((ae _).drew).alloc _).then bl (fun _ h _=>h)|exact(((ae _).alloc _).drew).then bl (fun _ h _=>h));have b8:=aa e7;obtain⟨o',c',rfl,h9,ih⟩:=e7;(try(have O:bb.heap[G.heap.size]? =some (.cells #[.slice none 0 0,.nilIface] 159 (0,0)):=bl.blk (by with_reducible first|exact an _|exact bQ (an _)|exact bQ (w:=G.alloc (.cells #[.slice none 0 0,.nilIface] 159 (0,0))) (an G)) (by simp);have d0:bb.cell? ⟨G.heap.size,0,none⟩=some (.slice none 0 0):=af O 0;have d1:bb.cell? ⟨G.heap.size,1,none⟩=some .nilIface:=af O 1;have f0:=ao O 0;have f1:=ao O 1;have HD:=aa O;clear O));clear bl h9 ih;have cX:=HK.o.1 _ U.o;have c2:=HK.o.2.1 _ U.o;have cN:=HK.o.2.2 _ U.o))
  all_goals
   go_wp2_with fail;go_meet
   have k8:=h7.o;have it:=U.o.size
   first
    |exact⟨_,rfl,⟨⟨_,an _,b8.o.upd ((ae _).alloc _) (by simp)⟩,by omega⟩,it,U.o.alloc _⟩
    |exact⟨_,rfl,⟨⟨_,au (au HD.o 0 _) 1 _,b8.o.upd ((((ae _).mono (M:=[G.heap.size]) (by simp)).setCell (fun _=>by simp) _).setCell (fun _=>by simp) _) (by simp only[ag];omega)⟩,by omega⟩,aw _,(U.o.setCell (fun h=>absurd h (cR _)) _).setCell (fun h=>absurd h (cR _)) _⟩
 case rest=>
  obtain⟨p,rfl,O,e8,bS⟩:=hcut;have bn:=aa (a2.o.new bS);have b9:=aa (ak d.o e0.o (dN a2.o bS));have ca:Hid (PF wc k r7 s.li X p g Z (poB es)):=aa ⟨O,bS.blk eR.o (by simp),a2.o.out_of e8,h6.o,congrArg some Hg.o,fun x W e=>by have h1:=(a2.o.keys x W).1;rw[e]at h1;have h2:p<G.heap.size:=ez h1;omega,by have:=eG.o;omega⟩
  have Hp:=aa (show w.heap.size≤p by have h1:=e0.o.upd.size;omega);clear O e8 bS eR bR c7 cX c2 cN;generalize wc=bb at*;have c3:bb.cell? ⟨k.W,3,none⟩=some (.int .u64 (M:Nat)):=by rw[bn.o.cell 3 _ rfl];simp only[dk.o]
  go_wp2_with fail;clear c3;go_loopw [11] (fun i wr=>∃j:Nat,j≤M∧i=.int .u64 ((M-j:Nat):Int)∧∃r' b1,WI wr k r' {s with bF:=s.bF++ia++(Lib.beBytes 4 M++poB (fe A (es.take j))),b1:=b1,crc:=crc (Lib.beBytes 4 M++poB (fe A (es.take j)))}∧WT w k r n wr r'∧PF wr k r' s.li X p g Z (poB (es.drop j))) (fun i _=>(intOf i).toNat)
  case atStart=>exact⟨0,ay _,rfl,r7,_,bn.o,b9.o,ca.o⟩
  case round=>
   obtain⟨j,hj,rfl,e9,i0,hI,hT,hF⟩:=hrel;have a3:=aa hI;have cc:=aa hT;have z:=aa hF;clear hI hT hF bn b9 ca;generalize wr=bd at*;by_cases la:j<M
   ·have hc:(0:Int)<((M-j:Nat):Int):=by omega
    have br:j<es.length:=by have:=HM.o;omega
    have W:=HE.o _ (aq br);have ht:=AN A es j br;have hd:=nN es j br;have fa:=lX (es.drop j) (fun x W=>by have:=HE.o x (iG W);omega);have htl:=lX (fe A (es.take j)) (fun x W=>by simp only[fe,bU]at W;obtain⟨y,hy,rfl⟩:=W;have:=HE.o y (dL hy);simp only;omega);rw[lW]at htl;have i3:=aa (aW htl (Nat.mul_le_mul_left 2020 (cH j es)));generalize es[j]=x at*;obtain⟨a,b,o⟩:=x;simp only at W ht hd;obtain⟨R,hR⟩:∃R,R=poB (es.drop (j+1)):=⟨_,rfl⟩;obtain⟨t2,ht2⟩:∃t,t=2:=⟨_,rfl⟩;obtain⟨B,hB⟩:∃B,B=o+A:=⟨_,rfl⟩;have c9:poB (es.drop j)=Lib.uvarint t2++(Lib.uvarint a.length++(a++(Lib.uvarint b.length++(b++(Lib.uvarint o++R))))):=by rw[hd,←hR,ht2];simp only[poE,ed,al]
    rw[cy,c9]at fa;have bW:Hid ((Lib.uvarint t2++(Lib.uvarint a.length++(a++(Lib.uvarint b.length++(b++(Lib.uvarint o++R)))))).length<10000000):=aa (by have:=HM.o;omega);have Hx:=aa W;have Ht:=aa ht;have HR:=aa hR;have H2:=aa ht2;have i4:=aa hB;have lb:B<200000000:=by omega
    have i5:IntKind.u64.wrap ((o:Int)+(A:Int))=(B:Int):=by rw[cK];omega
    have z:Hid (PF bd k e9 s.li X p g Z (Lib.uvarint t2++(Lib.uvarint a.length++(a++(Lib.uvarint b.length++(b++(Lib.uvarint o++R))))))):=aa (by rw[←c9];exact z.o);clear W ht hd fa htl hR ht2 hB c9;go_wp2_with (go_at_call 118;refine(je p g _ _ z.o.dec).mono ?_;rintro e _ ⟨rfl,rfl⟩);go_wp2_with fail;refine((jY n a3.o).mono ?_);rintro e lc ⟨rfl,ll,hI,hT,hJ⟩;have a6:=aa hI;have bv:=aa (ak d.o cc.o hT);have cg:=aa (z.o.next a3.o hT hJ);clear hI hT hJ;have V:=a6.o.cell 0 _ rfl;go_wp2_with fail
    go_region_held3 (fun w'=>w'.cell? ⟨k.W,0,none⟩=some (ptr k.F 0)) (go_keep) (first
     |(go_at_call 127;refine(fG p g t2 _ _ (cg.o.new (ae _).drew).dec (by have:=H2.o;omega) (by have:=bW.o;simp only[ab]at this⊢;omega)).mono ?_;rintro e lo ⟨rfl,O,hu⟩;have D:=cz hu;obtain⟨hI,hF⟩:=cg.o.step a6.o rfl O D;have a4:=aa hI;have fb:=aa hF;have bw:=aa (WT.later d.o bv.o D Hp.o);clear hI hF O hu D V;have V:=a4.o.cell 0 _ rfl)
     |(go_at_call 100;refine(Fj n t2 a4.o (by have:=H2.o;omega) (by simp)).mono ?_;rintro e dc ⟨rfl,fc,hI,hT,hJ⟩;have a7:=aa hI;have bA:=aa (ak d.o bw.o hT);have ck:=aa (fb.o.next a4.o hT hJ);clear hI hT hJ V;have V:=a7.o.cell 0 _ rfl))
    go_wp2_with fail
    go_region_held3 (fun w'=>w'.cell? ⟨k.W,0,none⟩=some (ptr k.F 0)) (go_keep) (first
     |(go_at_call 128;refine(dM p g a _ _ (ck.o.new (ae _).drew).dec (by have:=Hx.o;omega) (by have:=bW.o;simp only[ab]at this⊢;omega)).mono ?_;rintro e lq ⟨va,rfl,hr,O,hu⟩;have D:=cz hu;obtain⟨hI,hF⟩:=ck.o.step a7.o rfl O D;have bB:=aa hI;have fk:=aa hF;have fr:=aa (WT.later d.o bA.o D Hp.o);have j0:=aa hr;clear hr;clear hI hF O hu D V;have V:=bB.o.cell 0 _ rfl)
     |(go_at_call 129;refine(tw g va a _ j0.o).mono ?_;rintro e _ ⟨rfl,rfl⟩)
     |(go_at_call 94;refine(Ak n (str a) bB.o (by have:=Hx.o;rw[fx];omega) (by have h1:=H2.o;have h2:=bh t2 (by omega);have h3:=Hx.o;have h4:=bh (str a).size (by rw[fx];omega);simp only[ab,ar];omega)).mono ?_;rintro e lv ⟨rfl,l0,hI,hT,hJ⟩;have cn:=aa hI;have fs:=aa (ak d.o fr.o hT);have cp:=aa (fk.o.next bB.o hT hJ);clear hI hT hJ V;have V:=cn.o.cell 0 _ rfl))
    go_wp2_with fail
    go_region_held3 (fun w'=>w'.cell? ⟨k.W,0,none⟩=some (ptr k.F 0)) (go_keep) (first
     |(go_at_call 128;refine(dM p g b _ _ (cp.o.new (ae _).drew).dec (by have:=Hx.o;omega) (by have:=bW.o;simp only[ab]at this⊢;omega)).mono ?_;rintro e l1 ⟨vb,rfl,hr,O,hu⟩;have D:=cz hu;obtain⟨hI,hF⟩:=cp.o.step cn.o rfl O D;have bE:=aa hI;have ft:=aa hF;have fv:=aa (WT.later d.o fs.o D Hp.o);have j1:=aa hr;clear hr;clear hI hF O hu D V;have V:=bE.o.cell 0 _ rfl)
     |(go_at_call 129;refine(tw g vb b _ j1.o).mono ?_;rintro e _ ⟨rfl,rfl⟩)
     |(go_at_call 94;refine(Ak n (str b) bE.o (by have:=Hx.o;rw[fx];omega) (by have h1:=H2.o;have h2:=bh t2 (by omega);have h3:=Hx.o;have h4:=bh (str a).size (by rw[fx];omega);simp only[ab,ar,dG];omega)).mono ?_;rintro e l2 ⟨rfl,l3,hI,hT,hJ⟩;have cs:=aa hI;have fA:=aa (ak d.o fv.o hT);have ct:=aa (ft.o.next bE.o hT hJ);clear hI hT hJ V;have V:=cs.o.cell 0 _ rfl))
    go_wp2_with fail
    go_region_held3 (fun w'=>w'.cell? ⟨k.W,0,none⟩=some (ptr k.F 0)) (go_keep) (first
     |(go_at_call 130;refine(ju p g o _ _ (ct.o.new (ae _).drew).dec (by have:=Hx.o;omega) (by have:=bW.o;simp only[ab]at this⊢;omega)).mono ?_;rintro e l4 ⟨rfl,O,hu⟩;have D:=cz hu;obtain⟨hI,hF⟩:=ct.o.step cs.o rfl O D;have bK:=aa hI;have fE:=aa hF;have fN:=aa (WT.later d.o fA.o D Hp.o);clear hI hF O hu D V;have V:=bK.o.cell 0 _ rfl)
     |(go_at_call 106;refine(Al n B bK.o (by omega) (by have h1:=H2.o;have h2:=bh t2 (by omega);have h3:=Hx.o;have h4:=bh (str a).size (by rw[fx];omega);have h5:=bh (str b).size (by rw[fx];omega);simp only[ab,ar,dG];omega)).mono ?_;rintro e l5 ⟨rfl,l6,hI,hT,hJ⟩;have F:=aa hI;have fP:=aa (ak d.o fN.o hT);have f3:=aa (fE.o.next bK.o hT hJ);clear hI hT hJ V;have V:=F.o.cell 0 _ rfl))
    clear i5 V;have f4:([]:Bytes)++Lib.uvarint t2++(Lib.uvarint (str a).size++sb (str a))++(Lib.uvarint (str b).size++sb (str b))++Lib.uvarint B=poE a b B:=by rw[H2.o];simp[poE,ed,dG,fx]
    simp only[f4]at F;have f5:=aa (xi a b B (by have:=Hx.o;omega) (by have:=Hx.o;omega) (by omega));have cA:Hid (poE a b B≠[]):=aa (by rw[poE,←al,←al];exact Da _ _);clear f4;have be:=F.o.cell 44 _ rfl;go_wp2_with fail;go_still_tail 7,(by kernel_rfl)
    change wpList _ _ _ _ _ (World.drew _);go_wp2_with fail;refine((kw n F.o.drew (by have:=f5.o;simp only;omega)).mono ?_);rintro e l7 ⟨rfl,l8,hI,hT,hJ⟩;have a9:=aa hI;have f6:=aa (ak d.o fP.o (ak F.o (dt F.o) hT));have f7:=aa ((f3.o.new (ae _).drew).next F.o.drew hT hJ);clear hI hT hJ;clear be;go_wp2_with fail;refine(iC a9.o cA.o).mono ?_;rintro e _ ⟨q3,cap3,N3,rfl,mc,j2,rfl⟩;go_wp2_with fail;refine((g4 (n:=n) 65 1 a9.o (by have h1:=Hn.o.1;simp only[ab];omega) (dD a9.o j2.o cA.o (by decide) (by decide)) (by have h1:=Hn.o.2;have h2:=f5.o;have h3:=i3.o;have h4:=HM.o;simp only[ia,ab,aj,ar,cd];omega)).mono ?_);rintro e mn ⟨rfl,ke,hI,hT,hJ⟩;have f8:=aa hI;have f9:=aa (ak d.o f6.o hT);have ga:=aa (f7.o.next a9.o hT hJ);clear hI hT hJ;have mv:IntKind.u64.wrap (((M-j:Nat):Int)-1)=((M-(j+1):Nat):Int):=by rw[cK];omega
    go_wp2_with fail;refine⟨⟨j+1,by omega,rfl,ke,poE a b B,f8.o.cast ?_,f9.o,?_⟩,by simp only[intOf];omega⟩
    ·simp only[Ht.o,i4.o,rt,al]
    ·rw[←HR.o];exact ga.o
   ·obtain rfl:j=M:=by omega
    have et:es.take j=es:=by rw[HM.o,aS]
    have mA:X≠k.W:=fun e=>z.o.oX 0 (by rw[e];rfl);have cX:bd.cell? ⟨X,0,none⟩=some (ptr Z 0):=by rw[af z.o.box];rfl
    have fX:=ao z.o.box 0;have c2:bd.cell? ⟨k.W,2,none⟩=some (ptr k.FPO 0):=by rw[a3.o.cell 2 _ rfl];simp only[cM.o]
    have f2:=a3.o.free 2;have ad:Upd [X] bd (bd.setCell ⟨X,0,none⟩ (.pointer none)):=((ae bd).mono (M:=[X]) (by simp)).setCell (fun _=>by simp) _;have a6:=aa (a3.o.other ad (fun b hb=>by simp only[ag]at hb;subst hb;exact⟨z.o.oX,hY.o⟩));have bv:=aa (WT.later d.o cc.o ad h0.o);have cB:=au z.o.box 0 (.pointer none);have HS:=aa (a6.o.set_pPO n (.pointer none));have kp:=aa (lX (fe A es) (fun x W=>by simp only[fe,bU]at W;obtain⟨y,hy,rfl⟩:=W;have:=HE.o y hy;simp only;omega));have cE:=aa cB;clear ad cB
    go_wp2_with (first
     |(go_at_call 118;refine(je p g _ _ z.o.dec).mono ?_;rintro e _ ⟨rfl,rfl⟩)
     |(go_at_call 112;refine(qD Z _).mono ?_;rintro e _ ⟨rfl,rfl⟩)
     |(go_at_call 113;refine(pH k.FPO _).mono ?_;rintro e _ ⟨rfl,rfl⟩)
     |(go_at_call 209;refine(rM k.FPO _).mono ?_;rintro e _ ⟨rfl,rfl⟩))
    have a4:Hid (WI _ k e9 {s with bF:=s.bF++(ia++gf (fe A es)),b1:=i0,crc:=crc (gf (fe A es)),pPO:=.pointer none}):=aa (HS.o.1.cast (by simp only[et,gf,lW,←HM.o,al]));have bw:=aa (ak d.o bv.o HS.o.2);have gd:=aa (HS.o.2.keep cE.o z.o.oX);have dd:=aa (HS.o.2.o (lt_of_block cE.o) z.o.oX);have hr:=jM n s.bF (gf (fe A es)) a4.o rfl rfl Hn.o.1 (by have h1:=Hn.o.2;have h2:=kp.o;have h3:=HM.o;rw[lW]at h2;simp only[gf,ia,ab,aj,ar,cd];omega);rw[←HP.o]at hr;refine hr.mono ?_;rintro e dc ⟨rfl,kq,fc,hI,hT⟩;have a7:=aa hI;have bA:=aa (ak d.o bw.o hT);have cD:dc.cell? ⟨X,0,none⟩=some (.pointer none):=by rw[af (hT.keep gd.o dd.o)];rfl
    clear hI hT hr cX fX c2 f2;go_wp2_with fail;refine leaves_cons (f:=211) (args:= #[ptr X 0]) (by simp) (by simp[go_sem]) ?_;refine(AP X dc cD).mono ?_;rintro e u' c8 ⟨rfl,rfl,rfl⟩;exact⟨_,results_tmp rfl _ _ _,rfl,kq,crc (gf (fe A es)),fc,a7.o.cast (by simp only[HA.o]),bA.o⟩
end
section
open Go Go.RowKit Xc Go.Proofs.Tryz
attribute [local go_sem ↓] Go.wp_at_zero Go.wp_at_succ
variable {w:World} {k:WK} {r:WR} {s:WS}
theorem qC(Z:Nat)(w:World):
 CallsD prog 112 #[ptr Z 0] .returning w fun e d w'=>d=.returning∧(e=.returned .nilIface∧w'=w):=by
 go_enter_d func112,ntmps112
 go_wp2
 go_ret;exact⟨rfl,rfl⟩
theorem DS(g1 g2:Nat)(v1 v2:Value)(a b:Bytes)(B:Bool)(w:World)(h1:RdG w v1 g1 a)(d:RdG w v2 g2 b)(hB:decide (a=b)=B):Calls prog 207 #[v1,v2] w fun e w'=>e=.returned (.bool B)∧w=w':=by
 have c1:=h1.str;have c2:=d.str;have he:((str a).toList==(str b).toList)=B:=by have z:(str a).toList=a:=(bV _).trans (dG a);have A:(str b).toList=b:=(bV _).trans (dG b);rw[z,A,←hB,dR];simp
 clear h1 d hB;generalize str a=sa at*;generalize str b=sb' at*;go_enter func207,ntmps207
 go_wp2_with fail;go_ret;exact⟨rfl,rfl⟩
def cj(ids:List (ByteArray×Nat))(v:Bytes):Nat:=(aT (str v) ids).getD 0
theorem xx(n:Nat)(es:List (Bytes×Bytes×Nat))(ids:List (ByteArray×Nat))(h:WI w k r s)(c0:s.pPO=ptr k.FPO 0)(hb:s.bPO=poB es)(c6:s.cnt=es.length)(G5:es≠[])(fE:es.length<1000)(hes:∀x∈es,x.1.length<1000∧x.2.1.length<1000∧x.2.2<1000000)
 (hch:s.cache=eW .u32 ids)(hid:∀x∈es,x.1≠[]→(aT (str x.2.1) ids).isSome=true∧cj ids x.2.1<4294967296)(hn:n≤s.bF.length)(hl:s.bF.length<1000000)(dk:s.li.length<1000):
 Calls prog 156 #[ptr k.W 0] w fun e w'=>e=.returned .nilIface∧∃li' b1 c,li'.map (·.2)=s.li.map (·.2)++liP s.bF (jZ (fC (cj ids) es))∧WP w k r n {s with bF:=liF s.bF (jZ (fC (cj ids) es)),li:=li',b1:=b1,crc:=c} w':=by
 have D:=aa h;have gP:Hid (WT w k r n w r):=aa gZ;have Hn:=aa (And.intro hn hl);have HE:=aa hes;have HB:=aa hb;have fN:=aa G5;have fP:=aa c0;have dp:=aa hch;have bw:=aa hid;have ds:=aa dk;obtain⟨M,hM⟩:∃M,M=es.length:=⟨_,rfl⟩;rw[←hM]at fE c6;have HM:=aa hM;have fX:=aa c6;have c2:w.cell? ⟨k.W,2,none⟩=some (ptr k.FPO 0):=by rw[h.cell 2 _ rfl,c0]
 have g0:∀(fn:Fn) (first cap:Array Value) (w:World),(Instr.makeFunc fn first cap).run prog w=.ok (.func fn first cap) w:=fun _ _ _ _=>rfl;clear h hb G5 c0 c6 hn hl hM hes hch hid dk;obtain⟨g,hg,dF⟩:∃g,r.gPO=some g∧poB es≠[]:=by
  have dP:poB es≠[]:=by intro e;obtain⟨x,l,rfl⟩:=List.exists_cons_of_ne_nil fN.o;have:=congrArg List.length e;have h2:=Lib.uvarint_pos 2;simp only[poB,aY,ab,poE,ar]at this;omega
  obtain⟨v0,nm,_,f2⟩:=D.o.fPO.blk;obtain⟨q,cap,_,hq⟩:=f2.shape (by simp only[HB.o];exact dP);exact⟨q,hq,dP⟩
 have Hg:=aa hg;have dT:=aa dF;clear hg dF;go_enter_defers func156,ntmps156
 have ea:=tA k.FPO r.gPO (poB es) w (by have:=D.o.fPO;simp only[HB.o]at this;exact this);have eb:=aa ea;clear ea;go_wp2_with (first|(go_at_call 173;refine(jz _ _).mono ?_;rintro e _ ⟨rfl,rfl⟩)|(go_at_call 200;refine eb.o.mono ?_;rintro e w8 ⟨Z,zv,rfl,hZ,hR,ef,hu⟩));have bW:=aa (D.o.new hu);have eg:=aa (dN (n:=n) D.o hu);obtain⟨N,hNl⟩:∃N,N=(poB es).length:=⟨_,rfl⟩;have G9:=lX es (fun x hx=>by have:=HE.o x hx;omega);have hN2:N<10000000:=by have:=HM.o;omega
 obtain⟨off,cap,rfl,ei⟩:∃off cap,zv=.slice (some ⟨g,off,none⟩) N cap∧RdG w8 zv g (poB es):=by
  rw[Hg.o]at hR;obtain⟨q,cap,rfl,hq⟩:=hR.shape dT.o;cases hq;exact⟨0,cap,by rw[hNl],hR.rdG dT.o rfl (by
   rcases hR.own.2 with⟨e,_⟩|⟨q1,gi,gk,e1,_,_,f3,_⟩
   ·cases e
   ·cases e1;exact f3)⟩
 have ej:=aa ei;have el:=aa hNl;have g8:=aa (D.o.out_of ef);have HZ:=aa hZ;have he:=aa ef;clear ei hNl G9 hZ hR hu c2;go_wp2_with fail;have c2:w8.cell? ⟨k.W,2,none⟩=some (ptr k.FPO 0):=by rw[bW.o.cell 2 _ rfl];simp only[fP.o]
 obtain⟨N',ep,cN⟩:=bW.o.popos;have eN:N'=N:=by rw[ep.o,el.o];simp only[HB.o]
 subst eN;clear ep eb;have bv:=bW;have bA:=HZ;have c7:=ej;clear bW HZ ej;go_cut [6]from 36 to 47 (fun v wx=>∃p,v=ptr p 0∧cm wx p g (poB es)∧w8.heap.size≤p∧Upd [] w8 wx)
 case first=>
  have k2:=fun w' (hu:Upd [] w8 w')=>hu.cell (a:=⟨k.W,2,none⟩) (by simp) c2;have kN:=fun w' (hu:Upd [] w8 w')=>hu.cell (a:=⟨k.FPO,1,none⟩) (by simp) cN;have HK:=aa (And.intro k2 kN);have Hd:Hid (∀w' o,Upd [] w8 w'→Upd [] w8 (w'.alloc o)):=aa (fun w' o h=>h.alloc o);have f4:=aa c7.o.lt;have n2:w8.heap.size≠k.W:=by have:=bv.o.lt 0 _ rfl;omega
  have n3:w8.heap.size≠k.FPO:=by have:=bv.o.lt 3 _ rfl;omega
  have f5:IntKind.i64.wrap ((N':Nat):Int)=(N':Int):=by rw[bo];omega
  have b9:∀w' x u,x=.iface 139 (.slice (some ⟨g,off,none⟩) N' cap)→u=.int .i64 N'→RdG w' (.slice (some ⟨g,off,none⟩) N' cap) g (poB es)→Calls prog 202 #[x,u] w' fun e b5=>∃v',e=.returned (.agg #[v',.nilIface])∧RdG b5 v' g (poB es)∧Upd [] w' b5:=fun w' x u hx hu h=>by have e:=el.o;subst hx hu e;exact jk g _ (poB es) (poB es) [] w' h (by simp) (by omega)
  have ev:=aa b9;clear b9 k2 kN
  go_region_held3 (fun w'=>w'.cell? ⟨k.W,2,none⟩=some (ptr k.FPO 0)∧w'.cell? ⟨k.FPO,1,none⟩=some (.int .u64 N')) (go_keep) (first
   |(go_at_call 201;refine(ma Z (.slice (some ⟨g,off,none⟩) N' cap) _ (by with_reducible first|exact bQ bA.o|exact bt _ (bQ bA.o)|exact bQ (bt _ bA.o))).mono ?_;rintro e _ ⟨rfl,rfl⟩)
   |(go_at_call 202;refine(ev.o _ _ _ (by with_reducible rfl) (by first|with_reducible rfl|(rw[f5])) (c7.o.upd (by with_reducible first|exact(ae _).drew|exact((ae _).drew).alloc _|exact((ae _).alloc _).drew) (by simp))).mono ?_;rintro e F ⟨v',rfl,eR,bB⟩;have a5:Hid (Upd [] w8 F):=aa (by with_reducible first|exact((ae _).drew).then bB (fun _ h _=>h)|exact(((ae _).drew).alloc _).then bB (fun _ h _=>h)|exact(((ae _).alloc _).drew).then bB (fun _ h _=>h));have cc:=aa eR;obtain⟨o',c',rfl,f6,f7⟩:=eR;(try(have hD:F.heap[w8.heap.size]? =some (.cells #[.slice none 0 0,.nilIface] 159 (0,0)):=bB.blk (by with_reducible first|exact an _|exact bQ (an _)|exact bQ (w:=w8.alloc (.cells #[.slice none 0 0,.nilIface] 159 (0,0))) (an w8)) (by simp);have d0:F.cell? ⟨w8.heap.size,0,none⟩=some (.slice none 0 0):=af hD 0;have d1:F.cell? ⟨w8.heap.size,1,none⟩=some .nilIface:=af hD 1;have f0:=ao hD 0;have f1:=ao hD 1;have HD:=aa hD;clear hD));clear bB f6 f7;have c2:=HK.o.1 _ a5.o;have cN:=HK.o.2 _ a5.o))
  all_goals
   go_wp2_with fail;go_meet
   have hh:=f4.o;have f8:=a5.o.size
   first
    |exact⟨_,rfl,⟨⟨_,an _,cc.o.upd ((ae _).alloc _) (by simp)⟩,by omega⟩,f8,a5.o.alloc _⟩
    |exact⟨_,rfl,⟨⟨_,au (au HD.o 0 _) 1 _,cc.o.upd ((((ae _).mono (M:=[w8.heap.size]) (by simp)).setCell (fun _=>by simp) _).setCell (fun _=>by simp) _) (by simp only[ag];omega)⟩,by omega⟩,aw _,(a5.o.setCell (fun h=>absurd h (cR _)) _).setCell (fun h=>absurd h (cR _)) _⟩
 case rest=>
  obtain⟨p,rfl,hD,e0,b6⟩:=hcut;have a1:=aa (bv.o.new b6);have bE:=aa (ak D.o eg.o (dN bv.o b6));have hk:Hid (∀x∈s.li,x.1≠p):=aa (fun x hx e=>by have h1:=(bv.o.keys x hx).1;rw[e]at h1;have h2:p<w8.heap.size:=ez h1;omega)
  have f9:=aa (bv.o.out_of e0);have bK:=aa hD;have Hp:=aa (show w.heap.size≤p by have h1:=eg.o.upd.size;omega);have gF:=aa (b6.blk bA.o (by simp));clear hD e0 b6 bA c7 c2 cN;generalize wc=F at*;have c3:F.cell? ⟨k.W,3,none⟩=some (.int .u64 (M:Nat)):=by rw[a1.o.cell 3 _ rfl];simp only[fX.o]
  go_wp2_with fail;obtain⟨bL,cg,bl,hX,hY,e5⟩:=j8 F (.cells #[] 5 (0,0)) (.cells #[] 224 (0,0));rw[←cg];have G3:gR bL (.slice (some ⟨F.heap.size+1,0,none⟩) 0 0) (F.heap.size+1) []:=gR.made hY (by decide)
  have ck:Hid (LIR w k r s n p g [] [] (poB es) bL r s.li s.b1 s.crc (F.heap.size+1) (.slice (some ⟨F.heap.size+1,0,none⟩) 0 0)):=aa
   ⟨a1.o.new bl,ak D.o bE.o (dN a1.o bl),⟨bK.o.upd bl (by simp) (by simp),f9.o,congrArg some Hg.o⟩,by simp[liP],G3,a1.o.out_of (by omega),
    by have:p<F.heap.size:=(by obtain⟨v,hb,_⟩:=bK.o.blk;exact lt_of_block hb);omega,fun x hx e=>by have h1:x.1<F.heap.size:=ez (a1.o.keys x hx).1;omega,by have:=bE.o.upd.size;omega,Hp.o⟩
  have cn:Hid (ph bL (.slice (some ⟨F.heap.size,0,none⟩) 0 0) g []):=aa (.inl ⟨rfl,_,_,rfl,by omega⟩);clear hX hY G3 e5 bl cg a1 bE bK c3;go_loopw [7,8,9] (fun i c v wr=>∃j:Nat,j≤M∧i=.int .u64 ((M-j:Nat):Int)∧∃r' li' b1 cr q,ph wr c g (fC (cj ids) (es.take j)).cur∧LIR w k r s n p g (fC (cj ids) (es.take j)).o (fC (cj ids) (es.take j)).vals (poB (es.drop j)) wr r' li' b1 cr q v) (fun i _ _ _=>(intOf i).toNat)
  case atStart=>exact⟨0,ay _,rfl,r,s.li,s.b1,s.crc,_,cn.o,ck.o⟩
  case round=>
   obtain⟨j,hj,rfl,e6,cp,e7,cs,q,hC,hL⟩:=hrel;have a2:=aa hC;have d:=aa hL;clear hC hL ck cn bL;generalize wr=bL at*;by_cases ho:j<M
   ·have hc:(0:Int)<((M-j:Nat):Int):=by omega
    have bM:j<es.length:=by have:=HM.o;omega
    have hmem:=aq bM;have hx:=HE.o _ hmem;have c8:=bw.o _ hmem;have ht:=vV (cj ids) es j bM;have hd:=nN es j bM;have e8:=lX (es.drop j) (fun x hx=>by have:=HE.o x (iG hx);omega);have bd:=sI (cj ids) (es.take j);have be:=kA (cj ids) (es.take j);have e9:(es.take j).length≤j:=cH j es;have bg:∀v∈(fC (cj ids) (es.take j)).vals,v<4294967296:=fun v hv=>by obtain⟨x,hx,h1,rfl⟩:=pY _ _ v hv;exact(bw.o x (dL hx) h1).2
    generalize es[j]=x at*;obtain⟨a,b,o⟩:=x;simp only at hx c8 ht hd;obtain⟨G',c9⟩:∃G',G'=fC (cj ids) (es.take (j+1)):=⟨_,rfl⟩;rw[←c9]at ht;have fa:=aa c9;clear c9;generalize fC (cj ids) (es.take j)=G at*;obtain⟨cur,vals,out⟩:=G;simp only at*;obtain⟨R,hR⟩:∃R,R=poB (es.drop (j+1)):=⟨_,rfl⟩;obtain⟨t2,ht2⟩:∃t,t=2:=⟨_,rfl⟩;have dc:poB (es.drop j)=Lib.uvarint t2++(Lib.uvarint a.length++(a++(Lib.uvarint b.length++(b++(Lib.uvarint o++R))))):=by rw[hd,←hR,ht2];simp only[poE,ed,al]
    rw[cy,dc]at e8;have b7:Hid ((Lib.uvarint t2++(Lib.uvarint a.length++(a++(Lib.uvarint b.length++(b++(Lib.uvarint o++R)))))).length<10000000):=aa (by have:=HM.o;omega);have Hx:=aa hx;have ga:=aa c8;have Ht:=aa ht;have HR:=aa hR;have H2:=aa ht2;have ad:=aa (And.intro bd (And.intro be (And.intro e9 bg)));rw[dc]at d;clear hx c8 ht hd e8 hR ht2 dc bd be e9 bg hmem;go_wp2_with (go_at_call 118;refine(je p g _ _ d.o.pg.dec).mono ?_;rintro e _ ⟨rfl,rfl⟩);refine(fG p g t2 _ _ d.o.pg.dec (by have:=H2.o;omega) (by have:=b7.o;simp only[ab]at this⊢;omega)).mono ?_;rintro e hp ⟨rfl,hD,hu⟩;have bn:=aa (d.o.step D.o hD hu);have ct:=aa (a2.o.upd hu (by simpa using d.o.gp));clear hD hu;go_wp2_with fail;refine(dM p g a _ _ bn.o.pg.dec (by have:=Hx.o;omega) (by have:=b7.o;simp only[ab]at this⊢;omega)).mono ?_;rintro e hy ⟨va,rfl,hr,hD,hu⟩;have a6:=aa (bn.o.step D.o hD hu);have cA:=aa (ct.o.upd hu (by simpa using bn.o.gp));have cB:=aa hr;clear hD hu hr;go_wp2_with fail;refine(dM p g b _ _ a6.o.pg.dec (by have:=Hx.o;omega) (by have:=b7.o;simp only[ab]at this⊢;omega)).mono ?_;rintro e hA ⟨vb,rfl,hr,hD,hu⟩;have a3:=aa (a6.o.step D.o hD hu);have cD:=aa (cA.o.upd hu (by simpa using a6.o.gp));have cE:=aa (cB.o.upd hu (by simpa using a6.o.gp));have cF:=aa hr;clear hD hu hr;go_wp2_with fail;refine(ju p g o _ _ a3.o.pg.dec (by have:=Hx.o;omega) (by have:=b7.o;simp only[ab]at this⊢;omega)).mono ?_;rintro e fb ⟨rfl,hD,hu⟩;have z:=aa (a3.o.step D.o hD hu);have a7:=aa (cD.o.upd hu (by simpa using a3.o.gp));have U:=aa (cE.o.upd hu (by simpa using a3.o.gp));have a4:=aa (cF.o.upd hu (by simpa using a3.o.gp));clear hD hu d a2 bn ct a6 cA a3 cD cB cE cF;have gd:IntKind.u64.wrap (((M-j:Nat):Int)-1)=((M-(j+1):Nat):Int):=by rw[cK];omega
    have cL:Value.int .u64 (((M-j:Nat):Int)-1)=.int .u64 ((M-(j+1):Nat):Int):=by congr 1;omega
    rw[cL];clear gd cL;obtain⟨oa,ca,rfl,_⟩:=id U.o;by_cases ha:a=[]
    ·subst ha;have eG:=Ht.o;simp only[eS,if_true]at eG;subst eG;clear Ht;go_wp2_with fail;refine⟨⟨j+1,by omega,rfl,e6,cp,e7,cs,q,?_⟩,by simp only[intOf];omega⟩;rw[←fa.o,←HR.o];exact⟨a7.o,z.o⟩
    ·have hz:0<a.length:=List.length_pos_iff.2 ha;have hE:((a.length:Int)==0)=false:=by simp;exact ha
     have Ha:=aa ha;clear ha;obtain⟨c,cM⟩:=a7.o.some;have W:=aa cM;clear cM;obtain⟨cap,rfl⟩:=z.o.row.shape;obtain⟨V,hV⟩:∃V,V=vals.length:=⟨_,rfl⟩;rw[←hV]at z⊢;have HV:=aa hV;clear hV;have h3:(a≠cur∧vals≠[])∨(decide (a=cur)=true)∨(decide (a=cur)=false∧vals=[]):=by
      by_cases h1:a=cur
      ·exact .inr (.inl (by simpa using h1))
      ·by_cases h2:vals=[]
       ·exact .inr (.inr ⟨by simpa using h1,h2⟩)
       ·exact .inl ⟨h1,h2⟩
     rcases h3 with hw|hw|hw;case' inl=>
      obtain⟨dd,a0⟩:=hw;have bO:0<V:=by rw[HV.o];exact List.length_pos_iff.2 a0
      have eG:=Ht.o;rw[eS,if_neg Ha.o,if_pos ⟨dd,a0⟩]at eG;have fc:decide (a=cur)=false:=by simpa using dd
      have a9:=aa fc;have b8:Hid (G'=⟨a,[]++[cj ids b],out++[(cur,vals)]⟩):=aa eG;have bR:=aa a0;clear dd a0 fc eG Ht;have bS:=W.o.str;go_wp2_with (go_at_call 207;refine(DS g c _ u8 a cur false _ U.o W.o a9.o).mono ?_;rintro e _ ⟨rfl,rfl⟩);refine(k9 n q _ vals (str cur) z.o.wi z.o.row.at_ z.o.oq (ad.o.2.2.2) (by have h1:=ad.o;omega) (by have h1:=pZ out s.bF;have h2:=Hn.o.1;simp only;omega) (by have h1:=sK out s.bF;have h2:=Hn.o.2;have h3:=ad.o;simp only;omega) (by have h1:=congrArg List.length z.o.li;have h2:=nG out s.bF;have h3:=ad.o;have h4:=ds.o;simp only[aB,ab]at h1;simp only;omega)).mono ?_;rintro e O ⟨rfl,q2,fk,cO,hP⟩;obtain⟨fr,cP,hL,hJ⟩:=z.o.wrote D.o bR.o hP;have A:=aa hL;have bb:=aa (U.o.upd hJ.upd (nin z.o.wi.dis (i:=10) z.o.pg.og (by decide)));have br:=aa (a4.o.upd hJ.upd (nin z.o.wi.dis (i:=10) z.o.pg.og (by decide)));clear hP hL hJ bS z a7 W U a4 a9 bR bO HV;go_wp2_with fail;obtain⟨V0,hV⟩:∃V:Nat,V=0:=⟨_,rfl⟩;rw[show Value.slice (some ⟨q,0,none⟩) 0 cap=Value.slice (some ⟨q,0,none⟩) V0 cap by rw[hV]]at A⊢;clear hV
     case' inr.inl=>
      have eG:=Ht.o;rw[eS,if_neg Ha.o,if_neg (fun h=>h.1 (by simpa using hw))]at eG;have b8:=aa eG;have a9:=aa hw;clear hw eG Ht;obtain⟨O,rfl⟩:∃O,O=fb:=⟨_,rfl⟩;have A:=z;have bb:=U;have br:=a4;clear z U a4;go_wp2_with (go_at_call 207;refine(DS g c _ u8 a cur true _ bb.o W.o a9.o).mono ?_;rintro e _ ⟨rfl,rfl⟩);clear a7 W a9 HV
     case' inr.inr=>
      have eG:=Ht.o;rw[eS,if_neg Ha.o,if_neg (fun h=>h.2 hw.2)]at eG;have b8:=aa eG;have a9:=aa hw.1;have bO:V≤0:=by rw[HV.o,hw.2];exact aw _
      clear hw eG Ht HV;obtain⟨O,rfl⟩:∃O,O=fb:=⟨_,rfl⟩;have A:=z;have bb:=U;have br:=a4;clear z U a4;go_wp2_with (go_at_call 207;refine(DS g c _ u8 a cur false _ bb.o W.o a9.o).mono ?_;rintro e _ ⟨rfl,rfl⟩);clear a7 W a9 bO
     all_goals
      have dj:=A.o.wi.cell 38 _ rfl;obtain⟨hm,hi⟩:=ga.o Ha.o;obtain⟨id,hid⟩:=Option.isSome_iff_exists.1 hm;have cX:cj ids b=id:=by rw[cj,hid];rfl
      rw[cX]at b8;have gg:(Instr.lookup 236 (.map (some k.MC)) (.string (str b)) true).run prog O=.ok (.tuple #[.int .u32 (id:Nat),.bool true]) O:=by have:=ie A.o.wi dp.o (str b) true;rw[hid]at this;exact this
      have fs:(Instr.lookup 236 (.map (some k.MC)) (.string (str b)) true).run prog O.drew=.ok (.tuple #[.int .u32 (id:Nat),.bool true]) O.drew:=by have:=ie A.o.wi.drew dp.o (str b) true;rw[hid]at this;exact this
      have bS:=br.o.str;have cY:=br.o.drew.str;have gL:=aa hi;clear hm hid hi cX;go_region_held3 (fun w'=>w'.cell? ⟨k.W,38,none⟩=some (.map (some k.MC))∧(convert 65 9 vb).run prog w'=.ok (.string (str b)) w') (first|exact⟨dj,bS⟩|exact⟨by simpa using dj,cY⟩|go_keep) (fail)
      have cZ:Upd [] O (O.alloc (.cells #[.int .u32 (id:Nat)] 224 (0,0))).drew:=((ae _).alloc _).drew;obtain⟨g',cap',hF,ft,G3,hu,hg⟩:=ta A.o.row cZ id O.heap.size (an _) (by have h1:=ad.o;first|omega|(simp only[ar];omega));clear cZ gg fs bS cY dj;go_wp2_with (at_builtin;refine bc rfl _ _ _ rfl _ _ _ _ rfl rfl ft.o ?_);have fv:=A.o.turn D.o hu.o G3.o hg.o;have fA:=bb.o.upd hu.o (by simpa using A.o.gq);refine⟨⟨j+1,by omega,rfl,?_⟩,by simp only[intOf];omega⟩;rw[←fa.o,←HR.o,b8.o];exact⟨_,_,_,_,g',.inr fA,fv⟩
   ·obtain rfl:j=M:=by omega
    have et:es.take j=es:=by rw[HM.o,aS]
    rw[et]at a2 d;have bd:=sI (cj ids) es;have be:=kA (cj ids) es;have bg:∀v∈(fC (cj ids) es).vals,v<4294967296:=fun v hv=>by obtain⟨x,hx,h1,rfl⟩:=pY _ _ v hv;exact(bw.o x hx h1).2
    obtain⟨G,hG⟩:∃G,G=fC (cj ids) es:=⟨_,rfl⟩;rw[←hG]at bd be bg a2 d;have HG:=aa hG;obtain⟨cur,vals,out⟩:=G;simp only at bd be bg a2 d;have ad:=aa (And.intro bd (And.intro be bg));clear bd be bg hG et;obtain⟨c,hC⟩:=a2.o.some;have HC:=aa hC;obtain⟨cap,rfl⟩:=d.o.row.shape;obtain⟨V,hV⟩:∃V,V=vals.length:=⟨_,rfl⟩;rw[←hV]at d⊢;have HV:=aa hV;have bS:=hC.str;clear hV hC;by_cases a0:vals=[]
    ·have bO:V≤0:=by rw[HV.o,a0];exact aw _
     go_wp2_with (first|(go_at_call 118;refine(je p g _ _ d.o.pg.dec).mono ?_;rintro e _ ⟨rfl,rfl⟩));have eE:jZ (fC (cj ids) es)=out:=by rw[←HG.o,jZ,if_pos a0]
     rw[eE];refine leaves_cons (f:=112) (args:= #[ptr Z 0]) (by simp) (by simp[go_sem]) ?_;refine(qC Z _).mono ?_;rintro e u' b5 ⟨rfl,rfl,rfl⟩;exact⟨_,results_tmp rfl _ _ _,rfl,cp,e7,cs,d.o.li,e6,d.o.wi,d.o.wt⟩
    ·have bO:0<V:=by rw[HV.o];exact List.length_pos_iff.2 a0
     have bR:=aa a0;clear a0;go_wp2_with (first|(go_at_call 118;refine(je p g _ _ d.o.pg.dec).mono ?_;rintro e _ ⟨rfl,rfl⟩));refine(k9 n q _ vals (str cur) d.o.wi d.o.row.at_ d.o.oq (ad.o.2.2) (by have h1:=ad.o;have h2:=HM.o;omega) (by have h1:=pZ out s.bF;have h2:=Hn.o.1;simp only;omega) (by have h1:=sK out s.bF;have h2:=Hn.o.2;have h3:=ad.o;have h4:=HM.o;simp only;omega) (by have h1:=congrArg List.length d.o.li;have h2:=nG out s.bF;have h3:=ad.o;have h4:=ds.o;have h5:=HM.o;simp only[aB,ab]at h1;simp only;omega)).mono ?_;rintro e O ⟨rfl,q2,fk,cO,hP⟩;obtain⟨fr,cP,hL,hJ⟩:=d.o.wrote D.o bR.o hP;have A:=aa hL;clear hL hJ hP;go_wp2_with fail;have eE:jZ (fC (cj ids) es)=out++[(cur,vals)]:=by rw[←HG.o,jZ,if_neg bR.o]
     rw[eE];refine leaves_cons (f:=112) (args:= #[ptr Z 0]) (by simp) (by simp[go_sem]) ?_;refine(qC Z _).mono ?_;rintro e u' b5 ⟨rfl,rfl,rfl⟩;exact⟨_,results_tmp rfl _ _ _,rfl,cP,fk,cO,A.o.li,fr,A.o.wi,A.o.wt⟩
end
end Go.Proofs.YtlgefdfflmgocaaGreatDoor
