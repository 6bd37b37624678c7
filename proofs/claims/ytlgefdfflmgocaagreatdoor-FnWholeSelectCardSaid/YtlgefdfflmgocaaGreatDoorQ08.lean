import Derived.Test.YtlgefdfflmgocaaGreatDoorQ07
set_option linter.all false
set_option maxRecDepth 100000
set_option maxHeartbeats 4000000
namespace Go.Proofs.YtlgefdfflmgocaaGreatDoor
open Go Go.RowKit Xc Go.Proofs.Tryz
attribute [local go_sem ↓] Go.wp_at_zero Go.wp_at_succ
theorem BEP.set{w:World}{X g:Nat}{z A:Value}{x:Nat}{xs:List Nat}{o cap n:Nat}(hb:w.heap[X]? =some (.cells #[z,A] 349 (0,0)))(hr:RdG w (.slice (some ⟨g,o,none⟩) n cap) g (fZ xs))(hn:n=4*xs.length)(G5:g≠X):
 BEP ((w.setCell ⟨X,1,none⟩ (.int .u32 (x:Nat))).setCell ⟨X,0,none⟩ (.slice (some ⟨g,o,none⟩) n cap)) X g x xs∧Upd [X] w ((w.setCell ⟨X,1,none⟩ (.int .u32 (x:Nat))).setCell ⟨X,0,none⟩ (.slice (some ⟨g,o,none⟩) n cap)):=by
 subst hn;have d:Upd [X] w ((w.setCell ⟨X,1,none⟩ (.int .u32 (x:Nat))).setCell ⟨X,0,none⟩ (.slice (some ⟨g,o,none⟩) (4*xs.length) cap)):=(((ae w).mono (by simp)).setCell (by simp) _).setCell (by simp) _;exact⟨⟨o,cap,au (au hb 1 _) 0 _,hr.upd d (by simpa using G5)⟩,d⟩
theorem RdG.rest4{w:World}{g o cap n k:Nat}{xs:List Nat}(h:RdG w (.slice (some ⟨g,o,none⟩) n cap) g (fZ xs))(hn:n=4*xs.length)(V:k≤xs.length)(A:Nat)(D:k<xs.length→A=o+4*k):
 RdG w (.slice (some ⟨g,A,none⟩) (n-4*k) (cap-4*k)) g (fZ (xs.drop k)):=by
 obtain⟨off,c2,e,F,d⟩:=h;simp only[bx,aM,eD,and_true,true_and]at e;obtain⟨rfl,e2,rfl⟩:=e;have G:=gq xs;have z:=gq (xs.drop k);rw[cy]at z;have O:fZ (xs.drop k)=(fZ xs).drop (4*k):=by
  have h1:fZ xs=fZ (xs.take k)++fZ (xs.drop k):=by unfold fZ;rw[←aU,aI]
  have U:(fZ (xs.take k)).length=4*k:=by rw[gq,aZ];omega
  rw[h1,←U,eZ]
 have:=RdG.sub (g:=g) (off':=A) (cap':=cap-4*k) (l:=fZ (xs.drop k)) d (4*k) (fun G5=>D (by have:=List.length_pos_iff.2 G5;omega)) (by rw[O,bG (aw _)]) (by omega) F.2;rw[z]at this;rw[show n-4*k=4*(xs.length-k) by omega];exact this
theorem BL(X g cur x:Nat)(xs:List Nat)(w:World)(h:BEP w X g cur (x::xs))(hx:x<4294967296)(hg:g≠X)(hl:xs.length<100000):
 Calls prog 314 #[ptr X 0] w fun e w'=>e=.returned (.bool true)∧BEP w' X g x xs∧Upd [X] w w':=by
 obtain⟨o,cap,hb,hR⟩:=h.blk;obtain⟨N,hN⟩:∃N,N=xs.length:=⟨_,rfl⟩;have e4:4*(x::xs).length=4*N+4:=by rw[aj,hN];omega
 rw[e4]at hb hR;have ad:4*N+4≤cap:=by obtain⟨_,_,e,hc,_⟩:=id hR;simp only[bx]at e;obtain⟨_,e2,e3⟩:=e;rw[←e2,←e3]at hc;exact hc.1
 have c0:w.cell? ⟨X,0,none⟩=some (.slice (some ⟨g,o,none⟩) (4*N+4) cap):=af hb 0;have HB:=aa hb;have HR:=aa hR;have A:=aa hN;have a1:N<100000:=by omega
 clear h hb hR e4;have D:fZ (x::xs)=Lib.beBytes 4 x++fZ xs:=rfl;have V:Hid (RdG w (.slice (some ⟨g,o,none⟩) (4*N+4) cap) g (Lib.beBytes 4 x++fZ xs)):=aa (by rw[←D];exact HR.o);clear D hN;go_enter func314,ntmps314
 go_wp2_with fail;go_region_with (go_at_call 120;refine(qE g x _ (fZ xs) _ V.o.drew hx).mono ?_;rintro e w2 ⟨rfl,F⟩;have d:=aa (cz F);clear F;have c0:=d.o.cell (by simp) c0;have z:=aa (d.o.blk HB.o (by simp));have f0:=ao z.o 0;have f1:=ao z.o 1;have c1:w2.cell? ⟨X,1,none⟩=some (.int .u32 cur):=af z.o 1)
 all_goals
  have G:=aa (HR.o.upd d.o (by simp));by_cases O:cap=4
  ·have K:=BEP.set (x:=x) z.o (G.o.rest4 (by rw[aj];have:=A.o;omega) (k:=1) (by simp) o (fun h=>by have:=A.o;simp at h;omega)) (by simp only[List.drop_one,List.tail_cons];have:=A.o;omega) hg;have U:=aa K;clear K;subst O;have W:N=0:=by omega
   subst W;go_wp2_with fail;go_ret;exact⟨rfl,U.o.1,(d.o.mono (by simp)).then U.o.2 (fun i hi _=>hi)⟩
  ·have K:=BEP.set (x:=x) z.o (G.o.rest4 (by rw[aj];have:=A.o;omega) (k:=1) (by simp) (o+4*1) (fun _=>rfl)) (by simp only[List.drop_one,List.tail_cons];have:=A.o;omega) hg;have U:=aa K;clear K;have a0:(cap=4)=False:=by simp[O]
   go_wp2_with fail;go_ret;exact⟨rfl,U.o.1,(d.o.mono (by simp)).then U.o.2 (fun i hi _=>hi)⟩
section
variable {w:World} {k:WK} {r:WR} {s:WS}
def jJ(a b c d e f:Nat):Bytes:=Lib.beBytes 8 a++(Lib.beBytes 8 b++(Lib.beBytes 8 c++(Lib.beBytes 8 d++(Lib.beBytes 8 e++Lib.beBytes 8 f))))
def kd(body:Bytes):Bytes:=body++Lib.beBytes 4 (crc body)
theorem uW(n:Nat)(h:WI w k r s)(hn:n≤s.bF.length)(hl:s.bF.length<100000000)(h0:s.t0<1000000000)(h1:s.t1<1000000000)(h2:s.t2<1000000000)(h3:s.t3<1000000000)(h4:s.t4<1000000000)(h5:s.t5<1000000000):
 Calls prog 160 #[ptr k.W 0] w fun e w'=>e=.returned .nilIface∧∃b1 c,WP w k r n {s with bF:=s.bF++kd (jJ s.t0 s.t1 s.t2 s.t3 s.t4 s.t5),b1:=b1,crc:=c} w':=by
 have d:=aa h;have ad:Hid (WT w k r n w r):=aa gZ;have Hn:=aa (And.intro hn hl);have H0:=aa h0;have H1:=aa h1;have H2:=aa h2;have H3:=aa h3;have H4:=aa h4;have H5:=aa h5;clear h hn hl h0 h1 h2 h3 h4 h5;go_enter func160,ntmps160
 go_wp2_with fail;refine((iZ n d.o).mono ?_);rintro e w1 ⟨rfl,r1,hI,hT⟩;have A:=aa hI;have a0:=aa (ak d.o ad.o hT);clear hI hT;have c4:=A.o.cell 4 _ rfl;go_wp2_with fail;go_still_tail 8,(by kernel_rfl)
 change wpList _ _ _ _ _ (World.drew _);go_wp2_with fail;refine((oA n s.t0 A.o.drew (by have:=H0.o;omega) (by simp)).mono ?_);rintro e w2 ⟨rfl,r2,hI,hT⟩;have D:=aa hI;have a1:=aa (ak d.o a0.o (ak A.o (dt A.o) hT));clear hI hT;clear c4;have c5:=D.o.cell 5 _ rfl;go_wp2_with fail;go_still_tail 8,(by kernel_rfl)
 change wpList _ _ _ _ _ (World.drew _);go_wp2_with fail;refine((oA n s.t1 D.o.drew (by have:=H1.o;omega) (by simp[km])).mono ?_);rintro e w3 ⟨rfl,r3,hI,hT⟩;have F:=aa hI;have a2:=aa (ak d.o a1.o (ak D.o (dt D.o) hT));clear hI hT;clear c5;have c6:=F.o.cell 6 _ rfl;go_wp2_with fail;go_still_tail 8,(by kernel_rfl)
 change wpList _ _ _ _ _ (World.drew _);go_wp2_with fail;refine((oA n s.t2 F.o.drew (by have:=H2.o;omega) (by simp[km])).mono ?_);rintro e w4 ⟨rfl,r4,hI,hT⟩;have G:=aa hI;have a3:=aa (ak d.o a2.o (ak F.o (dt F.o) hT));clear hI hT;clear c6;have c7:=G.o.cell 7 _ rfl;go_wp2_with fail;go_still_tail 8,(by kernel_rfl)
 change wpList _ _ _ _ _ (World.drew _);go_wp2_with fail;refine((oA n s.t3 G.o.drew (by have:=H3.o;omega) (by simp[km])).mono ?_);rintro e w5 ⟨rfl,r5,hI,hT⟩;have O:=aa hI;have a4:=aa (ak d.o a3.o (ak G.o (dt G.o) hT));clear hI hT;clear c7;have c8:=O.o.cell 8 _ rfl;go_wp2_with fail;go_still_tail 8,(by kernel_rfl)
 change wpList _ _ _ _ _ (World.drew _);go_wp2_with fail;refine((oA n s.t4 O.o.drew (by have:=H4.o;omega) (by simp[km])).mono ?_);rintro e w6 ⟨rfl,r6,hI,hT⟩;have U:=aa hI;have a5:=aa (ak d.o a4.o (ak O.o (dt O.o) hT));clear hI hT;clear c8;have c9:=U.o.cell 9 _ rfl;go_wp2_with fail;go_still_tail 8,(by kernel_rfl)
 change wpList _ _ _ _ _ (World.drew _);go_wp2_with fail;refine((oA n s.t5 U.o.drew (by have:=H5.o;omega) (by simp[km])).mono ?_);rintro e w7 ⟨rfl,r7,hI,hT⟩;have z:=aa hI;have a6:=aa (ak d.o a5.o (ak U.o (dt U.o) hT));clear hI hT;clear c9;have a7:=z.o.cell 44 _ rfl;have a9:Hid (([]:Bytes)++Lib.beBytes 8 s.t0++Lib.beBytes 8 s.t1++Lib.beBytes 8 s.t2++Lib.beBytes 8 s.t3++Lib.beBytes 8 s.t4++Lib.beBytes 8 s.t5=jJ s.t0 s.t1 s.t2 s.t3 s.t4 s.t5):=aa (by simp[jJ]);rw[a9.o]at z;have W:Hid ((jJ s.t0 s.t1 s.t2 s.t3 s.t4 s.t5).length=48):=aa (by simp[jJ,km]);go_wp2_with fail;go_still_tail 7,(by kernel_rfl)
 change wpList _ _ _ _ _ (World.drew _);go_wp2_with fail;refine((Bc n z.o.drew (by simp[W.o])).mono ?_);rintro e w8 ⟨rfl,r8,hI,hT⟩;have V:=aa hI;have bb:=aa (ak d.o a6.o (ak z.o (dt z.o) hT));clear hI hT;clear a7;go_wp2_with fail;refine(iC V.o (fI _ _)).mono ?_;rintro e _ ⟨q,cap,N,rfl,HN,HB,rfl⟩;go_wp2_with fail;refine((jK 65 1 V.o Hn.o.1 (dD V.o HB.o (fI _ _) (by decide) (by decide)) (by have:=Hn.o.2;have h2:=W.o;simp only[ab,cd];omega)).mono ?_);rintro e w9 ⟨rfl,r9,hI,hT⟩;have bd:=aa hI;have be:=aa (ak d.o bb.o hT);clear hI hT;go_wp2_with fail;go_ret;exact⟨rfl,_,_,r9,bd.o,be.o⟩
def ia:Bytes:=[97,108,101,110]
theorem jM(n:Nat)(A body:Bytes)(h:WI w k r s)(hF:s.bF=A++(ia++body))(hc:s.crc=crc body)(hn:n≤A.length)(hl:s.bF.length<100000000):
 Calls prog 210 #[ptr k.W 0,.int .u64 (A.length:Nat)] w fun e w'=>e=.returned .nilIface∧∃b1,WP w k r n {s with bF:=A++sec body,b1:=b1} w':=by
 have d:=aa h;have ad:Hid (WT w k r n w r):=aa gZ;obtain⟨a,W⟩:∃a,a=A.length:=⟨_,rfl⟩;obtain⟨b,hb⟩:∃b,b=body.length:=⟨_,rfl⟩;have hL:s.bF.length=a+4+b:=by rw[hF,W,hb];simp[ia];omega
 rw[←W];have If:a+4+b<100000000:=by omega
 have HL:=aa hL;have HF:=aa hF;have Hc:=aa hc;have O:=aa (And.intro W hb);have Hn:=aa hn;clear h hF hc hn hl W hb hL;go_enter func210,ntmps210
 go_wp2_with fail;refine((iZ n d.o).mono ?_);rintro e w1 ⟨rfl,r1,hI,hT⟩;have F:=aa hI;have a0:=aa (ak d.o ad.o hT);clear hI hT;have c0:=F.o.cell 0 _ rfl;have cP:w1.cell? ⟨k.F,1,none⟩=some (.int .u64 ((a:Int)+4+b)):=by obtain⟨P,HP,hp⟩:=F.o.fpos;rw[hp,HP.o];have:=HL.o;simp only[this];congr 2
 have a1:¬(4294967295:Int)<(b:Int):=by omega
 go_wp2_with fail;rw[show((a:Int)+4+b-a-4)=(b:Int)from by omega];clear a1 c0 cP;go_wp2_with fail;refine((l9 n b F.o (by omega) (by simp)).mono ?_);rintro e w2 ⟨rfl,r2,hI,hT⟩;have G:=aa hI;have a2:=aa (ak d.o a0.o hT);clear hI hT;go_wp2_with fail;refine(iC G.o (fI _ _)).mono ?_;rintro e _ ⟨q,cap,N,rfl,HN,HB,rfl⟩;have HA:Hid (eX s.bF a ([]++Lib.beBytes 4 b)=A++(Lib.beBytes 4 b++body)):=aa (by rw[HF.o,bz];exact lV _ _ _ _ _ O.o.1 (by simp[ia,cd]));go_wp2_with fail;refine((wAt (n:=n) (pos:=a) G.o (dD G.o HB.o (fI _ _) (by decide) (by decide)) (by have h1:=Hn.o;have h2:=O.o.1;omega) (by have:=HL.o;simp[cd];omega)).mono ?_);rintro e w3 ⟨rfl,r3,hI,hT⟩;have U:=aa hI;have a3:=aa (ak d.o a2.o hT);clear hI hT;rw[HA.o]at U;go_wp2_with fail;refine((iZ n U.o).mono ?_);rintro e w4 ⟨rfl,r4,hI,hT⟩;have z:=aa hI;have a4:=aa (ak d.o a3.o hT);clear hI hT;have a5:=z.o.cell 44 _ rfl;go_wp2_with fail;go_still_tail 7,(by kernel_rfl)
 change wpList _ _ _ _ _ (World.drew _);go_wp2_with fail;refine((yN n z.o.drew (by simp)).mono ?_);rintro e w5 ⟨rfl,r5,hI,hT⟩;have D:=aa hI;have a6:=aa (ak d.o a4.o (ak z.o (dt z.o) hT));clear hI hT;clear a5;simp only[Hc.o]at D;go_wp2_with fail;refine(iC D.o (fI _ _)).mono ?_;rintro e _ ⟨q2,G6,N2,rfl,bb,a7,rfl⟩;go_wp2_with fail;refine((jK (n:=n) 65 1 D.o (by have h1:=Hn.o;simp only[ab];omega) (dD D.o a7.o (fI _ _) (by decide) (by decide)) (by have h1:=O.o.1;have h2:=O.o.2;simp only[ab,cd,ar];omega)).mono ?_);rintro e w6 ⟨rfl,r6,hI,hT⟩;have V:=aa hI;have a9:=aa (ak d.o a6.o hT);clear hI hT;have HE:Hid (A++(Lib.beBytes 4 b++body)++([]++Lib.beBytes 4 (crc body))=A++sec body):=aa (by rw[sec,←O.o.2];simp);simp only[HE.o]at V;go_wp2_with fail;go_ret;exact⟨rfl,[]++Lib.beBytes 4 (crc body),r6,V.o.cast (by simp only[Hc.o]),a9.o⟩
end
section
variable {w:World} {k:WK} {r:WR} {s:WS}
theorem dO{p b i j:Nat}(w:World)(v:Value)(h:p≠b):(w.setCell ⟨p,i,none⟩ v).cell? ⟨b,j,none⟩=w.cell? ⟨b,j,none⟩:=by simp only[World.cell?];rw[gv (k:=b) _ _ (by simpa using aF h)]
theorem Bg(n D F:Nat)(h:WI w k r s)(hn:n≤s.bF.length)(hF:s.bF≠[])(hP:s.bP≠[])(a2:D=s.bF.length)(a3:F=s.bP.length)(hl:D+F<100000000):
 ∃qF cF G O g' cap' w2,w.cell? ⟨k.F,0,none⟩=some (.slice (some ⟨qF,0,none⟩) D cF)∧w.cell? ⟨k.FP,0,none⟩=some (.slice (some ⟨G,0,none⟩) F O)∧
  Hid ((Builtin.append_ #[65,65] 65 #[.slice (some ⟨qF,0,none⟩) D cF,.slice (some ⟨G,0,none⟩) F O]).run prog w=.ok (.slice (some ⟨g',0,none⟩) (D+F) cap') w2)∧
  Hid (Upd (gx (wl k r) [8]) w w2)∧
  Hid (WP w k r n {s with bF:=s.bF++s.bP} ((w2.setCell ⟨k.F,0,none⟩ (.slice (some ⟨g',0,none⟩) (D+F) cap')).setCell ⟨k.F,1,none⟩ (.int .u64 ((D:Int)+(F:Int))))):=by
 subst a2 a3;obtain⟨v0,nm,U,z⟩:=h.f.blk;obtain⟨qF,cF,rfl,a7⟩:=z.shape hF;obtain⟨vP,a9,a4,V⟩:=h.fP.blk;obtain⟨G,O,rfl,bb⟩:=V.shape hP;obtain⟨i0,hi,W,ad,a0⟩:=info_parts Tryz.info5;have d:∀j u,(Lib.byteCells s.bP)[j]? =some u→w.cell? ((⟨G,0,none⟩:Addr).add j)=some u:=by
  rcases V.rd with⟨e,_⟩|⟨g0,o0,c0,e,hc⟩
  ·cases e
  ·cases e;exact td hc
 have a5:=List.length_pos_iff.2 hP;obtain⟨g',cap',w2,A,a1,hu,hg⟩:=dZ (P:=prog) w 65 65 5 i0 (.int .u8 0) 1 1 underlying65 hi W ad a0 rfl (by decide) _ s.bF.length (Lib.byteCells s.bF) z.own ⟨G,0,none⟩ s.bP.length O (Lib.byteCells s.bP) (by simp[Lib.byteCells]) d (g3 _) (by unfold maxLen;omega) (by omega) a5;have hk:=oD (P:=prog) w 65 65 5 i0 (.int .u8 0) 1 1 underlying65 hi W ad a0 rfl (by decide) _ s.bF.length (Lib.byteCells s.bF) z.own ⟨G,0,none⟩ s.bP.length O (Lib.byteCells s.bP) (by simp[Lib.byteCells]) d (g3 _) (by unfold maxLen;omega) (by omega) A;obtain⟨hb1,hK⟩:=FW.grown U z h.f.ne a1 hu hg;have hU:=hK.upd;have a6:fF w ((w2.setCell ⟨k.F,0,none⟩ (.slice (some ⟨g',0,none⟩) (s.bF.length+s.bP.length) cap')).setCell ⟨k.F,1,none⟩ (.int .u64 ((s.bF.length:Int)+(s.bP.length:Int)))) r.gF s.bF.length:=by refine(fF.next (n:=s.bF.length) h.f ((ae w).mono (by simp)) (.inl rfl) (fF.refl _ _ _) ?_ (aw _) hU h.f.ne);rw[z.blk,iI]at hk;exact hk
 refine⟨qF,cF,G,O,g',cap',w2,by rw[af U];rfl,by rw[af a4];rfl,aa A,aa ?_,aa (h.opF hn hK a6)⟩;rw[z.blk]at hu;refine hu.mono ?_;intro b hb;exact cu.2 ⟨8,by simp,congrArg some (by simpa using hb)⟩
theorem mw(n:Nat)(h:WI w k r s)(hn:n≤s.bF.length)(hF:s.bF≠[])(hP:s.bP≠[])(hl:s.bF.length+s.bP.length<10000000)(hpP:s.pP=ptr k.FP 0):
 Calls prog 157 #[ptr k.W 0] w fun e w'=>e=.returned .nilIface∧WP w k r n {s with bF:=s.bF++pad 4 s.bF.length++s.bP,pst:=(s.bF++pad 4 s.bF.length).length,pP:=.pointer none} w':=by
 have F:=aa h;have bA:Hid (WT w k r n w r):=aa gZ;have Hn:=aa (And.intro hn hl);have HF:=aa (And.intro hF hP);have HP:=aa hpP;have c0:=h.cell 0 _ rfl;clear h hn hF hP hl hpP;go_enter func157,ntmps157
 go_wp2_with fail;refine((Fc n 4 F.o Hn.o.1 (by decide) (by decide) (by have:=Hn.o.2;omega)).mono ?_);rintro e w1 ⟨rfl,r1,hI,hT⟩;have U:=aa hI;have bB:=aa (ak F.o bA.o hT);clear hI hT;clear c0;have c0:=U.o.cell 0 _ rfl;obtain⟨p,Hp,cP⟩:=U.o.fpos;have bE:=U.o.cell 11 _ rfl;have f11:=U.o.free 11;obtain⟨a0,a4⟩:=U.o.set_pst n p;have d:=aa a0;have a1:=aa (ak F.o bB.o a4);have c1:(w1.setCell ⟨k.W,11,none⟩ (.int .u64 p)).cell? ⟨k.W,1,none⟩=some (ptr k.FP 0):=by rw[a0.cell 1 _ rfl];simp only[HP.o]
 clear a0 a4;go_wp2_with (go_at_call 173;refine(jz _ _).mono ?_;rintro e _ ⟨rfl,rfl⟩);clear c0 cP bE f11 c1;revert d a1;generalize w1.setCell ⟨k.W,11,none⟩ (.int .u64 p)=w2;intro d a1;obtain⟨NP,W⟩:∃NP,NP=s.bP.length:=⟨_,rfl⟩;have hlen:p+NP<20000000:=by have h0:=Hp.o;have h1:=Hn.o.2;have h2:=jE 4 s.bF.length (by decide);simp only[ab]at h0;omega
 obtain⟨qF,cF,qP,cP,g',cap',G,a2,a3,HR,D,bK⟩:=Bg n p NP d.o.drew (by have:=Hn.o.1;simp only[ab];omega) (by have:=HF.o.1;simp[this]) HF.o.2 Hp.o W (by omega);have a5:w2.cell? ⟨k.F,0,none⟩=some (.slice (some ⟨qF,0,none⟩) p cF):=a2;have a6:w2.cell? ⟨k.FP,0,none⟩=some (.slice (some ⟨qP,0,none⟩) NP cP):=a3;have c0:=d.o.cell 0 _ rfl;have c1:w2.cell? ⟨k.W,1,none⟩=some (ptr k.FP 0):=by rw[d.o.cell 1 _ rfl];simp only[HP.o]
 have z:∀i b,i≠8→(wl k r1)[i]? =some (some b)→b∉gx (wl k r1) [8]:=fun i b hi hb=>nin d.o.dis hb (by simpa using hi);obtain⟨O,a7,a9⟩:=d.o.fpos;obtain⟨A,bL,bb⟩:=d.o.ppos;have bM:O=p:=by have h1:O=(s.bF++pad 4 s.bF.length).length:=a7.o;rw[h1,Hp.o]
 have bO:A=NP:=by have h1:A=s.bP.length:=bL.o;rw[h1,W]
 subst bM bO;have d0:G.cell? ⟨k.W,0,none⟩=some (ptr k.F 0):=D.o.cell (z 0 _ (by decide) rfl) c0;have d1:G.cell? ⟨k.W,1,none⟩=some (ptr k.FP 0):=D.o.cell (z 0 _ (by decide) rfl) c1;have dF:G.cell? ⟨k.F,0,none⟩=some (.slice (some ⟨qF,0,none⟩) O cF):=D.o.cell (z 1 _ (by decide) rfl) a2;have bd:G.cell? ⟨k.F,1,none⟩=some (.int .u64 O):=D.o.cell (z 1 _ (by decide) rfl) a9;have dP:G.cell? ⟨k.FP,0,none⟩=some (.slice (some ⟨qP,0,none⟩) A cP):=D.o.cell (z 2 _ (by decide) rfl) a3;have be:G.cell? ⟨k.FP,1,none⟩=some (.int .u64 A):=D.o.cell (z 2 _ (by decide) rfl) bb;obtain⟨vF,b8,hbF,_⟩:=d.o.f.blk;have V:=D.o.blk (w:=w2.drew) hbF (z 1 _ (by decide) rfl);have b9:=ao V 0;have ca:=ao V 1;have bR:k.W≠k.F:=d.o.dis.ne (i:=0) (j:=1) rfl rfl (by decide);have bS:k.FP≠k.F:=d.o.dis.ne (i:=2) (j:=1) rfl rfl (by decide);have bW:=aa (ak F.o a1.o (dt d.o));have cc:=aa d.o.drew;have b5:=aa (And.intro a7.o W);clear hbF V z a2 a3 W;go_cut [] (fun wx=>wx=G.setCell ⟨k.F,0,none⟩ (.slice (some ⟨g',0,none⟩) (O+A) cap'))
 case first=>
  go_region_law ((refine df rfl _ _ _ rfl _ _ _ _ rfl rfl HR.o ?_))
  all_goals
   go_wp2_with fail;go_meet
   rfl
 case rest=>
  subst hcut;have bg:=aF bR;have bl:=aF bS;have e0:(G.setCell ⟨k.F,0,none⟩ (.slice (some ⟨g',0,none⟩) (O+A) cap')).cell? ⟨k.W,0,none⟩=some (ptr k.F 0):=(dO _ _ bg).trans d0;have e1:(G.setCell ⟨k.F,0,none⟩ (.slice (some ⟨g',0,none⟩) (O+A) cap')).cell? ⟨k.W,1,none⟩=some (ptr k.FP 0):=(dO _ _ bg).trans d1;have e2:(G.setCell ⟨k.F,0,none⟩ (.slice (some ⟨g',0,none⟩) (O+A) cap')).cell? ⟨k.FP,0,none⟩=some (.slice (some ⟨qP,0,none⟩) A cP):=(dO _ _ bl).trans dP;have e3:(G.setCell ⟨k.F,0,none⟩ (.slice (some ⟨g',0,none⟩) (O+A) cap')).cell? ⟨k.FP,1,none⟩=some (.int .u64 A):=(dO _ _ bl).trans be;have e4:(G.setCell ⟨k.F,0,none⟩ (.slice (some ⟨g',0,none⟩) (O+A) cap')).cell? ⟨k.F,1,none⟩=some (.int .u64 O):=(fT _ _ _ _ _ (by decide)).trans bd;obtain⟨r5,ad,bn⟩:=bK.o;have b6:=aa ad;have b7:=aa (ak F.o bW.o bn);have g1:((G.setCell ⟨k.F,0,none⟩ (.slice (some ⟨g',0,none⟩) (O+A) cap')).setCell ⟨k.F,1,none⟩ (.int .u64 ((O:Int)+(A:Int)))).cell? ⟨k.W,1,none⟩=some (ptr k.FP 0):=by rw[ad.cell 1 _ rfl];simp only[HP.o]
  have h1:=ad.free 1;clear d0 d1 dF bd dP be c0 c1 a9 bb a5 a6 ad bn;have hm:(A:Int) % 18446744073709551616=A:=by omega
  go_wp2_with (first
   |(go_at_call 113;refine(pH _ _).mono ?_;rintro e _ ⟨rfl,rfl⟩)
   |(go_at_call 209;refine(rM _ _).mono ?_;rintro e _ ⟨rfl,rfl⟩))
  obtain⟨br,bv⟩:=b6.o.set_pP n (.pointer none);have bw:=aa (And.intro br (ak F.o b7.o bv));clear br bv;go_ret;exact⟨rfl,r5,bw.o.1.cast (by simp only[b5.o.1]),bw.o.2⟩
end
structure iE(w:World)(X g cur:Nat)(xs:List Nat):Prop where
 b:BEP w X g cur xs
 ne:g≠X
 asc:(cur::xs).Pairwise (· <·)
 lt:∀x∈cur::xs,x<10000
 len:xs.length≤12
theorem BEP.upd{L:List Nat}{w w':World}{X g cur:Nat}{xs:List Nat}(h:BEP w X g cur xs)(hu:Upd L w w')(h1:X∉L)(d:g∉L):BEP w' X g cur xs:=by obtain⟨o,cap,hb,hr⟩:=h.blk;exact⟨o,cap,hu.blk hb h1,hr.upd hu d⟩
theorem iE.upd{L:List Nat}{w w':World}{X g cur:Nat}{xs:List Nat}(h:iE w X g cur xs)(hu:Upd L w w')(h1:X∉L)(d:g∉L):iE w' X g cur xs:=⟨h.b.upd hu h1 d,h.ne,h.asc,h.lt,h.len⟩
theorem iE.X_lt{w:World}{X g cur:Nat}{xs:List Nat}(h:iE w X g cur xs):X<w.heap.size:=by obtain⟨o,cap,hb,_⟩:=h.b.blk;exact lt_of_block hb
theorem iE.g_lt{w:World}{X g cur:Nat}{xs:List Nat}(h:iE w X g cur xs):g<w.heap.size:=by obtain⟨o,cap,_,hr⟩:=h.b.blk;exact hr.lt
theorem yG(g o N cap m:Nat)(h1:m≤N)(D:m<cap)(w:World):(Instr.sliceAt 65 (.slice (some ⟨g,o,none⟩) N cap) (some (.int .i64 (m:Nat))) none none).run prog w=.ok (.slice (some ⟨g,o+m,none⟩) (N-m) (cap-m)) w:=by
 have d:(cap=m)=False:=by simp;omega
 have z:(0:Int)≤(m:Int):=by omega
 have A:(m:Int)≤(N:Int):=by omega
 go_simp
theorem xO(xs:List Nat)(i:Nat)(h:i<xs.length):fZ (xs.drop i)=Lib.beBytes 4 xs[i]++fZ (xs.drop (i+1)):=by rw[bf h];rfl
theorem zD(i X g cur x Y Z:Nat)(xs:List Nat)(w:World)(h:BEP w X g cur xs)(U:w.heap[Y]? =some (.cells #[ptr X 0] 267 (0,0)))(V:w.heap[Z]? =some (.cells #[.int .u64 (x:Nat)] 133 (0,0)))
 (G:i<xs.length)(hx:x<4294967296)(A:xs[i]<4294967296)(hl:xs.length<100000):
 Calls prog 316 #[.int .i64 i,ptr Y 0,ptr Z 0] w fun e w'=>e=.returned (.bool (decide (x≤xs[i])))∧Upd [] w w':=by
 obtain⟨o,cap,hb,hR⟩:=h.blk;have d:=hR.rest4 rfl (Nat.le_of_lt G) (o+4*i) (fun _=>rfl);rw[xO xs i G]at d;have D:4*xs.length≤cap:=by obtain⟨_,_,e,W,_⟩:=id hR;simp only[bx]at e;obtain⟨_,e2,e3⟩:=e;rw[←e2,←e3]at W;exact W.1
 have O:w.cell? ⟨X,0,none⟩=some (.slice (some ⟨g,o,none⟩) (4*xs.length) cap):=af hb 0;have cY:w.cell? ⟨Y,0,none⟩=some (ptr X 0):=af U 0;have cZ:w.cell? ⟨Z,0,none⟩=some (.int .u64 (x:Nat)):=af V 0;obtain⟨N,hN⟩:∃N,N=4*xs.length:=⟨_,rfl⟩;rw[←hN]at O d D;obtain⟨m,hm⟩:∃m,m=4*i:=⟨_,rfl⟩;rw[←hm]at d;have a0:m<N:=by omega
 have hNl:N<1000000:=by omega
 have a1:IntKind.i64.wrap (m:Int)=(m:Int):=by rw[bo];omega
 have ad:(i:Int)*4=(m:Int):=by omega
 have a2:(m:Int)≤(N:Int):=by omega
 have a3:(N:Int)≤(cap:Int):=by omega
 have a4:(0:Int)≤(m:Int):=by omega
 have hsl:=yG g o N cap m (by omega) (by omega);have a5:IntKind.u32.wrap (x:Int)=(x:Int):=by rw[kh];omega
 obtain⟨y,hy⟩:∃y,y=xs[i]:=⟨_,rfl⟩;rw[←hy]at A d⊢;have HR:=aa d;clear h hb hR d U V hN hy hl G hm;go_enter func316,ntmps316
 go_wp2_with fail;go_region_held3 (fun w'=>w'.cell? ⟨Y,0,none⟩=some (ptr X 0)∧w'.cell? ⟨X,0,none⟩=some (.slice (some ⟨g,o,none⟩) N cap)∧w'.cell? ⟨Z,0,none⟩=some (.int .u64 (x:Nat))) (go_keep) ((go_at_call 120;refine(qE g y _ (fZ (xs.drop (i+1))) _ HR.o.drew A).mono ?_;rintro e w2 ⟨rfl,F⟩;have z:=aa (cz F);clear F;have cY:=z.o.cell (by simp) cY;have O:=z.o.cell (by simp) O;have cZ:=z.o.cell (by simp) cZ))
 all_goals
  go_wp2_with fail;go_ret;exact⟨rfl,z.o⟩
theorem tN{x:Nat}:∀{xs:List Nat} {i:Nat},xs.Pairwise (· <·)→i≤xs.length→(i=0∨decide (x≤xs.getD (i-1) 0)=false)→(i=xs.length∨decide (x≤xs.getD i 0)=true)→xs.dropWhile (fun y=>decide (y<x))=xs.drop i:=by
 intro xs;induction xs with
 |nil=>intro i _ _ _ _;simp
 |cons y l F=>
  intro i h z h1 d;rw[gD];cases i with
  |zero=>
   rcases d with d|d
   ·simp at d
   ·simp only[List.getD_cons_zero,decide_eq_true_eq]at d;rw[if_neg (by simp;omega)];rfl
  |succ i=>
   have A:=List.pairwise_cons.1 h;have G:y<x:=by
    rcases h1 with h1|h1
    ·omega
    ·simp only[Nat.add_sub_cancel,decide_eq_false_iff_not,Nat.not_le]at h1;cases i with
     |zero=>simpa using h1
     |succ k=>
      simp only[aj]at z;have D:k<l.length:=by omega
      have h4:=A.1 l[k] (aq D);have h5:(y::l).getD (k+1) 0=l[k]:=by simp[List.getD,D]
      omega
   rw[if_pos (by simpa using G),List.drop_succ_cons];simp only[aj]at z;refine F A.2 (by omega) ?_ ?_
   ·cases i with
    |zero=>exact .inl rfl
    |succ k=>
     rcases h1 with h1|h1
     ·omega
     ·right;simpa using h1
   ·rcases d with d|d
    ·left;simp only[aj]at d;omega
    ·right;simpa using d
def zf(w:World)(X g cur x:Nat)(xs:List Nat)(e:Ending)(w':World):Prop:=
 e=.returned (.bool (!((cur::xs).dropWhile fun y=>decide (y<x)).isEmpty))∧(∀y t,(cur::xs).dropWhile (fun y=>decide (y<x))=y::t→iE w' X g y t)∧Upd [X] w w'
theorem wS(X g cur x:Nat)(xs:List Nat)(w:World)(h:iE w X g cur xs)(hx:x<10000):Calls prog 315 #[ptr X 0,.int .u64 (x:Nat)] w (zf w X g cur x xs):=by
 have HI:=aa h;have ca:=h.lt cur (by simp);obtain⟨o,cap,hb,hR⟩:=h.b.blk;have bg:4*xs.length≤cap:=by obtain⟨_,_,e,hc,_⟩:=id hR;simp only[bx]at e;obtain⟨_,e2,e3⟩:=e;rw[←e2,←e3]at hc;exact hc.1
 obtain⟨w2,bl,G,hY,hZ,bn⟩:=j8 w (.cells #[ptr X 0] 267 (0,0)) (.cells #[.int .u64 (x:Nat)] 133 (0,0));obtain⟨Y,a4⟩:∃Y,Y=w.heap.size:=⟨_,rfl⟩;rw[←a4]at hY hZ bn;have hb2:=G.blk hb (by simp);have a5:=h.X_lt;have hlen:=h.len;obtain⟨n,hn⟩:∃n,n=xs.length:=⟨_,rfl⟩;obtain⟨N,hN⟩:∃N,N=4*n:=⟨_,rfl⟩;rw[←hn,←hN]at bg hb2 hR;rw[←hn]at hlen;have br:=hR.upd G (by simp);have cY:w2.cell? ⟨Y,0,none⟩=some (ptr X 0):=af hY 0;have cZ:w2.cell? ⟨Y+1,0,none⟩=some (.int .u64 (x:Nat)):=af hZ 0;have c0:w2.cell? ⟨X,0,none⟩=some (.slice (some ⟨g,o,none⟩) N cap):=af hb2 0;have c1:w2.cell? ⟨X,1,none⟩=some (.int .u32 cur):=af hb2 1;have cs:IntKind.u64.wrap (cur:Int)=(cur:Int):=by rw[cK];omega
 have bv:=aa (h.upd G (by simp) (by simp));have HB:=aa (And.intro hY (And.intro hZ hb2));have a6:=aa G;have bw:=aa bl;have bA:=aa a4;have d:=aa (And.intro hn hN);have bW:=aa br;have ct:X<Y:=by omega
 have cA:N<100:=by omega
 have hq:(N:Int)/4=(n:Int):=by omega
 clear h hb hR br hb2 hY hZ G bl bn a4 hn hN a5;by_cases cB:x≤cur
 ·have bB:(x:Int)≤(cur:Int):=by omega
  go_enter func315,ntmps315
  go_wp2_with fail;rw[←bA.o,←bw.o];go_quiet (fail)
  go_wp2_with fail;go_ret;have e:(cur::xs).dropWhile (fun y=>decide (y<x))=cur::xs:=by rw[gD,if_neg (by simp;omega)]
  exact⟨by rw[e];rfl,fun y t h=>by rw[e]at h;cases h;exact bv.o.upd ((ae _).drewN _) (by simp) (by simp),(a6.o.mono (by simp)).drewN _⟩
 ·have bB:¬(x:Int)≤(cur:Int):=by omega
  have bE:∀(i:Nat) w',i<n→Upd [] w2 w'→Calls prog 316 #[.int .i64 i,ptr Y 0,ptr (Y+1) 0] w' fun e bK=>e=.returned (.bool (decide (x≤xs.getD i 0)))∧Upd [] w2 bK:=fun i w' hi hu=>by
   have A:i<xs.length:=by rw[←d.o.1];exact hi
   have hI:=bv.o.upd hu (by simp) (by simp);have e:xs.getD i 0=xs[i]:=by simp[List.getD,A]
   refine(zD i X g cur x Y (Y+1) xs w' hI.b (hu.blk HB.o.1 (by simp)) (hu.blk HB.o.2.1 (by simp)) A (by omega) (by have:=hI.lt xs[i] (aH _ (aq A));omega) (by have:=hI.len;omega)).mono ?_;rintro e bK ⟨rfl,b5⟩;exact⟨by rw[e],hu.then b5 (by simp)⟩
  have HF:=aa bE;clear bE;go_enter func315,ntmps315
  go_wp2_with fail;rw[←bA.o,←bw.o];go_quiet (fail)
  go_wp2_with fail;refine(BA n (ptr Y 0) (ptr (Y+1) 0) (fun i=>decide (x≤xs.getD i 0)) (fun w'=>Upd [] w2 w') _ (by omega) ((ae _).drewN _) HF.o).mono ?_;rintro e w3 ⟨i,rfl,b6,h1,h2,G4⟩;have O:=tN (x:=x) (i:=i) (List.pairwise_cons.1 HI.o.asc).2 (by rw[←d.o.1];exact b6) h1 (by rw[←d.o.1];exact h2);have e0:(cur::xs).dropWhile (fun y=>decide (y<x))=xs.drop i:=by rw[gD,if_pos (by simp;omega),O]
  have He:=aa e0;have bL:=aa G4;have U:=G4.cell (by simp) cY;have V:=G4.cell (by simp) c0;have hb3:=G4.blk HB.o.2.2 (by simp);have f0:=ao hb3 0;have b7:=aa hb3;have bM:=aa (bW.o.upd G4 (by simp));have a7:=HI.o.ne;clear h1 h2 O e0 G4 HF cY c0 cZ c1 hb3 hq;by_cases hi:i<n
  ·obtain⟨m,hm⟩:∃m,m=4*i:=⟨_,rfl⟩;obtain⟨m',a9⟩:∃m',m'=4*(i+1):=⟨_,rfl⟩;have A:i<xs.length:=by rw[←d.o.1];exact hi
   obtain⟨y,hy⟩:∃y,y=xs[i]:=⟨_,rfl⟩;have cD:y<10000:=by rw[hy];exact HI.o.lt _ (aH _ (aq A))
   have bb:xs.drop i=y::xs.drop (i+1):=by rw[hy];exact bf A
   have cE:m<N:=by have:=d.o.2;omega
   have cc:m'≤N:=by have:=d.o.2;omega
   have bd:=bM.o.rest4 (k:=i) (by have:=d.o;omega) (by omega) (o+m) (fun _=>by omega);rw[←hm,bb]at bd;have W:=bM.o.rest4 (k:=i+1) (by have:=d.o;omega) (by omega);rw[←a9]at W;have b8:=aa bd;have a0:=aa W;have cF:IntKind.i64.wrap (m:Int)=(m:Int):=by rw[bo];omega
   have cL:IntKind.i64.wrap (m':Int)=(m':Int):=by rw[bo];omega
   have cg:(i:Int)*4=(m:Int):=by omega
   have ck:(m:Int)+4=(m':Int):=by omega
   have cM:(0:Int)≤(m:Int):=by omega
   have cN:(m:Int)≤(N:Int):=by omega
   have cO:(N:Int)≤(cap:Int):=by omega
   have cP:(0:Int)≤(m':Int):=by omega
   have cX:(m':Int)≤(N:Int):=by omega
   have c6:(cap=m)=False:=by simp;omega
   have cn:(i:Int)<(n:Int):=by omega
   have a5:X≠Y:=by omega
   have KP:=aa (fun(w':World) (h1:w'.cell? ⟨Y,0,none⟩=some (ptr X 0)) (h2:w'.cell? ⟨X,0,none⟩=some (.slice (some ⟨g,o,none⟩) N cap))=>(And.intro ((dO (j:=0) w' (.int .u32 (y:Nat)) (i:=1) a5).trans h1) ((fT w' X 1 0 (.int .u32 (y:Nat)) (by decide)).trans h2)));have be:=aa bb;have Hm:=aa (And.intro hm a9);have ad:Hid ((xs.drop (i+1)).length=n-(i+1)):=aa (by rw[cy,←d.o.1]);clear hy bb bd W hm a9;go_wp2_with fail;go_region_held3 (fun w'=>w'.cell? ⟨Y,0,none⟩=some (ptr X 0)∧w'.cell? ⟨X,0,none⟩=some (.slice (some ⟨g,o,none⟩) N cap)) (first|(go_keep;done)|exact KP.o _ (by assumption) (by assumption)) ((go_at_call 120;refine(qE g y _ (fZ (xs.drop (i+1))) _ b8.o.drew (by omega)).mono ?_;rintro e w4 ⟨rfl,bO⟩;have D:=aa (cz bO);clear bO;have U:=D.o.cell (by simp) U;have V:=D.o.cell (by simp) V;have F:=aa (D.o.blk b7.o (by simp));have f1:=ao F.o 1;have f0:=ao F.o 0;have c7:w4.cell? ⟨X,1,none⟩=some (.int .u32 cur):=af F.o 1))
   all_goals
    have c8:=(KP.o _ U V).1;have c9:=(KP.o _ U V).2;have dc:=ao (au F.o 1 (.int .u32 (y:Nat))) 0;have b9:=aa ((a6.o.then bL.o (by simp)).then D.o (by simp));clear f0 f1 U V KP;have a1:∀w6:World,BEP w6 X g y (xs.drop (i+1))→Upd [X] w4 w6→zf w X g cur x xs (.returned (.bool true)) w6:=fun w6 hb hu=>by
     refine⟨by rw[He.o,be.o];rfl,fun z t h=>?_,(b9.o.mono (by simp)).then hu (fun i hi _=>hi)⟩;rw[He.o,be.o]at h;cases h;have hs:(y::xs.drop (i+1)).Sublist (cur::xs):=by rw[←be.o];exact(List.drop_sublist _ _).trans (List.sublist_cons_self _ _)
     exact⟨hb,a7,HI.o.asc.sublist hs,fun z hz=>HI.o.lt z (hs.subset hz),by rw[ad.o];omega⟩
    have a2:=aa a1;clear a1;by_cases bR:cap=m'
    ·have K:=BEP.set (x:=y) F.o ((a0.o o (fun h=>by have:=d.o;have:=Hm.o;omega)).upd D.o (by simp)) (by rw[ad.o];have:=d.o;have:=Hm.o;omega) a7;rw[show N-m'=0 by omega,show cap-m'=0 by omega]at K;have HK:=aa K;clear K;subst bR;go_wp2_with fail;go_region
     all_goals
      go_wp2_with fail;go_ret;exact a2.o _ (HK.o.1.upd ((ae _).drew) (by simp) (by simp)) HK.o.2.drew
    ·have K:=BEP.set (x:=y) F.o ((a0.o (o+m') (fun h=>by have:=d.o;have:=Hm.o;omega)).upd D.o (by simp)) (by rw[ad.o];have:=d.o;have:=Hm.o;omega) a7;have HK:=aa K;clear K;have cp:(cap=m')=False:=by simp[bR]
     go_wp2_with fail;go_region
     all_goals
      go_wp2_with fail;go_ret;exact a2.o _ (HK.o.1.upd ((ae _).drew) (by simp) (by simp)) HK.o.2.drew
  ·have bS:i=n:=by omega
   subst bS;have a3:xs.drop i=[]:=by rw[d.o.1];exact eT
   go_wp2_with fail;go_ret;exact⟨by rw[He.o,a3];rfl,fun y t h=>(by rw[He.o,a3]at h;cases h),(((a6.o.then bL.o (by simp)).mono (by simp)).setCell (by simp) _)⟩
end Go.Proofs.YtlgefdfflmgocaaGreatDoor
