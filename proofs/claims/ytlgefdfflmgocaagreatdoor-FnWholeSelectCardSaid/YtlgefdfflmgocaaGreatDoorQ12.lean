import Derived.Test.YtlgefdfflmgocaaGreatDoorQ11
set_option linter.all false
set_option maxRecDepth 100000
set_option maxHeartbeats 8000000
namespace Go.Proofs.YtlgefdfflmgocaaGreatDoor
section
open Go Go.RowKit Xc Go.Proofs.Tryz
attribute [local go_sem ↓] Go.wp_at_zero Go.wp_at_succ
variable {w:World} {k:WK} {r:WR} {s:WS}
theorem Ek(a:Bytes)(x:Nat):a++Lib.uvarint x≠[]:=by intro e;have h1:=congrArg List.length e;have d:=Lib.uvarint_pos x;rw[ab]at h1;simp only[ar]at h1;omega
theorem rt(a b:Bytes):iK ld (crc a) b=crc (a++b):=(ny ld 0 a b).symm
def jU(x:Nat×ByteArray×Nat):Bytes:=Lib.uvarint 1++(ed (sb x.2.1)++Lib.uvarint x.2.2)
def kO(l:List (Nat×ByteArray×Nat)):Bytes:=Lib.beBytes 4 l.length++l.flatMap jU
theorem uj(x:Nat×ByteArray×Nat)(h1:x.2.1.size<1000)(d:x.2.2<1000000000):(jU x).length<1020:=by have z:=bh 1 (by decide);have a2:=bh x.2.1.size (by omega);have a3:=Lib.uvarint_length64 (x:=x.2.2) (by omega);simp only[jU,ed,ab,dA];omega
theorem uk(l:List (Nat×ByteArray×Nat))(h:∀x∈l,x.2.1.size<1000∧x.2.2<1000000000):(l.flatMap jU).length≤1020*l.length:=by
 induction l with
 |nil=>simp
 |cons x l d=>
  have h1:=h x (by simp);have A:=uj x h1.1 h1.2;have D:=d (fun y z=>h y (by simp[z]));simp only[aY,ab,aj]at*;omega
theorem yk(l:List (Nat×ByteArray×Nat))(j:Nat)(h:j<l.length):(l.take (j+1)).flatMap jU=(l.take j).flatMap jU++jU l[j]:=by rw[ax h,aU];simp
theorem ui(l:List (Nat×ByteArray×Nat))(j:Nat)(h:j<l.length):(jr l)[j*2]? =some (.slice (some ⟨l[j].1,0,none⟩) 1 1)∧(jr l)[j*2+1]? =some (.int .u64 (l[j].2.2:Nat)):=by
 induction l generalizing j with
 |nil=>simp at h
 |cons x l d=>
  cases j with
  |zero=>exact⟨rfl,rfl⟩
  |succ j=>
   have:=d j (by simpa using h);have e:jr (x::l)=[.slice (some ⟨x.1,0,none⟩) 1 1,.int .u64 x.2.2]++jr l:=rfl;rw[e];refine⟨?_,?_⟩
   ·rw[bC (by simp;omega)];simp only[aj,ar,eH];rw[show(j+1)*2-(0+1+1)=j*2 by omega];exact this.1
   ·rw[bC (by simp;omega)];simp only[aj,ar,eH];rw[show(j+1)*2+1-(0+1+1)=j*2+1 by omega];exact this.2
theorem WI.liRow(h:WI w k r s):∃A cap,w.cell? ⟨k.W,39,none⟩=some (.slice A s.li.length cap)∧(0<s.li.length→∃g,A=some ⟨g,0,none⟩∧r.gL=some g∧∀j (D:j<s.li.length),w.cell? ⟨g,j*2,none⟩=some (.slice (some ⟨s.li[j].1,0,none⟩) 1 1)∧w.cell? ⟨g,j*2+1,none⟩=some (.int .u64 (s.li[j].2.2:Nat))):=by
 obtain⟨c,hB⟩:=h.blk;obtain⟨O,z,hr⟩:=hB.li;have F:w.cell? ⟨k.W,39,none⟩=some O:=by rw[af hB.blk,z]
 rcases hr.own.2 with⟨e,U⟩|⟨g,cap,cur,e,_⟩
 ·exact⟨none,0,by rw[F,e,U],fun V=>by omega⟩
 ·subst e;refine⟨_,cap,F,fun _=>⟨g,rfl,hr.blk.symm,fun j D=>?_⟩⟩;have d:=hr.own.cells (g:=g) rfl;obtain⟨e1,e2⟩:=ui s.li j D;have G:=d _ _ e1;have a2:=d _ _ e2;rw[aO,aK]at G a2;exact⟨G,a2⟩
theorem uU(n:Nat)(h:WI w k r s)(hn:n≤s.bF.length)(hl:s.bF.length<10000000)(c8:s.li.length<1000)(hx:∀x∈s.li,x.2.1.size<1000∧x.2.2<1000000000):
 Calls prog 158 #[ptr k.W 0] w fun e w'=>e=.returned .nilIface∧∃b1 c,WP w k r n {s with bF:=s.bF++sec (kO s.li),b1:=b1,crc:=c} w':=by
 have d:=aa h;have fc:Hid (WT w k r n w r):=aa gZ;have fk:Hid (WJ w k r fJ w r):=aa WJ.refl;have Hn:=aa (And.intro hn hl);have HX:=aa hx;obtain⟨M,hM⟩:∃M,M=s.li.length:=⟨_,rfl⟩;rw[←hM]at c8;have HM:=aa hM;obtain⟨P,HP,cP⟩:=h.fpos;have c0:=h.cell 0 _ rfl;clear h hn hl hx hM;go_enter func158,ntmps158
 have kc:=fun(w:World) (C:Array Value) (n c:Nat)=>Lib.run_convert_bytes_const (P:=prog) w 65 5 C n c underlying65 underlying5;go_wp2_with fail;obtain⟨w1,b7,a9,bl,bn⟩:=nH w #[.int .u8 97,.int .u8 108,.int .u8 101,.int .u8 110] ia 5 4 4 (4,5) rfl rfl;rw[←b7,←bn];have c9:=aa (d.o.new a9);have dc:=aa (dN (n:=n) d.o a9);have dd:Hid (WJ w k r fJ w1 r):=aa (i7 a9);have b9:=aa bl;have dj:=aa d.o.size_out;clear b7 a9 bl bn c0 cP kc;go_wp2_with fail;refine((g4 (n:=n) 65 1 c9.o Hn.o.1 (cV.o b9.o (by simp[ia]) rfl dj.o) (by have h1:=Hn.o.2;simp only[ia,aj,ar];omega)).mono ?_);rintro e w2 ⟨rfl,r2,hI,hT,hJ⟩;have ca:=aa hI;have dk:=aa (ak d.o dc.o hT);have dp:=aa (bu dd.o (hJ.mono (by decide)));clear hI hT hJ;have ds:=iY;have W:=ca.o.cell 44 _ rfl;go_wp2_with fail;refine((sF n ca.o).mono ?_);rintro e w3 ⟨rfl,r3,hI,hT,hJ⟩;have dF:=aa hI;have dP:=aa (ak d.o dk.o hT);have dT:=aa (bu dp.o (hJ.mono (by decide)));clear hI hT hJ;clear ds W;go_wp2_with fail;refine((jY n dF.o).mono ?_);rintro e w4 ⟨rfl,r4,hI,hT,hJ⟩;have bb:=aa hI;have d0:=aa (ak d.o dP.o hT);have ea:=aa (bu dT.o (hJ.mono (by decide)));clear hI hT hJ;obtain⟨fr,e9,ad,_⟩:=bb.o.liRow;simp only[←HM.o]at ad;go_wp2_with fail;go_still_tail 8,(by kernel_rfl)
 change wpList _ _ _ _ _ (World.drew _);go_wp2_with fail;refine((ku n M bb.o.drew (by omega) (by simp)).mono ?_);rintro e w5 ⟨rfl,r5,hI,hT,hJ⟩;have bd:=aa hI;have eb:=aa (ak d.o d0.o (ak bb.o (dt bb.o) hT));have ef:=aa (bu ea.o (bu (i7 (ae _).drew) (hJ.mono (by decide))));clear hI hT hJ;clear ad;have W:=bd.o.cell 44 _ rfl;go_wp2_with fail;go_still_tail 7,(by kernel_rfl)
 change wpList _ _ _ _ _ (World.drew _);go_wp2_with fail;refine((kw n bd.o.drew (by simp[cd])).mono ?_);rintro e w6 ⟨rfl,r6,hI,hT,hJ⟩;have bK:=aa hI;have eg:=aa (ak d.o eb.o (ak bd.o (dt bd.o) hT));have ei:=aa (bu ef.o (bu (i7 (ae _).drew) (hJ.mono (by decide))));clear hI hT hJ;clear W;have bL:Hid (([]:Bytes)++Lib.beBytes 4 M=Lib.beBytes 4 M++(s.li.take 0).flatMap jU):=aa (by simp);have cc:Hid (iK ld 0 (([]:Bytes)++Lib.beBytes 4 M)=crc (Lib.beBytes 4 M++(s.li.take 0).flatMap jU)):=aa (by rw[bL.o];rfl);go_wp2_with fail;refine(iC bK.o (fI _ _)).mono ?_;rintro e _ ⟨q2,G6,N2,rfl,fs,el,rfl⟩;go_wp2_with fail;refine((g4 (n:=n) 65 1 bK.o (by have h1:=Hn.o.1;simp only[ab];omega) (dD bK.o el.o (fI _ _) (by decide) (by decide)) (by have h1:=Hn.o.2;simp only[ia,ab,aj,ar,cd];omega)).mono ?_);rintro e w7 ⟨rfl,r7,hI,hT,hJ⟩;have a0:=aa hI;have ep:=aa (ak d.o eg.o hT);have ft:=aa (bu ei.o (hJ.mono (by decide)));clear hI hT hJ;simp only[cc.o]at a0;simp only[bL.o]at a0;clear cc bL;obtain⟨fv,fa,ad,G3⟩:=a0.o.liRow;simp only[←HM.o]at ad G3;have br:=aa G3;clear G3;go_wp2_with fail;clear ad;go_loopw [68] (fun i wr=>∃j:Nat,j≤M∧i=.int .i64 j∧∃r' b1,WI wr k r' {s with bF:=s.bF++ia++(Lib.beBytes 4 M++(s.li.take j).flatMap jU),b1:=b1,crc:=crc (Lib.beBytes 4 M++(s.li.take j).flatMap jU)}∧WT w k r n wr r'∧WJ w7 k r7 fJ wr r') (fun i _=>M-(intOf i).toNat)
 case atStart=>exact⟨0,ay _,rfl,r7,_,a0.o,ep.o,WJ.refl⟩
 case round=>
  obtain⟨j,hj,rfl,r8,b8,hI,hT,hJ⟩:=hrel;have O:=aa hI;have cg:=aa hT;have be:=aa hJ;clear hI hT hJ;generalize wr=w8 at*;by_cases ev:j<M
  ·have D:j<s.li.length:=by have:=HM.o;omega
   obtain⟨g,rfl,hg,F⟩:=br.o (by omega);have bM:g∉gx (wl k r7) fJ:=nin a0.o.dis (i:=13) (congrArg some hg) (by decide);obtain⟨e1,e2⟩:=F j ev;have cA:=be.o.upd.cell bM e1;have cO:=be.o.upd.cell bM e2;have hk:=O.o.keys _ (aq D);have bO:=HX.o _ (aq D);have hmem:=aq D;have Ht:=aa (yk s.li j D);generalize s.li[j]=x at*;obtain⟨q,nm,off⟩:=x;simp only at cA cO hk bO;have eE:=hk.1;have bv:=aa hmem;have U:=aa bO;clear hmem bO;clear hk e1 e2 F bM;have V:Upd [] w8 (w8.alloc (.cells #[.slice (some ⟨q,0,none⟩) 1 1,.int .u64 (off:Nat)] 387 (0,0))):=(ae w8).alloc _;have bg:(w8.alloc (.cells #[.slice (some ⟨q,0,none⟩) 1 1,.int .u64 (off:Nat)] 387 (0,0))).heap[w8.heap.size]? =some (.cells #[.slice (some ⟨q,0,none⟩) 1 1,.int .u64 (off:Nat)] 387 (0,0)):=an _;go_wp2_with fail;revert V bg;generalize (w8.alloc (.cells #[.slice (some ⟨q,0,none⟩) 1 1,.int .u64 (off:Nat)] 387 (0,0)))=w9;obtain⟨X,hX⟩:∃X,X=w8.heap.size:=⟨_,rfl⟩;have bR:=aa (O.o.size_out);rw[←hX]at bR⊢;intro V bg;have bS:=aa (O.o.new V);have eG:=aa (ak d.o cg.o (dN O.o V));have eN:Hid (WJ w7 k r7 fJ w9 r8):=aa (bu be.o (i7 V));have cn:=aa bg;have fA:Hid (WJ w9 k r8 fJ w9 r8):=aa WJ.refl;clear V bg cA cO hX eE;refine((jY n bS.o).mono ?_);rintro e bW ⟨rfl,cp,hI,hT,hJ⟩;have z:=aa hI;have a1:=aa (ak d.o eG.o hT);have cs:=aa (bu eN.o hJ);have a2:=aa (hT.keep cn.o bR.o);have a3:=aa (hT.o (lt_of_block cn.o) bR.o);clear hI hT hJ;have cE:bW.cell? ⟨X,0,none⟩=some (.slice (some ⟨q,0,none⟩) 1 1):=by rw[af a2.o];rfl
   go_wp2_with fail;go_still_tail 6,(by kernel_rfl)
   change wpList _ _ _ _ _ (World.drew _);go_wp2_with fail;refine((Fj n 1 z.o.drew (by decide) (by simp)).mono ?_);rintro e eR ⟨rfl,e0,hI,hT,hJ⟩;have bw:=aa hI;have ct:=aa (ak d.o a1.o (ak z.o (dt z.o) hT));have cB:=aa (bu cs.o (bu (i7 (ae _).drew) hJ));have bA:=aa (hT.keep (bQ a2.o) a3.o);have b5:=aa (hT.o (w:=bW.drew) (lt_of_block a2.o) a3.o);have hk:=bw.o.keys (q,nm,off) bv.o;clear hI hT hJ cE;have cE:eR.cell? ⟨X,0,none⟩=some (.slice (some ⟨q,0,none⟩) 1 1):=by rw[af bA.o];rfl
   have ck:=hk.1;have fb:=aa hk.2;clear hk;simp only at ck;go_wp2_with fail;clear cE;go_loopw [86] (fun i wr=>(i=.int .i64 0∨i=.int .i64 1)∧∃r',WI wr k r' {s with bF:=s.bF++ia++(Lib.beBytes 4 M++(s.li.take j).flatMap jU),b1:=if intOf i=0 then Lib.uvarint 1 else Lib.uvarint 1++ed (sb nm),crc:=crc (Lib.beBytes 4 M++(s.li.take j).flatMap jU)}∧WT w k r n wr r'∧WJ w7 k r7 fJ wr r'∧wr.heap[X]? =some (.cells #[.slice (some ⟨q,0,none⟩) 1 1,.int .u64 (off:Nat)] 387 (0,0))∧∀i:Nat,(wl k r')[i]?≠some (some X)) (fun i _=>1-(intOf i).toNat)
   case atStart=>exact⟨.inl rfl,e0,bw.o.cast (by simp[intOf]),ct.o,cB.o,bA.o,b5.o⟩
   case round=>
    obtain⟨hi,fE,hI,hT,hJ,hE,ho⟩:=hrel;have bB:=aa hT;have bE:=aa hJ;have a4:=aa hE;have a5:=aa ho;rcases hi with rfl|rfl
    ·rw[if_pos (by simp[intOf])]at hI;have A:=aa hI;have ck:=(hI.keys (q,nm,off) bv.o).1;simp only at ck;clear hI hT hJ hE ho;generalize wr=w12 at*;go_wp2_with fail;refine((Ak n nm A.o (by have:=U.o.1;omega) (by have:=bh 1 (by decide);simp only;omega)).mono ?_);rintro e a6 ⟨rfl,r13,hI,hT,hJ⟩
     have HF:Hid (WI a6 k r13 {s with bF:=s.bF++ia++(Lib.beBytes 4 M++(s.li.take j).flatMap jU),b1:=Lib.uvarint 1++ed (sb nm),crc:=crc (Lib.beBytes 4 M++(s.li.take j).flatMap jU)}∧WT w k r n a6 r13∧WJ w7 k r7 fJ a6 r13∧a6.heap[X]? =some (.cells #[.slice (some ⟨q,0,none⟩) 1 1,.int .u64 (off:Nat)] 387 (0,0))∧∀i:Nat,(wl k r13)[i]?≠some (some X)):=
      aa ⟨hI.cast (by simp only[ed,dA]),ak d.o bB.o hT,bu bE.o hJ,hT.keep a4.o a5.o,hT.o (lt_of_block a4.o) a5.o⟩
     clear hI hT hJ ck;go_wp2_with fail;exact⟨⟨.inr rfl,r13,by rw[if_neg (by simp[intOf])];exact HF.o.1,HF.o.2⟩,by decide⟩
    ·rw[if_neg (by simp[intOf])]at hI;have A:=aa hI;clear hI hT hJ hE ho;generalize wr=w12 at*;have cE:w12.cell? ⟨X,1,none⟩=some (.int .u64 (off:Nat)):=by rw[af a4.o];rfl
     go_wp2_with fail;go_still_tail 5,(by kernel_rfl)
     change wpList _ _ _ _ _ (World.drew _);go_wp2_with fail;refine((Al n off A.o.drew (by have:=U.o.2;omega) (by have h1:=bh 1 (by decide);have h2:=bh nm.size (by have:=U.o.1;omega);have h3:=U.o.1;simp only[ed,ab,dA];omega)).mono ?_);rintro e a6 ⟨rfl,r13,hI,hT,hJ⟩;have cD:Lib.uvarint 1++ed (sb nm)++Lib.uvarint off=jU (q,nm,off):=by rw[jU,al]
     simp only[cD]at hI;have G:=aa hI;have cF:=aa (ak d.o bB.o (ak A.o (dt A.o) hT));have cL:=aa (bu bE.o (bu (i7 (ae _).drew) hJ));clear hI hT hJ cE cD;have cM:=aa (uj (q,nm,off) U.o.1 U.o.2);have cN:Hid (jU (q,nm,off)≠[]):=aa (by rw[jU,←al];exact Ek _ _);have W:=G.o.cell 44 _ rfl;go_wp2_with fail;go_still_tail 7,(by kernel_rfl)
     change wpList _ _ _ _ _ (World.drew _);go_wp2_with fail;refine((kw n G.o.drew (by have:=cM.o;simp only;omega)).mono ?_);rintro e fN ⟨rfl,fP,hI,hT,hJ⟩;have a7:=aa hI;have cX:=aa (ak d.o cF.o (ak G.o (dt G.o) hT));have cY:=aa (bu cL.o (bu (i7 (ae _).drew) (hJ.mono (by decide))));clear hI hT hJ;clear W;go_wp2_with fail;refine(iC a7.o cN.o).mono ?_;rintro e _ ⟨q3,cap3,N3,rfl,fX,e5,rfl⟩;have b6:=aa (uk (s.li.take j) (fun y hy=>HX.o y (dL hy)));have e6:=aa (cH j s.li);go_wp2_with fail;refine((g4 (n:=n) 65 1 a7.o (by have h1:=Hn.o.1;simp only[ab];omega) (dD a7.o e5.o cN.o (by decide) (by decide)) (by have h1:=Hn.o.2;have h2:=cM.o;have h3:=b6.o;have h4:=e6.o;simp only[ia,ab,aj,ar,cd];omega)).mono ?_);rintro e f0 ⟨rfl,e7,hI,hT,hJ⟩;have cZ:=aa hI;have c6:=aa (ak d.o cX.o hT);have c7:=aa (bu cY.o (hJ.mono (by decide)));clear hI hT hJ;go_wp2_with fail;refine⟨⟨j+1,by omega,rfl,e7,jU (q,nm,off),cZ.o.cast ?_,c6.o,c7.o⟩,by simp only[intOf];omega⟩;simp only[Ht.o,rt,al]
  ·have ej:j=M:=by omega
   subst ej;have et:s.li.take j=s.li:=by rw[HM.o,aS]
   have bS:Hid (WI w8 k r8 {s with bF:=s.bF++(ia++kO s.li),b1:=b8,crc:=crc (kO s.li)}):=aa (O.o.cast (by simp only[et,kO,←HM.o,al]));have b6:=aa (uk s.li HX.o);have hP:=HP;clear O be br;go_wp2_with fail;have hr:=jM n s.bF (kO s.li) bS.o rfl rfl Hn.o.1 (by have h1:=Hn.o.2;have h2:=b6.o;have h3:=HM.o;simp only[kO,ia,ab,aj,ar,cd];omega);rw[←HP.o]at hr;refine hr.mono ?_;rintro e bW ⟨rfl,e8,cp,hI,hT⟩;have z:=aa hI;have a1:=aa (ak d.o cg.o hT);clear hI hT hr;go_wp2_with fail;go_ret;exact⟨rfl,e8,crc (kO s.li),cp,z.o.cast rfl,a1.o⟩
end
section
open Go Go.RowKit Xc Go.Proofs.Tryz
attribute [local go_sem ↓] Go.wp_at_zero Go.wp_at_succ
variable {w:World} {k:WK} {r:WR} {s:WS}
def poE(name value:Bytes)(off:Nat):Bytes:=Lib.uvarint 2++(ed name++(ed value++Lib.uvarint off))
def uD(s:WS)(name value:Bytes)(xs:List Nat)(b1 b2:Bytes)(c:Nat):WS:=
 {s with bP:=s.bP++pad 4 s.bP.length++sec (ey xs),bPO:=s.bPO++poE name value (s.bP++pad 4 s.bP.length).length,cnt:=s.cnt+1,b1:=b1,b2:=b2,crc:=c}
theorem Da(a:Bytes)(x:Nat):a++Lib.uvarint x≠[]:=by intro e;have h1:=congrArg List.length e;have d:=Lib.uvarint_pos x;rw[ab]at h1;simp only[ar]at h1;omega
theorem nU(n q:Nat)(v:Value)(xs:List Nat)(name value:ByteArray)(h:WI w k r s)(hv:nr w v q xs)(hq:∀i:Nat,(wl k r)[i]?≠some (some q))(hx:∀x∈xs,x<4294967296)(hl:xs.length<10000)
 (hP:s.pP=ptr k.FP 0)(a7:s.pPO=ptr k.FPO 0)(G8:name.size<1000)(cL:value.size<1000)(a9:s.bP.length<1000000)(U:s.bPO.length<1000000)(hcnt:s.cnt<1000000):
 Calls prog 204 #[ptr k.W 0,.string name,.string value,v] w fun e w'=>e=.returned .nilIface∧∃b1 b2 c,WP w k r n (uD s (sb name) (sb value) xs b1 b2 c) w':=by
 have bL:=hv;obtain⟨o,cap,rfl,bM,_⟩:=bL;have d:=aa h;have bO:Hid (WT w k r n w r):=aa gZ;have HV:=aa hv;have HQ:=aa hq;have HX:=aa hx;have HL:=aa hl;have Hb:=aa (And.intro a9 U);have HP:=aa hP;have bb:=aa a7;have c1:w.cell? ⟨k.W,1,none⟩=some (ptr k.FP 0):=by rw[h.cell 1 _ rfl,hP]
 obtain⟨M,hM⟩:∃M,M=xs.length:=⟨_,rfl⟩;rw[←hM];have HM:=aa hM;clear h hv hq hx hl a9 U hP a7 hM;go_enter func204,ntmps204
 go_wp2_with fail;refine((GM n 4 d.o (by decide) (by decide) (by have:=Hb.o.1;omega)).mono ?_);rintro e w1 ⟨rfl,r1,hI,hT⟩;have bR:=aa hI;have bS:=aa (ak d.o bO.o hT);clear hI hT;clear c1;go_wp2_with fail;refine((iZ n bR.o).mono ?_);rintro e w2 ⟨rfl,r2,hI,hT⟩;have bW:=aa hI;have b5:=aa (ak d.o bS.o hT);clear hI hT;go_wp2_with fail;refine((FO n 2 bW.o (by decide) (by simp)).mono ?_);rintro e w3 ⟨rfl,r3,hI,hT⟩;have b6:=aa hI;have b7:=aa (ak d.o b5.o hT);clear hI hT;go_wp2_with fail;refine((xv n name b6.o (by omega) (by have:=bh 2 (by decide);simp;omega)).mono ?_);rintro e w4 ⟨rfl,r4,hI,hT⟩;have b8:=aa hI;have b9:=aa (ak d.o b7.o hT);clear hI hT;go_wp2_with fail;refine((xv n value b8.o (by omega) (by have h1:=bh 2 (by decide);have h2:=bh name.size (by omega);simp;omega)).mono ?_);rintro e w5 ⟨rfl,r5,hI,hT⟩;have F:=aa hI;have ca:=aa (ak d.o b9.o hT);clear hI hT;have c1:w5.cell? ⟨k.W,1,none⟩=some (ptr k.FP 0):=by rw[F.o.cell 1 _ rfl];simp only[HP.o]
 obtain⟨p,Hp,cP⟩:=F.o.ppos;have bd:Hid (p<2000000):=aa (by have h1:=Hp.o;have h2:=Hb.o.1;have h3:=jE 4 s.bP.length (by decide);simp only[ab]at h1;omega);go_wp2_with fail;go_still_tail 10,(by kernel_rfl)
 change wpList _ _ _ _ _ (World.drew _);go_wp2_with fail;refine((EM n p F.o.drew (by have:=bd.o;omega) (by have h1:=bh 2 (by decide);have h2:=bh name.size (by omega);have h3:=bh value.size (by omega);simp;omega)).mono ?_);rintro e w6 ⟨rfl,r6,hI,hT⟩;have A:=aa hI;have cc:=aa (ak d.o ca.o (ak F.o (dt F.o) hT));clear hI hT;clear c1 cP;have a0:Hid ([]++Lib.uvarint 2++(Lib.uvarint name.size++sb name)++(Lib.uvarint value.size++sb value)++Lib.uvarint p=poE (sb name) (sb value) p):=aa (by simp[poE,ed]);rw[a0.o]at A;have V:Hid (poE (sb name) (sb value) p≠[]):=aa (by rw[←a0.o];exact Da _ _);have cg:Hid ((poE (sb name) (sb value) p).length<10000):=aa (by have h1:=bh 2 (by decide);have h2:=bh name.size (by omega);have h3:=bh value.size (by omega);have h4:=bh p (by have:=bd.o;omega);rw[←a0.o];simp;omega)
 have c2:w6.cell? ⟨k.W,2,none⟩=some (ptr k.FPO 0):=by rw[A.o.cell 2 _ rfl];simp only[bb.o]
 go_wp2_with fail
 go_region_held3 (fun w'=>w'.cell? ⟨k.W,2,none⟩=some (ptr k.FPO 0)) (go_keep) (first
  |(go_at_call 96;refine(iC A.o.drew V.o).mono ?_;rintro e _ ⟨q1,be,N1,rfl,ck,a1,rfl⟩)
  |(go_at_call 162;refine(yB (n:=n) 65 1 A.o.drew (dD A.o.drew a1.o V.o (by decide) (by decide)) (by have h1:=cg.o;have h2:=Hb.o.2;simp only;omega)).mono ?_;rintro e w7 ⟨rfl,r7,hI,hT⟩;have G:=aa hI;have cn:=aa (ak d.o cc.o (ak A.o (dt A.o) hT));have c2:w7.cell? ⟨k.W,2,none⟩=some (ptr k.FPO 0):=(by rw[G.o.cell 2 _ rfl];simp only[bb.o]);clear hI hT))
 clear c2;obtain⟨C,hC⟩:∃C,C=s.cnt:=⟨_,rfl⟩;rw[←hC]at hcnt;have c3:w7.cell? ⟨k.W,3,none⟩=some (.int .u64 (C:Nat)):=by rw[G.o.cell 3 _ rfl];simp only[hC]
 have f3:=G.o.free 3;have HC:=aa hC;clear hC;obtain⟨bg,bl⟩:=G.o.set_cnt n (C+1);have a2:=aa bg;have a3:=aa (ak d.o cn.o bl);clear bg bl;go_wp2_with fail;rw[show((C:Int)+1)=((C+1:Nat):Int)from by omega];clear c3 f3;revert a2 a3;generalize w7.setCell ⟨k.W,3,none⟩ (.int .u64 ((C+1:Nat):Int))=w8;intro a2 a3;go_wp2_with fail;refine((iZ n a2.o).mono ?_);rintro e w9 ⟨rfl,r9,hI,hT⟩;have O:=aa hI;have a4:=aa (ak d.o a3.o hT);clear hI hT;have cp:=O.o.cell 46 _ rfl;have bn:Hid (nr w9.drew (.slice (some ⟨q,o,none⟩) xs.length cap) q xs):=aa ((HV.o.upd a4.o.upd (fw HQ.o)).upd (ae _).drew (by simp));have cs:Hid (∀i:Nat,(wl k r9)[i]?≠some (some q)):=aa (a4.o.o bM HQ.o);rw[←HM.o]at bn;go_wp2_with fail;go_still_tail 8,(by kernel_rfl)
 change wpList _ _ _ _ _ (World.drew _);go_wp2_with fail;refine((xC n q _ xs O.o.drew bn.o cs.o rfl HX.o (by have:=HL.o;omega)).mono ?_);rintro e cM ⟨rfl,cN,hI,hT⟩;have br:=aa hI;have bv:=aa (ak d.o a4.o (ak O.o (dt O.o) hT));clear hI hT;clear cp;go_wp2_with fail;refine((xw n br.o).mono ?_);rintro e cO ⟨rfl,cX,hI,hT⟩;have W:=aa hI;have bw:=aa (ak d.o bv.o hT);clear hI hT;have a5:Hid (ey xs≠[]):=aa (by intro e;have h1:=congrArg List.length e;rw[ey,ab,cd]at h1;simp only[ar]at h1;omega);have a6:Hid ((ey xs).length=4+4*xs.length):=aa (by rw[ey,ab,cd,gq]);go_wp2_with fail;refine(FN W.o a5.o).mono ?_;rintro e _ ⟨N,rfl,HN,rfl⟩;have hN:N<50000:=by have h1:N=(ey xs).length:=HN.o;have h2:=a6.o;have h3:=HL.o;omega
 have hN2:¬(4294967295:Int)<(N:Int):=by omega
 have ct:(N:Int) % 18446744073709551616=N:=by omega
 go_wp2_with fail;refine((yO n N W.o (by omega) (by simp)).mono ?_);rintro e cY ⟨rfl,cZ,hI,hT⟩;have D:=aa hI;have bA:=aa (ak d.o bw.o hT);clear hI hT;clear hN2 ct;have cA:=D.o.cell 44 _ rfl;go_wp2_with fail;go_still_tail 7,(by kernel_rfl)
 change wpList _ _ _ _ _ (World.drew _);go_wp2_with fail;refine((Bc n D.o.drew (by have h2:=a6.o;have h3:=HL.o;simp only;omega)).mono ?_);rintro e cB ⟨rfl,r13,hI,hT⟩;have z:=aa hI;have bB:=aa (ak d.o bA.o (ak D.o (dt D.o) hT));clear hI hT;clear cA;have c1:cB.cell? ⟨k.W,1,none⟩=some (ptr k.FP 0):=by rw[z.o.cell 1 _ rfl];simp only[HP.o]
 have bE:Hid ((s.bP++pad 4 s.bP.length).length+(([]++Lib.beBytes 4 N).length+(ey xs++Lib.beBytes 4 (crc (ey xs))).length)<1073741824):=aa (by have h2:=a6.o;have h3:=HL.o;have h4:=Hb.o.1;have h5:=jE 4 s.bP.length (by decide);simp only[ab,cd,ar];omega)
 go_wp2_with fail
 go_region_held3 (fun w'=>w'.cell? ⟨k.W,1,none⟩=some (ptr k.FP 0)) (go_keep) (first
  |(go_at_call_of 96 (Value.pointer (some ⟨k.W,12,none⟩));refine(iC z.o.drew (fI _ _)).mono ?_;rintro e _ ⟨q1,be,N1,rfl,ck,a1,rfl⟩)
  |(go_at_call_of 96 (Value.pointer (some ⟨k.W,23,none⟩));refine(Dh z.o.drew (fI _ _)).mono ?_;rintro e _ ⟨q2,G6,N2,rfl,c0,cD,rfl⟩)
  |(go_at_call 162;refine(AK (n:=n) 65 2 z.o.drew (cV.buf2 z.o.drew cD.o (fI _ _) (by decide) (by decide)) (dD z.o.drew a1.o (fI _ _) (by decide) (by decide)) bE.o).mono ?_;rintro e cE ⟨rfl,cF,hI,hT⟩;have ad:=aa hI;have bK:=aa (ak d.o bB.o (ak z.o (dt z.o) hT));have c1:cE.cell? ⟨k.W,1,none⟩=some (ptr k.FP 0):=(by rw[ad.o.cell 1 _ rfl];simp only[HP.o]);clear hI hT))
 all_goals
  go_wp2_with fail;go_ret;refine⟨rfl,ey xs++Lib.beBytes 4 (crc (ey xs)),[]++Lib.beBytes 4 N,crc (ey xs),cF,ad.o.cast ?_,bK.o⟩;have e1:N=(ey xs).length:=HN.o;have e2:p=(s.bP++pad 4 s.bP.length).length:=Hp.o;simp only[uD,sec,←e1,←e2,HC.o,bz,al]
end
section
open Go Go.RowKit Xc Go.Proofs.Tryz
variable {w:World} {k:WK} {r:WR} {s:WS}
abbrev fL:List Nat:=[0,1,6,8,11,13]
def WPL(w:World)(k:WK)(r:WR)(n:Nat)(d:WS)(w':World):Prop:=∃r',WI w' k r' d∧WT w k r n w' r'∧WJ w k r fL w' r'
theorem D5(n x:Nat)(h:WI w k r s)(d:x<4294967296)(hn:s.b1.length<1073741824):Calls prog 198 #[ptr k.W 12,.int .u32 x] w fun e w'=>e=.returned (.tuple #[])∧WPJ w k r n {s with b1:=s.b1++Lib.beBytes 4 x} w':=
 h.j1 n fun c z hE=>o9 _ _ _ c _ _ x _ z hE hn d
theorem yg(n:Nat)(h:WI w k r s)(hn:s.b1.length<1073741824):Calls prog 169 #[ptr k.W 12,xU k] w fun e w'=>e=.returned (.tuple #[])∧WPJ w k r n {s with b1:=s.b1++Lib.beBytes 4 s.crc} w':=
 h.j1 n fun c d hE=>mH _ _ _ c _ _ _ _ _ _ d hE h.dig hn
theorem Fk(n a:Nat)(h:WI w k r s)(hm:n≤s.bF.length)(z:0<a)(d:a<100)(hn:s.bF.length<1000000000):
 Calls prog 165 #[ptr k.F 0,.int .i64 a] w fun e w'=>e=.returned .nilIface∧WPJ w k r n {s with bF:=s.bF++pad a s.bF.length} w':=by
 refine(mx k.F r.gF s.bF a w h.f z d hn).mono ?_;rintro e w' ⟨he,hP,hK⟩;exact⟨he,h.opFJ hm hP hK⟩
theorem GD(n a:Nat)(h:WI w k r s)(hm:n≤s.bF.length)(z:0<a)(d:a<100)(hn:s.bF.length<1000000000):
 Calls prog 99 #[ptr k.W 0,.int .i64 a] w fun e w'=>e=.returned .nilIface∧WPJ w k r n {s with bF:=s.bF++pad a s.bF.length} w':=by
 have D:=h.cell 0 _ rfl;have A:=aa (Fk n a h hm z d hn);clear h hm z d hn;go_enter func99,ntmps99
 go_wp2_with (go_at_call 165;refine A.o.mono ?_;rintro e w1 ⟨rfl,hP⟩);go_ret;exact⟨rfl,hP⟩
theorem WI.opAtJ{w w':World}{k:WK}{r:WR}{s:WS}{bs':Bytes}{n q:Nat}(h:WI w k r s)(hq:r.gF=some q)(h1:FW w' k.F (some q) bs')(h4:Upd [q] w w')(hK:fF w w' r.gF n):WPJ w k r n {s with bF:=bs'} w':=by
 have hu:Upd (gx (wl k r) [8]) w w':=h4.mono (by intro b hm;simp only[ag]at hm;subst hm;exact cu.2 ⟨8,by simp,congrArg some hq⟩)
 have hf:=h.frame _ hu;obtain⟨c,hb⟩:=hf.blk (by simp) (by simp) (by simp) (by simp)
 exact⟨r,⟨⟨c,hb.blk,hb.wf.as rfl,hb.e1,hb.e2,hb.li⟩,by rw[hq];exact h1,hf.fP (by simp) (by simp),hf.fPO (by simp) (by simp),hf.mc (by simp),hf.mn (by simp),hf.dig (by simp) (by simp),
  fun x d=>⟨hf.keys x d,(h.keys x d).2⟩,h.dis,h.lt.mono hu.size⟩,
  ⟨hu.mono (eC (by simp)),fun _ _ e=>.inl e,hK⟩,WJ.mono (J:=[8]) ⟨hu,fun _ _=>rfl,fun _ _ e=>.inl e⟩ (by simp)⟩
theorem GF{v:Value}{b:Bytes}{pos n:Nat}(h:WI w k r s)(F:cV w (wl k r) 1 8 v b)(hm:n≤pos)(d:pos+b.length≤s.bF.length):
 Calls prog 224 #[ptr k.F 0,v,.int .u64 pos] w fun e w'=>e=.returned .nilIface∧WPJ w k r n {s with bF:=eX s.bF pos b} w':=by
 have hb:=List.length_pos_iff.2 F.ne;have hf:=h.f;obtain⟨v0,nm,a2,z⟩:=hf.blk;obtain⟨q,cap,rfl,hq⟩:=z.shape (fun e=>by have h0:s.bF.length=0:=(by rw[e];rfl);omega);rw[hq]at hf;refine(wR k.F q s.bF b pos v w hf F.rd F.ne d).mono ?_;rintro e w' ⟨he,A,hu⟩;refine⟨he,h.opAtJ hq A hu ?_⟩;intro j hj i hi;rw[hq]at hj;cases hj;obtain⟨v1,a3,hb1,D⟩:=A.blk;have hl:=ix s.bF pos b d;have G:i<s.bF.length:=by omega
 obtain⟨q1,ad,rfl,O⟩:=D.shape (fun e=>by have h0:(eX s.bF pos b).length=0:=(by rw[e];rfl);omega);cases O;rw[hq]at z;rcases z.rd with⟨U,_⟩|⟨g0,o0,a4,U,V⟩
 ·cases U
 rcases D.rd with⟨e1,_⟩|⟨g1,o1,a5,e1,W⟩
 ·cases e1
 cases U;cases e1;have a0:=V i G;have a1:=W i (by omega);rw[aK]at a0 a1;rw[a0,a1];have:(eX s.bF pos b)[i]'(by omega)=s.bF[i]:=by unfold eX;rw[gp (by rw[aZ];omega),jO]
 rw[this]
theorem jAt{q N cap:Nat}{b:Bytes}{pos n:Nat}(h:WI w k r s)(z:cV w (wl k r) 1 8 (.slice (some ⟨q,0,none⟩) N cap) b)(hm:n≤pos)(d:pos+b.length≤s.bF.length):
 Calls prog 199 #[ptr k.W 0,.slice (some ⟨q,0,none⟩) N cap,.int .u64 pos] w fun e w'=>e=.returned .nilIface∧WPJ w k r n {s with bF:=eX s.bF pos b} w':=by
 have D:=h.cell 0 _ rfl;have A:=aa (GF h z hm d);clear h z hm d;go_enter func199,ntmps199
 go_wp2_with (go_at_call 224;refine A.o.mono ?_;rintro e w1 ⟨rfl,hP⟩);go_ret;exact⟨rfl,hP⟩
end
section
open Go Go.RowKit Xc Go.Proofs.Tryz
variable {w w':World} {k:WK} {r r':WR} {s:WS}
def poB(es:List (Bytes×Bytes×Nat)):Bytes:=es.flatMap fun x=>poE x.1 x.2.1 x.2.2
def gf(es:List (Bytes×Bytes×Nat)):Bytes:=Lib.beBytes 4 es.length++poB es
def fe(a:Nat)(es:List (Bytes×Bytes×Nat)):List (Bytes×Bytes×Nat):=es.map fun x=>(x.1,x.2.1,x.2.2+a)
theorem xi(a b:Bytes)(o:Nat)(h1:a.length<1000)(d:b.length<1000)(z:o<2000000000):(poE a b o).length<2020:=by have a0:=bh 2 (by decide);have A:=bh a.length (by omega);have a2:=bh b.length (by omega);have a3:=Lib.uvarint_length64 (x:=o) (by omega);simp only[poE,ed,ab];omega
theorem lX(es:List (Bytes×Bytes×Nat))(h:∀x∈es,x.1.length<1000∧x.2.1.length<1000∧x.2.2<2000000000):(poB es).length≤2020*es.length:=by
 induction es with
 |nil=>simp[poB]
 |cons x l d=>
  have h1:=h x (by simp);have A:=xi x.1 x.2.1 x.2.2 h1.1 h1.2.1 h1.2.2;have D:=d (fun y z=>h y (by simp[z]));simp only[poB,aY,ab,aj]at*;omega
theorem nN(es:List (Bytes×Bytes×Nat))(j:Nat)(h:j<es.length):poB (es.drop j)=poE es[j].1 es[j].2.1 es[j].2.2++poB (es.drop (j+1)):=by rw[bf h];rfl
theorem AN(a:Nat)(es:List (Bytes×Bytes×Nat))(j:Nat)(h:j<es.length):poB (fe a (es.take (j+1)))=poB (fe a (es.take j))++poE es[j].1 es[j].2.1 (es[j].2.2+a):=by rw[ax h,fe,aX,poB,aU];simp[poB,fe]
theorem lW(a:Nat)(es:List (Bytes×Bytes×Nat)):(fe a es).length=es.length:=by simp[fe]
structure PF(w:World)(k:WK)(r:WR)(li:List (Nat×ByteArray×Nat))(X p g Z:Nat)(rest:Bytes):Prop where
 dec:cm w p g rest
 box:w.heap[X]? =some (.cells #[ptr Z 0] 235 (0,0))
 op:∀i:Nat,(wl k r)[i]?≠some (some p)
 oX:∀i:Nat,(wl k r)[i]?≠some (some X)
 og:(wl k r)[10]? =some (some g)
 ol:∀x∈li,x.1≠p
 ne:X≠p
theorem PF.nextL{n:Nat}{li:List (Nat×ByteArray×Nat)}{X p g Z:Nat}{rest:Bytes}(h:PF w k r li X p g Z rest)(hI:WI w k r s)(hT:WT w k r n w' r')(hJ:WJ w k r fL w' r'):PF w' k r' li X p g Z rest:=
 ⟨h.dec.upd hJ.upd (fw h.op) (nin hI.dis (i:=10) h.og (by decide)),hT.keep h.box h.oX,
  hT.o (by obtain⟨v,hb,_⟩:=h.dec.blk;exact lt_of_block hb) h.op,hT.o (lt_of_block h.box) h.oX,(hJ.stab 10 (by decide)).trans h.og,h.ol,h.ne⟩
theorem PF.next{n:Nat}{li:List (Nat×ByteArray×Nat)}{X p g Z:Nat}{rest:Bytes}(h:PF w k r li X p g Z rest)(hI:WI w k r s)(hT:WT w k r n w' r')(hJ:WJ w k r fJ w' r'):PF w' k r' li X p g Z rest:=
 h.nextL hI hT (hJ.mono (by decide))
theorem PF.new{li:List (Nat×ByteArray×Nat)}{X p g Z:Nat}{rest:Bytes}(h:PF w k r li X p g Z rest)(hu:Upd [] w w'):PF w' k r li X p g Z rest:=
 ⟨h.dec.upd hu (by simp) (by simp),hu.blk h.box (by simp),h.op,h.oX,h.og,h.ol,h.ne⟩
theorem PF.step{li:List (Nat×ByteArray×Nat)}{X p g Z:Nat}{rest rest':Bytes}(h:PF w k r li X p g Z rest)(hI:WI w k r s)(hl:s.li=li)(d:cm w' p g rest')(hu:Upd [p] w w'):WI w' k r s∧PF w' k r li X p g Z rest':=
 ⟨hI.other hu (fun b hb=>by simp only[ag]at hb;subst hb;exact⟨h.op,fun x z=>h.ol x (hl▸z)⟩),
  d,hu.blk h.box (by simpa using h.ne),h.op,h.oX,h.og,h.ol,h.ne⟩
theorem WT.later{w0 w1 w2:World}{r0 r1:WR}{z:WS}{n p:Nat}(hI:WI w0 k r0 z)(h:WT w0 k r0 n w1 r1)(hu:Upd [p] w1 w2)(D:w0.heap.size≤p):WT w0 k r0 n w2 r1:=by
 refine⟨h.upd.then hu ?_,h.newer,?_⟩
 ·intro b hb hl;simp only[ag]at hb;omega
 ·intro q hq j A;have d:=hI.lt 8 q (congrArg some hq);refine Eq.trans ?_ (h.kept q hq j A);have:=hu.keep q (h.upd.lt d) (by simp only[ag];omega);simp only[World.cell?,this]
def WPD(w0:World)(k:WK)(r0:WR)(n:Nat)(d:WS)(X p g Z:Nat)(rest:Bytes)(w':World):Prop:=∃r',WI w' k r' d∧WT w0 k r0 n w' r'∧PF w' k r' d.li X p g Z rest
end
end Go.Proofs.YtlgefdfflmgocaaGreatDoor
namespace Xc
open Go Go.RowKit
structure nh{α:Type}(cl:α→List Value)(sz:Nat)(w:World)(e:TypeId)(v:Value)(q:Nat)(xs:List α):Prop where
 own:w.ownsRow 0 e sz v xs.length (xs.flatMap cl)
 blk:v.ownBlock=some q
section
variable {α:Type} {cl:α→List Value} {sz:Nat} {w w':World} {e:TypeId} {v:Value} {q:Nat} {xs:List α}
theorem nh.upd{L:List Nat}(h:nh cl sz w e v q xs)(hu:Upd L w w')(hq:q∉L):nh cl sz w' e v q xs:=
 ⟨hu.row h.own (by rw[h.blk];rintro _ ⟨⟩;exact hq),h.blk⟩
theorem nh.shape(h:nh cl sz w e v q xs):∃cap,v=.slice (some ⟨q,0,none⟩) xs.length cap:=by
 rcases h.own.2 with⟨rfl,_⟩|⟨g,cap,cur,rfl,_⟩
 ·exact absurd h.blk (by simp[Value.ownBlock])
 ·have:=h.blk;cases this;exact⟨cap,rfl⟩
theorem nh.lt(h:nh cl sz w e v q xs):q<w.heap.size:=(h.own.lt q h.blk).2
end
def aR{κ α:Type}(bp:Nat)(M:List (κ×Value×Nat×List α)):List Nat:=bp::M.map fun x=>x.2.2.1
structure kj{κ α:Type}(kv:κ→Value)(cl:α→List Value)(sz:Nat)(w:World)(e:TypeId)(base bp:Nat)(M:List (κ×Value×Nat×List α)):Prop where
 o:w.heap[bp]? =some (bI kv (M.map fun x=>(x.1,x.2.1)))
 row:∀x∈M,nh cl sz w e x.2.1 x.2.2.1 x.2.2.2
 dis:(aR bp M).Nodup
 ge:∀b∈aR bp M,base≤b
section
variable {κ α:Type} {kv:κ→Value} {cl:α→List Value} {sz:Nat} {w w':World} {e:TypeId} {base bp:Nat} {M:List (κ×Value×Nat×List α)}
theorem kj.upd{L:List Nat}(h:kj kv cl sz w e base bp M)(hu:Upd L w w')(hL:∀b∈L,b∉aR bp M):kj kv cl sz w' e base bp M:=by have hn:∀b∈aR bp M,b∉L:=fun b hb hl=>hL b hl hb;exact⟨hu.blk h.o (hn _ (by simp[aR])),fun x d=>(h.row x d).upd hu (hn _ (aH _ (List.mem_map.2 ⟨x,d,rfl⟩))),h.dis,h.ge⟩
theorem kj.lt(h:kj kv cl sz w e base bp M):∀b∈aR bp M,b<w.heap.size:=by
 intro b hb;simp only[aR,ah,bU]at hb;rcases hb with rfl|⟨x,d,rfl⟩
 ·exact lt_of_block h.o
 ·exact(h.row x d).lt
variable [DecidableEq κ]
theorem kj.put{k:κ}{v':Value}{q':Nat}{ys:List α}{L:List Nat}{w1:World}(h:kj kv cl sz w e base bp M)(hu:Upd L w w1)
 (hL:∀b∈L,∃v xs,aT k M=some (v,b,xs))(hq:w.heap.size≤q'∨∃v xs,aT k M=some (v,q',xs))(V:base≤q')(hr:nh cl sz w1 e v' q' ys):
 kj kv cl sz (ChangeMaps.setBlock w1 bp (bI kv (cf k v' (M.map fun x=>(x.1,x.2.1))))) e base bp (cf k (v',q',ys) M):=by
 have G:=h.lt;have hd:=List.nodup_cons.1 h.dis;have a1:bp∉L:=fun hm=>by obtain⟨v,xs,d⟩:=hL bp hm;exact hd.1 (List.mem_map.2 ⟨_,mget_mem d,rfl⟩)
 have a2:=hu.blk h.o a1;have hS:Upd [bp] w1 (ChangeMaps.setBlock w1 bp (bI kv (cf k v' (M.map fun x=>(x.1,x.2.1))))):=d9;have W:q'≠bp:=by
  intro e;rcases hq with h1|⟨v,xs,h1⟩
  ·have:=G bp (by simp[aR]);omega
  ·exact hd.1 (e▸List.mem_map.2 ⟨_,mget_mem h1,rfl⟩)
 have D:(ChangeMaps.setBlock w1 bp (bI kv (cf k v' (M.map fun x=>(x.1,x.2.1))))).heap[bp]? =some (bI kv ((cf k (v',q',ys) M).map fun x=>(x.1,x.2.1))):=by rw[gN (lt_of_block a2)];exact congrArg (fun l=>some (bI kv l)) (lI (fun y:Value×Nat×List α=>y.1) k (v',q',ys) M).symm
 have O:=h.ge;cases hk:aT k M with
 |none=>
  have U:L=[]:=by
   cases L with
   |nil=>rfl
   |cons b L=>obtain⟨v,xs,d⟩:=hL b (by simp);rw[hk]at d;cases d
  have ad:w.heap.size≤q':=by
   rcases hq with h1|⟨v,xs,h1⟩
   ·exact h1
   ·rw[hk]at h1;cases h1
  subst U;refine⟨D,?_,?_,?_⟩
  ·intro x d;rw[fu hk]at d;simp only[aA,ag]at d;rcases d with d|rfl
   ·refine((h.row x d).upd hu (by simp)).upd hS ?_;simp only[ag];exact fun e=>hd.1 (List.mem_map.2 ⟨x,d,e⟩)
   ·exact hr.upd hS (by simpa using W)
  ·rw[fu hk];have:aR bp (M++[(k,v',q',ys)])=aR bp M++[q']:=by simp[aR]
   rw[this];exact List.nodup_append.2 ⟨h.dis,by simp,fun x d y hy=>by simp only[ag]at hy;subst hy;intro e;have:=G x d;omega⟩
  ·rw[fu hk];intro b hb;have:aR bp (M++[(k,v',q',ys)])=aR bp M++[q']:=by simp[aR]
   rw[this]at hb;simp only[aA,ag]at hb;rcases hb with hb|rfl
   ·exact O b hb
   ·exact V
 |some z=>
  obtain⟨A,B,hM,a3⟩:=iQ hk;obtain⟨v0,q0,a4⟩:=z;have U:∀b∈L,b=q0:=by intro b hb;obtain⟨v,xs,d⟩:=hL b hb;rw[hk]at d;cases d;rfl
  have ad:q'=q0∨w.heap.size≤q':=by
   rcases hq with h1|⟨v,xs,h1⟩
   ·exact .inr h1
   ·rw[hk]at h1;cases h1;exact .inl rfl
  have hB:∀y:Value×Nat×List α,aR bp (A++(k,y)::B)=(bp::A.map fun x=>x.2.2.1)++([y.2.1]++B.map fun x=>x.2.2.1):=by intro y;simp[aR]
  have F:=h.dis;rw[hM,hB]at F G;have a0:∀x,x∈A∨x∈B→x.2.2.1∉L∧x.2.2.1≠bp:=by
   intro x d;have hm:x∈M:=by rw[hM];simp only[aA,ah];rcases d with h1|h1;exact .inl h1;exact .inr (.inr h1)
   refine⟨fun hl=>?_,fun e=>hd.1 (List.mem_map.2 ⟨x,hm,e⟩)⟩;have e:=U _ hl;have h1:=List.nodup_append.1 F;rcases d with d|d
   ·exact h1.2.2 x.2.2.1 (aH _ (List.mem_map.2 ⟨x,d,rfl⟩)) q0 (by simp) e
   ·exact(List.nodup_append.1 h1.2.1).2.2 q0 (by simp) x.2.2.1 (List.mem_map.2 ⟨x,d,rfl⟩) e.symm
  rw[a3]at D⊢;refine⟨D,?_,?_,?_⟩
  ·intro x d;simp only[aA,ah]at d;have hm:∀x,x∈A∨x∈B→x∈M:=by intro x d;rw[hM];simp only[aA,ah];rcases d with h1|h1;exact .inl h1;exact .inr (.inr h1)
   rcases d with d|rfl|d
   ·have h2:=a0 x (.inl d);exact((h.row x (hm x (.inl d))).upd hu h2.1).upd hS (by simpa using h2.2)
   ·exact hr.upd hS (by simpa using W)
   ·have h2:=a0 x (.inr d);exact((h.row x (hm x (.inr d))).upd hu h2.1).upd hS (by simpa using h2.2)
  ·rw[hB];exact oj (m:=[q0]) (m':=[q']) (n:=w.heap.size) F (by simp) (by simpa using ad) G
  ·intro b hb;rw[hB]at hb;rw[hM,hB]at O;simp only[aA,ag]at hb;rcases hb with hb|rfl|hb
   ·exact O b (by simp only[aA];exact .inl hb)
   ·exact V
   ·exact O b (by simp only[aA];exact .inr (.inr hb))
end
def jy{κ α:Type}(M:List (κ×Value×Nat×List α)):List (κ×List α):=M.map fun x=>(x.1,x.2.2.2)
theorem nv{κ α:Type}[DecidableEq κ](k:κ)(M:List (κ×Value×Nat×List α)):aT k (jy M)=(aT k M).map fun y=>y.2.2:=fq (fun y:Value×Nat×List α=>y.2.2) k M
theorem pD{κ α:Type}[DecidableEq κ](k:κ)(v:Value)(q:Nat)(xs:List α)(M:List (κ×Value×Nat×List α)):jy (cf k (v,q,xs) M)=cf k xs (jy M):=lI (fun y:Value×Nat×List α=>y.2.2) k (v,q,xs) M
end Xc
