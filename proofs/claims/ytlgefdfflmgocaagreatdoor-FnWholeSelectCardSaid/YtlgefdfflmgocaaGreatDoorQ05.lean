import Derived.Test.YtlgefdfflmgocaaGreatDoorQ04
import Derived.Deep.DeepCutAuto
set_option linter.all false
set_option maxRecDepth 100000
set_option maxHeartbeats 8000000
namespace Go.Proofs.YtlgefdfflmgocaaGreatDoor
section
open Go Go.RowKit Xc Go.Proofs.Tryz
attribute [local go_sem ↓] Go.wp_at_zero Go.wp_at_succ
variable {w:World} {k:WK} {r:WR} {s:WS}
theorem fT(w:World)(b i j:Nat)(v:Value)(h:i≠j):(w.setCell ⟨b,i,none⟩ v).cell? ⟨b,j,none⟩=w.cell? ⟨b,j,none⟩:=by
 simp only[World.setCell,World.cell?,im];simp;cases hb:w.heap[b]?with
 |none=>simp
 |some o=>
  cases o<;>simp;rw[ba h]
theorem lV(a b b' c:Bytes)(pos:Nat)(d:pos=a.length)(h:b.length=b'.length):eX (a++(b++c)) pos b'=a++(b'++c):=by subst d;unfold eX;rw[List.take_left,←h,←al a b c,show a.length+b.length=(a++b).length by simp,eZ]
theorem yy(a b b':Bytes)(pos:Nat)(d:pos=a.length)(h:b.length=b'.length):eX (a++b) pos b'=a++b':=by have:=lV a b b' [] pos d h;simpa using this
structure lw(w:World)(k:WK)(r:WR)(S g N cap:Nat)(rr:Option Nat)(bs:Bytes)(a:Nat)(l:List Bytes):Prop where
 tab:kk w S (.slice (some ⟨g,0,none⟩) N cap) g rr bs a l
 oS:∀i:Nat,(wl k r)[i]?≠some (some S)
 oR:∀q,rr=some q→∀i:Nat,(wl k r)[i]?≠some (some q)
 row:r.gF=some g∨∀i:Nat,(wl k r)[i]?≠some (some g)
theorem kk.lt{S g:Nat}{v:Value}{rr:Option Nat}{bs:Bytes}{a:Nat}{l:List Bytes}(h:kk w S v g rr bs a l):S<w.heap.size∧g<w.heap.size∧∀q,rr=some q→q<w.heap.size:=by obtain⟨z,hb,hr,d,e⟩:=h.blk;exact⟨lt_of_block hb,hr.lt,fun q hq=>(d.lt q (by rw[e];exact hq)).2⟩
theorem lw.next{S g N cap:Nat}{rr:Option Nat}{bs:Bytes}{a:Nat}{l:List Bytes}{w':World}{r':WR}{n:Nat}(h:lw w k r S g N cap rr bs a l)(hI:WI w k r s)(hT:WT w k r n w' r')(hn:bs.length≤n):lw w' k r' S g N cap rr bs a l:=by
 obtain⟨G,hb,hr,O,e⟩:=h.tab.blk;have d:=h.tab.lt;refine⟨⟨G,hT.keep hb h.oS,?_,hT.upd.row O (fun q hq=>fw (h.oR q (by rw[←e];exact hq))),e⟩,hT.o d.1 h.oS,fun q hq=>hT.o (d.2.2 q hq) (h.oR q hq),?_⟩
 ·rcases h.row with hg|hg
  ·obtain⟨off,cap',e2,A,z⟩:=hr;cases e2;refine⟨0,cap,rfl,⟨A.1,hT.upd.lt A.2⟩,fun j U=>?_⟩;rw[←z j U];exact hT.kept g hg (0+j) (by omega)
  ·exact hr.upd hT.upd (fw hg)
 ·rcases h.row with hg|hg
  ·by_cases he:r'.gF=some g
   ·exact .inl he
   ·refine .inr fun i D=>?_;rcases hT.newer i g D with F|F
    ·have:=hI.dis i 8 g F (congrArg some hg);subst this;exact he (cI D)
    ·have:=d.2.1;omega
  ·exact .inr (hT.o d.2.1 hg)
theorem WI.drew(h:WI w k r s):WI w.drew k r s:=h.new (ae w).drew
theorem WT.drew{n:Nat}(h:WI w k r s):WT w k r n w.drew r:=dN h (ae w).drew
theorem fI(a:Bytes)(x:Nat):a++Lib.beBytes 4 x≠[]:=by intro h;have:=congrArg List.length h;simp[cd]at this
theorem WI.out_of(h:WI w k r s){b:Nat}(hb:w.heap.size≤b):∀i:Nat,(wl k r)[i]?≠some (some b):=fun i e=>by have:=h.lt i _ e;omega
theorem gl.shapeN{v:Value}{g:Option Nat}{bs:Bytes}(h:gl w v g bs)(hb:bs≠[]):∃q cap N,v=.slice (some ⟨q,0,none⟩) N cap∧Hid (N=bs.length)∧g=some q∧N≤cap:=by
 rcases h.own.2 with⟨_,e⟩|⟨q,cap,cur,e,_,_,d,_⟩
 ·exact absurd (dh e) hb
 ·exact⟨q,cap,_,e,aa rfl,by rw[←h.blk,e];rfl,d⟩
theorem gl.rdG{q N cap':Nat}{v:Value}{bs:Bytes}(h:gl w v (some q) bs)(hb:bs≠[])(hN:N=bs.length)(z:N≤cap'):RdG w (.slice (some ⟨q,0,none⟩) N cap') q bs:=by
 obtain⟨A,c1,rfl,hq⟩:=h.shape hb;cases hq;rcases h.rd with⟨e,_⟩|⟨g,off,c2,e,d⟩
 ·cases e
 ·cases e;exact⟨0,cap',by rw[hN],⟨by omega,h.lt q rfl⟩,d⟩
theorem WI.rdF{q N cap:Nat}(h:WI w k r s)(hq:r.gF=some q)(hb:s.bF≠[])(hN:N=s.bF.length)(d:N≤cap):RdG w (.slice (some ⟨q,0,none⟩) N cap) q s.bF:=by obtain⟨v,nm,_,hr⟩:=h.f.blk;rw[hq]at hr;exact hr.rdG hb hN d
def Bs(w:World)(k:WK)(r:WR)(S g:Nat)(rr:Option Nat):Prop:=w.heap.size≤S∧(∀q,rr=some q→w.heap.size≤q)∧((wl k r)[8]? =some (some g)∨w.heap.size≤g)
def wP(w:World)(k:WK)(r:WR)(s:WS)(syms:List Bytes)(w':World):Prop:=
 ∃S g N cap rr Z d r',WI w' k r' {s with bF:=dE++sec (bi syms),b1:=d,symV:=ptr S 0,sfV:=ptr Z 0}∧WT w k r 5 w' r'∧lw w' k r' S g N cap rr (dE++sec (bi syms)) 5 syms∧Bs w k r S g rr
theorem ml(syms:List Bytes)(h:WI w k r s)(hF:s.bF=dE++(eP++bj syms))(ht:s.t0=5)(hns:s.nsym=syms.length)(hl:syms.length<65536)(hs:∀x∈syms,x.length<2097152)(hlen:s.bF.length<1000000):
 Calls prog 154 #[ptr k.W 0] w fun e w'=>e=.returned .nilIface∧wP w k r s syms w':=by
 have d:=aa h;have fs:Hid (WT w k r 5 w r):=aa gZ;obtain⟨x,hx⟩:∃x,x=4+(bj syms).length:=⟨_,rfl⟩;have hP:s.bF.length=x+9:=by rw[hF,hx,ab,ab,bq];simp[eP];omega
 have ft:x<1000000:=by omega
 have c0:=d.o.cell 0 _ rfl;have c4:w.cell? ⟨k.W,4,none⟩=some (.int .u64 5):=by rw[d.o.cell 4 _ rfl,ht];rfl
 have cP:w.cell? ⟨k.F,1,none⟩=some (.int .u64 ((x+9:Nat):Int)):=by obtain⟨P,HP,hp⟩:=d.o.fpos;rw[hp,HP.o,hP]
 have HF:=aa hF;have Ht:=aa ht;have b9:=aa hns;have Hl:=aa hl;have Hs:=aa hs;have Hx:=aa hx;clear h hF ht hns hl hs hlen hx hP;go_enter func154,ntmps154
 go_wp2_with fail;go_quiet (fail)
 go_wp2_with fail;rw[show((x:Int)+9-5-4)=(x:Int)from by omega];have bL:Upd [] w (w.drewN nq):=(ae w).drewN nq;have dF:=aa (d.o.new bL);have dP:Hid (WT w k r 5 (w.drewN nq) r):=aa (dN d.o bL);clear bL c0 c4 cP;go_wp2_with fail;refine((iZ 5 dF.o).mono ?_);rintro e w2 ⟨rfl,r2,hI,hT⟩;have dT:=aa hI;have d0:=aa (ak d.o dP.o hT);clear hI hT;go_wp2_with fail;refine((l9 5 x dT.o (by omega) (by simp)).mono ?_);rintro e w3 ⟨rfl,r3,hI,hT⟩;have bb:=aa hI;have ea:=aa (ak d.o d0.o hT);clear hI hT;go_wp2_with fail;have ca:w3.cell? ⟨k.W,34,none⟩=some (.int .i64 (syms.length:Nat)):=by rw[bb.o.cell 34 _ rfl];simp only[b9.o]
 go_region_held3 (fun w'=>w'.cell? ⟨k.W,34,none⟩=some (.int .i64 (syms.length:Nat))) (go_keep) ((go_at_call 197;refine(l9 5 syms.length bb.o.drew (by have:=Hl.o;omega) (by simp[cd])).mono ?_;rintro e w4 ⟨rfl,r4,hI,hT⟩;have U:=aa hI;have eb:=aa (ak d.o ea.o (ak bb.o (WT.drew bb.o) hT));have ca:w4.cell? ⟨k.W,34,none⟩=some (.int .i64 (syms.length:Nat)):=(by rw[U.o.cell 34 _ rfl];simp only[b9.o]);clear hI hT))
 clear ca;go_wp2_with fail;have ef:Hid (eX s.bF 5 ([]++Lib.beBytes 4 x++Lib.beBytes 4 syms.length)=dE++(Lib.beBytes 4 x++Lib.beBytes 4 syms.length++bj syms)):=aa (by rw[HF.o,bz];exact lV _ _ _ _ _ (by simp[bq]) (by simp[eP,cd]))
 have eg:Hid (5+([]++Lib.beBytes 4 x++Lib.beBytes 4 syms.length).length≤s.bF.length):=aa (by rw[HF.o];simp[cd,bq,eP];omega);have c4:w4.cell? ⟨k.W,4,none⟩=some (.int .u64 5):=by rw[U.o.cell 4 _ rfl];simp only[Ht.o];rfl
 go_region_held3 (fun w'=>w'.cell? ⟨k.W,4,none⟩=some (.int .u64 5)) (go_keep) (first
  |(go_at_call 96;refine(iC U.o.drew (fI _ _)).mono ?_;rintro e _ ⟨q,cap,N,rfl,HN,HB,rfl⟩)
  |(go_at_call 199;refine(wAt (n:=5) U.o.drew (dD U.o.drew HB.o (fI _ _) (by decide) (by decide)) (aw _) eg.o).mono ?_;rintro e w5 ⟨rfl,r5,hI,hT⟩;rw[ef.o]at hI;have a1:=aa hI;have ei:=aa (ak d.o eb.o (ak U.o (WT.drew U.o) hT));have c4:w5.cell? ⟨k.W,4,none⟩=some (.int .u64 5):=(by rw[a1.o.cell 4 _ rfl];simp only[Ht.o];rfl);clear hI hT))
 have ej:Hid (5≤(dE++(Lib.beBytes 4 x++Lib.beBytes 4 syms.length++bj syms)).length):=aa (by simp[bq]);have el:Hid ((dE++(Lib.beBytes 4 x++Lib.beBytes 4 syms.length++bj syms)).length+([104,97,115,104]:Bytes).length<1073741824):=aa (by have:=Hx.o;simp[bq,cd];omega);have c0:=a1.o.cell 0 _ rfl;have cP:w5.cell? ⟨k.F,1,none⟩=some (.int .u64 ((x+9:Nat):Int)):=by obtain⟨P,HP,hp⟩:=a1.o.fpos;rw[hp,HP.o];have:=Hx.o;congr 2;simp[bq,cd];omega
 have kc:=fun(w:World) (C:Array Value) (n c:Nat)=>Lib.run_convert_bytes_const (P:=prog) w 65 5 C n c underlying65 underlying5;clear c4;go_wp2_with fail;obtain⟨w6,cc,bM,be,bg⟩:=nH w5 #[.int .u8 104,.int .u8 97,.int .u8 115,.int .u8 104] [104,97,115,104] 5 4 4 (4,5) rfl rfl;rw[←cc,←bg];have ep:=aa (a1.o.new bM);have et:=aa (ak d.o ei.o (dN a1.o bM));have cg:=aa be;have ev:=aa a1.o.size_out;clear cc bM be bg c0 cP;go_wp2_with fail;refine((jK 65 1 ep.o (ej.o) (cV.o cg.o (by simp) rfl ev.o) el.o).mono ?_);rintro e w7 ⟨rfl,r7,hI,hT⟩;have a2:=aa hI;have eE:=aa (ak d.o et.o hT);clear hI hT;have c0:=a2.o.cell 0 _ rfl;have bl:Hid (dE++(Lib.beBytes 4 x++Lib.beBytes 4 syms.length++bj syms)++[104,97,115,104]≠[]):=aa (by simp)
 go_wp2_with (first
  |(go_at_call 173;refine(jz _ _).mono ?_;rintro e w8 ⟨rfl,rfl⟩)
  |(go_at_call 200;refine(tA k.F r7.gF _ _ a2.o.f).mono ?_;rintro e w8 ⟨Z,v8,rfl,hZ,hv,ck,bO⟩;obtain⟨O,A,N1,rfl,bR,cn,a3⟩:=hv.shapeN bl.o;have bS:=aa (a2.o.new bO);have eG:=aa (ak d.o eE.o (dN a2.o bO));have eN:=aa hZ;have fv:=aa hv;have cp:=aa (a2.o.out_of ck);have f36:=bS.o.free 36;have D:=bS.o.cell 36 _ rfl;clear hZ hv bO ck c0))
 obtain⟨cs,bW⟩:=bS.o.set_sfV 5 (ptr Z 0);have V:=aa cs;have b5:=aa (ak d.o eG.o bW);have a4:=aa (bW.keep eN.o cp.o);have eR:Hid (∀w' s' r',WI w' k r' s'→r'.gF=some O→s'.bF=dE++(Lib.beBytes 4 x++Lib.beBytes 4 syms.length++bj syms)++[104,97,115,104]→Rd w' (.slice (some ⟨O,9,none⟩) x (A-9)) (bi syms)):=aa (fun w' s' r' h1 h2 h3=>by have hr:=h1.rdF h2 (by rw[h3];exact bl.o) (bR.o.trans (by rw[h3])) a3;obtain⟨o,c,N,e,_,_,_,_,K⟩:=hr.mid (a:=dE++Lib.beBytes 4 x) (l:=bi syms) (c:=[104,97,115,104]) (s:=9) (e:=x+9) (by rw[h3];simp[bi]) (by simp[bq,cd]) (by have:=Hx.o;simp[bq,cd,bi];omega);cases e;have:=K.o 9 (fun _=>rfl);rw[show x+9-9=x by omega]at this;exact this.rd)
 have ct:N1=x+13:=by have h1:=bR.o;have h2:=Hx.o;rw[h1];simp[bq,cd];omega
 have e0:(A=9)=False:=by simp;omega
 have e5:(x:Int)+9≤(A:Int):=by omega
 have e6:(9:Int)≤(x:Int)+9:=by omega
 have e7:IntKind.u64.wrap 9=9:=by decide
 have cA:=aa cn;have e8:Hid ((bi syms).length<1073741824):=aa (by have:=Hx.o;simp[bi,cd];omega);have e9:=aa a3;clear cs bW cn a3 ct D f36;revert V b5 a4;generalize w8.setCell ⟨k.W,36,none⟩ (ptr Z 0)=w9;intro V b5 a4;have D:=V.o.cell 36 _ rfl;have c4:w9.cell? ⟨k.W,4,none⟩=some (.int .u64 5):=by rw[V.o.cell 4 _ rfl];simp only[Ht.o];rfl
 simp only at D;go_cut [10] (fun v wx=>v=.int .u32 (crc (bi syms))∧Upd [] w9 wx)
 case first=>
  go_region_held3 (fun w'=>w'.cell? ⟨k.W,36,none⟩=some (ptr Z 0)∧w'.cell? ⟨k.W,4,none⟩=some (.int .u64 5)) (go_keep) (first
   |(go_at_call 201;refine(ma Z _ _ (by first|exact a4.o|exact W.o)).mono ?_;rintro e _ ⟨rfl,rfl⟩)
   |(go_at_call 58;refine(eL _).mono ?_;rintro e fa ⟨tb,rfl,ht,_,hu⟩;have a5:=aa ht;have G:=aa (cz hu);have W:=aa (G.o.blk a4.o (by simp));have D:=G.o.cell (by simp) D;have c4:=G.o.cell (by simp) c4;clear ht hu)
   |(go_at_call 183;refine(tB _ ld _ (bi syms) _ (eR.o _ _ _ (V.o.new G.o) cA.o rfl) a5.o.cell e8.o (by decide)).mono ?_;rintro e fb ⟨rfl,rfl⟩))
  all_goals
   go_wp2_with fail;go_meet
   exact⟨rfl,G.o⟩
 case rest=>
  obtain⟨rfl,ad⟩:=hcut;have a6:=aa (V.o.new ad);have a5:=aa (ak d.o b5.o (dN V.o ad));have W:=aa (ad.blk a4.o (by simp));have fA:=aa (lt_of_block W.o);rw[show((x:Int)+9)=((x+9:Nat):Int)from by omega];clear ad D c4 e5 e6 e0 e7 kc;generalize wc=fa at*;go_wp2_with fail;refine((Bd 5 a6.o).mono ?_);rintro e fb ⟨rfl,fE,hI,hT,bn⟩;have cB:=aa hI;have cD:=aa hT;have cE:=aa bn;clear hI hT bn;go_wp2_with fail;refine((CP 5 (crc (bi syms)) cB.o (sw _) (by simp)).mono ?_);rintro e fN ⟨rfl,fP,hI,hT,br⟩;have a7:=aa hI;have cF:=aa (ak a6.o cD.o hT);have cL:=aa br;clear hI hT br;go_wp2_with fail;refine(iC a7.o (fI _ _)).mono ?_;rintro e _ ⟨q2,G6,N2,rfl,fX,fc,rfl⟩;have cM:Hid (eX (dE++(Lib.beBytes 4 x++Lib.beBytes 4 syms.length++bj syms)++[104,97,115,104]) (x+9) ([]++Lib.beBytes 4 (crc (bi syms)))=dE++sec (bi syms)):=aa (by
   have h2:=Hx.o;rw[bz,yy _ _ _ _ (by simp[bq,cd];omega) (by simp[cd])];have h3:(bi syms).length=x:=by simp[bi,cd];omega
   unfold sec;rw[h3];simp[bi])
  have cN:Hid (x+9+([]++Lib.beBytes 4 (crc (bi syms))).length≤(dE++(Lib.beBytes 4 x++Lib.beBytes 4 syms.length++bj syms)++[104,97,115,104]).length):=aa (by have h2:=Hx.o;simp[bq,cd];omega);have fk:Hid (5≤x+9):=aa (by omega);go_wp2_with fail;refine(FS (n:=5) a7.o (dD a7.o fc.o (fI _ _) (by decide) (by decide)) fk.o cN.o).mono ?_;rintro e cO ⟨rfl,r13,hI,hT,bv⟩;rw[cM.o]at hI;have z:=aa hI;have bw:=aa (ak a6.o cF.o hT);have a9:=aa (ak d.o a5.o bw.o);have a0:Hid (r13.gF=some O):=aa (by rw[bv,cL.o,cE.o,cA.o]);clear hI hT bv;have cX:=aa (bw.o.keep W.o cp.o);have cY:Hid (∀w',Upd [] cO w'→RdG w' (.slice (some ⟨O,0,none⟩) N1 A) O (dE++sec (bi syms))):=aa (fun w' hu=>(z.o.new hu).rdF a0.o (by simp[dE]) (by rw[bR.o];simp[sec,bi,cd]) (by have:=e9.o;omega));have fr:Hid (∀w',RdG w' (.slice (some ⟨O,0,none⟩) N1 A) O (dE++sec (bi syms))→Calls prog 176 #[.iface 139 (.slice (some ⟨O,0,none⟩) N1 A),.int .i64 2,.int .i64 5] w' fun e cZ=>∃S r,e=.returned (.tuple #[.pointer (some ⟨S,0,none⟩),.nilIface])∧kk cZ S (.slice (some ⟨O,0,none⟩) N1 A) O r (dE++sec (bi syms)) 5 syms∧w'.heap.size≤S∧(∀k,r=some k→w'.heap.size≤k)∧Upd [] w' cZ):=aa (fun w' hr=>
   pq O _ _ dE [] syms w' hr (by rw[bk]) (by have:=Hx.o;rw[ab,dx];simp[bq,bi,cd];omega) Hl.o Hs.o)
  go_wp2_with fail;have D:=z.o.cell 36 _ rfl;have c4:cO.cell? ⟨k.W,4,none⟩=some (.int .u64 5):=by rw[z.o.cell 4 _ rfl];simp only[Ht.o];rfl
  have f35:=z.o.free 35;have bd:=z.o.cell 35 _ rfl;simp only at D bd
  go_region_held3 (fun w'=>w'.cell? ⟨k.W,36,none⟩=some (ptr Z 0)∧w'.cell? ⟨k.W,4,none⟩=some (.int .u64 5)) (first|go_keep|(go_split_ands;refine⟨?_,?_⟩<;>(rw[fT _ _ _ _ _ (by decide)];assumption))) (first
   |(go_at_call 201;refine(ma Z _ _ (by exact cX.o)).mono ?_;rintro e _ ⟨rfl,rfl⟩)
   |(go_at_call 176;refine(fr.o _ (cY.o _ (ae _).drew)).mono ?_;rintro e b6 ⟨S,rr,rfl,hS,b7,b8,hu⟩;have c6:=aa hS;have F:=aa (cz hu);have D:=F.o.cell (by simp) D;have c4:=F.o.cell (by simp) c4;have bd:=F.o.cell (by simp) bd;have f35:=(z.o.new F.o).free 35;have c7:=aa (z.o.out_of b7);have c8:=aa (fun q hq=>z.o.out_of (b8 q hq));have c9:=aa (And.intro b7 b8);clear hS hu b7 b8))
  have dc:=aa (z.o.new F.o);have dd:=aa (ak d.o a9.o (dN z.o F.o));obtain⟨bA,bB⟩:=dc.o.set_symV 5 (ptr S 0);have dj:k.W≠O:=z.o.dis.ne (i:=0) (j:=8) rfl (congrArg some a0.o) (by decide);have dk:S≠k.W:=fun e=>c7.o 0 (by rw[e];rfl);have dp:∀q,rr=some q→q≠k.W:=fun q hq e=>c8.o q hq 0 (by rw[e];rfl)
  have bE:lw (b6.setCell ⟨k.W,35,none⟩ (ptr S 0)) k r13 S O N1 A rr (dE++sec (bi syms)) 5 syms:=
   ⟨c6.o.upd (L:=[k.W]) (((ae b6).mono (by simp)).setCell (by simp) _) (by simpa using dk) (by simpa using aF dj) (fun q hq=>by simpa using dp q hq),c7.o,c8.o,.inl a0.o⟩
  have bK:=a9.o.upd.size;have ds:Bs w k r S O rr:=⟨aW bK c9.o.1,fun q hq=>aW bK (c9.o.2 q hq),by
   rcases a9.o.newer 8 O (congrArg some a0.o)with h|h
   ·exact .inl h
   ·exact .inr h⟩
  have HF:Hid (wP w k r s syms (b6.setCell ⟨k.W,35,none⟩ (ptr S 0))):=aa ⟨S,O,N1,A,rr,Z,_,r13,bA,ak d.o dd.o bB,bE,ds⟩;clear D c4 bd f35 bA bB bE dj dk dp;go_wp2_with fail;go_ret;exact⟨rfl,HF.o⟩
abbrev dt:=@WT.drew
end
section
open Go Go.RowKit Xc Go.Proofs.Tryz
attribute [local go_sem ↓] Go.wp_at_zero Go.wp_at_succ
variable {w:World} {k:WK} {r:WR} {s:WS}
theorem Fe(c:Array Value):Array.foldl (fun(cs:Array Value) (x:Value×Nat)=>cs.setIfInBounds x.2 x.1) c ((#[]:Array Value).zipIdx) 0 0=c:=rfl
abbrev gn(k:WK):Array Value:= #[ptr k.F 0,ptr k.FP 0,ptr k.FPO 0,.int .u64 0,.int .u64 0,.int .u64 0,.int .u64 0,.int .u64 0,.int .u64 0,.int .u64 0,.int .u8 0,.int .u64 0,.slice none 0 0,.int .u8 0,.int .u8 0,.int .u8 0,.int .u8 0,.int .u8 0,.int .u8 0,.int .u8 0,.int .u8 0,.int .u8 0,.int .u8 0,.slice none 0 0,.int .u8 0,.int .u8 0,.int .u8 0,.int .u8 0,.int .u8 0,.int .u8 0,.int .u8 0,.int .u8 0,.int .u8 0,.int .u8 0,.int .i64 0,.pointer none,.pointer none,.string ⟨#[]⟩,.map (some k.MC),.slice none 0 0,.map (some k.MN),.string ⟨#[]⟩,.int .u64 0,.int .u64 0,xU k,.int .i64 0,.func (.func 152) #[] #[]]
def wr0:WR:=⟨none,none,none,none,none,none⟩
def ws0(k:WK):WS:=
 {bF:=[],bP:=[],bPO:=[],b1:=[],b2:=[],pP:=ptr k.FP 0,pPO:=ptr k.FPO 0,cnt:=0,t0:=0,t1:=0,t2:=0,t3:=0,t4:=0,t5:=0,stage:=0,pst:=0,nsym:=0,symV:=.pointer none,sfV:=.pointer none,
  lastSym:=⟨#[]⟩,cache:=[],li:=[],names:=[],lastSer:=⟨#[]⟩,lastRef:=0,lastChunk:=0,crc:=0}
theorem xV(l:List Nat)(m:Nat)(h:l.Nodup):Dis (l.map some++List.replicate m none):=by
 have key:∀i b:Nat,(l.map some++List.replicate m none)[i]? =some (some b)→l[i]? =some b:=by
  intro i b e;rw[kI]at e;split at e
  ·simpa using e
  ·rw[List.getElem?_replicate]at e;split at e<;>simp at e
 intro i j b h1 d;have e1:=key i b h1;have e2:=key j b d;have z:=(List.getElem?_eq_some_iff.1 e1).1;exact(List.getElem?_inj z h).1 (e1.trans e2.symm)
theorem rG{l:List Nat}{m i b:Nat}(e:(l.map some++List.replicate m none)[i]? =some (some b)):b∈l:=by
 rw[kI]at e;split at e
 ·simp at e;exact bY e
 ·rw[List.getElem?_replicate]at e;split at e<;>simp at e
theorem wl0(k:WK):wl k wr0=([k.W,k.F,k.FP,k.FPO,k.MC,k.MN,k.D,k.tb].map some++List.replicate 6 none):=rfl
theorem E9(w:World)(p o:Nat)(c:Array Value)(d:c[o]? =some (.slice none 0 0))(hs:∀j,j<10→c[o+1+j]? =some (.int .u8 0)):fy w p o c none []:=
 ⟨⟨_,d,iq _ _ _ _,rfl⟩,fun j z=>⟨0,hs j z⟩,by simp⟩
theorem wf0(k:WK):WF (gn k) k (ws0 k):=⟨rfl,fun i v D=>by
 have hl:i<47:=by have:=(List.getElem?_eq_some_iff.1 D).1;exact this
 have e:(gn k).toList.map some=(wfl k (ws0 k)).zipWith (fun a b=>(if a.isSome then a else some b)) (gn k).toList:=rfl;have d:=congrArg (fun l=>l[i]?) e;simp only[cx,List.getElem?_zipWith,D]at d;have z:i<(gn k).toList.length:=hl;rw[az z]at d;simp at d;have A:i<(gn k).size:=hl;rw[dm A];simpa using d⟩
theorem WI.mk0{w:World}{k:WK}(hb:w.heap[k.W]? =some (.cells (gn k) 243 (0,0)))(D:FW w k.F none [])(hP:FW w k.FP none [])(d:FW w k.FPO none [])(h1:w.heap[k.MC]? =some (.map #[] 0))(F:w.heap[k.MN]? =some (.map #[] 0))(A:Dig w k.D k.tb 0)
 (hn:[k.W,k.F,k.FP,k.FPO,k.MC,k.MN,k.D,k.tb].Nodup):WI w k wr0 (ws0 k):=by
 refine⟨⟨_,hb,wf0 k,E9 _ _ _ _ rfl ?_,E9 _ _ _ _ rfl ?_,_,rfl,iq _ _ _ _,rfl⟩,D,hP,d,h1,F,A,by simp[ws0],by rw[wl0];exact xV _ _ hn,?_⟩
 ·intro j z;match j,z with
  |0,_|1,_|2,_|3,_|4,_|5,_|6,_|7,_|8,_|9,_=>rfl
  |j+10,z=>omega
 ·intro j z;match j,z with
  |0,_|1,_|2,_|3,_|4,_|5,_|6,_|7,_|8,_|9,_=>rfl
  |j+10,z=>omega
 ·intro i b e;rw[wl0]at e;have hm:=rG e;have l1:=lt_of_block hb;have l2:=D.lt;have G:=hP.lt;have O:=d.lt;have U:=lt_of_block h1;have V:=lt_of_block F;have W:=lt_of_block A.blk;have l8:=lt_of_block A.tab;simp only[ah,ai,or_false]at hm;rcases hm with rfl|rfl|rfl|rfl|rfl|rfl|rfl|rfl<;>assumption
def lk(base:Nat)(v:Value)(w d:World):Prop:=∃k,v=ptr k.W 0∧WI d k wr0 (ws0 k)∧(∀i b:Nat,(wl k wr0)[i]? =some (some b)→base≤b)∧Upd [] w d
theorem lk.mk{base:Nat}{w d:World}(k:WK)(hb:d.heap[k.W]? =some (.cells (gn k) 243 (0,0)))(A:FW d k.F none [])(hP:FW d k.FP none [])(z:FW d k.FPO none [])(h1:d.heap[k.MC]? =some (.map #[] 0))(D:d.heap[k.MN]? =some (.map #[] 0))(F:Dig d k.D k.tb 0)
 (hn:[k.W,k.F,k.FP,k.FPO,k.MC,k.MN,k.D,k.tb].Nodup)(Hw:∀b∈[k.W,k.F,k.FP,k.FPO,k.MC,k.MN,k.D,k.tb],base≤b)(hu:Upd [] w d):lk base (ptr k.W 0) w d:=
 ⟨k,rfl,WI.mk0 hb A hP z h1 D F hn,fun _ b e=>Hw b (by rw[wl0]at e;exact rG e),hu⟩
theorem kr{w:World}(o:Obj){n:Nat}(hn:n=w.heap.size):(w.alloc o).heap[n]? =some o:=by subst hn;exact an _
theorem bt{w:World}{b:Nat}{o:Obj}(d:Obj)(h:w.heap[b]? =some o):(w.alloc d).heap[b]? =some o:=(eB _ (lt_of_block h)).trans h
theorem bQ{w:World}{b:Nat}{o:Obj}(h:w.heap[b]? =some o):w.drew.heap[b]? =some o:=h
theorem kx{w w':World}{b:Nat}{o:Obj}(hu:Upd [] w w')(h:w.heap[b]? =some o):w'.heap[b]? =some o:=hu.blk h (by simp)
theorem od(w:World):w.drew.heap.size=w.heap.size:=rfl
theorem pk(x:ByteArray)(w:World):
 Calls prog 194 #[.string x] w fun e w'=>∃F,e=.returned (.tuple #[ptr F 0,.nilIface])∧FW w' F none []∧w.heap.size≤F∧Upd [] w w':=
 (qG x w).mono fun _ _ ⟨h1,d,z⟩=>⟨_,h1,d,aw _,z⟩
structure NW3(w0 d:World)(F FP FPO:Nat):Prop where
 f:FW d F none []
 p:FW d FP none []
 po:FW d FPO none []
 lt:w0.heap.size≤F∧F<FP∧FP<FPO∧FPO<d.heap.size
abbrev em:Obj:=.map #[] 0
theorem NW3.close{w0 d z:World}{F FP FPO:Nat}(h:NW3 w0 d F FP FPO)(W MC MN D tb:Nat)(hu:Upd [] d z)(hb:z.heap[W]? =some (.cells (gn ⟨W,F,FP,FPO,MC,MN,D,tb⟩) 243 (0,0)))(h1:z.heap[MC]? =some em)(G:z.heap[MN]? =some em)(A:Dig z D tb 0)
 (O:d.heap.size≤W∧d.heap.size≤MC∧d.heap.size≤MN∧d.heap.size≤D∧d.heap.size≤tb)(U:W≠MC∧W≠MN∧W≠D∧W≠tb∧MC≠MN∧MC≠D∧MC≠tb∧MN≠D∧MN≠tb):lk w0.heap.size (ptr W 0) d z:=by
 have hl:=h.lt;have G5:=A.ne;refine lk.mk ⟨W,F,FP,FPO,MC,MN,D,tb⟩ hb (h.f.upd hu (by simp) (by simp)) (h.p.upd hu (by simp) (by simp)) (h.po.upd hu (by simp) (by simp)) h1 G A ?_ ?_ hu
 ·simp;omega
 ·simp;omega
theorem NW3.a{w0 d z:World}{F FP FPO D tb:Nat}(h:NW3 w0 d F FP FPO)(A:Upd [] ((d.alloc em).alloc em).drew z)(G:Dig z D tb 0)(O:((d.alloc em).alloc em).drew.heap.size≤D)(U:((d.alloc em).alloc em).drew.heap.size≤tb)(MC MN:Nat)(hm:(MC=d.heap.size∧MN=d.heap.size+1)∨(MC=d.heap.size+1∧MN=d.heap.size)):
 lk w0.heap.size (ptr z.heap.size 0) d (z.alloc (.cells (gn ⟨z.heap.size,F,FP,FPO,MC,MN,D,tb⟩) 243 (0,0))):=by
 have e1:((d.alloc em).alloc em).drew.heap[d.heap.size]? =some em:=bt _ (an _);have e2:((d.alloc em).alloc em).drew.heap[d.heap.size+1]? =some em:=kr (w:=d.alloc em) _ (by simp);have hs:=A.size;have l1:=lt_of_block G.blk;have l2:=lt_of_block G.tab;simp only[aJ,od]at hs O U;have hu:Upd [] d (z.alloc (.cells (gn ⟨z.heap.size,F,FP,FPO,MC,MN,D,tb⟩) 243 (0,0))):=((((((ae d).alloc _).alloc _).drew).then A (by simp))).alloc _;refine h.close z.heap.size MC MN D tb hu (an _) ?_ ?_ (G.upd ((ae z).alloc _) (by simp) (by simp)) (by omega) (by omega)
 ·rcases hm with⟨rfl,rfl⟩|⟨rfl,rfl⟩
  ·exact bt _ (kx A e1)
  ·exact bt _ (kx A e2)
 ·rcases hm with⟨rfl,rfl⟩|⟨rfl,rfl⟩
  ·exact bt _ (kx A e2)
  ·exact bt _ (kx A e1)
theorem NW3.b{w0 d z:World}{F FP FPO D tb:Nat}(h:NW3 w0 d F FP FPO)(A:Upd [] (d.alloc em).drew z)(G:Dig z D tb 0)(O:(d.alloc em).drew.heap.size≤D)(U:(d.alloc em).drew.heap.size≤tb)(MC MN:Nat)(hm:(MC=d.heap.size∧MN=z.heap.size)∨(MC=z.heap.size∧MN=d.heap.size)):
 lk w0.heap.size (ptr (z.heap.size+1) 0) d ((z.alloc em).alloc (.cells (gn ⟨z.heap.size+1,F,FP,FPO,MC,MN,D,tb⟩) 243 (0,0))):=by
 have e1:(d.alloc em).drew.heap[d.heap.size]? =some em:=an _;have hs:=A.size;have l1:=lt_of_block G.blk;have l2:=lt_of_block G.tab;simp only[aJ,od]at hs O U;have hu:Upd [] d ((z.alloc em).alloc (.cells (gn ⟨z.heap.size+1,F,FP,FPO,MC,MN,D,tb⟩) 243 (0,0))):=((((((ae d).alloc _)).drew).then A (by simp)).alloc _).alloc _;refine h.close (z.heap.size+1) MC MN D tb hu (kr _ (by simp)) ?_ ?_ (G.upd (((ae z).alloc _).alloc _) (by simp) (by simp)) (by omega) (by omega)
 ·rcases hm with⟨rfl,rfl⟩|⟨rfl,rfl⟩
  ·exact bt _ (bt _ (kx A e1))
  ·exact bt _ (an _)
 ·rcases hm with⟨rfl,rfl⟩|⟨rfl,rfl⟩
  ·exact bt _ (an _)
  ·exact bt _ (bt _ (kx A e1))
theorem NW3.c{w0 z d:World}{F FP FPO D tb:Nat}(h:NW3 w0 z F FP FPO)(U:Upd [] z.drew d)(A:Dig d D tb 0)(G:z.drew.heap.size≤D)(O:z.drew.heap.size≤tb)(MC MN:Nat)(hm:(MC=d.heap.size∧MN=d.heap.size+1)∨(MC=d.heap.size+1∧MN=d.heap.size)):
 lk w0.heap.size (ptr (d.heap.size+2) 0) z (((d.alloc em).alloc em).alloc (.cells (gn ⟨d.heap.size+2,F,FP,FPO,MC,MN,D,tb⟩) 243 (0,0))):=by
 have e1:((d.alloc em).alloc em).heap[d.heap.size]? =some em:=bt _ (an _);have e2:((d.alloc em).alloc em).heap[d.heap.size+1]? =some em:=kr (w:=d.alloc em) _ (by simp);have hs:=U.size;have l1:=lt_of_block A.blk;have l2:=lt_of_block A.tab;simp only[od]at hs G O;have hu:Upd [] z (((d.alloc em).alloc em).alloc (.cells (gn ⟨d.heap.size+2,F,FP,FPO,MC,MN,D,tb⟩) 243 (0,0))):=((((((ae z)).drew).then U (by simp)).alloc _).alloc _).alloc _;refine h.close (d.heap.size+2) MC MN D tb hu (kr _ (by simp)) ?_ ?_ (A.upd ((((ae d).alloc _).alloc _).alloc _) (by simp) (by simp)) (by omega) (by omega)
 ·rcases hm with⟨rfl,rfl⟩|⟨rfl,rfl⟩
  ·exact bt _ e1
  ·exact bt _ e2
 ·rcases hm with⟨rfl,rfl⟩|⟨rfl,rfl⟩
  ·exact bt _ e2
  ·exact bt _ e1
end
open Go Go.RowKit Xc Go.Proofs.Tryz
attribute [local go_sem ↓] Go.wp_at_zero Go.wp_at_succ
theorem vk(nm:ByteArray)(w:World)(G8:nm.size<1000):
 Calls prog 151 #[.agg #[],.string nm,.func (.func 152) #[] #[]] w fun e w'=>∃k,e=.returned (.tuple #[ptr k.W 0,.nilIface])∧(∃r,WI w' k r {ws0 k with bF:=dE,b1:=dE}∧∀i b:Nat,(wl k r)[i]? =some (some b)→w.heap.size≤b)∧Upd [] w w':=by
 go_enter func151,ntmps151
 go_wp2_with fail;have W:(w.alloc (.cells #[] 80 (0,0))).heap[w.heap.size]? =some (.cells #[] 80 (0,0)):=an _;have G:Upd [] w (w.alloc (.cells #[] 80 (0,0))):=(ae w).alloc _;revert W G;generalize (w.alloc (.cells #[] 80 (0,0)))=w0;generalize a9:w.heap.size=X0;intro W G;refine(pk _ _).mono ?_;rintro e w1 ⟨F,rfl,hF,a2,a3⟩;go_wp2_with fail;refine(pk _ _).mono ?_;rintro e w2 ⟨FP,rfl,ad,a4,a0⟩;go_wp2_with fail;refine(pk _ _).mono ?_;rintro e w3 ⟨FPO,rfl,O,a1,U⟩;have H3:Hid (NW3 w0 w3 F FP FPO):=aa ⟨(hF.upd a0 (by simp) (by simp)).upd U (by simp) (by simp),ad.upd U (by simp) (by simp),O,a2,by have:=hF.lt;omega,by have:=ad.lt;omega,O.lt⟩;have bb:Hid (Upd [] w w3):=aa (((G.then a3 (by simp)).then a0 (by simp)).then U (by simp));have a5:Hid (w.heap.size≤w0.heap.size):=aa G.size;clear W G hF ad O a2 a4 a1 a3 a0 U a9;have bd:= @run_makeMap prog;have hz:=Fe;go_wp2_with fail;go_cut [12] (fun v wx=>lk w0.heap.size v w3 wx)
 case first=>
  go_region_held3 (fun _=>True) (trivial) ((go_at_call 195;refine(AG _).mono ?_;rintro e w4 ⟨D,tb,rfl,hD,a6,V,a7⟩;have z:=aa hD;have A:=aa a7;have d:=aa (And.intro a6 V);clear hD a6 V a7))
  all_goals
   go_wp2_with fail;go_meet
   first
    |with_reducible exact NW3.a H3.o A.o z.o d.o.1 d.o.2 _ _ (.inl ⟨rfl,rfl⟩)
    |with_reducible exact NW3.a H3.o A.o z.o d.o.1 d.o.2 _ _ (.inr ⟨rfl,rfl⟩)
    |with_reducible exact NW3.b H3.o A.o z.o d.o.1 d.o.2 _ _ (.inl ⟨rfl,rfl⟩)
    |with_reducible exact NW3.b H3.o A.o z.o d.o.1 d.o.2 _ _ (.inr ⟨rfl,rfl⟩)
    |with_reducible exact NW3.c H3.o A.o z.o d.o.1 d.o.2 _ _ (.inl ⟨rfl,rfl⟩)
    |with_reducible exact NW3.c H3.o A.o z.o d.o.1 d.o.2 _ _ (.inr ⟨rfl,rfl⟩)
    |fail
 case rest=>
  clear bd hz;obtain⟨k,rfl,hI,hb,hu⟩:=hcut;have be:=aa hI;have Hb:=aa hb;have Hu:=aa (bb.o.then hu (by simp));clear hI hb hu;go_wp2_with fail;refine((yS be.o rfl).mono ?_);rintro e w5 ⟨rfl,r5,hI,hT⟩;have HI:=aa hI;have HT:=aa hT;clear hI hT;go_wp2_with fail;go_ret2
  refine⟨k,rfl,⟨r5,HI.o,fun i b e=>?_⟩,?_⟩
  ·rcases HT.o.newer i b e with e'|e'
   ·exact aW a5.o (Hb.o i b e')
   ·have:=Hu.o.size;omega
  ·refine Hu.o.then HT.o.upd ?_;intro b hm hl;obtain⟨i,_,e⟩:=cu.1 hm;have:=Hb.o i b e;have:=a5.o;omega
section
variable {w:World} {k:WK} {r:WR} {s:WS}
def ET(w w':World)(k:WK):Prop:=(∃r,WI w' k r {ws0 k with bF:=dE,b1:=dE}∧∀i b:Nat,(wl k r)[i]? =some (some b)→w.heap.size≤b)∧Upd [] w w'
theorem xI(nm:ByteArray)(w:World)(G8:nm.size<1000):
 Calls prog 90 #[.agg #[],.string nm] w fun e w'=>∃k,e=.returned (.tuple #[ptr k.W 0,.nilIface])∧ET w w' k:=by
 have hu:Upd [] w (w.alloc (.cells #[] 80 (0,0))):=(ae w).alloc _;have z:=aa (vk nm (w.alloc (.cells #[] 80 (0,0))) G8);go_enter func90,ntmps90
 go_wp2_with (go_at_call 151;refine z.o.mono ?_;rintro e w1 ⟨k,rfl,⟨r,hI,hb⟩,d⟩);go_ret2
 exact⟨k,rfl,⟨r,hI,fun i b e=>by have:=hb i b e;simp at this;omega⟩,hu.then d (by simp)⟩
theorem Tryz.size80:(Tryz.prog.info? 80).map (·.size)=some 0:=by kernel_rfl
theorem tz(w:World):Calls prog 64 #[] w fun e w'=>e=.returned (.agg #[])∧Upd [] w w':=by
 go_enter func64,ntmps64
 go_wp2_with fail;refine bodyPost_ret (results_cell_row rfl _ _ w.heap.size 80 _ (0,0) _ rfl (an _) underlying80 rfl Tryz.size80) rfl ?_;exact⟨rfl,(ae w).alloc _⟩
theorem zt(w:World):
 Calls prog 47 #[] w fun e w'=>∃k,e=.returned (.tuple #[ptr k.W 0,.nilIface])∧ET w w' k:=by
 go_enter func47,ntmps47
 go_wp2_with (first
  |(go_at_call 64;refine(tz _).mono ?_;rintro e w1 ⟨rfl,d⟩)
  |(go_at_call 90;refine(xI _ _ (by decide)).mono ?_;rintro e w2 ⟨k,rfl,⟨r,hI,hb⟩,z⟩))
 go_ret2
 exact⟨k,rfl,⟨r,hI,fun i b e=>by have:=hb i b e;have:=d.size;omega⟩,d.then z (by simp)⟩
theorem rT(st:Nat)(h:WI w k r s)(hs:s.stage=st):
 Calls prog 91 #[ptr k.W 0,.int .u8 st] w fun e w'=>e=.returned .nilIface∧w=w':=by
 have d:w.cell? ⟨k.W,10,none⟩=some (.int .u8 (st:Nat)):=by rw[h.cell 10 _ rfl,hs]
 clear h hs;go_enter func91,ntmps91
 go_wp2_with fail;go_ret;exact⟨rfl,rfl⟩
theorem A7(n:Nat)(h:WI w k r s)(hs:s.stage=0)(hn:n≤s.bF.length)(hl:s.bF.length<1000000):
 Calls prog 91 #[ptr k.W 0,.int .u8 1] w fun e w'=>e=.returned .nilIface∧WP w k r n {s with bF:=s.bF++eP,t0:=s.bF.length,stage:=1} w':=by
 have z:w.cell? ⟨k.W,10,none⟩=some (.int .u8 0):=by rw[h.cell 10 _ rfl,hs];rfl
 have c0:=h.cell 0 _ rfl;have c4:=h.cell 4 _ rfl;have f4:=h.free 4;obtain⟨P,HP,cP⟩:=h.fpos;have d:=aa h;have Hn:=aa hn;have Hl:=aa hl;clear h hs hn hl;go_enter func91,ntmps91
 go_wp2_with fail;obtain⟨A,D⟩:=d.o.set_t0 n P;have F:=aa A;have G:=aa D;clear A D z c0 c4 f4 cP;refine((tn n F.o Hn.o (by have:=Hl.o;simp only;omega)).mono ?_);rintro e w2 ⟨rfl,r2,hI,hT⟩;have O:=aa hI;have U:=aa (ak d.o G.o hT);have z:=hI.cell 10 _ rfl;have f10:=hI.free 10;clear hI hT;go_wp2_with fail;go_ret;obtain⟨V,W⟩:=O.o.set_stage n 1;refine⟨rfl,r2,?_,ak d.o U.o W⟩;rw[←HP.o];exact V
end
theorem tO(bs a c:Bytes)(l:List Bytes)(h:bs=a++(sec (bi l)++c))(i:Nat):bs.drop (gS a.length l i)=bj (l.drop (32*i))++(Lib.beBytes 4 (crc (bi l))++c):=by
 rw[h,sec,bi,nA l (32*i)];have e:gS a.length l i=(a++(Lib.beBytes 4 (Lib.beBytes 4 l.length++(bj (l.take (32*i))++bj (l.drop (32*i)))).length++(Lib.beBytes 4 l.length++bj (l.take (32*i))))).length:=by simp only[gS,ab,Lib.beBytes_length];omega
 rw[e];rw[show∀(X1 X2 d z A:Bytes),a++(X1++(X2++(d++z)++A)++c)=(a++(X1++(X2++d)))++(z++(A++c)) by intros;simp only[al]];exact eZ
theorem oT(a:Nat)(l:List Bytes)(k i:Nat)(h:i<(k+31)/32):(dW a l k)[i]? =some (.int .i64 (gS a l i:Nat)):=by unfold dW;rw[cx,List.getElem?_range h];rfl
theorem iv(v:Value)(w:World):(nilAhead 616 139 v "Range").run prog w=.ok (some false) w:=by kernel_rfl
theorem ou(g off n cap:Nat)(w:World)(d:n≤cap):
 Calls prog 277 #[.slice (some ⟨g,off,none⟩) n cap,.int .i64 0,.int .i64 n] w fun r w'=>r=.returned (.slice (some ⟨g,off,none⟩) n cap)∧w=w':=by
 have G4:(n:Int)≤(cap:Int):=by omega
 go_enter func277,ntmps277
 go_wp2_with fail
 all_goals
  go_ret;exact⟨rfl,rfl⟩
theorem tj(g off n cap:Nat)(w:World):Calls prog 276 #[.slice (some ⟨g,off,none⟩) n cap] w fun e w'=>e=.returned (.int .i64 n)∧w=w':=by
 go_enter func276,ntmps276
 go_wp2_with fail;go_ret;exact⟨rfl,rfl⟩
theorem yY(g o:Nat)(v so:Value)(bs a c:Bytes)(l:List Bytes)(w:World)(h:RdG w v g bs)(hb:bs=a++(sec (bi l)++c))(hn:bs.length<1073741824)(hl:l.length<65536)(hs:∀s∈l,s.length<2097152)
 (a6:w.ownsRow 0 3 1 so (dW a.length l l.length).length (dW a.length l l.length))(ho:o<l.length):
 Calls prog 206 #[.agg #[.iface 139 v,.int .i64 2,.int .i64 a.length,so,.int .i64 l.length],.int .u32 o] w fun e w'=>e=.returned (.tuple #[.string (str l[o]),.nilIface])∧Upd [] w w':=by
 have b8:=fp;have b9:=eA;have ca:=iv;have H:=aa h;have HB:=aa hb;have br:=h.lt;obtain⟨A,hA⟩:∃A,A=a.length:=⟨_,rfl⟩;have HA:=aa hA;obtain⟨off,cap,rfl,O,hc⟩:=h;obtain⟨N,hN⟩:∃N,N=bs.length:=⟨_,rfl⟩;have HN:=aa hN;rw[←hA]at a6⊢;rw[←hN]at hn O⊢H;have a7:=O.1;clear hb hA hN hc O;have bv:=aa a6;clear a6;go_enter func206,ntmps206
 go_wp2_with fail;have bw:(w.alloc (.cells #[.iface 139 (.slice (some ⟨g,off,none⟩) N cap),.int .i64 2,.int .i64 A,so,.int .i64 l.length] 394 (0,0))).heap[w.heap.size]? =_:=an _;have cc:=aa bw;have a2:Upd [] w (w.alloc (.cells #[.iface 139 (.slice (some ⟨g,off,none⟩) N cap),.int .i64 2,.int .i64 A,so,.int .i64 l.length] 394 (0,0))):=(ae w).alloc _;have a9:(w.alloc (.cells #[.iface 139 (.slice (some ⟨g,off,none⟩) N cap),.int .i64 2,.int .i64 A,so,.int .i64 l.length] 394 (0,0))).heap.size=w.heap.size+1:=aJ _ _;revert cc a2 a9;generalize (w.alloc (.cells #[.iface 139 (.slice (some ⟨g,off,none⟩) N cap),.int .i64 2,.int .i64 A,so,.int .i64 l.length] 394 (0,0)))=w1;revert br;generalize hX:w.heap.size=X;intro br a3 a2 a9;have c0:w1.cell? ⟨X,0,none⟩=some (.iface 139 (.slice (some ⟨g,off,none⟩) N cap)):=by rw[af a3.o];rfl
 have bA:w1.heap.size≠X:=by omega
 go_cut [6] (fun v wx=>v=.pointer (some ⟨X+1,0,none⟩)∧wx=(w1.alloc (.cells #[.slice (some ⟨g,off,none⟩) N cap,.nilIface] 159 (0,0))).drew)
 case first=>
  go_region_held3 (fun w'=>w'.cell? ⟨X,0,none⟩=some (.iface 139 (.slice (some ⟨g,off,none⟩) N cap))) (go_keep) (first
   |(go_at_call 276;refine(tj g off N cap _).mono ?_;rintro e w2 ⟨rfl,rfl⟩)
   |(go_at_call 277;refine(ou g off N cap _ a7).mono ?_;rintro e w2 ⟨rfl,rfl⟩))
  all_goals
   go_wp2_with fail;go_meet
   exact⟨rfl,rfl⟩
 case rest=>
  obtain⟨rfl,rfl⟩:=hcut;have F:Upd [] w (w1.alloc (.cells #[.slice (some ⟨g,off,none⟩) N cap,.nilIface] 159 (0,0))).drew:=(a2.alloc _).drew
  have a4:cm (w1.alloc (.cells #[.slice (some ⟨g,off,none⟩) N cap,.nilIface] 159 (0,0))).drew (X+1) g bs:=
   ⟨⟨_,a9▸an _,H.o.upd F (by simp)⟩,by omega⟩
  have hb2:(w1.alloc (.cells #[.slice (some ⟨g,off,none⟩) N cap,.nilIface] 159 (0,0))).drew.heap[X]? =_:=(eB _ (lt_of_block a3.o)).trans a3.o;revert F a4 hb2;clear c0 bA a3 bw b8 b9 ca;generalize (w1.alloc (.cells #[.slice (some ⟨g,off,none⟩) N cap,.nilIface] 159 (0,0))).drew=w2;intro F a4 hb2;have U:=F.row bv.o (by simp);have hq:o/32<(dW A l l.length).length:=by rw[gA];omega
  obtain⟨n,bb⟩:∃n,n=(dW A l l.length).length:=⟨_,rfl⟩;obtain⟨r,rc,rfl⟩:∃r rc,so=.slice (some ⟨r,0,none⟩) n rc:=by
   rcases U.2 with⟨_,h5⟩|⟨r,rc,cur,e,_⟩
   ·omega
   ·exact⟨r,rc,by rw[e,bb]⟩
  have d:=U.cells (g:=r) rfl (o/32) (.int .i64 (gS A l (o/32):Nat)) (oT A l l.length (o/32) (by rw[gA]at hq;exact hq));have ha:((⟨r,0,none⟩:Addr).add (o/32))=⟨r,o/32,none⟩:=by
   unfold Addr.add;split
   ·rename_i h;rw[h]
   ·simp
  rw[ha]at d;obtain⟨q,V⟩:∃q,q=o/32:=⟨_,rfl⟩;obtain⟨G,z⟩:∃G,G=gS A l (o/32):=⟨_,rfl⟩;rw[←z,←V]at d;rw[←V,←bb]at hq;have W:bs.drop G=bj (l.drop (32*q))++(Lib.beBytes 4 (crc (bi l))++c):=by rw[z,V,HA.o];exact tO bs a c l HB.o _
  have a5:G≤bs.length:=by have h1:=congrArg List.length HB.o;rw[z,gS,HA.o];have h2:=gu l (32*(o/32));simp only[ab,dx,bi,Lib.beBytes_length]at h1;omega
  have c1:=af hb2 1;have c3:=af hb2 3;have c4:=af hb2 4;have cg:(o:Int)/32=(q:Nat):=by omega
  have bB:Calls prog 124 #[.pointer (some ⟨X+1,0,none⟩),.int .i64 G] w2 fun e w'=>e=.returned (.tuple #[])∧cm w' (X+1) g (bj (l.drop (32*q))++(Lib.beBytes 4 (crc (bi l))++c))∧Upd [X+1] w2 w':=by rw[←W];exact tF (X+1) g G bs w2 a4 a5 (by rw[←HN.o];exact hn)
  have ck:=aa bB;have cn:=aa F;have bE:(o:Int)-(q:Int)*32=((o-32*q:Nat):Int):=by omega
  have cE:(0:Int)≤(q:Int):=by omega
  have cF:(q:Int)<(n:Int):=by omega
  have cp:=aa V;clear bB F W a5 a4 hb2 U z bb bv ha V;go_wp2_with (go_at_call 124;refine ck.o.mono ?_;rintro e w3 ⟨rfl,bd,bK⟩);have bL:∀L:List Nat,(∀i∈L,i=X+1)→∀{w' be:World},Upd [] w w'→Upd L w' be→Upd [] w be:=fun L hL w' be h1 h2=>h1.then h2 (fun i hi hl=>by have:=hL i hi;omega);have bg:=aa bL;clear bL;obtain⟨Z,hZ⟩:∃Z,Z=Lib.beBytes 4 (crc (bi l))++c:=⟨_,rfl⟩;rw[←hZ]at bd;have bM:(bj l).length+Z.length≤N:=by have h1:=congrArg List.length HB.o;rw[HN.o,hZ];simp only[ab,dx,bi,Lib.beBytes_length]at h1⊢;omega
  have bO:=aa bM;have cs:=aa (bg.o _ (by simp) cn.o bK);have ct:=aa bd;have ad:∀k (hk:k<l.length) w,cm w (X+1) g (bj (l.drop k)++Z)→Calls prog 128 #[.pointer (some ⟨X+1,0,none⟩)] w fun e w'=>∃v,e=.returned v∧RdG w' v g l[k]∧cm w' (X+1) g (bj (l.drop (k+1))++Z)∧Upd [X+1] w w':=fun k hk w h=>by
   have hlen:(bj (l.drop k)++Z).length<1073741824:=by have h2:=gu l k;have h3:=bO.o;rw[ab];omega
   rw[jX l k hk,ed,al,al]at h hlen;exact dM (X+1) g l[k] _ w h (hs _ (aq hk)) hlen
  have D:∀w,cm w (X+1) g (bj (l.drop o)++Z)→Calls prog 226 #[.pointer (some ⟨X+1,0,none⟩)] w fun e w'=>e=.returned (.string (str l[o]))∧cm w' (X+1) g (bj (l.drop (o+1))++Z)∧Upd [X+1] w w':=fun w h=>by
   have hlen:(bj (l.drop o)++Z).length<1073741824:=by have h2:=gu l o;have h3:=bO.o;rw[ab];omega
   rw[jX l o ho,ed,al,al]at h hlen;exact vu (X+1) g l[o] _ w h (hs _ (aq ho)) hlen
  have cA:=aa ad;have bR:=aa D;have bS:o-(o-32*q)=32*q:=by have:=cp.o;omega
  have cB:=aa bS;clear ad D bM hZ bd bK hs d c1 c3 c4 bS cg bE a2;go_loopw [7] (fun i wr=>∃j,j≤o-32*q∧i=.int .u32 (j:Nat)∧cm wr (X+1) g (bj (l.drop (o-j))++Z)∧Upd [] w wr) (fun i _=>(intOf i).toNat)
  case atStart=>exact⟨o-32*q,aw _,rfl,by rw[cB.o];exact ct.o,cs.o⟩
  case round=>
   obtain⟨j,hj,rfl,bW,b5⟩:=hrel;have b6:=aa bW;have b7:=aa b5;clear bW b5;by_cases cL:0<j
   ·have hk:o-j<l.length:=by omega
    have e1:o-j+1=o-(j-1):=by omega
    have cM:(0:Int)<(j:Int):=by omega
    go_wp2_with (go_at_call 128;refine(cA.o (o-j) hk _ b6.o).mono ?_;rintro e w4 ⟨v4,rfl,_,a0,a1⟩;have bl:=aa a0;have bn:=aa a1;clear a0 a1);have hu:=bg.o _ (by simp) b7.o bn.o;have hd:=bl.o;rw[e1]at hd;exact⟨⟨j-1,by omega,by congr 1;omega,hd,hu⟩,by simp only[intOf];omega⟩
   ·obtain rfl:j=0:=by omega
    have hd:=b6.o;rw[Nat.sub_zero]at hd;have cD:=aa hd;clear hd
    go_wp2_with (first
     |(go_at_call 226;refine(bR.o _ cD.o).mono ?_;rintro e w4 ⟨rfl,a0,a1⟩;have bl:=aa a0;have bn:=aa a1;clear a0 a1)
     |(go_at_call 118;refine(je (X+1) g _ _ bl.o).mono ?_;rintro e w5 ⟨rfl,rfl⟩))
    go_ret2
    exact⟨rfl,bg.o _ (by simp) b7.o bn.o⟩
theorem ze(n:Nat)(F c1:Value)(p:Nat→Bool)(I:World→Prop)(w:World)(hn:n<1073741824)(hI:I w)
 (hf:∀(i:Nat) w,i<n→I w→Calls prog 216 #[.int .i64 i,F,c1] w fun e w'=>e=.returned (.bool (p i))∧I w'):
 Calls prog 60 #[.int .i64 n,.func (.func 216) #[] #[F,c1]] w fun e w'=>∃i:Nat,e=.returned (.int .i64 i)∧i≤n∧(i=0∨p (i-1)=false)∧(i=n∨p i=true)∧I w':=by
 have HF:=aa hf;have HI:=aa hI;clear hf hI;go_enter func60,ntmps60
 go_wp2_with fail;go_loopw [5,6] (fun a b wr=>∃i j:Nat,a=.int .i64 i∧b=.int .i64 j∧i≤j∧j≤n∧(i=0∨p (i-1)=false)∧(j=n∨p j=true)∧I wr) (fun a b _=>(intOf b).toNat-(intOf a).toNat)
 case atStart=>exact⟨0,n,rfl,rfl,ay _,aw _,.inl rfl,.inl rfl,HI.o⟩
 case round=>
  obtain⟨i,j,rfl,rfl,a0,z,h1,G,O⟩:=hrel;have U:=aa h1;have V:=aa G;have W:=aa O;clear h1 G O;by_cases a1:i<j
  ·obtain⟨m,hm⟩:∃m,m=(i+j)/2:=⟨_,rfl⟩;have a2:((i:Int)+j)/2=(m:Nat):=by omega
   have A:m<n:=by omega
   have ad:(i:Int)<(j:Int):=by omega
   have Hm:=aa hm;clear hm;go_wp2_with (go_at_call 216;refine(HF.o m wr A W.o).mono ?_;rintro e w1 ⟨rfl,h4⟩;have H4:=aa h4;clear h4)
   ·rename_i D;have hm:=Hm.o;have d:p m=false:=by simpa using D
    exact⟨⟨m+1,j,rfl,rfl,by omega,z,.inr (by simpa using d),V.o,H4.o⟩,by simp only[intOf];omega⟩
   ·rename_i D;have hm:=Hm.o;have d:p m=true:=by simpa using D
    exact⟨⟨i,m,rfl,rfl,by omega,by omega,U.o,.inr d,H4.o⟩,by simp only[intOf];omega⟩
  ·obtain rfl:i=j:=by omega
   go_wp2_with fail;go_ret;exact⟨i,rfl,z,U.o,V.o,W.o⟩
theorem BA(n:Nat)(F c1:Value)(p:Nat→Bool)(I:World→Prop)(w:World)(hn:n<1073741824)(hI:I w)
 (hf:∀(i:Nat) w,i<n→I w→Calls prog 316 #[.int .i64 i,F,c1] w fun e w'=>e=.returned (.bool (p i))∧I w'):
 Calls prog 60 #[.int .i64 n,.func (.func 316) #[] #[F,c1]] w fun e w'=>∃i:Nat,e=.returned (.int .i64 i)∧i≤n∧(i=0∨p (i-1)=false)∧(i=n∨p i=true)∧I w':=by
 have HF:=aa hf;have HI:=aa hI;clear hf hI;go_enter func60,ntmps60
 go_wp2_with fail;go_loopw [5,6] (fun a b wr=>∃i j:Nat,a=.int .i64 i∧b=.int .i64 j∧i≤j∧j≤n∧(i=0∨p (i-1)=false)∧(j=n∨p j=true)∧I wr) (fun a b _=>(intOf b).toNat-(intOf a).toNat)
 case atStart=>exact⟨0,n,rfl,rfl,ay _,aw _,.inl rfl,.inl rfl,HI.o⟩
 case round=>
  obtain⟨i,j,rfl,rfl,a0,z,h1,G,O⟩:=hrel;have U:=aa h1;have V:=aa G;have W:=aa O;clear h1 G O;by_cases a1:i<j
  ·obtain⟨m,hm⟩:∃m,m=(i+j)/2:=⟨_,rfl⟩;have a2:((i:Int)+j)/2=(m:Nat):=by omega
   have A:m<n:=by omega
   have ad:(i:Int)<(j:Int):=by omega
   have Hm:=aa hm;clear hm;go_wp2_with (go_at_call 316;refine(HF.o m wr A W.o).mono ?_;rintro e w1 ⟨rfl,h4⟩;have H4:=aa h4;clear h4)
   ·rename_i D;have hm:=Hm.o;have d:p m=false:=by simpa using D
    exact⟨⟨m+1,j,rfl,rfl,by omega,z,.inr (by simpa using d),V.o,H4.o⟩,by simp only[intOf];omega⟩
   ·rename_i D;have hm:=Hm.o;have d:p m=true:=by simpa using D
    exact⟨⟨i,m,rfl,rfl,by omega,by omega,U.o,.inr d,H4.o⟩,by simp only[intOf];omega⟩
  ·obtain rfl:i=j:=by omega
   go_wp2_with fail;go_ret;exact⟨i,rfl,z,U.o,V.o,W.o⟩
end Go.Proofs.YtlgefdfflmgocaaGreatDoor
