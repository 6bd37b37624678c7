import Derived.Test.YtlgefdfflmgocaaGreatDoorQ30
import Derived.Test.YtlgefdfflmgocaaGreatDoorQ31
set_option linter.all false
set_option maxRecDepth 100000
set_option maxHeartbeats 4000000
namespace Go.Proofs.YtlgefdfflmgocaaGreatDoor
open Go Go.RowKit Xc Go.Proofs.Tryz
attribute [local go_sem ↓] Go.wp_at_zero Go.wp_at_succ
theorem wh(w:World):Calls prog 115 #[.nilIface] w fun e w'=>e=.returned (.iface 345 (.agg #[.nilIface]))∧w=w':=by
 have d:∀w,(Instr.typeAssert .nilIface 339 341 true).run prog w=.ok (.tuple #[.nilIface,.bool false]) w:=fun w=>by kernel_rfl
 go_enter func115,ntmps115
 go_wp2_with fail;go_ret;exact⟨rfl,rfl⟩
theorem xH(w:World)(v:Value)(g:Nat)(bs:Bytes)(syms:List Bytes)(gs:List (Bytes×List (Bytes×Nat)))(t1 t2 t3 t4 t5:Nat)(h:NrH w v g bs syms gs t1 t2 t3 t4 t5):
 Calls prog 54 #[.iface 139 v,.func (.func 55) #[] #[]] w (NRQ w g v bs syms gs t5):=by
 have H:=aa (yp w v (.agg #[.nilIface]) 345 g bs syms gs t1 t2 t3 t4 t5 h);clear h;go_enter func54,ntmps54
 go_wp2_with (first
  |(go_at_call 115;refine(wh _).mono ?_;rintro e w' ⟨rfl,rfl⟩)
  |(go_at_call 114;refine H.o.mono ?_;rintro e w' hq;obtain⟨R,rfl,hI,hu⟩:=hq;have d:=aa (And.intro hI hu);clear hI hu))
 go_ret2
 exact⟨R,rfl,d.o.1,d.o.2⟩
theorem zr(w:World)(v:Value)(g:Nat)(bs:Bytes)(syms:List Bytes)(gs:List (Bytes×List (Bytes×Nat)))(t1 t2 t3 t4 t5:Nat)(h:NrH w v g bs syms gs t1 t2 t3 t4 t5):
 Calls prog 24 #[v] w (NRQ w g v bs syms gs t5):=by
 have H:=aa (xH w v g bs syms gs t1 t2 t3 t4 t5 h);clear h;go_enter func24,ntmps24
 go_wp2_with (go_at_call 54;refine H.o.mono ?_;rintro e w' hq;obtain⟨R,rfl,hI,hu⟩:=hq;have d:=aa (And.intro hI hu);clear hI hu);go_ret2
 exact⟨R,rfl,d.o.1,d.o.2⟩
theorem Ep{w:World}{v:Value}{g:Nat}{bs:Bytes}{syms:List Bytes}{G0:List LabL}{gs:List (Bytes×List (Bytes×Nat))}{t1 t2 t3 t4 t5:Nat}(hv:RdG w v g bs)(h:Bq bs syms G0 gs t1 t2 t3 t4 t5)(hs:syms.length<1000∧(∀x∈syms,x.length≤60)∧syms.Pairwise (· <·)):NrH w v g bs syms gs t1 t2 t3 t4 t5:=
 ⟨hv,h.toc,h.len,h.sym,hs,h.pot,h.names,fun g hg=>⟨(h.vals g hg).1,(h.vals g hg).2.1⟩,h.small⟩
theorem Dj(w:World):Calls prog 26 #[] w fun e w'=>e=.returned (.agg #[])∧Upd [] w w':=by
 go_enter func26,ntmps26
 go_wp2_with (go_at_call 64;refine(CW _).mono ?_;rintro e w' ⟨rfl,hu⟩;have z:=aa hu;clear hu);have d:Upd [] w w':=((ae w).alloc _).then z.o (by simp);have hb:w'.heap[w.heap.size]? =some (.cells #[] 80 (0,0)):=z.o.blk (an _) (by simp);refine bodyPost_ret (results_cell_row rfl _ _ w.heap.size 80 _ (0,0) _ rfl hb underlying80 rfl Tryz.size80) rfl ?_;exact⟨rfl,d⟩
theorem PIt.isIface{g:Nat}{w:World}{v:Value}{B xs:List Nat}(h:PIt g w v B xs):∃T P,v=.iface T P:=by
 rcases h with⟨rfl,_⟩|⟨X,rfl,_⟩
 ·exact⟨_,_,rfl⟩
 ·exact⟨_,_,rfl⟩
def WoS(w1 d:World)(g:Nat)(wo:PL)(i:Nat)(v:Value)(xs:List Nat):Prop:=∃B,It g i d v B 0 xs∧Asc 0 xs∧∀b∈B,w1.heap.size≤b∧b<d.heap.size∧b≠g∧∀x∈wo.drop i,b∉x.2.1
theorem WoS.first{w1 U F:World}{g G c7 n:Nat}{v7 v4:Value}{wl wo:PL}{O V:List Nat}(h:PLs w1 U g (.slice (some ⟨G,0,none⟩) n c7) v7 wl wo)(hq:(Value.slice (some ⟨G,0,none⟩) n c7).ownBlock=some G)(W:It g 0 F v4 O 0 V)(ad:Asc 0 V)
 (A:∀b∈O,b=G∨(∃x∈wl,b∈x.2.1)∨U.heap.size≤b)(D:∀b∈O,b<F.heap.size∧b≠g)(_:Upd [] U F):WoS w1 F g wo 0 v4 V:=by
 refine⟨O,W,ad,fun b hb=>⟨?_,(D b hb).1,(D b hb).2,fun x hx d=>?_⟩⟩
 ·rcases A b hb with rfl|⟨x,hx,d⟩|h1
  ·exact h.r6.2 _ hq
  ·exact(h.ge x (bX _ hx) b d).1
  ·have:=h.upd.size;omega
 ·have z:x∈wo:=by simpa using hx
  rcases A b hb with rfl|⟨y,hy,a0⟩|h1
  ·exact(h.d6 x (bZ _ z) _ d).1 hq
  ·have hd:=h.dd;rw[aU]at hd;exact(List.nodup_append.1 hd).2.2 b (List.mem_flatMap.2 ⟨y,hy,a0⟩) b (List.mem_flatMap.2 ⟨x,z,d⟩) rfl
  ·have:=(h.ge x (bZ _ z) b d).2;omega
theorem PLs.cell7{w0 w:World}{g A D:Nat}{v6:Value}{d:Option Addr}{wl wo:PL}(h:PLs w0 w g v6 (.slice d A D) wl wo){i:Nat}(F:i<wo.length):∃z,d=some ⟨z,0,none⟩∧w.cell? ⟨z,i,none⟩=some wo[i].1:=by
 rcases h.r7.shape with⟨_,G,_⟩|⟨q,c,h1,_⟩
 ·omega
 ·have hr:=h.r7;simp only[bx]at h1;obtain⟨rfl,rfl,rfl⟩:=h1;refine⟨q,rfl,?_⟩;have:=hr.1.cells (g:=q) rfl i wo[i].1 (by simp[F]);rw[aO,aK]at this;exact this
theorem WoS.step{w1 A:World}{g i:Nat}{v v6 v7:Value}{wl wo:PL}{xs:List Nat}(h:WoS w1 A g wo i v xs)(hP:PLs w1 A g v6 v7 wl wo)(V:i<wo.length):
 Calls prog 29 #[v,wo[i].1] A fun e w'=>∃v',e=.returned v'∧WoS w1 w' g wo (i+1) v' (dif xs wo[i].2.2)∧Upd [] A w':=by
 obtain⟨B,F,G,hB⟩:=h;have hm:wo[i]∈wl++wo:=bZ _ (aq V);have d:wo.drop i=wo[i]::wo.drop (i+1):=bf V;have ad:=hP.upd.size;have hg:=hP.g;refine(BG g i A v wo[i].1 B wo[i].2.1 xs wo[i].2.2 F G (hP.it _ hm) (fun b hb=>⟨(hB b hb).2.1,(hB b hb).2.2.2 wo[i] (by rw[d];exact eo),(hB b hb).2.2.1⟩) (fun b hb=>⟨(hP.ge _ hm b hb).2,by have:=(hP.ge _ hm b hb).1;omega⟩) (by omega)).mono ?_;rintro e w' ⟨v',B',rfl,h1,h2,W,h4,hu⟩;refine⟨v',rfl,⟨B',h1,h2,fun b hb=>?_⟩,hu⟩;refine⟨?_,(h4 b hb).1,(h4 b hb).2,fun x O z=>?_⟩
 ·rcases W b hb with h5|h5|h5
  ·exact(hB b h5).1
  ·exact(hP.ge _ hm b h5).1
  ·omega
 ·rcases W b hb with h5|h5|h5
  ·exact(hB b h5).2.2.2 x (by rw[d];exact aH _ O) z
  ·have hd:=hP.dd;rw[aU]at hd;have D:=(List.nodup_append.1 hd).2.1;have e:wo=wo.take i++(wo[i]::wo.drop (i+1)):=by rw[←d,aI]
   rw[e,aU,aY]at D;have U:=(List.nodup_append.1 (List.nodup_append.1 D).2.1).2.2;exact U b h5 b (List.mem_flatMap.2 ⟨x,O,z⟩) rfl
  ·have:=(hP.ge x (bZ _ (iG O)) b z).2;omega
theorem sV{w0 w:World}{e k n:Nat}{v:Value}{xs:List Value}(h:aP w0 w e k n v xs)(hn:0<n):∃q m c,v=.slice (some ⟨q,0,none⟩) m c:=by
 rcases h.shape with⟨_,d,_⟩|⟨q,c,h1,_⟩
 ·omega
 ·exact⟨q,_,c,h1⟩
def WsP(w:World)(d z:Nat)(G0:List LabL)(ms:ni)(e:Ending)(w':World):Prop:=e=.returned (.tuple #[])∧∃A,w'.heap[d]? =some (.cells #[A] 22 (0,0))∧jl w w' A (kC G0 ms)∧w'.heap[z]? =some (.cells #[.bool true] 4 (0,0))∧Upd [d,z] w w'
theorem jl.old{w0 w1 w:World}{d:Value}{ls:List LabL}(h:jl w1 w d ls)(hs:w0.heap.size≤w1.heap.size):jl w0 w d ls:=by obtain⟨z,h1,A⟩:=h;exact⟨z,h1.old hs,fun i D=>by obtain⟨v,a,b,c⟩:=A i D;exact⟨v,a,b.old hs,c⟩⟩
structure WsL(w w1 d:World)(R g base T t5 D F:Nat)(v:Value)(bs:Bytes)(syms:List Bytes)(gs:List (Bytes×List (Bytes×Nat)))(z:List Nat)(out:List LabL)(r9 A:Value)(i:Nat):Prop where
 rd:RdI d R g base T v bs syms gs t5
 o:jl w1 d A (out.take i)
 hbO:d.heap[D]? =some (.cells #[A] 22 (0,0))
 row:d.ownsRow 0 41 1 r9 F (o7 z)
 h9:∀b,r9.ownBlock=some b→w1.heap.size≤b∧b<d.heap.size∧A.ownBlock≠some b
 upd:Upd [D] w d
 ge:w1.heap.size≤d.heap.size
theorem yR(w:World)(g bB bM bO bK mc:Nat)(mb:Option Addr)(v:Value)(bs:Bytes)(syms:List Bytes)(G0:List LabL)(gs:List (Bytes×List (Bytes×Nat)))(t1 t2 t3 t4 t5:Nat)(ms:ni)(H:WsH bs syms G0 gs t1 t2 t3 t4 t5 ms)(hv:RdG w v g bs)
 (hB:w.heap[bB]? =some (.cells #[v] 65 (0,0)))(hM:w.heap[bM]? =some (.cells #[.slice mb ms.length mc] 23 (0,0)))(hO:w.heap[bO]? =some (.cells #[.slice none 0 0] 22 (0,0)))(hK:w.heap[bK]? =some (.cells #[.bool false] 4 (0,0)))(a6:rj w mb ms [bO,bK])(G5:bO≠bK∧bM≠bO∧bM≠bK∧g≠bO∧g≠bK):
 Calls prog 23 #[ptr bB 0,ptr bM 0,ptr bO 0,ptr bK 0] w (WsP w bO bK G0 ms):=by
 have HH:=aa H;have KZ:=aa (zr w v g bs syms gs t1 t2 t3 t4 t5 (Ep hv H.idx H.sym));obtain⟨off,cap,rfl,_,_⟩:=id hv;have c0:w.cell? ⟨bB,0,none⟩=some (.slice (some ⟨g,off,none⟩) bs.length cap):=af hB 0;obtain⟨N,hN⟩:∃N,N=ms.length:=⟨_,rfl⟩;rw[←hN]at hM;have Hg:=aa hv.lt;have HI:=aa (And.intro hM (And.intro hO (And.intro hK (And.intro a6 G5))));have HN:=aa hN;have gF:N≤6:=by rw[hN];exact H.mat.1
 clear H hv hB hM hO hK a6 G5 hN;go_enter func23,ntmps23
 go_upto_region 2 with(go_at_call 24;refine KZ.o.mono ?_;rintro e w1 hq;obtain⟨R,rfl,hR,cA⟩:=hq)
 obtain⟨base,Hw⟩:∃base,base=w.heap.size:=⟨_,rfl⟩;obtain⟨T,hT⟩:∃T,T=w1.heap.size:=⟨_,rfl⟩;rw[←Hw,←hT]at hR;have W:=aa (And.intro hR (And.intro cA (And.intro Hw hT)));have cM:w1.cell? ⟨bM,0,none⟩=some (.slice mb N mc):=cA.cell (by simp) (af HI.o.1 0);clear hR cA Hw hT KZ c0;have d0:jL syms G0 (ms.take 0)=[]∧jc syms G0 (ms.take 0)=[]:=by simp[jL,jc]
 have cB:=aa d0;clear d0;go_wp2_with fail;go_loopg [6,7,34] N (fun gg s6 s7 e8 wx=>∃(j:Nat) (wl wo:PL),e8=.int .i64 j∧Hid (gg+j=N)∧Hid (PLs w1 wx g s6 s7 wl wo∧wl.map (fun x=>x.2.2)=jL syms G0 (ms.take j)∧wo.map (fun x=>x.2.2)=jc syms G0 (ms.take j)∧wl.length+wo.length=j))
 case atStart=>exact⟨0,[],[],rfl,aa (by omega),aa ⟨PLs.empty (by have:=Hg.o;have:=W.o.2.1.size;omega),cB.o.1.symm,cB.o.2.symm,rfl⟩⟩
 case round=>
  obtain⟨j,wl,wo,rfl,Hj,HR⟩:=hrel;by_cases gL:j<N
  ·have bS:j<ms.length:=by have:=HN.o;omega
   obtain⟨qm,om,e9,fa,fb,cD,cE,cF⟩:=HI.o.2.2.2.1 j bS;have bb:Upd [] w wr:=W.o.2.1.then HR.o.1.upd (by simp);obtain⟨ty,a1⟩:∃ty,ty=ms[j].1:=⟨_,rfl⟩;obtain⟨nm,G8⟩:∃nm,nm=ms[j].2.1:=⟨_,rfl⟩;obtain⟨sv,Ig⟩:∃sv,sv=ms[j].2.2:=⟨_,rfl⟩;have hm:=HH.o.mat.2 _ (aq bS);rw[←a1,←G8]at hm;rw[←a1]at cD;rw[←G8]at cE;rw[←Ig]at cF;have k0:=bb.cell (by simp) cD;have k1:=bb.cell (by simp) cE;have k2:=bb.cell (by simp) cF;have bl:Hid (jL syms G0 (ms.take (j+1))=jL syms G0 (ms.take j)++(if ty=0 then[dJ syms G0 (sb nm) (sb sv)]else[])∧jc syms G0 (ms.take (j+1))=jc syms G0 (ms.take j)++(if ty=0 then[]else[dJ syms G0 (sb nm) (sb sv)])):=aa (by
    rw[ax bS];simp only[jL,jc,fM,aX,←a1];constructor
    ·by_cases h0:ty=0
     ·have:decide (ms[j].1=0)=true:=by rw[←a1];simpa using h0
      simp[db,this,h0,rL,←G8,←Ig]
     ·have:decide (ms[j].1=0)=false:=by rw[←a1];simpa using h0
      simp[db,this,h0]
    ·by_cases h0:ty=0
     ·have:decide (ms[j].1=0)=true:=by rw[←a1];simpa using h0
      simp[db,this,h0]
     ·have:decide (ms[j].1=0)=false:=by rw[←a1];simpa using h0
      simp[db,this,h0,rL,←G8,←Ig])
   subst e9;have Hm:=aa hm;clear hm a1 G8 Ig cD cE cF bb bS fa fb cM;obtain⟨w2,bW⟩:∃w2,w2=wr.alloc (.cells #[.int .i64 (ty:Nat),.string nm,.string sv] 32 (0,0)):=⟨_,rfl⟩;obtain⟨p9,cL⟩:∃p9,p9=wr.heap.size:=⟨_,rfl⟩;have ea:Upd [] wr w2:=by rw[bW];exact(ae _).alloc _
   have h9:w2.heap[p9]? =some (.cells #[.int .i64 (ty:Nat),.string nm,.string sv] 32 (0,0)):=by rw[bW,cL];exact an _
   have H2:=aa (And.intro ea h9);have gP:(0:Int)≤(j:Int):=by omega
   have g0:(j:Int)<(N:Int):=by omega
   go_upto_region 6 with fail
   rw[←bW,←cL];clear bW cL ea h9 k0 k1 k2;have KP:Hid (∀w' q,w'.heap[q]? =some (.cells #[.string sv] 9 (0,0))→Upd [] w2 w'→w2.heap.size≤q→Calls prog 25 #[ptr R 0,.agg #[],.string nm,.slice (some ⟨q,0,none⟩) 1 1] w' fun e ad=>∃p B,e=.returned (.tuple #[p,.nilIface])∧PIt g ad p B (dJ syms G0 (sb nm) (sb sv))∧(∀b∈B,w2.heap.size≤b∧b<ad.heap.size)∧Upd [] w2 ad):=aa (fun w' q hq hu fc=>by have hr:=HR.o.1.upd;have hT:=W.o.2.2.2;have g8:=H2.o.1.size;have fr:=hr.size;have hw:=W.o.2.1.size;have hg:=Hg.o;have hb:=W.o.2.2.1;refine(tE w' R g base T q t1 t2 t3 t4 t5 _ bs syms G0 gs nm sv (W.o.1.new ((hr.then H2.o.1 (by simp)).then hu (by simp))) HH.o.idx hq ⟨by omega,by omega⟩ (fun e=>absurd e Hm.o.2)).mono ?_;rintro e ad ⟨p,B,rfl,h1,h2,h3⟩;exact⟨p,B,rfl,h1,fun b hb=>by have:=h2 b hb;have:=hu.size;omega,hu.then h3 (fun b hb hl=>by simp only[ag]at hb;omega)⟩)
   have KS:=aa (fun w' (hu:Upd [] w2 w')=>show w'.cell? ⟨p9,1,none⟩=some (.string nm)∧w'.cell? ⟨p9,2,none⟩=some (.string sv)from⟨hu.cell (by simp) (af H2.o.2 1),hu.cell (by simp) (af H2.o.2 2)⟩);have NE:=aa (fun w' (hu:Upd [] w2 w')=>show w'.heap.size≠p9 from by have:=hu.size;have:=lt_of_block H2.o.2;omega);obtain⟨k1,k2⟩:=KS.o w2 (ae _);have n1:=NE.o w2 (ae _);go_cut [10,11] (fun u1 u2 wx=>u2=.nilIface∧∃B,PIt g wx u1 B (dJ syms G0 (sb nm) (sb sv))∧(∀b∈B,w2.heap.size≤b∧b<wx.heap.size)∧Upd [] w2 wx)
   case first=>
    clear HR bl HI HN cB HH Hm
    go_region_held3 (fun w'=>w'.cell? ⟨p9,1,none⟩=some (.string nm)∧w'.cell? ⟨p9,2,none⟩=some (.string sv)) (go_keep) (first
     |(go_at_call 26;refine(Dj _).mono ?_;rintro e w7 ⟨rfl,F⟩;have a2:Hid (Upd [] w2 w7):=aa (by with_reducible first|exact((ae _).drew).then F (fun _ h _=>h)|exact(((ae _).drew).alloc _).then F (fun _ h _=>h)|exact(((ae _).alloc _).drew).then F (fun _ h _=>h));(try(have eb:w7.heap[w2.heap.size]? =some (.cells #[.string sv] 9 (0,0)):=F.blk (by with_reducible first|exact an _|exact bQ (an _)|exact bQ (w:=w2.alloc (.cells #[.string sv] 9 (0,0))) (an w2)) (by simp);have fs:=aa eb;clear eb));clear F;have n2:=NE.o _ a2.o;obtain⟨k1,k2⟩:=KS.o _ a2.o)
     |(go_at_call 25;refine(KP.o _ _ (by with_reducible first|exact an _|exact fs.o) (by with_reducible first|exact a2.o|exact a2.o.alloc _) (by with_reducible first|exact aw _|exact a2.o.size)).mono ?_;rintro e w8 ⟨p,B,rfl,hp,hB,d⟩;have H8:=aa (And.intro hp (And.intro hB d));clear hp hB;obtain⟨k1,k2⟩:=KS.o _ d;clear d))
    all_goals
     go_wp2_with fail;go_meet
     exact⟨rfl,B,H8.o⟩
   case rest=>
    obtain⟨rfl,B,hp,hB,d⟩:=hcut;generalize wc=w8 at*;obtain⟨T0,P0,rfl⟩:=hp.isIface;rcases Nat.le_one_iff_eq_zero_or_eq_one.1 Hm.o.1 with h0|h0
    ·subst h0;have k0:w8.cell? ⟨p9,0,none⟩=some (.int .i64 0):=af (d.blk H2.o.2 (by simp)) 0;obtain⟨v',w9,G,O⟩:=HR.o.1.push6 (H2.o.1.then d (by simp)) hp (fun b hb=>by have:=hB b hb;have:=H2.o.1.size;omega) (by have:=HR.o.2.2.2;omega);have a3:=aa (And.intro bl.o.1 bl.o.2);clear hp hB d H2 KP KS NE n1 k1 k2;go_wp2_with (at_builtin;refine bc rfl _ _ _ rfl _ _ _ _ rfl rfl G.o ?_);obtain⟨g1,cN⟩:∃g1,g1=gk-1:=⟨_,rfl⟩;go_roundg g1
     case measure=>have:=Hj.o;omega
     case rel=>
      have hR:=HR.o;refine⟨j+1,wl++[(_,B,_)],wo,by simp,aa (by have:=Hj.o;omega),aa ⟨O.o,?_,?_,by rw[ab];simp only[aj,ar];omega⟩⟩
      ·rw[a3.o.1,←hR.2.1];simp
      ·rw[a3.o.2,←hR.2.2.1];simp
    ·subst h0;have k0:w8.cell? ⟨p9,0,none⟩=some (.int .i64 1):=af (d.blk H2.o.2 (by simp)) 0;obtain⟨v',w9,G,O⟩:=HR.o.1.push7 (H2.o.1.then d (by simp)) hp (fun b hb=>by have:=hB b hb;have:=H2.o.1.size;omega) (by have:=HR.o.2.2.2;omega);have a3:=aa (And.intro bl.o.1 bl.o.2);clear hp hB d H2 KP KS NE n1 k1 k2;go_wp2_with (at_builtin;refine bc rfl _ _ _ rfl _ _ _ _ rfl rfl G.o ?_);obtain⟨g1,cN⟩:∃g1,g1=gk-1:=⟨_,rfl⟩;go_roundg g1
     case measure=>have:=Hj.o;omega
     case rel=>
      have hR:=HR.o;refine⟨j+1,wl,wo++[(_,B,_)],by simp,aa (by have:=Hj.o;omega),aa ⟨O.o,?_,?_,by rw[ab];simp only[aj,ar];omega⟩⟩
      ·rw[a3.o.1,←hR.2.1];simp
      ·rw[a3.o.2,←hR.2.2.1];simp
  ·have ft:j=N:=by have:=Hj.o;omega
   subst ft;have ef:ms.take j=ms:=bG (by rw[HN.o];exact aw _);have hR:=HR.o;rw[ef]at hR;have U:=aa hR;obtain⟨M6,eg⟩:∃M6,M6=if jL syms G0 ms=[]then[dJ syms G0 [] []]else jL syms G0 ms:=⟨_,rfl⟩
   have cP:=aa eg;clear ef hR cM HR eg;obtain⟨n6,cX⟩:∃n6,n6=wl.length:=⟨_,rfl⟩;obtain⟨b6,c6,rfl⟩:∃b6 c6,u6=.slice b6 n6 c6:=by
    rw[cX];rcases U.o.1.r6.shape with⟨h1,h2,_⟩|⟨q,c,h1,_⟩
    ·exact⟨none,0,by rw[h1,h2]⟩
    ·exact⟨_,c,h1⟩
   have cY:=aa cX;clear cX;go_upto_if 65 with fail
   go_cut [6]from 63 to 84 (fun s6 wx=>∃V,Hid (PLs w1 wx g s6 u7 V wo∧V≠[]∧V.map (fun x=>x.2.2)=M6∧V.length≤7))
   case first=>
    by_cases b5:n6=0
    ·have a7:wl=[]:=dh (by rw[←cY.o];exact b5);subst b5;have KP:Hid (∀w' q,w'.heap[q]? =some (.cells #[.string ⟨#[]⟩] 9 (0,0))→Upd [] wr w'→wr.heap.size≤q→Calls prog 25 #[ptr R 0,.agg #[],.string ⟨#[]⟩,.slice (some ⟨q,0,none⟩) 1 1] w' fun e ad=>∃p B,e=.returned (.tuple #[p,.nilIface])∧PIt g ad p B (dJ syms G0 [] [])∧(∀b∈B,wr.heap.size≤b∧b<ad.heap.size)∧Upd [] wr ad):=aa (fun w' q hq hu fc=>by have hr:=U.o.1.upd;have hT:=W.o.2.2.2;have fr:=hr.size;have hw:=W.o.2.1.size;have hg:=Hg.o;have hb:=W.o.2.2.1;refine(tE w' R g base T q t1 t2 t3 t4 t5 _ bs syms G0 gs ⟨#[]⟩ ⟨#[]⟩ (W.o.1.new (hr.then hu (by simp))) HH.o.idx hq ⟨by omega,by omega⟩ (fun _=>rfl)).mono ?_;rintro e ad ⟨p,B,rfl,h1,h2,h3⟩;exact⟨p,B,rfl,h1,fun b hb=>by have:=h2 b hb;have:=hu.size;omega,hu.then h3 (fun b hb hl=>by simp only[ag]at hb;omega)⟩)
     have fv:Hid (PLs w1 wr g (.slice b6 0 c6) u7 [] wo):=aa (by rw[←a7];exact U.o.1);have ei:jL syms G0 ms=[]:=by have h1:=U.o.2.1;rw[a7]at h1;exact h1.symm
     have fA:=aa ei;clear a7 ei
     go_wp2_with (first
      |(go_at_call 27;refine(DD _).mono ?_;rintro e _ ⟨rfl,rfl⟩)
      |(go_at_call 26;refine(Dj _).mono ?_;rintro e w7 ⟨rfl,F⟩;have a2:=aa F;clear F)
      |(go_at_call 25;refine(KP.o _ _ (by with_reducible exact an _) (a2.o.alloc _) a2.o.size).mono ?_;rintro e w8 ⟨p,B,rfl,hp,hB,d⟩;obtain⟨T0,P0,rfl⟩:=hp.isIface;obtain⟨v',w9,G,O⟩:=fv.o.push6 d hp hB (by simp);clear hp hB d)
      |(at_builtin;refine bc rfl _ _ _ rfl _ _ _ _ rfl rfl G.o ?_))
     go_meet
     exact⟨_,aa ⟨O.o,by simp,by rw[cP.o,if_pos fA.o];rfl,by simp⟩⟩
    ·have a7:wl≠[]:=fun e=>b5 (by rw[cY.o,e];rfl);have hb:((n6:Int)==0)=false:=by simp;omega
     have HQ:Hid (PLs w1 wr g (.slice b6 n6 c6) u7 wl wo∧wl≠[]∧wl.map (fun x=>x.2.2)=M6∧wl.length≤7):=aa ⟨U.o.1,a7,by have h1:=U.o.2.1;have h2:jL syms G0 ms≠[]:=fun e=>a7 (by rw[e]at h1;simpa using h1);rw[cP.o,if_neg h2,h1],by have:=U.o.2.2.2;omega⟩
     clear a7 b5;go_wp2_with fail;go_meet
     exact⟨wl,HQ⟩
   case rest=>
    obtain⟨V,HL⟩:=hcut;generalize wc=w3 at*;obtain⟨n,hn⟩:∃n,n=V.length:=⟨_,rfl⟩;obtain⟨n7,cZ⟩:∃n7,n7=wo.length:=⟨_,rfl⟩;obtain⟨q6,c7,rfl⟩:∃q6 c7,u6=.slice (some ⟨q6,0,none⟩) n c7:=by
     rcases HL.o.1.r6.shape with⟨_,h2,_⟩|⟨q,c,h1,_⟩
     ·exact absurd (dh h2) HL.o.2.1
     ·exact⟨q,c,by rw[hn];exact h1⟩
    obtain⟨b7,c8,rfl⟩:∃b7 c8,u7=.slice b7 n7 c8:=by
     rw[cZ];rcases HL.o.1.r7.shape with⟨h1,h2,_⟩|⟨q,c,h1,_⟩
     ·exact⟨none,0,by rw[h1,h2]⟩
     ·exact⟨_,c,h1⟩
    have KI:=aa (xE g q6 c7 w3 V (HL.o.1.row (by rw[hn]) (by have:=HL.o.2.2.2;omega)) HL.o.2.1);rw[←hn]at KI;have dc:=aa cZ;have fE:=aa U.o.2.2.1;have gi:n7≤6:=by have:=U.o.2.2.2;omega
    clear hn cZ U cY;go_upto_region 18 with(go_at_call 28;refine KI.o.mono ?_;rintro e w4 ⟨v4,B4,rfl,dd,dj,ej,el,dk⟩)
    obtain⟨X0,dp⟩:∃X0,X0=gm (V.map fun x=>x.2.2):=⟨_,rfl⟩;rw[←dp]at dd dj;have H4:Hid (WoS w1 w4 g wo 0 v4 X0∧PLs w1 w4 g (.slice (some ⟨q6,0,none⟩) n c7) (.slice b7 n7 c8) V wo):=aa ⟨WoS.first HL.o.1 rfl dd dj ej el dk,HL.o.1.new dk⟩;have fN:=aa (show X0=gm M6 from by rw[dp,HL.o.2.2.1]);clear dd dj ej el dk dp KI;go_wp2_with fail;go_loopg [16,89] n7 (fun gg fP fX wx=>∃i:Nat,fX=.int .i64 i∧Hid (gg+i=n7)∧Hid (WoS w1 wx g wo i fP (((wo.take i).map fun x=>x.2.2).foldl dif X0)∧PLs w1 wx g (.slice (some ⟨q6,0,none⟩) n c7) (.slice b7 n7 c8) V wo))
    case atStart=>exact⟨0,rfl,aa (by omega),H4⟩
    case round=>
     obtain⟨i,rfl,Hi,HS⟩:=hrel;clear H4;by_cases f0:i<n7
     ·have a0:i<wo.length:=by have:=dc.o;omega
      obtain⟨v5,ep⟩:∃v5,v5=wo[i].1:=⟨_,rfl⟩;obtain⟨q7,f1,hc⟩:=HS.o.2.cell7 a0;subst f1;have KW:=aa (HS.o.1.step HS.o.2 a0);rw[←ep]at KW hc;have f2:(0:Int)≤(i:Int):=by omega
      have f3:(i:Int)<(n7:Int):=by omega
      clear ep;go_wp2_with (go_at_call 29;refine KW.o.mono ?_;rintro e w5 ⟨v6,rfl,hW,et⟩;have HW:=aa (And.intro hW (HS.o.2.new et));clear hW et);obtain⟨g1,cN⟩:∃g1,g1=gk-1:=⟨_,rfl⟩;go_roundg g1
      case measure=>have:=Hi.o;omega
      case rel=>
       refine⟨i+1,by simp,aa (by have:=Hi.o;omega),aa ⟨?_,HW.o.2⟩⟩;have h1:=HW.o.1;have a0:i<wo.length:=by have:=dc.o;omega
       rw[ax a0,aX,ff];exact h1
     ·have a6:i=n7:=by have:=Hi.o;omega
      subst a6;have a4:((wo.take i).map fun x=>x.2.2).foldl dif X0=ow syms G0 ms:=by rw[bG (by rw[dc.o];exact aw _),fE.o,fN.o,cP.o,ow]
      have hW:=HS.o.1;rw[a4]at hW;obtain⟨B9,cp,bn,ds⟩:=hW;have O:=HS.o.2;have ev:g<wr.heap.size:=by have:=O.upd.size;have:=O.g;omega
      have KE:=aa (zT g i wr u16 B9 0 (ow syms G0 ms) cp bn (fun b hb=>(ds b hb).2.1) ev);have a9:=aa (And.intro ds O.upd);obtain⟨n9,eE⟩:∃n9,n9=(ow syms G0 ms).length:=⟨_,rfl⟩;have ca:=aa eE;have f4:n9≤12:=by have:=bn.len;omega
      clear a4 cp bn ds O ev eE HS;go_upto_region 25 with(go_at_call 30;refine KE.o.mono ?_;rintro e w5 ⟨r9,rfl,be,cc⟩)
      obtain⟨b9,c9,rfl⟩:∃b9 c9,r9=.slice b9 n9 c9:=by
       rw[ca.o];rcases be.shape with⟨h1,h2,_⟩|⟨q,c,h1,_⟩
       ·exact⟨none,0,by rw[h1,h2]⟩
       ·exact⟨_,c,h1⟩
      have H5:Hid (WsL w w1 w5 R g base T t5 bO n9 (.slice (some ⟨g,off,none⟩) bs.length cap) bs syms gs (ow syms G0 ms) (kC G0 ms) (.slice b9 n9 c9) (.slice none 0 0) 0):=aa (by
       have eG:=W.o.2.1;have Hw:=W.o.2.2.1;have f5:=W.o.2.2.2;have ha:=eG.size;have hd:=a9.o.2.size;have hbO:=lt_of_block HI.o.2.1;have hU:Upd [] w wr:=eG.then a9.o.2 (by simp);have eN:Upd [] w w5:=hU.then cc (fun b hb hl=>by have:=(a9.o.1 b hb).1;omega);refine⟨(W.o.1.new a9.o.2).upd cc (fun b hb=>by have:=a9.o.1 b hb;exact⟨this.2.2.1,.inr (by omega)⟩),?_,eN.blk HI.o.2.1 (by simp),?_,fun b hb=>⟨by have:=be.2 b hb;omega,be.lt b hb,by simp[Value.ownBlock]⟩,eN.mono (by simp),by have:=a9.o.2.size;have:=cc.size;omega⟩
       ·rw[fd];exact jl.nil _ _
       ·rw[ca.o]at be⊢;exact be.1)
      clear be cc KE a9;go_wp2_with fail;go_loopg [106] n9 (fun gg eR wx=>∃(i:Nat) (ov:Value),eR=.int .i64 i∧Hid (gg+i=n9)∧Hid (WsL w w1 wx R g base T t5 bO n9 (.slice (some ⟨g,off,none⟩) bs.length cap) bs syms gs (ow syms G0 ms) (kC G0 ms) (.slice b9 n9 c9) ov i))
      case atStart=>exact⟨0,_,rfl,aa (by omega),H5⟩
      case round=>
       obtain⟨i,ov,rfl,Hi,D⟩:=hrel;clear H5;by_cases f0:i<n9
       ·have dF:i<(ow syms G0 ms).length:=by have:=ca.o;omega
        have a4:=A4 HH.o;have a0:i<(kC G0 ms).length:=by omega
        obtain⟨br,Ia⟩:=a4.2 i dF a0;obtain⟨pos,bv⟩:∃pos,pos=(ow syms G0 ms)[i]:=⟨_,rfl⟩;obtain⟨l,hl⟩:∃l,l=(kC G0 ms)[i]:=⟨_,rfl⟩;rw[←bv,←hl]at br;rw[←hl]at Ia;have bd:=HH.o.lab l Ia;obtain⟨q9,f6,he⟩:∃q9,b9=some ⟨q9,0,none⟩∧wr.cell? ⟨q9,i,none⟩=some (.int .u64 (pos:Nat)):=by
         have G3:=D.o.row;rcases G3.2 with⟨h1,h2⟩|⟨q,c,cur,h1,rest⟩
         ·omega
         ·simp only[bx]at h1;obtain⟨rfl,_,rfl⟩:=h1;refine⟨q,rfl,?_⟩;have:=G3.cells (g:=q) rfl i (.int .u64 (pos:Nat)) (by rw[o7,cx,az dF,bv];rfl);rw[aO,aK]at this;exact this
        subst f6;have KT:=aa (told wr R g base T t5 pos _ bs syms gs l D.o.rd br (by have:=D.o.ge;have:=W.o.2.2.2;omega) bd.1 bd.2.2.1);have Hl:=aa (show(kC G0 ms).take (i+1)=(kC G0 ms).take i++[l]∧0<l.length∧i<(kC G0 ms).length from⟨by rw[ax a0,hl],List.length_pos_iff.2 bd.1,a0⟩);have f2:(0:Int)≤(i:Int):=by omega
        have f3:(i:Int)<(n9:Int):=by omega
        clear a4 br Ia bd bv hl dF a0;go_wp2_with fail;refine KT.o.mono ?_;rintro e w6 ⟨vt,rfl,bw,e0⟩;have bw:aP wr w6 56 2 l.length vt (aV l):=bw;obtain⟨qt,nt,ct,rfl⟩:=sV bw Hl.o.2.1;go_upto_region 29 with fail
        obtain⟨w7,cg⟩:∃w7,w7=w6.alloc (.cells #[.int .u64 (pos:Nat),.slice (some ⟨qt,0,none⟩) nt ct,.slice none 0 0] 63 (0,0)):=⟨_,rfl⟩;obtain⟨e5,bA⟩:∃p,p=w6.heap.size:=⟨_,rfl⟩;have h23:w7.heap[e5]? =some (.cells #[.int .u64 (pos:Nat),.slice (some ⟨qt,0,none⟩) nt ct,.slice none 0 0] 63 (0,0)):=by rw[cg,bA];exact an _
        have F:Upd [] w6 w7:=by rw[cg];exact(ae _).alloc _
        have A:Upd [] wr w7:=e0.then F (by simp);obtain⟨f7,w8,G,e6,d,dP⟩:=D.o.o.push A (bw.upd F (by simp)) D.o.ge (by have:=cH i (kC G0 ms);omega);have cO:w7.cell? ⟨bO,0,none⟩=some ov:=A.cell (by simp) (af D.o.hbO 0);have hh:w7.cell? ⟨e5,1,none⟩=some (.slice (some ⟨qt,0,none⟩) nt ct):=af h23 1;have bE:=lt_of_block HI.o.2.1;have bL:=W.o.2.1.size;have a5:∀b,ov.ownBlock=some b→w1.heap.size≤b:=fun b hb=>by obtain⟨vs,hr,_⟩:=D.o.o;exact hr.2 b hb
        have bg:w8.heap[bO]? =some (.cells #[ov] 22 (0,0)):=d.o.blk (A.blk D.o.hbO (by simp)) (fun hm=>by have:=a5 bO (by simpa using hm);omega);obtain⟨z8,c8⟩:∃z,w8.cell? ⟨bO,0,none⟩=some z:=⟨_,af bg 0⟩;have f8:=ao bg 0;obtain⟨b8,n8,d8,rfl⟩:∃b8 n8 d8,f7=.slice b8 n8 d8:=by
         obtain⟨vs,hr,_⟩:=e6.o;rcases hr.shape with⟨h1,_,_⟩|⟨q,c,h1,_⟩
         ·exact⟨none,0,0,h1⟩
         ·exact⟨_,_,c,h1⟩
        have H8:=aa (And.intro bg (And.intro A (And.intro a5 (And.intro bE bL))));rw[←cg,←bA];clear cg bA h23 F A bw e0 a5 bg bE bL KT;go_wp2_with (at_builtin;refine bc rfl _ _ _ rfl _ _ _ _ rfl rfl G.o ?_);obtain⟨g1,cN⟩:∃g1,g1=gk-1:=⟨_,rfl⟩;go_roundg g1
        case measure=>have:=Hi.o;omega
        case rel=>
         obtain⟨bg,A,a5,bE,bL⟩:=H8.o;have hL:=D.o;have Hw:=W.o.2.2.1;have f5:=W.o.2.2.2;have hg:=Hg.o;have bR:Upd [bO] w8 (w8.setCell ⟨bO,0,none⟩ (.slice b8 n8 d8)):=((ae _).mono (by simp)).setCell (by simp) _;have hi:=A.size;have s8:=d.o.size;have sO:=bR.size;have e7:∀b∈ov.ownBlock.toList,w1.heap.size≤b:=fun b hb=>a5 b (by simpa using hb);have h9:=hL.h9 q9 rfl;have f9:g≠bO:=HI.o.2.2.2.2.2.2.2.1;refine⟨i+1,.slice b8 n8 d8,by simp,aa (by have:=Hi.o;omega),aa ⟨?_,?_,au bg 0 _,?_,fun b hb=>?_,?_,by have:=hL.ge;omega⟩⟩
         ·refine((hL.rd.new A).upd d.o (fun b hb=>by have:=e7 b hb;omega)).upd bR (fun b hb=>?_);simp only[ag]at hb;subst hb;exact⟨aF f9,.inl (by omega)⟩
         ·rw[Hl.o.1];exact e6.o.upd bR (fun b hb=>by simp only[ag]at hb;omega)
         ·refine bR.row (d.o.row (A.row hL.row (by simp)) (fun b hb hm=>?_)) (fun b hb hm=>?_)
          ·simp only[Value.ownBlock,aM]at hb;subst hb;exact h9.2.2 (by simpa using hm)
          ·simp only[Value.ownBlock,aM]at hb;simp only[ag]at hm;omega
         ·simp only[Value.ownBlock,aM]at hb;subst hb;refine⟨h9.1,by omega,fun e=>?_⟩;rcases dP.o _ e with h|h
          ·exact h9.2.2 h
          ·omega
         ·exact((hL.upd.then A (by simp)).then d.o (fun b hb hl=>by have:=e7 b hb;omega)).then bR (fun b hb _=>hb)
       ·have a6:i=n9:=by have:=Hi.o;omega
        have cn:wr.heap[bK]? =some (.cells #[.bool false] 4 (0,0)):=D.o.upd.blk HI.o.2.2.1 (by simpa using aF HI.o.2.2.2.2.1);have ck:wr.cell? ⟨bK,0,none⟩=some (.bool false):=af cn 0;have fk:=ao cn 0;have ga:=aa cn;have gd:=aa a6;clear cn a6;go_wp2_with fail;go_end0
        have dT:Upd [bK] wr (wr.setCell ⟨bK,0,none⟩ (.bool true)):=((ae _).mono (by simp)).setCell (by simp) _;have hs:=A4 HH.o;have cs:=D.o.o;rw[gd.o,ca.o,hs.1,aS]at cs;refine⟨rfl,ov,dT.blk D.o.hbO (by simpa using HI.o.2.2.2.2.1),(cs.upd dT (fun b hb=>?_)).old W.o.2.1.size,au ga.o 0 _,(D.o.upd.mono (by simp)).then dT (fun b hb _=>by simp only[ag]at hb;simp[hb])⟩;simp only[ag]at hb;have:=lt_of_block HI.o.2.2.1;have:=W.o.2.1.size;omega
section
variable {w:World}
theorem A2(X:Nat)(w:World)(v:Value)(hX:w.heap[X]? =some (.cells #[v] 4 (0,0))):
 CallsD prog 53 #[.pointer (some ⟨X,0,none⟩)] .returning w fun e d w'=>e=.returned (.tuple #[])∧d=.returning∧w'=w.setCell ⟨X,0,none⟩ (.bool true):=by
 have z:=af hX 0;have A:=ao hX 0;refine callsD_of_wpS func53 rfl fun D cs hu=>?_;apply wpS_region;simp[wpOpsS,go_sem,recoverD,hu,ntmps53,z,A];cases D;simp_all[bodyPostS,results,results53]
theorem Fy(V:Array Value)(L:List Nat)(hL:∀b∈L,b<w.heap.size)(z:World→Prop)
 (W:∀w1,Upd [] w w1→w.heap.size<w1.heap.size→Calls prog 46 V w1 fun e w2=>e=.returned (.tuple #[])∧Upd L w1 w2∧z w2):
 Calls prog 22 #[.func (.func 46) #[] V] w fun e w'=>e=.returned (.bool true)∧∃w2,z w2∧Upd [w.heap.size] w2 w'∧Upd L w w':=by
 have ad:∀(fn:Fn) (first cap:Array Value) (w:World),(Instr.makeFunc fn first cap).run prog w=.ok (.func fn first cap) w:=fun _ _ _ _=>rfl;have A:Upd [] w (w.alloc (.cells #[.bool false] 4 (0,0))):=(ae w).alloc _;have D:(w.alloc (.cells #[.bool false] 4 (0,0))).heap[w.heap.size]? =some (.cells #[.bool false] 4 (0,0)):=an _;have HC:=aa (W _ A (by rw[aJ];omega));have G:=aa A;have O:=aa D;have HL:=aa hL;clear W A D hL;go_enter_defers func22,ntmps22
 go_wp2_with fail;refine HC.o.mono ?_;rintro e w2 ⟨rfl,hu,hp⟩;have d:=hu.blk O.o (fun h=>absurd (HL.o _ h) (cR _));have c0:=af d 0;have f0:=ao d 0;have F:=aa (And.intro hp (And.intro hu d));clear hp hu d;go_wp2_with fail;refine leaves_cons (f:=53) (args:= #[.pointer (some ⟨w.heap.size,0,none⟩)]) (by simp) (by simp[go_sem]) ?_;refine(A2 w.heap.size _ (.bool true) (au F.o.2.2 0 _)).mono ?_;rintro e u' a0 ⟨rfl,rfl,rfl⟩;have G4:Upd [w.heap.size] w2 ((w2.setCell ⟨w.heap.size,0,none⟩ (.bool true)).setCell ⟨w.heap.size,0,none⟩ (.bool true)):=(((ae w2).mono (by simp)).setCell (by simp) _).setCell (by simp) _;have U:=au (au F.o.2.2 0 (.bool true)) 0 (.bool true);have c3:=af U 0;refine⟨.bool true,?_,rfl,w2,F.o.1,G4,((G.o.mono (by simp)).then F.o.2.1 (fun _ h _=>h)).then G4 (fun b hb hl=>by simp at hb;omega)⟩;simp[results,results22,go_sem,c3]
theorem FA(V:Array Value)(L:List Nat)(hL:∀b∈L,b<w.heap.size)(z:World→Prop)
 (W:∀w1,Upd [] w w1→w.heap.size<w1.heap.size→Calls prog 23 V w1 fun e w2=>e=.returned (.tuple #[])∧Upd L w1 w2∧z w2):
 Calls prog 22 #[.func (.func 23) #[] V] w fun e w'=>e=.returned (.bool true)∧∃w2,z w2∧Upd [w.heap.size] w2 w'∧Upd L w w':=by
 have ad:∀(fn:Fn) (first cap:Array Value) (w:World),(Instr.makeFunc fn first cap).run prog w=.ok (.func fn first cap) w:=fun _ _ _ _=>rfl;have A:Upd [] w (w.alloc (.cells #[.bool false] 4 (0,0))):=(ae w).alloc _;have D:(w.alloc (.cells #[.bool false] 4 (0,0))).heap[w.heap.size]? =some (.cells #[.bool false] 4 (0,0)):=an _;have HC:=aa (W _ A (by rw[aJ];omega));have G:=aa A;have O:=aa D;have HL:=aa hL;clear W A D hL;go_enter_defers func22,ntmps22
 go_wp2_with fail;refine HC.o.mono ?_;rintro e w2 ⟨rfl,hu,hp⟩;have d:=hu.blk O.o (fun h=>absurd (HL.o _ h) (cR _));have c0:=af d 0;have f0:=ao d 0;have F:=aa (And.intro hp (And.intro hu d));clear hp hu d;go_wp2_with fail;refine leaves_cons (f:=53) (args:= #[.pointer (some ⟨w.heap.size,0,none⟩)]) (by simp) (by simp[go_sem]) ?_;refine(A2 w.heap.size _ (.bool true) (au F.o.2.2 0 _)).mono ?_;rintro e u' a0 ⟨rfl,rfl,rfl⟩;have G4:Upd [w.heap.size] w2 ((w2.setCell ⟨w.heap.size,0,none⟩ (.bool true)).setCell ⟨w.heap.size,0,none⟩ (.bool true)):=(((ae w2).mono (by simp)).setCell (by simp) _).setCell (by simp) _;have U:=au (au F.o.2.2 0 (.bool true)) 0 (.bool true);have c3:=af U 0;refine⟨.bool true,?_,rfl,w2,F.o.1,G4,((G.o.mono (by simp)).then F.o.2.1 (fun _ h _=>h)).then G4 (fun b hb hl=>by simp at hb;omega)⟩;simp[results,results22,go_sem,c3]
end
section
variable {w:World}
theorem rp.move{w w':World}{b:Option Addr}{l:List Bytes}{L:List Nat}(h:rp w b l [])(hu:Upd [] w w')(hL:∀x∈L,w.heap.size≤x):rp w' b l L:=fun j z=>by obtain⟨q,e,_,d⟩:=h j z;have hq:=ez d;simp only at hq;exact⟨q,e,fun hm=>by have:=hL q hm;omega,hu.cell (by simp) d⟩
theorem ro.move{w w':World}{b:Option Addr}{l:List (List (ByteArray×ByteArray))}{L:List Nat}(h:ro w b l [])(hu:Upd [] w w')(hL:∀x∈L,w.heap.size≤x):ro w' b l L:=fun j D=>by obtain⟨q,a,o,cap,e,_,_,F,hr,A,d,z⟩:=h j D;have hq:=ez A;simp only at hq;exact⟨q,a,o,cap,e,fun hm=>by have:=hL q hm;omega,fun hm=>by have:=hL a hm;omega,by have:=hu.size;omega,hr.upd hu (by simp),hu.cell (by simp) A,hu.cell (by simp) d,hu.cell (by simp) z⟩
theorem DH(w:World)(z A o3 D F:Obj):∃d,d=((((w.alloc z).alloc A).alloc o3).alloc D).alloc F∧Upd [] w d∧d.heap[w.heap.size]? =some z∧d.heap[w.heap.size+1]? =some A∧d.heap[w.heap.size+1+1]? =some o3∧d.heap[w.heap.size+1+1+1]? =some D∧d.heap[w.heap.size+1+1+1+1]? =some F∧d.heap.size=w.heap.size+1+1+1+1+1:=by have G:=an (w:=w.alloc z) A;have O:=an (w:=(w.alloc z).alloc A) o3;have h4:=an (w:=((w.alloc z).alloc A).alloc o3) D;have h5:=an (w:=(((w.alloc z).alloc A).alloc o3).alloc D) F;simp only[aJ]at G O h4 h5;exact⟨_,rfl,(((((ae w).alloc _).alloc _).alloc _).alloc _).alloc _,bt _ (bt _ (bt _ (bt _ (an _)))),bt _ (bt _ (bt _ G)),bt _ (bt _ O),bt _ h4,h5,by simp only[aJ]⟩
theorem vd(b1 b2:Option Addr)(m1 c1 m2 c2:Nat)(syms:List Bytes)(ls G0:List (List (ByteArray×ByteArray)))(D:Bytes)(H:u9 syms ls G0 D)
 (a0:m1=syms.length)(hm2:m2=ls.length)(h1:rp w b1 syms [])(h2:ro w b2 ls []):
 Calls prog 21 #[.slice b1 m1 c1,.slice b2 m2 c2] w fun e w'=>∃g cap,e=.returned (.tuple #[.slice (some ⟨g,0,none⟩) D.length cap,.int .i64 (-1)])∧RdG w' (.slice (some ⟨g,0,none⟩) D.length cap) g D∧Upd [] w w':=by
 have br:∀(fn:Fn) (first cap:Array Value) (w:World),(Instr.makeFunc fn first cap).run prog w=.ok (.func fn first cap) w:=fun _ _ _ _=>rfl;have HI:=aa (And.intro a0 (And.intro hm2 (And.intro h1 h2)));clear a0 hm2 h1 h2;go_enter func21,ntmps21
 go_wp2_with fail;obtain⟨w5,a1,O,p1,p2,p3,p4,p5,a2⟩:=DH w (.cells #[.slice b1 m1 c1] 59 (0,0)) (.cells #[.slice b2 m2 c2] 60 (0,0)) (.cells #[.slice none 0 0] 65 (0,0)) (.cells #[.int .i64 0] 3 (0,0)) (.cells #[.int .i64 0] 3 (0,0));rw[←a1];obtain⟨n,hn⟩:∃n,n=w.heap.size:=⟨_,rfl⟩;rw[←hn]at p1 p2 p3 p4 p5 a2⊢;have hC:∀U,Upd [] w5 U→w5.heap.size<U.heap.size→Calls prog 46 #[ptr (n+1+1+1) 0,ptr n 0,ptr (n+1+1+1+1) 0,ptr (n+1) 0,ptr (n+1+1) 0] U fun e w'=>e=.returned (.tuple #[])∧Upd [n+1+1+1,n+1+1+1+1,n+1+1] U w'∧(w'.heap[n+1+1+1]? =some (.cells #[.int .i64 (-1)] 3 (0,0))∧∃g cap,w'.heap[n+1+1]? =some (.cells #[.slice (some ⟨g,0,none⟩) D.length cap] 65 (0,0))∧w5.heap.size<g∧RdG w' (.slice (some ⟨g,0,none⟩) D.length cap) g D):=fun U hu hs=>by
  have a3:=O.then hu (by simp);have hL:∀x∈[n+1+1+1,n+1+1+1+1,n+1+1],w.heap.size≤x:=by intro x hx;simp at hx;omega
  refine(DI (w:=U) (n+1+1+1) n (n+1+1+1+1) (n+1) (n+1+1) b1 b2 m1 c1 m2 c2 _ _ syms ls G0 D H (hu.blk p4 (by simp)) (hu.blk p5 (by simp)) (hu.blk p3 (by simp)) (hu.blk p1 (by simp)) (hu.blk p2 (by simp)) (by simp;omega) HI.o.1 HI.o.2.1 (HI.o.2.2.1.move a3 hL) (HI.o.2.2.2.move a3 hL)).mono ?_;rintro e w' ⟨rfl,bv,hA,g,cap,hB,hg,hR⟩;exact⟨rfl,bv,hA,g,cap,hB,by omega,hR⟩
 have HC:=aa (Fy (w:=w5) _ [n+1+1+1,n+1+1+1+1,n+1+1] (by intro b hb;simp at hb;omega) _ hC);refine HC.o.mono ?_;rintro e A ⟨rfl,U,⟨hA,g,gc,hB,hg,hR⟩,F,a4⟩;have V:=F.blk hA (by simp;omega);have G:=F.blk hB (by simp;omega);have W:=hR.upd F (by simp;omega);obtain⟨d,ad⟩:∃d,d=D.length:=⟨_,rfl⟩;rw[←ad]at G W;have q0:A.cell? ⟨n+1+1+1,0,none⟩=some (.int .i64 (-1)):=af V 0;have q1:A.cell? ⟨n+1+1,0,none⟩=some (.slice (some ⟨g,0,none⟩) d gc):=af G 0;have a5:=aa W;have z:=aa (And.intro V G);have a6:=aa (O.then a4 (by intro b hb hl;simp at hb;omega));have bw:=aa ad;have Hg:=aa (show n+1+1+1+1+1<g by omega);clear hA hB hR F a4 V G W ad hC HC a1 O p1 p2 p3 p4 p5 a2 br;have Hn:=aa hn;clear hn hg;have f0:=ao z.o.1 0;have f1:=ao z.o.2 0;have G5:n+1+1+1≠n+1+1:=by omega
 have r1:(A.setCell ⟨n+1+1,0,none⟩ (.slice (some ⟨g,0,none⟩) d gc)).cell? ⟨n+1+1,0,none⟩=some (.slice (some ⟨g,0,none⟩) d gc):=af (au z.o.2 0 _) 0;have r2:(A.setCell ⟨n+1+1,0,none⟩ (.slice (some ⟨g,0,none⟩) d gc)).cell? ⟨n+1+1+1,0,none⟩=some (.int .i64 (-1)):=by rw[dO _ _ (aF G5)];exact q0
 have r3:(A.setCell ⟨n+1+1+1,0,none⟩ (.int .i64 (-1))).cell? ⟨n+1+1+1,0,none⟩=some (.int .i64 (-1)):=af (au z.o.1 0 _) 0;have r4:(A.setCell ⟨n+1+1+1,0,none⟩ (.int .i64 (-1))).cell? ⟨n+1+1,0,none⟩=some (.slice (some ⟨g,0,none⟩) d gc):=by rw[dO _ _ G5];exact q1
 have a7:((A.setCell ⟨n+1+1,0,none⟩ (.slice (some ⟨g,0,none⟩) d gc)).setCell ⟨n+1+1+1,0,none⟩ (.int .i64 (-1))).heap[n+1+1]? =some (.cells #[.slice (some ⟨g,0,none⟩) d gc] 65 (0,0)):=(((ae _).mono (M:=[n+1+1+1]) (by simp)).setCell (by simp) _).blk (au z.o.2 0 _) (by simp);have a9:((A.setCell ⟨n+1+1,0,none⟩ (.slice (some ⟨g,0,none⟩) d gc)).setCell ⟨n+1+1+1,0,none⟩ (.int .i64 (-1))).heap[n+1+1+1]? =some (.cells #[.int .i64 (-1)] 3 (0,0)):=au ((((ae _).mono (M:=[n+1+1]) (by simp)).setCell (by simp) _).blk z.o.1 (by simp)) 0 _;have bb:((A.setCell ⟨n+1+1+1,0,none⟩ (.int .i64 (-1))).setCell ⟨n+1+1,0,none⟩ (.slice (some ⟨g,0,none⟩) d gc)).heap[n+1+1]? =some (.cells #[.slice (some ⟨g,0,none⟩) d gc] 65 (0,0)):=au ((((ae _).mono (M:=[n+1+1+1]) (by simp)).setCell (by simp) _).blk z.o.2 (by simp)) 0 _;have bd:((A.setCell ⟨n+1+1+1,0,none⟩ (.int .i64 (-1))).setCell ⟨n+1+1,0,none⟩ (.slice (some ⟨g,0,none⟩) d gc)).heap[n+1+1+1]? =some (.cells #[.int .i64 (-1)] 3 (0,0)):=(((ae _).mono (M:=[n+1+1]) (by simp)).setCell (by simp) _).blk (au z.o.1 0 _) (by simp);go_wp2_with fail;go_region_held3 (fun w'=>w'.cell? ⟨n+1+1+1,0,none⟩=some (.int .i64 (-1))∧w'.cell? ⟨n+1+1,0,none⟩=some (.slice (some ⟨g,0,none⟩) d gc)) (first|exact⟨q0,q1⟩|exact⟨r2,r1⟩|exact⟨r3,r4⟩|exact⟨af a9 0,af a7 0⟩|exact⟨af bd 0,af bb 0⟩) (fail)
 all_goals
  go_wp2_with fail;refine bodyPost_ret (v:=.tuple #[.slice (some ⟨g,0,none⟩) d gc,.int .i64 (-1)]) ?_ rfl ?_
  ·have e1:=af a7 0;have e2:=af a9 0;have e3:=af bb 0;have e4:=af bd 0;simp[results,results21,go_sem,e1,e2,e3,e4]
  ·have bA:=Hg.o;have bB:=Hn.o;have be:Upd [n+1+1,n+1+1+1] A ((A.setCell ⟨n+1+1,0,none⟩ (.slice (some ⟨g,0,none⟩) d gc)).setCell ⟨n+1+1+1,0,none⟩ (.int .i64 (-1))).drew:=((((ae A).mono (by simp)).setCell (by simp) _).setCell (by simp) _).drew;have bg:Upd [n+1+1,n+1+1+1] A ((A.setCell ⟨n+1+1+1,0,none⟩ (.int .i64 (-1))).setCell ⟨n+1+1,0,none⟩ (.slice (some ⟨g,0,none⟩) d gc)).drew:=((((ae A).mono (by simp)).setCell (by simp) _).setCell (by simp) _).drew;have bl:g∉[n+1+1,n+1+1+1]:=by simp;omega
   have bn:∀i∈[n+1+1,n+1+1+1],i<w.heap.size→i∈([]:List Nat):=by intro i hi hl;simp at hi;omega
   rw[←bw.o]
   first
    |exact⟨g,gc,rfl,a5.o.upd be bl,a6.o.then be bn⟩
    |exact⟨g,gc,rfl,a5.o.upd bg bl,a6.o.then bg bn⟩
end
end Go.Proofs.YtlgefdfflmgocaaGreatDoor
