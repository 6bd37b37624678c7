import Derived.Test.YtlgefdfflmgocaaGreatDoorQ20
set_option linter.all false
set_option maxRecDepth 100000
set_option maxHeartbeats 8000000
namespace Go.Proofs.YtlgefdfflmgocaaGreatDoor
section
open Go Go.RowKit Xc Go.Proofs.Tryz
attribute [local go_sem ↓] Go.wp_at_zero Go.wp_at_succ
variable {w:World} {k:WK} {r:WR} {s:WS}
def Bu(d:World)(p z:Nat)(xs:List Nat)(v:Value)(A:World):Prop:=∃q',gR A v q' xs∧(q'=z∨d.heap.size≤q')∧q'≠p∧Upd [p,z] d A
theorem En:sb (⟨#[]⟩:ByteArray)=[]:=rfl
theorem gl.openG{w:World}{v:Value}{gF:Option Nat}{bs:Bytes}(h:gl w v gF bs)(hb:bs≠[]):∃g cap,gF=some g∧v=.slice (some ⟨g,0,none⟩) bs.length cap∧RdG w v g bs:=by
 obtain⟨q,cap,rfl,hq⟩:=h.shape hb;subst hq;exact⟨q,cap,rfl,rfl,h.rdG hb rfl (by
  rcases h.own.2 with⟨e,_⟩|⟨D,z,A,e1,_,_,d,_⟩
  ·cases e
  ·cases e1;exact d)⟩
theorem uX(F0:Bytes)(G1:fO)(ln ids:List (ByteArray×Nat))(syms:List Bytes)(S g2 N2 G6:Nat)(rr:Option Nat)(L:PtL)(h:TpH w k r s F0 G1 ln ids syms S g2 N2 G6 rr)
 (hL:L=([],[],cG F0.length G1)::dI syms.length (trip F0.length G1) syms (cj ids) (du ln))
 (hb1:(ptF s.bP L).length<1000000)(hb2:(s.bPO++poB (ptP s.bP L)).length<1000000)(hb3:s.cnt+L.length<1000000)(hb4:∀x∈L,x.2.2.length<10000∧∀y∈x.2.2,y<4294967296):
 Calls prog 155 #[ptr k.W 0] w fun e w'=>e=.returned .nilIface∧∃b1 b2 c,WP w k r s.bF.length (ptS s L b1 b2 c) w':=by
 have H0:=aa h;have d:=aa h.wi;have HL:=aa hL;have HB:=aa (And.intro hb1 (And.intro hb2 (And.intro hb3 hb4)));have cB:=h.wi.cell 40 _ rfl;obtain⟨Z0,cD⟩:∃Z0,Z0=ln.length:=⟨_,rfl⟩;have k5:Z0<1000:=by rw[cD];exact h.lnl.1
 have hlen:(Builtin.len_ #[154] 3 #[.map (some k.MN)]).run prog w=.ok (.int .i64 (Z0:Nat)) w:=by rw[lM underlying154 h.wi.mn,h.names,eW,aB,cD]
 have t6:=aa cD;obtain⟨i0,hi,fA,fE,fN⟩:=info_parts Tryz.infoStr;clear h hL hb1 hb2 hb3 hb4 cD;go_enter_defers func155,ntmps155
 go_upto_region 2 with(at_make;refine wpList_make_own _ rfl _ _ 59 rfl 0 9 i0 (.string ⟨#[]⟩) 1 underlying59 hi fA fE .i64 .i64 _ Z0 rfl rfl ?e1 ?e2 ?e3 ?e4 ?_)
 case e1=>rfl
 case e2=>rw[fN];omega
 case e3=>unfold maxLen;omega
 case e4=>omega
 intro w1 bg eR;have e0:Upd [] w w1:=(ae w).grown eR (by simp);have fP:w.heap.size<w1.heap.size:=(bg.lt w.heap.size rfl).2;have e5:=d.o.new e0;obtain⟨w2,e6,hit,e7⟩:=iA (P:=prog) (kv:=Value.string) underlying154 e5.mn;obtain⟨R,hR⟩:∃R,R=w1.heap.size:=⟨_,rfl⟩;rw[←hR]at hit fP e6;have e8:=aa e6;clear hR;have cB:=e0.cell (a:=⟨k.W,40,none⟩) (by simp) cB;clear e6 hlen;go_upto_block 0 with(at_range;refine gO rfl _ _ rfl _ _ _ rfl e8.o ?_)
 go_frame
 go_cut [3,4]from 58 to 65 (fun v _ wx=>Dq w s.names v wx)
 case first=>
  go_wp2_with fail;have W:=e7.row bg (by simp);have fX:Upd [] w w2:=e0.then e7 (by simp);clear e8 bg eR e5 cB;have hsl:s.names.length<1000:=by rw[H0.o.names,eW,aB];exact H0.o.lnl.1
  go_loopw [3] (fun v wr=>∃done q,MIt Value.string wr k.MN R s.names done∧wr.ownsRow 0 9 1 v done.length ((jg s.names done).map Value.string)∧v.ownBlock=some q∧w.heap.size≤q∧q≠R∧Upd [] w wr) (fun _ wr=>g6 wr R s.names.length)
  case atStart=>exact⟨[],w.heap.size,hit,W,rfl,aw _,by omega,fX⟩
  case round=>
   obtain⟨done,q,hI,hO,hq,bw,hqR,hU⟩:=hrel;have HI:=aa hI;have HO:=aa hO;have Hq:=aa hq;have HU:=aa hU;rcases hI.next (P:=prog) 0 with⟨hd,z⟩|⟨j,a,v0,w3,hj,h8,f2,z,f3,G4,t7⟩
   ·have bA:=aa z;have Hd:=aa hd;clear hI hO hq hU z hd;go_wp2_with (at_next;refine dQ rfl _ rfl _ _ _ rfl bA.o ?_);go_meet
    obtain⟨cap,hv⟩:∃cap,u3=.slice (some ⟨q,0,none⟩) done.length cap:=by
     rcases HO.o.2 with⟨rfl,_⟩|⟨g,cap,cur,rfl,_⟩
     ·exact absurd Hq.o (by simp[Value.ownBlock])
     ·have:=Hq.o;cases this;exact⟨cap,rfl⟩
    have hp:=HI.o.all Hd.o;refine⟨jg s.names done,hp,q,cap,?_,?_,bw,HU.o⟩
    ·rw[hv,HI.o.keysLen]
    ·rw[HI.o.keysLen];exact HO.o
   ·have bA:=aa z;have c9:=HU.o.then G4 (by have:=HU.o.size;intro i hi hl;simp only[ag]at hi;omega);have f4:=G4.row hO (by rw[hq];rintro _ ⟨⟩;simpa using hqR);have f5:=hI.keysLen;have h9:=aa f4;have f6:=aa f3;have bB:=aa c9;have ih:=aa (oG (l:=s.names) (done:=done) hj);have t8:=aa f5;have t9:done.length<1000:=by omega
    have it:=HI;clear hI hO hq hU z f3 G4 c9 f4 f5 hj h8 HI HO HU;have ad:Upd [] w3 (w3.alloc (.cells #[.string a] 9 (0,0))):=(ae _).alloc _;obtain⟨g',cap',w4,e9,fa,dd,cE⟩:=Dc (P:=prog) 59 9 i0 (.string ⟨#[]⟩) 16 underlying59 hi fA fE fN rfl h9.o Hq.o ad (.string a) rfl w3.heap.size (an _) (by unfold maxLen;omega) (by omega);clear ad;go_wp2_with (first|(at_next;refine dQ rfl _ rfl _ _ _ rfl bA.o ?_)|(at_builtin;refine bc rfl _ _ _ rfl _ _ _ _ rfl rfl e9.o ?_));have ua:=bB.o.size;have f7:w.heap.size≤g'∧g'≠R:=by
     have h1:R<w3.heap.size:=by obtain⟨c,_,hr⟩:=f6.o.it;exact lt_of_block hr
     rcases cE.o with rfl|h
     ·exact⟨bw,hqR⟩
     ·omega
    have i3:k.MN∉[q]:=by have:=d.o.lt 5 _ rfl;simp only[ag];omega
    have f8:=f6.o.upd dd.o i3 (by simpa using aF hqR);refine⟨⟨done++[j],g',f8,?_,rfl,f7.1,f7.2,bB.o.then dd.o (by intro i hi hl;simp only[ag]at hi;omega)⟩,?_⟩
    ·rw[ih.o,aX,ab];exact fa.o
    ·rw[f8.left,(show g6 wr R s.names.length=s.names.length-done.length from ?_),ab]
     ·simp only[aj,ar];omega
     ·exact it.o.left _
 case rest=>
  obtain⟨ns,hp,q,cap,rfl,W,bw,G4⟩:=hcut;clear e8 hit e7 eR bg e5 fP cB;have i4:=aa (d.o.new G4);have bE:ns.length<1000:=by have:=hp.length_eq;rw[this,aB,H0.o.names,eW,aB];exact H0.o.lnl.1
  have bK:(ns.map sb).length=ns.length:=by simp
  have G3:wc.ownsRow 0 9 1 (.slice (some ⟨q,0,none⟩) (ns.map sb).length cap) (ns.map sb).length ((ns.map sb).map fun x=>Value.string (str x)):=by
   rw[bK,bT];have e:((fun x=>Value.string (str x))∘sb)=Value.string:=by funext x;simp[dX]
   rw[e];exact W
  have cF:=sm wc G3 (by rw[bK];omega);have bL:((ns.map sb).mergeSort fun x y=>decide (x≤y))=du ln:=by unfold du;refine yK ?_;have h1:=hp.map sb;rw[bT,H0.o.names,eW,bT]at h1;exact h1
  have Ie:(du ln).length=ns.length:=by rw[←bL,List.length_mergeSort,bK]
  rw[bL,bK,←Ie]at cF;rw[←Ie]at bE⊢;obtain⟨M,hM⟩:∃M,M=(du ln).length:=⟨_,rfl⟩;rw[←hM]at cF bE⊢;have f9:=aa cF;have HM:=aa hM;have bB:=aa G4;have cL:=aa bw;clear cF hM Ie bL G3 bK hp W G4 bE bw
  go_wp2_with (first
   |(go_at_call 20;refine f9.o.mono ?_;rintro e w4 ⟨rfl,ga,ad⟩;have cM:=aa (bB.o.then ad (by have:=cL.o;intro i hi hl;simp only[ag]at hi;omega));have cN:=aa (d.o.new cM.o);have c0:=cN.o.cell 0 _ rfl;have gd:=aa ga;clear ga ad)
   |(go_at_call 173;refine(jz _ _).mono ?_;rintro e _ ⟨rfl,rfl⟩)
   |(go_at_call 200;refine(tA k.F r.gF s.bF w4 cN.o.f).mono ?_;rintro e w8 ⟨Z,zv,rfl,hZ,hR,gg,hu⟩;have i5:=aa (cN.o.new hu);have fb:=aa (cM.o.then hu (by simp));have fc:=aa (hu.row gd.o (by simp));have gi:=aa hR;have cO:=aa hZ;have j0:=aa gg;have gk:=cM;clear hZ hR gg hu c0 bB i4 gd f9))
  have hbF:s.bF≠[]:=by rw[H0.o.F];simp[H0.o.bFl.1]
  obtain⟨g,Ic,hg,rfl,cP⟩:=gi.o.openG hbF;obtain⟨N,hN⟩:∃N,N=s.bF.length:=⟨_,rfl⟩;rw[←hN]at cP cO;have fk:Hid (Z≠w8.heap.size∧q≠w8.heap.size):=aa ⟨by have:=lt_of_block cO.o;omega,by have:=(fc.o.lt q rfl).2;omega⟩;have bM:Upd [] w8 (w8.alloc (.cells #[] 224 (0,0))):=(ae w8).alloc _;have bn:Hid (gR (w8.alloc (.cells #[] 224 (0,0))) (.slice (some ⟨w8.heap.size,0,none⟩) 0 0) w8.heap.size []):=aa (gR.made (an _) (by decide));have a1:=aa (bM.blk cO.o (by simp));have bO:=aa (cP.upd bM (by simp));have br:=aa (fb.o.then bM (by simp));have bR:=aa (bM.row fc.o (by simp));have bS:=aa (d.o.new br.o);have a0:=aa hN;have Hg:=aa hg;have gF:Hid (N≤Ic):=aa (by obtain⟨_,_,e,h1,_⟩:=cP;cases e;rw[hN];exact h1.1);have hN2:N<1000000:=by rw[hN];exact H0.o.bFl.2
  have a2:=aa (show w.heap.size≤w8.heap.size from fb.o.size);obtain⟨qo,hqo⟩:∃qo,qo=w8.heap.size:=⟨_,rfl⟩;rw[←hqo]at bn a2 fk⊢;revert bn a1 bO br bR bS;generalize (w8.alloc (.cells #[] 224 (0,0)))=w9;intro a1 bO br bR bS bn;clear gi cO fb fc i5 cM cN bM cP hN hg hbF hqo;have c6:w9.cell? ⟨k.W,6,none⟩=some (.int .u64 (N:Nat)):=by rw[bS.o.cell 6 _ rfl,H0.o.t2,a0.o]
  go_cut [9]from 89 to 98 (fun v wx=>∃p,v=ptr p 0∧cm wx p g s.bF∧w9.heap.size≤p∧Upd [] w9 wx)
  case first=>
   have k2:=fun w' (hu:Upd [] w9 w')=>hu.cell (a:=⟨k.W,6,none⟩) (by simp) c6;have HK:=aa k2;have j1:=aa bO.o.lt;have n2:w9.heap.size≠k.W:=by have:=bS.o.lt 0 _ rfl;omega
   have j2:IntKind.i64.wrap ((N:Nat):Int)=(N:Int):=by rw[bo];omega
   have dj:∀w' x u,x=.iface 139 (.slice (some ⟨g,0,none⟩) N Ic)→u=.int .i64 N→RdG w' (.slice (some ⟨g,0,none⟩) N Ic) g s.bF→Calls prog 202 #[x,u] w' fun e bW=>∃v',e=.returned (.agg #[v',.nilIface])∧RdG bW v' g s.bF∧Upd [] w' bW:=fun w' x u hx hu h=>by have e:=a0.o;subst hx hu e;exact jk g _ s.bF s.bF [] w' h (by simp) (by omega)
   have gL:=aa dj;clear dj k2
   go_region_held3 (fun w'=>w'.cell? ⟨k.W,6,none⟩=some (.int .u64 N)) (go_keep) (first
    |(go_at_call 201;refine(ma Z (.slice (some ⟨g,0,none⟩) N Ic) _ (by with_reducible first|exact bQ a1.o|exact bt _ (bQ a1.o)|exact bQ (bt _ a1.o))).mono ?_;rintro e _ ⟨rfl,rfl⟩)
    |(go_at_call 202;refine(gL.o _ _ _ (by with_reducible rfl) (by first|with_reducible rfl|(rw[j2])) (bO.o.upd (by with_reducible first|exact(ae _).drew|exact((ae _).drew).alloc _|exact((ae _).alloc _).drew) (by simp))).mono ?_;rintro e a9 ⟨v',rfl,gP,b5⟩;have D:Hid (Upd [] w9 a9):=aa (by with_reducible first|exact((ae _).drew).then b5 (fun _ h _=>h)|exact(((ae _).drew).alloc _).then b5 (fun _ h _=>h)|exact(((ae _).alloc _).drew).then b5 (fun _ h _=>h));have dk:=aa gP;obtain⟨o',c',rfl,kc,ke⟩:=gP;(try(have F:a9.heap[w9.heap.size]? =some (.cells #[.slice none 0 0,.nilIface] 159 (0,0)):=b5.blk (by with_reducible first|exact an _|exact bQ (an _)|exact bQ (w:=w9.alloc (.cells #[.slice none 0 0,.nilIface] 159 (0,0))) (an w9)) (by simp);have d0:a9.cell? ⟨w9.heap.size,0,none⟩=some (.slice none 0 0):=af F 0;have d1:a9.cell? ⟨w9.heap.size,1,none⟩=some .nilIface:=af F 1;have f0:=ao F 0;have f1:=ao F 1;have HD:=aa F;clear F));clear b5 kc ke;have c6:=HK.o _ D.o))
   all_goals
    go_wp2_with fail;go_meet
    have ub:=j1.o;have kq:=D.o.size
    first
     |exact⟨_,rfl,⟨⟨_,an _,dk.o.upd ((ae _).alloc _) (by simp)⟩,by omega⟩,kq,D.o.alloc _⟩
     |exact⟨_,rfl,⟨⟨_,au (au HD.o 0 _) 1 _,dk.o.upd ((((ae _).mono (M:=[w9.heap.size]) (by simp)).setCell (fun _=>by simp) _).setCell (fun _=>by simp) _) (by simp only[ag];omega)⟩,by omega⟩,aw _,(D.o.setCell (fun h=>absurd h (cR _)) _).setCell (fun h=>absurd h (cR _)) _⟩
  case rest=>
   obtain⟨p,rfl,F,ks,b6⟩:=hcut;have D:=aa (br.o.then b6 (by simp));have dp:=aa (d.o.new D.o);have ds:=aa F;have dF:=aa (b6.blk a1.o (by simp));have dP:=aa (b6.row bR.o (by simp));have dT:=aa (bn.o.upd b6 (by simp));have b7:=aa (And.intro (show w.heap.size≤p by have:=br.o.size;omega) (show qo≠p by have:=bn.o.lt;omega));have cX:Hid (Z≠p∧q≠p):=aa ⟨by have:=lt_of_block a1.o;omega,by have:=(bR.o.lt q rfl).2;omega⟩;clear F ks b6 a1 bO br bR bS bn c6;generalize wc=a9 at*;obtain⟨n0,hn0⟩:∃n0,n0=F0.length:=⟨_,rfl⟩;have bb:=aa hn0;have c5:a9.cell? ⟨k.W,5,none⟩=some (.int .u64 (n0:Nat)):=by rw[dp.o.cell 5 _ rfl,H0.o.t1,hn0]
   clear hn0;have ea:n0≤s.bF.length:=by rw[bb.o,H0.o.F,ab];omega
   have k7:n0<1000000:=by have:=H0.o.bFl.2;omega
   have b8:s.bF.drop n0=cU n0 G1:=by rw[H0.o.F,bb.o,eZ]
   have a3:=tF p g n0 s.bF a9 ds.o ea (by have:=H0.o.bFl.2;omega);rw[b8]at a3;have cY:=aa a3;clear a3 b8 ea;go_upto_block 2 with(with_reducible refine cY.o.mono ?_;rintro e cZ ⟨rfl,eb,a4⟩)
   have ef:=aa eb;have eg:=aa (dT.o.upd a4 (by simpa using b7.o.2));have ei:=aa (a4.blk dF.o (by simpa using cX.o.1));have ej:=aa (a4.row dP.o (by rintro _ ⟨⟩;simpa using cX.o.2));have a5:=aa (D.o.then a4 (by have:=b7.o.1;intro i hi hl;simp only[ag]at hi;omega));clear eb a4 ds dT dF dP D dp c5 cY;go_cut [8,10,11,12]from 106 to 134 (fun v _ _ _ wx=>Bu cZ p qo (cG n0 G1) v wx)
   case first=>
    go_wp2_with fail;go_loopw [8] (fun v wr=>∃j m T q',j≤G1.length∧kW n0 G1 j m T∧cm wr p g (cU m (G1.drop j))∧gR wr v q' ((cG n0 G1).take j)∧(q'=qo∨cZ.heap.size≤q')∧q'≠p∧Upd [p,qo] cZ wr) (fun _ wr=>sA wr p)
    case atStart=>exact⟨0,n0,[],qo,ay _,kW.zero _ _,ef.o,eg.o,.inl rfl,b7.o.2,(ae _).mono (by simp)⟩
    case round=>
     obtain⟨j,m,T,q',hj,hS,F,hV,c7,a6,hU⟩:=hrel;have U:=aa F;have A:=aa hV;have G:=aa hU;have bd:=aa (And.intro c7 a6);have HS:=aa hS;have fr:=F.declen;clear F hV hU c7 a6 hS;by_cases f2:j<G1.length
     ·have htot:n0+(cU n0 G1).length=N:=by rw[a0.o,H0.o.F,ab,bb.o]
      obtain⟨X,body,R,b,rr,kp,E,pl,Lt,be⟩:=HS.o.step f2 htot H0.o.syml.1 H0.o.ser.2;have a7:=aa be;obtain⟨el,ep,uc,u0,g0,k8⟩:=be.hLt;have fs:=aa (And.intro ep g0);have g8:=be.hN;have b9:=be.rest;have hE:=be.hE;have hpl:=be.hpl;have bv:=aa (And.intro el hE);rw[b9]at U fr;have kE:=aa fr;clear be el hE fr htot HS b9;have u1:Lt<1000000:=by omega
      have ca:Calls prog 126 #[ptr p 0] wr fun e w'=>e=.returned (.int .i64 (Lt:Nat))∧wr=w':=by rw[bv.o.1,a7.o.rest];exact kL p g _ _ U.o
      have cc:=aa ca;have la:0<Lt:=by omega
      clear ca ep g0;go_wp2_with (go_at_call 126;with_reducible refine cc.o.mono ?_;rintro e _ ⟨rfl,rfl⟩);refine(lj p g kp b (rr++R) _ U.o a7.o.b0 (by have h1:=bv.o.2;have h2:=fs.o;rw[aj]at h1;omega)).mono ?_;rintro e O ⟨rfl,F,hu⟩;have V:=aa F;have cg:=aa (G.o.then hu (by simp));have et:=aa (A.o.upd hu (by simpa using bd.o.2));have ha:Upd [] w O:=a5.o.then cg.o (by have h1:=b7.o.1;have h2:=a2.o;intro i hi hl;simp only[ah,ai,or_false]at hi;omega);have c6:O.cell? ⟨k.W,6,none⟩=some (.int .u64 (N:Nat)):=by rw[(d.o.new ha).cell 6 _ rfl,H0.o.t2,a0.o]
      have ck:∀w',Upd [] O w'→Calls prog 126 #[ptr p 0] w' fun e bW=>e=.returned (.int .i64 (E:Nat))∧w'=bW:=fun w' hu=>by rw[bv.o.2];exact kL p g _ _ (V.o.upd hu (by simp) (by simp))
      have ft:=aa ck;obtain⟨P,hP⟩:∃P,P=16*pl:=⟨_,rfl⟩;have kN:IntKind.u64.wrap ((N:Int)-(E:Int))=(P:Int):=by rw[cK];omega
      have kP:IntKind.u64.wrap (E:Int)=(E:Int):=by rw[cK];omega
      clear F hu ck U A G ha cc;go_wp2_with fail;go_region_held3 (fun w'=>w'.cell? ⟨k.W,6,none⟩=some (.int .u64 (N:Nat))) (go_keep) ((go_at_call 126;refine(ft.o _ (by with_reducible exact(ae _).drew)).mono ?_;rintro e _ ⟨rfl,rfl⟩))
      have lb:(P:Int) % 16=0:=by omega
      have u2:(P:Int)/16=(pl:Int):=by omega
      have lc:pl<1000000:=by omega
      have HP:=aa hP;have u4:=aa g8;clear kN kP c6 hP g8;have ev:Upd [] O (O.alloc (.cells #[.int .u32 (pl:Nat)] 224 (0,0))).drew:=((ae _).alloc _).drew;have htl:((cG n0 G1).take j).length<1000000:=by have h1:=cH j (cG n0 G1);have h2:=H0.o.ser.1;omega
      obtain⟨g',cap',kX,z,G3,ad,cE⟩:=ta et.o ev pl O.heap.size (an _) htl;have hc:((cG n0 G1).take j).length=j:=by rw[aZ,gz];omega
      rw[hc]at z G3;clear ev htl hc;go_wp2_with (at_builtin;refine bc rfl _ _ _ rfl _ _ _ _ rfl rfl z.o ?_);have a6:=bd.o.2;have cn:=V.o.upd ad.o (by simpa using aF a6) (by have h1:=V.o.ne;have h2:=et.o.lt;have h3:=Hg.o;simp only[ag];rcases bd.o.1 with h4|h4<;>(have h5:=d.o.lt 8 g (congrArg some h3);have h6:=a5.o.size;have h7:=a2.o;omega));rw[a7.o.enc]at cn;have he:=aa cn;have hh:=aa (cg.o.then ad.o (by have h1:=bd.o.1;intro i hi hl;simp only[ag]at hi;subst hi;rcases h1 with h1|h1;(rw[h1];simp);omega));have hk:g'≠p∧(g'=qo∨cZ.heap.size≤g'):=by
       have h1:=bd.o.1;have h2:=cg.o.size;have h3:p<O.heap.size:=by obtain⟨v,hb,_⟩:=V.o.blk;exact lt_of_block hb
       rcases cE.o with rfl|h4
       ·exact⟨a6,h1⟩
       ·exact⟨by omega,.inr (by omega)⟩
      have c8:=aa hk;have hn:=aa a7.o.hbody;clear cn a6 hk z ad cE;refine(fG p g body.length _ _ he.o (by have:=hn.o;omega) (by have h1:=congrArg List.length a7.o.enc;have h2:=bv.o.2;have h3:=fs.o;omega)).mono ?_;rintro e k0 ⟨rfl,F,hu⟩;have ll:=aa F;have ho:=aa (hh.o.then hu (by simp));have ht:=aa (G3.o.upd hu (by simpa using c8.o.1));have a3:=tF p g (body.length+4) _ k0 F (by simp only[ab,cd];omega) (by have h1:=congrArg List.length a7.o.enc;have h2:=bv.o.2;have h3:=fs.o;rw[ab]at h1;omega);have hw:(body++(Lib.beBytes 4 (crc body)++R)).drop (body.length+4)=R:=by
       rw[←al];have:(body++Lib.beBytes 4 (crc body)).length=body.length+4:=by rw[ab,cd]
       rw[←this,eZ]
      rw[hw]at a3;have G9:body.length<8000:=hn.o.2.2;have hy:(((body.length+4:Nat):Int))=(body.length:Int)+4:=by omega
      rw[hy]at a3;have cY:=aa a3;clear F hu a3 hw hy;go_wp2_with fail;with_reducible refine cY.o.mono ?_
      rintro e u6 ⟨rfl,F,hu⟩;have cp:=aa F;have hA:=aa (ho.o.then hu (by simp));have hC:=aa (ht.o.upd hu (by simpa using c8.o.1));clear F hu;go_wp2_with (go_at_call 118;refine(je p g _ _ cp.o).mono ?_;rintro e _ ⟨rfl,rfl⟩);refine⟨⟨j+1,_,_,g',by omega,a7.o.next,?_,?_,c8.o.2,c8.o.1,hA.o⟩,?_⟩
      ·rw[←a7.o.hR];exact cp.o
      ·rw[jQ,hpl];exact hC.o
      ·rw[cp.o.declen,kE.o];have h1:=bv.o.2;rw[ab,←h1];omega
     ·obtain rfl:j=G1.length:=by omega
      rw[eT]at U;rw[←gz G1 n0,aS]at A;have V:Hid (cm wr p g []):=U;go_wp2_with (go_at_call 126;refine(kL p g [] _ V.o).mono ?_;rintro e _ ⟨rfl,rfl⟩);go_meet
      exact⟨q',A.o,bd.o.1,bd.o.2,G.o⟩
   case rest=>
    obtain⟨q',hV,c7,a6,hu⟩:=hcut;have G:=aa (a5.o.then hu (by have h1:=b7.o.1;have h2:=a2.o;intro i hi hl;simp only[ah,ai,or_false]at hi;omega));have cs:=aa (d.o.new G.o);have A:=aa hV;have ct:=aa (hu.blk ei.o (by have h1:=cX.o;have h2:=fk.o;simp only[ah,ai,or_false];omega));have cA:=aa (hu.row ej.o (by have h1:=cX.o;have h2:=fk.o;rintro _ ⟨⟩;simp only[ah,ai,or_false];omega));have hF:=aa (show w.heap.size≤q' by have h1:=a5.o.size;have h2:=a2.o;omega);have fv:=aa (show w.heap.size≤Z by have h1:=j0.o;have h2:=gk.o.size;omega);clear hV c7 a6 hu ef eg ei ej a5;generalize wc=w12 at*;obtain⟨cv,rfl⟩:=A.o.shape;obtain⟨ML,Ii⟩:∃ML,ML=(cG n0 G1).length:=⟨_,rfl⟩;rw[←Ii]at A⊢;have lo:ML<1000:=by rw[Ii,gz];exact H0.o.ser.1
    have k1:=aa Ii;clear Ii;have bl:=HB.o.2.2.2 _ (by rw[HL.o];exact eo);rw[←bb.o]at bl;have hG:=nU (n:=N) q' _ (cG n0 G1) ⟨#[]⟩ ⟨#[]⟩ cs.o A.o.at_ (d.o.out_of hF.o) bl.2 bl.1 H0.o.pP H0.o.pPO (by decide) (by decide) (by have h1:=ot L s.bP;have h2:=HB.o.1;omega) (by have h2:=HB.o.2.1;rw[ab]at h2;omega) (by have h2:=HB.o.2.2.1;omega);have hH:=aa hG;clear hG bl;go_wp2_with fail;with_reducible refine hH.o.mono ?_
    rintro e O ⟨rfl,b1,b2,c,r13,hI,hT⟩;have hO:TpO w k r s N g Z Ic q (du ln) [([],[],cG n0 G1)] (.slice (some ⟨q,0,none⟩) M cap) O r13 b1 b2 c:=by
     have k3:fF w12 O (some g) N:=by have:=hT.kept;rw[Hg.o]at this;exact this
     have hQ:q<w12.heap.size:=(cA.o.lt q rfl).2
     refine⟨hI.cast (by simp[uD,ptS,ptF,ptP,poB,En]),ak d.o (dN d.o G.o) hT,hT.keep ct.o (d.o.out_of fv.o),hT.o (lt_of_block ct.o) (d.o.out_of fv.o),
      (cs.o.rdF Hg.o (by rw[H0.o.F];simp[H0.o.bFl.1]) a0.o gF.o).kept k3 (by rw[a0.o];exact aw _) hT.upd.size,SRd.row (hT.upd.row cA.o (by rintro _ ⟨⟩;exact fw (d.o.out_of cL.o))) HM.o,hT.o hQ (d.o.out_of cL.o),fv.o,cL.o⟩
    have hR0:RdG w (.slice (some ⟨g,0,none⟩) N Ic) g s.bF:=d.o.rdF Hg.o (by rw[H0.o.F];simp[H0.o.bFl.1]) a0.o gF.o;have eE:=aa hO;have hW:=aa hR0;clear hO hI hT hR0 hH cA ct A cs G;go_upto_block 4 with fail
    have hX:ML=G1.length:=by rw[k1.o,gz]
    try go_frame
    refine GS (w0:=w) (F0:=F0) (G1:=G1) (ln:=ln) (ids:=ids) (syms:=syms) (S:=S) (g2:=g2) (N2:=N2) (G6:=G6) (rr:=rr) (H0:=H0.o) (L0:=[([],[],cG n0 G1)]) (L:=L) (N:=N) (n0:=n0) (g:=g) (Z:=Z) (Ic:=Ic) (q:=q) (M:=M) (cap:=cap) (ML:=ML) (r13:=r13) (b1:=b1) (b2:=b2) (c:=c) (hO:=eE.o) (hR0:=hW.o) (hN:=a0.o) (hn0:=bb.o) (hg:=Hg.o) (hM:=HM.o) (Ii:=hX) (hL:=by rw[HL.o,bb.o];rfl) (htl:=by rw[bb.o];exact H0.o.tripl) (hb1:=HB.o.1) (hb2:=HB.o.2.1) (hb3:=HB.o.2.2.1) (hb4:=HB.o.2.2.2) (hJ:=?_);rintro y0 y1 y2 y3 y4 y5 y6 y7 y8 y9 u7 va vb vc vi vj vl vm vn vo vs vt vv vx vF vP v2 v3 v5 v9 wa wi wk wm wp wq wt wy w5 w6 w7 xT x0 x1 x2 x3 x4 x5 x6 x7 x8 x9 zl zo z0 z1 z2 z3 z4 z5 z6 z7 z8 z9 A1 Bf Bp Bt BX B0 B1 B2 B4 B9 Cc C1 C2 D0 D1 D2 EL E1 Fl FP F1 G2 Ha Hb Hc He Hi Hj Hk Hl Hm Hn Ho Hp Hs Ht lq lv l0 l1 l2 l3 l4 l5 l6 l7 l8 mc mn mv mA mE mF mG mI mL mN mP mS mT mY m1 m2 m3 m4 m5 m6 na nb nd nl nn np nq nt nB nI n1 n3 n4 n5 n6 n7 n8 n9 oa ob oc og om oo oq ov oR oS oX o0 o1 o2 o4 o5 o6 pc pg po pr ps pv pz pA pK pL pR pS pW p0 p1 p2 p3 p4 p5 p7 p9 qa qc qm qq qr qt qv qF qP q0 q1 q2 q3 q4 q5 q6 q7 q9 rc rk ru rv r0 r1 r2 r3 r4 r5 r6 r7 r8 r9 sa sc sd sh sk sl sn so sp sv sx sy sO sS sT s0 s1 s2 s3 s4 s5 s6 s7 s8 s9 tb tg ti tl tr ts tt tv kX ⟨k4,d1,d2,dc,eG,eN⟩;dsimp only;have hY:=aa eG;have h0:=aa eN;clear eG eN eE hW;go_wp2_with fail;refine leaves_cons (f:=112) (args:= #[ptr Z 0]) (by simp) (by simp[go_sem]) ?_;refine(qC Z _).mono ?_;rintro e u' bW ⟨rfl,rfl,rfl⟩;refine⟨_,results_tmp rfl _ _ _,rfl,d1,d2,dc,k4,hY.o,?_⟩;rw[←a0.o];exact h0.o
end
section
open Go Go.RowKit Xc Go.Proofs.Tryz
attribute [local go_sem ↓] Go.wp_at_zero Go.wp_at_succ
variable {w:World} {k:WK} {r:WR} {s:WS}
structure zh(k:WK)(s:WS)(F0:Bytes)(G1:fO)(ln ids:List (ByteArray×Nat))(syms:List Bytes)(S:Nat):Prop where
 F:s.bF=F0++cU F0.length G1
 t1:s.t1=F0.length
 names:s.names=eW .u64 ln
 cnt:∀x∈ln,1≤x.2∧x.2≤G1.length
 nodup:(ln.map (·.1)).Nodup
 cache:s.cache=eW .u32 ids
 id:∀x∈ln,∃a,aT x.1 ids=some a∧a<65536∧∃p b,(p,a,b)∈trip F0.length G1
 symv:s.symV=ptr S 0
 ser:G1.length<1000∧∀x∈G1,x.1.length<1000∧x.2.length<1000∧∀p∈x.1,p.1<65536∧p.2<syms.length
 syml:syms.length<65536∧∀x∈syms,x.length<1000
 pP:s.pP=ptr k.FP 0
 pPO:s.pPO=ptr k.FPO 0
 v12:∀a,(dK syms.length (trip F0.length G1) a).length≤12
 lnl:ln.length<1000∧∀x∈ln,x.1.size<1000
 bFl:F0≠[]∧s.bF.length<1000000
 symle:(ch syms).length≤s.bF.length
 tripl:(trip F0.length G1).length<100000
 stage:s.stage=2
 zero:s.bP=[]∧s.bPO=[]∧s.cnt=0∧s.li=[]
 t0:s.t0=5
theorem zh.tpH{F0:Bytes}{G1:fO}{ln ids:List (ByteArray×Nat)}{syms:List Bytes}{S g2 N2 G6:Nat}{rr:Option Nat}(H:zh k s F0 G1 ln ids syms S)(P:Nat)(hP:P=s.bF.length)
 (h:WI w k r {s with t2:=P})(hS:lw w k r S g2 N2 G6 rr (ch syms) 5 syms):TpH w k r {s with t2:=P} F0 G1 ln ids syms S g2 N2 G6 rr:=
 ⟨h,H.F,H.t1,hP,H.names,H.cnt,H.nodup,H.cache,H.id,hS,H.symv,H.ser,H.syml,H.pP,H.pPO,H.v12,H.lnl,H.bFl,H.symle,H.tripl⟩
def sL(l:List (ByteArray×Nat)):Bytes:=kO (l.map fun x=>(0,x))
theorem xa(l:List (Nat×ByteArray×Nat)):kO l=sL (l.map (·.2)):=by unfold sL kO;rw[bT,aB,List.flatMap_map];rfl
def ib(d:Bytes)(G:List (Bytes×List Nat)):Bytes:=liF d G
def jA(d:Bytes)(G:List (Bytes×List Nat)):Nat:=(ib d G++pad 4 (ib d G).length).length
def jf(d:Bytes)(G:List (Bytes×List Nat))(L:PtL):Bytes:=ib d G++pad 4 (ib d G).length++ptF [] L
def kt(d:Bytes)(G:List (Bytes×List Nat))(L:PtL):Bytes:=jf d G L++sec (sL (liP d G))
def mh(d:Bytes)(G:List (Bytes×List Nat))(L:PtL):Bytes:=kt d G L++sec (gf (fe (jA d G) (ptP [] L)))
def ixF(n0:Nat)(d:Bytes)(G:List (Bytes×List Nat))(L:PtL):Bytes:=mh d G L++kd (jJ 5 n0 d.length (jf d G L).length (ib d G).length (kt d G L).length)
theorem EF(F0:Bytes)(G1:fO)(ln ids:List (ByteArray×Nat))(syms:List Bytes)(S g2 N2 G6:Nat)(rr:Option Nat)(L:PtL)(G:List (Bytes×List Nat))(h:WI w k r s)(hS:lw w k r S g2 N2 G6 rr (ch syms) 5 syms)(H:zh k s F0 G1 ln ids syms S)
 (hL:L=([],[],cG F0.length G1)::dI syms.length (trip F0.length G1) syms (cj ids) (du ln))(hG:G=jZ (fC (cj ids) (ptP [] L)))
 (hb1:(ptF [] L).length<1000000)(hb2:(poB (ptP [] L)).length<1000000)(hb3:L.length<999)(hb4:∀x∈L,x.2.2.length<10000∧∀y∈x.2.2,y<4294967296)
 (hes:∀x∈ptP [] L,x.1.length<1000∧x.2.1.length<1000∧x.2.2<1000000)(hid:∀x∈ptP [] L,x.1≠[]→(aT (str x.2.1) ids).isSome=true∧cj ids x.2.1<4294967296)(hlp:∀x∈liP s.bF G,x.1.size<1000∧x.2<1000000000)(hbF:(ib s.bF G).length<2000000)(hbF5:(mh s.bF G L).length<9000000):
 Calls prog 91 #[ptr k.W 0,.int .u8 3] w fun e w'=>e=.returned .nilIface∧∃s',s'.bF=ixF F0.length s.bF G L∧s'.pP=.pointer none∧s'.pPO=.pointer none∧s'.sfV=s.sfV∧s'.stage=3∧WP w k r 0 s' w':=by
 have HH:=aa H;have bv:w.cell? ⟨k.W,10,none⟩=some (.int .u8 2):=by rw[h.cell 10 _ rfl,H.stage];rfl
 have H0:=aa h;have bO:=aa hS;have HB:=aa (And.intro hb1 (And.intro hb2 (And.intro hb3 (And.intro hb4 (And.intro hes (And.intro hid (And.intro hlp (And.intro hbF hbF5))))))));have HL:=aa hL;have HG:=aa hG;clear h hS H hL hG hb1 hb2 hb3 hb4 hes hid hlp hbF hbF5;have c0:=H0.o.cell 0 _ rfl;obtain⟨P,HP,cP⟩:=H0.o.fpos;have c6:=H0.o.cell 6 _ rfl;have f6:=H0.o.free 6;obtain⟨bR,bS⟩:=H0.o.set_t2 0 P;have bW:=bO.o.setf H0.o 6 (.int .u64 P);have hZ:=HH.o.zero;have b5:=uX F0 G1 ln ids syms S g2 N2 G6 rr L (HH.o.tpH P HP.o bR bW) HL.o (by show(ptF s.bP L).length<_;rw[hZ.1];exact HB.o.1) (by show(s.bPO++poB (ptP s.bP L)).length<_;rw[hZ.1,hZ.2.1];exact HB.o.2.1) (by show s.cnt+L.length<_;have:=HB.o.2.2.1;rw[hZ.2.2.1];omega) HB.o.2.2.2.1;have b6:=aa bS;have b8:=aa b5;clear bR bS bW hZ b5;go_enter func91,ntmps91
 go_wp2_with fail;refine b8.o.mono ?_;rintro e w2 ⟨rfl,b1,b2,c,r2,hI,hT⟩;obtain⟨s2,bw⟩:∃s2,s2=ptS {s with t2:=P} L b1 b2 c:=⟨_,rfl⟩;rw[←bw]at hI;have ca:=aa (ak H0.o b6.o (hT.mono (ay _)));have cc:=aa hI;have hz:=HH.o.zero;have F:Hid (s2.bF=s.bF∧s2.bP=ptF [] L∧s2.bPO=poB (ptP [] L)∧s2.cnt=(ptP [] L).length∧s2.pP=ptr k.FP 0∧s2.pPO=ptr k.FPO 0∧s2.cache=eW .u32 ids∧s2.li=[]∧s2.t0=5∧s2.t1=F0.length∧s2.t2=s.bF.length∧s2.sfV=s.sfV):=aa (by
  rw[bw];refine⟨rfl,?_,?_,?_,HH.o.pP,HH.o.pPO,HH.o.cache,hz.2.2.2,HH.o.t0,HH.o.t1,HP.o,rfl⟩
  ·show ptF s.bP L=_;rw[hz.1]
  ·show s.bPO++poB (ptP s.bP L)=_;rw[hz.1,hz.2.1];rfl
  ·show s.cnt+L.length=_;rw[hz.2.2.1,kT];omega)
 clear hI hT bw hz bv c0 c6 f6 cP b8 b6 bO;have be:(ptP [] L).length=L.length:=kT _ _;have G5:ptP [] L≠[]:=fun e=>by rw[e,HL.o]at be;simp at be
 have bA:=aa (And.intro G5 be);have bB:=xx 0 (ptP [] L) ids cc.o F.o.2.2.2.2.2.1 F.o.2.2.1 F.o.2.2.2.1 G5 (by have:=HB.o.2.2.1;omega) HB.o.2.2.2.2.1 F.o.2.2.2.2.2.2.1 HB.o.2.2.2.2.2.1 (ay _) (by rw[F.o.1];exact HH.o.bFl.2) (by rw[F.o.2.2.2.2.2.2.2.1];decide);rw[←HG.o,F.o.1,F.o.2.2.2.2.2.2.2.1]at bB;have cg:=aa bB;clear bB G5 be;go_wp2_with fail;refine cg.o.mono ?_;rintro e w3 ⟨rfl,li,el,c1,ck,r3,hI,hT⟩;obtain⟨d,bE⟩:∃d,d={s2 with bF:=liF s.bF G,li:=li,b1:=el,crc:=c1}:=⟨_,rfl⟩;rw[←bE]at hI;have a7:li.map (·.2)=liP s.bF G:=by simpa using ck
 have a4:=aa hI;have cn:=aa (ak H0.o ca.o hT);have ad:Hid (d.bF=ib s.bF G∧d.bP=ptF [] L∧d.bPO=poB (ptP [] L)∧d.cnt=(ptP [] L).length∧d.pP=ptr k.FP 0∧d.pPO=ptr k.FPO 0∧kO d.li=sL (liP s.bF G)∧d.li=li∧d.t0=5∧d.t1=F0.length∧d.t2=s.bF.length∧d.sfV=s.sfV):=aa (by rw[bE];obtain⟨e1,e2,e3,e4,e5,e6,e7,e8,e9,U,a0,a1⟩:=F.o;exact⟨rfl,e2,e3,e4,e5,e6,by rw[xa];simp only[a7],rfl,e9,U,a0,a1⟩)
 have cp:=aa a7;clear hI hT bE ck a7 cc ca F cg;have c0:=a4.o.cell 0 _ rfl;obtain⟨P4,ct,cP⟩:=a4.o.fpos;have c8:=a4.o.cell 8 _ rfl;have f8:=a4.o.free 8;obtain⟨cA,cB⟩:=a4.o.set_t4 0 P4;have cD:=aa (ak H0.o cn.o cB);have cE:=aa cA;have hbF:=HB.o.2.2.2.2.2.2.2.1;have hbF5:=HB.o.2.2.2.2.2.2.2.2;have cF:(jf s.bF G L).length≤(kt s.bF G L).length∧(kt s.bF G L).length≤(mh s.bF G L).length∧(ib s.bF G).length≤(jf s.bF G L).length∧jA s.bF G≤(jf s.bF G L).length∧s.bF.length≤(ib s.bF G).length:=by
  refine⟨?_,?_,?_,?_,pZ _ _⟩
  ·simp only[kt,ab];omega
  ·simp only[mh,ab];omega
  ·simp only[jf,ab];omega
  ·simp only[jf,jA,ab];omega
 have O:=aa (And.intro cF (And.intro hbF hbF5));have hp:ptF [] L≠[]:=by rw[HL.o];intro e;have h1:=ot (dI syms.length (trip F0.length G1) syms (cj ids) (du ln)) ([]++pad 4 ([]:Bytes).length++sec (ey (cG F0.length G1)));rw[ptF,]at e;rw[e,ab,dx]at h1;simp at h1
 have cL:d.bF≠[]:=by intro e;have h1:=O.o.1.2.2.2.2;rw[←ad.o.1,e]at h1;have h2:=HH.o.bFl.1;rw[HH.o.F,ab]at h1;have h3:=List.length_pos_iff.2 h2;simp only[ar]at h1;omega
 have cM:=mw 0 cE.o (ay _) cL (show d.bP≠[] by rw[ad.o.2.1];exact hp) (show d.bF.length+d.bP.length<10000000 by rw[ad.o.1,ad.o.2.1];have:=HB.o.1;omega) ad.o.2.2.2.2.1;have cN:=aa cM;clear cA cB hbF hbF5 cF hp cL cM cn;go_wp2_with fail;refine cN.o.mono ?_;rintro e w5 ⟨rfl,r5,hI,hT⟩;obtain⟨A,bK⟩:∃A,A={d with t4:=P4,bF:=d.bF++pad 4 d.bF.length++d.bP,pst:=(d.bF++pad 4 d.bF.length).length,pP:=.pointer none}:=⟨_,rfl⟩;replace hI:WI w5 k r5 A:=hI.cast (by rw[bK]);have a5:=aa hI;have cO:=aa (ak H0.o cD.o hT);have a9:Hid (A.bF=jf s.bF G L∧A.bPO=poB (ptP [] L)∧A.cnt=(ptP [] L).length∧A.pP=.pointer none∧A.pPO=ptr k.FPO 0∧kO A.li=sL (liP s.bF G)∧A.li=li∧A.t0=5∧A.t1=F0.length∧A.t2=s.bF.length∧A.sfV=s.sfV∧A.t4=(ib s.bF G).length∧A.pst=jA s.bF G):=aa (by
  rw[bK];obtain⟨e1,e2,e3,e4,e5,e6,e7,e8,e9,U,a0,a1⟩:=ad.o;refine⟨?_,e3,e4,rfl,e6,e7,e8,e9,U,a0,a1,by rw[←e1];exact ct.o,?_⟩
  ·show d.bF++pad 4 d.bF.length++d.bP=_;rw[e1,e2];rfl
  ·show(d.bF++pad 4 d.bF.length).length=_;rw[e1];rfl)
 clear hI hT bK a4 cE cD ad cN c0 cP c8 f8 ct;have c0:=a5.o.cell 0 _ rfl;obtain⟨P3,cX,cP⟩:=a5.o.fpos;have c7:=a5.o.cell 7 _ rfl;have f7:=a5.o.free 7;obtain⟨cY,cZ⟩:=a5.o.set_t3 0 P3;have dc:=aa (ak H0.o cO.o cZ);have dd:=aa cY;have dj:li.length=G.length:=by have:=congrArg List.length cp.o;rw[aB,nG]at this;exact this
 have ep:G.length≤L.length+1:=by
  have h2:=kA (cj ids) (ptP [] L);have h3:=bA.o.2;rw[HG.o,jZ];split
  ·omega
  ·simp only[ab,aj,ar];omega
 have dk:=uU 0 dd.o (ay _) (show A.bF.length<10000000 by rw[a9.o.1];have:=O.o;omega) (show A.li.length<1000 by rw[a9.o.2.2.2.2.2.2.1,dj];have:=HB.o.2.2.1;omega) (fun x hx=>by
  have hx:x∈li:=by rw[←a9.o.2.2.2.2.2.2.1];exact hx
  exact HB.o.2.2.2.2.2.2.1 x.2 (by rw[←cp.o];exact List.mem_map_of_mem hx))
 have dp:=aa dk;clear cY cZ dj ep dk cO;go_wp2_with fail;refine dp.o.mono ?_;rintro e w7 ⟨rfl,b7,c7,r7,hI,hT⟩;obtain⟨D,bL⟩:∃D,D={A with t3:=P3,bF:=A.bF++sec (kO A.li),b1:=b7,crc:=c7}:=⟨_,rfl⟩;replace hI:WI w7 k r7 D:=hI.cast (by rw[bL]);have a6:=aa hI;have ds:=aa (ak H0.o dc.o hT);have a2:Hid (D.bF=kt s.bF G L∧D.bPO=poB (ptP [] L)∧D.cnt=(ptP [] L).length∧D.pP=.pointer none∧D.pPO=ptr k.FPO 0∧D.t0=5∧D.t1=F0.length∧D.t2=s.bF.length∧D.sfV=s.sfV∧D.t4=(ib s.bF G).length∧D.pst=jA s.bF G∧D.t3=(jf s.bF G L).length):=aa (by rw[bL];obtain⟨e1,e2,e3,e4,e5,e6,e7,e8,e9,U,a0,a1,et⟩:=a9.o;refine⟨?_,e2,e3,e4,e5,e8,e9,U,a0,a1,et,by rw[←e1];exact cX.o⟩;show A.bF++sec (kO A.li)=_;rw[e1,e6];rfl)
 clear hI hT bL a5 dd dc a9 dp c0 cP c7 f7 cX;have c0:=a6.o.cell 0 _ rfl;obtain⟨P5,dF,cP⟩:=a6.o.fpos;have c9:=a6.o.cell 9 _ rfl;have f9:=a6.o.free 9;obtain⟨dP,dT⟩:=a6.o.set_t5 0 P5;have d0:=aa (ak H0.o ds.o dT);have ea:=aa dP;have Ib:=uV 0 (ptP [] L) ea.o a2.o.2.2.2.2.1 a2.o.2.1 a2.o.2.2.1 bA.o.1 (by have:=bA.o.2;have:=HB.o.2.2.1;omega) HB.o.2.2.2.2.1 (show D.pst<100000000 by rw[a2.o.2.2.2.2.2.2.2.2.2.2.1];have:=O.o;omega) (ay _) (show D.bF.length<10000000 by rw[a2.o.1];have:=O.o;omega);have eb:=aa Ib;clear dP dT Ib ds;go_wp2_with fail;refine eb.o.mono ?_;rintro e w9 ⟨rfl,b9,c9,r9,hI,hT⟩;obtain⟨z,bM⟩:∃z,z={D with t5:=P5,bF:=D.bF++sec (gf (fe D.pst (ptP [] L))),b1:=b9,crc:=c9,pPO:=.pointer none}:=⟨_,rfl⟩;replace hI:WI w9 k r9 z:=hI.cast (by rw[bM]);have ef:=aa hI;have eg:=aa (ak H0.o d0.o hT);have V:Hid (z.bF=mh s.bF G L∧z.pP=.pointer none∧z.pPO=.pointer none∧z.t0=5∧z.t1=F0.length∧z.t2=s.bF.length∧z.sfV=s.sfV∧z.t4=(ib s.bF G).length∧z.t3=(jf s.bF G L).length∧z.t5=(kt s.bF G L).length):=aa (by rw[bM];obtain⟨e1,e2,e3,e4,e5,e6,e7,e8,e9,U,a0,a1⟩:=a2.o;refine⟨?_,e4,rfl,e6,e7,e8,e9,U,a1,by rw[←e1];exact dF.o⟩;show D.bF++sec (gf (fe D.pst (ptP [] L)))=_;rw[e1,a0];rfl)
 have hn0:F0.length≤s.bF.length:=by rw[HH.o.F,ab];omega
 clear hI hT bM a6 ea d0 a2 eb c0 cP c9 f9 dF;have bg:=uW 0 ef.o (ay _) (by rw[V.o.1];have:=O.o;omega) (by rw[V.o.2.2.2.1];decide) (by rw[V.o.2.2.2.2.1];have:=O.o;omega) (by rw[V.o.2.2.2.2.2.1];have:=O.o;omega) (by rw[V.o.2.2.2.2.2.2.2.2.1];have:=O.o;omega) (by rw[V.o.2.2.2.2.2.2.2.1];have:=O.o;omega) (by rw[V.o.2.2.2.2.2.2.2.2.2];have:=O.o;omega);have bl:=aa bg;clear bg hn0;go_wp2_with fail;refine bl.o.mono ?_;rintro e ev ⟨rfl,eE,bv,ei,hI,hT⟩;obtain⟨W,bb⟩:∃W,W={z with bF:=z.bF++kd (jJ z.t0 z.t1 z.t2 z.t3 z.t4 z.t5),b1:=eE,crc:=bv}:=⟨_,rfl⟩;replace hI:WI ev k ei W:=hI.cast (by rw[bb]);have bd:=aa hI;have ej:=aa (ak H0.o eg.o hT);have a3:Hid (W.bF=ixF F0.length s.bF G L∧W.pP=.pointer none∧W.pPO=.pointer none∧W.sfV=s.sfV):=aa (by rw[bb];obtain⟨e1,e2,e3,e4,e5,e6,e7,e8,e9,U⟩:=V.o;refine⟨?_,e2,e3,e7⟩;show z.bF++kd (jJ z.t0 z.t1 z.t2 z.t3 z.t4 z.t5)=_;rw[e1,e4,e5,e6,e9,e8,U];rfl)
 clear hI hT bb ef eg V bl;have cs:=bd.o.cell 10 _ rfl;have fs:=bd.o.free 10;obtain⟨bn,br⟩:=bd.o.set_stage 0 3;have HF:=aa (And.intro bn (ak H0.o ej.o br));clear bn br;go_wp2_with fail;go_ret;exact⟨rfl,{W with stage:=3},a3.o.1,a3.o.2.1,a3.o.2.2.1,a3.o.2.2.2,rfl,ei,HF.o.1,HF.o.2⟩
end
end Go.Proofs.YtlgefdfflmgocaaGreatDoor
