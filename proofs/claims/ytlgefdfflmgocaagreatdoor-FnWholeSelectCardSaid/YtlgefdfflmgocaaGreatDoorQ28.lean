import Derived.Test.YtlgefdfflmgocaaGreatDoorQ27
set_option linter.all false
set_option maxRecDepth 100000
set_option maxHeartbeats 4000000
namespace Go.Proofs.YtlgefdfflmgocaaGreatDoor
open Go Go.RowKit Xc Go.Proofs.Tryz
attribute [local go_sem ↓] Go.wp_at_zero Go.wp_at_succ
def nj(w:World)(g q:Nat)(xs:List Nat)(e:Ending)(w':World):Prop:=∃p B,e=.returned (.tuple #[p,.nilIface])∧PIt g w' p B xs∧(∀b∈B,w.heap.size≤b∧b<w'.heap.size)∧Upd [q] w w'
theorem nj.empty{w w':World}{g q:Nat}(hu:Upd [q] w w'):nj w g q [] (.returned (.tuple #[da,.nilIface])) w':=⟨da,[],rfl,.inl ⟨rfl,rfl,rfl⟩,by simp,hu⟩
theorem C9(w:World)(bm:Nat)(M:RM)(nm:ByteArray)(h:w.heap[bm]? =some (bI Value.string (M.map fun x=>(x.1,x.2.1)))):
 (Instr.lookup 146 (.map (some bm)) (.string nm) true).run prog w=.ok (.tuple #[(aT nm (M.map fun x=>(x.1,x.2.1))).getD (.slice none 0 0),.bool (aT nm (M.map fun x=>(x.1,x.2.1))).isSome]) w:=by
 have:=cw (P:=prog) (T:=146) Value.string iT underlying146 h tx nm true;simpa using this
theorem xJ(w:World)(R g q bm:Nat)(nm:ByteArray)(M:RM)(F:w.cell? ⟨R,3,none⟩=some (.map (some bm)))(h9:w.cell? ⟨R,9,none⟩=some (.int .i64 2))(hm:w.heap[bm]? =some (bI Value.string (M.map fun x=>(x.1,x.2.1))))(hn:aT nm (M.map fun x=>(x.1,x.2.1))=none):
 Calls prog 25 #[ptr R 0,.agg #[],.string nm,.slice (some ⟨q,0,none⟩) 1 1] w (nj w g q []):=by
 obtain⟨w1,A,d,G,hb,O,hs⟩:=kK w (.cells #[ptr R 0] 69 (0,0)) (.cells #[] 80 (0,0)) (.cells #[.slice (some ⟨q,0,none⟩) 1 1] 59 (0,0));have b4:w1.cell? ⟨w.heap.size,0,none⟩=some (ptr R 0):=af G 0;have r3:=d.cell (by simp) F;have r9:=d.cell (by simp) h9;have z:=C9 w1 bm M nm (d.blk hm (by simp));rw[hn]at z;have z:(Instr.lookup 146 (.map (some bm)) (.string nm) true).run prog w1=.ok (.tuple #[.slice none 0 0,.bool false]) w1:=z;have D:=aa d;clear F h9 hm hn d G hb O hs;go_enter func25,ntmps25
 go_upto_region 1 with fail
 rw[←A];clear A;go_wp2_with (go_at_call 56;refine(mM _).mono ?_;rintro e w' ⟨rfl,rfl⟩);go_ret2
 exact nj.empty ((D.o.alloc _).mono (by simp))
structure PsY(w:World)(R g bm X D q qe ce n k:Nat)(v:Value)(bs a c:Bytes)(nm d:ByteArray)(M:RM)(gs:List (Bytes×List (Bytes×Nat)))(gr:Bytes×List (Bytes×Nat))(E:List (ByteArray×Nat))(xs:List Nat):Prop where
 r:PsR w R D g v bs
 r1:w.cell? ⟨R,1,none⟩=some (ptr X 0)
 r3:w.cell? ⟨R,3,none⟩=some (.map (some bm))
 r9:w.cell? ⟨R,9,none⟩=some (.int .i64 2)
 x5:w.cell? ⟨X,5,none⟩=some (.int .u64 (a.length:Nat))
 hmap:w.heap[bm]? =some (bI Value.string (M.map fun x=>(x.1,x.2.1)))
 get:aT nm (M.map fun x=>(x.1,x.2.1))=some (.slice (some ⟨qe,0,none⟩) n ce)
 hn:n=E.length
 n12:n=1∨n=2
 cell:∀t (h:t<E.length),w.cell? ⟨qe,t*2,none⟩=some (.string E[t].1)∧w.cell? ⟨qe,t*2+1,none⟩=some (.int .i64 (E[t].2:Nat))
 hq:w.heap[q]? =some (.cells #[.string d] 9 (0,0))
 ne:∀b∈[R,g,bm,X,D,qe],b<w.heap.size∧b≠q
 tr:∀i t0 m,PsC gs (sb d) k gr E i t0 m→TrH bs a c (gs.flatMap ent) (k+t0) m (sb nm)
 ev:∀j (h:j<gr.2.length),∃z:k+j<(gs.flatMap ent).length,(gs.flatMap ent)[k+j]=(sb nm,gr.2[j].1,gr.2[j].2)
 few:gr.2.length<1000
 case0:(∃h:0<E.length,sb d<sb E[0].1)→xs=[]
 case9:(∃h:E.length-1<E.length,sb E[E.length-1].1<sb d)→xs=[]
 case1:(∃h:0<E.length,E[0].1=d)→∃t0 m,PsC gs (sb d) k gr E 0 t0 m
 case2:(∃h:1<E.length,E[1].1=d)→∃t0 m,PsC gs (sb d) k gr E 1 t0 m
 case3:(∃h:1<E.length,sb d<sb E[1].1)→∃t0 m,PsC gs (sb d) k gr E 0 t0 m
 found:∀y∈gr.2,y.1=sb d→∃a c,bs=a++(sec (ey xs)++c)∧a.length=y.2
 no:(∀y∈gr.2,y.1≠sb d)→xs=[]
 asc:Asc 0 xs
 len:bs.length<1000000
structure PsW(w d:World)(R G O U z A D q qe n ce F:Nat)(V:ByteArray):Prop where
 h4:d.heap[G]? =some (.cells #[ptr R 0] 69 (0,0))
 h5:d.heap[O]? =some (.cells #[] 80 (0,0))
 h7:d.heap[U]? =some (.cells #[.slice (some ⟨q,0,none⟩) 1 1] 59 (0,0))
 h21:d.heap[z]? =some (.cells #[.slice (some ⟨qe,0,none⟩) n ce] 169 (0,0))
 h23:d.heap[A]? =some (.cells #[.slice (some ⟨F,0,none⟩) 0 1] 74 (0,0))
 h24:d.heap[D]? =some (.cells #[.int .i64 0] 3 (0,0))
 qc:d.cell? ⟨q,0,none⟩=some (.string V)
 row:d.ownsRow 0 76 1 (.slice (some ⟨F,0,none⟩) 0 1) 0 []
 ord:w.heap.size=G∧G<O∧O<U∧U<z∧z<F∧F<A∧A<D∧q<w.heap.size
 upd:Upd [q] w d
theorem PsW.new{w D F:World}{R G O U d z A q qe n ce V:Nat}{W:ByteArray}(h:PsW w D R G O U d z A q qe n ce V W)(hu:Upd [] D F):PsW w F R G O U d z A q qe n ce V W:=
 ⟨hu.blk h.h4 (by simp),hu.blk h.h5 (by simp),hu.blk h.h7 (by simp),hu.blk h.h21 (by simp),hu.blk h.h23 (by simp),hu.blk h.h24 (by simp),hu.cell (by simp) h.qc,hu.row h.row (by simp),h.ord,h.upd.then hu (by simp)⟩
structure wM(w d:World)(g q D z A F:Nat)(xs:List Nat):Prop where
 upd:Upd [q] w d
 h24:d.heap[A]? =some (.cells #[.int .i64 1] 3 (0,0))
 k7:d.cell? ⟨D,0,none⟩=some (.slice (some ⟨q,0,none⟩) 1 1)
 res:(xs=[]∧d.heap[z]? =some (.cells #[.slice (some ⟨F,0,none⟩) 0 1] 74 (0,0)))∨∃X q' G,d.heap[z]? =some (.cells #[.slice (some ⟨q',0,none⟩) 1 G] 74 (0,0))∧d.cell? ⟨q',0,none⟩=some (gK X)∧BEP d X g 0 xs∧w.heap.size≤X
theorem PsW.mv{L:List Nat}{w D F:World}{R G O U z A d q qe n ce V:Nat}{W:ByteArray}(h:PsW w D R G O U z A d q qe n ce V W)(hu:Upd L D F)(hL:∀b∈L,d<b):PsW w F R G O U z A d q qe n ce V W:=by
 have ho:=h.ord;have hn:∀b,b≤d→b∉L:=fun b h1 h2=>by have:=hL b h2;omega
 exact⟨hu.blk h.h4 (hn _ (by omega)),hu.blk h.h5 (hn _ (by omega)),hu.blk h.h7 (hn _ (by omega)),hu.blk h.h21 (hn _ (by omega)),hu.blk h.h23 (hn _ (by omega)),hu.blk h.h24 (hn _ (by omega)),hu.cell (hn _ (by simp only;omega)) h.qc,hu.row h.row (fun b hb=>by simp only[Value.ownBlock,aM]at hb;exact hn b (by omega)),h.ord,h.upd.then hu (fun b hb hl=>by have:=hL b hb;omega)⟩
theorem Ev(w w':World)(R g bm X D q qe ce n k:Nat)(v:Value)(bs a c:Bytes)(nm sv:ByteArray)(M:RM)(gs:List (Bytes×List (Bytes×Nat)))(gr:Bytes×List (Bytes×Nat))(E:List (ByteArray×Nat))(xs:List Nat)(H:PsY w R g bm X D q qe ce n k v bs a c nm sv M gs gr E xs)
 {p4 p5 p7 a0 A z G W qr i t0 m:Nat}(O:PsW w w' R p4 p5 p7 a0 A z q qe n ce qr sv)(h25:w'.heap[G]? =some (.cells #[.string sv] 9 (0,0)))(h26:w'.heap[W]? =some (.cells #[.int .i64 (i:Nat)] 3 (0,0)))(bn:z<G∧G<W)(F:PsC gs (sb sv) k gr E i t0 m)(hi:i<E.length):
 Calls prog 62 #[ptr R 0,.agg #[],.int .i64 (E[i].2:Nat),.func (.func 63) #[] #[ptr G 0,ptr p4 0,ptr A 0,ptr z 0,ptr p7 0,ptr W 0,ptr a0 0]] w' fun e d=>e=.returned .nilIface∧wM w d g q p7 A z qr xs∧Upd [A,z,qr] w' d:=by
 obtain⟨_,a5⟩:=F.off;have ho:=O.ord;have G5:=H.ne;have ad:∀{b:Nat},b∈[R,g,bm,X,D,qe]→b∉[q]:=fun{b} hb=>by simpa using(G5 b hb).2
 have hT:=H.tr i t0 m F;have hs:=O.upd.size;have bl:=lt_of_block O.h24;have hM:∀d,Upd [] w' d→PsM d R G p4 A z p7 W a0 q qe 1 ce 0 i sv E (.slice (some ⟨qr,0,none⟩) 0 1):=fun d hu=>
  ⟨hu.blk h25 (by simp),hu.blk O.h4 (by simp),hu.blk O.h23 (by simp),hu.blk O.h24 (by simp),hu.blk O.h7 (by simp),hu.blk h26 (by simp),by rw[←H.hn];exact hu.blk O.h21 (by simp),fun t ht=>(O.upd.then hu (by simp)).cell (ad (by simp)) (H.cell t ht).1,by have:=H.hn;have:=H.n12;omega⟩
 have hR:∀d,Upd [] w' d→PsR d R D g v bs:=fun d hu=>H.r.upd (O.upd.then hu (by simp)) (ad (by simp)) (ad (by simp)) (ad (by simp));have a6:=fun j (h:t0+j<gr.2.length)=>H.ev (t0+j) h;obtain⟨val,U⟩:∃val,val=str (gr.2[t0+m]'F.lt).1:=⟨_,rfl⟩;have a9:∀j (h:j<gr.2.length),gr.2[j].2<1000000:=fun j h=>by obtain⟨h',e⟩:=H.ev j h;have:=(hT.small _ (aq h')).2.2;rw[e]at this;exact this
 have a1:∀b∈[A,z,qr],b<w'.heap.size∧w.heap.size≤b∧b≠q:=fun b hb=>by simp only[ah,ai,or_false]at hb;rcases hb with rfl|rfl|rfl<;>omega
 have G3:=O.row;refine(zj g R X (k+t0) m E[i].2 v bs a c (gs.flatMap ent) (sb nm) _ _ _ _ _ _ _ w' [A,z,qr] (fun w1 w2=>rn w1 A z qr g xs val sv (.slice (some ⟨qr,0,none⟩) 0 1) w2) (hR w' (ae _)).b hT a5 (hR w' (ae _)).r0 (O.upd.cell (ad (by simp)) H.r1) (O.upd.cell (ad (by simp)) H.x5) (fun b hb=>⟨(a1 b hb).1,fun e=>by have:=(a1 b hb).2.1;have:=(G5 g (by simp)).1;omega⟩) ?_ ?_).mono ?_
 ·intro j h hj d hu;have a7:t0+j<gr.2.length:=by have:=F.lt;omega
  obtain⟨h',e⟩:=a6 j a7;have e2:(gs.flatMap ent)[k+t0+j]=(sb nm,gr.2[t0+j].1,gr.2[t0+j].2):=by
   have:k+t0+j=k+(t0+j):=by omega
   simp only[this];exact e
  rw[e2];obtain⟨rfl,bb,bd⟩:=F.cont (by omega);exact GP d R G p4 A z p7 W a0 q qe 1 ce _ _ sv E _ (hM d hu) ⟨bb,bd⟩ (by rw[dG];exact F.less j a7 hj)
 ·intro h d hu;obtain⟨h',e⟩:=a6 m F.lt;have e2:(gs.flatMap ent)[k+t0+m]=(sb nm,(gr.2[t0+m]'F.lt).1,(gr.2[t0+m]'F.lt).2):=by
   have:k+t0+m=k+(t0+m):=by omega
   simp only[this];exact e
  rw[e2];obtain⟨a2,c2,hb2,be⟩:∃a2 c2:Bytes,(val=sv→bs=a2++(sec (ey xs)++c2))∧a2.length=(gr.2[t0+m]'F.lt).2:=by
   by_cases hvs:val=sv
   ·obtain⟨a2,c2,h1,h2⟩:=H.found _ (aq F.lt) (by have:=congrArg sb hvs;rw[U,dG]at this;exact this);exact⟨a2,c2,fun _=>h1,h2⟩
   ·exact⟨List.replicate (gr.2[t0+m]'F.lt).2 0,[],fun h=>absurd h hvs,by simp⟩
  rw[←be];have bg:¬sb val<sb sv:=by rw[U,dG];exact F.ge
  show Calls _ _ #[.string (str (gr.2[t0+m]'F.lt).1),_,_,_,_,_,_,_,_] _ _;rw[←U];refine(GO d R D g G p4 A z p7 W a0 q qe 1 ce i qr 1 v bs a2 c2 xs val sv E (hM d hu) (hR d hu) H.len bg hb2 (by have:=H.asc.len;omega) (hu.row G3 (by simp)) (by have:=a9 (t0+m) F.lt;omega) ?_ ⟨by omega,by omega,by omega⟩).mono ?_
  ·intro b hb hm;have h1:=a1 b hm;simp only[ah,ai,or_false]at hb hm;have V:∀b∈[R,g,bm,X,D,qe],b<p4:=fun b hb=>by have:=(G5 b hb).1;omega
   have o1:=V R (by simp);have o2:=V g (by simp);have o3:=V D (by simp);have o4:=V qe (by simp);omega
  ·rintro e w3 ⟨rfl,hq⟩;exact⟨rfl,hq,hq.2.1⟩
 ·rintro e w2 ⟨rfl,w1,a3,hq,a4⟩;have hu:Upd [q] w w2:=(O.upd.then a3 (by simp)).then a4 (fun b hb hl=>by have:=(a1 b hb).2.1;omega);refine⟨rfl,⟨hu,hq.1,a4.cell (by simp only[ah,ai,or_false];omega) (a3.cell (by simp) (af O.h7 0)),?_⟩,(a3.mono (by simp)).then a4 (fun b hb _=>hb)⟩;by_cases hvs:val=sv
  ·obtain⟨X',r',q',c',h1,rfl,h3,h4,h5⟩:=hq.2.2.2 hvs;exact .inr ⟨X',q',c',h1,h3,h4,by have:=a3.size;omega⟩
  ·exact .inl ⟨H.no (F.ne (fun e=>hvs (by rw[U,e,dX]))),hq.2.2.1 hvs⟩
theorem xK(w:World)(R g bm X D q qe ce n k:Nat)(v:Value)(bs a c:Bytes)(nm F:ByteArray)(M:RM)(gs:List (Bytes×List (Bytes×Nat)))(gr:Bytes×List (Bytes×Nat))(E:List (ByteArray×Nat))(xs:List Nat)(H:PsY w R g bm X D q qe ce n k v bs a c nm F M gs gr E xs):
 Calls prog 25 #[ptr R 0,.agg #[],.string nm,.slice (some ⟨q,0,none⟩) 1 1] w (nj w g q xs):=by
 have G:=aa H;obtain⟨w1,dk,bK,ha,hb,hc,hs⟩:=kK w (.cells #[ptr R 0] 69 (0,0)) (.cells #[] 80 (0,0)) (.cells #[.slice (some ⟨q,0,none⟩) 1 1] 59 (0,0));obtain⟨p4,cB⟩:∃p4,p4=w.heap.size:=⟨_,rfl⟩;obtain⟨p5,cD⟩:∃p5,p5=w.heap.size+1:=⟨_,rfl⟩;obtain⟨p7,cE⟩:∃p7,p7=w.heap.size+1+1:=⟨_,rfl⟩;rw[←cB]at ha;rw[←cD]at hb;rw[←cE]at hc;have b4:w1.cell? ⟨p4,0,none⟩=some (ptr R 0):=af ha 0;have b7:w1.cell? ⟨p7,0,none⟩=some (.slice (some ⟨q,0,none⟩) 1 1):=af hc 0;have r3:=bK.cell (by simp) H.r3;have r9:=bK.cell (by simp) H.r9;have cF:=C9 w1 bm M nm (bK.blk H.hmap (by simp));rw[H.get]at cF;have cF:(Instr.lookup 146 (.map (some bm)) (.string nm) true).run prog w1=.ok (.tuple #[.slice (some ⟨qe,0,none⟩) n ce,.bool true]) w1:=cF;have e8:=aa bK;have HB:=aa (And.intro ha (And.intro hb hc));have Hs:=aa (And.intro hs (And.intro cB (And.intro cD cE)));obtain⟨z,bn⟩:∃z,z=w1.heap.size:=⟨_,rfl⟩;obtain⟨w2,cL⟩:∃w2,w2=w1.alloc (.cells #[.slice (some ⟨qe,0,none⟩) n ce] 169 (0,0)):=⟨_,rfl⟩;have c8:Upd [] w1 w2:=by rw[cL];exact(ae _).alloc _
 have h21:w2.heap[z]? =some (.cells #[.slice (some ⟨qe,0,none⟩) n ce] 169 (0,0)):=by rw[cL,bn];exact an _
 have be:=aa (And.intro c8 (And.intro h21 bn));have n4:w1.heap.size≠p4:=by omega
 have n7:w1.heap.size≠p7:=by omega
 have dp:w2.ownsRow 0 9 1 (.slice (some ⟨q,0,none⟩) 1 1) 1 [.string (str (sb F))]:=by rw[dX];exact⟨rfl,.inr ⟨q,1,#[.string F],rfl,ay _,c8.blk (bK.blk H.hq (by simp)) (by simp),aw _,by unfold maxLen;omega,rfl,rfl⟩⟩
 have ds:=aa (sm (q:=q) (cap:=1) (ss:=[sb F]) w2 dp (by simp));clear H bK ha hb hc hs c8 h21 dp;go_enter func25,ntmps25
 go_upto_region 1 with fail
 rw[←dk];rw[←cE,←cD,←cB];clear dk cB cD cE;go_upto_if 104 with fail
 rw[←cL,←bn];clear cL bn b4 r3 r9 cF n4 n7 b7;have b7:w2.cell? ⟨p7,0,none⟩=some (.slice (some ⟨q,0,none⟩) 1 1):=be.o.1.cell (by simp) (af HB.o.2.2 0);obtain⟨i0,hi,dF,dP,e9⟩:=info_parts Tryz.info76;go_upto_region 24 with(go_at_call 20;refine ds.o.mono ?_;rintro e w3 ⟨rfl,bL,G4⟩)
 have dT:Hid (Upd [q] w w3):=aa (((e8.o.then be.o.1 (by simp)).mono (by simp)).then G4 (fun b hb _=>hb));obtain⟨w4,cM,a4,c6⟩:=run_make_own (P:=prog) w3 0 74 76 i0 .nilIface 1 underlying74 hi dF dP .i64 .i64 1 (by omega) (by unfold maxLen;omega) (ay _);obtain⟨qr,c9⟩:∃qr,qr=w3.heap.size:=⟨_,rfl⟩;rw[←c9]at cM a4;have cM:(Instr.makeSlice 74 (.int .i64 0) (.int .i64 1)).run prog w3=.ok (.slice (some ⟨qr,0,none⟩) 0 1) w4:=cM;obtain⟨w6,d0,cN,h23,h24,fa⟩:=j8 w4 (.cells #[.slice (some ⟨qr,0,none⟩) 0 1] 74 (0,0)) (.cells #[.int .i64 0] 3 (0,0));obtain⟨a5,bM⟩:∃p,p=w4.heap.size:=⟨_,rfl⟩;obtain⟨d,bO⟩:∃p,p=w4.heap.size+1:=⟨_,rfl⟩;rw[←bM]at h23;rw[←bO]at h24;have br:Upd [] w3 w4:=(ae w3).grown c6 (by simp);have bb:Hid (Upd [] w3 w6):=aa (br.then cN (by simp));have cO:Hid (Upd [q] w w6):=aa ((dT.o.then br (by simp)).then cN (by simp));have cP:w3.cell? ⟨q,0,none⟩=some (.string F):=by have:=bL.cells (g:=q) rfl 0 (.string F) (by simp[dX]);rw[aO]at this;exact this
 have H6:Hid (PsW w w6 R p4 p5 p7 z a5 d q qe n ce qr F):=aa (by
  have hh:=G.o;obtain⟨k1,k2,k3,k4⟩:=Hs.o;have z2:=be.o.2.2;have s2:=be.o.1.size;have s3:=G4.size;have s4:=br.size;have l4:=(a4.lt qr rfl).2;have fb:=lt_of_block hh.hq;have hn:∀b,w.heap.size≤b→b<w3.heap.size→b∉[q]:=fun b h1 h2=>by simp only[ag];omega
  have hm:∀{b:Nat} {o:Obj},w1.heap[b]? =some o→w.heap.size≤b→w6.heap[b]? =some o:=fun{b o} h1 h2=>bb.o.blk (G4.blk (be.o.1.blk h1 (by simp)) (by simp only[ag];omega)) (by simp);have l2:w1.heap.size<w2.heap.size:=by have:=lt_of_block be.o.2.1;omega
  refine⟨hm HB.o.1 (by omega),hm HB.o.2.1 (by omega),hm HB.o.2.2 (by omega),bb.o.blk (G4.blk be.o.2.1 (by simp only[ag];omega)) (by simp),h23,h24,bb.o.cell (by simp) cP,cN.row a4 (by simp),⟨by omega,by omega,by omega,by omega,by omega,by omega,by omega,fb⟩,cO.o⟩)
 have fc:=aa c9;clear bL G4 a4 c6 hi dF dP e9 h23 h24 br cP cN ds c9;have b7:w3.cell? ⟨p7,0,none⟩=some (.slice (some ⟨q,0,none⟩) 1 1):=by have h1:=H6.o.h7;have h2:=bb.o.keep p7 (by have:=H6.o.ord;have:=fc.o;omega) (by simp);rw[h2]at h1;exact af h1 0
 go_wp2_with fail;rw[←d0];rw[←bO,←bM];clear cM d0 bM bO b7;obtain⟨cX,B1,dc⟩:∃(cX:0<E.length) (B1:Bool),Op.bytesLess F.toList E[0].1.toList=B1:=⟨by have:=G.o.hn;have:=G.o.n12;omega,_,rfl⟩;have ea:Hid (B1=decide (sb F<sb E[0].1)):=aa (by rw[←dc,oH]);obtain⟨e0,dd⟩:∃e0,e0=E[0].1:=⟨_,rfl⟩;rw[←dd]at dc;have KX:Hid (∀w',Upd [d] w6 w'→w'.cell? ⟨p7,0,none⟩=some (.slice (some ⟨q,0,none⟩) 1 1)∧w'.cell? ⟨q,0,none⟩=some (.string F)∧w'.cell? ⟨z,0,none⟩=some (.slice (some ⟨qe,0,none⟩) n ce)∧w'.cell? ⟨qe,0,none⟩=some (.string e0)):=aa (fun w' hu=>by have ho:=H6.o.ord;have fk:=G.o.ne qe (by simp);have hc:=(G.o.cell 0 cX).1;refine⟨hu.cell (by simp only[ag];omega) (af H6.o.h7 0),hu.cell (by simp only[ag];omega) H6.o.qc,hu.cell (by simp only[ag];omega) (af H6.o.h21 0),?_⟩;rw[dd];exact hu.cell (by simp only[ag];omega) (cO.o.cell (by simpa using fk.2) (by simpa using hc)))
 have cY:1≤(n:Int):=by have:=G.o.n12;omega
 clear dd;cases B1
 ·
  have eb:Hid (¬sb F<sb E[0].1):=aa (by have:=ea.o;simpa using this.symm);go_loopg [131] 0 (fun gg _ wx=>gg=0∧wx=w6)
  case atStart=>exact⟨rfl,rfl⟩
  case round=>
   obtain⟨rfl,rfl⟩:=hrel;have W:wr.cell? ⟨d,0,none⟩=some (.int .i64 0):=af H6.o.h24 0;obtain⟨k7,kq,a0,ke⟩:=KX.o _ ((ae wr).mono (by simp));clear KX;go_wp2_with fail;go_quiet (fail)
   obtain⟨w8,bg⟩:∃w8,w8=wr.drewN nq:=⟨_,rfl⟩;rw[←bg];have bl:Hid (Upd [] wr w8):=aa (by rw[bg];exact(ae _).drewN nq);have H8:=aa (H6.o.new bl.o);clear bg W k7 kq a0 ke dc H6 bb cO bl fa;go_wp2_with fail;go_loopg [135] 1 (fun gg _ wx=>∃vi:Nat,Hid (gg+vi=1)∧Hid (vi=0∧wx=w8∨vi=1∧wM w wx g q p7 a5 d qr xs))
   case atStart=>exact⟨0,aa rfl,aa (.inl ⟨rfl,rfl⟩)⟩
   case round=>
    obtain⟨vi,cZ,HR⟩:=hrel;rcases HR.o with⟨rfl,rfl⟩|⟨rfl,hF⟩
    ·clear HR;have W:wr.cell? ⟨d,0,none⟩=some (.int .i64 0):=af H8.o.h24 0;have k7:=af H8.o.h7 0;have kq:=H8.o.qc;obtain⟨a6,bv⟩:∃a6,a6=wr.alloc (.cells #[.string F] 9 (0,0)):=⟨_,rfl⟩;obtain⟨a1,bw⟩:∃a1,a1=wr.heap.size:=⟨_,rfl⟩;have bR:Upd [] wr a6:=by rw[bv];exact(ae _).alloc _
     have h25:a6.heap[a1]? =some (.cells #[.string F] 9 (0,0)):=by rw[bv,bw];exact an _
     have ad:=aa (And.intro (H8.o.new bR) (And.intro bR (And.intro h25 bw)));have ef:Hid (∀i w',i<n→Upd [] a6 w'→Calls prog 61 #[.int .i64 i,ptr z 0,ptr a1 0] w' fun e bS=>e=.returned (.bool (!(E[i]?.map fun x=>Op.bytesLess x.1.toList F.toList).getD false))∧Upd [] a6 bS):=aa (fun i w' hi hu=>by
      have bW:i<E.length:=by have:=G.o.hn;omega
      refine(AQ w' z a1 qe n ce i F E G.o.hn (by have:=G.o.n12;omega) (hu.blk ad.o.1.h21 (by simp)) (hu.blk ad.o.2.2.1 (by simp)) (fun t ht=>hu.cell (by simp) (ad.o.1.upd.cell (by have:=G.o.ne qe (by simp);simpa using this.2) (G.o.cell t ht).1)) bW).mono ?_;rintro e bS ⟨rfl,eg⟩;exact⟨by rw[az bW];rfl,hu.then eg (by simp)⟩)
     go_upto_region 30 with fail
     rw[←bv,←bw];clear bR h25 bv bw W k7 kq;have a0:=af ad.o.1.h21 0;have fv:∀(fn:Fn) (first cap:Array Value) (w:World),(Instr.makeFunc fn first cap).run prog w=.ok (.func fn first cap) w:=fun _ _ _ _=>rfl;have b5:n<1073741824:=by have:=G.o.n12;omega
     go_upto_if 147 with(go_at_call 60;refine(zd n (ptr z 0) (ptr a1 0) (fun i=> !(E[i]?.map fun x=>Op.bytesLess x.1.toList F.toList).getD false) (fun w'=>Upd [] a6 w') a6 b5 (ae _) ef.o).mono ?_;rintro e c0 ⟨i,rfl,a7,h1,h2,bA⟩;have a0:c0.cell? ⟨z,0,none⟩=some (.slice (some ⟨qe,0,none⟩) n ce):=bA.cell (by simp) (af ad.o.1.h21 0);have ei:(c0.alloc (.cells #[.int .i64 (i:Nat)] 3 (0,0))).cell? ⟨z,0,none⟩=some (.slice (some ⟨qe,0,none⟩) n ce):=(bA.alloc _).cell (by simp) (af ad.o.1.h21 0);have HI:=aa (And.intro a7 (And.intro h1 (And.intro h2 bA)));clear a7 h1 h2 bA)
     obtain⟨bd,bB⟩:∃bd,bd=c0.alloc (.cells #[.int .i64 (i:Nat)] 3 (0,0)):=⟨_,rfl⟩;obtain⟨A,b6⟩:∃A,A=c0.heap.size:=⟨_,rfl⟩;have h26:bd.heap[A]? =some (.cells #[.int .i64 (i:Nat)] 3 (0,0)):=by rw[bB,b6];exact an _
     have b8:Upd [] a6 bd:=by rw[bB];exact HI.o.2.2.2.alloc _
     have ej:=HI.o.2.2.2.size;rw[←bB,←b6];have O:=aa (And.intro (ad.o.1.new b8) (And.intro h26 (And.intro (b8.blk ad.o.2.2.1 (by simp)) (show wr.heap.size=a1∧a1<A from⟨ad.o.2.2.2.symm,by have:=lt_of_block ad.o.2.2.1;omega⟩))));have HC:=aa (And.intro HI.o.1 (And.intro HI.o.2.1 HI.o.2.2.1));clear bB b6 h26 b8 ej a0 ei HI ad ef;have b9:∀t (ht:t<E.length),(E[t]?.map fun x=>Op.bytesLess x.1.toList F.toList).getD false=decide (sb E[t].1<sb F):=fun t ht=>by rw[az ht];exact oH _ _
     have el:=aa b9;have ca:=G.o.hn;have a2:=G.o.n12;clear b9;by_cases a7:i=n
     ·have hx:xs=[]:=G.o.case9 ⟨by omega,by
       have h1:=HC.o.2.1;rw[el.o (i-1) (by omega)]at h1;rcases h1 with h1|h1
       ·omega
       ·have e:E[i-1]'(by omega)=E[E.length-1]'(by omega):=by congr 1;omega
        rw[←e];simpa using h1⟩
      subst hx;subst a7;have ep:=af O.o.1.h23 0;clear a2 ca cY b5;go_wp2_with (go_at_call 59;refine(vh _ _ _).mono ?_;rintro e w' ⟨rfl,a9⟩);go_ret2
      exact nj.empty (O.o.1.upd.then a9 (by simp))
     ·have bW:i<E.length:=by have:=HC.o.1;omega
      have et:Hid (¬sb E[i].1<sb F):=aa (by
       have h1:=HC.o.2.2;rw[el.o i bW]at h1;rcases h1 with h1|h1
       ·exact absurd h1 a7
       ·simpa using h1)
      have bE:((i:Int)==(n:Int))=false:=by simp;omega
      have c7:i=0∨i=1:=by omega
      have fA:=aa a2;clear b5;go_upto_region 32 with fail
      go_cut [158]from 148 to 158 (fun u wx=>∃B,u=.bool B∧Hid (Upd [] bd wx∧(B=false→∃t0 m,PsC gs (sb F) k gr E i t0 m)∧(B=true→i=1∧∃t0 m,PsC gs (sb F) k gr E 0 t0 m)))
      case first=>
       have a0:=af O.o.1.h21 0;have fE:=af O.o.2.2.1 0;have f26:=ao O.o.2.1 0;rcases c7 with rfl|rfl
       ·have ev:bd.cell? ⟨A,0,none⟩=some (.int .i64 0):=af O.o.2.1 0;have eE:E[0].1=F:=by have h1:=eb.o;have h2:=et.o;rw[←dX E[0].1,←dX F,List.le_antisymm (List.not_lt.1 h1) (List.not_lt.1 h2)]
        obtain⟨t0,m,hc⟩:=G.o.case1 ⟨cX,eE⟩;have U:=aa hc;clear hc eE a7 bE ca a2 cY;go_wp2_with fail;go_quiet (fail)
        go_wp2_with fail;go_meet
        exact⟨false,rfl,aa ⟨(ae _).drewN _,fun _=>⟨t0,m,U.o⟩,fun h=>by cases h⟩⟩
       ·have ev:bd.cell? ⟨A,0,none⟩=some (.int .i64 1):=af O.o.2.1 0;have dj:1<E.length:=bW;have ke:bd.cell? ⟨qe,2,none⟩=some (.string E[1].1):=O.o.1.upd.cell (by have:=G.o.ne qe (by simp);simpa using this.2) (G.o.cell 1 dj).1;have fr:n=2:=by omega
        subst fr;obtain⟨e1,cc⟩:∃e1,e1=E[1].1:=⟨_,rfl⟩;rw[←cc]at ke;by_cases cg:e1=F
        ·obtain⟨t0,m,hc⟩:=G.o.case2 ⟨dj,by rw[←cc];exact cg⟩;have U:=aa hc;subst cg;clear hc a7 bE ca a2 cY cc;go_wp2_with fail;go_quiet (fail)
         go_wp2_with fail;go_meet
         exact⟨false,rfl,aa ⟨(ae _).drewN _,fun _=>⟨t0,m,U.o⟩,fun h=>by cases h⟩⟩
        ·have eG:sb F<sb E[1].1:=by
          have h2:=et.o;rcases List.le_iff_lt_or_eq.1 (List.not_lt.1 h2)with h3|h3
          ·exact h3
          ·exact absurd (by rw[cc,←dX E[1].1,←h3,dX]) cg
         obtain⟨t0,m,hc⟩:=G.o.case3 ⟨dj,eG⟩;have U:=aa hc;have hb:(e1.toList==F.toList)=false:=by rw[eqB];simpa using cg
         clear hc a7 bE ca a2 cY cc eG cg;go_wp2_with fail;go_quiet (fail)
         go_wp2_with fail;go_meet
         exact⟨true,rfl,aa ⟨(ae _).drewN _,(fun h=>by cases h),fun _=>⟨trivial,t0,m,U.o⟩⟩⟩
      case rest=>
       obtain⟨B,rfl,ck⟩:=hcut;generalize wc=w13 at*;have V:=aa (And.intro (O.o.1.new ck.o.1) (And.intro (ck.o.1.blk O.o.2.1 (by simp)) (And.intro (ck.o.1.blk O.o.2.2.1 (by simp)) O.o.2.2.2)));clear O a7 bE c7 a2 ca;go_upto_if 158 with fail
       go_cut []from 147 to 160 (fun wx=>∃i' t0 m,Hid (PsC gs (sb F) k gr E i' t0 m)∧Hid (wx.heap[A]? =some (.cells #[.int .i64 (i':Nat)] 3 (0,0))∧Upd [A] w13 wx))
       case first=>
        cases B
        ·obtain⟨t0,m,hc⟩:=ck.o.2.1 rfl;have U:=aa hc;clear hc;go_wp2_with fail;go_meet
         exact⟨i,t0,m,U,aa ⟨V.o.2.1,(ae _).mono (by simp)⟩⟩
        ·obtain⟨rfl,t0,m,hc⟩:=ck.o.2.2 rfl;have U:=aa hc;have ev:w13.cell? ⟨A,0,none⟩=some (.int .i64 1):=af V.o.2.1 0;have f26:=ao V.o.2.1 0;clear hc;go_wp2_with fail;go_meet
         exact⟨0,t0,m,U,aa ⟨au V.o.2.1 0 _,((ae _).mono (by simp)).setCell (fun _=>by simp) _⟩⟩
       case rest=>
        obtain⟨i',t0,m,U,cn⟩:=hcut;generalize wc=w14 at*;have eN:d<a1:=by have:=lt_of_block H8.o.h24;have:=V.o.2.2.2;omega
        have a3:=V.o.1.mv cn.o.2 (fun b hb=>by simp only[ag]at hb;have:=V.o.2.2.2;omega);have cp:=cn.o.2.blk V.o.2.2.1 (by simp only[ag];have:=V.o.2.2.2;omega);obtain⟨cs,eR⟩:=U.o.off;obtain⟨o,ho⟩:∃o,o=E[i'].2:=⟨_,rfl⟩;have fs:Hid (∀w',Upd [] w14 w'→Calls prog 62 #[ptr R 0,.agg #[],.int .i64 (o:Nat),.func (.func 63) #[] #[ptr a1 0,ptr p4 0,ptr a5 0,ptr d 0,ptr p7 0,ptr A 0,ptr z 0]] w' fun e bS=>e=.returned .nilIface∧wM w bS g q p7 a5 d qr xs∧Upd [a5,d,qr] w' bS):=aa (fun w' hu=>by rw[ho];exact Ev w w' R g bm X D q qe ce n k v bs a c nm F M gs gr E xs G.o (a3.new hu) (hu.blk cp (by simp)) (hu.blk cn.o.1 (by simp)) ⟨eN,V.o.2.2.2.2⟩ U.o cs)
        have ct:∀b∈[p4,z,A,qe],b∉[a5,d,qr]:=fun b hb hm=>by have h1:=a3.ord;have h2:=G.o.ne qe (by simp);have h3:=V.o.2.2.2;simp only[ah,ai,or_false]at hb hm;omega
        have KS:=aa (fun w' (hu:Upd [a5,d,qr] w14 w')=>show w'.cell? ⟨p4,0,none⟩=some (ptr R 0)∧w'.cell? ⟨z,0,none⟩=some (.slice (some ⟨qe,0,none⟩) n ce)∧w'.cell? ⟨A,0,none⟩=some (.int .i64 (i':Nat))∧w'.cell? ⟨qe,i'*2+1,none⟩=some (.int .i64 (o:Nat))from⟨hu.cell (ct p4 (by simp)) (af a3.h4 0),hu.cell (ct z (by simp)) (af a3.h21 0),hu.cell (ct A (by simp)) (af cn.o.1 0),hu.cell (ct qe (by simp)) (by rw[ho];exact a3.upd.cell (by have:=G.o.ne qe (by simp);simpa using this.2) (G.o.cell i' cs).2)⟩);have fN:(0:Int)≤(i':Int):=by omega
        have fP:(i':Int)<(n:Int):=by have:=G.o.hn;omega
        obtain⟨k4,a0,e5,ke⟩:=KS.o _ ((ae _).mono (by simp));clear a3 cp eR ho cs ct;go_upto_region 34 with fail
        go_cut [27] (fun u wx=>u=.nilIface∧wM w wx g q p7 a5 d qr xs)
        case first=>
         clear H8 V cn U eb
         go_region_held3 (fun w'=>w'.cell? ⟨p4,0,none⟩=some (ptr R 0)∧w'.cell? ⟨z,0,none⟩=some (.slice (some ⟨qe,0,none⟩) n ce)∧w'.cell? ⟨A,0,none⟩=some (.int .i64 (i':Nat))∧w'.cell? ⟨qe,i'*2+1,none⟩=some (.int .i64 (o:Nat))) (first|(go_keep;done)|trivial) (first
          |(go_at_call 62;refine(fs.o _ (by with_reducible first|exact(ae _).drew|exact ae _)).mono ?_;rintro e e6 ⟨rfl,hF,cA⟩;have HF:=aa hF;obtain⟨k4,a0,e5,ke⟩:=KS.o e6 (by with_reducible first|exact((ae _).drew.mono (by simp)).then cA (fun _ h _=>h)|exact cA);clear hF cA))
         all_goals
          go_wp2_with fail;go_meet
          exact⟨rfl,HF.o⟩
        case rest=>
         obtain⟨rfl,hF⟩:=hcut;generalize wc=e6 at*;have HF:=aa hF;clear hF k4 a0 e5 ke;go_wp2_with fail;go_roundg 0
         case measure=>have:=cZ.o;omega
         case rel=>exact⟨1,aa rfl,aa (.inr ⟨rfl,HF.o⟩)⟩
    ·have HF:=aa hF;clear hF HR;have W:=af HF.o.h24 0;have k7:=HF.o.k7;rcases HF.o.res with⟨hx,h23⟩|⟨X,q',c',h23,cP,hX,e7⟩
     ·subst hx;have ep:=af h23 0;clear h23;go_wp2_with (go_at_call 59;refine(vh _ _ _).mono ?_;rintro e w' ⟨rfl,a9⟩);go_ret2
      exact nj.empty (HF.o.upd.then a9 (by simp))
     ·have ep:=af h23 0;have HX:=aa (And.intro hX e7);clear h23 hX e7;go_wp2_with (go_at_call 59;refine(Dn _ _ _ _ cP).mono ?_;rintro e w' ⟨rfl,a9⟩);go_ret2
      have fX:=G.o.ne g (by simp);have ha:=G.o.asc;refine⟨_,[X],rfl,.inr ⟨X,rfl,rfl,⟨HX.o.1.upd a9 (by simp) (by simp),by have:=HX.o.2;omega,ha.asc,ha.lt,ha.len⟩⟩,fun b hb=>?_,HF.o.upd.then a9 (by simp)⟩;simp only[ag]at hb;subst hb;obtain⟨o,cap,hb,_⟩:=HX.o.1.blk;exact⟨HX.o.2,bD (lt_of_block hb) a9.size⟩
 ·have hx:xs=[]:=G.o.case0 ⟨cX,by have:=ea.o;simpa using this.symm⟩;subst hx;go_loopg [131] 1 (fun gg _ wx=>∃vi:Nat,Hid (gg+vi=1)∧Hid (wx.heap[d]? =some (.cells #[.int .i64 (vi:Nat)] 3 (0,0))∧Upd [d] w6 wx))
  case atStart=>exact⟨0,aa rfl,aa ⟨H6.o.h24,(ae _).mono (by simp)⟩⟩
  case round=>
   obtain⟨vi,cZ,HR⟩:=hrel;have W:wr.cell? ⟨d,0,none⟩=some (.int .i64 (vi:Nat)):=af HR.o.1 0;have f24:wr.frozen? ⟨d,0,none⟩=false:=ao HR.o.1 0;obtain⟨k7,kq,a0,ke⟩:=KX.o _ HR.o.2;rcases gV vi with h0|h0
   ·subst h0;have W:wr.cell? ⟨d,0,none⟩=some (.int .i64 0):=W;clear KX;go_wp2_with fail;go_quiet (fail)
    go_wp2_with fail;go_roundg 0
    case measure=>have:=cZ.o;omega
    case rel=>exact⟨1,aa rfl,aa ⟨au (w:=wr.drewN nq) HR.o.1 0 _,((HR.o.2.drewN nq).setCell (fun _=>by simp) _)⟩⟩
   ·obtain rfl:vi=1:=by have:=cZ.o;omega
    have W:wr.cell? ⟨d,0,none⟩=some (.int .i64 1):=W;clear KX f24;go_wp2_with fail;go_quiet (fail)
    obtain⟨w8,bg⟩:∃w8,w8=wr.drewN nq:=⟨_,rfl⟩;rw[←bg];have bl:Hid (Upd [d] w6 w8∧w8.heap[d]? =some (.cells #[.int .i64 1] 3 (0,0))):=aa (by rw[bg];exact⟨HR.o.2.drewN nq,HR.o.1⟩);clear bg W k7 kq a0 ke HR;go_wp2_with fail;have W:w8.cell? ⟨d,0,none⟩=some (.int .i64 1):=af bl.o.2 0;have ho:=H6.o.ord;have k7:w8.cell? ⟨p7,0,none⟩=some (.slice (some ⟨q,0,none⟩) 1 1):=bl.o.1.cell (by simp only[ag];omega) (af H6.o.h7 0);have f0:w8.cell? ⟨a5,0,none⟩=some (.slice (some ⟨qr,0,none⟩) 0 1):=bl.o.1.cell (by simp only[ag];omega) (af H6.o.h23 0);have ft:Hid (Upd [q] w w8):=aa (cO.o.then bl.o.1 (fun b hb hl=>by simp only[ag]at hb;omega));clear ho;go_loopg [135] 0 (fun gg _ wx=>gg=0∧wx=w8)
    case atStart=>exact⟨rfl,rfl⟩
    case round=>
     obtain⟨rfl,rfl⟩:=hrel;go_wp2_with (go_at_call 59;refine(vh _ _ _).mono ?_;rintro e w' ⟨rfl,a9⟩);go_ret2
     exact nj.empty (ft.o.then a9 (by simp))
theorem DV{gs:List (Bytes×List (Bytes×Nat))}{nm:Bytes}{k n0:Nat}{gr:Bytes×List (Bytes×Nat)}{rest:List (Bytes×Bytes×Nat)}(G:wK gs nm k n0 gr rest)(j:Nat)(h:j<gr.2.length):∃A:k+j<(gs.flatMap ent).length,(gs.flatMap ent)[k+j]=(nm,gr.2[j].1,gr.2[j].2):=by
 have e:=G.ent;have hl:(ent gr).length=gr.2.length:=by simp[ent]
 have h1:((gs.flatMap ent).drop k)[j]? =some (nm,gr.2[j].1,gr.2[j].2):=by rw[e,bH (by omega)];simp[ent,h,G.name]
 rw[md]at h1;obtain⟨d,z⟩:=List.getElem?_eq_some_iff.1 h1;exact⟨d,z⟩
theorem yo{gs:List (Bytes×List (Bytes×Nat))}(hn:(gs.map (·.1)).Nodup){a b:Bytes×List (Bytes×Nat)}(d:a∈gs)(hb:b∈gs)(e:a.1=b.1):a=b:=by obtain⟨i,z,rfl⟩:=aQ d;obtain⟨j,A,rfl⟩:=aQ hb;have:=(List.getElem_inj (i:=i) (j:=j) (h₀:=by simpa using z) (h₁:=by simpa using A) hn).1 (by simpa using e);subst this;rfl
theorem tE(w:World)(R g base T q t1 t2 t3 t4 t5:Nat)(v:Value)(bs:Bytes)(syms:List Bytes)(G0:List LabL)(gs:List (Bytes×List (Bytes×Nat)))(nm d:ByteArray)(hI:RdI w R g base T v bs syms gs t5)(hX:Bq bs syms G0 gs t1 t2 t3 t4 t5)
 (hq:w.heap[q]? =some (.cells #[.string d] 9 (0,0)))(a1:q≠g∧(q<base∨T≤q))(G8:sb nm=[]→sb d=[]):
 Calls prog 25 #[ptr R 0,.agg #[],.string nm,.slice (some ⟨q,0,none⟩) 1 1] w (nj w g q (dJ syms G0 (sb nm) (sb d))):=by
 obtain⟨X,S,D,bm,NS,r,M,nl,tc,xc,F⟩:=hI;have W:(∀gr∈gs,gr.1=sb nm→∀y∈gr.2,y.1≠sb d)→dJ syms G0 (sb nm) (sb d)=[]:=fun h=>by
  by_cases e:sb nm=[]
  ·obtain⟨g',A,e1,y,O,e2⟩:=hX.all;exact absurd (e2.trans (G8 e).symm) (h g' A (e1.trans e.symm) y O)
  ·by_cases e2:dJ syms G0 (sb nm) (sb d)=[]
   ·exact e2
   ·obtain⟨g',A,e1,y,O,e3⟩:=hX.full _ _ e e2;exact absurd e3 (h g' A e1 y O)
 rcases Eu F.mem F.abs hX.names nm with⟨h1,h2⟩|⟨qe,ce,k,n0,gr,rest,E,hT⟩
 ·rw[W (fun gr hg e=>absurd e (h2 gr hg))];exact xJ w R g q bm nm M (af F.rd 3) (af F.rd 9) F.mem.o h1
 ·obtain⟨a,c,hb,ha⟩:=hX.pot;have U:=hT.grp.mem;have hv:=hX.vals gr U;obtain⟨h0,ad,_,⟨a6,_⟩,_⟩:=hT.vals hv.1;obtain⟨a7,a9,bb,bd,be,hx⟩:=F.x;have G9:∀b∈[R,X,S,D,NS]++r.toList++aR bm M,b≠q:=fun b hb e=>by have:=F.blk b hb;omega
  have a3:=F.b.lt;have V:=DV hT.grp;have a4:∀x∈gs.flatMap ent,x.1.length≤60∧x.2.1.length≤60∧x.2.2<1000000:=fun x hx=>by obtain⟨y,O,a0⟩:=List.mem_flatMap.1 hx;have hs:=hX.small.2 y O;simp only[ent,bU]at a0;obtain⟨z,hz,rfl⟩:=a0;exact⟨hs.1,(hs.2.2 z hz).1,(hs.2.2 z hz).2⟩
  have hrefs:=hX.refs (sb nm) (sb d);have G:(∀y∈gr.2,y.1≠sb d)→dJ syms G0 (sb nm) (sb d)=[]:=fun h=>W (fun g' A e y O=>by rw[yo hX.names A U (e.trans hT.grp.name.symm)]at O;exact h y O)
  have a5:∀b∈[R,g,bm,X,D,qe],b<w.heap.size∧b≠q:=fun b hb=>by
   simp only[ah,ai,or_false]at hb;rcases hb with rfl|rfl|rfl|rfl|rfl|rfl
   ·exact⟨lt_of_block F.rd,G9 _ (by simp)⟩
   ·exact⟨a3,aF a1.1⟩
   ·exact⟨lt_of_block F.mem.o,G9 _ (bZ _ (by simp[aR]))⟩
   ·exact⟨lt_of_block hx,G9 _ (by simp)⟩
   ·exact⟨lt_of_block F.d,G9 _ (by simp)⟩
   ·exact⟨F.mem.lt _ hT.blk,G9 _ (bZ _ hT.blk)⟩
  refine xK w R g bm X D q qe ce E.length k v bs a c nm d M gs gr E (dJ syms G0 (sb nm) (sb d)) ⟨⟨af F.rd 0,af F.rd 8,af F.d 1,F.b⟩,af F.rd 1,af F.rd 3,af F.rd 9,by rw[ha];exact af hx 5,F.mem.o,hT.get,rfl,ad,hT.cell,hq,a5,?_,V,by have:=hv.2.1;omega,?_,?_,?_,?_,?_,?_,G,?_,hX.len.1⟩
  ·intro i t0 m hC;have hl:=hC.lt;refine⟨hb,hX.len.1,a4,?_,by have:=hv.2.1;omega,fun j h hj=>?_⟩
   ·obtain⟨h',_⟩:=V (t0+m) hl;omega
   ·obtain⟨h',e⟩:=V (t0+j) (by omega);have:k+t0+j=k+(t0+j):=by omega
    simp only[this,e]
  ·rintro⟨h,e⟩;exact G (hT.c0 hv.1 hv.2.2 h e)
  ·rintro⟨h,e⟩;exact G (hT.c9 hv.1 hv.2.2 h e)
  ·rintro⟨h,e⟩;exact⟨0,0,hT.c1 hv.1 h (by rw[e])⟩
  ·rintro⟨h,e⟩;exact⟨_,0,hT.c2 hv.1 h (by rw[e])⟩
  ·rintro⟨h,e⟩;obtain⟨m,hm⟩:=hT.c3 hv.1 hv.2.2 h e;exact⟨0,m,hm⟩
  ·intro y O e;obtain⟨a2,c2,h1,h2⟩:=hX.post gr U y O;rw[hT.grp.name,e]at h1;exact⟨a2,c2,h1,h2⟩
  ·exact⟨List.pairwise_cons.2 ⟨fun p hp=>(hrefs.1 p hp).1,hrefs.2.2⟩,fun p hp=>by
    rcases List.mem_cons.1 hp with rfl|hp
    ·omega
    ·exact(hrefs.1 p hp).2,hrefs.2.1⟩
abbrev ni:=List (Nat×ByteArray×ByteArray)
def rL(syms:List Bytes)(G0:List LabL)(m:Nat×ByteArray×ByteArray):List Nat:=dJ syms G0 (sb m.2.1) (sb m.2.2)
def jL(syms:List Bytes)(G0:List LabL)(ms:ni):List (List Nat):=(ms.filter fun m=>decide (m.1=0)).map (rL syms G0)
def jc(syms:List Bytes)(G0:List LabL)(ms:ni):List (List Nat):=(ms.filter fun m=> !decide (m.1=0)).map (rL syms G0)
def ow(syms:List Bytes)(G0:List LabL)(ms:ni):List Nat:=
 (jc syms G0 ms).foldl dif (gm (if jL syms G0 ms=[]then[dJ syms G0 [] []]else jL syms G0 ms))
def okM(m:Nat×ByteArray×ByteArray)(l:LabL):Bool:=if m.1=0 then mQ l (sb m.2.1) (sb m.2.2)else !mQ l (sb m.2.1) (sb m.2.2)
section
variable {α:Type} {Z:List (Nat×α)}
theorem xq(hn:(Z.map (·.1)).Nodup)(P:Nat×α→Bool){y:Nat×α}(D:y∈Z):((Z.filter P).map (·.1)).contains y.1=P y:=by
 rw[dR,kf,bU];constructor
 ·rintro⟨x,F,e⟩;obtain⟨d,z⟩:=List.mem_filter.1 F;obtain⟨i,G,rfl⟩:=aQ d;obtain⟨j,O,rfl⟩:=aQ D;have A:=(List.getElem_inj (i:=i) (j:=j) (h₀:=by simpa using G) (h₁:=by simpa using O) hn).1 (by simpa using e);subst A;exact z
 ·intro h;exact⟨y,List.mem_filter.2 ⟨D,h⟩,rfl⟩
theorem lB(P:Nat×α→Bool)(Q:Nat→Bool)(R:Nat×α→Bool)(h:∀y∈Z,Q y.1=R y):((Z.filter P).map (·.1)).filter Q=(Z.filter fun y=>P y&&R y).map (·.1):=by
 rw[List.filter_map];have e:(Z.filter P).filter (Q∘(·.1))=Z.filter fun y=>P y&&R y:=by rw[List.filter_filter];refine nf fun y d=>?_;simp only[Function.comp,h y d];rw[Bool.and_comm]
 rw[e]
theorem B5(hn:(Z.map (·.1)).Nodup)(P Q:Nat×α→Bool):dif ((Z.filter P).map (·.1)) ((Z.filter Q).map (·.1))=(Z.filter fun y=>P y&& !Q y).map (·.1):=by unfold dif;exact lB P _ _ fun y d=>by rw[xq hn Q d]
theorem vO(hn:(Z.map (·.1)).Nodup)(P:Nat×α→Bool)(d:List (Nat×α→Bool)):gm (((Z.filter P).map (·.1))::d.map fun Q=>(Z.filter Q).map (·.1))=(Z.filter fun y=>P y&&d.all fun Q=>Q y).map (·.1):=by rw[gm];refine lB P _ (fun y=>d.all fun Q=>Q y) fun y z=>?_;rw[List.all_map];congr 1;funext Q;exact xq hn Q z
theorem qQ(hn:(Z.map (·.1)).Nodup):∀(d:List (Nat×α→Bool)) (P:Nat×α→Bool),(d.map fun Q=>(Z.filter Q).map (·.1)).foldl dif ((Z.filter P).map (·.1))=(Z.filter fun y=>P y&&d.all fun Q=> !Q y).map (·.1):=by
 intro d;induction d with
 |nil=>intro P;simp
 |cons Q d z=>
  intro P;rw[aN,dg,B5 hn,z];simp only[List.all_cons,Bool.and_assoc]
end
section
variable {syms:List Bytes} {ls G0:List LabL}
def kR(syms:List Bytes)(G0:List LabL):List Nat:=cG (ch syms).length (dr syms G0)
theorem uC:(kR syms G0).length=G0.length:=by rw[kR,gz];simp[dr]
theorem ws:(kR syms G0).Nodup:=(lO (dr syms G0) (ch syms).length).1.imp fun h=>by omega
theorem xz:((kR syms G0).zip G0).map (·.1)=kR syms G0:=by have:=List.map_fst_zip (l₁:=kR syms G0) (l₂:=G0) (by rw[uC];omega);exact this
theorem yC{nm:Bytes}(h:nm≠[])(v:Bytes):dJ syms G0 nm v=(((kR syms G0).zip G0).filter fun y=>mQ y.2 nm v).map (·.1):=by rw[dJ,if_neg h];rfl
theorem wv(v:Bytes):dJ syms G0 [] v=(((kR syms G0).zip G0).filter fun _=>true).map (·.1):=by rw[dJ,if_pos rfl,List.filter_eq_self.2 (fun _ _=>rfl),xz];rfl
theorem sC{α β:Type}(p:α→Bool)(f g:α→β→Bool)(l:List α)(b:β):(l.all fun a=>if p a then f a b else g a b)=((l.filter p).all (fun a=>f a b)&&(l.filter fun a=> !p a).all (fun a=>g a b)):=by
 induction l with
 |nil=>rfl
 |cons a l d=>
  simp only[List.all_cons,db,d];cases p a<;>simp[Bool.and_left_comm,Bool.and_assoc]
theorem CF(ms:ni)(hm:∀m∈ms,sb m.2.1≠[]):ow syms G0 ms=(((kR syms G0).zip G0).filter fun y=>ms.all fun m=>okM m y.2).map (·.1):=by
 have hn:(((kR syms G0).zip G0).map (·.1)).Nodup:=by rw[xz];exact ws
 have d:∀l:ni,(∀m∈l,sb m.2.1≠[])→l.map (rL syms G0)=(l.map fun(m:Nat×ByteArray×ByteArray) (y:Nat×LabL)=>mQ y.2 (sb m.2.1) (sb m.2.2)).map fun Q=>(((kR syms G0).zip G0).filter Q).map (·.1):=by intro l hl;rw[bT];exact i6 fun m hm=>by rw[rL,yC (hl m hm)];rfl
 have e1:=d (ms.filter fun m=>decide (m.1=0)) (fun m h=>hm m (List.mem_filter.1 h).1);have e2:=d (ms.filter fun m=> !decide (m.1=0)) (fun m h=>hm m (List.mem_filter.1 h).1);have e3:gm (if jL syms G0 ms=[]then[dJ syms G0 [] []]else jL syms G0 ms)=(((kR syms G0).zip G0).filter fun y=>(ms.filter fun m=>decide (m.1=0)).all fun m=>mQ y.2 (sb m.2.1) (sb m.2.2)).map (·.1):=by
  unfold jL;cases hf:ms.filter fun m=>decide (m.1=0)with
  |nil=>rw[cQ,if_pos rfl,pO,wv];rfl
  |cons m l=>
   rw[hf]at e1;rw[if_neg (by simp),e1,aN,aN,vO hn];congr 2;funext y;simp only[List.all_cons,List.all_map];rfl
 unfold ow;rw[e3];unfold jc;rw[e2,qQ hn];congr 2;funext y;have:=sC (fun m:Nat×ByteArray×ByteArray=>decide (m.1=0)) (fun m (y:Nat×LabL)=>mQ y.2 (sb m.2.1) (sb m.2.2)) (fun m (y:Nat×LabL)=> !mQ y.2 (sb m.2.1) (sb m.2.2)) ms y;simp only[decide_eq_true_eq]at this;simp only[okM,List.all_map,this];rfl
theorem qB{α β:Type}(P:β→Bool):∀(a:List α) (b:List β),a.length=b.length→((a.zip b).filter fun y=>P y.2).map (·.2)=b.filter P:=by
 intro a;induction a with
 |nil=>intro b h;cases b<;>simp_all
 |cons x a d=>
  intro b h;cases b with
  |nil=>simp at h
  |cons y b=>
   have h1:=d b (by simpa using h);simp only[List.zip_cons_cons,db];by_cases z:P y<;>simp[z,h1]
end
end Go.Proofs.YtlgefdfflmgocaaGreatDoor
