import Derived.Test.YtlgefdfflmgocaaGreatDoorQ29
set_option linter.all false
set_option maxRecDepth 100000
set_option maxHeartbeats 2000000
namespace Go.Proofs.YtlgefdfflmgocaaGreatDoor
open Go Go.RowKit Xc Go.Proofs.Tryz
attribute [local go_sem ↓] Go.wp_at_zero Go.wp_at_succ
def ToQ(w:World)(pos:Nat)(l:LabL)(e:Ending)(w':World):Prop:=∃v,e=.returned (.tuple #[.agg #[.int .u64 (pos:Nat),v,.slice none 0 0],.bool true])∧aP w w' 56 2 l.length v (aV l)∧Upd [] w w'
theorem told(w:World)(R g base T t5 pos:Nat)(v:Value)(bs:Bytes)(syms:List Bytes)(gs:List (Bytes×List (Bytes×Nat)))(l:LabL)(hI:RdI w R g base T v bs syms gs t5)(H:Dw bs syms l pos)(hT:T≤w.heap.size)(G5:l≠[])
 (hs:∀p∈l,0<p.1.size∧p.1.size≤60∧0<p.2.size∧p.2.size≤60):
 Calls prog 31 #[ptr R 0,.int .u64 (pos:Nat)] w (ToQ w pos l):=by
 obtain⟨w1,a3,a1,h0,hp,hcb,a9⟩:=kK w (.cells #[.int .u64 0,.slice none 0 0,.slice none 0 0] 63 (0,0)) (.cells #[.slice none 0 0,.string ⟨#[]⟩,.slice none 0 0] 188 (0,0)) (.cells #[.slice none 0 0] 124 (0,0));obtain⟨cb,O⟩:∃x,x=w.heap.size+1+1:=⟨_,rfl⟩;obtain⟨p,a2⟩:∃x,x=w.heap.size+1:=⟨_,rfl⟩;obtain⟨G,U⟩:∃x,x=w.heap.size:=⟨_,rfl⟩;rw[←O]at hcb;rw[←a2]at hp;rw[←U]at h0;have hd:T≤p∧T≤cb∧p≠cb∧p<w1.heap.size∧T≤w1.heap.size:=by omega
 have KS:=aa (By w1 R g base T t5 pos p cb v bs syms gs l (hI.new a1) H ⟨⟨_,_,hp,⟨by simp[aV],.inl ⟨rfl,rfl⟩⟩,rfl⟩,by simp⟩ hcb hd);have HH:=aa H;have Hs:=aa (And.intro G5 hs);have HB:=aa (And.intro h0 (And.intro a1 (show G≠p∧G≠cb∧p≠cb∧G=w.heap.size∧G<p∧p<cb∧cb<w1.heap.size by omega)));clear hI H hT G5 hs h0 hp hcb a1 a9 hd;go_enter func31,ntmps31
 go_upto_region 3 with fail
 rw[←a3];rw[←O,←a2,←U];clear a3 O a2 U;go_upto_region 5 with(go_at_call 70;refine KS.o.mono ?_;rintro e w2 hq;obtain⟨rfl,⟨r',hsb,bb⟩,a0,a4⟩:=hq)
 have KL:=aa (A3 p r' l w2 hsb Hs.o.1 (by have:=HH.o.len;omega) (fun x hx=>by have:=Hs.o.2 x hx;omega) (by have:=pU l (fun x hx=>⟨(Hs.o.2 x hx).2.1,(Hs.o.2 x hx).2.2.2⟩);have:=HH.o.len;omega));have H2:=aa (And.intro a0 a4);clear hsb bb a0 a4 KS;go_wp2_with (go_at_call 72;refine KL.o.mono ?_;rintro e w3 ⟨rfl,_,G4⟩);refine(EI w3 l Hs.o.2 HH.o.len).mono ?_;rintro e w4 ⟨v4,rfl,G3,F⟩;have a5:0<l.length:=List.length_pos_iff.2 Hs.o.1;rcases G3.shape with⟨_,h0,_⟩|⟨q',c',rfl,_,bd⟩
 ·omega
 have HR:=aa G3;have hb:=HB.o;have be:=H2.o.2.size;have bg:=G4.size;have a6:=F.size;have d:Upd [p,cb] w1 w4:=((H2.o.2.then G4 (fun b hb _=>by simp only[ag]at hb;simp[hb])).then F (by simp));obtain⟨pr,W⟩:∃pr,pr=w4.heap.size:=⟨_,rfl⟩;obtain⟨n,hn⟩:∃n,n=l.length:=⟨_,rfl⟩;obtain⟨D,ad⟩:∃D,D=w4.alloc (.cells #[.int .u64 (pos:Nat),.slice (some ⟨q',0,none⟩) n c',.slice none 0 0] 63 (0,0)):=⟨_,rfl⟩;have A:Upd [] w4 D:=by rw[ad];exact(ae _).alloc _
 have h5:D.heap[pr]? =some (.cells #[.int .u64 (pos:Nat),.slice (some ⟨q',0,none⟩) n c',.slice none 0 0] 63 (0,0)):=by rw[ad,W];exact an _
 have z:D.heap[G]? =some (.cells #[.int .u64 0,.slice none 0 0,.slice none 0 0] 63 (0,0)):=A.blk (d.blk hb.1 (by simp only[ah,ai,or_false];omega)) (by simp);have V:D.heap[cb]? =some (.cells #[.slice none 0 0] 124 (0,0)):=A.blk (F.blk (G4.blk H2.o.1 (by simp only[ag];omega)) (by simp)) (by simp);have H5:=aa (And.intro h5 (And.intro z (And.intro V (And.intro d (And.intro A (And.intro G4 (And.intro F (And.intro W a6))))))));rw[←hn];have Hn:=aa hn;clear hn W hb;go_upto_region 6 with fail
 rw[←ad,←H5.o.2.2.2.2.2.2.2.1];clear ad h5 A d be bg a6 bd a5 G4 F G3;have bw:D.cell? ⟨cb,0,none⟩=some (.slice none 0 0):=af V 0;have k0:D.cell? ⟨pr,0,none⟩=some (.int .u64 (pos:Nat)):=af H5.o.1 0;have k1:D.cell? ⟨pr,1,none⟩=some (.slice (some ⟨q',0,none⟩) n c'):=af H5.o.1 1;have k2:D.cell? ⟨pr,2,none⟩=some (.slice none 0 0):=af H5.o.1 2;have j0:D.cell? ⟨G,0,none⟩=some (.int .u64 0):=af z 0;have j1:D.cell? ⟨G,1,none⟩=some (.slice none 0 0):=af z 1;have j2:D.cell? ⟨G,2,none⟩=some (.slice none 0 0):=af z 2;have f0:=ao z 0;have f1:=ao z 1;have f2:=ao z 2;clear z V;go_wp2_with fail;go_loopg [22] 0 (fun gg bl wx=>bl=.int .i64 0∧gg=0∧wx=D)
 case atStart=>exact⟨rfl,rfl,rfl⟩
 case round=>
  obtain⟨rfl,rfl,rfl⟩:=hrel;go_wp2_with fail;have a7:Upd [G] wr (((wr.setCell ⟨G,0,none⟩ (.int .u64 (pos:Nat))).setCell ⟨G,1,none⟩ (.slice (some ⟨q',0,none⟩) n c')).setCell ⟨G,2,none⟩ (.slice none 0 0)):=((((ae wr).mono (by simp)).setCell (by simp) _).setCell (by simp) _).setCell (by simp) _;have h6:=au (au (au H5.o.2.1 0 (.int .u64 (pos:Nat))) 1 (.slice (some ⟨q',0,none⟩) n c')) 2 (.slice none 0 0);refine bodyPost_ret (v:=.tuple #[.agg #[.int .u64 (pos:Nat),.slice (some ⟨q',0,none⟩) n c',.slice none 0 0],.bool true]) ?_ rfl ?_
  ·have e0:=af h6 0;have e1:=af h6 1;have e2:=af h6 2;simp[results,results31,go_sem,e0,e1,e2]
  ·obtain⟨_,_,_,d,A,G4,F,W,_⟩:=H5.o;have hb:=HB.o;have hs:=d.size;have bn:=(hb.2.1.then d (fun b br hl=>by simp only[ah,ai,or_false]at br;omega)).then A (by simp);rw[Hn.o]at*;have bA:=H2.o.2.size;have bv:=G4.size;exact⟨_,rfl,(HR.o.old (by have:=hb.2.1.size;omega)).upd ((A.mono (by simp)).then a7 (fun b hb _=>hb)) (fun b hb2 e=>by simp only[ag]at hb2;have:=HR.o.2 b e;omega),bn.then a7 (fun b hb2 hl=>by simp only[ag]at hb2;omega)⟩
structure WsH(bs:Bytes)(syms:List Bytes)(G0:List LabL)(gs:List (Bytes×List (Bytes×Nat)))(t1 t2 t3 t4 t5:Nat)(ms:ni):Prop where
 idx:Bq bs syms G0 gs t1 t2 t3 t4 t5
 sym:syms.length<1000∧(∀x∈syms,x.length≤60)∧syms.Pairwise (· <·)
 mat:ms.length≤6∧∀m∈ms,m.1≤1∧sb m.2.1≠[]
 lab:∀l∈G0,l≠[]∧l.length≤6∧(∀p∈l,0<p.1.size∧p.1.size≤60∧0<p.2.size∧p.2.size≤60)∧∀p∈l,sb p.1∈syms∧sb p.2∈syms
def kC(G0:List LabL)(ms:ni):List LabL:=G0.filter fun l=>ms.all fun m=>okM m l
theorem A4{bs:Bytes}{syms:List Bytes}{G0:List LabL}{gs:List (Bytes×List (Bytes×Nat))}{t1 t2 t3 t4 t5:Nat}{ms:ni}(H:WsH bs syms G0 gs t1 t2 t3 t4 t5 ms):(ow syms G0 ms).length=(kC G0 ms).length∧∀i (h:i<(ow syms G0 ms).length) (G:i<(kC G0 ms).length),Dw bs syms (kC G0 ms)[i] (ow syms G0 ms)[i]∧(kC G0 ms)[i]∈G0:=by
 have e1:=CF (syms:=syms) (G0:=G0) ms (fun m hm=>(H.mat.2 m hm).2);have e2:kC G0 ms=(((kR syms G0).zip G0).filter fun y=>ms.all fun m=>okM m y.2).map (·.2):=(qB _ (kR syms G0) G0 uC).symm;rw[e1,e2];refine⟨by simp,fun i h G=>?_⟩;simp only[de];have O:i<(((kR syms G0).zip G0).filter fun y=>ms.all fun m=>okM m y.2).length:=by simpa using h
 obtain⟨y,A⟩:∃y,y=(((kR syms G0).zip G0).filter fun y=>ms.all fun m=>okM m y.2)[i]:=⟨_,rfl⟩;have hm:y∈(kR syms G0).zip G0:=(List.mem_filter.1 (A▸aq O)).1;rw[←A];obtain⟨j,U,e⟩:=aQ hm;rw[List.getElem_zip]at e;rw[List.length_zip]at U;have d:j<(kR syms G0).length:=by omega
 have z:j<G0.length:=by omega
 have D:(kR syms G0)[j]=y.1:=congrArg Prod.fst e;have F:G0[j]=y.2:=congrArg Prod.snd e;have Ia:y.2∈G0:=F▸aq z;have hl:=H.lab _ Ia;refine⟨⟨H.idx.ser j y.1 y.2 (by rw[←D];exact az d) (by rw[←F];exact az z),⟨H.idx.sym,H.idx.len.1,H.sym.1,H.sym.2.1⟩,ka H.sym.2.2,hl.2.2.2,hl.2.1,?_⟩,Ia⟩;have hr:=(H.idx.refs [] []).1 y.1;refine(hr ?_).2;rw[dJ,if_pos rfl,←D];exact aq d
def jl(w0 w:World)(d:Value)(ls:List LabL):Prop:=∃z:List Value,aP w0 w 27 1 ls.length d z∧∀i (h:i<ls.length),∃v,z[i]? =some v∧aP w0 w 56 2 ls[i].length v (aV ls[i])∧∀b,v.ownBlock=some b→d.ownBlock≠some b
theorem jl.nil(w0 w:World):jl w0 w (.slice none 0 0) []:=⟨[],er,by simp⟩
theorem jl.upd{L:List Nat}{w0 w w':World}{d:Value}{ls:List LabL}(h:jl w0 w d ls)(hu:Upd L w w')(hL:∀b∈L,b<w0.heap.size):jl w0 w' d ls:=by obtain⟨z,h1,A⟩:=h;refine⟨z,h1.upd hu (fun b hb e=>by have:=h1.2 b e;have:=hL b hb;omega),fun i D=>?_⟩;obtain⟨v,F,h4,h5⟩:=A i D;exact⟨v,F,h4.upd hu (fun b hb e=>by have:=h4.2 b e;have:=hL b hb;omega),h5⟩
theorem Tryz.info27:(Tryz.prog.info? 27).map (fun i=>(i.zero,i.size,i.bytes))=some (some (.slice none 0 0),1,24):=by kernel_rfl
theorem jl.push{w0 w w1:World}{A:Value}{ls:List LabL}(h:jl w0 w A ls)(hu:Upd [] w w1){l:LabL}{q n c:Nat}(hv:aP w w1 56 2 l.length (.slice (some ⟨q,0,none⟩) n c) (aV l))(h0:w0.heap.size≤w.heap.size)(hn:ls.length<1000):
 ∃D F,Hid ((Builtin.append_ #[22,22] 22 #[A,.slice (some ⟨w1.heap.size,0,none⟩) 1 1]).run prog (w1.alloc (.cells #[.slice (some ⟨q,0,none⟩) n c] 27 (0,0)))=.ok D F)∧Hid (jl w0 F D (ls++[l]))∧Hid (Upd A.ownBlock.toList w1 F)∧Hid (∀b,D.ownBlock=some b→A.ownBlock=some b∨w1.heap.size≤b):=by
 obtain⟨vs,h1,h2⟩:=h;have V:=h1.upd hu (by simp);obtain⟨i0,W,ad,a0,a1⟩:=info_parts Tryz.info27;have a2:Upd [] w1 (w1.alloc (.cells #[.slice (some ⟨q,0,none⟩) n c] 27 (0,0))):=(ae _).alloc _;have hs:=hu.size;obtain⟨v',F,G,G3,G4,d⟩:=jH (P:=prog) 22 27 i0 (.slice none 0 0) 1 24 underlying22 W ad a0 a1 rfl (by decide) V a2 [.slice (some ⟨q,0,none⟩) n c] rfl (by simp[Value.oneCell']) w1.heap.size 27 (an _) (by omega) (by unfold maxLen;omega) (by omega);refine⟨v',F,G,aa ⟨vs++[.slice (some ⟨q,0,none⟩) n c],by rw[ab];exact G3.o,fun i W=>?_⟩,G4,d⟩;have hL:∀b∈A.ownBlock.toList,A.ownBlock=some b:=fun b hb=>by simpa using hb
 have a3:vs.length=ls.length:=by have:=h1.1.1;omega
 have a5:=hv.2 q rfl;have a6:=hv.lt q rfl;have z:∀b,A.ownBlock=some b→b<w.heap.size:=fun b hb=>h1.lt b hb;by_cases O:i<ls.length
 ·obtain⟨v,h3,h4,h5⟩:=h2 i O;refine⟨v,by rw[bH (by omega)];exact h3,?_,fun b hb e=>?_⟩
  ·rw[gp O];exact(h4.upd hu (by simp)).upd G4.o (fun b hb e=>h5 b e (hL b hb))
  ·have G9:=h4.lt b hb;rcases d.o b e with U|U
   ·exact h5 b hb U
   ·omega
 ·have a4:i=ls.length:=by simp only[ab,aj,ar]at W;omega
  subst a4;refine⟨.slice (some ⟨q,0,none⟩) n c,by rw[bC (by omega),a3];simp,?_,fun b hb e=>?_⟩
  ·rw[List.getElem_append_right (aw _)];simp only[iN,dU];exact(hv.old h0).upd G4.o (fun b hb e=>by simp only[Value.ownBlock,aM]at e;have:=z b (hL b hb);omega)
  ·simp only[Value.ownBlock,aM]at hb;rcases d.o b e with U|U
   ·have:=z b U;omega
   ·omega
end Go.Proofs.YtlgefdfflmgocaaGreatDoor
