import Derived.Test.YtlgefdfflmgocaaGreatDoorQ22
set_option linter.all false
set_option maxRecDepth 100000
set_option maxHeartbeats 4000000
namespace Go.Proofs.YtlgefdfflmgocaaGreatDoor
open Go Go.RowKit Xc Go.Proofs.Tryz
theorem xp(p:Nat)(r:Option Nat)(l:List (ByteArray×ByteArray))(out:ByteArray)(w:World)(h:SB w p r l out):
 Calls prog 134 #[.pointer (some ⟨p,0,none⟩)] w fun e w'=>e=.returned (.tuple #[])∧SB w' p r [] ⟨#[]⟩∧Upd [p] w w':=by
 obtain⟨v,ob,hb,A,hr⟩:=h.blk;have G5:=h.ne;have key:∀v0,w.ownsRow 0 253 2 v0 0 []→v0.ownBlock=r→∀w1,Upd [] (w.setCell ⟨p,0,none⟩ v0) w1→SB (w1.setCell ⟨p,1,none⟩ (.string ⟨#[]⟩)) p r [] ⟨#[]⟩∧Upd [p] w (w1.setCell ⟨p,1,none⟩ (.string ⟨#[]⟩)):=by intro v0 W D w1 hu;have F:Upd [p] w (w.setCell ⟨p,0,none⟩ v0):=((ae w).mono (by simp)).setCell (by simp) _;have d:=F.then hu (M:=[]) (by simp);have hb1:=hu.blk (au hb 0 v0) (by simp);have z:Upd [p] w1 (w1.setCell ⟨p,1,none⟩ (.string ⟨#[]⟩)):=((ae w1).mono (by simp)).setCell (by simp) _;refine⟨⟨⟨v0,ob,au hb1 1 _,?_,D⟩,G5⟩,d.then z (fun i hi _=>hi)⟩;exact z.row (d.row W (by rw[D];intro k G;simp;intro e;subst e;exact G5 G)) (by rw[D];intro k G;simp;intro e;subst e;exact G5 G)
 have f0:=ao hb 0;have ad:=lt_of_block hb;rcases A.2 with⟨rfl,_⟩|⟨k,cap,cur,rfl,a1,a2,a3,a4,a5,a6⟩
 ·have c0:w.cell? ⟨p,0,none⟩=some (.slice none 0 0):=by rw[af hb];rfl
  have O:=aa (key _ (iq _ _ _ _) hr);have U:=aa hb;clear key A;go_enter func134,ntmps134
  go_wp2_with (go_at_call 186;refine(oB _).mono ?_;rintro e w1 ⟨rfl,hu⟩;have hb1:=hu.blk (au U.o 0 (.slice none 0 0)) (by simp);have c1:=af hb1 1;have f1:=ao hb1 1;have V:=aa hu;clear hu hb1);go_end0
  exact⟨rfl,O.o _ V.o⟩
 ·have c0:w.cell? ⟨p,0,none⟩=some (.slice (some ⟨k,0,none⟩) l.length cap):=by rw[af hb];rfl
  have O:=aa (key (.slice (some ⟨k,0,none⟩) 0 cap) ⟨rfl,.inr ⟨k,cap,cur,rfl,a1,a2,ay _,a4,a5,by simp⟩⟩ hr);have U:=aa hb;clear key A;go_enter func134,ntmps134
  go_wp2_with (go_at_call 186;refine(oB _).mono ?_;rintro e w1 ⟨rfl,hu⟩;have hb1:=hu.blk (au U.o 0 (.slice (some ⟨k,0,none⟩) 0 cap)) (by simp);have c1:=af hb1 1;have f1:=ao hb1 1;have V:=aa hu;clear hu hb1);go_end0
  exact⟨rfl,O.o _ V.o⟩
theorem Tryz.infoLabel:(Tryz.prog.info? 253).map (fun i=>(i.zero,i.size,i.bytes))=some (some (.agg #[.string ⟨#[]⟩,.string ⟨#[]⟩]),2,32):=by kernel_rfl
theorem qU(l:List (ByteArray×ByteArray))(x:ByteArray×ByteArray):aV (l++[x])=aV l++[.string x.1,.string x.2]:=by simp[aV]
theorem vA(w:World)(a b:Value)(T:TypeId):∀j u,[a,b][j]? =some u→(w.alloc (.cells #[a,b] T (0,0))).cell? ((⟨w.heap.size,0,none⟩:Addr).add j)=some u:=by
 intro j u h;have hn:(w.alloc (.cells #[a,b] T (0,0))).heap[w.heap.size]? =_:=an _;have e:((⟨w.heap.size,0,none⟩:Addr).add j)=⟨w.heap.size,j,none⟩:=by
  unfold Addr.add;split
  ·subst_vars;rfl
  ·simp
 rw[e,af hn];simpa using h
theorem FB(p:Nat)(r:Option Nat)(l:List (ByteArray×ByteArray))(out a b:ByteArray)(w:World)(h:SB w p r l out)(hl:l.length<1000000):
 Calls prog 188 #[.pointer (some ⟨p,0,none⟩),.string a,.string b] w fun e w'=>e=.returned (.tuple #[])∧∃r',SB w' p r' (l++[(a,b)]) out∧Upd (p::r.toList) w w'∧(r'=r∨∃k,r'=some k∧w.heap.size≤k):=by
 obtain⟨v,ob,hb,ho,hr⟩:=h.blk;have G5:=h.ne;obtain⟨i0,G,O,U,V⟩:=info_parts Tryz.infoLabel;have c0:w.cell? ⟨p,0,none⟩=some v:=by rw[af hb];rfl
 have f0:=ao hb 0;have a0:=lt_of_block hb;have Hb:=aa hb;clear hb h;go_enter func188,ntmps188
 go_wp2_with (at_builtin;refine iD _ rfl _ _ 186 rfl 253 i0 (.agg #[.string ⟨#[]⟩,.string ⟨#[]⟩]) 2 32 underlying186 G O U V rfl (by decide) v l.length (aV l) rfl (ho.alloc _) ⟨w.heap.size,0,none⟩ 1 1 [.string a,.string b] rfl rfl ?c1 ?c2 ?c3 ?c4 ?c5 ?_);case c1=>exact vA _ _ _ _
 case c2=>simp[Value.oneCell']
 case c3=>unfold maxLen;omega
 case c4=>omega
 case c5=>omega
 intro g' cap' w1 d hu z;have W:p∉r.toList:=by intro hm;exact G5 (by simpa using hm)
 have hU:Upd r.toList w w1:=(((ae w).alloc _).mono (M:=r.toList) (by simp)).then hu (fun i G _=>G);have hb1:=hU.blk Hb.o W;have c1:w1.cell? ⟨p,0,none⟩=some v:=by rw[af hb1];rfl
 have f1:=ao hb1 0;have ad:=aa hb1;have HU:=aa hU;have A:=aa d;clear c0 f0 hb1 hU hu d ho;go_wp2_with fail;go_end0
 have D:g'≠p:=by
  rcases z with e|e
  ·intro e2;subst e2;exact G5 e
  ·first|omega|(simp at e;omega)
 have F:Upd [p] w1 (w1.setCell ⟨p,0,none⟩ (.slice (some ⟨g',0,none⟩) (l.length+1) cap')):=((ae w1).mono (by simp)).setCell (by simp) _;refine⟨rfl,some g',⟨⟨_,ob,au ad.o 0 _,?_,rfl⟩,by simpa using D⟩,?_,?_⟩
 ·rw[qU,ab];exact F.row A.o (fun k hk=>by simp[Value.ownBlock]at hk;subst hk;simpa using D)
 ·exact(HU.o.mono (M:=p::r.toList) (by intro x hx;simp only[ah];exact .inr hx)).then F (by simp)
 ·rcases z with e|e
  ·exact .inl e.symm
  ·exact .inr ⟨g',rfl,by first|omega|(simp at e;omega)⟩
theorem iu:∀(l:List (ByteArray×ByteArray)) (j:Nat) (h:j<l.length),(aV l)[2*j]? =some (.string l[j].1)∧(aV l)[2*j+1]? =some (.string l[j].2)
 |x::l,0,_=>⟨rfl,rfl⟩
 |x::l,j+1,h=>by have d:=iu l j (by simpa using h);have e:aV (x::l)=.string x.1::.string x.2::aV l:=rfl;rw[e,show 2*(j+1)=(2*j)+1+1 by omega];simpa using d
theorem th{w:World}{k n cap:Nat}{l:List (ByteArray×ByteArray)}(h:w.ownsRow 0 253 2 (.slice (some ⟨k,0,none⟩) n cap) n (aV l)):fS w k 0 l:=by
 intro j A;have d:=iu l j A;have D:∀m,((⟨k,0,none⟩:Addr).add m)=⟨k,m,none⟩:=by
  intro m;unfold Addr.add;split
  ·subst_vars;rfl
  ·simp
 have z:=h.cells (g:=k) rfl (2*j) _ d.1;have h1:=h.cells (g:=k) rfl (2*j+1) _ d.2;rw[D]at z h1;exact⟨by rw[aK];exact z,by rw[aK];exact h1⟩
theorem A3(p:Nat)(r:Option Nat)(l:List (ByteArray×ByteArray))(w:World)(h:SB w p r l ⟨#[]⟩)(bE:l≠[])(hl:l.length<1000000)(hs:jw l)(hT:(aL (aD l)).length<1000000):
 Calls prog 72 #[.pointer (some ⟨p,0,none⟩)] w fun e w'=>e=.returned (.agg #[.string (str (aL (aD l)))])∧SB w' p r l (str (aL (aD l)))∧Upd [p] w w':=by
 obtain⟨v,ob,hb,ho,hr⟩:=h.blk;have G5:=h.ne;have hlp:=List.length_pos_iff.2 bE;obtain⟨k,cap,rfl⟩:∃k cap,v=.slice (some ⟨k,0,none⟩) l.length cap:=by
  rcases ho.2 with⟨_,h5⟩|⟨k,cap,cur,e,_⟩
  ·omega
  ·exact⟨k,cap,e⟩
 obtain rfl:r=some k:=hr.symm;have a2:k≠p:=fun e=>G5 (by rw[e]);have ct:k<w.heap.size:=(ho.lt k rfl).2;have a3:Upd [] w (w.alloc (.cells #[.string ⟨#[]⟩] 135 (0,0))):=(ae w).alloc _;have a4:(w.alloc (.cells #[.string ⟨#[]⟩] 135 (0,0))).heap[w.heap.size]? =some (.cells #[.string ⟨#[]⟩] 135 (0,0)):=an _;have bK:=lt_of_block hb;have ad:(w.alloc (.cells #[.string ⟨#[]⟩] 135 (0,0))).heap[p]? =_:=(eB _ bK).trans hb;have Ho:=aa ho;have HS:=aa hs;have HT:=aa hT;clear hb ho hr hs hT h G5;obtain⟨T,D⟩:∃T,T=(aL (aD l)).length:=⟨_,rfl⟩;have cA:T<1000000:=by rw[D];exact HT.o
 have a5:=aa D;have a6:∀w',fS w' k 0 l→Calls prog 138 #[.slice (some ⟨k,0,none⟩) l.length cap] w' fun e bL=>e=.returned (.int .i64 T)∧Upd [] w' bL:=fun w' h=>by rw[D];exact pV k 0 cap l w' h (fun p hm=>⟨(HS.o p hm).2.1,(HS.o p hm).2.2.2⟩) hl
 have bM:=aa a6;obtain⟨i0,hi,bO,bR,bS⟩:=info_parts Tryz.info5;clear a6 D;go_enter func72,ntmps72
 have c1:=af ad 1;have bW:=aa a3;have b5:=aa a4;have b6:=aa ad;clear a3 a4 ad
 go_wp2_with (first
  |(go_at_call 98;refine(Br _ _).mono ?_;rintro e w1 ⟨rfl,F⟩;have hb1:=F.blk b6.o (by simp);have b7:=af hb1 0;have b8:=aa hb1;have a7:=aa (F.blk b5.o (by simp));have a0:=aa (bW.o.then F (by simp));clear F c1 hb1)
  |(go_at_call 138;refine(bM.o _ (th (a0.o.row Ho.o (by simp)))).mono ?_;rintro e w2 ⟨rfl,a9⟩;have d:=aa a9;clear a9 b7)
  |(at_make;refine wpList_make_full _ rfl _ _ 65 rfl 0 5 i0 (.int .u8 0) 1 underlying65 hi bO bR .i64 .i64 T T T rfl rfl rfl rfl ?b2 ?b3 ?b4 ?_))
 case b2=>rw[bS];omega
 case b3=>unfold maxLen;omega
 case b4=>omega
 intro w3 z bb;obtain⟨g,hg⟩:∃g,g=w2.heap.size:=⟨_,rfl⟩;rw[←hg]at z⊢;have G:Upd [] w2 w3:=(ae w2).grown bb (by simp);have bd:=mR (B:=0) z;have A:Upd [] w w3:=(a0.o.then d.o (by simp)).then G (by simp);have cB:w.heap.size≤g:=by have:=(a0.o.then d.o (by simp)).size;omega
 have G3:=Ho.o;have Ii:=mr k 0 cap g T T l (List.replicate T 0) w3 (th (A.row Ho.o (by simp))) HS.o (by omega) (by omega) a5.o (by simp) bd (aw _) (by omega);have b9:=aa Ii;have be:=aa A;have a1:=(d.o.then G (by simp)).blk b8.o (by simp);have bg:=(d.o.then G (by simp)).blk a7.o (by simp);have cD:w.heap.size<g:=by have:=d.o.size;have:=lt_of_block a7.o;omega
 have ca:=af a1 0;have bl:=aa a1;have cc:=aa bg;clear Ii G bd z bb A G3 a1 bg hg;go_wp2_with fail;refine b9.o.mono ?_;rintro e w4 ⟨rfl,bn,O⟩;have U:=O.blk bl.o (by simp;omega);have V:=O.blk cc.o (by simp;omega);have d0:=af U 1;have d1:=ao U 1;have d2:=af V 0;have d3:=ao V 0;have br:p≠w.heap.size:=by omega
 have hY:=Bj g _ (aL (aD l)) w4 (lK bn a5.o (aw _));have HY:=aa hY;have cg:=aa O;have ck:=aa U;have cn:=aa V;clear bn O U V hY ca;go_wp2_with (go_at_call 140;refine HY.o.mono ?_;rintro e w5 ⟨rfl,rfl⟩);have bv:Upd [p] w4 (w4.setCell ⟨p,1,none⟩ (.string (str (aL (aD l))))):=((ae w4).mono (by simp)).setCell (by simp) _;have bw:Upd [w.heap.size] (w4.setCell ⟨p,1,none⟩ (.string (str (aL (aD l))))) ((w4.setCell ⟨p,1,none⟩ (.string (str (aL (aD l))))).setCell ⟨w.heap.size,0,none⟩ (.string (str (aL (aD l))))):=((ae _).mono (by simp)).setCell (by simp) _;have cp:=bv.blk cn.o (by simpa using aF br);have cs:=bw.blk (au ck.o 1 (.string (str (aL (aD l))))) (by simpa using br);have bA:Upd [] w w4:=be.o.then cg.o (by intro i hi hl;simp at hi;omega);have bB:=(bA.mono (M:=[p]) (by simp)).then bv (fun i hi _=>hi);have W:=bB.then bw (by intro i hi hl;simp at hi;omega);refine bodyPost_ret (results_cell_row rfl _ _ w.heap.size 135 _ (0,0) _ rfl (au cp 0 _) underlying135 rfl Tryz.sizeLabels) rfl ?_;exact⟨rfl,⟨⟨_,ob,cs,W.row Ho.o (by intro q hq;simp[Value.ownBlock]at hq;subst hq;simpa using a2),rfl⟩,by simpa using a2⟩,W⟩
section
attribute [local go_sem ↓] Go.wp_at_zero Go.wp_at_succ
variable {w:World}
theorem mo(l:List (ByteArray×ByteArray))(j:Nat)(h:j<l.length):aV (l.take (j+1))=aV (l.take j)++[.string l[j].1,.string l[j].2]:=by rw[ax h,aV,aU];rfl
theorem Fs(q o cap:Nat)(l:List (ByteArray×ByteArray))(hr:fS w q o l)(hq:q<w.heap.size)(hl:l.length<1000):
 Calls prog 111 #[.slice (some ⟨q,o,none⟩) l.length cap] w fun e w'=>∃v,e=.returned v∧aP w w' 253 2 l.length v (aV l)∧Upd [] w w':=by
 obtain⟨i0,hi,G,O,U⟩:=info_parts Tryz.infoLabel;have W:=aa hr;obtain⟨M,hM⟩:∃M,M=l.length:=⟨_,rfl⟩;have HM:=aa hM;rw[←hM];have ad:M<1000:=by omega
 clear hr hM hl;go_enter func111,ntmps111
 go_wp2_with fail;go_loopw [3,8] (fun v c wr=>∃j:Nat,j≤M∧c=.int .i64 j∧aP w wr 253 2 j v (aV (l.take j))∧Upd [] w wr) (fun _ c _=>M-(intOf c).toNat)
 case atStart=>exact⟨0,ay _,rfl,by rw[fd];exact er,ae _⟩
 case round=>
  obtain⟨j,hj,rfl,hV,hU⟩:=hrel;have F:=aa hV;have z:=aa hU;clear hV hU;by_cases a0:j<M
  ·have d:j<l.length:=by have:=HM.o;omega
   have r1:=z.o.cell (by simp) (W.o j d).1;have r2:=z.o.cell (by simp) (W.o j d).2;have HP:=aa (mo l j d);obtain⟨a,V⟩:∃a,a=l[j]:=⟨_,rfl⟩;rw[←V,iM 2 j]at r1 r2;rw[←V]at HP;clear V;have a1:q<wr.heap.size:=by have:=z.o.size;omega
   have A:Upd [] wr ((wr.alloc (.cells #[.string a.1,.string a.2] 56 (0,0))).alloc (.cells #[.string a.1,.string a.2] 253 (0,0))):=((ae _).alloc _).alloc _;have he:((wr.alloc (.cells #[.string a.1,.string a.2] 56 (0,0))).alloc (.cells #[.string a.1,.string a.2] 253 (0,0))).heap[wr.heap.size+1]? =some (.cells #[.string a.1,.string a.2] 253 (0,0)):=by have:=an (w:=wr.alloc (.cells #[.string a.1,.string a.2] 56 (0,0))) (.cells #[.string a.1,.string a.2] 253 (0,0));rwa [aJ]at this
   obtain⟨v',w2,D,G3,G4,_⟩:=jH (P:=prog) 186 253 i0 _ 2 32 underlying186 hi G O U rfl (by decide) F.o A [.string a.1,.string a.2] rfl (by simp[Value.oneCell']) _ _ he z.o.size (by unfold maxLen;omega) (by omega);clear A he;go_wp2_with (at_builtin;refine bc rfl _ _ _ rfl _ _ _ _ rfl rfl D.o ?_);refine⟨⟨j+1,by omega,by go_num,?_,z.o.then G4.o (fun b hb hl=>?_)⟩,by simp only[intOf];omega⟩
   ·rw[HP.o];exact G3.o
   ·have:=F.o.2 b (by simpa using hb);omega
  ·obtain rfl:j=M:=by omega
   have he:l.take j=l:=by rw[HM.o,aS]
   rw[he]at F;go_wp2_with fail;go_ret;exact⟨_,rfl,F.o,z.o⟩
theorem made(q o cap:Nat)(l:List (ByteArray×ByteArray))(hr:fS w q o l)(hq:q<w.heap.size)(G5:l≠[])(ad:l.length≤12)(hs:jw l)(hT:(aL (aD l)).length<1000000):
 Calls prog 50 #[.slice (some ⟨q,o,none⟩) l.length cap] w fun e w'=>
  ∃G,e=.returned (.agg #[.string (str (aL (aD G)))])∧G.Perm l∧G.Pairwise (fun x y=>¬sb y.1<sb x.1)∧Upd [] w w':=by
 obtain⟨X,hX⟩:∃X,X=w.heap.size:=⟨_,rfl⟩;have z:Upd [] w (w.alloc (.cells #[.string ⟨#[]⟩] 135 (0,0))):=(ae w).alloc _;have O:(w.alloc (.cells #[.string ⟨#[]⟩] 135 (0,0))).heap[w.heap.size]? =some (.cells #[.string ⟨#[]⟩] 135 (0,0)):=an _;have U:q<(w.alloc (.cells #[.string ⟨#[]⟩] 135 (0,0))).heap.size:=by simp;omega
 have hC:=Fs q o cap l (hr.upd z (by simp)) U (by omega);have HC:=aa hC;have a0:=aa z;have a1:=aa O;have HS:=aa (And.intro hs (And.intro hT G5));clear hC z O U hr hs hT G5;go_enter func50,ntmps50
 go_wp2_with fail;refine HC.o.mono ?_;rintro e w1 ⟨v,rfl,hV,A⟩;obtain⟨g,gc,rfl,D,V⟩:∃g cap,v=.slice (some ⟨g,0,none⟩) l.length cap∧_∧_:=by
  rcases hV.shape with⟨_,h0,_⟩|h
  ·exact absurd (List.length_eq_zero_iff.1 h0) HS.o.2.2
  ·exact h
 have hN:=D7 g 0 gc l w1 (th hV.1) (fun j _=>by rw[aK];exact hV.free j) V ad HS.o.1 HS.o.2.1;have HN:=aa hN;have a2:=aa (a0.o.then A (by simp));have a3:=aa (A.blk a1.o (by simp));have a4:g≠w.heap.size:=by simp only[aJ]at D;omega
 have bd:w.heap.size≤g:=by simp only[aJ]at D;omega
 clear hN hV A D V;go_wp2_with fail;refine HN.o.mono ?_;rintro e w2 ⟨G,rfl,hp,W,a5,F⟩;have d:=F.blk a3.o (by simpa using aF a4);have c4:=af d 0;have f4:=ao d 0;have a6:=aa d;have Hp:=aa (And.intro hp W);have a7:=aa F;clear d hp W a5 F;go_wp2_with fail;refine bodyPost_ret (results_cell_row rfl _ _ w.heap.size 135 _ (0,0) _ rfl (au a6.o 0 _) underlying135 rfl Tryz.sizeLabels) rfl ?_;have a9:Upd [] w w2:=a2.o.then a7.o (by intro i hi hl;simp at hi;omega);have bb:Upd [w.heap.size] w2 (w2.setCell ⟨w.heap.size,0,none⟩ (.string (str (aL (aD G))))):=((ae w2).mono (by simp)).setCell (by simp) _;exact⟨G,rfl,Hp.o.1,Hp.o.2,a9.then bb (by intro i hi hl;simp at hi;omega)⟩
end
section
attribute [local go_sem ↓] Go.wp_at_zero Go.wp_at_succ
variable {w:World} {k:WK} {r:WR} {s:WS}
def bJ(l:List Bytes):List (ByteArray×Nat):=l.zipIdx.map fun x=>(str x.1,x.2)
theorem uP(l:List Bytes)(x:Bytes):bJ (l++[x])=bJ l++[(str x,l.length)]:=by simp[bJ,List.zipIdx_append]
theorem oQ(l:List Bytes):(bJ l).map (·.1)=l.map str:=by have h:=congrArg (List.map str) (List.zipIdx_map_fst 0 l);rw[bT]at h;rw[bJ,bT];exact h
theorem pf{a b:Bytes}(h:str a=str b):a=b:=by rw[←dG a,h,dG]
theorem oJ{l:List Bytes}(hn:l.Nodup){j:Nat}{x:Bytes}(h:l[j]? =some x):aT (str x) (bJ l)=some j:=by
 refine lH ?_ ?_
 ·rw[oQ];exact List.Pairwise.map str (fun a b h e=>h (pf e)) hn
 ·exact List.mem_map.2 ⟨(x,j),by rw[List.mem_zipIdx_iff_getElem?];exact h,rfl⟩
def jV(k:WK)(l:List Bytes)(b1:Bytes):WS:=
 {ws0 k with bF:=if l=[]then dE else dE++(eP++bj l),b1:=b1,t0:=if l=[]then 0 else 5,stage:=if l=[]then 0 else 1,nsym:=l.length,cache:=eW .u32 (bJ l),lastSym:=(l.getLast?.map str).getD ⟨#[]⟩}
theorem yq(q:IntKind)(l:List (ByteArray×Nat))(x:ByteArray×Nat):eW q (l++[x])=eW q l++[(x.1,.int q (x.2:Nat))]:=by simp[eW]
theorem wH{l:List Bytes}{x:Bytes}(h:x∉l):cf (str x) (.int .u32 (l.length:Nat)) (eW .u32 (bJ l))=eW .u32 (bJ (l++[x])):=by
 rw[fu,uP,yq];rw[oi];have e:(eW .u32 (bJ l)).map (·.1)=l.map str:=by rw[eW,bT,←oQ];rfl
 rw[e];intro hm;obtain⟨y,d,he⟩:=List.mem_map.1 hm;exact h (by rw[←pf he];exact d)
theorem tQ(l:List Bytes)(x:Bytes):bj (l++[x])=bj l++ed x:=by simp[bj]
theorem CL(l:List Bytes)(x b1:Bytes)(h:WI w k r (jV k l b1))(hs:(l++[x]).Pairwise (· <·))(G:x.length<1000)(hl:l.length<1000)(hb:(bj l).length<900000):
 Calls prog 48 #[ptr k.W 0,.string (str x)] w fun e w'=>e=.returned .nilIface∧WP w k r 0 (jV k (l++[x]) (ed x)) w':=by
 have z:x∉l:=fun hm=>cT x (List.pairwise_append.1 hs|>.2.2 x hm x (by simp));have G5:l++[x]≠[]:=by simp
 by_cases e:l=[]
 ·subst e;have h1:=A7 0 h rfl (ay _) (by show dE.length<_;rw[bq];decide);refine(ri 0 (str x) _ h h1 (.inl rfl) (by rw[fx];omega) (by show(0:Nat)<_;decide) (ay _) (by show(dE++eP).length<_;rw[ab,bq];decide)).mono ?_;rintro e w' ⟨rfl,r',hI,hT⟩;refine⟨rfl,r',hI.cast ?_,hT⟩;simp only[symS,jV,dG];simp[bj,bJ,eW,ws0,cf,bq]
 ·have h1:Calls prog 91 #[ptr k.W 0,.int .u8 1] w fun e w'=>e=.returned .nilIface∧WP w k r 0 (jV k l b1) w':=by refine(rT 1 h (by simp[jV,e])).mono ?_;rintro e w' ⟨rfl,rfl⟩;exact⟨rfl,r,h,gZ⟩
  obtain⟨y,D⟩:∃y,l.getLast?=some y:=⟨_,gT e⟩;have d:(jV k l b1).lastSym=str y:=by simp[jV,D]
  have A:y<x:=List.pairwise_append.1 hs|>.2.2 y (List.mem_of_getLast? D) x (by simp);refine(ri 0 (str x) _ h h1 (.inr (by rw[d,dG,dG];exact A)) (by rw[fx];omega) (by show l.length<_;omega) (ay _) (by simp[jV,e,bq,eP];omega)).mono ?_;rintro e w' ⟨rfl,r',hI,hT⟩;refine⟨rfl,r',hI.cast ?_,hT⟩;have F:=wH z;simp only[symS,jV,dG,F,if_neg G5];simp[e,tQ]
structure BC(k:WK)(syms:List Bytes)(G1:fO)(ln:List (ByteArray×Nat))(la:ByteArray)(j S Z:Nat)(s:WS):Prop where
 F:s.bF=cC (ch syms) G1
 stage:s.stage=2
 t0:s.t0=5
 t1:s.t1=(ch syms).length
 cache:s.cache=eW .u32 (bJ syms)
 names:s.names=eW .u64 ln
 lastS:s.lastSer=la
 lastR:s.lastRef=j
 lastC:s.lastChunk=0
 zero:s.bP=[]∧s.bPO=[]∧s.cnt=0∧s.li=[]
 symv:s.symV=ptr S 0
 sfv:s.sfV=ptr Z 0
 pP:s.pP=ptr k.FP 0
 pPO:s.pPO=ptr k.FPO 0
def jW(d:Nat)(w:World)(k:WK)(r:WR)(s:WS)(syms:List Bytes)(G1:fO)(ln:List (ByteArray×Nat))(la:ByteArray)(j:Nat):Prop:=
 (j=0∧G1=[]∧ln=[]∧la=⟨#[]⟩∧∃b1,s=jV k syms b1)∨∃S g2 N2 G6 rr Z,BC k syms G1 ln la j S Z s∧lw w k r S g2 N2 G6 rr (ch syms) 5 syms∧(d≤S∧d≤g2∧∀q,rr=some q→d≤q)
def dC(syms:List Bytes)(l:List (Bytes×Bytes)):List (Nat×Nat):=l.map fun p=>(cj (bJ syms) p.1,cj (bJ syms) p.2)
theorem fm{syms:List Bytes}(hn:syms.Nodup){x:Bytes}(h:x∈syms):aT (str x) (bJ syms)=some (cj (bJ syms) x)∧cj (bJ syms) x<syms.length∧syms[cj (bJ syms) x]? =some x:=by
 obtain⟨j,d,rfl⟩:=aQ h;have h1:=oJ hn (az d);have e:cj (bJ syms) syms[j]=j:=by rw[cj,h1];rfl
 rw[e];exact⟨h1,d,az d⟩
theorem uJ(F:Bytes)(l:fO)(x:List (Nat×Nat)×Bytes):cC F (l++[x])=rg (cC F l) (cq x.1 x.2):=by simp[cC]
theorem ox(F:Bytes)(l:fO):F.length≤(cC F l).length:=by rw[iS,ab];omega
theorem CI(syms:List Bytes)(G1:fO)(ln:List (ByteArray×Nat))(la a:ByteArray)(j:Nat)(l:List (Bytes×Bytes))(h:WI w k r s)(A:Nat)(F:A≤w.heap.size∧∀i b:Nat,(wl k r)[i]? =some (some b)→A≤b)(G:jW A w k r s syms G1 ln la j)
 (z:syms≠[]∧syms.Pairwise (· <·)∧syms.length<65536∧(∀x∈syms,x.length<1000)∧(bj syms).length<900000)(hF:(cC (ch syms) G1).length<900000)(hl:gQ a l)(O:l.length<1000)(hm:∀p∈l,p.1∈syms∧p.2∈syms)
 (D:∀w0,Calls prog 97 #[.agg #[.string a],.agg #[.string la]] w0 fun e w'=>∃m:Int,0<m∧e=.returned (.int .i64 m)∧Upd [] w0 w')(hln:∀x,(aT x ln).getD 0<900000):
 Calls prog 49 #[ptr k.W 0,.int .u64 (j+1:Nat),.agg #[.string a],.slice none 0 0] w fun e w'=>e=.returned .nilIface∧
  ∃s' r',WI w' k r' s'∧WT w k r 0 w' r'∧jW A w' k r' s' syms (G1++[(dC syms l,[0])]) (incAll (l.map fun p=>str p.1) ln) a (j+1):=by
 have hnd:syms.Nodup:=List.Pairwise.imp (S:=(· ≠·)) (fun{a b} h e=>cT a (by rw[←e]at h;exact h)) z.2.1;have U:=ox (ch syms) G1
 refine(uZ (ch syms).length (j+1) a l (dC syms l) (bJ syms) ln la j
  (fun w1 r1 s1=>WT w k r 0 w1 r1∧∃S g2 N2 G6 rr Z,BC k syms G1 ln la j S Z s1∧lw w1 k r1 S g2 N2 G6 rr (ch syms) 5 syms∧(A≤S∧A≤g2∧∀q,rr=some q→A≤q)) h ?_ D hl (by simp[dC]) O ?_ ?_ hln (by omega)).mono ?_
 ·intro w0 hu;rcases G with⟨rfl,rfl,rfl,rfl,b1,rfl⟩|⟨S,g2,N2,G6,rr,Z,d,hR,hN⟩
  ·refine(EE syms (h.new hu) (by simp[jV,z.1]) (by simp[jV,z.1]) (by simp[jV,z.1]) rfl z.2.2.1 (fun x hx=>by have:=z.2.2.2.1 x hx;omega) (by simp[jV,z.1,bq,eP];omega)).mono ?_;rintro e w1 ⟨rfl,S,g,N,cap,rr,Z,ad,r',hI,hT,hR,hN⟩;refine⟨rfl,_,r',⟨rfl,rfl,rfl,rfl,?_,aw _,rfl⟩,hI,hT.mono (ay _),ak h (dN h hu) (hT.mono (ay _)),S,g,N,cap,rr,Z,⟨rfl,rfl,by simp[jV,z.1],rfl,rfl,rfl,rfl,rfl,rfl,⟨rfl,rfl,rfl,rfl⟩,rfl,rfl,rfl,rfl⟩,hR,?_⟩;rotate_left
   ·have hs:=hu.size;refine⟨by have:=hN.1;omega,?_,fun q hq=>by have:=hN.2.1 q hq;omega⟩;rcases hN.2.2 with h1|h1
    ·exact F.2 8 g h1
    ·omega
   show(ch syms).length<_;omega
  ·refine(rT 2 (h.new hu) d.stage).mono ?_;rintro e w1 ⟨rfl,rfl⟩;refine⟨rfl,s,r,⟨d.cache,d.names,d.lastS,d.lastR.symm,by rw[d.F];omega,by rw[d.F];exact U,d.lastC⟩,h.new hu,gZ,dN h hu,S,g2,N2,G6,rr,Z,d,hR.next h (dN (n:=(ch syms).length) h hu) (aw _),hN⟩
 ·intro i hi;have:=hm _ (aq hi);simp only[dC,de];exact⟨(fm hnd this.1).1,(fm hnd this.2).1⟩
 ·intro p hp;obtain⟨q,hq,rfl⟩:=List.mem_map.1 hp;have:=hm q hq;have h1:=(fm hnd this.1).2.1;have h2:=(fm hnd this.2).2.1;exact⟨by omega,by omega⟩
 ·rintro e w' ⟨rfl,s1,w1,r1,⟨V,S,g2,N2,G6,rr,Z,d,hR,hN⟩,W,b1,b2,c,r',hI,hT⟩;refine⟨rfl,_,r',hI,ak h V (hT.mono (ay _)),.inr ⟨S,g2,N2,G6,rr,Z,⟨?_,d.stage,d.t0,d.t1,d.cache,rfl,rfl,rfl,d.lastC,d.zero,d.symv,d.sfv,d.pP,d.pPO⟩,hR.next W hT (aw _),hN⟩⟩;rw[uJ,d.F]
end
section
attribute [local go_sem ↓] Go.wp_at_zero Go.wp_at_succ
variable {w w0 w':World} {k:WK} {r r':WR} {s:WS}
def Wo(w0:World)(k:WK)(r:WR):Prop:=∀i b:Nat,(wl k r)[i]? =some (some b)→w0.heap.size≤b
theorem Wo.next{n:Nat}(h:Wo w0 k r)(hT:WT w k r n w' r')(hs:w0.heap.size≤w.heap.size):Wo w0 k r':=fun i b e=>by
 rcases hT.newer i b e with h1|h1
 ·exact h i b h1
 ·omega
theorem Wo.upd{n:Nat}{L:List Nat}(h:Wo w0 k r)(hT:WT w k r n w' r')(hu:Upd L w0 w):Upd L w0 w':=
 hu.then hT.upd (fun b hb hl=>by obtain⟨i,_,e⟩:=cu.1 hb;have:=h i b e;omega)
theorem Wo.o(h:Wo w0 k r){b:Nat}(hb:b<w0.heap.size):∀i:Nat,(wl k r)[i]?≠some (some b):=fun i e=>by have:=h i b e;omega
theorem WI.poke(h:WI w k r s)(d:s.li=[]){X:Nat}(hX:∀i:Nat,(wl k r)[i]?≠some (some X))(v:Value):WI (w.setCell ⟨X,0,none⟩ v) k r s:=
 h.other (L:=[X]) (((ae w).mono (by simp)).setCell (by simp) _) (by simp only[ag];rintro b rfl;exact⟨hX,by rw[d];simp⟩)
structure BIn(w wr:World)(A d n:Nat):Prop where
 a:wr.heap[A]? =some (.cells #[.int .i64 (-1)] 3 (0,0))
 t:wr.heap[d]? =some (.cells #[.int .i64 n] 3 (0,0))
 u:Upd [A,d] w wr
theorem BIn.new{A d n:Nat}(h:BIn w0 w A d n)(hu:Upd [] w w'):BIn w0 w' A d n:=⟨hu.blk h.a (by simp),hu.blk h.t (by simp),h.u.then hu (by simp)⟩
theorem BIn.next{A d n m:Nat}(h:BIn w0 w A d n)(z:Wo w0 k r)(hT:WT w k r m w' r')(D:A<w0.heap.size)(F:d<w0.heap.size):BIn w0 w' A d n:=
 ⟨hT.keep h.a (z.o D),hT.keep h.t (z.o F),z.upd hT h.u⟩
theorem BIn.inc{A d n:Nat}(h:BIn w0 w A d n)(G5:A≠d)(m:Nat):BIn w0 (w.setCell ⟨d,0,none⟩ (.int .i64 m)) A d m:=by have hu:Upd [d] w (w.setCell ⟨d,0,none⟩ (.int .i64 m)):=((ae w).mono (by simp)).setCell (by simp) _;exact⟨hu.blk h.a (by simpa using G5),au h.t 0 _,h.u.then hu (by intro b hb _;simp at hb;simp[hb])⟩
def rp(w:World)(b:Option Addr)(l:List Bytes)(L:List Nat):Prop:=∀j (h:j<l.length),∃q,b=some ⟨q,0,none⟩∧q∉L∧w.cell? ⟨q,j,none⟩=some (.string (str l[j]))
def ro(w:World)(b:Option Addr)(ls:List (List (ByteArray×ByteArray)))(L:List Nat):Prop:=∀j (h:j<ls.length),∃q a o cap,b=some ⟨q,0,none⟩∧q∉L∧a∉L∧a<w.heap.size∧fS w a o ls[j]∧
 w.cell? ⟨q,j*3,none⟩=some (.int .u64 (j+1:Nat))∧w.cell? ⟨q,j*3+1,none⟩=some (.slice (some ⟨a,o,none⟩) ls[j].length cap)∧w.cell? ⟨q,j*3+2,none⟩=some (.slice none 0 0)
def dr(syms:List Bytes)(G0:List (List (ByteArray×ByteArray))):fO:=G0.map fun l=>(dC syms (aD l),[0])
def lnL(G0:List (List (ByteArray×ByteArray))):List (ByteArray×Nat):=G0.foldl (fun ln l=>incAll ((aD l).map fun p=>str p.1) ln) []
def pQ(l:List (ByteArray×ByteArray)):ByteArray:=str (aL (aD l))
def laL(G0:List (List (ByteArray×ByteArray))):ByteArray:=(G0.getLast?.map pQ).getD ⟨#[]⟩
theorem uM(syms:List Bytes)(G0:List (List (ByteArray×ByteArray)))(j:Nat)(h:j<G0.length):dr syms (G0.take (j+1))=dr syms (G0.take j)++[(dC syms (aD G0[j]),[0])]∧lnL (G0.take (j+1))=incAll ((aD G0[j]).map fun p=>str p.1) (lnL (G0.take j))∧laL (G0.take (j+1))=pQ G0[j]:=by rw[ax h];refine⟨by simp only[dr,aX,aN,cQ],by simp only[lnL,ff,dg,List.foldl_nil],by simp only[laL,List.getLast?_concat,gh,dq]⟩
structure u9(syms:List Bytes)(ls G0:List (List (ByteArray×ByteArray)))(B:Bytes):Prop where
 sym:syms.Pairwise (· <·)∧syms.length<1000∧(∀x∈syms,x.length<1000)∧(bj syms).length<900000
 len:G0.length=ls.length∧ls.length<1000
 srt:∀j (h:j<ls.length) l',l'.Perm ls[j]→l'.Pairwise (fun x y=>¬sb y.1<sb x.1)→G0[j]? =some l'
 small:∀l∈ls,l≠[]∧l.length≤12∧jw l∧(aL (aD l)).length<1000000
 ok:∀l∈G0,gQ (pQ l) (aD l)∧(aD l).length<1000∧∀p∈aD l,p.1∈syms∧p.2∈syms
 cmp:∀j (h:j<G0.length) w0,Calls prog 97 #[.agg #[.string (pQ G0[j])],.agg #[.string (laL (G0.take j))]] w0 fun e w'=>∃m:Int,0<m∧e=.returned (.int .i64 m)∧Upd [] w0 w'
 cnt:∀j x,(aT x (lnL (G0.take j))).getD 0<900000
 fil:∀j,(cC (ch syms) (dr syms (G0.take j))).length<900000
 ne:G0≠[]→syms≠[]
 bne:B≠[]
 close:∀z w k r s,WI w k r s→jW z w k r s syms (dr syms G0) (lnL G0) (laL G0) G0.length→Calls prog 51 #[ptr k.W 0] w fun e w'=>e=.returned .nilIface∧∃d,d.bF=B∧WP w k r 0 d w'
theorem jW.new{d:Nat}{syms:List Bytes}{G1:fO}{ln:List (ByteArray×Nat)}{la:ByteArray}{j:Nat}(h:jW d w k r s syms G1 ln la j)(hI:WI w k r s)(hu:Upd [] w w'):jW d w' k r s syms G1 ln la j:=by
 rcases h with h|⟨S,g2,N2,G6,rr,Z,h1,z,A⟩
 ·exact .inl h
 ·exact .inr ⟨S,g2,N2,G6,rr,Z,h1,z.next hI (dN (n:=(ch syms).length) hI hu) (aw _),A⟩
theorem jW.poke{z:Nat}{syms:List Bytes}{G1:fO}{ln:List (ByteArray×Nat)}{la:ByteArray}{j:Nat}(h:jW z w k r s syms G1 ln la j){X:Nat}(hX:X<z)(v:Value):jW z (w.setCell ⟨X,0,none⟩ v) k r s syms G1 ln la j:=by
 rcases h with h|⟨S,g2,N2,G6,rr,Z,h1,d,A⟩
 ·exact .inl h
 ·have hu:Upd [X] w (w.setCell ⟨X,0,none⟩ v):=((ae w).mono (by simp)).setCell (by simp) _;exact .inr ⟨S,g2,N2,G6,rr,Z,h1,⟨d.tab.upd hu (by simp;omega) (by simp;omega) (fun q hq=>by have:=A.2.2 q hq;simp;omega),d.oS,d.oR,d.row⟩,A⟩
theorem jW.li{d:Nat}{syms:List Bytes}{G1:fO}{ln:List (ByteArray×Nat)}{la:ByteArray}{j:Nat}(h:jW d w k r s syms G1 ln la j):s.li=[]:=by
 rcases h with⟨_,_,_,_,b,rfl⟩|⟨S,g2,N2,G6,rr,Z,h1,_⟩
 ·rfl
 ·exact h1.zero.2.2.2
theorem DI(A SX W SB BX:Nat)(b1 b2:Option Addr)(m1 c1 m2 c2:Nat)(va vb:Value)(syms:List Bytes)(ls G0:List (List (ByteArray×ByteArray)))(Bt:Bytes)(H:u9 syms ls G0 Bt)
 (hA:w.heap[A]? =some (.cells #[va] 3 (0,0)))(hT:w.heap[W]? =some (.cells #[.int .i64 0] 3 (0,0)))(hB:w.heap[BX]? =some (.cells #[vb] 65 (0,0)))
 (hS:w.heap[SX]? =some (.cells #[.slice b1 m1 c1] 59 (0,0)))(hSB:w.heap[SB]? =some (.cells #[.slice b2 m2 c2] 60 (0,0)))(z:[A,SX,W,SB,BX].Nodup)
 (ca:m1=syms.length)(hm2:m2=ls.length)(h1:rp w b1 syms [A,W,BX])(h2:ro w b2 ls [A,W,BX]):
 Calls prog 46 #[ptr A 0,ptr SX 0,ptr W 0,ptr SB 0,ptr BX 0] w fun e w'=>e=.returned (.tuple #[])∧Upd [A,W,BX] w w'∧w'.heap[A]? =some (.cells #[.int .i64 (-1)] 3 (0,0))∧∃g cap,w'.heap[BX]? =some (.cells #[.slice (some ⟨g,0,none⟩) Bt.length cap] 65 (0,0))∧w.heap.size≤g∧RdG w' (.slice (some ⟨g,0,none⟩) Bt.length cap) g Bt:=by
 have cc:=aa (And.intro h1 h2);have cg:=H.sym;have HM:=aa (And.intro ca (And.intro hm2 cg));have ck:=H.len.2;have V:=aa H;have HA:=aa (And.intro hA (And.intro hT (And.intro hB (And.intro hS hSB))));have Hd:=aa z;have a0:=af hA 0;have fa:=ao hA 0;have ei:m1<1000:=by omega
 have ej:m2<1000:=by omega
 have bE:=lt_of_block hA;have ad:=lt_of_block hT;have el:=lt_of_block hB;have ep:=lt_of_block hS;have eg:=lt_of_block hSB;clear hA hT hB hS hSB z ca hm2 h1 h2 cg ck H;go_enter func46,ntmps46
 go_wp2_with fail;refine(zt _).mono ?_;rintro e w1 ⟨k,rfl,⟨r,hI,ho⟩,cn⟩;have bK:BIn w w1 A W 0:=by have hu:Upd [A] w (w.setCell ⟨A,0,none⟩ (.int .i64 (-1))):=((ae w).mono (by simp)).setCell (by simp) _;have z:=Hd.o;simp only[a8,ah,ai,or_false,not_or]at z;have h0:BIn w (w.setCell ⟨A,0,none⟩ (.int .i64 (-1))) A W 0:=⟨au HA.o.1 0 _,hu.blk HA.o.2.1 (by simp;exact fun e=>z.1.2.1 e.symm),hu.mono (by simp)⟩;exact h0.new cn
 have cp:=aa (show WI w1 k r (jV k [] dE)from hI);have cs:Hid (Wo w k r):=aa (fun i b e=>by simpa[World.setCell]using ho i b e);have ct:=aa bK;have s1:=bK.u.cell (a:=⟨SX,0,none⟩) (by have z:=Hd.o;simp only[a8,ah,ai,or_false,not_or]at z;simp;exact⟨fun e=>z.1.1 e.symm,z.2.1.1⟩) (af HA.o.2.2.2.1 0);have cA:A≠W:=by have z:=Hd.o;simp only[a8,ah,ai,or_false,not_or]at z;exact z.1.2.1
 clear hI ho cn bK a0 fa;go_wp2_with fail;go_loopw [22] (fun c wr=>∃j:Nat,j≤m1∧c=.int .i64 j∧∃r' b,WI wr k r' (jV k (syms.take j) b)∧Wo w k r'∧BIn w wr A W j) (fun c _=>m1-(intOf c).toNat)
 case atStart=>exact⟨0,ay _,rfl,r,dE,cp.o,cs.o,ct.o⟩
 case round=>
  clear cp cs ct s1;obtain⟨j,hj,rfl,r2,bb,hI,ho,hb⟩:=hrel;have a5:=aa hI;have a6:=aa ho;have F:=aa hb;clear hI ho hb;by_cases bL:j<m1
  ·have G:j<syms.length:=by have:=HM.o.1;omega
   obtain⟨q,hq,O,a7⟩:=cc.o.1 j G;subst hq;have hx:=F.o.u.cell (by intro h;exact O (by simp at h⊢;rcases h with h|h<;>simp[h])) a7;obtain⟨x,bl⟩:∃x,x=syms[j]:=⟨_,rfl⟩;rw[←bl]at hx;have bM:syms.take (j+1)=syms.take j++[x]:=by rw[ax G,bl]
   have hlen:(syms.take j).length=j:=by rw[aZ];omega
   have U:=CL (syms.take j) x bb a5.o (by rw[←bM];exact HM.o.2.2.1.sublist (List.take_sublist _ _)) (by rw[bl];exact HM.o.2.2.2.2.1 _ (aq G)) (by rw[hlen];omega) (by
    have e:bj syms=bj (syms.take j)++bj (syms.drop j):=by unfold bj;rw[←aU,aI]
    have h1:=HM.o.2.2.2.2.2;rw[e,ab]at h1;omega)
   rw[←bM]at U;have cB:=aa U;clear a7 O U hlen bM bl;go_wp2_with fail;with_reducible refine cB.o.mono ?_
   rintro e w3 ⟨rfl,r3,hI,hT⟩;have a1:=aa hI;have D:=aa (a6.o.next hT F.o.u.size);have d:=aa (F.o.next a6.o hT bE ad);clear hI hT a5 a6 F cB;have t0:=af d.o.t 0;have ft:=ao d.o.t 0;go_wp2_with fail;have e:((j:Int)+1)=((j+1:Nat):Int):=by omega
   rw[e];exact⟨⟨j+1,by omega,rfl,r3,ed x,a1.o.poke rfl (D.o.o ad) _,D.o,d.o.inc cA _⟩,by simp only[intOf];omega⟩
  ·obtain rfl:m1=j:=by omega
   have he:syms.take m1=syms:=by rw[HM.o.1,aS]
   rw[he]at a5;have s3:=F.o.u.cell (a:=⟨SB,0,none⟩) (by have z:=Hd.o;simp only[a8,ah,ai,or_false,not_or]at z;simp;exact⟨fun e=>z.1.2.2.1 e.symm,fun e=>z.2.2.1.1 e.symm⟩) (af HA.o.2.2.2.2 0);clear he bL hj;go_wp2_with fail;go_loopw [36] (fun c wr=>∃j:Nat,j≤m2∧c=.int .i64 j∧∃r' s',WI wr k r' s'∧Wo w k r'∧BIn w wr A W (m1+j)∧jW w.heap.size wr k r' s' syms (dr syms (G0.take j)) (lnL (G0.take j)) (laL (G0.take j)) j) (fun c _=>m2-(intOf c).toNat)
   case atStart=>exact⟨0,ay _,rfl,r2,_,a5.o,a6.o,F.o,.inl ⟨rfl,rfl,rfl,rfl,bb,rfl⟩⟩
   case round=>
    clear a5 a6 F s3;obtain⟨j,hj,rfl,r3,s',hI,ho,hb,a9⟩:=hrel;have a1:=aa hI;have D:=aa ho;have d:=aa hb;have bO:=aa a9;clear hI ho hb a9;by_cases bL:j<m2
    ·have G:j<ls.length:=by have:=HM.o.2.1;omega
     obtain⟨q,a,o,cap,hq,O,cD,dc,G3,cE,cF,cL⟩:=cc.o.2 j G;subst hq;have bd:∀{b:Nat},b∉[A,W,BX]→b∉[A,W]:=fun{b} h h'=>h (by simp at h'⊢;rcases h' with h'|h'<;>simp[h']);have x0:=d.o.u.cell (bd O) cE;have x1:=d.o.u.cell (bd O) cF;have x2:=d.o.u.cell (bd O) cL;have cM:=aa (G3.upd d.o.u (bd cD));have dc:a<wr.heap.size:=by have:=d.o.u.size;omega
     clear cE cF cL O cD G3 bd;obtain⟨X,hX⟩:∃X,X=wr.heap.size:=⟨_,rfl⟩;obtain⟨nl,Ie⟩:∃nl,nl=ls[j].length:=⟨_,rfl⟩;rw[←Ie]at x1;obtain⟨R,hR⟩:∃R,R=j+1:=⟨_,rfl⟩;rw[←hR]at x0;have HX:=aa hX;have HN:=aa Ie;have HR:=aa hR;clear hX Ie hR;have bn:Upd [] wr (wr.alloc (.cells #[.int .u64 (R:Nat),.slice (some ⟨a,o,none⟩) nl cap,.slice none 0 0] 63 (0,0))):=(ae _).alloc _;have a2:(wr.alloc (.cells #[.int .u64 (R:Nat),.slice (some ⟨a,o,none⟩) nl cap,.slice none 0 0] 63 (0,0))).heap[wr.heap.size]? =some (.cells #[.int .u64 (R:Nat),.slice (some ⟨a,o,none⟩) nl cap,.slice none 0 0] 63 (0,0)):=an _;go_upto_region 14 with fail
     rw[←HX.o]at a2⊢;revert bn a2;generalize (wr.alloc (.cells #[.int .u64 (R:Nat),.slice (some ⟨a,o,none⟩) nl cap,.slice none 0 0] 63 (0,0)))=w4;intro bn a2;have bR:=aa a2;have bS:=aa bn;have y2:=af a2 2;clear bn a2 x0 x1 x2;go_wp2_with fail;go_loop [11,43] (fun c i=>c=.slice none 0 0∧i=.int .i64 0) (fun _ _=>0)
     case atStart=>exact⟨rfl,rfl⟩
     case round=>
      obtain⟨rfl,rfl⟩:=hrel;clear y2;have cN:∀w',Upd [] w4 w'→Calls prog 50 #[.slice (some ⟨a,o,none⟩) nl cap] w' fun e a3=>∃l',e=.returned (.agg #[.string (pQ l')])∧G0[j]? =some l'∧Upd [] w' a3:=fun w' hu=>by have br:=V.o.small _ (aq G);have a4:=bS.o.then hu (by simp);rw[HN.o];refine(made a o cap ls[j] (cM.o.upd a4 (by simp)) (by have:=a4.size;omega) br.1 br.2.1 br.2.2.1 br.2.2.2).mono ?_;rintro e a3 ⟨l',rfl,hp,dd,cO⟩;exact⟨l',rfl,V.o.srt j G l' hp dd,cO⟩
      have bA:∀w' l',Upd [] w4 w'→G0[j]? =some l'→Calls prog 49 #[ptr k.W 0,.int .u64 R,.agg #[.string (pQ l')],.slice none 0 0] w' fun e a3=>e=.returned .nilIface∧∃cP bW,WI a3 k bW cP∧WT w' k r3 0 a3 bW∧jW w.heap.size a3 k bW cP syms (dr syms (G0.take (j+1))) (lnL (G0.take (j+1))) (laL (G0.take (j+1))) (j+1):=fun w' l' hu bv=>by obtain⟨be,rfl⟩:=List.getElem?_eq_some_iff.1 bv;have a4:=bS.o.then hu (by simp);have b5:=V.o.ok _ (aq be);have ht:=uM syms G0 j be;have G5:syms≠[]:=V.o.ne (fun e=>by rw[e]at be;simp at be);rw[ht.1,ht.2.1,ht.2.2,HR.o];exact CI syms _ _ _ _ j _ (a1.o.new a4) w.heap.size ⟨by have h1:=d.o.u.size;have h2:=a4.size;omega,D.o⟩ (bO.o.new a1.o a4) ⟨G5,V.o.sym.1,by have:=V.o.sym.2.1;omega,V.o.sym.2.2.1,V.o.sym.2.2.2⟩ (V.o.fil j) b5.1 b5.2.1 b5.2.2 (V.o.cmp j be) (V.o.cnt j)
      have dj:=aa cN;have dk:=aa bA;have dp:Hid (∀i:Nat,(wl k r3)[i]?≠some (some X)):=aa (fun i e=>by have:=a1.o.lt i _ e;have:=HX.o;omega);have y0:=af bR.o 0;have y1:=af bR.o 1;clear cN bA;go_wp2_with fail
      go_region_held3 (fun w'=>w'.cell? ⟨X,0,none⟩=some (.int .u64 R)∧w'.cell? ⟨X,1,none⟩=some (.slice (some ⟨a,o,none⟩) nl cap)) (go_keep) (first
       |(go_at_call 50;refine(dj.o _ (by with_reducible exact(ae _).drew)).mono ?_;rintro e w5 ⟨l',rfl,bv,hu⟩;have ds:=aa bv;have bg:Hid (Upd [] w4 w5):=aa (by with_reducible exact((ae _).drew).then hu (fun _ h _=>h));have et:=bg.o.cell (a:=⟨X,0,none⟩) (by simp) y0;have ev:=bg.o.cell (a:=⟨X,1,none⟩) (by simp) y1;clear bv hu)
       |(go_at_call 49;refine(dk.o _ _ (by with_reducible exact bg.o) ds.o).mono ?_;rintro e w6 ⟨rfl,s6,r6,hI,hT,a9⟩;have b6:=hT.keep (bg.o.blk bR.o (by simp)) dp.o;have eE:=af b6 0;have eG:=af b6 1;clear b6;have dF:=aa hI;have cX:=aa hT;have cY:=aa a9;clear hI hT a9))
      all_goals
       have bB:=aa (bS.o.then bg.o (by simp));have b7:=aa ((d.o.new bB.o).next D.o cX.o bE ad);have cZ:=aa (D.o.next cX.o (by have h1:=d.o.u.size;have h2:=bB.o.size;omega));have t0:=af b7.o.t 0;have ft:=ao b7.o.t 0;go_wp2_with fail;have e1:((j:Int)+1)=((j+1:Nat):Int):=by omega
       have e2:((m1:Int)+(j:Int)+1)=((m1+(j+1):Nat):Int):=by omega
       rw[e1,e2];exact⟨⟨j+1,by omega,rfl,r6,s6,dF.o.poke cY.o.li (cZ.o.o ad) _,cZ.o,b7.o.inc cA _,cY.o.poke ad _⟩,by simp only[intOf];omega⟩
    ·obtain rfl:m2=j:=by omega
     have c0:G0.length=m2:=by rw[HM.o.2.1];exact V.o.len.1
     have he:G0.take m2=G0:=by rw[←c0,aS]
     rw[he]at bO;have c6:=V.o.close w.heap.size wr k r3 s' a1.o (by rw[c0];exact bO.o);have c7:=aa c6;clear he c6 bL hj;go_wp2_with fail;refine c7.o.mono ?_;rintro e w4 ⟨rfl,s4,c8,r4,hI,hT⟩;have dP:=aa hI;have b8:=aa (d.o.next D.o hT bE ad);have dT:=aa (D.o.next hT d.o.u.size);have d0:=aa c8;clear hI hT c8 c7;go_wp2_with fail;refine(EO dP.o).mono ?_;rintro e _ ⟨v,rfl,hv,rfl⟩;rw[d0.o]at hv;obtain⟨g,gc,hg,rfl,hR⟩:=hv.openG V.o.bne;have ea:w.heap.size≤g:=dT.o 8 g (congrArg some hg);obtain⟨NB,b9⟩:∃NB,NB=Bt.length:=⟨_,rfl⟩;have z:=Hd.o;simp only[a8,ah,ai,or_false,not_or]at z;have bw:=b8.o.u.blk HA.o.2.2.1 (by simp;exact⟨fun e=>z.1.2.2.2 e.symm,fun e=>z.2.2.1.2 e.symm⟩);have eb:A≠BX:=z.1.2.2.2;have b0:=af bw 0;have fb:=ao bw 0;have ef:=aa bw;have HR:=aa hR;have c9:=aa b9;rw[←b9];clear z bw hR b9 hv hg;go_wp2_with fail;refine bodyPost_end (results_none rfl _ _ _) rfl ?_;have hu:Upd [BX] w4 (w4.setCell ⟨BX,0,none⟩ (.slice (some ⟨g,0,none⟩) NB gc)):=((ae w4).mono (by simp)).setCell (by simp) _;rw[←c9.o]at HR;rw[←c9.o];exact⟨rfl,(b8.o.u.mono (by simp)).then hu (fun b hb _=>by simp at hb;simp[hb]),hu.blk b8.o.a (by simpa using eb),g,gc,au ef.o 0 _,ea,HR.o.upd hu (by simp;omega)⟩
end
section
attribute [local go_sem ↓] Go.wp_at_zero Go.wp_at_succ
variable {w:World} {k:WK} {r:WR} {s:WS}
structure IxH(syms:List Bytes)(G1:fO)(ln:List (ByteArray×Nat))(L:PtL)(G:List (Bytes×List Nat))(d:Bytes):Prop where
 cnt:∀x∈ln,1≤x.2∧x.2≤G1.length
 nodup:(ln.map (·.1)).Nodup
 id:∀x∈ln,∃a,aT x.1 (bJ syms)=some a∧a<65536∧∃p b,(p,a,b)∈trip (ch syms).length G1
 ser:G1.length<1000∧∀x∈G1,x.1.length<1000∧x.2.length<1000∧∀p∈x.1,p.1<65536∧p.2<syms.length
 syml:syms.length<65536∧∀x∈syms,x.length<1000
 v12:∀a,(dK syms.length (trip (ch syms).length G1) a).length≤12
 lnl:ln.length<1000∧∀x∈ln,x.1.size<1000
 Fl:(cC (ch syms) G1).length<1000000
 tripl:(trip (ch syms).length G1).length<100000
 hL:L=([],[],cG (ch syms).length G1)::dI syms.length (trip (ch syms).length G1) syms (cj (bJ syms)) (du ln)
 hG:G=jZ (fC (cj (bJ syms)) (ptP [] L))
 hb1:(ptF [] L).length<1000000
 hb2:(poB (ptP [] L)).length<1000000
 hb3:L.length<999
 hb4:∀x∈L,x.2.2.length<10000∧∀y∈x.2.2,y<4294967296
 hes:∀x∈ptP [] L,x.1.length<1000∧x.2.1.length<1000∧x.2.2<1000000
 hid:∀x∈ptP [] L,x.1≠[]→(aT (str x.2.1) (bJ syms)).isSome=true∧cj (bJ syms) x.2.1<4294967296
 hlp:∀x∈liP (cC (ch syms) G1) G,x.1.size<1000∧x.2<1000000000
 hbF:(ib (cC (ch syms) G1) G).length<2000000
 hbF5:(mh (cC (ch syms) G1) G L).length<9000000
 hB:d=ixF (ch syms).length (cC (ch syms) G1) G L
 emp:G1=[]→syms=[]
theorem xt(syms:List Bytes):ch syms≠[]:=fun e=>by have:=oP syms;rw[e]at this;simp only[ar]at this;omega
theorem Ah{syms:List Bytes}{G1:fO}{ln:List (ByteArray×Nat)}{L:PtL}{G:List (Bytes×List Nat)}{A:Bytes}(H:IxH syms G1 ln L G A)(la:ByteArray)(j V:Nat)(w:World)(k:WK)(r:WR)(s:WS)(h:WI w k r s)(F:jW V w k r s syms G1 ln la j):
 Calls prog 51 #[ptr k.W 0] w fun e w'=>e=.returned .nilIface∧∃z,z.bF=A∧WP w k r 0 z w':=by
 have mk:∀{w:World} {r:WR} {s:WS} {S g2 N2 G6:Nat} {rr:Option Nat} {Z:Nat},BC k syms G1 ln la j S Z s→zh k s (ch syms) G1 ln (bJ syms) syms S:=fun d=>
  ⟨by rw[d.F,iS],d.t1,d.names,H.cnt,H.nodup,d.cache,H.id,d.symv,H.ser,H.syml,d.pP,d.pPO,H.v12,H.lnl,⟨xt _,by rw[d.F];exact H.Fl⟩,by rw[d.F];exact ox _ _,H.tripl,d.stage,d.zero,d.t0⟩
 rcases F with⟨_,hs,hl,W,b1,rfl⟩|⟨S,g2,N2,G6,rr,Z,d,hR,_⟩
 ·have he:=H.emp hs;refine Bh A ?_;have h2:=CJ h (by simp[jV,he]) (by simp[jV,he]) (by simp[jV,he]);have h3:=CK (ch syms) (cC (ch syms) G1) G1 ln (bJ syms) syms L G h (by simp[jV,he]) (h2.mono ?_) H.hL H.hG H.hb1 H.hb2 H.hb3 H.hb4 H.hes H.hid H.hlp H.hbF H.hbF5
  ·refine h3.mono ?_;rintro e w' ⟨rfl,z,e1,e2,e3,e4,O⟩;exact⟨rfl,z,by rw[e1,H.hB],e2,e3,e4,O⟩
  ·rintro e w' ⟨rfl,S,g,N,cap,rr,Z,U,r',hI,hT,hR,_⟩;have d:BC k syms G1 ln ⟨#[]⟩ 0 S Z {jV k syms b1 with t0:=5,bF:=ch [],b1:=U,symV:=ptr S 0,sfV:=ptr Z 0,t1:=(ch []).length,stage:=2}:=by rw[hs,hl,he];exact⟨rfl,rfl,rfl,rfl,rfl,rfl,rfl,rfl,rfl,⟨rfl,rfl,rfl,rfl⟩,rfl,rfl,rfl,rfl⟩
   refine⟨rfl,r',_,S,g,N,cap,rr,hI,hT.mono (ay _),by rw[he];exact hR,?_,d.F,Z,rfl⟩;exact⟨by rw[d.F,iS],d.t1,d.names,H.cnt,H.nodup,d.cache,H.id,d.symv,H.ser,H.syml,d.pP,d.pPO,H.v12,H.lnl,⟨xt _,by rw[d.F];exact H.Fl⟩,by rw[d.F];exact ox _ _,H.tripl,d.stage,d.zero,d.t0⟩
 ·refine Bh A ?_;have D:=d.F;refine(EF (ch syms) G1 ln (bJ syms) syms S g2 N2 G6 rr L G h hR (mk (w:=w) (r:=r) (g2:=g2) (N2:=N2) (G6:=G6) (rr:=rr) d) H.hL H.hG H.hb1 H.hb2 H.hb3 H.hb4 H.hes H.hid (by rw[D];exact H.hlp) (by rw[D];exact H.hbF) (by rw[D];exact H.hbF5)).mono ?_;rintro e w' ⟨rfl,z,e1,e2,e3,e4,_,O⟩;exact⟨rfl,z,by rw[e1,D,H.hB],e2,e3,⟨Z,by rw[e4];exact d.sfv⟩,O⟩
end
end Go.Proofs.YtlgefdfflmgocaaGreatDoor
