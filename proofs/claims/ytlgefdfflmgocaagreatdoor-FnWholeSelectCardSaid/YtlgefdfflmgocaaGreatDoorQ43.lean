import Derived.Test.YtlgefdfflmgocaaGreatDoorQ38
import Derived.Test.YtlgefdfflmgocaaGreatDoorQ42
set_option linter.all false
set_option maxRecDepth 100000
set_option maxHeartbeats 4000000
namespace Go.Proofs.YtlgefdfflmgocaaGreatDoor
open Go Go.RowKit Xc Go.Proofs.Tryz
attribute [local go_sem ↓] Go.wp_at_zero Go.wp_at_succ
theorem AD{w:World}{B g:Nat}(h:w.ownsRow B 93 1 (.slice (some ⟨g,0,none⟩) 2 2) 2 (madeCells #[Value.nilIface] 2).toList):w.heap[g]? =some (.cells #[.nilIface,.nilIface] 93 (0,0)):=by
 rcases h.2 with⟨e,_⟩|⟨g',cap,cur,e,_,hb,h1,z,d,h4⟩
 ·simp at e
 ·simp only[bx,aM,eD,and_true,true_and]at e;obtain⟨rfl,rfl⟩:=e;rw[hb];have hl:cur.toList.length=2:=by simpa using d
  rw[iI,bG (by omega)]at h4;have e2:cur= #[.nilIface,.nilIface]:=by apply Array.ext';rw[h4];first|rfl|(simp[nK];done)|(rw[nK];rfl)
  rw[e2]
def GcQ(w:World)(e:Ending)(w':World):Prop:=∃C B,e=.returned (ptr C 0)∧w'.heap[C]? =some (.cells #[.slice (some ⟨B,0,none⟩) 2 2,.slice none 0 0,.nilIface,.int .i64 (-9223372036854775808),.bool false] 198 (0,0))∧w'.heap[B]? =some (.cells #[.nilIface,.nilIface] 93 (0,0))∧C≠B∧w.heap.size≤C∧w.heap.size≤B∧Upd [] w w'
theorem zZ(w:World):Calls prog 73 #[.nilIface,.int .i64 2] w (GcQ w):=by
 have ad:∀w,(Instr.typeAssert .nilIface 93 194 true).run prog w=.ok (.tuple #[.pointer none,.bool false]) w:=fun w=>by kernel_rfl
 obtain⟨i0,hi,D,F,G⟩:=info_parts Tryz.info93;go_enter func73,ntmps73
 obtain⟨w1,z⟩:∃x,x=w.alloc (.cells #[.slice none 0 0,.slice none 0 0,.nilIface,.int .i64 0,.bool false] 198 (0,0)):=⟨_,rfl⟩;obtain⟨C,hC⟩:∃C,C=w.heap.size:=⟨_,rfl⟩;have hb:w1.heap[C]? =some (.cells #[.slice none 0 0,.slice none 0 0,.nilIface,.int .i64 0,.bool false] 198 (0,0)):=by rw[z,hC];exact an _
 have O:Hid (Upd [] w w1):=aa (by rw[z];exact(ae _).alloc _);have HB:=aa hb;have HC:Hid (w.heap.size≤C):=aa (by omega);have c0:=af hb 0;clear hb;go_upto_region 4 with fail
 rw[←hC];rw[←z];clear hC z;go_wp2_with (at_make;refine wpList_make_full _ rfl _ _ 96 rfl 0 93 i0 .nilIface 1 underlying96 hi D F .i64 .i64 2 2 2 rfl rfl rfl rfl ?b2 ?b3 ?b4 ?_);case b2=>rw[G];omega
 case b3=>unfold maxLen;omega
 case b4=>omega
 intro w3 d U;obtain⟨B,hB⟩:∃B,B=w1.heap.size:=⟨_,rfl⟩;rw[←hB]at d⊢;have A:Upd [] w1 w3:=(ae w1).grown U (by simp);have V:=AD d;have hb3:=A.blk HB.o (by simp);have HX:Hid (C≠B∧w.heap.size≤B):=aa (by have:=lt_of_block HB.o;have:=O.o.size;omega);have H3:=aa (And.intro A (And.intro V hb3));have d0:=af hb3 0;have d1:=af hb3 1;have d3:=af hb3 3;have f0:=ao hb3 0;have f1:=ao hb3 1;have f3:=ao hb3 3;clear d U hB A V hb3 c0 hi D F G;go_wp2_with fail;go_ret;have W:Upd [C] w3 (((w3.setCell ⟨C,0,none⟩ (.slice (some ⟨B,0,none⟩) 2 2)).setCell ⟨C,1,none⟩ (.slice none 0 0)).setCell ⟨C,3,none⟩ (.int .i64 (-9223372036854775808))):=((((ae _).mono (by simp)).setCell (by simp) _).setCell (by simp) _).setCell (by simp) _;refine⟨C,B,rfl,au (au (au H3.o.2.2 0 _) 1 _) 3 _,W.blk H3.o.2.1 (by simpa using aF HX.o.1),HX.o.1,HC.o,HX.o.2,(O.o.then H3.o.1 (by simp)).then W (fun b hb hl=>?_)⟩;simp only[ah,ai,or_false]at hb;have:=HC.o;omega
theorem AC(v:Value)(w:World):(method 616 203 v "Iterator").run prog w=.ok (308,v) w:=by kernel_rfl
theorem AF(v:Value)(w:World):(nilAhead 616 203 v "Iterator").run prog w=.ok (some false) w:=by kernel_rfl
structure ChM(w d:World)(C B:Nat)(G z Nn:Nat→Nat)(i:Nat)(Xs:List Nat)(cs:Array Value):Prop where
 blk:d.heap[C]? =some (.cells #[.slice (some ⟨B,0,none⟩) 2 2,.slice none 0 0,.nilIface,.int .i64 (-9223372036854775808),.bool false] 198 (0,0))
 its:d.heap[B]? =some (.cells cs 93 (0,0))
 size:cs.size=2
 rest:∀j,i≤j→j<2→cs[j]? =some .nilIface
 len:Xs.length=i
 done:∀j (h:j<Xs.length),cs[j]? =some (lsV Xs[j])∧d.heap[Xs[j]]? =some (.cells #[.iface 304 (.slice (some ⟨G j,0,none⟩) (Nn j) (z j)),.int .i64 (-1)] 300 (0,0))
 rise:Xs.Pairwise (· <·)
 new:∀x∈Xs,w.heap.size≤x∧x<d.heap.size∧x≠C∧x≠B
 upd:Upd [] w d
 ne:C≠B∧w.heap.size≤C∧w.heap.size≤B
theorem ChM.step{w F A:World}{C B i X:Nat}{G O Nn:Nat→Nat}{Xs:List Nat}{cs:Array Value}(h:ChM w F C B G O Nn i Xs cs)(hi:i<2)(hu:Upd [] F A)(hX:A.heap[X]? =some (.cells #[.iface 304 (.slice (some ⟨G i,0,none⟩) (Nn i) (O i)),.int .i64 (-1)] 300 (0,0)))(ad:F.heap.size≤X):
 ChM w (A.setCell ⟨B,i,none⟩ (lsV X)) C B G O Nn (i+1) (Xs++[X]) (cs.setIfInBounds i (lsV X)):=by
 have D:X≠B:=by have:=lt_of_block h.its;omega
 have U:X≠C:=by have:=lt_of_block h.blk;omega
 have d:Upd [B] A (A.setCell ⟨B,i,none⟩ (lsV X)):=((ae _).mono (by simp)).setCell (by simp) _;have hn:∀x∈Xs,x<X:=fun x z=>by have:=(h.new x z).2.1;omega
 refine⟨d.blk (hu.blk h.blk (by simp)) (by simpa using h.ne.1),au (hu.blk h.its (by simp)) i _,by rw[Array.size_setIfInBounds];exact h.size,fun j W V=>?_,by rw[ab,h.len];rfl,fun j W=>?_,?_,fun x z=>?_,(h.upd.then hu (by simp)).then d (fun b hb hl=>by simp only[ah,ai,or_false]at hb;have:=h.ne.2.2;omega),h.ne⟩
 ·rw[ba (by omega)];exact h.rest j (by omega) V
 ·have hl:Xs.length=i:=h.len;by_cases e:j<Xs.length
  ·obtain⟨h1,h2⟩:=h.done j e;rw[gp e];exact⟨by rw[ba (by omega)];exact h1,d.blk (hu.blk h2 (by simp)) (by simpa using(h.new _ (aq e)).2.2.2)⟩
  ·have e2:j=i:=by simp at W;omega
   subst e2;rw[List.getElem_append_right (by omega)];simp only[hl,iN,dU];exact⟨di (by rw[h.size];omega),d.blk hX (by simpa using D)⟩
 ·rw[List.pairwise_append];exact⟨h.rise,by simp,fun a ha b hb=>by simp only[ah,ai,or_false]at hb;rw[hb];exact hn a ha⟩
 ·have hs:(A.setCell ⟨B,i,none⟩ (lsV X)).heap.size=A.heap.size:=Nat.le_antisymm (by first|(simp[World.setCell];done)|(simp[World.setCell];split<;>simp)) d.size;rcases List.mem_append.1 z with z|z
  ·have:=h.new x z;have h2:=hu.size;exact⟨this.1,by rw[hs];omega,this.2.2⟩
  ·simp only[ah,ai,or_false]at z;subst z;exact⟨by have:=h.upd.size;omega,by rw[hs];exact lt_of_block hX,U,D⟩
def CsQ(w:World)(G d Nn:Nat→Nat)(e:Ending)(w':World):Prop:=∃C B Xs cs,e=.returned (chV C)∧ChM w w' C B G d Nn 2 Xs cs
theorem zH(w:World)(q c:Nat)(S G F Nn:Nat→Nat)(hS:∀j,j<2→pw w (S j) (G j) (F j) (Nn j)∧w.cell? ⟨q,j,none⟩=some (.iface 203 (ptr (S j) 0))):
 Calls prog 37 #[.nilIface,.slice (some ⟨q,0,none⟩) 2 c] w (CsQ w G F Nn):=by
 have O:=aa hS;have mI:=AC;have nI:=AF;clear hS;go_enter func37,ntmps37
 go_wp2_with fail;refine(zZ w).mono ?_;intro e w1 hq;obtain⟨C,B,rfl,hC,hB,G5,U,V,hu⟩:=hq;have H1:Hid (ChM w w1 C B G F Nn 0 [] #[.nilIface,.nilIface]):=aa ⟨hC,hB,rfl,fun j _ hj=>by
  match j,hj with
  |0,_=>rfl
  |1,_=>rfl,rfl,fun j hj=>by simp at hj,by simp,by simp,hu,G5,U,V⟩
 clear hC hB G5 U V hu;go_wp2_with fail;go_loopg [14] 2 (fun gg ad wx=>∃(i:Nat) (Xs:List Nat) (cs:Array Value),ad=.int .i64 i∧Hid (gg+i=2)∧Hid (ChM w wx C B G F Nn i Xs cs))
 case atStart=>exact⟨0,[],_,rfl,aa rfl,H1⟩
 case round=>
  obtain⟨i,Xs,cs,rfl,Hi,z⟩:=hrel;by_cases d:i<2
  ·have r0:=z.o.upd.cell (by simp) (O.o i d).2;obtain⟨s,hs⟩:∃s,s=S i:=⟨_,rfl⟩;have KI:Hid (∀w',Upd [] wr w'→Calls prog 308 #[ptr s 0,.nilIface] w' fun e A=>∃X,e=.returned (lsV X)∧Hid (A.heap[X]? =some (.cells #[.iface 304 (.slice (some ⟨G i,0,none⟩) (Nn i) (F i)),.int .i64 (-1)] 300 (0,0))∧wr.heap.size≤X)∧Upd [] wr A):=aa fun w' hu=>by rw[hs];exact(CG w' (S i) (G i) (F i) (Nn i) ((O.o i d).1.upd (z.o.upd.then hu (by simp)))).mono fun e A hq=>by obtain⟨X,h1,h2,h3,h4⟩:=hq;exact⟨X,h1,aa ⟨h2,by have:=hu.size;omega⟩,hu.then h4 (by simp)⟩
   rw[←hs]at r0;have W:Hid (∀w',Upd [] wr w'→w'.cell? ⟨C,0,none⟩=some (.slice (some ⟨B,0,none⟩) 2 2)∧w'.cell? ⟨B,i,none⟩=some .nilIface∧w'.frozen? ⟨B,i,none⟩=false):=aa fun w' hu=>⟨af (hu.blk z.o.blk (by simp)) 0,by rw[af (hu.blk z.o.its (by simp)) i];exact z.o.rest i (aw _) d,ao (hu.blk z.o.its (by simp)) i⟩;have a0:(0:Int)≤(i:Int):=by omega
   have a1:(i:Int)<2:=by omega
   obtain⟨p0,p1,p2⟩:=W.o wr (ae _);have a2:∀(fn:Fn) (first cap:Array Value) (w:World),(Instr.makeFunc fn first cap).run prog w=.ok (.func fn first cap) w:=fun _ _ _ _=>rfl;clear hs;go_upto_region 5 with fail
   go_region_with (go_at_call 308;refine(KI.o _ (by with_reducible ((repeat' (first|exact ae _|assumption|refine aG ?_|refine aE ?_ _|refine aC ?_ _))<;>fail))).mono ?_;intro e w3 hq;obtain⟨X,rfl,HX,G4⟩:=hq;have c3:=(W.o w3 G4).1;have c4:=(W.o w3 G4).2.1;have f4:=(W.o w3 G4).2.2)
   all_goals
    have D:=aa (z.o.step d G4 HX.o.1 HX.o.2);clear G4 c3 c4 f4 p0 p1 p2 r0 HX;go_wp2_with fail;go_roundg (2-(i+1))
    case measure=>have:=Hi.o;omega
    case rel=>exact⟨i+1,_,_,by simp,aa (by have:=Hi.o;omega),by first|exact D|exact aa (D.o.nw ((ae _).drew))|exact aa (D.o.nw ((ae _).drewN _))⟩
  ·obtain rfl:i=2:=by have:=Hi.o;omega
   go_wp2_with fail;go_ret;exact⟨C,B,Xs,cs,rfl,z.o⟩
theorem ww{b0 w:World}{e n g c:Nat}{xs:List Value}(h:aP b0 w e 1 n (.slice (some ⟨g,0,none⟩) n c) xs)(j:Nat)(u:Value)(d:xs[j]? =some u):w.cell? ⟨g,j,none⟩=some u:=by have:=h.1.cells (g:=g) rfl j u d;rw[aO,aK]at this;exact this
def xD(w:World)(r:Nat):Prop:=∀k,k<4→∀j u,(oY k)[j]? =some u→w.cell? ⟨r,k*3+j,none⟩=some u
theorem Cd{b0 w:World}{r c:Nat}(h:aP b0 w 53 3 4 (.slice (some ⟨r,0,none⟩) 4 c) (ly 4)):xD w r:=fun k A j u z=>by
 have hl:∀n,(ly n).length=n*3:=by
  intro n;induction n with
  |zero=>rfl
  |succ n d=>rw[show ly (n+1)=ly n++oY n from rfl,ab,d];unfold oY;split<;>simp<;>omega
 have D:j<3:=by
  obtain⟨h1,_⟩:=List.getElem?_eq_some_iff.1 z;have:(oY k).length=3:=by unfold oY;split<;>rfl
  omega
 have e:∀n,k<n→(ly n)[k*3+j]? =some u:=by
  intro n;induction n with
  |zero=>omega
  |succ n d=>
   intro hn;rw[show ly (n+1)=ly n++oY n from rfl];by_cases e:k=n
   ·subst e;rw[bC (by rw[hl];omega),hl,Nat.add_sub_cancel_left];exact z
   ·rw[bH (by rw[hl];omega)];exact d (by omega)
 have:=h.1.cells (g:=r) rfl (k*3+j) u (e 4 A);rw[aO,aK]at this;exact this
theorem DW:∀k:Nat,k<3→∃l∈LL,((k:Int)+1,k+1)∈l
 |0,_=>⟨L1,by simp,by decide⟩
 |1,_=>⟨L2,by simp,by decide⟩
 |2,_=>⟨L1,by simp,by decide⟩
theorem xD.upd{w w':World}{r:Nat}(h:xD w r)(hu:Upd [] w w'):xD w' r:=fun k d j u z=>hu.cell (by simp) (h k d j u z)
def E3(w:World)(e:Ending)(w':World):Prop:=e=.returned (.bool true)∧Upd [] w w'
theorem uA(T:Nat)(w:World)(O vs:Value)(r rc:Nat)(hl:sj w O LL)(hs:qJ T w vs)(hg:xD w r):Calls prog 18 #[O,vs,.slice (some ⟨r,0,none⟩) 4 rc] w (E3 w):=by
 have H:=aa (And.intro hl (And.intro hs hg));clear hl hs hg;go_enter func18,ntmps18
 go_wp2_with fail;refine(times w O H.o.1).mono ?_;intro e w1 hq;obtain⟨tv,rfl,ht,z⟩:=hq;obtain⟨tg,tc,rfl⟩:∃g c,tv=.slice (some ⟨g,0,none⟩) 3 c:=by
  rcases ht.shape with⟨_,e2,_⟩|⟨g,c,e,_⟩
  ·omega
  ·exact⟨g,c,e⟩
 have HT:=aa (And.intro ht z);have U:qJ T w1 vs:=by obtain⟨q,o,c,rfl,hq,hc⟩:=H.o.2.1;exact⟨q,o,c,rfl,hq,fun j hj=>⟨z.cell (by simp) (hc j hj).1,z.cell (by simp) (hc j hj).2⟩⟩
 have K:=aa (AM T w1 (some ⟨tg,0,none⟩) tc vs U);clear ht z U;go_wp2_with fail;refine K.o.mono ?_;intro e w2 hq;obtain⟨pv,rfl,hp,A⟩:=hq;obtain⟨pg,pc,rfl⟩:∃g c,pv=.slice (some ⟨g,0,none⟩) 4 c:=by
  rcases hp.shape with⟨_,e2,_⟩|⟨g,c,e,_⟩
  ·omega
  ·exact⟨g,c,e⟩
 have HP:=aa (And.intro hp A);have F:Hid (Upd [] w w2):=aa (HT.o.2.then A (by simp));have HC:Hid (∀k,k<4→w2.cell? ⟨pg,k,none⟩=some (.int .i64 k)):=aa fun k hk=>ww hp k _ (by
  match k,hk with
  |0,_=>rfl
  |1,_=>rfl
  |2,_=>rfl
  |3,_=>rfl)
 have a0:Hid (∀k,k<3→w2.cell? ⟨tg,k,none⟩=some (.int .i64 ((k:Int)+1))):=aa fun k hk=>A.cell (by simp) (ww HT.o.1 k _ (by
  match k,hk with
  |0,_=>rfl
  |1,_=>rfl
  |2,_=>rfl))
 clear hp A K;go_wp2_with fail;go_loopg [9] 4 (fun gg s9 wx=>∃k:Nat,s9=.int .i64 k∧Hid (gg+k=4)∧Hid (Upd [] w2 wx))
 case atStart=>exact⟨0,rfl,aa rfl,aa (ae _)⟩
 case round=>
  obtain⟨k,rfl,Hi,G⟩:=hrel;by_cases D:k<4
  ·have p0:=G.o.cell (by simp) (HC.o k D);have a3:(0:Int)≤(k:Int):=by omega
   have a4:(k:Int)<4:=by omega
   have hg:=(H.o.2.2.upd F.o).upd G.o;by_cases d:k<3
   ·have r0:=hg k D 0 (.int .i64 1) (by unfold oY;rw[if_pos d];rfl);have r1:=hg k D 1 (.int .i64 ((k:Int)+1)) (by unfold oY;rw[if_pos d];rfl);have r2:=hg k D 2 (.int .u64 ((k:Int)+1)) (by unfold oY;rw[if_pos d];rfl);have t0:=G.o.cell (by simp) (a0.o k d);rw[iL]at r0;have a1:¬(3:Int)≤(k:Int):=by omega
    have a2:(k:Int)<3:=by omega
    have KP:Hid (∀w',Upd [] wr w'→w'.cell? ⟨r,k*3,none⟩=some (.int .i64 1)∧w'.cell? ⟨r,k*3+1,none⟩=some (.int .i64 ((k:Int)+1))∧w'.cell? ⟨r,k*3+2,none⟩=some (.int .u64 ((k:Int)+1))∧w'.cell? ⟨pg,k,none⟩=some (.int .i64 k)∧w'.cell? ⟨tg,k,none⟩=some (.int .i64 ((k:Int)+1))):=aa fun w' hu=>⟨hu.cell (by simp) r0,hu.cell (by simp) r1,hu.cell (by simp) r2,hu.cell (by simp) p0,hu.cell (by simp) t0⟩;have KH:Hid (∀w',Upd [] wr w'→Calls prog 43 #[O,.agg #[.int .i64 ((k:Int)+1),.int .u64 ((k:Int)+1)]] w' fun e V=>e=.returned (.bool true)∧Upd [] wr V):=aa fun w' hu=>by
     have h:=ya w' O LL ((k:Int)+1,k+1) (H.o.1.upd (F.o.then (G.o.then hu (by simp)) (by simp))) (by decide) (by decide) (DW k d);have e:((k+1:Nat):Int)=(k:Int)+1:=by omega
     simp only[e]at h;exact h.mono fun e V h=>⟨h.1,hu.then h.2 (by simp)⟩
    clear hg;go_upto_region 11 with fail
    go_region_held3 (fun w'=>w'.cell? ⟨r,k*3,none⟩=some (.int .i64 1)∧w'.cell? ⟨r,k*3+1,none⟩=some (.int .i64 ((k:Int)+1))∧w'.cell? ⟨r,k*3+2,none⟩=some (.int .u64 ((k:Int)+1))∧w'.cell? ⟨pg,k,none⟩=some (.int .i64 k)∧w'.cell? ⟨tg,k,none⟩=some (.int .i64 ((k:Int)+1))) (exact KP.o _ (by with_reducible ((repeat' (first|exact ae _|assumption|refine aG ?_|refine aE ?_ _|refine aC ?_ _))<;>fail))) (first
     |(go_at_call 43;refine(KH.o _ (by with_reducible ((repeat' (first|exact ae _|assumption|refine aG ?_|refine aE ?_ _|refine aC ?_ _))<;>fail))).mono ?_;rintro e w5 ⟨rfl,W⟩)
     |fail)
    all_goals
     have ad:=aa W;clear W;go_wp2_with fail;go_roundg (4-(k+1))
     case measure=>have:=Hi.o;omega
     case rel=>exact⟨k+1,by simp,aa (by have:=Hi.o;omega),aa (G.o.then (by first|exact ad.o|exact ad.o.drew) (by simp))⟩
   ·obtain rfl:k=3:=by omega
    have r0:=hg 3 (by omega) 0 (.int .i64 0) rfl;go_wp2_with fail;go_roundg 0
    case measure=>have:=Hi.o;omega
    case rel=>exact⟨4,by simp,aa rfl,G⟩
  ·obtain rfl:k=4:=by have:=Hi.o;omega
   go_wp2_with fail;go_ret;exact⟨rfl,F.o.then G.o (by simp)⟩
theorem Upd.ofBelow'{T:Nat}{w w':World}(h:Below T w w')(_:T≤w.heap.size):Upd ((List.range w.heap.size).filter fun b=>decide (T≤b)) w w':=
 ⟨h.os,h.tape,h.output,h.size,fun b hb hn=>h.block b (by
   by_cases e:T≤b
   ·exact absurd (List.mem_filter.2 ⟨List.mem_range.2 hb,by simpa using e⟩) hn
   ·omega)⟩
def nAt(j:Nat):Nat:=(LL.getD j []).length
theorem ChM.cm{w W:World}{C B:Nat}{G D:Nat→Nat}{Xs:List Nat}{cs:Array Value}{T:Nat}(h:ChM w W C B G D nAt 2 Xs cs)(hg:∀j,j<2→T≤G j∧G j<w.heap.size)(G5:G 0≠G 1)(F:PtR w (G 0) L1)(O:PtR w (G 1) L2):
 ∃X1 X2,ChS T W C B X1 X2 (G 0) (G 1) (D 0) (D 1) 0:=by
 obtain⟨X1,X2,rfl⟩:∃X1 X2,Xs=[X1,X2]:=by
  have:=h.len;match Xs,this with
  |[a,b],_=>exact⟨a,b,rfl⟩
 have d:=h.done 0 (by simp);have z:=h.done 1 (by simp);simp only[dU,eH]at d z;have U:cs= #[lsV X1,lsV X2]:=by
  have hs:=h.size;apply Array.ext
  ·simpa using hs
  ·intro i A ad;have hi:i<2:=by omega
   match i,hi with
   |0,_=>have:=d.1;rw[dm A]at this;simpa using this
   |1,_=>have:=z.1;rw[dm A]at this;simpa using this
 have a0:=h.new X1 (by simp);have a1:=h.new X2 (by simp);have hr:X1<X2:=by have:=h.rise;simpa using this
 have a2:=hg 0 (by omega);have a3:=hg 1 (by omega);have hn:=h.ne;have a4:=h.upd.size;refine⟨X1,X2,h.blk,by rw[←U];exact h.its,⟨d.2,fun j V=>h.upd.cell (by simp) (F.2 j V),by omega,by decide⟩,⟨z.2,fun j V=>h.upd.cell (by simp) (O.2 j V),by omega,by decide⟩,?_,fun b hb=>?_⟩
 ·simp only[a8,ah,ai,or_false,not_or,jP,and_true,not_false_eq_true];omega
 ·have hC:=lt_of_block h.blk;have hB:=lt_of_block h.its;simp only[ah,ai,or_false]at hb;rcases hb with rfl|rfl|rfl|rfl|rfl|rfl<;>omega
theorem Tryz.info101:(Tryz.prog.info? 101).map (fun i=>(i.zero,i.size,i.bytes))=some (some .nilIface,1,16):=by kernel_rfl
abbrev seV(s:Nat):Value:=.iface 203 (ptr s 0)
def rf(S:Nat→Nat):Nat→List Value
 |0=>[]
 |k+1=>rf S k++[seV (S k)]
theorem xr{S d:Nat→Nat}:∀k,(∀j,j<k→S j=d j)→rf S k=rf d k
 |0,_=>rfl
 |k+1,h=>by rw[rf,rf,xr k (fun j z=>h j (by omega)),h k (by omega)]
structure zg(w d:World)(v:Value)(S G z:Nat→Nat)(i:Nat):Prop where
 row:aP w d 101 1 i v (rf S i)
 upd:Upd [] w d
 ser:∀j,j<i→pw d (S j) (G j) (z j) (nAt j)∧PtR d (G j) (LL.getD j [])∧w.heap.size≤G j∧G j<d.heap.size
 dis:∀j k,j<k→k<i→G j≠G k
def tm(f:Nat→Nat)(i x:Nat):Nat→Nat:=fun j=>if j=i then x else f j
theorem kV{f:Nat→Nat}{i x j:Nat}(h:j≠i):tm f i x j=f j:=if_neg h
theorem nQ{f:Nat→Nat}{i x:Nat}:tm f i x i=x:=if_pos rfl
theorem zg.next{w V z F:World}{v v':Value}{S G Cc:Nat→Nat}{i s g c:Nat}(h:zg w V v S G Cc i)(hu:Upd [] V z)(hs:pw z s g c (nAt i))(hp:PtR z g (LL.getD i []))(hg:V.heap.size≤g∧g<z.heap.size)(G3:aP w F 101 1 (i+1) v' (rf S i++[seV s]))(h9:Upd [] w F)(d:Upd v.ownBlock.toList z F):
 zg w F v' (tm S i s) (tm G i g) (tm Cc i c) (i+1):=by
 have D:∀b∈v.ownBlock.toList,∃cs,z.heap[b]? =some (.cells cs 101 (0,0)):=jS (h.row.upd hu (by simp));have kE:∀{s g c n},pw z s g c n→pw F s g c n:=fun{s g c n} h=>by
  obtain⟨t,P,h1,O⟩:=h;refine⟨t,P,d.blk h1 (fun hm=>?_),d.blk O (fun hm=>?_)⟩
  ·obtain⟨cs,A⟩:=D _ hm;rw[h1]at A;simp at A
  ·obtain⟨cs,A⟩:=D _ hm;rw[O]at A;simp at A
 have kP:∀{g:Nat} {l},PtR z g l→PtR F g l:=fun{g l} h=>by
  obtain⟨⟨cs,h1⟩,O⟩:=h;have hn:g∉v.ownBlock.toList:=fun hm=>by obtain⟨ad,A⟩:=D _ hm;rw[h1]at A;simp at A
  exact⟨⟨cs,d.blk h1 hn⟩,fun j W=>d.cell hn (O j W)⟩
 refine⟨?_,h9,fun j W=>?_,fun j k U hk=>?_⟩
 ·have e:rf (tm S i s) (i+1)=rf S i++[seV s]:=by rw[rf,nQ,xr i (fun j W=>kV (by omega))]
  rw[e];exact G3
 ·have a0:=d.size;have a1:=hu.size;by_cases e:j=i
  ·subst e;rw[nQ,nQ,nQ];have hw:=h.upd.size;exact⟨kE hs,kP hp,by omega,by omega⟩
  ·rw[kV e,kV e,kV e];obtain⟨h1,O,h3,h4⟩:=h.ser j (by omega);exact⟨kE (h1.upd hu),kP (O.upd hu),h3,by omega⟩
 ·by_cases e:k=i
  ·subst e;rw[nQ,kV (by omega)];have:=(h.ser j U).2.2.2;omega
  ·rw[kV e,kV (by omega)];exact h.dis j k U (by omega)
def CpQ(w:World)(d z:Nat)(e:Ending)(w':World):Prop:=e=.returned (.tuple #[])∧∃av,w'.heap[d]? =some (.cells #[av] 49 (0,0))∧aP w w' 53 3 4 av (ly 4)∧w'.heap[z]? =some (.cells #[.bool true] 4 (0,0))∧Upd [d,z] w w'
theorem vD(w:World)(vl vs:Value)(pR pL pW pS D V:Nat)(hR:w.heap[pR]? =some (.cells #[.bool false] 4 (0,0)))(hL:w.heap[pL]? =some (.cells #[vl] 45 (0,0)))(hW:w.heap[pW]? =some (.cells #[.int .i64 0] 3 (0,0)))(hS:w.heap[pS]? =some (.cells #[vs] 48 (0,0)))
 (hA:w.heap[D]? =some (.cells #[.slice none 0 0] 49 (0,0)))(hK:w.heap[V]? =some (.cells #[.bool false] 4 (0,0)))(G5:D≠V)(hl:sj w vl LL)(hs:qJ w.heap.size w vs):
 Calls prog 33 #[ptr pR 0,ptr pL 0,ptr pW 0,ptr pS 0,ptr D 0,ptr V 0] w (CpQ w D V):=by
 obtain⟨i0,hi,bb,bd,be⟩:=info_parts Tryz.info101;have HI:=aa (And.intro hi (And.intro bb (And.intro bd be)));have W:=aa (And.intro hL (And.intro hW (And.intro hS (And.intro hA (And.intro hK G5)))));have HD:=aa (And.intro hl hs);have r0:=af hR 0;have l0:=af hL 0;obtain⟨q,o,c,rfl,hc⟩:=hl;have HC:=aa hc;clear hi bb bd be hL hW hS hA hK G5 hs hc hR;go_enter func33,ntmps33
 go_wp2_with fail;clear r0 l0;go_loopg [7,34] 2 (fun gg s7 bE wx=>∃(i:Nat) (S G Cc:Nat→Nat),bE=.int .i64 i∧Hid (gg+i=2)∧Hid (zg w wx s7 S G Cc i))
 case atStart=>exact⟨0,fun _=>0,fun _=>0,fun _=>0,rfl,aa rfl,aa ⟨er,ae _,fun j hj=>by omega,fun j k _ hk=>by omega⟩⟩
 case round=>
  obtain⟨i,S,G,Cc,rfl,Hi,A⟩:=hrel;by_cases a4:i<2
  ·obtain⟨u,k0,hu⟩:=HC.o i a4;have k1:=A.o.upd.cell (by simp) k0;have ad:=hu.upd A.o.upd;obtain⟨z,hz⟩:∃z:List (Int×Nat),z=LL.getD i []:=⟨_,rfl⟩;have bg:LL[i]=z:=by
    rw[hz];match i,a4 with
    |0,_=>rfl
    |1,_=>rfl
   have bl:z.length=nAt i:=by rw[hz];rfl
   have F:z.length≤10∧0<z.length:=by
    rw[hz];match i,a4 with
    |0,_=>decide
    |1,_=>decide
   rw[bg]at ad;have K:=aa (ED wr u z ad F.1 F.2);have HZ:=aa (And.intro hz bl);obtain⟨sa,so,sd,rfl,-⟩:=id ad;obtain⟨zl,bn⟩:∃x,x=z.length:=⟨_,rfl⟩;rw[←bn]at K k1;have bR:(0:Int)≤(i:Int):=by omega
   have bS:(i:Int)<2:=by omega
   clear hu ad hz bg bl F k0 bn;go_wp2_with fail;refine K.o.mono ?_;intro e w3 hq;obtain⟨s,g,cc,rfl,h1,h2,h3,h4,G4⟩:=hq;obtain⟨v',w9,br,G3,a5,bK⟩:=jH (P:=prog) 99 101 i0 _ 1 16 underlying99 HI.o.1 HI.o.2.1 HI.o.2.2.1 HI.o.2.2.2 rfl (by decide) (A.o.row.upd G4 (by simp)) ((ae w3).alloc (.cells #[seV s] 101 (0,0))) [seV s] rfl (kB rfl) w3.heap.size 101 (an _) (aW A.o.upd.size G4.size) (by unfold maxLen;omega) (by omega);have hX:zg w w9 v' (tm S i s) (tm G i g) (tm Cc i cc) (i+1):=A.o.next G4 (by rw[←HZ.o.2];exact h1) (by rw[←HZ.o.1];exact h2) ⟨h3,h4⟩ G3.o ((A.o.upd.then G4 (by simp)).then a5.o (fun b hb hl=>by have:=A.o.row.2 b (by simpa using hb);omega)) a5.o;have HX:=aa hX;clear h1 h2 h3 h4 G4 G3 a5 bK hX K k1;go_wp2_with (at_builtin;refine bc rfl _ _ _ rfl _ _ _ _ rfl rfl br.o ?_);go_roundg (2-(i+1))
   case measure=>have:=Hi.o;omega
   case rel=>exact⟨i+1,_,_,_,by simp,aa (by have:=Hi.o;omega),HX⟩
  ·obtain rfl:i=2:=by have:=Hi.o;omega
   have w0:=af (A.o.upd.blk W.o.2.1 (by simp)) 0;have s0:=af (A.o.upd.blk W.o.2.2.1 (by simp)) 0;obtain⟨q7,c7,rfl⟩:∃q c,u7=.slice (some ⟨q,0,none⟩) 2 c:=by
    rcases A.o.row.shape with⟨_,e2,_⟩|⟨g,c,e,_⟩
    ·omega
    ·exact⟨g,c,e⟩
   have K:=aa (zH wr q7 c7 S G Cc nAt (fun j hj=>⟨(A.o.ser j hj).1,ww A.o.row j _ (by
    match j,hj with
    |0,_=>rfl
    |1,_=>rfl)⟩))
   go_upto_region 13 with fail
   clear w0;go_wp2_with fail;refine K.o.mono ?_;intro e w5 hq;obtain⟨C,B,Xs,cs,rfl,hM⟩:=hq;have hg:∀j,j<2→w.heap.size≤G j∧G j<wr.heap.size:=fun j hj=>⟨(A.o.ser j hj).2.2.1,(A.o.ser j hj).2.2.2⟩;obtain⟨X1,X2,hch⟩:=hM.cm (T:=w.heap.size) hg (A.o.dis 0 1 (by omega) (by omega)) (A.o.ser 0 (by omega)).2.1 (A.o.ser 1 (by omega)).2.1;have d:Hid (Upd [] w w5):=aa (A.o.upd.then hM.upd (by simp));have Ig:qJ w.heap.size w5 vs:=by obtain⟨q,o,c,e,hq,hc⟩:=HD.o.2;exact⟨q,o,c,e,hq,fun j hj=>⟨d.o.cell (by simp) (hc j hj).1,d.o.cell (by simp) (hc j hj).2⟩⟩
   have K2:=aa (Es w.heap.size w5 vs C B X1 X2 (G 0) (G 1) (Cc 0) (Cc 1) hch Ig d.o.size);have s5:=af (d.o.blk W.o.2.2.1 (by simp)) 0;have mE:=Ec;clear hg hch Ig hM s0 K;go_wp2_with fail;refine K2.o.mono ?_;intro e w6 hq;obtain⟨av,rfl,G3,bv,a0⟩:=hq;obtain⟨r,rc,rfl⟩:∃g c,av=.slice (some ⟨g,0,none⟩) 4 c:=by
    rcases G3.shape with⟨_,e2,_⟩|⟨g,c,e,_⟩
    ·omega
    ·exact⟨g,c,e⟩
   have bL:=lt_of_block W.o.2.2.2.1;have hKl:=lt_of_block W.o.2.2.2.2.1;have a1:w6.heap[D]? =some (.cells #[.slice none 0 0] 49 (0,0)):=by rw[a0.block D bL];exact d.o.blk W.o.2.2.2.1 (by simp)
   have bw:w6.heap[V]? =some (.cells #[.bool false] 4 (0,0)):=by rw[a0.block V hKl];exact d.o.blk W.o.2.2.2.2.1 (by simp)
   obtain⟨w7,a2⟩:∃x,x=w6.setCell ⟨D,0,none⟩ (.slice (some ⟨r,0,none⟩) 4 rc):=⟨_,rfl⟩;have O:Upd [D] w6 w7:=by rw[a2];exact((ae _).mono (by simp)).setCell (by simp) _
   have bA:w7.heap[D]? =some (.cells #[.slice (some ⟨r,0,none⟩) 4 rc] 49 (0,0)):=by rw[a2];exact au a1 0 _
   have bB:=O.blk bw (by simpa using aF W.o.2.2.2.2.2);have bM:w.heap.size≤r:=by have:=G3.2 r rfl;have:=d.o.size;omega
   have U:aP w w7 53 3 4 (.slice (some ⟨r,0,none⟩) 4 rc) (ly 4):=(G3.old d.o.size).upd O (fun b hb=>by simp only[ah,ai,or_false]at hb;subst hb;simp only[Value.ownBlock,ne_eq,aM];omega)
   have KE:Hid (Calls prog 294 #[ptr C 0] w7 fun e w'=>e=.returned .nilIface∧Upd [] w7 w'):=aa (by
    obtain⟨G',c',h4⟩:=bv;have h7:=h4.upd O (fun b hb hm=>by simp only[ah,ai,or_false]at hb;subst hb;have:=(h4.new _ hm).1;omega)
    exact E7 w7 C B X1 X2 h7.cells.1 h7.cells.2.2.2.2.2.1 h7.cells.2.2.2.2.2.2.1)
   have bO:Hid (Upd [] w w6):=aa (d.o.then (Upd.ofBelow' a0 d.o.size) (fun b hb hl=>by have:=List.mem_filter.1 hb;simp at this;omega));have H7:=aa (And.intro O (And.intro bA (And.intro bB U)));have a6:=af a1 0;have f6:=ao a1 0;clear G3 bv a0 a1 bw O bA bB U K2 bM;go_upto_region 33 with fail
   rw[←a2];clear a2 a6 f6;go_wp2_with fail;refine KE.o.mono ?_;rintro e w8 ⟨rfl,a7⟩;have a3:=a7.blk H7.o.2.2.1 (by simp);have k8:=af a3 0;have g8:=ao a3 0;have H8:=aa (And.intro a7 a3);clear a7 a3 KE;go_wp2_with fail;go_end0
   have a9:Upd [V] w8 (w8.setCell ⟨V,0,none⟩ (.bool true)):=((ae _).mono (by simp)).setCell (by simp) _;refine⟨rfl,_,a9.blk (H8.o.1.blk H7.o.2.1 (by simp)) (by simpa using W.o.2.2.2.2.2),(H7.o.2.2.2.upd H8.o.1 (by simp)).upd a9 (fun b hb e=>?_),au H8.o.2 0 _,?_⟩
   ·simp only[ah,ai,or_false]at hb;subst hb;have:=H7.o.2.2.2.2 b e;omega
   ·exact(((bO.o.mono (M:=[D,V]) (by simp)).then (H7.o.1.mono (M:=[D,V]) (by simp)) (fun b hb _=>hb)).then H8.o.1 (by simp)).then a9 (fun b hb _=>by simp only[ah,ai,or_false]at hb;subst hb;simp)
theorem BO(w:World)(A D o3 F G O:Obj):∃w1,w1=(((((w.alloc A).alloc D).alloc o3).alloc F).alloc G).alloc O∧Upd [] w w1∧w1.heap[w.heap.size]? =some A∧w1.heap[w.heap.size+1]? =some D∧w1.heap[w.heap.size+1+1]? =some o3∧w1.heap[w.heap.size+1+1+1]? =some F∧w1.heap[w.heap.size+1+1+1+1]? =some G∧w1.heap[w.heap.size+1+1+1+1+1]? =some O∧w1.heap.size=w.heap.size+6:=by
 obtain⟨U,V,W,a1,a2,a3,d⟩:=kK w A D o3;obtain⟨wb,hb,z,b1,b2,b3,ad⟩:=kK U F G O;refine⟨wb,by rw[hb,V],W.then z (by simp),z.blk a1 (by simp),z.blk a2 (by simp),z.blk a3 (by simp),?_,?_,?_,by omega⟩
 ·rw[d]at b1;exact b1
 ·rw[d]at b2;exact b2
 ·rw[d]at b3;exact b3
theorem Fz{w:World}(V:Array Value)(L:List Nat)(hL:∀b∈L,b<w.heap.size)(z:World→Prop)
 (W:∀w1,Upd [] w w1→w.heap.size<w1.heap.size→Calls prog 33 V w1 fun e w2=>e=.returned (.tuple #[])∧Upd L w1 w2∧z w2):
 Calls prog 22 #[.func (.func 33) #[] V] w fun e w'=>e=.returned (.bool true)∧∃w2,z w2∧Upd [w.heap.size] w2 w'∧Upd L w w':=by
 have ad:∀(fn:Fn) (first cap:Array Value) (w:World),(Instr.makeFunc fn first cap).run prog w=.ok (.func fn first cap) w:=fun _ _ _ _=>rfl;have A:Upd [] w (w.alloc (.cells #[.bool false] 4 (0,0))):=(ae w).alloc _;have D:(w.alloc (.cells #[.bool false] 4 (0,0))).heap[w.heap.size]? =some (.cells #[.bool false] 4 (0,0)):=an _;have HC:=aa (W _ A (by rw[aJ];omega));have G:=aa A;have O:=aa D;have HL:=aa hL;clear W A D hL;go_enter_defers func22,ntmps22
 go_wp2_with fail;refine HC.o.mono ?_;rintro e w2 ⟨rfl,hu,hp⟩;have d:=hu.blk O.o (fun h=>absurd (HL.o _ h) (cR _));have c0:=af d 0;have f0:=ao d 0;have F:=aa (And.intro hp (And.intro hu d));clear hp hu d;go_wp2_with fail;refine leaves_cons (f:=53) (args:= #[.pointer (some ⟨w.heap.size,0,none⟩)]) (by simp) (by simp[go_sem]) ?_;refine(A2 w.heap.size _ (.bool true) (au F.o.2.2 0 _)).mono ?_;rintro e u' a0 ⟨rfl,rfl,rfl⟩;have G4:Upd [w.heap.size] w2 ((w2.setCell ⟨w.heap.size,0,none⟩ (.bool true)).setCell ⟨w.heap.size,0,none⟩ (.bool true)):=(((ae w2).mono (by simp)).setCell (by simp) _).setCell (by simp) _;have U:=au (au F.o.2.2 0 (.bool true)) 0 (.bool true);have c3:=af U 0;refine⟨.bool true,?_,rfl,w2,F.o.1,G4,((G.o.mono (by simp)).then F.o.2.1 (fun _ h _=>h)).then G4 (fun b hb hl=>by simp at hb;omega)⟩;simp[results,results22,go_sem,c3]
def FY(w:World)(e:Ending)(w':World):Prop:=∃r rc,e=.returned (.tuple #[.slice (some ⟨r,0,none⟩) 4 rc,.bool true])∧xD w' r∧Upd [] w w'
theorem xQ(w:World)(vl vs:Value)(hl:sj w vl LL)(hs:qJ w.heap.size w vs):Calls prog 17 #[.int .i64 0,vl,vs,.bool false] w (FY w):=by
 obtain⟨w1,a1,G,bW,bL,bS,bR,bA,bK,a3⟩:=BO w (.cells #[.int .i64 0] 3 (0,0)) (.cells #[vl] 45 (0,0)) (.cells #[vs] 48 (0,0)) (.cells #[.bool false] 4 (0,0)) (.cells #[.slice none 0 0] 49 (0,0)) (.cells #[.bool false] 4 (0,0));obtain⟨p,hp⟩:∃p,p=w.heap.size:=⟨_,rfl⟩;rw[←hp]at bW bL bS bR bA bK;have a4:∀W,Upd [] w1 W→qJ W.heap.size W vs:=fun W d=>by obtain⟨q,o,c,e,hq,hc⟩:=hs;have hu:=G.then d (by simp);exact⟨q,o,c,e,by have:=hu.size;omega,fun j hj=>⟨hu.cell (by simp) (hc j hj).1,hu.cell (by simp) (hc j hj).2⟩⟩
 have HC:=aa (Fz (w:=w1) #[ptr (p+1+1+1) 0,ptr (p+1) 0,ptr p 0,ptr (p+1+1) 0,ptr (p+1+1+1+1) 0,ptr (p+1+1+1+1+1) 0] [p+1+1+1+1,p+1+1+1+1+1] (by intro b hb;simp at hb;omega) (fun w2=>∃av wb,w2.heap[p+1+1+1+1]? =some (.cells #[av] 49 (0,0))∧aP wb w2 53 3 4 av (ly 4)∧w1.heap.size<wb.heap.size∧w2.heap[p+1+1+1+1+1]? =some (.cells #[.bool true] 4 (0,0))) (fun W d a7=>
  (vD W vl vs _ _ _ _ _ _ (d.blk bR (by simp)) (d.blk bL (by simp)) (d.blk bW (by simp)) (d.blk bS (by simp)) (d.blk bA (by simp)) (d.blk bK (by simp)) (by omega) (hl.upd (G.then d (by simp))) (a4 W d)).mono fun e w2 hq=>by obtain⟨h1,av,h2,h3,h4,h5⟩:=hq;exact⟨h1,h5,av,W,h2,h3,a7,h4⟩))
 obtain⟨vb,vo,vc,rfl,-⟩:=hl;rw[show LL.length=2 from rfl]at a1;obtain⟨a9,so,sc,rfl,-⟩:=hs;have HB:=aa (And.intro G (And.intro a3 hp));have bb:∀(fn:Fn) (first cap:Array Value) (w:World),(Instr.makeFunc fn first cap).run prog w=.ok (.func fn first cap) w:=fun _ _ _ _=>rfl;clear G a3 bW bL bS bR bA bK a4;go_enter func17,ntmps17
 go_upto_region 1 with fail
 rw[←hp];rw[←a1];clear hp a1;go_wp2_with fail;refine HC.o.mono ?_;rintro e A ⟨rfl,w6,⟨av,wb,k1,k2,k3,k4⟩,O,a2⟩;obtain⟨r,rc,rfl⟩:∃g c,av=.slice (some ⟨g,0,none⟩) 4 c:=by
  rcases k2.shape with⟨_,e2,_⟩|⟨g,c,e,_⟩
  ·omega
  ·exact⟨g,c,e⟩
 have a5:=k2.2 r rfl;obtain⟨z,U⟩:∃x,x=p+1+1+1+1:=⟨_,rfl⟩;rw[←U]at k1 k4 a2;rw[←U];have V:=O.blk k1 (by have:=HB.o.2;simp;omega);have F:=O.blk k4 (by have:=HB.o.2;simp;omega);have a6:=k2.upd O (fun b hb e=>by simp only[ah,ai,or_false]at hb;subst hb;have:=k2.2 _ e;omega);have c4:A.cell? ⟨z,0,none⟩=some (.slice (some ⟨r,0,none⟩) 4 rc):=af V 0;have c5:A.cell? ⟨z+1,0,none⟩=some (.bool true):=af F 0;have f4:=ao V 0;have f5:=ao F 0;have ad:Upd [] w A:=HB.o.1.then a2 (fun b hb hl=>by have:=HB.o.2;simp at hb;omega);have D:Upd [z] A (A.setCell ⟨z,0,none⟩ (.slice (some ⟨r,0,none⟩) 4 rc)):=((ae A).mono (by simp)).setCell (by simp) _;have bd:=D.cell (by simp) c5;have be:=ao (D.blk F (by simp)) 0;have H7:=aa (And.intro V (And.intro F (And.intro a6 (And.intro ad (And.intro U (And.intro a5 k3))))));clear D k1 k2 k3 k4 O a2 V F a6 ad U a5 HC;go_wp2_with fail;have D:Upd [z] A (A.setCell ⟨z,0,none⟩ (.slice (some ⟨r,0,none⟩) 4 rc)):=((ae A).mono (by simp)).setCell (by simp) _;have a0:Upd [z,z+1] A ((A.setCell ⟨z,0,none⟩ (.slice (some ⟨r,0,none⟩) 4 rc)).setCell ⟨z+1,0,none⟩ (.bool true)):=(D.mono (by simp)).setCell (by simp) _;have e5:=af (au (D.blk H7.o.2.1 (by simp)) 0 (.bool true)) 0;have e4:((A.setCell ⟨z,0,none⟩ (.slice (some ⟨r,0,none⟩) 4 rc)).setCell ⟨z+1,0,none⟩ (.bool true)).cell? ⟨z,0,none⟩=some (.slice (some ⟨r,0,none⟩) 4 rc):=by have h:Upd [z+1] (A.setCell ⟨z,0,none⟩ (.slice (some ⟨r,0,none⟩) 4 rc)) ((A.setCell ⟨z,0,none⟩ (.slice (some ⟨r,0,none⟩) 4 rc)).setCell ⟨z+1,0,none⟩ (.bool true)):=((ae _).mono (by simp)).setCell (by simp) _;exact h.cell (by simp) (af (au H7.o.1 0 _) 0)
 refine bodyPost_ret (v:=.tuple #[.slice (some ⟨r,0,none⟩) 4 rc,.bool true]) (by simp[results,results17,go_sem,e4,e5]) rfl ?_;have bg:r≠z∧r≠z+1:=by have:=H7.o.2.2.2.2;have:=HB.o.2;omega
 refine⟨r,rc,rfl,Cd (H7.o.2.2.1.upd a0 (fun b hb e=>?_)),H7.o.2.2.2.1.then a0 (fun b hb hl=>by have:=HB.o.2;have:=H7.o.2.2.2.2.1;simp at hb;omega)⟩;simp only[Value.ownBlock,aM]at e;simp only[ah,ai,or_false]at hb;omega
theorem BN(w:World)(D F o3 d:Obj):∃w1,w1=(((w.alloc D).alloc F).alloc o3).alloc d∧Upd [] w w1∧w1.heap[w.heap.size]? =some D∧w1.heap[w.heap.size+1]? =some F∧w1.heap[w.heap.size+1+1]? =some o3∧w1.heap[w.heap.size+1+1+1]? =some d∧w1.heap.size=w.heap.size+4:=by obtain⟨z,O,U,V,a2,a3,G⟩:=kK w D F o3;have A:Upd [] z (z.alloc d):=(ae _).alloc _;refine⟨z.alloc d,by rw[O],U.then A (by simp),A.blk V (by simp),A.blk a2 (by simp),A.blk a3 (by simp),?_,by rw[aJ];omega⟩;have:=an (w:=z) d;rw[G]at this;exact this
theorem vY(w:World):Calls prog 6 #[] w (xF w):=by
 obtain⟨p,G⟩:∃p,p=w.heap.size:=⟨_,rfl⟩;obtain⟨w1,z,A,b1,b2,b3,b4,O⟩:=BN w (.cells #[.int .i64 1,.int .u64 1,.int .i64 3,.int .u64 3] 43 (0,0)) (.cells #[.int .i64 2,.int .u64 2] 43 (0,0)) (.cells #[.slice (some ⟨p,0,none⟩) 2 2,.slice (some ⟨p+1,0,none⟩) 1 1] 44 (0,0)) (.cells #[.bool false,.int .i64 0,.bool false,.int .i64 0,.bool false,.int .i64 0,.bool false,.int .i64 0] 47 (0,0));rw[←G]at b1 b2 b3 b4;have hG:sj w1 (.slice (some ⟨p+1+1,0,none⟩) 2 2) LL:=⟨_,0,2,rfl,fun i hi=>by
  match i,hi with
  |0,_=>exact⟨.slice (some ⟨p,0,none⟩) 2 2,af b3 0,p,0,2,rfl,fun j d=>by
    match j,d with
    |0,_=>exact⟨af b1 0,af b1 1⟩
    |1,_=>exact⟨af b1 2,af b1 3⟩⟩
  |1,_=>exact⟨.slice (some ⟨p+1,0,none⟩) 1 1,af b3 1,p+1,0,1,rfl,fun j d=>by
    match j,d with
    |0,_=>exact⟨af b2 0,af b2 1⟩⟩⟩
 have hS:qJ w1.heap.size w1 (.slice (some ⟨p+1+1+1,0,none⟩) 4 4):=⟨_,0,4,rfl,lt_of_block b4,fun j d=>by
  match j,d with
  |0,_=>exact⟨af b4 0,af b4 1⟩
  |1,_=>exact⟨af b4 2,af b4 3⟩
  |2,_=>exact⟨af b4 4,af b4 5⟩
  |3,_=>exact⟨af b4 6,af b4 7⟩⟩
 have F:=aa (And.intro hG hS);have U:=aa A;clear A b1 b2 b3 b4 O hG hS;go_enter func6,ntmps6
 go_upto_region 3 with fail
 rw[←G];rw[←z];clear G z;go_wp2_with fail;refine(xQ w1 _ _ F.o.1 F.o.2).mono ?_;intro e w2 hq;obtain⟨r,rc,rfl,hg,hu⟩:=hq;have V:=aa hu;have t1:w2.cell? ⟨r,1*3+1,none⟩=some (.int .i64 2):=hg 1 (by omega) 1 (.int .i64 2) rfl;have D:qJ w1.heap.size w2 (.slice (some ⟨p+1+1+1,0,none⟩) 4 4):=by obtain⟨q,o,c,e,hq,hc⟩:=F.o.2;exact⟨q,o,c,e,hq,fun j d=>⟨hu.cell (by simp) (hc j d).1,hu.cell (by simp) (hc j d).2⟩⟩
 have K:=aa (uA w1.heap.size w2 _ _ r rc (F.o.1.upd hu) D hg);clear hg hu D;go_wp2_with fail;refine K.o.mono ?_;rintro e w3 ⟨rfl,G4⟩;have W:=aa G4;clear G4 K;go_wp2_with fail;refine bodyPost_ret (v:=.bool true) (by simp[results,results6]) rfl ⟨rfl,(U.o.then V.o (by simp)).then W.o (by simp)⟩
end Go.Proofs.YtlgefdfflmgocaaGreatDoor
