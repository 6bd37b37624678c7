import Derived.Test.YtlgefdfflmgocaaGreatDoorQ23
import Derived.Test.YtlgefdfflmgocaaGreatDoorQ39
set_option linter.all false
set_option maxRecDepth 100000
set_option maxHeartbeats 2000000
namespace Go.Proofs.YtlgefdfflmgocaaGreatDoor
open Go Go.RowKit Xc Go.Proofs.Tryz
attribute [local go_sem ↓] Go.wp_at_zero Go.wp_at_succ
theorem sM(X g c:Nat)(l:List (Int×Nat))(i:Int)(k:Nat)(w:World)(h:LsI w X g c l i)(z:i+1=k)(d:k<l.length):Calls prog 341 #[ptr X 0] w fun e w'=>e=.returned (.int .u8 1)∧LsI w' X g c l k∧Upd [X] w w':=
 (Ax X g c l i k w h z (by have:=h.few;omega)).mono fun e w' hq=>⟨by rw[hq.1,if_pos d],hq.2⟩
theorem xb(X g c:Nat)(l:List (Int×Nat))(i:Int)(k:Nat)(w:World)(h:LsI w X g c l i)(d:i+1=k)(z:k=l.length):Calls prog 341 #[ptr X 0] w fun e w'=>e=.returned (.int .u8 0)∧LsI w' X g c l k∧Upd [X] w w':=
 (Ax X g c l i k w h d (by have:=h.few;omega)).mono fun e w' hq=>⟨by rw[hq.1,if_neg (by omega)],hq.2⟩
abbrev L1:List (Int×Nat):=[(1,1),(3,3)]
abbrev L2:List (Int×Nat):=[(2,2)]
structure Cm(T:Nat)(w:World)(C B X1 X2 g1 g2 c1 c2:Nat)(hv cv:Value)(lt:Int)(cb:Bool)(i1 i2:Int):Prop where
 blk:w.heap[C]? =some (.cells #[.slice (some ⟨B,0,none⟩) 2 2,hv,cv,.int .i64 lt,.bool cb] 198 (0,0))
 its:w.heap[B]? =some (.cells #[lsV X1,lsV X2] 93 (0,0))
 l1:LsI w X1 g1 c1 L1 i1
 l2:LsI w X2 g2 c2 L2 i2
 dis:[C,B,X1,X2,g1,g2].Nodup
 new:∀b∈[C,B,X1,X2,g1,g2],T≤b∧b<w.heap.size
section
variable {T:Nat} {w w':World} {C B X1 X2 g1 g2 c1 c2:Nat} {hv cv:Value} {lt:Int} {cb:Bool} {i1 i2:Int} {L:List Nat}
theorem Cm.upd(h:Cm T w C B X1 X2 g1 g2 c1 c2 hv cv lt cb i1 i2)(hu:Upd L w w')(hL:∀b∈L,b∉[C,B,X1,X2,g1,g2]):Cm T w' C B X1 X2 g1 g2 c1 c2 hv cv lt cb i1 i2:=by have hn:∀b∈[C,B,X1,X2,g1,g2],b∉L:=fun b hb hm=>hL b hm hb;exact⟨hu.blk h.blk (hn _ (by simp)),hu.blk h.its (hn _ (by simp)),h.l1.upd hu (hn _ (by simp)) (hn _ (by simp)),h.l2.upd hu (hn _ (by simp)) (hn _ (by simp)),h.dis,fun b hb=>⟨(h.new b hb).1,bD (h.new b hb).2 hu.size⟩⟩
theorem Cm.nw(h:Cm T w C B X1 X2 g1 g2 c1 c2 hv cv lt cb i1 i2)(hu:Upd [] w w'):Cm T w' C B X1 X2 g1 g2 c1 c2 hv cv lt cb i1 i2:=h.upd hu (by simp)
theorem Cm.own(h:Cm T w C B X1 X2 g1 g2 c1 c2 hv cv lt cb i1 i2)(hu:Upd L w w')(hL:∀b∈L,b∉[B,X1,X2,g1,g2]){d z:Value}{A:Int}{D:Bool}(hb:w'.heap[C]? =some (.cells #[.slice (some ⟨B,0,none⟩) 2 2,d,z,.int .i64 A,.bool D] 198 (0,0))):Cm T w' C B X1 X2 g1 g2 c1 c2 d z A D i1 i2:=by have hn:∀b∈[B,X1,X2,g1,g2],b∉L:=fun b hb hm=>hL b hm hb;exact⟨hb,hu.blk h.its (hn _ (by simp)),h.l1.upd hu (hn _ (by simp)) (hn _ (by simp)),h.l2.upd hu (hn _ (by simp)) (hn _ (by simp)),h.dis,fun b hb=>⟨(h.new b hb).1,bD (h.new b hb).2 hu.size⟩⟩
theorem Cm.st1(h:Cm T w C B X1 X2 g1 g2 c1 c2 hv cv lt cb i1 i2)(hu:Upd [X1] w w'){k:Int}(hb:LsI w' X1 g1 c1 L1 k):Cm T w' C B X1 X2 g1 g2 c1 c2 hv cv lt cb k i2:=by have d:=h.dis;simp only[a8,ah,ai,or_false,not_or]at d;exact⟨hu.blk h.blk (by simp[d]),hu.blk h.its (by simp[d]),hb,h.l2.upd hu (by simp[aF d.2.2.1.1]) (by simp[aF d.2.2.1.2.2]),h.dis,fun b hb=>⟨(h.new b hb).1,bD (h.new b hb).2 hu.size⟩⟩
theorem Cm.st2(h:Cm T w C B X1 X2 g1 g2 c1 c2 hv cv lt cb i1 i2)(hu:Upd [X2] w w'){k:Int}(hb:LsI w' X2 g2 c2 L2 k):Cm T w' C B X1 X2 g1 g2 c1 c2 hv cv lt cb i1 k:=by have d:=h.dis;simp only[a8,ah,ai,or_false,not_or]at d;exact⟨hu.blk h.blk (by simp[d]),hu.blk h.its (by simp[d]),h.l1.upd hu (by simp[d]) (by simp[aF d.2.2.2.1.1]),hb,h.dis,fun b hb=>⟨(h.new b hb).1,bD (h.new b hb).2 hu.size⟩⟩
theorem Cm.cells(h:Cm T w C B X1 X2 g1 g2 c1 c2 hv cv lt cb i1 i2):w.cell? ⟨C,0,none⟩=some (.slice (some ⟨B,0,none⟩) 2 2)∧w.cell? ⟨C,1,none⟩=some hv∧w.cell? ⟨C,2,none⟩=some cv∧w.cell? ⟨C,3,none⟩=some (.int .i64 lt)∧w.cell? ⟨C,4,none⟩=some (.bool cb)∧w.cell? ⟨B,0,none⟩=some (lsV X1)∧w.cell? ⟨B,1,none⟩=some (lsV X2)∧
 w.frozen? ⟨C,1,none⟩=false∧w.frozen? ⟨C,2,none⟩=false∧w.frozen? ⟨C,3,none⟩=false∧w.frozen? ⟨C,4,none⟩=false:=
 ⟨af h.blk 0,af h.blk 1,af h.blk 2,af h.blk 3,af h.blk 4,af h.its 0,af h.its 1,ao h.blk 1,ao h.blk 2,ao h.blk 3,ao h.blk 4⟩
theorem Cm.C_not(h:Cm T w C B X1 X2 g1 g2 c1 c2 hv cv lt cb i1 i2):C∉[B,X1,X2,g1,g2]:=(List.nodup_cons.1 h.dis).1
end
def HvR(T:Nat)(w:World)(C B X1 X2 g1 g2:Nat)(hv:Value)(ys:List Nat):Prop:=∃G c wb,hv=.slice (some ⟨G,0,none⟩) ys.length c∧ys.length≤c∧aP wb w 93 1 ys.length hv (ys.map lsV)∧wb.heap.size≤w.heap.size∧T≤G∧G∉[C,B,X1,X2,g1,g2]
theorem HvR.of{T:Nat}{wb w:World}{C B X1 X2 g1 g2 n:Nat}{hv:Value}{ys:List Nat}(hr:aP wb w 93 1 n hv (ys.map lsV))(hn:ys.length=n)(A:0<n)(d:wb.heap.size≤w.heap.size)(hT:T≤wb.heap.size)(hL:∀b∈[C,B,X1,X2,g1,g2],b<wb.heap.size):HvR T w C B X1 X2 g1 g2 hv ys:=by
 rcases hr.1.2 with⟨_,z⟩|⟨G,c,cur,rfl,_,_,z,_⟩
 ·omega
 ·have hG:=hr.2 G rfl;exact⟨G,c,wb,by rw[hn],by omega,by rw[hn];exact hr,d,by omega,fun hm=>by have:=hL G hm;omega⟩
theorem HvR.upd{T:Nat}{w w':World}{C B X1 X2 g1 g2:Nat}{hv:Value}{ys:List Nat}{L:List Nat}(h:HvR T w C B X1 X2 g1 g2 hv ys)(hu:Upd L w w')(hL:∀b∈L,b∈[C,B,X1,X2,g1,g2]):HvR T w' C B X1 X2 g1 g2 hv ys:=by obtain⟨G,c,wb,rfl,h1,d,z,h4,h5⟩:=h;exact⟨G,c,wb,rfl,h1,d.upd hu (fun b hb e=>by simp only[Value.ownBlock,aM]at e;subst e;exact h5 (hL _ hb)),aW z hu.size,h4,h5⟩
theorem HvR.at0{T:Nat}{w:World}{C B X1 X2 g1 g2 G c n:Nat}{y:Nat}{ys:List Nat}(h:HvR T w C B X1 X2 g1 g2 (.slice (some ⟨G,0,none⟩) n c) (y::ys)):w.cell? ⟨G,0,none⟩=some (lsV y):=by obtain⟨z,A,wb,e,h1,d,D,h4,h5⟩:=h;simp only[bx,aM,eD,and_true]at e;obtain⟨rfl,rfl,rfl⟩:=e;have:=d.1.cells (g:=G) rfl 0 (lsV y) rfl;rw[aO,aK]at this;exact this
theorem aP.typed{b0 w:World}{e k n:Nat}{v:Value}{xs:List Value}(h:aP b0 w e k n v xs):∀b∈v.ownBlock.toList,∃cs,w.heap[b]? =some (.cells cs e (0,0)):=fun b hb=>by
 rcases h.1.2 with⟨rfl,_⟩|⟨z,A,cur,rfl,_,d,_⟩
 ·simp[Value.ownBlock]at hb
 ·simp only[Value.ownBlock,Option.toList_some,ah,ai,or_false]at hb;subst hb;exact⟨cur,d⟩
structure jx(T:Nat)(S:List Nat)(w w':World):Prop where
 bel:Below T w w'
 keep:∀(b:Nat) (o:Obj),w.heap[b]? =some o→b∉S→(∀cs,o≠.cells cs 93 (0,0))→w'.heap[b]? =some o
theorem jx.of{T:Nat}{S L:List Nat}{w w':World}(hu:Upd L w w')(hT:T≤w.heap.size)(hL:∀b∈L,T≤b∧(b∈S∨∃cs,w.heap[b]? =some (.cells cs 93 (0,0)))):jx T S w w':=
 ⟨hu.below hT (fun b hb=>(hL b hb).1),fun b o z hS d=>hu.blk z (fun hb=>by
   rcases(hL b hb).2with h|⟨cs,h⟩
   ·exact hS h
   ·rw[z]at h;exact d cs (by simpa using h))⟩
theorem jx.trans{T:Nat}{S:List Nat}{a b c:World}(h:jx T S a b)(k:jx T S b c):jx T S a c:=⟨h.bel.trans k.bel,fun x o d hs h9=>k.keep x o (h.keep x o d hs h9) hs h9⟩
theorem jx.row{T:Nat}{S:List Nat}{b0 w w':World}{e k n:Nat}{v:Value}{xs:List Value}(h:jx T S w w')(hr:aP b0 w e k n v xs)(he:e≠93)(hS:∀b,v.ownBlock=some b→b∉S):aP b0 w' e k n v xs:=by
 obtain⟨⟨h1,d⟩,A⟩:=hr;refine⟨⟨h1,?_⟩,A⟩;rcases d with d|⟨G,c,cur,rfl,a,hb,r⟩
 ·exact .inl d
 ·exact .inr ⟨G,c,cur,rfl,a,h.keep G _ hb (hS G rfl) (fun cs z=>by simp only[Obj.cells.injEq]at z;exact he z.2.1),r⟩
theorem Cm.below{T:Nat}{w w':World}{C B X1 X2 g1 g2 c1 c2:Nat}{hv cv:Value}{lt:Int}{cb:Bool}{i1 i2:Int}{L:List Nat}(h:Cm T w C B X1 X2 g1 g2 c1 c2 hv cv lt cb i1 i2)(hu:Upd L w w')(hL:∀b∈L,b∈[C,B,X1,X2,g1,g2]):jx T [C,B,X1,X2,g1,g2] w w':=
 jx.of hu (by have:=h.new C (by simp);omega) (fun b hb=>⟨(h.new b (hL b hb)).1,.inl (hL b hb)⟩)
theorem atT{X g c i:Nat}{l:List (Int×Nat)}{w:World}(h:LsI w X g c l i)(d:i<l.length)(t:Int)(z:l[i].1=t):Calls prog 339 #[ptr X 0] w fun e w'=>e=.returned (.int .i64 t)∧Upd [] w w':=by rw[←z];exact Av X g c i l w h d
def F6(T:Nat)(w:World)(C B X1 X2 g1 g2 c1 c2:Nat)(e:Ending)(w':World):Prop:=e=.returned (.int .u8 1)∧(∃hv,Cm T w' C B X1 X2 g1 g2 c1 c2 hv (lsV X1) 1 false 0 0∧HvR T w' C B X1 X2 g1 g2 hv [X2])∧jx T [C,B,X1,X2,g1,g2] w w'
theorem BQ(T:Nat)(w:World)(C B X1 X2 g1 g2 c1 c2:Nat)(h:Cm T w C B X1 X2 g1 g2 c1 c2 (.slice none 0 0) .nilIface (-9223372036854775808) false (-1) (-1))(hT:T≤w.heap.size):Calls prog 295 #[ptr C 0] w (F6 T w C B X1 X2 g1 g2 c1 c2):=by
 obtain⟨A,d,D,F,O,U,V,W,f2,f3,f4⟩:=h.cells;have HT:=aa hT;obtain⟨E,hE⟩:∃E,E=w.heap.size:=⟨_,rfl⟩;obtain⟨w1,ad⟩:∃x,x=(w.alloc (.cells #[] 93 (0,0))).setCell ⟨C,1,none⟩ (.slice (some ⟨E,0,none⟩) 0 0):=⟨_,rfl⟩;have a0:Upd [] w (w.alloc (.cells #[] 93 (0,0))):=(ae _).alloc _;have bE:=(h.new C (by simp)).2;have z:Upd [C] w w1:=by rw[ad];exact(a0.mono (by simp)).setCell (by simp) _
 have hb1:w1.heap[C]? =some (.cells #[.slice (some ⟨B,0,none⟩) 2 2,.slice (some ⟨E,0,none⟩) 0 0,.nilIface,.int .i64 (-9223372036854775808),.bool false] 198 (0,0)):=by rw[ad];exact au (a0.blk h.blk (by simp)) 1 _
 have h1:=h.own z (fun b hb=>by simp only[ah,ai,or_false]at hb;subst hb;exact h.C_not) hb1;have a1:w1.heap[E]? =some (.cells #[] 93 (0,0)):=by rw[ad,gv _ _ (by show E≠C;omega),hE];exact an _
 have H1:=aa (And.intro h1 (And.intro z (And.intro a1 hE)));have HH:=aa h;have qa:(w.alloc (.cells #[] 93 (0,0))).cell? ⟨C,1,none⟩=some (.slice none 0 0):=a0.cell (by simp) d;have fa:(w.alloc (.cells #[] 93 (0,0))).frozen? ⟨C,1,none⟩=false:=ao (a0.blk h.blk (by simp)) 1;have ca:∀w,(binOp .eql 196 (.slice none 0 0) (.slice none 0 0)).run prog w=.ok (.bool true) w:=fun w=>by kernel_rfl
 clear h h1 z hb1 a1 hT a0 bE;go_enter func295,ntmps295
 go_upto_region 7 with fail
 rw[←hE];rw[←ad];obtain⟨h1,z,a1,bK⟩:=H1.o;obtain⟨w2,a3⟩:∃x,x=w1.setCell ⟨C,2,none⟩ (lsV X1):=⟨_,rfl⟩;have a2:Upd [C] w1 w2:=by rw[a3];exact((ae _).mono (by simp)).setCell (by simp) _
 have hb2:w2.heap[C]? =some (.cells #[.slice (some ⟨B,0,none⟩) 2 2,.slice (some ⟨E,0,none⟩) 0 0,lsV X1,.int .i64 (-9223372036854775808),.bool false] 198 (0,0)):=by rw[a3];exact au h1.blk 2 _
 have h2:=h1.own a2 (fun b hb=>by simp only[ah,ai,or_false]at hb;subst hb;exact h1.C_not) hb2;have a4:E≠C:=by have:=(HH.o.new C (by simp)).2;omega
 have bb:=a2.blk a1 (by simpa using a4);have bd:aP w w2 93 1 0 (.slice (some ⟨E,0,none⟩) 0 0) []:=⟨⟨rfl,.inr ⟨E,0,#[],rfl,ay _,bb,aw _,by unfold maxLen;omega,rfl,rfl⟩⟩,fun b hb=>by simp only[Value.ownBlock,aM]at hb;omega⟩;have be:Hid (jx T [C,B,X1,X2,g1,g2] w w2):=aa (HH.o.below (z.then a2 (by simp)) (by simp));have H2:=aa (And.intro h2 (And.intro bd (And.intro a4 (And.intro a2.size z.size))));obtain⟨A,d,D,F,O,U,V,W,f2,f3,f4⟩:=h1.cells;clear h1 z a1 bK a2 hb2 h2 a4 bb bd hE ad;go_upto_region 8 with fail
 rw[←a3];clear A d D F O U V W f2 f3 f4 a3;obtain⟨A,d,D,F,O,U,V,W,f2,f3,f4⟩:=H2.o.1.cells;have mN:=pd;have mA:=sR;have mE:=qd;go_wp2_with fail;go_loopg [33] 1 (fun gg bL wx=>∃i:Nat,bL=.int .i64 i∧Hid (gg+i=1)∧Hid ((i=0→wx=w2)∧(i=1→∃hv,Cm T wx C B X1 X2 g1 g2 c1 c2 hv (lsV X1) (-9223372036854775808) false (-1) 0∧HvR T wx C B X1 X2 g1 g2 hv [X2]∧jx T [C,B,X1,X2,g1,g2] w wx)))
 case atStart=>exact⟨0,rfl,aa rfl,aa ⟨fun _=>rfl,fun h=>by omega⟩⟩
 case round=>
  obtain⟨i,rfl,Hi,HS⟩:=hrel;rcases gV i with hi|hi
  ·subst hi;obtain rfl:=HS.o.1 rfl;go_wp2_with fail;refine(sM X2 g2 c2 L2 (-1) 0 wr H2.o.1.l2 rfl (by decide)).mono ?_;rintro e w3 ⟨rfl,hl,hu⟩;have h3:=H2.o.1.st2 hu hl;have bg:∀b∈[C,B,X1,X2,g1,g2],b<w.heap.size:=fun b hb=>(HH.o.new b hb).2;have a5:=H2.o.2.1.upd hu (fun b hb=>by simp only[ah,ai,or_false]at hb;subst hb;have:=bg b (by simp);have h9:=H2.o.2.1.2 E rfl;simp only[Value.ownBlock,ne_eq,aM];omega)
   have a6:w.heap.size≤w3.heap.size:=aW (aW H2.o.2.2.2.2 H2.o.2.2.2.1) hu.size;have bM:Hid (jx T [C,B,X1,X2,g1,g2] w w3):=aa (be.o.trans (H2.o.1.below hu (by simp)));have K:=aa (yb C X2 _ (.slice (some ⟨E,0,none⟩) 0 0) w w3 h3.blk rfl a5 a6 (by simp only[Value.ownBlock,ne_eq,aM];exact H2.o.2.2.1) (by simp));have H3:=aa (And.intro h3 a6);have bO:=aa (aP.typed a5);clear hl hu h3 bg a5 a6 A d D F O U V W f2 f3 f4;go_wp2_with fail;refine K.o.mono ?_;intro e w4 hq;have HQ:=aa hq;obtain rfl:=hq.1;clear hq K;go_wp2_with fail;go_roundg 0
   case measure=>have:=Hi.o;omega
   case rel=>
    obtain⟨_,bR,hb4,bS,a7,cc⟩:=HQ.o;have cg:=H2.o.2.1.2 E rfl;have bl:∀b∈[C,E],b∉[B,X1,X2,g1,g2]:=fun b hb=>by
     simp only[ah,ai,or_false]at hb;rcases hb with rfl|rfl
     ·exact HH.o.C_not
     ·intro hm;have:=(HH.o.new b (aH _ hm)).2;omega
    refine⟨1,by simp,aa rfl,aa ⟨fun h=>by omega,fun _=>⟨bR,H3.o.1.own a7 bl hb4,HvR.of (ys:=[X2]) bS rfl (by omega) (aW H3.o.2 a7.size) HT.o (fun b hb=>(HH.o.new b hb).2),bM.o.trans (jx.of a7 (aW HT.o H3.o.2) (fun b hb=>?_))⟩⟩⟩;have hb:b∈[C,E]:=hb;simp only[ah,ai,or_false]at hb;rcases hb with rfl|rfl
    ·exact⟨(HH.o.new b (by simp)).1,.inl (by simp)⟩
    ·exact⟨by have:=HT.o;omega,.inr (bO.o b (by simp[Value.ownBlock]))⟩
  ·obtain rfl:i=1:=by have:=Hi.o;omega
   obtain⟨hv,h4,hR,bn⟩:=HS.o.2 rfl;have HR:=aa hR;obtain⟨G,c,wb,rfl,br,G3,bv,bw,bA⟩:=hR;have HG:=aa (And.intro G3 (And.intro bv (And.intro bw (And.intro bA br))));have H4:=aa h4;have bW:=aa bn;clear h4 bn G3 bv bw bA br A d D F O U V W f2 f3 f4 HS be hi;obtain⟨A,d,D,F,O,U,V,W,f2,f3,f4⟩:=H4.o.cells;simp only[aj,ar,aK]at d;go_wp2_with fail;go_upto_region 18 with fail
   go_loopg [5] 0 (fun gg s5 wx=>s5=.bool true∧wx=wr)
   case atStart=>exact⟨rfl,rfl⟩
   case round=>
    obtain⟨rfl,rfl⟩:=hrel;go_wp2_with fail;refine(sM X1 g1 c1 L1 (-1) 0 wr H4.o.l1 rfl (by decide)).mono ?_;rintro e w5 ⟨rfl,hl,hu⟩;have H5:=aa (H4.o.st1 hu hl);have b5:=aa (HR.o.upd hu (by simp));have b6:=aa (bW.o.trans (H4.o.below hu (by simp)));clear hl hu A d D F O U V W f2 f3 f4;obtain⟨A,d,D,F,O,U,V,W,f2,f3,f4⟩:=H5.o.cells;simp only[aj,ar,aK]at d;go_wp2_with fail;refine(atT (i:=0) H5.o.l1 (by decide) 1 rfl).mono ?_;rintro e w6 ⟨rfl,hu⟩;have H6:=aa (H5.o.nw hu);have bB:=aa (b5.o.upd hu (by simp));have b7:=aa (b6.o.trans (H5.o.below hu (by simp)));clear hu A d D F O U V W f2 f3 f4;obtain⟨A,d,D,F,O,U,V,W,f2,f3,f4⟩:=H6.o.cells;have q7:=bB.o.at0;simp only[aj,ar,aK]at d;go_wp2_with fail;refine(atT (i:=0) H6.o.l2 (by decide) 2 rfl).mono ?_;rintro e w7 ⟨rfl,hu⟩;have H7:=aa (H6.o.nw hu);have b8:=aa (bB.o.upd hu (by simp));have b9:=aa (b7.o.trans (H6.o.below hu (by simp)));clear hu A d D F O U V W f2 f3 f4 q7;obtain⟨A,d,D,F,O,U,V,W,f2,f3,f4⟩:=H7.o.cells;go_wp2_with fail;go_ret;have a9:Upd [C] w7 ((w7.setCell ⟨C,4,none⟩ (.bool false)).setCell ⟨C,3,none⟩ (.int .i64 1)):=(((ae _).mono (by simp)).setCell (by simp) _).setCell (by simp) _;refine⟨rfl,⟨_,H7.o.own a9 (fun b hb=>?_) (au (au H7.o.blk 4 _) 3 _),b8.o.upd a9 (by simp)⟩,b9.o.trans (H7.o.below a9 (by simp))⟩;simp only[ah,ai,or_false]at hb;subst hb;exact H7.o.C_not
abbrev jS:=@aP.typed
theorem De{X g c i:Nat}{l:List (Int×Nat)}{w:World}(h:LsI w X g c l i)(d:i<l.length)(t:Int)(z:l[i].1=t):Calls prog 342 #[ptr X 0,.int .i64 t] w fun e w'=>e=.returned (.int .u8 1)∧Upd [] w w':=by subst z;exact Eb X g c i l w h d
theorem HpR.of{wb w:World}{G c n:Nat}{ys:List Nat}(h:aP wb w 93 1 n (.slice (some ⟨G,0,none⟩) n c) (ys.map lsV)):HpR w G ys∧n≤c:=by
 rcases h.1.2 with⟨e,_⟩|⟨A,D,cur,e,_,hb,d,_⟩
 ·simp at e
 ·simp only[bx,aM,eD,and_true,true_and]at e;obtain⟨rfl,rfl⟩:=e;refine⟨⟨cur,hb,fun j z=>?_⟩,d⟩;have:=h.1.cells (g:=G) rfl j (lsV ys[j]) (by simp[z]);rw[aO,aK,af hb j]at this;exact this
structure HvP(T:Nat)(w:World)(C B X1 X2 g1 g2 G c:Nat)(ys:List Nat):Prop where
 row:HpR w G ys
 cap:ys.length≤c
 ge:T≤G
 nin:G∉[C,B,X1,X2,g1,g2]
theorem HvP.upd{T:Nat}{w w':World}{C B X1 X2 g1 g2 G c:Nat}{ys:List Nat}{L:List Nat}(h:HvP T w C B X1 X2 g1 g2 G c ys)(hu:Upd L w w')(hL:∀b∈L,b∈[C,B,X1,X2,g1,g2]):HvP T w' C B X1 X2 g1 g2 G c ys:=
 ⟨h.row.upd hu (fun hm=>h.nin (hL _ hm)),h.cap,h.ge,h.nin⟩
theorem HvP.ne{T:Nat}{w:World}{C B X1 X2 g1 g2 G c:Nat}{ys:List Nat}(h:HvP T w C B X1 X2 g1 g2 G c ys):C≠G:=fun e=>h.nin (by simp[e])
theorem HvP.two{T:Nat}{w:World}{C B X1 X2 g1 g2 G c c1 c2:Nat}{ys:List Nat}{hv cv:Value}{lt:Int}{cb:Bool}{i1 i2:Int}(h:HvP T w C B X1 X2 g1 g2 G c ys)(d:Cm T w C B X1 X2 g1 g2 c1 c2 hv cv lt cb i1 i2):∀b∈[C,G],b∉[B,X1,X2,g1,g2]:=fun b hb=>by
 simp only[ah,ai,or_false]at hb;rcases hb with rfl|rfl
 ·exact d.C_not
 ·exact fun hm=>h.nin (aH _ hm)
theorem HvP.below{T:Nat}{w w':World}{C B X1 X2 g1 g2 G c c1 c2:Nat}{ys:List Nat}{hv cv:Value}{lt:Int}{cb:Bool}{i1 i2:Int}(h:HvP T w C B X1 X2 g1 g2 G c ys)(d:Cm T w C B X1 X2 g1 g2 c1 c2 hv cv lt cb i1 i2)(hu:Upd [C,G] w w'):jx T [C,B,X1,X2,g1,g2] w w':=
 jx.of hu (by have:=d.new C (by simp);omega) (fun b hb=>by
  simp only[ah,ai,or_false]at hb;rcases hb with rfl|rfl
  ·exact⟨(d.new b (by simp)).1,.inl (by simp)⟩
  ·obtain⟨cs,h1,_⟩:=h.row;exact⟨h.ge,.inr ⟨cs,h1⟩⟩)
def F7(T:Nat)(w:World)(C B X1 X2 g1 g2 c1 c2:Nat)(e:Ending)(w':World):Prop:=e=.returned (.int .u8 1)∧(∃G c,Cm T w' C B X1 X2 g1 g2 c1 c2 (.slice (some ⟨G,0,none⟩) 1 c) (lsV X2) 2 false 1 0∧HvP T w' C B X1 X2 g1 g2 G c [X1])∧jx T [C,B,X1,X2,g1,g2] w w'
theorem BS(T:Nat)(w:World)(C B X1 X2 g1 g2 c1 c2:Nat)(hv:Value)(h:Cm T w C B X1 X2 g1 g2 c1 c2 hv (lsV X1) 1 false 0 0)(hR:HvR T w C B X1 X2 g1 g2 hv [X2]):Calls prog 295 #[ptr C 0] w (F7 T w C B X1 X2 g1 g2 c1 c2):=by
 have H4:=aa h;have HR:=aa hR;obtain⟨G,c,wb,rfl,-⟩:=hR;obtain⟨D,z,F,O,U,V,W,f1,f2,f3,f4⟩:=h.cells;simp only[aj,ar,aK]at z;have cE:∀w,(binOp .eql 196 (.slice (some ⟨G,0,none⟩) 1 c) (.slice none 0 0)).run prog w=.ok (.bool false) w:=fun w=>by kernel_rfl
 have mN:=pd;have mA:=sR;have mS:=xf;have mE:=qd;have cF:=DE;clear h;go_enter func295,ntmps295
 go_upto_region 18 with fail
 go_loopg [5] 0 (fun gg s5 wx=>s5=.bool false∧wx=w)
 case atStart=>exact⟨rfl,rfl⟩
 case round=>
  obtain⟨rfl,rfl⟩:=hrel;go_wp2_with fail;refine(sM X1 g1 c1 L1 0 1 wr H4.o.l1 rfl (by decide)).mono ?_;rintro e w5 ⟨rfl,hl,hu⟩;have H5:=aa (H4.o.st1 hu hl);have ca:=aa (HR.o.upd hu (by simp));have cc:=aa (H4.o.below hu (by simp));clear hl hu D z F O U V W f1 f2 f3 f4;obtain⟨D,z,F,O,U,V,W,f1,f2,f3,f4⟩:=H5.o.cells;simp only[aj,ar,aK]at z;go_wp2_with fail;refine(atT (i:=1) H5.o.l1 (by decide) 3 rfl).mono ?_;rintro e w6 ⟨rfl,hu⟩;have H6:=aa (H5.o.nw hu);have br:=aa (ca.o.upd hu (by simp));have cg:=aa (cc.o.trans (H5.o.below hu (by simp)));clear hu D z F O U V W f1 f2 f3 f4;obtain⟨D,z,F,O,U,V,W,f1,f2,f3,f4⟩:=H6.o.cells;have q7:=br.o.at0;simp only[aj,ar,aK]at z;go_wp2_with fail;refine(atT (i:=0) H6.o.l2 (by decide) 2 rfl).mono ?_;rintro e w7 ⟨rfl,hu⟩;have H7:=aa (H6.o.nw hu);have ck:=aa (br.o.upd hu (by simp));have cn:=aa (cg.o.trans (H6.o.below hu (by simp)));clear hu D z F O U V W f1 f2 f3 f4 q7;obtain⟨D,z,F,O,U,V,W,f1,f2,f3,f4⟩:=H7.o.cells;go_upto_region 30 with fail
  go_still_tail 8,(by kernel_rfl)
  change wpList _ _ _ _ _ (World.drew _);have a6:Upd [] w7 w7.drew:=(ae _).drew;have H8:=aa (H7.o.nw a6);have bv:=aa (ck.o.upd a6 (by simp));have cp:=aa (cn.o.trans (H7.o.below a6 (by simp)));have K:Hid (∃wb:World,wb.heap.size≤w7.drew.heap.size∧Calls prog 300 #[hpV C,lsV X1] w7.drew (sg wb w7.drew C X1 1 #[.slice (some ⟨B,0,none⟩) 2 2,.slice (some ⟨G,0,none⟩) 1 c,lsV X1,.int .i64 1,.bool false] (.slice (some ⟨G,0,none⟩) 1 c) [lsV X2])):=aa (by
   obtain⟨G',c',wb,e,_,hr,a7,bl,A⟩:=bv.o;simp only[bx,aM,eD,and_true]at e;obtain⟨rfl,-,rfl⟩:=e;have hd:=H8.o.dis;simp only[a8,ah,ai,or_false,not_or]at hd A;refine⟨wb,a7,yc C X2 X1 g2 g1 c2 c1 0 1 L2 L1 _ _ wb w7.drew H8.o.blk rfl hr a7 (by simp only[Value.ownBlock,ne_eq,aM];exact A.1) (by simp) H8.o.l2 H8.o.l1 (by decide) (by decide) (by decide) (fun b hb=>?_)⟩;simp only[Value.ownBlock,Option.toList_some,ah,ai,or_false]at hb;rcases hb with rfl|rfl
   ·exact⟨hd.1.2.2.1,hd.1.2.1,hd.1.2.2.2.2,hd.1.2.2.2.1⟩
   ·exact⟨A.2.2.2.1,A.2.2.1,A.2.2.2.2.2,A.2.2.2.2.1⟩)
  obtain⟨wb,a7,hK⟩:=K.o;have HK:=aa hK;clear hK K a6 a7;go_wp2_with fail;refine HK.o.mono ?_;intro e w9 hq;have HQ:=aa hq;obtain rfl:=hq.1;have bw:Hid (∃G2 d,Cm T w9 C B X1 X2 g1 g2 c1 c2 (.slice (some ⟨G2,0,none⟩) 2 d) (lsV X1) 1 false 1 0∧HvP T w9 C B X1 X2 g1 g2 G2 d [X2,X1]∧jx T [C,B,X1,X2,g1,g2] wr w9):=aa (by
   obtain⟨_,cL,a9,bA,bB,cs⟩:=hq;have ct:=bA.shape;rcases ct with⟨_,e2,_⟩|⟨G2,d,rfl,_,_⟩
   ·omega
   ·obtain⟨hp,hd⟩:=HpR.of (ys:=[X2,X1]) bA;obtain⟨G',c',cM,e,_,cA,_,bl,A⟩:=bv.o;simp only[bx,aM,eD,and_true]at e;obtain⟨rfl,-,rfl⟩:=e;have bE:T≤G2∧G2∉[C,B,X1,X2,g1,g2]:=by
     rcases cs G2 rfl with h|h
     ·simp only[Value.ownBlock,aM]at h;subst h;exact⟨bl,A⟩
     ·refine⟨?_,fun hm=>?_⟩
      ·have:=(H8.o.new C (by simp));omega
      ·have:=(H8.o.new G2 hm).2;omega
    have cB:∀b∈[C,G],b∉[B,X1,X2,g1,g2]:=fun b hb=>by
     simp only[ah,ai,or_false]at hb;rcases hb with rfl|rfl
     ·exact H8.o.C_not
     ·exact fun hm=>A (aH _ hm)
    refine⟨G2,d,H8.o.own bB cB a9,⟨hp,hd,bE.1,bE.2⟩,cp.o.trans (jx.of bB (by have:=(H8.o.new C (by simp));omega) (fun b hb=>?_))⟩;have hb:b∈[C,G]:=hb;simp only[ah,ai,or_false]at hb;rcases hb with rfl|rfl
    ·exact⟨(H8.o.new b (by simp)).1,.inl (by simp)⟩
    ·exact⟨bl,.inr (jS cA b (by simp[Value.ownBlock]))⟩)
  obtain⟨G2,d,h9,a1,a9⟩:=bw.o;have H9:=aa h9;have HP:=aa a1;have cD:=aa a9;have K2:=aa (Ac C G2 d X2 X1 _ w9 h9.blk rfl a1.row a1.ne a1.cap);clear hq HK D z F O U V W f1 f2 f3 f4 h9 a1 a9 bw HQ;obtain⟨D,z,F,O,U,V,W,f1,f2,f3,f4⟩:=H9.o.cells;go_wp2_with fail;refine K2.o.mono ?_;intro e bn hq;obtain⟨rfl,be,bg,a2⟩:=hq;have bK:=H9.o.own a2 (HP.o.two H9.o) be;have a3:=aa bK;have bL:Hid (HvP T bn C B X1 X2 g1 g2 G2 d [X1]):=aa ⟨bg,by have:=HP.o.cap;simp only[aj,ar]at this⊢;omega,HP.o.ge,HP.o.nin⟩;have bM:=aa (cD.o.trans (HP.o.below H9.o a2));clear be bg a2 bK K2 D z F O U V W f1 f2 f3 f4;obtain⟨D,z,F,O,U,V,W,f1,f2,f3,f4⟩:=a3.o.cells;go_upto_region 32 with fail
  obtain⟨bO,ad⟩:∃x,x=bn.setCell ⟨C,2,none⟩ (lsV X2):=⟨_,rfl⟩;rw[←ad];have a0:Upd [C] bn bO:=by rw[ad];exact((ae _).mono (by simp)).setCell (by simp) _
  have bR:Cm T bO C B X1 X2 g1 g2 c1 c2 (.slice (some ⟨G2,0,none⟩) 1 d) (lsV X2) 1 false 1 0:=a3.o.own a0 (fun b hb=>by simp only[ah,ai,or_false]at hb;subst hb;exact a3.o.C_not) (by rw[ad];exact au a3.o.blk 2 _);have bb:=aa bR;have bS:=aa (bL.o.upd a0 (by simp));have bW:=aa (bM.o.trans (a3.o.below a0 (by simp)));clear bR a0 ad D z F O U V W f1 f2 f3 f4;obtain⟨D,z,F,O,U,V,W,f1,f2,f3,f4⟩:=bb.o.cells;go_wp2_with fail;refine(atT (i:=0) bb.o.l2 (by decide) 2 rfl).mono ?_;rintro e cN ⟨rfl,hu⟩;have bd:=aa (bb.o.nw hu);have b5:=aa (bS.o.upd hu (by simp));have b6:=aa (bW.o.trans (bb.o.below hu (by simp)));clear hu D z F O U V W f1 f2 f3 f4;obtain⟨D,z,F,O,U,V,W,f1,f2,f3,f4⟩:=bd.o.cells;go_wp2_with fail;refine(De (i:=0) bd.o.l2 (by decide) 2 rfl).mono ?_;rintro e b7 ⟨rfl,hu⟩;have a4:=aa (bd.o.nw hu);have b8:=aa (b5.o.upd hu (by simp));have b9:=aa (b6.o.trans (bd.o.below hu (by simp)));clear hu D z F O U V W f1 f2 f3 f4;obtain⟨D,z,F,O,U,V,W,f1,f2,f3,f4⟩:=a4.o.cells;go_wp2_with fail;go_ret;have a5:Upd [C] b7 ((b7.setCell ⟨C,4,none⟩ (.bool false)).setCell ⟨C,3,none⟩ (.int .i64 2)):=(((ae _).mono (by simp)).setCell (by simp) _).setCell (by simp) _;refine⟨rfl,⟨G2,d,a4.o.own a5 (fun b hb=>?_) (au (au a4.o.blk 4 _) 3 _),b8.o.upd a5 (by simp)⟩,b9.o.trans (a4.o.below a5 (by simp))⟩;simp only[ah,ai,or_false]at hb;subst hb;exact a4.o.C_not
def F8(T:Nat)(w:World)(C B X1 X2 g1 g2 c1 c2:Nat)(e:Ending)(w':World):Prop:=e=.returned (.int .u8 1)∧(∃G c,Cm T w' C B X1 X2 g1 g2 c1 c2 (.slice (some ⟨G,0,none⟩) 0 c) (lsV X1) 3 false 1 1)∧jx T [C,B,X1,X2,g1,g2] w w'
theorem BT(T:Nat)(w:World)(C B X1 X2 g1 g2 c1 c2 G2 d:Nat)(h:Cm T w C B X1 X2 g1 g2 c1 c2 (.slice (some ⟨G2,0,none⟩) 1 d) (lsV X2) 2 false 1 0)(hR:HvP T w C B X1 X2 g1 g2 G2 d [X1]):Calls prog 295 #[ptr C 0] w (F8 T w C B X1 X2 g1 g2 c1 c2):=by
 have H4:=aa h;have HR:=aa hR;obtain⟨U,V,W,q3,q4,q5,q6,f1,f2,f3,f4⟩:=h.cells;have br:∀w,(binOp .eql 196 (.slice (some ⟨G2,0,none⟩) 1 d) (.slice none 0 0)).run prog w=.ok (.bool false) w:=fun w=>by kernel_rfl
 have mN:=pd;have mA:=sR;have mS:=xf;have mE:=qd;have bv:=DE;clear h hR;go_enter func295,ntmps295
 go_upto_region 18 with fail
 go_loopg [5] 0 (fun gg s5 wx=>s5=.bool false∧wx=w)
 case atStart=>exact⟨rfl,rfl⟩
 case round=>
  obtain⟨rfl,rfl⟩:=hrel;go_wp2_with fail;refine(xb X2 g2 c2 L2 0 1 wr H4.o.l2 rfl (by decide)).mono ?_;rintro e w5 ⟨rfl,hl,hu⟩;have h5:=H4.o.st2 hu hl;have H5:=aa h5;have A:=HR.o.upd hu (by simp);have a3:=aa A;have bn:=aa (H4.o.below hu (by simp));have K2:=aa (Ab C G2 d X1 _ w5 h5.blk rfl A.row A.ne A.cap);clear hl hu U V W q3 q4 q5 q6 f1 f2 f3 f4 h5 A;obtain⟨U,V,W,q3,q4,q5,q6,f1,f2,f3,f4⟩:=H5.o.cells;go_wp2_with fail;refine(Aw X2 w5).mono ?_;rintro e w6 ⟨rfl,rfl⟩;go_wp2_with fail;refine K2.o.mono ?_;intro e a4 hq;obtain⟨rfl,a1,a5,D⟩:=hq;have a6:=H5.o.own D (a3.o.two H5.o) a1;have F:=aa a6;have a7:=aa (bn.o.trans (a3.o.below H5.o D));clear a1 a5 D a6 K2 U V W q3 q4 q5 q6 f1 f2 f3 f4;obtain⟨U,V,W,q3,q4,q5,q6,f1,f2,f3,f4⟩:=F.o.cells;go_upto_region 32 with fail
  obtain⟨a9,z⟩:∃x,x=a4.setCell ⟨C,2,none⟩ (lsV X1):=⟨_,rfl⟩;rw[←z];have G:Upd [C] a4 a9:=by rw[z];exact((ae _).mono (by simp)).setCell (by simp) _
  have bb:Cm T a9 C B X1 X2 g1 g2 c1 c2 (.slice (some ⟨G2,0,none⟩) 0 d) (lsV X1) 2 false 1 1:=F.o.own G (fun b hb=>by simp only[ah,ai,or_false]at hb;subst hb;exact F.o.C_not) (by rw[z];exact au F.o.blk 2 _);have ad:=aa bb;have bd:=aa (a7.o.trans (F.o.below G (by simp)));clear bb G z U V W q3 q4 q5 q6 f1 f2 f3 f4;obtain⟨U,V,W,q3,q4,q5,q6,f1,f2,f3,f4⟩:=ad.o.cells;go_wp2_with fail;refine(atT (i:=1) ad.o.l1 (by decide) 3 rfl).mono ?_;rintro e bw ⟨rfl,hu⟩;have a0:=aa (ad.o.nw hu);have be:=aa (bd.o.trans (ad.o.below hu (by simp)));clear hu U V W q3 q4 q5 q6 f1 f2 f3 f4;obtain⟨U,V,W,q3,q4,q5,q6,f1,f2,f3,f4⟩:=a0.o.cells;go_wp2_with fail;refine(De (i:=1) a0.o.l1 (by decide) 3 rfl).mono ?_;rintro e bg ⟨rfl,hu⟩;have O:=aa (a0.o.nw hu);have bl:=aa (be.o.trans (a0.o.below hu (by simp)));clear hu U V W q3 q4 q5 q6 f1 f2 f3 f4;obtain⟨U,V,W,q3,q4,q5,q6,f1,f2,f3,f4⟩:=O.o.cells;go_wp2_with fail;go_ret;have a2:Upd [C] bg ((bg.setCell ⟨C,4,none⟩ (.bool false)).setCell ⟨C,3,none⟩ (.int .i64 3)):=(((ae _).mono (by simp)).setCell (by simp) _).setCell (by simp) _;refine⟨rfl,⟨G2,d,O.o.own a2 (fun b hb=>?_) (au (au O.o.blk 4 _) 3 _)⟩,bl.o.trans (O.o.below a2 (by simp))⟩;simp only[ah,ai,or_false]at hb;subst hb;exact O.o.C_not
def F9(T:Nat)(w:World)(C B X1 X2 g1 g2 c1 c2:Nat)(e:Ending)(w':World):Prop:=e=.returned (.int .u8 0)∧(∃G c,Cm T w' C B X1 X2 g1 g2 c1 c2 (.slice (some ⟨G,0,none⟩) 0 c) .nilIface 3 false 2 1)∧jx T [C,B,X1,X2,g1,g2] w w'
theorem BU(T:Nat)(w:World)(C B X1 X2 g1 g2 c1 c2 D d:Nat)(h:Cm T w C B X1 X2 g1 g2 c1 c2 (.slice (some ⟨D,0,none⟩) 0 d) (lsV X1) 3 false 1 1):Calls prog 295 #[ptr C 0] w (F9 T w C B X1 X2 g1 g2 c1 c2):=by
 have F:=aa h;obtain⟨O,U,V,W,q4,q5,q6,f1,f2,f3,f4⟩:=h.cells;have ad:∀w,(binOp .eql 196 (.slice (some ⟨D,0,none⟩) 0 d) (.slice none 0 0)).run prog w=.ok (.bool false) w:=fun w=>by kernel_rfl
 have mN:=pd;have mE:=qd;clear h;go_enter func295,ntmps295
 go_upto_region 18 with fail
 go_loopg [5] 0 (fun gg s5 wx=>s5=.bool false∧wx=w)
 case atStart=>exact⟨rfl,rfl⟩
 case round=>
  obtain⟨rfl,rfl⟩:=hrel;go_wp2_with fail;refine(xb X1 g1 c1 L1 1 2 wr F.o.l1 rfl (by decide)).mono ?_;rintro e w5 ⟨rfl,hl,hu⟩;have A:=aa (F.o.st1 hu hl);have G:=aa (F.o.below hu (by simp));clear hl hu O U V W q4 q5 q6 f1 f2 f3 f4;obtain⟨O,U,V,W,q4,q5,q6,f1,f2,f3,f4⟩:=A.o.cells;go_wp2_with fail;refine(Aw X1 w5).mono ?_;rintro e w6 ⟨rfl,rfl⟩;go_wp2_with fail;go_ret;have z:Upd [C] w6 (w6.setCell ⟨C,2,none⟩ .nilIface):=((ae _).mono (by simp)).setCell (by simp) _;refine⟨rfl,⟨D,d,A.o.own z (fun b hb=>?_) (au A.o.blk 2 _)⟩,G.o.trans (A.o.below z (by simp))⟩;simp only[ah,ai,or_false]at hb;subst hb;exact A.o.C_not
theorem DK(w:World)(C X g c i:Nat)(l:List (Int×Nat))(D:w.cell? ⟨C,2,none⟩=some (lsV X))(h:LsI w X g c l i)(d:i<l.length)(t:Int)(m:Nat)(z:l[i]=(t,m)):Calls prog 290 #[ptr C 0] w fun e w'=>e=.returned (.tuple #[.int .i64 t,.float .f64 m])∧Upd [] w w':=by
 have K:=aa (GG X g c i l w h d);rw[z]at K;have mA:=Fo;clear h d z;go_enter func290,ntmps290
 go_wp2_with fail;refine K.o.mono ?_;rintro e w1 ⟨rfl,hu⟩;have A:=aa hu;clear hu;go_wp2_with fail;go_ret2
 exact⟨rfl,A.o⟩
theorem Ei(p:Value)(w:World):Calls prog 298 #[p,.slice none 0 0] w fun e w'=>e=.returned (.tuple #[])∧Upd [] w w':=by
 go_enter func298,ntmps298
 go_wp2_with fail;go_loopg [10] 0 (fun D d z=>d=.int .i64 0∧Hid (Upd [] w z))
 case atStart=>exact⟨rfl,aa (ae _)⟩
 case round=>
  obtain⟨rfl,A⟩:=hrel;go_wp2_with fail;go_end0
  exact⟨rfl,A.o⟩
theorem Ej(p:Value)(q:Nat)(w:World)(h:w.cell? ⟨q,0,none⟩=some .nilIface):Calls prog 298 #[p,.slice (some ⟨q,0,none⟩) 1 1] w fun e w'=>e=.returned (.tuple #[])∧Upd [] w w':=by
 go_enter func298,ntmps298
 go_wp2_with fail;go_loopg [10] 1 (fun D d F=>∃i:Nat,d=.int .i64 i∧Hid (D+i=1)∧F=w)
 case atStart=>exact⟨0,rfl,aa rfl,rfl⟩
 case round=>
  obtain⟨i,rfl,z,rfl⟩:=hrel;rcases gV i with A|A
  ·subst A;go_wp2_with fail;go_roundg 0
   case measure=>have:=z.o;omega
   case rel=>exact⟨1,by simp,aa rfl,rfl⟩
  ·obtain rfl:i=1:=by have:=z.o;omega
   go_wp2_with fail;go_end0
   exact⟨rfl,ae _⟩
def F3(w:World)(e:Ending)(w':World):Prop:=∃E,e=.returned (.slice (some ⟨E,0,none⟩) 0 0)∧Upd [] w w'
theorem AI(w:World):Calls prog 297 #[.slice none 0 0] w (F3 w):=by
 obtain⟨w1,d,z,A,hb1,-⟩:=j8 w (.cells #[] 71 (0,0)) (.cells #[.slice (some ⟨w.heap.size,0,none⟩) 0 0] 455 (0,0));have D:w1.cell? ⟨w.heap.size+1,0,none⟩=some (.slice (some ⟨w.heap.size,0,none⟩) 0 0):=af hb1 0;have G:=aa z;clear z A hb1;go_enter func297,ntmps297
 go_upto_region 2 with fail
 rw[←d];obtain⟨E,hE⟩:∃E,E=w.heap.size:=⟨_,rfl⟩;rw[←hE];rw[←hE]at D;clear d hE;go_wp2_with fail;refine(Ei _ _).mono ?_;rintro e w2 ⟨rfl,hu⟩;have F:=aa hu;have O:=hu.cell (by simp) D;clear hu D;go_wp2_with fail;go_ret;exact⟨_,rfl,G.o.then F.o (by simp)⟩
theorem Fq(b:Option Addr)(c:Nat)(w:World):Calls prog 299 #[.slice b 0 c] w fun e w'=>e=.returned .nilIface∧w'=w:=by
 go_enter func299,ntmps299
 go_wp2_with fail;go_ret;exact⟨rfl,rfl⟩
theorem E7(w:World)(C B X1 X2:Nat)(W:w.cell? ⟨C,0,none⟩=some (.slice (some ⟨B,0,none⟩) 2 2))(h1:w.cell? ⟨B,0,none⟩=some (lsV X1))(h2:w.cell? ⟨B,1,none⟩=some (lsV X2)):Calls prog 294 #[ptr C 0] w fun e w'=>e=.returned .nilIface∧Upd [] w w':=by
 have H:=aa (And.intro h1 h2);have mE:=qd;clear h1 h2;go_enter func294,ntmps294
 go_wp2_with fail;refine(AI w).mono ?_;intro e w1 hq;obtain⟨E,rfl,hu⟩:=hq;obtain⟨w2,d⟩:∃x,x=w1.alloc (.cells #[.slice (some ⟨E,0,none⟩) 0 0] 455 (0,0)):=⟨_,rfl⟩;obtain⟨M,hM⟩:∃M,M=w1.heap.size:=⟨_,rfl⟩;have hq:w2.cell? ⟨M,0,none⟩=some (.slice (some ⟨E,0,none⟩) 0 0):=by rw[d,hM];exact af (an _) 0
 have HQ:=aa hq;have A:Hid (Upd [] w w2):=aa (by rw[d];exact hu.alloc _);have W:=A.o.cell (by simp) W;clear hu hq;go_upto_region 2 with fail
 rw[←hM];rw[←d];clear hM d;go_wp2_with fail;go_loopg [12] 2 (fun gg G wx=>∃i:Nat,G=.int .i64 i∧Hid (gg+i=2)∧Hid (Upd [] w2 wx))
 case atStart=>exact⟨0,rfl,aa rfl,aa (ae _)⟩
 case round=>
  obtain⟨i,rfl,Hi,D⟩:=hrel;by_cases O:i<2
  ·obtain⟨X,hX⟩:∃X,w.cell? ⟨B,i,none⟩=some (lsV X):=by
    match i,O with
    |0,_=>exact⟨X1,H.o.1⟩
    |1,_=>exact⟨X2,H.o.2⟩
   have k1:=(A.o.then D.o (by simp)).cell (by simp) hX;have ad:(0:Int)≤(i:Int):=by omega
   have a0:(i:Int)<2:=by omega
   clear hX;go_wp2_with fail;refine(Aw X _).mono ?_;rintro e F ⟨rfl,rfl⟩;obtain⟨w5,z⟩:∃x,x=F.alloc (.cells #[.nilIface] 71 (0,0)):=⟨_,rfl⟩;have K:=aa (Ej (ptr M 0) F.heap.size w5 (by rw[z];exact af (an _) 0));have U:Hid (Upd [] F w5):=aa (by rw[z];exact(ae _).alloc _);go_wp2_with fail;rw[←z];refine K.o.mono ?_;rintro e w6 ⟨rfl,hu⟩;have V:=aa (D.o.then (U.o.then hu (by simp)) (by simp));clear hu z K;go_wp2_with fail;go_roundg (2-(i+1))
   case measure=>have:=Hi.o;omega
   case rel=>exact⟨i+1,by simp,aa (by omega),V⟩
  ·obtain rfl:i=2:=by have:=Hi.o;omega
   have q3:=D.o.cell (by simp) HQ.o;go_wp2_with fail;refine(Fq _ _ _).mono ?_;rintro e F ⟨rfl,rfl⟩;go_wp2_with fail;go_ret;exact⟨rfl,A.o.then D.o (by simp)⟩
theorem Er(w:World):Calls prog 111 #[.slice none 0 0] w fun e w'=>e=.returned (.slice none 0 0)∧w'=w:=by
 go_enter func111,ntmps111
 go_wp2_with fail;go_loopg [3,8] 0 (fun D d z A=>d=.slice none 0 0∧z=.int .i64 0∧A=w)
 case atStart=>exact⟨rfl,rfl,rfl⟩
 case round=>
  obtain⟨rfl,rfl,rfl⟩:=hrel;go_wp2_with fail;go_ret;exact⟨rfl,rfl⟩
theorem Cf(d:Value)(w:World):Calls prog 228 #[.slice none 0 0,.int .i64 0,.int .i64 0,d] w fun e w'=>e=.returned (.tuple #[])∧w'=w:=by
 go_enter func228,ntmps228
 go_wp2_with fail;go_loopg [8] 0 (fun D z A=>z=.int .i64 1∧A=w)
 case atStart=>exact⟨rfl,rfl⟩
 case round=>
  obtain⟨rfl,rfl⟩:=hrel;go_wp2_with fail;go_end0
  exact⟨rfl,rfl⟩
theorem GN(lim:Int)(d:Value)(w:World):Calls prog 213 #[.slice none 0 0,.int .i64 0,.int .i64 0,.int .i64 lim,d] w fun e w'=>e=.returned (.tuple #[])∧w'=w:=by
 go_enter func213,ntmps213
 go_wp2_with fail;go_loopg [1,2] 0 (fun A s1 s2 z=>s1=.int .i64 0∧s2=.int .i64 0∧z=w)
 case atStart=>exact⟨rfl,rfl,rfl⟩
 case round=>
  obtain⟨rfl,rfl,rfl⟩:=hrel;go_wp2_with fail;refine(Cf d wr).mono ?_;rintro e w1 ⟨rfl,rfl⟩;go_wp2_with fail;refine bodyPost_ret (results_none rfl _ _ _) rfl ⟨rfl,rfl⟩
theorem FE(d:Value)(w:World):Calls prog 170 #[.slice none 0 0,d] w fun e w'=>e=.returned (.tuple #[])∧w'=w:=by
 have z:=aa (fun W=>tT 0 W (by omega));go_enter func170,ntmps170
 go_wp2_with fail;refine(z.o w).mono ?_;rintro e w1 ⟨⟨lim,rfl⟩,rfl⟩;go_wp2_with fail;refine(GN lim d w1).mono ?_;rintro e w2 ⟨rfl,rfl⟩;go_wp2_with fail;go_end0
 exact⟨rfl,rfl⟩
theorem Ao(w:World):Calls prog 138 #[.slice none 0 0] w fun e w'=>e=.returned (.int .i64 0)∧w'=w:=by
 go_enter func138,ntmps138
 go_wp2_with fail;go_loopg [2,7] 0 (fun A s2 d z=>s2=.int .i64 0∧d=.int .i64 0∧z=w)
 case atStart=>exact⟨rfl,rfl,rfl⟩
 case round=>
  obtain⟨rfl,rfl,rfl⟩:=hrel;go_wp2_with fail;go_ret;exact⟨rfl,rfl⟩
theorem Eh(b:Option Addr)(c:Nat)(w:World):Calls prog 139 #[.slice none 0 0,.slice b 0 c] w fun e w'=>e=.returned (.int .i64 0)∧w'=w:=by
 go_enter func139,ntmps139
 go_wp2_with fail;go_loopg [5,6] 0 (fun D d z A=>d=.int .i64 0∧z=.int .i64 (-1)∧A=w)
 case atStart=>exact⟨rfl,rfl,rfl⟩
 case round=>
  obtain⟨rfl,rfl,rfl⟩:=hrel;go_wp2_with fail;go_ret;exact⟨rfl,rfl⟩
def CY(w:World)(e:Ending)(w':World):Prop:=∃s:ByteArray,e=.returned (.agg #[.string s])∧Upd [] w w'
theorem GJ(w:World):Calls prog 110 #[.slice none 0 0] w (CY w):=by
 have D:(w.alloc (.cells #[.string ⟨#[]⟩] 135 (0,0))).heap[w.heap.size]? =some (.cells #[.string ⟨#[]⟩] 135 (0,0)):=an _;obtain⟨w1,d⟩:∃x,x=w.alloc (.cells #[.string ⟨#[]⟩] 135 (0,0)):=⟨_,rfl⟩;obtain⟨X,hX⟩:∃X,X=w.heap.size:=⟨_,rfl⟩;rw[←d,←hX]at D;have U:=aa D;have V:Hid (Upd [] w w1):=aa (by rw[d];exact(ae _).alloc _);obtain⟨i0,W,ad,a0,a1⟩:=info_parts Tryz.info5;have F:w.heap.size≤X:=by omega
 have a2:=aa F;clear D F;go_enter func110,ntmps110
 go_upto_region 1 with fail
 rw[←hX];rw[←d];clear hX d;go_wp2_with fail;refine(FE _ w1).mono ?_;rintro e w2 ⟨rfl,rfl⟩;go_wp2_with fail;refine(Ao w2).mono ?_;rintro e w3 ⟨rfl,rfl⟩;go_wp2_with (at_make;refine wpList_make_full _ rfl _ _ 65 rfl 0 5 i0 (.int .u8 0) 1 underlying65 W ad a0 .i64 .i64 0 0 0 rfl rfl rfl rfl ?b2 ?b3 ?b4 ?_);case b2=>rw[a1];omega
 case b3=>unfold maxLen;omega
 case b4=>omega
 intro w4 A G;have O:Hid (Upd [] w3 w4):=aa ((ae w3).grown G (by simp));have hB:=mR (B:=0) A;have hY:=Bj w3.heap.size _ [] w4 (lK hB rfl (aw _));have HY:=aa hY;have z:=O.o.blk U.o (by simp);have a3:=aa z;have c4:=af z 0;have f4:=ao z 0;clear A G hB hY z;go_wp2_with fail;refine(Eh _ _ w4).mono ?_;rintro e w5 ⟨rfl,rfl⟩;go_wp2_with (go_at_call 140;refine HY.o.mono ?_;rintro e w6 ⟨rfl,rfl⟩);refine bodyPost_ret (results_cell_row rfl _ _ X 135 _ (0,0) _ rfl (au a3.o 0 _) underlying135 rfl Tryz.sizeLabels) rfl ?_;have a4:Upd [X] w5 (w5.setCell ⟨X,0,none⟩ (.string (str []))):=((ae w5).mono (by simp)).setCell (by simp) _;exact⟨_,rfl,(V.o.then O.o (by simp)).then a4 (by intro i W hl;simp at W;have:=a2.o;omega)⟩
theorem Fp(w:World):Calls prog 50 #[.slice none 0 0] w (CY w):=by
 have A:(w.alloc (.cells #[.string ⟨#[]⟩] 135 (0,0))).heap[w.heap.size]? =some (.cells #[.string ⟨#[]⟩] 135 (0,0)):=an _;obtain⟨w1,d⟩:∃x,x=w.alloc (.cells #[.string ⟨#[]⟩] 135 (0,0)):=⟨_,rfl⟩;obtain⟨X,hX⟩:∃X,X=w.heap.size:=⟨_,rfl⟩;rw[←d,←hX]at A;have F:=aa A;have G:Hid (Upd [] w w1):=aa (by rw[d];exact(ae _).alloc _);have D:w.heap.size≤X:=by omega
 have O:=aa D;clear A D;go_enter func50,ntmps50
 go_upto_region 1 with fail
 rw[←hX];rw[←d];clear hX d;go_wp2_with fail;refine(Er w1).mono ?_;rintro e w2 ⟨rfl,rfl⟩;go_wp2_with fail;refine(GJ w2).mono ?_;intro e U hq;obtain⟨s,rfl,hu⟩:=hq;have V:=aa hu;have z:=hu.blk F.o (by simp);have W:=aa z;have c4:=af z 0;have f4:=ao z 0;clear hu z;go_wp2_with fail;refine bodyPost_ret (results_cell_row rfl _ _ X 135 _ (0,0) _ rfl (au W.o 0 _) underlying135 rfl Tryz.sizeLabels) rfl ?_;have ad:Upd [X] U (U.setCell ⟨X,0,none⟩ (.string s)):=((ae U).mono (by simp)).setCell (by simp) _;exact⟨_,rfl,(G.o.then V.o (by simp)).then ad (by intro i hi hl;simp at hi;have:=O.o;omega)⟩
end Go.Proofs.YtlgefdfflmgocaaGreatDoor
