import Derived.Test.YtlgefdfflmgocaaGreatDoorQ26
set_option linter.all false
set_option maxRecDepth 100000
set_option maxHeartbeats 2000000
namespace Go.Proofs.YtlgefdfflmgocaaGreatDoor
section
open Go Go.RowKit Xc Go.Proofs.Tryz
attribute [local go_sem ↓] Go.wp_at_zero Go.wp_at_succ
variable {w:World}
theorem Dp(g:Nat)(v:Value)(bs a:Bytes)(t0 t1 t2 t3 t4 t5:Nat)(w:World)(h:RdG w v g bs)(hb:bs=a++kd (jJ t0 t1 t2 t3 t4 t5))(hn:bs.length<1073741824)(ht:t0<1073741824∧t1<1073741824∧t2<1073741824∧t3<1073741824∧t4<1073741824∧t5<1073741824):
 Calls prog 175 #[.iface 139 v] w fun e w'=>∃X,e=.returned (.tuple #[ptr X 0,.nilIface])∧w'.heap[X]? =some (.cells #[.int .u64 t0,.int .u64 t1,.int .u64 t2,.int .u64 t3,.int .u64 t4,.int .u64 t5] 231 (0,0))∧w.heap.size≤X∧Upd [] w w':=by
 have bd:=fp;have be:=eA;have G9:(jJ t0 t1 t2 t3 t4 t5).length=48:=by simp[jJ,km]
 have V:a.length+52=bs.length:=by rw[hb,ab,kd,ab,G9,cd]
 obtain⟨A,hA⟩:∃A,A=a.length:=⟨_,rfl⟩;obtain⟨n,F⟩:∃n,n=bs.length:=⟨_,rfl⟩;have G:=aa (show∀w,RdG w v g bs→Calls prog 276 #[v] w fun e w'=>e=.returned (.int .i64 n)∧w=w' from fun w h=>by rw[F];exact yH g v bs w h);have HR:=aa (show∀w,RdG w v g bs→Calls prog 277 #[v,.int .i64 (A:Nat),.int .i64 n] w fun r w'=>∃d G6,r=.returned (.slice (some ⟨g,d,none⟩) 52 G6)∧RdG w (.slice (some ⟨g,d,none⟩) 52 G6) g (kd (jJ t0 t1 t2 t3 t4 t5))∧52≤G6∧w=w' from fun w h=>by
  refine en (kU g A n v bs a (kd (jJ t0 t1 t2 t3 t4 t5)) [] w h (by rw[hb,bk]) hA (by rw[F,←V,kd,ab,G9,cd]) hn) ?_;rintro r w' ⟨v',rfl,W,rfl⟩;obtain⟨d,G6,rfl,O,bg⟩:=id W;have e:(kd (jJ t0 t1 t2 t3 t4 t5)).length=52:=by rw[kd,ab,G9,cd]
  rw[e]at W O⊢;exact⟨d,G6,rfl,W,O.1,rfl⟩)
 rw[←hA,←F]at V;rw[←F]at hn;have H:=aa h;have bl:(n:Int)-52=(A:Int):=by omega
 clear h hb F hA;go_enter func175,ntmps175
 go_wp2_with (first
  |(go_at_call 276;refine(G.o _ H.o).mono ?_;rintro e _ ⟨rfl,rfl⟩))
 have a1:IntKind.i64.wrap ((n:Int)-52)=(A:Int):=by rw[bo];omega
 have a2:IntKind.i64.wrap (A:Int)=(A:Int):=by rw[bo];omega
 have bn:=iv;have br:∀(fn:Fn) (first cap:Array Value) (w:World),(Instr.makeFunc fn first cap).run prog w=.ok (.func fn first cap) w:=fun _ _ _ _=>rfl;go_cut [4]from 12 to 21 (fun v wx=>∃d G6,v=.slice (some ⟨g,d,none⟩) 52 G6∧RdG wx (.slice (some ⟨g,d,none⟩) 52 G6) g (kd (jJ t0 t1 t2 t3 t4 t5))∧52≤G6∧Upd [] w wx)
 case first=>
  go_region_held3 (fun _=>True) (trivial) (first
   |(go_at_call 276;refine(G.o _ (by with_reducible first|exact H.o|exact H.o.drew)).mono ?_;rintro e _ ⟨rfl,rfl⟩)
   |(go_at_call 277;refine(HR.o _ (by with_reducible first|exact H.o|exact H.o.drew)).mono ?_;rintro e _ ⟨d,G6,rfl,bv,O,rfl⟩))
  all_goals
   go_wp2_with fail;go_meet
   exact⟨d,G6,rfl,bv,O,(ae _).drew⟩
 case rest=>
  obtain⟨d,G6,rfl,hv,hc,hu⟩:=hcut;generalize wc=w1 at*;clear a1 a2 bn br bd be G HR bl V hn;obtain⟨body,hbody⟩:∃body,body=jJ t0 t1 t2 t3 t4 t5:=⟨_,rfl⟩;rw[←hbody]at G9 hv;have HB:=aa hbody;have cn:(G6=48)=False:=by simp;omega
  have cp:(48:Int)≤(G6:Int):=by omega
  have ca:(52:Int)≤(G6:Int):=by omega
  have cc:((G6:Int)=48)=False:=by simp;omega
  have cg:(48≤G6)=True:=by simp;omega
  have ck:(52≤G6)=True:=by simp;omega
  have bw:Hid (RdG w1 (.slice (some ⟨g,d+48,none⟩) 4 (G6-48)) g (Lib.beBytes 4 (crc body))):=by obtain⟨cs,bA,N2,e2,_,_,_,_,HM⟩:=hv.mid (s:=48) (e:=52) (a:=body) (l:=Lib.beBytes 4 (crc body)) (c:=[]) (by rw[kd,bk]) G9.symm (by rw[Lib.beBytes_length,G9]);cases e2;exact HM.o (d+48) (fun _=>rfl)
  have HV:=aa hv;have a3:=aa hu;have a4:=aa G9;clear hv hu hbody G9;go_wp2_with fail;have a1:IntKind.i64.wrap ((52:Int)-4)=48:=by decide
  have ct:IntKind.i64.wrap (48:Int)=48:=by decide
  have hsl:∀w,(Instr.sliceAt 65 (.slice (some ⟨g,d,none⟩) 52 G6) (some (.int .i64 48)) none none).run prog w=.ok (.slice (some ⟨g,d+48,none⟩) 4 (G6-48)) w:=fun w=>by go_simp
  go_cut [5]from 22 to 28 (fun v wx=>v=.int .u32 (crc body:Nat)∧Upd [] w1 wx)
  case first=>
   go_region_held3 (fun _=>True) (trivial) ((go_at_call 120;refine(qE g (crc body) _ [] _ (by rw[bk];exact bw.o.drew) (sw body)).mono ?_;rintro e w2 ⟨rfl,a5⟩;have a6:=aa (cz a5);clear a5))
   all_goals
    go_wp2_with fail;go_meet
    exact⟨rfl,a6.o⟩
  case rest=>
   obtain⟨rfl,D⟩:=hcut;generalize wc=w2 at*;have a6:=aa D;have ad:Upd [] w2 (w2.alloc (.cells #[.slice (some ⟨g,d,none⟩) 48 G6,.nilIface] 159 (0,0))):=(ae w2).alloc _
   have a7:cm (w2.alloc (.cells #[.slice (some ⟨g,d,none⟩) 48 G6,.nilIface] 159 (0,0))) w2.heap.size g body:=
    ⟨⟨_,an _,((HV.o.head a4.o.symm).upd D (by simp)).upd ad (by simp)⟩,lm ((HV.o.upd D (by simp)).lt)⟩
   have a0:=aa ((a3.o.then D (by simp)).then ad (by simp));have U:=aa a7;obtain⟨X,hX⟩:∃X,X=w2.heap.size:=⟨_,rfl⟩;have HX:=aa (show w.heap.size≤X by have h1:=a3.o.size;have h2:=D.size;omega);clear D ad a7;go_upto_region 6 with fail
   rw[←hX]at U⊢;clear hX;revert a0 U;generalize (w2.alloc (.cells #[.slice (some ⟨g,d,none⟩) 48 G6,.nilIface] 159 (0,0)))=w3;intro a0 U;have cA:=HX.o;go_wp2_with fail;refine(eL _).mono ?_;rintro e v0 ⟨tb,rfl,a9,_,hu⟩;have HD:=aa (U.o.upd hu (by simp) (by simp));have bB:=aa (a0.o.then hu (by simp));have bE:=aa a9;clear hu a9;go_wp2_with (go_at_call 121;refine(vH X g tb body _ HD.o bE.o (by have:=a4.o;omega)).mono ?_;rintro e _ ⟨rfl,rfl⟩);have bK:Hid (cm v0 X g (Lib.beBytes 8 t0++(Lib.beBytes 8 t1++(Lib.beBytes 8 t2++(Lib.beBytes 8 t3++(Lib.beBytes 8 t4++(Lib.beBytes 8 t5++[]))))))):=aa (by have:=HD.o;rw[HB.o]at this;rw[bk];exact this);clear HD;go_wp2_with fail;refine(rx X g t0 _ _ bK.o (by have:=ht;omega) (by simp only[ab,km,ar];omega)).mono ?_;rintro e v1 ⟨rfl,z,hu⟩;have bL:=aa z;have bM:=aa (bB.o.then hu (by intro b hb hl;simp only[ag]at hb;omega));clear z hu;go_wp2_with fail;refine(rx X g t1 _ _ bL.o (by have:=ht;omega) (by simp only[ab,km,ar];omega)).mono ?_;rintro e v2 ⟨rfl,z,hu⟩;have bO:=aa z;have bR:=aa (bM.o.then hu (by intro b hb hl;simp only[ag]at hb;omega));clear z hu;go_wp2_with fail;refine(rx X g t2 _ _ bO.o (by have:=ht;omega) (by simp only[ab,km,ar];omega)).mono ?_;rintro e v3 ⟨rfl,z,hu⟩;have bS:=aa z;have bW:=aa (bR.o.then hu (by intro b hb hl;simp only[ag]at hb;omega));clear z hu;go_wp2_with fail;refine(rx X g t3 _ _ bS.o (by have:=ht;omega) (by simp only[ab,km,ar];omega)).mono ?_;rintro e v4 ⟨rfl,z,hu⟩;have b5:=aa z;have b6:=aa (bW.o.then hu (by intro b hb hl;simp only[ag]at hb;omega));clear z hu;go_wp2_with fail;refine(rx X g t4 _ _ b5.o (by have:=ht;omega) (by simp only[ab,km,ar];omega)).mono ?_;rintro e v5 ⟨rfl,z,hu⟩;have b7:=aa z;have b8:=aa (b6.o.then hu (by intro b hb hl;simp only[ag]at hb;omega));clear z hu;go_wp2_with fail;refine(rx X g t5 _ _ b7.o (by have:=ht;omega) (by simp only[ab,km,ar];omega)).mono ?_;rintro e v6 ⟨rfl,z,hu⟩;have b9:=aa z;have bb:=aa (b8.o.then hu (by intro b hb hl;simp only[ag]at hb;omega));clear z hu;go_wp2_with (go_at_call 118;refine(je X g _ _ (b9.o.upd ((ae _).alloc _) (by simp) (by simp))).mono ?_;rintro e _ ⟨rfl,rfl⟩);go_ret2
   exact⟨_,rfl,an _,bb.o.size,bb.o.alloc _⟩
end
open Go Go.RowKit Xc Go.Proofs.Tryz
attribute [local go_sem ↓] Go.wp_at_zero Go.wp_at_succ
structure NrH(w:World)(v:Value)(g:Nat)(bs:Bytes)(syms:List Bytes)(gs:List (Bytes×List (Bytes×Nat)))(t1 t2 t3 t4 t5:Nat):Prop where
 rd:RdG w v g bs
 toc:∃a,bs=a++kd (jJ 5 t1 t2 t3 t4 t5)
 len:bs.length<1000000∧t1<1000000∧t2<1000000∧t3<1000000∧t4<1000000∧t5<1000000
 sym:∃c,bs=dE++(sec (bi syms)++c)
 symL:syms.length<1000∧(∀x∈syms,x.length≤60)∧syms.Pairwise (· <·)
 pot:∃a c,bs=a++(sec (gf (gs.flatMap ent))++c)∧a.length=t5
 names:(gs.map (·.1)).Nodup
 vals:∀g∈gs,g.2≠[]∧g.2.length≤12
 small:gs.length≤73∧∀g∈gs,g.1.length≤60∧(g.1≠[]→g.1∈syms)∧∀y∈g.2,y.1.length≤60∧y.2<1000000
def NrA(w:World)(v cv:Value)(g:Nat)(bs:Bytes)(syms:List Bytes)(es:List (Bytes×Bytes×Nat))(t1 t2 t3 t4 t5:Nat)(u8 z A D F:Value)(d:World):Prop:=
 ∃BR R bm X S r LN LV LO VC p M,u8=ptr BR 0∧z=ptr LN 0∧A=ptr LV 0∧D=ptr LO 0∧F=ptr VC 0∧
  RPI d BR R bm LN LV LO VC p g w.heap.size (iy (rl 4 es)) M∧
  d.heap[R]? =some (.cells #[.iface 139 v,ptr X 0,cv,.map (some bm),.map none,ptr S 0,.map none,.pointer none,.pointer none,.int .i64 2] 153 (0,0))∧
  d.heap[X]? =some (.cells #[.int .u64 (5:Nat),.int .u64 t1,.int .u64 t2,.int .u64 t3,.int .u64 t4,.int .u64 t5] 231 (0,0))∧kk d S v g r bs 5 syms∧RdG d v g bs∧
  (∀b∈[BR,R,bm,X,S,LN,LV,LO,VC]++r.toList++aR bm M,w.heap.size≤b∧b<d.heap.size)∧Upd [] w d
theorem kK(w:World)(d z o3:Obj):∃w1,w1=((w.alloc d).alloc z).alloc o3∧Upd [] w w1∧w1.heap[w.heap.size]? =some d∧w1.heap[w.heap.size+1]? =some z∧w1.heap[w.heap.size+1+1]? =some o3∧w1.heap.size=w.heap.size+3:=by
 obtain⟨w2,D,hu,a,b,c⟩:=j8 w d z;have A:=an (w:=w2) o3;have G4:Upd [] w2 (w2.alloc o3):=(ae _).alloc _;have h4:(w2.alloc o3).heap.size=w.heap.size+3:=by simp[c]
 rw[c]at A;refine⟨w2.alloc o3,by rw[D],hu.then G4 (by simp),G4.blk a (by simp),G4.blk b (by simp),A,h4⟩
structure RB(w:World)(BR R bm:Nat)(v:Value)(tc:TypeId)(xc toc sym ns dec:Value)(ver:Nat):Prop where
 br:w.heap[BR]? =some (.cells #[ptr R 0] 69 (0,0))
 rd:w.heap[R]? =some (.cells #[.iface 139 v,toc,.iface tc xc,.map (some bm),.map none,sym,ns,.pointer none,dec,.int .i64 ver] 153 (0,0))
theorem RB.upd{L:List Nat}{w w':World}{BR R bm:Nat}{v:Value}{tc:TypeId}{xc toc sym ns dec:Value}{ver:Nat}(h:RB w BR R bm v tc xc toc sym ns dec ver)(hu:Upd L w w')(h1:BR∉L)(d:R∉L):RB w' BR R bm v tc xc toc sym ns dec ver:=
 ⟨hu.blk h.br h1,hu.blk h.rd d⟩
section
variable {w:World} {BR R bm:Nat} {v:Value} {tc:TypeId} {xc toc sym ns dec:Value} {ver:Nat}
theorem iB{w:World}{R i:Nat}{x:Value}:Upd [R] w (w.setCell ⟨R,i,none⟩ x):=((ae w).mono (by simp)).setCell (fun _=>by simp) _
theorem RB.drew(h:RB w BR R bm v tc xc toc sym ns dec ver):RB w.drew BR R bm v tc xc toc sym ns dec ver:=h.upd (ae _).drew (by simp) (by simp)
theorem RB.set1(h:RB w BR R bm v tc xc toc sym ns dec ver)(G5:R≠BR)(x:Value):RB (w.setCell ⟨R,1,none⟩ x) BR R bm v tc xc x sym ns dec ver:=
 ⟨iB.blk h.br (by simpa using aF G5),au h.rd 1 x⟩
theorem RB.set5(h:RB w BR R bm v tc xc toc sym ns dec ver)(G5:R≠BR)(x:Value):RB (w.setCell ⟨R,5,none⟩ x) BR R bm v tc xc toc x ns dec ver:=
 ⟨iB.blk h.br (by simpa using aF G5),au h.rd 5 x⟩
theorem RB.set9(h:RB w BR R bm v tc xc toc sym ns dec ver)(G5:R≠BR)(x:Nat):RB (w.setCell ⟨R,9,none⟩ (.int .i64 x)) BR R bm v tc xc toc sym ns dec x:=
 ⟨iB.blk h.br (by simpa using aF G5),au h.rd 9 _⟩
end
theorem DG(w:World)(A D o3 z:Obj):∃w1,w1=(((w.alloc A).alloc D).alloc o3).alloc z∧Upd [] w w1∧w1.heap[w.heap.size]? =some A∧w1.heap[w.heap.size+1]? =some D∧w1.heap[w.heap.size+1+1]? =some o3∧w1.heap[w.heap.size+1+1+1]? =some z∧w1.heap.size=w.heap.size+4:=by
 obtain⟨w2,G,hu,a,b,c,d⟩:=kK w A D o3;have F:=an (w:=w2) z;have G4:Upd [] w2 (w2.alloc z):=(ae _).alloc _;have h4:(w2.alloc z).heap.size=w.heap.size+4:=by simp[d]
 rw[d]at F;refine⟨w2.alloc z,by rw[G],hu.then G4 (by simp),G4.blk a (by simp),G4.blk b (by simp),G4.blk c (by simp),F,h4⟩
theorem GR{w:World}{BR R bm LN LV LO VC p g n0:Nat}{v:Value}{tc:TypeId}{xc toc sym ns dec:Value}{ver:Nat}(h:RB w BR R bm v tc xc toc sym ns dec ver)(hm:w.heap[bm]? =some (.map #[] 0))
 (h1:w.heap[LN]? =some (.cells #[.slice none 0 0] 65 (0,0)))(d:w.heap[LV]? =some (.cells #[.slice none 0 0] 65 (0,0)))(z:w.heap[LO]? =some (.cells #[.int .i64 0] 3 (0,0)))(h4:w.heap[VC]? =some (.cells #[.int .i64 0] 3 (0,0)))
 (hg:g<n0)(hn:bm=n0∧R=n0+1∧BR=n0+1+1)(hl:n0+3≤LN∧LV=LN+1∧LO=LN+1+1∧VC=LN+1+1+1∧LN+4≤p∧p<w.heap.size):RPI w BR R bm LN LV LO VC p g n0 ⟨[],none,0,0⟩ []:=by
 refine⟨h.br,af h.rd 3,⟨hm,by simp,by simp[aR],by simp[aR];omega⟩,rfl,.inl ⟨rfl,h1,d⟩,z,h4,?_,?_,by omega,by simp⟩
 ·simp only[a8,ah,ai,or_false,not_or,jP,and_true,not_false_eq_true];omega
 ·intro b hb;simp only[ah,ai,or_false,aR,cQ]at hb⊢;omega
theorem NrH.esLen{w:World}{v:Value}{g:Nat}{bs:Bytes}{syms:List Bytes}{gs:List (Bytes×List (Bytes×Nat))}{t1 t2 t3 t4 t5:Nat}(h:NrH w v g bs syms gs t1 t2 t3 t4 t5):(gs.flatMap ent).length<1000:=by
 have h1:=h.small.1;have z:=fun g hg=>(h.vals g hg).2;have A:∀(l:List (Bytes×List (Bytes×Nat))),(∀g∈l,g.2.length≤12)→(l.flatMap ent).length≤12*l.length:=by
  intro l;induction l with
  |nil=>intro _;simp
  |cons x l D=>
   intro d;have h4:=D (fun g hg=>d g (by simp[hg]));have h5:=d x (by simp);have F:(ent x).length=x.2.length:=by simp[ent]
   rw[aY,ab,aj];omega
 have:=A gs z;omega
theorem NrH.endSmall{w:World}{v:Value}{g:Nat}{bs:Bytes}{syms:List Bytes}{gs:List (Bytes×List (Bytes×Nat))}{t1 t2 t3 t4 t5:Nat}(h:NrH w v g bs syms gs t1 t2 t3 t4 t5):∀y∈fD (iy (rl 4 (gs.flatMap ent))),y.2.length<100000:=by
 have h1:=rR (rl 4 (gs.flatMap ent));have z:=h.esLen;rw[lL]at h1;generalize iy (rl 4 (gs.flatMap ent))=st at h1⊢;intro y d;rw[fD]at d;cases hl:st.last with
 |none=>
  rw[hl]at d;have:=h1.2 y d;omega
 |some x=>
  rw[hl]at d;have:=mZ h1.2 y d;omega
theorem NrH.tabNodup{w:World}{v:Value}{g:Nat}{bs:Bytes}{syms:List Bytes}{gs:List (Bytes×List (Bytes×Nat))}{t1 t2 t3 t4 t5:Nat}(h:NrH w v g bs syms gs t1 t2 t3 t4 t5):((jj gs).map (·.1)).Nodup:=by
 have e:(jj gs).map (·.1)=(gs.map (·.1)).map str:=by rw[←kD gs 4,jj,bT,bT];rfl
 rw[e];exact List.Pairwise.map str (fun a b (If:a≠b) (e:str a=str b)=>If (by rw[←dG a,e,dG])) h.names
theorem Fw{w d:World}{v:Value}{g:Nat}{bs:Bytes}{syms:List Bytes}{gs:List (Bytes×List (Bytes×Nat))}{t1 t2 t3 t4 t5 BR R bm LN LV LO VC:Nat}{tc:TypeId}{xc toc sym ns dec:Value}{ver:Nat}(h:NrH w v g bs syms gs t1 t2 t3 t4 t5)(D:Upd [] w d)
 (hB:RB d BR R bm v tc xc toc sym ns dec ver)(hm:d.heap[bm]? =some (.map #[] 0))
 (h1:d.heap[LN]? =some (.cells #[.slice none 0 0] 65 (0,0)))(O:d.heap[LV]? =some (.cells #[.slice none 0 0] 65 (0,0)))(U:d.heap[LO]? =some (.cells #[.int .i64 0] 3 (0,0)))(h4:d.heap[VC]? =some (.cells #[.int .i64 0] 3 (0,0)))
 (hn:bm=w.heap.size∧R=w.heap.size+1∧BR=w.heap.size+1+1)(hl:w.heap.size+3≤LN∧LV=LN+1∧LO=LN+1+1∧VC=LN+1+1+1∧d.heap.size=LN+4)(w':World)(hu:Upd [] d w'):
 Calls prog 177 #[.iface 139 v,.int .u64 (t5:Nat),.func (.func 179) #[] #[ptr BR 0,ptr LN 0,ptr LV 0,ptr LO 0,ptr VC 0]] w' (mJ w' BR R bm LN LV LO VC g w.heap.size (iy (rl 4 (gs.flatMap ent))) []):=by
 obtain⟨a,c,hb,V⟩:=h.pot;have hlen:=h.len;rw[←V];refine Bz g v bs a c (gs.flatMap ent) w' BR R bm LN LV LO VC w.heap.size [] (h.rd.upd (D.then hu (by simp)) (by simp)) hb hlen.1 ⟨?_,?_⟩ ?_
 ·exact h.esLen
 ·intro x W;obtain⟨y,hy,A⟩:=List.mem_flatMap.1 W;have hs:=h.small.2 y hy;simp only[ent,bU]at A;obtain⟨z,hz,rfl⟩:=A;exact⟨hs.1,(hs.2.2 z hz).1,(hs.2.2 z hz).2⟩
 ·intro p ad hp F G;have G4:=hu.then G (by simp);have h5:=hu.size;exact GR (hB.upd G4 (by simp) (by simp)) (G4.blk hm (by simp)) (G4.blk h1 (by simp)) (G4.blk O (by simp)) (G4.blk U (by simp)) (G4.blk h4 (by simp)) h.rd.lt hn ⟨hl.1,hl.2.1,hl.2.2.1,hl.2.2.2.1,by omega,F⟩
theorem mJ.ofDrew{w w':World}{BR R bm LN LV LO VC g base:Nat}{st:RP}{M0:RM}{e:Ending}(h:mJ w.drew BR R bm LN LV LO VC g base st M0 e w'):e=.returned .nilIface∧mJ w BR R bm LN LV LO VC g base st M0 (.returned .nilIface) w':=by obtain⟨h1,d,p,z,A,h4⟩:=h;exact⟨h1,rfl,d,p,z,cz A,h4⟩
theorem mJ.upd{w w':World}{BR R bm LN LV LO VC g base:Nat}{st:RP}{e:Ending}(h:mJ w BR R bm LN LV LO VC g base st [] e w'):Upd [LN,LV,LO,VC,bm] w w':=by obtain⟨h1,z,p,A,d,h4⟩:=h;exact d.mono (by simp[rpB,aR])
theorem mJ.upd8{w w':World}{BR R bm X LN LV LO VC g base n t0 t1 t2 t3 t4 t5:Nat}{st:RP}{e:Ending}{v:Value}{tc:TypeId}{xc sym ns dec:Value}{ver:Nat}(h:mJ w BR R bm LN LV LO VC g base st [] e w')
 (hB:RB w BR R bm v tc xc (ptr X 0) sym ns dec ver)(hX:w.heap[X]? =some (.cells #[.int .u64 t0,.int .u64 t1,.int .u64 t2,.int .u64 t3,.int .u64 t4,.int .u64 t5] 231 (0,0)))
 (hn:bm=n∧R=n+1∧BR=n+1+1∧n+3≤LN∧LV=LN+1∧LO=LN+1+1∧VC=LN+1+1+1∧X<LN∧bm≠X):w'.cell? ⟨BR,0,none⟩=some (ptr R 0)∧w'.cell? ⟨R,0,none⟩=some (.iface 139 v)∧w'.cell? ⟨R,1,none⟩=some (ptr X 0)∧w'.cell? ⟨X,5,none⟩=some (.int .u64 t5):=by
 have hu:=h.upd;have d:=hB.upd hu (by simp only[ah,ai,or_false];omega) (by simp only[ah,ai,or_false];omega);exact⟨af d.br 0,af d.rd 0,af d.rd 1,af (hu.blk hX (by simp only[ah,ai,or_false];omega)) 5⟩
theorem wz(st:RP)(h:st.last=none):({st with M:=fD st}:RP)=st:=by obtain⟨M,last,lo,cnt⟩:=st;cases h;rfl
theorem wA(st:RP){x:Bytes×Bytes}(h:st.last=some x):fD st=fU st.M (str x.1) (str x.2) st.lastOff:=by obtain⟨M,last,lo,cnt⟩:=st;cases h;rfl
structure NrB(w0 w:World)(BR R bm X S g:Nat)(v:Value)(tc:TypeId)(xc ns:Value)(r:Option Nat)(bs:Bytes)(syms:List Bytes)(tab:List (ByteArray×List (ByteArray×Nat)))(t1 t2 t3 t4 t5:Nat)(M:RM):Prop where
 rb:RB w BR R bm v tc xc (ptr X 0) (ptr S 0) ns (.pointer none) 2
 x:w.heap[X]? =some (.cells #[.int .u64 (5:Nat),.int .u64 t1,.int .u64 t2,.int .u64 t3,.int .u64 t4,.int .u64 t5] 231 (0,0))
 s:kk w S v g r bs 5 syms
 mem:kj Value.string clP 2 w 172 w0.heap.size bm M
 abs:jy M=tab
 o:∀b∈[BR,R,X,S]++r.toList,w0.heap.size≤b∧b∉aR bm M
 dis:R≠BR∧R≠X∧R≠S∧∀k,r=some k→R≠k
 g:g<w0.heap.size
 upd:Upd [] w0 w
theorem Eo{w z w9 A:World}{v:Value}{g:Nat}{bs:Bytes}{syms:List Bytes}{gs:List (Bytes×List (Bytes×Nat))}{t1 t2 t3 t4 t5 BR R bm X S LN LV LO VC p:Nat}{r:Option Nat}{tc:TypeId}{xc ns:Value}{st:RP}{O W:RM}(h:NrH w v g bs syms gs t1 t2 t3 t4 t5)(U:Upd [] w z)
 (hB:RB z BR R bm v tc xc (ptr X 0) (ptr S 0) ns (.pointer none) 2)(hX:z.heap[X]? =some (.cells #[.int .u64 (5:Nat),.int .u64 t1,.int .u64 t2,.int .u64 t3,.int .u64 t4,.int .u64 t5] 231 (0,0)))(hS:kk z S v g r bs 5 syms)
 (hn:bm=w.heap.size∧R=w.heap.size+1∧BR=w.heap.size+1+1)(hl:w.heap.size+3≤LN∧LV=LN+1∧LO=LN+1+1∧VC=LN+1+1+1∧z.heap.size=LN+4∧X<LN∧S<LN∧∀k,r=some k→k<LN)
 (hx:w.heap.size≤X∧R≠X∧BR≠X∧bm≠X)(hs:w.heap.size≤S∧(∀k,r=some k→w.heap.size≤k))(D:bm≠S∧R≠S∧∀k,r=some k→bm≠k∧R≠k)
 (hq:Upd [LN,LV,LO,VC,bm] z w9)(ad:∀b∈aR bm O,b∈aR bm ([]:RM)∨z.heap.size≤b)(a0:st=iy (rl 4 (gs.flatMap ent)))
 (hI:RPI A BR R bm LN LV LO VC p g w.heap.size {st with M:=fD st} W)(hu:Upd (aR bm O) w9 A)(a1:∀b∈aR bm W,b∈aR bm O∨w9.heap.size≤b):
 NrB w A BR R bm X S g v tc xc ns r bs syms (jj gs) t1 t2 t3 t4 t5 W:=by
 have a2:=h.rd.lt;have G:∀b∈aR bm O,b=bm∨z.heap.size≤b:=fun b hb=>by
  rcases ad b hb with h1|h1
  ·simp only[aR,cQ,ag]at h1;exact .inl h1
  ·exact .inr h1
 have a4:=hq.size;have hm2:∀b∈aR bm W,b=bm∨z.heap.size≤b:=fun b hb=>by
  rcases a1 b hb with h1|h1
  ·exact G b h1
  ·exact .inr (by omega)
 have F:Upd ([LN,LV,LO,VC,bm]++aR bm O) z A:=(hq.mono (fun b hb=>by simp only[aA];exact .inl hb)).then hu (fun b hb _=>by simp only[aA];exact .inr hb);have d:∀b,b≠bm→b<LN→b∉[LN,LV,LO,VC,bm]++aR bm O:=fun b h1 h2 hm=>by
  simp only[aA,ah,ai,or_false]at hm;rcases hm with hm|hm
  ·omega
  ·rcases G b hm with V|V<;>omega
 refine⟨hB.upd F (d _ (by omega) (by omega)) (d _ (by omega) (by omega)),F.blk hX (d _ (by omega) (by omega)),hS.upd F (d _ (by omega) (by omega)) (d _ (by omega) (by omega)) (fun k hk=>d _ (aF (D.2.2 k hk).1) (hl.2.2.2.2.2.2.2 k hk)),hI.mem,?_,?_,⟨by omega,hx.2.1,D.2.1,fun k hk=>(D.2.2 k hk).2⟩,a2,?_⟩
 ·rw[hI.abs];show fD st=_;rw[a0];exact AY gs h.names (fun g hg=>⟨(h.vals g hg).1,by have:=(h.vals g hg).2;omega⟩)
 ·intro b hb;have a3:w.heap.size≤b∧b≠bm∧b<LN:=by
   simp only[aA,ah,ai,or_false,fh]at hb;rcases hb with(rfl|rfl|rfl|rfl)|hb
   ·omega
   ·omega
   ·omega
   ·omega
   ·exact⟨hs.2 b hb,aF (D.2.2 b hb).1,hl.2.2.2.2.2.2.2 b hb⟩
  refine⟨a3.1,fun hm=>?_⟩;rcases hm2 b hm with V|V<;>omega
 ·refine U.then F (fun b hb a5=>?_);simp only[aA,ah,ai,or_false]at hb;rcases hb with hb|hb
  ·omega
  ·rcases G b hb with V|V
   ·omega
   ·have:=U.size;omega
theorem A0(g off N cap:Nat)(w:World)(h5:5≤cap):Calls prog 277 #[.slice (some ⟨g,off,none⟩) N cap,.int .i64 4,.int .i64 5] w fun r w'=>r=.returned (.slice (some ⟨g,off+4,none⟩) 1 (cap-4))∧w=w':=by
 have G4:(5:Int)≤(cap:Int):=by omega
 have G5:(cap=4)=False:=by simp;omega
 go_enter func277,ntmps277
 go_wp2_with fail;go_ret;exact⟨rfl,rfl⟩
theorem pn(w:World):Calls prog 174 #[] w fun e w'=>e=.returned (.pointer none)∧w=w':=by
 go_enter func174,ntmps174
 go_wp2
 go_ret;exact⟨rfl,rfl⟩
theorem tp{P:Program}{ops:Array Oper}{o:Oper}{a:Act}{w:World}{K:Act→World→Prop}{Q:Exit→Act→World→Prop}{E:Prop}
 (hg:o.guard=none)(x:Operand)(A:Array TypeId)(z:o.op=Op.call {callee:=Callee.builtin Builtin.len,args:= #[x],argTypes:=A})
 (D v':Value)(w':World)(F:a.eval x=D)(d:(Builtin.len_ A o.type #[D]).run P w=.ok v' w')
 (hK:K (a.put o.dst v') w'):
 if Region.wanted o (yielded ops a.tmps)=true then Oper.wp P o a w K Q else E:=by
 have G:Region.wanted o (yielded ops a.tmps)=true:=by simp[Region.wanted,hg]
 rw[if_pos G];unfold Oper.wp execOp;simp only[z,resolve,invoke,builtin,eI,gX,fi,gI,aN,cQ,F,d];exact hK
theorem NrB.lts{w0 w:World}{BR R bm X S g:Nat}{v:Value}{tc:TypeId}{xc ns:Value}{r:Option Nat}{bs:Bytes}{syms:List Bytes}{tab:List (ByteArray×List (ByteArray×Nat))}{t1 t2 t3 t4 t5:Nat}{M:RM}(h:NrB w0 w BR R bm X S g v tc xc ns r bs syms tab t1 t2 t3 t4 t5 M):(∀b∈[BR,R,X,S]++r.toList++aR bm M,b<w.heap.size)∧g<w.heap.size:=by
 have hs:=h.s.lt;refine⟨fun b hb=>?_,hs.2.1⟩;simp only[aA,ah,ai,or_false]at hb;rcases hb with((rfl|rfl|rfl|rfl)|hb)|hb
 ·exact lt_of_block h.rb.br
 ·exact lt_of_block h.rb.rd
 ·exact lt_of_block h.x
 ·exact hs.1
 ·exact hs.2.2 b (by simpa using hb)
 ·exact h.mem.lt _ hb
theorem NrB.move{w0 w w':World}{BR R bm X S g:Nat}{v:Value}{tc:TypeId}{xc ns:Value}{r:Option Nat}{bs:Bytes}{syms:List Bytes}{tab:List (ByteArray×List (ByteArray×Nat))}{t1 t2 t3 t4 t5:Nat}{M:RM}(h:NrB w0 w BR R bm X S g v tc xc ns r bs syms tab t1 t2 t3 t4 t5 M)(hu:Upd [] w w'):NrB w0 w' BR R bm X S g v tc xc ns r bs syms tab t1 t2 t3 t4 t5 M:=
 ⟨h.rb.upd hu (by simp) (by simp),hu.blk h.x (by simp),h.s.upd hu (by simp) (by simp) (by simp),h.mem.upd hu (by simp),h.abs,h.o,h.dis,h.g,h.upd.then hu (by simp)⟩
theorem NrB.trim{w0 w w1 w2:World}{BR R bm X S g I:Nat}{v:Value}{tc:TypeId}{xc ns:Value}{r:Option Nat}{bs:Bytes}{syms:List Bytes}{tab:List (ByteArray×List (ByteArray×Nat))}{t1 t2 t3 t4 t5:Nat}{M:RM}(h:NrB w0 w BR R bm X S g v tc xc ns r bs syms tab t1 t2 t3 t4 t5 M)
 (z:Upd [] w w1)(hI:I=w.heap.size)(hT:C3 w1 bm BR R w0.heap.size M w2)(hu:Upd [bm,I] w1 w2):∃A,NrB w0 w2 BR R bm X S g v tc xc ns r bs syms tab t1 t2 t3 t4 t5 A:=by
 obtain⟨A,hm,O,hb⟩:=hT;obtain⟨hl,U⟩:=h.lts;have h1:=h.move z;have hn:∀b∈[BR,R,X,S]++r.toList,b∉[bm,I]:=fun b hb hm=>by
  simp only[ah,ai,or_false]at hm;rcases hm with e|e
  ·exact(h.o b hb).2 (by rw[e];simp[aR])
  ·have:=hl b (bX _ hb);omega
 have D:g∉[bm,I]:=fun hm=>by simp only[ah,ai,or_false]at hm;have F:=h.g;have V:=h.mem.ge bm (by simp[aR]);have h4:=h.upd.size;omega
 have W:=z.size;refine⟨A,h1.rb.upd hu (hn _ (by simp)) (hn _ (by simp)),hu.blk h1.x (hn _ (by simp)),h1.s.upd hu (hn _ (by simp)) D (fun k hk=>hn k (by simp[hk])),hm,O.trans h.abs,fun b d=>⟨(h.o b d).1,fun G=>?_⟩,h.dis,h.g,h1.upd.then hu (fun b hb _=>?_)⟩
 ·rcases hb b G with F|F
  ·exact(h.o b d).2 F
  ·have:=hl b (bX _ d);omega
 ·simp only[ah,ai,or_false]at hb;have V:=h.mem.ge bm (by simp[aR]);have h4:=h.upd.size;rcases hb with rfl|rfl<;>omega
def NsQ(w:World)(R X S bm NS:Nat)(v:Value)(tc:TypeId)(xc dec:Value)(d:World):Prop:=
 d.heap[R]? =some (.cells #[.iface 139 v,ptr X 0,.iface tc xc,.map (some bm),.map none,ptr S 0,.map (some NS),.pointer none,dec,.int .i64 (2:Nat)] 153 (0,0))∧d.heap[NS]? =some (bI (ec .u32) [])∧w.heap.size≤NS∧Upd [R] w d
theorem NrB.ns{w z d:World}{BR R bm X S NS g:Nat}{v:Value}{tc:TypeId}{xc ns dec:Value}{r:Option Nat}{bs:Bytes}{syms:List Bytes}{tab:List (ByteArray×List (ByteArray×Nat))}{t1 t2 t3 t4 t5:Nat}{M:RM}(h:NrB w z BR R bm X S g v tc xc ns r bs syms tab t1 t2 t3 t4 t5 M)(hN:NsQ z R X S bm NS v tc xc dec d):
 kj Value.string clP 2 d 172 w.heap.size bm M∧d.cell? ⟨BR,0,none⟩=some (ptr R 0)∧d.cell? ⟨R,3,none⟩=some (.map (some bm)):=
 ⟨h.mem.upd hN.2.2.2 (fun b hb hm=>by simp only[ag]at hb;subst hb;exact(h.o _ (by simp)).2 hm),hN.2.2.2.cell (by simpa using aF h.dis.1) (af h.rb.br 0),af hN.1 3⟩
structure F5(d:World)(BR R bm S NS I g:Nat)(v:Value)(r:Option Nat)(bs:Bytes)(syms:List Bytes):Prop where
 s:kk d S v g r bs 5 syms
 br:d.heap[BR]? =some (.cells #[ptr R 0] 69 (0,0))
 r5:d.cell? ⟨R,5,none⟩=some (ptr S 0)
 r6:d.cell? ⟨R,6,none⟩=some (.map (some NS))
 n0:d.heap[NS]? =some (bI (ec .u32) [])
 ne:∀b∈[bm,BR,R,S,g]++r.toList,b≠NS∧b≠I
 nI:I≠NS
 rb:R≠BR
theorem NrB.ns14{w A D F:World}{BR R bm X S NS I g:Nat}{v:Value}{tc:TypeId}{xc ns dec:Value}{r:Option Nat}{bs:Bytes}{syms:List Bytes}{tab:List (ByteArray×List (ByteArray×Nat))}{t1 t2 t3 t4 t5:Nat}{M:RM}(h:NrB w A BR R bm X S g v tc xc ns r bs syms tab t1 t2 t3 t4 t5 M)(hN:NsQ A R X S bm NS v tc xc dec D)(d:Upd [] D F)(hI:I=D.heap.size):
 F5 F BR R bm S NS I g v r bs syms:=by
 obtain⟨hl,O⟩:=h.lts;obtain⟨hr,hn0,V,z⟩:=hN;have G:=h.dis;have U:g≠R:=by have h1:=h.g;have h2:=(h.o R (by simp)).1;omega
 have s1:=z.size;have hNl:=lt_of_block hn0;refine⟨(h.s.upd z (by simpa using aF G.2.2.1) (by simpa using U) (fun k W=>by simpa using aF (G.2.2.2 k W))).upd d (by simp) (by simp) (by simp),d.blk (z.blk h.rb.br (by simpa using aF G.1)) (by simp),d.cell (by simp) (af hr 5),d.cell (by simp) (af hr 6),d.blk hn0 (by simp),fun b hb=>?_,by omega,G.1⟩;have h1:b<A.heap.size:=by
  rcases List.mem_append.1 hb with hb|hb
  ·simp only[ah,ai,or_false]at hb;rcases hb with e|e|e|e|e
   ·rw[e];exact hl bm (bZ _ (by simp[aR]))
   ·rw[e];exact hl BR (by simp)
   ·rw[e];exact hl R (by simp)
   ·rw[e];exact hl S (by simp)
   ·rw[e];exact O
  ·exact hl b (bX _ (bZ _ hb))
 omega
theorem Ex{w O W ad d:World}{BR R bm X S NS g I:Nat}{v:Value}{tc:TypeId}{xc ns:Value}{r:Option Nat}{bs:Bytes}{syms:List Bytes}{gs:List (Bytes×List (Bytes×Nat))}{t1 t2 t3 t4 t5:Nat}{M:RM}{nl:List (Nat×Value)}(hb:RdG w v g bs)
 (h:NrB w O BR R bm X S g v tc xc ns r bs syms (jj gs) t1 t2 t3 t4 t5 M)(hN:NsQ O R X S bm NS v tc xc (.pointer none) W)(A:Upd [] W ad)(hI:I=W.heap.size)(F:Upd [NS,I] ad d)(hns:d.heap[NS]? =some (bI (ec .u32) nl))(a5:sf syms nl):
 RdI ((d.alloc (.cells #[.func (.func 181) #[ptr R 0] #[],.func (.func 55) #[] #[]] 167 (0,0))).setCell ⟨R,8,none⟩ (ptr d.heap.size 0)) R g w.heap.size ((d.alloc (.cells #[.func (.func 181) #[ptr R 0] #[],.func (.func 55) #[] #[]] 167 (0,0))).setCell ⟨R,8,none⟩ (ptr d.heap.size 0)).heap.size v bs syms gs t5∧
  Upd [] w ((d.alloc (.cells #[.func (.func 181) #[ptr R 0] #[],.func (.func 55) #[] #[]] 167 (0,0))).setCell ⟨R,8,none⟩ (ptr d.heap.size 0)):=by
 obtain⟨hl,bb⟩:=h.lts;obtain⟨hr,hn0,a9,V⟩:=hN;have bd:=hl R (by simp);have s1:=V.size;have s2:=A.size;have s3:=F.size;have hNl:=lt_of_block hn0;have hA:Upd [R,NS,I] O d:=((V.mono (by simp)).then A (by simp)).then F (fun b hb _=>by simp only[ah,ai,or_false]at hb⊢;omega);obtain⟨o,ho⟩:∃o,o=Obj.cells #[.func (.func 181) #[ptr R 0] #[],.func (.func 55) #[] #[]] 167 (0,0):=⟨_,rfl⟩;have hD:=an (w:=d) o;obtain⟨D,a6⟩:∃D,D=d.heap.size:=⟨_,rfl⟩;rw[←ho];rw[←a6]at hD⊢;have G:Upd [] d (d.alloc o):=(ae _).alloc _;have be:(d.alloc o).heap.size=d.heap.size+1:=by simp
 have z:Upd [R] (d.alloc o) ((d.alloc o).setCell ⟨R,8,none⟩ (ptr D 0)):=iB;have a0:=F.blk (A.blk hr (by simp)) (by simp only[ah,ai,or_false];omega);have a1:=G.blk a0 (by simp);have a2:=au a1 8 (ptr D 0);generalize (d.alloc o).setCell ⟨R,8,none⟩ (ptr D 0)=w17 at*;generalize d.alloc o=w16 at*;have s4:=z.size;have hB:Upd [R,NS,I] O w17:=(hA.then G (by simp)).then z (fun b hb _=>by simp only[ag]at hb;simp[hb]);have hd:=h.dis;have U:∀b∈[X,S]++r.toList++aR bm M,b∉[R,NS,I]:=fun b hb hm=>by
  have h1:=hl b (by
   rcases List.mem_append.1 hb with hb|hb
   ·refine bX _ ?_;rcases List.mem_append.1 hb with hb|hb
    ·exact bX _ (by simp only[ah,ai,or_false]at hb⊢;exact .inr (.inr hb))
    ·exact bZ _ hb
   ·exact bZ _ hb)
  simp only[ah,ai,or_false]at hm;rcases hm with e0|e0|e0
  ·subst e0;simp only[aA,ah,ai,or_false]at hb;rcases hb with((e|e)|hb)|hb
   ·exact hd.2.1 e
   ·exact hd.2.2.1 e
   ·exact hd.2.2.2 _ (by simpa using hb) rfl
   ·exact(h.o _ (by simp)).2 hb
  ·omega
  ·omega
 have a7:g∉[R,NS,I]:=by have h1:=h.g;have h2:=(h.o R (by simp)).1;have h3:=h.upd.size;simp only[ah,ai,or_false];omega
 have a3:Upd [] w w17:=h.upd.then hB (fun b hb _=>by have h2:=(h.o R (by simp)).1;have h3:=h.upd.size;simp only[ah,ai,or_false]at hb;rcases hb with rfl|rfl|rfl<;>omega)
 refine⟨⟨X,S,D,bm,NS,r,M,nl,tc,xc,a2,⟨_,_,_,_,_,hB.blk h.x (U X (by simp))⟩,h.s.upd hB (U S (by simp)) a7 (fun k hk=>U k (by simp[hk])),h.mem.upd hB (fun b hm hb=>U b (by simp only[aA];exact .inr hb) hm),h.abs,?_,a5,?_,hb.upd a3 (by simp),fun b hb=>?_,h.g⟩,a3⟩
 ·exact z.blk (G.blk hns (by simp)) (by simp only[ag];omega)
 ·rw[ho]at hD;exact z.blk hD (by simp only[ag];omega)
 ·have h3:=h.upd.size;simp only[aA,ah,ai,or_false]at hb;rcases hb with((e|e|e|e|e)|hb)|hb
  ·rw[e];exact⟨(h.o _ (by simp)).1,by omega⟩
  ·rw[e];exact⟨(h.o _ (by simp)).1,by have:=hl X (by simp);omega⟩
  ·rw[e];exact⟨(h.o _ (by simp)).1,by have:=hl S (by simp);omega⟩
  ·exact⟨by omega,by omega⟩
  ·exact⟨by omega,by omega⟩
  ·have a4:b∈[BR,R,X,S]++r.toList:=bZ _ hb;exact⟨(h.o b a4).1,by have:=hl b (bX _ a4);omega⟩
  ·exact⟨h.mem.ge b hb,by have:=h.mem.lt _ hb;omega⟩
theorem NrH.namesH{w:World}{v:Value}{g:Nat}{bs:Bytes}{syms:List Bytes}{gs:List (Bytes×List (Bytes×Nat))}{t1 t2 t3 t4 t5:Nat}(h:NrH w v g bs syms gs t1 t2 t3 t4 t5){M:RM}(hM:jy M=jj gs):(∃c,rZ syms M bs c)∧M.length<1000000∧∀y∈M,y.2.2.2.length<1000000:=by
 obtain⟨c,F⟩:=h.sym;have D:∀y∈M,∃g∈rlG 4 gs,y.1=str g.1∧y.2.2.2=mO (g.2.map vst):=fun y z=>by have h1:(y.1,y.2.2.2)∈jy M:=List.mem_map.2 ⟨y,z,rfl⟩;rw[hM,jj]at h1;obtain⟨g,hg,e⟩:=List.mem_map.1 h1;exact⟨g,hg,(congrArg Prod.fst e).symm,(congrArg Prod.snd e).symm⟩
 refine⟨⟨c,F,h.len.1,h.symL.1,h.symL.2.1,h.symL.2.2,fun y z G5=>?_⟩,?_,fun y z=>?_⟩
 ·obtain⟨g',hg,e,_⟩:=D y z;have h1:g'.1∈(rlG 4 gs).map (·.1):=List.mem_map.2 ⟨g',hg,rfl⟩;rw[kD]at h1;obtain⟨g2,d,e2⟩:=List.mem_map.1 h1;have A:=(h.small.2 g2 d).2.1;rw[e2]at A;rw[e,dG];exact A (fun e3=>G5 (by rw[e,e3]))
 ·have h1:=congrArg List.length hM;have G:=congrArg List.length (kD gs 4);have A:=h.small.1;simp only[jy,jj,aB]at h1 G;omega
 ·obtain⟨g',hg,_,e⟩:=D y z;have h1:g'.2.length∈(rlG 4 gs).map (·.2.length):=List.mem_map.2 ⟨g',hg,rfl⟩;rw[uG]at h1;obtain⟨g2,d,e2⟩:=List.mem_map.1 h1;have A:=(h.vals g2 d).2;have h4:∀{α:Type} (l:List α),(mO l).length≤2:=fun l=>by
   match l with
   |[]=>simp[mO]
   |[_]=>simp[mO]
   |_::_::_=>simp[mO]
  have:=h4 (g'.2.map vst);rw[e];omega
end Go.Proofs.YtlgefdfflmgocaaGreatDoor
