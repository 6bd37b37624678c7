import Derived.Test.YtlgefdfflmgocaaGreatDoorQ17
import Derived.Laws.CopyRow
import Derived.Laws.OwnMore
set_option linter.all false
set_option maxRecDepth 100000
set_option maxHeartbeats 8000000
namespace Go.Proofs.YtlgefdfflmgocaaGreatDoor
open Go Go.RowKit Xc Go.Proofs.Tryz
attribute [local go_sem ↓] Go.wp_at_zero Go.wp_at_succ
theorem Fv(es:List (Bytes×Bytes×Nat))(j:Nat)(h:j<es.length):∃d:j<(rl 4 es).length,(rl 4 es)[j]=(es[j].1,es[j].2.1,4+(poB (es.take j)).length):=by
 have d:j<(rl 4 es).length:=by rw[lL];exact h
 refine⟨d,?_⟩;have:=AW es 4 j h;rw[az d]at this;exact cI this
theorem rK(es:List (Bytes×Bytes×Nat))(j:Nat):(poB es).length=(poB (es.take j)).length+(poB (es.drop j)).length:=by rw[←ab,←poB_append,aI]
def mJ(w:World)(BR R bm LN LV LO VC g base:Nat)(st:RP)(M0:RM)(e:Ending)(w':World):Prop:=
 e=.returned .nilIface∧∃d p,RPI w' BR R bm LN LV LO VC p g base st d∧Upd (rpB LN LV LO VC bm M0) w w'∧∀b∈aR bm d,b∈aR bm M0∨w.heap.size≤b
theorem Bz(g:Nat)(v:Value)(bs a c:Bytes)(es:List (Bytes×Bytes×Nat))(w:World)(BR R bm LN LV LO VC base:Nat)(M0:RM)(h:RdG w v g bs)(hb:bs=a++(sec (gf es)++c))(hn:bs.length<1000000)
 (hes:es.length<1000∧∀x∈es,x.1.length≤60∧x.2.1.length≤60∧x.2.2<1000000)
 (h0:∀p w',w.heap.size≤p→p<w'.heap.size→Upd [] w w'→RPI w' BR R bm LN LV LO VC p g base ⟨[],none,0,0⟩ M0):
 Calls prog 177 #[.iface 139 v,.int .u64 (a.length:Nat),.func (.func 179) #[] #[ptr BR 0,ptr LN 0,ptr LV 0,ptr LO 0,ptr VC 0]] w
  (mJ w BR R bm LN LV LO VC g base (iy (rl 4 es)) M0):=by
 obtain⟨A,hA⟩:∃A,A=a.length:=⟨_,rfl⟩;have hlen:a.length+(gf es).length+8≤bs.length:=by rw[hb,ab,ab,dx];omega
 have bS:∀w1 tb,RdG w1 v g bs→ij w1 tb→Calls prog 57 #[.iface 139 v,.int .i64 A,.pointer (some ⟨tb,0,none⟩)] w1 fun r w'=>∃v',r=.returned (.agg #[v',.nilIface])∧RdG w' v' g (gf es)∧Upd [] w1 w':=fun w1 tb h1 h2=>by rw[hA];exact lp g tb v bs a (gf es) c w1 h1 h2 hb (by omega)
 have bW:=aa bS;have H:=aa h;have HE:=aa hes;have H0:=aa h0;have el:IntKind.i64.wrap (A:Int)=(A:Int):=by rw[bo];omega
 have ei:(A:Int)<1000000:=by omega
 obtain⟨N,hN⟩:∃N,N=(gf es).length:=⟨_,rfl⟩;have b5:N=4+(poB es).length:=by rw[hN,gf,ab,cd]
 have hNl:N<1000000:=by omega
 rw[←hA];have HN:=aa (And.intro hN b5);clear bS h hb hes h0 hA hlen hN b5;go_enter func177,ntmps177
 go_wp2_with (first
  |(go_at_call 58;refine(eL _).mono ?_;rintro e w1 ⟨tb,rfl,b6,_,bg⟩)
  |(go_at_call 57;refine(bW.o _ _ (H.o.upd bg (by simp)) b6).mono ?_;rintro e w2 ⟨v2,rfl,V,b7⟩;have O:=aa V;have bl:=aa (bg.then b7 (by simp));obtain⟨F,G6,rfl,dj,ad⟩:=V;clear ad dj bg b7 b6))
 have a0:cm (w2.alloc (.cells #[.slice (some ⟨g,F,none⟩) (gf es).length G6,.nilIface] 159 (0,0))) w2.heap.size g (gf es):=
  ⟨⟨_,an _,O.o.upd ((ae w2).alloc _) (by simp)⟩,lm O.o.lt⟩
 have W:Upd [] w (w2.alloc (.cells #[.slice (some ⟨g,F,none⟩) (gf es).length G6,.nilIface] 159 (0,0))):=bl.o.alloc _;have bn:w2.heap.size<(w2.alloc (.cells #[.slice (some ⟨g,F,none⟩) (gf es).length G6,.nilIface] 159 (0,0))).heap.size:=by simp
 have a1:w.heap.size≤w2.heap.size:=bl.o.size;revert a0 W bn a1;generalize (w2.alloc (.cells #[.slice (some ⟨g,F,none⟩) (gf es).length G6,.nilIface] 159 (0,0)))=w3;generalize w2.heap.size=p;intro a0 W bn a1;have a2:=aa (H0.o p w3 a1 bn W);have br:=aa a0;have b8:=aa W;obtain⟨K,hK⟩:∃K,K=es.length:=⟨_,rfl⟩;have ep:K<1000:=by rw[hK];exact HE.o.1
 have HK:=aa hK;have b9:Calls prog 126 #[.pointer (some ⟨p,0,none⟩)] w3 fun e w'=>e=.returned (.int .i64 N)∧w3=w':=by rw[HN.o.1];exact kL p g _ w3 br.o
 have ca:=aa b9;have bb:Calls prog 182 #[.pointer (some ⟨p,0,none⟩)] w3 fun e w'=>e=.returned (.int .u32 K)∧cm w' p g (poB es)∧Upd [p] w3 w':=by rw[hK];have hl:(Lib.beBytes 4 es.length++poB es).length=N:=HN.o.1.symm;exact C4 p g es.length (poB es) w3 br.o (by omega) (by rw[hl];omega)
 have bd:=aa bb;clear a0 W hK b9 bb H0 bW O bl br;go_wp2_with fail;refine ca.o.mono ?_;rintro e _ ⟨rfl,rfl⟩;go_wp2_with fail;refine bd.o.mono ?_;rintro e w4 ⟨rfl,cc,bv⟩;have Ib:∀b∈[p],b∉[BR,R,LN,LV,LO,VC,g]∧b∉aR bm M0:=fun b hb=>by
  simp only[ag]at hb;subst hb;have d:=a2.o.dis;refine⟨fun hm=>?_,(a2.o.o b (by simp)).1⟩;simp only[a8,ah,ai,or_false,not_or,jP,and_true]at d hm;rcases hm with rfl|rfl|rfl|rfl|rfl|rfl|rfl
  ·exact d.1.2.2.2.2.2.1 rfl
  ·exact d.2.1.2.2.2.2.1 rfl
  ·exact d.2.2.1.2.2.2.1 rfl
  ·exact d.2.2.2.1.2.2.1 rfl
  ·exact d.2.2.2.2.1.2.1 rfl
  ·exact d.2.2.2.2.2.1.1 rfl
  ·exact d.2.2.2.2.2.2.1 rfl
 have cg:=aa (a2.o.upd bv Ib);have ck:=aa cc;have cn:=aa (b8.o.then bv (by intro b hb hl;simp at hb;omega));clear cc bv Ib a2 b8 ca bd;go_wp2_with fail;go_loopg [9] K (fun gg s9 wx=>∃j r M',s9=.int .u32 (r:Nat)∧Hid (j+r=K)∧gg=r∧Hid (RPI wx BR R bm LN LV LO VC p g base (iy ((rl 4 es).take j)) M'∧cm wx p g (poB (es.drop j))∧Upd (rpB LN LV LO VC bm M0) w wx∧∀b∈aR bm M',b∈aR bm M0∨w.heap.size≤b))
 case atStart=>exact⟨0,K,M0,rfl,aa (aK K),rfl,aa ⟨cg.o,ck.o,cn.o.mono (by simp),fun b hb=>.inl hb⟩⟩
 case round=>
  obtain⟨j,r,M1,rfl,Hj,rfl,U⟩:=hrel;clear cg ck cn;by_cases et:0<gk
  ·have bw:j<es.length:=by rw[←HK.o];have:=Hj.o;omega
   obtain⟨x,hx⟩:∃x,x=es[j]:=⟨_,rfl⟩;have bA:=HE.o.2 _ (aq bw);have cp:=rK es j;have a3:=nN es j bw;obtain⟨h',hrl⟩:=Fv es j bw;have D:=wB (rl 4 es) j h';rw[hrl]at D;rw[←hx]at bA a3 hrl D;obtain⟨P,hP⟩:∃P,P=(poB (es.drop j)).length:=⟨_,rfl⟩;obtain⟨Of,bB⟩:∃P,P=4+(poB (es.take j)).length:=⟨_,rfl⟩;rw[←bB]at hrl D;have dk:N=Of+P:=by rw[HN.o.2,cp,bB,hP];omega
   have ev:0<P:=by rw[hP,a3,ab,poE];have:=Lib.uvarint_pos 2;simp only[ab];omega
   have HD:=aa U.o.2.1;have be:Calls prog 126 #[.pointer (some ⟨p,0,none⟩)] wr fun e w'=>e=.returned (.int .i64 P)∧wr=w':=by rw[hP];exact kL p g _ wr HD.o
   have G:=aa be;have a4:=aa (je p g _ wr HD.o);have z:=aa (And.intro D (And.intro bA (And.intro a3 hP)));have cs:(N:Int)-(P:Int)=(Of:Int):=by omega
   have eE:(0:Int)<(gk:Int):=by omega
   have ej:(0:Int)<(P:Int):=by omega
   clear hx cp a3 hrl D bA hP bB be h' dk;go_wp2_with fail;refine a4.o.mono ?_;rintro e _ ⟨rfl,rfl⟩;go_wp2_with fail;refine G.o.mono ?_;rintro e _ ⟨rfl,rfl⟩;go_wp2_with fail;refine G.o.mono ?_;rintro e _ ⟨rfl,rfl⟩;have ct:(poB (es.drop j)).length<1073741824:=by have h1:=z.o.2.2.2;have h2:=cs;omega
   have cA:cm wr p g (Lib.uvarint 2++(ed x.1++(ed x.2.1++(Lib.uvarint x.2.2++poB (es.drop (j+1)))))):=by have h1:=HD.o;rw[z.o.2.2.1,poE]at h1;simpa only[al]using h1
   have bE:(Lib.uvarint 2++(ed x.1++(ed x.2.1++(Lib.uvarint x.2.2++poB (es.drop (j+1)))))).length<1073741824:=by have h1:=ct;rw[z.o.2.2.1,poE]at h1;simpa only[al]using h1
   have KU:Hid (Calls prog 127 #[.pointer (some ⟨p,0,none⟩)] wr fun e w'=>e=.returned (.int .i64 2)∧cm w' p g (ed x.1++(ed x.2.1++(Lib.uvarint x.2.2++poB (es.drop (j+1)))))∧Upd [p] wr w'):=aa (fG p g 2 _ wr cA (by decide) bE);have dp:=aa bE;clear cA bE ct;go_wp2_with fail;refine KU.o.mono ?_;rintro e w5 ⟨rfl,cB,cD⟩;have a5:(ed x.1++(ed x.2.1++(Lib.uvarint x.2.2++poB (es.drop (j+1))))).length<1073741824:=by have:=dp.o;rw[ab]at this;omega
   have bK:(ed x.2.1++(Lib.uvarint x.2.2++poB (es.drop (j+1)))).length<1073741824:=by rw[ab]at a5;omega
   have cE:(Lib.uvarint x.2.2++poB (es.drop (j+1))).length<1073741824:=by rw[ab]at bK;omega
   have HL:=aa (And.intro a5 (And.intro bK cE));have cF:=aa (dM p g x.1 _ w5 (by simpa only[ed,al]using cB) (by have:=z.o.2.1;omega) (by simpa only[ed,al]using a5));have ds:=aa cD;clear cB cD a5 bK cE KU;go_wp2_with fail;refine cF.o.mono ?_;rintro e w6 ⟨v1,rfl,cL,cM,cN⟩;have cO:=aa (dM p g x.2.1 _ w6 (by simpa only[ed,al]using cM) (by have:=z.o.2.1;omega) (by simpa only[ed,al]using HL.o.2.1));have dF:=aa cL;have dP:=aa (ds.o.then cN (fun b hb _=>hb));clear cL cM cN cF;go_wp2_with fail;refine cO.o.mono ?_;rintro e w7 ⟨v2,rfl,V,cP,bL⟩;have a6:g∉[p]:=by simpa using HD.o.ne
   have cX:=aa (ju p g x.2.2 _ w7 cP (by have:=z.o.2.1;omega) HL.o.2.2);have O:=aa (And.intro (dF.o.upd bL a6) V);have dT:=aa (dP.o.then bL (fun b hb _=>hb));clear V cP bL cO;go_wp2_with fail;refine cX.o.mono ?_;rintro e w8 ⟨rfl,bM,a7⟩;have d0:=aa bM;have ea:=aa (je p g _ w8 bM);have bO:=aa (dT.o.then a7 (fun b hb _=>hb));have Ib:∀b∈[p],b∉[BR,R,LN,LV,LO,VC,g]∧b∉aR bm M1:=fun b hb=>by
    simp only[ag]at hb;subst hb;have d:=U.o.1.dis;refine⟨fun hm=>?_,(U.o.1.o b (by simp)).1⟩;simp only[a8,ah,ai,or_false,not_or,jP,and_true]at d hm;rcases hm with rfl|rfl|rfl|rfl|rfl|rfl|rfl
    ·exact d.1.2.2.2.2.2.1 rfl
    ·exact d.2.1.2.2.2.2.1 rfl
    ·exact d.2.2.1.2.2.2.1 rfl
    ·exact d.2.2.2.1.2.2.1 rfl
    ·exact d.2.2.2.2.1.2.1 rfl
    ·exact d.2.2.2.2.2.1.1 rfl
    ·exact d.2.2.2.2.2.2.1 rfl
   have cY:=aa (U.o.1.upd bO.o Ib);have hrl:=rR ((rl 4 es).take j);have htl:((rl 4 es).take j).length<1000:=by have:=HE.o.1;rw[aZ,lL];omega
   have cZ:=rQ (nm:=x.1) hrl.2;have c0:=ql (x:=(x.1,x.2.1,Of)) hrl.2;have KC:=aa (wd w8 BR R bm LN LV LO VC p g base (iy ((rl 4 es).take j)) M1 v1 v2 x.1 x.2.1 x.2.2 Of cY.o (O.o.1.upd a7 a6) (O.o.2.upd a7 a6) (by omega) (fun y hy=>by have:=c0.2 y hy;omega) (fun y hy=>by have:=cZ.2 y hy;omega));clear bM a7 Ib hrl htl cZ c0 a6 cX;unfold ES at KC;go_wp2_with fail;refine ea.o.mono ?_;rintro e _ ⟨rfl,rfl⟩;go_wp2_with fail;refine KC.o.mono ?_;rintro e w9 ⟨rfl,M2,c6,c7,c8⟩;have a9:=aa (And.intro c6 (And.intro c7 c8));have eb:(gk:Int)-1=((gk-1:Nat):Int):=by omega
   obtain⟨g1,bR⟩:∃g1,g1=gk-1:=⟨_,rfl⟩;rw[←bR]at eb;have eG:IntKind.u32.wrap (g1:Int)=(g1:Int):=by have h1:=HK.o;have h2:=HE.o.1;have h3:=Hj.o;rw[kh];omega
   have c9:=aa bR;clear c6 c7 c8 KC bR;go_wp2_with fail;go_roundg g1
   case measure=>have:=c9.o;omega
   case rel=>
    have Ib:∀b∈rpB LN LV LO VC bm M1,b≠p∧b≠g:=fun b hb=>by
     have h:=cY.o;simp only[aA]at hb;have d:=h.dis;simp only[a8,ah,ai,or_false,not_or,jP,and_true]at d hb;rcases hb with(rfl|rfl|rfl|rfl)|hb
     ·exact⟨d.2.2.1.2.2.2.1,d.2.2.1.2.2.2.2⟩
     ·exact⟨d.2.2.2.1.2.2.1,d.2.2.2.1.2.2.2⟩
     ·exact⟨d.2.2.2.2.1.2.1,d.2.2.2.2.1.2.2⟩
     ·exact⟨d.2.2.2.2.2.1.1,d.2.2.2.2.2.1.2⟩
     ·exact⟨fun e=>(h.o p (by simp)).1 (e▸hb),fun e=>(h.o g (by simp)).1 (e▸hb)⟩
    have eN:=bO.o.size;have eR:=U.o.2.2.1.size;have e0:w.heap.size≤p:=a1;refine⟨j+1,g1,M2,rfl,aa (by have:=Hj.o;have:=c9.o;omega),rfl,aa ⟨by rw[z.o.1];exact a9.o.1,d0.o.upd a9.o.2.1 (fun hm=>(Ib p hm).1 rfl) (fun hm=>(Ib g hm).2 rfl),?_,fun b hb=>?_⟩⟩
    ·refine(U.o.2.2.1.then bO.o (fun b hb hl=>by simp at hb;omega)).then a9.o.2.1 (fun b hb hl=>?_);simp only[aA]at hb⊢;rcases hb with hb|hb
     ·exact .inl hb
     ·rcases U.o.2.2.2 b hb with h1|h1
      ·exact .inr h1
      ·omega
    ·rcases a9.o.2.2 b hb with h1|h1
     ·exact U.o.2.2.2 b h1
     ·exact .inr (by omega)
  ·obtain rfl:gk=0:=by omega
   have ef:j=K:=by have:=Hj.o;omega
   subst ef;have dc:es.drop j=[]:=by rw[HK.o];exact eT
   have hD:cm wr p g []:=by have h1:=U.o.2.1;rw[dc]at h1;exact h1
   have dd:(rl 4 es).take j=rl 4 es:=bG (by rw[lL,HK.o];exact aw _);have G:Hid (Calls prog 126 #[.pointer (some ⟨p,0,none⟩)] wr fun e w'=>e=.returned (.int .i64 0)∧wr=w'):=aa (kL p g _ wr hD);have a4:=aa (je p g _ wr hD);have eg:=aa dd;clear dc hD dd;go_wp2_with fail;refine a4.o.mono ?_;rintro e _ ⟨rfl,rfl⟩;go_wp2_with fail;refine G.o.mono ?_;rintro e _ ⟨rfl,rfl⟩;go_wp2_with fail;refine a4.o.mono ?_;rintro e _ ⟨rfl,rfl⟩;go_wp2_with fail;go_ret;exact⟨rfl,M1,p,by rw[←eg.o];exact U.o.1,U.o.2.2.1,U.o.2.2.2⟩
end Go.Proofs.YtlgefdfflmgocaaGreatDoor
namespace Xc
open Go Go.RowKit
theorem qn{P:Program}(w:World)(G O ty elem:TypeId)(sz g n d:Nat)(a:Addr)(z:Nat)(cur:Array Value)(t:TypeId)(cs:List Value)
 (hu:P.underlying G=some (.slice elem))(hs:(P.info? elem).map (·.size)=some sz)
 (hg:w.heap[g]? =some (.cells cur t (0,0)))(hn:cs.length=n*sz)
 (A:∀j v,cs[j]? =some v→w.cell? (a.add j)=some v)(D:cs.length≤cur.size)(h1:∀v∈cs,v.oneCell'=true):
 (Builtin.copy_ #[G,O] ty #[.slice (some ⟨g,0,none⟩) n d,.slice (some a) n z]).run P w=
  .ok (goInt n) (w.setRow g (cs++cur.toList.drop cs.length).toArray):=by
 have hl:=run_loadCells_list (P:=P) w a cs A;have F:=run_storeCells_at P g 0 t cs 0 cur w hg (by simpa using D) h1;cases hq:P.info? elem with
 |none=>simp[hq]at hs
 |some i=>
  have U:i.size=sz:=by simpa[hq]using hs
  have hm:Nat.min n n=n:=Nat.min_self n;simp[Builtin.copy_,run_underlying hu,Builtin.lenOf,Builtin.firstCells,Go.sizeOf,typeInfo,hq,U,←hn,hl,F]
end Xc
namespace Go.Proofs.YtlgefdfflmgocaaGreatDoor
variable{Ua Ub Uc Ud Ue Uf Ug Uh Ui Uj Uk Ul Um Un Uo Up Uq Us Ut Uu Uv Uz UA UD UE UF UG UH UI UJ UK UL UM UN UO UP UQ UR US UT UU UV UW UX UY UZ Va Vb Vc Vd Ve Vf Vg Vh Vi Vj Vk Vl Vm Vn Vo Vp Vq Vr Vt Vu Vv Vw Vx Vy Vz VA VB VD VE VF VG VH VI VJ VK VL VM VN VO VP VQ VR VS VT VU VV VW VX VY VZ Wa Wb Wc Wd We Wf Wg Wh Wi Wj Wk Wl Wm Wn Wp Wq Wr Ws Wt Wu Wv Ww Wx Wy Wz WA WC WD WE WG WH WL WM WN WO WU WV WW WX WY WZ Xd Xe Xf Xg Xh Xi Xj Xk Xl Xm Xn Xo Xp Xq Xr Xt Xu Xv Xw Xx Xy Xz XA XB XC XD XE XF XG XH XI XJ XK XM XN XO XP XQ XR XS XT XU XV XW XX XY XZ Ya Yb Yc Yd Ye Yf Yg Yh Yi Yj Yk Yl Ym Yn Yo Yp Yq Yr Ys Yt Yu Yv Yw Yx Yy Yz YA YB YC YD YE YF YG YH YI YJ YK YL YM YN YO YP YQ YR YS YT YU YV YW YX YY YZ Za Zb Zc Zd Ze Zf Zg Zh Zi Zj Zk Zl Zm Zn Zo Zp Zq Zr Zs Zt Zu Zv Zw Zx Zy Zz ZA ZB ZC ZD ZE ZF ZG ZH ZI ZJ ZK ZL ZM ZN ZO ZP ZQ ZR ZS ZT ZU ZV ZW ZX ZY ZZ Oa Ob Oc Od Oe Og Oh Oi Oj Ol Om On Oo Oq Ot Ou Ov Ow Ox Oy Oz OA OB OC OD OE OF OG OH OI OJ OK OL OM ON OO OP OQ OR OS OT OU OV OW OX OY OZ Pb Pc Pd Pe Pf Pg Ph Pj Pk Pm Pn Po Pp Pq Pr Pt Pu Pv Pw Px Py Uy UB UC:Go.Value}
open Go Go.RowKit Xc Go.Proofs.Tryz
structure C0(w:World)(base bm:Nat)(M:RM)(k:ByteArray)(v:Value)(q n cap:Nat)(w1 w2 d:World)(z:RM):Prop where
 val:v=.slice (some ⟨q,0,none⟩) n cap
 few:n<1000000
 make:(Instr.makeSlice 169 (.int .i64 (n:Int)) (.int .i64 (n:Int))).run prog w=.ok (.slice (some ⟨w.heap.size,0,none⟩) n n) w1
 u1:Upd [] w w1
 copy:(Builtin.copy_ #[169,169] 3 #[.slice (some ⟨w.heap.size,0,none⟩) n n,.slice (some ⟨q,0,none⟩) n cap]).run prog w1=.ok (goInt n) w2
 u2:Upd [] w w2
 put:(Instr.mapUpdate 146 (.map (some bm)) (.string k) (.slice (some ⟨w.heap.size,0,none⟩) n n)).run prog w2=.ok () d
 u3:Upd [bm] w d
 mem:kj Value.string clP 2 d 172 base bm z
 abs:jy z=jy M
 blk:∀b∈aR bm z,b∈aR bm M∨b=w.heap.size
 it:∀R done,R≠bm→MIt Value.string w bm R (M.map fun x=>(x.1,x.2.1)) done→MIt Value.string d bm R (z.map fun x=>(x.1,x.2.1)) done
theorem yn{κ:Type}[DecidableEq κ]{ν:Type}{k:κ}{v:ν}:∀{l:List (κ×ν)},aT k l=some v→cf k v l=l:=by intro l h;obtain⟨a,b,rfl,d⟩:=iQ h;exact d v
theorem qh{κ:Type}[DecidableEq κ]{ν:Type}{k:κ}{v:ν}{l:List (κ×ν)}{j:Nat}(hn:(l.map (·.1)).Nodup)(d:l[j]? =some (k,v)):aT k l=some v:=by
 induction l generalizing j with
 |nil=>simp at d
 |cons x l z=>
  obtain⟨a,y⟩:=x;rw[aN,a8]at hn;cases j with
  |zero=>
   simp only[gH,aM,cW]at d;obtain⟨rfl,rfl⟩:=d;simp[aT]
  |succ j=>
   rw[gG]at d;have A:k∈l.map (·.1):=List.mem_map.2 ⟨_,bY d,rfl⟩;have G5:a≠k:=fun e=>hn.1 (e▸A);have:=z hn.2 d;simp only[aT];first|(rw[if_neg G5];exact this)|(rw[if_neg (aF G5)];exact this)
theorem BW(xs:List (ByteArray×Nat)):(xs.flatMap clP).length=xs.length*2:=by
 induction xs with
 |nil=>rfl
 |cons x xs d=>rw[aY,ab,d,aj];simp[clP];omega
theorem BY{xs:List (ByteArray×Nat)}{v:Value}(h:v∈xs.flatMap clP):v.oneCell'=true:=by obtain⟨x,_,d⟩:=List.mem_flatMap.1 h;simp only[clP,ah,ai,or_false]at d;rcases d with rfl|rfl<;>rfl
theorem An(M:RM):(jy M).map (·.1)=M.map (·.1):=by simp[jy,bT,ip]
theorem CM{w:World}{base bm:Nat}{M:RM}(h:kj Value.string clP 2 w 172 base bm M)(Hw:base≤w.heap.size)(hnd:(M.map (·.1)).Nodup){j:Nat}{k:ByteArray}{v:Value}(O:(M.map fun x=>(x.1,x.2.1))[j]? =some (k,v))(hlen:∀y∈M,y.2.2.2.length<1000000):
 ∃q n cap w1 w2 w3 M',C0 w base bm M k v q n cap w1 w2 w3 M':=by
 obtain⟨i0,hi,a7,a3,a9⟩:=info_parts Tryz.info172;obtain⟨⟨k',v',q,xs⟩,hx,he⟩:∃x:ByteArray×Value×Nat×List (ByteArray×Nat),M[j]? =some x∧(x.1,x.2.1)=(k,v):=by
  rw[cx]at O;cases hm:M[j]?with
  |none=>rw[hm]at O;cases O
  |some x=>rw[hm]at O;exact⟨x,rfl,cI O⟩
 cases he;have hmem:=bY hx;have hg:=qh hnd hx;have G3:nh clP 2 w 172 v' q xs:=h.row _ hmem;have hl:xs.length<1000000:=hlen _ hmem;show∃q n cap w1 w2 w3 bb,C0 w base bm M k' v' q n cap w1 w2 w3 bb;clear O;obtain⟨cap,rfl⟩:=G3.shape;obtain⟨n,hn⟩:∃n,n=xs.length:=⟨_,rfl⟩;rw[←hn]at hl G3⊢;have br:q<w.heap.size:=G3.lt;obtain⟨w1,bd,W,be⟩:=run_makeSlice_full (P:=prog) (w:=w) base 169 172 i0 _ 2 underlying169 hi a7 a3 .i64 .i64 n (by omega) (by rw[a9];omega) (by unfold maxLen;omega) Hw;have ad:Upd [] w w1:=(ae w).grown be (by simp);have a0:=G3.upd ad (by simp);obtain⟨g1,bv,z,e1,hb1,a4,bw,a5,bg,bA⟩:∃g cap cur,Value.slice (some ⟨w.heap.size,0,none⟩) n n=.slice (some ⟨g,0,none⟩) n cap∧base≤g∧w1.heap[g]? =some (.cells cur 172 (0,0))∧n≤cap∧cap≤maxLen∧cur.size=cap*2∧True:=by
  rcases W.2 with⟨e,_⟩|⟨g,cap,cur,e,a,b,c,d,f,_⟩
  ·cases e
  ·exact⟨g,cap,cur,e,a,b,c,d,f,trivial⟩
 cases e1;have F:(xs.flatMap clP).length=n*2:=by rw[BW,hn]
 have a6:∀j v,(xs.flatMap clP)[j]? =some v→w1.cell? ((⟨q,0,none⟩:Addr).add j)=some v:=fun j v hv=>by
  have bl:j<n*2:=by rw[←F];exact(List.getElem?_eq_some_iff.1 hv).1
  have:=a0.own;rw[←hn]at this;have h2:=this.cellAt j bl;rw[hv]at h2;have e:(⟨q,0,none⟩:Addr).add j=⟨q,j,none⟩:=by unfold Addr.add;split<;>simp_all
  rw[e];exact h2
 have a1:=qn (P:=prog) w1 169 169 3 172 2 w.heap.size n n ⟨q,0,none⟩ cap z 172 (xs.flatMap clP) underlying169 (by rw[hi];exact congrArg some a3) a4 F a6 (by omega) (fun v hv=>BY hv);have U:((xs.flatMap clP)++z.toList.drop (xs.flatMap clP).length).toArray.toList=xs.flatMap clP:=by have:z.toList.drop (xs.flatMap clP).length=[]:=List.drop_eq_nil_of_le (by rw[F,gC,bg];exact aw _);rw[this,bk]
 have a2:Upd [w.heap.size] w1 (w1.setRow w.heap.size ((xs.flatMap clP)++z.toList.drop (xs.flatMap clP).length).toArray):=qs _ _ _;have G:Upd [] w (w1.setRow w.heap.size ((xs.flatMap clP)++z.toList.drop (xs.flatMap clP).length).toArray):=ad.then a2 (fun b hb bB=>by simp only[ag]at hb;omega);have A:nh clP 2 (w1.setRow w.heap.size ((xs.flatMap clP)++z.toList.drop (xs.flatMap clP).length).toArray) 172 (.slice (some ⟨w.heap.size,0,none⟩) n n) w.heap.size xs:=by
  refine⟨⟨by rw[F,hn],.inr ⟨w.heap.size,n,_,by rw[hn],ay _,setRow_heap w1 w.heap.size z _ 172 _ a4,by omega,a5,?_,?_⟩⟩,rfl⟩
  ·rw[←gC,U,F]
  ·rw[U,←hn,←F,aS]
 revert a1 a2 G A;generalize w1.setRow w.heap.size ((xs.flatMap clP)++z.toList.drop (xs.flatMap clP).length).toArray=w2;intro a1 a2 G A;have V:=h.put (k:=k') (v':=.slice (some ⟨w.heap.size,0,none⟩) n n) (q':=w.heap.size) (ys:=xs) G (by simp) (.inl (aw _)) Hw A;have bn:=dB (P:=prog) (T:=146) Value.string iT underlying146 (G.blk h.o (by simp)) k' (.slice (some ⟨w.heap.size,0,none⟩) n n);have G4:Upd [bm] w (ChangeMaps.setBlock w2 bm (bI Value.string (cf k' (.slice (some ⟨w.heap.size,0,none⟩) n n) (M.map fun x=>(x.1,x.2.1))))):=(G.mono (by simp)).then d9 (by simp);refine⟨q,n,cap,w1,w2,_,_,rfl,hl,bd,ad,a1,G,bn,G4,V,?_,fun b hb=>j5 hb,?_⟩
 ·rw[pD];have:=nv k' M;rw[hg]at this;exact yn this
 ·intro R done hR hit;have D:((cf k' (Value.slice (some ⟨w.heap.size,0,none⟩) n n,w.heap.size,xs) M).map fun x=>(x.1,x.2.1)).length=(M.map fun x=>(x.1,x.2.1)).length:=by have h1:=ky k' (Value.slice (some ⟨w.heap.size,0,none⟩) n n,w.heap.size,xs) M;rw[if_pos (List.mem_map.2 ⟨_,hmem,rfl⟩)]at h1;have h2:=congrArg List.length h1;simpa using h2
  obtain⟨c,hc,hr⟩:=hit.it;refine⟨V.o,⟨c,by rw[D];exact hc,by rw[D];exact G4.blk hr (by simpa using hR)⟩,hit.nodup,fun j O=>by rw[D];exact hit.lt j O⟩
section
attribute [local go_sem ↓] Go.wp_at_zero Go.wp_at_succ
variable {w:World} {k:WK} {r:WR} {s:WS}
theorem FJ(base NS PB p g P G K:Nat)(Hr:List (Nat×Value))(N:List Nat)(d:List (Nat×Nat))(rest:Bytes)(T0:List (Nat×Nat×Nat))(M0:List PI)(hs:PSt base NS PB p g Hr (dv d++rest) (eh N T0) M0 w)(hN:∀a,(aT a Hr).isSome=N.contains a)
 (hP:P=16*G)(hpl:G<1000000)(hK:K=d.length)(hKl:K<1000)(hPs:∀x∈d,x.1<65536∧x.2<65536)(hrl:rest.length<2000000)(hT0:(eh N T0).length+K<1000000)
 {Q:Exit→Act→World→Prop}{ds:List Deferred}
 (hJ:∀(C1 C2 D0 D1 u32 D2 EL wa wc wi wk wm wp wq wt wy w7 w8 w9 xT x0 x1 x2 x3 x4 x5 x6 x7 x8 x9 y0 y1 y2 y3 y4 y5 y6 y7 y8 y9 zl zo zv z0 z1 z2 z3 z4:Value) (wx:World),(∃M,PSt base NS PB p g Hr rest (eh N (T0++d.map fun x=>(G,x.1,x.2))) M wx)∧Below base w wx→Q .normal ⟨#[Ua,Ub,Uc,Ud,Ue,Uf,Ug,Uh,Ui,Uj,Uk,Ul,Um,Un,Uo,Up,Uq,.map (some NS),Us,Ut,Uu,Uv,.map (some PB),ptr p 0,.int .u64 (P:Nat),Uz,UA,.int .i64 (K:Nat),C1,C2,D0,D1,u32,D2,EL,UJ,UK,UL,UM,UN,UO,UP,UQ,UR,US,UT,UU,UV,UW,UX,UY,UZ,Va,Vb,Vc,Vd,Ve,Vf,Vg,Vh,Vi,Vj,Vk,Vl,Vm,Vn,Vo,Vp,Vq,Vr,Vt,Vu,Vv,Vw,Vx,Vy,Vz,VA,VB,VD,VE,VF,VG,VH,VI,VJ,VK,VL,VM,VN,VO,VP,VQ,VR,VS,VT,VU,VV,VW,VX,VY,VZ,Wa,Wb,Wc,Wd,We,Wf,Wg,Wh,Wi,Wj,Wk,Wl,Wm,Wn,Wp,Wq,Wr,Ws,Wt,Wu,Wv,Ww,Wx,Wy,Wz,WA,WC,WD,WE,WG,WH,WL,WM,WN,WO,WU,WV,WW,WX,WY,WZ,Xd,Xe,Xf,Xg,Xh,Xi,Xj,Xk,Xl,Xm,Xn,Xo,Xp,Xq,Xr,Xt,Xu,Xv,Xw,Xx,Xy,Xz,XA,XB,XC,XD,XE,XF,XG,XH,XI,XJ,XK,XM,XN,XO,XP,XQ,XR,XS,XT,XU,XV,XW,XX,XY,XZ,Ya,Yb,Yc,Yd,Ye,Yf,Yg,Yh,Yi,Yj,Yk,Yl,Ym,Yn,Yo,Yp,Yq,Yr,Ys,Yt,Yu,Yv,Yw,Yx,Yy,Yz,YA,YB,YC,YD,YE,YF,YG,YH,YI,YJ,YK,YL,YM,YN,YO,YP,YQ,YR,YS,YT,YU,YV,YW,wa,wc,wi,wk,wm,wp,wq,wt,wy,w7,w8,w9,xT,x0,x1,x2,x3,x4,x5,x6,x7,x8,x9,y0,y1,y2,y3,y4,y5,y6,y7,y8,y9,zl,zo,zv,z0,z1,z2,z3,z4,ZM,ZN,ZO,ZP,ZQ,ZR,ZS,ZT,ZU,ZV,ZW,ZX,ZY,ZZ,Oa,Ob,Oc,Od,Oe,Og,Oh,Oi,Oj,Ol,Om,On,Oo,Oq,Ot,Ou,Ov,Ow,Ox,Oy,Oz,OA,OB,OC,OD,OE,OF,OG,OH,OI,OJ,OK,OL,OM,ON,OO,OP,OQ,OR,OS,OT,OU,OV,OW,OX,OY,OZ,Pb,Pc,Pd,Pe,Pf,Pg,Ph,Pj,Pk,Pm,Pn,Po,Pp,Pq,Pr,Pt,Pu,Pv,Pw,Px,Py],ds⟩ wx):
 Code.wp prog (oU 12) Q ⟨#[Ua,Ub,Uc,Ud,Ue,Uf,Ug,Uh,Ui,Uj,Uk,Ul,Um,Un,Uo,Up,Uq,.map (some NS),Us,Ut,Uu,Uv,.map (some PB),ptr p 0,.int .u64 (P:Nat),Uz,UA,.int .i64 (K:Nat),.int .i64 0,UD,UE,UF,UG,UH,UI,UJ,UK,UL,UM,UN,UO,UP,UQ,UR,US,UT,UU,UV,UW,UX,UY,UZ,Va,Vb,Vc,Vd,Ve,Vf,Vg,Vh,Vi,Vj,Vk,Vl,Vm,Vn,Vo,Vp,Vq,Vr,Vt,Vu,Vv,Vw,Vx,Vy,Vz,VA,VB,VD,VE,VF,VG,VH,VI,VJ,VK,VL,VM,VN,VO,VP,VQ,VR,VS,VT,VU,VV,VW,VX,VY,VZ,Wa,Wb,Wc,Wd,We,Wf,Wg,Wh,Wi,Wj,Wk,Wl,Wm,Wn,Wp,Wq,Wr,Ws,Wt,Wu,Wv,Ww,Wx,Wy,Wz,WA,WC,WD,WE,WG,WH,WL,WM,WN,WO,WU,WV,WW,WX,WY,WZ,Xd,Xe,Xf,Xg,Xh,Xi,Xj,Xk,Xl,Xm,Xn,Xo,Xp,Xq,Xr,Xt,Xu,Xv,Xw,Xx,Xy,Xz,XA,XB,XC,XD,XE,XF,XG,XH,XI,XJ,XK,XM,XN,XO,XP,XQ,XR,XS,XT,XU,XV,XW,XX,XY,XZ,Ya,Yb,Yc,Yd,Ye,Yf,Yg,Yh,Yi,Yj,Yk,Yl,Ym,Yn,Yo,Yp,Yq,Yr,Ys,Yt,Yu,Yv,Yw,Yx,Yy,Yz,YA,YB,YC,YD,YE,YF,YG,YH,YI,YJ,YK,YL,YM,YN,YO,YP,YQ,YR,YS,YT,YU,YV,YW,YX,YY,YZ,Za,Zb,Zc,Zd,Ze,Zf,Zg,Zh,Zi,Zj,Zk,Zl,Zm,Zn,Zo,Zp,Zq,Zr,Zs,Zt,Zu,Zv,Zw,Zx,Zy,Zz,ZA,ZB,ZC,ZD,ZE,ZF,ZG,ZH,ZI,ZJ,ZK,ZL,ZM,ZN,ZO,ZP,ZQ,ZR,ZS,ZT,ZU,ZV,ZW,ZX,ZY,ZZ,Oa,Ob,Oc,Od,Oe,Og,Oh,Oi,Oj,Ol,Om,On,Oo,Oq,Ot,Ou,Ov,Ow,Ox,Oy,Oz,OA,OB,OC,OD,OE,OF,OG,OH,OI,OJ,OK,OL,OM,ON,OO,OP,OQ,OR,OS,OT,OU,OV,OW,OX,OY,OZ,Pb,Pc,Pd,Pe,Pf,Pg,Ph,Pj,Pk,Pm,Pn,Po,Pp,Pq,Pr,Pt,Pu,Pv,Pw,Px,Py],ds⟩ w:=by
 have HS:=aa hs;have HH:=aa (And.intro hN (And.intro hP (And.intro hK hPs)));have HJ:=aa hJ;clear hs hN hP hK hPs hJ;conv=>arg 2;whnf
 go_wp2_with fail;go_loopw [28] (fun c wr=>∃j:Nat,j≤K∧c=.int .i64 j∧(∃M,PSt base NS PB p g Hr (dv (d.drop j)++rest) (eh N (T0++(d.take j).map fun x=>(G,x.1,x.2))) M wr)∧Below base w wr) (fun c _=>K-(intOf c).toNat)
 case atStart=>exact⟨0,ay _,rfl,⟨M0,by simpa using HS.o⟩,Below.refl _ _⟩
 case round=>
  obtain⟨j,hj,rfl,⟨M,hS⟩,hB⟩:=hrel;have U:=aa hS;have oR:=aa hB;clear hS hB;by_cases G2:j<K
  ·have oS:j<d.length:=by have:=HH.o.2.2.1;omega
   have hd:=ux d j oS;have hx:=HH.o.2.2.2 _ (aq oS);have oX:=uy d HH.o.2.2.2 j;have ht:(d.take (j+1)).map (fun x=>(G,x.1,x.2))=(d.take j).map (fun x=>(G,x.1,x.2))++[(G,d[j].1,d[j].2)]:=by rw[ax oS,aX];rfl
   generalize d[j]=x at*;obtain⟨a,b⟩:=x;simp only at hd hx ht;rw[hd,al,al]at U;rw[hd]at oX;have E1:Hid ((Lib.uvarint a++(Lib.uvarint b++dv (d.drop (j+1)))).length≤6*K):=aa (by have:=HH.o.2.2.1;rw[this];exact oX);have Ht:=aa ht;clear hd ht oX;obtain⟨Ha,Hb⟩:=hx;have hBl:(Lib.uvarint a++(Lib.uvarint b++(dv (d.drop (j+1))++rest))).length<1073741824:=by have h1:=E1.o;simp only[ab]at h1⊢;omega
   have z5:=aa hBl;clear hBl;go_wp2_with fail;refine(fG p g a _ _ U.o.dec (by omega) z5.o).mono ?_;rintro e w2 ⟨rfl,hD,hu⟩;have bb:=aa (U.o.step hD hu);have z6:=aa (oR.o.trans (U.o.below hu));clear hD hu;go_wp2_with fail;refine(fG p g b _ _ bb.o.dec (by omega) (by have:=z5.o;rw[ab]at this;omega)).mono ?_;rintro e w3 ⟨rfl,hD,hu⟩;have D:=aa (bb.o.step hD hu);have a0:=aa (z6.o.trans (bb.o.below hu));clear hD hu U bb oR z6;have F:=cw (P:=prog) (T:=149) (ec .u32) jB underlying149 D.o.ns Di a true;simp only[if_true]at F;have W:=HH.o.1 a;by_cases hc:N.contains a=true
   ·rw[hc]at W;rw[W]at F;obtain⟨vv,a1⟩:∃vv,vv=(aT a Hr).getD (.string ⟨#[]⟩):=⟨_,rfl⟩;rw[←a1]at F;have bd:=aa F;clear a1 W F;have hTs:eh N (T0++(d.take (j+1)).map fun x=>(G,x.1,x.2))=eh N (T0++(d.take j).map fun x=>(G,x.1,x.2))++[(G,a,b)]:=by rw[Ht.o,←al,oV,if_pos hc]
    have z7:=aa hTs;clear hTs;have oq:=cw (P:=prog) (T:=378) (ec .u32) jB underlying378 D.o.pm.o uY a true;have z8:=fq (fun y:Nat×List PE=>Value.map (some y.1)) a M;have A:(Instr.lookup 378 (.map (some PB)) (ec .u32 a) true).run prog w3=.ok (.tuple #[((aT a M).map fun y:Nat×List PE=>Value.map (some y.1)).getD (.map none),.bool ((aT a M).map fun y:Nat×List PE=>Value.map (some y.1)).isSome]) w3:=by rw[←z8];exact oq
    clear oq z8;cases hma:aT a M with
    |none=>
     rw[hma]at A;have a2:=aa A;obtain⟨b',z9⟩:∃b',b'=w3.heap.size:=⟨_,rfl⟩;have a3:=run_makeMap (P:=prog) 380 w3;have O:(w3.alloc (.map #[] 0)).heap[w3.heap.size]? =some (bI (ec .u32) []):=an _;have ad:Upd [] w3 (w3.alloc (.map #[] 0)):=(ae _).alloc _;rw[←z9]at a3 O;have hb1:w3.heap.size≤b':=by omega
     revert a3 O ad;generalize (w3.alloc (.map #[] 0))=w4;intro a3 O ad;have hb2:base≤b':=by have:=D.o.bw;omega
     have A1:=D.o.pm.make ad (by simp) hma O hb1 hb2;have be:=dB (P:=prog) (ec .u32) jB underlying378 (ad.blk D.o.pm.o (by simp)) a (.map (some b'));revert A1 be;have bg:Upd [PB] w4 (ChangeMaps.setBlock w4 PB (bI (ec .u32) (cf a (Value.map (some b')) (M.map fun x=>(x.1,Value.map (some x.2.1)))))):=d9;revert bg;generalize ChangeMaps.setBlock w4 PB (bI (ec .u32) (cf a (Value.map (some b')) (M.map fun x=>(x.1,Value.map (some x.2.1)))))=w5;intro bg ov be;have Fl:=aa be;have FP:=aa a3;obtain⟨Bf,Bp,Hh⟩:=D.o.make ad bg hma hb1 ov;have a4:=aa Bf;have a5:=aa (a0.o.trans Bp);have a6:=aa Hh;clear A z9 a3 O ad bg ov be Bf Bp Hh hma D a0
     go_upto_region 70 with(first
      |(at_lookup;refine dz rfl _ _ _ _ rfl _ _ _ _ rfl rfl bd.o ?_)
      |(at_lookup;refine dz rfl _ _ _ _ rfl _ _ _ _ rfl rfl a2.o ?_)
      |(refine fW rfl _ rfl _ _ FP.o ?_)
      |(at_mapUpdate;refine jd rfl _ _ _ _ rfl _ _ _ _ rfl rfl rfl Fl.o ?_))
     have a7:(eh N (T0++(d.take j).map fun x=>(G,x.1,x.2))).length<1000000:=by
      have h1:((d.take j).map fun x=>(G,x.1,x.2)).length≤j:=by rw[aB];exact cH _ _
      have h2:=eQ (fun t:Nat×Nat×Nat=>N.contains t.2.1) ((d.take j).map fun x=>(G,x.1,x.2));simp only[eh,fM,ab]at hT0⊢;omega
     try go_frame
     refine Dg (hs:=a4.o) (Hh:=a6.o) (hP:=HH.o.2.1) (hpl:=hpl) (hT:=a7) (hJ:=?_);rintro v0 v1 v2 v3 v4 v5 v6 v7 v8 v9 v10 v11 v12 F1 w6 ⟨⟨M6,V⟩,a9⟩;rw[←z7.o]at V;have o0:=aa V;have o1:=aa (a5.o.trans a9);clear V a9 a7 a4 a5;go_wp2_with fail;exact⟨⟨j+1,by omega,by go_num,⟨M6,o0.o⟩,o1.o⟩,by simp only[intOf];omega⟩
    |some z=>
     rw[hma]at A;have a2:=aa A;obtain⟨b',es⟩:=z;have a4:=D;have a5:=a0;have a6:=aa hma;clear A hma D a0
     go_upto_region 70 with(first
      |(at_lookup;refine dz rfl _ _ _ _ rfl _ _ _ _ rfl rfl bd.o ?_)
      |(at_lookup;refine dz rfl _ _ _ _ rfl _ _ _ _ rfl rfl a2.o ?_))
     have a7:(eh N (T0++(d.take j).map fun x=>(G,x.1,x.2))).length<1000000:=by
      have h1:((d.take j).map fun x=>(G,x.1,x.2)).length≤j:=by rw[aB];exact cH _ _
      have h2:=eQ (fun t:Nat×Nat×Nat=>N.contains t.2.1) ((d.take j).map fun x=>(G,x.1,x.2));simp only[eh,fM,ab]at hT0⊢;omega
     try go_frame
     refine Dg (hs:=a4.o) (Hh:=a6.o) (hP:=HH.o.2.1) (hpl:=hpl) (hT:=a7) (hJ:=?_);rintro v0 v1 v2 v3 v4 v5 v6 v7 v8 v9 v10 v11 v12 F1 w6 ⟨⟨M6,V⟩,a9⟩;rw[←z7.o]at V;have o0:=aa V;have o1:=aa (a5.o.trans a9);clear V a9 a7 a4 a5;go_wp2_with fail;exact⟨⟨j+1,by omega,by go_num,⟨M6,o0.o⟩,o1.o⟩,by simp only[intOf];omega⟩
   ·have Bt:N.contains a=false:=by simpa using hc
    rw[Bt]at W;rw[W]at F;obtain⟨vv,a1⟩:∃vv,vv=(aT a Hr).getD (.string ⟨#[]⟩):=⟨_,rfl⟩;rw[←a1]at F;have bd:=aa F;clear a1 W F hc;go_wp2_with (at_lookup;refine dz rfl _ _ _ _ rfl _ _ _ _ rfl rfl bd.o ?_);have hTs:eh N (T0++(d.take (j+1)).map fun x=>(G,x.1,x.2))=eh N (T0++(d.take j).map fun x=>(G,x.1,x.2)):=by rw[Ht.o,←al,oV,if_neg (by rw[Bt];decide)]
    exact⟨⟨j+1,by omega,by go_num,⟨M,by rw[hTs];exact D.o⟩,a0.o⟩,by simp only[intOf];omega⟩
  ·obtain rfl:j=K:=by omega
   have he:d.take j=d:=by rw[HH.o.2.2.1,aS]
   have BX:d.drop j=[]:=by rw[HH.o.2.2.1,eT]
   rw[he,BX]at U;clear he BX;go_wp2_with fail;exact HJ.o _ _ _ _ _ _ _ _ _ _ _ _ _ _ _ _ _ _ _ _ _ _ _ _ _ _ _ _ _ _ _ _ _ _ _ _ _ _ _ _ _ _ _ _ _ _ _ _ _ ⟨⟨M,U.o⟩,oR.o⟩
end
section
attribute [local go_sem ↓] Go.wp_at_zero Go.wp_at_succ
variable {w:World} {k:WK} {r:WR} {s:WS}
theorem FI(wb:World)(hWb:WI wb k r s)(N n0 NS PB p g SB:Nat)(G1:fO)(Hr:List (Nat×Value))(Nn:List Nat)(M0:List PI)(ht2:s.t2=N)(hB:Below wb.heap.size wb w)(hs:PSt wb.heap.size NS PB p g Hr (cU n0 G1) [] M0 w)(hN:∀a,(aT a Hr).isSome=Nn.contains a)
 (htot:n0+(cU n0 G1).length=N)(hN2:N<1000000)(hSB:SB<65536)(hser:∀x∈G1,x.1.length<1000∧x.2.length<1000∧∀p∈x.1,p.1<65536∧p.2<SB)(htl:(trip n0 G1).length<100000)
 {Q:Exit→Act→World→Prop}{ds:List Deferred}
 (hJ:∀(u2 HE HF HG HI HL HM HN HO u32 HQ HR HT wp wq wt wy w3 w4 w5 w6 w7 w8 w9 xT x0 x1 x2 x3 x4 x5 x6 x7 x8 x9 y0 y1 y2 y3 y4 y5 y6 y7 y8 y9 zl zo zv z0 z1 z2 z3 z4 z5 z6 z7 z8 z9 A1 Bf Bp Bt BX B0 B1 B2 B4 B9 Cc C1 C2 D0 D1 D2 EL E1 Fl FP F1:Value) (wx:World),(∃M,PSt wb.heap.size NS PB p g Hr [] (eh Nn (trip n0 G1)) M wx)∧Below wb.heap.size wb wx→Q .normal ⟨#[ptr k.W 0,Ub,u2,Ud,Ue,Uf,Ug,Uh,Ui,Uj,Uk,Ul,Um,Un,Uo,Up,Uq,.map (some NS),Us,Ut,Uu,Uv,.map (some PB),ptr p 0,HE,HF,HG,HI,HL,HM,HN,HO,u32,HQ,HR,HT,UK,UL,UM,UN,UO,UP,UQ,UR,US,UT,UU,UV,UW,UX,UY,UZ,Va,Vb,Vc,Vd,Ve,Vf,Vg,Vh,Vi,Vj,Vk,Vl,Vm,Vn,Vo,Vp,Vq,Vr,Vt,Vu,Vv,Vw,Vx,Vy,Vz,VA,VB,VD,VE,VF,VG,VH,VI,VJ,VK,VL,VM,VN,VO,VP,VQ,VR,VS,VT,VU,VV,VW,VX,VY,VZ,Wa,Wb,Wc,Wd,We,Wf,Wg,Wh,Wi,Wj,Wk,Wl,Wm,Wn,Wp,Wq,Wr,Ws,Wt,Wu,Wv,Ww,Wx,Wy,Wz,WA,WC,WD,WE,WG,WH,WL,WM,WN,WO,WU,WV,WW,WX,WY,WZ,Xd,Xe,Xf,Xg,Xh,Xi,Xj,Xk,Xl,Xm,Xn,Xo,Xp,Xq,Xr,Xt,Xu,Xv,Xw,Xx,Xy,Xz,XA,XB,XC,XD,XE,XF,XG,XH,XI,XJ,XK,XM,XN,XO,XP,XQ,XR,XS,XT,XU,XV,XW,XX,XY,XZ,Ya,Yb,Yc,Yd,Ye,Yf,Yg,Yh,Yi,Yj,Yk,Yl,Ym,Yn,Yo,Yp,Yq,Yr,Ys,Yt,Yu,Yv,Yw,Yx,Yy,Yz,YA,YB,YC,YD,YE,YF,YG,YH,YI,wp,wq,wt,wy,w3,w4,w5,w6,w7,w8,w9,xT,x0,x1,x2,x3,x4,x5,x6,x7,x8,x9,y0,y1,y2,y3,y4,y5,y6,y7,y8,y9,zl,zo,zv,z0,z1,z2,z3,z4,z5,z6,z7,z8,z9,A1,Bf,Bp,Bt,BX,B0,B1,B2,B4,B9,Cc,C1,C2,D0,D1,D2,EL,E1,Fl,FP,F1,ZX,ZY,ZZ,Oa,Ob,Oc,Od,Oe,Og,Oh,Oi,Oj,Ol,Om,On,Oo,Oq,Ot,Ou,Ov,Ow,Ox,Oy,Oz,OA,OB,OC,OD,OE,OF,OG,OH,OI,OJ,OK,OL,OM,ON,OO,OP,OQ,OR,OS,OT,OU,OV,OW,OX,OY,OZ,Pb,Pc,Pd,Pe,Pf,Pg,Ph,Pj,Pk,Pm,Pn,Po,Pp,Pq,Pr,Pt,Pu,Pv,Pw,Px,Py],ds⟩ wx):
 Code.wp prog (oU 10) Q ⟨#[ptr k.W 0,Ub,Uc,Ud,Ue,Uf,Ug,Uh,Ui,Uj,Uk,Ul,Um,Un,Uo,Up,Uq,.map (some NS),Us,Ut,Uu,Uv,.map (some PB),ptr p 0,Uy,Uz,UA,UB,UC,UD,UE,UF,UG,UH,UI,UJ,UK,UL,UM,UN,UO,UP,UQ,UR,US,UT,UU,UV,UW,UX,UY,UZ,Va,Vb,Vc,Vd,Ve,Vf,Vg,Vh,Vi,Vj,Vk,Vl,Vm,Vn,Vo,Vp,Vq,Vr,Vt,Vu,Vv,Vw,Vx,Vy,Vz,VA,VB,VD,VE,VF,VG,VH,VI,VJ,VK,VL,VM,VN,VO,VP,VQ,VR,VS,VT,VU,VV,VW,VX,VY,VZ,Wa,Wb,Wc,Wd,We,Wf,Wg,Wh,Wi,Wj,Wk,Wl,Wm,Wn,Wp,Wq,Wr,Ws,Wt,Wu,Wv,Ww,Wx,Wy,Wz,WA,WC,WD,WE,WG,WH,WL,WM,WN,WO,WU,WV,WW,WX,WY,WZ,Xd,Xe,Xf,Xg,Xh,Xi,Xj,Xk,Xl,Xm,Xn,Xo,Xp,Xq,Xr,Xt,Xu,Xv,Xw,Xx,Xy,Xz,XA,XB,XC,XD,XE,XF,XG,XH,XI,XJ,XK,XM,XN,XO,XP,XQ,XR,XS,XT,XU,XV,XW,XX,XY,XZ,Ya,Yb,Yc,Yd,Ye,Yf,Yg,Yh,Yi,Yj,Yk,Yl,Ym,Yn,Yo,Yp,Yq,Yr,Ys,Yt,Yu,Yv,Yw,Yx,Yy,Yz,YA,YB,YC,YD,YE,YF,YG,YH,YI,YJ,YK,YL,YM,YN,YO,YP,YQ,YR,YS,YT,YU,YV,YW,YX,YY,YZ,Za,Zb,Zc,Zd,Ze,Zf,Zg,Zh,Zi,Zj,Zk,Zl,Zm,Zn,Zo,Zp,Zq,Zr,Zs,Zt,Zu,Zv,Zw,Zx,Zy,Zz,ZA,ZB,ZC,ZD,ZE,ZF,ZG,ZH,ZI,ZJ,ZK,ZL,ZM,ZN,ZO,ZP,ZQ,ZR,ZS,ZT,ZU,ZV,ZW,ZX,ZY,ZZ,Oa,Ob,Oc,Od,Oe,Og,Oh,Oi,Oj,Ol,Om,On,Oo,Oq,Ot,Ou,Ov,Ow,Ox,Oy,Oz,OA,OB,OC,OD,OE,OF,OG,OH,OI,OJ,OK,OL,OM,ON,OO,OP,OQ,OR,OS,OT,OU,OV,OW,OX,OY,OZ,Pb,Pc,Pd,Pe,Pf,Pg,Ph,Pj,Pk,Pm,Pn,Po,Pp,Pq,Pr,Pt,Pu,Pv,Pw,Px,Py],ds⟩ w:=by
 have HU:=aa hWb;have HH:=aa (And.intro ht2 (And.intro hN (And.intro htot (And.intro hser htl))));have HV:=aa hs;have HW:=aa hB;have HJ:=aa hJ;clear hWb ht2 hN htot hser htl hs hB hJ;conv=>arg 2;whnf
 go_wp2_with fail;go_loopw [24] (fun _ wr=>∃j m T M,j≤G1.length∧kW n0 G1 j m T∧PSt wb.heap.size NS PB p g Hr (cU m (G1.drop j)) (eh Nn T) M wr∧Below wb.heap.size wb wr) (fun _ wr=>sA wr p)
 case atStart=>exact⟨0,n0,[],M0,ay _,kW.zero _ _,HV.o,HW.o⟩
 case round=>
  obtain⟨j,m,T,M,hj,hS,hP,hB⟩:=hrel;have HS:=aa hS;have HP:=aa hP;have HB:=aa hB;have n2:=hP.dec.declen;clear hS hP hB;by_cases HY:j<G1.length
  ·obtain⟨X,body,R,b,rr,kp,E,pl,Lt,F⟩:=HS.o.step HY HH.o.2.2.1 hSB HH.o.2.2.2.1;have A:=aa F;obtain⟨nb,nd,Il,Im,G2,H8⟩:=F.hLt;have HZ:=aa (And.intro nd G2);have Ha:=F.hN;have U:=F.rest;have hE:=F.hE;have V:=aa (And.intro nb hE);have HX:=aa (HH.o.2.2.2.1 X (bY F.hX));rw[U]at HP n2;have H1:=aa n2;clear F nb hE n2 U;have In:Lt<1000000:=by omega
   have W:Calls prog 126 #[ptr p 0] wr fun e w'=>e=.returned (.int .i64 (Lt:Nat))∧wr=w':=by rw[V.o.1,A.o.rest];exact kL p g _ _ HP.o.dec
   have ad:=aa W;have H9:0<Lt:=by omega
   clear W nd G2;go_wp2_with (go_at_call 126;with_reducible refine ad.o.mono ?_;rintro e _ ⟨rfl,rfl⟩);refine(lj p g kp b (rr++R) _ HP.o.dec A.o.b0 (by have h1:=V.o.2;have h2:=HZ.o;rw[aj]at h1;omega)).mono ?_;rintro e a0 ⟨rfl,hD,hu⟩;have G:=aa (HP.o.step hD hu);have a1:=aa (HB.o.trans (HP.o.below hu));have Ug:a0.cell? ⟨k.W,6,none⟩=some (.int .u64 (N:Nat)):=by rw[(HU.o.new (Upd.ofBelow a1.o)).cell 6 _ rfl,HH.o.1]
   have a2:∀w',Upd [] a0 w'→Calls prog 126 #[ptr p 0] w' fun e H2=>e=.returned (.int .i64 (E:Nat))∧w'=H2:=fun w' hu=>by rw[V.o.2];exact kL p g _ _ (G.o.new hu).dec
   have a3:=aa a2;obtain⟨P,Hb⟩:∃P,P=16*pl:=⟨_,rfl⟩;have H3:IntKind.u64.wrap ((N:Int)-(E:Int))=(P:Int):=by rw[cK];omega
   have H4:IntKind.u64.wrap (E:Int)=(E:Int):=by rw[cK];omega
   have Hc:=aa (And.intro Hb (show pl<1000000 by omega));have Io:=aa Ha;have Ip:E≤N:=by omega
   clear hD hu a2 HP HB ad Hb Ha;go_wp2_with fail;go_region_held3 (fun w'=>w'.cell? ⟨k.W,6,none⟩=some (.int .u64 (N:Nat))) (go_keep) ((go_at_call 126;refine(a3.o _ (by with_reducible exact(ae _).drew)).mono ?_;rintro e _ ⟨rfl,rfl⟩))
   have d:=aa (G.o.new (ae a0).drew);have O:=aa (a1.o.trans ((ae a0).drew.below G.o.bw (by simp)));rw[A.o.enc]at d;clear H3 H4 Ug a3 G a1;revert d O;generalize a0.drew=w14;intro d O;have bd:=aa A.o.hbody;have H5:=aa (congrArg List.length A.o.enc);go_wp2_with fail;refine(fG p g body.length _ _ d.o.dec (by have:=bd.o;omega) (by have h1:=H5.o;have h2:=V.o.2;omega)).mono ?_;rintro e n3 ⟨rfl,hD,hu⟩;have a4:=aa (d.o.step hD hu);have nl:=aa (O.o.trans (d.o.below hu));clear hD hu d O;obtain⟨K,hK⟩:∃K,K=X.1.length:=⟨_,rfl⟩;have n4:body++(Lib.beBytes 4 (crc body)++R)=Lib.uvarint K++(dv X.1++(X.2++(Lib.beBytes 4 (crc body)++R))):=by
    conv=>lhs;arg 1;rw[bd.o.1]
    rw[cq,hK];simp only[al]
   have H6:K<1000:=by rw[hK];exact HX.o.1
   obtain⟨SL,be⟩:∃SL,SL=(body++(Lib.beBytes 4 (crc body)++R)).length:=⟨_,rfl⟩;have nn:SL=body.length+4+R.length:=by rw[be];simp only[ab,cd];omega
   have a5:Calls prog 126 #[ptr p 0] n3 fun e w'=>e=.returned (.int .i64 (SL:Nat))∧n3=w':=by rw[be];exact kL p g _ _ a4.o.dec
   have a6:=aa a5;have HK:=aa hK;have Ij:body.length<8000:=bd.o.2.2;have Iq:R.length<1000000:=by omega
   have z:Hid (PSt wb.heap.size NS PB p g Hr (Lib.uvarint K++(dv X.1++(X.2++(Lib.beBytes 4 (crc body)++R)))) (eh Nn T) M n3):=aa (by rw[←n4];exact a4.o);have Hd:=aa (congrArg List.length n4);have np:=aa (And.intro be nn);clear hK n4 be nn a5 a4;go_wp2_with (go_at_call 126;with_reducible refine a6.o.mono ?_;rintro e _ ⟨rfl,rfl⟩);refine(fG p g K _ _ z.o.dec (by omega) (by have h1:=Hd.o;have h2:=np.o;omega)).mono ?_;rintro e Ir ⟨rfl,hD,hu⟩;have nq:=aa (z.o.step hD hu);have nt:=aa (nl.o.trans (z.o.below hu));clear hD hu z nl a6;go_upto_block 12 with(fail)
   have hT0:(eh Nn T).length+K<1000000:=by have h1:=congrArg List.length A.o.next.trip;have h2:=HH.o.2.2.2.2;have h3:=eQ (fun t:Nat×Nat×Nat=>Nn.contains t.2.1) T;simp only[ab,aB]at h1;simp only[eh];omega
   refine FJ (hs:=nq.o) (hN:=HH.o.2.1) (hP:=Hc.o.1) (hpl:=Hc.o.2) (hK:=HK.o) (hKl:=H6) (hPs:=fun x hx=>⟨(HX.o.2.2 x hx).1,by have:=(HX.o.2.2 x hx).2;omega⟩) (hrl:=by have h1:=HX.o.2.1;simp only[ab,cd];omega) (hT0:=hT0) (hJ:=?_);rintro v0 v1 v2 v3 v4 v5 v6 v7 v8 v9 v10 v11 v12 Is Iu Iv Iw v17 Ix Iy v20 v21 v22 v23 v24 v25 v26 Iz v28 v29 v30 v31 v32 v33 IA v35 IB v37 v38 v39 v40 v41 IC ID v44 v45 v46 IE n5 ⟨⟨H7,nB⟩,nI⟩;have D:=aa nB;have n1:=aa (nt.o.trans nI);clear nB nI hT0 nq nt;obtain⟨TL,bg⟩:∃TL,TL=(X.2++(Lib.beBytes 4 (crc body)++R)).length:=⟨_,rfl⟩;have He:TL=X.2.length+4+R.length:=by rw[bg];simp only[ab,cd];omega
   have a7:Calls prog 126 #[ptr p 0] n5 fun e w'=>e=.returned (.int .i64 (TL:Nat))∧n5=w':=by rw[bg];exact kL p g _ _ D.o.dec
   have a9:=aa a7;obtain⟨XL,bl⟩:∃XL,XL=X.2.length:=⟨_,rfl⟩;have bn:=tF p g (XL+4) _ n5 D.o.dec (by rw[bl];simp only[ab,cd];omega) (by have h1:=HX.o.2.1;rw[←bg];omega);have Hg:(X.2++(Lib.beBytes 4 (crc body)++R)).drop (XL+4)=R:=by
    rw[←al];have:(X.2++Lib.beBytes 4 (crc body)).length=XL+4:=by rw[ab,cd,bl]
    rw[←this,eZ]
   rw[Hg]at bn;have Hi:=np.o.2;have IF:=HX.o.2.1;have Hn:body.length≤8000:=by omega
   have Ik:XL≤body.length:=by rw[bl,bd.o.1,cq];simp only[ab];omega
   have Hj:(((XL+4:Nat):Int))=(body.length:Int)-((SL:Int)-(TL:Int))+4:=by omega
   rw[Hj]at bn;have Hk:=aa bn;have hb1:(0:Int)≤(SL:Int)-(TL:Int):=by omega
   have hb2:(SL:Int)-(TL:Int)≤(body.length:Int):=by omega
   clear a7 bn Hg bg He bl Hi Hj;go_wp2_with (go_at_call 126;with_reducible refine a9.o.mono ?_;rintro e _ ⟨rfl,rfl⟩);with_reducible refine Hk.o.mono ?_
   rintro e IG ⟨rfl,hD,hu⟩;have bb:=aa (D.o.step hD hu);have Hl:=aa (n1.o.trans (D.o.below hu));clear hD hu D n1 a9 Hk;go_wp2_with (go_at_call 118;refine(je p g _ _ bb.o.dec).mono ?_;rintro e _ ⟨rfl,rfl⟩);refine⟨⟨j+1,_,_,H7,by omega,A.o.next,?_,Hl.o⟩,?_⟩
   ·rw[←A.o.hR];exact bb.o
   ·rw[bb.o.dec.declen,H1.o];have h1:=V.o.2;rw[ab,←h1];omega
  ·obtain rfl:j=G1.length:=by omega
   have hP:=HP.o;have ht:=HS.o.trip;rw[eT]at hP ht;have hT:trip n0 G1=T:=by rw[ht];simp[trip]
   have Hm:Hid (PSt wb.heap.size NS PB p g Hr [] (eh Nn (trip n0 G1)) M wr):=aa (by rw[hT];exact hP);clear hP ht hT HP;go_wp2_with (go_at_call 126;refine(kL p g [] _ Hm.o.dec).mono ?_;rintro e _ ⟨rfl,rfl⟩);exact HJ.o _ _ _ _ _ _ _ _ _ _ _ _ _ _ _ _ _ _ _ _ _ _ _ _ _ _ _ _ _ _ _ _ _ _ _ _ _ _ _ _ _ _ _ _ _ _ _ _ _ _ _ _ _ _ _ _ _ _ _ _ _ _ _ _ _ _ _ _ _ _ _ _ _ _ _ _ _ _ _ _ ⟨⟨M,Hm.o⟩,HB.o⟩
end
end Go.Proofs.YtlgefdfflmgocaaGreatDoor
