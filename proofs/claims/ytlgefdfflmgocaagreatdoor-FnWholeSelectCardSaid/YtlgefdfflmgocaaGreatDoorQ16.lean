import Derived.Test.YtlgefdfflmgocaaGreatDoorQ15
import Derived.Deep.CutBlock
set_option linter.all false
set_option maxRecDepth 100000
set_option maxHeartbeats 8000000
namespace Go.Proofs.YtlgefdfflmgocaaGreatDoor
variable{Ub Uc Ue Uf Ug Uh Ui Uj Uk Ul Um Un Ur Us Ut Uu Uv Uw Ux Uy Uz UA UB UC UD UE UF UG UH UI UJ UK UL UM UN UO UP UQ UR US UT UU UV UW UX UY UZ Va Vb Vc Vd Ve Vf Vg Vh Vi Vj Vk Vl Vm Vn Vo Vp Vq Vr Vt Vu Vv Vw Vx Vy Vz VA VB VD VE VF VG VH VI VJ VK VL VM VN VO VP VQ VR VS VT VU VV VW VX VY VZ Wa Wb Wc Wd We Wf Wg Wh Wi Wj Wk Wl Wm Wn Wp Wq Wr Ws Wt Wu Wv Ww Wx Wy Wz WA WC WD WE WG WH WL WM WN WO WU WV WW WX WY WZ Xd Xe Xf Xg Xh Xi Xj Xk Xl Xm Xn Xo Xp Xq Xr Xt Xu Xv Xw Xx Xy Xz XA XB XC XD XE XF XG XH XI XJ XK XM XN XO XP XQ XR XS XT XU XV XW XX XY XZ Ya Yb Yc Yd Ye Yf Yg Yh Yi Yj Yk Yl Ym Yn Yo Yp Yq Yr Ys Yt Yu Yv Yw Yx Yy Yz YA YB YC YD YE YF YG YH YI YJ YK YL YM YN YO YP YQ YR YS YT YU YV YW YX YY YZ Za Zb Zc Zd Ze Zf Zg Zh Zi Zj Zk Zl Zm Zn Zo Zp Zq Zr Zs Zt Zu Zv Zw Zx Zy Zz ZA ZB ZC ZD ZE ZF ZG ZH ZI ZJ ZK ZL ZM ZN ZO ZP ZQ ZR ZS ZT ZU ZV ZW ZX ZY ZZ Oa Ob Oc Od Oe Og Oh Oi Oj Ol Om On Oo Oq Ot Ou Ov Ow Ox Oy Oz OA OB OC OD OE OF OG OH OI OJ OK OL OM ON OO OP OQ OR OS OT OU OV OW OX OY OZ Pb Pc Pd Pe Pf Pg Ph Pj Pk Pm Pn Po Pp Pq Pr Pt Pu Pv Pw Px Py Ud Uo Up Uq Ua:Go.Value}
section
open Go Go.RowKit Xc Go.Proofs.Tryz
attribute [local go_sem ↓] Go.wp_at_zero Go.wp_at_succ
variable {w:World} {k:WK} {r:WR} {s:WS}
def is(n:Nat):Code→Option Code
 | .loop c=>is n c
 | .seq a b=>match is n a with
   |some c=>some c
   |none=>is n b
 | .block m c=>if m==n then some (.block m c)else is n c
 | .scope c=>is n c
 | .cond _ a b=>match is n a with
   |some c=>some c
   |none=>is n b
 |_=>none
noncomputable def oU (n:Nat):Code:=((Tryz.f155.body.bind (is n)).getD .skip)
def du(ln:List (ByteArray×Nat)):List Bytes:=(ln.map fun x=>sb x.1).mergeSort fun x y=>decide (x≤y)
def SRd(w:World)(v:Value)(q:Nat)(l:List Bytes):Prop:=
 ∃off cap,v=.slice (some ⟨q,off,none⟩) l.length cap∧(l.length≤cap∧q<w.heap.size)∧∀j (h:j<l.length),w.cell? ⟨q,off+j,none⟩=some (.string (str l[j]))
def EU(w:World)(ns:List ByteArray)(v:Value)(d:World):Prop:=
 ∃q cap,v=.slice (some ⟨q,0,none⟩) ns.length cap∧d.ownsRow 0 9 1 v ns.length (ns.map Value.string)∧w.heap.size≤q∧Upd [] w d
def Dq(w:World)(l:List (ByteArray×Value))(v:Value)(d:World):Prop:=∃ns:List ByteArray,ns.Perm (l.map (·.1))∧EU w ns v d
theorem SRd.upd{L:List Nat}{w w':World}{v:Value}{q:Nat}{l:List Bytes}(h:SRd w v q l)(hu:Upd L w w')(hq:q∉L):SRd w' v q l:=by obtain⟨o,c,rfl,h1,d⟩:=h;exact⟨o,c,rfl,⟨h1.1,hu.lt h1.2⟩,fun j z=>hu.cell hq (d j z)⟩
theorem SRd.row{w:World}{q n cap:Nat}{l:List Bytes}(h:w.ownsRow 0 9 1 (.slice (some ⟨q,0,none⟩) n cap) n (l.map fun x=>Value.string (str x)))(hn:n=l.length):SRd w (.slice (some ⟨q,0,none⟩) n cap) q l:=by
 subst hn;refine⟨0,cap,rfl,⟨?_,(h.lt q rfl).2⟩,fun j d=>?_⟩
 ·rcases h.2 with⟨e,_⟩|⟨g,cap',cur,e,_,_,h1,_⟩
  ·cases e
  ·cases e;exact h1
 ·have:=h.cells (g:=q) rfl j (.string (str l[j])) (by simp[d]);rw[aO]at this;exact this
theorem lH{κ ν:Type}[DecidableEq κ]{l:List (κ×ν)}(hn:(l.map (·.1)).Nodup){k:κ}{v:ν}(h:(k,v)∈l):aT k l=some v:=by
 induction l with
 |nil=>cases h
 |cons x l d=>
  obtain⟨a,u⟩:=x;simp only[aN,a8]at hn;simp only[ah,cW]at h;simp only[aT];rcases h with⟨rfl,rfl⟩|h
  ·rw[if_pos rfl]
  ·rw[if_neg (by rintro rfl;exact hn.1 (List.mem_map.2 ⟨_,h,rfl⟩))];exact d hn.2 h
theorem vX{ln:List (ByteArray×Nat)}{x:Bytes}(h:x∈du ln):∃c,(str x,c)∈ln:=by have:=(eK _ _).mem_iff.1 h;simp only[bU]at this;obtain⟨y,d,rfl⟩:=this;exact⟨y.2,by rw[dX];exact d⟩
def FX(w0:World)(B q:Nat)(ns:List Bytes)(v bv:Value)(d:World):Prop:=
 ∃m qb,0<m∧m≤ns.length∧SRd d v q (ns.drop m)∧d.ownsRow 0 9 1 bv m ((ns.take m).map fun x=>Value.string (str x))∧bv.ownBlock=some qb∧(qb=B∨w0.heap.size≤qb)∧Upd [B] w0 d
theorem SRd.cut{w:World}{q o n cap:Nat}{l:List Bytes}(h:SRd w (.slice (some ⟨q,o,none⟩) n cap) q l)(hl:l≠[]):1≤cap∧n=l.length∧w.cell? ⟨q,o,none⟩=some (.string (str (l.head hl)))∧(cap=1→SRd w (.slice (some ⟨q,o,none⟩) (n-1) (cap-1)) q (l.drop 1))∧SRd w (.slice (some ⟨q,o+1,none⟩) (n-1) (cap-1)) q (l.drop 1):=by
 obtain⟨O,U,e,h1,A⟩:=h;cases e;have F:=List.length_pos_iff.2 hl;have D:=A 0 F;have G:l[0]=l.head hl:=by rw[List.head_eq_getElem]
 have d:(l.drop 1).length=l.length-1:=by simp
 refine⟨by omega,rfl,by rw[iL,G]at D;exact D,fun V=>⟨o,cap-1,by rw[d],⟨by rw[d];omega,h1.2⟩,fun j z=>by rw[d]at z;omega⟩,⟨o+1,cap-1,by rw[d],⟨by rw[d];omega,h1.2⟩,fun j z=>?_⟩⟩;have:=A (1+j) (by rw[d]at z;omega);rw[show o+(1+j)=o+1+j by omega]at this;rw[this];simp only[ng]
theorem Tryz.infoStr:(Tryz.prog.info? 9).map (fun i=>(i.zero,i.size,i.bytes))=some (some (.string ⟨#[]⟩),1,16):=by kernel_rfl
theorem GU(h:WI w k r s)(ln:List (ByteArray×Nat))(hln:s.names=eW .u64 ln)(hnd:(ln.map (·.1)).Nodup)(ML:Nat)(Ii:ML<1000)(hcnt:∀x∈ln,1≤x.2∧x.2≤ML)
 (G7:List Bytes)(hmem:∀x∈G7,∃c,(str x,c)∈ln)(G5:G7≠[])(Ie:G7.length<1000)(q o3 Ml cap3 B:Nat)(hSR:SRd w (.slice (some ⟨q,o3,none⟩) Ml cap3) q G7)(hB:w.heap[B]? =some (.cells #[] 9 (0,0)))(hBo:∀i:Nat,(wl k r)[i]?≠some (some B))(hqo:∀i:Nat,(wl k r)[i]?≠some (some q))(hBq:B≠q)(hBl:∀x∈s.li,x.1≠B)
 {Q:Exit→Act→World→Prop}{ds:List Deferred}
 (hJ:∀(u2 v bv cv vF vP v2 v3 v5 v9 wa wc wi wk wm wp wq wt wy w3 w5 w6 w7 w8 w9 xT x0 x1 x2 x3 x4 x5 x6 x7 x8 x9 y0 y1 y2 y3:Value) (wx:World),FX w B q G7 v bv wx→Q .normal ⟨#[ptr k.W 0,Ub,u2,v,Ue,Uf,Ug,Uh,Ui,Uj,Uk,Ul,Um,Un,.int .u64 (ML:Nat),bv,cv,Ur,Us,Ut,Uu,Uv,Uw,Ux,Uy,Uz,UA,UB,UC,UD,UE,UF,UG,UH,UI,UJ,UK,UL,UM,UN,UO,UP,UQ,UR,US,UT,UU,UV,UW,UX,UY,UZ,Va,Vb,Vc,Vd,Ve,Vf,Vg,Vh,Vi,Vj,Vk,Vl,Vm,Vn,Vo,Vp,Vq,Vr,Vt,Vu,Vv,Vw,Vx,Vy,Vz,VA,VB,VD,VE,VF,VG,VH,VI,VJ,VK,VL,VM,VN,VO,VP,VQ,VR,VS,VT,VU,VV,VW,VX,VY,VZ,Wa,Wb,Wc,Wd,We,Wf,Wg,Wh,Wi,Wj,Wk,Wl,Wm,Wn,Wp,Wq,Wr,Ws,Wt,Wu,Wv,Ww,Wx,Wy,Wz,WA,WC,WD,WE,WG,WH,WL,WM,WN,WO,WU,WV,WW,WX,WY,WZ,Xd,Xe,Xf,Xg,Xh,vF,vP,v2,v3,v5,v9,wa,wc,wi,wk,wm,wp,wq,wt,wy,w3,w5,w6,w7,w8,w9,xT,x0,x1,x2,x3,x4,x5,x6,x7,x8,x9,y0,y1,y2,y3,XU,XV,XW,XX,XY,XZ,Ya,Yb,Yc,Yd,Ye,Yf,Yg,Yh,Yi,Yj,Yk,Yl,Ym,Yn,Yo,Yp,Yq,Yr,Ys,Yt,Yu,Yv,Yw,Yx,Yy,Yz,YA,YB,YC,YD,YE,YF,YG,YH,YI,YJ,YK,YL,YM,YN,YO,YP,YQ,YR,YS,YT,YU,YV,YW,YX,YY,YZ,Za,Zb,Zc,Zd,Ze,Zf,Zg,Zh,Zi,Zj,Zk,Zl,Zm,Zn,Zo,Zp,Zq,Zr,Zs,Zt,Zu,Zv,Zw,Zx,Zy,Zz,ZA,ZB,ZC,ZD,ZE,ZF,ZG,ZH,ZI,ZJ,ZK,ZL,ZM,ZN,ZO,ZP,ZQ,ZR,ZS,ZT,ZU,ZV,ZW,ZX,ZY,ZZ,Oa,Ob,Oc,Od,Oe,Og,Oh,Oi,Oj,Ol,Om,On,Oo,Oq,Ot,Ou,Ov,Ow,Ox,Oy,Oz,OA,OB,OC,OD,OE,OF,OG,OH,OI,OJ,OK,OL,OM,ON,OO,OP,OQ,OR,OS,OT,OU,OV,OW,OX,OY,OZ,Pb,Pc,Pd,Pe,Pf,Pg,Ph,Pj,Pk,Pm,Pn,Po,Pp,Pq,Pr,Pt,Pu,Pv,Pw,Px,Py],ds⟩ wx):
 Code.wp prog (oU 6) Q ⟨#[ptr k.W 0,Ub,Uc,.slice (some ⟨q,o3,none⟩) Ml cap3,Ue,Uf,Ug,Uh,Ui,Uj,Uk,Ul,Um,Un,.int .u64 (ML:Nat),.slice (some ⟨B,0,none⟩) 0 0,.int .u64 0,Ur,Us,Ut,Uu,Uv,Uw,Ux,Uy,Uz,UA,UB,UC,UD,UE,UF,UG,UH,UI,UJ,UK,UL,UM,UN,UO,UP,UQ,UR,US,UT,UU,UV,UW,UX,UY,UZ,Va,Vb,Vc,Vd,Ve,Vf,Vg,Vh,Vi,Vj,Vk,Vl,Vm,Vn,Vo,Vp,Vq,Vr,Vt,Vu,Vv,Vw,Vx,Vy,Vz,VA,VB,VD,VE,VF,VG,VH,VI,VJ,VK,VL,VM,VN,VO,VP,VQ,VR,VS,VT,VU,VV,VW,VX,VY,VZ,Wa,Wb,Wc,Wd,We,Wf,Wg,Wh,Wi,Wj,Wk,Wl,Wm,Wn,Wp,Wq,Wr,Ws,Wt,Wu,Wv,Ww,Wx,Wy,Wz,WA,WC,WD,WE,WG,WH,WL,WM,WN,WO,WU,WV,WW,WX,WY,WZ,Xd,Xe,Xf,Xg,Xh,Xi,Xj,Xk,Xl,Xm,Xn,Xo,Xp,Xq,Xr,Xt,Xu,Xv,Xw,Xx,Xy,Xz,XA,XB,XC,XD,XE,XF,XG,XH,XI,XJ,XK,XM,XN,XO,XP,XQ,XR,XS,XT,XU,XV,XW,XX,XY,XZ,Ya,Yb,Yc,Yd,Ye,Yf,Yg,Yh,Yi,Yj,Yk,Yl,Ym,Yn,Yo,Yp,Yq,Yr,Ys,Yt,Yu,Yv,Yw,Yx,Yy,Yz,YA,YB,YC,YD,YE,YF,YG,YH,YI,YJ,YK,YL,YM,YN,YO,YP,YQ,YR,YS,YT,YU,YV,YW,YX,YY,YZ,Za,Zb,Zc,Zd,Ze,Zf,Zg,Zh,Zi,Zj,Zk,Zl,Zm,Zn,Zo,Zp,Zq,Zr,Zs,Zt,Zu,Zv,Zw,Zx,Zy,Zz,ZA,ZB,ZC,ZD,ZE,ZF,ZG,ZH,ZI,ZJ,ZK,ZL,ZM,ZN,ZO,ZP,ZQ,ZR,ZS,ZT,ZU,ZV,ZW,ZX,ZY,ZZ,Oa,Ob,Oc,Od,Oe,Og,Oh,Oi,Oj,Ol,Om,On,Oo,Oq,Ot,Ou,Ov,Ow,Ox,Oy,Oz,OA,OB,OC,OD,OE,OF,OG,OH,OI,OJ,OK,OL,OM,ON,OO,OP,OQ,OR,OS,OT,OU,OV,OW,OX,OY,OZ,Pb,Pc,Pd,Pe,Pf,Pg,Ph,Pj,Pk,Pm,Pn,Po,Pp,Pq,Pr,Pt,Pu,Pv,Pw,Px,Py],ds⟩ w:=by
 have y4:=aa h;have a1:=aa (And.intro hln (And.intro hnd (And.intro hcnt hmem)));have y5:=aa hSR;have HB:=aa hB;have Ho:=aa (And.intro hBo (And.intro hqo (And.intro hBq hBl)));have HJ:=aa hJ;have A1:=aa G5;clear h hln hnd hcnt hmem hSR hB hBo hqo hBq hBl hJ G5;obtain⟨i0,hi,Bf,Bp,Bt⟩:=info_parts Tryz.infoStr;conv=>arg 2;whnf
 go_wp2_with fail;go_loopw [3,15,16] (fun v bv cv wr=>∃m cN qb,m≤G7.length∧cv=.int .u64 (cN:Nat)∧(m=0→cN=0)∧(0<m→0<cN)∧cN≤ML∧SRd wr v q (G7.drop m)∧wr.ownsRow 0 9 1 bv m ((G7.take m).map fun x=>Value.string (str x))∧bv.ownBlock=some qb∧(qb=B∨w.heap.size≤qb)∧Upd [B] w wr) (fun v _ _ _=>match v with| .slice _ n _=>n|_=>0)
 case atStart=>exact⟨0,0,B,ay _,rfl,fun _=>rfl,fun h=>absurd h (by decide),ay _,y5.o,⟨rfl,.inr ⟨B,0,#[],rfl,ay _,HB.o,ay _,by decide,rfl,rfl⟩⟩,rfl,.inl rfl,(ae _).mono (by simp)⟩
 case round=>
  obtain⟨m,cN,qb,hm,rfl,y6,y7,D2,hS,hO,y8,y9,hU⟩:=hrel;have HS:=aa hS;have HO:=aa hO;have d:=aa (And.intro y8 y9);have HU:=aa hU;have Hc:=aa (And.intro y6 y7);have zl:=aa (y4.o.other hU (fun b hb=>by simp only[ag]at hb;subst hb;exact⟨Ho.o.1,Ho.o.2.2.2⟩));clear hS hO y8 y9 hU y6 y7;by_cases BX:m<G7.length
  ·have om:G7.drop m≠[]:=by intro e;have:=congrArg List.length e;rw[cy]at this;simp at this;omega
   obtain⟨o,cap,rfl,-⟩:=id HS.o;obtain⟨C1,-,z,zo,zv⟩:=HS.o.cut om;obtain⟨nm,G8⟩:∃nm,nm=(G7.drop m).head om:=⟨_,rfl⟩;rw[←G8]at z;have G:G7[m]? =some nm:=by rw[G8,List.head_drop,az BX]
   obtain⟨A,oo⟩:=a1.o.2.2.2 nm (bY G);have hcb:=a1.o.2.2.1 _ oo;have Hh:=lH a1.o.2.1 oo;obtain⟨D,hD⟩:∃D,D=(G7.drop m).length:=⟨_,rfl⟩;have B0:D=G7.length-m:=by rw[hD,cy]
   have HK:=aa (And.intro zo zv);rw[←hD]at HS HK⊢;have HD:=aa hD;have B1:=aa G;have EL:0<D:=by omega
   have E1:D<1000:=by omega
   have UO:=zl.o.cell 40 _ rfl;have z0:∀w',WI w' k r s→(Instr.lookup 154 (.map (some k.MN)) (.string (str nm)) false).run prog w'=.ok (.int .u64 (A:Nat)) w':=fun w' B2=>by have:=p6 B2 a1.o.1 (str nm) false;rw[Hh]at this;exact this
   have z1:=aa z0;simp only at hcb;clear G8 G oo Hh hD B0 zo zv om z0;generalize wr=w1 at*;have O:=z1.o w1.drew zl.o.drew;have Fl:(0:Int)<(D:Int):=by omega
   by_cases FP:ML<A+cN
   ·have C2:0<cN:=by omega
    have z2:(ML:Int)<(A:Int)+(cN:Int):=by omega
    have oq:IntKind.u64.wrap ((A:Int)+(cN:Int))=(A:Int)+(cN:Int):=by rw[cK];omega
    have B4:0<m:=by
     have h1:=Hc.o.1;by_cases h2:m=0
     ·have:=h1 h2;omega
     ·omega
    go_wp2_with fail;go_region_held3 (fun w'=>w'.cell? ⟨k.W,40,none⟩=some (.map (some k.MN))∧w'.cell? ⟨q,o,none⟩=some (.string (str nm))) (go_keep) (fail)
    clear oq;go_wp2_with fail;have U:Upd [] w1 w1.drew:=(ae w1).drew;exact HJ.o _ _ _ _ _ _ _ _ _ _ _ _ _ _ _ _ _ _ _ _ _ _ _ _ _ _ _ _ _ _ _ _ _ _ _ _ _ _ _ _ _ ⟨m,qb,B4,hm,HS.o.upd U (by simp),U.row HO.o (by simp),d.o.1,d.o.2,HU.o.drew⟩
   ·have z2:(A:Int)+(cN:Int)≤(ML:Int):=by omega
    have oq:IntKind.u64.wrap ((A:Int)+(cN:Int))=(A:Int)+(cN:Int):=by rw[cK];omega
    have D0:IntKind.u64.wrap ((cN:Int)+(A:Int))=(cN:Int)+(A:Int):=by rw[cK];omega
    go_wp2_with fail;go_region_held3 (fun w'=>w'.cell? ⟨k.W,40,none⟩=some (.map (some k.MN))∧w'.cell? ⟨q,o,none⟩=some (.string (str nm))) (go_keep) (fail)
    have U:Upd [] w1 w1.drew:=(ae w1).drew;have z3:=U.row HO.o (by simp);have z4:Upd [] w1.drew (w1.alloc (.cells #[.string (str nm)] 9 (0,0))).drew:=by have:Upd [] w1.drew (w1.drew.alloc (.cells #[.string (str nm)] 9 (0,0))):=(ae _).alloc _;exact this
    obtain⟨g',cap',w4,V,W,a2,z5⟩:=Dc (P:=prog) 59 9 i0 (.string ⟨#[]⟩) 16 underlying59 hi Bf Bp Bt rfl z3 d.o.1 z4 (.string (str nm)) rfl w1.heap.size (an _) (by unfold maxLen;omega) (by omega);clear z4 z3 U;clear oq O;go_wp2_with (at_builtin;refine bc rfl _ _ _ rfl _ _ _ _ rfl rfl V.o ?_);have B9:q<w.heap.size:=by obtain⟨_,_,_,h1,_⟩:=y5.o;exact h1.2
    have ad:q≠qb:=by
     rcases d.o.2 with h1|h1
     ·rw[h1];exact aF Ho.o.2.2.1
     ·omega
    have ov:Upd [B] w w4:=HU.o.drew.then a2.o (by intro i hi hl;simp only[ag]at hi⊢;rcases d.o.2 with h1|h1;(rw[hi,h1]);omega);have a3:=y4.o.other ov (fun b hb=>by simp only[ag]at hb;subst hb;exact⟨Ho.o.1,Ho.o.2.2.2⟩);have UO:=a3.cell 40 _ rfl;have a4:=a2.o.cell (a:=⟨q,o,none⟩) (by simpa using ad) (show w1.drew.cell? ⟨q,o,none⟩=some (.string (str nm))from z);have O:=z1.o w4.drew a3.drew;have F1:=aa a3;have z6:=aa ov;have og:=aa ad;have G2:(1:Int)≤(D:Int):=by omega
    have Ha:(1:Int)≤(cap:Int):=by omega
    clear a3 ov ad B9 z;go_region_held3 (fun w'=>w'.cell? ⟨k.W,40,none⟩=some (.map (some k.MN))∧w'.cell? ⟨q,o,none⟩=some (.string (str nm))) (go_keep) (fail)
    clear UO a4 O;have a0:Upd [qb] w1 w4.drew:=((((ae w1).drew).mono (M:=[qb]) (by simp)).then a2.o (fun i h _=>h)).drew;have oR:(G7.drop m).drop 1=G7.drop (m+1):=by rw[List.drop_drop]
    have z7:cap=1→SRd w4.drew (.slice (some ⟨q,o,none⟩) (D-1) (cap-1)) q (G7.drop (m+1)):=fun e=>by rw[←oR];exact(HK.o.1 e).upd a0 (by simpa using og.o)
    have z8:SRd w4.drew (.slice (some ⟨q,o+1,none⟩) (D-1) (cap-1)) q (G7.drop (m+1)):=by rw[←oR];exact HK.o.2.upd a0 (by simpa using og.o)
    have G3:w4.drew.ownsRow 0 9 1 (.slice (some ⟨g',0,none⟩) (m+1) cap') (m+1) ((G7.take (m+1)).map fun x=>Value.string (str x)):=by rw[jQ,B1.o,aX];exact W.o
    have hg:g'=B∨w.heap.size≤g':=by
     have h1:=d.o.2;have h2:=HU.o.size;have h3:w1.drew.heap.size=w1.heap.size:=rfl;rcases z5.o with h|h
     ·rw[h];exact h1
     ·exact .inr (by omega)
    have HE:=aa (And.intro z7 (And.intro z8 (And.intro G3 hg)));clear a0 oR z7 z8 G3 hg V W a2 z5 HO HK;by_cases z9:cap=1
    ·subst z9;go_wp2_with fail;exact⟨⟨m+1,cN+A,g',by omega,by go_num,fun h=>by omega,fun _=>by omega,by omega,HE.o.1 rfl,HE.o.2.2.1,rfl,HE.o.2.2.2,z6.o.drew⟩,by show D-1<D;omega⟩
    ·have D1:(cap=1)=False:=by simp[z9]
     go_wp2_with fail;exact⟨⟨m+1,cN+A,g',by omega,by go_num,fun h=>by omega,fun _=>by omega,by omega,HE.o.2.1,HE.o.2.2.1,rfl,HE.o.2.2.2,z6.o.drew⟩,by show D-1<D;omega⟩
  ·obtain rfl:m=G7.length:=by omega
   have a5:=HS.o;rw[eT]at a5;obtain⟨o,cap,rfl,-⟩:=id a5;have Cc:=aa a5;clear a5 HS;go_wp2_with fail;refine HJ.o _ _ _ _ _ _ _ _ _ _ _ _ _ _ _ _ _ _ _ _ _ _ _ _ _ _ _ _ _ _ _ _ _ _ _ _ _ _ _ _ _ ⟨G7.length,qb,List.length_pos_iff.2 A1.o,aw _,?_,HO.o,d.o.1,d.o.2,HU.o⟩;rw[eT];exact Cc.o
end
section
open Go Go.RowKit Xc Go.Proofs.Tryz
attribute [local go_sem ↓] Go.wp_at_zero Go.wp_at_succ
variable {w:World} {k:WK} {r:WR} {s:WS}
def nM(id:Bytes→Nat)(bs:List Bytes):List (Nat×Value):=bs.foldl (fun l x=>cf (id x) (Value.string (str x)) l) []
theorem wj(id:Bytes→Nat)(bs:List Bytes)(j:Nat){x:Bytes}(h:bs[j]? =some x):nM id (bs.take (j+1))=cf (id x) (Value.string (str x)) (nM id (bs.take j)):=by rw[jQ,h,nM,Option.toList,ff];rfl
theorem yr(id:Bytes→Nat)(a:Nat)(bs:List Bytes):(aT a (nM id bs)).isSome=(bs.map id).contains a:=by
 have h:∀(bs:List Bytes) (l:List (Nat×Value)),(aT a (bs.foldl (fun l x=>cf (id x) (Value.string (str x)) l) l)).isSome=((aT a l).isSome||(bs.map id).contains a):=by
  intro bs;induction bs with
  |nil=>intro l;simp
  |cons x bs d=>
   intro l;rw[dg,d,gj];by_cases e:a=id x
   ·simp[e]
   ·simp[e]
 have:=h bs [];simpa[nM,aT]using this
theorem jB:vf prog 224 Nat (ec .u32):=Cg underlying224
theorem GV(h:WI w k r s)(ids:List (ByteArray×Nat))(hch:s.cache=eW .u32 ids)(bs:List Bytes)(m capb qb NS:Nat)(hm:m=bs.length)(Ia:m<1000)(G3:w.ownsRow 0 9 1 (.slice (some ⟨qb,0,none⟩) m capb) m (bs.map fun x=>Value.string (str x)))
 (hid:∀x∈bs,∃a,aT (str x) ids=some a∧a<65536)(hNS:w.heap[NS]? =some (bI (ec .u32) []))(hNo:∀i:Nat,(wl k r)[i]?≠some (some NS))(hNl:∀x∈s.li,x.1≠NS)(hNq:NS≠qb)
 {Q:Exit→Act→World→Prop}{ds:List Deferred}
 (hJ:∀(u2 vx vF vP tv t6 t7 t8 t9 ua ub uc u0 u1 u3 u4 u6 u7 va vb vc vi vj vl:Value) (wx:World),wx.heap[NS]? =some (bI (ec .u32) (nM (cj ids) bs))∧Upd [NS] w wx→Q .normal ⟨#[ptr k.W 0,Ub,u2,Ud,Ue,Uf,Ug,Uh,Ui,Uj,Uk,Ul,Um,Un,Uo,Up,Uq,.map (some NS),Us,vx,vF,vP,Uw,Ux,Uy,Uz,UA,UB,UC,UD,UE,UF,UG,UH,UI,UJ,UK,UL,UM,UN,UO,UP,UQ,UR,US,UT,UU,UV,UW,UX,UY,UZ,Va,Vb,Vc,Vd,Ve,Vf,Vg,Vh,Vi,Vj,Vk,Vl,Vm,Vn,Vo,Vp,Vq,Vr,Vt,Vu,Vv,Vw,Vx,Vy,Vz,VA,VB,VD,VE,VF,VG,VH,VI,VJ,VK,VL,VM,VN,VO,VP,VQ,VR,VS,VT,VU,VV,VW,VX,VY,VZ,Wa,Wb,Wc,Wd,We,Wf,Wg,Wh,Wi,Wj,Wk,Wl,Wm,Wn,Wp,Wq,Wr,Ws,Wt,Wu,Wv,Ww,Wx,Wy,Wz,WA,WC,WD,WE,WG,WH,WL,WM,WN,WO,WU,WV,WW,WX,WY,WZ,Xd,Xe,Xf,Xg,Xh,Xi,Xj,Xk,Xl,Xm,Xn,Xo,Xp,Xq,Xr,Xt,Xu,Xv,Xw,Xx,Xy,Xz,XA,XB,XC,XD,XE,XF,XG,XH,XI,XJ,XK,XM,XN,XO,XP,XQ,XR,XS,XT,XU,.slice (some ⟨qb,0,none⟩) m capb,.int .i64 (m:Nat),tv,t6,t7,t8,t9,ua,ub,uc,u0,u1,u3,u4,u6,u7,va,vb,vc,vi,vj,vl,Yr,Ys,Yt,Yu,Yv,Yw,Yx,Yy,Yz,YA,YB,YC,YD,YE,YF,YG,YH,YI,YJ,YK,YL,YM,YN,YO,YP,YQ,YR,YS,YT,YU,YV,YW,YX,YY,YZ,Za,Zb,Zc,Zd,Ze,Zf,Zg,Zh,Zi,Zj,Zk,Zl,Zm,Zn,Zo,Zp,Zq,Zr,Zs,Zt,Zu,Zv,Zw,Zx,Zy,Zz,ZA,ZB,ZC,ZD,ZE,ZF,ZG,ZH,ZI,ZJ,ZK,ZL,ZM,ZN,ZO,ZP,ZQ,ZR,ZS,ZT,ZU,ZV,ZW,ZX,ZY,ZZ,Oa,Ob,Oc,Od,Oe,Og,Oh,Oi,Oj,Ol,Om,On,Oo,Oq,Ot,Ou,Ov,Ow,Ox,Oy,Oz,OA,OB,OC,OD,OE,OF,OG,OH,OI,OJ,OK,OL,OM,ON,OO,OP,OQ,OR,OS,OT,OU,OV,OW,OX,OY,OZ,Pb,Pc,Pd,Pe,Pf,Pg,Ph,Pj,Pk,Pm,Pn,Po,Pp,Pq,Pr,Pt,Pu,Pv,Pw,Px,Py],ds⟩ wx):
 Code.wp prog (oU 8) Q ⟨#[ptr k.W 0,Ub,Uc,Ud,Ue,Uf,Ug,Uh,Ui,Uj,Uk,Ul,Um,Un,Uo,Up,Uq,.map (some NS),Us,Ut,Uu,Uv,Uw,Ux,Uy,Uz,UA,UB,UC,UD,UE,UF,UG,UH,UI,UJ,UK,UL,UM,UN,UO,UP,UQ,UR,US,UT,UU,UV,UW,UX,UY,UZ,Va,Vb,Vc,Vd,Ve,Vf,Vg,Vh,Vi,Vj,Vk,Vl,Vm,Vn,Vo,Vp,Vq,Vr,Vt,Vu,Vv,Vw,Vx,Vy,Vz,VA,VB,VD,VE,VF,VG,VH,VI,VJ,VK,VL,VM,VN,VO,VP,VQ,VR,VS,VT,VU,VV,VW,VX,VY,VZ,Wa,Wb,Wc,Wd,We,Wf,Wg,Wh,Wi,Wj,Wk,Wl,Wm,Wn,Wp,Wq,Wr,Ws,Wt,Wu,Wv,Ww,Wx,Wy,Wz,WA,WC,WD,WE,WG,WH,WL,WM,WN,WO,WU,WV,WW,WX,WY,WZ,Xd,Xe,Xf,Xg,Xh,Xi,Xj,Xk,Xl,Xm,Xn,Xo,Xp,Xq,Xr,Xt,Xu,Xv,Xw,Xx,Xy,Xz,XA,XB,XC,XD,XE,XF,XG,XH,XI,XJ,XK,XM,XN,XO,XP,XQ,XR,XS,XT,XU,.slice (some ⟨qb,0,none⟩) m capb,.int .i64 (m:Nat),.int .i64 0,XY,XZ,Ya,Yb,Yc,Yd,Ye,Yf,Yg,Yh,Yi,Yj,Yk,Yl,Ym,Yn,Yo,Yp,Yq,Yr,Ys,Yt,Yu,Yv,Yw,Yx,Yy,Yz,YA,YB,YC,YD,YE,YF,YG,YH,YI,YJ,YK,YL,YM,YN,YO,YP,YQ,YR,YS,YT,YU,YV,YW,YX,YY,YZ,Za,Zb,Zc,Zd,Ze,Zf,Zg,Zh,Zi,Zj,Zk,Zl,Zm,Zn,Zo,Zp,Zq,Zr,Zs,Zt,Zu,Zv,Zw,Zx,Zy,Zz,ZA,ZB,ZC,ZD,ZE,ZF,ZG,ZH,ZI,ZJ,ZK,ZL,ZM,ZN,ZO,ZP,ZQ,ZR,ZS,ZT,ZU,ZV,ZW,ZX,ZY,ZZ,Oa,Ob,Oc,Od,Oe,Og,Oh,Oi,Oj,Ol,Om,On,Oo,Oq,Ot,Ou,Ov,Ow,Ox,Oy,Oz,OA,OB,OC,OD,OE,OF,OG,OH,OI,OJ,OK,OL,OM,ON,OO,OP,OQ,OR,OS,OT,OU,OV,OW,OX,OY,OZ,Pb,Pc,Pd,Pe,Pf,Pg,Ph,Pj,Pk,Pm,Pn,Po,Pp,Pq,Pr,Pt,Pu,Pv,Pw,Px,Py],ds⟩ w:=by
 have v2:=aa h;have HH:=aa (And.intro hch (And.intro hm (And.intro G3 hid)));have HN:=aa (And.intro hNo (And.intro hNl hNq));have HJ:=aa hJ;have v3:=aa hNS;clear h hch hm G3 hid hNS hNo hNl hNq hJ;conv=>arg 2;whnf
 go_wp2_with fail;go_loopw [187] (fun c wr=>∃j:Nat,j≤m∧c=.int .i64 j∧wr.heap[NS]? =some (bI (ec .u32) (nM (cj ids) (bs.take j)))∧Upd [NS] w wr) (fun c _=>m-(intOf c).toNat)
 case atStart=>exact⟨0,ay _,rfl,v3.o,(ae _).mono (by simp)⟩
 case round=>
  obtain⟨j,hj,rfl,hN,hU⟩:=hrel;have d:=aa hN;have HU:=aa hU;clear hN hU;by_cases wc:j<m
  ·have v5:j<bs.length:=by have:=HH.o.2.1;omega
   obtain⟨nm,G8⟩:∃nm,bs[j]? =some nm:=⟨_,az v5⟩;obtain⟨a,ha,If⟩:=HH.o.2.2.2 nm (bY G8);have n6:cj ids nm=a:=by rw[cj,ha];rfl
   have n8:=(HU.o.row HH.o.2.2.1 (by rintro _ ⟨⟩;simpa using aF HN.o.2.2)).cells (g:=qb) rfl j (.string (str nm)) (by rw[cx,G8];rfl);rw[aO,aK]at n8;have n9:=v2.o.other HU.o (fun b hb=>by simp only[ag]at hb;subst hb;exact⟨HN.o.1,HN.o.2.1⟩);have UM:=n9.cell 38 _ rfl;have vm:=ie n9 HH.o.1 (str nm) true;rw[ha]at vm;simp only[if_true,dq,mg]at vm;have vn:=dB (P:=prog) (ec .u32) jB underlying149 d.o a (.string (str nm));have v9:=aa vn;have wa:=aa G8;have vo:=aa n6;clear vn G8 ha n6 n9;go_wp2_with (at_mapUpdate;refine jd rfl _ _ _ _ rfl _ _ _ _ rfl rfl rfl v9.o ?_);refine⟨⟨j+1,by omega,by go_num,?_,HU.o.then d9 (fun i h _=>h)⟩,by simp only[intOf];omega⟩;rw[gN (lt_of_block d.o),wj _ _ _ wa.o,vo.o]
  ·obtain rfl:j=m:=by omega
   have he:bs.take j=bs:=by rw[HH.o.2.1,aS]
   rw[he]at d;clear he;go_wp2_with fail;exact HJ.o _ _ _ _ _ _ _ _ _ _ _ _ _ _ _ _ _ _ _ _ _ _ _ _ _ ⟨d.o,HU.o⟩
end
section
open Go Go.RowKit Xc Go.Proofs.Tryz
attribute [local go_sem ↓] Go.wp_at_zero Go.wp_at_succ
variable {w:World} {k:WK} {r:WR} {s:WS}
structure PSt(base NS PB p g:Nat)(Hr:List (Nat×Value))(rest:Bytes)(T:List (Nat×Nat×Nat))(M:List PI)(w:World):Prop where
 dec:cm w p g rest
 ns:w.heap[NS]? =some (bI (ec .u32) Hr)
 pm:lr w 224 base PB M
 abs:nY (nu M) T
 np:p∉bN PB M
 nn:NS∉bN PB M
 ne:NS≠p
 bp:base≤p
 bn:base≤NS
 bg:g<base
 bw:base≤w.heap.size
theorem PSt.step{base NS PB p g:Nat}{Hr:List (Nat×Value)}{rest rest':Bytes}{T:List (Nat×Nat×Nat)}{M:List PI}{w w':World}(h:PSt base NS PB p g Hr rest T M w)(d:cm w' p g rest')(hu:Upd [p] w w'):PSt base NS PB p g Hr rest' T M w':=
 ⟨d,hu.blk h.ns (by simpa using h.ne),h.pm.upd hu (by rintro b hb;simp only[ag]at hb;subst hb;exact h.np),h.abs,h.np,h.nn,h.ne,h.bp,h.bn,h.bg,aW h.bw hu.size⟩
theorem PSt.below{base NS PB p g:Nat}{Hr:List (Nat×Value)}{rest:Bytes}{T:List (Nat×Nat×Nat)}{M:List PI}{w w':World}(h:PSt base NS PB p g Hr rest T M w)(hu:Upd [p] w w'):Below base w w':=
 hu.below h.bw (by intro b hb;simp only[ag]at hb;subst hb;exact h.bp)
theorem PSt.new{base NS PB p g:Nat}{Hr:List (Nat×Value)}{rest:Bytes}{T:List (Nat×Nat×Nat)}{M:List PI}{w w':World}(h:PSt base NS PB p g Hr rest T M w)(hu:Upd [] w w'):PSt base NS PB p g Hr rest T M w':=
 ⟨h.dec.upd hu (by simp) (by simp),hu.blk h.ns (by simp),h.pm.upd hu (by simp),h.abs,h.np,h.nn,h.ne,h.bp,h.bn,h.bg,aW h.bw hu.size⟩
theorem PSt.make{base NS PB p g a b':Nat}{Hr:List (Nat×Value)}{rest:Bytes}{T:List (Nat×Nat×Nat)}{M:List PI}{w U D:World}(h:PSt base NS PB p g Hr rest T M w)(d:Upd [] w U)(z:Upd [PB] U D)(V:aT a M=none)(hb:w.heap.size≤b')
 (Ih:lr D 224 base PB (M++[(a,b',[])])):PSt base NS PB p g Hr rest T (M++[(a,b',[])]) D∧Below base w D∧aT a (M++[(a,b',[])])=some (b',[]):=by
 have A:PB∈bN PB M:=by simp[bN]
 have F:=h.pm.ge PB A;have hpl:p<w.heap.size:=by obtain⟨v,hv,_⟩:=h.dec.blk;exact lt_of_block hv
 have Ie:=lt_of_block h.ns;have G:p≠PB:=fun e=>h.np (e▸A);have O:NS≠PB:=fun e=>h.nn (e▸A);have e1:bN PB (M++[(a,b',[])])=bN PB M++[b']:=by simp[bN]
 have hg:=h.bg;refine⟨⟨(h.dec.upd d (by simp) (by simp)).upd z (by simpa using G) (by simp only[ag];omega),z.blk (d.blk h.ns (by simp)) (by simpa using O),Ih,?_,?_,?_,h.ne,h.bp,h.bn,h.bg,?_⟩,?_,?_⟩
 ·rw[xM];exact h.abs.make (by rw[lx,V];rfl)
 ·rw[e1];simp only[aA,ag,not_or];exact⟨h.np,by omega⟩
 ·rw[e1];simp only[aA,ag,not_or];exact⟨h.nn,by omega⟩
 ·have h1:=h.bw;have W:=d.size;have h3:=z.size;omega
 ·exact(d.below h.bw (by simp)).trans (z.below (by have h1:=h.bw;have W:=d.size;omega) (by intro b hb;simp only[ag]at hb;subst hb;exact F))
 ·rw[←fu V,gj,if_pos rfl]
theorem Di(w:World):(zeroValue 9).run prog w=.ok (.string ⟨#[]⟩) w:=by kernel_rfl
theorem uY(w:World):(zeroValue 380).run prog w=.ok (.map none) w:=by kernel_rfl
theorem xy(w:World):(zeroValue 372).run prog w=.ok (.slice none 0 0) w:=by kernel_rfl
theorem ux(P:List (Nat×Nat))(j:Nat)(h:j<P.length):dv (P.drop j)=Lib.uvarint P[j].1++(Lib.uvarint P[j].2++dv (P.drop (j+1))):=by rw[bf h,dv,aY,al];rfl
theorem uy(P:List (Nat×Nat))(h:∀p∈P,p.1<65536∧p.2<65536)(j:Nat):(dv (P.drop j)).length≤6*P.length:=by
 have h1:=mX (P.drop j) (fun p d=>h p (iG d));have z:(P.drop j).length≤P.length:=by rw[cy];omega
 omega
theorem oV(N:List Nat)(T:List (Nat×Nat×Nat))(p a b:Nat):eh N (T++[(p,a,b)])=if N.contains a then eh N T++[(p,a,b)]else eh N T:=by
 unfold eh;rw[fM,db,List.filter_nil];by_cases h:N.contains a=true
 ·rw[if_pos h,if_pos h]
 ·rw[if_neg h,if_neg h,bk]
def ik(n:Nat):Code→Option Code
 | .loop c=>ik n c
 | .seq a b=>match ik n a with
   |some c=>some c
   |none=>ik n b
 | .block _ c=>ik n c
 | .scope c=>ik n c
 | .cond _ a b=>match ik n a with
   |some c=>some c
   |none=>ik n b
 | .region m o d=>if m==n then some (.region m o d)else none
 |_=>none
noncomputable def GW (n:Nat):Code:=((Tryz.f155.body.bind (ik n)).getD .skip)
theorem lG{κ ν:Type}[DecidableEq κ]{k:κ}{v:ν}{l:List (κ×ν)}{x:κ×ν}(h:x∈cf k v l):x=(k,v)∨x∈l:=by
 induction l with
 |nil=>simp only[cf,ag]at h;exact .inl h
 |cons y l d=>
  simp only[cf]at h;split at h
  ·rename_i e;simp only[ah]at h;rcases h with h|h
   ·exact .inl (by rw[h,e])
   ·exact .inr (aH _ h)
  ·simp only[ah]at h;rcases h with h|h
   ·exact .inr (by rw[h];exact eo)
   ·rcases d h with h|h
    ·exact .inl h
    ·exact .inr (aH _ h)
theorem oK{bp a b c q:Nat}{v:Value}{ys:List Nat}{es:List PE}{M:List PI}(Hh:aT a M=some (b,es)){i:Nat}(h:i∈bN bp (cf a (b,cf c (v,q,ys) es) M)):i∈bN bp M∨i=q:=by
 simp only[bN,ah,eU,bU]at h⊢;rcases h with rfl|⟨x,d,h⟩
 ·exact .inl (.inl rfl)
 ·rcases lG d with rfl|d
  ·have hm:=mget_mem Hh;rcases h with rfl|⟨y,z,rfl⟩
   ·exact .inl (.inr ⟨_,hm,.inl rfl⟩)
   ·rcases lG z with rfl|z
    ·exact .inr rfl
    ·exact .inl (.inr ⟨_,hm,.inr ⟨y,z,rfl⟩⟩)
  ·exact .inl (.inr ⟨x,d,h⟩)
theorem PSt.add{base NS PB p g a b b' g' W:Nat}{Hr:List (Nat×Value)}{rest:Bytes}{T:List (Nat×Nat×Nat)}{M:List PI}{es:List PE}{w w2:World}{v':Value}{xs L:List Nat}(h:PSt base NS PB p g Hr rest T M w)(Hh:aT a M=some (b',es))(hu:Upd L w w2)
 (D:(∀i∈L,i∈bN PB M)∧PB∉L∧b'∉L)(hb2:base≤g')(hg:(aT b es=none∧xs=[]∧L=[]∧w.heap.size≤g')∨(∃v q,aT b es=some (v,q,xs)∧L=[q]∧(g'=q∨w.heap.size≤g')))(hr:mK w2 224 v' g' (xs++[W])):
 (∃M',PSt base NS PB p g Hr rest (T++[(W,a,b)]) M' (ChangeMaps.setBlock w2 b' (bI (ec .u32) (cf b v' (es.map fun y=>(y.1,y.2.1))))))∧Below base w (ChangeMaps.setBlock w2 b' (bI (ec .u32) (cf b v' (es.map fun y=>(y.1,y.2.1))))):=by
 have O:b'∈bN PB M:=aH _ (List.mem_flatMap.2 ⟨_,mget_mem Hh,eo⟩);have hS:Upd [b'] w2 (ChangeMaps.setBlock w2 b' (bI (ec .u32) (cf b v' (es.map fun y=>(y.1,y.2.1))))):=d9;have F:=h.pm.ge;have a0:=h.bg;have Ih:lr (ChangeMaps.setBlock w2 b' (bI (ec .u32) (cf b v' (es.map fun y=>(y.1,y.2.1))))) 224 base PB (cf a (b',cf b (v',g',xs++[W]) es) M):=by
  rcases hg with⟨h1,d,A,h4⟩|⟨v,q,h1,d,A⟩
  ·exact h.pm.add (q:=0) Hh (.inl ⟨h1,d,A,h4⟩) hb2 hu hr
  ·exact h.pm.add (q:=q) Hh (.inr ⟨v,h1,d,A⟩) hb2 hu hr
 have hpl:p<w.heap.size:=by obtain⟨v,hv,_⟩:=h.dec.blk;exact lt_of_block hv
 have Ie:=lt_of_block h.ns;have U:g'∈bN PB M∨w.heap.size≤g':=by
  rcases hg with⟨_,_,_,h4⟩|⟨v,q,h1,d,A⟩
  ·exact .inr h4
  ·rcases A with rfl|A
   ·exact .inl (D.1 _ (by rw[d];simp))
   ·exact .inr A
 have z:∀i,i∉bN PB M→i∉L∧i∉[b']:=fun i G=>⟨fun hl=>G (D.1 i hl),by simp only[ag];rintro rfl;exact G O⟩;have V:g∉bN PB M:=fun hm=>by have:=F g hm;omega
 have ad:∀i∈L,base≤i:=fun i G=>F i (D.1 i G);refine⟨⟨_,⟨(h.dec.upd hu (z p h.np).1 (z g V).1).upd hS (z p h.np).2 (z g V).2,hS.blk (hu.blk h.ns (z NS h.nn).1) (z NS h.nn).2,Ih,?_,?_,?_,h.ne,h.bp,h.bn,h.bg,?_⟩⟩,?_⟩
 ·rw[zw];refine h.abs.add (by rw[lx,Hh];rfl) ?_;rw[pC];rcases hg with⟨h1,d,_⟩|⟨v,q,h1,_⟩
  ·rw[h1,d];rfl
  ·rw[h1];rfl
 ·intro hm;rcases oK Hh hm with h1|rfl
  ·exact h.np h1
  ·rcases U with d|d
   ·exact h.np d
   ·omega
 ·intro hm;rcases oK Hh hm with h1|rfl
  ·exact h.nn h1
  ·rcases U with d|d
   ·exact h.nn d
   ·omega
 ·have h1:=h.bw;have d:=hu.size;have A:=hS.size;omega
 ·exact(hu.below h.bw ad).trans (hS.below (by have h1:=h.bw;have d:=hu.size;omega) (by intro i G;simp only[ag]at G;subst G;exact F _ O))
theorem zu{T:List (Nat×Nat×Nat)}{M:List PI}{a b b' q:Nat}{v:Value}{es:List PE}{xs:List Nat}(h:nY (nu M) T)(Hh:aT a M=some (b',es))(d:aT b es=some (v,q,xs)):xs.length≤T.length:=by
 have h1:=(h a).val b;have z:fK (nu M) a=oW es:=by rw[fK,lx,Hh];rfl
 rw[z,pC,d]at h1;simp only[gh,dq]at h1;rw[h1,aB];exact eQ _ _
theorem Dg(base NS PB p g P d a b b':Nat)(Hr:List (Nat×Value))(rest:Bytes)(T:List (Nat×Nat×Nat))(M:List PI)(es:List PE)(hs:PSt base NS PB p g Hr rest T M w)(Hh:aT a M=some (b',es))(hP:P=16*d)(hpl:d<1000000)(hT:T.length<1000000)
 {Q:Exit→Act→World→Prop}{ds:List Deferred}
 (hJ:∀(v5 v9 wa wc wi wk wm wp wq wt wy w3 w4 w5:Value) (wx:World),(∃M,PSt base NS PB p g Hr rest (T++[(d,a,b)]) M wx)∧Below base w wx→Q .normal ⟨#[Ua,Ub,Uc,Ud,Ue,Uf,Ug,Uh,Ui,Uj,Uk,Ul,Um,Un,Uo,Up,Uq,Ur,Us,Ut,Uu,Uv,.map (some PB),Ux,.int .u64 (P:Nat),Uz,UA,UB,UC,.int .u32 (a:Nat),.int .u32 (b:Nat),UF,UG,UH,UI,UJ,UK,UL,UM,UN,UO,UP,UQ,UR,US,UT,UU,UV,UW,UX,UY,UZ,Va,Vb,Vc,Vd,Ve,Vf,Vg,Vh,Vi,Vj,Vk,Vl,Vm,Vn,Vo,Vp,Vq,Vr,Vt,Vu,Vv,Vw,Vx,Vy,Vz,VA,VB,VD,VE,VF,VG,VH,VI,VJ,VK,VL,VM,VN,VO,VP,VQ,VR,VS,VT,VU,VV,VW,VX,VY,VZ,Wa,Wb,Wc,Wd,We,Wf,Wg,Wh,Wi,Wj,Wk,Wl,Wm,Wn,Wp,Wq,Wr,Ws,Wt,Wu,Wv,Ww,Wx,Wy,Wz,WA,WC,WD,WE,WG,WH,WL,WM,WN,WO,WU,WV,WW,WX,WY,WZ,Xd,Xe,Xf,Xg,Xh,Xi,Xj,Xk,Xl,Xm,Xn,Xo,Xp,Xq,Xr,Xt,Xu,Xv,Xw,Xx,Xy,Xz,XA,XB,XC,XD,XE,XF,XG,XH,XI,XJ,XK,XM,XN,XO,XP,XQ,XR,XS,XT,XU,XV,XW,XX,XY,XZ,Ya,Yb,Yc,Yd,Ye,Yf,Yg,Yh,Yi,Yj,Yk,Yl,Ym,Yn,Yo,Yp,Yq,Yr,Ys,Yt,Yu,Yv,Yw,Yx,Yy,Yz,YA,YB,YC,YD,YE,YF,YG,YH,YI,YJ,YK,YL,YM,YN,YO,YP,YQ,YR,YS,YT,YU,YV,YW,YX,YY,YZ,Za,Zb,Zc,Zd,Ze,Zf,Zg,Zh,Zi,Zj,Zk,Zl,Zm,Zn,Zo,Zp,Zq,Zr,Zs,Zt,Zu,Zv,Zw,Zx,v5,v9,wa,wc,wi,wk,wm,wp,wq,wt,wy,w3,w4,w5,ZM,ZN,ZO,ZP,ZQ,ZR,ZS,ZT,ZU,ZV,ZW,ZX,ZY,ZZ,Oa,Ob,Oc,Od,Oe,Og,Oh,Oi,Oj,Ol,Om,On,Oo,Oq,Ot,Ou,Ov,Ow,Ox,Oy,Oz,OA,OB,OC,OD,OE,OF,OG,OH,OI,OJ,OK,OL,OM,ON,OO,OP,OQ,OR,OS,OT,OU,OV,OW,OX,OY,OZ,Pb,Pc,Pd,Pe,Pf,Pg,Ph,Pj,Pk,Pm,Pn,Po,Pp,Pq,Pr,Pt,Pu,Pv,Pw,Px,Py],ds⟩ wx):
 Code.wp prog (GW 70) Q ⟨#[Ua,Ub,Uc,Ud,Ue,Uf,Ug,Uh,Ui,Uj,Uk,Ul,Um,Un,Uo,Up,Uq,Ur,Us,Ut,Uu,Uv,.map (some PB),Ux,.int .u64 (P:Nat),Uz,UA,UB,UC,.int .u32 (a:Nat),.int .u32 (b:Nat),UF,UG,UH,UI,UJ,UK,UL,UM,UN,UO,UP,UQ,UR,US,UT,UU,UV,UW,UX,UY,UZ,Va,Vb,Vc,Vd,Ve,Vf,Vg,Vh,Vi,Vj,Vk,Vl,Vm,Vn,Vo,Vp,Vq,Vr,Vt,Vu,Vv,Vw,Vx,Vy,Vz,VA,VB,VD,VE,VF,VG,VH,VI,VJ,VK,VL,VM,VN,VO,VP,VQ,VR,VS,VT,VU,VV,VW,VX,VY,VZ,Wa,Wb,Wc,Wd,We,Wf,Wg,Wh,Wi,Wj,Wk,Wl,Wm,Wn,Wp,Wq,Wr,Ws,Wt,Wu,Wv,Ww,Wx,Wy,Wz,WA,WC,WD,WE,WG,WH,WL,WM,WN,WO,WU,WV,WW,WX,WY,WZ,Xd,Xe,Xf,Xg,Xh,Xi,Xj,Xk,Xl,Xm,Xn,Xo,Xp,Xq,Xr,Xt,Xu,Xv,Xw,Xx,Xy,Xz,XA,XB,XC,XD,XE,XF,XG,XH,XI,XJ,XK,XM,XN,XO,XP,XQ,XR,XS,XT,XU,XV,XW,XX,XY,XZ,Ya,Yb,Yc,Yd,Ye,Yf,Yg,Yh,Yi,Yj,Yk,Yl,Ym,Yn,Yo,Yp,Yq,Yr,Ys,Yt,Yu,Yv,Yw,Yx,Yy,Yz,YA,YB,YC,YD,YE,YF,YG,YH,YI,YJ,YK,YL,YM,YN,YO,YP,YQ,YR,YS,YT,YU,YV,YW,YX,YY,YZ,Za,Zb,Zc,Zd,Ze,Zf,Zg,Zh,Zi,Zj,Zk,Zl,Zm,Zn,Zo,Zp,Zq,Zr,Zs,Zt,Zu,Zv,Zw,Zx,Zy,Zz,ZA,ZB,ZC,ZD,ZE,ZF,ZG,ZH,ZI,ZJ,ZK,ZL,ZM,ZN,ZO,ZP,ZQ,ZR,ZS,ZT,ZU,ZV,ZW,ZX,ZY,ZZ,Oa,Ob,Oc,Od,Oe,Og,Oh,Oi,Oj,Ol,Om,On,Oo,Oq,Ot,Ou,Ov,Ow,Ox,Oy,Oz,OA,OB,OC,OD,OE,OF,OG,OH,OI,OJ,OK,OL,OM,ON,OO,OP,OQ,OR,OS,OT,OU,OV,OW,OX,OY,OZ,Pb,Pc,Pd,Pe,Pf,Pg,Ph,Pj,Pk,Pm,Pn,Po,Pp,Pq,Pr,Pt,Pu,Pv,Pw,Px,Py],ds⟩ w:=by
 have HJ:=aa hJ;clear hJ
 obtain⟨v,xs,L,hv,pv,hL,pS,x7⟩:∃v xs L,(Instr.lookup 380 (.map (some b')) (ec .u32 b) false).run prog w=.ok v w∧w.ownsRow 0 224 1 v xs.length (xs.map fun x=>Value.int .u32 (x:Nat))∧v.ownBlock.toList=L∧
  ((aT b es=none∧xs=[]∧L=[])∨(∃q,aT b es=some (v,q,xs)∧L=[q]))∧xs.length<1000000:=by
  have x3:=hs.pm.inn (a,b',es) (mget_mem Hh);have pW:=cw (P:=prog) (T:=380) (ec .u32) jB underlying380 x3 xy b false;have W:=fq (fun y:Value×Nat×List Nat=>y.1) b es;simp only[ek,if_false]at pW;cases hb:aT b es with
  |none=>
   rw[hb]at W;refine⟨.slice none 0 0,[],[],?_,iq _ _ _ _,rfl,.inl ⟨rfl,rfl,rfl⟩,by simp⟩;rw[pW];congr 1;exact congrArg (fun o=>Option.getD o (Value.slice none 0 0)) W
  |some z=>
   obtain⟨v,q,xs⟩:=z;rw[hb]at W;have hr:=hs.pm.row (a,b',es) (mget_mem Hh) (b,v,q,xs) (mget_mem hb);refine⟨v,xs,[q],?_,hr.own,by rw[hr.blk];rfl,.inr ⟨q,rfl,rfl⟩,by have:=zu hs.abs Hh hb;omega⟩;rw[pW];congr 1;exact congrArg (fun o=>Option.getD o (Value.slice none 0 0)) W
 obtain⟨i0,hi,w6,w7,w8⟩:=info_parts Tryz.infoU32;have x4:PB∈bN PB M:=by simp[bN]
 have x5:b'∈bN PB M:=aH _ (List.mem_flatMap.2 ⟨_,mget_mem Hh,eo⟩);have O:(∀i∈L,i∈bN PB M)∧PB∉L∧b'∉L:=by
  rcases pS with⟨_,_,rfl⟩|⟨q,hq,rfl⟩
  ·simp
  ·have x6:q∈bN PB M:=aH _ (List.mem_flatMap.2 ⟨_,mget_mem Hh,aH _ (List.mem_map.2 ⟨_,mget_mem hq,rfl⟩)⟩);have hd:=hs.pm.dis;obtain⟨A,B,hM,_⟩:=iQ Hh;rw[hM]at hd;simp only[bN,aU,aY,a8,aA,ah,List.nodup_append,not_or]at hd;have w9:q∈es.map fun y=>y.2.2.1:=List.mem_map.2 ⟨_,mget_mem hq,rfl⟩;refine⟨by simpa using x6,?_,?_⟩
   ·simp only[ag];rintro rfl;exact hd.1.2.1.2 w9
   ·simp only[ag];rintro rfl;exact hd.2.2.1.1.1 w9
 have xT:Upd L w (w.alloc (.cells #[.int .u32 (d:Nat)] 224 (0,0))).drew:=(((ae w).mono (M:=L) (by simp)).alloc _).drew;have D:Upd [] w (w.alloc (.cells #[.int .u32 (d:Nat)] 224 (0,0))).drew:=((ae w).alloc _).drew;have x0:Upd L w w.drew:=((ae w).mono (M:=L) (by simp)).drew;have F:∀j u,[Value.int .u32 (d:Nat)][j]? =some u→(w.alloc (.cells #[.int .u32 (d:Nat)] 224 (0,0))).drew.cell? ((⟨w.heap.size,0,none⟩:Addr).add j)=some u:=by intro j u hu;have he:(w.alloc (.cells #[.int .u32 (d:Nat)] 224 (0,0))).drew.heap[w.heap.size]? =some (.cells #[.int .u32 (d:Nat)] 224 (0,0)):=an _;rw[aO,af he,aK];simpa using hu
 obtain⟨g',cap',w2,pz,U,p0,p1⟩:=dZ (P:=prog) (w.alloc (.cells #[.int .u32 (d:Nat)] 224 (0,0))).drew 372 372 224 i0 (.int .u32 0) 1 4 underlying372 hi w6 w7 w8 rfl (by decide) v xs.length _ (D.row pv (by simp)) ⟨w.heap.size,0,none⟩ 1 1 _ rfl F (by simp[Value.oneCell']) (by unfold maxLen;omega) (by omega) (by omega);rw[hL]at p0;have G:Upd L w w2:=D.mono (M:=L) (by simp)|>.then p0 (fun i h _=>h)
 have pA:w2.heap[b']? =some (bI (ec .u32) (es.map fun y=>(y.1,y.2.1))):=G.blk (hs.pm.inn (a,b',es) (mget_mem Hh)) O.2.2;have p2:=dB (P:=prog) (T:=380) (ec .u32) jB underlying380 pA b (.slice (some ⟨g',0,none⟩) (xs.length+1) cap');have V:mK w2 224 (.slice (some ⟨g',0,none⟩) (xs.length+1) cap') g' (xs++[d]):=⟨by rw[ab,aX];exact U,rfl⟩;have p3:base≤g'∧((aT b es=none∧xs=[]∧L=[]∧w.heap.size≤g')∨(∃v q,aT b es=some (v,q,xs)∧L=[q]∧(g'=q∨w.heap.size≤g'))):=by
  have hA:=D.size;have x8:=hs.bw;rcases pS with⟨h1,h2,h3⟩|⟨q,hq,h3⟩
  ·have:w.heap.size≤g':=by
    rcases p1 with h|h
    ·rw[h]at hL;simp[h3]at hL
    ·omega
   exact⟨by omega,.inl ⟨h1,h2,h3,this⟩⟩
  ·have:g'=q∨w.heap.size≤g':=by
    rcases p1 with h|h
    ·rw[h,h3]at hL;simp at hL;exact .inl hL
    ·exact .inr (by omega)
   refine⟨?_,.inr ⟨v,q,hq,h3,this⟩⟩;rcases this with rfl|h
   ·exact hs.pm.ge _ (O.1 _ (by rw[h3];simp))
   ·omega
 have pK:=hs.add Hh G O p3.1 p3.2 V;have x1:∀w',Upd L w w'→(Instr.lookup 378 (.map (some PB)) (.int .u32 (a:Nat)) false).run prog w'=.ok (.map (some b')) w'∧(Instr.lookup 380 (.map (some b')) (.int .u32 (b:Nat)) false).run prog w'=.ok v w':=fun w' hu=>by
  have h1:=cw (P:=prog) (T:=378) (ec .u32) jB underlying378 (hu.blk hs.pm.o O.2.1) uY a false;have h2:=fq (fun y:Nat×List PE=>Value.map (some y.1)) a M;have h3:(aT a (M.map fun x=>(x.1,Value.map (some x.2.1))))=some (.map (some b')):=by rw[Hh]at h2;exact h2
  rw[h3]at h1;have h4:=cw (P:=prog) (T:=380) (ec .u32) jB underlying380 (hu.blk (hs.pm.inn (a,b',es) (mget_mem Hh)) O.2.2) xy b false;have h5:=cw (P:=prog) (T:=380) (ec .u32) jB underlying380 (hs.pm.inn (a,b',es) (mget_mem Hh)) xy b false;rw[h5]at hv;simp only[ek,if_false,Result.ok.injEq,and_true]at hv;simp only[ek,if_false]at h4;rw[hv]at h4;exact⟨h1,h4⟩
 have p4:=aa x1;have pL:=aa pK;have pR:=aa pz;have x2:=aa p2;have x9:(P:Int)/16=(d:Int):=by omega
 obtain⟨X,hX⟩:∃X,X=xs.length:=⟨_,rfl⟩;rw[←hX]at pR x2 pL;clear pK x1 pz p2 F pv U pS O V p3 p1 hi w6 w7 w8 hs Hh hv hL pA p0 D x4 x5 hP hX;have y0:IntKind.u64.wrap (d:Int)=(d:Int):=by rw[cK];omega
 have y1:IntKind.u32.wrap (d:Int)=(d:Int):=by rw[kh];omega
 conv=>arg 2;whnf
 have p2:(Instr.mapUpdate 380 (.map (some b')) (.int .u32 (b:Nat)) (.slice (some ⟨g',0,none⟩) (X+1) cap')).run prog w2=.ok () _:=x2.o;obtain⟨y2,y3⟩:=p4.o _ x0;obtain⟨y4,y5⟩:=p4.o _ xT;obtain⟨y6,y7⟩:=p4.o _ G;clear x0 xT G
 go_region_held3 (fun _=>True) (trivial)
  ((refine df (by rfl) _ _ _ (by rfl) _ _ _ _ (by rfl) (by rfl) pR.o ?_))
 all_goals exact HJ.o _ _ _ _ _ _ _ _ _ _ _ _ _ _ _ pL.o
end
end Go.Proofs.YtlgefdfflmgocaaGreatDoor
