import Derived.Test.YtlgefdfflmgocaaGreatDoorQ18
set_option linter.all false
set_option maxRecDepth 100000
set_option maxHeartbeats 8000000
namespace Go.Proofs.YtlgefdfflmgocaaGreatDoor
variable{Ub Uc Ud Ue Uf Ug Uh Ui Uj Uk Ul Um Un Uo Up Uq Ur Us Ut Uu Uv Ux Uy Uz UA UB UC UD UE UF UG UH UI UJ UK UN UO UP UQ UR US UT UU UV UW UX UY UZ Va Vb Vc Vd Ve Vf Vg Vh Vi Vj Vk Vl Vm Vn Vo Vp Vq Vr Vt Vu Vv Vw Vx Vy Vz VA VB VD VE VF VG VH VI VJ VK VL VM VN VO VP VQ VR VS VT VU VV VW VX VY VZ Wa Wb Wc Wd We Wf Wg Wh Wi Wj Wk Wl Wm Wn Wp Wq Wr Ws Wt Wu Wv Ww Wx Wy Wz WA WC WD WE WG WH WL WM WN WO WU WV WW WX WY WZ Xd Xe Xf Xg Xh Xi Xj Xk Xl Xm Xn Xo Xp Xq Xr Xt Xu Xv Xw Xx Xy Xz XA XB XC XD XE XF XG XH XI XJ XK XM XN XO XP XQ XR XS XT XU XV XW XX XY XZ Ya Yb Yc Yd Ye Yf Yg Yh Yi Yj Yk Yl Ym Yn Yo Yp Yq Yr Ys Yt Yu Yv Yw Yx Yy Yz YA YB YC YD YE YF YG YH YI YJ YK YL YM YN YO YP YQ YR YS YT YU YV YW YX YY YZ Za Zb Zc Zd Ze Zf Zg Zh Zi Zj Zk Zl Zm Zn Zo Zp Zq Zr Zs Zt Zu Zv Zw Zx Zy Zz ZA ZB ZC ZD ZE ZF ZG ZH ZI ZJ ZK ZL ZM ZN ZO ZP ZQ ZR ZS ZT ZU ZV ZW ZX ZY ZZ Oa Ob Oc Od Oe Og Oh Oi Oj Ol Om On Oo Oq Ot Ou Ov Ow Ox Oy Oz OA OB OC OD OE OF OG OH OI OJ OK OL OM OQ OR OS OT OU OV OW OX OY OZ Pb Pc Pd Pe Pf Pg Ph Pj Pk Pm Pn Po Pp Pq Pr Pt Pu Pv Pw Px Py Ua Uw UL UM ON OO OP:Go.Value}
section
open Go Go.RowKit Xc Go.Proofs.Tryz
attribute [local go_sem ↓] Go.wp_at_zero Go.wp_at_succ
variable {w:World} {k:WK} {r:WR} {s:WS}
theorem xj(s:WS):ptS s [] s.b1 s.b2 s.crc=s:=by simp[ptS,ptF,ptP,poB]
theorem mK.at_{v:Value}{q:Nat}{xs:List Nat}(h:mK w 224 v q xs):nr w v q xs:=(gR.mk h.own h.blk).at_
theorem FM(h:WI w k r s)(n base PB d b' qv V G S g2 N2 G6:Nat)(rr:Option Nat)(M:List PI)(es:List PE)(nm:Bytes)(syms:List Bytes)(vals:List Nat)(px:Nat→List Nat)(Ih:lr w 224 base PB M)(Ib:∀b∈bN PB M,∀i:Nat,(wl k r)[i]?≠some (some b))(Hh:aT d M=some (b',es))
 (G3:gR w (.slice (some ⟨qv,0,none⟩) V G) qv vals)(hqo:∀i:Nat,(wl k r)[i]?≠some (some qv))(hV:V=vals.length)(hV2:V<1000)(hpx:∀b∈vals,∃vv qq,aT b es=some (vv,qq,px b))(hvs:∀b∈vals,b<syms.length)(hsl:syms.length<65536∧∀x∈syms,x.length<1000)
 (hsym:lw w k r S g2 N2 G6 rr (ch syms) 5 syms)(hsn:(ch syms).length≤n)(hsb:(ch syms).length<1000000)(Ig:s.symV=ptr S 0)(hpP:s.pP=ptr k.FP 0)(hpPO:s.pPO=ptr k.FPO 0)(G8:nm.length<1000)
 (hb1:(ptF s.bP (vals.map fun b=>(nm,syms[b]?.getD [],px b))).length<1000000)(hb2:(s.bPO++poB (ptP s.bP (vals.map fun b=>(nm,syms[b]?.getD [],px b)))).length<1000000)(hb3:s.cnt+vals.length<1000000)(hb4:∀b∈vals,(px b).length<10000∧∀y∈px b,y<4294967296)
 {Q:Exit→Act→World→Prop}{ds:List Deferred}
 (hJ:∀(u2 z5 z6 z7 z8 wc wi wk wm wp wq wt wy w4 w5 w6 w7 w8 w9 xT x0 x1 x2 x3 x4 x5 x6 x7 x8 x9 y0 y1 y2 y3 y4 y5:Value) (wx:World),(∃r' b1 b2 c,WI wx k r' (ptS s (vals.map fun b=>(nm,syms[b]?.getD [],px b)) b1 b2 c)∧WT w k r n wx r')→Q .normal ⟨#[ptr k.W 0,Ub,u2,Ud,Ue,Uf,Ug,Uh,Ui,Uj,Uk,Ul,Um,Un,Uo,Up,Uq,Ur,Us,Ut,Uu,Uv,.map (some PB),Ux,Uy,Uz,UA,UB,UC,UD,UE,UF,UG,UH,UI,UJ,UK,.string (str nm),.int .u32 (d:Nat),UN,UO,UP,UQ,z5,z6,z7,z8,UV,UW,UX,UY,UZ,Va,Vb,Vc,Vd,Ve,Vf,Vg,Vh,Vi,Vj,Vk,Vl,Vm,Vn,Vo,Vp,Vq,Vr,Vt,Vu,Vv,Vw,Vx,Vy,Vz,VA,VB,VD,VE,VF,VG,VH,VI,VJ,VK,VL,VM,VN,VO,VP,VQ,VR,VS,VT,VU,VV,VW,VX,VY,VZ,Wa,Wb,Wc,Wd,We,Wf,Wg,Wh,Wi,Wj,Wk,Wl,Wm,Wn,Wp,Wq,Wr,Ws,Wt,Wu,Wv,Ww,Wx,Wy,Wz,WA,WC,WD,WE,WG,WH,WL,WM,WN,WO,WU,WV,WW,WX,WY,WZ,Xd,Xe,Xf,Xg,Xh,Xi,Xj,Xk,Xl,Xm,Xn,Xo,Xp,Xq,Xr,Xt,Xu,Xv,Xw,Xx,Xy,Xz,XA,XB,XC,XD,XE,XF,XG,XH,XI,XJ,XK,XM,XN,XO,XP,XQ,XR,XS,XT,XU,XV,XW,XX,XY,XZ,Ya,Yb,Yc,Yd,Ye,Yf,Yg,Yh,Yi,Yj,Yk,Yl,Ym,Yn,Yo,Yp,Yq,Yr,Ys,Yt,Yu,Yv,Yw,Yx,Yy,Yz,YA,YB,YC,YD,YE,YF,YG,YH,YI,YJ,YK,YL,YM,YN,YO,YP,YQ,YR,YS,YT,YU,YV,YW,YX,YY,YZ,Za,Zb,Zc,Zd,Ze,Zf,Zg,Zh,Zi,Zj,Zk,Zl,Zm,Zn,Zo,Zp,Zq,Zr,Zs,Zt,Zu,Zv,Zw,Zx,Zy,Zz,ZA,ZB,ZC,ZD,ZE,ZF,ZG,ZH,ZI,ZJ,ZK,ZL,ZM,ZN,ZO,ZP,ZQ,ZR,ZS,ZT,ZU,ZV,ZW,ZX,ZY,ZZ,Oa,Ob,Oc,Od,Oe,Og,Oh,Oi,Oj,Ol,Om,On,Oo,Oq,Ot,Ou,Ov,Ow,Ox,Oy,Oz,OA,OB,OC,OD,OE,OF,OG,OH,OI,OJ,OK,OL,OM,.slice (some ⟨qv,0,none⟩) V G,.int .i64 (V:Nat),wc,wi,wk,wm,wp,wq,wt,wy,w4,w5,w6,w7,w8,w9,xT,x0,x1,x2,x3,x4,x5,x6,x7,x8,x9,y0,y1,y2,y3,y4,y5,Py],ds⟩ wx):
 Code.wp prog (oU 18) Q ⟨#[ptr k.W 0,Ub,Uc,Ud,Ue,Uf,Ug,Uh,Ui,Uj,Uk,Ul,Um,Un,Uo,Up,Uq,Ur,Us,Ut,Uu,Uv,.map (some PB),Ux,Uy,Uz,UA,UB,UC,UD,UE,UF,UG,UH,UI,UJ,UK,.string (str nm),.int .u32 (d:Nat),UN,UO,UP,UQ,UR,US,UT,UU,UV,UW,UX,UY,UZ,Va,Vb,Vc,Vd,Ve,Vf,Vg,Vh,Vi,Vj,Vk,Vl,Vm,Vn,Vo,Vp,Vq,Vr,Vt,Vu,Vv,Vw,Vx,Vy,Vz,VA,VB,VD,VE,VF,VG,VH,VI,VJ,VK,VL,VM,VN,VO,VP,VQ,VR,VS,VT,VU,VV,VW,VX,VY,VZ,Wa,Wb,Wc,Wd,We,Wf,Wg,Wh,Wi,Wj,Wk,Wl,Wm,Wn,Wp,Wq,Wr,Ws,Wt,Wu,Wv,Ww,Wx,Wy,Wz,WA,WC,WD,WE,WG,WH,WL,WM,WN,WO,WU,WV,WW,WX,WY,WZ,Xd,Xe,Xf,Xg,Xh,Xi,Xj,Xk,Xl,Xm,Xn,Xo,Xp,Xq,Xr,Xt,Xu,Xv,Xw,Xx,Xy,Xz,XA,XB,XC,XD,XE,XF,XG,XH,XI,XJ,XK,XM,XN,XO,XP,XQ,XR,XS,XT,XU,XV,XW,XX,XY,XZ,Ya,Yb,Yc,Yd,Ye,Yf,Yg,Yh,Yi,Yj,Yk,Yl,Ym,Yn,Yo,Yp,Yq,Yr,Ys,Yt,Yu,Yv,Yw,Yx,Yy,Yz,YA,YB,YC,YD,YE,YF,YG,YH,YI,YJ,YK,YL,YM,YN,YO,YP,YQ,YR,YS,YT,YU,YV,YW,YX,YY,YZ,Za,Zb,Zc,Zd,Ze,Zf,Zg,Zh,Zi,Zj,Zk,Zl,Zm,Zn,Zo,Zp,Zq,Zr,Zs,Zt,Zu,Zv,Zw,Zx,Zy,Zz,ZA,ZB,ZC,ZD,ZE,ZF,ZG,ZH,ZI,ZJ,ZK,ZL,ZM,ZN,ZO,ZP,ZQ,ZR,ZS,ZT,ZU,ZV,ZW,ZX,ZY,ZZ,Oa,Ob,Oc,Od,Oe,Og,Oh,Oi,Oj,Ol,Om,On,Oo,Oq,Ot,Ou,Ov,Ow,Ox,Oy,Oz,OA,OB,OC,OD,OE,OF,OG,OH,OI,OJ,OK,OL,OM,.slice (some ⟨qv,0,none⟩) V G,.int .i64 (V:Nat),.int .i64 0,OQ,OR,OS,OT,OU,OV,OW,OX,OY,OZ,Pb,Pc,Pd,Pe,Pf,Pg,Ph,Pj,Pk,Pm,Pn,Po,Pp,Pq,Pr,Pt,Pu,Pv,Pw,Px,Py],ds⟩ w:=by
 have a2:=aa h;have O:=aa (And.intro Ih (And.intro Ib (And.intro Hh (And.intro hpx (And.intro hvs hqo)))));have HR:=aa G3;have HV:=aa hV;have z:=aa (And.intro hsym (And.intro hsn (And.intro hsb (And.intro hsl Ig))));have Hp:=aa (And.intro hpP (And.intro hpPO G8));have HB:=aa (And.intro hb1 (And.intro hb2 (And.intro hb3 hb4)));have HJ:=aa hJ;clear h Ih Ib Hh G3 hqo hV hpx hvs hsl hsym hsn hsb Ig hpP hpPO G8 hb1 hb2 hb3 hb4 hJ;conv=>arg 2;whnf
 go_wp2_with fail;go_loopw [330] (fun cv wr=>∃j:Nat,j≤V∧cv=.int .i64 j∧∃r' b1 b2 c,WI wr k r' (ptS s ((vals.take j).map fun b=>(nm,syms[b]?.getD [],px b)) b1 b2 c)∧WT w k r n wr r') (fun cv _=>V-(intOf cv).toNat)
 case atStart=>exact⟨0,ay _,rfl,r,s.b1,s.b2,s.crc,by rw[fd,cQ,xj];exact a2.o,gZ⟩
 case round=>
  obtain⟨j,hj,rfl,r1,b1,b2,c,hI,hT⟩:=hrel;have U:=aa hI;have W:=aa hT;clear hI hT;by_cases D2:j<V
  ·have z9:j<vals.length:=by have:=HV.o;omega
   obtain⟨b,hb⟩:∃b,vals[j]? =some b:=⟨_,az z9⟩;have oS:=bY hb;obtain⟨vv,qq,y6⟩:=O.o.2.2.2.1 b oS;have oX:=O.o.2.2.2.2.1 b oS;have oo:=O.o.1.upd W.o.upd (fun i hi hm=>fw (O.o.2.1 i hm) hi);have ad:=HR.o.upd W.o.upd (fw O.o.2.2.2.2.2);have A1:wr.cell? ⟨qv,j,none⟩=some (.int .u32 (b:Nat)):=by have:=ad.own.cells (g:=qv) rfl j (.int .u32 (b:Nat)) (by rw[cx,hb];rfl);rwa [aO,aK]at this
   have A:=z.o.1.next a2.o W.o z.o.2.1;have UJ:wr.cell? ⟨k.W,35,none⟩=some (ptr S 0):=by rw[U.o.cell 35 _ rfl];exact congrArg some z.o.2.2.2.2
   have Hb:=aa hb;have o0:=aa y6;have y7:=aa oo;have Bf:=aa A;obtain⟨so,F,y8,y9,_⟩:=A.tab.blk;have zl:=aa (And.intro y8 y9);have s0:=af F 0;have s1:=af F 1;have s2:=af F 2;have s3:=af F 3;have s4:=af F 4;clear hb y6 oo ad A F y8 y9 oS;have a0:syms[b]?.getD []=syms[b]:=by rw[az oX];rfl
   have a3:=yY g2 b (.slice (some ⟨g2,0,none⟩) N2 G6) so (ch syms) dE [] syms wr zl.o.1 (by rw[bk];rfl) (by have:=z.o.2.2.1;omega) z.o.2.2.2.1.1 (fun x hx=>by have:=z.o.2.2.2.1.2 x hx;omega) (by rw[bq];exact zl.o.2) oX;rw[bq,show((5:Nat):Int)=5 from rfl]at a3;obtain⟨val,o1⟩:∃val,val=syms[b]:=⟨_,rfl⟩;rw[←o1]at a3 a0;have zo:=aa a0;have Bp:val.length<1000:=by rw[o1];exact z.o.2.2.2.1.2 _ (aq oX)
   have Bt:=aa a3;clear a3 a0 o1;go_wp2_with fail;with_reducible refine Bt.o.mono ?_
   rintro e w2 ⟨rfl,hu⟩;have BX:=aa (U.o.new hu);have zv:=aa (ak a2.o W.o (dN U.o hu));have D:=y7.o.upd hu (by simp);have h1:=cw (P:=prog) (T:=378) (ec .u32) jB underlying378 D.o uY d false;have h2:=fq (fun y:Nat×List PE=>Value.map (some y.1)) d M;have h3:(aT d (M.map fun x=>(x.1,Value.map (some x.2.1))))=some (.map (some b')):=by rw[O.o.2.2.1]at h2;exact h2
   rw[h3]at h1;simp only[ek,if_false,dq]at h1;have h4:=cw (P:=prog) (T:=380) (ec .u32) jB underlying380 (D.inn (d,b',es) (mget_mem O.o.2.2.1)) xy b false;have h5:=fq (fun y:Value×Nat×List Nat=>y.1) b es;have h6:aT b (es.map fun y=>(y.1,y.2.1))=some vv:=by rw[o0.o]at h5;exact h5
   rw[h6]at h4;simp only[ek,if_false,dq]at h4;have a1:mK w2 224 vv qq (px b):=(D.row (d,b',es) (mget_mem O.o.2.2.1) (b,vv,qq,px b) (mget_mem o0.o));have o2:qq∈bN PB M:=aH _ (List.mem_flatMap.2 ⟨_,mget_mem O.o.2.2.1,aH _ (List.mem_map.2 ⟨_,mget_mem o0.o,rfl⟩)⟩);have oq:qq<w.heap.size:=O.o.1.lt qq o2;have ov:=zv.o.o oq (O.o.2.1 qq o2);have H1:=aa h1;have H4:=aa h4;obtain⟨D1,B0⟩:=a1.shape;have z0:(vals.take (j+1)).map (fun b=>(nm,syms[b]?.getD [],px b))=(vals.take j).map (fun b=>(nm,syms[b]?.getD [],px b))++[(nm,val,px b)]:=by rw[jQ,Hb.o,aX,←zo.o];rfl
   have htot:vals.map (fun b=>(nm,syms[b]?.getD [],px b))=(vals.take j).map (fun b=>(nm,syms[b]?.getD [],px b))++(vals.drop j).map (fun b=>(nm,syms[b]?.getD [],px b)):=by rw[←aX,aI]
   have hb1:=HB.o.1;have hb2:=HB.o.2.1;have hb3:=HB.o.2.2.1;rw[htot]at hb1 hb2;rw[jF]at hb1;have B1:=ot ((vals.drop j).map fun b=>(nm,syms[b]?.getD [],px b)) (ptF s.bP ((vals.take j).map fun b=>(nm,syms[b]?.getD [],px b)));rw[jG,poB,aU]at hb2;have B2:((vals.take j).map fun b=>(nm,syms[b]?.getD [],px b)).length≤vals.length:=by rw[aB];have:=cH j vals;rw[aZ];omega
   have hb4:=HB.o.2.2.2 b (bY Hb.o)
   have o4:=nU (n:=n) qq vv (px b) (str nm) (str val) BX.o (mK.at_ a1) ov hb4.2 hb4.1 Hp.o.1 Hp.o.2.1 (by rw[fx];exact Hp.o.2.2) (by rw[fx];exact Bp)
    (by simp only[ptS];omega) (by simp only[ptS,ab,poB]at hb2⊢;omega) (by simp only[ptS];omega)
   rw[dG,dG]at o4;have B4:=aa o4;have B9:=aa z0;clear o4 z0 htot hb1 hb2 hb3 hb4 B1 B2 h1 h2 h3 h4 h5 h6 a1 D hu ov oq o2 B0
   go_wp2_with (first
    |(at_lookup;refine dz rfl _ _ _ _ rfl _ _ _ _ rfl rfl H1.o ?_)
    |(at_lookup;refine dz rfl _ _ _ _ rfl _ _ _ _ rfl rfl H4.o ?_))
   with_reducible refine B4.o.mono ?_
   rintro e w3 ⟨rfl,Cc,C1,Ud,r3,hI,hT⟩;have C2:=aa (hI.cast (AS s _ _ _ _ _ _ _ nm val (px b)));have D0:=aa (ak a2.o zv.o hT);clear hI hT;go_wp2_with fail;refine⟨⟨j+1,by omega,by go_num,r3,Cc,C1,Ud,?_,D0.o⟩,by simp only[intOf];omega⟩;rw[B9.o];exact C2.o
  ·obtain rfl:j=V:=by omega
   have he:vals.take j=vals:=by rw[HV.o,aS]
   rw[he]at U;clear he;go_wp2_with fail;exact HJ.o _ _ _ _ _ _ _ _ _ _ _ _ _ _ _ _ _ _ _ _ _ _ _ _ _ _ _ _ _ _ _ _ _ _ _ _ _ ⟨r1,b1,b2,c,U.o,W.o⟩
end
section
open Go Go.RowKit Xc Go.Proofs.Tryz
attribute [local go_sem ↓] Go.wp_at_zero Go.wp_at_succ
variable {w:World} {k:WK} {r:WR} {s:WS}
theorem FL(A G R bm:Nat)(l:List (Nat×Value))(hit:MIt (ec .u32) w bm R l [])(G3:gR w (.slice (some ⟨A,0,none⟩) 0 G) A [])(hqR:A≠R)(hbq:bm≠A)(hl:l.length<1000)
 {Q:Exit→Act→World→Prop}{ds:List Deferred}
 (hJ:∀(v v3 vb vc vi vj vl vm vn vo:Value) (wx:World),(∃d ks,gR wx v d ks∧ks.Perm (l.map (·.1))∧(d=A∨w.heap.size≤d)∧Upd [R,A] w wx)→Q .normal ⟨#[Ua,Ub,Uc,Ud,Ue,Uf,Ug,Uh,Ui,Uj,Uk,Ul,Um,Un,Uo,Up,Uq,Ur,Us,Ut,Uu,Uv,Uw,Ux,Uy,Uz,UA,UB,UC,UD,UE,UF,UG,UH,UI,UJ,UK,UL,UM,UN,v,v3,UQ,UR,US,UT,UU,UV,UW,UX,UY,UZ,Va,Vb,Vc,Vd,Ve,Vf,Vg,Vh,Vi,Vj,Vk,Vl,Vm,Vn,Vo,Vp,Vq,Vr,Vt,Vu,Vv,Vw,Vx,Vy,Vz,VA,VB,VD,VE,VF,VG,VH,VI,VJ,VK,VL,VM,VN,VO,VP,VQ,VR,VS,VT,VU,VV,VW,VX,VY,VZ,Wa,Wb,Wc,Wd,We,Wf,Wg,Wh,Wi,Wj,Wk,Wl,Wm,Wn,Wp,Wq,Wr,Ws,Wt,Wu,Wv,Ww,Wx,Wy,Wz,WA,WC,WD,WE,WG,WH,WL,WM,WN,WO,WU,WV,WW,WX,WY,WZ,Xd,Xe,Xf,Xg,Xh,Xi,Xj,Xk,Xl,Xm,Xn,Xo,Xp,Xq,Xr,Xt,Xu,Xv,Xw,Xx,Xy,Xz,XA,XB,XC,XD,XE,XF,XG,XH,XI,XJ,XK,XM,XN,XO,XP,XQ,XR,XS,XT,XU,XV,XW,XX,XY,XZ,Ya,Yb,Yc,Yd,Ye,Yf,Yg,Yh,Yi,Yj,Yk,Yl,Ym,Yn,Yo,Yp,Yq,Yr,Ys,Yt,Yu,Yv,Yw,Yx,Yy,Yz,YA,YB,YC,YD,YE,YF,YG,YH,YI,YJ,YK,YL,YM,YN,YO,YP,YQ,YR,YS,YT,YU,YV,YW,YX,YY,YZ,Za,Zb,Zc,Zd,Ze,Zf,Zg,Zh,Zi,Zj,Zk,Zl,Zm,Zn,Zo,Zp,Zq,Zr,Zs,Zt,Zu,Zv,Zw,Zx,Zy,Zz,ZA,ZB,ZC,ZD,ZE,ZF,ZG,ZH,ZI,ZJ,ZK,ZL,ZM,ZN,ZO,ZP,ZQ,ZR,ZS,ZT,ZU,ZV,ZW,ZX,ZY,ZZ,Oa,Ob,Oc,Od,Oe,Og,Oh,Oi,Oj,Ol,Om,On,Oo,Oq,Ot,Ou,Ov,Ow,Ox,Oy,Oz,OA,OB,.pointer (some ⟨R,0,none⟩),vb,vc,vi,vj,vl,vm,vn,vo,OL,OM,ON,OO,OP,OQ,OR,OS,OT,OU,OV,OW,OX,OY,OZ,Pb,Pc,Pd,Pe,Pf,Pg,Ph,Pj,Pk,Pm,Pn,Po,Pp,Pq,Pr,Pt,Pu,Pv,Pw,Px,Py],ds⟩ wx):
 Code.wp prog (oU 16) Q ⟨#[Ua,Ub,Uc,Ud,Ue,Uf,Ug,Uh,Ui,Uj,Uk,Ul,Um,Un,Uo,Up,Uq,Ur,Us,Ut,Uu,Uv,Uw,Ux,Uy,Uz,UA,UB,UC,UD,UE,UF,UG,UH,UI,UJ,UK,UL,UM,UN,.slice (some ⟨A,0,none⟩) 0 G,UP,UQ,UR,US,UT,UU,UV,UW,UX,UY,UZ,Va,Vb,Vc,Vd,Ve,Vf,Vg,Vh,Vi,Vj,Vk,Vl,Vm,Vn,Vo,Vp,Vq,Vr,Vt,Vu,Vv,Vw,Vx,Vy,Vz,VA,VB,VD,VE,VF,VG,VH,VI,VJ,VK,VL,VM,VN,VO,VP,VQ,VR,VS,VT,VU,VV,VW,VX,VY,VZ,Wa,Wb,Wc,Wd,We,Wf,Wg,Wh,Wi,Wj,Wk,Wl,Wm,Wn,Wp,Wq,Wr,Ws,Wt,Wu,Wv,Ww,Wx,Wy,Wz,WA,WC,WD,WE,WG,WH,WL,WM,WN,WO,WU,WV,WW,WX,WY,WZ,Xd,Xe,Xf,Xg,Xh,Xi,Xj,Xk,Xl,Xm,Xn,Xo,Xp,Xq,Xr,Xt,Xu,Xv,Xw,Xx,Xy,Xz,XA,XB,XC,XD,XE,XF,XG,XH,XI,XJ,XK,XM,XN,XO,XP,XQ,XR,XS,XT,XU,XV,XW,XX,XY,XZ,Ya,Yb,Yc,Yd,Ye,Yf,Yg,Yh,Yi,Yj,Yk,Yl,Ym,Yn,Yo,Yp,Yq,Yr,Ys,Yt,Yu,Yv,Yw,Yx,Yy,Yz,YA,YB,YC,YD,YE,YF,YG,YH,YI,YJ,YK,YL,YM,YN,YO,YP,YQ,YR,YS,YT,YU,YV,YW,YX,YY,YZ,Za,Zb,Zc,Zd,Ze,Zf,Zg,Zh,Zi,Zj,Zk,Zl,Zm,Zn,Zo,Zp,Zq,Zr,Zs,Zt,Zu,Zv,Zw,Zx,Zy,Zz,ZA,ZB,ZC,ZD,ZE,ZF,ZG,ZH,ZI,ZJ,ZK,ZL,ZM,ZN,ZO,ZP,ZQ,ZR,ZS,ZT,ZU,ZV,ZW,ZX,ZY,ZZ,Oa,Ob,Oc,Od,Oe,Og,Oh,Oi,Oj,Ol,Om,On,Oo,Oq,Ot,Ou,Ov,Ow,Ox,Oy,Oz,OA,OB,.pointer (some ⟨R,0,none⟩),OD,OE,OF,OG,OH,OI,OJ,OK,OL,OM,ON,OO,OP,OQ,OR,OS,OT,OU,OV,OW,OX,OY,OZ,Pb,Pc,Pd,Pe,Pf,Pg,Ph,Pj,Pk,Pm,Pn,Po,Pp,Pq,Pr,Pt,Pu,Pv,Pw,Px,Py],ds⟩ w:=by
 have v5:=aa hit;have v9:=aa G3;have HJ:=aa hJ;have Hn:=aa (And.intro hqR hbq);clear hit G3 hJ hqR hbq;conv=>arg 2;whnf
 go_wp2_with fail;go_loopw [40] (fun v wr=>∃done d,MIt (ec .u32) wr bm R l done∧gR wr v d (jg l done)∧(d=A∨w.heap.size≤d)∧d≠R∧bm≠d∧Upd [R,A] w wr) (fun _ wr=>g6 wr R l.length)
 case atStart=>exact⟨[],A,v5.o,v9.o,.inl rfl,Hn.o.1,Hn.o.2,(ae _).mono (by simp)⟩
 case round=>
  obtain⟨done,q,hI,hV,hq,hqR,hbq,hU⟩:=hrel;have HI:=aa hI;have HV:=aa hV;have Hq:=aa (And.intro hq (And.intro hqR hbq));have HU:=aa hU;rcases hI.next (P:=prog) 0 with⟨hd,z⟩|⟨j,a,v0,w3,hj,wa,vs,z,vt,G4,pg⟩
  ·have D:=aa z;have Hd:=aa hd;clear hI hV hq hqR hbq hU z hd;go_wp2_with (at_next;refine dQ rfl _ rfl _ _ _ rfl D.o ?_);exact HJ.o _ _ _ _ _ _ _ _ _ _ _ ⟨q,jg l done,HV.o,HI.o.all Hd.o,Hq.o.1,HU.o⟩
  ·have D:=aa z;have pl:=hV.upd G4 (by simpa using hqR);have wc:=hI.keysLen;have vv:(jg l done).length<1000000:=by omega
   have po:=aa vt;have wt:=aa pl;have vx:=aa (hU.then G4 (by intro i hi _;simp only[ag]at hi;simp[hi]));have wi:=aa (oG (l:=l) (done:=done) hj);have vF:Upd [] w3 (w3.alloc (.cells #[.int .u32 (a:Nat)] 224 (0,0))):=(ae _).alloc _;obtain⟨g',cap',w4,pr,ps,pc,wk⟩:=ta pl vF a w3.heap.size (an _) vv;have wm:=HI;have wy:=aa pg;have wq:(Instr.entry (.pointer (some ⟨R,0,none⟩))).run prog w3=.ok (.tuple #[.int .u32 (a:Nat),v0]) w3:=pg;have wp:=aa vs;clear hI hV hq hqR hbq hU z vt G4 pl wc hj wa HI HV HU vF vv pg vs;go_wp2_with (first|(at_next;refine dQ rfl _ rfl _ _ _ rfl D.o ?_)|(at_builtin;refine bc rfl _ _ _ rfl _ _ _ _ rfl rfl pr.o ?_));have w5:=vx.o.size;have w6:R<w3.heap.size:=by obtain⟨c,_,hr⟩:=po.o.it;exact lt_of_block hr
   have hb3:bm<w3.heap.size:=lt_of_block po.o.map;have F:=Hq.o;have hg:(g'=A∨w.heap.size≤g')∧g'≠R∧bm≠g':=by
    rcases wk.o with rfl|h
    ·exact F
    ·exact⟨.inr (by omega),by omega,by omega⟩
   have vP:=po.o.upd pc.o (by simpa using F.2.2) (by simpa using aF F.2.1);refine⟨⟨done++[j],g',vP,?_,hg.1,hg.2.1,hg.2.2,vx.o.then pc.o (by intro i hi hl;simp only[ag]at hi;rcases F.1 with h|h;(rw[hi,h];simp);omega)⟩,?_⟩
   ·rw[wi.o];exact ps.o
   ·rw[vP.left,(show g6 wr R l.length=l.length-done.length from wm.o.left _),ab];have:=wp.o;simp only[aj,ar];omega
end
section
open Go Go.RowKit Xc Go.Proofs.Tryz
attribute [local go_sem ↓] Go.wp_at_zero Go.wp_at_succ
variable {w:World} {k:WK} {r:WR} {s:WS}
theorem qk(s:WS)(L K:PtL)(b1 b2 d z:Bytes)(c A:Nat):ptS (ptS s L b1 b2 c) K d z A=ptS s (L++K) d z A:=by simp only[ptS,jF,jG,ab,poB,aU,al,kH]
theorem wu(B:Nat)(T:List (Nat×Nat×Nat))(syms:List Bytes)(id:Bytes→Nat)(bs:List Bytes)(j:Nat){x:Bytes}(h:bs[j]? =some x):dI B T syms id (bs.take (j+1))=dI B T syms id (bs.take j)++kS B T syms x (id x):=by rw[jQ,h,dI,Option.toList,aU];simp[dI]
theorem xk(s:WS)(A C D:PtL)(b1 b2:Bytes)(c:Nat):(ptF (ptS s A b1 b2 c).bP C).length≤(ptF s.bP (A++C++D)).length∧((ptS s A b1 b2 c).bPO++poB (ptP (ptS s A b1 b2 c).bP C)).length≤(s.bPO++poB (ptP s.bP (A++C++D))).length∧(ptS s A b1 b2 c).cnt+C.length≤s.cnt+(A++C++D).length:=by
 refine⟨?_,?_,?_⟩
 ·rw[jF,jF];exact ot _ _
 ·rw[jG,jG,poB_append,poB_append];simp only[ptS,ab];omega
 ·simp only[ptS,ab];omega
theorem uE(B:Nat)(T:List (Nat×Nat×Nat))(syms:List Bytes)(id:Bytes→Nat)(bs:List Bytes)(j:Nat):dI B T syms id bs=dI B T syms id (bs.take j)++dI B T syms id (bs.drop j):=by unfold dI;rw[←aU,aI]
theorem tV{M:List PI}{T:List (Nat×Nat×Nat)}{Nn:List Nat}{B a:Nat}(If:nY (nu M) (eh Nn T))(F:a∈Nn)(hT:∃p b,(p,a,b)∈T)(hTs:∀t∈T,t.2.2<B):
 ∃b' es,aT a M=some (b',es)∧(es.length≤(dK B T a).length)∧(∀G ys:List Nat,G.Perm (es.map (·.1))→ys.Perm G→ys.Pairwise (· ≤·)→ys=dK B T a)∧∀b∈dK B T a,∃O U,aT b es=some (O,U,ew T a b):=by
 have hP:=If a;obtain⟨p,b,V⟩:=hT;have hmem:∀b,b∈(fK (nu M) a).map (·.1)↔∃p,(p,a,b)∈T:=fun b=>by
  rw[hP.mem b];constructor
  ·rintro⟨q,hq⟩;exact⟨q,(qg F).1 hq⟩
  ·rintro⟨q,hq⟩;exact⟨q,(qg F).2 hq⟩
 have hb:=(hmem b).2 ⟨p,V⟩;cases hg:aT a M with
 |none=>rw[fK,lx,hg]at hb;cases hb
 |some z=>
  obtain⟨b',es⟩:=z;have hI:fK (nu M) a=oW es:=by rw[fK,lx,hg];rfl
  rw[hI]at hP hmem;have D:(oW es).map (·.1)=es.map (·.1):=by rw[oW,bT];rfl
  rw[D]at hmem;have A:PIn (oW es) a T:=⟨hP.nodup,fun b=>by rw[D];exact hmem b,fun b=>by rw[hP.val b];exact yA F b⟩;refine⟨b',es,rfl,?_,?_,?_⟩
  ·have h1:(es.map (·.1)).length≤(dK B T a).length:=iR (by rw[←D];exact hP.nodup) (fun x W=>(mU hTs).2 ((hmem x).1 W));rwa [aB]at h1
  ·intro G ys h1 d h3;exact ue A hTs (by rw[D];exact h1) d h3
  ·intro b hb;have h1:=(hmem b).2 ((mU hTs).1 hb);have d:=A.val b;rw[pC]at d;cases hbe:aT b es with
   |none=>exact absurd h1 (oi.1 hbe)
   |some y=>
    obtain⟨O,U,xs⟩:=y;rw[hbe]at d;simp only[gh,dq]at d;exact⟨O,U,by rw[d];rfl⟩
theorem FK(h:WI w k r s)(n base PB qb m capb S g2 N2 G6:Nat)(rr:Option Nat)(M:List PI)(T:List (Nat×Nat×Nat))(Nn:List Nat)(ids:List (ByteArray×Nat))(bs syms:List Bytes)(Ih:lr w 224 base PB M)(If:nY (nu M) (eh Nn T))(Ib:∀b∈bN PB M,∀i:Nat,(wl k r)[i]?≠some (some b))
 (G3:w.ownsRow 0 9 1 (.slice (some ⟨qb,0,none⟩) m capb) m (bs.map fun x=>Value.string (str x)))(hqo:∀i:Nat,(wl k r)[i]?≠some (some qb))(hm:m=bs.length)(hm2:m<1000)(hch:s.cache=eW .u32 ids)(hid:∀x∈bs,∃a,aT (str x) ids=some a∧a∈Nn∧∃p b,(p,a,b)∈T)(G9:∀x∈bs,x.length<1000)
 (hv12:∀a,(dK syms.length T a).length≤12)(hTs:∀t∈T,t.2.2<syms.length)(hsl:syms.length<65536∧∀x∈syms,x.length<1000)
 (hsym:lw w k r S g2 N2 G6 rr (ch syms) 5 syms)(hsn:(ch syms).length≤n)(hsb:(ch syms).length<1000000)(Ig:s.symV=ptr S 0)(hpP:s.pP=ptr k.FP 0)(hpPO:s.pPO=ptr k.FPO 0)
 (hb1:(ptF s.bP (dI syms.length T syms (cj ids) bs)).length<1000000)(hb2:(s.bPO++poB (ptP s.bP (dI syms.length T syms (cj ids) bs))).length<1000000)(hb3:s.cnt+(dI syms.length T syms (cj ids) bs).length<1000000)(hb4:∀x∈dI syms.length T syms (cj ids) bs,x.2.2.length<10000∧∀y∈x.2.2,y<4294967296)
 {Q:Exit→Act→World→Prop}{ds:List Deferred}
 (hJ:∀(u2 Iu Iv Iw Ix Iy Iz IA IB IC wp wq wt wy w7 w8 w9 xT x9 zl zo zv z0 z1 z2 z3 z4 z5 z6 z7 z8 z9 A1 Bf Bp Bt BX B0 B1 B2 B4 B9 Cc C1 C2 D0 D1 D2 E1 Fl FP F1 G2 Ha Hb Hc Hd He Hg Hi Hj Hk Hl Hm Hn Ho Hq Hs Ht Hu Hv Hy Hz HC HD HE HF HG HH:Value) (wx:World),(∃r' b1 b2 c,WI wx k r' (ptS s (dI syms.length T syms (cj ids) bs) b1 b2 c)∧WT w k r n wx r')→Q .normal ⟨#[ptr k.W 0,Ub,u2,Ud,Ue,Uf,Ug,Uh,Ui,Uj,Uk,Ul,Um,Un,Uo,Up,Uq,Ur,Us,Ut,Uu,Uv,.map (some PB),Ux,Uy,Uz,UA,UB,UC,UD,UE,UF,UG,UH,UI,UJ,UK,Iu,Iv,Iw,Ix,Iy,UQ,Iz,IA,IB,IC,UV,UW,UX,UY,UZ,Va,Vb,Vc,Vd,Ve,Vf,Vg,Vh,Vi,Vj,Vk,Vl,Vm,Vn,Vo,Vp,Vq,Vr,Vt,Vu,Vv,Vw,Vx,Vy,Vz,VA,VB,VD,VE,VF,VG,VH,VI,VJ,VK,VL,VM,VN,VO,VP,VQ,VR,VS,VT,VU,VV,VW,VX,VY,VZ,Wa,Wb,Wc,Wd,We,Wf,Wg,Wh,Wi,Wj,Wk,Wl,Wm,Wn,Wp,Wq,Wr,Ws,Wt,Wu,Wv,Ww,Wx,Wy,Wz,WA,WC,WD,WE,WG,WH,WL,WM,WN,WO,WU,WV,WW,WX,WY,WZ,Xd,Xe,Xf,Xg,Xh,Xi,Xj,Xk,Xl,Xm,Xn,Xo,Xp,Xq,Xr,Xt,Xu,Xv,Xw,Xx,Xy,Xz,XA,XB,XC,XD,XE,XF,XG,XH,XI,XJ,XK,XM,XN,XO,XP,XQ,XR,XS,XT,XU,XV,XW,XX,XY,XZ,Ya,Yb,Yc,Yd,Ye,Yf,Yg,Yh,Yi,Yj,Yk,Yl,Ym,Yn,Yo,Yp,Yq,Yr,Ys,Yt,Yu,Yv,Yw,Yx,Yy,Yz,YA,YB,YC,YD,YE,YF,YG,YH,YI,YJ,YK,YL,YM,YN,YO,YP,YQ,YR,YS,YT,YU,YV,YW,YX,YY,YZ,Za,Zb,Zc,Zd,Ze,Zf,Zg,Zh,Zi,Zj,Zk,Zl,Zm,Zn,Zo,Zp,Zq,Zr,Zs,Zt,Zu,Zv,Zw,Zx,Zy,Zz,ZA,ZB,ZC,ZD,ZE,ZF,ZG,ZH,ZI,ZJ,ZK,ZL,ZM,ZN,ZO,ZP,ZQ,ZR,ZS,ZT,ZU,ZV,ZW,.slice (some ⟨qb,0,none⟩) m capb,.int .i64 (m:Nat),wp,wq,wt,wy,w7,w8,w9,xT,x9,zl,zo,zv,z0,z1,z2,z3,z4,z5,z6,z7,z8,z9,A1,Bf,Bp,Bt,BX,B0,B1,B2,B4,B9,Cc,C1,C2,D0,D1,D2,E1,Fl,FP,F1,G2,Ha,Hb,Hc,Hd,He,Hg,Hi,Hj,Hk,Hl,Hm,Hn,Ho,Hq,Hs,Ht,Hu,Hv,Hy,Hz,HC,HD,HE,HF,HG,HH],ds⟩ wx):
 Code.wp prog (oU 14) Q ⟨#[ptr k.W 0,Ub,Uc,Ud,Ue,Uf,Ug,Uh,Ui,Uj,Uk,Ul,Um,Un,Uo,Up,Uq,Ur,Us,Ut,Uu,Uv,.map (some PB),Ux,Uy,Uz,UA,UB,UC,UD,UE,UF,UG,UH,UI,UJ,UK,UL,UM,UN,UO,UP,UQ,UR,US,UT,UU,UV,UW,UX,UY,UZ,Va,Vb,Vc,Vd,Ve,Vf,Vg,Vh,Vi,Vj,Vk,Vl,Vm,Vn,Vo,Vp,Vq,Vr,Vt,Vu,Vv,Vw,Vx,Vy,Vz,VA,VB,VD,VE,VF,VG,VH,VI,VJ,VK,VL,VM,VN,VO,VP,VQ,VR,VS,VT,VU,VV,VW,VX,VY,VZ,Wa,Wb,Wc,Wd,We,Wf,Wg,Wh,Wi,Wj,Wk,Wl,Wm,Wn,Wp,Wq,Wr,Ws,Wt,Wu,Wv,Ww,Wx,Wy,Wz,WA,WC,WD,WE,WG,WH,WL,WM,WN,WO,WU,WV,WW,WX,WY,WZ,Xd,Xe,Xf,Xg,Xh,Xi,Xj,Xk,Xl,Xm,Xn,Xo,Xp,Xq,Xr,Xt,Xu,Xv,Xw,Xx,Xy,Xz,XA,XB,XC,XD,XE,XF,XG,XH,XI,XJ,XK,XM,XN,XO,XP,XQ,XR,XS,XT,XU,XV,XW,XX,XY,XZ,Ya,Yb,Yc,Yd,Ye,Yf,Yg,Yh,Yi,Yj,Yk,Yl,Ym,Yn,Yo,Yp,Yq,Yr,Ys,Yt,Yu,Yv,Yw,Yx,Yy,Yz,YA,YB,YC,YD,YE,YF,YG,YH,YI,YJ,YK,YL,YM,YN,YO,YP,YQ,YR,YS,YT,YU,YV,YW,YX,YY,YZ,Za,Zb,Zc,Zd,Ze,Zf,Zg,Zh,Zi,Zj,Zk,Zl,Zm,Zn,Zo,Zp,Zq,Zr,Zs,Zt,Zu,Zv,Zw,Zx,Zy,Zz,ZA,ZB,ZC,ZD,ZE,ZF,ZG,ZH,ZI,ZJ,ZK,ZL,ZM,ZN,ZO,ZP,ZQ,ZR,ZS,ZT,ZU,ZV,ZW,.slice (some ⟨qb,0,none⟩) m capb,.int .i64 (m:Nat),.int .i64 0,Oa,Ob,Oc,Od,Oe,Og,Oh,Oi,Oj,Ol,Om,On,Oo,Oq,Ot,Ou,Ov,Ow,Ox,Oy,Oz,OA,OB,OC,OD,OE,OF,OG,OH,OI,OJ,OK,OL,OM,ON,OO,OP,OQ,OR,OS,OT,OU,OV,OW,OX,OY,OZ,Pb,Pc,Pd,Pe,Pf,Pg,Ph,Pj,Pk,Pm,Pn,Po,Pp,Pq,Pr,Pt,Pu,Pv,Pw,Px,Py],ds⟩ w:=by
 have U:=aa h;have HA:=aa (And.intro Ih (And.intro If (And.intro Ib (And.intro G3 hqo))));have HI:=aa (And.intro hm (And.intro hch (And.intro hid (And.intro G9 (And.intro hv12 hTs)))));have G:=aa (And.intro hsym (And.intro hsn (And.intro hsb (And.intro hsl Ig))));have Hp:=aa (And.intro hpP hpPO);have HB:=aa (And.intro hb1 (And.intro hb2 (And.intro hb3 hb4)));have HJ:=aa hJ;obtain⟨i0,hi,ID,IE,IZ⟩:=info_parts Tryz.infoU32;clear h Ih If Ib G3 hqo hm hch hid G9 hv12 hTs hsl hsym hsn hsb Ig hpP hpPO hb1 hb2 hb3 hb4 hJ;conv=>arg 2;whnf
 go_wp2_with fail;go_loopw [293] (fun cv wr=>∃j:Nat,j≤m∧cv=.int .i64 j∧∃r' b1 b2 c,WI wr k r' (ptS s (dI syms.length T syms (cj ids) (bs.take j)) b1 b2 c)∧WT w k r n wr r') (fun cv _=>m-(intOf cv).toNat)
 case atStart=>exact⟨0,ay _,rfl,r,s.b1,s.b2,s.crc,by rw[fd,dI,gE,xj];exact U.o,gZ⟩
 case round=>
  obtain⟨j,hj,rfl,r1,b1,b2,c,hI,hT⟩:=hrel;have d:=aa hI;have z:=aa hT;clear hI hT;by_cases I0:j<m
  ·have IF:j<bs.length:=by have:=HI.o.1;omega
   obtain⟨nm,G8⟩:∃nm,bs[j]? =some nm:=⟨_,az IF⟩;obtain⟨a,ha,HK,HL⟩:=HI.o.2.2.1 nm (bY G8);have mN:cj ids nm=a:=by rw[cj,ha];rfl
   have Ie:=HI.o.2.2.2.1 nm (bY G8);obtain⟨b',es,Hh,IG,V,hpx⟩:=tV HA.o.2.1 HK HL HI.o.2.2.2.2.2;have hv12:=HI.o.2.2.2.2.1 a;have A:=HA.o.1.upd z.o.upd (fun i hi hm=>fw (HA.o.2.2.1 i hm) hi);have W:=z.o.upd.row HA.o.2.2.2.1 (by rintro _ ⟨⟩;exact fw HA.o.2.2.2.2);have m3:wr.cell? ⟨qb,j,none⟩=some (.string (str nm)):=by have:=W.cells (g:=qb) rfl j (.string (str nm)) (by rw[cx,G8];rfl);rwa [aO,aK]at this
   have UM:=d.o.cell 38 _ rfl;have m4:=ie d.o (show(ptS s (dI syms.length T syms (cj ids) (bs.take j)) b1 b2 c).cache=eW .u32 ids from HI.o.2.1) (str nm) true;rw[ha]at m4;simp only[if_true,dq,mg]at m4;have h1:=cw (P:=prog) (T:=378) (ec .u32) jB underlying378 A.o uY a false;have h2:=fq (fun y:Nat×List PE=>Value.map (some y.1)) a M;have h3:(aT a (M.map fun x=>(x.1,Value.map (some x.2.1))))=some (.map (some b')):=by rw[Hh]at h2;exact h2
   rw[h3]at h1;simp only[ek,if_false,dq]at h1;have ad:=A.inn (a,b',es) (mget_mem Hh);have hlen:(Builtin.len_ #[380] 3 #[.map (some b')]).run prog wr=.ok (.int .i64 (es.length:Nat)) wr:=by have:=lM (P:=prog) (ty:=3) underlying380 ad;rwa [aB]at this
   obtain⟨EL,m5⟩:∃EL,EL=es.length:=⟨_,rfl⟩;rw[←m5]at hlen IG;have m6:EL≤12:=by omega
   have H1:=aa h1;have HM:=aa hlen;have HN:=aa m5;have IH:=aa G8;have D:=aa Hh;have na:=aa V;have II:=aa hpx;have mP:=aa mN;have mS:=aa A;have IU:=aa ad;clear h1 h2 h3 hlen m5 G8 Hh V hpx mN A W ha HK HL ad
   go_wp2_with (first
    |(at_lookup;refine dz rfl _ _ _ _ rfl _ _ _ _ rfl rfl H1.o ?_)
    |(at_len;refine qA rfl _ _ rfl _ _ _ rfl HM.o ?_)
    |(at_make;refine wpList_make_own _ rfl _ _ 372 rfl 0 224 i0 (.int .u32 0) 1 underlying372 hi ID IE .i64 .i64 _ EL rfl rfl ?e1 ?e2 ?e3 ?e4 ?_))
   case e1=>rfl
   case e2=>omega
   case e3=>unfold maxLen;omega
   intro w2 a0 HO;have O:Upd [] wr w2:=(ae wr).grown HO (by simp);obtain⟨qv,HP⟩:∃qv,qv=wr.heap.size:=⟨_,rfl⟩;rw[←HP]at a0⊢;have IV:wr.heap.size≤qv:=by omega
   have nb:Hid (gR w2 (.slice (some ⟨qv,0,none⟩) 0 EL) qv []):=aa ⟨a0,rfl⟩;have a1:=mS.o.upd O (by simp);have h1:=cw (P:=prog) (T:=378) (ec .u32) jB underlying378 a1.o uY a false;have h2:=fq (fun y:Nat×List PE=>Value.map (some y.1)) a M;have h3:(aT a (M.map fun x=>(x.1,Value.map (some x.2.1))))=some (.map (some b')):=by rw[D.o]at h2;exact h2
   rw[h3]at h1;simp only[ek,if_false,dq]at h1;have mT:=a1.inn (a,b',es) (mget_mem D.o);obtain⟨w3,nd,hit,G4⟩:=iA (P:=prog) (kv:=ec .u32) underlying380 mT;obtain⟨R,hR⟩:∃R,R=w2.heap.size:=⟨_,rfl⟩;rw[←hR]at nd hit;have hqR:qv<R:=by have:=nb.o.lt;omega
   have IJ:=aa h1;have IK:=aa nd;have nl:=aa hit;have mY:=aa (O.then G4 (by simp));have HQ:=aa (nb.o.upd G4 (by simp));have I1:=aa ((d.o.new O).new G4);have I2:=aa (ak U.o z.o (ak d.o (dN d.o O) (dN (d.o.new O) G4)));clear a0 HO O HP a1 h1 h2 h3 mT nd hit G4 hR nb m3 UM m4 H1
   go_upto_block 16 with(first
    |(at_lookup;refine dz rfl _ _ _ _ rfl _ _ _ _ rfl rfl IJ.o ?_)
    |(at_range;refine gO rfl _ _ rfl _ _ _ rfl IK.o ?_))
   try go_frame
   have IW:b'<w.heap.size:=lt_of_block (HA.o.1.inn (a,b',es) (mget_mem D.o));have I3:=z.o.upd.size;refine FL (hit:=nl.o) (G3:=HQ.o) (hqR:=by omega) (hbq:=(show b'≠qv by omega)) (hl:=by rw[aB,←HN.o];omega) (hJ:=?_);rintro v x0 x1 x2 x3 x4 x5 x6 x7 x8 w4 ⟨HR,ks,a3,a4,IL,HS⟩;have HT:ks.length≤12:=by rw[a4.length_eq,aB,aB,←HN.o];exact m6
   have I4:R<w3.heap.size:=by obtain⟨cc,_,hr⟩:=nl.o.it;exact lt_of_block hr
   have m1:ks.Perm (es.map (·.1)):=by rw[bT]at a4;exact a4
   have HU:=Dy w4 a3 HT;have IM:=aa a3;have HV:=aa HU;have HW:=aa m1;have IX:wr.heap.size≤HR:=by omega
   have HX:=aa HS;obtain⟨vc,rfl⟩:=a3.shape;clear a4 m1 IL HS HU a3 nl HQ;go_wp2_with fail;with_reducible refine HV.o.mono ?_
   rintro e w5 ⟨rfl,ys,HY,nn,HZ,H2⟩;have IN:=na.o ks ys HW.o nn HZ;subst IN;have H3:(dK syms.length T a).length=ks.length:=nn.length_eq;have F:Upd [] wr w5:=(mY.o.then HX.o (by intro i hi hl;simp only[ah,ai,or_false]at hi;omega)).then H2 (by intro i hi hl;simp only[ag]at hi;omega);have np:WT w k r n w5 r1:=ak U.o z.o (dN d.o F);have IP:=aa (d.o.new F);have IQ:=aa np;have nq:=aa (G.o.1.next U.o np G.o.2.1);have H4:=aa (mS.o.upd F (by simp));have H5:=aa (fun b hb=>z.o.o (HA.o.1.lt b hb) (HA.o.2.2.1 b hb));have H6:=aa (show∀i:Nat,(wl k r1)[i]?≠some (some HR)from fun i e=>by have:=d.o.lt i _ e;omega);have nt:=wu syms.length T syms (cj ids) bs j IH.o;have a5:=uE syms.length T syms (cj ids) bs (j+1);rw[nt,mP.o]at a5;have nB:=xk s (dI syms.length T syms (cj ids) (bs.take j)) (kS syms.length T syms nm a) (dI syms.length T syms (cj ids) (bs.drop (j+1))) b1 b2 c;rw[←a5]at nB;have H7:∀b∈dK syms.length T a,(ew T a b).length<10000∧∀y∈ew T a b,y<4294967296:=fun b hb=>HB.o.2.2.2 (nm,syms[b]?.getD [],ew T a b) (by rw[a5];exact bX _ (bZ _ (List.mem_map.2 ⟨b,hb,rfl⟩)));have H8:∀b∈dK syms.length T a,b<syms.length:=fun b hb=>by rw[dK,eO,mf]at hb;exact hb.1
   have IR:=aa HY;have a2:=aa (And.intro nB (And.intro H7 H8));have H9:=aa (And.intro nt H3);have IY:ks.length≤12:=HT;clear F np nt a5 nB H7 H8 HY nn HZ H2 HV HW HX IM mY H3;go_upto_block 18 with fail
   try go_frame
   refine FM (h:=IP.o) (n:=n) (base:=base) (b':=b') (vals:=dK syms.length T a) (px:=ew T a) (M:=M) (es:=es) (syms:=syms) (Ih:=H4.o) (Ib:=H5.o) (Hh:=D.o) (G3:=IR.o) (hqo:=H6.o) (hV:=H9.o.2.symm) (hV2:=by omega) (hpx:=II.o) (hvs:=a2.o.2.2) (hsl:=G.o.2.2.2.1) (hsym:=nq.o) (hsn:=G.o.2.1) (hsb:=G.o.2.2.1) (Ig:=G.o.2.2.2.2) (hpP:=Hp.o.1) (hpPO:=Hp.o.2) (G8:=Ie) (hb1:=gW a2.o.1.1 HB.o.1) (hb2:=gW a2.o.1.2.1 HB.o.2.1) (hb3:=?_) (hb4:=a2.o.2.1) (hJ:=?_)
   ·have:=a2.o.1.2.2;have h3:=HB.o.2.2.1;simp only[kS,aB]at this;omega
   rintro y0 y1 y2 y3 y4 y5 y6 y7 y8 y9 I5 I6 I7 I8 I9 Ja Jb Jc Jd Je Jf Jg Jh Ji Jj Jk Jl Jm Jn Jo Jp Jq Jr Js Jt Ju w6 ⟨r6,d1,d2,dc,Ij,Ik⟩;have IS:=aa Ij;have IT:=aa (ak U.o IQ.o Ik);clear Ij Ik;go_wp2_with fail;refine⟨⟨j+1,by omega,by go_num,r6,d1,d2,dc,?_,IT.o⟩,by simp only[intOf];omega⟩;rw[H9.o.1,mP.o,←qk s _ _ b1 b2 d1 d2 c dc];exact IS.o
  ·obtain rfl:j=m:=by omega
   have he:bs.take j=bs:=by rw[HI.o.1,aS]
   rw[he]at d;clear he;go_wp2_with fail;exact HJ.o _ _ _ _ _ _ _ _ _ _ _ _ _ _ _ _ _ _ _ _ _ _ _ _ _ _ _ _ _ _ _ _ _ _ _ _ _ _ _ _ _ _ _ _ _ _ _ _ _ _ _ _ _ _ _ _ _ _ _ _ _ _ _ _ _ _ _ _ _ _ _ _ _ _ _ _ _ _ _ _ ⟨r1,b1,b2,c,d.o,z.o⟩
end
end Go.Proofs.YtlgefdfflmgocaaGreatDoor
