import Derived.Test.YtlgefdfflmgocaaGreatDoorQ19
set_option linter.all false
set_option maxRecDepth 100000
set_option maxHeartbeats 8000000
namespace Go.Proofs.YtlgefdfflmgocaaGreatDoor
variable{Ub Uc Ue Uf Uh Ui Uj Uk Ul Um Un Up Uq Ur Us Ut Uu Uv Uw Ux Uy Uz UA UB UC UD UE UF UG UH UI UJ UK UL UM UN UO UP UQ UR US UT UU UV UW UX UY UZ Va Vb Vc Vd Ve Vf Vg Vh Vi Vj Vk Vl Vm Vn Vo Vp Vq Vr Vt Vu Vv Vw Vx Vy Vz VA VB VD VE VF VG VH VI VJ VK VL VM VN VO VP VQ VR VS VT VU VV VW VX VY VZ Wa Wb Wc Wd We Wf Wg Wh Wi Wj Wk Wl Wm Wn Wp Wq Wr Ws Wt Wu Wv Ww Wx Wy Wz WA WC WD WE WG WH WL WM WN WO WU WV WW WX WY WZ Xd Xe Xf Xg Xh Xi Xj Xk Xl Xm Xn Xo Xp Xq Xr Xt Xu Xv Xw Xx Xy Xz XA XB XC XD XE XF XG XH XI XJ XK XM XN XO XP XQ XR XS XT XU XV XW XX XY XZ Ya Yb Yc Yd Ye Yf Yg Yh Yi Yj Yk Yl Ym Yn Yo Yp Yq Yr Ys Yt Yu Yv Yw Yx Yy Yz YA YB YC YD YE YF YG YH YI YJ YK YL YM YN YO YP YQ YR YS YT YU YV YW YX YY YZ Za Zb Zc Zd Ze Zf Zg Zh Zi Zj Zk Zl Zm Zn Zo Zp Zq Zr Zs Zt Zu Zv Zw Zx Zy Zz ZA ZB ZC ZD ZE ZF ZG ZH ZI ZJ ZK ZL ZM ZN ZO ZP ZQ ZR ZS ZT ZU ZV ZW ZX ZY ZZ Oa Ob Oc Od Oe Og Oh Oi Oj Ol Om On Oo Oq Ot Ou Ov Ow Ox Oy Oz OA OB OC OD OE OF OG OH OI OJ OK OL OM ON OO OP OQ OR OS OT OU OV OW OX OY OZ Pb Pc Pd Pe Pf Pg Ph Pj Pk Pm Pn Po Pp Pq Pr Pt Pu Pv Pw Px Py:Go.Value}
section
open Go Go.RowKit Xc Go.Proofs.Tryz
attribute [local go_sem ↓] Go.wp_at_zero Go.wp_at_succ
variable {w:World} {k:WK} {r:WR} {s:WS}
structure TpH(w:World)(k:WK)(r:WR)(s:WS)(F0:Bytes)(G1:fO)(ln ids:List (ByteArray×Nat))(syms:List Bytes)(S g2 N2 G6:Nat)(rr:Option Nat):Prop where
 wi:WI w k r s
 F:s.bF=F0++cU F0.length G1
 t1:s.t1=F0.length
 t2:s.t2=s.bF.length
 names:s.names=eW .u64 ln
 cnt:∀x∈ln,1≤x.2∧x.2≤G1.length
 nodup:(ln.map (·.1)).Nodup
 cache:s.cache=eW .u32 ids
 id:∀x∈ln,∃a,aT x.1 ids=some a∧a<65536∧∃p b,(p,a,b)∈trip F0.length G1
 sym:lw w k r S g2 N2 G6 rr (ch syms) 5 syms
 symv:s.symV=ptr S 0
 ser:G1.length<1000∧∀x∈G1,x.1.length<1000∧x.2.length<1000∧∀p∈x.1,p.1<65536∧p.2<syms.length
 syml:syms.length<65536∧∀x∈syms,x.length<1000
 pP:s.pP=ptr k.FP 0
 pPO:s.pPO=ptr k.FPO 0
 v12:∀a,(dK syms.length (trip F0.length G1) a).length≤12
 lnl:ln.length<1000∧∀x∈ln,x.1.size<1000
 bFl:F0≠[]∧s.bF.length<1000000
 symle:(ch syms).length≤s.bF.length
 tripl:(trip F0.length G1).length<100000
structure TpO(w:World)(k:WK)(r:WR)(s:WS)(N g Z Ic q:Nat)(ns:List Bytes)(L1:PtL)(v:Value)(wr:World)(r':WR)(b1 b2:Bytes)(c:Nat):Prop where
 wi:WI wr k r' (ptS s L1 b1 b2 c)
 wt:WT w k r N wr r'
 z:wr.heap[Z]? =some (.cells #[.slice (some ⟨g,0,none⟩) N Ic] 406 (0,0))
 zo:∀i:Nat,(wl k r')[i]?≠some (some Z)
 rd:RdG wr (.slice (some ⟨g,0,none⟩) N Ic) g s.bF
 nm:SRd wr v q ns
 no:∀i:Nat,(wl k r')[i]?≠some (some q)
 bd:w.heap.size≤Z∧w.heap.size≤q
theorem CN{S:Nat}(l:fO)(h:∀x∈l,∀p∈x.1,p.2<S):∀n,∀t∈trip n l,t.2.2<S:=by
 induction l with
 |nil=>intro n t d;cases d
 |cons x l z=>
  intro n t d;rw[trip,aA]at d;rcases d with d|d
  ·obtain⟨p,A,rfl⟩:=List.mem_map.1 d;exact h x (eo) p A
  ·exact z (fun y D=>h y (aH _ D)) _ t d
theorem on(B:Nat)(T:List (Nat×Nat×Nat))(syms:List Bytes)(id:Bytes→Nat)(a b:List Bytes):dI B T syms id (a++b)=dI B T syms id a++dI B T syms id b:=aU ..
theorem RdG.kept{w w':World}{g N cap n:Nat}{bs:Bytes}(h:RdG w (.slice (some ⟨g,0,none⟩) N cap) g bs)(d:fF w w' (some g) n)(hn:bs.length≤n)(hs:w.heap.size≤w'.heap.size):RdG w' (.slice (some ⟨g,0,none⟩) N cap) g bs:=by obtain⟨o,c,e,h1,z⟩:=h;cases e;refine⟨0,cap,rfl,⟨h1.1,by omega⟩,fun j A=>?_⟩;have:=d g rfl (0+j) (by omega);rw[this];exact z j A
theorem GS(w0:World)(F0:Bytes)(G1:fO)(ln ids:List (ByteArray×Nat))(syms:List Bytes)(S g2 N2 G6:Nat)(rr:Option Nat)(H0:TpH w0 k r s F0 G1 ln ids syms S g2 N2 G6 rr)(L0 L:PtL)(N n0 g Z Ic q M cap ML:Nat)(r13:WR)(b1 b2:Bytes)(c:Nat)
 (hO:TpO w0 k r s N g Z Ic q (du ln) L0 (.slice (some ⟨q,0,none⟩) M cap) w r13 b1 b2 c)(hR0:RdG w0 (.slice (some ⟨g,0,none⟩) N Ic) g s.bF)(hN:N=s.bF.length)(hn0:n0=F0.length)(hg:r.gF=some g)(hM:M=(du ln).length)(Ii:ML=G1.length)
 (hL:L=L0++dI syms.length (trip n0 G1) syms (cj ids) (du ln))(htl:(trip n0 G1).length<100000)
 (hb1:(ptF s.bP L).length<1000000)(hb2:(s.bPO++poB (ptP s.bP L)).length<1000000)(hb3:s.cnt+L.length<1000000)(hb4:∀x∈L,x.2.2.length<10000∧∀y∈x.2.2,y<4294967296)
 {Q:Exit→Act→World→Prop}{ds:List Deferred}
 (hJ:∀(u2 u3 LP u16 LQ LR LS LU LW LX LY LZ L3 L4 L5 L6 L7 L8 L9 u32 Ma Mb Mc Md Me Mf Mg Mh Mi Mj Mk Mo Mp Mq EL E1 Fl FP F1 G2 Ha Hb Hc Hd He Hg Hi Hj Hk Hl Hm Hn Ho Hp Hq Hs Ht Hu Hv Hy Hz HA HC HF HG HH HI HL HM HN HO HP HQ HR HS HU HV HW HX HY HZ H1 H2 H3 H4 H5 H6 H7 H8 H9 Ij Ik Il Im In Io Ip Iq Ir Is Iu Iv Iw Ix Iy Iz IA IB IC ID IE IF IG IH II IJ IK IL IM IN IP IQ IR IS IT IU IV IW IX IY IZ I0 I1 I2 I3 I4 I5 I6 I7 I8 I9 Ja Jb Jc Jd Je Jf Jg Jh Ji Jj Jk Jl Jm Jn Jo Jp Jq Jr Js Jt Ju Jv Jw Jx Jy Jz JA JB JC JD JE JF JG JH JI JJ JK JL JM JN JO JP JQ JR JS JT JU JV JW JX JY JZ J0 J1 J2 J3 J4 J5 J6 J7 J8 J9 Ka Kb Kc Kd Ke Kf Kg Kh Ki Kj Kk Kl Km Kn Ko Kp Kq Kr Ks Kt Ku Kv Kw Kx Ky Kz KA KB KC KD KE KF KG KH KI KJ KK KL KM KN KO KP KQ KR KS KT KU KV KW:Value) (wx:World),(∃r' b1 b2 c,WI wx k r' (ptS s L b1 b2 c)∧WT w0 k r N wx r')→Q .normal ⟨#[ptr k.W 0,Ub,u2,u3,Ue,Uf,ptr Z 0,Uh,Ui,Uj,Uk,Ul,Um,Un,.int .u64 (ML:Nat),LP,u16,LQ,LR,LS,LU,LW,LX,LY,LZ,L3,L4,L5,L6,L7,L8,L9,u32,Ma,Mb,Mc,Md,Me,Mf,Mg,Mh,Mi,Mj,Mk,Mo,Mp,Mq,UV,UW,UX,UY,UZ,Va,Vb,Vc,Vd,Ve,Vf,Vg,Vh,Vi,Vj,Vk,Vl,Vm,Vn,Vo,Vp,Vq,Vr,Vt,Vu,Vv,Vw,Vx,Vy,Vz,VA,VB,VD,VE,VF,VG,VH,VI,VJ,VK,VL,VM,VN,VO,VP,VQ,VR,VS,VT,VU,VV,VW,VX,VY,VZ,Wa,Wb,Wc,Wd,We,Wf,Wg,Wh,Wi,Wj,Wk,Wl,Wm,Wn,Wp,Wq,Wr,Ws,Wt,Wu,Wv,Ww,Wx,Wy,Wz,WA,WC,WD,WE,WG,WH,WL,WM,WN,WO,WU,WV,WW,WX,WY,WZ,Xd,EL,E1,Fl,FP,F1,G2,Ha,Hb,Hc,Hd,He,Hg,Hi,Hj,Hk,Hl,Hm,Hn,Ho,Hp,Hq,Hs,Ht,Hu,Hv,Hy,Hz,HA,HC,HF,HG,HH,HI,HL,HM,HN,HO,HP,HQ,HR,HS,HU,HV,HW,HX,HY,HZ,H1,H2,H3,H4,H5,H6,H7,H8,H9,Ij,Ik,Il,Im,In,Io,Ip,Iq,Ir,Is,Iu,Iv,Iw,Ix,Iy,Iz,IA,IB,IC,ID,IE,IF,IG,IH,II,IJ,IK,IL,IM,IN,IP,IQ,IR,IS,IT,IU,IV,IW,IX,IY,IZ,I0,I1,I2,I3,I4,I5,I6,I7,I8,I9,Ja,Jb,Jc,Jd,Je,Jf,Jg,Jh,Ji,Jj,Jk,Jl,Jm,Jn,Jo,Jp,Jq,Jr,Js,Jt,Ju,Jv,Jw,Jx,Jy,Jz,JA,JB,JC,JD,JE,JF,JG,JH,JI,JJ,JK,JL,JM,JN,JO,JP,JQ,JR,JS,JT,JU,JV,JW,JX,JY,JZ,J0,J1,J2,J3,J4,J5,J6,J7,J8,J9,Ka,Kb,Kc,Kd,Ke,Kf,Kg,Kh,Ki,Kj,Kk,Kl,Km,Kn,Ko,Kp,Kq,Kr,Ks,Kt,Ku,Kv,Kw,Kx,Ky,Kz,KA,KB,KC,KD,KE,KF,KG,KH,KI,KJ,KK,KL,KM,KN,KO,KP,KQ,KR,KS,KT,KU,KV,KW],ds⟩ wx):
 Code.wp prog (oU 4) Q ⟨#[ptr k.W 0,Ub,Uc,.slice (some ⟨q,0,none⟩) M cap,Ue,Uf,ptr Z 0,Uh,Ui,Uj,Uk,Ul,Um,Un,.int .u64 (ML:Nat),Up,Uq,Ur,Us,Ut,Uu,Uv,Uw,Ux,Uy,Uz,UA,UB,UC,UD,UE,UF,UG,UH,UI,UJ,UK,UL,UM,UN,UO,UP,UQ,UR,US,UT,UU,UV,UW,UX,UY,UZ,Va,Vb,Vc,Vd,Ve,Vf,Vg,Vh,Vi,Vj,Vk,Vl,Vm,Vn,Vo,Vp,Vq,Vr,Vt,Vu,Vv,Vw,Vx,Vy,Vz,VA,VB,VD,VE,VF,VG,VH,VI,VJ,VK,VL,VM,VN,VO,VP,VQ,VR,VS,VT,VU,VV,VW,VX,VY,VZ,Wa,Wb,Wc,Wd,We,Wf,Wg,Wh,Wi,Wj,Wk,Wl,Wm,Wn,Wp,Wq,Wr,Ws,Wt,Wu,Wv,Ww,Wx,Wy,Wz,WA,WC,WD,WE,WG,WH,WL,WM,WN,WO,WU,WV,WW,WX,WY,WZ,Xd,Xe,Xf,Xg,Xh,Xi,Xj,Xk,Xl,Xm,Xn,Xo,Xp,Xq,Xr,Xt,Xu,Xv,Xw,Xx,Xy,Xz,XA,XB,XC,XD,XE,XF,XG,XH,XI,XJ,XK,XM,XN,XO,XP,XQ,XR,XS,XT,XU,XV,XW,XX,XY,XZ,Ya,Yb,Yc,Yd,Ye,Yf,Yg,Yh,Yi,Yj,Yk,Yl,Ym,Yn,Yo,Yp,Yq,Yr,Ys,Yt,Yu,Yv,Yw,Yx,Yy,Yz,YA,YB,YC,YD,YE,YF,YG,YH,YI,YJ,YK,YL,YM,YN,YO,YP,YQ,YR,YS,YT,YU,YV,YW,YX,YY,YZ,Za,Zb,Zc,Zd,Ze,Zf,Zg,Zh,Zi,Zj,Zk,Zl,Zm,Zn,Zo,Zp,Zq,Zr,Zs,Zt,Zu,Zv,Zw,Zx,Zy,Zz,ZA,ZB,ZC,ZD,ZE,ZF,ZG,ZH,ZI,ZJ,ZK,ZL,ZM,ZN,ZO,ZP,ZQ,ZR,ZS,ZT,ZU,ZV,ZW,ZX,ZY,ZZ,Oa,Ob,Oc,Od,Oe,Og,Oh,Oi,Oj,Ol,Om,On,Oo,Oq,Ot,Ou,Ov,Ow,Ox,Oy,Oz,OA,OB,OC,OD,OE,OF,OG,OH,OI,OJ,OK,OL,OM,ON,OO,OP,OQ,OR,OS,OT,OU,OV,OW,OX,OY,OZ,Pb,Pc,Pd,Pe,Pf,Pg,Ph,Pj,Pk,Pm,Pn,Po,Pp,Pq,Pr,Pt,Pu,Pv,Pw,Px,Py],ds⟩ w:=by
 have H0:=aa H0;have KX:=aa hO;have HE:=aa (And.intro hN (And.intro hn0 (And.intro hg (And.intro hM (And.intro Ii (And.intro hL hR0))))));have HB:=aa (And.intro hb1 (And.intro hb2 (And.intro hb3 (And.intro hb4 htl))));have HJ:=aa hJ;have KY:(du ln).length=ln.length:=by rw[du,List.length_mergeSort,aB]
 have MF:M<1000:=by have:=H0.o.lnl.1;omega
 have KZ:ML<1000:=by have:=H0.o.ser.1;omega
 have Mr:N<1000000:=by have:=H0.o.bFl.2;omega
 have K0:n0≤N:=by rw[hn0,hN,H0.o.F,ab];omega
 clear hO hR0 hN hn0 hg hM Ii hL hb1 hb2 hb3 hb4 htl hJ KY;dsimp only;conv=>arg 2;whnf
 go_wp2_with fail;go_loopw [3] (fun v wr=>∃i r' b1 b2 c,i≤M∧TpO w0 k r s N g Z Ic q ((du ln).drop i) (L0++dI syms.length (trip n0 G1) syms (cj ids) ((du ln).take i)) v wr r' b1 b2 c) (fun v _=>match v with| .slice _ n _=>n|_=>0)
 case atStart=>exact⟨0,r13,b1,b2,c,ay _,by rw[fd,dI,gE,bk,List.drop_zero];exact KX.o⟩
 case round=>
  obtain⟨i,K1,gg,gi,c',MG,hO⟩:=hrel;have d:=aa hO;clear hO KX;by_cases MH:i<M
  ·obtain⟨o3,cap3,rfl,_⟩:=id d.o.nm;obtain⟨G7,W⟩:∃G7,G7=(du ln).drop i:=⟨_,rfl⟩;have Ie:G7.length=M-i:=by rw[W,cy,HE.o.2.2.2.1]
   have bK:=aa W;rw[←W]at d⊢;have e9:0<G7.length:=by omega
   obtain⟨Ml,gk⟩:∃Ml,Ml=G7.length:=⟨_,rfl⟩;rw[←gk]at e9 d⊢;have K2:Ml<1000:=by omega
   have bE:=aa (And.intro gk Ie);have hmem:∀x∈G7,∃c,(str x,c)∈ln:=fun x V=>vX (iG (by rw[←W];exact V));have bd:=aa hmem;obtain⟨B,hB⟩:∃B,B=wr.heap.size:=⟨_,rfl⟩;have be:Upd [] wr (wr.alloc (.cells #[] 9 (0,0))):=(ae _).alloc _;have ad:(wr.alloc (.cells #[] 9 (0,0))).heap[wr.heap.size]? =some (.cells #[] 9 (0,0)):=an _;clear W gk Ie hmem;go_upto_block 6 with(fail)
   rw[←hB]at ad⊢;revert be ad;generalize (wr.alloc (.cells #[] 9 (0,0)))=w15;intro be ad;have K3:∀x∈s.li,x.1≠B:=fun x V=>by have:x.1<wr.heap.size:=ez (d.o.wi.keys x V).1;omega
   have hBo:∀i:Nat,(wl k K1)[i]?≠some (some B):=fun i e=>by have:=d.o.wi.lt i _ e;omega
   have MI:q<wr.heap.size:=by obtain⟨_,_,_,h1,_⟩:=d.o.nm;exact h1.2
   have a0:=aa be;have fa:=aa ad;have bL:=aa (And.intro hB (And.intro K3 hBo));clear be ad hB K3 hBo;try go_frame
   refine GU (h:=d.o.wi.new a0.o) (ln:=ln) (hln:=H0.o.names) (hnd:=H0.o.nodup) (ML:=ML) (Ii:=KZ) (hcnt:=by rw[HE.o.2.2.2.2.1];exact H0.o.cnt) (G7:=G7) (hmem:=bd.o) (G5:=List.length_pos_iff.1 (by rw[←bE.o.1];exact e9)) (Ie:=by rw[←bE.o.1];exact K2) (q:=q) (o3:=o3) (Ml:=Ml) (cap3:=cap3) (B:=B) (hSR:=d.o.nm.upd a0.o (by simp)) (hB:=fa.o) (hBo:=bL.o.2.2) (hqo:=d.o.no) (hBq:=by have:=bL.o.1;omega) (hBl:=bL.o.2.1) (hJ:=?_);rintro y0 v bv y1 y2 y3 y4 y5 y6 y7 y8 y9 MJ MK MM MN MO MP MQ MR MS MT MU MV MW MX MY MZ M1 M2 M3 M4 M5 M6 M7 M8 M9 Na Nb Nc D ⟨m,qb,Nd,Ia,hSR,G3,gF,Ms,fb⟩;dsimp only;obtain⟨capb,rfl⟩:∃capb,bv=.slice (some ⟨qb,0,none⟩) m capb:=by
    rcases G3.2 with⟨rfl,_⟩|⟨g',cap',cur,rfl,_⟩
    ·exact absurd gF (by simp[Value.ownBlock])
    ·cases gF;exact⟨cap',rfl⟩
   obtain⟨Nf,Uq,K4,_⟩:=id hSR;subst K4;have bM:Upd [] wr D:=a0.o.then fb (by intro i hi hl;have:=bL.o.1;simp only[ag]at hi;omega);have fc:wr.heap.size≤qb∧qb<D.heap.size:=⟨by have:=a0.o.size;have:=bL.o.1;omega,(G3.lt qb rfl).2⟩;have G:=aa (d.o.wi.new bM);have fk:=aa hSR;have bg:=aa G3;have bO:=aa bM;have K5:=aa fc;clear hSR G3 gF Ms fb bM fa a0 fc;obtain⟨NS,hNS⟩:∃NS,NS=D.heap.size:=⟨_,rfl⟩;have O:=run_makeMap (P:=prog) 149 D;have z:(D.alloc (.map #[] 0)).heap[D.heap.size]? =some (bI (ec .u32) []):=an _;have bl:Upd [] D (D.alloc (.map #[] 0)):=(ae _).alloc _;rw[←hNS]at O z;revert O z bl;generalize (D.alloc (.map #[] 0))=w17;intro O z bl;have bR:=aa O;have bn:=aa bl;have fr:=aa z;have bS:=aa hNS;clear O bl z hNS;go_upto_block 8 with(refine fW rfl _ rfl _ _ bR.o ?_)
   try go_frame
   have gL:m=(G7.take m).length:=by rw[aZ];omega
   refine GV (h:=G.o.new bn.o) (ids:=ids) (hch:=H0.o.cache) (bs:=G7.take m) (m:=m) (capb:=capb) (qb:=qb) (NS:=NS) (hm:=gL) (Ia:=by have:=bE.o.1;omega) (G3:=bn.o.row bg.o (by simp))
    (hid:=fun x V=>by obtain⟨c,hc⟩:=bd.o x (dL V);obtain⟨a,h1,h2,_⟩:=H0.o.id _ hc;exact⟨a,h1,h2⟩)
    (hNS:=fr.o) (hNo:=fun i e=>by have:=G.o.lt i _ e;have:=bS.o;omega) (hNl:=fun x V=>by have:x.1<D.heap.size:=ez (G.o.keys x V).1;have:=bS.o;omega) (hNq:=by have:=bS.o;have:=K5.o;omega) (hJ:=?_)
   rintro x0 x1 x2 x3 x4 x5 x6 x7 x8 x9 Ng Nh Ni Nj Nk Nl No Np Nq Nr Ns Nt Nu Nv a7 ⟨fs,ft⟩;dsimp only;have a9:=aa fs;have bW:=aa (bn.o.then ft (by have:=bS.o;intro i hi hl;simp only[ag]at hi;omega));have Mt:=aa gL;clear fs ft bn fr bR gL;obtain⟨PB,gP⟩:∃PB,PB=a7.heap.size:=⟨_,rfl⟩;have O:=run_makeMap (P:=prog) 378 a7;have z:(a7.alloc (.map #[] 0)).heap[a7.heap.size]? =some (bI (ec .u32) []):=an _;have a1:Upd [] a7 (a7.alloc (.map #[] 0)):=(ae _).alloc _;rw[←gP]at O z;revert O z a1;generalize (a7.alloc (.map #[] 0))=F;intro O z a1;have bR:=aa O;have fv:=aa (show lr F 224 D.heap.size PB []from⟨z,by simp,by simp,by simp[bN],by have:=bW.o.size;simp[bN];omega⟩);have Nw:=aa gP;have b5:=aa (a1.blk a9.o (by simp));have a2:=aa (bW.o.then a1 (by simp));have bb:=bO.o.then a2.o (by simp);have br:=aa (G.o.new a2.o);have bw:=aa (bb.blk d.o.z (by simp));have b6:=aa (d.o.rd.upd bb (by simp));have a3:=aa HE.o.1;have Ug:F.cell? ⟨k.W,6,none⟩=some (.int .u64 (N:Nat)):=by rw[a3.o,←H0.o.t2];exact br.o.cell 6 _ rfl
   have ME:NS<PB:=by have:=lt_of_block a9.o;omega
   have g0:PB<F.heap.size:=lt_of_block z;clear O z a1 gP bb a9 bW;go_wp2_with (refine fW rfl _ rfl _ _ bR.o ?_);go_cut [23]from 208 to 217 (fun v wx=>∃p,v=ptr p 0∧cm wx p g s.bF∧F.heap.size≤p∧Upd [] F wx)
   case first=>
    have k2:=fun w' (hu:Upd [] F w')=>hu.cell (a:=⟨k.W,6,none⟩) (by simp) Ug;have HK:=aa k2;have Mu:=aa b6.o.lt;have n2:F.heap.size≠k.W:=by have:=br.o.lt 0 _ rfl;omega
    have Mv:IntKind.i64.wrap ((N:Nat):Int)=(N:Int):=by rw[bo];omega
    have fA:∀w' x u,x=.iface 139 (.slice (some ⟨g,0,none⟩) N Ic)→u=.int .i64 N→RdG w' (.slice (some ⟨g,0,none⟩) N Ic) g s.bF→Calls prog 202 #[x,u] w' fun e K6=>∃v',e=.returned (.agg #[v',.nilIface])∧RdG K6 v' g s.bF∧Upd [] w' K6:=fun w' x u V hu h=>by have e:=a3.o;subst V hu e;exact jk g _ s.bF s.bF [] w' h (by simp) (by omega)
    have K7:=aa fA;clear fA k2
    go_region_held3 (fun w'=>w'.cell? ⟨k.W,6,none⟩=some (.int .u64 N)) (go_keep) (first
     |(go_at_call 201;refine(ma Z (.slice (some ⟨g,0,none⟩) N Ic) _ (by with_reducible first|exact bQ bw.o|exact bt _ (bQ bw.o)|exact bQ (bt _ bw.o))).mono ?_;rintro e _ ⟨rfl,rfl⟩;dsimp only)
     |(go_at_call 202;refine(K7.o _ _ _ (by with_reducible rfl) (by first|with_reducible rfl|(rw[Mv])) (b6.o.upd (by with_reducible first|exact(ae _).drew|exact((ae _).drew).alloc _|exact((ae _).alloc _).drew) (by simp))).mono ?_;rintro e ck ⟨v',rfl,K8,b7⟩;dsimp only;have bA:Hid (Upd [] F ck):=aa (by with_reducible first|exact((ae _).drew).then b7 (fun _ h _=>h)|exact(((ae _).drew).alloc _).then b7 (fun _ h _=>h)|exact(((ae _).alloc _).drew).then b7 (fun _ h _=>h));have fE:=aa K8;obtain⟨o',c',rfl,Mw,Mx⟩:=K8;(try(have hD:ck.heap[F.heap.size]? =some (.cells #[.slice none 0 0,.nilIface] 159 (0,0)):=b7.blk (by with_reducible first|exact an _|exact bQ (an _)|exact bQ (w:=F.alloc (.cells #[.slice none 0 0,.nilIface] 159 (0,0))) (an F)) (by simp);have d0:ck.cell? ⟨F.heap.size,0,none⟩=some (.slice none 0 0):=af hD 0;have d1:ck.cell? ⟨F.heap.size,1,none⟩=some .nilIface:=af hD 1;have f0:=ao hD 0;have f1:=ao hD 1;have HD:=aa hD;clear hD));clear b7 Mw Mx;have Ug:=HK.o _ bA.o))
    all_goals
     go_wp2_with fail;go_meet
     have Nx:=Mu.o;have My:=bA.o.size
     first
      |exact⟨_,rfl,⟨⟨_,an _,fE.o.upd ((ae _).alloc _) (by simp)⟩,by omega⟩,My,bA.o.alloc _⟩
      |exact⟨_,rfl,⟨⟨_,au (au HD.o 0 _) 1 _,fE.o.upd ((((ae _).mono (M:=[F.heap.size]) (by simp)).setCell (fun _=>by simp) _).setCell (fun _=>by simp) _) (by simp only[ag];omega)⟩,by omega⟩,aw _,(bA.o.setCell (fun h=>absurd h (cR _)) _).setCell (fun h=>absurd h (cR _)) _⟩
   case rest=>
    obtain⟨p,rfl,hD,Mz,b8⟩:=hcut;have bB:=aa (a2.o.then b8 (by simp));have fN:=aa (br.o.new b8);have fP:=aa hD;have fX:=aa (fv.o.upd b8 (by simp));have b9:=aa (b8.blk b5.o (by simp));have MA:D.heap.size≤p∧PB<p:=⟨by have:=a2.o.size;omega,by omega⟩;clear hD b8 Mz bw b6 a2 br fv b5 Ug bR g0;generalize wc=w20 at*;have g8:=tF p g n0 s.bF w20 fP.o (by rw[←a3.o];exact K0) (by rw[←a3.o];omega);have ca:s.bF.drop n0=cU n0 G1:=by rw[H0.o.F,HE.o.2.1,eZ]
    rw[ca]at g8;have K9:=aa g8;have Uf:w20.cell? ⟨k.W,5,none⟩=some (.int .u64 (n0:Nat)):=by rw[HE.o.2.1,←H0.o.t1];exact fN.o.cell 5 _ rfl
    clear g8 ca;go_upto_block 10 with(with_reducible refine K9.o.mono ?_;rintro e MB ⟨rfl,f2,a4⟩;dsimp only)
    have f3:PSt D.heap.size NS PB p g (nM (cj ids) (G7.take m)) (cU n0 G1) [] [] MB:=by refine⟨f2,a4.blk b9.o (by simp;omega),fX.o.upd a4 (by simp[bN];omega),nY.nil,by simp[bN];omega,by simp[bN];omega,by omega,MA.1,by have:=bS.o;omega,?_,aW bB.o.size a4.size⟩;have h1:=H0.o.wi.lt 8 g (congrArg some HE.o.2.2.1);have h2:=d.o.wt.upd.size;have h3:=bO.o.size;omega
    have f4:=aa f3;have f5:=aa ((bB.o.below (B:=D.heap.size) (aw _) (by simp)).trans (a4.below bB.o.size (by intro b hb;simp only[ag]at hb;omega)));clear f3 f2 a4 fP fX b9 bB fN Uf K9;try go_frame
    refine FI (wb:=D) (hWb:=G.o) (N:=N) (n0:=n0) (NS:=NS) (PB:=PB) (p:=p) (g:=g) (SB:=syms.length) (G1:=G1) (Hr:=nM (cj ids) (G7.take m)) (Nn:=(G7.take m).map (cj ids)) (M0:=[]) (ht2:=by rw[a3.o];exact H0.o.t2) (hB:=f5.o) (hs:=f4.o) (hN:=fun a=>yr _ _ _) (htot:=by rw[a3.o,H0.o.F,HE.o.2.1,ab]) (hN2:=Mr) (hSB:=H0.o.syml.1) (hser:=H0.o.ser.2) (htl:=HB.o.2.2.2.2) (hJ:=?_);rintro z0 z1 z2 z3 z4 z5 z6 z7 z8 z9 Ny Nz z12 NA NB NC ND z17 NE NF z20 z21 z22 z23 z24 z25 z26 NG z28 z29 NH z31 z32 z33 NI z35 NJ z37 z38 z39 z40 z41 NK NL z44 z45 z46 NM NN z49 z50 z51 NO z53 z54 z55 NP NQ z58 z59 z60 NR NT NU z64 NV z66 z67 NW NX z70 NY z72 NZ N0 z75 z76 z77 z78 N1 ⟨⟨Mm,f6⟩,f7⟩;dsimp only;have cc:=aa f6;have a5:=aa (Upd.ofBelow f7);clear f6 f7 f4 f5;go_upto_block 14 with fail
    have hA:∃A,A=L0++dI syms.length (trip n0 G1) syms (cj ids) ((du ln).take i):=⟨_,rfl⟩;obtain⟨A,hA⟩:=hA;have U:L=A++dI syms.length (trip n0 G1) syms (cj ids) (G7.take m)++dI syms.length (trip n0 G1) syms (cj ids) (G7.drop m):=by rw[HE.o.2.2.2.2.2.1,hA,al,al,←on,aI,←on,bK.o,aI]
    have La:L0++dI syms.length (trip n0 G1) syms (cj ids) ((du ln).take (i+m))=A++dI syms.length (trip n0 G1) syms (cj ids) (G7.take m):=by rw[hA,List.take_add,on,al,bK.o]
    have cg:=xk s A (dI syms.length (trip n0 G1) syms (cj ids) (G7.take m)) (dI syms.length (trip n0 G1) syms (cj ids) (G7.drop m)) gg gi c';rw[←U]at cg;have Lb:∀x∈dI syms.length (trip n0 G1) syms (cj ids) (G7.take m),x.2.2.length<10000∧∀y∈x.2.2,y<4294967296:=fun x V=>HB.o.2.2.2.1 x (by rw[U];exact bX _ (bZ _ V));rw[←hA]at d G;have ha:=aa (bO.o.then a5.o (by simp));have Lc:=aa (G.o.new a5.o);have f8:=aa (ak H0.o.wi d.o.wt (dN d.o.wi ha.o));have f9:(ch syms).length≤N:=by rw[a3.o];exact H0.o.symle
    try go_frame
    refine FK (h:=Lc.o) (n:=N) (base:=D.heap.size) (PB:=PB) (qb:=qb) (m:=m) (capb:=capb) (S:=S) (g2:=g2) (N2:=N2) (G6:=G6) (rr:=rr) (M:=Mm) (T:=trip n0 G1) (Nn:=(G7.take m).map (cj ids)) (ids:=ids) (bs:=G7.take m) (syms:=syms) (Ih:=cc.o.pm) (If:=cc.o.abs)
     (Ib:=fun b hb i e=>by have h1:=cc.o.pm.ge b hb;have h2:=G.o.lt i _ e;omega) (G3:=a5.o.row bg.o (by simp)) (hqo:=fun i e=>by have h1:=d.o.wi.lt i _ e;have h2:=K5.o.1;omega) (hm:=Mt.o) (hm2:=by have:=bE.o.1;omega) (hch:=H0.o.cache) (hid:=?_) (G9:=?_)
     (hv12:=by rw[HE.o.2.1];exact H0.o.v12) (hTs:=CN G1 (fun x V p hp=>((H0.o.ser.2 x V).2.2 p hp).2) n0) (hsl:=H0.o.syml) (hsym:=H0.o.sym.next H0.o.wi f8.o f9) (hsn:=f9) (hsb:=by omega) (Ig:=H0.o.symv) (hpP:=H0.o.pP) (hpPO:=H0.o.pPO)
     (hb1:=gW cg.1 HB.o.1) (hb2:=gW cg.2.1 HB.o.2.1) (hb3:=gW cg.2.2 HB.o.2.2.1) (hb4:=Lb) (hJ:=?_)
    ·intro x V;obtain⟨c,hc⟩:=bd.o x (dL V);obtain⟨a,h1,h2,h3⟩:=H0.o.id _ hc;exact⟨a,h1,List.mem_map.2 ⟨x,V,by rw[cj,h1];rfl⟩,by rw[HE.o.2.1];exact h3⟩
    ·intro x V;obtain⟨c,hc⟩:=bd.o x (dL V);have:=H0.o.lnl.2 _ hc;rwa [fx]at this
    rintro t0 t1 t2 t3 t4 t5 t6 t7 t8 t9 N3 N4 t12 N5 N6 N7 N8 t17 N9 Of t20 t21 t22 t23 t24 t25 t26 O0 t28 t29 O1 t31 t32 t33 O2 t35 O3 t37 t38 t39 t40 t41 O4 O5 t44 t45 t46 O6 O7 t49 t50 t51 O8 t53 t54 t55 O9 Pl t58 t59 t60 Ps PO PP t64 PQ t66 t67 PR PS t70 PT t72 PU PV t75 t76 t77 t78 PW ⟨MC,d1,d2,dc,ga,gd⟩;dsimp only;have Ld:=aa ga;have a6:=aa gd;have MD:=aa La;clear ga gd La U cg Lb hA;go_wp2_with fail;have HT:=ak H0.o.wi f8.o a6.o;refine⟨⟨i+m,MC,d1,d2,dc,by have:=bE.o;omega,?_⟩,by have:=bE.o;simp only;omega⟩;rw[MD.o];refine⟨by rw[←qk s _ _ gg gi d1 d2 c' dc];exact Ld.o,HT,a6.o.keep (ha.o.blk d.o.z (by simp)) d.o.zo,a6.o.o (lt_of_block (ha.o.blk d.o.z (by simp))) d.o.zo,HE.o.2.2.2.2.2.2.kept (n:=N) (by have:=HT.kept;rwa [HE.o.2.2.1]at this) (by rw[a3.o];exact aw _) HT.upd.size,?_,?_,d.o.bd⟩
    ·have:=(fk.o.upd a5.o (by simp)).upd a6.o.upd (fw d.o.no);have e:(du ln).drop (i+m)=G7.drop m:=by rw[bK.o,List.drop_drop]
     rw[e];rw[show(G7.drop m).length=G7.length-m from cy]at this;exact this
    ·obtain⟨_,_,_,h1,_⟩:=fk.o.upd a5.o (by simp);exact a6.o.o h1.2 d.o.no
  ·obtain rfl:M=i:=by omega
   obtain⟨o3,cap3,rfl,_⟩:=id d.o.nm;have Ie:((du ln).drop M).length=0:=by rw[cy,HE.o.2.2.2.1];omega
   rw[Ie];have e1:(du ln).take M=du ln:=by rw[HE.o.2.2.2.1,aS]
   rw[e1,←HE.o.2.2.2.2.2.1]at d;clear e1 Ie;go_wp2_with fail;exact HJ.o _ _ _ _ _ _ _ _ _ _ _ _ _ _ _ _ _ _ _ _ _ _ _ _ _ _ _ _ _ _ _ _ _ _ _ _ _ _ _ _ _ _ _ _ _ _ _ _ _ _ _ _ _ _ _ _ _ _ _ _ _ _ _ _ _ _ _ _ _ _ _ _ _ _ _ _ _ _ _ _ _ _ _ _ _ _ _ _ _ _ _ _ _ _ _ _ _ _ _ _ _ _ _ _ _ _ _ _ _ _ _ _ _ _ _ _ _ _ _ _ _ _ _ _ _ _ _ _ _ _ _ _ _ _ _ _ _ _ _ _ _ _ _ _ _ _ _ _ _ _ _ _ _ _ _ _ _ _ _ _ _ _ _ _ _ _ _ _ _ _ _ _ _ _ _ _ _ _ _ _ _ _ _ _ _ _ _ _ _ _ _ _ _ _ _ _ _ _ _ _ _ _ _ _ _ _ _ _ _ _ _ _ _ _ _ _ _ _ _ _ _ _ _ _ _ _ _ _ _ _ _ _ _ _ _ _ _ _ _ _ _ _ _ _ _ _ _ _ _ _ _ _ _ ⟨K1,gg,gi,c',d.o.wi,d.o.wt⟩
end
end Go.Proofs.YtlgefdfflmgocaaGreatDoor
