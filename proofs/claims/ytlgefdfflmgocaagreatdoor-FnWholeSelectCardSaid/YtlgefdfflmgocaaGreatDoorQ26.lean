import Derived.Test.YtlgefdfflmgocaaGreatDoorQ25
set_option linter.all false
set_option maxRecDepth 100000
set_option maxHeartbeats 8000000
namespace Go.Proofs.YtlgefdfflmgocaaGreatDoor
variable{Ua Ub Uc Ud Ue Uf Ug Uh Uj Uk Ul Um Un Uo Up Uq Ur Us Ut Uu Uv Uw Ux Uy Uz UA UB UC UD UE UF UG UH UI UJ UK UL UM UN UO UP UQ UR US UT UU UV UW UX UY UZ Va Vb Vc Vd Ve Vf Vg Vh Vi Vj Vk Vl Vm Vn Vo Vp Vq Vr Vt Vu Vv Vw Vx Vy Vz VA VB VD VE VF VG VH VI VJ VK VL VM VN VO VP VQ VR VS VT VU VV VW VX VY VZ Wa Wb Wc Wd We Wf Wg Wh Wi Wj Wk Wl Wm Wn Wp Wq Wr Ws Wt Wu Wv Ww Wx Wy Wz WA WC WD WE WG WH WL WM WN WO WU WV WW WX WY WZ Xd Xe Xf Xg Xh Xi Xj Xk Xl Xm Xn Xo Xp Xq Xr Xt Xu Xv Xw Xx Xy Xz XA XB XC XD XE XF XG XH XI XJ XK XM XN XO XP XQ XR XS XT XU XV XW XX XY XZ Ya Yb Yc Yd Ye Yf Yg Yh Yi Yj Yl Ym Yn Yo Yp Yq Yr Ys Yt Yu Yv Yw Yx Yy Yz YA YB YC YD YE YF YG YH YI YJ YK YL YM YN YO YP YQ YR YS YT:Go.Value}
open Go Go.RowKit Xc Go.Proofs.Tryz
attribute [local go_sem ↓] Go.wp_at_zero Go.wp_at_succ
def sf(syms:List Bytes)(d:List (Nat×Value)):Prop:=∀o s,aT o d=some s→∃h:o<syms.length,s=.string (str syms[o])
theorem sf.put{syms:List Bytes}{d:List (Nat×Value)}(h:sf syms d)(m:Nat)(hm:m<syms.length):sf syms (cf m (.string (str syms[m])) d):=fun o s hg=>by
 rw[gj]at hg;split at hg
 ·next e=>subst e;exact⟨hm,(cI hg).symm⟩
 ·exact h o s hg
theorem kk.opened{w:World}{S g a:Nat}{v:Value}{r:Option Nat}{bs:Bytes}{l:List Bytes}(h:kk w S v g r bs a l)(hl:0<l.length):∃q rc,r=some q∧w.heap[S]? =some (.cells #[.iface 139 v,.int .i64 2,.int .i64 a,.slice (some ⟨q,0,none⟩) ((l.length+31)/32) rc,.int .i64 l.length] 394 (0,0))∧RdG w v g bs∧
 ∀i,i<(l.length+31)/32→w.cell? ⟨q,i,none⟩=some (.int .i64 (gS a l i:Nat)):=by
 obtain⟨D,hb,hr,d,e⟩:=h.blk;rcases d.2 with⟨hv,z⟩|⟨q,rc,cur,hv,rest⟩
 ·rw[gA]at z;omega
 ·subst hv;rw[gA]at hb d;refine⟨q,rc,e.symm,hb,hr,fun i A=>?_⟩;have:=d.cells (g:=q) rfl i _ (oT a l l.length i A);rw[aO,aK]at this;exact this
theorem CE{a:ByteArray}(h:sb a=[]):a=ByteArray.mk #[]:=by rw[←dX a,h]
structure rZ(syms:List Bytes)(M:RM)(bs c:Bytes):Prop where
 eq:bs=dE++(sec (bi syms)++c)
 len:bs.length<1000000
 few:syms.length<1000
 small:∀s∈syms,s.length≤60
 asc:syms.Pairwise (· <·)
 mem:∀x∈M,x.1≠ByteArray.mk #[]→sb x.1∈syms
theorem rZ.rev{w:World}{syms:List Bytes}{M:RM}{bs c:Bytes}{S g:Nat}{v:Value}{r:Option Nat}(H:rZ syms M bs c)(hS:kk w S v g r bs 5 syms){k:ByteArray}(A:sb k∈syms):
 ∃m z,∃h:m<syms.length,str syms[m]=k∧w.heap[S]? =some (.cells #[.iface 139 v,.int .i64 2,.int .i64 (5:Nat),z,.int .i64 syms.length] 394 (0,0))∧
  Calls prog 180 #[.agg #[.iface 139 v,.int .i64 2,.int .i64 (5:Nat),z,.int .i64 syms.length],.string k] w fun e w'=>e=.returned (.tuple #[.int .u32 m,.nilIface])∧Upd [] w w':=by
 obtain⟨m,hm,e⟩:=aQ A;obtain⟨q,rc,_,hb,hr,D⟩:=hS.opened (by omega);have d:=hr;obtain⟨off,cap,rfl,_⟩:=d;have F:=H;exact⟨m,_,hm,by rw[e,dX],hb,qI g off bs.length cap q rc 5 m k bs dE c syms w ⟨H.eq,rfl,rfl,by have:=H.len;omega,by have:=H.few;omega,fun s hs=>by have:=H.small s hs;omega⟩ hr D hm e H.asc⟩
theorem GL{w:World}(bm NS BR R S I g:Nat)(v:Value)(r:Option Nat)(bs c:Bytes)(syms:List Bytes)(M:RM)(hit:MIt Value.string w bm I (M.map fun x=>(x.1,x.2.1)) [])(hM:rZ syms M bs c)(hS:kk w S v g r bs 5 syms)
 (hb:w.heap[BR]? =some (.cells #[ptr R 0] 69 (0,0)))(hr5:w.cell? ⟨R,5,none⟩=some (ptr S 0))(hr6:w.cell? ⟨R,6,none⟩=some (.map (some NS)))(hns:w.heap[NS]? =some (bI (ec .u32) []))
 (G5:∀b∈[bm,BR,R,S,g]++r.toList,b≠NS∧b≠I)(hIN:I≠NS)(hlim:M.length<1000000)
 {Q:Exit→Act→World→Prop}{ds:List Deferred}
 (hJ:∀(u6 u7 p7 p9 qa om oo oq ov oR oS oX o0 o1 o2 o4 o5 o6 pc pg pl po pr ps pv pz pA pK pL pR pS:Value) (G:World) (z:List (Nat×Value)),G.heap[NS]? =some (bI (ec .u32) z)→sf syms z→Upd [NS,I] w G→Q .normal ⟨#[Ua,Ub,Uc,Ud,Ue,Uf,u6,u7,ptr BR 0,Uj,Uk,Ul,Um,Un,Uo,Up,Uq,Ur,Us,Ut,p7,p9,qa,Ux,Uy,Uz,UA,UB,UC,UD,UE,UF,UG,UH,UI,UJ,UK,UL,UM,UN,UO,UP,UQ,UR,US,UT,UU,UV,UW,UX,UY,UZ,Va,Vb,Vc,Vd,Ve,Vf,Vg,Vh,Vi,Vj,Vk,Vl,Vm,Vn,Vo,Vp,Vq,Vr,Vt,Vu,Vv,Vw,Vx,Vy,Vz,VA,VB,VD,VE,VF,VG,VH,VI,VJ,VK,VL,VM,VN,VO,VP,VQ,VR,VS,VT,VU,VV,VW,VX,VY,VZ,Wa,Wb,Wc,Wd,We,Wf,Wg,Wh,Wi,Wj,Wk,Wl,Wm,Wn,Wp,Wq,Wr,Ws,Wt,Wu,Wv,Ww,Wx,Wy,Wz,WA,WC,WD,WE,WG,WH,WL,WM,WN,WO,WU,WV,WW,WX,WY,WZ,Xd,Xe,Xf,Xg,Xh,Xi,Xj,Xk,Xl,Xm,Xn,Xo,Xp,Xq,Xr,Xt,Xu,Xv,Xw,Xx,Xy,Xz,XA,XB,XC,XD,XE,XF,XG,XH,XI,XJ,XK,XM,XN,XO,XP,XQ,XR,XS,XT,XU,XV,XW,XX,XY,XZ,Ya,Yb,Yc,Yd,Ye,Yf,Yg,Yh,Yi,Yj,.pointer (some ⟨I,0,none⟩),om,oo,oq,ov,oR,oS,oX,o0,o1,o2,o4,o5,o6,pc,pg,pl,po,pr,ps,pv,pz,pA,pK,pL,pR,pS,YL,YM,YN,YO,YP,YQ,YR,YS,YT],ds⟩ G):
 Code.wp prog (Db 3) Q ⟨#[Ua,Ub,Uc,Ud,Ue,Uf,Ug,Uh,ptr BR 0,Uj,Uk,Ul,Um,Un,Uo,Up,Uq,Ur,Us,Ut,Uu,Uv,Uw,Ux,Uy,Uz,UA,UB,UC,UD,UE,UF,UG,UH,UI,UJ,UK,UL,UM,UN,UO,UP,UQ,UR,US,UT,UU,UV,UW,UX,UY,UZ,Va,Vb,Vc,Vd,Ve,Vf,Vg,Vh,Vi,Vj,Vk,Vl,Vm,Vn,Vo,Vp,Vq,Vr,Vt,Vu,Vv,Vw,Vx,Vy,Vz,VA,VB,VD,VE,VF,VG,VH,VI,VJ,VK,VL,VM,VN,VO,VP,VQ,VR,VS,VT,VU,VV,VW,VX,VY,VZ,Wa,Wb,Wc,Wd,We,Wf,Wg,Wh,Wi,Wj,Wk,Wl,Wm,Wn,Wp,Wq,Wr,Ws,Wt,Wu,Wv,Ww,Wx,Wy,Wz,WA,WC,WD,WE,WG,WH,WL,WM,WN,WO,WU,WV,WW,WX,WY,WZ,Xd,Xe,Xf,Xg,Xh,Xi,Xj,Xk,Xl,Xm,Xn,Xo,Xp,Xq,Xr,Xt,Xu,Xv,Xw,Xx,Xy,Xz,XA,XB,XC,XD,XE,XF,XG,XH,XI,XJ,XK,XM,XN,XO,XP,XQ,XR,XS,XT,XU,XV,XW,XX,XY,XZ,Ya,Yb,Yc,Yd,Ye,Yf,Yg,Yh,Yi,Yj,.pointer (some ⟨I,0,none⟩),Yl,Ym,Yn,Yo,Yp,Yq,Yr,Ys,Yt,Yu,Yv,Yw,Yx,Yy,Yz,YA,YB,YC,YD,YE,YF,YG,YH,YI,YJ,YK,YL,YM,YN,YO,YP,YQ,YR,YS,YT],ds⟩ w:=by
 have qc:=aa hit;have W:=aa (And.intro hM (And.intro hS hlim));have HJ:=aa hJ;have HB:=aa (And.intro hb (And.intro hr5 hr6));have Hn:=aa (And.intro G5 hIN);have qm:=aa hns;clear hit hM hS hJ hb hr5 hr6 G5 hIN hns hlim;conv=>arg 2;whnf
 dsimp only;go_wp2_with fail;go_loopw [20] (fun _ wr=>∃done z,MIt Value.string wr bm I (M.map fun x=>(x.1,x.2.1)) done∧wr.heap[NS]? =some (bI (ec .u32) z)∧sf syms z∧z.length≤done.length∧Upd [NS,I] w wr) (fun _ wr=>g6 wr I M.length)
 case atStart=>exact⟨[],[],qc.o,qm.o,fun o s h=>by simp[aT]at h,aw _,(ae _).mono (by simp)⟩
 case round=>
  obtain⟨done,z,hI,hN,ad,hl,hU⟩:=hrel;have HI:=aa hI;have HN:=aa (And.intro hN (And.intro ad hl));have HU:=aa hU;rcases hI.next (P:=prog) 0 with⟨hd,d⟩|⟨j,a,v0,w3,hj,pW,gk,d,gF,G4,gL⟩
  ·have D:=aa d;clear hI hN ad hl hU d hd;go_wp2_with (at_next;refine dQ rfl _ rfl _ _ _ rfl D.o ?_);exact HJ.o _ _ _ _ _ _ _ _ _ _ _ _ _ _ _ _ _ _ _ _ _ _ _ _ _ _ _ _ _ _ _ _ z HN.o.1 HN.o.2.1 HU.o
  ·have D:=aa d;have F:Hid (Upd [NS,I] w w3):=aa (hU.then G4 (by intro b hb _;simp only[ag]at hb;simp[hb]));have A:∀b∈[bm,BR,R,S,g]++r.toList,b∉[NS,I]:=fun b hb=>by have:=Hn.o.1 b hb;simp[this.1,this.2]
   have b0:w3.cell? ⟨BR,0,none⟩=some (ptr R 0):=F.o.cell (A BR (by simp)) (af HB.o.1 0);have r5:w3.cell? ⟨R,5,none⟩=some (ptr S 0):=F.o.cell (A R (by simp)) HB.o.2.1;have r6:w3.cell? ⟨R,6,none⟩=some (.map (some NS)):=F.o.cell (A R (by simp)) HB.o.2.2;have gP:kk w3 S v g r bs 5 syms:=W.o.2.1.upd F.o (A S (by simp)) (A g (by simp)) (fun k hk=>A k (by simp[hk]));have qt:(Instr.entry (.pointer (some ⟨I,0,none⟩))).run prog w3=.ok (.tuple #[.string a,v0]) w3:=gL;have p0:=aa gF;have qo:=aa gk;have a0:=G4.blk hN (by simpa using aF Hn.o.2);have p1:Hid (∀G U,MIt Value.string G bm I (M.map fun x=>(x.1,x.2.1)) (done++[j])→G.heap[NS]? =some (bI (ec .u32) U)→sf syms U→U.length≤z.length+1→Upd [NS,I] w G→(∃done z,MIt Value.string G bm I (M.map fun x=>(x.1,x.2.1)) done∧G.heap[NS]? =some (bI (ec .u32) z)∧sf syms z∧z.length≤done.length∧Upd [NS,I] w G)∧g6 G I M.length<g6 wr I M.length):=aa (fun G U h1 h2 h3 h4 h5=>by refine⟨⟨done++[j],U,h1,h2,h3,by have:=HN.o.2.2;rw[ab];simp only[aj,ar];omega,h5⟩,?_⟩;rw[h1.left,(show g6 wr I M.length=M.length-done.length from HI.o.left _),ab];have:=qo.o;rw[aB]at this;simp only[aj,ar];omega)
   have g0:a≠ByteArray.mk #[]→sb a∈syms:=fun h=>by have h1:=bY hj;obtain⟨y,hy,e⟩:=List.mem_map.1 h1;have e1:y.1=a:=congrArg Prod.fst e;exact W.o.1.mem y hy (by rw[e1];exact h)|>fun h2=>by rw[e1]at h2;exact h2
   by_cases hk:a=ByteArray.mk #[]
   ·have a1:=aa a0;subst hk;clear hI hN ad hl hU d gF G4 hj pW gk gL gP a0 g0 A;go_wp2_with (at_next;refine dQ rfl _ rfl _ _ _ rfl D.o ?_);exact p1.o _ z p0.o a1.o HN.o.2.1 (by omega) F.o
   ·obtain⟨m,so,hm,em,p2,hC⟩:=W.o.1.rev gP (g0 hk);have qF:a.toList.isEmpty=false:=by
     have e2:a.toList=sb a:=bV a;rw[e2];cases hb:sb a with
     |nil=>exact absurd (CE hb) hk
     |cons x l=>rfl
    have a1:=aa a0;have HC:=aa hC;have qq:Hid (∃h:m<syms.length,str syms[m]=a):=aa ⟨hm,em⟩;have qv:(m:Int)<4294967296:=by have:=W.o.1.few;omega
    have KF:=aa (fun O (hu:Upd [] w3 O)=>show O.cell? ⟨BR,0,none⟩=some (ptr R 0)∧O.cell? ⟨R,6,none⟩=some (.map (some NS))∧(Instr.mapUpdate 149 (.map (some NS)) (.int .u32 (m:Int)) (.string a)).run prog O=.ok () (ChangeMaps.setBlock O NS (bI (ec .u32) (cf m (.string a) z)))from
     ⟨hu.cell (by simp) b0,hu.cell (by simp) r6,dB (P:=prog) (T:=149) (ec .u32) jB underlying149 (hu.blk a1.o (by simp)) m (.string a)⟩)
    have sS:∀i x,(#[Value.iface 139 v,.int .i64 2,.int .i64 (5:Nat),so,.int .i64 syms.length]:Array Value)[i]? =some x→w3.cell? ⟨S,i,none⟩=some x:=fun i x h=>by rw[af p2];exact h
    have s0:=sS 0 _ rfl;have s1:=sS 1 _ rfl;have s2:=sS 2 _ rfl;have s3:=sS 3 _ rfl;have s4:=sS 4 _ rfl;clear hI hN ad hl hU d gF G4 hj pW gk gL gP a0 g0 A hC em hk p2 sS hm
    go_wp2_with (first
     |(at_next;refine dQ rfl _ rfl _ _ _ rfl D.o ?_)
     |(go_at_call 180;refine HC.o.mono ?_;rintro e O ⟨rfl,V⟩;have g8:=aa V;have b0:=(KF.o O V).1;have r6:=(KF.o O V).2.1;have qP:=(KF.o O V).2.2;clear V))
    obtain⟨hm,em⟩:=qq.o;have hS:Upd [NS] O (ChangeMaps.setBlock O NS (bI (ec .u32) (cf m (.string a) z))):=d9;have qr:NS<O.heap.size:=lt_of_block (g8.o.blk a1.o (by simp));refine p1.o _ (cf m (.string a) z) ((p0.o.upd g8.o (by simp) (by simp)).upd hS ?_ ?_) ?_ (by rw[←em];exact HN.o.2.1.put m hm) (ug _ _ _) ((F.o.then g8.o (by simp)).then hS (fun b hb _=>by simp only[ag]at hb;simp[hb]))
    ·simpa using(Hn.o.1 bm (by simp)).1
    ·simpa using Hn.o.2
    ·exact gN qr
structure RdF(w:World)(R g base T:Nat)(v:Value)(bs:Bytes)(syms:List Bytes)(gs:List (Bytes×List (Bytes×Nat)))(t5 X S D bm NS:Nat)(r:Option Nat)(M:RM)(z:List (Nat×Value))(tc:TypeId)(xc:Value):Prop where
 rd:w.heap[R]? =some (.cells #[.iface 139 v,ptr X 0,.iface tc xc,.map (some bm),.map none,ptr S 0,.map (some NS),.pointer none,ptr D 0,.int .i64 (2:Nat)] 153 (0,0))
 x:∃t0 t1 t2 t3 t4,w.heap[X]? =some (.cells #[t0,t1,t2,t3,t4,.int .u64 t5] 231 (0,0))
 s:kk w S v g r bs 5 syms
 mem:kj Value.string clP 2 w 172 base bm M
 abs:jy M=jj gs
 ns:w.heap[NS]? =some (bI (ec .u32) z)
 nok:sf syms z
 d:w.heap[D]? =some (.cells #[.func (.func 181) #[ptr R 0] #[],.func (.func 55) #[] #[]] 167 (0,0))
 b:RdG w v g bs
 blk:∀b∈[R,X,S,D,NS]++r.toList++aR bm M,base≤b∧b<T
 g:g<base
def RdI(w:World)(R g base T:Nat)(v:Value)(bs:Bytes)(syms:List Bytes)(gs:List (Bytes×List (Bytes×Nat)))(t5:Nat):Prop:=∃X S D bm NS r M d tc xc,RdF w R g base T v bs syms gs t5 X S D bm NS r M d tc xc
section
variable {w w':World} {R g base T:Nat} {v:Value} {bs:Bytes} {syms:List Bytes} {gs:List (Bytes×List (Bytes×Nat))} {t5:Nat}
theorem RdF.upd{X S D bm NS:Nat}{r:Option Nat}{M:RM}{d:List (Nat×Value)}{tc:TypeId}{xc:Value}{L:List Nat}(h:RdF w R g base T v bs syms gs t5 X S D bm NS r M d tc xc)(hu:Upd L w w')(hL:∀b∈L,b≠g∧(b<base∨T≤b)):
 RdF w' R g base T v bs syms gs t5 X S D bm NS r M d tc xc:=by
 have hn:∀b∈[R,X,S,D,NS]++r.toList++aR bm M,b∉L:=fun b hb hl=>by have h1:=h.blk b hb;have F:=(hL b hl).2;omega
 have hg:g∉L:=fun hl=>(hL g hl).1 rfl;obtain⟨t0,t1,t2,t3,t4,z⟩:=h.x;exact⟨hu.blk h.rd (hn R (by simp)),⟨t0,t1,t2,t3,t4,hu.blk z (hn X (by simp))⟩,h.s.upd hu (hn S (by simp)) hg (fun k A=>hn k (by simp[A])),h.mem.upd hu (fun b hl hb=>hn b (by simp only[aA];exact .inr hb) hl),h.abs,hu.blk h.ns (hn NS (by simp)),h.nok,hu.blk h.d (hn D (by simp)),h.b.upd hu hg,h.blk,h.g⟩
theorem RdI.upd{L:List Nat}(h:RdI w R g base T v bs syms gs t5)(hu:Upd L w w')(hL:∀b∈L,b≠g∧(b<base∨T≤b)):RdI w' R g base T v bs syms gs t5:=by obtain⟨X,S,D,bm,NS,r,M,d,tc,xc,h⟩:=h;exact⟨X,S,D,bm,NS,r,M,d,tc,xc,h.upd hu hL⟩
theorem RdI.new(h:RdI w R g base T v bs syms gs t5)(hu:Upd [] w w'):RdI w' R g base T v bs syms gs t5:=h.upd hu (by simp)
end
theorem oH(a b:ByteArray):Op.bytesLess a.toList b.toList=decide (sb a<sb b):=by have e1:a.toList=sb a:=bV a;have e2:b.toList=sb b:=bV b;rw[e1,e2,bytesLess_eq]
theorem eqB(a b:ByteArray):(a.toList==b.toList)=decide (a=b):=by have e1:a.toList=sb a:=bV a;have e2:b.toList=sb b:=bV b;rw[e1,e2,dR,decide_eq_true_eq,beq_iff_eq];exact⟨fun h=>by rw[←dX a,h,dX],fun h=>by rw[h]⟩
structure PsM(w:World)(R d b4 z A G D F q qe cap ce O i:Nat)(U:ByteArray)(E:List (ByteArray×Nat))(res:Value):Prop where
 h25:w.heap[d]? =some (.cells #[.string U] 9 (0,0))
 h4:w.heap[b4]? =some (.cells #[ptr R 0] 69 (0,0))
 h23:w.heap[z]? =some (.cells #[res] 74 (0,0))
 h24:w.heap[A]? =some (.cells #[.int .i64 (O:Nat)] 3 (0,0))
 h7:w.heap[G]? =some (.cells #[.slice (some ⟨q,0,none⟩) 1 cap] 59 (0,0))
 h26:w.heap[D]? =some (.cells #[.int .i64 (i:Nat)] 3 (0,0))
 h21:w.heap[F]? =some (.cells #[.slice (some ⟨qe,0,none⟩) E.length ce] 169 (0,0))
 e:∀t (h:t<E.length),w.cell? ⟨qe,t*2,none⟩=some (.string E[t].1)
 len:1≤E.length∧E.length≤2∧i<E.length
theorem PsM.upd{L:List Nat}{w w':World}{R d b4 z A G D F q qe cap ce O i:Nat}{U:ByteArray}{E:List (ByteArray×Nat)}{res:Value}(h:PsM w R d b4 z A G D F q qe cap ce O i U E res)(hu:Upd L w w')(hL:∀b∈[d,b4,z,A,G,D,F,qe],b∉L):PsM w' R d b4 z A G D F q qe cap ce O i U E res:=
 ⟨hu.blk h.h25 (hL _ (by simp)),hu.blk h.h4 (hL _ (by simp)),hu.blk h.h23 (hL _ (by simp)),hu.blk h.h24 (hL _ (by simp)),hu.blk h.h7 (hL _ (by simp)),hu.blk h.h26 (hL _ (by simp)),hu.blk h.h21 (hL _ (by simp)),fun t V=>hu.cell (hL qe (by simp)) (h.e t V),h.len⟩
theorem AQ(w:World)(d z qe n ce i:Nat)(A:ByteArray)(E:List (ByteArray×Nat))(hn:n=E.length)(D:n≤2)(h21:w.heap[d]? =some (.cells #[.slice (some ⟨qe,0,none⟩) n ce] 169 (0,0)))(h25:w.heap[z]? =some (.cells #[.string A] 9 (0,0)))
 (he:∀t (h:t<E.length),w.cell? ⟨qe,t*2,none⟩=some (.string E[t].1))(F:i<E.length):
 Calls prog 61 #[.int .i64 i,ptr d 0,ptr z 0] w fun e w'=>e=.returned (.bool (!Op.bytesLess E[i].1.toList A.toList))∧Upd [] w w':=by
 have c1:w.cell? ⟨d,0,none⟩=some (.slice (some ⟨qe,0,none⟩) n ce):=af h21 0;have c2:w.cell? ⟨z,0,none⟩=some (.string A):=af h25 0;have c3:=he i F;have G:(0:Int)≤(i:Int):=by omega
 have h1:(i:Int)<(n:Int):=by omega
 generalize E[i].1=x at c3⊢;clear h21 h25 he;go_enter func61,ntmps61
 go_wp2_with fail;go_quiet (fail)
 go_wp2_with fail;go_ret;exact⟨rfl,(ae _).drewN _⟩
theorem GP(w:World)(R d b4 G z W A D q qe cap ce off:Nat)(val F:ByteArray)(E:List (ByteArray×Nat))(res:Value)(h:PsM w R d b4 G z W A D q qe cap ce 0 0 F E res)(hE:∃hE:1<E.length,sb F<sb E[1].1)(O:sb val<sb F):
 Calls prog 63 #[.string val,.int .u64 off,ptr d 0,ptr b4 0,ptr G 0,ptr z 0,ptr W 0,ptr A 0,ptr D 0] w fun e w'=>e=.returned (.tuple #[.bool true,.nilIface])∧Upd [] w w':=by
 obtain⟨U,V⟩:=hE;have hn:E.length=2:=by have:=h.len.2.1;omega
 have a1:w.cell? ⟨d,0,none⟩=some (.string F):=af h.h25 0;have a2:w.cell? ⟨z,0,none⟩=some (.int .i64 0):=af h.h24 0;have c7:w.cell? ⟨W,0,none⟩=some (.slice (some ⟨q,0,none⟩) 1 cap):=af h.h7 0;have a3:w.cell? ⟨A,0,none⟩=some (.int .i64 0):=af h.h26 0;have a4:w.cell? ⟨D,0,none⟩=some (.slice (some ⟨qe,0,none⟩) 2 ce):=by rw[←hn];exact af h.h21 0
 have ad:=h.e 1 U;have l1:Op.bytesLess val.toList F.toList=true:=by rw[oH];simpa using O
 have l2:Op.bytesLess F.toList E[1].1.toList=true:=by rw[oH];simpa using V
 generalize E[1].1=e1 at ad l2;clear h V hn U O;go_enter func63,ntmps63
 go_wp2_with fail;go_loopg [11] 0 (fun gg a0 wx=>a0=.bool false∧gg=0∧wx=w)
 case atStart=>exact⟨rfl,rfl,rfl⟩
 case round=>
  obtain⟨rfl,rfl,rfl⟩:=hrel;go_wp2_with fail;go_quiet (fail)
  go_wp2_with fail;go_ret2
  exact⟨rfl,(ae _).drewN _⟩
structure PsR(w:World)(R D g:Nat)(v:Value)(bs:Bytes):Prop where
 r0:w.cell? ⟨R,0,none⟩=some (.iface 139 v)
 r8:w.cell? ⟨R,8,none⟩=some (ptr D 0)
 d1:w.cell? ⟨D,1,none⟩=some (.func (.func 55) #[] #[])
 b:RdG w v g bs
theorem PsR.upd{L:List Nat}{w w':World}{R D g:Nat}{v:Value}{bs:Bytes}(h:PsR w R D g v bs)(hu:Upd L w w')(hR:R∉L)(d:D∉L)(hg:g∉L):PsR w' R D g v bs:=⟨hu.cell hR h.r0,hu.cell hR h.r8,hu.cell d h.d1,h.b.upd hu hg⟩
theorem Tryz.info76:(Tryz.prog.info? 76).map (fun i=>(i.zero,i.size,i.bytes))=some (some .nilIface,1,16):=by kernel_rfl
def zb(w:World)(d A g:Nat)(xs:List Nat)(val z:ByteArray)(res:Value)(w':World):Prop:=
 Upd [d,A] w w'∧(val≠z→w'.heap[d]? =some (.cells #[res] 74 (0,0)))∧
  (val=z→∃X r' q' D,w'.heap[d]? =some (.cells #[r'] 74 (0,0))∧r'=.slice (some ⟨q',0,none⟩) 1 D∧w'.cell? ⟨q',0,none⟩=some (gK X)∧BEP w' X g 0 xs∧w.heap.size≤X)
def rn(w:World)(d z D g:Nat)(xs:List Nat)(val A:ByteArray)(res:Value)(w':World):Prop:=
 w'.heap[z]? =some (.cells #[.int .i64 (1:Nat)] 3 (0,0))∧Upd [d,z,D] w w'∧
  (val≠A→w'.heap[d]? =some (.cells #[res] 74 (0,0)))∧
  (val=A→∃X r' q' F,w'.heap[d]? =some (.cells #[r'] 74 (0,0))∧r'=.slice (some ⟨q',0,none⟩) 1 F∧w'.cell? ⟨q',0,none⟩=some (gK X)∧BEP w' X g 0 xs∧w.heap.size≤X)
theorem rn.new{w w' d:World}{z A D g:Nat}{xs:List Nat}{val F:ByteArray}{res:Value}(h:rn w z A D g xs val F res w')(hu:Upd [] w' d):rn w z A D g xs val F res d:=
 ⟨hu.blk h.1 (by simp),h.2.1.then hu (by simp),fun e=>hu.blk (h.2.2.1 e) (by simp),fun e=>by obtain⟨X,r',q',G,h1,O,U,h4,h5⟩:=h.2.2.2 e;exact⟨X,r',q',G,hu.blk h1 (by simp),O,hu.cell (by simp) U,h4.upd hu (by simp) (by simp),h5⟩⟩
theorem GO(w:World)(R D g a0 b4 F d b7 a1 a2 q qe cap ce i O rc:Nat)(v:Value)(bs a c:Bytes)(xs:List Nat)(val sv:ByteArray)(E:List (ByteArray×Nat))(h:PsM w R a0 b4 F d b7 a1 a2 q qe cap ce 0 i sv E (.slice (some ⟨O,0,none⟩) 0 rc))(hR:PsR w R D g v bs)(hn:bs.length<1000000)(b8:¬sb val<sb sv)
 (hb:val=sv→bs=a++(sec (ey xs)++c))(b9:xs.length<100000)(G3:w.ownsRow 0 76 1 (.slice (some ⟨O,0,none⟩) 0 rc) 0 [])(ha:a.length<1000000)
 (hd:∀b∈[a0,b4,b7,a1,a2,qe,R,D,g],b∉[F,d,O])(ca:F≠d∧F≠O∧d≠O):
 Calls prog 63 #[.string val,.int .u64 (a.length:Nat),ptr a0 0,ptr b4 0,ptr F 0,ptr d 0,ptr b7 0,ptr a1 0,ptr a2 0] w fun e w'=>e=.returned (.tuple #[.bool false,.nilIface])∧rn w F d O g xs val sv (.slice (some ⟨O,0,none⟩) 0 rc) w':=by
 have HM:=aa h;have HR:=aa hR;have Hd:=aa (And.intro hd ca);obtain⟨A,hA⟩:∃A,A=a.length:=⟨_,rfl⟩;have Hb:=aa (And.intro hb (And.intro b9 (And.intro G3 hA)));have l1:Op.bytesLess val.toList sv.toList=false:=by rw[oH];simpa using b8
 have cY:(A:Int)<1000000:=by omega
 rw[←hA];have cZ:w.cell? ⟨a0,0,none⟩=some (.string sv):=af h.h25 0;clear h hR hd ca hb b9 G3 ha hA b8;go_enter func63,ntmps63
 go_wp2_with fail;go_loopg [11] 0 (fun gg c0 wx=>c0=.bool false∧gg=0∧wx=w)
 case atStart=>exact⟨rfl,rfl,rfl⟩
 case round=>
  obtain⟨rfl,rfl,rfl⟩:=hrel;go_upto_if 22 with fail
  obtain⟨B,hB⟩:∃B,(val.toList==sv.toList)=B:=⟨_,rfl⟩;rw[hB];rw[eqB]at hB;go_cut []from 13 to 50 (fun wx=>zb wr F O g xs val sv (.slice (some ⟨O,0,none⟩) 0 rc) wx)
  case first=>
   by_cases hvs:val=sv
   ·obtain rfl:B=true:=by rw[←hB];simpa using hvs
    clear hB;have cc:∀w' x u tb,x=.iface 139 v→u=.int .i64 (A:Nat)→ij w' tb→RdG w' v g bs→Calls prog 57 #[x,u,.pointer (some ⟨tb,0,none⟩)] w' fun r bd=>∃v',r=.returned (.agg #[v',.nilIface])∧RdG bd v' g (ey xs)∧Upd [] w' bd:=fun w' x u tb hx hu ht h=>by subst hx hu;rw[Hb.o.2.2.2];exact lp g tb v bs a (ey xs) c w' h ht (Hb.o.1 hvs) (by omega)
    have cg:=aa cc;have ck:IntKind.i64.wrap (A:Int)=(A:Int):=by rw[bo];omega
    have KS:=aa (fun w' (hu:Upd [] wr w')=>show w'.cell? ⟨b4,0,none⟩=some (ptr R 0)∧w'.cell? ⟨R,0,none⟩=some (.iface 139 v)from⟨hu.cell (by simp) (af HM.o.h4 0),hu.cell (by simp) HR.o.r0⟩);have r4:=(KS.o _ (ae _)).1;have r0:=(KS.o _ (ae _)).2;have n1:wr.heap.size≠b4:=by have:=lt_of_block HM.o.h4;omega
    have n2:wr.heap.size≠R:=by have:=ez r0;simp only at this;omega
    have NE:=aa (fun w' (hu:Upd [] wr w')=>show w'.heap.size≠b4∧w'.heap.size≠R from by have:=hu.size;have:=lt_of_block HM.o.h4;have:=ez r0;simp only at this;omega);have c6:=aa hvs;clear cc hvs cZ l1;go_upto_region 3 with fail
    go_cut [13]from 17 to 50 (fun u wx=>∃p v',u=ptr p 0∧wx.heap[p]? =some (.cells #[v',.nilIface] 159 (0,0))∧RdG wx v' g (ey xs)∧wr.heap.size≤p∧Upd [] wr wx)
    case first=>
     go_region_held3 (fun w'=>w'.cell? ⟨b4,0,none⟩=some (ptr R 0)∧w'.cell? ⟨R,0,none⟩=some (.iface 139 v)) (go_keep) (first
      |(go_at_call 58;refine(eL _).mono ?_;rintro e w8 ⟨tb,rfl,cn,_,be⟩;have ad:Hid (Upd [] wr w8):=aa (by with_reducible first|exact((ae _).drew).then be (fun _ h _=>h)|exact(((ae _).drew).alloc _).then be (fun _ h _=>h)|exact(((ae _).alloc _).drew).then be (fun _ h _=>h));have c7:Hid (∀w',Upd [] w8 w'→ij w' tb):=aa (fun w' hu=>hu.blk cn (by simp));(try(have cp:w8.heap[wr.heap.size]? =some (.cells #[.slice none 0 0,.nilIface] 159 (0,0)):=be.blk (by with_reducible first|exact an _|exact bQ (an _)|exact bQ (w:=wr.alloc (.cells #[.slice none 0 0,.nilIface] 159 (0,0))) (an wr)) (by simp);have c8:=aa cp;clear cp));clear be cn;have m1:=(NE.o _ ad.o).1;have m2:=(NE.o _ ad.o).2;have r4:=(KS.o _ ad.o).1;have r0:=(KS.o _ ad.o).2)
      |(go_at_call 57;refine(cg.o _ _ _ tb (by with_reducible rfl) (by first|with_reducible rfl|(rw[ck])) (c7.o _ (by with_reducible first|exact ae _|exact(ae _).alloc _)) (HR.o.b.upd (L:=[]) (by with_reducible first|exact ad.o|exact ad.o.alloc _) (by simp))).mono ?_;rintro e a3 ⟨v',rfl,cs,bg⟩;have V:Hid (Upd [] wr a3):=aa (by with_reducible first|exact ad.o.then bg (fun _ h _=>h)|exact(ad.o.alloc _).then bg (fun _ h _=>h));have bl:=aa cs;obtain⟨o',c',rfl,c9,dc⟩:=cs;(try(have hD:a3.heap[wr.heap.size]? =some (.cells #[.slice none 0 0,.nilIface] 159 (0,0)):=bg.blk c8.o (by simp);have d0:a3.cell? ⟨wr.heap.size,0,none⟩=some (.slice none 0 0):=af hD 0;have d1:a3.cell? ⟨wr.heap.size,1,none⟩=some .nilIface:=af hD 1;have f0:=ao hD 0;have f1:=ao hD 1;have HD:=aa hD;clear hD));(try(have hD:a3.heap[w8.heap.size]? =some (.cells #[.slice none 0 0,.nilIface] 159 (0,0)):=bg.blk (by with_reducible exact an _) (by simp);have d0:a3.cell? ⟨w8.heap.size,0,none⟩=some (.slice none 0 0):=af hD 0;have d1:a3.cell? ⟨w8.heap.size,1,none⟩=some .nilIface:=af hD 1;have f0:=ao hD 0;have f1:=ao hD 1;have HD:=aa hD;clear hD));clear bg c9 dc;have r4:=(KS.o _ V.o).1;have r0:=(KS.o _ V.o).2))
     all_goals
      go_wp2_with fail;go_meet
      have ej:=HR.o.b.lt;have dd:=V.o.size;have ct:=ad.o.size
      first
       |exact⟨_,_,rfl,an _,bl.o.upd ((ae _).alloc _) (by simp),dd,V.o.alloc _⟩
       |exact⟨_,_,rfl,au (au HD.o 0 _) 1 _,bl.o.upd ((((ae _).mono (M:=[wr.heap.size]) (by simp)).setCell (fun _=>by simp) _).setCell (fun _=>by simp) _) (by simp only[ag];omega),aw _,(V.o.setCell (fun h=>absurd h (cR _)) _).setCell (fun h=>absurd h (cR _)) _⟩
       |exact⟨_,_,rfl,au (au HD.o 0 _) 1 _,bl.o.upd ((((ae _).mono (M:=[w8.heap.size]) (by simp)).setCell (fun _=>by simp) _).setCell (fun _=>by simp) _) (by simp only[ag];omega),ct,(V.o.setCell (fun h=>by simp only at h;omega) _).setCell (fun h=>by simp only at h;omega) _⟩
    case rest=>
     obtain⟨p,v',rfl,hp,hv,cA,hu⟩:=hcut;generalize wc=w2 at*;have HP:=aa (And.intro hp (And.intro hv (And.intro cA hu)));have cB:=HM.o.upd hu (by simp);have bM:=HR.o.upd hu (by simp) (by simp) (by simp);have r4:w2.cell? ⟨b4,0,none⟩=some (ptr R 0):=af cB.h4 0;have r8:=bM.r8;have d1:=bM.d1;have p0:w2.cell? ⟨p,0,none⟩=some v':=af hp 0;have p1:w2.cell? ⟨p,1,none⟩=some .nilIface:=af hp 1;have KD:Hid (∀w' x,x=.agg #[v',.nilIface]→Upd [] w2 w'→Calls prog 55 #[x] w' fun e bd=>∃X,e=.returned (.tuple #[.int .i64 (xs.length:Nat),.iface 267 (ptr X 0),.nilIface])∧BEP bd X g 0 xs∧w'.heap.size≤X∧Upd [] w' bd):=aa (fun w' x hx hu=>by subst hx;exact xB g v' xs w' (HP.o.2.1.upd hu (by simp)) Hb.o.2.1)
     clear hp hv cA hu cB bM r0 n1 n2 KS cg ck NE;go_upto_region 4 with fail
     go_cut [15,16]from 14 to 50 (fun u1 u2 wx=>∃X,u1=gK X∧u2=.nilIface∧BEP wx X g 0 xs∧w2.heap.size≤X∧Upd [] w2 wx)
     case first=>
      have bn:=aa (fun w' (hu:Upd [] w2 w')=>show w'.cell? ⟨b4,0,none⟩=some (ptr R 0)∧w'.cell? ⟨R,8,none⟩=some (ptr D 0)∧w'.cell? ⟨D,1,none⟩=some (.func (.func 55) #[] #[])∧w'.cell? ⟨p,0,none⟩=some v'∧w'.cell? ⟨p,1,none⟩=some .nilIface from⟨hu.cell (by simp) r4,hu.cell (by simp) r8,hu.cell (by simp) d1,hu.cell (by simp) p0,hu.cell (by simp) p1⟩)
      go_region_held3 (fun w'=>w'.cell? ⟨b4,0,none⟩=some (ptr R 0)∧w'.cell? ⟨R,8,none⟩=some (ptr D 0)∧w'.cell? ⟨D,1,none⟩=some (.func (.func 55) #[] #[])∧w'.cell? ⟨p,0,none⟩=some v'∧w'.cell? ⟨p,1,none⟩=some .nilIface) (go_keep) (first
       |(go_at_call 55;refine(KD.o _ _ (by with_reducible rfl) (by with_reducible first|exact(ae _).drew|exact ae _)).mono ?_;rintro e w3 ⟨X,rfl,hX,a4,G4⟩;have H3:Hid (BEP w3 X g 0 xs∧w2.heap.size≤X∧Upd [] w2 w3):=aa ⟨hX,a4,by with_reducible first|exact((ae _).drew).then G4 (fun _ h _=>h)|exact G4⟩;clear hX a4 G4;have r4:=(bn.o _ H3.o.2.2).1;have r8:=(bn.o _ H3.o.2.2).2.1;have d1:=(bn.o _ H3.o.2.2).2.2.1;have p0:=(bn.o _ H3.o.2.2).2.2.2.1;have p1:=(bn.o _ H3.o.2.2).2.2.2.2))
      all_goals
       go_wp2_with fail;go_meet
       exact⟨X,rfl,rfl,H3.o⟩
     case rest=>
      obtain⟨X,rfl,rfl,hX,a4,G4⟩:=hcut;generalize wc=w3 at*;have HX:=aa (And.intro hX a4);have bB:Hid (Upd [] wr w3):=aa (HP.o.2.2.2.then G4 (by simp));have cD:=aa (HM.o.upd bB.o (by simp));have dj:w3.cell? ⟨F,0,none⟩=some (.slice (some ⟨O,0,none⟩) 0 rc):=af cD.o.h23 0;obtain⟨eb,br⟩:∃eb,eb=w3.heap.size:=⟨_,rfl⟩;obtain⟨w4,a7⟩:∃w4,w4=w3.alloc (.cells #[gK X] 76 (0,0)):=⟨_,rfl⟩;have bE:Upd [] w3 w4:=by rw[a7];exact(ae _).alloc _
      have cE:w4.heap[eb]? =some (.cells #[gK X] 76 (0,0)):=by rw[a7,br];exact an _
      have bO:=(Hb.o.2.2.1.lt O rfl).2;have bR:=bB.o.size;obtain⟨i0,hi,cF,cL,cM⟩:=info_parts Tryz.info76;obtain⟨v5,W,a6,bv,bw,bS⟩:=jH (P:=prog) 74 76 i0 .nilIface 1 16 underlying74 hi cF cL cM rfl (by decide) (b0:={wr with heap:= #[]}) (w0:=w3) (w:=w4) (v:=.slice (some ⟨O,0,none⟩) 0 rc) (n:=0) (xs:=[]) ⟨bB.o.row Hb.o.2.2.1 (by simp),fun b _=>ay _⟩ bE [gK X] rfl (by simp[Value.oneCell']) eb 76 cE (ay _) (by unfold maxLen;omega) (by omega);rw[br,a7]at a6;obtain⟨v0,cN⟩:∃v0,v0=Value.slice (some ⟨O,0,none⟩) 0 rc:=⟨_,rfl⟩;rw[←cN]at a6 dj;have dk:=aa a6.o;clear cN;have dp:=aa (And.intro a7 (And.intro bE (And.intro bO bR)));have bW:Hid (Upd [O] w3 W):=aa (by have:=bw.o;simpa[Value.ownBlock]using this);have a9:=bW.o.blk cD.o.h23 (by have:=Hd.o.2.2.1;simpa using this);have c5:∃z,W.cell? ⟨F,0,none⟩=some z:=⟨_,af a9 0⟩;obtain⟨z5,c5⟩:=c5;have f5:W.frozen? ⟨F,0,none⟩=false:=ao a9 0;have ds:=aa (And.intro a9 br);clear hX a4 G4 bE cE bO bR a9 a6 a7 br r4 r8 d1 p0 p1 KD hi cF cL cM;rcases bv.o.shape with⟨_,h0,_⟩|⟨q',c',rfl,_,dF⟩
      ·exact absurd h0 (by decide)
      clear r4 hn cY dF;go_wp2_with (at_builtin;refine bc rfl _ _ _ rfl _ _ _ _ rfl rfl dk.o ?_);go_meet
      obtain⟨a7,bE,bO,bR⟩:=dp.o;obtain⟨a9,br⟩:=ds.o;have dP:=Hd.o.2;have U:Upd [F] W (W.setCell ⟨F,0,none⟩ (.slice (some ⟨q',0,none⟩) 1 c')):=((ae W).mono (by simp)).setCell (by simp) _;have eg:=lt_of_block HM.o.h23;have dT:=bS.o q' rfl;have ea:q'≠F:=by
       rcases dT with h1|h1
       ·simp only[Value.ownBlock,aM]at h1;rw[←h1];exact aF dP.2.1
       ·omega
      have bA:=bv.o.1.cells (g:=q') rfl 0 (gK X) rfl;rw[aO]at bA;have a4:wr.heap.size≤X:=by have:=HX.o.2;have:=HP.o.2.2.2.size;omega
      refine⟨((bB.o.mono (by simp)).then bW.o (fun b hb _=>by simp only[ag]at hb;simp[hb])).then U (fun b hb _=>by simp only[ag]at hb;simp[hb]),fun h=>absurd c6.o h,fun _=>⟨X,_,q',c',au a9 0 _,rfl,?_,(HX.o.1.upd bW.o (by simp only[ag];omega) ?_).upd U (by simp only[ag];omega) ?_,a4⟩⟩
      ·exact U.cell (by simpa using ea) bA
      ·have:=Hd.o.1 g (by simp);simp only[ah,ai,or_false,not_or]at this;simpa using this.2.2
      ·have:=Hd.o.1 g (by simp);simp only[ah,ai,or_false,not_or]at this;simpa using this.1
   ·obtain rfl:B=false:=by rw[←hB];simpa using hvs
    clear hB;have HQ:Hid (zb wr F O g xs val sv (.slice (some ⟨O,0,none⟩) 0 rc) wr):=aa ⟨(ae _).mono (by simp),fun _=>HM.o.h23,fun e=>absurd e hvs⟩;clear hvs;go_wp2_with fail;go_meet
    exact HQ.o
  case rest=>
   have HQ:=aa hcut;clear hcut;generalize wc=W at*;have ef:=HM.o.len;have a5:=Hd.o;have hk:∀b∈[a0,b4,b7,a1,a2,qe],b∉[F,O]:=fun b hb hm=>by
    have:=a5.1 b (by simp only[ah,ai,or_false]at hb⊢;rcases hb with rfl|rfl|rfl|rfl|rfl|rfl<;>simp);simp only[ah,ai,or_false,not_or]at this hm;rcases hm with h1|h1
    ·exact this.1 h1
    ·exact this.2.2 h1
   have bK:d∉[F,O]:=by simp only[ah,ai,or_false,not_or];exact⟨aF a5.2.1,a5.2.2.2⟩
   have bw:=HQ.o.1;have h24:=bw.blk HM.o.h24 bK;have el:W.cell? ⟨d,0,none⟩=some (.int .i64 0):=af h24 0;have f24:W.frozen? ⟨d,0,none⟩=false:=ao h24 0;have U:Upd [d] W (W.setCell ⟨d,0,none⟩ (.int .i64 1)):=((ae W).mono (by simp)).setCell (by simp) _;have G:Upd [F,d,O] wr (W.setCell ⟨d,0,none⟩ (.int .i64 1)):=(bw.mono (by simp)).then U (fun b hb _=>by simp only[ag]at hb;simp[hb]);have bb:∀b∈[a0,b7,a1,a2,qe],b∉[F,d,O]:=fun b hb=>a5.1 b (by simp only[ah,ai,or_false]at hb⊢;rcases hb with rfl|rfl|rfl|rfl|rfl<;>simp);have k7:(W.setCell ⟨d,0,none⟩ (.int .i64 1)).cell? ⟨b7,0,none⟩=some (.slice (some ⟨q,0,none⟩) 1 cap):=G.cell (bb b7 (by simp)) (af HM.o.h7 0);have ep:(W.setCell ⟨d,0,none⟩ (.int .i64 1)).cell? ⟨a0,0,none⟩=some (.string sv):=G.cell (bb a0 (by simp)) (af HM.o.h25 0);have et:(W.setCell ⟨d,0,none⟩ (.int .i64 1)).cell? ⟨a1,0,none⟩=some (.int .i64 i):=G.cell (bb a1 (by simp)) (af HM.o.h26 0);obtain⟨n,b5⟩:∃n,n=E.length:=⟨_,rfl⟩;have ev:(W.setCell ⟨d,0,none⟩ (.int .i64 1)).cell? ⟨a2,0,none⟩=some (.slice (some ⟨qe,0,none⟩) n ce):=by rw[b5];exact G.cell (bb a2 (by simp)) (af HM.o.h21 0)
   have eE:(W.setCell ⟨d,0,none⟩ (.int .i64 1)).cell? ⟨d,0,none⟩=some (.int .i64 1):=af (au h24 0 (.int .i64 1)) 0;have HF:Hid (rn wr F d O g xs val sv (.slice (some ⟨O,0,none⟩) 0 rc) (W.setCell ⟨d,0,none⟩ (.int .i64 1))):=aa (by
    have bL:F∉[d]:=by simpa using a5.2.1
    refine⟨au h24 0 (.int .i64 1),G,fun h=>U.blk (HQ.o.2.1 h) bL,fun h=>?_⟩;obtain⟨X,r',q',c',h1,h2,h3,h4,h5⟩:=HQ.o.2.2 h;have cO:g∉[d]:=by have:=a5.1 g (by simp);simp only[ah,ai,or_false,not_or]at this;simpa using this.2.1
    have ei:=lt_of_block HM.o.h24;have cP:q'∉[d]:=by simp only[ag];rintro rfl;have e:=af h24 0;rw[h3]at e;cases e
    exact⟨X,r',q',c',U.blk h1 bL,h2,U.cell cP h3,h4.upd U (by simp only[ag];omega) cO,h5⟩)
   have Hi:Hid (∀h:1<E.length,(W.setCell ⟨d,0,none⟩ (.int .i64 1)).cell? ⟨qe,2,none⟩=some (.string E[1].1)):=aa (fun h=>G.cell (bb qe (by simp)) (HM.o.e 1 h));have b6:(i=0∧n=1)∨(i=1∧n=2)∨(i=0∧n=2):=by omega
   have cX:=aa b5;clear ef a5 hk bK bw h24 U G bb b5;rcases b6 with⟨rfl,rfl⟩|⟨rfl,rfl⟩|⟨rfl,rfl⟩
   ·go_wp2_with fail;go_quiet (fail)
    go_wp2_with fail;go_ret2
    exact⟨rfl,HF.o.new ((ae _).drewN _)⟩
   ·go_wp2_with fail;go_quiet (fail)
    go_wp2_with fail;go_ret2
    exact⟨rfl,HF.o.new ((ae _).drewN _)⟩
   ·have ke:=Hi.o (by rw[←cX.o];decide);generalize (E[1]'(by rw[←cX.o];decide)).1=e1 at ke;go_wp2_with fail;obtain⟨B2,eG⟩:∃B2,Op.bytesLess sv.toList e1.toList=B2:=⟨_,rfl⟩;cases B2
    ·go_quiet (fail)
     go_wp2_with fail;go_ret2
     exact⟨rfl,HF.o.new ((ae _).drewN _)⟩
    ·go_quiet (fail)
     go_wp2_with fail;go_ret2
     exact⟨rfl,HF.o.new ((ae _).drewN _)⟩
theorem DM:∀(xs:List (ByteArray×Nat)) (t:Nat) (h:t<xs.length),(xs.flatMap clP)[t*2]? =some (.string xs[t].1)∧(xs.flatMap clP)[t*2+1]? =some (.int .i64 (xs[t].2:Nat)):=by
 intro xs;induction xs with
 |nil=>intro t h;simp at h
 |cons x xs d=>
  intro t h;cases t with
  |zero=>simp[clP]
  |succ t=>
   have h1:=d t (by simpa using h);have e:(t+1)*2=(clP x).length+t*2:=by simp only[clP,aj,ar];omega
   rw[aY,e,bC (by omega),bC (by omega)];have e2:(clP x).length+t*2-(clP x).length=t*2:=by omega
   have e3:(clP x).length+t*2+1-(clP x).length=t*2+1:=by omega
   rw[e2,e3];exact h1
structure PsT(w:World)(bm:Nat)(M:RM)(gs:List (Bytes×List (Bytes×Nat)))(nm:ByteArray)(qe ce k n0:Nat)(gr:Bytes×List (Bytes×Nat))(rest:List (Bytes×Bytes×Nat))(E:List (ByteArray×Nat)):Prop where
 grp:wK gs (sb nm) k n0 gr rest
 eq:E=mO (nR n0 gr)
 get:aT nm (M.map fun x=>(x.1,x.2.1))=some (.slice (some ⟨qe,0,none⟩) E.length ce)
 blk:qe∈aR bm M
 cell:∀t (h:t<E.length),w.cell? ⟨qe,t*2,none⟩=some (.string E[t].1)∧w.cell? ⟨qe,t*2+1,none⟩=some (.int .i64 (E[t].2:Nat))
theorem mget_mem{κ:Type}[DecidableEq κ]{ν:Type}{k:κ}{v:ν}:∀{l:List (κ×ν)},aT k l=some v→(k,v)∈l:=by
 intro l;induction l with
 |nil=>intro h;simp[aT]at h
 |cons x l d=>
  obtain⟨a,y⟩:=x;intro h;simp only[aT]at h;split at h
  ·next e=>subst e;cases h;simp
  ·exact aH _ (d h)
theorem Eu{w:World}{base bm:Nat}{M:RM}{gs:List (Bytes×List (Bytes×Nat))}(hm:kj Value.string clP 2 w 172 base bm M)(A:jy M=jj gs)(hn:(gs.map (·.1)).Nodup)(nm:ByteArray):
 (aT nm (M.map fun x=>(x.1,x.2.1))=none∧∀gr∈gs,gr.1≠sb nm)∨∃qe ce k n0 gr rest E,PsT w bm M gs nm qe ce k n0 gr rest E:=by
 have e1:∀k,aT k (M.map fun x=>(x.1,x.2.1))=(aT k M).map fun y=>y.1:=fun k=>fq (fun y:Value×Nat×List (ByteArray×Nat)=>y.1) k M;have e2:=nv nm M;rw[A]at e2;by_cases d:∃gr∈gs,gr.1=sb nm
 ·obtain⟨gr,hg,e⟩:=d;obtain⟨k,n0,rest,G⟩:=DU hn hg;rw[e]at G;have h1:=G.tab;rw[dX,e2]at h1;cases hM:aT nm M with
  |none=>rw[hM]at h1;cases h1
  |some y=>
   obtain⟨v,qe,xs⟩:=y;rw[hM]at h1;have D:xs=mO (nR n0 gr):=cI h1;have hmem:=mget_mem hM;have G3:nh clP 2 w 172 v qe xs:=hm.row _ hmem;obtain⟨ce,rfl⟩:=G3.shape;refine .inr ⟨qe,ce,k,n0,gr,rest,xs,G,D,by rw[e1,hM];rfl,by simp only[aR,ah,bU];exact .inr ⟨_,hmem,rfl⟩,fun t F=>?_⟩;obtain⟨O,h4⟩:=DM xs t F;have h5:=G3.own.cells (g:=qe) rfl _ _ O;have z:=G3.own.cells (g:=qe) rfl _ _ h4;rw[aO,aK]at h5 z;exact⟨h5,z⟩
 ·refine .inl ⟨?_,fun gr hg e=>d ⟨gr,hg,e⟩⟩;have h1:=Aa (gs:=gs) (nm:=sb nm) (fun gr hg e=>d ⟨gr,hg,e⟩);rw[dX,e2]at h1;rw[e1];cases hM:aT nm M with
  |none=>rfl
  |some y=>rw[hM]at h1;cases h1
structure PsC(gs:List (Bytes×List (Bytes×Nat)))(s:Bytes)(k:Nat)(gr:Bytes×List (Bytes×Nat))(E:List (ByteArray×Nat))(i t0 m:Nat):Prop where
 off:∃h:i<E.length,E[i].2=4+(poB ((gs.flatMap ent).take (k+t0))).length
 lt:t0+m<gr.2.length
 less:∀j (h:t0+j<gr.2.length),j<m→gr.2[t0+j].1<s
 ge:¬(gr.2[t0+m]'lt).1<s
 cont:0<m→i=0∧∃h:1<E.length,s<sb E[1].1
 ne:(gr.2[t0+m]'lt).1≠s→∀y∈gr.2,y.1≠s
theorem wW{gs:List (Bytes×List (Bytes×Nat))}{nm:Bytes}{k n0:Nat}{gr:Bytes×List (Bytes×Nat)}{rest:List (Bytes×Bytes×Nat)}(G:wK gs nm k n0 gr rest)(t:Nat)(d:t≤gr.2.length):n0+(poB ((ent gr).take t)).length=4+(poB ((gs.flatMap ent).take (k+t))).length:=by
 have hl:(ent gr).length=gr.2.length:=by simp[ent]
 have e:(gs.flatMap ent).take (k+t)=(gs.flatMap ent).take k++(ent gr).take t:=by rw[List.take_add,G.ent,List.take_append_of_le_length (by omega)]
 rw[e,poB_append,ab,G.off];omega
theorem PsT.vals{w:World}{bm:Nat}{M:RM}{gs:List (Bytes×List (Bytes×Nat))}{nm:ByteArray}{qe ce k n0:Nat}{gr:Bytes×List (Bytes×Nat)}{rest:List (Bytes×Bytes×Nat)}{E:List (ByteArray×Nat)}(h:PsT w bm M gs nm qe ce k n0 gr rest E)(G5:gr.2≠[]):
 ∃z:0<gr.2.length,(E.length=1∨E.length=2)∧(E.length=1→gr.2.length=1)∧(∃hE:0<E.length,E[0]=(str gr.2[0].1,4+(poB ((gs.flatMap ent).take (k+0))).length))∧
  ∀hE:1<E.length,E[1]=(str (gr.2[gr.2.length-1]'(by omega)).1,4+(poB ((gs.flatMap ent).take (k+(gr.2.length-1)))).length):=by
 have z:0<gr.2.length:=List.length_pos_iff.2 G5;have t0:=uQ n0 gr 0 z;have t1:=uQ n0 gr (gr.2.length-1) (by omega);rw[wW h.grp 0 (by omega)]at t0;rw[wW h.grp _ (by omega)]at t1;refine⟨z,?_⟩;rcases B6 (nR n0 gr) gr.2.length (yM n0 gr).symm z with⟨h1,a,e,d⟩|⟨h1,a,b,e,d,A⟩
 ·rw[t0]at d;have e2:E=[a]:=h.eq.trans e;subst e2;exact⟨.inl rfl,fun _=>h1,⟨by simp,by simpa using(cI d).symm⟩,fun hE=>by simp at hE⟩
 ·rw[t0]at d;rw[t1]at A;have e2:E=[a,b]:=h.eq.trans e;subst e2;exact⟨.inr rfl,fun h=>by simp at h,⟨by simp,by simpa using(cI d).symm⟩,fun hE=>by simpa using(cI A).symm⟩
section
variable {w:World} {bm:Nat} {M:RM} {gs:List (Bytes×List (Bytes×Nat))} {nm:ByteArray} {qe ce k n0:Nat} {gr:Bytes×List (Bytes×Nat)} {rest:List (Bytes×Bytes×Nat)} {E:List (ByteArray×Nat)} {s:Bytes}
theorem PsT.c1(h:PsT w bm M gs nm qe ce k n0 gr rest E)(G5:gr.2≠[])(hE:0<E.length)(e:sb E[0].1=s):PsC gs s k gr E 0 0 0:=by
 obtain⟨z,_,_,⟨_,d⟩,_⟩:=h.vals G5;have e1:gr.2[0].1=s:=by rw[d,dG]at e;exact e
 exact⟨⟨hE,by rw[d]⟩,z,fun j _ A=>by omega,by rw[e1];exact cT _,fun h=>by omega,fun h=>absurd e1 h⟩
theorem PsT.c2(h:PsT w bm M gs nm qe ce k n0 gr rest E)(G5:gr.2≠[])(hE:1<E.length)(e:sb E[1].1=s):PsC gs s k gr E 1 (gr.2.length-1) 0:=by
 obtain⟨z,_,_,_,d⟩:=h.vals G5;have d:=d hE;have e1:(gr.2[gr.2.length-1]'(by omega)).1=s:=by rw[d,dG]at e;exact e
 exact⟨⟨hE,by rw[d]⟩,by omega,fun j _ A=>by omega,by simp only[iL];rw[e1];exact cT _,fun h=>by omega,fun h=>absurd e1 h⟩
theorem PsT.c3(h:PsT w bm M gs nm qe ce k n0 gr rest E)(G5:gr.2≠[])(hv:(gr.2.map (·.1)).Pairwise (· <·))(hE:1<E.length)(e:s<sb E[1].1):∃m,PsC gs s k gr E 0 0 m:=by
 obtain⟨V,_,_,⟨D,G⟩,e1⟩:=h.vals G5;have e1:=e1 hE;have e2:=e;rw[e1,dG]at e2;obtain⟨m,_,hm,z,A⟩:=zU (gr.2.map (·.1)) s 0 (gr.2.length-1) (ay _) (by rw[aB];omega) (by rw[de];exact fun h=>absurd (ig e2 h) (cT _));have hm2:m<gr.2.length:=by simpa using hm
 have d:=fun O=>xn hv hm z O (fun j F h=>A j F (ay _) h);simp only[de]at z A d;refine⟨m,⟨D,by rw[G]⟩,by omega,fun j h F=>?_,?_,fun _=>⟨rfl,hE,e⟩,fun h y U e=>?_⟩
 ·simp only[aK];exact A j (by simpa using h) (ay _) F
 ·simp only[aK];exact z
 ·simp only[aK]at h;exact d h (List.mem_map.2 ⟨y,U,e⟩)
theorem PsT.c0(h:PsT w bm M gs nm qe ce k n0 gr rest E)(G5:gr.2≠[])(hv:(gr.2.map (·.1)).Pairwise (· <·))(hE:0<E.length)(e:s<sb E[0].1):∀y∈gr.2,y.1≠s:=by obtain⟨d,_,_,⟨_,z⟩,_⟩:=h.vals G5;rw[z,dG]at e;intro y A e2;have h1:=xn hv (v:=s) (m:=0) (by simpa using d) (by simp only[de];exact fun h=>absurd (ig e h) (cT _)) (by simp only[de];intro h;rw[h]at e;exact cT _ e) (fun j _ D=>by omega);exact h1 (List.mem_map.2 ⟨y,A,e2⟩)
theorem PsT.c9(h:PsT w bm M gs nm qe ce k n0 gr rest E)(G5:gr.2≠[])(hv:(gr.2.map (·.1)).Pairwise (· <·))(hE:E.length-1<E.length)(e:sb E[E.length-1].1<s):∀y∈gr.2,y.1≠s:=by
 obtain⟨U,hl,h1,⟨D,F⟩,e1⟩:=h.vals G5;have d:(gr.2[gr.2.length-1]'(by omega)).1<s:=by
  rcases hl with hl|hl
  ·have:=h1 hl;have e2:E[E.length-1]=E[0]:=by congr 1;omega
   rw[e2,F,dG]at e;have e3:gr.2[gr.2.length-1]'(by omega)=gr.2[0]:=by congr 1;omega
   rw[e3];exact e
  ·have e2:E[E.length-1]=E[1]:=by congr 1;omega
   rw[e2,e1 (by omega),dG]at e;exact e
 intro y G e2;obtain⟨j,O,rfl⟩:=aQ G;by_cases z:j=gr.2.length-1
 ·subst z;rw[e2]at d;exact cT _ d
 ·have A:=List.pairwise_iff_getElem.1 hv j (gr.2.length-1) (by simpa using O) (by rw[aB];omega) (by omega);simp only[de]at A;rw[e2]at A;exact cT _ (ig A d)
end
end Go.Proofs.YtlgefdfflmgocaaGreatDoor
