import Derived.Test.YtlgefdfflmgocaaGreatDoorQ09
set_option linter.all false
set_option maxRecDepth 100000
set_option maxHeartbeats 2000000
namespace Go.Proofs.YtlgefdfflmgocaaGreatDoor
open Go Go.RowKit Xc Go.Proofs.Tryz
attribute [local go_sem ↓] Go.wp_at_zero Go.wp_at_succ
abbrev oh(Y:Nat):Value:=.iface 178 (ptr Y 0)
abbrev yD(Z:Nat):Value:=.iface 180 (ptr Z 0)
theorem AA(v:Value)(w:World):(method 616 178 v "Next").run prog w=.ok (283,v) w:=by kernel_rfl
theorem Ee(v:Value)(w:World):(method 616 178 v "At").run prog w=.ok (281,v) w:=by kernel_rfl
theorem Cq(v:Value)(w:World):(method 616 178 v "Err").run prog w=.ok (282,v) w:=by kernel_rfl
theorem AB(v:Value)(w:World):(method 616 180 v "Next").run prog w=.ok (288,v) w:=by kernel_rfl
theorem Eg(v:Value)(w:World):(method 616 180 v "At").run prog w=.ok (286,v) w:=by kernel_rfl
theorem Cr(v:Value)(w:World):(method 616 180 v "Err").run prog w=.ok (287,v) w:=by kernel_rfl
structure Asc(cur:Nat)(xs:List Nat):Prop where
 asc:(cur::xs).Pairwise (· <·)
 lt:∀x∈cur::xs,x<10000
 len:xs.length≤12
theorem Asc.next{cur x:Nat}{t:List Nat}(h:Asc cur (x::t)):Asc x t:=by have:=h.len;simp only[aj]at this;exact⟨(List.pairwise_cons.1 h.asc).2,fun z hz=>h.lt z (aH _ hz),by omega⟩
theorem iE.ascI{w:World}{X g cur:Nat}{xs:List Nat}(h:iE w X g cur xs):Asc cur xs:=⟨h.asc,h.lt,h.len⟩
def ItE:Nat→World→Value→List Nat→Prop
 |0,w,v,B=>(v=da∧B=[])∨(∃X,v=gK X∧B=[X])∨(∃Y q Xs,v=oh Y∧B=Y::q::Xs∧my w Y q Xs)
 |n+1,w,v,B=>ItE n w v B∨∃Z X d z c i1 i2 i3,v=yD Z∧B=Z::X::z∧w.heap[Z]? =some (.cells #[d,gK X,c,i1,i2,i3] 287 (0,0))∧ItE n w d z∧d≠da
def lf(I:World→Value→List Nat→Nat→List Nat→Prop)(E:World→Value→List Nat→Prop)(w:World)(g X:Nat)(U:Value)(V:List Nat)(xs:List Nat)(F G O:Bool):Prop:=
 (F=false∧∃d z A D,I w U V d z∧Asc d z∧iE w X g A D∧xs=dif z D)∨
 (F=true∧G=false∧xs=[]∧E w U V)∨
 (F=true∧G=true∧O=false∧∃d z,I w U V d z∧Asc d z∧xs=d::z)∨
 (F=true∧G=true∧O=true∧∃d z A D,I w U V d z∧Asc d z∧iE w X g A D∧xs=dif (d::z) (A::D))
def It(g:Nat):Nat→World→Value→List Nat→Nat→List Nat→Prop
 |0,w,v,B,cur,xs=>(v=da∧B=[]∧xs=[])∨(∃X,v=gK X∧B=[X]∧iE w X g cur xs)∨(∃Y q Xs av,v=oh Y∧B=Y::q::Xs∧dH 0 w Y q g cur Xs av∧IsA cur av xs)
 |n+1,w,v,B,cur,xs=>It g n w v B cur xs∨∃Z X F d z A D,v=yD Z∧B=Z::X::d∧w.heap[Z]? =some (.cells #[F,gK X,.int .u64 (cur:Nat),.bool z,.bool A,.bool D] 287 (0,0))∧
   (Z∉d∧X∉d∧Z≠X∧Z≠g∧X≠g∧g∉d∧F≠da)∧lf (It g n) (ItE n) w g X F d xs z A D
theorem ItE.upd{L:List Nat}{w w':World}(hu:Upd L w w'):∀{n:Nat} {v:Value} {B:List Nat},ItE n w v B→(∀b∈B,b∉L)→ItE n w' v B:=by
 intro n;induction n with
 |zero=>
  intro v B h hL;rcases h with h|h|⟨Y,q,Xs,h1,d,z⟩
  ·exact .inl h
  ·exact .inr (.inl h)
  ·exact .inr (.inr ⟨Y,q,Xs,h1,d,z.upd hu (hL Y (by rw[d];simp)) (hL q (by rw[d];simp))⟩)
 |succ n A=>
  intro v B h hL;rcases h with h|⟨Z,X,D,F,c,i1,i2,i3,h1,d,z,h4,h5⟩
  ·exact .inl (A h hL)
  ·exact .inr ⟨Z,X,D,F,c,i1,i2,i3,h1,d,hu.blk z (hL Z (by rw[d];simp)),A h4 (fun b hb=>hL b (by rw[d];simp[hb])),h5⟩
theorem It.upd{L:List Nat}{w w':World}{g:Nat}(hu:Upd L w w')(hg:g∉L):∀{n:Nat} {v:Value} {B:List Nat} {cur:Nat} {xs:List Nat},It g n w v B cur xs→(∀b∈B,b∉L)→It g n w' v B cur xs:=by
 intro n;induction n with
 |zero=>
  intro v B cur xs h hL;rcases h with h|⟨X,h1,F,U⟩|⟨Y,q,Xs,av,h1,F,U,h4⟩
  ·exact .inl h
  ·exact .inr (.inl ⟨X,h1,F,U.upd hu (hL X (by rw[F];simp)) hg⟩)
  ·refine .inr (.inr ⟨Y,q,Xs,av,h1,F,U.upd hu (fun b hb=>?_),h4⟩);rw[F]at hL;refine⟨fun e=>hL Y (by simp) (e▸hb),fun e=>hL q (by simp) (e▸hb),fun e=>hg (e▸hb),fun hm=>hL b (by simp[hm]) hb⟩
 |succ n V=>
  intro v B cur xs h hL;rcases h with h|⟨Z,X,fv,Bf,W,ad,a0,h1,F,U,h4,h5⟩
  ·exact .inl (V h hL)
  ·have G:∀b∈Bf,b∉L:=fun b hb=>hL b (by rw[F];simp[hb]);have hX:X∉L:=hL X (by rw[F];simp);refine .inr ⟨Z,X,fv,Bf,W,ad,a0,h1,F,hu.blk U (hL Z (by rw[F];simp)),h4,?_⟩;rcases h5 with⟨a,z,A,D,O,b1,b2,b3,b4⟩|⟨a,b,c,d⟩|⟨a,b,c,z,A,d1,d2,d3⟩|⟨a,b,c,z,A,D,O,d1,d2,d3,d4⟩
   ·exact .inl ⟨a,z,A,D,O,V b1 G,b2,b3.upd hu hX hg,b4⟩
   ·exact .inr (.inl ⟨a,b,c,ItE.upd hu d G⟩)
   ·exact .inr (.inr (.inl ⟨a,b,c,z,A,V d1 G,d2,d3⟩))
   ·exact .inr (.inr (.inr ⟨a,b,c,z,A,D,O,V d1 G,d2,d3.upd hu hX hg,d4⟩))
theorem It.shape{w:World}{g:Nat}:∀{n:Nat} {v:Value} {B:List Nat} {cur:Nat} {xs:List Nat},It g n w v B cur xs→ItE n w v B:=by
 intro n;induction n with
 |zero=>
  intro v B cur xs h;rcases h with h|⟨X,h1,A,G⟩|⟨Y,q,Xs,av,h1,A,G,h4⟩
  ·exact .inl ⟨h.1,h.2.1⟩
  ·exact .inr (.inl ⟨X,h1,A⟩)
  ·exact .inr (.inr ⟨Y,q,Xs,h1,A,G.shape⟩)
 |succ n O=>
  intro v B cur xs h;rcases h with h|⟨Z,X,V,W,ad,a0,a1,h1,A,G,h4,h5⟩
  ·exact .inl (O h)
  ·refine .inr ⟨Z,X,V,W,_,_,_,_,h1,A,G,?_,h4.2.2.2.2.2.2⟩;rcases h5 with⟨a,z,D,F,U,b1,b2,b3,b4⟩|⟨a,b,c,d⟩|⟨a,b,c,z,D,d1,d2,d3⟩|⟨a,b,c,z,D,F,U,d1,d2,d3,d4⟩
   ·exact O b1
   ·exact d
   ·exact O d1
   ·exact O d1
structure ItM(v:Value)(T:TypeId)(p:Value)(d z A:Nat):Prop where
 eq:v=.iface T p
 mN:∀w,(method 616 T p "Next").run prog w=.ok (d,p) w
 mA:∀w,(method 616 T p "At").run prog w=.ok (z,p) w
 mE:∀w,(method 616 T p "Err").run prog w=.ok (A,p) w
 cN:∀a w,(callFunc d a).run prog w=.ok (.enter d a) w
 cA:∀a w,(callFunc z a).run prog w=.ok (.enter z a) w
 cE:∀a w,(callFunc A a).run prog w=.ok (.enter A a) w
theorem vC(a:Array Value)(w:World):(callFunc 319 a).run prog w=.ok (.enter 319 a) w:=by kernel_rfl
theorem zG(a:Array Value)(w:World):(callFunc 317 a).run prog w=.ok (.enter 317 a) w:=by kernel_rfl
theorem xP(a:Array Value)(w:World):(callFunc 318 a).run prog w=.ok (.enter 318 a) w:=by kernel_rfl
theorem zF(a:Array Value)(w:World):(callFunc 314 a).run prog w=.ok (.enter 314 a) w:=by kernel_rfl
theorem DJ(a:Array Value)(w:World):(callFunc 312 a).run prog w=.ok (.enter 312 a) w:=by kernel_rfl
theorem BP(a:Array Value)(w:World):(callFunc 313 a).run prog w=.ok (.enter 313 a) w:=by kernel_rfl
theorem vE(a:Array Value)(w:World):(callFunc 283 a).run prog w=.ok (.enter 283 a) w:=by kernel_rfl
theorem zI(a:Array Value)(w:World):(callFunc 281 a).run prog w=.ok (.enter 281 a) w:=by kernel_rfl
theorem xR(a:Array Value)(w:World):(callFunc 282 a).run prog w=.ok (.enter 282 a) w:=by kernel_rfl
theorem zM(a:Array Value)(w:World):(callFunc 288 a).run prog w=.ok (.enter 288 a) w:=by kernel_rfl
theorem DN(a:Array Value)(w:World):(callFunc 286 a).run prog w=.ok (.enter 286 a) w:=by kernel_rfl
theorem B3(a:Array Value)(w:World):(callFunc 287 a).run prog w=.ok (.enter 287 a) w:=by kernel_rfl
theorem ItM.empty:ItM da 270 (.agg #[.nilIface]) 319 317 318:=⟨rfl,Ay _,Ed _,Co _,vC,zG,xP⟩
theorem ItM.bep(X:Nat):ItM (gK X) 267 (ptr X 0) 314 312 313:=⟨rfl,p8 _,sN _,sP _,zF,DJ,BP⟩
theorem ItM.inter(X:Nat):ItM (oh X) 178 (ptr X 0) 283 281 282:=⟨rfl,AA _,Ee _,Cq _,vE,zI,xR⟩
theorem ItM.rem(X:Nat):ItM (yD X) 180 (ptr X 0) 288 286 287:=⟨rfl,AB _,Eg _,Cr _,zM,DN,B3⟩
theorem ItM.same{v:Value}{T F:TypeId}{p G:Value}{O U V d z A:Nat}(h:ItM v T p O U V)(D:ItM v F G d z A):T=F∧p=G∧O=d∧U=z∧V=A:=by have e:=h.eq.symm.trans D.eq;simp only[Value.iface.injEq]at e;obtain⟨rfl,rfl⟩:=e;have w:World:=default;have h1:=(h.mN w).symm.trans (D.mN w);have W:=(h.mA w).symm.trans (D.mA w);have h3:=(h.mE w).symm.trans (D.mE w);simp only[Result.ok.injEq,cW,and_true]at h1 W h3;exact⟨rfl,rfl,h1,W,h3⟩
theorem ItE.meth:∀{n:Nat} {w:World} {v:Value} {B:List Nat},ItE n w v B→∃T p d z A,ItM v T p d z A:=by
 intro n;induction n with
 |zero=>
  intro w v B h;rcases h with⟨rfl,_⟩|⟨X,rfl,_⟩|⟨Y,q,Xs,rfl,_⟩
  ·exact⟨_,_,_,_,_,.empty⟩
  ·exact⟨_,_,_,_,_,.bep _⟩
  ·exact⟨_,_,_,_,_,.inter _⟩
 |succ n D=>
  intro w v B h;rcases h with h|⟨Z,X,F,G,c,i1,i2,i3,rfl,_⟩
  ·exact D h
  ·exact⟨_,_,_,_,_,.rem _⟩
def ItQ(g n:Nat)(w:World)(v:Value)(B:List Nat)(xs:List Nat)(e:Ending)(w':World):Prop:=
 e=.returned (.bool (!xs.isEmpty))∧(∀x t,xs=x::t→It g n w' v B x t∧Asc x t)∧ItE n w' v B∧Upd B w w'
structure nW(g n:Nat):Prop where
 next:∀{w v B cur xs T p d z A},It g n w v B cur xs→Asc cur xs→ItM v T p d z A→Calls prog d #[p] w (ItQ g n w v B xs)
 at_:∀{w v B cur xs T p d z A},It g n w v B cur xs→Asc cur xs→v≠da→ItM v T p d z A→Calls prog z #[p] w fun e w'=>e=.returned (.int .u64 (cur:Nat))∧w=w'
 err:∀{w v B T p d z A},ItE n w v B→ItM v T p d z A→Calls prog A #[p] w fun e w'=>e=.returned .nilIface∧Upd [] w w'
theorem B7(w:World):Calls prog 319 #[.agg #[.nilIface]] w fun e w'=>e=.returned (.bool false)∧Upd [] w w':=by
 go_enter func319,ntmps319
 go_wp2_with fail;go_ret;exact⟨rfl,(ae _).alloc _⟩
theorem DT(w:World):Calls prog 318 #[.agg #[.nilIface]] w fun e w'=>e=.returned .nilIface∧Upd [] w w':=by
 go_enter func318,ntmps318
 go_wp2_with fail;go_ret;exact⟨rfl,(ae _).alloc _⟩
theorem D3(g:Nat):nW g 0:=by
 refine⟨?_,?_,?_⟩
 ·intro w v B cur xs T p A D F h G hm;rcases h with⟨rfl,rfl,rfl⟩|⟨X,rfl,rfl,hb⟩|⟨Y,q,Xs,av,rfl,rfl,d,z⟩
  ·obtain⟨_,rfl,rfl,_⟩:=hm.same .empty;refine(B7 w).mono ?_;rintro e w' ⟨rfl,hu⟩;exact⟨rfl,by simp,.inl ⟨rfl,rfl⟩,hu⟩
  ·obtain⟨_,rfl,rfl,_⟩:=hm.same (.bep X);refine(pG X g cur xs w hb).mono ?_;rintro e w' ⟨rfl,h1,hu⟩;exact⟨rfl,fun x t e=>⟨.inr (.inl ⟨X,rfl,rfl,h1 x t e⟩),(h1 x t e).ascI⟩,.inr (.inl ⟨X,rfl,rfl⟩),hu⟩
  ·obtain⟨_,rfl,rfl,_⟩:=hm.same (.inter Y);refine(yf w Y q g cur Xs av xs d z).mono ?_;rintro e w' ⟨rfl,h1,O,hu⟩;refine⟨rfl,fun x t e=>?_,.inr (.inr ⟨Y,q,Xs,rfl,rfl,O⟩),hu.mono (fun b hb=>by simp only[ah]at hb⊢;rcases hb with h|h;exact .inl h;exact .inr (.inr h))⟩;obtain⟨U,V,h4⟩:=h1 x t e;exact⟨.inr (.inr ⟨Y,q,Xs,U,rfl,rfl,V,h4⟩),(e▸G).next⟩
 ·intro w v B cur xs T p A D F h G G5 hm;rcases h with⟨rfl,_⟩|⟨X,rfl,rfl,hb⟩|⟨Y,q,Xs,av,rfl,rfl,d,z⟩
  ·exact absurd rfl G5
  ·obtain⟨_,rfl,_,rfl,_⟩:=hm.same (.bep X);exact sq X g cur xs w hb
  ·obtain⟨_,rfl,_,rfl,_⟩:=hm.same (.inter Y);exact Ch w Y q g cur Xs av d
 ·intro w v B T p A D F h hm;rcases h with⟨rfl,rfl⟩|⟨X,rfl,rfl⟩|⟨Y,q,Xs,rfl,rfl,d⟩
  ·obtain⟨_,rfl,_,_,rfl⟩:=hm.same .empty;exact DT w
  ·obtain⟨_,rfl,_,_,rfl⟩:=hm.same (.bep X);refine(vz X w).mono ?_;rintro e w' ⟨rfl,rfl⟩;exact⟨rfl,ae _⟩
  ·obtain⟨_,rfl,_,_,rfl⟩:=hm.same (.inter Y);refine(Ai w Y q Xs d).mono ?_;rintro e w' ⟨rfl,rfl⟩;exact⟨rfl,ae _⟩
abbrev jN:=@It.upd
abbrev kb(d:Value)(X cur:Nat)(a b c:Bool):Obj:=.cells #[d,gK X,.int .u64 (cur:Nat),.bool a,.bool b,.bool c] 287 (0,0)
def EX(g n:Nat)(w:World)(X:Nat)(O:Value)(U:List Nat)(xs:List Nat)(D F:Bool)(V:Nat):Prop:=
 (D=false∧xs=[]∧ItE n w O U)∨
 (D=true∧F=false∧∃d z,It g n w O U d z∧Asc d z∧xs=d::z)∨
 (D=true∧F=true∧∃d z A G,It g n w O U d z∧Asc d z∧iE w X g A G∧xs=dif (d::z) (A::G)∧2*z.length+2+(if A<d then 1 else 0)≤V)
def Du(g n:Nat)(w0 w:World)(Z X:Nat)(A:Value)(D:List Nat)(xs:List Nat)(F:Nat):Prop:=
 Hid (∃cur d z,w.heap[Z]? =some (kb A X cur true d z)∧EX g n w X A D xs d z F∧Upd (Z::X::D) w0 w)
theorem lf.upd{L:List Nat}{g n X:Nat}{w w':World}{W:Value}{V:List Nat}{xs:List Nat}{G O U:Bool}(h:lf (It g n) (ItE n) w g X W V xs G O U)(hu:Upd L w w')(hB:∀b∈V,b∉L)(hX:X∉L)(hg:g∉L):lf (It g n) (ItE n) w' g X W V xs G O U:=by
 rcases h with⟨a,z,A,D,F,b1,b2,b3,b4⟩|⟨a,b,c,d⟩|⟨a,b,c,z,A,d1,d2,d3⟩|⟨a,b,c,z,A,D,F,d1,d2,d3,d4⟩
 ·exact .inl ⟨a,z,A,D,F,jN hu hg b1 hB,b2,b3.upd hu hX hg,b4⟩
 ·exact .inr (.inl ⟨a,b,c,ItE.upd hu d hB⟩)
 ·exact .inr (.inr (.inl ⟨a,b,c,z,A,jN hu hg d1 hB,d2,d3⟩))
 ·exact .inr (.inr (.inr ⟨a,b,c,z,A,D,F,jN hu hg d1 hB,d2,d3.upd hu hX hg,d4⟩))
theorem lf.afterB{g n X:Nat}{w w':World}{z:Value}{A:List Nat}{d:List Nat}{e:Ending}(h:ItQ g n w z A d e w'):lf (It g n) (ItE n) w' g X z A d true (!d.isEmpty) false:=by
 cases d with
 |nil=>exact .inr (.inl ⟨rfl,rfl,rfl,h.2.2.1⟩)
 |cons y u=>exact .inr (.inr (.inl ⟨rfl,rfl,rfl,y,u,(h.2.1 y u rfl).1,(h.2.1 y u rfl).2,rfl⟩))
theorem lf.afterC{g n X d:Nat}{w w':World}{D:Value}{F:List Nat}{z A:List Nat}{e:Ending}(h:ItQ g n w D F z e w')(hb:iE w' X g d A):lf (It g n) (ItE n) w' g X D F (dif z (d::A)) true (!z.isEmpty) true:=by
 cases z with
 |nil=>exact .inr (.inl ⟨rfl,rfl,rfl,h.2.2.1⟩)
 |cons y u=>exact .inr (.inr (.inr ⟨rfl,rfl,rfl,y,u,d,A,(h.2.1 y u rfl).1,(h.2.1 y u rfl).2,hb,rfl⟩))
theorem lf.toT{g n X:Nat}{w:World}{U:Value}{V:List Nat}{xs:List Nat}{D F:Bool}(h:lf (It g n) (ItE n) w g X U V xs true D F):EX g n w X U V xs D F 100:=by
 rcases h with⟨h,_⟩|⟨_,a,b,c⟩|⟨_,a,b,z,A,c⟩|⟨_,a,b,z,A,G,O,c,d,e,f⟩
 ·cases h
 ·exact .inl ⟨a,b,c⟩
 ·exact .inr (.inl ⟨a,b,z,A,c⟩)
 ·refine .inr (.inr ⟨a,b,z,A,G,O,c,d,e,f,?_⟩);have:=d.len;split<;>omega
theorem lf.start{g n X G:Nat}{w w1 w2:World}{fv:Value}{D:List Nat}{A d:List Nat}{e e':Ending}{L:List Nat}(h:ItQ g n w fv D A e w1)(hu:Upd L w1 w2)(hL:∀b∈D,b∉L)(hg:g∉L){w3 W:World}(h2:za w2 X g d e' w3)(hX:X∉D∧X≠g){M:List Nat}(F:Upd M w3 W)(hM:∀b∈D,b∉M)(O:g∉M)(ad:X∉M)(_:iE w X g G d):
 lf (It g n) (ItE n) W g X fv D (dif A d) true (!A.isEmpty) (!d.isEmpty):=by
 have U:∀b∈D,b∉[X]:=fun b hb=>by simp only[ag];rintro rfl;exact hX.1 hb
 have a0:g∉[X]:=by simpa using aF hX.2
 have mv:∀{v B cur xs},It g n w1 v B cur xs→(∀b∈B,b∈D)→It g n W v B cur xs:=fun h hB=>
  jN F O (jN h2.2.2 a0 (jN hu hg h (fun b hb=>hL b (hB b hb))) (fun b hb=>U b (hB b hb))) (fun b hb=>hM b (hB b hb))
 cases A with
 |nil=>exact .inr (.inl ⟨rfl,rfl,by simp[dif],ItE.upd F (ItE.upd h2.2.2 (ItE.upd hu h.2.2.1 hL) U) hM⟩)
 |cons y u=>
  have V:=h.2.1 y u rfl;cases d with
  |nil=>exact .inr (.inr (.inl ⟨rfl,rfl,rfl,y,u,mv V.1 (fun _ h=>h),V.2,sB _⟩))
  |cons z v=>exact .inr (.inr (.inr ⟨rfl,rfl,rfl,y,u,z,v,mv V.1 (fun _ h=>h),V.2,(h2.2.1 z v rfl).upd F ad O,rfl⟩))
def Ge(g n:Nat)(w:World)(Z X:Nat)(D:Value)(F:List Nat)(xs:List Nat)(e:Ending)(w':World):Prop:=
 e=.returned (.bool (!xs.isEmpty))∧(∃cur d z A,w'.heap[Z]? =some (kb D X cur d z A)∧ItE n w' D F∧∀x t,xs=x::t→cur=x∧lf (It g n) (ItE n) w' g X D F t d z A)∧Upd (Z::X::F) w w'
theorem CC(g n:Nat)(S:nW g n)(w:World)(Z X cur:Nat)(fv:Value)(Bf:List Nat)(xs:List Nat)(bd a6 a3:Bool)(hb:w.heap[Z]? =some (kb fv X cur bd a6 a3))
 (hd:Z∉Bf∧X∉Bf∧Z≠X∧Z≠g∧X≠g∧g∉Bf∧fv≠da)(hs:lf (It g n) (ItE n) w g X fv Bf xs bd a6 a3):
 Calls prog 288 #[ptr Z 0] w (Ge g n w Z X fv Bf xs):=by
 obtain⟨T,p,fN,fA,fE,hM⟩:∃T p fN fA fE,ItM fv T p fN fA fE:=by
  rcases hs with⟨_,_,_,_,_,b1,_⟩|⟨_,_,_,d⟩|⟨_,_,_,_,_,d1,_⟩|⟨_,_,_,_,_,_,_,d1,_⟩
  ·exact b1.shape.meth
  ·exact d.meth
  ·exact d1.shape.meth
  ·exact d1.shape.meth
 obtain rfl:=hM.eq;have mN:=hM.mN;have mA:=hM.mA;have cN:=hM.cN;have cA:=hM.cA;have HM:=aa hM;have HS:=aa hs;have HB:=aa hb;have O:=aa hd;have cF:=p8;have cL:=sN;have cM:=uo;have cO:=uu;have z3:w.cell? ⟨Z,3,none⟩=some (.bool bd):=af hb 3;clear hM hs hb hd;go_enter func288,ntmps288
 go_upto_if 9 with(fail)
 go_cut []from 10 to 28 (fun wx=>Du g n w wx Z X (.iface T p) Bf xs 100)
 case first=>
  cases bd with
  |true=>
   go_wp2_with fail;go_meet
   exact aa ⟨cur,a6,a3,HB.o,HS.o.toT,(ae _).mono (by simp)⟩
  |false=>
   have z0:w.cell? ⟨Z,0,none⟩=some (.iface T p):=af HB.o 0;obtain⟨z,G,A,V,hI,hA,hR,rfl⟩:∃z G A V,It g n w (.iface T p) Bf z G∧Asc z G∧iE w X g A V∧xs=dif G V:=by
    rcases HS.o with⟨_,h⟩|⟨h,_⟩|⟨h,_⟩|⟨h,_⟩
    ·exact h
    ·cases h
    ·cases h
    ·cases h
   have HN:=aa (S.next hI hA HM.o);have HR:=aa hR;clear hI hA hR;go_wp2_with fail;refine HN.o.mono ?_;rintro e w2 hq;obtain rfl:=hq.1;have HQ:=aa hq;obtain⟨b,D⟩:∃b,b= !G.isEmpty:=⟨_,rfl⟩;have hb2:w2.heap[Z]? =some (kb (.iface T p) X cur false a6 a3):=hq.2.2.2.blk HB.o O.o.1;have hb3:(w2.setCell ⟨Z,4,none⟩ (.bool b)).heap[Z]? =some (kb (.iface T p) X cur false b a3):=au hb2 4 _;have G4:Upd [Z] w2 (w2.setCell ⟨Z,4,none⟩ (.bool b)):=((ae w2).mono (by simp)).setCell (by simp) _;have f4:=ao hb2 4;have be:w2.cell? ⟨Z,4,none⟩=some (.bool a6):=af hb2 4;have z31:(w2.setCell ⟨Z,4,none⟩ (.bool b)).cell? ⟨Z,1,none⟩=some (gK X):=af hb3 1;rw[←D];have U:=aa D;have ad:=aa hb3;have F:=aa G4;have cg:=aa ((HR.o.upd hq.2.2.2 O.o.2.1 O.o.2.2.2.2.2.1).upd G4 (by simpa using aF O.o.2.2.1) (by simpa using aF O.o.2.2.2.1));clear hq hb2 hb3 G4 D z0 z3;go_wp2_with fail;refine(pG X g A V _ cg.o).mono ?_;rintro e w3 bg;obtain rfl:=bg.1;have bO:=aa bg;obtain⟨b2,a7⟩:∃b,b= !V.isEmpty:=⟨_,rfl⟩;have hb4:w3.heap[Z]? =some (kb (.iface T p) X cur false b a3):=bg.2.2.blk ad.o (by simpa using O.o.2.2.1);have bl:(w3.setCell ⟨Z,5,none⟩ (.bool b2)).heap[Z]? =some (kb (.iface T p) X cur false b b2):=au hb4 5 _;have bR:((w3.setCell ⟨Z,5,none⟩ (.bool b2)).setCell ⟨Z,3,none⟩ (.bool true)).heap[Z]? =some (kb (.iface T p) X cur true b b2):=au bl 3 _;have bS:Upd [Z] w3 ((w3.setCell ⟨Z,5,none⟩ (.bool b2)).setCell ⟨Z,3,none⟩ (.bool true)):=(((ae w3).mono (by simp)).setCell (by simp) _).setCell (by simp) _;have f5:=ao hb4 5;have z5:w3.cell? ⟨Z,5,none⟩=some (.bool a3):=af hb4 5;have f3:=ao bl 3;have z3:(w3.setCell ⟨Z,5,none⟩ (.bool b2)).cell? ⟨Z,3,none⟩=some (.bool false):=af bl 3;rw[←a7];have bW:=aa a7;have ck:=aa bR;have b5:=aa bS;clear bg hb4 bl bR bS a7 z31 be f4;go_wp2_with fail;go_meet
   have a0:∀x∈Bf,x∉[Z]:=fun x hx=>by simp only[ag];rintro rfl;exact O.o.1 hx
   have a1:g∉[Z]:=by simpa using aF O.o.2.2.2.1
   have e1:=U.o;subst e1;have e2:=bW.o;subst e2
   exact aa ⟨cur,_,_,ck.o,lf.toT (lf.start HQ.o F.o a0 a1 bO.o ⟨O.o.2.1,O.o.2.2.2.2.1⟩ b5.o a0 a1 (by simpa using aF O.o.2.2.1) HR.o),
    (((HQ.o.2.2.2.mono (M:=Z::X::Bf) (by simp;exact fun x hx=>.inr (.inr hx))).then F.o (by simp)).then bO.o.2.2 (by simp)).then b5.o (by simp)⟩
 case rest=>
  have HL:Du g n w wc Z X (.iface T p) Bf xs 100:=hcut;clear hcut HS HB z3;go_wp2_with fail;go_loopg [2] 100 (fun gg s2 wx=>s2=.bool false∧Du g n w wx Z X (.iface T p) Bf xs gg)
  case atStart=>exact⟨rfl,HL⟩
  case round=>
   obtain⟨rfl,b6⟩:=hrel;clear HL;have b7:Hid _:=b6;obtain⟨c,b8,bv,hb,hT,hU⟩:=b7.o;have HB:=aa hb;have HU:=aa hU;have z0:wr.cell? ⟨Z,0,none⟩=some (.iface T p):=af hb 0;have z1:wr.cell? ⟨Z,1,none⟩=some (gK X):=af hb 1;have z2:wr.cell? ⟨Z,2,none⟩=some (.int .u64 (c:Nat)):=af hb 2;have z4:wr.cell? ⟨Z,4,none⟩=some (.bool b8):=af hb 4;have z5:wr.cell? ⟨Z,5,none⟩=some (.bool bv):=af hb 5;have f2:=ao hb 2;clear hb hU b6 b7;rcases hT with⟨rfl,rfl,hE⟩|⟨rfl,rfl,z,G,hI,hA,rfl⟩|⟨rfl,rfl,z,G,A,V,hI,hA,hR,rfl,hg⟩
   ·
    have HE:=aa hE;clear hE;go_wp2_with fail;go_ret;exact⟨rfl,⟨c,true,false,bv,HB.o,HE.o,fun x t h=>(by cases h)⟩,HU.o⟩
   ·
    have a0:∀x∈Bf,x∉[Z]:=fun x hx=>by simp only[ag];rintro rfl;exact O.o.1 hx
    have a1:g∉[Z]:=by simpa using aF O.o.2.2.2.1
    have a9:X∉[Z]:=by simpa using aF O.o.2.2.1
    have KA:=aa (S.at_ hI hA O.o.2.2.2.2.2.2 HM.o);have hb1:(wr.setCell ⟨Z,2,none⟩ (.int .u64 (z:Nat))).heap[Z]? =some (kb (.iface T p) X z true true false):=au HB.o 2 _;have a4:Upd [Z] wr (wr.setCell ⟨Z,2,none⟩ (.int .u64 (z:Nat))):=((ae wr).mono (by simp)).setCell (by simp) _;have KN:=aa (S.next (jN a4 a1 hI a0) hA HM.o);have bw:(wr.setCell ⟨Z,2,none⟩ (.int .u64 (z:Nat))).cell? ⟨Z,0,none⟩=some (.iface T p):=af hb1 0;have bA:=aa hb1;have bn:=aa a4;have W:=aa (And.intro a0 (And.intro a1 a9));clear hI hA hb1 a4 a0 a1 a9;go_wp2_with fail;refine KA.o.mono ?_;rintro e _ ⟨rfl,rfl⟩;go_wp2_with fail;refine KN.o.mono ?_;rintro e w2 hq;obtain rfl:=hq.1;have HQ:=aa hq;obtain⟨b,D⟩:∃b,b= !G.isEmpty:=⟨_,rfl⟩;have hb2:w2.heap[Z]? =some (kb (.iface T p) X z true true false):=hq.2.2.2.blk bA.o O.o.1;have hb3:(w2.setCell ⟨Z,4,none⟩ (.bool b)).heap[Z]? =some (kb (.iface T p) X z true b false):=au hb2 4 _;have G4:Upd [Z] w2 (w2.setCell ⟨Z,4,none⟩ (.bool b)):=((ae w2).mono (by simp)).setCell (by simp) _;have f4:=ao hb2 4;have be:w2.cell? ⟨Z,4,none⟩=some (.bool true):=af hb2 4;rw[←D];have U:=aa D;have ad:=aa hb3;have F:=aa G4;clear hq hb2 hb3 G4 D z0 z1 z2 z4 z5 f2 bw;go_wp2_with fail;go_ret;have e1:=U.o;subst e1;refine⟨rfl,⟨z,true,_,false,ad.o,ItE.upd F.o HQ.o.2.2.1 W.o.1,fun x t h=>?_⟩,((HU.o.then bn.o (by simp)).then HQ.o.2.2.2 (fun b hb _=>by simp[hb])).then F.o (by simp)⟩;cases h;exact⟨rfl,(lf.afterB HQ.o).upd F.o W.o.1 W.o.2.2 W.o.2.1⟩
   ·have a0:∀x∈Bf,x∉[Z]:=fun x hx=>by simp only[ag];rintro rfl;exact O.o.1 hx
    have a1:g∉[Z]:=by simpa using aF O.o.2.2.2.1
    have a9:X∉[Z]:=by simpa using aF O.o.2.2.1
    have W:=aa (And.intro a0 (And.intro a1 a9));have KA:=aa (fun(w':World) (hu:Upd [] wr w')=>S.at_ (jN hu (by simp) hI (by simp)) hA O.o.2.2.2.2.2.2 HM.o);have KB:=aa (fun(w':World) (hu:Upd [] wr w')=>sq X g A V w' (hR.upd hu (by simp) (by simp)));have KN:=aa (fun(w':World) (hu:Upd [Z] wr w')=>S.next (jN hu W.o.2.1 hI W.o.1) hA HM.o);have KS:=aa (fun(w':World) (hu:Upd [] wr w')=>wS X g A z V w' (hR.upd hu (by simp) (by simp)) (hA.lt z (by simp)));have HI:=aa (And.intro hI (And.intro hA (And.intro hR hg)));have cP:=hA.lt z (by simp);have hrl:=hR.lt A (by simp);clear hI hA hR hg a0 a1 a9;go_wp2_with fail;go_cut [3,4]from 55 to 64 (fun v v' wx=>v=.int .u64 (z:Nat)∧v'=.int .u64 (A:Nat)∧Upd [] wr wx)
    case first=>
     go_region_held3 (fun w'=>w'.cell? ⟨Z,0,none⟩=some (.iface T p)∧w'.cell? ⟨Z,1,none⟩=some (gK X)) (go_keep) (first
      |(go_at_call 312;refine(KB.o _ (by first|exact ae _|exact(ae _).drew)).mono ?_;rintro e w3 ⟨rfl,rfl⟩)
      |(refine(KA.o _ (by first|exact ae _|exact(ae _).drew)).mono ?_;rintro e w3 ⟨rfl,rfl⟩))
     all_goals
      go_wp2_with fail;go_meet
      exact⟨rfl,rfl,(ae _).drew⟩
    case rest=>
     obtain⟨rfl,rfl,bb⟩:=hcut;have a2:=bb.blk HB.o (by simp);have z0:wc.cell? ⟨Z,0,none⟩=some (.iface T p):=af a2 0;have z1:wc.cell? ⟨Z,1,none⟩=some (gK X):=af a2 1;have z2:wc.cell? ⟨Z,2,none⟩=some (.int .u64 (c:Nat)):=af a2 2;have z4:wc.cell? ⟨Z,4,none⟩=some (.bool true):=af a2 4;have z5:wc.cell? ⟨Z,5,none⟩=some (.bool true):=af a2 5;have f2:=ao a2 2;have bB:=aa a2;have br:=aa bb;have bE:=aa (HU.o.then bb (by simp));have bK:=aa (HI.o.2.2.1.upd bb (by simp) (by simp));clear bb a2 HB HU KA KB;by_cases h1:z<A
     ·
      have cn:(z:Int)<(A:Int):=by omega
      have hb1:(wc.setCell ⟨Z,2,none⟩ (.int .u64 (z:Nat))).heap[Z]? =some (kb (.iface T p) X z true true true):=au bB.o 2 _;have a4:Upd [Z] wc (wc.setCell ⟨Z,2,none⟩ (.int .u64 (z:Nat))):=((ae wc).mono (by simp)).setCell (by simp) _;have bL:=aa (KN.o _ (br.o.mono (by simp)|>.then a4 (by simp)));have bw:(wc.setCell ⟨Z,2,none⟩ (.int .u64 (z:Nat))).cell? ⟨Z,0,none⟩=some (.iface T p):=af hb1 0;have bA:=aa hb1;have bn:=aa a4;clear hb1 a4 KN KS;go_wp2_with fail;refine bL.o.mono ?_;rintro e w2 hq;obtain rfl:=hq.1;have HQ:=aa hq;obtain⟨b,D⟩:∃b,b= !G.isEmpty:=⟨_,rfl⟩;have hb2:w2.heap[Z]? =some (kb (.iface T p) X z true true true):=hq.2.2.2.blk bA.o O.o.1;have hb3:(w2.setCell ⟨Z,4,none⟩ (.bool b)).heap[Z]? =some (kb (.iface T p) X z true b true):=au hb2 4 _;have G4:Upd [Z] w2 (w2.setCell ⟨Z,4,none⟩ (.bool b)):=((ae w2).mono (by simp)).setCell (by simp) _;have f4:=ao hb2 4;have be:w2.cell? ⟨Z,4,none⟩=some (.bool true):=af hb2 4;rw[←D];have U:=aa D;have ad:=aa hb3;have F:=aa G4;clear hq hb2 hb3 G4 D z0 z1 z2 z4 z5 f2 bw;go_wp2_with fail;go_ret;have e1:=U.o;subst e1;have cp:=((bK.o.upd bn.o W.o.2.2 W.o.2.1).upd HQ.o.2.2.2 O.o.2.1 O.o.2.2.2.2.2.1);have b9:=DP (a:=G) bK.o.asc h1;refine⟨by rw[b9];rfl,⟨z,true,_,true,ad.o,ItE.upd F.o HQ.o.2.2.1 W.o.1,fun x t h=>?_⟩,((bE.o.then bn.o (by simp)).then HQ.o.2.2.2 (fun b hb _=>by simp[hb])).then F.o (by simp)⟩;rw[b9]at h;cases h;exact⟨rfl,(lf.afterC HQ.o cp).upd F.o W.o.1 W.o.2.2 W.o.2.1⟩
     ·have cn:¬(z:Int)<(A:Int):=by omega
      by_cases h2:A<z
      ·
       have cs:(A:Int)<(z:Int):=by omega
       have ct:=aa (KS.o wc br.o);clear KN KS;go_wp2_with fail;refine ct.o.mono ?_;rintro e w2 hq;obtain rfl:=hq.1;have HQ:=aa hq;obtain⟨d,ca⟩:∃d,d=(A::V).dropWhile (fun y=>decide (y<z)):=⟨_,rfl⟩;obtain⟨b,D⟩:∃b,b= !((A::V).dropWhile (fun y=>decide (y<z))).isEmpty:=⟨_,rfl⟩;have hb2:w2.heap[Z]? =some (kb (.iface T p) X c true true true):=hq.2.2.blk bB.o (by simpa using O.o.2.2.1);have hb3:(w2.setCell ⟨Z,5,none⟩ (.bool b)).heap[Z]? =some (kb (.iface T p) X c true true b):=au hb2 5 _;have G4:Upd [Z] w2 (w2.setCell ⟨Z,5,none⟩ (.bool b)):=((ae w2).mono (by simp)).setCell (by simp) _;have f5:=ao hb2 5;have z35:w2.cell? ⟨Z,5,none⟩=some (.bool true):=af hb2 5;rw[←D];have U:=aa (And.intro D ca);have ad:=aa hb3;have F:=aa G4;clear hq hb2 hb3 G4 D ca z0 z1 z2 z4 z5 f2;go_wp2_with fail;go_roundg (gk-1)
       case measure=>have:=HI.o.2.2.2;omega
       case rel=>
        refine⟨rfl,aa ⟨c,true,b,ad.o,?_,(bE.o.then HQ.o.2.2 (by simp)).then F.o (by simp)⟩⟩;have cB:∀x∈Bf,x∉[X]:=fun x hx=>by simp only[ag];rintro rfl;exact O.o.2.1 hx
        have cc:=jN F.o W.o.2.1 (jN HQ.o.2.2 (by simpa using aF O.o.2.2.2.2.1) (jN br.o (by simp) HI.o.1 (by simp)) cB) W.o.1;have cD:∀y∈z::G,z≤y:=nx HI.o.2.1.asc;have bM:=zO (b:=A::V) cD;rw[←U.o.2]at bM;have hg:=HI.o.2.2.2;rw[if_pos h2]at hg;have a5:=U.o.1;rw[←U.o.2]at a5;cases d with
        |nil=>exact .inr (.inl ⟨rfl,a5,z,G,cc,HI.o.2.1,by rw[←bM,sB]⟩)
        |cons y u=>
         have hy:=nz U.o.2.symm;refine .inr (.inr ⟨rfl,a5,z,G,y,u,cc,HI.o.2.1,(HQ.o.2.1 y u U.o.2.symm).upd F.o W.o.2.2 W.o.2.1,bM.symm,?_⟩);rw[if_neg (by omega)];omega
      ·
       obtain rfl:z=A:=by omega
       have cs:¬(z:Int)<(z:Int):=by omega
       have bL:=aa (KN.o wc (br.o.mono (by simp)));clear KN KS;go_wp2_with fail;refine bL.o.mono ?_;rintro e w2 hq;obtain rfl:=hq.1;have HQ:=aa hq;obtain⟨b,D⟩:∃b,b= !G.isEmpty:=⟨_,rfl⟩;have hb2:w2.heap[Z]? =some (kb (.iface T p) X c true true true):=hq.2.2.2.blk bB.o O.o.1;have hb3:(w2.setCell ⟨Z,4,none⟩ (.bool b)).heap[Z]? =some (kb (.iface T p) X c true b true):=au hb2 4 _;have G4:Upd [Z] w2 (w2.setCell ⟨Z,4,none⟩ (.bool b)):=((ae w2).mono (by simp)).setCell (by simp) _;have f4:=ao hb2 4;have be:w2.cell? ⟨Z,4,none⟩=some (.bool true):=af hb2 4;rw[←D];have U:=aa D;have ad:=aa hb3;have F:=aa G4;clear hq hb2 hb3 G4 D z0 z1 z2 z4 z5 f2;go_wp2_with fail;go_roundg (gk-1)
       case measure=>have:=HI.o.2.2.2;omega
       case rel=>
        refine⟨rfl,aa ⟨c,b,true,ad.o,?_,(bE.o.then HQ.o.2.2.2 (fun b hb _=>by simp[hb])).then F.o (by simp)⟩⟩;have cE:=(bK.o.upd HQ.o.2.2.2 O.o.2.1 O.o.2.2.2.2.2.1).upd F.o W.o.2.2 W.o.2.1;have hg:=HI.o.2.2.2;have a5:=U.o;rw[DO];cases G with
        |nil=>exact .inl ⟨a5,by simp[dif],ItE.upd F.o HQ.o.2.2.1 W.o.1⟩
        |cons y u=>
         have hy:=HQ.o.2.1 y u rfl;refine .inr (.inr ⟨a5,rfl,y,u,z,V,jN F.o W.o.2.1 hy.1 W.o.1,hy.2,cE,rfl,?_⟩);simp only[aj]at hg;split<;>omega
end Go.Proofs.YtlgefdfflmgocaaGreatDoor
namespace Xc
open Go Go.RowKit
theorem bc{P:Program}{ops:Array Oper}{rest:List Oper}{o:Oper}{a:Act}{w:World}{Q:Exit→Act→World→Prop}(z:o.guard=none)(s x:Operand)(A:Array TypeId)
 (G:o.op=.call {callee:=.builtin .append,args:= #[s,x],argTypes:=A})(D F v':Value)(w':World)(hs:a.eval s=D)(O:a.eval x=F)
 (d:(Builtin.append_ A o.type #[D,F]).run P w=.ok v' w')(h:wpList P ops Q rest (a.put o.dst v') w'):wpList P ops Q (o::rest) a w:=
 wpList_plain z fun _ hK=>by unfold Oper.wp execOp;simp only[G,resolve,invoke,builtin,eI,gX,fi,gI,aN,cQ,hs,O,d];exact hK _ _ h
theorem lM{κ:Type}{kv:κ→Value}{P:Program}{w:World}{T K E ty:TypeId}{b:Nat}{l:List (κ×Value)}(hT:P.underlying T=some (.map K E))(hb:w.heap[b]? =some (bI kv l)):
 (Builtin.len_ #[T] ty #[.map (some b)]).run P w=.ok (.int .i64 (l.length:Nat)) w:=by
 have hg:=jR (P:=P) hb;simp[Builtin.len_,run_underlying hT,hg];rfl
theorem qA{P:Program}{ops:Array Oper}{rest:List Oper}{o:Oper}{a:Act}{w:World}{Q:Exit→Act→World→Prop}(z:o.guard=none)(x:Operand)(A:Array TypeId)
 (F:o.op=.call {callee:=.builtin .len,args:= #[x],argTypes:=A})(D v':Value)(w':World)(G:a.eval x=D)
 (d:(Builtin.len_ A o.type #[D]).run P w=.ok v' w')(h:wpList P ops Q rest (a.put o.dst v') w'):wpList P ops Q (o::rest) a w:=
 wpList_plain z fun _ hK=>by unfold Oper.wp execOp;simp only[F,resolve,invoke,builtin,eI,gX,fi,gI,aN,cQ,G,d];exact hK _ _ h
section
variable {P:Program} {ops:Array Oper} {rest:List Oper} {o:Oper} {a:Act} {w:World} {Q:Exit→Act→World→Prop}
theorem dQ(A:o.guard=none)(it:Operand)(D:o.op=Op.next it false)(d v':Value)(w':World)(hit:a.eval it=d)
 (z:(Instr.next d false o.type).run P w=.ok v' w')(h:wpList P ops Q rest (a.put o.dst v') w'):wpList P ops Q (o::rest) a w:=
 wpList_plain A fun _ hK=>by unfold Oper.wp;simp[execOp,D,hit,z,Result.andThen];exact hK _ _ h
theorem jd(z:o.guard=none)(m x v:Operand)(t:TypeId)(G:o.op=Op.mapUpdate t m x v)(A D F:Value)(w':World)(hm:a.eval m=A)(O:a.eval x=D)(hv:a.eval v=F)
 (d:(Instr.mapUpdate t A D F).run P w=.ok () w')(h:wpList P ops Q rest (a.put o.dst undef) w'):wpList P ops Q (o::rest) a w:=
 wpList_plain z fun _ hK=>by unfold Oper.wp;simp[execOp,G,hm,O,hv,d,Result.andThen];exact hK _ _ h
theorem fW(z:o.guard=none)(t:TypeId)(A:o.op=Op.makeMap t none)(v':Value)(w':World)
 (d:(Instr.makeMap t none).run P w=.ok v' w')(h:wpList P ops Q rest (a.put o.dst v') w'):wpList P ops Q (o::rest) a w:=
 wpList_plain z fun _ hK=>by unfold Oper.wp;simp[execOp,A,d,Result.andThen];exact hK _ _ h
theorem dz(z:o.guard=none)(m x:Operand)(t:TypeId)(ok:Bool)(F:o.op=Op.lookup t m x ok)(A D v':Value)(w':World)(hm:a.eval m=A)(G:a.eval x=D)
 (d:(Instr.lookup t A D ok).run P w=.ok v' w')(h:wpList P ops Q rest (a.put o.dst v') w'):wpList P ops Q (o::rest) a w:=
 wpList_plain z fun _ hK=>by unfold Oper.wp;simp[execOp,F,hm,G,d,Result.andThen];exact hK _ _ h
theorem gO(z:o.guard=none)(m:Operand)(t:TypeId)(D:o.op=Op.range t m)(A v':Value)(w':World)(hm:a.eval m=A)
 (d:(Instr.range t A).run P w=.ok v' w')(h:wpList P ops Q rest (a.put o.dst v') w'):wpList P ops Q (o::rest) a w:=
 wpList_plain z fun _ hK=>by unfold Oper.wp;simp[execOp,D,hm,d,Result.andThen];exact hK _ _ h
end
theorem Dc{P:Program}(t e:TypeId)(i:TypeInfo)(z:Value)(bytes:Nat)(ht:P.underlying t=some (.slice e))(V:P.info? e=some i)(hz:i.zero=some z)(A:i.size=1)(W:i.bytes=bytes)(ad:z.cells.size=1)
 {w0 w:World}{v:Value}{n q:Nat}{xs:List Value}(h:w0.ownsRow 0 e 1 v n xs)(hq:v.ownBlock=some q)(hu:Upd [] w0 w)(x:Value)(hx:x.oneCell'=true)(U:Nat)(he:w.heap[U]? =some (.cells #[x] e (0,0)))
 (hl:n+1≤maxLen)(hb:(n+1)*bytes≤140737488355328):
 ∃g' cap' w2,Hid ((Builtin.append_ #[t,t] t #[v,.slice (some ⟨U,0,none⟩) 1 1]).run P w=.ok (.slice (some ⟨g',0,none⟩) (n+1) cap') w2)∧
  Hid (w2.ownsRow 0 e 1 (.slice (some ⟨g',0,none⟩) (n+1) cap') (n+1) (xs++[x]))∧Hid (Upd [q] w0 w2)∧Hid (g'=q∨w0.heap.size≤g'):=by
 have D:=hu.row h (by simp);have d:∀j u,[x][j]? =some u→w.cell? ((⟨U,0,none⟩:Addr).add j)=some u:=by intro j u hu;rw[aO,af he,aK];simpa using hu
 obtain⟨g',cap',w2,F,G,O,hg⟩:=dZ (P:=P) w t t e i z 1 bytes ht V hz A W ad (by decide) v n _ D ⟨U,0,none⟩ 1 1 _ rfl d (by simpa using hx) hl hb (by omega);rw[hq]at O hg;refine⟨g',cap',w2,aa F,aa G,aa ((hu.mono (by simp)).then O (fun i V _=>by simpa using V)),aa ?_⟩;rcases hg with hg|hg
 ·cases hg;exact .inl rfl
 ·have:=hu.size;exact .inr (by omega)
def aP(w0 w:World)(e k n:Nat)(v:Value)(xs:List Value):Prop:=w.ownsRow 0 e k v n xs∧∀b,v.ownBlock=some b→w0.heap.size≤b
theorem aP.nil{w0 w:World}{e k:Nat}:aP w0 w e k 0 (.slice none 0 0) []:=⟨⟨by simp,.inl ⟨rfl,rfl⟩⟩,fun b h=>by simp[Value.ownBlock]at h⟩
theorem aP.lt{w0 w:World}{e k n:Nat}{v:Value}{xs:List Value}(h:aP w0 w e k n v xs)(b:Nat)(hb:v.ownBlock=some b):b<w.heap.size:=(h.1.lt b hb).2
theorem aP.upd{w0 w w':World}{e k n:Nat}{v:Value}{xs:List Value}{L:List Nat}(h:aP w0 w e k n v xs)(hu:Upd L w w')(hL:∀b∈L,v.ownBlock≠some b):aP w0 w' e k n v xs:=
 ⟨hu.row h.1 (fun b hb hm=>hL b hm hb),h.2⟩
theorem aP.old{w0 w1 w:World}{e k n:Nat}{v:Value}{xs:List Value}(h:aP w1 w e k n v xs)(hs:w0.heap.size≤w1.heap.size):aP w0 w e k n v xs:=⟨h.1,fun b hb=>aW hs (h.2 b hb)⟩
theorem aP.shape{w0 w:World}{e k n:Nat}{v:Value}{xs:List Value}(h:aP w0 w e k n v xs):(v=.slice none 0 0∧n=0∧xs=[])∨∃g cap,v=.slice (some ⟨g,0,none⟩) n cap∧w0.heap.size≤g∧g<w.heap.size:=by
 rcases h.1.2 with⟨rfl,d⟩|⟨g,cap,cur,rfl,_⟩
 ·have z:=h.1.1;exact .inl ⟨rfl,d,by rw[d]at z;cases xs with|nil=>rfl|cons a l=>simp at z⟩
 ·exact .inr ⟨g,cap,rfl,h.2 g rfl,h.lt g rfl⟩
theorem aP.free{w0 w:World}{e k n g cap:Nat}{xs:List Value}(h:aP w0 w e k n (.slice (some ⟨g,0,none⟩) n cap) xs)(j:Nat):w.frozen? ⟨g,j,none⟩=false:=by
 rcases h.1.2 with⟨e,_⟩|⟨g',cap',cur,e,_,hb,_⟩
 ·cases e
 ·cases e;exact ao hb j
theorem jH{P:Program}(t e:TypeId)(i:TypeInfo)(z:Value)(k bytes:Nat)(ht:P.underlying t=some (.slice e))(U:P.info? e=some i)(hz:i.zero=some z)(A:i.size=k)(V:i.bytes=bytes)(W:z.cells.size=k)(hk:0<k)
 {b0 w0 w:World}{v:Value}{n:Nat}{xs:List Value}(h:aP b0 w0 e k n v xs)(hu:Upd [] w0 w)(x:List Value)(ad:x.length=k)(hx:∀u∈x,u.oneCell'=true)(O:Nat)(T:TypeId)(he:w.heap[O]? =some (.cells x.toArray T (0,0)))
 (a1:b0.heap.size≤w0.heap.size)(hl:n+1≤maxLen)(hb:(n+1)*bytes≤140737488355328):
 ∃v' w2,Hid ((Builtin.append_ #[t,t] t #[v,.slice (some ⟨O,0,none⟩) 1 1]).run P w=.ok v' w2)∧Hid (aP b0 w2 e k (n+1) v' (xs++x))∧Hid (Upd v.ownBlock.toList w0 w2)∧Hid (∀b,v'.ownBlock=some b→v.ownBlock=some b∨w0.heap.size≤b):=by
 have D:=hu.row h.1 (by simp);have d:∀j u,x[j]? =some u→w.cell? ((⟨O,0,none⟩:Addr).add j)=some u:=by intro j u hu;rw[aO,af he,aK];simpa using hu
 obtain⟨g',cap',w2,F,G,a0,hg⟩:=dZ (P:=P) w t t e i z k bytes ht U hz A V W hk v n _ D ⟨O,0,none⟩ 1 1 x (by rw[ad,Nat.one_mul]) d hx hl hb (by omega);have hs:=hu.size;refine⟨_,w2,aa F,aa ⟨G,fun b hb=>?_⟩,aa ((hu.mono (by simp)).then a0 (fun i U _=>U)),aa (fun b hb=>?_)⟩
 ·simp only[Value.ownBlock,aM]at hb;subst hb;rcases hg with hg|hg
  ·exact h.2 _ hg
  ·omega
 ·simp only[Value.ownBlock,aM]at hb;subst hb;rcases hg with hg|hg
  ·exact .inl hg
  ·exact .inr (by omega)
abbrev er:=@aP.nil
end Xc
namespace Go.Proofs.YtlgefdfflmgocaaGreatDoor
open Go Go.RowKit Xc Go.Proofs.Tryz
attribute [local go_sem ↓] Go.wp_at_zero Go.wp_at_succ
theorem Fu(w:World)(Z X cur:Nat)(d:Value)(a b c:Bool)(hb:w.heap[Z]? =some (kb d X cur a b c)):
 Calls prog 286 #[ptr Z 0] w fun e w'=>e=.returned (.int .u64 (cur:Nat))∧w=w':=by
 have z2:w.cell? ⟨Z,2,none⟩=some (.int .u64 (cur:Nat)):=af hb 2;clear hb;go_enter func286,ntmps286
 go_wp2_with fail;go_ret;exact⟨rfl,rfl⟩
theorem Ey(g n:Nat)(S:nW g n)(w:World)(Z X:Nat)(d c i1 i2 i3:Value)(A:List Nat)(hb:w.heap[Z]? =some (.cells #[d,gK X,c,i1,i2,i3] 287 (0,0)))(hE:ItE n w d A):
 Calls prog 287 #[ptr Z 0] w fun e w'=>e=.returned .nilIface∧Upd [] w w':=by
 obtain⟨T,p,U,V,W,hM⟩:=hE.meth;obtain rfl:=hM.eq;have mE:=hM.mE;have cE:=hM.cE;have D:=sP;have z0:w.cell? ⟨Z,0,none⟩=some (.iface T p):=af hb 0;have z:w.cell? ⟨Z,1,none⟩=some (gK X):=af hb 1;have F:=aa (S.err hE hM);clear hM hE hb;go_enter func287,ntmps287
 go_wp2_with fail;refine F.o.mono ?_;rintro e w2 ⟨rfl,hu⟩;have G:=aa hu;have z12:=hu.cell (by simp) z;have O:=hu.cell (by simp) z0;clear hu z0 z;go_wp2_with (go_at_call 313;refine(vz X _).mono ?_;rintro e w3 ⟨rfl,rfl⟩);go_ret;exact⟨rfl,G.o⟩
theorem D4(g n:Nat)(S:nW g n):nW g (n+1):=by
 refine⟨?_,?_,?_⟩
 ·intro w v B cur xs T p V W fE h G hm;rcases h with h|⟨Z,X,d,F,z,A,D,rfl,rfl,hb,O,hs⟩
  ·refine(S.next h G hm).mono ?_;rintro e w' ⟨rfl,h1,U,hu⟩;exact⟨rfl,fun x t e=>⟨.inl (h1 x t e).1,(h1 x t e).2⟩,.inl U,hu⟩
  ·obtain⟨_,rfl,rfl,_⟩:=hm.same (.rem Z);refine(CC g n S w Z X cur d F xs z A D hb O hs).mono ?_;rintro e w' ⟨rfl,⟨c,i1,i2,i3,h1,U,h3⟩,hu⟩;refine⟨rfl,fun x t e=>?_,.inr ⟨Z,X,d,F,_,_,_,_,rfl,rfl,h1,U,O.2.2.2.2.2.2⟩,hu⟩;obtain⟨rfl,h4⟩:=h3 x t e;exact⟨.inr ⟨Z,X,d,F,i1,i2,i3,rfl,rfl,h1,O,h4⟩,(e▸G).next⟩
 ·intro w v B cur xs T p V W fE h G G5 hm;rcases h with h|⟨Z,X,d,F,z,A,D,rfl,rfl,hb,O,hs⟩
  ·exact S.at_ h G G5 hm
  ·obtain⟨_,rfl,_,rfl,_⟩:=hm.same (.rem Z);exact Fu w Z X cur d z A D hb
 ·intro w v B T p V W fE h hm;rcases h with h|⟨Z,X,d,F,c,i1,i2,i3,rfl,rfl,hb,hE,_⟩
  ·exact S.err h hm
  ·obtain⟨_,rfl,_,_,rfl⟩:=hm.same (.rem Z);exact Ey g n S w Z X d c i1 i2 i3 F hb hE
theorem Aj(g:Nat):∀n,nW g n
 |0=>D3 g
 |n+1=>D4 g n (Aj g n)
theorem It.ne{g:Nat}:∀{n:Nat} {w:World} {v:Value} {B:List Nat} {cur x:Nat} {t:List Nat},It g n w v B cur (x::t)→v≠da:=by
 intro n;induction n with
 |zero=>
  intro w v B cur x t h;rcases h with⟨_,_,h⟩|⟨X,rfl,_⟩|⟨Y,q,Xs,av,rfl,_⟩
  ·cases h
  ·simp
  ·simp
 |succ n d=>
  intro w v B cur x t h;rcases h with h|⟨Z,X,F,G,z,A,D,rfl,_⟩
  ·exact d h
  ·simp
theorem Tryz.info133:(Tryz.prog.info? 133).map (fun i=>(i.zero,i.size,i.bytes))=some (some (.int .u64 0),1,8):=by kernel_rfl
theorem Tryz.info41:(Tryz.prog.info? 41).map (fun i=>(i.zero,i.size,i.bytes))=some (some (.int .u64 0),1,8):=by kernel_rfl
abbrev o7(xs:List Nat):List Value:=xs.map fun x=>Value.int .u64 (x:Nat)
theorem Dl(g n:Nat)(w:World)(v:Value)(B:List Nat)(cur:Nat)(xs:List Nat)(h:It g n w v B cur xs)(ha:Asc cur xs)(hB:∀b∈B,b<w.heap.size)(hg:g<w.heap.size):
 Calls prog 68 #[v] w fun e w'=>∃r,e=.returned (.tuple #[r,.nilIface])∧aP w w' 133 1 xs.length r (o7 xs)∧Upd B w w':=by
 have S:=Aj g n;obtain⟨T,p,fN,fA,fE,hM⟩:=h.shape.meth;obtain rfl:=hM.eq;obtain⟨i0,hi,ad,a0,a1⟩:=info_parts Tryz.info133;have mN:=hM.mN;have mA:=hM.mA;have mE:=hM.mE;have cN:=hM.cN;have cA:=hM.cA;have cE:=hM.cE;have HM:=aa hM;have HI:=aa (And.intro h ha);have HB:=aa (And.intro hB hg);have hlen:=ha.len;clear hM h ha hB hg;go_enter func68,ntmps68
 go_wp2_with fail;go_loopg [2] xs.length (fun gg s2 wx=>∃d rest c,Hid (xs=d++rest)∧gg=rest.length∧Hid (It g n wx (.iface T p) B c rest∧Asc c rest)∧Hid (aP w wx 133 1 d.length s2 (o7 d))∧Hid (Upd B w wx))
 case atStart=>exact⟨[],xs,cur,aa rfl,rfl,HI,aa er,aa ((ae _).mono (by simp))⟩
 case round=>
  obtain⟨d,rest,c,HX,a2,F,HR,HU⟩:=hrel;clear HI;have KN:=aa (S.next F.o.1 F.o.2 HM.o);cases rest with
  |nil=>
   go_wp2_with fail;refine KN.o.mono ?_;rintro e w2 ⟨rfl,_,hE,hu⟩;have KE:=aa (S.err hE HM.o);have z:=aa hu;clear hE hu;go_wp2_with fail;refine KE.o.mono ?_;rintro e w3 ⟨rfl,hu⟩;have O:=aa hu;clear hu;go_wp2_with fail;go_ret2
   have hx:xs=d:=by rw[HX.o,bk]
   rw[hx];exact⟨_,rfl,(HR.o.upd z.o (fun b hb hv=>by have h1:=HR.o.2 b hv;have h2:=HB.o.1 b hb;omega)).upd O.o (by simp),(HU.o.then z.o (fun b hb _=>hb)).then O.o (by simp)⟩
  |cons x t=>
   have G5:=F.o.1.ne;go_wp2_with fail;refine KN.o.mono ?_;rintro e w2 ⟨rfl,h1,_,hu⟩;have h1:=h1 x t rfl;have KA:=aa (S.at_ h1.1 h1.2 G5 HM.o);have U:=aa h1;have z:=aa hu;have G:=aa (HR.o.upd hu (fun b hb hv=>by have h1:=HR.o.2 b hv;have h2:=HB.o.1 b hb;omega));clear h1 hu G5 KN;go_wp2_with fail;refine KA.o.mono ?_;rintro e _ ⟨rfl,rfl⟩;obtain⟨D,hD⟩:∃D,D=d.length:=⟨_,rfl⟩;rw[←hD]at G;have a3:D≤12:=by have h1:=congrArg List.length HX.o;simp only[ab]at h1;omega
   have V:Upd [] w2 (w2.alloc (.cells #[.int .u64 (x:Nat)] 133 (0,0))):=(ae _).alloc _;have he:(w2.alloc (.cells #[.int .u64 (x:Nat)] 133 (0,0))).heap[w2.heap.size]? =some (.cells #[.int .u64 (x:Nat)] 133 (0,0)):=an _;obtain⟨v',w3,W,G3,G4,_⟩:=jH (P:=prog) 182 133 i0 _ 1 8 underlying182 hi ad a0 a1 rfl (by decide) G.o V [.int .u64 (x:Nat)] rfl (by simp[Value.oneCell']) _ _ he (by have h1:=HU.o.size;have h2:=z.o.size;omega) (by unfold maxLen;omega) (by omega);have Hn:=aa hD;clear V he hD;go_wp2_with (at_builtin;refine bc rfl _ _ _ rfl _ _ _ _ rfl rfl W.o ?_);go_roundg t.length
   case measure=>simp only[aj]at a2;omega
   case rel=>
    have A:∀b∈u2.ownBlock.toList,w.heap.size≤b:=fun b hb=>G.o.2 b (by simpa using hb);refine⟨d++[x],t,x,aa (by rw[HX.o];simp),rfl,aa ⟨jN G4.o (fun hm=>by have h1:=A g hm;have h2:=HB.o.2;omega) U.o.1 (fun b hb hm=>by have h1:=A b hm;have h2:=HB.o.1 b hb;omega),U.o.2⟩,?_,aa ((HU.o.then z.o (fun b hb _=>hb)).then G4.o (fun b hb hl=>by have:=A b hb;omega))⟩;have:=G3;rw[Hn.o]at this;simpa[o7]using this
end Go.Proofs.YtlgefdfflmgocaaGreatDoor
