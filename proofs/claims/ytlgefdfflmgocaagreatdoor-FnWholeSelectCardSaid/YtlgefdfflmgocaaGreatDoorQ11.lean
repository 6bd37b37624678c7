import Derived.Test.YtlgefdfflmgocaaGreatDoorQ10
set_option linter.all false
set_option maxRecDepth 100000
set_option maxHeartbeats 2000000
namespace Go.Proofs.YtlgefdfflmgocaaGreatDoor
open Go Go.RowKit Xc Go.Proofs.Tryz
attribute [local go_sem ↓] Go.wp_at_zero Go.wp_at_succ
theorem mM(w:World):Calls prog 56 #[] w fun e w'=>e=.returned da∧w=w':=by
 go_enter func56,ntmps56
 go_wp2_with fail;go_ret;exact⟨rfl,rfl⟩
theorem DR(w:World):(binOp BinOp.eql 76 da da).run prog w=.ok (.bool true) w:=by kernel_rfl
theorem Fa(X:Nat)(w:World):(binOp BinOp.eql 76 (gK X) da).run prog w=.ok (.bool false) w:=by kernel_rfl
theorem Gp(X:Nat)(w:World):(binOp BinOp.eql 76 (oh X) da).run prog w=.ok (.bool false) w:=by kernel_rfl
theorem Gq(X:Nat)(w:World):(binOp BinOp.eql 76 (yD X) da).run prog w=.ok (.bool false) w:=by kernel_rfl
theorem Gn(X:Nat)(w:World):(binOp BinOp.eql 76 da (gK X)).run prog w=.ok (.bool false) w:=by kernel_rfl
theorem Ff(X:Nat)(a b:Operand)(w:World):(eqGuard BinOp.eql 76 a b (gK X) da).run prog w=.ok () w:=by kernel_rfl
theorem GB(X:Nat)(a b:Operand)(w:World):(eqGuard BinOp.eql 76 a b (oh X) da).run prog w=.ok () w:=by kernel_rfl
theorem GC(X:Nat)(a b:Operand)(w:World):(eqGuard BinOp.eql 76 a b (yD X) da).run prog w=.ok () w:=by kernel_rfl
structure Dr(v:Value):Prop where
 eq:∀w,(binOp BinOp.eql 76 v da).run prog w=.ok (.bool false) w
 gd:∀a b w,(eqGuard BinOp.eql 76 a b v da).run prog w=.ok () w
 sh:∃T p,v=.iface T p
theorem It.eqE{g:Nat}:∀{n:Nat} {w:World} {v:Value} {B:List Nat} {cur:Nat} {xs:List Nat},It g n w v B cur xs→v≠da→Dr v:=by
 intro n;induction n with
 |zero=>
  intro w v B cur xs h G5;rcases h with⟨rfl,_⟩|⟨X,rfl,_⟩|⟨Y,q,Xs,av,rfl,_⟩
  ·exact absurd rfl G5
  ·exact⟨Fa _,Ff _,_,_,rfl⟩
  ·exact⟨Gp _,GB _,_,_,rfl⟩
 |succ n d=>
  intro w v B cur xs h G5;rcases h with h|⟨Z,X,F,G,z,A,D,rfl,_⟩
  ·exact d h G5
  ·exact⟨Gq _,GC _,_,_,rfl⟩
theorem zn(v:Value)(w:World):Calls prog 29 #[da,v] w fun e w'=>e=.returned da∧w=w':=by
 have h1:=DR;go_enter func29,ntmps29
 go_wp2_with (go_at_call 56;refine(mM _).mono ?_;rintro e w' ⟨rfl,rfl⟩);go_ret;exact⟨rfl,rfl⟩
theorem zp(v:Value)(w:World)(hv:Dr v):Calls prog 29 #[v,da] w fun e w'=>e=.returned v∧w=w':=by
 have h1:=DR;obtain⟨d,z,T,p,rfl⟩:=hv;go_enter func29,ntmps29
 go_wp2_with (go_at_call 56;refine(mM _).mono ?_;rintro e w' ⟨rfl,rfl⟩);go_ret;exact⟨rfl,rfl⟩
theorem Em(T:Nat)(p:Value)(X:Nat)(w:World):Calls prog 67 #[.iface T p,gK X] w fun e w'=>∃Z,e=.returned (ptr Z 0)∧w'.heap[Z]? =some (kb (.iface T p) X 0 false false false)∧w.heap.size≤Z∧Upd [] w w':=by
 go_enter func67,ntmps67
 go_wp2_with fail;go_ret;exact⟨_,rfl,an _,aw _,(ae _).alloc _⟩
theorem zq(v:Value)(X:Nat)(w:World)(hv:Dr v):
 Calls prog 29 #[v,gK X] w fun e w'=>∃Z,e=.returned (yD Z)∧w'.heap[Z]? =some (kb v X 0 false false false)∧w.heap.size≤Z∧Upd [] w w':=by
 have h1:=Fa;have h4:=Ff;obtain⟨A,D,T,p,rfl⟩:=hv;go_enter func29,ntmps29
 go_wp2_with (first
  |(go_at_call 56;refine(mM _).mono ?_;rintro e w' ⟨rfl,rfl⟩)
  |(go_at_call 67;refine(Em _ _ X _).mono ?_;rintro e w' ⟨Z,rfl,d,hl,hu⟩;have z:=aa (And.intro d (And.intro hl hu));clear d hl hu))
 go_ret;exact⟨_,rfl,z.o⟩
def PIt(g:Nat)(w:World)(v:Value)(B:List Nat)(xs:List Nat):Prop:=(v=da∧B=[]∧xs=[])∨∃X,v=gK X∧B=[X]∧iE w X g 0 xs
theorem PIt.it{g:Nat}{w:World}{v:Value}{B:List Nat}{xs:List Nat}(h:PIt g w v B xs):It g 0 w v B 0 xs:=by
 rcases h with h|⟨X,h⟩
 ·exact .inl h
 ·exact .inr (.inl ⟨X,h⟩)
theorem BG(g n:Nat)(w:World)(v p:Value)(B F:List Nat)(xs ys:List Nat)(h:It g n w v B 0 xs)(G:Asc 0 xs)(hp:PIt g w p F ys)(hB:∀b∈B,b<w.heap.size∧b∉F∧b≠g)(O:∀b∈F,b<w.heap.size∧b≠g)(hg:g<w.heap.size):
 Calls prog 29 #[v,p] w fun e w'=>∃v' U,e=.returned v'∧It g (n+1) w' v' U 0 (dif xs ys)∧Asc 0 (dif xs ys)∧(∀b∈U,b∈B∨b∈F∨w.heap.size≤b)∧(∀b∈U,b<w'.heap.size∧b≠g)∧Upd [] w w':=by
 have d:(dif xs ys).Sublist xs:=lh;have z:Asc 0 (dif xs ys):=by have h1:=d.length_le;have h2:=G.len;exact⟨G.asc.sublist (d.cons_cons 0),fun x hx=>G.lt x ((d.cons_cons 0).subset hx),by omega⟩
 by_cases hv:v=da
 ·subst hv;have V:xs=[]:=by
   have:∀{n:Nat} {B:List Nat} {cur:Nat} {xs:List Nat},It g n w da B cur xs→xs=[]:=by
    intro n;induction n with
    |zero=>
     intro B cur xs h;rcases h with⟨_,_,h⟩|⟨X,h,_⟩|⟨Y,q,Xs,av,h,_⟩
     ·exact h
     ·simp at h
     ·simp at h
    |succ n W=>
     intro B cur xs h;rcases h with h|⟨Z,X,fv,Bf,a0,a1,a2,h,_⟩
     ·exact W h
     ·simp at h
   exact this h
  subst V;refine(zn p w).mono ?_;rintro e w' ⟨rfl,rfl⟩;have A:∀n,It g n w da [] 0 []:=fun n=>by
   induction n with
   |zero=>exact .inl ⟨rfl,rfl,rfl⟩
   |succ n W=>exact .inl W
  exact⟨_,[],rfl,by simpa[dif]using A (n+1),z,by simp,by simp,ae _⟩
 ·have hq:=h.eqE hv;rcases hp with⟨rfl,rfl,rfl⟩|⟨X,rfl,rfl,hb⟩
  ·refine(zp v w hq).mono ?_;rintro e w' ⟨rfl,rfl⟩;exact⟨_,B,rfl,.inl (by rw[sB];exact h),z,fun b hb=>.inl hb,fun b hb=>⟨(hB b hb).1,(hB b hb).2.2⟩,ae _⟩
  ·refine(zq v X w hq).mono ?_;rintro e w' ⟨Z,rfl,hZ,hl,hu⟩;have D:=O X (by simp)
   refine⟨_,Z::X::B,rfl,.inr ⟨Z,X,v,B,false,false,false,rfl,rfl,hZ,⟨fun hm=>by have:=(hB Z hm).1;omega,fun hm=>(hB X hm).2.1 (by simp),by omega,by omega,D.2,fun hm=>(hB g hm).2.2 rfl,hv⟩,
    .inl ⟨rfl,0,xs,0,ys,jN hu (by simp) h (by simp),G,hb.upd hu (by simp) (by simp),rfl⟩⟩,z,?_,?_,hu⟩
   ·intro b hb;simp only[ah]at hb;rcases hb with rfl|rfl|hb
    ·exact .inr (.inr hl)
    ·exact .inr (.inl (by simp))
    ·exact .inl hb
   ·intro b hb;have hs:=hu.size;have ad:=lt_of_block hZ;simp only[ah]at hb;rcases hb with rfl|rfl|hb
    ·exact⟨ad,by omega⟩
    ·exact⟨by omega,D.2⟩
    ·exact⟨by have:=(hB b hb).1;omega,(hB b hb).2.2⟩
theorem Gz(X:Nat)(a b:Operand)(w:World):(eqGuard BinOp.eql 76 a b da (gK X)).run prog w=.ok () w:=by kernel_rfl
theorem GA(a b:Operand)(w:World):(eqGuard BinOp.eql 76 a b da da).run prog w=.ok () w:=by kernel_rfl
def DB(w:World)(q:Nat)(d:List Value):Prop:=∀i (h:i<d.length),w.cell? ⟨q,i,none⟩=some d[i]∧(d[i]=da∨∃X,d[i]=gK X)
theorem DZ(w:World)(q n cap:Nat)(z:List Value)(h:DB w q z)(hn:n=z.length)(V:n≤12):
 Calls prog 131 #[.slice (some ⟨q,0,none⟩) n cap,da] w fun e w'=>((da∉z∧e=.returned (.int .i64 (-1)))∨(da∈z∧∃k:Nat,e=.returned (.int .i64 k)))∧w=w':=by
 have h1:=DR;have h2:=Gn;have h3:=Gz;have h4:=GA;have W:=aa h;have G:=aa hn;clear h hn;go_enter func131,ntmps131
 go_wp2_with fail;go_loopg [4,8] n (fun gg s4 s8 wx=>∃k,s4=.int .i64 0∧s8=.int .i64 (k:Nat)∧k≤n∧gg=n-k∧wx=w∧Hid (∀i (h:i<z.length),i<k→z[i]≠da))
 case atStart=>exact⟨0,rfl,rfl,ay _,rfl,rfl,aa (by omega)⟩
 case round=>
  obtain⟨k,rfl,rfl,ad,a0,rfl,O⟩:=hrel;by_cases hk:k<n
  ·have A:k<z.length:=by rw[←G.o];exact hk
   obtain⟨U,d⟩:=W.o k A;have F:(k:Int)<(n:Int):=by omega
   rcases d with d|⟨X,d⟩
   ·have HM:Hid (da∈z):=aa (by rw[←d];exact aq A);rw[d]at U;clear d;go_wp2_with fail;go_ret;exact⟨.inr ⟨HM.o,k,rfl⟩,rfl⟩
   ·have HE:Hid (z[k]≠da):=aa (by rw[d];simp);rw[d]at U;clear d;go_wp2_with fail;go_roundg (n-(k+1))
    case measure=>omega
    case rel=>
     refine⟨k+1,rfl,by go_num,by omega,rfl,rfl,aa (fun i D a1=>?_)⟩;by_cases e:i=k
     ·subst e;exact HE.o
     ·exact O.o i D (by omega)
  ·obtain rfl:k=n:=by omega
   have F:¬(k:Int)<(k:Int):=by omega
   go_wp2_with fail;go_ret;refine⟨.inl ⟨fun hm=>?_,rfl⟩,rfl⟩;obtain⟨i,D,e⟩:=aQ hm;exact O.o i D (by rw[G.o];exact D) e
theorem xS(w:World)(q n cap:Nat)(d:List Value)(h:DB w q d)(hn:n=d.length)(z:n≤12):
 Calls prog 65 #[.slice (some ⟨q,0,none⟩) n cap,da] w fun e w'=>((da∉d∧e=.returned (.bool false))∨(da∈d∧e=.returned (.bool true)))∧w=w':=by
 have D:=aa (DZ w q n cap d h hn z);clear h hn;go_enter func65,ntmps65
 go_wp2_with fail;refine D.o.mono ?_;rintro e w2 ⟨he,rfl⟩;rcases he with⟨h1,rfl⟩|⟨h1,k,rfl⟩
 ·have A:=aa h1;clear h1;go_wp2_with fail;go_ret;exact⟨.inl ⟨A.o,rfl⟩,rfl⟩
 ·have A:=aa h1;clear h1;have F:(0:Int)≤(k:Int):=by omega
  go_wp2_with fail;go_ret;exact⟨.inr ⟨A.o,by simp⟩,rfl⟩
theorem AH(q n cap:Nat)(w:World):Calls prog 66 #[.slice (some ⟨q,0,none⟩) n cap] w fun e w'=>∃Y,e=.returned (ptr Y 0)∧w'.heap[Y]? =some (.cells #[.slice (some ⟨q,0,none⟩) n cap,.int .u64 0] 285 (0,0))∧w.heap.size≤Y∧Upd [] w w':=by
 go_enter func66,ntmps66
 go_wp2_with fail;go_ret;exact⟨_,rfl,an _,aw _,(ae _).alloc _⟩
def gm:List (List Nat)→List Nat
 |[]=>[]
 |a::r=>a.filter fun x=>r.all fun l=>l.contains x
theorem pO(a:List Nat):gm [a]=a:=by simp[gm]
theorem vN{av:List (List Nat)}(h:[]∈av):gm av=[]:=by
 cases av with
 |nil=>rfl
 |cons a r=>
  simp only[gm,ah]at h⊢;rcases h with rfl|h
  ·rfl
  ·rw[List.filter_eq_nil_iff];intro x _ d;have:=List.all_eq_true.1 d [] h;simp at this
theorem vQ{av:List (List Nat)}{a:List Nat}(h:av[0]? =some a):(gm av).Sublist a:=by
 cases av with
 |nil=>simp at h
 |cons b r=>
  simp only[gH,aM]at h;subst h;exact lh
theorem vM{av:List (List Nat)}(G5:av≠[])(d:∀l∈av,l.Pairwise (· <·)):IsA 0 av (gm av):=by
 cases av with
 |nil=>exact absurd rfl G5
 |cons a r=>
  refine⟨d,(d a (by simp)).sublist lh,fun x=>?_⟩;simp only[gm,eO,List.all_eq_true,kf,ah,ay,true_and];constructor
  ·rintro⟨h1,z⟩ l (rfl|hl)
   ·exact h1
   ·exact z l hl
  ·intro h;exact⟨h a (.inl rfl),fun l hl=>h l (.inr hl)⟩
abbrev PL:=List (Value×List Nat×List Nat)
structure Bv(g:Nat)(w:World)(q:Nat)(l:PL):Prop where
 at_:∀i (h:i<l.length),w.cell? ⟨q,i,none⟩=some l[i].1∧PIt g w l[i].1 l[i].2.1 l[i].2.2
 dis:(q::g::l.flatMap fun x=>x.2.1).Nodup
 lt:∀x∈l,∀b∈x.2.1,b<w.heap.size
 few:l.length≤12
theorem Bv.arr{g q:Nat}{w:World}{l:PL}(h:Bv g w q l):DB w q (l.map (·.1)):=fun i z=>by
 rw[aB]at z;obtain⟨h1,d⟩:=h.at_ i z;simp only[de];refine⟨h1,?_⟩;rcases d with⟨d,_⟩|⟨X,d,_⟩
 ·exact .inl d
 ·exact .inr ⟨X,d⟩
theorem BI{g:Nat}{w:World}:∀l:PL,(∀x∈l,∃X,x.1=gK X∧x.2.1=[X]∧iE w X g 0 x.2.2)→
 ∃Xs:List Nat,(l.flatMap fun x=>x.2.1)=Xs∧Xs.length=l.length∧∀i (h:i<l.length) (O:i<Xs.length),l[i].1=gK Xs[i]∧iE w Xs[i] g 0 l[i].2.2:=by
 intro l;induction l with
 |nil=>intro _;exact⟨[],rfl,rfl,fun i h=>by simp at h⟩
 |cons x l z=>
  intro h;obtain⟨X,h1,A,D⟩:=h x (by simp);obtain⟨Xs,e1,e2,e3⟩:=z (fun y F=>h y (by simp[F]));refine⟨X::Xs,by rw[aY,A,e1];rfl,by simp[e2],fun i G d=>?_⟩;cases i with
  |zero=>exact⟨h1,D⟩
  |succ i=>exact e3 i (by simpa using G) (by simpa using d)
theorem xE(g q cap:Nat)(w:World)(l:PL)(h:Bv g w q l)(G5:l≠[]):
 Calls prog 28 #[.slice (some ⟨q,0,none⟩) l.length cap] w fun e w'=>∃v B,e=.returned v∧It g 0 w' v B 0 (gm (l.map fun x=>x.2.2))∧Asc 0 (gm (l.map fun x=>x.2.2))∧(∀b∈B,b=q∨(∃x∈l,b∈x.2.1)∨w.heap.size≤b)∧(∀b∈B,b<w'.heap.size∧b≠g)∧Upd [] w w':=by
 obtain⟨G,l',d⟩:∃G l',l=G::l':=by cases l with
  |nil=>exact absurd rfl G5
  |cons x l=>exact⟨x,l,rfl⟩
 have A:=h.at_ 0 (by rw[d];simp);have e0:l[0]'(by rw[d];simp)=G:=by simp[d]
 rw[e0]at A;obtain⟨n,hn⟩:∃n,n=l.length:=⟨_,rfl⟩;have a7:1≤n:=by rw[hn,d];simp
 have a2:n≤12:=by rw[hn];exact h.few
 rw[←hn];have HC:=aa (xS w q n cap (l.map (·.1)) h.arr (by rw[aB];exact hn) a2);have W:=aa h;have HN:=aa hn;have HX:=aa (And.intro d A.2);have c0:=A.1;have D:Asc 0 (gm (l.map fun x=>x.2.2)):=by
  have hs:(gm (l.map fun x=>x.2.2)).Sublist G.2.2:=vQ (by simp[d]);have ha:Asc 0 G.2.2:=by
   rcases A.2 with⟨_,_,e⟩|⟨X,_,_,hb⟩
   ·rw[e];exact⟨by simp,by simp,by simp⟩
   ·exact hb.ascI
  have h1:=hs.length_le;have h2:=ha.len;exact⟨ha.asc.sublist (hs.cons_cons 0),fun x z=>ha.lt x ((hs.cons_cons 0).subset z),by omega⟩
 have HA:=aa D;clear h hn d A G5 e0 D;by_cases h1:n=1
 ·subst h1;obtain⟨v0,a0⟩:∃v,v=G.1:=⟨_,rfl⟩;rw[←a0]at c0;have Hv:=aa a0;clear a0;go_enter func28,ntmps28
  go_wp2_with fail;go_ret;have O:l=[G]:=by
   have h1:=HX.o.1;have h2:=HN.o;rw[h1]at h2;cases l' with
   |nil=>exact h1
   |cons y l'=>simp at h2
  refine⟨v0,G.2.1,rfl,?_,HA.o,fun b hb=>.inr (.inl ⟨G,by rw[O];simp,hb⟩),fun b hb=>⟨W.o.lt G (by rw[O];simp) b hb,fun e=>?_⟩,ae _⟩
  ·rw[Hv.o,O];simp only[aN,cQ,pO];exact HX.o.2.it
  ·have U:=W.o.dis;rw[O]at U;simp only[aY,gE,bk,a8]at U;exact U.2.1 (e▸hb)
 ·have a9:2≤n:=by omega
  have t1:((n:Int)==0)=false:=by simp;omega
  have t2:((n:Int)==1)=false:=by simp;omega
  go_enter func28,ntmps28
  go_wp2_with (first|(go_at_call 56;refine(mM _).mono ?_;rintro e w' ⟨rfl,rfl⟩));refine HC.o.mono ?_;rintro e w2 ⟨he,rfl⟩;rcases he with⟨hm,rfl⟩|⟨hm,rfl⟩
  ·
   have HM:=aa hm;clear hm;go_wp2_with fail;refine(AH q n cap _).mono ?_;rintro e w3 ⟨Y,rfl,hY,V,hu⟩;have HY:=aa (And.intro hY (And.intro V hu));clear hY V hu;go_wp2_with fail;go_ret;have ad:∀x∈l,∃X,x.1=gK X∧x.2.1=[X]∧iE w X g 0 x.2.2:=fun x z=>by
    obtain⟨i,hi,rfl⟩:=aQ z;rcases(W.o.at_ i hi).2with⟨e,_⟩|h
    ·exact absurd (List.mem_map.2 ⟨_,z,e⟩) HM.o
    ·exact h
   obtain⟨Xs,e1,e2,e3⟩:=BI l ad;have hu:=HY.o.2.2;have U:=W.o.dis;rw[e1]at U;have a3:∀b∈Xs,b<w.heap.size:=fun b hb=>by rw[←e1]at hb;obtain⟨x,z,hb⟩:=List.mem_flatMap.1 hb;exact W.o.lt x z b hb
   have d:0<l.length:=by rw[←HN.o];omega
   have bb:q<w.heap.size:=ez (W.o.at_ 0 d).1;have bd:g<w.heap.size:=(e3 0 d (by omega)).2.g_lt;have V:=HY.o.2.1;have a1:Xs.length=n:=by rw[e2];exact HN.o.symm
   have hI:dH 0 w3 Y q g 0 Xs (l.map fun x=>x.2.2):=by
    refine⟨⟨cap,by rw[a1];exact HY.o.1⟩,fun i hi=>?_,by rw[aB,e2],fun i hi=>?_,?_,by decide,fun e=>?_,by omega⟩
    ·have F:i<l.length:=by omega
     rw[←(e3 i F hi).1];exact hu.cell (by simp) (W.o.at_ i F).1
    ·have F:i<l.length:=by omega
     exact⟨0,_,(e3 i F hi).2.upd hu (by simp) (by simp),by simp[F]⟩
    ·refine List.nodup_cons.2 ⟨fun hm=>?_,U⟩;simp only[ah]at hm;rcases hm with rfl|rfl|hm
     ·omega
     ·omega
     ·have:=a3 Y hm;omega
    ·rw[e]at a1;simp at a1;omega
   have a4:∀a∈l.map (fun x=>x.2.2),a.Pairwise (· <·):=fun a ha=>by obtain⟨x,z,rfl⟩:=List.mem_map.1 ha;obtain⟨X,_,_,hb⟩:=ad x z;exact(List.pairwise_cons.1 hb.asc).2
   have G5:l.map (fun x=>x.2.2)≠[]:=fun e=>by rw[HX.o.1]at e;simp at e
   have hs:=hu.size;have a5:=lt_of_block HY.o.1;refine⟨oh Y,Y::q::Xs,rfl,.inr (.inr ⟨Y,q,Xs,_,rfl,rfl,hI,vM G5 a4⟩),HA.o,fun b hb=>?_,fun b hb=>?_,hu⟩
   ·simp only[ah]at hb;rcases hb with rfl|rfl|hb
    ·exact .inr (.inr V)
    ·exact .inl rfl
    ·rw[←e1]at hb;obtain⟨x,z,hb⟩:=List.mem_flatMap.1 hb;exact .inr (.inl ⟨x,z,hb⟩)
   ·simp only[a8,ah,not_or]at U;simp only[ah]at hb;rcases hb with rfl|rfl|hb
    ·exact⟨a5,by omega⟩
    ·exact⟨by omega,U.1.1⟩
    ·exact⟨by have:=a3 b hb;omega,fun e=>U.2.1 (e▸hb)⟩
  ·
   have HM:=aa hm;clear hm;go_wp2_with (first|(go_at_call 56;refine(mM _).mono ?_;rintro e w' ⟨rfl,rfl⟩));go_ret;have:gm (l.map fun x=>x.2.2)=[]:=by
    refine vN ?_;obtain⟨x,z,a6⟩:=List.mem_map.1 HM.o;obtain⟨i,hi,rfl⟩:=aQ z;have:=(W.o.at_ i hi).2;rcases this with⟨_,_,e⟩|⟨X,e,_⟩
    ·exact List.mem_map.2 ⟨l[i],z,e⟩
    ·rw[a6]at e;simp at e
   exact⟨da,[],rfl,.inl ⟨rfl,rfl,this⟩,HA.o,by simp,by simp,ae _⟩
theorem EJ(w0 w:World)(r:Value)(xs:List Nat)(h:aP w0 w 133 1 xs.length r (o7 xs))(hl:xs.length≤12):
 Calls prog 69 #[r] w fun e w'=>∃v,e=.returned v∧aP w w' 41 1 xs.length v (o7 xs)∧Upd [] w w':=by
 obtain⟨i0,hi,O,U,V⟩:=info_parts Tryz.info41;obtain⟨M,hM⟩:∃M,M=xs.length:=⟨_,rfl⟩;have HM:=aa hM;have a0:M≤12:=by omega
 obtain⟨b,cap,rfl,d⟩:∃b cap,r=.slice b M cap∧∀j (h:j<xs.length),∃q,b=some ⟨q,0,none⟩∧w.cell? ⟨q,j,none⟩=some (.int .u64 (xs[j]:Nat)):=by
  rcases h.shape with⟨rfl,h1,h2⟩|⟨q,cap,rfl,_⟩
  ·exact⟨none,0,by rw[hM,h1],fun j W=>by omega⟩
  ·refine⟨_,cap,by rw[hM],fun j W=>⟨q,rfl,?_⟩⟩;have:=h.1.cells (g:=q) rfl j (.int .u64 (xs[j]:Nat)) (by simp[o7,W]);rw[aO,aK]at this;exact this
 have HC:=aa d;rw[←hM];clear h hM d hl;go_enter func69,ntmps69
 go_wp2_with fail;go_loopw [3,8] (fun v c wr=>∃j:Nat,j≤M∧c=.int .i64 j∧aP w wr 41 1 j v (o7 (xs.take j))∧Upd [] w wr) (fun _ c _=>M-(intOf c).toNat)
 case atStart=>exact⟨0,ay _,rfl,by rw[fd];exact er,ae _⟩
 case round=>
  obtain⟨j,W,rfl,hV,hU⟩:=hrel;have F:=aa hV;have G:=aa hU;clear hV hU;by_cases a1:j<M
  ·have z:j<xs.length:=by have:=HM.o;omega
   obtain⟨q,hq,hc⟩:=HC.o j z;subst hq;have r1:=G.o.cell (by simp) hc;have ad:=ez r1;simp only at ad;have HP:Hid (o7 (xs.take (j+1))=o7 (xs.take j)++[.int .u64 (xs[j]:Nat)]):=aa (by rw[ax z];exact aX);obtain⟨a,ha⟩:∃a,a=xs[j]:=⟨_,rfl⟩;rw[←ha]at r1 HP;clear ha hc;have A:Upd [] wr (wr.alloc (.cells #[.int .u64 (a:Nat)] 41 (0,0))):=(ae _).alloc _;have he:(wr.alloc (.cells #[.int .u64 (a:Nat)] 41 (0,0))).heap[wr.heap.size]? =some (.cells #[.int .u64 (a:Nat)] 41 (0,0)):=an _;obtain⟨v',w2,D,G3,G4,_⟩:=jH (P:=prog) 86 41 i0 _ 1 8 underlying86 hi O U V rfl (by decide) F.o A [.int .u64 (a:Nat)] rfl (by simp[Value.oneCell']) _ _ he G.o.size (by unfold maxLen;omega) (by omega);clear A he;go_wp2_with (at_builtin;refine bc rfl _ _ _ rfl _ _ _ _ rfl rfl D.o ?_);refine⟨⟨j+1,by omega,by go_num,?_,G.o.then G4.o (fun b hb hl=>?_)⟩,by simp only[intOf];omega⟩
   ·rw[HP.o];exact G3.o
   ·have:=F.o.2 b (by simpa using hb);omega
  ·obtain rfl:j=M:=by omega
   have he:xs.take j=xs:=by rw[HM.o,aS]
   rw[he]at F;go_wp2_with fail;go_ret;exact⟨_,rfl,F.o,G.o⟩
theorem zT(g n:Nat)(w:World)(v:Value)(B:List Nat)(cur:Nat)(xs:List Nat)(h:It g n w v B cur xs)(d:Asc cur xs)(hB:∀b∈B,b<w.heap.size)(hg:g<w.heap.size):
 Calls prog 30 #[v] w fun e w'=>∃r,e=.returned (.tuple #[r,.bool true])∧aP w w' 41 1 xs.length r (o7 xs)∧Upd B w w':=by
 have F:=aa (Dl g n w v B cur xs h d hB hg);have O:=aa hB;have hl:=d.len;clear h d hB hg;go_enter func30,ntmps30
 go_wp2_with fail;refine F.o.mono ?_;rintro e w2 ⟨r,rfl,hr,hu⟩;have G:=aa hr;have D:=aa hu;clear hr hu;go_wp2_with fail;refine(EJ w w2 r xs G.o hl).mono ?_;rintro e U ⟨V,rfl,hr,hu⟩;have z:=aa hr;have A:=aa hu;clear hr hu;go_wp2_with fail;go_ret2
 exact⟨_,rfl,z.o.old D.o.size,D.o.then A.o (by simp)⟩
theorem se(g:Nat)(v:Value)(bs a body c:Bytes)(w:World)(h:RdG w v g bs)(hb:bs=a++(sec body++c))(hn:bs.length<1073741824):
 Calls prog 57 #[.iface 139 v,.int .i64 a.length,.pointer none] w fun r w'=>∃v',r=.returned (.agg #[v',.nilIface])∧RdG w' v' g body∧Upd [] w w':=by
 have a7:=fp;have a9:=eA;have G:a.length+body.length+8+c.length=bs.length:=by rw[hb,ab,ab,dx];omega
 obtain⟨A,O⟩:∃A,A=a.length:=⟨_,rfl⟩;obtain⟨L,hL⟩:∃L,L=body.length:=⟨_,rfl⟩;have a1:∀w,RdG w v g bs→Calls prog 277 #[v,.int .i64 A,.int .i64 ((A:Int)+4)] w fun r w'=>∃v',r=.returned v'∧RdG w v' g (Lib.beBytes 4 L)∧w=w':=fun w h=>by rw[show((A:Int)+4)=((A+4:Nat):Int) by omega];exact kU g A (A+4) v bs a (Lib.beBytes 4 L) (body++(Lib.beBytes 4 (crc body)++c)) w h (by rw[hb,hL];simp[sec]) O (by rw[O,Lib.beBytes_length]) hn
 have a2:∀w,RdG w v g bs→Calls prog 277 #[v,.int .i64 ((A:Int)+4),.int .i64 ((A:Int)+4+L+4)] w fun r w'=>∃d G6,r=.returned (.slice (some ⟨g,d,none⟩) (L+4) G6)∧RdG w (.slice (some ⟨g,d,none⟩) (L+4) G6) g (body++Lib.beBytes 4 (crc body))∧L+4≤G6∧w=w':=fun w h=>by
  rw[show((A:Int)+4+L+4)=((A+4+L+4:Nat):Int) by omega,show((A:Int)+4)=((A+4:Nat):Int) by omega];refine en (kU g (A+4) (A+4+L+4) v bs (a++Lib.beBytes 4 L) (body++Lib.beBytes 4 (crc body)) c w h (by rw[hb,hL];simp[sec]) (by rw[O,ab,Lib.beBytes_length]) (by rw[O,hL,ab,ab,Lib.beBytes_length,Lib.beBytes_length];omega) hn) ?_;rintro r w' ⟨v',rfl,U,rfl⟩;obtain⟨d,G6,rfl,V,bb⟩:=id U;have e:(body++Lib.beBytes 4 (crc body)).length=L+4:=by rw[ab,Lib.beBytes_length,hL]
  rw[e]at U V⊢;exact⟨d,G6,rfl,U,V.1,rfl⟩
 rw[←O,←hL]at G;have bd:=aa a1;have be:=aa a2;have H:=aa h;have HB:=aa hb;have HL:=aa hL;rw[←O];clear h hb a1 a2 O hL;have a3:=H.o.lt;have bg:L<4294967296:=by omega
 obtain⟨n,W⟩:∃n,n=bs.length:=⟨_,rfl⟩;have F:∀w,RdG w v g bs→Calls prog 276 #[v] w fun e w'=>e=.returned (.int .i64 n)∧w=w':=fun w h=>by rw[W];exact yH g v bs w h
 have a4:=aa F;rw[←W]at G hn;clear F W;have ad:Upd [] w (w.alloc (.cells #[.slice none 0 0,.nilIface] 159 (0,0))):=(ae w).alloc _;have H1:=aa (H.o.upd ad (by simp));have bl:=aa ad;clear ad;go_enter func57,ntmps57
 go_wp2_with (first
  |(go_at_call 276;refine(a4.o _ (by first|exact H2.o|exact H1.o)).mono ?_;rintro e w1 ⟨rfl,rfl⟩)
  |(go_at_call_of 277 (Value.int IntKind.i64 (A:Int));refine(bd.o _ H1.o).mono ?_;rintro e w1 ⟨v1,rfl,a5,rfl⟩)
  |(go_at_call 120;refine(qE g L _ [] _ (by rw[bk];exact a5) bg).mono ?_;rintro e w2 ⟨rfl,z⟩;have H2:=aa (H1.o.upd z (by simp))))
 refine(be.o _ H2.o).mono ?_;rintro e w1 ⟨d,G6,rfl,a0,V,rfl⟩;have bE:(G6=L)=False:=by simp;omega
 have bK:(L:Int)≤(G6:Int):=by omega
 have bL:(0:Int)≤(L:Int):=by omega
 have bn:=aa a0;have G5:body++Lib.beBytes 4 (crc body)=body++(Lib.beBytes 4 (crc body)++[]):=by rw[bk]
 have bM:Hid (RdG w2 (.slice (some ⟨g,d+L,none⟩) 4 (G6-L)) g (Lib.beBytes 4 (crc body))):=by obtain⟨bO,br,N2,e2,_,_,_,_,HM⟩:=a0.mid (e:=L+4) G5 HL.o (by rw[Lib.beBytes_length,HL.o]);cases e2;have:=HM.o (d+L) (fun _=>rfl);rw[show L+4-L=4 by omega]at this;exact this
 have G4:(L:Int)≤(L:Int)+4:=by omega
 have bR:IntKind.i64.wrap (L:Int)=(L:Int):=by rw[bo];omega
 have bS:IntKind.i64.wrap ((L:Int)+4-4)=(L:Int):=by rw[bo];omega
 have bW:Hid (body.length<1073741824):=aa (by have:=HL.o;omega);clear a0 a7 a9 a5 G a3 G5;have D:Upd [] w2 (w2.alloc (.cells #[.slice (some ⟨g,d,none⟩) L G6,.nilIface] 159 (0,0))):=(ae w2).alloc _;have hb3:(w2.alloc (.cells #[.slice (some ⟨g,d,none⟩) L G6,.nilIface] 159 (0,0))).heap[w.heap.size]? =some (.cells #[.slice none 0 0,.nilIface] 159 (0,0)):=D.blk (z.blk (an _) (by simp)) (by simp);have r0:=af hb3 0;have r1:=af hb3 1;have b5:=ao hb3 0;have b6:=ao hb3 1;have bB:w2.heap.size≠w.heap.size:=by have:=z.size;simp at this;omega
 have bv:=aa hb3;have bw:=aa ((bl.o.then z (by simp)).then D (by simp));have a3:=H.o.lt;have bA:=aa ((bn.o.head HL.o).upd D (by simp));clear hb3 D z;go_wp2_with fail
 have a6:Upd [w.heap.size] (w2.alloc (.cells #[.slice (some ⟨g,d,none⟩) L G6,.nilIface] 159 (0,0))) (((w2.alloc (.cells #[.slice (some ⟨g,d,none⟩) L G6,.nilIface] 159 (0,0))).setCell ⟨w.heap.size,0,none⟩ (.slice (some ⟨g,d,none⟩) L G6)).setCell ⟨w.heap.size,1,none⟩ .nilIface):=
  (((ae _).mono (by simp)).setCell (by simp) _).setCell (by simp) _
 refine bodyPost_ret (results_cell_row rfl _ _ w.heap.size 159 _ (0,0) _ rfl (au (au bv.o 0 _) 1 _) underlying159 rfl Tryz.sizeDec) rfl ?_;exact⟨_,rfl,bA.o.upd a6 (by simp;omega),bw.o.then a6 (by simp)⟩
theorem zd(n:Nat)(F c1:Value)(p:Nat→Bool)(I:World→Prop)(w:World)(hn:n<1073741824)(hI:I w)
 (hf:∀(i:Nat) w,i<n→I w→Calls prog 61 #[.int .i64 i,F,c1] w fun e w'=>e=.returned (.bool (p i))∧I w'):
 Calls prog 60 #[.int .i64 n,.func (.func 61) #[] #[F,c1]] w fun e w'=>∃i:Nat,e=.returned (.int .i64 i)∧i≤n∧(i=0∨p (i-1)=false)∧(i=n∨p i=true)∧I w':=by
 have HF:=aa hf;have HI:=aa hI;clear hf hI;go_enter func60,ntmps60
 go_wp2_with fail;go_loopw [5,6] (fun a b wr=>∃i j:Nat,a=.int .i64 i∧b=.int .i64 j∧i≤j∧j≤n∧(i=0∨p (i-1)=false)∧(j=n∨p j=true)∧I wr) (fun a b _=>(intOf b).toNat-(intOf a).toNat)
 case atStart=>exact⟨0,n,rfl,rfl,ay _,aw _,.inl rfl,.inl rfl,HI.o⟩
 case round=>
  obtain⟨i,j,rfl,rfl,a0,z,h1,G,O⟩:=hrel;have U:=aa h1;have V:=aa G;have W:=aa O;clear h1 G O;by_cases a1:i<j
  ·obtain⟨m,hm⟩:∃m,m=(i+j)/2:=⟨_,rfl⟩;have a2:((i:Int)+j)/2=(m:Nat):=by omega
   have A:m<n:=by omega
   have ad:(i:Int)<(j:Int):=by omega
   have Hm:=aa hm;clear hm;go_wp2_with (go_at_call 61;refine(HF.o m wr A W.o).mono ?_;rintro e w1 ⟨rfl,h4⟩;have H4:=aa h4;clear h4)
   ·rename_i D;have hm:=Hm.o;have d:p m=false:=by simpa using D
    exact⟨⟨m+1,j,rfl,rfl,by omega,z,.inr (by simpa using d),V.o,H4.o⟩,by simp only[intOf];omega⟩
   ·rename_i D;have hm:=Hm.o;have d:p m=true:=by simpa using D
    exact⟨⟨i,m,rfl,rfl,by omega,by omega,U.o,.inr d,H4.o⟩,by simp only[intOf];omega⟩
  ·obtain rfl:i=j:=by omega
   go_wp2_with fail;go_ret;exact⟨i,rfl,z,U.o,V.o,W.o⟩
theorem CW(w:World):Calls prog 64 #[] w fun e w'=>e=.returned (.agg #[])∧Upd [] w w':=by
 go_enter func64,ntmps64
 go_wp2_with fail;refine bodyPost_ret (results_cell_row rfl _ _ w.heap.size 80 _ (0,0) _ rfl (an _) underlying80 rfl Tryz.size80) rfl ?_;exact⟨rfl,(ae _).alloc _⟩
theorem wU(w:World):Calls prog 187 #[] w fun e w'=>e=.returned (.agg #[])∧Upd [] w w':=by
 go_enter func187,ntmps187
 go_wp2_with fail;refine bodyPost_ret (results_cell_row rfl _ _ w.heap.size 80 _ (0,0) _ rfl (an _) underlying80 rfl Tryz.size80) rfl ?_;exact⟨rfl,(ae _).alloc _⟩
theorem zN(w:World):Calls prog 125 #[.agg #[]] w fun e w'=>e=.returned .nilIface∧Upd [] w w':=by
 go_enter func125,ntmps125
 go_wp2_with fail;go_ret;exact⟨rfl,(ae _).alloc _⟩
theorem DD(w:World):Calls prog 27 #[] w fun e w'=>e=.returned (.tuple #[.string ⟨#[]⟩,.string ⟨#[]⟩])∧w=w':=by
 go_enter func27,ntmps27
 go_wp2_with fail;go_ret2
 exact⟨rfl,rfl⟩
theorem vh(b:Option Addr)(c:Nat)(w:World):Calls prog 59 #[.agg #[],.slice b 0 c] w fun e w'=>e=.returned da∧Upd [] w w':=by
 go_enter func59,ntmps59
 go_wp2_with (go_at_call 56;refine(mM _).mono ?_;rintro e w' ⟨rfl,rfl⟩);go_ret;exact⟨rfl,(ae _).alloc _⟩
theorem Dn(q c:Nat)(v:Value)(w:World)(h:w.cell? ⟨q,0,none⟩=some v):Calls prog 59 #[.agg #[],.slice (some ⟨q,0,none⟩) 1 c] w fun e w'=>e=.returned v∧Upd [] w w':=by
 have hq:=ez h;simp only at hq;have hu:Upd [] w (w.alloc (.cells #[] 80 (0,0))):=(ae _).alloc _;have h1:=hu.cell (by simp) h;go_enter func59,ntmps59
 go_wp2_with fail;go_ret;exact⟨rfl,hu⟩
section
variable {w:World} {k:WK} {r:WR} {s:WS}
structure WJ(w:World)(k:WK)(r:WR)(J:List Nat)(w':World)(r':WR):Prop where
 upd:Upd (gx (wl k r) J) w w'
 stab:∀i:Nat,i∉J→(wl k r')[i]? =(wl k r)[i]?
 newer:yZ w.heap.size (wl k r) (wl k r')
theorem WJ.refl{J:List Nat}:WJ w k r J w r:=⟨(ae w).mono (by simp),fun _ _=>rfl,fun _ _ h=>.inl h⟩
theorem WJ.new{J:List Nat}{w':World}(hu:Upd [] w w'):WJ w k r J w' r:=⟨hu.mono (by simp),fun _ _=>rfl,fun _ _ h=>.inl h⟩
theorem WJ.mono{J K:List Nat}{w':World}{r':WR}(h:WJ w k r J w' r')(hJ:∀i∈J,i∈K):WJ w k r K w' r':=
 ⟨h.upd.mono (fun b hb=>by obtain⟨i,d,e⟩:=cu.1 hb;exact cu.2 ⟨i,hJ i d,e⟩),fun i d=>h.stab i (fun hm=>d (hJ i hm)),h.newer⟩
theorem WJ.trans{J:List Nat}{w1 w2:World}{r1 D:WR}(h:WJ w k r J w1 r1)(A:WJ w1 k r1 J w2 D):WJ w k r J w2 D:=by
 refine⟨h.upd.then A.upd ?_,fun i z=>(A.stab i z).trans (h.stab i z),?_⟩
 ·intro b hb hl;obtain⟨i,z,e⟩:=cu.1 hb;rcases h.newer i b e with d|d
  ·exact cu.2 ⟨i,z,d⟩
  ·omega
 ·intro i b e;rcases A.newer i b e with d|d
  ·exact h.newer i b d
  ·have:=h.upd.size;exact .inr (by omega)
abbrev fJ:List Nat:=[0,1,6,8,11]
def WPJ(w:World)(k:WK)(r:WR)(n:Nat)(d:WS)(w':World):Prop:=∃r',WI w' k r' d∧WT w k r n w' r'∧WJ w k r fJ w' r'
theorem qw{l:List (Option Nat)}{i:Nat}{g:Option Nat}:∀j:Nat,j∉[i]→(l.set i g)[j]? =l[j]? :=fun j d=>by rw[iF (by simpa using fun e=>d (by simp[e]))]
theorem WI.enc1J{w':World}{c:Array Value}{bs':Bytes}(n:Nat)(h:WI w k r s)(hb:WB w k r s c)(hP:cS 243 w k.W 12 c r.g1 bs' w'):WPJ w k r n {s with b1:=bs'} w':=by
 obtain⟨F,g',h1,A,d,h4,h5⟩:=hP;have hu:Upd (gx (wl k r) [0,11]) w w':=h4.mono (by
  intro b hm;simp only[ah,fh]at hm;rcases hm with rfl|hm
  ·exact cu.2 ⟨0,by simp,rfl⟩
  ·exact cu.2 ⟨11,by simp,congrArg some hm⟩)
 have hf:=h.frame _ hu;have hg:=js (l:=wl k r) (i:=11) h5 rfl;have he:wl k {r with g1:=g'}=(wl k r).set 11 g':=rfl;obtain⟨G,hl,hr⟩:=hb.li;have z:∀b,g'=some b→b<w'.heap.size:=fun b e=>by obtain⟨v,_,G3⟩:=A.row;exact G3.lt b e
 refine⟨{r with g1:=g'},⟨⟨F,h1,hb.wf.same d (by omega) (by omega) rfl,A,(hb.e2.same d (by omega)).upd hu (fun q hq=>nin h.dis (i:=12) (congrArg some hq) (by simp)),G,?_,hr.upd hu (fun q hq=>nin h.dis (i:=13) (congrArg some hq) (by simp))⟩,hf.f (by simp) (by simp),hf.fP (by simp) (by simp),hf.fPO (by simp) (by simp),hf.mc (by simp),hf.mn (by simp),hf.dig (by simp) (by simp),
  fun x D=>⟨hf.keys x D,g5 h he hg x D⟩,by rw[he];exact iW h.dis h.lt hg,by rw[he];exact iU h.lt hu.size z⟩,
  ⟨hu.mono (eC (by simp)),by rw[he];exact eV hg,h.kept hu (by simp) n⟩,WJ.mono (J:=[0,11]) ⟨hu,fun i O=>by rw[he];exact qw i (fun hm=>O (by simp at hm;simp[hm])),by rw[he];exact eV hg⟩ (by simp)⟩
 rw[d.2 39 (by omega)];exact hl
theorem WI.opFJ{w':World}{bs':Bytes}{n:Nat}(h:WI w k r s)(hn:n≤s.bF.length)(hP:iJ w k.F r.gF bs' w')(hK:fF w w' r.gF s.bF.length):WPJ w k r n {s with bF:=bs'} w':=by
 obtain⟨g',h1,h4,h5⟩:=hP;have hu:Upd (gx (wl k r) [1,8]) w w':=lZ h4 rfl rfl;have hf:=h.frame _ hu;have hg:=js (l:=wl k r) (i:=8) h5 rfl;have he:wl k {r with gF:=g'}=(wl k r).set 8 g':=rfl;obtain⟨c,hb⟩:=hf.blk (by simp) (by simp) (by simp) (by simp)
 exact⟨{r with gF:=g'},⟨⟨c,hb.blk,hb.wf.as rfl,hb.e1,hb.e2,hb.li⟩,h1,hf.fP (by simp) (by simp),hf.fPO (by simp) (by simp),hf.mc (by simp),hf.mn (by simp),hf.dig (by simp) (by simp),
  fun x d=>⟨hf.keys x d,g5 h he hg x d⟩,by rw[he];exact iW h.dis h.lt hg,by rw[he];exact iU h.lt hu.size h1.glt⟩,
  ⟨hu.mono (eC (by simp)),by rw[he];exact eV hg,hK.mono hn⟩,WJ.mono (J:=[1,8]) ⟨hu,fun i z=>by rw[he];exact qw i (fun hm=>z (by simp at hm;simp[hm])),by rw[he];exact eV hg⟩ (by simp)⟩
theorem WI.opDJ{w':World}{d:Nat}(n:Nat)(h:WI w k r s)(h1:Dig w' k.D k.tb d)(h4:Upd [k.D] w w'):WPJ w k r n {s with crc:=d} w':=by
 have hu:Upd (gx (wl k r) [6]) w w':=h4;have hf:=h.frame _ hu;obtain⟨c,hb⟩:=hf.blk (by simp) (by simp) (by simp) (by simp)
 exact⟨r,⟨⟨c,hb.blk,hb.wf.as rfl,hb.e1,hb.e2,hb.li⟩,hf.f (by simp) (by simp),hf.fP (by simp) (by simp),hf.fPO (by simp) (by simp),hf.mc (by simp),hf.mn (by simp),h1,
  fun x z=>⟨hf.keys x z,(h.keys x z).2⟩,h.dis,h.lt.mono hu.size⟩,
  ⟨hu.mono (eC (by simp)),fun _ _ e=>.inl e,h.kept hu (by simp) n⟩,WJ.mono (J:=[6]) ⟨hu,fun _ _=>rfl,fun _ _ e=>.inl e⟩ (by simp)⟩
theorem WI.j1{f:Nat}{args:Array Value}{bs':Bytes}(n:Nat)(h:WI w k r s)
 (d:∀c,w.heap[k.W]? =some (.cells c 243 (0,0))→fy w k.W 12 c r.g1 s.b1→Calls prog f args w fun e w'=>e=.returned (.tuple #[])∧cS 243 w k.W 12 c r.g1 bs' w'):
 Calls prog f args w fun e w'=>e=.returned (.tuple #[])∧WPJ w k r n {s with b1:=bs'} w':=by
 obtain⟨c,hb⟩:=h.blk;exact(d c hb.blk hb.e1).mono fun _ _ ⟨he,hP⟩=>⟨he,h.enc1J n hb hP⟩
theorem jY(n:Nat)(h:WI w k r s):Calls prog 93 #[ptr k.W 12] w fun e w'=>e=.returned (.tuple #[])∧WPJ w k r n {s with b1:=[]} w':=
 h.j1 n fun c d hE=>wO _ _ _ c _ _ _ d hE
theorem ku(n x:Nat)(h:WI w k r s)(d:x<4294967296)(hn:s.b1.length<1073741824):Calls prog 197 #[ptr k.W 12,.int .i64 x] w fun e w'=>e=.returned (.tuple #[])∧WPJ w k r n {s with b1:=s.b1++Lib.beBytes 4 x} w':=
 h.j1 n fun c z hE=>mD _ _ _ c _ _ x _ z hE hn d
theorem Fj(n x:Nat)(h:WI w k r s)(d:x<4294967296)(hn:s.b1.length<1073741824):Calls prog 100 #[ptr k.W 12,.int .i64 x] w fun e w'=>e=.returned (.tuple #[])∧WPJ w k r n {s with b1:=s.b1++Lib.uvarint x} w':=
 h.j1 n fun c z hE=>kJ _ _ _ c _ _ x _ z hE hn d
theorem Al(n x:Nat)(h:WI w k r s)(d:x<18446744073709551616)(hn:s.b1.length<1073741824):Calls prog 106 #[ptr k.W 12,.int .u64 x] w fun e w'=>e=.returned (.tuple #[])∧WPJ w k r n {s with b1:=s.b1++Lib.uvarint x} w':=
 h.j1 n fun c z hE=>jm _ _ _ c _ _ x _ z hE hn d
theorem Ak(n:Nat)(x:ByteArray)(h:WI w k r s)(d:x.size<1000000)(hn:s.b1.length<1000000000):Calls prog 94 #[ptr k.W 12,.string x] w fun e w'=>e=.returned (.tuple #[])∧WPJ w k r n {s with b1:=s.b1++(Lib.uvarint x.size++sb x)} w':=
 h.j1 n fun c z hE=>mj _ _ _ c _ _ x _ z hE hn d
theorem kw(n:Nat)(h:WI w k r s)(hn:s.b1.length<1073741824):Calls prog 168 #[ptr k.W 12,xU k] w fun e w'=>e=.returned (.tuple #[])∧WPJ w k r n {s with crc:=iK ld s.crc s.b1} w':=by obtain⟨c,hb⟩:=h.blk;exact(oC _ _ _ c _ _ _ _ _ _ hb.blk hb.e1 h.dig hn).mono fun _ _ ⟨he,d,hu⟩=>⟨he,h.opDJ n d hu⟩
theorem sF(n:Nat)(h:WI w k r s):Calls prog 356 #[ptr k.D 0] w fun e w'=>e=.returned (.tuple #[])∧WPJ w k r n {s with crc:=0} w':=
 (tM _ _ _ _ h.dig).mono fun _ _ ⟨he,d,hu⟩=>⟨he,h.opDJ n d hu⟩
theorem Am{v:Value}{b:Bytes}{q cap n:Nat}(h:WI w k r s)(hm:n≤s.bF.length)(hq:w.cell? ⟨q,0,none⟩=some v)(z:∀i:Nat,(wl k r)[i]?≠some (some q))(d:cV w (wl k r) 1 8 v b)(hn:s.bF.length+b.length<1073741824):
 Calls prog 162 #[ptr k.F 0,.slice (some ⟨q,0,none⟩) 1 cap] w fun e w'=>e=.returned .nilIface∧WPJ w k r n {s with bF:=s.bF++b} w':=by
 refine(o8 k.F r.gF s.bF v b q cap w h.f hq (fun e=>z 1 (by rw[e];rfl)) (fun e=>z 8 (congrArg some e)) d.rd d.ne (fun e=>(d.no _ e).1 rfl) (fun j e he=>(d.no _ e).2 (congrArg some he)) hn).mono ?_;rintro e w' ⟨he,hP,hK⟩;exact⟨he,h.opFJ hm hP hK⟩
theorem Ck{v:Value}{b:Bytes}{q cap n:Nat}(h:WI w k r s)(hm:n≤s.bF.length)(hq:w.cell? ⟨q,0,none⟩=some v)(d:∀i:Nat,(wl k r)[i]?≠some (some q))(z:cV w (wl k r) 1 8 v b)(hn:s.bF.length+b.length<1073741824):
 Calls prog 95 #[ptr k.W 0,.slice (some ⟨q,0,none⟩) 1 cap] w fun e w'=>e=.returned .nilIface∧WPJ w k r n {s with bF:=s.bF++b} w':=by
 have D:=h.cell 0 _ rfl;have A:=aa (Am (cap:=cap) h hm hq d z hn);clear h hm hq d z hn;go_enter func95,ntmps95
 go_wp2_with (go_at_call 162;refine A.o.mono ?_;rintro e w1 ⟨rfl,hP⟩);go_ret;exact⟨rfl,hP⟩
theorem g4{v:Value}{b:Bytes}{n:Nat}(T cap:Nat)(h:WI w k r s)(hm:n≤s.bF.length)(d:cV w (wl k r) 1 8 v b)(hn:s.bF.length+b.length<1073741824):
 Calls prog 95 #[ptr k.W 0,.slice (some ⟨w.heap.size,0,none⟩) 1 cap] (w.alloc (.cells #[v] T (0,0))) fun e w'=>e=.returned .nilIface∧WPJ w k r n {s with bF:=s.bF++b} w':=by
 have hu:Upd [] w (w.alloc (.cells #[v] T (0,0))):=(ae w).alloc _;refine(Ck (h.new hu) hm (af (an _) 0) h.size_out (d.upd hu) hn).mono ?_;rintro e w' ⟨he,r',hI,hT,hJ⟩;exact⟨he,r',hI,ak h (dN h hu) hT,(WJ.new hu).trans hJ⟩
abbrev i7:=@WJ.new
abbrev bu:=@WJ.trans
end
end Go.Proofs.YtlgefdfflmgocaaGreatDoor
