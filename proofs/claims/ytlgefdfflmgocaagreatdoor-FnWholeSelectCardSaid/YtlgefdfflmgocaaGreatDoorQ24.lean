import Derived.Test.YtlgefdfflmgocaaGreatDoorQ23
set_option linter.all false
namespace Go.Proofs.YtlgefdfflmgocaaGreatDoor
open Go Go.RowKit Xc Go.Proofs.Tryz
abbrev LabL:=List (ByteArray×ByteArray)
theorem fR{α β:Type}(f:α→List β)(k:Nat):∀l:List α,(∀x∈l,(f x).length≤k)→(l.flatMap f).length≤k*l.length:=by
 intro l;induction l with
 |nil=>intro _;simp
 |cons x l d=>
  intro h;have h1:=d (fun y z=>h y (by simp[z]));have A:=h x (by simp);simp only[aY,ab,aj,Nat.mul_succ];omega
theorem ka{l:List Bytes}(h:l.Pairwise (· <·)):l.Nodup:=
 List.Pairwise.imp (S:=(· ≠·)) (fun{a b} h e=>cT a (by rw[←e]at h;exact h)) h
def gb(l:LabL):List Bytes:=l.flatMap fun p=>[sb p.1,sb p.2]
theorem xX(l:LabL):(gb l).length=2*l.length:=by
 induction l with
 |nil=>rfl
 |cons x l d=>simp only[gb,aY,ab,aj,ar]at d⊢;omega
theorem lT(l:LabL):ic (gb l)=aL (aD l):=by
 induction l with
 |nil=>rfl
 |cons x l d=>
  simp only[ic,gb,aL,aD,aY,aN,aU,gE,bk]at d⊢;rw[d]
def C8(a b:LabL):Prop:=(∃r,r≠[]∧gb b=gb a++r)∨∃pre x y ra rb,gb b=pre++x::ra∧gb a=pre++y::rb∧y<x
structure cJ(syms:List Bytes)(ls G0:List LabL):Prop where
 few:ls.length≤12
 len:G0.length=ls.length
 perm:∀j (h:j<ls.length) (d:j<G0.length),G0[j].Perm ls[j]
 srt:∀l∈G0,l.Pairwise fun x y=>sb x.1<sb y.1
 small:∀l∈G0,l≠[]∧l.length≤6∧∀p∈l,0<p.1.size∧p.1.size≤60∧0<p.2.size∧p.2.size≤60
 order:∀j (h:j+1<G0.length),C8 (G0[j]'(by omega)) G0[j+1]
 symS:syms.Pairwise (· <·)
 symM:∀x,x∈syms↔∃l∈G0,∃p∈l,x=sb p.1∨x=sb p.2
section
variable {syms:List Bytes} {ls G0:List LabL}
theorem cJ.nodup(H:cJ syms ls G0):syms.Nodup:=ka H.symS
theorem cJ.lss12(H:cJ syms ls G0):G0.length≤12:=by rw[H.len];exact H.few
theorem cJ.symLen(H:cJ syms ls G0):syms.length≤144:=by
 have h1:=iR (a:=syms) (b:=G0.flatMap gb) H.nodup (fun x d=>by obtain⟨l,hl,p,z,e⟩:=(H.symM x).1 d;refine List.mem_flatMap.2 ⟨l,hl,List.mem_flatMap.2 ⟨p,z,?_⟩⟩;rcases e with rfl|rfl<;>simp)
 have A:=fR gb 12 G0 (fun l hl=>by have:=(H.small l hl).2.1;rw[xX];omega);have:=H.lss12;omega
theorem cJ.symSmall(H:cJ syms ls G0):∀x∈syms,0<x.length∧x.length≤60:=fun x d=>by obtain⟨l,hl,p,z,e⟩:=(H.symM x).1 d;have:=(H.small l hl).2.2 p z;rcases e with rfl|rfl<;>(rw[dA];omega)
theorem pb(x:Bytes)(h:x.length≤60):(ed x).length≤63:=by have:=(uvl x.length (by omega)).2;simp only[ed,ab];omega
theorem cJ.encLen(H:cJ syms ls G0):(bj syms).length≤9072:=by have h1:=fR ed 63 syms (fun x d=>pb x (H.symSmall x d).2);have:=H.symLen;unfold bj;omega
theorem cJ.symFLen(H:cJ syms ls G0):(ch syms).length≤9089:=by have:=H.encLen;simp only[ch,ab,bq,dx,bi,cd];omega
theorem cJ.mem1(H:cJ syms ls G0){l:LabL}(hl:l∈G0){p:ByteArray×ByteArray}(d:p∈l):sb p.1∈syms∧sb p.2∈syms:=
 ⟨(H.symM _).2 ⟨l,hl,p,d,.inl rfl⟩,(H.symM _).2 ⟨l,hl,p,d,.inr rfl⟩⟩
theorem fo{l:LabL}{q:Bytes×Bytes}:q∈aD l↔∃p∈l,q=(sb p.1,sb p.2):=by simp only[aD,bU];exact⟨fun⟨p,d,e⟩=>⟨p,d,e.symm⟩,fun⟨p,d,e⟩=>⟨p,d,e.symm⟩⟩
theorem cJ.serOne(H:cJ syms ls G0){l:LabL}(hl:l∈G0):(dC syms (aD l)).length=l.length∧∀p∈dC syms (aD l),p.1<syms.length∧p.2<syms.length:=by refine⟨by simp[dC,aD],fun p d=>?_⟩;obtain⟨q,hq,rfl⟩:=List.mem_map.1 d;obtain⟨z,hz,rfl⟩:=fo.1 hq;have:=H.mem1 hl hz;exact⟨(fm H.nodup this.1).2.1,(fm H.nodup this.2).2.1⟩
theorem qf{x:List (Nat×Nat)×Bytes}(h:x∈dr syms G0):∃l∈G0,x=(dC syms (aD l),[0]):=by obtain⟨l,hl,e⟩:=List.mem_map.1 h;exact⟨l,hl,e.symm⟩
theorem cJ.ser(H:cJ syms ls G0):∀x∈dr syms G0,x.1.length≤6∧x.2.length<1000∧∀p∈x.1,p.1<144∧p.1<syms.length∧p.2<syms.length:=fun x d=>by obtain⟨l,hl,rfl⟩:=qf d;have h1:=H.serOne hl;have A:=H.small l hl;have D:=H.symLen;exact⟨by simp only;omega,by simp,fun p z=>by have:=h1.2 p z;omega⟩
theorem uL:∀(l:fO) (n:Nat),(∀x∈l,(cq x.1 x.2).length<8000)→(cU n l).length≤8100*l.length:=by
 intro l;induction l with
 |nil=>intro n _;simp[cU]
 |cons x l d=>
  intro n h;have h1:=d (n+(Go.Proofs.YtlgefdfflmgocaaGreatDoor.serOne n x).length) (fun y z=>h y (by simp[z]));have A:=h x (by simp);have D:=(uvl (cq x.1 x.2).length (by omega)).2;have h4:=jE 16 n (by decide);have h5:(Go.Proofs.YtlgefdfflmgocaaGreatDoor.serOne n x).length≤8100:=by simp only[Go.Proofs.YtlgefdfflmgocaaGreatDoor.serOne,gy,ab,cd];omega
  simp only[cU,ab,aj,Nat.mul_succ];omega
theorem cJ.body(H:cJ syms ls G0):∀x∈dr syms G0,(cq x.1 x.2).length<8000:=fun x d=>by have h:=H.ser x d;have:=H.symLen;exact oO _ _ (fun p z=>by have:=h.2.2 p z;omega) (by omega) h.2.1
theorem cJ.take(_:cJ syms ls G0)(j:Nat):∀x∈dr syms (G0.take j),x∈dr syms G0:=fun x d=>by obtain⟨l,hl,rfl⟩:=qf d;exact List.mem_map.2 ⟨l,dL hl,rfl⟩
theorem cJ.fil(H:cJ syms ls G0)(j:Nat):(cC (ch syms) (dr syms (G0.take j))).length≤106289:=by
 rw[iS,ab];have h1:=uL (dr syms (G0.take j)) (ch syms).length (fun x d=>H.body x (H.take j x d));have z:=H.symFLen;have A:(dr syms (G0.take j)).length≤12:=by have:=H.lss12;simp only[dr,aB,aZ];omega
 omega
theorem cJ.filAll(H:cJ syms ls G0):(cC (ch syms) (dr syms G0)).length≤106289:=by have:=H.fil G0.length;rwa [aS]at this
theorem uq{p a b:Nat}:∀{l:fO} {n:Nat},(p,a,b)∈trip n l→p∈cG n l∧∃x∈l,(a,b)∈x.1:=by
 intro l;induction l with
 |nil=>intro n h;simp[trip]at h
 |cons x l d=>
  intro n h;simp only[trip,aA,bU]at h;rcases h with⟨q,hq,e⟩|h
  ·simp only[cW]at e;obtain⟨e1,e2,e3⟩:=e;exact⟨by rw[←e1];simp[cG],x,by simp,by rw[←e2,←e3];exact hq⟩
  ·obtain⟨h1,y,z,A⟩:=d h;exact⟨by simp[cG,h1],y,by simp[z],A⟩
theorem uS{a b:Nat}{x:List (Nat×Nat)×Bytes}:∀{l:fO} {n:Nat},x∈l→(a,b)∈x.1→∃p,(p,a,b)∈trip n l:=by
 intro l;induction l with
 |nil=>intro n h;simp at h
 |cons y l d=>
  intro n h If;simp only[ah]at h;rcases h with rfl|h
  ·exact⟨ja n,by simp only[trip,aA,bU];exact .inl ⟨(a,b),If,rfl⟩⟩
  ·obtain⟨p,z⟩:=d (n:=n+(Go.Proofs.YtlgefdfflmgocaaGreatDoor.serOne n y).length) h If;exact⟨p,by simp only[trip,aA];exact .inr z⟩
theorem A9:∀(l:fO) (n:Nat),(∀x∈l,x.1.length≤6)→(trip n l).length≤6*l.length:=by
 intro l;induction l with
 |nil=>intro n _;simp[trip]
 |cons x l d=>
  intro n h;have h1:=d (n+(Go.Proofs.YtlgefdfflmgocaaGreatDoor.serOne n x).length) (fun y z=>h y (by simp[z]));have A:=h x (by simp);simp only[trip,ab,aB,aj,Nat.mul_succ];omega
theorem pM{α β:Type}[DecidableEq β](f:α→β)(a:β):∀{l:List α},(l.map f).Nodup→(l.filter fun x=>decide (f x=a)).length≤1:=by
 intro l;induction l with
 |nil=>intro _;simp
 |cons x l A=>
  intro h;rw[aN,a8]at h;rw[db];split
  ·rename_i z;have:(l.filter fun x=>decide (f x=a))=[]:=by rw[List.filter_eq_nil_iff];intro y D d;simp only[decide_eq_true_eq]at z d;exact h.1 (List.mem_map.2 ⟨y,D,by rw[d,z]⟩)
   rw[this];simp
  ·exact A h.2
theorem Ba(B n a:Nat)(l:fO)(h:∀x∈l,(x.1.map (·.1)).Nodup):(dK B (trip n l) a).length≤l.length:=by
 have hn:(dK B (trip n l) a).Nodup:=(lQ B _ a).imp (fun h e=>by omega);have h1:=iR (b:=l.flatMap fun x:List (Nat×Nat)×Bytes=>(x.1.filter fun p=>decide (p.1=a)).map (·.2)) hn (fun b hb=>by simp only[dK,eO,List.any_eq_true,decide_eq_true_eq]at hb;obtain⟨_,⟨p,z,b'⟩,A,e⟩:=hb;simp only[cW]at e;obtain⟨rfl,rfl⟩:=e;obtain⟨_,x,d,If⟩:=uq A;refine List.mem_flatMap.2 ⟨x,d,List.mem_map.2 ⟨(z,b'),List.mem_filter.2 ⟨If,by simp⟩,rfl⟩⟩)
 have D:=fR (fun x:List (Nat×Nat)×Bytes=>(x.1.filter fun p=>decide (p.1=a)).map (·.2)) 1 l (fun x d=>by rw[aB];exact pM (fun p:Nat×Nat=>p.1) a (h x d));omega
theorem pN(hn:syms.Nodup){x y:Bytes}(d:x∈syms)(z:y∈syms)(h:cj (bJ syms) x=cj (bJ syms) y):x=y:=by have h1:=(fm hn d).2.2;have A:=(fm hn z).2.2;rw[h,A]at h1;exact(cI h1).symm
theorem iw{α β:Type}{f:α→β}:∀{l:List α},l.Pairwise (fun x y=>f x≠f y)→(l.map f).Nodup:=fun h=>List.Pairwise.map f (fun _ _ h=>h) h
theorem cJ.nodupN(H:cJ syms ls G0){l:LabL}(hl:l∈G0):(l.map (·.1)).Nodup:=
 iw ((H.srt l hl).imp (fun{a b} h e=>by rw[e]at h;exact cT _ h))
theorem cJ.nodupI(H:cJ syms ls G0){l:LabL}(hl:l∈G0):((dC syms (aD l)).map (·.1)).Nodup:=by
 have e:(dC syms (aD l)).map (·.1)=l.map fun p=>cj (bJ syms) (sb p.1):=by simp[dC,aD]
 rw[e];have h:=H.nodupN hl;rw[iH,fg]at h;refine iw (List.Pairwise.imp_of_mem (fun{a b} ha hb h e=>h ?_) h);have:=pN H.nodup (H.mem1 hl ha).1 (H.mem1 hl hb).1 e;exact ByteArray.ext (Array.toList_inj.1 this)
theorem cJ.nodupS(H:cJ syms ls G0):∀x∈dr syms G0,(x.1.map (·.1)).Nodup:=fun x d=>by obtain⟨l,hl,rfl⟩:=qf d;exact H.nodupI hl
end
theorem Ce(x y:ByteArray)(l:List (ByteArray×Nat)):(aT y (inc x l)).getD 0=(aT y l).getD 0+if y=x then 1 else 0:=by
 unfold inc;rw[gj];split
 ·rename_i h;subst h;simp
 ·simp
def zJ(y:ByteArray)(xs:List ByteArray):Nat:=(xs.filter fun x=>decide (x=y)).length
theorem zK{y:ByteArray}{xs:List ByteArray}(h:xs.Nodup):zJ y xs≤1:=pM (fun x:ByteArray=>x) y (by simpa using h)
theorem vL(xs:List ByteArray)(y:ByteArray):∀l:List (ByteArray×Nat),(aT y (incAll xs l)).getD 0=(aT y l).getD 0+zJ y xs:=by
 induction xs with
 |nil=>intro l;simp[incAll,zJ]
 |cons x xs d=>
  intro l;have h:=d (inc x l);show(aT y (incAll xs (inc x l))).getD 0=_;rw[h,Ce,zJ,zJ,db];by_cases e:x=y
  ·subst e;simp;omega
  ·have:¬y=x:=fun h=>e h.symm;simp[e,this]
structure rY(S:List ByteArray)(l:List (ByteArray×Nat)):Prop where
 nodup:(l.map (·.1)).Nodup
 pos:∀p∈l,1≤p.2
 mem:∀x,x∈l.map (·.1)↔x∈S
theorem rY.inc{S:List ByteArray}{l:List (ByteArray×Nat)}(h:rY S l)(x:ByteArray):rY (S++[x]) (inc x l):=by
 refine⟨?_,fun p d=>?_,fun y=>?_⟩
 ·unfold Go.Proofs.YtlgefdfflmgocaaGreatDoor.inc;rw[ky];split
  ·exact h.nodup
  ·rename_i z;rw[List.nodup_append];exact⟨h.nodup,by simp,fun a A b hb=>by simp at hb;subst hb;exact fun e=>z (e▸A)⟩
 ·rcases lG d with rfl|d
  ·simp
  ·exact h.pos p d
 ·unfold Go.Proofs.YtlgefdfflmgocaaGreatDoor.inc;rw[ky];split
  ·rename_i z;rw[h.mem,aA,ag];constructor
   ·exact .inl
   ·rintro(h1|rfl)
    ·exact h1
    ·exact(h.mem _).1 z
  ·simp only[aA,ag,h.mem]
theorem rY.incAll(xs:List ByteArray):∀{S:List ByteArray} {l:List (ByteArray×Nat)},rY S l→rY (S++xs) (incAll xs l):=by
 induction xs with
 |nil=>intro S l h;rw[bk];exact h
 |cons x xs d=>
  intro S l h;have:=d (h.inc x);rw[al]at this;exact this
theorem jC(l:LabL):((aD l).map fun p=>str p.1)=l.map (·.1):=by simp only[aD,bT];exact i6 fun p _=>dX p.1
theorem Ea:∀(G0:List LabL) (S:List ByteArray) (l:List (ByteArray×Nat)),rY S l→rY (S++G0.flatMap fun x=>x.map (·.1)) (G0.foldl (fun ln l=>incAll ((aD l).map fun p=>str p.1) ln) l):=by
 intro G0;induction G0 with
 |nil=>intro S l h;simpa using h
 |cons x G0 d=>
  intro S l h;have h1:=h.incAll (S:=S) (x.map (·.1));have z:=d _ _ h1;rw[aY,←al,dg,jC];exact z
theorem Au(y:ByteArray):∀(G0:List LabL) (l:List (ByteArray×Nat)),(∀x∈G0,(x.map (·.1)).Nodup)→(aT y (G0.foldl (fun ln l=>incAll ((aD l).map fun p=>str p.1) ln) l)).getD 0≤(aT y l).getD 0+G0.length:=by
 intro G0;induction G0 with
 |nil=>intro l _;simp
 |cons x G0 d=>
  intro l h;have h1:=d (incAll ((aD x).map fun p=>str p.1) l) (fun z hz=>h z (by simp[hz]));rw[jC,vL]at h1;have A:=zK (y:=y) (h x (by simp));rw[dg,aj,jC];omega
def lwT(syms:List Bytes)(G0:List LabL):List (Nat×Nat×Nat):=trip (ch syms).length (dr syms G0)
def lwL(syms:List Bytes)(G0:List LabL):PtL:=([],[],cG (ch syms).length (dr syms G0))::dI syms.length (lwT syms G0) syms (cj (bJ syms)) (du (lnL G0))
def lwG(syms:List Bytes)(G0:List LabL):List (Bytes×List Nat):=jZ (fC (cj (bJ syms)) (ptP [] (lwL syms G0)))
def lwB(syms:List Bytes)(G0:List LabL):Bytes:=ixF (ch syms).length (cC (ch syms) (dr syms G0)) (lwG syms G0) (lwL syms G0)
theorem pX{a b:Bytes}(h:a≤b)(hn:a≠b):a<b:=by
 by_cases h1:a<b
 ·exact h1
 ·exact absurd (List.le_antisymm h (List.not_lt.1 h1)) hn
section
variable {syms:List Bytes} {ls G0:List LabL}
theorem cJ.lnOk(_:cJ syms ls G0):rY (G0.flatMap fun x=>x.map (·.1)) (lnL G0):=by have:=Ea G0 [] [] ⟨by simp,by simp,by simp⟩;rw[bz]at this;exact this
theorem cJ.lnMem(H:cJ syms ls G0){x:ByteArray}:x∈(lnL G0).map (·.1)↔∃l∈G0,∃p∈l,x=p.1:=by rw[H.lnOk.mem];simp only[eU,bU];exact⟨fun⟨l,hl,p,d,e⟩=>⟨l,hl,p,d,e.symm⟩,fun⟨l,hl,p,d,e⟩=>⟨l,hl,p,d,e.symm⟩⟩
theorem cJ.lnLen(H:cJ syms ls G0):(lnL G0).length≤72:=by
 have hn:((lnL G0).map fun x=>sb x.1).Nodup:=by have:=H.lnOk.nodup;rw[iH,fg]at this;exact iw (this.imp (fun{a b} h e=>h (by have:=congrArg str e;rwa [dX,dX]at this)))
 have h1:=iR (b:=G0.flatMap fun x:LabL=>x.map fun p=>sb p.1) hn (fun x d=>by obtain⟨y,z,rfl⟩:=List.mem_map.1 d;have:=(H.lnOk.mem y.1).1 (List.mem_map.2 ⟨y,z,rfl⟩);obtain⟨l,hl,h⟩:=List.mem_flatMap.1 this;obtain⟨p,A,e⟩:=List.mem_map.1 h;exact List.mem_flatMap.2 ⟨l,hl,List.mem_map.2 ⟨p,A,by rw[e]⟩⟩)
 have D:=fR (fun x:LabL=>x.map fun p=>sb p.1) 6 G0 (fun l hl=>by rw[aB];exact(H.small l hl).2.1);have:=H.lss12;rw[aB]at h1;omega
theorem cJ.cnt(H:cJ syms ls G0):∀x∈lnL G0,1≤x.2∧x.2≤G0.length:=fun x d=>by refine⟨H.lnOk.pos x d,?_⟩;have h1:=lH H.lnOk.nodup (k:=x.1) (v:=x.2) d;have A:=Au x.1 G0 [] (fun l hl=>H.nodupN hl);have z:(aT x.1 (lnL G0)).getD 0≤(aT x.1 ([]:List (ByteArray×Nat))).getD 0+G0.length:=A;rw[h1]at z;simpa[aT]using z
theorem cJ.cntT(H:cJ syms ls G0)(j:Nat)(x:ByteArray):(aT x (lnL (G0.take j))).getD 0≤12:=by have d:=Au x (G0.take j) [] (fun l hl=>H.nodupN (dL hl));have z:(aT x (lnL (G0.take j))).getD 0≤(aT x ([]:List (ByteArray×Nat))).getD 0+(G0.take j).length:=d;have:=H.lss12;simp only[aT,Option.getD_none,aZ]at z;omega
theorem cJ.nmMem(H:cJ syms ls G0){x:Bytes}:x∈du (lnL G0)↔∃l∈G0,∃p∈l,x=sb p.1:=by
 unfold du;rw[(eK _ _).mem_iff];simp only[bU];constructor
 ·rintro⟨y,d,rfl⟩;obtain⟨l,hl,p,z,e⟩:=H.lnMem.1 (List.mem_map.2 ⟨y,d,rfl⟩);exact⟨l,hl,p,z,by rw[e]⟩
 ·rintro⟨l,hl,p,z,rfl⟩;obtain⟨y,d,e⟩:=List.mem_map.1 (H.lnMem.2 ⟨l,hl,p,z,rfl⟩);exact⟨y,d,by rw[e]⟩
theorem cJ.nmRise(H:cJ syms ls G0):(du (lnL G0)).Pairwise (· <·):=by
 have tr:∀a b c:List UInt8,decide (a≤b)=true→decide (b≤c)=true→decide (a≤c)=true:=fun a b c h1 d=>by simp only[decide_eq_true_eq]at*;exact List.le_trans h1 d
 have z:∀a b:List UInt8,(decide (a≤b)||decide (b≤a))=true:=fun a b=>by have:=List.le_total a b;simpa using this
 have hs:=gJ tr z ((lnL G0).map fun x=>sb x.1);have hn:(du (lnL G0)).Nodup:=by unfold du;rw[(eK _ _).nodup_iff];have:=H.lnOk.nodup;rw[iH,fg]at this;exact iw (this.imp (fun{a b} h e=>h (by have:=congrArg str e;rwa [dX,dX]at this)))
 refine(rO hs hn).imp ?_;rintro a b ⟨h1,d⟩;simp only[decide_eq_true_eq]at h1;exact pX h1 d
theorem cJ.nmLen(H:cJ syms ls G0):(du (lnL G0)).length≤72:=by have:=H.lnLen;simp only[du,List.length_mergeSort,aB];omega
theorem cJ.nmSmall(H:cJ syms ls G0):∀x∈du (lnL G0),x∈syms∧0<x.length∧x.length≤60:=fun x d=>by obtain⟨l,hl,p,z,rfl⟩:=H.nmMem.1 d;have h:=(H.mem1 hl z).1;exact⟨h,H.symSmall _ h⟩
theorem cJ.serLen(H:cJ syms ls G0):(dr syms G0).length=G0.length∧(dr syms G0).length≤12:=by
 have:=H.lss12;have h:(dr syms G0).length=G0.length:=by simp only[dr,aB]
 exact⟨h,by omega⟩
theorem cJ.tripLen(H:cJ syms ls G0):(lwT syms G0).length≤72:=by have h1:=A9 (dr syms G0) (ch syms).length (fun x d=>(H.ser x d).1);have:=H.serLen;unfold lwT;omega
theorem cJ.v12(H:cJ syms ls G0)(a:Nat):(dK syms.length (lwT syms G0) a).length≤12:=by have:=Ba syms.length (ch syms).length a (dr syms G0) H.nodupS;have:=H.serLen;unfold lwT;omega
theorem yI{p:Nat}:∀(l:fO) (n:Nat),p∈cG n l→16*p≤n+(cU n l).length:=by
 intro l;induction l with
 |nil=>intro n h;simp[cG]at h
 |cons x l d=>
  intro n h;simp only[cG,ah]at h;rcases h with rfl|h
  ·rw[j6];simp only[cU,ab,Go.Proofs.YtlgefdfflmgocaaGreatDoor.serOne];omega
  ·have:=d _ h;simp only[cU,ab];omega
theorem cJ.posLe(H:cJ syms ls G0):∀p∈cG (ch syms).length (dr syms G0),p<10000:=fun p d=>by have h1:=yI _ _ d;have z:=H.filAll;rw[iS,ab]at z;omega
theorem kQ{T:List (Nat×Nat×Nat)}{a b p:Nat}:p∈ew T a b↔(p,a,b)∈T:=by
 simp only[ew,bU,eO,decide_eq_true_eq];constructor
 ·rintro⟨⟨q,z,b'⟩,⟨h1,d⟩,rfl⟩;simp only at d;rw[←d];exact h1
 ·intro h;exact⟨(p,a,b),⟨h,rfl⟩,rfl⟩
theorem cJ.memL(H:cJ syms ls G0){x:Bytes×Bytes×List Nat}(h:x∈lwL syms G0):x.1.length≤60∧x.2.1.length≤60∧x.2.2.length≤72∧(∀y∈x.2.2,y<10000)∧(x.1≠[]→x.2.1∈syms):=by
 simp only[lwL,ah]at h;rcases h with rfl|h
 ·have:=H.serLen;exact⟨by simp,by simp,by simp only[gz];omega,H.posLe,fun h=>absurd rfl h⟩
 ·simp only[dI,kS,eU,bU]at h;obtain⟨nm,G8,b,hb,rfl⟩:=h;have h1:=H.nmSmall nm G8;simp only[dK,eO,mf]at hb;have d:syms[b]? =some (syms[b]'hb.1):=az hb.1;have hm:=aq hb.1;have z:=H.symSmall _ hm;rw[d];refine⟨h1.2.2,z.2,?_,?_,fun _=>hm⟩
  ·have:=H.tripLen;simp only[ew,aB];exact aW (eQ _ _) this
  ·intro y A;exact H.posLe y (uq (kQ.1 A)).1
theorem cJ.lenL(H:cJ syms ls G0):(lwL syms G0).length≤865:=by have h1:=fR (fun nm=>kS syms.length (lwT syms G0) syms nm (cj (bJ syms) nm)) 12 (du (lnL G0)) (fun x _=>by simp only[kS,aB];exact H.v12 _);have:=H.nmLen;simp only[lwL,aj,dI];omega
theorem CA:∀(L:PtL) (F:Bytes),(∀x∈L,x.2.2.length≤72)→(ptF F L).length≤F.length+320*L.length:=by
 intro L;induction L with
 |nil=>intro F _;simp[ptF]
 |cons x L d=>
  intro F h;have h1:=d (F++pad 4 F.length++sec (ey x.2.2)) (fun y z=>h y (by simp[z]));have A:=jE 4 F.length (by decide);have D:=h x (by simp);have h4:(sec (ey x.2.2)).length≤300:=by simp only[dx,ey,ab,cd,gq];omega
  simp only[ab]at h1;simp only[ptF,aj];omega
theorem Ct{x:Bytes×Bytes×Nat}:∀{L:PtL} {F:Bytes},x∈ptP F L→(∃y∈L,x.1=y.1∧x.2.1=y.2.1)∧x.2.2≤(ptF F L).length:=by
 intro L;induction L with
 |nil=>intro F h;simp[ptP]at h
 |cons z L d=>
  intro F h;simp only[ptP,ah]at h;rcases h with rfl|h
  ·refine⟨⟨z,by simp,rfl,rfl⟩,?_⟩;have:=ot L (F++pad 4 F.length++sec (ey z.2.2));simp only[ptF];rw[ab]at this;omega
  ·obtain⟨⟨y,A,h1⟩,D⟩:=d h;exact⟨⟨y,by simp[A],h1⟩,D⟩
theorem cJ.ptFLen(H:cJ syms ls G0):(ptF [] (lwL syms G0)).length≤276800:=by have h1:=CA (lwL syms G0) [] (fun x d=>(H.memL d).2.2.1);have:=H.lenL;simp only[ar]at h1;omega
theorem cJ.memP(H:cJ syms ls G0){x:Bytes×Bytes×Nat}(h:x∈ptP [] (lwL syms G0)):x.1.length≤60∧x.2.1.length≤60∧x.2.2≤276800∧(x.1≠[]→x.2.1∈syms):=by obtain⟨⟨y,z,e1,e2⟩,A⟩:=Ct h;have d:=H.memL z;have:=H.ptFLen;rw[e1,e2];exact⟨d.1,d.2.1,by omega,d.2.2.2.2⟩
theorem uB(es:List (Bytes×Bytes×Nat))(h:∀x∈es,x.1.length≤60∧x.2.1.length≤60∧x.2.2<2097152):(poB es).length≤132*es.length:=
 fR _ 132 es (fun x d=>by have h1:=h x d;have z:=pb x.1 h1.1;have A:=pb x.2.1 h1.2.1;have h4:=(uvl x.2.2 h1.2.2).2;have h5:=(uvl 2 (by decide)).2;simp only[poE,ab];omega)
theorem uh(id:Bytes→Nat)(es:List (Bytes×Bytes×Nat)):(∀g∈(fC id es).o,∃x∈es,g.1=x.1)∧((fC id es).vals≠[]→∃x∈es,(fC id es).cur=x.1):=by
 have h:∀(es:List (Bytes×Bytes×Nat)) (g:LG) (P:Bytes→Prop),(∀y∈g.o,P y.1)→(g.vals≠[]→P g.cur)→(∀x∈es,P x.1)→
  (∀y∈(es.foldl (eS id) g).o,P y.1)∧((es.foldl (eS id) g).vals≠[]→P (es.foldl (eS id) g).cur):=by
  intro es;induction es with
  |nil=>intro g P h1 z _;exact⟨h1,z⟩
  |cons x es D=>
   intro g P h1 z A;rw[dg];refine D (eS id g x) P ?_ ?_ (fun y d=>A y (by simp[d]))
   ·unfold eS;split
    ·exact h1
    ·split
     ·rename_i F;intro y d;simp only[aA,ag]at d;rcases d with d|rfl
      ·exact h1 y d
      ·exact z F.2
     ·exact h1
   ·unfold eS;split
    ·exact z
    ·split
     ·exact fun _=>A x (by simp)
     ·exact fun _=>A x (by simp)
 exact h es ⟨[],[],[]⟩ (fun y=>∃x∈es,y=x.1) (by simp) (by simp) (fun x G=>⟨x,G,rfl⟩)
theorem cJ.memG(H:cJ syms ls G0){g:Bytes×List Nat}(h:g∈lwG syms G0):g.1.length≤60:=by
 have hn:=uh (cj (bJ syms)) (ptP [] (lwL syms G0));have:∃x∈ptP [] (lwL syms G0),g.1=x.1:=by
  unfold lwG jZ at h;split at h
  ·exact hn.1 g h
  ·rename_i hv;simp only[aA,ag]at h;rcases h with h|rfl
   ·exact hn.1 g h
   ·exact hn.2 hv
 obtain⟨x,d,e⟩:=this;rw[e];exact(H.memP d).1
theorem cJ.lenG(H:cJ syms ls G0):(lwG syms G0).length≤866∧lgN (lwG syms G0)≤865:=by
 have h1:=kA (cj (bJ syms)) (ptP [] (lwL syms G0));have d:=sI (cj (bJ syms)) (ptP [] (lwL syms G0));have z:=H.lenL;rw[kT]at h1 d;unfold lwG jZ;split
 ·omega
 ·simp only[ab,aj,ar];refine⟨by omega,?_⟩;simp only[lgN,aX,aN,cQ,List.sum_append,List.sum_cons,List.sum_nil]at d⊢;omega
theorem Cs{x:ByteArray×Nat}:∀{G:List (Bytes×List Nat)} {F:Bytes},x∈liP F G→(∃g∈G,x.1=str g.1)∧x.2≤(liF F G).length:=by
 intro G;induction G with
 |nil=>intro F h;simp[liP]at h
 |cons z G d=>
  intro F h;simp only[liP,ah]at h;rcases h with rfl|h
  ·refine⟨⟨z,by simp,rfl⟩,?_⟩;have:=pZ G (F++pad 4 F.length++sec (liB z.2));simp only[liF];rw[ab]at this;omega
  ·obtain⟨⟨y,A,h1⟩,D⟩:=d h;exact⟨⟨y,by simp[A],h1⟩,D⟩
theorem cJ.lenF2(H:cJ syms ls G0):(ib (cC (ch syms) (dr syms G0)) (lwG syms G0)).length≤135729:=by have h1:=sK (lwG syms G0) (cC (ch syms) (dr syms G0));have d:=H.lenG;have z:=H.filAll;unfold ib;omega
theorem cJ.memLi(H:cJ syms ls G0):∀x∈liP (cC (ch syms) (dr syms G0)) (lwG syms G0),x.1.size≤60∧x.2≤135729:=fun x d=>by obtain⟨⟨g,hg,e⟩,A⟩:=Cs d;have z:=H.lenF2;unfold ib at z;rw[e,fx];exact⟨H.memG hg,by omega⟩
theorem cJ.lenF3(H:cJ syms ls G0):(jf (cC (ch syms) (dr syms G0)) (lwG syms G0) (lwL syms G0)).length≤412532:=by have h1:=H.lenF2;have d:=jE 4 (ib (cC (ch syms) (dr syms G0)) (lwG syms G0)).length (by decide);have z:=H.ptFLen;simp only[jf,ab];omega
theorem cJ.lenF4(H:cJ syms ls G0):(kt (cC (ch syms) (dr syms G0)) (lwG syms G0) (lwL syms G0)).length≤472298:=by
 have h1:=H.lenF3;have D:(sL (liP (cC (ch syms) (dr syms G0)) (lwG syms G0))).length≤4+69*866:=by
  have d:=fR jU 69 ((liP (cC (ch syms) (dr syms G0)) (lwG syms G0)).map fun x=>(0,x)) (fun y z=>by obtain⟨x,A,rfl⟩:=List.mem_map.1 z;have h4:=H.memLi x A;have h5:=pb (sb x.1) (by rw[dA];exact h4.1);have F:=(uvl 1 (by decide)).2;have h7:=(uvl x.2 (by omega)).2;simp only[jU,ab];omega)
  have h4:=H.lenG;rw[aB,nG]at d;simp only[sL,kO,ab,cd];omega
 simp only[kt,ab,dx];omega
theorem cJ.memE(H:cJ syms ls G0){x:Bytes×Bytes×Nat}(h:x∈fe (jA (cC (ch syms) (dr syms G0)) (lwG syms G0)) (ptP [] (lwL syms G0))):x.1.length≤60∧x.2.1.length≤60∧x.2.2≤412532∧(x.1≠[]→x.2.1∈syms):=by obtain⟨y,d,rfl⟩:=List.mem_map.1 h;have h1:=H.memP d;have z:=H.lenF2;have A:=jE 4 (ib (cC (ch syms) (dr syms G0)) (lwG syms G0)).length (by decide);refine⟨h1.1,h1.2.1,?_,h1.2.2.2⟩;simp only[jA,ab];omega
theorem cJ.lenF5(H:cJ syms ls G0):(mh (cC (ch syms) (dr syms G0)) (lwG syms G0) (lwL syms G0)).length≤600000:=by have h1:=H.lenF4;have d:=uB (fe (jA (cC (ch syms) (dr syms G0)) (lwG syms G0)) (ptP [] (lwL syms G0))) (fun x z=>by have:=H.memE z;omega);have A:=H.lenL;rw[lW,kT]at d;simp only[mh,ab,dx,gf,cd];omega
theorem cJ.ixH(H:cJ syms ls G0):IxH syms (dr syms G0) (lnL G0) (lwL syms G0) (lwG syms G0) (lwB syms G0):=by
 have hsl:=H.serLen;have A:=H.symLen;have hP:=fun{x} (h:x∈ptP [] (lwL syms G0))=>H.memP h
 refine⟨fun x d=>by have:=H.cnt x d;omega,H.lnOk.nodup,?_,⟨by omega,fun x d=>?_⟩,⟨by omega,fun x d=>by have:=H.symSmall x d;omega⟩,H.v12,⟨by have:=H.lnLen;omega,fun x d=>?_⟩,by have:=H.filAll;omega,by have:=H.tripLen;unfold lwT at this;omega,rfl,rfl,by have:=H.ptFLen;omega,?_,by have:=H.lenL;omega,
  fun x d=>by have:=H.memL d;exact⟨by omega,fun y D=>by have:=this.2.2.2.1 y D;omega⟩,fun x d=>by have:=hP d;omega,fun x d G5=>?_,fun x d=>by have:=H.memLi x d;omega,by have:=H.lenF2;omega,by have:=H.lenF5;omega,rfl,fun e=>?_⟩
 ·intro x d;obtain⟨l,hl,p,z,e⟩:=H.lnMem.1 (List.mem_map.2 ⟨x,d,rfl⟩);have h1:=fm H.nodup (H.mem1 hl z).1;rw[dX]at h1;rw[e];refine⟨_,h1.1,by omega,?_⟩;obtain⟨q,hq⟩:=uS (a:=cj (bJ syms) (sb p.1)) (b:=cj (bJ syms) (sb p.2)) (n:=(ch syms).length) (List.mem_map.2 ⟨l,hl,rfl⟩:(dC syms (aD l),[0])∈dr syms G0) (List.mem_map.2 ⟨(sb p.1,sb p.2),fo.2 ⟨p,z,rfl⟩,rfl⟩);exact⟨q,_,hq⟩
 ·have:=H.ser x d;exact⟨by omega,this.2.1,fun p z=>by have:=this.2.2 p z;omega⟩
 ·obtain⟨l,hl,p,z,e⟩:=H.lnMem.1 (List.mem_map.2 ⟨x,d,rfl⟩);have:=(H.small l hl).2.2 p z;rw[e];omega
 ·have F:=uB (ptP [] (lwL syms G0)) (fun x d=>by have:=hP d;omega);have G:=H.lenL;rw[kT]at F;omega
 ·have h1:=fm H.nodup ((hP d).2.2.2 G5);rw[h1.1];exact⟨rfl,by omega⟩
 ·have e2:G0=[]:=List.map_eq_nil_iff.1 e;refine List.eq_nil_iff_forall_not_mem.2 fun x d=>?_;obtain⟨l,hl,_⟩:=(H.symM x).1 d;rw[e2]at hl;simp at hl
theorem lD:∀(l:LabL),(∀p∈l,p.1.size≤60∧p.2.size≤60)→(aL (aD l)).length≤122*l.length:=fun l h=>by
 have:=fR (fun p:Bytes×Bytes=>eJ p.1++eJ p.2) 122 (aD l) (fun q hq=>by obtain⟨p,d,rfl⟩:=fo.1 hq;have:=h p d;simp only[eJ,ab,aj,dA];omega)
 rw[show(aD l).length=l.length by simp[aD]]at this;exact this
theorem lY(l:LabL):sb (pQ l)=aL (aD l):=dG _
theorem rE(l:LabL):(pQ l).size=(aL (aD l)).length:=fx _
theorem vS{l:LabL}(h:l≠[]):aL (aD l)≠[]:=by
 cases l with
 |nil=>exact absurd rfl h
 |cons x l=>simp[aD,aL,eJ]
theorem cJ.cmp(H:cJ syms ls G0)(j:Nat)(h:j<G0.length)(w0:World):Calls prog 97 #[.agg #[.string (pQ G0[j])],.agg #[.string (laL (G0.take j))]] w0 fun e w'=>∃m:Int,0<m∧e=.returned (.int .i64 m)∧Upd [] w0 w':=by
 have d:∀l∈G0,(pQ l).size<1073741824:=fun l hl=>by have h1:=H.small l hl;have G:=lD l (fun p D=>by have:=h1.2.2 p D;omega);rw[rE];omega
 have hm:=aq h;rcases gV j with rfl|O
 ·have e:laL (G0.take 0)=⟨#[]⟩:=rfl;rw[e];exact tC _ _ (aL (aD G0[0])) w0 (by rw[lY];rfl) (vS (H.small _ hm).1) (d _ hm)
 ·obtain⟨i,rfl⟩:∃i,j=i+1:=⟨j-1,by omega⟩;have e:laL (G0.take (i+1))=pQ (G0[i]'(by omega)):=(uM syms G0 i (by omega)).2.2;rw[e];have A:G0[i]'(by omega)∈G0:=aq _;rcases H.order i h with⟨r,hr,e⟩|⟨pre,x,y,ra,rb,e1,e2,F⟩
  ·refine tC _ _ (ic r) w0 (by rw[lY,lY,←lT,←lT,e];simp[ic]) ?_ (d _ hm);cases r with
   |nil=>exact absurd rfl hr
   |cons z r=>simp[ic,eJ]
  ·have hz:∀l∈G0,∀z∈gb l,z.length<255:=fun l hl z hz=>by obtain⟨p,D,hz⟩:=List.mem_flatMap.1 hz;have:=(H.small l hl).2.2 p D;simp only[ah,ai,or_false]at hz;rcases hz with rfl|rfl<;>(rw[dA];omega)
   refine(yT _ _ pre ra rb x y w0 (by rw[lY,←lT,e1]) (by rw[lY,←lT,e2]) (by rw[←e1];exact hz _ hm) (hz _ A y (by rw[e2];simp)) F (d _ hm) (d _ A)).mono ?_;rintro e w' ⟨rfl,hu⟩;exact⟨1,by decide,rfl,hu⟩
theorem cJ.bne(_:cJ syms ls G0):lwB syms G0≠[]:=fun e=>by have:=congrArg List.length e;simp only[lwB,ixF,ab,kd,cd,ar]at this;omega
theorem cJ.buildH(H:cJ syms ls G0):u9 syms ls G0 (lwB syms G0):=by
 have ad:=H.symLen;have hmem:∀l∈ls,∃A∈G0,A.Perm l:=fun l hl=>by
  obtain⟨j,D,rfl⟩:=aQ hl;have z:j<G0.length:=by rw[H.len];exact D
  exact⟨G0[j],aq _,H.perm j D z⟩
 have F:∀l∈G0,(aL (aD l)).length≤732:=fun l hl=>by have h1:=H.small l hl;have h2:=lD l (fun p d=>by have:=h1.2.2 p d;omega);omega
 refine⟨⟨H.symS,by omega,fun x hx=>by have:=H.symSmall x hx;omega,by have:=H.encLen;omega⟩,⟨H.len,by have:=H.few;omega⟩,?_,?_,?_,H.cmp,fun j x=>by have:=H.cntT j x;omega,fun j=>by have:=H.fil j;omega,?_,H.bne,?_⟩
 ·intro j D A d hs;have z:j<G0.length:=by rw[H.len];exact D
  rw[az z];have hm:=aq z;have O:=H.srt _ hm;have G:=d.trans (H.perm j D z).symm;have hn:(A.map (·.1)).Nodup:=(G.map (·.1)).nodup_iff.2 (H.nodupN hm);rw[iH,fg]at hn;have U:A.Pairwise fun x y=>sb x.1<sb y.1:=by refine(hs.and hn).imp ?_;rintro a b ⟨h1,h2⟩;exact pX (List.not_lt.1 h1) (fun e=>h2 (by have:=congrArg str e;rwa [dX,dX]at this))
  congr 1;exact rN (lt:=fun x y:ByteArray×ByteArray=>sb x.1<sb y.1) (fun a=>cT _) (fun a b c=>ig) O U (fun x=>G.symm.mem_iff)
 ·intro l hl;obtain⟨A,V,d⟩:=hmem l hl;have h1:=H.small A V;have hlen:=d.length_eq;refine⟨fun e=>h1.1 (by rw[e]at d;exact d.eq_nil),by omega,fun p Ih=>?_,?_⟩
  ·have:=h1.2.2 p (d.mem_iff.2 Ih);omega
  ·have:=lD l (fun p Ih=>by have:=h1.2.2 p (d.mem_iff.2 Ih);omega);omega
 ·intro l hl;have h1:=H.small l hl;refine⟨⟨lY l,by rw[rE];have:=F l hl;omega,fun q hq=>?_⟩,by simp only[aD,aB];omega,fun q hq=>?_⟩
  ·obtain⟨p,d,rfl⟩:=fo.1 hq;have:=h1.2.2 p d;simp only[dA];omega
  ·obtain⟨p,d,rfl⟩:=fo.1 hq;exact H.mem1 hl d
 ·intro G5 e;obtain⟨l,hl⟩:=fY _ G5;obtain⟨p,d⟩:=fY _ (H.small l hl).1;have:=(H.mem1 hl d).1;rw[e]at this;simp at this
 ·intro B0 w k r s hI W;exact Ah H.ixH _ _ B0 w k r s hI W
end
end Go.Proofs.YtlgefdfflmgocaaGreatDoor
