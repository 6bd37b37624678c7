import Derived.Test.YtlgefdfflmgocaaGreatDoorQ32
set_option linter.all false
set_option maxRecDepth 100000
set_option maxHeartbeats 4000000
namespace Go.Proofs.YtlgefdfflmgocaaGreatDoor
open Go Go.RowKit Xc Go.Proofs.Tryz
theorem qp{a b:ByteArray}(h:sb a=sb b):a=b:=by rw[←dX a,h,dX]
def dY(l:LabL):LabL:=l.mergeSort fun a b=>decide (sb a.1≤sb b.1)
theorem ex(l:LabL):(dY l).Perm l:=eK _ _
theorem qu{l:LabL}(h:(l.map (·.1)).Nodup):(dY l).Pairwise fun x y=>sb x.1<sb y.1:=by
 have h1:=gJ (le:=fun a b:ByteArray×ByteArray=>decide (sb a.1≤sb b.1)) (fun a b c h1 d=>by simp only[decide_eq_true_eq]at h1 d⊢;exact List.le_trans h1 d) (fun a b=>by simp only[Bool.or_eq_true,decide_eq_true_eq];exact List.le_total _ _) l;have d:((dY l).map (·.1)).Nodup:=((ex l).map _).nodup_iff.2 h;have z:(dY l).Pairwise fun x y=>x.1≠y.1:=by rw[List.Nodup,fg]at d;exact d
 have h4:=h1.and z;refine h4.imp ?_;rintro a b ⟨If,G5⟩;simp only[decide_eq_true_eq]at If;rcases List.le_iff_lt_or_eq.1 If with h5|h5
 ·exact h5
 ·exact absurd (qp h5) G5
theorem uF:∀{a b:LabL},a.Perm b→(a.Pairwise fun x y=>sb x.1<sb y.1)→(b.Pairwise fun x y=>sb x.1<sb y.1)→a=b:=by
 intro a;induction a with
 |nil=>intro b h _ _;exact(List.Perm.nil_eq h)
 |cons x a D=>
  intro b h F hb;obtain⟨d,z⟩:=List.pairwise_cons.1 F;cases b with
  |nil=>exact absurd h.length_eq (by simp)
  |cons y b=>
   obtain⟨hb1,hb2⟩:=List.pairwise_cons.1 hb;have A:x=y:=by
    by_cases e:x=y
    ·exact e
    have h1:y∈a:=by
     have:=h.symm.subset (eo (a:=y) (l:=b));rcases List.mem_cons.1 this with e1|e1
     ·exact absurd e1.symm e
     ·exact e1
    have G:x∈b:=by
     have:=h.subset (eo (a:=x) (l:=a));rcases List.mem_cons.1 this with e1|e1
     ·exact absurd e1 e
     ·exact e1
    exact absurd (ig (d y h1) (hb1 x G)) (cT _)
   subst A;rw[D (List.Perm.cons_inv h) z hb2]
theorem A5{l d:LabL}(hn:(l.map (·.1)).Nodup)(z:d.Perm l)(hs:d.Pairwise fun x y=>sb x.1<sb y.1):d=dY l:=uF (z.trans (ex l).symm) hs (qu hn)
def fl:LabL→LabL→Int
 |p::a,q::b=>if sb p.1<sb q.1∨p.1=q.1∧sb p.2<sb q.2 then-1 else if p=q then fl a b else 1
 |[],[]=>0
 |[],_::_=> -1
 |_::_,[]=>1
theorem vy:∀{a b:LabL},fl a b<0→C8 a b:=by
 intro a;induction a with
 |nil=>
  intro b h;cases b with
  |nil=>simp[fl]at h
  |cons q b=>exact .inl ⟨gb (q::b),by simp[gb],by simp[gb]⟩
 |cons p a d=>
  intro b h;cases b with
  |nil=>simp[fl]at h
  |cons q b=>
   simp only[fl]at h;split at h
   ·next h1=>
    rcases h1 with h1|⟨h1,z⟩
    ·exact .inr ⟨[],sb q.1,sb p.1,sb q.2::gb b,sb p.2::gb a,by simp[gb],by simp[gb],h1⟩
    ·exact .inr ⟨[sb p.1],sb q.2,sb p.2,gb b,gb a,by simp[gb,h1],by simp[gb],z⟩
   ·split at h
    ·next h1=>
     subst h1;rcases d h with⟨r,hr,e⟩|⟨pre,x,y,ra,rb,e1,e2,e3⟩
     ·exact .inl ⟨r,hr,by simp only[gb,aY]at e⊢;rw[e,al]⟩
     ·exact .inr ⟨sb p.1::sb p.2::pre,x,y,ra,rb,by simp only[gb,aY,dn,bz]at e1⊢;rw[e1],by simp only[gb,aY,dn,bz]at e2⊢;rw[e2],e3⟩
    ·omega
structure qH(l:LabL):Prop where
 ne:l≠[]
 len:l.length≤6
 names:(l.map (·.1)).Nodup
 size:∀p∈l,0<p.1.size∧p.1.size≤60∧0<p.2.size∧p.2.size≤60
theorem Cl{ls:List LabL}{syms:List Bytes}(hf:ls.length≤12)(A:∀l∈ls,qH l)(hb:∀j (h:j+1<ls.length),fl (dY (ls[j]'(by omega))) (dY ls[j+1])<0)
 (hs:syms.Pairwise (· <·))(hm:∀x,x∈syms↔∃l∈ls,∃p∈l,x=sb p.1∨x=sb p.2):cJ syms ls (ls.map dY):=by
 refine⟨hf,by simp,fun j h D=>by simp only[de];exact ex _,?_,?_,?_,hs,?_⟩
 ·intro l hl;obtain⟨k,z,rfl⟩:=List.mem_map.1 hl;exact qu (A k z).names
 ·intro l hl;obtain⟨k,z,rfl⟩:=List.mem_map.1 hl;have h:=A k z;have d:=ex k;exact⟨fun e=>h.ne (List.Perm.nil_eq (e▸d)).symm,by rw[d.length_eq];exact h.len,fun p Ih=>h.size p (d.subset Ih)⟩
 ·intro j h;simp only[de];exact vy (hb j (by simpa using h))
 ·intro x;rw[hm];constructor
  ·rintro⟨l,hl,p,d,e⟩;exact⟨dY l,List.mem_map.2 ⟨l,hl,rfl⟩,p,(ex l).symm.subset d,e⟩
  ·rintro⟨l,hl,p,d,e⟩;obtain⟨k,z,rfl⟩:=List.mem_map.1 hl;exact⟨k,z,p,(ex k).subset d,e⟩
def g7(l:LabL)(nm:ByteArray):ByteArray:=match l.find? fun p=>decide (p.1=nm)with|some p=>p.2|none=>ByteArray.empty
theorem sD{l:LabL}(hn:(l.map (·.1)).Nodup){nm v:ByteArray}(hv:0<v.size):mQ l (sb nm) (sb v)=decide (g7 l nm=v):=by
 rw[dR,lC,decide_eq_true_eq];unfold g7;constructor
 ·rintro⟨p,A,e1,e2⟩;have e1:=qp e1;have e2:=qp e2;obtain⟨i,D,rfl⟩:=aQ A;cases hf:l.find? fun p=>decide (p.1=nm)with
  |none=>
   have:=List.find?_eq_none.1 hf _ A;simp[e1]at this
  |some q=>
   have hq:=List.mem_of_find?_eq_some hf;have d:=List.find?_some hf;simp only[decide_eq_true_eq]at d;obtain⟨j,F,rfl⟩:=aQ hq;have z:=(List.getElem_inj (i:=i) (j:=j) (h₀:=by simpa using D) (h₁:=by simpa using F) hn).1 (by simp[e1,d]);subst z;exact e2
 ·intro h;cases hf:l.find? fun p=>decide (p.1=nm)with
  |none=>rw[hf]at h;subst h;exact absurd hv (by simp)
  |some q=>
   rw[hf]at h;have d:=List.find?_some hf;simp only[decide_eq_true_eq]at d;exact⟨q,List.mem_of_find?_eq_some hf,by rw[d],by rw[←h]⟩
theorem xZ{a b:LabL}(h:a.Perm b)(nm v:Bytes):mQ a nm v=mQ b nm v:=by rw[dR,lC,lC];exact⟨fun⟨p,d,e⟩=>⟨p,h.subset d,e⟩,fun⟨p,d,e⟩=>⟨p,h.symm.subset d,e⟩⟩
instance GI(z:ByteArray)(ss:List ByteArray):Decidable (z∈ss):=decidable_of_iff ((ss.any fun x=>decide (x=z))=true) (by simp)
def jT(ss:List ByteArray)(z:ByteArray):List ByteArray:=if z∈ss then ss else ss++[z]
def kl(ss:List ByteArray)(l:LabL):List ByteArray:=l.foldl (fun s p=>jT (jT s p.1) p.2) ss
def g9(ls:List LabL):List ByteArray:=ls.foldl kl []
theorem tJ{ss:List ByteArray}{z x:ByteArray}:x∈jT ss z↔x∈ss∨x=z:=by
 unfold jT;split
 ·next h=>exact⟨.inl,fun d=>d.elim id (fun e=>e▸h)⟩
 ·simp
theorem pF{ss:List ByteArray}(h:ss.Nodup)(z:ByteArray):(jT ss z).Nodup:=by
 unfold jT;split
 ·exact h
 ·next hz=>exact List.nodup_append.2 ⟨h,by simp,fun a d b hb e=>by simp only[ag]at hb;subst hb;exact hz (e▸d)⟩
theorem zy:∀(l:LabL) (ss:List ByteArray) (x:ByteArray),x∈kl ss l↔x∈ss∨∃p∈l,x=p.1∨x=p.2:=by
 intro l;induction l with
 |nil=>intro ss x;simp[kl]
 |cons p l d=>
  intro ss x;have:=d (jT (jT ss p.1) p.2) x;simp only[kl,dg]at this⊢;rw[this,tJ,tJ];simp only[ah,exists_eq_or_imp];constructor
  ·rintro(((h|h)|h)|h)
   ·exact .inl h
   ·exact .inr (.inl (.inl h))
   ·exact .inr (.inl (.inr h))
   ·exact .inr (.inr h)
  ·rintro(h|(h|h)|h)
   ·exact .inl (.inl (.inl h))
   ·exact .inl (.inl (.inr h))
   ·exact .inl (.inr h)
   ·exact .inr h
theorem vw:∀(l:LabL) {ss:List ByteArray},ss.Nodup→(kl ss l).Nodup:=by
 intro l;induction l with
 |nil=>intro ss h;exact h
 |cons p l d=>intro ss h;exact d (pF (pF h _) _)
theorem tI(ls:List LabL):(g9 ls).Nodup∧∀x,x∈g9 ls↔∃l∈ls,∃p∈l,x=p.1∨x=p.2:=by
 have h:∀(m:List LabL) (ss:List ByteArray),ss.Nodup→(m.foldl kl ss).Nodup∧∀x,x∈m.foldl kl ss↔x∈ss∨∃l∈m,∃p∈l,x=p.1∨x=p.2:=by
  intro m;induction m with
  |nil=>intro ss h;simp[h]
  |cons l m z=>
   intro ss h;obtain⟨h1,d⟩:=z (kl ss l) (vw l h);refine⟨h1,fun x=>?_⟩;rw[dg,d,zy];simp only[ah,exists_eq_or_imp,or_assoc]
 obtain⟨h1,d⟩:=h ls [] (by simp);exact⟨h1,fun x=>by rw[g9,d];simp⟩
theorem nw(ss:List ByteArray)(z:ByteArray):(jT ss z).length≤ss.length+1:=by unfold jT;split<;>simp
theorem pE:∀(l:LabL) (ss:List ByteArray),(kl ss l).length≤ss.length+2*l.length:=by
 intro l;induction l with
 |nil=>intro ss;simp[kl]
 |cons p l d=>
  intro ss;have h1:=d (jT (jT ss p.1) p.2);have z:=nw (jT ss p.1) p.2;have A:=nw ss p.1;simp only[kl,dg,aj]at h1⊢;omega
theorem Tryz.info9:(Tryz.prog.info? 9).map (fun i=>(i.zero,i.size,i.bytes))=some (some (.string ⟨#[]⟩),1,16):=by kernel_rfl
theorem Tryz.info63:(Tryz.prog.info? 63).map (fun i=>(i.zero,i.size,i.bytes))=some (some (.agg #[.int .u64 0,.slice none 0 0,.slice none 0 0]),3,56):=by kernel_rfl
theorem FT(w:World):(zeroValue 4).run prog w=.ok (.bool false) w:=by kernel_rfl
structure SyS(w0 w:World)(mb:Nat)(v7 v8:Value)(ss:List ByteArray)(zs:List Value)(i:Nat):Prop where
 r7:aP w0 w 9 1 ss.length v7 (ss.map Value.string)
 r8:aP w0 w 63 3 i v8 zs
 map:w.heap[mb]? =some (bI Value.string (ss.map fun x=>(x,Value.bool true)))
 d78:∀b,v7.ownBlock=some b→v8.ownBlock≠some b
 d7m:v7.ownBlock≠some mb
 d8m:v8.ownBlock≠some mb
 mge:w0.heap.size≤mb
 upd:Upd [] w0 w
section
variable {w0 w w1:World} {mb:Nat} {v7 v8:Value} {ss:List ByteArray} {zs:List Value} {i:Nat}
theorem SyS.new(h:SyS w0 w mb v7 v8 ss zs i)(hu:Upd [] w w1):SyS w0 w1 mb v7 v8 ss zs i:=
 ⟨h.r7.upd hu (by simp),h.r8.upd hu (by simp),hu.blk h.map (by simp),h.d78,h.d7m,h.d8m,h.mge,h.upd.then hu (by simp)⟩
theorem rI(z:ByteArray):∀ss:List ByteArray,aT z (ss.map fun x=>(x,Value.bool true))=if z∈ss then some (.bool true)else none:=by
 intro ss;induction ss with
 |nil=>simp[aT]
 |cons x ss d=>
  simp only[aN,aT,d,ah];by_cases h:z=x
  ·simp[h]
  ·simp[h]
theorem SyS.look(h:SyS w0 w mb v7 v8 ss zs i)(z:ByteArray):(Instr.lookup 58 (.map (some mb)) (.string z) false).run prog w=.ok (.bool (decide (z∈ss))) w:=by
 have:=cw (P:=prog) (T:=58) Value.string iT underlying58 h.map FT z false;rw[rI]at this;by_cases hz:z∈ss
 ·rw[if_pos hz]at this;simpa[hz]using this
 ·rw[if_neg hz]at this;simpa[hz]using this
theorem SyS.add(h:SyS w0 w mb v7 v8 ss zs i){z:ByteArray}(hz:z∉ss)(hn:ss.length<1000):
 ∃w2 D G,Hid ((Instr.mapUpdate 58 (.map (some mb)) (.string z) (.bool true)).run prog w=.ok () w2)∧Hid ((Builtin.append_ #[59,59] 59 #[v7,.slice (some ⟨w2.heap.size,0,none⟩) 1 1]).run prog (w2.alloc (.cells #[.string z] 9 (0,0)))=.ok D G)∧Hid (SyS w0 G mb D v8 (ss++[z]) zs i)∧Hid (Upd (mb::v7.ownBlock.toList) w G)∧Hid (∀b,D.ownBlock=some b→v7.ownBlock=some b∨w.heap.size≤b)∧w2.heap.size=w.heap.size:=by
 have F:=dB (P:=prog) (T:=58) Value.string iT underlying58 h.map z (.bool true);have V:aT z (ss.map fun x=>(x,Value.bool true))=none:=by rw[rI,if_neg hz]
 rw[fu V]at F;obtain⟨w2,A⟩:∃w2,w2=ChangeMaps.setBlock w mb (bI Value.string ((ss.map fun x=>(x,Value.bool true))++[(z,.bool true)])):=⟨_,rfl⟩;rw[←A]at F;have Ia:=lt_of_block h.map;have hS:Upd [mb] w w2:=by rw[A];exact d9
 have hm2:w2.heap[mb]? =some (bI Value.string ((ss++[z]).map fun x=>(x,Value.bool true))):=by rw[A,aX];exact gN Ia
 have h7:=h.r7.upd hS (fun b hb e=>by simp only[ag]at hb;subst hb;exact h.d7m e);have h8:=h.r8.upd hS (fun b hb e=>by simp only[ag]at hb;subst hb;exact h.d8m e);obtain⟨i0,hi,W,ad,a0⟩:=info_parts Tryz.info9;have a1:Upd [] w2 (w2.alloc (.cells #[.string z] 9 (0,0))):=(ae _).alloc _;have a2:=h.upd.size;have a3:=hS.size;obtain⟨v',G,O,G3,G4,d⟩:=jH (P:=prog) 59 9 i0 (.string ⟨#[]⟩) 1 16 underlying59 hi W ad a0 rfl (by decide) h7 a1 [.string z] rfl (by simp[Value.oneCell']) w2.heap.size 9 (an _) (by omega) (by unfold maxLen;omega) (by omega);have hL:∀b∈v7.ownBlock.toList,v7.ownBlock=some b:=fun b hb=>by simpa using hb
 have hu:Upd [] w0 G:=(h.upd.then hS (fun b hb hl=>by simp only[ag]at hb;have:=h.mge;omega)).then G4.o (fun b hb hl=>by have:=h7.2 b (hL b hb);omega);refine⟨w2,v',G,aa F,O,aa ⟨?_,h8.upd G4.o (fun b hb e=>h.d78 b (hL b hb) e),G4.o.blk hm2 (fun hm=>h.d7m (hL mb hm)),fun b hb e=>?_,fun e=>?_,h.d8m,h.mge,hu⟩,aa ((hS.mono (by simp)).then G4.o (fun b hb _=>aH _ hb)),aa (fun b hb=>by have:=d.o b hb;have:=hS.size;rcases d.o b hb with h|h;exact .inl h;exact .inr (by omega)),by rw[A];simp[ChangeMaps.setBlock]⟩
 ·have:=G3.o;rw[aX,ab];exact this
 ·rcases d.o b hb with U|U
  ·exact h.d78 b U e
  ·have:=h8.lt b e;omega
 ·rcases d.o mb e with U|U
  ·exact h.d7m U
  ·omega
theorem SyS.ser(h:SyS w0 w mb v7 v8 ss zs i)(hu:Upd [] w w1)(x:List Value)(hx:x.length=3)(G:∀u∈x,u.oneCell'=true)(hn:i<1000):
 ∃z F,Hid ((Builtin.append_ #[60,60] 60 #[v8,.slice (some ⟨w1.heap.size,0,none⟩) 1 1]).run prog (w1.alloc (.cells x.toArray 63 (0,0)))=.ok z F)∧Hid (SyS w0 F mb v7 z ss (zs++x) (i+1)):=by
 have h1:=h.new hu;obtain⟨i0,hi,O,U,V⟩:=info_parts Tryz.info63;have W:Upd [] w1 (w1.alloc (.cells x.toArray 63 (0,0))):=(ae _).alloc _;have Ia:=lt_of_block h1.map;obtain⟨v',F,A,G3,G4,d⟩:=jH (P:=prog) 60 63 i0 _ 3 56 underlying60 hi O U V rfl (by decide) h1.r8 W x hx G w1.heap.size 63 (an _) h1.upd.size (by unfold maxLen;omega) (by omega);have hL:∀b∈v8.ownBlock.toList,v8.ownBlock=some b:=fun b hb=>by simpa using hb
 refine⟨v',F,A,aa ⟨h1.r7.upd G4.o (fun b hb e=>h.d78 b e (hL b hb)),G3.o,G4.o.blk h1.map (fun hm=>h.d8m (hL mb hm)),fun b hb e=>?_,h.d7m,fun e=>?_,h.mge,h1.upd.then G4.o (fun b hb hl=>by have:=h1.r8.2 b (hL b hb);omega)⟩⟩
 ·rcases d.o b e with D|D
  ·exact h.d78 b hb D
  ·have:=h1.r7.lt b hb;omega
 ·rcases d.o mb e with D|D
  ·exact h.d8m D
  ·omega
end
attribute [local go_sem ↓] Go.wp_at_zero Go.wp_at_succ
def yX(w:World)(b:Option Addr)(ls:List LabL):Prop:=∀j (h:j<ls.length),∃q o a d cap,b=some ⟨q,o,none⟩∧q<w.heap.size∧a<w.heap.size∧w.cell? ⟨q,o+j,none⟩=some (.slice (some ⟨a,d,none⟩) ls[j].length cap)∧fS w a d ls[j]
def BD(w:World)(ls:List LabL)(i:Nat)(zs:List Value):Prop:=zs.length=3*i∧∀j (h:j<ls.length),j<i→∃a d cap,zs[j*3]? =some (.int .u64 (j+1:Nat))∧zs[j*3+1]? =some (.slice (some ⟨a,d,none⟩) ls[j].length cap)∧zs[j*3+2]? =some (.slice none 0 0)∧a<w.heap.size∧fS w a d ls[j]
def zx(ss:List ByteArray)(a b:ByteArray):Nat→List ByteArray
 |0=>ss
 |1=>jT ss a
 |_=>jT (jT ss a) b
def lP(ss:List ByteArray):List Bytes:=(ss.map sb).mergeSort fun x y=>decide (x≤y)
theorem rS(ss:List ByteArray):(lP ss).length=ss.length:=by simp[lP]
theorem yJ(ss:List ByteArray)(x:Bytes):x∈lP ss↔∃y∈ss,x=sb y:=by rw[lP,(eK _ _).mem_iff,bU];exact⟨fun⟨y,h1,d⟩=>⟨y,h1,d.symm⟩,fun⟨y,h1,d⟩=>⟨y,h1,d.symm⟩⟩
theorem wE{ss:List ByteArray}(h:ss.Nodup):(lP ss).Pairwise (· <·):=by
 have h1:=gJ (le:=fun a b:Bytes=>decide (a≤b)) (fun a b c h1 d=>by simp only[decide_eq_true_eq]at h1 d⊢;exact List.le_trans h1 d) (fun a b=>by simp only[Bool.or_eq_true,decide_eq_true_eq];exact List.le_total _ _) (ss.map sb);have d:(lP ss).Nodup:=(eK _ _).nodup_iff.2 (by rw[List.Nodup,fg];exact h.imp fun G5 e=>G5 (qp e))
 refine(h1.and d).imp ?_;rintro a b ⟨If,G5⟩;simp only[decide_eq_true_eq]at If;exact(List.le_iff_lt_or_eq.1 If).resolve_right G5
theorem A6{w0 w:World}{k:Nat}{v7:Value}{ss:List ByteArray}(h:aP w0 w 9 1 k v7 (ss.map Value.string))(G:k=ss.length)(hl:k<1000000):
 ∃z F,v7=.slice z k F∧Calls prog 20 #[.slice z k F] w fun e w'=>e=.returned (.tuple #[])∧rp w' z (lP ss) []∧Upd v7.ownBlock.toList w w':=by
 rcases h.shape with⟨h1,O,U⟩|⟨q,c,h1,_⟩
 ·have A:ss=[]:=by cases ss with|nil=>rfl|cons x l=>simp at U
  subst O;refine⟨none,0,h1,(Tryz.slices_Sort_string_none none 0 w).mono ?_⟩;rintro e w' ⟨rfl,rfl⟩;exact⟨rfl,fun j d=>by rw[rS,A]at d;simp at d,(ae _).mono (by simp)⟩
 ·refine⟨_,c,h1,?_⟩;have hr:=h.1;have e:ss.map Value.string=(ss.map sb).map fun x=>Value.string (str x):=by rw[bT];exact i6 fun x _=>by simp[dX]
  rw[h1,e]at hr;have D:k=(ss.map sb).length:=by rw[aB];exact G
  have hq:v7.ownBlock=some q:=by rw[h1];rfl
  rw[D]at hr⊢;refine(sm (ss:=ss.map sb) w hr (by omega)).mono ?_;rintro e w' ⟨rfl,G3,hu⟩;refine⟨rfl,fun j d=>⟨q,rfl,by simp,?_⟩,by rw[hq];exact hu⟩;have:=G3.cells (g:=q) rfl j (.string (str (lP ss)[j])) (by rw[cx,←lP,az d];rfl);rw[aO,aK]at this;exact this
theorem BD.serIn{w0 w w':World}{ls:List LabL}{n:Nat}{zs:List Value}{v8:Value}(h:BD w ls n zs)(hn:n=ls.length)(hr:aP w0 w' 63 3 n v8 zs)(hu:Upd [] w w'):∃z F,v8=.slice z n F∧ro w' z ls []:=by
 rcases hr.shape with⟨h1,G,W⟩|⟨q,c,h1,_⟩
 ·exact⟨none,0,by rw[h1,G],fun j A=>by omega⟩
 ·refine⟨_,c,h1,fun j A=>?_⟩;obtain⟨a,O,cap,z0,U,z2,V,G3⟩:=h.2 j A (by omega);have d:=hr.1;rw[h1]at d;have D:=d.cells (g:=q) rfl _ _ z0;have c1:=d.cells (g:=q) rfl _ _ U;have c2:=d.cells (g:=q) rfl _ _ z2;rw[aO,aK]at D c1 c2;exact⟨q,a,O,cap,rfl,by simp,by simp,bD V hu.size,G3.upd hu (by simp),D,c1,c2⟩
def WsQ(w:World)(out:List LabL)(e:Ending)(w':World):Prop:=∃d,e=.returned (.tuple #[d,.bool true])∧jl w w' d out∧Upd [] w w'
theorem tH(w:World)(lc mc:Nat)(lb mb:Option Addr)(ls:List LabL)(ms:ni)(hl:yX w lb ls)(hm:rj w mb ms [])(hf:ls.length≤12)(ho:∀l∈ls,qH l)(hb:∀j (h:j+1<ls.length),fl (dY (ls[j]'(by omega))) (dY ls[j+1])<0)(ds:ms.length≤6∧∀m∈ms,m.1≤1∧sb m.2.1≠[]):
 Calls prog 13 #[.slice lb ls.length lc,.slice mb ms.length mc] w (WsQ w (kC (ls.map dY) ms)):=by
 obtain⟨w1,cM,dF,h3,h4,h5,bK⟩:=kK w (.cells #[.slice mb ms.length mc] 23 (0,0)) (.cells #[.slice none 0 0] 22 (0,0)) (.cells #[.bool false] 4 (0,0));obtain⟨p5,bL⟩:∃x,x=w.heap.size+1+1:=⟨_,rfl⟩;obtain⟨O,bM⟩:∃x,x=w.heap.size+1:=⟨_,rfl⟩;obtain⟨p3,bO⟩:∃x,x=w.heap.size:=⟨_,rfl⟩;rw[←bL]at h5;rw[←bM]at h4;rw[←bO]at h3;obtain⟨pm,Ih⟩:∃x,x=w1.heap.size:=⟨_,rfl⟩;obtain⟨w2,bR⟩:∃w2,w2=w1.alloc (.map #[] 0):=⟨_,rfl⟩;have dP:Upd [] w1 w2:=by rw[bR];exact(ae _).alloc _
 have hm2:w2.heap[pm]? =some (bI Value.string (([]:List ByteArray).map fun x=>(x,Value.bool true))):=by rw[bR,Ih];exact an _
 have H0:Hid (SyS w1 w2 pm (.slice none 0 0) (.slice none 0 0) [] [] 0):=aa ⟨er,er,hm2,by simp[Value.ownBlock],by simp[Value.ownBlock],by simp[Value.ownBlock],by omega,dP⟩;have HB:=aa (And.intro dF (And.intro h3 (And.intro h4 (And.intro h5 (show p3=w.heap.size∧O=w.heap.size+1∧p5=w.heap.size+1+1∧w1.heap.size=w.heap.size+3 from⟨bO,bM,bL,bK⟩)))));have HI:=aa (And.intro hl hm);have HL:=aa (And.intro hf (And.intro ho (And.intro hb ds)));have cN:=run_makeMap (P:=prog) 58 w1;rw[←Ih,←bR]at cN;obtain⟨n,hn⟩:∃n,n=ls.length:=⟨_,rfl⟩;obtain⟨nm,G8⟩:∃n,n=ms.length:=⟨_,rfl⟩;rw[←hn,←G8];have Hn:=aa (And.intro hn G8);have f3:n≤12:=by omega
 have eN:=aa cN;rw[←G8]at cM;clear hl hm hf ho hb ds h3 h4 h5 bK dF bR dP hm2 Ih hn G8 cN;go_enter func13,ntmps13
 go_upto_region 1 with fail
 rw[←cM];rw[←bL,←bM,←bO];clear cM bL bM bO;go_wp2_with (refine fW rfl _ rfl _ _ eN.o ?_);go_loopg [7,8,21] n (fun gg s7 s8 eR wx=>∃(i:Nat) (zs:List Value),eR=.int .i64 i∧Hid (gg+i=n)∧Hid (SyS w1 wx pm s7 s8 (g9 (ls.take i)) zs i∧BD w ls i zs))
 case atStart=>exact⟨0,[],rfl,aa (by omega),aa ⟨H0.o,rfl,fun j _ h=>by omega⟩⟩
 case round=>
  obtain⟨i,zs,rfl,Hi,HS⟩:=hrel;clear H0;by_cases f9:i<n
  ·have Hf:i<ls.length:=by have:=Hn.o.1;omega
   obtain⟨lq,lo,a,oa,cap,e0,e6,dT,bS,G3⟩:=HI.o.1 i Hf;have U:Upd [] w wr:=HB.o.1.then HS.o.1.upd (by simp);obtain⟨l,bW⟩:∃l,l=ls[i]:=⟨_,rfl⟩;rw[←bW]at bS G3;have cB:qH l:=by rw[bW];exact HL.o.2.1 _ (aq Hf)
   obtain⟨li,b5⟩:∃li,li=l.length:=⟨_,rfl⟩;rw[←b5]at bS;have f6:li≤6:=by rw[b5];exact cB.len
   have c0:=U.cell (by simp) bS;have d:=aa (show a<w.heap.size∧fS w a oa l∧l=ls[i]∧li=l.length from⟨dT,G3,bW,b5⟩);subst e0;have ga:(0:Int)≤(i:Int):=by omega
   have gd:(i:Int)<(n:Int):=by omega
   obtain⟨ss,b6⟩:∃ss,ss=g9 (ls.take i):=⟨_,rfl⟩;have cO:Hid (SyS w1 wr pm u7 u8 ss zs i∧BD w ls i zs∧ss=g9 (ls.take i)):=aa ⟨by rw[b6];exact HS.o.1,HS.o.2,b6⟩;have a2:Hid (ss.length≤12*i):=aa (by
    rw[b6];have h1:∀(m:List LabL) (D:List ByteArray),(∀x∈m,x.length≤6)→(m.foldl kl D).length≤D.length+12*m.length:=by
     intro m;induction m with
     |nil=>intro D _;simp
     |cons x m ih=>
      intro D hx;have h2:=ih (kl D x) (fun y hy=>hx y (by simp[hy]));have h3:=pE x D;have h4:=hx x (by simp);rw[dg,aj];omega
    have h5:=h1 (ls.take i) [] (fun x hx=>(HL.o.2.1 x (dL hx)).len);have h6:=cH i ls;rw[g9];simp only[ar]at h5;omega)
   clear e6 dT bS G3 U bW cB b5 HS b6;go_wp2_with fail;go_loopg [7,28] li (fun gg s7 e7 wx=>∃j:Nat,e7=.int .i64 j∧Hid (gg+j=li)∧Hid (SyS w1 wx pm s7 u8 (kl ss (l.take j)) zs i))
   case atStart=>exact⟨0,rfl,aa (by omega),aa cO.o.1⟩
   case round=>
    obtain⟨j,rfl,Hj,HT⟩:=hrel;by_cases gi:j<li
    ·have cP:j<l.length:=by have:=d.o.2.2.2;omega
     have U:Upd [] w wr:=HB.o.1.then HT.o.upd (by simp);obtain⟨r1,r2⟩:=d.o.2.1 j cP;have k1:=U.cell (by simp) r1;have k2:=U.cell (by simp) r2;obtain⟨sn,hsn⟩:∃s,s=l[j].1:=⟨_,rfl⟩;obtain⟨sv,Ig⟩:∃s,s=l[j].2:=⟨_,rfl⟩;rw[←hsn,iM 2 j]at k1;rw[←Ig,iM 2 j]at k2;obtain⟨D,b9⟩:∃D,D=kl ss (l.take j):=⟨_,rfl⟩;have HA:=aa (show kl ss (l.take (j+1))=jT (jT D sn) sv from by rw[ax cP,kl,ff,b9,hsn,Ig];rfl)
     have f7:D.length≤12*i+12:=by have h1:=pE (l.take j) ss;have h2:=cH j l;have h3:=a2.o;have h4:=d.o.2.2.2;rw[b9];omega
     obtain⟨w4,d0,bb,ea,cX,e9⟩:=j8 wr (.cells #[.string sn,.string sv] 56 (0,0)) (.cells #[.string sn,.string sv] 9 (0,0));obtain⟨eb,W⟩:∃x,x=wr.heap.size:=⟨_,rfl⟩;obtain⟨pz,cY⟩:∃x,x=wr.heap.size+1:=⟨_,rfl⟩;rw[←cY]at cX;rw[←W]at ea;have hT:=HT.o;rw[←b9]at hT;have H4:Hid (SyS w1 w4 pm u7 u8 D zs i∧w4.heap[pz]? =some (.cells #[.string sn,.string sv] 9 (0,0))∧(∀b,u7.ownBlock=some b→b≠pz)∧pm≠pz):=aa ⟨hT.new bb,cX,fun b hb=>by have:=hT.r7.lt b hb;omega,by have:=lt_of_block hT.map;omega⟩;have gF:(0:Int)≤(j:Int):=by omega
     have gL:(j:Int)<(li:Int):=by omega
     have m1:(wr.alloc (.cells #[.string sn,.string sv] 56 (0,0))).cell? ⟨eb,0,none⟩=some (.string sn):=by rw[W];exact af (an _) 0
     have m2:(wr.alloc (.cells #[.string sn,.string sv] 56 (0,0))).cell? ⟨eb,1,none⟩=some (.string sv):=by rw[W];exact af (an _) 1
     rw[W]at m1 m2;clear U r1 r2 hsn Ig b9 bb ea cX e9 hT W cP;go_wp2_with fail;rw[←d0,←cY];clear d0 cY m1 m2 k1 k2;go_loopg [7,38] 2 (fun gg s7 fa wx=>∃k:Nat,fa=.int .i64 k∧Hid (gg+k=2)∧Hid (SyS w1 wx pm s7 u8 (zx D sn sv k) zs i∧wx.heap[pz]? =some (.cells #[.string sn,.string sv] 9 (0,0))∧(∀b,s7.ownBlock=some b→b≠pz)∧pm≠pz))
     case atStart=>exact⟨0,rfl,aa rfl,H4⟩
     case round=>
      obtain⟨k,rfl,Hk,HK⟩:=hrel;by_cases gP:k<2
      ·obtain⟨z,hz,ca⟩:∃z,wr.cell? ⟨pz,k,none⟩=some (.string z)∧zx D sn sv (k+1)=jT (zx D sn sv k) z:=by
        have h:=HK.o.2.1;rcases(show k=0∨k=1 by omega)with rfl|rfl
        ·exact⟨sn,af h 0,rfl⟩
        ·exact⟨sv,af h 1,rfl⟩
       obtain⟨S,hS⟩:∃S,S=zx D sn sv k:=⟨_,rfl⟩;have cZ:S.length<1000:=by have h1:=nw D sn;have h2:=nw (jT D sn) sv;rw[hS];rcases(show k=0∨k=1 by omega)with rfl|rfl<;>simp only[zx]<;>omega
       rw[←hS]at ca;have hK:=HK.o;rw[←hS]at hK;have c6:=aa hK;have a3:=hK.1.look z;have g0:(0:Int)≤(k:Int):=by omega
       have g8:(k:Int)<2:=by omega
       have ef:=aa ca;obtain⟨g1,eg⟩:∃g1,g1=gk-1:=⟨_,rfl⟩;by_cases ad:z∈S
       ·have fb:(Instr.lookup 58 (.map (some pm)) (.string z) false).run prog wr=.ok (.bool true) wr:=by rw[a3];simp[ad]
        have c9:=aa ad;clear hK hS ca ad cZ a3;go_wp2_with fail;go_roundg g1
        case measure=>have:=Hk.o;omega
        case rel=>exact⟨k+1,by simp,aa (by have:=Hk.o;omega),aa ⟨by rw[ef.o,jT,if_pos c9.o];exact c6.o.1,c6.o.2⟩⟩
       ·have fb:(Instr.lookup 58 (.map (some pm)) (.string z) false).run prog wr=.ok (.bool false) wr:=by rw[a3];simp[ad]
        obtain⟨w6,ha,w7,U,bd,fc,cc,ei,ej⟩:=hK.1.add ad cZ;have c9:=aa ad;have f8:=U.o;have hd:=aa ej;clear hK hS ca ad cZ U ej a3;go_wp2_with (at_builtin;refine bc rfl _ _ _ rfl _ _ _ _ rfl rfl bd.o ?_);go_roundg g1
        case measure=>have:=Hk.o;omega
        case rel=>
         have hb:=c6.o;have hpl:=lt_of_block hb.2.1;refine⟨k+1,by simp,aa (by have:=Hk.o;omega),aa ⟨by rw[ef.o,jT,if_neg c9.o];exact fc.o,cc.o.blk hb.2.1 (fun hm=>?_),fun b fk e=>?_,hb.2.2.2⟩⟩
         ·rcases List.mem_cons.1 hm with e|hm
          ·exact hb.2.2.2 e.symm
          ·exact hb.2.2.1 pz (by simpa using hm) rfl
         ·rcases ei.o b fk with h|h
          ·exact hb.2.2.1 b h e
          ·omega
      ·have hk:k=2:=by have:=Hk.o;omega
       subst hk;clear H4;go_wp2_with fail;obtain⟨g1,eg⟩:∃g1,g1=li-(j+1):=⟨_,rfl⟩;go_roundg g1
       case measure=>have:=Hj.o;omega
       case rel=>exact⟨j+1,by simp,aa (by omega),aa (by rw[HA.o];exact HK.o.1)⟩
    ·have fr:j=li:=by have:=Hj.o;omega
     subst fr;have be:l.take j=l:=bG (by rw[d.o.2.2.2];exact aw _);have hT:=HT.o;rw[be]at hT;obtain⟨x1,fs⟩:∃x1:List Value,x1=[.int .u64 ((i:Int)+1),.slice (some ⟨a,oa,none⟩) j cap,.slice none 0 0]:=⟨_,rfl⟩;obtain⟨he,w9,bd,ft⟩:=hT.ser (ae _) [.int .u64 ((i:Int)+1),.slice (some ⟨a,oa,none⟩) j cap,.slice none 0 0] rfl (by simp[Value.oneCell']) (by omega);have hh:IntKind.u64.wrap ((i:Int)+1)=(i:Int)+1:=by rw[cK];omega
     clear be hT HT fs x1;go_wp2_with (at_builtin;refine bc rfl _ _ _ rfl _ _ _ _ rfl rfl bd.o ?_);obtain⟨g1,eg⟩:∃g1,g1=n-(i+1):=⟨_,rfl⟩;go_roundg g1
     case measure=>have:=Hi.o;omega
     case rel=>
      have Hf:i<ls.length:=by have:=Hn.o.1;omega
      refine⟨i+1,zs++[.int .u64 ((i:Int)+1),.slice (some ⟨a,oa,none⟩) j cap,.slice none 0 0],by simp,aa (by omega),aa ⟨?_,?_⟩⟩
      ·have e:g9 (ls.take (i+1))=kl ss l:=by rw[ax Hf,g9,ff,cO.o.2.2,g9,d.o.2.2.1];rfl
       rw[e];exact ft.o
      ·have hz:=cO.o.2.1;refine⟨by rw[ab,hz.1];simp only[aj,ar];omega,fun k hk hi=>?_⟩;by_cases fv:k=i
       ·subst fv;have cg:zs.length=k*3:=by rw[hz.1];omega
        refine⟨a,oa,cap,?_,?_,?_,d.o.1,?_⟩
        ·rw[←cg,bC (aw _),iN];simp
        ·rw[←cg,bC (by omega)];have e2:zs.length+1-zs.length=1:=by omega
         rw[e2,←d.o.2.2.1,←d.o.2.2.2];rfl
        ·rw[←cg,bC (by omega)];have e2:zs.length+2-zs.length=2:=by omega
         rw[e2];rfl
        ·rw[←d.o.2.2.1];exact d.o.2.1
       ·obtain⟨a',fA,cap',h1,h2,h3,h4,h5⟩:=hz.2 k hk (by omega);have cg:=hz.1;exact⟨a',fA,cap',by rw[bH (by omega)];exact h1,by rw[bH (by omega)];exact h2,by rw[bH (by omega)];exact h3,h4,h5⟩
  ·have fE:i=n:=by have:=Hi.o;omega
   subst fE;have be:ls.take i=ls:=bG (by rw[Hn.o.1];exact aw _);have hS:=HS.o;rw[be]at hS;obtain⟨hsn,ck⟩:=tI ls;have a2:(g9 ls).length<1000:=by
    have h1:∀(m:List LabL) (D:List ByteArray),(∀x∈m,x.length≤6)→(m.foldl kl D).length≤D.length+12*m.length:=by
     intro m;induction m with
     |nil=>intro D _;simp
     |cons x m ih=>
      intro D hx;have h2:=ih (kl D x) (fun y hy=>hx y (by simp[hy]));have h3:=pE x D;have h4:=hx x (by simp);rw[dg,aj];omega
    have h5:=h1 ls [] (fun x hx=>(HL.o.2.1 x hx).len);have h6:=Hn.o.1;rw[g9];simp only[ar]at h5;omega
   have cD:cJ (lP (g9 ls)) ls (ls.map dY):=Cl HL.o.1 HL.o.2.1 HL.o.2.2.1 (wE hsn) (fun x=>by
    rw[yJ];constructor
    ·rintro⟨y,hy,rfl⟩;obtain⟨l,hl,p,hp,e⟩:=(ck y).1 hy;exact⟨l,hl,p,hp,e.elim (fun h=>.inl (by rw[h])) (fun h=>.inr (by rw[h]))⟩
    ·rintro⟨l,hl,p,hp,e⟩;rcases e with rfl|rfl
     ·exact⟨p.1,(ck _).2 ⟨l,hl,p,hp,.inl rfl⟩,rfl⟩
     ·exact⟨p.2,(ck _).2 ⟨l,hl,p,hp,.inr rfl⟩,rfl⟩)
   obtain⟨b7,c7,rfl,cn⟩:=A6 hS.1.r7 rfl (by omega);obtain⟨b8,c8,rfl,cp⟩:=hS.2.serIn Hn.o.1 hS.1.r8 (HB.o.1.then hS.1.upd (by simp));have V:=aa (And.intro hS.1 (And.intro hS.2 (And.intro cD a2)));have cn:=aa cn;obtain⟨k7,a0⟩:∃k7,k7=(g9 ls).length:=⟨_,rfl⟩;rw[←a0]at cn;rw[←a0];have dc:=aa a0;clear be hS HS hsn ck cD cp a2 a0;go_wp2_with (go_at_call 20;refine cn.o.mono ?_;rintro e w3 ⟨rfl,bg,G4⟩);obtain⟨syms,a1⟩:∃syms,syms=lP (g9 ls):=⟨_,rfl⟩;have bl:∀b∈(Value.slice b7 k7 c7).ownBlock.toList,w1.heap.size≤b:=fun b hb=>V.o.1.r7.2 b (by rw[←dc.o];simpa using hb);have dd:Upd [] w w3:=(HB.o.1.then V.o.1.upd (by simp)).then G4 (fun b hb hl=>by have:=bl b hb;have:=HB.o.2.2.2.2;omega);obtain⟨hq,ht,e8,cp⟩:=V.o.2.1.serIn Hn.o.1 (V.o.1.r8.upd G4 (fun b hb e=>V.o.1.d78 b (by rw[←dc.o];simpa using hb) e)) dd;simp only[bx]at e8;obtain⟨rfl,-,rfl⟩:=e8;have a6:w3.heap[O]? =some (.cells #[.slice none 0 0] 22 (0,0)):=G4.blk (V.o.1.upd.blk HB.o.2.2.1 (by simp)) (fun h=>by have:=bl _ h;have:=HB.o.2.2.2.2;omega);have bn:w3.heap[p3]? =some (.cells #[.slice mb ms.length mc] 23 (0,0)):=G4.blk (V.o.1.upd.blk HB.o.2.1 (by simp)) (fun h=>by have:=bl _ h;have:=HB.o.2.2.2.2;omega);have a7:w3.heap[p5]? =some (.cells #[.bool false] 4 (0,0)):=G4.blk (V.o.1.upd.blk HB.o.2.2.2.1 (by simp)) (fun h=>by have:=bl _ h;have:=HB.o.2.2.2.2;omega);have A:=V.o.2.2.1;rw[←a1]at A bg;have a0:k7=syms.length:=by rw[dc.o,a1,rS]
   have fN:=aa (vd (w:=w3) b7 b8 k7 c7 i c8 syms ls (ls.map dY) _ A.buildH a0 Hn.o.1 bg cp);have H3:=aa (And.intro dd (And.intro bn (And.intro a6 (And.intro a7 (And.intro A A.buildH.bne)))));clear dd cp bn a6 a7 A a0 a1 bg G4 bl;refine fN.o.mono ?_;rintro e w4 ⟨g,gc,rfl,cs,bb⟩;obtain⟨B,hB⟩:∃B,B=lwB syms (ls.map dY):=⟨_,rfl⟩;rw[←hB]at cs;rw[←hB];obtain⟨nB,ct⟩:∃n,n=B.length:=⟨_,rfl⟩;rw[←ct]at cs;rw[←ct];have H4:=aa (And.intro cs (And.intro bb (And.intro hB ct)));clear cs bb hB ct;go_wp2_with fail;obtain⟨dj,br⟩:∃p,p=w4.heap.size:=⟨_,rfl⟩;have bK:=HB.o.2.2.2.2;have fP:=lt_of_block H3.o.2.1;have fX:=lt_of_block H3.o.2.2.1;have f0:=lt_of_block H3.o.2.2.2.1;have el:=H4.o.2.1.size;have F:Upd [] w4 (w4.alloc (.cells #[.slice (some ⟨g,0,none⟩) nB gc] 65 (0,0))):=(ae _).alloc _;have hQ:(w4.alloc (.cells #[.slice (some ⟨g,0,none⟩) nB gc] 65 (0,0))).heap[dj]? =some (.cells #[.slice (some ⟨g,0,none⟩) nB gc] 65 (0,0)):=by rw[br];exact an _
   obtain⟨w5,dk⟩:∃w5,w5=w4.alloc (.cells #[.slice (some ⟨g,0,none⟩) nB gc] 65 (0,0)):=⟨_,rfl⟩;rw[←dk,←br];rw[←dk]at F hQ;have G:Upd [] w3 w5:=H4.o.2.1.then F (by simp);have a4:Upd [] w w5:=H3.o.1.then G (by simp);have bv:=H4.o.1.upd F (by simp);have bw:∀p v T,w5.heap[p]? =some (.cells #[.slice v 0 0] T (0,0))∨w5.heap[p]? =some (.cells #[.bool false] T (0,0))→g≠p:=by
    rintro p v T h rfl;obtain⟨off,cap,e,_,hc⟩:=bv;have f1:0<B.length:=by rw[H4.o.2.2.1];exact List.length_pos_iff.2 H3.o.2.2.2.2.2
    have h0:=hc 0 f1;simp only[bx,aM,eD]at e;obtain⟨⟨-,rfl,-⟩,-⟩:=e;rcases h with h|h
    ·rw[af h 0]at h0;simp at h0
    ·rw[af h 0]at h0;simp at h0
   have bn:=G.blk H3.o.2.1 (by simp);have a6:=G.blk H3.o.2.2.1 (by simp);have a7:=G.blk H3.o.2.2.2.1 (by simp);have ep:=bw O _ _ (.inl a6);have et:=bw p5 none _ (.inr a7);have ev:=HI.o.2.upd a4 (by simp);obtain⟨gs,t1,t2,t3,t4,t5,bA⟩:=H3.o.2.2.2.2.1.idx;rw[←H4.o.2.2.1]at bA;have cE:WsH B syms (ls.map dY) gs t1 t2 t3 t4 t5 ms:=by have A:=H3.o.2.2.2.2.1;exact⟨bA,⟨by have:=A.symLen;omega,fun x hx=>(A.symSmall x hx).2,A.symS⟩,HL.o.2.2.2,fun l hl=>⟨(A.small l hl).1,(A.small l hl).2.1,(A.small l hl).2.2,fun p hp=>A.mem1 hl hp⟩⟩
   have HC:=aa (FA (w:=w5) #[ptr dj 0,ptr p3 0,ptr O 0,ptr p5 0] [O,p5] (by intro b hb;have:=G.size;simp at hb;omega) (fun w2=>∃wb ov,w5.heap.size<wb.heap.size∧w2.heap[O]? =some (.cells #[ov] 22 (0,0))∧jl wb w2 ov (kC (ls.map dY) ms)∧w2.heap[p5]? =some (.cells #[.bool true] 4 (0,0))) (fun wa F f2=>by
    refine(yR wa g dj p3 O p5 mc mb _ B syms (ls.map dY) gs t1 t2 t3 t4 t5 ms cE (bv.upd F (by simp)) (F.blk hQ (by simp)) (F.blk bn (by simp)) (F.blk a6 (by simp)) (F.blk a7 (by simp)) (fun j hj=>?_) ⟨by omega,by omega,by omega,ep,et⟩).mono ?_
    ·obtain⟨q,o,e,h1,h2,h3,h4,h5⟩:=HI.o.2 j hj;have a5:=a4.then F (by simp);exact⟨q,o,e,by simp;omega,bD h2 a5.size,a5.cell (by simp) h3,a5.cell (by simp) h4,a5.cell (by simp) h5⟩
    ·rintro e w2 ⟨rfl,ov,k1,k2,k3,k4⟩;exact⟨rfl,k4,wa,ov,f2,k1,k2,k3⟩))
   clear bK fP fX f0 el F hQ dk bw bn a6 a7 ep et ev bA cE bv br;have Hu:=aa (And.intro a4 G);clear a4 G;refine HC.o.mono ?_;rintro e w7 ⟨rfl,w6,⟨wb,ov,k1,k3,k4,k5⟩,cA,cc⟩;clear HC;obtain⟨ob,oc,rfl⟩:∃ob oc,ov=.slice ob (kC (ls.map dY) ms).length oc:=by
    obtain⟨vs,h1,_⟩:=k4;rcases h1.shape with⟨h1,h2,h3⟩|⟨q,c,h1,_⟩
    ·exact⟨none,0,by rw[h1,h2]⟩
    ·exact⟨_,c,h1⟩
   have eE:O<w5.heap.size∧p5<w5.heap.size∧O≠p5:=by have h1:=lt_of_block H3.o.2.2.1;have h2:=lt_of_block H3.o.2.2.2.1;have h3:=Hu.o.2.size;have h4:=HB.o.2.2.2.2;exact⟨by omega,by omega,by omega⟩
   have bB:=cA.blk k3 (by simp;omega);have bE:=cA.blk k5 (by simp;omega);have dp:=k4.upd cA (by simp;omega);obtain⟨no,eG⟩:∃no,no=(kC (ls.map dY) ms).length:=⟨_,rfl⟩;rw[←eG]at bB dp;have c4:w7.cell? ⟨O,0,none⟩=some (.slice ob no oc):=af bB 0;have c5:w7.cell? ⟨p5,0,none⟩=some (.bool true):=af bE 0;have f4:=ao bB 0;have f5:=ao bE 0;have cF:Upd [] w w7:=Hu.o.1.then cc (fun b hb hl=>by have h4:=HB.o.2.2.2.2;simp at hb;omega);have H7:=aa (And.intro bB (And.intro bE (And.intro dp (And.intro cF (And.intro eE k1)))));have a9:Upd [O] w7 (w7.setCell ⟨O,0,none⟩ (.slice ob no oc)):=((ae w7).mono (by simp)).setCell (by simp) _;have hu:=a9.cell (by simp;omega) c5;have hA:=ao (a9.blk bE (by simp;omega)) 0;clear a9;clear k1 k3 k4 k5 cA cc eE bB bE dp cF eG;go_wp2_with fail;have hw:=H7.o.1;have a9:Upd [O] w7 (w7.setCell ⟨O,0,none⟩ (.slice ob no oc)):=((ae w7).mono (by simp)).setCell (by simp) _;have cL:Upd [O,p5] w7 ((w7.setCell ⟨O,0,none⟩ (.slice ob no oc)).setCell ⟨p5,0,none⟩ (.bool true)):=(a9.mono (by simp)).setCell (by simp) _;have e5:=af (au (a9.blk H7.o.2.1 (by simp;exact fun e=>H7.o.2.2.2.2.1.2.2 e.symm)) 0 (.bool true)) 0;have e4:((w7.setCell ⟨O,0,none⟩ (.slice ob no oc)).setCell ⟨p5,0,none⟩ (.bool true)).cell? ⟨O,0,none⟩=some (.slice ob no oc):=by have h:Upd [p5] (w7.setCell ⟨O,0,none⟩ (.slice ob no oc)) ((w7.setCell ⟨O,0,none⟩ (.slice ob no oc)).setCell ⟨p5,0,none⟩ (.bool true)):=((ae _).mono (by simp)).setCell (by simp) _;exact h.cell (by simp;exact H7.o.2.2.2.2.1.2.2) (af (au hw 0 _) 0)
   refine bodyPost_ret (v:=.tuple #[.slice ob no oc,.bool true]) (by simp[results,results13,go_sem,e4,e5]) rfl ?_;refine⟨_,rfl,(H7.o.2.2.1.upd cL (by have:=H7.o.2.2.2.2;simp;omega)).old (by have:=H7.o.2.2.2.2.2;have:=Hu.o.1.size;omega),H7.o.2.2.2.1.then cL (fun b hb hl=>by have:=HB.o.2.2.2.2;simp at hb;omega)⟩
end Go.Proofs.YtlgefdfflmgocaaGreatDoor
