import Derived.Test.YtlgefdfflmgocaaGreatDoorQ13
import Derived.BigGuard
import Derived.BigCall
import Derived.CellFam
set_option linter.all false
set_option maxRecDepth 100000
set_option maxHeartbeats 4000000
namespace Go.Proofs.YtlgefdfflmgocaaGreatDoor
section
open Go Go.RowKit Xc Go.Proofs.Tryz
variable {w w':World} {k:WK} {r r':WR} {s:WS}
structure LG where
 (cur:Bytes) (vals:List Nat) (o:List (Bytes×List Nat))
def eS(id:Bytes→Nat)(g:LG)(x:Bytes×Bytes×Nat):LG:=
 if x.1=[]then g
 else if x.1≠g.cur∧g.vals≠[]then⟨x.1,[id x.2.1],g.o++[(g.cur,g.vals)]⟩
 else⟨x.1,g.vals++[id x.2.1],g.o⟩
def fC(id:Bytes→Nat)(es:List (Bytes×Bytes×Nat)):LG:=es.foldl (eS id) ⟨[],[],[]⟩
def jZ(g:LG):List (Bytes×List Nat):=if g.vals=[]then g.o else g.o++[(g.cur,g.vals)]
theorem vV(id:Bytes→Nat)(es:List (Bytes×Bytes×Nat))(j:Nat)(h:j<es.length):fC id (es.take (j+1))=eS id (fC id (es.take j)) es[j]:=by rw[ax h,fC,ff];rfl
def liF:Bytes→List (Bytes×List Nat)→Bytes
 |F,[]=>F
 |F,g::gs=>liF (F++pad 4 F.length++sec (liB g.2)) gs
def liP:Bytes→List (Bytes×List Nat)→List (ByteArray×Nat)
 |_,[]=>[]
 |F,g::gs=>(str g.1,(F++pad 4 F.length).length)::liP (F++pad 4 F.length++sec (liB g.2)) gs
theorem Ar(F:Bytes)(gs:List (Bytes×List Nat))(g:Bytes×List Nat):liF F (gs++[g])=liF F gs++pad 4 (liF F gs).length++sec (liB g.2):=by
 induction gs generalizing F with
 |nil=>rfl
 |cons x gs d=>exact d _
theorem As(F:Bytes)(gs:List (Bytes×List Nat))(g:Bytes×List Nat):liP F (gs++[g])=liP F gs++[(str g.1,(liF F gs++pad 4 (liF F gs).length).length)]:=by
 induction gs generalizing F with
 |nil=>rfl
 |cons x gs d=>exact congrArg (_::·) (d _)
def lgN(l:List (Bytes×List Nat)):Nat:=(l.map fun g=>g.2.length).sum
theorem Aq(id:Bytes→Nat)(g:LG)(x:Bytes×Bytes×Nat):lgN (eS id g x).o+(eS id g x).vals.length≤lgN g.o+g.vals.length+1:=by
 unfold eS;split
 ·omega
 ·split
  ·simp[lgN]
  ·simp only[ab,aj,ar];omega
theorem sI(id:Bytes→Nat)(es:List (Bytes×Bytes×Nat)):lgN (fC id es).o+(fC id es).vals.length≤es.length:=by
 have h:∀(es:List (Bytes×Bytes×Nat)) (g:LG),lgN (es.foldl (eS id) g).o+(es.foldl (eS id) g).vals.length≤lgN g.o+g.vals.length+es.length:=by
  intro es;induction es with
  |nil=>intro g;simp
  |cons x es d=>
   intro g;have h1:=d (eS id g x);have z:=Aq id g x;simp only[dg,aj]at*;omega
 have:=h es ⟨[],[],[]⟩;simpa[fC,lgN]using this
theorem vW(id:Bytes→Nat)(g:LG)(x:Bytes×Bytes×Nat):(eS id g x).o.length≤g.o.length+1:=by
 unfold eS;split
 ·omega
 ·split<;>simp
theorem kA(id:Bytes→Nat)(es:List (Bytes×Bytes×Nat)):(fC id es).o.length≤es.length:=by
 have h:∀(es:List (Bytes×Bytes×Nat)) (g:LG),(es.foldl (eS id) g).o.length≤g.o.length+es.length:=by
  intro es;induction es with
  |nil=>intro g;simp
  |cons x es d=>
   intro g;have h1:=d (eS id g x);have z:=vW id g x;simp only[dg,aj]at*;omega
 have:=h es ⟨[],[],[]⟩;simpa[fC]using this
theorem pY(id:Bytes→Nat)(es:List (Bytes×Bytes×Nat)):∀v∈(fC id es).vals,∃x∈es,x.1≠[]∧v=id x.2.1:=by
 have h:∀(es:List (Bytes×Bytes×Nat)) (g:LG),∀v∈(es.foldl (eS id) g).vals,v∈g.vals∨∃x∈es,x.1≠[]∧v=id x.2.1:=by
  intro es;induction es with
  |nil=>intro g v hv;exact .inl hv
  |cons x es z=>
   intro g v hv;rw[dg]at hv;rcases z _ v hv with h1|⟨y,A,D⟩
   ·unfold eS at h1;split at h1
    ·exact .inl h1
    ·rename_i d;split at h1
     ·simp only[ag]at h1;exact .inr ⟨x,by simp,d,h1⟩
     ·simp only[aA,ag]at h1;rcases h1 with h1|h1
      ·exact .inl h1
      ·exact .inr ⟨x,by simp,d,h1⟩
   ·exact .inr ⟨y,by simp[A],D⟩
 intro v hv;rcases h es ⟨[],[],[]⟩ v hv with h1|h1
 ·cases h1
 ·exact h1
theorem sK(gs:List (Bytes×List Nat)):∀F:Bytes,(liF F gs).length≤F.length+30*gs.length+4*lgN gs:=by
 induction gs with
 |nil=>intro F;simp[liF,lgN]
 |cons g gs d=>
  intro F;have h1:=d (F++pad 4 F.length++sec (liB g.2));have A:=jE 4 F.length (by decide);have z:=cd;simp only[liF,ab,lgN,aN,List.sum_cons,aj,dx,liB,z,gq]at*;omega
theorem pZ(gs:List (Bytes×List Nat)):∀F:Bytes,F.length≤(liF F gs).length:=by
 induction gs with
 |nil=>intro F;exact aw _
 |cons g gs d=>
  intro F;refine aW ?_ (d _);simp only[ab];omega
theorem nG(gs:List (Bytes×List Nat)):∀F:Bytes,(liP F gs).length=gs.length:=by
 induction gs with
 |nil=>intro F;rfl
 |cons g gs d=>intro F;simp only[liP,aj,d]
structure PG(w:World)(k:WK)(r:WR)(i:Nat)(p g:Nat)(rest:Bytes):Prop where
 dec:cm w p g rest
 op:∀i:Nat,(wl k r)[i]?≠some (some p)
 og:(wl k r)[i]? =some (some g)
theorem PG.lt{i p g:Nat}{rest:Bytes}(h:PG w k r i p g rest):p<w.heap.size:=by obtain⟨v,hb,_⟩:=h.dec.blk;exact lt_of_block hb
theorem PG.nextJ{J:List Nat}{n i p g:Nat}{rest:Bytes}(h:PG w k r i p g rest)(hI:WI w k r s)(hT:WT w k r n w' r')(hJ:WJ w k r J w' r')(d:i∉J):PG w' k r' i p g rest:=
 ⟨h.dec.upd hJ.upd (fw h.op) (nin hI.dis (i:=i) h.og d),hT.o h.lt h.op,(hJ.stab i d).trans h.og⟩
theorem PG.new{i p g:Nat}{rest:Bytes}{L:List Nat}(h:PG w k r i p g rest)(hu:Upd L w w')(d:p∉L)(hg:g∉L):PG w' k r i p g rest:=⟨h.dec.upd hu d hg,h.op,h.og⟩
theorem PG.keys{i p g:Nat}{rest:Bytes}(h:PG w k r i p g rest)(hI:WI w k r s):∀x∈s.li,x.1≠p:=by intro x d e;have h1:=(hI.keys x d).1;obtain⟨v,hb,hv⟩:=h.dec.blk;obtain⟨o,c,rfl,_⟩:=hv;rw[e,af hb]at h1;simp at h1
theorem PG.step{i p g:Nat}{rest rest':Bytes}(h:PG w k r i p g rest)(hI:WI w k r s)(d:cm w' p g rest')(hu:Upd [p] w w'):WI w' k r s∧PG w' k r i p g rest':=
 ⟨hI.other hu (fun b hb=>by simp only[ag]at hb;subst hb;exact⟨h.op,h.keys hI⟩),d,h.op,h.og⟩
structure gR(w:World)(v:Value)(q:Nat)(xs:List Nat):Prop where
 own:w.ownsRow 0 224 1 v xs.length (xs.map fun x=>Value.int .u32 (x:Nat))
 blk:v.ownBlock=some q
theorem gR.upd{L:List Nat}{v:Value}{q:Nat}{xs:List Nat}(h:gR w v q xs)(hu:Upd L w w')(hq:q∉L):gR w' v q xs:=
 ⟨hu.row h.own (by rw[h.blk];rintro _ ⟨⟩;exact hq),h.blk⟩
theorem gR.shape{v:Value}{q:Nat}{xs:List Nat}(h:gR w v q xs):∃cap,v=.slice (some ⟨q,0,none⟩) xs.length cap:=by
 rcases h.own.2 with⟨rfl,_⟩|⟨g,cap,cur,rfl,_⟩
 ·exact absurd h.blk (by simp[Value.ownBlock])
 ·have:=h.blk;cases this;exact⟨cap,rfl⟩
theorem gR.at_{v:Value}{q:Nat}{xs:List Nat}(h:gR w v q xs):nr w v q xs:=by obtain⟨cap,rfl⟩:=h.shape;refine⟨0,cap,rfl,(h.own.lt q rfl).2,fun j d=>?_⟩;have:=h.own.cells (g:=q) rfl j (.int .u32 (xs[j]:Nat)) (by simp[d]);rw[aO]at this;exact this
theorem gR.cut{q n cap:Nat}{xs:List Nat}(h:gR w (.slice (some ⟨q,0,none⟩) n cap) q xs):gR w (.slice (some ⟨q,0,none⟩) 0 cap) q []:=by
 refine⟨⟨rfl,.inr ?_⟩,rfl⟩;rcases h.own.2 with⟨e,_⟩|⟨g,cap',cur,e,h1,d,z,h4,h5,A⟩
 ·cases e
 ·cases e;exact⟨q,cap,cur,rfl,h1,d,ay _,h4,h5,by simp⟩
theorem gR.lt{v:Value}{q:Nat}{xs:List Nat}(h:gR w v q xs):q<w.heap.size:=(h.own.lt q h.blk).2
theorem gR.made{q cap:Nat}(h:w.heap[q]? =some (.cells (Array.replicate cap (.int .u32 0)) 224 (0,0)))(d:cap≤maxLen):gR w (.slice (some ⟨q,0,none⟩) 0 cap) q []:=
 ⟨⟨rfl,.inr ⟨q,cap,_,rfl,ay _,h,ay _,d,by simp,by simp⟩⟩,rfl⟩
theorem Tryz.infoU32:(Tryz.prog.info? 224).map (fun i=>(i.zero,i.size,i.bytes))=some (some (.int .u32 0),1,4):=by kernel_rfl
theorem ta{w0:World}{v:Value}{q:Nat}{xs:List Nat}(h:gR w0 v q xs)(hu:Upd [] w0 w)(x:Nat)(e:Nat)(he:w.heap[e]? =some (.cells #[.int .u32 (x:Nat)] 224 (0,0)))(hl:xs.length<1000000):
 ∃g' cap' w2,Hid ((Builtin.append_ #[372,372] 372 #[v,.slice (some ⟨e,0,none⟩) 1 1]).run prog w=.ok (.slice (some ⟨g',0,none⟩) (xs.length+1) cap') w2)∧
  Hid (gR w2 (.slice (some ⟨g',0,none⟩) (xs.length+1) cap') g' (xs++[x]))∧Hid (Upd [q] w0 w2)∧Hid (g'=q∨w0.heap.size≤g'):=by
 obtain⟨i0,G,O,U,V⟩:=info_parts Tryz.infoU32;have z:=hu.row h.own (by simp);have d:∀j u,[Value.int .u32 (x:Nat)][j]? =some u→w.cell? ((⟨e,0,none⟩:Addr).add j)=some u:=by intro j u hu;rw[aO,af he,aK];simpa using hu
 obtain⟨g',cap',w2,A,D,F,hg⟩:=dZ (P:=prog) w 372 372 224 i0 (.int .u32 0) 1 4 underlying372 G O U V rfl (by decide) v xs.length _ z ⟨e,0,none⟩ 1 1 _ rfl d (by simp[Value.oneCell']) (by unfold maxLen;omega) (by omega) (by omega);rw[h.blk]at F hg;refine⟨g',cap',w2,aa A,aa ⟨?_,rfl⟩,aa ((hu.mono (by simp)).then F (fun i G _=>by simpa using G)),aa ?_⟩
 ·rw[ab,aX];exact D
 ·rcases hg with hg|hg
  ·cases hg;exact .inl rfl
  ·have:=hu.size;exact .inr (by omega)
def ph(w:World)(v:Value)(g:Nat)(l:Bytes):Prop:=(l=[]∧∃c cap,v=.slice (some ⟨c,0,none⟩) 0 cap∧c<w.heap.size)∨RdG w v g l
theorem ph.upd{L:List Nat}{v:Value}{g:Nat}{l:Bytes}(h:ph w v g l)(hu:Upd L w w')(hg:g∉L):ph w' v g l:=by
 rcases h with⟨e,c,cap,h1,d⟩|h
 ·exact .inl ⟨e,c,cap,h1,hu.lt d⟩
 ·exact .inr (h.upd hu hg)
theorem ph.some{v:Value}{g:Nat}{l:Bytes}(h:ph w v g l):∃c,RdG w v c l:=by
 rcases h with⟨rfl,c,cap,h1,d⟩|h
 ·exact⟨c,0,cap,h1,⟨ay _,d⟩,fun j z=>by simp at z⟩
 ·exact⟨g,h⟩
structure LIR(w:World)(k:WK)(r:WR)(s:WS)(n p g:Nat)(out:List (Bytes×List Nat))(vals:List Nat)(rest:Bytes)(wr:World)(r':WR)(li':List (Nat×ByteArray×Nat))(b1:Bytes)(cr q:Nat)(v:Value):Prop where
 wi:WI wr k r' {s with bF:=liF s.bF out,li:=li',b1:=b1,crc:=cr}
 wt:WT w k r n wr r'
 pg:PG wr k r' 10 p g rest
 li:li'.map (·.2)=s.li.map (·.2)++liP s.bF out
 row:gR wr v q vals
 oq:∀i:Nat,(wl k r')[i]?≠some (some q)
 nq:q≠p
 kq:∀x∈li',x.1≠q
 wq:w.heap.size≤q
 wp:w.heap.size≤p
section
variable {n p g q cr:Nat} {out:List (Bytes×List Nat)} {vals:List Nat} {rest rest' b1:Bytes} {wr w2:World} {li':List (Nat×ByteArray×Nat)} {v:Value}
theorem LIR.gp(h:LIR w k r s n p g out vals rest wr r' li' b1 cr q v):g≠p:=fun e=>h.pg.op 10 (e▸h.pg.og)
theorem LIR.gq(h:LIR w k r s n p g out vals rest wr r' li' b1 cr q v):g≠q:=fun e=>h.oq 10 (e▸h.pg.og)
theorem LIR.step(h:LIR w k r s n p g out vals rest wr r' li' b1 cr q v)(d:WI w k r s)(z:cm w2 p g rest')(hu:Upd [p] wr w2):LIR w k r s n p g out vals rest' w2 r' li' b1 cr q v:=by obtain⟨hI,hG⟩:=h.pg.step h.wi z hu;exact⟨hI,WT.later d h.wt hu h.wp,hG,h.li,h.row.upd hu (by simpa using h.nq),h.oq,h.nq,h.kq,h.wq,h.wp⟩
theorem LIR.turn{q':Nat}{v':Value}{d:List Nat}(h:LIR w k r s n p g out vals rest wr r' li' b1 cr q v)(z:WI w k r s)(hu:Upd [q] wr w2)(hr:gR w2 v' q' d)(hq:q'=q∨wr.heap.size≤q'):LIR w k r s n p g out d rest w2 r' li' b1 cr q' v':=by
 have hI:=h.wi.other hu (fun b hb=>by simp only[ag]at hb;subst hb;exact⟨h.oq,h.kq⟩);have D:=h.wt.upd.size;have hpl:=h.pg.lt;refine⟨hI,WT.later z h.wt hu h.wq,h.pg.new hu (by simpa using aF h.nq) (by simpa using h.gq),h.li,hr,?_,?_,?_,?_,h.wp⟩
 ·rcases hq with rfl|hq
  ·exact h.oq
  ·exact h.wi.out_of hq
 ·rcases hq with rfl|hq
  ·exact h.nq
  ·omega
 ·rcases hq with rfl|hq
  ·exact h.kq
  ·intro x A e;have h1:x.1<wr.heap.size:=ez (h.wi.keys x A).1;omega
 ·rcases hq with rfl|hq
  ·exact h.wq
  ·omega
theorem LIR.wrote{G d:Nat}{z cur:Bytes}{N cap:Nat}(h:LIR w k r s n p g out vals rest wr r' li' b1 cr q (.slice (some ⟨q,0,none⟩) N cap))(O:WI w k r s)(G5:vals≠[])
 (hP:WPL wr k r' n (liS {s with bF:=liF s.bF out,li:=li',b1:=b1,crc:=cr} G (str cur) vals z d) w2):
 ∃A D,LIR w k r s n p g (out++[(cur,vals)]) [] rest w2 A D z d q (.slice (some ⟨q,0,none⟩) 0 cap)∧WJ wr k r' fL w2 A:=by
 obtain⟨A,hI,hT,hJ⟩:=hP;have G3:=h.row.upd hJ.upd (fw h.oq);have F:w2.cell? ⟨q,0,none⟩=some (.int .u32 (vals[0]'(List.length_pos_iff.2 G5):Nat)):=by obtain⟨o,c,e,_,F⟩:=G3.at_;cases e;exact F 0 (List.length_pos_iff.2 G5)
 refine⟨A,li'++[(G,str cur,(liF s.bF out++pad 4 (liF s.bF out).length).length)],⟨hI.cast (by simp only[liS,Ar]),ak O h.wt hT,h.pg.nextJ h.wi hT hJ (by decide),?_,G3.cut,hT.o h.row.lt h.oq,h.nq,?_,h.wq,h.wp⟩,hJ⟩
 ·simp only[aX,h.li,As,al,aN,cQ]
 ·intro x U e;have:=(hI.keys x U).1;rw[e,F]at this;simp at this
end
end
open Go Go.RowKit Xc Go.Sort Go.Proofs.Tryz
attribute [local go_sem ↓] Go.wp_at_zero Go.wp_at_succ
theorem Cj(x:Int)(w:World):Calls prog 253 #[.int .u32 x] w fun e w'=>e=.returned (.bool false)∧w=w':=by
 go_enter func253,ntmps253
 go_wp2_with fail;go_ret;exact⟨rfl,rfl⟩
theorem Ap(x y:Int)(w:World):Calls prog 244 #[.int .u32 x,.int .u32 y] w fun e w'=>e=.returned (.bool (ltInt x y))∧w'=w:=by
 go_enter func244,ntmps244
 go_wp2_with (go_at_call 253;refine(Cj _ _).mono ?_;rintro e w1 ⟨rfl,rfl⟩);go_ret;exact⟨rfl,rfl⟩
theorem ye(blk off cap a b:Nat)(d:Array Int)(w:World)(W:Holds (Value.int .u32) w blk off d)(If:a≤b)(hb:b≤d.size)(a4:d.size<4611686018427387904):
 Calls prog 238 #[.slice (some ⟨blk,off,none⟩) d.size cap,.int .i64 a,.int .i64 b] w fun e w'=>
  e=.returned (.tuple #[])∧∃n,w'=putRow (Value.int .u32) (Sort.ahead w n) blk off (Sort.insertionSort ltInt d a b):=by
 go_enter func238,ntmps238
 go_wp2
 go_loopw [6] (fun vi wr=>∃(i n:Nat) (D:Array Int),vi=.int .i64 i∧a<i∧i≤b+1∧D.size=d.size∧wr=putRow (Value.int .u32) (Sort.ahead w n) blk off D∧
  insOuter ltInt a b i D=insOuter ltInt a b (a+1) d) (fun vi _=>b+1-(intOf vi).toNat)
 case atStart=>exact⟨a+1,0,d,by go_num,by omega,by omega,rfl,(putRow_self _ _ _ _ _ W).symm,rfl⟩
 case round=>
  obtain⟨i,n,D,rfl,a5,a6,ad,a7,hO⟩:=hrel;have HO:Hid (insOuter ltInt a b i D=insOuter ltInt a b (a+1) d):=hO;clear hO;go_wp2
  ·
   go_loopw [7] (fun vj a0=>∃(j m:Nat) (z:Array Int),vj=.int .i64 j∧a≤j∧j≤i∧z.size=d.size∧a0=putRow (Value.int .u32) (Sort.ahead w m) blk off z∧
    insInner ltInt a j z=insInner ltInt a i D) (fun vj _=>(intOf vj).toNat)
   case atStart=>exact⟨i,n,D,rfl,by omega,aw _,ad,rfl,rfl⟩
   case round=>
    obtain⟨j,m,z,rfl,a9,bb,F,A,hI⟩:=hrel;have a1:i<b:=by assumption
    obtain⟨G,hG⟩:∃G:Nat→Int,∀t,G t=z[t]! :=⟨fun t=>z[t]!,fun _=>rfl⟩;have bd:∀t,t<d.size→wr.cell? ⟨blk,off+t,none⟩=some (.int .u32 (G t)):=fun t ht=>by rw[A,hG];exact cell?_putRow _ _ _ _ d z (holds_ahead _ _ _ _ _ _ W) F t (by omega)
    have be:∀t,t<d.size→wr.frozen? ⟨blk,off+t,none⟩=false:=fun t ht=>by rw[A,frozen?_putRow];exact((holds_ahead _ _ m _ _ _ W) t ht).2
    have HW:Hid (wr=putRow (Value.int .u32) (Sort.ahead w m) blk off z):=A;have U:Hid (∀t,G t=z[t]!):=hG;have HI:Hid (insInner ltInt a j z=insInner ltInt a i D):=hI;clear A hG hI W
    have out:(j≤a∨ltInt z[j]! z[j-1]! =false)→∀q,∃i' n' O,Value.int .i64 ((i:Int)+1)=.int .i64 (i':Nat)∧a<i'∧i'≤b+1∧O.size=d.size∧
     wr.drewN q=putRow (Value.int .u32) (Sort.ahead w n') blk off O∧insOuter ltInt a b i' O=insOuter ltInt a b (a+1) d:=fun hs q=>
     ⟨i+1,m+q,z,by go_num,by omega,by omega,F,by rw[HW.o];exact nO _ _ _ _ _ _ _,
       by rw[←HO.o,tX _ _ _ _ _ a1,←HI.o,qR _ _ _ _ hs]⟩
    have V:Hid _:=out;clear out;go_wp2
    by_cases a2:a<j
    ·go_quiet (first|(go_at_call 244;refine Calls.quiet_of_same (Ap _ _ _)))
     go_wp2
     ·have hl:ltInt (G j) (G (j-1))=true:=by assumption
      go_region
      all_goals go_wp2
      go_roundw
      case rel=>
       refine⟨j-1,m+(nq+1),swp z j (j-1),by congr 1;omega,by omega,by omega,by rw[size_swp];exact F,?_,?_⟩
       ·rw[HW.o,U.o,U.o];exact uO _ w m (nq+1) blk off z j (j-1) (by omega) (by omega)
       ·rw[←HI.o,tW ltInt a j z a2 (by rw[←U.o,←U.o];exact hl)]
      case measure=>simp[intOf];omega
     ·have hl:ltInt (G j) (G (j-1))=false:=by assumption
      go_roundw
      case rel=>exact V.o (Or.inr (by rw[←U.o,←U.o];exact hl)) nq
      case measure=>simp[intOf];omega
    ·go_quiet (first|(go_at_call 244;refine Calls.quiet_of_same (Ap _ _ _)))
     go_wp2
     go_roundw
     case rel=>exact V.o (Or.inl (by omega)) nq
     case measure=>simp[intOf];omega
  ·have a3:¬i<b:=by assumption
   go_end0
   exact⟨rfl,n,by unfold Sort.insertionSort;rw[←HO.o,qS _ _ _ _ _ a3]⟩
theorem Ft(q cap n:Nat)(lim:Int)(d:Array Int)(w:World)(z:Holds (Value.int .u32) w q 0 d)(hn:n=d.size)(A:n≤12):
 Calls prog 225 #[.slice (some ⟨q,0,none⟩) n cap,.int .i64 0,.int .i64 n,.int .i64 lim] w fun e w'=>
  e=.returned (.tuple #[])∧∃m,w'=putRow (Value.int .u32) (Sort.ahead w m) q 0 (Sort.insertionSort ltInt d 0 n):=by
 have hI:=ye q 0 cap 0 n d w z (ay _) (by omega) (by omega);rw[←hn]at hI;have D:=aa hI;clear hI z hn;go_enter func225,ntmps225
 go_wp2_with fail;refine wp_loop_rounds 1 ?_;rw[rounds_succ];go_wp2_with fail;refine D.o.mono ?_;rintro e w1 ⟨rfl,m,rfl⟩;go_wp2_with fail;exact bodyPost_ret (v:=.tuple #[]) (results_none rfl _ _ _) rfl ⟨rfl,m,rfl⟩
theorem Dy{v:Value}{q:Nat}{xs:List Nat}(w:World)(h:gR w v q xs)(z:xs.length≤12):
 Calls prog 205 #[v] w fun e w'=>e=.returned (.tuple #[])∧∃ys,gR w' v q ys∧ys.Perm xs∧ys.Pairwise (· ≤·)∧Upd [q] w w':=by
 obtain⟨cap,rfl⟩:=h.shape;obtain⟨n,hn⟩:∃n,n=xs.length:=⟨_,rfl⟩;have F:Holds (Value.int .u32) w q 0 (xs.map Int.ofNat).toArray:=nD _ h.own _ (by simp) (by simp[bT]);obtain⟨ys,A,d,hs⟩:=tY xs;have hP:∀lim:Int,Calls prog 225 #[.slice (some ⟨q,0,none⟩) n cap,.int .i64 0,.int .i64 n,.int .i64 lim] w fun e w'=>e=.returned (.tuple #[])∧∃m,w'=putRow (Value.int .u32) (Sort.ahead w m) q 0 (Sort.insertionSort ltInt (xs.map Int.ofNat).toArray 0 xs.length):=fun lim=>by have:=Ft q cap n lim (xs.map Int.ofNat).toArray w F (by simp[hn]) (by omega);rw[hn]at this⊢;exact this
 have G:∀m,gR (putRow (Value.int .u32) (Sort.ahead w m) q 0 (Sort.insertionSort ltInt (xs.map Int.ofNat).toArray 0 xs.length)) (.slice (some ⟨q,0,none⟩) xs.length cap) q ys:=fun m=>by
  have D:(Sort.insertionSort ltInt (xs.map Int.ofNat).toArray 0 xs.length).size=xs.length:=by rw[←gC,A,aB,d.length_eq]
  have:=lJ (Value.int .u32) h.own _ D m;rw[A,bT]at this;refine⟨?_,rfl⟩;rw[d.length_eq];exact this
 have O:=aa hP;have U:=aa G;have V:=aa (And.intro d hs);have W:n≤12:=by omega
 rw[←hn]at O U⊢;clear hP G d hs F A h z hn;go_enter func205,ntmps205
 go_wp2_with (first
  |(go_at_call 45;refine(Tryz.bits_Len _ _ (by omega) (by omega)).mono ?_;rintro e w1 ⟨rfl,rfl⟩)
  |(go_at_call 225;refine(O.o _).mono ?_;rintro e w1 ⟨rfl,m,rfl⟩))
 go_end0
 exact⟨rfl,ys,U.o m,V.o.1,V.o.2,qx _ _ _ _⟩
theorem sm{q cap:Nat}{ss:List Bytes}(w:World)(h:w.ownsRow 0 9 1 (.slice (some ⟨q,0,none⟩) ss.length cap) ss.length (ss.map fun x=>Value.string (str x)))(hl:ss.length<1000000):
 Calls prog 20 #[.slice (some ⟨q,0,none⟩) ss.length cap] w fun e w'=>e=.returned (.tuple #[])∧w'.ownsRow 0 9 1 (.slice (some ⟨q,0,none⟩) ss.length cap) ss.length ((ss.mergeSort fun x y=>decide (x≤y)).map fun x=>Value.string (str x))∧Upd [q] w w':=by
 have z:Holds encStr w q 0 ss.toArray:=nD encStr h _ (by simp) (by simp);refine(Tryz.slices_Sort_string q 0 cap ss w z (h.lt q rfl).2 (by omega)).mono ?_;rintro e w' ⟨he,n,os,rfl⟩;have d:(ss.mergeSort fun x y=>decide (x≤y)).toArray.size=ss.length:=by simp
 have h1:=lJ encStr h _ d n;have A:=qx encStr (w:=w) q n (ss.mergeSort fun x y=>decide (x≤y)).toArray;exact⟨he,(uT os).row h1 (by simp),A.then (uT os) (by simp)⟩
end Go.Proofs.YtlgefdfflmgocaaGreatDoor
namespace Xc
open Go Go.RowKit
theorem qi{α:Type}[BEq α][LawfulBEq α]:∀{a b:List α},a.Nodup→(∀x∈a,x∈b)→∃c,b.Perm (a++c):=by
 intro a;induction a with
 |nil=>intro b _ _;exact⟨b,List.Perm.refl _⟩
 |cons x a A=>
  intro b hn hs;obtain⟨D,d⟩:=List.nodup_cons.1 hn;have hm:x∈b:=hs x (by simp);obtain⟨c,F⟩:=A (b:=b.erase x) d (fun y z=>(List.mem_erase_of_ne (by rintro rfl;exact D z)).2 (hs y (by simp[z])));exact⟨c,(List.perm_cons_erase hm).trans (by simpa using F)⟩
theorem iR{α:Type}[BEq α][LawfulBEq α]{a b:List α}(hn:a.Nodup)(hs:∀x∈a,x∈b):a.length≤b.length:=by obtain⟨c,d⟩:=qi hn hs;rw[d.length_eq,ab];omega
theorem qY{α:Type}[BEq α][LawfulBEq α]{a b:List α}(hn:a.Nodup)(hs:∀x∈a,x∈b)(hl:b.length≤a.length):a.Perm b:=by obtain⟨c,d⟩:=qi hn hs;have h1:=d.length_eq;rw[ab]at h1;have:c=[]:=dh (by omega);subst this;rw[bk]at d;exact d.symm
section
variable {κ:Type} {kv:κ→Value} {P:Program} {w:World} {bm r:Nat} {l:List (κ×Value)} {done:List Nat}
structure MIt(kv:κ→Value)(w:World)(bm r:Nat)(l:List (κ×Value))(done:List Nat):Prop where
 map:w.heap[bm]? =some (bI kv l)
 it:∃c,l.length≤c∧w.heap[r]? =some (.mapIter (some bm) l.length done.toArray c)
 nodup:done.Nodup
 lt:∀j∈done,j<l.length
theorem MIt.upd{L:List Nat}{w':World}(h:MIt kv w bm r l done)(hu:Upd L w w')(h1:bm∉L)(d:r∉L):MIt kv w' bm r l done:=
 ⟨hu.blk h.map h1,by obtain⟨c,z,hr⟩:=h.it;exact⟨c,z,hu.blk hr d⟩,h.nodup,h.lt⟩
theorem MIt.ne(h:MIt kv w bm r l done):r≠bm:=by intro e;obtain⟨c,_,hr⟩:=h.it;rw[e,h.map]at hr;cases hr
def g6(w:World)(r n:Nat):Nat:=match w.heap[r]?with|some (.mapIter _ _ seen _)=>n-seen.size|_=>0
theorem MIt.left(h:MIt kv w bm r l done)(n:Nat):g6 w r n=n-done.length:=by obtain⟨c,_,hr⟩:=h.it;simp[g6,hr]
def jg(l:List (κ×Value))(done:List Nat):List κ:=done.filterMap fun j=>(l[j]?).map (·.1)
theorem oG{j:Nat}{a:κ}{v:Value}(h:l[j]? =some (a,v)):jg l (done++[j])=jg l done++[a]:=by simp[jg,List.filterMap_append,h]
theorem oZ(l:List (κ×Value)):(List.range l.length).filterMap (fun j=>(l[j]?).map (·.1))=l.map (·.1):=by
 have h:∀(a b:List (κ×Value)),(List.range' a.length b.length).filterMap (fun j=>((a++b)[j]?).map (·.1))=b.map (·.1):=by
  intro a b;induction b generalizing a with
  |nil=>rfl
  |cons x b d=>
   have:=d (a++[x]);simp only[ab,aj,ar,al,dn,bz]at this;rw[aj,List.range'_succ,List.filterMap_cons,bC (aw _),iN];simp only[gH,gh,aN];rw[this]
 have:=h [] l;rw[List.range_eq_range'];exact this
theorem MIt.all(h:MIt kv w bm r l done)(hl:done.length=l.length):(jg l done).Perm (l.map (·.1)):=by
 have d:done.Perm (List.range l.length):=by refine qY h.nodup (fun j z=>List.mem_range.2 (h.lt j z)) ?_;rw[List.length_range,hl];exact aw _
 have:=d.filterMap (fun j=>(l[j]?).map (·.1));rw[oZ]at this;exact this
theorem MIt.keysLen(h:MIt kv w bm r l done):(jg l done).length=done.length:=by
 have:∀d:List Nat,(∀j∈d,j<l.length)→(jg l d).length=d.length:=by
  intro d;induction d with
  |nil=>intro _;rfl
  |cons j d A=>
   intro z;have D:=z j (by simp);have:=A (fun i F=>z i (by simp[F]));simp only[jg,List.filterMap_cons,az D,gh,aj]at this⊢;exact congrArg (· +1) this
 exact this done h.lt
theorem iA{t k e:TypeId}(d:P.underlying t=some (.map k e))(hb:w.heap[bm]? =some (bI kv l)):
 ∃w',(Instr.range t (.map (some bm))).run P w=.ok (.pointer (some ⟨w.heap.size,0,none⟩)) w'∧MIt kv w' bm w.heap.size l []∧Upd [] w w':=by
 refine⟨_,run_range_map w t k e bm _ _ d hb,⟨?_,⟨l.length,aw _,an _⟩,by simp,by simp⟩,(ae w).alloc _⟩;rw[eB _ (lt_of_block hb)];exact hb
theorem rz(l:List (κ×Value))(e:MapEntry)(h:e∈l.zipIdx.map (ent kv)):∃j a v,l[j]? =some (a,v)∧e={key:=kv a,val:=v,born:=j}:=by simp only[bU]at h;obtain⟨⟨x,j⟩,d,rfl⟩:=h;have:=List.mem_zipIdx_iff_getElem?.1 d;exact⟨j,x.1,x.2,this,rfl⟩
theorem zE(l:List (κ×Value))(n:Nat):((l.zipIdx n).map (ent kv)).map (·.born)=List.range' n l.length:=by
 induction l generalizing n with
 |nil=>rfl
 |cons x l d=>simp only[List.zipIdx_cons,aN,d,aj,List.range'_succ];rfl
theorem MIt.next(h:MIt kv w bm r l done)(ty:TypeId):
 (done.length=l.length∧(Instr.next (.pointer (some ⟨r,0,none⟩)) false ty).run P w=.ok (.tuple #[.bool false]) w)∨
 ∃j a v w',l[j]? =some (a,v)∧j∉done∧done.length<l.length∧(Instr.next (.pointer (some ⟨r,0,none⟩)) false ty).run P w=.ok (.tuple #[.bool true,kv a,v]) w'∧
  MIt kv w' bm r l (done++[j])∧Upd [r] w w'∧(Instr.entry (.pointer (some ⟨r,0,none⟩))).run P w'=.ok (.tuple #[kv a,v]) w':=by
 obtain⟨c,hc,hr⟩:=h.it;have hb:=h.map;have O:∀x∈((l.zipIdx.map (ent kv)).toArray).toList,x.born<l.length:=by intro x W;obtain⟨j,a,v,d,rfl⟩:=rz l x (by simpa using W);exact(List.getElem?_eq_some_iff.1 d).1
 have ad:∀j<l.length,∃e∈(l.zipIdx.map (ent kv)),e.born=j:=by intro j d;refine⟨ent kv (l[j],j),List.mem_map.2 ⟨(l[j],j),?_,rfl⟩,rfl⟩;exact List.mem_zipIdx_iff_getElem?.2 (by simp[d])
 rcases run_next_at (P:=P) w ty r bm l.length c done.toArray _ l.length hr hb O hc with⟨h0,z⟩|⟨e,he,w1,G,z⟩
 ·refine .inl ⟨?_,z⟩;have U:∀j<l.length,j∈done:=by
   intro j d;obtain⟨e,he,rfl⟩:=ad j d;by_cases hm:e.born∈done
   ·exact hm
   ·exfalso;have:e∈(leftOf ((l.zipIdx.map (ent kv)).toArray) done.toArray).toList:=by simp only[leftOf,Array.toList_filter,eO];exact⟨by simpa using he,by simpa using hm⟩
    have h1:0<(leftOf ((l.zipIdx.map (ent kv)).toArray) done.toArray).toList.length:=List.length_pos_of_mem this;simp only[gC]at h1;omega
  have h1:(List.range l.length).length≤done.length:=iR List.nodup_range (fun j d=>U j (by simpa using d));have h2:done.length≤(List.range l.length).length:=iR h.nodup (fun j d=>List.mem_range.2 (h.lt j d));rw[List.length_range]at h1 h2;omega
 ·obtain⟨hm,hns⟩:e∈(l.zipIdx.map (ent kv))∧e.born∉done:=by simp only[leftOf,Array.toList_filter,eO]at he;exact⟨by simpa using he.1,by simpa using he.2⟩
  obtain⟨j,a,v,d,rfl⟩:=rz l e hm;have V:=(List.getElem?_eq_some_iff.1 d).1;have a0:w1.heap[r]? =some (.mapIter (some bm) l.length done.toArray c):=by rcases G with rfl|rfl<;>exact hr
  have hb1:w1.heap[bm]? =some (bI kv l):=by rcases G with rfl|rfl<;>exact hb
  have A:Upd [r] w w1:=by
   rcases G with rfl|rfl
   ·exact(ae _).mono (by simp)
   ·exact((ae _).mono (by simp)).drew
  have hrl:=lt_of_block a0;have F:(ChangeMaps.setBlock w1 r (.mapIter (some bm) l.length (done.toArray.push j) l.length)).heap[r]? =some (.mapIter (some bm) l.length (done.toArray.push j) l.length):=by simp[ChangeMaps.setBlock,hrl]
  have hmap:(ChangeMaps.setBlock w1 r (.mapIter (some bm) l.length (done.toArray.push j) l.length)).heap[bm]? =some (bI kv l):=by have G5:=h.ne;simp only[ChangeMaps.setBlock];rw[←hb1];simp[G5]
  refine .inr ⟨j,a,v,_,d,hns,?_,z,⟨hmap,⟨l.length,aw _,?_⟩,?_,?_⟩,?_,?_⟩
  ·have h2:(j::done).length≤(List.range l.length).length:=iR (List.nodup_cons.2 ⟨hns,h.nodup⟩) (fun i D=>List.mem_range.2 (by
    simp only[ah]at D;rcases D with rfl|D
    ·exact V
    ·exact h.lt i D))
   rw[List.length_range,aj]at h2;omega
  ·rw[F];simp
  ·exact List.nodup_append.2 ⟨h.nodup,by simp,fun x W y hy=>by simp only[ag]at hy;subst hy;exact fun e=>hns (e▸W)⟩
  ·intro i D;simp only[aA,ag]at D;rcases D with D|rfl
   ·exact h.lt i D
   ·exact V
  ·refine⟨A.os,A.tape,A.output,?_,fun i D hn=>?_⟩
   ·simp only[ChangeMaps.setBlock];have:=A.size;simpa using this
   ·have:=A.keep i D hn;simp only[ag]at hn;rw[←this];simp only[ChangeMaps.setBlock];simp[aF hn]
  ·exact run_entry_at (P:=P) _ r bm l.length done.toArray _ l.length {key:=kv a,val:=v,born:=j} F hmap (by simpa using hm) (by rw[zE];exact List.nodup_range')
end
end Xc
namespace Go.Proofs.YtlgefdfflmgocaaGreatDoor
open Go Go.RowKit Xc Go.Proofs.Tryz
theorem A8(b:UInt8)(h:b≠0):b.toNat≠0:=fun e=>h (UInt8.toNat_inj.1 (by simpa using e))
theorem RdG.at0{w:World}{g off N cap:Nat}{x:UInt8}{l:Bytes}(h:RdG w (.slice (some ⟨g,off,none⟩) N cap) g (x::l)):w.cell? ⟨g,off,none⟩=some (.int .u8 x.toNat):=by obtain⟨off',cap',e,_,d⟩:=h;cases e;have:=d 0 (by simp);simpa using this
theorem lj(p g k:Nat)(b:UInt8)(rest:Bytes)(w:World)(G:cm w p g (List.replicate k 0++(b::rest)))(hb:b≠0)(hn:k+rest.length+1<1073741824):
 Calls prog 203 #[.pointer (some ⟨p,0,none⟩)] w fun e w'=>e=.returned (.tuple #[])∧cm w' p g (b::rest)∧Upd [p] w w':=by
 have HD:=aa G;have ad:=A8 b hb;have c1:w.cell? ⟨p,1,none⟩=some .nilIface:=by obtain⟨_,_,_,_,_,_,c1,_⟩:=G.open;exact c1
 clear G hb;go_enter func203,ntmps203
 go_wp2_with fail;clear c1;go_loopw [7] (fun _ wr=>∃j,j≤k∧cm wr p g (List.replicate j 0++(b::rest))∧Upd [p] w wr) (fun _ wr=>match wr.cell? ⟨p,0,none⟩with|some (.slice _ n _)=>n|_=>0)
 case atStart=>exact⟨k,aw _,HD.o,(ae w).mono (by simp)⟩
 case round=>
  obtain⟨j,hj,d,z⟩:=hrel;obtain⟨off,cap,N,HN,A,c0,c1,f0,HR,HS⟩:=d.open;have hNl:N=j+rest.length+1:=by rw[HN.o,ab,List.length_replicate];simp;omega
  have D:=aa z;have F:=aa d;have hN2:N<1073741824:=by omega
  by_cases O:0<j
  ·obtain⟨i,rfl⟩:∃i,j=i+1:=⟨j-1,by omega⟩;have h0:wr.cell? ⟨g,off,none⟩=some (.int .u8 0):=RdG.at0 (x:=0) (l:=List.replicate i 0++(b::rest)) HR.o;have a0:(cap=1)=False:=by simp;omega
   have U:(1:Int)≤(N:Int):=by omega
   have a1:(1:Int)<(N:Int):=by omega
   have G4:(1:Int)≤(cap:Int):=by omega
   have V:(0:Int)<(N:Int):=by omega
   have K:=HS.o 1 (off+1) (by omega) (fun _=>rfl);have hd:(List.replicate (i+1) 0++(b::rest)).drop 1=List.replicate i 0++(b::rest):=rfl;rw[hd]at K;have HK:=aa K;have a2:=aa hNl;clear K hd z d hNl A O;go_wp2_with fail;obtain⟨v,hb,_⟩:=F.o.blk;have W:=af (au hb 0 (.slice (some ⟨g,off+1,none⟩) (N-1) (cap-1))) 0;refine⟨⟨i,by omega,HK.o.1,D.o.then HK.o.2 (fun i hi _=>hi)⟩,?_⟩;rw[W,c0];simp;omega
  ·obtain rfl:j=0:=by omega
   have h0:wr.cell? ⟨g,off,none⟩=some (.int .u8 b.toNat):=RdG.at0 (l:=rest) HR.o;have a3:((b.toNat:Int)==0)=false:=by simp;omega
   have V:(0:Int)<(N:Int):=by omega
   have U:(1:Int)≤(N:Int):=by omega
   clear z d;go_wp2_with fail
   all_goals
    go_end0
    exact⟨rfl,F.o,D.o⟩
section
variable {w w':World} {k:WK} {r r':WR} {s:WS}
abbrev fO:=List (List (Nat×Nat)×Bytes)
def serOne(n:Nat)(x:List (Nat×Nat)×Bytes):Bytes:=pad 16 n++gy (cq x.1 x.2)
def cU:Nat→fO→Bytes
 |_,[]=>[]
 |n,x::l=>serOne n x++cU (n+(serOne n x).length) l
def ja(n:Nat):Nat:=(n+(pad 16 n).length)/16
def cG:Nat→fO→List Nat
 |_,[]=>[]
 |n,x::l=>ja n::cG (n+(serOne n x).length) l
def cC(F:Bytes)(l:fO):Bytes:=l.foldl (fun F x=>rg F (cq x.1 x.2)) F
theorem iS(l:fO):∀F:Bytes,cC F l=F++cU F.length l:=by
 induction l with
 |nil=>intro F;simp[cC,cU]
 |cons x l d=>
  intro F;have h1:=d (rg F (cq x.1 x.2));have z:(rg F (cq x.1 x.2)).length=F.length+(serOne F.length x).length:=by rw[rg,ab];rfl
  rw[z]at h1;show cC (rg F (cq x.1 x.2)) l=_;rw[h1,rg,cU,serOne,al]
theorem gz(l:fO):∀n,(cG n l).length=l.length:=by
 induction l with
 |nil=>intro n;rfl
 |cons x l d=>intro n;simp only[cG,aj,d]
theorem j6(n:Nat):16*ja n=n+(pad 16 n).length:=by have:=oL 16 n (by decide);unfold ja;omega
theorem AL(n:Nat):pad 16 n=List.replicate (pad 16 n).length 0:=by unfold pad;simp
theorem xu(x:Nat)(h:0<x):∃b r,Lib.uvarint x=b::r∧b≠0:=by
 by_cases h1:x<128
 ·rw[Lib.uvarint_small h1];refine⟨_,_,rfl,?_⟩;intro e;have:=congrArg UInt8.toNat e;rw[gB x (by omega)]at this;simp at this;omega
 ·rw[Lib.uvarint_big (by omega)];refine⟨_,_,rfl,?_⟩;intro e;have:=congrArg UInt8.toNat e;rw[gB _ (by omega)]at this;simp at this
theorem lN(P:List (Nat×Nat))(t:Bytes):0<(cq P t).length:=by have:=Lib.uvarint_pos P.length;simp only[cq,ab];omega
theorem uK(body:Bytes)(h:0<body.length):∃b r,gy body=b::r∧b≠0:=by obtain⟨b,r,h1,d⟩:=xu body.length h;exact⟨b,r++(body++Lib.beBytes 4 (crc body)),by rw[gy,h1];rfl,d⟩
def trip:Nat→fO→List (Nat×Nat×Nat)
 |_,[]=>[]
 |n,x::l=>(x.1.map fun p=>(ja n,p.1,p.2))++trip (n+(serOne n x).length) l
theorem oO(P:List (Nat×Nat))(t:Bytes)(h:∀p∈P,p.1<65536∧p.2<65536)(hl:P.length<1000)(d:t.length<1000):(cq P t).length<8000:=by have h1:=mX P h;have z:=uvl P.length (by omega);simp only[cq,ab];omega
structure kW(n:Nat)(l:fO)(j m:Nat)(T:List (Nat×Nat×Nat)):Prop where
 len:m+(cU m (l.drop j)).length=n+(cU n l).length
 pos:cG m (l.drop j)=(cG n l).drop j
 trip:trip n l=T++trip m (l.drop j)
theorem kW.zero(n:Nat)(l:fO):kW n l 0 n []:=⟨rfl,rfl,rfl⟩
theorem kW.succ{n j m:Nat}{l:fO}{T:List (Nat×Nat×Nat)}(h:kW n l j m T)(D:j<l.length):
 kW n l (j+1) (m+(serOne m l[j]).length) (T++l[j].1.map fun p=>(ja m,p.1,p.2))∧cU m (l.drop j)=serOne m l[j]++cU (m+(serOne m l[j]).length) (l.drop (j+1))∧(cG n l)[j]? =some (ja m):=by
 have A:=bf D;have h1:=h.len;have d:=h.pos;have z:=h.trip;rw[A]at h1 d z;simp only[cU,cG,Go.Proofs.YtlgefdfflmgocaaGreatDoor.trip,ab]at h1 d z;refine⟨⟨by omega,?_,by rw[z];simp only[al]⟩,by rw[A];rfl,?_⟩
 ·have:=congrArg (List.drop 1) d;simpa[List.drop_drop,Nat.add_comm]using this
 ·have:=congrArg (fun l=>l[0]?) d;simpa using this.symm
structure EY(n:Nat)(l:fO)(j m N:Nat)(T:List (Nat×Nat×Nat))(X:List (Nat×Nat)×Bytes)(body R:Bytes)(b:UInt8)(rr:Bytes)(d E z A:Nat):Prop where
 next:kW n l (j+1) (m+(serOne m X).length) (T++X.1.map fun p=>(z,p.1,p.2))
 rest:cU m (l.drop j)=List.replicate d 0++(b::(rr++R))
 enc:b::(rr++R)=Lib.uvarint body.length++(body++(Lib.beBytes 4 (crc body)++R))
 b0:b≠0
 hR:R=cU (m+(serOne m X).length) (l.drop (j+1))
 hE:E=(b::(rr++R)).length
 hLt:A=(cU m (l.drop j)).length∧A=d+E∧0<E∧R.length<E∧d<16∧A≤N
 hN:N=16*z+E
 hpl:(cG n l)[j]? =some z
 hbody:body=cq X.1 X.2∧0<body.length∧body.length<8000
 hX:l[j]? =some X
theorem kW.step{n j m N S:Nat}{l:fO}{T:List (Nat×Nat×Nat)}(h:kW n l j m T)(A:j<l.length)(hN:n+(cU n l).length=N)(hS:S<65536)(hX:∀x∈l,x.1.length<1000∧x.2.length<1000∧∀p∈x.1,p.1<65536∧p.2<S):
 ∃X body R b rr kp E pl Lt,EY n l j m N T X body R b rr kp E pl Lt:=by
 obtain⟨D,hr,hpl⟩:=h.succ A;have hX:=hX _ (aq A);have F:l[j]? =some l[j]:=az A;generalize l[j]=X at*;have G9:=oO X.1 X.2 (fun p W=>⟨(hX.2.2 p W).1,by have h1:=(hX.2.2 p W).2;omega⟩) hX.1 hX.2.1;have z:=lN X.1 X.2;have hlen:=h.len;rw[hr,hN]at hlen;have G:=j6 m;obtain⟨b,rr,hb,O⟩:=uK (cq X.1 X.2) z;have U:=AL m;have d:serOne m X=List.replicate (pad 16 m).length 0++(b::rr):=by rw[←U,←hb];rfl
 have V:(serOne m X).length=(pad 16 m).length+(rr.length+1):=by rw[d];simp
 refine⟨X,cq X.1 X.2,cU (m+(serOne m X).length) (l.drop (j+1)),b,rr,(pad 16 m).length,_,ja m,_,⟨D,?_,?_,O,rfl,rfl,⟨rfl,?_,by simp,?_,jE 16 m (by decide),?_⟩,?_,hpl,⟨rfl,z,G9⟩,F⟩⟩
 ·rw[hr,d];simp
 ·have:b::(rr++cU (m+(serOne m X).length) (l.drop (j+1)))=gy (cq X.1 X.2)++cU (m+(serOne m X).length) (l.drop (j+1)):=by rw[hb];rfl
  rw[this,gy];simp only[al]
 ·rw[hr,d];simp
 ·simp;omega
 ·rw[hr];omega
 ·rw[G,←hlen];simp only[ab,aj,V];omega
def sA(w:World)(p:Nat):Nat:=match w.cell? ⟨p,0,none⟩with|some (.slice _ n _)=>n|_=>0
theorem cm.declen{p g:Nat}{bs:Bytes}(h:cm w p g bs):sA w p=bs.length:=by obtain⟨v,hb,off,cap,rfl,_⟩:=h.blk;rw[sA,af hb];rfl
def eh(N:List Nat)(T:List (Nat×Nat×Nat)):List (Nat×Nat×Nat):=T.filter fun t=>N.contains t.2.1
def ew(T:List (Nat×Nat×Nat))(a b:Nat):List Nat:=(T.filter fun t=>t.2=(a,b)).map (·.1)
theorem yA{N:List Nat}{T:List (Nat×Nat×Nat)}{a:Nat}(h:a∈N)(b:Nat):ew (eh N T) a b=ew T a b:=by
 unfold ew eh;rw[List.filter_filter];congr 1;apply nf;intro t _;by_cases e:t.2=(a,b)
 ·have:t.2.1=a:=by rw[e]
  simp[e,h]
 ·simp[e]
theorem qg{N:List Nat}{T:List (Nat×Nat×Nat)}{p a b:Nat}(h:a∈N):(p,a,b)∈eh N T↔(p,a,b)∈T:=by simp[eh,h]
def dK(B:Nat)(T:List (Nat×Nat×Nat))(a:Nat):List Nat:=(List.range B).filter fun b=>T.any fun t=>t.2=(a,b)
theorem mU{B:Nat}{T:List (Nat×Nat×Nat)}{a b:Nat}(hB:∀t∈T,t.2.2<B):b∈dK B T a↔∃p,(p,a,b)∈T:=by
 simp only[dK,eO,mf,List.any_eq_true,decide_eq_true_eq];constructor
 ·rintro⟨_,⟨p,A,b'⟩,z,e⟩;simp only[cW]at e;exact⟨p,by rw[←e.1,←e.2];exact z⟩
 ·rintro⟨p,d⟩;exact⟨hB _ d,_,d,rfl⟩
theorem lQ(B:Nat)(T:List (Nat×Nat×Nat))(a:Nat):(dK B T a).Pairwise (· <·):=List.Pairwise.filter _ List.pairwise_lt_range
theorem ue{I:List (Nat×List Nat)}{a:Nat}{T:List (Nat×Nat×Nat)}{B:Nat}{d ys:List Nat}(h:PIn I a T)(hB:∀t∈T,t.2.2<B)(A:d.Perm (I.map (·.1)))(D:ys.Perm d)(hs:ys.Pairwise (· ≤·)):ys=dK B T a:=by
 have z:=D.trans A;refine rN (lt:=fun x y:Nat=>x<y) (fun a=>cR a) (fun a b c=>Nat.lt_trans) ?_ (lQ B T a) (fun b=>?_)
 ·exact(rO hs (z.nodup_iff.2 h.nodup)).imp (fun h=>by omega)
 ·rw[z.mem_iff,h.mem,mU hB]
abbrev PtL:=List (Bytes×Bytes×List Nat)
def ptF:Bytes→PtL→Bytes
 |F,[]=>F
 |F,x::l=>ptF (F++pad 4 F.length++sec (ey x.2.2)) l
def ptP:Bytes→PtL→List (Bytes×Bytes×Nat)
 |_,[]=>[]
 |F,x::l=>(x.1,x.2.1,(F++pad 4 F.length).length)::ptP (F++pad 4 F.length++sec (ey x.2.2)) l
theorem jF(l m:PtL):∀F:Bytes,ptF F (l++m)=ptF (ptF F l) m:=by
 induction l with
 |nil=>intro F;rfl
 |cons x l d=>intro F;exact d _
theorem jG(l m:PtL):∀F:Bytes,ptP F (l++m)=ptP F l++ptP (ptF F l) m:=by
 induction l with
 |nil=>intro F;rfl
 |cons x l d=>intro F;exact congrArg (_::·) (d _)
theorem ot(l:PtL):∀F:Bytes,F.length≤(ptF F l).length:=by
 induction l with
 |nil=>intro F;exact aw _
 |cons x l d=>
  intro F;refine aW ?_ (d _);simp only[ab];omega
theorem kT(l:PtL):∀F:Bytes,(ptP F l).length=l.length:=by
 induction l with
 |nil=>intro F;rfl
 |cons x l d=>intro F;simp only[ptP,aj,d]
def ptS(s:WS)(L:PtL)(b1 b2:Bytes)(c:Nat):WS:={s with bP:=ptF s.bP L,bPO:=s.bPO++poB (ptP s.bP L),cnt:=s.cnt+L.length,b1:=b1,b2:=b2,crc:=c}
theorem AS(s:WS)(L:PtL)(b1 b2 d z:Bytes)(c A:Nat)(name value:Bytes)(xs:List Nat):uD (ptS s L b1 b2 c) name value xs d z A=ptS s (L++[(name,value,xs)]) d z A:=by simp only[uD,ptS,jF,jG,ab,aj,ar,poB,aU,al];simp[ptF,ptP];rfl
def kS(B:Nat)(T:List (Nat×Nat×Nat))(syms:List Bytes)(nm:Bytes)(a:Nat):PtL:=(dK B T a).map fun b=>(nm,syms[b]?.getD [],ew T a b)
def dI(B:Nat)(T:List (Nat×Nat×Nat))(syms:List Bytes)(id:Bytes→Nat)(ns:List Bytes):PtL:=ns.flatMap fun nm=>kS B T syms nm (id nm)
end
end Go.Proofs.YtlgefdfflmgocaaGreatDoor
