import Derived.Test.YtlgefdfflmgocaaGreatDoorQ02
import Derived.Carry
import Derived.MapKept
import Derived.Maps.RangeRun
set_option linter.all false
set_option maxRecDepth 100000
set_option maxHeartbeats 400000
namespace Go.Proofs.YtlgefdfflmgocaaGreatDoor
open Go Go.RowKit Xc Go.Proofs.Tryz
def gQ(s:ByteArray)(l:List (Bytes×Bytes)):Prop:=sb s=aL l∧s.size<1073741824∧∀p∈l,p.1.length<255∧p.2.length<255
theorem jo(p:Bytes×Bytes)(l:List (Bytes×Bytes)):aL (p::l)=eJ p.1++(eJ p.2++aL l):=by simp[aL]
theorem fH(l m:List (Bytes×Bytes)):aL (l++m)=aL l++aL m:=by simp[aL]
theorem jD(l:List (Bytes×Bytes))(j:Nat)(h:j<l.length):aL l=aL (l.take j)++(eJ l[j].1++(eJ l[j].2++aL (l.drop (j+1)))):=by conv=>lhs;rw[←aI j l,fH,bf h,jo]
theorem jq(l:List (Bytes×Bytes))(j:Nat)(h:j<l.length):(aL (l.take (j+1))).length=(aL (l.take j)).length+(eJ l[j].1).length+(eJ l[j].2).length:=by rw[ax h,fH];simp[aL];omega
theorem gQ.len{s:ByteArray}{l:List (Bytes×Bytes)}(h:gQ s l):s.size=(aL l).length:=by rw[←dA,h.1]
theorem vR(l:List (Bytes×Bytes)):l.length≤(aL l).length:=by
 induction l with
 |nil=>simp
 |cons p l d=>rw[jo];simp[dw];omega
theorem gQ.few{s:ByteArray}{l:List (Bytes×Bytes)}(h:gQ s l):l.length<1073741824:=by have h1:=vR l;have d:=h.len;have z:=h.2.1;omega
theorem gQ.lt{s:ByteArray}{l:List (Bytes×Bytes)}(h:gQ s l){j:Nat}(d:j<l.length):(aL (l.take j)).length<s.size:=by have h1:=congrArg List.length (jD l j d);rw[h.len,h1];simp[dw];omega
theorem gQ.name{s:ByteArray}{l:List (Bytes×Bytes)}(h:gQ s l){j:Nat}(d:j<l.length)(w:World):
 Calls prog 164 #[.string s,.int .i64 (aL (l.take j)).length] w fun e w'=>e=.returned (.tuple #[.string (str l[j].1),.int .i64 (((aL (l.take j)).length+(eJ l[j].1).length:Nat):Int)])∧w=w':=
 jn s (aL (l.take j)) l[j].1 _ w (by rw[h.1];exact jD l j d) (h.2.2 _ (aq d)).1 h.2.1
theorem gQ.value{s:ByteArray}{l:List (Bytes×Bytes)}(h:gQ s l){j:Nat}(d:j<l.length)(w:World):
 Calls prog 164 #[.string s,.int .i64 (((aL (l.take j)).length+(eJ l[j].1).length:Nat):Int)] w fun e w'=>e=.returned (.tuple #[.string (str l[j].2),.int .i64 (aL (l.take (j+1))).length])∧w=w':=by
 have:=jn s (aL (l.take j)++eJ l[j].1) l[j].2 (aL (l.drop (j+1))) w (by rw[h.1,al];exact jD l j d) (h.2.2 _ (aq d)).2 h.2.1;rw[ab]at this;rw[jq l j d];exact this
theorem gQ.size1{s:ByteArray}{l:List (Bytes×Bytes)}(h:gQ s l){j P d:Nat}(z:j<l.length)(hP:P=(aL (l.take j)).length)(h1:d=l[j].1.length)(w:World):
 Calls prog 163 #[.string s,.int .i64 P] w fun e w'=>e=.returned (.tuple #[.int .i64 d,.int .i64 ((P:Int)+1)])∧w=w':=by
 subst hP h1;obtain⟨hs,hb⟩:=lS (s:=s) (pre:=aL (l.take j)) (b:=l[j].1.length.toUInt8) (post:=l[j].1++(eJ l[j].2++aL (l.drop (j+1)))) (by rw[h.1,jD l j z];rfl);have A:=(h.2.2 _ (aq z)).1;exact kM s _ _ w hs (by rw[hb];simp[Nat.toUInt8,fQ];omega) A (by have:=h.2.1;omega)
theorem gQ.size2{s:ByteArray}{l:List (Bytes×Bytes)}(h:gQ s l){j P d z:Nat}(A:j<l.length)(hP:P=(aL (l.take j)).length)(h1:d=l[j].1.length)(D:z=l[j].2.length)(w:World):
 Calls prog 163 #[.string s,.int .i64 ((P:Int)+1+d)] w fun e w'=>e=.returned (.tuple #[.int .i64 z,.int .i64 ((P:Int)+1+d+1)])∧w=w':=by
 obtain⟨hs,hb⟩:=lS (s:=s) (pre:=aL (l.take j)++eJ l[j].1) (b:=l[j].2.length.toUInt8) (post:=l[j].2++aL (l.drop (j+1))) (by rw[h.1,jD l j A,al];rfl);have F:=(h.2.2 _ (aq A)).2;have e:(aL (l.take j)++eJ l[j].1).length=P+1+d:=by rw[ab,dw,hP,h1];omega
 have:=kM s _ z w hs (by rw[hb,D];simp[Nat.toUInt8,fQ];omega) (by omega) (by have:=h.2.1;omega);rw[e]at this;rw[show((P+1+d:Nat):Int)=(P:Int)+1+d by omega]at this;exact this
theorem Br(s:ByteArray)(w:World):Calls prog 98 #[.agg #[.string s]] w fun e w'=>e=.returned (.bool (((s.size:Int))==0))∧Upd [] w w':=by
 go_enter func98,ntmps98
 go_wp2_with fail;go_ret;exact⟨rfl,(ae w).alloc _⟩
theorem yU(p o T:Nat)(c:Array Value)(s:ByteArray)(w:World)(d:w.heap[p]? =some (.cells c T (0,0)))(A:o<c.size):
 Calls prog 109 #[.pointer (some ⟨p,o,none⟩),.agg #[.string s]] w fun e w'=>e=.returned (.tuple #[])∧w'.heap[p]? =some (.cells (c.setIfInBounds o (.string s)) T (0,0))∧Upd [p] w w':=by
 have z:=lt_of_block d;have h1:(w.alloc (.cells #[.string s] 135 (0,0))).heap[p]? =some (.cells c T (0,0)):=by rw[eB _ z];exact d
 have c1:(w.alloc (.cells #[.string s] 135 (0,0))).cell? ⟨p,o,none⟩=some c[o]:=by rw[af h1];simp[A]
 have D:=ao h1 o;have G5:w.heap.size≠p:=by omega
 have F:w.cell? ⟨p,o,none⟩=some c[o]:=by rw[af d];simp[A]
 have G:=ao d o;clear h1;go_enter func109,ntmps109
 go_wp2_with fail;go_end0
 exact⟨rfl,(eB _ (lt_of_block (au d o _))).trans (au d o _),(((ae w).mono (by simp)).setCell (fun _=>by simp) _).alloc _⟩
theorem D6(s:ByteArray)(l:List (Bytes×Bytes))(w:World)(h:gQ s l):Calls prog 101 #[.agg #[.string s]] w fun e w'=>e=.returned (.int .i64 l.length)∧Upd [] w w':=by
 have D:=aa h;have ad:=h.2.1;have W:=h.few;have hb:(w.alloc (.cells #[.string s] 135 (0,0))).heap[w.heap.size]? =some (.cells #[.string s] 135 (0,0)):=an _;have hu:Upd [] w (w.alloc (.cells #[.string s] 135 (0,0))):=(ae w).alloc _;go_enter func101,ntmps101
 go_wp2_with fail;revert hb hu;generalize (w.alloc (.cells #[.string s] 135 (0,0)))=w1;generalize w.heap.size=X;intro hb hu;have c0:w1.cell? ⟨X,0,none⟩=some (.string s):=by rw[af hb];rfl
 have HU:=aa hu;clear hb hu h;go_loop [3,4,5] (fun a i _=>∃j,j≤l.length∧a=.int .i64 (j:Nat)∧i=.int .i64 (aL (l.take j)).length) (fun a _ _=>l.length-(intOf a).toNat)
 case atStart=>exact⟨0,ay _,rfl,rfl⟩
 case round=>
  obtain⟨j,hj,rfl,rfl⟩:=hrel;by_cases d:j<l.length
  ·have h1:=D.o.lt d;have F:((aL (l.take j)).length:Int)<(s.size:Int):=by omega
   have hlim:=D.o.lt d;obtain⟨P,hP⟩:∃P,P=(aL (l.take j)).length:=⟨_,rfl⟩;obtain⟨n1,z⟩:∃n,n=l[j].1.length:=⟨_,rfl⟩;obtain⟨n2,A⟩:∃n,n=l[j].2.length:=⟨_,rfl⟩;have G:=jq l j d;rw[dw,dw,←hP,←z,←A]at G;have O:=D.o.2.2 _ (aq d);rw[←z,←A]at O;have U:=aa (fun w=>D.o.size1 d hP z w);have V:=aa (fun w=>D.o.size2 d hP z A w);rw[←hP]at F⊢hlim;have HQ:=aa G;clear G hP z A h1;have a0:(P:Int)+1+n1≤9223372036854775807:=by omega
   go_wp2_with (go_at_call_of 163 (Value.int IntKind.i64 (P:Int));refine(U.o _).mono ?_;rintro e w2 ⟨rfl,rfl⟩);refine(V.o _).mono ?_;rintro e w2 ⟨rfl,rfl⟩;go_wp2_with fail;exact⟨⟨j+1,d,rfl,by rw[HQ.o];congr 1;omega⟩,by simp only[intOf];omega⟩
  ·obtain rfl:j=l.length:=by omega
   have F:¬((aL (l.take l.length)).length:Int)<(s.size:Int):=by rw[aS,←D.o.len];omega
   rw[aS,←D.o.len]at*;go_wp2_with fail;go_ret;exact⟨rfl,HU.o⟩
theorem ma(Z:Nat)(v:Value)(w:World)(h:w.heap[Z]? =some (.cells #[v] 406 (0,0))):Calls prog 201 #[.pointer (some ⟨Z,0,none⟩)] w fun e w'=>e=.returned v∧w=w':=by
 have d:w.cell? ⟨Z,0,none⟩=some v:=by rw[af h];rfl
 go_enter func201,ntmps201
 go_wp2_with fail;go_ret;exact⟨rfl,rfl⟩
theorem tA(F:Nat)(g:Option Nat)(bs:Bytes)(w:World)(A:FW w F g bs):
 Calls prog 200 #[.pointer (some ⟨F,0,none⟩)] w fun e w'=>∃Z v,e=.returned (.tuple #[.pointer (some ⟨Z,0,none⟩),.nilIface])∧w'.heap[Z]? =some (.cells #[v] 406 (0,0))∧gl w' v g bs∧w.heap.size≤Z∧Upd [] w w':=by
 obtain⟨v0,nm,z,d⟩:=A.blk;have G:w.cell? ⟨F,0,none⟩=some v0:=by rw[af z];rfl
 have D:=aa d;rcases d.form with⟨rfl,rfl,rfl⟩|⟨k,cap,rfl,rfl⟩
 all_goals
  clear d z A;go_enter func200,ntmps200
  go_wp2_with fail;go_ret2
  exact⟨_,_,rfl,an _,D.o.upd ((ae w).alloc _) (by simp),aw _,(ae w).alloc _⟩
end Go.Proofs.YtlgefdfflmgocaaGreatDoor
namespace Xc
open Go Go.RowKit
structure vf(P:Program)(K:TypeId)(κ:Type)[DecidableEq κ](kv:κ→Value):Prop where
 kind:∃d,P.underlying K=some d∧∀a b,Instr.sameNow d (kv a) (kv b)=some (decide (a=b))
 check:∀e k w,(Instr.checkKey e 10000 K (kv k)).run P w=.ok () w
 stays:∀k,Instr.sameBits 10000 (kv k) (kv k)=true
section
variable {κ:Type} [DecidableEq κ] {ν:Type}
def aT(k:κ):List (κ×ν)→Option ν
 |[]=>none
 |(a,v)::l=>if k=a then some v else aT k l
def cf(k:κ)(v:ν):List (κ×ν)→List (κ×ν)
 |[]=>[(k,v)]
 |(a,u)::l=>if k=a then(a,v)::l else(a,u)::cf k v l
theorem gj(k j:κ)(v:ν)(l:List (κ×ν)):aT j (cf k v l)=if j=k then some v else aT j l:=by
 induction l with
 |nil=>simp[cf,aT]
 |cons x l z=>
  obtain⟨a,u⟩:=x;simp only[cf];by_cases h:k=a
  ·subst h;rw[if_pos rfl];simp only[aT];by_cases d:j=k<;>simp[d]
  ·rw[if_neg h];simp only[aT,z];by_cases d:j=a
   ·subst d;rw[if_pos rfl,if_neg (fun e=>h e.symm),if_pos rfl]
   ·simp[d]
theorem oi{k:κ}{l:List (κ×ν)}:aT k l=none↔k∉l.map (·.1):=by
 induction l with
 |nil=>simp[aT]
 |cons x l d=>
  obtain⟨a,u⟩:=x;simp only[aT,aN,ah,not_or];by_cases h:k=a<;>simp[h,d]
theorem ky(k:κ)(v:ν)(l:List (κ×ν)):(cf k v l).map (·.1)=if k∈l.map (·.1)then l.map (·.1)else l.map (·.1)++[k]:=by
 induction l with
 |nil=>simp[cf]
 |cons x l d=>
  obtain⟨a,u⟩:=x;simp only[cf];by_cases h:k=a
  ·subst h;simp
  ·rw[if_neg h];simp only[aN,d,ah,h,false_or];split<;>simp_all
theorem fu{k:κ}{v:ν}{l:List (κ×ν)}(h:aT k l=none):cf k v l=l++[(k,v)]:=by
 induction l with
 |nil=>rfl
 |cons x l d=>
  obtain⟨a,u⟩:=x;simp only[aT]at h;by_cases e:k=a
  ·simp[e]at h
  ·rw[if_neg e]at h;simp[cf,e,d h]
theorem ug(k:κ)(v:ν)(l:List (κ×ν)):(cf k v l).length≤l.length+1:=by
 induction l with
 |nil=>simp[cf]
 |cons x l d=>
  obtain⟨a,u⟩:=x;simp only[cf];split<;>simp;omega
end
section
variable {κ:Type} (kv:κ→Value)
def ent(x:(κ×Value)×Nat):MapEntry:={key:=kv x.1.1,val:=x.1.2,born:=x.2}
def bI(l:List (κ×Value)):Obj:=.map ((l.zipIdx.map (ent kv)).toArray) l.length
variable [DecidableEq κ]
theorem tS{d:TypeDesc}(hs:∀a b,Instr.sameNow d (kv a) (kv b)=some (decide (a=b)))(k:κ)(l:List (κ×Value))(n i:Nat):
 (aT k l=none→Instr.findNow d (kv k) ((l.zipIdx n).map (ent kv)) i=some none)∧
 (∀v,aT k l=some v→∃j,Instr.findNow d (kv k) ((l.zipIdx n).map (ent kv)) i=some (some (i+j,v))∧∃a,l[j]? =some (a,v)∧a=k∧∀u,cf k u l=l.set j (k,u)):=by
 induction l generalizing n i with
 |nil=>simp[aT,Instr.findNow]
 |cons x l A=>
  obtain⟨a,u⟩:=x;simp only[aT,List.zipIdx_cons,aN,ent,Instr.findNow,hs];by_cases h:k=a
  ·subst h;simp only[if_true,decide_true];exact⟨fun h=>(by cases h),fun v hv=>by cases hv;exact⟨0,rfl,k,rfl,rfl,fun w=>by simp[cf]⟩⟩
  ·simp only[if_neg h,decide_eq_false h];obtain⟨h1,D⟩:=A (n+1) (i+1);refine⟨h1,fun v hv=>?_⟩;obtain⟨j,F,b,hb,z,hm⟩:=D v hv;exact⟨j+1,by rw[show i+(j+1)=i+1+j from by omega];exact F,b,by simpa using hb,z,fun w=>by simp[cf,h,hm w]⟩
variable {P:Program} {K E T:TypeId} {w:World} {b:Nat} {l:List (κ×Value)}
theorem oE(L:vf P K κ kv)(k:κ)(l:List (κ×Value))(w:World):
 (aT k l=none→(Instr.findKey K (kv k) (l.zipIdx.map (ent kv))).run P w=.ok none w)∧
 (∀v,aT k l=some v→∃j,(Instr.findKey K (kv k) (l.zipIdx.map (ent kv))).run P w=.ok (some (j,v)) w∧∃a,l[j]? =some (a,v)∧a=k∧∀u,cf k u l=l.set j (k,u)):=by
 obtain⟨d,z,hs⟩:=L.kind;obtain⟨h1,A⟩:=tS kv hs k l 0 0;constructor
 ·intro h;simp[Instr.findKey,run_underlying z,h1 h]
 ·intro v hv;obtain⟨j,D,r⟩:=A v hv;exact⟨j,by simp[Instr.findKey,run_underlying z,D],r⟩
theorem cw(L:vf P K κ kv)(hT:P.underlying T=some (.map K E))(hb:w.heap[b]? =some (bI kv l)){z:Value}(hz:∀w,(zeroValue E).run P w=.ok z w)(k:κ)(ok:Bool):
 (Instr.lookup T (.map (some b)) (kv k) ok).run P w=
  .ok (if ok then .tuple #[(aT k l).getD z,.bool (aT k l).isSome]else(aT k l).getD z) w:=by
 obtain⟨h1,d⟩:=oE kv L k l w;have hg:=jR (P:=P) hb;cases h:aT k l with
 |none=>cases ok<;>simp[Instr.lookup,run_underlying hT,hg,L.check,h1 h,hz]
 |some v=>
  obtain⟨j,A,_⟩:=d v h;cases ok<;>simp[Instr.lookup,run_underlying hT,hg,L.check,A]
theorem dB(L:vf P K κ kv)(hT:P.underlying T=some (.map K E))(hb:w.heap[b]? =some (bI kv l))(k:κ)(v:Value):
 (Instr.mapUpdate T (.map (some b)) (kv k) v).run P w=.ok () (ChangeMaps.setBlock w b (bI kv (cf k v l))):=by
 obtain⟨h1,G⟩:=oE kv L k l w;have hg:=jR (P:=P) hb;have d:=fun es c=>MapKept.run_setObj_map (P:=P) (w:=w) (.map es c) hb;cases h:aT k l with
 |none=>
  have e:((l.zipIdx.map (ent kv)).toArray.push {key:=kv k,val:=v,born:=l.length})=((cf k v l).zipIdx.map (ent kv)).toArray:=by rw[fu h,List.zipIdx_append,aX];simp[ent]
  have e2:(cf k v l).length=l.length+1:=by rw[fu h];simp
  simp only[bI,←e,e2];simp[Instr.mapUpdate,run_underlying hT,hg,L.check,h1 h,d,ChangeMaps.setBlock]
 |some u=>
  obtain⟨j,O,a,F,A,hm⟩:=G u h;subst A;have D:j<l.length:=(List.getElem?_eq_some_iff.1 F).1;have e:((l.zipIdx.map (ent kv)).toArray.modify j fun e=>{e with key:=kv a,val:=v})=((cf a v l).zipIdx.map (ent kv)).toArray:=by
   rw[hm v];apply Array.ext_getElem?;intro i;simp only[im,List.getElem?_toArray,cx,List.getElem?_zipIdx,List.getElem?_set];by_cases z:j=i
   ·subst z;simp[ent,D]
   ·simp[z]
  have e2:(cf a v l).length=l.length:=by rw[hm v];simp
  have e3:((l.zipIdx.map (ent kv)).toArray[j]?.map (·.key)).getD (kv a)=kv a:=by simp[List.getElem?_zipIdx,F,ent]
  simp only[bI,←e,e2];simp only[Instr.mapUpdate,run_underlying hT,eI,hg,L.check,O,Result.andThen,e3,Instr.keyThatStays,L.stays,if_true,gX,d,ChangeMaps.setBlock]
end
theorem sr(a b:ByteArray):(a==b)=decide (a=b):=by rw[dR,decide_eq_true_eq];exact MapKept.bytes_beq a b
theorem jI{P:Program}{K:TypeId}{d:TypeDesc}(hK:P.underlying K=some d)(e:Bool)(n:Nat)(v:Value)(w:World)
 (h1:∀ms,d≠.interface ms)(A:∀n e,d≠.array n e)(D:∀z,d≠.struct z):(Instr.checkKey e (n+1) K v).run P w=.ok () w:=by
 unfold Instr.checkKey;simp only[eI,run_underlying hK,Result.andThen];cases d<;>simp_all
theorem wG{P:Program}{K:TypeId}(hK:P.underlying K=some .string):vf P K ByteArray Value.string where
 kind:=⟨.string,hK,fun a b=>by simp only[Instr.sameNow,sr]⟩
 check e k w:=jI hK e 9999 _ w (by simp) (by simp) (by simp)
 stays k:=by show(k==k)=true;exact(MapKept.bytes_beq k k).2 rfl
def ec(q:IntKind)(n:Nat):Value:=.int q (n:Int)
theorem Cg{P:Program}{K:TypeId}{q:IntKind}(hK:P.underlying K=some (.int q)):vf P K Nat (ec q) where
 kind:=⟨.int q,hK,fun a b=>by simp only[Instr.sameNow,ec,if_true];congr 1;rw[dR,beq_iff_eq,decide_eq_true_eq];omega⟩
 check e k w:=jI hK e 9999 _ w (by simp) (by simp) (by simp)
 stays k:=by simp[Instr.sameBits,ec]
end Xc
namespace Go.Proofs.YtlgefdfflmgocaaGreatDoor
open Go Go.RowKit Xc Go.Proofs.Tryz
def Dis(l:List (Option Nat)):Prop:=∀i j b:Nat,l[i]? =some (some b)→l[j]? =some (some b)→i=j
def Blt(l:List (Option Nat))(n:Nat):Prop:=∀i b:Nat,l[i]? =some (some b)→b<n
def yZ(n:Nat)(l d:List (Option Nat)):Prop:=∀i b:Nat,d[i]? =some (some b)→l[i]? =some (some b)∨n≤b
theorem fz{α:Type}{l:List α}{i j:Nat}{g x:α}(h:(l.set i g)[j]? =some x):(j=i∧g=x)∨(j≠i∧l[j]? =some x):=by
 rw[List.getElem?_set]at h;split at h
 ·rename_i e;split at h
  ·exact .inl ⟨e.symm,by simpa using h⟩
  ·cases h
 ·rename_i e;exact .inr ⟨fun x=>e x.symm,h⟩
theorem eV{l:List (Option Nat)}{i n:Nat}{g':Option Nat}(hg:∀b,g'=some b→l[i]? =some (some b)∨n≤b):yZ n l (l.set i g'):=by
 intro j b h;rcases fz h with⟨rfl,e⟩|⟨_,e⟩
 ·exact hg b e
 ·exact .inl e
theorem iW{l:List (Option Nat)}{i n:Nat}{g':Option Nat}(d:Dis l)(hb:Blt l n)(hg:∀b,g'=some b→l[i]? =some (some b)∨n≤b):Dis (l.set i g'):=by
 intro a c b h1 z;rcases fz h1 with⟨rfl,e1⟩|⟨A,e1⟩<;>rcases fz z with⟨rfl,e2⟩|⟨D,e2⟩
 ·rfl
 ·rcases hg b e1 with h|h
  ·exact d _ _ b h e2
  ·have:=hb _ _ e2;omega
 ·rcases hg b e2 with h|h
  ·exact d _ _ b e1 h
  ·have:=hb _ _ e1;omega
 ·exact d _ _ b e1 e2
theorem iU{l:List (Option Nat)}{i n d:Nat}{g':Option Nat}(hb:Blt l n)(hn:n≤d)(hg:∀b,g'=some b→b<d):Blt (l.set i g') d:=by
 intro j b h;rcases fz h with⟨_,e⟩|⟨_,e⟩
 ·exact hg b e
 ·exact bD (hb _ _ e) hn
theorem Blt.mono{l:List (Option Nat)}{n d:Nat}(hb:Blt l n)(hn:n≤d):Blt l d:=fun i b h=>bD (hb i b h) hn
theorem Dis.ne{l:List (Option Nat)}{i j b c:Nat}(h:Dis l)(z:l[i]? =some (some b))(A:l[j]? =some (some c))(d:i≠j):b≠c:=fun e=>d (h i j b z (e▸A))
def gx(l:List (Option Nat))(I:List Nat):List Nat:=I.filterMap fun i=>(l[i]?).getD none
theorem cu{l:List (Option Nat)}{I:List Nat}{b:Nat}:b∈gx l I↔∃i∈I,l[i]? =some (some b):=by
 simp only[gx,List.mem_filterMap];constructor
 ·rintro⟨i,d,h⟩;refine⟨i,d,?_⟩;cases h':l[i]?with
  |none=>simp[h']at h
  |some x=>simp[h']at h;rw[h]
 ·rintro⟨i,d,h⟩;exact⟨i,d,by simp[h]⟩
theorem nin{l:List (Option Nat)}{I:List Nat}(d:Dis l){i b:Nat}(z:l[i]? =some (some b))(hI:i∉I):b∉gx l I:=by intro h;obtain⟨j,A,e⟩:=cu.1 h;exact hI (d i j b z e▸A)
theorem fw{l:List (Option Nat)}{I:List Nat}{b:Nat}(hb:∀i:Nat,l[i]?≠some (some b)):b∉gx l I:=by intro h;obtain⟨j,_,e⟩:=cu.1 h;exact hb j e
structure WK where
 (W F FP FPO MC MN D tb:Nat)
structure WR where
 (gF gP gPO g1 g2 gL:Option Nat)
def wl(k:WK)(r:WR):List (Option Nat):=[some k.W,some k.F,some k.FP,some k.FPO,some k.MC,some k.MN,some k.D,some k.tb,r.gF,r.gP,r.gPO,r.g1,r.g2,r.gL]
abbrev BH:List Nat:=[0,1,2,3,4,5,6,7,8,9,10,11,12,13]
structure WS where
 (bF bP bPO b1 b2:Bytes)
 (pP pPO:Value)
 (cnt t0 t1 t2 t3 t4 t5 stage pst nsym:Nat)
 (symV sfV:Value)
 lastSym:ByteArray
 cache:List (ByteArray×Value)
 li:List (Nat×ByteArray×Nat)
 names:List (ByteArray×Value)
 lastSer:ByteArray
 (lastRef lastChunk crc:Nat)
def wfl(k:WK)(s:WS):List (Option Value):=
 [some (.pointer (some ⟨k.F,0,none⟩)),some s.pP,some s.pPO,some (.int .u64 s.cnt),some (.int .u64 s.t0),some (.int .u64 s.t1),some (.int .u64 s.t2),some (.int .u64 s.t3),some (.int .u64 s.t4),some (.int .u64 s.t5),
  some (.int .u8 s.stage),some (.int .u64 s.pst),none,none,none,none,none,none,none,none,none,none,none,none,none,none,none,none,none,none,none,none,none,none,
  some (.int .i64 s.nsym),some s.symV,some s.sfV,some (.string s.lastSym),some (.map (some k.MC)),none,some (.map (some k.MN)),some (.string s.lastSer),some (.int .u64 s.lastRef),some (.int .u64 s.lastChunk),
  some (.iface 417 (.pointer (some ⟨k.D,0,none⟩))),none,some (.func (.func 152) #[] #[])]
structure WF(c:Array Value)(k:WK)(s:WS):Prop where
 size:c.size=47
 at_:∀(i:Nat) (v:Value),(wfl k s)[i]? =some (some v)→c[i]? =some v
theorem CT(k:WK)(s:WS)(i:Nat)(h1:12≤i)(z:i<34):(wfl k s)[i]? =some none:=by
 obtain⟨j,rfl⟩:∃j,i=12+j:=⟨i-12,by omega⟩;have d:j<22:=by omega
 have e:(wfl k s).drop 12=List.replicate 22 none++(wfl k s).drop 34:=rfl;have:=congrArg (fun l=>l[j]?) e;simp only[md]at this;rw[this,bH (by simpa using d),List.getElem?_replicate,if_pos d]
theorem WF.same{c z:Array Value}{k:WK}{s A:WS}{o:Nat}(h:WF c k s)(D:eY o 11 c z)(h1:12≤o)(G:o+11≤34)(he:wfl k A=wfl k s):WF z k A:=
 ⟨D.1.trans h.size,fun i v d=>by
   rw[he]at d;rw[D.2 i ?_]
   ·exact h.at_ i v d
   ·by_cases F:i<o∨o+11≤i
    ·exact F
    ·have:=CT k s i (by omega) (by omega);rw[this]at d;simp at d⟩
theorem WF.as{c:Array Value}{k:WK}{s d:WS}(h:WF c k s)(he:wfl k d=wfl k s):WF c k d:=⟨h.size,fun i v z=>h.at_ i v (he▸z)⟩
theorem WF.set{c:Array Value}{k:WK}{s z:WS}{i:Nat}{v:Value}(h:WF c k s)(he:wfl k z=(wfl k s).set i (some v)):WF (c.setIfInBounds i v) k z:=
 ⟨by simpa using h.size,fun j u d=>by
   rw[he]at d;rcases fz d with⟨rfl,e⟩|⟨G5,e⟩
   ·have hl:j<(wfl k s).length:=by have:=(List.getElem?_eq_some_iff.1 d).1;simpa using this
    have:(wfl k s).length=47:=rfl;have hs:=h.size;cases e;rw[Array.getElem?_setIfInBounds,if_pos rfl,if_pos (by omega)]
   ·rw[ba (aF G5)];exact h.at_ j u e⟩
theorem fy.same{w:World}{p o d n:Nat}{c z:Array Value}{g:Option Nat}{bs:Bytes}(h:fy w p o c g bs)(A:eY d n c z)(F:o+11≤d∨d+n≤o):fy w p o z g bs:=
 ⟨h.row.imp fun _ k=>⟨by rw[A.2 o (by omega)];exact k.1,k.2⟩,fun j D=>by obtain⟨m,hm⟩:=h.scratch j D;exact⟨m,by rw[A.2 _ (by omega)];exact hm⟩,h.ne⟩
theorem fy.set{w:World}{p o i:Nat}{c:Array Value}{g:Option Nat}{bs:Bytes}{v:Value}(h:fy w p o c g bs)(d:i<o∨o+11≤i):fy w p o (c.setIfInBounds i v) g bs:=
 h.same (eY.set (o:=i) (k:=1) c i v (by omega)) (by omega)
def jr(l:List (Nat×ByteArray×Nat)):List Value:=l.flatMap fun x=>[.slice (some ⟨x.1,0,none⟩) 1 1,.int .u64 x.2.2]
structure wL(w:World)(v:Value)(g:Option Nat)(l:List (Nat×ByteArray×Nat)):Prop where
 own:w.ownsRow 0 387 2 v l.length (jr l)
 blk:v.ownBlock=g
theorem wL.upd{L:List Nat}{w w':World}{v:Value}{g:Option Nat}{l:List (Nat×ByteArray×Nat)}(h:wL w v g l)(hu:Upd L w w')(hn:∀k,g=some k→k∉L):wL w' v g l:=
 ⟨hu.row h.own (by rw[h.blk];exact hn),h.blk⟩
abbrev smap(l:List (ByteArray×Value)):Obj:=bI Value.string l
structure WB(w:World)(k:WK)(r:WR)(s:WS)(c:Array Value):Prop where
 blk:w.heap[k.W]? =some (.cells c 243 (0,0))
 wf:WF c k s
 e1:fy w k.W 12 c r.g1 s.b1
 e2:fy w k.W 23 c r.g2 s.b2
 li:∃d,c[39]? =some d∧wL w d r.gL s.li
structure WI(w:World)(k:WK)(r:WR)(s:WS):Prop where
 blk:∃c,WB w k r s c
 f:FW w k.F r.gF s.bF
 fP:FW w k.FP r.gP s.bP
 fPO:FW w k.FPO r.gPO s.bPO
 mc:w.heap[k.MC]? =some (smap s.cache)
 mn:w.heap[k.MN]? =some (smap s.names)
 dig:Dig w k.D k.tb s.crc
 keys:∀x∈s.li,w.cell? ⟨x.1,0,none⟩=some (.string x.2.1)∧∀i:Nat,(wl k r)[i]?≠some (some x.1)
 dis:Dis (wl k r)
 lt:Blt (wl k r) w.heap.size
structure WT(w:World)(k:WK)(r:WR)(n:Nat)(w':World)(r':WR):Prop where
 upd:Upd (gx (wl k r) BH) w w'
 newer:yZ w.heap.size (wl k r) (wl k r')
 kept:fF w w' r.gF n
def WP(w:World)(k:WK)(r:WR)(n:Nat)(d:WS)(w':World):Prop:=∃r',WI w' k r' d∧WT w k r n w' r'
def WQ(w:World)(k:WK)(r:WR)(n:Nat)(d:WS)(w':World):Prop:=∃r',WI w' k r' d∧WT w k r n w' r'∧r'.gF=r.gF
theorem WQ.toP{w:World}{k:WK}{r:WR}{n:Nat}{d:WS}{w':World}(h:WQ w k r n d w'):WP w k r n d w':=by obtain⟨r',a,b,_⟩:=h;exact⟨r',a,b⟩
theorem WT.refl{w:World}{k:WK}{r:WR}{n:Nat}:WT w k r n w r:=⟨(ae w).mono (by simp),fun _ _ h=>.inl h,fF.refl _ _ _⟩
theorem WT.trans{w w1 w2:World}{k:WK}{r r1 F:WR}{s:WS}{n:Nat}(hI:WI w k r s)(h:WT w k r n w1 r1)(z:WT w1 k r1 n w2 F):WT w k r n w2 F:=by
 refine⟨h.upd.then z.upd ?_,?_,?_⟩
 ·intro b hb hl;obtain⟨i,G,e⟩:=cu.1 hb;rcases h.newer i b e with d|d
  ·exact cu.2 ⟨i,G,d⟩
  ·omega
 ·intro i b e;rcases z.newer i b e with d|d
  ·exact h.newer i b d
  ·have:=h.upd.size;exact .inr (by omega)
 ·intro q hq j A;have hs:(wl k r)[8]? =some (some q):=congrArg some hq;by_cases he:r1.gF=some q
  ·exact(z.kept q he j A).trans (h.kept q hq j A)
  ·refine Eq.trans ?_ (h.kept q hq j A);have D:=hI.lt 8 q hs;have hn:q∉gx (wl k r1) BH:=by
    intro hm;obtain⟨i,G,e⟩:=cu.1 hm;rcases h.newer i q e with d|d
    ·have:=hI.dis i 8 q d hs;subst this;exact he (cI e)
    ·omega
   have:=z.upd.keep q (h.upd.lt D) hn;simp only[World.cell?,this]
theorem WP.trans{w w1 w2:World}{k:WK}{r r1:WR}{s s2:WS}{n:Nat}(hI:WI w k r s)(h:WT w k r n w1 r1)(d:WP w1 k r1 n s2 w2):WP w k r n s2 w2:=by obtain⟨z,a,b⟩:=d;exact⟨z,a,h.trans hI b⟩
theorem WT.mono{w w':World}{k:WK}{r r':WR}{n m:Nat}(h:WT w k r n w' r')(hm:m≤n):WT w k r m w' r':=⟨h.upd,h.newer,h.kept.mono hm⟩
structure DC(w:World)(k:WK)(r:WR)(s:WS)(I:List Nat):Prop where
 f:1∉I→8∉I→FW w k.F r.gF s.bF
 fP:2∉I→9∉I→FW w k.FP r.gP s.bP
 fPO:3∉I→10∉I→FW w k.FPO r.gPO s.bPO
 mc:4∉I→w.heap[k.MC]? =some (smap s.cache)
 mn:5∉I→w.heap[k.MN]? =some (smap s.names)
 dig:6∉I→7∉I→Dig w k.D k.tb s.crc
 keys:∀x∈s.li,w.cell? ⟨x.1,0,none⟩=some (.string x.2.1)
 blk:0∉I→11∉I→12∉I→13∉I→(∃c,WB w k r s c)
theorem WI.frame{w w':World}{k:WK}{r:WR}{s:WS}(h:WI w k r s)(I:List Nat)(hu:Upd (gx (wl k r) I) w w'):DC w' k r s I:=by
 have nn:∀i b:Nat,(wl k r)[i]? =some (some b)→i∉I→b∉gx (wl k r) I:=fun i b h1 d=>nin h.dis h1 d
 refine⟨fun h1 z=>h.f.upd hu (nn 1 _ rfl h1) (fun q hq=>nn 8 q (congrArg some hq) z),fun h1 z=>h.fP.upd hu (nn 2 _ rfl h1) (fun q hq=>nn 9 q (congrArg some hq) z),
  fun h1 z=>h.fPO.upd hu (nn 3 _ rfl h1) (fun q hq=>nn 10 q (congrArg some hq) z),fun h1=>hu.blk h.mc (nn 4 _ rfl h1),fun h1=>hu.blk h.mn (nn 5 _ rfl h1),
  fun h1 d=>h.dig.upd hu (nn 6 _ rfl h1) (nn 7 _ rfl d),fun x A=>hu.cell (fw (h.keys x A).2) (h.keys x A).1,fun D h1 d F=>?_⟩
 obtain⟨c,hb⟩:=h.blk;obtain⟨G,hl,hr⟩:=hb.li;exact⟨c,hu.blk hb.blk (nn 0 _ rfl D),hb.wf,hb.e1.upd hu (fun q hq=>nn 11 q (congrArg some hq) h1),hb.e2.upd hu (fun q hq=>nn 12 q (congrArg some hq) d),G,hl,hr.upd hu (fun q hq=>nn 13 q (congrArg some hq) F)⟩
theorem eC{l:List (Option Nat)}{I:List Nat}(hI:∀i∈I,i∈BH):∀b∈gx l I,b∈gx l BH:=fun _ hb=>by obtain⟨i,d,e⟩:=cu.1 hb;exact cu.2 ⟨i,hI i d,e⟩
theorem WI.kept{w w':World}{k:WK}{r:WR}{s:WS}(h:WI w k r s){I:List Nat}(hu:Upd (gx (wl k r) I) w w')(d:8∉I)(n:Nat):fF w w' r.gF n:=
 nc hu n (fun q hq=>⟨h.lt 8 q (congrArg some hq),nin h.dis (i:=8) (congrArg some hq) d⟩)
theorem g5{w:World}{k:WK}{r r':WR}{s:WS}(h:WI w k r s){i:Nat}{g':Option Nat}(he:wl k r'=(wl k r).set i g')(hg:∀b,g'=some b→(wl k r)[i]? =some (some b)∨w.heap.size≤b):
 ∀x∈s.li,∀j:Nat,(wl k r')[j]?≠some (some x.1):=by
 intro x D j e;rw[he]at e;have d:=h.keys x D;have z:=ez d.1;rcases fz e with⟨e1,e2⟩|⟨_,e2⟩
 ·rcases hg _ e2 with A|A
  ·exact d.2 _ A
  ·have F:x.1<w.heap.size:=z;omega
 ·exact d.2 _ e2
theorem js{n:Nat}{g g':Option Nat}{l:List (Option Nat)}{i:Nat}(hg:g'=g∨∃k,g'=some k∧n≤k)(hl:l[i]? =some g):∀b,g'=some b→l[i]? =some (some b)∨n≤b:=by
 rintro b rfl;rcases hg with h|⟨k,h,d⟩
 ·exact .inl (by rw[hl,h])
 ·cases h;exact .inr d
theorem WI.enc1{w w':World}{k:WK}{r:WR}{s:WS}{c:Array Value}{bs':Bytes}(n:Nat)(h:WI w k r s)(hb:WB w k r s c)(hP:cS 243 w k.W 12 c r.g1 bs' w'):
 WQ w k r n {s with b1:=bs'} w':=by
 obtain⟨F,g',h1,A,d,h4,h5⟩:=hP;have hu:Upd (gx (wl k r) [0,11]) w w':=h4.mono (by
  intro b hm;simp only[ah,fh]at hm;rcases hm with rfl|hm
  ·exact cu.2 ⟨0,by simp,rfl⟩
  ·exact cu.2 ⟨11,by simp,congrArg some hm⟩)
 have hf:=h.frame _ hu;have hg:=js (l:=wl k r) (i:=11) h5 rfl;have he:wl k {r with g1:=g'}=(wl k r).set 11 g':=rfl;obtain⟨G,hl,hr⟩:=hb.li;have z:∀b,g'=some b→b<w'.heap.size:=fun b e=>by obtain⟨v,_,G3⟩:=A.row;exact G3.lt b e
 refine⟨{r with g1:=g'},⟨⟨F,h1,hb.wf.same d (by omega) (by omega) rfl,A,(hb.e2.same d (by omega)).upd hu (fun q hq=>nin h.dis (i:=12) (congrArg some hq) (by simp)),G,?_,hr.upd hu (fun q hq=>nin h.dis (i:=13) (congrArg some hq) (by simp))⟩,hf.f (by simp) (by simp),hf.fP (by simp) (by simp),hf.fPO (by simp) (by simp),hf.mc (by simp),hf.mn (by simp),hf.dig (by simp) (by simp),
  fun x D=>⟨hf.keys x D,g5 h he hg x D⟩,by rw[he];exact iW h.dis h.lt hg,by rw[he];exact iU h.lt hu.size z⟩,
  ⟨hu.mono (eC (by simp)),by rw[he];exact eV hg,h.kept hu (by simp) n⟩,rfl⟩
 rw[d.2 39 (by omega)];exact hl
theorem WI.enc2{w w':World}{k:WK}{r:WR}{s:WS}{c:Array Value}{bs':Bytes}(n:Nat)(h:WI w k r s)(hb:WB w k r s c)(hP:cS 243 w k.W 23 c r.g2 bs' w'):
 WQ w k r n {s with b2:=bs'} w':=by
 obtain⟨F,g',h1,A,d,h4,h5⟩:=hP;have hu:Upd (gx (wl k r) [0,12]) w w':=h4.mono (by
  intro b hm;simp only[ah,fh]at hm;rcases hm with rfl|hm
  ·exact cu.2 ⟨0,by simp,rfl⟩
  ·exact cu.2 ⟨12,by simp,congrArg some hm⟩)
 have hf:=h.frame _ hu;have hg:=js (l:=wl k r) (i:=12) h5 rfl;have he:wl k {r with g2:=g'}=(wl k r).set 12 g':=rfl;obtain⟨G,hl,hr⟩:=hb.li;have z:∀b,g'=some b→b<w'.heap.size:=fun b e=>by obtain⟨v,_,G3⟩:=A.row;exact G3.lt b e
 refine⟨{r with g2:=g'},⟨⟨F,h1,hb.wf.same d (by omega) (by omega) rfl,(hb.e1.same d (by omega)).upd hu (fun q hq=>nin h.dis (i:=11) (congrArg some hq) (by simp)),A,G,?_,hr.upd hu (fun q hq=>nin h.dis (i:=13) (congrArg some hq) (by simp))⟩,hf.f (by simp) (by simp),hf.fP (by simp) (by simp),hf.fPO (by simp) (by simp),hf.mc (by simp),hf.mn (by simp),hf.dig (by simp) (by simp),
  fun x D=>⟨hf.keys x D,g5 h he hg x D⟩,by rw[he];exact iW h.dis h.lt hg,by rw[he];exact iU h.lt hu.size z⟩,
  ⟨hu.mono (eC (by simp)),by rw[he];exact eV hg,h.kept hu (by simp) n⟩,rfl⟩
 rw[d.2 39 (by omega)];exact hl
theorem lZ{L:List (Option Nat)}{w w':World}{i j F:Nat}{g:Option Nat}(hu:Upd (F::g.toList) w w')(d:L[i]? =some (some F))(z:L[j]? =some g):Upd (gx L [i,j]) w w':=hu.mono (by
 intro b hm;simp only[ah,fh]at hm;rcases hm with rfl|hm
 ·exact cu.2 ⟨i,by simp,d⟩
 ·exact cu.2 ⟨j,by simp,by rw[z,hm]⟩)
theorem WI.opF{w w':World}{k:WK}{r:WR}{s:WS}{bs':Bytes}{n:Nat}(h:WI w k r s)(hn:n≤s.bF.length)(hP:iJ w k.F r.gF bs' w')(hK:fF w w' r.gF s.bF.length):WP w k r n {s with bF:=bs'} w':=by
 obtain⟨g',h1,h4,h5⟩:=hP;have hu:Upd (gx (wl k r) [1,8]) w w':=lZ h4 rfl rfl;have hf:=h.frame _ hu;have hg:=js (l:=wl k r) (i:=8) h5 rfl;have he:wl k {r with gF:=g'}=(wl k r).set 8 g':=rfl;obtain⟨c,hb⟩:=hf.blk (by simp) (by simp) (by simp) (by simp)
 exact⟨{r with gF:=g'},⟨⟨c,hb.blk,hb.wf.as rfl,hb.e1,hb.e2,hb.li⟩,h1,hf.fP (by simp) (by simp),hf.fPO (by simp) (by simp),hf.mc (by simp),hf.mn (by simp),hf.dig (by simp) (by simp),
  fun x d=>⟨hf.keys x d,g5 h he hg x d⟩,by rw[he];exact iW h.dis h.lt hg,by rw[he];exact iU h.lt hu.size h1.glt⟩,
  hu.mono (eC (by simp)),by rw[he];exact eV hg,hK.mono hn⟩
theorem WI.opFP{w w':World}{k:WK}{r:WR}{s:WS}{bs':Bytes}(n:Nat)(h:WI w k r s)(hP:iJ w k.FP r.gP bs' w'):WP w k r n {s with bP:=bs'} w':=by
 obtain⟨g',h1,h4,h5⟩:=hP;have hu:Upd (gx (wl k r) [2,9]) w w':=lZ h4 rfl rfl;have hf:=h.frame _ hu;have hg:=js (l:=wl k r) (i:=9) h5 rfl;have he:wl k {r with gP:=g'}=(wl k r).set 9 g':=rfl;obtain⟨c,hb⟩:=hf.blk (by simp) (by simp) (by simp) (by simp)
 exact⟨{r with gP:=g'},⟨⟨c,hb.blk,hb.wf.as rfl,hb.e1,hb.e2,hb.li⟩,hf.f (by simp) (by simp),h1,hf.fPO (by simp) (by simp),hf.mc (by simp),hf.mn (by simp),hf.dig (by simp) (by simp),
  fun x d=>⟨hf.keys x d,g5 h he hg x d⟩,by rw[he];exact iW h.dis h.lt hg,by rw[he];exact iU h.lt hu.size h1.glt⟩,
  hu.mono (eC (by simp)),by rw[he];exact eV hg,h.kept hu (by simp) n⟩
theorem WI.opFPO{w w':World}{k:WK}{r:WR}{s:WS}{bs':Bytes}(n:Nat)(h:WI w k r s)(hP:iJ w k.FPO r.gPO bs' w'):WP w k r n {s with bPO:=bs'} w':=by
 obtain⟨g',h1,h4,h5⟩:=hP;have hu:Upd (gx (wl k r) [3,10]) w w':=lZ h4 rfl rfl;have hf:=h.frame _ hu;have hg:=js (l:=wl k r) (i:=10) h5 rfl;have he:wl k {r with gPO:=g'}=(wl k r).set 10 g':=rfl;obtain⟨c,hb⟩:=hf.blk (by simp) (by simp) (by simp) (by simp)
 exact⟨{r with gPO:=g'},⟨⟨c,hb.blk,hb.wf.as rfl,hb.e1,hb.e2,hb.li⟩,hf.f (by simp) (by simp),hf.fP (by simp) (by simp),h1,hf.mc (by simp),hf.mn (by simp),hf.dig (by simp) (by simp),
  fun x d=>⟨hf.keys x d,g5 h he hg x d⟩,by rw[he];exact iW h.dis h.lt hg,by rw[he];exact iU h.lt hu.size h1.glt⟩,
  hu.mono (eC (by simp)),by rw[he];exact eV hg,h.kept hu (by simp) n⟩
theorem WI.opAt{w w':World}{k:WK}{r:WR}{s:WS}{bs':Bytes}{n q:Nat}(h:WI w k r s)(hq:r.gF=some q)(h1:FW w' k.F (some q) bs')(h4:Upd [q] w w')(hK:fF w w' r.gF n):WQ w k r n {s with bF:=bs'} w':=by
 have hu:Upd (gx (wl k r) [8]) w w':=h4.mono (by intro b hm;simp only[ag]at hm;subst hm;exact cu.2 ⟨8,by simp,congrArg some hq⟩)
 have hf:=h.frame _ hu;obtain⟨c,hb⟩:=hf.blk (by simp) (by simp) (by simp) (by simp)
 exact⟨r,⟨⟨c,hb.blk,hb.wf.as rfl,hb.e1,hb.e2,hb.li⟩,by rw[hq];exact h1,hf.fP (by simp) (by simp),hf.fPO (by simp) (by simp),hf.mc (by simp),hf.mn (by simp),hf.dig (by simp) (by simp),
  fun x d=>⟨hf.keys x d,(h.keys x d).2⟩,h.dis,h.lt.mono hu.size⟩,
  ⟨hu.mono (eC (by simp)),fun _ _ e=>.inl e,hK⟩,rfl⟩
theorem WI.hash2{w w':World}{k:WK}{r:WR}{s:WS}{c:Array Value}{bs':Bytes}{x:Nat}(n:Nat)(h:WI w k r s)(hb:WB w k r s c)(hP:pi 243 w k.W 23 c r.g2 k.D k.tb x bs' w'):
 WP w k r n {s with b2:=bs',crc:=x} w':=by
 obtain⟨F,G,g',h1,A,d,h4,h5⟩:=hP;have hu:Upd (gx (wl k r) [0,6,12]) w w':=h4.mono (by
  intro b hm;simp only[ah,fh]at hm;rcases hm with rfl|rfl|hm
  ·exact cu.2 ⟨0,by simp,rfl⟩
  ·exact cu.2 ⟨6,by simp,rfl⟩
  ·exact cu.2 ⟨12,by simp,congrArg some hm⟩)
 have hf:=h.frame _ hu;have hg:=js (l:=wl k r) (i:=12) h5 rfl;have he:wl k {r with g2:=g'}=(wl k r).set 12 g':=rfl;obtain⟨O,hl,hr⟩:=hb.li;have z:∀b,g'=some b→b<w'.heap.size:=fun b e=>by obtain⟨v,_,G3⟩:=A.row;exact G3.lt b e
 refine⟨{r with g2:=g'},⟨⟨G,h1,hb.wf.same d (by omega) (by omega) rfl,(hb.e1.same d (by omega)).upd hu (fun q hq=>nin h.dis (i:=11) (congrArg some hq) (by simp)),A,O,?_,hr.upd hu (fun q hq=>nin h.dis (i:=13) (congrArg some hq) (by simp))⟩,hf.f (by simp) (by simp),hf.fP (by simp) (by simp),hf.fPO (by simp) (by simp),hf.mc (by simp),hf.mn (by simp),F,
  fun x D=>⟨hf.keys x D,g5 h he hg x D⟩,by rw[he];exact iW h.dis h.lt hg,by rw[he];exact iU h.lt hu.size z⟩,
  hu.mono (eC (by simp)),by rw[he];exact eV hg,h.kept hu (by simp) n⟩
 rw[d.2 39 (by omega)];exact hl
theorem WI.hash1{w w':World}{k:WK}{r:WR}{s:WS}{c:Array Value}{bs':Bytes}{x:Nat}(n:Nat)(h:WI w k r s)(hb:WB w k r s c)(hP:pi 243 w k.W 12 c r.g1 k.D k.tb x bs' w'):
 WP w k r n {s with b1:=bs',crc:=x} w':=by
 obtain⟨F,G,g',h1,A,d,h4,h5⟩:=hP;have hu:Upd (gx (wl k r) [0,6,11]) w w':=h4.mono (by
  intro b hm;simp only[ah,fh]at hm;rcases hm with rfl|rfl|hm
  ·exact cu.2 ⟨0,by simp,rfl⟩
  ·exact cu.2 ⟨6,by simp,rfl⟩
  ·exact cu.2 ⟨11,by simp,congrArg some hm⟩)
 have hf:=h.frame _ hu;have hg:=js (l:=wl k r) (i:=11) h5 rfl;have he:wl k {r with g1:=g'}=(wl k r).set 11 g':=rfl;obtain⟨O,hl,hr⟩:=hb.li;have z:∀b,g'=some b→b<w'.heap.size:=fun b e=>by obtain⟨v,_,G3⟩:=A.row;exact G3.lt b e
 refine⟨{r with g1:=g'},⟨⟨G,h1,hb.wf.same d (by omega) (by omega) rfl,A,(hb.e2.same d (by omega)).upd hu (fun q hq=>nin h.dis (i:=12) (congrArg some hq) (by simp)),O,?_,hr.upd hu (fun q hq=>nin h.dis (i:=13) (congrArg some hq) (by simp))⟩,hf.f (by simp) (by simp),hf.fP (by simp) (by simp),hf.fPO (by simp) (by simp),hf.mc (by simp),hf.mn (by simp),F,
  fun x D=>⟨hf.keys x D,g5 h he hg x D⟩,by rw[he];exact iW h.dis h.lt hg,by rw[he];exact iU h.lt hu.size z⟩,
  hu.mono (eC (by simp)),by rw[he];exact eV hg,h.kept hu (by simp) n⟩
 rw[d.2 39 (by omega)];exact hl
def WS.rest(s:WS):Bytes×Bytes×Bytes×Bytes×Bytes×List (ByteArray×Value)×List (Nat×ByteArray×Nat)×List (ByteArray×Value)×Nat:=(s.bF,s.bP,s.bPO,s.b1,s.b2,s.cache,s.li,s.names,s.crc)
theorem WI.field{w:World}{k:WK}{r:WR}{s:WS}(n:Nat)(h:WI w k r s)(i:Nat)(v:Value)(F:WS)(hi:i<12∨34≤i)(a6:i≠39)(he:wfl k F=(wfl k s).set i (some v))(hr:F.rest=s.rest):
 WI (w.setCell ⟨k.W,i,none⟩ v) k r F∧WT w k r n (w.setCell ⟨k.W,i,none⟩ v) r:=by
 have hu:Upd (gx (wl k r) [0]) w (w.setCell ⟨k.W,i,none⟩ v):=((ae w).mono (by simp)).setCell (fun _=>cu.2 ⟨0,by simp,rfl⟩) _;have hf:=h.frame _ hu;obtain⟨c,hb⟩:=h.blk;obtain⟨lv,hl,V⟩:=hb.li;cases s with|mk bF bP bPO b1 b2 pP pPO cnt t0 t1 t2 t3 t4 t5 stage pst nsym symV sfV lastSym cache li names lastSer lastRef lastChunk crc=>
 cases F with|mk a7 a9 a0 bb bd be a1 a2 bg bl bn br bv bw G a3 W ad a4 z O li' U A D d a5=>
 simp only[WS.rest,cW]at hr;obtain⟨rfl,rfl,rfl,rfl,rfl,rfl,rfl,rfl,rfl⟩:=hr
 refine⟨⟨⟨_,au hb.blk i v,hb.wf.set he,(hb.e1.set (by omega)).upd hu (fun q hq=>nin h.dis (i:=11) (congrArg some hq) (by simp)),(hb.e2.set (by omega)).upd hu (fun q hq=>nin h.dis (i:=12) (congrArg some hq) (by simp)),lv,?_,V.upd hu (fun q hq=>nin h.dis (i:=13) (congrArg some hq) (by simp))⟩,
  hf.f (by simp) (by simp),hf.fP (by simp) (by simp),hf.fPO (by simp) (by simp),hf.mc (by simp),hf.mn (by simp),hf.dig (by simp) (by simp),fun x hx=>⟨hf.keys x hx,(h.keys x hx).2⟩,h.dis,h.lt.mono hu.size⟩,
  hu.mono (eC (by simp)),fun _ _ e=>.inl e,h.kept hu (by simp) n⟩
 rw[ba (by omega)];exact hl
theorem WI.other{L:List Nat}{w w':World}{k:WK}{r:WR}{s:WS}(h:WI w k r s)(hu:Upd L w w')(hL:∀b∈L,(∀i:Nat,(wl k r)[i]?≠some (some b))∧∀x∈s.li,x.1≠b):WI w' k r s:=by
 have nn:∀i b:Nat,(wl k r)[i]? =some (some b)→b∉L:=fun i b h1 z=>(hL b z).1 i h1;obtain⟨c,hb⟩:=h.blk;obtain⟨A,hl,hr⟩:=hb.li
 exact⟨⟨c,hu.blk hb.blk (nn 0 _ rfl),hb.wf,hb.e1.upd hu (fun q hq=>nn 11 q (congrArg some hq)),hb.e2.upd hu (fun q hq=>nn 12 q (congrArg some hq)),A,hl,hr.upd hu (fun q hq=>nn 13 q (congrArg some hq))⟩,
  h.f.upd hu (nn 1 _ rfl) (fun q hq=>nn 8 q (congrArg some hq)),h.fP.upd hu (nn 2 _ rfl) (fun q hq=>nn 9 q (congrArg some hq)),h.fPO.upd hu (nn 3 _ rfl) (fun q hq=>nn 10 q (congrArg some hq)),
  hu.blk h.mc (nn 4 _ rfl),hu.blk h.mn (nn 5 _ rfl),h.dig.upd hu (nn 6 _ rfl) (nn 7 _ rfl),fun x d=>⟨hu.cell (fun hm=>(hL _ hm).2 x d rfl) (h.keys x d).1,(h.keys x d).2⟩,h.dis,h.lt.mono hu.size⟩
theorem WI.new{w w':World}{k:WK}{r:WR}{s:WS}(h:WI w k r s)(hu:Upd [] w w'):WI w' k r s:=h.other hu (by simp)
theorem WT.new{w w':World}{k:WK}{r:WR}{s:WS}{n:Nat}(h:WI w k r s)(hu:Upd [] w w'):WT w k r n w' r:=
 ⟨hu.mono (by simp),fun _ _ e=>.inl e,nc hu n (fun q hq=>⟨h.lt 8 q (congrArg some hq),by simp⟩)⟩
theorem WI.cell{w:World}{k:WK}{r:WR}{s:WS}(h:WI w k r s)(i:Nat)(v:Value)(hv:(wfl k s)[i]? =some (some v)):w.cell? ⟨k.W,i,none⟩=some v:=by obtain⟨c,hb⟩:=h.blk;rw[af hb.blk];exact hb.wf.at_ i v hv
theorem WI.free{w:World}{k:WK}{r:WR}{s:WS}(h:WI w k r s)(i:Nat):w.frozen? ⟨k.W,i,none⟩=false:=by obtain⟨c,hb⟩:=h.blk;exact ao hb.blk i
theorem WT.keep{w w':World}{k:WK}{r r':WR}{n b:Nat}{o:Obj}(h:WT w k r n w' r')(hb:w.heap[b]? =some o)(hn:∀i:Nat,(wl k r)[i]?≠some (some b)):w'.heap[b]? =some o:=
 h.upd.blk hb (fw hn)
theorem WT.o{w w':World}{k:WK}{r r':WR}{n b:Nat}(h:WT w k r n w' r')(hb:b<w.heap.size)(hn:∀i:Nat,(wl k r)[i]?≠some (some b)):∀i:Nat,(wl k r')[i]?≠some (some b):=by
 intro i e;rcases h.newer i b e with d|d
 ·exact hn i d
 ·omega
abbrev dN:=@WT.new
abbrev gZ:=@WT.refl
abbrev ak:=@WT.trans
end Go.Proofs.YtlgefdfflmgocaaGreatDoor
