import Derived.Below
import Derived.OneCell
import Derived.Deep.Draws
import Derived.Laws.AppendOwn
import Derived.Lib.AppendStr
import Derived.Laws.IdiomCopy
import Derived.Deep.RegionLaw
import Derived.Lib.Hide
import Derived.Test.YtlgefdfflmgocaaGreatDoorProg
import Derived.Test.YtlgefdfflmgocaaGreatDoorQShelf
import Derived.StillTailTactics
import Derived.WalkKit
import Derived.Outline
import Derived.WalkLawsBesides
import Derived.WalkSpells
import Derived.Deep.QuietTactic
import Derived.BigQuiet
import Derived.Lib.VarintMem
import Derived.Laws.BitsAllLaws
import Derived.Test.YtlgefdfflmgocaaGreatDoorQAl
set_option linter.all false
set_option maxRecDepth 100000
set_option maxHeartbeats 800000
namespace Xc
open Go Go.RowKit
structure Upd(L:List Nat)(w w':World):Prop where
 os:w'.os=w.os
 tape:w'.tape=w.tape
 output:w'.output=w.output
 size:w.heap.size≤w'.heap.size
 keep:∀b,b<w.heap.size→b∉L→w'.heap[b]? =w.heap[b]?
theorem Upd.refl(w:World):Upd [] w w:=⟨rfl,rfl,rfl,aw _,fun _ _ _=>rfl⟩
theorem Upd.mono{L M:List Nat}{w w':World}(h:Upd L w w')(hs:∀b∈L,b∈M):Upd M w w':=
 ⟨h.os,h.tape,h.output,h.size,fun b hb hm=>h.keep b hb (fun hl=>hm (hs b hl))⟩
theorem Upd.trans{L M:List Nat}{a b c:World}(h:Upd L a b)(k:Upd M b c):Upd (L++M) a c:=
 ⟨k.os.trans h.os,k.tape.trans h.tape,k.output.trans h.output,aW h.size k.size,fun i d hn=>by simp only[aA,not_or]at hn;exact(k.keep i (bD d h.size) hn.2).trans (h.keep i d hn.1)⟩
theorem Upd.then{L M:List Nat}{a b c:World}(h:Upd L a b)(k:Upd M b c)(hs:∀i∈M,i<a.heap.size→i∈L):Upd L a c:=
 ⟨k.os.trans h.os,k.tape.trans h.tape,k.output.trans h.output,aW h.size k.size,fun i d hn=>
   (k.keep i (bD d h.size) (fun hm=>hn (hs i hm d))).trans (h.keep i d hn)⟩
theorem Upd.drew{L:List Nat}{a w:World}(h:Upd L a w):Upd L a w.drew:=⟨h.os,h.tape,h.output,h.size,h.keep⟩
theorem Upd.drewN{L:List Nat}{a w:World}(h:Upd L a w)(n:Nat):Upd L a (w.drewN n):=⟨h.os,h.tape,h.output,h.size,h.keep⟩
theorem Upd.alloc{L:List Nat}{a w:World}(h:Upd L a w)(o:Obj):Upd L a (w.alloc o):=
 ⟨h.os,h.tape,h.output,by simp only[aJ];have:=h.size;omega,fun i d hn=>by rw[Below.heap_alloc _ _ _ (bD d h.size)];exact h.keep i d hn⟩
theorem Upd.setCell{L:List Nat}{a w:World}(h:Upd L a w){p:Addr}(z:p.block<a.heap.size→p.block∈L)(u:Value):Upd L a (w.setCell p u):=
 ⟨h.os,h.tape,h.output,by simpa[World.setCell]using h.size,fun i d hn=>by
   by_cases e:i=p.block
   ·exact absurd (z (e▸d)) (e▸hn)
   ·rw[Below.heap_setCell _ _ _ _ e];exact h.keep i d hn⟩
theorem Upd.grown{L:List Nat}{a w w':World}{row:Option Nat}(h:Upd L a w)(hg:w.grownBy w' row)(hr:∀k,row=some k→k<a.heap.size→k∈L):Upd L a w':=
 ⟨hg.os.trans h.os,hg.tape.trans h.tape,hg.output.trans h.output,aW h.size hg.size,fun i d hn=>
   (hg.block i (bD d h.size) (fun e=>hn (hr i e.symm d))).trans (h.keep i d hn)⟩
theorem Upd.below{L:List Nat}{w w':World}(h:Upd L w w'){B:Nat}(hB:B≤w.heap.size)(hL:∀b∈L,B≤b):Below B w w':=
 ⟨h.os,h.tape,h.output,h.size,fun k d=>h.keep k (by omega) (fun hm=>by have:=hL k hm;omega)⟩
theorem Upd.ofBelow{w w':World}(h:Below w.heap.size w w'):Upd [] w w':=⟨h.os,h.tape,h.output,h.size,fun b hb _=>h.block b hb⟩
theorem Upd.blk{L:List Nat}{w w':World}{b:Nat}{o:Obj}(h:Upd L w w')(hb:w.heap[b]? =some o)(hn:b∉L):w'.heap[b]? =some o:=
 (h.keep b (lt_of_block hb) hn).trans hb
theorem Upd.lt{L:List Nat}{w w':World}{b:Nat}(h:Upd L w w')(hb:b<w.heap.size):b<w'.heap.size:=bD hb h.size
theorem Upd.row{L:List Nat}{w w':World}{B:Nat}{e:TypeId}{size:Nat}{v:Value}{n:Nat}{xs:List Value}(h:Upd L w w')
 (hr:w.ownsRow B e size v n xs)(hn:∀k,v.ownBlock=some k→k∉L):w'.ownsRow B e size v n xs:=by
 refine⟨hr.1,?_⟩;rcases hr.2 with hv|⟨g,cap,cur,rfl,hb,d,rest⟩
 ·exact .inl hv
 ·exact .inr ⟨g,cap,cur,rfl,hb,h.blk d (hn g rfl),rest⟩
section
variable {w:World} {b:Nat} {c:Array Value} {t:TypeId} {i:Nat} {u:Value}
theorem af(h:w.heap[b]? =some (.cells c t (0,0)))(i:Nat):w.cell? ⟨b,i,none⟩=c[i]? :=by simp[World.cell?,h]
theorem ao(h:w.heap[b]? =some (.cells c t (0,0)))(i:Nat):w.frozen? ⟨b,i,none⟩=false:=by simp[World.frozen?,h]
theorem au(h:w.heap[b]? =some (.cells c t (0,0)))(i:Nat)(u:Value):(w.setCell ⟨b,i,none⟩ u).heap[b]? =some (.cells (c.setIfInBounds i u) t (0,0)):=by
 have d:=lt_of_block h;have z:w.heap[b]=.cells c t (0,0):=by simpa[dm d]using h
 show(w.heap.modify b _)[b]? =_;rw[dm (by simpa using d),Array.getElem_modify_self,z];rfl
theorem gv{k:Nat}(a:Addr)(u:Value)(d:k≠a.block):(w.setCell a u).heap[k]? =w.heap[k]? :=Below.heap_setCell _ _ _ _ d
theorem an(o:Obj):(w.alloc o).heap[w.heap.size]? =some o:=by show(w.heap.push o)[_]? =_;simp
theorem eB(o:Obj){k:Nat}(d:k<w.heap.size):(w.alloc o).heap[k]? =w.heap[k]? :=Below.heap_alloc _ _ _ d
end
section
variable {P:Program} (w:World)
theorem iz(t ty e:TypeId)(i:TypeInfo)(z:Value)(size bytes:Nat)(ht:P.underlying t=some (.slice e))(hi:P.info? e=some i)(hz:i.zero=some z)
 (F:i.size=size)(U:i.bytes=bytes)(ad:z.cells.size=size)(a0:0<size)
 (v:Value)(n:Nat)(xs:List Value)(D:w.ownsRow 0 e size v n xs)
 (a:Addr)(m c:Nat)(news:List Value)(hl:news.length=m*size)(d:∀j u,news[j]? =some u→w.cell? (a.add j)=some u)(h1:∀u∈news,u.oneCell'=true)
 (V:n+m≤maxLen)(A:(n+m)*bytes≤140737488355328):
 ∃v' w',(Builtin.append_ #[t,t] ty #[v,.slice (some a) m c]).run P w=.ok v' w'∧w'.ownsRow 0 e size v' (n+m) (xs++news)∧w.grownBy w' v.ownBlock∧
  (v'.ownBlock=v.ownBlock∨∃g,v'.ownBlock=some g∧w.heap.size≤g):=by
 obtain⟨v',w',hr,h2,h3,h4⟩:=run_append_own (P:=P) w 0 t ty e i z size bytes ht hi hz F U ad a0 v n xs D a m c news hl d h1 V A (ay _);refine⟨v',w',hr,h2,h3,?_⟩;rcases D.2 with⟨hv,hn⟩|⟨g,cap,cur,hv,a1,hg,a6,a7,a3,a4⟩
 ·subst hv;obtain⟨a9,bb,G,a5,_,_⟩:=run_append_own (P:=P) w w.heap.size t ty e i z size bytes ht hi hz F U ad a0 (.slice none 0 0) n xs ⟨D.1,.inl ⟨rfl,hn⟩⟩ a m c news hl d h1 V A (aw _);rw[G]at hr;cases hr;rcases a5.2 with⟨W,_⟩|⟨g,cap,cur,W,a1,_⟩
  ·exact .inl (by rw[W])
  ·exact .inr ⟨g,by rw[W];rfl,a1⟩
 ·subst hv;subst F;by_cases O:n+m≤cap
  ·have a2:n*i.size+news.length≤cur.size:=by rw[hl,a3,←Nat.add_mul];exact Nat.mul_le_mul_right _ O
   have G:=run_append_room (P:=P) w t ty e i ht hi g n cap cur hg a m c news hl d h1 O a2;rw[G]at hr;cases hr;exact .inl rfl
  ·have holds:∀j u,xs[j]? =some u→w.cell? ((⟨g,0,none⟩:Addr).add j)=some u:=D.cells (g:=g) rfl;have G:=run_append_grow (P:=P) w t ty e i z ht hi hz ⟨g,0,none⟩ n cap xs D.1 holds a m c news hl d (by omega) (by simp only[maxLen]at V;omega) (growslice_fits (by omega) (by rw[U];exact A));rw[G]at hr;cases hr;exact .inr ⟨_,rfl,aw _⟩
theorem nS{ops:Array Oper}{rest:List Oper}{o:Oper}{a:Act}{Q:Exit→Act→World→Prop}(G:o.guard=none)(s x:Operand)(t:TypeId)
 (ho:o.op=.call {callee:=.builtin .append,args:= #[s,x],argTypes:= #[t,t]})
 (e:TypeId)(i:TypeInfo)(z:Value)(size bytes:Nat)(ht:P.underlying t=some (.slice e))(hi:P.info? e=some i)(hz:i.zero=some z)
 (A:i.size=size)(O:i.bytes=bytes)(U:z.cells.size=size)(V:0<size)
 (v:Value)(n:Nat)(xs:List Value)(hs:a.eval s=v)(F:w.ownsRow 0 e size v n xs)
 (W:Addr)(m c:Nat)(news:List Value)(hx:a.eval x=.slice (some W) m c)(hl:news.length=m*size)(D:∀j u,news[j]? =some u→w.cell? (W.add j)=some u)(h1:∀u∈news,u.oneCell'=true)
 (a0:n+m≤maxLen)(d:(n+m)*bytes≤140737488355328)
 (h:∀v' w',w'.ownsRow 0 e size v' (n+m) (xs++news)→w.grownBy w' v.ownBlock→(v'.ownBlock=v.ownBlock∨∃g,v'.ownBlock=some g∧w.heap.size≤g)→wpList P ops Q rest (a.put o.dst v') w'):wpList P ops Q (o::rest) a w:=
 wpList_plain G fun _ hK=>by obtain⟨v',w',hr,h2,h3,h4⟩:=iz (P:=P) w t o.type e i z size bytes ht hi hz A O U V v n xs F W m c news hl D h1 a0 d;unfold Oper.wp execOp;simp only[ho,resolve,invoke,builtin,eI,gX,fi,gI,aN,cQ,hs,hx,hr];exact hK _ _ (h v' w' h2 h3 h4)
theorem iD{ops:Array Oper}{rest:List Oper}{o:Oper}{a:Act}{Q:Exit→Act→World→Prop}(G:o.guard=none)(s x:Operand)(t:TypeId)
 (ho:o.op=.call {callee:=.builtin .append,args:= #[s,x],argTypes:= #[t,t]})
 (e:TypeId)(i:TypeInfo)(z:Value)(size bytes:Nat)(ht:P.underlying t=some (.slice e))(hi:P.info? e=some i)(hz:i.zero=some z)
 (A:i.size=size)(O:i.bytes=bytes)(U:z.cells.size=size)(V:0<size)
 (v:Value)(n:Nat)(xs:List Value)(hs:a.eval s=v)(F:w.ownsRow 0 e size v n xs)
 (W:Addr)(m c:Nat)(news:List Value)(hx:a.eval x=.slice (some W) m c)(hl:news.length=m*size)(D:∀j u,news[j]? =some u→w.cell? (W.add j)=some u)(h1:∀u∈news,u.oneCell'=true)
 (a0:n+m≤maxLen)(d:(n+m)*bytes≤140737488355328)(hm:0<m)
 (h:∀g' cap' w',w'.ownsRow 0 e size (.slice (some ⟨g',0,none⟩) (n+m) cap') (n+m) (xs++news)→Upd v.ownBlock.toList w w'→(v.ownBlock=some g'∨w.heap.size≤g')→wpList P ops Q rest (a.put o.dst (.slice (some ⟨g',0,none⟩) (n+m) cap')) w'):wpList P ops Q (o::rest) a w:=
 nS w G s x t ho e i z size bytes ht hi hz A O U V v n xs hs F W m c news hx hl D h1 a0 d fun v' w' h2 h3 h4=>by
  rcases h2.2 with⟨rfl,h5⟩|⟨g',cap',cur,rfl,_⟩
  ·omega
  ·refine h g' cap' w' h2 ((Upd.refl w).mono (by simp)|>.grown h3 ?_) ?_
   ·intro k hk _;rw[hk];simp
   ·rcases h4 with h4|⟨_,h4,h5⟩
    ·exact .inl h4.symm
    ·cases h4;exact .inr h5
theorem dZ(t ty e:TypeId)(i:TypeInfo)(z:Value)(size bytes:Nat)(ht:P.underlying t=some (.slice e))(hi:P.info? e=some i)(hz:i.zero=some z)
 (A:i.size=size)(G:i.bytes=bytes)(O:z.cells.size=size)(U:0<size)
 (v:Value)(n:Nat)(xs:List Value)(F:w.ownsRow 0 e size v n xs)
 (a:Addr)(m c:Nat)(news:List Value)(hl:news.length=m*size)(D:∀j u,news[j]? =some u→w.cell? (a.add j)=some u)(h1:∀u∈news,u.oneCell'=true)
 (V:n+m≤maxLen)(d:(n+m)*bytes≤140737488355328)(hm:0<m):
 ∃g' cap' w',(Builtin.append_ #[t,t] ty #[v,.slice (some a) m c]).run P w=.ok (.slice (some ⟨g',0,none⟩) (n+m) cap') w'∧
  w'.ownsRow 0 e size (.slice (some ⟨g',0,none⟩) (n+m) cap') (n+m) (xs++news)∧Upd v.ownBlock.toList w w'∧(v.ownBlock=some g'∨w.heap.size≤g'):=by
 obtain⟨v',w',hr,W,h3,h4⟩:=iz (P:=P) w t ty e i z size bytes ht hi hz A G O U v n xs F a m c news hl D h1 V d;rcases W.2 with⟨rfl,h5⟩|⟨g',cap',cur,rfl,_⟩
 ·omega
 ·refine⟨g',cap',w',hr,W,((Upd.refl w).mono (by simp)|>.grown h3 ?_),?_⟩
  ·intro k hk _;rw[hk];simp
  ·rcases h4 with h4|⟨_,h4,h5⟩
   ·exact .inl h4.symm
   ·cases h4;exact .inr h5
theorem df{P:Program}{ops:Array Oper}{o:Oper}{a:Act}{w:World}{K:Act→World→Prop}{Q:Exit→Act→World→Prop}{E:Prop}
 (hg:o.guard=none)(s x:Operand)(A:Array TypeId)(z:o.op=Op.call {callee:=Callee.builtin Builtin.append,args:= #[s,x],argTypes:=A})
 (D F v':Value)(w':World)(hs:a.eval s=D)(G:a.eval x=F)(d:(Builtin.append_ A o.type #[D,F]).run P w=.ok v' w')
 (hK:K (a.put o.dst v') w'):
 if Region.wanted o (yielded ops a.tmps)=true then Oper.wp P o a w K Q else E:=by
 have O:Region.wanted o (yielded ops a.tmps)=true:=by simp[Region.wanted,hg]
 rw[if_pos O];unfold Oper.wp execOp;simp only[z,resolve,invoke,builtin,eI,gX,fi,gI,aN,cQ,hs,G,d];exact hK
theorem lg(t u ty e:TypeId)(i:TypeInfo)(W:P.underlying t=some (.slice e))(hu:P.underlying u=some .string)(hi:P.info? e=some i)(hz:i.zero=some (.int .u8 0))
 (d:i.size=1)(F:i.bytes=1)(v:Value)(n:Nat)(xs:List Value)(z:w.ownsRow 0 e 1 v n xs)(s:ByteArray)
 (G:n+s.size≤maxLen)(A:n+s.size≤140737488355328):
 ∃v' w',(Builtin.append_ #[t,u] ty #[v,.string s]).run P w=.ok v' w'∧w'.ownsRow 0 e 1 v' (n+s.size) (xs++Lib.strCells s)∧w.grownBy w' v.ownBlock∧
  (v'.ownBlock=v.ownBlock∨∃g,v'.ownBlock=some g∧w.heap.size≤g):=by
 obtain⟨v',w',hr,h2,h3,h4⟩:=Lib.run_append_own_string (P:=P) w 0 t u ty e i W hu hi hz d F v n xs z s G A (ay _);refine⟨v',w',hr,h2,h3,?_⟩;rcases z.2 with⟨hv,hn⟩|⟨g,cap,cur,hv,V,hg,a1,a2,a3,ad⟩
 ·subst hv;obtain⟨a4,a5,D,a0,_,_⟩:=Lib.run_append_own_string (P:=P) w w.heap.size t u ty e i W hu hi hz d F (.slice none 0 0) n xs ⟨z.1,.inl ⟨rfl,hn⟩⟩ s G A (aw _);rw[D]at hr;cases hr;rcases a0.2 with⟨O,_⟩|⟨g,cap,cur,O,V,_⟩
  ·exact .inl (by rw[O])
  ·exact .inr ⟨g,by rw[O];rfl,V⟩
 ·subst hv;by_cases U:n+s.size≤cap
  ·have D:=Lib.run_append_room_string (P:=P) w t u ty e i W hu hi d g n cap cur hg s U (by omega);rw[D]at hr;cases hr;exact .inl rfl
  ·have holds:∀j u,xs[j]? =some u→w.cell? ((⟨g,0,none⟩:Addr).add j)=some u:=z.cells (g:=g) rfl;have D:=Lib.run_append_grow_string (P:=P) w t u ty e i (.int .u8 0) W hu hi hz ⟨g,0,none⟩ n cap xs (by rw[d];exact z.1) holds s (by omega) (by simp only[maxLen]at G;omega) (growslice_fits (by omega) (by rw[F];omega));rw[D]at hr;cases hr;exact .inr ⟨_,rfl,aw _⟩
theorem nT{ops:Array Oper}{rest:List Oper}{o:Oper}{a:Act}{Q:Exit→Act→World→Prop}(D:o.guard=none)(O x:Operand)(t u:TypeId)
 (U:o.op=.call {callee:=.builtin .append,args:= #[O,x],argTypes:= #[t,u]})
 (e:TypeId)(i:TypeInfo)(V:P.underlying t=some (.slice e))(hu:P.underlying u=some .string)(W:P.info? e=some i)(hz:i.zero=some (.int .u8 0))
 (z:i.size=1)(F:i.bytes=1)
 (v:Value)(n:Nat)(xs:List Value)(hs:a.eval O=v)(A:w.ownsRow 0 e 1 v n xs)(s:ByteArray)(hx:a.eval x=.string s)
 (G:n+s.size≤maxLen)(d:n+s.size≤140737488355328)
 (h:∀v' w',w'.ownsRow 0 e 1 v' (n+s.size) (xs++Lib.strCells s)→Upd v.ownBlock.toList w w'→(v'.ownBlock=v.ownBlock∨∃g,v'.ownBlock=some g∧w.heap.size≤g)→wpList P ops Q rest (a.put o.dst v') w'):wpList P ops Q (o::rest) a w:=
 wpList_plain D fun _ hK=>by obtain⟨v',w',hr,h2,h3,h4⟩:=lg (P:=P) w t u o.type e i V hu W hz z F v n xs A s G d;unfold Oper.wp execOp;simp only[U,resolve,invoke,builtin,eI,gX,fi,gI,aN,cQ,hs,hx,hr];exact hK _ _ (h v' w' h2 ((Upd.refl w).mono (by simp)|>.grown h3 (fun k hk _=>by rw[hk];simp)) h4)
end
def fB(c:Array Value):Nat→List Value→Array Value
 |_,[]=>c
 |o,v::r=>fB (c.setIfInBounds o v) (o+1) r
theorem jb(c:Array Value)(o:Nat)(d:List Value):(fB c o d).size=c.size:=by
 induction d generalizing c o with
 |nil=>rfl
 |cons v r z=>rw[fB,z];simp
theorem fV(c:Array Value)(o:Nat)(d:List Value)(i:Nat)(h:i<o∨o+d.length≤i):(fB c o d)[i]? =c[i]? :=by
 induction d generalizing c o with
 |nil=>rfl
 |cons v r z=>
  simp only[aj]at h;rw[fB,z _ _ (by omega),ba (by omega)]
theorem oy(c:Array Value)(o:Nat)(d:List Value)(j:Nat)(z:j<d.length)(h:o+d.length≤c.size):(fB c o d)[o+j]? =d[j]? :=by
 induction d generalizing c o j with
 |nil=>simp at z
 |cons v r A=>
  simp only[aj]at h z;rw[fB];cases j with
  |zero=>
   have D:o<c.size:=by omega
   rw[iL,fV _ _ _ _ (by omega)];simp[D]
  |succ j=>
   rw[show o+(j+1)=o+1+j from by omega,A _ _ _ (by omega) (by rw[Array.size_setIfInBounds];omega)];simp
theorem iX{w:World}{b:Nat}{c:Array Value}{t:TypeId}(h:w.heap[b]? =some (.cells c t (0,0)))(o:Nat)(d:List Value):
 (w.setCells b o d).heap[b]? =some (.cells (fB c o d) t (0,0)):=by
 induction d generalizing w c o with
 |nil=>exact h
 |cons v r z=>exact z (au h o v) (o+1)
theorem Upd.setCells{L:List Nat}{a w:World}(h:Upd L a w){b:Nat}(hb:b<a.heap.size→b∈L)(o:Nat)(d:List Value):Upd L a (w.setCells b o d):=by
 induction d generalizing w o with
 |nil=>exact h
 |cons v r z=>exact z (h.setCell hb v) (o+1)
theorem vZ{w:World}{b d:Nat}{c e:Array Value}{s t:TypeId}{f g:Nat×Nat}(h:w.heap[b]? =some (.cells c s f))(k:w.heap[d]? =some (.cells e t g))(z:s≠t):b≠d:=by intro A;subst A;rw[h]at k;cases k;exact z rfl
theorem Upd.cellv{L:List Nat}{w w':World}{b:Nat}{c:Array Value}{T:TypeId}{i:Nat}(h:Upd L w w')(hb:w.heap[b]? =some (.cells c T (0,0)))(hn:b∉L):w'.cell? ⟨b,i,none⟩=c[i]? :=af (h.blk hb hn) i
theorem Upd.freev{L:List Nat}{w w':World}{b:Nat}{c:Array Value}{T:TypeId}(h:Upd L w w')(hb:w.heap[b]? =some (.cells c T (0,0)))(hn:b∉L)(i:Nat):w'.frozen? ⟨b,i,none⟩=false:=ao (h.blk hb hn) i
theorem Upd.cell{L:List Nat}{w w':World}{a:Addr}{x:Value}(h:Upd L w w')(hn:a.block∉L)(d:w.cell? a=some x):w'.cell? a=some x:=by
 have z:a.block<w.heap.size:=by
  by_cases hl:a.block<w.heap.size
  ·exact hl
  ·exfalso;have:w.heap[a.block]? =none:=by simp;omega
   simp[World.cell?,this]at d
 have e:=h.keep _ z hn;simpa[World.cell?,e]using d
theorem ez{w:World}{a:Addr}{x:Value}(d:w.cell? a=some x):a.block<w.heap.size:=by
 by_cases hl:a.block<w.heap.size
 ·exact hl
 ·exfalso;have:w.heap[a.block]? =none:=by simp;omega
  simp[World.cell?,this]at d
def fF(w w':World)(g:Option Nat)(n:Nat):Prop:=∀k,g=some k→∀j,j<n→w'.cell? ⟨k,j,none⟩=w.cell? ⟨k,j,none⟩
theorem fF.refl(w:World)(g:Option Nat)(n:Nat):fF w w g n:=fun _ _ _ _=>rfl
theorem fF.of_upd{L:List Nat}{w w':World}{g:Option Nat}(h:Upd L w w')(n:Nat)(hl:∀k,g=some k→k<w.heap.size∧k∉L):fF w w' g n:=fun k d j _=>by have e:=h.keep k (hl k d).1 (hl k d).2;simp only[World.cell?,e]
theorem fF.trans{w w1 w2:World}{g:Option Nat}{n m:Nat}(h:fF w w1 g n)(k:fF w1 w2 g m)(hm:n≤m):fF w w2 g n:=fun q hq j d=>
 (k q hq j (by omega)).trans (h q hq j d)
theorem fF.mono{w w1:World}{g:Option Nat}{n m:Nat}(h:fF w w1 g n)(hm:m≤n):fF w w1 g m:=fun q hq j d=>h q hq j (by omega)
section
variable {P:Program} (w:World)
theorem oD(t ty e:TypeId)(i:TypeInfo)(z:Value)(size bytes:Nat)(ht:P.underlying t=some (.slice e))(hi:P.info? e=some i)(hz:i.zero=some z)
 (F:i.size=size)(W:i.bytes=bytes)(a5:z.cells.size=size)(a6:0<size)
 (v:Value)(n:Nat)(xs:List Value)(d:w.ownsRow 0 e size v n xs)
 (a:Addr)(m c:Nat)(news:List Value)(hl:news.length=m*size)(A:∀j u,news[j]? =some u→w.cell? (a.add j)=some u)(h1:∀u∈news,u.oneCell'=true)
 (ad:n+m≤maxLen)(D:(n+m)*bytes≤140737488355328){v':Value}{w':World}(G:(Builtin.append_ #[t,t] ty #[v,.slice (some a) m c]).run P w=.ok v' w'):
 fF w w' v.ownBlock (n*size):=by
 obtain⟨v2,w2,hr,h2,h3,h4⟩:=run_append_own (P:=P) w 0 t ty e i z size bytes ht hi hz F W a5 a6 v n xs d a m c news hl A h1 ad D (ay _);rw[G]at hr;cases hr;rcases d.2 with⟨hv,hn⟩|⟨g,cap,cur,hv,bd,hg,be,bg,a7,a9⟩
 ·subst hv;intro k hk;cases hk
 ·subst hv;subst F;have holds:∀j u,xs[j]? =some u→w.cell? ((⟨g,0,none⟩:Addr).add j)=some u:=d.cells (g:=g) rfl;by_cases O:n+m≤cap
  ·have a0:n*i.size+news.length≤cur.size:=by rw[hl,a7,←Nat.add_mul];exact Nat.mul_le_mul_right _ O
   have U:=run_append_room (P:=P) w t ty e i ht hi g n cap cur hg a m c news hl A h1 O a0;rw[G]at U;injection U with a3 _
   subst a3;have a4:∀j u,(xs++news)[j]? =some u→w'.cell? ((⟨g,0,none⟩:Addr).add j)=some u:=h2.cells (g:=g) rfl;intro k hk j hj;cases hk;have V:j<xs.length:=by rw[d.1];exact hj
   have a1:=holds j xs[j] (by simp[V]);have a2:=a4 j xs[j] (by rw[bH V];simp[V]);rw[aO,aK]at a1 a2;rw[a1,a2]
  ·have U:=run_append_grow (P:=P) w t ty e i z ht hi hz ⟨g,0,none⟩ n cap xs d.1 holds a m c news hl A (by omega) (by simp only[maxLen]at ad;omega) (growslice_fits (by omega) (by rw[W];exact D));rw[G]at U;injection U with a3 bb
   subst bb;refine fF.of_upd (L:=[]) (((Upd.refl w).drew).alloc _) _ ?_;intro k hk;cases hk;exact⟨lt_of_block hg,by simp⟩
theorem m7{ops:Array Oper}{rest:List Oper}{o:Oper}{a:Act}{Q:Exit→Act→World→Prop}(a0:o.guard=none)(s x:Operand)(t:TypeId)
 (ho:o.op=.call {callee:=.builtin .append,args:= #[s,x],argTypes:= #[t,t]})
 (e:TypeId)(i:TypeInfo)(z:Value)(size bytes:Nat)(ht:P.underlying t=some (.slice e))(hi:P.info? e=some i)(hz:i.zero=some z)
 (A:i.size=size)(G:i.bytes=bytes)(O:z.cells.size=size)(U:0<size)
 (v:Value)(n:Nat)(xs:List Value)(hs:a.eval s=v)(F:w.ownsRow 0 e size v n xs)
 (W:Addr)(m c:Nat)(news:List Value)(hx:a.eval x=.slice (some W) m c)(hl:news.length=m*size)(D:∀j u,news[j]? =some u→w.cell? (W.add j)=some u)(h1:∀u∈news,u.oneCell'=true)
 (V:n+m≤maxLen)(d:(n+m)*bytes≤140737488355328)(hm:0<m)
 (h:∀g' cap' w',w'.ownsRow 0 e size (.slice (some ⟨g',0,none⟩) (n+m) cap') (n+m) (xs++news)→Upd v.ownBlock.toList w w'→(v.ownBlock=some g'∨w.heap.size≤g')→fF w w' v.ownBlock (n*size)→wpList P ops Q rest (a.put o.dst (.slice (some ⟨g',0,none⟩) (n+m) cap')) w'):wpList P ops Q (o::rest) a w:=
 wpList_plain a0 fun _ hK=>by obtain⟨g',cap',w',hr,h2,h3,h4⟩:=dZ (P:=P) w t o.type e i z size bytes ht hi hz A G O U v n xs F W m c news hl D h1 V d hm;have hk:=oD (P:=P) w t o.type e i z size bytes ht hi hz A G O U v n xs F W m c news hl D h1 V d hr;unfold Oper.wp execOp;simp only[ho,resolve,invoke,builtin,eI,gX,fi,gI,aN,cQ,hs,hx,hr];exact hK _ _ (h g' cap' w' h2 h3 h4 hk)
end
abbrev nc:=@fF.of_upd
abbrev aE:=@Upd.alloc
abbrev aG:=@Upd.drew
abbrev aC:=@Upd.drewN
abbrev ae:=@Upd.refl
end Xc
namespace Go.Proofs.YtlgefdfflmgocaaGreatDoor
open Go Go.RowKit Xc Go.Proofs.Tryz
abbrev Bytes:=List UInt8
structure gl(w:World)(v:Value)(g:Option Nat)(bs:Bytes):Prop where
 own:w.ownsRow 0 5 1 v bs.length (Lib.byteCells bs)
 blk:v.ownBlock=g
structure fy(w:World)(p o:Nat)(c:Array Value)(g:Option Nat)(bs:Bytes):Prop where
 row:∃v,c[o]? =some v∧gl w v g bs
 scratch:∀j,j<10→∃n:Int,c[o+1+j]? =some (.int .u8 n)
 ne:g≠some p
def eY(o k:Nat)(c d:Array Value):Prop:=d.size=c.size∧∀i,(i<o∨o+k≤i)→d[i]? =c[i]?
def cS(T:Nat)(w:World)(p o:Nat)(c:Array Value)(g:Option Nat)(bs':Bytes)(w':World):Prop:=
 ∃d g',w'.heap[p]? =some (.cells d T (0,0))∧fy w' p o d g' bs'∧eY o 11 c d∧Upd (p::g.toList) w w'∧(g'=g∨∃k,g'=some k∧w.heap.size≤k)
theorem Tryz.info5:(Tryz.prog.info? 5).map (fun i=>(i.zero,i.size,i.bytes))=some (some (.int .u8 0),1,1):=by kernel_rfl
theorem eY.trans{o k:Nat}{a b c:Array Value}(h:eY o k a b)(d:eY o k b c):eY o k a c:=
 ⟨d.1.trans h.1,fun i z=>(d.2 i z).trans (h.2 i z)⟩
theorem eY.set{o k:Nat}(c:Array Value)(i:Nat)(v:Value)(d:o≤i∧i<o+k):eY o k c (c.setIfInBounds i v):=
 ⟨by simp,fun j z=>by rw[ba (by omega)]⟩
theorem gl.upd{L:List Nat}{w w':World}{v:Value}{g:Option Nat}{bs:Bytes}(h:gl w v g bs)(hu:Upd L w w')(hn:∀k,g=some k→k∉L):gl w' v g bs:=
 ⟨hu.row h.own (by rw[h.blk];exact hn),h.blk⟩
theorem fy.upd{L:List Nat}{w w':World}{p o:Nat}{c:Array Value}{g:Option Nat}{bs:Bytes}(h:fy w p o c g bs)(hu:Upd L w w')(hn:∀k,g=some k→k∉L):fy w' p o c g bs:=
 ⟨h.row.imp fun _ k=>⟨k.1,k.2.upd hu hn⟩,h.scratch,h.ne⟩
theorem gl.lt{w:World}{v:Value}{g:Option Nat}{bs:Bytes}(h:gl w v g bs):∀k,g=some k→k<w.heap.size:=fun k d=>
 (h.own.lt k (by rw[h.blk];exact d)).2
theorem gl.drew{w:World}{v:Value}{g:Option Nat}{bs:Bytes}(h:gl w v g bs):gl w.drew v g bs:=⟨h.own,h.blk⟩
theorem fy.notin{w:World}{p o:Nat}{c:Array Value}{g:Option Nat}{bs:Bytes}(h:fy w p o c g bs):p∉g.toList:=by have:=h.ne;cases g<;>simp_all;omega
theorem cS.of_append{T:Nat}{w w0 w1:World}{p o:Nat}{c:Array Value}{v:Value}{g:Option Nat}{g' n cap':Nat}{bs bs':Bytes}
 (U:w.heap[p]? =some (.cells c T (0,0)))(hE:fy w p o c g bs)(hv:c[o]? =some v)(A:v.ownBlock=g)(V:Upd [] w w0)(hn:n=bs'.length)
 (d:w1.ownsRow 0 5 1 (.slice (some ⟨g',0,none⟩) n cap') n (Lib.byteCells bs'))(hu:Upd v.ownBlock.toList w0 w1)(hg:v.ownBlock=some g'∨w.heap.size≤g'):
 cS T w p o c g bs' (w1.setCell ⟨p,o,none⟩ (.slice (some ⟨g',0,none⟩) n cap')):=by
 subst hn;rw[A]at hu hg;have hpl:=lt_of_block U;have D:=V.blk U (by simp);have F:p∉g.toList:=by have:=hE.ne;cases g<;>simp_all;omega
 have G:=hu.blk D F;have O:o<c.size:=(Array.getElem?_eq_some_iff.1 hv).1;have z:g'≠p:=by
  rcases hg with hg|hg
  ·intro e;subst e;exact hE.ne hg
  ·omega
 refine⟨_,some g',au G _ _,⟨⟨.slice (some ⟨g',0,none⟩) bs'.length cap',by simp[O],⟨?_,rfl⟩⟩,fun j W=>?_,by simpa using z⟩,eY.set c o _ (by omega),?_,?_⟩
 ·exact ownsRow_setCell_other d (by simpa[Value.ownBlock]using z) _
 ·obtain⟨m,hm⟩:=hE.scratch j W;exact⟨m,by rw[ba (by omega)];exact hm⟩
 ·exact(((V.mono (M:=p::g.toList) (by simp)).then hu (fun i hi _=>by simp[hi]))).setCell (fun _=>by simp) _
 ·rcases hg with hg|hg
  ·exact .inl hg.symm
  ·exact .inr ⟨g',rfl,hg⟩
theorem Bx(T p o:Nat)(c:Array Value)(g:Option Nat)(bs:Bytes)(x:UInt8)(w:World)(d:w.heap[p]? =some (.cells c T (0,0)))(hE:fy w p o c g bs)(hn:bs.length<1073741824):
 Calls prog 222 #[.pointer (some ⟨p,o,none⟩),.int .u8 x.toNat] w fun e w'=>e=.returned (.tuple #[])∧cS T w p o c g (bs++[x]) w':=by
 obtain⟨v,hv,hr⟩:=hE.row;obtain⟨i0,W,F,G,O⟩:=info_parts Tryz.info5;have h0:w.cell? ⟨p,o,none⟩=some v:=by rw[af d,hv]
 have U:=ao d o;go_enter func222,ntmps222
 go_wp2_with (at_builtin;refine iD _ rfl _ _ 65 rfl 5 i0 (.int .u8 0) 1 1 underlying65 W F G O rfl (by decide) v bs.length (Lib.byteCells bs) rfl (hr.own.alloc _) ⟨w.heap.size,0,none⟩ 1 1 [.int .u8 x.toNat] rfl rfl ?c1 ?c2 ?c3 ?c4 ?c5 ?_);case c1=>exact cell_one_new _ _ _
 case c2=>simp[Value.oneCell']
 case c3=>unfold maxLen;omega
 case c4=>omega
 case c5=>omega
 intro g' cap' w1 A hu V;have D:=cS.of_append (bs':=bs++[x]) (n:=bs.length+1) d hE hv hr.blk ((ae w).alloc _) (by simp) (by simpa[Lib.byteCells]using A) hu (V.imp id (fun h=>by omega));have e1:w1.cell? ⟨p,o,none⟩=some v:=by have z:=hu.blk ((eB _ (lt_of_block d)).trans d) (by have:=hE.ne;rw[hr.blk];cases g<;>simp_all;omega);rw[af z,hv]
 have ef:w1.frozen? ⟨p,o,none⟩=false:=by have z:=hu.blk ((eB _ (lt_of_block d)).trans d) (by have:=hE.ne;rw[hr.blk];cases g<;>simp_all;omega);exact ao z o
 clear h0 U;go_wp2_with fail;go_end0
 exact⟨rfl,D⟩
theorem fy.scr{w w':World}{p o:Nat}{c:Array Value}{g:Option Nat}{bs:Bytes}(h:fy w p o c g bs)(hu:Upd [p] w w')(d:List UInt8)(hl:d.length≤10):
 fy w' p o (fB c (o+1) (Lib.byteCells d)) g bs:=by
 obtain⟨v,hv,hr⟩:=h.row;obtain⟨F,h9⟩:=h.scratch 9 (by omega);have hs:o+11≤c.size:=by have:=(Array.getElem?_eq_some_iff.1 h9).1;omega
 have hlen:(Lib.byteCells d).length=d.length:=Lib.byteCells_length d;refine⟨⟨v,by rw[fV _ _ _ _ (by omega)];exact hv,hr.upd hu (fun k A=>by have:=h.ne;simp;intro e;subst e;exact this A)⟩,fun j D=>?_,h.ne⟩;by_cases z:j<d.length
 ·rw[oy _ _ _ _ (by omega) (by omega)];exact⟨(d[j]'z).toNat,by simp[Lib.byteCells,z]⟩
 ·obtain⟨m,hm⟩:=h.scratch j D;exact⟨m,by rw[fV _ _ _ _ (by omega)];exact hm⟩
theorem eY.scr(o:Nat)(c:Array Value)(d:List Value)(hl:d.length≤10):eY o 11 c (fB c (o+1) d):=
 ⟨jb _ _ _,fun i z=>fV _ _ _ _ (by omega)⟩
theorem wZ{T p:Nat}{c:Array Value}{w:World}(z:w.heap[p]? =some (.cells c T (0,0)))(o:Nat)(d:List Value)(b:Obj):
 ((w.alloc b).setCells p o d).heap[p]? =some (.cells (fB c o d) T (0,0))∧Upd [p] w ((w.alloc b).setCells p o d):=by
 have A:(w.alloc b).heap[p]? =some (.cells c T (0,0)):=by rw[eB b (lt_of_block z)];exact z
 exact⟨iX A o d,(((ae w).alloc b).mono (by simp)).setCells (fun _=>by simp) o d⟩
theorem Ds(T p o n k x:Nat)(c:Array Value)(w:World)(d:w.heap[p]? =some (.cells c T (0,0)))(W:o+4≤c.size)(hn:4≤n)(z:x<4294967296):
 Calls prog 223 #[.agg #[],.slice (some ⟨p,o,none⟩) n k,.int .u32 x] w fun e w'=>
  e=.returned (.tuple #[])∧w'.heap[p]? =some (.cells (fB c o (Lib.byteCells (Lib.beBytes 4 x))) T (0,0))∧Upd [p] w w':=by
 have cl:∀i,i<c.size→∃v,w.cell? ⟨p,i,none⟩=some v:=fun i A=>⟨c[i],by rw[af d];simp[A]⟩;obtain⟨D,F⟩:=cl o (by omega);obtain⟨G,c1⟩:=cl (o+1) (by omega);obtain⟨O,c2⟩:=cl (o+2) (by omega);obtain⟨U,c3⟩:=cl (o+3) (by omega);refine(Tryz.binary_BE_PutUint32 p o n k x z D G O U w hn F c1 c2 c3 (ao d _) (ao d _) (ao d _) (ao d _)).mono ?_;rintro e w' ⟨he,V⟩;subst V;exact⟨he,wZ d _ _ _⟩
theorem Dt(T p o n k x:Nat)(c:Array Value)(w:World)(d:w.heap[p]? =some (.cells c T (0,0)))(hc:o+8≤c.size)(hn:8≤n)(z:x<18446744073709551616):
 Calls prog 227 #[.agg #[],.slice (some ⟨p,o,none⟩) n k,.int .u64 x] w fun e w'=>
  e=.returned (.tuple #[])∧w'.heap[p]? =some (.cells (fB c o (Lib.byteCells (Lib.beBytes 8 x))) T (0,0))∧Upd [p] w w':=by
 have cl:∀i,i<c.size→∃v,w.cell? ⟨p,i,none⟩=some v:=fun i A=>⟨c[i],by rw[af d];simp[A]⟩;obtain⟨D,F⟩:=cl o (by omega);obtain⟨G,c1⟩:=cl (o+1) (by omega);obtain⟨O,c2⟩:=cl (o+2) (by omega);obtain⟨U,c3⟩:=cl (o+3) (by omega);obtain⟨V,c4⟩:=cl (o+4) (by omega);obtain⟨x5,c5⟩:=cl (o+5) (by omega);obtain⟨W,c6⟩:=cl (o+6) (by omega);obtain⟨x7,c7⟩:=cl (o+7) (by omega);refine(Tryz.binary_BE_PutUint64 p o n k x z D G O U V x5 W x7 w hn F c1 c2 c3 c4 c5 c6 c7 (ao d _) (ao d _) (ao d _) (ao d _) (ao d _) (ao d _) (ao d _) (ao d _)).mono ?_;rintro e w' ⟨he,hw⟩;subst hw;exact⟨he,wZ d _ _ _⟩
theorem EV(T p o n k x:Nat)(c:Array Value)(w:World)(d:w.heap[p]? =some (.cells c T (0,0)))(D:o+10≤c.size)(hn:10≤n)(z:x<18446744073709551616):
 Calls prog 167 #[.slice (some ⟨p,o,none⟩) n k,.int .u64 x] w fun e w'=>
  e=.returned (.int .i64 (Lib.uvarint x).length)∧w'.heap[p]? =some (.cells (fB c o (Lib.byteCells (Lib.uvarint x))) T (0,0))∧Upd [p] w w':=by
 have hl:=Lib.uvarint_length64 z;refine(Tryz.binary_PutUvarint p o n k x z w (by omega) (fun j F=>⟨by rw[af d];simp;omega,ao d _⟩)).mono ?_;rintro e w' ⟨he,A⟩;subst A;exact⟨he,iX d _ _,(((ae w)).mono (by simp)).setCells (fun _=>by simp) _ _⟩
theorem cS.of_scr{T:Nat}{w w1 w2:World}{p o:Nat}{c:Array Value}{v:Value}{g:Option Nat}{g' n cap':Nat}{bs bs':Bytes}{A:List UInt8}
 (hE:fy w p o c g bs)(hv:c[o]? =some v)(D:v.ownBlock=g)
 (F:w1.heap[p]? =some (.cells (fB c (o+1) (Lib.byteCells A)) T (0,0)))(d:Upd [p] w w1)(hl:A.length≤10)(hn:n=bs'.length)
 (z:w2.ownsRow 0 5 1 (.slice (some ⟨g',0,none⟩) n cap') n (Lib.byteCells bs'))(hu:Upd v.ownBlock.toList w1 w2)(hg:v.ownBlock=some g'∨w1.heap.size≤g'):
 cS T w p o c g bs' (w2.setCell ⟨p,o,none⟩ (.slice (some ⟨g',0,none⟩) n cap')):=by
 have hlen:=Lib.byteCells_length A;obtain⟨O,k,h1,U,V,h4,h5⟩:=cS.of_append (bs':=bs') F (hE.scr d A hl) (v:=v) (by rw[fV _ _ _ _ (by omega)];exact hv) D (ae _) hn z hu hg;refine⟨O,k,h1,U,(eY.scr o c _ (by omega)).trans V,((d.mono (M:=p::g.toList) (by simp)).then h4 (fun i W _=>W)),?_⟩;rcases h5 with h5|⟨j,hj,G⟩
 ·exact .inl h5
 ·exact .inr ⟨j,hj,aW d.size G⟩
theorem vT{T p o:Nat}{c:Array Value}{w:World}{d:List Value}(z:w.heap[p]? =some (.cells (fB c o d) T (0,0)))(A:o+d.length≤c.size):
 ∀j u,d[j]? =some u→w.cell? ((⟨p,o,none⟩:Addr).add j)=some u:=by
 intro j u hu;have D:j<d.length:=(List.getElem?_eq_some_iff.1 hu).1;rw[aO,af z,oy _ _ _ _ D A,hu]
theorem g3(d:List UInt8):∀u∈Lib.byteCells d,u.oneCell'=true:=by intro u hu;simp only[Lib.byteCells,bU]at hu;obtain⟨b,_,rfl⟩:=hu;rfl
theorem uv{w:World}{p o:Nat}{c:Array Value}{g:Option Nat}{bs:Bytes}(hE:fy w p o c g bs){v:Value}(hg:v.ownBlock=g):p∉v.ownBlock.toList:=by have:=hE.ne;rw[hg];cases g<;>simp_all;omega
theorem m0{T:Nat}{w w1:World}{p o:Nat}{c:Array Value}{v:Value}{g:Option Nat}{bs d:Bytes}
 (hE:fy w p o c g bs)(hv:c[o]? =some v)(hr:gl w v g bs)
 (z:w1.heap[p]? =some (.cells (fB c (o+1) (Lib.byteCells d)) T (0,0)))(A:Upd [p] w w1)(hl:d.length≤10)(h1:1≤d.length)(hn:bs.length<1073741824):
 w1.cell? ⟨p,o,none⟩=some v∧
 ∃g' cap' w2,Hid ((Builtin.append_ #[65,65] 65 #[v,.slice (some ⟨p,o+1,none⟩) d.length 10]).run prog w1.drew=.ok (.slice (some ⟨g',0,none⟩) (bs.length+d.length) cap') w2)∧
  cS T w p o c g (bs++d) (w2.setCell ⟨p,o,none⟩ (.slice (some ⟨g',0,none⟩) (bs.length+d.length) cap'))∧w2.cell? ⟨p,o,none⟩=some v∧w2.frozen? ⟨p,o,none⟩=false:=by
 obtain⟨i0,hi,U,V,W⟩:=info_parts Tryz.info5;have a2:o+11≤c.size:=by obtain⟨n9,h9⟩:=hE.scratch 9 (by omega);have:=(Array.getElem?_eq_some_iff.1 h9).1;omega
 have h0:w1.cell? ⟨p,o,none⟩=some v:=by rw[af z,fV _ _ _ _ (by omega)];exact hv
 have ad:=(hr.upd A (fun k hk=>by have:=hE.ne;simp;intro e;subst e;exact this hk)).drew;have a0:=vT z (by rw[Lib.byteCells_length];omega);have G9:(Lib.byteCells d).length=d.length*1:=by rw[Lib.byteCells_length,iI]
 obtain⟨g',cap',w2,D,F,hu,a1⟩:=dZ (P:=prog) w1.drew 65 65 5 i0 (.int .u8 0) 1 1 underlying65 hi U V W rfl (by decide) v bs.length (Lib.byteCells bs) ad.own ⟨p,o+1,none⟩ d.length 10 (Lib.byteCells d) G9 a0 (g3 _) (by unfold maxLen;omega) (by omega) (by omega);have G:Upd v.ownBlock.toList w1 w2:=⟨hu.os,hu.tape,hu.output,hu.size,hu.keep⟩;have O:=G.blk z (uv hE hr.blk)
 exact⟨h0,g',cap',w2,D,cS.of_scr hE hv hr.blk z A hl (by simp) (by simpa[Lib.byteCells]using F) G a1,
  by rw[af O,fV _ _ _ _ (by omega)];exact hv,ao O o⟩
theorem fy.size{w:World}{p o:Nat}{c:Array Value}{g:Option Nat}{bs:Bytes}(hE:fy w p o c g bs):o+11≤c.size:=by obtain⟨d,h9⟩:=hE.scratch 9 (by omega);have:=(Array.getElem?_eq_some_iff.1 h9).1;omega
theorem Upd.ofDrew{L:List Nat}{w w':World}(h:Upd L w.drew w'):Upd L w w':=⟨h.os,h.tape,h.output,h.size,h.keep⟩
theorem jv(k x:Nat):(Lib.beBytes k x).length=k:=by simp[Lib.beBytes,Lib.leBytes_length]
theorem o9(T p o:Nat)(c:Array Value)(g:Option Nat)(bs:Bytes)(x:Nat)(w:World)(F:w.heap[p]? =some (.cells c T (0,0)))(hE:fy w p o c g bs)(hn:bs.length<1073741824)(G:x<4294967296):
 Calls prog 198 #[.pointer (some ⟨p,o,none⟩),.int .u32 x] w fun e w'=>e=.returned (.tuple #[])∧cS T w p o c g (bs++Lib.beBytes 4 x) w':=by
 obtain⟨v,hv,hr⟩:=hE.row;have O:=hE.size;go_enter func198,ntmps198
 go_wp2_with fail;go_still_tail 6,(by kernel_rfl)
 change wpList _ _ _ _ _ w.drew;go_wp2_with (go_at_call 223;refine(Ds T p (o+1) 10 10 x c w.drew F (by omega) (by omega) G).mono ?_;rintro e w1 ⟨rfl,z,A⟩);obtain⟨U,g',cap',w2,D,d,e1,V⟩:=m0 hE hv hr z (Upd.ofDrew A) (by rw[jv];omega) (by rw[jv];omega) hn;rw[jv]at D d;go_region_law (refine df rfl _ _ _ rfl _ _ _ _ rfl rfl D.o ?_)
 go_end0
 exact⟨rfl,d⟩
theorem Bw(T p o:Nat)(c:Array Value)(g:Option Nat)(bs:Bytes)(x:Nat)(w:World)(G:w.heap[p]? =some (.cells c T (0,0)))(hE:fy w p o c g bs)(hn:bs.length<1073741824)(D:x<18446744073709551616):
 Calls prog 212 #[.pointer (some ⟨p,o,none⟩),.int .u64 x] w fun e w'=>e=.returned (.tuple #[])∧cS T w p o c g (bs++Lib.beBytes 8 x) w':=by
 obtain⟨v,hv,hr⟩:=hE.row;have O:=hE.size;have U:=aa D;clear D;go_enter func212,ntmps212
 go_wp2_with fail;go_still_tail 6,(by kernel_rfl)
 change wpList _ _ _ _ _ w.drew;go_wp2_with (go_at_call 227;refine(Dt T p (o+1) 10 10 x c w.drew G (by omega) (by omega) U.o).mono ?_;rintro e w1 ⟨rfl,z,A⟩);obtain⟨V,g',cap',w2,F,d,e1,W⟩:=m0 hE hv hr z (Upd.ofDrew A) (by rw[jv];omega) (by rw[jv];omega) hn;rw[jv]at F d;go_region_law (refine df rfl _ _ _ rfl _ _ _ _ rfl rfl F.o ?_)
 go_end0
 exact⟨rfl,d⟩
theorem jm(T p o:Nat)(c:Array Value)(g:Option Nat)(bs:Bytes)(x:Nat)(w:World)(G:w.heap[p]? =some (.cells c T (0,0)))(hE:fy w p o c g bs)(hn:bs.length<1073741824)(z:x<18446744073709551616):
 Calls prog 106 #[.pointer (some ⟨p,o,none⟩),.int .u64 x] w fun e w'=>e=.returned (.tuple #[])∧cS T w p o c g (bs++Lib.uvarint x) w':=by
 obtain⟨v,hv,hr⟩:=hE.row;have O:=hE.size;have hl:=Lib.uvarint_length64 z;have A:=Lib.uvarint_pos x;have U:((Lib.uvarint x).length:Int)≤10:=by omega
 have V:=aa z;clear z;go_enter func106,ntmps106
 go_wp2_with (go_at_call 167;refine(EV T p (o+1) 10 10 x c w G (by omega) (by omega) V.o).mono ?_;rintro e w1 ⟨rfl,D,F⟩);obtain⟨h0,g',cap',w2,W,d,e1,ef⟩:=m0 hE hv hr D F hl A hn;go_region_law (refine df rfl _ _ _ rfl _ _ _ _ rfl rfl W.o ?_)
 go_end0
 exact⟨rfl,d⟩
abbrev m9:=@cS.of_append
abbrev cz:=@Upd.ofDrew
def Rd(w:World)(v:Value)(bs:Bytes):Prop:=
 (v=.slice none 0 0∧bs=[])∨∃g off cap,v=.slice (some ⟨g,off,none⟩) bs.length cap∧∀j (h:j<bs.length),w.cell? ⟨g,off+j,none⟩=some (.int .u8 (bs[j]).toNat)
def rnd(p c:Nat):Nat:=if c % 2=1 then c/2^^^p else c/2
def uH(p:Nat):Nat→Nat→Nat
 |0,c=>c
 |k+1,c=>rnd p (uH p k c)
def pa(p c:Nat)(b:UInt8):Nat:=uH p 8 (c^^^b.toNat)
def gM(p c:Nat)(bs:Bytes):Nat:=bs.foldl (pa p) c
def iO(c:Nat):Nat:=4294967295^^^c
def iK(p c:Nat)(bs:Bytes):Nat:=iO (gM p (iO c) bs)
theorem nV{a b:Nat}(d:a<4294967296)(hb:b<4294967296):a^^^b<4294967296:=Nat.xor_lt_two_pow (n:=32) d hb
theorem EC{p c:Nat}(d:p<4294967296)(z:c<4294967296):rnd p c<4294967296:=by
 unfold rnd;split
 ·exact nV (by omega) d
 ·omega
theorem tf{p c:Nat}(d:p<4294967296)(z:c<4294967296):∀k,uH p k c<4294967296
 |0=>z
 |k+1=>EC d (tf d z k)
theorem vG{p c:Nat}(d:p<4294967296)(z:c<4294967296)(b:UInt8):pa p c b<4294967296:=by
 have hb:b.toNat<4294967296:=by have:=b.toNat_lt;omega
 unfold pa;exact tf d (nV z hb) _
theorem pI{p c:Nat}(z:p<4294967296)(d:c<4294967296)(bs:Bytes):gM p c bs<4294967296:=by
 induction bs generalizing c with
 |nil=>exact d
 |cons b l A=>exact A (vG z d b)
theorem kn{c:Nat}(d:c<4294967296):iO c<4294967296:=nV (by omega) d
theorem CU(m c:Nat):m^^^(m^^^c)=c:=by rw[←Nat.xor_assoc,Nat.xor_self,Nat.zero_xor]
theorem rs(c:Nat):iO c=4294967295^^^c:=rfl
theorem qM(c:Nat):iO (iO c)=c:=by rw[rs,rs c];generalize 4294967295=m;exact CU m c
theorem tK{p c:Nat}(d:p<4294967296)(z:c<4294967296)(bs:Bytes):iK p c bs<4294967296:=kn (pI d (kn z) bs)
theorem lA(p c:Nat)(a b:Bytes):gM p c (a++b)=gM p (gM p c a) b:=by simp[gM]
theorem ny(p c:Nat)(a b:Bytes):iK p c (a++b)=iK p (iK p c a) b:=by unfold iK;rw[qM,lA]
theorem EH:IntKind.u32.max=((4294967295:Nat):Int):=by decide
theorem xm{a b:Int}(h:a=b):Ending.returned (.int .u32 a)=.returned (.int .u32 b):=by rw[h]
theorem nL(c:Nat)(d:c<4294967296):bits .xor .u32 IntKind.u32.max (c:Int)=((iO c:Nat):Int):=by rw[EH,u32_xor_nat _ _ (by decide) d];rfl
theorem su(p c:Nat)(bs:Bytes)(k:Nat)(d:k<bs.length):gM p c (bs.take (k+1))=pa p (gM p c (bs.take k)) bs[k]:=by rw[ax d,lA];rfl
theorem tG(tb g off cap:Nat)(p c:Nat)(bs:Bytes)(w:World)(ht:w.cell? ⟨tb,0,none⟩=some (.int .u32 p))(hb:bs.length<1073741824)
 (h1:c<4294967296)(F:p<4294967296)
 (hc:∀j (h:j<bs.length),w.cell? ⟨g,off+j,none⟩=some (.int .u8 (bs[j]).toNat)):
 Calls prog 217 #[.int .u32 c,.pointer (some ⟨tb,0,none⟩),.slice (some ⟨g,off,none⟩) bs.length cap] w fun e w'=>e=.returned (.int .u32 (iK p c bs))∧w=w':=by
 have HC:=aa hc;have HN:=aa (nL c h1);have H1:=aa h1;have U:=aa F;clear hc h1 F;go_enter func217,ntmps217
 go_wp2_with fail;rw[HN.o];go_loop [0,13] (fun a i=>∃k:Nat,k≤bs.length∧i=.int .i64 k∧a=.int .u32 ((gM p (iO c) (bs.take k):Nat):Int)) (fun _ i=>bs.length-(intOf i).toNat)
 case atStart=>exact⟨0,ay _,rfl,by simp[gM]⟩
 case round=>
  obtain⟨k,hk,rfl,rfl⟩:=hrel;have V:=aa (pI U.o (kn H1.o) (bs.take k));by_cases G:k<bs.length
  ·have W:=HC.o k G;have HS:Hid (gM p (iO c) (bs.take (k+1))=uH p 8 (gM p (iO c) (bs.take k)^^^(bs[k]).toNat)):=aa (su p (iO c) bs k G);generalize hA:gM p (iO c) (bs.take k)=A at*;have HA:=aa hA;clear hA;have hx:=u32_xor_nat A (bs[k]).toNat V.o (by have:=(bs[k]).toNat_lt;omega);have D:=aa (nV V.o (show(bs[k]).toNat<4294967296 by have:=(bs[k]).toNat_lt;omega));have hm:(((bs[k]).toNat:Nat):Int) % 4294967296=((bs[k]).toNat:Nat):=by have:=(bs[k]).toNat_lt;omega
   go_wp2_with fail;clear hm hx;revert D HS;generalize A^^^(bs[k]).toNat=X;intro HS D;go_loop [0,21] (fun a i=>∃m:Nat,m≤8∧i=.int .i64 m∧a=.int .u32 ((uH p m X:Nat):Int)) (fun _ i=>8-(intOf i).toNat)
   case atStart=>exact⟨0,ay _,rfl,rfl⟩
   case round=>
    obtain⟨m,hm,rfl,rfl⟩:=hrel;have O:=aa (tf U.o D.o m);by_cases a0:m<8
    ·have d:Hid (uH p (m+1) X=rnd p (uH p m X)):=aa rfl;revert O d;generalize uH p m X=R;intro O d;have ha:bits .and .u32 (R:Int) 1=((R % 2:Nat):Int):=(u32_and_nat R 1 O.o (by decide)).trans (by rw[Nat.and_one_is_mod]);by_cases z:R % 2=1
     ·have ad:=u32_xor_nat (R/2) p (by have:=O.o;omega) U.o;go_wp2_with fail;have e2:(R:Int)/2=((R/2:Nat):Int):=by omega
      exact⟨⟨m+1,by omega,rfl,by rw[e2,ad,d.o,rnd,if_pos z]⟩,by simp only[intOf];omega⟩
     ·go_wp2_with fail;have e2:(R:Int)/2=((R/2:Nat):Int):=by omega
      exact⟨⟨m+1,by omega,rfl,by rw[e2,d.o,rnd,if_neg z]⟩,by simp only[intOf];omega⟩
    ·have e:m=8:=by omega
     subst e;go_wp2_with fail;exact⟨⟨k+1,by omega,rfl,by rw[HS.o]⟩,by simp only[intOf];omega⟩
  ·have e:k=bs.length:=by omega
   subst e;have HF:=aa (nL _ V.o);rw[aS]at HF;go_wp2_with fail;go_ret;exact⟨xm HF.o,rfl⟩
theorem vr(tb:Nat)(p c:Nat)(w:World)(h1:c<4294967296):
 Calls prog 217 #[.int .u32 c,.pointer (some ⟨tb,0,none⟩),.slice none 0 0] w fun e w'=>e=.returned (.int .u32 (iK p c []))∧w=w':=by
 have d:=aa (nL c h1);have z:=aa (nL _ (kn h1));have hN:=kn h1;clear h1;go_enter func217,ntmps217
 go_wp2_with fail;rw[d.o];go_loop [0,13] (fun a i=>a=.int .u32 (iO c)∧i=.int .i64 0) (fun _ _=>0)
 case atStart=>exact⟨rfl,rfl⟩
 case round=>
  obtain⟨rfl,rfl⟩:=hrel;go_wp2_with fail;go_ret;exact⟨xm z.o,rfl⟩
theorem Rd.form{w:World}{v:Value}{bs:Bytes}(h:Rd w v bs):∃d cap,v=.slice d bs.length cap:=by
 rcases h with⟨rfl,rfl⟩|⟨g,off,cap,rfl,_⟩
 ·exact⟨none,0,rfl⟩
 ·exact⟨_,cap,rfl⟩
theorem Rd.drew{w:World}{v:Value}{bs:Bytes}(h:Rd w v bs):Rd w.drew v bs:=h
theorem zk(tb:Nat)(p c:Nat)(v:Value)(bs:Bytes)(w:World)(hr:Rd w v bs)(z:w.cell? ⟨tb,0,none⟩=some (.int .u32 p))(hb:bs.length<1073741824)(h1:c<4294967296)(d:p<4294967296):
 Calls prog 217 #[.int .u32 c,.pointer (some ⟨tb,0,none⟩),v] w fun e w'=>e=.returned (.int .u32 (iK p c bs))∧w=w':=by
 rcases hr with⟨rfl,rfl⟩|⟨g,off,cap,rfl,A⟩
 ·exact vr tb p c w h1
 ·exact tG tb g off cap p c bs w z hb h1 d A
theorem gl.rd{w:World}{v:Value}{g:Option Nat}{bs:Bytes}(h:gl w v g bs):Rd w v bs:=by
 rcases h.own.2 with⟨rfl,h5⟩|⟨k,cap,cur,rfl,_,d,_,_,_,z⟩
 ·exact .inl ⟨rfl,dh h5⟩
 ·refine .inr ⟨k,0,cap,rfl,fun j A=>?_⟩;rw[af d,aK];have:=congrArg (fun l=>l[j]?) z;simpa[me,A,Lib.byteCells]using this
end Go.Proofs.YtlgefdfflmgocaaGreatDoor
