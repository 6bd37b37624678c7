import Derived.Test.YtlgefdfflmgocaaGreatDoorQ16
set_option linter.all false
set_option maxRecDepth 100000
set_option maxHeartbeats 2000000
namespace Go.Proofs.YtlgefdfflmgocaaGreatDoor
open Go Go.RowKit Xc Go.Proofs.Tryz
attribute [local go_sem ↓] Go.wp_at_zero Go.wp_at_succ
theorem Tryz.info172:(Tryz.prog.info? 172).map (fun i=>(i.zero,i.size,i.bytes))=some (some (.agg #[.string ⟨#[]⟩,.int .i64 0]),2,24):=by kernel_rfl
theorem tx(w:World):(zeroValue 169).run prog w=.ok (.slice none 0 0) w:=by kernel_rfl
abbrev RM:=List (ByteArray×Value×Nat×List (ByteArray×Nat))
def clP(x:ByteArray×Nat):List Value:=[.string x.1,.int .i64 (x.2:Nat)]
theorem j5{bp:Nat}{k:ByteArray}{v:Value}{q:Nat}{ys:List (ByteArray×Nat)}{M:RM}{b:Nat}(h:b∈aR bp (cf k (v,q,ys) M)):b∈aR bp M∨b=q:=by
 simp only[aR,ah,bU]at h⊢;rcases h with h|⟨x,d,rfl⟩
 ·exact .inl (.inl h)
 ·rcases lG d with rfl|d
  ·exact .inr rfl
  ·exact .inl (.inr ⟨x,d,rfl⟩)
structure CZ(w:World)(base bm:Nat)(M:RM)(k:ByteArray)(x:ByteArray×Nat)(v:Value)(L:List Nat)(g' n cap':Nat)(w2 d:World):Prop where
 sub:∀b∈L,b∈aR bm M∧b≠bm
 look:∀w',Upd L w w'→(Instr.lookup 146 (.map (some bm)) (.string k) false).run prog w'=.ok v w'
 app:(Builtin.append_ #[169,169] 169 #[v,.slice (some ⟨w.heap.size,0,none⟩) 1 1]).run prog (w.alloc (.cells #[.string x.1,.int .i64 (x.2:Nat)] 172 (0,0))).drew=.ok (.slice (some ⟨g',0,none⟩) n cap') w2
 u2:Upd L w w2
 put:(Instr.mapUpdate 146 (.map (some bm)) (.string k) (.slice (some ⟨g',0,none⟩) n cap')).run prog w2=.ok () d
 fin:∃z,kj Value.string clP 2 d 172 base bm z∧jy z=fU (jy M) k x.1 x.2∧∀b∈aR bm z,b∈aR bm M∨w.heap.size≤b
 u3:Upd (bm::L) w d
theorem sZ{w:World}{base bm:Nat}{M:RM}(h:kj Value.string clP 2 w 172 base bm M)(Hw:base≤w.heap.size)(k:ByteArray)(x:ByteArray×Nat)(hlen:∀y∈M,y.2.2.2.length<1000000):
 ∃v L g' n cap' w2 w3,CZ w base bm M k x v L g' n cap' w2 w3:=by
 obtain⟨i0,hi,a6,a7,a9⟩:=info_parts Tryz.info172;have D:=fq (fun y:Value×Nat×List (ByteArray×Nat)=>y.1) k M;have hd:=List.nodup_cons.1 h.dis
 obtain⟨v,xs,L,hv,ad,hL,F,bd⟩:∃v xs L,((aT k (M.map fun y=>(y.1,y.2.1))).getD (.slice none 0 0)=v)∧w.ownsRow 0 172 2 v xs.length (xs.flatMap clP)∧v.ownBlock.toList=L∧
  ((aT k M=none∧xs=[]∧L=[])∨(∃q,aT k M=some (v,q,xs)∧L=[q]))∧xs.length<1000000:=by
  cases hb:aT k M with
  |none=>
   rw[hb]at D;exact⟨.slice none 0 0,[],[],by rw[D];rfl,iq _ _ _ _,rfl,.inl ⟨rfl,rfl,rfl⟩,by simp⟩
  |some z=>
   obtain⟨v,q,xs⟩:=z;rw[hb]at D;have hr:=h.row (k,v,q,xs) (mget_mem hb);exact⟨v,xs,[q],by rw[D];rfl,hr.own,by rw[hr.blk];rfl,.inr ⟨q,rfl,rfl⟩,hlen _ (mget_mem hb)⟩
 have O:∀b∈L,b∈aR bm M∧b≠bm:=by
  rcases F with⟨_,_,rfl⟩|⟨q,hq,rfl⟩
  ·simp
  ·intro b hb;simp only[ag]at hb;subst hb;have hm:b∈M.map fun x=>x.2.2.1:=List.mem_map.2 ⟨_,mget_mem hq,rfl⟩;exact⟨aH _ hm,fun e=>hd.1 (e▸hm)⟩
 have a0:bm∉L:=fun hm=>(O bm hm).2 rfl;have A:Upd [] w (w.alloc (.cells #[.string x.1,.int .i64 (x.2:Nat)] 172 (0,0))).drew:=((ae w).alloc _).drew;have G:∀j u,(clP x)[j]? =some u→(w.alloc (.cells #[.string x.1,.int .i64 (x.2:Nat)] 172 (0,0))).drew.cell? ((⟨w.heap.size,0,none⟩:Addr).add j)=some u:=by intro j u hu;have he:(w.alloc (.cells #[.string x.1,.int .i64 (x.2:Nat)] 172 (0,0))).drew.heap[w.heap.size]? =some (.cells #[.string x.1,.int .i64 (x.2:Nat)] 172 (0,0)):=an _;rw[aO,af he,aK];simpa[clP]using hu
 obtain⟨g',cap',w2,a1,U,a2,a3⟩:=dZ (P:=prog) (w.alloc (.cells #[.string x.1,.int .i64 (x.2:Nat)] 172 (0,0))).drew 169 169 172 i0 _ 2 24 underlying169 hi a6 a7 a9 rfl (by decide) v xs.length _ (A.row ad (by simp)) ⟨w.heap.size,0,none⟩ 1 1 (clP x) rfl G (by simp[clP,Value.oneCell']) (by unfold maxLen;omega) (by omega) (by decide);rw[hL]at a2;have d:Upd L w w2:=(A.mono (M:=L) (by simp)).then a2 (fun i h _=>h);have a4:w2.heap[bm]? =some (bI Value.string (M.map fun y=>(y.1,y.2.1))):=d.blk h.o a0;have bb:=dB (P:=prog) (T:=146) Value.string iT underlying146 a4 k (.slice (some ⟨g',0,none⟩) (xs.length+1) cap');have V:nh clP 2 w2 172 (.slice (some ⟨g',0,none⟩) (xs.length+1) cap') g' (xs++[x]):=⟨by rw[ab,aU];simpa using U,rfl⟩;have be:=A.size;have W:base≤g'∧(w.heap.size≤g'∨∃v xs,aT k M=some (v,g',xs)):=by
  rcases F with⟨h1,h2,h3⟩|⟨q,hq,h3⟩
  ·have:w.heap.size≤g':=by
    rcases a3 with h4|h4
    ·rw[h4]at hL;simp[h3]at hL
    ·omega
   exact⟨by omega,.inl this⟩
  ·rcases a3 with h4|h4
   ·rw[h4,h3]at hL;simp at hL;subst hL;exact⟨h.ge _ (aH _ (List.mem_map.2 ⟨_,mget_mem hq,rfl⟩)),.inr ⟨_,_,hq⟩⟩
   ·exact⟨by omega,.inl (by omega)⟩
 have a5:=h.put (k:=k) (v':=.slice (some ⟨g',0,none⟩) (xs.length+1) cap') (q':=g') (ys:=xs++[x]) d (by
  rcases F with⟨_,_,rfl⟩|⟨q,hq,rfl⟩
  ·simp
  ·intro b hb;simp only[ag]at hb;subst hb;exact⟨_,_,hq⟩) W.2 W.1 V
 refine⟨v,L,g',xs.length+1,cap',w2,_,O,fun w' hu=>?_,a1,d,bb,⟨_,a5,?_,fun b hb=>?_⟩,?_⟩
 ·have h1:=cw (P:=prog) (T:=146) Value.string iT underlying146 (hu.blk h.o a0) tx k false;simp only[ek,if_false]at h1;rw[hv]at h1;exact h1
 ·rw[pD,fU,nv];congr 1;rcases F with⟨h1,h2,_⟩|⟨q,hq,_⟩
  ·rw[h1,h2];rfl
  ·rw[hq];rfl
 ·rcases j5 hb with h1|rfl
  ·exact .inl h1
  ·rcases W.2 with h1|⟨v1,bg,h1⟩
   ·exact .inr h1
   ·exact .inl (aH _ (List.mem_map.2 ⟨_,mget_mem h1,rfl⟩))
 ·exact(d.mono (M:=bm::L) (fun b hb=>aH _ hb)).then d9 (by simp)
structure RPI(w:World)(BR R bm LN LV LO VC p g base:Nat)(st:RP)(M:RM):Prop where
 br:w.heap[BR]? =some (.cells #[ptr R 0] 69 (0,0))
 rd:w.cell? ⟨R,3,none⟩=some (.map (some bm))
 mem:kj Value.string clP 2 w 172 base bm M
 abs:jy M=st.M
 last:(st.last=none∧w.heap[LN]? =some (.cells #[.slice none 0 0] 65 (0,0))∧w.heap[LV]? =some (.cells #[.slice none 0 0] 65 (0,0)))∨
  ∃x d z,st.last=some x∧w.heap[LN]? =some (.cells #[d] 65 (0,0))∧RdG w d g x.1∧w.heap[LV]? =some (.cells #[z] 65 (0,0))∧RdG w z g x.2
 lo:w.heap[LO]? =some (.cells #[.int .i64 (st.lastOff:Nat)] 3 (0,0))
 vc:w.heap[VC]? =some (.cells #[.int .i64 (st.cnt:Nat)] 3 (0,0))
 dis:[BR,R,LN,LV,LO,VC,p,g].Nodup
 o:∀b∈[BR,R,LN,LV,LO,VC,p,g],b∉aR bm M∧b<w.heap.size
 bs:base≤w.heap.size
 small:∀y∈st.M,y.2.length<100000
section
variable {w w':World} {BR R bm LN LV LO VC p g base:Nat} {st:RP} {M:RM}
theorem RPI.upd{L:List Nat}(h:RPI w BR R bm LN LV LO VC p g base st M)(hu:Upd L w w')(hL:∀b∈L,b∉[BR,R,LN,LV,LO,VC,g]∧b∉aR bm M):RPI w' BR R bm LN LV LO VC p g base st M:=by
 have hn:∀b∈[BR,R,LN,LV,LO,VC,g],b∉L:=fun b hb hm=>(hL b hm).1 hb;refine⟨hu.blk h.br (hn BR (by simp)),hu.cell (hn R (by simp)) h.rd,h.mem.upd hu (fun b hb=>(hL b hb).2),h.abs,?_,hu.blk h.lo (hn LO (by simp)),hu.blk h.vc (hn VC (by simp)),h.dis,fun b hb=>⟨(h.o b hb).1,hu.lt (h.o b hb).2⟩,aW h.bs hu.size,h.small⟩;rcases h.last with⟨a,b,c⟩|⟨x,z,A,a,b,c,d,e⟩
 ·exact .inl ⟨a,hu.blk b (hn LN (by simp)),hu.blk c (hn LV (by simp))⟩
 ·exact .inr ⟨x,z,A,a,hu.blk b (hn LN (by simp)),c.upd hu (hn g (by simp)),hu.blk d (hn LV (by simp)),e.upd hu (hn g (by simp))⟩
theorem RPI.len(h:RPI w BR R bm LN LV LO VC p g base st M):∀y∈M,y.2.2.2.length<1000000:=fun y d=>by have:(y.1,y.2.2.2)∈jy M:=List.mem_map.2 ⟨y,d,rfl⟩;rw[h.abs]at this;have h1:y.2.2.2.length<100000:=h.small _ this;omega
theorem RPI.push{k:ByteArray}{x:ByteArray×Nat}{v:Value}{L:List Nat}{g' n cap':Nat}{w1 w2 F:World}(h:RPI w1 BR R bm LN LV LO VC p g base st M)(K:CZ w1 base bm M k x v L g' n cap' w2 F)(z:RP)(e1:z.M=fU st.M k x.1 x.2)(e2:z.last=st.last∧z.lastOff=st.lastOff∧z.cnt=st.cnt)(hs:∀y∈z.M,y.2.length<100000):
 ∃D,RPI F BR R bm LN LV LO VC p g base z D∧(∀b∈aR bm D,b∈aR bm M∨w1.heap.size≤b)∧Upd (aR bm M) w1 F:=by
 obtain⟨D,h1,O,G⟩:=K.fin;have hu:=K.u3;have A:∀b∈bm::L,b∈aR bm M:=fun b hb=>by
  simp only[ah]at hb;rcases hb with rfl|hb
  ·simp[aR]
  ·exact(K.sub b hb).1
 have hn:∀b∈[BR,R,LN,LV,LO,VC,p,g],b∉bm::L:=fun b hb hm=>(h.o b hb).1 (A b hm);refine⟨D,⟨hu.blk h.br (hn BR (by simp)),hu.cell (hn R (by simp)) h.rd,h1,by rw[O,h.abs,e1],?_,by rw[e2.2.1];exact hu.blk h.lo (hn LO (by simp)),by rw[e2.2.2];exact hu.blk h.vc (hn VC (by simp)),h.dis,fun b hb=>⟨fun hm=>?_,hu.lt (h.o b hb).2⟩,aW h.bs hu.size,hs⟩,G,hu.mono A⟩
 ·rw[e2.1];rcases h.last with⟨a,b,c⟩|⟨x,U,V,a,b,c,d,e⟩
  ·exact .inl ⟨a,hu.blk b (hn LN (by simp)),hu.blk c (hn LV (by simp))⟩
  ·exact .inr ⟨x,U,V,a,hu.blk b (hn LN (by simp)),c.upd hu (hn g (by simp)),hu.blk d (hn LV (by simp)),e.upd hu (hn g (by simp))⟩
 ·rcases G b hm with h4|h4
  ·exact(h.o b hb).1 h4
  ·have:=(h.o b hb).2;omega
end
theorem Cb{w:World}{BR R bm LN LV LO VC p g base:Nat}{st:RP}{M:RM}(h:RPI w BR R bm LN LV LO VC p g base st M)(k:ByteArray):(aT k (M.map fun x=>(x.1,x.2.1))).isSome=(aT k st.M).isSome:=by have h1:=fq (fun y:Value×Nat×List (ByteArray×Nat)=>y.1) k M;have d:=nv k M;rw[h.abs]at d;rw[d];have z:aT k (M.map fun x=>(x.1,x.2.1))=(aT k M).map fun y=>y.1:=h1;rw[z];cases aT k M<;>rfl
theorem RPI.fresh{w:World}{BR R bm LN LV LO VC p g base:Nat}{st:RP}{M:RM}{k:ByteArray}(h:RPI w BR R bm LN LV LO VC p g base st M):
 ∃D,(Instr.mapUpdate 146 (.map (some bm)) (.string k) (.slice (some ⟨w.heap.size,0,none⟩) 0 0)).run prog (w.alloc (.cells #[] 172 (0,0))).drew=.ok () D∧
  (∃U,RPI D BR R bm LN LV LO VC p g base {st with M:=cf k [] st.M} U∧∀b∈aR bm U,b∈aR bm M∨w.heap.size≤b)∧Upd [bm] w D:=by
 have z:Upd [] w (w.alloc (.cells #[] 172 (0,0))).drew:=((ae w).alloc _).drew;have V:(w.alloc (.cells #[] 172 (0,0))).drew.heap[w.heap.size]? =some (.cells #[] 172 (0,0)):=an _
 have G3:nh clP 2 (w.alloc (.cells #[] 172 (0,0))).drew 172 (.slice (some ⟨w.heap.size,0,none⟩) 0 0) w.heap.size []:=
  ⟨⟨by simp,.inr ⟨w.heap.size,0,#[],rfl,ay _,V,by simp,by simp,by simp,by simp⟩⟩,rfl⟩
 have A:=h.mem.put (k:=k) (v':=.slice (some ⟨w.heap.size,0,none⟩) 0 0) (q':=w.heap.size) (ys:=[]) z (by simp) (.inl (aw _)) h.bs G3;have F:=dB (P:=prog) (T:=146) Value.string iT underlying146 (z.blk h.mem.o (by simp)) k (.slice (some ⟨w.heap.size,0,none⟩) 0 0);have G4:Upd [bm] w (ChangeMaps.setBlock (w.alloc (.cells #[] 172 (0,0))).drew bm (bI Value.string (cf k (.slice (some ⟨w.heap.size,0,none⟩) 0 0) (M.map fun x=>(x.1,x.2.1))))):=(z.mono (by simp)).then d9 (by simp);have G:bm∈aR bm M:=by simp[aR]
 have hn:∀b∈[BR,R,LN,LV,LO,VC,p,g],b∉[bm]:=fun b hb hm=>(h.o b hb).1 (by simp only[ag]at hm;rw[hm];exact G);refine⟨_,F,⟨_,⟨G4.blk h.br (hn BR (by simp)),G4.cell (hn R (by simp)) h.rd,A,by rw[pD,h.abs],?_,G4.blk h.lo (hn LO (by simp)),G4.blk h.vc (hn VC (by simp)),h.dis,fun b hb=>⟨fun hm=>?_,G4.lt (h.o b hb).2⟩,aW h.bs G4.size,fun y O=>?_⟩,fun b hb=>?_⟩,G4⟩
 ·rcases h.last with⟨a,b,c⟩|⟨x,W,vv,a,b,c,d,e⟩
  ·exact .inl ⟨a,G4.blk b (hn LN (by simp)),G4.blk c (hn LV (by simp))⟩
  ·exact .inr ⟨x,W,vv,a,G4.blk b (hn LN (by simp)),c.upd G4 (hn g (by simp)),G4.blk d (hn LV (by simp)),e.upd G4 (hn g (by simp))⟩
 ·rcases j5 hm with h1|rfl
  ·exact(h.o b hb).1 h1
  ·have:=(h.o _ hb).2;omega
 ·rcases lG O with rfl|O
  ·simp
  ·exact h.small y O
 ·rcases j5 hb with h1|rfl
  ·exact .inl h1
  ·exact .inr (aw _)
section
variable {w w':World} {BR R bm LN LV LO VC p g base:Nat} {st:RP} {M:RM}
theorem RPI.ne(h:RPI w BR R bm LN LV LO VC p g base st M):(VC≠BR∧VC≠R∧VC≠LN∧VC≠LV∧VC≠LO∧VC≠g)∧(LO≠BR∧LO≠R∧LO≠LN∧LO≠LV∧LO≠VC∧LO≠g)∧(LN≠BR∧LN≠R∧LN≠LV∧LN≠LO∧LN≠VC∧LN≠g)∧(LV≠BR∧LV≠R∧LV≠LN∧LV≠LO∧LV≠VC∧LV≠g):=by have d:=h.dis;simp only[a8,ah,ai,or_false,not_or,jP,and_true]at d;obtain⟨⟨A,a2,a3,a4,a5,D,F⟩,⟨b1,b2,b3,b4,G,O⟩,⟨c1,c2,c3,c4,c5⟩,⟨d1,d2,d3,d4⟩,⟨e1,e2,e3⟩,⟨U,z⟩,_⟩:=d;exact⟨⟨aF a5,aF b4,aF c3,aF d2,aF e1,z⟩,⟨aF a4,aF b3,aF c2,aF d1,e1,e3⟩,⟨aF a2,aF b1,c1,c2,c3,c5⟩,⟨aF a3,aF b2,aF c1,d1,d2,d4⟩⟩
theorem RPI.setCnt(h:RPI w BR R bm LN LV LO VC p g base st M)(n:Nat):RPI (w.setCell ⟨VC,0,none⟩ (.int .i64 (n:Nat))) BR R bm LN LV LO VC p g base {st with cnt:=n} M∧Upd [VC] w (w.setCell ⟨VC,0,none⟩ (.int .i64 (n:Nat))):=by
 have hu:Upd [VC] w (w.setCell ⟨VC,0,none⟩ (.int .i64 (n:Nat))):=((ae w).mono (by simp)).setCell (by simp) _;obtain⟨⟨F,G,z,A,O,D⟩,_⟩:=h.ne;refine⟨⟨hu.blk h.br (by simpa using aF F),hu.cell (by simpa using aF G) h.rd,h.mem.upd hu (fun b hb=>by simp only[ag]at hb;subst hb;exact(h.o b (by simp)).1),h.abs,?_,hu.blk h.lo (by simpa using aF O),au h.vc 0 _,h.dis,fun b hb=>⟨(h.o b hb).1,hu.lt (h.o b hb).2⟩,aW h.bs hu.size,h.small⟩,hu⟩;rcases h.last with⟨a,b,c⟩|⟨x,U,V,a,b,c,d,e⟩
 ·exact .inl ⟨a,hu.blk b (by simpa using aF z),hu.blk c (by simpa using aF A)⟩
 ·exact .inr ⟨x,U,V,a,hu.blk b (by simpa using aF z),c.upd hu (by simpa using aF D),hu.blk d (by simpa using aF A),e.upd hu (by simpa using aF D)⟩
theorem RPI.setOff(h:RPI w BR R bm LN LV LO VC p g base st M)(n:Nat):RPI (w.setCell ⟨LO,0,none⟩ (.int .i64 (n:Nat))) BR R bm LN LV LO VC p g base {st with lastOff:=n} M∧Upd [LO] w (w.setCell ⟨LO,0,none⟩ (.int .i64 (n:Nat))):=by
 have hu:Upd [LO] w (w.setCell ⟨LO,0,none⟩ (.int .i64 (n:Nat))):=((ae w).mono (by simp)).setCell (by simp) _;obtain⟨_,⟨F,G,z,A,O,D⟩,_⟩:=h.ne;refine⟨⟨hu.blk h.br (by simpa using aF F),hu.cell (by simpa using aF G) h.rd,h.mem.upd hu (fun b hb=>by simp only[ag]at hb;subst hb;exact(h.o b (by simp)).1),h.abs,?_,au h.lo 0 _,hu.blk h.vc (by simpa using aF O),h.dis,fun b hb=>⟨(h.o b hb).1,hu.lt (h.o b hb).2⟩,aW h.bs hu.size,h.small⟩,hu⟩;rcases h.last with⟨a,b,c⟩|⟨x,U,V,a,b,c,d,e⟩
 ·exact .inl ⟨a,hu.blk b (by simpa using aF z),hu.blk c (by simpa using aF A)⟩
 ·exact .inr ⟨x,U,V,a,hu.blk b (by simpa using aF z),c.upd hu (by simpa using aF D),hu.blk d (by simpa using aF A),e.upd hu (by simpa using aF D)⟩
theorem RPI.setLast(h:RPI w BR R bm LN LV LO VC p g base st M)(d z:Value)(l:Option (Bytes×Bytes))(hl:(l=none∧d=.slice none 0 0∧z=.slice none 0 0)∨∃x,l=some x∧RdG w d g x.1∧RdG w z g x.2):
 RPI ((w.setCell ⟨LN,0,none⟩ d).setCell ⟨LV,0,none⟩ z) BR R bm LN LV LO VC p g base {st with last:=l} M∧Upd [LN,LV] w ((w.setCell ⟨LN,0,none⟩ d).setCell ⟨LV,0,none⟩ z):=by
 have hu:Upd [LN,LV] w ((w.setCell ⟨LN,0,none⟩ d).setCell ⟨LV,0,none⟩ z):=(((ae w).mono (by simp)).setCell (by simp) _).setCell (by simp) _;obtain⟨_,_,⟨m1,m2,m3,m4,m5,m6⟩,⟨U,V,W,n4,n5,n6⟩⟩:=h.ne;have A:∃v0,w.heap[LN]? =some (.cells #[v0] 65 (0,0)):=by rcases h.last with⟨_,b,_⟩|⟨_,d,_,_,b,_⟩;exact⟨_,b⟩;exact⟨_,b⟩
 have D:∃v0,w.heap[LV]? =some (.cells #[v0] 65 (0,0)):=by rcases h.last with⟨_,_,b⟩|⟨_,_,d,_,_,_,b,_⟩;exact⟨_,b⟩;exact⟨_,b⟩
 obtain⟨v0,A⟩:=A;obtain⟨v1,D⟩:=D;have F:Upd [LN] w (w.setCell ⟨LN,0,none⟩ d):=((ae w).mono (by simp)).setCell (by simp) _;have G:Upd [LV] (w.setCell ⟨LN,0,none⟩ d) ((w.setCell ⟨LN,0,none⟩ d).setCell ⟨LV,0,none⟩ z):=((ae _).mono (by simp)).setCell (by simp) _;have h1:((w.setCell ⟨LN,0,none⟩ d).setCell ⟨LV,0,none⟩ z).heap[LN]? =some (.cells #[d] 65 (0,0)):=G.blk (au A 0 _) (by simpa using m3);have O:((w.setCell ⟨LN,0,none⟩ d).setCell ⟨LV,0,none⟩ z).heap[LV]? =some (.cells #[z] 65 (0,0)):=au (F.blk D (by simpa using W)) 0 _;have hg:g∉[LN,LV]:=by simp;exact⟨aF m6,aF n6⟩
 refine⟨⟨hu.blk h.br (by simp;exact⟨aF m1,aF U⟩),hu.cell (by simp;exact⟨aF m2,aF V⟩) h.rd,h.mem.upd hu (fun b hb=>by simp only[ah,ai,or_false]at hb;rcases hb with rfl|rfl<;>exact(h.o _ (by simp)).1),h.abs,?_,hu.blk h.lo (by simp;exact⟨aF m4,aF n4⟩),hu.blk h.vc (by simp;exact⟨aF m5,aF n5⟩),h.dis,fun b hb=>⟨(h.o b hb).1,hu.lt (h.o b hb).2⟩,aW h.bs hu.size,h.small⟩,hu⟩;rcases hl with⟨rfl,rfl,rfl⟩|⟨x,rfl,a,b⟩
 ·exact .inl ⟨rfl,h1,O⟩
 ·exact .inr ⟨x,d,z,rfl,h1,a.upd hu hg,O,b.upd hu hg⟩
end
abbrev rpB(LN LV LO VC bm:Nat)(M:RM):List Nat:=[LN,LV,LO,VC]++aR bm M
def ES(w:World)(BR R bm LN LV LO VC p g base:Nat)(st:RP)(M:RM)(e:Ending)(w':World):Prop:=e=.returned .nilIface∧∃d,RPI w' BR R bm LN LV LO VC p g base st d∧Upd (rpB LN LV LO VC bm M) w w'∧∀b∈aR bm d,b∈aR bm M∨w.heap.size≤b
theorem wd(w:World)(BR R bm LN LV LO VC p g base:Nat)(st:RP)(M:RM)(vn vl:Value)(nm D:Bytes)(o off:Nat)(h:RPI w BR R bm LN LV LO VC p g base st M)(hn:RdG w vn g nm)(hv:RdG w vl g D)
 (hc:st.cnt<1000)(hs:∀y∈(ee st (nm,D,off)).M,y.2.length<100000)(cn:∀y∈(ji st nm).M,y.2.length<100000):
 Calls prog 179 #[vn,vl,.int .u64 (o:Nat),.int .i64 (off:Nat),ptr BR 0,ptr LN 0,ptr LV 0,ptr LO 0,ptr VC 0] w (ES w BR R bm LN LV LO VC p g base (ee st (nm,D,off)) M):=by
 have HI:=aa h;have HS:=aa (And.intro hs cn);have b0:w.cell? ⟨BR,0,none⟩=some (ptr R 0):=af h.br 0;have r3:=h.rd;obtain⟨W,c1,rfl,bO,cp⟩:=id hn;obtain⟨o2,c2,rfl,bR,cs⟩:=id hv;obtain⟨N1,bS⟩:∃N,N=nm.length:=⟨_,rfl⟩;obtain⟨N2,hN2⟩:∃N,N=D.length:=⟨_,rfl⟩;rw[←bS]at hn⊢;rw[←hN2]at hv⊢;have Hn:=aa (And.intro hn (And.intro hv (And.intro bS hN2)));clear h hn hv bO cp bR cs bS hN2 hs cn;obtain⟨Y,hY⟩:∃Y,Y=(aT (str nm) (M.map fun x=>(x.1,x.2.1))).getD (.slice none 0 0):=⟨_,rfl⟩;obtain⟨ok,bW⟩:∃b,b=(aT (str nm) (M.map fun x=>(x.1,x.2.1))).isSome:=⟨_,rfl⟩;obtain⟨O,hsn⟩:∃s,s=str nm:=⟨_,rfl⟩;have F:=aa (fun(w':World) (hu:Upd [] w w')=>show w'.cell? ⟨BR,0,none⟩=some (ptr R 0)∧w'.cell? ⟨R,3,none⟩=some (.map (some bm))∧(convert 65 9 (.slice (some ⟨g,W,none⟩) N1 c1)).run prog w'=.ok (.string O) w'∧(Instr.lookup 146 (.map (some bm)) (.string O) true).run prog w'=.ok (.tuple #[Y,.bool ok]) w' from by
  have h:=HI.o.upd hu (by simp);refine⟨af h.br 0,h.rd,?_,?_⟩
  ·rw[hsn];exact(Hn.o.1.upd hu (by simp)).str
  ·have h1:=cw (P:=prog) (T:=146) Value.string iT underlying146 h.mem.o tx (str nm) true;rw[←hY,←bW,←hsn]at h1;simpa only[if_true]using h1)
 have ad:=aa (And.intro bW hsn);clear hY bW hsn b0 r3;go_enter func179,ntmps179
 go_wp2_with fail;go_cut [14,15]from 16 to 25 (fun v v' wx=>v'=.bool ok∧Upd [] w wx)
 case first=>
  go_region_held3 (fun w'=>w'.cell? ⟨BR,0,none⟩=some (ptr R 0)∧w'.cell? ⟨R,3,none⟩=some (.map (some bm))∧(convert 65 9 (.slice (some ⟨g,W,none⟩) N1 c1)).run prog w'=.ok (.string O) w'∧(Instr.lookup 146 (.map (some bm)) (.string O) true).run prog w'=.ok (.tuple #[Y,.bool ok]) w') (first|(go_keep;done)|exact F.o _ (ae _).drew) (fail)
  all_goals
   go_wp2_with fail;go_meet
   exact⟨rfl,(ae _).drew⟩
 case rest=>
  obtain⟨rfl,a6⟩:=hcut;have a0:=aa (HI.o.upd a6 (by simp));have a1:=aa a6;have ct:=aa (And.intro (Hn.o.1.upd a6 (by simp)) (Hn.o.2.1.upd a6 (by simp)));have cA:ok=(aT (str nm) st.M).isSome:=ad.o.1.trans (Cb HI.o (str nm));have b5:=aa cA;clear a6 cA F;go_upto_if 27 with(fail)
  go_cut []from 28 to 55 (fun wx=>∃M',Hid (RPI wx BR R bm LN LV LO VC p g base (ji st nm) M'∧Upd (rpB LN LV LO VC bm M) w wx∧∀b∈aR bm M',b∈aR bm M∨w.heap.size≤b))
  case first=>
   cases ok with
   |true=>
    go_wp2_with fail;go_meet
    exact⟨M,aa ⟨by rw[ji,if_pos b5.o.symm];exact a0.o,a1.o.mono (by simp),fun b hb=>.inl hb⟩⟩
   |false=>
    have a2:(aT (str nm) st.M).isSome=false:=b5.o.symm;have a7:=aa a2;obtain⟨w3,cY,⟨M1,cB,cD⟩,G4⟩:=a0.o.fresh (k:=O);have cE:Upd [] wc (wc.alloc (.cells #[] 172 (0,0))).drew:=((ae wc).alloc _).drew;have F:=aa (fun(w':World) (hu:Upd [bm] wc w')=>show w'.cell? ⟨BR,0,none⟩=some (ptr R 0)∧w'.cell? ⟨R,3,none⟩=some (.map (some bm))∧(convert 65 9 (.slice (some ⟨g,W,none⟩) N1 c1)).run prog w'=.ok (.string O) w' from by have hn:∀b∈[BR,R,LN,LV,LO,VC,p,g],b∉[bm]:=fun b hb hm=>(a0.o.o b hb).1 (by simp only[ag]at hm;rw[hm];simp[aR]);refine⟨af (hu.blk a0.o.br (hn BR (by simp))) 0,hu.cell (hn R (by simp)) a0.o.rd,?_⟩;rw[ad.o.2];exact(ct.o.1.upd hu (hn g (by simp))).str)
    have bB:=aa G4;have d:=aa (And.intro cB cD);have cZ:=aa cE;clear a2 cB cD G4 cE;go_wp2_with fail;go_region_held3 (fun w'=>w'.cell? ⟨BR,0,none⟩=some (ptr R 0)∧w'.cell? ⟨R,3,none⟩=some (.map (some bm))∧(convert 65 9 (.slice (some ⟨g,W,none⟩) N1 c1)).run prog w'=.ok (.string O) w') (first|(go_keep;done)|exact F.o _ ((ae _).mono (by simp)).drew|exact F.o _ (cZ.o.mono (by simp))|exact F.o _ bB.o) (fail)
    all_goals
     clear F cY;rcases d.o.1.last with⟨a9,a3,a4⟩|⟨x,ds,dF,a9,a3,a4,b6,bE⟩
     ·
      have l0:w3.cell? ⟨LN,0,none⟩=some (.slice none 0 0):=af a3 0;have f0:=ao d.o.1.vc 0;have v0:w3.cell? ⟨VC,0,none⟩=some (.int .i64 (st.cnt:Nat)):=af d.o.1.vc 0;have Hl:=aa a9;clear a9 a3 a4;go_wp2_with fail;go_meet
      have bb:ji st nm={({st with M:=cf O [] st.M}:RP)with cnt:=0}:=by rw[ji,if_neg (by rw[a7.o];simp),Hl.o,ad.o.2];rfl
      have K:=d.o.1.setCnt 0;refine⟨M1,aa ⟨by rw[bb];exact K.1,((a1.o.mono (by simp)).then bB.o (by simp[aR])).then K.2 (by simp),fun b hb=>?_⟩⟩;rcases d.o.2 b hb with h1|h1
      ·exact .inl h1
      ·have:=a1.o.size;exact .inr (by omega)
     ·
      obtain⟨o3,c3,rfl,b7,cF⟩:=id a4;obtain⟨o4,c4,rfl,b8,cL⟩:=id bE;obtain⟨N3,cM⟩:∃N,N=x.1.length:=⟨_,rfl⟩;obtain⟨N4,cN⟩:∃N,N=x.2.length:=⟨_,rfl⟩;rw[←cM]at a3 a4;rw[←cN]at b6 bE;obtain⟨s3,b9⟩:∃s,s=str x.1:=⟨_,rfl⟩;obtain⟨s4,ca⟩:∃s,s=str x.2:=⟨_,rfl⟩;have c0:=sZ d.o.1.mem d.o.1.bs s3 (s4,st.lastOff) d.o.1.len;obtain⟨v,L,g',n,cap',w4,w5,K⟩:=c0;have F:=aa (fun(w':World) (hu:Upd (bm::L) w3 w')=>show w'.cell? ⟨BR,0,none⟩=some (ptr R 0)∧w'.cell? ⟨R,3,none⟩=some (.map (some bm))∧w'.cell? ⟨LN,0,none⟩=some (.slice (some ⟨g,o3,none⟩) N3 c3)∧w'.cell? ⟨LV,0,none⟩=some (.slice (some ⟨g,o4,none⟩) N4 c4)∧w'.cell? ⟨LO,0,none⟩=some (.int .i64 (st.lastOff:Nat))∧(convert 65 9 (.slice (some ⟨g,o3,none⟩) N3 c3)).run prog w'=.ok (.string s3) w'∧(convert 65 9 (.slice (some ⟨g,o4,none⟩) N4 c4)).run prog w'=.ok (.string s4) w' from by
       have hn:∀b∈[BR,R,LN,LV,LO,VC,p,g],b∉bm::L:=fun b hb hm=>by
        simp only[ah]at hm;rcases hm with rfl|hm
        ·exact(d.o.1.o _ hb).1 (by simp[aR])
        ·exact(d.o.1.o b hb).1 (K.sub b hm).1
       refine⟨af (hu.blk d.o.1.br (hn BR (by simp))) 0,hu.cell (hn R (by simp)) d.o.1.rd,af (hu.blk a3 (hn LN (by simp))) 0,af (hu.blk b6 (hn LV (by simp))) 0,af (hu.blk d.o.1.lo (hn LO (by simp))) 0,?_,?_⟩
       ·rw[b9];exact(a4.upd hu (hn g (by simp))).str
       ·rw[ca];exact(bE.upd hu (hn g (by simp))).str)
      have KA:=aa (And.intro K.u2 K.u3);have k1:=K.look _ (((ae w3).mono (by simp)).drew);have k2:=K.look _ ((((ae w3).mono (by simp)).alloc (.cells #[.string s4,.int .i64 (st.lastOff:Nat)] 172 (0,0))).drew);have kp:=K.put;have HK:=aa K;have bd:=aa K.app;have Hx:=aa (And.intro a9 (And.intro b9 ca));clear a9 a3 a4 b6 bE b7 cF b8 cL cM cN b9 ca K;have l0:=(F.o _ ((ae w3).mono (by simp))).2.2.1;go_wp2_with fail
      go_region_held3 (fun w'=>w'.cell? ⟨BR,0,none⟩=some (ptr R 0)∧w'.cell? ⟨R,3,none⟩=some (.map (some bm))∧w'.cell? ⟨LN,0,none⟩=some (.slice (some ⟨g,o3,none⟩) N3 c3)∧w'.cell? ⟨LV,0,none⟩=some (.slice (some ⟨g,o4,none⟩) N4 c4)∧w'.cell? ⟨LO,0,none⟩=some (.int .i64 (st.lastOff:Nat))∧(convert 65 9 (.slice (some ⟨g,o3,none⟩) N3 c3)).run prog w'=.ok (.string s3) w'∧(convert 65 9 (.slice (some ⟨g,o4,none⟩) N4 c4)).run prog w'=.ok (.string s4) w')
       (first|(go_keep;done)|exact F.o _ (((ae w3).mono (by simp)).drew)|exact F.o _ ((((ae w3).mono (by simp)).alloc _).drew)|exact F.o _ (KA.o.1.mono (fun b hb=>aH _ hb))|exact F.o _ KA.o.2)
       ((refine df (by rfl) _ _ _ (by rfl) _ _ _ _ (by rfl) (by rfl) bd.o ?_))
      all_goals
       have bb:ji st nm={({st with M:=fU (cf O [] st.M) s3 s4 st.lastOff}:RP)with cnt:=0}:=by rw[ji,if_neg (by rw[a7.o];simp),Hx.o.1,ad.o.2,Hx.o.2.1,Hx.o.2.2];rfl
       have a5:∀y∈fU (cf O [] st.M) s3 s4 st.lastOff,y.2.length<100000:=fun y hy=>HS.o.2 y (by rw[bb];exact hy);obtain⟨M2,z,be,bg⟩:=d.o.1.push HK.o {st with M:=fU (cf O [] st.M) s3 s4 st.lastOff} rfl ⟨rfl,rfl,rfl⟩ a5;have f0:=ao z.vc 0;have v0:w5.cell? ⟨VC,0,none⟩=some (.int .i64 (st.cnt:Nat)):=af z.vc 0;have cc:=aa (And.intro z (And.intro be bg));have c6:=aa bb;clear z be bg bb a5 F KA k1 k2 kp bd l0;go_wp2_with fail;go_meet
       have K:=cc.o.1.setCnt 0;have dP:=a1.o.size;have dp:=bB.o.size;refine⟨M2,aa ⟨by rw[c6.o];exact K.1,(((a1.o.mono (by simp)).then bB.o (by simp[aR])).then cc.o.2.2 (fun b hb hl=>?_)).then K.2 (by simp),fun b hb=>?_⟩⟩
       ·rcases d.o.2 b hb with h1|h1
        ·simp[h1]
        ·omega
       ·rcases cc.o.2.1 b hb with h1|h1
        ·rcases d.o.2 b h1 with h2|h2
         ·exact .inl h2
         ·exact .inr (by omega)
        ·exact .inr (by omega)
  case rest=>
   obtain⟨M1,A⟩:=hcut;obtain⟨s1,bl⟩:∃s1,s1=ji st nm:=⟨_,rfl⟩;have c7:s1.cnt<1000:=by
    rw[bl,ji];split
    ·exact hc
    ·simp
   have a2:ee st (nm,D,off)=nP s1 nm D off:=by rw[bl];rfl
   rw[←bl]at A;have bK:=aa (And.intro (Hn.o.1.upd A.o.2.1 (by have h:=HI.o;simp only[aA,not_or];exact⟨by simp;exact⟨h.ne.2.2.1.2.2.2.2.2.symm,h.ne.2.2.2.2.2.2.2.2.symm,h.ne.2.1.2.2.2.2.2.symm,h.ne.1.2.2.2.2.2.symm⟩,(h.o g (by simp)).1⟩)) (Hn.o.2.1.upd A.o.2.1 (by have h:=HI.o;simp only[aA,not_or];exact⟨by simp;exact⟨h.ne.2.2.1.2.2.2.2.2.symm,h.ne.2.2.2.2.2.2.2.2.symm,h.ne.2.1.2.2.2.2.2.symm,h.ne.1.2.2.2.2.2.symm⟩,(h.o g (by simp)).1⟩)));have a7:=aa a2;have a5:=HS.o.1;rw[a2]at a5;have c8:=aa a5;have v0:wc.cell? ⟨VC,0,none⟩=some (.int .i64 (s1.cnt:Nat)):=af A.o.1.vc 0;have dT:=aa bl;obtain⟨n1,cg⟩:∃n,n=s1.cnt:=⟨_,rfl⟩;rw[←cg]at v0 c7;have U:=aa cg;clear bl a2 a5 cg HI a0 a1 ct b5 Hn;by_cases hm:n1 % 32=0
   ·have c9:(n1:Int) % 32=0:=by omega
    obtain⟨sv,Ig⟩:∃s,s=str D:=⟨_,rfl⟩;obtain⟨v,L,g',n,cap',w4,w5,K⟩:=sZ A.o.1.mem A.o.1.bs O (sv,off) A.o.1.len;have F:=aa (fun(w':World) (hu:Upd (bm::L) wc w')=>show w'.cell? ⟨BR,0,none⟩=some (ptr R 0)∧w'.cell? ⟨R,3,none⟩=some (.map (some bm))∧(convert 65 9 (.slice (some ⟨g,W,none⟩) N1 c1)).run prog w'=.ok (.string O) w'∧(convert 65 9 (.slice (some ⟨g,o2,none⟩) N2 c2)).run prog w'=.ok (.string sv) w' from by
     have hn:∀b∈[BR,R,LN,LV,LO,VC,p,g],b∉bm::L:=fun b hb hm=>by
      simp only[ah]at hm;rcases hm with rfl|hm
      ·exact(A.o.1.o _ hb).1 (by simp[aR])
      ·exact(A.o.1.o b hb).1 (K.sub b hm).1
     refine⟨af (hu.blk A.o.1.br (hn BR (by simp))) 0,hu.cell (hn R (by simp)) A.o.1.rd,?_,?_⟩
     ·rw[ad.o.2];exact(bK.o.1.upd hu (hn g (by simp))).str
     ·rw[Ig];exact(bK.o.2.upd hu (hn g (by simp))).str)
    have KA:=aa (And.intro K.u2 K.u3);have k1:=K.look _ (((ae wc).mono (by simp)).drew);have k2:=K.look _ ((((ae wc).mono (by simp)).alloc (.cells #[.string sv,.int .i64 (off:Nat)] 172 (0,0))).drew);have kp:=K.put;have HK:=aa K;have bd:=aa K.app;have dc:=aa Ig;clear K Ig;go_wp2_with fail
    go_region_held3 (fun w'=>w'.cell? ⟨BR,0,none⟩=some (ptr R 0)∧w'.cell? ⟨R,3,none⟩=some (.map (some bm))∧(convert 65 9 (.slice (some ⟨g,W,none⟩) N1 c1)).run prog w'=.ok (.string O) w'∧(convert 65 9 (.slice (some ⟨g,o2,none⟩) N2 c2)).run prog w'=.ok (.string sv) w')
     (first|(go_keep;done)|exact F.o _ (((ae wc).mono (by simp)).drew)|exact F.o _ ((((ae wc).mono (by simp)).alloc _).drew)|exact F.o _ (KA.o.1.mono (fun b hb=>aH _ hb))|exact F.o _ KA.o.2)
     ((refine df (by rfl) _ _ _ (by rfl) _ _ _ _ (by rfl) (by rfl) bd.o ?_))
    all_goals
     have bn:nP s1 nm D off={({({s1 with M:=fU s1.M O sv off}:RP)with last:=none}:RP)with cnt:=s1.cnt+1}:=by rw[nP,if_pos (by rw[←U.o];exact hm),ad.o.2,dc.o]
     have bM:∀y∈fU s1.M O sv off,y.2.length<100000:=fun y hy=>c8.o y (by rw[bn];exact hy);obtain⟨M2,z,be,bg⟩:=A.o.1.push HK.o {s1 with M:=fU s1.M O sv off} rfl ⟨rfl,rfl,rfl⟩ bM;obtain⟨G,br⟩:=z.setLast (.slice none 0 0) (.slice none 0 0) none (.inl ⟨rfl,rfl,rfl⟩);obtain⟨V,bv⟩:=G.setCnt (s1.cnt+1);have dd:w5.frozen? ⟨LN,0,none⟩=false:=by rcases z.last with⟨_,b,_⟩|⟨_,_,_,_,b,_⟩<;>exact ao b 0
     have dj:(w5.setCell ⟨LN,0,none⟩ (.slice none 0 0)).frozen? ⟨LV,0,none⟩=false:=by have G5:=z.ne.2.2.2.2.2.1;have hu:Upd [LN] w5 (w5.setCell ⟨LN,0,none⟩ (.slice none 0 0)):=((ae w5).mono (by simp)).setCell (by simp) _;rcases z.last with⟨_,_,b⟩|⟨_,_,_,_,_,_,b,_⟩<;>exact ao (hu.blk b (by simpa using G5)) 0
     have bw:∃x,w5.cell? ⟨LN,0,none⟩=some x:=by rcases z.last with⟨_,b,_⟩|⟨_,_,_,_,b,_⟩<;>exact⟨_,af b 0⟩
     have bA:∃x,(w5.setCell ⟨LN,0,none⟩ (.slice none 0 0)).cell? ⟨LV,0,none⟩=some x:=by have G5:=z.ne.2.2.2.2.2.1;have hu:Upd [LN] w5 (w5.setCell ⟨LN,0,none⟩ (.slice none 0 0)):=((ae w5).mono (by simp)).setCell (by simp) _;rcases z.last with⟨_,_,b⟩|⟨_,_,_,_,_,_,b,_⟩<;>exact⟨_,af (hu.blk b (by simpa using G5)) 0⟩
     obtain⟨y1,bw⟩:=bw;obtain⟨y2,bA⟩:=bA;have v6:((w5.setCell ⟨LN,0,none⟩ (.slice none 0 0)).setCell ⟨LV,0,none⟩ (.slice none 0 0)).cell? ⟨VC,0,none⟩=some (.int .i64 (n1:Nat)):=by rw[U.o];exact af G.vc 0
     have f6:=ao G.vc 0;have ck:=aa (And.intro V (And.intro br bv));have cO:=aa (And.intro bg be);have dk:=aa bn;clear z G V br bv bn bM be bg F KA k1 k2 kp bd v0;go_wp2_with fail;go_ret;have d0:=A.o.2.1.size;refine⟨rfl,M2,?_,?_,fun b hb=>?_⟩;rotate_right
     ·rcases cO.o.2 b hb with h3|h3
      ·exact A.o.2.2 b h3
      ·exact .inr (by omega)
     ·have h1:=ck.o.1;rw[a7.o,dk.o];rw[←U.o]at h1⊢;exact h1
     ·have h2:=ck.o.2.2;rw[←U.o]at h2;refine((A.o.2.1.then cO.o.1 (fun b hb hl=>?_)).then ck.o.2.1 (by simp)).then h2 (by simp);rcases A.o.2.2 b hb with h3|h3
      ·simp[h3]
      ·omega
   ·have c9:¬(n1:Int) % 32=0:=by omega
    obtain⟨G,br⟩:=A.o.1.setLast (.slice (some ⟨g,W,none⟩) N1 c1) (.slice (some ⟨g,o2,none⟩) N2 c2) (some (nm,D)) (.inr ⟨_,rfl,bK.o.1,bK.o.2⟩);obtain⟨V,bv⟩:=G.setOff off;obtain⟨cP,cX⟩:=V.setCnt (s1.cnt+1);have dd:wc.frozen? ⟨LN,0,none⟩=false:=by rcases A.o.1.last with⟨_,b,_⟩|⟨_,_,_,_,b,_⟩<;>exact ao b 0
    have dj:(wc.setCell ⟨LN,0,none⟩ (.slice (some ⟨g,W,none⟩) N1 c1)).frozen? ⟨LV,0,none⟩=false:=by have G5:=A.o.1.ne.2.2.2.2.2.1;have hu:Upd [LN] wc (wc.setCell ⟨LN,0,none⟩ (.slice (some ⟨g,W,none⟩) N1 c1)):=((ae wc).mono (by simp)).setCell (by simp) _;rcases A.o.1.last with⟨_,_,b⟩|⟨_,_,_,_,_,_,b,_⟩<;>exact ao (hu.blk b (by simpa using G5)) 0
    have bw:∃x,wc.cell? ⟨LN,0,none⟩=some x:=by rcases A.o.1.last with⟨_,b,_⟩|⟨_,_,_,_,b,_⟩<;>exact⟨_,af b 0⟩
    have bA:∃x,(wc.setCell ⟨LN,0,none⟩ (.slice (some ⟨g,W,none⟩) N1 c1)).cell? ⟨LV,0,none⟩=some x:=by have G5:=A.o.1.ne.2.2.2.2.2.1;have hu:Upd [LN] wc (wc.setCell ⟨LN,0,none⟩ (.slice (some ⟨g,W,none⟩) N1 c1)):=((ae wc).mono (by simp)).setCell (by simp) _;rcases A.o.1.last with⟨_,_,b⟩|⟨_,_,_,_,_,_,b,_⟩<;>exact⟨_,af (hu.blk b (by simpa using G5)) 0⟩
    obtain⟨y1,bw⟩:=bw;obtain⟨y2,bA⟩:=bA;have ea:=ao G.lo 0;have eb:((wc.setCell ⟨LN,0,none⟩ (.slice (some ⟨g,W,none⟩) N1 c1)).setCell ⟨LV,0,none⟩ (.slice (some ⟨g,o2,none⟩) N2 c2)).cell? ⟨LO,0,none⟩=some (.int .i64 (s1.lastOff:Nat)):=af G.lo 0;have v7:(((wc.setCell ⟨LN,0,none⟩ (.slice (some ⟨g,W,none⟩) N1 c1)).setCell ⟨LV,0,none⟩ (.slice (some ⟨g,o2,none⟩) N2 c2)).setCell ⟨LO,0,none⟩ (.int .i64 (off:Nat))).cell? ⟨VC,0,none⟩=some (.int .i64 (n1:Nat)):=by rw[U.o];exact af V.vc 0
    have f7:=ao V.vc 0;have bL:=aa (And.intro cP (And.intro br (And.intro bv cX)));clear G V cP br bv cX;go_wp2_with fail;go_ret;have bn:nP s1 nm D off={({({s1 with last:=some (nm,D)}:RP)with lastOff:=off}:RP)with cnt:=s1.cnt+1}:=by rw[nP,if_neg (by rw[←U.o];exact hm)]
    refine⟨rfl,M1,?_,?_,A.o.2.2⟩
    ·have h1:=bL.o.1;rw[a7.o,bn];rw[←U.o]at h1⊢;exact h1
    ·have h2:=bL.o.2.2.2;rw[←U.o]at h2;exact((A.o.2.1.then bL.o.2.1 (by simp)).then bL.o.2.2.1 (by simp)).then h2 (by simp)
end Go.Proofs.YtlgefdfflmgocaaGreatDoor
