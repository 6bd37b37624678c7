import Derived.Test.YtlgefdfflmgocaaGreatDoorQ06
set_option linter.all false
set_option maxRecDepth 100000
set_option maxHeartbeats 4000000
namespace Go.Proofs.YtlgefdfflmgocaaGreatDoor
open Go Go.RowKit Xc Go.Proofs.Tryz
theorem EW(s:ByteArray)(l:List (Bytes×Bytes))(c1:Value)(I:Nat→World→Prop)(w:World)(h:gQ s l)(hI:I 0 (w.alloc (.cells #[.string s] 135 (0,0))))
 (hf:∀j (hj:j<l.length) w',I j w'→Calls prog 137 #[.agg #[.string (str l[j].1),.string (str l[j].2)],c1] w' fun e G=>e=.returned (.tuple #[])∧I (j+1) G∧G.heap[w.heap.size]? =w'.heap[w.heap.size]?):
 Calls prog 136 #[.agg #[.string s],.func (.func 137) #[] #[c1]] w fun e w'=>e=.returned (.tuple #[])∧I l.length w':=by
 have F:=aa h;have a6:=h.2.1;have HI:=aa hI;have HF:=aa hf;have hb:(w.alloc (.cells #[.string s] 135 (0,0))).heap[w.heap.size]? =some (.cells #[.string s] 135 (0,0)):=an _;clear h hI hf;go_enter func136,ntmps136
 go_wp2_with fail;revert hb HI HF;generalize (w.alloc (.cells #[.string s] 135 (0,0)))=w1;generalize w.heap.size=X;intro HI HF hb;have HB:=aa hb;clear hb;go_loopw [4,5,6] (fun i _ _ wr=>∃j,j≤l.length∧i=.int .i64 (aL (l.take j)).length∧wr.heap[X]? =some (.cells #[.string s] 135 (0,0))∧I j wr) (fun i _ _ _=>s.size-(intOf i).toNat)
 case atStart=>exact⟨0,ay _,rfl,HB.o,HI.o⟩
 case round=>
  obtain⟨j,hj,rfl,D,O⟩:=hrel;have c0:wr.cell? ⟨X,0,none⟩=some (.string s):=by rw[af D];rfl
  have ad:=aa D;have U:=aa O;clear D O;by_cases d:j<l.length
  ·have hlim:=F.o.lt d;obtain⟨P,hP⟩:∃P,P=(aL (l.take j)).length:=⟨_,rfl⟩;obtain⟨P1,z⟩:∃P1,P1=(aL (l.take j)).length+(eJ l[j].1).length:=⟨_,rfl⟩;obtain⟨P2,A⟩:∃P2,P2=(aL (l.take (j+1))).length:=⟨_,rfl⟩;have V:=jq l j d;rw[←z,←A,dw]at V;have a5:P<P1:=by rw[z,hP,dw];omega
   have a0:P2≤s.size:=by
    rw[F.o.len,A];have:=congrArg List.length (aI (j+1) l);have h2:aL l=aL (l.take (j+1))++aL (l.drop (j+1)):=by rw[←fH,aI]
    rw[h2,ab];omega
   have hN:=F.o.name d;have hV:=F.o.value d;rw[←z,←hP]at hN;rw[←z,←A]at hV;rw[←hP]at hlim⊢;have HN:=aa hN;have HV:=aa hV;have a1:=aa A;have a2:(P:Int)<(s.size:Int):=by omega
   clear hN hV hP z A;go_wp2_with (go_at_call_of 164 (Value.int IntKind.i64 (P:Int));refine(HN.o _).mono ?_;rintro e w2 ⟨rfl,rfl⟩);refine(HV.o _).mono ?_;rintro e w2 ⟨rfl,rfl⟩;go_wp2_with (go_at_call 137;refine(HF.o j d _ U.o).mono ?_;rintro e w2 ⟨rfl,W,hb2⟩;have a3:=aa W;have a4:=aa (hb2.trans ad.o);clear W hb2);exact⟨⟨j+1,d,by rw[←a1.o,V];congr 1,a4.o,a3.o⟩,by simp only[intOf];omega⟩
  ·obtain rfl:j=l.length:=by omega
   have a7:¬((aL (l.take l.length)).length:Int)<(s.size:Int):=by rw[aS,←F.o.len];omega
   rw[aS,←F.o.len]at*;go_wp2_with fail;go_end0
   exact⟨rfl,U.o⟩
theorem zm(s:ByteArray)(l:List (Bytes×Bytes))(c1:Value)(I:Nat→World→Prop)(w:World)(h:gQ s l)(hI:I 0 (w.alloc (.cells #[.string s] 135 (0,0))))
 (hf:∀j (hj:j<l.length) w',I j w'→Calls prog 103 #[.agg #[.string (str l[j].1),.string (str l[j].2)],c1] w' fun e G=>e=.returned .nilIface∧I (j+1) G∧G.heap[w.heap.size]? =w'.heap[w.heap.size]?):
 Calls prog 102 #[.agg #[.string s],.func (.func 103) #[] #[c1]] w fun e w'=>e=.returned .nilIface∧I l.length w':=by
 have F:=aa h;have a6:=h.2.1;have HI:=aa hI;have HF:=aa hf;have hb:(w.alloc (.cells #[.string s] 135 (0,0))).heap[w.heap.size]? =some (.cells #[.string s] 135 (0,0)):=an _;clear h hI hf;go_enter func102,ntmps102
 go_wp2_with fail;revert hb HI HF;generalize (w.alloc (.cells #[.string s] 135 (0,0)))=w1;generalize w.heap.size=X;intro HI HF hb;have HB:=aa hb;clear hb;go_loopw [5,6,7] (fun i _ _ wr=>∃j,j≤l.length∧i=.int .i64 (aL (l.take j)).length∧wr.heap[X]? =some (.cells #[.string s] 135 (0,0))∧I j wr) (fun i _ _ _=>s.size-(intOf i).toNat)
 case atStart=>exact⟨0,ay _,rfl,HB.o,HI.o⟩
 case round=>
  obtain⟨j,hj,rfl,D,O⟩:=hrel;have c0:wr.cell? ⟨X,0,none⟩=some (.string s):=by rw[af D];rfl
  have ad:=aa D;have U:=aa O;clear D O;by_cases d:j<l.length
  ·have hlim:=F.o.lt d;obtain⟨P,hP⟩:∃P,P=(aL (l.take j)).length:=⟨_,rfl⟩;obtain⟨P1,z⟩:∃P1,P1=(aL (l.take j)).length+(eJ l[j].1).length:=⟨_,rfl⟩;obtain⟨P2,A⟩:∃P2,P2=(aL (l.take (j+1))).length:=⟨_,rfl⟩;have V:=jq l j d;rw[←z,←A,dw]at V;have a5:P<P1:=by rw[z,hP,dw];omega
   have a0:P2≤s.size:=by
    rw[F.o.len,A];have:=congrArg List.length (aI (j+1) l);have h2:aL l=aL (l.take (j+1))++aL (l.drop (j+1)):=by rw[←fH,aI]
    rw[h2,ab];omega
   have hN:=F.o.name d;have hV:=F.o.value d;rw[←z,←hP]at hN;rw[←z,←A]at hV;rw[←hP]at hlim⊢;have HN:=aa hN;have HV:=aa hV;have a1:=aa A;have a2:(P:Int)<(s.size:Int):=by omega
   clear hN hV hP z A;go_wp2_with (go_at_call_of 164 (Value.int IntKind.i64 (P:Int));refine(HN.o _).mono ?_;rintro e w2 ⟨rfl,rfl⟩);refine(HV.o _).mono ?_;rintro e w2 ⟨rfl,rfl⟩;go_wp2_with (go_at_call 103;refine(HF.o j d _ U.o).mono ?_;rintro e w2 ⟨rfl,W,hb2⟩;have a3:=aa W;have a4:=aa (hb2.trans ad.o);clear W hb2);exact⟨⟨j+1,d,by rw[←a1.o,V];congr 1,a4.o,a3.o⟩,by simp only[intOf];omega⟩
  ·obtain rfl:j=l.length:=by omega
   have a7:¬((aL (l.take l.length)).length:Int)<(s.size:Int):=by rw[aS,←F.o.len];omega
   rw[aS,←F.o.len]at*;go_wp2_with fail;go_ret;exact⟨rfl,U.o⟩
section
attribute [local go_sem ↓] Go.wp_at_zero Go.wp_at_succ
variable {w:World} {k:WK} {r:WR} {s:WS}
def eW(q:IntKind)(l:List (ByteArray×Nat)):List (ByteArray×Value):=l.map fun p=>(p.1,.int q (p.2:Nat))
theorem rH(q:IntKind)(x:ByteArray)(l:List (ByteArray×Nat)):aT x (eW q l)=(aT x l).map fun n=>.int q (n:Nat):=by
 induction l with
 |nil=>rfl
 |cons p l d=>
  simp only[eW,aN,aT];split
  ·rfl
  ·exact d
theorem ym(q:IntKind)(x:ByteArray)(n:Nat)(l:List (ByteArray×Nat)):cf x (.int q (n:Nat)) (eW q l)=eW q (cf x n l):=by
 induction l with
 |nil=>rfl
 |cons p l d=>
  simp only[eW,aN,cf];split
  ·rfl
  ·simp only[aN,dS,true_and];exact d
def inc(x:ByteArray)(l:List (ByteArray×Nat)):List (ByteArray×Nat):=cf x ((aT x l).getD 0+1) l
theorem CV(w:World):(zeroValue 224).run prog w=.ok (.int .u32 0) w:=by kernel_rfl
theorem EQ(w:World):(zeroValue 41).run prog w=.ok (.int .u64 0) w:=by kernel_rfl
theorem ie{l:List (ByteArray×Nat)}(h:WI w k r s)(hl:s.cache=eW .u32 l)(x:ByteArray)(ok:Bool):
 (Instr.lookup 236 (.map (some k.MC)) (.string x) ok).run prog w=.ok (if ok then .tuple #[.int .u32 ((aT x l).getD 0:Nat),.bool (aT x l).isSome]else .int .u32 ((aT x l).getD 0:Nat)) w:=by
 have hb:=h.mc;rw[hl]at hb;rw[cw Value.string iT underlying236 hb CV x ok,rH];cases aT x l<;>rfl
theorem p6{l:List (ByteArray×Nat)}(h:WI w k r s)(hl:s.names=eW .u64 l)(x:ByteArray)(ok:Bool):
 (Instr.lookup 154 (.map (some k.MN)) (.string x) ok).run prog w=.ok (if ok then .tuple #[.int .u64 ((aT x l).getD 0:Nat),.bool (aT x l).isSome]else .int .u64 ((aT x l).getD 0:Nat)) w:=by
 have hb:=h.mn;rw[hl]at hb;rw[cw Value.string iT underlying154 hb EQ x ok,rH];cases aT x l<;>rfl
theorem u5(n B:Nat)(nm D:ByteArray)(i j:Nat)(lc ln:List (ByteArray×Nat))(h:WI w k r s)(hB:w.heap[B]? =some (.cells #[ptr k.W 0] 120 (0,0)))(bb:∀i:Nat,(wl k r)[i]?≠some (some B))
 (hc:s.cache=eW .u32 lc)(hn:s.names=eW .u64 ln)(hi:aT nm lc=some i)(hj:aT D lc=some j)(bW:i<65536)(b5:j<65536)(hln:(aT nm ln).getD 0<1000000)(hb2:s.b2.length<1000000):
 Calls prog 103 #[.agg #[.string nm,.string D],ptr B 0] w fun e w'=>e=.returned .nilIface∧WP w k r n {s with b2:=s.b2++(Lib.uvarint i++Lib.uvarint j),names:=eW .u64 (inc nm ln)} w':=by
 have hu:Upd [] w (w.alloc (.cells #[.string nm,.string D] 253 (0,0))):=(ae w).alloc _;have hX:(w.alloc (.cells #[.string nm,.string D] 253 (0,0))).heap[w.heap.size]? =some (.cells #[.string nm,.string D] 253 (0,0)):=an _;have F:=aa h;have z:=aa (h.new hu);have a2:Hid (WT w k r n (w.alloc (.cells #[.string nm,.string D] 253 (0,0))) r):=aa (dN h hu);have V:=aa h.size_out;have HB:=aa (hu.blk hB (by simp));have HX:=aa hX;have bd:=aa bb;have Hc:=aa hc;have Hn:=aa hn;have be:=aa hb2;have Hi:=aa hi;have Hj:=aa hj;clear h hu hX hB bb hc hn hi hj hb2;go_enter func103,ntmps103
 go_wp2_with fail;revert z a2 HB HX V;generalize (w.alloc (.cells #[.string nm,.string D] 253 (0,0)))=w1;generalize w.heap.size=X;intro z a2 V HB HX;have cB:w1.cell? ⟨B,0,none⟩=some (ptr k.W 0):=by rw[af HB.o];rfl
 have cX:w1.cell? ⟨X,0,none⟩=some (.string nm):=by rw[af HX.o];rfl
 have a3:=z.o.cell 38 _ rfl;have a4:=ie z.o Hc.o nm true;rw[Hi.o]at a4;simp only[if_true,dq,mg]at a4;have G:(Instr.lookup 236 (.map (some k.MC)) (.string nm) true).run prog w1.drew=.ok (.tuple #[.int .u32 (i:Nat),.bool true]) w1.drew:=by have:=ie z.o.drew Hc.o nm true;rw[Hi.o]at this;exact this
 go_region_held3 (fun w'=>w'.cell? ⟨B,0,none⟩=some (ptr k.W 0)∧w'.cell? ⟨X,0,none⟩=some (.string nm)∧w'.cell? ⟨k.W,38,none⟩=some (.map (some k.MC))) (go_keep) (fail)
 go_wp2_with fail;clear a4 G cB cX a3;have d:=aa z.o.drew;have a5:=aa (ak F.o a2.o (dt z.o));have W:=aa (bQ HB.o);have ad:=aa (bQ HX.o);revert d a5 W ad;generalize w1.drew=w2;intro d a5 W ad;obtain⟨c,hc⟩:∃c,c=(aT nm ln).getD 0:=⟨_,rfl⟩;rw[←hc]at hln;have br:=aa hc;have O:=p6 d.o.drew Hn.o nm false;rw[←hc]at O;simp only[ek,if_false]at O;have bv:=dB (w:=w2.drew) Value.string iT underlying154 d.o.drew.mn nm (.int .u64 ((c:Int)+1));obtain⟨a6,bg⟩:=d.o.drew.setMN n (cf nm (.int .u64 ((c:Int)+1)) s.names);have a7:=aa a6;have U:=aa (ak d.o (dt d.o) bg);have a9:=aa (ak F.o a5.o U.o);have A:=aa (U.o.keep W.o bd.o);have a0:=aa (U.o.keep ad.o V.o);have bw:(ChangeMaps.setBlock w2.drew k.MN (smap (cf nm (.int .u64 ((c:Int)+1)) s.names))).cell? ⟨B,0,none⟩=some (ptr k.W 0):=by rw[af A.o];rfl
 have bA:(ChangeMaps.setBlock w2.drew k.MN (smap (cf nm (.int .u64 ((c:Int)+1)) s.names))).cell? ⟨X,0,none⟩=some (.string nm):=by rw[af a0.o];rfl
 have bl:=a6.cell 40 _ rfl;have cB:w2.cell? ⟨B,0,none⟩=some (ptr k.W 0):=by rw[af W.o];rfl
 have cX:w2.cell? ⟨X,0,none⟩=some (.string nm):=by rw[af ad.o];rfl
 have bB:=d.o.cell 40 _ rfl;have hw:IntKind.u64.wrap ((c:Int)+1)=(c:Int)+1:=by rw[cK];omega
 clear hc a6 bg;go_region_held3 (fun w'=>w'.cell? ⟨B,0,none⟩=some (ptr k.W 0)∧w'.cell? ⟨X,0,none⟩=some (.string nm)∧w'.cell? ⟨k.W,40,none⟩=some (.map (some k.MN))) (go_keep) (fail)
 clear hw O bv cB cX bB bw bA bl;revert a7 U a9 A a0;generalize ChangeMaps.setBlock w2.drew k.MN (smap (cf nm (.int .u64 ((c:Int)+1)) s.names))=w3;intro a7 U a9 A a0;have cB:w3.cell? ⟨B,0,none⟩=some (ptr k.W 0):=by rw[af A.o];rfl
 go_wp2_with fail;refine((Be n i a7.o (by omega) (by have:=be.o;simp only;omega)).mono ?_);rintro e w4 ⟨rfl,r4,hI,hT⟩;have a1:=aa hI;have bE:=aa (ak F.o a9.o hT);have bK:=aa (hT.keep A.o bd.o);have bL:=aa (hT.keep a0.o V.o);have bn:=lt_of_block A.o;have cB:w4.cell? ⟨B,0,none⟩=some (ptr k.W 0):=by rw[af bK.o];rfl
 have cX:w4.cell? ⟨X,1,none⟩=some (.string D):=by rw[af bL.o];rfl
 have a3:=a1.o.cell 38 _ rfl;have G:(Instr.lookup 236 (.map (some k.MC)) (.string D) true).run prog w4.drew=.ok (.tuple #[.int .u32 (j:Nat),.bool true]) w4.drew:=by have:=ie a1.o.drew Hc.o D true;rw[Hj.o]at this;exact this
 clear hI hT bn;go_wp2_with fail;go_region_held3 (fun w'=>w'.cell? ⟨B,0,none⟩=some (ptr k.W 0)∧w'.cell? ⟨X,1,none⟩=some (.string D)∧w'.cell? ⟨k.W,38,none⟩=some (.map (some k.MC))) (go_keep) (fail)
 clear G cX a3;go_wp2_with fail;have bM:=aa a1.o.drew;have bO:=aa (ak F.o bE.o (dt a1.o));refine((Be n j bM.o (by omega) (by have h1:=be.o;have h2:=bh i (by omega);simp only[ab];omega)).mono ?_);rintro e w6 ⟨rfl,r6,hI,hT⟩;have bR:=aa hI;have bS:=aa (ak F.o bO.o hT);clear hI hT;go_wp2_with fail;go_ret;refine⟨rfl,r6,?_,bS.o⟩;have h6:=bR.o;have e1:cf nm (.int .u64 ((c:Int)+1)) s.names=eW .u64 (inc nm ln):=by rw[Hn.o,inc,←br.o];exact ym .u64 nm (c+1) ln
 simp only[al,e1]at h6;exact h6
end
section
attribute [local go_sem ↓] Go.wp_at_zero Go.wp_at_succ
variable {w:World} {k:WK} {r:WR} {s:WS}
structure nk(w:World)(k:WK)(r:WR)(X:Nat)(a:ByteArray):Prop where
 b:w.heap[X]? =some (.cells #[ptr k.W 0] 120 (0,0))
 l:w.heap[X+1]? =some (.cells #[.string a] 135 (0,0))
 ob:∀i:Nat,(wl k r)[i]?≠some (some X)
 ol:∀i:Nat,(wl k r)[i]?≠some (some (X+1))
theorem nk.next{X n:Nat}{a:ByteArray}{w':World}{r':WR}(h:nk w k r X a)(hT:WT w k r n w' r'):nk w' k r' X a:=
 ⟨hT.keep h.b h.ob,hT.keep h.l h.ol,hT.o (lt_of_block h.b) h.ob,hT.o (lt_of_block h.l) h.ol⟩
theorem nk.upd{X:Nat}{a:ByteArray}{w':World}(h:nk w k r X a)(hu:Upd [] w w'):nk w' k r X a:=
 ⟨hu.blk h.b (by simp),hu.blk h.l (by simp),h.ob,h.ol⟩
theorem nk.c0{X:Nat}{a:ByteArray}(h:nk w k r X a):w.cell? ⟨X,0,none⟩=some (ptr k.W 0):=by rw[af h.b];rfl
theorem nk.c1{X:Nat}{a:ByteArray}(h:nk w k r X a):w.cell? ⟨X+1,0,none⟩=some (.string a):=by rw[af h.l];rfl
theorem WI.fieldB{w':World}{c:Array Value}(n:Nat)(h:WI w k r s)(hb:WB w k r s c)(i:Nat)(v:Value)(F:WS)(hi:i<12∨34≤i)(a6:i≠39)(he:wfl k F=(wfl k s).set i (some v))(hr:F.rest=s.rest)
 (h1:w'.heap[k.W]? =some (.cells (c.setIfInBounds i v) 243 (0,0)))(h4:Upd [k.W] w w'):WP w k r n F w':=by
 have hu:Upd (gx (wl k r) [0]) w w':=h4;have hf:=h.frame _ hu;obtain⟨lv,hl,V⟩:=hb.li;cases s with|mk bF bP bPO b1 b2 pP pPO cnt t0 t1 t2 t3 t4 t5 stage pst nsym symV sfV lastSym cache li names lastSer lastRef lastChunk crc=>
 cases F with|mk a7 a9 a0 bb bd be a1 a2 bg bl bn br bv bw G a3 W ad a4 z O li' U A D d a5=>
 simp only[WS.rest,cW]at hr;obtain⟨rfl,rfl,rfl,rfl,rfl,rfl,rfl,rfl,rfl⟩:=hr
 refine⟨r,⟨⟨_,h1,hb.wf.set he,(hb.e1.set (by omega)).upd hu (fun q hq=>nin h.dis (i:=11) (congrArg some hq) (by simp)),(hb.e2.set (by omega)).upd hu (fun q hq=>nin h.dis (i:=12) (congrArg some hq) (by simp)),lv,?_,V.upd hu (fun q hq=>nin h.dis (i:=13) (congrArg some hq) (by simp))⟩,
  hf.f (by simp) (by simp),hf.fP (by simp) (by simp),hf.fPO (by simp) (by simp),hf.mc (by simp),hf.mn (by simp),hf.dig (by simp) (by simp),fun x hx=>⟨hf.keys x hx,(h.keys x hx).2⟩,h.dis,h.lt.mono hu.size⟩,
  hu.mono (eC (by simp)),fun _ _ e=>.inl e,h.kept hu (by simp) n⟩
 rw[ba (by omega)];exact hl
theorem yQ(n:Nat)(a:ByteArray)(h:WI w k r s):
 Calls prog 109 #[ptr k.W 41,.agg #[.string a]] w fun e w'=>e=.returned (.tuple #[])∧WP w k r n {s with lastSer:=a} w':=by
 obtain⟨c,hb⟩:=h.blk;refine(yU k.W 41 _ c a w hb.blk (by rw[hb.wf.size];omega)).mono ?_;rintro e w' ⟨he,h1,hu⟩;exact⟨he,h.fieldB n hb 41 (.string a) {s with lastSer:=a} (by omega) (by decide) rfl rfl h1 hu⟩
def dv(P:List (Nat×Nat)):Bytes:=P.flatMap fun p=>Lib.uvarint p.1++Lib.uvarint p.2
def cq(P:List (Nat×Nat))(tail:Bytes):Bytes:=Lib.uvarint P.length++(dv P++tail)
def gy(body:Bytes):Bytes:=Lib.uvarint body.length++(body++Lib.beBytes 4 (crc body))
def incAll(xs:List ByteArray)(l:List (ByteArray×Nat)):List (ByteArray×Nat):=xs.foldl (fun l x=>inc x l) l
theorem tU(xs:List ByteArray)(x:ByteArray)(l:List (ByteArray×Nat)):incAll (xs++[x]) l=inc x (incAll xs l):=by simp[incAll]
theorem DY(x y:ByteArray)(l:List (ByteArray×Nat)):(aT y (inc x l)).getD 0≤(aT y l).getD 0+1:=by
 unfold inc;rw[gj];split
 ·rename_i h;subst h;simp
 ·omega
theorem yd(xs:List ByteArray)(y:ByteArray)(l:List (ByteArray×Nat)):(aT y (incAll xs l)).getD 0≤(aT y l).getD 0+xs.length:=by
 induction xs generalizing l with
 |nil=>exact aw _
 |cons x xs d=>
  have h1:=d (inc x l);have z:=DY x y l;simp only[incAll,dg,aj]at*;omega
theorem oM(P:List (Nat×Nat))(j:Nat)(h:j<P.length):dv (P.take (j+1))=dv (P.take j)++(Lib.uvarint P[j].1++Lib.uvarint P[j].2):=by unfold dv;rw[ax h,aU];simp
theorem CQ(n X:Nat)(a:ByteArray)(l:List (Bytes×Bytes))(P:List (Nat×Nat))(O ln:List (ByteArray×Nat))(h:WI w k r s)(hS:nk w k r X a)(hl:gQ a l)(hP:P.length=l.length)(a1:l.length<1000)
 (hc:s.cache=eW .u32 O)(hn:s.names=eW .u64 ln)(hi:∀j (h:j<l.length),aT (str l[j].1) O=some (P[j]'(by omega)).1∧aT (str l[j].2) O=some (P[j]'(by omega)).2)(D:∀p∈P,p.1<65536∧p.2<65536)
 (hln:∀x,(aT x ln).getD 0<900000)(hb2:s.b2.length<900000):
 Calls prog 102 #[.agg #[.string a],.func (.func 103) #[] #[ptr X 0]] w fun e w'=>e=.returned .nilIface∧WP w k r n {s with b2:=s.b2++dv P,names:=eW .u64 (incAll (l.map fun p=>str p.1) ln)} w':=by
 have hu:Upd [] w (w.alloc (.cells #[.string a] 135 (0,0))):=(ae w).alloc _;have hpl:∀j,(dv (P.take j)).length≤6*j:=by
  intro j;induction j with
  |zero=>simp[dv]
  |succ j ih=>
   by_cases F:j<P.length
   ·rw[oM P j F];have h1:=D _ (aq F);have U:=bh P[j].1 (by omega);have h3:=bh P[j].2 (by omega);simp only[ab];omega
   ·rw[bG (by omega)];rw[bG (by omega)]at ih;omega
 refine(zm a l (ptr X 0) (fun j w'=>∃r',WI w' k r' {s with b2:=s.b2++dv (P.take j),names:=eW .u64 (incAll ((l.take j).map fun p=>str p.1) ln)}∧WT w k r n w' r'∧nk w' k r' X a∧w.heap.size<w'.heap.size∧∀i:Nat,(wl k r')[i]?≠some (some w.heap.size)) w hl ?_ ?_).mono ?_
 ·refine⟨r,?_,dN h hu,hS.upd hu,by simp,h.size_out⟩;have:=h.new hu;simp only[fd,cQ,incAll,List.foldl_nil,dv,gE,bk,←hn];exact this
 ·rintro j F w' ⟨r',hI,hT,z,A,ho⟩;obtain⟨V,W⟩:=hi j F;have G:j<P.length:=by omega
  have U:=D _ (aq G);have a2:=yd ((l.take j).map fun p=>str p.1) (str l[j].1) ln;have a3:=hln (str l[j].1);have a4:((l.take j).map fun p=>str p.1).length≤j:=by rw[aB];exact cH _ _
  have hb3:=hpl j;refine(u5 n X (str l[j].1) (str l[j].2) P[j].1 P[j].2 O (incAll ((l.take j).map fun p=>str p.1) ln) hI z.b z.ob hc rfl V W U.1 U.2 (by omega) (by simp only[ab];omega)).mono ?_;rintro e a5 ⟨he,ad,a0,d⟩;refine⟨he,⟨ad,?_,ak h hT d,z.next d,d.upd.lt A,d.o A ho⟩,d.upd.keep _ A (fw ho)⟩;rw[oM P j G,ax F,aX,aN,cQ,tU,←al];exact a0
 ·rintro e w' ⟨he,r',hI,hT,_,_,_⟩;refine⟨he,r',?_,hT⟩;rw[←hP,aS]at hI;rw[hP,aS]at hI;exact hI
end
section
attribute [local go_sem ↓] Go.wp_at_zero Go.wp_at_succ
variable {w:World} {k:WK} {r:WR} {s:WS}
theorem WI.cast{d:WS}(h:WI w k r s)(e:s=d):WI w k r d:=e▸h
theorem uv0:Lib.uvarint 0=[0]:=by rw[Lib.uvarint_small (by decide)];rfl
theorem mX(P:List (Nat×Nat))(h:∀p∈P,p.1<65536∧p.2<65536):(dv P).length≤6*P.length:=by
 induction P with
 |nil=>simp[dv]
 |cons p P d=>
  have h1:=h p (by simp);have z:=d (fun q hq=>h q (by simp[hq]));have A:=bh p.1 (by omega);have h4:=bh p.2 (by omega);have e:dv (p::P)=(Lib.uvarint p.1++Lib.uvarint p.2)++dv P:=rfl;rw[e];simp only[ab,aj];omega
def FZ(w1:World)(k:WK)(r1:WR)(n X:Nat)(a:ByteArray)(bF:Bytes)(nm:List (ByteArray×Value))(s1:WS)(z:World):Prop:=
 ∃d b1 b2 c,WI z k d {s1 with bF:=bF,b1:=b1,b2:=b2,crc:=c,names:=nm}∧WT w1 k r1 n z d∧nk z k d X a
def rg(bF:Bytes)(body:Bytes):Bytes:=bF++(pad 16 bF.length++gy body)
structure Gf(d ln:List (ByteArray×Nat))(la:ByteArray)(z n:Nat)(s1:WS):Prop where
 cache:s1.cache=eW .u32 d
 names:s1.names=eW .u64 ln
 lastS:s1.lastSer=la
 lastR:z=s1.lastRef
 len:s1.bF.length<1000000
 nle:n≤s1.bF.length
 lastC:s1.lastChunk=0
def BB(k:WK)(n:Nat)(a:ByteArray)(ref:Nat)(P:List (Nat×Nat))(ln:List (ByteArray×Nat))(l:List (Bytes×Bytes))(Q:World→WR→WS→Prop)(w':World):Prop:=
 ∃s1 w1 r1,Q w1 r1 s1∧WI w1 k r1 s1∧∃b1 b2 c,WP w1 k r1 n {s1 with bF:=rg s1.bF (cq P [0]),b1:=b1,b2:=b2,crc:=c,names:=eW .u64 (incAll (l.map fun p=>str p.1) ln),lastSer:=a,lastRef:=ref} w'
theorem uZ(n ref:Nat)(a:ByteArray)(l:List (Bytes×Bytes))(P:List (Nat×Nat))(lc ln:List (ByteArray×Nat))(la:ByteArray)(R0:Nat)(Q:World→WR→WS→Prop)(h:WI w k r s)
 (b7:∀w0,Upd [] w w0→Calls prog 91 #[ptr k.W 0,.int .u8 2] w0 fun e w1=>e=.returned .nilIface∧∃s1 r1,Gf lc ln la R0 n s1∧WI w1 k r1 s1∧WT w0 k r 0 w1 r1∧Q w1 r1 s1)
 (bg:∀w0,Calls prog 97 #[.agg #[.string a],.agg #[.string la]] w0 fun e w'=>∃m:Int,0<m∧e=.returned (.int .i64 m)∧Upd [] w0 w')
 (hl:gQ a l)(hP:P.length=l.length)(bv:l.length<1000)(hi:∀j (h:j<l.length),aT (str l[j].1) lc=some (P[j]'(by omega)).1∧aT (str l[j].2) lc=some (P[j]'(by omega)).2)(bw:∀p∈P,p.1<65536∧p.2<65536)
 (hln:∀x,(aT x ln).getD 0<900000)(fE:R0≤ref):
 Calls prog 49 #[ptr k.W 0,.int .u64 ref,.agg #[.string a],.slice none 0 0] w fun e w'=>e=.returned .nilIface∧BB k n a ref P ln l Q w':=by
 have H0:=aa h;have d0:=aa b7;have b8:=aa bg;have a0:=aa (fun(s1:WS) (hc:s1.cache=eW .u32 lc) (hn:s1.names=eW .u64 ln) n X w' r' (s':WS) (h':WI w' k r' s') hS (e1:s'.cache=s1.cache) (e2:s'.names=s1.names) hb=>CQ (s:=s') n X a l P lc ln h' hS hl hP bv (Eq.trans e1 hc) (Eq.trans e2 hn) hi bw hln hb);have b9:=aa (fun w=>D6 a l w hl);have ca:=aa (mX P bw);have cc:=aa hP;have ea:=aa bv;clear h b7 bg hl hi bw hln hP bv;go_enter func49,ntmps49
 obtain⟨w0,cg,ck,cn,cp,fX⟩:=j8 w (.cells #[ptr k.W 0] 120 (0,0)) (.cells #[.string a] 135 (0,0));have eb:=aa cg;have ef:=aa ck;have cs:=aa cn;have eg:=aa cp;have ct:=aa (And.intro H0.o.size_out (H0.o.out_of (b:=w.heap.size+1) (by omega)));clear ck cn cp cg;go_wp2_with fail;rw[←eb.o];have ei:w0.cell? ⟨w.heap.size,0,none⟩=some (ptr k.W 0):=by rw[af cs.o];rfl
 go_wp2_with fail;refine(d0.o w0 ef.o).mono ?_;rintro e w1 ⟨rfl,s1,r1,U,cA,cD,cE⟩;have ej:=aa U.lastR;have F:=aa (And.intro U.len (And.intro U.nle U.lastC));have cF:=aa (a0.o s1 U.cache U.names);have el:=U.lastS;subst el;clear U a0;have a1:=aa cA;have ep:Hid (nk w0 k r w.heap.size a):=aa ⟨cs.o,eg.o,ct.o.1,ct.o.2⟩;have bA:=aa (ep.o.next cD);have et:=aa cE;clear cA cD cE ei;have d:=a1;have f0:Hid (WT w1 k r1 n w1 r1):=aa gZ;have z:=bA.o.c0;have A:=bA.o.c1;have bB:=a1.o.cell 41 _ rfl;go_wp2_with fail;go_region_held3 (fun w'=>w'.cell? ⟨w.heap.size,0,none⟩=some (ptr k.W 0)∧w'.cell? ⟨w.heap.size+1,0,none⟩=some (.string a)∧w'.cell? ⟨k.W,41,none⟩=some (.string s1.lastSer)) (go_keep) ((go_at_call 97;refine(b8.o _).mono ?_;rintro e w2 ⟨m,f1,rfl,hu⟩;have O:=cz hu;have bd:=aa (a1.o.new O);have ev:Hid (WT w1 k r1 n w2 r1):=aa (dN a1.o O);have bE:=aa (bA.o.upd O);clear z A bB hu O;have z:=bE.o.c0;have A:=bE.o.c1;have bB:=bd.o.cell 41 _ rfl))
 have cM:w2.cell? ⟨k.W,42,none⟩=some (.int .u64 (R0:Nat)):=by rw[bd.o.cell 42 _ rfl,ej.o]
 have cN:w2.cell? ⟨k.W,43,none⟩=some (.int .u64 0):=by rw[bd.o.cell 43 _ rfl,F.o.2.2];rfl
 have eE:decide ((ref:Int)<(R0:Int))=false:=by simp;omega
 go_wp2_with fail;clear bB cM cN eE;go_loop [10,56] (fun c i=>c=.int .u64 0∧i=.int .i64 0) (fun _ _=>0)
 case atStart=>exact⟨rfl,rfl⟩
 case round=>
  obtain⟨rfl,rfl⟩:=hrel;go_wp2_with fail;refine((GX n 16 bd.o F.o.2.1 (by decide) (by decide) (by have:=F.o.1;omega)).mono ?_);rintro e w3 ⟨rfl,r3,hI,hT⟩;have bK:=aa hI;have eG:=aa (ak d.o ev.o hT);have bL:=aa (bE.o.next hT);clear z A hI hT;have z:=bL.o.c0;have A:=bL.o.c1;have c0:=bK.o.cell 0 _ rfl;obtain⟨p,Hp,cP⟩:=bK.o.fpos;have cO:(p:Int) % 16=0:=by have h1:=oL 16 s1.bF.length (by decide);have h2:=Hp.o;rw[ab]at h2;omega
  go_wp2_with fail;refine((xw n bK.o).mono ?_);rintro e w4 ⟨rfl,r4,hI,hT⟩;have cX:=aa hI;have eN:=aa (ak d.o eG.o hT);have bM:=aa (bL.o.next hT);clear z A hI hT;have z:=bM.o.c0;have A:=bM.o.c1;clear c0 cP cO;go_wp2_with fail;have HN:Hid (∀w,Calls prog 101 #[.agg #[.string a]] w fun e w'=>e=.returned (.int .i64 (P.length:Nat))∧Upd [] w w'):=aa (fun w=>by rw[cc.o];exact b9.o w);have f2:P.length<1000:=by have:=cc.o;have:=ea.o;omega
  go_region_held3 (fun w'=>w'.cell? ⟨w.heap.size,0,none⟩=some (ptr k.W 0)∧w'.cell? ⟨w.heap.size+1,0,none⟩=some (.string a)) (go_keep) (first
   |(go_at_call 101;refine(HN.o _).mono ?_;rintro e w5 ⟨rfl,hu⟩;have O:=cz hu;have eR:=aa (cX.o.new O);have e0:=aa (ak d.o eN.o (dN cX.o O));have bO:=aa (bM.o.upd O);clear z A hu O;have z:=bO.o.c0;have A:=bO.o.c1)
   |(go_at_call 100;refine(FR n P.length eR.o (by omega) (by simp)).mono ?_;rintro e w6 ⟨rfl,r6,hI,hT⟩;have e5:=aa hI;have e6:=aa (ak d.o e0.o hT);have be:=aa (bO.o.next hT);clear z A hI hT;have z:=be.o.c0;have A:=be.o.c1))
  have cY:([]++Lib.uvarint P.length:Bytes).length<900000:=by have:=bh P.length (by omega);simp;omega
  have e7:=aa cY;clear cY;go_wp2_with fail;refine((cF.o n w.heap.size w6 r6 _ e5.o be.o rfl rfl e7.o).mono ?_);rintro e w7 ⟨rfl,r7,hI,hT⟩;have e8:=aa hI;have e9:=aa (ak d.o e6.o hT);have bR:=aa (be.o.next hT);clear z A hI hT;have z:=bR.o.c0;have A:=bR.o.c1;have cZ:([]++Lib.uvarint P.length++dv P:Bytes).length<10000:=by have h1:=bh P.length (by omega);have h2:=ca.o;simp;omega
  have c6:=aa cZ;clear cZ;go_wp2_with fail;refine((FR n 0 e8.o (by decide) (by have:=c6.o;simp only;omega)).mono ?_);rintro e w8 ⟨rfl,r8,hI,hT⟩;have c7:=aa hI;have fa:=aa (ak d.o e9.o hT);have bS:=aa (bR.o.next hT);clear z A hI hT;have z:=bS.o.c0;have A:=bS.o.c1;have a2:Hid ([]++Lib.uvarint P.length++dv P++Lib.uvarint 0=cq P [0]):=aa (by rw[bz,al,cq,uv0]);rw[a2.o]at c7;go_wp2_with fail;refine((iZ n c7.o).mono ?_);rintro e w9 ⟨rfl,r9,hI,hT⟩;have a3:=aa hI;have fb:=aa (ak d.o fa.o hT);have bW:=aa (bS.o.next hT);clear z A hI hT;have z:=bW.o.c0;have A:=bW.o.c1;obtain⟨body,hbody⟩:∃body,body=cq P [0]:=⟨_,rfl⟩;have G9:body.length<20000:=by rw[hbody,←a2.o];have:=c6.o;rw[ab];have h2:=bh 0 (by decide);omega
  have bl:body≠[]:=by intro e;have h1:=congrArg List.length e;rw[hbody,cq,ab]at h1;have h2:=Lib.uvarint_pos P.length;simp only[ar]at h1;omega
  have b5:=aa hbody;rw[←hbody]at a3;have c8:=aa bl;have b6:=aa G9;clear hbody G9 bl;go_wp2_with fail
  go_region_held3 (fun w'=>w'.cell? ⟨w.heap.size,0,none⟩=some (ptr k.W 0)) (go_keep) (first
   |(go_at_call 107;refine(FQ a3.o.drew c8.o).mono ?_;rintro e _ ⟨N,rfl,c9,rfl⟩)
   |(go_at_call 100;refine(FO n N a3.o.drew (by have h1:N=body.length:=c9.o;have h2:=b6.o;omega) (by simp)).mono ?_;rintro e f3 ⟨rfl,f4,hI,hT⟩;have V:=aa hI;have dc:=aa (ak d.o fb.o (ak a3.o (dt a3.o) hT));have a4:=aa ((bW.o.upd (ae _).drew).next hT);clear z A hI hT;have z:=a4.o.c0;have A:=a4.o.c1))
  have fc:Hid (N=body.length):=c9;rw[fc.o]at V;have fk:=V.o.cell 44 _ rfl;go_wp2_with fail;go_still_tail 7,(by kernel_rfl)
  change wpList _ _ _ _ _ (World.drew _);go_wp2_with fail;refine((EN n V.o.drew (by have:=b6.o;simp only;omega)).mono ?_);rintro e f5 ⟨rfl,f6,hI,hT⟩;have D:=aa hI;have dd:=aa (ak d.o dc.o (ak V.o (dt V.o) hT));have a5:=aa ((a4.o.upd (ae _).drew).next hT);clear z A hI hT;have z:=a5.o.c0;have A:=a5.o.c1;clear fk;go_wp2_with fail;have dj:Hid (([]:Bytes)++Lib.uvarint body.length≠[]):=aa (by intro e;have h1:=congrArg List.length e;have h2:=Lib.uvarint_pos body.length;simp at h1;simp[h1]at h2);have dk:Hid (body++Lib.beBytes 4 (crc body)≠[]):=aa (fI _ _);have fr:Hid ((s1.bF++pad 16 s1.bF.length).length+((([]:Bytes)++Lib.uvarint body.length).length+(body++Lib.beBytes 4 (crc body)).length)<1073741824):=aa (by have h1:=F.o.1;have h2:=jE 16 s1.bF.length (by decide);have h3:=b6.o;have h4:=bh body.length (by omega);simp only[ab,cd,ar]at*;omega)
  have fs:Hid (n≤(s1.bF++pad 16 s1.bF.length).length):=aa (by have:=F.o.2.1;rw[ab];omega);go_cut [21] (fun v wx=>v=.nilIface∧FZ w1 k r1 n w.heap.size a (s1.bF++pad 16 s1.bF.length++(([]:Bytes)++Lib.uvarint body.length++(body++Lib.beBytes 4 (crc body)))) (eW .u64 (incAll (l.map fun p=>str p.1) ln)) s1 wx)
  case first=>
   go_region_held3 (fun w'=>w'.cell? ⟨w.heap.size,0,none⟩=some (ptr k.W 0)) (go_keep) (first
    |(go_at_call_of 96 (Value.pointer (some ⟨k.W,12,none⟩));refine(iC D.o.drew dj.o).mono ?_;rintro e _ ⟨q1,fN,N1,rfl,f7,ft,rfl⟩)
    |(go_at_call_of 96 (Value.pointer (some ⟨k.W,23,none⟩));refine(Dh D.o.drew dk.o).mono ?_;rintro e _ ⟨q2,G6,N2,rfl,f8,fv,rfl⟩)
    |(go_at_call 95;refine(Bi (n:=n) 65 2 D.o.drew fs.o (dD D.o.drew ft.o dj.o (by decide) (by decide)) (cV.buf2 D.o.drew fv.o dk.o (by decide) (by decide)) fr.o).mono ?_;rintro e fA ⟨rfl,dp,hI,hT⟩;have W:=aa hI;have a6:=aa (ak d.o dd.o (ak D.o (dt D.o) hT));have G:=aa ((a5.o.upd (ae _).drew).next hT);clear z A hI hT;have z:=G.o.c0))
   all_goals
    go_wp2_with fail;go_meet
    exact⟨rfl,dp,_,_,_,W.o,a6.o,G.o⟩
  case rest=>
   obtain⟨rfl,dp,b1,b2,c,hI,hT,hS⟩:=hcut;have W:=aa hI;have a6:=aa hT;have G:=aa hS;clear z A hI hT hS;have z:=G.o.c0;have A:=G.o.c1;generalize wc=fA at*;go_wp2_with fail;go_still_tail 4,(by kernel_rfl)
   change wpList _ _ _ _ _ (World.drew _);go_wp2_with fail;refine((yQ n a W.o.drew).mono ?_);rintro e f9 ⟨rfl,r13,hI,hT⟩;have a7:=aa hI;have ds:=aa (ak d.o a6.o (ak W.o (dt W.o) hT));have a9:=aa ((G.o.upd (ae _).drew).next hT);clear z A hI hT;have z:=a9.o.c0;have A:=a9.o.c1;have f42:=a7.o.free 42;have cM:=a7.o.cell 42 _ rfl;obtain⟨ad,bb⟩:=a7.o.set_lastRef n ref;have cN:=ad.cell 43 _ rfl;have f43:=ad.free 43;have dF:=aa ad;have dP:=aa (ak d.o ds.o bb);have fP:=(a9.o.next bb).c0;clear ad bb;go_wp2_with fail;obtain⟨bn,br⟩:=dF.o.set_lastChunk n 0;have HF:=aa bn;have dT:=aa (ak d.o dP.o br);clear bn br;go_ret;refine⟨rfl,s1,w1,r1,et.o,a1.o,b1,b2,c,_,?_,dT.o⟩;have h:=HF.o;have e1:rg s1.bF (cq P [0])=s1.bF++pad 16 s1.bF.length++(([]:Bytes)++Lib.uvarint body.length++(body++Lib.beBytes 4 (crc body))):=by rw[rg,gy,←b5.o,bz,al]
   have e2:s1.lastChunk=0:=F.o.2.2;rw[e1];exact h.cast (by simp only[e2])
end
section
attribute [local go_sem ↓] Go.wp_at_zero Go.wp_at_succ
variable {w:World} {k:WK} {r:WR} {s:WS}
def ch(syms:List Bytes):Bytes:=dE++sec (bi syms)
theorem oP(syms:List Bytes):(ch syms).length=17+(bj syms).length:=by rw[ch,ab,dx,bq,bi,ab,cd];omega
def zi(w:World)(k:WK)(r:WR)(s:WS)(syms:List Bytes)(w':World):Prop:=
 ∃S g N cap rr Z d r',WI w' k r' {s with bF:=ch syms,b1:=d,symV:=ptr S 0,sfV:=ptr Z 0,t1:=(ch syms).length,stage:=2}∧WT w k r 5 w' r'∧lw w' k r' S g N cap rr (ch syms) 5 syms∧Bs w k r S g rr
theorem lw.setf{S g N cap:Nat}{rr:Option Nat}{bs:Bytes}{a:Nat}{l:List Bytes}(h:lw w k r S g N cap rr bs a l)(hI:WI w k r s)(i:Nat)(v:Value):lw (w.setCell ⟨k.W,i,none⟩ v) k r S g N cap rr bs a l:=by
 have hu:Upd [k.W] w (w.setCell ⟨k.W,i,none⟩ v):=((ae w).mono (by simp)).setCell (by simp) _;refine⟨h.tab.upd hu (by simpa using fun e=>h.oS 0 (by rw[e];rfl)) ?_ (fun q hq=>by simpa using fun e=>h.oR q hq 0 (by rw[e];rfl)),h.oS,h.oR,h.row⟩;rcases h.row with hg|hg
 ·simpa using hI.dis.ne (i:=8) (j:=0) (congrArg some hg) rfl (by decide)
 ·simpa using fun e=>hg 0 (by rw[e];rfl)
theorem EE(syms:List Bytes)(h:WI w k r s)(D:s.stage=1)(hF:s.bF=dE++(eP++bj syms))(ht:s.t0=5)(hns:s.nsym=syms.length)(hl:syms.length<65536)(hs:∀x∈syms,x.length<2097152)(hlen:s.bF.length<1000000):
 Calls prog 91 #[ptr k.W 0,.int .u8 2] w fun e w'=>e=.returned .nilIface∧zi w k r s syms w':=by
 have F:w.cell? ⟨k.W,10,none⟩=some (.int .u8 1):=by rw[h.cell 10 _ rfl,D];rfl
 have H0:=aa h;have HC:=aa (ml syms h hF ht hns hl hs hlen);clear h D hF ht hns hl hs hlen;go_enter func91,ntmps91
 go_wp2_with fail;refine HC.o.mono ?_;rintro e w1 ⟨rfl,S,g,N,cap,rr,Z,b1,r1,hI,hT,hS,A⟩;have G:=aa A;clear A;have d:=aa hI;have a0:=aa hT;have a1:=aa hS;clear hI hT hS F;have c0:=d.o.cell 0 _ rfl;obtain⟨P,HP,cP⟩:=d.o.fpos;have c5:=d.o.cell 5 _ rfl;have f5:=d.o.free 5;obtain⟨z,O⟩:=d.o.set_t1 5 P;have F:=z.cell 10 _ rfl;have f10:=z.free 10;have U:=aa z;have a2:=aa (ak H0.o a0.o O);clear z O;go_wp2_with fail;obtain⟨V,W⟩:=U.o.set_stage 5 2;have ad:=(a1.o.setf d.o 5 (.int .u64 P)).setf U.o 10 (.int .u8 2);have HF:=aa (And.intro V (And.intro (ak H0.o a2.o W) ad));clear V W ad;go_ret;refine⟨rfl,S,g,N,cap,rr,Z,b1,r1,?_,HF.o.2.1,HF.o.2.2,G.o⟩;have hP:P=(ch syms).length:=HP.o;exact HF.o.1.cast (by rw[hP];rfl)
theorem CJ(h:WI w k r s)(O:s.stage=0)(hF:s.bF=dE)(hns:s.nsym=0):
 Calls prog 91 #[ptr k.W 0,.int .u8 2] w fun e w'=>e=.returned .nilIface∧zi w k r {s with t0:=5} [] w':=by
 have F:w.cell? ⟨k.W,10,none⟩=some (.int .u8 0):=by rw[h.cell 10 _ rfl,O];rfl
 have H0:=aa h;have HC:=aa (A7 5 h O (by rw[hF,bq];exact aw _) (by rw[hF,bq];decide));have HF:=aa hF;have a4:=aa hns;clear h O hF hns;go_enter func91,ntmps91
 go_wp2_with fail;refine HC.o.mono ?_;rintro e w1 ⟨rfl,r1,U,V⟩;have a5:=aa U;have A:=aa V;have F:=a5.o.cell 10 _ rfl;have a6:=aa (ml [] U (by rw[HF.o];simp[bj]) (by rw[HF.o,bq]) (by simp only[a4.o];rfl) (by decide) (by simp) (by rw[HF.o];simp[bq,eP]));clear U V;simp only at F;go_wp2_with fail;refine a6.o.mono ?_;rintro e w2 ⟨rfl,S,g,N,cap,rr,Z,b1,r2,hI,hT,hS,d⟩;have W:Hid (Bs w k r S g rr):=aa ⟨aW A.o.upd.size d.1,fun q hq=>aW A.o.upd.size (d.2.1 q hq),by
  rcases d.2.2 with h|h
  ·exact A.o.newer 8 g h
  ·exact .inr (aW A.o.upd.size h)⟩
 clear d;have z:=aa hI;have a7:=aa (ak H0.o A.o hT);have a9:=aa hS;clear hI hT hS F;have c0:=z.o.cell 0 _ rfl;obtain⟨P,HP,cP⟩:=z.o.fpos;have c5:=z.o.cell 5 _ rfl;have f5:=z.o.free 5;obtain⟨G,ad⟩:=z.o.set_t1 5 P;have F:=G.cell 10 _ rfl;have f10:=G.free 10;have a0:=aa G;have bb:=aa (ak H0.o a7.o ad);clear G ad;go_wp2_with fail;obtain⟨a1,a2⟩:=a0.o.set_stage 5 2;have a3:=(a9.o.setf z.o 5 (.int .u64 P)).setf a0.o 10 (.int .u8 2);have D:=aa (And.intro a1 (And.intro (ak H0.o bb.o a2) a3));clear a1 a2 a3;go_ret;refine⟨rfl,S,g,N,cap,rr,Z,b1,r2,?_,D.o.2.1,D.o.2.2,W.o⟩;have hP:P=(ch []).length:=HP.o;have h5:s.bF.length=5:=by rw[HF.o,bq]
 exact D.o.1.cast (by rw[hP];simp only[h5];rfl)
end
section
attribute [local go_sem ↓] Go.wp_at_zero Go.wp_at_succ
variable {w:World} {k:WK} {r:WR} {s:WS}
def nr(w:World)(v:Value)(q:Nat)(xs:List Nat):Prop:=
 ∃o cap,v=.slice (some ⟨q,o,none⟩) xs.length cap∧q<w.heap.size∧∀j (h:j<xs.length),w.cell? ⟨q,o+j,none⟩=some (.int .u32 (xs[j]:Nat))
theorem nr.upd{L:List Nat}{w':World}{v:Value}{q:Nat}{xs:List Nat}(h:nr w v q xs)(hu:Upd L w w')(hq:q∉L):nr w' v q xs:=by obtain⟨o,cap,h1,d,z⟩:=h;exact⟨o,cap,h1,hu.lt d,fun j A=>hu.cell hq (z j A)⟩
def fZ(xs:List Nat):Bytes:=xs.flatMap (Lib.beBytes 4)
theorem gq(xs:List Nat):(fZ xs).length=4*xs.length:=by
 induction xs with
 |nil=>rfl
 |cons x xs d=>simp only[fZ,aY,ab,cd,aj]at*;omega
theorem rq(xs:List Nat)(j:Nat)(h:j<xs.length):fZ (xs.take (j+1))=fZ (xs.take j)++Lib.beBytes 4 xs[j]:=by unfold fZ;rw[ax h,aU];simp
def ey(xs:List Nat):Bytes:=Lib.beBytes 4 xs.length++fZ xs
theorem xC(n q:Nat)(v:Value)(xs:List Nat)(h:WI w k r s)(hv:nr w v q xs)(hq:∀i:Nat,(wl k r)[i]?≠some (some q))(hb:s.b1=[])(D:∀x∈xs,x<4294967296)(hl:xs.length<100000):
 Calls prog 152 #[ptr k.W 12,v] w fun e w'=>e=.returned .nilIface∧WP w k r n {s with b1:=ey xs} w':=by
 obtain⟨o,cap,rfl,a1,hc⟩:=hv;have z:=aa h;have F:Hid (WT w k r n w r):=aa gZ;have HC:=aa hc;have HQ:=aa hq;have HX:=aa D;obtain⟨N,hN⟩:∃N,N=xs.length:=⟨_,rfl⟩;have HN:=aa hN;rw[←hN]at hl⊢;have HB:=aa hb;clear h hc hq D hN hb;go_enter func152,ntmps152
 go_wp2_with fail;refine((l9 n N z.o (by omega) (by rw[HB.o];decide)).mono ?_);rintro e w1 ⟨rfl,r1,hI,hT⟩;have G:=aa hI;have O:=aa (ak z.o F.o hT);clear hI hT;go_wp2_with fail;go_loopw [13] (fun i wr=>∃j:Nat,j≤N∧i=.int .i64 j∧∃r',WI wr k r' {s with b1:=Lib.beBytes 4 N++fZ (xs.take j)}∧WT w k r n wr r') (fun i _=>N-(intOf i).toNat)
 case atStart=>exact⟨0,ay _,rfl,r1,by have:=G.o;rw[HB.o]at this;simpa[fZ]using this,O.o⟩
 case round=>
  obtain⟨j,hj,rfl,r2,hI,hT⟩:=hrel;by_cases a2:j<N
  ·have d:j<xs.length:=by have:=HN.o;omega
   have U:wr.cell? ⟨q,o+j,none⟩=some (.int .u32 (xs[j]:Nat)):=hT.upd.cell (fw HQ.o) (HC.o j d);have D:=HX.o _ (aq d);have Ht:=aa (rq xs j d);have A:=aa (gq (xs.take j));have V:=aa (cH j xs);generalize xs[j]=x at*;have W:=aa hI;have HT:=aa hT;have a3:¬(4294967295:Int)<(x:Int):=by omega
   clear hI hT;go_wp2_with fail;refine((Bb n x W.o D (by have:=A.o;have:=V.o;simp only[ab,cd];omega)).mono ?_);rintro e w3 ⟨rfl,r3,hI,hT⟩;have ad:=aa hI;have a0:=aa (ak z.o HT.o hT);clear hI hT;go_wp2_with fail;exact⟨⟨j+1,by omega,rfl,r3,by have:=ad.o;rw[Ht.o,←al];exact this,a0.o⟩,by simp only[intOf];omega⟩
  ·obtain rfl:j=N:=by omega
   have W:=aa hI;have HT:=aa hT;clear hI hT;go_wp2_with fail;go_ret;refine⟨rfl,r2,?_,HT.o⟩;have:=W.o;rw[HN.o,aS]at this;exact this
end
attribute [local go_sem ↓] Go.wp_at_zero Go.wp_at_succ
theorem Fr(b:Option Addr)(n c:Nat)(w:World):Calls prog 119 #[.slice b n c] w fun e w'=>∃X,e=.returned (ptr X 0)∧w'.heap[X]? =some (.cells #[.slice b n c,.int .u32 0] 349 (0,0))∧w.heap.size≤X∧Upd [] w w':=by
 go_enter func119,ntmps119
 go_wp2_with fail;go_ret;exact⟨_,rfl,an _,aw _,(ae _).alloc _⟩
structure BEP(w:World)(X g cur:Nat)(xs:List Nat):Prop where
 blk:∃o cap,w.heap[X]? =some (.cells #[.slice (some ⟨g,o,none⟩) (4*xs.length) cap,.int .u32 cur] 349 (0,0))∧RdG w (.slice (some ⟨g,o,none⟩) (4*xs.length) cap) g (fZ xs)
theorem xB(g:Nat)(v:Value)(xs:List Nat)(w:World)(h:RdG w v g (ey xs))(hl:xs.length<100000):
 Calls prog 55 #[.agg #[v,.nilIface]] w fun e w'=>∃X,e=.returned (.tuple #[.int .i64 (xs.length:Nat),.iface 267 (ptr X 0),.nilIface])∧BEP w' X g 0 xs∧w.heap.size≤X∧Upd [] w w':=by
 obtain⟨off,cap,rfl,W,d⟩:=id h;have z:Upd [] w (w.alloc (.cells #[.slice (some ⟨g,off,none⟩) (ey xs).length cap,.nilIface] 159 (0,0))):=(ae w).alloc _;have hD:cm (w.alloc (.cells #[.slice (some ⟨g,off,none⟩) (ey xs).length cap,.nilIface] 159 (0,0))) w.heap.size g (Lib.beBytes 4 xs.length++fZ xs):=⟨⟨_,an _,h.upd z (by simp)⟩,lm h.lt⟩;have HD:=aa hD;have HU:=aa z;obtain⟨N,hN⟩:∃N,N=(ey xs).length:=⟨_,rfl⟩;obtain⟨n,hn⟩:∃n,n=xs.length:=⟨_,rfl⟩;rw[←hN]at HD HU⊢;have A:=aa hn;have hlen:(Lib.beBytes 4 xs.length++fZ xs).length<1073741824:=by rw[ab,gq,cd];omega
 have Hl:=aa hlen;have ad:n<100000:=by omega
 rw[←hn];clear h d z hD hN hn hlen hl;go_enter func55,ntmps55
 go_wp2_with fail;refine(tL _ g xs.length _ _ HD.o (by have:=A.o;omega) Hl.o).mono ?_;rintro e w1 ⟨rfl,D,F⟩;have G:=aa D;have O:=aa (HU.o.then F (by intro b hb hl;simp at hb;omega));have a0:w.heap.size≤w1.heap.size:=O.o.size;rw[←A.o];clear D F;go_wp2_with fail;refine(E8 _ g _ _ G.o).mono ?_;rintro e _ ⟨v,rfl,hR,rfl⟩;obtain⟨o2,c2,rfl,V,d⟩:=id hR;have e4:(fZ xs).length=4*n:=by rw[gq,A.o]
 rw[e4]at hR⊢;have HR:=aa hR;have a1:IntKind.i64.wrap (4*(n:Int))=4*(n:Int):=by rw[bo];omega
 clear hR V d e4
 go_wp2_with (first
  |(go_at_call 118;refine(je _ g _ _ G.o).mono ?_;rintro e _ ⟨rfl,rfl⟩)
  |(go_at_call 119;refine(Fr _ _ _ _).mono ?_;rintro e w2 ⟨X,rfl,hX,a2,U⟩))
 refine bodyPost_ret (results_tmp3 rfl _ _ _) rfl ?_;refine⟨X,rfl,⟨o2,c2,?_,?_⟩,by omega,O.o.then U (by simp)⟩
 ·rw[←A.o];exact hX
 ·rw[←A.o];exact HR.o.upd U (by simp)
theorem E5(X g cur:Nat)(xs:List Nat)(w:World)(h:BEP w X g cur xs)(d:cur<4294967296):
 Calls prog 312 #[ptr X 0] w fun e w'=>e=.returned (.int .u64 cur)∧w=w':=by
 obtain⟨o,cap,hb,_⟩:=h.blk;have c1:=af hb 1;have z:IntKind.u64.wrap (cur:Int)=(cur:Int):=by rw[cK];omega
 clear h hb;go_enter func312,ntmps312
 go_wp2_with fail;go_ret;exact⟨rfl,rfl⟩
theorem vz(X:Nat)(w:World):
 Calls prog 313 #[ptr X 0] w fun e w'=>e=.returned .nilIface∧w=w':=by
 go_enter func313,ntmps313
 go_wp2_with fail;go_ret;exact⟨rfl,rfl⟩
theorem zC(X g cur:Nat)(w:World)(h:BEP w X g cur []):
 Calls prog 314 #[ptr X 0] w fun e w'=>e=.returned (.bool false)∧w=w':=by
 obtain⟨o,cap,hb,_⟩:=h.blk;have d:w.cell? ⟨X,0,none⟩=some (.slice (some ⟨g,o,none⟩) 0 cap):=af hb 0;clear h hb;go_enter func314,ntmps314
 go_wp2_with fail;go_ret;exact⟨rfl,rfl⟩
end Go.Proofs.YtlgefdfflmgocaaGreatDoor
