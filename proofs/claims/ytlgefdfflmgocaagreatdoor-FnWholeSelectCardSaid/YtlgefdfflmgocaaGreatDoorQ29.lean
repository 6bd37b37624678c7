import Derived.Test.YtlgefdfflmgocaaGreatDoorQ28
set_option linter.all false
set_option maxRecDepth 100000
set_option maxHeartbeats 2000000
namespace Go.Proofs.YtlgefdfflmgocaaGreatDoor
open Go Go.RowKit Xc Go.Proofs.Tryz
theorem PIt.upd{L:List Nat}{g:Nat}{w w':World}{v:Value}{B xs:List Nat}(h:PIt g w v B xs)(hu:Upd L w w')(hB:∀b∈B,b∉L)(hg:g∉L):PIt g w' v B xs:=by
 rcases h with h|⟨X,h1,d,z⟩
 ·exact .inl h
 ·exact .inr ⟨X,h1,d,z.upd hu (hB X (by rw[d];simp)) hg⟩
theorem PIt.nodup{g:Nat}{w:World}{v:Value}{B xs:List Nat}(h:PIt g w v B xs):B.Nodup:=by rcases h with⟨_,h,_⟩|⟨X,_,h,_⟩<;>rw[h]<;>simp
theorem PIt.one{g:Nat}{w:World}{v:Value}{B xs:List Nat}(h:PIt g w v B xs):v.oneCell'=true:=by rcases h with⟨h,_,_⟩|⟨X,h,_,_⟩<;>rw[h]<;>rfl
structure PLs(w0 w:World)(g:Nat)(v6 v7:Value)(wl wo:PL):Prop where
 r6:aP w0 w 76 1 wl.length v6 (wl.map (·.1))
 r7:aP w0 w 76 1 wo.length v7 (wo.map (·.1))
 it:∀x∈wl++wo,PIt g w x.1 x.2.1 x.2.2
 d67:∀b,v6.ownBlock=some b→v7.ownBlock≠some b
 d6:∀x∈wl++wo,∀b∈x.2.1,v6.ownBlock≠some b∧v7.ownBlock≠some b
 dd:((wl++wo).flatMap fun x=>x.2.1).Nodup
 ge:∀x∈wl++wo,∀b∈x.2.1,w0.heap.size≤b∧b<w.heap.size
 g:g<w0.heap.size
 upd:Upd [] w0 w
section
variable {w0 w w':World} {g:Nat} {v6 v7:Value} {wl wo:PL}
theorem PLs.new(h:PLs w0 w g v6 v7 wl wo)(hu:Upd [] w w'):PLs w0 w' g v6 v7 wl wo:=
 ⟨h.r6.upd hu (by simp),h.r7.upd hu (by simp),fun x d=>(h.it x d).upd hu (by simp) (by simp),h.d67,h.d6,h.dd,fun x d b hb=>⟨(h.ge x d b hb).1,by have:=(h.ge x d b hb).2;have:=hu.size;omega⟩,h.g,h.upd.then hu (by simp)⟩
theorem PLs.swap(h:PLs w0 w g v6 v7 wl wo):PLs w0 w g v7 v6 wo wl:=by
 have hm:∀x,x∈wo++wl→x∈wl++wo:=fun x d=>by simp only[aA]at d⊢;exact d.symm
 refine⟨h.r7,h.r6,fun x d=>h.it x (hm x d),fun b h7 z=>h.d67 b z h7,fun x d b hb=>(h.d6 x (hm x d) b hb).symm,?_,fun x d=>h.ge x (hm x d),h.g,h.upd⟩;have:((wo++wl).flatMap fun x=>x.2.1).Perm ((wl++wo).flatMap fun x=>x.2.1):=by rw[aU,aU];exact kg
 exact this.nodup_iff.2 h.dd
theorem PLs.push6(h:PLs w0 w g v6 v7 wl wo){w1:World}{p:Value}{B xs:List Nat}(hu:Upd [] w w1)(hp:PIt g w1 p B xs)(hB:∀b∈B,w.heap.size≤b∧b<w1.heap.size)(hn:wl.length<1000):
 ∃G w3,Hid ((Builtin.append_ #[74,74] 74 #[v6,.slice (some ⟨w1.heap.size,0,none⟩) 1 1]).run prog (w1.alloc (.cells #[p] 76 (0,0)))=.ok G w3)∧Hid (PLs w0 w3 g G v7 (wl++[(p,B,xs)]) wo):=by
 have h1:=h.new hu;obtain⟨i0,hi,ad,a0,a1⟩:=info_parts Tryz.info76;have a2:Upd [] w1 (w1.alloc (.cells #[p] 76 (0,0))):=(ae _).alloc _;obtain⟨v',w3,O,G3,G4,U⟩:=jH (P:=prog) 74 76 i0 .nilIface 1 16 underlying74 hi ad a0 a1 rfl (by decide) h1.r6 a2 [p] rfl (by simpa using hp.one) w1.heap.size 76 (an _) h1.upd.size (by unfold maxLen;omega) (by omega);refine⟨v',w3,O,aa ?_⟩;have hL:∀b∈v6.ownBlock.toList,v6.ownBlock=some b:=fun b hb=>by simpa using hb
 have V:g∉v6.ownBlock.toList:=fun hm=>by have:=h1.r6.2 g (hL g hm);have:=h.g;omega
 have a4:=G4.o.size;have a5:=hu.size;have h0:=h.upd.size;have hmem:∀x,x∈(wl++[(p,B,xs)])++wo→x=(p,B,xs)∨x∈wl++wo:=fun x d=>by
  simp only[aA,ag]at d⊢;rcases d with(d|d)|d
  ·exact .inr (.inl d)
  ·exact .inl d
  ·exact .inr (.inr d)
 have z:∀b,v'.ownBlock=some b→v6.ownBlock=some b∨w1.heap.size≤b:=U.o;have W:∀b,v7.ownBlock=some b→b<w1.heap.size:=fun b hb=>h1.r7.lt b hb;have A:∀b,v6.ownBlock=some b→b<w.heap.size:=fun b hb=>h.r6.lt b hb;have F:∀b,v7.ownBlock=some b→b<w.heap.size:=fun b hb=>h.r7.lt b hb;refine⟨?_,h1.r7.upd G4.o (fun b hb e=>h1.d67 b (hL b hb) e),fun x d=>?_,fun b hb e=>?_,fun x d b hb=>?_,?_,fun x d b hb=>?_,h.g,h1.upd.then G4.o (fun b hb hl=>by have:=h1.r6.2 b (hL b hb);omega)⟩
 ·have:=G3.o;rw[aX,ab];exact this
 ·rcases hmem x d with rfl|d
  ·exact hp.upd G4.o (fun b hb hm=>by have:=hB b hb;have:=A b (hL b hm);omega) V
  ·exact(h1.it x d).upd G4.o (fun b hb hm=>(h1.d6 x d b hb).1 (hL b hm)) V
 ·rcases z b hb with D|D
  ·exact h1.d67 b D e
  ·have:=W b e;omega
 ·rcases hmem x d with rfl|d
  ·have hb2:=hB b hb;refine⟨fun e=>?_,fun e=>?_⟩
   ·rcases z b e with D|D
    ·have:=A b D;omega
    ·omega
   ·have:=F b e;omega
  ·have h3:=h1.d6 x d b hb;refine⟨fun e=>?_,h3.2⟩;rcases z b e with D|D
   ·exact h3.1 D
   ·have:=(h1.ge x d b hb).2;omega
 ·have Ih:(((wl++[(p,B,xs)])++wo).flatMap fun x=>x.2.1).Perm (((wl++wo).flatMap fun x=>x.2.1)++B):=by simp only[aU,aY,gE,bk,al];exact List.Perm.append_left _ kg
  refine Ih.nodup_iff.2 (List.nodup_append.2 ⟨h.dd,hp.nodup,fun a ha b hb e=>?_⟩);obtain⟨x,d,a3⟩:=List.mem_flatMap.1 ha;have:=(h.ge x d a a3).2;have:=(hB b hb).1;omega
 ·rcases hmem x d with rfl|d
  ·have:=hB b hb;exact⟨by omega,by omega⟩
  ·have:=h1.ge x d b hb;exact⟨this.1,by omega⟩
theorem PLs.push7(h:PLs w0 w g v6 v7 wl wo){w1:World}{p:Value}{B xs:List Nat}(hu:Upd [] w w1)(A:PIt g w1 p B xs)(hB:∀b∈B,w.heap.size≤b∧b<w1.heap.size)(hn:wo.length<1000):
 ∃d z,Hid ((Builtin.append_ #[74,74] 74 #[v7,.slice (some ⟨w1.heap.size,0,none⟩) 1 1]).run prog (w1.alloc (.cells #[p] 76 (0,0)))=.ok d z)∧Hid (PLs w0 z g v6 d wl (wo++[(p,B,xs)])):=by
 obtain⟨v',z,h1,D⟩:=h.swap.push6 hu A hB hn;exact⟨v',z,h1,aa D.o.swap⟩
theorem PLs.empty(hg:g<w.heap.size):PLs w w g (.slice none 0 0) (.slice none 0 0) [] []:=
 ⟨er,er,by simp,by simp[Value.ownBlock],by simp,by simp,by simp,hg,ae _⟩
theorem PLs.row(h:PLs w0 w g v6 v7 wl wo){q cap:Nat}(hv:v6=.slice (some ⟨q,0,none⟩) wl.length cap)(hf:wl.length≤12):Bv g w q wl:=by
 have hq:v6.ownBlock=some q:=by rw[hv];rfl
 have hr:=h.r6;rw[hv]at hr;have d:(wl.flatMap fun x=>x.2.1).Sublist ((wl++wo).flatMap fun x=>x.2.1):=by rw[aU];exact List.sublist_append_left _ _
 refine⟨fun i A=>⟨?_,h.it _ (bX _ (aq A))⟩,?_,fun x z b hb=>(h.ge x (bX _ z) b hb).2,hf⟩
 ·have:=hr.1.cells (g:=q) rfl i wl[i].1 (by simp[A]);rw[aO,aK]at this;exact this
 ·rw[a8,a8];refine⟨fun hm=>?_,fun hm=>?_,h.dd.sublist d⟩
  ·rcases List.mem_cons.1 hm with e|hm
   ·have:=h.r6.2 q hq;have:=h.g;omega
   ·obtain⟨x,z,hb⟩:=List.mem_flatMap.1 hm;exact(h.d6 x (bX _ z) q hb).1 hq
  ·obtain⟨x,z,hb⟩:=List.mem_flatMap.1 hm;have:=(h.ge x (bX _ z) g hb).1;have:=h.g;omega
end
def rj(w:World)(b:Option Addr)(ms:ni)(L:List Nat):Prop:=∀j (h:j<ms.length),∃q o,b=some ⟨q,o,none⟩∧q∉L∧q<w.heap.size∧w.cell? ⟨q,o+j*3,none⟩=some (.int .i64 (ms[j].1:Nat))∧w.cell? ⟨q,o+j*3+1,none⟩=some (.string ms[j].2.1)∧w.cell? ⟨q,o+j*3+2,none⟩=some (.string ms[j].2.2)
theorem rj.upd{w w':World}{b:Option Addr}{ms:ni}{L M:List Nat}(h:rj w b ms L)(hu:Upd M w w')(hM:∀x∈M,x∈L∨w.heap.size≤x):rj w' b ms L:=fun j d=>by
 obtain⟨q,o,e,h1,z,A,h4,h5⟩:=h j d;have hq:q∉M:=fun hm=>by rcases hM q hm with h|h;exact h1 h;omega
 exact⟨q,o,e,h1,bD z hu.size,hu.cell hq A,hu.cell hq h4,hu.cell hq h5⟩
attribute [local go_sem ↓] Go.wp_at_zero Go.wp_at_succ
theorem wT(w:World)(s:ByteArray):∃v w1,Hid ((convert 9 65 (.string s)).run prog w=.ok v w1)∧Hid ((convert 65 9 v).run prog w1=.ok (.string s) w1)∧Hid (Upd [] w w1):=by
 have h1:=run_bytes_of_string (P:=prog) w 9 65 5 s underlying9 underlying65 underlying5;have hb:(w.drew.alloc (.cells (bytesRow s (grownCap w s.size 0 5)) 5 ((bytesRow s (grownCap w s.size 0 5)).size,(bytesRow s (grownCap w s.size 0 5)).size+1))).heap[w.heap.size]? =_:=an (w:=w.drew) _;refine⟨_,_,aa h1,aa ?_,aa ((ae w).drew.alloc _)⟩;have d:=run_convert_bytes_back (P:=prog) (w.drew.alloc (.cells (bytesRow s (grownCap w s.size 0 5)) 5 ((bytesRow s (grownCap w s.size 0 5)).size,(bytesRow s (grownCap w s.size 0 5)).size+1))) 65 9 5 ⟨w.heap.size,0,none⟩ (grownCap w s.size 0 5) (sb s) underlying65 underlying5 underlying9 (fun j z=>by rw[aO,aK];have A:=bytesRow_at s (grownCap w s.size 0 5) j (by simpa using z);simp only[World.cell?,hb,A];simp)
 have e:(sb s).length=s.size:=gC;rw[e]at d;rw[d]
theorem Tryz.info56:(Tryz.prog.info? 56).map (fun i=>(i.zero,i.size,i.bytes))=some (some (.agg #[.string ⟨#[]⟩,.string ⟨#[]⟩]),2,32):=by kernel_rfl
theorem CO(b0 w:World)(c n:Nat)(v:Value)(xs:List Value)(a b:ByteArray)(hc:w.heap[c]? =some (.cells #[v] 27 (0,0)))(hr:aP b0 w 56 2 n v xs)(hn:n<1000)(D:v.ownBlock≠some c)(U:b0.heap.size≤w.heap.size):
 Calls prog 137 #[.agg #[.string a,.string b],ptr c 0] w fun e w'=>e=.returned (.tuple #[])∧∃v',w'.heap[c]? =some (.cells #[v'] 27 (0,0))∧aP b0 w' 56 2 (n+1) v' (xs++[.string a,.string b])∧Upd (c::v.ownBlock.toList) w w'∧v'.ownBlock≠some c:=by
 obtain⟨F,d⟩:∃F,F=w.alloc (.cells #[.string a,.string b] 253 (0,0)):=⟨_,rfl⟩;obtain⟨B,hB⟩:∃B,B=w.heap.size:=⟨_,rfl⟩;have G:Upd [] w F:=by rw[d];exact(ae _).alloc _
 have O:F.heap[B]? =some (.cells #[.string a,.string b] 253 (0,0)):=by rw[d,hB];exact an _
 obtain⟨v1,w1,C1,D1,U1⟩:=wT F a;obtain⟨v2,w2,C2,D2,U2⟩:=wT w1 b;have V:Upd [] w w2:=(G.then U1.o (by simp)).then U2.o (by simp);obtain⟨i0,hi,W,ad,a0⟩:=info_parts Tryz.info56;have G4:Upd [] w (w2.alloc (.cells #[.string a,.string b] 56 (0,0))):=V.alloc _;obtain⟨v',w4,a1,G3,a2,A⟩:=jH (P:=prog) 27 56 i0 _ 2 32 underlying27 hi W ad a0 rfl (by decide) hr G4 [.string a,.string b] rfl (by simp[Value.oneCell']) w2.heap.size 56 (an _) U (by unfold maxLen;omega) (by omega);have a5:=lt_of_block hc;have c0:F.cell? ⟨c,0,none⟩=some v:=G.cell (by simp) (af hc 0);have k0:F.cell? ⟨B,0,none⟩=some (.string a):=af O 0;have k1:w1.cell? ⟨B,1,none⟩=some (.string b):=U1.o.cell (by simp) (af O 1);have h4:w4.heap[c]? =some (.cells #[v] 27 (0,0)):=a2.o.blk hc (by simpa using D);have c4:∃z,w4.cell? ⟨c,0,none⟩=some z:=⟨_,af h4 0⟩;obtain⟨z4,c4⟩:=c4;have f4:=ao h4 0;have a3:v'.ownBlock≠some c:=fun e=>by
  rcases A.o c e with h|h
  ·exact D h
  ·omega
 have HK:=aa (And.intro h4 a3);rcases G3.o.shape with⟨_,h0,_⟩|⟨q',c',rfl,_,_⟩
 ·exact absurd h0 (by omega)
 clear hi W ad a0 G O V G4 hr hc D a5 h4 a3 A hn U;go_enter func137,ntmps137
 go_upto_region 1 with fail
 rw[←d,←hB];clear d hB;have e1:=C1.o;have e2:=D1.o;have e3:=C2.o;have e4:=D2.o;clear C1 D1 C2 D2;go_wp2_with (at_builtin;refine bc rfl _ _ _ rfl _ _ _ _ rfl rfl a1.o ?_);go_end0
 have a4:Upd [c] w4 (w4.setCell ⟨c,0,none⟩ (.slice (some ⟨q',0,none⟩) (n+1) c')):=((ae _).mono (by simp)).setCell (by simp) _;have hq:q'≠c:=fun e=>HK.o.2 (by rw[e];rfl);refine⟨rfl,_,au HK.o.1 0 _,G3.o.upd a4 (fun b hb=>?_),?_,HK.o.2⟩
 ·simp only[ag]at hb;subst hb;exact HK.o.2
 ·exact(a2.o.mono (fun b hb=>aH _ hb)).then a4 (fun b hb _=>by simp only[ag]at hb;simp[hb])
theorem pU:∀m:List (ByteArray×ByteArray),(∀p∈m,p.1.size≤60∧p.2.size≤60)→(aL (aD m)).length≤200*m.length:=by
 intro m;induction m with
 |nil=>intro _;simp[aD,aL]
 |cons x m d=>
  intro h;have D:=d (fun p z=>h p (by simp[z]));have F:=h x (by simp);have e1:(sb x.1).length=x.1.size:=dA _;have e2:(sb x.2).length=x.2.size:=dA _;have h4:∀y:Bytes,y.length≤60→(eJ y).length≤64:=fun y G=>by rw[dw y];omega
  have h5:=h4 (sb x.1) (by omega);have A:=h4 (sb x.2) (by omega);have e3:aD (x::m)=(sb x.1,sb x.2)::aD m:=rfl;rw[e3,jo,ab,ab,aj];simp only at h5 A⊢;omega
theorem BM(w:World)(d z:Obj):∃w1,w1=(w.alloc d).alloc z∧Upd [] w w1∧w1.heap[w.heap.size]? =some d∧w1.heap[w.heap.size+1]? =some z∧w1.heap.size=w.heap.size+2:=by refine⟨_,rfl,((ae w).alloc _).alloc _,(eB _ (by simp)).trans (an _),?_,by simp⟩;have:=an (w:=w.alloc d) z;rw[aJ]at this;exact this
theorem EI(w:World)(l:List (ByteArray×ByteArray))(hs:∀p∈l,0<p.1.size∧p.1.size≤60∧0<p.2.size∧p.2.size≤60)(hl:l.length≤6):
 Calls prog 71 #[.agg #[.string (str (aL (aD l)))]] w fun e w'=>∃v,e=.returned v∧aP w w' 56 2 l.length v (aV l)∧Upd [] w w':=by
 obtain⟨s,F⟩:∃s,s=str (aL (aD l)):=⟨_,rfl⟩;rw[←F];have W:gQ s (aD l):=by
  refine⟨by rw[F,dG],?_,fun p hp=>?_⟩
  ·have e:s.size=(aL (aD l)).length:=by rw[←dA,F,dG]
   have:=pU l (fun p hp=>⟨(hs p hp).2.1,(hs p hp).2.2.2⟩);rw[e];omega
  ·obtain⟨q,hq,rfl⟩:=List.mem_map.1 hp;have h:=hs q hq;have e1:(sb q.1).length=q.1.size:=dA _;have e2:(sb q.2).length=q.2.size:=dA _;simp only;omega
 have a4:∀(fn:Fn) (first cap:Array Value) (w:World),(Instr.makeFunc fn first cap).run prog w=.ok (.func fn first cap) w:=fun _ _ _ _=>rfl;obtain⟨w1,ad,z,ha,hb,U⟩:=BM w (.cells #[.string s] 135 (0,0)) (.cells #[.slice none 0 0] 27 (0,0));obtain⟨c,A⟩:∃c,c=w.heap.size+1:=⟨_,rfl⟩;obtain⟨p,D⟩:∃p,p=w.heap.size:=⟨_,rfl⟩;rw[←A]at hb;rw[←D]at ha;have k0:w1.cell? ⟨p,0,none⟩=some (.string s):=af ha 0;obtain⟨w2,G⟩:∃w2,w2=w1.alloc (.cells #[.string s] 135 (0,0)):=⟨_,rfl⟩;have d:Upd [] w1 w2:=by rw[G];exact(ae _).alloc _
 have V:w2.heap.size=w1.heap.size+1:=by rw[G];simp
 have KR:=aa (EW s (aD l) (ptr c 0) (fun j w'=>∃v,w'.heap[c]? =some (.cells #[v] 27 (0,0))∧aP w2 w' 56 2 j v (aV (l.take j))∧v.ownBlock≠some c∧Upd [c] w2 w') w1 W
  (by rw[←G];exact⟨_,d.blk hb (by simp),er,by simp[Value.ownBlock],(ae _).mono (by simp)⟩)
  (fun j hj w' ⟨v,h1,h2,h3,h4⟩=>by
    have a1:j<l.length:=by simpa[aD]using hj
    have e:(aD l)[j]=(sb l[j].1,sb l[j].2):=by simp[aD]
    rw[e,dX,dX];refine(CO w2 w' c j v (aV (l.take j)) l[j].1 l[j].2 h1 h2 (by omega) h3 h4.size).mono ?_;rintro e a5 ⟨rfl,v',h5,h6,h7,h8⟩;have a6:=lt_of_block hb;have O:∀b∈v.ownBlock.toList,w2.heap.size≤b:=fun b hb=>h2.2 b (by simpa using hb);refine⟨rfl,⟨v',h5,by rw[mo l j a1];exact h6,h8,h4.then h7 (fun b hb hl=>?_)⟩,h7.keep w1.heap.size (by have:=h4.size;omega) (fun hm=>?_)⟩
    ·rcases List.mem_cons.1 hb with e|hb
     ·simp[e]
     ·have:=O b hb;omega
    ·rcases List.mem_cons.1 hm with e|hm
     ·omega
     ·have:=O _ hm;omega))
 have a0:=lt_of_block hb;have Hp:=aa (And.intro z (And.intro d (And.intro V (And.intro A (And.intro D U)))));clear W ha hb z G d V U a0 F;go_enter func71,ntmps71
 go_upto_region 2 with fail
 rw[←ad];rw[←A,←D];clear ad A D;go_wp2_with (go_at_call 136;refine KR.o.mono ?_;rintro e w3 ⟨rfl,v,hv,G3,a2,G4⟩;have c3:=af hv 0;have H3:=aa (And.intro G3 G4);clear hv G3 a2 G4);go_ret;obtain⟨z,d,V,A,D,U⟩:=Hp.o;have G3:=H3.o.1;have ht:l.take (aD l).length=l:=bG (by simp[aD]);have a3:(aD l).length=l.length:=by simp[aD]
 rw[ht,a3]at G3;exact⟨v,rfl,G3.old (by have:=z.size;have:=d.size;omega),(z.then d (by simp)).then H3.o.2 (fun b hb hl=>by simp only[ag]at hb;omega)⟩
structure Dz(bs:Bytes)(syms:List Bytes):Prop where
 eq:∃c,bs=dE++(sec (bi syms)++c)
 len:bs.length<1000000
 few:syms.length<1000
 small:∀s∈syms,s.length≤60
theorem nJ(w:World)(R g base T t5 o:Nat)(v:Value)(bs:Bytes)(syms:List Bytes)(gs:List (Bytes×List (Bytes×Nat)))(hI:RdI w R g base T v bs syms gs t5)(hS:Dz bs syms)(ho:o<syms.length):
 Calls prog 181 #[ptr R 0,.agg #[],.int .u32 (o:Nat)] w fun e w'=>e=.returned (.tuple #[.string (str syms[o]),.nilIface])∧Upd [] w w':=by
 obtain⟨X,S,D,bm,NS,r,M,nl,tc,xc,F⟩:=hI;obtain⟨w1,z⟩:∃w1,w1=w.alloc (.cells #[] 80 (0,0)):=⟨_,rfl⟩;have A:Upd [] w w1:=by rw[z];exact(ae _).alloc _
 have G:=F.upd A (by simp);have r6:w1.cell? ⟨R,6,none⟩=some (.map (some NS)):=af G.rd 6;have d:=cw (P:=prog) (T:=149) (ec .u32) jB underlying149 G.ns Di o true;have U:=aa A;have HF:=aa G;cases hm:aT o nl with
 |some s=>
  obtain⟨_,hs⟩:=G.nok o s hm;rw[hm,hs]at d;have d:(Instr.lookup 149 (.map (some NS)) (.int .u32 (o:Nat)) true).run prog w1=.ok (.tuple #[.string (str syms[o]),.bool true]) w1:=d;obtain⟨sx,V⟩:∃sx,sx=str syms[o]:=⟨_,rfl⟩;rw[←V]at d⊢;clear F G A hm hs V;go_enter func181,ntmps181
  go_upto_region 1 with fail
  rw[←z];clear z;go_wp2_with fail;go_ret2
  exact⟨rfl,U.o⟩
 |none=>
  rw[hm]at d;have d:(Instr.lookup 149 (.map (some NS)) (.int .u32 (o:Nat)) true).run prog w1=.ok (.tuple #[.string ⟨#[]⟩,.bool false]) w1:=d;obtain⟨so,hb,hr,W,e⟩:=G.s.blk;obtain⟨c,hc⟩:=hS.eq;have r5:w1.cell? ⟨R,5,none⟩=some (ptr S 0):=af G.rd 5;have O:∀i x,(#[Value.iface 139 v,.int .i64 2,.int .i64 (5:Nat),so,.int .i64 syms.length]:Array Value)[i]? =some x→w1.cell? ⟨S,i,none⟩=some x:=fun i x h=>by rw[af hb];exact h
  have s0:=O 0 _ rfl;have s1:=O 1 _ rfl;have s2:=O 2 _ rfl;have s3:=O 3 _ rfl;have s4:=O 4 _ rfl;have KL:=aa (yY g o v so bs dE c syms w1 hr hc (by have:=hS.len;omega) (by have:=hS.few;omega) (fun s hs=>by have:=hS.small s hs;omega) W ho);clear F G A hm hb hr W e hc O;go_enter func181,ntmps181
  go_upto_region 1 with fail
  rw[←z];clear z;go_wp2_with (go_at_call 206;refine KL.o.mono ?_;rintro e w2 ⟨rfl,ad⟩;have a0:=aa (U.o.then ad (by simp));clear ad);go_ret2
  exact⟨rfl,a0.o⟩
abbrev jt(syms:List Bytes)(l:LabL):List (Nat×Nat):=dC syms (aD l)
theorem CH{syms:List Bytes}(hn:syms.Nodup){l:LabL}(hl:∀x∈l,sb x.1∈syms∧sb x.2∈syms)(j:Nat)(h:j<l.length):∃a b,(jt syms l)[j]? =some (a,b)∧(∃A:a<syms.length,str syms[a]=l[j].1)∧(∃hb:b<syms.length,str syms[b]=l[j].2):=by
 obtain⟨h1,z⟩:=hl _ (aq h);obtain⟨_,d,a2⟩:=fm hn h1;obtain⟨_,b1,b2⟩:=fm hn z;refine⟨_,_,by simp[jt,dC,aD,h],⟨d,?_⟩,⟨b1,?_⟩⟩
 ·rw[az d]at a2;rw[cI a2,dX]
 ·rw[az b1]at b2;rw[cI b2,dX]
theorem sY{P:List (Nat×Nat)}{j a b:Nat}(h:P[j]? =some (a,b))(t:Bytes):dv (P.drop j)++t=Lib.uvarint a++(Lib.uvarint b++(dv (P.drop (j+1))++t)):=by obtain⟨d,e⟩:=List.getElem?_eq_some_iff.1 h;rw[bf d,e];simp only[dv,aY,al]
theorem yx(P:List (Nat×Nat))(j:Nat):(dv (P.drop j)).length≤(dv P).length:=by
 have e:dv P=dv (P.take j)++dv (P.drop j):=by rw[dv,dv,dv,←aU,aI]
 rw[e,ab];omega
def DsQ(w:World)(p cb:Nat)(l:LabL)(e:Ending)(w':World):Prop:=e=.returned .nilIface∧(∃r',SB w' p r' l ⟨#[]⟩∧∀k,r'=some k→w.heap.size≤k)∧w'.heap[cb]? =some (.cells #[.slice none 0 0] 124 (0,0))∧Upd [p,cb] w w'
structure DsL(w d:World)(R g base T t5 X S D bm NS p cb z:Nat)(v:Value)(bs:Bytes)(syms:List Bytes)(gs:List (Bytes×List (Bytes×Nat)))(r:Option Nat)(M:RM)(A:List (Nat×Value))(tc:TypeId)(xc:Value)(l:LabL)(r':Option Nat)(rest:Bytes):Prop where
 sb:SB d p r' l ⟨#[]⟩
 rk:∀k,r'=some k→z<k
 dec:cm d z g rest
 f:RdF d R g base T v bs syms gs t5 X S D bm NS r M A tc xc
 hcb:d.heap[cb]? =some (.cells #[.slice none 0 0] 124 (0,0))
 upd:Upd [p,cb] w d
theorem DsL.new{w d z:World}{R g base T t5 X S D bm NS p cb A:Nat}{v:Value}{bs:Bytes}{syms:List Bytes}{gs:List (Bytes×List (Bytes×Nat))}{r:Option Nat}{M:RM}{F:List (Nat×Value)}{tc:TypeId}{xc:Value}{l:LabL}{r':Option Nat}{rest:Bytes}
 (h:DsL w d R g base T t5 X S D bm NS p cb A v bs syms gs r M F tc xc l r' rest)(hu:Upd [] d z):DsL w z R g base T t5 X S D bm NS p cb A v bs syms gs r M F tc xc l r' rest:=
 ⟨h.sb.upd hu (by simp) (by simp),h.rk,h.dec.upd hu (by simp) (by simp),h.f.upd hu (by simp),hu.blk h.hcb (by simp),h.upd.then hu (by simp)⟩
theorem DsL.step{w G F:World}{R g base T t5 X S D bm NS p cb z:Nat}{v:Value}{bs:Bytes}{syms:List Bytes}{gs:List (Bytes×List (Bytes×Nat))}{r:Option Nat}{M:RM}{O:List (Nat×Value)}{tc:TypeId}{xc:Value}{l:LabL}{r':Option Nat}{rest d:Bytes}
 (h:DsL w G R g base T t5 X S D bm NS p cb z v bs syms gs r M O tc xc l r' rest)(hu:Upd [z] G F)(U:cm F z g d)(A:T≤z∧z≠p∧z≠cb∧w.heap.size≤z∧g<T):DsL w F R g base T t5 X S D bm NS p cb z v bs syms gs r M O tc xc l r' d:=
 ⟨h.sb.upd hu (by simpa using aF A.2.1) (fun k V=>by have:=h.rk k V;simp only[ag];omega),h.rk,U,h.f.upd hu (fun b hb=>by simp only[ag]at hb;omega),hu.blk h.hcb (by simpa using aF A.2.2.1),h.upd.then hu (fun b hb hl=>by simp only[ag]at hb;omega)⟩
theorem DsL.add{w z F:World}{R g base T t5 X S D bm NS p cb d:Nat}{v:Value}{bs:Bytes}{syms:List Bytes}{gs:List (Bytes×List (Bytes×Nat))}{r:Option Nat}{M:RM}{O:List (Nat×Value)}{tc:TypeId}{xc:Value}{l l2:LabL}{r' A:Option Nat}{rest:Bytes}
 (h:DsL w z R g base T t5 X S D bm NS p cb d v bs syms gs r M O tc xc l r' rest)(hB:SB F p A l2 ⟨#[]⟩)(hu:Upd (p::r'.toList) z F)(hr:A=r'∨∃k,A=some k∧z.heap.size≤k)(G:T≤d∧d≠p∧d≠cb∧w.heap.size≤d∧g<T)(V:T≤p∧T≤cb∧p≠cb∧cb<w.heap.size):DsL w F R g base T t5 X S D bm NS p cb d v bs syms gs r M O tc xc l2 A rest:=by
 have W:d<z.heap.size:=by obtain⟨⟨_,hb,_⟩,_⟩:=h.dec;exact lt_of_block hb
 have hm:∀b∈p::r'.toList,b=p∨d<b:=fun b hb=>by
  rcases List.mem_cons.1 hb with e|hb
  ·exact .inl e
  ·exact .inr (h.rk b (by simpa using hb))
 have hn:∀b,b≠p→b≤d→b∉p::r'.toList:=fun b h1 h2 h3=>by have:=hm b h3;omega
 refine⟨hB,fun k U=>?_,h.dec.upd hu (hn _ G.2.1 (aw _)) (hn _ (by omega) (by omega)),h.f.upd hu (fun b hb=>by have:=hm b hb;omega),hu.blk h.hcb (hn _ (aF V.2.2.1) (by omega)),h.upd.then hu (fun b hb hl=>by rcases hm b hb with e|e;simp[e];omega)⟩;rcases hr with rfl|⟨k2,rfl,ad⟩
 ·exact h.rk k U
 ·cases U;omega
theorem xA(w:World)(R g base T t5 X S D bm NS p cb:Nat)(v vb:Value)(bs:Bytes)(syms:List Bytes)(gs:List (Bytes×List (Bytes×Nat)))(r:Option Nat)(M:RM)(nl:List (Nat×Value))(tc:TypeId)(xc:Value)(l l0:LabL)(bb:ByteArray)
 (F:RdF w R g base T v bs syms gs t5 X S D bm NS r M nl tc xc)(hS:Dz bs syms)(hn:syms.Nodup)(hl:∀x∈l,sb x.1∈syms∧sb x.2∈syms)(ca:l.length≤6)(hv:RdG w vb g (cq (jt syms l) [0]))(bA:(cq (jt syms l) [0]).length<1000000)
 (hp:SB w p none l0 bb)(hcb:w.heap[cb]? =some (.cells #[.slice none 0 0] 124 (0,0)))(hd:T≤p∧T≤cb∧p≠cb∧p<w.heap.size∧T≤w.heap.size)(hg:g<T):
 Calls prog 135 #[ptr D 0,vb,ptr p 0,ptr cb 0] w (DsQ w p cb l):=by
 have HF:=aa F;have W:=aa (And.intro hp (And.intro hcb hd));have HS:=aa (And.intro hS (And.intro hn hl));obtain⟨off,cap,bB,bd,_⟩:=id hv;obtain⟨N,hN⟩:∃N,N=(cq (jt syms l) [0]).length:=⟨_,rfl⟩;rw[←hN]at bB bd bA;have HV:=aa hv;have HN:=aa hN;subst bB;have bE:w.cell? ⟨cb,0,none⟩=some (.slice none 0 0):=af hcb 0;have a5:cb∉[p]:=by simpa using aF hd.2.2.1
 clear F hp hcb hS hn hl hv hN bd;go_enter func135,ntmps135
 go_upto_region 2 with(go_at_call 134;refine(xp p none l0 bb w W.o.1).mono ?_;rintro e w1 ⟨rfl,hb1,a6⟩)
 have bK:w1.cell? ⟨cb,0,none⟩=some (.slice none 0 0):=a6.cell a5 bE;have bL:w1.frozen? ⟨cb,0,none⟩=false:=ao (a6.blk W.o.2.1 a5) 0;have H1:=aa (And.intro hb1 a6);clear hb1 a6 bE;go_upto_region 4 with fail
 obtain⟨w2,ad⟩:∃w2,w2=w1.setCell ⟨cb,0,none⟩ (.slice none 0 0):=⟨_,rfl⟩;rw[←ad];obtain⟨w3,a7⟩:∃w3,w3=w2.alloc (.cells #[.slice (some ⟨g,off,none⟩) N cap,.nilIface] 159 (0,0)):=⟨_,rfl⟩;obtain⟨d,be⟩:∃d,d=w2.heap.size:=⟨_,rfl⟩;have bM:=lt_of_block W.o.2.1;have bO:w1.heap.size≤w2.heap.size:=by rw[ad];simp
 have cc:=H1.o.2.size;have G:Hid (T≤d∧d≠p∧d≠cb∧w.heap.size≤d∧g<T):=aa (by omega);have H3:Hid (DsL w w3 R g base T t5 X S D bm NS p cb d v bs syms gs r M nl tc xc [] none (cq (jt syms l) [0])):=aa (by
  have O:Upd [cb] w1 w2:=by rw[ad];exact((ae _).mono (by simp)).setCell (by simp) _
  have G4:Upd [] w2 w3:=by rw[a7];exact(ae _).alloc _
  have a0:Upd [p,cb] w w2:=(H1.o.2.mono (by simp)).then O (fun b hb _=>by simp only[ag]at hb;simp[hb]);have cg:g∉[p,cb]:=by simp only[ah,ai,or_false];omega
  have bR:w2.heap[cb]? =some (.cells #[.slice none 0 0] 124 (0,0)):=by rw[ad];exact au (H1.o.2.blk W.o.2.1 a5) 0 _
  refine⟨(H1.o.1.upd O (by simpa using W.o.2.2.2.2.1) (by simp)).upd G4 (by simp) (by simp),by simp,⟨⟨_,by rw[a7,be];exact an _,(HV.o.upd a0 cg).upd G4 (by simp)⟩,by omega⟩,(HF.o.upd a0 (fun b hb=>by simp only[ah,ai,or_false]at hb;omega)).upd G4 (by simp),G4.blk bR (by simp),a0.then G4 (by simp)⟩)
 have bg:Hid (Calls prog 127 #[.pointer (some ⟨d,0,none⟩)] w3 fun e w'=>e=.returned (.int .i64 (l.length:Nat))∧cm w' d g (dv (jt syms l)++[0])∧Upd [d] w3 w'):=aa (by
  have hl:(jt syms l).length=l.length:=by simp[jt,dC,aD]
  have h1:=H3.o.dec;have h2:(cq (jt syms l) [0]).length<1000000:=by rw[←HN.o];exact bA
  rw[cq,hl]at h1 h2;exact fG d g l.length _ w3 h1 (by omega) (by omega))
 obtain⟨n,hn⟩:∃n,n=l.length:=⟨_,rfl⟩;rw[←hn]at bg;have Hn:=aa hn;have cE:n≤6:=by omega
 clear hn ca bM bO cc bK bL a5;clear ad;go_upto_region 5 with fail
 rw[←a7,←be];clear a7 be;go_wp2_with (go_at_call 127;refine bg.o.mono ?_;rintro e w4 ⟨rfl,bS,bW⟩;have H4:=aa (H3.o.step bW bS G.o);clear bS bW);go_loopg [11] n (fun gg ck wx=>∃(j:Nat) (r':Option Nat),ck=.int .i64 j∧Hid (gg+j=n)∧Hid (DsL w wx R g base T t5 X S D bm NS p cb d v bs syms gs r M nl tc xc (l.take j) r' (dv ((jt syms l).drop j)++[0])))
 case atStart=>exact⟨0,none,rfl,aa (by omega),H4⟩
 case round=>
  obtain⟨j,r',rfl,Hj,HR⟩:=hrel;clear H4 H3 bg;by_cases cF:j<n
  ·have bl:j<l.length:=by have:=Hn.o;omega
   obtain⟨a,b,If,⟨ha,ea⟩,hb,eb⟩:=CH HS.o.2.1 HS.o.2.2 j bl;obtain⟨t1,bn⟩:∃t1,t1=dv ((jt syms l).drop (j+1))++[0]:=⟨_,rfl⟩;have a9:=sY If [0];rw[←bn]at a9;have cn:a<1000:=by have:=HS.o.1.few;omega
   have hb3:b<1000:=by have:=HS.o.1.few;omega
   have hR:=HR.o;rw[a9]at hR;have hle:=yx (jt syms l) j;have G9:(Lib.uvarint a++(Lib.uvarint b++t1)).length<1000000:=by rw[←a9];have h1:=HN.o;rw[cq,ab,ab]at h1;rw[ab];omega
   have b5:(Lib.uvarint b++t1).length<1000000:=by rw[ab]at G9;omega
   have K1:=aa (fG d g a _ wr hR.dec (by omega) (by omega));have K2:Hid (∀w',cm w' d g (Lib.uvarint b++t1)→Calls prog 127 #[.pointer (some ⟨d,0,none⟩)] w' fun e U=>e=.returned (.int .i64 b)∧cm U d g t1∧Upd [d] w' U):=aa (fun w' h=>fG d g b t1 w' h (by omega) (by omega));have a1:=aa hR;obtain⟨na,br⟩:∃na,na=l[j].1:=⟨_,rfl⟩;obtain⟨nb,bv⟩:∃nb,nb=l[j].2:=⟨_,rfl⟩;have cp:Hid (∃h:a<syms.length,str syms[a]=na):=aa ⟨ha,by rw[br,ea]⟩;have cs:Hid (∃h:b<syms.length,str syms[b]=nb):=aa ⟨hb,by rw[bv,eb]⟩;have cL:IntKind.u32.wrap (a:Int)=(a:Int):=by rw[kh];omega
   have cM:IntKind.u32.wrap (b:Int)=(b:Int):=by rw[kh];omega
   have HX:=aa (show l.take (j+1)=l.take j++[(na,nb)]∧t1=dv ((jt syms l).drop (j+1))++[0]from⟨by rw[ax bl,br,bv],bn⟩);clear hR a9 G9 b5 ea eb ha hb br bv If bn cn hb3 hle bl
   go_upto_region 13 with(first
    |(go_at_call 127;first|(refine(K2.o _ H5.o.dec).mono ?_;rintro e w6 ⟨rfl,bw,b6⟩;have H6:=aa (H5.o.step b6 bw G.o);have ct:=aa (je d g t1 w6 bw);clear bw b6)|(refine K1.o.mono ?_;rintro e w5 ⟨rfl,V,a2⟩;have H5:=aa (a1.o.step a2 V G.o);clear V a2))
    |(go_at_call 118;refine ct.o.mono ?_;rintro e _ ⟨rfl,rfl⟩))
   go_cut [14,15]from 48 to 57 (fun u1 u2 wx=>u1=.string na∧u2=.nilIface∧Upd [] w6 wx)
   case first=>
    have d0:w6.cell? ⟨D,0,none⟩=some (.func (.func 181) #[ptr R 0] #[]):=af H6.o.f.d 0;have KD:=aa (fun w' (hu:Upd [] w6 w')=>show w'.cell? ⟨D,0,none⟩=some (.func (.func 181) #[ptr R 0] #[])from hu.cell (by simp) d0);have KL:Hid (∀w',Upd [] w6 w'→Calls prog 181 #[ptr R 0,.agg #[],.int .u32 (a:Nat)] w' fun e U=>e=.returned (.tuple #[.string na,.nilIface])∧Upd [] w6 U):=aa (fun w' hu=>by obtain⟨h,e⟩:=cp.o;refine(nJ w' R g base T t5 a v bs syms gs ⟨X,S,D,bm,NS,r,M,nl,tc,xc,H6.o.f.upd hu (by simp)⟩ HS.o.1 h).mono ?_;rintro e2 w2 ⟨rfl,O⟩;exact⟨by rw[e],hu.then O (by simp)⟩)
    clear W HV HN HF a1 K1 K2 HX
    go_region_held3 (fun w'=>w'.cell? ⟨D,0,none⟩=some (.func (.func 181) #[ptr R 0] #[])) (go_keep) (first
     |(go_at_call 187;refine(wU _).mono ?_;rintro e w7 ⟨rfl,z⟩;have A:Hid (Upd [] w6 w7):=aa (by with_reducible first|exact((ae _).drew).then z (fun _ h _=>h)|exact z);clear z;have d0:=KD.o _ A.o)
     |(go_at_call 181;refine(KL.o _ (by with_reducible first|exact A.o|exact A.o.drew)).mono ?_;rintro e w8 ⟨rfl,a3⟩;have a4:=aa a3;clear a3;have d0:=KD.o _ a4.o))
    all_goals
     go_wp2_with fail;go_meet
     exact⟨rfl,rfl,a4.o⟩
   case rest=>
    obtain⟨rfl,rfl,hu⟩:=hcut;generalize wc=w8 at*;have H8:=aa (H6.o.new hu);clear hu;go_upto_region 16 with fail
    go_cut [16,15]from 61 to 70 (fun u1 u2 wx=>u1=.string nb∧u2=.nilIface∧Upd [] w8 wx)
    case first=>
     have d0:w8.cell? ⟨D,0,none⟩=some (.func (.func 181) #[ptr R 0] #[]):=af H8.o.f.d 0;have KD:=aa (fun w' (hu:Upd [] w8 w')=>show w'.cell? ⟨D,0,none⟩=some (.func (.func 181) #[ptr R 0] #[])from hu.cell (by simp) d0);have KL:Hid (∀w',Upd [] w8 w'→Calls prog 181 #[ptr R 0,.agg #[],.int .u32 (b:Nat)] w' fun e U=>e=.returned (.tuple #[.string nb,.nilIface])∧Upd [] w8 U):=aa (fun w' hu=>by obtain⟨h,e⟩:=cs.o;refine(nJ w' R g base T t5 b v bs syms gs ⟨X,S,D,bm,NS,r,M,nl,tc,xc,H8.o.f.upd hu (by simp)⟩ HS.o.1 h).mono ?_;rintro e2 w2 ⟨rfl,O⟩;exact⟨by rw[e],hu.then O (by simp)⟩)
     clear W HV HN HF a1 K1 K2 HX
     go_region_held3 (fun w'=>w'.cell? ⟨D,0,none⟩=some (.func (.func 181) #[ptr R 0] #[])) (go_keep) (first
      |(go_at_call 187;refine(wU _).mono ?_;rintro e w7 ⟨rfl,z⟩;have A:Hid (Upd [] w8 w7):=aa (by with_reducible first|exact((ae _).drew).then z (fun _ h _=>h)|exact z);clear z;have d0:=KD.o _ A.o)
      |(go_at_call 181;refine(KL.o _ (by with_reducible first|exact A.o|exact A.o.drew)).mono ?_;rintro e w8 ⟨rfl,a3⟩;have a4:=aa a3;clear a3;have d0:=KD.o _ a4.o))
     all_goals
      go_wp2_with fail;go_meet
      exact⟨rfl,rfl,a4.o⟩
    case rest=>
     obtain⟨rfl,rfl,hu⟩:=hcut;generalize wc=w9 at*;have H9:=aa (H8.o.new hu);clear hu;go_wp2_with (go_at_call 188;refine(FB p r' (l.take j) ⟨#[]⟩ na nb w9 H9.o.sb (by have:=cH j l;have:=Hn.o;omega)).mono ?_;rintro e cN ⟨rfl,r2,hB,hU,hr⟩;have cA:=aa (H9.o.add hB hU hr G.o ⟨W.o.2.2.1,W.o.2.2.2.1,W.o.2.2.2.2.1,lt_of_block W.o.2.1⟩);clear hB hU hr);obtain⟨g1,cO⟩:∃g1,g1=gk-1:=⟨_,rfl⟩;go_roundg g1
     case measure=>have:=Hj.o;omega
     case rel=>exact⟨j+1,r2,by simp,aa (by have:=Hj.o;omega),aa (by rw[HX.o.1,←HX.o.2];exact cA.o)⟩
  ·have cB:j=n:=by have:=Hj.o;omega
   subst cB;have b7:(jt syms l).drop j=[]:=eF (by rw[Hn.o];simp[jt,dC,aD]);have b8:l.take j=l:=bG (by rw[Hn.o];exact aw _);have hR:=HR.o;rw[b7,b8]at hR;have a1:=aa hR;have b9:cm wr d g (Lib.uvarint 0++[]):=by rw[uv0];exact hR.dec
   have K0:=aa (fG d g 0 [] wr b9 (by decide) (by rw[uv0];decide));clear b7 b8 hR b9
   go_wp2_with (first
    |(go_at_call 127;refine K0.o.mono ?_;rintro e w5 ⟨rfl,V,a2⟩;have H5:=aa (a1.o.step a2 V G.o);have cD:=aa (je d g [] w5 V);clear V a2)
    |(go_at_call 118;refine cD.o.mono ?_;rintro e _ ⟨rfl,rfl⟩))
   go_ret;exact⟨rfl,⟨r',H5.o.sb,fun k hk=>by have:=H5.o.rk k hk;have:=G.o;omega⟩,H5.o.hcb,H5.o.upd⟩
theorem DsQ.of{w w' d:World}{p cb:Nat}{l:LabL}{e:Ending}(hu:Upd [p] w w')(h:DsQ w' p cb l e d):DsQ w p cb l e d:=by obtain⟨h1,⟨r',z,A⟩,h4,h5⟩:=h;exact⟨h1,⟨r',z,fun k D=>by have:=A k D;have:=hu.size;omega⟩,h4,(hu.mono (by simp)).then h5 (fun b hb _=>hb)⟩
structure Dw(bs:Bytes)(syms:List Bytes)(l:LabL)(p:Nat):Prop where
 at_:∃a c,bs=a++(gy (cq (jt syms l) [0])++c)∧a.length=16*p
 sym:Dz bs syms
 nd:syms.Nodup
 lab:∀x∈l,sb x.1∈syms∧sb x.2∈syms
 len:l.length≤6
 pos:p<10000
theorem By(w:World)(R g base T t5 pos p cb:Nat)(v:Value)(bs:Bytes)(syms:List Bytes)(gs:List (Bytes×List (Bytes×Nat)))(l:LabL)(hI:RdI w R g base T v bs syms gs t5)(H:Dw bs syms l pos)
 (hp:SB w p none [] ⟨#[]⟩)(hcb:w.heap[cb]? =some (.cells #[.slice none 0 0] 124 (0,0)))(hd:T≤p∧T≤cb∧p≠cb∧p<w.heap.size∧T≤w.heap.size):
 Calls prog 70 #[ptr R 0,.int .u64 (pos:Nat),ptr p 0,ptr cb 0] w (DsQ w p cb l):=by
 obtain⟨X,S,D,bm,NS,r,M,nl,tc,xc,F⟩:=hI;obtain⟨a,c,hb,ha⟩:=H.at_;obtain⟨A,hA⟩:∃A,A=16*pos:=⟨_,rfl⟩;have hlen:=H.sym.len;have G9:(cq (jt syms l) [0]).length<1000000:=by have h1:=congrArg List.length hb;rw[ab,ab,gy,ab,ab]at h1;omega
 have bE:A<160000:=by have:=H.pos;omega
 have a5:g<T:=by have:=F.blk R (by simp);have:=F.g;omega
 have a6:∀w' x u tb,x=.iface 139 v→u=.int .i64 (A:Nat)→ij w' tb→RdG w' v g bs→(cq (jt syms l) [0]).length<2097152→Calls prog 132 #[x,u,.pointer (some ⟨tb,0,none⟩)] w' fun r d=>∃v',r=.returned (.agg #[v',.nilIface])∧RdG d v' g (cq (jt syms l) [0])∧Upd [] w' d:=fun w' x u tb hx hu ht h hl=>by subst hx hu;rw[hA,←ha];exact mC g tb v bs a _ c w' h ht hb (lN _ _) hl (by omega)
 have a7:=aa (fun w' x u tb h1 h2 h3 h4=>a6 w' x u tb h1 h2 h3 h4 (by omega));have HF:=aa F;have HH:=aa H;have HP:=aa (And.intro hp (And.intro hcb hd));have HB:=aa (And.intro G9 a5);have r9:w.cell? ⟨R,9,none⟩=some (.int .i64 2):=af F.rd 9;have a9:IntKind.u64.wrap ((pos:Int)*16)=(A:Int):=by rw[cK];have:=H.pos;omega
 have bb:IntKind.i64.wrap (A:Int)=(A:Int):=by rw[bo];omega
 have KS:=aa (fun w' (hu:Upd [] w w')=>show w'.cell? ⟨R,0,none⟩=some (.iface 139 v)from hu.cell (by simp) (af F.rd 0));have r0:=KS.o w (ae _);have NE:=aa (fun w' (hu:Upd [] w w')=>show w'.heap.size≠R from by have:=hu.size;have:=lt_of_block F.rd;omega);have n1:=NE.o w (ae _);clear F H hp hcb hd hb ha hlen G9 a5 a6 hA bE;go_enter func70,ntmps70
 go_upto_region 4 with fail
 clear r9 a9;go_cut [10] (fun u wx=>∃q v',u=ptr q 0∧wx.heap[q]? =some (.cells #[v',.nilIface] 159 (0,0))∧RdG wx v' g (cq (jt syms l) [0])∧w.heap.size≤q∧Upd [] w wx)
 case first=>
  clear HP HB HH
  go_region_held3 (fun w'=>w'.cell? ⟨R,0,none⟩=some (.iface 139 v)) (go_keep) (first
   |(go_at_call 58;refine(eL _).mono ?_;rintro e w8 ⟨tb,rfl,bd,_,V⟩;have G:Hid (Upd [] w w8):=aa (by with_reducible first|exact((ae _).drew).then V (fun _ h _=>h)|exact(((ae _).drew).alloc _).then V (fun _ h _=>h)|exact(((ae _).alloc _).drew).then V (fun _ h _=>h));have bK:Hid (∀w',Upd [] w8 w'→ij w' tb):=aa (fun w' hu=>hu.blk bd (by simp));(try(have be:w8.heap[w.heap.size]? =some (.cells #[.slice none 0 0,.nilIface] 159 (0,0)):=V.blk (by with_reducible first|exact an _|exact bQ (an _)|exact bQ (w:=w.alloc (.cells #[.slice none 0 0,.nilIface] 159 (0,0))) (an w)) (by simp);have bL:=aa be;clear be));clear V bd;have m1:=NE.o _ G.o;have r0:=KS.o _ G.o)
   |(go_at_call 132;refine(a7.o _ _ _ tb (by with_reducible rfl) (by first|with_reducible rfl|(rw[bb])) (bK.o _ (by with_reducible first|exact ae _|exact(ae _).alloc _)) (HF.o.b.upd (L:=[]) (by with_reducible first|exact G.o|exact G.o.alloc _) (by simp))).mono ?_;rintro e O ⟨v',rfl,bg,W⟩;have z:Hid (Upd [] w O):=aa (by with_reducible first|exact G.o.then W (fun _ h _=>h)|exact(G.o.alloc _).then W (fun _ h _=>h));have ad:=aa bg;obtain⟨o',c',rfl,bM,bO⟩:=bg;(try(have U:O.heap[w.heap.size]? =some (.cells #[.slice none 0 0,.nilIface] 159 (0,0)):=W.blk bL.o (by simp);have d0:O.cell? ⟨w.heap.size,0,none⟩=some (.slice none 0 0):=af U 0;have d1:O.cell? ⟨w.heap.size,1,none⟩=some .nilIface:=af U 1;have f0:=ao U 0;have f1:=ao U 1;have HD:=aa U;clear U));(try(have U:O.heap[w8.heap.size]? =some (.cells #[.slice none 0 0,.nilIface] 159 (0,0)):=W.blk (by with_reducible exact an _) (by simp);have d0:O.cell? ⟨w8.heap.size,0,none⟩=some (.slice none 0 0):=af U 0;have d1:O.cell? ⟨w8.heap.size,1,none⟩=some .nilIface:=af U 1;have f0:=ao U 0;have f1:=ao U 1;have HD:=aa U;clear U));clear W bM bO;have r0:=KS.o _ z.o))
  all_goals
   go_wp2_with fail;go_meet
   have bW:=HF.o.b.lt;have bR:=z.o.size;have bl:=G.o.size
   first
    |exact⟨_,_,rfl,an _,ad.o.upd ((ae _).alloc _) (by simp),bR,z.o.alloc _⟩
    |exact⟨_,_,rfl,au (au HD.o 0 _) 1 _,ad.o.upd ((((ae _).mono (M:=[w.heap.size]) (by simp)).setCell (fun _=>by simp) _).setCell (fun _=>by simp) _) (by simp only[ag];omega),aw _,(z.o.setCell (fun h=>absurd h (cR _)) _).setCell (fun h=>absurd h (cR _)) _⟩
    |exact⟨_,_,rfl,au (au HD.o 0 _) 1 _,ad.o.upd ((((ae _).mono (M:=[w8.heap.size]) (by simp)).setCell (fun _=>by simp) _).setCell (fun _=>by simp) _) (by simp only[ag];omega),bl,(z.o.setCell (fun h=>by simp only at h;omega) _).setCell (fun h=>by simp only at h;omega) _⟩
 case rest=>
  obtain⟨q,v',rfl,hq,hv,bn,hu⟩:=hcut;generalize wc=w2 at*;have H2:=aa (And.intro hq (And.intro hv (And.intro bn hu)));have a3:cm w2 q g (cq (jt syms l) [0]):=⟨⟨_,hq,hv⟩,by have:=HF.o.b.lt;omega⟩;have HE:=aa (je q g _ w2 a3);have r7:w2.cell? ⟨R,7,none⟩=some (.pointer none):=hu.cell (by simp) (af HF.o.rd 7);have br:=aa a3;clear hq hv bn hu a3 n1 r0 KS NE a7 bb
  go_upto_region 9 with(first
   |(go_at_call 118;refine HE.o.mono ?_;rintro e _ ⟨rfl,rfl⟩)
   |(go_at_call 133;refine(py p _ _).mono ?_;rintro e _ ⟨rfl,rfl⟩)
   |(go_at_call 134;refine(xp p none [] ⟨#[]⟩ w2 (HP.o.1.upd H2.o.2.2.2 (by simp) (by simp))).mono ?_;rintro e w3 ⟨rfl,hb3,G4⟩))
  have hd:=HP.o.2.2;have a0:R≠p∧g≠p∧cb≠p:=by have:=HF.o.blk R (by simp);have:=HB.o.2;omega
  have bv:q≠p:=by have:=hd.2.2.2.1;have:=H2.o.2.2.1;omega
  have a1:Hid (Upd [p] w w3):=aa ((H2.o.2.2.2.mono (by simp)).then G4 (fun b hb _=>hb));have a4:=aa (HF.o.upd a1.o (fun b hb=>by simp only[ag]at hb;subst hb;exact⟨aF a0.2.1,.inr hd.1⟩));have bw:=aa (br.o.upd G4 (by simpa using bv) (by simpa using a0.2.1));have bA:=aa hb3;have a2:=aa (a1.o.blk HP.o.2.1 (by simpa using a0.2.2));have k8:w3.cell? ⟨R,8,none⟩=some (ptr D 0):=af a4.o.rd 8;clear r7 hb3 G4 bv a0 hd HE;go_cut [11] (fun u wx=>u=.nilIface∧DsQ w p cb l (.returned .nilIface) wx)
  case first=>
   have KD:Hid (∀w' vb,Upd [] w3 w'→RdG w' vb g (cq (jt syms l) [0])→Calls prog 135 #[ptr D 0,vb,ptr p 0,ptr cb 0] w' fun e d=>e=.returned .nilIface∧DsQ w p cb l (.returned .nilIface) d∧d.cell? ⟨R,8,none⟩=some (ptr D 0)):=aa (fun w' vb hu hv=>by have hd:=HP.o.2.2;have hs:=a1.o.size;have b5:=hu.size;have a0:=HF.o.blk R (by simp);refine(xA w' R g base T t5 X S D bm NS p cb v vb bs syms gs r M nl tc xc l [] ⟨#[]⟩ (a4.o.upd hu (by simp)) HH.o.sym HH.o.nd HH.o.lab HH.o.len hv HB.o.1 (bA.o.upd hu (by simp) (by simp)) (hu.blk a2.o (by simp)) ⟨hd.1,hd.2.1,hd.2.2.1,by omega,by omega⟩ HB.o.2).mono ?_;rintro e d hq;obtain rfl:=hq.1;exact⟨rfl,hq.of (a1.o.then hu (by simp)),hq.2.2.2.cell (by simp only[ah,ai,or_false];omega) (hu.cell (by simp) k8)⟩)
   have KG:Hid (∀w',Upd [] w3 w'→Calls prog 117 #[.pointer (some ⟨q,0,none⟩)] w' fun e d=>∃v,e=.returned v∧RdG d v g (cq (jt syms l) [0])∧w'=d):=aa (fun w' hu=>by refine(E8 q g _ w' (bw.o.upd hu (by simp) (by simp))).mono ?_;rintro e d ⟨v,rfl,hv,rfl⟩;exact⟨v,rfl,hv,rfl⟩)
   clear a1 a4 bw bA a2 H2 br HP HB HH HF
   go_region_held3 (fun w'=>w'.cell? ⟨R,8,none⟩=some (ptr D 0)) (go_keep) (first
    |(go_at_call 117;refine(KG.o _ (by with_reducible first|exact(ae _).drew|exact ae _)).mono ?_;rintro e _ ⟨vb,rfl,bB,rfl⟩;have bS:=aa bB;clear bB)
    |(go_at_call 135;refine(KD.o _ _ (by with_reducible first|exact(ae _).drew|exact ae _) bS.o).mono ?_;rintro e w5 ⟨rfl,hQ,k8⟩;have HQ:=aa hQ;clear hQ))
   all_goals
    go_wp2_with fail;go_meet
    exact⟨rfl,HQ.o⟩
  case rest=>
   obtain⟨rfl,hQ⟩:=hcut;generalize wc=w5 at*;have HQ:=aa hQ;clear hQ k8;go_wp2_with fail;go_ret;exact HQ.o
end Go.Proofs.YtlgefdfflmgocaaGreatDoor
