import Derived.Test.YtlgefdfflmgocaaGreatDoorQ10
import Derived.Laws.Externs
import Derived.Stop.Asserts
set_option linter.all false
set_option maxRecDepth 100000
set_option maxHeartbeats 2000000
namespace Go.Proofs.YtlgefdfflmgocaaGreatDoor
open Go Go.RowKit Xc Go.Proofs.Tryz
attribute [local go_sem ↓] Go.wp_at_zero Go.wp_at_succ
theorem uI(n:Nat)(w:World):(callFunc 192 #[.int .u64 n]).run prog w=.ok (.value (.float .f64 n)) w:=by rw[run_callFunc_extern func192 (by kernel_rfl) (by kernel_rfl) (by kernel_rfl) (show Extern.find f192=some Extern.MathFloatBits.float64frombits by kernel_rfl)];rfl
theorem CD(n:Nat)(w:World):(callFunc 144 #[.float .f64 n]).run prog w=.ok (.value (.int .u64 n)) w:=by rw[run_callFunc_extern func144 (by kernel_rfl) (by kernel_rfl) (by kernel_rfl) (show Extern.find f144=some Extern.MathFloatBits.float64bits by kernel_rfl)];rfl
theorem float(n:Nat)(w:World):Calls prog 141 #[.int .u64 n] w fun e w'=>e=.returned (.float .f64 n)∧w'=w:=by
 have h:=uI n;go_enter func141,ntmps141
 go_wp2_with fail;go_ret;exact⟨rfl,rfl⟩
theorem DF(n:Nat)(w:World):Calls prog 78 #[.float .f64 n] w fun e w'=>e=.returned (.int .u64 n)∧w'=w:=by
 have h:=CD n;go_enter func78,ntmps78
 go_wp2_with fail;go_ret;exact⟨rfl,rfl⟩
theorem rU{ops:Array Oper}{o:Oper}{a:Act}{w:World}{K:Act→World→Prop}{Q:Exit→Act→World→Prop}{E:Prop}
 (hg:o.guard=none)(s x:Operand)(t e:TypeId)(i:TypeInfo)(z:Value)(k bytes:Nat)(ht:Tryz.prog.underlying t=some (.slice e))(hi:Tryz.prog.info? e=some i)(hz:i.zero=some z)(d:i.size=k)(A:i.bytes=bytes)(D:z.cells.size=k)(hk:0<k)(hb:bytes≤1000)
 (F:o.op=Op.call {callee:=Callee.builtin Builtin.append,args:= #[s,x],argTypes:= #[t,t]})(G:o.type=t)
 (b0 w0:World)(v:Value)(O n:Nat)(xs y:List Value)(T:TypeId)(hs:a.eval s=v)(hx:a.eval x=.slice (some ⟨O,0,none⟩) 1 1)
 (h:aP b0 w0 e k n v xs)(hu:Upd [] w0 w)(U:y.length=k)(hy:∀u∈y,u.oneCell'=true)(he:w.heap[O]? =some (.cells y.toArray T (0,0)))(V:b0.heap.size≤w0.heap.size)(hn:n<1000)
 (hK:∀v' w',aP b0 w' e k (n+1) v' (xs++y)→Upd v.ownBlock.toList w0 w'→(∃b' W,v'=.slice b' (n+1) W)→(∀b,v'.ownBlock=some b→v.ownBlock=some b∨w0.heap.size≤b)→K (a.put o.dst v') w'):
 if Region.wanted o (yielded ops a.tmps)=true then Oper.wp prog o a w K Q else E:=by
 obtain⟨v',w',hr,h2,h3,h4⟩:=jH (P:=prog) t e i z k bytes ht hi hz d A D hk h hu y U hy O T he V (by unfold maxLen;omega) (by have:=Nat.mul_le_mul (show n+1≤1000 by omega) hb;omega);refine df hg s x _ F v _ v' w' hs hx (by rw[G];exact hr.o) (hK v' w' h2.o h3.o ?_ h4.o);rcases h2.o.shape with⟨e1,e2,_⟩|⟨g,W,e1,_⟩
 ·exact absurd e2 (by omega)
 ·exact⟨_,W,e1⟩
theorem kB{v:Value}(h:v.oneCell'=true):∀u∈[v],u.oneCell'=true:=fun u hu=>by simp only[ah,ai,or_false]at hu;rw[hu];exact h
abbrev ptV(p:Int×Nat):Value:=.iface 303 (.agg #[.int .i64 p.1,.float .f64 p.2])
def pts(l:List (Int×Nat)):List Value:=l.map ptV
def pu(w:World)(v:Value)(l:List (Int×Nat)):Prop:=∃g o c,v=.slice (some ⟨g,o,none⟩) l.length c∧∀j (h:j<l.length),w.cell? ⟨g,o+j*2,none⟩=some (.int .i64 l[j].1)∧w.cell? ⟨g,o+j*2+1,none⟩=some (.int .u64 (l[j].2:Nat))
theorem pu.upd{w w':World}{v:Value}{l:List (Int×Nat)}(h:pu w v l)(hu:Upd [] w w'):pu w' v l:=by obtain⟨g,o,c,e,h⟩:=h;exact⟨g,o,c,e,fun j d=>⟨hu.cell (by simp) (h j d).1,hu.cell (by simp) (h j d).2⟩⟩
theorem Tryz.info474:(Tryz.prog.info? 474).map (fun i=>(i.zero,i.size,i.bytes))=some (some .nilIface,1,16):=by kernel_rfl
theorem AU{l:List (Int×Nat)}{j:Nat}(h:j<l.length):pts (l.take (j+1))=pts (l.take j)++[ptV l[j]]:=by unfold pts;rw[ax h,aX];rfl
def Gc(w:World)(l:List (Int×Nat))(e:Ending)(w':World):Prop:=∃v,e=.returned v∧aP w w' 474 1 l.length v (pts l)∧Upd [] w w'
theorem points(w:World)(v:Value)(l:List (Int×Nat))(h:pu w v l)(hl:l.length≤10):Calls prog 75 #[v] w (Gc w l):=by
 obtain⟨i0,hi,D,F,G⟩:=info_parts Tryz.info474;have V:=aa (And.intro hi (And.intro D (And.intro F G)));clear hi D F G;obtain⟨g,o,c,rfl,h⟩:=h;obtain⟨n,hn⟩:∃n,n=l.length:=⟨_,rfl⟩;rw[←hn]at hl;rw[←hn];have H:=aa h;have W:=aa hn;clear h hn;go_enter func75,ntmps75
 go_wp2_with fail;go_loopg [3,8] n (fun gg s3 s8 wx=>∃i:Nat,s8=.int .i64 i∧Hid (gg+i=n)∧Hid (aP w wx 474 1 i s3 (pts (l.take i))∧Upd [] w wx))
 case atStart=>exact⟨0,rfl,aa (by omega),aa ⟨er,ae _⟩⟩
 case round=>
  obtain⟨i,rfl,Hi,z⟩:=hrel;by_cases a2:i<n
  ·have Hf:i<l.length:=by have:=W.o;omega
   have k1:=z.o.2.cell (by simp) (H.o i Hf).1;have k3:=z.o.2.cell (by simp) (H.o i Hf).2;obtain⟨t,ht⟩:∃t,t=l[i].1:=⟨_,rfl⟩;obtain⟨m,hm⟩:∃t,t=l[i].2:=⟨_,rfl⟩;rw[←ht]at k1;rw[←hm]at k3;have O:=aa (And.intro ht hm);have a3:(0:Int)≤(i:Int):=by omega
   have a4:(i:Int)<(n:Int):=by omega
   clear ht hm;go_upto_region 5 with fail
   obtain⟨A,d⟩:∃x,x=wr.alloc (.cells #[.int .i64 t,.int .u64 m] 43 (0,0)):=⟨_,rfl⟩;rw[←d];obtain⟨X,hX⟩:∃x,x=wr.heap.size:=⟨_,rfl⟩;rw[←hX];have hB:A.heap[X]? =some (.cells #[.int .i64 t,.int .u64 m] 43 (0,0)):=by rw[d,hX];exact an _
   have HU:Hid (Upd [] w A):=aa (by rw[d];exact z.o.2.alloc _);have HR:Hid (aP w A 474 1 i u3 (pts (l.take i))):=aa (by rw[d];exact z.o.1.upd ((ae _).alloc _) (by simp));have KP:Hid (∀w',Upd [] A w'→w'.cell? ⟨X,0,none⟩=some (.int .i64 t)∧w'.cell? ⟨X,1,none⟩=some (.int .u64 m)):=aa fun w' h=>⟨h.cell (by simp) (af hB 0),h.cell (by simp) (af hB 1)⟩;have ad:Hid (∀w',Upd u3.ownBlock.toList A w'→w'.cell? ⟨X,0,none⟩=some (.int .i64 t)∧w'.cell? ⟨X,1,none⟩=some (.int .u64 m)):=aa fun w' h=>by
    have hn:X∉u3.ownBlock.toList:=fun hm=>by have:=z.o.1.lt X (by simpa using hm);omega
    exact⟨h.cell hn (af hB 0),h.cell hn (af hB 1)⟩
   clear d hX hB k1 k3
   go_region_held3 (fun w'=>w'.cell? ⟨X,0,none⟩=some (.int .i64 t)∧w'.cell? ⟨X,1,none⟩=some (.int .u64 m)) (first|exact ad.o _ (by assumption)|exact KP.o _ (by with_reducible ((repeat' (first|exact ae _|assumption|refine aG ?_|refine aE ?_ _|refine aC ?_ _))<;>fail))) (first
    |(go_at_call 141;refine(float m _).mono ?_;rintro e w3 ⟨rfl,rfl⟩)
    |(refine rU (by rfl) _ _ 200 474 i0 _ 1 16 underlying200 V.o.1 V.o.2.1 V.o.2.2.1 V.o.2.2.2 rfl (by decide) (by decide) (by rfl) (by rfl) w A u3 _ i (pts (l.take i)) [ptV (t,m)] 474 (by rfl) (by rfl) HR.o ?_ ?_ ?_ ?_ ?_ ?_ ?_;exact(by with_reducible ((repeat' (first|exact ae _|assumption|refine aG ?_|refine aE ?_ _|refine aC ?_ _))<;>fail));rfl;exact kB rfl;(first|with_reducible exact an _|with_reducible exact bQ (an _)|exact an _|simp[World.alloc,World.drew,Array.getElem?_push]);exact HU.o.size;omega;intro v4 w4 h4 U a0 a1;obtain⟨b4,c4,rfl⟩:=a0))
   all_goals
    have H4:=aa (And.intro h4 U);clear h4 U a1;go_wp2_with fail;go_roundg (n-(i+1))
    case measure=>have:=Hi.o;omega
    case rel=>
     refine⟨i+1,by simp,aa (by have:=Hi.o;omega),aa ⟨?_,HU.o.then H4.o.2 (fun b hb hl=>?_)⟩⟩
     ·rw[AU Hf,←show(t,m)=l[i] by rw[O.o.1,O.o.2]];exact H4.o.1
     ·have:=HR.o.2 b (by simpa using hb);omega
  ·obtain rfl:i=n:=by have:=Hi.o;omega
   go_wp2_with fail;refine bodyPost_ret (v:=u3) (by simp[results,results75]) rfl ⟨_,rfl,?_,z.o.2⟩;have e:l.take i=l:=by rw[W.o,aS]
   rw[e]at z;rw[←W.o];exact z.o.1
structure LsI(w:World)(X g c:Nat)(l:List (Int×Nat))(i:Int):Prop where
 blk:w.heap[X]? =some (.cells #[.iface 304 (.slice (some ⟨g,0,none⟩) l.length c),.int .i64 i] 300 (0,0))
 row:∀j (h:j<l.length),w.cell? ⟨g,j,none⟩=some (ptV l[j])
 ne:X≠g
 few:l.length≤10
theorem LsI.upd{w w':World}{X g c:Nat}{l:List (Int×Nat)}{i:Int}{L:List Nat}(h:LsI w X g c l i)(hu:Upd L w w')(hX:X∉L)(hg:g∉L):LsI w' X g c l i:=
 ⟨hu.blk h.blk hX,fun j d=>hu.cell hg (h.row j d),h.ne,h.few⟩
theorem LsI.to{w w':World}{X g c:Nat}{l:List (Int×Nat)}{i:Int}(h:LsI w X g c l i)(hu:Upd [X] w w'){k:Int}(hb:w'.heap[X]? =some (.cells #[.iface 304 (.slice (some ⟨g,0,none⟩) l.length c),.int .i64 k] 300 (0,0))):LsI w' X g c l k:=
 ⟨hb,fun j d=>hu.cell (by simpa using aF h.ne) (h.row j d),h.ne,h.few⟩
theorem pe(v:Value)(w:World):(method 616 304 v "Get").run prog w=.ok (347,v) w:=by kernel_rfl
theorem xh(v:Value)(w:World):(method 616 304 v "Len").run prog w=.ok (348,v) w:=by kernel_rfl
theorem Ef(v:Value)(w:World):(method 616 303 v "T").run prog w=.ok (345,v) w:=by kernel_rfl
theorem GH(v:Value)(w:World):(method 616 303 v "F").run prog w=.ok (344,v) w:=by kernel_rfl
theorem xg(v:Value)(w:World):(method 616 303 v "Type").run prog w=.ok (346,v) w:=by kernel_rfl
theorem tk(g n c i:Nat)(u:Value)(w:World)(A:i<n)(h:w.cell? ⟨g,i,none⟩=some u):Calls prog 347 #[.slice (some ⟨g,0,none⟩) n c,.int .i64 i] w fun e w'=>e=.returned u∧w'=w:=by
 have d:(0:Int)≤(i:Int):=by omega
 have z:(i:Int)<(n:Int):=by omega
 go_enter func347,ntmps347
 go_wp2_with fail;go_ret;exact⟨rfl,rfl⟩
theorem wC(b:Option Addr)(n c:Nat)(w:World):Calls prog 348 #[.slice b n c] w fun e w'=>e=.returned (.int .i64 n)∧w'=w:=by
 go_enter func348,ntmps348
 go_wp2_with fail;go_ret;exact⟨rfl,rfl⟩
theorem ptT(p:Int×Nat)(w:World):Calls prog 345 #[.agg #[.int .i64 p.1,.float .f64 p.2]] w fun e w'=>e=.returned (.int .i64 p.1)∧Upd [] w w':=by
 obtain⟨a,b⟩:=p;go_enter func345,ntmps345
 go_wp2_with fail;go_ret;exact⟨rfl,(ae _).alloc _⟩
theorem GQ(p:Int×Nat)(w:World):Calls prog 344 #[.agg #[.int .i64 p.1,.float .f64 p.2]] w fun e w'=>e=.returned (.float .f64 p.2)∧Upd [] w w':=by
 obtain⟨a,b⟩:=p;go_enter func344,ntmps344
 go_wp2_with fail;go_ret;exact⟨rfl,(ae _).alloc _⟩
theorem AT(p:Int×Nat)(w:World):Calls prog 346 #[.agg #[.int .i64 p.1,.float .f64 p.2]] w fun e w'=>e=.returned (.int .u8 1)∧Upd [] w w':=by
 obtain⟨a,b⟩:=p;go_enter func346,ntmps346
 go_wp2_with fail;go_ret;exact⟨rfl,(ae _).alloc _⟩
theorem Aw(X:Nat)(w:World):Calls prog 340 #[ptr X 0] w fun e w'=>e=.returned .nilIface∧w'=w:=by
 go_enter func340,ntmps340
 go_wp2_with fail;go_ret;exact⟨rfl,rfl⟩
theorem Av(X g c i:Nat)(l:List (Int×Nat))(w:World)(h:LsI w X g c l i)(d:i<l.length):Calls prog 339 #[ptr X 0] w fun e w'=>e=.returned (.int .i64 l[i].1)∧Upd [] w w':=by
 have D:=af h.blk 0;have c1:=af h.blk 1;have z:=aa (fun w' (hu:Upd [] w w')=>tk g l.length c i (ptV l[i]) w' d (hu.cell (by simp) (h.row i d)));obtain⟨p,A⟩:∃p,p=l[i]:=⟨_,rfl⟩;rw[←A]at z;rw[←A];obtain⟨n,hn⟩:∃n,n=l.length:=⟨_,rfl⟩;rw[←hn]at z D;have G:=Ef;have O:=pe;clear h A hn d;go_enter func339,ntmps339
 go_upto_region 1 with fail
 go_quiet ((go_at_call 347;exact Calls.quiet_of_same (z.o _ (by with_reducible first|exact(ae _).drewN _|exact ae _|exact aC (by assumption) _|assumption))))
 go_wp2_with fail;refine(ptT p _).mono ?_;rintro e w1 ⟨rfl,hu⟩;have F:=aa hu;clear hu;go_wp2_with fail;go_ret;exact⟨rfl,((ae w).drewN _).then F.o (by simp)⟩
theorem GG(X g c i:Nat)(l:List (Int×Nat))(w:World)(h:LsI w X g c l i)(d:i<l.length):Calls prog 336 #[ptr X 0] w fun e w'=>e=.returned (.tuple #[.int .i64 l[i].1,.float .f64 l[i].2])∧Upd [] w w':=by
 have F:=af h.blk 0;have c1:=af h.blk 1;have z:=aa (fun w' (hu:Upd [] w w')=>tk g l.length c i (ptV l[i]) w' d (hu.cell (by simp) (h.row i d)));obtain⟨p,A⟩:∃p,p=l[i]:=⟨_,rfl⟩;rw[←A]at z;rw[←A];obtain⟨n,hn⟩:∃n,n=l.length:=⟨_,rfl⟩;rw[←hn]at z F;have O:=Ef;have U:=GH;have V:=pe;clear h A hn d;go_enter func336,ntmps336
 go_upto_region 1 with fail
 go_quiet ((go_at_call 347;exact Calls.quiet_of_same (z.o _ (by with_reducible first|exact(ae _).drewN _|exact ae _|exact aC (by assumption) _|assumption))))
 go_wp2_with fail;refine(ptT p _).mono ?_;rintro e w1 ⟨rfl,hu⟩;have G:=aa hu;clear hu;go_wp2_with fail;refine(GQ p _).mono ?_;rintro e w2 ⟨rfl,hu⟩;have D:=aa hu;clear hu;go_wp2_with fail;go_ret2
 exact⟨rfl,(((ae w).drewN _).then G.o (by simp)).then D.o (by simp)⟩
def LsN(w:World)(X g c:Nat)(l:List (Int×Nat))(k:Nat)(e:Ending)(w':World):Prop:=e=.returned (.int .u8 (if k<l.length then 1 else 0))∧LsI w' X g c l k∧Upd [X] w w'
theorem Ax(X g c:Nat)(l:List (Int×Nat))(i:Int)(k:Nat)(w:World)(h:LsI w X g c l i)(V:i+1=k)(W:k≤10):Calls prog 341 #[ptr X 0] w (LsN w X g c l k):=by
 have G:=af h.blk 0;have c1:=af h.blk 1;have f0:=ao h.blk 0;have f1:=ao h.blk 1;obtain⟨w1,d⟩:∃x,x=w.setCell ⟨X,1,none⟩ (.int .i64 k):=⟨_,rfl⟩;have hb1:w1.heap[X]? =some (.cells #[.iface 304 (.slice (some ⟨g,0,none⟩) l.length c),.int .i64 k] 300 (0,0)):=by rw[d];exact au h.blk 1 _
 have A:Upd [X] w w1:=by rw[d];exact((ae w).mono (by simp)).setCell (by simp) _
 have h1:LsI w1 X g c l k:=h.to A hb1;have d0:=af hb1 0;have d1:=af hb1 1;have H:=aa (And.intro h1 A);have mT:=xg;have mG:=pe;have mL:=xh;obtain⟨n,hn⟩:∃n,n=l.length:=⟨_,rfl⟩;rw[←hn]at G d0;have O:=aa hn;clear h h1 A hb1 hn;by_cases ad:k<n
 ·have z:k<l.length:=by have:=O.o;omega
  have KG:=aa (fun w' (hu:Upd [] w1 w')=>tk g l.length c k (ptV l[k]) w' z (hu.cell (by simp) (H.o.1.row k z)));obtain⟨p,hp⟩:∃p,p=l[k]:=⟨_,rfl⟩;rw[←hp,←O.o]at KG;have D:¬(n:Int)≤(k:Int):=by omega
  refine en (R:=fun e w'=>e=.returned (.int .u8 1)∧Upd [] w1 w') ?_ (fun e w' h=>⟨by rw[if_pos z];exact h.1,H.o.1.upd h.2 (by simp) (by simp),H.o.2.then h.2 (by simp)⟩);clear hp;have KP:Hid (∀w',Upd [] w1 w'→w'.cell? ⟨X,0,none⟩=some (.iface 304 (.slice (some ⟨g,0,none⟩) n c))∧w'.cell? ⟨X,1,none⟩=some (.int .i64 k)):=aa fun w' hu=>⟨hu.cell (by simp) d0,hu.cell (by simp) d1⟩;go_enter func341,ntmps341
  go_upto_region 2 with fail
  rw[←d];clear d G c1 f0 f1 V;go_quiet ((go_at_call 348;exact Calls.quiet_of_same (wC _ n c _)))
  go_upto_region 4 with fail
  go_region_held3 (fun w'=>w'.cell? ⟨X,0,none⟩=some (.iface 304 (.slice (some ⟨g,0,none⟩) n c))∧w'.cell? ⟨X,1,none⟩=some (.int .i64 k)) (exact KP.o _ (by first|exact(ae _).drewN _|assumption|exact((ae _).drewN _).drew|exact aG (by assumption))) (first
   |(go_at_call 347;refine(KG.o _ (by first|exact(ae _).drewN _|assumption|exact((ae _).drewN _).drew|exact aG (by assumption))).mono ?_;rintro e w3 ⟨rfl,rfl⟩)
   |(go_at_call 346;refine(AT p _).mono ?_;rintro e w4 ⟨rfl,hu⟩;have F:Upd [] w1 w4:=(((ae w1).drewN _).drew).then hu (by simp);clear hu))
  all_goals
   have U:=aa F;clear F;go_wp2_with fail;go_ret;exact⟨rfl,U.o⟩
 ·have z:¬k<l.length:=by have:=O.o;omega
  have D:(n:Int)≤(k:Int):=by omega
  refine en (R:=fun e w'=>e=.returned (.int .u8 0)∧Upd [] w1 w') ?_ (fun e w' h=>⟨by rw[if_neg z];exact h.1,H.o.1.upd h.2 (by simp) (by simp),H.o.2.then h.2 (by simp)⟩);go_enter func341,ntmps341
  go_upto_region 2 with fail
  rw[←d];clear d G c1 f0 f1 V;go_quiet ((go_at_call 348;exact Calls.quiet_of_same (wC _ n c _)))
  go_wp2_with fail;go_ret;exact⟨rfl,(ae _).drewN _⟩
theorem Eb(X g c i:Nat)(l:List (Int×Nat))(w:World)(h:LsI w X g c l i)(hi:i<l.length):Calls prog 342 #[ptr X 0,.int .i64 l[i].1] w fun e w'=>e=.returned (.int .u8 1)∧Upd [] w w':=by
 obtain⟨w1,d⟩:∃x,x=(w.alloc (.cells #[ptr X 0] 298 (0,0))).alloc (.cells #[.int .i64 l[i].1] 2 (0,0)):=⟨_,rfl⟩;have D:Upd [] w w1:=by rw[d];exact((ae _).alloc _).alloc _
 obtain⟨A,hA⟩:∃x,x=w.heap.size:=⟨_,rfl⟩;have W:w1.heap[A]? =some (.cells #[ptr X 0] 298 (0,0)):=by rw[d,hA,eB _ (by rw[aJ];omega)];exact an _
 have ad:w1.heap[A+1]? =some (.cells #[.int .i64 l[i].1] 2 (0,0)):=by have:=an (w:=w.alloc (.cells #[ptr X 0] 298 (0,0))) (.cells #[.int .i64 l[i].1] 2 (0,0));rw[aJ]at this;rw[d,hA];exact this
 have h1:=h.upd D (by simp) (by simp);have a0:=af W 0;have b0:=af ad 0;have c0:=af h1.blk 0;have c1:=af h1.blk 1;have KG:=aa (fun w' (hu:Upd [] w1 w')=>tk g l.length c i (ptV l[i]) w' hi (hu.cell (by simp) (h1.row i hi)));obtain⟨p,hp⟩:∃p,p=l[i]:=⟨_,rfl⟩;rw[←hp]at KG d b0;rw[←hp];obtain⟨n,hn⟩:∃n,n=l.length:=⟨_,rfl⟩;rw[←hn]at KG c0;obtain⟨t,ht⟩:∃t,t=p.1:=⟨_,rfl⟩;rw[←ht]at d b0;rw[←ht];have Ht:=aa ht;have a9:¬(n:Int)≤(i:Int):=by omega
 have G5:¬(i:Int)= -1:=by omega
 have hle:t≤t:=Int.le_refl _;have mT:=Ef;have mY:=xg;have mG:=pe;have mL:=xh;have a5:=aa D;have KC:Hid (∀w',Upd [] w1 w'→w'.cell? ⟨A,0,none⟩=some (ptr X 0)∧w'.cell? ⟨A+1,0,none⟩=some (.int .i64 t)∧w'.cell? ⟨X,0,none⟩=some (.iface 304 (.slice (some ⟨g,0,none⟩) n c))∧w'.cell? ⟨X,1,none⟩=some (.int .i64 i)):=aa fun w' hu=>⟨hu.cell (by simp) a0,hu.cell (by simp) b0,hu.cell (by simp) c0,hu.cell (by simp) c1⟩;clear h h1 hp hn hi W ad D ht;go_enter func342,ntmps342
 go_upto_region 1 with fail
 rw[←hA];rw[←d];clear d hA;go_upto_region 3 with fail
 go_quiet ((go_at_call 348;exact Calls.quiet_of_same (wC _ n c _)))
 go_upto_region 5 with fail
 obtain⟨w2,F⟩:∃x,x=w1.drewN nq:=⟨_,rfl⟩;rw[←F];have G:Hid (Upd [] w1 w2):=aa (by rw[F];exact(ae _).drewN _);have a1:Hid (∀w',Upd [] w2 w'→Calls prog 347 #[.slice (some ⟨g,0,none⟩) n c,.int .i64 i] w' fun e z=>e=.returned (ptV p)∧z=w'):=aa fun w' hu=>KG.o w' (G.o.then hu (by simp));obtain⟨a2,b2,d2,d3⟩:=KC.o w2 G.o;clear a0 b0 c0 c1 F KG;go_quiet ((go_at_call 347;exact Calls.quiet_of_same (a1.o _ (by with_reducible first|exact(ae _).drewN _|exact ae _|exact aC (by assumption) _|assumption))))
 go_upto_region 6 with fail
 obtain⟨w3,O⟩:∃x,x=w2.drewN nq:=⟨_,rfl⟩;rw[←O];have U:Hid (Upd [] w1 w3):=aa (by rw[O];exact G.o.drewN _);obtain⟨a3,b3,e2,e3⟩:=KC.o w3 U.o;clear a2 b2 d2 d3 O a1;have a6:Hid (∀w',Upd [] w3 w'→Calls prog 345 #[.agg #[.int .i64 p.1,.float .f64 p.2]] w' fun e z=>e=.returned (.int .i64 t)∧Upd [] w3 z):=aa fun w' hu=>(ptT p w').mono fun e z h=>⟨by rw[Ht.o];exact h.1,hu.then h.2 (by simp)⟩;go_region_held3 (fun w'=>w'.cell? ⟨A+1,0,none⟩=some (.int .i64 t)) (exact(KC.o _ (U.o.then (by with_reducible first|exact ae _|exact(ae _).drew|assumption|exact aG (by assumption)) (by simp))).2.1) ((go_at_call 345;refine(a6.o _ (by with_reducible ((repeat' (first|exact ae _|assumption|refine aG ?_|refine aE ?_ _|refine aC ?_ _))<;>fail))).mono ?_;rintro e w4 ⟨rfl,a4⟩))
 all_goals
  have V:=aa a4;clear a4;go_wp2_with fail;refine(AT p _).mono ?_;rintro e w5 ⟨rfl,hu⟩;have a7:=aa hu;clear hu;go_wp2_with fail;go_ret;exact⟨rfl,((a5.o.then U.o (by simp)).then (by first|exact V.o|exact V.o.drew|exact aC V.o _) (by simp)).then a7.o (by simp)⟩
abbrev lsV(X:Nat):Value:=.iface 298 (ptr X 0)
abbrev hpV(C:Nat):Value:=.iface 459 (ptr C 1)
theorem sQ(C:Nat)(hv:Value)(w:World)(h:w.cell? ⟨C,1,none⟩=some hv):(method 616 459 (ptr C 1) "Len").run prog w=.ok (304,hv) w:=by
 have e:(method 616 459 (ptr C 1) "Len").run prog w=((load ⟨C,1,none⟩)>>=fun v=>(pure (304,v):Sem (FuncId×Value))).run prog w:=by kernel_rfl
 rw[e,eI,run_load,h];rfl
theorem Cp(C:Nat)(hv:Value)(w:World)(h:w.cell? ⟨C,1,none⟩=some hv):(method 616 459 (ptr C 1) "Less").run prog w=.ok (305,hv) w:=by
 have e:(method 616 459 (ptr C 1) "Less").run prog w=((load ⟨C,1,none⟩)>>=fun v=>(pure (305,v):Sem (FuncId×Value))).run prog w:=by kernel_rfl
 rw[e,eI,run_load,h];rfl
theorem xe(C:Nat)(hv:Value)(w:World)(h:w.cell? ⟨C,1,none⟩=some hv):(method 616 459 (ptr C 1) "Swap").run prog w=.ok (306,hv) w:=by
 have e:(method 616 459 (ptr C 1) "Swap").run prog w=((load ⟨C,1,none⟩)>>=fun v=>(pure (306,v):Sem (FuncId×Value))).run prog w:=by kernel_rfl
 rw[e,eI,run_load,h];rfl
theorem xd(v:Value)(w:World):(method 616 459 v "Push").run prog w=.ok (363,v) w:=by kernel_rfl
theorem Az(v:Value)(w:World):(method 616 459 v "Pop").run prog w=.ok (362,v) w:=by kernel_rfl
theorem pd(v:Value)(w:World):(method 616 298 v "Next").run prog w=.ok (341,v) w:=by kernel_rfl
theorem Fo(v:Value)(w:World):(method 616 298 v "At").run prog w=.ok (336,v) w:=by kernel_rfl
theorem sR(v:Value)(w:World):(method 616 298 v "AtT").run prog w=.ok (339,v) w:=by kernel_rfl
theorem xf(v:Value)(w:World):(method 616 298 v "Seek").run prog w=.ok (342,v) w:=by kernel_rfl
theorem qd(v:Value)(w:World):(method 616 298 v "Err").run prog w=.ok (340,v) w:=by kernel_rfl
theorem mi{P:Program}{t d:TypeId}{want:Array (String×TypeId)}(hu:P.underlying d=some (.interface want))(h:(P.info? t).map (fun i=>(lacking want i.methods).isEmpty)=some true)
 (v:Value)(z:TypeId)(w:World):(Instr.typeAssert (.iface t v) z d false).run P w=.ok (.iface t v) w:=by
 obtain⟨i,A,hl⟩:=Option.map_eq_some_iff.1 h;simp[Instr.typeAssert,run_underlying hu,typeInfo,A,missingMethod_none (List.isEmpty_iff.1 hl)]
theorem DE(v:Value)(d:TypeId)(w:World):(Instr.typeAssert (.iface 298 v) d 93 false).run prog w=.ok (.iface 298 v) w:=mi underlying93 (by kernel_rfl) v d w
theorem wX(b:Option Addr)(n c:Nat)(w:World):Calls prog 304 #[.slice b n c] w fun e w'=>e=.returned (.int .i64 n)∧w'=w:=by
 go_enter func304,ntmps304
 go_wp2_with fail;go_ret;exact⟨rfl,rfl⟩
theorem DX(G c:Nat)(z X1 g0 g1 W c1 i0 i1:Nat)(D l1:List (Int×Nat))(w:World)(h0:LsI w z g0 W D i0)(h1:LsI w X1 g1 c1 l1 i1)(F:i0<D.length)(O:i1<l1.length)
 (k0:w.cell? ⟨G,0,none⟩=some (lsV z))(k1:w.cell? ⟨G,1,none⟩=some (lsV X1))(A:¬l1[i1].1<D[i0].1):
 Calls prog 305 #[.slice (some ⟨G,0,none⟩) 2 c,.int .i64 1,.int .i64 0] w fun e w'=>e=.returned (.bool false)∧Upd [] w w':=by
 have K0:Hid (∀w',Upd [] w w'→Calls prog 339 #[ptr z 0] w' fun e d=>e=.returned (.int .i64 D[i0].1)∧Upd [] w d):=aa fun w' hu=>(Av z g0 W i0 D w' (h0.upd hu (by simp) (by simp)) F).mono fun e d h=>⟨h.1,hu.then h.2 (by simp)⟩;have K1:Hid (∀w',Upd [] w w'→Calls prog 339 #[ptr X1 0] w' fun e d=>e=.returned (.int .i64 l1[i1].1)∧Upd [] w d):=aa fun w' hu=>(Av X1 g1 c1 i1 l1 w' (h1.upd hu (by simp) (by simp)) O).mono fun e d h=>⟨h.1,hu.then h.2 (by simp)⟩;obtain⟨t0,U⟩:∃t,t=D[i0].1:=⟨_,rfl⟩;obtain⟨t1,V⟩:∃t,t=l1[i1].1:=⟨_,rfl⟩;rw[←U]at K0 A;rw[←V]at K1 A;have KP:Hid (∀w',Upd [] w w'→w'.cell? ⟨G,0,none⟩=some (lsV z)∧w'.cell? ⟨G,1,none⟩=some (lsV X1)):=aa fun w' hu=>⟨hu.cell (by simp) k0,hu.cell (by simp) k1⟩;have mA:=sR;have G5:z≠X1∨True:=.inr trivial;clear h0 h1 U V F O G5;go_enter func305,ntmps305
 go_upto_region 1 with fail
 go_region_held3 (fun w'=>w'.cell? ⟨G,0,none⟩=some (lsV z)∧w'.cell? ⟨G,1,none⟩=some (lsV X1)) (exact KP.o _ (by with_reducible ((repeat' (first|exact ae _|assumption|refine aG ?_|refine aE ?_ _|refine aC ?_ _))<;>fail))) (first
  |(go_at_call_of 339 (ptr z 0);refine(K0.o _ (by with_reducible ((repeat' (first|exact ae _|assumption|refine aG ?_|refine aE ?_ _|refine aC ?_ _))<;>fail))).mono ?_;rintro e w3 ⟨rfl,G4⟩)
  |(go_at_call_of 339 (ptr X1 0);refine(K1.o _ (by with_reducible ((repeat' (first|exact ae _|assumption|refine aG ?_|refine aE ?_ _|refine aC ?_ _))<;>fail))).mono ?_;rintro e w4 ⟨rfl,ad⟩))
 all_goals
  go_wp2_with fail;go_ret;refine⟨by simp[A],by assumption⟩
def HpR(w:World)(G:Nat)(ys:List Nat):Prop:=∃cs,w.heap[G]? =some (.cells cs 93 (0,0))∧∀j (h:j<ys.length),cs[j]? =some (lsV ys[j])
theorem HpR.upd{w w':World}{G:Nat}{ys:List Nat}{L:List Nat}(h:HpR w G ys)(hu:Upd L w w')(hG:G∉L):HpR w' G ys:=by obtain⟨cs,h1,d⟩:=h;exact⟨cs,hu.blk h1 hG,d⟩
def E2(w:World)(G:Nat)(ys:List Nat)(e:Ending)(w':World):Prop:=e=.returned (.tuple #[])∧HpR w' G ys∧Upd [G] w w'
theorem FD{cs:Array Value}{A u1:Value}(_:cs[0]? =some A)(z:cs[1]? =some u1)(d X1:Nat):∀j (h:j<[d,X1].length),((cs.setIfInBounds 0 (lsV d)).setIfInBounds 1 (lsV X1))[j]? =some (lsV [d,X1][j]):=by
 intro j D;have h1:1<cs.size:=by
  by_cases h:1<cs.size
  ·exact h
  ·rw[Array.getElem?_eq_none (by omega)]at z;simp at z
 match j,D with
 |0,_=>rw[ba (by omega),di (by omega)];rfl
 |1,_=>rw[di (by simpa using h1)];rfl
theorem Ag(G c:Nat)(A X1:Nat)(w:World)(h:HpR w G [A,X1]):
 Calls prog 306 #[.slice (some ⟨G,0,none⟩) 2 c,.int .i64 0,.int .i64 1] w (E2 w G [X1,A]):=by
 obtain⟨cs,hb,D⟩:=h;have d:=D 0 (by simp);have z:=D 1 (by simp);simp only[dU,eH]at d z;have O:=af hb 0;have c1:=af hb 1;have U:=ao hb 0;have V:=ao hb 1;rw[d]at O;rw[z]at c1;have F:=aa (And.intro hb (FD d z X1 A));clear hb D d z;go_enter func306,ntmps306
 go_region
 all_goals
  go_wp2_with fail;go_end0
  exact⟨rfl,⟨_,au (au F.o.1 0 _) 1 _,F.o.2⟩,((((ae w).mono (by simp)).setCell (by simp) _).setCell (by simp) _).drew⟩
theorem Af(G c:Nat)(d:Nat)(w:World)(h:HpR w G [d]):
 Calls prog 306 #[.slice (some ⟨G,0,none⟩) 1 c,.int .i64 0,.int .i64 0] w (E2 w G [d]):=by
 obtain⟨cs,hb,A⟩:=h;have z:=A 0 (by simp);simp only[dU]at z;have F:=af hb 0;have U:=ao hb 0;rw[z]at F;have h1:0<cs.size:=by
  by_cases h:0<cs.size
  ·exact h
  ·rw[Array.getElem?_eq_none (by omega)]at z;simp at z
 have D:Hid (w.heap[G]? =some (.cells cs 93 (0,0))∧∀j (h:j<[d].length),((cs.setIfInBounds 0 (lsV d)).setIfInBounds 0 (lsV d))[j]? =some (lsV [d][j])):=aa ⟨hb,fun j O=>by
  match j,O with
  |0,_=>rw[di (by simpa using h1)];rfl⟩
 clear hb A z h1;go_enter func306,ntmps306
 go_region
 all_goals
  go_wp2_with fail;go_end0
  exact⟨rfl,⟨_,au (au D.o.1 0 _) 0 _,D.o.2⟩,((((ae w).mono (by simp)).setCell (by simp) _).setCell (by simp) _).drew⟩
theorem Tryz.info93:(Tryz.prog.info? 93).map (fun i=>(i.zero,i.size,i.bytes))=some (some .nilIface,1,16):=by kernel_rfl
def sg(wb w:World)(C X n:Nat)(cs:Array Value)(hv:Value)(xs:List Value)(e:Ending)(w':World):Prop:=e=.returned (.tuple #[])∧∃d,w'.heap[C]? =some (.cells (cs.setIfInBounds 1 d) 198 (0,0))∧aP wb w' 93 1 (n+1) d (xs++[lsV X])∧Upd (C::hv.ownBlock.toList) w w'∧(∀b,d.ownBlock=some b→hv.ownBlock=some b∨w.heap.size≤b)
theorem Ae(C X n:Nat)(cs:Array Value)(hv:Value)(xs:List Value)(wb w:World)(d:w.heap[C]? =some (.cells cs 198 (0,0)))(z:cs[1]? =some hv)(hr:aP wb w 93 1 n hv xs)(hb:wb.heap.size≤w.heap.size)(hn:n≤5)(G:hv.ownBlock≠some C):
 Calls prog 363 #[ptr C 1,lsV X] w (sg wb w C X n cs hv xs):=by
 obtain⟨i0,hi,O,U,V⟩:=info_parts Tryz.info93;have HI:=aa (And.intro hi (And.intro O (And.intro U V)));clear hi O U V;obtain⟨b0,F,rfl⟩:∃b c,hv=.slice b n c:=by
  rcases hr.shape with⟨e1,e2,_⟩|⟨g,c',e1,_⟩
  ·exact⟨none,0,by rw[e1,e2]⟩
  ·exact⟨_,c',e1⟩
 have k1:w.cell? ⟨C,1,none⟩=some (.slice b0 n F):=by rw[af d 1];exact z
 have f1:=ao d 1;have KP:Hid (∀w',Upd [] w w'→w'.cell? ⟨C,1,none⟩=some (.slice b0 n F)∧w'.frozen? ⟨C,1,none⟩=false):=aa fun w' hu=>⟨by rw[af (hu.blk d (by simp)) 1];exact z,ao (hu.blk d (by simp)) 1⟩;have A:C∉(Value.slice b0 n F).ownBlock.toList:=fun hm=>G (by simpa using hm);have W:Hid (∀w',Upd (Value.slice b0 n F).ownBlock.toList w w'→w'.cell? ⟨C,1,none⟩=some (.slice b0 n F)∧w'.frozen? ⟨C,1,none⟩=false):=aa fun w' hu=>⟨by rw[af (hu.blk d A) 1];exact z,ao (hu.blk d A) 1⟩;have HC:=aa (And.intro d A);have HR:=aa (And.intro hr hb);have a2:=lt_of_block d;have a3:=DE;clear d hr hb z A G;go_enter func363,ntmps363
 go_region_law ((refine rU (by rfl) _ _ 196 93 i0 _ 1 16 underlying196 HI.o.1 HI.o.2.1 HI.o.2.2.1 HI.o.2.2.2 rfl (by decide) (by decide) (by rfl) (by rfl) wb w (.slice b0 n F) _ n xs [lsV X] 93 (by rfl) (by rfl) HR.o.1 ?_ ?_ ?_ ?_ ?_ ?_ ?_;exact(by with_reducible ((repeat' (first|exact ae _|assumption|refine aG ?_|refine aE ?_ _|refine aC ?_ _))<;>fail));rfl;exact kB rfl;(first|with_reducible exact an _|with_reducible exact bQ (an _)|exact an _|simp[World.alloc,World.drew,Array.getElem?_push]);exact HR.o.2;omega;intro v4 w4 h4 D a1 ad;obtain⟨b4,c4,rfl⟩:=a1;have f4:=(W.o w4 D).2;have k4:=(W.o w4 D).1))
 all_goals
  have H4:=aa (And.intro h4 (And.intro D ad));clear h4 D ad;have G5:C∉(Value.slice b4 (n+1) c4).ownBlock.toList:=fun hm=>by
   rcases H4.o.2.2 C (by simpa using hm)with h|h
   ·exact HC.o.2 (by simpa using h)
   ·omega
  have a0:Upd [C] w4 (w4.setCell ⟨C,1,none⟩ (.slice b4 (n+1) c4)):=((ae w4).mono (by simp)).setCell (by simp) _;have HX:=aa (And.intro G5 a0);clear G5 a0;go_wp2_with fail;go_end0
  refine⟨rfl,_,au (H4.o.2.1.blk HC.o.1 HC.o.2) 1 _,H4.o.1.upd HX.o.2 (fun b hb=>?_),(H4.o.2.1.mono (fun b hb=>aH _ hb)).then HX.o.2 (fun b hb _=>by simp at hb;simp[hb]),H4.o.2.2⟩;simp only[ah,ai,or_false]at hb;subst hb;exact fun h=>HX.o.1 (by simpa using h)
theorem Fh(C:Nat)(w:World):Calls prog 302 #[hpV C,.int .i64 0] w fun e w'=>e=.returned (.tuple #[])∧Upd [] w w':=by
 go_enter func302,ntmps302
 go_wp2_with fail;go_loopg [1] 0 (fun A s1 d=>s1=.int .i64 0∧Hid (Upd [] w d))
 case atStart=>exact⟨rfl,aa (ae _)⟩
 case round=>
  obtain⟨rfl,z⟩:=hrel;go_wp2_with fail;go_end0
  exact⟨rfl,z.o⟩
def E4(w:World)(e:Ending)(w':World):Prop:=e=.returned (.tuple #[])∧Upd [] w w'
theorem Fi(C G c:Nat)(F X1 g0 g1 O c1 i0 i1:Nat)(D l1:List (Int×Nat))(w:World)(U:LsI w F g0 O D i0)(h1:LsI w X1 g1 c1 l1 i1)(d:i0<D.length)(z:i1<l1.length)
 (V:w.cell? ⟨C,1,none⟩=some (.slice (some ⟨G,0,none⟩) 2 c))(W:w.cell? ⟨G,0,none⟩=some (lsV F))(k1:w.cell? ⟨G,1,none⟩=some (lsV X1))(A:¬l1[i1].1<D[i0].1):
 Calls prog 302 #[hpV C,.int .i64 1] w (E4 w):=by
 have K:=aa (DX G c F X1 g0 g1 O c1 i0 i1 D l1 w U h1 d z W k1 A);have m1:=Cp C _ w V;clear U h1 d z W k1 A V;go_enter func302,ntmps302
 go_wp2_with fail;go_loopg [1] 0 (fun gg s1 wx=>s1=.int .i64 1∧wx=w)
 case atStart=>exact⟨rfl,rfl⟩
 case round=>
  obtain⟨rfl,rfl⟩:=hrel;go_wp2_with fail;refine K.o.mono ?_;rintro e w1 ⟨rfl,hu⟩;have HU:=aa hu;clear hu;go_wp2_with fail;go_end0
  exact⟨rfl,HU.o⟩
theorem Ad(C n:Nat)(hn:n≤1)(w:World):Calls prog 303 #[hpV C,.int .i64 0,.int .i64 n] w fun e w'=>e=.returned (.bool false)∧w'=w:=by
 have d:(n:Int)≤1:=by omega
 go_enter func303,ntmps303
 go_wp2_with fail;go_loopg [7] 0 (fun D z A=>z=.int .i64 0∧A=w)
 case atStart=>exact⟨rfl,rfl⟩
 case round=>
  obtain⟨rfl,rfl⟩:=hrel;go_wp2_with fail;go_ret;exact⟨rfl,rfl⟩
def Gb(w:World)(C G n c Y:Nat)(cs:Array Value)(e:Ending)(w':World):Prop:=e=.returned (lsV Y)∧w'.heap[C]? =some (.cells (cs.setIfInBounds 1 (.slice (some ⟨G,0,none⟩) n c)) 198 (0,0))∧Upd [C] w w'
theorem C7(C G n c Y:Nat)(cs:Array Value)(w:World)(z:w.heap[C]? =some (.cells cs 198 (0,0)))(d:cs[1]? =some (.slice (some ⟨G,0,none⟩) (n+1) c))(O:w.cell? ⟨G,n,none⟩=some (lsV Y))(hn:n≤5)(A:n+1≤c):
 Calls prog 362 #[ptr C 1] w (Gb w C G n c Y cs):=by
 have U:w.cell? ⟨C,1,none⟩=some (.slice (some ⟨G,0,none⟩) (n+1) c):=by rw[af z 1];exact d
 have V:=ao z 1;have D:=aa z;have e1:((n:Int)+1)-1=(n:Int):=by omega
 have hn0:(0:Int)≤(n:Int):=by omega
 have F:(n:Int)≤(c:Int):=by omega
 clear z d;go_enter func362,ntmps362
 go_wp2_with fail;go_ret;exact⟨rfl,au D.o 1 _,((ae w).mono (by simp)).setCell (by simp) _⟩
theorem sg.upd{wb w:World}{C X n:Nat}{cs:Array Value}{hv:Value}{xs:List Value}{e:Ending}{w1 w2:World}(h:sg wb w C X n cs hv xs e w1)(hu:Upd [] w1 w2):sg wb w C X n cs hv xs e w2:=by obtain⟨e1,d,h1,z,A,h4⟩:=h;exact⟨e1,d,hu.blk h1 (by simp),z.upd hu (by simp),A.then hu (by simp),h4⟩
theorem sg.cell{wb w:World}{C X n:Nat}{cs:Array Value}{hv:Value}{xs:List Value}{e:Ending}{w1:World}(h:sg wb w C X n cs hv xs e w1)(d:1<cs.size):∃G c,w1.cell? ⟨C,1,none⟩=some (.slice (some ⟨G,0,none⟩) (n+1) c)∧aP wb w1 93 1 (n+1) (.slice (some ⟨G,0,none⟩) (n+1) c) (xs++[lsV X]):=by
 obtain⟨e1,A,h1,z,F,h4⟩:=h;rcases z.shape with⟨_,e2,_⟩|⟨g,D,rfl,_⟩
 ·omega
 ·refine⟨g,D,?_,z⟩;rw[af h1 1,di d]
theorem yb(C X:Nat)(cs:Array Value)(hv:Value)(wb w:World)(D:w.heap[C]? =some (.cells cs 198 (0,0)))(d:cs[1]? =some hv)(hr:aP wb w 93 1 0 hv [])(hb:wb.heap.size≤w.heap.size)(z:hv.ownBlock≠some C)(A:1<cs.size):
 Calls prog 300 #[hpV C,lsV X] w (sg wb w C X 0 cs hv []):=by
 have K:=aa (Ae C X 0 cs hv [] wb w D d hr hb (by omega) z);have V:=xd;clear D d hr hb z;go_enter func300,ntmps300
 go_wp2_with fail;refine K.o.mono ?_;intro e w1 hq;obtain⟨G,c,F,hr⟩:=hq.cell A;obtain rfl:=hq.1;have O:=aa hq;have W:=sQ C _ w1 F;clear hq hr A;go_wp2_with fail;refine(wX _ _ _ w1).mono ?_;rintro e w2 ⟨rfl,rfl⟩;go_wp2_with fail;refine(Fh C _).mono ?_;rintro e w3 ⟨rfl,hu⟩;have U:=aa hu;clear hu;go_wp2_with fail;go_end0
 exact O.o.upd U.o
theorem yc(C F X1 g0 g1 c0 c1 i0 i1:Nat)(O l1:List (Int×Nat))(cs:Array Value)(hv:Value)(wb w:World)(hC:w.heap[C]? =some (.cells cs 198 (0,0)))(U:cs[1]? =some hv)(hr:aP wb w 93 1 1 hv [lsV F])(hb:wb.heap.size≤w.heap.size)(V:hv.ownBlock≠some C)(W:1<cs.size)
 (h0:LsI w F g0 c0 O i0)(h1:LsI w X1 g1 c1 l1 i1)(z:i0<O.length)(A:i1<l1.length)(D:¬l1[i1].1<O[i0].1)(d:∀b∈C::hv.ownBlock.toList,b≠F∧b≠X1∧b≠g0∧b≠g1):
 Calls prog 300 #[hpV C,lsV X1] w (sg wb w C X1 1 cs hv [lsV F]):=by
 have K:=aa (Ae C X1 1 cs hv [lsV F] wb w hC U hr hb (by omega) V);have mP:=xd;have HL:Hid (LsI w F g0 c0 O i0∧LsI w X1 g1 c1 l1 i1∧∃(z:i0<O.length) (A:i1<l1.length),O[i0].1≤l1[i1].1∧∀b∈C::hv.ownBlock.toList,b≠F∧b≠X1∧b≠g0∧b≠g1):=aa ⟨h0,h1,z,A,Int.not_lt.1 D,d⟩;clear hC U hr hb V h0 h1 D d z A;go_enter func300,ntmps300
 go_wp2_with fail;refine K.o.mono ?_;intro e w1 hq;obtain⟨G,c,k1,hr⟩:=hq.cell W;obtain rfl:=hq.1;have HQ:=aa hq;have K2:Hid (Calls prog 302 #[hpV C,.int .i64 1] w1 (E4 w1)):=aa (by
  obtain⟨e1,ad,q1,q2,q3,q4⟩:=hq;obtain⟨h0,h1,z,A,D,d⟩:=HL.o;refine Fi C G c F X1 g0 g1 c0 c1 i0 i1 O l1 w1 (h0.upd q3 (fun hm=>(d _ hm).1 rfl) (fun hm=>(d _ hm).2.2.1 rfl)) (h1.upd q3 (fun hm=>(d _ hm).2.1 rfl) (fun hm=>(d _ hm).2.2.2 rfl)) z A k1 ?_ ?_ (Int.not_lt.2 D)
  ·have:=hr.1.cells (g:=G) rfl 0 _ rfl;rw[aO,aK]at this;exact this
  ·have:=hr.1.cells (g:=G) rfl 1 _ rfl;rw[aO,aK]at this;exact this)
 have mL:=sQ C _ w1 k1;clear hq hr W;go_wp2_with fail;refine(wX _ _ _ w1).mono ?_;rintro e w2 ⟨rfl,rfl⟩;go_wp2_with fail;refine K2.o.mono ?_;rintro e w3 ⟨rfl,hu⟩;have HU:=aa hu;clear hu;go_wp2_with fail;go_end0
 exact HQ.o.upd HU.o
def CX(w:World)(C G n c Y:Nat)(ys:List Nat)(cs:Array Value)(e:Ending)(w':World):Prop:=e=.returned (lsV Y)∧w'.heap[C]? =some (.cells (cs.setIfInBounds 1 (.slice (some ⟨G,0,none⟩) n c)) 198 (0,0))∧HpR w' G ys∧Upd [C,G] w w'
theorem HpR.cell{w:World}{G:Nat}{ys:List Nat}(h:HpR w G ys)(j:Nat)(d:j<ys.length):w.cell? ⟨G,j,none⟩=some (lsV ys[j]):=by obtain⟨cs,h1,z⟩:=h;rw[af h1 j];exact z j d
theorem HpR.less{w:World}{G:Nat}{x:Nat}{ys:List Nat}(h:HpR w G (ys++[x])):HpR w G ys:=by obtain⟨cs,h1,d⟩:=h;refine⟨cs,h1,fun j z=>?_⟩;have:=d j (by simp;omega);rwa [gp z]at this
theorem Ac(C G c W Xb:Nat)(cs:Array Value)(w:World)(hC:w.heap[C]? =some (.cells cs 198 (0,0)))(d:cs[1]? =some (.slice (some ⟨G,0,none⟩) 2 c))(hG:HpR w G [W,Xb])(D:C≠G)(F:2≤c):
 Calls prog 301 #[hpV C] w (CX w C G 1 c W [Xb] cs):=by
 have k0:w.cell? ⟨C,1,none⟩=some (.slice (some ⟨G,0,none⟩) 2 c):=by rw[af hC 1];exact d
 have mL:=sQ C _ w k0;have mS:=xe C _ w k0;have mP:=Az;have K1:=aa (Ag G c W Xb w hG);have O:=aa (And.intro hC (And.intro d (And.intro D F)));clear hC d hG D F k0;go_enter func301,ntmps301
 go_wp2_with fail;refine(wX _ _ _ w).mono ?_;rintro e w0 ⟨rfl,rfl⟩;go_wp2_with fail;refine K1.o.mono ?_;rintro e w1 ⟨rfl,z,A⟩;have H1:=aa (And.intro z A);have U:=A.blk O.o.1 (by simpa using O.o.2.2.1);have K2:=aa (C7 C G 1 c W cs w1 U O.o.2.1 (z.cell 1 (by simp)) (by omega) O.o.2.2.2);clear z A U mL mS K1;go_wp2_with fail;refine(Ad C 1 (by omega) w1).mono ?_;rintro e w2 ⟨rfl,rfl⟩;go_wp2_with fail;refine K2.o.mono ?_;rintro e w3 hq;obtain⟨rfl,V,G4⟩:=hq;have H3:=aa (And.intro V G4);clear V G4 K2;go_wp2_with fail;go_ret;exact⟨rfl,H3.o.1,(H1.o.1.upd H3.o.2 (by simpa using aF O.o.2.2.1)).less (ys:=[Xb]),((H1.o.2.mono (by simp)).then H3.o.2 (by simp))⟩
theorem Ab(C G c W:Nat)(cs:Array Value)(w:World)(hC:w.heap[C]? =some (.cells cs 198 (0,0)))(d:cs[1]? =some (.slice (some ⟨G,0,none⟩) 1 c))(hG:HpR w G [W])(D:C≠G)(F:1≤c):
 Calls prog 301 #[hpV C] w (CX w C G 0 c W [] cs):=by
 have k0:w.cell? ⟨C,1,none⟩=some (.slice (some ⟨G,0,none⟩) 1 c):=by rw[af hC 1];exact d
 have mL:=sQ C _ w k0;have mS:=xe C _ w k0;have mP:=Az;have K1:=aa (Af G c W w hG);have O:=aa (And.intro hC (And.intro d (And.intro D F)));clear hC d hG D F k0;go_enter func301,ntmps301
 go_wp2_with fail;refine(wX _ _ _ w).mono ?_;rintro e w0 ⟨rfl,rfl⟩;go_wp2_with fail;refine K1.o.mono ?_;rintro e w1 ⟨rfl,z,A⟩;have H1:=aa (And.intro z A);have U:=A.blk O.o.1 (by simpa using O.o.2.2.1);have K2:=aa (C7 C G 0 c W cs w1 U O.o.2.1 (z.cell 0 (by simp)) (by omega) O.o.2.2.2);clear z A U mL mS K1;go_wp2_with fail;refine(Ad C 0 (by omega) w1).mono ?_;rintro e w2 ⟨rfl,rfl⟩;go_wp2_with fail;refine K2.o.mono ?_;rintro e w3 hq;obtain⟨rfl,V,G4⟩:=hq;have H3:=aa (And.intro V G4);clear V G4 K2;go_wp2_with fail;go_ret;exact⟨rfl,H3.o.1,(H1.o.1.upd H3.o.2 (by simpa using aF O.o.2.2.1)).less (ys:=[]),((H1.o.2.mono (by simp)).then H3.o.2 (by simp))⟩
end Go.Proofs.YtlgefdfflmgocaaGreatDoor
