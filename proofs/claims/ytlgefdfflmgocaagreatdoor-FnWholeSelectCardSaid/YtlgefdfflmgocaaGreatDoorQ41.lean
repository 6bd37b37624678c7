import Derived.Test.YtlgefdfflmgocaaGreatDoorQ40
import Derived.Laws.StructEq
set_option linter.all false
set_option maxRecDepth 100000
set_option maxHeartbeats 2000000
namespace Go.Proofs.YtlgefdfflmgocaaGreatDoor
open Go Go.RowKit Xc Go.Proofs.Tryz
attribute [local go_sem ↓] Go.wp_at_zero Go.wp_at_succ
def PtR(w:World)(g:Nat)(l:List (Int×Nat)):Prop:=(∃cs,w.heap[g]? =some (.cells cs 474 (0,0)))∧∀j (h:j<l.length),w.cell? ⟨g,j,none⟩=some (ptV l[j])
theorem PtR.upd{w w':World}{g:Nat}{l:List (Int×Nat)}(h:PtR w g l)(hu:Upd [] w w'):PtR w' g l:=⟨by obtain⟨cs,h1⟩:=h.1;exact⟨cs,hu.blk h1 (by simp)⟩,fun j d=>hu.cell (by simp) (h.2 j d)⟩
def Gd(w:World)(l:List (Int×Nat))(e:Ending)(w':World):Prop:=∃g c,e=.returned (.slice (some ⟨g,0,none⟩) l.length c)∧PtR w' g l∧w.heap.size≤g∧g<w'.heap.size∧Upd [] w w'
theorem Cz(w:World)(v:Value)(l:List (Int×Nat))(h:pu w v l)(hl:l.length≤10)(A:0<l.length):Calls prog 75 #[v] w (Gd w l):=
 (points w v l h hl).mono fun e w' hq=>by
  obtain⟨v',rfl,hr,hu⟩:=hq;rcases hr.shape with⟨_,e2,_⟩|⟨g,c,rfl,h1,d⟩
  ·omega
  ·refine⟨g,c,rfl,⟨jS hr g (by simp[Value.ownBlock]),fun j z=>?_⟩,h1,d,hu⟩;have:=hr.1.cells (g:=g) rfl j (ptV l[j]) (by unfold pts;rw[cx,az z];rfl);rw[aO,aK]at this;exact this
def pw(w:World)(S g c n:Nat):Prop:=∃s P,w.heap[S]? =some (.cells #[.string s,.func (.func 142) #[] #[ptr P 0]] 208 (0,0))∧w.heap[P]? =some (.cells #[.iface 304 (.slice (some ⟨g,0,none⟩) n c)] 297 (0,0))
theorem pw.upd{w w':World}{S g c n:Nat}(h:pw w S g c n)(hu:Upd [] w w'):pw w' S g c n:=by obtain⟨s,P,h1,d⟩:=h;exact⟨s,P,hu.blk h1 (by simp),hu.blk d (by simp)⟩
def NlQ(w:World)(g c n:Nat)(e:Ending)(w':World):Prop:=∃S,e=.returned (ptr S 0)∧pw w' S g c n∧Upd [] w w'
theorem Cv(w:World)(s:ByteArray)(g c n:Nat):Calls prog 76 #[.agg #[.string s],.slice (some ⟨g,0,none⟩) n c] w (NlQ w g c n):=by
 obtain⟨w1,d⟩:∃x,x=w.alloc (.cells #[.string s] 135 (0,0)):=⟨_,rfl⟩;obtain⟨A,U⟩:∃A,A=w.heap.size:=⟨_,rfl⟩;have F:w1.heap[A]? =some (.cells #[.string s] 135 (0,0)):=by rw[d,U];exact an _
 obtain⟨w2,z⟩:∃x,x=w1.alloc (.cells #[.iface 304 (.slice (some ⟨g,0,none⟩) n c)] 297 (0,0)):=⟨_,rfl⟩;obtain⟨P,hP⟩:∃P,P=w1.heap.size:=⟨_,rfl⟩;have G:w2.heap[P]? =some (.cells #[.iface 304 (.slice (some ⟨g,0,none⟩) n c)] 297 (0,0)):=by rw[z,hP];exact an _
 have O:Upd [] w w1:=by rw[d];exact(ae _).alloc _
 have D:Upd [] w1 w2:=by rw[z];exact(ae _).alloc _
 have W:=aa (O.then D (by simp));have a0:=af (D.blk F (by simp)) 0;have V:=aa G;have ad:∀(fn:Fn) (first cap:Array Value) (w:World),(Instr.makeFunc fn first cap).run prog w=.ok (.func fn first cap) w:=fun _ _ _ _=>rfl;clear O D F G;go_enter func76,ntmps76
 go_upto_region 1 with fail
 rw[←U];rw[←d];clear U d;go_upto_region 2 with fail
 rw[←hP];rw[←z];clear hP z;go_wp2_with fail;go_ret;exact⟨_,rfl,⟨s,P,an _,by rw[eB _ (lt_of_block V.o)];exact V.o⟩,W.o.alloc _⟩
def SrQ(w:World)(l:List (Int×Nat))(e:Ending)(w':World):Prop:=∃S g c,e=.returned (.iface 203 (ptr S 0))∧pw w' S g c l.length∧PtR w' g l∧w.heap.size≤g∧g<w'.heap.size∧Upd [] w w'
theorem ED(w:World)(v:Value)(l:List (Int×Nat))(h:pu w v l)(hl:l.length≤10)(h0:0<l.length):Calls prog 36 #[.agg #[.slice none 0 0,v]] w (SrQ w l):=by
 obtain⟨w1,D⟩:∃x,x=w.alloc (.cells #[.slice none 0 0,v] 104 (0,0)):=⟨_,rfl⟩;obtain⟨A,hA⟩:∃A,A=w.heap.size:=⟨_,rfl⟩;have hb:w1.heap[A]? =some (.cells #[.slice none 0 0,v] 104 (0,0)):=by rw[D,hA];exact an _
 have F:Upd [] w w1:=by rw[D];exact(ae _).alloc _
 have ad:=aa F;have KP:Hid (∀w',Upd [] w1 w'→w'.cell? ⟨A,0,none⟩=some (.slice none 0 0)∧w'.cell? ⟨A,1,none⟩=some v):=aa fun w' hu=>⟨hu.cell (by simp) (af hb 0),hu.cell (by simp) (af hb 1)⟩;have KM:Hid (∀w',Upd [] w1 w'→Calls prog 50 #[.slice none 0 0] w' fun e z=>∃s:ByteArray,e=.returned (.agg #[.string s])∧Upd [] w1 z∧Hid (Upd [] w' z)):=aa fun w' hu=>(Fp w').mono fun e z hq=>by obtain⟨s,h1,W⟩:=hq;exact⟨s,h1,hu.then W (by simp),aa W⟩
 have KT:Hid (∀w',Upd [] w1 w'→Calls prog 75 #[v] w' fun e z=>∃g c,e=.returned (.slice (some ⟨g,0,none⟩) l.length c)∧Hid (PtR z g l∧w.heap.size≤g∧g<z.heap.size)∧Upd [] w1 z):=aa fun w' hu=>(Cz w' v l (h.upd (F.then hu (by simp))) hl h0).mono fun e z hq=>by obtain⟨g,c,h1,W,h3,h4,h5⟩:=hq;exact⟨g,c,h1,aa ⟨W,by have:=hu.size;have:=F.size;omega,h4⟩,hu.then h5 (by simp)⟩
 obtain⟨vb,vo,vc,rfl,-⟩:=h;obtain⟨n,hn⟩:∃n,n=l.length:=⟨_,rfl⟩;rw[←hn]at KP KT D;rw[←hn];have HN:=aa hn;clear F hb hn hl h0;go_enter func36,ntmps36
 go_upto_region 1 with fail
 rw[←hA];rw[←D];clear hA D
 go_region_held3 (fun w'=>w'.cell? ⟨A,0,none⟩=some (.slice none 0 0)∧w'.cell? ⟨A,1,none⟩=some (.slice (some ⟨vb,vo,none⟩) n vc)) (exact KP.o _ (by with_reducible ((repeat' (first|exact ae _|assumption|refine aG ?_|refine aE ?_ _|refine aC ?_ _))<;>fail))) (first
  |(go_at_call 50;refine(KM.o _ (by with_reducible ((repeat' (first|exact ae _|assumption|refine aG ?_|refine aE ?_ _|refine aC ?_ _))<;>fail))).mono ?_;rintro e w3 ⟨s,rfl,G4,O⟩)
  |(go_at_call 75;refine(KT.o _ (by with_reducible ((repeat' (first|exact ae _|assumption|refine aG ?_|refine aE ?_ _|refine aC ?_ _))<;>fail))).mono ?_;rintro e w4 ⟨g,c,rfl,HG,a0⟩)
  |(go_at_call 76;refine(Cv _ s g c n).mono ?_;intro e w5 a1;obtain⟨S,rfl,hS,d⟩:=a1;have HS:=aa hS;have U:=aa d;have V:Upd [] w1 w5:=Upd.then (b:=_) (by with_reducible ((repeat' (first|exact ae _|assumption|refine aG ?_|refine aE ?_ _|refine aC ?_ _))<;>fail)) d (by simp);clear hS)
  |fail)
 all_goals
  have HP:Hid (Upd [] w4 w5):=aa (by
   have G:=O.o;have d:=U.o
   first
    |exact d
    |exact((ae _).drew).then d (by simp)
    |exact G.then d (by simp)
    |exact(((ae _).drew).then G (by simp)).then d (by simp)
    |exact(G.then ((ae _).drew) (by simp)).then d (by simp)
    |exact((((ae _).drew).then G (by simp)).then ((ae _).drew) (by simp)).then d (by simp)
    |fail)
  have a2:=aa V;clear G4 a0 V O U;go_wp2_with fail;go_ret;exact⟨S,g,c,rfl,by rw[←HN.o];exact HS.o,HG.o.1.upd HP.o,HG.o.2.1,by have:=HP.o.size;have:=HG.o.2.2;omega,ad.o.then a2.o (by simp)⟩
def Dx(w:World)(g c n:Nat)(e:Ending)(w':World):Prop:=∃X,e=.returned (lsV X)∧w'.heap[X]? =some (.cells #[.iface 304 (.slice (some ⟨g,0,none⟩) n c),.int .i64 (-1)] 300 (0,0))∧w.heap.size≤X∧Upd [] w w'
theorem El(w:World)(g c n:Nat):Calls prog 74 #[.iface 304 (.slice (some ⟨g,0,none⟩) n c)] w (Dx w g c n):=by
 go_enter func74,ntmps74
 go_wp2_with fail;go_ret;exact⟨_,rfl,an _,aw _,(ae _).alloc _⟩
theorem FC(w:World)(P g c n:Nat)(h:w.heap[P]? =some (.cells #[.iface 304 (.slice (some ⟨g,0,none⟩) n c)] 297 (0,0))):Calls prog 142 #[.nilIface,ptr P 0] w (Dx w g c n):=by
 have A:∀w,(Instr.typeAssert .nilIface 93 298 true).run prog w=.ok (.tuple #[.pointer none,.bool false]) w:=fun w=>by kernel_rfl
 have D:=af h 0;clear h;go_enter func142,ntmps142
 go_wp2_with fail;refine(El w g c n).mono ?_;intro e w1 hq;obtain⟨X,rfl,h1,d,z⟩:=hq;have H:=aa (And.intro h1 (And.intro d z));clear h1 d z;go_wp2_with fail;go_ret;exact⟨_,rfl,H.o⟩
theorem CG(w:World)(S g c n:Nat)(h:pw w S g c n):Calls prog 308 #[ptr S 0,.nilIface] w (Dx w g c n):=by
 obtain⟨s,P,h1,d⟩:=h;have K:=aa (FC w P g c n d);have c1:=af h1 1;clear h1 d;go_enter func308,ntmps308
 go_wp2_with fail;refine K.o.mono ?_;intro e w1 hq;obtain⟨X,rfl,h1,d,z⟩:=hq;have H:=aa (And.intro h1 (And.intro d z));clear h1 d z K;go_wp2_with fail;go_ret;exact⟨_,rfl,H.o⟩
def ChS(T:Nat)(w:World)(C B X1 X2 g1 g2 c1 c2:Nat):Nat→Prop
 |0=>Cm T w C B X1 X2 g1 g2 c1 c2 (.slice none 0 0) .nilIface (-9223372036854775808) false (-1) (-1)
 |1=>∃hv,Cm T w C B X1 X2 g1 g2 c1 c2 hv (lsV X1) 1 false 0 0∧HvR T w C B X1 X2 g1 g2 hv [X2]
 |2=>∃G c,Cm T w C B X1 X2 g1 g2 c1 c2 (.slice (some ⟨G,0,none⟩) 1 c) (lsV X2) 2 false 1 0∧HvP T w C B X1 X2 g1 g2 G c [X1]
 |3=>∃G c,Cm T w C B X1 X2 g1 g2 c1 c2 (.slice (some ⟨G,0,none⟩) 0 c) (lsV X1) 3 false 1 1
 |_=>∃G c,Cm T w C B X1 X2 g1 g2 c1 c2 (.slice (some ⟨G,0,none⟩) 0 c) .nilIface 3 false 2 1
section
variable {T k:Nat} {w w':World} {C B X1 X2 g1 g2 c1 c2:Nat} {L:List Nat}
theorem ChS.cm':∀{k},ChS T w C B X1 X2 g1 g2 c1 c2 k→∃hv cv lt cb i1 i2,Cm T w C B X1 X2 g1 g2 c1 c2 hv cv lt cb i1 i2
 |0,h=>⟨_,_,_,_,_,_,h⟩
 |1,⟨_,h,_⟩=>⟨_,_,_,_,_,_,h⟩
 |2,⟨_,_,h,_⟩=>⟨_,_,_,_,_,_,h⟩
 |3,⟨_,_,h⟩=>⟨_,_,_,_,_,_,h⟩
 |_+4,⟨_,_,h⟩=>⟨_,_,_,_,_,_,h⟩
theorem ChS.cm(h:ChS T w C B X1 X2 g1 g2 c1 c2 k):∃hv cv lt cb i1 i2,Cm T w C B X1 X2 g1 g2 c1 c2 hv cv lt cb i1 i2:=ChS.cm' h
theorem HpR.ne53{G b t:Nat}{ys:List Nat}{cs:Array Value}(h:HpR w G ys)(hb:w.heap[b]? =some (.cells cs t (0,0)))(d:93≠t):b≠G:=by obtain⟨c,h1,_⟩:=h;exact(vZ h1 hb d).symm
theorem ChS.upd'{t:Nat}(hu:Upd L w w')(hL:∀b∈L,b∉[C,B,X1,X2,g1,g2])(z:∀b∈L,∃cs,w.heap[b]? =some (.cells cs t (0,0)))(A:93≠t):∀{k},ChS T w C B X1 X2 g1 g2 c1 c2 k→ChS T w' C B X1 X2 g1 g2 c1 c2 k
 |0,h=>Cm.upd h hu hL
 |1,⟨hv,h,hR⟩=>by refine⟨hv,h.upd hu hL,?_⟩;obtain⟨G,c,wb,rfl,e1,hr,e3,e4,D⟩:=hR;refine⟨G,c,wb,rfl,e1,hr.upd hu (fun b hb e=>?_),aW e3 hu.size,e4,D⟩;simp only[Value.ownBlock,aM]at e;obtain⟨cs,d⟩:=z b hb;exact(HpR.of hr).1.ne53 d A e.symm
 |2,⟨G,c,h,hP⟩=>by refine⟨G,c,h.upd hu hL,⟨hP.row.upd hu (fun hm=>?_),hP.cap,hP.ge,hP.nin⟩⟩;obtain⟨cs,d⟩:=z G hm;exact hP.row.ne53 d A rfl
 |3,⟨G,c,h⟩=>⟨G,c,h.upd hu hL⟩
 |_+4,⟨G,c,h⟩=>⟨G,c,h.upd hu hL⟩
theorem ChS.upd{t:Nat}(h:ChS T w C B X1 X2 g1 g2 c1 c2 k)(hu:Upd L w w')(hL:∀b∈L,b∉[C,B,X1,X2,g1,g2])(d:∀b∈L,∃cs,w.heap[b]? =some (.cells cs t (0,0)))(z:93≠t):ChS T w' C B X1 X2 g1 g2 c1 c2 k:=ChS.upd' hu hL d z h
theorem ChS.nw(h:ChS T w C B X1 X2 g1 g2 c1 c2 k)(hu:Upd [] w w'):ChS T w' C B X1 X2 g1 g2 c1 c2 k:=h.upd (t:=0) hu (by simp) (by simp) (by decide)
end
def E0(T:Nat)(w:World)(C B X1 X2 g1 g2 c1 c2 k:Nat)(v:Int)(e:Ending)(w':World):Prop:=e=.returned (.int .u8 v)∧ChS T w' C B X1 X2 g1 g2 c1 c2 (k+1)∧jx T [C,B,X1,X2,g1,g2] w w'
theorem DL(T:Nat)(w:World)(C B X1 X2 g1 g2 c1 c2 k:Nat)(d:k<3)(h:ChS T w C B X1 X2 g1 g2 c1 c2 k)(hT:T≤w.heap.size):Calls prog 295 #[ptr C 0] w (E0 T w C B X1 X2 g1 g2 c1 c2 k 1):=by
 match k,d,h with
 |0,_,h=>exact(BQ T w C B X1 X2 g1 g2 c1 c2 h hT).mono fun e w' hq=>⟨hq.1,hq.2.1,hq.2.2⟩
 |1,_,⟨hv,h,hR⟩=>exact(BS T w C B X1 X2 g1 g2 c1 c2 hv h hR).mono fun e w' hq=>⟨hq.1,hq.2.1,hq.2.2⟩
 |2,_,⟨G,c,h,hP⟩=>exact(BT T w C B X1 X2 g1 g2 c1 c2 G c h hP).mono fun e w' hq=>⟨hq.1,hq.2.1,hq.2.2⟩
theorem BV(T:Nat)(w:World)(C B X1 X2 g1 g2 c1 c2:Nat)(h:ChS T w C B X1 X2 g1 g2 c1 c2 3):Calls prog 295 #[ptr C 0] w (E0 T w C B X1 X2 g1 g2 c1 c2 3 0):=by obtain⟨G,c,h⟩:=h;exact(BU T w C B X1 X2 g1 g2 c1 c2 G c h).mono fun e w' hq=>⟨hq.1,hq.2.1,hq.2.2⟩
theorem E6(T:Nat)(w:World)(C B X1 X2 g1 g2 c1 c2 k:Nat)(d:k<3)(h:ChS T w C B X1 X2 g1 g2 c1 c2 (k+1)):Calls prog 290 #[ptr C 0] w fun e w'=>e=.returned (.tuple #[.int .i64 ((k:Int)+1),.float .f64 (k+1)])∧Upd [] w w':=by
 match k,d,h with
 |0,_,⟨hv,h,hR⟩=>exact DK w C X1 g1 c1 0 L1 h.cells.2.2.1 h.l1 (by decide) 1 1 rfl
 |1,_,⟨G,c,h,hR⟩=>exact DK w C X2 g2 c2 0 L2 h.cells.2.2.1 h.l2 (by decide) 2 2 rfl
 |2,_,⟨G,c,h⟩=>exact DK w C X1 g1 c1 1 L1 h.cells.2.2.1 h.l1 (by decide) 3 3 rfl
def oY(j:Nat):List Value:=if j<3 then[.int .i64 1,.int .i64 ((j:Int)+1),.int .u64 ((j:Int)+1)]else[.int .i64 0,.int .i64 0,.int .u64 0]
def ly:Nat→List Value
 |0=>[]
 |k+1=>ly k++oY k
def qJ(T:Nat)(w:World)(v:Value):Prop:=∃q o c,v=.slice (some ⟨q,o,none⟩) 4 c∧q<T∧∀j,j<4→w.cell? ⟨q,o+j*2,none⟩=some (.bool false)∧w.cell? ⟨q,o+j*2+1,none⟩=some (.int .i64 0)
theorem Cn(v:Value)(w:World):(method 616 194 v "Next").run prog w=.ok (295,v) w:=by kernel_rfl
theorem Fm(v:Value)(w:World):(method 616 194 v "At").run prog w=.ok (290,v) w:=by kernel_rfl
theorem Ec(v:Value)(w:World):(method 616 194 v "Err").run prog w=.ok (294,v) w:=by kernel_rfl
theorem Tryz.info53:(Tryz.prog.info? 53).map (fun i=>(i.zero,i.size,i.bytes))=some (some (.agg #[.int .i64 0,.int .i64 0,.int .u64 0]),3,24):=by kernel_rfl
abbrev chV(C:Nat):Value:=.iface 194 (ptr C 0)
def PlQ(T:Nat)(w:World)(C B X1 X2 g1 g2 c1 c2:Nat)(e:Ending)(w':World):Prop:=∃v,e=.returned v∧aP w w' 53 3 4 v (ly 4)∧ChS T w' C B X1 X2 g1 g2 c1 c2 4∧Below T w w'
theorem Es(T:Nat)(w:World)(v:Value)(C B X1 X2 g1 g2 c1 c2:Nat)(h:ChS T w C B X1 X2 g1 g2 c1 c2 0)(hv:qJ T w v)(hT:T≤w.heap.size):Calls prog 40 #[chV C,v] w (PlQ T w C B X1 X2 g1 g2 c1 c2):=by
 obtain⟨i0,hi,bA,bB,bE⟩:=info_parts Tryz.info53;have HI:=aa (And.intro hi (And.intro bA (And.intro bB bE)));clear hi bA bB bE;obtain⟨q,o,c,rfl,hq,hc⟩:=hv;have HC:=aa hc;have H0:=aa (And.intro h (And.intro hT hq));have mN:=Cn;have mA:=Fm;clear h hc;go_enter func40,ntmps40
 go_wp2_with fail;go_loopg [4,13] 4 (fun gg s4 b5 wx=>∃k:Nat,b5=.int .i64 k∧Hid (gg+k=4)∧Hid (aP w wx 53 3 k s4 (ly k)∧ChS T wx C B X1 X2 g1 g2 c1 c2 k∧Below T w wx))
 case atStart=>exact⟨0,rfl,aa rfl,aa ⟨er,H0.o.1,Below.refl _ _⟩⟩
 case round=>
  obtain⟨k,rfl,Hi,O⟩:=hrel;by_cases bK:k<4
  ·have k0:=(show wr.cell? ⟨q,o+k*2,none⟩=w.cell? ⟨q,o+k*2,none⟩from O.o.2.2.cell hq).trans (HC.o k bK).1;have k1:=(show wr.cell? ⟨q,o+k*2+1,none⟩=w.cell? ⟨q,o+k*2+1,none⟩from O.o.2.2.cell hq).trans (HC.o k bK).2;obtain⟨wa,a5⟩:∃x,x=wr.alloc (.cells #[.bool false,.int .i64 0] 47 (0,0)):=⟨_,rfl⟩;have bg:wa.cell? ⟨wr.heap.size,0,none⟩=some (.bool false):=by rw[a5];exact af (an _) 0
   obtain⟨A,hA⟩:∃A,A=wr.heap.size:=⟨_,rfl⟩;rw[←hA]at bg;have G:Hid (Upd [] wr wa):=aa (by rw[a5];exact(ae _).alloc _);have cc:(0:Int)≤(k:Int):=by omega
   have cg:(k:Int)<4:=by omega
   go_upto_region 5 with fail
   rw[←hA];rw[←a5];clear hA a5 k0 k1;have be:Hid (∀b∈[C,B,X1,X2,g1,g2],b<w.heap.size):=aa (by obtain⟨_,_,_,_,_,_,h⟩:=H0.o.1.cm;exact fun b hb=>(h.new b hb).2)
   have a1:Hid (∀b,u4.ownBlock=some b→b∉[C,B,X1,X2,g1,g2]):=aa fun b hb hm=>by have:=O.o.1.2 b hb;have:=be.o b hm;omega
   have bL:T≤wa.heap.size:=aW H0.o.2.1 (aW O.o.2.2.size G.o.size);have a2:=aa bL;clear bL;by_cases bl:k<3
   ·go_wp2_with fail;refine(DL T wa C B X1 X2 g1 g2 c1 c2 k bl (O.o.2.1.nw G.o) a2.o).mono ?_;intro e w5 bn;obtain⟨rfl,a3,d⟩:=bn;obtain⟨wb,F⟩:∃x,x=w5.alloc (.cells #[.int .i64 1,.int .i64 0,.int .u64 0] 53 (0,0)):=⟨_,rfl⟩;obtain⟨D,hD⟩:∃D,D=w5.heap.size:=⟨_,rfl⟩;have U:wb.heap[D]? =some (.cells #[.int .i64 1,.int .i64 0,.int .u64 0] 53 (0,0)):=by rw[F,hD];exact an _
    have z:Upd [] w5 wb:=by rw[F];exact(ae _).alloc _
    have a6:=aa (d.row (O.o.1.upd G.o (by simp)) (by decide) a1.o);have bM:=aa (a3.nw z);have b6:=aa (O.o.2.2.trans ((G.o.below (aW H0.o.2.1 O.o.2.2.size) (by simp)).trans (d.bel.trans (z.below (aW a2.o d.bel.size) (by simp)))));have b7:=aa (a6.o.upd z (by simp));have b8:=aa U;have b9:Hid (T≤D∧D∉[C,B,X1,X2,g1,g2]):=aa ⟨by rw[hD];have:=d.bel.size;have:=a2.o;omega,fun hm=>by have h1:=be.o D hm;have h2:=O.o.2.2.size;have h3:=G.o.size;have h4:=d.bel.size;omega⟩
    have ca:Hid (D∉u4.ownBlock.toList):=aa (fun hm=>by have:=a6.o.lt D (by simpa using hm);omega);have bO:T≤wb.heap.size:=by have:=z.size;have:=d.bel.size;have:=a2.o;omega
    have bR:=aa bO;clear a3 d z U bO bg;go_upto_region 9 with fail
    rw[←hD];rw[←F];clear hD F;go_wp2_with fail;refine(E6 T wb C B X1 X2 g1 g2 c1 c2 k bl bM.o).mono ?_;rintro e w6 ⟨rfl,br⟩;have a7:=aa br;have V:=br.blk b8.o (by simp);have d0:=af V 0;have d1:=af V 1;have d2:=af V 2;have f1:=ao V 1;have f2:=ao V 2;have bS:=aa V;clear br V;go_wp2_with fail;refine(DF (k+1) w6).mono ?_;rintro e w7 ⟨rfl,rfl⟩;go_upto_region 12 with fail
    obtain⟨w8,a9⟩:∃x,x=(w7.setCell ⟨D,1,none⟩ (.int .i64 ((k:Int)+1))).setCell ⟨D,2,none⟩ (.int .u64 ((k:Int)+1)):=⟨_,rfl⟩;rw[←a9];have bb:Upd [D] w7 w8:=by rw[a9];exact(((ae _).mono (by simp)).setCell (by simp) _).setCell (by simp) _
    have bd:w8.heap[D]? =some (.cells #[.int .i64 1,.int .i64 ((k:Int)+1),.int .u64 ((k:Int)+1)] 53 (0,0)):=by rw[a9];exact au (au bS.o 1 _) 2 _
    have W:=aa ((b7.o.upd a7.o (by simp)).upd bb (fun b hb e=>ca.o (by simp only[ah,ai,or_false]at hb;subst hb;simpa using e)));have bW:Hid (T≤D∧D∉[C,B,X1,X2,g1,g2]):=aa b9.o;have bv:=aa ((bM.o.nw a7.o).upd (t:=53) bb (fun b hb=>by simp only[ah,ai,or_false]at hb;subst hb;exact bW.o.2) (fun b hb=>by simp only[ah,ai,or_false]at hb;subst hb;exact⟨_,bS.o⟩) (by decide));have ad:=aa (b6.o.trans ((a7.o.below bR.o (by simp)).trans (bb.below (aW bR.o a7.o.size) (fun b hb=>by simp only[ah,ai,or_false]at hb;subst hb;exact bW.o.1))));obtain⟨v',w9,a4,G3,a0,bw⟩:=jH (P:=prog) 49 53 i0 _ 3 24 underlying49 HI.o.1 HI.o.2.1 HI.o.2.2.1 HI.o.2.2.2 rfl (by decide) W.o ((ae w8).alloc (.cells #[.int .i64 1,.int .i64 ((k:Int)+1),.int .u64 ((k:Int)+1)] 53 (0,0))) [.int .i64 1,.int .i64 ((k:Int)+1),.int .u64 ((k:Int)+1)] rfl (by simp[Value.oneCell']) w8.heap.size 53 (an _) (by have:=ad.o.size;exact this) (by unfold maxLen;omega) (by omega);have e0:=af bd 0;have e1:=af bd 1;have e2:=af bd 2;have HX:Hid (aP w w9 53 3 (k+1) v' (ly (k+1))∧ChS T w9 C B X1 X2 g1 g2 c1 c2 (k+1)∧Below T w w9):=aa (by refine⟨by rw[show ly (k+1)=ly k++oY k from rfl,show oY k=[.int .i64 1,.int .i64 ((k:Int)+1),.int .u64 ((k:Int)+1)]from if_pos bl];exact G3.o,bv.o.upd (t:=53) a0.o (fun b hb=>a1.o b (by simpa using hb)) (fun b hb=>jS W.o b hb) (by decide),ad.o.trans (a0.o.below (aW H0.o.2.1 ad.o.size) (fun b hb=>?_))⟩;have:=W.o.2 b (by simpa using hb);have:=H0.o.2.1;omega)
    clear a9 bb bd G3 a0 bw d0 d1 d2 f1 f2;go_wp2_with (at_builtin;refine bc rfl _ _ _ rfl _ _ _ _ rfl rfl a4.o ?_);go_roundg (4-(k+1))
    case measure=>have:=Hi.o;omega
    case rel=>exact⟨k+1,by simp,aa (by have:=Hi.o;omega),HX⟩
   ·obtain rfl:k=3:=by omega
    go_wp2_with fail;refine(BV T wa C B X1 X2 g1 g2 c1 c2 (O.o.2.1.nw G.o)).mono ?_;intro e w5 bn;obtain⟨rfl,a3,d⟩:=bn;obtain⟨wb,F⟩:∃x,x=w5.alloc (.cells #[.int .i64 0,.int .i64 0,.int .u64 0] 53 (0,0)):=⟨_,rfl⟩;obtain⟨D,hD⟩:∃D,D=w5.heap.size:=⟨_,rfl⟩;have U:wb.heap[D]? =some (.cells #[.int .i64 0,.int .i64 0,.int .u64 0] 53 (0,0)):=by rw[F,hD];exact an _
    have z:Upd [] w5 wb:=by rw[F];exact(ae _).alloc _
    have a6:=aa (d.row (O.o.1.upd G.o (by simp)) (by decide) a1.o);have bv:=aa (a3.nw z);have ad:=aa (O.o.2.2.trans ((G.o.below (aW H0.o.2.1 O.o.2.2.size) (by simp)).trans (d.bel.trans (z.below (aW a2.o d.bel.size) (by simp)))));have W:=aa (a6.o.upd z (by simp));obtain⟨v',w9,a4,G3,a0,bw⟩:=jH (P:=prog) 49 53 i0 _ 3 24 underlying49 HI.o.1 HI.o.2.1 HI.o.2.2.1 HI.o.2.2.2 rfl (by decide) W.o ((ae wb).alloc (.cells #[.int .i64 0,.int .i64 0,.int .u64 0] 53 (0,0))) [.int .i64 0,.int .i64 0,.int .u64 0] rfl (by simp[Value.oneCell']) wb.heap.size 53 (an _) (by have:=ad.o.size;exact this) (by unfold maxLen;omega) (by omega);have e0:=af U 0;have e1:=af U 1;have e2:=af U 2;have HX:Hid (aP w w9 53 3 4 v' (ly 4)∧ChS T w9 C B X1 X2 g1 g2 c1 c2 4∧Below T w w9):=aa (by refine⟨G3.o,bv.o.upd (t:=53) a0.o (fun b hb=>a1.o b (by simpa using hb)) (fun b hb=>jS W.o b hb) (by decide),ad.o.trans (a0.o.below (aW H0.o.2.1 ad.o.size) (fun b hb=>?_))⟩;have:=W.o.2 b (by simpa using hb);have:=H0.o.2.1;omega)
    clear a3 d z U bg G3 a0 bw;go_upto_region 9 with fail
    rw[←hD];rw[←F];clear hD F;go_wp2_with (at_builtin;refine bc rfl _ _ _ rfl _ _ _ _ rfl rfl a4.o ?_);refine bodyPost_ret (v:=v') (by simp[results,results40]) rfl ⟨_,rfl,HX.o⟩
  ·obtain rfl:k=4:=by have:=Hi.o;omega
   go_wp2_with fail;refine bodyPost_ret (v:=u4) (by simp[results,results40]) rfl ⟨_,rfl,O.o.1,O.o.2.1,O.o.2.2⟩
def sj(w:World)(v:Value)(d:List (List (Int×Nat))):Prop:=∃q o c,v=.slice (some ⟨q,o,none⟩) d.length c∧∀i (h:i<d.length),∃u,w.cell? ⟨q,o+i,none⟩=some u∧pu w u d[i]
theorem sj.upd{w w':World}{v:Value}{d:List (List (Int×Nat))}(h:sj w v d)(hu:Upd [] w w'):sj w' v d:=by obtain⟨q,o,c,rfl,h⟩:=h;refine⟨q,o,c,rfl,fun i z=>?_⟩;obtain⟨u,h1,A⟩:=h i z;exact⟨u,hu.cell (by simp) h1,A.upd hu⟩
theorem Fb(a b:Int)(m k:Nat)(w:World):(binOp .eql 43 (.agg #[.int .i64 a,.int .u64 m]) (.agg #[.int .i64 b,.int .u64 k])).run prog w=.ok (.bool (decide (a=b∧m=k))) w:=by
 have d:Tryz.prog.underlying 43=some (.struct (Tryz.prog.fieldsOf 43)):=by kernel_rfl
 have z:Tryz.prog.stoodInHeld 43=false:=by kernel_rfl
 have e:(Tryz.prog.fieldsOf 43).toList.map (fun f=>(f.name,f.type,f.offset))=[("T",2,0),("V",41,1)]:=by kernel_rfl
 have A:∀(x y:Value) (w:World),(part 2 #[x,y] 0).run prog w=.ok x w:=fun x y w=>by kernel_rfl
 have D:∀(x y:Value) (w:World),(part 41 #[x,y] 1).run prog w=.ok y w:=fun x y w=>by kernel_rfl
 have F:∀w,(Op.equalIn 9999 2 (.int .i64 a) (.int .i64 b)).run prog w=.ok (a==b) w:=fun w=>run_equalIn_int _ 9998 _ _ _ a b underlying2;have G:∀w,(Op.equalIn 9999 41 (.int .u64 m) (.int .u64 k)).run prog w=.ok (((m:Int))==(k:Int)) w:=fun w=>run_equalIn_int _ 9998 _ _ _ (m:Int) (k:Int) underlying41;rw[run_eql_struct,run_equalIn_struct _ 9999 _ _ _ d z];generalize (Tryz.prog.fieldsOf 43).toList=O at e;rcases O with _|⟨x1,_|⟨x2,_|⟨x3,r⟩⟩⟩
 ·simp at e
 ·simp at e
 ·simp only[aN,cQ,dS,cW,and_true]at e;obtain⟨⟨U,t1,V⟩,W,t2,o2⟩:=e;simp only[Op.eqFields,U,t1,V,W,t2,o2,eI,Sem.run_ite,A,D,F,G,fi,ne_eq,gX];have hc:((m:Int)==(k:Int))=decide (m=k):=by rw[dR,beq_iff_eq,decide_eq_true_iff];omega
  rw[hc];by_cases h1:a=b<;>by_cases h2:m=k<;>simp[h1,h2]
 ·simp at e
theorem ya(w:World)(v:Value)(D:List (List (Int×Nat)))(x:Int×Nat)(h:sj w v D)(hl:D.length≤10)(O:∀l∈D,l.length≤10)(hx:∃l∈D,x∈l):Calls prog 43 #[v,.agg #[.int .i64 x.1,.int .u64 (x.2:Nat)]] w fun e w'=>e=.returned (.bool true)∧Upd [] w w':=by
 obtain⟨q,o,c,rfl,hc⟩:=h;obtain⟨t,ht⟩:∃t,t=x.1:=⟨_,rfl⟩;obtain⟨m,hm⟩:∃t,t=x.2:=⟨_,rfl⟩;rw[←ht,←hm];obtain⟨n,hn⟩:∃n,n=D.length:=⟨_,rfl⟩;rw[←hn]at hl;rw[←hn];obtain⟨w1,F⟩:∃x,x=w.alloc (.cells #[.int .i64 t,.int .u64 (m:Nat)] 43 (0,0)):=⟨_,rfl⟩;obtain⟨A,hA⟩:∃A,A=w.heap.size:=⟨_,rfl⟩;have hb:w1.heap[A]? =some (.cells #[.int .i64 t,.int .u64 (m:Nat)] 43 (0,0)):=by rw[F,hA];exact an _
 have U:Hid (Upd [] w w1):=aa (by rw[F];exact(ae _).alloc _);have HB:=aa hb;have H:=aa (And.intro hc (And.intro hx (And.intro ht (And.intro hm (And.intro hn O)))));clear hc hx ht hm hn hb O;have hes:=Fb;go_enter func43,ntmps43
 go_upto_region 2 with fail
 rw[←hA];rw[←F];clear hA F;go_wp2_with fail;go_loopg [5] n (fun gg s5 wx=>∃i:Nat,s5=.int .i64 i∧Hid (gg+i=n)∧Hid (Upd [] w1 wx∧∀j (h:j<D.length),j<i→x∉D[j]))
 case atStart=>exact⟨0,rfl,aa (by omega),aa ⟨ae _,fun _ _ h=>by omega⟩⟩
 case round=>
  obtain⟨i,rfl,Hi,HS⟩:=hrel;by_cases a0:i<n
  ·have Hf:i<D.length:=by have:=H.o.2.2.2.2.1;omega
   obtain⟨u,k0,hu⟩:=H.o.1 i Hf;obtain⟨a,b,d,rfl,hs⟩:=hu;obtain⟨z,hz⟩:∃z,z=D[i].length:=⟨_,rfl⟩;rw[←hz]at k0;have ad:z≤10:=by rw[hz];exact H.o.2.2.2.2.2 _ (aq Hf)
   have V:=aa (And.intro hz (And.intro hs k0));have a1:(0:Int)≤(i:Int):=by omega
   have a2:(i:Int)<(n:Int):=by omega
   clear hz hs k0;go_wp2_with fail;go_loopg [6] z (fun gg s6 wx=>∃k:Nat,s6=.int .i64 k∧Hid (gg+k=z)∧Hid (Upd [] w1 wx∧∀j (h:j<D[i].length),j<k→x≠D[i][j]))
   case atStart=>exact⟨0,rfl,aa (by omega),aa ⟨HS.o.1,fun _ _ h=>by omega⟩⟩
   case round=>
    obtain⟨k,rfl,Hk,G⟩:=hrel;have hU:=U.o.then G.o.1 (by simp);have k1:=hU.cell (by simp) V.o.2.2;by_cases a3:k<z
    ·have W:k<D[i].length:=by have:=V.o.1;omega
     have r0:=hU.cell (by simp) (V.o.2.1 k W).1;have r1:=hU.cell (by simp) (V.o.2.1 k W).2;have x0:=af (G.o.1.blk HB.o (by simp)) 0;have x1:=af (G.o.1.blk HB.o (by simp)) 1;obtain⟨t2,ht2⟩:∃t2,t2=D[i][k].1:=⟨_,rfl⟩;obtain⟨m2,hm2⟩:∃t2,t2=D[i][k].2:=⟨_,rfl⟩;rw[←ht2]at r0;rw[←hm2]at r1;have HM:=aa (And.intro ht2 hm2);have a4:(0:Int)≤(k:Int):=by omega
     have a5:(k:Int)<(z:Int):=by omega
     clear ht2 hm2 hU;go_upto_region 7 with fail
     go_quiet (fail)
     by_cases heq:t2=t∧m2=m
     ·obtain⟨rfl,rfl⟩:=heq;go_wp2_with fail;go_ret;exact⟨rfl,(U.o.then G.o.1 (by simp)).drewN _⟩
     ·go_wp2_with fail;go_roundg (z-(k+1))
      case measure=>have:=Hk.o;omega
      case rel=>
       refine⟨k+1,by simp,aa (by have:=Hk.o;omega),aa ⟨G.o.1.drewN _,fun j hj a6=>?_⟩⟩;by_cases e:j=k
       ·subst e;intro e;exact heq ⟨by rw[HM.o.1,←e,H.o.2.2.1],by rw[HM.o.2,←e,H.o.2.2.2.1]⟩
       ·exact G.o.2 j hj (by omega)
    ·obtain rfl:z=k:=by have:=Hk.o;omega
     go_wp2_with fail;go_roundg (n-(i+1))
     case measure=>have:=Hi.o;omega
     case rel=>
      refine⟨i+1,by simp,aa (by have:=Hi.o;omega),aa ⟨G.o.1,fun j hj a7=>?_⟩⟩;by_cases e:j=i
      ·subst e;intro hm;obtain⟨p,hp,e⟩:=aQ hm;exact G.o.2 p hp (by have:=V.o.1;omega) e.symm
      ·exact HS.o.2 j hj (by omega)
  ·obtain rfl:n=i:=by have:=Hi.o;omega
   obtain⟨l,hl,hx⟩:=H.o.2.1;obtain⟨j,hj,rfl⟩:=aQ hl;exact absurd hx (HS.o.2 j hj (by have:=H.o.2.2.2.2.1;omega))
def Cy:Nat→List Value
 |0=>[]
 |k+1=>Cy k++[.int .i64 k]
theorem Tryz.info3b:(Tryz.prog.info? 3).map (fun i=>(i.zero,i.size,i.bytes))=some (some (.int .i64 0),1,8):=by kernel_rfl
def Ga(w:World)(e:Ending)(w':World):Prop:=∃v,e=.returned v∧aP w w' 3 1 4 v (Cy 4)∧Upd [] w w'
theorem AM(T:Nat)(w:World)(b0:Option Addr)(d0:Nat)(v:Value)(hv:qJ T w v):Calls prog 42 #[.slice b0 3 d0,v] w (Ga w):=by
 obtain⟨i0,hi,z,A,D⟩:=info_parts Tryz.info3b;have O:=aa (And.intro hi (And.intro z (And.intro A D)));clear hi z A D;obtain⟨q,o,c,rfl,hq,hc⟩:=hv;have HC:=aa hc;clear hc;go_enter func42,ntmps42
 go_wp2_with fail;go_loopg [5,6,7] 4 (fun gg s5 s6 s7 wx=>∃k:Nat,s7=.int .i64 k∧s6=.int .i64 ((k:Int)-1)∧Hid (gg+k=4∧k<4)∧Hid (aP w wx 3 1 k s5 (Cy k)∧Upd [] w wx))
 case atStart=>exact⟨0,rfl,rfl,aa ⟨rfl,by omega⟩,aa ⟨er,ae _⟩⟩
 case round=>
  obtain⟨k,rfl,rfl,U,F⟩:=hrel;have V:k<4:=U.o.2;have k0:=F.o.2.cell (by simp) (HC.o k V).1;obtain⟨v',w9,d,G3,G,W⟩:=jH (P:=prog) 114 3 i0 _ 1 8 underlying114 O.o.1 O.o.2.1 O.o.2.2.1 O.o.2.2.2 rfl (by decide) F.o.1 ((ae wr).alloc (.cells #[.int .i64 k] 3 (0,0))) [.int .i64 k] rfl (kB rfl) wr.heap.size 3 (an _) F.o.2.size (by unfold maxLen;omega) (by omega);have HX:Hid (aP w w9 3 1 (k+1) v' (Cy (k+1))∧Upd [] w w9):=aa ⟨G3.o,F.o.2.then G.o (fun b hb hl=>by have:=F.o.1.2 b (by simpa using hb);omega)⟩;have a0:(0:Int)≤(k:Int):=by omega
  have a1:(k:Int)<4:=by omega
  have he:(k:Int)-1+1=(k:Int):=by omega
  clear G3 G W;by_cases a2:k<3
  ·have ad:¬(3:Int)≤(k:Int):=by omega
   go_wp2_with (at_builtin;refine bc rfl _ _ _ rfl _ _ _ _ rfl rfl d.o ?_);go_roundg (4-(k+1))
   case measure=>have:=U.o;omega
   case rel=>exact⟨k+1,by simp,by simp,aa ⟨by have:=U.o;omega,by omega⟩,HX⟩
  ·obtain rfl:k=3:=by omega
   go_wp2_with (at_builtin;refine bc rfl _ _ _ rfl _ _ _ _ rfl rfl d.o ?_);refine bodyPost_ret (v:=v') (by simp[results,results42]) rfl ⟨_,rfl,HX.o⟩
end Go.Proofs.YtlgefdfflmgocaaGreatDoor
