import Derived.Test.YtlgefdfflmgocaaGreatDoorQ27
set_option linter.all false
set_option maxRecDepth 100000
set_option maxHeartbeats 4000000
namespace Go.Proofs.YtlgefdfflmgocaaGreatDoor
open Go Go.RowKit Xc Go.Proofs.Tryz
attribute [local go_sem ↓] Go.wp_at_zero Go.wp_at_succ
def NRQ(w:World)(g:Nat)(v:Value)(bs:Bytes)(syms:List Bytes)(gs:List (Bytes×List (Bytes×Nat)))(t5:Nat)(e:Ending)(w':World):Prop:=∃R,e=.returned (.tuple #[ptr R 0,.nilIface])∧RdI w' R g w.heap.size w'.heap.size v bs syms gs t5∧Upd [] w w'
theorem yp(w:World)(v xc:Value)(tc:TypeId)(g:Nat)(bs:Bytes)(syms:List Bytes)(gs:List (Bytes×List (Bytes×Nat)))(t1 t2 t3 t4 t5:Nat)(h:NrH w v g bs syms gs t1 t2 t3 t4 t5):
 Calls prog 114 #[.iface 139 v,.iface tc xc,.func (.func 55) #[] #[]] w (NRQ w g v bs syms gs t5):=by
 have ei:=fp;have ej:=eA;have k8:=iv;have H:=aa h;obtain⟨c0,bM⟩:=h.sym;obtain⟨n,bn⟩:∃n,n=bs.length:=⟨_,rfl⟩;have la:n<1000000:=by rw[bn];exact h.len.1
 have lb:5≤n:=by rw[bn,bM,ab,bq];omega
 have lc:∀(fn:Fn) (first cap:Array Value) (w:World),(Instr.makeFunc fn first cap).run prog w=.ok (.func fn first cap) w:=fun _ _ _ _=>rfl;obtain⟨off,cap,hv,cZ,fb⟩:=id h.rd;have bO:5≤cap:=by have:=cZ.1;omega
 have fc:=aa (fun w' (hu:Upd [] w w')=>(show w'.cell? ⟨g,off+4,none⟩=some (.int .u8 2)from by
  have h0:=fb 4 (by omega);have e:bs[4]? =some 2:=by rw[bM,bH (by rw[bq];omega)];rfl
  rw[az (by omega)]at e;rw[cI e]at h0;exact hu.cell (by simp) h0))
 have c7:=aa (show∀w,RdG w v g bs→Calls prog 276 #[v] w fun e w'=>e=.returned (.int .i64 n)∧w=w' from fun w h=>by rw[bn];exact yH g v bs w h);have fk:=aa (show∀w,RdG w v g bs→Calls prog 277 #[v,.int .i64 0,.int .i64 4] w fun r w'=>∃v',r=.returned v'∧RdG w v' g (Lib.beBytes 4 3131758336)∧w=w' from fun w h=>by have:=kU g 0 4 v bs [] (Lib.beBytes 4 3131758336) ([2]++(sec (bi syms)++c0)) w h (by rw[bM,dE];simp) rfl (by rw[cd];rfl) (by rw[←bn];omega);exact this)
 have fr:=aa (fun w=>A0 g off n cap w bO);have fs:=aa (fun w' v' (h:RdG w' v' g (Lib.beBytes 4 3131758336))=>qE g 3131758336 v' [] w' (by rw[bk];exact h) (by decide));have he:=aa bM;clear h bM cZ fb bO;rw[←bn]at hv;clear bn;subst hv;have hh:= @run_makeMap prog;go_enter func114,ntmps114
 go_upto_region 2 with(go_at_call 174;refine(pn _).mono ?_;rintro e _ ⟨rfl,rfl⟩)
 obtain⟨w3,ft,G4,hb1,hb2,hb3,dc⟩:=kK w (Obj.map #[] 0) (.cells #[.iface 139 (.slice (some ⟨g,off,none⟩) n cap),.pointer none,.iface tc xc,.map (some w.heap.size),.map none,.pointer none,.map none,.pointer none,.pointer none,.int .i64 0] 153 (0,0)) (.cells #[.pointer (some ⟨w.heap.size+1,0,none⟩)] 69 (0,0));rw[←ft];clear ft;have HB:=aa (show RB w3 (w.heap.size+1+1) (w.heap.size+1) w.heap.size (.slice (some ⟨g,off,none⟩) n cap) tc xc (.pointer none) (.pointer none) (.map none) (.pointer none) 0 from⟨hb3,hb2⟩);have br:=aa (And.intro G4 (And.intro hb1 dc));have bR:Hid (∃bm R BR,bm=w.heap.size∧R=w.heap.size+1∧BR=w.heap.size+1+1):=aa ⟨_,_,_,rfl,rfl,rfl⟩;obtain⟨bm,R,BR,ct,eR,el⟩:=bR.o;rw[←ct]at br;rw[←el,←eR,←ct]at HB⊢;have z:=aa (And.intro ct (And.intro eR el));clear ct eR el bR G4 hb1 hb2 hb3 dc hh;have H3:=aa (H.o.rd.upd br.o.1 (by simp));have b0:w3.cell? ⟨BR,0,none⟩=some (ptr R 0):=af HB.o.br 0;have r0:w3.cell? ⟨R,0,none⟩=some (.iface 139 (.slice (some ⟨g,off,none⟩) n cap)):=af HB.o.rd 0;have fv:(5:Int)≤(n:Int):=by omega
 go_wp2_with (go_at_call 276;refine(c7.o _ H3.o).mono ?_;rintro e _ ⟨rfl,rfl⟩);go_cut [9] (fun v wx=>v=.int .u32 3131758336∧Upd [] w3 wx)
 case first=>
  as_aux_lemma=>
   go_region_held3 (fun w'=>w'.cell? ⟨BR,0,none⟩=some (ptr R 0)∧w'.cell? ⟨R,0,none⟩=some (.iface 139 (.slice (some ⟨g,off,none⟩) n cap))) (go_keep) (first
    |(go_at_call 277;refine(fk.o _ (by with_reducible first|exact H3.o|exact H3.o.drew)).mono ?_;rintro e _ ⟨v4,rfl,fA,rfl⟩;have fE:=aa fA;clear fA)
    |(go_at_call 120;refine(fs.o _ _ (by with_reducible first|exact fE.o|exact fE.o.drew)).mono ?_;rintro e w4 ⟨rfl,fN⟩;have a2:=aa (cz fN);clear fN;have b0:=a2.o.cell (by simp) b0;have r0:=a2.o.cell (by simp) r0))
   all_goals
    go_wp2_with fail;go_meet
    exact⟨rfl,a2.o⟩
 case rest=>
  obtain⟨rfl,cA⟩:=hcut;generalize wc=w4 at*;have a2:=aa cA;have bv:=aa (HB.o.upd cA (by simp) (by simp));have H4:=aa (H3.o.upd cA (by simp));have b0:w4.cell? ⟨BR,0,none⟩=some (ptr R 0):=af bv.o.br 0;have r0:w4.cell? ⟨R,0,none⟩=some (.iface 139 (.slice (some ⟨g,off,none⟩) n cap)):=af bv.o.rd 0;clear cA H3;go_wp2_with fail;go_cut [] (fun wx=>RB wx BR R bm (.slice (some ⟨g,off,none⟩) n cap) tc xc (.pointer none) (.pointer none) (.map none) (.pointer none) 2∧Upd [R] w4 wx)
  case first=>
   as_aux_lemma=>
    have f9:=ao bv.o.rd 9;have r9:w4.cell? ⟨R,9,none⟩=some (.int .i64 0):=af bv.o.rd 9;have cg:=fc.o _ (br.o.1.then a2.o (by simp));have ll:IntKind.i64.wrap 2=2:=by decide
    have a3:R≠BR:=by have:=z.o;omega
    have hi:R≠g:=by have h1:=z.o;have h2:=H.o.rd.lt;omega
    have KP:=aa (fun(w':World) (x:Value) (h1:w'.cell? ⟨BR,0,none⟩=some (ptr R 0)) (h2:w'.cell? ⟨R,0,none⟩=some (.iface 139 (.slice (some ⟨g,off,none⟩) n cap))) (h3:w'.cell? ⟨g,off+4,none⟩=some (.int .u8 2))=>
     (And.intro ((dO (j:=0) w' x (i:=9) a3).trans h1) (And.intro ((fT w' R 9 0 x (by decide)).trans h2) ((dO (j:=off+4) w' x (i:=9) hi).trans h3))))
    go_region_held3 (fun w'=>w'.cell? ⟨BR,0,none⟩=some (ptr R 0)∧w'.cell? ⟨R,0,none⟩=some (.iface 139 (.slice (some ⟨g,off,none⟩) n cap))∧w'.cell? ⟨g,off+4,none⟩=some (.int .u8 2)) (first|(go_keep;done)|exact KP.o _ _ (by assumption) (by assumption) (by assumption)) (first
     |(go_at_call 277;refine(fr.o _).mono ?_;rintro e _ ⟨rfl,rfl⟩;have r9:w4.drew.cell? ⟨R,9,none⟩=some (.int .i64 0):=r9;have f9:w4.drew.frozen? ⟨R,9,none⟩=false:=f9))
    all_goals
     go_wp2_with fail;go_meet
     exact⟨(bv.o.set9 a3 2).drew,iB.drew⟩
  case rest=>
   obtain⟨fP,bS⟩:=hcut;generalize wc=w5 at*;have cB:=aa bS;have a0:=aa fP;have dd:Hid (w5.heap[bm]? =some (.map #[] 0)):=aa (cB.o.blk (a2.o.blk br.o.2.1 (by simp)) (by have:=z.o;simp only[ag];omega));clear bv b0 r0 fP bS;have b0:w5.cell? ⟨BR,0,none⟩=some (ptr R 0):=af a0.o.br 0;have r0:w5.cell? ⟨R,0,none⟩=some (.iface 139 (.slice (some ⟨g,off,none⟩) n cap)):=af a0.o.rd 0;have r9:w5.cell? ⟨R,9,none⟩=some (.int .i64 2):=af a0.o.rd 9;have bw:Hid (R≠BR∧R≠g∧BR≠g):=aa (by have h1:=z.o;have h2:=H.o.rd.lt;omega);have H5:=aa (H4.o.upd cB.o (by simpa using aF bw.o.2.1));have bb:=aa ((br.o.1.then a2.o (by simp)).then cB.o (fun b hb hl=>by have:=z.o;simp only[ag]at hb;omega));clear H4 fk fr fs c7 fc fv;go_wp2_with fail;have dj:=aa (fun w' (hu:Upd [] w w')=>by have h:=H.o;obtain⟨a,ha⟩:=h.toc;have hl:=h.len;exact Dp g _ bs a 5 t1 t2 t3 t4 t5 w' (h.rd.upd hu (by simp)) ha (by omega) (by omega))
   go_cut [10] (fun u wx=>∃X,u=.nilIface∧RB wx BR R bm (.slice (some ⟨g,off,none⟩) n cap) tc xc (ptr X 0) (.pointer none) (.map none) (.pointer none) 2∧wx.heap[X]? =some (.cells #[.int .u64 (5:Nat),.int .u64 t1,.int .u64 t2,.int .u64 t3,.int .u64 t4,.int .u64 t5] 231 (0,0))∧w5.heap.size≤X∧Upd [R] w5 wx)
   case first=>
    as_aux_lemma=>
     have a3:=bw.o.1;have KP:=aa (fun(w':World) (x:Value) (h1:w'.cell? ⟨BR,0,none⟩=some (ptr R 0))=>(dO (j:=0) w' x (i:=1) a3).trans h1)
     go_region_held3 (fun w'=>w'.cell? ⟨BR,0,none⟩=some (ptr R 0)) (first|(go_keep;done)|exact KP.o _ _ (by assumption)) (first
      |(go_at_call 175;refine(dj.o _ (by with_reducible exact bb.o.drew)).mono ?_;rintro e w6 ⟨X,rfl,hX,cD,fX⟩;have HX:=aa (And.intro hX cD);have ep:=aa (cz fX);clear hX cD fX;have b0:=ep.o.cell (by simp) b0;have G:=aa (a0.o.upd ep.o (by simp) (by simp));have r1:=af G.o.rd 1;have f1:=ao G.o.rd 1))
     all_goals
      go_wp2_with fail;go_meet
      exact⟨X,rfl,G.o.set1 a3 _,iB.blk HX.o.1 (by have h1:=HX.o.2;have h2:=lt_of_block a0.o.rd;simp only[ag];simp only[World.drew]at h1;omega),HX.o.2,(ep.o.mono (by simp)).then iB (fun b hb _=>hb)⟩
   case rest=>
    obtain⟨X,rfl,hB,hX,cD,hu⟩:=hcut;generalize wc=w6 at*;have G:=aa hB;have et:=aa hX;have a4:=aa (bb.o.then hu (fun b hb hl=>by have:=z.o;simp only[ag]at hb;omega));have H6:=aa (H5.o.upd hu (by simpa using aF bw.o.2.1));have bW:=aa (And.intro (show w.heap.size≤X by have:=bb.o.size;omega) (And.intro (show R≠X by have h2:=lt_of_block a0.o.rd;omega) (And.intro (show BR≠X by have h2:=lt_of_block a0.o.br;omega) (show bm≠X by have h2:=lt_of_block a0.o.br;have h3:=z.o;omega))));have dk:Hid (w6.heap[bm]? =some (.map #[] 0)):=aa (hu.blk dd.o (by have:=z.o;simp only[ag];omega));clear hB hX cD hu a0 H5 cB bb dj b0 r0 r9 dd;have b0:w6.cell? ⟨BR,0,none⟩=some (ptr R 0):=af G.o.br 0;have r0:w6.cell? ⟨R,0,none⟩=some (.iface 139 (.slice (some ⟨g,off,none⟩) n cap)):=af G.o.rd 0;have r1:w6.cell? ⟨R,1,none⟩=some (ptr X 0):=af G.o.rd 1;have r9:w6.cell? ⟨R,9,none⟩=some (.int .i64 2):=af G.o.rd 9;have x0:w6.cell? ⟨X,0,none⟩=some (.int .u64 (5:Nat)):=af et.o 0;have lo:IntKind.i64.wrap 5=5:=by decide
    have b5:=aa (fun w' (hu:Upd [] w w')=>by have h:=H.o;have hl:=h.len;have hsl:=h.symL;exact pq g _ bs dE c0 syms w' (h.rd.upd hu (by simp)) he.o (by omega) (by omega) (fun x hx=>by have:=hsl.2.1 x hx;omega))
    rw[bq]at b5;go_wp2_with fail;go_cut [10] (fun u wx=>∃S r,u=.nilIface∧RB wx BR R bm (.slice (some ⟨g,off,none⟩) n cap) tc xc (ptr X 0) (ptr S 0) (.map none) (.pointer none) 2∧kk wx S (.slice (some ⟨g,off,none⟩) n cap) g r bs 5 syms∧w6.heap.size≤S∧(∀k,r=some k→w6.heap.size≤k)∧Upd [R] w6 wx)
    case first=>
     as_aux_lemma=>
      have a3:=bw.o.1;have KP:=aa (fun(w':World) (x:Value) (h1:w'.cell? ⟨BR,0,none⟩=some (ptr R 0)) (h2:w'.cell? ⟨R,0,none⟩=some (.iface 139 (.slice (some ⟨g,off,none⟩) n cap))) (h3:w'.cell? ⟨R,1,none⟩=some (ptr X 0)) (h4:w'.cell? ⟨R,9,none⟩=some (.int .i64 2)) (h5:w'.cell? ⟨X,0,none⟩=some (.int .u64 (5:Nat)))=>
       And.intro ((dO (j:=0) w' x (i:=5) a3).trans h1) (And.intro ((fT w' R 5 0 x (by decide)).trans h2) (And.intro ((fT w' R 5 1 x (by decide)).trans h3) (And.intro ((fT w' R 5 9 x (by decide)).trans h4) ((dO (j:=0) w' x (i:=5) bW.o.2.1).trans h5)))))
      go_region_held3 (fun w'=>w'.cell? ⟨BR,0,none⟩=some (ptr R 0)∧w'.cell? ⟨R,0,none⟩=some (.iface 139 (.slice (some ⟨g,off,none⟩) n cap))∧w'.cell? ⟨R,1,none⟩=some (ptr X 0)∧w'.cell? ⟨R,9,none⟩=some (.int .i64 2)∧w'.cell? ⟨X,0,none⟩=some (.int .u64 (5:Nat))) (first|(go_keep;done)|exact KP.o _ _ (by assumption) (by assumption) (by assumption) (by assumption) (by assumption)) (first
       |(go_at_call 176;refine(b5.o _ (by with_reducible exact a4.o.drew)).mono ?_;rintro e w7 ⟨S,r,rfl,hS,cE,bA,f0⟩;have HS:=aa (And.intro hS (And.intro cE bA));have a5:=aa (cz f0);clear hS cE bA f0;have b0:=a5.o.cell (by simp) b0;have r0:=a5.o.cell (by simp) r0;have r1:=a5.o.cell (by simp) r1;have r9:=a5.o.cell (by simp) r9;have x0:=a5.o.cell (by simp) x0;have V:=aa (G.o.upd a5.o (by simp) (by simp));have r5:=af V.o.rd 5;have f5:=ao V.o.rd 5))
      all_goals
       go_wp2_with fail;go_meet
       have lq:=a5.o.size;have lv:=lt_of_block G.o.rd;have h1:w6.heap.size≤S:=HS.o.2.1;have h2:∀k,r=some k→w6.heap.size≤k:=HS.o.2.2;exact⟨S,r,rfl,V.o.set5 a3 _,HS.o.1.upd iB (by simp only[ag];omega) (by simpa using aF bw.o.2.1) (fun k hk=>by have:=h2 k hk;simp only[ag];omega),h1,h2,(a5.o.mono (by simp)).then iB (fun b hb _=>hb)⟩
    case rest=>
     obtain⟨S,r,rfl,hB,hS,cE,bA,hu⟩:=hcut;generalize wc=w7 at*;have V:=aa hB;have cF:=aa (hu.blk et.o (by simpa using aF bW.o.2.1));have dp:=aa (a4.o.then hu (fun b hb hl=>by have:=z.o;simp only[ag]at hb;omega));have H7:=aa (H6.o.upd hu (by simpa using aF bw.o.2.1));have b6:=aa (And.intro hS (And.intro (show w.heap.size≤S by have:=a4.o.size;omega) (show∀k,r=some k→w.heap.size≤k from fun k hk=>by have:=a4.o.size;have:=bA k hk;omega)));have ds:Hid (bm≠S∧R≠S∧∀k,r=some k→bm≠k∧R≠k):=aa (by have h1:=lt_of_block G.o.br;have h2:=z.o;exact⟨by omega,by omega,fun k hk=>by have:=bA k hk;omega⟩)
     have dF:Hid (w7.heap[bm]? =some (.map #[] 0)):=aa (hu.blk dk.o (by have:=z.o;simp only[ag];omega));clear hB hS cE bA hu G et H6 a4 b5 b0 r0 r1 r9 x0 dk;have b0:w7.cell? ⟨BR,0,none⟩=some (ptr R 0):=af V.o.br 0;have r0:w7.cell? ⟨R,0,none⟩=some (.iface 139 (.slice (some ⟨g,off,none⟩) n cap)):=af V.o.rd 0;have r1:w7.cell? ⟨R,1,none⟩=some (ptr X 0):=af V.o.rd 1;have r9:w7.cell? ⟨R,9,none⟩=some (.int .i64 2):=af V.o.rd 9;have x5:w7.cell? ⟨X,5,none⟩=some (.int .u64 t5):=af cF.o 5;go_upto_region 28 with fail
     obtain⟨w8,f2,f3,hb1,hb2,hb3,hb4,b7⟩:=DG w7 (.cells #[.slice none 0 0] 65 (0,0)) (.cells #[.slice none 0 0] 65 (0,0)) (.cells #[.int .i64 0] 3 (0,0)) (.cells #[.int .i64 0] 3 (0,0));rw[←f2];clear f2;have bR:Hid (∃LN LV LO VC,LN=w7.heap.size∧LV=w7.heap.size+1∧LO=w7.heap.size+1+1∧VC=w7.heap.size+1+1+1):=aa ⟨_,_,_,_,rfl,rfl,rfl,rfl⟩;obtain⟨LN,LV,LO,VC,ev,eE,eG,eN⟩:=bR.o;rw[←eN]at hb4;rw[←eG]at hb3;rw[←eE]at hb2;rw[←ev]at hb1 b7;rw[←eN,←eG,←eE,←ev];have b8:=aa (And.intro hb1 (And.intro hb2 (And.intro hb3 hb4)));have bB:=aa f3;have O:Hid (w.heap.size+3≤LN∧LV=LN+1∧LO=LN+1+1∧VC=LN+1+1+1∧w8.heap.size=LN+4∧X<LN∧S<LN∧∀k,r=some k→k<LN):=aa (by
      have h1:=lt_of_block V.o.br;have h2:=z.o;have h3:=lt_of_block cF.o;have h4:S<w7.heap.size:=by obtain⟨so,hb,_⟩:=b6.o.1.blk;exact lt_of_block hb
      have h5:∀k,r=some k→k<w7.heap.size:=fun k hk=>by obtain⟨so,_,_,ho,e⟩:=b6.o.1.blk;exact(ho.lt k (e.trans hk)).2
      refine⟨by omega,by omega,by omega,by omega,b7,by omega,by omega,fun k hk=>by have:=h5 k hk;omega⟩)
     clear ev eE eG eN bR f3 hb1 hb2 hb3 hb4 b7;have a6:=aa (V.o.upd bB.o (by simp) (by simp));have b9:=aa (dp.o.then bB.o (by simp));have f4:Hid (w8.heap[bm]? =some (.map #[] 0)):=aa (bB.o.blk dF.o (by simp));have dP:=aa (Fw H.o b9.o a6.o f4.o b8.o.1 b8.o.2.1 b8.o.2.2.1 b8.o.2.2.2 z.o ⟨O.o.1,O.o.2.1,O.o.2.2.1,O.o.2.2.2.1,O.o.2.2.2.2.1⟩);have cL:=aa (bB.o.blk cF.o (by simp));have f7:Hid (kk w8 S (.slice (some ⟨g,off,none⟩) n cap) g r bs 5 syms):=aa (b6.o.1.upd bB.o (by simp) (by simp) (by simp));have ga:=aa (fun w9 (hq:mJ w8 BR R bm LN LV LO VC g w.heap.size (iy (rl 4 (gs.flatMap ent))) [] (.returned .nilIface) w9)=>mJ.upd8 (n:=w.heap.size) hq a6.o cL.o ⟨z.o.1,z.o.2.1,z.o.2.2,O.o.1,O.o.2.1,O.o.2.2.1,O.o.2.2.2.1,O.o.2.2.2.2.2.1,bW.o.2.2.2⟩);clear V cF H7 dp b0 r0 r1 r9 x5 dF;have b0:w8.cell? ⟨BR,0,none⟩=some (ptr R 0):=af a6.o.br 0;have r0:w8.cell? ⟨R,0,none⟩=some (.iface 139 (.slice (some ⟨g,off,none⟩) n cap)):=af a6.o.rd 0;have r1:w8.cell? ⟨R,1,none⟩=some (ptr X 0):=af a6.o.rd 1;have x5:w8.cell? ⟨X,5,none⟩=some (.int .u64 t5):=af cL.o 5;go_cut [16] (fun u wx=>u=.nilIface∧mJ w8 BR R bm LN LV LO VC g w.heap.size (iy (rl 4 (gs.flatMap ent))) [] (.returned .nilIface) wx)
     case first=>
      as_aux_lemma=>
       go_region_held3 (fun w'=>w'.cell? ⟨BR,0,none⟩=some (ptr R 0)∧w'.cell? ⟨R,0,none⟩=some (.iface 139 (.slice (some ⟨g,off,none⟩) n cap))∧w'.cell? ⟨R,1,none⟩=some (ptr X 0)∧w'.cell? ⟨X,5,none⟩=some (.int .u64 t5)) (go_keep) (first
        |(go_at_call 177;refine(dP.o _ (by with_reducible first|exact(ae _).drew|exact(ae _).drew.drew)).mono ?_;rintro e w9 hq;obtain⟨rfl,gd⟩:e=.returned .nilIface∧mJ w8 BR R bm LN LV LO VC g w.heap.size (iy (rl 4 (gs.flatMap ent))) [] (.returned .nilIface) w9:=(by with_reducible first|exact mJ.ofDrew hq|exact(mJ.ofDrew hq).2.ofDrew);have HQ:=aa gd;clear hq gd;have KQ:=aa (ga.o _ HQ.o);have b0:=KQ.o.1;have r0:=KQ.o.2.1;have r1:=KQ.o.2.2.1;have x5:=KQ.o.2.2.2))
       all_goals
        go_wp2_with fail;go_meet
        exact⟨rfl,HQ.o⟩
     case rest=>
      obtain⟨rfl,hq⟩:=hcut;generalize wc=w9 at*;clear b0 r0 r1 x5 dP;have Hq:=aa hq;obtain⟨_,M1,p,hI,_,ei⟩:=hq;obtain⟨st,e0⟩:∃st,st=iy (rl 4 (gs.flatMap ent)):=⟨_,rfl⟩;rw[←e0]at hI;have gg:=aa e0;have HI:=aa (And.intro hI ei);clear hI ei e0;go_upto_region 31 with fail
      obtain⟨ok,cM⟩:∃ok,Hid (ok=st.last.isSome):=⟨_,aa rfl⟩;go_cut [145] (fun u wx=>u=.bool ok∧wx=w9)
      case first=>
       rcases HI.o.1.last with⟨D,W,ad⟩|⟨x,hj,hp,D,W,ad,ca,bK⟩
       ·have l0:w9.cell? ⟨LN,0,none⟩=some (.slice none 0 0):=af W 0;have e:=cM.o;rw[D]at e;have e':ok=false:=e;subst e';clear D W ad e;go_wp2_with fail;go_meet
        exact⟨rfl,rfl⟩
       ·obtain⟨o3,c3,rfl,a7,cc⟩:=id ad;have l0:=af W 0;have e:=cM.o;rw[D]at e;have e':ok=true:=e;subst e';clear D W ad ca bK a7 cc e;go_wp2_with fail;go_meet
        exact⟨rfl,rfl⟩
      case rest=>
       obtain⟨rfl,rfl⟩:=hcut;generalize wc=w9 at*;go_upto_if 145 with(fail)
       go_cut []from 146 to 164 (fun wx=>∃M2,Hid (RPI wx BR R bm LN LV LO VC p g w.heap.size {st with M:=fD st} M2∧Upd (aR bm M1) w9 wx∧∀b∈aR bm M2,b∈aR bm M1∨w9.heap.size≤b))
       case first=>
        as_aux_lemma=>
         rcases HI.o.1.last with⟨D,W,ad⟩|⟨x,hj,hp,D,W,ad,ca,bK⟩
         ·have Hl:=aa D;have e:=cM.o;rw[D]at e;have e':ok=false:=e;subst e';clear D W ad e;go_wp2_with fail;go_meet
          have cN:=wz st Hl.o;exact⟨M1,aa ⟨by rw[cN];exact HI.o.1,(ae _).mono (by simp),fun b hb=>.inl hb⟩⟩
         ·obtain⟨o3,c3,rfl,a7,cc⟩:=id ad;obtain⟨o4,c4,rfl,e5,gi⟩:=id bK;obtain⟨N3,bL⟩:∃N,N=x.1.length:=⟨_,rfl⟩;obtain⟨N4,gk⟩:∃N,N=x.2.length:=⟨_,rfl⟩;rw[←bL]at W ad;rw[←gk]at ca bK;obtain⟨s3,e6⟩:∃s,s=str x.1:=⟨_,rfl⟩;obtain⟨s4,e7⟩:∃s,s=str x.2:=⟨_,rfl⟩;have ht:=sZ HI.o.1.mem HI.o.1.bs s3 (s4,st.lastOff) HI.o.1.len;obtain⟨v,L,g',nn,cap',l1,l2,K⟩:=ht;have KS:=aa (fun(w':World) (hu:Upd (bm::L) w9 w')=>show w'.cell? ⟨BR,0,none⟩=some (ptr R 0)∧w'.cell? ⟨R,3,none⟩=some (.map (some bm))∧w'.cell? ⟨LN,0,none⟩=some (.slice (some ⟨g,o3,none⟩) N3 c3)∧w'.cell? ⟨LV,0,none⟩=some (.slice (some ⟨g,o4,none⟩) N4 c4)∧w'.cell? ⟨LO,0,none⟩=some (.int .i64 (st.lastOff:Nat))∧(convert 65 9 (.slice (some ⟨g,o3,none⟩) N3 c3)).run prog w'=.ok (.string s3) w'∧(convert 65 9 (.slice (some ⟨g,o4,none⟩) N4 c4)).run prog w'=.ok (.string s4) w' from by
           have hn:∀b∈[BR,R,LN,LV,LO,VC,p,g],b∉bm::L:=fun b hb hm=>by
            simp only[ah]at hm;rcases hm with rfl|hm
            ·exact(HI.o.1.o _ hb).1 (by simp[aR])
            ·exact(HI.o.1.o b hb).1 (K.sub b hm).1
           refine⟨af (hu.blk HI.o.1.br (hn BR (by simp))) 0,hu.cell (hn R (by simp)) HI.o.1.rd,af (hu.blk W (hn LN (by simp))) 0,af (hu.blk ca (hn LV (by simp))) 0,af (hu.blk HI.o.1.lo (hn LO (by simp))) 0,?_,?_⟩
           ·rw[e6];exact(ad.upd hu (hn g (by simp))).str
           ·rw[e7];exact(bK.upd hu (hn g (by simp))).str)
          have KA:=aa (And.intro K.u2 K.u3);have k1:=K.look _ (((ae w9).mono (by simp)).drew);have k2:=K.look _ ((((ae w9).mono (by simp)).alloc (.cells #[.string s4,.int .i64 (st.lastOff:Nat)] 172 (0,0))).drew);have kp:=K.put;have HK:=aa K;have gF:=aa K.app;have Hx:=aa (And.intro D (And.intro e6 e7));have e:=cM.o;rw[D]at e;have e':ok=true:=e;subst e';clear D W ad ca bK a7 cc e5 gi bL gk e6 e7 K e;have l0:=(KS.o _ ((ae w9).mono (by simp))).2.2.1;go_wp2_with fail
          go_region_held3 (fun w'=>w'.cell? ⟨BR,0,none⟩=some (ptr R 0)∧w'.cell? ⟨R,3,none⟩=some (.map (some bm))∧w'.cell? ⟨LN,0,none⟩=some (.slice (some ⟨g,o3,none⟩) N3 c3)∧w'.cell? ⟨LV,0,none⟩=some (.slice (some ⟨g,o4,none⟩) N4 c4)∧w'.cell? ⟨LO,0,none⟩=some (.int .i64 (st.lastOff:Nat))∧(convert 65 9 (.slice (some ⟨g,o3,none⟩) N3 c3)).run prog w'=.ok (.string s3) w'∧(convert 65 9 (.slice (some ⟨g,o4,none⟩) N4 c4)).run prog w'=.ok (.string s4) w')
           (first|(go_keep;done)|exact KS.o _ (((ae w9).mono (by simp)).drew)|exact KS.o _ ((((ae w9).mono (by simp)).alloc _).drew)|exact KS.o _ (KA.o.1.mono (fun b hb=>aH _ hb))|exact KS.o _ KA.o.2)
           ((refine df (by rfl) _ _ _ (by rfl) _ _ _ _ (by rfl) (by rfl) gF.o ?_))
          all_goals
           have cN:fD st=fU st.M s3 s4 st.lastOff:=by rw[wA st Hx.o.1,Hx.o.2.1,Hx.o.2.2]
           obtain⟨M2,gL,ej,bS⟩:=HI.o.1.push HK.o {st with M:=fD st} cN ⟨rfl,rfl,rfl⟩ (by rw[gg.o];exact H.o.endSmall);have hw:=aa (And.intro gL (And.intro bS ej));clear gL ej bS cN KS KA k1 k2 kp gF l0;go_wp2_with fail;go_meet
           exact⟨M2,hw⟩
       case rest=>
        obtain⟨M2,cO⟩:=hcut;generalize wc=w10 at*;have HN:=aa (Eo H.o b9.o a6.o cL.o f7.o z.o O.o bW.o b6.o.2 ds.o Hq.o.upd HI.o.2 gg.o cO.o.1 cO.o.2.1 cO.o.2.2);clear cO HI Hq ga cL f7 a6 b9 bB b8 O f4 b6 ds bW HB br a2 b0 r0;have b0:w10.cell? ⟨BR,0,none⟩=some (ptr R 0):=af HN.o.rb.br 0;have r3:w10.cell? ⟨R,3,none⟩=some (.map (some bm)):=af HN.o.rb.rd 3;obtain⟨l3,a9,hit,dT⟩:=iA (P:=prog) (kv:=Value.string) underlying146 HN.o.mem.o;obtain⟨I,hI⟩:∃I,I=w10.heap.size:=⟨_,rfl⟩;rw[←hI]at hit a9;have ck:=aa a9;have cn:=aa hit;have F:=aa (And.intro dT hI);clear a9 hit dT hI;go_upto_block 1 with(at_range;refine gO rfl _ _ rfl _ _ _ rfl ck.o ?_)
        have hy:I=w10.heap.size:=F.o.2;have cP:=lt_of_block HN.o.rb.br;have hA:=lt_of_block HN.o.rb.rd;have hC:=lt_of_block HN.o.mem.o;have gP:I∉aR bm M2:=fun hm=>by have:=HN.o.mem.lt _ hm;omega
        have g0:(M2.map (·.1)).Nodup:=by rw[←An,HN.o.abs];exact H.o.tabNodup
        try go_frame
        refine GK (bm:=bm) (BR:=BR) (R:=R) (I:=I) (base:=w.heap.size) (M:=M2) (hit:=cn.o) (hm:=HN.o.mem.upd F.o.1 (by simp)) (Hw:=by have h1:=HN.o.upd.size;have h2:=F.o.1.size;omega) (hnd:=g0) (hlen:=(H.o.namesH HN.o.abs).2.2) (hb:=F.o.1.blk HN.o.rb.br (by simp)) (hr:=F.o.1.cell (by simp) r3) (G5:=⟨fun e=>(HN.o.o BR (by simp)).2 (by rw[←e];simp[aR]),fun e=>(HN.o.o R (by simp)).2 (by rw[←e];simp[aR]),by omega,by omega,by omega⟩) (hI:=gP) (hJ:=?_);rintro l4 l5 l6 hH hQ hR hU hW hY hZ h6 h7 h8 h9 ih it i0 i3 i4 i5 d hT d0;obtain⟨M3,bL⟩:=HN.o.trim F.o.1 F.o.2 hT d0;have A:=aa bL;have e8:=aa (H.o.namesH bL.abs);clear hT d0 hy cP hA hC gP g0 F cn ck HN b0 r3 bL;dsimp only;have hD:∀(n:Int) (w:World),(Instr.makeMap 149 (some (.int .i64 n))).run prog w=.ok (.map (some w.heap.size)) (w.alloc (.map #[] 0)):=fun n w=>by simp[Instr.makeMap,go_sem,run_underlying underlying149]
        have bd:∀ty w',w'.heap[bm]? =some (bI Value.string (M3.map fun x=>(x.1,x.2.1)))→(Builtin.len_ #[146] ty #[.map (some bm)]).run prog w'=.ok (.int .i64 M3.length) w':=fun ty w' h1=>by have h2:=jR (P:=prog) h1;simp[Builtin.len_,go_sem,run_underlying underlying146,h2]
        have hln:=fun ty=>bd ty d A.o.mem.o;have ea:=fun ty=>bd ty d.drew A.o.mem.o;have eb:=aa (bd 3);clear bd;have b0:d.cell? ⟨BR,0,none⟩=some (ptr R 0):=af A.o.rb.br 0;have r3:d.cell? ⟨R,3,none⟩=some (.map (some bm)):=af A.o.rb.rd 3;clear hln;have hE:=aa A.o.lts;go_upto_region 39 with fail
        go_cut []from 187 to 195 (fun wx=>∃NS,NsQ d R X S bm NS (.slice (some ⟨g,off,none⟩) n cap) tc xc (.pointer none) wx)
        case first=>
         clear e8;have cX:(d.alloc (.map #[] 0)).heap[R]? =_:=((ae d).alloc _).blk A.o.rb.rd (by simp);have c6:(d.alloc (.map #[] 0)).cell? ⟨R,6,none⟩=some (.map none):=af cX 6;have f6:(d.alloc (.map #[] 0)).frozen? ⟨R,6,none⟩=false:=ao cX 6;have G5:d.heap.size≠R:=by have:=(A.o.lts).1 R (by simp);omega
         have e9:=au cX 6 (.map (some d.heap.size));have cY:Upd [R] (d.alloc (.map #[] 0)) ((d.alloc (.map #[] 0)).setCell ⟨R,6,none⟩ (.map (some d.heap.size))):=iB;have cP:((d.alloc (.map #[] 0)).setCell ⟨R,6,none⟩ (.map (some d.heap.size))).heap[BR]? =_:=cY.blk (((ae d).alloc _).blk A.o.rb.br (by simp)) (by simpa using aF A.o.dis.1);have ef:Hid (NsQ d R X S bm d.heap.size (.slice (some ⟨g,off,none⟩) n cap) tc xc (.pointer none) ((d.alloc (.map #[] 0)).setCell ⟨R,6,none⟩ (.map (some d.heap.size))).drew):=aa ⟨e9,cY.blk (an _) (by simpa using G5),aw _,((((ae d).alloc _).mono (by simp)).then cY (fun b hb _=>hb)).drew⟩;have KP:Hid (((d.alloc (.map #[] 0)).setCell ⟨R,6,none⟩ (.map (some d.heap.size))).drew.cell? ⟨BR,0,none⟩=some (ptr R 0)∧((d.alloc (.map #[] 0)).setCell ⟨R,6,none⟩ (.map (some d.heap.size))).drew.cell? ⟨R,3,none⟩=some (.map (some bm))):=aa ⟨af (w:=((d.alloc (.map #[] 0)).setCell ⟨R,6,none⟩ (.map (some d.heap.size))).drew) cP 0,af (w:=((d.alloc (.map #[] 0)).setCell ⟨R,6,none⟩ (.map (some d.heap.size))).drew) e9 3⟩;have hF:Hid ((d.alloc (.map #[] 0)).heap[bm]? =_):=aa (((ae d).alloc _).blk A.o.mem.o (by simp));have hG:=(A.o.ns ef.o).1;clear cX e9 cY cP;as_aux_lemma=>
          go_region_held3 (fun w'=>w'.cell? ⟨BR,0,none⟩=some (ptr R 0)∧w'.cell? ⟨R,3,none⟩=some (.map (some bm))∧(Builtin.len_ #[146] 3 #[.map (some bm)]).run prog w'=.ok (.int .i64 M3.length) w') (first|(refine⟨?_,?_,eb.o _ ?_⟩<;>first|(go_keep;done)|exact A.o.mem.o|exact hF.o)|exact⟨KP.o.1,KP.o.2,eb.o _ hG.o⟩) ((refine tp (by rfl) _ _ (by rfl) _ _ _ (by rfl) (ea _) ?_))
          all_goals
           go_wp2_with fail;go_meet
           exact⟨_,ef.o⟩
        case rest=>
         obtain⟨NS,hNS⟩:=hcut;generalize wc=w13 at*;have fa:=aa hNS;obtain⟨eg,b0,r3⟩:=A.o.ns hNS;obtain⟨l7,a9,hit,cp⟩:=iA (P:=prog) (kv:=Value.string) underlying146 eg.o;obtain⟨I2,hI⟩:∃I,I=w13.heap.size:=⟨_,rfl⟩;rw[←hI]at hit a9;have ck:=aa a9;have cn:=aa hit;have be:=aa (And.intro cp hI);have U:=aa (A.o.ns14 hNS cp hI);clear a9 hit cp hI eg hNS ea hD;go_upto_block 3 with(at_range;refine gO rfl _ _ rfl _ _ _ rfl ck.o ?_)
         obtain⟨⟨c9,g8⟩,hlim,_⟩:=e8.o;try go_frame
         refine GL (bm:=bm) (NS:=NS) (BR:=BR) (R:=R) (S:=S) (I:=I2) (g:=g) (r:=r) (bs:=bs) (c:=c9) (syms:=syms) (M:=M3) (hit:=cn.o) (hM:=g8) (hS:=U.o.s) (hb:=U.o.br) (hr5:=U.o.r5) (hr6:=U.o.r6) (hns:=U.o.n0) (G5:=U.o.ne) (hIN:=U.o.nI) (hlim:=hlim) (hJ:=?_);rintro z6 z7 z20 z21 z22 z201 j0 z203 j1 j2 z206 kc z208 ke z210 kq z212 z213 ks kE kN kP z218 kX k0 k3 z222 k4 k5 k7 z226 a1 nl cs hc bg;have hd:=aa (Ex H.o.rd A.o fa.o be.o.1 be.o.2 bg cs hc);have bl:=bg.blk (be.o.1.blk fa.o.1 (by simp)) (by have:=U.o.ne R (by simp);simp[this.1,this.2]);have b0:a1.cell? ⟨BR,0,none⟩=some (ptr R 0):=af (bg.blk U.o.br (by have:=U.o.ne BR (by simp);simp[this.1,this.2])) 0;have c8:(a1.alloc (.cells #[.func (.func 181) #[ptr R 0] #[],.func (.func 55) #[] #[]] 167 (0,0))).cell? ⟨R,8,none⟩=some (.pointer none):=af (((ae a1).alloc _).blk bl (by simp)) 8;have f8:(a1.alloc (.cells #[.func (.func 181) #[ptr R 0] #[],.func (.func 55) #[] #[]] 167 (0,0))).frozen? ⟨R,8,none⟩=false:=ao (((ae a1).alloc _).blk bl (by simp)) 8;have n1:a1.heap.size≠R:=by have:=lt_of_block bl;omega
         have n2:=U.o.rb;have n3:=aF n2;have bE:((a1.alloc (.cells #[.func (.func 181) #[ptr R 0] #[],.func (.func 55) #[] #[]] 167 (0,0))).setCell ⟨R,8,none⟩ (ptr a1.heap.size 0)).cell? ⟨BR,0,none⟩=some (ptr R 0):=Upd.cell (L:=[R]) iB (by simpa using aF n2) (((ae a1).alloc _).cell (by simp) b0);clear cs hc bg bl A fa be U cn ck g8 hlim e8 r3 hE;dsimp only;go_wp2_with fail;go_ret2
         exact⟨R,rfl,hd.o.1,hd.o.2⟩
end Go.Proofs.YtlgefdfflmgocaaGreatDoor
