import Derived.Test.YtlgefdfflmgocaaGreatDoorQ33
import Derived.Laws.StructEq
import Derived.Deep.SlicePairs
import Derived.Deep.Strs
set_option linter.all false
set_option maxRecDepth 100000
namespace Go.Proofs.YtlgefdfflmgocaaGreatDoor
open Go Go.RowKit Xc Go.Proofs.Tryz
attribute [local go_sem ↓] Go.wp_at_zero Go.wp_at_succ
def ki(w:World)(v:Value)(l:LabL):Prop:=∃ob cap,v=.slice ob l.length cap∧∀j (h:j<l.length),∃a d,ob=some ⟨a,d,none⟩∧a<w.heap.size∧w.cell? ⟨a,d+j*2,none⟩=some (.string l[j].1)∧w.cell? ⟨a,d+j*2+1,none⟩=some (.string l[j].2)
theorem ki.upd{w w':World}{v:Value}{l:LabL}(h:ki w v l)(hu:Upd [] w w'):ki w' v l:=by obtain⟨ob,cap,rfl,h⟩:=h;refine⟨ob,cap,rfl,fun j d=>?_⟩;obtain⟨a,z,e,h1,A,D⟩:=h j d;exact⟨a,z,e,bD h1 hu.size,hu.cell (by simp) A,hu.cell (by simp) D⟩
def nC(l:LabL)(nm:ByteArray):Int:=match l.findIdx? fun p=>decide (p.1=nm)with|some i=>i|none=> -1
theorem vJ{l:LabL}{nm:ByteArray}{i:Nat}(h:i<l.length)(h1:l[i].1=nm)(d:∀j (h:j<l.length),j<i→l[j].1≠nm):nC l nm=i:=by
 have:l.findIdx? (fun p=>decide (p.1=nm))=some i:=by rw[List.findIdx?_eq_some_iff_getElem];exact⟨h,by simpa using h1,fun j z=>by simpa using d j (by omega) z⟩
 rw[nC,this]
theorem vI{l:LabL}{nm:ByteArray}(d:∀j (h:j<l.length),l[j].1≠nm):nC l nm= -1:=by
 have:l.findIdx? (fun p=>decide (p.1=nm))=none:=by rw[List.findIdx?_eq_none_iff];intro x z;obtain⟨j,A,rfl⟩:=aQ z;simpa using d j A
 rw[nC,this]
theorem bytes_beq{a b:ByteArray}:(a.toList==b.toList)=decide (a=b):=by rw[bV,bV,dR];simp only[beq_iff_eq,decide_eq_true_eq];exact⟨fun h=>ByteArray.ext (Array.toList_inj.1 h),fun h=>by rw[h]⟩
theorem Bl(w:World)(a b:ByteArray):Calls prog 32 #[.agg #[.string a,.string b]] w fun e w'=>∃r,e=.returned (.bool r)∧Upd [] w w':=by
 by_cases h1:(2147483647:Int)<(a.size:Int)
 ·refine en (R:=fun e w'=>e=.returned (.bool false)∧Upd [] w w') ?_ (fun e w' h=>⟨_,h⟩);go_enter func32,ntmps32
  go_wp2_with fail;go_ret;exact⟨rfl,(ae _).alloc _⟩
 ·by_cases d:(2147483647:Int)<(b.size:Int)
  ·refine en (R:=fun e w'=>e=.returned (.bool false)∧Upd [] w w') ?_ (fun e w' h=>⟨_,h⟩);go_enter func32,ntmps32
   go_wp2_with fail;go_ret;exact⟨rfl,(ae _).alloc _⟩
  ·refine en (R:=fun e w'=>e=.returned (.bool true)∧Upd [] w w') ?_ (fun e w' h=>⟨_,h⟩);go_enter func32,ntmps32
   go_wp2_with fail;go_ret;exact⟨rfl,(ae _).alloc _⟩
theorem Bn(w:World)(t:Int)(a b:ByteArray):Calls prog 16 #[.agg #[.int .i64 t,.string a,.string b]] w fun e w'=>∃r,e=.returned (.bool r)∧Upd [] w w':=by
 by_cases h1:(2147483647:Int)<(a.size:Int)
 ·refine en (R:=fun e w'=>e=.returned (.bool false)∧Upd [] w w') ?_ (fun e w' h=>⟨_,h⟩);go_enter func16,ntmps16
  go_wp2_with fail;go_ret;exact⟨rfl,(ae _).alloc _⟩
 ·by_cases d:(2147483647:Int)<(b.size:Int)
  ·refine en (R:=fun e w'=>e=.returned (.bool false)∧Upd [] w w') ?_ (fun e w' h=>⟨_,h⟩);go_enter func16,ntmps16
   go_wp2_with fail;go_ret;exact⟨rfl,(ae _).alloc _⟩
  ·refine en (R:=fun e w'=>e=.returned (.bool true)∧Upd [] w w') ?_ (fun e w' h=>⟨_,h⟩);go_enter func16,ntmps16
   go_wp2_with fail;go_ret;exact⟨rfl,(ae _).alloc _⟩
theorem F2(w:World)(v:Value)(l:LabL)(nm:ByteArray)(h:ki w v l)(hl:l.length≤6):Calls prog 19 #[v,.string nm] w fun e w'=>e=.returned (.int .i64 (nC l nm))∧Upd [] w w':=by
 obtain⟨ob,cap,rfl,h⟩:=h;obtain⟨n,hn⟩:∃n,n=l.length:=⟨_,rfl⟩;rw[←hn]at hl;rw[←hn];have H:=aa h;have F:=aa hn;clear h hn;go_enter func19,ntmps19
 go_wp2_with fail;go_loopg [5] n (fun V W wx=>∃i:Nat,W=.int .i64 i∧Hid (V+i=n)∧Hid (Upd [] w wx∧∀j (h:j<l.length),j<i→l[j].1≠nm))
 case atStart=>exact⟨0,rfl,aa (by omega),aa ⟨ae _,fun j _ h=>by omega⟩⟩
 case round=>
  obtain⟨i,rfl,G,d⟩:=hrel;by_cases ad:i<n
  ·have Hf:i<l.length:=by have:=F.o;omega
   obtain⟨a,oa,rfl,ha,O,k2⟩:=H.o i Hf;have k1:=d.o.1.cell (by simp) O;have a0:(0:Int)≤(i:Int):=by omega
   have a1:(i:Int)<(n:Int):=by omega
   obtain⟨b,hb⟩:∃b,b=(l[i].1.toList==nm.toList):=⟨_,rfl⟩;obtain⟨s,hs⟩:∃s,s=l[i].1:=⟨_,rfl⟩;rw[←hs]at k1;have hb2:(s.toList==nm.toList)=b:=by rw[hs,hb]
   have U:=aa (And.intro hb hs);clear ha k2 O hb hs;cases b
   ·go_wp2_with fail;go_roundg (n-(i+1))
    case measure=>have:=G.o;omega
    case rel=>
     refine⟨i+1,by simp,aa (by omega),aa ⟨d.o.1,fun j z a2=>?_⟩⟩;by_cases A:j=i
     ·subst A;have:=U.o.1;rw[bytes_beq]at this;simpa using this.symm
     ·exact d.o.2 j z (by omega)
   ·go_wp2_with fail;go_ret;have:=U.o.1;rw[bytes_beq]at this;rw[vJ Hf (by simpa using this.symm) d.o.2];exact⟨rfl,d.o.1⟩
  ·have D:i=n:=by have:=G.o;omega
   subst D;go_wp2_with fail;go_ret;rw[vI (fun j z=>d.o.2 j z (by have:=F.o;omega))];exact⟨rfl,d.o.1⟩
theorem BF(w:World)(v:Value)(l:LabL)(nm:ByteArray)(h:ki w v l)(hl:l.length≤6):Calls prog 12 #[v,.string nm] w fun e w'=>e=.returned (.string (g7 l nm))∧Upd [] w w':=by
 have d:=aa (F2 w v l nm h hl);obtain⟨ob,cap,rfl,h⟩:=h;obtain⟨n,hn⟩:∃n,n=l.length:=⟨_,rfl⟩;rw[←hn]at hl d;rw[←hn];have H:=aa h;have F:=aa hn;clear h hn;cases hf:l.findIdx? fun p=>decide (p.1=nm)with
 |none=>
  have e1:nC l nm= -1:=by rw[nC,hf]
  have e2:g7 l nm=ByteArray.empty:=by
   have:l.find? (fun p=>decide (p.1=nm))=none:=by rw[List.findIdx?_eq_none_iff]at hf;rw[List.find?_eq_none];intro x G;simpa using hf x G
   rw[g7,this]
  rw[e1]at d;rw[e2];clear e1 e2 hf;go_enter func12,ntmps12
  go_wp2_with (go_at_call 19;refine d.o.mono ?_;rintro e w1 ⟨rfl,hu⟩);go_ret;exact⟨rfl,hu⟩
 |some i=>
  have O:=List.findIdx?_eq_some_iff_getElem.1 hf;obtain⟨Hf,z,A⟩:=O;have e1:nC l nm=i:=by rw[nC,hf]
  have e2:g7 l nm=l[i].2:=by
   have:l.find? (fun p=>decide (p.1=nm))=some l[i]:=by rw[List.find?_eq_some_iff_getElem];exact⟨z,i,Hf,rfl,fun j U=>by simpa using A j U⟩
   rw[g7,this]
  rw[e1]at d;rw[e2];obtain⟨a,oa,rfl,V,W,D⟩:=H.o i Hf;obtain⟨s,hs⟩:∃s,s=l[i].2:=⟨_,rfl⟩;rw[←hs]at D;rw[←hs];have ad:(0:Int)≤(i:Int):=by omega
  have z:(i:Int)<(n:Int):=by have:=F.o;omega
  clear e1 e2 hf V W hs A;go_enter func12,ntmps12
  go_wp2_with (go_at_call 19;refine d.o.mono ?_;rintro e w1 ⟨rfl,hu⟩;have k3:=hu.cell (by simp) D);go_ret;exact⟨rfl,hu⟩
def lF(t:Int)(d v:ByteArray):Bool:=decide (t=0)==decide (d=v)
theorem Matches(w:World)(t:Int)(mn z v:ByteArray):Calls prog 11 #[.agg #[.int .i64 t,.string mn,.string z],.string v] w fun e w'=>e=.returned (.bool (lF t z v))∧Upd [] w w':=by
 obtain⟨b,hb⟩:∃b,b=(z.toList==v.toList):=⟨_,rfl⟩;have d:=hb;rw[bytes_beq]at d;have e:lF t z v=(decide (t=0)==b):=by rw[lF,d]
 rw[e];have hb2:=hb.symm;clear hb d e;go_enter func11,ntmps11
 go_wp2_with fail;go_ret;refine⟨?_,(ae _).alloc _⟩;simp only[hb2];rfl
def pj(w:World)(v:Value)(ls:List LabL):Prop:=∃ob cap,v=.slice ob ls.length cap∧∀j (h:j<ls.length),∃q o u,ob=some ⟨q,o,none⟩∧q<w.heap.size∧w.cell? ⟨q,o+j,none⟩=some u∧ki w u ls[j]
theorem pj.upd{w w':World}{v:Value}{ls:List LabL}(h:pj w v ls)(hu:Upd [] w w'):pj w' v ls:=by obtain⟨ob,cap,rfl,h⟩:=h;refine⟨ob,cap,rfl,fun j d=>?_⟩;obtain⟨q,o,u,e,h1,z,A⟩:=h j d;exact⟨q,o,u,e,bD h1 hu.size,hu.cell (by simp) z,A.upd hu⟩
abbrev nX:=List (Int×ByteArray×ByteArray)
def vg(w:World)(v:Value)(ms:nX):Prop:=∃ob cap,v=.slice ob ms.length cap∧∀j (h:j<ms.length),∃q o,ob=some ⟨q,o,none⟩∧q<w.heap.size∧w.cell? ⟨q,o+j*3,none⟩=some (.int .i64 ms[j].1)∧w.cell? ⟨q,o+j*3+1,none⟩=some (.string ms[j].2.1)∧w.cell? ⟨q,o+j*3+2,none⟩=some (.string ms[j].2.2)
theorem vg.upd{w w':World}{v:Value}{ms:nX}(h:vg w v ms)(hu:Upd [] w w'):vg w' v ms:=by obtain⟨ob,cap,rfl,h⟩:=h;refine⟨ob,cap,rfl,fun j d=>?_⟩;obtain⟨q,o,e,h1,z,A,h4⟩:=h j d;exact⟨q,o,e,bD h1 hu.size,hu.cell (by simp) z,hu.cell (by simp) A,hu.cell (by simp) h4⟩
theorem Bk(w:World)(v:Value)(l:LabL)(h:ki w v l):Calls prog 15 #[v] w fun e w'=>∃r,e=.returned (.bool r)∧Upd [] w w':=by
 obtain⟨ob,cap,rfl,h⟩:=h;obtain⟨n,hn⟩:∃n,n=l.length:=⟨_,rfl⟩;rw[←hn];have H:=aa h;have Hn:=aa hn;clear h hn;by_cases D:(2147483647:Int)<(n:Int)
 ·refine en (R:=fun e w'=>e=.returned (.bool false)∧Upd [] w w') ?_ (fun e w' h=>⟨_,h⟩);go_enter func15,ntmps15
  go_wp2_with fail;go_ret;exact⟨rfl,ae _⟩
 have F:n≤2147483647:=by omega
 go_enter func15,ntmps15
 go_wp2_with fail;go_loopg [10] n (fun gg z wx=>∃i:Nat,z=.int .i64 i∧Hid (gg+i=n)∧Hid (Upd [] w wx))
 case atStart=>exact⟨0,rfl,aa (by omega),aa (ae _)⟩
 case round=>
  obtain⟨i,rfl,G,d⟩:=hrel;by_cases ad:i<n
  ·have Hf:i<l.length:=by have:=Hn.o;omega
   obtain⟨a,oa,rfl,ha,O,U⟩:=H.o i Hf;have k1:=d.o.cell (by simp) O;have k3:=d.o.cell (by simp) U;obtain⟨s,hs⟩:∃s,s=l[i].1:=⟨_,rfl⟩;obtain⟨t,V⟩:∃t,t=l[i].2:=⟨_,rfl⟩;rw[←hs]at k1;rw[←V]at k3;clear ha U O hs V;have a0:(0:Int)≤(i:Int):=by omega
   have a1:(i:Int)<(n:Int):=by omega
   go_wp2_with (go_at_call 32;refine(Bl _ s t).mono ?_;rintro e w1 ⟨r,rfl,hu⟩;have W:=aa hu;clear hu;cases r)
   ·refine bodyPost_ret (v:=.bool false) (by simp[results,results15]) rfl ⟨_,rfl,(d.o.alloc _).then W.o (by simp)⟩
   ·go_roundg (n-(i+1))
    case measure=>have:=G.o;omega
    case rel=>exact⟨i+1,by simp,aa (by omega),aa ((d.o.alloc _).then W.o (by simp))⟩
  ·have A:i=n:=by have:=G.o;omega
   subst A;go_wp2_with fail;refine bodyPost_ret (v:=.bool true) (by simp[results,results15]) rfl ⟨_,rfl,d.o⟩
theorem Bo(w:World)(v:Value)(l:nX)(h:vg w v l):Calls prog 5 #[v] w fun e w'=>∃r,e=.returned (.bool r)∧Upd [] w w':=by
 obtain⟨ob,cap,rfl,h⟩:=h;obtain⟨n,hn⟩:∃n,n=l.length:=⟨_,rfl⟩;rw[←hn];have H:=aa h;have Hn:=aa hn;clear h hn;by_cases F:(2147483647:Int)<(n:Int)
 ·refine en (R:=fun e w'=>e=.returned (.bool false)∧Upd [] w w') ?_ (fun e w' h=>⟨_,h⟩);go_enter func5,ntmps5
  go_wp2_with fail;go_ret;exact⟨rfl,ae _⟩
 have G:n≤2147483647:=by omega
 go_enter func5,ntmps5
 go_wp2_with fail;go_loopg [10] n (fun gg A wx=>∃i:Nat,A=.int .i64 i∧Hid (gg+i=n)∧Hid (Upd [] w wx))
 case atStart=>exact⟨0,rfl,aa (by omega),aa (ae _)⟩
 case round=>
  obtain⟨i,rfl,O,d⟩:=hrel;by_cases ad:i<n
  ·have Hf:i<l.length:=by have:=Hn.o;omega
   obtain⟨a,oa,rfl,ha,U,V,W⟩:=H.o i Hf;have k1:=d.o.cell (by simp) U;have k3:=d.o.cell (by simp) V;have k5:=d.o.cell (by simp) W;obtain⟨s,hs⟩:∃s,s=l[i].2.1:=⟨_,rfl⟩;obtain⟨t,ht⟩:∃t,t=l[i].2.2:=⟨_,rfl⟩;obtain⟨ty,z⟩:∃t,t=l[i].1:=⟨_,rfl⟩;rw[←z]at k1;rw[←hs]at k3;rw[←ht]at k5;clear ha V U W hs ht z;have a0:(0:Int)≤(i:Int):=by omega
   have a1:(i:Int)<(n:Int):=by omega
   go_wp2_with (go_at_call 16;refine(Bn _ ty s t).mono ?_;rintro e w1 ⟨r,rfl,hu⟩;have HU:=aa hu;clear hu;cases r)
   ·refine bodyPost_ret (v:=.bool false) (by simp[results,results5]) rfl ⟨_,rfl,(d.o.alloc _).then HU.o (by simp)⟩
   ·go_roundg (n-(i+1))
    case measure=>have:=O.o;omega
    case rel=>exact⟨i+1,by simp,aa (by omega),aa ((d.o.alloc _).then HU.o (by simp))⟩
  ·have D:i=n:=by have:=O.o;omega
   subst D;go_wp2_with fail;refine bodyPost_ret (v:=.bool true) (by simp[results,results5]) rfl ⟨_,rfl,d.o⟩
theorem Bm(w:World)(v:Value)(l:List LabL)(h:pj w v l):Calls prog 4 #[v] w fun e w'=>∃r,e=.returned (.bool r)∧Upd [] w w':=by
 obtain⟨ob,cap,rfl,h⟩:=h;obtain⟨n,hn⟩:∃n,n=l.length:=⟨_,rfl⟩;rw[←hn];have H:=aa h;have V:=aa hn;clear h hn;by_cases D:(2147483647:Int)<(n:Int)
 ·refine en (R:=fun e w'=>e=.returned (.bool false)∧Upd [] w w') ?_ (fun e w' h=>⟨_,h⟩);go_enter func4,ntmps4
  go_wp2_with fail;go_ret;exact⟨rfl,ae _⟩
 have F:n≤2147483647:=by omega
 go_enter func4,ntmps4
 go_wp2_with fail;go_loopg [10] n (fun W z wx=>∃i:Nat,z=.int .i64 i∧Hid (W+i=n)∧Hid (Upd [] w wx))
 case atStart=>exact⟨0,rfl,aa (by omega),aa (ae _)⟩
 case round=>
  obtain⟨i,rfl,G,d⟩:=hrel;by_cases ad:i<n
  ·have Hf:i<l.length:=by have:=V.o;omega
   obtain⟨q,o,u,rfl,hq,O,hv⟩:=H.o i Hf;have k1:=d.o.cell (by simp) O;have K1:=aa (Bk wr u l[i] (hv.upd d.o));clear hq O hv;have a0:(0:Int)≤(i:Int):=by omega
   have a1:(i:Int)<(n:Int):=by omega
   go_wp2_with (go_at_call 15;refine K1.o.mono ?_;rintro e w1 ⟨r,rfl,hu⟩;have U:=aa hu;clear hu;cases r)
   ·refine bodyPost_ret (v:=.bool false) (by simp[results,results4]) rfl ⟨_,rfl,d.o.then U.o (by simp)⟩
   ·go_roundg (n-(i+1))
    case measure=>have:=G.o;omega
    case rel=>exact⟨i+1,by simp,aa (by omega),aa (d.o.then U.o (by simp))⟩
  ·have A:i=n:=by have:=G.o;omega
   subst A;go_wp2_with fail;refine bodyPost_ret (v:=.bool true) (by simp[results,results4]) rfl ⟨_,rfl,d.o⟩
open Go.ChangeShapes Go.WideShapes Go.Deep
section
variable {H:Type} {enc:TypeId×Value→H} {w:World} {spare:Nat→Bool} {held:Bool}
theorem oz{w:World}{a:Addr}{u:Value}(h:w.cell? (a.add 0)=some u):a.spot=none:=by
 unfold Addr.add at h;simp only[if_true]at h;unfold World.cell? at h;split at h
 ·split at h
  ·simp at h
  ·rename_i hs;cases e:a.spot with
   |none=>rfl
   |some x=>rw[e]at hs;simp at hs
 ·simp at h
theorem Tryz.cells56:Tryz.prog.cellsOf 56=2:=by kernel_rfl
theorem Tryz.cells27:Tryz.prog.cellsOf 27=1:=by kernel_rfl
theorem Tryz.cells32:Tryz.prog.cellsOf 32=3:=by kernel_rfl
theorem Tryz.cells9:Tryz.prog.cellsOf 9=1:=by kernel_rfl
theorem Tryz.cells3:Tryz.prog.cellsOf 3=1:=by kernel_rfl
theorem uw{fuel:Nat}{u:Value}{x:DataW H×List MemPlace}(h:DataW.trod enc prog w 0 spare held fuel 27 [u]=some x):∃l,ki w u l:=by
 rcases open_slice_pairs underlying27 underlying56 Tryz.cells56 rfl rfl Tryz.cells9 Tryz.cells9 h with⟨e,_⟩|⟨a,len,cap,m,n,G,O,D0,D1,P0,P1,e,_,U,_,hm,_,A⟩
 ·simp only[dS,and_true]at e;exact⟨[],none,0,by rw[e];rfl,fun j D=>by simp at D⟩
 ·simp only[dS,and_true]at e;subst e;have V:len≤m:=by rw[hm];split<;>omega
  have hs:∀i,i<len→∃p:ByteArray×ByteArray,G i=.string p.1∧O i=.string p.2:=fun i hi=>by obtain⟨_,_,W,h3⟩:=A i (by omega);obtain⟨s,e1,_⟩:=m8 underlying9 W;obtain⟨t,e2,_⟩:=m8 underlying9 h3;simp only[dS,and_true]at e1 e2;exact⟨(s,t),e1,e2⟩
  obtain⟨f,hf⟩:=choose_lt hs;refine⟨(List.range len).map f,some a,cap,by simp,fun j D=>?_⟩;have d:j<len:=by simpa using D
  have z:a.spot=none:=oz (by have:=(A 0 (by omega)).1;rwa [Nat.zero_mul]at this);obtain⟨b,o,sp⟩:=a;simp only at z;subst z;obtain⟨F,h1,_,_⟩:=A j (by omega);rw[(hf j d).1,aO]at F;rw[(hf j d).2,aO]at h1;refine⟨b,o,rfl,ez F,?_,?_⟩
  ·simpa using F
  ·simpa[kH]using h1
theorem sW{fuel:Nat}{v:Value}{x:DataW H×List MemPlace}(h:DataW.trod enc prog w 0 spare held fuel 22 [v]=some x):∃ls,pj w v ls:=by
 rcases open_slice underlying22 h with⟨e,_⟩|⟨a,len,cap,m,n,D,Pl,e,_,U,_,hm,_,O⟩
 ·simp only[dS,and_true]at e;exact⟨[],none,0,by rw[e];rfl,fun j A=>by simp at A⟩
 ·simp only[dS,and_true]at e;subst e;have V:len≤m:=by rw[hm];split<;>omega
  rw[Tryz.cells27]at O;have hs:∀i,i<len→∃p:LabL,∃u,w.cell? (a.add i)=some u∧ki w u p:=fun i hi=>by
   obtain⟨F,h1,W⟩:=O i (by omega);obtain⟨_,hlen,hc⟩:=World.cells?_some h1;match F,hlen with
   |[u],_=>
    obtain⟨l,hl⟩:=uw W;have:=hc 0 (by omega);rw[iI]at this;exact⟨l,u,by simpa[Addr.add]using this,hl⟩
  obtain⟨f,hf⟩:=choose_lt hs;refine⟨(List.range len).map f,some a,cap,by simp,fun j A=>?_⟩;have G:j<len:=by simpa using A
  have d:a.spot=none:=by obtain⟨u,z,_⟩:=hf 0 (by omega);exact oz z
  obtain⟨b,o,sp⟩:=a;simp only at d;subst d;obtain⟨u,z,hl⟩:=hf j G;rw[aO]at z;exact⟨b,o,u,rfl,ez z,z,by simpa using hl⟩
theorem qZ{fuel:Nat}{v:Value}{x:DataW H×List MemPlace}(h:DataW.trod enc prog w 0 spare held fuel 23 [v]=some x):∃ms,vg w v ms:=by
 rcases open_slice underlying23 h with⟨e,_⟩|⟨a,len,cap,m,n,D,Pl,e,_,ad,_,hm,_,V⟩
 ·simp only[dS,and_true]at e;exact⟨[],none,0,by rw[e];rfl,fun j F=>by simp at F⟩
 ·simp only[dS,and_true]at e;subst e;have a0:len≤m:=by rw[hm];split<;>omega
  rw[Tryz.cells32]at V;have hs:∀i,i<len→∃p:Int×ByteArray×ByteArray,w.cell? (a.add (i*3))=some (.int .i64 p.1)∧w.cell? ((a.add (i*3)).add 1)=some (.string p.2.1)∧w.cell? ((a.add (i*3)).add 2)=some (.string p.2.2):=fun i hi=>by
   obtain⟨G,h1,A⟩:=V i (by omega);obtain⟨_,hlen,O⟩:=World.cells?_some h1;obtain⟨y0,y1,y2,n,_,_,g0,g1,g2⟩:=trod_struct3 underlying32 A;match G,hlen with
   |[u0,u1,u2],_=>
    simp only[Tryz.cells3,Tryz.cells9,List.drop_zero,List.take_succ_cons,fd,List.drop_succ_cons]at g0 g1 g2;obtain⟨t,W,_⟩:=DataW.trod_int underlying3 g0;obtain⟨s1,e1,_⟩:=m8 underlying9 g1;obtain⟨s2,e2,_⟩:=m8 underlying9 g2;simp only[dS,and_true]at W e1 e2;subst W e1 e2;have c0:=O 0 (by omega);have c1:=O 1 (by omega);have c2:=O 2 (by omega);refine⟨(t,s1,s2),?_,by simpa using c1,by simpa using c2⟩;rw[show(a.add (i*3)).add 0=a.add (i*3)from rfl]at c0;simpa using c0
  obtain⟨f,hf⟩:=choose_lt hs;refine⟨(List.range len).map f,some a,cap,by simp,fun j F=>?_⟩;have U:j<len:=by simpa using F
  have z:a.spot=none:=by obtain⟨d,_⟩:=hf 0 (by omega);rw[Nat.zero_mul]at d;exact oz d
  obtain⟨b,o,sp⟩:=a;simp only at z;subst z;obtain⟨d,h1,A⟩:=hf j U;rw[aO]at d;rw[aO,aO]at h1 A;exact⟨b,o,rfl,ez d,by simpa using d,by simpa using h1,by simpa using A⟩
end
end Go.Proofs.YtlgefdfflmgocaaGreatDoor
