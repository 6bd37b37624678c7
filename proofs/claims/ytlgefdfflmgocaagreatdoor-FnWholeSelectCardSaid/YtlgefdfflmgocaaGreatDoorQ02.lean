import Derived.Test.YtlgefdfflmgocaaGreatDoorQ01
import Derived.Laws.IdiomStrings
import Derived.Lib.EndianMore
import Derived.Deep.DrawnRows
set_option linter.all false
set_option maxRecDepth 100000
set_option maxHeartbeats 2000000
namespace Go.Proofs.YtlgefdfflmgocaaGreatDoor
open Go Go.RowKit Xc Go.Proofs.Tryz
def RdG(w:World)(v:Value)(g:Nat)(bs:Bytes):Prop:=
 ∃off cap,v=.slice (some ⟨g,off,none⟩) bs.length cap∧(bs.length≤cap∧g<w.heap.size)∧∀j (h:j<bs.length),w.cell? ⟨g,off+j,none⟩=some (.int .u8 (bs[j]).toNat)
theorem RdG.rd{w:World}{v:Value}{g:Nat}{bs:Bytes}(h:RdG w v g bs):Rd w v bs:=by obtain⟨off,cap,h1,_,d⟩:=h;exact .inr ⟨g,off,cap,h1,d⟩
theorem RdG.lt{w:World}{v:Value}{g:Nat}{bs:Bytes}(h:RdG w v g bs):g<w.heap.size:=by obtain⟨off,cap,_,d,_⟩:=h;exact d.2
theorem RdG.drew{w:World}{v:Value}{g:Nat}{bs:Bytes}(h:RdG w v g bs):RdG w.drew v g bs:=h
theorem RdG.upd{L:List Nat}{w w':World}{v:Value}{g:Nat}{bs:Bytes}(h:RdG w v g bs)(hu:Upd L w w')(hn:g∉L):RdG w' v g bs:=by obtain⟨off,cap,h1,d,z⟩:=h;exact⟨off,cap,h1,⟨d.1,hu.lt d.2⟩,fun j A=>hu.cell hn (z j A)⟩
structure cm(w:World)(p g:Nat)(bs:Bytes):Prop where
 blk:∃v,w.heap[p]? =some (.cells #[v,.nilIface] 159 (0,0))∧RdG w v g bs
 ne:g≠p
theorem cm.upd{L:List Nat}{w w':World}{p g:Nat}{bs:Bytes}(h:cm w p g bs)(hu:Upd L w w')(h1:p∉L)(d:g∉L):cm w' p g bs:=by obtain⟨v,hb,hr⟩:=h.blk;exact⟨⟨v,hu.blk hb h1,hr.upd hu d⟩,h.ne⟩
theorem RdG.sub{w:World}{g off off' cap':Nat}{bs l:Bytes}(h:∀j (h:j<bs.length),w.cell? ⟨g,off+j,none⟩=some (.int .u8 (bs[j]).toNat))(k:Nat)(A:l≠[]→off'=off+k)(hl:l=(bs.drop k).take l.length)(D:l.length≤cap')(hg:g<w.heap.size):
 RdG w (.slice (some ⟨g,off',none⟩) l.length cap') g l:=by
 refine⟨off',cap',rfl,⟨D,hg⟩,fun j d=>?_⟩;have hlen:l.length≤bs.length-k:=by have:=congrArg List.length hl;simp at this;omega
 have e:=A (by intro e;subst e;simp at d);subst e;have:=h (k+j) (by omega);rw[kH,this];congr 2;have z:l[j]? =((bs.drop k).take l.length)[j]? :=by rw[←hl]
 rw[me,if_pos d,md]at z;rw[az d,az (by omega)]at z;rw[cI z]
theorem cm.set{w:World}{p g:Nat}{v v':Value}{bs:Bytes}(hb:w.heap[p]? =some (.cells #[v,.nilIface] 159 (0,0)))(hr:RdG w v' g bs)(G5:g≠p):
 cm (w.setCell ⟨p,0,none⟩ v') p g bs∧Upd [p] w (w.setCell ⟨p,0,none⟩ v'):=by
 have d:Upd [p] w (w.setCell ⟨p,0,none⟩ v'):=((ae w).mono (by simp)).setCell (by simp) _;exact⟨⟨⟨v',au hb _ _,hr.upd d (by simpa using G5)⟩,G5⟩,d⟩
theorem wI(x:Nat):Lib.uvarint x≠[]:=by intro h1;rw[Lib.uvarint]at h1;split at h1<;>simp at h1
theorem cm.open{w:World}{p g:Nat}{bs:Bytes}(h:cm w p g bs):∃off cap N,Hid (N=bs.length)∧N≤cap∧w.cell? ⟨p,0,none⟩=some (.slice (some ⟨g,off,none⟩) N cap)∧w.cell? ⟨p,1,none⟩=some .nilIface∧
 w.frozen? ⟨p,0,none⟩=false∧Hid (RdG w (.slice (some ⟨g,off,none⟩) N cap) g bs)∧
 Hid (∀k off',k≤N→(k<N→off'=off+k)→cm (w.setCell ⟨p,0,none⟩ (.slice (some ⟨g,off',none⟩) (N-k) (cap-k))) p g (bs.drop k)∧Upd [p] w (w.setCell ⟨p,0,none⟩ (.slice (some ⟨g,off',none⟩) (N-k) (cap-k)))):=by
 obtain⟨v,hb,hr⟩:=h.blk;obtain⟨off,cap,rfl,d,z⟩:=hr;refine⟨off,cap,bs.length,rfl,d.1,by rw[af hb];rfl,by rw[af hb];rfl,ao hb 0,⟨off,cap,rfl,d,z⟩,fun k off' D A=>?_⟩;have hl:(bs.drop k).length=bs.length-k:=cy;have hR:RdG w (.slice (some ⟨g,off',none⟩) (bs.drop k).length (cap-k)) g (bs.drop k):=RdG.sub z k (fun G5=>A (by have:=List.length_pos_iff.2 G5;omega)) (by rw[hl,←hl,aS]) (by omega) d.2;rw[hl]at hR;exact cm.set hb hR h.ne
theorem ko{a b:Bytes}:(a++b).drop a.length=b:=eZ
theorem cm.cuts{w:World}{p g off cap N k:Nat}{bs rest:Bytes}(d:N≤cap)(z:k≤N)(hr:bs.drop k=rest)
 (h:Hid (∀k off',k≤N→(k<N→off'=off+k)→cm (w.setCell ⟨p,0,none⟩ (.slice (some ⟨g,off',none⟩) (N-k) (cap-k))) p g (bs.drop k)∧Upd [p] w (w.setCell ⟨p,0,none⟩ (.slice (some ⟨g,off',none⟩) (N-k) (cap-k))))):
 (cap=k→Hid (cm (w.setCell ⟨p,0,none⟩ (.slice (some ⟨g,off,none⟩) 0 0)) p g rest∧Upd [p] w (w.setCell ⟨p,0,none⟩ (.slice (some ⟨g,off,none⟩) 0 0))))∧
 Hid (cm (w.setCell ⟨p,0,none⟩ (.slice (some ⟨g,off+k,none⟩) (N-k) (cap-k))) p g rest∧Upd [p] w (w.setCell ⟨p,0,none⟩ (.slice (some ⟨g,off+k,none⟩) (N-k) (cap-k)))):=by
 subst hr;refine⟨fun e=>?_,h.o k _ z (fun _=>rfl)⟩;have:=h.o k off z (fun _=>by omega);rw[show N-k=0 by omega,show cap-k=0 by omega]at this;exact this
theorem ju(p g x:Nat)(rest:Bytes)(w:World)(D:cm w p g (Lib.uvarint x++rest))(F:x<2097152)(hn:(Lib.uvarint x++rest).length<1073741824):
 Calls prog 130 #[.pointer (some ⟨p,0,none⟩)] w fun e w'=>e=.returned (.int .u64 x)∧cm w' p g rest∧Upd [p] w w':=by
 obtain⟨off,cap,N,G,z,c0,c1,f0,O,HS⟩:=D.open;have a0:=List.length_pos_iff.2 (wI x);have hN:(Lib.uvarint x).length≤N:=by rw[G.o,ab];omega
 have hN2:N<1073741824:=by rw[G.o];exact hn
 have U:=aa hn;have a1:(0:Int)≤((Lib.uvarint x).length:Int):=by omega
 have a2:((Lib.uvarint x).length:Int)≤(N:Int):=by omega
 have V:=aa (fun w=>wQ (.slice (some ⟨g,off,none⟩) N cap) x rest w);have HD:Hid ((Lib.uvarint x++rest).drop (Lib.uvarint x).length=rest):=aa ko;obtain⟨A,W⟩:=cm.cuts z hN ko HS;clear hn D;generalize (Lib.uvarint x).length=u at*;by_cases d:cap=u
 ·have K:=A d;clear A W;subst d;go_enter func130,ntmps130
  go_wp2_with (go_at_call 185;refine(V.o _ O.o.rd F U.o).mono ?_;rintro e w1 ⟨rfl,rfl⟩);go_ret;exact⟨rfl,K.o⟩
 ·clear A;have ad:(cap=u)=False:=by simp[d]
  go_enter func130,ntmps130
  go_wp2_with (go_at_call 185;refine(V.o _ O.o.rd F U.o).mono ?_;rintro e w1 ⟨rfl,rfl⟩);go_ret;exact⟨rfl,W.o⟩
theorem fG(p g x:Nat)(rest:Bytes)(w:World)(d:cm w p g (Lib.uvarint x++rest))(z:x<2097152)(hn:(Lib.uvarint x++rest).length<1073741824):
 Calls prog 127 #[.pointer (some ⟨p,0,none⟩)] w fun e w'=>e=.returned (.int .i64 x)∧cm w' p g rest∧Upd [p] w w':=by
 go_enter func127,ntmps127
 go_wp2_with (go_at_call 130;refine(ju p g x rest _ d z hn).mono ?_;rintro e w1 ⟨rfl,hP,A⟩);go_ret;exact⟨rfl,hP,A⟩
theorem tF(p g l:Nat)(bs:Bytes)(w:World)(D:cm w p g bs)(hl:l≤bs.length)(hn:bs.length<1073741824):
 Calls prog 124 #[.pointer (some ⟨p,0,none⟩),.int .i64 l] w fun e w'=>e=.returned (.tuple #[])∧cm w' p g (bs.drop l)∧Upd [p] w w':=by
 obtain⟨off,cap,N,F,z,c0,c1,f0,HR,U⟩:=D.open;have hN:l≤N:=by rw[F.o];exact hl
 have hN2:N<1073741824:=by rw[F.o];exact hn
 obtain⟨A,G⟩:=cm.cuts z hN rfl U;have V:(0:Int)≤(l:Int):=by omega
 have W:(l:Int)≤(N:Int):=by omega
 clear hn D hl;by_cases d:cap=l
 ·have K:=A d;clear A G;subst d;go_enter func124,ntmps124
  go_wp2_with fail;go_end0
  exact⟨rfl,K.o⟩
 ·clear A;have O:(cap=l)=False:=by simp[d]
  go_enter func124,ntmps124
  go_wp2_with fail;go_end0
  exact⟨rfl,G.o⟩
theorem je(p g:Nat)(bs:Bytes)(w:World)(z:cm w p g bs):
 Calls prog 118 #[.pointer (some ⟨p,0,none⟩)] w fun e w'=>e=.returned .nilIface∧w=w':=by
 obtain⟨off,cap,N,A,d,D,c1,F,G,O⟩:=z.open;go_enter func118,ntmps118
 go_wp2_with fail;go_ret;exact⟨rfl,rfl⟩
theorem kL(p g:Nat)(bs:Bytes)(w:World)(z:cm w p g bs):
 Calls prog 126 #[.pointer (some ⟨p,0,none⟩)] w fun e w'=>e=.returned (.int .i64 bs.length)∧w=w':=by
 obtain⟨off,cap,N,A,d,D,c1,F,G,O⟩:=z.open;rw[←A.o];go_enter func126,ntmps126
 go_wp2_with fail;go_ret;exact⟨rfl,rfl⟩
theorem E8(p g:Nat)(bs:Bytes)(w:World)(z:cm w p g bs):
 Calls prog 117 #[.pointer (some ⟨p,0,none⟩)] w fun e w'=>∃v,e=.returned v∧RdG w v g bs∧w=w':=by
 obtain⟨off,cap,N,D,d,F,c1,G,A,O⟩:=z.open;go_enter func117,ntmps117
 go_wp2_with fail;go_ret;exact⟨_,rfl,A.o,rfl⟩
theorem RdG.head{w:World}{g off cap N n:Nat}{l rest:Bytes}(h:RdG w (.slice (some ⟨g,off,none⟩) N cap) g (l++rest))(hn:n=l.length):RdG w (.slice (some ⟨g,off,none⟩) n cap) g l:=by obtain⟨off',cap',e,z,d⟩:=h;cases e;subst hn;refine RdG.sub d 0 (fun _=>by simp) (by simp) (by simp only[ab]at z;omega) z.2
theorem dM(p g:Nat)(l rest:Bytes)(w:World)(A:cm w p g (Lib.uvarint l.length++(l++rest)))(O:l.length<2097152)(hn:(Lib.uvarint l.length++(l++rest)).length<1073741824):
 Calls prog 128 #[.pointer (some ⟨p,0,none⟩)] w fun e w'=>∃v,e=.returned v∧RdG w' v g l∧cm w' p g rest∧Upd [p] w w':=by
 have G5:=A.ne;have D:Hid ((l++rest).length<1073741824):=aa (by simp only[ab]at hn⊢;omega);obtain⟨n,Ie⟩:∃n,n=l.length:=⟨_,rfl⟩;have d:=aa Ie;have U:∀w,cm w p g (Lib.uvarint n++(l++rest))→Calls prog 130 #[.pointer (some ⟨p,0,none⟩)] w fun e w'=>e=.returned (.int .u64 n)∧cm w' p g (l++rest)∧Upd [p] w w':=fun w h=>by rw[Ie]at h⊢;exact ju p g l.length (l++rest) w h O hn
 rw[←Ie]at A O;have HC:=aa U;clear hn Ie U;go_enter func128,ntmps128
 go_wp2_with (go_at_call 130;refine(HC.o _ A).mono ?_;rintro e w1 ⟨rfl,hP,V⟩;obtain⟨off,cap,N,W,ad,c0,c1,f0,HR,HS⟩:=hP.open;have z:n≤N:=(by rw[W.o,d.o,ab];omega);have a0:N<1073741824:=(by rw[W.o];exact D.o);have a1:(0:Int)≤(n:Int):=(by omega);have a2:(n:Int)≤(N:Int):=(by omega);have G4:(n:Int)≤(cap:Int):=(by omega));all_goals go_ret
 ·rename_i h;have F:(l++rest).drop n=rest:=by rw[d.o];exact ko
  have K:=HS.o n off z (fun _=>by omega);rw[F,h,iN]at K;refine⟨_,rfl,?_,K.1,V.then K.2 (fun i G _=>G)⟩;have H:=HR.o.head d.o;rw[h]at H;exact H.upd K.2 (by simpa using G5)
 ·have F:(l++rest).drop n=rest:=by rw[d.o];exact ko
  have K:=HS.o n (off+n) z (fun _=>rfl);rw[F]at K;exact⟨_,rfl,(HR.o.head d.o).upd K.2 (by simpa using G5),K.1,V.then K.2 (fun i G _=>G)⟩
abbrev str(l:Bytes):ByteArray:=⟨l.toArray⟩
theorem dG(l:Bytes):sb (str l)=l:=by simp[sb]
theorem dX(s:ByteArray):str (sb s)=s:=by simp[sb,str]
theorem RdG.str{w:World}{v:Value}{g:Nat}{l:Bytes}(h:RdG w v g l):(convert 65 9 v).run prog w=.ok (.string (str l)) w:=by
 obtain⟨off,cap,rfl,_,d⟩:=h;refine run_convert_bytes_back w 65 9 5 ⟨g,off,none⟩ cap l underlying65 underlying5 underlying9 fun j z=>?_;have e:((⟨g,off,none⟩:Addr).add j)=⟨g,off+j,none⟩:=by
  unfold Addr.add;split
  ·subst_vars;rfl
  ·rfl
 rw[e];exact d j z
theorem vu(p g:Nat)(l rest:Bytes)(w:World)(d:cm w p g (Lib.uvarint l.length++(l++rest)))(z:l.length<2097152)(hn:(Lib.uvarint l.length++(l++rest)).length<1073741824):
 Calls prog 226 #[.pointer (some ⟨p,0,none⟩)] w fun e w'=>e=.returned (.string (str l))∧cm w' p g rest∧Upd [p] w w':=by
 go_enter func226,ntmps226
 go_wp2_with (go_at_call 128;refine(dM p g l rest _ d z hn).mono ?_;rintro e w1 ⟨v,rfl,hv,hP,A⟩;have D:=hv.str);go_ret;exact⟨rfl,hP,A⟩
theorem tw(g:Nat)(v:Value)(l:Bytes)(w:World)(h:RdG w v g l):Calls prog 129 #[v] w fun e w'=>e=.returned (.string (str l))∧w=w':=by
 have d:=h.str;go_enter func129,ntmps129
 go_wp2_with fail;go_ret;exact⟨rfl,rfl⟩
theorem Bj(g:Nat)(v:Value)(l:Bytes)(w:World)(h:RdG w v g l):Calls prog 140 #[v] w fun e w'=>e=.returned (.string (str l))∧w=w':=by
 have d:=h.str;go_enter func140,ntmps140
 go_wp2_with fail;go_ret;exact⟨rfl,rfl⟩
theorem zA(x:Nat):∃b0 b1 b2 b3,Lib.beBytes 4 x=[b0,b1,b2,b3]:=by simp[Lib.beBytes,Lib.leBytes]
theorem zB(x:Nat):∃b0 b1 b2 b3 b4 d z A,Lib.beBytes 8 x=[b0,b1,b2,b3,b4,d,z,A]:=by simp[Lib.beBytes,Lib.leBytes]
theorem qE(g x:Nat)(v:Value)(rest:Bytes)(w:World)(h:RdG w v g (Lib.beBytes 4 x++rest))(O:x<4294967296):
 Calls prog 120 #[.agg #[],v] w fun e w'=>e=.returned (.int .u32 x)∧Upd [] w w':=by
 obtain⟨off,cap,rfl,d,z⟩:=h;obtain⟨b0,b1,b2,b3,e⟩:=zA x;have hb:Lib.beNat [b0,b1,b2,b3]=x:=by rw[←e];exact Lib.beNat_beBytes 4 x (by omega)
 rw[e]at z d⊢;have A:=z 0 (by simp);have h1:=z 1 (by simp);have D:=z 2 (by simp);have F:=z 3 (by simp);refine(Tryz.binary_BE_Uint32 g off _ cap b0 b1 b2 b3 w (by simp) A h1 D F).mono ?_;rintro e w' ⟨he,G⟩;rw[hb]at he;exact⟨he,Upd.ofBelow G⟩
theorem FV(g x:Nat)(v:Value)(rest:Bytes)(w:World)(h:RdG w v g (Lib.beBytes 8 x++rest))(hx:x<18446744073709551616):
 Calls prog 237 #[.agg #[],v] w fun e w'=>e=.returned (.int .u64 x)∧Upd [] w w':=by
 obtain⟨off,cap,rfl,z,d⟩:=h;obtain⟨b0,b1,b2,b3,b4,A,D,F,e⟩:=zB x;have hb:Lib.beNat [b0,b1,b2,b3,b4,A,D,F]=x:=by rw[←e];exact Lib.beNat_beBytes 8 x (by omega)
 rw[e]at d z⊢;have G:=d 0 (by simp);have h1:=d 1 (by simp);have O:=d 2 (by simp);have U:=d 3 (by simp);have h4:=d 4 (by simp);have h5:=d 5 (by simp);have V:=d 6 (by simp);have h7:=d 7 (by simp);refine(Tryz.binary_BE_Uint64 g off _ cap b0 b1 b2 b3 b4 A D F w (by simp) G h1 O U h4 h5 V h7).mono ?_;rintro e w' ⟨he,W⟩;rw[hb]at he;exact⟨he,Upd.ofBelow W⟩
theorem C4(p g x:Nat)(rest:Bytes)(w:World)(hD:cm w p g (Lib.beBytes 4 x++rest))(hx:x<4294967296)(hn:(Lib.beBytes 4 x++rest).length<1073741824):
 Calls prog 182 #[.pointer (some ⟨p,0,none⟩)] w fun e w'=>e=.returned (.int .u32 x)∧cm w' p g rest∧Upd [p] w w':=by
 obtain⟨off,cap,N,HN,a2,c0,c1,f0,HR,HS⟩:=hD.open;have hN:4≤N:=by rw[HN.o,ab,Lib.beBytes_length];omega
 have hN2:N<1073741824:=by rw[HN.o];exact hn
 have ad:=aa hn;have G5:=hD.ne;have HD:=aa hD;have F:(Lib.beBytes 4 x++rest).drop 4=rest:=by
  have:(Lib.beBytes 4 x).length=4:=Lib.beBytes_length 4 x;conv=>lhs;arg 1;rw[←this]
  exact ko
 have G:=aa F;clear hn hD F;go_enter func182,ntmps182
 go_wp2_with fail;go_region_with (go_at_call 120;refine(qE g x _ rest _ HR.o.drew hx).mono ?_;rintro e w1 ⟨rfl,hU⟩)
 all_goals
  have A:=cz hU;have a0:=HD.o.upd A (by simp) (by simp);obtain⟨z,d,N1,O,a1,a5,a6,a7,a9,U⟩:=a0.open;have V:4≤N1:=by rw[O.o,ab,Lib.beBytes_length];omega
  have a3:N1<1073741824:=by rw[O.o];exact ad.o
  have bb:(4:Int)≤(N1:Int):=by omega
  have bd:(4:Int)≤(d:Int):=by omega
  by_cases D:d=4
  ·have K:=U.o 4 z V (fun _=>by omega);rw[G.o,D,show N1-4=0 by omega]at K;have W:=aa K;clear K;subst D;go_wp2_with fail;go_ret;exact⟨rfl,W.o.1,(A.mono (by simp)).then W.o.2 (fun i hi _=>hi)⟩
  ·have K:=U.o 4 (z+4) V (fun _=>rfl);rw[G.o]at K;have W:=aa K;clear K;have a4:(d=4)=False:=by simp[D]
   go_wp2_with fail;go_ret;exact⟨rfl,W.o.1,(A.mono (by simp)).then W.o.2 (fun i hi _=>hi)⟩
theorem rx(p g x:Nat)(rest:Bytes)(w:World)(hD:cm w p g (Lib.beBytes 8 x++rest))(hx:x<18446744073709551616)(hn:(Lib.beBytes 8 x++rest).length<1073741824):
 Calls prog 215 #[.pointer (some ⟨p,0,none⟩)] w fun e w'=>e=.returned (.int .u64 x)∧cm w' p g rest∧Upd [p] w w':=by
 obtain⟨off,cap,N,HN,a2,c0,c1,f0,HR,HS⟩:=hD.open;have hN:8≤N:=by rw[HN.o,ab,Lib.beBytes_length];omega
 have hN2:N<1073741824:=by rw[HN.o];exact hn
 have ad:=aa hn;have G5:=hD.ne;have HD:=aa hD;have F:(Lib.beBytes 8 x++rest).drop 8=rest:=by
  have:(Lib.beBytes 8 x).length=8:=Lib.beBytes_length 8 x;conv=>lhs;arg 1;rw[←this]
  exact ko
 have G:=aa F;clear hn hD F;go_enter func215,ntmps215
 go_wp2_with fail;go_region_with (go_at_call 237;refine(FV g x _ rest _ HR.o.drew hx).mono ?_;rintro e w1 ⟨rfl,hU⟩)
 all_goals
  have A:=cz hU;have a0:=HD.o.upd A (by simp) (by simp);obtain⟨z,d,N1,O,a1,a5,a6,a7,a9,U⟩:=a0.open;have V:8≤N1:=by rw[O.o,ab,Lib.beBytes_length];omega
  have a3:N1<1073741824:=by rw[O.o];exact ad.o
  have bb:(8:Int)≤(N1:Int):=by omega
  have bd:(8:Int)≤(d:Int):=by omega
  by_cases D:d=8
  ·have K:=U.o 8 z V (fun _=>by omega);rw[G.o,D,show N1-8=0 by omega]at K;have W:=aa K;clear K;subst D;go_wp2_with fail;go_ret;exact⟨rfl,W.o.1,(A.mono (by simp)).then W.o.2 (fun i hi _=>hi)⟩
  ·have K:=U.o 8 (z+8) V (fun _=>rfl);rw[G.o]at K;have W:=aa K;clear K;have a4:(d=8)=False:=by simp[D]
   go_wp2_with fail;go_ret;exact⟨rfl,W.o.1,(A.mono (by simp)).then W.o.2 (fun i hi _=>hi)⟩
theorem tL(p g x:Nat)(rest:Bytes)(w:World)(d:cm w p g (Lib.beBytes 4 x++rest))(z:x<4294967296)(hn:(Lib.beBytes 4 x++rest).length<1073741824):
 Calls prog 116 #[.pointer (some ⟨p,0,none⟩)] w fun e w'=>e=.returned (.int .i64 x)∧cm w' p g rest∧Upd [p] w w':=by
 go_enter func116,ntmps116
 go_wp2_with (go_at_call 182;refine(C4 p g x rest _ d z hn).mono ?_;rintro e w1 ⟨rfl,hP,A⟩);go_ret;exact⟨rfl,hP,A⟩
attribute [local go_sem ↓] Go.wp_at_zero Go.wp_at_succ
abbrev ld:Nat:=2197175160
def crc(bs:Bytes):Nat:=iK ld 0 bs
theorem sw(bs:Bytes):crc bs<4294967296:=tK (by decide) (by decide) bs
def ij(w:World)(tb:Nat):Prop:=w.heap[tb]? =some (.cells #[.int .u32 ld] 352 (0,0))
structure Dig(w:World)(b tb c:Nat):Prop where
 blk:w.heap[b]? =some (.cells #[.int .u32 c,.pointer (some ⟨tb,0,none⟩)] 419 (0,0))
 tab:ij w tb
 lt:c<4294967296
theorem Dig.upd{L:List Nat}{w w':World}{b tb c:Nat}(h:Dig w b tb c)(hu:Upd L w w')(h1:b∉L)(d:tb∉L):Dig w' b tb c:=
 ⟨hu.blk h.blk h1,hu.blk h.tab d,h.lt⟩
theorem Dig.ne{w:World}{b tb c:Nat}(h:Dig w b tb c):b≠tb:=by intro e;subst e;have:=h.blk.symm.trans h.tab;simp at this
theorem xG(w:World):Calls prog 122 #[.int .u32 ld] w fun e w'=>e=.returned (.pointer (some ⟨w.heap.size,0,none⟩))∧ij w' w.heap.size∧Upd [] w w':=by
 go_enter func122,ntmps122
 go_wp2_with fail;go_ret;exact⟨rfl,an _,(ae w).alloc _⟩
theorem eL(w:World):Calls prog 58 #[] w fun e w'=>∃tb,e=.returned (.pointer (some ⟨tb,0,none⟩))∧ij w' tb∧w.heap.size≤tb∧Upd [] w w':=by
 go_enter func58,ntmps58
 go_wp2_with (go_at_call 122;refine(xG _).mono ?_;rintro e w1 ⟨rfl,h1,d⟩);go_ret;exact⟨_,rfl,h1,aw _,d⟩
theorem FU(tb:Nat)(w:World)(d:ij w tb):Calls prog 221 #[.pointer (some ⟨tb,0,none⟩)] w fun e w'=>
 e=.returned (.iface 417 (.pointer (some ⟨w.heap.size,0,none⟩)))∧Dig w' w.heap.size tb 0∧Upd [] w w':=by
 go_enter func221,ntmps221
 go_wp2_with fail;go_ret;exact⟨rfl,⟨an _,by unfold ij;rw[eB _ (lt_of_block d)];exact d,by decide⟩,(ae w).alloc _⟩
theorem AG(w:World):Calls prog 195 #[] w fun e w'=>
 ∃b tb,e=.returned (.iface 417 (.pointer (some ⟨b,0,none⟩)))∧Dig w' b tb 0∧w.heap.size≤b∧w.heap.size≤tb∧Upd [] w w':=by
 go_enter func195,ntmps195
 go_wp2_with (first|(go_at_call 58;refine(eL _).mono ?_;rintro e w1 ⟨tb,rfl,h1,hle,d⟩)|(go_at_call 221;refine(FU _ _ h1).mono ?_;rintro e w2 ⟨rfl,z,h4⟩));go_ret;exact⟨_,_,rfl,z,d.size,hle,d.then h4 (by simp)⟩
theorem tM(b tb c:Nat)(w:World)(h:Dig w b tb c):Calls prog 356 #[.pointer (some ⟨b,0,none⟩)] w fun e w'=>
 e=.returned (.tuple #[])∧Dig w' b tb 0∧Upd [b] w w':=by
 have z:w.cell? ⟨b,0,none⟩=some (.int .u32 c):=by rw[af h.blk];rfl
 have d:=ao h.blk 0;go_enter func356,ntmps356
 go_wp2_with fail;go_end0
 exact⟨rfl,⟨au h.blk _ _,by unfold ij;rw[gv _ _ (by simpa using h.ne.symm)];exact h.tab,by decide⟩,((ae w).mono (by simp)).setCell (by simp) _⟩
theorem zP(b tb c:Nat)(v:Value)(bs:Bytes)(w:World)(h:Dig w b tb c)(hr:Rd w v bs)(hb:bs.length<1073741824):
 Calls prog 360 #[.pointer (some ⟨b,0,none⟩),v] w fun e w'=>
 e=.returned (.tuple #[.int .i64 bs.length,.nilIface])∧Dig w' b tb (iK ld c bs)∧Upd [b] w w':=by
 have O:w.cell? ⟨b,0,none⟩=some (.int .u32 c):=by rw[af h.blk];rfl
 have z:w.drew.cell? ⟨tb,0,none⟩=some (.int .u32 ld):=by rw[af (w:=w.drew) h.tab];rfl
 have h1:w.cell? ⟨b,1,none⟩=some (.pointer (some ⟨tb,0,none⟩)):=by rw[af h.blk];rfl
 have D:=ao h.blk 0;have F:=ao h.blk 1;have G:=aa hr;have A:=aa h;obtain⟨U,cap,rfl⟩:=hr.form;clear hr h;go_enter func360,ntmps360
 go_wp2_with fail;go_region_with (first|(go_at_call 217;refine(zk tb ld c _ bs _ G.o.drew z hb A.o.lt (by decide)).mono ?_;rintro e w1 ⟨rfl,rfl⟩))
 all_goals
  go_wp2_with fail;go_ret2
  have d:=A.o;exact⟨rfl,⟨au d.blk _ _,by show(w.setCell _ _).heap[tb]? =_;rw[gv _ _ (by simpa using d.ne.symm)];exact d.tab,tK (by decide) d.lt _⟩,(((ae w).mono (by simp)).setCell (by simp) _).drew⟩
theorem vB(w:World)(a b c d:Value)(T:TypeId):∀j u,[a,b,c,d][j]? =some u→(w.alloc (.cells #[a,b,c,d] T (0,0))).cell? ((⟨w.heap.size,0,none⟩:Addr).add j)=some u:=by
 intro j u h;have hn:(w.alloc (.cells #[a,b,c,d] T (0,0))).heap[w.heap.size]? =_:=an _;have e:((⟨w.heap.size,0,none⟩:Addr).add j)=⟨w.heap.size,j,none⟩:=by
  unfold Addr.add;split
  ·subst_vars;rfl
  ·simp
 rw[e,af hn];simpa using h
theorem xN(c:Nat)(h:c<4294967296):[Value.int .u8 ((c:Int)/16777216),.int .u8 ((c:Int)/65536 % 256),.int .u8 ((c:Int)/256 % 256),.int .u8 ((c:Int) % 256)]=Lib.byteCells (Lib.beBytes 4 c):=by
 have e1:(c:Int)/16777216=((c/256/256/256 % 256:Nat):Int):=by omega
 have e2:(c:Int)/65536 % 256=((c/256/256 % 256:Nat):Int):=by omega
 have e3:(c:Int)/256 % 256=((c/256 % 256:Nat):Int):=by omega
 have e4:(c:Int) % 256=((c % 256:Nat):Int):=by omega
 rw[e1,e2,e3,e4];simp only[Lib.byteCells,Lib.beBytes,Lib.leBytes,List.reverse_cons,List.reverse_nil,bz,dn,aN,cQ,Lib.toUInt8_mod]
structure yW(w w':World)(v:Value)(g:Option Nat)(bs:Bytes):Prop where
 row:∃k cap,v=.slice (some ⟨k,0,none⟩) bs.length cap∧gl w' v (some k) bs∧(g=some k∨w.heap.size≤k)
 upd:Upd g.toList w w'
theorem yW.ofDrew{w w':World}{v:Value}{g:Option Nat}{bs:Bytes}(h:yW w.drew w' v g bs):yW w w' v g bs:=⟨h.row,cz h.upd⟩
theorem DQ(b tb c:Nat)(v:Value)(g:Option Nat)(bs:Bytes)(w:World)(h:Dig w b tb c)(hr:gl w v g bs)(hb:bs.length<1073741824):
 Calls prog 358 #[.pointer (some ⟨b,0,none⟩),v] w fun e w'=>
 ∃v',e=.returned v'∧yW w w' v' g (bs++Lib.beBytes 4 c):=by
 have U:w.cell? ⟨b,0,none⟩=some (.int .u32 c):=by rw[af h.blk];rfl
 have z:=h.lt;obtain⟨i0,A,D,F,G⟩:=info_parts Tryz.info5;go_enter func358,ntmps358
 go_wp2_with (at_builtin;refine iD _ rfl _ _ 65 rfl 5 i0 (.int .u8 0) 1 1 underlying65 A D F G rfl (by decide) v bs.length (Lib.byteCells bs) rfl (hr.own.alloc _) ⟨w.heap.size,0,none⟩ 4 4 [.int .u8 ((c:Int)/16777216),.int .u8 ((c:Int)/65536 % 256),.int .u8 ((c:Int)/256 % 256),.int .u8 ((c:Int) % 256)] rfl rfl ?c1 ?c2 ?c3 ?c4 ?c5 ?_);case c1=>exact vB w _ _ _ _ _
 case c2=>simp[Value.oneCell']
 case c3=>unfold maxLen;omega
 case c4=>omega
 case c5=>omega
 intro g' cap' w1 d hu O;rw[xN c z]at d;go_wp2_with fail;go_ret;refine⟨_,rfl,⟨g',cap',?_,⟨?_,rfl⟩,?_⟩,?_⟩
 ·simp[Lib.beBytes_length]
 ·simpa[Lib.byteCells,Lib.beBytes_length]using d
 ·exact hr.blk▸O.imp id (fun h=>by omega)
 ·rw[←hr.blk];exact((((ae w).alloc _).mono (by simp)).then hu (fun i A _=>A))
theorem Dig.drew{w:World}{b tb c:Nat}(h:Dig w b tb c):Dig w.drew b tb c:=⟨h.blk,h.tab,h.lt⟩
theorem wg(a:Addr)(w:World):(nilAhead 616 417 (.pointer (some a)) "Write").run prog w=.ok (some false) w:=by kernel_rfl
theorem qX(a:Addr)(w:World):(method 616 417 (.pointer (some a)) "Write").run prog w=.ok (360,.pointer (some a)) w:=by kernel_rfl
theorem oC(T p o:Nat)(c:Array Value)(g:Option Nat)(bs:Bytes)(b tb s:Nat)(w:World)(A:w.heap[p]? =some (.cells c T (0,0)))(hE:fy w p o c g bs)(D:Dig w b tb s)(hn:bs.length<1073741824):
 Calls prog 168 #[.pointer (some ⟨p,o,none⟩),.iface 417 (.pointer (some ⟨b,0,none⟩))] w fun e w'=>
  e=.returned (.tuple #[])∧Dig w' b tb (iK ld s bs)∧Upd [b] w w':=by
 obtain⟨v,hv,hr⟩:=hE.row;have G:w.cell? ⟨p,o,none⟩=some v:=by rw[af A,hv]
 have F:=ao A o;have hN:=wg;have hM:=qX;go_enter func168,ntmps168
 go_wp2_with fail;go_region_with (first|(go_at_call 360;refine(zP b tb s v bs _ D.drew hr.drew.rd hn).mono ?_;rintro e w1 ⟨rfl,d,z⟩))
 all_goals
  go_wp2_with fail;go_end0
  exact⟨rfl,d,cz z⟩
theorem we(a:Addr)(w:World):(nilAhead 616 417 (.pointer (some a)) "Sum").run prog w=.ok (some false) w:=by kernel_rfl
theorem ur(a:Addr)(w:World):(method 616 417 (.pointer (some a)) "Sum").run prog w=.ok (358,.pointer (some a)) w:=by kernel_rfl
theorem iY(a:Addr)(w:World):(method 616 417 (.pointer (some a)) "Reset").run prog w=.ok (356,.pointer (some a)) w:=by kernel_rfl
theorem cS.of_grew{T:Nat}{w w1:World}{p o:Nat}{c:Array Value}{v':Value}{g:Option Nat}{bs bs':Bytes}
 (d:w.heap[p]? =some (.cells c T (0,0)))(hE:fy w p o c g bs)(hG:yW w w1 v' g bs'):
 cS T w p o c g bs' (w1.setCell ⟨p,o,none⟩ v'):=by
 obtain⟨v,hv,hr⟩:=hE.row;obtain⟨⟨k,cap,rfl,hb,hg⟩,hu⟩:=hG;refine m9 (g':=k) (n:=bs'.length) (cap':=cap) d hE hv hr.blk (ae w) rfl hb.own (hr.blk▸hu) (hr.blk▸hg)
theorem mH(T p o:Nat)(c:Array Value)(g:Option Nat)(bs:Bytes)(b tb s:Nat)(w:World)(d:w.heap[p]? =some (.cells c T (0,0)))(hE:fy w p o c g bs)(A:Dig w b tb s)(hn:bs.length<1073741824):
 Calls prog 169 #[.pointer (some ⟨p,o,none⟩),.iface 417 (.pointer (some ⟨b,0,none⟩))] w fun e w'=>
  e=.returned (.tuple #[])∧cS T w p o c g (bs++Lib.beBytes 4 s) w':=by
 obtain⟨v,hv,hr⟩:=hE.row;have F:w.cell? ⟨p,o,none⟩=some v:=by rw[af d,hv]
 have D:=ao d o;have hN:=we;have hM:=ur;go_enter func169,ntmps169
 go_wp2_with fail;go_region_with (first|(go_at_call 358;refine(DQ b tb s v g bs _ A.drew hr.drew hn).mono ?_;rintro e w1 ⟨v',rfl,hG⟩;obtain⟨k,cap,rfl,_,_⟩:=hG.row;have z:=aa hG;clear hG;have e1:=(z.o.upd.cellv (w:=w.drew) d hE.notin).trans hv;have G:=z.o.upd.freev (w:=w.drew) d hE.notin o))
 all_goals
  go_wp2_with fail;go_end0
  exact⟨rfl,by have:=cS.of_grew d hE z.o.ofDrew;simpa only[ab]using this⟩
def pi(T:Nat)(w:World)(p o:Nat)(c:Array Value)(g:Option Nat)(b tb s:Nat)(bs':Bytes)(w':World):Prop:=
 Dig w' b tb s∧∃d g',w'.heap[p]? =some (.cells d T (0,0))∧fy w' p o d g' bs'∧eY o 11 c d∧Upd (p::b::g.toList) w w'∧(g'=g∨∃k,g'=some k∧w.heap.size≤k)
theorem wN(T p o:Nat)(c:Array Value)(g:Option Nat)(bs:Bytes)(b tb s:Nat)(w:World)(V:w.heap[p]? =some (.cells c T (0,0)))(hE:fy w p o c g bs)(hD:Dig w b tb s)(hn:bs.length<1073741824)
 (h1:b∉p::g.toList)(W:tb∉p::g.toList):
 Calls prog 108 #[.pointer (some ⟨p,o,none⟩),.iface 417 (.pointer (some ⟨b,0,none⟩))] w fun e w'=>
  e=.returned (.tuple #[])∧pi T w p o c g b tb (crc bs) (bs++Lib.beBytes 4 (crc bs)) w':=by
 have hM:=iY;have D:p≠b:=fun e=>h1 (by simp[e]);have O:∀k,g=some k→k≠b:=fun k e e'=>h1 (by simp[e,e']);have z:∀k,g=some k→k∉[b]:=fun k e=>by simpa using O k e
 have ad:tb≠p:=fun e=>W (by simp[e]);go_enter func108,ntmps108
 go_wp2_with (first
  |(go_at_call 356;refine(tM b tb s _ hD).mono ?_;rintro e w1 ⟨rfl,U,d⟩)
  |(go_at_call 168;refine(oC T p o c g bs b tb 0 _ (d.blk V (by simpa using D)) (hE.upd d z) U hn).mono ?_;rintro e w2 ⟨rfl,G,A⟩)
  |(go_at_call 169;refine(mH T p o c g bs b tb _ _ (A.blk (d.blk V (by simpa using D)) (by simpa using D)) ((hE.upd d z).upd A z) G hn).mono ?_;rintro e w3 ⟨rfl,hP⟩))
 go_end0
 obtain⟨c',g',a1,a2,a3,a4,a5⟩:=hP;have hU:=(d.then A (by simp)).size;refine⟨rfl,G.upd a4 h1 W,c',g',a1,a2,a3,?_,a5.imp id (fun⟨k,e,hk⟩=>⟨k,e,by omega⟩)⟩;refine((d.then A (by simp)).mono ?_).then a4 ?_
 ·simp
 ·intro i F _;simp only[ah]at F⊢;rcases F with F|F
  ·exact .inl F
  ·exact .inr (.inr F)
theorem yH(g:Nat)(v:Value)(bs:Bytes)(w:World)(h:RdG w v g bs):Calls prog 276 #[v] w fun e w'=>e=.returned (.int .i64 bs.length)∧w=w':=by
 obtain⟨off,cap,rfl,d,z⟩:=h;go_enter func276,ntmps276
 go_wp2_with fail;go_ret;exact⟨rfl,rfl⟩
theorem RdG.mid{w:World}{v:Value}{g s e:Nat}{bs a l c:Bytes}(h:RdG w v g bs)(hb:bs=a++(l++c))(hs:s=a.length)(he:e=a.length+l.length):
 ∃off cap N,v=.slice (some ⟨g,off,none⟩) N cap∧N≤cap∧s≤e∧e≤N∧(N=bs.length)∧Hid (∀off',(cap≠s→off'=off+s)→RdG w (.slice (some ⟨g,off',none⟩) (e-s) (cap-s)) g l):=by
 obtain⟨off,cap,rfl,d,z⟩:=h;have hl:bs.length=a.length+(l.length+c.length):=by rw[hb,ab,ab]
 refine⟨off,cap,bs.length,rfl,d.1,by omega,by omega,rfl,fun off' A=>?_⟩;have:=RdG.sub (l:=l) (off':=off') (cap':=cap-s) z s (fun G5=>A (by have:=List.length_pos_iff.2 G5;omega)) (by subst hs;rw[hb,eZ,List.take_left]) (by omega) d.2;rw[show e-s=l.length by omega];exact this
theorem kU(g s e:Nat)(v:Value)(bs a l c:Bytes)(w:World)(h:RdG w v g bs)(hb:bs=a++(l++c))(hs:s=a.length)(he:e=a.length+l.length)(hn:bs.length<1073741824):
 Calls prog 277 #[v,.int .i64 s,.int .i64 e] w fun r w'=>∃v',r=.returned v'∧RdG w v' g l∧w=w':=by
 obtain⟨off,cap,N,rfl,A,h1,V,G,D⟩:=h.mid hb hs he;have hN2:N<1073741824:=by omega
 have O:(0:Int)≤(s:Int):=by omega
 have U:(s:Int)≤(e:Int):=by omega
 have G4:(e:Int)≤(cap:Int):=by omega
 clear h hb hs he G;by_cases d:cap=s
 ·have K:=D.o off (fun h=>absurd d h);rw[d,iN]at K;have z:=aa K;clear K;subst d;go_enter func277,ntmps277
  go_wp2_with fail;go_ret;exact⟨_,rfl,z.o,rfl⟩
 ·have z:=aa (D.o (off+s) (fun _=>rfl));have F:(cap=s)=False:=by simp[d]
  go_enter func277,ntmps277
  go_wp2_with fail;go_ret;exact⟨_,rfl,z.o,rfl⟩
theorem tB(tb p:Nat)(v:Value)(bs:Bytes)(w:World)(hr:Rd w v bs)(z:w.cell? ⟨tb,0,none⟩=some (.int .u32 p))(hb:bs.length<1073741824)(d:p<4294967296):
 Calls prog 183 #[v,.pointer (some ⟨tb,0,none⟩)] w fun e w'=>e=.returned (.int .u32 (iK p 0 bs))∧w=w':=by
 go_enter func183,ntmps183
 go_wp2_with (go_at_call 217;refine(zk tb p 0 v bs _ hr z hb (by decide) d).mono ?_;rintro e w1 ⟨rfl,rfl⟩);go_ret;exact⟨rfl,rfl⟩
theorem ij.cell{w:World}{tb:Nat}(h:ij w tb):w.cell? ⟨tb,0,none⟩=some (.int .u32 ld):=by rw[af h];rfl
theorem vH(p g tb:Nat)(bs:Bytes)(w:World)(z:cm w p g bs)(A:ij w tb)(hb:bs.length<1073741824):
 Calls prog 121 #[.pointer (some ⟨p,0,none⟩),.pointer (some ⟨tb,0,none⟩)] w fun e w'=>e=.returned (.int .u32 (crc bs))∧w=w':=by
 obtain⟨off,cap,N,F,d,G,c1,O,D,U⟩:=z.open;go_enter func121,ntmps121
 go_wp2_with (go_at_call 183;refine(tB tb ld _ bs _ D.o.rd A.cell hb (by decide)).mono ?_;rintro e w1 ⟨rfl,rfl⟩);go_ret;exact⟨rfl,rfl⟩
theorem Tryz.sizeDec:(Tryz.prog.info? 159).map (·.size)=some 2:=by kernel_rfl
theorem RdG.newer{w:World}{o:Obj}{v:Value}{g:Nat}{bs:Bytes}(h:RdG (w.alloc o) v g bs)(d:Obj)(z:g<w.heap.size):RdG (w.alloc d) v g bs:=by obtain⟨off,cap,h1,A,D⟩:=h;refine⟨off,cap,h1,⟨A.1,by simp;omega⟩,fun j F=>?_⟩;have:=D j F;simp only[World.cell?,eB _ z]at this⊢;exact this
theorem fp(v:Value)(w:World):(method 616 139 v "Len").run prog w=.ok (276,v) w:=by kernel_rfl
theorem eA(v:Value)(w:World):(method 616 139 v "Range").run prog w=.ok (277,v) w:=by kernel_rfl
theorem jk(g:Nat)(v:Value)(bs a c:Bytes)(w:World)(h:RdG w v g bs)(hb:bs=a++c)(hn:bs.length<1073741824):
 Calls prog 202 #[.iface 139 v,.int .i64 a.length] w fun r w'=>∃v',r=.returned (.agg #[v',.nilIface])∧RdG w' v' g a∧Upd [] w w':=by
 have A:=fp;have D:=eA;have F:a.length≤bs.length:=by rw[hb,ab];omega
 have H:=aa h;have G:=aa hb;clear h hb;go_enter func202,ntmps202
 go_wp2_with (first
  |(go_at_call 276;refine(yH g v bs _ (H.o.upd ((ae w).alloc _) (by simp))).mono ?_;rintro e w1 ⟨rfl,rfl⟩)
  |(go_at_call 277;refine(kU g 0 a.length v bs [] a c _ (H.o.upd ((ae w).alloc _) (by simp)) G.o rfl (by simp) hn).mono ?_;rintro e w1 ⟨v',rfl,d,rfl⟩;have O:=aa d;obtain⟨V,cap',rfl,U,z⟩:=d;clear z))
 refine bodyPost_ret (results_cell_row rfl _ _ w.heap.size 159 _ (0,0) _ rfl (an _) underlying159 rfl Tryz.sizeDec) rfl ?_;exact⟨_,rfl,O.o.newer _ H.o.lt,(ae w).alloc _⟩
def sec(body:Bytes):Bytes:=Lib.beBytes 4 body.length++(body++Lib.beBytes 4 (crc body))
theorem dx(body:Bytes):(sec body).length=body.length+8:=by simp[sec,Lib.beBytes_length];omega
theorem lp(g tb:Nat)(v:Value)(bs a body c:Bytes)(w:World)(h:RdG w v g bs)(ht:ij w tb)(hb:bs=a++(sec body++c))(hn:bs.length<1073741824):
 Calls prog 57 #[.iface 139 v,.int .i64 a.length,.pointer (some ⟨tb,0,none⟩)] w fun r w'=>∃v',r=.returned (.agg #[v',.nilIface])∧RdG w' v' g body∧Upd [] w w':=by
 have bE:=fp;have bK:=eA;have V:a.length+body.length+8+c.length=bs.length:=by rw[hb,ab,ab,dx];omega
 obtain⟨A,W⟩:∃A,A=a.length:=⟨_,rfl⟩;obtain⟨L,hL⟩:∃L,L=body.length:=⟨_,rfl⟩;have a5:∀w,RdG w v g bs→Calls prog 277 #[v,.int .i64 A,.int .i64 ((A:Int)+4)] w fun r w'=>∃v',r=.returned v'∧RdG w v' g (Lib.beBytes 4 L)∧w=w':=fun w h=>by rw[show((A:Int)+4)=((A+4:Nat):Int) by omega];exact kU g A (A+4) v bs a (Lib.beBytes 4 L) (body++(Lib.beBytes 4 (crc body)++c)) w h (by rw[hb,hL];simp[sec]) W (by rw[W,Lib.beBytes_length]) hn
 have a6:∀w,RdG w v g bs→Calls prog 277 #[v,.int .i64 ((A:Int)+4),.int .i64 ((A:Int)+4+L+4)] w fun r w'=>∃z G6,r=.returned (.slice (some ⟨g,z,none⟩) (L+4) G6)∧RdG w (.slice (some ⟨g,z,none⟩) (L+4) G6) g (body++Lib.beBytes 4 (crc body))∧L+4≤G6∧w=w':=fun w h=>by
  rw[show((A:Int)+4+L+4)=((A+4+L+4:Nat):Int) by omega,show((A:Int)+4)=((A+4:Nat):Int) by omega];refine en (kU g (A+4) (A+4+L+4) v bs (a++Lib.beBytes 4 L) (body++Lib.beBytes 4 (crc body)) c w h (by rw[hb,hL];simp[sec]) (by rw[W,ab,Lib.beBytes_length]) (by rw[W,hL,ab,ab,Lib.beBytes_length,Lib.beBytes_length];omega) hn) ?_;rintro r w' ⟨v',rfl,ad,rfl⟩;obtain⟨z,G6,rfl,a0,bL⟩:=id ad;have e:(body++Lib.beBytes 4 (crc body)).length=L+4:=by rw[ab,Lib.beBytes_length,hL]
  rw[e]at ad a0⊢;exact⟨z,G6,rfl,ad,a0.1,rfl⟩
 rw[←W,←hL]at V;have bM:=aa a5;have bO:=aa a6;have H:=aa h;have HB:=aa hb;have HL:=aa hL;rw[←W];clear h hb a5 a6 W hL;have a7:=H.o.lt;have bR:L<4294967296:=by omega
 have HT:=aa ht;clear ht;obtain⟨n,a1⟩:∃n,n=bs.length:=⟨_,rfl⟩;have G:∀w,RdG w v g bs→Calls prog 276 #[v] w fun e w'=>e=.returned (.int .i64 n)∧w=w':=fun w h=>by rw[a1];exact yH g v bs w h
 have a9:=aa G;rw[←a1]at V hn;clear G a1;have a2:Upd [] w (w.alloc (.cells #[.slice none 0 0,.nilIface] 159 (0,0))):=(ae w).alloc _;have H1:=aa (H.o.upd a2 (by simp));have bb:=aa a2;clear a2;go_enter func57,ntmps57
 go_wp2_with (first
  |(go_at_call 276;refine(a9.o _ (by first|exact H2.o|exact H1.o)).mono ?_;rintro e w1 ⟨rfl,rfl⟩)
  |(go_at_call_of 277 (Value.int IntKind.i64 (A:Int));refine(bM.o _ H1.o).mono ?_;rintro e w1 ⟨v1,rfl,bd,rfl⟩)
  |(go_at_call 120;refine(qE g L _ [] _ (by rw[bk];exact bd) bR).mono ?_;rintro e w2 ⟨rfl,d⟩;have H2:=aa (H1.o.upd d (by simp))))
 refine(bO.o _ H2.o).mono ?_;rintro e w1 ⟨z,G6,rfl,a3,a0,rfl⟩;have cg:(G6=L)=False:=by simp;omega
 have ck:(L:Int)≤(G6:Int):=by omega
 have cn:(0:Int)≤(L:Int):=by omega
 have be:=aa a3;have G5:body++Lib.beBytes 4 (crc body)=body++(Lib.beBytes 4 (crc body)++[]):=by rw[bk]
 have bS:Hid (RdG w2 (.slice (some ⟨g,z+L,none⟩) 4 (G6-L)) g (Lib.beBytes 4 (crc body))):=by obtain⟨cp,bW,N2,e2,_,_,_,_,HM⟩:=a3.mid (e:=L+4) G5 HL.o (by rw[Lib.beBytes_length,HL.o]);cases e2;have:=HM.o (z+L) (fun _=>rfl);rw[show L+4-L=4 by omega]at this;exact this
 have G4:(L:Int)≤(L:Int)+4:=by omega
 have cs:IntKind.i64.wrap (L:Int)=(L:Int):=by rw[bo];omega
 have ct:IntKind.i64.wrap ((L:Int)+4-4)=(L:Int):=by rw[bo];omega
 have b5:Hid (body.length<1073741824):=aa (by have:=HL.o;omega);clear a3 bE bK bd V a7 G5;go_wp2_with fail;have a4:Upd [] w2 (w2.alloc (.cells #[.slice (some ⟨g,z,none⟩) L G6,.nilIface] 159 (0,0))):=(ae w2).alloc _
 have bg:cm (w2.alloc (.cells #[.slice (some ⟨g,z,none⟩) L G6,.nilIface] 159 (0,0))) w2.heap.size g body:=
  ⟨⟨_,an _,(be.o.head HL.o).upd a4 (by simp)⟩,lm be.o.lt⟩
 have b6:=aa bg;have D:=aa a4;clear bg a4;have bl:=d;go_still_tail 6,(by kernel_rfl)
 change wpList _ _ _ _ _ (World.drew _)
 go_wp2_with (first
  |(go_at_call 120;refine(qE g (crc body) _ [] _ (by rw[bk];exact(bS.o.upd D.o (by simp)).drew) (sw body)).mono ?_;rintro e w3 ⟨rfl,bn⟩;have F:=aa (cz bn);clear bn;have br:=aa (b6.o.upd F.o (by simp) (by simp))))
 have hb3:w3.heap[w.heap.size]? =some (.cells #[.slice none 0 0,.nilIface] 159 (0,0)):=F.o.blk (D.o.blk (d.blk (an _) (by simp)) (by simp)) (by simp);have bv:ij w3 tb:=F.o.blk (D.o.blk (d.blk (bb.o.blk HT.o (by simp)) (by simp)) (by simp)) (by simp);have b7:=aa bv;have O:=((bb.o.then d (by simp)).then D.o (by simp)).then F.o (by simp);have U:=br.o;obtain⟨bw,cap3,N3,cA,b8,cB,cD,cE,b9,_⟩:=U.open;have r0:=af hb3 0;have r1:=af hb3 1;have cF:=ao hb3 0;have cL:=ao hb3 1;have ca:=aa hb3;have bA:=aa O;clear bv hb3 O U d;have cc:w2.heap.size≠w.heap.size:=by have:=bl.size;simp at this;omega
 go_wp2_with (go_at_call 121;refine(vH w2.heap.size g tb body _ br.o b7.o b5.o).mono ?_;rintro e w4 ⟨rfl,rfl⟩);have a7:=H.o.lt
 have bB:Upd [w.heap.size] w3 ((w3.setCell ⟨w.heap.size,0,none⟩ (.slice (some ⟨g,bw,none⟩) N3 cap3)).setCell ⟨w.heap.size,1,none⟩ .nilIface):=
  (((ae w3).mono (by simp)).setCell (by simp) _).setCell (by simp) _
 refine bodyPost_ret (results_cell_row rfl _ _ w.heap.size 159 _ (0,0) _ rfl (au (au ca.o 0 _) 1 _) underlying159 rfl Tryz.sizeDec) rfl ?_;exact⟨_,rfl,b9.o.upd bB (by simp;omega),bA.o.then bB (by simp)⟩
def eJ(x:Bytes):Bytes:=x.length.toUInt8::x
def aL(l:List (Bytes×Bytes)):Bytes:=l.flatMap fun p=>eJ p.1++eJ p.2
theorem dw(x:Bytes):(eJ x).length=x.length+1:=by simp[eJ]
theorem lS{s:ByteArray}{pre post:Bytes}{b:UInt8}(h:sb s=pre++(b::post)):∃hs:pre.length<s.size,(s[pre.length]'hs)=b:=by
 have hl:s.size=pre.length+(post.length+1):=by rw[←dA,h];simp
 have hs:pre.length<s.size:=by omega
 refine⟨hs,?_⟩;have z:(sb s)[pre.length]? =some b:=by rw[h];simp
 have d:s.data[pre.length]? =some b:=by simpa[sb]using z
 have h4:pre.length<s.data.size:=hs;rw[dm h4]at d;exact cI d
theorem tR(s:ByteArray)(a x b:Bytes)(h:sb s=a++(x++b))(i j:Nat)(d:i=a.length)(z:j=a.length+x.length):s.extract i j=str x:=by subst d z;apply ByteArray.ext;rw[ByteArray.data_extract];apply Array.ext';rw[Array.toList_extract];have A:s.data.toList=a++(x++b):=h;rw[A];simp[List.extract]
theorem Ez{a b:ByteArray}{k m:Int}(h:a=b)(d:k=m):Ending.returned (.tuple #[.string a,.int .i64 k])=.returned (.tuple #[.string b,.int .i64 m]):=by rw[h,d]
theorem kM(s:ByteArray)(i n:Nat)(w:World)(hs:i<s.size)(hv:(s[i]'hs).toNat=n)(hn:n<255)(hl:i<1073741824):
 Calls prog 163 #[.string s,.int .i64 i] w fun e w'=>e=.returned (.tuple #[.int .i64 n,.int .i64 ((i:Int)+1)])∧w=w':=by
 have d:(0:Int)≤(i:Int):=by omega
 have z:((n:Int)==255)=false:=by simp;omega
 have A:wrap64 (n:Int)=n:=by unfold wrap64;omega
 go_enter func163,ntmps163
 go_wp2_with fail;go_ret2
 exact⟨rfl,rfl⟩
theorem jn(s:ByteArray)(pre x post:Bytes)(w:World)(h:sb s=pre++(eJ x++post))(U:x.length<255)(hl:s.size<1073741824):
 Calls prog 164 #[.string s,.int .i64 pre.length] w fun e w'=>e=.returned (.tuple #[.string (str x),.int .i64 ((pre.length+(eJ x).length:Nat):Int)])∧w=w':=by
 obtain⟨hs,hb⟩:=lS (s:=s) (pre:=pre) (b:=x.length.toUInt8) (post:=x++post) (by rw[h];rfl);have hv:(s[pre.length]'hs).toNat=x.length:=by rw[hb];simp[Nat.toUInt8,fQ];omega
 have z:s.size=pre.length+(x.length+1)+post.length:=by rw[←dA,h];simp[dw];omega
 obtain⟨i,d⟩:∃i,i=pre.length:=⟨_,rfl⟩;obtain⟨n,hn⟩:∃n,n=x.length:=⟨_,rfl⟩;have A:s.extract (i+1) (i+1+n)=str x:=by subst d hn;refine tR s (pre++[x.length.toUInt8]) x post ?_ _ _ (by simp) (by simp);rw[h];simp[eJ]
 have D:∀w,Calls prog 163 #[.string s,.int .i64 i] w fun e w'=>e=.returned (.tuple #[.int .i64 n,.int .i64 ((i:Int)+1)])∧w=w':=fun w=>by subst d;exact kM s _ n w hs (by rw[hv,hn]) (by omega) (by omega)
 have V:=aa D;have W:i+1+n≤s.size:=by omega
 have F:(i:Int)+1+n≤(s.size:Int):=by omega
 have G:(0:Int)≤(i:Int)+1:=by omega
 have O:(i:Int)+1≤(i:Int)+1+n:=by omega
 rw[dw,←d,←hn];clear D hb hv hs z d hn h U;go_enter func164,ntmps164
 go_wp2_with (go_at_call 163;refine(V.o _).mono ?_;rintro e w1 ⟨rfl,rfl⟩);go_ret2
 exact⟨Ez A (by omega),rfl⟩
end Go.Proofs.YtlgefdfflmgocaaGreatDoor
