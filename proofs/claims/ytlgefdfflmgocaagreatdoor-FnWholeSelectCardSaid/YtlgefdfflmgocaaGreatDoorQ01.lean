import Derived.Test.YtlgefdfflmgocaaGreatDoorQ00
import Derived.Deep.RegionHeld3
import Derived.Laws.CopyOwn
import Derived.Laws.MakeOwn
set_option linter.all false
set_option maxRecDepth 100000
set_option maxHeartbeats 1000000
namespace Go.Proofs.YtlgefdfflmgocaaGreatDoor
open Go Go.RowKit Xc Go.Proofs.Tryz
theorem nZ(c:Nat)(h1:128≤c)(d:c<256):bits .and .u8 (c:Int) 127=((c-128:Nat):Int):=by
 have h:=u8_and_nat c 127 d (by decide);have z:c&&&127=c-128:=by have:=Nat.and_two_pow_sub_one_eq_mod c 7;simp only[show(2^7:Nat)=128 from rfl,show 128-1=127 from rfl]at this;omega
 rw[z]at h;exact h
theorem AJ(a b k:Nat)(h:a<2^k):a|||(b*2^k)=a+2^k*b:=by rw[Nat.or_comm,iM b,←Nat.two_pow_add_eq_or_of_lt h,Nat.add_comm]
theorem or2(d c1:Nat)(b0:128≤d)(A:d<256)(D:c1<256):bits .or .u64 ((d-128:Nat):Int) ((c1:Int)*128)=((d-128+128*c1:Nat):Int):=by have h:=u64_or_nat (d-128) (c1*128) (by omega) (by omega);have z:=AJ (d-128) c1 7 (by omega);simp only[show(2^7:Nat)=128 from rfl]at z;rw[z]at h;exact h
theorem or3(d c1 c2:Nat)(b0:128≤d)(z:d<256)(b1:128≤c1)(D:c1<256)(F:c2<128):
 bits .or .u64 (bits .or .u64 ((d-128:Nat):Int) (((c1-128:Nat):Int)*128)) ((c2:Int)*16384)=((d-128+128*(c1-128)+16384*c2:Nat):Int):=by
 rw[or2 d (c1-128) b0 z (by omega)];have h:=u64_or_nat (d-128+128*(c1-128)) (c2*16384) (by omega) (by omega);have A:=AJ (d-128+128*(c1-128)) c2 14 (by omega);simp only[show(2^14:Nat)=16384 from rfl]at A;rw[A]at h;exact h
theorem te{a b:Int}{k:Int}(h:a=b):Ending.returned (.tuple #[.int .u64 a,.int .i64 k])=.returned (.tuple #[.int .u64 b,.int .i64 k]):=by rw[h]
theorem Gh(g off n cap d:Nat)(w:World)(A:w.cell? ⟨g,off,none⟩=some (.int .u8 d))(D:d<128)(hn:10≤n)(z:n<1073741824):
 Calls prog 185 #[.slice (some ⟨g,off,none⟩) n cap] w fun e w'=>e=.returned (.tuple #[.int .u64 d,.int .i64 1])∧w=w':=by
 go_enter func185,ntmps185
 go_wp2_with fail;go_ret2
 exact⟨rfl,rfl⟩
theorem Gi(g off n cap d:Nat)(w:World)(A:w.cell? ⟨g,off,none⟩=some (.int .u8 d))(D:d<128)(hn:1≤n)(z:n<10):
 Calls prog 185 #[.slice (some ⟨g,off,none⟩) n cap] w fun e w'=>e=.returned (.tuple #[.int .u64 d,.int .i64 1])∧w=w':=by
 go_enter func185,ntmps185
 go_wp2_with fail;go_ret2
 exact⟨rfl,rfl⟩
theorem Gj(g off n cap d c1:Nat)(w:World)(G:w.cell? ⟨g,off,none⟩=some (.int .u8 d))(h1:w.cell? ⟨g,off+1,none⟩=some (.int .u8 c1))(b0:128≤d)(z:d<256)(O:c1<128)(hn:10≤n)(A:n<1073741824):
 Calls prog 185 #[.slice (some ⟨g,off,none⟩) n cap] w fun e w'=>e=.returned (.tuple #[.int .u64 (d-128+128*c1:Nat),.int .i64 2])∧w=w':=by
 have D:=nZ d b0 z;have F:=aa (or2 d c1 b0 z (by omega));go_enter func185,ntmps185
 go_wp2_with fail;go_ret2
 exact⟨te F.o,rfl⟩
theorem Gk(g off n cap d c1:Nat)(w:World)(G:w.cell? ⟨g,off,none⟩=some (.int .u8 d))(h1:w.cell? ⟨g,off+1,none⟩=some (.int .u8 c1))(b0:128≤d)(z:d<256)(O:c1<128)(hn:2≤n)(A:n<10):
 Calls prog 185 #[.slice (some ⟨g,off,none⟩) n cap] w fun e w'=>e=.returned (.tuple #[.int .u64 (d-128+128*c1:Nat),.int .i64 2])∧w=w':=by
 have D:=nZ d b0 z;have F:=aa (or2 d c1 b0 z (by omega));go_enter func185,ntmps185
 go_wp2_with fail;go_ret2
 exact⟨te F.o,rfl⟩
theorem Gl(g off n cap d c1 c2:Nat)(w:World)(V:w.cell? ⟨g,off,none⟩=some (.int .u8 d))(h1:w.cell? ⟨g,off+1,none⟩=some (.int .u8 c1))(W:w.cell? ⟨g,off+2,none⟩=some (.int .u8 c2))(b0:128≤d)(z:d<256)(b1:128≤c1)(A:c1<256)(D:c2<128)(hn:10≤n)(F:n<1073741824):
 Calls prog 185 #[.slice (some ⟨g,off,none⟩) n cap] w fun e w'=>e=.returned (.tuple #[.int .u64 (d-128+128*(c1-128)+16384*c2:Nat),.int .i64 3])∧w=w':=by
 have G:=nZ d b0 z;have O:=nZ c1 b1 A;have U:=aa (or3 d c1 c2 b0 z b1 A D);go_enter func185,ntmps185
 go_wp2_with fail;go_ret2
 exact⟨te U.o,rfl⟩
theorem Gm(g off n cap d c1 c2:Nat)(w:World)(V:w.cell? ⟨g,off,none⟩=some (.int .u8 d))(h1:w.cell? ⟨g,off+1,none⟩=some (.int .u8 c1))(W:w.cell? ⟨g,off+2,none⟩=some (.int .u8 c2))(b0:128≤d)(z:d<256)(b1:128≤c1)(A:c1<256)(D:c2<128)(hn:3≤n)(F:n<10):
 Calls prog 185 #[.slice (some ⟨g,off,none⟩) n cap] w fun e w'=>e=.returned (.tuple #[.int .u64 (d-128+128*(c1-128)+16384*c2:Nat),.int .i64 3])∧w=w':=by
 have G:=nZ d b0 z;have O:=nZ c1 b1 A;have U:=aa (or3 d c1 c2 b0 z b1 A D);go_enter func185,ntmps185
 go_wp2_with fail;go_ret2
 exact⟨te U.o,rfl⟩
theorem Rd.cells{w:World}{v:Value}{bs:Bytes}(h:Rd w v bs)(hb:bs≠[]):∃g off cap,v=.slice (some ⟨g,off,none⟩) bs.length cap∧∀j (h:j<bs.length),w.cell? ⟨g,off+j,none⟩=some (.int .u8 (bs[j]).toNat):=by
 rcases h with⟨_,e⟩|⟨g,off,cap,h1,d⟩
 ·exact absurd e hb
 ·exact⟨g,off,cap,h1,d⟩
theorem gB(x:Nat)(h:x<256):(x.toUInt8).toNat=x:=by simp[Nat.toUInt8,fQ];omega
theorem wQ(v:Value)(x:Nat)(rest:Bytes)(w:World)(hr:Rd w v (Lib.uvarint x++rest))(D:x<2097152)(hn:(Lib.uvarint x++rest).length<1073741824):
 Calls prog 185 #[v] w fun e w'=>e=.returned (.tuple #[.int .u64 x,.int .i64 (Lib.uvarint x).length])∧w=w':=by
 have G5:Lib.uvarint x++rest≠[]:=by intro e;have h1:=(List.append_eq_nil_iff.1 e).1;rw[Lib.uvarint]at h1;split at h1<;>simp at h1
 obtain⟨g,off,cap,rfl,z⟩:=hr.cells G5;by_cases h1:x<128
 ·rw[Lib.uvarint_small h1]at z hn⊢;have d:=z 0 (by simp);simp only[dn,bz,dU,iL,gB x (by omega)]at d;have hl:1≤([x.toUInt8]++rest).length:=by simp
  by_cases hb:10≤([x.toUInt8]++rest).length
  ·exact Gh g off _ cap x w d h1 hb hn
  ·exact Gi g off _ cap x w d h1 hl (by omega)
 ·rw[Lib.uvarint_big (by omega)]at z hn⊢;by_cases A:x/128<128
  ·rw[Lib.uvarint_small A]at z hn⊢;have d:=z 0 (by simp);have c1:=z 1 (by simp);simp only[dn,bz,dU,eH,iL,gB (x % 128+128) (by omega),gB (x/128) (by omega)]at d c1;have e:x=x % 128+128-128+128*(x/128):=by omega
   have hl:2≤((x % 128+128).toUInt8::[(x/128).toUInt8]++rest).length:=by simp
   by_cases hb:10≤((x % 128+128).toUInt8::[(x/128).toUInt8]++rest).length
   ·have:=Gj g off _ cap (x % 128+128) (x/128) w d c1 (by omega) (by omega) A hb hn;rw[←e]at this;exact this
   ·have:=Gk g off _ cap (x % 128+128) (x/128) w d c1 (by omega) (by omega) A hl (by omega);rw[←e]at this;exact this
  ·rw[Lib.uvarint_big (by omega),Lib.uvarint_small (by omega)]at z hn⊢;have d:=z 0 (by simp);have c1:=z 1 (by simp);have c2:=z 2 (by simp);simp only[dn,bz,dU,eH,iL,gB (x % 128+128) (by omega),gB (x/128 % 128+128) (by omega),gB (x/128/128) (by omega)]at d c1 c2;have e:x=x % 128+128-128+128*(x/128 % 128+128-128)+16384*(x/128/128):=by omega
   have hl:3≤((x % 128+128).toUInt8::(x/128 % 128+128).toUInt8::[(x/128/128).toUInt8]++rest).length:=by simp
   by_cases hb:10≤((x % 128+128).toUInt8::(x/128 % 128+128).toUInt8::[(x/128/128).toUInt8]++rest).length
   ·have:=Gl g off _ cap (x % 128+128) (x/128 % 128+128) (x/128/128) w d c1 c2 (by omega) (by omega) (by omega) (by omega) (by omega) hb hn;rw[←e]at this;exact this
   ·have:=Gm g off _ cap (x % 128+128) (x/128 % 128+128) (x/128/128) w d c1 c2 (by omega) (by omega) (by omega) (by omega) (by omega) hl (by omega);rw[←e]at this;exact this
abbrev sb(s:ByteArray):Bytes:=s.data.toList
theorem cS.then{T:Nat}{w w1 w2:World}{p o:Nat}{c z:Array Value}{g g':Option Nat}{bs':Bytes}
 (D:eY o 11 c z)(h4:Upd (p::g.toList) w w1)(h5:g'=g∨∃k,g'=some k∧w.heap.size≤k)(h:cS T w1 p o z g' bs' w2):cS T w p o c g bs' w2:=by
 obtain⟨c2,g2,F,a2,a3,a4,a5⟩:=h;refine⟨c2,g2,F,a2,D.trans a3,h4.then a4 ?_,?_⟩
 ·intro i d hl;rcases h5 with rfl|⟨k,rfl,A⟩
  ·exact d
  ·simp at d⊢;rcases d with rfl|rfl
   ·exact .inl rfl
   ·omega
 ·rcases a5 with rfl|⟨k,rfl,A⟩
  ·exact h5
  ·exact .inr ⟨k,rfl,aW h4.size A⟩
theorem gl.form{w:World}{v:Value}{g:Option Nat}{bs:Bytes}(h:gl w v g bs):(v=.slice none 0 0∧g=none∧bs=[])∨∃k cap,v=.slice (some ⟨k,0,none⟩) bs.length cap∧g=some k:=by
 have hb:=h.blk;rcases h.own.2 with⟨rfl,h5⟩|⟨k,cap,cur,rfl,_⟩
 ·exact .inl ⟨rfl,hb.symm,dh h5⟩
 ·exact .inr ⟨k,cap,rfl,hb.symm⟩
theorem Get(T p o:Nat)(c:Array Value)(v:Value)(w:World)(d:w.heap[p]? =some (.cells c T (0,0)))(hv:c[o]? =some v):
 Calls prog 96 #[.pointer (some ⟨p,o,none⟩)] w fun e w'=>e=.returned v∧w=w':=by
 have z:w.cell? ⟨p,o,none⟩=some v:=by rw[af d,hv]
 go_enter func96,ntmps96
 go_wp2_with fail;go_ret;exact⟨rfl,rfl⟩
theorem Len(T p o:Nat)(c:Array Value)(d:Option Addr)(n cap:Nat)(w:World)(z:w.heap[p]? =some (.cells c T (0,0)))(hv:c[o]? =some (.slice d n cap)):
 Calls prog 107 #[.pointer (some ⟨p,o,none⟩)] w fun e w'=>e=.returned (.int .i64 n)∧w=w':=by
 have A:w.cell? ⟨p,o,none⟩=some (.slice d n cap):=by rw[af z,hv]
 go_enter func107,ntmps107
 go_wp2_with fail;go_ret;exact⟨rfl,rfl⟩
theorem wO(T p o:Nat)(c:Array Value)(g:Option Nat)(bs:Bytes)(w:World)(z:w.heap[p]? =some (.cells c T (0,0)))(hE:fy w p o c g bs):
 Calls prog 93 #[.pointer (some ⟨p,o,none⟩)] w fun e w'=>e=.returned (.tuple #[])∧cS T w p o c g [] w':=by
 obtain⟨v,hv,hr⟩:=hE.row;have A:=hE.size;have D:=ao z o;have key:∀v0,gl w v0 g []→cS T w p o c g [] (w.setCell ⟨p,o,none⟩ v0):=by intro v0 d;refine⟨_,g,au z _ _,⟨⟨v0,by simp[(Array.getElem?_eq_some_iff.1 hv).1],⟨ownsRow_setCell_other d.own (by rw[d.blk];exact hE.ne) _,d.blk⟩⟩,fun j F=>?_,hE.ne⟩,eY.set c o _ (by omega),((ae w).mono (by simp)).setCell (by simp) _,.inl rfl⟩;obtain⟨m,hm⟩:=hE.scratch j F;exact⟨m,by rw[ba (by omega)];exact hm⟩
 rcases hr.form with⟨rfl,rfl,rfl⟩|⟨k,cap,rfl,rfl⟩
 ·have d:w.cell? ⟨p,o,none⟩=some (.slice none 0 0):=by rw[af z,hv]
  have K:=aa (key _ hr);go_enter func93,ntmps93
  go_wp2_with fail;go_end0
  exact⟨rfl,K.o⟩
 ·have d:w.cell? ⟨p,o,none⟩=some (.slice (some ⟨k,0,none⟩) bs.length cap):=by rw[af z,hv]
  have hz:gl w (.slice (some ⟨k,0,none⟩) 0 cap) (some k) []:=by
   rcases hr.own.2 with⟨h,_⟩|⟨k',cap',cur,h,G,a2,a3,a4,a5,O⟩
   ·cases h
   ·cases h;exact⟨⟨rfl,.inr ⟨k,cap,cur,rfl,G,a2,ay _,a4,a5,by simp[Lib.byteCells]⟩⟩,rfl⟩
  have K:=aa (key _ hz);go_enter func93,ntmps93
  go_wp2_with fail;go_end0
  exact⟨rfl,K.o⟩
theorem mD(T p o:Nat)(c:Array Value)(g:Option Nat)(bs:Bytes)(x:Nat)(w:World)(d:w.heap[p]? =some (.cells c T (0,0)))(hE:fy w p o c g bs)(hn:bs.length<1073741824)(z:x<4294967296):
 Calls prog 197 #[.pointer (some ⟨p,o,none⟩),.int .i64 x] w fun e w'=>e=.returned (.tuple #[])∧cS T w p o c g (bs++Lib.beBytes 4 x) w':=by
 have hm:(x:Int) % 4294967296=x:=by omega
 go_enter func197,ntmps197
 go_wp2_with (go_at_call 198;refine(o9 T p o c g bs x _ d hE hn z).mono ?_;rintro e w1 ⟨rfl,hP⟩);go_end0
 exact⟨rfl,hP⟩
theorem kJ(T p o:Nat)(c:Array Value)(g:Option Nat)(bs:Bytes)(x:Nat)(w:World)(d:w.heap[p]? =some (.cells c T (0,0)))(hE:fy w p o c g bs)(hn:bs.length<1073741824)(z:x<4294967296):
 Calls prog 100 #[.pointer (some ⟨p,o,none⟩),.int .i64 x] w fun e w'=>e=.returned (.tuple #[])∧cS T w p o c g (bs++Lib.uvarint x) w':=by
 have hm:(x:Int) % 18446744073709551616=x:=by omega
 go_enter func100,ntmps100
 go_wp2_with (go_at_call 106;refine(jm T p o c g bs x _ d hE hn (by omega)).mono ?_;rintro e w1 ⟨rfl,hP⟩);go_end0
 exact⟨rfl,hP⟩
theorem si(T p o:Nat)(c:Array Value)(g:Option Nat)(bs:Bytes)(x:Nat)(w:World)(d:w.heap[p]? =some (.cells c T (0,0)))(hE:fy w p o c g bs)(hn:bs.length<1073741824)(z:x<4294967296):
 Calls prog 104 #[.pointer (some ⟨p,o,none⟩),.int .u32 x] w fun e w'=>e=.returned (.tuple #[])∧cS T w p o c g (bs++Lib.uvarint x) w':=by
 have hm:(x:Int) % 18446744073709551616=x:=by omega
 go_enter func104,ntmps104
 go_wp2_with (go_at_call 106;refine(jm T p o c g bs x _ d hE hn (by omega)).mono ?_;rintro e w1 ⟨rfl,hP⟩);go_end0
 exact⟨rfl,hP⟩
theorem bh(x:Nat)(h:x<2097152):(Lib.uvarint x).length≤3:=by
 by_cases h1:x<128
 ·rw[Lib.uvarint_small h1];simp
 ·rw[Lib.uvarint_big (by omega)];by_cases d:x/128<128
  ·rw[Lib.uvarint_small d];simp
  ·rw[Lib.uvarint_big (by omega),Lib.uvarint_small (by omega)];simp
theorem cS.of_row{T:Nat}{w w1:World}{p o:Nat}{c:Array Value}{v':Value}{g g':Option Nat}{bs bs':Bytes}
 (A:w.heap[p]? =some (.cells c T (0,0)))(hE:fy w p o c g bs)(hu:Upd g.toList w w1)(hb:gl w1 v' g' bs')(hg:g'=g∨∃k,g'=some k∧w.heap.size≤k):
 cS T w p o c g bs' (w1.setCell ⟨p,o,none⟩ v'):=by
 obtain⟨v,hv,hr⟩:=hE.row;have D:=hE.size;have hpl:=lt_of_block A;have d:=hE.notin;have z:=hu.blk A d;have G5:g'≠some p:=by
  rcases hg with rfl|⟨k,rfl,O⟩
  ·exact hE.ne
  ·intro e;cases e;omega
 refine⟨_,g',au z _ _,⟨⟨v',by simp[(Array.getElem?_eq_some_iff.1 hv).1],⟨ownsRow_setCell_other hb.own (by rw[hb.blk];exact G5) _,hb.blk⟩⟩,fun j F=>?_,G5⟩,eY.set c o _ (by omega),?_,hg⟩
 ·obtain⟨m,hm⟩:=hE.scratch j F;exact⟨m,by rw[ba (by omega)];exact hm⟩
 ·exact(hu.mono (by simp;intro a G;exact .inr G)).setCell (by simp) _
theorem dA(s:ByteArray):(sb s).length=s.size:=gC
theorem uf(bs:Bytes)(s:ByteArray):(bs++sb s).length=bs.length+s.size:=by rw[ab,dA]
theorem qL(bs:Bytes)(s:ByteArray):Lib.byteCells (bs++sb s)=Lib.byteCells bs++Lib.strCells s:=aX
theorem xL(T p o:Nat)(c:Array Value)(g:Option Nat)(bs:Bytes)(s:ByteArray)(w:World)(d:w.heap[p]? =some (.cells c T (0,0)))(hE:fy w p o c g bs)(hn:bs.length<1073741824)(hs:s.size<1073741824):
 Calls prog 161 #[.pointer (some ⟨p,o,none⟩),.string s] w fun e w'=>e=.returned (.tuple #[])∧cS T w p o c g (bs++sb s) w':=by
 obtain⟨v,hv,hr⟩:=hE.row;obtain⟨i0,O,A,D,F⟩:=info_parts Tryz.info5;have U:w.cell? ⟨p,o,none⟩=some v:=by rw[af d,hv]
 have G:=ao d o;go_enter func161,ntmps161
 go_wp2_with (at_builtin;refine nT _ rfl _ _ 65 9 rfl 5 i0 underlying65 underlying9 O A D F v bs.length (Lib.byteCells bs) rfl hr.own s rfl ?c1 ?c2 ?_);case c1=>unfold maxLen;omega
 case c2=>omega
 intro v' w1 z hu hg;rw[hr.blk]at hu hg;have hR:gl w1 v' v'.ownBlock (bs++sb s):=⟨by rw[uf,qL];exact z,rfl⟩;have e1:=(hu.cellv (i:=o) d hE.notin).trans hv;have V:=hu.freev d hE.notin o;have K:=aa (cS.of_row d hE hu hR hg);clear U G;rcases hR.form with⟨rfl,_⟩|⟨k,cap,rfl,_⟩
 ·go_wp2_with fail;go_end0
  exact⟨rfl,K.o⟩
 ·go_wp2_with fail;go_end0
  refine⟨rfl,?_⟩;have:=K.o;simpa only[ab,dA]using this
theorem mj(T p o:Nat)(c:Array Value)(g:Option Nat)(bs:Bytes)(s:ByteArray)(w:World)(d:w.heap[p]? =some (.cells c T (0,0)))(hE:fy w p o c g bs)(hn:bs.length<1000000000)(hs:s.size<1000000):
 Calls prog 94 #[.pointer (some ⟨p,o,none⟩),.string s] w fun e w'=>e=.returned (.tuple #[])∧cS T w p o c g (bs++(Lib.uvarint s.size++sb s)) w':=by
 have hlen:=aa (bh s.size (by omega));go_enter func94,ntmps94
 go_wp2_with (first
  |(go_at_call 100;refine(kJ T p o c g bs s.size _ d hE (by omega) (by omega)).mono ?_;rintro e w1 ⟨rfl,hP⟩;obtain⟨c1,g1,z,a2,a3,a4,a5⟩:=hP)
  |(go_at_call 161;refine(xL T p o c1 g1 (bs++Lib.uvarint s.size) s _ z a2 ?len (by omega)).mono ?_))
 case len=>have:=hlen.o;simp only[ab];omega
 rintro e w2 ⟨rfl,hP⟩;go_wp2_with fail;go_end0
 exact⟨rfl,by rw[←al];exact cS.then a3 a4 a5 hP⟩
structure FW(w:World)(F:Nat)(g:Option Nat)(bs:Bytes):Prop where
 blk:∃v nm,w.heap[F]? =some (.cells #[v,.int .u64 bs.length,nm] 249 (0,0))∧gl w v g bs
 ne:g≠some F
def iJ(w:World)(F:Nat)(g:Option Nat)(bs':Bytes)(w':World):Prop:=
 ∃g',FW w' F g' bs'∧Upd (F::g.toList) w w'∧(g'=g∨∃k,g'=some k∧w.heap.size≤k)
theorem FW.upd{L:List Nat}{w w':World}{F:Nat}{g:Option Nat}{bs:Bytes}(h:FW w F g bs)(hu:Upd L w w')(h1:F∉L)(d:∀k,g=some k→k∉L):FW w' F g bs:=by obtain⟨v,nm,hb,hr⟩:=h.blk;exact⟨⟨v,nm,hu.blk hb h1,hr.upd hu d⟩,h.ne⟩
theorem FW.lt{w:World}{F:Nat}{g:Option Nat}{bs:Bytes}(h:FW w F g bs):F<w.heap.size:=by obtain⟨v,nm,hb,hr⟩:=h.blk;exact lt_of_block hb
theorem FW.glt{w:World}{F:Nat}{g:Option Nat}{bs:Bytes}(h:FW w F g bs):∀k,g=some k→k<w.heap.size:=by obtain⟨v,nm,hb,hr⟩:=h.blk;exact hr.lt
theorem Rd.upd{L:List Nat}{w w':World}{v:Value}{bs:Bytes}(h:Rd w v bs)(hu:Upd L w w')(hn:∀k,v.ownBlock=some k→k∉L):Rd w' v bs:=by
 rcases h with h|⟨g,off,cap,rfl,d⟩
 ·exact .inl h
 ·exact .inr ⟨g,off,cap,rfl,fun j z=>hu.cell (hn g rfl) (d j z)⟩
theorem Rd.lt{w:World}{v:Value}{bs:Bytes}(h:Rd w v bs)(hb:bs≠[]):∀k,v.ownBlock=some k→k<w.heap.size:=by
 rcases h with⟨_,e⟩|⟨g,off,cap,rfl,d⟩
 ·exact absurd e hb
 ·intro k e;cases e;exact ez (d 0 (List.length_pos_iff.2 hb))
theorem qG(s:ByteArray)(w:World):
 Calls prog 194 #[.string s] w fun e w'=>e=.returned (.tuple #[.pointer (some ⟨w.heap.size,0,none⟩),.nilIface])∧FW w' w.heap.size none []∧Upd [] w w':=by
 go_enter func194,ntmps194
 go_wp2_with fail;go_ret2
 refine⟨rfl,⟨⟨_,_,an _,⟨iq _ _ _ _,rfl⟩⟩,by simp⟩,(ae w).alloc _⟩
theorem jz(F:Nat)(w:World):Calls prog 173 #[.pointer (some ⟨F,0,none⟩)] w fun e w'=>e=.returned .nilIface∧w=w':=by
 go_enter func173,ntmps173
 go_wp2_with fail;go_ret;exact⟨rfl,rfl⟩
theorem pH(F:Nat)(w:World):Calls prog 113 #[.pointer (some ⟨F,0,none⟩)] w fun e w'=>e=.returned .nilIface∧w=w':=by
 go_enter func113,ntmps113
 go_wp2_with (go_at_call 173;refine(jz _ _).mono ?_;rintro e w1 ⟨rfl,rfl⟩);go_ret;exact⟨rfl,rfl⟩
theorem rM(F:Nat)(w:World):Calls prog 209 #[.pointer (some ⟨F,0,none⟩)] w fun e w'=>e=.returned .nilIface∧w=w':=by
 go_enter func209,ntmps209
 go_wp2_with fail;go_ret;exact⟨rfl,rfl⟩
theorem qD(F:Nat)(w:World):Calls prog 112 #[.pointer (some ⟨F,0,none⟩)] w fun e w'=>e=.returned .nilIface∧w=w':=by
 go_enter func112,ntmps112
 go_wp2_with fail;go_ret;exact⟨rfl,rfl⟩
def eM(l:List (Value×Bytes)):Bytes:=l.flatMap (·.2)
theorem oF(l:List (Value×Bytes))(k:Nat)(h:k<l.length):eM (l.take (k+1))=eM (l.take k)++l[k].2:=by unfold eM;rw[ax h,aU];simp only[aY,gE,bk]
theorem yh(l:List (Value×Bytes))(k:Nat):(eM (l.take k)).length≤(eM l).length:=by
 have:eM l=eM (l.take k)++eM (l.drop k):=by unfold eM;rw[←aU,aI]
 rw[this,ab];omega
theorem td{w:World}{gs off:Nat}{b:Bytes}(h:∀(j:Nat) (h:j<b.length),w.cell? ⟨gs,off+j,none⟩=some (.int .u8 (b[j]).toNat)):
 ∀j u,(Lib.byteCells b)[j]? =some u→w.cell? ((⟨gs,off,none⟩:Addr).add j)=some u:=by
 intro j u hu;have d:j<b.length:=by have:=(List.getElem?_eq_some_iff.1 hu).1;simpa[Lib.byteCells]using this
 have e:((⟨gs,off,none⟩:Addr).add j)=⟨gs,off+j,none⟩:=by
  unfold Addr.add;split
  ·subst_vars;rfl
  ·rfl
 rw[e,h j d,←hu];simp[Lib.byteCells,d]
theorem FW.grown{w w1:World}{F:Nat}{v nm:Value}{g:Option Nat}{A b:Bytes}{g' cap':Nat}(hb:w.heap[F]? =some (.cells #[v,.int .u64 A.length,nm] 249 (0,0)))(hr:gl w v g A)(G5:g≠some F)
 (z:w1.ownsRow 0 5 1 (.slice (some ⟨g',0,none⟩) (A.length+b.length) cap') (A.length+b.length) (Lib.byteCells A++Lib.byteCells b))(hu:Upd v.ownBlock.toList w w1)(hg:v.ownBlock=some g'∨w.heap.size≤g'):
 w1.heap[F]? =some (.cells #[v,.int .u64 A.length,nm] 249 (0,0))∧
 iJ w F g (A++b) ((w1.setCell ⟨F,0,none⟩ (.slice (some ⟨g',0,none⟩) (A.length+b.length) cap')).setCell ⟨F,1,none⟩ (.int .u64 ((A.length:Int)+(b.length:Int)))):=by
 rw[hr.blk]at hu hg;have D:F∉g.toList:=by intro h;apply G5;simpa using h
 have hb1:=hu.blk hb D;have G:=lt_of_block hb;have d:g'≠F:=by
  rcases hg with hg|hg
  ·intro e;subst e;exact G5 hg
  ·omega
 have e:(A++b).length=A.length+b.length:=ab;refine⟨hb1,some g',⟨⟨.slice (some ⟨g',0,none⟩) (A.length+b.length) cap',nm,?_,⟨?_,rfl⟩⟩,by simpa using d⟩,?_,?_⟩
 ·rw[au (au hb1 0 _) 1 _,e];rfl
 ·rw[e];have O:=ownsRow_setCell_other z (a:=⟨F,0,none⟩) (by simpa[Value.ownBlock]using d) (.slice (some ⟨g',0,none⟩) (A.length+b.length) cap');have h1:=ownsRow_setCell_other O (a:=⟨F,1,none⟩) (by simpa[Value.ownBlock]using d) (.int .u64 ((A.length:Int)+(b.length:Int)));have e2:Lib.byteCells (A++b)=Lib.byteCells A++Lib.byteCells b:=aX;rw[e2];exact h1
 ·exact((hu.mono (by intro x U;simp only[ah];exact .inr U)).setCell (by simp) _).setCell (by simp) _
 ·rcases hg with hg|hg
  ·exact .inl hg.symm
  ·exact .inr ⟨g',rfl,hg⟩
theorem iJ.trans{w w1 w2:World}{F:Nat}{g g1:Option Nat}{bs:Bytes}(hu:Upd (F::g.toList) w w1)(hg:g1=g∨∃k,g1=some k∧w.heap.size≤k)(h:iJ w1 F g1 bs w2):iJ w F g bs w2:=by
 obtain⟨g2,A,a2,a3⟩:=h;refine⟨g2,A,hu.then a2 ?_,?_⟩
 ·intro i d hl;rcases hg with rfl|⟨k,rfl,z⟩
  ·exact d
  ·simp at d⊢;rcases d with rfl|rfl
   ·exact .inl rfl
   ·omega
 ·rcases a3 with rfl|⟨k,rfl,z⟩
  ·exact hg
  ·exact .inr ⟨k,rfl,aW hu.size z⟩
theorem iJ.upd{w w':World}{F:Nat}{g:Option Nat}{bs:Bytes}(h:iJ w F g bs w'):Upd (F::g.toList) w w':=by obtain⟨_,_,h,_⟩:=h;exact h
theorem fF.next{w w1 w2:World}{F:Nat}{g g1:Option Nat}{bs:Bytes}{n:Nat}{v0 v1:Value}(z:FW w F g bs)(D:Upd (F::g.toList) w w1)(hg:g1=g∨∃k,g1=some k∧w.heap.size≤k)(hK:fF w w1 g bs.length)
 (G:fF w1 w2 g1 n)(hn:bs.length≤n)(A:Upd (F::g1.toList) w1 ((w2.setCell ⟨F,0,none⟩ v0).setCell ⟨F,1,none⟩ v1))(G5:g1≠some F):
 fF w ((w2.setCell ⟨F,0,none⟩ v0).setCell ⟨F,1,none⟩ v1) g bs.length:=by
 rcases hg with rfl|⟨k,rfl,O⟩
 ·refine(hK.trans G hn).trans (m:=n) ?_ hn;intro q hq j U;have d:q≠F:=fun e=>z.ne (by rw[hq,e]);simp only[World.cell?];rw[gv (k:=q) _ _ (by simpa using d),gv (k:=q) _ _ (by simpa using d)]
 ·refine hK.trans (nc A bs.length ?_) (aw _);intro q hq;have h1:=z.glt q hq;refine⟨bD h1 D.size,?_⟩;have d:q≠F:=fun e=>z.ne (by rw[hq,e]);simp;exact⟨d,by omega⟩
theorem yV(F:Nat)(g:Option Nat)(bs:Bytes)(l:List (Value×Bytes))(q cap:Nat)(w:World)(hF:FW w F g bs)(hq:∀j (h:j<l.length),w.cell? ⟨q,j,none⟩=some l[j].1)
 (br:q≠F)(bv:g≠some q)(hs:∀x∈l,Rd w x.1 x.2)(bw:∀x∈l,x.2≠[])(a3:∀x∈l,x.1.ownBlock≠some F)(a4:∀x∈l,∀k,x.1.ownBlock=some k→g≠some k)(hn:bs.length+(eM l).length<1073741824)(hl:l.length<1000):
 Calls prog 162 #[.pointer (some ⟨F,0,none⟩),.slice (some ⟨q,0,none⟩) l.length cap] w fun e w'=>e=.returned .nilIface∧iJ w F g (bs++eM l) w'∧fF w w' g bs.length:=by
 have HQ:=aa hq;have HS:=aa hs;have a5:=aa a3;have a6:=aa a4;have HF:=aa hF;clear hq hs a3 a4 hF;obtain⟨i0,hi,bA,bB,bE⟩:=info_parts Tryz.info5;go_enter func162,ntmps162
 go_wp2_with fail;go_loopw [9] (fun i wr=>∃(k:Nat),k≤l.length∧i=.int .i64 k∧iJ w F g (bs++eM (l.take k)) wr∧fF w wr g bs.length) (fun i _=>l.length-(intOf i).toNat)
 case atStart=>exact⟨0,ay _,rfl,⟨g,by simpa[eM]using HF.o,(ae w).mono (by simp),.inl rfl⟩,fF.refl _ _ _⟩
 case round=>
  obtain⟨k,hk,rfl,⟨g1,z,D,ad⟩,a7⟩:=hrel;have a9:=aa a7;clear a7;by_cases G:k<l.length
  ·have hmem:=aq G;obtain⟨v0,nm,d,a0⟩:=z.blk;have bK:=(HS.o _ hmem).upd D (by intro j hj;simp only[ah,not_or];refine⟨fun e=>a5.o _ hmem (by rw[hj,e]),fun e=>a6.o _ hmem j hj (by simpa using e)⟩)
   have b8:=D.cell (a:=⟨q,k,none⟩) (by simp only[ah,not_or];exact⟨br,fun e=>bv (by simpa using e)⟩) (HQ.o k G);have G5:=bw _ hmem;have hle:=yh l (k+1);rw[oF l k G,ab]at hle;have bb:bs++eM (l.take (k+1))=bs++eM (l.take k)++l[k].2:=by rw[oF l k G,al]
   have b6:=fun j hj=>a6.o _ hmem j hj;have b7:=(HS.o _ hmem).lt G5;have b9:=a5.o _ hmem;have bL:(bs++eM (l.take k)).length=bs.length+(eM (l.take k)).length:=ab;generalize hx:l[k]=x at*;clear hx hmem;obtain⟨v,b⟩:=x;simp only at*;rcases bK with⟨_,e⟩|⟨gs,off,sc,rfl,a1⟩
   ·exact absurd e G5
   have bM:=aa bb;have bO:Hid (bs.length≤(bs++eM (l.take k)).length):=aa (by rw[ab];omega);have bd:=aa D;have be:=aa ad;have O:=z.ne;have ca:(bs++eM (l.take k)).length+b.length<1073741824:=by omega
   clear bb D ad z bL;generalize bs++eM (l.take k)=A at*;have bR:0<b.length:=List.length_pos_iff.2 G5;have bg:=af d 0;have U:=af d 1;have bl:=ao d 0;have V:=ao d 1;have bS:=aa d;clear d;go_wp2_with (at_builtin;refine m7 _ rfl _ _ 65 rfl 5 i0 (.int .u8 0) 1 1 underlying65 hi bA bB bE rfl (by decide) v0 A.length (Lib.byteCells A) rfl a0.own ⟨gs,off,none⟩ b.length sc (Lib.byteCells b) rfl ?c1 ?c2 ?c3 ?c4 ?c5 bR ?_);case c1=>simp[Lib.byteCells]
   case c2=>exact td a1
   case c3=>exact g3 _
   case c4=>unfold maxLen;omega
   case c5=>omega
   intro g' cap' w1 bn hu bW a2;obtain⟨hb1,hK⟩:=FW.grown bS.o a0 O bn hu bW;have W:=hK.upd;have b5:=aa (fF.next HF.o bd.o be.o a9.o (by rw[a0.blk]at a2;simpa using a2) bO.o W O);clear W a2;have K:=aa (iJ.trans bd.o be.o hK);clear hK bg U bl V;have bg:=af hb1 0;have U:=af hb1 1;have bl:=ao hb1 0;have V:=ao hb1 1;clear hb1;go_wp2_with fail;exact⟨⟨k+1,by omega,rfl,by rw[bM.o];exact K.o,b5.o⟩,by simp only[intOf];omega⟩
  ·have e:k=l.length:=by omega
   subst e;have K:Hid (iJ w F g (bs++eM l) wr):=aa ⟨g1,by simpa using z,D,ad⟩;clear z;go_wp2_with fail;go_ret;exact⟨rfl,K.o,a9.o⟩
theorem o8(F:Nat)(g:Option Nat)(bs:Bytes)(v:Value)(b:Bytes)(q cap:Nat)(w:World)(O:FW w F g bs)(hq:w.cell? ⟨q,0,none⟩=some v)
 (d:q≠F)(z:g≠some q)(hs:Rd w v b)(A:b≠[])(D:v.ownBlock≠some F)(G:∀k,v.ownBlock=some k→g≠some k)(hn:bs.length+b.length<1073741824):
 Calls prog 162 #[.pointer (some ⟨F,0,none⟩),.slice (some ⟨q,0,none⟩) 1 cap] w fun e w'=>e=.returned .nilIface∧iJ w F g (bs++b) w'∧fF w w' g bs.length:=by
 have:=yV F g bs [(v,b)] q cap w O (by intro j U;have:j=0:=by simpa using U
                                       subst this;exact hq) d z (by simpa using hs) (by simpa using A) (by simpa using D) (by simpa using G) (by simpa[eM]using hn) (by simp)
 simpa[eM]using this
theorem wJ(F:Nat)(g:Option Nat)(bs:Bytes)(v v2:Value)(b b2:Bytes)(q cap:Nat)(w:World)(hF:FW w F g bs)(hq:w.cell? ⟨q,0,none⟩=some v)(D:w.cell? ⟨q,1,none⟩=some v2)
 (G:q≠F)(O:g≠some q)(hs:Rd w v b)(U:b≠[])(V:v.ownBlock≠some F)(W:∀k,v.ownBlock=some k→g≠some k)
 (ad:Rd w v2 b2)(d:b2≠[])(z:v2.ownBlock≠some F)(A:∀k,v2.ownBlock=some k→g≠some k)(hn:bs.length+(b.length+b2.length)<1073741824):
 Calls prog 162 #[.pointer (some ⟨F,0,none⟩),.slice (some ⟨q,0,none⟩) 2 cap] w fun e w'=>e=.returned .nilIface∧iJ w F g (bs++(b++b2)) w'∧fF w w' g bs.length:=by
 have:=yV F g bs [(v,b),(v2,b2)] q cap w hF (by
  intro j hj;match j,hj with
  |0,_=>exact hq
  |1,_=>exact D) G O (by simp[hs,ad]) (by simp[U,d]) (by simp[V,z]) (by simp only[ah,ai,or_false,forall_eq_or_imp,forall_eq];exact⟨W,A⟩) (by simpa[eM]using hn) (by simp)
 simpa[eM]using this
theorem Tryz.size5:(Tryz.prog.info? 5).map (·.size)=some 1:=by kernel_rfl
def eX(bs:Bytes)(pos:Nat)(b:Bytes):Bytes:=bs.take pos++(b++bs.drop (pos+b.length))
theorem ix(bs:Bytes)(pos:Nat)(b:Bytes)(h:pos+b.length≤bs.length):(eX bs pos b).length=bs.length:=by simp[eX];omega
theorem qs(w:World)(g:Nat)(cs:Array Value):Upd [g] w (w.setRow g cs):=
 ⟨rfl,rfl,rfl,by simp[World.setRow],fun k _ hn=>setRow_other w g k cs (by simpa using hn)⟩
theorem wF(bs b:Bytes)(pos:Nat)(cur:List Value)(h:pos+b.length≤bs.length)(d:cur.take bs.length=Lib.byteCells bs):
 (cur.take pos++(Lib.byteCells b++cur.drop (pos+(Lib.byteCells b).length))).take bs.length=Lib.byteCells (eX bs pos b):=by
 have G9:(Lib.byteCells b).length=b.length:=Lib.byteCells_length b;have hl:bs.length≤cur.length:=by have:=congrArg List.length d;rw[Lib.byteCells_length,aZ]at this;omega
 have e1:cur.take pos=Lib.byteCells (bs.take pos):=by have:=congrArg (List.take pos) d;rw[List.take_take,Nat.min_eq_left (by omega)]at this;rw[this,Lib.byteCells,Lib.byteCells,List.map_take]
 have e2:(cur.drop (pos+b.length)).take (bs.length-(pos+b.length))=Lib.byteCells (bs.drop (pos+b.length)):=by have:=congrArg (List.drop (pos+b.length)) d;rw[List.drop_take]at this;rw[this,Lib.byteCells,Lib.byteCells,List.map_drop]
 have e3:(cur.take pos).length=pos:=by rw[aZ];omega
 rw[List.take_append,List.take_append,e3,G9];have e4:(cur.take pos).take bs.length=cur.take pos:=bG (by omega);have z:(Lib.byteCells b).take (bs.length-pos)=Lib.byteCells b:=bG (by rw[G9];omega);rw[e4,z,show bs.length-pos-b.length=bs.length-(pos+b.length) by omega,e2,e1];simp[eX,Lib.byteCells]
theorem wR(F:Nat)(k:Nat)(bs b:Bytes)(pos:Nat)(v:Value)(w:World)(O:FW w F (some k) bs)(hs:Rd w v b)(hb:b≠[])(hp:pos+b.length≤bs.length):
 Calls prog 224 #[.pointer (some ⟨F,0,none⟩),v,.int .u64 pos] w fun e w'=>e=.returned .nilIface∧FW w' F (some k) (eX bs pos b)∧Upd [k] w w':=by
 obtain⟨v0,nm,A,d⟩:=O.blk;have G5:=O.ne;have a1:0<b.length:=List.length_pos_iff.2 hb;rcases d.own.2 with⟨rfl,_⟩|⟨k',cap,cur,rfl,_,hk,D,U,G,ht⟩
 ·cases d.blk
 have V:k'=k:=by have:=d.blk;simpa[Value.ownBlock]using this
 subst V;rcases hs with⟨_,e⟩|⟨gs,off,sc,rfl,z⟩
 ·exact absurd e hb
 have a2:=af A 0;have a0:bs.length≤cap:=D;have h1:(0:Int)≤(pos:Int):=by omega
 have h2:(pos:Int)≤(bs.length:Int):=by omega
 have h3:cap≠pos:=by omega
 have a3:(cap=pos)=False:=by simp[h3]
 have HB:=aa A;have HR:=aa d;clear O;go_enter func224,ntmps224
 go_wp2_with (first
  |(go_at_call 173;refine(jz _ _).mono ?_;rintro e w1 ⟨rfl,rfl⟩)
  |(with_reducible refine wpList_copy_own rfl (.tmp 18) (.tmp 19) 65 65 rfl 5 underlying65 Tryz.size5 k' pos (bs.length-pos) (cap-pos) ⟨gs,off,none⟩ b.length sc rfl rfl cur 5 hk (Lib.byteCells b) ?c1 ?c2 ?c3 ?c4 ?_))
 case c1=>rw[Lib.byteCells_length];exact(Nat.min_eq_left (by omega)).symm
 case c2=>exact td z
 case c3=>rw[Lib.byteCells_length,G];omega
 case c4=>exact g3 _
 generalize hL:(cur.toList.take pos++(Lib.byteCells b++cur.toList.drop (pos+(Lib.byteCells b).length))).toArray=L;have HL:=aa hL;clear hL;have HH:=aa (setRow_heap w k' cur L 5 (0,0) hk);have hU:=qs w k' L;generalize w.setRow k' L=w2 at*;have HU:=aa hU;clear hU;go_wp2_with fail;go_ret;have W:=wF bs b pos cur.toList hp (by simpa using ht);have hlen:=ix bs pos b hp;have ad:L.size=cap*1:=by rw[←HL.o];simp[Lib.byteCells_length];have:=G;omega
 refine⟨rfl,⟨⟨_,nm,by rw[hlen];exact HU.o.blk HB.o (by simpa using fun e=>G5 (by rw[e])),⟨⟨by rw[Lib.byteCells_length,iI],.inr ⟨k',cap,L,by rw[hlen],ay _,HH.o,by rw[hlen];exact D,U,ad,?_⟩⟩,rfl⟩⟩,G5⟩,HU.o⟩;rw[hlen,iI,←HL.o];exact W
theorem nK(z:Value)(n:Nat):madeCells #[z] n=(List.replicate n z).toArray:=by
 unfold madeCells;simp[Nat.mod_one];apply Array.ext
 ·simp
 ·intro i h1 d;simp
def pad(a n:Nat):Bytes:=List.replicate ((a-n % a) % a) 0
theorem mW(a n:Nat):(pad a n).length=(a-n % a) % a:=by simp[pad]
theorem jE(a n:Nat)(h:0<a):(pad a n).length<a:=by rw[mW];exact Nat.mod_lt _ h
theorem oL(a n:Nat)(h:0<a):(n+(pad a n).length) % a=0:=by
 rw[mW];have h1:=Nat.mod_lt n h;have z:=Nat.div_add_mod n a;by_cases d:n % a=0
 ·rw[d,Nat.sub_zero,Nat.mod_self,iL,d]
 ·rw[Nat.mod_eq_of_lt (show a-n % a<a by omega)];have:n+(a-n % a)=a*(n/a+1):=by rw[Nat.mul_add,iI];omega
  rw[this,Nat.mul_mod_right]
theorem mx(F:Nat)(g:Option Nat)(bs:Bytes)(a:Nat)(w:World)(V:FW w F g bs)(ha:0<a)(a6:a<100)(hn:bs.length<1000000000):
 Calls prog 165 #[.pointer (some ⟨F,0,none⟩),.int .i64 a] w fun e w'=>e=.returned .nilIface∧iJ w F g (bs++pad a bs.length) w'∧fF w w' g bs.length:=by
 obtain⟨v0,nm,W,a7⟩:=V.blk;have a9:=af W 1;have hm:(a:Int) % 18446744073709551616=a:=by omega
 have bb:(a:Int)≠0:=by omega
 have hpl:=mW a bs.length;have A:=aa V;clear V;by_cases h0:bs.length % a=0
 ·have hz:pad a bs.length=[]:=by rw[←List.length_eq_zero_iff,hpl,h0,Nat.sub_zero,Nat.mod_self]
  have bd:((bs.length:Int)) % (a:Int)=0:=by omega
  rw[hz,bk];clear hpl hz;go_enter func165,ntmps165
  go_wp2_with fail;go_ret;exact⟨rfl,⟨g,A.o,(ae w).mono (by simp),.inl rfl⟩,fF.refl _ _ _⟩
 ·have be:=Nat.mod_lt bs.length ha;have bg:(bs.length:Int) % (a:Int)=((bs.length % a:Nat):Int):=by omega
  have D:(pad a bs.length).length=a-bs.length % a:=by rw[hpl,Nat.mod_eq_of_lt (by omega)]
  clear hpl;generalize bs.length % a=r at*;obtain⟨n,bl,G⟩:∃n,(a:Int)-(r:Int)=(n:Nat)∧n=a-r:=⟨a-r,by omega,rfl⟩;have bn:0<n:=by omega
  have br:((r:Int)=0)=False:=by simp;omega
  obtain⟨i0,hi,ad,a0,a1⟩:=info_parts Tryz.info5;have a2:=aa G;clear G;go_enter func165,ntmps165
  go_wp2_with (first
   |(at_make;refine wpList_make_full _ rfl _ _ 65 rfl 0 5 i0 (.int .u8 0) 1 underlying65 hi ad a0 .u64 .u64 n n n rfl rfl rfl rfl ?b2 ?b3 ?b4 ?_))
  case b2=>rw[a1];omega
  case b3=>unfold maxLen;omega
  case b4=>omega
  intro w1 O a3;have d:Upd [] w w1:=(ae w).grown a3 (by simp);have hB:gl w1 (.slice (some ⟨w.heap.size,0,none⟩) n n) (some w.heap.size) (List.replicate n 0):=by
   refine⟨?_,rfl⟩;rw[List.length_replicate];have e:(madeCells #[Value.int .u8 0] n).toList=Lib.byteCells (List.replicate n 0):=by simp[nK,Lib.byteCells]
   rw[←e];exact O
  have z:=A.o.upd d (by simp) (by simp);go_wp2_with (go_at_call 162;refine(o8 F g bs (.slice (some ⟨w.heap.size,0,none⟩) n n) (List.replicate n 0) w1.heap.size 1 _ (z.upd ((ae w1).alloc _) (by simp) (by simp)) ?d1 ?d2 ?d3 ?d4 ?d5 ?d6 ?d7 ?d8).mono ?_);case d1=>exact af (an _) 0
  case d2=>have:=z.lt;omega
  case d3=>intro e;have:=z.glt _ e;omega
  case d4=>exact hB.rd.upd ((ae w1).alloc _) (by simp)
  case d5=>intro e;have:=congrArg List.length e;simp at this;omega
  case d6=>intro e;have:=A.o.lt;simp[Value.ownBlock]at e;omega
  case d7=>intro k hk e;have:=A.o.glt _ e;simp[Value.ownBlock]at hk;omega
  case d8=>rw[List.length_replicate];omega
  rintro e w2 ⟨rfl,hP,U⟩;have a4:=aa hP;have a5:=aa U;clear hP U;go_wp2_with fail;go_ret;refine⟨rfl,?_,((nc (d.trans ((ae w1).alloc _)) bs.length (fun k hk=>⟨A.o.glt k hk,by simp⟩)).trans a5.o (aw _))⟩;have e:pad a bs.length=List.replicate n 0:=by rw[a2.o,←D];simp[pad]
  rw[e];exact iJ.trans ((d.trans ((ae w1).alloc _)).mono (by simp)) (.inl rfl) a4.o
end Go.Proofs.YtlgefdfflmgocaaGreatDoor
