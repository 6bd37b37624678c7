import Derived.Test.YtlgefdfflmgocaaGreatDoorQ03
import Derived.Lib.SlBytesConst
set_option linter.all false
set_option maxRecDepth 100000
set_option maxHeartbeats 400000
namespace Go.Proofs.YtlgefdfflmgocaaGreatDoor
section
open Go Go.RowKit Xc Go.Proofs.Tryz
variable {w:World} {k:WK} {r:WR} {s:WS}
abbrev ptr(b o:Nat):Value:=.pointer (some ⟨b,o,none⟩)
theorem WI.c1{f:Nat}{args:Array Value}{bs':Bytes}(n:Nat)(h:WI w k r s)
 (d:∀c,w.heap[k.W]? =some (.cells c 243 (0,0))→fy w k.W 12 c r.g1 s.b1→Calls prog f args w fun e w'=>e=.returned (.tuple #[])∧cS 243 w k.W 12 c r.g1 bs' w'):
 Calls prog f args w fun e w'=>e=.returned (.tuple #[])∧WP w k r n {s with b1:=bs'} w':=by
 obtain⟨c,hb⟩:=h.blk;exact(d c hb.blk hb.e1).mono fun _ _ ⟨he,hP⟩=>⟨he,(h.enc1 n hb hP).toP⟩
theorem WI.c2{f:Nat}{args:Array Value}{bs':Bytes}(n:Nat)(h:WI w k r s)
 (d:∀c,w.heap[k.W]? =some (.cells c 243 (0,0))→fy w k.W 23 c r.g2 s.b2→Calls prog f args w fun e w'=>e=.returned (.tuple #[])∧cS 243 w k.W 23 c r.g2 bs' w'):
 Calls prog f args w fun e w'=>e=.returned (.tuple #[])∧WP w k r n {s with b2:=bs'} w':=by
 obtain⟨c,hb⟩:=h.blk;exact(d c hb.blk hb.e2).mono fun _ _ ⟨he,hP⟩=>⟨he,(h.enc2 n hb hP).toP⟩
theorem Bd(n:Nat)(h:WI w k r s):Calls prog 93 #[ptr k.W 12] w fun e w'=>e=.returned (.tuple #[])∧WQ w k r n {s with b1:=[]} w':=by obtain⟨c,hb⟩:=h.blk;exact(wO _ _ _ c _ _ _ hb.blk hb.e1).mono fun _ _ ⟨he,hP⟩=>⟨he,h.enc1 n hb hP⟩
theorem CP(n x:Nat)(h:WI w k r s)(d:x<4294967296)(hn:s.b1.length<1073741824):Calls prog 198 #[ptr k.W 12,.int .u32 x] w fun e w'=>e=.returned (.tuple #[])∧WQ w k r n {s with b1:=s.b1++Lib.beBytes 4 x} w':=by obtain⟨c,hb⟩:=h.blk;exact(o9 _ _ _ c _ _ x _ hb.blk hb.e1 hn d).mono fun _ _ ⟨he,hP⟩=>⟨he,h.enc1 n hb hP⟩
theorem iZ(n:Nat)(h:WI w k r s):Calls prog 93 #[ptr k.W 12] w fun e w'=>e=.returned (.tuple #[])∧WP w k r n {s with b1:=[]} w':=
 h.c1 n fun c d hE=>wO _ _ _ c _ _ _ d hE
theorem xw(n:Nat)(h:WI w k r s):Calls prog 93 #[ptr k.W 23] w fun e w'=>e=.returned (.tuple #[])∧WP w k r n {s with b2:=[]} w':=
 h.c2 n fun c d hE=>wO _ _ _ c _ _ _ d hE
theorem Bb(n x:Nat)(h:WI w k r s)(d:x<4294967296)(hn:s.b1.length<1073741824):Calls prog 198 #[ptr k.W 12,.int .u32 x] w fun e w'=>e=.returned (.tuple #[])∧WP w k r n {s with b1:=s.b1++Lib.beBytes 4 x} w':=
 h.c1 n fun c z hE=>o9 _ _ _ c _ _ x _ z hE hn d
theorem l9(n x:Nat)(h:WI w k r s)(d:x<4294967296)(hn:s.b1.length<1073741824):Calls prog 197 #[ptr k.W 12,.int .i64 x] w fun e w'=>e=.returned (.tuple #[])∧WP w k r n {s with b1:=s.b1++Lib.beBytes 4 x} w':=
 h.c1 n fun c z hE=>mD _ _ _ c _ _ x _ z hE hn d
theorem yO(n x:Nat)(h:WI w k r s)(d:x<4294967296)(hn:s.b2.length<1073741824):Calls prog 197 #[ptr k.W 23,.int .i64 x] w fun e w'=>e=.returned (.tuple #[])∧WP w k r n {s with b2:=s.b2++Lib.beBytes 4 x} w':=
 h.c2 n fun c z hE=>mD _ _ _ c _ _ x _ z hE hn d
theorem EK(n:Nat)(x:UInt8)(h:WI w k r s)(hn:s.b1.length<1073741824):Calls prog 222 #[ptr k.W 12,.int .u8 x.toNat] w fun e w'=>e=.returned (.tuple #[])∧WP w k r n {s with b1:=s.b1++[x]} w':=
 h.c1 n fun c d hE=>Bx _ _ _ c _ _ x _ d hE hn
theorem oA(n x:Nat)(h:WI w k r s)(d:x<18446744073709551616)(hn:s.b1.length<1073741824):Calls prog 212 #[ptr k.W 12,.int .u64 x] w fun e w'=>e=.returned (.tuple #[])∧WP w k r n {s with b1:=s.b1++Lib.beBytes 8 x} w':=
 h.c1 n fun c z hE=>Bw _ _ _ c _ _ x _ z hE hn d
theorem FO(n x:Nat)(h:WI w k r s)(d:x<4294967296)(hn:s.b1.length<1073741824):Calls prog 100 #[ptr k.W 12,.int .i64 x] w fun e w'=>e=.returned (.tuple #[])∧WP w k r n {s with b1:=s.b1++Lib.uvarint x} w':=
 h.c1 n fun c z hE=>kJ _ _ _ c _ _ x _ z hE hn d
theorem FR(n x:Nat)(h:WI w k r s)(d:x<4294967296)(hn:s.b2.length<1073741824):Calls prog 100 #[ptr k.W 23,.int .i64 x] w fun e w'=>e=.returned (.tuple #[])∧WP w k r n {s with b2:=s.b2++Lib.uvarint x} w':=
 h.c2 n fun c z hE=>kJ _ _ _ c _ _ x _ z hE hn d
theorem Be(n x:Nat)(h:WI w k r s)(d:x<4294967296)(hn:s.b2.length<1073741824):Calls prog 104 #[ptr k.W 23,.int .u32 x] w fun e w'=>e=.returned (.tuple #[])∧WP w k r n {s with b2:=s.b2++Lib.uvarint x} w':=
 h.c2 n fun c z hE=>si _ _ _ c _ _ x _ z hE hn d
theorem EM(n x:Nat)(h:WI w k r s)(d:x<18446744073709551616)(hn:s.b1.length<1073741824):Calls prog 106 #[ptr k.W 12,.int .u64 x] w fun e w'=>e=.returned (.tuple #[])∧WP w k r n {s with b1:=s.b1++Lib.uvarint x} w':=
 h.c1 n fun c z hE=>jm _ _ _ c _ _ x _ z hE hn d
theorem xv(n:Nat)(x:ByteArray)(h:WI w k r s)(d:x.size<1000000)(hn:s.b1.length<1000000000):Calls prog 94 #[ptr k.W 12,.string x] w fun e w'=>e=.returned (.tuple #[])∧WP w k r n {s with b1:=s.b1++(Lib.uvarint x.size++sb x)} w':=
 h.c1 n fun c z hE=>mj _ _ _ c _ _ x _ z hE hn d
theorem WI.dgF(h:WI w k r s):(k.D∉k.W::r.g1.toList∧k.tb∉k.W::r.g1.toList)∧(k.D∉k.W::r.g2.toList∧k.tb∉k.W::r.g2.toList):=by
 have e1:k.D≠k.W:=h.dis.ne (i:=6) (j:=0) rfl rfl (by simp);have e2:k.tb≠k.W:=h.dis.ne (i:=7) (j:=0) rfl rfl (by simp);have d:∀q,r.g1=some q→k.D≠q:=fun q hq=>h.dis.ne (i:=6) (j:=11) rfl (congrArg some hq) (by simp);have a2:∀q,r.g1=some q→k.tb≠q:=fun q hq=>h.dis.ne (i:=7) (j:=11) rfl (congrArg some hq) (by simp);have a3:∀q,r.g2=some q→k.D≠q:=fun q hq=>h.dis.ne (i:=6) (j:=12) rfl (congrArg some hq) (by simp);have a4:∀q,r.g2=some q→k.tb≠q:=fun q hq=>h.dis.ne (i:=7) (j:=12) rfl (congrArg some hq) (by simp);refine⟨⟨?_,?_⟩,?_,?_⟩<;>simp only[ah,fh,not_or]<;>refine⟨by assumption,fun hm=>?_⟩
 ·exact d _ hm rfl
 ·exact a2 _ hm rfl
 ·exact a3 _ hm rfl
 ·exact a4 _ hm rfl
abbrev xU(k:WK):Value:=.iface 417 (ptr k.D 0)
theorem yN(n:Nat)(h:WI w k r s)(hn:s.b1.length<1073741824):Calls prog 169 #[ptr k.W 12,xU k] w fun e w'=>e=.returned (.tuple #[])∧WP w k r n {s with b1:=s.b1++Lib.beBytes 4 s.crc} w':=
 h.c1 n fun c d hE=>mH _ _ _ c _ _ _ _ _ _ d hE h.dig hn
theorem Bc(n:Nat)(h:WI w k r s)(hn:s.b1.length<1073741824):Calls prog 108 #[ptr k.W 12,xU k] w fun e w'=>e=.returned (.tuple #[])∧WP w k r n {s with b1:=s.b1++Lib.beBytes 4 (crc s.b1),crc:=crc s.b1} w':=by obtain⟨c,hb⟩:=h.blk;exact(wN _ _ _ c _ _ _ _ _ _ hb.blk hb.e1 h.dig hn h.dgF.1.1 h.dgF.1.2).mono fun _ _ ⟨he,hP⟩=>⟨he,h.hash1 n hb hP⟩
theorem EN(n:Nat)(h:WI w k r s)(hn:s.b2.length<1073741824):Calls prog 108 #[ptr k.W 23,xU k] w fun e w'=>e=.returned (.tuple #[])∧WP w k r n {s with b2:=s.b2++Lib.beBytes 4 (crc s.b2),crc:=crc s.b2} w':=by obtain⟨c,hb⟩:=h.blk;exact(wN _ _ _ c _ _ _ _ _ _ hb.blk hb.e2 h.dig hn h.dgF.2.1 h.dgF.2.2).mono fun _ _ ⟨he,hP⟩=>⟨he,h.hash2 n hb hP⟩
theorem gl.shape{v:Value}{g:Option Nat}{bs:Bytes}(h:gl w v g bs)(hb:bs≠[]):∃q cap,v=.slice (some ⟨q,0,none⟩) bs.length cap∧g=some q:=by
 rcases h.form with⟨_,_,e⟩|e
 ·exact absurd e hb
 ·exact e
theorem iC(h:WI w k r s)(hb:s.b1≠[]):Calls prog 96 #[ptr k.W 12] w fun e w'=>∃q cap N,e=.returned (.slice (some ⟨q,0,none⟩) N cap)∧Hid (N=s.b1.length)∧Hid (gl w (.slice (some ⟨q,0,none⟩) N cap) r.g1 s.b1)∧w=w':=by obtain⟨c,hB⟩:=h.blk;obtain⟨v,hv,hr⟩:=hB.e1.row;obtain⟨q,cap,rfl,_⟩:=hr.shape hb;exact(Get _ _ _ c _ _ hB.blk hv).mono fun _ _ ⟨he,d⟩=>⟨q,cap,_,he,aa rfl,aa hr,d⟩
theorem Dh(h:WI w k r s)(hb:s.b2≠[]):Calls prog 96 #[ptr k.W 23] w fun e w'=>∃q cap N,e=.returned (.slice (some ⟨q,0,none⟩) N cap)∧Hid (N=s.b2.length)∧Hid (gl w (.slice (some ⟨q,0,none⟩) N cap) r.g2 s.b2)∧w=w':=by obtain⟨c,hB⟩:=h.blk;obtain⟨v,hv,hr⟩:=hB.e2.row;obtain⟨q,cap,rfl,_⟩:=hr.shape hb;exact(Get _ _ _ c _ _ hB.blk hv).mono fun _ _ ⟨he,d⟩=>⟨q,cap,_,he,aa rfl,aa hr,d⟩
theorem FN(h:WI w k r s)(hb:s.b1≠[]):Calls prog 107 #[ptr k.W 12] w fun e w'=>∃N:Nat,e=.returned (.int .i64 N)∧Hid (N=s.b1.length)∧w=w':=by obtain⟨c,hB⟩:=h.blk;obtain⟨v,hv,hr⟩:=hB.e1.row;obtain⟨q,cap,rfl,_⟩:=hr.shape hb;exact(Len _ _ _ c _ _ _ _ hB.blk hv).mono fun _ _ ⟨he,d⟩=>⟨_,he,aa rfl,d⟩
theorem FQ(h:WI w k r s)(hb:s.b2≠[]):Calls prog 107 #[ptr k.W 23] w fun e w'=>∃N:Nat,e=.returned (.int .i64 N)∧Hid (N=s.b2.length)∧w=w':=by obtain⟨c,hB⟩:=h.blk;obtain⟨v,hv,hr⟩:=hB.e2.row;obtain⟨q,cap,rfl,_⟩:=hr.shape hb;exact(Len _ _ _ c _ _ _ _ hB.blk hv).mono fun _ _ ⟨he,d⟩=>⟨_,he,aa rfl,d⟩
theorem WI.fpos(h:WI w k r s):∃P:Nat,Hid (P=s.bF.length)∧w.cell? ⟨k.F,1,none⟩=some (.int .u64 P):=by obtain⟨v,nm,hb,_⟩:=h.f.blk;exact⟨_,aa rfl,by rw[af hb];rfl⟩
theorem WI.ppos(h:WI w k r s):∃P:Nat,Hid (P=s.bP.length)∧w.cell? ⟨k.FP,1,none⟩=some (.int .u64 P):=by obtain⟨v,nm,hb,_⟩:=h.fP.blk;exact⟨_,aa rfl,by rw[af hb];rfl⟩
theorem WI.popos(h:WI w k r s):∃P:Nat,Hid (P=s.bPO.length)∧w.cell? ⟨k.FPO,1,none⟩=some (.int .u64 P):=by obtain⟨v,nm,hb,_⟩:=h.fPO.blk;exact⟨_,aa rfl,by rw[af hb];rfl⟩
structure cV(w:World)(l:List (Option Nat))(a b:Nat)(v:Value)(bs:Bytes):Prop where
 rd:Rd w v bs
 ne:bs≠[]
 no:∀q,v.ownBlock=some q→l[a]?≠some (some q)∧l[b]?≠some (some q)
theorem cV.o{l:List (Option Nat)}{a b p:Nat}{v:Value}{bs:Bytes}(hr:Rd w v bs)(hn:bs≠[])(hv:v.ownBlock=some p)(d:∀i:Nat,l[i]?≠some (some p)):cV w l a b v bs:=
 ⟨hr,hn,fun q hq=>by rw[hv]at hq;cases hq;exact⟨d _,d _⟩⟩
theorem cV.slot{l:List (Option Nat)}{a b i p:Nat}{v:Value}{bs:Bytes}(d:Dis l)(hr:Rd w v bs)(hn:bs≠[])(hv:v.ownBlock=some p)(z:l[i]? =some (some p))(h1:i≠a)(A:i≠b):cV w l a b v bs:=
 ⟨hr,hn,fun q hq=>by rw[hv]at hq;cases hq;exact⟨fun h=>h1 (d _ _ _ z h),fun h=>A (d _ _ _ z h)⟩⟩
theorem cV.upd{l:List (Option Nat)}{a b:Nat}{v:Value}{bs:Bytes}{w':World}(h:cV w l a b v bs)(hu:Upd [] w w'):cV w' l a b v bs:=⟨h.rd.upd hu (by simp),h.ne,h.no⟩
theorem cV.buf1{a b:Nat}{v:Value}(h:WI w k r s)(hr:gl w v r.g1 s.b1)(hn:s.b1≠[])(h1:11≠a)(d:11≠b):cV w (wl k r) a b v s.b1:=by obtain⟨q,cap,rfl,hq⟩:=hr.shape hn;exact cV.slot (i:=11) h.dis hr.rd hn rfl (congrArg some hq) h1 d
theorem cV.buf2{a b:Nat}{v:Value}(h:WI w k r s)(hr:gl w v r.g2 s.b2)(hn:s.b2≠[])(h1:12≠a)(d:12≠b):cV w (wl k r) a b v s.b2:=by obtain⟨q,cap,rfl,hq⟩:=hr.shape hn;exact cV.slot (i:=12) h.dis hr.rd hn rfl (congrArg some hq) h1 d
theorem WI.size_out(h:WI w k r s):∀i:Nat,(wl k r)[i]?≠some (some w.heap.size):=fun i e=>by have:=h.lt i _ e;omega
theorem B8{v:Value}{b:Bytes}{q cap n:Nat}(h:WI w k r s)(hm:n≤s.bF.length)(hq:w.cell? ⟨q,0,none⟩=some v)(z:∀i:Nat,(wl k r)[i]?≠some (some q))(d:cV w (wl k r) 1 8 v b)(hn:s.bF.length+b.length<1073741824):
 Calls prog 162 #[ptr k.F 0,.slice (some ⟨q,0,none⟩) 1 cap] w fun e w'=>e=.returned .nilIface∧WP w k r n {s with bF:=s.bF++b} w':=by
 refine(o8 k.F r.gF s.bF v b q cap w h.f hq (fun e=>z 1 (by rw[e];rfl)) (fun e=>z 8 (congrArg some e)) d.rd d.ne (fun e=>(d.no _ e).1 rfl) (fun j e he=>(d.no _ e).2 (congrArg some he)) hn).mono ?_;rintro e w' ⟨he,hP,hK⟩;exact⟨he,h.opF hm hP hK⟩
theorem Ca{v v2:Value}{b b2:Bytes}{q cap n:Nat}(h:WI w k r s)(hm:n≤s.bF.length)(hq:w.cell? ⟨q,0,none⟩=some v)(A:w.cell? ⟨q,1,none⟩=some v2)(D:∀i:Nat,(wl k r)[i]?≠some (some q))(z:cV w (wl k r) 1 8 v b)(d:cV w (wl k r) 1 8 v2 b2)(hn:s.bF.length+(b.length+b2.length)<1073741824):
 Calls prog 162 #[ptr k.F 0,.slice (some ⟨q,0,none⟩) 2 cap] w fun e w'=>e=.returned .nilIface∧WP w k r n {s with bF:=s.bF++(b++b2)} w':=by
 refine(wJ k.F r.gF s.bF v v2 b b2 q cap w h.f hq A (fun e=>D 1 (by rw[e];rfl)) (fun e=>D 8 (congrArg some e)) z.rd z.ne (fun e=>(z.no _ e).1 rfl) (fun j e he=>(z.no _ e).2 (congrArg some he)) d.rd d.ne (fun e=>(d.no _ e).1 rfl) (fun j e he=>(d.no _ e).2 (congrArg some he)) hn).mono ?_;rintro e w' ⟨he,hP,hK⟩;exact⟨he,h.opF hm hP hK⟩
theorem Cx{v v2:Value}{b b2:Bytes}{q cap n:Nat}(h:WI w k r s)(hq:w.cell? ⟨q,0,none⟩=some v)(A:w.cell? ⟨q,1,none⟩=some v2)(D:∀i:Nat,(wl k r)[i]?≠some (some q))(z:cV w (wl k r) 2 9 v b)(d:cV w (wl k r) 2 9 v2 b2)(hn:s.bP.length+(b.length+b2.length)<1073741824):
 Calls prog 162 #[ptr k.FP 0,.slice (some ⟨q,0,none⟩) 2 cap] w fun e w'=>e=.returned .nilIface∧WP w k r n {s with bP:=s.bP++(b++b2)} w':=by
 refine(wJ k.FP r.gP s.bP v v2 b b2 q cap w h.fP hq A (fun e=>D 2 (by rw[e];rfl)) (fun e=>D 9 (congrArg some e)) z.rd z.ne (fun e=>(z.no _ e).1 rfl) (fun j e he=>(z.no _ e).2 (congrArg some he)) d.rd d.ne (fun e=>(d.no _ e).1 rfl) (fun j e he=>(d.no _ e).2 (congrArg some he)) hn).mono ?_;rintro e w' ⟨he,hP,_⟩;exact⟨he,h.opFP n hP⟩
theorem AO{v:Value}{b:Bytes}{q cap n:Nat}(h:WI w k r s)(hq:w.cell? ⟨q,0,none⟩=some v)(z:∀i:Nat,(wl k r)[i]?≠some (some q))(d:cV w (wl k r) 3 10 v b)(hn:s.bPO.length+b.length<1073741824):
 Calls prog 162 #[ptr k.FPO 0,.slice (some ⟨q,0,none⟩) 1 cap] w fun e w'=>e=.returned .nilIface∧WP w k r n {s with bPO:=s.bPO++b} w':=by
 refine(o8 k.FPO r.gPO s.bPO v b q cap w h.fPO hq (fun e=>z 3 (by rw[e];rfl)) (fun e=>z 10 (congrArg some e)) d.rd d.ne (fun e=>(d.no _ e).1 rfl) (fun j e he=>(d.no _ e).2 (congrArg some he)) hn).mono ?_;rintro e w' ⟨he,hP,_⟩;exact⟨he,h.opFPO n hP⟩
theorem Fc(n a:Nat)(h:WI w k r s)(hm:n≤s.bF.length)(z:0<a)(d:a<100)(hn:s.bF.length<1000000000):
 Calls prog 165 #[ptr k.F 0,.int .i64 a] w fun e w'=>e=.returned .nilIface∧WP w k r n {s with bF:=s.bF++pad a s.bF.length} w':=by
 refine(mx k.F r.gF s.bF a w h.f z d hn).mono ?_;rintro e w' ⟨he,hP,hK⟩;exact⟨he,h.opF hm hP hK⟩
theorem GM(n a:Nat)(h:WI w k r s)(z:0<a)(d:a<100)(hn:s.bP.length<1000000000):
 Calls prog 165 #[ptr k.FP 0,.int .i64 a] w fun e w'=>e=.returned .nilIface∧WP w k r n {s with bP:=s.bP++pad a s.bP.length} w':=by
 refine(mx k.FP r.gP s.bP a w h.fP z d hn).mono ?_;rintro e w' ⟨he,hP,_⟩;exact⟨he,h.opFP n hP⟩
theorem fAt{v:Value}{b:Bytes}{pos n:Nat}(h:WI w k r s)(F:cV w (wl k r) 1 8 v b)(hm:n≤pos)(d:pos+b.length≤s.bF.length):
 Calls prog 224 #[ptr k.F 0,v,.int .u64 pos] w fun e w'=>e=.returned .nilIface∧WQ w k r n {s with bF:=eX s.bF pos b} w':=by
 have hb:=List.length_pos_iff.2 F.ne;have hf:=h.f;obtain⟨v0,nm,a2,z⟩:=hf.blk;obtain⟨q,cap,rfl,hq⟩:=z.shape (fun e=>by have h0:s.bF.length=0:=(by rw[e];rfl);omega);rw[hq]at hf;refine(wR k.F q s.bF b pos v w hf F.rd F.ne d).mono ?_;rintro e w' ⟨he,A,hu⟩;refine⟨he,h.opAt hq A hu ?_⟩;intro j hj i hi;rw[hq]at hj;cases hj;obtain⟨v1,a3,hb1,D⟩:=A.blk;have hl:=ix s.bF pos b d;have G:i<s.bF.length:=by omega
 obtain⟨q1,ad,rfl,O⟩:=D.shape (fun e=>by have h0:(eX s.bF pos b).length=0:=(by rw[e];rfl);omega);cases O;rw[hq]at z;rcases z.rd with⟨U,_⟩|⟨g0,o0,a4,U,V⟩
 ·cases U
 rcases D.rd with⟨e1,_⟩|⟨g1,o1,a5,e1,W⟩
 ·cases e1
 cases U;cases e1;have a0:=V i G;have a1:=W i (by omega);rw[aK]at a0 a1;rw[a0,a1];have:(eX s.bF pos b)[i]'(by omega)=s.bF[i]:=by unfold eX;rw[gp (by rw[aZ];omega),jO]
 rw[this]
theorem CR{v:Value}{b:Bytes}{q cap n:Nat}(h:WI w k r s)(hm:n≤s.bF.length)(hq:w.cell? ⟨q,0,none⟩=some v)(d:∀i:Nat,(wl k r)[i]?≠some (some q))(z:cV w (wl k r) 1 8 v b)(hn:s.bF.length+b.length<1073741824):
 Calls prog 95 #[ptr k.W 0,.slice (some ⟨q,0,none⟩) 1 cap] w fun e w'=>e=.returned .nilIface∧WP w k r n {s with bF:=s.bF++b} w':=by
 have D:=h.cell 0 _ rfl;have A:=aa (B8 (cap:=cap) h hm hq d z hn);clear h hm hq d z hn;go_enter func95,ntmps95
 go_wp2_with (go_at_call 162;refine A.o.mono ?_;rintro e w1 ⟨rfl,hP⟩);go_ret;exact⟨rfl,hP⟩
theorem CS{v v2:Value}{b b2:Bytes}{q cap n:Nat}(h:WI w k r s)(hm:n≤s.bF.length)(hq:w.cell? ⟨q,0,none⟩=some v)(d:w.cell? ⟨q,1,none⟩=some v2)(A:∀i:Nat,(wl k r)[i]?≠some (some q))(D:cV w (wl k r) 1 8 v b)(z:cV w (wl k r) 1 8 v2 b2)(hn:s.bF.length+(b.length+b2.length)<1073741824):
 Calls prog 95 #[ptr k.W 0,.slice (some ⟨q,0,none⟩) 2 cap] w fun e w'=>e=.returned .nilIface∧WP w k r n {s with bF:=s.bF++(b++b2)} w':=by
 have G:=h.cell 0 _ rfl;have F:=aa (Ca (cap:=cap) h hm hq d A D z hn);clear h hm hq A D hn d z;go_enter func95,ntmps95
 go_wp2_with (go_at_call 162;refine F.o.mono ?_;rintro e w1 ⟨rfl,hP⟩);go_ret;exact⟨rfl,hP⟩
theorem GX(n a:Nat)(h:WI w k r s)(hm:n≤s.bF.length)(z:0<a)(d:a<100)(hn:s.bF.length<1000000000):
 Calls prog 99 #[ptr k.W 0,.int .i64 a] w fun e w'=>e=.returned .nilIface∧WP w k r n {s with bF:=s.bF++pad a s.bF.length} w':=by
 have D:=h.cell 0 _ rfl;have A:=aa (Fc n a h hm z d hn);clear h hm z d hn;go_enter func99,ntmps99
 go_wp2_with (go_at_call 165;refine A.o.mono ?_;rintro e w1 ⟨rfl,hP⟩);go_ret;exact⟨rfl,hP⟩
theorem FS{q N cap:Nat}{b:Bytes}{pos n:Nat}(h:WI w k r s)(z:cV w (wl k r) 1 8 (.slice (some ⟨q,0,none⟩) N cap) b)(hm:n≤pos)(d:pos+b.length≤s.bF.length):
 Calls prog 199 #[ptr k.W 0,.slice (some ⟨q,0,none⟩) N cap,.int .u64 pos] w fun e w'=>e=.returned .nilIface∧WQ w k r n {s with bF:=eX s.bF pos b} w':=by
 have D:=h.cell 0 _ rfl;have A:=aa (fAt h z hm d);clear h z hm d;go_enter func199,ntmps199
 go_wp2_with (go_at_call 224;refine A.o.mono ?_;rintro e w1 ⟨rfl,hP⟩);go_ret;exact⟨rfl,hP⟩
theorem wAt{q N cap:Nat}{b:Bytes}{pos n:Nat}(h:WI w k r s)(z:cV w (wl k r) 1 8 (.slice (some ⟨q,0,none⟩) N cap) b)(hm:n≤pos)(d:pos+b.length≤s.bF.length):
 Calls prog 199 #[ptr k.W 0,.slice (some ⟨q,0,none⟩) N cap,.int .u64 pos] w fun e w'=>e=.returned .nilIface∧WP w k r n {s with bF:=eX s.bF pos b} w':=
 (FS h z hm d).mono fun _ _ ⟨he,hP⟩=>⟨he,hP.toP⟩
theorem jK{v:Value}{b:Bytes}{n:Nat}(T cap:Nat)(h:WI w k r s)(hm:n≤s.bF.length)(d:cV w (wl k r) 1 8 v b)(hn:s.bF.length+b.length<1073741824):
 Calls prog 95 #[ptr k.W 0,.slice (some ⟨w.heap.size,0,none⟩) 1 cap] (w.alloc (.cells #[v] T (0,0))) fun e w'=>e=.returned .nilIface∧WP w k r n {s with bF:=s.bF++b} w':=by
 have hu:Upd [] w (w.alloc (.cells #[v] T (0,0))):=(ae w).alloc _;refine(CR (h.new hu) hm (af (an _) 0) h.size_out (d.upd hu) hn).mono ?_;rintro e w' ⟨he,hP⟩;exact⟨he,WP.trans h (dN h hu) hP⟩
theorem Bi{v v2:Value}{b b2:Bytes}{n:Nat}(T cap:Nat)(h:WI w k r s)(hm:n≤s.bF.length)(z:cV w (wl k r) 1 8 v b)(d:cV w (wl k r) 1 8 v2 b2)(hn:s.bF.length+(b.length+b2.length)<1073741824):
 Calls prog 95 #[ptr k.W 0,.slice (some ⟨w.heap.size,0,none⟩) 2 cap] (w.alloc (.cells #[v,v2] T (0,0))) fun e w'=>e=.returned .nilIface∧WP w k r n {s with bF:=s.bF++(b++b2)} w':=by
 have hu:Upd [] w (w.alloc (.cells #[v,v2] T (0,0))):=(ae w).alloc _;refine(CS (h.new hu) hm (af (an _) 0) (af (an _) 1) h.size_out (z.upd hu) (d.upd hu) hn).mono ?_;rintro e w' ⟨he,hP⟩;exact⟨he,WP.trans h (dN h hu) hP⟩
theorem AK{v v2:Value}{b b2:Bytes}{n:Nat}(T cap:Nat)(h:WI w k r s)(z:cV w (wl k r) 2 9 v b)(d:cV w (wl k r) 2 9 v2 b2)(hn:s.bP.length+(b.length+b2.length)<1073741824):
 Calls prog 162 #[ptr k.FP 0,.slice (some ⟨w.heap.size,0,none⟩) 2 cap] (w.alloc (.cells #[v,v2] T (0,0))) fun e w'=>e=.returned .nilIface∧WP w k r n {s with bP:=s.bP++(b++b2)} w':=by
 have hu:Upd [] w (w.alloc (.cells #[v,v2] T (0,0))):=(ae w).alloc _;refine(Cx (n:=n) (h.new hu) (af (an _) 0) (af (an _) 1) h.size_out (z.upd hu) (d.upd hu) hn).mono ?_;rintro e w' ⟨he,hP⟩;exact⟨he,WP.trans h (dN h hu) hP⟩
theorem yB{v:Value}{b:Bytes}{n:Nat}(T cap:Nat)(h:WI w k r s)(d:cV w (wl k r) 3 10 v b)(hn:s.bPO.length+b.length<1073741824):
 Calls prog 162 #[ptr k.FPO 0,.slice (some ⟨w.heap.size,0,none⟩) 1 cap] (w.alloc (.cells #[v] T (0,0))) fun e w'=>e=.returned .nilIface∧WP w k r n {s with bPO:=s.bPO++b} w':=by
 have hu:Upd [] w (w.alloc (.cells #[v] T (0,0))):=(ae w).alloc _;refine(AO (n:=n) (h.new hu) (af (an _) 0) h.size_out (d.upd hu) hn).mono ?_;rintro e w' ⟨he,hP⟩;exact⟨he,WP.trans h (dN h hu) hP⟩
theorem WI.set_pP(n:Nat)(v:Value)(h:WI w k r s):WI (w.setCell ⟨k.W,1,none⟩ (v)) k r {s with pP:=v}∧WT w k r n (w.setCell ⟨k.W,1,none⟩ (v)) r:=h.field n 1 _ {s with pP:=v} (by omega) (by decide) rfl rfl
theorem WI.set_pPO(n:Nat)(v:Value)(h:WI w k r s):WI (w.setCell ⟨k.W,2,none⟩ (v)) k r {s with pPO:=v}∧WT w k r n (w.setCell ⟨k.W,2,none⟩ (v)) r:=h.field n 2 _ {s with pPO:=v} (by omega) (by decide) rfl rfl
theorem WI.set_cnt(n:Nat)(v:Nat)(h:WI w k r s):WI (w.setCell ⟨k.W,3,none⟩ (.int .u64 v)) k r {s with cnt:=v}∧WT w k r n (w.setCell ⟨k.W,3,none⟩ (.int .u64 v)) r:=h.field n 3 _ {s with cnt:=v} (by omega) (by decide) rfl rfl
theorem WI.set_t0(n:Nat)(v:Nat)(h:WI w k r s):WI (w.setCell ⟨k.W,4,none⟩ (.int .u64 v)) k r {s with t0:=v}∧WT w k r n (w.setCell ⟨k.W,4,none⟩ (.int .u64 v)) r:=h.field n 4 _ {s with t0:=v} (by omega) (by decide) rfl rfl
theorem WI.set_t1(n:Nat)(v:Nat)(h:WI w k r s):WI (w.setCell ⟨k.W,5,none⟩ (.int .u64 v)) k r {s with t1:=v}∧WT w k r n (w.setCell ⟨k.W,5,none⟩ (.int .u64 v)) r:=h.field n 5 _ {s with t1:=v} (by omega) (by decide) rfl rfl
theorem WI.set_t2(n:Nat)(v:Nat)(h:WI w k r s):WI (w.setCell ⟨k.W,6,none⟩ (.int .u64 v)) k r {s with t2:=v}∧WT w k r n (w.setCell ⟨k.W,6,none⟩ (.int .u64 v)) r:=h.field n 6 _ {s with t2:=v} (by omega) (by decide) rfl rfl
theorem WI.set_t3(n:Nat)(v:Nat)(h:WI w k r s):WI (w.setCell ⟨k.W,7,none⟩ (.int .u64 v)) k r {s with t3:=v}∧WT w k r n (w.setCell ⟨k.W,7,none⟩ (.int .u64 v)) r:=h.field n 7 _ {s with t3:=v} (by omega) (by decide) rfl rfl
theorem WI.set_t4(n:Nat)(v:Nat)(h:WI w k r s):WI (w.setCell ⟨k.W,8,none⟩ (.int .u64 v)) k r {s with t4:=v}∧WT w k r n (w.setCell ⟨k.W,8,none⟩ (.int .u64 v)) r:=h.field n 8 _ {s with t4:=v} (by omega) (by decide) rfl rfl
theorem WI.set_t5(n:Nat)(v:Nat)(h:WI w k r s):WI (w.setCell ⟨k.W,9,none⟩ (.int .u64 v)) k r {s with t5:=v}∧WT w k r n (w.setCell ⟨k.W,9,none⟩ (.int .u64 v)) r:=h.field n 9 _ {s with t5:=v} (by omega) (by decide) rfl rfl
theorem WI.set_stage(n:Nat)(v:Nat)(h:WI w k r s):WI (w.setCell ⟨k.W,10,none⟩ (.int .u8 v)) k r {s with stage:=v}∧WT w k r n (w.setCell ⟨k.W,10,none⟩ (.int .u8 v)) r:=h.field n 10 _ {s with stage:=v} (by omega) (by decide) rfl rfl
theorem WI.set_pst(n:Nat)(v:Nat)(h:WI w k r s):WI (w.setCell ⟨k.W,11,none⟩ (.int .u64 v)) k r {s with pst:=v}∧WT w k r n (w.setCell ⟨k.W,11,none⟩ (.int .u64 v)) r:=h.field n 11 _ {s with pst:=v} (by omega) (by decide) rfl rfl
theorem WI.set_nsym(n:Nat)(v:Nat)(h:WI w k r s):WI (w.setCell ⟨k.W,34,none⟩ (.int .i64 v)) k r {s with nsym:=v}∧WT w k r n (w.setCell ⟨k.W,34,none⟩ (.int .i64 v)) r:=h.field n 34 _ {s with nsym:=v} (by omega) (by decide) rfl rfl
theorem WI.set_symV(n:Nat)(v:Value)(h:WI w k r s):WI (w.setCell ⟨k.W,35,none⟩ (v)) k r {s with symV:=v}∧WT w k r n (w.setCell ⟨k.W,35,none⟩ (v)) r:=h.field n 35 _ {s with symV:=v} (by omega) (by decide) rfl rfl
theorem WI.set_sfV(n:Nat)(v:Value)(h:WI w k r s):WI (w.setCell ⟨k.W,36,none⟩ (v)) k r {s with sfV:=v}∧WT w k r n (w.setCell ⟨k.W,36,none⟩ (v)) r:=h.field n 36 _ {s with sfV:=v} (by omega) (by decide) rfl rfl
theorem WI.set_lastSym(n:Nat)(v:ByteArray)(h:WI w k r s):WI (w.setCell ⟨k.W,37,none⟩ (.string v)) k r {s with lastSym:=v}∧WT w k r n (w.setCell ⟨k.W,37,none⟩ (.string v)) r:=h.field n 37 _ {s with lastSym:=v} (by omega) (by decide) rfl rfl
theorem WI.set_lastRef(n:Nat)(v:Nat)(h:WI w k r s):WI (w.setCell ⟨k.W,42,none⟩ (.int .u64 v)) k r {s with lastRef:=v}∧WT w k r n (w.setCell ⟨k.W,42,none⟩ (.int .u64 v)) r:=h.field n 42 _ {s with lastRef:=v} (by omega) (by decide) rfl rfl
theorem WI.set_lastChunk(n:Nat)(v:Nat)(h:WI w k r s):WI (w.setCell ⟨k.W,43,none⟩ (.int .u64 v)) k r {s with lastChunk:=v}∧WT w k r n (w.setCell ⟨k.W,43,none⟩ (.int .u64 v)) r:=h.field n 43 _ {s with lastChunk:=v} (by omega) (by decide) rfl rfl
abbrev dD:=@cV.buf1
end
section
open Go Go.RowKit Xc Go.Proofs.Tryz
variable {w:World} {k:WK} {r:WR} {s:WS}
theorem cd(x:Nat):(Lib.beBytes 4 x).length=4:=Lib.beBytes_length 4 x
theorem km(x:Nat):(Lib.beBytes 8 x).length=8:=Lib.beBytes_length 8 x
def dE:Bytes:=Lib.beBytes 4 3131758336++[2]
theorem bq:dE.length=5:=by simp[dE,cd]
theorem yS(h:WI w k r s)(hF:s.bF=[]):
 Calls prog 196 #[ptr k.W 0] w fun e w'=>e=.returned .nilIface∧WP w k r 0 {s with bF:=dE,b1:=dE} w':=by
 have d:=aa h;have A:Hid (WT w k r 0 w r):=aa gZ;have HF:=aa hF;clear h hF;go_enter func196,ntmps196
 go_wp2_with fail;refine((iZ 0 d.o).mono ?_);rintro e w1 ⟨rfl,r1,hI,hT⟩;have D:=aa hI;have F:=aa (ak d.o A.o hT);clear hI hT;go_wp2_with fail;refine((Bb 0 3131758336 D.o (by decide) (by simp)).mono ?_);rintro e w2 ⟨rfl,r2,hI,hT⟩;have G:=aa hI;have O:=aa (ak d.o F.o hT);clear hI hT;go_wp2_with fail;refine((EK 0 2 G.o (by simp[cd])).mono ?_);rintro e w3 ⟨rfl,r3,hI,hT⟩;have z:=aa hI;have U:=aa (ak d.o O.o hT);clear hI hT;go_wp2_with fail;refine(iC z.o (by simp)).mono ?_;rintro e _ ⟨q,cap,N,rfl,HN,HB,rfl⟩;go_wp2_with fail;refine((jK 65 1 z.o (ay _) (dD z.o HB.o (by simp) (by decide) (by decide)) (by simp[cd,HF.o])).mono ?_);rintro e w4 ⟨rfl,r4,hI,hT⟩;have V:=aa hI;have W:=aa (ak d.o U.o hT);clear hI hT;go_wp2_with fail;go_ret;refine⟨rfl,r4,?_,W.o⟩;have:=V.o;rw[HF.o]at this;exact this
theorem D9(w:World)(bs:Bytes)(cap T:Nat)(d:Nat×Nat):Rd (w.alloc (.cells (Lib.byteCells bs).toArray T d)) (.slice (some ⟨w.heap.size,0,none⟩) bs.length cap) bs:=
 .inr ⟨w.heap.size,0,cap,rfl,fun j z=>by rw[World.cell?_alloc_mark,aK,List.getElem?_toArray];simp[Lib.byteCells,z]⟩
theorem nH(w:World)(C:Array Value)(bs:Bytes)(T cap N:Nat)(d:Nat×Nat)(z:C=(Lib.byteCells bs).toArray)(hN:N=bs.length):
 ∃w1,w1=w.alloc (.cells C T d)∧Upd [] w w1∧Rd w1 (.slice (some ⟨w.heap.size,0,none⟩) N cap) bs∧w1.heap.size=w.heap.size+1:=by
 subst z hN;exact⟨_,rfl,(ae w).alloc _,D9 w bs cap T d,by simp⟩
def eP:Bytes:=[97,108,101,110,98,108,101,110]
theorem tn(n:Nat)(h:WI w k r s)(hn:n≤s.bF.length)(hl:s.bF.length<1000000000):
 Calls prog 153 #[ptr k.W 0] w fun e w'=>e=.returned .nilIface∧WP w k r n {s with bF:=s.bF++eP} w':=by
 have d:=aa h;have F:=aa hn;have G:=aa hl;clear h hn hl;go_enter func153,ntmps153
 have U:=fun(w:World) (C:Array Value) (n c:Nat)=>Lib.run_convert_bytes_const (P:=prog) w 65 5 C n c underlying65 underlying5;go_wp2_with fail;obtain⟨w1,z,hu,A,D⟩:=nH w #[.int .u8 97,.int .u8 108,.int .u8 101,.int .u8 110,.int .u8 98,.int .u8 108,.int .u8 101,.int .u8 110] eP 5 8 8 (8,9) rfl rfl;rw[←z,←D];refine(jK (n:=n) (b:=eP) 65 1 (d.o.new hu) F.o (cV.o A (by simp[eP]) rfl d.o.size_out) (by have:=G.o;simp[eP];omega)).mono ?_;rintro e w2 ⟨rfl,hP⟩;have O:=aa (WP.trans d.o (dN d.o hu) hP);clear hP;go_wp2_with fail;go_ret;exact⟨rfl,O.o⟩
end
end Go.Proofs.YtlgefdfflmgocaaGreatDoor
namespace Xc
open Go Go.RowKit
section
variable {P:Program} (w:World)
theorem AZ(base:Nat)(t ty e:TypeId)(i:TypeInfo)(z:Value)(bytes:Nat)(W:P.underlying t=some (.slice e))(hi:P.info? e=some i)(hz:i.zero=some z)
 (A:i.size=1)(F:i.bytes=bytes)(G:z.cells.size=1)(v:Value)(n:Nat)(xs:List Value)(D:w.ownsRow base e 1 v n xs)(x:Value)(hx:x.oneCell'=true)
 (O:n+1≤maxLen)(d:(n+1)*bytes≤140737488355328)(Hw:base≤w.heap.size):
 ∃r cap w',Hid ((Builtin.append_ #[t,t] ty #[v,.slice (some ⟨w.heap.size,0,none⟩) 1 1]).run P (w.alloc (.cells #[x] e (0,0))).drew=.ok (.slice (some ⟨r,0,none⟩) (n+1) cap) w')∧
  w'.ownsRow base e 1 (.slice (some ⟨r,0,none⟩) (n+1) cap) (n+1) (xs++[x])∧base≤r∧Upd v.ownBlock.toList w w':=by
 have hc:∀j u,[x][j]? =some u→(w.alloc (.cells #[x] e (0,0))).drew.cell? ((⟨w.heap.size,0,none⟩:Addr).add j)=some u:=by
  intro j u h;have hj:j=0:=by have:=(List.getElem?_eq_some_iff.1 h).1;simpa using this
  subst hj;have hn:(w.alloc (.cells #[x] e (0,0))).heap[w.heap.size]? =some (.cells #[x] e (0,0)):=an _;have U:x=u:=by simpa using h
  subst U;have:(w.alloc (.cells #[x] e (0,0))).drew.cell? ⟨w.heap.size,0,none⟩= #[x][0]? :=af hn 0;exact this
 obtain⟨v',w',h1,V,h3,h4⟩:=run_append_own (P:=P) (w.alloc (.cells #[x] e (0,0))).drew base t ty e i z 1 bytes W hi hz A F G (by decide) v n xs (D.alloc _) ⟨w.heap.size,0,none⟩ 1 1 [x] rfl hc (by simpa using hx) O d (by simp[World.drew];omega);rcases V.2 with⟨_,h5⟩|⟨r,cap,cur,rfl,hb,rest⟩
 ·omega
 ·refine⟨r,cap,w',h1,V,hb,?_⟩;refine Upd.grown (w:=(w.alloc (.cells #[x] e (0,0))).drew) ((((ae w).mono (by simp)).alloc _).drew) h3 ?_;intro k hk _;rw[hk];simp
end
end Xc
namespace Go.Proofs.YtlgefdfflmgocaaGreatDoor
open Go Go.RowKit Xc Go.Proofs.Tryz
attribute [local go_sem ↓] Go.wp_at_zero Go.wp_at_succ
def ed(s:Bytes):Bytes:=Lib.uvarint s.length++s
def bj(l:List Bytes):Bytes:=l.flatMap ed
def bi(l:List Bytes):Bytes:=Lib.beBytes 4 l.length++bj l
theorem tP(s:Bytes)(l:List Bytes):bj (s::l)=ed s++bj l:=rfl
theorem qO(l m:List Bytes):bj (l++m)=bj l++bj m:=by simp[bj]
theorem jX(l:List Bytes)(k:Nat)(h:k<l.length):bj (l.drop k)=ed l[k]++bj (l.drop (k+1)):=by rw[bf h,tP]
theorem nA(l:List Bytes)(k:Nat):bj l=bj (l.take k)++bj (l.drop k):=by rw[←qO,aI]
theorem gu(l:List Bytes)(k:Nat):(bj l).length=(bj (l.take k)).length+(bj (l.drop k)).length:=by rw[nA l k,ab]
def gS(a:Nat)(l:List Bytes)(i:Nat):Nat:=a+8+(bj (l.take (32*i))).length
def dW(a:Nat)(l:List Bytes)(k:Nat):List Value:=(List.range ((k+31)/32)).map fun i=>.int .i64 (gS a l i:Nat)
theorem gA(a:Nat)(l:List Bytes)(k:Nat):(dW a l k).length=(k+31)/32:=by simp[dW]
theorem tu(a:Nat)(l:List Bytes)(k:Nat)(h:k % 32≠0):dW a l (k+1)=dW a l k:=by unfold dW;rw[show(k+1+31)/32=(k+31)/32 by omega]
theorem tq(a:Nat)(l:List Bytes)(k:Nat)(h:k % 32=0):dW a l (k+1)=dW a l k++[.int .i64 ((a+8+(bj (l.take k)).length:Nat):Int)]:=by unfold dW;rw[show(k+1+31)/32=k/32+1 by omega,show(k+31)/32=k/32 by omega,List.range_succ,aX];simp only[aN,cQ,gS];rw[show 32*(k/32)=k by omega]
theorem Tryz.info3:(Tryz.prog.info? 3).map (fun i=>(i.zero,i.size,i.bytes))=some (some (.int .i64 0),1,8):=by kernel_rfl
structure kk(w:World)(S:Nat)(v:Value)(g:Nat)(r:Option Nat)(bs:Bytes)(a:Nat)(l:List Bytes):Prop where
 blk:∃d,w.heap[S]? =some (.cells #[.iface 139 v,.int .i64 2,.int .i64 a,d,.int .i64 l.length] 394 (0,0))∧RdG w v g bs∧
  w.ownsRow 0 3 1 d (dW a l l.length).length (dW a l l.length)∧d.ownBlock=r
theorem kk.upd{L:List Nat}{w w':World}{S g:Nat}{v:Value}{r:Option Nat}{bs:Bytes}{a:Nat}{l:List Bytes}(h:kk w S v g r bs a l)(hu:Upd L w w')(h1:S∉L)(d:g∉L)(z:∀k,r=some k→k∉L):kk w' S v g r bs a l:=by obtain⟨A,hb,hr,D,e⟩:=h.blk;exact⟨A,hu.blk hb h1,hr.upd hu d,hu.row D (by rw[e];exact z),e⟩
theorem sX{w:World}{B:Nat}{e:TypeId}{size:Nat}{v:Value}{n:Nat}{xs:List Value}(h:w.ownsRow B e size v n xs):w.ownsRow 0 e size v n xs:=by
 refine⟨h.1,?_⟩;rcases h.2 with hv|⟨g,cap,cur,h1,d,rest⟩
 ·exact .inl hv
 ·exact .inr ⟨g,cap,cur,h1,ay _,rest⟩
structure ir(wr w:World)(S p g:Nat)(v:Value)(A:Nat)(l:List Bytes)(k m:Nat)(d:Value):Prop where
 blk:wr.heap[S]? =some (.cells #[.iface 139 v,.int .i64 2,.int .i64 A,d,.int .i64 k] 394 (0,0))
 row:wr.ownsRow (p+1) 3 1 d (dW A l m).length (dW A l m)
 dec:cm wr p g (bj (l.drop k))
 upd:Upd [] w wr
 lt:p<wr.heap.size
theorem cm.drew{w:World}{p g:Nat}{bs:Bytes}(h:cm w p g bs):cm w.drew p g bs:=⟨h.blk,h.ne⟩
theorem ir.push{wr w:World}{S p g:Nat}{v:Value}{A:Nat}{l:List Bytes}{k:Nat}{z:Value}(h:ir wr w S p g v A l k k z)(V:k % 32=0)(hl:l.length<65536)(W:k<l.length)
 (ad:g<S)(a0:S<p)(a1:w.heap.size=S):
 ∃r cap w',Hid ((Builtin.append_ #[114,114] 114 #[z,.slice (some ⟨wr.heap.size,0,none⟩) 1 1]).run prog (wr.alloc (.cells #[.int .i64 ((A+8+(bj (l.take k)).length:Nat):Int)] 3 (0,0))).drew=.ok (.slice (some ⟨r,0,none⟩) ((dW A l k).length+1) cap) w')∧
  w'.cell? ⟨S,3,none⟩=some z∧w'.frozen? ⟨S,3,none⟩=false∧
  Hid (ir (w'.setCell ⟨S,3,none⟩ (.slice (some ⟨r,0,none⟩) ((dW A l k).length+1) cap)) w S p g v A l k (k+1) (.slice (some ⟨r,0,none⟩) ((dW A l k).length+1) cap)):=by
 obtain⟨i0,hi,G,O,U⟩:=info_parts Tryz.info3;have hlen:=gA A l k;have a2:=h.lt;obtain⟨r,cap,w',h1,h2,h3,h4⟩:=AZ (P:=prog) wr (p+1) 114 114 3 i0 (.int .i64 0) 8 underlying114 hi G O U rfl z _ _ h.row (.int .i64 ((A+8+(bj (l.take k)).length:Nat):Int)) rfl (by unfold maxLen;omega) (by omega) (by omega);have d:∀q,z.ownBlock=some q→p+1≤q:=fun q hq=>(h.row.lt q hq).1;have hS:S∉z.ownBlock.toList:=by intro hm;have:=d S (by simpa using hm);omega
 have hp:p∉z.ownBlock.toList:=by intro hm;have:=d p (by simpa using hm);omega
 have hg:g∉z.ownBlock.toList:=by intro hm;have:=d g (by simpa using hm);omega
 have D:=h4.blk h.blk hS;have F:Upd [S] w' (w'.setCell ⟨S,3,none⟩ (.slice (some ⟨r,0,none⟩) ((dW A l k).length+1) cap)):=((ae w').mono (by simp)).setCell (by simp) _;refine⟨r,cap,w',h1,by rw[af D];rfl,ao D 3,⟨au D 3 _,?_,?_,?_,?_⟩⟩
 ·rw[tq A l k V,ab];exact ownsRow_setCell_other h2 (by simp[Value.ownBlock];omega) _
 ·exact(h.dec.upd h4 hp hg).upd F (by simp;omega) (by simp;omega)
 ·exact(h.upd.then h4 (by intro q hq hl;have:=d q (by simpa using hq);omega)).then F (by intro q hq hl;simp at hq;omega)
 ·have:=h4.size;simp[World.setCell];omega
theorem ir.next{O d w:World}{S p g:Nat}{v:Value}{A:Nat}{l:List Bytes}{k:Nat}{F:Value}(h:ir O w S p g v A l k (k+1) F)(U:g<S)(V:S<p)(W:w.heap.size=S)
 (hD:cm d p g (bj (l.drop (k+1))))(G:Upd [p] O d)(hb:d.heap[S]? =some (.cells #[.iface 139 v,.int .i64 2,.int .i64 A,F,.int .i64 k] 394 (0,0))):
 ir (d.setCell ⟨S,4,none⟩ (.int .i64 ((k:Int)+1))) w S p g v A l (k+1) (k+1) F∧(d.setCell ⟨S,4,none⟩ (.int .i64 ((k:Int)+1))).cell? ⟨S,4,none⟩=some (.int .i64 ((k:Int)+1)):=by
 have z:∀q,F.ownBlock=some q→p+1≤q:=fun q hq=>(h.row.lt q hq).1;have hb2:=au hb 4 (.int .i64 ((k:Int)+1));have D:Upd [S] d (d.setCell ⟨S,4,none⟩ (.int .i64 ((k:Int)+1))):=((ae d).mono (by simp)).setCell (by simp) _;refine⟨⟨hb2,?_,?_,?_,?_⟩,by rw[af hb2];rfl⟩
 ·have h1:=G.row h.row (fun q hq=>by have:=z q hq;simp;omega);exact ownsRow_setCell_other h1 (by intro e;have:=z S e;omega) _
 ·exact hD.upd D (by simp;omega) (by simp;omega)
 ·exact(h.upd.then G (by intro q hq hl;simp at hq;omega)).then D (by intro q hq hl;simp at hq;omega)
 ·have h1:=h.lt;have h2:=G.size;simp[World.setCell];omega
theorem pq(g:Nat)(v:Value)(bs a c:Bytes)(l:List Bytes)(w:World)(h:RdG w v g bs)(hb:bs=a++(sec (bi l)++c))(hn:bs.length<1073741824)(hl:l.length<65536)(hs:∀s∈l,s.length<2097152):
 Calls prog 176 #[.iface 139 v,.int .i64 2,.int .i64 a.length] w fun e w'=>∃S r,e=.returned (.tuple #[.pointer (some ⟨S,0,none⟩),.nilIface])∧kk w' S v g r bs a.length l∧w.heap.size≤S∧(∀k,r=some k→w.heap.size≤k)∧Upd [] w w':=by
 have HB:=aa hb;have HS:=aa hs;have H:=aa h;have G9:a.length+(bi l).length+8≤bs.length:=by rw[hb,ab,ab,dx];omega
 clear h hb hs;obtain⟨A,hA⟩:∃A,A=a.length:=⟨_,rfl⟩;have bR:∀w tb,RdG w v g bs→ij w tb→Calls prog 57 #[.iface 139 v,.int .i64 A,.pointer (some ⟨tb,0,none⟩)] w fun r w'=>∃v',r=.returned (.agg #[v',.nilIface])∧RdG w' v' g (bi l)∧Upd [] w w':=fun w tb h1 h2=>by rw[hA];exact lp g tb v bs a (bi l) c w h1 h2 HB.o hn
 have cA:=aa bR;rw[←hA];rw[←hA]at G9;clear bR hA;go_enter func176,ntmps176
 go_wp2_with (first
  |(go_at_call 58;refine(eL _).mono ?_;rintro e w1 ⟨tb,rfl,bS,_,O⟩)
  |(go_at_call 57;refine(cA.o _ _ (H.o.upd (((ae w).alloc _).then O (by simp)) (by simp)) bS).mono ?_;rintro e w2 ⟨v2,rfl,bW,a2⟩;have bg:=aa bW;obtain⟨F,G6,rfl,cB,a3⟩:=bW;clear a3 cB))
 have a4:Upd [] w (w2.alloc (.cells #[.slice (some ⟨g,F,none⟩) (bi l).length G6,.nilIface] 159 (0,0))):=((((ae w).alloc _).then O (by simp)).then a2 (by simp)).alloc _
 have a5:cm (w2.alloc (.cells #[.slice (some ⟨g,F,none⟩) (bi l).length G6,.nilIface] 159 (0,0))) w2.heap.size g (bi l):=
  ⟨⟨_,an _,bg.o.upd ((ae w2).alloc _) (by simp)⟩,lm bg.o.lt⟩
 have a6:(w2.alloc (.cells #[.slice (some ⟨g,F,none⟩) (bi l).length G6,.nilIface] 159 (0,0))).heap[w.heap.size]? =some (.cells #[.iface 139 v,.int .i64 2,.int .i64 A,.slice none 0 0,.int .i64 0] 394 (0,0)):=
  ((ae w2).alloc _).blk (a2.blk (O.blk (an _) (by simp)) (by simp)) (by simp)
 have U:w.heap.size<w2.heap.size:=by have h1:=O.size;have h2:=a2.size;simp only[aJ]at h1;omega
 have bb:w2.heap.size<(w2.alloc (.cells #[.slice (some ⟨g,F,none⟩) (bi l).length G6,.nilIface] 159 (0,0))).heap.size:=by simp
 have bl:=H.o.lt;clear O a2 bS bg;revert a4 a5 a6 bb;generalize (w2.alloc (.cells #[.slice (some ⟨g,F,none⟩) (bi l).length G6,.nilIface] 159 (0,0)))=w3;revert U;generalize w2.heap.size=p;generalize bn:w.heap.size=S at*;intro U a4 a5 a6 bb;have cD:=aa a4;have b5:=aa a5;have cE:=aa a6;clear a4 a5 a6;obtain⟨M,hM⟩:∃M,M=(bi l).length:=⟨_,rfl⟩;have Ii:M=4+(bj l).length:=by rw[hM,bi,ab,Lib.beBytes_length]
 have b6:Calls prog 126 #[.pointer (some ⟨p,0,none⟩)] w3 fun e w'=>e=.returned (.int .i64 M)∧w3=w':=by rw[hM];exact kL p g _ w3 b5.o
 have cF:=aa b6;rw[←hM]at G9;obtain⟨i0,hi,cL,cM,cN⟩:=info_parts Tryz.info3;have c8:(l.length:Int)/32+1=((l.length/32+1:Nat):Int):=by omega
 have a7:=aa Ii;clear b6 hM Ii
 go_wp2_with (first
  |(go_at_call 126;refine cF.o.mono ?_;rintro e w4 ⟨rfl,rfl⟩)
  |(go_at_call 116;refine(tL p g l.length (bj l) _ b5.o (by omega) (by have:=a7.o;simp only[ab,Lib.beBytes_length];omega)).mono ?_;rintro e w4 ⟨rfl,b7,V⟩)
  |(at_make;refine wpList_make_own _ rfl _ _ 114 rfl (p+1) 3 i0 (.int .i64 0) 1 underlying114 hi cL cM .i64 .i64 _ (l.length/32+1) rfl rfl ?e1 ?e2 ?e3 ?e4 ?_))
 case e1=>omega
 case e2=>rw[cN];omega
 case e3=>unfold maxLen;omega
 case e4=>have:=V.size;omega
 intro w5 W b8;have ad:Upd [] w4 w5:=(ae w4).grown b8 (by simp);have a9:=ad.blk (V.blk cE.o (by simp;omega)) (by simp);have f5:=ao a9 3;have c5:=af a9 3;have c9:g<w4.heap.size:=by have:=V.size;omega
 obtain⟨r,hr⟩:∃r,r=w4.heap.size:=⟨_,rfl⟩;have cO:=V.size;rw[←hr]at W;have b9:ir (w5.setCell ⟨S,3,none⟩ (.slice (some ⟨r,0,none⟩) 0 (l.length/32+1))) w S p g v A l 0 0 (.slice (some ⟨r,0,none⟩) 0 (l.length/32+1)):=by
  refine⟨au a9 3 _,?_,?_,?_,?_⟩
  ·exact ownsRow_setCell_other W (by simp[Value.ownBlock];omega) _
  ·exact(b7.upd ad (by simp) (by simp)).upd (((ae w5).mono (M:=[S]) (by simp)).setCell (by simp) _) (by simp;omega) (by simp;omega)
  ·exact(((cD.o.then V (by intro i hi hl;simp at hi;omega)).then ad (by simp))).setCell (by simp;omega) _
  ·have:=ad.size;simp[World.setCell];omega
 rw[←hr];have cP:=aa b9;clear b9 W b8 a9 b7 hr ad cO;go_wp2_with fail;clear f5 c5;go_loopw [33] (fun _ wr=>∃k so,k≤l.length∧ir wr w S p g v A l k k so) (fun _ wr=>l.length-(intOf ((wr.cell? ⟨S,4,none⟩).getD undef)).toNat)
 case atStart=>exact⟨0,_,ay _,cP.o⟩
 case round=>
  obtain⟨k,so,hk,hK⟩:=hrel;have hb:=hK.blk;have c3:wr.cell? ⟨S,3,none⟩=some so:=by rw[af hb];rfl
  have c4:wr.cell? ⟨S,4,none⟩=some (.int .i64 k):=by rw[af hb];rfl
  have f3:=ao hb 3;have f4:=ao hb 4;obtain⟨R,hR⟩:∃R,R=(bj (l.drop k)).length:=⟨_,rfl⟩;have br:((A+8+(bj (l.take k)).length:Nat):Int)=(A:Int)+4+M-R:=by have h1:=a7.o;have h2:=gu l k;omega
  have bv:(wr.alloc (.cells #[.int .i64 ((A:Int)+4+M-R)] 3 (0,0))).cell? ⟨S,3,none⟩=some so:=by rw[af ((eB _ (lt_of_block hb)).trans hb)];rfl
  by_cases a0:k<l.length
  ·have ca:=HS.o _ (aq a0);have cc:=jX l k a0;have bw:(bj (l.drop k)).length<1073741824:=by have h1:=a7.o;have h2:=gu l k;omega
   have bd:∀w,cm w p g (bj (l.drop k))→Calls prog 126 #[.pointer (some ⟨p,0,none⟩)] w fun e w'=>e=.returned (.int .i64 R)∧w=w':=fun w h=>by rw[hR];exact kL p g _ w h
   have cg:∀w,cm w p g (bj (l.drop k))→Calls prog 128 #[.pointer (some ⟨p,0,none⟩)] w fun e w'=>∃v,e=.returned v∧RdG w' v g l[k]∧cm w' p g (bj (l.drop (k+1)))∧Upd [p] w w':=fun w h=>by rw[cc,ed,al]at h bw;exact dM p g l[k] (bj (l.drop (k+1))) w h ca bw
   have ck:=aa bd;have cn:=aa cg;have D:=aa hK;have cp:=aa br;have dc:=aa hR;clear bd cg cc bw br hR ca hb hK;have dd:(k:Int)<(l.length:Int):=by omega
   by_cases be:k % 32=0
   ·have bA:(k:Int) % 32=0:=by omega
    obtain⟨r',cap',w7,HR,cX,cY,cs⟩:=D.o.push be hl a0 bl U bn;rw[cp.o]at HR;go_wp2_with (go_at_call 118;refine(je p g _ _ D.o.dec).mono ?_;rintro e w6 ⟨rfl,rfl⟩);have hX:A+8+(bj (l.take k)).length≤bs.length:=by have h1:=a7.o;have h2:=gu l k;omega
    have cZ:IntKind.i64.wrap ((A:Int)+4+M)=(A:Int)+4+M:=by rw[bo];omega
    have c0:IntKind.i64.wrap ((A:Int)+4+M-R)=(A:Int)+4+M-R:=by rw[bo];have:=cp.o;omega
    go_region_law (first
     |(refine df rfl _ _ _ rfl _ _ _ _ rfl rfl HR.o ?_)
     |(go_simp;go_at_call 126;refine(ck.o _ (D.o.dec.drew)).mono ?_;rintro e w6 ⟨rfl,rfl⟩))
    all_goals
     have d:=cs;revert d;generalize w7.setCell ⟨S,3,none⟩ (.slice (some ⟨r',0,none⟩) ((dW A l k).length+1) cap')=w8;generalize Value.slice (some ⟨r',0,none⟩) ((dW A l k).length+1) cap'=c6;intro d;have bB:S∉[p]:=by simp;omega
     clear cs HR cX cY cZ c0 bv c3 c4 f3 f4 hX;go_wp2_with (go_at_call 128;refine(cn.o _ d.o.dec).mono ?_;rintro e w9 ⟨v9,rfl,_,a1,G⟩;have z:=G.blk d.o.blk bB;have c7:=af z 4;have f49:=ao z 4;have bE:=aa a1;have bK:=aa G;have bL:=aa z;clear a1 G z);obtain⟨bM,bO⟩:=ir.next d.o bl U bn bE.o bK.o bL.o;exact⟨⟨k+1,c6,a0,bM⟩,by rw[bO,af D.o.blk];simp[intOf];omega⟩
   ·have bA:((k:Int) % 32=0)=False:=by simp;omega
    have ct:ir wr w S p g v A l k (k+1) so:=⟨D.o.blk,by rw[tu A l k be];exact D.o.row,D.o.dec,D.o.upd,D.o.lt⟩;have d:=aa ct;have bB:S∉[p]:=by simp;omega
    clear bv ct
    go_wp2_with (first
     |(go_at_call 118;refine(je p g _ _ D.o.dec).mono ?_;rintro e w6 ⟨rfl,rfl⟩)
     |(go_at_call 128;refine(cn.o _ d.o.dec).mono ?_;rintro e w9 ⟨v9,rfl,_,a1,G⟩;have z:=G.blk d.o.blk bB;have c7:=af z 4;have f49:=ao z 4;have bE:=aa a1;have bK:=aa G;have bL:=aa z;clear a1 G z))
    obtain⟨bM,bO⟩:=ir.next d.o bl U bn bE.o bK.o bL.o;exact⟨⟨k+1,so,a0,bM⟩,by rw[bO,af D.o.blk];simp[intOf];omega⟩
  ·have e:k=l.length:=by omega
   subst e;have D:=aa hK;clear bv hb br hR hK;go_wp2_with (go_at_call 118;refine(je p g _ _ D.o.dec).mono ?_;rintro e w6 ⟨rfl,rfl⟩);go_ret2
   exact⟨S,so.ownBlock,rfl,⟨so,D.o.blk,H.o.upd D.o.upd (by simp),sX D.o.row,rfl⟩,by omega,fun q hq=>by have:=(D.o.row.lt q hq).1;omega,D.o.upd⟩
end Go.Proofs.YtlgefdfflmgocaaGreatDoor
