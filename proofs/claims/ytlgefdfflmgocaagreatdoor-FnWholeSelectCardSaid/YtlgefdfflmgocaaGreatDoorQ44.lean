/- Proved here: the given statement FnWholeSelectCardSaid (theorem fnWholeSelect_holds), without further conditions: the row of FnWholeSelect holds and its card is tied. -/
import Derived.Test.YtlgefdfflmgocaaGreatDoorQ36
import Derived.Test.YtlgefdfflmgocaaGreatDoorQ43
import Derived.Test.YtlgefdfflmgocaaGreatDoorTie
import Derived.Test.YtlgefdfflmgocaaGreatDoorCards
import Derived.ChangeSame
import Derived.ChangeVars
import Derived.RowKit
import Derived.RowKitTokens
import Derived.ProofKit
import Derived.LaidLaws
import Derived.LaidMore
import Derived.LaidOnce
import Derived.OpenShut
import Derived.Stop.Joined
import Derived.SevenTiedAt
set_option linter.all false
set_option maxRecDepth 100000
namespace Go.Proofs.YtlgefdfflmgocaaGreatDoor
open Go Go.ChangeShapes Go.WideShapes Go.RowKit Xc Go.Proofs.Tryz
theorem Tryz.own:ownKnob Tryz.prog.godebug=none:=by kernel_rfl
theorem Tryz.laidOut:laidOutB prog=true:=by kernel_rfl
abbrev wY:List (String×DataW Unit):=[("pub-quillon/pub/prometheus/tsdb/encoding.ErrInvalidSize",Rows.laid_pub_quillon_pub_prometheus_tsdb_encoding_ErrInvalidSize),("pub-quillon/pub/prometheus/tsdb/encoding.ErrInvalidChecksum",Rows.laid_pub_quillon_pub_prometheus_tsdb_encoding_ErrInvalidChecksum)]
theorem zQ(os:Os)(args:Array Value):laidMetH prog wY ((World.doorLaid prog 47 os).forCall (fun _ _=>0) ⟨#[],args,[]⟩).memory:=
 laidMetH_of_parts3 (fuel:=8) (laidMet_of_run' 8 (by kernel_rfl) (by kernel_rfl)) (by kernel_rfl) (by kernel_rfl)
theorem vU(hA:∀w,Calls prog 6 #[] w (xF w))(os:Os)(d:os.Started)(H:Type)(enc:TypeId×Value→H):
 ReturnsInHanded {} Tryz.checked os 3 .any (fun w args=>(Rows.fnWholeSelectSpec.pre enc prog f3 [] false w args∧laidMetH prog wY w)∧sizedMet enc prog f3 (OpenSpec.ofChange Rows.fnWholeSelectSpec) false w args)
  (Rows.fnWholeSelectSpec.post enc prog f3 false true false false):=by
 refine returnsInHanded_of_change_and (C:=Tryz.checked) (X:=fun w _=>laidMetH prog wY w) (fun _ _ _ hh h=>h.of_heap hh) Tryz.own d (by kernel_rfl) func3
  (ChangeSpec.witness_shaped (enc:=enc) (C:=Tryz.checked) (os:=os) (X:=fun w _=>laidMetH prog wY w) false (World.doorLaid prog 47 os) #[.slice none 0 0,.slice none 0 0] 8 rfl (World.shaped_of_RefB (by kernel_rfl) (by kernel_rfl)) (by kernel_rfl) (by kernel_rfl) (by kernel_rfl) (zQ os _)) ?_
 intro W base args ds gs before z hW _ _ hL _;have A:=hW;obtain⟨p,q,ad,hV,rfl,a4,hnd⟩:=hW;have D:DataW.TrodAll enc prog W 0 (fun _=>true) true Tryz.f3.params.toList args.toList ds p:=ad;rw[params3]at D;obtain⟨v0,v1,d0,d1,p0,p1,rfl,rfl,rfl,h0,h1⟩:=trodAll_two D;obtain⟨rfl,rfl⟩:=trodVars_none hV;obtain⟨a0,F,G,rfl⟩:=okWide_slice underlying22 (z 0 22 v0 (by rw[params3];rfl) rfl);obtain⟨a1,O,U,rfl⟩:=okWide_slice underlying23 (z 1 23 v1 (by rw[params3];rfl) rfl);have V:∀x∈p0++p1,x.block<W.heap.size:=fun x hx=>by simpa using A.lt x (bX _ hx)
 obtain⟨f0,t0⟩:=id h0;obtain⟨f1,t1⟩:=id h1;obtain⟨ls,a2⟩:=sW (v:=.slice a0 F G) t0;obtain⟨ms,a3⟩:=qZ (v:=.slice a1 O U) t1;refine(Law hA W _ _ ls ms a2 a3).mono fun e W' ⟨he,hu⟩=>?_;subst he;have hB:Below W.heap.size W W':=hu.below (aw _) (by simp);refine⟨_,rfl,_,_,_,[],p0++p1,[],A,?_,?_,?_,hB.frame _,fun h=>by cases h⟩
 ·exact trodAll_mk1 (shut_bool underlying4 true)
 ·exact trodAll_mk2 (Below.trod Tryz.laidOut (by kernel_rfl) (of_decide_eq_true (by kernel_rfl)) h0 hB (fun x hx=>V x (bX _ hx))) (Below.trod Tryz.laidOut (by kernel_rfl) (of_decide_eq_true (by kernel_rfl)) h1 hB (fun x hx=>V x (bZ _ hx)))
 ·rfl
theorem fnWholeSelect_said(z:∀w,Calls prog 6 #[] w (xF w)):Rows.FnWholeSelectSaid:=
 OpenClaim.holds_of_wide 3 f3 rfl rfl rfl rfl rfl rfl rfl ⟨rfl,rfl,rfl,rfl,rfl⟩ rfl rfl rfl rfl rfl Gv func3 Gx Gw Gy
  (fun os d H enc _=>vU z os d H enc)
theorem fnWholeSelect_card(A:∀w,Calls prog 6 #[] w (xF w)):Rows.FnWholeSelectCardSaid:=
 Claim7.holds_tied_plain_at .later [] [.sentinel,.sentinel] true (true,"184f770f9eb1033a31e0f3bf65b67278c0440f82698ee7497db8978772720db7") true
  (fnWholeSelect_said A) (fun _ h=>by cases h) (by kernel_rfl) (fun _ h=>by cases h) fnWholeSelect_row_tie rfl ⟨rfl,rfl⟩ (by kernel_rfl) rfl
  (fun f fn hf z=>by
    obtain rfl:f=3:=cI ((show Tryz.prog.funcNamed "pub-quillon/laws.FnWholeSelect" =some 3 by kernel_rfl).symm.trans hf)|>.symm;obtain rfl:fn=f3:=(cI (Tryz.func3.symm.trans z)).symm;exact⟨by kernel_rfl,fun j t d=>by
     rw[params3]at d;match j,d with
     |0,d=>
      obtain rfl:t=22:=by simpa using d.symm
      exact(show Tryz.prog.wantsStandIn 22=false by kernel_rfl)
     |1,d=>
      obtain rfl:t=23:=by simpa using d.symm
      exact(show Tryz.prog.wantsStandIn 23=false by kernel_rfl)
     |j+2,d=>simp at d⟩)
  (by kernel_rfl)
theorem fnWholeSelect_holds:Rows.FnWholeSelectCardSaid:=fnWholeSelect_card vY
#print axioms fnWholeSelect_holds
end Go.Proofs.YtlgefdfflmgocaaGreatDoor
