/- The law FnTinyAgain holds, as a tied card: for every slice of bytes the law's call returns true and leaves its argument as it was. Condition: the listed package-level variables read as the program's text lays them (the card ties them). -/
import Derived.Test.YtnjjgbcmjnfijaaGreatDoorXc
import Derived.Test.YtnjjgbcmjnfijaaGreatDoorXd
import Derived.ProofKit
import Derived.Lay
import Derived.LaidMore
import Derived.OpenShut
import Derived.Carry
import Derived.ChangeSlices
import Derived.Test.YtnjjgbcmjnfijaaGreatDoorCards
import Derived.Test.YtnjjgbcmjnfijaaGreatDoorTie
import Derived.SevenTiedAt
import Derived.JoinedOf
namespace Go.Proofs.YtnjjgbcmjnfijaaGreatDoor
set_option maxRecDepth 100000
open Go.RowKit Go.ChangeShapes Go.WideShapes Go.ChangeAt
theorem own:ownKnob Tryz.prog.godebug=none:=by kernel_rfl
theorem laidOut:laidOutB Tryz.prog=true:=by kernel_rfl
theorem cells5:Tryz.prog.cellsOf 5=1:=by kernel_rfl
theorem law3{H:Type}{enc:TypeId × Value→H}{W:World}{a0:Option Addr}{len cap fuel:Nat}{x:DataW H × List MemPlace}(hf:DataW.trod enc Tryz.prog W 0 (fun _=>true) true fuel 22 [.slice a0 len cap]=some x)(ht:TenTab W):Calls Tryz.prog 3 #[.slice a0 len cap] W (LwPost W):=by
 by_cases hn:len < 3∨2000 < len
 ·exact law3_out a0 len cap W hn
 ·rcases open_ints Tryz.underlying22 Tryz.underlying5 cells5 hf with ⟨hcs,_⟩|⟨a,len',cap',zs,hcs,_,hl,_,hz,_,hcell,hwz⟩
  ·injection hcs with hcs
   injection hcs with _ hcs
   omega
  ·injection hcs with hcs
   injection hcs with h1 h2 h3
   subst h1 h2 h3
   rw[if_pos rfl] at hz
   obtain⟨b,off,rfl,hc⟩:=ints_at hcell (by omega)
   obtain⟨T,hT⟩:∃T:List UInt8,T=(zs.take len).map fun z=>UInt8.ofNat z.toNat:=⟨_,rfl⟩
   have hTl:T.length=len:=by rw[hT,List.length_map,List.length_take,hz,Nat.min_eq_left hl]
   have htx:TxAt b off T W:=fun j hj=>by
    have hjz:j < zs.length:=by omega
    rw[hc j hjz]
    have hw:=bounds_u8 (hwz zs[j] (List.getElem_mem hjz))
    have e1:zs.getD j 0=zs[j]:=by rw[List.getD_eq_getElem?_getD,List.getElem?_eq_getElem hjz];rfl
    have e2:T[j]=UInt8.ofNat (zs[j]).toNat:=by subst hT;simp
    rw[e1,e2]
    have e3:(UInt8.ofNat (zs[j]).toNat).toNat=(zs[j]).toNat:=by simp;omega
    rw[e3,Int.toNat_of_nonneg hw.1]
   have:=law3_in htx (tc:=cap) (by omega) (by omega) (by omega) ht
   rw[hTl] at this
   exact this
theorem lifted(os:Os)(started:os.Started)(H:Type)(enc:TypeId × Value→H):
  ReturnsInHanded {} Tryz.checked os 3 .any (fun w args=>(Rows.fnTinyAgainSpec.pre enc Tryz.prog Tryz.f3 [] false w args∧laidMetH Tryz.prog Rows.fnTinyAgainRow.laid w)∧sizedMet enc Tryz.prog Tryz.f3 (OpenSpec.ofChange Rows.fnTinyAgainSpec) false w args)
   (Rows.fnTinyAgainSpec.post enc Tryz.prog Tryz.f3 false true false false):=by
 refine returnsInHanded_of_change_and (C:=Tryz.checked) (X:=fun w _=>laidMetH Tryz.prog Rows.fnTinyAgainRow.laid w) (fun _ _ _ hh h=>h.of_heap hh) own started (by kernel_rfl) Tryz.func3
  (ChangeSpec.witness_shaped (enc:=enc) (C:=Tryz.checked) (os:=os) (X:=fun w _=>laidMetH Tryz.prog Rows.fnTinyAgainRow.laid w) false (World.laidAll Tryz.prog os Rows.fnTinyAgainRow.laid) #[.slice none 0 0] 8 (World.laidAll_os _ _ _)
   (World.shaped_of_ZipB (by kernel_rfl) (by kernel_rfl)) (by kernel_rfl) (by kernel_rfl) (by kernel_rfl)
   (by rw[MakeChecks.laidMetH_plain _ _ _ (by kernel_rfl)];exact laidMet_laidAll _ (by kernel_rfl) (by kernel_rfl))) ?_
 intro W base args ds gs before hval0 hW _ _ hL _
 have hval:∀(j:Nat) t v,Tryz.f3.params[j]?=some t→args[j]?=some v→Value.okWide Tryz.prog W .any base t v:=hval0
 have hW':=hW
 obtain⟨p,q,hA0,hV,rfl,hlt,_⟩:=hW
 have hA:DataW.TrodAll enc Tryz.prog W 0 (fun _=>true) true Tryz.f3.params.toList args.toList ds p:=hA0
 rw[Tryz.params3] at hA hval
 obtain⟨v0,d0,rfl,rfl,h0⟩:=trodAll_one hA
 obtain⟨rfl,rfl⟩:=trodVars_none hV
 obtain⟨a0,len,cap,rfl⟩:=okWide_slice Tryz.underlying22 (hval 0 22 v0 rfl rfl)
 have h0k:=h0
 obtain⟨fuel,hf⟩:=h0
 simp only[List.append_nil] at hW'
 rw[MakeChecks.laidMetH_plain _ _ _ (by kernel_rfl)] at hL
 have hlt':∀x∈p,x.block < W.heap.size:=fun x hx=>by simpa using hW'.lt x hx
 refine (law3 (by simpa [Value.cells] using hf) (laid_tens hL)).mono fun e W' ⟨he,hfr⟩=>?_
 subst he
 have hb:Below W.heap.size W W':=hfr.below (Nat.le_refl _) (fun _ h=>h.elim)
 exact⟨_,rfl,_,_,_,[],p,[],hW',trodAll_mk1 (shut_bool Tryz.underlying4 _),trodAll_mk1 (Below.trod laidOut (by kernel_rfl) (of_decide_eq_true (by kernel_rfl)) h0k hb hlt'),rfl,hb.frame _,fun h=>by cases h⟩
theorem j_wf:Rows.fnTinyAgainRow.wf (OpenSpec.ofChange Rows.fnTinyAgainSpec)=true:=by kernel_rfl
theorem j_rowed:mapsRowed Tryz.prog=true:=by kernel_rfl
theorem j_readable:Tryz.f3.params.all (Tryz.prog.readableRec ·)=true:=by kernel_rfl
theorem j_tie:namedTie Tryz.prog Rows.fnTinyAgainRow.named Rows.fnTinyAgainSpec.vars=true:=by kernel_rfl
theorem j_inplace:(Rows.fnTinyAgainRow.inPlace == Tryz.prog.inPlace 3)=true:=by kernel_rfl
theorem j_unfollowed:(Rows.fnTinyAgainRow.unfollowed == Tryz.prog.unfollowed 3)=true:=by kernel_rfl
theorem j_recurses:(Rows.fnTinyAgainRow.recurses == Tryz.prog.recurses 3)=true:=by kernel_rfl
theorem j_named:(Rows.fnTinyAgainRow.named == Tryz.prog.varsNamed 3)=true:=by kernel_rfl
theorem j_stopsHeard:Tryz.prog.stopsHeard=true:=by kernel_rfl
theorem j_mayEnter:Tryz.prog.mayEnter=true:=by kernel_rfl
theorem j_lifted:(Rows.fnTinyAgainRow.lifted == Tryz.prog.liftsFinal)=true:=by kernel_rfl
theorem j_plainKeys:(Rows.fnTinyAgainRow.plainKeys == Tryz.prog.plainKeys)=true:=by kernel_rfl
theorem j_make:(Tryz.prog.make == some Rows.fnTinyAgainRow.make)=true:=by kernel_rfl
theorem j_looks:true=Tryz.prog.looks []:=by kernel_rfl
theorem j_goes:false=Rows.fnTinyAgainRow.goesBy Tryz.prog:=by kernel_rfl
theorem j_wfText:Rows.fnTinyAgainRow.wfByText (OpenSpec.ofChange Rows.fnTinyAgainSpec)=true:=by kernel_rfl
theorem j_mainIs:Tryz.prog.mainIs=some (true,"cb2d18551bf389fbe7ca86f59343849a3f76bae6caa23d062b84767768eb343e".toList):=by kernel_rfl
theorem j_name:Tryz.prog.funcNamed "pub-alidade/laws.FnTinyAgain"=some 3:=by kernel_rfl
theorem j_inst:Tryz.f3.isInstance Tryz.prog Rows.fnTinyAgainRow.origin Rows.fnTinyAgainRow.targs:=of_decide_eq_true (by kernel_rfl)
theorem j_wrap:Tryz.f3.isWrapper Tryz.prog Rows.fnTinyAgainRow.wrapper Rows.fnTinyAgainRow.mainSum:=by
 unfold Func.isWrapper
 first|(rw[if_pos (by decide +kernel)];kernel_rfl)|(rw[if_neg (by decide +kernel)];exact⟨rfl,rfl⟩)
theorem j_all:joinedFacts Tryz.prog 3 Tryz.f3 Rows.fnTinyAgainSpec Rows.fnTinyAgainRow=true:=by
 unfold joinedFacts
 simp only[Bool.and_eq_true]
 and_intros
 all_goals first|with_reducible exact j_wf|with_reducible exact laidOut|with_reducible exact j_rowed|with_reducible exact j_readable|with_reducible exact j_tie|with_reducible exact j_inplace|with_reducible exact j_unfollowed|with_reducible exact j_recurses|with_reducible exact j_named|with_reducible exact j_stopsHeard|with_reducible exact j_mayEnter|with_reducible exact j_lifted|with_reducible exact j_plainKeys|with_reducible exact j_make|kernel_rfl
theorem fnTinyAgain_holds:Rows.FnTinyAgainSaid :=
 OpenClaim.holds_of_wide 3 Tryz.f3 rfl rfl rfl rfl rfl rfl rfl ⟨rfl,rfl,rfl,rfl,rfl⟩ rfl rfl rfl rfl rfl j_name Tryz.func3 j_all j_inst j_wrap
  (fun os started H enc _=>lifted os started H enc)
open Go
theorem fnTinyAgain_card:Rows.FnTinyAgainCardSaid :=
 Claim7.holds_tied_plain_at .later [] [.data,.data,.data,.sentinel] true (true,"cb2d18551bf389fbe7ca86f59343849a3f76bae6caa23d062b84767768eb343e") true
  fnTinyAgain_holds (fun _ h=>by cases h) j_wfText (fun _ h=>by cases h) fnTinyAgain_row_tie rfl ⟨rfl,rfl⟩ j_mainIs rfl
  (fun f fn hf hfn=>by
   obtain rfl:f=3:=Option.some.inj (j_name.symm.trans hf) |>.symm
   obtain rfl:fn=Tryz.f3:=(Option.some.inj (Tryz.func3.symm.trans hfn)).symm
   exact⟨j_looks,fun j t ht=>by
    rw[Tryz.params3] at ht
    have hm:t∈[22]:=by simpa using Array.mem_of_getElem? ht
    have hall:([22].all fun u=>!Tryz.prog.wantsStandIn u)=true:=by kernel_rfl
    exact (show Tryz.prog.wantsStandIn t=false by simpa using List.all_eq_true.1 hall t hm)⟩)
  j_goes
#print axioms fnTinyAgain_card
end Go.Proofs.YtnjjgbcmjnfijaaGreatDoor
