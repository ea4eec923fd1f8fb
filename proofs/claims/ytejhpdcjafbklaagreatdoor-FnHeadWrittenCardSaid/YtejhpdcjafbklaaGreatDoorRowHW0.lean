/- The law FnHeadWritten: RowHW0. -/
import Derived.Test.YtejhpdcjafbklaaGreatDoorFnHW
set_option linter.all false
set_option maxRecDepth 100000
namespace Go.Proofs.YtejhpdcjafbklaaGreatDoor.fnHeadWritten
open Go.ChangeShapes Go.WideShapes Go.ChangeAt Go.RowKit
theorem PO{W:World}(h:laidMetH Tryz.prog Rows.fnHeadWrittenRow.laid W):BW W:=by
 rw[MakeChecks.laidMetH_plain _ _ _ (by kernel_rfl)]at h;exact PN h (.tail _ (.tail _ (.head _))) (.tail _ (.tail _ (.tail _ (.tail _ (.tail _ (.head _)))))) (.tail _ (.tail _ (.tail _ (.tail _ (.tail _ (.tail _ (.tail _ (.tail _ (.head _)))))))))
  (.tail _ (.tail _ (.tail _ (.tail _ (.tail _ (.tail _ (.head _))))))) (.tail _ (.tail _ (.tail _ (.tail _ (.tail _ (.tail _ (.tail _ (.head _)))))))) (h.tail.tail.tail) (h.tail.tail.tail.tail)
theorem params:Tryz.f3.params.toList=[28]:=by kernel_rfl
theorem Ml:∀t∈Tryz.f3.params.toList,Tryz.prog.readableRec t=true∧t<Tryz.prog.types.size:=by
 rw[params];intro t ht;simp only[List.mem_cons,List.mem_nil_iff,or_false]at ht;rcases ht with rfl<;>exact⟨by kernel_rfl,of_decide_eq_true (by kernel_rfl)⟩
theorem Ng(H:Type)(enc:TypeId×Value→H)(W:World)(base:Nat)(args:Array Value)(ds gs:List (DataW H))(before:List MemPlace)
 (hval:∀(j:Nat) t v,Tryz.f3.params[j]? =some t→args[j]? =some v→Value.okWide Tryz.prog W .any base t v)
 (hW:DataW.Whole enc Tryz.prog Tryz.f3.params.toList Rows.fnHeadWrittenSpec.vars false W args.toList ds gs before)
 (hz:(DataW.weightsEach Tryz.prog (Tryz.f3.params.toList++(OpenSpec.ofChange Rows.fnHeadWrittenSpec).bare.plain.varTypes Tryz.prog) (ds++gs)).all (·≤reachBytes)=true)
 (hL:laidMetH Tryz.prog Rows.fnHeadWrittenRow.laid W):
 Calls Tryz.prog 3 args W fun e W'=>∃v,e= .returned v∧Rows.fnHeadWrittenSpec.post enc Tryz.prog Tryz.f3 false true false false W args v W':=by
 have hW':=hW;obtain⟨p,q,hA,hV,rfl,hfz,hnd⟩:=hW;rw[params]at hA hz;obtain⟨v0,vs0,d0,ds0,p0,q0,ha0,rfl,rfl,h0,r0⟩:=trodAll_cons hA;obtain⟨ra,rfl,rfl⟩:=trodAll_nil r0;have hargs:args.toList=[v0]:=by rw[ha0,ra]
 obtain rfl:args= #[v0]:=by cases args;simp_all
 have hw0:(d0.weights Tryz.prog 28).all (·≤reachBytes)=true:=by
  refine List.all_eq_true.2 fun n hn=>?_;exact List.all_eq_true.1 hz n (DataW.weights_mem_each (j:=0) rfl rfl n hn)
 have hk0:=hval 0 28 v0 (by kernel_rfl) rfl;obtain⟨x0,l0,rfl,hl0⟩:=PE hk0 h0 hw0;refine(Ft W x0 l0 hl0 (PO hL)).mono ?_;rintro e W' ⟨rfl,hle⟩;exact⟨_,rfl,LB hW' rfl (by kernel_rfl) rfl Ml hle⟩
noncomputable def start(os:Os):World:=
 {World.doorLaid Tryz.prog 108 os with heap:=(World.doorLaid Tryz.prog 108 os).heap.setIfInBounds (Tryz.prog.globals.size+1) (.map #[] 0)}
theorem Na(os:Os)(args:Array Value):laidMetH Tryz.prog Rows.fnHeadWrittenRow.laid ((start os).forCall (fun _ _=>0) ⟨#[],args,[]⟩).memory:=
 laidMetH_of_parts3 (fuel:=8) (laidMet_of_run' 8 (by kernel_rfl) (by kernel_rfl)) (by kernel_rfl) (by kernel_rfl)
theorem Qw(os:Os)(started:os.Started)(H:Type)(enc:TypeId×Value→H):
 ReturnsInHanded {} Tryz.checked os 3 .any (fun w args=>(Rows.fnHeadWrittenSpec.pre enc Tryz.prog Tryz.f3 [] false w args∧laidMetH Tryz.prog Rows.fnHeadWrittenRow.laid w)∧sizedMet enc Tryz.prog Tryz.f3 (OpenSpec.ofChange Rows.fnHeadWrittenSpec) false w args)
  (Rows.fnHeadWrittenSpec.post enc Tryz.prog Tryz.f3 false true false false):=by
 refine returnsInHanded_of_change_and (C:=Tryz.checked) (X:=fun w _=>laidMetH Tryz.prog Rows.fnHeadWrittenRow.laid w) (fun _ _ _ hh h=>h.of_heap hh) knob started (by kernel_rfl) Tryz.func3
  (ChangeSpec.witness_shaped (enc:=enc) (C:=Tryz.checked) (os:=os) (X:=fun w _=>laidMetH Tryz.prog Rows.fnHeadWrittenRow.laid w) false (start os) #[.agg #[.int .i64 0,.slice none 0 0,.slice none 0 0,.slice none 0 0,.slice none 0 0,.slice none 0 0,.bool false,.bool false,.slice none 0 0,.slice none 0 0,.slice none 0 0,.int .i64 0,.slice none 0 0,.slice none 0 0,.slice none 0 0,.int .u32 0,.slice none 0 0,.slice none 0 0,.slice none 0 0,.slice none 0 0,.int .i64 0]] 8 rfl (World.shaped_of_RefB (by kernel_rfl) (by kernel_rfl)) (by kernel_rfl) (by kernel_rfl) (by kernel_rfl) (Na os _)) ?_
 intro W base args ds gs before hval hW _ hz hL _;exact Ng H enc W base args ds gs before hval hW hz hL
theorem jf0:(Rows.fnHeadWrittenRow.inPlace==Tryz.pinned.checked.prog.inPlace 3)=true:=by kernel_rfl
theorem jf1:(Rows.fnHeadWrittenRow.unfollowed==Tryz.pinned.checked.prog.unfollowed 3)=true:=by kernel_rfl
theorem jf2:(Rows.fnHeadWrittenRow.recurses==Tryz.pinned.checked.prog.recurses 3)=true:=by kernel_rfl
theorem jf3:(Rows.fnHeadWrittenRow.named==Tryz.pinned.checked.prog.varsNamed 3)=true:=by kernel_rfl
theorem Q8:joinedFacts Tryz.pinned.checked.prog 3 Tryz.f3 Rows.fnHeadWrittenSpec Rows.fnHeadWrittenRow=true:=by
 unfold joinedFacts;simp only[jf0,jf1,jf2,jf3,Bool.and_true];kernel_rfl
end Go.Proofs.YtejhpdcjafbklaaGreatDoor.fnHeadWritten
