/- The proof of FnHeadWritten: the statement FnHeadWrittenCardSaid, as given, with no condition ahead of it. -/
import Derived.Test.YtejhpdcjafbklaaGreatDoorRowHW0
set_option linter.all false
namespace Go.Proofs.YtejhpdcjafbklaaGreatDoor.fnHeadWritten
open Go.ChangeShapes Go.WideShapes Go.ChangeAt Go.RowKit
theorem said:Rows.FnHeadWrittenSaid:=
 OpenClaim.holds_of_wide 3 Tryz.f3 rfl rfl rfl rfl rfl rfl rfl ⟨rfl,rfl,rfl,rfl,rfl⟩ rfl rfl rfl rfl rfl (by kernel_rfl) Tryz.func3 Q8
  (of_decide_eq_true (by kernel_rfl)) (by unfold Func.isWrapper;first|(rw[if_pos (by decide+kernel)];kernel_rfl)|(rw[if_neg (by decide+kernel)];exact⟨rfl,rfl⟩))
  (fun os started H enc _=>Qw os started H enc)
theorem plain(f:FuncId)(fn:Func)(hf:Tryz.pinned.checked.prog.funcNamed "pub-hailwright/laws.FnHeadWritten" =some f)(hfn:Tryz.pinned.checked.prog.funcs[f]? =some fn):
 true=Tryz.pinned.checked.prog.looks []∧∀(j:Nat) t,fn.params[j]? =some t→Tryz.pinned.checked.prog.wantsStandIn t=false:=by
 obtain rfl:f=3:=Option.some.inj ((show Tryz.prog.funcNamed "pub-hailwright/laws.FnHeadWritten" =some 3 by kernel_rfl).symm.trans hf) |>.symm;obtain rfl:fn=Tryz.f3:=(Option.some.inj (Tryz.func3.symm.trans hfn)).symm;refine⟨by kernel_rfl,fun j t ht=>?_⟩;have hm:t∈Tryz.f3.params.toList:=by simpa using Array.mem_of_getElem? ht
 rw[params]at hm;simp only[List.mem_cons,List.mem_nil_iff,or_false]at hm;rcases hm with rfl<;>exact(show Tryz.prog.wantsStandIn _=false by kernel_rfl)
theorem card:Rows.FnHeadWrittenCardSaid:=
 Claim7.holds_tied_plain_at .later [] _ _ _ _ said (fun _ h=>by cases h) (by kernel_rfl) (fun _ h=>by cases h) fnHeadWritten_row_tie rfl ⟨rfl,rfl⟩ (by kernel_rfl) rfl plain (by kernel_rfl)
#print axioms card
end Go.Proofs.YtejhpdcjafbklaaGreatDoor.fnHeadWritten
