import Derived.Test.YtabjfnkfocnklaaGreatDoorA27
set_option linter.all false
set_option maxHeartbeats 16000000
set_option maxRecDepth 20000
namespace Go.Proofs.YtabjfnkfocnklaaGreatDoor
open Go Go.RowKit Go.Lib S P Go.Proofs.Tryz Go.ChangeShapes Go.WideShapes Go.ChangeAt
theorem kfn:Tryz.pinned.checked.prog.funcNamed Rows.fnSatisfiesComparableUptoRow.func=some 3:=by kernel_rfl
theorem kcl:joinedFacts Tryz.pinned.checked.prog 3 Tryz.f3 (Rows.OpenSpec.upto Rows.fnSatisfiesComparableSpec).bare Rows.fnSatisfiesComparableUptoRow=true:=by kernel_rfl
theorem kin:Tryz.f3.isInstance Tryz.pinned.checked.prog Rows.fnSatisfiesComparableUptoRow.origin Rows.fnSatisfiesComparableUptoRow.targs:=of_decide_eq_true (by kernel_rfl)
theorem kwr:Tryz.f3.isWrapper Tryz.pinned.checked.prog Rows.fnSatisfiesComparableUptoRow.wrapper Rows.fnSatisfiesComparableUptoRow.mainSum:=by
 unfold Func.isWrapper;first|(rw[if_pos (by decide+kernel)];kernel_rfl)|(rw[if_neg (by decide+kernel)];exact ⟨rfl,rfl⟩)
theorem said:Rows.FnSatisfiesComparableUptoSaid:=
 OpenClaim.holds_of_cond 3 Tryz.f3 rfl rfl rfl rfl rfl rfl rfl ⟨rfl,rfl,rfl,rfl,rfl⟩ rfl rfl rfl rfl rfl kfn Tryz.func3 kcl kin kwr
  (λos started H enc _ F=>by rw[OpenClaim.pre_eq_preRow];exact lifted os started H enc F)
theorem plain(f:FuncId)(fn:Func)(hf:Tryz.pinned.checked.prog.funcNamed "pub-typesets/laws.FnSatisfiesComparable"=some f)(iA:Tryz.pinned.checked.prog.funcs[f]?=some fn):
 true=Tryz.pinned.checked.prog.looks []/\∀(j:Nat) t,fn.params[j]?=some t->Tryz.pinned.checked.prog.wantsStandIn t=false:=by
 obtain rfl:f=3:=jQw ((show Tryz.prog.funcNamed "pub-typesets/laws.FnSatisfiesComparable"=some 3 by kernel_rfl).symm.trans hf) |>.symm;obtain rfl:fn=f3:=(jQw (func3.symm.trans iA)).symm;refine⟨g9,λj t ht=>?_⟩;rw[params3]at ht;have hm:t∈[22,25]:=by simpa using Array.mem_of_getElem? ht
 have eO:([22,25].all λu=>!Tryz.prog.wantsStandIn u)=true:=g9
 exact(show Tryz.prog.wantsStandIn t=false by simpa using List.all_eq_true.1 eO t hm)
theorem card:Rows.FnSatisfiesComparableUptoCardSaid:=
 Claim7.holds_tied_plain_at .later [] _ _ _ _ said (λ_ h=>by cases h) g9 (λ_ h=>by cases h) fnSatisfiesComparableUpto_row_tie rfl ⟨rfl,rfl⟩ g9 rfl plain g9
end Go.Proofs.YtabjfnkfocnklaaGreatDoor
