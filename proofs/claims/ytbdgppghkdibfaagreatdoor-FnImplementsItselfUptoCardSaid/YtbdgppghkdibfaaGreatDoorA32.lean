import Derived.Test.YtbdgppghkdibfaaGreatDoorA31
set_option linter.all false
set_option maxHeartbeats 16000000
set_option maxRecDepth 20000
namespace Go.Proofs.YtbdgppghkdibfaaGreatDoor
open Go Go.RowKit Go.Lib S P Go.Proofs.Tryz Go.ChangeShapes Go.WideShapes Go.ChangeAt
theorem kfn:Tryz.pinned.checked.prog.funcNamed Rows.fnImplementsItselfUptoRow.func=some 3:=g9
theorem kcl:joinedFacts Tryz.pinned.checked.prog 3 f3 (Rows.OpenSpec.upto Rows.fnImplementsItselfSpec).bare Rows.fnImplementsItselfUptoRow=true:=g9
theorem kin:f3.isInstance Tryz.pinned.checked.prog Rows.fnImplementsItselfUptoRow.origin Rows.fnImplementsItselfUptoRow.targs:=of_decide_eq_true g9
theorem kwr:f3.isWrapper Tryz.pinned.checked.prog Rows.fnImplementsItselfUptoRow.wrapper Rows.fnImplementsItselfUptoRow.mainSum:=by
 unfold Func.isWrapper
 first|(rw[jQ7 (by decide+kernel)];kernel_rfl)|(rw[jQ4 (by decide+kernel)];exact⟨rfl,rfl⟩)
theorem said:Rows.FnImplementsItselfUptoSaid:=
 OpenClaim.holds_of_cond 3 f3 rfl rfl rfl rfl rfl rfl rfl ⟨rfl,rfl,rfl,rfl,rfl⟩ rfl rfl rfl rfl rfl kfn func3 kcl kin kwr
  (λos started hx enc _ F=>by rw[OpenClaim.pre_eq_preRow];exact lifted os started hx enc F)
theorem plain(f:FuncId)(fn:Func)(hf:Tryz.pinned.checked.prog.funcNamed "pub-typesets/laws.FnImplementsItself"=some f)(iA:Tryz.pinned.checked.prog.funcs[f]?=some fn):
 true=Tryz.pinned.checked.prog.looks []/\∀(hp:Nat) t,fn.params[hp]?=some t->Tryz.pinned.checked.prog.wantsStandIn t=false:=by
 obtain rfl:f=3:=jQw ((show Tryz.prog.funcNamed "pub-typesets/laws.FnImplementsItself"=some 3 by kernel_rfl).symm.trans hf) |>.symm;obtain rfl:fn=f3:=(jQw (func3.symm.trans iA)).symm;refine⟨g9,λhp t ht=>?_⟩;rw[params3]at ht;have hm:t∈[22,25]:=by simpa using Array.mem_of_getElem? ht
 have eO:([22,25].all λu=>!Tryz.prog.wantsStandIn u)=true:=g9
 exact(show Tryz.prog.wantsStandIn t=false by simpa using List.all_eq_true.1 eO t hm)
theorem card:Rows.FnImplementsItselfUptoCardSaid:=
 Claim7.holds_tied_plain_at .later [] _ _ _ _ said (λ_ h=>by cases h) g9 (λ_ h=>by cases h) fnImplementsItselfUpto_row_tie rfl ⟨rfl,rfl⟩ g9 rfl plain g9
end Go.Proofs.YtbdgppghkdibfaaGreatDoor
