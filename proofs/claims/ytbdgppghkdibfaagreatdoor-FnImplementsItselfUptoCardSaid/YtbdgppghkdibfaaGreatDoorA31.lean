import Derived.Test.YtbdgppghkdibfaaGreatDoorCards
import Derived.Test.YtbdgppghkdibfaaGreatDoorTie
import Derived.Carry
import Derived.Deep.DeepHandedRow
import Derived.LaidMore
import Derived.Lay
import Derived.ProofKit
import Derived.SevenTiedAt
import Derived.Stop.Joined
import Derived.Test.YtbdgppghkdibfaaGreatDoorA30
set_option linter.all false
set_option maxHeartbeats 16000000
set_option maxRecDepth 20000
namespace Go.Proofs.YtbdgppghkdibfaaGreatDoor
open Go Go.RowKit Go.Lib S P Go.Proofs.Tryz Go.ChangeShapes Go.WideShapes Go.ChangeAt
variable{hx:Type}
theorem own:ownKnob Tryz.prog.godebug=none:=g9
theorem laidOut:laidOutB prog=true:=g9
abbrev Ck:List (String×DataW Unit):=Rows.fnImplementsItselfUptoRow.laid
def GC:List (DataW Unit):=match(Rows.laid_unicode_properties:DataW Unit)with
 |.agg l=>l
 |_=>[]
theorem Qh:(Rows.laid_unicode_properties:DataW Unit)=.agg GC:=g9
theorem YY:((List.range 26).all λi=>match GC[65+i]? with
 |some (.lit (.int .u8 n))=>n==160
 |_=>false)=true:=g9
theorem Uy{W:World}(h:laidMetH prog Ck W):jE (λb=>b=5) W/\∃cs t f,W.heap[5]?=some (.cells cs t f):=by
 rw[MakeChecks.laidMetH_plain _ _ _ g9]at h;obtain⟨ps,⟨g0,t0,cs0,aiI,p0,q0,hg0,WW,qj,hd0,⟨g,t,cs,fuel,p,q,hg,ht,hv,hd, -, -⟩, -⟩, -, -⟩:=h;obtain rfl:=jQw ((show Tryz.prog.globalNamed "unicode.properties"=some 5 by kernel_rfl).symm.trans hg);obtain rfl:=jQw ((show(Tryz.prog.globals[5]?).map (·.type)=some 360 by kernel_rfl).symm.trans ht);obtain⟨xs,m, -,ex,KP,hl,lT⟩:=DataW.trod_array underlying360 hd;have c5:Tryz.prog.cellsOf 5=1:=g9
 rw[Qh]at ex;have e3:xs.map (·.1)=GC:=(DataW.agg.inj (Prod.mk.inj ex).1).symm;have aaK:∀c:Nat,65<=c->c<=90->W.cell? ⟨5,c,none⟩=some (.int .u8 160):=λc I U=>by
  have hE:=lT c M;rw[c5,Nat.mul_one,jQp M]at hE;obtain⟨z,e1,e2, -⟩:=DataW.trod_int underlying5 hE;have e4:GC[c]?=some (.lit (.int .u8 z)):=by rw[<-e3,List.getElem?_map,jQp (by omega:c<xs.length),e2];rfl
  have h26:=List.all_eq_true.1 YY (c - 65) (List.mem_range.2 M);rw[show 65+(c - 65)=c by omega,e4]at h26;have hz:z=160:=by simpa using h26
  subst hz;rw[World.var?_cell hg hv c];have h0:((cs.toList.drop c).take 1)[0]?=some (.int .u8 160):=by rw[e1];rfl
  simpa using h0
 refine⟨⟨rfl,aaK⟩,?_⟩;obtain⟨cs,t,f,hc⟩:=cells_of_cell (aaK 65 M M);exact⟨cs,t,f,hc⟩
theorem Ol{t:Y}(h:NZ t)(hl:(ei t).length<=1048576):NB t:=⟨h,M⟩
theorem Uz(hx:Type)(enc:TypeId×Value->hx)(W:World)(base:Nat)(args:Array Value)(ds gs:List (DataW hx))(before:List MemPlace)(JM:∀(hp:Nat) t v,f3.params[hp]?=some t->args[hp]?=some v->Value.okWide prog W .any base t v)(hW:DataW.Whole enc prog f3.params.toList Rows.fnImplementsItselfSpec.vars false W args.toList ds gs before)(hk:Rows.uptoSmall hx (ds++gs)=true)(hL:laidMetH prog Ck W):
 Calls prog 3 args W λe W'=>∃v,e=.returned v/\Rows.fnImplementsItselfSpec.post enc prog f3 false true false false W args v W':=by
 have hW':=hW;obtain⟨p,q,hA0,hV,rfl, -, -⟩:=hW;have hA:DataW.TrodAll enc prog W 0 (λ_=>true) true f3.params.toList args.toList ds p:=hA0;rw[params3]at hA JM;obtain⟨v0,v1,d0,d1,p0,p1,rfl,rfl,rfl,h0,I⟩:=trodAll_two hA;obtain⟨rfl,rfl⟩:=trodVars_none hV;have Ec:Rows.uptoBulkAll [d0,d1]<=1048576:=of_decide_eq_true hk;simp only[Rows.uptoBulkAll]at Ec;obtain⟨a,wl,c,rfl⟩:=okWide_slice underlying22 (JM 0 22 v0 rfl rfl);obtain⟨cs1,rfl, -⟩:=okWide_struct underlying25 (JM 1 25 v1 rfl rfl);have h0k:=h0;have h1k:=I;obtain⟨f0,hf0⟩:=h0;obtain⟨f1,O7⟩:=I;obtain⟨w,SK,Lc,oW⟩:=Xz (W:=W) f0 _ _ hf0;obtain⟨v,dr,fx,oE,hv4,oX⟩:=zE (W:=W) f1 _ _ O7;have nr:RT (Old W) W v (.agg cs1):=Sm dr;obtain⟨a',c',e'⟩:=SK.form;simp only[Value.slice.injEq]at e';obtain⟨rfl,rfl,rfl⟩:=e';simp only at Lc fx hv4 oX;obtain⟨e1,e2,e3,e4⟩:=z8;have hsm:Small w [v]:=by
  refine⟨?_,λd hd=>?_,λx H=>?_⟩
  .simp only[fF,jQo,List.length_nil];omega
  .have hs:=zR hd;refine⟨Ol (oW d hd).1 M,λm hm=>?_⟩;have:=GD hm;exact⟨Ol ((oW d hd).2 m hm).1 M,((oW d hd).2 m hm).2⟩
  .simp only[jQn,List.not_mem_nil,or_false]at H;subst H;exact Ol oE M
 have lT:∀x:Y,x.li.length<=(ei x).length:=λx=>by
  obtain⟨k,n,m,va,nm,tg,l⟩:=x;rw[ei];have:=BM l;simp only[List.length_cons,Y.li];omega
 have hlv:=lT v;obtain⟨ahT,Q5⟩:=Uy hL;have hwh:WH (Old W) w a c W:=⟨SK,λb hb=>hb,ahT,Q5⟩;refine(OQ hsm hwh nr ⟨M,M,M⟩).mono ?_;rintro e W' ⟨rfl,hb⟩;have uj:∀x∈p0++p1,x.block<W.heap.size:=λx H=>by simpa using hW'.lt x (by simpa using H)
 refine⟨_,rfl,[d0,d1],[],_,[],p0++p1,[],hW',trodAll_cons_mk (shut_bool underlying4 _) trodAll_mk0,?_,rfl,hb.frame _,λh=>by cases h⟩;exact trodAll_mk2 (Below.trod laidOut g9 (of_decide_eq_true g9) h0k hb λx H=>uj x (by simp[H])) (Below.trod laidOut g9 (of_decide_eq_true g9) h1k hb λx H=>uj x (by simp[H]))
abbrev zT1:Value:=.agg #[.int .i64 0,.int .i64 0,.int .i64 0,.bool false,.string .empty,.string .empty,.slice none 0 0]
abbrev UA:Array Value:=#[.slice none 0 0,zT1]
abbrev zD1{hx:Type}:DataW hx:=.agg [.lit (.int .i64 0),.lit (.int .i64 0),.lit (.int .i64 0),.lit (.bool false),.lit (.string []),.lit (.string []),.nil]
set_option maxRecDepth 100000 in
theorem reads(os:Os)(enc:TypeId×Value->hx):DataW.whole enc prog ((World.laidAll prog os Ck).forCall (λ_ _=>0) ⟨#[],UA,[]⟩).memory f3.params.toList (Rows.OpenSpec.upto Rows.fnImplementsItselfSpec).vars false UA.toList 8=some ([.nil,zD1],[],[]):=g9
set_option maxRecDepth 100000 in
theorem witness(os:Os)(enc:TypeId×Value->hx):∃(w:World) (tape:Tape) (i:Input),w.os=os/\(w.forCall tape i).Shaped Tryz.checked.prog/\i.vars=[]/\Input.okWide Tryz.checked.prog (w.forCall tape i) .any w.heap.size 3 i/\
 (Rows.OpenSpec.upto Rows.fnImplementsItselfSpec).preRow enc Tryz.checked.prog f3 Rows.fnImplementsItselfUptoRow.domain false Ck (w.forCall tape i).memory i.args/\({}:Assume).holds Tryz.checked.prog (lone (Frame.enter Tryz.checked.prog 3 i.args .normal) [] (w.forCall tape i)):=by
 have bD:Input.okWideB Tryz.checked.prog ((World.laidAll prog os Ck).forCall (λ_ _=>0) ⟨#[],UA,[]⟩) 3 ⟨#[],UA,[]⟩=true:=g9
 refine⟨World.laidAll prog os Ck,λ_ _=>0,⟨#[],UA,[]⟩,World.laidAll_os _ _ _,World.shaped_of_ZipB g9 g9,(Input.okWide_of_okWideB (base:=0) bD).1,(Input.okWide_of_okWideB bD).2,
  OpenSpec.preRow_of_cond 8 (reads os enc) g9 (λk hk=>by cases hk;kernel_rfl) g9 (by rw[MakeChecks.laidMetH_plain _ _ _ g9];exact laidMet_laidAll _ g9 g9),?_⟩
 simp only[Assume.holds];exact⟨i6,i6,λh=>(by cases h),i6,i6⟩
set_option maxRecDepth 100000 in
theorem lifted(os:Os)(started:os.Started)(hx:Type)(enc:TypeId×Value->hx)(F:Stop.Interp):
 ReturnsInHanded {} Tryz.checked os 3 .any ((Rows.OpenSpec.upto Rows.fnImplementsItselfSpec).preRow enc prog f3 Rows.fnImplementsItselfUptoRow.domain false Ck) (((Rows.OpenSpec.upto Rows.fnImplementsItselfSpec).at F).post enc prog f3 false true false false):=by
 refine returnsInHanded_of_row (C:=Tryz.checked) (s:=Rows.OpenSpec.upto Rows.fnImplementsItselfSpec) own started g9 func3 (witness os enc) ?_;intro W base args ds gs before JM hW _ afk _ hL _ _;exact Uz hx enc W base args ds gs before JM hW (afk _ rfl) hL
end Go.Proofs.YtbdgppghkdibfaaGreatDoor
