import Derived.Deep.AppendLies
import Derived.Deep.DeepCutAuto
import Derived.Test.YtbdgppghkdibfaaGreatDoorA08
set_option linter.all false
set_option maxHeartbeats 16000000
set_option maxRecDepth 20000
namespace Go.Proofs.YtbdgppghkdibfaaGreatDoor
open Go Go.RowKit Go.Lib S Tryz
variable{l out:List Y}{B11 base g g7 ox:Nat}{E:Qx}{GT:Prop}{v vo:Value}{W w2 w7 wx:World}
def M114(h:GT:=by
 exact qD h ((tA B11 bk).trans j.here) (λb hn R2=>(tA b R2).trans (j.other b hn)) (hz.trans j.size) (I.trans j.os) (Is.trans j.tape) (h3.trans j.output)):GT:=h
def M190(h:GT:=by
 rw[e2]at e;simp[Value.ownBlock]at e):GT:=h
def M54(h:GT:=by
 have j:=aw ((tA B11 bk).trans dA) 0 (.slice (some ⟨g7,0,none⟩) (out.length+1) ox);refine qD (h.cR (jQz j.size.symm) (λg nG=>j.other g (by simp[Value.ownBlock]at nG;omega)) (λb hb=>j.other b (λe=>OZ (e▸hb)))) j.here (λb hn R2=>(j.other b hn).trans (tA b R2)) (j.size.trans hz) (j.os.trans I) (j.tape.trans Is) (j.output.trans h3)):GT:=h
def M56(h:GT:=by
 refine⟨some ⟨g7,0,none⟩,ox,by simpa using hb,by simpa using ho,λb dD hn hv=>?_,I.trans hg.os,Is.trans hg.tape,h3.trans hg.output,by rw[hz];have:=hg.size;simp at this;omega⟩;have R2:b≠g7:=λe=>hv (by rw[e]at dD⊢;exact jz dD);rw[tA b hn R2,hg.block b (by simp;omega) (λe=>hv e.symm)];exact Below.heap_alloc _ _ _ dD):GT:=h
def M64(h:GT:=by
 obtain⟨_,ho,_⟩:=h;rcases ho.2 with⟨rfl,_⟩|⟨g',cap,cur,rfl,_,nG,_⟩
 .simp[Value.ownBlock]at hg
 .simp[Value.ownBlock]at hg;subst hg;exact⟨cur,nG⟩):GT:=h
theorem M8(h:GT:=by
 intro v9 w9 jR Ho K0;obtain⟨a9,c9,rfl⟩:=jR.form;have Xp:=(Ho.block B3 (by simp;omega) (λe=>HNW.1 _ _ _ Xn.1 i5 e.symm)).trans (aq abb.1);have e39:=jQh Xp;have agM:=cd Xp;obtain⟨H39,yp,Iv⟩:=Z3 Xp jR Ho;clear jR Ho K0 Xp;go_wp2_with fail;refine jRq (v:=.tuple #[]) (by simp[results,Tryz.results262,go_sem]) rfl ?_;have j:=aw H39.1 0 (.slice a9 (w.length+1) c9);have hzx:wx.heap.size+1<=w9.heap.size:=by have:=Iv.1.size;simp at this;omega
 have uB:∀b,b<wx.heap.size->some b≠(Value.slice wa w.length wc).ownBlock->w9.heap[b]?=wx.heap[b]?:=λb I U=>(Iv.1.block b (by simp;omega) U).trans (Below.heap_alloc _ _ _ I);have hwo:∀g,(Value.slice oa' (out++[Y.mk 11 w.length 0 false es es []]).length oc').ownBlock=some g->(g<wx.heap.size/\some g≠(Value.slice wa w.length wc).ownBlock)/\∃cur,wx.heap[g]?=some (.cells cur 25 (0,0)):=λg hg=>by
  obtain⟨cur,hc⟩:=Sa.1.at hg;refine⟨⟨jQ2 hc,λe=>?_⟩,cur,hc⟩;obtain⟨agN,yq⟩:=KY.1.at e.symm;rw[hc]at yq;simp at yq
 have Sb:w9.heap[B11]?=some (.cells #[.slice oa' (out++[Y.mk 11 w.length 0 false es es []]).length oc'] 23 (0,0)):=(uB B11 M (λe=>HNW.1 _ _ _ Ai.1 i5 e.symm)).trans K11.1;refine⟨rfl,_,_,(j.other B11 (Ne.symm bk)).trans Sb,by simpa using j.here,?_,?_,?_,j.os.trans (Iv.1.os.trans (kos.trans dP.1.os)),j.tape.trans (Iv.1.tape.trans (ktp.trans dP.1.tape)),j.output.trans (Iv.1.output.trans (aba.trans dP.1.output)),by rw[j.size];have:=dP.1.size;omega⟩
 .refine Sa.1.cR (by rw[j.size];omega) (λg hg=>?_) (λb hb=>?_)
  .obtain⟨⟨I,U⟩,cur,hc⟩:=hwo g hg;refine(j.other g (λe=>?_)).trans (uB g I U);have:=uB g I U;rw[e,H39.1,<-e,hc]at this;simp at this
  .exact(j.other b (λe=>hE3 (e▸hb))).trans (uB b (KY.1.lo b hb) (KY.1.av b hb))
 .have h9:=yp.1.cR (jQz j.size.symm) (λg hg=>j.other g (λe=>by
   obtain⟨cur,hc⟩:=yp.1.at hg;rw[e,H39.1]at hc;simp at hc)) (λb hb=>j.other b (λe=>hE3 (e▸hb)))
  rw[jQo]at h9;exact h9
 .intro b hb I U h3 h4;exact(j.other b U).trans ((uB b (by have:=dP.1.size;omega) (λe=>h4 e.symm)).trans ((KFR.1 b (by have:=dP.1.size;omega) I h3).trans (dP.1.block b hb)))):GT:=h
def Nd(E:Qx)(base:Nat)(W0:World)(B11 B3:Nat)(vo vw:Value)(out:List Y)(w:List ah)(e:Ending)(W1:World):Prop:=
 e=.returned (.tuple #[])/\∃VX VY,W1.heap[B11]?=some (.cells #[VX] 23 (0,0))/\W1.heap[B3]?=some (.cells #[VY] 22 (0,0))/\dc E base W1 out VX/\gv E base W1 w VY/\
  (∀b,b<W0.heap.size->b≠B11->b≠B3->vo.ownBlock≠some b->vw.ownBlock≠some b->W1.heap[b]?=W0.heap[b]?)/\W1.os=W0.os/\W1.tape=W0.tape/\W1.output=W0.output/\W0.heap.size<=W1.heap.size
@[go_sem ↓] theorem Xk(g k c:Nat)(w):(Instr.indexAt 23 (.slice (some ⟨g,0,none⟩) (k+1) c) (.int .i64 (k:Int))).run prog w=.ok (.pointer (some ⟨g,k*7,none⟩)) w:=by
 have I:(k:Int)<(k:Int)+1:=M
 have U:¬(k:Int)<0:=M
 go_simp
def dc.at(h:dc E base W l v)(hg:v.ownBlock=some g):∃cur,W.heap[g]?=some (.cells cur 25 (0,0)):=M64
def gv.at{l:List ah}(h:gv E base W l v)(hg:v.ownBlock=some g):∃cur,W.heap[g]?=some (.cells cur 41 (0,0)):=M64
abbrev Ir:Y:=.mk 0 0 0 false es es []
def qC(E:Qx)(base:Nat)(w2 wx:World)(B11:Nat)(vo:Value)(out:List Y):Prop:=
 ∃oa oc,wx.heap[B11]?=some (.cells #[.slice oa out.length oc] 23 (0,0))/\dc E base wx out (.slice oa out.length oc)/\
  (∀b,b<w2.heap.size->b≠B11->vo.ownBlock≠some b->wx.heap[b]?=w2.heap[b]?)/\wx.os=w2.os/\wx.tape=w2.tape/\wx.output=w2.output/\w2.heap.size<=wx.heap.size
def uS{n:Int}{Z:Obj}(aL:dc E base w7 (out++[Ir]) (.slice (some ⟨g7,0,none⟩) (out.length+1) ox))(hg:(w2.alloc Z).drew.grownBy w7 vo.ownBlock)(dA:w7.heap[B11]?=some (.cells #[vo] 23 (0,0)))(bk:B11≠g7)(OZ:¬E B11)(U:B11<w2.heap.size)(jz:g7<w2.heap.size->vo.ownBlock=some g7)(H:wx=(((((((w7.setCell ⟨g7,out.length*7,none⟩ (.int .i64 11)).setCell ⟨g7,out.length*7+1,none⟩ (.int .i64 n)).setCell ⟨g7,out.length*7+2,none⟩ (.int .i64 0)).setCell ⟨g7,out.length*7+3,none⟩ (.bool false)).setCell ⟨g7,out.length*7+4,none⟩ (.string ⟨#[]⟩)).setCell ⟨g7,out.length*7+5,none⟩ (.string ⟨#[]⟩)).setCell ⟨g7,out.length*7+6,none⟩ (.slice none 0 0)).setCell ⟨B11,0,none⟩ (.slice (some ⟨g7,0,none⟩) (out.length+1) ox)
  \/wx=(((((((w7.setCell ⟨B11,0,none⟩ (.slice (some ⟨g7,0,none⟩) (out.length+1) ox)).setCell ⟨g7,out.length*7,none⟩ (.int .i64 11)).setCell ⟨g7,out.length*7+1,none⟩ (.int .i64 n)).setCell ⟨g7,out.length*7+2,none⟩ (.int .i64 0)).setCell ⟨g7,out.length*7+3,none⟩ (.bool false)).setCell ⟨g7,out.length*7+4,none⟩ (.string ⟨#[]⟩)).setCell ⟨g7,out.length*7+5,none⟩ (.string ⟨#[]⟩)).setCell ⟨g7,out.length*7+6,none⟩ (.slice none 0 0)):
 qC E base w2 wx B11 vo (out++[.mk 11 n 0 false es es []]):=by
 have aM:=jQ2 dA;have qD:∀{wx:World},dc E base wx (out++[.mk 11 n 0 false es es []]) (.slice (some ⟨g7,0,none⟩) (out.length+1) ox)->wx.heap[B11]?=some (.cells #[.slice (some ⟨g7,0,none⟩) (out.length+1) ox] 23 (0,0))->
  (∀b,b≠B11->b≠g7->wx.heap[b]?=w7.heap[b]?)->wx.heap.size=w7.heap.size->wx.os=w7.os->wx.tape=w7.tape->wx.output=w7.output->qC E base w2 wx B11 vo (out++[.mk 11 n 0 false es es []]):=by
  intro wx ho hb tA hz I Is h3;exact M56
 obtain rfl|rfl:=H
 .obtain⟨h,tA,hz,I,Is,h3⟩:=aL.zB (t':=.mk 11 n 0 false es es []) (a:=none) (c:=0) (ia.2 ⟨none,0,rfl,λ_=>rfl⟩) rfl;exact M54
 .have j:=aw dA 0 (.slice (some ⟨g7,0,none⟩) (out.length+1) ox);obtain⟨h,tA,hz,I,Is,h3⟩:=(aL.cR (jQz j.size.symm) (λg nG=>j.other g (by simp[Value.ownBlock]at nG;omega)) (λb hb=>j.other b (λe=>OZ (e▸hb)))).zB (t':=.mk 11 n 0 false es es []) (a:=none) (c:=0) (ia.2 ⟨none,0,rfl,λ_=>rfl⟩) rfl;exact M114
def xh(E)(base:Nat)(W)(B8 B11 B3:Nat)(vm vo vw vu)(ms dm:List aH)(out w u)(R3:dm=if eM u then ms else[])(h8:W.heap[B8]?=some (.cells #[vm] 39 (0,0)))(dA:W.heap[B11]?=some (.cells #[vo] 23 (0,0)))(h3:W.heap[B3]?=some (.cells #[vw] 22 (0,0)))(hm:RM E W ms vm)(ho:dc E base W out vo)(hw:gv E base W w vw)(hu:RT E W u vu)(OZ:¬E B11)(hE3:¬E B3)(mY:out.length+1<=1099511627776)(Xc:w.length+1<=1099511627776)(hb:base<=W.heap.size)(ar:base<=B11)(aZ:base<=B3):
 Calls prog 262 #[vu,.pointer (some ⟨B8,0,none⟩),.pointer (some ⟨B11,0,none⟩),.pointer (some ⟨B3,0,none⟩)] W
  (Nd E base W B11 B3 vo vw (out++[.mk 11 w.length 0 false es es []]) (w++[{gt:=u,lw:=dm}])):=by
 obtain⟨ua,uc,rfl,zC⟩:=hu.bR;obtain⟨ma,mc,rfl⟩:=hm.form;obtain⟨oa,oc,rfl⟩:=ho.form;obtain⟨wa,wc,rfl⟩:=hw.form;have R4:=jQ2 h8;have O0:=jQ2 dA;have D7:=jQ2 h3;obtain⟨HU,HSU,HM,HO,HW,H8,H11,H3⟩:=Z8 hu zC hm ho hw h8 dA h3;have Xl:=Z R3;clear hu zC hm ho hw h8 dA h3 R3;have ag:=uT u _ ((W.alloc (bx u ua uc)).alloc (.cells #[.int .i64 u.ld,.int .i64 u.n,.int .i64 u.m,.bool u.va,.string u.name,.string u.gc,.slice ua u.li.length uc,.slice none 0 0] 41)) E (HU.1.mv HO.1.lo (dT W _ _));have hbd:=ak (W.alloc (bx u ua uc)) (.cells #[.int .i64 u.ld,.int .i64 u.n,.int .i64 u.m,.bool u.va,.string u.name,.string u.gc,.slice ua u.li.length uc,.slice none 0 0] 41);have HD:=Z hbd;have yX:=Z (dT W (bx u ua uc) (.cells #[.int .i64 u.ld,.int .i64 u.n,.int .i64 u.m,.bool u.va,.string u.name,.string u.gc,.slice ua u.li.length uc,.slice none 0 0] 41));clear hbd;go_in;go_wp21;refine ag.mono ?_;rintro e w1 ⟨rfl,ar⟩;have bS:=Z (yX.1.trans (ar.mono yX.1.size));have VZ:=aj ar HD.1 i6;simp only[jQ3]at VZ;have gj:=ar.size;simp only[jQ3]at gj;clear ar ag;have Q1:=aj bS.1 H8.1 R4;have adH:=aj bS.1 H11.1 O0;have h31:=aj bS.1 H3.1 D7;cases hbu:eM u with
 |true=>
  have e8:=jQh Q1;have R3:dm=ms:=by have:=Xl.1;rw[hbu]at this;simpa using this
  subst R3;go_wp2_with (refine eT rfl 39 _ _ rfl (W.heap.size+1) 7 (.slice ma dm.length mc) rfl rfl 41 _ VZ g9 (by simp[Value.cells,Value.oneCell']) (by simp[Value.cells]) #[.int .i64 u.ld,.int .i64 u.n,.int .i64 u.m,.bool u.va,.string u.name,.string u.gc,.slice ua u.li.length uc,.slice ma dm.length mc] (by simp[Value.cells]) ?_);intro w2 fJ;obtain⟨dP,Xm,R5⟩:=Z3 (fJ.below bS.1 M) fJ.here HM.1;have j7:W.heap.size+2<=w2.heap.size:=V5 fJ.size
  clear fJ e8 VZ Q1 adH h31;have O1:=jQh (aj dP.1 H11.1 O0);have e3:=jQh (aj dP.1 H3.1 D7);obtain⟨q0,q1,q2,q3,q4,q5,q6,q7⟩:=nH Xm.1;have sr:=Z (HO.1.below dP.1);have wX:=Z (HW.1.below dP.1);have It:B11<w2.heap.size:=M
  have R6:B3<w2.heap.size:=M
  have yW:base<=w2.heap.size:=M
  have Ai:=Z (aj dP.1 H11.1 O0);have Xn:=Z (aj dP.1 H3.1 D7);have jn:=Z (show∀(b:Nat) (c:Array Value) (t:TypeId),w2.heap[b]?=some (.cells c t (0,0))->t≠25->(Value.slice oa out.length oc).ownBlock≠some b from by
   intro b c t hb ht e;obtain⟨_,CL,_⟩:=sr.1;rcases CL.2 with⟨e2,_⟩|⟨g,cap,cur,e2,_,hg,_⟩
   .exact M190
   .rw[e2]at e;simp[Value.ownBlock]at e;rw[e,hb]at hg;simp at hg;exact ht hg.2)
  have HNW:=Z (show∀(b:Nat) (c:Array Value) (t:TypeId),w2.heap[b]?=some (.cells c t (0,0))->t≠41->(Value.slice wa w.length wc).ownBlock≠some b from by
   intro b c t hb ht e;obtain⟨_,CL,_⟩:=wX.1;rcases CL.2 with⟨e2,_⟩|⟨g,cap,cur,e2,_,hg,_⟩
   .exact M190
   .rw[e2]at e;simp[Value.ownBlock]at e;rw[e,hb]at hg;simp at hg;exact ht hg.2)
  have na:=Z (show∀_:Unit,some B11≠(Value.slice oa out.length oc).ownBlock from λ_ e=>jn.1 _ _ _ Ai.1 i5 e.symm)
  go_upto_region 4 with fail
  go_cut [] (λwx=>qC E base w2 wx B11 (.slice oa out.length oc) (out++[.mk 11 w.length 0 false es es []]))
  case first=>
   have KX:=Z (λ(O:World)=>iC O [.int .i64 0,.int .i64 0,.int .i64 0,.bool false,.string es,.string es,.slice none 0 0] 25)
   go_region_law (first
    |(
     refine gC rfl (.tmp 12) (.tmp 17) rfl base E _ out (by simp[Act.eval,Act.put]) (sr.1.below (by first|exact(an w2 _).drew|exact an w2 _)) [Ir] ⟨w2.heap.size,0,none⟩ 1 _ (by simp[Act.eval,Act.put]) (RV.single (ia.2 ⟨none,0,rfl,λ_=>rfl⟩)) (KX.1 w2) (G9 mY) (by simp;omega) ?_;intro v7 w7 bF uA uU;obtain⟨g7,ox,za,zc,adI,rfl,adJ,qE,z0,z1,z2,z3,z4,z5,z6⟩:=bF.last;have hf7:=cd qE;have oz:=(uA.block B11 (by simp;omega) (na.1 ())).trans (aq Ai.1);have adK:=jQh oz;have adL:=cd oz;have bk:B11≠g7:=by intro e;rw[e,qE]at oz;simp at oz
     have adM:g7≠B11:=λe=>bk e.symm;obtain⟨Iu,lY,R7⟩:=Z3 bF uA oz;have RR:=Z (show g7<w2.heap.size->(Value.slice oa out.length oc).ownBlock=some g7 from λaM=>by
      obtain e|e:=uU
      .exact e.symm
      .simp[Value.ownBlock]at e;omega)
     clear bF uA uU qE oz))
   all_goals(go_wp21;go_meet;exact uS Iu.1 lY.1 R7.1 bk OZ It RR.1 (by first|exact .inl (by with_reducible rfl)|exact .inr (by with_reducible rfl)))
  case rest=>
   obtain⟨wx,R8⟩:∃wx,wx=wc:=⟨wc,rfl⟩;subst R8;obtain⟨oa',oc',qd,R9,O2,kos,ktp,aba,kz⟩:=hcut;have bk:B3≠B11:=by intro e;have:=Ai.1;rw[<-e,Xn.1]at this;simp at this
   have Fy:=(O2 B3 R6 bk (jn.1 _ _ _ Xn.1 i5)).trans Xn.1;have hBD:W.heap.size+1≠B11:=M
   have hDx:=(O2 (W.heap.size+1) M hBD (jn.1 _ _ _ Xm.1 i5)).trans Xm.1;have V0:S5 W wx->True:=λ_=>trivial;have HEX:=Z (show∀b,E b->wx.heap[b]?=w2.heap[b]? from λb hb=>O2 b (sr.1.lo b hb) (λe=>OZ (e▸hb)) (λe=>sr.1.av b hb e.symm));have KY:=Z (show gv E base wx w (.slice wa w.length wc)from wX.1.cR kz (λg hg=>by
    obtain⟨_,CL,_⟩:=wX.1;rcases CL.2 with⟨e2,_⟩|⟨g',cap,cur,e2,_,nG,_⟩
    .rw[e2]at hg;simp[Value.ownBlock]at hg
    .rw[e2]at hg;simp[Value.ownBlock]at hg;subst hg;exact O2 g' (jQ2 nG) (by intro e;have:=Ai.1;rw[<-e,nG]at this;simp at this) (jn.1 _ _ _ nG i5)) HEX.1)
   obtain⟨Sa,KFR,K11,abb⟩:=Z4 R9 O2 qd Fy;have e3x:=jQh Fy;have agL:=cd Fy;obtain⟨p0,p1,p2,p3,p4,p5,p6,p7⟩:=nH hDx;have Q2:au E E W wx:=λb hb=>⟨hb,(HEX.1 b hb).trans (dP.1.block b (HO.1.lo b hb))⟩;have KZ:DV E wx [{gt:=u,lw:=dm}] [.int .i64 u.ld,.int .i64 u.n,.int .i64 u.m,.bool u.va,.string u.name,.string u.gc,.slice ua u.li.length uc,.slice ma dm.length mc]:=by
    rw[DV];exact⟨ua,uc,ma,mc,[],rfl,HSU.1.move Q2,R5.1.move Q2,by rw[DV]⟩
   have HDV:=Z KZ;have Xo:=Z (iC wx [.int .i64 u.ld,.int .i64 u.n,.int .i64 u.m,.bool u.va,.string u.name,.string u.gc,.slice ua u.li.length uc,.slice ma dm.length mc] 41);clear R9 O2 qd Fy hDx KZ Q2;go_wp2_with (at_builtin;refine qF rfl _ _ rfl base E _ w rfl (KY.1.below (an wx _)) [{gt:=u,lw:=dm}] ⟨wx.heap.size,0,none⟩ _ _ rfl (HDV.1.move (λb hb=>⟨hb,(an wx _).block b (KY.1.lo b hb)⟩)) Xo.1 (G9 Xc) (by simp;omega) ?_);exact M8
 |false=>
  have R3:dm=[]:=by have:=Xl.1;rw[hbu]at this;simpa using this
  subst R3;have dP:=bS;have Xm:=Z VZ;have R5:=Z (show RM E W [] (.slice none 0 0)from .inl ⟨rfl,none,0,rfl,λ_=>rfl⟩);have j7:W.heap.size+2<=w1.heap.size:=M
  clear VZ Q1 adH h31;have O1:=jQh (aj dP.1 H11.1 O0);have e3:=jQh (aj dP.1 H3.1 D7);obtain⟨q0,q1,q2,q3,q4,q5,q6,q7⟩:=nH Xm.1;have sr:=Z (HO.1.below dP.1);have wX:=Z (HW.1.below dP.1);have It:B11<w1.heap.size:=M
  have R6:B3<w1.heap.size:=M
  have yW:base<=w1.heap.size:=M
  have Ai:=Z (aj dP.1 H11.1 O0);have Xn:=Z (aj dP.1 H3.1 D7);have jn:=Z (show∀(b:Nat) (c:Array Value) (t:TypeId),w1.heap[b]?=some (.cells c t (0,0))->t≠25->(Value.slice oa out.length oc).ownBlock≠some b from by
   intro b c t hb ht e;obtain⟨_,CL,_⟩:=sr.1;rcases CL.2 with⟨e2,_⟩|⟨g,cap,cur,e2,_,hg,_⟩
   .exact M190
   .rw[e2]at e;simp[Value.ownBlock]at e;rw[e,hb]at hg;simp at hg;exact ht hg.2)
  have HNW:=Z (show∀(b:Nat) (c:Array Value) (t:TypeId),w1.heap[b]?=some (.cells c t (0,0))->t≠41->(Value.slice wa w.length wc).ownBlock≠some b from by
   intro b c t hb ht e;obtain⟨_,CL,_⟩:=wX.1;rcases CL.2 with⟨e2,_⟩|⟨g,cap,cur,e2,_,hg,_⟩
   .exact M190
   .rw[e2]at e;simp[Value.ownBlock]at e;rw[e,hb]at hg;simp at hg;exact ht hg.2)
  have na:=Z (show∀_:Unit,some B11≠(Value.slice oa out.length oc).ownBlock from λ_ e=>jn.1 _ _ _ Ai.1 i5 e.symm)
  go_upto_region 4 with fail
  go_cut [] (λwx=>qC E base w1 wx B11 (.slice oa out.length oc) (out++[.mk 11 w.length 0 false es es []]))
  case first=>
   have KX:=Z (λ(O:World)=>iC O [.int .i64 0,.int .i64 0,.int .i64 0,.bool false,.string es,.string es,.slice none 0 0] 25)
   go_region_law (first
    |(
     refine gC rfl (.tmp 12) (.tmp 17) rfl base E _ out (by simp[Act.eval,Act.put]) (sr.1.below (by first|exact(an w1 _).drew|exact an w1 _)) [Ir] ⟨w1.heap.size,0,none⟩ 1 _ (by simp[Act.eval,Act.put]) (RV.single (ia.2 ⟨none,0,rfl,λ_=>rfl⟩)) (KX.1 w1) (G9 mY) (by simp;omega) ?_;intro v7 w7 bF uA uU;obtain⟨g7,ox,za,zc,adI,rfl,adJ,qE,z0,z1,z2,z3,z4,z5,z6⟩:=bF.last;have hf7:=cd qE;have oz:=(uA.block B11 (by simp;omega) (na.1 ())).trans (aq Ai.1);have adK:=jQh oz;have adL:=cd oz;have bk:B11≠g7:=by intro e;rw[e,qE]at oz;simp at oz
     have adM:g7≠B11:=λe=>bk e.symm;obtain⟨Iu,lY,R7⟩:=Z3 bF uA oz;have RR:=Z (show g7<w1.heap.size->(Value.slice oa out.length oc).ownBlock=some g7 from λaM=>by
      obtain e|e:=uU
      .exact e.symm
      .simp[Value.ownBlock]at e;omega)
     clear bF uA uU qE oz))
   all_goals(go_wp21;go_meet;exact uS Iu.1 lY.1 R7.1 bk OZ It RR.1 (by first|exact .inl (by with_reducible rfl)|exact .inr (by with_reducible rfl)))
  case rest=>
   obtain⟨wx,R8⟩:∃wx,wx=wc:=⟨wc,rfl⟩;subst R8;obtain⟨oa',oc',qd,R9,O2,kos,ktp,aba,kz⟩:=hcut;have bk:B3≠B11:=by intro e;have:=Ai.1;rw[<-e,Xn.1]at this;simp at this
   have Fy:=(O2 B3 R6 bk (jn.1 _ _ _ Xn.1 i5)).trans Xn.1;have hBD:W.heap.size+1≠B11:=M
   have hDx:=(O2 (W.heap.size+1) M hBD (jn.1 _ _ _ Xm.1 i5)).trans Xm.1;have V0:S5 W wx->True:=λ_=>trivial;have HEX:=Z (show∀b,E b->wx.heap[b]?=w1.heap[b]? from λb hb=>O2 b (sr.1.lo b hb) (λe=>OZ (e▸hb)) (λe=>sr.1.av b hb e.symm));have KY:=Z (show gv E base wx w (.slice wa w.length wc)from wX.1.cR kz (λg hg=>by
    obtain⟨_,CL,_⟩:=wX.1;rcases CL.2 with⟨e2,_⟩|⟨g',cap,cur,e2,_,nG,_⟩
    .rw[e2]at hg;simp[Value.ownBlock]at hg
    .rw[e2]at hg;simp[Value.ownBlock]at hg;subst hg;exact O2 g' (jQ2 nG) (by intro e;have:=Ai.1;rw[<-e,nG]at this;simp at this) (jn.1 _ _ _ nG i5)) HEX.1)
   obtain⟨Sa,KFR,K11,abb⟩:=Z4 R9 O2 qd Fy;have e3x:=jQh Fy;have agL:=cd Fy;obtain⟨p0,p1,p2,p3,p4,p5,p6,p7⟩:=nH hDx;have Q2:au E E W wx:=λb hb=>⟨hb,(HEX.1 b hb).trans (dP.1.block b (HO.1.lo b hb))⟩;have KZ:DV E wx [{gt:=u,lw:=([]:List aH)}] [.int .i64 u.ld,.int .i64 u.n,.int .i64 u.m,.bool u.va,.string u.name,.string u.gc,.slice ua u.li.length uc,.slice none 0 0]:=by
    rw[DV];exact⟨ua,uc,none,0,[],rfl,HSU.1.move Q2,R5.1.move Q2,by rw[DV]⟩
   have HDV:=Z KZ;have Xo:=Z (iC wx [.int .i64 u.ld,.int .i64 u.n,.int .i64 u.m,.bool u.va,.string u.name,.string u.gc,.slice ua u.li.length uc,.slice none 0 0] 41);clear R9 O2 qd Fy hDx KZ Q2;go_wp2_with (at_builtin;refine qF rfl _ _ rfl base E _ w rfl (KY.1.below (an wx _)) [{gt:=u,lw:=([]:List aH)}] ⟨wx.heap.size,0,none⟩ _ _ rfl (HDV.1.move (λb hb=>⟨hb,(an wx _).block b (KY.1.lo b hb)⟩)) Xo.1 (G9 Xc) (by simp;omega) ?_);exact M8
