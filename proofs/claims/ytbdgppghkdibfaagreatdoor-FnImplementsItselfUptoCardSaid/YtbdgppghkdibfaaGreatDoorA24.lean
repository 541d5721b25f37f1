import Derived.Conc.MuLone
import Derived.Deep.DeepCutAuto
import Derived.Deep.RegionHeld
import Derived.Test.YtbdgppghkdibfaaGreatDoorA15
set_option linter.all false
set_option maxHeartbeats 16000000
set_option maxRecDepth 20000
namespace Go.Proofs.YtbdgppghkdibfaaGreatDoor
open Go Go.RowKit Go.Lib S P Tryz
variable{cs:Array Value}{e':Ending}{e e2 s s' t:Y}{Q:Y->Prop}{NS:List ByteArray}{w:List ah}{K N b b' c c' c2 g hp k m md n o ob:Nat}{D D' DI E1:Qx}{a' a2:Option Addr}{GT:Prop}{S S':Sg}{T h2 ty:TypeId}{ac fr p pk pos u v y:Value}{W W' W0 W1 W2 wc:World}
def M115(h:GT:=by
 go_in;go_wp21;refine hc.mono ?_;rintro e O ⟨rfl,rfl⟩;clear hc;exact M12):GT:=h
def M16(h:GT:=by
 have c2:ce W1 b 2 (.bool al):=by simp[World.cell?,I]
 go_wp21;have fJ:=ke.trans (aw I 6 (.iface T x));have U:=fJ.here;simp[Array.setIfInBounds]at U;have fm:=fJ.trans (aw U 2 (.bool false));have h3:=fm.here;simp[Array.setIfInBounds]at h3;generalize(W1.setCell ⟨b,6,none⟩ (.iface T x)).setCell ⟨b,2,none⟩ (.bool false)=W3 at fm h3⊢;clear lk fL f1 f2 c6 c2 I U fJ ke;refine(j5 b 0 7 7 W3 h3 afx).mono ?_;rintro e W4 ⟨rfl,gF⟩;have h4:=gF.here;have UY:=fm.trans gF;have f1:=cd h4 7;have c7:ce W4 b 7 .nilIface:=by simp[World.cell?,h4]
 clear fm gF h3;go_wp21;have kC:=UY.trans (aw h4 7 (.iface T x));have h5:=kC.here;simp[Array.setIfInBounds]at h5;generalize W4.setCell ⟨b,7,none⟩ (.iface T x)=W5 at kC h5⊢;clear f1 c7 h4 UY;refine(j5 b 7 8 15 W5 h5 afy).mono ?_;rintro e W6 ⟨rfl,wT⟩;have h6:=wT.here;have aco:=kC.trans wT;clear kC wT h5;go_wp21;refine leaves_cons (f:=61) (args:=#[.pointer (some ⟨b,3,none⟩)]) i6 (by simp[go_sem]) ?_;refine(vV ⟨b,3,none⟩ .returning W6 (by simp[World.cell?,h6]) (cd h6 3)).mono ?_;rintro e u' w'' ⟨rfl,rfl,hw⟩;replace hw:=hw.symm;subst hw;have hp7:=aco.trans (aw h6 3 (.int .i32 0));exact⟨_,results_none rfl _ _ _,rfl,hp7⟩):GT:=h
def M163(h:GT:=by
 go_in;go_wp21;refine rv hc ?_;clear hc;exact M12):GT:=h
def M164(h:GT:=by
 unfold isIf at hi;rw[k1,hk]at hi;cases hi):GT:=h
def M216(h:GT:=by
 rw[hk]at this;exact this):GT:=h
theorem M44(h:GT:=by
 rw[j.size]at I hb;refine⟨rfl,?_,hb.os.trans j.os,hb.tape.trans j.tape,hb.output.trans j.output,I,(hb.block _ aM).trans j.here,λb dD hn=>(hb.block b dD).trans (j.other b hn)⟩;rw[jQ3,j.size]):GT:=h
def M98(h:GT:=by
 have j:=HP.1;exact⟨rfl,j.size.trans I,j.os.trans U,j.tape.trans h3,j.output.trans h4,j.here,(j.other _ M).trans h6,λb hb hn=>(j.other b M).trans (h7 b hb hn)⟩):GT:=h
def cE(S:Sg)(b:Nat)(s:Y):Sg:=λb'=>if b'=b then some s else S b'
def fG(h:S b=none):EH S (cE S b s):=λb' s' h'=>by
 unfold cE;split
 .rename_i e;subst e;rw[h]at h';cases h'
 .exact h'
def fH(S)(b:Nat)(s):cE S b s b=some s:=by simp[cE]
def dV(h:cE S b s b'=some s'):(b'=b/\s'=s)\/(b'≠b/\S b'=some s'):=by
 unfold cE at h;split at h
 .rename_i e;exact .inl ⟨e,(jQw h).symm⟩
 .rename_i e;exact .inr ⟨e,h⟩
def TmD(S:Sg)(D:Qx)(W:World)(x:Option Tm)(p:Value):Prop:=
 match x with
 |none=>p=.pointer none
 |some tm=>∃b v ty,p=ptr b/\D b/\W.heap[b]?=some (.cells #[.bool tm.dO,v] ty (0,0))/\(ty=158\/ty=237)/\(match tm.jg with|none=>v=.nilIface|some a=>dq S v a)
def Wq(S:Sg)(D:Qx)(W:World)(b:Nat)(s:TS):Prop:=
 ∃ms tl ps qs,D b/\W.heap[b]?=some (.cells #[.bool false,ms,tl,.bool s.comp] 124 (0,0))/\eE D W ps ms/\All2 (λm p=>sK S D W m.name m p) s.lw ps/\
  eE (λb=>D b/\∃cs f,W.heap[b]?=some (.cells cs 156 f)) W qs tl/\All2 (TmD S D W) s.terms qs
def TmD.move(hS:EH S S')(hm:au D D' W W'){x:Option Tm}(h:TmD S D W x p):TmD S' D' W' x p:=by
 cases x with
 |none=>exact h
 |some tm=>
  obtain⟨b,v,ty,I,U,h3,h4,h5⟩:=h;refine⟨b,v,ty,I,(hm b U).1,(hm b U).2.trans h3,h4,?_⟩;cases ht:tm.jg with
  |none=>rw[ht]at h5;exact h5
  |some a=>rw[ht]at h5;exact dq.mono hS h5
def Wq.move(hS:EH S S')(hm:au D D' W W'){s:TS}(h:Wq S D W b s):Wq S' D' W' b s:=by
 obtain⟨ms,tl,ps,qs,I,U,h3,h4,h5,h6⟩:=h;refine⟨ms,tl,ps,qs,(hm b I).1,(hm b I).2.trans U,h3.move hm,h4.imp λm p j=>j.move hS hm,h5.move (λb hb=>⟨⟨(hm b hb.1).1,?_⟩,(hm b hb.1).2⟩),h6.imp λ_ _ j=>j.move hS hm⟩;obtain⟨cs,f,hc⟩:=hb.2;exact⟨cs,f,(hm b hb.1).2.trans hc⟩
def StD(w:List ah)(K:Nat)(S:Sg)(D:Qx)(W:World)(b:Nat)(s:Y):Prop:=
 ∃ts,iJ S D W b s ts/\((ts=.pointer none/\s.ld=10)\/∃sb,ts=ptr sb/\Wq S D W sb ((fs w K).ts s))
def StD.move(hS:EH S S')(hm:au D D' W W')(hb:W'.heap[b]?=W.heap[b]?)(h:StD w K S D W b s):StD w K S' D' W' b s:=by
 obtain⟨ts,I,U⟩:=h;exact⟨ts,I.move hS hm hb,U.imp id λ⟨sb,g1,g2⟩=>⟨sb,g1,g2.move hS hm⟩⟩
structure TH(w:List ah)(K:Nat)(S:Sg)(D:Qx)(W:World):Prop where
 node:∀b s,S b=some s->mZ S D W b s
 lI:∀b s,S b=some s->b<W.heap.size
 mT:Lo D W.heap.size
 rS:∀b s,S b=some s->¬D b
 LR:∀b,D b->∃cs t f,W.heap[b]?=some (.cells cs t f)
 A9:∀b s,S b=some s->∃cs t,W.heap[b]?=some (.cells cs t (0,0))
 td:jE D W
 st:∀b s,S b=some s->isIf s=true->StD w K S D W b s
def TH.cR(h:TH w K S D W)(hz:W.heap.size<=W'.heap.size)(hS:∀b s,S b=some s->W'.heap[b]?=W.heap[b]?)(hD:∀b,D b->W'.heap[b]?=W.heap[b]?):TH w K S D W':=by
 have hm:au D D W W':=λb hb=>⟨hb,hD b hb⟩;exact⟨λb s hs=>(h.node b s hs).move (λ_ _ h=>h) hm (.inl (hS b s hs)),λb s hs=>jQb (h.lI b s hs) hz,h.mT.mono hz,h.rS,λb hd=>by obtain⟨cs,t,f,hc⟩:=h.LR b hd;exact⟨cs,t,f,(hD b hd).trans hc⟩,
  λb s hs=>by obtain⟨cs,t,hc⟩:=h.A9 b s hs;exact⟨cs,t,(hS b s hs).trans hc⟩,h.td.move hm,λb s hs hi=>(h.st b s hs hi).move (λ_ _ h=>h) hm (hS b s hs)⟩
theorem TH.lW(h:TH w K S D W)(P:Qx)(hP:∀b,P b->b<W.heap.size/\S b=none/\∃cs t f,W.heap[b]?=some (.cells cs t f)):TH w K S (λb=>D b\/P b) W:=by
 have hm:au D (λb=>D b\/P b) W W:=λb hb=>⟨.inl hb,rfl⟩;refine⟨λb s hs=>(h.node b s hs).move (λ_ _ h=>h) hm (.inl rfl),h.lI,λb hb=>hb.elim (h.mT b) λhb=>(hP b hb).1,λb s hs hb=>hb.elim (h.rS b s hs) λhb=>absurd hs (by rw[(hP b hb).2.1];simp),λb hb=>hb.elim (h.LR b) λhb=>(hP b hb).2.2,h.A9,h.td.move hm,λb s hs hi=>(h.st b s hs hi).move (λ_ _ h=>h) hm rfl⟩
def TH.add(h:TH w K S D W)(hb:S b=none)(hd:¬D b)(aM:b<W.heap.size)(KU:∃cs t,W.heap[b]?=some (.cells cs t (0,0)))(hn:mZ (cE S b s) D W b s)(cH:isIf s=true->StD w K (cE S b s) D W b s):TH w K (cE S b s) D W:=by
 have hS:=fG (s:=s) hb;have hm:au D D W W:=au.refl;refine⟨λb' s' hs=>?_,λb' s' hs=>?_,h.mT,λb' s' hs=>?_,h.LR,λb' s' hs=>?_,h.td,λb' s' hs hi=>?_⟩
 all_goals rcases dV hs with⟨rfl,rfl⟩|⟨bk,oC⟩
 .exact hn
 .exact(h.node b' s' oC).move hS hm (.inl rfl)
 .exact aM
 .exact h.lI b' s' oC
 .exact hd
 .exact h.rS b' s' oC
 .exact KU
 .exact h.A9 b' s' oC
 .exact cH hi
 .exact(h.st b' s' oC hi).move hS hm rfl
structure Bl where
 bb:Nat
 pk:Nat
 ds:List Nat
 dv:Value
 ev:Value
 cv:Value
variable{B:Bl}
structure BS where
 S:Sg
 D:Nat->Prop
 mv:Value
 ml:List Nat
variable{aO eo fT σ:BS}
def r9(hp:Nat):Y:=.mk 11 hp 0 false es es []
def oA:Y:=.mk 15 0 0 false es es []
def sE:Y:=.mk 16 0 0 false es es []
def Loc(B:Bl)(DI:Qx)(σ:BS)(g:Nat):Prop:=σ.S g=none/\¬σ.D g/\g≠B.bb/\σ.mv.ownBlock≠some g/\¬DI g
structure Bs(NS:List ByteArray)(Q:Y->Prop)(w:List ah)(K:Nat)(B:Bl)(DI:Qx)(σ:BS)(W:World):Prop where
 th:TH w K σ.S σ.D W
 jl:W.heap[B.bb]?=some (.cells #[ptr B.pk,B.dv,B.ev,B.cv,σ.mv] 58 (0,0))
 Rm:IU σ.D W (some ⟨B.pk,0,none⟩)
 row:eE σ.D W (B.ds.map ptr) B.dv
 rn:∀hp b,B.ds[hp]?=some b->σ.S b=some (r9 hp)
 dl:B.ds.length=w.length
 ev:dq σ.S B.ev oA
 cv:dq σ.S B.cv sE
 kJ:σ.S B.bb=none/\¬σ.D B.bb
 own:W.ownsRow 0 33 1 σ.mv σ.ml.length (σ.ml.map ptr)
 gY:∀g,σ.mv.ownBlock=some g->σ.S g=none/\¬σ.D g/\g≠B.bb
 made:∀b∈σ.ml,∃t,σ.S b=some (aG t)/\t.ld=10/\PT NS Q w 0 t
 di:∀b,DI b->b<W.heap.size/\b≠B.bb/\σ.mv.ownBlock≠some b/\σ.S b=none
 ifs:∀b s,σ.S b=some s->isIf s=true->s=aG da\/∃t,s=aG t/\t.ld=10/\PT NS Q w 0 t
structure Gr(B:Bl)(σ aO:BS)(W W':World):Prop where
 os:W'.os=W.os
 tape:W'.tape=W.tape
 output:W'.output=W.output
 size:W.heap.size<=W'.heap.size
 block:∀b,b<W.heap.size->b≠B.bb->σ.mv.ownBlock≠some b->W'.heap[b]?=W.heap[b]?
 sle:EH σ.S aO.S
 uF:∀b s,aO.S b=some s->σ.S b=some s\/W.heap.size<=b
 xQ:∀b s,aO.S b=some s->cI s->σ.S b=some s
 Jo:∀b,σ.D b->aO.D b
 Jp:∀b,aO.D b->σ.D b\/W.heap.size<=b
 MQ:aO.mv.ownBlock=σ.mv.ownBlock\/∃g,aO.mv.ownBlock=some g/\W.heap.size<=g
def Gr.refl(σ W):Gr B σ σ W W:=⟨rfl,rfl,rfl,jQ0 _,λ_ _ _ _=>rfl,λ_ _ h=>h,λ_ _ h=>.inl h,λ_ _ h _=>h,λ_ h=>h,λ_ h=>.inl h,.inl rfl⟩
def Gr.trans(h:Gr B σ aO W W')(h':Gr B aO fT W' W2):Gr B σ fT W W2:=by
 have hz:=h.size;refine⟨h'.os.trans h.os,h'.tape.trans h.tape,h'.output.trans h.output,jQd h.size h'.size,λb hb hn ho=>?_,λb s hs=>h'.sle b s (h.sle b s hs),λb s hs=>?_,λb s hs hi=>h.xQ b s (h'.xQ b s hs hi) hi,λb hd=>h'.Jo b (h.Jo b hd),λb hd=>?_,?_⟩
 .refine(h'.block b M hn (λe=>?_)).trans (h.block b hb hn ho);obtain e'|⟨g,e',hg⟩:=h.MQ
  .exact ho (e'.symm.trans e)
  .rw[e']at e;cases e;omega
 .rcases h'.uF b s hs with hs|hs
  .exact h.uF b s hs
  .exact .inr M
 .rcases h'.Jp b hd with hd|hd
  .exact h.Jp b hd
  .exact .inr M
 .obtain e|⟨g,e,hg⟩:=h'.MQ
  .rw[e];exact h.MQ
  .exact .inr ⟨g,e,M⟩
def Gr.of(Ao:W'.os=W.os)(BH:W'.tape=W.tape)(DC:W'.output=W.output)(hz:W.heap.size<=W'.heap.size)(hb:∀b,b<W.heap.size->W'.heap[b]?=W.heap[b]?):Gr B σ σ W W':=
 ⟨Ao,BH,DC,hz,λb h _ _=>hb b h,λ_ _ h=>h,λ_ _ h=>.inl h,λ_ _ h _=>h,λ_ h=>h,λ_ h=>.inl h,.inl rfl⟩
def Gr.below(h:S5 W W'):Gr B σ σ W W':=Gr.of h.os h.tape h.output h.size h.block
def Loc.gr(h:Loc B DI σ g)(hg:g<W.heap.size)(hr:Gr B σ aO W W'):Loc B DI aO g:=by
 refine⟨?_,λhd=>?_,h.2.2.1,λe=>?_,h.2.2.2.2⟩
 .cases hs:aO.S g with
  |none=>rfl
  |some s=>
   rcases hr.uF g s hs with h'|h'
   .rw[h.1]at h';cases h'
   .omega
 .rcases hr.Jp g hd with h'|h'
  .exact h.2.1 h'
  .omega
 .obtain e'|⟨g',e',nG⟩:=hr.MQ
  .exact h.2.2.2.1 (e'.symm.trans e)
  .rw[e']at e;cases e;omega
def Loc.same(h:Loc B DI σ g)(hg:g<W.heap.size)(hr:Gr B σ aO W W'):W'.heap[g]?=W.heap[g]?:=hr.block g hg h.2.2.1 h.2.2.2.1
def Bs.lt(h:Bs NS Q w K B DI σ W):B.bb<W.heap.size/\∀g,σ.mv.ownBlock=some g->g<W.heap.size:=by
 refine⟨jQ2 h.jl,λg hg=>?_⟩;rcases h.own.2 with⟨e,_⟩|⟨g',cap,cur,e,k1,k2,k3⟩
 .rw[e]at hg;simp[Value.ownBlock]at hg
 .rw[e]at hg;simp[Value.ownBlock]at hg;subst hg;exact jQ2 k2
def Bs.loc(h:Bs NS Q w K B DI σ W)(hg:W.heap.size<=g):Loc B DI σ g:=by
 refine⟨?_,λhd=>?_,λe=>?_,λe=>?_,λhd=>?_⟩
 .cases hs:σ.S g with
  |none=>rfl
  |some s=>have:=h.th.lI g s hs;omega
 .have:=h.th.mT g hd;omega
 .subst e;have:=h.lt.1;omega
 .have:=h.lt.2 g e;omega
 .have:=(h.di g hd).1;omega
def Bs.step(h:Bs NS Q w K B DI σ W)(hz:W.heap.size<=W'.heap.size)(hb:∀b,b<W.heap.size->¬Loc B DI σ b->W'.heap[b]?=W.heap[b]?):Bs NS Q w K B DI σ W':=by
 have hS:∀b s,σ.S b=some s->W'.heap[b]?=W.heap[b]?:=λb s hs=>hb b (h.th.lI b s hs) λhl=>by rw[hl.1]at hs;cases hs
 have hD:∀b,σ.D b->W'.heap[b]?=W.heap[b]?:=λb hd=>hb b (h.th.mT b hd) λhl=>hl.2.1 hd;have hm:au σ.D σ.D W W':=λb hb=>⟨hb,hD b hb⟩;refine⟨h.th.cR hz hS hD,(hb B.bb h.lt.1 λhl=>hl.2.2.1 rfl).trans h.jl,h.Rm.move hm,h.row.move hm,h.rn,h.dl,h.ev,h.cv,h.kJ,?_,h.gY,h.made,λb hd=>⟨jQb (h.di b hd).1 hz,(h.di b hd).2⟩,h.ifs⟩;refine⟨h.own.1,h.own.2.imp id λ⟨g,cap,cur,e,k1,k2,k3⟩=>⟨g,cap,cur,e,k1,(hb g (jQ2 k2) λhl=>hl.2.2.2.1 (by rw[e];simp[Value.ownBlock])).trans k2,k3⟩⟩
def Bs.below(h:Bs NS Q w K B DI σ W)(hb:S5 W W'):Bs NS Q w K B DI σ W':=h.step hb.size λb hl _=>hb.block b hl
def Bs.C0(h:Bs NS Q w K B DI σ W)(hr:Gr B σ aO W W'):au DI DI W W':=λb hb=>⟨hb,hr.block b (h.di b hb).1 (h.di b hb).2.1 (h.di b hb).2.2.1⟩
theorem Bs.lW(h:Bs NS Q w K B DI σ W)(P:Qx)(hP:∀b,P b->Loc B DI σ b/\∃cs t f,W.heap[b]?=some (.cells cs t f)):Bs NS Q w K B DI {σ with D:=λb=>σ.D b\/P b} W:=by
 have hm:au σ.D (λb=>σ.D b\/P b) W W:=λb hb=>⟨.inl hb,rfl⟩;refine⟨h.th.lW P λb hb=>?_,h.jl,h.Rm.move hm,h.row.move hm,h.rn,h.dl,h.ev,h.cv,⟨h.kJ.1,λhd=>hd.elim h.kJ.2 λj=>(hP _ j).1.2.2.1 rfl⟩,h.own,λg hg=>⟨(h.gY g hg).1,λhd=>hd.elim (h.gY g hg).2.1 λj=>(hP _ j).1.2.2.2.1 hg,(h.gY g hg).2.2⟩,h.made,h.di,h.ifs⟩;obtain⟨hl,cs,t,f,hc⟩:=hP b hb;exact⟨jQ2 hc,hl.1,cs,t,f,hc⟩
def Bs.add(h:Bs NS Q w K B DI σ W)(hl:Loc B DI σ b){t:TypeId}(hc:W.heap[b]?=some (.cells cs t (0,0)))(hn:mZ (cE σ.S b s) σ.D W b s)(cH:isIf s=true->StD w K (cE σ.S b s) σ.D W b s/\(s=aG da\/∃t,s=aG t/\t.ld=10/\PT NS Q w 0 t)):
 Bs NS Q w K B DI {σ with S:=cE σ.S b s} W:=by
 have hS:=fG (s:=s) hl.1;have fp:∀g,g≠b->σ.S g=none->cE σ.S b s g=none:=λg hg h=>by unfold cE;rw[jQ4 hg];exact h
 exact⟨h.th.add hl.1 hl.2.1 (jQ2 hc) ⟨cs,t,hc⟩ hn λhi=>(cH hi).1,h.jl,h.Rm,h.row,λhp d hd=>hS _ _ (h.rn hp d hd),h.dl,h.ev.mono hS,h.cv.mono hS,⟨fp _ (λe=>hl.2.2.1 e.symm) h.kJ.1,h.kJ.2⟩,h.own,
  λg hg=>⟨fp g (λe=>hl.2.2.2.1 (e▸hg)) (h.gY g hg).1,(h.gY g hg).2⟩,λd hd=>by obtain⟨t,I,U⟩:=h.made d hd;exact⟨t,hS _ _ I,U⟩,λd hd=>⟨(h.di d hd).1,(h.di d hd).2.1,(h.di d hd).2.2.1,fp d (λe=>hl.2.2.2.2 (e▸hd)) (h.di d hd).2.2.2⟩,λb' s' hs hi=>(by
  rcases dV hs with⟨_,rfl⟩|⟨_,hs⟩
  .exact(cH hi).2
  .exact h.ifs b' s' hs hi)⟩
structure Md(NS:List ByteArray)(Q:Y->Prop)(w:List ah)(K:Nat)(B:Bl)(DI:Qx)(eo:BS)(W0:World)(n:Nat)(σ:BS)(W:World):Prop where
 bs:Bs NS Q w K B DI σ W
 gr:Gr B eo σ W0 W
 len:σ.ml.length<=eo.ml.length+n
def dC(NS:List ByteArray)(Q:Y->Prop)(w:List ah)(K:Nat)(B:Bl)(DI:Qx)(eo:BS)(W0:World)(n:Nat)(P:Value->BS->World->Prop)(e:Ending)(W':World):Prop:=
 ∃v aO,e=.returned v/\Md NS Q w K B DI eo W0 n aO W'/\P v aO W'
def Md.start(h:Bs NS Q w K B DI σ W):Md NS Q w K B DI σ W 0 σ W:=⟨h,Gr.refl _ _,jQ0 _⟩
def Md.more(h:Md NS Q w K B DI eo W0 n σ W)(hn:n<=m):Md NS Q w K B DI eo W0 m σ W:=⟨h.bs,h.gr,V5 h.len⟩
def Md.trans(h:Md NS Q w K B DI eo W0 n σ W)(h':Md NS Q w K B DI σ W m aO W'):Md NS Q w K B DI eo W0 (n+m) aO W':=⟨h'.bs,h.gr.trans h'.gr,V6 h.len h'.len⟩
def Md.below(h:Md NS Q w K B DI eo W0 n σ W)(hb:S5 W W'):Md NS Q w K B DI eo W0 n σ W':=⟨h.bs.below hb,h.gr.trans (Gr.below hb),h.len⟩
def Md.step(h:Md NS Q w K B DI eo W0 n σ W)(Ao:W'.os=W.os)(BH:W'.tape=W.tape)(DC:W'.output=W.output)(hz:W.heap.size<=W'.heap.size)(hb:∀b,b<W.heap.size->¬(Loc B DI σ b/\W0.heap.size<=b)->W'.heap[b]?=W.heap[b]?):Md NS Q w K B DI eo W0 n σ W':=by
 refine⟨h.bs.step hz λb hl hn=>hb b hl λh'=>hn h'.1,?_,h.len⟩;have lA:=h.gr.size;exact⟨Ao.trans h.gr.os,BH.trans h.gr.tape,DC.trans h.gr.output,jQd lA hz,λb hl hn ho=>(hb b M λh'=>M).trans (h.gr.block b hl hn ho),h.gr.sle,h.gr.uF,h.gr.xQ,h.gr.Jo,h.gr.Jp,h.gr.MQ⟩
def Md.ng(h:Md NS Q w K B DI eo W0 n σ W)(j:iN E1 W W')(hE:∀b,E1 b->Loc B DI σ b/\W0.heap.size<=b):Md NS Q w K B DI eo W0 n σ W':=
 h.step j.os j.tape j.output j.size λb hl hn=>j.block b hl λhe=>hn (hE b he)
def Md.put{bx:Nat}{t:TypeId}(h:Md NS Q w K B DI eo W0 n σ W)(j:kT bx cs t W W')(hl:Loc B DI σ bx)(hz:W0.heap.size<=bx):Md NS Q w K B DI eo W0 n σ W':=
 h.step j.os j.tape j.output (jQz j.size.symm) λb _ hn=>j.other b λe=>hn (e▸⟨hl,hz⟩)
theorem Md.lW(h:Md NS Q w K B DI eo W0 n σ W)(P:Qx)(hP:∀b,P b->(Loc B DI σ b/\W0.heap.size<=b)/\∃cs t f,W.heap[b]?=some (.cells cs t f)):Md NS Q w K B DI eo W0 n {σ with D:=λb=>σ.D b\/P b} W:=
 ⟨h.bs.lW P λb hb=>⟨(hP b hb).1.1,(hP b hb).2⟩,⟨h.gr.os,h.gr.tape,h.gr.output,h.gr.size,h.gr.block,h.gr.sle,h.gr.uF,h.gr.xQ,λb hb=>.inl (h.gr.Jo b hb),λb hb=>hb.elim (h.gr.Jp b) λhb=>.inr (hP b hb).1.2,h.gr.MQ⟩,h.len⟩
def Md.add(h:Md NS Q w K B DI eo W0 n σ W)(hl:Loc B DI σ b)(hz:W0.heap.size<=b){t:TypeId}(hc:W.heap[b]?=some (.cells cs t (0,0)))(dU:¬cI s)(hn:mZ (cE σ.S b s) σ.D W b s)(cH:isIf s=true->StD w K (cE σ.S b s) σ.D W b s/\(s=aG da\/∃t,s=aG t/\t.ld=10/\PT NS Q w 0 t)):
 Md NS Q w K B DI eo W0 n {σ with S:=cE σ.S b s} W:=
 ⟨h.bs.add hl hc hn cH,⟨h.gr.os,h.gr.tape,h.gr.output,h.gr.size,h.gr.block,λb' s' hs=>fG hl.1 b' s' (h.gr.sle b' s' hs),λb' s' hs=>by
  rcases dV hs with⟨rfl,rfl⟩|⟨_,hs⟩
  .exact .inr hz
  .exact h.gr.uF b' s' hs,λb' s' hs hi=>by
  rcases dV hs with⟨rfl,rfl⟩|⟨_,hs⟩
  .exact absurd hi dU
  .exact h.gr.xQ b' s' hs hi,h.gr.Jo,h.gr.Jp,h.gr.MQ⟩,h.len⟩
def Md.new(h:Md NS Q w K B DI eo W0 n σ W){t:TypeId}(dU:¬cI s)(hn:mZ (cE σ.S W.heap.size s) σ.D (W.alloc (.cells cs t)) W.heap.size s)(cH:isIf s=true->StD w K (cE σ.S W.heap.size s) σ.D (W.alloc (.cells cs t)) W.heap.size s/\(s=aG da\/∃t,s=aG t/\t.ld=10/\PT NS Q w 0 t)):
 Md NS Q w K B DI eo W0 n {σ with S:=cE σ.S W.heap.size s} (W.alloc (.cells cs t)):=
 (h.below (an W _)).add (h.bs.loc (jQ0 _)) h.gr.size (ak W _) dU hn cH
def qh(W:World)(cs:Array Value)(t:TypeId)(e:Ending)(W':World):Prop:=e=.returned (ptr W.heap.size)/\W'=W.alloc (.cells cs t)
def AO(T:TypeId)(x W):Calls prog 65 #[.iface T x] W (qh W #[.iface T x] 196):=M85
def oF(T:TypeId)(x W):Calls prog 66 #[.iface T x] W (qh W #[.iface T x] 149):=M85
def AG(T:TypeId)(x)(n:Int)(W):Calls prog 64 #[.iface T x,.int .i64 n] W (qh W #[.int .i64 n,.iface T x] 194):=M85
def Dl(T:TypeId)(x)(n:Int)(W):Calls prog 68 #[.int .i64 n,.iface T x] W (qh W #[.int .i64 n,.iface T x] 200):=M85
def Gh(T h2:TypeId)(x y W):Calls prog 67 #[.iface T x,.iface h2 y] W (qh W #[.iface T x,.iface h2 y] 198):=M85
def kR(t:Bool)(T:TypeId)(x W):Calls prog 119 #[.bool t,.iface T x] W (qh W #[.bool t,.iface T x] 237):=M85
def xP(p n W):Calls prog 23 #[.string p,.string n] W (qh W #[.string p,.string n] 85):=M85
def jS(p:Int)(q:Option Addr)(n W):Calls prog 26 #[.int .i64 p,.pointer q,.string n,.nilIface] W (qh W #[.int .i64 p,.pointer q,.string n,.nilIface] 119):=M85
def iB(k p:Int)(q:Option Addr)(n)(T:TypeId)(x W):Calls prog 53 #[.int .u8 k,.int .i64 p,.pointer q,.string n,.iface T x] W (qh W #[.int .i64 p,.pointer q,.string n,.iface T x,.int .u8 k,.bool false] 164):=M85
def tf(W):Calls prog 163 #[.pointer none] W (qh W #[.pointer none,.slice none 0 0,.slice none 0 0,.pointer none,.bool false,.bool false,.pointer none] 104):=M85
def rB(a:Option Addr)(n c:Nat)(W):Calls prog 120 #[.slice a (n+1) c] W (qh W #[.slice a (n+1) c] 236):=M85
def qx(a:Option Addr)(n c:Nat)(W):Calls prog 55 #[.slice a (n+1) c] W (qh W #[.slice a (n+1) c] 171):=M85
def kM(p:Int)(q:Option Addr)(n)(sb:Nat)(W):Calls prog 56 #[.int .i64 p,.pointer q,.string n,ptr sb] W (qh W #[.int .i64 p,.pointer q,.string n,.iface 92 (ptr sb),.bool false,.bool false] 173):=M85
def Fj(a:Option Addr)(c:Nat)(W):Calls prog 55 #[.slice a 0 c] W (dL W (.pointer none)):=M85
def Ae(p:Int)(q:Option Addr)(n)(T:TypeId)(x W):Calls prog 117 #[.int .i64 p,.pointer q,.string n,.iface T x] W (qh W #[.int .i64 p,.pointer q,.string n,.iface T x,.int .u8 4,.bool false] 164):=by
 have hc:=iB 4 p q n T x W;exact M115
def sW(p:Int)(q:Option Addr)(n)(T:TypeId)(x W):Calls prog 74 #[.int .i64 p,.pointer q,.string n,.iface T x] W (qh W #[.int .i64 p,.pointer q,.string n,.iface T x,.int .u8 1,.bool false] 164):=by
 have hc:=iB 1 p q n T x W;exact M115
def BG(p:Int)(q:Option Addr)(n)(T:TypeId)(x W):Calls prog 115 #[.int .i64 p,.pointer q,.string n,.iface T x,.bool false] W (qh W #[.int .i64 p,.pointer q,.string n,.iface T x,.int .u8 6,.bool false] 164):=by
 have hc:=iB 6 p q n T x W;exact M115
def zb(n:Int)(h0:0<=n)(h3:n<3)(W):Calls prog 69 #[.int .i64 n] W (dL W (.int .i64 n)):=by
 have hn:n=0\/n=1\/n=2:=M
 obtain rfl|rfl|rfl:=hn
 all_goals
  clear h0 h3;go_in;go_wp2;go_ret;exact⟨rfl,rfl⟩
abbrev abI:Go.Conc.Locks.MuLink:={lock:=60,unlock:=61,ilock:=110,iunlock:=111,lockSlow:=153,unlockSlow:=156,disable:=149,enable:=151,acquire:=152,relMerge:=154,cas32:=150,add32:=155,tMutex:=113,tIMutex:=111,tPMutex:=190,tPIMutex:=241,tPI32:=243,tUP:=245,tNoCopy:=108,tU32:=109}
def aaj:Go.Conc.Locks.MuLib prog abI:=
 ⟨func60,func61,func110,func111,func149,func151,func152,func154,func150,func155,
  underlying111,Tryz.runUnderlying111,sizeOf111,isAgg111,zeroValue111,
  underlying113,Tryz.runUnderlying113,sizeOf113,isAgg113,zeroValue113,
  underlying190,Tryz.runUnderlying190,sizeOf190,isAgg190,zeroValue190,
  underlying241,Tryz.runUnderlying241,sizeOf241,isAgg241,zeroValue241,
  underlying243,Tryz.runUnderlying243,sizeOf243,isAgg243,zeroValue243,
  underlying245,Tryz.runUnderlying245,sizeOf245,isAgg245,zeroValue245,
  underlying108,Tryz.runUnderlying108,sizeOf108,isAgg108,zeroValue108,
  underlying21,Tryz.runUnderlying21,sizeOf21,isAgg21,zeroValue21,g9⟩
def BJ(a:Addr)(w)(hc:w.cell? a=some (.int .i32 0))(hz:w.frozen? a=false):Calls prog 60 #[.pointer (some a)] w λe O=>e=.returned (.tuple #[])/\O=w.setCell a (.int .i32 1):=Go.MuLone.lock_free aaj a w hc hz
def vV(a:Addr)(u:FrameMode)(w)(hc:w.cell? a=some (.int .i32 1))(hz:w.frozen? a=false):CallsD prog 61 #[.pointer (some a)] u w λe u' O=>u'=u/\(e=.returned (.tuple #[])/\O=w.setCell a (.int .i32 0)):=Go.MuLone.unlock_deferred aaj a u w hc hz
def aeH(a:Addr)(x y s:Int)(w)(hc:w.cell? a=some (.int .u32 x))(hz:w.frozen? a=false)(hs:(Op.intBits .or .u32 x y).run prog w=.ok (.int .u32 s) w):
 (callFunc 112 #[.pointer (some a),.int .u32 y]).run prog w=.ok (.value (.int .u32 x)) (w.setCell a (.int .u32 s)):=by
 rw[run_callFunc_extern func112 g9 g9 g9 (e:=Extern.Atomic.update (Op.intBits .or) .u32 false) g9]
 change (Sem.run prog (do
  let a' <-asAddr (.pointer (some a))
  let NT <-Extern.Atomic.read (.int .u32) a'
  let new <-Op.intBits .or .u32 (<-asInt NT) (<-asInt (.int .u32 y))
  store a' new .atomic
  pure (if false=true then new else NT)) w).andThen _=_
 simp[Extern.Atomic.read,asAddr,asInt,asIntOf,hc,hz,hs,run_store prog w a (.int .u32 s) .atomic rfl,Result.andThen]
def Eg(T:TypeId)(x W)(hT:¬T=127):Calls prog 80 #[.iface T x] W (dL W (.iface T x)):=by
 have fp:=λw=>my T x 37 w hT;clear hT;exact M85
def MJ(W):Calls prog 80 #[.nilIface] W (dL W .nilIface):=M85
def yb(T:TypeId)(x W)(hT:¬T=127)(hN:¬T=53):Calls prog 58 #[.iface T x] W (dL W (.pointer none)):=by
 have hc:=Eg T x W hT;have fp:=λw=>uf T x 37 w hN;clear hT hN;go_in;go_wp21;refine hc.mono ?_;exact M188
def MK(W):Calls prog 58 #[.nilIface] W (dL W (.pointer none)):=by
 have hc:=MJ W;go_in;go_wp21;refine hc.mono ?_;exact M188
abbrev yQ(ob:Nat)(al:Bool):Obj:=.cells #[.pointer none,ptr ob,.bool al,.int .i32 0,.int .u32 0,.int .u32 0,.nilIface,.nilIface,.bool false,.slice none 0 0] 115
def Ni(W:World)(ob:Nat)(al:Bool)(pos pk nm:Value)(e:Ending)(W':World):Prop:=
 e=.returned (ptr W.heap.size)/\W'.heap.size=W.heap.size+1/\W'.os=W.os/\W'.tape=W.tape/\W'.output=W.output/\W'.heap[W.heap.size]?=some (yQ ob al)/\W'.heap[ob]?=some (.cells #[pos,pk,nm,.iface 53 (ptr W.heap.size)] 119 (0,0))/\∀b,b<W.heap.size->b≠ob->W'.heap[b]?=W.heap[b]?
theorem qH(ob:Nat)(pos pk nm:Value)(W:World)(h:W.heap[ob]?=some (.cells #[pos,pk,nm,.nilIface] 119 (0,0))):
 Calls prog 52 #[.pointer none,ptr ob,.nilIface,.slice none 0 0] W (Ni W ob false pos pk nm):=by
 have aM:=jQ2 h;have hg:(W.alloc (yQ ob false)).heap[ob]?=some (.cells #[pos,pk,nm,.nilIface] 119 (0,0)):=aq h;have c3:(W.alloc (yQ ob false)).cell? ⟨ob,3,none⟩=some .nilIface:=by simp[World.cell?,hg]
 have fz:=cd hg 3;have bk:ob≠W.heap.size:=M
 go_in;go_wp2;go_ret;have j:=aw h 3 (.iface 53 (ptr W.heap.size));have I:=ak (W.setCell ⟨ob,3,none⟩ (.iface 53 (ptr W.heap.size))) (yQ ob false);have hb:=an (W.setCell ⟨ob,3,none⟩ (.iface 53 (ptr W.heap.size))) (yQ ob false);exact M44
def mK(ob:Nat)(pos pk nm W)(h:W.heap[ob]?=some (.cells #[pos,pk,nm,.nilIface] 119 (0,0))):
 Calls prog 25 #[ptr ob,.nilIface,.slice none 0 0] W (Ni W ob true pos pk nm):=by
 have Xf:=MK W;have hc:=qH ob pos pk nm W h;have aM:=jQ2 h;clear h;go_in;go_wp21;refine rv Xf ?_;go_wp21;refine hc.mono ?_;rintro e O ⟨rfl,I,U,h3,h4,h5,h6,h7⟩;have c2:O.cell? ⟨O.heap.size - 1,2,none⟩=some (.bool false):=by rw[I];simp[World.cell?,h5]
 have H5:=Z h5;rw[show W.heap.size=O.heap.size - 1 by omega]at h5;have fz:=cd h5 2;rw[I,Nat.add_sub_cancel]at c2 fz;clear hc Xf h5;go_wp2;go_ret;have j:=aw H5.1 2 (.bool true);refine⟨rfl,j.size.trans I,j.os.trans U,j.tape.trans h3,j.output.trans h4,j.here,(j.other _ M).trans h6,λb hb hn=>(j.other b M).trans (h7 b hb hn)⟩
def F2(b:Nat)(cs:Array Value)(t:TypeId)(W:World)(e:Ending)(W':World):Prop:=e=.returned (.tuple #[])/\kT b cs t W W'
def j5(b:Nat)(x y s:Int)(W){v0 v1 v2 v3 v4 v6 v7 v8 v9:Value}(h:W.heap[b]?=some (.cells #[v0,v1,v2,v3,v4,.int .u32 x,v6,v7,v8,v9] 115 (0,0)))(hs:∀w,(Op.intBits .or .u32 x y).run prog w=.ok (.int .u32 s) w):
 Calls prog 62 #[ptr b,.int .u32 y] W (F2 b #[v0,v1,v2,v3,v4,.int .u32 s,v6,v7,v8,v9] 115 W):=by
 have hl:=aeH ⟨b,5,none⟩ x y s W (by simp[World.cell?,h]) (cd h 5) (hs W);have j:=Z (aw h 5 (.int .u32 s));clear hs h;go_in;go_wp21;refine jRq (v:=.tuple #[]) (by simp[results,Tryz.results62,go_sem]) rfl ?_;exact⟨rfl,j.1⟩
def afx(w):(Op.intBits .or .u32 0 7).run prog w=.ok (.int .u32 7) w:=g9
def afy(w):(Op.intBits .or .u32 7 8).run prog w=.ok (.int .u32 15) w:=g9
def vd(b ob:Nat)(al:Bool)(T:TypeId)(x ms W)(hT:¬T=127)(hN:¬T=53)(h:W.heap[b]?=some (.cells #[.pointer none,ptr ob,.bool al,.int .i32 0,.int .u32 0,.int .u32 0,.nilIface,.nilIface,.bool false,ms] 115 (0,0))):
 Calls prog 29 #[ptr b,.iface T x] W (F2 b #[.pointer none,ptr ob,.bool false,.int .i32 0,.int .u32 0,.int .u32 15,.iface T x,.iface T x,.bool false,ms] 115 W):=by
 have lk:=yb T x W hT hN;have fL:=BJ ⟨b,3,none⟩ W (by simp[World.cell?,h]) (cd h 3);have ke:=aw h 3 (.int .i32 1);have hx:=Z h;clear hT hN h
 go_enter_defers func29,ntmps29
 go_wp21;refine rv lk ?_;go_wp21;refine rv fL ?_;generalize W.setCell ⟨b,3,none⟩ (.int .i32 1)=W1 at ke⊢;have I:=ke.here;simp only[Array.setIfInBounds]at I;simp at I;have f1:=cd I 6;have f2:=cd I 2;have c6:=G7 6 I
 exact M16
abbrev vF(ob og fr ac:Value):Obj:=.cells #[ob,og,fr,ac] 249
def oO(W:World):Nat->TypeId->Value->TypeId->Value->Prop
 |0,T,x,h2,y=>T≠127/\h2=T/\y=x
 |n+1,T,x,h2,y=>∃b ob og T' x' ac,T=127/\x=ptr b/\W.heap[b]?=some (vF ob og (.iface T' x') ac)/\oO W n T' x' h2 y
def oO.cR:∀{n:Nat} {T h2:TypeId} {x y:Value},(∀(b:Nat) (cs:Array Value) (t:TypeId) (f:Nat×Nat),W.heap[b]?=some (Obj.cells cs t f)->W'.heap[b]?=some (Obj.cells cs t f))->oO W n T x h2 y->oO W' n T x h2 y
 |0,_,_,_,_,_,h=>h
 |n+1,_,_,_,_,hb,⟨b,ob,og,T',x',ac,I,U,h3,h4⟩=>⟨b,ob,og,T',x',ac,I,U,hb _ _ _ _ h3,h4.cR hb⟩
def oO.aaa(ob:Nat)(hb:∀b,b<W.heap.size->b≠ob->W'.heap[b]?=W.heap[b]?)(Nj:∀cs f,W.heap[ob]?≠some (.cells cs 249 f)):∀{n:Nat} {T h2:TypeId} {x y:Value},oO W n T x h2 y->oO W' n T x h2 y
 |0,_,_,_,_,h=>h
 |n+1,_,_,_,_,⟨b,o,og,T',x',ac,I,U,h3,h4⟩=>⟨b,o,og,T',x',ac,I,U,(hb b (jQ2 h3) (λe=>Nj _ _ (e▸h3))).trans h3,h4.aaa ob hb Nj⟩
def UaS(W:World)(h2:TypeId)(y:Value)(gg:Nat)(s3 s4:Value):Prop:=
 (s4=.pointer none/\s3=.iface h2 y)\/∃b ob og T x ac n,s4=ptr b/\W.heap[b]?=some (vF ob og (.iface T x) ac)/\oO W n T x h2 y/\n+1<=gg
def A6(b:Nat)(ob og)(T h2:TypeId)(x y)(n:Nat)(W)(h:W.heap[b]?=some (vF ob og (.iface T x) .nilIface))(ND:oO W n T x h2 y):
 Calls prog 126 #[ptr b] W λe W'=>e=.returned (.iface h2 y)/\kT b #[ob,og,.iface T x,.iface h2 y] 249 W W':=by
 have c3:=G7 3 h
 have hx:=Z h;have HC:=Z ND;clear h ND;go_in;go_wp21;clear c3
 go_loopg [3,4] (n+1) (λgg s3 s4 wr=>UaS W h2 y gg s3 s4/\wr=W)
 case atStart=>exact⟨.inr ⟨b,ob,og,T,x,_,n,rfl,hx.1,HC.1,jQ0 _⟩,rfl⟩
 case round=>
  obtain⟨hu,rfl⟩:=hrel;rcases hu with⟨rfl,rfl⟩|⟨b2,ob2,og2,T2,x2,ac2,n2,rfl,cX,fL,iK⟩
  .have c3:=G7 3 hx.1
   have fz:=cd hx.1 3;have j:=Z (aw hx.1 3 (.iface h2 y));go_wp2;go_ret;exact⟨rfl,j.1⟩
  .have c2:=G7 2 cX
   have dP:=Z cX;clear cX;cases n2 with
   |zero=>
    obtain⟨hT,rfl,rfl⟩:=fL;have fp:=λw=>my h2 y 37 w hT;clear hT;go_wp21;go_roundg 0
    case measure=>omega
    case rel=>exact⟨.inl ⟨rfl,rfl⟩,rfl⟩
   |succ n2=>
    obtain⟨b3,ob3,og3,T3,x3,ac3,rfl,rfl,h3,h4⟩:=fL;go_wp21;go_roundg (n2+1)
    case measure=>omega
    case rel=>exact⟨.inr ⟨b3,ob3,og3,T3,x3,ac3,n2,rfl,h3,h4,jQ0 _⟩,rfl⟩
def NG(W:World)(ob:Nat)(pos pk nm fr ac:Value)(e:Ending)(W':World):Prop:=
 e=.returned (ptr W.heap.size)/\W'.heap.size=W.heap.size+1/\W'.os=W.os/\W'.tape=W.tape/\W'.output=W.output/\W'.heap[W.heap.size]?=some (vF (ptr ob) (ptr W.heap.size) fr ac)/\W'.heap[ob]?=some (.cells #[pos,pk,nm,.iface 127 (ptr W.heap.size)] 119 (0,0))/\∀b,b<W.heap.size->b≠ob->W'.heap[b]?=W.heap[b]?
theorem A7(ob:Nat)(pos pk nm:Value)(T:TypeId)(x:Value)(W:World)(h:W.heap[ob]?=some (.cells #[pos,pk,nm,.nilIface] 119 (0,0))):
 Calls prog 113 #[.pointer none,ptr ob,.iface T x] W (NG W ob pos pk nm (.iface T x) .nilIface):=by
 have aM:=jQ2 h;have hg:(W.alloc (vF (ptr ob) (ptr W.heap.size) (.iface T x) .nilIface)).heap[ob]?=some (.cells #[pos,pk,nm,.nilIface] 119 (0,0)):=aq h;have c3:(W.alloc (vF (ptr ob) (ptr W.heap.size) (.iface T x) .nilIface)).cell? ⟨ob,3,none⟩=some .nilIface:=by simp[World.cell?,hg]
 have fz:=cd hg 3;have bk:ob≠W.heap.size:=M
 go_in;go_wp2;go_ret;have j:=aw h 3 (.iface 127 (ptr W.heap.size));have I:=ak (W.setCell ⟨ob,3,none⟩ (.iface 127 (ptr W.heap.size))) (vF (ptr ob) (ptr W.heap.size) (.iface T x) .nilIface);have hb:=an (W.setCell ⟨ob,3,none⟩ (.iface 127 (ptr W.heap.size))) (vF (ptr ob) (ptr W.heap.size) (.iface T x) .nilIface);exact M44
def Dy(b:Nat)(ob og)(T h2:TypeId)(x y)(n:Nat)(W)(h:W.heap[b]?=some (vF ob og (.iface T x) .nilIface))(ND:oO W n T x h2 y):
 Calls prog 114 #[ptr b] W (F2 b #[ob,og,.iface T x,.iface h2 y] 249 W):=by
 have hc:=A6 b ob og T h2 x y n W h ND;clear h ND;go_in;go_wp21;refine hc.mono ?_;rintro e O ⟨rfl,j⟩;have HP:=Z j;clear hc j;go_wp21;refine jRq (v:=.tuple #[]) (by simp[results,Tryz.results114,go_sem]) rfl ?_;exact⟨rfl,HP.1⟩
def A8(ob:Nat)(pos pk nm)(T h2:TypeId)(x y)(n:Nat)(W)(h:W.heap[ob]?=some (.cells #[pos,pk,nm,.nilIface] 119 (0,0)))(ND:oO W n T x h2 y):
 Calls prog 63 #[ptr ob,.iface T x] W (NG W ob pos pk nm (.iface T x) (.iface h2 y)):=by
 have hc:=A7 ob pos pk nm T x W h;have aM:=jQ2 h;have hx:=Z h;have HC:=Z ND;clear h ND;go_in;go_wp21;refine hc.mono ?_;rintro e O ⟨rfl,I,U,h3,h4,h5,h6,h7⟩;have ND:oO O n T x h2 y:=HC.1.aaa ob (λb hb hn=>h7 b hb hn) (by rw[hx.1];simp);have fL:=Dy W.heap.size (ptr ob) (ptr W.heap.size) T h2 x y n O h5 ND;have HH:=Z (And.intro I (And.intro U (And.intro h3 (And.intro h4 (And.intro h6 h7)))));clear hc I U h3 h4 h5 h6 h7 ND;go_wp21;refine fL.mono ?_;rintro e w2 ⟨rfl,j⟩;have HP:=Z j;clear fL j;go_wp2;go_ret;obtain⟨I,U,h3,h4,h6,h7⟩:=HH.1;exact M98
def VG(k:Int)(W:World)(e:Ending)(W':World):Prop:=∃b info nm,e=.returned (ptr b)/\W.heap.size<=b/\S5 W W'/\W'.heap[b]?=some (.cells #[.int .i64 k,.int .i64 info,.string nm] 167 (0,0))
def allocs:World->List Obj->World
 |w,[]=>w
 |w,o::l=>allocs (w.alloc o) l
def jT:∀(l:List Obj) (w:World),S5 w (allocs w l)
 |[],w=>jQ5 _ _
 |o::l,w=>(an w o).trans ((jT l (w.alloc o)).mono i6)
def eL:∀(l:List Obj) (w:World) (hp:Nat) (o:Obj),l[hp]?=some o->(allocs w l).heap[w.heap.size+hp]?=some o
 |[],w,hp,o,h=>by simp at h
 |o'::l,w,0,o,h=>by
  simp at h;subst h;exact((jT l (w.alloc o')).block _ i6).trans (ak w o')
 |o'::l,w,hp+1,o,h=>by
  have:=eL l (w.alloc o') hp o (G9 h);rw[jQ3]at this;rw[show w.heap.size+(hp+1)=w.heap.size+1+hp by omega];exact this
def agk(W wc:World):Prop:=∃(l:List Obj) (arr:Array Value) (t:TypeId) (f:Nat×Nat),wc=allocs W l/\l[26]?=some (.cells arr t f)/\∀hp:Nat,1<=hp->hp<19->arr[hp]?=some (ptr (W.heap.size+hp))/\∃info nm,l[hp]?=some (.cells #[.int .i64 hp,.int .i64 info,.string nm] 167)
def VH(h:agk W wc)(I:1<=hp)(U:hp<19):wc.cell? ⟨W.heap.size+26,hp,none⟩=some (ptr (W.heap.size+hp))/\VG hp W (.returned (ptr (W.heap.size+hp))) wc:=by
 obtain⟨l,arr,t,f,rfl,ha,hj⟩:=h;obtain⟨k1,info,nm,k2⟩:=hj hp I U;refine⟨?_,W.heap.size+hp,info,nm,rfl,M,jT _ _,eL l W hp _ k2⟩;have:=eL l W 26 _ ha;simp[World.cell?,this,k1]
def Ee(hp:Nat)(I:1<=hp)(U:hp<19)(W):Calls prog 54 #[.int .i64 hp] W (VG hp W):=by
 have hi:(hp:Int)<26:=M
 have hi2:hp<26:=M
 have hi3:0<=(hp:Int):=M
 go_in
 go_upto_region 1 with fail
 go_cut [3] (λv wc=>v=.slice (some ⟨W.heap.size+26,0,none⟩) 26 26/\agk W wc)
 case first=>
  go_wp21
  go_meet
  refine⟨rfl,⟨[_,_,_,_,_,_,_,_,_,_,_,_,_,_,_,_,_,_,_,_,_,_,_,_,_,_,_],_,_,_,rfl,rfl,λhp I U=>?_⟩⟩
  match hp,I,U with
  |1,_,_=>exact⟨rfl,_,_,rfl⟩
  |2,_,_=>exact⟨rfl,_,_,rfl⟩
  |3,_,_=>exact⟨rfl,_,_,rfl⟩
  |4,_,_=>exact⟨rfl,_,_,rfl⟩
  |5,_,_=>exact⟨rfl,_,_,rfl⟩
  |6,_,_=>exact⟨rfl,_,_,rfl⟩
  |7,_,_=>exact⟨rfl,_,_,rfl⟩
  |8,_,_=>exact⟨rfl,_,_,rfl⟩
  |9,_,_=>exact⟨rfl,_,_,rfl⟩
  |10,_,_=>exact⟨rfl,_,_,rfl⟩
  |11,_,_=>exact⟨rfl,_,_,rfl⟩
  |12,_,_=>exact⟨rfl,_,_,rfl⟩
  |13,_,_=>exact⟨rfl,_,_,rfl⟩
  |14,_,_=>exact⟨rfl,_,_,rfl⟩
  |15,_,_=>exact⟨rfl,_,_,rfl⟩
  |16,_,_=>exact⟨rfl,_,_,rfl⟩
  |17,_,_=>exact⟨rfl,_,_,rfl⟩
  |18,_,_=>exact⟨rfl,_,_,rfl⟩
  |n+19,_,h=>omega
 case rest=>
  obtain⟨rfl,hL⟩:=hcut;obtain⟨hc,hR⟩:=VH hL I U;have HR:=Z hR;clear hL hR I U;go_wp2;go_ret;exact HR.1
mutual
def nds:Y->Nat
 |.mk _ _ _ _ _ _ l=>1+ndss l
def ndss:List Y->Nat
 |[]=>0
 |e::l=>nds e+ndss l
end
def Gp(t):1<=nds t:=by obtain⟨k,n,m,va,nm,tg,l⟩:=t;rw[nds];omega
def gq(t):nds t=1+ndss t.li:=by obtain⟨k,n,m,va,nm,tg,l⟩:=t;rw[nds];rfl
def wH:∀{l:List Y} {e:Y},e∈l->nds e<=ndss l
 |a::l,e,h=>by
  rw[ndss];rcases jQn.1 h with rfl|h
  .omega
  .have:=wH h;omega
def wJ:∀(l l':List Y),ndss (l++l')=ndss l+ndss l'
 |[],l'=>by simp[ndss]
 |e::l,l'=>by rw[jRh,ndss,ndss,wJ l l'];omega
def lQ(l)(k:Nat):ndss (l.take k)<=ndss l:=by
 have:=wJ (l.take k) (l.drop k);rw[jRo]at this;omega
def lP{l:List Y}(h:l[k]?=some e):ndss (l.take (k+1))=ndss (l.take k)+nds e:=by
 rw[jRm,h,wJ];simp[ndss]
def D4(h:PT NS Q w md t):∀e∈t.li,PT NS Q w 2 e:=by
 have up:∀{md:Nat} {v f:Bool} {e:Y},md<=2->PL w.length NS Q (λ_=>True) md v f e->PT NS Q w 2 e:=λhm he=>((he.up (A':=λ_=>True) (λ_ _=>trivial)).eS (md':=2) (v':=true) (f':=true) (jQ0 _) (λ_ h=>h) hm id id);cases h with
 |basic a b=>intro e he;simp[Y.li]at he
 |uni a=>intro e he;simp[Y.li]at he
 |named a b c=>intro e he;simp[Y.li]at he
 |al a b I=>intro e he;simp[Y.li]at he;subst he;exact up M I
 |st a b I=>intro e he;exact up M (I e he)
 |@ifc _ _ _ _ m _ _ _ l a b c d e g I U q=>
  intro x H;simp only[Y.li]at H;rw[<-jRo m.toNat l]at H;rcases jQm.1 H with H|H
  .exact up M (I x H)
  .exact up M (U x H)
 |one a b c I=>intro e he;simp[Y.li]at he;subst he;exact up M I
 |mp I U=>intro e he;simp[Y.li]at he;obtain rfl|rfl:=he;exact up M I;exact up M U
 |fn a b c I=>intro e he;exact up M (I e he)
 |ti a I=>intro e he;simp[Y.li]at he;subst he;exact up M I
 |un a b c I=>intro e he;exact up M (I e he)
section
variable(NS:List ByteArray)(Q:Y->Prop)(w:List ah)(K:Nat)(B:Bl)(DI:Qx)
def dR(N:Nat):Prop:=∀(t:Y) (σ:BS) (W:World) (v:Value),nds t<=N->PT NS Q w 2 t->Bs NS Q w K B DI σ W->RT DI W t v->σ.ml.length+nds t<=1099511627776->
 Calls prog 30 #[ptr B.bb,v] W (dC NS Q w K B DI σ W (nds t) λu aO _=>dq aO.S u t)
end
def Md.fin(h:Md NS Q w K B DI eo W0 n σ W)(dA:t.ld≠11)(mM:t.ld≠14)(ka:t.ld≠15)(ir:t.ld≠16)(cP:isIf t=false)(hn:mZ (cE σ.S W.heap.size (aG t)) σ.D (W.alloc (.cells cs ty)) W.heap.size (aG t)):
 dC NS Q w K B DI eo W0 n (λu aO _=>dq aO.S u t) (.returned (.iface (tid t.ld) (ptr W.heap.size))) (W.alloc (.cells cs ty)):=by
 have hk:(aG t).ld=t.ld:=aI mM;refine⟨_,_,rfl,h.new (s:=aG t) (λhi=>?_) hn (λhi=>?_),⟨_,rfl,fH _ _ _⟩⟩
 .unfold cI at hi;rw[hk]at hi;omega
 .unfold isIf at hi cP;rw[hk]at hi;rw[hi]at cP;cases cP
def lh(h:S b=none)(hv:dq S v t):dq (cE S b s) v t:=hv.mono (fG h)
def Md.sn(h:Md NS Q w K B DI eo W0 n σ W):σ.S W.heap.size=none:=(h.bs.loc (jQ0 _)).1
def fa(dA:t.ld≠11)(mM:t.ld≠14)(ka:t.ld≠15)(ir:t.ld≠16):(aG t).ld=t.ld/\(aG t).n=t.n/\(aG t).m=t.m/\(aG t).va=t.va/\(aG t).li=t.li:=by
 rw[aW dA mM ka ir];exact⟨rfl,rfl,rfl,rfl,rfl⟩
def ag2(h:Md NS Q w K B DI eo W0 n σ W)(hk:t.ld=4)(he:t.li=[e])(hv:dq σ.S v e):
 dC NS Q w K B DI eo W0 n (λu aO _=>dq aO.S u t) (.returned (.iface 131 (ptr W.heap.size))) (W.alloc (.cells #[v] 196)):=by
 obtain⟨k1,k2,k3,k4,k5⟩:=fa (t:=t) M M M M;have:=h.fin (t:=t) (cs:=#[v]) (ty:=196) M M M M (by simp[isIf,hk])
  ⟨M,M,M,λ_=>⟨v,e,by rw[k5,he],ak _ _,lh h.sn hv⟩,M,M,M,M,M,M,M⟩
 exact M216
def ad9(h:Md NS Q w K B DI eo W0 n σ W)(hk:t.ld=6)(he:t.li=[e])(hv:dq σ.S v e):
 dC NS Q w K B DI eo W0 n (λu aO _=>dq aO.S u t) (.returned (.iface 133 (ptr W.heap.size))) (W.alloc (.cells #[v] 149)):=by
 obtain⟨k1,k2,k3,k4,k5⟩:=fa (t:=t) M M M M;have:=h.fin (t:=t) (cs:=#[v]) (ty:=149) M M M M (by simp[isIf,hk])
  ⟨M,M,M,M,M,λ_=>⟨v,e,by rw[k5,he],ak _ _,lh h.sn hv⟩,M,M,M,M,M⟩
 exact M216
def agV(h:Md NS Q w K B DI eo W0 n σ W)(hk:t.ld=3)(he:t.li=[e])(hv:dq σ.S v e):
 dC NS Q w K B DI eo W0 n (λu aO _=>dq aO.S u t) (.returned (.iface 129 (ptr W.heap.size))) (W.alloc (.cells #[.int .i64 t.n,v] 194)):=by
 obtain⟨k1,k2,k3,k4,k5⟩:=fa (t:=t) M M M M;have:=h.fin (t:=t) (cs:=#[.int .i64 t.n,v]) (ty:=194) M M M M (by simp[isIf,hk])
  ⟨M,M,λ_=>⟨v,e,by rw[k5,he],by rw[k2];exact ak _ _,lh h.sn hv⟩,M,M,M,M,M,M,M,M⟩
 exact M216
def agW(h:Md NS Q w K B DI eo W0 n σ W)(hk:t.ld=9)(he:t.li=[e])(hv:dq σ.S v e):
 dC NS Q w K B DI eo W0 n (λu aO _=>dq aO.S u t) (.returned (.iface 137 (ptr W.heap.size))) (W.alloc (.cells #[.int .i64 t.n,v] 200)):=by
 obtain⟨k1,k2,k3,k4,k5⟩:=fa (t:=t) M M M M;have:=h.fin (t:=t) (cs:=#[.int .i64 t.n,v]) (ty:=200) M M M M (by simp[isIf,hk])
  ⟨M,M,M,M,M,M,M,M,λ_=>⟨v,e,by rw[k5,he],by rw[k2];exact ak _ _,lh h.sn hv⟩,M,M⟩
 exact M216
def aid(h:Md NS Q w K B DI eo W0 n σ W)(hk:t.ld=8)(he:t.li=[e,e2])(hv:dq σ.S v e)(hu:dq σ.S u e2):
 dC NS Q w K B DI eo W0 n (λu aO _=>dq aO.S u t) (.returned (.iface 135 (ptr W.heap.size))) (W.alloc (.cells #[v,u] 198)):=by
 obtain⟨k1,k2,k3,k4,k5⟩:=fa (t:=t) M M M M;have:=h.fin (t:=t) (cs:=#[v,u]) (ty:=198) M M M M (by simp[isIf,hk])
  ⟨M,M,M,M,M,M,M,λ_=>⟨v,u,e,e2,by rw[k5,he],ak _ _,lh h.sn hv,lh h.sn hu⟩,M,M,M⟩
 exact M216
def Jl{S:Sg}{D:Qx}(hn:∀b s,S b=some s->mZ S D W b s):∀(m:Nat) (t:Y) (T:TypeId) (x:Value),nds t<=m->dq S (.iface T x) t->(t.ld=2->∃e,t.li=[e])->∃k h2 y,oO W k T x h2 y/\dq S (.iface h2 y) (una t)
 |0,t,_,_,hm,_,_=>by have:=Gp t;omega
 |m+1,t,T,x,hm,hv,uB=>by
  obtain⟨b,e1,hs⟩:=id hv;simp at e1;obtain⟨rfl,rfl⟩:=e1;by_cases U:t.ld=2
  .obtain⟨k1,k2,k3,k4,k5⟩:=fa (t:=t) M M M M;obtain⟨ob,og,fr,ac,hb, -,e,he,mW⟩:=(hn b _ hs).2.1 M;obtain⟨bf,rfl,hsf⟩:=id mW;have dN:nds e<=m:=by
    have I:=gq t;rw[<-k5,he]at I;simp[ndss]at I;omega
   obtain⟨k,h2,y,I,Is⟩:=Jl hn m e _ _ dN mW (λh=>by
    have hk':(aG e).ld=2:=by rw[aI M];exact h
    obtain⟨_,_,_,_,_,_,e',oJ,_⟩:=(hn bf _ hsf).2.1 hk';exact⟨e',by rw[<-oJ];exact((fa (t:=e) M M M M).2.2.2.2).symm⟩)
   refine⟨k+1,h2,y,⟨b,ob,og,_,_,ac,by rw[U];rfl,rfl,hb,I⟩,?_⟩;have:una t=una e:=by
    obtain⟨kk,n,m,va,nm,tg,l⟩:=t;simp only[Y.ld]at U;subst U;rw[k5]at he;simp only[Y.li]at he;subst he;rw[hZ,jQ7 rfl]
   rw[this];exact Is
  .refine⟨0,_,_,⟨λh=>?_,rfl,rfl⟩,hv.same (by
    unfold dX;obtain⟨k,n,m,va,nm,tg,l⟩:=t;by_cases mM:k=14
    .subst mM;rw[hZ];rfl
    .rw[hZ,jQ4 (show¬k=2 from U),jQ4 mM])⟩
   rcases de t.ld with g|g|g|g|g|g|g|g|g|g|g|g<;>first|exact U g.1|(rw[g.2]at h;exact absurd h i5)
structure ad4(NS:List ByteArray)(Q:Y->Prop)(w:List ah)(K:Nat)(B:Bl)(DI:Qx)(σ:BS)(W:World)(t e:Y)(b o c:Nat)(a':Option Addr)(c':Nat)(W1:World):Prop where
 md:Md NS Q w K B DI σ W 0 σ W1
 ch:RT DI W1 e (.agg #[.int .i64 e.ld,.int .i64 e.n,.int .i64 e.m,.bool e.va,.string e.name,.string e.gc,.slice a' e.li.length c'])
 b0:W1.cell? ⟨W.heap.size,0,none⟩=some (.int .i64 t.ld)
 b1:W1.cell? ⟨W.heap.size,1,none⟩=some (.int .i64 t.n)
 b6:W1.cell? ⟨W.heap.size,6,none⟩=some (.slice (some ⟨b,o,none⟩) 1 c)
 c0:W1.cell? ⟨b,o,none⟩=some (.int .i64 e.ld)
 c1:W1.cell? ⟨b,o+1,none⟩=some (.int .i64 e.n)
 c2:W1.cell? ⟨b,o+2,none⟩=some (.int .i64 e.m)
 c3:W1.cell? ⟨b,o+3,none⟩=some (.bool e.va)
 c4:W1.cell? ⟨b,o+4,none⟩=some (.string e.name)
 c5:W1.cell? ⟨b,o+5,none⟩=some (.string e.gc)
 c6:W1.cell? ⟨b,o+6,none⟩=some (.slice a' e.li.length c')
def abj(cG:Bs NS Q w K B DI σ W)(hv:RT DI W t v)(he:t.li=[e]):∃b o c a' c',v=.agg #[.int .i64 t.ld,.int .i64 t.n,.int .i64 t.m,.bool t.va,.string t.name,.string t.gc,.slice (some ⟨b,o,none⟩) 1 c]/\
 ad4 NS Q w K B DI σ W t e b o c a' c' (W.alloc (.cells #[.int .i64 t.ld,.int .i64 t.n,.int .i64 t.m,.bool t.va,.string t.name,.string t.gc,.slice (some ⟨b,o,none⟩) 1 c] 25)):=by
 obtain⟨a,c,rfl,hs⟩:=hv.bR;rw[he]at hs;obtain⟨b,o,c2,e1, -, -,hd,hE, -⟩:=gQ.1 hs;simp at e1;obtain⟨rfl,rfl⟩:=e1;have hb:=an W (.cells #[.int .i64 t.ld,.int .i64 t.n,.int .i64 t.m,.bool t.va,.string t.name,.string t.gc,.slice (some ⟨b,o,none⟩) 1 c] 25);have hm:au DI DI W (W.alloc (.cells #[.int .i64 t.ld,.int .i64 t.n,.int .i64 t.m,.bool t.va,.string t.name,.string t.gc,.slice (some ⟨b,o,none⟩) 1 c] 25)):=λx H=>⟨H,hb.block x (cG.di x H).1⟩;obtain⟨a',c',q0,q1,q2,q3,q4,q5,q6,q7⟩:=(hE.move hm hd).bR;obtain⟨x0,x1, -, -, -, -,x6⟩:=ao (ak W (.cells #[.int .i64 t.ld,.int .i64 t.n,.int .i64 t.m,.bool t.va,.string t.name,.string t.gc,.slice (some ⟨b,o,none⟩) 1 c] 25));exact⟨b,o,c,a',c',by rw[he];rfl,(Md.start cG).below hb,q7,x0,x1,x6,q0,q1,q2,q3,q4,q5,q6⟩
def xC(h:PT NS Q w md t)(hk:t.ld=2\/t.ld=3\/t.ld=4\/t.ld=6\/t.ld=9):∃e,t.li=[e]/\PT NS Q w 2 e/\nds t=1+nds e:=by
 have j:=D4 h;have hn:=gq t;have:∃e,t.li=[e]:=by
  cases h with
  |basic a b=>simp[Y.ld]at hk
  |uni a=>simp only[Y.ld]at hk;omega
  |named a b c=>simp[Y.ld]at hk
  |al a b I=>exact⟨_,rfl⟩
  |st a b I=>simp[Y.ld]at hk
  |ifc a b c d e g I U q=>simp[Y.ld]at hk
  |one a b c I=>exact⟨_,rfl⟩
  |mp I U=>simp[Y.ld]at hk
  |fn a b c I=>simp[Y.ld]at hk
  |ti a I=>simp[Y.ld]at hk
  |un a b c I=>simp[Y.ld]at hk
 obtain⟨e,he⟩:=this;exact⟨e,he,j e (by rw[he];simp),by rw[hn,he];simp[ndss]⟩
def Pn(ih:dR NS Q w K B DI N)(hk:t.ld=4)(hn:nds t<=N+1)(j:PT NS Q w 2 t)(cG:Bs NS Q w K B DI σ W)(hv:RT DI W t v)(hl:σ.ml.length+nds t<=1099511627776):
 Calls prog 30 #[ptr B.bb,v] W (dC NS Q w K B DI σ W (nds t) λu aO _=>dq aO.S u t):=by
 obtain⟨e,he,xd,bk⟩:=xC j M;obtain⟨b,o,c,a',c',rfl,hb⟩:=abj cG hv he;have HB:=Z hb;have ag:=ih e σ _ _ M xd hb.md.bs hb.ch M;have k1:(t.ld==1)=false:=by simp[hk]
 have k2:(t.ld==2)=false:=by simp[hk]
 have k3:(t.ld==3)=false:=by simp[hk]
 have k4:(t.ld==4)=true:=by simp[hk]
 have k6:(t.ld==6)=false:=by simp[hk]
 obtain⟨-, -,b0,b1,b6,c0,c1,c2,c3,c4,c5,c6⟩:=hb;obtain⟨HK,HE,HN⟩:=Z3 hk he bk;clear ih hk hn j cG hv hl he xd bk;go_in;go_wp21;refine ag.mono ?_;rintro e' O ⟨u,aO,rfl,cq,hu⟩;have HM:=Z ((HB.1.md.trans cq).more (m:=nds t) (V5 HN.1));obtain⟨bu,rfl, -⟩:=id hu;have HU:=Z hu;have fL:=AO (tid e.ld) (ptr bu) O;clear ag cq hu b0 b1 b6 c0 c1 c2 c3 c4 c5 c6 HB;generalize tid e.ld=T at*;go_wp21;refine rv fL ?_;clear fL;have HP:=Z (ag2 HM.1 HK.1 HE.1 HU.1);exact M21
def XP(ih:dR NS Q w K B DI N)(hk:t.ld=6)(hn:nds t<=N+1)(j:PT NS Q w 2 t)(cG:Bs NS Q w K B DI σ W)(hv:RT DI W t v)(hl:σ.ml.length+nds t<=1099511627776):
 Calls prog 30 #[ptr B.bb,v] W (dC NS Q w K B DI σ W (nds t) λu aO _=>dq aO.S u t):=by
 obtain⟨e,he,xd,bk⟩:=xC j M;obtain⟨b,o,c,a',c',rfl,hb⟩:=abj cG hv he;have HB:=Z hb;have ag:=ih e σ _ _ M xd hb.md.bs hb.ch M;have k1:(t.ld==1)=false:=by simp[hk]
 have k2:(t.ld==2)=false:=by simp[hk]
 have k3:(t.ld==3)=false:=by simp[hk]
 have k4:(t.ld==4)=false:=by simp[hk]
 have k6:(t.ld==6)=true:=by simp[hk]
 obtain⟨-, -,b0,b1,b6,c0,c1,c2,c3,c4,c5,c6⟩:=hb;obtain⟨HK,HE,HN⟩:=Z3 hk he bk;clear ih hk hn j cG hv hl he xd bk;go_in;go_wp21;refine ag.mono ?_;rintro e' O ⟨u,aO,rfl,cq,hu⟩;have HM:=Z ((HB.1.md.trans cq).more (m:=nds t) (V5 HN.1));obtain⟨bu,rfl, -⟩:=id hu;have HU:=Z hu;have fL:=oF (tid e.ld) (ptr bu) O;clear ag cq hu b0 b1 b6 c0 c1 c2 c3 c4 c5 c6 HB;generalize tid e.ld=T at*;go_wp21;refine rv fL ?_;clear fL;have HP:=Z (ad9 HM.1 HK.1 HE.1 HU.1);exact M21
def Bs.nj(h:Bs NS Q w K B DI σ W)(hg:Gr B σ aO W W2)(hd:DI b)(hc:ce W b o u):W2.cell? ⟨b,o,none⟩=some u:=(jQi (w:=W) (h.C0 hg b hd).2).trans hc
def Loc.cell(h:Loc B DI σ g)(hg:g<W.heap.size)(hr:Gr B σ aO W W2)(hc:ce W g o u):W2.cell? ⟨g,o,none⟩=some u:=(jQi (w:=W) (h.same hg hr)).trans hc
structure SG(NS:List ByteArray)(Q:Y->Prop)(w:List ah)(K:Nat)(B:Bl)(DI:Qx)(σ:BS)(W:World)(t e:Y)(b o c:Nat)(a':Option Addr)(c':Nat)(W1:World):Prop extends ad4 NS Q w K B DI σ W t e b o c a' c' W1 where
 hb:Bs NS Q w K B DI σ W
 db:DI b
def SH(cG:Bs NS Q w K B DI σ W)(hv:RT DI W t v)(he:t.li=[e]):∃b o c a' c',v=.agg #[.int .i64 t.ld,.int .i64 t.n,.int .i64 t.m,.bool t.va,.string t.name,.string t.gc,.slice (some ⟨b,o,none⟩) 1 c]/\
 SG NS Q w K B DI σ W t e b o c a' c' (W.alloc (.cells #[.int .i64 t.ld,.int .i64 t.n,.int .i64 t.m,.bool t.va,.string t.name,.string t.gc,.slice (some ⟨b,o,none⟩) 1 c] 25)):=by
 obtain⟨b,o,c,a',c',rfl,h⟩:=abj cG hv he;refine⟨b,o,c,a',c',rfl,h,cG,?_⟩;obtain⟨a,c2,e0,hs⟩:=hv.bR;simp at e0;rw[he]at hs;obtain⟨b3,o3,c3,e1, -, -,hd, -⟩:=gQ.1 hs;obtain⟨rfl, -⟩:=e0;simp at e1;rw[e1.1.1];exact hd
def SG.inv(h:SG NS Q w K B DI σ W t e b o c a' c' W1)(hg:Gr B σ aO W1 W2):
 W2.cell? ⟨W.heap.size,0,none⟩=some (.int .i64 t.ld)/\W2.cell? ⟨W.heap.size,1,none⟩=some (.int .i64 t.n)/\W2.cell? ⟨W.heap.size,6,none⟩=some (.slice (some ⟨b,o,none⟩) 1 c)/\W2.cell? ⟨b,o,none⟩=some (.int .i64 e.ld)/\W2.cell? ⟨b,o+1,none⟩=some (.int .i64 e.n)/\W2.cell? ⟨b,o+2,none⟩=some (.int .i64 e.m)/\W2.cell? ⟨b,o+3,none⟩=some (.bool e.va)/\W2.cell? ⟨b,o+4,none⟩=some (.string e.name)/\W2.cell? ⟨b,o+5,none⟩=some (.string e.gc)/\W2.cell? ⟨b,o+6,none⟩=some (.slice a' e.li.length c'):=by
 have hl:Loc B DI σ W.heap.size:=h.hb.loc (jQ0 _);have hz:=World.block_lt_of_cell? _ _ h.b0;have hd:=h.db;have hs:=h.md.bs;exact⟨hl.cell hz hg h.b0,hl.cell hz hg h.b1,hl.cell hz hg h.b6,hs.nj hg hd h.c0,hs.nj hg hd h.c1,hs.nj hg hd h.c2,hs.nj hg hd h.c3,hs.nj hg hd h.c4,hs.nj hg hd h.c5,hs.nj hg hd h.c6⟩
def XI(ih:dR NS Q w K B DI N)(hk:t.ld=3)(hn:nds t<=N+1)(j:PT NS Q w 2 t)(cG:Bs NS Q w K B DI σ W)(hv:RT DI W t v)(hl:σ.ml.length+nds t<=1099511627776):
 Calls prog 30 #[ptr B.bb,v] W (dC NS Q w K B DI σ W (nds t) λu aO _=>dq aO.S u t):=by
 obtain⟨e,he,xd,bk⟩:=xC j M;obtain⟨b,o,c,a',c',rfl,hb⟩:=SH cG hv he;have HR:=Z (show True from trivial);generalize Lw:W.alloc (.cells #[.int .i64 t.ld,.int .i64 t.n,.int .i64 t.m,.bool t.va,.string t.name,.string t.gc,.slice (some ⟨b,o,none⟩) 1 c] 25)=W1 at hb;have HB:=Z hb;have Kv:S5 W1 W1.drew:=(jQ5 _ _).drew;have lO:=Z (hb.md.below Kv);have Kw:=Z (Gr.below Kv:Gr B σ σ W1 W1.drew);have ag:=ih e σ _ _ M xd lO.1.bs (hb.ch.move (hb.md.bs.C0 Kw.1)) M;have k1:(t.ld==1)=false:=by simp[hk]
 have k2:(t.ld==2)=false:=by simp[hk]
 have k3:(t.ld==3)=true:=by simp[hk]
 have k4:(t.ld==4)=false:=by simp[hk]
 have k6:(t.ld==6)=false:=by simp[hk]
 have k8:(t.ld==8)=false:=by simp[hk]
 have k9:(t.ld==9)=false:=by simp[hk]
 have b0:=hb.b0;obtain⟨HK,HE,HN,gV⟩:=Z4 hk he bk (show∀mL O,Gr B σ mL W1 O->ce O W.heap.size 0 (.int .i64 t.ld)/\ce O W.heap.size 1 (.int .i64 t.n)/\ce O W.heap.size 6 (.slice (some ⟨b,o,none⟩) 1 c)/\ce O b o (.int .i64 e.ld)/\ce O b (o+1) (.int .i64 e.n)/\ce O b (o+2) (.int .i64 e.m)/\ce O b (o+3) (.bool e.va)/\ce O b (o+4) (.string e.name)/\ce O b (o+5) (.string e.gc)/\ce O b (o+6) (.slice a' e.li.length c')from λ_ _ h=>HB.1.inv h);subst Lw;clear ih hk hn j cG hv hl he xd bk hb Kv;go_in;go_wp21;refine jQ9 (S:=(λO=>ce O W.heap.size 0 (.int .i64 t.ld)/\ce O W.heap.size 1 (.int .i64 t.n)/\ce O W.heap.size 6 (.slice (some ⟨b,o,none⟩) 1 c)/\ce O b o (.int .i64 e.ld)/\ce O b (o+1) (.int .i64 e.n)/\ce O b (o+2) (.int .i64 e.m)/\ce O b (o+3) (.bool e.va)/\ce O b (o+4) (.string e.name)/\ce O b (o+5) (.string e.gc)/\ce O b (o+6) (.slice a' e.li.length c'))) g9 (gV.1 _ _ Kw.1) (λai=>?_);refine t4 0 1 2 3 ?_;refine t2 4 6 ?_;refine t7 7 ?_;refine rd 5 rfl λK hK=>?_;go_simp;clear ai;refine ag.mono ?_;rintro eA wA ⟨u,aO,rfl,cq,hu⟩;have HM:=Z ((lO.1.trans cq).more (m:=nds t) (V5 HN.1));obtain⟨bu,rfl, -⟩:=id hu;have HU:=Z hu;have HG:=Z (Kw.1.trans cq.gr);refine hK.out _ _ (gV.1 _ _ HG.1) (λai=>?_);clear ag cq hu;clear hK K;refine rd 8 rfl λK hK=>?_;go_simp;clear ai;refine rv (AG _ _ _ _) ?_;refine hK.out _ _ (gV.1 _ _ (HG.1.trans (Gr.below (an _ _)))) (λai=>?_);clear hK K;refine t2 9 10 ?_;refine jQl g9 ?_ _;clear ai;have HP:=Z (agV HM.1 HK.1 HE.1 HU.1);exact M21
def XJ(h:PT NS Q w md t)(hk:t.ld=9):0<=t.n/\t.n<3:=by
 cases h with
 |basic a b=>simp[Y.ld]at hk
 |uni a=>simp only[Y.ld]at hk;omega
 |named a b c=>simp[Y.ld]at hk
 |al a b I=>simp only[Y.ld]at hk;omega
 |st a b I=>simp[Y.ld]at hk
 |ifc a b c d e g I U q=>simp[Y.ld]at hk
 |one a b c I=>exact⟨b,c⟩
 |mp I U=>simp[Y.ld]at hk
 |fn a b c I=>simp[Y.ld]at hk
 |ti a I=>simp[Y.ld]at hk
 |un a b c I=>simp[Y.ld]at hk
def SJ(ih:dR NS Q w K B DI N)(hk:t.ld=9)(hn:nds t<=N+1)(j:PT NS Q w 2 t)(cG:Bs NS Q w K B DI σ W)(hv:RT DI W t v)(hl:σ.ml.length+nds t<=1099511627776):
 Calls prog 30 #[ptr B.bb,v] W (dC NS Q w K B DI σ W (nds t) λu aO _=>dq aO.S u t):=by
 obtain⟨e,he,xd,bk⟩:=xC j M;obtain⟨b,o,c,a',c',rfl,hb⟩:=SH cG hv he;have HR:=Z (show 0<=t.n/\t.n<3 from XJ j hk);generalize Lw:W.alloc (.cells #[.int .i64 t.ld,.int .i64 t.n,.int .i64 t.m,.bool t.va,.string t.name,.string t.gc,.slice (some ⟨b,o,none⟩) 1 c] 25)=W1 at hb;have HB:=Z hb;have Kv:S5 W1 W1.drew:=(jQ5 _ _).drew;have lO:=Z (hb.md.below Kv);have Kw:=Z (Gr.below Kv:Gr B σ σ W1 W1.drew);have ag:=ih e σ _ _ M xd lO.1.bs (hb.ch.move (hb.md.bs.C0 Kw.1)) M;have k1:(t.ld==1)=false:=by simp[hk]
 have k2:(t.ld==2)=false:=by simp[hk]
 have k3:(t.ld==3)=false:=by simp[hk]
 have k4:(t.ld==4)=false:=by simp[hk]
 have k6:(t.ld==6)=false:=by simp[hk]
 have k8:(t.ld==8)=false:=by simp[hk]
 have k9:(t.ld==9)=true:=by simp[hk]
 have b0:=hb.b0;obtain⟨HK,HE,HN,gV⟩:=Z4 hk he bk (show∀mL O,Gr B σ mL W1 O->ce O W.heap.size 0 (.int .i64 t.ld)/\ce O W.heap.size 1 (.int .i64 t.n)/\ce O W.heap.size 6 (.slice (some ⟨b,o,none⟩) 1 c)/\ce O b o (.int .i64 e.ld)/\ce O b (o+1) (.int .i64 e.n)/\ce O b (o+2) (.int .i64 e.m)/\ce O b (o+3) (.bool e.va)/\ce O b (o+4) (.string e.name)/\ce O b (o+5) (.string e.gc)/\ce O b (o+6) (.slice a' e.li.length c')from λ_ _ h=>HB.1.inv h);subst Lw;clear ih hk hn j cG hv hl he xd bk hb Kv;go_in;go_wp21;refine jQ9 (S:=(λO=>ce O W.heap.size 0 (.int .i64 t.ld)/\ce O W.heap.size 1 (.int .i64 t.n)/\ce O W.heap.size 6 (.slice (some ⟨b,o,none⟩) 1 c)/\ce O b o (.int .i64 e.ld)/\ce O b (o+1) (.int .i64 e.n)/\ce O b (o+2) (.int .i64 e.m)/\ce O b (o+3) (.bool e.va)/\ce O b (o+4) (.string e.name)/\ce O b (o+5) (.string e.gc)/\ce O b (o+6) (.slice a' e.li.length c'))) g9 (gV.1 _ _ Kw.1) (λai=>?_);refine t4 0 1 3 4 ?_;refine t2 5 6 ?_;refine t7 7 ?_;refine rd 2 rfl λK hK=>?_;go_simp;clear ai;refine rv (zb t.n HR.1.1 HR.1.2 _) ?_;refine hK.out _ _ (gV.1 _ _ Kw.1) (λai=>?_);clear hK K;refine rd 8 rfl λK hK=>?_;go_simp;clear ai;refine ag.mono ?_;rintro eA wA ⟨u,aO,rfl,cq,hu⟩;have HM:=Z ((lO.1.trans cq).more (m:=nds t) (V5 HN.1));obtain⟨bu,rfl, -⟩:=id hu;have HU:=Z hu;have HG:=Z (Kw.1.trans cq.gr);refine hK.out _ _ (gV.1 _ _ HG.1) (λai=>?_);clear ag cq hu;clear hK K;refine rd 9 rfl λK hK=>?_;go_simp;clear ai;refine rv (Dl _ _ _ _) ?_;refine hK.out _ _ (gV.1 _ _ (HG.1.trans (Gr.below (an _ _)))) (λai=>?_);clear hK K;refine t2 10 11 ?_;refine jQl g9 ?_ _;clear ai;have HP:=Z (agW HM.1 HK.1 HE.1 HU.1);exact M21
def ud(bb pk:Nat)(s v1 v2 v3 v4)(ty:TypeId)(W)(h:W.heap[bb]?=some (.cells #[ptr pk,v1,v2,v3,v4] ty (0,0))):
 Calls prog 28 #[ptr bb,.string s] W (qh W #[.int .i64 0,ptr pk,.string s,.nilIface] 119):=by
 have c0:=G7 0 h
 have hc:=jS 0 (some ⟨pk,0,none⟩) s W;clear h;exact M163
def NY{nm:Value}(h:Md NS Q w K B DI eo W0 n σ W)(hA:NG W ob pos pk nm fr ac e' W2)(hl:Loc B DI σ ob)(hz:W0.heap.size<=ob):Md NS Q w K B DI eo W0 n σ W2:=
 h.step hA.2.2.1 hA.2.2.2.1 hA.2.2.2.2.1 (by rw[hA.2.1];omega) λb hb hn=>hA.2.2.2.2.2.2.2 b hb λe=>hn (e▸⟨hl,hz⟩)
def ahp{nm:Value}{x:Value}(h:Md NS Q w K B DI eo W0 n σ W)(hk:t.ld=2)(he:t.li=[e])(hv:dq σ.S (.iface T x) e)(hu:dq σ.S (.iface h2 y) (una e))(hA:NG W ob pos pk nm (.iface T x) (.iface h2 y) e' W2)(hl:Loc B DI σ ob)(hz:W0.heap.size<=ob):
 dC NS Q w K B DI eo W0 n (λu aO _=>dq aO.S u t) (.returned (.iface 127 (ptr W.heap.size))) W2:=by
 have hs:=NY h hA hl hz;obtain⟨k1,k2,k3,k4,k5⟩:=fa (t:=t) M M M M;have hla:=h.bs.loc (g:=W.heap.size) (jQ0 _);have hn:una (aG t)=una e:=by
  obtain⟨kk,n,m,va,nm,tg,l⟩:=t;simp only[Y.ld]at hk;subst hk;simp only[Y.li]at he;subst he;rw[aW (by simp[Y.ld]) (by simp[Y.ld]) (by simp[Y.ld]) (by simp[Y.ld])];simp only[Y.ld,Y.li];rw[hZ,jQ7 rfl]
 have uu:mZ (cE σ.S W.heap.size (aG t)) σ.D W2 W.heap.size (aG t):=
  ⟨M,λ_=>⟨_,_,_,_,hA.2.2.2.2.2.1,by rw[hn];exact lh hla.1 hu,e,by rw[k5,he],lh hla.1 hv⟩,M,M,M,M,M,M,M,M,M⟩
 refine⟨_,_,rfl,hs.add hla h.gr.size hA.2.2.2.2.2.1 (λhi=>by unfold cI at hi;omega) uu (λhi=>?_),⟨_,by rw[hk];rfl,fH _ _ _⟩⟩;exact M164
def PR(ih:dR NS Q w K B DI N)(hk:t.ld=2)(hn:nds t<=N+1)(j:PT NS Q w 2 t)(cG:Bs NS Q w K B DI σ W)(hv:RT DI W t v)(hl:σ.ml.length+nds t<=1099511627776):
 Calls prog 30 #[ptr B.bb,v] W (dC NS Q w K B DI σ W (nds t) λu aO _=>dq aO.S u t):=by
 obtain⟨e,he,xd,bk⟩:=xC j M;obtain⟨b,o,c,a',c',rfl,hb⟩:=SH cG hv he;generalize Lw:W.alloc (.cells #[.int .i64 t.ld,.int .i64 t.n,.int .i64 t.m,.bool t.va,.string t.name,.string t.gc,.slice (some ⟨b,o,none⟩) 1 c] 25)=W1 at hb;have HB:=Z hb;have Kv:S5 W1 W1.drew:=(jQ5 _ _).drew;obtain⟨lO,Kw,abE⟩:=Z3 (hb.md.below Kv) (Gr.below Kv:Gr B σ σ W1 W1.drew) (((Md.start hb.md.bs).below Kv).below (an W1.drew (.cells #[.int .i64 0,ptr B.pk,.string ⟨#[65]⟩,.nilIface] 119)));have j8:W1.drew.heap.size=W.heap.size+1:=by rw[<-Lw];show(W.heap.push _).size=_;simp
 have HL0:=Z (lO.1.bs.loc (g:=W.heap.size+1) M);have HZO:=Z (show W.heap.size+1<(W1.drew.alloc (.cells #[.int .i64 0,ptr B.pk,.string ⟨#[65]⟩,.nilIface] 119)).heap.size by rw[jQ3];omega);have jz:=ak W1.drew (.cells #[.int .i64 0,ptr B.pk,.string ⟨#[65]⟩,.nilIface] 119);rw[j8]at jz;have RR:=Z jz;have ag:=ih e σ _ _ M xd abE.1.bs (hb.ch.move (hb.md.bs.C0 abE.1.gr)) M;have k1:(t.ld==1)=false:=by simp[hk]
 have k2:(t.ld==2)=true:=by simp[hk]
 have b0:=hb.b0;obtain⟨HK,HE,HN,VU,HZ1,HZ,gV⟩:=Z7 hk he bk xd (show W1.heap.size<=W.heap.size+1 from jQz j8) (show W.heap.size<=W.heap.size+1 by omega) (show∀mL O,Gr B σ mL W1 O->ce O W.heap.size 0 (.int .i64 t.ld)/\ce O W.heap.size 1 (.int .i64 t.n)/\ce O W.heap.size 6 (.slice (some ⟨b,o,none⟩) 1 c)/\ce O b o (.int .i64 e.ld)/\ce O b (o+1) (.int .i64 e.n)/\ce O b (o+2) (.int .i64 e.m)/\ce O b (o+3) (.bool e.va)/\ce O b (o+4) (.string e.name)/\ce O b (o+5) (.string e.gc)/\ce O b (o+6) (.slice a' e.li.length c')from λ_ _ h=>HB.1.inv h);subst Lw;clear ih hk hn j cG hv hl he xd bk hb Kv j8 jz;go_in;go_wp21;refine jQ9 (S:=(λO=>ce O W.heap.size 0 (.int .i64 t.ld)/\ce O W.heap.size 1 (.int .i64 t.n)/\ce O W.heap.size 6 (.slice (some ⟨b,o,none⟩) 1 c)/\ce O b o (.int .i64 e.ld)/\ce O b (o+1) (.int .i64 e.n)/\ce O b (o+2) (.int .i64 e.m)/\ce O b (o+3) (.bool e.va)/\ce O b (o+4) (.string e.name)/\ce O b (o+5) (.string e.gc)/\ce O b (o+6) (.slice a' e.li.length c'))) g9 (gV.1 _ _ Kw.1) (λai=>?_);refine t4 0 2 3 4 ?_;refine t2 5 6 ?_;refine rd 1 rfl λK hK=>?_;go_simp;clear ai;refine rv (ud B.bb B.pk ⟨#[65]⟩ _ _ _ _ _ _ lO.1.bs.jl) ?_;refine hK.out _ _ (gV.1 _ _ (Kw.1.trans (Gr.below (an _ _)))) (λai=>?_);clear hK K;refine rd 7 rfl λK hK=>?_;go_simp;clear ai;refine ag.mono ?_;rintro eA wA ⟨u,aO,rfl,cq,hu⟩;obtain⟨yF,HM,jf,XC⟩:=Z4 (abE.1.trans cq) (((lO.1.below (an _ _)).trans cq).more (m:=nds t) (V5 HN.1)) (HL0.1.gr HZO.1 cq.gr) ((HL0.1.same HZO.1 cq.gr).trans RR.1);obtain⟨bu,rfl, -⟩:=id hu;have HU:=Z hu;obtain⟨kc,h2,y,ND,huy⟩:=Jl cq.bs.th.node _ e _ _ (jQ0 _) hu (λU=>by obtain⟨x,H, -⟩:=xC VU.1 (.inl U);exact⟨x,H⟩);have sM:=Z ND;have Am:=Z huy;refine hK.out _ _ (gV.1 _ _ yF.1.gr) (λai=>?_);clear ag cq hu ND huy;clear hK K;refine rd 8 rfl λK hK=>?_;go_simp;clear ai;refine(A8 (W.heap.size+1) _ _ _ _ _ _ _ _ wA XC.1 sM.1).mono ?_;rintro eA wB hA;have HA:=Z hA;obtain⟨rfl, -⟩:=hA;refine hK.out _ _ (gV.1 _ _ (NY yF.1 HA.1 jf.1 HZ1.1).gr) (λai=>?_);clear hK K;refine t2 9 10 ?_;refine jQl g9 ?_ _;clear ai;have HP:=Z (ahp HM.1 HK.1 HE.1 HU.1 Am.1 HA.1 jf.1 HZ.1);exact M21
abbrev Cel(W:World)(e:Y)(b o:Nat)(a:Option Addr)(c:Nat):Prop:=W.cell? ⟨b,o,none⟩=some (.int .i64 e.ld)/\W.cell? ⟨b,o+1,none⟩=some (.int .i64 e.n)/\W.cell? ⟨b,o+2,none⟩=some (.int .i64 e.m)/\W.cell? ⟨b,o+3,none⟩=some (.bool e.va)/\W.cell? ⟨b,o+4,none⟩=some (.string e.name)/\W.cell? ⟨b,o+5,none⟩=some (.string e.gc)/\W.cell? ⟨b,o+6,none⟩=some (.slice a e.li.length c)
def Bs.RX(h:Bs NS Q w K B DI σ W)(hg:Gr B σ aO W W2)(hd:DI b)(hc:Cel W e b o a' c):Cel W2 e b o a' c:=
 ⟨h.nj hg hd hc.1,h.nj hg hd hc.2.1,h.nj hg hd hc.2.2.1,h.nj hg hd hc.2.2.2.1,h.nj hg hd hc.2.2.2.2.1,h.nj hg hd hc.2.2.2.2.2.1,h.nj hg hd hc.2.2.2.2.2.2⟩
def RE.RX(h:RE D W e b o):∃a c,Cel W e b o a c/\RT D W e (.agg #[.int .i64 e.ld,.int .i64 e.n,.int .i64 e.m,.bool e.va,.string e.name,.string e.gc,.slice a e.li.length c]):=by
 obtain⟨a,c,q0,q1,q2,q3,q4,q5,q6,q7⟩:=h.bR;exact⟨a,c,⟨q0,q1,q2,q3,q4,q5,q6⟩,q7⟩
def acJ(h:PT NS Q w md t)(hk:t.ld=8):∃e e2,t.li=[e,e2]/\PT NS Q w 2 e/\PT NS Q w 2 e2/\nds t=1+(nds e+nds e2):=by
 have j:=D4 h;have hn:=gq t;have:∃e e2,t.li=[e,e2]:=by
  cases h with
  |basic a b=>simp[Y.ld]at hk
  |uni a=>simp only[Y.ld]at hk;omega
  |named a b c=>simp[Y.ld]at hk
  |al a b I=>simp only[Y.ld]at hk;omega
  |st a b I=>simp[Y.ld]at hk
  |ifc a b c d e g I U q=>simp[Y.ld]at hk
  |one a b c I=>simp only[Y.ld]at hk;omega
  |mp I U=>exact⟨_,_,rfl⟩
  |fn a b c I=>simp[Y.ld]at hk
  |ti a I=>simp[Y.ld]at hk
  |un a b c I=>simp[Y.ld]at hk
 obtain⟨e,e2,he⟩:=this;exact⟨e,e2,he,j e (by rw[he];simp),j e2 (by rw[he];simp),by rw[hn,he];simp[ndss]⟩
def Zn(ih:dR NS Q w K B DI N)(hk:t.ld=8)(hn:nds t<=N+1)(j:PT NS Q w 2 t)(cG:Bs NS Q w K B DI σ W)(hv:RT DI W t v)(hl:σ.ml.length+nds t<=1099511627776):
 Calls prog 30 #[ptr B.bb,v] W (dC NS Q w K B DI σ W (nds t) λu aO _=>dq aO.S u t):=by
 obtain⟨e,e2,he,xd,afN,bk⟩:=acJ j hk;obtain⟨a0,c,uz,hs⟩:=hv.bR;rw[he]at hs uz;obtain⟨b,o,cc,e1, -, -,hd,hE,hR⟩:=gQ.1 hs;simp at e1;obtain⟨rfl,rfl⟩:=e1;replace uz:v=.agg #[.int .i64 t.ld,.int .i64 t.n,.int .i64 t.m,.bool t.va,.string t.name,.string t.gc,.slice (some ⟨b,o,none⟩) 2 c]:=uz;subst uz;rw[RC]at hR;have ar:=an W (.cells #[.int .i64 t.ld,.int .i64 t.n,.int .i64 t.m,.bool t.va,.string t.name,.string t.gc,.slice (some ⟨b,o,none⟩) 2 c] 25);have jz:=ak W (.cells #[.int .i64 t.ld,.int .i64 t.n,.int .i64 t.m,.bool t.va,.string t.name,.string t.gc,.slice (some ⟨b,o,none⟩) 2 c] 25);have jd:au DI DI W (W.alloc (.cells #[.int .i64 t.ld,.int .i64 t.n,.int .i64 t.m,.bool t.va,.string t.name,.string t.gc,.slice (some ⟨b,o,none⟩) 2 c] 25)):=λx H=>⟨H,ar.block x (cG.di x H).1⟩;generalize Lw:W.alloc (.cells #[.int .i64 t.ld,.int .i64 t.n,.int .i64 t.m,.bool t.va,.string t.name,.string t.gc,.slice (some ⟨b,o,none⟩) 2 c] 25)=W1 at ar jz jd;obtain⟨a',c',lk,dr⟩:=(hE.move jd hd).RX;obtain⟨a2,c2,fL,fx⟩:=(hR.1.move jd hd).RX;have jf:=Z (cG.loc (g:=W.heap.size) (jQ0 _));have uL:=Z (cG.below ar);have Kv:S5 W1 W1.drew:=(jQ5 _ _).drew;have lO:=Z (((Md.start cG).below ar).below Kv);have Kw:=Z (Gr.below Kv:Gr B σ σ W1 W1.drew);have ag:=ih e σ _ _ M xd lO.1.bs (dr.move (uL.1.C0 Kw.1)) M;have vq:=Z (λ(fT:BS) (Wx:World) (v2:Value) (I:Bs NS Q w K B DI fT Wx) (U:RT DI Wx e2 v2) (h3:fT.ml.length+nds e2<=1099511627776)=>ih e2 fT Wx v2 M afN I U h3);have QU:=Z fx;obtain⟨x0, -, -, -, -, -,x6⟩:=ao jz;have hz:=jQ2 jz;have gV:=Z (show∀mL O,Gr B σ mL W1 O->ce O W.heap.size 0 (.int .i64 t.ld)/\ce O W.heap.size 6 (.slice (some ⟨b,o,none⟩) 2 c)/\(ce O b o (.int .i64 e.ld)/\ce O b (o+1) (.int .i64 e.n)/\ce O b (o+2) (.int .i64 e.m)/\ce O b (o+3) (.bool e.va)/\ce O b (o+4) (.string e.name)/\ce O b (o+5) (.string e.gc)/\ce O b (o+6) (.slice a' e.li.length c'))/\(ce O b (o+7) (.int .i64 e2.ld)/\ce O b (o+7+1) (.int .i64 e2.n)/\ce O b (o+7+2) (.int .i64 e2.m)/\ce O b (o+7+3) (.bool e2.va)/\ce O b (o+7+4) (.string e2.name)/\ce O b (o+7+5) (.string e2.gc)/\ce O b (o+7+6) (.slice a2 e2.li.length c2))from
  λ_ _ h=>⟨jf.1.cell hz h x0,jf.1.cell hz h x6,uL.1.RX h hd lk,uL.1.RX h hd fL⟩)
 have k1:(t.ld==1)=false:=by simp[hk]
 have k2:(t.ld==2)=false:=by simp[hk]
 have k3:(t.ld==3)=false:=by simp[hk]
 have k4:(t.ld==4)=false:=by simp[hk]
 have k6:(t.ld==6)=false:=by simp[hk]
 have k8:(t.ld==8)=true:=by simp[hk]
 have b0:=x0;obtain⟨HK,HE,HN,HL⟩:=Z4 hk he bk hl;subst Lw;clear ih hk hn j cG hv hl he xd afN bk ar jz jd Kv hs hE hR lk fL dr fx x0 x6 hz hd;go_in;go_wp21;refine jQ9 (S:=(λO=>ce O W.heap.size 0 (.int .i64 t.ld)/\ce O W.heap.size 6 (.slice (some ⟨b,o,none⟩) 2 c)/\(ce O b o (.int .i64 e.ld)/\ce O b (o+1) (.int .i64 e.n)/\ce O b (o+2) (.int .i64 e.m)/\ce O b (o+3) (.bool e.va)/\ce O b (o+4) (.string e.name)/\ce O b (o+5) (.string e.gc)/\ce O b (o+6) (.slice a' e.li.length c'))/\(ce O b (o+7) (.int .i64 e2.ld)/\ce O b (o+7+1) (.int .i64 e2.n)/\ce O b (o+7+2) (.int .i64 e2.m)/\ce O b (o+7+3) (.bool e2.va)/\ce O b (o+7+4) (.string e2.name)/\ce O b (o+7+5) (.string e2.gc)/\ce O b (o+7+6) (.slice a2 e2.li.length c2)))) g9 (gV.1 _ _ Kw.1) (λai=>?_);refine t4 0 1 2 3 ?_;refine t4 4 6 7 8 ?_;refine t2 9 10 ?_;refine rd 5 rfl λK hK=>?_;go_simp;clear ai;refine ag.mono ?_;rintro eA wA ⟨u,aO,rfl,cq,hu⟩;have yF:=Z (lO.1.trans cq);obtain⟨bu,rfl, -⟩:=id hu;have HU:=Z hu;have HG:=Z (Kw.1.trans cq.gr);have aD:=vq.1 aO wA _ cq.bs (QU.1.move (uL.1.C0 (Kw.1.trans cq.gr))) (by have I:=cq.len;have U:=HN.1;have h3:=HL.1;omega);refine hK.out _ _ (gV.1 _ _ HG.1) (λai=>?_);clear ag cq hu;clear hK K;refine rd 11 rfl λK hK=>?_;go_simp;clear ai;refine aD.mono ?_;rintro eA wB ⟨u2,fT,rfl,cq,hu⟩;have HM:=Z ((yF.1.trans cq).more (m:=nds t) (V5 HN.1));obtain⟨bu2,rfl, -⟩:=id hu;have Hz:=Z hu;replace HU:=Z (HU.1.mono cq.gr.sle);have Oq:=Z (HG.1.trans cq.gr);refine hK.out _ _ (gV.1 _ _ Oq.1) (λai=>?_);clear aD cq hu;clear hK K;refine rd 12 rfl λK hK=>?_;go_simp;clear ai;refine rv (Gh _ _ _ _ _) ?_;refine hK.out _ _ (gV.1 _ _ (Oq.1.trans (Gr.below (an _ _)))) (λai=>?_);clear hK K;refine t2 13 14 ?_;refine jQl g9 ?_ _;clear ai;have HP:=Z (aid HM.1 HK.1 HE.1 HU.1 Hz.1);exact M21
def ab3(h:PT NS Q w md t)(hk:t.ld=1):0<=t.n/\t.n<18:=by
 cases h with
 |basic a b=>exact⟨a,b⟩
 |uni a=>simp only[Y.ld]at hk;omega
 |named a b c=>simp[Y.ld]at hk
 |al a b I=>simp only[Y.ld]at hk;omega
 |st a b I=>simp[Y.ld]at hk
 |ifc a b c d e g I U q=>simp[Y.ld]at hk
 |one a b c I=>simp only[Y.ld]at hk;omega
 |mp I U=>simp[Y.ld]at hk
 |fn a b c I=>simp[Y.ld]at hk
 |ti a I=>simp[Y.ld]at hk
 |un a b c I=>simp[Y.ld]at hk
def ahR{inf:Int}{nm:ByteArray}(h:Md NS Q w K B DI eo W0 n σ W)(hk:t.ld=1)(hb:W0.heap.size<=b)(hl:Loc B DI σ b)(hc:W.heap[b]?=some (.cells #[.int .i64 (1+t.n),.int .i64 inf,.string nm] 167 (0,0))):
 dC NS Q w K B DI eo W0 n (λu aO _=>dq aO.S u t) (.returned (.iface 89 (ptr b))) W:=by
 obtain⟨k1,k2,k3,k4,k5⟩:=fa (t:=t) M M M M;refine⟨_,_,rfl,h.add (s:=aG t) hl hb hc (λhi=>by unfold cI at hi;omega) ⟨λ_=>⟨inf,nm,by rw[k2,Int.add_comm];exact hc⟩,M,M,M,M,M,M,M,M,M,M⟩ (λhi=>?_),⟨_,by rw[hk];rfl,fH _ _ _⟩⟩;exact M164
def P8(hk:t.ld=1)(j:PT NS Q w 2 t)(cG:Bs NS Q w K B DI σ W)(hv:RT DI W t v):
 Calls prog 30 #[ptr B.bb,v] W (dC NS Q w K B DI σ W (nds t) λu aO _=>dq aO.S u t):=by
 obtain⟨a0,c,rfl,hs⟩:=hv.bR;obtain⟨h0,h18⟩:=ab3 j hk;have ar:=an W (bx t a0 c);have jz:=ak W (bx t a0 c);have HM:=Z ((Md.start cG).below ar);have ag:=Ee (t.n.toNat+1) M M (W.alloc (bx t a0 c));rw[show((t.n.toNat+1:Nat):Int)=1+t.n by omega]at ag;obtain⟨x0,x1, -, -, -, -, -⟩:=ao jz;have hw:wrap64 (1+t.n)=1+t.n:=by unfold wrap64;omega
 have k1:(t.ld==1)=true:=by simp[hk]
 have HK:=Z hk;have uL:=Z cG;clear hk j cG hv hs ar jz;go_in;go_wp21;refine ag.mono ?_;rintro e' O ⟨b,info,nm,rfl,yW,j6,Ww⟩;have Of:=HM.1.below j6;have mY:=HM.1.bs.loc yW;have HP:=Z (ahR (Of.more (m:=nds t) M) HK.1 (V5 HM.1.gr.size) mY Ww);clear ag j6 Ww Of mY yW;exact M21
def afc(h:PT NS Q w md t)(hk:t.ld=11):0<=t.n/\t.n<w.length:=by
 cases h with
 |basic a b=>simp[Y.ld]at hk
 |uni a=>simp only[Y.ld]at hk;omega
 |named a b c=>exact⟨a,b⟩
 |al a b I=>simp only[Y.ld]at hk;omega
 |st a b I=>simp[Y.ld]at hk
 |ifc a b c d e g I U q=>simp[Y.ld]at hk
 |one a b c I=>simp only[Y.ld]at hk;omega
 |mp I U=>simp[Y.ld]at hk
 |fn a b c I=>simp[Y.ld]at hk
 |ti a I=>simp[Y.ld]at hk
 |un a b c I=>simp[Y.ld]at hk
def Uo(hk:t.ld=11)(h0:0<=t.n):aG t=r9 t.n.toNat:=by
 obtain⟨k,n,m,va,nm,tg,l⟩:=t;simp only[Y.ld]at hk;simp only[Y.n]at h0⊢;subst hk;have:aG (.mk 11 n m va nm tg l)=.mk 11 n 0 false es es []:=by unfold aG mC jt;simp[Y.ld,Y.n]
 rw[this];unfold r9;rw[Int.toNat_of_nonneg h0]
def ab4(hk:t.ld=15):aG t=aG oA:=by
 obtain⟨k,n,m,va,nm,tg,l⟩:=t;simp only[Y.ld]at hk;subst hk;exact M161
def ab5(hk:t.ld=16):aG t=aG sE:=by
 obtain⟨k,n,m,va,nm,tg,l⟩:=t;simp only[Y.ld]at hk;subst hk;exact M162
def P9(hk:t.ld=11)(j:PT NS Q w 2 t)(cG:Bs NS Q w K B DI σ W)(hv:RT DI W t v):
 Calls prog 30 #[ptr B.bb,v] W (dC NS Q w K B DI σ W (nds t) λu aO _=>dq aO.S u t):=by
 obtain⟨a0,c,rfl,hs⟩:=hv.bR;have ar:=an W (bx t a0 c);have jz:=ak W (bx t a0 c);have HM:=Z ((Md.start cG).below ar);obtain⟨x0,x1, -, -, -, -, -⟩:=ao jz;have k1:(t.ld==1)=false:=by simp[hk]
 have k2:(t.ld==2)=false:=by simp[hk]
 have k3:(t.ld==3)=false:=by simp[hk]
 have k4:(t.ld==4)=false:=by simp[hk]
 have k6:(t.ld==6)=false:=by simp[hk]
 have k8:(t.ld==8)=false:=by simp[hk]
 have k9:(t.ld==9)=false:=by simp[hk]
 have k5:(t.ld==5)=false:=by simp[hk]
 have k7:(t.ld==7)=false:=by simp[hk]
 obtain⟨h0,h18⟩:=afc j hk;obtain⟨d,hd⟩:∃d,B.ds[t.n.toNat]?=some d:=by
  have:=cG.dl;exact⟨B.ds[t.n.toNat]' M,by simp[show t.n.toNat<B.ds.length by omega]⟩
 have hS:=cG.rn _ _ hd;have rG:=Z (HM.1.below (jQ5 _ _).drew);have kX:=rG.1.bs.row;obtain⟨ra,rc,eD⟩:=kX.form;rw[eD,jR7]at kX;obtain⟨db,DK,rfl, -,SO⟩:=kX.nth (p:=ptr d) (by rw[List.getElem?_map,hd];rfl);have hblk:=rG.1.bs.jl;rw[eD,jR7]at hblk;have dt:ce (W.alloc (bx t a0 c)).drew W.heap.size 1 (.int .i64 t.n):=x1;have iT:=G7 1 hblk
 have gV:=Z (And.intro dt (And.intro iT SO));have qd:(t.ld==11)=true:=by simp[hk]
 have aM:t.n<(B.ds.length:Int):=by rw[cG.dl];exact h18
 have ee:¬t.n<0:=M
 have HP:=Z (show dC NS Q w K B DI σ W (nds t) (λu aO _=>dq aO.S u t) (.returned (.iface 53 (ptr d))) _ from⟨_,σ,rfl,rG.1.more M,d,by rw[hk];rfl,by rw[Uo hk h0];exact hS⟩);clear j cG hv hs ar jz hd hS kX eD hblk dt iT SO hk x1 HM rG h18;go_in;go_wp21;refine jQ9 (S:=(λO=>ce O W.heap.size 1 (.int .i64 t.n)/\ce O B.bb 1 (.slice (some ⟨db,DK,none⟩) B.ds.length rc)/\ce O db (DK+t.n.toNat) (ptr d))) g9 (gV.1) (λai=>?_);refine t4 0 1 2 3 ?_;refine t4 4 5 6 7 ?_;refine t2 8 9 ?_;refine jQl g9 ?_ _;clear ai;exact M21
def YQ(hk:t.ld=15)(cG:Bs NS Q w K B DI σ W)(hv:RT DI W t v):
 Calls prog 30 #[ptr B.bb,v] W (dC NS Q w K B DI σ W (nds t) λu aO _=>dq aO.S u t):=by
 obtain⟨a0,c,rfl,hs⟩:=hv.bR;have ar:=an W (bx t a0 c);have jz:=ak W (bx t a0 c);have HM:=Z ((Md.start cG).below ar);obtain⟨x0,x1, -, -, -, -, -⟩:=ao jz;have k1:(t.ld==1)=false:=by simp[hk]
 have k2:(t.ld==2)=false:=by simp[hk]
 have k3:(t.ld==3)=false:=by simp[hk]
 have k4:(t.ld==4)=false:=by simp[hk]
 have k6:(t.ld==6)=false:=by simp[hk]
 have k8:(t.ld==8)=false:=by simp[hk]
 have k9:(t.ld==9)=false:=by simp[hk]
 have k5:(t.ld==5)=false:=by simp[hk]
 have k7:(t.ld==7)=false:=by simp[hk]
 have hblk:=HM.1.bs.jl;have hE:=cG.ev;obtain⟨eb,hee,Hp⟩:=id hE;rw[hee]at hblk;have iT:(W.alloc (bx t a0 c)).cell? ⟨B.bb,2,none⟩=some (.iface 53 (ptr eb)):=by simp[World.cell?,hblk];rfl
 have qd:(t.ld==11)=false:=by simp[hk]
 have tT:(t.ld==12)=false:=by simp[hk]
 have ll:(t.ld==13)=false:=by simp[hk]
 have Hw:(t.ld==15)=true:=by simp[hk]
 have yr:(t.ld==16)=!true:=by simp[hk]
 have HP:=Z (show dC NS Q w K B DI σ W (nds t) (λu aO _=>dq aO.S u t) (.returned (.iface 53 (ptr eb))) _ from⟨_,σ,rfl,HM.1.more M,eb,by rw[hk];rfl,by rw[ab4 hk];exact Hp⟩);clear cG hv hs ar jz hblk hE hee Hp hk x1 HM;go_in;exact M21
def YR(hk:t.ld=16)(cG:Bs NS Q w K B DI σ W)(hv:RT DI W t v):
 Calls prog 30 #[ptr B.bb,v] W (dC NS Q w K B DI σ W (nds t) λu aO _=>dq aO.S u t):=by
 obtain⟨a0,c,rfl,hs⟩:=hv.bR;have ar:=an W (bx t a0 c);have jz:=ak W (bx t a0 c);have HM:=Z ((Md.start cG).below ar);obtain⟨x0,x1, -, -, -, -, -⟩:=ao jz;have k1:(t.ld==1)=false:=by simp[hk]
 have k2:(t.ld==2)=false:=by simp[hk]
 have k3:(t.ld==3)=false:=by simp[hk]
 have k4:(t.ld==4)=false:=by simp[hk]
 have k6:(t.ld==6)=false:=by simp[hk]
 have k8:(t.ld==8)=false:=by simp[hk]
 have k9:(t.ld==9)=false:=by simp[hk]
 have k5:(t.ld==5)=false:=by simp[hk]
 have k7:(t.ld==7)=false:=by simp[hk]
 have hblk:=HM.1.bs.jl;have hE:=cG.cv;obtain⟨eb,hee,Hp⟩:=id hE;rw[hee]at hblk;have iT:(W.alloc (bx t a0 c)).cell? ⟨B.bb,3,none⟩=some (.iface 53 (ptr eb)):=by simp[World.cell?,hblk];rfl
 have qd:(t.ld==11)=false:=by simp[hk]
 have tT:(t.ld==12)=false:=by simp[hk]
 have ll:(t.ld==13)=false:=by simp[hk]
 have Hw:(t.ld==15)=false:=by simp[hk]
 have yr:(t.ld==16)=!false:=by simp[hk]
 have HP:=Z (show dC NS Q w K B DI σ W (nds t) (λu aO _=>dq aO.S u t) (.returned (.iface 53 (ptr eb))) _ from⟨_,σ,rfl,HM.1.more M,eb,by rw[hk];rfl,by rw[ab5 hk];exact Hp⟩);clear cG hv hs ar jz hblk hE hee Hp hk x1 HM;go_in;exact M21
