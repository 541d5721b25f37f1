import Derived.Conc.MuLone
import Derived.Deep.DeepCutAuto
import Derived.Deep.RegionHeld
import Derived.Deep.RegionHeld3
import Derived.Test.YtabjfnkfocnklaaGreatDoorA06
set_option linter.all false
set_option maxHeartbeats 16000000
set_option maxRecDepth 20000
namespace Go.Proofs.YtabjfnkfocnklaaGreatDoor
open Go Go.RowKit Go.Lib S P Tryz
variable{a d:Act}{listed:Array Bool}{ops:Array Oper}{cs:Array Value}{e':Ending}{e e2 s s' t:GT}{Q:GT->Prop}{NS:List ByteArray}{w:List ah}{K N b b' c c' c2 fuel g j k m n o ob:Nat}{D D' DI E1:Nat->Prop}{oi oj ok ol:Oper}{a' a2:Option Addr}{P:Program}{Y:Prop}{md:Region.Mode}{S S':Sg}{T U ty:TypeId}{ac fr nm p pk pos u v y:Value}{W W' W0 W1 W2 wc:World}
theorem jQ9:type_of% @Go.wp_region_held_drew:=@Go.wp_region_held_drew
theorem jQl:type_of% @Go.wpAnyH_done:=@Go.wpAnyH_done
theorem jQy:type_of% @List.setIfInBounds_toArray:=@List.setIfInBounds_toArray
theorem jR3:type_of% @List.getElem?_cons_zero:=@List.getElem?_cons_zero
theorem jR4:type_of% @List.getElem?_cons_succ:=@List.getElem?_cons_succ
theorem jRa:type_of% @List.getElem?_toArray:=@List.getElem?_toArray
theorem jRe:type_of% @List.set_cons_zero:=@List.set_cons_zero
theorem jRf:type_of% @List.set_cons_succ:=@List.set_cons_succ
theorem jRm:type_of% @List.take_add_one:=@List.take_add_one
theorem M123(h:Y:=by
 go_wp2_with fail;refine hc.mono ?_;rintro e w' ⟨rfl,rfl⟩;clear hc;exact M9):Y:=h
theorem M161(h:Y:=by
 unfold isIf at hi;rw[k1,hk]at hi;cases hi):Y:=h
theorem M175(h:Y:=by
 go_enter func51,ntmps51;go_wp2_with fail;refine hc.mono ?_;rintro e w' ⟨rfl,rfl⟩;exact M9):Y:=h
theorem M179(h:Y:=by
 go_wp2_with fail;refine rv hc ?_;clear hc;exact M9):Y:=h
theorem M18(h:Y:=by
 have c2:W1.cell? ⟨b,2,none⟩=some (.bool al):=by simp[World.cell?,h1]
 go_wp2_with fail;have fJ:=ke.trans (aw h1 6 (.iface T x));have h2:=fJ.here;simp[Array.setIfInBounds]at h2;have fm:=fJ.trans (aw h2 2 (.bool false));have h3:=fm.here;simp[Array.setIfInBounds]at h3;generalize(W1.setCell ⟨b,6,none⟩ (.iface T x)).setCell ⟨b,2,none⟩ (.bool false)=W3 at fm h3⊢;clear lk fL f1 f2 c6 c2 h1 h2 fJ ke;refine(j5 b 0 7 7 W3 h3 afx).mono ?_;rintro e W4 ⟨rfl,gF⟩;have h4:=gF.here;have UY:=fm.trans gF;have f1:=cd h4 7;have c7:W4.cell? ⟨b,7,none⟩=some .nilIface:=by simp[World.cell?,h4]
 clear fm gF h3;go_wp2_with fail;have kC:=UY.trans (aw h4 7 (.iface T x));have h5:=kC.here;simp[Array.setIfInBounds]at h5;generalize W4.setCell ⟨b,7,none⟩ (.iface T x)=W5 at kC h5⊢;clear f1 c7 h4 UY;refine(j5 b 7 8 15 W5 h5 afy).mono ?_;rintro e W6 ⟨rfl,wT⟩;have h6:=wT.here;have aco:=kC.trans wT;clear kC wT h5;go_wp2_with fail;refine leaves_cons (f:=54) (args:=#[.pointer (some ⟨b,3,none⟩)]) i6 (by simp[go_sem]) ?_;refine(vV ⟨b,3,none⟩ .returning W6 (by simp[World.cell?,h6]) (cd h6 3)).mono ?_;rintro e u' w'' ⟨rfl,rfl,hw⟩;replace hw:=hw.symm;subst hw;have hp7:=aco.trans (aw h6 3 (.int .i32 0));exact⟨_,results_none rfl _ _ _,rfl,hp7⟩):Y:=h
theorem M197(h:Y:=by
 go_enter func100,ntmps100;exact M9):Y:=h
theorem M222(h:Y:=by
 rw[hk]at this;exact this):Y:=h
theorem M43(h:Y:=by
 rw[hp.size]at h1 hb;refine⟨rfl,?_,hb.os.trans hp.os,hb.tape.trans hp.tape,hb.output.trans hp.output,h1,(hb.block _ aM).trans hp.here,λb dD hn=>(hb.block b dD).trans (hp.other b hn)⟩;rw[jQ3,hp.size]):Y:=h
theorem M97(h:Y:=by
 have hp:=HP.1;exact⟨rfl,hp.size.trans h1,hp.os.trans h2,hp.tape.trans h3,hp.output.trans h4,hp.here,(hp.other _ m9).trans h6,λb hb hn=>(hp.other b m9).trans (h7 b hb hn)⟩):Y:=h
def cE(S:Sg)(b:Nat)(s:GT):Sg:=λb'=>if b'=b then some s else S b'
theorem fG(h:S b=none):EH S (cE S b s):=λb' s' h'=>by
 unfold cE;split
 ·rename_i e;subst e;rw[h]at h';cases h'
 ·exact h'
theorem fH(S:Sg)(b:Nat)(s:GT):cE S b s b=some s:=by simp[cE]
theorem dV(h:cE S b s b'=some s'):(b'=b/\s'=s)\/(b'≠b/\S b'=some s'):=by
 unfold cE at h;split at h
 ·rename_i e;exact .inl ⟨e,(jQw h).symm⟩
 ·rename_i e;exact .inr ⟨e,h⟩
def TmD(S:Sg)(D:Nat->Prop)(W:World)(x:Option Tm)(p:Value):Prop:=
 match x with
 |none=>p=.pointer none
 |some tm=>∃b v ty,p=ptr b/\D b/\W.heap[b]?=some (.cells #[.bool tm.dO,v] ty (0,0))/\(ty=154\/ty=234)/\(match tm.jg with|none=>v=.nilIface|some a=>dq S v a)
def Wq(S:Sg)(D:Nat->Prop)(W:World)(b:Nat)(s:TS):Prop:=
 ∃ms tl ps qs,D b/\W.heap[b]?=some (.cells #[.bool false,ms,tl,.bool s.comp] 122 (0,0))/\eE D W ps ms/\All2 (λm p=>sK S D W m.name m p) s.meths ps/\
  eE (λb=>D b/\∃cs f,W.heap[b]?=some (.cells cs 152 f)) W qs tl/\All2 (TmD S D W) s.terms qs
theorem TmD.move(hS:EH S S')(hm:au D D' W W'){x:Option Tm}(h:TmD S D W x p):TmD S' D' W' x p:=by
 cases x with
 |none=>exact h
 |some tm=>
  obtain⟨b,v,ty,h1,h2,h3,h4,h5⟩:=h;refine⟨b,v,ty,h1,(hm b h2).1,(hm b h2).2.trans h3,h4,?_⟩;cases ht:tm.jg with
  |none=>rw[ht]at h5;exact h5
  |some a=>rw[ht]at h5;exact dq.mono hS h5
theorem Wq.move(hS:EH S S')(hm:au D D' W W'){s:TS}(h:Wq S D W b s):Wq S' D' W' b s:=by
 obtain⟨ms,tl,ps,qs,h1,h2,h3,h4,h5,h6⟩:=h;refine⟨ms,tl,ps,qs,(hm b h1).1,(hm b h1).2.trans h2,h3.move hm,h4.imp λm p hp=>hp.move hS hm,h5.move (λb hb=>⟨⟨(hm b hb.1).1,?_⟩,(hm b hb.1).2⟩),h6.imp λ_ _ hp=>hp.move hS hm⟩;obtain⟨cs,f,hc⟩:=hb.2;exact⟨cs,f,(hm b hb.1).2.trans hc⟩
def StD(w:List ah)(K:Nat)(S:Sg)(D:Nat->Prop)(W:World)(b:Nat)(s:GT):Prop:=
 ∃ts,iJ S D W b s ts/\((ts=.pointer none/\s.kind=10)\/∃sb,ts=ptr sb/\Wq S D W sb ((fs w K).ts s))
theorem StD.move(hS:EH S S')(hm:au D D' W W')(hb:W'.heap[b]?=W.heap[b]?)(h:StD w K S D W b s):StD w K S' D' W' b s:=by
 obtain⟨ts,h1,h2⟩:=h;exact⟨ts,h1.move hS hm hb,h2.imp id λ⟨sb,g1,g2⟩=>⟨sb,g1,g2.move hS hm⟩⟩
structure TH(w:List ah)(K:Nat)(S:Sg)(D:Nat->Prop)(W:World):Prop where
 node:∀b s,S b=some s->mZ S D W b s
 lI:∀b s,S b=some s->b<W.heap.size
 mT:Lo D W.heap.size
 rS:∀b s,S b=some s->¬D b
 LR:∀b,D b->∃cs t f,W.heap[b]?=some (.cells cs t f)
 A9:∀b s,S b=some s->∃cs t,W.heap[b]?=some (.cells cs t (0,0))
 td:jE D W
 st:∀b s,S b=some s->isIf s=true->StD w K S D W b s
theorem TH.cR(h:TH w K S D W)(hz:W.heap.size<=W'.heap.size)(hS:∀b s,S b=some s->W'.heap[b]?=W.heap[b]?)(hD:∀b,D b->W'.heap[b]?=W.heap[b]?):TH w K S D W':=by
 have hm:au D D W W':=λb hb=>⟨hb,hD b hb⟩;exact⟨λb s hs=>(h.node b s hs).move (λ_ _ h=>h) hm (.inl (hS b s hs)),λb s hs=>jQb (h.lI b s hs) hz,h.mT.mono hz,h.rS,λb hd=>by obtain⟨cs,t,f,hc⟩:=h.LR b hd;exact⟨cs,t,f,(hD b hd).trans hc⟩,
  λb s hs=>by obtain⟨cs,t,hc⟩:=h.A9 b s hs;exact⟨cs,t,(hS b s hs).trans hc⟩,h.td.move hm,λb s hs hi=>(h.st b s hs hi).move (λ_ _ h=>h) hm (hS b s hs)⟩
theorem TH.lW(h:TH w K S D W)(P:Nat->Prop)(hP:∀b,P b->b<W.heap.size/\S b=none/\∃cs t f,W.heap[b]?=some (.cells cs t f)):TH w K S (λb=>D b\/P b) W:=by
 have hm:au D (λb=>D b\/P b) W W:=λb hb=>⟨.inl hb,rfl⟩;refine⟨λb s hs=>(h.node b s hs).move (λ_ _ h=>h) hm (.inl rfl),h.lI,λb hb=>hb.elim (h.mT b) λhb=>(hP b hb).1,λb s hs hb=>hb.elim (h.rS b s hs) λhb=>absurd hs (by rw[(hP b hb).2.1];simp),λb hb=>hb.elim (h.LR b) λhb=>(hP b hb).2.2,h.A9,h.td.move hm,λb s hs hi=>(h.st b s hs hi).move (λ_ _ h=>h) hm rfl⟩
theorem TH.add(h:TH w K S D W)(hb:S b=none)(hd:¬D b)(aM:b<W.heap.size)(KU:∃cs t,W.heap[b]?=some (.cells cs t (0,0)))(hn:mZ (cE S b s) D W b s)(cH:isIf s=true->StD w K (cE S b s) D W b s):TH w K (cE S b s) D W:=by
 have hS:=fG (s:=s) hb;have hm:au D D W W:=au.refl;refine⟨λb' s' hs=>?_,λb' s' hs=>?_,h.mT,λb' s' hs=>?_,h.LR,λb' s' hs=>?_,h.td,λb' s' hs hi=>?_⟩
 all_goals rcases dV hs with⟨rfl,rfl⟩|⟨bk,oC⟩
 ·exact hn
 ·exact(h.node b' s' oC).move hS hm (.inl rfl)
 ·exact aM
 ·exact h.lI b' s' oC
 ·exact hd
 ·exact h.rS b' s' oC
 ·exact KU
 ·exact h.A9 b' s' oC
 ·exact cH hi
 ·exact(h.st b' s' oC hi).move hS hm rfl
structure Bl where
 bb:Nat
 pk:Nat
 ds:List Nat
 dv:Value
 ev:Value
 cv:Value
variable{B:Bl}
structure BS where
 S:Sg
 D:Nat->Prop
 mv:Value
 ml:List Nat
variable{aO eo fT σ:BS}
def r9(j:Nat):GT:=.mk 11 j 0 false es es []
def oA:GT:=.mk 15 0 0 false es es []
def sE:GT:=.mk 16 0 0 false es es []
def Loc(B:Bl)(DI:Nat->Prop)(σ:BS)(g:Nat):Prop:=σ.S g=none/\¬σ.D g/\g≠B.bb/\σ.mv.ownBlock≠some g/\¬DI g
structure Bs(NS:List ByteArray)(Q:GT->Prop)(w:List ah)(K:Nat)(B:Bl)(DI:Nat->Prop)(σ:BS)(W:World):Prop where
 th:TH w K σ.S σ.D W
 jl:W.heap[B.bb]?=some (.cells #[ptr B.pk,B.dv,B.ev,B.cv,σ.mv] 58 (0,0))
 Rm:IU σ.D W (some ⟨B.pk,0,none⟩)
 row:eE σ.D W (B.ds.map ptr) B.dv
 rn:∀j b,B.ds[j]?=some b->σ.S b=some (r9 j)
 dl:B.ds.length=w.length
 ev:dq σ.S B.ev oA
 cv:dq σ.S B.cv sE
 kJ:σ.S B.bb=none/\¬σ.D B.bb
 own:W.ownsRow 0 33 1 σ.mv σ.ml.length (σ.ml.map ptr)
 gY:∀g,σ.mv.ownBlock=some g->σ.S g=none/\¬σ.D g/\g≠B.bb
 made:∀b∈σ.ml,∃t,σ.S b=some (aG t)/\t.kind=10/\PT NS Q w 0 t
 di:∀b,DI b->b<W.heap.size/\b≠B.bb/\σ.mv.ownBlock≠some b/\σ.S b=none
 ifs:∀b s,σ.S b=some s->isIf s=true->s=aG da\/∃t,s=aG t/\t.kind=10/\PT NS Q w 0 t
structure Gr(B:Bl)(σ aO:BS)(W W':World):Prop where
 os:W'.os=W.os
 tape:W'.tape=W.tape
 output:W'.output=W.output
 size:W.heap.size<=W'.heap.size
 block:∀b,b<W.heap.size->b≠B.bb->σ.mv.ownBlock≠some b->W'.heap[b]?=W.heap[b]?
 sle:EH σ.S aO.S
 uF:∀b s,aO.S b=some s->σ.S b=some s\/W.heap.size<=b
 xQ:∀b s,aO.S b=some s->cI s->σ.S b=some s
 Jo:∀b,σ.D b->aO.D b
 Jp:∀b,aO.D b->σ.D b\/W.heap.size<=b
 MQ:aO.mv.ownBlock=σ.mv.ownBlock\/∃g,aO.mv.ownBlock=some g/\W.heap.size<=g
theorem Gr.refl(σ:BS)(W:World):Gr B σ σ W W:=⟨rfl,rfl,rfl,jQ0 _,λ_ _ _ _=>rfl,λ_ _ h=>h,λ_ _ h=>.inl h,λ_ _ h _=>h,λ_ h=>h,λ_ h=>.inl h,.inl rfl⟩
theorem Gr.trans(h:Gr B σ aO W W')(h':Gr B aO fT W' W2):Gr B σ fT W W2:=by
 have hz:=h.size;refine⟨h'.os.trans h.os,h'.tape.trans h.tape,h'.output.trans h.output,jQd h.size h'.size,λb hb hn ho=>?_,λb s hs=>h'.sle b s (h.sle b s hs),λb s hs=>?_,λb s hs hi=>h.xQ b s (h'.xQ b s hs hi) hi,λb hd=>h'.Jo b (h.Jo b hd),λb hd=>?_,?_⟩
 ·refine(h'.block b m9 hn (λe=>?_)).trans (h.block b hb hn ho);obtain e'|⟨g,e',hg⟩:=h.MQ
  ·exact ho (e'.symm.trans e)
  ·rw[e']at e;cases e;omega
 ·rcases h'.uF b s hs with hs|hs
  ·exact h.uF b s hs
  ·exact .inr m9
 ·rcases h'.Jp b hd with hd|hd
  ·exact h.Jp b hd
  ·exact .inr m9
 ·obtain e|⟨g,e,hg⟩:=h'.MQ
  ·rw[e];exact h.MQ
  ·exact .inr ⟨g,e,m9⟩
theorem Gr.of(Ao:W'.os=W.os)(BH:W'.tape=W.tape)(DC:W'.output=W.output)(hz:W.heap.size<=W'.heap.size)(hb:∀b,b<W.heap.size->W'.heap[b]?=W.heap[b]?):Gr B σ σ W W':=
 ⟨Ao,BH,DC,hz,λb h _ _=>hb b h,λ_ _ h=>h,λ_ _ h=>.inl h,λ_ _ h _=>h,λ_ h=>h,λ_ h=>.inl h,.inl rfl⟩
theorem Gr.below(h:Below W.heap.size W W'):Gr B σ σ W W':=Gr.of h.os h.tape h.output h.size h.block
theorem Loc.gr(h:Loc B DI σ g)(hg:g<W.heap.size)(hr:Gr B σ aO W W'):Loc B DI aO g:=by
 refine⟨?_,λhd=>?_,h.2.2.1,λe=>?_,h.2.2.2.2⟩
 ·cases hs:aO.S g with
  |none=>rfl
  |some s=>
   rcases hr.uF g s hs with h'|h'
   ·rw[h.1]at h';cases h'
   ·omega
 ·rcases hr.Jp g hd with h'|h'
  ·exact h.2.1 h'
  ·omega
 ·obtain e'|⟨g',e',nG⟩:=hr.MQ
  ·exact h.2.2.2.1 (e'.symm.trans e)
  ·rw[e']at e;cases e;omega
theorem Loc.same(h:Loc B DI σ g)(hg:g<W.heap.size)(hr:Gr B σ aO W W'):W'.heap[g]?=W.heap[g]?:=hr.block g hg h.2.2.1 h.2.2.2.1
theorem Bs.lt(h:Bs NS Q w K B DI σ W):B.bb<W.heap.size/\∀g,σ.mv.ownBlock=some g->g<W.heap.size:=by
 refine⟨jQ2 h.jl,λg hg=>?_⟩;rcases h.own.2 with⟨e,_⟩|⟨g',cap,cur,e,k1,k2,k3⟩
 ·rw[e]at hg;simp[Value.ownBlock]at hg
 ·rw[e]at hg;simp[Value.ownBlock]at hg;subst hg;exact jQ2 k2
theorem Bs.loc(h:Bs NS Q w K B DI σ W)(hg:W.heap.size<=g):Loc B DI σ g:=by
 refine⟨?_,λhd=>?_,λe=>?_,λe=>?_,λhd=>?_⟩
 ·cases hs:σ.S g with
  |none=>rfl
  |some s=>have:=h.th.lI g s hs;omega
 ·have:=h.th.mT g hd;omega
 ·subst e;have:=h.lt.1;omega
 ·have:=h.lt.2 g e;omega
 ·have:=(h.di g hd).1;omega
theorem Bs.step(h:Bs NS Q w K B DI σ W)(hz:W.heap.size<=W'.heap.size)(hb:∀b,b<W.heap.size->¬Loc B DI σ b->W'.heap[b]?=W.heap[b]?):Bs NS Q w K B DI σ W':=by
 have hS:∀b s,σ.S b=some s->W'.heap[b]?=W.heap[b]?:=λb s hs=>hb b (h.th.lI b s hs) λhl=>by rw[hl.1]at hs;cases hs
 have hD:∀b,σ.D b->W'.heap[b]?=W.heap[b]?:=λb hd=>hb b (h.th.mT b hd) λhl=>hl.2.1 hd;have hm:au σ.D σ.D W W':=λb hb=>⟨hb,hD b hb⟩;refine⟨h.th.cR hz hS hD,(hb B.bb h.lt.1 λhl=>hl.2.2.1 rfl).trans h.jl,h.Rm.move hm,h.row.move hm,h.rn,h.dl,h.ev,h.cv,h.kJ,?_,h.gY,h.made,λb hd=>⟨jQb (h.di b hd).1 hz,(h.di b hd).2⟩,h.ifs⟩;refine⟨h.own.1,h.own.2.imp id λ⟨g,cap,cur,e,k1,k2,k3⟩=>⟨g,cap,cur,e,k1,(hb g (jQ2 k2) λhl=>hl.2.2.2.1 (by rw[e];simp[Value.ownBlock])).trans k2,k3⟩⟩
theorem Bs.below(h:Bs NS Q w K B DI σ W)(hb:Below W.heap.size W W'):Bs NS Q w K B DI σ W':=h.step hb.size λb hl _=>hb.block b hl
theorem Bs.C0(h:Bs NS Q w K B DI σ W)(hr:Gr B σ aO W W'):au DI DI W W':=λb hb=>⟨hb,hr.block b (h.di b hb).1 (h.di b hb).2.1 (h.di b hb).2.2.1⟩
theorem Bs.lW(h:Bs NS Q w K B DI σ W)(P:Nat->Prop)(hP:∀b,P b->Loc B DI σ b/\∃cs t f,W.heap[b]?=some (.cells cs t f)):Bs NS Q w K B DI {σ with D:=λb=>σ.D b\/P b} W:=by
 have hm:au σ.D (λb=>σ.D b\/P b) W W:=λb hb=>⟨.inl hb,rfl⟩;refine⟨h.th.lW P λb hb=>?_,h.jl,h.Rm.move hm,h.row.move hm,h.rn,h.dl,h.ev,h.cv,⟨h.kJ.1,λhd=>hd.elim h.kJ.2 λhp=>(hP _ hp).1.2.2.1 rfl⟩,h.own,λg hg=>⟨(h.gY g hg).1,λhd=>hd.elim (h.gY g hg).2.1 λhp=>(hP _ hp).1.2.2.2.1 hg,(h.gY g hg).2.2⟩,h.made,h.di,h.ifs⟩;obtain⟨hl,cs,t,f,hc⟩:=hP b hb;exact⟨jQ2 hc,hl.1,cs,t,f,hc⟩
theorem Bs.add(h:Bs NS Q w K B DI σ W)(hl:Loc B DI σ b){t:TypeId}(hc:W.heap[b]?=some (.cells cs t (0,0)))(hn:mZ (cE σ.S b s) σ.D W b s)(cH:isIf s=true->StD w K (cE σ.S b s) σ.D W b s/\(s=aG da\/∃t,s=aG t/\t.kind=10/\PT NS Q w 0 t)):
 Bs NS Q w K B DI {σ with S:=cE σ.S b s} W:=by
 have hS:=fG (s:=s) hl.1;have fp:∀g,g≠b->σ.S g=none->cE σ.S b s g=none:=λg hg h=>by unfold cE;rw[jQ4 hg];exact h
 exact⟨h.th.add hl.1 hl.2.1 (jQ2 hc) ⟨cs,t,hc⟩ hn λhi=>(cH hi).1,h.jl,h.Rm,h.row,λj d hd=>hS _ _ (h.rn j d hd),h.dl,h.ev.mono hS,h.cv.mono hS,⟨fp _ (λe=>hl.2.2.1 e.symm) h.kJ.1,h.kJ.2⟩,h.own,
  λg hg=>⟨fp g (λe=>hl.2.2.2.1 (e▸hg)) (h.gY g hg).1,(h.gY g hg).2⟩,λd hd=>by obtain⟨t,h1,h2⟩:=h.made d hd;exact⟨t,hS _ _ h1,h2⟩,λd hd=>⟨(h.di d hd).1,(h.di d hd).2.1,(h.di d hd).2.2.1,fp d (λe=>hl.2.2.2.2 (e▸hd)) (h.di d hd).2.2.2⟩,λb' s' hs hi=>(by
  rcases dV hs with⟨_,rfl⟩|⟨_,hs⟩
  ·exact(cH hi).2
  ·exact h.ifs b' s' hs hi)⟩
structure Md(NS:List ByteArray)(Q:GT->Prop)(w:List ah)(K:Nat)(B:Bl)(DI:Nat->Prop)(eo:BS)(W0:World)(n:Nat)(σ:BS)(W:World):Prop where
 bs:Bs NS Q w K B DI σ W
 gr:Gr B eo σ W0 W
 len:σ.ml.length<=eo.ml.length+n
def dC(NS:List ByteArray)(Q:GT->Prop)(w:List ah)(K:Nat)(B:Bl)(DI:Nat->Prop)(eo:BS)(W0:World)(n:Nat)(P:Value->BS->World->Prop)(e:Ending)(W':World):Prop:=
 ∃v aO,e=.returned v/\Md NS Q w K B DI eo W0 n aO W'/\P v aO W'
theorem Md.start(h:Bs NS Q w K B DI σ W):Md NS Q w K B DI σ W 0 σ W:=⟨h,Gr.refl _ _,jQ0 _⟩
theorem Md.more(h:Md NS Q w K B DI eo W0 n σ W)(hn:n<=m):Md NS Q w K B DI eo W0 m σ W:=⟨h.bs,h.gr,by have:=h.len;omega⟩
theorem Md.trans(h:Md NS Q w K B DI eo W0 n σ W)(h':Md NS Q w K B DI σ W m aO W'):Md NS Q w K B DI eo W0 (n+m) aO W':=⟨h'.bs,h.gr.trans h'.gr,by have:=h.len;have:=h'.len;omega⟩
theorem Md.below(h:Md NS Q w K B DI eo W0 n σ W)(hb:Below W.heap.size W W'):Md NS Q w K B DI eo W0 n σ W':=⟨h.bs.below hb,h.gr.trans (Gr.below hb),h.len⟩
theorem Md.step(h:Md NS Q w K B DI eo W0 n σ W)(Ao:W'.os=W.os)(BH:W'.tape=W.tape)(DC:W'.output=W.output)(hz:W.heap.size<=W'.heap.size)(hb:∀b,b<W.heap.size->¬(Loc B DI σ b/\W0.heap.size<=b)->W'.heap[b]?=W.heap[b]?):Md NS Q w K B DI eo W0 n σ W':=by
 refine⟨h.bs.step hz λb hl hn=>hb b hl λh'=>hn h'.1,?_,h.len⟩;have lA:=h.gr.size;exact⟨Ao.trans h.gr.os,BH.trans h.gr.tape,DC.trans h.gr.output,jQd lA hz,λb hl hn ho=>(hb b m9 λh'=>m9).trans (h.gr.block b hl hn ho),h.gr.sle,h.gr.uF,h.gr.xQ,h.gr.Jo,h.gr.Jp,h.gr.MQ⟩
theorem Md.ng(h:Md NS Q w K B DI eo W0 n σ W)(hp:iN E1 W W')(hE:∀b,E1 b->Loc B DI σ b/\W0.heap.size<=b):Md NS Q w K B DI eo W0 n σ W':=
 h.step hp.os hp.tape hp.output hp.size λb hl hn=>hp.block b hl λhe=>hn (hE b he)
theorem Md.put{bx:Nat}{t:TypeId}(h:Md NS Q w K B DI eo W0 n σ W)(hp:kT bx cs t W W')(hl:Loc B DI σ bx)(hz:W0.heap.size<=bx):Md NS Q w K B DI eo W0 n σ W':=
 h.step hp.os hp.tape hp.output (jQz hp.size.symm) λb _ hn=>hp.other b λe=>hn (e▸⟨hl,hz⟩)
theorem Md.lW(h:Md NS Q w K B DI eo W0 n σ W)(P:Nat->Prop)(hP:∀b,P b->(Loc B DI σ b/\W0.heap.size<=b)/\∃cs t f,W.heap[b]?=some (.cells cs t f)):Md NS Q w K B DI eo W0 n {σ with D:=λb=>σ.D b\/P b} W:=
 ⟨h.bs.lW P λb hb=>⟨(hP b hb).1.1,(hP b hb).2⟩,⟨h.gr.os,h.gr.tape,h.gr.output,h.gr.size,h.gr.block,h.gr.sle,h.gr.uF,h.gr.xQ,λb hb=>.inl (h.gr.Jo b hb),λb hb=>hb.elim (h.gr.Jp b) λhb=>.inr (hP b hb).1.2,h.gr.MQ⟩,h.len⟩
theorem Md.add(h:Md NS Q w K B DI eo W0 n σ W)(hl:Loc B DI σ b)(hz:W0.heap.size<=b){t:TypeId}(hc:W.heap[b]?=some (.cells cs t (0,0)))(dU:¬cI s)(hn:mZ (cE σ.S b s) σ.D W b s)(cH:isIf s=true->StD w K (cE σ.S b s) σ.D W b s/\(s=aG da\/∃t,s=aG t/\t.kind=10/\PT NS Q w 0 t)):
 Md NS Q w K B DI eo W0 n {σ with S:=cE σ.S b s} W:=
 ⟨h.bs.add hl hc hn cH,⟨h.gr.os,h.gr.tape,h.gr.output,h.gr.size,h.gr.block,λb' s' hs=>fG hl.1 b' s' (h.gr.sle b' s' hs),λb' s' hs=>by
  rcases dV hs with⟨rfl,rfl⟩|⟨_,hs⟩
  ·exact .inr hz
  ·exact h.gr.uF b' s' hs,λb' s' hs hi=>by
  rcases dV hs with⟨rfl,rfl⟩|⟨_,hs⟩
  ·exact absurd hi dU
  ·exact h.gr.xQ b' s' hs hi,h.gr.Jo,h.gr.Jp,h.gr.MQ⟩,h.len⟩
theorem Md.new(h:Md NS Q w K B DI eo W0 n σ W){t:TypeId}(dU:¬cI s)(hn:mZ (cE σ.S W.heap.size s) σ.D (W.alloc (.cells cs t)) W.heap.size s)(cH:isIf s=true->StD w K (cE σ.S W.heap.size s) σ.D (W.alloc (.cells cs t)) W.heap.size s/\(s=aG da\/∃t,s=aG t/\t.kind=10/\PT NS Q w 0 t)):
 Md NS Q w K B DI eo W0 n {σ with S:=cE σ.S W.heap.size s} (W.alloc (.cells cs t)):=
 (h.below (an W _)).add (h.bs.loc (jQ0 _)) h.gr.size (ak W _) dU hn cH
def qh(W:World)(cs:Array Value)(t:TypeId)(e:Ending)(W':World):Prop:=e=.returned (ptr W.heap.size)/\W'=W.alloc (.cells cs t)
theorem AO(T:TypeId)(x:Value)(W:World):Calls prog 58 #[.iface T x] W (qh W #[.iface T x] 200):=by
 go_enter func58,ntmps58;exact M9
theorem oF(T:TypeId)(x:Value)(W:World):Calls prog 59 #[.iface T x] W (qh W #[.iface T x] 145):=by
 go_enter func59,ntmps59;exact M9
theorem AG(T:TypeId)(x:Value)(n:Int)(W:World):Calls prog 57 #[.iface T x,.int .i64 n] W (qh W #[.int .i64 n,.iface T x] 169):=by
 go_enter func57,ntmps57;exact M9
theorem Dl(T:TypeId)(x:Value)(n:Int)(W:World):Calls prog 61 #[.int .i64 n,.iface T x] W (qh W #[.int .i64 n,.iface T x] 204):=by
 go_enter func61,ntmps61;exact M9
theorem Gh(T U:TypeId)(x y:Value)(W:World):Calls prog 60 #[.iface T x,.iface U y] W (qh W #[.iface T x,.iface U y] 202):=by
 go_enter func60,ntmps60;exact M9
theorem kR(t:Bool)(T:TypeId)(x:Value)(W:World):Calls prog 110 #[.bool t,.iface T x] W (qh W #[.bool t,.iface T x] 234):=by
 go_enter func110,ntmps110;exact M9
theorem xP(p n:ByteArray)(W:World):Calls prog 21 #[.string p,.string n] W (qh W #[.string p,.string n] 83):=by
 go_enter func21,ntmps21;exact M9
theorem jS(p:Int)(q:Option Addr)(n:ByteArray)(W:World):Calls prog 24 #[.int .i64 p,.pointer q,.string n,.nilIface] W (qh W #[.int .i64 p,.pointer q,.string n,.nilIface] 117):=by
 go_enter func24,ntmps24;exact M9
theorem iB(k p:Int)(q:Option Addr)(n:ByteArray)(T:TypeId)(x:Value)(W:World):Calls prog 46 #[.int .u8 k,.int .i64 p,.pointer q,.string n,.iface T x] W (qh W #[.int .i64 p,.pointer q,.string n,.iface T x,.int .u8 k,.bool false] 167):=by
 go_enter func46,ntmps46;exact M9
theorem tf(W:World):Calls prog 152 #[.pointer none] W (qh W #[.pointer none,.slice none 0 0,.slice none 0 0,.pointer none,.bool false,.bool false,.pointer none] 102):=by
 go_enter func152,ntmps152;exact M9
theorem rB(a:Option Addr)(n c:Nat)(W:World):Calls prog 111 #[.slice a (n+1) c] W (qh W #[.slice a (n+1) c] 233):=by
 go_enter func111,ntmps111;exact M9
theorem qx(a:Option Addr)(n c:Nat)(W:World):Calls prog 48 #[.slice a (n+1) c] W (qh W #[.slice a (n+1) c] 176):=by
 go_enter func48,ntmps48;exact M9
theorem kM(p:Int)(q:Option Addr)(n:ByteArray)(sb:Nat)(W:World):Calls prog 49 #[.int .i64 p,.pointer q,.string n,ptr sb] W (qh W #[.int .i64 p,.pointer q,.string n,.iface 90 (ptr sb),.bool false,.bool false] 178):=by
 go_enter func49,ntmps49;exact M9
theorem Fj(a:Option Addr)(c:Nat)(W:World):Calls prog 48 #[.slice a 0 c] W (dL W (.pointer none)):=by
 go_enter func48,ntmps48;exact M9
theorem Ae(p:Int)(q:Option Addr)(n:ByteArray)(T:TypeId)(x:Value)(W:World):Calls prog 108 #[.int .i64 p,.pointer q,.string n,.iface T x] W (qh W #[.int .i64 p,.pointer q,.string n,.iface T x,.int .u8 4,.bool false] 167):=by
 have hc:=iB 4 p q n T x W;go_enter func108,ntmps108;exact M123
theorem sW(p:Int)(q:Option Addr)(n:ByteArray)(T:TypeId)(x:Value)(W:World):Calls prog 67 #[.int .i64 p,.pointer q,.string n,.iface T x] W (qh W #[.int .i64 p,.pointer q,.string n,.iface T x,.int .u8 1,.bool false] 167):=by
 have hc:=iB 1 p q n T x W;go_enter func67,ntmps67;exact M123
theorem BG(p:Int)(q:Option Addr)(n:ByteArray)(T:TypeId)(x:Value)(W:World):Calls prog 106 #[.int .i64 p,.pointer q,.string n,.iface T x,.bool false] W (qh W #[.int .i64 p,.pointer q,.string n,.iface T x,.int .u8 6,.bool false] 167):=by
 have hc:=iB 6 p q n T x W;go_enter func106,ntmps106;exact M123
theorem zb(n:Int)(h0:0<=n)(h3:n<3)(W:World):Calls prog 62 #[.int .i64 n] W (dL W (.int .i64 n)):=by
 have hn:n=0\/n=1\/n=2:=m9
 obtain rfl|rfl|rfl:=hn
 all_goals
  clear h0 h3;go_enter func62,ntmps62;go_wp2_with fail;go_ret;exact⟨rfl,rfl⟩
abbrev abI:Go.Conc.Locks.MuLink:={lock:=53,unlock:=54,ilock:=101,iunlock:=102,lockSlow:=142,unlockSlow:=145,disable:=138,enable:=140,acquire:=141,relMerge:=143,cas32:=139,add32:=144,tMutex:=111,tIMutex:=109,tPMutex:=196,tPIMutex:=240,tPI32:=242,tUP:=244,tNoCopy:=106,tU32:=107}
theorem aaj:Go.Conc.Locks.MuLib prog abI:=
 ⟨func53,func54,func101,func102,func138,func140,func141,func143,func139,func144,
  underlying109,Tryz.runUnderlying109,sizeOf109,isAgg109,zeroValue109,
  underlying111,Tryz.runUnderlying111,sizeOf111,isAgg111,zeroValue111,
  underlying196,Tryz.runUnderlying196,sizeOf196,isAgg196,zeroValue196,
  underlying240,Tryz.runUnderlying240,sizeOf240,isAgg240,zeroValue240,
  underlying242,Tryz.runUnderlying242,sizeOf242,isAgg242,zeroValue242,
  underlying244,Tryz.runUnderlying244,sizeOf244,isAgg244,zeroValue244,
  underlying106,Tryz.runUnderlying106,sizeOf106,isAgg106,zeroValue106,
  underlying21,Tryz.runUnderlying21,sizeOf21,isAgg21,zeroValue21,g9⟩
theorem BJ(a:Addr)(w:World)(hc:w.cell? a=some (.int .i32 0))(hz:w.frozen? a=false):Calls prog 53 #[.pointer (some a)] w λe w'=>e=.returned (.tuple #[])/\w'=w.setCell a (.int .i32 1):=Go.MuLone.lock_free aaj a w hc hz
theorem vV(a:Addr)(u:FrameMode)(w:World)(hc:w.cell? a=some (.int .i32 1))(hz:w.frozen? a=false):CallsD prog 54 #[.pointer (some a)] u w λe u' w'=>u'=u/\(e=.returned (.tuple #[])/\w'=w.setCell a (.int .i32 0)):=Go.MuLone.unlock_deferred aaj a u w hc hz
theorem aeH(a:Addr)(x y s:Int)(w:World)(hc:w.cell? a=some (.int .u32 x))(hz:w.frozen? a=false)(hs:(Op.intBits .or .u32 x y).run prog w=.ok (.int .u32 s) w):
 (callFunc 103 #[.pointer (some a),.int .u32 y]).run prog w=.ok (.value (.int .u32 x)) (w.setCell a (.int .u32 s)):=by
 rw[run_callFunc_extern func103 g9 g9 g9 (e:=Extern.Atomic.update (Op.intBits .or) .u32 false) g9]
 change (Sem.run prog (do
  let a' <-asAddr (.pointer (some a))
  let NT <-Extern.Atomic.read (.int .u32) a'
  let new <-Op.intBits .or .u32 (<-asInt NT) (<-asInt (.int .u32 y))
  store a' new .atomic
  pure (if false=true then new else NT)) w).andThen _=_
 simp[Extern.Atomic.read,asAddr,asInt,asIntOf,hc,hz,hs,run_store prog w a (.int .u32 s) .atomic rfl,Result.andThen]
theorem Eg(T:TypeId)(x:Value)(W:World)(hT:¬T=125):Calls prog 100 #[.iface T x] W (dL W (.iface T x)):=by
 have fp:=λw=>my T x 37 w hT;clear hT;exact M197
theorem MJ(W:World):Calls prog 100 #[.nilIface] W (dL W .nilIface):=M197
theorem yb(T:TypeId)(x:Value)(W:World)(hT:¬T=125)(hN:¬T=53):Calls prog 51 #[.iface T x] W (dL W (.pointer none)):=by
 have hc:=Eg T x W hT;have fp:=λw=>uf T x 37 w hN;clear hT hN;exact M175
theorem MK(W:World):Calls prog 51 #[.nilIface] W (dL W (.pointer none)):=by
 have hc:=MJ W;exact M175
abbrev yQ(ob:Nat)(al:Bool):Obj:=.cells #[.pointer none,ptr ob,.bool al,.int .i32 0,.int .u32 0,.int .u32 0,.nilIface,.nilIface,.bool false,.slice none 0 0] 113
def Ni(W:World)(ob:Nat)(al:Bool)(pos pk nm:Value)(e:Ending)(W':World):Prop:=
 e=.returned (ptr W.heap.size)/\W'.heap.size=W.heap.size+1/\W'.os=W.os/\W'.tape=W.tape/\W'.output=W.output/\W'.heap[W.heap.size]?=some (yQ ob al)/\W'.heap[ob]?=some (.cells #[pos,pk,nm,.iface 53 (ptr W.heap.size)] 117 (0,0))/\∀b,b<W.heap.size->b≠ob->W'.heap[b]?=W.heap[b]?
theorem qH(ob:Nat)(pos pk nm:Value)(W:World)(h:W.heap[ob]?=some (.cells #[pos,pk,nm,.nilIface] 117 (0,0))):
 Calls prog 45 #[.pointer none,ptr ob,.nilIface,.slice none 0 0] W (Ni W ob false pos pk nm):=by
 have aM:=jQ2 h;have hg:(W.alloc (yQ ob false)).heap[ob]?=some (.cells #[pos,pk,nm,.nilIface] 117 (0,0)):=aq h;have c3:(W.alloc (yQ ob false)).cell? ⟨ob,3,none⟩=some .nilIface:=by simp[World.cell?,hg]
 have fz:=cd hg 3;have bk:ob≠W.heap.size:=m9
 go_enter func45,ntmps45;go_wp2_with fail;go_ret;have hp:=aw h 3 (.iface 53 (ptr W.heap.size));have h1:=ak (W.setCell ⟨ob,3,none⟩ (.iface 53 (ptr W.heap.size))) (yQ ob false);have hb:=an (W.setCell ⟨ob,3,none⟩ (.iface 53 (ptr W.heap.size))) (yQ ob false);exact M43
theorem mK(ob:Nat)(pos pk nm:Value)(W:World)(h:W.heap[ob]?=some (.cells #[pos,pk,nm,.nilIface] 117 (0,0))):
 Calls prog 23 #[ptr ob,.nilIface,.slice none 0 0] W (Ni W ob true pos pk nm):=by
 have Xf:=MK W;have hc:=qH ob pos pk nm W h;have aM:=jQ2 h;clear h;go_enter func23,ntmps23;go_wp2_with fail;refine rv Xf ?_;go_wp2_with fail;refine hc.mono ?_;rintro e w' ⟨rfl,h1,h2,h3,h4,h5,h6,h7⟩;have c2:w'.cell? ⟨w'.heap.size - 1,2,none⟩=some (.bool false):=by rw[h1];simp[World.cell?,h5]
 have H5:=Z h5;rw[show W.heap.size=w'.heap.size - 1 by omega]at h5;have fz:=cd h5 2;rw[h1,Nat.add_sub_cancel]at c2 fz;clear hc Xf h5;go_wp2_with fail;go_ret;have hp:=aw H5.1 2 (.bool true);refine⟨rfl,hp.size.trans h1,hp.os.trans h2,hp.tape.trans h3,hp.output.trans h4,hp.here,(hp.other _ m9).trans h6,λb hb hn=>(hp.other b m9).trans (h7 b hb hn)⟩
def F2(b:Nat)(cs:Array Value)(t:TypeId)(W:World)(e:Ending)(W':World):Prop:=e=.returned (.tuple #[])/\kT b cs t W W'
theorem j5(b:Nat)(x y s:Int)(W:World){v0 v1 v2 v3 v4 v6 v7 v8 v9:Value}(h:W.heap[b]?=some (.cells #[v0,v1,v2,v3,v4,.int .u32 x,v6,v7,v8,v9] 113 (0,0)))(hs:∀w,(Op.intBits .or .u32 x y).run prog w=.ok (.int .u32 s) w):
 Calls prog 55 #[ptr b,.int .u32 y] W (F2 b #[v0,v1,v2,v3,v4,.int .u32 s,v6,v7,v8,v9] 113 W):=by
 have hl:=aeH ⟨b,5,none⟩ x y s W (by simp[World.cell?,h]) (cd h 5) (hs W);have hp:=Z (aw h 5 (.int .u32 s));clear hs h;go_enter func55,ntmps55;go_wp2_with fail;refine jRq (v:=.tuple #[]) (by simp[results,Tryz.results55,go_sem]) rfl ?_;exact⟨rfl,hp.1⟩
theorem afx(w:World):(Op.intBits .or .u32 0 7).run prog w=.ok (.int .u32 7) w:=g9
theorem afy(w:World):(Op.intBits .or .u32 7 8).run prog w=.ok (.int .u32 15) w:=g9
theorem vd(b ob:Nat)(al:Bool)(T:TypeId)(x ms:Value)(W:World)(hT:¬T=125)(hN:¬T=53)(h:W.heap[b]?=some (.cells #[.pointer none,ptr ob,.bool al,.int .i32 0,.int .u32 0,.int .u32 0,.nilIface,.nilIface,.bool false,ms] 113 (0,0))):
 Calls prog 27 #[ptr b,.iface T x] W (F2 b #[.pointer none,ptr ob,.bool false,.int .i32 0,.int .u32 0,.int .u32 15,.iface T x,.iface T x,.bool false,ms] 113 W):=by
 have lk:=yb T x W hT hN;have fL:=BJ ⟨b,3,none⟩ W (by simp[World.cell?,h]) (cd h 3);have ke:=aw h 3 (.int .i32 1);have H:=Z h;clear hT hN h
 go_enter_defers func27,ntmps27
 go_wp2_with fail;refine rv lk ?_;go_wp2_with fail;refine rv fL ?_;generalize W.setCell ⟨b,3,none⟩ (.int .i32 1)=W1 at ke⊢;have h1:=ke.here;simp only[Array.setIfInBounds]at h1;simp at h1;have f1:=cd h1 6;have f2:=cd h1 2;have c6:W1.cell? ⟨b,6,none⟩=some .nilIface:=by simp[World.cell?,h1]
 exact M18
abbrev vF(ob og fr ac:Value):Obj:=.cells #[ob,og,fr,ac] 248
def oO(W:World):Nat->TypeId->Value->TypeId->Value->Prop
 |0,T,x,U,y=>T≠125/\U=T/\y=x
 |n+1,T,x,U,y=>∃b ob og T' x' ac,T=125/\x=ptr b/\W.heap[b]?=some (vF ob og (.iface T' x') ac)/\oO W n T' x' U y
theorem oO.cR:∀{n:Nat} {T U:TypeId} {x y:Value},(∀(b:Nat) (cs:Array Value) (t:TypeId) (f:Nat×Nat),W.heap[b]?=some (Obj.cells cs t f)->W'.heap[b]?=some (Obj.cells cs t f))->oO W n T x U y->oO W' n T x U y
 |0,_,_,_,_,_,h=>h
 |n+1,_,_,_,_,hb,⟨b,ob,og,T',x',ac,h1,h2,h3,h4⟩=>⟨b,ob,og,T',x',ac,h1,h2,hb _ _ _ _ h3,h4.cR hb⟩
theorem oO.aaa(ob:Nat)(hb:∀b,b<W.heap.size->b≠ob->W'.heap[b]?=W.heap[b]?)(Nj:∀cs f,W.heap[ob]?≠some (.cells cs 248 f)):∀{n:Nat} {T U:TypeId} {x y:Value},oO W n T x U y->oO W' n T x U y
 |0,_,_,_,_,h=>h
 |n+1,_,_,_,_,⟨b,o,og,T',x',ac,h1,h2,h3,h4⟩=>⟨b,o,og,T',x',ac,h1,h2,(hb b (jQ2 h3) (λe=>Nj _ _ (e▸h3))).trans h3,h4.aaa ob hb Nj⟩
def UaS(W:World)(U:TypeId)(y:Value)(gg:Nat)(s3 s4:Value):Prop:=
 (s4=.pointer none/\s3=.iface U y)\/∃b ob og T x ac n,s4=ptr b/\W.heap[b]?=some (vF ob og (.iface T x) ac)/\oO W n T x U y/\n+1<=gg
theorem A6(b:Nat)(ob og:Value)(T U:TypeId)(x y:Value)(n:Nat)(W:World)(h:W.heap[b]?=some (vF ob og (.iface T x) .nilIface))(ND:oO W n T x U y):
 Calls prog 137 #[ptr b] W λe W'=>e=.returned (.iface U y)/\kT b #[ob,og,.iface T x,.iface U y] 248 W W':=by
 have c3:W.cell? ⟨b,3,none⟩=some .nilIface:=by simp[World.cell?,h]
 have H:=Z h;have HC:=Z ND;clear h ND;go_enter func137,ntmps137;go_wp2_with fail;clear c3
 go_loopg [3,4] (n+1) (λgg s3 s4 wr=>UaS W U y gg s3 s4/\wr=W)
 case atStart=>exact⟨.inr ⟨b,ob,og,T,x,_,n,rfl,H.1,HC.1,jQ0 _⟩,rfl⟩
 case round=>
  obtain⟨hu,rfl⟩:=hrel;rcases hu with⟨rfl,rfl⟩|⟨b2,ob2,og2,T2,x2,ac2,n2,rfl,cX,fL,iK⟩
  ·have c3:wr.cell? ⟨b,3,none⟩=some .nilIface:=by simp[World.cell?,H.1]
   have fz:=cd H.1 3;have hp:=Z (aw H.1 3 (.iface U y));go_wp2_with fail;go_ret;exact⟨rfl,hp.1⟩
  ·have c2:wr.cell? ⟨b2,2,none⟩=some (.iface T2 x2):=by simp[World.cell?,cX]
   have dP:=Z cX;clear cX;cases n2 with
   |zero=>
    obtain⟨hT,rfl,rfl⟩:=fL;have fp:=λw=>my U y 37 w hT;clear hT;go_wp2_with fail;go_roundg 0
    case measure=>omega
    case rel=>exact⟨.inl ⟨rfl,rfl⟩,rfl⟩
   |succ n2=>
    obtain⟨b3,ob3,og3,T3,x3,ac3,rfl,rfl,h3,h4⟩:=fL;go_wp2_with fail;go_roundg (n2+1)
    case measure=>omega
    case rel=>exact⟨.inr ⟨b3,ob3,og3,T3,x3,ac3,n2,rfl,h3,h4,jQ0 _⟩,rfl⟩
def NG(W:World)(ob:Nat)(pos pk nm fr ac:Value)(e:Ending)(W':World):Prop:=
 e=.returned (ptr W.heap.size)/\W'.heap.size=W.heap.size+1/\W'.os=W.os/\W'.tape=W.tape/\W'.output=W.output/\W'.heap[W.heap.size]?=some (vF (ptr ob) (ptr W.heap.size) fr ac)/\W'.heap[ob]?=some (.cells #[pos,pk,nm,.iface 125 (ptr W.heap.size)] 117 (0,0))/\∀b,b<W.heap.size->b≠ob->W'.heap[b]?=W.heap[b]?
theorem A7(ob:Nat)(pos pk nm:Value)(T:TypeId)(x:Value)(W:World)(h:W.heap[ob]?=some (.cells #[pos,pk,nm,.nilIface] 117 (0,0))):
 Calls prog 104 #[.pointer none,ptr ob,.iface T x] W (NG W ob pos pk nm (.iface T x) .nilIface):=by
 have aM:=jQ2 h;have hg:(W.alloc (vF (ptr ob) (ptr W.heap.size) (.iface T x) .nilIface)).heap[ob]?=some (.cells #[pos,pk,nm,.nilIface] 117 (0,0)):=aq h;have c3:(W.alloc (vF (ptr ob) (ptr W.heap.size) (.iface T x) .nilIface)).cell? ⟨ob,3,none⟩=some .nilIface:=by simp[World.cell?,hg]
 have fz:=cd hg 3;have bk:ob≠W.heap.size:=m9
 go_enter func104,ntmps104;go_wp2_with fail;go_ret;have hp:=aw h 3 (.iface 125 (ptr W.heap.size));have h1:=ak (W.setCell ⟨ob,3,none⟩ (.iface 125 (ptr W.heap.size))) (vF (ptr ob) (ptr W.heap.size) (.iface T x) .nilIface);have hb:=an (W.setCell ⟨ob,3,none⟩ (.iface 125 (ptr W.heap.size))) (vF (ptr ob) (ptr W.heap.size) (.iface T x) .nilIface);exact M43
theorem Dy(b:Nat)(ob og:Value)(T U:TypeId)(x y:Value)(n:Nat)(W:World)(h:W.heap[b]?=some (vF ob og (.iface T x) .nilIface))(ND:oO W n T x U y):
 Calls prog 105 #[ptr b] W (F2 b #[ob,og,.iface T x,.iface U y] 248 W):=by
 have hc:=A6 b ob og T U x y n W h ND;clear h ND;go_enter func105,ntmps105;go_wp2_with fail;refine hc.mono ?_;rintro e w' ⟨rfl,hp⟩;have HP:=Z hp;clear hc hp;go_wp2_with fail;refine jRq (v:=.tuple #[]) (by simp[results,Tryz.results105,go_sem]) rfl ?_;exact⟨rfl,HP.1⟩
theorem A8(ob:Nat)(pos pk nm:Value)(T U:TypeId)(x y:Value)(n:Nat)(W:World)(h:W.heap[ob]?=some (.cells #[pos,pk,nm,.nilIface] 117 (0,0)))(ND:oO W n T x U y):
 Calls prog 56 #[ptr ob,.iface T x] W (NG W ob pos pk nm (.iface T x) (.iface U y)):=by
 have hc:=A7 ob pos pk nm T x W h;have aM:=jQ2 h;have H:=Z h;have HC:=Z ND;clear h ND;go_enter func56,ntmps56;go_wp2_with fail;refine hc.mono ?_;rintro e w' ⟨rfl,h1,h2,h3,h4,h5,h6,h7⟩;have ND:oO w' n T x U y:=HC.1.aaa ob (λb hb hn=>h7 b hb hn) (by rw[H.1];simp);have fL:=Dy W.heap.size (ptr ob) (ptr W.heap.size) T U x y n w' h5 ND;have HH:=Z (And.intro h1 (And.intro h2 (And.intro h3 (And.intro h4 (And.intro h6 h7)))));clear hc h1 h2 h3 h4 h5 h6 h7 ND;go_wp2_with fail;refine fL.mono ?_;rintro e w2 ⟨rfl,hp⟩;have HP:=Z hp;clear fL hp;go_wp2_with fail;go_ret;obtain⟨h1,h2,h3,h4,h6,h7⟩:=HH.1;exact M97
def VG(k:Int)(W:World)(e:Ending)(W':World):Prop:=∃b info nm,e=.returned (ptr b)/\W.heap.size<=b/\Below W.heap.size W W'/\W'.heap[b]?=some (.cells #[.int .i64 k,.int .i64 info,.string nm] 159 (0,0))
def allocs:World->List Obj->World
 |w,[]=>w
 |w,o::l=>allocs (w.alloc o) l
theorem jT:∀(l:List Obj) (w:World),Below w.heap.size w (allocs w l)
 |[],w=>jQ5 _ _
 |o::l,w=>(an w o).trans ((jT l (w.alloc o)).mono i6)
theorem eL:∀(l:List Obj) (w:World) (j:Nat) (o:Obj),l[j]?=some o->(allocs w l).heap[w.heap.size+j]?=some o
 |[],w,j,o,h=>by simp at h
 |o'::l,w,0,o,h=>by
  simp at h;subst h;exact((jT l (w.alloc o')).block _ i6).trans (ak w o')
 |o'::l,w,j+1,o,h=>by
  have:=eL l (w.alloc o') j o (by simpa using h);rw[jQ3]at this;rw[show w.heap.size+(j+1)=w.heap.size+1+j by omega];exact this
def agk(W wc:World):Prop:=∃(l:List Obj) (arr:Array Value) (t:TypeId) (f:Nat×Nat),wc=allocs W l/\l[26]?=some (.cells arr t f)/\∀j:Nat,1<=j->j<19->arr[j]?=some (ptr (W.heap.size+j))/\∃info nm,l[j]?=some (.cells #[.int .i64 j,.int .i64 info,.string nm] 159)
theorem VH(h:agk W wc)(h1:1<=j)(h2:j<19):wc.cell? ⟨W.heap.size+26,j,none⟩=some (ptr (W.heap.size+j))/\VG j W (.returned (ptr (W.heap.size+j))) wc:=by
 obtain⟨l,arr,t,f,rfl,ha,hj⟩:=h;obtain⟨k1,info,nm,k2⟩:=hj j h1 h2;refine⟨?_,W.heap.size+j,info,nm,rfl,m9,jT _ _,eL l W j _ k2⟩;have:=eL l W 26 _ ha;simp[World.cell?,this,k1]
theorem Ee(j:Nat)(h1:1<=j)(h2:j<19)(W:World):Calls prog 47 #[.int .i64 j] W (VG j W):=by
 have hi:(j:Int)<26:=m9
 have hi2:j<26:=m9
 have hi3:0<=(j:Int):=m9
 go_enter func47,ntmps47
 go_upto_region 1 with fail
 go_cut [3] (λv wc=>v=.slice (some ⟨W.heap.size+26,0,none⟩) 26 26/\agk W wc)
 case first=>
  go_wp2_with fail
  go_meet
  refine⟨rfl,⟨[_,_,_,_,_,_,_,_,_,_,_,_,_,_,_,_,_,_,_,_,_,_,_,_,_,_,_],_,_,_,rfl,rfl,λj h1 h2=>?_⟩⟩
  match j,h1,h2 with
  |1,_,_=>exact⟨rfl,_,_,rfl⟩
  |2,_,_=>exact⟨rfl,_,_,rfl⟩
  |3,_,_=>exact⟨rfl,_,_,rfl⟩
  |4,_,_=>exact⟨rfl,_,_,rfl⟩
  |5,_,_=>exact⟨rfl,_,_,rfl⟩
  |6,_,_=>exact⟨rfl,_,_,rfl⟩
  |7,_,_=>exact⟨rfl,_,_,rfl⟩
  |8,_,_=>exact⟨rfl,_,_,rfl⟩
  |9,_,_=>exact⟨rfl,_,_,rfl⟩
  |10,_,_=>exact⟨rfl,_,_,rfl⟩
  |11,_,_=>exact⟨rfl,_,_,rfl⟩
  |12,_,_=>exact⟨rfl,_,_,rfl⟩
  |13,_,_=>exact⟨rfl,_,_,rfl⟩
  |14,_,_=>exact⟨rfl,_,_,rfl⟩
  |15,_,_=>exact⟨rfl,_,_,rfl⟩
  |16,_,_=>exact⟨rfl,_,_,rfl⟩
  |17,_,_=>exact⟨rfl,_,_,rfl⟩
  |18,_,_=>exact⟨rfl,_,_,rfl⟩
  |n+19,_,h=>omega
 case rest=>
  obtain⟨rfl,hL⟩:=hcut;obtain⟨hc,hR⟩:=VH hL h1 h2;have HR:=Z hR;clear hL hR h1 h2;go_wp2_with fail;go_ret;exact HR.1
mutual
def nds:GT->Nat
 |.mk _ _ _ _ _ _ l=>1+ndss l
def ndss:List GT->Nat
 |[]=>0
 |e::l=>nds e+ndss l
end
theorem Gp(t:GT):1<=nds t:=by obtain⟨k,n,m,va,nm,tg,l⟩:=t;rw[nds];omega
theorem gq(t:GT):nds t=1+ndss t.elems:=by obtain⟨k,n,m,va,nm,tg,l⟩:=t;rw[nds];rfl
theorem wH:∀{l:List GT} {e:GT},e∈l->nds e<=ndss l
 |a::l,e,h=>by
  rw[ndss];rcases jQn.1 h with rfl|h
  ·omega
  ·have:=wH h;omega
theorem wJ:∀(l l':List GT),ndss (l++l')=ndss l+ndss l'
 |[],l'=>by simp[ndss]
 |e::l,l'=>by rw[jRh,ndss,ndss,wJ l l'];omega
theorem lQ(l:List GT)(k:Nat):ndss (l.take k)<=ndss l:=by
 have:=wJ (l.take k) (l.drop k);rw[jRo]at this;omega
theorem lP{l:List GT}(h:l[k]?=some e):ndss (l.take (k+1))=ndss (l.take k)+nds e:=by
 rw[jRm,h,wJ];simp[ndss]
theorem D4{md:Nat}(h:PT NS Q w md t):∀e∈t.elems,PT NS Q w 2 e:=by
 have up:∀{md:Nat} {v f:Bool} {e:GT},md<=2->PL w.length NS Q (λ_=>True) md v f e->PT NS Q w 2 e:=λhm he=>((he.up (A':=λ_=>True) (λ_ _=>trivial)).eS (md':=2) (v':=true) (f':=true) (jQ0 _) (λ_ h=>h) hm id id);cases h with
 |basic a b=>intro e he;simp[GT.elems]at he
 |uni a=>intro e he;simp[GT.elems]at he
 |named a b c=>intro e he;simp[GT.elems]at he
 |al a b h1=>intro e he;simp[GT.elems]at he;subst he;exact up m9 h1
 |st a b h1=>intro e he;exact up m9 (h1 e he)
 |@ifc _ _ _ _ m _ _ _ l a b c d e g h1 h2 q=>
  intro x hx;simp only[GT.elems]at hx;rw[<-jRo m.toNat l]at hx;rcases jQm.1 hx with hx|hx
  ·exact up m9 (h1 x hx)
  ·exact up m9 (h2 x hx)
 |one a b c h1=>intro e he;simp[GT.elems]at he;subst he;exact up m9 h1
 |mp h1 h2=>intro e he;simp[GT.elems]at he;obtain rfl|rfl:=he;exact up m9 h1;exact up m9 h2
 |fn a b c h1=>intro e he;exact up m9 (h1 e he)
 |ti a h1=>intro e he;simp[GT.elems]at he;subst he;exact up m9 h1
 |un a b c h1=>intro e he;exact up m9 (h1 e he)
section
variable(NS:List ByteArray)(Q:GT->Prop)(w:List ah)(K:Nat)(B:Bl)(DI:Nat->Prop)
def dR(N:Nat):Prop:=∀(t:GT) (σ:BS) (W:World) (v:Value),nds t<=N->PT NS Q w 2 t->Bs NS Q w K B DI σ W->RT DI W t v->σ.ml.length+nds t<=1099511627776->
 Calls prog 28 #[ptr B.bb,v] W (dC NS Q w K B DI σ W (nds t) λu aO _=>dq aO.S u t)
end
theorem Md.fin(h:Md NS Q w K B DI eo W0 n σ W)(dA:t.kind≠11)(mM:t.kind≠14)(ka:t.kind≠15)(ir:t.kind≠16)(cP:isIf t=false)(hn:mZ (cE σ.S W.heap.size (aG t)) σ.D (W.alloc (.cells cs ty)) W.heap.size (aG t)):
 dC NS Q w K B DI eo W0 n (λu aO _=>dq aO.S u t) (.returned (.iface (tid t.kind) (ptr W.heap.size))) (W.alloc (.cells cs ty)):=by
 have hk:(aG t).kind=t.kind:=aI mM;refine⟨_,_,rfl,h.new (s:=aG t) (λhi=>?_) hn (λhi=>?_),⟨_,rfl,fH _ _ _⟩⟩
 ·unfold cI at hi;rw[hk]at hi;omega
 ·unfold isIf at hi cP;rw[hk]at hi;rw[hi]at cP;cases cP
theorem lh(h:S b=none)(hv:dq S v t):dq (cE S b s) v t:=hv.mono (fG h)
theorem Md.sn(h:Md NS Q w K B DI eo W0 n σ W):σ.S W.heap.size=none:=(h.bs.loc (jQ0 _)).1
theorem fa(dA:t.kind≠11)(mM:t.kind≠14)(ka:t.kind≠15)(ir:t.kind≠16):(aG t).kind=t.kind/\(aG t).n=t.n/\(aG t).m=t.m/\(aG t).va=t.va/\(aG t).elems=t.elems:=by
 rw[aW dA mM ka ir];exact⟨rfl,rfl,rfl,rfl,rfl⟩
theorem ag2(h:Md NS Q w K B DI eo W0 n σ W)(hk:t.kind=4)(he:t.elems=[e])(hv:dq σ.S v e):
 dC NS Q w K B DI eo W0 n (λu aO _=>dq aO.S u t) (.returned (.iface 129 (ptr W.heap.size))) (W.alloc (.cells #[v] 200)):=by
 obtain⟨k1,k2,k3,k4,k5⟩:=fa (t:=t) m9 m9 m9 m9;have:=h.fin (t:=t) (cs:=#[v]) (ty:=200) m9 m9 m9 m9 (by simp[isIf,hk])
  ⟨m9,m9,m9,λ_=>⟨v,e,by rw[k5,he],ak _ _,lh h.sn hv⟩,m9,m9,m9,m9,m9,m9,m9⟩
 exact M222
theorem ad9(h:Md NS Q w K B DI eo W0 n σ W)(hk:t.kind=6)(he:t.elems=[e])(hv:dq σ.S v e):
 dC NS Q w K B DI eo W0 n (λu aO _=>dq aO.S u t) (.returned (.iface 131 (ptr W.heap.size))) (W.alloc (.cells #[v] 145)):=by
 obtain⟨k1,k2,k3,k4,k5⟩:=fa (t:=t) m9 m9 m9 m9;have:=h.fin (t:=t) (cs:=#[v]) (ty:=145) m9 m9 m9 m9 (by simp[isIf,hk])
  ⟨m9,m9,m9,m9,m9,λ_=>⟨v,e,by rw[k5,he],ak _ _,lh h.sn hv⟩,m9,m9,m9,m9,m9⟩
 exact M222
theorem agV(h:Md NS Q w K B DI eo W0 n σ W)(hk:t.kind=3)(he:t.elems=[e])(hv:dq σ.S v e):
 dC NS Q w K B DI eo W0 n (λu aO _=>dq aO.S u t) (.returned (.iface 127 (ptr W.heap.size))) (W.alloc (.cells #[.int .i64 t.n,v] 169)):=by
 obtain⟨k1,k2,k3,k4,k5⟩:=fa (t:=t) m9 m9 m9 m9;have:=h.fin (t:=t) (cs:=#[.int .i64 t.n,v]) (ty:=169) m9 m9 m9 m9 (by simp[isIf,hk])
  ⟨m9,m9,λ_=>⟨v,e,by rw[k5,he],by rw[k2];exact ak _ _,lh h.sn hv⟩,m9,m9,m9,m9,m9,m9,m9,m9⟩
 exact M222
theorem agW(h:Md NS Q w K B DI eo W0 n σ W)(hk:t.kind=9)(he:t.elems=[e])(hv:dq σ.S v e):
 dC NS Q w K B DI eo W0 n (λu aO _=>dq aO.S u t) (.returned (.iface 135 (ptr W.heap.size))) (W.alloc (.cells #[.int .i64 t.n,v] 204)):=by
 obtain⟨k1,k2,k3,k4,k5⟩:=fa (t:=t) m9 m9 m9 m9;have:=h.fin (t:=t) (cs:=#[.int .i64 t.n,v]) (ty:=204) m9 m9 m9 m9 (by simp[isIf,hk])
  ⟨m9,m9,m9,m9,m9,m9,m9,m9,λ_=>⟨v,e,by rw[k5,he],by rw[k2];exact ak _ _,lh h.sn hv⟩,m9,m9⟩
 exact M222
theorem aid(h:Md NS Q w K B DI eo W0 n σ W)(hk:t.kind=8)(he:t.elems=[e,e2])(hv:dq σ.S v e)(hu:dq σ.S u e2):
 dC NS Q w K B DI eo W0 n (λu aO _=>dq aO.S u t) (.returned (.iface 133 (ptr W.heap.size))) (W.alloc (.cells #[v,u] 202)):=by
 obtain⟨k1,k2,k3,k4,k5⟩:=fa (t:=t) m9 m9 m9 m9;have:=h.fin (t:=t) (cs:=#[v,u]) (ty:=202) m9 m9 m9 m9 (by simp[isIf,hk])
  ⟨m9,m9,m9,m9,m9,m9,m9,λ_=>⟨v,u,e,e2,by rw[k5,he],ak _ _,lh h.sn hv,lh h.sn hu⟩,m9,m9,m9⟩
 exact M222
theorem Jl{S:Sg}{D:Nat->Prop}(hn:∀b s,S b=some s->mZ S D W b s):∀(m:Nat) (t:GT) (T:TypeId) (x:Value),nds t<=m->dq S (.iface T x) t->(t.kind=2->∃e,t.elems=[e])->∃k U y,oO W k T x U y/\dq S (.iface U y) (una t)
 |0,t,_,_,hm,_,_=>by have:=Gp t;omega
 |m+1,t,T,x,hm,hv,uB=>by
  obtain⟨b,e1,hs⟩:=id hv;simp at e1;obtain⟨rfl,rfl⟩:=e1;by_cases h2:t.kind=2
  ·obtain⟨k1,k2,k3,k4,k5⟩:=fa (t:=t) m9 m9 m9 m9;obtain⟨ob,og,fr,ac,hb, -,e,he,mW⟩:=(hn b _ hs).2.1 m9;obtain⟨bf,rfl,hsf⟩:=id mW;have dN:nds e<=m:=by
    have h1:=gq t;rw[<-k5,he]at h1;simp[ndss]at h1;omega
   obtain⟨k,U,y,h1,Is⟩:=Jl hn m e _ _ dN mW (λh=>by
    have hk':(aG e).kind=2:=by rw[aI m9];exact h
    obtain⟨_,_,_,_,_,_,e',oJ,_⟩:=(hn bf _ hsf).2.1 hk';exact⟨e',by rw[<-oJ];exact((fa (t:=e) m9 m9 m9 m9).2.2.2.2).symm⟩)
   refine⟨k+1,U,y,⟨b,ob,og,_,_,ac,by rw[h2];rfl,rfl,hb,h1⟩,?_⟩;have:una t=una e:=by
    obtain⟨kk,n,m,va,nm,tg,l⟩:=t;simp only[GT.kind]at h2;subst h2;rw[k5]at he;simp only[GT.elems]at he;subst he;rw[hZ,jQ7 rfl]
   rw[this];exact Is
  ·refine⟨0,_,_,⟨λh=>?_,rfl,rfl⟩,hv.same (by
    unfold dX;obtain⟨k,n,m,va,nm,tg,l⟩:=t;by_cases mM:k=14
    ·subst mM;rw[hZ];rfl
    ·rw[hZ,jQ4 (show¬k=2 from h2),jQ4 mM])⟩
   rcases de t.kind with g|g|g|g|g|g|g|g|g|g|g|g<;>first|exact h2 g.1|(rw[g.2]at h;exact absurd h i5)
structure ad4(NS:List ByteArray)(Q:GT->Prop)(w:List ah)(K:Nat)(B:Bl)(DI:Nat->Prop)(σ:BS)(W:World)(t e:GT)(b o c:Nat)(a':Option Addr)(c':Nat)(W1:World):Prop where
 md:Md NS Q w K B DI σ W 0 σ W1
 ch:RT DI W1 e (.agg #[.int .i64 e.kind,.int .i64 e.n,.int .i64 e.m,.bool e.va,.string e.name,.string e.tag,.slice a' e.elems.length c'])
 b0:W1.cell? ⟨W.heap.size,0,none⟩=some (.int .i64 t.kind)
 b1:W1.cell? ⟨W.heap.size,1,none⟩=some (.int .i64 t.n)
 b6:W1.cell? ⟨W.heap.size,6,none⟩=some (.slice (some ⟨b,o,none⟩) 1 c)
 c0:W1.cell? ⟨b,o,none⟩=some (.int .i64 e.kind)
 c1:W1.cell? ⟨b,o+1,none⟩=some (.int .i64 e.n)
 c2:W1.cell? ⟨b,o+2,none⟩=some (.int .i64 e.m)
 c3:W1.cell? ⟨b,o+3,none⟩=some (.bool e.va)
 c4:W1.cell? ⟨b,o+4,none⟩=some (.string e.name)
 c5:W1.cell? ⟨b,o+5,none⟩=some (.string e.tag)
 c6:W1.cell? ⟨b,o+6,none⟩=some (.slice a' e.elems.length c')
theorem abj(cG:Bs NS Q w K B DI σ W)(hv:RT DI W t v)(he:t.elems=[e]):∃b o c a' c',v=.agg #[.int .i64 t.kind,.int .i64 t.n,.int .i64 t.m,.bool t.va,.string t.name,.string t.tag,.slice (some ⟨b,o,none⟩) 1 c]/\
 ad4 NS Q w K B DI σ W t e b o c a' c' (W.alloc (.cells #[.int .i64 t.kind,.int .i64 t.n,.int .i64 t.m,.bool t.va,.string t.name,.string t.tag,.slice (some ⟨b,o,none⟩) 1 c] 25)):=by
 obtain⟨a,c,rfl,hs⟩:=hv.bR;rw[he]at hs;obtain⟨b,o,c2,e1, -, -,hd,hE, -⟩:=gQ.1 hs;simp at e1;obtain⟨rfl,rfl⟩:=e1;have hb:=an W (.cells #[.int .i64 t.kind,.int .i64 t.n,.int .i64 t.m,.bool t.va,.string t.name,.string t.tag,.slice (some ⟨b,o,none⟩) 1 c] 25);have hm:au DI DI W (W.alloc (.cells #[.int .i64 t.kind,.int .i64 t.n,.int .i64 t.m,.bool t.va,.string t.name,.string t.tag,.slice (some ⟨b,o,none⟩) 1 c] 25)):=λx hx=>⟨hx,hb.block x (cG.di x hx).1⟩;obtain⟨a',c',q0,q1,q2,q3,q4,q5,q6,q7⟩:=(hE.move hm hd).bR;obtain⟨x0,x1, -, -, -, -,x6⟩:=ao (ak W (.cells #[.int .i64 t.kind,.int .i64 t.n,.int .i64 t.m,.bool t.va,.string t.name,.string t.tag,.slice (some ⟨b,o,none⟩) 1 c] 25));exact⟨b,o,c,a',c',by rw[he];rfl,(Md.start cG).below hb,q7,x0,x1,x6,q0,q1,q2,q3,q4,q5,q6⟩
theorem xC{md:Nat}(h:PT NS Q w md t)(hk:t.kind=2\/t.kind=3\/t.kind=4\/t.kind=6\/t.kind=9):∃e,t.elems=[e]/\PT NS Q w 2 e/\nds t=1+nds e:=by
 have hp:=D4 h;have hn:=gq t;have:∃e,t.elems=[e]:=by
  cases h with
  |basic a b=>simp[GT.kind]at hk
  |uni a=>simp only[GT.kind]at hk;omega
  |named a b c=>simp[GT.kind]at hk
  |al a b h1=>exact⟨_,rfl⟩
  |st a b h1=>simp[GT.kind]at hk
  |ifc a b c d e g h1 h2 q=>simp[GT.kind]at hk
  |one a b c h1=>exact⟨_,rfl⟩
  |mp h1 h2=>simp[GT.kind]at hk
  |fn a b c h1=>simp[GT.kind]at hk
  |ti a h1=>simp[GT.kind]at hk
  |un a b c h1=>simp[GT.kind]at hk
 obtain⟨e,he⟩:=this;exact⟨e,he,hp e (by rw[he];simp),by rw[hn,he];simp[ndss]⟩
theorem Pn(ih:dR NS Q w K B DI N)(hk:t.kind=4)(hn:nds t<=N+1)(hp:PT NS Q w 2 t)(cG:Bs NS Q w K B DI σ W)(hv:RT DI W t v)(hl:σ.ml.length+nds t<=1099511627776):
 Calls prog 28 #[ptr B.bb,v] W (dC NS Q w K B DI σ W (nds t) λu aO _=>dq aO.S u t):=by
 obtain⟨e,he,xd,bk⟩:=xC hp m9;obtain⟨b,o,c,a',c',rfl,hb⟩:=abj cG hv he;have HB:=Z hb;have ag:=ih e σ _ _ m9 xd hb.md.bs hb.ch m9;have k1:(t.kind==1)=false:=by simp[hk]
 have k2:(t.kind==2)=false:=by simp[hk]
 have k3:(t.kind==3)=false:=by simp[hk]
 have k4:(t.kind==4)=true:=by simp[hk]
 have k6:(t.kind==6)=false:=by simp[hk]
 obtain⟨-, -,b0,b1,b6,c0,c1,c2,c3,c4,c5,c6⟩:=hb;obtain⟨HK,HE,HN⟩:=Z3 hk he bk;clear ih hk hn hp cG hv hl he xd bk;go_enter func28,ntmps28;go_wp2_with fail;refine ag.mono ?_;rintro e' w' ⟨u,aO,rfl,cq,hu⟩;have HM:=Z ((HB.1.md.trans cq).more (m:=nds t) (by have:=HN.1;omega));obtain⟨bu,rfl, -⟩:=id hu;have HU:=Z hu;have fL:=AO (tid e.kind) (ptr bu) w';clear ag cq hu b0 b1 b6 c0 c1 c2 c3 c4 c5 c6 HB;generalize tid e.kind=T at*;go_wp2_with fail;refine rv fL ?_;clear fL;have HP:=Z (ag2 HM.1 HK.1 HE.1 HU.1);exact M13
theorem XP(ih:dR NS Q w K B DI N)(hk:t.kind=6)(hn:nds t<=N+1)(hp:PT NS Q w 2 t)(cG:Bs NS Q w K B DI σ W)(hv:RT DI W t v)(hl:σ.ml.length+nds t<=1099511627776):
 Calls prog 28 #[ptr B.bb,v] W (dC NS Q w K B DI σ W (nds t) λu aO _=>dq aO.S u t):=by
 obtain⟨e,he,xd,bk⟩:=xC hp m9;obtain⟨b,o,c,a',c',rfl,hb⟩:=abj cG hv he;have HB:=Z hb;have ag:=ih e σ _ _ m9 xd hb.md.bs hb.ch m9;have k1:(t.kind==1)=false:=by simp[hk]
 have k2:(t.kind==2)=false:=by simp[hk]
 have k3:(t.kind==3)=false:=by simp[hk]
 have k4:(t.kind==4)=false:=by simp[hk]
 have k6:(t.kind==6)=true:=by simp[hk]
 obtain⟨-, -,b0,b1,b6,c0,c1,c2,c3,c4,c5,c6⟩:=hb;obtain⟨HK,HE,HN⟩:=Z3 hk he bk;clear ih hk hn hp cG hv hl he xd bk;go_enter func28,ntmps28;go_wp2_with fail;refine ag.mono ?_;rintro e' w' ⟨u,aO,rfl,cq,hu⟩;have HM:=Z ((HB.1.md.trans cq).more (m:=nds t) (by have:=HN.1;omega));obtain⟨bu,rfl, -⟩:=id hu;have HU:=Z hu;have fL:=oF (tid e.kind) (ptr bu) w';clear ag cq hu b0 b1 b6 c0 c1 c2 c3 c4 c5 c6 HB;generalize tid e.kind=T at*;go_wp2_with fail;refine rv fL ?_;clear fL;have HP:=Z (ad9 HM.1 HK.1 HE.1 HU.1);exact M13
section
variable{Q:Exit->Act->World->Prop}{S:World->Prop}{a':Act}{w:World}
theorem tk(i:Nat)(h:wpAnyH P md ops Q S fuel (listed.setIfInBounds i true) a' w)(hi:ops[i]?=some oi:=by(simp only[jRa,jR3,jR4];try rfl))(hs:Region.noSelect ops=true:=by kernel_rfl)(hf:Region.free md ops listed i=true:=by kernel_rfl)(hr:(Region.ready md ops listed).contains i=true:=by kernel_rfl)(hQ:∀c a w,Q (.panic c) (a.put oi.dst v) w->Q (.panic c) a w:=by exact λ_ _ _ h=>h)(hw:Region.wanted oi (yielded ops a.tmps)=true:=by kernel_rfl)(hy:∀w,S w->(execOp a.eval oi).run P w=.ok (.value v) w:=by(intro w O6;(try dsimp only at O6);go_simp;try with_reducible rfl))(ha:a.put oi.dst v=a':=by((try simp only[Act.put,jQy,jRe,jRf]);try rfl))(hS:S w:=by assumption):wpAnyH P md ops Q S (fuel+1) listed a w:=
 wpAnyH_take hi hs hf hr hQ (Or.inl ⟨hw,hy⟩) hS (by rw[ha];exact h)
theorem bg(i:Nat)(h:wpAnyH P md ops Q S fuel (listed.setIfInBounds i true) a' w)(hi:ops[i]?=some oi:=by(simp only[jRa,jR3,jR4];try rfl))(hs:Region.noSelect ops=true:=by kernel_rfl)(hf:Region.free md ops listed i=true:=by kernel_rfl)(hr:(Region.ready md ops listed).contains i=true:=by kernel_rfl)(hQ:∀c a w,Q (.panic c) (a.put oi.dst undef) w->Q (.panic c) a w:=by exact λ_ _ _ h=>h)(hw:Region.wanted oi (yielded ops a.tmps)=false:=by kernel_rfl)(ha:a.put oi.dst undef=a':=by((try simp only[Act.put,jQy,jRe,jRf]);try rfl))(hS:S w:=by assumption):wpAnyH P md ops Q S (fuel+1) listed a w:=
 wpAnyH_take hi hs hf hr hQ (Or.inr ⟨hw,rfl⟩) hS (by rw[ha];exact h)
theorem t2(i j:Nat){b c:Act}(h:wpAnyH P md ops Q S fuel ((listed.setIfInBounds i true).setIfInBounds j true) c w)(pn:ops[i]?=some oi:=by(simp only[jRa,jR3,jR4];try rfl))(hs:Region.noSelect ops=true:=by kernel_rfl)(hf0:Region.free md ops listed i=true:=by kernel_rfl)(Ed:(Region.ready md ops listed).contains i=true:=by kernel_rfl)(hQ0:∀z a w,Q (.panic z) (a.put oi.dst v) w->Q (.panic z) a w:=by exact λ_ _ _ h=>h)(hw0:Region.wanted oi (yielded ops a.tmps)=true:=by kernel_rfl)(hy0:∀w,S w->(execOp a.eval oi).run P w=.ok (.value v) w:=by(intro w O6;(try dsimp only at O6);go_simp;try with_reducible rfl))(ha0:a.put oi.dst v=b:=by((try simp only[Act.put,jQy,jRe,jRf]);try rfl))(Q4:ops[j]?=some oj:=by(simp only[jRa,jR3,jR4];try rfl))(O7:Region.free md ops (listed.setIfInBounds i true) j=true:=by kernel_rfl)(fP:(Region.ready md ops (listed.setIfInBounds i true)).contains j=true:=by kernel_rfl)(hQ1:∀z a w,Q (.panic z) (a.put oj.dst u) w->Q (.panic z) a w:=by exact λ_ _ _ h=>h)(Lc:Region.wanted oj (yielded ops b.tmps)=true:=by kernel_rfl)(FE:∀w,S w->(execOp b.eval oj).run P w=.ok (.value u) w:=by(intro w O6;(try dsimp only at O6);go_simp;try with_reducible rfl))(Ld:b.put oj.dst u=c:=by((try simp only[Act.put,jQy,jRe,jRf]);try rfl))(hS:S w:=by assumption):wpAnyH P md ops Q S (fuel+2) listed a w:=
 tk i (tk j (h) Q4 hs O7 fP hQ1 Lc FE Ld hS) pn hs hf0 Ed hQ0 hw0 hy0 ha0 hS
theorem t4(i j k l:Nat){x:Value}{b c e:Act}(h:wpAnyH P md ops Q S fuel ((((listed.setIfInBounds i true).setIfInBounds j true).setIfInBounds k true).setIfInBounds l true) e w)(pn:ops[i]?=some oi:=by(simp only[jRa,jR3,jR4];try rfl))(hs:Region.noSelect ops=true:=by kernel_rfl)(hf0:Region.free md ops listed i=true:=by kernel_rfl)(Ed:(Region.ready md ops listed).contains i=true:=by kernel_rfl)(hQ0:∀z a w,Q (.panic z) (a.put oi.dst v) w->Q (.panic z) a w:=by exact λ_ _ _ h=>h)(hw0:Region.wanted oi (yielded ops a.tmps)=true:=by kernel_rfl)(hy0:∀w,S w->(execOp a.eval oi).run P w=.ok (.value v) w:=by(intro w O6;(try dsimp only at O6);go_simp;try with_reducible rfl))(ha0:a.put oi.dst v=b:=by((try simp only[Act.put,jQy,jRe,jRf]);try rfl))(Q4:ops[j]?=some oj:=by(simp only[jRa,jR3,jR4];try rfl))(O7:Region.free md ops (listed.setIfInBounds i true) j=true:=by kernel_rfl)(fP:(Region.ready md ops (listed.setIfInBounds i true)).contains j=true:=by kernel_rfl)(hQ1:∀z a w,Q (.panic z) (a.put oj.dst u) w->Q (.panic z) a w:=by exact λ_ _ _ h=>h)(Lc:Region.wanted oj (yielded ops b.tmps)=true:=by kernel_rfl)(FE:∀w,S w->(execOp b.eval oj).run P w=.ok (.value u) w:=by(intro w O6;(try dsimp only at O6);go_simp;try with_reducible rfl))(Ld:b.put oj.dst u=c:=by((try simp only[Act.put,jQy,jRe,jRf]);try rfl))(hi2:ops[k]?=some ok:=by(simp only[jRa,jR3,jR4];try rfl))(zF:Region.free md ops ((listed.setIfInBounds i true).setIfInBounds j true) k=true:=by kernel_rfl)(nT:(Region.ready md ops ((listed.setIfInBounds i true).setIfInBounds j true)).contains k=true:=by kernel_rfl)(hQ2:∀z a w,Q (.panic z) (a.put ok.dst x) w->Q (.panic z) a w:=by exact λ_ _ _ h=>h)(oW:Region.wanted ok (yielded ops c.tmps)=true:=by kernel_rfl)(Ko:∀w,S w->(execOp c.eval ok).run P w=.ok (.value x) w:=by(intro w O6;(try dsimp only at O6);go_simp;try with_reducible rfl))(Sq:c.put ok.dst x=d:=by((try simp only[Act.put,jQy,jRe,jRf]);try rfl))(hi3:ops[l]?=some ol:=by(simp only[jRa,jR3,jR4];try rfl))(Wa:Region.free md ops (((listed.setIfInBounds i true).setIfInBounds j true).setIfInBounds k true) l=true:=by kernel_rfl)(FG:(Region.ready md ops (((listed.setIfInBounds i true).setIfInBounds j true).setIfInBounds k true)).contains l=true:=by kernel_rfl)(hQ3:∀z a w,Q (.panic z) (a.put ol.dst y) w->Q (.panic z) a w:=by exact λ_ _ _ h=>h)(pX:Region.wanted ol (yielded ops d.tmps)=true:=by kernel_rfl)(hy3:∀w,S w->(execOp d.eval ol).run P w=.ok (.value y) w:=by(intro w O6;(try dsimp only at O6);go_simp;try with_reducible rfl))(ha3:d.put ol.dst y=e:=by((try simp only[Act.put,jQy,jRe,jRf]);try rfl))(hS:S w:=by assumption):wpAnyH P md ops Q S (fuel+4) listed a w:=
 tk i (tk j (tk k (tk l (h) hi3 hs Wa FG hQ3 pX hy3 ha3 hS) hi2 hs zF nT hQ2 oW Ko Sq hS) Q4 hs O7 fP hQ1 Lc FE Ld hS) pn hs hf0 Ed hQ0 hw0 hy0 ha0 hS
theorem rd(i:Nat){o:Oper}(ho:ops[i]?=some o)(h:∀K':Act->World->Prop,Shut (∀a w,S w->(S w->wpAnyH P md ops Q S fuel (listed.setIfInBounds i true) a w)->K' a w)->if Region.wanted o (yielded ops a.tmps)=true then Oper.wp P o a w K' Q else K' (a.put o.dst undef) w)(hr:Region.ready md ops listed=[i]:=by kernel_rfl):wpAnyH P md ops Q S (fuel+1) listed a w:=
 wpAnyH_ready hr i6 (AllReadyH.cons ho h AllReadyH.nil)
end
theorem Bs.nj(h:Bs NS Q w K B DI σ W)(hg:Gr B σ aO W W2)(hd:DI b)(hc:W.cell? ⟨b,o,none⟩=some u):W2.cell? ⟨b,o,none⟩=some u:=(jQi (w:=W) (h.C0 hg b hd).2).trans hc
theorem Loc.cell(h:Loc B DI σ g)(hg:g<W.heap.size)(hr:Gr B σ aO W W2)(hc:W.cell? ⟨g,o,none⟩=some u):W2.cell? ⟨g,o,none⟩=some u:=(jQi (w:=W) (h.same hg hr)).trans hc
structure SG(NS:List ByteArray)(Q:GT->Prop)(w:List ah)(K:Nat)(B:Bl)(DI:Nat->Prop)(σ:BS)(W:World)(t e:GT)(b o c:Nat)(a':Option Addr)(c':Nat)(W1:World):Prop extends ad4 NS Q w K B DI σ W t e b o c a' c' W1 where
 hb:Bs NS Q w K B DI σ W
 db:DI b
theorem SH(cG:Bs NS Q w K B DI σ W)(hv:RT DI W t v)(he:t.elems=[e]):∃b o c a' c',v=.agg #[.int .i64 t.kind,.int .i64 t.n,.int .i64 t.m,.bool t.va,.string t.name,.string t.tag,.slice (some ⟨b,o,none⟩) 1 c]/\
 SG NS Q w K B DI σ W t e b o c a' c' (W.alloc (.cells #[.int .i64 t.kind,.int .i64 t.n,.int .i64 t.m,.bool t.va,.string t.name,.string t.tag,.slice (some ⟨b,o,none⟩) 1 c] 25)):=by
 obtain⟨b,o,c,a',c',rfl,h⟩:=abj cG hv he;refine⟨b,o,c,a',c',rfl,h,cG,?_⟩;obtain⟨a,c2,e0,hs⟩:=hv.bR;simp at e0;rw[he]at hs;obtain⟨b3,o3,c3,e1, -, -,hd, -⟩:=gQ.1 hs;obtain⟨rfl, -⟩:=e0;simp at e1;rw[e1.1.1];exact hd
theorem SG.inv(h:SG NS Q w K B DI σ W t e b o c a' c' W1)(hg:Gr B σ aO W1 W2):
 W2.cell? ⟨W.heap.size,0,none⟩=some (.int .i64 t.kind)/\W2.cell? ⟨W.heap.size,1,none⟩=some (.int .i64 t.n)/\W2.cell? ⟨W.heap.size,6,none⟩=some (.slice (some ⟨b,o,none⟩) 1 c)/\W2.cell? ⟨b,o,none⟩=some (.int .i64 e.kind)/\W2.cell? ⟨b,o+1,none⟩=some (.int .i64 e.n)/\W2.cell? ⟨b,o+2,none⟩=some (.int .i64 e.m)/\W2.cell? ⟨b,o+3,none⟩=some (.bool e.va)/\W2.cell? ⟨b,o+4,none⟩=some (.string e.name)/\W2.cell? ⟨b,o+5,none⟩=some (.string e.tag)/\W2.cell? ⟨b,o+6,none⟩=some (.slice a' e.elems.length c'):=by
 have hl:Loc B DI σ W.heap.size:=h.hb.loc (jQ0 _);have hz:=World.block_lt_of_cell? _ _ h.b0;have hd:=h.db;have hs:=h.md.bs;exact⟨hl.cell hz hg h.b0,hl.cell hz hg h.b1,hl.cell hz hg h.b6,hs.nj hg hd h.c0,hs.nj hg hd h.c1,hs.nj hg hd h.c2,hs.nj hg hd h.c3,hs.nj hg hd h.c4,hs.nj hg hd h.c5,hs.nj hg hd h.c6⟩
theorem XI(ih:dR NS Q w K B DI N)(hk:t.kind=3)(hn:nds t<=N+1)(hp:PT NS Q w 2 t)(cG:Bs NS Q w K B DI σ W)(hv:RT DI W t v)(hl:σ.ml.length+nds t<=1099511627776):
 Calls prog 28 #[ptr B.bb,v] W (dC NS Q w K B DI σ W (nds t) λu aO _=>dq aO.S u t):=by
 obtain⟨e,he,xd,bk⟩:=xC hp m9;obtain⟨b,o,c,a',c',rfl,hb⟩:=SH cG hv he;have HR:=Z (show True from trivial);generalize Lw:W.alloc (.cells #[.int .i64 t.kind,.int .i64 t.n,.int .i64 t.m,.bool t.va,.string t.name,.string t.tag,.slice (some ⟨b,o,none⟩) 1 c] 25)=W1 at hb;have HB:=Z hb;have Kv:Below W1.heap.size W1 W1.drew:=(jQ5 _ _).drew;have lO:=Z (hb.md.below Kv);have Kw:=Z (Gr.below Kv:Gr B σ σ W1 W1.drew);have ag:=ih e σ _ _ m9 xd lO.1.bs (hb.ch.move (hb.md.bs.C0 Kw.1)) m9;have k1:(t.kind==1)=false:=by simp[hk]
 have k2:(t.kind==2)=false:=by simp[hk]
 have k3:(t.kind==3)=true:=by simp[hk]
 have k4:(t.kind==4)=false:=by simp[hk]
 have k6:(t.kind==6)=false:=by simp[hk]
 have k8:(t.kind==8)=false:=by simp[hk]
 have k9:(t.kind==9)=false:=by simp[hk]
 have b0:=hb.b0;obtain⟨HK,HE,HN,gV⟩:=Z4 hk he bk (show∀mL w',Gr B σ mL W1 w'->w'.cell? ⟨W.heap.size,0,none⟩=some (.int .i64 t.kind)/\w'.cell? ⟨W.heap.size,1,none⟩=some (.int .i64 t.n)/\w'.cell? ⟨W.heap.size,6,none⟩=some (.slice (some ⟨b,o,none⟩) 1 c)/\w'.cell? ⟨b,o,none⟩=some (.int .i64 e.kind)/\w'.cell? ⟨b,o+1,none⟩=some (.int .i64 e.n)/\w'.cell? ⟨b,o+2,none⟩=some (.int .i64 e.m)/\w'.cell? ⟨b,o+3,none⟩=some (.bool e.va)/\w'.cell? ⟨b,o+4,none⟩=some (.string e.name)/\w'.cell? ⟨b,o+5,none⟩=some (.string e.tag)/\w'.cell? ⟨b,o+6,none⟩=some (.slice a' e.elems.length c')from λ_ _ h=>HB.1.inv h);subst Lw;clear ih hk hn hp cG hv hl he xd bk hb Kv;go_enter func28,ntmps28;go_wp2_with fail;refine jQ9 (S:=(λw'=>w'.cell? ⟨W.heap.size,0,none⟩=some (.int .i64 t.kind)/\w'.cell? ⟨W.heap.size,1,none⟩=some (.int .i64 t.n)/\w'.cell? ⟨W.heap.size,6,none⟩=some (.slice (some ⟨b,o,none⟩) 1 c)/\w'.cell? ⟨b,o,none⟩=some (.int .i64 e.kind)/\w'.cell? ⟨b,o+1,none⟩=some (.int .i64 e.n)/\w'.cell? ⟨b,o+2,none⟩=some (.int .i64 e.m)/\w'.cell? ⟨b,o+3,none⟩=some (.bool e.va)/\w'.cell? ⟨b,o+4,none⟩=some (.string e.name)/\w'.cell? ⟨b,o+5,none⟩=some (.string e.tag)/\w'.cell? ⟨b,o+6,none⟩=some (.slice a' e.elems.length c'))) g9 (gV.1 _ _ Kw.1) (λai=>?_);refine t4 0 1 2 3 ?_;refine t2 4 6 ?_;refine tk 7 ?_;refine rd 5 rfl λK hK=>?_;go_simp;clear ai;refine ag.mono ?_;rintro eA wA ⟨u,aO,rfl,cq,hu⟩;have HM:=Z ((lO.1.trans cq).more (m:=nds t) (by have:=HN.1;omega));obtain⟨bu,rfl, -⟩:=id hu;have HU:=Z hu;have HG:=Z (Kw.1.trans cq.gr);refine hK.out _ _ (gV.1 _ _ HG.1) (λai=>?_);clear ag cq hu;clear hK K;refine rd 8 rfl λK hK=>?_;go_simp;clear ai;refine rv (AG _ _ _ _) ?_;refine hK.out _ _ (gV.1 _ _ (HG.1.trans (Gr.below (an _ _)))) (λai=>?_);clear hK K;refine t2 9 10 ?_;refine jQl g9 ?_ _;clear ai;have HP:=Z (agV HM.1 HK.1 HE.1 HU.1);exact M13
theorem XJ{md:Nat}(h:PT NS Q w md t)(hk:t.kind=9):0<=t.n/\t.n<3:=by
 cases h with
 |basic a b=>simp[GT.kind]at hk
 |uni a=>simp only[GT.kind]at hk;omega
 |named a b c=>simp[GT.kind]at hk
 |al a b h1=>simp only[GT.kind]at hk;omega
 |st a b h1=>simp[GT.kind]at hk
 |ifc a b c d e g h1 h2 q=>simp[GT.kind]at hk
 |one a b c h1=>exact⟨b,c⟩
 |mp h1 h2=>simp[GT.kind]at hk
 |fn a b c h1=>simp[GT.kind]at hk
 |ti a h1=>simp[GT.kind]at hk
 |un a b c h1=>simp[GT.kind]at hk
theorem SJ(ih:dR NS Q w K B DI N)(hk:t.kind=9)(hn:nds t<=N+1)(hp:PT NS Q w 2 t)(cG:Bs NS Q w K B DI σ W)(hv:RT DI W t v)(hl:σ.ml.length+nds t<=1099511627776):
 Calls prog 28 #[ptr B.bb,v] W (dC NS Q w K B DI σ W (nds t) λu aO _=>dq aO.S u t):=by
 obtain⟨e,he,xd,bk⟩:=xC hp m9;obtain⟨b,o,c,a',c',rfl,hb⟩:=SH cG hv he;have HR:=Z (show 0<=t.n/\t.n<3 from XJ hp hk);generalize Lw:W.alloc (.cells #[.int .i64 t.kind,.int .i64 t.n,.int .i64 t.m,.bool t.va,.string t.name,.string t.tag,.slice (some ⟨b,o,none⟩) 1 c] 25)=W1 at hb;have HB:=Z hb;have Kv:Below W1.heap.size W1 W1.drew:=(jQ5 _ _).drew;have lO:=Z (hb.md.below Kv);have Kw:=Z (Gr.below Kv:Gr B σ σ W1 W1.drew);have ag:=ih e σ _ _ m9 xd lO.1.bs (hb.ch.move (hb.md.bs.C0 Kw.1)) m9;have k1:(t.kind==1)=false:=by simp[hk]
 have k2:(t.kind==2)=false:=by simp[hk]
 have k3:(t.kind==3)=false:=by simp[hk]
 have k4:(t.kind==4)=false:=by simp[hk]
 have k6:(t.kind==6)=false:=by simp[hk]
 have k8:(t.kind==8)=false:=by simp[hk]
 have k9:(t.kind==9)=true:=by simp[hk]
 have b0:=hb.b0;obtain⟨HK,HE,HN,gV⟩:=Z4 hk he bk (show∀mL w',Gr B σ mL W1 w'->w'.cell? ⟨W.heap.size,0,none⟩=some (.int .i64 t.kind)/\w'.cell? ⟨W.heap.size,1,none⟩=some (.int .i64 t.n)/\w'.cell? ⟨W.heap.size,6,none⟩=some (.slice (some ⟨b,o,none⟩) 1 c)/\w'.cell? ⟨b,o,none⟩=some (.int .i64 e.kind)/\w'.cell? ⟨b,o+1,none⟩=some (.int .i64 e.n)/\w'.cell? ⟨b,o+2,none⟩=some (.int .i64 e.m)/\w'.cell? ⟨b,o+3,none⟩=some (.bool e.va)/\w'.cell? ⟨b,o+4,none⟩=some (.string e.name)/\w'.cell? ⟨b,o+5,none⟩=some (.string e.tag)/\w'.cell? ⟨b,o+6,none⟩=some (.slice a' e.elems.length c')from λ_ _ h=>HB.1.inv h);subst Lw;clear ih hk hn hp cG hv hl he xd bk hb Kv;go_enter func28,ntmps28;go_wp2_with fail;refine jQ9 (S:=(λw'=>w'.cell? ⟨W.heap.size,0,none⟩=some (.int .i64 t.kind)/\w'.cell? ⟨W.heap.size,1,none⟩=some (.int .i64 t.n)/\w'.cell? ⟨W.heap.size,6,none⟩=some (.slice (some ⟨b,o,none⟩) 1 c)/\w'.cell? ⟨b,o,none⟩=some (.int .i64 e.kind)/\w'.cell? ⟨b,o+1,none⟩=some (.int .i64 e.n)/\w'.cell? ⟨b,o+2,none⟩=some (.int .i64 e.m)/\w'.cell? ⟨b,o+3,none⟩=some (.bool e.va)/\w'.cell? ⟨b,o+4,none⟩=some (.string e.name)/\w'.cell? ⟨b,o+5,none⟩=some (.string e.tag)/\w'.cell? ⟨b,o+6,none⟩=some (.slice a' e.elems.length c'))) g9 (gV.1 _ _ Kw.1) (λai=>?_);refine t4 0 1 3 4 ?_;refine t2 5 6 ?_;refine tk 7 ?_;refine rd 2 rfl λK hK=>?_;go_simp;clear ai;refine rv (zb t.n HR.1.1 HR.1.2 _) ?_;refine hK.out _ _ (gV.1 _ _ Kw.1) (λai=>?_);clear hK K;refine rd 8 rfl λK hK=>?_;go_simp;clear ai;refine ag.mono ?_;rintro eA wA ⟨u,aO,rfl,cq,hu⟩;have HM:=Z ((lO.1.trans cq).more (m:=nds t) (by have:=HN.1;omega));obtain⟨bu,rfl, -⟩:=id hu;have HU:=Z hu;have HG:=Z (Kw.1.trans cq.gr);refine hK.out _ _ (gV.1 _ _ HG.1) (λai=>?_);clear ag cq hu;clear hK K;refine rd 9 rfl λK hK=>?_;go_simp;clear ai;refine rv (Dl _ _ _ _) ?_;refine hK.out _ _ (gV.1 _ _ (HG.1.trans (Gr.below (an _ _)))) (λai=>?_);clear hK K;refine t2 10 11 ?_;refine jQl g9 ?_ _;clear ai;have HP:=Z (agW HM.1 HK.1 HE.1 HU.1);exact M13
theorem ud(bb pk:Nat)(s:ByteArray)(v1 v2 v3 v4:Value)(ty:TypeId)(W:World)(h:W.heap[bb]?=some (.cells #[ptr pk,v1,v2,v3,v4] ty (0,0))):
 Calls prog 26 #[ptr bb,.string s] W (qh W #[.int .i64 0,ptr pk,.string s,.nilIface] 117):=by
 have c0:W.cell? ⟨bb,0,none⟩=some (ptr pk):=by simp[World.cell?,h]
 have hc:=jS 0 (some ⟨pk,0,none⟩) s W;clear h;go_enter func26,ntmps26;exact M179
theorem NY(h:Md NS Q w K B DI eo W0 n σ W)(hA:NG W ob pos pk nm fr ac e' W2)(hl:Loc B DI σ ob)(hz:W0.heap.size<=ob):Md NS Q w K B DI eo W0 n σ W2:=
 h.step hA.2.2.1 hA.2.2.2.1 hA.2.2.2.2.1 (by rw[hA.2.1];omega) λb hb hn=>hA.2.2.2.2.2.2.2 b hb λe=>hn (e▸⟨hl,hz⟩)
theorem ahp{x:Value}(h:Md NS Q w K B DI eo W0 n σ W)(hk:t.kind=2)(he:t.elems=[e])(hv:dq σ.S (.iface T x) e)(hu:dq σ.S (.iface U y) (una e))(hA:NG W ob pos pk nm (.iface T x) (.iface U y) e' W2)(hl:Loc B DI σ ob)(hz:W0.heap.size<=ob):
 dC NS Q w K B DI eo W0 n (λu aO _=>dq aO.S u t) (.returned (.iface 125 (ptr W.heap.size))) W2:=by
 have hs:=NY h hA hl hz;obtain⟨k1,k2,k3,k4,k5⟩:=fa (t:=t) m9 m9 m9 m9;have hla:=h.bs.loc (g:=W.heap.size) (jQ0 _);have hn:una (aG t)=una e:=by
  obtain⟨kk,n,m,va,nm,tg,l⟩:=t;simp only[GT.kind]at hk;subst hk;simp only[GT.elems]at he;subst he;rw[aW (by simp[GT.kind]) (by simp[GT.kind]) (by simp[GT.kind]) (by simp[GT.kind])];simp only[GT.kind,GT.elems];rw[hZ,jQ7 rfl]
 have uu:mZ (cE σ.S W.heap.size (aG t)) σ.D W2 W.heap.size (aG t):=
  ⟨m9,λ_=>⟨_,_,_,_,hA.2.2.2.2.2.1,by rw[hn];exact lh hla.1 hu,e,by rw[k5,he],lh hla.1 hv⟩,m9,m9,m9,m9,m9,m9,m9,m9,m9⟩
 refine⟨_,_,rfl,hs.add hla h.gr.size hA.2.2.2.2.2.1 (λhi=>by unfold cI at hi;omega) uu (λhi=>?_),⟨_,by rw[hk];rfl,fH _ _ _⟩⟩;exact M161
theorem PR(ih:dR NS Q w K B DI N)(hk:t.kind=2)(hn:nds t<=N+1)(hp:PT NS Q w 2 t)(cG:Bs NS Q w K B DI σ W)(hv:RT DI W t v)(hl:σ.ml.length+nds t<=1099511627776):
 Calls prog 28 #[ptr B.bb,v] W (dC NS Q w K B DI σ W (nds t) λu aO _=>dq aO.S u t):=by
 obtain⟨e,he,xd,bk⟩:=xC hp m9;obtain⟨b,o,c,a',c',rfl,hb⟩:=SH cG hv he;generalize Lw:W.alloc (.cells #[.int .i64 t.kind,.int .i64 t.n,.int .i64 t.m,.bool t.va,.string t.name,.string t.tag,.slice (some ⟨b,o,none⟩) 1 c] 25)=W1 at hb;have HB:=Z hb;have Kv:Below W1.heap.size W1 W1.drew:=(jQ5 _ _).drew;obtain⟨lO,Kw,abE⟩:=Z3 (hb.md.below Kv) (Gr.below Kv:Gr B σ σ W1 W1.drew) (((Md.start hb.md.bs).below Kv).below (an W1.drew (.cells #[.int .i64 0,ptr B.pk,.string ⟨#[65]⟩,.nilIface] 117)));have j8:W1.drew.heap.size=W.heap.size+1:=by rw[<-Lw];show(W.heap.push _).size=_;simp
 have HL0:=Z (lO.1.bs.loc (g:=W.heap.size+1) m9);have HZO:=Z (show W.heap.size+1<(W1.drew.alloc (.cells #[.int .i64 0,ptr B.pk,.string ⟨#[65]⟩,.nilIface] 117)).heap.size by rw[jQ3];omega);have jz:=ak W1.drew (.cells #[.int .i64 0,ptr B.pk,.string ⟨#[65]⟩,.nilIface] 117);rw[j8]at jz;have RR:=Z jz;have ag:=ih e σ _ _ m9 xd abE.1.bs (hb.ch.move (hb.md.bs.C0 abE.1.gr)) m9;have k1:(t.kind==1)=false:=by simp[hk]
 have k2:(t.kind==2)=true:=by simp[hk]
 have b0:=hb.b0;obtain⟨HK,HE,HN,VU,HZ1,HZ,gV⟩:=Z7 hk he bk xd (show W1.heap.size<=W.heap.size+1 from jQz j8) (show W.heap.size<=W.heap.size+1 by omega) (show∀mL w',Gr B σ mL W1 w'->w'.cell? ⟨W.heap.size,0,none⟩=some (.int .i64 t.kind)/\w'.cell? ⟨W.heap.size,1,none⟩=some (.int .i64 t.n)/\w'.cell? ⟨W.heap.size,6,none⟩=some (.slice (some ⟨b,o,none⟩) 1 c)/\w'.cell? ⟨b,o,none⟩=some (.int .i64 e.kind)/\w'.cell? ⟨b,o+1,none⟩=some (.int .i64 e.n)/\w'.cell? ⟨b,o+2,none⟩=some (.int .i64 e.m)/\w'.cell? ⟨b,o+3,none⟩=some (.bool e.va)/\w'.cell? ⟨b,o+4,none⟩=some (.string e.name)/\w'.cell? ⟨b,o+5,none⟩=some (.string e.tag)/\w'.cell? ⟨b,o+6,none⟩=some (.slice a' e.elems.length c')from λ_ _ h=>HB.1.inv h);subst Lw;clear ih hk hn hp cG hv hl he xd bk hb Kv j8 jz;go_enter func28,ntmps28;go_wp2_with fail;refine jQ9 (S:=(λw'=>w'.cell? ⟨W.heap.size,0,none⟩=some (.int .i64 t.kind)/\w'.cell? ⟨W.heap.size,1,none⟩=some (.int .i64 t.n)/\w'.cell? ⟨W.heap.size,6,none⟩=some (.slice (some ⟨b,o,none⟩) 1 c)/\w'.cell? ⟨b,o,none⟩=some (.int .i64 e.kind)/\w'.cell? ⟨b,o+1,none⟩=some (.int .i64 e.n)/\w'.cell? ⟨b,o+2,none⟩=some (.int .i64 e.m)/\w'.cell? ⟨b,o+3,none⟩=some (.bool e.va)/\w'.cell? ⟨b,o+4,none⟩=some (.string e.name)/\w'.cell? ⟨b,o+5,none⟩=some (.string e.tag)/\w'.cell? ⟨b,o+6,none⟩=some (.slice a' e.elems.length c'))) g9 (gV.1 _ _ Kw.1) (λai=>?_);refine t4 0 2 3 4 ?_;refine t2 5 6 ?_;refine rd 1 rfl λK hK=>?_;go_simp;clear ai;refine rv (ud B.bb B.pk ⟨#[65]⟩ _ _ _ _ _ _ lO.1.bs.jl) ?_;refine hK.out _ _ (gV.1 _ _ (Kw.1.trans (Gr.below (an _ _)))) (λai=>?_);clear hK K;refine rd 7 rfl λK hK=>?_;go_simp;clear ai;refine ag.mono ?_;rintro eA wA ⟨u,aO,rfl,cq,hu⟩;obtain⟨yF,HM,jf,XC⟩:=Z4 (abE.1.trans cq) (((lO.1.below (an _ _)).trans cq).more (m:=nds t) (by have:=HN.1;omega)) (HL0.1.gr HZO.1 cq.gr) ((HL0.1.same HZO.1 cq.gr).trans RR.1);obtain⟨bu,rfl, -⟩:=id hu;have HU:=Z hu;obtain⟨kc,U,y,ND,huy⟩:=Jl cq.bs.th.node _ e _ _ (jQ0 _) hu (λh2=>by obtain⟨x,hx, -⟩:=xC VU.1 (.inl h2);exact⟨x,hx⟩);have sM:=Z ND;have Am:=Z huy;refine hK.out _ _ (gV.1 _ _ yF.1.gr) (λai=>?_);clear ag cq hu ND huy;clear hK K;refine rd 8 rfl λK hK=>?_;go_simp;clear ai;refine(A8 (W.heap.size+1) _ _ _ _ _ _ _ _ wA XC.1 sM.1).mono ?_;rintro eA wB hA;have HA:=Z hA;obtain⟨rfl, -⟩:=hA;refine hK.out _ _ (gV.1 _ _ (NY yF.1 HA.1 jf.1 HZ1.1).gr) (λai=>?_);clear hK K;refine t2 9 10 ?_;refine jQl g9 ?_ _;clear ai;have HP:=Z (ahp HM.1 HK.1 HE.1 HU.1 Am.1 HA.1 jf.1 HZ.1);exact M13
abbrev Cel(W:World)(e:GT)(b o:Nat)(a:Option Addr)(c:Nat):Prop:=W.cell? ⟨b,o,none⟩=some (.int .i64 e.kind)/\W.cell? ⟨b,o+1,none⟩=some (.int .i64 e.n)/\W.cell? ⟨b,o+2,none⟩=some (.int .i64 e.m)/\W.cell? ⟨b,o+3,none⟩=some (.bool e.va)/\W.cell? ⟨b,o+4,none⟩=some (.string e.name)/\W.cell? ⟨b,o+5,none⟩=some (.string e.tag)/\W.cell? ⟨b,o+6,none⟩=some (.slice a e.elems.length c)
theorem Bs.RX(h:Bs NS Q w K B DI σ W)(hg:Gr B σ aO W W2)(hd:DI b)(hc:Cel W e b o a' c):Cel W2 e b o a' c:=
 ⟨h.nj hg hd hc.1,h.nj hg hd hc.2.1,h.nj hg hd hc.2.2.1,h.nj hg hd hc.2.2.2.1,h.nj hg hd hc.2.2.2.2.1,h.nj hg hd hc.2.2.2.2.2.1,h.nj hg hd hc.2.2.2.2.2.2⟩
theorem RE.RX(h:RE D W e b o):∃a c,Cel W e b o a c/\RT D W e (.agg #[.int .i64 e.kind,.int .i64 e.n,.int .i64 e.m,.bool e.va,.string e.name,.string e.tag,.slice a e.elems.length c]):=by
 obtain⟨a,c,q0,q1,q2,q3,q4,q5,q6,q7⟩:=h.bR;exact⟨a,c,⟨q0,q1,q2,q3,q4,q5,q6⟩,q7⟩
theorem acJ{md:Nat}(h:PT NS Q w md t)(hk:t.kind=8):∃e e2,t.elems=[e,e2]/\PT NS Q w 2 e/\PT NS Q w 2 e2/\nds t=1+(nds e+nds e2):=by
 have hp:=D4 h;have hn:=gq t;have:∃e e2,t.elems=[e,e2]:=by
  cases h with
  |basic a b=>simp[GT.kind]at hk
  |uni a=>simp only[GT.kind]at hk;omega
  |named a b c=>simp[GT.kind]at hk
  |al a b h1=>simp only[GT.kind]at hk;omega
  |st a b h1=>simp[GT.kind]at hk
  |ifc a b c d e g h1 h2 q=>simp[GT.kind]at hk
  |one a b c h1=>simp only[GT.kind]at hk;omega
  |mp h1 h2=>exact⟨_,_,rfl⟩
  |fn a b c h1=>simp[GT.kind]at hk
  |ti a h1=>simp[GT.kind]at hk
  |un a b c h1=>simp[GT.kind]at hk
 obtain⟨e,e2,he⟩:=this;exact⟨e,e2,he,hp e (by rw[he];simp),hp e2 (by rw[he];simp),by rw[hn,he];simp[ndss]⟩
theorem Zn(ih:dR NS Q w K B DI N)(hk:t.kind=8)(hn:nds t<=N+1)(hp:PT NS Q w 2 t)(cG:Bs NS Q w K B DI σ W)(hv:RT DI W t v)(hl:σ.ml.length+nds t<=1099511627776):
 Calls prog 28 #[ptr B.bb,v] W (dC NS Q w K B DI σ W (nds t) λu aO _=>dq aO.S u t):=by
 obtain⟨e,e2,he,xd,afN,bk⟩:=acJ hp hk;obtain⟨a0,c,uz,hs⟩:=hv.bR;rw[he]at hs uz;obtain⟨b,o,cc,e1, -, -,hd,hE,hR⟩:=gQ.1 hs;simp at e1;obtain⟨rfl,rfl⟩:=e1;replace uz:v=.agg #[.int .i64 t.kind,.int .i64 t.n,.int .i64 t.m,.bool t.va,.string t.name,.string t.tag,.slice (some ⟨b,o,none⟩) 2 c]:=uz;subst uz;rw[RC]at hR;have ar:=an W (.cells #[.int .i64 t.kind,.int .i64 t.n,.int .i64 t.m,.bool t.va,.string t.name,.string t.tag,.slice (some ⟨b,o,none⟩) 2 c] 25);have jz:=ak W (.cells #[.int .i64 t.kind,.int .i64 t.n,.int .i64 t.m,.bool t.va,.string t.name,.string t.tag,.slice (some ⟨b,o,none⟩) 2 c] 25);have jd:au DI DI W (W.alloc (.cells #[.int .i64 t.kind,.int .i64 t.n,.int .i64 t.m,.bool t.va,.string t.name,.string t.tag,.slice (some ⟨b,o,none⟩) 2 c] 25)):=λx hx=>⟨hx,ar.block x (cG.di x hx).1⟩;generalize Lw:W.alloc (.cells #[.int .i64 t.kind,.int .i64 t.n,.int .i64 t.m,.bool t.va,.string t.name,.string t.tag,.slice (some ⟨b,o,none⟩) 2 c] 25)=W1 at ar jz jd;obtain⟨a',c',lk,dr⟩:=(hE.move jd hd).RX;obtain⟨a2,c2,fL,fx⟩:=(hR.1.move jd hd).RX;have jf:=Z (cG.loc (g:=W.heap.size) (jQ0 _));have uL:=Z (cG.below ar);have Kv:Below W1.heap.size W1 W1.drew:=(jQ5 _ _).drew;have lO:=Z (((Md.start cG).below ar).below Kv);have Kw:=Z (Gr.below Kv:Gr B σ σ W1 W1.drew);have ag:=ih e σ _ _ m9 xd lO.1.bs (dr.move (uL.1.C0 Kw.1)) m9;have vq:=Z (λ(fT:BS) (Wx:World) (v2:Value) (h1:Bs NS Q w K B DI fT Wx) (h2:RT DI Wx e2 v2) (h3:fT.ml.length+nds e2<=1099511627776)=>ih e2 fT Wx v2 m9 afN h1 h2 h3);have QU:=Z fx;obtain⟨x0, -, -, -, -, -,x6⟩:=ao jz;have hz:=jQ2 jz;have gV:=Z (show∀mL w',Gr B σ mL W1 w'->w'.cell? ⟨W.heap.size,0,none⟩=some (.int .i64 t.kind)/\w'.cell? ⟨W.heap.size,6,none⟩=some (.slice (some ⟨b,o,none⟩) 2 c)/\(w'.cell? ⟨b,o,none⟩=some (.int .i64 e.kind)/\w'.cell? ⟨b,o+1,none⟩=some (.int .i64 e.n)/\w'.cell? ⟨b,o+2,none⟩=some (.int .i64 e.m)/\w'.cell? ⟨b,o+3,none⟩=some (.bool e.va)/\w'.cell? ⟨b,o+4,none⟩=some (.string e.name)/\w'.cell? ⟨b,o+5,none⟩=some (.string e.tag)/\w'.cell? ⟨b,o+6,none⟩=some (.slice a' e.elems.length c'))/\(w'.cell? ⟨b,o+7,none⟩=some (.int .i64 e2.kind)/\w'.cell? ⟨b,o+7+1,none⟩=some (.int .i64 e2.n)/\w'.cell? ⟨b,o+7+2,none⟩=some (.int .i64 e2.m)/\w'.cell? ⟨b,o+7+3,none⟩=some (.bool e2.va)/\w'.cell? ⟨b,o+7+4,none⟩=some (.string e2.name)/\w'.cell? ⟨b,o+7+5,none⟩=some (.string e2.tag)/\w'.cell? ⟨b,o+7+6,none⟩=some (.slice a2 e2.elems.length c2))from
  λ_ _ h=>⟨jf.1.cell hz h x0,jf.1.cell hz h x6,uL.1.RX h hd lk,uL.1.RX h hd fL⟩)
 have k1:(t.kind==1)=false:=by simp[hk]
 have k2:(t.kind==2)=false:=by simp[hk]
 have k3:(t.kind==3)=false:=by simp[hk]
 have k4:(t.kind==4)=false:=by simp[hk]
 have k6:(t.kind==6)=false:=by simp[hk]
 have k8:(t.kind==8)=true:=by simp[hk]
 have b0:=x0;obtain⟨HK,HE,HN,HL⟩:=Z4 hk he bk hl;subst Lw;clear ih hk hn hp cG hv hl he xd afN bk ar jz jd Kv hs hE hR lk fL dr fx x0 x6 hz hd;go_enter func28,ntmps28;go_wp2_with fail;refine jQ9 (S:=(λw'=>w'.cell? ⟨W.heap.size,0,none⟩=some (.int .i64 t.kind)/\w'.cell? ⟨W.heap.size,6,none⟩=some (.slice (some ⟨b,o,none⟩) 2 c)/\(w'.cell? ⟨b,o,none⟩=some (.int .i64 e.kind)/\w'.cell? ⟨b,o+1,none⟩=some (.int .i64 e.n)/\w'.cell? ⟨b,o+2,none⟩=some (.int .i64 e.m)/\w'.cell? ⟨b,o+3,none⟩=some (.bool e.va)/\w'.cell? ⟨b,o+4,none⟩=some (.string e.name)/\w'.cell? ⟨b,o+5,none⟩=some (.string e.tag)/\w'.cell? ⟨b,o+6,none⟩=some (.slice a' e.elems.length c'))/\(w'.cell? ⟨b,o+7,none⟩=some (.int .i64 e2.kind)/\w'.cell? ⟨b,o+7+1,none⟩=some (.int .i64 e2.n)/\w'.cell? ⟨b,o+7+2,none⟩=some (.int .i64 e2.m)/\w'.cell? ⟨b,o+7+3,none⟩=some (.bool e2.va)/\w'.cell? ⟨b,o+7+4,none⟩=some (.string e2.name)/\w'.cell? ⟨b,o+7+5,none⟩=some (.string e2.tag)/\w'.cell? ⟨b,o+7+6,none⟩=some (.slice a2 e2.elems.length c2)))) g9 (gV.1 _ _ Kw.1) (λai=>?_);refine t4 0 1 2 3 ?_;refine t4 4 6 7 8 ?_;refine t2 9 10 ?_;refine rd 5 rfl λK hK=>?_;go_simp;clear ai;refine ag.mono ?_;rintro eA wA ⟨u,aO,rfl,cq,hu⟩;have yF:=Z (lO.1.trans cq);obtain⟨bu,rfl, -⟩:=id hu;have HU:=Z hu;have HG:=Z (Kw.1.trans cq.gr);have aD:=vq.1 aO wA _ cq.bs (QU.1.move (uL.1.C0 (Kw.1.trans cq.gr))) (by have h1:=cq.len;have h2:=HN.1;have h3:=HL.1;omega);refine hK.out _ _ (gV.1 _ _ HG.1) (λai=>?_);clear ag cq hu;clear hK K;refine rd 11 rfl λK hK=>?_;go_simp;clear ai;refine aD.mono ?_;rintro eA wB ⟨u2,fT,rfl,cq,hu⟩;have HM:=Z ((yF.1.trans cq).more (m:=nds t) (by have:=HN.1;omega));obtain⟨bu2,rfl, -⟩:=id hu;have Hz:=Z hu;replace HU:=Z (HU.1.mono cq.gr.sle);have Oq:=Z (HG.1.trans cq.gr);refine hK.out _ _ (gV.1 _ _ Oq.1) (λai=>?_);clear aD cq hu;clear hK K;refine rd 12 rfl λK hK=>?_;go_simp;clear ai;refine rv (Gh _ _ _ _ _) ?_;refine hK.out _ _ (gV.1 _ _ (Oq.1.trans (Gr.below (an _ _)))) (λai=>?_);clear hK K;refine t2 13 14 ?_;refine jQl g9 ?_ _;clear ai;have HP:=Z (aid HM.1 HK.1 HE.1 HU.1 Hz.1);exact M13
end Go.Proofs.YtabjfnkfocnklaaGreatDoor
