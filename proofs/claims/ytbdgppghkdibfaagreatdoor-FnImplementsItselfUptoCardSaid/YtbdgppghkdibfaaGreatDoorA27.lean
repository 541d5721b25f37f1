import Derived.Test.YtbdgppghkdibfaaGreatDoorA26
set_option linter.all false
set_option maxHeartbeats 16000000
set_option maxRecDepth 20000
namespace Go.Proofs.YtbdgppghkdibfaaGreatDoor
open Go Go.RowKit Go.Lib S P Tryz
variable{aO eo fT σ:BS}{B:Bl}{e s t:Y}{Q:Y->Prop}{inf k:Int}{NS:List ByteArray}{cs ds os rs:List Nat}{ps qs xs:List Value}{l:List aH}{w:List ah}{K N b base bb cb d eb hp kk n ob oc oe pk r sb y z:Nat}{obj st st':Nat->Nat}{D D' DI E:Qx}{GT:Prop}{S S':Sg}{ty:TypeId}{dv fv ms p pos tv ut v v' x xX:Value}{W W' W0 W1 W2 W3 W4 W5 W6 W7 gG wr:World}{m:aH}
theorem M126(h:GT:=by
 obtain hr|⟨g1,b,o,c,e,g3,g4,g5,g6⟩:=hr
 .exact .inl hr
 .refine .inr ⟨g1,b,o,c,e,g3,g4,⟨g5,ho _ _ _ e λhz=>g1 (jQe hz)⟩,g6⟩):GT:=h
theorem M148(h:GT:=by
 rw[Array.getElem?_push,jQ4 M]):GT:=h
theorem M155(h:GT:=by
 cases x with
 |none=>exact j
 |some tm=>
  obtain⟨b,v,ty,g1,g2,g3,g4,g5⟩:=j;exact⟨b,v,ty,g1,h.Wp b g2,g3,g4,g5⟩):GT:=h
def CY(B:Bl)(σ:BS)(b:Nat):Prop:=b=B.bb\/σ.mv.ownBlock=some b
structure DZ(w:List ah)(σ:BS)(W:World)(obj:Nat->Nat):Prop where
 named:∀b s,σ.S b=some s->cI s->fe w σ.S σ.D W b (obj b) s
 we:∀b b' s,σ.S b=some s->σ.S b'=some s->cI s->b=b'
 Gk:∀b b' s s',σ.S b=some s->σ.S b'=some s'->cI s->cI s'->obj b=obj b'->b=b'
theorem Bs.dne(h:Bs NS Q w K B DI σ W):∀b,σ.D b->¬CY B σ b:=λb hd he=>he.elim (λe=>h.kJ.2 (e▸hd)) λe=>(h.gY b e).2.1 hd
theorem Bs.Wp(h:Bs NS Q w K B DI σ W):∀b,σ.D b->σ.S b=none:=λb hd=>by
 cases hs:σ.S b with
 |none=>rfl
 |some s=>exact absurd hd (h.th.rS b s hs)
theorem Bs.gh(h:Bs NS Q w K B DI σ W)(hn:DZ w σ W obj):GH w σ.S σ.D obj W:=
 ⟨h.th.node,hn.named,h.th.lI,h.th.mT,h.th.rS,hn.we,hn.Gk,h.th.LR,h.th.A9,h.th.td⟩
theorem Gc(hr:eE D W ps v)(hd:∀b,D b->¬E b):Out E v:=by
 intro ad n c e hn;rcases hr with⟨_,a,c',e',_⟩|⟨_,b,o,c',e',_,_,hb,_⟩
 .rw[e']at e;cases e;exact absurd rfl hn
 .rw[e']at e;cases e;exact hd b hb
theorem acH(h:Bs NS Q w K B DI σ W){s:TS}(hs:Wq σ.S σ.D W sb s):yn σ.S σ.D (CY B σ) W sb s:=by
 obtain⟨ms,tl,ps,qs,I,U,h3,h4,h5,h6⟩:=hs;have hm:au σ.D (Rn σ.S W) W W:=λb hb=>⟨⟨h.Wp b hb,h.th.LR b hb⟩,rfl⟩;refine⟨ms,tl,ps,h.dne sb I,Gc h3 h.dne,Gc h5 λb hb=>h.dne b hb.1,U,h.Wp sb I,h3.move hm,h4,qs,h5.move (λb hb=>⟨⟨h.Wp b hb.1,hb.2⟩,rfl⟩),h6.imp λx p j=>?_⟩;exact M155
theorem Bs.ok(h:Bs NS Q w K B DI σ W)(hn:DZ w σ W obj)(rs:List Nat)(r:Nat):Ok w σ.S σ.D obj rs K (CY B σ) r W:=by
 refine⟨h.gh hn,λb hb=>?_,λb s hs hi _=>?_⟩
 .obtain rfl|hb:=hb
  .exact⟨h.lt.1,h.kJ.2,h.kJ.1⟩
  .exact⟨h.lt.2 b hb,(h.gY b hb).2.1,(h.gY b hb).1⟩
 .obtain⟨ts,I,U⟩:=h.th.st b s hs hi;exact⟨ts,I,U.imp id λ⟨sb,g1,g2⟩=>⟨sb,g1,acH h g2⟩⟩
def J2(B:Bl)(σ:BS)(W:World)(b:Nat):Prop:=Rn σ.S W b/\¬CY B σ b
theorem acI(mO:W.heap[B.bb]?=some (.cells #[ptr B.pk,B.dv,B.ev,B.cv,σ.mv] 58 (0,0)))(eR:∀g,σ.mv.ownBlock=some g->∃cur,W.heap[g]?=some (.cells cur 33 (0,0)))(hd:∀b,σ.D b->J2 B σ W b){s:TS}(hs:yn σ.S σ.D (CY B σ) W sb s):Wq σ.S (J2 B σ W) W sb s:=by
 obtain⟨ms,tl,ps,I,U,h3,h4,h5,h6,h7,qs,h8,h9⟩:=hs;have cq:au σ.D (J2 B σ W) W W:=λb hb=>⟨hd b hb,rfl⟩;have kX:∀{F:Qx} {xs:List Value} {sl:Value},eE F W xs sl->Out (CY B σ) sl->eE (λb=>F b/\¬CY B σ b) W xs sl:=by
  intro F xs sl hr ho;exact M126
 refine⟨ms,tl,ps,qs,⟨⟨h5,_,_,_,h4⟩,I⟩,h4,kX h6 U,h7.imp λm p j=>j.move (λ_ _ h=>h) cq,(kX h8 h3).move (λb hb=>⟨⟨⟨⟨hb.1.1,(by obtain⟨cs,f,hc⟩:=hb.1.2;exact⟨cs,_,f,hc⟩)⟩,hb.2⟩,hb.1.2⟩,rfl⟩),h9.imp λx p j=>?_⟩
 .cases x with
  |none=>exact j
  |some tm=>
   obtain⟨b,v,ty,g1,g2,g3,g4,g5⟩:=j;refine⟨b,v,ty,g1,⟨⟨g2,_,_,_,g3⟩,λhe=>?_⟩,g3,g4,g5⟩;obtain rfl|he:=he
   .rw[mO]at g3;cases g3
   .obtain⟨cur,hc⟩:=eR b he;rw[hc]at g3;cases g3;rcases g4 with h|h<;>cases h
theorem Bs.back(h:Bs NS Q w K B DI σ W)(hn:DZ w σ W obj)(bD:Ok w σ.S σ.D obj rs K (CY B σ) r W')(hf:Fr σ.S rs r W W')(hJ:∀b s,σ.S b=some s->isIf s=true->2*J rs false false s<r):
 Bs NS Q w K B DI {σ with D:=J2 B σ W'} W'/\DZ w {σ with D:=J2 B σ W'} W' obj:=by
 have mO:=hf.obj h.kJ.1 h.jl;have eR:∀g,σ.mv.ownBlock=some g->∃cur,W'.heap[g]?=some (.cells cur 33 (0,0)):=λg hg=>by
  obtain⟨_,_,cur,hc⟩:=aC h.own g hg;exact⟨cur,hf.obj (h.gY g hg).1 hc⟩
 have hd:∀b,σ.D b->J2 B σ W' b:=λb hb=>⟨⟨h.Wp b hb,bD.gh.LR b hb⟩,h.dne b hb⟩;have j9:au σ.D (J2 B σ W') W' W':=λb hb=>⟨hd b hb,rfl⟩;have hm:au σ.D (J2 B σ W') W W':=λb hb=>⟨hd b hb,((h.gh hn).eu hf b hb).2⟩;have hz:=hf.size;refine⟨⟨⟨λb s hs=>(bD.gh.node b s hs).move (λ_ _ h=>h) j9 (.inl rfl),bD.gh.lI,λb hb=>?_,λb s hs hb=>?_,λb hb=>hb.1.2,bD.gh.A9,bD.gh.td.move j9,λb s hs hi=>?_⟩,mO,h.Rm.move hm,h.row.move hm,h.rn,h.dl,h.ev,h.cv,⟨h.kJ.1,λhb=>hb.2 (.inl rfl)⟩,?_,λg hg=>⟨(h.gY g hg).1,λhb=>hb.2 (.inr hg),(h.gY g hg).2.2⟩,h.made,λb hb=>⟨jQb (h.di b hb).1 hz,(h.di b hb).2⟩,h.ifs⟩,⟨λb s hs hi=>?_,hn.we,hn.Gk⟩⟩
 .obtain⟨_,cs,ty,f,hc⟩:=hb.1;exact jQ2 hc
 .have:=hb.1.1;rw[hs]at this;cases this
 .obtain⟨ts,I,U⟩:=bD.st b s hs hi (hJ b s hs hi);exact⟨ts,I.move (λ_ _ h=>h) j9 rfl,U.imp id λ⟨sb,g1,g2⟩=>⟨sb,g1,acI mO eR hd g2⟩⟩
 .exact cD h.own λg hg=>by
   obtain⟨_,_,cur,hc⟩:=aC h.own g hg;exact(hf.obj (h.gY g hg).1 hc).trans hc.symm
 .obtain⟨ut,ms,ps,g1,g2,g3,g4,g5⟩:=bD.gh.named b s hs hi;refine⟨ut,ms,ps,g1,g2,g3.move j9,g4.imp λm p j=>?_,g5.move j9⟩;obtain⟨b,pos,pk,sb,rb,pos',F0,nm,k,rt,I,U,h3,h4,h5,h6,h7⟩:=j;exact⟨b,pos,pk,sb,rb,pos',F0,nm,k,rt,I,hd _ U,h3,h4,h5,hd _ h6,h7⟩
theorem zu(hT:dS NS Q w S D obj rs K r)(bD:Ok w S D obj rs K E r W)(hs:S b=some (aG t))(cP:Fb NS Q w t)(AB:2*J rs false false t<r):
 Calls prog 76 #[ptr b] W (aV w S D obj rs K E r W λv _=>v=ptr b):=by
 have ag:=bG hT bD hs cP AB;have hk:(aG t).ld=10\/(aG t).ld=17:=M150
 obtain⟨-, -, -, -, -, -, -, -, -,n10, -⟩:=bD.gh.node b _ hs;obtain⟨ts,ms,es,ps,vs,hb, -⟩:=n10 hk;obtain⟨-, -, -, -, -,c5, -⟩:=ao hb;clear hb n10 bD hs hT cP AB hk;go_in;go_wp2_with fail;refine ag.mono ?_;rintro e O ⟨v,rfl,⟨sb,rfl,k1⟩,k2,k3⟩;have HP:=Z (show aV w S D obj rs K E r W (λv _=>v=ptr b) (.returned (ptr b)) O from⟨_,rfl,rfl,k2,k3⟩);clear k1 k2 k3 ag;exact M21
theorem Bs.clear(h:Bs NS Q w K B DI σ W)(j:kT B.bb #[ptr B.pk,B.dv,B.ev,B.cv,.slice none 0 0] 58 W W'):Bs NS Q w K B DI {σ with mv:=.slice none 0 0,ml:=[]} W':=by
 have hS:∀b s,σ.S b=some s->W'.heap[b]?=W.heap[b]?:=λb s hs=>j.other b λe=>by have:=h.kJ.1;rw[<-e,hs]at this;cases this
 have hD:∀b,σ.D b->W'.heap[b]?=W.heap[b]?:=λb hd=>j.other b λe=>h.kJ.2 (e▸hd);have hm:au σ.D σ.D W W':=λb hb=>⟨hb,hD b hb⟩;have hz:=jQz j.size.symm;exact⟨h.th.cR hz hS hD,j.here,h.Rm.move hm,h.row.move hm,h.rn,h.dl,h.ev,h.cv,h.kJ,jR9 _ _ _ _,λg hg=>by simp[Value.ownBlock]at hg,λb hb=>by simp at hb,λb hb=>⟨jQb (h.di b hb).1 hz,(h.di b hb).2.1,by simp[Value.ownBlock],(h.di b hb).2.2.2⟩,h.ifs⟩
theorem DZ.cR(h:DZ w σ W obj)(dJ:∀(n:Nat) (d:ah),w[n]?=some d->∀m∈d.lw,m.sig.ld=7)(hS:∀b s,σ.S b=some s->W'.heap[b]?=W.heap[b]?)(hD:∀b,σ.D b->W'.heap[b]?=W.heap[b]?):DZ w σ W' obj:=by
 have hm:au σ.D σ.D W W':=λb hb=>⟨hb,hD b hb⟩;refine⟨λb s hs hn=>?_,h.we,h.Gk⟩;exact M29
def aaQ(NS:List ByteArray)(Q:Y->Prop)(w:List ah)(K:Nat)(B:Bl)(DI:Qx)(obj:Nat->Nat)(rs:List Nat)(r:Nat)(σ:BS)(W:World)(W':World):Prop:=
 ∃D',Bs NS Q w K B DI {σ with D:=D',mv:=.slice none 0 0,ml:=[]} W'/\DZ w {σ with D:=D',mv:=.slice none 0 0,ml:=[]} W' obj/\W'.os=W.os/\W'.tape=W.tape/\W'.output=W.output/\W.heap.size<=W'.heap.size/\
  ∀b,b<W.heap.size->b≠B.bb->W'.heap[b]?=W.heap[b]?\/∃s ts sh,σ.S b=some s/\isIf s=true/\DE W W' b ts sh
theorem rF(hT:dS NS Q w σ.S σ.D obj rs K r)(dJ:∀(n:Nat) (d:ah),w[n]?=some d->∀m∈d.lw,m.sig.ld=7)(cG:Bs NS Q w K B DI σ W)(hn:DZ w σ W obj)(hJ:∀b s,σ.S b=some s->isIf s=true->2*J rs false false s<r):
 Calls prog 32 #[ptr B.bb] W λe W'=>e=.returned (.tuple #[])/\aaQ NS Q w K B DI obj rs r σ W W':=by
 have bD:=cG.ok hn rs r;have afL:∃a c,σ.mv=.slice a σ.ml.length c:=by
  rcases cG.own.2 with⟨e,h0⟩|⟨g',cap,cur,e,k1,k2,k3⟩
  .exact⟨none,0,by rw[e,h0]⟩
  .exact⟨_,_,e⟩
 obtain⟨a,c,eR⟩:=afL;have rO:σ.ml.length<=9223372036854775807:=by
  have:=cG.own.1;rcases cG.own.2 with⟨e,h0⟩|⟨g',cap,cur,e,k1,k2,k3,k4,k5,k6⟩
  .omega
  .simp only[maxLen]at k4;omega
 have hblk:=cG.jl;rw[eR]at hblk;have b4:W.cell? ⟨B.bb,4,none⟩=some (.slice a σ.ml.length c):=by simp[World.cell?,hblk]
 have KP:∀(wr:World),Fr σ.S rs r W wr->∀i p,σ.ml[i]?=some p->∃b,a=some ⟨b,0,none⟩/\wr.cell? ⟨b,i,none⟩=some (ptr p):=by
  intro wr hf i p hi;rcases cG.own.2 with⟨e,h0⟩|⟨g',cap,cur,e,k1,k2,k3⟩
  .have:=jQe h0;rw[this]at hi;simp at hi
  .rw[eR]at e;cases e;have hg:σ.mv.ownBlock=some g':=by rw[eR];simp[Value.ownBlock]
   have I:=cG.own.cells (g:=g') hg i (ptr p) (by rw[List.getElem?_map,hi];rfl);have U:W.cell? ⟨g',i,none⟩=some (ptr p):=by rw[<-I];congr 1;unfold Addr.add;split<;>simp_all
   exact⟨g',rfl,hf.cell (cG.gY g' hg).1 U⟩
 obtain⟨HCL,uL,HN,HOK,HJ,HT,zk,Oa⟩:=Z8 KP cG hn bD hJ hT dJ eR;clear KP cG hn bD hJ hT dJ eR hblk;go_in;go_wp2_with fail
 go_loopg [9] σ.ml.length (λgg s9 wr=>∃(kk:Nat),kk<=σ.ml.length/\σ.ml.length - kk<=gg/\s9=.int .i64 kk/\Ok w σ.S σ.D obj rs K (CY B σ) r wr/\Fr σ.S rs r W wr)
 case atStart=>exact⟨0,jQc _,M,rfl,HOK.1,Fr.refl _⟩
 case round=>
  obtain⟨kk,ez,hg,rfl,Vg,mW⟩:=hrel;have HOKR:=Z Vg;have Mf:=Z mW;by_cases aM:kk<σ.ml.length
  .have aR:(kk:Int)<(σ.ml.length:Int):=M
   obtain⟨b,hb⟩:∃b,σ.ml[kk]?=some b:=⟨σ.ml[kk]'aM,by simp[aM]⟩;obtain⟨g',rfl,hc⟩:=HCL.1 wr mW kk b hb;obtain⟨t,hs,hk,j⟩:=uL.1.made b (jQ8 hb);have AB:2*J rs false false t<r:=by
    have I:=HJ.1 b _ hs (by unfold isIf;rw[aI M,hk];rfl);rw[Ar (rs:=rs) false false M]at I;exact I
   have ag:=zu HT.1 Vg hs (.inl ⟨j,hk⟩) AB;clear Vg mW hb hs hk j AB;go_wp2_with fail;refine ag.mono ?_;rintro e' wA ⟨v,rfl,rfl,iG,zF⟩;have GR:=Z iG;have rR:=Z (Mf.1.trans zF);clear ag iG zF;go_wp2_with fail;go_roundg (σ.ml.length - (kk+1))
   case measure=>omega
   case rel=>exact⟨kk+1,M,M,by go_num,GR.1,rR.1⟩
  .have aR:¬(kk:Int)<(σ.ml.length:Int):=M
   obtain⟨cX,iK⟩:=uL.1.back HN.1 Vg mW HJ.1;have hblk:=cX.jl;have c4:wr.cell? ⟨B.bb,4,none⟩=some σ.mv:=by simp[World.cell?,hblk]
   rw[Oa.1]at c4;have z4:=cd hblk 4;obtain⟨lZ,dP,HN2⟩:=Z3 (aw hblk 4 (.slice none 0 0)) cX iK;clear Vg mW cX iK hblk b4;go_wp2_with fail;refine jRq (v:=.tuple #[]) (by simp[results,Tryz.results32,go_sem]) rfl ?_;have j:kT B.bb #[ptr B.pk,B.dv,B.ev,B.cv,.slice none 0 0] 58 wr _:=lZ.1;have aZ:=dP.1.clear j;have YH:=HN2.1.cR zk.1 (λb s hs=>j.other b λe=>by have:=dP.1.kJ.1;rw[<-e,hs]at this;cases this) (λb hd=>j.other b λe=>dP.1.kJ.2 (e▸hd));refine⟨rfl,_,aZ,⟨YH.named,YH.we,YH.Gk⟩,j.os.trans Mf.1.os,j.tape.trans Mf.1.tape,j.output.trans Mf.1.output,by have:=j.size;have:=Mf.1.size;omega,λb hb bk=>?_⟩;have ho:=j.other b bk;rcases Mf.1.block b hb with e|⟨s,ts,sh,g1,g2, -,c0,c1,c2,c3,c4,c5,g4,g5⟩|⟨x1,⟨es,ck,x2⟩,x3⟩
   .exact .inl (ho.trans e)
   .exact .inr ⟨s,ts,sh,g1,g2,c0,c1,c2,c3,c4,c5,g4,ho.trans g5⟩
   .exact x1.elim
theorem TH.Wp(h:TH w K S D W):∀b,D b->S b=none:=λb hd=>by
 cases hs:S b with
 |none=>rfl
 |some s=>exact absurd hd (h.rS b s hs)
theorem Ye(h:TH w K S D W)(hE:∀b,D b->¬E b){s:TS}(hs:Wq S D W sb s):yn S D E W sb s:=by
 obtain⟨ms,tl,ps,qs,I,U,h3,h4,h5,h6⟩:=hs;have hm:au D (Rn S W) W W:=λb hb=>⟨⟨h.Wp b hb,h.LR b hb⟩,rfl⟩;refine⟨ms,tl,ps,hE sb I,Gc h3 hE,Gc h5 λb hb=>hE b hb.1,U,h.Wp sb I,h3.move hm,h4,qs,h5.move (λb hb=>⟨⟨h.Wp b hb.1,hb.2⟩,rfl⟩),h6.imp λx p j=>?_⟩;exact M155
theorem TH.ok(h:TH w K S D W)(fp:∀b s,S b=some s->¬cI s)(hE:∀b,E b->b<W.heap.size/\¬D b/\S b=none)(obj:Nat->Nat)(rs:List Nat)(r:Nat):Ok w S D obj rs K E r W:=by
 refine⟨⟨h.node,λb s hs hn=>absurd hn (fp b s hs),h.lI,h.mT,h.rS,λb b' s hs _ hn=>absurd hn (fp b s hs),λb b' s s' hs _ hn=>absurd hn (fp b s hs),h.LR,h.A9,h.td⟩,hE,λb s hs hi _=>?_⟩;obtain⟨ts,I,U⟩:=h.st b s hs hi;exact⟨ts,I,U.imp id λ⟨sb,g1,g2⟩=>⟨sb,g1,Ye h (λb hd he=>(hE b he).2.1 hd) g2⟩⟩
def PH(S:Sg)(E:Qx)(W:World)(b:Nat):Prop:=Rn S W b/\¬E b
theorem Yf(hE:∀b,E b->∃cs ty f,W.heap[b]?=some (.cells cs ty f)/\ty≠158/\ty≠237)(hd:∀b,D b->PH S E W b){s:TS}(hs:yn S D E W sb s):Wq S (PH S E W) W sb s:=by
 obtain⟨ms,tl,ps,I,U,h3,h4,h5,h6,h7,qs,h8,h9⟩:=hs;have cq:au D (PH S E W) W W:=λb hb=>⟨hd b hb,rfl⟩;have kX:∀{F:Qx} {xs:List Value} {sl:Value},eE F W xs sl->Out E sl->eE (λb=>F b/\¬E b) W xs sl:=by
  intro F xs sl hr ho;exact M126
 refine⟨ms,tl,ps,qs,⟨⟨h5,_,_,_,h4⟩,I⟩,h4,kX h6 U,h7.imp λm p j=>j.move (λ_ _ h=>h) cq,(kX h8 h3).move (λb hb=>⟨⟨⟨⟨hb.1.1,(by obtain⟨cs,f,hc⟩:=hb.1.2;exact⟨cs,_,f,hc⟩)⟩,hb.2⟩,hb.1.2⟩,rfl⟩),h9.imp λx p j=>?_⟩;cases x with
 |none=>exact j
 |some tm=>
  obtain⟨b,v,ty,g1,g2,g3,g4,g5⟩:=j;refine⟨b,v,ty,g1,⟨⟨g2,_,_,_,g3⟩,λhe=>?_⟩,g3,g4,g5⟩;obtain⟨cs,ty',f,hc,hn⟩:=hE b he;rw[hc]at g3;cases g3;obtain h|h:=g4
  .exact hn.1 h
  .exact hn.2 h
theorem TH.back(bD:Ok w S D obj rs K E r W')(hE:∀b,E b->∃cs ty f,W'.heap[b]?=some (.cells cs ty f)/\ty≠158/\ty≠237)(hJ:∀b s,S b=some s->isIf s=true->2*J rs false false s<r):TH w K S (PH S E W') W':=by
 have hd:∀b,D b->PH S E W' b:=λb hb=>by
  refine⟨⟨?_,bD.gh.LR b hb⟩,λhe=>(bD.own b he).2.1 hb⟩;cases hs:S b with
  |none=>rfl
  |some s=>exact absurd hb (bD.gh.rS b s hs)
 have j9:au D (PH S E W') W' W':=λb hb=>⟨hd b hb,rfl⟩;refine⟨λb s hs=>(bD.gh.node b s hs).move (λ_ _ h=>h) j9 (.inl rfl),bD.gh.lI,λb hb=>?_,λb s hs hb=>?_,λb hb=>hb.1.2,bD.gh.A9,bD.gh.td.move j9,λb s hs hi=>?_⟩
 .obtain⟨_,cs,ty,f,hc⟩:=hb.1;exact jQ2 hc
 .have:=hb.1.1;rw[hs]at this;cases this
 .obtain⟨ts,I,U⟩:=bD.st b s hs hi (hJ b s hs hi);exact⟨ts,I.move (λ_ _ h=>h) j9 rfl,U.imp id λ⟨sb,g1,g2⟩=>⟨sb,g1,Yf hE hd g2⟩⟩
def Dg:Y:=.mk 1 16 0 false es es []
def Aq:Y:=.mk 7 0 0 false (str [69,114,114,111,114]) es [Dg]
def Ap(sb y:Nat):Sg:=cE (cE (cE (λ_=>none) sb (aG Dg)) (y+3) (aG Aq)) (y+6) (aG fC)
def St(y:Nat)(b:Nat):Prop:=b=5\/(b=y\/b=y+1\/b=y+2\/b=y+4\/b=y+5)
theorem row_one(hd:D b)(h:W.heap[b]?=some (.cells #[x] ty (0,0))):eE D W [x] (.slice (some ⟨b,0,none⟩) 1 1):=by
 refine .inr ⟨i6,b,0,1,rfl,i6,M,hd,λhp u hj=>?_⟩;cases hp with
 |zero=>simp at hj;subst hj;exact jQh h
 |succ hp=>simp at hj
theorem abc(rcv:Nat){nm:ByteArray}(j:jE (λb=>b=5) W)(Q5:∃cs t f,W.heap[5]?=some (.cells cs t f))(hpz:5<sb)(aM:sb<y)(rN:W.heap[sb]?=some (.cells #[.int .i64 17,.int .i64 inf,.string nm] 167 (0,0)))(h0:W.heap[y]?=some (.cells #[.int .i64 0,.pointer none,.string ⟨#[]⟩,.iface 89 (ptr sb),.int .u8 5,.bool false] 164 (0,0)))(I:W.heap[y+1]?=some (.cells #[ptr y] 86 (0,0)))(U:W.heap[y+2]?=some (.cells #[.slice (some ⟨y+1,0,none⟩) 1 1] 171 (0,0)))(h3:W.heap[y+3]?=some (.cells #[ptr rcv,.pointer none,.pointer none,ptr (y+2),.bool false] 96 (0,0)))(h4:W.heap[y+4]?=some (.cells #[.int .i64 0,.pointer none,.string ⟨#[69,114,114,111,114]⟩,.iface 92 (ptr (y+3)),.bool false,.bool false] 173 (0,0)))(h5:W.heap[y+5]?=some (.cells #[ptr (y+4)] 97 (0,0)))(h6:W.heap[y+6]?=some (.cells (Nb true (.slice (some ⟨y+5,0,none⟩) 1 1) (.slice none 0 0)) 104 (0,0))):TH w K (Ap sb y) (St y) W:=by
 have z6:=jQ2 h6;have t0:TH w K (λ_=>none) (λb=>b=5) W:=⟨λ_ _ h=>(by cases h),λ_ _ h=>(by cases h),λb hb=>(by subst hb;omega),λ_ _ h=>(by cases h),λb hb=>(by subst hb;exact Q5),λ_ _ h=>(by cases h),j,λ_ _ h=>(by cases h)⟩;have t1:=t0.lW (λb=>b=y\/b=y+1\/b=y+2\/b=y+4\/b=y+5) (λb hb=>by
  refine⟨M,rfl,?_⟩;obtain rfl|rfl|rfl|rfl|rfl:=hb
  .exact⟨_,_,_,h0⟩
  .exact⟨_,_,_,I⟩
  .exact⟨_,_,_,U⟩
  .exact⟨_,_,_,h4⟩
  .exact⟨_,_,_,h5⟩)
 have e1:∀{b:Nat},St y b->b=5\/(b=y\/b=y+1\/b=y+2\/b=y+4\/b=y+5):=id;obtain⟨a1,a2,a3,a4,a5⟩:=fa (t:=Dg) i5 i5 i5 i5;obtain⟨b1,b2,b3,b4,b5⟩:=fa (t:=Aq) i5 i5 i5 i5;obtain⟨c1,c2,c3,c4,c5⟩:=fa (t:=fC) i5 i5 i5 i5;have hA:(aG Dg).ld=1:=a1;have hB:(aG Aq).ld=7:=b1;have hC:(aG fC).ld=10:=c1;have t2:TH w K (cE (λ_=>none) sb (aG Dg)) (St y) W:=t1.add rfl (by intro h;omega) M ⟨_,_,rN⟩
  ⟨λ_=>⟨inf,nm,by rw[a2];exact rN⟩,M,M,M,M,M,M,M,M,M,M⟩ (λh=>by unfold isIf at h;rw[hA]at h;cases h)
 have n3:cE (λ_=>none) sb (aG Dg) (y+3)=none:=by unfold cE;rw[jQ4 M]
 have s3:=fG (s:=aG Aq) n3;obtain⟨o1,o2⟩:=zA (t:=Aq) i5 i5 i5 i5;have t3:=t2.add (s:=aG Aq) n3 (by intro h;have:=e1 h;omega) M ⟨_,_,h3⟩
  ⟨M,M,M,M,M,M,λ_=>⟨ptr rcv,.pointer none,ptr (y+2),by rw[b4];exact h3,by rw[o1];exact .inl ⟨rfl,rfl⟩,by
   rw[o2];refine .inr ⟨i5,y+2,_,[ptr y],rfl,.inr M,U,row_one (.inr M) I,⟨⟨#[]⟩,y,0,none,_,5,rfl,.inr M,h0,⟨sb,rfl,s3 _ _ (fH _ _ _)⟩⟩,trivial⟩⟩,M,M,M,M⟩ (λh=>by unfold isIf at h;rw[hB]at h;cases h)
 have n6:cE (cE (λ_=>none) sb (aG Dg)) (y+3) (aG Aq) (y+6)=none:=by unfold cE;rw[jQ4 M,jQ4 M]
 have s6:=fG (s:=aG fC) n6;obtain⟨q1,q2⟩:=zA (t:=fC) i5 i5 i5 i5;have cP:iJ (Ap sb y) (St y) W (y+6) (aG fC) (.pointer none):=
  ⟨_,_,[ptr (y+4)],[],h6,row_one (.inr M) h5,.inl ⟨rfl,none,0,rfl,λ_=>rfl⟩,by
   rw[q1];exact⟨⟨y+4,0,none,_,rfl,.inr M,h4,⟨y+3,rfl,s6 _ _ (fH _ _ _)⟩,.inl rfl⟩,trivial⟩,by rw[q2];trivial⟩
 exact t3.add (s:=aG fC) n6 (by intro h;have:=e1 h;omega) z6 ⟨_,_,h6⟩
  ⟨M,M,M,M,M,M,M,M,M,λ_=>⟨_,cP⟩,M⟩ (λ_=>⟨_,cP,.inl ⟨rfl,M⟩⟩)
structure adT(w:List ah)(K:Nat)(S:Sg)(D:Qx)(W W':World)(b ob:Nat):Prop where
 th:TH w K S D W'
 sb:S b=some oA
 nm:fe w S D W' b ob oA
 only:∀b' s,S b'=some s->cI s->b'=b/\s=oA
 ifs:∀b' s,S b'=some s->isIf s=true->s=aG fC
 low:∀b' s,S b'=some s->W.heap.size<=b'
 jJ:Below W.heap.size W W'
theorem Sr{pk nm:Value}(hz:z<=ob)(hzw:z<=W.heap.size)(h:Ni W ob false pos pk nm (.returned v) W'):Below z W W':=by
 obtain⟨-,I,U,h3,h4, -, -,h5⟩:=h;exact⟨U,h3,h4,M,λk hk=>h5 k M M⟩
theorem An(hTs:∀S D obj,dS NS Q w S D obj rs K r)(Df:PT NS Q w 0 fC)(hr:2*J rs false false fC<r)(j:jE (λb=>b=5) W)(Q5:∃cs t f,W.heap[5]?=some (.cells cs t f)):
 Calls prog 24 #[] W λe W'=>∃b ob S D,e=.returned (ptr b)/\adT w K S D W W' b ob:=by
 have lk:=jS 0 none ⟨#[101,114,114,111,114]⟩ W;have hh1:=ak W (.cells #[.int .i64 0,.pointer none,.string ⟨#[101,114,114,111,114]⟩,.nilIface] 119);have fL:=qH W.heap.size _ _ _ _ hh1;obtain⟨HH1,Kp,XA,HR,HP,HPC,HZ1,bS⟩:=Z8 hh1 hTs Df hr j Q5 (jQ3 W (.cells #[.int .i64 0,.pointer none,.string ⟨#[101,114,114,111,114]⟩,.nilIface] 119)) (an W (.cells #[.int .i64 0,.pointer none,.string ⟨#[101,114,114,111,114]⟩,.nilIface] 119));clear hh1 hTs Df hr j Q5;go_in;go_wp2_with fail;refine rv lk ?_;clear lk;go_wp2_with fail;refine fL.mono ?_;rintro e' w2 U;obtain⟨rfl,j8,Ao,fQ,Le,xn,Nj,j6⟩:=id U;have dP:=Z (bS.1.trans (Sr (jQ0 _) bS.1.size U));rw[jQ3]at j8 xn Nj⊢;obtain⟨XB,HNB,XC⟩:=Z3 j8 xn Nj;clear fL U j8 Ao fQ Le xn Nj j6;have Kq:=iB 3 0 none ⟨#[]⟩ 53 (ptr (W.heap.size+1)) w2;go_wp2_with fail;refine rv Kq ?_;clear Kq;have hc4:=Ee 17 M M (w2.alloc (.cells #[.int .i64 0,.pointer none,.string ⟨#[]⟩,.iface 53 (ptr (W.heap.size+1)),.int .u8 3,.bool false] 164));go_wp2_with fail;refine hc4.mono ?_;rintro e' w4 ⟨sb,inf,nm,rfl,j8,j6,rN⟩;obtain⟨HSL,pU,wL⟩:=Z3 j8 j6 rN;clear hc4 j8 j6 rN;have Ss:=iB 5 0 none ⟨#[]⟩ 89 (ptr sb) w4;go_wp2_with fail;refine rv Ss ?_;clear Ss;have yY:Calls prog 55 #[.slice (some ⟨w4.heap.size+1,0,none⟩) 1 1] ((w4.alloc (.cells #[.int .i64 0,.pointer none,.string ⟨#[]⟩,.iface 89 (ptr sb),.int .u8 5,.bool false] 164)).alloc (.cells #[ptr w4.heap.size] 86)) _:=qx _ 0 1 _;go_wp2_with fail;refine rv yY ?_;clear yY;have Lf:=kM 0 none ⟨#[69,114,114,111,114]⟩ (w4.heap.size+3) ((((w4.alloc (.cells #[.int .i64 0,.pointer none,.string ⟨#[]⟩,.iface 89 (ptr sb),.int .u8 5,.bool false] 164)).alloc (.cells #[ptr w4.heap.size] 86)).alloc (.cells #[.slice (some ⟨w4.heap.size+1,0,none⟩) 1 1] 171)).alloc (.cells #[ptr w2.heap.size,.pointer none,.pointer none,ptr (w4.heap.size+2),.bool false] 96));go_wp2_with fail;refine rv Lf ?_;clear Lf;obtain⟨W9,Wb⟩:∃W9,W9=allocs w4 [.cells #[.int .i64 0,.pointer none,.string ⟨#[]⟩,.iface 89 (ptr sb),.int .u8 5,.bool false] 164,.cells #[ptr w4.heap.size] 86,.cells #[.slice (some ⟨w4.heap.size+1,0,none⟩) 1 1] 171,.cells #[ptr w2.heap.size,.pointer none,.pointer none,ptr (w4.heap.size+2),.bool false] 96,.cells #[.int .i64 0,.pointer none,.string ⟨#[69,114,114,111,114]⟩,.iface 92 (ptr (w4.heap.size+3)),.bool false,.bool false] 173,.cells #[ptr (w4.heap.size+4)] 97,.cells (Nb true (.slice (some ⟨w4.heap.size+5,0,none⟩) 1 1) (.slice none 0 0)) 104]:=⟨_,rfl⟩;have hpW:=HPC.1;obtain⟨pcs,pty,pf,Nk⟩:=id hpW;have hpz:=jQ2 Nk;have cz:=HSL.1;rw[jQ3,XB.1]at cz;have nU:=pU.1.size;rw[jQ3,XB.1]at nU;have rV:=jQ2 wL.1;have zG:Below w4.heap.size w4 W9:=by rw[Wb];exact jT _ _
 have yu:=zG.size;have adU:Below W.heap.size w2 w4:=((an w2 _).mono (by rw[XB.1];omega)).trans (pU.1.mono (by rw[jQ3,XB.1];omega));have adV:Below w2.heap.size w2 W9:=((an w2 _)).trans ((pU.1.mono (by rw[jQ3];omega)).trans (zG.mono (by rw[XB.1];omega)));have hB9:Below W.heap.size W W9:=dP.1.trans (adU.trans (zG.mono M));have th:=abc (w:=w) (K:=K) (W:=W9) (sb:=sb) (y:=w4.heap.size) w2.heap.size (HP.1.move λb hb=>⟨hb,hB9.block b (by subst hb;exact hpz)⟩) ⟨pcs,pty,pf,(hB9.block _ hpz).trans Nk⟩ M rV ((zG.block _ rV).trans wL.1)
  (by rw[Wb];exact eL _ w4 0 _ rfl) (by rw[Wb];exact eL _ w4 1 _ rfl) (by rw[Wb];exact eL _ w4 2 _ rfl) (by rw[Wb];exact eL _ w4 3 _ rfl) (by rw[Wb];exact eL _ w4 4 _ rfl) (by rw[Wb];exact eL _ w4 5 _ rfl) (by rw[Wb];exact eL _ w4 6 _ rfl)
 have hor:∀(b:Nat) (s:Y),Ap sb w4.heap.size b=some s->(b=sb/\s=aG Dg)\/(b=w4.heap.size+3/\s=aG Aq)\/(b=w4.heap.size+6/\s=aG fC):=λb s h=>by
  unfold Ap at h;rcases dV h with h|⟨-,h⟩
  .exact .inr (.inr h)
  .rcases dV h with h|⟨-,h⟩
   .exact .inr (.inl h)
   .rcases dV h with h|⟨-,h⟩
    .exact .inl h
    .cases h
 have hA:(aG Dg).ld=1:=(fa (t:=Dg) i5 i5 i5 i5).1;have hBk:(aG Aq).ld=7:=(fa (t:=Aq) i5 i5 i5 i5).1;have hC:(aG fC).ld=10:=(fa (t:=fC) i5 i5 i5 i5).1;have hnS:Ap sb w4.heap.size (W.heap.size+1)=none:=by
  cases h:Ap sb w4.heap.size (W.heap.size+1)with
  |none=>rfl
  |some s=>have:=hor _ _ h;omega
 have adW:Ap sb w4.heap.size W.heap.size=none:=by
  cases h:Ap sb w4.heap.size W.heap.size with
  |none=>rfl
  |some s=>have:=hor _ _ h;omega
 have bD:=th.ok (E:=λb=>b=W.heap.size+1) (λb s hs hn=>by
  rcases hor _ _ hs with⟨-,rfl⟩|⟨-,rfl⟩|⟨-,rfl⟩<;>(unfold cI at hn;omega)) (λb hb=>by
  subst hb;refine⟨M,λhd=>?_,hnS⟩;unfold St at hd;omega) (λ_=>0) rs r
 have hsT:Ap sb w4.heap.size (w4.heap.size+6)=some (aG fC):=fH _ _ _;have hc8:=Kp.1 _ _ _ _ W9 (w4.heap.size+6) fC 0 bD hsT (.inl ⟨XA.1,rfl⟩) HR.1;obtain⟨HTH,HOR,HK,Q6,eF,ZS,agR,xo⟩:=Z8 th hor (And.intro hA (And.intro hBk hC)) (And.intro hnS adW) hsT hB9 adV (And.intro cz (And.intro nU rV));have HW9:=Z Wb;clear bD hsT th hor hA hBk hC hnS adW hB9 adV adU zG cz nU rV yu hpW Nk hpz;go_wp2_with fail;subst Wb;refine hc8.mono ?_;rintro e' wA ⟨v,rfl,⟨tb,rfl,fi⟩,adX,hfA⟩;have hcA:∀b,Ap sb w4.heap.size b=none->∀{cs:Array Value} {ty:TypeId} {f:Nat×Nat},w2.heap[b]?=some (.cells cs ty f)->wA.heap[b]?=some (.cells cs ty f):=λb hb cs ty f h=>hfA.obj hb ((agR.1.block b (jQ2 h)).trans h);have hnA:=hcA _ Q6.1.1 HNB.1;have Su:=hcA _ Q6.1.2 XC.1;have hc9:=vd (W.heap.size+1) W.heap.size false 33 (ptr (w4.heap.size+6)) (.slice none 0 0) wA i5 i5 hnA;obtain⟨HOA,HNA,HFA,agS⟩:=Z4 Su hnA hfA adX;clear hc8 fi adX hfA hcA hnA Su;go_wp2_with fail;refine hc9.mono ?_;rintro e' wB ⟨rfl,adY⟩;have lZ:=Z adY;clear hc9 adY;go_wp2;go_ret;obtain⟨hA,hBk,hC⟩:=HK.1;obtain⟨cz,nU,rV⟩:=xo.1;have hJ:∀b s,Ap sb w4.heap.size b=some s->isIf s=true->2*J rs false false s<r:=λb s hs hi=>by
  rcases HOR.1 _ _ hs with⟨-,rfl⟩|⟨-,rfl⟩|⟨-,rfl⟩
  .unfold isIf at hi;rw[hA]at hi;cases hi
  .unfold isIf at hi;rw[hBk]at hi;cases hi
  .rw[Ar (rs:=rs) false false i5];exact HR.1
 have thA:=TH.back agS.1 (λb hb=>by subst hb;exact⟨_,_,_,HNA.1,i5,i5⟩) hJ;have thB:=thA.cR (W':=wB) (jQz lZ.1.size.symm) (λb s hs=>lZ.1.other b λe=>by rw[e,Q6.1.1]at hs;cases hs) (λb hb=>lZ.1.other b λe=>hb.2 e);have hkE:oA.ld=15:=rfl;have thC:=thB.add (s:=oA) Q6.1.1 (λh=>h.2 rfl) (jQ2 lZ.1.here) ⟨_,_,lZ.1.here⟩ ⟨M,M,M,M,M,M,M,M,M,M,M⟩ (λh=>by cases h);have hle:=fG (s:=oA) Q6.1.1;refine⟨W.heap.size+1,W.heap.size,_,_,rfl,thC,fH _ _ _,⟨.iface 33 (ptr (w4.heap.size+6)),.slice none 0 0,[],lZ.1.here,⟨w4.heap.size+6,rfl,hle _ _ eF.1⟩,.inl ⟨rfl,none,0,rfl,λ_=>rfl⟩,trivial,⟨⟨Q6.1.2,_,_,_,HOA.1⟩,λh=>M⟩,0,none,_,_,(lZ.1.other _ M).trans HOA.1,.inl rfl⟩,λb' s hs hn=>?_,λb' s hs hi=>?_,λb' s hs=>?_,?_⟩
 .rcases dV hs with h|⟨-,h⟩
  .exact h
  .exfalso;rcases HOR.1 _ _ h with⟨-,rfl⟩|⟨-,rfl⟩|⟨-,rfl⟩<;>(unfold cI at hn;omega)
 .rcases dV hs with⟨-,rfl⟩|⟨-,h⟩
  .cases hi
  .rcases HOR.1 _ _ h with⟨-,rfl⟩|⟨-,rfl⟩|⟨-,rfl⟩
   .unfold isIf at hi;rw[hA]at hi;cases hi
   .unfold isIf at hi;rw[hBk]at hi;cases hi
   .rfl
 .rcases dV hs with⟨rfl, -⟩|⟨-,h⟩
  .omega
  .have:=HOR.1 _ _ h;omega
 .have hz9:=ZS.1.size;have zH:=HFA.1.size;refine⟨lZ.1.os.trans (HFA.1.os.trans ZS.1.os),lZ.1.tape.trans (HFA.1.tape.trans ZS.1.tape),lZ.1.output.trans (HFA.1.output.trans ZS.1.output),by have:=lZ.1.size;omega,λb hb=>(lZ.1.other b M).trans ?_⟩;rcases HFA.1.block b (M)with e|⟨s,_,_,g1,_⟩|⟨x1,_⟩
  .exact e.trans (ZS.1.block b hb)
  .have:=HOR.1 _ _ g1;omega
  .exact x1.elim
theorem DT(v6:Value)(b ob:Nat)(al:Bool)(T:TypeId)(x ms:Value)(W:World)(hT:¬T=127)(hN:¬T=53)(h:W.heap[b]?=some (.cells #[.pointer none,ptr ob,.bool al,.int .i32 0,.int .u32 0,.int .u32 0,v6,.nilIface,.bool false,ms] 115 (0,0))):
 Calls prog 29 #[ptr b,.iface T x] W (F2 b #[.pointer none,ptr ob,.bool false,.int .i32 0,.int .u32 0,.int .u32 15,.iface T x,.iface T x,.bool false,ms] 115 W):=by
 have lk:=yb T x W hT hN;have fL:=BJ ⟨b,3,none⟩ W (by simp[World.cell?,h]) (cd h 3);have ke:=aw h 3 (.int .i32 1);have hx:=Z h;clear hT hN h
 go_enter_defers func29,ntmps29
 go_wp2_with fail;refine rv lk ?_;go_wp2_with fail;refine rv fL ?_;generalize W.setCell ⟨b,3,none⟩ (.int .i32 1)=W1 at ke⊢;have I:=ke.here;simp only[Array.setIfInBounds]at I;simp at I;have f1:=cd I 6;have f2:=cd I 2;have c6:W1.cell? ⟨b,6,none⟩=some v6:=by simp[World.cell?,I]
 exact M16
abbrev Cr(ob:Nat)(u:Value):Obj:=.cells #[.pointer none,ptr ob,.bool false,.int .i32 0,.int .u32 0,.int .u32 0,u,.nilIface,.bool false,.slice none 0 0] 115
def Mq(W:World)(ob:Nat)(u pos pk nm:Value)(o:Obj)(e:Ending)(W':World):Prop:=
 e=.returned (ptr W.heap.size)/\W'.heap.size=W.heap.size+1/\W'.os=W.os/\W'.tape=W.tape/\W'.output=W.output/\W'.heap[W.heap.size]?=some o/\W'.heap[ob]?=some (.cells #[pos,pk,nm,.iface 53 (ptr W.heap.size)] 119 (0,0))/\∀b,b<W.heap.size->b≠ob->W'.heap[b]?=W.heap[b]?
theorem zr(ob:Nat)(x:Value)(pos pk nm:Value)(W:World)(h:W.heap[ob]?=some (.cells #[pos,pk,nm,.nilIface] 119 (0,0))):
 Calls prog 52 #[.pointer none,ptr ob,.iface 33 x,.slice none 0 0] W (Mq W ob (.iface 33 x) pos pk nm (Cr ob (.iface 33 x))):=by
 have aM:=jQ2 h;have hg:(W.alloc (Cr ob (.iface 33 x))).heap[ob]?=some (.cells #[pos,pk,nm,.nilIface] 119 (0,0)):=aq h;have c3:(W.alloc (Cr ob (.iface 33 x))).cell? ⟨ob,3,none⟩=some .nilIface:=by simp[World.cell?,hg]
 have fz:=cd hg 3;have bk:ob≠W.heap.size:=M
 go_in;go_wp2;go_ret;have j:=aw h 3 (.iface 53 (ptr W.heap.size));have I:=ak (W.setCell ⟨ob,3,none⟩ (.iface 53 (ptr W.heap.size))) (Cr ob (.iface 33 x));have hb:=an (W.setCell ⟨ob,3,none⟩ (.iface 53 (ptr W.heap.size))) (Cr ob (.iface 33 x));exact M44
theorem zt(ob:Nat)(x:Value)(pos pk nm:Value)(W:World)(h:W.heap[ob]?=some (.cells #[pos,pk,nm,.nilIface] 119 (0,0))):
 Calls prog 25 #[ptr ob,.iface 33 x,.slice none 0 0] W (Mq W ob (.iface 33 x) pos pk nm (.cells #[.pointer none,ptr ob,.bool false,.int .i32 0,.int .u32 0,.int .u32 15,.iface 33 x,.iface 33 x,.bool false,.slice none 0 0] 115)):=by
 have Xf:=yb 33 x W i5 i5;have hc:=zr ob x pos pk nm W h;have aM:=jQ2 h;clear h;go_in;go_wp2_with fail;refine rv Xf ?_;go_wp2_with fail;refine hc.mono ?_;rintro e O ⟨rfl,I,U,h3,h4,h5,h6,h7⟩;have Kq:=DT (.iface 33 x) W.heap.size ob false 33 x (.slice none 0 0) O i5 i5 h5;clear hc Xf;go_wp2_with fail;refine Kq.mono ?_;rintro e w3 ⟨rfl,j⟩;have HP:=Z j;clear Kq j;go_wp2;go_ret;exact M98
theorem ZC(w:List ah)(k:Nat):(fs w (k+1)).ts da=⟨[],[some fu],true⟩:=by
 rw[fs];show iH (fs w k) w da=_;unfold iH;rw[jQ7 (show da.ld=17 from rfl)]
theorem acw(h:TH w K S D W)(hK:1<=K)(hS:∀b,z<=b->S b=none)(hD:∀b,z<=b->¬D b)(h0:W.heap[z]?=some tT1)(I:W.heap[z+1]?=some (tT2 z))(U:W.heap[z+2]?=some (tT3 z true))(h3:W.heap[z+3]?=some (tT4 z)):
 TH w K (cE S (z+3) (aG da)) (λb=>D b\/(z<=b/\b<z+3)) W:=by
 have z3:=jQ2 h3;have hM:=h.lW (λb=>z<=b/\b<z+3) (λb hb=>by
  refine⟨M,hS b hb.1,?_⟩;have:b=z\/b=z+1\/b=z+2:=M
  obtain rfl|rfl|rfl:=this
  .exact⟨_,_,_,h0⟩
  .exact⟨_,_,_,I⟩
  .exact⟨_,_,_,U⟩)
 obtain⟨K',rfl⟩:∃K',K=K'+1:=⟨K - 1,M⟩;have hkc:aG da=da:=rfl;have hk:(aG da).ld=17:=rfl;have fi:Wq (cE S (z+3) (aG da)) (λb=>D b\/(z<=b/\b<z+3)) W (z+2) ((fs w (K'+1)).ts (aG da)):=by
  rw[hkc,ZC w K'];refine⟨_,_,[],[ptr z],.inr ⟨M,M⟩,U,.inl ⟨rfl,none,0,rfl,λ_=>rfl⟩,trivial,.inr ⟨i6,_,_,_,rfl,i6,i6,⟨.inr ⟨M,M⟩,_,_,I⟩,λhp u hu=>?_⟩,⟨⟨z,_,_,rfl,.inr ⟨M,M⟩,h0,.inl rfl,rfl⟩,trivial⟩⟩;exact M205
 have cP:iJ (cE S (z+3) (aG da)) (λb=>D b\/(z<=b/\b<z+3)) W (z+3) (aG da) (ptr (z+2)):=
  ⟨_,_,[],[],h3,.inl ⟨rfl,none,0,rfl,λ_=>rfl⟩,.inl ⟨rfl,none,0,rfl,λ_=>rfl⟩,by rw[hkc];trivial,by rw[hkc];trivial⟩
 exact hM.add (s:=aG da) (hS _ M) (λhd=>hd.elim (hD _ M) λh=>M) z3 ⟨_,_,h3⟩ ⟨M,M,M,M,M,M,M,M,M,λ_=>⟨_,cP⟩,M⟩ (λ_=>⟨_,cP,.inr ⟨_,rfl,fi⟩⟩)
theorem TH.aaO{cs:Array Value}(h:TH w K S D W)(hn:cI s)(hb:S b=none)(hd:¬D b)(hc:W.heap[b]?=some (.cells cs ty (0,0))):TH w K (cE S b s) D W:=by
 have hk:s.ld=11\/s.ld=15\/s.ld=16:=hn;exact h.add hb hd (jQ2 hc) ⟨_,_,hc⟩ ⟨M,M,M,M,M,M,M,M,M,M,M⟩ (λhi=>by simp[isIf]at hi;omega)
theorem PF(hv:dq S v t)(I:1<=t.ld)(bH:t.ld<=10)(U:t.ld≠2):NO w S W v t:=by
 obtain⟨b,rfl,hs⟩:=id hv;have hu:=hv.same (t':=az w t) (Bn w U M M M).symm;exact M17
theorem Bs.aby(h:Bs NS Q w K B DI σ W)(hz:W.heap.size<=W'.heap.size)(hb:∀b,b<W.heap.size->¬Loc B DI σ b->(∀s,σ.S b=some s->¬cI s)->W'.heap[b]?=W.heap[b]?)(hc:∀b s,σ.S b=some s->cI s->∃cs ty,W'.heap[b]?=some (.cells cs ty (0,0))):Bs NS Q w K B DI σ W':=by
 have hS:∀b s,σ.S b=some s->¬cI s->W'.heap[b]?=W.heap[b]?:=λb s hs hn=>hb b (h.th.lI b s hs) (λhl=>by rw[hl.1]at hs;cases hs) λs' oC=>by rw[hs]at oC;cases oC;exact hn
 have hD:∀b,σ.D b->W'.heap[b]?=W.heap[b]?:=λb hd=>hb b (h.th.mT b hd) (λhl=>hl.2.1 hd) λs hs=>absurd hd (h.th.rS b s hs);have hm:au σ.D σ.D W W':=λb hb=>⟨hb,hD b hb⟩;refine⟨⟨λb s hs=>?_,λb s hs=>jQb (h.th.lI b s hs) hz,h.th.mT.mono hz,h.th.rS,λb hd=>?_,λb s hs=>?_,h.th.td.move hm,λb s hs hi=>?_⟩,(hb B.bb h.lt.1 (λhl=>hl.2.2.1 rfl) λs hs=>by have:=h.kJ.1;rw[hs]at this;cases this).trans h.jl,h.Rm.move hm,h.row.move hm,h.rn,h.dl,h.ev,h.cv,h.kJ,?_,h.gY,h.made,λb hd=>⟨jQb (h.di b hd).1 hz,(h.di b hd).2⟩,h.ifs⟩
 .by_cases hn:cI s
  .have hk:s.ld=11\/s.ld=15\/s.ld=16:=hn;exact⟨M,M,M,M,M,M,M,M,M,M,M⟩
  .exact(h.th.node b s hs).move (λ_ _ h=>h) hm (.inl (hS b s hs hn))
 .obtain⟨cs,t,f,yq⟩:=h.th.LR b hd;exact⟨cs,t,f,(hD b hd).trans yq⟩
 .by_cases hn:cI s
  .exact hc b s hs hn
  .obtain⟨cs,t,yq⟩:=h.th.A9 b s hs;exact⟨cs,t,(hS b s hs hn).trans yq⟩
 .have hn:¬cI s:=λhn=>by
   have hk:s.ld=11\/s.ld=15\/s.ld=16:=hn;simp[isIf]at hi;omega
  exact(h.th.st b s hs hi).move (λ_ _ h=>h) hm (hS b s hs hn)
 .exact cD h.own λg hg=>hb g (h.lt.2 g hg) (λhl=>hl.2.2.2.1 hg) λs hs=>by have:=(h.gY g hg).1;rw[hs]at this;cases this
theorem DZ.gr(h:DZ w σ W obj)(dJ:∀(n:Nat) (d:ah),w[n]?=some d->∀m∈d.lw,m.sig.ld=7)(hb:Bs NS Q w K B DI σ W)(hg:Gr B σ aO W W'):DZ w aO W' obj:=by
 refine⟨λb s hs hn=>?_,λb b' s I U hn=>h.we b b' s (hg.xQ b s I hn) (hg.xQ b' s U hn) hn,λb b' s s' I U hn hn'=>h.Gk b b' s s' (hg.xQ b s I hn) (hg.xQ b' s' U hn') hn hn'⟩;have oC:=hg.xQ b s hs hn;obtain⟨ut,ms,ps,I,U,h3,h4,h5⟩:=h.named b s oC hn;refine⟨ut,ms,ps,(hg.types hb b s oC).trans I,U.mono hg.sle,h3.move (hg.aJ hb),Jy h4 hb hg ?_,h5.move (hg.aJ hb)⟩;exact M45
theorem Bs.rk(h:Bs NS Q w K B DI σ W)(Wu:∀t,PT NS Q w 0 t->t.ld=10->2*J rs false false t<r)(Wv:2*J rs false false da<r):∀b s,σ.S b=some s->isIf s=true->2*J rs false false s<r:=by
 intro b s hs hi;rcases h.ifs b s hs hi with rfl|⟨t,rfl,hk,j⟩
 .exact Wv
 .have:=Wu t j hk;have:=AZ rs false false t;omega
structure OfF(B:Bl)(σ aO:BS)(W W':World):Prop where
 os:W'.os=W.os
 tape:W'.tape=W.tape
 output:W'.output=W.output
 size:W.heap.size<=W'.heap.size
 block:∀b,b<W.heap.size->b≠B.bb->σ.mv.ownBlock≠some b->W'.heap[b]?=W.heap[b]?\/∃s ts sh,σ.S b=some s/\isIf s=true/\DE W W' b ts sh
 sle:EH σ.S aO.S
 uF:∀b s,aO.S b=some s->σ.S b=some s\/W.heap.size<=b
 MQ:∀g,aO.mv.ownBlock≠some g
theorem uJ(ih:∀N,dR NS Q w K B DI N)(hT:∀S D,dS NS Q w S D obj rs K r)(dJ:∀(n:Nat) (d:ah),w[n]?=some d->∀m∈d.lw,m.sig.ld=7)(Wu:∀t,PT NS Q w 0 t->t.ld=10->2*J rs false false t<r)(Wv:2*J rs false false da<r)(cG:Bs NS Q w K B DI σ W)(hn:DZ w σ W obj)(j:PT NS Q w 2 t)(hv:RT DI W t v)(hl:σ.ml.length+nds t<=1099511627776):
 Calls prog 13 #[ptr B.bb,v] W λe W'=>∃u aO,e=.returned u/\dq aO.S u t/\Bs NS Q w K B DI aO W'/\DZ w aO W' obj/\aO.ml=[]/\OfF B σ aO W W':=by
 have qj:=hv;obtain⟨a0,c,rfl,hs⟩:=hv.bR;have ar:=an W (bx t a0 c);have HM:=Z ((Md.start cG).below ar);have eR:au DI DI W (W.alloc (bx t a0 c)):=λx H=>⟨H,ar.block x (cG.di x H).1⟩;obtain⟨x0,x1,x2,x3,x4,x5,x6⟩:=ao (ak W (bx t a0 c));have ag:=ih (nds t) t σ _ _ (jQ0 _) j HM.1.bs (qj.move eR) hl;obtain⟨HT,zk,HQ,uL,HN⟩:=Z5 hT dJ (And.intro Wu Wv) cG hn;clear ih hT dJ Wu Wv cG hn j hv qj hl hs eR ar;go_in;go_wp2_with fail;refine ag.mono ?_;rintro e' wA ⟨u,Ie,rfl,cq,hu⟩;have yF:=Z (HM.1.trans cq);have HU:=Z hu;have CH:=HN.1.gr zk.1 uL.1 yF.1.gr;have aD:=rF (HT.1 Ie.S Ie.D) zk.1 yF.1.bs CH (yF.1.bs.rk HQ.1.1 HQ.1.2);clear ag cq hu CH;go_wp2_with fail;refine aD.mono ?_;rintro e' wB ⟨rfl,D',cX,iK,g1,g2,g3,g4,g5⟩;have HR:=Z (show∃u' aO,(Ending.returned u:Ending)=.returned u'/\dq aO.S u' t/\Bs NS Q w K B DI aO wB/\DZ w aO wB obj/\aO.ml=[]/\OfF B σ aO W wB from by
  have hg:=yF.1.gr;refine⟨u,{Ie with D:=D',mv:=.slice none 0 0,ml:=[]},rfl,HU.out,cX,iK,rfl,g1.trans hg.os,g2.trans hg.tape,g3.trans hg.output,jQd hg.size g4,λb hb I U=>?_,hg.sle,hg.uF,λg nG=>by simp[Value.ownBlock]at nG⟩;have hz:=hg.size;have ZN:=hg.block b hb I U;rcases g5 b M I with e|⟨s,ts,sh,k1,k2,c0,c1,c2,c3,c4,c5,k3,k4⟩
  .exact .inl (e.trans ZN)
  .rcases hg.uF b s k1 with k5|k5
   .exact .inr ⟨s,ts,sh,k5,k2,c0,c1,c2,c3,c4,c5,ZN.symm.trans k3,k4⟩
   .omega)
 clear aD cX iK g1 g2 g3 g4 g5;go_wp2;go_ret;exact HR.1
theorem zY(hw:WK NS Q w rs cs)(hq:QP NS Q)(ih:∀N,dR NS Q w K B DI N)(hT:∀S D,dS NS Q w S D obj rs K r)(dJ:∀(n:Nat) (d:ah),w[n]?=some d->∀m∈d.lw,m.sig.ld=7)(Wu:∀t,PT NS Q w 0 t->t.ld=10->2*J rs false false t<r)(Wv:2*J rs false false da<r)(cG:Bs NS Q w K B DI σ W)(hn:DZ w σ W obj)(j:PT NS Q w 0 t)(hv:RT DI W t v)(hl:σ.ml.length+nds t<=1099511627776):
 Calls prog 11 #[ptr B.bb,v] W λe W'=>∃u aO,e=.returned u/\((isIf (az w t)=true/\∃b,u=ptr b/\aO.S b=some (aG (az w t)))\/(isIf (az w t)=false/\u=.pointer none))/\Bs NS Q w K B DI aO W'/\DZ w aO W' obj/\aO.ml=[]/\OfF B σ aO W W':=by
 have qj:=hv;obtain⟨a0,c,rfl,hs⟩:=hv.bR;have ar:=an W (bx t a0 c);have HM:=Z ((Md.start cG).below ar);have eR:au DI DI W (W.alloc (bx t a0 c)):=λx H=>⟨H,ar.block x (cG.di x H).1⟩;obtain⟨x0,x1,x2,x3,x4,x5,x6⟩:=ao (ak W (bx t a0 c));have fJ:PT NS Q w 2 t:=j.eS (jQ0 _) (λ_ h=>h) M id id;have ag:=uJ ih hT dJ Wu Wv HM.1.bs (hn.gr dJ cG HM.1.gr) fJ (qj.move eR) hl;have bS:=Z ar;have afZ:(az w t).ld=10\/(az w t).ld=17\/tid (az w t).ld≠33:=by
  rcases(lq hw hq j).1 with e|⟨I,U,h3,h4,h5,h6,h7⟩
  .rw[e];exact .inr (.inl rfl)
  .by_cases bH:(az w t).ld=10
   .exact .inl bH
   .refine .inr (.inr λe=>?_);rcases de (az w t).ld with g|g|g|g|g|g|g|g|g|g|g|g<;>(rw[g.2]at e;first|(exact absurd e i5)|omega)
 obtain⟨aih,HQ,pG⟩:=Z3 afZ hq fJ;clear afZ ih hT dJ Wu Wv cG hn j hv qj hl hs eR ar hw hq fJ;go_in;go_wp2_with fail;refine ag.mono ?_;rintro e' wA ⟨u,Ie,rfl,hu,cX,iK,gP,hf⟩;have qN:=bj HQ.1 (cX.gh iK) hu (.inl ⟨2,pG.1⟩);obtain⟨T,f,b2,rfl,⟨hm,pC⟩,jL⟩:=qN;obtain⟨dP,HN2,zq⟩:=Z3 cX iK gP;have HF:=Z (show OfF B σ Ie W wA from by
  refine⟨hf.os.trans bS.1.os,hf.tape.trans bS.1.tape,hf.output.trans bS.1.output,jQd bS.1.size hf.size,λb hb I U=>?_,hf.sle,λb s hs=>(hf.uF b s hs).imp id λh=>jQd bS.1.size h,hf.MQ⟩;have hz:=bS.1.size;have e1:=bS.1.block b hb;rcases hf.block b M I U with e|⟨s,ts,sh,k1,k2,c0,c1,c2,c3,c4,c5,k3,k4⟩
  .exact .inl (e.trans e1)
  .exact .inr ⟨s,ts,sh,k1,k2,c0,c1,c2,c3,c4,c5,e1.symm.trans k3,k4⟩)
 clear ag hu cX iK gP hf;go_wp2_with fail;refine jL.mono ?_;rintro e' O ⟨v',rfl,zw,rY⟩;replace rY:=rY.symm;subst rY;obtain⟨b4,rfl,nU⟩:=id zw;have Bj:=Z nU;clear jL zw nU hm pC;by_cases hT:tid (az w t).ld=33
 .have hi:isIf (az w t)=true:=by
   obtain h|h|h:=aih.1
   .simp[isIf,h]
   .simp[isIf,h]
   .exact absurd hT h
  have HI:=Z hi;rw[hT];clear hi hT;go_wp2;go_ret;exact⟨_,Ie,rfl,.inl ⟨HI.1,b4,rfl,Bj.1⟩,dP.1,HN2.1,zq.1,HF.1⟩
 .have hi:isIf (az w t)=false:=by
   cases h:isIf (az w t)with
   |false=>rfl
   |true=>
    have:(az w t).ld=10\/(az w t).ld=17:=by simpa[isIf]using h
    rcases this with h|h<;>(rw[h]at hT;exact absurd rfl hT)
  have HI:=Z hi;have fp:=λx O=>aP (tid (az w t).ld) (ptr b4) x O hT;clear hi hT;go_wp2;go_ret;exact⟨_,Ie,rfl,.inr ⟨HI.1,rfl⟩,dP.1,HN2.1,zq.1,HF.1⟩
abbrev U7(pk eb:Nat)(cv:Value):Array Value:=#[ptr pk,.slice none 0 0,.iface 53 (ptr eb),cv,.slice none 0 0]
structure BP(w:List ah)(K:Nat)(gG W:World)(S:Sg)(D:Qx)(bb pk eb cb oe oc:Nat):Prop where
 th:TH w K S D W
 jl:W.heap[bb]?=some (.cells (U7 pk eb (.iface 53 (ptr cb))) 58 (0,0))
 Yo:S bb=none/\¬D bb
 pkd:D pk/\∃p q,W.heap[pk]?=some (.cells #[.string p,.string q] 85 (0,0))
 se:S eb=some oA
 sc:S cb=some sE
 ne:fe w S D W eb oe oA
 nc:fe w S D W cb oc sE
 only:∀b s,S b=some s->cI s->(b=eb/\s=oA)\/(b=cb/\s=sE)
 ifs:∀b s,S b=some s->isIf s=true->s=aG fC\/s=aG da
 low:∀b s,S b=some s->gG.heap.size<=b
 jJ:Below gG.heap.size gG W
 bb0:gG.heap.size<=bb
 oo:oe≠oc
theorem fe.vT(hS:EH S S')(hm:au D D' W W')(hb:W'.heap[b]?=W.heap[b]?)(dA:s.ld≠11)(h:fe w S D W b ob s):fe w S' D' W' b ob s:=by
 obtain⟨ut,ms,ps,I,U,h3,h4,h5⟩:=h;rw[jQ4 dA]at h4;exact⟨ut,ms,ps,hb.trans I,U.mono hS,h3.move hm,by
  rw[jQ4 dA];cases ps with
  |nil=>trivial
  |cons _ _=>exact h4.elim,h5.move hm⟩
theorem afC(hK:1<=K){p q nm:ByteArray}(hE:adT w K S D (gG.alloc (.cells #[.string p,.string q] 85)) W2 eb oe)(hoe:oe<W2.heap.size)(h6:Mq (oS ((W2.alloc (.cells (U7 gG.heap.size eb .nilIface) 58)).alloc (.cells #[.int .i64 0,.pointer none,.string nm,.nilIface] 119)) true) (W2.heap.size+1) (.iface 33 (ptr (W2.heap.size+5))) (.int .i64 0) (.pointer none) (.string nm)
  (.cells #[.pointer none,ptr (W2.heap.size+1),.bool false,.int .i32 0,.int .u32 0,.int .u32 15,.iface 33 (ptr (W2.heap.size+5)),.iface 33 (ptr (W2.heap.size+5)),.bool false,.slice none 0 0] 115) (.returned v) W6)(j:kT W2.heap.size (U7 gG.heap.size eb (.iface 53 (ptr (W2.heap.size+6)))) 58 W6 W7):
 ∃S' D',BP w K gG W7 S' D' W2.heap.size gG.heap.size eb (W2.heap.size+6) oe (W2.heap.size+1):=by
 obtain⟨W4,hW4⟩:∃x,x=(W2.alloc (.cells (U7 gG.heap.size eb .nilIface) 58)).alloc (.cells #[.int .i64 0,.pointer none,.string nm,.nilIface] 119):=⟨_,rfl⟩;rw[<-hW4]at h6;have z4:W4.heap.size=W2.heap.size+2:=by rw[hW4,jQ3,jQ3]
 have ah3:Below W2.heap.size W2 W4:=by rw[hW4];exact(an W2 _).trans ((an _ _).mono (by rw[jQ3];omega))
 obtain⟨ah4,t0,t1,t2,t3⟩:=pQ W4 true;have z5:(oS W4 true).heap.size=W4.heap.size+4:=by simp[oS,allocs]
 have Qu:=ah3.trans (ah4.mono M);have z2:=hE.jJ.size;rw[jQ3]at z2;obtain⟨-,g1,g2,g3,g4,g5,g6,g7⟩:=h6;rw[z5]at g1 g5 g6 g7;have z7:=j.size;have JX:∀b,b<W2.heap.size->W7.heap[b]?=W2.heap[b]?:=λb hb=>(j.other b M).trans ((g7 b M M).trans (Qu.block b hb));have ah5:=hE.th.cR (W':=oS W4 true) M (λb s hs=>Qu.block b (hE.th.lI b s hs)) (λb hd=>Qu.block b (hE.th.mT b hd));have KH:∀b,W2.heap.size<=b->S b=none:=λb hb=>by
  cases hs:S b with
  |none=>rfl
  |some s=>have:=hE.th.lI b s hs;omega
 have hD2:∀b,W2.heap.size<=b->¬D b:=λb hb hd=>by have:=hE.th.mT b hd;omega
 have hc:=acw (z:=W4.heap.size) ah5 hK (λb hb=>KH b M) (λb hb=>hD2 b M) t0 t1 t2 t3;have hS3:∀b,b≠W4.heap.size+3->W2.heap.size<=b->cE S (W4.heap.size+3) (aG da) b=none:=λb hb h=>by unfold cE;rw[jQ4 hb];exact KH b h
 have Lf:=hc.cR (W':=W7) M (λb s hs=>by
  have bk:b≠W2.heap.size/\b≠W2.heap.size+1:=⟨λe=>(by rw[e,hS3 _ M M]at hs;cases hs),λe=>(by rw[e,hS3 _ M M]at hs;cases hs)⟩;have:=hc.lI b s hs;exact(j.other b bk.1).trans (g7 b M bk.2)) (λb hd=>by
  have aM:=hc.mT b hd;have bk:b≠W2.heap.size/\b≠W2.heap.size+1:=by
   obtain hd|hd:=hd
   .have:=hE.th.mT b hd;omega
   .omega
  exact(j.other b bk.1).trans (g7 b M bk.2))
 rw[show W4.heap.size+4=W2.heap.size+6 by omega]at g5;have Rv:=(j.other (W2.heap.size+6) M).trans g5;have hoc:W7.heap[W2.heap.size+1]?=_:=(j.other _ M).trans g6;have Hm:W7.heap[gG.heap.size]?=some (.cells #[.string p,.string q] 85 (0,0)):=(JX _ M).trans ((hE.jJ.block _ (by rw[jQ3];omega)).trans (ak _ _));have ah6:S gG.heap.size=none:=by
  cases hs:S gG.heap.size with
  |none=>rfl
  |some s=>have:=hE.low _ s hs;rw[jQ3]at this;omega
 have afD:cE S (W4.heap.size+3) (aG da) gG.heap.size=none:=by unfold cE;rw[jQ4 M];exact ah6
 have hd8:=Lf.lW (λb=>b=W2.heap.size+1\/b=gG.heap.size) (λb hb=>by
  obtain rfl|rfl:=hb
  .exact⟨M,hS3 _ M M,_,_,_,hoc⟩
  .exact⟨M,afD,_,_,_,Hm⟩)
 have afE:=hS3 (W2.heap.size+6) M M;have hn9:=hd8.aaO (b:=W2.heap.size+6) (s:=sE) (.inr (.inr rfl)) afE (λhd=>by
  rcases hd with(hd|hd)|hd
  .exact hD2 _ M hd
  .omega
  .omega) Rv
 have l1:=fG (s:=aG da) (KH (W4.heap.size+3) M);have l2:=fG (s:=sE) afE;have hl:=λb s (h:S b=some s)=>l2 b s (l1 b s h);have eR:au D (λb=>(D b\/(W4.heap.size<=b/\b<W4.heap.size+3))\/(b=W2.heap.size+1\/b=gG.heap.size)) W2 W7:=λb hd=>⟨.inl (.inl hd),JX b (hE.th.mT b hd)⟩;refine⟨_,_,hn9,j.here,⟨?_,?_⟩,⟨.inr (.inr rfl),p,q,Hm⟩,hl _ _ hE.sb,fH _ _ _,hE.nm.vT hl eR (JX _ (hE.th.lI _ _ hE.sb)) i5,⟨.iface 33 (ptr (W2.heap.size+5)),.slice none 0 0,[],Rv,⟨W2.heap.size+5,rfl,l2 _ _ (by rw[show W2.heap.size+5=W4.heap.size+3 by omega];exact fH _ _ _)⟩,.inl ⟨rfl,none,0,rfl,λ_=>rfl⟩,trivial,.inr (.inl rfl),0,none,nm,_,hoc,.inl rfl⟩,λb s hs hn=>?_,λb s hs hi=>?_,λb s hs=>?_,?_,M,M⟩
 .unfold cE;rw[jQ4 M,jQ4 M];exact KH _ M
 .intro hd;rcases hd with(hd|hd)|hd
  .exact hD2 _ M hd
  .omega
  .omega
 .rcases dV hs with h|⟨-,h⟩
  .exact .inr h
  .rcases dV h with⟨-,rfl⟩|⟨-,h⟩
   .have hk:(aG da).ld=17:=rfl;unfold cI at hn;omega
   .exact .inl (hE.only b s h hn)
 .rcases dV hs with⟨-,rfl⟩|⟨-,h⟩
  .cases hi
  .rcases dV h with⟨-,rfl⟩|⟨-,h⟩
   .exact .inr rfl
   .exact .inl (hE.ifs b s h hi)
 .rcases dV hs with⟨rfl, -⟩|⟨-,h⟩
  .omega
  .rcases dV h with⟨rfl, -⟩|⟨-,h⟩
   .omega
   .have:=hE.low b s h;rw[jQ3]at this;omega
 .have hE0:Below gG.heap.size gG W2:=(an gG _).trans (hE.jJ.mono (by rw[jQ3];omega));exact⟨j.os.trans (g2.trans (Qu.os.trans hE0.os)),j.tape.trans (g3.trans (Qu.tape.trans hE0.tape)),j.output.trans (g4.trans (Qu.output.trans hE0.output)),M,λb hb=>(JX b M).trans (hE0.block b hb)⟩
abbrev bbD(pk eb cb:Nat)(dv:Value):Array Value:=#[ptr pk,dv,.iface 53 (ptr eb),.iface 53 (ptr cb),.slice none 0 0]
structure BL(w:List ah)(K:Nat)(gG W:World)(S:Sg)(D:Qx)(bb pk eb cb oe oc:Nat)(ds os:List Nat)(dv:Value):Prop where
 th:TH w K S D W
 jl:W.heap[bb]?=some (.cells (bbD pk eb cb dv) 58 (0,0))
 Yo:S bb=none/\¬D bb
 pkd:D pk/\∃p q,W.heap[pk]?=some (.cells #[.string p,.string q] 85 (0,0))
 se:S eb=some oA
 sc:S cb=some sE
 ne:fe w S D W eb oe oA
 nc:fe w S D W cb oc sE
 only:∀b s,S b=some s->cI s->(b=eb/\s=oA)\/(b=cb/\s=sE)\/∃hp,ds[hp]?=some b/\s=r9 hp
 ifs:∀b s,S b=some s->isIf s=true->s=aG fC\/s=aG da
 low:∀b s,S b=some s->gG.heap.size<=b
 jJ:Below gG.heap.size gG W
 bb0:gG.heap.size<=bb
 oo:oe≠oc
 own:W.ownsRow gG.heap.size 53 1 dv (ds.map ptr).length (ds.map ptr)
 gY:∀g,dv.ownBlock=some g->S g=none/\¬D g/\g≠bb
 len:os.length=ds.length
 dec:∀(hp d:Nat),ds[hp]?=some d->∃ob nm,os[hp]?=some ob/\S d=some (r9 hp)/\W.heap[d]?=some (yQ ob true)/\D ob/\W.heap[ob]?=some (.cells #[.int .i64 0,ptr pk,.string nm,.iface 53 (ptr d)] 119 (0,0))
 L3:∀(hp:Nat) (ob:Nat),os[hp]?=some ob->ob≠oe/\ob≠oc/\D ob
 oi:∀(i hp ob:Nat),os[i]?=some ob->os[hp]?=some ob->i=hp
 od:D oe/\D oc
theorem BP.bl(h:BP w K gG W S D bb pk eb cb oe oc):BL w K gG W S D bb pk eb cb oe oc [] [] (.slice none 0 0):=by
 have ho1:D oe:=by obtain⟨_,_,_,_,_,_,_,ho⟩:=h.ne;exact ho.1
 have CL:D oc:=by obtain⟨_,_,_,_,_,_,_,ho⟩:=h.nc;exact ho.1
 exact⟨h.th,h.jl,h.Yo,h.pkd,h.se,h.sc,h.ne,h.nc,λb s hs hn=>(h.only b s hs hn).imp id .inl,h.ifs,h.low,h.jJ,h.bb0,h.oo,jR9 _ _ _ _,λg hg=>by simp[Value.ownBlock]at hg,rfl,λhp d hd=>by simp at hd,λhp ob ho=>by simp at ho,λi hp ob ho=>by simp at ho,ho1,CL⟩
theorem BL.step(h:BL w K gG W S D bb pk eb cb oe oc ds os dv){nm:ByteArray}(U:Ni (W.alloc (.cells #[.int .i64 0,ptr pk,.string nm,.nilIface] 119)) W.heap.size true (.int .i64 0) (ptr pk) (.string nm) (.returned v) W2)(hg:(W2.alloc (.cells #[ptr (W.heap.size+1)] 53)).grownBy W4 dv.ownBlock)(aL:W4.ownsRow gG.heap.size 53 1 v' (ds.map ptr++[ptr (W.heap.size+1)]).length (ds.map ptr++[ptr (W.heap.size+1)]))(hv:v'.ownBlock=dv.ownBlock\/v'.ownBlock=some (W.heap.size+3))(j:kT bb (bbD pk eb cb v') 58 W4 W5):
 ∃S' D',BL w K gG W5 S' D' bb pk eb cb oe oc (ds++[W.heap.size+1]) (os++[W.heap.size]) v':=by
 obtain⟨-,g1,g2,g3,g4,g5,g6,g7⟩:=U;rw[jQ3]at g1 g5 g6 g7;have z4:=hg.size;rw[jQ3]at z4;have z5:=j.size;have j6:=jQ2 h.jl;have hz00:=h.jJ.size;have hold:∀b,b<W.heap.size->b≠bb->dv.ownBlock≠some b->W5.heap[b]?=W.heap[b]?:=λb hb I U=>by
  refine(j.other b I).trans ((hg.block b (by rw[jQ3];omega) λe=>U e.symm).trans ?_);refine Eq.trans ?_ ((g7 b M M).trans ?_)
  .show(W2.heap.push _)[b]?=_;exact M148
  .show(W.heap.push _)[b]?=_;exact M148
 have afw:∀b,b<W2.heap.size->W.heap.size<=b->W5.heap[b]?=W2.heap[b]?:=λb hb I=>by
  refine(j.other b M).trans ((hg.block b (by rw[jQ3];omega) λe=>?_).trans ?_)
  .have:=(aC h.own b e.symm).2.1;omega
  .show(W2.heap.push _)[b]?=_;exact M148
 have hS:∀b s,S b=some s->W5.heap[b]?=W.heap[b]?:=λb s hs=>hold b (h.th.lI b s hs) (λe=>by have:=h.Yo.1;rw[<-e,hs]at this;cases this) λe=>by have:=(h.gY b e).1;rw[hs]at this;cases this
 have hD:∀b,D b->W5.heap[b]?=W.heap[b]?:=λb hd=>hold b (h.th.mT b hd) (λe=>h.Yo.2 (e▸hd)) λe=>(h.gY b e).2.1 hd;have KS:au D D W W5:=λb hb=>⟨hb,hD b hb⟩;have hSn:∀b,W.heap.size<=b->S b=none:=λb hb=>by
  cases hs:S b with
  |none=>rfl
  |some s=>have:=h.th.lI b s hs;omega
 have hDn:∀b,W.heap.size<=b->¬D b:=λb hb hd=>by have:=h.th.mT b hd;omega
 have Nj:W5.heap[W.heap.size]?=some (.cells #[.int .i64 0,ptr pk,.string nm,.iface 53 (ptr (W.heap.size+1))] 119 (0,0)):=(afw _ M M).trans g6;have uw:W5.heap[W.heap.size+1]?=some (yQ W.heap.size true):=(afw _ M M).trans g5;have t1:=(h.th.cR (W':=W5) M hS hD).lW (λb=>b=W.heap.size) (λb hb=>by subst hb;exact⟨M,hSn _ M,_,_,_,Nj⟩);have t2:=t1.aaO (b:=W.heap.size+1) (s:=r9 ds.length) (.inl rfl) (hSn _ M) (λhd=>hd.elim (hDn _ M) λe=>M) uw;have hl:=fG (s:=r9 ds.length) (hSn (W.heap.size+1) M);have eR:au D (λb=>D b\/b=W.heap.size) W W5:=λb hb=>⟨.inl hb,hD b hb⟩;have hvn:∀g,v'.ownBlock=some g->g≠W.heap.size/\g≠W.heap.size+1/\g≠bb/\S g=none/\¬D g:=λg nG=>by
  obtain hv|hv:=hv
  .rw[hv]at nG;have:=(aC h.own g nG).2.1;obtain⟨q1,q2,q3⟩:=h.gY g nG;exact⟨M,M,q3,q1,q2⟩
  .rw[hv]at nG;cases nG;exact⟨M,M,M,hSn _ M,hDn _ M⟩
 refine⟨_,_,t2,j.here,⟨by unfold cE;rw[jQ4 M];exact h.Yo.1,λhd=>hd.elim h.Yo.2 λe=>M⟩,⟨.inl h.pkd.1,?_⟩,hl _ _ h.se,hl _ _ h.sc,h.ne.vT hl eR (hS _ _ h.se) i5,h.nc.vT hl eR (hS _ _ h.sc) i5,λb s hs hn=>?_,λb s hs hi=>?_,λb s hs=>?_,?_,h.bb0,h.oo,?_,λg nG=>?_,?_,λhp d hd=>?_,λhp ob ho=>?_,λi hp ob hi hj=>?_,.inl h.od.1,.inl h.od.2⟩
 .obtain⟨p,q,Hm⟩:=h.pkd.2;exact⟨p,q,(hD _ h.pkd.1).trans Hm⟩
 .rcases dV hs with⟨rfl,rfl⟩|⟨-,I⟩
  .exact .inr (.inr ⟨ds.length,i6,rfl⟩)
  .rcases h.only b s I hn with k|k|⟨hp,k,k'⟩
   .exact .inl k
   .exact .inr (.inl k)
   .exact .inr (.inr ⟨hp,by rw[jQq (jQg.1 k).1];exact k,k'⟩)
 .rcases dV hs with⟨-,rfl⟩|⟨-,I⟩
  .cases hi
  .exact h.ifs b s I hi
 .rcases dV hs with⟨rfl, -⟩|⟨-,I⟩
  .omega
  .exact h.low b s I
 .refine⟨?_,?_,?_,M,λb hb=>(hold b M (by have:=h.bb0;omega) λe=>?_).trans (h.jJ.block b hb)⟩
  .exact j.os.trans (hg.os.trans (g2.trans h.jJ.os))
  .exact j.tape.trans (hg.tape.trans (g3.trans h.jJ.tape))
  .exact j.output.trans (hg.output.trans (g4.trans h.jJ.output))
  .have:=(aC h.own b e).1;omega
 .rw[List.map_append];exact cD aL λg nG=>j.other g (hvn g nG).2.2.1
 .obtain⟨q1,q2,q3,q4,q5⟩:=hvn g nG;exact⟨by unfold cE;rw[jQ4 q2];exact q4,λhd=>hd.elim q5 q1,q3⟩
 .rw[jQo,jQo,h.len];rfl
 .by_cases hj:hp<ds.length
  .rw[jQq hj]at hd;obtain⟨ob,Wf,k1,k2,k3,k4,k5⟩:=h.dec hp d hd;exact⟨ob,Wf,by rw[jQq (by rw[h.len];exact hj)];exact k1,hl _ _ k2,(hS _ _ k2).trans k3,.inl k4,(hD _ k4).trans k5⟩
  .rw[jQr M]at hd;have hj0:hp - ds.length=0:=by
    rcases Nat.eq_zero_or_pos (hp - ds.length)with h0|h0
    .exact h0
    .rw[jQx (by simp;omega)]at hd;cases hd
   rw[hj0]at hd;simp at hd;subst hd;have hj1:hp=ds.length:=M
   subst hj1;exact⟨W.heap.size,nm,by rw[<-h.len];simp,fH _ _ _,uw,.inr rfl,Nj⟩
 .by_cases hj:hp<os.length
  .rw[jQq hj]at ho;obtain⟨k1,k2,k3⟩:=h.L3 hp ob ho;exact⟨k1,k2,.inl k3⟩
  .rw[jQr M]at ho;have hm:ob∈[W.heap.size]:=jQ8 ho;simp at hm;subst hm;exact⟨λe=>hDn _ M (e▸h.od.1),λe=>hDn _ M (e▸h.od.2),.inr rfl⟩
 .by_cases I:i<os.length
  .rw[jQq I]at hi;by_cases U:hp<os.length
   .rw[jQq U]at hj;exact h.oi i hp ob hi hj
   .rw[jQr M]at hj;have hm:ob∈[W.heap.size]:=jQ8 hj;simp at hm;subst hm;exact absurd (h.L3 i _ hi).2.2 (hDn _ M)
  .rw[jQr M]at hi;have hm:ob∈[W.heap.size]:=jQ8 hi;simp at hm;subst hm;have Q4:=(jQg.1 hi).1;simp at Q4;by_cases U:hp<os.length
   .rw[jQq U]at hj;exact absurd (h.L3 hp _ hj).2.2 (hDn _ M)
   .rw[jQr M]at hj;have hj1:=(jQg.1 hj).1;simp at hj1;omega
theorem PS(h:W.ownsRow base ty 1 v xs.length xs)(hD:∀g,v.ownBlock=some g->D g):eE D W xs v:=by
 have hl:=h.1;rw[Nat.mul_one]at hl;rcases h.2 with⟨rfl,h0⟩|⟨g,cap,cur,rfl,hb,hg,hn,hm,hc,ht⟩
 .exact M171
 .by_cases H:xs=[]
  .subst H;exact M113
  .refine .inr ⟨H,g,0,cap,rfl,M,by simp only[maxLen]at hm;omega,hD g rfl,λhp u hu=>?_⟩;exact M34
theorem BL.drew(h:BL w K gG W S D bb pk eb cb oe oc ds os dv):BL w K gG W.drew S D bb pk eb cb oe oc ds os dv:=
 ⟨h.th.cR (jQ0 _) (λ_ _ _=>rfl) (λ_ _=>rfl),h.jl,h.Yo,h.pkd,h.se,h.sc,h.ne.vT (λ_ _ h=>h) (λb hb=>⟨hb,rfl⟩) rfl i5,h.nc.vT (λ_ _ h=>h) (λb hb=>⟨hb,rfl⟩) rfl i5,h.only,h.ifs,h.low,h.jJ.drew,h.bb0,h.oo,h.own,h.gY,h.len,h.dec,h.L3,h.oi,h.od⟩
theorem BL.bs(h:BL w K gG W S D bb pk eb cb oe oc ds os dv)(Df:PT NS Q w 0 fC)(hl:ds.length=w.length)(X3:∀b,DI b->b<gG.heap.size):
 Bs NS Q w K ⟨bb,pk,ds,dv,.iface 53 (ptr eb),.iface 53 (ptr cb)⟩ DI ⟨S,λb=>D b\/dv.ownBlock=some b,.slice none 0 0,[]⟩ W:=by
 have hz:=h.jJ.size;have XQ:=h.bb0;refine⟨h.th.lW (λb=>dv.ownBlock=some b) (λb hb=>?_),h.jl,?_,PS h.own λg hg=>.inr hg,λhp b hj=>?_,hl,⟨eb,rfl,h.se⟩,⟨cb,rfl,h.sc⟩,⟨h.Yo.1,λhd=>hd.elim h.Yo.2 λe=>(h.gY _ e).2.2 rfl⟩,jR9 _ _ _ _,λg hg=>by simp[Value.ownBlock]at hg,λb hb=>by simp at hb,λb hb=>⟨?_,?_,by simp[Value.ownBlock],?_⟩,λb s hs hi=>?_⟩
 .obtain⟨k1,k2,cur,k3⟩:=aC h.own b hb;exact⟨k2,(h.gY b hb).1,_,_,_,k3⟩
 .obtain⟨p,q,Hm⟩:=h.pkd.2;exact .inr ⟨pk,p,q,rfl,.inl h.pkd.1,Hm⟩
 .obtain⟨ob,nm, -,k2, -⟩:=h.dec hp b hj;exact k2
 .have:=X3 b hb;omega
 .have:=X3 b hb;show b≠bb;omega
 .show S b=none;cases hs:S b with
  |none=>rfl
  |some s=>have:=h.low b s hs;have:=X3 b hb;omega
 .rcases h.ifs b s hs hi with rfl|rfl
  .exact .inr ⟨fC,rfl,rfl,Df⟩
  .exact .inl rfl
section
theorem OI(hS:EH S S')(hm:au D D' W W')(h7:∀b s,S b=some s->s.ld=7->W'.heap[b]?=W.heap[b]?):∀{l:List aH} {ps:List Value},(∀m∈l,m.sig.ld=7)->All2 (mr S D W) l ps->All2 (mr S' D' W') l ps
 |[],[],_,_=>trivial
 |[],_::_,_,h=>h.elim
 |_::_,[],_,h=>h.elim
 |m::l,p::ps,hk,h=>⟨h.1.move hS hm h7 (hk m i6),OI hS hm h7 (l:=l) (ps:=ps) (λm' h'=>hk m' (by simp[h'])) h.2⟩
theorem fe.cR(hS:EH S S')(hm:au D D' W W')(h7:∀b s,S b=some s->s.ld=7->W'.heap[b]?=W.heap[b]?)(hb:W'.heap[b]?=W.heap[b]?)(dJ:∀(n:Nat) (d:ah),w[n]?=some d->∀m∈d.lw,m.sig.ld=7)(h:fe w S D W b ob s):fe w S' D' W' b ob s:=by
 obtain⟨ut,ms,ps,I,U,h3,h4,h5⟩:=h;refine⟨ut,ms,ps,hb.trans I,U.mono hS,h3.move hm,OI hS hm h7 ?_ h4,h5.move hm⟩;exact M45
def ZD(w:List ah)(σ:BS)(W:World)(s hp d ob:Nat):Prop:=
 (s=0->W.heap[d]?=some (yQ ob true))/\(s=1->∃ut,W.heap[d]?=some (On ob ut (.slice none 0 0))/\dq σ.S ut (oZ w (r9 hp)))/\(s=2->fe w σ.S σ.D W d ob (r9 hp))
structure DG(NS:List ByteArray)(Q:Y->Prop)(w:List ah)(K:Nat)(B:Bl)(DI:Qx)(gG:World)(eb cb oe oc:Nat)(os:List Nat)(st:Nat->Nat)(σ:BS)(W:World):Prop where
 bs:Bs NS Q w K B DI σ W
 jJ:Below gG.heap.size gG W
 lo:gG.heap.size<=B.bb/\(∀g,σ.mv.ownBlock=some g->gG.heap.size<=g)/\∀b s,σ.S b=some s->gG.heap.size<=b
 se:σ.S eb=some oA
 sc:σ.S cb=some sE
 ne:fe w σ.S σ.D W eb oe oA
 nc:fe w σ.S σ.D W cb oc sE
 only:∀b s,σ.S b=some s->cI s->(b=eb/\s=oA)\/(b=cb/\s=sE)\/∃hp,B.ds[hp]?=some b/\s=r9 hp
 oo:oe≠oc
 L3:∀(hp:Nat) (ob:Nat),os[hp]?=some ob->ob≠oe/\ob≠oc
 oi:∀(i hp ob:Nat),os[i]?=some ob->os[hp]?=some ob->i=hp
 dec:∀(hp d:Nat),B.ds[hp]?=some d->∃ob nm,os[hp]?=some ob/\σ.D ob/\W.heap[ob]?=some (.cells #[.int .i64 0,ptr B.pk,.string nm,.iface 53 (ptr d)] 119 (0,0))/\ZD w σ W (st hp) hp d ob
theorem BL.dg(h:BL w K gG W S D bb pk eb cb oe oc ds os dv)(Df:PT NS Q w 0 fC)(hl:ds.length=w.length)(X3:∀b,DI b->b<gG.heap.size):
 DG NS Q w K ⟨bb,pk,ds,dv,.iface 53 (ptr eb),.iface 53 (ptr cb)⟩ DI gG eb cb oe oc os (λ_=>0) ⟨S,λb=>D b\/dv.ownBlock=some b,.slice none 0 0,[]⟩ W:=by
 have hm:au D (λb=>D b\/dv.ownBlock=some b) W W:=λb hb=>⟨.inl hb,rfl⟩;refine⟨h.bs Df hl X3,h.jJ,⟨h.bb0,λg hg=>by simp[Value.ownBlock]at hg,h.low⟩,h.se,h.sc,h.ne.vT (λ_ _ h=>h) hm rfl i5,h.nc.vT (λ_ _ h=>h) hm rfl i5,h.only,h.oo,λhp ob ho=>⟨(h.L3 hp ob ho).1,(h.L3 hp ob ho).2.1⟩,h.oi,λhp d hd=>?_⟩;obtain⟨ob,nm,k1,k2,k3,k4,k5⟩:=h.dec hp d hd;exact⟨ob,nm,k1,.inl k4,k5,λ_=>k3,λe=>(by cases e),λe=>(by cases e)⟩
variable(dJ:∀(n:Nat) (d:ah),w[n]?=some d->∀m∈d.lw,m.sig.ld=7)
include dJ
theorem DG.gr(h:DG NS Q w K B DI gG eb cb oe oc os st σ W)(hm:Md NS Q w K B DI σ W n aO W'):DG NS Q w K B DI gG eb cb oe oc os st aO W':=by
 have hg:=hm.gr;have eR:=hg.aJ h.bs;have qy:=hg.types h.bs;have hz:=h.jJ.size;have hk:∀b ob s,σ.S b=some s->fe w σ.S σ.D W b ob s->fe w aO.S aO.D W' b ob s:=λb ob s hs hn=>hn.cR hg.sle eR (λb s hs _=>qy b s hs) (qy b s hs) dJ;refine⟨hm.bs,⟨hg.os.trans h.jJ.os,hg.tape.trans h.jJ.tape,hg.output.trans h.jJ.output,jQd hz hg.size,λb hb=>(hg.block b M (by have:=h.lo.1;omega) (λe=>by have:=h.lo.2.1 b e;omega)).trans (h.jJ.block b hb)⟩,⟨h.lo.1,λg he=>?_,λb s hs=>?_⟩,hg.sle _ _ h.se,hg.sle _ _ h.sc,hk _ _ _ h.se h.ne,hk _ _ _ h.sc h.nc,λb s hs hn=>h.only b s (hg.xQ b s hs hn) hn,h.oo,h.L3,h.oi,λhp d hd=>?_⟩
 .obtain e|⟨g',e,nG⟩:=hg.MQ
  .exact h.lo.2.1 g (e▸he)
  .rw[e]at he;cases he;omega
 .rcases hg.uF b s hs with h'|h'
  .exact h.lo.2.2 b s h'
  .omega
 .obtain⟨ob,nm,k1,k2,k3,k4,k5,k6⟩:=h.dec hp d hd;have hs:=h.bs.rn hp d hd;exact⟨ob,nm,k1,hg.Jo _ k2,(eR ob k2).2.trans k3,λe=>(qy _ _ hs).trans (k4 e),λe=>by obtain⟨ut,g1,g2⟩:=k5 e;exact⟨ut,(qy _ _ hs).trans g1,g2.mono hg.sle⟩,λe=>hk _ _ _ hs (k6 e)⟩
theorem DG.nm{s':Nat}(h:DG NS Q w K B DI gG eb cb oe oc os st σ W)(hd:B.ds[hp]?=some d)(hz:W.heap.size<=W'.heap.size)(Ao:W'.os=W.os)(CW:W'.tape=W.tape)(Le:W'.output=W.output)(hb:∀b,b<W.heap.size->b≠d->¬(Loc B DI σ b/\gG.heap.size<=b)->W'.heap[b]?=W.heap[b]?)(hc:∃cs ty,W'.heap[d]?=some (.cells cs ty (0,0)))(aiF:∀ob,os[hp]?=some ob->ZD w σ W' s' hp d ob)(cH:∀i,st' i=if i=hp then s' else st i):DG NS Q w K B DI gG eb cb oe oc os st' σ W':=by
 have zv:=h.bs.rn hp d hd;have lA:=h.jJ.size;have hS:∀b s,σ.S b=some s->s≠r9 hp->W'.heap[b]?=W.heap[b]?:=λb s hs hn=>hb b (h.bs.th.lI b s hs) (λe=>by subst e;rw[zv]at hs;cases hs;exact hn rfl) λhl=>by rw[hl.1.1]at hs;cases hs
 have hD:∀b,σ.D b->W'.heap[b]?=W.heap[b]?:=λb nY=>hb b (h.bs.th.mT b nY) (λe=>by subst e;exact h.bs.th.rS b _ zv nY) λhl=>hl.1.2.1 nY;have hm:au σ.D σ.D W W':=λb nY=>⟨nY,hD b nY⟩;have h7:∀b s,σ.S b=some s->s.ld=7->W'.heap[b]?=W.heap[b]?:=λb s hs hk=>hS b s hs λe=>by rw[e]at hk;cases hk
 have hk:∀b ob s,σ.S b=some s->s≠r9 hp->fe w σ.S σ.D W b ob s->fe w σ.S σ.D W' b ob s:=λb ob s hs hn hv=>hv.cR (λ_ _ h=>h) hm h7 (hS b s hs hn) dJ;refine⟨h.bs.aby hz (λb hl hn hq=>hb b hl (λe=>hq (r9 hp) (e▸zv) (.inl rfl)) λKn=>hn Kn.1) (λb s hs hi=>?_),⟨Ao.trans h.jJ.os,CW.trans h.jJ.tape,Le.trans h.jJ.output,jQd lA hz,λb hl=>(hb b M (λe=>by have:=h.lo.2.2 d _ zv;omega) λKn=>M).trans (h.jJ.block b hl)⟩,h.lo,h.se,h.sc,hk _ _ _ h.se (by intro e;have:=congrArg Y.ld e;simp[oA,r9,Y.ld]at this) h.ne,hk _ _ _ h.sc (by intro e;have:=congrArg Y.ld e;simp[sE,r9,Y.ld]at this) h.nc,h.only,h.oo,h.L3,h.oi,λi d' nY=>?_⟩
 .by_cases e:b=d
  .subst e;exact hc
  .obtain⟨cs,t,yq⟩:=h.bs.th.A9 b s hs;exact⟨cs,t,(hb b (h.bs.th.lI b s hs) e λhl=>by rw[hl.1.1]at hs;cases hs).trans yq⟩
 .obtain⟨ob,nm,k1,k2,k3,k4,k5,k6⟩:=h.dec i d' nY;refine⟨ob,nm,k1,k2,(hD _ k2).trans k3,?_⟩;by_cases e:i=hp
  .subst e;rw[hd]at nY;cases nY;rw[cH,jQ7 rfl];exact aiF ob k1
  .rw[cH,jQ4 e];have hs:=h.bs.rn i d' nY;have hn:r9 i≠r9 hp:=λe'=>by have:=congrArg Y.n e';simp[r9,Y.n]at this;omega
   exact⟨λe=>(hS _ _ hs hn).trans (k4 e),λe=>by obtain⟨ut,g1,g2⟩:=k5 e;exact⟨ut,(hS _ _ hs hn).trans g1,g2⟩,λe=>hk _ _ _ hs hn (k6 e)⟩
omit dJ in
theorem DG.re(h:DG NS Q w K B DI gG eb cb oe oc os st σ W)(cH:∀i d ob,B.ds[i]?=some d->os[i]?=some ob->σ.D ob->ZD w σ W (st i) i d ob->ZD w σ W (st' i) i d ob):DG NS Q w K B DI gG eb cb oe oc os st' σ W:=
 ⟨h.bs,h.jJ,h.lo,h.se,h.sc,h.ne,h.nc,h.only,h.oo,h.L3,h.oi,λhp d hd=>by
  obtain⟨ob,nm,k1,k2,k3,k4⟩:=h.dec hp d hd;exact⟨ob,nm,k1,k2,k3,cH hp d ob hd k1 k2 k4⟩⟩
theorem DG.lW(h:DG NS Q w K B DI gG eb cb oe oc os st σ W)(P:Qx)(hP:∀b,P b->Loc B DI σ b/\∃cs t f,W.heap[b]?=some (.cells cs t f)):DG NS Q w K B DI gG eb cb oe oc os st {σ with D:=λb=>σ.D b\/P b} W:=by
 have hm:au σ.D (λb=>σ.D b\/P b) W W:=λb hb=>⟨.inl hb,rfl⟩;have hk:∀b ob s,fe w σ.S σ.D W b ob s->fe w σ.S (λb=>σ.D b\/P b) W b ob s:=λb ob s hv=>hv.cR (λ_ _ h=>h) hm (λ_ _ _ _=>rfl) rfl dJ;exact⟨h.bs.lW P hP,h.jJ,h.lo,h.se,h.sc,hk _ _ _ h.ne,hk _ _ _ h.nc,h.only,h.oo,h.L3,h.oi,λhp d hd=>by
  obtain⟨ob,nm,k1,k2,k3,k4,k5,k6⟩:=h.dec hp d hd;exact⟨ob,nm,k1,.inl k2,k3,k4,k5,λe=>hk _ _ _ (k6 e)⟩⟩
theorem DG.put(h:DG NS Q w K B DI gG eb cb oe oc os st σ W)(hd:B.ds[hp]?=some d)(ho:os[hp]?=some ob)(j:kT d #[.pointer none,ptr ob,.bool false,.int .i32 0,.int .u32 0,.int .u32 15,ut,ut,.bool false,.slice none 0 0] 115 W W')(hu:dq σ.S ut (oZ w (r9 hp)))(cH:∀i,st' i=if i=hp then 1 else st i):
 DG NS Q w K B DI gG eb cb oe oc os st' σ W':=
 h.nm dJ hd (jQz j.size.symm) j.os j.tape j.output (λb _ hn _=>j.other b hn) ⟨_,_,j.here⟩ (λob' ho'=>by
  rw[ho]at ho';cases ho';exact⟨λe=>(by cases e),λ_=>⟨ut,j.here,hu⟩,λe=>(by cases e)⟩) cH
structure Kd(w:List ah)(B:Bl)(DI:Qx)(gG:World)(hp d ob:Nat)(ut ms:Value)(l:List aH)(ps:List Value)(σ:BS)(W:World):Prop where
 jl:W.heap[d]?=some (On ob ut ms)
 ut:dq σ.S ut (oZ w (r9 hp))
 row:dK B DI σ gG.heap.size W 97 ps ms
 lw:All2 (mr σ.S σ.D W) l ps
omit dJ in
theorem Kd.gr(h:Kd w B DI gG hp d ob ut ms l ps σ W)(hb:Bs NS Q w K B DI σ W)(hd:B.ds[hp]?=some d)(hl:∀m∈l,m.sig.ld=7)(hg:Gr B σ aO W W'):Kd w B DI gG hp d ob ut ms l ps aO W':=
 ⟨(hg.types hb d _ (hb.rn hp d hd)).trans h.jl,h.ut.mono hg.sle,h.row.gr hg,Jy h.lw hb hg hl⟩
omit dJ in
theorem DG.cur(h:DG NS Q w K B DI gG eb cb oe oc os st σ W)(hd:B.ds[hp]?=some d)(I:st hp=1)(cH:∀i,st' i=if i=hp then 3 else st i):
 ∃ob nm ut,os[hp]?=some ob/\σ.D ob/\W.heap[ob]?=some (.cells #[.int .i64 0,ptr B.pk,.string nm,.iface 53 (ptr d)] 119 (0,0))/\DG NS Q w K B DI gG eb cb oe oc os st' σ W/\Kd w B DI gG hp d ob ut (.slice none 0 0) [] [] σ W:=by
 obtain⟨ob,nm,k1,k2,k3,k4,k5,k6⟩:=h.dec hp d hd;obtain⟨ut,g1,g2⟩:=k5 I;refine⟨ob,nm,ut,k1,k2,k3,h.re λi d' ob' _ _ _ hv=>?_,g1,g2,dK.nil,trivial⟩;by_cases e:i=hp
 .rw[cH,jQ7 e];exact⟨λe=>(by cases e),λe=>(by cases e),λe=>(by cases e)⟩
 .rw[cH,jQ4 e];exact hv
theorem DG.YI(h:DG NS Q w K B DI gG eb cb oe oc os st σ W)(hc:Kd w B DI gG hp d ob ut ms l ps σ W)(hd:B.ds[hp]?=some d)(h3:st hp=3)(hl:∀m∈l,m.sig.ld=7)(hk:m.sig.ld=7){en:Ending}(hr:MeR NS Q w K B DI σ W d ob gG.heap.size ut ms ps m en W'):
 ∃aO p xX,DG NS Q w K B DI gG eb cb oe oc os st aO W'/\Kd w B DI gG hp d ob ut xX (l++[m]) (ps++[p]) aO W'/\aO.ml.length<=σ.ml.length+nds m.sig/\EH σ.S aO.S:=by
 obtain⟨-,aO,W1,p,xX,cq,j,aL,eR,hblk,Ao,CW,Le,hz,hb⟩:=hr;have I:=h.gr dJ cq;have kX:=hc.row.gr cq.gr;have zv:=I.bs.rn hp d hd;have hS:∀b s,aO.S b=some s->s.ld=7->W'.heap[b]?=W1.heap[b]?:=λb s hs hk=>hb b (I.bs.th.lI b s hs) (λe=>by subst e;rw[zv]at hs;cases hs;cases hk) λe=>by have:=(kX.loc b e).1;rw[hs]at this;cases this
 have hm:au aO.D aO.D W1 W':=λb nY=>⟨nY,hb b (I.bs.th.mT b nY) (λe=>by subst e;exact I.bs.th.rS b _ zv nY) λe=>(kX.loc b e).2.1 nY⟩;refine⟨aO,p,xX,?_,⟨hblk,hc.ut.mono cq.gr.sle,⟨aL,λg hg=>?_⟩,All2.snoc ?_ ?_⟩,cq.len,cq.gr.sle⟩
 .refine I.nm dJ hd hz Ao CW Le (λb hl hn fp=>hb b hl hn λe=>fp ⟨kX.loc b e,(aC kX.own b e).1⟩) ⟨_,_,hblk⟩ (s':=3) (λob _=>⟨λe=>(by cases e),λe=>(by cases e),λe=>(by cases e)⟩) λi=>?_;split
  .rename_i e;rw[e];exact h3
  .rfl
 .obtain e|⟨g',e,nG⟩:=eR
  .exact kX.loc g (e▸hg)
  .rw[e]at hg;cases hg;exact I.bs.loc nG
 .exact j.move (λ_ _ h=>h) hm hS hk
 .exact OI (λ_ _ h=>h) hm hS hl (Jy hc.lw h.bs cq.gr hl)
theorem DG.done{dd:ah}(h:DG NS Q w K B DI gG eb cb oe oc os st σ W)(hc:Kd w B DI gG hp d ob ut ms l ps σ W)(hd:B.ds[hp]?=some d)(ho:os[hp]?=some ob)(hw:w[hp]?=some dd)(hl:l=dd.lw)(cH:∀i,st' i=if i=hp then 2 else st i):
 ∃D',DG NS Q w K B DI gG eb cb oe oc os st' {σ with D:=D'} W:=by
 have I:=h.lW dJ (λb=>ms.ownBlock=some b) λb hb=>by
  obtain⟨-, -,cur,Cv⟩:=aC hc.row.own b hb;exact⟨hc.row.loc b hb,_,_,_,Cv⟩
 refine⟨_,I.re λi d' ob' nY ho' hD hv=>?_⟩;by_cases e:i=hp
 .subst e;rw[cH,jQ7 rfl];rw[hd]at nY;cases nY;rw[ho]at ho';cases ho';refine⟨λe=>(by cases e),λe=>(by cases e),λ_=>?_⟩;have hm:au σ.D (λb=>σ.D b\/ms.ownBlock=some b) W W:=λb hb=>⟨.inl hb,rfl⟩;obtain⟨ob2,nm,k1, -,k3, -⟩:=h.dec i d hd;rw[ho]at k1;cases k1;refine⟨ut,ms,ps,hc.jl,hc.ut,hc.row.row λg hg=>.inr hg,?_,hD,0,_,nm,_,k3,I.bs.Rm⟩;have e1:(if (r9 i).ld=11 then((w[(r9 i).n.toNat]?).map (·.lw)).getD []else[])=l:=by
   have:(r9 i).n.toNat=i:=by simp[r9,Y.n]
   rw[this,hw,hl];rfl
  rw[e1];refine OI (λ_ _ h=>h) hm (λ_ _ _ _=>rfl) ?_ hc.lw;intro m hm;rw[hl]at hm;exact dJ _ _ hw m hm
 .rw[cH,jQ4 e];exact hv
omit dJ in
theorem DG.nmi(h:DG NS Q w K B DI gG eb cb oe oc os st σ W)(cH:∀hp,hp<w.length->st hp=2):∃obj,DZ w σ W obj:=by
 have H:∀b,∃ob,∀s,σ.S b=some s->cI s->fe w σ.S σ.D W b ob s/\((b=eb/\s=oA/\ob=oe)\/(b=cb/\s=sE/\ob=oc)\/∃hp,B.ds[hp]?=some b/\s=r9 hp/\os[hp]?=some ob):=by
  intro b;cases hs:σ.S b with
  |none=>exact⟨0,λs h=>by cases h⟩
  |some s=>
   by_cases hn:cI s
   .rcases h.only b s hs hn with⟨rfl,rfl⟩|⟨rfl,rfl⟩|⟨hp,hj,rfl⟩
    .exact⟨oe,λs' e _=>by cases e;exact⟨h.ne,.inl ⟨rfl,rfl,rfl⟩⟩⟩
    .exact⟨oc,λs' e _=>by cases e;exact⟨h.nc,.inr (.inl ⟨rfl,rfl,rfl⟩)⟩⟩
    .obtain⟨ob,nm,k1,k2,k3,k4,k5,k6⟩:=h.dec hp b hj;have LZ:=(jQg.1 hj).1;rw[h.bs.dl]at LZ;exact⟨ob,λs' e _=>by cases e;exact⟨k6 (cH hp LZ),.inr (.inr ⟨hp,hj,rfl,k1⟩)⟩⟩
   .exact⟨0,λs' e hi=>by cases e;exact absurd hi hn⟩
 obtain⟨obj,VO⟩:=Classical.axiomOfChoice H;refine⟨obj,λb s hs hn=>(VO b s hs hn).1,λb b' s I U hn=>?_,λb b' s s' I U hn hn' e=>?_⟩
 .rcases(VO b s I hn).2 with⟨rfl,k, -⟩|⟨rfl,k, -⟩|⟨hp,g1,k, -⟩<;>rcases(VO b' s U hn).2 with⟨rfl,k', -⟩|⟨rfl,k', -⟩|⟨j',g1',k', -⟩<;>subst k<;>first
   |rfl
   |(exfalso;have:=congrArg Y.ld k';simp[oA,sE,r9,Y.ld]at this;done)
   |(
    have:hp=j':=by have:=congrArg Y.n k';simp[r9,Y.n]at this;omega
    subst this;rw[g1]at g1';exact jQw g1')
 .rcases(VO b s I hn).2 with⟨rfl, -,k⟩|⟨rfl, -,k⟩|⟨hp,g1, -,k⟩<;>rcases(VO b' s' U hn').2 with⟨rfl, -,k'⟩|⟨rfl, -,k'⟩|⟨j',g1', -,k'⟩<;>first
   |rfl
   |(exfalso;rw[k,k']at e;exact h.oo e)
   |(exfalso;rw[k,k']at e;exact h.oo e.symm)
   |(exfalso;have:=h.L3 j' _ k';rw[<-e,k]at this;exact this.1 rfl)
   |(exfalso;have:=h.L3 j' _ k';rw[<-e,k]at this;exact this.2 rfl)
   |(exfalso;have:=h.L3 hp _ k;rw[e,k']at this;exact this.1 rfl)
   |(exfalso;have:=h.L3 hp _ k;rw[e,k']at this;exact this.2 rfl)
   |(have:hp=j':=h.oi hp j' _ k (e▸k');subst this;rw[g1]at g1';exact jQw g1')
end
def uns:List ah->Nat
 |[]=>0
 |d::l=>nds d.gt+uns l
def mds:List aH->Nat
 |[]=>0
 |m::l=>nds m.sig+mds l
def DY:List ah->Nat
 |[]=>0
 |d::l=>mds d.lw+DY l
theorem CB:∀{l:List ah} {k:Nat} {d:ah},l[k]?=some d->uns (l.take (k+1))=uns (l.take k)+nds d.gt
 |[],k,d,h=>by simp at h
 |x::l,0,d,h=>by simp at h;subst h;simp[uns]
 |x::l,k+1,d,h=>by
  have:=CB (l:=l) (k:=k) (d:=d) (by simpa using h);rw[jR5,jR5,uns,uns,this];omega
theorem CD:∀{l:List aH} {k:Nat} {d:aH},l[k]?=some d->mds (l.take (k+1))=mds (l.take k)+nds d.sig
 |[],k,d,h=>by simp at h
 |x::l,0,d,h=>by simp at h;subst h;simp[mds]
 |x::l,k+1,d,h=>by
  have:=CD (l:=l) (k:=k) (d:=d) (by simpa using h);rw[jR5,jR5,mds,mds,this];omega
theorem CE:∀{l:List ah} {k:Nat} {d:ah},l[k]?=some d->DY (l.take (k+1))=DY (l.take k)+mds d.lw
 |[],k,d,h=>by simp at h
 |x::l,0,d,h=>by simp at h;subst h;simp[DY]
 |x::l,k+1,d,h=>by
  have:=CE (l:=l) (k:=k) (d:=d) (by simpa using h);rw[jR5,jR5,DY,DY,this];omega
theorem ME:∀(l:List ah) (k:Nat),uns (l.take k)<=uns l
 |[],k=>by simp[uns]
 |d::l,0=>by simp[uns]
 |d::l,k+1=>by have:=ME l k;rw[jR5,uns,uns];omega
theorem MF:∀(l:List aH) (k:Nat),mds (l.take k)<=mds l
 |[],k=>by simp[mds]
 |d::l,0=>by simp[mds]
 |d::l,k+1=>by have:=MF l k;rw[jR5,mds,mds];omega
theorem VA:∀(l:List ah) (k:Nat),DY (l.take k)<=DY l
 |[],k=>by simp[DY]
 |d::l,0=>by simp[DY]
 |d::l,k+1=>by have:=VA l k;rw[jR5,DY,DY];omega
theorem OC(I:1<=k)(bH:k<=10)(U:k≠2):¬tid k=127/\¬tid k=53:=by
 rcases de k with g|g|g|g|g|g|g|g|g|g|g|g<;>first
  |(rw[g.2];exact⟨i5,i5⟩)
  |omega
def KL(NS:List ByteArray)(Q:Y->Prop)(w:List ah)(K:Nat)(DI:Qx)(W:World)(e:Ending)(W':World):Prop:=
 ∃(B:Bl) (σ:BS) (obj:Nat->Nat),e=.returned (ptr B.bb)/\Bs NS Q w K B DI σ W'/\DZ w σ W' obj/\σ.ml=[]/\Below W.heap.size W W'/\W.heap.size<=B.bb/\(∀g,σ.mv.ownBlock≠some g)/\∀b s,σ.S b=some s->W.heap.size<=b
theorem VB(h:DG NS Q w K B DI gG eb cb oe oc os st σ wr)(hc:aaQ NS Q w K B DI obj rs r σ wr W'):KL NS Q w K DI gG (.returned (ptr B.bb)) W':=by
 obtain⟨D',hb,hn,g1,g2,g3,g4,g5⟩:=hc;have hz:=h.jJ.size;refine⟨B,_,obj,rfl,hb,hn,rfl,⟨g1.trans h.jJ.os,g2.trans h.jJ.tape,g3.trans h.jJ.output,jQd hz g4,λb hl=>?_⟩,h.lo.1,λg hg=>by simp[Value.ownBlock]at hg,h.lo.2.2⟩;rcases g5 b M (by have:=h.lo.1;omega)with e|⟨s,ts,sh,k1,k2, -⟩
 .exact e.trans (h.jJ.block b hl)
 .have:=h.lo.2.2 b s k1;omega
