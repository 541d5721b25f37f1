import Derived.Laws.AppendOwn
import Derived.OwnWalk
import Derived.Test.YtabjfnkfocnklaaGreatDoorA04
set_option linter.all false
set_option maxHeartbeats 16000000
set_option maxRecDepth 20000
namespace Go.Proofs.YtabjfnkfocnklaaGreatDoor
open Go Go.RowKit Go.Lib S P Tryz
variable{ops:Array Oper}{s:GT}{id:GT->GT->Bool}{Q T:GT->Prop}{acc l m xJ xl yl:List (Option Tm)}{us zU:List Bool}{NS:List ByteArray}{cs rs:List Nat}{rest:List Oper}{xs ys:List Value}{w:List ah}{B K b base' c ck j k kk n r r' size ub:Nat}{f:Nat×Nat}{D D' E E' E1 X X':Nat->Prop}{o:Oper}{a:Option Addr}{y:Option Tm}{Y:Prop}{S:Sg}{α β:Type}{e t t':TypeId}{o0 o1 o2 o3 o4 o5 o6 p q sl sm t1 t3 v v' v0 v1 v2 v3 v4 v5 v6 v7:Value}{W W' W0 W2 w' w2 wr:World}
theorem jQs:type_of% @Go.Lib.lt_of_cell:=@Go.Lib.lt_of_cell
theorem jR8:type_of% @Go.Result.andThen_ok:=@Go.Result.andThen_ok
theorem jR9:type_of% @Go.World.ownsRow_nil:=@Go.World.ownsRow_nil
theorem jRn:type_of% @Bool.true_and:=@Bool.true_and
theorem jRp:type_of% @Go.Sem.run_bind:=@Go.Sem.run_bind
theorem M108(h:Y:=by
 go_wp2_with fail;go_roundg (l.length - (jj+1))
 case measure=>omega
 case rel=>exact⟨jj+1,zU,y,m9,m9,m9,by go_num,J9,N2.out,T2.out,TT2.out,DH.1⟩):Y:=h
theorem M110(h:Y:=by
 exact .inl ⟨rfl,_,cap,rfl,λe=>by cases e⟩):Y:=h
theorem M112(h:Y:=by
 refine⟨xX,tl',wO,ho (jQ2 k1) e1,λad n c e hn=>?_,λad n c e hn=>?_,Nx,Z5,k3',k4',k5'⟩
 ·exact M147
 ·exact M78):Y:=h
theorem M119(h:Y:=by
 go_wp2_with fail;go_roundg (l.length - (kk+1))
 case measure=>omega
 case rel=>exact⟨kk+1,us,acc,m9,m9,by go_num,hul,m9,N.out,DH.1⟩):Y:=h
theorem M126(h:Y:=by
 go_wp2_with fail;go_ret;exact⟨by rw[HA.1];rfl,rfl⟩):Y:=h
theorem M13(h:Y:=by
 go_wp2_with fail;go_ret;exact HP.1):Y:=h
theorem M147(h:Y:=by
 subst e;exact ho (j0 k3 hn).1 (e2 _ _ _ rfl hn)):Y:=h
theorem M152(h:Y:=by
 refine⟨e2,λhd=>by have:=h.gh.mT b hd;omega,?_⟩;cases hs:S b with
 |none=>rfl
 |some s=>have:=h.gh.lI b s hs;omega):Y:=h
theorem M170(h:Y:=by
 exact .inl ⟨jQe m9,none,0,rfl,λ_=>rfl⟩):Y:=h
theorem M187(h:Y:=by
 go_enter func179,ntmps179;go_wp2_with fail;go_ret;exact⟨_,rfl,HP.1,HO.1,Fr.refl _⟩):Y:=h
theorem M190(h:Y:=by
 go_enter func206,ntmps206;exact M65):Y:=h
theorem M192(h:Y:=by
 by_cases hj:j=0
 ·subst hj;simpa[Addr.add]using this
 ·simpa[Addr.add,hj]using this):Y:=h
theorem M199(h:Y:=by
 clear hA;go_wp2_with fail;go_ret;exact⟨_,rfl,by rw[<-HA.1];rfl,O.out,F.out⟩):Y:=h
theorem M219(h:Y:=by
 go_wp2_with fail;go_ret;exact⟨_,rfl,by rw[<-HA.1];rfl,sr.1,rR.1⟩):Y:=h
theorem M36(h:Y:=by
 have:=h.cells (g:=g) rfl j u hu;exact M192):Y:=h
theorem M62(h:Y:=by
 go_wp2_with fail;refine jRc (v:=.tuple #[ptr b1,.pointer none]) (by simp[results,Tryz.results214,go_sem]) rfl ?_;exact⟨_,rfl,⟨_,_,rfl,HP'.1,rfl⟩,HO.1,HF.1⟩):Y:=h
theorem M65(h:Y:=by
 go_wp2_with fail;go_ret;exact⟨_,rfl,rfl,HO.1,Fr.refl _⟩):Y:=h
theorem M78(h:Y:=by
 subst e;obtain⟨qs,q1,q2⟩:=k5;exact ho (j0 q1 hn).1 (e3 _ _ _ rfl hn)):Y:=h
theorem M79(h:Y:=by
 go_wp2_with fail;go_roundg (l.length - (kk+1))
 case measure=>omega
 case rel=>exact⟨kk+1,m9,m9,by go_num,rfl,HA.1⟩):Y:=h
theorem M83(h:Y:=by
 rintro e w' ⟨v,rfl,rfl,g1,g2⟩;go_wp2_with fail;go_ret;exact⟨_,rfl,rfl,g1,g2⟩):Y:=h
def Rn(S:Sg)(W:World):Nat->Prop:=λb=>S b=none/\∃cs t f,W.heap[b]?=some (.cells cs t f)
def Qq(S:Sg)(W:World):Nat->Prop:=λb=>S b=none/\∃cs f,W.heap[b]?=some (.cells cs 152 f)
def TmV(S:Sg)(W:World)(x:Option Tm)(p:Value):Prop:=
 match x with
 |none=>p=.pointer none
 |some tm=>∃b v ty,p=ptr b/\S b=none/\W.heap[b]?=some (.cells #[.bool tm.dO,v] ty (0,0))/\(ty=154\/ty=234)/\(match tm.jg with|none=>v=.nilIface|some a=>dq S v a)
def lS(S:Sg)(W:World)(l:List (Option Tm))(sl:Value):Prop:=∃ps,eE (Qq S W) W ps sl/\All2 (TmV S W) l ps
def Out(E:Nat->Prop)(sl:Value):Prop:=∀ad n c,sl=.slice (some ad) n c->n≠0->¬E ad.block
def yn(S:Sg)(D E:Nat->Prop)(W:World)(b:Nat)(s:TS):Prop:=
 ∃ms tl ps,¬E b/\Out E ms/\Out E tl/\W.heap[b]?=some (.cells #[.bool false,ms,tl,.bool s.comp] 122 (0,0))/\S b=none/\eE (Rn S W) W ps ms/\All2 (λm p=>sK S D W m.name m p) s.meths ps/\lS S W s.terms tl
structure bZ(X:Nat->Prop)(S:Sg)(rs:List Nat)(r:Nat)(W W':World):Prop where
 os:W'.os=W.os
 tape:W'.tape=W.tape
 output:W'.output=W.output
 size:W.heap.size<=W'.heap.size
 block:∀b,b<W.heap.size->W'.heap[b]?=W.heap[b]?\/(∃s ts sh,S b=some s/\isIf s=true/\2*J rs false false s<r/\DE W W' b ts sh)\/(X b/\(∃es ck,W.heap[b]?=some (.map es ck))/\∃es ck,W'.heap[b]?=some (.map es ck))
def Wc:Nat->Prop:=λ_=>False
abbrev Fr(S:Sg)(rs:List Nat)(r:Nat)(W W':World):Prop:=bZ Wc S rs r W W'
theorem DE.trans{t2 t4:Value}(h:DE W W' b t1 t2)(h':DE W' W2 b t3 t4):DE W W2 b t1 t4:=by
 obtain⟨c0,c1,c2,c3,c4,c5,h1,h2⟩:=h;obtain⟨d0,d1,d2,d3,d4,d5,h3,h4⟩:=h';rw[h2]at h3;simp at h3;obtain⟨rfl,rfl,rfl,rfl,rfl,rfl, -⟩:=h3;exact⟨c0,c1,c2,c3,c4,c5,h1,h4⟩
theorem bZ.refl(W:World):bZ X S rs r W W:=⟨rfl,rfl,rfl,jQ0 _,λ_ _=>.inl rfl⟩
theorem Fr.refl(W:World):Fr S rs r W W:=bZ.refl W
theorem bZ.trans(h:bZ X S rs r W W')(h':bZ X S rs r W' W2):bZ X S rs r W W2:=by
 refine⟨h'.os.trans h.os,h'.tape.trans h.tape,h'.output.trans h.output,jQd h.size h'.size,λb hb=>?_⟩;rcases h.block b hb with e|⟨s,ts,sh,g1,g2,g3,g4⟩|⟨x1,⟨es,ck,x2⟩,⟨GA,YX,x3⟩⟩
 ·rcases h'.block b (jQb hb h.size)with e'|⟨s,ts,sh,g1,g2,g3,c0,c1,c2,c3,c4,c5,g4,g5⟩|⟨y1,⟨es,ck,y2⟩,⟨GA,YX,y3⟩⟩
  ·exact .inl (e'.trans e)
  ·exact .inr (.inl ⟨s,ts,sh,g1,g2,g3,c0,c1,c2,c3,c4,c5,e.symm.trans g4,g5⟩)
  ·exact .inr (.inr ⟨y1,⟨es,ck,e.symm.trans y2⟩,⟨GA,YX,y3⟩⟩)
 ·rcases h'.block b (jQb hb h.size)with e'|⟨s',us,zU,k1,k2,k3,k4⟩|⟨y1,⟨es,ck,y2⟩,y3⟩
  ·obtain⟨c0,c1,c2,c3,c4,c5,k1,k2⟩:=g4;exact .inr (.inl ⟨s,ts,sh,g1,g2,g3,c0,c1,c2,c3,c4,c5,k1,e'.trans k2⟩)
  ·exact .inr (.inl ⟨s,ts,zU,g1,g2,g3,g4.trans k4⟩)
  ·obtain⟨c0,c1,c2,c3,c4,c5,k1,k2⟩:=g4;rw[k2]at y2;cases y2
 ·rcases h'.block b (jQb hb h.size)with e'|⟨s',us,zU,k1,k2,k3,k4⟩|⟨y1,⟨es2,ck2,y2⟩,⟨es3,ck3,y3⟩⟩
  ·exact .inr (.inr ⟨x1,⟨es,ck,x2⟩,⟨GA,YX,e'.trans x3⟩⟩)
  ·obtain⟨c0,c1,c2,c3,c4,c5,k5,k6⟩:=k4;rw[x3]at k5;cases k5
  ·exact .inr (.inr ⟨x1,⟨es,ck,x2⟩,⟨es3,ck3,y3⟩⟩)
theorem bZ.wide(h:bZ X S rs r W W')(hx:∀b,X b->X' b):bZ X' S rs r W W':=
 ⟨h.os,h.tape,h.output,h.size,λb hb=>(h.block b hb).imp id λh=>h.imp id λh=>⟨hx _ h.1,h.2⟩⟩
theorem Fr.x(h:Fr S rs r W W'):bZ X S rs r W W':=bZ.wide h (λ_ h=>h.elim)
theorem bZ.new(h:bZ X S rs r W W')(hx:∀b,X b->W.heap.size<=b):Fr S rs r W W':=
 ⟨h.os,h.tape,h.output,h.size,λb hb=>(h.block b hb).imp id λh=>h.imp id λh=>absurd (hx b h.1) m9⟩
theorem bZ.mono(h:bZ X S rs r W W')(hr:r<=r'):bZ X S rs r' W W':=
 ⟨h.os,h.tape,h.output,h.size,λb hb=>(h.block b hb).imp id λh=>h.imp (λ⟨s,ts,sh,g1,g2,g3,g4⟩=>⟨s,ts,sh,g1,g2,m9,g4⟩) id⟩
theorem Below.fr(h:Below W.heap.size W W'):bZ X S rs r W W':=⟨h.os,h.tape,h.output,h.size,λb hb=>.inl (h.block b hb)⟩
theorem bZ.obj(h:bZ X S rs r W W')(hs:S b=none){cs:Array Value}(hb:W.heap[b]?=some (.cells cs t f)):W'.heap[b]?=some (.cells cs t f):=by
 rcases h.block b (jQ2 hb)with e|⟨s,_,_,g1,_⟩|⟨_,⟨_,_,g⟩,_⟩
 ·exact e.trans hb
 ·rw[hs]at g1;cases g1
 ·rw[hb]at g;cases g
theorem bZ.map(h:bZ X S rs r W W')(hs:¬X b){es:Array MapEntry}(hb:W.heap[b]?=some (.map es ck)):W'.heap[b]?=some (.map es ck):=by
 rcases h.block b (jQ2 hb)with e|⟨s,_,_,_,_,_,c0,c1,c2,c3,c4,c5,g1,_⟩|⟨g,_,_⟩
 ·exact e.trans hb
 ·rw[hb]at g1;cases g1
 ·exact absurd g hs
theorem bZ.frz(h:bZ X S rs r W W'):au (Rn S W) (Rn S W') W W':=λb hb=>by
 obtain⟨h1,cs,t,f,h2⟩:=hb;have:=h.obj h1 h2;exact⟨⟨h1,cs,t,f,this⟩,this.trans h2.symm⟩
theorem bZ.ahY(h:bZ X S rs r W W'):au (Qq S W) (Qq S W') W W':=λb hb=>by
 obtain⟨h1,cs,f,h2⟩:=hb;have:=h.obj h1 h2;exact⟨⟨h1,cs,f,this⟩,this.trans h2.symm⟩
theorem cells_of_cell{w:World}{o:Nat}(hc:w.cell? ⟨b,o,none⟩=some v):∃cs t f,w.heap[b]?=some (.cells cs t f):=by
 have:=jQs hc;cases ho:w.heap[b]? with
 |none=>simp[World.cell?,ho]at hc
 |some x=>cases x<;>first|exact⟨_,_,_,rfl⟩|simp[World.cell?,ho]at hc
theorem bZ.cell(h:bZ X S rs r W W'){o:Nat}(hs:S b=none)(hc:W.cell? ⟨b,o,none⟩=some v):W'.cell? ⟨b,o,none⟩=some v:=by
 obtain⟨cs,t,f,hb⟩:=cells_of_cell hc;exact(jQi (w:=W) ((h.obj hs hb).trans hb.symm)).trans hc
theorem TmV.move(h:bZ X S rs r W W'){x:Option Tm}(hv:TmV S W x p):TmV S W' x p:=by
 unfold TmV at hv⊢;cases x with
 |none=>exact hv
 |some tm=>
  obtain⟨b,v,ty,h1,h2,h3,h5,h4⟩:=hv;exact⟨b,v,ty,h1,h2,h.obj h2 h3,h5,h4⟩
theorem lS.move(h:bZ X S rs r W W')(hv:lS S W l sl):lS S W' l sl:=by
 obtain⟨ps,h1,h2⟩:=hv;exact⟨ps,h1.move h.ahY,h2.imp λ_ _ hp=>hp.move h⟩
theorem lS.form(hv:lS S W l sl):∃a c,sl=.slice a l.length c:=by
 obtain⟨ps,h1,h2⟩:=hv;obtain⟨a,c,rfl⟩:=h1.form;exact⟨a,c,by rw[h2.len]⟩
structure Ok(w:List ah)(S:Sg)(D:Nat->Prop)(obj:Nat->Nat)(rs:List Nat)(K:Nat)(E:Nat->Prop)(r:Nat)(W:World):Prop where
 gh:GH w S D obj W
 own:∀b,E b->b<W.heap.size/\¬D b/\S b=none
 st:∀b s,S b=some s->isIf s=true->2*J rs false false s<r->∃ts,iJ S D W b s ts/\((ts=.pointer none/\s.kind=10)\/∃sb,ts=ptr sb/\yn S D E W sb ((fs w K).ts s))
section
variable{obj:Nat->Nat}
theorem dw(h:isIf s=true):s.kind=10\/s.kind=17:=by simpa[isIf]using h
theorem bZ.other(h:bZ X S rs r W W')(hs:S b=some s)(hi:isIf s=false){cs:Array Value}(hb:W.heap[b]?=some (.cells cs t f)):W'.heap[b]?=some (.cells cs t f):=by
 rcases h.block b (jQ2 hb)with e|⟨s',_,_,g1,g2,_⟩|⟨_,⟨_,_,g⟩,_⟩
 ·exact e.trans hb
 ·rw[hs]at g1;cases g1;rw[hi]at g2;cases g2
 ·rw[hb]at g;cases g
theorem GH.eu(hg:GH w S D obj W)(h:bZ X S rs r W W'):au D D W W':=λb hb=>by
 obtain⟨cs,t,f,hc⟩:=hg.LR b hb;have hs:S b=none:=by
  cases hs:S b with
  |none=>rfl
  |some s=>exact absurd hb (hg.rS b s hs)
 exact⟨hb,(h.obj hs hc).trans hc.symm⟩
theorem UQ(h:cI s):isIf s=false:=by unfold isIf;rcases h with h|h|h<;>simp[h]
theorem GH.acn(hg:GH w S D obj W)(h:bZ X S rs r W W'):∀b s,S b=some s->∃cs t,W'.heap[b]?=some (.cells cs t (0,0)):=λb s hs=>by
 obtain⟨cs,t,hc⟩:=hg.A9 b s hs;rcases h.block b (hg.lI b s hs)with e|⟨s',_,_,_,_,_,c0,c1,c2,c3,c4,c5,g1,g2⟩|⟨_,⟨_,_,g⟩,_⟩
 ·exact⟨cs,t,e.trans hc⟩
 ·exact⟨_,_,g2⟩
 ·rw[hc]at g;cases g
theorem GH.fr(hg:GH w S D obj W)(dJ:∀(n:Nat) (d:ah),w[n]?=some d->∀m∈d.meths,m.sig.kind=7)(h:bZ X S rs r W W'):GH w S D obj W':=by
 have hm:=hg.eu h;refine⟨λb s hs=>(hg.node b s hs).move (λ_ _ h=>h) hm ?_,λb s hs hn=>?_,λb s hs=>jQb (hg.lI b s hs) h.size,hg.mT.mono h.size,hg.rS,hg.we,hg.Gk,λb hb=>?_,hg.acn h,hg.td.move hm⟩
 ·rcases h.block b (hg.lI b s hs)with e|⟨s',ts,sh,g1,g2,g3,g4⟩|⟨_,⟨_,_,g⟩,_⟩
  ·exact .inl e
  ·rw[hs]at g1;cases g1;exact .inr ⟨g2,ts,sh,g4⟩
  ·obtain⟨cs,t,hc⟩:=hg.A9 b s hs;rw[hc]at g;cases g
 rotate_right
 ·obtain⟨cs,t,f,hc⟩:=hg.LR b hb;exact⟨cs,t,f,(hm b hb).2.trans hc⟩
 ·obtain⟨ut,ms,ps,h1,h2,h3,h4,h5⟩:=hg.named b s hs hn;refine⟨ut,ms,ps,h.other hs (UQ hn) h1,h2,h3.move hm,?_,h5.move hm⟩;have hk:∀m∈(if s.kind=11 then((w[s.n.toNat]?).map (·.meths)).getD []else[]),m.sig.kind=7:=M44
  generalize(if s.kind=11 then((w[s.n.toNat]?).map (·.meths)).getD []else[])=l at h4 hk;clear h1 h3
  induction l generalizing ps with
  |nil=>cases ps with
   |nil=>trivial
   |cons _ _=>exact h4.elim
  |cons m l ih=>cases ps with
   |nil=>exact h4.elim
   |cons p ps=>exact⟨h4.1.move (λ_ _ h=>h) hm (λb s hs h7=>by obtain⟨cs,t,hc⟩:=hg.A9 b s hs;exact(h.other hs (by simp[isIf,h7]) hc).trans hc.symm) (hk m i6),ih (ps:=ps) h4.2 (λm' j9=>hk m' (by simp[j9]))⟩
theorem yn.move(hg:GH w S D obj W)(h:bZ X S rs r W W'){s:TS}(hv:yn S D E W b s):yn S D E W' b s:=by
 obtain⟨ms,tl,ps,e1,e2,e3,h1,h2,h3,h4,h5⟩:=hv;exact⟨ms,tl,ps,e1,e2,e3,h.obj h2 h1,h2,h3.move h.frz,h4.imp λm p hp=>hp.move (λ_ _ h=>h) (hg.eu h),h5.move h⟩
theorem Ok.le(h:Ok w S D obj rs K E r W)(hr:r'<=r):Ok w S D obj rs K E r' W:=⟨h.gh,h.own,λb s hs hi hj=>h.st b s hs hi m9⟩
theorem Ok.up(h:Ok w S D obj rs K E r' W)(hf:bZ X S rs r W W')(h':Ok w S D obj rs K E r W'):Ok w S D obj rs K E r' W':=by
 refine⟨h'.gh,h'.own,λb s hs hi hj=>?_⟩;by_cases aM:2*J rs false false s<r
 ·exact h'.st b s hs hi aM
 ·obtain⟨ts,h1,h2⟩:=h.st b s hs hi hj;have he:W'.heap[b]?=W.heap[b]?:=by
   rcases hf.block b (h.gh.lI b s hs)with e|⟨s',_,_,g1,_,g3,_⟩|⟨_,⟨_,_,g⟩,_⟩
   ·exact e
   ·rw[hs]at g1;cases g1;omega
   ·obtain⟨cs,t,hc⟩:=h.gh.A9 b s hs;rw[hc]at g;cases g
  refine⟨ts,h1.move (λ_ _ h=>h) (h.gh.eu hf) he,h2.imp id λ⟨sb,g1,g2⟩=>⟨sb,g1,g2.move h.gh hf⟩⟩
theorem Ok.frx(h:Ok w S D obj rs K E r W)(dJ:∀(n:Nat) (d:ah),w[n]?=some d->∀m∈d.meths,m.sig.kind=7)(hf:bZ X S rs 0 W W'):Ok w S D obj rs K E r W':=
 h.up hf ⟨h.gh.fr dJ hf,λb hb=>⟨jQb (h.own b hb).1 hf.size,(h.own b hb).2⟩,λ_ _ _ _ hj=>m9⟩
theorem Ok.below(h:Ok w S D obj rs K E r W)(dJ:∀(n:Nat) (d:ah),w[n]?=some d->∀m∈d.meths,m.sig.kind=7)(hb:Below W.heap.size W W'):Ok w S D obj rs K E r W':=by
 have hf:Fr S rs 0 W W':=Below.fr hb;exact h.up hf ⟨h.gh.fr dJ hf,λb hb=>⟨jQb (h.own b hb).1 hf.size,(h.own b hb).2⟩,λ_ _ _ _ hj=>m9⟩
theorem Out.wide(h:Out E sl)(hE:∀b,E' b->E b):Out E' sl:=λad n c e hn hb=>h ad n c e hn (hE _ hb)
theorem Ok.drop(h:Ok w S D obj rs K E r W)(hE:∀b,E' b->E b):Ok w S D obj rs K E' r W:=
 ⟨h.gh,λb hb=>h.own b (hE b hb),λb s hs hi hj=>by
  obtain⟨ts,h1,h2⟩:=h.st b s hs hi hj;exact⟨ts,h1,h2.imp id λ⟨sb,g1,ms,tl,ps,e1,e2,e3,g2⟩=>⟨sb,g1,ms,tl,ps,λe=>e1 (hE _ e),e2.wide hE,e3.wide hE,g2⟩⟩⟩
theorem j0{a:Addr}(h:eE D W xs (.slice (some a) n c))(hn:n≠0):a.block<W.heap.size/\D a.block:=by
 rcases h with⟨h,a',c',e,_⟩|⟨hx,b,o,c',e,h3,h4,h5,h6⟩
 ·simp at e;exact absurd e.2.1 hn
 ·simp at e;obtain⟨rfl, -, -⟩:=e;cases xs with
  |nil=>exact absurd rfl hx
  |cons x l=>exact⟨jQs (h6 0 x rfl),h5⟩
theorem Ok.new(h:Ok w S D obj rs K E r W)(dJ:∀(n:Nat) (d:ah),w[n]?=some d->∀m∈d.meths,m.sig.kind=7)(hb:Below W.heap.size W W')(hE:∀b,E' b->E b\/(W.heap.size<=b/\b<W'.heap.size)):Ok w S D obj rs K E' r W':=by
 have hf:Fr S rs 0 W W':=Below.fr hb;refine⟨h.gh.below dJ hb,λb he=>?_,λb s hs hi hj=>?_⟩
 ·rcases hE b he with e|⟨e1,e2⟩
  ·exact⟨jQb (h.own b e).1 hb.size,(h.own b e).2⟩
  ·exact M152
 ·obtain⟨ts,h1,h2⟩:=h.st b s hs hi hj;refine⟨ts,h1.move (λ_ _ h=>h) (h.gh.eu hf) (hb.block b (h.gh.lI b s hs)),h2.imp id λ⟨sb,g1,g2⟩=>⟨sb,g1,?_⟩⟩;have g3:=g2.move h.gh hf;obtain⟨ms,tl,ps,e1,e2,e3,k1,k2,k3,k4,k5⟩:=g2;obtain⟨xX,tl',wO, -, -, -,Nx,Z5,k3',k4',k5'⟩:=g3;have hk:=(hb.block sb (jQ2 k1)).trans k1;rw[Nx]at hk;simp at hk;obtain⟨rfl,rfl⟩:=hk;have ho:∀{b:Nat},b<W.heap.size->¬E b->¬E' b:=λhl hn he=>(hE _ he).elim hn λh=>m9
  exact M112
structure iN(E1:Nat->Prop)(W W':World):Prop where
 os:W'.os=W.os
 tape:W'.tape=W.tape
 output:W'.output=W.output
 size:W.heap.size<=W'.heap.size
 block:∀b,b<W.heap.size->¬E1 b->W'.heap[b]?=W.heap[b]?
 nt:∀b,E1 b->∀cs t f,W.heap[b]?=some (.cells cs t f)->t≠154/\t≠234
theorem TmV.ng(h:iN E1 W W'){x:Option Tm}(hv:TmV S W x p):TmV S W' x p:=by
 unfold TmV at hv⊢;cases x with
 |none=>exact hv
 |some tm=>
  obtain⟨b,v,ty,h1,h2,h3,h5,h4⟩:=hv;exact⟨b,v,ty,h1,h2,(h.block b (jQ2 h3) (λe=>by have:=h.nt b e _ _ _ h3;rcases h5 with g|g<;>simp[g]at this)).trans h3,h5,h4⟩
theorem eE.ng(h:iN E1 W W')(hr:eE (Rn S W) W xs sl)(ho:Out E1 sl):eE (Rn S W') W' xs sl:=by
 obtain hr|⟨h1,b,o,c,rfl,h3,h4,⟨h5,cs,t,f,h6⟩,h7⟩:=hr
 ·exact .inl hr
 ·have hn:=ho _ _ _ rfl (by cases xs with|nil=>exact absurd rfl h1|cons x l=>simp);have hb:=h.block b (jQ2 h6) hn;exact .inr ⟨h1,b,o,c,rfl,h3,h4,⟨h5,cs,t,f,hb.trans h6⟩,λj u hu=>(jQi (w:=W) hb).trans (h7 j u hu)⟩
theorem eE.Mo(h:iN E1 W W')(hr:eE (Qq S W) W xs sl)(ho:Out E1 sl):eE (Qq S W') W' xs sl:=by
 obtain hr|⟨h1,b,o,c,rfl,h3,h4,⟨h5,cs,f,h6⟩,h7⟩:=hr
 ·exact .inl hr
 ·have hn:=ho _ _ _ rfl (by cases xs with|nil=>exact absurd rfl h1|cons x l=>simp);have hb:=h.block b (jQ2 h6) hn;exact .inr ⟨h1,b,o,c,rfl,h3,h4,⟨h5,cs,f,hb.trans h6⟩,λj u hu=>(jQi (w:=W) hb).trans (h7 j u hu)⟩
theorem lS.ng(h:iN E1 W W')(hr:lS S W l sl)(ho:Out E1 sl):lS S W' l sl:=by
 obtain⟨ps,h1,h2⟩:=hr;exact⟨ps,h1.Mo h ho,h2.imp λ_ _ hp=>hp.ng h⟩
theorem lS.Mo(h:iN E1 W W')(hr:lS S W l sl)(hE:∀b,E1 b->∀cs f,W.heap[b]?≠some (.cells cs 152 f)):lS S W' l sl:=by
 refine hr.ng h λad n c e hn hb=>?_;obtain⟨ps,h1,h2⟩:=hr;subst e;obtain⟨-, -,cs,f,hc⟩:=j0 h1 hn;exact hE _ hb cs f hc
theorem Ok.step(h:Ok w S D obj rs K E r W)(dJ:∀(n:Nat) (d:ah),w[n]?=some d->∀m∈d.meths,m.sig.kind=7)(hp:iN E1 W W')(hE:∀b,E1 b->E b)(hE':∀b,E' b->E b\/(W.heap.size<=b/\b<W'.heap.size)):Ok w S D obj rs K E' r W':=by
 have hS:∀b s,S b=some s->W'.heap[b]?=W.heap[b]?:=λb s hs=>hp.block b (h.gh.lI b s hs) λe=>by have:=(h.own b (hE b e)).2.2;rw[hs]at this;cases this
 have hD:∀b,D b->W'.heap[b]?=W.heap[b]?:=λb hd=>hp.block b (h.gh.mT b hd) λe=>(h.own b (hE b e)).2.1 hd;have ho:∀{b:Nat},b<W.heap.size->¬E b->¬E' b:=λhl hn he=>(hE' _ he).elim hn λh=>m9
 refine⟨h.gh.cR dJ hp.size hS hD,λb he=>?_,λb s hs hi hj=>?_⟩
 ·rcases hE' b he with e|⟨e1,e2⟩
  ·exact⟨jQb (h.own b e).1 hp.size,(h.own b e).2⟩
  ·exact M152
 obtain⟨ts,h1,h2⟩:=h.st b s hs hi hj;have hm:au D D W W':=λb hb=>⟨hb,hD b hb⟩;refine⟨ts,h1.move (λ_ _ h=>h) hm (hS b s hs),h2.imp id λ⟨sb,g1,ms,tl,ps,e1,e2,e3,k1,k2,k3,k4,k5⟩=>⟨sb,g1,ms,tl,ps,ho (jQ2 k1) e1,λad n c e hn=>?_,λad n c e hn=>?_,?_,k2,?_,?_,?_⟩⟩
 ·exact M147
 ·exact M78
 ·exact(hp.block sb (jQ2 k1) λe=>e1 (hE _ e)).trans k1
 ·exact k3.ng hp (e2.wide hE)
 ·exact k4.imp λm p hv=>hv.move (λ_ _ h=>h) hm
 ·exact k5.ng hp (e3.wide hE)
theorem Ok.ng(h:Ok w S D obj rs K E r W)(dJ:∀(n:Nat) (d:ah),w[n]?=some d->∀m∈d.meths,m.sig.kind=7)(hp:iN E1 W W')(hE:∀b,E1 b->E b):Ok w S D obj rs K E r W':=
 h.step dJ hp hE λ_ h=>.inl h
theorem iN.put{cs:Array Value}(hp:kT B cs t W W')(hc:∀Ek t' f,W.heap[B]?=some (.cells Ek t' f)->t'≠154/\t'≠234):iN (λb=>b=B) W W':=
 ⟨hp.os,hp.tape,hp.output,jQz hp.size.symm,λb _ hn=>hp.other b hn,λb hb cs t f h=>by subst hb;exact hc cs t f h⟩
theorem bZ.ng(h:bZ X S rs r W0 W)(hp:iN E1 W W')(h1:∀b,E1 b->W0.heap.size<=b):bZ X S rs r W0 W':=by
 refine⟨hp.os.trans h.os,hp.tape.trans h.tape,hp.output.trans h.output,jQd h.size hp.size,λb hb=>?_⟩;have e:=hp.block b (jQb hb h.size) λe=>by have:=h1 b e;omega
 rcases h.block b hb with e'|⟨s,ts,sh,g1,g2,g3,c0,c1,c2,c3,c4,c5,g4,g5⟩|⟨y1,⟨es,ck,y2⟩,⟨GA,YX,y3⟩⟩
 ·exact .inl (e.trans e')
 ·exact .inr (.inl ⟨s,ts,sh,g1,g2,g3,c0,c1,c2,c3,c4,c5,g4,e.trans g5⟩)
 ·exact .inr (.inr ⟨y1,⟨es,ck,y2⟩,⟨GA,YX,e.trans y3⟩⟩)
theorem iN.grown(hg:W.grownBy W' v.ownBlock){base:Nat}(ho:W.ownsRow base e size v n xs)(h1:e≠154)(h2:e≠234):iN (λb=>v.ownBlock=some b) W W':=by
 refine⟨hg.os,hg.tape,hg.output,hg.size,λb hb hn=>hg.block b hb λe=>hn e.symm,λb hb cs t f hc=>?_⟩;rcases ho.2 with⟨rfl,_⟩|⟨g,cap,cur,rfl,k1,k2,k3⟩
 ·simp[Value.ownBlock]at hb
 ·simp[Value.ownBlock]at hb;subst hb;rw[k2]at hc;simp at hc;obtain⟨-,rfl, -⟩:=hc;exact⟨h1,h2⟩
theorem Mp(h:bZ X S rs r W W'){base:Nat}(ho:W.ownsRow base e size v n xs)(hs:∀g,v.ownBlock=some g->S g=none):W'.ownsRow base e size v n xs:=by
 refine⟨ho.1,ho.2.imp id λ⟨g,cap,cur,e1,k1,k2,k3⟩=>?_⟩;subst e1;exact⟨g,cap,cur,rfl,k1,h.obj (hs g rfl) k2,k3⟩
theorem JZ(h:iN E1 W W'){base:Nat}(ho:W.ownsRow base e size v n xs)(hs:∀g,v.ownBlock=some g->¬E1 g):W'.ownsRow base e size v n xs:=by
 refine⟨ho.1,ho.2.imp id λ⟨g,cap,cur,e1,k1,k2,k3⟩=>?_⟩;subst e1;exact⟨g,cap,cur,rfl,k1,(h.block g (jQ2 k2) (hs g rfl)).trans k2,k3⟩
def lC(X:Nat->Prop)(w:List ah)(S:Sg)(D:Nat->Prop)(obj:Nat->Nat)(rs:List Nat)(K:Nat)(E:Nat->Prop)(r:Nat)(W:World)(P:Value->World->Prop)(e:Ending)(W':World):Prop:=
 ∃v,e=.returned v/\P v W'/\Ok w S D obj rs K E r W'/\bZ X S rs r W W'
abbrev aV(w:List ah)(S:Sg)(D:Nat->Prop)(obj:Nat->Nat)(rs:List Nat)(K:Nat)(E:Nat->Prop)(r:Nat)(W:World)(P:Value->World->Prop)(e:Ending)(W':World):Prop:=lC Wc w S D obj rs K E r W P e W'
end
structure Env(NS:List ByteArray)(Q:GT->Prop)(w:List ah)(rs cs:List Nat):Prop where
 qp:QP NS Q
 wk:WK NS Q w rs cs
 te:QTe w Q
 cn:∀t,Q t->t.kind=10->bP cs t<=50
 nsl:NS.length<=1099511627776
theorem Env.hs(h:Env NS Q w rs cs):∀(n:Nat) (d:ah),w[n]?=some d->∀m∈d.meths,m.sig.kind=7:=λn d hd m hm=>(h.wk.sig n d hd m hm).1
section
variable(NS:List ByteArray)(Q:GT->Prop)(w:List ah)(S:Sg)(D:Nat->Prop)(obj:Nat->Nat)(rs:List Nat)(K r:Nat)
def cO:Prop:=∀(E:Nat->Prop) (W:World) (u v:Value) (x y:GT),Ok w S D obj rs K E r W->dq S u x->dq S v y->PT NS Q w 0 x->PT NS Q w 0 y->2*J rs false false x+1<r->2*J rs false false y+1<r->
 Calls prog 75 #[u,v] W (aV w S D obj rs K E r W λv _=>v=.bool ((fs w K).id x y))
end
section
variable{obj:Nat->Nat}
abbrev FF(w:List ah)(K:Nat):GT->GT->Bool:=(fs w K).id
theorem _root_.Go.Proofs.YtabjfnkfocnklaaGreatDoor.P.jH.rk(hE:Env NS Q w rs cs){a:GT}(h:jH NS Q w rs B a)(hB:2*B<=r):2*J rs false false a+1<r/\2*J rs false false (az w a)+1<r/\PT NS Q w 0 (az w a):=by
 have ja:=dM (rs:=rs) (v:=true) (f:=true) (v':=false) (f':=false) i6 i6 a;have ua:=(jh hE.wk hE.qp h.1).1;have:=h.2.1;exact⟨m9,m9,fE hE.wk hE.qp h.1 h.2.2⟩
theorem mJ(hE:Env NS Q w rs cs)(hI:cO NS Q w S D obj rs K r)(hB:2*B<=r)(bD:Ok w S D obj rs K E r W){x y:Tm}{a b:GT}(ha:x.jg=some a)(hb:y.jg=some b)(hp:TmV S W (some x) p)(hq:TmV S W (some y) q)(fQ:jH NS Q w rs B a)(lv:jH NS Q w rs B b):
 Calls prog 215 #[p,q] W (aV w S D obj rs K E r W λv _=>v=.bool (l6 (FF w K) w a b x.dO y.dO)):=by
 obtain⟨b1,v1,ty1,rfl,s1,h1, -,h2⟩:=hp;obtain⟨b2,v2,ty2,rfl,s2,h3, -,h4⟩:=hq;simp only[ha]at h2;simp only[hb]at h4;have u1:=bj hE.qp bD.gh h2 (.inl ⟨0,fQ.1⟩);have u2:=bj hE.qp bD.gh h4 (.inl ⟨0,lv.1⟩);obtain⟨r1,r2,r3⟩:=fQ.rk hE hB;obtain⟨k1,k2,k3⟩:=lv.rk hE hB;have acL:l6 (FF w K) w a b x.dO y.dO=!(fs w K).id (if y.dO then az w a else a) (if x.dO then az w b else b):=rfl;obtain⟨tx,ax⟩:=x;obtain⟨ty,bx⟩:=y;simp only at h1 h3 acL;have c1:W.cell? ⟨b1,0,none⟩=some (.bool tx):=by simp[World.cell?,h1]
 have c2:W.cell? ⟨b1,1,none⟩=some v1:=by simp[World.cell?,h1]
 have c3:W.cell? ⟨b2,0,none⟩=some (.bool ty):=by simp[World.cell?,h3]
 have c4:W.cell? ⟨b2,1,none⟩=some v2:=by simp[World.cell?,h3]
 have ag:∀u v x' y',dq S u x'->dq S v y'->x'=(if ty then az w a else a)->y'=(if tx then az w b else b)->Calls prog 75 #[u,v] W (aV w S D obj rs K E r W λv _=>v=.bool ((fs w K).id (if ty then az w a else a) (if tx then az w b else b))):=by
  intro u v x' y' hu hv ex ey;subst ex;subst ey;refine hI E W u v _ _ bD hu hv ?_ ?_ ?_ ?_
  ·cases ty<;>first|exact fQ.1|exact r3
  ·cases tx<;>first|exact lv.1|exact k3
  ·cases ty<;>first|exact r1|exact r2
  ·cases tx<;>first|exact k1|exact k2
 obtain⟨T1,f1,b3,rfl,⟨jd,Fc⟩,lk⟩:=u1;obtain⟨T2,f2,b4,rfl,⟨kS,Qi⟩,fL⟩:=u2;obtain⟨HC,Oh,Hz,H2,H4⟩:=Z5 ag lk fL h2 h4;rw[acL];clear ag lk fL r1 r2 r3 k1 k2 k3 fQ lv ha hb h2 h4 hI hE hB bD h1 h3 s1 s2 acL;generalize(fs w K).id (if ty then az w a else a) (if tx then az w b else b)=res at HC⊢;go_enter func215,ntmps215;cases ty<;>cases tx
 ·go_wp2_with fail;refine(HC.1 _ _ _ _ H2.1 H4.1 rfl rfl).mono ?_;exact M83
 ·go_wp2_with fail;refine Hz.1.mono ?_;rintro e w' ⟨v',rfl,zw,rfl⟩;obtain⟨bv',rfl, -⟩:=id zw;go_wp2_with fail;refine(HC.1 _ _ _ _ H2.1 zw rfl rfl).mono ?_;exact M83
 ·go_wp2_with fail;refine Oh.1.mono ?_;rintro e w' ⟨v',rfl,zw,rfl⟩;obtain⟨bv',rfl, -⟩:=id zw;go_wp2_with fail;refine(HC.1 _ _ _ _ zw H4.1 rfl rfl).mono ?_;exact M83
 ·go_wp2_with fail;refine Oh.1.mono ?_;rintro e w' ⟨v',rfl,zw,rfl⟩;obtain⟨bv',rfl, -⟩:=id zw;go_wp2_with fail;refine Hz.1.mono ?_;rintro e w' ⟨v'',rfl,afS,rfl⟩;obtain⟨bv'',rfl, -⟩:=id afS;go_wp2_with fail;refine(HC.1 _ _ _ _ zw afS rfl rfl).mono ?_;exact M83
theorem TmV.open{x:Tm}(h:TmV S W (some x) p):∃b v,p=ptr b/\S b=none/\W.cell? ⟨b,0,none⟩=some (.bool x.dO)/\W.cell? ⟨b,1,none⟩=some v/\(x.jg=none->v=.nilIface)/\(∀a,x.jg=some a->∃T c,v=.iface T (ptr c)/\dq S v a):=by
 obtain⟨b,v,ty,h1,h2,h3, -,h4⟩:=h;refine⟨b,v,h1,h2,by simp[World.cell?,h3],by simp[World.cell?,h3],λh=>?_,λa ha=>?_⟩
 ·rw[h]at h4;exact h4
 ·rw[ha]at h4;obtain⟨c,rfl,hc⟩:=h4;exact⟨_,c,rfl,c,rfl,hc⟩
theorem J6{x y:Tm}{a b:GT}(hx:x.jg=some a)(hy:y.jg=some b):unionT id w x y=if l6 id w a b x.dO y.dO then(x,some y)else if x.dO||!y.dO then(x,none)else(y,none):=by
 unfold unionT;simp[hx,hy]
theorem GV(hE:Env NS Q w rs cs)(hI:cO NS Q w S D obj rs K r)(hB:2*B<=r)(bD:Ok w S D obj rs K E r W){x y:Tm}(hp:TmV S W (some x) p)(hq:TmV S W (some y) q)(fQ:TT (jH NS Q w rs B) x)(lv:TT (jH NS Q w rs B) y):
 Calls prog 214 #[p,q] W (aV w S D obj rs K E r W λv W'=>∃u1 u2,v=.tuple #[u1,u2]/\TmV S W' (some (unionT (FF w K) w x y).1) u1/\TmV S W' (unionT (FF w K) w x y).2 u2):=by
 obtain⟨b1,v1,rfl,s1,c1,c2,n1,y1⟩:=hp.open;obtain⟨b2,v2,rfl,s2,c3,c4,n2,y2⟩:=hq.open;cases hx:x.jg with
 |none=>
  cases n1 hx;have hu:unionT (FF w K) w x y=(x,none):=by unfold unionT;rw[hx]
  rw[hu];have HP:=Z hp;have HO:=Z bD;clear hp hq fQ lv n1 y1 n2 y2 hu hE hI hB bD hx c1 c3 s1 s2;go_enter func214,ntmps214;go_wp2_with fail;refine jRc (v:=.tuple #[ptr b1,.pointer none]) (by simp[results,Tryz.results214,go_sem]) rfl ?_;exact⟨_,rfl,⟨_,_,rfl,HP.1,rfl⟩,HO.1,Fr.refl _⟩
 |some a=>
  obtain⟨T1,d1,rfl, -⟩:=y1 a hx;cases hy:y.jg with
  |none=>
   cases n2 hy;have hu:unionT (FF w K) w x y=(y,none):=by unfold unionT;simp[hx,hy]
   rw[hu];have HP:=Z hq;have HO:=Z bD;clear hp hq fQ lv n1 y1 n2 y2 hu hE hI hB bD hx hy c1 c3 s1 s2;go_enter func214,ntmps214;go_wp2_with fail;refine jRc (v:=.tuple #[ptr b2,.pointer none]) (by simp[results,Tryz.results214,go_sem]) rfl ?_;exact⟨_,rfl,⟨_,_,rfl,HP.1,rfl⟩,HO.1,Fr.refl _⟩
  |some b=>
   obtain⟨T2,d2,rfl, -⟩:=y2 b hy;have ag:=mJ hE hI hB bD hx hy hp hq (fQ a hx) (lv b hy);rw[J6 hx hy];obtain⟨HP,HQ,S1,S2⟩:=Z4 hp hq s1 s2;clear hp hq fQ lv n1 y1 n2 y2 hE hI hB bD s1 s2;generalize l6 (FF w K) w a b x.dO y.dO=dj at ag⊢;go_enter func214,ntmps214;go_wp2_with fail;refine ag.mono ?_;rintro e w' ⟨v,rfl,rfl,g1,g2⟩;replace c1:=g2.cell S1.1 c1;replace c3:=g2.cell S2.1 c3;obtain⟨HP',HQ',HO,HF⟩:=Z4 (HP.1.move g2) (HQ.1.move g2) g1 g2;clear g1 g2 c2 c4 hx hy;obtain⟨tx,ax⟩:=x;obtain⟨ty,ay⟩:=y;simp only at c1 c3 HP' HQ'⊢;cases dj
   ·cases tx<;>cases ty
    ·exact M62
    ·go_wp2_with fail;refine jRc (v:=.tuple #[ptr b2,.pointer none]) (by simp[results,Tryz.results214,go_sem]) rfl ?_;exact⟨_,rfl,⟨_,_,rfl,HQ'.1,rfl⟩,HO.1,HF.1⟩
    ·exact M62
    ·exact M62
   ·go_wp2_with fail;refine jRc (v:=.tuple #[ptr b1,ptr b2]) (by simp[results,Tryz.results214,go_sem]) rfl ?_;exact⟨_,rfl,⟨_,_,rfl,HP'.1,HQ'.1⟩,HO.1,HF.1⟩
theorem J7{x y:Tm}{a b:GT}(hx:x.jg=some a)(hy:y.jg=some b):interT id w (some x) (some y)=if l6 id w a b x.dO y.dO then none else if !x.dO||y.dO then some x else some y:=by
 unfold interT;simp[hx,hy]
theorem GJ(hE:Env NS Q w rs cs)(hI:cO NS Q w S D obj rs K r)(hB:2*B<=r)(bD:Ok w S D obj rs K E r W){x:Option Tm}(hp:TmV S W x p)(hq:TmV S W y q)(fQ:TO (jH NS Q w rs B) x)(lv:TO (jH NS Q w rs B) y):
 Calls prog 179 #[p,q] W (aV w S D obj rs K E r W λv W'=>TmV S W' (interT (FF w K) w x y) v):=by
 have HO:=Z bD;cases x with
 |none=>
  cases hp;clear hq fQ lv hE hI hB bD;have hu:interT (FF w K) w none y=none:=by unfold interT;rfl
  rw[hu];clear hu;go_enter func179,ntmps179;exact M65
 |some x=>
 obtain⟨b1,v1,rfl,s1,c1,c2,n1,y1⟩:=hp.open;cases y with
 |none=>
  cases hq;clear hp fQ lv hE hI hB bD n1 y1 s1;have hu:interT (FF w K) w (some x) none=none:=by unfold interT;rfl
  rw[hu];clear hu;go_enter func179,ntmps179;exact M65
 |some y=>
 obtain⟨b2,v2,rfl,s2,c3,c4,n2,y2⟩:=hq.open;cases hx:x.jg with
 |none=>
  cases n1 hx;have hu:interT (FF w K) w (some x) (some y)=some y:=by unfold interT;simp[hx]
  rw[hu];have HP:=Z hq;clear hp hq fQ lv n1 y1 n2 y2 hu hE hI hB bD hx c1 c3 s1 s2;exact M187
 |some a=>
  obtain⟨T1,d1,rfl, -⟩:=y1 a hx;cases hy:y.jg with
  |none=>
   cases n2 hy;have hu:interT (FF w K) w (some x) (some y)=some x:=by unfold interT;simp[hx,hy]
   rw[hu];have HP:=Z hp;clear hp hq fQ lv n1 y1 n2 y2 hu hE hI hB bD hx hy c1 c3 s1 s2;exact M187
  |some b=>
   obtain⟨T2,d2,rfl, -⟩:=y2 b hy;have ag:=mJ hE hI hB bD hx hy hp hq (fQ x rfl a hx) (lv y rfl b hy);rw[J7 hx hy];obtain⟨HP,HQ,S1,S2⟩:=Z4 hp hq s1 s2;clear hp hq fQ lv n1 y1 n2 y2 hE hI hB bD s1 s2 HO;generalize l6 (FF w K) w a b x.dO y.dO=dj at ag⊢;go_enter func179,ntmps179;go_wp2_with fail;refine ag.mono ?_;rintro e w' ⟨v,rfl,rfl,g1,g2⟩;replace c1:=g2.cell S1.1 c1;replace c3:=g2.cell S2.1 c3;obtain⟨HP',HQ',HO,HF⟩:=Z4 (HP.1.move g2) (HQ.1.move g2) g1 g2;clear g1 g2 c2 c4 hx hy;obtain⟨tx,ax⟩:=x;obtain⟨ty,ay⟩:=y;simp only at c1 c3 HP' HQ'⊢;cases dj
   ·cases tx<;>cases ty
    all_goals
     go_wp2_with fail;go_ret
     first|exact⟨_,rfl,HP'.1,HO.1,HF.1⟩|exact⟨_,rfl,HQ'.1,HO.1,HF.1⟩
   ·go_wp2_with fail;go_ret;exact⟨_,rfl,rfl,HO.1,HF.1⟩
theorem QH{x y:Tm}{a b:GT}(hx:x.jg=some a)(hy:y.jg=some b):subT id w (some x) (some y)=if l6 id w a b x.dO y.dO then false else !x.dO||y.dO:=by
 unfold subT;simp[hx,hy]
theorem Lg(hE:Env NS Q w rs cs)(hI:cO NS Q w S D obj rs K r)(hB:2*B<=r)(bD:Ok w S D obj rs K E r W){x:Option Tm}(hp:TmV S W x p)(hq:TmV S W y q)(fQ:TO (jH NS Q w rs B) x)(lv:TO (jH NS Q w rs B) y):
 Calls prog 206 #[p,q] W (aV w S D obj rs K E r W λv W'=>v=.bool (subT (FF w K) w x y)):=by
 have HO:=Z bD;cases x with
 |none=>
  cases hp;clear hq fQ lv hE hI hB bD;have hu:subT (FF w K) w none y=true:=by unfold subT;rfl
  rw[hu];clear hu;exact M190
 |some x=>
 obtain⟨b1,v1,rfl,s1,c1,c2,n1,y1⟩:=hp.open;cases y with
 |none=>
  cases hq;clear hp fQ lv hE hI hB bD n1 y1 s1;have hu:subT (FF w K) w (some x) none=false:=by unfold subT;rfl
  rw[hu];clear hu;exact M190
 |some y=>
 obtain⟨b2,v2,rfl,s2,c3,c4,n2,y2⟩:=hq.open;cases hy:y.jg with
 |none=>
  cases n2 hy;have hu:subT (FF w K) w (some x) (some y)=true:=by unfold subT;simp[hy]
  rw[hu];clear hp hq fQ lv n1 y1 n2 y2 hu hE hI hB bD hy c1 c3 s1 s2;exact M190
 |some b=>
  obtain⟨T2,d2,rfl, -⟩:=y2 b hy;cases hx:x.jg with
  |none=>
   cases n1 hx;have hu:subT (FF w K) w (some x) (some y)=false:=by unfold subT;simp[hx,hy]
   rw[hu];clear hp hq fQ lv n1 y1 n2 y2 hu hE hI hB bD hx hy c1 c3 s1 s2;exact M190
  |some a=>
   obtain⟨T1,d1,rfl, -⟩:=y1 a hx;have ag:=mJ hE hI hB bD hx hy hp hq (fQ x rfl a hx) (lv y rfl b hy);rw[QH hx hy];have S1:=Z s1;have S2:=Z s2;clear hp hq fQ lv n1 y1 n2 y2 hE hI hB bD s1 s2 HO;generalize l6 (FF w K) w a b x.dO y.dO=dj at ag⊢;go_enter func206,ntmps206;go_wp2_with fail;refine ag.mono ?_;rintro e w' ⟨v,rfl,rfl,g1,g2⟩;replace c1:=g2.cell S1.1 c1;replace c3:=g2.cell S2.1 c3;have HO:=Z g1;have HF:=Z g2;clear g1 g2 c2 c4 hx hy;obtain⟨tx,ax⟩:=x;obtain⟨ty,ay⟩:=y;simp only at c1 c3⊢;cases dj
   ·cases tx<;>cases ty
    all_goals
     go_wp2_with fail;go_ret;exact⟨_,rfl,rfl,HO.1,HF.1⟩
   ·go_wp2_with fail;go_ret;exact⟨_,rfl,rfl,HO.1,HF.1⟩
end
section
variable{obj:Nat->Nat}
theorem eE.nth(h:eE D W xs (.slice a n c))(hx:xs[kk]?=some p):∃b o,a=some ⟨b,o,none⟩/\D b/\W.cell? ⟨b,o+kk,none⟩=some p:=by
 rcases h with⟨rfl,_⟩|⟨h1,b,o,c',e,h3,h4,h5,h6⟩
 ·simp at hx
 ·simp at e;exact⟨b,o,e.1,h5,h6 kk p hx⟩
theorem eE.max(h:eE D W xs sl):xs.length<=9223372036854775807:=by
 rcases h with⟨rfl,_⟩|⟨h1,b,o,c',e,h3,h4,h5,h6⟩
 ·simp
 ·omega
theorem lS.nth{x:Option Tm}(h:lS S W l (.slice a n c))(hx:l[kk]?=some x):∃b o p,a=some ⟨b,o,none⟩/\S b=none/\W.cell? ⟨b,o+kk,none⟩=some p/\TmV S W x p:=by
 obtain⟨ps,h1,h2⟩:=h;obtain⟨p,hp,ht⟩:=h2.at hx;obtain⟨b,o,e,hd,hc⟩:=h1.nth hp;exact⟨b,o,p,e,hd.1,hc,ht⟩
theorem lS.max(h:lS S W l sl):l.length<=9223372036854775807:=by
 obtain⟨ps,h1,h2⟩:=h;rw[h2.len];exact h1.max
theorem cZ{l:List α}{x:α}(h:l[kk]?=some x):l.drop kk=x::l.drop (kk+1):=by
 obtain⟨aM,e⟩:=jQg.1 h;rw[jQv aM,e]
theorem Dh(x:Option Tm)(l:List (Option Tm)):aK (x::l)=(x.isNone&&aK l):=by
 unfold aK;cases x<;>simp
theorem gI(hl:lS S W l sl):Calls prog 118 #[sl] W (dL W (.bool (aK l))):=by
 obtain⟨a,c,rfl⟩:=hl.form;have rO:=hl.max;have HL:=Z hl;clear hl;go_enter func118,ntmps118;go_wp2_with fail
 go_loopg [4,7] l.length (λgg _ s7 wr=>∃kk:Nat,kk<=l.length/\l.length - kk<=gg/\s7=.int .i64 kk/\wr=W/\Aside (aK (l.drop kk)=aK l))
 case atStart=>exact⟨0,jQc _,m9,rfl,rfl,by simp[Aside]⟩
 case round=>
  obtain⟨kk,ez,hg,rfl,rfl,A⟩:=hrel;by_cases aM:kk<l.length
  ·have aR:(kk:Int)<(l.length:Int):=m9
   obtain⟨x,hx⟩:∃x,l[kk]?=some x:=⟨l[kk],by simp[aM]⟩;obtain⟨b,o,p,rfl,hs,hc,ht⟩:=HL.1.nth hx;have hA:=A.out;rw[cZ hx,Dh]at hA;cases x with
   |none=>
    cases ht;have HA:=Z (show aK (l.drop (kk+1))=aK l by rw[<-hA];simp);clear hA hx;exact M79
   |some x=>
    obtain⟨b1,v1,rfl,_⟩:=ht.open;have HA:=Z (show aK l=false by rw[<-hA];rfl);clear hA hx ht;exact M126
  ·have aR:¬(kk:Int)<(l.length:Int):=m9
   have hA:=A.out;rw[jQf m9]at hA;have HA:=Z (show aK l=true by rw[<-hA];rfl);clear hA;exact M126
theorem fI(hl:lS S W l sl):Calls prog 122 #[sl] W (dL W (.bool (isAllL l))):=by
 obtain⟨a,c,rfl⟩:=hl.form;have rO:=hl.max;have HL:=Z hl;clear hl;go_enter func122,ntmps122;go_wp2_with fail
 go_loopg [4,7] l.length (λgg _ s7 wr=>∃kk:Nat,kk<=l.length/\l.length - kk<=gg/\s7=.int .i64 kk/\wr=W/\Aside (isAllL (l.drop kk)=isAllL l))
 case atStart=>exact⟨0,jQc _,m9,rfl,rfl,by simp[Aside]⟩
 case round=>
  obtain⟨kk,ez,hg,rfl,rfl,A⟩:=hrel;by_cases aM:kk<l.length
  ·have aR:(kk:Int)<(l.length:Int):=m9
   obtain⟨x,hx⟩:∃x,l[kk]?=some x:=⟨l[kk],by simp[aM]⟩;obtain⟨b,o,p,rfl,hs,hc,ht⟩:=HL.1.nth hx;have hA:=A.out;rw[cZ hx,fg]at hA;cases x with
   |none=>
    cases ht;have HA:=Z (show isAllL (l.drop (kk+1))=isAllL l by rw[<-hA];simp);clear hA hx;exact M79
   |some x=>
    obtain⟨b1,v1,rfl,s1,c1,c2,n1,y1⟩:=ht.open;cases CN:x.jg with
    |none=>
     cases n1 CN;have HA:=Z (show isAllL l=true by rw[<-hA];simp[CN]);clear hA hx ht CN n1 y1;exact M126
    |some q=>
     obtain⟨T,c3,rfl,_⟩:=y1 q CN;have HA:=Z (show isAllL (l.drop (kk+1))=isAllL l by rw[<-hA];simp[CN]);clear hA hx ht CN n1 y1;exact M79
  ·have aR:¬(kk:Int)<(l.length:Int):=m9
   have hA:=A.out;rw[jQf m9]at hA;have HA:=Z (show isAllL l=false by rw[<-hA];rfl);clear hA;exact M126
theorem _root_.Go.Proofs.YtabjfnkfocnklaaGreatDoor.P.TL.nth{x:Option Tm}(h:TL T l)(hx:l[kk]?=some x):TO T x:=h x (jQ8 hx)
theorem xp(hE:Env NS Q w rs cs)(hI:cO NS Q w S D obj rs K r)(hB:2*B<=r)(bD:Ok w S D obj rs K E r W)(hl:lS S W l sl)(hq:TmV S W y q)(fQ:TL (jH NS Q w rs B) l)(lv:TO (jH NS Q w rs B) y):
 Calls prog 166 #[sl,q] W (aV w S D obj rs K E r W λv _=>v=.bool (tD (FF w K) w l y)):=by
 obtain⟨a,c,rfl⟩:=hl.form;have rO:=hl.max;obtain⟨HL,HO,HQ⟩:=Z3 hl bD hq;clear hl bD hq;go_enter func166,ntmps166;go_wp2_with fail
 go_loopg [6,9] l.length (λgg _ s9 wr=>∃kk:Nat,kk<=l.length/\l.length - kk<=gg/\s9=.int .i64 kk/\Aside (Ok w S D obj rs K E r wr)/\Aside (Fr S rs r W wr)/\Aside (tD (FF w K) w (l.drop kk) y=tD (FF w K) w l y))
 case atStart=>exact⟨0,jQc _,m9,rfl,HO.1,Fr.refl _,by simp[Aside]⟩
 case round=>
  obtain⟨kk,ez,hg,rfl,O,F,A⟩:=hrel;by_cases aM:kk<l.length
  ·have aR:(kk:Int)<(l.length:Int):=m9
   obtain⟨x,hx⟩:∃x,l[kk]?=some x:=⟨l[kk],by simp[aM]⟩;obtain⟨b,o,p,rfl,hs,hc,ht⟩:=(HL.1.move F.out).nth hx;have hA:=A.out;rw[cZ hx]at hA;have hA:(subT (FF w K) w y x||tD (FF w K) w (l.drop (kk+1)) y)=tD (FF w K) w l y:=hA;have ag:=Lg hE hI hB O.out (HQ.1.move F.out) ht lv (fQ.nth hx);generalize rN:subT (FF w K) w y x=sb at ag hA;have HA:=Z hA;clear hA hx ht rN;go_wp2_with fail;refine ag.mono ?_;rintro e w' ⟨v,rfl,rfl,g1,g2⟩;have sr:=Z g1;have rR:=Z (F.out.trans g2);clear g1 g2 ag;cases sb
   ·go_wp2_with fail;go_roundg (l.length - (kk+1))
    case measure=>omega
    case rel=>exact⟨kk+1,m9,m9,by go_num,sr.1,rR.1,by have:=HA.1;rw[Bool.false_or]at this;exact this⟩
   ·exact M219
  ·have aR:¬(kk:Int)<(l.length:Int):=m9
   have hA:=A.out;rw[jQf m9]at hA;have HA:=Z (show false=tD (FF w K) w l y from hA);exact M199
theorem XD(h:aK yl=false):nJ id w xl yl=xl.all λx=>tD id w yl x:=by unfold nJ;rw[h];rfl
theorem tE(hE:Env NS Q w rs cs)(hI:cO NS Q w S D obj rs K r)(hB:2*B<=r)(bD:Ok w S D obj rs K E r W)(hl:lS S W l sl)(hm:lS S W m sm)(fQ:TL (jH NS Q w rs B) l)(lv:TL (jH NS Q w rs B) m):
 Calls prog 123 #[sl,sm] W (aV w S D obj rs K E r W λv _=>v=.bool (nJ (FF w K) w l m)):=by
 obtain⟨a,c,rfl⟩:=hl.form;obtain⟨a2,c2,rfl⟩:=hm.form;have rO:=hl.max;have aF:=gI hm;have aD:=gI hl;obtain⟨HL,HM,HO⟩:=Z3 hl hm bD;clear hl bD hm;cases he:aK m with
 |true=>
  have hs:nJ (FF w K) w l m=aK l:=by unfold nJ;rw[he];rfl
  rw[hs];rw[he]at aF;clear hs he hE hI hB fQ lv;go_enter func123,ntmps123;go_wp2_with fail;refine aF.mono ?_;rintro e w' ⟨rfl,rfl⟩;go_wp2_with fail;refine aD.mono ?_;rintro e w' ⟨rfl,rfl⟩;exact M65
 |false=>
  rw[XD he];rw[he]at aF;clear aD he;go_enter func123,ntmps123;go_wp2_with fail;refine rv aF ?_;clear aF;go_wp2_with fail
  go_loopg [6,13] l.length (λgg _ s13 wr=>∃kk:Nat,kk<=l.length/\l.length - kk<=gg/\s13=.int .i64 kk/\Aside (Ok w S D obj rs K E r wr)/\Aside (Fr S rs r W wr)/\Aside (((l.drop kk).all λx=>tD (FF w K) w m x)=l.all λx=>tD (FF w K) w m x))
  case atStart=>exact⟨0,jQc _,m9,rfl,HO.1,Fr.refl _,by simp[Aside]⟩
  case round=>
   obtain⟨kk,ez,hg,rfl,O,F,A⟩:=hrel;by_cases aM:kk<l.length
   ·have aR:(kk:Int)<(l.length:Int):=m9
    obtain⟨x,hx⟩:∃x,l[kk]?=some x:=⟨l[kk],by simp[aM]⟩;obtain⟨b,o,p,rfl,hs,hc,ht⟩:=(HL.1.move F.out).nth hx;have hA:=A.out;rw[cZ hx,jRl]at hA;have ag:=xp hE hI hB O.out (HM.1.move F.out) ht lv (fQ.nth hx);generalize rN:tD (FF w K) w m x=sb at ag hA;have HA:=Z hA;clear hA hx ht rN;go_wp2_with fail;refine ag.mono ?_;rintro e w' ⟨v,rfl,rfl,g1,g2⟩;have sr:=Z g1;have rR:=Z (F.out.trans g2);clear g1 g2 ag;cases sb
    ·exact M219
    ·go_wp2_with fail;go_roundg (l.length - (kk+1))
     case measure=>omega
     case rel=>exact⟨kk+1,m9,m9,by go_num,sr.1,rR.1,by have:=HA.1;rw[jRn]at this;exact this⟩
   ·have aR:¬(kk:Int)<(l.length:Int):=m9
    have hA:=A.out;rw[jQf m9]at hA;have HA:=Z hA;exact M199
theorem O9(hE:Env NS Q w rs cs)(hI:cO NS Q w S D obj rs K r)(hB:2*B<=r)(bD:Ok w S D obj rs K E r W)(hl:lS S W l sl)(hm:lS S W m sm)(fQ:TL (jH NS Q w rs B) l)(lv:TL (jH NS Q w rs B) m):
 Calls prog 162 #[sl,sm] W (aV w S D obj rs K E r W λv _=>v=.bool (Pa (FF w K) w l m)):=by
 obtain⟨a,c,rfl⟩:=hl.form;obtain⟨a2,c2,rfl⟩:=hm.form;have ag:=tE hE hI hB bD hl hm fQ lv;have aD:=λW' (g1:Ok w S D obj rs K E r W') (g2:Fr S rs r W W')=>tE hE hI hB g1 (hm.move g2) (hl.move g2) lv fQ;have heq:Pa (FF w K) w l m=(nJ (FF w K) w l m&&nJ (FF w K) w m l):=rfl;rw[heq];generalize nJ (FF w K) w l m=s1 at ag⊢;generalize nJ (FF w K) w m l=s2 at aD⊢;have WZ:=Z aD;clear hE hI hB bD hl hm fQ lv heq aD;go_enter func162,ntmps162;cases s1
 ·go_wp2_with fail;refine ag.mono ?_;rintro e w' ⟨v,rfl,rfl,g1,g2⟩;clear ag;go_wp2_with fail;go_ret;exact⟨_,rfl,rfl,g1,g2⟩
 ·go_wp2_with fail;refine ag.mono ?_;rintro e w' ⟨v,rfl,rfl,g1,g2⟩;have ag:=WZ.1 _ g1 g2;have HF:=Z g2;clear g1 g2;go_wp2_with fail;refine ag.mono ?_;rintro e w2 ⟨v,rfl,rfl,g1,g2⟩;have rR:=Z (HF.1.trans g2);have sr:=Z g1;clear ag g1 g2;go_wp2_with fail;go_ret;exact⟨_,rfl,i6,sr.1,rR.1⟩
end
def RV(D:Nat->Prop)(W:World):List GT->List Value->Prop
 |[],xs=>xs=[]
 |t::l,xs=>∃a c rest,xs=[.int .i64 t.kind,.int .i64 t.n,.int .i64 t.m,.bool t.va,.string t.name,.string t.tag,.slice a t.elems.length c]++rest/\RS D W t.elems (.slice a t.elems.length c)/\RV D W l rest
theorem RV.length:∀{l:List GT} {xs:List Value},RV D W l xs->xs.length=l.length*7
 |[],xs,h=>by rw[RV]at h;simp[h]
 |t::l,xs,h=>by
  rw[RV]at h;obtain⟨a,c,rest,rfl,_,h⟩:=h;have:=h.length;simp;omega
theorem RV.one:∀{l:List GT} {xs:List Value},RV D W l xs->∀u∈xs,u.oneCell'=true
 |[],xs,h=>by rw[RV]at h;subst h;intro u hu;simp at hu
 |t::l,xs,h=>by
  rw[RV]at h;obtain⟨a,c,rest,rfl,_,h⟩:=h;intro u hu;rw[jQm]at hu;obtain hu|hu:=hu
  ·simp at hu;rcases hu with rfl|rfl|rfl|rfl|rfl|rfl|rfl<;>rfl
  ·exact h.one u hu
theorem RV.append{l':List GT}(h':RV D W l' ys):∀{l:List GT} {xs:List Value},RV D W l xs->RV D W (l++l') (xs++ys)
 |[],xs,h=>by rw[RV]at h;subst h;simpa using h'
 |t::l,xs,h=>by
  rw[RV]at h;obtain⟨a,c,rest,rfl,hs,h⟩:=h;rw[jRh,RV];exact⟨a,c,rest++ys,i6,hs,RV.append h' h⟩
theorem RV.move(hm:au D D' W W'):∀{l:List GT} {xs:List Value},RV D W l xs->RV D' W' l xs
 |[],xs,h=>by rw[RV]at h⊢;exact h
 |t::l,xs,h=>by
  rw[RV]at h⊢;obtain⟨a,c,rest,rfl,hs,h⟩:=h;exact⟨a,c,rest,rfl,hs.move hm,h.move hm⟩
theorem RV.single{t:GT}(h:RS D W t.elems (.slice a t.elems.length c)):
 RV D W [t] [.int .i64 t.kind,.int .i64 t.n,.int .i64 t.m,.bool t.va,.string t.name,.string t.tag,.slice a t.elems.length c]:=by
 rw[RV];exact⟨a,c,[],i6,h,by rw[RV]⟩
theorem RV.rc:∀{l:List GT} {xs:List Value} {o:Nat},RV D W l xs->(∀j u,xs[j]?=some u->W.cell? ⟨b,o+j,none⟩=some u)->RC D W l b o
 |[],_,_,_,_=>by rw[RC];trivial
 |t::l,xs,o,h,hc=>by
  rw[RV]at h;obtain⟨a,c,rest,rfl,hs,h⟩:=h;rw[RC];refine⟨?_,h.rc λj u hu=>?_⟩
  ·obtain⟨k,n,m,va,nm,tg,es⟩:=t;exact pW.2 ⟨_,hc 0 _ rfl,hc 1 _ rfl,hc 2 _ rfl,hc 3 _ rfl,hc 4 _ rfl,hc 5 _ rfl,hc 6 _ rfl,hs⟩
  ·have:=hc (7+j) u (by rw[jQr i6];simpa using hu);rw[show o+7+j=o+(7+j)by omega];exact this
theorem RC.rv:∀{l:List GT} {o:Nat},RC D W l b o->∃xs,RV D W l xs/\(∀j u,xs[j]?=some u->W.cell? ⟨b,o+j,none⟩=some u)
 |[],o,_=>⟨[],by rw[RV],i6⟩
 |t::l,o,h=>by
  rw[RC]at h;obtain⟨a,c,c0,c1,c2,c3,c4,c5,c6,hv⟩:=h.1.bR;obtain⟨a',c',e,hs⟩:=hv.bR;simp at e;obtain⟨rfl,rfl⟩:=e;obtain⟨xs,hx,hc⟩:=h.2.rv;refine⟨_++xs,by rw[RV];exact⟨a,c,xs,rfl,hs,hx⟩,λj u hu=>?_⟩;by_cases hj:j<7
  ·rw[jQq (by simpa using hj)]at hu
   match j,hj,hu with
   |0,_,hu=>simp at hu;subst hu;exact c0
   |1,_,hu=>simp at hu;subst hu;exact c1
   |2,_,hu=>simp at hu;subst hu;exact c2
   |3,_,hu=>simp at hu;subst hu;exact c3
   |4,_,hu=>simp at hu;subst hu;exact c4
   |5,_,hu=>simp at hu;subst hu;exact c5
   |6,_,hu=>simp at hu;subst hu;exact c6
  ·obtain⟨i,rfl⟩:∃i,j=7+i:=⟨j - 7,m9⟩;rw[jQr i6]at hu;have:=hc i u (by simpa using hu);rw[show o+(7+i)=o+7+i by omega];exact this
theorem yd{base:Nat}{l:List GT}(h:W.ownsRow base 25 7 v l.length xs)(hv:RV D W l xs)(hD:∀g,v.ownBlock=some g->D g):RS D W l v:=by
 rcases h.2 with⟨rfl,h0⟩|⟨g,cap,cur,rfl,hb,hg,hn,hm,hs,ht⟩
 ·have:l=[]:=jQe h0;subst this;exact ia.2 ⟨none,0,rfl,λ_=>rfl⟩
 ·by_cases hl:l=[]
  ·subst hl;exact ia.2 ⟨_,cap,rfl,λe=>by cases e⟩
  ·refine aN.2 (.inr ⟨hl,g,0,cap,rfl,hn,by simp only[maxLen]at hm;omega,hD g rfl,hv.rc λj u hu=>?_⟩);exact M36
theorem sg{base:Nat}(h:W.ownsRow base e size v k xs)(hb:Below n W W')(hn:∀g,v.ownBlock=some g->g<n):W'.ownsRow base e size v k xs:=by
 refine⟨h.1,?_⟩;obtain h0|⟨g,cap,cur,rfl,h1,h2,h3⟩:=h.2
 ·exact .inl h0
 ·exact .inr ⟨g,cap,cur,rfl,h1,(hb.block g (hn g rfl)).trans h2,h3⟩
theorem aw{w:World}{cs:Array Value}(hg:w.heap[B]?=some (.cells cs t (0,0)))(j:Nat)(v:Value):kT B (cs.setIfInBounds j v) t w (w.setCell ⟨B,j,none⟩ v):=by
 refine⟨?_,?_,?_,rfl,rfl,rfl⟩
 ·simp[World.setCell,Array.getElem?_modify,hg]
 ·intro b hb;simp[World.setCell,Array.getElem?_modify,Ne.symm hb]
 ·simp[World.setCell]
theorem kT.trans{cs Ek:Array Value}{a w:World}(h:kT B cs t a w)(h':kT B Ek t' w w2):kT B Ek t' a w2:=
 ⟨h'.here,λb hb=>(h'.other b hb).trans (h.other b hb),h'.size.trans h.size,h'.os.trans h.os,h'.tape.trans h.tape,h'.output.trans h.output⟩
theorem aea{w:World}(hg:w.heap[B]?=some (.cells #[o0,o1,o2,o3,o4,o5,o6] t (0,0)))(v0 v1 v2 v3 v4 v5 v6:Value):
 kT B #[v0,v1,v2,v3,v4,v5,v6] t w (((((((w.setCell ⟨B,0,none⟩ v0).setCell ⟨B,1,none⟩ v1).setCell ⟨B,2,none⟩ v2).setCell ⟨B,3,none⟩ v3).setCell ⟨B,4,none⟩ v4).setCell ⟨B,5,none⟩ v5).setCell ⟨B,6,none⟩ v6):=by
 have g0:kT B #[v0,o1,o2,o3,o4,o5,o6] t w (w.setCell ⟨B,0,none⟩ v0):=by
  have:=aw (w:=w) hg 0 v0;exact M150
 have h0:kT B #[v0,o1,o2,o3,o4,o5,o6] t w (w.setCell ⟨B,0,none⟩ v0):=g0;have g1:kT B #[v0,v1,o2,o3,o4,o5,o6] t (w.setCell ⟨B,0,none⟩ v0) ((w.setCell ⟨B,0,none⟩ v0).setCell ⟨B,1,none⟩ v1):=by
  have:=aw (w:=(w.setCell ⟨B,0,none⟩ v0)) h0.here 1 v1;exact M150
 have h1:kT B #[v0,v1,o2,o3,o4,o5,o6] t w ((w.setCell ⟨B,0,none⟩ v0).setCell ⟨B,1,none⟩ v1):=h0.trans g1;have g2:kT B #[v0,v1,v2,o3,o4,o5,o6] t ((w.setCell ⟨B,0,none⟩ v0).setCell ⟨B,1,none⟩ v1) (((w.setCell ⟨B,0,none⟩ v0).setCell ⟨B,1,none⟩ v1).setCell ⟨B,2,none⟩ v2):=by
  have:=aw (w:=((w.setCell ⟨B,0,none⟩ v0).setCell ⟨B,1,none⟩ v1)) h1.here 2 v2;exact M150
 have h2:kT B #[v0,v1,v2,o3,o4,o5,o6] t w (((w.setCell ⟨B,0,none⟩ v0).setCell ⟨B,1,none⟩ v1).setCell ⟨B,2,none⟩ v2):=h1.trans g2;have g3:kT B #[v0,v1,v2,v3,o4,o5,o6] t (((w.setCell ⟨B,0,none⟩ v0).setCell ⟨B,1,none⟩ v1).setCell ⟨B,2,none⟩ v2) ((((w.setCell ⟨B,0,none⟩ v0).setCell ⟨B,1,none⟩ v1).setCell ⟨B,2,none⟩ v2).setCell ⟨B,3,none⟩ v3):=by
  have:=aw (w:=(((w.setCell ⟨B,0,none⟩ v0).setCell ⟨B,1,none⟩ v1).setCell ⟨B,2,none⟩ v2)) h2.here 3 v3;exact M150
 have h3:kT B #[v0,v1,v2,v3,o4,o5,o6] t w ((((w.setCell ⟨B,0,none⟩ v0).setCell ⟨B,1,none⟩ v1).setCell ⟨B,2,none⟩ v2).setCell ⟨B,3,none⟩ v3):=h2.trans g3;have g4:kT B #[v0,v1,v2,v3,v4,o5,o6] t ((((w.setCell ⟨B,0,none⟩ v0).setCell ⟨B,1,none⟩ v1).setCell ⟨B,2,none⟩ v2).setCell ⟨B,3,none⟩ v3) (((((w.setCell ⟨B,0,none⟩ v0).setCell ⟨B,1,none⟩ v1).setCell ⟨B,2,none⟩ v2).setCell ⟨B,3,none⟩ v3).setCell ⟨B,4,none⟩ v4):=by
  have:=aw (w:=((((w.setCell ⟨B,0,none⟩ v0).setCell ⟨B,1,none⟩ v1).setCell ⟨B,2,none⟩ v2).setCell ⟨B,3,none⟩ v3)) h3.here 4 v4;exact M150
 have h4:kT B #[v0,v1,v2,v3,v4,o5,o6] t w (((((w.setCell ⟨B,0,none⟩ v0).setCell ⟨B,1,none⟩ v1).setCell ⟨B,2,none⟩ v2).setCell ⟨B,3,none⟩ v3).setCell ⟨B,4,none⟩ v4):=h3.trans g4;have g5:kT B #[v0,v1,v2,v3,v4,v5,o6] t (((((w.setCell ⟨B,0,none⟩ v0).setCell ⟨B,1,none⟩ v1).setCell ⟨B,2,none⟩ v2).setCell ⟨B,3,none⟩ v3).setCell ⟨B,4,none⟩ v4) ((((((w.setCell ⟨B,0,none⟩ v0).setCell ⟨B,1,none⟩ v1).setCell ⟨B,2,none⟩ v2).setCell ⟨B,3,none⟩ v3).setCell ⟨B,4,none⟩ v4).setCell ⟨B,5,none⟩ v5):=by
  have:=aw (w:=(((((w.setCell ⟨B,0,none⟩ v0).setCell ⟨B,1,none⟩ v1).setCell ⟨B,2,none⟩ v2).setCell ⟨B,3,none⟩ v3).setCell ⟨B,4,none⟩ v4)) h4.here 5 v5;exact M150
 have h5:kT B #[v0,v1,v2,v3,v4,v5,o6] t w ((((((w.setCell ⟨B,0,none⟩ v0).setCell ⟨B,1,none⟩ v1).setCell ⟨B,2,none⟩ v2).setCell ⟨B,3,none⟩ v3).setCell ⟨B,4,none⟩ v4).setCell ⟨B,5,none⟩ v5):=h4.trans g5;have g6:kT B #[v0,v1,v2,v3,v4,v5,v6] t ((((((w.setCell ⟨B,0,none⟩ v0).setCell ⟨B,1,none⟩ v1).setCell ⟨B,2,none⟩ v2).setCell ⟨B,3,none⟩ v3).setCell ⟨B,4,none⟩ v4).setCell ⟨B,5,none⟩ v5) (((((((w.setCell ⟨B,0,none⟩ v0).setCell ⟨B,1,none⟩ v1).setCell ⟨B,2,none⟩ v2).setCell ⟨B,3,none⟩ v3).setCell ⟨B,4,none⟩ v4).setCell ⟨B,5,none⟩ v5).setCell ⟨B,6,none⟩ v6):=by
  have:=aw (w:=((((((w.setCell ⟨B,0,none⟩ v0).setCell ⟨B,1,none⟩ v1).setCell ⟨B,2,none⟩ v2).setCell ⟨B,3,none⟩ v3).setCell ⟨B,4,none⟩ v4).setCell ⟨B,5,none⟩ v5)) h5.here 6 v6;exact M150
 have h6:kT B #[v0,v1,v2,v3,v4,v5,v6] t w (((((((w.setCell ⟨B,0,none⟩ v0).setCell ⟨B,1,none⟩ v1).setCell ⟨B,2,none⟩ v2).setCell ⟨B,3,none⟩ v3).setCell ⟨B,4,none⟩ v4).setCell ⟨B,5,none⟩ v5).setCell ⟨B,6,none⟩ v6):=h5.trans g6;exact h6
theorem eT{P:Program}{a:Act}{w:World}{Q:Exit->Act->World->Prop}(mX:o.guard=none)(ty:TypeId)(x y:Operand)(ho:o.op=.store ty x y)(B j:Nat)(v:Value)(hx:a.eval x=.pointer (some ⟨B,j,none⟩))(hy:a.eval y=v)(t:TypeId)(cur:Array Value)(hg:w.heap[B]?=some (.cells cur t (0,0)))(hi:(P.info? ty).map (·.size)=some v.cells.size)(h1:v.cells.all (·.oneCell')=true)(hl:j+v.cells.size<=cur.size)(cs:Array Value)(OF:cs=(cur.toList.take j++v.cells.toList++cur.toList.drop (j+v.cells.size)).toArray)(h:∀w2,kT B cs t w w2->wpList P ops Q rest (a.put o.dst undef) w2):wpList P ops Q (o::rest) a w:=
 wpList_plain mX λ_ hK=>by
  have IP:(storeVar ty ⟨B,j,none⟩ v).run P w=.ok () (w.setRow B cs):=by
   have:=run_storeCells_at P B j t v.cells.toList 0 cur w hg (by simpa using hl) (λu hu=>by have:=Array.all_eq_true_iff_forall_mem.1 h1 u (by simpa using hu);exact this);cases hq:P.info? ty with
   |none=>simp[hq]at hi
   |some i=>
    have hs:i.size=v.cells.size:=by simpa[hq]using hi
    subst OF;simp only[Nat.add_zero,Array.length_toList]at this;simp[storeVar,sizeOf,typeInfo,hq,hs,this]
  unfold Oper.wp execOp;simp only[ho,hx,hy,Instr.storeAt,Instr.sureAddr,jRp,Sem.run_pure,jR8,IP];exact hK _ _ (h _ (Bo hg (by subst OF;simp;omega)))
theorem uk{w:World}{v8:Value}(h:w.heap[B]?=some (.cells #[v0,v1,v2,v3,v4,v5,v6,v7,v8] t f)):
 w.cell? ⟨B,0,none⟩=some v0/\w.cell? ⟨B,1,none⟩=some v1/\w.cell? ⟨B,2,none⟩=some v2/\w.cell? ⟨B,3,none⟩=some v3/\w.cell? ⟨B,4,none⟩=some v4/\w.cell? ⟨B,5,none⟩=some v5/\w.cell? ⟨B,6,none⟩=some v6/\w.cell? ⟨B,7,none⟩=some v7/\w.cell? ⟨B,8,none⟩=some v8:=by
 simp[World.cell?,h]
theorem nH{w:World}(h:w.heap[B]?=some (.cells #[v0,v1,v2,v3,v4,v5,v6,v7] t f)):
 w.cell? ⟨B,0,none⟩=some v0/\w.cell? ⟨B,1,none⟩=some v1/\w.cell? ⟨B,2,none⟩=some v2/\w.cell? ⟨B,3,none⟩=some v3/\w.cell? ⟨B,4,none⟩=some v4/\w.cell? ⟨B,5,none⟩=some v5/\w.cell? ⟨B,6,none⟩=some v6/\w.cell? ⟨B,7,none⟩=some v7:=by
 simp[World.cell?,h]
theorem RV.setName{t:GT}(s:ByteArray)(h:RS D W t.elems (.slice a t.elems.length c)):
 RV D W [t.setName s] [.int .i64 t.kind,.int .i64 t.n,.int .i64 t.m,.bool t.va,.string s,.string t.tag,.slice a t.elems.length c]:=by
 obtain⟨k,n,m,va,nm,tg,l⟩:=t;rw[RV];exact⟨a,c,[],rfl,h,by rw[RV]⟩
theorem iC(w:World)(cs:List Value)(t:TypeId):∀j u,cs[j]?=some u->(w.alloc (.cells cs.toArray t)).cell? ((⟨w.heap.size,0,none⟩:Addr).add j)=some u:=by
 intro j u hu;have xR:(⟨w.heap.size,0,none⟩:Addr).add j=⟨w.heap.size,j,none⟩:=by unfold Addr.add;split<;>simp_all
 rw[xR,cell_of_row _ w.heap.size j cs.toArray t (0,0) (ak w _)];simpa using hu
theorem Cu:(Tryz.prog.info? 25).map (λi=>(i.zero,i.size,i.bytes))=some (some (.agg #[.int .i64 0,.int .i64 0,.int .i64 0,.bool false,.string es,.string es,.slice none 0 0]),7,88):=g9
theorem E9{a:Act}{w:World}{Q:Exit->Act->World->Prop}(mX:o.guard=none)(s x:Operand)(ho:o.op=.call {callee:=.builtin .append,args:=#[s,x],argTypes:=#[23,23]})(base:Nat)(v:Value)(l:List GT)(xs:List Value)(hs:a.eval s=v)(aL:w.ownsRow base 25 7 v l.length xs)(D:Nat->Prop)(nr:RV D w l xs)(ad:Addr)(c:Nat)(l':List GT)(news:List Value)(hx:a.eval x=.slice (some ad) l'.length c)(Zw:RV D w l' news)(Cy:∀j u,news[j]?=some u->w.cell? (ad.add j)=some u)(cF:l.length+l'.length<=1099511627776)(cS:base<=w.heap.size)(hD:∀b,D b->b<w.heap.size/\some b≠v.ownBlock)(h:∀v' w' xs',w'.ownsRow base 25 7 v' (l++l').length xs'->RV D w' (l++l') xs'->w.grownBy w' v.ownBlock->wpList prog ops Q rest (a.put o.dst v') w'):wpList prog ops Q (o::rest) a w:=by
 obtain⟨i0,pn,lA,gj,j7⟩:=info_parts Cu;refine wpList_append_own w mX s x 23 ho base 25 i0 _ 7 88 underlying23 pn lA gj j7 rfl m9 v l.length xs hs aL ad l'.length c news hx Zw.length Cy Zw.one
  (by simp only[maxLen];omega) m9 cS λv' w' h1 h2 _=>h v' w' (xs++news) (by rw[jQo];exact h1) ?_ h2
 have hm:au D D w w':=λb hb=>⟨hb,h2.block b (hD b hb).1 (hD b hb).2⟩;exact RV.append (Zw.move hm) (nr.move hm)
def qn(S:Sg)(base:Nat)(W:World)(l:List (Option Tm))(v:Value):Prop:=∃ps,W.ownsRow base 152 1 v l.length ps/\All2 (TmV S W) l ps
def EO(E:Nat->Prop)(v:Value):Nat->Prop:=λb=>E b\/v.ownBlock=some b
theorem yK{base:Nat}(h:W.ownsRow base e 1 v n xs)(hs:∀g,v.ownBlock=some g->S g=none):eE (Rn S W) W xs v:=by
 have hl:=h.1;rw[Nat.mul_one]at hl;rcases h.2 with⟨rfl,h0⟩|⟨g,cap,cur,rfl,hb,hg,hn,hm,hc,ht⟩
 ·exact M170
 ·by_cases hx:xs=[]
  ·subst hx;simp at hl;subst hl;exact M110
  ·refine .inr ⟨hx,g,0,cap,by rw[hl],m9,by simp only[maxLen]at hm;omega,⟨hs g rfl,_,_,_,hg⟩,λj u hu=>?_⟩;exact M36
theorem Hf{base:Nat}(h:W.ownsRow base 152 1 v n xs)(hs:∀g,v.ownBlock=some g->S g=none):eE (Qq S W) W xs v:=by
 rcases yK h hs with hr|⟨h1,b,o,c,rfl,h3,h4,h5,h7⟩
 ·exact .inl hr
 ·refine .inr ⟨h1,b,o,c,rfl,h3,h4,⟨h5.1,?_⟩,h7⟩;rcases h.2 with⟨e,_⟩|⟨g,cap,cur,e,_,hg,_⟩
  ·cases e
  ·simp at e;obtain⟨⟨rfl, -⟩, -⟩:=e;exact⟨_,_,hg⟩
theorem qn.tl{base:Nat}(h:qn S base W l v)(hs:∀g,v.ownBlock=some g->S g=none):lS S W l v:=by
 obtain⟨ps,h1,h2⟩:=h;exact⟨ps,Hf h1 hs,h2⟩
theorem qn.base{base:Nat}(h:qn S base W l v)(hb:base'<=base):qn S base' W l v:=by
 obtain⟨ps,h1,h2⟩:=h;exact⟨ps,⟨h1.1,h1.2.imp id λ⟨g,cap,cur,e,k1,k2⟩=>⟨g,cap,cur,e,jQd hb k1,k2⟩⟩,h2⟩
theorem qn.lt{base:Nat}(h:qn S base W l v):∀g,v.ownBlock=some g->base<=g/\g<W.heap.size:=by
 obtain⟨ps,h1,h2⟩:=h;intro g hg;rcases h1.2 with⟨rfl,_⟩|⟨g',cap,cur,rfl,k1,k2,k3⟩
 ·simp[Value.ownBlock]at hg
 ·simp[Value.ownBlock]at hg;subst hg;exact⟨k1,jQ2 k2⟩
theorem qn.fr{base:Nat}(h:qn S base W l v)(hf:bZ X S rs r W W')(hs:∀g,v.ownBlock=some g->S g=none):qn S base W' l v:=by
 obtain⟨ps,h1,h2⟩:=h;exact⟨ps,Mp hf h1 hs,h2.imp λ_ _ hp=>hp.move hf⟩
theorem qn.ng{base:Nat}(h:qn S base W l v)(hf:iN E1 W W')(hs:∀g,v.ownBlock=some g->¬E1 g):qn S base W' l v:=by
 obtain⟨ps,h1,h2⟩:=h;exact⟨ps,JZ hf h1 hs,h2.imp λ_ _ hp=>hp.ng hf⟩
theorem qn.form{base:Nat}(h:qn S base W l v):∃a c,v=.slice a l.length c:=by
 obtain⟨ps,h1,h2⟩:=h;rcases h1.2 with⟨rfl,h0⟩|⟨g',cap,cur,rfl,k1,k2,k3⟩
 ·exact⟨none,0,by rw[h0]⟩
 ·exact⟨_,_,rfl⟩
theorem TmV.one{x:Option Tm}(h:TmV S W x p):p.oneCell'=true:=by
 cases x with
 |none=>cases h;rfl
 |some tm=>obtain⟨b,v,ty,rfl,_⟩:=h;rfl
theorem All2.app{R:α->β->Prop}{l':List α}{m':List β}(h':All2 R l' m'):∀{l:List α} {m:List β},All2 R l m->All2 R (l++l') (m++m')
 |[],[],_=>h'
 |_::l,_::m,h=>⟨h.1,All2.app h' (l:=l) (m:=m) h.2⟩
 |[],_::_,h=>h.elim
 |_::_,[],h=>h.elim
theorem lS.one:∀{l:List (Option Tm)} {ps:List Value},All2 (TmV S W) l ps->∀u∈ps,u.oneCell'=true
 |[],[],_,u,hu=>by simp at hu
 |_::l,_::m,h,u,hu=>by
  rcases jQn.1 hu with rfl|hu
  ·exact h.1.one
  ·exact lS.one (l:=l) h.2 u hu
 |[],_::_,h,_,_=>h.elim
 |_::_,[],h,_,_=>h.elim
theorem ET:(Tryz.prog.info? 152).map (λi=>(i.zero,i.size,i.bytes))=some (some (.pointer none),1,8):=g9
theorem QJ:(Tryz.prog.info? 4).map (λi=>(i.zero,i.size,i.bytes))=some (some (.bool false),1,1):=g9
theorem sf{a:Act}{w:World}{Q:Exit->Act->World->Prop}(mX:o.guard=none)(s x:Operand)(ho:o.op=.call {callee:=.builtin .append,args:=#[s,x],argTypes:=#[119,119]})(base:Nat)(v:Value)(l:List (Option Tm))(hs:a.eval s=v)(aL:qn S base w l v)(l':List (Option Tm))(ad:Addr)(c:Nat)(hx:a.eval x=.slice (some ad) l'.length c)(ns:List Value)(vY:All2 (TmV S w) l' ns)(hc:∀j u,ns[j]?=some u->w.cell? (ad.add j)=some u)(cF:l.length+l'.length<=1099511627776)(cS:base<=w.heap.size)(h:∀v' w',qn S base w' (l++l') v'->iN (λb=>v.ownBlock=some b) w w'->(v'.ownBlock=v.ownBlock\/v'.ownBlock=some w.heap.size)->wpList prog ops Q rest (a.put o.dst v') w'):wpList prog ops Q (o::rest) a w:=by
 obtain⟨i0,pn,lA,gj,j7⟩:=info_parts ET;obtain⟨ps,h1,h2⟩:=aL;refine wpList_append_own_at w mX s x 119 ho base 152 i0 _ 1 8 underlying119 pn lA gj j7 rfl m9 v l.length ps hs h1 ad l'.length c ns hx (by rw[Nat.mul_one];exact vY.len.symm) hc (lS.one vY)
  (by simp only[maxLen];omega) m9 cS λv' w' k1 k2 _ k4=>?_
 have hp:=iN.grown k2 h1 i5 i5;refine h v' w' ⟨ps++ns,by rw[jQo];exact k1,?_⟩ hp k4;exact(vY.imp λ_ _ K6=>K6.ng hp).app (h2.imp λ_ _ K6=>K6.ng hp)
section
variable{obj:Nat->Nat}
def yO(w:List ah)(S:Sg)(D:Nat->Prop)(obj:Nat->Nat)(rs:List Nat)(K:Nat)(E:Nat->Prop)(r:Nat)(W:World)(l:List (Option Tm))(e:Ending)(W':World):Prop:=
 ∃v,e=.returned v/\qn S W.heap.size W' l v/\Ok w S D obj rs K (EO E v) r W'/\Fr S rs r W W'
theorem j1(hE:Env NS Q w rs cs)(bD:Ok w S D obj rs K E r W):Calls prog 52 #[] W (yO w S D obj rs K E r W [some fu]):=by
 have HO:=Z bD;clear bD;go_enter func52,ntmps52;go_wp2_with fail;go_ret;have hS:∀b,W.heap.size<=b->S b=none:=λb hb=>by
  cases hs:S b with
  |none=>rfl
  |some s=>have:=HO.1.gh.lI b s hs;omega
 refine⟨_,rfl,⟨[ptr W.heap.size],⟨rfl,.inr ⟨W.heap.size+1,1,#[ptr W.heap.size],?_,m9,?_,i6,by simp only[maxLen];omega,rfl,rfl⟩⟩,⟨W.heap.size,.nilIface,154,rfl,hS _ (jQ0 _),?_,.inl rfl,rfl⟩,trivial⟩,?_,Below.fr (dT W _ _)⟩
 ·simp[fu]
 ·rw[<-jQ3 W (.cells #[.bool false,.nilIface] 154)];exact ak _ _
 ·exact aj (an (W.alloc (.cells #[.bool false,.nilIface] 154)) _) (ak W _) i6
 ·exact HO.1.new hE.hs (dT W _ _) λb hb=>hb.imp id λh=>by simp[Value.ownBlock]at h;subst h;simp
def EN(E:Nat->Prop)(ub:Nat)(v:Value):Nat->Prop:=λb=>E b\/b=ub\/v.ownBlock=some b
abbrev UsV(wr:World)(ub:Nat)(us:List Bool):Prop:=wr.heap[ub]?=some (.cells (us.map Value.bool).toArray 4 (0,0))
structure DX(w:List ah)(S:Sg)(D:Nat->Prop)(obj:Nat->Nat)(rs:List Nat)(K:Nat)(E:Nat->Prop)(r:Nat)(W wr:World)(ub:Nat)(us:List Bool)(acc:List (Option Tm))(v:Value):Prop where
 ok:Ok w S D obj rs K (EN E ub v) r wr
 fr:Fr S rs r W wr
 used:UsV wr ub us
 ubl:W.heap.size<=ub
 row:qn S W.heap.size wr acc v
theorem DX.sn(h:DX w S D obj rs K E r W wr ub us acc v):S ub=none/\∀g,v.ownBlock=some g->S g=none:=⟨(h.ok.own ub (.inr (.inl rfl))).2.2,λg hg=>(h.ok.own g (.inr (.inr hg))).2.2⟩
theorem DX.go(h:DX w S D obj rs K E r W wr ub us acc v)(g1:Ok w S D obj rs K (EN E ub v) r w')(g2:Fr S rs r wr w'):DX w S D obj rs K E r W w' ub us acc v:=
 ⟨g1,h.fr.trans g2,g2.obj h.sn.1 h.used,h.ubl,h.row.fr g2 h.sn.2⟩
theorem DX.below(h:DX w S D obj rs K E r W wr ub us acc v)(hE:Env NS Q w rs cs)(hb:Below wr.heap.size wr w'):DX w S D obj rs K E r W w' ub us acc v:=
 h.go (h.ok.below hE.hs hb) (Below.fr hb)
theorem DX.ne(h:DX w S D obj rs K E r W wr ub us acc v):v.ownBlock≠some ub:=by
 obtain⟨ps,h1,h2⟩:=h.row;intro e;rcases h1.2 with⟨rfl,_⟩|⟨g',cap,cur,rfl,k1,k2,k3⟩
 ·simp[Value.ownBlock]at e
 ·simp[Value.ownBlock]at e;subst e;have:=h.used;unfold UsV at this;rw[k2]at this;simp at this
theorem DX.mark(h:DX w S D obj rs K E r W wr ub us acc v)(hE:Env NS Q w rs cs)(hp:kT ub (zU.map Value.bool).toArray 4 wr w'):DX w S D obj rs K E r W w' ub zU acc v:=by
 have hv:=iN.put hp λEk t' f hc=>by rw[h.used]at hc;cases hc;decide
 exact⟨h.ok.ng hE.hs hv λb hb=>.inr (.inl hb),h.fr.ng hv λb hb=>by subst hb;exact h.ubl,hp.here,h.ubl,h.row.ng hv λg hg e=>h.ne (by rw[<-e];exact hg)⟩
theorem DX.add(h:DX w S D obj rs K E r W wr ub us acc v)(hE:Env NS Q w rs cs)(hr:qn S W.heap.size w' xJ v')(hp:iN (λb=>v.ownBlock=some b) wr w')(hv:v'.ownBlock=v.ownBlock\/v'.ownBlock=some wr.heap.size):
 DX w S D obj rs K E r W w' ub us xJ v':=by
 refine⟨h.ok.step hE.hs hp (λb hb=>.inr (.inr hb)) (λb hb=>?_),h.fr.ng hp λb hb=>(h.row.lt b hb).1,(hp.block ub (jQ2 h.used) λe=>h.ne e).trans h.used,h.ubl,hr⟩;obtain hb|hb|hb:=hb
 ·exact .inl (.inl hb)
 ·exact .inl (.inr (.inl hb))
 ·obtain e|e:=hv
  ·exact .inl (.inr (.inr (e▸hb)))
  ·rw[e]at hb;cases hb;exact .inr ⟨jQ0 _,(hr.lt _ e).2⟩
theorem MB{a:Act}{w:World}{Q:Exit->Act->World->Prop}(mX:o.guard=none)(x y:Operand)(ho:o.op=.store 4 x y)(B j:Nat)(f:Bool)(hx:a.eval x=.pointer (some ⟨B,j,none⟩))(hy:a.eval y=.bool f)(us:List Bool)(hg:UsV w B us)(hj:j<us.length)(h:∀w2,kT B ((us.set j f).map Value.bool).toArray 4 w w2->wpList prog ops Q rest (a.put o.dst undef) w2):wpList prog ops Q (o::rest) a w:=by
 refine eT mX 4 x y ho B j (.bool f) hx hy 4 _ hg g9 (by simp[Value.cells,Value.oneCell']) (by simp[Value.cells];omega) _ ?_ h;have hc:(Value.bool f).cells=#[.bool f]:=rfl;rw[hc]
 congr 1
 simp only[List.map_set,Array.toList,List.size_toArray,List.length_cons,List.length_nil];rw[List.set_eq_take_append_cons_drop,jQ7 (by simpa using hj)];simp
end
section
variable{obj:Nat->Nat}
theorem UsV.cell(h:UsV wr ub us){u:Bool}(hu:us[j]?=some u):wr.cell? ⟨ub,j,none⟩=some (.bool u):=by
 simp[World.cell?,h,hu]
theorem DX.post(h:DX w S D obj rs K E r W wr ub us acc v):yO w S D obj rs K E r W acc (.returned v) wr:=
 ⟨v,rfl,h.row,h.ok.drop λ_ hb=>hb.imp id .inr,h.fr⟩
theorem Cl(hE:Env NS Q w rs cs)(hI:cO NS Q w S D obj rs K r)(hB:2*B<=r)(bD:Ok w S D obj rs K E r W)(hl:lS S W l sl)(fQ:TL (jH NS Q w rs B) l)(cF:l.length<=1099511627776):
 Calls prog 178 #[sl] W (yO w S D obj rs K E r W (norm (FF w K) w l)):=by
 obtain⟨a,c,rfl⟩:=hl.form;obtain⟨HL,HO,HI,gJ⟩:=Z4 hl bD hI hE;clear hl bD hI hE;obtain⟨i0,pn,lA,gj,j7⟩:=info_parts QJ;have Wj:l.length<=maxLen:=by simp only[maxLen];omega
 go_enter func178,ntmps178;go_wp2_with (at_make;refine wpList_make_full _ rfl _ _ 318 rfl W.heap.size 4 i0 _ 1 underlying318 pn lA gj _ _ _ _ l.length rfl rfl rfl rfl (by rw[j7];omega) Wj (jQ0 _) ?_);intro w1 oQ hg1;have ar:Below W.heap.size W w1:=(jQ5 _ _).grown hg1 (jQ0 _) (λ_ h=>by cases h);have cH:DX w S D obj rs K E r W w1 W.heap.size (List.replicate l.length false) [] (.slice none 0 0):=by
  replace oQ:w1.ownsRow W.heap.size 4 1 (.slice (some ⟨W.heap.size,0,none⟩) l.length l.length) l.length (List.replicate l.length (.bool false)):=by
   have:=oQ;rw[<-toList_madeCells_one,<-Nat.mul_one l.length];exact M150
  rcases oQ.2 with⟨h0,_⟩|⟨g,cap,cur,e,k1,k2,k3,k4,k5,k6⟩
  ·cases h0
  ·simp at e;obtain⟨rfl,rfl⟩:=e;have Cv:cur=((List.replicate l.length false).map Value.bool).toArray:=by
    have hs:cur.toList.length=l.length*1:=by simpa using k5
    rw[<-hs,List.take_length]at k6;rw[List.map_replicate,<-k6]
   refine⟨HO.1.new gJ.1.hs ar λb hb=>hb.imp id λh=>?_,Below.fr ar,by rw[UsV,<-Cv];exact k2,jQ0 _,⟨[],jR9 _ _ _ _,trivial⟩⟩;obtain h|h:=h
   ·subst h;exact⟨jQ0 _,jQ2 k2⟩
   ·simp[Value.ownBlock]at h
 have eF:=Z cH;clear cH ar oQ hg1 pn lA gj j7 Wj;go_wp2_with fail
 go_loopg [4,16] l.length (λgg s4 s16 wr=>∃(kk:Nat) (us:List Bool) (acc:List (Option Tm)),kk<=l.length/\l.length - kk<=gg/\s16=.int .i64 kk/\us.length=l.length/\acc.length<=kk/\Aside (DX w S D obj rs K E r W wr W.heap.size us acc s4)/\Aside (nu (FF w K) w l (qi l us) kk acc))
 case atStart=>exact⟨0,_,[],jQc _,m9,rfl,i6,jQ0 _,eF.1,by simp only[Aside,Un];exact nu.start l⟩
 case round=>
  obtain⟨kk,us,acc,ez,hg,rfl,hul,afz,N,I⟩:=hrel;by_cases aM:kk<l.length
  ·have aR:(kk:Int)<(l.length:Int):=m9
   obtain⟨x,hx⟩:∃x,l[kk]?=some x:=⟨l[kk],by simp[aM]⟩;obtain⟨u,hu⟩:∃u,us[kk]?=some u:=⟨us[kk]' m9,by simp[hul,aM]⟩;obtain⟨b,o,p,rfl,hs,hc,ht⟩:=(HL.1.move N.out.fr).nth hx;obtain⟨va,vc,rfl⟩:=N.out.row.form;have jL:=N.out.used.cell hu;have hm:=JI hx hu;cases x with
   |none=>
    cases ht;have DH:=Z (I.out.none (by simpa using hm));clear hx hm hu;exact M119
   |some x=>
    obtain⟨b1,v1,rfl,s1,c1,c2,n1,y1⟩:=ht.open;cases u with
    |true=>
     have DH:=Z (I.out.none (by simpa using hm));clear hx hm hu n1 y1;exact M119
    |false=>
     have gP:=Cc hul;obtain⟨Ws,HM,HT,HTT⟩:=Z4 (rI.start (id:=FF w K) (w:=w) (x:=x) (m:=qi l us) (i:=kk) m9) (show(qi l us)[kk]?=some (some x)from hm) ht (show TT (jH NS Q w rs B) x from TO.some.1 (fQ.nth hx));clear hx hm hu n1 y1 ht gP c1 c2;go_wp2_with fail;clear jL
     go_loopg [6,7] l.length (λgg s6 s7 wr=>∃(jj:Nat) (zU:List Bool) (y:Tm),kk+1<=jj/\jj<=l.length/\l.length - jj<=gg/\s7=.int .i64 jj/\zU.length=l.length/\Aside (DX w S D obj rs K E r W wr W.heap.size zU acc (.slice va acc.length vc))/\Aside (TmV S wr (some y) s6)/\Aside (TT (jH NS Q w rs B) y)/\Aside (rI (FF w K) w (absorb (FF w K) w x ((qi l us).drop (kk+1))) kk (qi l zU) y jj))
     case atStart=>exact⟨kk+1,us,x,jQ0 _,m9,m9,by go_num,hul,N.out,HT.1,HTT.1,Ws.1⟩
     case round=>
      obtain⟨jj,zU,y,hkj,X1,Dp,rfl,J9,N2,T2,TT2,A2⟩:=hrel;obtain⟨b3,v3,rfl,s3,c3,c4,n3,y3⟩:=T2.out.open;have gP:=Cc J9;by_cases ee:jj<l.length
      ·have qY:(jj:Int)<(l.length:Int):=m9
       obtain⟨z,hz⟩:∃z,l[jj]?=some z:=⟨l[jj],by simp[ee]⟩;obtain⟨u2,qq⟩:∃u,zU[jj]?=some u:=⟨zU[jj]' m9,by simp[J9,ee]⟩;obtain⟨b4,o4,p4,e4,nU,hc4,ht4⟩:=(HL.1.move N2.out.fr).nth hz;simp at e4;obtain⟨rfl,rfl⟩:=e4;have GG:=N2.out.used.cell qq;have kS:=JI hz qq;cases z with
       |none=>
        cases ht4;have DH:=Z (A2.out.none (by simpa using kS));clear hz kS qq n3 y3;exact M108
       |some z=>
        obtain⟨b5,v5,rfl,s5,c5,c6,n5,y5⟩:=ht4.open;cases u2 with
        |true=>
         have DH:=Z (A2.out.none (by simpa using kS));clear hz kS qq n3 y3 n5 y5;exact M108
        |false=>
         have rG:=Z (show(qi l zU)[jj]?=some (some z)from kS);have htz:TT (jH NS Q w rs B) z:=TO.some.1 (fQ.nth hz);have HTU:=Z (xt (id:=FF w K) (w:=w) TT2.out htz);have ag:=GV gJ.1 HI.1 hB N2.out.ok T2.out ht4 TT2.out htz;generalize tL:unionT (FF w K) w y z=un at ag HTU;obtain⟨un1,un2⟩:=un;have HUN:=Z tL;clear hz kS qq n3 y3 n5 y5 htz tL;go_wp2_with fail;refine ag.mono ?_;rintro e w' ⟨v,rfl,⟨q1,q2,rfl,t1,t2⟩,g1,g2⟩;have N3:=N2.out.go g1 g2;obtain⟨b7,v7,rfl,s7,c7,c8,n7,y7⟩:=t1.open;cases un2 with
         |some z'=>
          obtain⟨b8,v8,rfl,s8,c9,c10,n8,y8⟩:=t2.open;obtain⟨DH,HN3,Vm⟩:=Z3 (A2.out.cR rG.1 HUN.1) N3 (T2.out.move g2);clear ag g1 g2 t1 t2 n7 y7 n8 y8 c7 c8 c9 c10 N3;go_wp2_with fail;go_roundg (l.length - (jj+1))
          case measure=>omega
          case rel=>exact⟨jj+1,zU,y,m9,m9,m9,by go_num,J9,HN3.1,Vm.1,TT2.out,DH.1⟩
         |none=>
          cases t2;cases PZ:un1.jg with
          |none=>
           cases n7 PZ;have hR:=A2.out.all rG.1 HUN.1 PZ;have jn:=Z (I.out.all HM.1 hR);have ag:=j1 gJ.1 N3.ok;have Ka:=Z N3.fr;have XB:=Z N3.fr.size;clear g1 g2 t1 n7 y7 PZ hR N3;go_wp2_with fail;refine ag.mono ?_;rintro e w6 ⟨v,rfl,k1,k2,k3⟩;have HP:=Z (show yO w S D obj rs K E r W (norm (FF w K) w l) (.returned v) w6 from⟨v,rfl,by rw[jn.1];exact k1.base XB.1,k2.drop (λb hb=>hb.imp .inl id),Ka.1.trans k3⟩);clear ag k1 k2 k3;exact M13
          |some q=>
           obtain⟨T8,d8,rfl,_⟩:=y7 q PZ;obtain⟨DH,HN3,Vm⟩:=Z3 (A2.out.join rG.1 HUN.1 (by rw[PZ];simp)) N3 t1;have LZ:jj<zU.length:=m9
           clear ag g1 g2 t1 n7 y7 N3 PZ;go_wp2_with (refine MB rfl _ _ rfl W.heap.size jj true rfl rfl zU HN3.1.used LZ ?_);intro w8 WC;replace WC:kT W.heap.size ((zU.set jj true).map Value.bool).toArray 4 w' w8:=by rw[List.map_set];exact WC
           have N8:=Z (HN3.1.mark gJ.1 WC);have T8':=Z (Vm.1.ng (iN.put WC λEk t' f hc=>by rw[HN3.1.used]at hc;cases hc;decide));clear WC;go_wp2_with fail;go_roundg (l.length - (jj+1))
           case measure=>omega
           case rel=>exact⟨jj+1,zU.set jj true,un1,m9,m9,m9,by go_num,by simp[J9],N8.1,T8'.1,HTU.1.1,by simp only[Aside];rw[Um J9];exact DH.1⟩
      ·have qY:¬(jj:Int)<(l.length:Int):=m9
       have LZ:jj=(qi l zU).length:=m9
       have hA:=A2.out;rw[LZ]at hA;have DH:=Z (I.out.some HM.1 hA.done (by rw[gP,Cc hul]));have BA:=Z (an wr (.cells #[ptr b3] 152));have N4:=Z (N2.out.below gJ.1 BA.1);have TV:=Z (show All2 (TmV S (wr.alloc (.cells #[ptr b3] 152))) [some y] [ptr b3]from⟨T2.out.move (X:=Wc) (rs:=rs) (r:=r) (Below.fr BA.1),trivial⟩);have cS:W.heap.size<=(wr.alloc (.cells #[ptr b3] 152)).heap.size:=N4.1.fr.size;have kj:acc.length+1<=1099511627776:=m9
       clear hA n3 y3 gP;go_wp2_with (at_builtin;refine sf rfl _ _ rfl W.heap.size _ acc rfl N4.1.row [some y] ⟨wr.heap.size,0,none⟩ _ rfl [ptr b3] TV.1 (cell_one_new _ _ _) kj cS ?_);intro v9 w9 Za CP ha9;have N9:=Z (N4.1.add gJ.1 Za CP (by rw[jQ3];exact ha9));clear Za CP ha9;go_wp2_with fail;go_roundg (l.length - (kk+1))
       case measure=>omega
       case rel=>exact⟨kk+1,zU,acc++[some y],m9,m9,by go_num,J9,by simp;omega,N9.1,DH.1⟩
  ·have aR:¬(kk:Int)<(l.length:Int):=m9
   have hk:kk=l.length:=m9
   subst hk;have hI:=I.out.done;subst hI;have HP:=Z N.out.post;exact M13
end
end Go.Proofs.YtabjfnkfocnklaaGreatDoor
