import Derived.LoopIn
import Derived.LoopNIn
import Derived.OwnWalkIn
import Derived.RangeFuncBound
import Derived.RangeFuncCalls
import Derived.RangeFuncLeaves
import Derived.RangeFuncNested
import Derived.Shelf.RegionOpen
import Derived.TacticsInMore
import Derived.Test.YtabjfnkfocnklaaGreatDoorA13
set_option linter.all false
set_option maxHeartbeats 16000000
set_option maxRecDepth 20000
namespace Go.Proofs.YtabjfnkfocnklaaGreatDoor
open Go Go.RowKit Go.Lib S P Tryz Go.Shelf
variable{aO eo fT σ:BS}{B:Bl}{e t x:GT}{Q:GT->Prop}{NS:List ByteArray}{l:List GT}{cs rs:List Nat}{ps qs xs:List Value}{w:List ah}{K N b b0 base c kk m n r r':Nat}{obj:Nat->Nat}{D D' DI E X:Nat->Prop}{Y:Prop}{S S':Sg}{fv p tv v:Value}{W W' W0 W1 W2 w' wr:World}
theorem M113(h:Y:=by
 have aR:¬(kk:Int)<(iw.length:Int):=m9
 have hA:=A5.out;rw[jQf m9]at hA;have HP:=Z (N5.out.yes HM.1 HS.1 (vD.1.trans hA.symm));clear hA;exact M13):Y:=h
theorem M115(h:Y:=by
 have iW:tid (az w t).kind=131:=by rw[hk];rfl
 rw[iW];clear iW;have dB:=aY 131 (ptr b3) 37 w4 i5;have jY:=ed 131 (ptr b3) 37 w4 i5;exact M51):Y:=h
theorem M116(h:Y:=by
 have iW:tid (az w t).kind=135:=by rw[hk];rfl
 rw[iW];clear iW;have dB:=aY 135 (ptr b3) 37 w4 i5;have dn:=aT 135 (ptr b3) 37 w4 i5;exact M51):Y:=h
theorem M165(h:Y:=by
 rcases bF.2 with⟨rfl,_⟩|⟨g',cap,cur,rfl,_⟩
 ·exact⟨_,_,_,rfl⟩
 ·exact⟨_,_,_,rfl⟩):Y:=h
theorem M17(h:Y:=by
 have iZ:(fs w K).cmp t d=false:=by rw[Et.1];unfold bX;simp[hk,isIf]
 have bW:=bJ es none 0 0 w4;have vD:=Z iZ;clear iZ oE eY hU hk;go_wp2_with fail;refine bW.mono ?_;rintro e' w6 ⟨q6,rfl,gS⟩;have HP:=Z ((N.1.below HE.1 gS).no HM.1 q6 vD.1);clear gS bW;exact M13):Y:=h
theorem M183(h:Y:=by
 have HP:=Z ((N.1.go g1 g2 vE).yes HM.1 HS.1 (vD.1.trans yY));clear g1 g2 vE yY;exact M13):Y:=h
theorem M185(h:Y:=by
 have HP:=Z ((N.1.go XX XW (k3 rfl)).yes HM.1 HS.1 F1);clear k1 k2 k3 XW XX F1;exact M13):Y:=h
theorem M204(h:Y:=by
 cases h:S b7 with
 |none=>rfl
 |some s=>exact absurd Rf (N5.out.ok.gh.rS b7 s h)):Y:=h
theorem M24(h:Y:=by
 have na:=Z bk;clear ih hk hn hp cG hv qj dr hs cz hl bk eR ar;go_enter func28,ntmps28;go_wp2_with fail;refine ag.mono ?_;rintro e' w' ⟨u,aO,rfl,cq,hu⟩;have HP:=Z (show dC NS Q w K B DI σ W (nds t) (λu aO _=>dq aO.S u t) (.returned u) w' from⟨u,aO,rfl,(HM.1.trans cq).more (by have:=na.1;omega),hu⟩);clear ag cq hu;exact M13):Y:=h
theorem M29(h:Y:=by
 have iW:tid (az w t).kind=87:=by rw[hk];rfl
 rw[iW];clear iW;have ql:PT NS Q w 0 (az w t):=M74
 have jC:=aW (t:=az w t) m9 m9 m9 m9;have ez:(aG (az w t)).kind=(az w t).kind:=aI m9;obtain⟨g1,g2⟩:=A0 ql hk;obtain⟨info,nm,aZ⟩:=(N.1.ok.gh.node b3 _ eY).1 (by rw[ez];exact hk);have jF:(aG (az w t)).n=(az w t).n:=by rw[jC];rfl
 rw[jF]at aZ;have c0:w4.cell? ⟨b3,0,none⟩=some (.int .i64 ((az w t).n+1)):=by simp[World.cell?,aZ]
 have hz:((az w t).n+1==25)=false:=by simp;omega
 have iZ:(fs w K).cmp t d=true:=by rw[Et.1];unfold bX;simp[hk]
 have HP:=Z (N.1.yes HM.1 HS.1 iZ);generalize(az w t).n+1=q at c0 hz;clear ql jC ez jF aZ iZ oE eY hU hk g1 g2;exact M13):Y:=h
theorem M41(h:Y:=by
 go_wp2_with fail;refine(bW _).mono ?_;rintro e' w7 ⟨q7,rfl,ek⟩;have HP:=Z (N6.1 w7 (Ta.1.trans (ek.mono Ta.1.size)) q7);clear ek bW;exact M13):Y:=h
theorem M42(h:Y:=by
 have iZ:(fs w K).cmp t true=true:=by
  rw[Et.1];unfold bX;have h1:=dw hk;have h2:¬((az w t).kind=1\/(az w t).kind=6\/(az w t).kind=9):=m9
  have h3:¬(az w t).kind=5:=m9
  have h4:¬(az w t).kind=3:=m9
  simp only[jQ4 h2,jQ4 h3,jQ4 h4,hk,if_true,Bool.true_or]
 have HP:=Z (N.1.yes HM.1 HS.1 iZ);have fk:=gU N.1.ok.gh Nr.1;clear iZ oE eY hU hk;go_wp2_with fail;refine rv fk ?_;clear fk;exact M13):Y:=h
theorem M51(h:Y:=by
 have iZ:(fs w K).cmp t d=true:=by rw[Et.1];unfold bX;simp[hk]
 have HP:=Z (N.1.yes HM.1 HS.1 iZ);clear iZ oE eY hU hk;exact M13):Y:=h
theorem M57(h:Y:=by
 have iW:tid (az w t).kind=129:=by rw[hk];rfl
 rw[iW];clear iW;have dB:=aY 129 (ptr b3) 37 w4 i5;have dn:=aT 129 (ptr b3) 37 w4 i5;have jY:=ed 129 (ptr b3) 37 w4 i5;have eW:=bd 129 (ptr b3) 37 w4 i5;have fX:=cM 129 (ptr b3) 37 w4 i5;have gn:=aP 129 (ptr b3) 37 w4 i5;exact M17):Y:=h
theorem M58(h:Y:=by
 have iW:tid (az w t).kind=133:=by rw[hk];rfl
 rw[iW];clear iW;have dB:=aY 133 (ptr b3) 37 w4 i5;have dn:=aT 133 (ptr b3) 37 w4 i5;have jY:=ed 133 (ptr b3) 37 w4 i5;have eW:=bd 133 (ptr b3) 37 w4 i5;have fX:=cM 133 (ptr b3) 37 w4 i5;have gn:=aP 133 (ptr b3) 37 w4 i5;exact M17):Y:=h
theorem M61(h:Y:=by
 have iW:tid (az w t).kind=90:=by rw[hk];rfl
 rw[iW];clear iW;have dB:=aY 90 (ptr b3) 37 w4 i5;have dn:=aT 90 (ptr b3) 37 w4 i5;have jY:=ed 90 (ptr b3) 37 w4 i5;have eW:=bd 90 (ptr b3) 37 w4 i5;have fX:=cM 90 (ptr b3) 37 w4 i5;have gn:=aP 90 (ptr b3) 37 w4 i5;exact M17):Y:=h
theorem M74(h:Y:=by
 obtain h|h:=hU
 ·rw[h]at hk;exact absurd hk i5
 ·exact h.1):Y:=h
theorem M75(h:Y:=by
 have N6:=Z (N5.out.go g1 g2 vE);have F6:=Z (F5.out.trans g2);have hA:=HA.1;rw[A1,jRn]at hA;have Wh:=Z hA;clear g1 g2 vE A1 hA;go_wp2_with fail;go_roundg (iw.length - (kk+1))
 case measure=>omega
 case rel=>exact⟨kk+1,m9,m9,by go_num,N6.1,F6.1,Wh.1⟩):Y:=h
theorem M81(h:Y:=by
 rw[Et.1];unfold bX;have h1:=dw hk;have h2:¬((az w t).kind=1\/(az w t).kind=6\/(az w t).kind=9):=m9
 have h3:¬(az w t).kind=5:=m9
 have h4:¬(az w t).kind=3:=m9
 simp only[jQ4 h2,jQ4 h3,jQ4 h4,hk,if_true,Bool.false_or]):Y:=h
theorem M89(h:Y:=by
 have hA6:=an w6 (.cells #[.iface (tid t.kind) (ptr b)] 20);have Ta:=Z hA6;have bW:=λs=>bJ s (some ⟨w6.heap.size,0,none⟩) 1 1 (w6.alloc (.cells #[.iface (tid t.kind) (ptr b)] 20));clear g1 g2 yY hA6;exact M41):Y:=h
theorem M93(h:Y:=by
 have hA6:=an w6 (.cells #[.iface T8 (ptr b8)] 20);have Ta:=Z hA6;have bW:=λs=>bJ s (some ⟨w6.heap.size,0,none⟩) 1 1 (w6.alloc (.cells #[.iface T8 (ptr b8)] 20));clear g1 g2 A1 hA6 Tc c3;exact M41):Y:=h
theorem M96(h:Y:=by
 have bW:=λs=>bJ s none 0 0 w8;cases em
 all_goals
  go_wp2_with fail;refine(bW _).mono ?_;rintro e' w7' ⟨q7,rfl,ek⟩;have HP:=Z (N6.1 w7' ek q7);clear ek bW;go_wp2_with fail;go_ret;exact HP.1):Y:=h
theorem QV.stay(hS:EH S S')(hD:∀b,D b->D' b)(h1:∀b,D b->W'.heap[b]?=W.heap[b]?)(h2:∀b s,S b=some s->W'.heap[b]?=W.heap[b]?)(h:QV S D W base x p):QV S' D' W' base x p:=by
 obtain⟨hk,b,pos,pk,sb,q,pa,re,g1,g2,g3,g4,g5,g6,g7⟩:=h;exact⟨hk,b,pos,pk,sb,q,pa,re,g1,hD b g2,(h1 b g2).trans g3,hS _ _ g4,g5,(h2 sb _ g4).trans g6,g7.move λb hb=>⟨hD b hb,h1 b hb⟩⟩
theorem Gr.types(h:Gr B σ aO W W')(hb:Bs NS Q w K B DI σ W):∀b s,σ.S b=some s->W'.heap[b]?=W.heap[b]?:=λb s hs=>h.block b (hb.th.lI b s hs) (λe=>by have:=hb.kJ.1;rw[<-e,hs]at this;cases this) λe=>by have:=(hb.gY b e).1;rw[hs]at this;cases this
abbrev QF(S:Sg)(D:Nat->Prop)(W:World)(base:Nat)(l:List GT)(ps:List Value):Prop:=All2 (QV S D W base) l ps
theorem afQ(h:QF σ.S σ.D W base l ps)(hb:Bs NS Q w K B DI σ W)(hg:Gr B σ aO W W'):QF aO.S aO.D W' base l ps:=h.imp λ_ _ hp=>hp.stay hg.sle hg.Jo (λb hd=>(hg.aJ hb b hd).2) (hg.types hb)
theorem afR{ty:TypeId}(h:QF σ.S σ.D W base l ps)(hb:Bs NS Q w K B DI σ W)(hr:dK B DI σ b0 W ty xs v)(hg:W.grownBy W' v.ownBlock):QF σ.S σ.D W' base l ps:=
 h.imp λ_ _ hp=>hp.stay (λ_ _ h=>h) (λ_ h=>h) (λb hd=>(fR hb hr hg b hd).2) λb s hs=>hg.block b (hb.th.lI b s hs) λe=>by have:=(hr.loc b e.symm).1;rw[hs]at this;cases this
structure IfM(NS:List ByteArray)(Q:GT->Prop)(w:List ah)(K:Nat)(B:Bl)(DI:Nat->Prop)(eo:BS)(W0:World)(l:List GT)(kk:Nat)(σ:BS)(W:World)(fv:Value)(ps:List Value)(x:Option Obj):Prop where
 md:Md NS Q w K B DI eo W0 (ndss (l.take kk)) σ W
 fr:dK B DI σ W0.heap.size W 95 ps fv
 fl:QF σ.S σ.D W W0.heap.size (l.take kk) ps
 blk0:W.heap[W0.heap.size]?=x
 lc:Loc B DI σ W0.heap.size
structure IfE(NS:List ByteArray)(Q:GT->Prop)(w:List ah)(K:Nat)(B:Bl)(DI:Nat->Prop)(eo:BS)(W0:World)(l1 l:List GT)(kk:Nat)(σ:BS)(W:World)(fv ev:Value)(ps vs:List Value):Prop where
 md:Md NS Q w K B DI eo W0 (ndss l1+ndss (l.take kk)) σ W
 fr:dK B DI σ W0.heap.size W 95 ps fv
 fl:QF σ.S σ.D W W0.heap.size l1 ps
 er:dK B DI σ W0.heap.size W 37 vs ev
 el:All2 (λe v=>dq σ.S v e) (l.take kk) vs
theorem nB(ih:dR NS Q w K B DI N)(hV:qv)(Zj:∀s∈NS,s.size<=9223372036854775807)(Zk:1<=K)(hk:t.kind=10)(hn:nds t<=N+1)(hp:PT NS Q w 2 t)(cG:Bs NS Q w K B DI σ W){k0 n0:Int}{v0:Bool}{s1 s2:ByteArray}{a0:Option Addr}(hs:RS DI W t.elems (.slice a0 t.elems.length c))(hl:σ.ml.length+nds t<=1099511627776):
 Calls prog 66 #[ptr B.bb,.agg #[.int .i64 k0,.int .i64 n0,.int .i64 t.m,.bool v0,.string s1,.string s2,.slice a0 t.elems.length c]] W (dC NS Q w K B DI σ W (nds t) λu aO _=>dq aO.S u t):=by
 have xd:=D4 hp;have bk:=gq t;have rP:=qz t.elems;obtain⟨f0,f1,f2,f3,f4,f5⟩:=xV hp hk;have hoe:ndss (own t)+ndss (bN t)=ndss t.elems:=by
  unfold own bN;rw[<-wJ,jRo]
 have hol:(own t).length<=t.elems.length:=by unfold own;rw[jRj];omega
 have lT:(bN t).length<=t.elems.length:=by unfold bN;rw[List.length_drop];omega
 have hmo:∀e∈own t,e∈t.elems:=λe he=>jQt he;have Q9:∀e∈bN t,e∈t.elems:=λe he=>jR2 he;obtain⟨fP,zC⟩:=RS.upto (l':=own t) hs (show mq t.m t.elems=some (own t)by unfold mq;rw[jQ7 ⟨f0,f1⟩];rfl);obtain⟨a9,c9,nT,hsf⟩:=RS.from (l':=bN t) hs (show jW t.m t.elems=some (bN t)by unfold jW;rw[jQ7 ⟨f0,f1⟩];rfl);have jz:=ak W (.cells #[.int .i64 k0,.int .i64 n0,.int .i64 t.m,.bool v0,.string s1,.string s2,.slice a0 t.elems.length c] 25);have ar:=an W (.cells #[.int .i64 k0,.int .i64 n0,.int .i64 t.m,.bool v0,.string s1,.string s2,.slice a0 t.elems.length c] 25);obtain⟨x0, -,x2, -, -, -,x6⟩:=ao jz;obtain⟨OV,HSU,HSF,RR,KR,VU,uL,bS⟩:=Z8 nT zC hsf jz ih xd cG ar;obtain⟨HL,na,HN,D5,HP,HK,HV,HOE⟩:=Z8 hl bk hn rP hp hk hV hoe;obtain⟨jf,HMO,Q2,wS,My⟩:=Z5 (And.intro hol lT) hmo Q9 (show∀e∈own t,e.kind=7/\wM e.name/\e.name.size<=9223372036854775807 from λe he=>⟨(f4 e he).1,FZ (f4 e he).2.1,Zj _ (f4 e he).2.2⟩) Zk;clear ih xd cG hs ar jz hl bk hn rP hp hk hV hoe hol lT hmo Q9 f0 f1 f2 f3 f4 f5 nT zC hsf Zk Zj;go_enter func66,ntmps66;go_wp2_with fail;clear x0 x2 x6 fP
 go_loopg [5,18] (own t).length (λgg s5 s18 wr=>∃(kk:Nat) (aO:BS) (ps:List Value),kk<=(own t).length/\(own t).length - kk<=gg/\s18=.int .i64 kk/\IfM NS Q w K B DI σ W (own t) kk aO wr s5 ps (some (.cells #[.int .i64 k0,.int .i64 n0,.int .i64 t.m,.bool v0,.string s1,.string s2,.slice a0 t.elems.length c] 25)))
 case atStart=>exact⟨0,σ,[],jQc _,m9,rfl,(Md.start uL.1).below bS.1,dK.nil,trivial,RR.1,uL.1.loc (jQ0 _)⟩
 case round=>
  obtain⟨kk,aO,ps,ez,hg,rfl,cH⟩:=hrel;have eF:=Z cH;have mR:=cH.fl.len;rw[jRj]at mR;by_cases aM:kk<(own t).length
  ·have aR:(kk:Int)<((own t).length:Int):=m9
   obtain⟨e,he⟩:∃e,(own t)[kk]?=some e:=⟨(own t)[kk]'aM,by simp[aM]⟩;rcases aN.1 HSU.1 with⟨h0,_⟩|⟨-,b,o,c2,pT, -, -,uw,Hl⟩
   ·rw[h0]at aM;simp at aM
   simp at pT;obtain⟨rfl,rfl⟩:=pT;have qk:=Hl.at he;obtain⟨ea,ec,RW,uz⟩:=(qk.move (uL.1.C0 eF.1.md.gr) uw).RX;obtain⟨c0,c1,c2,c3,c4,OS,Kk⟩:=RW;have Fl:=Z (show Below wr.heap.size wr (wr.alloc (bx e ea ec)).drew from(an _ _).drew);have kq:=ak wr (bx e ea ec);obtain⟨y0,y1,y2,y3,y4,y5,y6⟩:=ao kq;have lO:=Z (eF.1.md.below Fl.1);have ym:=Z (Gr.below Fl.1:Gr B aO aO wr _);have fq:=eF.1.md.bs.loc (g:=wr.heap.size) (jQ0 _);have ee:wr.heap.size<(wr.alloc (bx e ea ec)).drew.heap.size:=jQ2 kq;have gV:=Z (show∀mL w',Bs NS Q w K B DI mL w'->Gr B aO mL (wr.alloc (bx e ea ec)).drew w'->w'.cell? ⟨B.bb,0,none⟩=some (ptr B.pk)/\w'.cell? ⟨wr.heap.size,0,none⟩=some (.int .i64 e.kind)/\w'.cell? ⟨wr.heap.size,1,none⟩=some (.int .i64 e.n)/\w'.cell? ⟨wr.heap.size,2,none⟩=some (.int .i64 e.m)/\w'.cell? ⟨wr.heap.size,3,none⟩=some (.bool e.va)/\w'.cell? ⟨wr.heap.size,4,none⟩=some (.string e.name)/\w'.cell? ⟨wr.heap.size,5,none⟩=some (.string e.tag)/\w'.cell? ⟨wr.heap.size,6,none⟩=some (.slice ea e.elems.length ec)from
    λmL w' h1 h2=>⟨by simp[World.cell?,h1.jl],fq.cell ee h2 y0,fq.cell ee h2 y1,fq.cell ee h2 y2,fq.cell ee h2 y3,fq.cell ee h2 y4,fq.cell ee h2 y5,fq.cell ee h2 y6⟩)
   clear y0 y1 y2 y3 y4 y5 y6 kq ee fq;have zl:=jQ8 he;have CI:=lP he;have Ad:=lQ (own t) (kk+1);have rO:(own t).length<=9223372036854775807:=by have:=jf.1;have:=D5.1;have:=HL.1;have:=na.1;omega
   have wR:=wH (HMO.1 e zl);have jF:=gq e;have RA:=Z (show nds e<=N+1 by have:=na.1;have:=HN.1;omega);have HP7:=Z (VU.1 e (HMO.1 e zl));have Hn:=Z (wS.1 e zl).1;obtain⟨HVE,HLM,Na,HE,kr⟩:=Z5 (uz.move (eF.1.md.bs.C0 ym.1)) (show aO.ml.length+nds e<=1099511627776 by have:=eF.1.md.len;have:=HL.1;have:=na.1;have:=HOE.1;omega) (show ndss ((own t).take kk)+ndss e.elems<=ndss ((own t).take (kk+1))by omega) he (show ps.length+1<=1099511627776 by have:=jf.1;have:=D5.1;have:=HL.1;have:=na.1;omega);clear cH Hl qk CI Ad uz uw zl wR jF mR;go_wp2_with fail;clear c0 c1 c2 c3 c4 OS Kk;refine jQ9 (S:=(λw'=>w'.cell? ⟨B.bb,0,none⟩=some (ptr B.pk)/\w'.cell? ⟨wr.heap.size,0,none⟩=some (.int .i64 e.kind)/\w'.cell? ⟨wr.heap.size,1,none⟩=some (.int .i64 e.n)/\w'.cell? ⟨wr.heap.size,2,none⟩=some (.int .i64 e.m)/\w'.cell? ⟨wr.heap.size,3,none⟩=some (.bool e.va)/\w'.cell? ⟨wr.heap.size,4,none⟩=some (.string e.name)/\w'.cell? ⟨wr.heap.size,5,none⟩=some (.string e.tag)/\w'.cell? ⟨wr.heap.size,6,none⟩=some (.slice ea e.elems.length ec))) g9 (gV.1 _ _ lO.1.bs (Gr.refl _ _)) (λai=>?_);refine t4 0 1 2 3 ?_;refine t4 4 5 6 7 ?_;refine tk 8 ?_;refine rd 9 rfl λK hK=>?_;go_simp;clear ai;refine(je KR.1 HV.1 none Hn.1 RA.1 HP7.1 lO.1.bs HVE.1 HLM.1).mono ?_;rintro eA wA ⟨u,fT,rfl,cq,b1,pa,re,rfl,yW,cG,RY⟩;obtain⟨HM,HG,wL,HSH,HBZ⟩:=Z5 (lO.1.trans cq) cq.gr cG RY yW;refine hK.out _ _ (gV.1 _ _ cq.bs HG.1) (λai=>?_);clear cq yW cG RY;clear hK K;refine rd 10 rfl λK hK=>?_;go_simp;clear ai;refine rv (kM _ _ _ _ _) ?_;have oU:=Z (HM.1.iz #[.int .i64 0,ptr B.pk,.string e.name,.iface 90 (ptr b1),.bool false,.bool false] 178);have rQ:=Z (HG.1.trans (jk HM.1.bs #[.int .i64 0,ptr B.pk,.string e.name,.iface 90 (ptr b1),.bool false,.bool false] 178));refine hK.out _ _ (gV.1 _ _ oU.1.bs rQ.1) (λai=>?_);clear hK K;refine rd 11 rfl λK hK=>?_;go_simp;clear ai;have jI:=Z (oU.1.below (an _ (.cells #[ptr wA.heap.size] 95)));have mQ:=Z (rQ.1.trans (Gr.below (an _ (.cells #[ptr wA.heap.size] 95))));refine hK.out _ _ (gV.1 _ _ jI.1.bs mQ.1) (λai=>?_);clear hK K;refine rd 12 rfl λK hK=>?_;have mS:=Z (eF.1.fr.gr (ym.1.trans mQ.1));refine lU underlying97 U3 rfl m9 rfl (.tmp 22) (.tmp 33) rfl W.heap.size u5 ps (by simp[Act.eval,Act.put]) mS.1.own (ptr wA.heap.size) rfl ⟨wA.heap.size+1,0,none⟩ 1 (by simp[Act.eval,Act.put]) (gi _ _ _ _) kr.1 jI.1.gr.size ?_;intro v5 w5 aL lX oX;have HM5:=Z (jI.1.grown mS.1 lX aL oX);have WM:=Z lX;have xn:∀g,u5.ownBlock=some g->g≠B.bb/\g≠wr.heap.size:=λg hg=>⟨(eF.1.fr.loc g hg).2.2.1,by have:=(aC eF.1.fr.own g hg).2.1;omega⟩;have mF:=ai;clear ai;refine hK.out _ _ ⟨lX.cell mF.1 (λe'=>(xn _ e'.symm).1 rfl),lX.cell mF.2.1 (λe'=>(xn _ e'.symm).2 rfl),lX.cell mF.2.2.1 (λe'=>(xn _ e'.symm).2 rfl),lX.cell mF.2.2.2.1 (λe'=>(xn _ e'.symm).2 rfl),lX.cell mF.2.2.2.2.1 (λe'=>(xn _ e'.symm).2 rfl),lX.cell mF.2.2.2.2.2.1 (λe'=>(xn _ e'.symm).2 rfl),lX.cell mF.2.2.2.2.2.2.1 (λe'=>(xn _ e'.symm).2 rfl),lX.cell mF.2.2.2.2.2.2.2 (λe'=>(xn _ e'.symm).2 rfl)⟩ (λai=>?_);clear mF xn aL lX oX
   (try simp only[jRa,jR3,jR4,Act.put,jQy,jRe,jRf])
   clear hK K;refine tk 13 ?_;refine jQl g9 ?_ _;clear ai;go_wp2_with fail;go_roundg ((own t).length - (kk+1))
   case measure=>omega
   case rel=>
    have hG:=ym.1.trans mQ.1;have hf4:=afQ eF.1.fl eF.1.md.bs hG;have Uu:QV _ _ ((wA.alloc (.cells #[.int .i64 0,ptr B.pk,.string e.name,.iface 90 (ptr b1),.bool false,.bool false] 178)).alloc (.cells #[ptr wA.heap.size] 95)) W.heap.size e (ptr wA.heap.size):=
     ⟨Hn.1,wA.heap.size,0,some ⟨B.pk,0,none⟩,b1,none,pa,re,rfl,.inr rfl,aq (ak _ _),wL.1,by have:=HBZ.1;have:=eF.1.md.gr.size;have:=Fl.1.size;omega,aq (aq HSH.1),jI.1.bs.Rm⟩
    have tB:(own t).take (kk+1)=(own t).take kk++[e]:=by rw[jRm,HE.1];rfl
    have hf5:=afR (All2.snoc Uu hf4) jI.1.bs mS.1 WM.1;rw[<-tB]at hf5;have Jd:=eF.1.lc.gr (jQ2 eF.1.blk0) hG;refine⟨kk+1,_,ps++[ptr wA.heap.size],m9,m9,by go_num,HM5.1.1.more Na.1,HM5.1.2,hf5,?_,Jd⟩;have dI:=(eF.1.lc.same (jQ2 eF.1.blk0) hG).trans eF.1.blk0;refine(WM.1.block _ (jQ2 dI) λe'=>?_).trans dI;obtain⟨_,_,cur,h2⟩:=aC mS.1.own _ e'.symm;rw[dI]at h2;cases h2
  ·have aR:¬(kk:Int)<((own t).length:Int):=m9
   have yV:(own t).take kk=own t:=jR6 m9;have cq:=cH.md;have xe:=cH.fl;rw[yV]at cq xe;obtain⟨x0, -,x2, -, -, -,x6⟩:=ao cH.blk0;have nT:=OV.1;have QG:=Z (show IfE NS Q w K B DI σ W (own t) (bN t) 0 aO wr u5 (.slice none 0 0) ps []from⟨cq.more i6,cH.fr,xe,dK.nil,trivial⟩);clear cH eF cq xe yV mR;go_wp2_with fail;clear x0 x2 x6 nT
   go_loopg [8,42] (bN t).length (λgg s8 s42 wr=>∃(kk:Nat) (aO:BS) (vs:List Value),kk<=(bN t).length/\(bN t).length - kk<=gg/\s42=.int .i64 kk/\IfE NS Q w K B DI σ W (own t) (bN t) kk aO wr u5 s8 ps vs)
   case atStart=>exact⟨0,_,[],jQc _,m9,rfl,QG.1⟩
   case round=>
    obtain⟨kk,aO,vs,ez,hg,rfl,cH⟩:=hrel;have eF:=Z cH;have mR:=cH.el.len;rw[jRj]at mR;by_cases aM:kk<(bN t).length
    ·have aR:(kk:Int)<((bN t).length:Int):=m9
     obtain⟨e,he⟩:∃e,(bN t)[kk]?=some e:=⟨(bN t)[kk]'aM,by simp[aM]⟩;rcases aN.1 HSF.1 with⟨h0,_⟩|⟨-,b,o,c2,pT, -, -,uw,Hl⟩
     ·rw[h0]at aM;simp at aM
     simp at pT;obtain⟨rfl,rfl⟩:=pT;have qk:=Hl.at he;obtain⟨ea,ec,RW,uz⟩:=(qk.move (uL.1.C0 eF.1.md.gr) uw).RX;obtain⟨c0,c1,c2,c3,c4,OS,Kk⟩:=RW;have kq:=ak wr (bx e ea ec);obtain⟨y0,y1,y2,y3,y4,y5,y6⟩:=ao kq;have FO:=an wr (bx e ea ec);have lO:=Z (eF.1.md.below FO);have ym:=Z (Gr.below FO:Gr B aO aO wr _);have zl:=jQ8 he;have CI:=lP he;have Ad:=lQ (bN t) (kk+1);have rO:(bN t).length<=9223372036854775807:=by have:=jf.1;have:=D5.1;have:=HL.1;have:=na.1;omega
     have wR:=wH (Q2.1 e zl);have ag:=KR.1 e aO _ _ (by have:=na.1;have:=HN.1;omega) (VU.1 e (Q2.1 e zl)) lO.1.bs (uz.move (eF.1.md.bs.C0 ym.1)) (by have:=eF.1.md.len;have:=HL.1;have:=na.1;have:=HOE.1;omega);obtain⟨Na,HE,kr⟩:=Z3 CI he (show vs.length+1<=1099511627776 by have:=jf.1;have:=D5.1;have:=HL.1;have:=na.1;omega);clear cH Hl qk CI Ad uz uw zl wR mR kq FO he;go_wp2_with fail;clear c0 c1 c2 c3 c4 OS Kk y0 y1 y2 y3 y4 y5 y6;refine ag.mono ?_;rintro eA wA ⟨u,fT,rfl,cq,hu⟩;have HM:=Z (lO.1.trans cq);obtain⟨bu,rfl, -⟩:=id hu;have HU:=Z hu;have HG:=Z (ym.1.trans cq.gr);clear ag cq hu;have jI:=Z (HM.1.below (an wA (.cells #[.iface (tid e.kind) (ptr bu)] 37)));have mQ:=Z (Gr.below (an wA (.cells #[.iface (tid e.kind) (ptr bu)] 37)):Gr B fT fT wA _);have mS:=Z ((eF.1.er.gr HG.1).gr mQ.1);go_wp2_with (at_builtin;refine gH underlying98 Zt rfl m9 rfl _ _ rfl W.heap.size u8 vs rfl mS.1.own (.iface (tid e.kind) (ptr bu)) rfl ⟨wA.heap.size,0,none⟩ 1 rfl (cell_one_new _ _ _) kr.1 jI.1.gr.size ?_);intro v7 w7 bF jm uM;obtain⟨yU,lY,CJ⟩:=Z3 (show w7.ownsRow W.heap.size 37 1 v7 (vs++[Value.iface (tid e.kind) (ptr bu)]).length (vs++[Value.iface (tid e.kind) (ptr bu)])by simpa using bF) (show(wA.alloc (.cells #[.iface (tid e.kind) (ptr bu)] 37)).grownBy w7 u8.ownBlock from jm) (show v7.ownBlock=u8.ownBlock\/v7.ownBlock=some (wA.alloc (.cells #[.iface (tid e.kind) (ptr bu)] 37)).heap.size by simpa using uM);clear bF jm uM;go_wp2_with fail;go_roundg ((bN t).length - (kk+1))
     case measure=>omega
     case rel=>
      have Af:=jI.1.grown mS.1 lY.1 yU.1 CJ.1;have tB:(bN t).take (kk+1)=(bN t).take kk++[e]:=by rw[jRm,HE.1];rfl
      have hG:=HG.1.trans mQ.1;refine⟨kk+1,_,vs++[.iface (tid e.kind) (ptr bu)],m9,m9,by go_num,?_,((eF.1.fr.gr HG.1).gr mQ.1).other mS.1 lY.1 i5,afR (afQ eF.1.fl eF.1.md.bs hG) jI.1.bs mS.1 lY.1,Af.2,?_⟩
      ·rw[Na.1,<-Nat.add_assoc];exact Af.1
      ·rw[tB];exact All2.snoc (R:=λe v=>dq fT.S v e) HU.1 (eF.1.el.imp λ_ _ h=>h.mono hG.sle)
    ·have aR:¬(kk:Int)<((bN t).length:Int):=m9
     have yV:(bN t).take kk=bN t:=jR6 m9;have cq:=cH.md;have lT:=cH.el;rw[yV]at cq lT;have ag:=YT My.1 HK.1 HP.1 (λm hm=>(wS.1 m hm).2) (by have:=jf.1;have:=D5.1;have:=HL.1;have:=na.1;omega) cq cH.fr cH.fl cH.er lT;have Rg:=Z cq.len;clear cH eF cq lT yV mR;go_wp2_with fail;refine ag.mono ?_;rintro eA wA ⟨b,fT,rfl,cq,rN,eR,gP⟩;obtain⟨HM,wL,HL2⟩:=Z3 cq rN (show(fT.ml.map ptr).length+1<=1099511627776 by rw[jR7,gP];have:=Rg.1;have:=HL.1;have:=na.1;have:=HOE.1;omega);have b4:wA.cell? ⟨B.bb,4,none⟩=some fT.mv:=by simp[World.cell?,cq.bs.jl]
     clear ag cq rN eR gP;have jI:=Z (HM.1.below (an wA (.cells #[ptr b] 33)));have HO:=Z (show(wA.alloc (.cells #[ptr b] 33)).ownsRow 0 33 1 fT.mv (fT.ml.map ptr).length (fT.ml.map ptr)by rw[jR7];exact jI.1.bs.own);go_wp2_with (at_builtin;refine gH underlying56 acK rfl m9 rfl _ _ rfl 0 fT.mv (fT.ml.map ptr) rfl HO.1 (ptr b) rfl ⟨wA.heap.size,0,none⟩ 1 rfl (cell_one_new _ _ _) HL2.1 (jQc _) ?_);intro v7 w7 bF jm uM;obtain⟨a7,n7,c7,rfl⟩:∃a n c,v7=.slice a n c:=M165
     have h7:=(jm.block B.bb (jQ2 jI.1.bs.jl) λe=>(jI.1.bs.gY _ e.symm).2.2 rfl).trans jI.1.bs.jl;have b7:w7.cell? ⟨B.bb,4,none⟩=some fT.mv:=by simp[World.cell?,h7]
     have z7:w7.frozen? ⟨B.bb,4,none⟩=false:=by simp[World.frozen?,h7]
     obtain⟨lZ,yU,lY,CJ⟩:=Z4 (aw h7 4 (Value.slice a7 n7 c7)) (show w7.ownsRow 0 33 1 (Value.slice a7 n7 c7) (fT.ml++[b]).length ((fT.ml++[b]).map ptr)by simpa using bF) (show(wA.alloc (.cells #[ptr b] 33)).grownBy w7 fT.mv.ownBlock from jm) (show(Value.slice a7 n7 c7).ownBlock=fT.mv.ownBlock\/(Value.slice a7 n7 c7).ownBlock=some (wA.alloc (.cells #[ptr b] 33)).heap.size by simpa using uM);clear bF jm uM h7 b4;go_wp2_with fail;go_ret;obtain⟨-, -, -, -, -,f5⟩:=xV HP.1 HK.1;have hM8:=jI.1.made lY.1 yU.1 CJ.1 lZ.1 ⟨t,wL.1,HK.1,f5⟩;exact⟨_,_,rfl,hM8.more (by have:=na.1;have:=HOE.1;omega),⟨b,by rw[HK.1];rfl,wL.1⟩⟩
theorem Mr(ih:dR NS Q w K B DI N)(iA:∀t,Q t->Q0 t)(hk:t.kind=5)(hn:nds t<=N+1)(hp:PT NS Q w 2 t)(cG:Bs NS Q w K B DI σ W)(hv:RT DI W t v)(hl:σ.ml.length+nds t<=1099511627776):
 Calls prog 28 #[ptr B.bb,v] W (dC NS Q w K B DI σ W (nds t) λu aO _=>dq aO.S u t):=by
 have qj:=hv;obtain⟨a0,c,rfl,hs⟩:=hv.bR;have ar:=an W (bx t a0 c);have HM:=Z ((Md.start cG).below ar);have eR:au DI DI W (W.alloc (bx t a0 c)):=λx hx=>⟨hx,ar.block x (cG.di x hx).1⟩;obtain⟨x0,x1,x2,x3,x4,x5,x6⟩:=ao (ak W (bx t a0 c));have dr:=qj.move eR;have cz:=hs.move eR;have bk:=gq t;have k1:(t.kind==1)=false:=by simp[hk]
 have k2:(t.kind==2)=false:=by simp[hk]
 have k3:(t.kind==3)=false:=by simp[hk]
 have k4:(t.kind==4)=false:=by simp[hk]
 have k6:(t.kind==6)=false:=by simp[hk]
 have k8:(t.kind==8)=false:=by simp[hk]
 have k9:(t.kind==9)=false:=by simp[hk]
 have k5:(t.kind==5)=decide ((5:Nat)=5):=by simp[hk]
 have k7:(t.kind==7)=decide ((5:Nat)=7):=by simp[hk]
 have qd:(t.kind==11)=decide ((5:Nat)=11):=by simp[hk]
 have tT:(t.kind==12)=decide ((5:Nat)=12):=by simp[hk]
 have ll:(t.kind==13)=decide ((5:Nat)=13):=by simp[hk]
 have Hw:(t.kind==15)=decide ((5:Nat)=15):=by simp[hk]
 have yr:(t.kind==16)=decide ((5:Nat)=16):=by simp[hk]
 have sq:(t.kind==10)=decide ((5:Nat)=10):=by simp[hk]
 try simp only[Nat.reduceEqDiff,decide_true,decide_false]at k5 k7 sq qd tT ll Hw yr
 have ag:=zm ih iA hk hn hp HM.1.bs dr hl;exact M24
theorem Qr(ih:dR NS Q w K B DI N)(hk:t.kind=12)(hn:nds t<=N+1)(hp:PT NS Q w 2 t)(cG:Bs NS Q w K B DI σ W)(hv:RT DI W t v)(hl:σ.ml.length+nds t<=1099511627776):
 Calls prog 28 #[ptr B.bb,v] W (dC NS Q w K B DI σ W (nds t) λu aO _=>dq aO.S u t):=by
 have qj:=hv;obtain⟨a0,c,rfl,hs⟩:=hv.bR;have ar:=an W (bx t a0 c);have HM:=Z ((Md.start cG).below ar);have eR:au DI DI W (W.alloc (bx t a0 c)):=λx hx=>⟨hx,ar.block x (cG.di x hx).1⟩;obtain⟨x0,x1,x2,x3,x4,x5,x6⟩:=ao (ak W (bx t a0 c));have dr:=qj.move eR;have cz:=hs.move eR;have bk:=gq t;have k1:(t.kind==1)=false:=by simp[hk]
 have k2:(t.kind==2)=false:=by simp[hk]
 have k3:(t.kind==3)=false:=by simp[hk]
 have k4:(t.kind==4)=false:=by simp[hk]
 have k6:(t.kind==6)=false:=by simp[hk]
 have k8:(t.kind==8)=false:=by simp[hk]
 have k9:(t.kind==9)=false:=by simp[hk]
 have k5:(t.kind==5)=decide ((12:Nat)=5):=by simp[hk]
 have k7:(t.kind==7)=decide ((12:Nat)=7):=by simp[hk]
 have qd:(t.kind==11)=decide ((12:Nat)=11):=by simp[hk]
 have tT:(t.kind==12)=decide ((12:Nat)=12):=by simp[hk]
 have ll:(t.kind==13)=decide ((12:Nat)=13):=by simp[hk]
 have Hw:(t.kind==15)=decide ((12:Nat)=15):=by simp[hk]
 have yr:(t.kind==16)=decide ((12:Nat)=16):=by simp[hk]
 have sq:(t.kind==10)=decide ((12:Nat)=10):=by simp[hk]
 try simp only[Nat.reduceEqDiff,decide_true,decide_false]at k5 k7 sq qd tT ll Hw yr
 have ag:=U4 ih hk hn hp HM.1.bs dr hl;exact M24
theorem Qt(ih:dR NS Q w K B DI N)(hk:t.kind=13)(hn:nds t<=N+1)(hp:PT NS Q w 2 t)(cG:Bs NS Q w K B DI σ W)(hv:RT DI W t v)(hl:σ.ml.length+nds t<=1099511627776):
 Calls prog 28 #[ptr B.bb,v] W (dC NS Q w K B DI σ W (nds t) λu aO _=>dq aO.S u t):=by
 have qj:=hv;obtain⟨a0,c,rfl,hs⟩:=hv.bR;have ar:=an W (bx t a0 c);have HM:=Z ((Md.start cG).below ar);have eR:au DI DI W (W.alloc (bx t a0 c)):=λx hx=>⟨hx,ar.block x (cG.di x hx).1⟩;obtain⟨x0,x1,x2,x3,x4,x5,x6⟩:=ao (ak W (bx t a0 c));have dr:=qj.move eR;have cz:=hs.move eR;have bk:=gq t;have k1:(t.kind==1)=false:=by simp[hk]
 have k2:(t.kind==2)=false:=by simp[hk]
 have k3:(t.kind==3)=false:=by simp[hk]
 have k4:(t.kind==4)=false:=by simp[hk]
 have k6:(t.kind==6)=false:=by simp[hk]
 have k8:(t.kind==8)=false:=by simp[hk]
 have k9:(t.kind==9)=false:=by simp[hk]
 have k5:(t.kind==5)=decide ((13:Nat)=5):=by simp[hk]
 have k7:(t.kind==7)=decide ((13:Nat)=7):=by simp[hk]
 have qd:(t.kind==11)=decide ((13:Nat)=11):=by simp[hk]
 have tT:(t.kind==12)=decide ((13:Nat)=12):=by simp[hk]
 have ll:(t.kind==13)=decide ((13:Nat)=13):=by simp[hk]
 have Hw:(t.kind==15)=decide ((13:Nat)=15):=by simp[hk]
 have yr:(t.kind==16)=decide ((13:Nat)=16):=by simp[hk]
 have sq:(t.kind==10)=decide ((13:Nat)=10):=by simp[hk]
 try simp only[Nat.reduceEqDiff,decide_true,decide_false]at k5 k7 sq qd tT ll Hw yr
 have ag:=U5 ih hk hn hp HM.1.bs dr hl;exact M24
theorem Zi(ih:dR NS Q w K B DI N)(hV:qv)(Zj:∀s∈NS,s.size<=9223372036854775807)(Zk:1<=K)(hk:t.kind=10)(hn:nds t<=N+1)(hp:PT NS Q w 2 t)(cG:Bs NS Q w K B DI σ W)(hv:RT DI W t v)(hl:σ.ml.length+nds t<=1099511627776):
 Calls prog 28 #[ptr B.bb,v] W (dC NS Q w K B DI σ W (nds t) λu aO _=>dq aO.S u t):=by
 have qj:=hv;obtain⟨a0,c,rfl,hs⟩:=hv.bR;have ar:=an W (bx t a0 c);have HM:=Z ((Md.start cG).below ar);have eR:au DI DI W (W.alloc (bx t a0 c)):=λx hx=>⟨hx,ar.block x (cG.di x hx).1⟩;obtain⟨x0,x1,x2,x3,x4,x5,x6⟩:=ao (ak W (bx t a0 c));have dr:=qj.move eR;have cz:=hs.move eR;have bk:=gq t;have k1:(t.kind==1)=false:=by simp[hk]
 have k2:(t.kind==2)=false:=by simp[hk]
 have k3:(t.kind==3)=false:=by simp[hk]
 have k4:(t.kind==4)=false:=by simp[hk]
 have k6:(t.kind==6)=false:=by simp[hk]
 have k8:(t.kind==8)=false:=by simp[hk]
 have k9:(t.kind==9)=false:=by simp[hk]
 have k5:(t.kind==5)=decide ((10:Nat)=5):=by simp[hk]
 have k7:(t.kind==7)=decide ((10:Nat)=7):=by simp[hk]
 have qd:(t.kind==11)=decide ((10:Nat)=11):=by simp[hk]
 have tT:(t.kind==12)=decide ((10:Nat)=12):=by simp[hk]
 have ll:(t.kind==13)=decide ((10:Nat)=13):=by simp[hk]
 have Hw:(t.kind==15)=decide ((10:Nat)=15):=by simp[hk]
 have yr:(t.kind==16)=decide ((10:Nat)=16):=by simp[hk]
 have sq:(t.kind==10)=decide ((10:Nat)=10):=by simp[hk]
 try simp only[Nat.reduceEqDiff,decide_true,decide_false]at k5 k7 sq qd tT ll Hw yr
 have ag:=nB ih hV Zj Zk hk hn hp HM.1.bs (k0:=t.kind) (n0:=t.n) (v0:=t.va) (s1:=t.name) (s2:=t.tag) cz hl;exact M24
theorem acv(h:t.kind=14):aG t=fD:=by unfold aG mC;rw[jQ7 h];rfl
theorem Zl(ih:dR NS Q w K B DI N)(hV:qv)(Zj:∀s∈NS,s.size<=9223372036854775807)(Zk:1<=K)(qc:PT NS Q w 2 fD)(hk:t.kind=14)(cG:Bs NS Q w K B DI σ W)(hv:RT DI W t v)(hl:σ.ml.length+nds t<=1099511627776):
 Calls prog 28 #[ptr B.bb,v] W (dC NS Q w K B DI σ W (nds t) λu aO _=>dq aO.S u t):=by
 obtain⟨a0,c,rfl,hs⟩:=hv.bR;have ar:=an W (bx t a0 c);have HM:=Z ((Md.start cG).below ar);obtain⟨x0,x1,x2,x3,x4,x5,x6⟩:=ao (ak W (bx t a0 c));have bk:=gq t;have hna:=gq fD;have afB:nds fD=1:=by rw[hna];rfl
 have k1:(t.kind==1)=false:=by simp[hk]
 have k2:(t.kind==2)=false:=by simp[hk]
 have k3:(t.kind==3)=false:=by simp[hk]
 have k4:(t.kind==4)=false:=by simp[hk]
 have k6:(t.kind==6)=false:=by simp[hk]
 have k8:(t.kind==8)=false:=by simp[hk]
 have k9:(t.kind==9)=false:=by simp[hk]
 have k5:(t.kind==5)=decide ((14:Nat)=5):=by simp[hk]
 have k7:(t.kind==7)=decide ((14:Nat)=7):=by simp[hk]
 have qd:(t.kind==11)=decide ((14:Nat)=11):=by simp[hk]
 have tT:(t.kind==12)=decide ((14:Nat)=12):=by simp[hk]
 have ll:(t.kind==13)=decide ((14:Nat)=13):=by simp[hk]
 have Hw:(t.kind==15)=decide ((14:Nat)=15):=by simp[hk]
 have yr:(t.kind==16)=decide ((14:Nat)=16):=by simp[hk]
 have sq:(t.kind==10)=decide ((14:Nat)=10):=by simp[hk]
 try simp only[Nat.reduceEqDiff,decide_true,decide_false]at k5 k7 sq qd tT ll Hw yr
 have ag:=nB (t:=fD) ih hV Zj Zk rfl m9 qc HM.1.bs (k0:=0) (n0:=0) (v0:=false) (s1:=⟨#[]⟩) (s2:=⟨#[]⟩) (a0:=none) (c:=0) (aN.2 (.inl ⟨rfl,none,0,rfl,λ_=>rfl⟩)) m9;obtain⟨na,Zm,ah2⟩:=Z3 (show 1<=nds t by omega) afB hk;clear ih hk cG hv hs hl bk ar hna afB;go_enter func28,ntmps28;go_wp2_with fail;refine ag.mono ?_;rintro e' w' ⟨u,aO,rfl,cq,hu⟩;have HP:=Z (show dC NS Q w K B DI σ W (nds t) (λu aO _=>dq aO.S u t) (.returned u) w' from⟨u,aO,rfl,(HM.1.trans cq).more (by have:=na.1;have:=Zm.1;omega),hu.same (t:=fD) (t':=t) (by show aG fD=aG t;rw[acv ah2.1];rfl)⟩);clear ag cq hu;exact M13
theorem U6(ih:dR NS Q w K B DI N)(hV:qv)(hk:t.kind=7)(hn:nds t<=N+1)(hp:PT NS Q w 2 t)(cG:Bs NS Q w K B DI σ W)(hv:RT DI W t v)(hl:σ.ml.length+nds t<=1099511627776):
 Calls prog 28 #[ptr B.bb,v] W (dC NS Q w K B DI σ W (nds t) λu aO _=>dq aO.S u t):=by
 have qj:=hv;obtain⟨a0,c,rfl,hs⟩:=hv.bR;have ar:=an W (bx t a0 c);have HM:=Z ((Md.start cG).below ar);have eR:au DI DI W (W.alloc (bx t a0 c)):=λx hx=>⟨hx,ar.block x (cG.di x hx).1⟩;obtain⟨x0,x1,x2,x3,x4,x5,x6⟩:=ao (ak W (bx t a0 c));have dr:=qj.move eR;have bk:=gq t;have HK:=Z hk;have k1:(t.kind==1)=false:=by simp[hk]
 have k2:(t.kind==2)=false:=by simp[hk]
 have k3:(t.kind==3)=false:=by simp[hk]
 have k4:(t.kind==4)=false:=by simp[hk]
 have k6:(t.kind==6)=false:=by simp[hk]
 have k8:(t.kind==8)=false:=by simp[hk]
 have k9:(t.kind==9)=false:=by simp[hk]
 have k5:(t.kind==5)=decide ((7:Nat)=5):=by simp[hk]
 have k7:(t.kind==7)=decide ((7:Nat)=7):=by simp[hk]
 have qd:(t.kind==11)=decide ((7:Nat)=11):=by simp[hk]
 have tT:(t.kind==12)=decide ((7:Nat)=12):=by simp[hk]
 have ll:(t.kind==13)=decide ((7:Nat)=13):=by simp[hk]
 have Hw:(t.kind==15)=decide ((7:Nat)=15):=by simp[hk]
 have yr:(t.kind==16)=decide ((7:Nat)=16):=by simp[hk]
 have sq:(t.kind==10)=decide ((7:Nat)=10):=by simp[hk]
 try simp only[Nat.reduceEqDiff,decide_true,decide_false]at k5 k7 sq qd tT ll Hw yr
 have ag:=je ih hV none hk hn hp HM.1.bs dr hl;have na:=Z bk;clear ih hk hn hp cG hv qj dr hs hl bk eR ar;go_enter func28,ntmps28;go_wp2_with fail;refine ag.mono ?_;rintro e' w' ⟨u,aO,rfl,cq,b1,pa,re,rfl, -,rN, -⟩;have HP:=Z (show dC NS Q w K B DI σ W (nds t) (λu aO _=>dq aO.S u t) (.returned (.iface 90 (ptr b1))) w' from⟨_,aO,rfl,(HM.1.trans cq).more (by have:=na.1;omega),b1,by rw[HK.1];rfl,rN⟩);clear ag cq rN;exact M13
theorem WU(hV:qv)(iA:∀t,Q t->Q0 t)(Zj:∀s∈NS,s.size<=9223372036854775807)(Zk:1<=K)(qc:PT NS Q w 2 fD):∀N,dR NS Q w K B DI N:=by
 intro N
 induction N with
 |zero=>intro t σ W v hn;have:=Gp t;omega
 |succ N ih=>
  intro t σ W v hn hp cG hv hl;have h0:=hp;cases hp with
  |basic a b=>exact P8 rfl h0 cG hv
  |uni a=>
   obtain rfl|rfl|rfl:=a
   ·exact Zl ih hV Zj Zk qc rfl cG hv hl
   ·exact YQ rfl cG hv
   ·exact YR rfl cG hv
  |named a b c=>exact P9 rfl h0 cG hv
  |al a b h1=>
   obtain rfl|rfl:=a
   ·exact PR ih rfl hn h0 cG hv hl
   ·exact XI ih rfl hn h0 cG hv hl
  |st a b h1=>exact Mr ih iA rfl hn h0 cG hv hl
  |ifc a b c d e g h1 h2 q=>exact Zi ih hV Zj Zk rfl hn h0 cG hv hl
  |one a b c h1=>
   obtain rfl|rfl|rfl:=a
   ·exact Pn ih rfl hn h0 cG hv hl
   ·exact XP ih rfl hn h0 cG hv hl
   ·exact SJ ih rfl hn h0 cG hv hl
  |mp h1 h2=>exact Zn ih rfl hn h0 cG hv hl
  |fn a b c h1=>exact U6 ih hV rfl hn h0 cG hv hl
  |ti a h1=>exact Qt ih rfl hn h0 cG hv hl
  |un a b c h1=>exact Qr ih rfl hn h0 cG hv hl
section
attribute [local go_sem] Oper.semAt_some
theorem Sw{F:Fence}(hd:F.depth=none)(m':Nat){P:Program}{l:Nat}{args:Array Value}{R:Ending->World->Prop}(h:YieldAt F m P l args W R):YieldAt F m' P l args W R:=by
 obtain⟨fn,tmps,assign,body,hy,hR⟩:=h;exact⟨fn,tmps,assign,body,hy,hR.1,λc cs _=>hR.2 c cs λd h=>by rw[hd]at h;cases h⟩
set_option maxRecDepth 100000 in
theorem Sx(n:Nat)(hn:1<=n)(l Lp sb:Nat)(J Jx:List Unit->World->Prop)(W:World)(hY:YieldAt Fence.wide (n - 1) prog l #[.iface 129 (ptr sb),.iface 129 (ptr sb)] W λe W'=>(e=.returned (.bool true)/\J [()] W'/\Below Lp W W')\/(e=.returned (.bool false)/\Jx [()] W')):
 CallsIn Fence.wide n prog 191 #[.iface 129 (ptr sb),.func (.yield l) #[] #[]] W λe W'=>(∃v,e=.returned v)/\(J [()] W'\/Jx [()] W'):=by
 have lk:=callsIn_wide (n:=n - 1) |>.2 (Eg 129 (ptr sb) W i5);have fp:=λw=>mh 129 (ptr sb) 37 w i5;have fL:=callsIn_wide (n:=n - 1) |>.2 (ic sb W);refine callsIn_of_wp func191 rfl trivial ?_ rfl;simp only[ntmps191,List.size_toArray,List.length_cons,List.length_nil,Nat.reduceAdd,Nat.reduceSub,Array.replicate_succ,Array.replicate_zero,List.push_toArray,List.append_toArray,List.nil_append,jRh];obtain⟨fn,tmps,assign,body,hy,hR⟩:=hY
 gi_wp2_with fail
 refine⟨trivial,lk.mono ?_⟩;rintro e' w' ⟨rfl,hw⟩;replace hw:=hw.symm;subst hw;clear lk;have Kr:=zJ sb;have hca:=Tryz.call305
 gi_wp2_with fail
 refine⟨trivial,fL.mono ?_⟩;rintro e' w' ⟨rfl,hw⟩;replace hw:=hw.symm;subst hw;clear fL Kr hca
 gi_wp2
 refine hR.mono ?_;rintro e W3 (⟨rfl,hJ3,hk3⟩|⟨rfl,agT⟩)
 ·gi_wp2
  go_ret;exact⟨⟨_,rfl⟩,.inl hJ3⟩
 ·gi_wp2
  go_ret;exact⟨⟨_,rfl⟩,.inr agT⟩
set_option maxRecDepth 100000 in
theorem XG(n:Nat)(hn:1<=n)(l Lp sb bx:Nat)(J Jx:List Unit->World->Prop)(W:World)(hb:W.cell? ⟨bx,0,none⟩=some (.iface 129 (ptr sb)))(hY:YieldAt Fence.wide (n - 1 - 1) prog l #[.iface 129 (ptr sb),.iface 129 (ptr sb)] W λe W'=>(e=.returned (.bool true)/\J [()] W'/\Below Lp W W')\/(e=.returned (.bool false)/\Jx [()] W'))(iK:1<=n - 1):
 CallsIn Fence.wide n prog 190 #[.func (.yield l) #[] #[],ptr bx] W λe W'=>(∃v,e=.returned v)/\(J [()] W'\/Jx [()] W'):=by
 have hc:=Sx (n - 1) iK l Lp sb J Jx W hY;refine callsIn_of_wp func190 rfl trivial ?_ rfl;simp only[ntmps190,List.size_toArray,List.length_cons,List.length_nil,Nat.reduceAdd,Nat.reduceSub,Array.replicate_succ,Array.replicate_zero,List.push_toArray,List.append_toArray,List.nil_append,jRh];clear hY
 gi_wp2_with fail
 refine⟨trivial,hc.mono ?_⟩;rintro e' w' ⟨⟨v,rfl⟩,hw⟩;clear hc
 gi_wp2_with fail
 go_end0
 exact⟨⟨_,rfl⟩,hw⟩
theorem Sy(n:Nat)(Lp sb bx:Nat)(w:World)(kq:bx<w.heap.size)(hb:w.cell? ⟨bx,0,none⟩=some (.iface 129 (ptr sb))):
 SeqStopsK Fence.wide (n+3) prog 190 #[ptr bx] (λ_:Unit=>#[Value.iface 129 (ptr sb),.iface 129 (ptr sb)]) (Below Lp) (λxs=>xs=[()]) (λxs=>xs=[()]) 1 w:=by
 intro l J Jx W hW _ _ hY h0;have yq:=(hW.cell (p:=⟨bx,0,none⟩) kq).trans hb;have hy:=hY [] () W h0 i6;refine(XG (n+3) m9 l Lp sb bx J Jx W yq ?_ m9).mono ?_
 ·exact Sw rfl _ hy
 ·rintro e W' ⟨he,h|h⟩
  ·exact⟨he,.inl ⟨_,rfl,h⟩⟩
  ·exact⟨he,.inr ⟨_,rfl,h⟩⟩
set_option maxRecDepth 100000 in
theorem KK:qv:=by
 intro r q pb b7 o7 n c vb sb W hn h1 h2 h3;have lk:=callsIn_wide (n:=4) |>.2 (IH pb (some ⟨b7,o7,none⟩) (n+1) c W h1);have fL:=callsIn_wide (n:=4) |>.2 (Lq pb b7 o7 (n+1) c n (ptr vb) W h1 m9 h2);have hz:(((n+1:Nat):Int)==0)=false:=by simp;omega
 refine(callsIn_wide (n:=5)).1 ?_;refine callsIn_of_wp_marks func109 rfl trivial ?_ rfl;simp only[ntmps109,List.size_toArray,List.length_cons,List.length_nil,Nat.reduceAdd,Nat.reduceSub,Array.replicate_succ,Array.replicate_zero,List.push_toArray,List.append_toArray,List.nil_append,jRh]
 gi_wp2_with fail
 refine⟨trivial,lk.mono ?_⟩;rintro e' w' ⟨rfl,rY⟩;replace rY:=rY.symm;subst rY;clear lk
 gi_wp2_with fail
 refine⟨trivial,fL.mono ?_⟩;rintro e' w' ⟨rfl,rY⟩;replace rY:=rY.symm;subst rY;clear fL;have Kq:=callsIn_wide (n:=4) |>.2 (Di _ 129 (ptr sb) (W.alloc (.cells #[.pointer none] 129)) rfl);rw[jQ3]at Kq
 gi_wp2_with fail
 refine⟨trivial,Kq.mono ?_⟩;rintro e' w' ⟨rfl,rY⟩;replace rY:=rY.symm;subst rY;clear Kq
 gi_wp2_with fail
 have hh:=aq (o:=.cells #[.iface 129 (ptr sb)] 37) (ak W (.cells #[.pointer none] 129));have hb:=jQh (ak (W.alloc (.cells #[.pointer none] 129)) (.cells #[.iface 129 (ptr sb)] 37));rw[jQ3]at hb;have gj:((W.alloc (.cells #[.pointer none] 129)).alloc (.cells #[.iface 129 (ptr sb)] 37)).heap.size=W.heap.size+2:=by rw[jQ3,jQ3]
 refine wpIn_rangeFunc_ownF (α:=Unit) rfl m9 (gf:=190) (lb:=#[ptr (W.heap.size+1)]) rfl trivial (enters_of func190 g9 rfl)
  (Sy 1 W.heap.size sb (W.heap.size+1) _ m9 hb) belowK_t (belowK_b m9) (jQ5 _ _) (λ_=>rfl)
  (λpre W'=>(W'.cell? ⟨W.heap.size,0,none⟩=some (if pre=[]then .pointer none else ptr sb)/\W'.frozen? ⟨W.heap.size,0,none⟩=false)/\Below W.heap.size W W')
  (λ_ _ _=>False)
  (OwnFrom.and (Own.from (λs A B row hs hg hr=>⟨cell_kept hs.1 hg hr,(frozen_kept hs.1 hg hr).trans hs.2⟩) _) (ownFrom_below (jQ0 _) m9))
  (λ_ _ _ _ _ hs _ _=>hs)
  ⟨⟨jQh hh,by simp[World.frozen?,hh]⟩,(an _ _).trans ((an _ _).mono (by rw[jQ3];omega))⟩
  (λ_=>?act) ?assign ?body ?done ?stop
 case assign=>
  intro l x W1 K hK
  gi_wp2
  exact hK
 case body=>
  rintro l pre x W1 ⟨⟨hc,hf⟩,hB⟩ mR;have Ft:pre=[]:=jQe m9;subst Ft;have iT:=(callsIn_wide (n:=2) |>.2 (XH sb W1)).inRound l;have mU:=(callsIn_wide (n:=2) |>.2 (ic sb W1)).inRound l;have Kr:=zJ sb;have hca:=Tryz.call305;replace hc:W1.cell? ⟨W.heap.size,0,none⟩=some (.pointer none):=hc
  gi_wp2_with fail
  refine⟨trivial,iT.mono ?_⟩;rintro e' w' ⟨rfl,rY⟩;replace rY:=rY.symm;subst rY;clear iT
  gi_wp2_with fail
  refine⟨trivial,mU.mono ?_⟩;rintro e' w' ⟨rfl,rY⟩;replace rY:=rY.symm;subst rY;clear mU Kr hca
  gi_wp2_with fail
  exact⟨KeepsOthers.setCell _ _ _,(jQ5 W.heap.size W1).setCell (p:=⟨W.heap.size,0,none⟩) (jQ0 _) _,⟨World.cell?_setCell_same' _ _ _ (by rw[hc];rfl),by rw[World.frozen?_setCell];exact hf⟩,hB.setCell (p:=⟨W.heap.size,0,none⟩) (jQ0 _) _⟩
 case done=>
  rintro D ys W2 hD rfl ⟨⟨hc,hf⟩,hB⟩ hK;replace hc:W2.cell? ⟨W.heap.size,0,none⟩=some (ptr sb):=hc
  gi_wp2
  have hDz:D<W2.heap.size:=jQ2 hK;refine⟨i6,.inl ⟨_,_,rfl,run_takeDeferred (aq hK),?_⟩⟩;refine⟨_,results_tmp rfl _ _ _,W2.heap.size,rfl,hB.size,?_,?_⟩
  ·exact(hB.trans ((an _ _).mono hB.size)).trans (belowK_b (w:=W) (jQ0 _) _ D _ _ m9 (aq hK) rfl rfl)
  ·exact((grownBy_putObj' _ D _).block W2.heap.size (by rw[jQ3];omega) (λe=>by cases e;omega)).trans (ak _ _)
 case stop=>
  rintro D c pre W2 hD _ h _;exact h.elim
end
section
variable{B:Nat}
theorem Ug(hE:Env NS Q w rs cs)(hI:cO NS Q w S D obj rs K r)(hC:dE NS Q w S D obj rs K r)(hT:dS NS Q w S D obj rs K r)(hr:r+1<=K):dS NS Q w S D obj rs K (r+1):=by
 intro E W b t p bD hs cP AB;have hJk:J rs false false (aG t)<=J rs false false t:=AZ _ _ _ _;by_cases aM:2*J rs false false t<r
 ·exact(hT E W b t p (bD.le m9) hs cP aM).mono λe W' hp=>hp.up bD m9
 have WA:isIf t=true:=by
  rcases cP with⟨-,h⟩|rfl
  ·simp[isIf,h]
  ·rfl
 have IQ:t.kind≠14:=by have:=dw WA;omega
 have hki:isIf (aG t)=true:=by unfold isIf;rw[aI IQ];exact WA
 obtain⟨ts,hIV,h2⟩:=bD.st b (aG t) hs hki m9;obtain⟨ms0,es0,KC,Hx,XQ,fP,nT,Ld,Sq⟩:=id hIV;rcases h2 with⟨rfl,kY⟩|⟨sb,rfl,fi⟩
 rotate_left
 ·rw[dX.ts (oN t) hki WA]at fi;have HP:=Z (show aV w S D obj rs K E (r+1) W (λv W'=>∃sb,v=ptr sb/\yn S D E W' sb ((fs w K).ts t)) (.returned (ptr sb)) W from⟨_,rfl,⟨sb,rfl,fi⟩,bD,Fr.refl _⟩);obtain⟨c0,c1,c2,c3,c4,c5,c6⟩:=ao XQ;clear fi bD hIV XQ fP nT Ld Sq hE hI hC hT hki WA hJk AB aM cP hs c0 c1 c2 c3 c4 c5;go_enter func50,ntmps50;exact M13
 have bH:t.kind=10:=by rw[aI IQ]at kY;exact kY
 have mR:=aW (t:=t) m9 IQ m9 m9;have hJe:J rs false false (aG t)=J rs false false t:=by
  unfold aG mC;rw[jQ4 IQ];exact xN _ _ _ _
 obtain⟨MX, -⟩:PT NS Q w 0 t/\t.kind=10:=by
  obtain h|rfl:=cP
  ·exact h
  ·simp[da,Go.Proofs.YtabjfnkfocnklaaGreatDoor.S.tk,GT.kind]at bH
 have aL:own (aG t)=own t:=by rw[mR];rfl
 have aeV:bN (aG t)=bN t:=by rw[mR];rfl
 rw[aL]at Ld;rw[aeV]at Sq;have hB:2*J rs false false t<=r:=m9
 have aeW:=abS (rs:=rs) MX bH;have hEL:=λ(kk:Nat) (e:GT) (he:(bN t)[kk]?=some e)=>Uh hE.wk hE.qp hE.te MX bH (show 2*J rs false false t<=K by omega) (hE.cn t (by
  obtain⟨-, -, -, -, -,h, -⟩:=cu (rs:=rs) (cs:=cs) (MX.ww (v':=false) (f':=false)) bH;exact h) bH) he
 have hTD:=YF hE.wk hE.qp MX bH (show 2*J rs false false t<K by omega);obtain⟨ma,mc,rfl⟩:=fP.form;obtain⟨ea,ec,rfl⟩:=nT.form;have mY:=Ld.len;have hle:=Sq.len;have ahz:=fP.max;have ahA:=nT.max;obtain⟨c0,c1,c2,c3,c4,c5,c6⟩:=ao XQ;have ly:=j1 hE (bD.le (show r<=r+1 by omega));obtain⟨gJ,HI,HC,HT,HO,HS,HKI,eQ⟩:=Z8 hE hI hC hT bD hs hki XQ;obtain⟨HIV,HR1,OV,HA1,pZ,eK,Ht,HTD⟩:=Z8 hIV fP nT Ld Sq aeW hEL hTD;clear hE hI hC hT bD hs hki XQ hIV fP nT Ld Sq aeW hEL hTD cP mR aL aeV WA c0 c1 c2 c3 c4;go_enter func50,ntmps50;go_wp2_with fail;refine ly.mono ?_;rintro e w1 ⟨v1,rfl,k1,k2,k3⟩;obtain⟨a1,d1,rfl⟩:=k1.form;have ar:w1.heap[b]?=some (.cells #[.pointer none,.slice ma KC.length mc,.slice ea Hx.length ec,.pointer none,.bool false,.bool true,.pointer none] 102 (0,0)):=by
  rcases k3.block b (jQ2 eQ.1)with e|⟨s2,_,_,q1,_,q3,_⟩|⟨_,⟨_,_,q⟩,_⟩
  ·exact e.trans eQ.1
  ·rw[HS.1]at q1;cases q1;omega
  ·rw[eQ.1]at q;cases q
 have gj:=k3.size;have j6:=jQ2 eQ.1;have cX:=aj (an w1 (.cells #[.bool false,.slice none 0 0,.slice a1 [some fu].length d1,.bool false] 122)) ar (jQ2 ar);have K3:=Z k3;have K2:=Z (k2.drop λx hx=>.inl hx:Ok w S D obj rs K E r w1);clear ly k1 k2 k3 c5 c6;go_wp2_with (refine eT rfl 100 _ _ rfl b 6 (ptr w1.heap.size) rfl rfl 102 _ cX g9 (by simp[Value.cells,Value.oneCell']) (by simp[Value.cells]) #[.pointer none,.slice ma KC.length mc,.slice ea Hx.length ec,.pointer none,.bool false,.bool true,ptr w1.heap.size] (by simp[Value.cells]) ?_);intro w3 fm;have kh:∀t w,(Instr.makeMap t none).run prog w=.ok (.map (some w.heap.size)) (w.alloc (.map #[] 0)):=mkMap;have D8:=uW;have JD:=fm.size;simp only[jQ3]at JD;generalize hn:w1.heap.size=n at*;have hN:rA w S D obj rs K E r W (((((w3.alloc (.map #[] 0)).alloc (.cells #[.map none] 181)).alloc (.cells #[.slice none 0 0] 97)).alloc (.map #[] 0)).alloc (.cells #[.map (some (n+1+1+1+1))] 182))
  b (aG t) n (n+1) (n+1+1) (n+1+1+1) (n+1+1+1+1+1) (n+1+1+1+1) none [] (.slice none 0 0) [] (.slice none 0 0):=by
  have hq:∀x,x≠n+1->x≠n+1+1->x≠n+1+1+1->x≠n+1+1+1+1->x≠n+1+1+1+1+1->(((((w3.alloc (.map #[] 0)).alloc (.cells #[.map none] 181)).alloc (.cells #[.slice none 0 0] 97)).alloc (.map #[] 0)).alloc (.cells #[.map (some (n+1+1+1+1))] 182)).heap[x]?=w3.heap[x]?:=λx h1 h2 h3 h4 h5=>by
   rw[bE,jQ4 (by(try simp only[jQ3]);omega),bE,jQ4 (by(try simp only[jQ3]);omega),bE,jQ4 (by(try simp only[jQ3]);omega),bE,jQ4 (by(try simp only[jQ3]);omega),bE,jQ4 (by(try simp only[jQ3]);omega)]
  have ahB:iJ S D w1 b (aG t) (.pointer none):=HIV.1.move (λ_ _ h=>h) (HO.1.gh.eu K3.1) (ar.trans eQ.1.symm);refine rA.start HO.1 K2.1 K3.1 gJ.1 HS.1 m9 HKI.1 ahB (tl:=.slice a1 [some fu].length d1) ?_ ?_ ?_ ?_ (λx hx bk=>?_) ?_ ?_ ?_ ?_ ?_ ?_ ?_ m9 m9 m9 m9 m9 m9 m9
  ·simp only[jQ3];omega
  ·exact fm.os
  ·exact fm.tape
  ·exact fm.output
  ·rw[hq x m9 m9 m9 m9 m9,fm.other x bk,bE,jQ4 m9]
  ·exact⟨_,_,_,_,_,_,ar,(hq b m9 m9 m9 m9 m9).trans fm.here⟩
  ·rw[hq n m9 m9 m9 m9 m9,fm.other n m9,bE,jQ7 hn.symm];rfl
  ·rw[bE,jQ4 (by(try simp only[jQ3]);omega),bE,jQ4 (by(try simp only[jQ3]);omega),bE,jQ4 (by(try simp only[jQ3]);omega),bE,jQ4 (by(try simp only[jQ3]);omega),bE,jQ7 (by(try simp only[jQ3]);omega)]
  ·rw[bE,jQ4 (by(try simp only[jQ3]);omega),bE,jQ4 (by(try simp only[jQ3]);omega),bE,jQ4 (by(try simp only[jQ3]);omega),bE,jQ7 (by(try simp only[jQ3]);omega)]
  ·rw[bE,jQ4 (by(try simp only[jQ3]);omega),bE,jQ4 (by(try simp only[jQ3]);omega),bE,jQ7 (by(try simp only[jQ3]);omega)]
  ·rw[bE,jQ7 (by(try simp only[jQ3]);omega)]
  ·rw[bE,jQ4 (by(try simp only[jQ3]);omega),bE,jQ7 (by(try simp only[jQ3]);omega)]
 have N0:=Z hN;have eP:(((((w3.alloc (.map #[] 0)).alloc (.cells #[.map none] 181)).alloc (.cells #[.slice none 0 0] 97)).alloc (.map #[] 0)).alloc (.cells #[.map (some (n+1+1+1+1))] 182)).heap[b]?=some (.cells #[.pointer none,.slice ma KC.length mc,.slice ea Hx.length ec,.pointer none,.bool false,.bool true,ptr n] 102 (0,0)):=by
  rw[bE,jQ4 (by(try simp only[jQ3]);omega),bE,jQ4 (by(try simp only[jQ3]);omega),bE,jQ4 (by(try simp only[jQ3]);omega),bE,jQ4 (by(try simp only[jQ3]);omega),bE,jQ4 (by(try simp only[jQ3]);omega)];exact fm.here
 obtain⟨-,c1, -⟩:=ao eP;clear fm cX ar hN eP;go_wp2_with fail;clear c1;have hps0:KC.length<=9223372036854775807:=ahz
 go_loopg [57] KC.length (λgg s57 wr=>∃(kk:Nat) (so:Option Nat) (ms:List GT) (mv:Value),kk<=KC.length/\KC.length - kk<=gg/\s57=.int .i64 kk/\
  Aside (rA w S D obj rs K E r W wr b (aG t) n (n+1) (n+1+1) (n+1+1+1) (n+1+1+1+1+1) (n+1+1+1+1) so ms mv [] (.slice none 0 0))/\Aside (ms=((own t).take kk).foldl lF [])/\Aside (Br NS ms))
 case atStart=>exact⟨0,none,[],.slice none 0 0,jQc _,m9,rfl,N0.1,rfl,Br.nil⟩
 case round=>
  obtain⟨kk,so,ms,mv,ez,hg,rfl,N,A,M⟩:=hrel;by_cases YG:kk<KC.length
  ·have aR:(kk:Int)<(KC.length:Int):=m9
   obtain⟨x,hx⟩:∃x,(own t)[kk]?=some x:=⟨(own t)[kk]' m9,by simp[mY,YG]⟩;obtain⟨pv,sP,ZU⟩:=HA1.1.at hx;have kB:=HO.1.gh.eu N.out.fr;obtain⟨b4,o4,rfl,kN,hc⟩:=(HR1.1.move kB).nth sP;have iA:=ZU.move (λ_ _ h=>h) kB;obtain⟨b1,aeX,pk1,v1,rfl,VZ,ar, -⟩:=id iA;obtain⟨CH,iK,YH⟩:=r7 (eK.1 x (jQ8 hx));have ag:=BZ N.out.TC (λy hy=>(N.out.sn.2 y hy).2) N.out.ok.gh.mT iA iK YH N.out.ok.gh.td N.out.fr.size (M.out.lim CH gJ.1.nsl) aeX true;have hA:lF ms x=((own t).take (kk+1)).foldl lF []:=by rw[By lF [] hx,<-A.out]
   have HA:=Z hA;have HM:=Z (M.out.add CH);have d0:wr.cell? ⟨b1,0,none⟩=some (.int .i64 aeX):=by simp[World.cell?,ar]
   clear hA hx sP ZU kB kN iA VZ ar CH iK YH;go_wp2_with fail;refine ag.mono ?_;intro e w5 xR;obtain⟨rfl,so5,mv5,Re, -, -⟩:=N.out.YI gJ.1 xR;have N5:=Z Re;clear xR Re ag;go_wp2_with fail;go_roundg (KC.length - (kk+1))
   case measure=>omega
   case rel=>exact⟨kk+1,so5,_,mv5,m9,m9,by go_num,N5.1,HA.1,HM.1⟩
  ·have aR:¬(kk:Int)<(KC.length:Int):=m9
   have hA:=A.out;rw[jR6 m9]at hA;have ag:=j1 gJ.1 N.out.ok;have R5:=Z (A.out.trans (by rw[jR6 m9]):ms=(own t).foldl lF []);go_wp2_with fail;refine ag.mono ?_;rintro e w2 ⟨v2,rfl,k1,k2,k3⟩;have hN2:=N.out.new k1 k2 k3;obtain⟨a2,d2,rfl⟩:=k1.form;have N2:=Z hN2;obtain⟨-, -,c2, -⟩:=ao (hN2.hb eQ.1);clear k1 k2 k3 hN2 ag hA;go_wp2_with fail;clear c2
   go_loopg [14,15,76] Hx.length (λgg s14 s15 s76 wr=>∃(kk:Nat) (so:Option Nat) (ms:List GT) (mv:Value) (cf:Bool),kk<=Hx.length/\Hx.length - kk<=gg/\s76=.int .i64 kk/\s15=.bool cf/\
    Aside (rA w S D obj rs K E r W wr b (aG t) n (n+1) (n+1+1) (n+1+1+1) (n+1+1+1+1+1) (n+1+1+1+1) so ms mv (cW (fs w K) w t kk).terms s14)/\Aside (Br NS ms)/\Aside (ms=(cW (fs w K) w t kk).ms)/\Aside (cf=(cW (fs w K) w t kk).comp))
   case atStart=>exact⟨0,so,ms,mv,false,jQc _,m9,rfl,rfl,N2.1,M.out,R5.1,rfl⟩
   case round=>
    clear N N2 R5 M A YG aR ez hg;obtain⟨kk,so,ms,mv,cf,ez,hg,rfl,rfl,N,M,A,AC⟩:=hrel;obtain⟨va,vc,rfl⟩:=N.out.row.form;by_cases YG:kk<Hx.length
    ·have aR:(kk:Int)<(Hx.length:Int):=m9
     obtain⟨e,he⟩:∃x,(bN t)[kk]?=some x:=⟨(bN t)[kk]' m9,by simp[hle,YG]⟩;obtain⟨pv,sP,qy⟩:=pZ.1.at he;have kB:=HO.1.gh.eu N.out.fr;obtain⟨b4,o4,rfl,kN,hc⟩:=(OV.1.move kB).nth sP;obtain⟨e1,e2,e3,e4,e5,e6,e7,e8⟩:=Ht.1 kk e he;obtain⟨-, -, -,c3, -⟩:=ao (N.out.hb eQ.1);have qN:=bj gJ.1.qp N.out.ok.gh qy (.inl ⟨2,e1⟩);obtain⟨T,f,b2,rfl,⟨hm,pC⟩,jL⟩:=qN;obtain⟨lx,Nr,HE1,HE5,HE6,HE7,HE8,XO⟩:=Z8 jL qy e1 e5 e6 e7 e8 e2;clear he sP kB kN qy e1 e2 e5 e6 e7 e8 jL;go_wp2_with fail;refine lx.1.mono ?_;rintro e' w3 ⟨v3,rfl,oE,pX⟩;replace pX:=pX.symm;subst pX;clear hc c3;by_cases xT:e.kind=12\/e.kind=13
     ·have ZY:=abD (w:=w) xT;rw[ZY]at oE;have fp:=aP 189;obtain⟨b3,rfl,eY⟩:=id oE;have htu:=abC xT;have Mb:=SC gJ.1 HI.1 HT.1 hB m9 N.out.ok 0 eY xT (PO HE1.1 xT XO.1 e4 e3) N.out.us;have jF:=(rZ (w:=w) (K:=K) xT).1;have Oe:=PK (w:=w) (F:=fs w K) xT;have RA:=Z jF;have DH:=Z Oe;clear eY oE ZY xT jF Oe;rw[htu];clear htu;have ahC:=fp (ptr b3) 37 wr i5;clear fp;go_wp2_with fail;refine Mb.mono ?_;rintro e' w4 ⟨v4,rfl,⟨tb4,rfl,⟨inv4,tl4,k1,k2,k3,k4⟩,k5⟩,g1,g2⟩;have hN4:=N.out.go g1 g2 k5;rw[RA.1]at k3 k4;obtain⟨q0,q1,q2,q3⟩:=dx k1;cases PZ:unionTerms (fs w K) w [] (Kt e)with
      |none=>
       have hi4:=k3 PZ;subst hi4;have cH:cW (fs w K) w t (kk+1)=cW (fs w K) w t kk:=by rw[HE7.1,DA];rw[DH.1,PZ];rfl
       have eF:=Z cH;have N4:=Z hN4;clear cH hN4 k1 k2 k3 k4 k5 g1 g2 Mb PZ q1 q2 q3;go_wp2_with fail;go_roundg (Hx.length - (kk+1))
       case measure=>omega
       case rel=>exact⟨kk+1,_,_,_,_,m9,m9,by go_num,rfl,(by rw[eF.1];exact N4.1),M.out,(by rw[eF.1];exact A.out),(by rw[eF.1];exact AC.out)⟩
      |some q4=>
       obtain⟨hi4,abT⟩:=k4 q4 PZ;subst hi4;have cH:=(DH.1.trans (by rw[PZ];rfl):gu (fs w K) w e=some ⟨[],q4,false⟩);obtain⟨Q1,h82,h83,h84⟩:=HE8.1 _ cH;have hE7:=HE7.1;rw[nO cH]at hE7;have gO:=bO w4;obtain⟨a8,d8,rfl⟩:=abT.form;have xA:=Z abT;have B0:=Z (show ms=(cW (fs w K) w t (kk+1)).ms/\(cW (fs w K) w t (kk+1)).terms=(eJ (FF w K) w (λt=>(fs w K).cmp t false) (cW (fs w K) w t kk).terms cf q4 false).1/\(eJ (FF w K) w (λt=>(fs w K).cmp t false) (cW (fs w K) w t kk).terms cf q4 false).2=(cW (fs w K) w t (kk+1)).comp by
        rw[hE7,AC.out];exact⟨A.out,rfl,rfl⟩)
       have CS:=Z (show NF q4/\TL (jH NS Q w rs (J rs false false t)) q4/\(cW (fs w K) w t kk).terms.length*q4.length<=100000000 from⟨Q1,h82,h83⟩);clear N;have N:=Z hN4;clear hE7 cH Q1 h82 h83 h84 abT hN4 k1 k2 k3 k4 k5 g1 g2 Mb PZ;go_wp2_with fail;refine rv gO ?_;go_wp2_with fail;refine rv gO ?_;clear gO;have ag:=pK gJ.1 HI.1 HC.1 hB N.out.ok N.out.row xA.1 HE5.1.terms CS.1.2.1 (by have:=CS.1.2.2;omega) HE6.1 CS.1.1 cf (false);go_wp2_with fail
       with_reducible refine ag.mono ?_
       rintro e9 w9 ⟨v9,rfl,k1,k2,k3⟩;have N9:=Z (N.out.new k1 k2 k3);obtain⟨a9',c9',rfl⟩:=k1.form;clear ag k1 k2 k3;go_wp2_with fail;go_roundg (Hx.length - (kk+1))
       case measure=>omega
       case rel=>exact⟨kk+1,_,_,_,_,m9,m9,by go_num,rfl,(by rw[B0.1.2.1];exact N9.1),M.out,B0.1.1,B0.1.2.2⟩
     ·have abU:e.kind≠12:=λh=>xT (.inl h);have abV:e.kind≠13:=λh=>xT (.inr h);have Ft:=Yl HE1.1 abU abV;cases hi:isIf (az w e)with
      |true=>
       have cH:=PN (F:=fs w K) abU abV hi;obtain⟨Q1,h82,h83,h84⟩:=HE8.1 _ cH;obtain⟨b3,rfl,eY⟩:=id oE;have fk:=gU N.out.ok.gh Nr.1;have gO:=bO wr;have ig:=HT.1 _ wr b3 (az w e) 0 N.out.ok eY (jO gJ.1.wk gJ.1.qp Ft hi) (by have:=(jh gJ.1.wk gJ.1.qp Ft (rs:=rs)).1;omega);have ht3:=jo hi;obtain⟨eF,H81,H82,H83,H84⟩:=Z5 (nO (w:=w) (a:=cW (fs w K) w t kk) cH) Q1 h82 h83 h84;clear cH Q1 h82 h83 h84 eY oE hi Ft;rw[ht3];clear ht3;go_wp2_with fail;refine rv fk ?_;go_wp2_with fail;refine rv gO ?_;go_wp2_with fail;refine ig.mono ?_;rintro e' w4 ⟨v4,rfl,⟨sb,rfl,fi⟩,g1,g2⟩;have N4:=Z (N.out.go0 g1 g2);obtain⟨msv,tlv,P1,hX⟩:∃msv tlv P1,TsX S D (EC E n (n+1+1) (n+1+1+1) (n+1+1+1+1+1) (n+1+1+1+1) so mv) w4 sb ((fs w K).ts (az w e)) msv tlv P1:=fi;obtain⟨-, -, -,k1, -,k3,k4,k5⟩:=id hX;obtain⟨a9,d9,rfl⟩:=k3.form;obtain⟨a8,d8,rfl⟩:=k5.form;obtain⟨-,q1,q2,q3⟩:=dx k1;have hl9:=k4.len;have hm9:=k3.max;have HX:=Z hX;clear hX k1 k3 k4 k5 g1 g2 fk gO ig;go_wp2_with fail;clear q1 q2 q3
       go_loopg [124] P1.length (λgg s124 wr5=>∃(jj:Nat) (so5:Option Nat) (ms5:List GT) (mv5:Value),jj<=P1.length/\P1.length - jj<=gg/\s124=.int .i64 jj/\
        Aside (rA w S D obj rs K E r W wr5 b (aG t) n (n+1) (n+1+1) (n+1+1+1) (n+1+1+1+1+1) (n+1+1+1+1) so5 ms5 mv5 (cW (fs w K) w t kk).terms (.slice va (cW (fs w K) w t kk).terms.length vc))/\
        Aside (TsX S D (EC E n (n+1+1) (n+1+1+1) (n+1+1+1+1+1) (n+1+1+1+1) so5 mv5) wr5 sb ((fs w K).ts (az w e)) (.slice a9 P1.length d9) (.slice a8 ((fs w K).ts (az w e)).terms.length d8) P1)/\
        Aside (ms5=(((fs w K).ts (az w e)).meths.take jj).foldl lF (cW (fs w K) w t kk).ms)/\Aside (Br NS ms5))
       case atStart=>exact⟨0,so,ms,mv,jQc _,m9,rfl,N4.1,HX.out,A.out,M.out⟩
       case round=>
        clear N4 HX N A M;obtain⟨jj,so5,ms5,mv5,X1,hg5,rfl,N,HX,A,M⟩:=hrel;by_cases vl:jj<P1.length
        ·have aeY:(jj:Int)<(P1.length:Int):=m9
         obtain⟨-, -, -, -, -,k3,k4, -⟩:=id HX.out;obtain⟨m5,Dk⟩:∃x,((fs w K).ts (az w e)).meths[jj]?=some x:=⟨((fs w K).ts (az w e)).meths[jj]' m9,by simp[hl9,vl]⟩;obtain⟨pv,sP,iA⟩:=k4.at Dk;obtain⟨b5,o5,rfl, -,Ss⟩:=k3.nth sP;obtain⟨b6,pos6,pk6,v6,rfl, -⟩:=id iA;obtain⟨CH,iK,YH⟩:=r7 (H84.1 m5 (jQ8 Dk));have ag:=BZ N.out.TC (λy hy=>(N.out.sn.2 y hy).2) N.out.ok.gh.mT iA iK YH N.out.ok.gh.td N.out.fr.size (M.out.lim CH gJ.1.nsl) 0 false;have hA:lF ms5 m5=(((fs w K).ts (az w e)).meths.take (jj+1)).foldl lF (cW (fs w K) w t kk).ms:=by rw[By lF _ Dk,<-A.out]
         have HA:=Z hA;have HM:=Z (M.out.add CH);clear hA Dk sP k3 k4 iA CH iK YH;go_wp2_with fail;refine ag.mono ?_;intro e' w5 xR;obtain⟨rfl,so6,mv6,Re,kC,he5⟩:=N.out.YI gJ.1 xR;have hX5:=HX.out.step kC (λx hx=>.inr (.inr hx)) (λx hx=>⟨hx,kC.block x (N.out.ok.gh.mT x hx) λe=>(N.out.sn.2 x e).2 hx⟩) (λx hx=>(he5 x hx).imp id λh=>h.1);have N5:=Z Re;have X5:=Z hX5;clear xR Re ag hX5 kC he5;go_wp2_with fail;go_roundg (P1.length - (jj+1))
         case measure=>omega
         case rel=>exact⟨jj+1,so6,_,mv6,m9,m9,by go_num,N5.1,X5.1,HA.1,HM.1⟩
        ·have aeY:¬(jj:Int)<(P1.length:Int):=m9
         have hA:=A.out;rw[jR6 m9]at hA;obtain⟨-, -, -,k1, -, -, -,k5⟩:=id HX.out;obtain⟨-, -,q2, -⟩:=dx k1;have xA:=Z k5;have B0:=Z (show ms5=(cW (fs w K) w t (kk+1)).ms/\(cW (fs w K) w t (kk+1)).terms=(eJ (FF w K) w (λt=>(fs w K).cmp t false) (cW (fs w K) w t kk).terms cf ((fs w K).ts (az w e)).terms ((fs w K).ts (az w e)).comp).1/\(eJ (FF w K) w (λt=>(fs w K).cmp t false) (cW (fs w K) w t kk).terms cf ((fs w K).ts (az w e)).terms ((fs w K).ts (az w e)).comp).2=(cW (fs w K) w t (kk+1)).comp by
          rw[HE7.1,eF.1,AC.out];exact⟨hA,rfl,rfl⟩)
         have CS:=Z (show NF ((fs w K).ts (az w e)).terms/\TL (jH NS Q w rs (J rs false false t)) ((fs w K).ts (az w e)).terms/\(cW (fs w K) w t kk).terms.length*((fs w K).ts (az w e)).terms.length<=100000000 from⟨H81.1,H82.1,H83.1⟩);clear hA k1 k5;have ag:=pK gJ.1 HI.1 HC.1 hB N.out.ok N.out.row xA.1 HE5.1.terms CS.1.2.1 (by have:=CS.1.2.2;omega) HE6.1 CS.1.1 cf (((fs w K).ts (az w e)).comp);go_wp2_with fail
         with_reducible refine ag.mono ?_
         rintro e9 w9 ⟨v9,rfl,k1,k2,k3⟩;have N9:=Z (N.out.new k1 k2 k3);obtain⟨a9',c9',rfl⟩:=k1.form;clear ag k1 k2 k3;go_wp2_with fail;go_roundg (Hx.length - (kk+1))
         case measure=>omega
         case rel=>exact⟨kk+1,_,_,_,_,m9,m9,by go_num,rfl,(by rw[B0.1.2.1];exact N9.1),M.out,B0.1.1,B0.1.2.2⟩
      |false=>
       have cH:=LU (F:=fs w K) abU abV hi;obtain⟨Q1,h82,h83,h84⟩:=HE8.1 _ cH;have hE7:=HE7.1;rw[nO cH]at hE7;obtain⟨b3,rfl,eY⟩:=id oE;have tL:=Yk gJ.1 Ft;have ahC:=aP (tid (az w e).kind) (ptr b3) 37 wr (kO hi (Np gJ.1 Ft));have aeZ:=mG (tid (az w e).kind) (ptr b3) 37 wr (Yj tL.1 tL.2);have Pj:=fE gJ.1.wk gJ.1.qp Ft hi;have tM:=dy N.out.ok.gh oE (AE gJ.1.qp Pj);have yx:=kA N.out.ok.gh;have hT8:TmV S (wr.alloc (.cells #[.bool false,.iface T (ptr b2)] 154)) (some ⟨false,some e⟩) (ptr wr.heap.size):=⟨_,_,_,rfl,yx,ak _ _,.inl rfl,Nr.1⟩;have hB8:=an wr (.cells #[.bool false,.iface T (ptr b2)] 154);have hN8:=N.out.below gJ.1 hB8;have xA:=Z (show lS S ((wr.alloc (.cells #[.bool false,.iface T (ptr b2)] 154)).alloc (.cells #[ptr wr.heap.size] 152)) [some ⟨false,some e⟩] (.slice (some ⟨wr.heap.size+1,0,none⟩) 1 1)by
        have h:=FQ hT8 (kA hN8.ok.gh);rw[jQ3]at h;exact h)
       have Hs:=hN8.below gJ.1 (an (wr.alloc (.cells #[.bool false,.iface T (ptr b2)] 154)) (.cells #[ptr wr.heap.size] 152));have B0:=Z (show ms=(cW (fs w K) w t (kk+1)).ms/\(cW (fs w K) w t (kk+1)).terms=(eJ (FF w K) w (λt=>(fs w K).cmp t false) (cW (fs w K) w t kk).terms cf [some ⟨false,some e⟩] false).1/\(eJ (FF w K) w (λt=>(fs w K).cmp t false) (cW (fs w K) w t kk).terms cf [some ⟨false,some e⟩] false).2=(cW (fs w K) w t (kk+1)).comp by
        rw[hE7,AC.out];exact⟨A.out,rfl,rfl⟩)
       have CS:=Z (show NF [some ⟨false,some e⟩]/\TL (jH NS Q w rs (J rs false false t)) [some ⟨false,some e⟩]/\(cW (fs w K) w t kk).terms.length*[some (⟨false,some e⟩:Tm)].length<=100000000 from⟨Q1,h82,h83⟩);clear N;have N:=Z Hs;generalize tid (az w e).kind=T3 at*;clear hE7 cH Q1 h82 h83 h84 hN8 Hs hT8 hB8 yx Pj tL eY oE hi Ft;go_wp2_with fail;refine rv tM ?_;clear tM;have ag:=pK gJ.1 HI.1 HC.1 hB N.out.ok N.out.row xA.1 HE5.1.terms CS.1.2.1 (by have:=CS.1.2.2;omega) HE6.1 CS.1.1 cf (false);go_wp2_with fail
       with_reducible refine ag.mono ?_
       rintro e9 w9 ⟨v9,rfl,k1,k2,k3⟩;have N9:=Z (N.out.new k1 k2 k3);obtain⟨a9',c9',rfl⟩:=k1.form;clear ag k1 k2 k3;go_wp2_with fail;go_roundg (Hx.length - (kk+1))
       case measure=>omega
       case rel=>exact⟨kk+1,_,_,_,_,m9,m9,by go_num,rfl,(by rw[B0.1.2.1];exact N9.1),M.out,B0.1.1,B0.1.2.2⟩
    ·have aR:¬(kk:Int)<(Hx.length:Int):=m9
     have ahD:=Z (show(fs w K).ts t=⟨ib (cW (fs w K) w t kk).ms,(cW (fs w K) w t kk).terms,(cW (fs w K) w t kk).comp⟩/\uR NS Q w rs (J rs false false t) (cW (fs w K) w t kk)by
      have hkv:kk=(bN t).length:=m9
      have hTD:=HTD.1;rw[<-hkv]at hTD;exact hTD)
     obtain⟨-, -, -, -, -, -,c6⟩:=ao (N.out.hb eQ.1);obtain⟨tl0,abW⟩:=N.out.ts;have ahE:=Z abW;go_wp2_with (refine eT rfl 4 _ _ rfl n 3 (.bool cf) rfl rfl 122 _ ahE.1 g9 (by simp[Value.cells,Value.oneCell']) (by simp[Value.cells]) #[.bool false,.slice none 0 0,tl0,.bool cf] (by simp[Value.cells]) ?_);intro w5 kC;obtain⟨P1,jR,Ui⟩:=N.out.TC.row;obtain⟨JE,JF,rfl⟩:=pL jR;have iD:w5.heap[b]?=some (.cells #[.pointer none,.slice ma KC.length mc,.slice ea Hx.length ec,.pointer none,.bool false,.bool true,ptr n] 102 (0,0)):=(kC.other b m9).trans (N.out.hb eQ.1);obtain⟨-, -, -, -, -, -,c65⟩:=ao iD;have zG:w5.heap[n+1+1+1]?=some (.cells #[.slice JE ms.length JF] 97 (0,0)):=(kC.other _ m9).trans N.out.TC.b9;have c95:=jQh zG;obtain⟨YJ,YK⟩:=ahD.1;have xn:Value.ownBlock (.slice JE ms.length JF)≠some n:=λe=>N.out.nt (.inr (.inr (.inr (.inr (.inr e)))));cases ms with
     |nil=>
      have Uj:=Z kC;have Mc:=Z YJ;clear kC jR Ui zG YJ YK iD c6 abW;go_wp2_with (refine eT rfl 119 _ _ rfl n 2 (.slice va (cW (fs w K) w t kk).terms.length vc) rfl rfl 122 _ Uj.1.here g9 (by simp[Value.cells,Value.oneCell']) (by simp[Value.cells]) #[.bool false,.slice none 0 0,.slice va (cW (fs w K) w t kk).terms.length vc,.bool cf] (by simp[Value.cells]) ?_);intro w6 wT;have gS:w6.heap[b]?=some (.cells #[.pointer none,.slice ma KC.length mc,.slice ea Hx.length ec,.pointer none,.bool false,.bool true,ptr n] 102 (0,0)):=(wT.other b m9).trans ((Uj.1.other b m9).trans (N.out.hb eQ.1));obtain⟨-, -, -, -, -, -,c66⟩:=ao gS;have ae0:=Uj.1.trans wT;have hA:=A.out;have hAC:=AC.out;have HP:=Z (rA.fin HO.1 bH N.out gJ.1 ((iN.put ae0 λEk t' f hc=>N.out.ont n (.inl rfl) Ek t' f hc).wide (λx hx=>.inl hx) N.out.ont) (msv:=.slice none 0 0) (ps:=[]) (by rw[Mc.1,<-hAC];exact wT.here) (.inl ⟨rfl,none,0,rfl,λ_=>rfl⟩) (by rw[Mc.1,<-hA];show All2 _ (ib []) [];rw[show ib []=[]by simp[ib]];trivial) (λad n c e=>by cases e) (by rw[Mc.1]));clear wT ae0 gS hA hAC c65 c95;exact M13
     |cons m0 ml=>
      have hA:=A.out;have hAC:=AC.out;have Kr:∀m∈m0::ml,VW NS Q w rs (J rs false false t) m:=by rw[hA];exact YK.ms
      have uu:((m0::ml).map (·.name)).Nodup:=by rw[hA];exact YK.nodup
      have ZL:(m0::ml).length<=1099511627776:=by
       have:=kE uu (m:=NS) λa ha=>by
        obtain⟨x,hx,rfl⟩:=jQu.1 ha;exact(r7 (Kr x hx)).1
       have:=gJ.1.nsl;rw[jR7]at*;omega
      have abX:au D D wr w5:=λx hx=>⟨hx,kC.other x λe=>(N.out.ok.own n (.inr (.inl rfl))).2.1 (e▸hx)⟩;have aaB:w5.ownsRow W.heap.size 95 1 (.slice JE (m0::ml).length JF) (m0::ml).length P1:=jb jR λg hg=>kC.other g λe=>xn (e▸hg);have ag:=yt aaB (Ui.imp λm p hp=>hp.move (λ_ _ h=>h) abX) i6 (λm hm=>(r7 (Kr m hm)).2) uu ZL (λg hg=>(N.out.sn.2 g (.inr (.inr (.inr (.inr (.inr hg)))))).2) (N.out.ok.gh.mT.mono (jQz kC.size.symm)) (N.out.ok.gh.td.move abX);obtain⟨Uj,Mc,HA9,HAC9,xx,ZS⟩:=Z6 kC YJ hA hAC iD zG;have hmlz:¬((ml.length:Int)+1=0):=m9
      clear kC jR Ui zG YJ YK iD c6 abW hA hAC Kr uu aaB abX;go_wp2_with fail;refine ag.mono ?_;rintro e w6 ⟨rfl,⟨ps6,lj,aaC⟩,wT⟩;have hv9:Value.ownBlock (.slice JE (m0::ml).length JF)≠some (n+1+1+1):=N.out.TC.vne.2.1;have gS:w6.heap[b]?=some (.cells #[.pointer none,.slice ma KC.length mc,.slice ea Hx.length ec,.pointer none,.bool false,.bool true,ptr n] 102 (0,0)):=(wT.block b (jQ2 xx.1) λe=>by have:=N.out.lp b (.inr (.inr (.inr (.inr (.inr e)))));omega).trans xx.1;have ae1:w6.heap[n+1+1+1]?=some (.cells #[.slice JE (m0::ml).length JF] 97 (0,0)):=(wT.block _ (jQ2 ZS.1) hv9).trans ZS.1;have JA:w6.heap[n]?=some (.cells #[.bool false,.slice none 0 0,tl0,.bool cf] 122 (0,0)):=(wT.block n (jQ2 Uj.1.here) xn).trans Uj.1.here;obtain⟨-, -, -, -, -, -,c66⟩:=ao gS;have c96:=jQh ae1;obtain⟨-,c16, -, -⟩:=dx JA;have f16:=cd JA 1;obtain⟨vX,ae2,HP6,HB6,HN6⟩:=Z5 lj aaC wT gS JA;clear lj aaC wT gS ae1 JA ag c65 c95;go_wp2_with fail
      go_region
      have Uk:=aw HN6.1 1 (.slice JE (ml.length+1) JF);have hp7:kT n #[.bool false,.slice JE (ml.length+1) JF,tl0,.bool cf] 122 w6 (w6.setCell ⟨n,1,none⟩ (.slice JE (ml.length+1) JF)).drew:=by
       simp at Uk;exact⟨Uk.here,Uk.other,Uk.size,Uk.os,Uk.tape,Uk.output⟩
      clear Uk c16 f16 c66 c96;generalize(w6.setCell ⟨n,1,none⟩ (.slice JE (ml.length+1) JF)).drew=w7 at hp7⊢;have ek:w7.heap[b]?=some (.cells #[.pointer none,.slice ma KC.length mc,.slice ea Hx.length ec,.pointer none,.bool false,.bool true,ptr n] 102 (0,0)):=(hp7.other b m9).trans HB6.1;obtain⟨-, -, -, -, -, -,c67⟩:=ao ek;have HP7:=Z hp7;clear hp7 ek;go_wp2_with (refine eT rfl 119 _ _ rfl n 2 (.slice va (cW (fs w K) w t kk).terms.length vc) rfl rfl 122 _ HP7.1.here g9 (by simp[Value.cells,Value.oneCell']) (by simp[Value.cells]) #[.bool false,.slice JE (ml.length+1) JF,.slice va (cW (fs w K) w t kk).terms.length vc,.bool cf] (by simp[Value.cells]) ?_);intro w8 WC;have nN:w8.heap[b]?=some (.cells #[.pointer none,.slice ma KC.length mc,.slice ea Hx.length ec,.pointer none,.bool false,.bool true,ptr n] 102 (0,0)):=(WC.other b m9).trans ((HP7.1.other b m9).trans HB6.1);obtain⟨-, -, -, -, -, -,c68⟩:=ao nN;have JG:=HP7.1.trans WC;have yx:=N.out.sn;have oX:=(iN.put Uj.1 λEk t' f hc=>N.out.ont n (.inl rfl) Ek t' f hc).wide (E2:=λx=>x=n\/Value.ownBlock (.slice JE (m0::ml).length JF)=some x) (λx hx=>.inl hx) N.out.ont;have ae3:∀x,(x=n\/Value.ownBlock (.slice JE (m0::ml).length JF)=some x)->∀cs t f,w5.heap[x]?=some (.cells cs t f)->t≠154/\t≠234:=by
       rintro x hx cs t' f hc;by_cases hxn:x=n
       ·rw[hxn,Uj.1.here]at hc;cases hc;decide
       ·rw[Uj.1.other x hxn]at hc;exact N.out.ont x hx cs t' f hc
      have Rh:=HP6.1.wide (E2:=λx=>x=n\/Value.ownBlock (.slice JE (m0::ml).length JF)=some x) (λx hx=>.inr hx) ae3;have hv8:iN (λx=>x=n\/Value.ownBlock (.slice JE (m0::ml).length JF)=some x) wr w8:=by
       have h56:=oX.trans Rh;refine⟨JG.os.trans h56.os,JG.tape.trans h56.tape,JG.output.trans h56.output,jQd h56.size (jQz JG.size.symm),λx hx hn=>?_,N.out.ont⟩;exact(JG.other x λe=>hn (.inl e)).trans (h56.block x hx hn)
      have gP:(m0::ml).length=ml.length+1:=rfl;have pT:(ib (m0::ml)).length=ml.length+1:=by rw[(tz _).length_eq];rfl
      have yu:∀g,Value.ownBlock (.slice JE (m0::ml).length JF)=some g->S g=none:=λg hg=>(yx.2 g (.inr (.inr (.inr (.inr (.inr hg)))))).1;have aaD:w8.ownsRow W.heap.size 95 1 (.slice JE (m0::ml).length JF) (ib (m0::ml)).length ps6:=jb vX.1 λg hg=>JG.other g λe=>xn (e▸hg);have ae4:au D D w6 w8:=λx hx=>⟨hx,JG.other x λe=>(N.out.ok.own n (.inr (.inl rfl))).2.1 (e▸hx)⟩;have hA:=A.out;have hAC:=AC.out;have HP:=Z (rA.fin HO.1 bH N.out gJ.1 hv8 (msv:=.slice JE (m0::ml).length JF) (ps:=ps6) (by rw[Mc.1,<-hAC];exact WC.here) (yK aaD yu) (by rw[Mc.1,<-hA];exact ae2.1.imp λm p hp=>hp.move (λ_ _ h=>h) ae4)
       (λad nn c e hn hl=>by
        have:=N.out.lp ad.block (.inr (.inr (.inr (.inr (.inr (by rw[e];rfl))))));omega) (by rw[Mc.1]))
      clear WC JG nN hA hAC oX Rh hv8 ae3 aaD ae4 yu pT gP yx c67;go_wp2_with fail;go_ret;exact HP.1
end
theorem Pw(mb:Nat)(w:World):(binOp .eql 156 (.map (some mb)) (.map none)).run prog w=.ok (.bool false) w:=g9
theorem Px(w:World):(binOp .eql 156 (.map none) (.map none)).run prog w=.ok (.bool true) w:=g9
theorem LI(hE:Env NS Q w rs cs)(hC:dE NS Q w S D obj rs K r)(hT:dS NS Q w S D obj rs K r)(hr:r+1<=K):dE NS Q w S D obj rs K (r+1):=by
 intro E G W v t d so bD hv MX AB mw hG;show Calls _ _ _ _ (Dx w S D obj rs K E G (r+1) so W t d);obtain⟨b,rfl,hs⟩:=id hv;have Wg:=Z (Py (rs:=rs) hE MX);have Et:=Z (show(fs w K).cmp t d=bX (fs w K) w t d from abp hE hr MX AB);have hkt:=AZ rs true false t;have HG:=Z (show∀q s,(G q\/q=b)->S q=some s->J rs true false (aG t)<=J rs true false s from λq s hq oC=>by
  obtain hq|rfl:=hq
  ·have:=hG q s hq oC;omega
  ·rw[hs]at oC;cases oC;exact jQ0 _)
 have I3:okTid (tid t.kind)=true:=Eu _;obtain⟨HE,HC,HT,Nr,nX,HS⟩:=Z6 hE hC hT hv MX hs;cases so with
 |none=>
  have hl:=Pz (W:=W) (a:=b) I3;have kh:(Instr.makeMap 156 none).run prog W=.ok (.map (some W.heap.size)) (W.alloc (.map #[] 0)):=rfl;have heq:=Px W;have ar:=an W (.map #[] 0);have mx:=bD.below hE.hs ar;obtain⟨w4,IP,gF⟩:=SZ (es:=#[]) (.bool true) mx.gh (ak W _) (λe he=>by simp at he) hs I3 rfl;have hN:Hu w S D obj rs K E G (r+1) none W w4 b W.heap.size d:=Hu.start bD hE hs (Below.fr ar) mx (ak W _) (λe he=>by simp at he) gF;generalize Ev:W.heap.size=mb at*;have HM:=Z (show XV none mb W from .inr ⟨rfl,jQz Ev⟩);have N:=Z hN;clear hN bD hv MX mw hG hE hC hT mx ar gF hs;go_enter func32,ntmps32;have qN:=bj HE.1.qp N.1.ok.gh Nr.1 (.inl ⟨0,nX.1⟩);obtain⟨T,f,b2,e2,⟨hm,pC⟩,jL⟩:=qN;simp at e2;obtain⟨rfl,rfl⟩:=e2;have lx:=Z jL;clear jL;go_wp2_with fail;refine lx.1.mono ?_;rintro e' w5 ⟨v3,rfl,oE,gW⟩;replace gW:=gW.symm;subst gW;obtain⟨b3,rfl,eY⟩:=id oE;have hU:=(lq (rs:=rs) HE.1.wk HE.1.qp nX.1).1;rcases gK HE.1 nX.1 with hk|hk|hk|hk|hk|hk|hk|hk|hk
  ·exact M29
  ·have iW:tid (az w t).kind=127:=by rw[hk];rfl
   rw[iW];clear iW;have dB:=aY 127 (ptr b3) 37 w4 i5;have dn:=aT 127 (ptr b3) 37 w4 i5;have jY:=ed 127 (ptr b3) 37 w4 i5;have eW:=bd 127 (ptr b3) 37 w4 i5;have ql:PT NS Q w 0 (az w t):=M74
   have jC:=aW (t:=az w t) m9 m9 m9 m9;have ez:(aG (az w t)).kind=(az w t).kind:=aI m9;obtain⟨v5,e5,g1,aZ,LJ⟩:=(N.1.ok.gh.node b3 _ eY).2.2.1 (by rw[ez];exact hk);have jF:(aG (az w t)).elems=(az w t).elems:=by rw[jC];rfl
   rw[jF]at g1;obtain⟨p1,p2⟩:=ov (rs:=rs) ql (.inr hk) e5 (by rw[g1];simp);have iZ:(fs w K).cmp t d=(fs w K).cmp e5 d:=by rw[Et.1];unfold bX;simp[hk,g1,isIf]
   have c1:w4.cell? ⟨b3,1,none⟩=some v5:=by simp[World.cell?,aZ]
   have ag:=HC.1 E (λq=>G q\/q=b) w4 v5 e5 d (some mb) (N.1.ok.le m9) LJ p1 (by have:=Wg.1.1;have:=AZ rs true false t;omega) N.1.seen (λq s hq hs=>by have:=HG.1 q s hq hs;have:=Wg.1.1;omega);obtain⟨b5,rfl,Q3⟩:=id LJ;generalize tid e5.kind=T5 at*;have vD:=Z iZ;clear ql jC ez jF aZ iZ oE eY hU hk g1 p1 p2 Q3 LJ;go_wp2_with fail;refine ag.mono ?_;rintro e' w6 ⟨u6,rfl,hu6,g1,g2⟩;replace g1:=N.1.ok.up g2 g1;replace g2:=g2.mono (show r<=r+1 by omega);clear ag;rcases hu6 with⟨rfl,yY,vE⟩|⟨q6,rfl,yY⟩
   ·exact M183
   ·have N6:=Z (show∀w',Below w6.heap.size w6 w'->∀q,Dx w S D obj rs K E G (r+1) none W t d (.returned (ptr q)) w' from λw' hb q=>⟨_,rfl,.inr ⟨q,rfl,vD.1.trans yY⟩,g1.below HE.1.hs hb,((N.1.fr.trans g2).trans (Below.fr hb)).sub (λx e=>by cases e;obtain h|h:=HM.1;exact .inl h;exact .inr h.2)⟩);exact M89
  ·exact M57
  ·have iW:tid (az w t).kind=161:=by rw[hk];rfl
   rw[iW];clear iW;have dB:=aY 161 (ptr b3) 37 w4 i5;have dn:=aT 161 (ptr b3) 37 w4 i5;have jY:=ed 161 (ptr b3) 37 w4 i5;have ql:PT NS Q w 0 (az w t):=M74
   have jC:=aW (t:=az w t) m9 m9 m9 m9;have ez:(aG (az w t)).kind=(az w t).kind:=aI m9;obtain⟨fs5,tg5,iw,aZ,oY, -,sB⟩:=(N.1.ok.gh.node b3 _ eY).2.2.2.2.1 (by rw[ez];exact hk);have jF:(aG (az w t)).elems=(az w t).elems:=by rw[jC];rfl
   rw[jF]at sB;have Tb:=λe he=>ov (rs:=rs) ql (.inl hk) e he;have iZ:(fs w K).cmp t d=(az w t).elems.all λe=>(fs w K).cmp e d:=by rw[Et.1];unfold bX;simp[hk,isIf]
   obtain⟨a5,d5,rfl⟩:=oY.form;have Kx:=sB.len;have Dk:=oY.max;have c0:w4.cell? ⟨b3,0,none⟩=some (.slice a5 iw.length d5):=by simp[World.cell?,aZ]
   obtain⟨vD,LA,LB,abq,N0⟩:=Z5 iZ oY sB Tb N.1;clear ql jC ez jF aZ iZ oE eY hU hk oY sB Tb;go_wp2_with fail;clear c0
   go_loopg [51] iw.length (λgg s51 wr=>∃kk:Nat,kk<=iw.length/\iw.length - kk<=gg/\s51=.int .i64 kk/\Aside (Hu w S D obj rs K E G (r+1) none W wr b mb d)/\Aside (bZ (λx=>some mb=some x) S rs (r+1) w4 wr)/\Aside (((az w t).elems.drop kk).all (λe=>(fs w K).cmp e d)=(az w t).elems.all λe=>(fs w K).cmp e d))
   case atStart=>exact⟨0,jQc _,m9,rfl,N.1,bZ.refl _,rfl⟩
   case round=>
    obtain⟨kk,ez,hg,rfl,N5,F5,A5⟩:=hrel;by_cases vl:kk<iw.length
    ·have aR:(kk:Int)<(iw.length:Int):=m9
     obtain⟨x,hx⟩:∃x,(az w t).elems[kk]?=some x:=⟨(az w t).elems[kk]' m9,by simp[Kx,vl]⟩;obtain⟨pv,sP,El⟩:=LB.1.at hx;have kB:=N0.1.ok.gh.eu F5.out;obtain⟨b6,o6,rfl, -,yY⟩:=(LA.1.move kB).nth sP;obtain⟨b7,Pm,pk7,v7,k7,rfl,Rf,ek,tO⟩:=El.move (λ_ _ h=>h) kB;have c3:wr.cell? ⟨b7,3,none⟩=some v7:=by simp[World.cell?,ek]
     obtain⟨p1,p2⟩:=abq.1 x (jQ8 hx);have hA:=A5.out;rw[cZ hx,jRl]at hA;have ag:=HC.1 E (λq=>G q\/q=b) wr v7 x d (some mb) (N5.out.ok.le m9) tO p1 (by have:=Wg.1.1;have:=AZ rs true false t;omega) N5.out.seen (λq s hq hs=>by have:=HG.1 q s hq hs;have:=Wg.1.1;omega);obtain⟨b8,rfl, -⟩:=id tO;have abr:S b7=none:=M204
     generalize tid x.kind=T8 at*;have HA:=Z hA;have zM:=Z ek;clear hx sP El kB ek tO p1 p2 hA;go_wp2_with fail;refine ag.mono ?_;rintro e' w6 ⟨u6,rfl,hu6,g1,g2⟩;replace g1:=N5.out.ok.up g2 g1;replace g2:=g2.mono (show r<=r+1 by omega);clear ag;rcases hu6 with⟨rfl,A1,vE⟩|⟨q6,rfl,A1⟩
     ·exact M75
     ·have c36:w6.cell? ⟨b7,3,none⟩=some (.iface T8 (ptr b8)):=g2.cell abr c3;have Tc:(fs w K).cmp t d=false:=by have:=HA.1;rw[A1,Bool.false_and]at this;exact vD.1.trans this.symm
      have N6:=Z (show∀w',Below w6.heap.size w6 w'->∀q,Dx w S D obj rs K E G (r+1) none W t d (.returned (ptr q)) w' from λw' hb q=>⟨_,rfl,.inr ⟨q,rfl,Tc⟩,g1.below HE.1.hs hb,((N5.out.fr.trans g2).trans (Below.fr hb)).sub (λx e=>by cases e;obtain h|h:=HM.1;exact .inl h;exact .inr h.2)⟩);exact M93
    ·exact M113
  ·exact M115
  ·exact M61
  ·exact M58
  ·exact M116
  ·have iW:tid (az w t).kind=33:=jo hk;rw[iW];clear iW;have dB:=aY 33 (ptr b3) 37 w4 i5;have dn:=aT 33 (ptr b3) 37 w4 i5;have jY:=ed 33 (ptr b3) 37 w4 i5;have eW:=bd 33 (ptr b3) 37 w4 i5;have fX:=cM 33 (ptr b3) 37 w4 i5;cases d with
   |true=>
    exact M42
   |false=>
    have iZ:(fs w K).cmp t false=lB (fs w K) ((fs w K).ts (az w t)):=M81
    rw[A3]at iZ;have cP:=jO HE.1.wk HE.1.qp nX.1 hk;have hJu:=(jh (rs:=rs) HE.1.wk HE.1.qp nX.1).2;have ig:=bG HT.1 (N.1.ok.le (show r<=r+1 by omega)) eY cP m9;have HTT:=Z (λ(w6:World) (g1:Ok w S D obj rs K E r w6)=>bG HT.1 g1 eY cP m9);have CS:=Z (vh HE.1.wk HE.1.qp HE.1.te r K m9 _ cP m9).nf;have Td:=Z ((eZ HE.1.wk HE.1.qp r K K m9 m9).2 _ cP m9).terms;have fw:2*J rs false false (az w t)<=r:=m9
    have vD:=Z iZ;clear iZ oE eY hU hk cP hJu;generalize fi:(fs w K).ts (az w t)=ts at*;clear fi;go_wp2_with fail;refine ig.mono ?_;rintro e' w6 ⟨v6,rfl,⟨sb6,rfl,Te⟩,g1,g2⟩;have vE:gp w K S false (λq=>G q\/q=b) w6 (some mb):=N.1.seen.map g2;have ag:=qX HE.1 HC.1 g1 Te.jl CS.1 Td.1 fw (λq s hq hs=>by have:=HG.1 q s hq hs;have:=Wg.1.2;omega) vE;have Tf:=Z (show bZ (λx=>some mb=some x) S rs r w4 w6 from Fr.x g2);clear g1 g2 Te vE ig;go_wp2_with fail;refine ag.mono ?_;rintro e' w7 ⟨rfl,k1,k2,k3⟩;have F1:=vD.1;generalize(if isAllL ts.terms then ts.comp else if aK ts.terms then false else ts.terms.all (A4 (fs w K)))=res at*;clear ag;have XW:=(Tf.1.trans k2).mono (show r<=r+1 by omega);have XX:=N.1.ok.up (Tf.1.trans k2) k1;cases res with
    |true=>
     exact M185
    |false=>
     obtain⟨K1,yU,HF7,PA⟩:=Z4 k1 XX XW F1;have ig:=HTT.1 w7 k1;clear k1 k2 k3 XW XX F1;go_wp2_with fail;refine ig.mono ?_;rintro e' w8 ⟨v8,rfl,⟨sb8,rfl,Tg⟩,g1,g2⟩;have bW:=gL Tg.jl;have HO8:=Z (yU.1.up g2 g1);have HF8:=Z (HF7.1.trans (Fr.x (bZ.mono g2 (show r<=r+1 by omega))));clear g1 g2 Tg ig;go_wp2_with fail;refine rv bW ?_;clear bW;generalize aK ts.terms=em;have N6:=Z (show∀w',Below w8.heap.size w8 w'->∀q,Dx w S D obj rs K E G (r+1) none W t false (.returned (ptr q)) w' from λw' hb q=>⟨_,rfl,.inr ⟨q,rfl,PA.1⟩,HO8.1.below HE.1.hs hb,((N.1.fr.trans HF8.1).trans (Below.fr hb)).sub (λx e=>by cases e;obtain h|h:=HM.1;exact .inl h;exact .inr h.2)⟩);exact M96
 |some mb=>
  obtain⟨ens,ck,hm,Hp⟩:=mw mb rfl;have hks:NC S ens.toList:=λe he=>by obtain⟨q,s,h1,h2,_⟩:=Hp e he;exact⟨q,s,h1,h2⟩
  have hl:=aeg bD.gh hm hks hs I3;cases hh:hitE (Th (tid t.kind) b) ens.toList 0 with
  |some jv=>
   obtain⟨j,vv⟩:=jv;obtain⟨k,en, -,h2,h3,rfl⟩:=oD hh;obtain⟨q,s,g1,g2,g3,g4⟩:=Hp en (jQ8 h2);rw[g1]at h3;simp[Th]at h3;obtain⟨-,rfl⟩:=h3;rw[hs]at g2;cases g2;have hc:(fs w K).cmp t d=true:=by
    obtain h|h:=g4
    ·rw[<-dX.cmp (oN t)];exact h
    ·have:=hG _ _ h hs;omega
   rw[hh,g3]at hl;simp only[Option.map_some,Option.getD_some]at hl;have HP:=Z (show Dx w S D obj rs K E G (r+1) (some mb) W t d (.returned (.pointer none)) W from⟨_,rfl,.inl ⟨rfl,hc,mw⟩,bD,bZ.refl _⟩);clear bD hv MX mw hG hE hC hT hm Hp hks hh h2 g1 g3 g4 hc hs;go_enter func32,ntmps32;exact M13
  |none=>
   rw[hh]at hl;simp only[Option.map_none,Option.getD_none]at hl;have heq:=Pw mb W;obtain⟨w4,IP,gF⟩:=SZ (.bool true) bD.gh hm hks hs I3 hh;have hN:Hu w S D obj rs K E G (r+1) (some mb) W w4 b mb d:=Hu.start bD hE hs (bZ.refl _) bD hm Hp gF;have HM:=Z (show XV (some mb) mb W from .inl rfl);have N:=Z hN;clear hN bD hv MX mw hG hE hC hT gF hm Hp hks hh hs;go_enter func32,ntmps32;have qN:=bj HE.1.qp N.1.ok.gh Nr.1 (.inl ⟨0,nX.1⟩);obtain⟨T,f,b2,e2,⟨hm,pC⟩,jL⟩:=qN;simp at e2;obtain⟨rfl,rfl⟩:=e2;have lx:=Z jL;clear jL;go_wp2_with fail;refine lx.1.mono ?_;rintro e' w5 ⟨v3,rfl,oE,gW⟩;replace gW:=gW.symm;subst gW;obtain⟨b3,rfl,eY⟩:=id oE;have hU:=(lq (rs:=rs) HE.1.wk HE.1.qp nX.1).1;rcases gK HE.1 nX.1 with hk|hk|hk|hk|hk|hk|hk|hk|hk
   ·exact M29
   ·have iW:tid (az w t).kind=127:=by rw[hk];rfl
    rw[iW];clear iW;have dB:=aY 127 (ptr b3) 37 w4 i5;have dn:=aT 127 (ptr b3) 37 w4 i5;have jY:=ed 127 (ptr b3) 37 w4 i5;have eW:=bd 127 (ptr b3) 37 w4 i5;have ql:PT NS Q w 0 (az w t):=M74
    have jC:=aW (t:=az w t) m9 m9 m9 m9;have ez:(aG (az w t)).kind=(az w t).kind:=aI m9;obtain⟨v5,e5,g1,aZ,LJ⟩:=(N.1.ok.gh.node b3 _ eY).2.2.1 (by rw[ez];exact hk);have jF:(aG (az w t)).elems=(az w t).elems:=by rw[jC];rfl
    rw[jF]at g1;obtain⟨p1,p2⟩:=ov (rs:=rs) ql (.inr hk) e5 (by rw[g1];simp);have iZ:(fs w K).cmp t d=(fs w K).cmp e5 d:=by rw[Et.1];unfold bX;simp[hk,g1,isIf]
    have c1:w4.cell? ⟨b3,1,none⟩=some v5:=by simp[World.cell?,aZ]
    have ag:=HC.1 E (λq=>G q\/q=b) w4 v5 e5 d (some mb) (N.1.ok.le m9) LJ p1 (by have:=Wg.1.1;have:=AZ rs true false t;omega) N.1.seen (λq s hq hs=>by have:=HG.1 q s hq hs;have:=Wg.1.1;omega);obtain⟨b5,rfl,Q3⟩:=id LJ;generalize tid e5.kind=T5 at*;have vD:=Z iZ;clear ql jC ez jF aZ iZ oE eY hU hk g1 p1 p2 Q3 LJ;go_wp2_with fail;refine ag.mono ?_;rintro e' w6 ⟨u6,rfl,hu6,g1,g2⟩;replace g1:=N.1.ok.up g2 g1;replace g2:=g2.mono (show r<=r+1 by omega);clear ag;rcases hu6 with⟨rfl,yY,vE⟩|⟨q6,rfl,yY⟩
    ·exact M183
    ·have N6:=Z (show∀w',Below w6.heap.size w6 w'->∀q,Dx w S D obj rs K E G (r+1) (some mb) W t d (.returned (ptr q)) w' from λw' hb q=>⟨_,rfl,.inr ⟨q,rfl,vD.1.trans yY⟩,g1.below HE.1.hs hb,((N.1.fr.trans g2).trans (Below.fr hb)).sub (λx e=>by cases e;obtain h|h:=HM.1;exact .inl h;exact .inr h.2)⟩);exact M89
   ·exact M57
   ·have iW:tid (az w t).kind=161:=by rw[hk];rfl
    rw[iW];clear iW;have dB:=aY 161 (ptr b3) 37 w4 i5;have dn:=aT 161 (ptr b3) 37 w4 i5;have jY:=ed 161 (ptr b3) 37 w4 i5;have ql:PT NS Q w 0 (az w t):=M74
    have jC:=aW (t:=az w t) m9 m9 m9 m9;have ez:(aG (az w t)).kind=(az w t).kind:=aI m9;obtain⟨fs5,tg5,iw,aZ,oY, -,sB⟩:=(N.1.ok.gh.node b3 _ eY).2.2.2.2.1 (by rw[ez];exact hk);have jF:(aG (az w t)).elems=(az w t).elems:=by rw[jC];rfl
    rw[jF]at sB;have Tb:=λe he=>ov (rs:=rs) ql (.inl hk) e he;have iZ:(fs w K).cmp t d=(az w t).elems.all λe=>(fs w K).cmp e d:=by rw[Et.1];unfold bX;simp[hk,isIf]
    obtain⟨a5,d5,rfl⟩:=oY.form;have Kx:=sB.len;have Dk:=oY.max;have c0:w4.cell? ⟨b3,0,none⟩=some (.slice a5 iw.length d5):=by simp[World.cell?,aZ]
    obtain⟨vD,LA,LB,abq,N0⟩:=Z5 iZ oY sB Tb N.1;clear ql jC ez jF aZ iZ oE eY hU hk oY sB Tb;go_wp2_with fail;clear c0
    go_loopg [51] iw.length (λgg s51 wr=>∃kk:Nat,kk<=iw.length/\iw.length - kk<=gg/\s51=.int .i64 kk/\Aside (Hu w S D obj rs K E G (r+1) (some mb) W wr b mb d)/\Aside (bZ (λx=>some mb=some x) S rs (r+1) w4 wr)/\Aside (((az w t).elems.drop kk).all (λe=>(fs w K).cmp e d)=(az w t).elems.all λe=>(fs w K).cmp e d))
    case atStart=>exact⟨0,jQc _,m9,rfl,N.1,bZ.refl _,rfl⟩
    case round=>
     obtain⟨kk,ez,hg,rfl,N5,F5,A5⟩:=hrel;by_cases vl:kk<iw.length
     ·have aR:(kk:Int)<(iw.length:Int):=m9
      obtain⟨x,hx⟩:∃x,(az w t).elems[kk]?=some x:=⟨(az w t).elems[kk]' m9,by simp[Kx,vl]⟩;obtain⟨pv,sP,El⟩:=LB.1.at hx;have kB:=N0.1.ok.gh.eu F5.out;obtain⟨b6,o6,rfl, -,yY⟩:=(LA.1.move kB).nth sP;obtain⟨b7,Pm,pk7,v7,k7,rfl,Rf,ek,tO⟩:=El.move (λ_ _ h=>h) kB;have c3:wr.cell? ⟨b7,3,none⟩=some v7:=by simp[World.cell?,ek]
      obtain⟨p1,p2⟩:=abq.1 x (jQ8 hx);have hA:=A5.out;rw[cZ hx,jRl]at hA;have ag:=HC.1 E (λq=>G q\/q=b) wr v7 x d (some mb) (N5.out.ok.le m9) tO p1 (by have:=Wg.1.1;have:=AZ rs true false t;omega) N5.out.seen (λq s hq hs=>by have:=HG.1 q s hq hs;have:=Wg.1.1;omega);obtain⟨b8,rfl, -⟩:=id tO;have abr:S b7=none:=M204
      generalize tid x.kind=T8 at*;have HA:=Z hA;have zM:=Z ek;clear hx sP El kB ek tO p1 p2 hA;go_wp2_with fail;refine ag.mono ?_;rintro e' w6 ⟨u6,rfl,hu6,g1,g2⟩;replace g1:=N5.out.ok.up g2 g1;replace g2:=g2.mono (show r<=r+1 by omega);clear ag;rcases hu6 with⟨rfl,A1,vE⟩|⟨q6,rfl,A1⟩
      ·exact M75
      ·have c36:w6.cell? ⟨b7,3,none⟩=some (.iface T8 (ptr b8)):=g2.cell abr c3;have Tc:(fs w K).cmp t d=false:=by have:=HA.1;rw[A1,Bool.false_and]at this;exact vD.1.trans this.symm
       have N6:=Z (show∀w',Below w6.heap.size w6 w'->∀q,Dx w S D obj rs K E G (r+1) (some mb) W t d (.returned (ptr q)) w' from λw' hb q=>⟨_,rfl,.inr ⟨q,rfl,Tc⟩,g1.below HE.1.hs hb,((N5.out.fr.trans g2).trans (Below.fr hb)).sub (λx e=>by cases e;obtain h|h:=HM.1;exact .inl h;exact .inr h.2)⟩);exact M93
     ·exact M113
   ·exact M115
   ·exact M61
   ·exact M58
   ·exact M116
   ·have iW:tid (az w t).kind=33:=jo hk;rw[iW];clear iW;have dB:=aY 33 (ptr b3) 37 w4 i5;have dn:=aT 33 (ptr b3) 37 w4 i5;have jY:=ed 33 (ptr b3) 37 w4 i5;have eW:=bd 33 (ptr b3) 37 w4 i5;have fX:=cM 33 (ptr b3) 37 w4 i5;cases d with
    |true=>
     exact M42
    |false=>
     have iZ:(fs w K).cmp t false=lB (fs w K) ((fs w K).ts (az w t)):=M81
     rw[A3]at iZ;have cP:=jO HE.1.wk HE.1.qp nX.1 hk;have hJu:=(jh (rs:=rs) HE.1.wk HE.1.qp nX.1).2;have ig:=bG HT.1 (N.1.ok.le (show r<=r+1 by omega)) eY cP m9;have HTT:=Z (λ(w6:World) (g1:Ok w S D obj rs K E r w6)=>bG HT.1 g1 eY cP m9);have CS:=Z (vh HE.1.wk HE.1.qp HE.1.te r K m9 _ cP m9).nf;have Td:=Z ((eZ HE.1.wk HE.1.qp r K K m9 m9).2 _ cP m9).terms;have fw:2*J rs false false (az w t)<=r:=m9
     have vD:=Z iZ;clear iZ oE eY hU hk cP hJu;generalize fi:(fs w K).ts (az w t)=ts at*;clear fi;go_wp2_with fail;refine ig.mono ?_;rintro e' w6 ⟨v6,rfl,⟨sb6,rfl,Te⟩,g1,g2⟩;have vE:gp w K S false (λq=>G q\/q=b) w6 (some mb):=N.1.seen.map g2;have ag:=qX HE.1 HC.1 g1 Te.jl CS.1 Td.1 fw (λq s hq hs=>by have:=HG.1 q s hq hs;have:=Wg.1.2;omega) vE;have Tf:=Z (show bZ (λx=>some mb=some x) S rs r w4 w6 from Fr.x g2);clear g1 g2 Te vE ig;go_wp2_with fail;refine ag.mono ?_;rintro e' w7 ⟨rfl,k1,k2,k3⟩;have F1:=vD.1;generalize(if isAllL ts.terms then ts.comp else if aK ts.terms then false else ts.terms.all (A4 (fs w K)))=res at*;clear ag;have XW:=(Tf.1.trans k2).mono (show r<=r+1 by omega);have XX:=N.1.ok.up (Tf.1.trans k2) k1;cases res with
     |true=>
      exact M185
     |false=>
      obtain⟨K1,yU,HF7,PA⟩:=Z4 k1 XX XW F1;have ig:=HTT.1 w7 k1;clear k1 k2 k3 XW XX F1;go_wp2_with fail;refine ig.mono ?_;rintro e' w8 ⟨v8,rfl,⟨sb8,rfl,Tg⟩,g1,g2⟩;have bW:=gL Tg.jl;have HO8:=Z (yU.1.up g2 g1);have HF8:=Z (HF7.1.trans (Fr.x (bZ.mono g2 (show r<=r+1 by omega))));clear g1 g2 Tg ig;go_wp2_with fail;refine rv bW ?_;clear bW;generalize aK ts.terms=em;have N6:=Z (show∀w',Below w8.heap.size w8 w'->∀q,Dx w S D obj rs K E G (r+1) (some mb) W t false (.returned (ptr q)) w' from λw' hb q=>⟨_,rfl,.inr ⟨q,rfl,PA.1⟩,HO8.1.below HE.1.hs hb,((N.1.fr.trans HF8.1).trans (Below.fr hb)).sub (λx e=>by cases e;obtain h|h:=HM.1;exact .inl h;exact .inr h.2)⟩);exact M96
end Go.Proofs.YtabjfnkfocnklaaGreatDoor
