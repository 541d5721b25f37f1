import Derived.Test.YtbdgppghkdibfaaGreatDoorA19
set_option linter.all false
set_option maxHeartbeats 16000000
set_option maxRecDepth 20000
namespace Go.Proofs.YtbdgppghkdibfaaGreatDoor
open Go Go.RowKit Go.Lib S P Tryz
variable{s1 s2 sa sb sx sy x y:Y}{Q:Y->Prop}{NS:List ByteArray}{cs rs:List Nat}{w:List ah}{B K a b cb q r r':Nat}{obj:Nat->Nat}{D E X:Qx}{GT:Prop}{S:Sg}{p pp pq u v:Value}{W W' O wr:World}
def M104(h:GT:=by
 have bW:=λs=>bJ s none 0 0 w8;cases em
 all_goals
  go_wp21;refine(bW _).mono ?_;rintro e' w7' ⟨q7,rfl,ek⟩;have HP:=Z (N6.1 w7' ek q7);clear ek bW;go_wp2;go_ret;exact HP.1):GT:=h
def M118(h:GT:=by
 have aR:¬(kk:Int)<(iw.length:Int):=M
 have hA:=A5.out;rw[jQf M]at hA;have HP:=Z (N5.out.yes HM.1 HS.1 (vD.1.trans hA.symm));clear hA;exact M21):GT:=h
def M120(h:GT:=by
 have iW:tid (az w t).ld=133:=by rw[hk];rfl
 rw[iW];clear iW;have dB:=aY 133 (ptr b3) 37 w4 i5;have jY:=ed 133 (ptr b3) 37 w4 i5;exact M53):GT:=h
def M121(h:GT:=by
 have iW:tid (az w t).ld=137:=by rw[hk];rfl
 rw[iW];clear iW;have dB:=aY 137 (ptr b3) 37 w4 i5;have dn:=aT 137 (ptr b3) 37 w4 i5;exact M53):GT:=h
def M14(h:GT:=by
 have iZ:(fs w K).cmp t d=false:=by rw[Et.1];unfold bX;simp[hk,isIf]
 have bW:=bJ es none 0 0 w4;have vD:=Z iZ;clear iZ oE eY hU hk;go_wp21;refine bW.mono ?_;rintro e' w6 ⟨q6,rfl,gS⟩;have HP:=Z ((N.1.below HE.1 gS).no HM.1 q6 vD.1);clear gS bW;exact M21):GT:=h
def M181(h:GT:=by
 have HP:=Z ((N.1.go g1 g2 vE).yes HM.1 HS.1 (vD.1.trans yY));clear g1 g2 vE yY;exact M21):GT:=h
def M183(h:GT:=by
 have HP:=Z ((N.1.go XX XW (k3 rfl)).yes HM.1 HS.1 F1);clear k1 k2 k3 XW XX F1;exact M21):GT:=h
def M197(h:GT:=by
 cases h:S b7 with
 |none=>rfl
 |some s=>exact absurd Rf (N5.out.ok.gh.rS b7 s h)):GT:=h
def M202(h:GT:=by
 refine jQl g9 ?_ _;clear ai;go_wp2;go_ret;exact⟨rfl,1,rfl⟩):GT:=h
def M28(h:GT:=by
 have iW:tid (az w t).ld=89:=by rw[hk];rfl
 rw[iW];clear iW;have ql:PT NS Q w 0 (az w t):=M69
 have jC:=aW (t:=az w t) M M M M;have ez:(aG (az w t)).ld=(az w t).ld:=aI M;obtain⟨g1,g2⟩:=A0 ql hk;obtain⟨info,nm,aZ⟩:=(N.1.ok.gh.node b3 _ eY).1 (by rw[ez];exact hk);have jF:(aG (az w t)).n=(az w t).n:=by rw[jC];rfl
 rw[jF]at aZ;have c0:ce w4 b3 0 (.int .i64 ((az w t).n+1)):=by simp[World.cell?,aZ]
 have hz:((az w t).n+1==25)=false:=by simp;omega
 have iZ:(fs w K).cmp t d=true:=by rw[Et.1];unfold bX;simp[hk]
 have HP:=Z (N.1.yes HM.1 HS.1 iZ);generalize(az w t).n+1=q at c0 hz;clear ql jC ez jF aZ iZ oE eY hU hk g1 g2;exact M21):GT:=h
def M42(h:GT:=by
 go_wp21;refine(bW _).mono ?_;rintro e' w7 ⟨q7,rfl,ek⟩;have HP:=Z (N6.1 w7 (Ta.1.trans (ek.mono Ta.1.size)) q7);clear ek bW;exact M21):GT:=h
def M43(h:GT:=by
 have iZ:(fs w K).cmp t true=true:=by
  rw[Et.1];unfold bX;have I:=dw hk;have U:¬((az w t).ld=1\/(az w t).ld=6\/(az w t).ld=9):=M
  have h3:¬(az w t).ld=5:=M
  have h4:¬(az w t).ld=3:=M
  simp only[jQ4 U,jQ4 h3,jQ4 h4,hk,if_true,Bool.true_or]
 have HP:=Z (N.1.yes HM.1 HS.1 iZ);have fk:=gU N.1.ok.gh Nr.1;clear iZ oE eY hU hk;go_wp21;refine rv fk ?_;clear fk;exact M21):GT:=h
def M53(h:GT:=by
 have iZ:(fs w K).cmp t d=true:=by rw[Et.1];unfold bX;simp[hk]
 have HP:=Z (N.1.yes HM.1 HS.1 iZ);clear iZ oE eY hU hk;exact M21):GT:=h
def M58(h:GT:=by
 have iW:tid (az w t).ld=131:=by rw[hk];rfl
 rw[iW];clear iW;have dB:=aY 131 (ptr b3) 37 w4 i5;have dn:=aT 131 (ptr b3) 37 w4 i5;have jY:=ed 131 (ptr b3) 37 w4 i5;have eW:=bd 131 (ptr b3) 37 w4 i5;have fX:=cM 131 (ptr b3) 37 w4 i5;have gn:=aP 131 (ptr b3) 37 w4 i5;exact M14):GT:=h
def M59(h:GT:=by
 have iW:tid (az w t).ld=135:=by rw[hk];rfl
 rw[iW];clear iW;have dB:=aY 135 (ptr b3) 37 w4 i5;have dn:=aT 135 (ptr b3) 37 w4 i5;have jY:=ed 135 (ptr b3) 37 w4 i5;have eW:=bd 135 (ptr b3) 37 w4 i5;have fX:=cM 135 (ptr b3) 37 w4 i5;have gn:=aP 135 (ptr b3) 37 w4 i5;exact M14):GT:=h
def M61(h:GT:=by
 have iW:tid (az w t).ld=92:=by rw[hk];rfl
 rw[iW];clear iW;have dB:=aY 92 (ptr b3) 37 w4 i5;have dn:=aT 92 (ptr b3) 37 w4 i5;have jY:=ed 92 (ptr b3) 37 w4 i5;have eW:=bd 92 (ptr b3) 37 w4 i5;have fX:=cM 92 (ptr b3) 37 w4 i5;have gn:=aP 92 (ptr b3) 37 w4 i5;exact M14):GT:=h
def M69(h:GT:=by
 obtain h|h:=hU
 .rw[h]at hk;exact absurd hk i5
 .exact h.1):GT:=h
def M70(h:GT:=by
 have N6:=Z (N5.out.go g1 g2 vE);have F6:=Z (F5.out.trans g2);have hA:=HA.1;rw[A1,jRn]at hA;have Wh:=Z hA;clear g1 g2 vE A1 hA;go_wp21;go_roundg (iw.length - (kk+1))
 case measure=>omega
 case rel=>exact⟨kk+1,M,M,by go_num,N6.1,F6.1,Wh.1⟩):GT:=h
def M76(h:GT:=by
 refine bg 31 ?_;refine bg 32 ?_;refine bg 33 ?_;refine bg 34 ?_;refine bg 35 ?_;refine bg 36 ?_;refine bg 37 ?_;refine bg 38 ?_;refine bg 39 ?_;refine t2 40 41 ?_;refine t7 42 ?_;exact M202):GT:=h
def M84(h:GT:=by
 rw[Et.1];unfold bX;have I:=dw hk;have U:¬((az w t).ld=1\/(az w t).ld=6\/(az w t).ld=9):=M
 have h3:¬(az w t).ld=5:=M
 have h4:¬(az w t).ld=3:=M
 simp only[jQ4 U,jQ4 h3,jQ4 h4,hk,if_true,Bool.false_or]):GT:=h
def M91(h:GT:=by
 have hA6:=an w6 (.cells #[.iface (tid t.ld) (ptr b)] 20);have Ta:=Z hA6;have bW:=λs=>bJ s (some ⟨w6.heap.size,0,none⟩) 1 1 (w6.alloc (.cells #[.iface (tid t.ld) (ptr b)] 20));clear g1 g2 yY hA6;exact M42):GT:=h
def M95(h:GT:=by
 have hA6:=an w6 (.cells #[.iface T8 (ptr b8)] 20);have Ta:=Z hA6;have bW:=λs=>bJ s (some ⟨w6.heap.size,0,none⟩) 1 1 (w6.alloc (.cells #[.iface T8 (ptr b8)] 20));clear g1 g2 A1 hA6 Tc c3;exact M42):GT:=h
def Ug(hE:Env NS Q w rs cs)(hI:cO NS Q w S D obj rs K r)(hC:dE NS Q w S D obj rs K r)(hT:dS NS Q w S D obj rs K r)(hr:r+1<=K):dS NS Q w S D obj rs K (r+1):=by
 intro E W b t p bD hs cP AB;have hJk:J rs false false (aG t)<=J rs false false t:=AZ _ _ _ _;by_cases aM:2*J rs false false t<r
 .exact(hT E W b t p (bD.le M) hs cP aM).mono λe W' j=>j.up bD M
 have WA:isIf t=true:=by
  rcases cP with⟨-,h⟩|rfl
  .simp[isIf,h]
  .rfl
 have IQ:t.ld≠14:=V5 (dw WA)
 have hki:isIf (aG t)=true:=by unfold isIf;rw[aI IQ];exact WA
 obtain⟨ts,hIV,U⟩:=bD.st b (aG t) hs hki M;obtain⟨ms0,es0,KC,Hx,XQ,fP,nT,Ld,Sq⟩:=id hIV;rcases U with⟨rfl,kY⟩|⟨sb,rfl,fi⟩
 rotate_left
 .rw[dX.ts (oN t) hki WA]at fi;have HP:=Z (show aV w S D obj rs K E (r+1) W (λv W'=>∃sb,v=ptr sb/\yn S D E W' sb ((fs w K).ts t)) (.returned (ptr sb)) W from⟨_,rfl,⟨sb,rfl,fi⟩,bD,Fr.refl _⟩);obtain⟨c0,c1,c2,c3,c4,c5,c6⟩:=ao XQ;clear fi bD hIV XQ fP nT Ld Sq hE hI hC hT hki WA hJk AB aM cP hs c0 c1 c2 c3 c4 c5;go_in;exact M21
 have bH:t.ld=10:=by rw[aI IQ]at kY;exact kY
 have mR:=aW (t:=t) M IQ M M;have hJe:J rs false false (aG t)=J rs false false t:=by
  unfold aG mC;rw[jQ4 IQ];exact xN _ _ _ _
 obtain⟨MX, -⟩:PT NS Q w 0 t/\t.ld=10:=by
  obtain h|rfl:=cP
  .exact h
  .simp[da,tk,Y.ld]at bH
 have aL:own (aG t)=own t:=by rw[mR];rfl
 have aeV:bN (aG t)=bN t:=by rw[mR];rfl
 rw[aL]at Ld;rw[aeV]at Sq;have hB:2*J rs false false t<=r:=M
 have aeW:=abS (rs:=rs) MX bH;have hEL:=λ(kk:Nat) (e:Y) (he:(bN t)[kk]?=some e)=>Uh hE.wk hE.qp hE.te MX bH (show 2*J rs false false t<=K by omega) (hE.cn t (by
  obtain⟨-, -, -, -, -,h, -⟩:=cu (rs:=rs) (cs:=cs) (MX.ww (v':=false) (f':=false)) bH;exact h) bH) he
 have hTD:=YF hE.wk hE.qp MX bH (show 2*J rs false false t<K by omega);obtain⟨ma,mc,rfl⟩:=fP.form;obtain⟨ea,ec,rfl⟩:=nT.form;have mY:=Ld.len;have hle:=Sq.len;have ahz:=fP.max;have ahA:=nT.max;obtain⟨c0,c1,c2,c3,c4,c5,c6⟩:=ao XQ;have ly:=j1 hE (bD.le (show r<=r+1 by omega));obtain⟨gJ,HI,HC,HT,HO,HS,HKI,eQ⟩:=Z8 hE hI hC hT bD hs hki XQ;obtain⟨HIV,HR1,OV,HA1,pZ,eK,Ht,HTD⟩:=Z8 hIV fP nT Ld Sq aeW hEL hTD;clear hE hI hC hT bD hs hki XQ hIV fP nT Ld Sq aeW hEL hTD cP mR aL aeV WA c0 c1 c2 c3 c4;go_in;go_wp21;refine ly.mono ?_;rintro e w1 ⟨v1,rfl,k1,k2,k3⟩;obtain⟨a1,d1,rfl⟩:=k1.form;have ar:w1.heap[b]?=some (.cells #[.pointer none,.slice ma KC.length mc,.slice ea Hx.length ec,.pointer none,.bool false,.bool true,.pointer none] 104 (0,0)):=by
  rcases k3.block b (jQ2 eQ.1)with e|⟨s2,_,_,q1,_,q3,_⟩|⟨_,⟨_,_,q⟩,_⟩
  .exact e.trans eQ.1
  .rw[HS.1]at q1;cases q1;omega
  .rw[eQ.1]at q;cases q
 have gj:=k3.size;have j6:=jQ2 eQ.1;have cX:=aj (an w1 (.cells #[.bool false,.slice none 0 0,.slice a1 [some fu].length d1,.bool false] 124)) ar (jQ2 ar);have K3:=Z k3;have K2:=Z (k2.drop λx H=>.inl H:Ok w S D obj rs K E r w1);clear ly k1 k2 k3 c5 c6;go_wp2_with (refine eT rfl 102 _ _ rfl b 6 (ptr w1.heap.size) rfl rfl 104 _ cX g9 (by simp[Value.cells,Value.oneCell']) (by simp[Value.cells]) #[.pointer none,.slice ma KC.length mc,.slice ea Hx.length ec,.pointer none,.bool false,.bool true,ptr w1.heap.size] (by simp[Value.cells]) ?_);intro w3 fm;have kh:∀t w,(Instr.makeMap t none).run prog w=.ok (.map (some w.heap.size)) (w.alloc (.map #[] 0)):=mkMap;have D8:=uW;have JD:=fm.size;simp only[jQ3]at JD;generalize hn:w1.heap.size=n at*;have hN:rA w S D obj rs K E r W (((((w3.alloc (.map #[] 0)).alloc (.cells #[.map none] 176)).alloc (.cells #[.slice none 0 0] 99)).alloc (.map #[] 0)).alloc (.cells #[.map (some (n+1+1+1+1))] 177))
  b (aG t) n (n+1) (n+1+1) (n+1+1+1) (n+1+1+1+1+1) (n+1+1+1+1) none [] (.slice none 0 0) [] (.slice none 0 0):=by
  have hq:∀x,x≠n+1->x≠n+1+1->x≠n+1+1+1->x≠n+1+1+1+1->x≠n+1+1+1+1+1->(((((w3.alloc (.map #[] 0)).alloc (.cells #[.map none] 176)).alloc (.cells #[.slice none 0 0] 99)).alloc (.map #[] 0)).alloc (.cells #[.map (some (n+1+1+1+1))] 177)).heap[x]?=w3.heap[x]?:=λx I U h3 h4 h5=>by
   rw[bE,jQ4 (by(try simp only[jQ3]);omega),bE,jQ4 (by(try simp only[jQ3]);omega),bE,jQ4 (by(try simp only[jQ3]);omega),bE,jQ4 (by(try simp only[jQ3]);omega),bE,jQ4 (by(try simp only[jQ3]);omega)]
  have ahB:iJ S D w1 b (aG t) (.pointer none):=HIV.1.move (λ_ _ h=>h) (HO.1.gh.eu K3.1) (ar.trans eQ.1.symm);refine rA.start HO.1 K2.1 K3.1 gJ.1 HS.1 M HKI.1 ahB (tl:=.slice a1 [some fu].length d1) ?_ ?_ ?_ ?_ (λx H bk=>?_) ?_ ?_ ?_ ?_ ?_ ?_ ?_ M M M M M M M
  .simp only[jQ3];omega
  .exact fm.os
  .exact fm.tape
  .exact fm.output
  .rw[hq x M M M M M,fm.other x bk,bE,jQ4 M]
  .exact⟨_,_,_,_,_,_,ar,(hq b M M M M M).trans fm.here⟩
  .rw[hq n M M M M M,fm.other n M,bE,jQ7 hn.symm];rfl
  .rw[bE,jQ4 (by(try simp only[jQ3]);omega),bE,jQ4 (by(try simp only[jQ3]);omega),bE,jQ4 (by(try simp only[jQ3]);omega),bE,jQ4 (by(try simp only[jQ3]);omega),bE,jQ7 (by(try simp only[jQ3]);omega)]
  .rw[bE,jQ4 (by(try simp only[jQ3]);omega),bE,jQ4 (by(try simp only[jQ3]);omega),bE,jQ4 (by(try simp only[jQ3]);omega),bE,jQ7 (by(try simp only[jQ3]);omega)]
  .rw[bE,jQ4 (by(try simp only[jQ3]);omega),bE,jQ4 (by(try simp only[jQ3]);omega),bE,jQ7 (by(try simp only[jQ3]);omega)]
  .rw[bE,jQ7 (by(try simp only[jQ3]);omega)]
  .rw[bE,jQ4 (by(try simp only[jQ3]);omega),bE,jQ7 (by(try simp only[jQ3]);omega)]
 have N0:=Z hN;have eP:(((((w3.alloc (.map #[] 0)).alloc (.cells #[.map none] 176)).alloc (.cells #[.slice none 0 0] 99)).alloc (.map #[] 0)).alloc (.cells #[.map (some (n+1+1+1+1))] 177)).heap[b]?=some (.cells #[.pointer none,.slice ma KC.length mc,.slice ea Hx.length ec,.pointer none,.bool false,.bool true,ptr n] 104 (0,0)):=by
  rw[bE,jQ4 (by(try simp only[jQ3]);omega),bE,jQ4 (by(try simp only[jQ3]);omega),bE,jQ4 (by(try simp only[jQ3]);omega),bE,jQ4 (by(try simp only[jQ3]);omega),bE,jQ4 (by(try simp only[jQ3]);omega)];exact fm.here
 obtain⟨-,c1, -⟩:=ao eP;clear fm cX ar hN eP;go_wp21;clear c1;have hps0:KC.length<=9223372036854775807:=ahz
 go_loopg [57] KC.length (λgg s57 wr=>∃(kk:Nat) (so:Option Nat) (ms:List Y) (mv:Value),kk<=KC.length/\KC.length - kk<=gg/\s57=.int .i64 kk/\
  Aside (rA w S D obj rs K E r W wr b (aG t) n (n+1) (n+1+1) (n+1+1+1) (n+1+1+1+1+1) (n+1+1+1+1) so ms mv [] (.slice none 0 0))/\Aside (ms=((own t).take kk).foldl lF [])/\Aside (Br NS ms))
 case atStart=>exact⟨0,none,[],.slice none 0 0,jQc _,M,rfl,N0.1,rfl,Br.nil⟩
 case round=>
  obtain⟨kk,so,ms,mv,ez,hg,rfl,N,A,m9⟩:=hrel;by_cases YG:kk<KC.length
  .have aR:(kk:Int)<(KC.length:Int):=M
   obtain⟨x,H⟩:∃x,(own t)[kk]?=some x:=⟨(own t)[kk]' M,by simp[mY,YG]⟩;obtain⟨pv,sP,ZU⟩:=HA1.1.at H;have kB:=HO.1.gh.eu N.out.fr;obtain⟨b4,o4,rfl,kN,hc⟩:=(HR1.1.move kB).nth sP;have iA:=ZU.move (λ_ _ h=>h) kB;obtain⟨b1,aeX,pk1,v1,rfl,VZ,ar, -⟩:=id iA;obtain⟨CH,iK,YH⟩:=r7 (eK.1 x (jQ8 H));have ag:=BZ N.out.TC (λy hy=>(N.out.sn.2 y hy).2) N.out.ok.gh.mT iA iK YH N.out.ok.gh.td N.out.fr.size (m9.out.lim CH gJ.1.nsl) aeX true;have hA:lF ms x=((own t).take (kk+1)).foldl lF []:=by rw[By lF [] H,<-A.out]
   have HA:=Z hA;have HM:=Z (m9.out.add CH);have d0:=G7 0 ar
   clear hA H sP ZU kB kN iA VZ ar CH iK YH;go_wp21;refine ag.mono ?_;intro e w5 xR;obtain⟨rfl,so5,mv5,Re, -, -⟩:=N.out.YI gJ.1 xR;have N5:=Z Re;clear xR Re ag;go_wp21;go_roundg (KC.length - (kk+1))
   case measure=>omega
   case rel=>exact⟨kk+1,so5,_,mv5,M,M,by go_num,N5.1,HA.1,HM.1⟩
  .have aR:¬(kk:Int)<(KC.length:Int):=M
   have hA:=A.out;rw[jR6 M]at hA;have ag:=j1 gJ.1 N.out.ok;have R5:=Z (A.out.trans (by rw[jR6 M]):ms=(own t).foldl lF []);go_wp21;refine ag.mono ?_;rintro e w2 ⟨v2,rfl,k1,k2,k3⟩;have hN2:=N.out.new k1 k2 k3;obtain⟨a2,d2,rfl⟩:=k1.form;have N2:=Z hN2;obtain⟨-, -,c2, -⟩:=ao (hN2.hb eQ.1);clear k1 k2 k3 hN2 ag hA;go_wp21;clear c2
   go_loopg [14,15,76] Hx.length (λgg s14 s15 s76 wr=>∃(kk:Nat) (so:Option Nat) (ms:List Y) (mv:Value) (cf:Bool),kk<=Hx.length/\Hx.length - kk<=gg/\s76=.int .i64 kk/\s15=.bool cf/\
    Aside (rA w S D obj rs K E r W wr b (aG t) n (n+1) (n+1+1) (n+1+1+1) (n+1+1+1+1+1) (n+1+1+1+1) so ms mv (cW (fs w K) w t kk).terms s14)/\Aside (Br NS ms)/\Aside (ms=(cW (fs w K) w t kk).ms)/\Aside (cf=(cW (fs w K) w t kk).comp))
   case atStart=>exact⟨0,so,ms,mv,false,jQc _,M,rfl,rfl,N2.1,m9.out,R5.1,rfl⟩
   case round=>
    clear N N2 R5 m9 A YG aR ez hg;obtain⟨kk,so,ms,mv,cf,ez,hg,rfl,rfl,N,m9,A,AC⟩:=hrel;obtain⟨va,vc,rfl⟩:=N.out.row.form;by_cases YG:kk<Hx.length
    .have aR:(kk:Int)<(Hx.length:Int):=M
     obtain⟨e,he⟩:∃x,(bN t)[kk]?=some x:=⟨(bN t)[kk]' M,by simp[hle,YG]⟩;obtain⟨pv,sP,qy⟩:=pZ.1.at he;have kB:=HO.1.gh.eu N.out.fr;obtain⟨b4,o4,rfl,kN,hc⟩:=(OV.1.move kB).nth sP;obtain⟨e1,e2,e3,e4,e5,e6,e7,e8⟩:=Ht.1 kk e he;obtain⟨-, -, -,c3, -⟩:=ao (N.out.hb eQ.1);have qN:=bj gJ.1.qp N.out.ok.gh qy (.inl ⟨2,e1⟩);obtain⟨T,f,b2,rfl,⟨hm,pC⟩,jL⟩:=qN;obtain⟨lx,Nr,HE1,HE5,HE6,HE7,HE8,XO⟩:=Z8 jL qy e1 e5 e6 e7 e8 e2;clear he sP kB kN qy e1 e2 e5 e6 e7 e8 jL;go_wp21;refine lx.1.mono ?_;rintro e' w3 ⟨v3,rfl,oE,pX⟩;replace pX:=pX.symm;subst pX;clear hc c3;by_cases xT:e.ld=12\/e.ld=13
     .have ZY:=abD (w:=w) xT;rw[ZY]at oE;have fp:=aP 184;obtain⟨b3,rfl,eY⟩:=id oE;have htu:=abC xT;have Mb:=SC gJ.1 HI.1 HT.1 hB M N.out.ok 0 eY xT (PO HE1.1 xT XO.1 e4 e3) N.out.us;have jF:=(rZ (w:=w) (K:=K) xT).1;have Oe:=PK (w:=w) (F:=fs w K) xT;have RA:=Z jF;have DH:=Z Oe;clear eY oE ZY xT jF Oe;rw[htu];clear htu;have ahC:=fp (ptr b3) 37 wr i5;clear fp;go_wp21;refine Mb.mono ?_;rintro e' w4 ⟨v4,rfl,⟨tb4,rfl,⟨inv4,tl4,k1,k2,k3,k4⟩,k5⟩,g1,g2⟩;have hN4:=N.out.go g1 g2 k5;rw[RA.1]at k3 k4;obtain⟨q0,q1,q2,q3⟩:=dx k1;cases PZ:unionTerms (fs w K) w [] (Kt e)with
      |none=>
       have hi4:=k3 PZ;subst hi4;have cH:cW (fs w K) w t (kk+1)=cW (fs w K) w t kk:=by rw[HE7.1,DA];rw[DH.1,PZ];rfl
       have eF:=Z cH;have N4:=Z hN4;clear cH hN4 k1 k2 k3 k4 k5 g1 g2 Mb PZ q1 q2 q3;go_wp21;go_roundg (Hx.length - (kk+1))
       case measure=>omega
       case rel=>exact⟨kk+1,_,_,_,_,M,M,by go_num,rfl,(by rw[eF.1];exact N4.1),m9.out,(by rw[eF.1];exact A.out),(by rw[eF.1];exact AC.out)⟩
      |some q4=>
       obtain⟨hi4,abT⟩:=k4 q4 PZ;subst hi4;have cH:=(DH.1.trans (by rw[PZ];rfl):gu (fs w K) w e=some ⟨[],q4,false⟩);obtain⟨Q1,h82,h83,h84⟩:=HE8.1 _ cH;have hE7:=HE7.1;rw[nO cH]at hE7;have gO:=bO w4;obtain⟨a8,d8,rfl⟩:=abT.form;have xA:=Z abT;have B0:=Z (show ms=(cW (fs w K) w t (kk+1)).ms/\(cW (fs w K) w t (kk+1)).terms=(eJ (FF w K) w (λt=>(fs w K).cmp t false) (cW (fs w K) w t kk).terms cf q4 false).1/\(eJ (FF w K) w (λt=>(fs w K).cmp t false) (cW (fs w K) w t kk).terms cf q4 false).2=(cW (fs w K) w t (kk+1)).comp by
        rw[hE7,AC.out];exact⟨A.out,rfl,rfl⟩)
       have CS:=Z (show NF q4/\TL (jH NS Q w rs (J rs false false t)) q4/\(cW (fs w K) w t kk).terms.length*q4.length<=100000000 from⟨Q1,h82,h83⟩);clear N;have N:=Z hN4;clear hE7 cH Q1 h82 h83 h84 abT hN4 k1 k2 k3 k4 k5 g1 g2 Mb PZ;go_wp21;refine rv gO ?_;go_wp21;refine rv gO ?_;clear gO;have ag:=pK gJ.1 HI.1 HC.1 hB N.out.ok N.out.row xA.1 HE5.1.terms CS.1.2.1 (V5 CS.1.2.2) HE6.1 CS.1.1 cf (false);go_wp21
       with_reducible refine ag.mono ?_
       rintro e9 w9 ⟨v9,rfl,k1,k2,k3⟩;have N9:=Z (N.out.new k1 k2 k3);obtain⟨a9',c9',rfl⟩:=k1.form;clear ag k1 k2 k3;go_wp21;go_roundg (Hx.length - (kk+1))
       case measure=>omega
       case rel=>exact⟨kk+1,_,_,_,_,M,M,by go_num,rfl,(by rw[B0.1.2.1];exact N9.1),m9.out,B0.1.1,B0.1.2.2⟩
     .have abU:e.ld≠12:=λh=>xT (.inl h);have abV:e.ld≠13:=λh=>xT (.inr h);have Ft:=Yl HE1.1 abU abV;cases hi:isIf (az w e)with
      |true=>
       have cH:=PN (F:=fs w K) abU abV hi;obtain⟨Q1,h82,h83,h84⟩:=HE8.1 _ cH;obtain⟨b3,rfl,eY⟩:=id oE;have fk:=gU N.out.ok.gh Nr.1;have gO:=bO wr;have ig:=HT.1 _ wr b3 (az w e) 0 N.out.ok eY (jO gJ.1.wk gJ.1.qp Ft hi) (V5 ((jh gJ.1.wk gJ.1.qp Ft (rs:=rs)).1));have ht3:=jo hi;obtain⟨eF,H81,H82,H83,H84⟩:=Z5 (nO (w:=w) (a:=cW (fs w K) w t kk) cH) Q1 h82 h83 h84;clear cH Q1 h82 h83 h84 eY oE hi Ft;rw[ht3];clear ht3;go_wp21;refine rv fk ?_;go_wp21;refine rv gO ?_;go_wp21;refine ig.mono ?_;rintro e' w4 ⟨v4,rfl,⟨sb,rfl,fi⟩,g1,g2⟩;have N4:=Z (N.out.go0 g1 g2);obtain⟨msv,tlv,P1,hX⟩:∃msv tlv P1,TsX S D (EC E n (n+1+1) (n+1+1+1) (n+1+1+1+1+1) (n+1+1+1+1) so mv) w4 sb ((fs w K).ts (az w e)) msv tlv P1:=fi;obtain⟨-, -, -,k1, -,k3,k4,k5⟩:=id hX;obtain⟨a9,d9,rfl⟩:=k3.form;obtain⟨a8,d8,rfl⟩:=k5.form;obtain⟨-,q1,q2,q3⟩:=dx k1;have hl9:=k4.len;have hm9:=k3.max;have HX:=Z hX;clear hX k1 k3 k4 k5 g1 g2 fk gO ig;go_wp21;clear q1 q2 q3
       go_loopg [124] P1.length (λgg s124 wr5=>∃(jj:Nat) (so5:Option Nat) (ms5:List Y) (mv5:Value),jj<=P1.length/\P1.length - jj<=gg/\s124=.int .i64 jj/\
        Aside (rA w S D obj rs K E r W wr5 b (aG t) n (n+1) (n+1+1) (n+1+1+1) (n+1+1+1+1+1) (n+1+1+1+1) so5 ms5 mv5 (cW (fs w K) w t kk).terms (.slice va (cW (fs w K) w t kk).terms.length vc))/\
        Aside (TsX S D (EC E n (n+1+1) (n+1+1+1) (n+1+1+1+1+1) (n+1+1+1+1) so5 mv5) wr5 sb ((fs w K).ts (az w e)) (.slice a9 P1.length d9) (.slice a8 ((fs w K).ts (az w e)).terms.length d8) P1)/\
        Aside (ms5=(((fs w K).ts (az w e)).lw.take jj).foldl lF (cW (fs w K) w t kk).ms)/\Aside (Br NS ms5))
       case atStart=>exact⟨0,so,ms,mv,jQc _,M,rfl,N4.1,HX.out,A.out,m9.out⟩
       case round=>
        clear N4 HX N A m9;obtain⟨jj,so5,ms5,mv5,X1,hg5,rfl,N,HX,A,m9⟩:=hrel;by_cases vl:jj<P1.length
        .have aeY:(jj:Int)<(P1.length:Int):=M
         obtain⟨-, -, -, -, -,k3,k4, -⟩:=id HX.out;obtain⟨m5,Dk⟩:∃x,((fs w K).ts (az w e)).lw[jj]?=some x:=⟨((fs w K).ts (az w e)).lw[jj]' M,by simp[hl9,vl]⟩;obtain⟨pv,sP,iA⟩:=k4.at Dk;obtain⟨b5,o5,rfl, -,Ss⟩:=k3.nth sP;obtain⟨b6,pos6,pk6,v6,rfl, -⟩:=id iA;obtain⟨CH,iK,YH⟩:=r7 (H84.1 m5 (jQ8 Dk));have ag:=BZ N.out.TC (λy hy=>(N.out.sn.2 y hy).2) N.out.ok.gh.mT iA iK YH N.out.ok.gh.td N.out.fr.size (m9.out.lim CH gJ.1.nsl) 0 false;have hA:lF ms5 m5=(((fs w K).ts (az w e)).lw.take (jj+1)).foldl lF (cW (fs w K) w t kk).ms:=by rw[By lF _ Dk,<-A.out]
         have HA:=Z hA;have HM:=Z (m9.out.add CH);clear hA Dk sP k3 k4 iA CH iK YH;go_wp21;refine ag.mono ?_;intro e' w5 xR;obtain⟨rfl,so6,mv6,Re,kC,he5⟩:=N.out.YI gJ.1 xR;have hX5:=HX.out.step kC (λx H=>.inr (.inr H)) (λx H=>⟨H,kC.block x (N.out.ok.gh.mT x H) λe=>(N.out.sn.2 x e).2 H⟩) (λx H=>(he5 x H).imp id λh=>h.1);have N5:=Z Re;have X5:=Z hX5;clear xR Re ag hX5 kC he5;go_wp21;go_roundg (P1.length - (jj+1))
         case measure=>omega
         case rel=>exact⟨jj+1,so6,_,mv6,M,M,by go_num,N5.1,X5.1,HA.1,HM.1⟩
        .have aeY:¬(jj:Int)<(P1.length:Int):=M
         have hA:=A.out;rw[jR6 M]at hA;obtain⟨-, -, -,k1, -, -, -,k5⟩:=id HX.out;obtain⟨-, -,q2, -⟩:=dx k1;have xA:=Z k5;have B0:=Z (show ms5=(cW (fs w K) w t (kk+1)).ms/\(cW (fs w K) w t (kk+1)).terms=(eJ (FF w K) w (λt=>(fs w K).cmp t false) (cW (fs w K) w t kk).terms cf ((fs w K).ts (az w e)).terms ((fs w K).ts (az w e)).comp).1/\(eJ (FF w K) w (λt=>(fs w K).cmp t false) (cW (fs w K) w t kk).terms cf ((fs w K).ts (az w e)).terms ((fs w K).ts (az w e)).comp).2=(cW (fs w K) w t (kk+1)).comp by
          rw[HE7.1,eF.1,AC.out];exact⟨hA,rfl,rfl⟩)
         have CS:=Z (show NF ((fs w K).ts (az w e)).terms/\TL (jH NS Q w rs (J rs false false t)) ((fs w K).ts (az w e)).terms/\(cW (fs w K) w t kk).terms.length*((fs w K).ts (az w e)).terms.length<=100000000 from⟨H81.1,H82.1,H83.1⟩);clear hA k1 k5;have ag:=pK gJ.1 HI.1 HC.1 hB N.out.ok N.out.row xA.1 HE5.1.terms CS.1.2.1 (V5 CS.1.2.2) HE6.1 CS.1.1 cf (((fs w K).ts (az w e)).comp);go_wp21
         with_reducible refine ag.mono ?_
         rintro e9 w9 ⟨v9,rfl,k1,k2,k3⟩;have N9:=Z (N.out.new k1 k2 k3);obtain⟨a9',c9',rfl⟩:=k1.form;clear ag k1 k2 k3;go_wp21;go_roundg (Hx.length - (kk+1))
         case measure=>omega
         case rel=>exact⟨kk+1,_,_,_,_,M,M,by go_num,rfl,(by rw[B0.1.2.1];exact N9.1),m9.out,B0.1.1,B0.1.2.2⟩
      |false=>
       have cH:=LU (F:=fs w K) abU abV hi;obtain⟨Q1,h82,h83,h84⟩:=HE8.1 _ cH;have hE7:=HE7.1;rw[nO cH]at hE7;obtain⟨b3,rfl,eY⟩:=id oE;have tL:=Yk gJ.1 Ft;have ahC:=aP (tid (az w e).ld) (ptr b3) 37 wr (kO hi (Np gJ.1 Ft));have aeZ:=mG (tid (az w e).ld) (ptr b3) 37 wr (Yj tL.1 tL.2);have Pj:=fE gJ.1.wk gJ.1.qp Ft hi;have tM:=dy N.out.ok.gh oE (AE gJ.1.qp Pj);have yx:=kA N.out.ok.gh;have hT8:TmV S (wr.alloc (.cells #[.bool false,.iface T (ptr b2)] 158)) (some ⟨false,some e⟩) (ptr wr.heap.size):=⟨_,_,_,rfl,yx,ak _ _,.inl rfl,Nr.1⟩;have hB8:=an wr (.cells #[.bool false,.iface T (ptr b2)] 158);have hN8:=N.out.below gJ.1 hB8;have xA:=Z (show lS S ((wr.alloc (.cells #[.bool false,.iface T (ptr b2)] 158)).alloc (.cells #[ptr wr.heap.size] 156)) [some ⟨false,some e⟩] (.slice (some ⟨wr.heap.size+1,0,none⟩) 1 1)by
        have h:=FQ hT8 (kA hN8.ok.gh);rw[jQ3]at h;exact h)
       have Hs:=hN8.below gJ.1 (an (wr.alloc (.cells #[.bool false,.iface T (ptr b2)] 158)) (.cells #[ptr wr.heap.size] 156));have B0:=Z (show ms=(cW (fs w K) w t (kk+1)).ms/\(cW (fs w K) w t (kk+1)).terms=(eJ (FF w K) w (λt=>(fs w K).cmp t false) (cW (fs w K) w t kk).terms cf [some ⟨false,some e⟩] false).1/\(eJ (FF w K) w (λt=>(fs w K).cmp t false) (cW (fs w K) w t kk).terms cf [some ⟨false,some e⟩] false).2=(cW (fs w K) w t (kk+1)).comp by
        rw[hE7,AC.out];exact⟨A.out,rfl,rfl⟩)
       have CS:=Z (show NF [some ⟨false,some e⟩]/\TL (jH NS Q w rs (J rs false false t)) [some ⟨false,some e⟩]/\(cW (fs w K) w t kk).terms.length*[some (⟨false,some e⟩:Tm)].length<=100000000 from⟨Q1,h82,h83⟩);clear N;have N:=Z Hs;generalize tid (az w e).ld=T3 at*;clear hE7 cH Q1 h82 h83 h84 hN8 Hs hT8 hB8 yx Pj tL eY oE hi Ft;go_wp21;refine rv tM ?_;clear tM;have ag:=pK gJ.1 HI.1 HC.1 hB N.out.ok N.out.row xA.1 HE5.1.terms CS.1.2.1 (V5 CS.1.2.2) HE6.1 CS.1.1 cf (false);go_wp21
       with_reducible refine ag.mono ?_
       rintro e9 w9 ⟨v9,rfl,k1,k2,k3⟩;have N9:=Z (N.out.new k1 k2 k3);obtain⟨a9',c9',rfl⟩:=k1.form;clear ag k1 k2 k3;go_wp21;go_roundg (Hx.length - (kk+1))
       case measure=>omega
       case rel=>exact⟨kk+1,_,_,_,_,M,M,by go_num,rfl,(by rw[B0.1.2.1];exact N9.1),m9.out,B0.1.1,B0.1.2.2⟩
    .have aR:¬(kk:Int)<(Hx.length:Int):=M
     have ahD:=Z (show(fs w K).ts t=⟨ib (cW (fs w K) w t kk).ms,(cW (fs w K) w t kk).terms,(cW (fs w K) w t kk).comp⟩/\uR NS Q w rs (J rs false false t) (cW (fs w K) w t kk)by
      have hkv:kk=(bN t).length:=M
      have hTD:=HTD.1;rw[<-hkv]at hTD;exact hTD)
     obtain⟨-, -, -, -, -, -,c6⟩:=ao (N.out.hb eQ.1);obtain⟨tl0,abW⟩:=N.out.ts;have ahE:=Z abW;go_wp2_with (refine eT rfl 4 _ _ rfl n 3 (.bool cf) rfl rfl 124 _ ahE.1 g9 (by simp[Value.cells,Value.oneCell']) (by simp[Value.cells]) #[.bool false,.slice none 0 0,tl0,.bool cf] (by simp[Value.cells]) ?_);intro w5 kC;obtain⟨P1,jR,Ui⟩:=N.out.TC.row;obtain⟨JE,JF,rfl⟩:=pL jR;have iD:w5.heap[b]?=some (.cells #[.pointer none,.slice ma KC.length mc,.slice ea Hx.length ec,.pointer none,.bool false,.bool true,ptr n] 104 (0,0)):=(kC.other b M).trans (N.out.hb eQ.1);obtain⟨-, -, -, -, -, -,c65⟩:=ao iD;have zG:w5.heap[n+1+1+1]?=some (.cells #[.slice JE ms.length JF] 99 (0,0)):=(kC.other _ M).trans N.out.TC.b9;have c95:=jQh zG;obtain⟨YJ,YK⟩:=ahD.1;have xn:Value.ownBlock (.slice JE ms.length JF)≠some n:=λe=>N.out.nt (.inr (.inr (.inr (.inr (.inr e)))));cases ms with
     |nil=>
      have Uj:=Z kC;have Mc:=Z YJ;clear kC jR Ui zG YJ YK iD c6 abW;go_wp2_with (refine eT rfl 121 _ _ rfl n 2 (.slice va (cW (fs w K) w t kk).terms.length vc) rfl rfl 124 _ Uj.1.here g9 (by simp[Value.cells,Value.oneCell']) (by simp[Value.cells]) #[.bool false,.slice none 0 0,.slice va (cW (fs w K) w t kk).terms.length vc,.bool cf] (by simp[Value.cells]) ?_);intro w6 wT;have gS:w6.heap[b]?=some (.cells #[.pointer none,.slice ma KC.length mc,.slice ea Hx.length ec,.pointer none,.bool false,.bool true,ptr n] 104 (0,0)):=(wT.other b M).trans ((Uj.1.other b M).trans (N.out.hb eQ.1));obtain⟨-, -, -, -, -, -,c66⟩:=ao gS;have ae0:=Uj.1.trans wT;have hA:=A.out;have hAC:=AC.out;have HP:=Z (rA.fin HO.1 bH N.out gJ.1 ((iN.put ae0 λEk t' f hc=>N.out.ont n (.inl rfl) Ek t' f hc).wide (λx H=>.inl H) N.out.ont) (msv:=.slice none 0 0) (ps:=[]) (by rw[Mc.1,<-hAC];exact wT.here) (.inl ⟨rfl,none,0,rfl,λ_=>rfl⟩) (by rw[Mc.1,<-hA];show All2 _ (ib []) [];rw[show ib []=[]by simp[ib]];trivial) (λad n c e=>by cases e) (by rw[Mc.1]));clear wT ae0 gS hA hAC c65 c95;exact M21
     |cons m0 ml=>
      have hA:=A.out;have hAC:=AC.out;have Kr:∀m∈m0::ml,VW NS Q w rs (J rs false false t) m:=by rw[hA];exact YK.ms
      have uu:((m0::ml).map (·.name)).Nodup:=by rw[hA];exact YK.nodup
      have ZL:(m0::ml).length<=1099511627776:=by
       have:=kE uu (m:=NS) λa ha=>by
        obtain⟨x,H,rfl⟩:=jQu.1 ha;exact(r7 (Kr x H)).1
       have:=gJ.1.nsl;rw[jR7]at*;omega
      have abX:au D D wr w5:=λx H=>⟨H,kC.other x λe=>(N.out.ok.own n (.inr (.inl rfl))).2.1 (e▸H)⟩;have aaB:w5.ownsRow W.heap.size 97 1 (.slice JE (m0::ml).length JF) (m0::ml).length P1:=jb jR λg hg=>kC.other g λe=>xn (e▸hg);have ag:=yt aaB (Ui.imp λm p j=>j.move (λ_ _ h=>h) abX) i6 (λm hm=>(r7 (Kr m hm)).2) uu ZL (λg hg=>(N.out.sn.2 g (.inr (.inr (.inr (.inr (.inr hg)))))).2) (N.out.ok.gh.mT.mono (jQz kC.size.symm)) (N.out.ok.gh.td.move abX);obtain⟨Uj,Mc,HA9,HAC9,xx,ZS⟩:=Z6 kC YJ hA hAC iD zG;have hmlz:¬((ml.length:Int)+1=0):=M
      clear kC jR Ui zG YJ YK iD c6 abW hA hAC Kr uu aaB abX;go_wp21;refine ag.mono ?_;rintro e w6 ⟨rfl,⟨ps6,lj,aaC⟩,wT⟩;have hv9:Value.ownBlock (.slice JE (m0::ml).length JF)≠some (n+1+1+1):=N.out.TC.vne.2.1;have gS:w6.heap[b]?=some (.cells #[.pointer none,.slice ma KC.length mc,.slice ea Hx.length ec,.pointer none,.bool false,.bool true,ptr n] 104 (0,0)):=(wT.block b (jQ2 xx.1) λe=>by have:=N.out.lp b (.inr (.inr (.inr (.inr (.inr e)))));omega).trans xx.1;have ae1:w6.heap[n+1+1+1]?=some (.cells #[.slice JE (m0::ml).length JF] 99 (0,0)):=(wT.block _ (jQ2 ZS.1) hv9).trans ZS.1;have JA:w6.heap[n]?=some (.cells #[.bool false,.slice none 0 0,tl0,.bool cf] 124 (0,0)):=(wT.block n (jQ2 Uj.1.here) xn).trans Uj.1.here;obtain⟨-, -, -, -, -, -,c66⟩:=ao gS;have c96:=jQh ae1;obtain⟨-,c16, -, -⟩:=dx JA;have f16:=cd JA 1;obtain⟨vX,ae2,HP6,HB6,HN6⟩:=Z5 lj aaC wT gS JA;clear lj aaC wT gS ae1 JA ag c65 c95;go_wp21
      go_region
      have Uk:=aw HN6.1 1 (.slice JE (ml.length+1) JF);have hp7:kT n #[.bool false,.slice JE (ml.length+1) JF,tl0,.bool cf] 124 w6 (w6.setCell ⟨n,1,none⟩ (.slice JE (ml.length+1) JF)).drew:=by
       simp at Uk;exact⟨Uk.here,Uk.other,Uk.size,Uk.os,Uk.tape,Uk.output⟩
      clear Uk c16 f16 c66 c96;generalize(w6.setCell ⟨n,1,none⟩ (.slice JE (ml.length+1) JF)).drew=w7 at hp7⊢;have ek:w7.heap[b]?=some (.cells #[.pointer none,.slice ma KC.length mc,.slice ea Hx.length ec,.pointer none,.bool false,.bool true,ptr n] 104 (0,0)):=(hp7.other b M).trans HB6.1;obtain⟨-, -, -, -, -, -,c67⟩:=ao ek;have HP7:=Z hp7;clear hp7 ek;go_wp2_with (refine eT rfl 121 _ _ rfl n 2 (.slice va (cW (fs w K) w t kk).terms.length vc) rfl rfl 124 _ HP7.1.here g9 (by simp[Value.cells,Value.oneCell']) (by simp[Value.cells]) #[.bool false,.slice JE (ml.length+1) JF,.slice va (cW (fs w K) w t kk).terms.length vc,.bool cf] (by simp[Value.cells]) ?_);intro w8 WC;have nN:w8.heap[b]?=some (.cells #[.pointer none,.slice ma KC.length mc,.slice ea Hx.length ec,.pointer none,.bool false,.bool true,ptr n] 104 (0,0)):=(WC.other b M).trans ((HP7.1.other b M).trans HB6.1);obtain⟨-, -, -, -, -, -,c68⟩:=ao nN;have JG:=HP7.1.trans WC;have yx:=N.out.sn;have oX:=(iN.put Uj.1 λEk t' f hc=>N.out.ont n (.inl rfl) Ek t' f hc).wide (E2:=λx=>x=n\/Value.ownBlock (.slice JE (m0::ml).length JF)=some x) (λx H=>.inl H) N.out.ont;have ae3:∀x,(x=n\/Value.ownBlock (.slice JE (m0::ml).length JF)=some x)->∀cs t f,w5.heap[x]?=some (.cells cs t f)->t≠158/\t≠237:=by
       rintro x H cs t' f hc;by_cases hxn:x=n
       .rw[hxn,Uj.1.here]at hc;cases hc;decide
       .rw[Uj.1.other x hxn]at hc;exact N.out.ont x H cs t' f hc
      have Rh:=HP6.1.wide (E2:=λx=>x=n\/Value.ownBlock (.slice JE (m0::ml).length JF)=some x) (λx H=>.inr H) ae3;have hv8:iN (λx=>x=n\/Value.ownBlock (.slice JE (m0::ml).length JF)=some x) wr w8:=by
       have h56:=oX.trans Rh;refine⟨JG.os.trans h56.os,JG.tape.trans h56.tape,JG.output.trans h56.output,jQd h56.size (jQz JG.size.symm),λx H hn=>?_,N.out.ont⟩;exact(JG.other x λe=>hn (.inl e)).trans (h56.block x H hn)
      have gP:(m0::ml).length=ml.length+1:=rfl;have pT:(ib (m0::ml)).length=ml.length+1:=by rw[(tz _).length_eq];rfl
      have yu:∀g,Value.ownBlock (.slice JE (m0::ml).length JF)=some g->S g=none:=λg hg=>(yx.2 g (.inr (.inr (.inr (.inr (.inr hg)))))).1;have aaD:w8.ownsRow W.heap.size 97 1 (.slice JE (m0::ml).length JF) (ib (m0::ml)).length ps6:=jb vX.1 λg hg=>JG.other g λe=>xn (e▸hg);have ae4:au D D w6 w8:=λx H=>⟨H,JG.other x λe=>(N.out.ok.own n (.inr (.inl rfl))).2.1 (e▸H)⟩;have hA:=A.out;have hAC:=AC.out;have HP:=Z (rA.fin HO.1 bH N.out gJ.1 hv8 (msv:=.slice JE (m0::ml).length JF) (ps:=ps6) (by rw[Mc.1,<-hAC];exact WC.here) (yK aaD yu) (by rw[Mc.1,<-hA];exact ae2.1.imp λm p j=>j.move (λ_ _ h=>h) ae4)
       (λad nn c e hn hl=>by
        have:=N.out.lp ad.block (.inr (.inr (.inr (.inr (.inr (by rw[e];rfl))))));omega) (by rw[Mc.1]))
      clear WC JG nN hA hAC oX Rh hv8 ae3 aaD ae4 yu pT gP yx c67;go_wp2;go_ret;exact HP.1
def Pw(mb:Nat)(w):(binOp .eql 223 (.map (some mb)) (.map none)).run prog w=.ok (.bool false) w:=g9
def Px(w):(binOp .eql 223 (.map none) (.map none)).run prog w=.ok (.bool true) w:=g9
def LI(hE:Env NS Q w rs cs)(hC:dE NS Q w S D obj rs K r)(hT:dS NS Q w S D obj rs K r)(hr:r+1<=K):dE NS Q w S D obj rs K (r+1):=by
 intro E G W v t d so bD hv MX AB mw hG;show Calls _ _ _ _ (Dx w S D obj rs K E G (r+1) so W t d);obtain⟨b,rfl,hs⟩:=id hv;have Wg:=Z (Py (rs:=rs) hE MX);have Et:=Z (show(fs w K).cmp t d=bX (fs w K) w t d from abp hE hr MX AB);have hkt:=AZ rs true false t;have HG:=Z (show∀q s,(G q\/q=b)->S q=some s->J rs true false (aG t)<=J rs true false s from λq s hq oC=>by
  obtain hq|rfl:=hq
  .have:=hG q s hq oC;omega
  .rw[hs]at oC;cases oC;exact jQ0 _)
 have I3:okTid (tid t.ld)=true:=Eu _;obtain⟨HE,HC,HT,Nr,nX,HS⟩:=Z6 hE hC hT hv MX hs;cases so with
 |none=>
  have hl:=Pz (W:=W) (a:=b) I3;have kh:(Instr.makeMap 223 none).run prog W=.ok (.map (some W.heap.size)) (W.alloc (.map #[] 0)):=rfl;have heq:=Px W;have ar:=an W (.map #[] 0);have mx:=bD.below hE.hs ar;obtain⟨w4,IP,gF⟩:=SZ (es:=#[]) (.bool true) mx.gh (ak W _) (λe he=>by simp at he) hs I3 rfl;have hN:Hu w S D obj rs K E G (r+1) none W w4 b W.heap.size d:=Hu.start bD hE hs (Below.fr ar) mx (ak W _) (λe he=>by simp at he) gF;generalize Ev:W.heap.size=mb at*;have HM:=Z (show XV none mb W from .inr ⟨rfl,jQz Ev⟩);have N:=Z hN;clear hN bD hv MX mw hG hE hC hT mx ar gF hs;go_in;have qN:=bj HE.1.qp N.1.ok.gh Nr.1 (.inl ⟨0,nX.1⟩);obtain⟨T,f,b2,e2,⟨hm,pC⟩,jL⟩:=qN;simp at e2;obtain⟨rfl,rfl⟩:=e2;have lx:=Z jL;clear jL;go_wp21;refine lx.1.mono ?_;rintro e' w5 ⟨v3,rfl,oE,gW⟩;replace gW:=gW.symm;subst gW;obtain⟨b3,rfl,eY⟩:=id oE;have hU:=(lq (rs:=rs) HE.1.wk HE.1.qp nX.1).1;rcases gK HE.1 nX.1 with hk|hk|hk|hk|hk|hk|hk|hk|hk
  .exact M28
  .have iW:tid (az w t).ld=129:=by rw[hk];rfl
   rw[iW];clear iW;have dB:=aY 129 (ptr b3) 37 w4 i5;have dn:=aT 129 (ptr b3) 37 w4 i5;have jY:=ed 129 (ptr b3) 37 w4 i5;have eW:=bd 129 (ptr b3) 37 w4 i5;have ql:PT NS Q w 0 (az w t):=M69
   have jC:=aW (t:=az w t) M M M M;have ez:(aG (az w t)).ld=(az w t).ld:=aI M;obtain⟨v5,e5,g1,aZ,LJ⟩:=(N.1.ok.gh.node b3 _ eY).2.2.1 (by rw[ez];exact hk);have jF:(aG (az w t)).li=(az w t).li:=by rw[jC];rfl
   rw[jF]at g1;obtain⟨p1,p2⟩:=ov (rs:=rs) ql (.inr hk) e5 (by rw[g1];simp);have iZ:(fs w K).cmp t d=(fs w K).cmp e5 d:=by rw[Et.1];unfold bX;simp[hk,g1,isIf]
   have c1:=G7 1 aZ
   have ag:=HC.1 E (λq=>G q\/q=b) w4 v5 e5 d (some mb) (N.1.ok.le M) LJ p1 (V6 Wg.1.1 (AZ rs true false t)) N.1.seen (λq s hq hs=>by have:=HG.1 q s hq hs;have:=Wg.1.1;omega);obtain⟨b5,rfl,Q3⟩:=id LJ;generalize tid e5.ld=T5 at*;have vD:=Z iZ;clear ql jC ez jF aZ iZ oE eY hU hk g1 p1 p2 Q3 LJ;go_wp21;refine ag.mono ?_;rintro e' w6 ⟨u6,rfl,hu6,g1,g2⟩;replace g1:=N.1.ok.up g2 g1;replace g2:=g2.mono (show r<=r+1 by omega);clear ag;rcases hu6 with⟨rfl,yY,vE⟩|⟨q6,rfl,yY⟩
   .exact M181
   .have N6:=Z (show∀O,S5 w6 O->∀q,Dx w S D obj rs K E G (r+1) none W t d (.returned (ptr q)) O from λO hb q=>⟨_,rfl,.inr ⟨q,rfl,vD.1.trans yY⟩,g1.below HE.1.hs hb,((N.1.fr.trans g2).trans (Below.fr hb)).sub (λx e=>by cases e;obtain h|h:=HM.1;exact .inl h;exact .inr h.2)⟩);exact M91
  .exact M58
  .have iW:tid (az w t).ld=203:=by rw[hk];rfl
   rw[iW];clear iW;have dB:=aY 203 (ptr b3) 37 w4 i5;have dn:=aT 203 (ptr b3) 37 w4 i5;have jY:=ed 203 (ptr b3) 37 w4 i5;have ql:PT NS Q w 0 (az w t):=M69
   have jC:=aW (t:=az w t) M M M M;have ez:(aG (az w t)).ld=(az w t).ld:=aI M;obtain⟨fs5,tg5,iw,aZ,oY, -,sB⟩:=(N.1.ok.gh.node b3 _ eY).2.2.2.2.1 (by rw[ez];exact hk);have jF:(aG (az w t)).li=(az w t).li:=by rw[jC];rfl
   rw[jF]at sB;have Tb:=λe he=>ov (rs:=rs) ql (.inl hk) e he;have iZ:(fs w K).cmp t d=(az w t).li.all λe=>(fs w K).cmp e d:=by rw[Et.1];unfold bX;simp[hk,isIf]
   obtain⟨a5,d5,rfl⟩:=oY.form;have Kx:=sB.len;have Dk:=oY.max;have c0:=G7 0 aZ
   obtain⟨vD,LA,LB,abq,N0⟩:=Z5 iZ oY sB Tb N.1;clear ql jC ez jF aZ iZ oE eY hU hk oY sB Tb;go_wp21;clear c0
   go_loopg [51] iw.length (λgg s51 wr=>∃kk:Nat,kk<=iw.length/\iw.length - kk<=gg/\s51=.int .i64 kk/\Aside (Hu w S D obj rs K E G (r+1) none W wr b mb d)/\Aside (bZ (λx=>some mb=some x) S rs (r+1) w4 wr)/\Aside (((az w t).li.drop kk).all (λe=>(fs w K).cmp e d)=(az w t).li.all λe=>(fs w K).cmp e d))
   case atStart=>exact⟨0,jQc _,M,rfl,N.1,bZ.refl _,rfl⟩
   case round=>
    obtain⟨kk,ez,hg,rfl,N5,F5,A5⟩:=hrel;by_cases vl:kk<iw.length
    .have aR:(kk:Int)<(iw.length:Int):=M
     obtain⟨x,H⟩:∃x,(az w t).li[kk]?=some x:=⟨(az w t).li[kk]' M,by simp[Kx,vl]⟩;obtain⟨pv,sP,El⟩:=LB.1.at H;have kB:=N0.1.ok.gh.eu F5.out;obtain⟨b6,o6,rfl, -,yY⟩:=(LA.1.move kB).nth sP;obtain⟨b7,Pm,pk7,v7,k7,rfl,Rf,ek,tO⟩:=El.move (λ_ _ h=>h) kB;have c3:=G7 3 ek
     obtain⟨p1,p2⟩:=abq.1 x (jQ8 H);have hA:=A5.out;rw[cZ H,jRl]at hA;have ag:=HC.1 E (λq=>G q\/q=b) wr v7 x d (some mb) (N5.out.ok.le M) tO p1 (V6 Wg.1.1 (AZ rs true false t)) N5.out.seen (λq s hq hs=>by have:=HG.1 q s hq hs;have:=Wg.1.1;omega);obtain⟨b8,rfl, -⟩:=id tO;have abr:S b7=none:=M197
     generalize tid x.ld=T8 at*;have HA:=Z hA;have zM:=Z ek;clear H sP El kB ek tO p1 p2 hA;go_wp21;refine ag.mono ?_;rintro e' w6 ⟨u6,rfl,hu6,g1,g2⟩;replace g1:=N5.out.ok.up g2 g1;replace g2:=g2.mono (show r<=r+1 by omega);clear ag;rcases hu6 with⟨rfl,A1,vE⟩|⟨q6,rfl,A1⟩
     .exact M70
     .have c36:ce w6 b7 3 (.iface T8 (ptr b8)):=g2.cell abr c3;have Tc:(fs w K).cmp t d=false:=by have:=HA.1;rw[A1,Bool.false_and]at this;exact vD.1.trans this.symm
      have N6:=Z (show∀O,S5 w6 O->∀q,Dx w S D obj rs K E G (r+1) none W t d (.returned (ptr q)) O from λO hb q=>⟨_,rfl,.inr ⟨q,rfl,Tc⟩,g1.below HE.1.hs hb,((N5.out.fr.trans g2).trans (Below.fr hb)).sub (λx e=>by cases e;obtain h|h:=HM.1;exact .inl h;exact .inr h.2)⟩);exact M95
    .exact M118
  .exact M120
  .exact M61
  .exact M59
  .exact M121
  .have iW:tid (az w t).ld=33:=jo hk;rw[iW];clear iW;have dB:=aY 33 (ptr b3) 37 w4 i5;have dn:=aT 33 (ptr b3) 37 w4 i5;have jY:=ed 33 (ptr b3) 37 w4 i5;have eW:=bd 33 (ptr b3) 37 w4 i5;have fX:=cM 33 (ptr b3) 37 w4 i5;cases d with
   |true=>
    exact M43
   |false=>
    have iZ:(fs w K).cmp t false=lB (fs w K) ((fs w K).ts (az w t)):=M84
    rw[A3]at iZ;have cP:=jO HE.1.wk HE.1.qp nX.1 hk;have hJu:=(jh (rs:=rs) HE.1.wk HE.1.qp nX.1).2;have ig:=bG HT.1 (N.1.ok.le (show r<=r+1 by omega)) eY cP M;have HTT:=Z (λ(w6:World) (g1:Ok w S D obj rs K E r w6)=>bG HT.1 g1 eY cP M);have CS:=Z (vh HE.1.wk HE.1.qp HE.1.te r K M _ cP M).nf;have Td:=Z ((eZ HE.1.wk HE.1.qp r K K M M).2 _ cP M).terms;have fw:2*J rs false false (az w t)<=r:=M
    have vD:=Z iZ;clear iZ oE eY hU hk cP hJu;generalize fi:(fs w K).ts (az w t)=ts at*;clear fi;go_wp21;refine ig.mono ?_;rintro e' w6 ⟨v6,rfl,⟨sb6,rfl,Te⟩,g1,g2⟩;have vE:gp w K S false (λq=>G q\/q=b) w6 (some mb):=N.1.seen.map g2;have ag:=qX HE.1 HC.1 g1 Te.jl CS.1 Td.1 fw (λq s hq hs=>by have:=HG.1 q s hq hs;have:=Wg.1.2;omega) vE;have Tf:=Z (show bZ (λx=>some mb=some x) S rs r w4 w6 from Fr.x g2);clear g1 g2 Te vE ig;go_wp21;refine ag.mono ?_;rintro e' w7 ⟨rfl,k1,k2,k3⟩;have F1:=vD.1;generalize(if isAllL ts.terms then ts.comp else if aK ts.terms then false else ts.terms.all (A4 (fs w K)))=res at*;clear ag;have XW:=(Tf.1.trans k2).mono (show r<=r+1 by omega);have XX:=N.1.ok.up (Tf.1.trans k2) k1;cases res with
    |true=>
     exact M183
    |false=>
     obtain⟨K1,yU,HF7,PA⟩:=Z4 k1 XX XW F1;have ig:=HTT.1 w7 k1;clear k1 k2 k3 XW XX F1;go_wp21;refine ig.mono ?_;rintro e' w8 ⟨v8,rfl,⟨sb8,rfl,Tg⟩,g1,g2⟩;have bW:=gL Tg.jl;have HO8:=Z (yU.1.up g2 g1);have HF8:=Z (HF7.1.trans (Fr.x (bZ.mono g2 (show r<=r+1 by omega))));clear g1 g2 Tg ig;go_wp21;refine rv bW ?_;clear bW;generalize aK ts.terms=em;have N6:=Z (show∀O,S5 w8 O->∀q,Dx w S D obj rs K E G (r+1) none W t false (.returned (ptr q)) O from λO hb q=>⟨_,rfl,.inr ⟨q,rfl,PA.1⟩,HO8.1.below HE.1.hs hb,((N.1.fr.trans HF8.1).trans (Below.fr hb)).sub (λx e=>by cases e;obtain h|h:=HM.1;exact .inl h;exact .inr h.2)⟩);exact M104
 |some mb=>
  obtain⟨ens,ck,hm,Hp⟩:=mw mb rfl;have hks:NC S ens.toList:=λe he=>by obtain⟨q,s,I,U,_⟩:=Hp e he;exact⟨q,s,I,U⟩
  have hl:=aeg bD.gh hm hks hs I3;cases hh:hitE (Th (tid t.ld) b) ens.toList 0 with
  |some jv=>
   obtain⟨hp,vv⟩:=jv;obtain⟨k,en, -,U,h3,rfl⟩:=oD hh;obtain⟨q,s,g1,g2,g3,g4⟩:=Hp en (jQ8 U);rw[g1]at h3;simp[Th]at h3;obtain⟨-,rfl⟩:=h3;rw[hs]at g2;cases g2;have hc:(fs w K).cmp t d=true:=by
    obtain h|h:=g4
    .rw[<-dX.cmp (oN t)];exact h
    .have:=hG _ _ h hs;omega
   rw[hh,g3]at hl;simp only[Option.map_some,Option.getD_some]at hl;have HP:=Z (show Dx w S D obj rs K E G (r+1) (some mb) W t d (.returned (.pointer none)) W from⟨_,rfl,.inl ⟨rfl,hc,mw⟩,bD,bZ.refl _⟩);clear bD hv MX mw hG hE hC hT hm Hp hks hh U g1 g3 g4 hc hs;go_in;exact M21
  |none=>
   rw[hh]at hl;simp only[Option.map_none,Option.getD_none]at hl;have heq:=Pw mb W;obtain⟨w4,IP,gF⟩:=SZ (.bool true) bD.gh hm hks hs I3 hh;have hN:Hu w S D obj rs K E G (r+1) (some mb) W w4 b mb d:=Hu.start bD hE hs (bZ.refl _) bD hm Hp gF;have HM:=Z (show XV (some mb) mb W from .inl rfl);have N:=Z hN;clear hN bD hv MX mw hG hE hC hT gF hm Hp hks hh hs;go_in;have qN:=bj HE.1.qp N.1.ok.gh Nr.1 (.inl ⟨0,nX.1⟩);obtain⟨T,f,b2,e2,⟨hm,pC⟩,jL⟩:=qN;simp at e2;obtain⟨rfl,rfl⟩:=e2;have lx:=Z jL;clear jL;go_wp21;refine lx.1.mono ?_;rintro e' w5 ⟨v3,rfl,oE,gW⟩;replace gW:=gW.symm;subst gW;obtain⟨b3,rfl,eY⟩:=id oE;have hU:=(lq (rs:=rs) HE.1.wk HE.1.qp nX.1).1;rcases gK HE.1 nX.1 with hk|hk|hk|hk|hk|hk|hk|hk|hk
   .exact M28
   .have iW:tid (az w t).ld=129:=by rw[hk];rfl
    rw[iW];clear iW;have dB:=aY 129 (ptr b3) 37 w4 i5;have dn:=aT 129 (ptr b3) 37 w4 i5;have jY:=ed 129 (ptr b3) 37 w4 i5;have eW:=bd 129 (ptr b3) 37 w4 i5;have ql:PT NS Q w 0 (az w t):=M69
    have jC:=aW (t:=az w t) M M M M;have ez:(aG (az w t)).ld=(az w t).ld:=aI M;obtain⟨v5,e5,g1,aZ,LJ⟩:=(N.1.ok.gh.node b3 _ eY).2.2.1 (by rw[ez];exact hk);have jF:(aG (az w t)).li=(az w t).li:=by rw[jC];rfl
    rw[jF]at g1;obtain⟨p1,p2⟩:=ov (rs:=rs) ql (.inr hk) e5 (by rw[g1];simp);have iZ:(fs w K).cmp t d=(fs w K).cmp e5 d:=by rw[Et.1];unfold bX;simp[hk,g1,isIf]
    have c1:=G7 1 aZ
    have ag:=HC.1 E (λq=>G q\/q=b) w4 v5 e5 d (some mb) (N.1.ok.le M) LJ p1 (V6 Wg.1.1 (AZ rs true false t)) N.1.seen (λq s hq hs=>by have:=HG.1 q s hq hs;have:=Wg.1.1;omega);obtain⟨b5,rfl,Q3⟩:=id LJ;generalize tid e5.ld=T5 at*;have vD:=Z iZ;clear ql jC ez jF aZ iZ oE eY hU hk g1 p1 p2 Q3 LJ;go_wp21;refine ag.mono ?_;rintro e' w6 ⟨u6,rfl,hu6,g1,g2⟩;replace g1:=N.1.ok.up g2 g1;replace g2:=g2.mono (show r<=r+1 by omega);clear ag;rcases hu6 with⟨rfl,yY,vE⟩|⟨q6,rfl,yY⟩
    .exact M181
    .have N6:=Z (show∀O,S5 w6 O->∀q,Dx w S D obj rs K E G (r+1) (some mb) W t d (.returned (ptr q)) O from λO hb q=>⟨_,rfl,.inr ⟨q,rfl,vD.1.trans yY⟩,g1.below HE.1.hs hb,((N.1.fr.trans g2).trans (Below.fr hb)).sub (λx e=>by cases e;obtain h|h:=HM.1;exact .inl h;exact .inr h.2)⟩);exact M91
   .exact M58
   .have iW:tid (az w t).ld=203:=by rw[hk];rfl
    rw[iW];clear iW;have dB:=aY 203 (ptr b3) 37 w4 i5;have dn:=aT 203 (ptr b3) 37 w4 i5;have jY:=ed 203 (ptr b3) 37 w4 i5;have ql:PT NS Q w 0 (az w t):=M69
    have jC:=aW (t:=az w t) M M M M;have ez:(aG (az w t)).ld=(az w t).ld:=aI M;obtain⟨fs5,tg5,iw,aZ,oY, -,sB⟩:=(N.1.ok.gh.node b3 _ eY).2.2.2.2.1 (by rw[ez];exact hk);have jF:(aG (az w t)).li=(az w t).li:=by rw[jC];rfl
    rw[jF]at sB;have Tb:=λe he=>ov (rs:=rs) ql (.inl hk) e he;have iZ:(fs w K).cmp t d=(az w t).li.all λe=>(fs w K).cmp e d:=by rw[Et.1];unfold bX;simp[hk,isIf]
    obtain⟨a5,d5,rfl⟩:=oY.form;have Kx:=sB.len;have Dk:=oY.max;have c0:=G7 0 aZ
    obtain⟨vD,LA,LB,abq,N0⟩:=Z5 iZ oY sB Tb N.1;clear ql jC ez jF aZ iZ oE eY hU hk oY sB Tb;go_wp21;clear c0
    go_loopg [51] iw.length (λgg s51 wr=>∃kk:Nat,kk<=iw.length/\iw.length - kk<=gg/\s51=.int .i64 kk/\Aside (Hu w S D obj rs K E G (r+1) (some mb) W wr b mb d)/\Aside (bZ (λx=>some mb=some x) S rs (r+1) w4 wr)/\Aside (((az w t).li.drop kk).all (λe=>(fs w K).cmp e d)=(az w t).li.all λe=>(fs w K).cmp e d))
    case atStart=>exact⟨0,jQc _,M,rfl,N.1,bZ.refl _,rfl⟩
    case round=>
     obtain⟨kk,ez,hg,rfl,N5,F5,A5⟩:=hrel;by_cases vl:kk<iw.length
     .have aR:(kk:Int)<(iw.length:Int):=M
      obtain⟨x,H⟩:∃x,(az w t).li[kk]?=some x:=⟨(az w t).li[kk]' M,by simp[Kx,vl]⟩;obtain⟨pv,sP,El⟩:=LB.1.at H;have kB:=N0.1.ok.gh.eu F5.out;obtain⟨b6,o6,rfl, -,yY⟩:=(LA.1.move kB).nth sP;obtain⟨b7,Pm,pk7,v7,k7,rfl,Rf,ek,tO⟩:=El.move (λ_ _ h=>h) kB;have c3:=G7 3 ek
      obtain⟨p1,p2⟩:=abq.1 x (jQ8 H);have hA:=A5.out;rw[cZ H,jRl]at hA;have ag:=HC.1 E (λq=>G q\/q=b) wr v7 x d (some mb) (N5.out.ok.le M) tO p1 (V6 Wg.1.1 (AZ rs true false t)) N5.out.seen (λq s hq hs=>by have:=HG.1 q s hq hs;have:=Wg.1.1;omega);obtain⟨b8,rfl, -⟩:=id tO;have abr:S b7=none:=M197
      generalize tid x.ld=T8 at*;have HA:=Z hA;have zM:=Z ek;clear H sP El kB ek tO p1 p2 hA;go_wp21;refine ag.mono ?_;rintro e' w6 ⟨u6,rfl,hu6,g1,g2⟩;replace g1:=N5.out.ok.up g2 g1;replace g2:=g2.mono (show r<=r+1 by omega);clear ag;rcases hu6 with⟨rfl,A1,vE⟩|⟨q6,rfl,A1⟩
      .exact M70
      .have c36:ce w6 b7 3 (.iface T8 (ptr b8)):=g2.cell abr c3;have Tc:(fs w K).cmp t d=false:=by have:=HA.1;rw[A1,Bool.false_and]at this;exact vD.1.trans this.symm
       have N6:=Z (show∀O,S5 w6 O->∀q,Dx w S D obj rs K E G (r+1) (some mb) W t d (.returned (ptr q)) O from λO hb q=>⟨_,rfl,.inr ⟨q,rfl,Tc⟩,g1.below HE.1.hs hb,((N5.out.fr.trans g2).trans (Below.fr hb)).sub (λx e=>by cases e;obtain h|h:=HM.1;exact .inl h;exact .inr h.2)⟩);exact M95
     .exact M118
   .exact M120
   .exact M61
   .exact M59
   .exact M121
   .have iW:tid (az w t).ld=33:=jo hk;rw[iW];clear iW;have dB:=aY 33 (ptr b3) 37 w4 i5;have dn:=aT 33 (ptr b3) 37 w4 i5;have jY:=ed 33 (ptr b3) 37 w4 i5;have eW:=bd 33 (ptr b3) 37 w4 i5;have fX:=cM 33 (ptr b3) 37 w4 i5;cases d with
    |true=>
     exact M43
    |false=>
     have iZ:(fs w K).cmp t false=lB (fs w K) ((fs w K).ts (az w t)):=M84
     rw[A3]at iZ;have cP:=jO HE.1.wk HE.1.qp nX.1 hk;have hJu:=(jh (rs:=rs) HE.1.wk HE.1.qp nX.1).2;have ig:=bG HT.1 (N.1.ok.le (show r<=r+1 by omega)) eY cP M;have HTT:=Z (λ(w6:World) (g1:Ok w S D obj rs K E r w6)=>bG HT.1 g1 eY cP M);have CS:=Z (vh HE.1.wk HE.1.qp HE.1.te r K M _ cP M).nf;have Td:=Z ((eZ HE.1.wk HE.1.qp r K K M M).2 _ cP M).terms;have fw:2*J rs false false (az w t)<=r:=M
     have vD:=Z iZ;clear iZ oE eY hU hk cP hJu;generalize fi:(fs w K).ts (az w t)=ts at*;clear fi;go_wp21;refine ig.mono ?_;rintro e' w6 ⟨v6,rfl,⟨sb6,rfl,Te⟩,g1,g2⟩;have vE:gp w K S false (λq=>G q\/q=b) w6 (some mb):=N.1.seen.map g2;have ag:=qX HE.1 HC.1 g1 Te.jl CS.1 Td.1 fw (λq s hq hs=>by have:=HG.1 q s hq hs;have:=Wg.1.2;omega) vE;have Tf:=Z (show bZ (λx=>some mb=some x) S rs r w4 w6 from Fr.x g2);clear g1 g2 Te vE ig;go_wp21;refine ag.mono ?_;rintro e' w7 ⟨rfl,k1,k2,k3⟩;have F1:=vD.1;generalize(if isAllL ts.terms then ts.comp else if aK ts.terms then false else ts.terms.all (A4 (fs w K)))=res at*;clear ag;have XW:=(Tf.1.trans k2).mono (show r<=r+1 by omega);have XX:=N.1.ok.up (Tf.1.trans k2) k1;cases res with
     |true=>
      exact M183
     |false=>
      obtain⟨K1,yU,HF7,PA⟩:=Z4 k1 XX XW F1;have ig:=HTT.1 w7 k1;clear k1 k2 k3 XW XX F1;go_wp21;refine ig.mono ?_;rintro e' w8 ⟨v8,rfl,⟨sb8,rfl,Tg⟩,g1,g2⟩;have bW:=gL Tg.jl;have HO8:=Z (yU.1.up g2 g1);have HF8:=Z (HF7.1.trans (Fr.x (bZ.mono g2 (show r<=r+1 by omega))));clear g1 g2 Tg ig;go_wp21;refine rv bW ?_;clear bW;generalize aK ts.terms=em;have N6:=Z (show∀O,S5 w8 O->∀q,Dx w S D obj rs K E G (r+1) (some mb) W t false (.returned (ptr q)) O from λO hb q=>⟨_,rfl,.inr ⟨q,rfl,PA.1⟩,HO8.1.below HE.1.hs hb,((N.1.fr.trans HF8.1).trans (Below.fr hb)).sub (λx e=>by cases e;obtain h|h:=HM.1;exact .inl h;exact .inr h.2)⟩);exact M104
def acM:(Tryz.prog.info? 104).map (·.size)=some 7:=g9
def acN:Tryz.prog.underlying 33=some (.pointer 104):=g9
def OA(hg:GH w S D obj W)(ha:S a=some sa)(hb:S b=some sb)(n:Nat):(binOp .eql 33 (ptr a) (ptr b)).run prog (W.drewN n)=.ok (.bool (a==b)) (W.drewN n):=by
 obtain⟨hp,hj,hz⟩:=jQ6.1 acM;obtain⟨cs,t,hc⟩:=hg.A9 a sa ha;obtain⟨Ek,t',yq⟩:=hg.A9 b sb hb;exact abH (LK (W:=W.drewN n) acN hj (by rw[hz];decide) hc yq)
def Mz{bp bq x1 y1 b1 b2:Nat}(hg:GH w S D obj W)(H:S x1=some sx)(hy:S y1=some sy)(I:S b1=some s1)(U:S b2=some s2)(j:W.heap[bp]?=some (.cells #[ptr x1,ptr y1,pp] 276 (0,0)))(hq:W.heap[bq]?=some (.cells #[ptr b1,ptr b2,pq] 276 (0,0)))(hb:b1≠b2)(hn:¬(x1=b1/\y1=b2))(iK:¬(x1=b2/\y1=b1)):
 Calls prog 173 #[ptr bp,ptr bq] W (LS W (.bool false)):=by
 have k1:=G7 0 j
 have k2:=G7 1 j
 have k3:=G7 0 hq
 have k4:=G7 1 hq
 have e1:=OA hg H I;have e2:=OA hg hy U;have e3:=OA hg H U;have e4:=OA hg hy I;clear hg H hy I U j hq;by_cases dt:x1=b1
 .have r1:(x1==b1)=true:=G9 dt
  have r2:(y1==b2)=false:=by simpa using λe=>hn ⟨dt,e⟩
  have r3:(x1==b2)=false:=by simpa using λe=>hb (dt.symm.trans e)
  obtain⟨v4,r4⟩:∃v,(y1==b1)=v:=⟨_,rfl⟩;clear hn iK hb dt;have hS:∃n,W.drew=W.drewN n/\True:=⟨1,rfl,trivial⟩;have hSS:=Z (show∀O,(∃n,O=W.drewN n)->(∃n,O=W.drewN n)/\ce O bp 0 (ptr x1)/\ce O bp 1 (ptr y1)/\ce O bq 0 (ptr b1)/\ce O bq 1 (ptr b2)/\(binOp .eql 33 (ptr x1) (ptr b1)).run prog O=.ok (.bool true) O/\(binOp .eql 33 (ptr y1) (ptr b2)).run prog O=.ok (.bool false) O/\(binOp .eql 33 (ptr x1) (ptr b2)).run prog O=.ok (.bool false) O/\(binOp .eql 33 (ptr y1) (ptr b1)).run prog O=.ok (.bool v4) O from λO ⟨n,e⟩=>by subst e;exact⟨⟨n,rfl⟩,k1,k2,k3,k4,by rw[<-r1];exact e1 n,by rw[<-r2];exact e2 n,by rw[<-r3];exact e3 n,by rw[<-r4];exact e4 n⟩);clear e1 e2 e3 e4 r1 r2 r3 r4 hS;go_in;go_wp21;refine t8 hSS ⟨1,rfl⟩ λai=>?_;refine t4 0 1 2 3 ?_;refine t4 4 5 6 7 ?_;refine t4 8 9 10 11 ?_;refine t4 12 13 14 15 ?_;refine t4 16 17 18 19 ?_;refine t4 20 21 22 23 ?_;refine t4 24 25 26 27 ?_;refine t2 28 29 ?_;refine t7 30 ?_;exact M76
 .have r1:(x1==b1)=false:=G9 dt
  obtain⟨v2,r2⟩:∃v,(y1==b2)=v:=⟨_,rfl⟩;by_cases dF:x1=b2
  .have r3:(x1==b2)=true:=G9 dF
   have r4:(y1==b1)=false:=by simpa using λe=>iK ⟨dF,e⟩
   clear hn iK hb dt dF;have hS:∃n,W.drew=W.drewN n/\True:=⟨1,rfl,trivial⟩;have hSS:=Z (show∀O,(∃n,O=W.drewN n)->(∃n,O=W.drewN n)/\ce O bp 0 (ptr x1)/\ce O bp 1 (ptr y1)/\ce O bq 0 (ptr b1)/\ce O bq 1 (ptr b2)/\(binOp .eql 33 (ptr x1) (ptr b1)).run prog O=.ok (.bool false) O/\(binOp .eql 33 (ptr y1) (ptr b2)).run prog O=.ok (.bool v2) O/\(binOp .eql 33 (ptr x1) (ptr b2)).run prog O=.ok (.bool true) O/\(binOp .eql 33 (ptr y1) (ptr b1)).run prog O=.ok (.bool false) O from λO ⟨n,e⟩=>by subst e;exact⟨⟨n,rfl⟩,k1,k2,k3,k4,by rw[<-r1];exact e1 n,by rw[<-r2];exact e2 n,by rw[<-r3];exact e3 n,by rw[<-r4];exact e4 n⟩);clear e1 e2 e3 e4 r1 r2 r3 r4 hS;go_in;go_wp21;refine t8 hSS ⟨1,rfl⟩ λai=>?_;refine t4 0 1 2 3 ?_;refine t4 4 5 6 7 ?_;refine t2 8 9 ?_;refine bg 10 ?_;refine bg 11 ?_;refine bg 12 ?_;refine bg 13 ?_;refine bg 14 ?_;refine bg 15 ?_;refine bg 16 ?_;refine bg 17 ?_;refine bg 18 ?_;refine t4 19 20 21 22 ?_;refine t4 23 24 25 26 ?_;refine t4 27 28 29 30 ?_;refine t4 31 32 33 34 ?_;refine t4 35 36 37 38 ?_;refine t4 39 40 41 42 ?_;exact M202
  .have r3:(x1==b2)=false:=G9 dF
   obtain⟨v4,r4⟩:∃v,(y1==b1)=v:=⟨_,rfl⟩;clear hn iK hb dt dF;have hS:∃n,W.drew=W.drewN n/\True:=⟨1,rfl,trivial⟩;have hSS:=Z (show∀O,(∃n,O=W.drewN n)->(∃n,O=W.drewN n)/\ce O bp 0 (ptr x1)/\ce O bp 1 (ptr y1)/\ce O bq 0 (ptr b1)/\ce O bq 1 (ptr b2)/\(binOp .eql 33 (ptr x1) (ptr b1)).run prog O=.ok (.bool false) O/\(binOp .eql 33 (ptr y1) (ptr b2)).run prog O=.ok (.bool v2) O/\(binOp .eql 33 (ptr x1) (ptr b2)).run prog O=.ok (.bool false) O/\(binOp .eql 33 (ptr y1) (ptr b1)).run prog O=.ok (.bool v4) O from λO ⟨n,e⟩=>by subst e;exact⟨⟨n,rfl⟩,k1,k2,k3,k4,by rw[<-r1];exact e1 n,by rw[<-r2];exact e2 n,by rw[<-r3];exact e3 n,by rw[<-r4];exact e4 n⟩);clear e1 e2 e3 e4 r1 r2 r3 r4 hS;go_in;go_wp21;refine t8 hSS ⟨1,rfl⟩ λai=>?_;refine t4 0 1 2 3 ?_;refine t4 4 5 6 7 ?_;refine t2 8 9 ?_;refine bg 10 ?_;refine bg 11 ?_;refine bg 12 ?_;refine bg 13 ?_;refine bg 14 ?_;refine bg 15 ?_;refine bg 16 ?_;refine bg 17 ?_;refine bg 18 ?_;refine t4 19 20 21 22 ?_;refine t4 23 24 25 26 ?_;refine t4 27 28 29 30 ?_;exact M76
def QI(S:Sg)(rs:List Nat)(W:World)(q:Nat):Nat->Value->Prop
 |0,p=>p=.pointer none
 |n+1,p=>∃b x y sx sy p',p=ptr b/\S b=none/\W.heap[b]?=some (.cells #[ptr x,ptr y,p'] 276 (0,0))/\S x=some sx/\S y=some sy/\(q<=2*J rs false false sx+1\/q<=2*J rs false false sy+1)/\QI S rs W q n p'
def vZ.depth(h:vZ S rs W q p):∃n,QI S rs W q n p:=by
 induction h with
 |nil=>exact⟨0,rfl⟩
 |cons a1 a2 a3 a4 a5 _ ih=>obtain⟨n,hn⟩:=ih;exact⟨n+1,_,_,_,_,_,_,rfl,a1,a2,a3,a4,a5,hn⟩
def QI.move:∀{n:Nat} {p:Value},QI S rs W q n p->bZ X S rs r W W'->QI S rs W' q n p
 |0,_,h,_=>h
 |n+1,p,h,hf=>by
  obtain⟨b,x,y,sx,sy,p',I,U,h3,h4,h5,h6,h7⟩:=h;exact⟨b,x,y,sx,sy,p',I,U,hf.obj U h3,h4,h5,h6,h7.move hf⟩
