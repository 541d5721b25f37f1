import Derived.Test.YtbdgppghkdibfaaGreatDoorA18
set_option linter.all false
set_option maxHeartbeats 16000000
set_option maxRecDepth 20000
namespace Go.Proofs.YtbdgppghkdibfaaGreatDoor
open Go Go.RowKit Go.Lib S P Tryz
variable{t t' x y:Y}{Q:Y->Prop}{NS:List ByteArray}{l l':List Y}{cs rs:List Nat}{w:List ah}{K a b cb q r:Nat}{obj:Nat->Nat}{D E:Qx}{GT:Prop}{S:Sg}{p pa pb sl u v:Value}{W W1:World}
def M128(h:GT:=by
 cases hs:S b9 with
 |none=>rfl
 |some s=>exact absurd CR (w'.out.gh.rS b9 s hs)):GT:=h
def M129(h:GT:=by
 cases hs:S jN with
 |none=>rfl
 |some s=>exact absurd Ga (w'.out.gh.rS jN s hs)):GT:=h
def M193(h:GT:=by
 go_in;go_wp21;refine rv aF ?_;go_wp21;refine rv aD ?_;exact M21):GT:=h
def M67(h:GT:=by
 go_in;go_wp21;refine rv aF ?_;go_wp21;refine rv aD ?_;go_wp21;refine rv yB ?_;go_wp21;refine rv Jc ?_;exact M21):GT:=h
def M93(h:GT:=by
 refine t2 20 21 ?_;refine bg 22 ?_;refine bg 23 ?_;refine bg 24 ?_;refine bg 25 ?_;refine bg 26 ?_;refine bg 27 ?_;refine bg 28 ?_;refine bg 29 ?_;refine bg 30 ?_;refine bg 31 ?_;refine t2 32 33 ?_;exact M22):GT:=h
def nE.uniq{nm Wf:ByteArray}(h:nE S D W nm t p)(h':nE S D W Wf t' p):dX t t':=by
 obtain⟨b,pos,pk,v,k,rfl, -,I,U⟩:=h;obtain⟨b',pos',F0,v',k',e, -,h3,h4⟩:=h';simp at e;subst e;rw[I]at h3;simp at h3;obtain⟨-, -, -,rfl, -⟩:=h3;exact U.uniq h4
def I9{id:Y->Y->Bool}:∀{l l':List Y},All2 dX l l'->(∀a∈l,∀b,dX a b->id a b=true)->idL id l l'=true
 |[],[],_,_=>rfl
 |a::l,b::l',h,hi=>by rw[idL,hi a i6 b h.1,I9 h.2 λx H=>hi x (by simp[H])];rfl
 |[],_::_,h,_=>h.elim
 |_::_,[],h,_=>h.elim
def NL{id:Y->Y->Bool}:∀{l l':List Y},l.length≠l'.length->idL id l l'=false
 |[],[],h=>absurd rfl h
 |a::l,b::l',h=>by rw[idL,NL (G9 h),Bool.and_false]
 |[],_::_,_=>rfl
 |_::_,[],_=>rfl
def EB{D:Qx}:∀{l l':List Y} {ps:List Value},All2 (λe p=>∃nm,nE S D W nm e p) l ps->All2 (λe p=>∃nm,nE S D W nm e p) l' ps->All2 dX l l'
 |[],[],[],_,_=>trivial
 |a::l,b::l',p::ps,h,h'=>by
  obtain⟨n1,I⟩:=h.1;obtain⟨n2,U⟩:=h'.1;exact⟨I.uniq U,EB h.2 h'.2⟩
 |[],_::_,[],_,h=>h.elim
 |[],_,_::_,h,_=>h.elim
 |_::_,_,[],h,_=>h.elim
 |_::_,[],_::_,_,h=>h.elim
def eE.uniq{xs ys:List Value}(h:eE D W xs sl)(h':eE D W ys sl):xs=ys:=by
 have hl:xs.length=ys.length:=by
  obtain⟨a,c,rfl⟩:=h.form;obtain⟨a',c',e⟩:=h'.form;simp at e;exact e.2.1
 rcases h with⟨rfl,_⟩|⟨I,b,o,c,rfl,_,_,_,h6⟩
 .exact(jQe hl.symm).symm
 .rcases h' with⟨rfl,_⟩|⟨_,b',o',c',e,_,_,_,h6'⟩
  .simp at hl;exact absurd hl I
  .simp at e;obtain⟨⟨rfl,rfl⟩, -⟩:=e;apply List.ext_getElem?;intro hp;by_cases hj:hp<xs.length
   .have e1:xs[hp]?=some xs[hp]:=by simp[hj]
    have e2:ys[hp]?=some (ys[hp]' M):=by simp[show hp<ys.length by omega]
    have:=(h6 hp _ e1).symm.trans (h6' hp _ e2);rw[e1,e2,this]
   .rw[jQx M,jQx M]
def sk.uniq(h:sk S D W l (ptr b))(h':sk S D W l' (ptr b)):All2 dX l l':=by
 rcases h with⟨_,e⟩|⟨_,b1,sl,ps,e,_,I,U,h3⟩
 .cases e
 rcases h' with⟨_,e'⟩|⟨_,b2,sl',wO,e',_,Q8,Is,h3'⟩
 .cases e'
 simp at e e';subst e;subst e';rw[I]at Q8;simp at Q8;subst Q8;have:=U.uniq Is;subst this;exact EB h3 h3'
def ED(T:TypeId)(pv)(h:T≠127):Calls prog 80 #[.iface T pv] W (dL W (.iface T pv)):=by
 have fp:=my T pv 37 W h;exact M85
def vI(h:sk S D W l p):Calls prog 158 #[p] W (dL W (.int .i64 l.length)):=by
 rcases h with⟨rfl,rfl⟩|⟨_,b,sl,ps,rfl, -,I,U,h3⟩
 .exact M85
 .obtain⟨a,c,rfl⟩:=U.form;have c0:=jQh I;have hl:=h3.len;rw[hl];clear I U h3 hl;exact M85
def Tq(w):(binOp .eql 37 (.iface 93 (.pointer none)) (.iface 93 (.pointer none))).run prog w=.ok (.bool true) w:=g9
def Tr(b:Nat)(w):(binOp .eql 37 (.iface 93 (.pointer none)) (.iface 93 (ptr b))).run prog w=.ok (.bool false) w:=g9
def Ts(b:Nat)(w):(binOp .eql 37 (.iface 93 (ptr b)) (.iface 93 (.pointer none))).run prog w=.ok (.bool false) w:=g9
def Tt{w:World}{ca cb:Array Value}{ta tb:TypeId}(ha:w.heap[a]?=some (.cells ca ta (0,0)))(hb:w.heap[b]?=some (.cells cb tb (0,0))):(binOp .eql 37 (.iface 93 (ptr a)) (.iface 93 (ptr b))).run prog w=.ok (.bool (a==b)) w:=by
 obtain⟨ms,hm⟩:=EE;obtain⟨te,i,hp,I,U,h3,h4,h5⟩:=tV X6;have:=Tu (Ja (tq:=93) hm I U h3 h4 h5 ha hb);exact M152
def Jb(hE:Env NS Q w rs cs)(hI:sv NS Q w S D obj rs K r)(hr:r+1<=K)(h:O5 NS Q w S D obj rs K (r+1) E W cb u v x y p q)(g1:Ok w S D obj rs K E (r+1) W1)(g2:Fr S rs (r+1) W W1)(ha:sk S D W1 l pa)(hb:sk S D W1 l' pb)(hl:∀e∈l,PT NS Q w 0 e/\J rs false false e<J rs false false x)(Kn:∀e∈l',PT NS Q w 0 e/\J rs false false e<J rs false false y):
 Calls prog 130 #[ptr cb,.iface 93 pa,.iface 93 pb,p] W1 (aV w S D obj rs K E (r+1) W1 λv _=>v=.bool (idL (fs w K).id l l')):=by
 have aF:=ED (W:=W1) 93 pa i5;have aD:=ED (W:=W1) 93 pb i5;have yB:=vI ha;have Jc:=vI hb;have c1:W1.cell? ⟨cb,1,none⟩=some (.bool false):=by simp[World.cell?,(h.cb.move g2).2]
 have jn:=Z (show∀b:Bool,idL (fs w K).id l l'=b->aV w S D obj rs K E (r+1) W1 (λv _=>v=.bool (idL (fs w K).id l l')) (.returned (.bool b)) W1 from λb hb=>⟨_,rfl,by rw[hb],g1,Fr.refl _⟩);have dB:∀pv,(Instr.typeAssert (.iface 93 pv) 37 89 true).run prog W1=.ok (.tuple #[.pointer none,.bool false]) W1:=λpv=>aY 93 pv 37 W1 i5;have fX:∀pv,(Instr.typeAssert (.iface 93 pv) 37 129 true).run prog W1=.ok (.tuple #[.pointer none,.bool false]) W1:=λpv=>cM 93 pv 37 W1 i5;have pj:∀pv,(Instr.typeAssert (.iface 93 pv) 37 131 true).run prog W1=.ok (.tuple #[.pointer none,.bool false]) W1:=λpv=>gz 93 pv 37 W1 i5;have eW:∀pv,(Instr.typeAssert (.iface 93 pv) 37 203 true).run prog W1=.ok (.tuple #[.pointer none,.bool false]) W1:=λpv=>bd 93 pv 37 W1 i5;have dn:∀pv,(Instr.typeAssert (.iface 93 pv) 37 133 true).run prog W1=.ok (.tuple #[.pointer none,.bool false]) W1:=λpv=>aT 93 pv 37 W1 i5;rcases id ha with⟨rfl,rfl⟩|⟨hla,ba,sla,psa,rfl,hDa,Wn,eD,haa⟩
 .rcases id hb with⟨rfl,rfl⟩|⟨hlb,bb,slb,psb,rfl,kN,mO,LO,Bh⟩
  .have heq:=Tq W1;have HP:=Z (jn.1 true rfl);clear ha hb hl Kn h hE hI g1 g2;exact M193
  .have heq:=Tr bb W1;have HP:=Z (jn.1 false (by cases l' with|nil=>exact absurd rfl hlb|cons a l=>rfl));have hz:¬((0:Int)=(l'.length:Int)):=by cases l' with|nil=>exact absurd rfl hlb|cons a l=>simp;omega
   clear ha hb hl Kn h hE hI g1 g2 mO LO Bh;exact M67
 .rcases id hb with⟨rfl,rfl⟩|⟨hlb,bb,slb,psb,rfl,kN,mO,LO,Bh⟩
  .have heq:=Ts ba W1;have HP:=Z (jn.1 false (by cases l with|nil=>exact absurd rfl hla|cons a l=>rfl));have hz:¬((l.length:Int)=(0:Int)):=by cases l with|nil=>exact absurd rfl hla|cons a l=>simp;omega
   clear ha hb hl Kn h hE hI g1 g2 Wn eD haa;exact M67
  .have heq:=Tt Wn mO;by_cases V0:ba=bb
   .subst V0;have cj:=ha.uniq hb;have HP:=Z (jn.1 true (I9 cj λa ha b hs=>by
     have:=h.rx;have:=h.qr;have I:=F9 hE.wk hE.qp (r+1) K hr a (hl a ha).1 (V5 ((hl a ha).2));rw[dX.id (dX.refl a) hs.symm];exact I))
    have hbt:(ba==ba)=true:=i6
    clear ha hb hl Kn h hE hI g1 g2 Wn eD haa mO LO Bh cj;exact M193
   .have X7:(ba==bb)=false:=G9 V0
    rw[X7]at heq;by_cases rP:l.length=l'.length
    .obtain⟨a5,d5,rfl⟩:=eD.form;obtain⟨a6,d6,rfl⟩:=LO.form;have k5:=jQh Wn;have k6:=jQh mO;have Kx:=haa.len;have hl6:=Bh.len;have Dk:=eD.max;obtain⟨XS,HRB,Tn,HAB,HL,HL',hx,HE⟩:=Z8 eD LO haa Bh hl Kn h hE;obtain⟨HI,G1,G2⟩:=Z3 hI g1 g2;have hsa:S ba=none:=by
      cases hs:S ba with
      |none=>rfl
      |some s=>exact absurd hDa (g1.gh.rS ba s hs)
     have rN:S bb=none:=by
      cases hs:S bb with
      |none=>rfl
      |some s=>exact absurd kN (g1.gh.rS bb s hs)
     have KSA:=Z (show∀O,Fr S rs (r+1) W1 O->ce O bb 0 (.slice a6 psb.length d6)from λO hf=>bZ.cell hf rN k6);have hz:((l.length:Int)=(l'.length:Int)):=by rw[rP]
     rw[rP]at yB;clear ha hb hl Kn h hE hI g1 g2 Wn eD haa mO LO Bh hz;go_in;go_wp21;refine rv aF ?_;go_wp21;refine rv aD ?_;go_wp21;refine rv yB ?_;go_wp21;refine rv Jc ?_;go_wp21;clear yB Jc aF aD heq c1
     go_loopg [303] psa.length (λgg s303 wr=>∃kk:Nat,kk<=psa.length/\psa.length - kk<=gg/\s303=.int .i64 kk/\Aside (Ok w S D obj rs K E (r+1) wr)/\Aside (Fr S rs (r+1) W1 wr)/\Aside (idL (fs w K).id (l.drop kk) (l'.drop kk)=idL (fs w K).id l l'))
     case atStart=>exact⟨0,jQc _,M,rfl,G1.1,Fr.refl _,rfl⟩
     case round=>
      obtain⟨kk,ez,hg,rfl,w',F,A⟩:=hrel;by_cases aM:kk<psa.length
      .have aR:(kk:Int)<(psa.length:Int):=M
       have qY:(kk:Int)<(psb.length:Int):=M
       obtain⟨e,he⟩:∃e,l[kk]?=some e:=⟨l[kk]' M,by simp[show kk<l.length by omega]⟩;obtain⟨e',oJ⟩:∃e,l'[kk]?=some e:=⟨l'[kk]' M,by simp[show kk<l'.length by omega]⟩;have kB:=G1.1.gh.eu F.out;obtain⟨p5,kC,n5,oX⟩:=Tn.1.at he;obtain⟨p6,wT,n6,Rh⟩:=HAB.1.at oJ;obtain⟨b7,o7,rfl, -,Lf⟩:=(XS.1.move kB).nth kC;obtain⟨b8,o8,rfl, -,hc8⟩:=(HRB.1.move kB).nth wT;obtain⟨b9,i9,pk9,v9,k9,rfl,CR,sD,Ri⟩:=oX.move (λ_ _ h=>h) kB;obtain⟨jN,i10,Bi,v10,sq,rfl,Ga,vJ,vK⟩:=Rh.move (λ_ _ h=>h) kB;have yu:S b9=none:=M128
       have vL:S jN=none:=M129
       have d9:=G7 3 sD
       have d10:=G7 3 vJ
       have k6r:=KSA.1 wr F.out;have hA:=A.out;rw[cZ he,cZ oJ,idL]at hA;have sM:=Z (show∀O,Ok w S D obj rs K E (r+1) O->Fr S rs (r+1) wr O->Calls prog 130 #[ptr cb,v9,v10,p] O (aV w S D obj rs K E (r+1) O λv _=>v=.bool ((fs w K).id e e'))from λO g1 g2=>
        kV HI.1 hx.1 Ri vK (HL.1 e (jQ8 he)).1 (HL'.1 e' (jQ8 oJ)).1 (HL.1 e (jQ8 he)).2 (HL'.1 e' (jQ8 oJ)).2 g1 ((G2.1.trans F.out).trans g2))
       have tC:=Z (show∀w1 w2,Fr S rs (r+1) wr w1->Ok w S D obj rs K E (r+1) w2->Fr S rs (r+1) w1 w2->(Ok w S D obj rs K E (r+1) w2/\Fr S rs (r+1) wr w2)from λ_ _ I U h3=>⟨U,bZ.trans I h3⟩);obtain⟨q9,rfl, -⟩:=id Ri;obtain⟨NM,rfl, -⟩:=id vK;have hS:=Z (show∀O,(Ok w S D obj rs K E (r+1) O/\Fr S rs (r+1) wr O)->(Ok w S D obj rs K E (r+1) O/\Fr S rs (r+1) wr O)/\ce O b9 3 (.iface (tid e.ld) (ptr q9))/\ce O jN 3 (.iface (tid e'.ld) (ptr NM))from λO h=>⟨h,bZ.cell h.2 yu d9,bZ.cell h.2 vL d10⟩);have HA:=Z hA;cases fP:(fs w K).id e e' with
       |true=>
        rw[fP]at sM HA;have hA2:=HA.1;rw[jRn]at hA2;have pZ:=Z hA2;clear hA hA2 fP he oJ kB kC oX wT Rh CR sD Ri Ga vJ vK yu vL HA;go_wp21;refine t8 hS ⟨w'.out.below HE.1.hs (jQ5 _ _).drew,Below.fr (jQ5 _ _).drew⟩ λai=>?_;refine t4 0 1 2 3 ?_;refine t4 4 5 6 7 ?_;refine t4 8 9 10 11 ?_;refine rd 12 rfl λK hK=>?_;go_simp;have hh:=ai.1;clear ai;refine(sM.1 _ hh.1 hh.2).mono ?_;rintro eA wA ⟨vA,rfl,rfl,g1,g2⟩;have gE:=tC.1 _ _ hh.2 g1 g2;refine hK.out _ _ (hS.1 _ gE) (λai=>?_);clear hh gE g1 g2;clear hK K;refine t7 13 ?_;refine jQl g9 ?_ _;have HH:=Z ai.1;clear ai;go_wp21;go_roundg (psa.length - (kk+1))
        case measure=>omega
        case rel=>exact⟨kk+1,M,M,by go_num,HH.1.1,F.out.trans HH.1.2,pZ.1⟩
       |false=>
        rw[fP]at sM HA;have hA2:=HA.1;rw[Bool.false_and]at hA2;have pZ:=Z hA2.symm;clear hA hA2 fP he oJ kB kC oX wT Rh CR sD Ri Ga vJ vK yu vL HA;go_wp21;refine t8 hS ⟨w'.out.below HE.1.hs (jQ5 _ _).drew,Below.fr (jQ5 _ _).drew⟩ λai=>?_;refine t4 0 1 2 3 ?_;refine t4 4 5 6 7 ?_;refine t4 8 9 10 11 ?_;refine rd 12 rfl λK hK=>?_;go_simp;have hh:=ai.1;clear ai;refine(sM.1 _ hh.1 hh.2).mono ?_;rintro eA wA ⟨vA,rfl,rfl,g1,g2⟩;have gE:=tC.1 _ _ hh.2 g1 g2;refine hK.out _ _ (hS.1 _ gE) (λai=>?_);clear hh gE g1 g2;clear hK K;refine t7 13 ?_;refine jQl g9 ?_ _;have HH:=Z ai.1;clear ai;go_wp2;go_ret;exact⟨_,rfl,by rw[pZ.1];rfl,HH.1.1,F.out.trans HH.1.2⟩
      .have aR:¬(kk:Int)<(psa.length:Int):=M
       have hA:=A.out;rw[jQf M,jQf M]at hA;have HA:=Z (show idL (fs w K).id l l'=true from hA.symm);clear hA;go_wp2;go_ret;exact⟨_,rfl,by rw[HA.1];rfl,w'.out,F.out⟩
    .have HP:=Z (jn.1 false (NL rP));have hz:¬((l.length:Int)=(l'.length:Int)):=M
     clear ha hb hl Kn h hE hI g1 g2 Wn eD haa mO LO Bh;exact M67
def GY(hE:Env NS Q w rs cs)(hI:sv NS Q w S D obj rs K r)(hr:r+1<=K)(h:O5 NS Q w S D obj rs K (r+1) E W cb u v x y p q)(hk:(una x).ld=7):
 Calls prog 130 #[ptr cb,u,v,p] W (aV w S D obj rs K E (r+1) W λv _=>v=.bool ((fs w K).id x y)):=by
 have aF:=aS h.ok.gh h.tu;have aD:=aS h.ok.gh h.tv;obtain⟨ux,jx, -⟩:=cJ hE.qp h.px;obtain⟨uy,jy, -⟩:=cJ hE.qp h.py;replace jx:=jx rs false false;replace jy:=jy rs false false;have hid:=lu hE hr h.px h.py (V6 h.rx h.qr) (V6 h.ry h.qr);have c0:=G7 0 h.cb.2
 have c1:=G7 1 h.cb.2
 obtain⟨hx,HE,HI,pV,Ea,Am,tC⟩:=Z7 h hE hI hid ux uy (show∀w1 w2,Fr S rs (r+1) W w1->Ok w S D obj rs K E (r+1) w2->Fr S rs (r+1) w1 w2->(Ok w S D obj rs K E (r+1) w2/\Fr S rs (r+1) W w2)from λ_ _ I U h3=>⟨U,bZ.trans I h3⟩);clear h hE hI hid ux uy;have hX:tid (una x).ld=92:=by rw[hk];rfl
 go_in;go_wp21;refine aF.mono ?_;rintro e' O ⟨v1,rfl,dr,hw⟩;replace hw:=hw.symm;subst hw;go_wp21;refine aD.mono ?_;rintro e' O ⟨v2,rfl,fx,hw⟩;replace hw:=hw.symm;subst hw;obtain⟨b1,rfl,cz⟩:=id dr;obtain⟨b2,rfl,eX⟩:=id fx;obtain⟨rr,heq,cj,fK⟩:=sL hx.1.ok.gh dr fx;rw[hX]at heq⊢;cases rr with
 |true=>
  exact M5
 |false=>
  clear aF aD;have dB:=aY 92 (ptr b1) 37 W i5;have fX:=cM 92 (ptr b1) 37 W i5;have pj:=gz 92 (ptr b1) 37 W i5;have eW:=bd 92 (ptr b1) 37 W i5;have dn:=aT 92 (ptr b1) 37 W i5;have zT:=mH 92 (ptr b1) 37 W i5;by_cases iO:(una y).ld=7
  .have hY:tid (una y).ld=92:=by rw[iO];rfl
   rw[hY]at heq⊢;have qe:=aW (t:=una x) M M M M;have wP:=aW (t:=una y) M M M M;have xi:(aG (una x)).ld=(una x).ld:=aI M;have lG:(aG (una y)).ld=(una y).ld:=aI M;have wQ:isIf (aG (una x))=false:=by rw[iI M];simp[isIf,hk]
   have xj:isIf (aG (una y))=false:=by rw[iI M];simp[isIf,iO]
   have iP:=dH (rs:=rs) Ea.1 M;have iQ:=dH (rs:=rs) Am.1 M;obtain⟨rc3,pa3,re3,aZ,tp3,tr3⟩:=(hx.1.ok.gh.node b1 _ cz).2.2.2.2.2.2.1 (by rw[xi];exact hk);obtain⟨rc4,pa4,re4,dI,tp4,tr4⟩:=(hx.1.ok.gh.node b2 _ eX).2.2.2.2.2.2.1 (by rw[lG];exact iO);have hox:own (aG (una x))=own (una x):=by rw[qe];rfl
   have hoy:own (aG (una y))=own (una y):=by rw[wP];rfl
   have hex:bN (aG (una x))=bN (una x):=by rw[qe];rfl
   have Eo:bN (aG (una y))=bN (una y):=by rw[wP];rfl
   have xH:(aG (una x)).va=(una x).va:=by rw[qe];rfl
   have Nw:(aG (una y)).va=(una y).va:=by rw[wP];rfl
   rw[hox]at tp3;rw[hex]at tr3;rw[hoy]at tp4;rw[Eo]at tr4;rw[xH]at aZ;rw[Nw]at dI;have d3:=G7 2 aZ
   have d4:=G7 2 dI
   have d5:=G7 3 aZ
   have d6:=G7 3 dI
   have d7:=G7 4 aZ
   have d8:=G7 4 dI
   have hJx:∀e∈(una x).li,PT NS Q w 0 e/\J rs false false e<J rs false false x:=λe he=>⟨(iP e he).1,V5 ((iP e he).2)⟩;have hJy:∀e∈(una y).li,PT NS Q w 0 e/\J rs false false e<J rs false false y:=λe he=>⟨(iQ e he).1,V5 ((iQ e he).2)⟩;have eR:=λO (g2:Fr S rs (r+1) W O)=>hx.1.ok.gh.eu g2;have sM:=Z (show∀O,Ok w S D obj rs K E (r+1) O->Fr S rs (r+1) W O->Calls prog 130 #[ptr cb,.iface 93 pa3,.iface 93 pa4,p] O (aV w S D obj rs K E (r+1) O λv _=>v=.bool (idL (fs w K).id (own (una x)) (own (una y))))from λO g1 g2=>Jb HE.1 HI.1 hr hx.1 g1 g2 (tp3.move (λ_ _ h=>h) (eR O g2)) (tp4.move (λ_ _ h=>h) (eR O g2)) (λe he=>hJx e (jQt he)) (λe he=>hJy e (jQt he)));have HCE:=Z (show∀O,Ok w S D obj rs K E (r+1) O->Fr S rs (r+1) W O->Calls prog 130 #[ptr cb,.iface 93 re3,.iface 93 re4,p] O (aV w S D obj rs K E (r+1) O λv _=>v=.bool (idL (fs w K).id (bN (una x)) (bN (una y))))from λO g1 g2=>Jb HE.1 HI.1 hr hx.1 g1 g2 (tr3.move (λ_ _ h=>h) (eR O g2)) (tr4.move (λ_ _ h=>h) (eR O g2)) (λe he=>hJx e (jR2 he)) (λe he=>hJy e (jR2 he)));have bo:(fs w K).id x y=((una x).va==(una y).va&&idL (fs w K).id (own (una x)) (own (una y))&&idL (fs w K).id (bN (una x)) (bN (una y))):=by rw[pV.1];unfold K7;simp[isIf,hk,iO]
   obtain⟨a3,rfl⟩:∃a,pa3=.pointer a:=by rcases tp3 with⟨-,e⟩|⟨-,b,_,_,e,_⟩<;>exact⟨_,e⟩
   obtain⟨a4,rfl⟩:∃a,pa4=.pointer a:=by rcases tp4 with⟨-,e⟩|⟨-,b,_,_,e,_⟩<;>exact⟨_,e⟩
   obtain⟨a5,rfl⟩:∃a,re3=.pointer a:=by rcases tr3 with⟨-,e⟩|⟨-,b,_,_,e,_⟩<;>exact⟨_,e⟩
   obtain⟨a6,rfl⟩:∃a,re4=.pointer a:=by rcases tr4 with⟨-,e⟩|⟨-,b,_,_,e,_⟩<;>exact⟨_,e⟩
   have hS:=Z (show∀O,(Ok w S D obj rs K E (r+1) O/\Fr S rs (r+1) W O)->(Ok w S D obj rs K E (r+1) O/\Fr S rs (r+1) W O)/\ce O b1 2 (.pointer a3)/\ce O b1 3 (.pointer a5)/\ce O b1 4 (.bool (una x).va)/\ce O b2 4 (.bool (una y).va)from λO h=>⟨h,h.2.fU cz wQ d3,h.2.fU cz wQ d5,h.2.fU cz wQ d7,h.2.fU eX xj d8⟩);clear aZ dI tp3 tp4 tr3 tr4 hox hoy hex Eo xH Nw hJx hJy eR;clear qe wP xi lG wQ xj iP iQ cz eX dr fx cj fK;generalize idL (fs w K).id (own (una x)) (own (una y))=r1 at*;generalize idL (fs w K).id (bN (una x)) (bN (una y))=r2 at*;by_cases xb:(una x).va=(una y).va
   .have hvt:((una x).va=(una y).va)=True:=eq_true xb;have KJ:((una x).va==(una y).va)=true:=G9 xb
    rw[KJ,jRn]at bo;clear xb;cases r1 with
    |true=>
     have bM:=Z (show(fs w K).id x y=r2 by rw[bo];simp);clear bo;go_wp21;refine t8 hS ⟨hx.1.ok.below HE.1.hs (jQ5 _ _).drew,Below.fr (jQ5 _ _).drew⟩ λai=>?_;refine t4 0 1 2 3 ?_;refine t4 4 5 6 7 ?_;refine t4 8 9 10 11 ?_;refine t4 12 13 14 15 ?_;refine t2 16 17 ?_;refine t7 18 ?_;refine rd 19 rfl λK hK=>?_;go_simp;have hh:=ai.1;clear ai;refine(sM.1 _ hh.1 hh.2).mono ?_;rintro eA wA ⟨vA,rfl,rfl,g1,g2⟩;have gE:=tC.1 _ _ hh.2 g1 g2;refine hK.out _ _ (hS.1 _ gE) (λai=>?_);clear hh gE g1 g2;clear hK K;refine t4 20 21 22 23 ?_;refine t4 24 25 26 27 ?_;refine t2 28 29 ?_;refine t7 30 ?_;refine rd 31 rfl λK hK=>?_;go_simp;have hh:=ai.1;clear ai;refine(HCE.1 _ hh.1 hh.2).mono ?_;rintro eA wA ⟨vA,rfl,rfl,g1,g2⟩;have gE:=tC.1 _ _ hh.2 g1 g2;refine hK.out _ _ (hS.1 _ gE) (λai=>?_);clear hh gE g1 g2;clear hK K;refine t2 32 33 ?_;exact M22
    |false=>
     have bM:=Z (show(fs w K).id x y=false by rw[bo];simp);clear bo;go_wp21;refine t8 hS ⟨hx.1.ok.below HE.1.hs (jQ5 _ _).drew,Below.fr (jQ5 _ _).drew⟩ λai=>?_;refine t4 0 1 2 3 ?_;refine t4 4 5 6 7 ?_;refine t4 8 9 10 11 ?_;refine t4 12 13 14 15 ?_;refine t2 16 17 ?_;refine t7 18 ?_;refine rd 19 rfl λK hK=>?_;go_simp;have hh:=ai.1;clear ai;refine(sM.1 _ hh.1 hh.2).mono ?_;rintro eA wA ⟨vA,rfl,rfl,g1,g2⟩;have gE:=tC.1 _ _ hh.2 g1 g2;refine hK.out _ _ (hS.1 _ gE) (λai=>?_);clear hh gE g1 g2;clear hK K;exact M93
   .have hvt:((una x).va=(una y).va)=False:=eq_false xb;have KJ:((una x).va==(una y).va)=false:=G9 xb
    have bM:=Z (show(fs w K).id x y=false by rw[bo,KJ];simp);clear bo xb;go_wp21;refine t8 hS ⟨hx.1.ok.below HE.1.hs (jQ5 _ _).drew,Below.fr (jQ5 _ _).drew⟩ λai=>?_;refine t4 0 1 2 3 ?_;refine t4 4 5 6 7 ?_;refine t2 8 9 ?_;refine bg 10 ?_;refine bg 11 ?_;refine bg 12 ?_;refine bg 13 ?_;refine bg 14 ?_;refine bg 15 ?_;refine bg 16 ?_;refine bg 17 ?_;refine bg 18 ?_;refine bg 19 ?_;exact M93
  .have K9:¬(tid (una y).ld=92):=(λh=>by rcases de (una y).ld with g|g|g|g|g|g|g|g|g|g|g|g<;>first|exact iO g.1|(rw[g.2]at h;exact absurd h i5));have fp:=im (tid (una y).ld) (ptr b2) 37 W K9;exact M7
