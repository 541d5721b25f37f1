import Derived.Test.YtabjfnkfocnklaaGreatDoorA11
set_option linter.all false
set_option maxHeartbeats 16000000
set_option maxRecDepth 20000
namespace Go.Proofs.YtabjfnkfocnklaaGreatDoor
open Go Go.RowKit Go.Lib S P Tryz
variable{LG nm:ByteArray}{X e x y:GT}{Q:GT->Prop}{NS:List ByteArray}{cs rs:List Nat}{w:List ah}{K b cb i kk q r:Nat}{obj:Nat->Nat}{D E:Nat->Prop}{Y:Prop}{S:Sg}{p u v:Value}{W:World}
theorem M131(h:Y:=by
 refine jQl g9 ?_ _;have HH:=Z ai.1;clear ai;go_wp2_with fail;go_ret;exact⟨_,rfl,by rw[bM.1];rfl,HH.1.1,F.out.trans HH.1.2⟩):Y:=h
theorem M48(h:Y:=by
 refine bg 43 ?_;refine bg 44 ?_;refine bg 45 ?_;refine bg 46 ?_;refine bg 47 ?_;refine bg 48 ?_;refine bg 49 ?_;refine bg 50 ?_;refine bg 51 ?_;refine bg 52 ?_;refine bg 53 ?_;refine bg 54 ?_;refine bg 55 ?_;refine bg 56 ?_;refine tk 57 ?_;exact M131):Y:=h
theorem qa(hg:GH w S D obj W)(hs:S b=some (aG X))(h5:X.kind=5):Calls prog 159 #[ptr b] W (dL W (.int .i64 X.elems.length)):=by
 have hp:=aW (t:=X) m9 m9 m9 m9;obtain⟨fs,tg,ps,hb,hr, -,ha⟩:=(hg.node b _ hs).2.2.2.2.1 (by rw[aI m9];exact h5);obtain⟨a,c,rfl⟩:=hr.form;have hl:=ha.len;rw[show(aG X).elems=X.elems by rw[hp];rfl]at hl;rw[hl];have c0:W.cell? ⟨b,0,none⟩=some (.slice a ps.length c):=by simp[World.cell?,hb]
 clear hg hs hb hr ha hl hp;go_enter func159,ntmps159;exact M9
theorem EX(hg:GH w S D obj W)(hs:S b=some (aG X))(h5:X.kind=5)(he:X.elems[i]?=some e):Calls prog 160 #[ptr b,.int .i64 (i:Int)] W (dL W (.string e.tag)):=by
 have hp:=aW (t:=X) m9 m9 m9 m9;obtain⟨fs,tg,ps,hb, -,hr,ha⟩:=(hg.node b _ hs).2.2.2.2.1 (by rw[aI m9];exact h5);rw[show(aG X).elems=X.elems by rw[hp];rfl]at hr;obtain⟨a,c,rfl⟩:=hr.form;have aM:i<X.elems.length:=(jQg.1 he).1;obtain⟨b1,o1,rfl, -,hc⟩:=hr.nth (kk:=i) (p:=.string e.tag) (by rw[List.getElem?_map,he];rfl);have hm:=hr.max;rw[jR7]at hm;have c1:W.cell? ⟨b,1,none⟩=some (.slice (some ⟨b1,o1,none⟩) X.elems.length c):=by simp[World.cell?,hb]
 have Wj:(i:Int)<(X.elems.length:Int):=m9
 clear hg hs hb hr ha hp he;go_enter func160,ntmps160;exact M9
theorem qU(hc:W.cell? ⟨b,2,none⟩=some (.string nm))(uZ:wM nm)(hz:nm.size<=9223372036854775807)(ht:jE D W):Calls prog 204 #[ptr b] W (dL W (.bool true)):=by
 have ag:=gb (W:=W) nm uZ hz ht;clear uZ ht;go_enter func204,ntmps204;exact M95
theorem vp{pk:Option Addr}(hc:W.cell? ⟨b,2,none⟩=some (.string nm))(uZ:wM nm)(hz:nm.size<=9223372036854775807)(ht:jE D W):Calls prog 161 #[ptr b,.pointer pk,.string LG,.bool false] W (dL W (.bool (aE nm LG))):=by
 have ag:=qU hc uZ hz ht;clear uZ ht;by_cases h:nm=LG
 ·have hn:=gB h;have hr:aE nm LG=true:=by simp[aE,h]
  rw[hr];clear hr h;go_enter func161,ntmps161;exact M95
 ·have hn:=jX h;have hr:aE nm LG=false:=by simp[aE,h]
  rw[hr];clear hr h ag;go_enter func161,ntmps161;exact M9
def Ms(F:Fs)(p:GT×GT):Bool:=aE p.1.tag p.2.tag&&aE p.1.name p.2.name&&F.id p.1 p.2
theorem U8{α β:Type}{l:List α}{m:List β}{a:α}{b:β}(ha:l[kk]?=some a)(hb:m[kk]?=some b):(l.drop kk).zip (m.drop kk)=(a,b)::(l.drop (kk+1)).zip (m.drop (kk+1)):=by
 rw[cZ ha,cZ hb,List.zip_cons_cons]
theorem Jz(iA:∀t,Q t->Q0 t)(h:PT NS Q w 0 X)(hk:X.kind=5):∀e∈X.elems,wM e.name/\e.name.size<=9223372036854775807:=by
 have hq:Q X:=by
  obtain⟨k,n,m,va,nm,tg,l⟩:=X;simp only[GT.kind]at hk;subst hk;cases h with
  |st a b c=>exact a
  |uni h=>omega
  |al h=>omega
  |one h=>omega
 intro e he;have:=iA _ hq hk e he;refine⟨FZ this,?_⟩;exact M201
theorem Qv(hE:Env NS Q w rs cs)(hI:sv NS Q w S D obj rs K r)(hr:r+1<=K)(h:O5 NS Q w S D obj rs K (r+1) E W cb u v x y p q)(iA:∀t,Q t->Q0 t)(hk:(una x).kind=5):
 Calls prog 121 #[ptr cb,u,v,p] W (aV w S D obj rs K E (r+1) W λv _=>v=.bool ((fs w K).id x y)):=by
 have aF:=aS h.ok.gh h.tu;have aD:=aS h.ok.gh h.tv;obtain⟨ux,jx, -⟩:=cJ hE.qp h.px;obtain⟨uy,jy, -⟩:=cJ hE.qp h.py;replace jx:=jx rs false false;replace jy:=jy rs false false;have hid:=lu hE hr h.px h.py (by have:=h.rx;have:=h.qr;omega) (by have:=h.ry;have:=h.qr;omega);have c0:W.cell? ⟨cb,0,none⟩=some (.bool false):=by simp[World.cell?,h.cb.2]
 have c1:W.cell? ⟨cb,1,none⟩=some (.bool false):=by simp[World.cell?,h.cb.2]
 obtain⟨H,HE,HI,pV,Ea,Am,tC⟩:=Z7 h hE hI hid ux uy (show∀w1 w2,Fr S rs (r+1) W w1->Ok w S D obj rs K E (r+1) w2->Fr S rs (r+1) w1 w2->(Ok w S D obj rs K E (r+1) w2/\Fr S rs (r+1) W w2)from λ_ _ h1 h2 h3=>⟨h2,bZ.trans h1 h3⟩);clear h hE hI hid ux uy;have hX:tid (una x).kind=161:=by rw[hk];rfl
 go_enter func121,ntmps121;go_wp2_with fail;refine aF.mono ?_;rintro e' w' ⟨v1,rfl,dr,hw⟩;replace hw:=hw.symm;subst hw;go_wp2_with fail;refine aD.mono ?_;rintro e' w' ⟨v2,rfl,fx,hw⟩;replace hw:=hw.symm;subst hw;obtain⟨b1,rfl,cz⟩:=id dr;obtain⟨b2,rfl,eX⟩:=id fx;obtain⟨rr,heq,cj,fK⟩:=sL H.1.ok.gh dr fx;rw[hX]at heq⊢;cases rr with
 |true=>
  exact M5
 |false=>
  clear aF aD;have dB:=aY 161 (ptr b1) 37 W i5;have fX:=cM 161 (ptr b1) 37 W i5;have pj:=gz 161 (ptr b1) 37 W i5;by_cases iO:(una y).kind=5
  ·have hY:tid (una y).kind=161:=by rw[iO];rfl
   rw[hY]at heq⊢;have qe:=aW (t:=una x) m9 m9 m9 m9;have wP:=aW (t:=una y) m9 m9 m9 m9;have xi:(aG (una x)).kind=(una x).kind:=aI m9;have lG:(aG (una y)).kind=(una y).kind:=aI m9;have wQ:isIf (aG (una x))=false:=by rw[iI m9];simp[isIf,hk]
   have xj:isIf (aG (una y))=false:=by rw[iI m9];simp[isIf,iO]
   have iP:=dH (rs:=rs) Ea.1 m9;have iQ:=dH (rs:=rs) Am.1 m9;obtain⟨fs3,tg3,GO,aZ,FG, -,ha3⟩:=(H.1.ok.gh.node b1 _ cz).2.2.2.2.1 (by rw[xi];exact hk);obtain⟨fs4,tg4,ps4,dI,Wo, -,ha4⟩:=(H.1.ok.gh.node b2 _ eX).2.2.2.2.1 (by rw[lG];exact iO);have CM:(aG (una x)).elems=(una x).elems:=by rw[qe];rfl
   have xm:(aG (una y)).elems=(una y).elems:=by rw[wP];rfl
   rw[CM]at ha3;rw[xm]at ha4;obtain⟨a5,d5,rfl⟩:=FG.form;obtain⟨a6,d6,rfl⟩:=Wo.form;have k5:W.cell? ⟨b1,0,none⟩=some (.slice a5 GO.length d5):=by simp[World.cell?,aZ]
   have k6:W.cell? ⟨b2,0,none⟩=some (.slice a6 ps4.length d6):=by simp[World.cell?,dI]
   have Kx:=ha3.len;have hl6:=ha4.len;have Dk:=FG.max;have bo:(fs w K).id x y=((una x).elems.length==(una y).elems.length&&((una x).elems.zip (una y).elems).all (Ms (fs w K))):=by rw[pV.1];unfold K7;simp[isIf,hk,iO];rfl
   have CH:=qa H.1.ok.gh cz hk;have iK:=qa H.1.ok.gh eX iO;have Zp:∀e∈(una x).elems,wM e.name/\e.name.size<=9223372036854775807:=Jz iA Ea.1 hk;obtain⟨KS2,HCB,HR3,mS,HA3,HA4,HCX,HJX⟩:=Z8 (show∀w',Fr S rs (r+1) W w'->w'.cell? ⟨b2,0,none⟩=some (.slice a6 ps4.length d6)from λw' hf=>bZ.fU hf eX xj k6) H.1.cb FG Wo ha3 ha4 Zp (show∀e∈(una x).elems,PT NS Q w 0 e/\J rs false false e<J rs false false x from λe he=>⟨(iP e he).1,by have:=(iP e he).2;omega⟩);obtain⟨HJY,HTG,ah7⟩:=Z3 (show∀e∈(una y).elems,PT NS Q w 0 e/\J rs false false e<J rs false false y from λe he=>⟨(iQ e he).1,by have:=(iQ e he).2;omega⟩) (show∀(i:Nat) (e:GT),(una x).elems[i]?=some e->∀w',Ok w S D obj rs K E (r+1) w'->Calls prog 160 #[ptr b1,.int .i64 (i:Int)] w' (dL w' (.string e.tag))from λi e he w' g=>EX g.gh cz hk he) (show∀(i:Nat) (e:GT),(una y).elems[i]?=some e->∀w',Ok w S D obj rs K E (r+1) w'->Calls prog 160 #[ptr b2,.int .i64 (i:Int)] w' (dL w' (.string e.tag))from λi e he w' g=>EX g.gh eX iO he);by_cases rP:(una x).elems.length=(una y).elems.length
   ·have HRX:=Z (show(fs w K).id x y=((una x).elems.zip (una y).elems).all (Ms (fs w K))by rw[bo,rP];simp);rw[rP]at CH;clear aZ dI FG Wo ha3 ha4 bo Zp qe wP xi lG wQ xj iP iQ CM xm cz eX dr fx cj fK;go_wp2_with fail;refine rv CH ?_;go_wp2_with fail;refine rv iK ?_;go_wp2_with fail;clear CH iK k5 k6 heq
    go_loopg [191] GO.length (λgg s191 wr=>∃kk:Nat,kk<=GO.length/\GO.length - kk<=gg/\s191=.int .i64 kk/\Aside (Ok w S D obj rs K E (r+1) wr)/\Aside (Fr S rs (r+1) W wr)/\Aside ((((una x).elems.drop kk).zip ((una y).elems.drop kk)).all (Ms (fs w K))=((una x).elems.zip (una y).elems).all (Ms (fs w K))))
    case atStart=>exact⟨0,jQc _,m9,rfl,H.1.ok,Fr.refl _,rfl⟩
    case round=>
     obtain⟨kk,ez,hg,rfl,O,F,A⟩:=hrel;by_cases aM:kk<GO.length
     ·have aR:(kk:Int)<(GO.length:Int):=m9
      have qY:(kk:Int)<(ps4.length:Int):=m9
      obtain⟨e,he⟩:∃e,(una x).elems[kk]?=some e:=⟨(una x).elems[kk]' m9,by simp[show kk<(una x).elems.length by omega]⟩;obtain⟨e',oJ⟩:∃e,(una y).elems[kk]?=some e:=⟨(una y).elems[kk]' m9,by simp[show kk<(una y).elems.length by omega]⟩;have kB:=H.1.ok.gh.eu F.out;obtain⟨p5,kC,oX⟩:=HA3.1.at he;obtain⟨p6,wT,Rh⟩:=HA4.1.at oJ;obtain⟨b7,o7,rfl, -,Lf⟩:=(HR3.1.move kB).nth kC;obtain⟨b8,o8,rfl, -,hc8⟩:=(mS.1.move kB).nth wT;obtain⟨b9,i9,pk9,v9,k9,rfl,CR,sD,Ri⟩:=oX.move (λ_ _ h=>h) kB;obtain⟨jN,i10,Bi,v10,sq,rfl,Ga,vJ,vK⟩:=Rh.move (λ_ _ h=>h) kB;have yu:S b9=none:=M128
      have vL:S jN=none:=M129
      have d9:wr.cell? ⟨b9,3,none⟩=some v9:=by simp[World.cell?,sD]
      have d10:wr.cell? ⟨jN,3,none⟩=some v10:=by simp[World.cell?,vJ]
      have f9:wr.cell? ⟨b9,5,none⟩=some (.bool false):=by simp[World.cell?,sD]
      have f10:wr.cell? ⟨jN,5,none⟩=some (.bool false):=by simp[World.cell?,vJ]
      have n9:wr.cell? ⟨b9,2,none⟩=some (.string e.name):=by simp[World.cell?,sD]
      have p10:wr.cell? ⟨jN,1,none⟩=some (.pointer Bi):=by simp[World.cell?,vJ]
      have n10:wr.cell? ⟨jN,2,none⟩=some (.string e'.name):=by simp[World.cell?,vJ]
      have afF:S cb=none:=HCB.1.1;have afG:wr.cell? ⟨cb,0,none⟩=some (.bool false):=by have:=(HCB.1.move F.out).2;simp[World.cell?,this]
      have k6r:=KS2.1 wr F.out;have hzd:=U8 he oJ;have A':=A.out;rw[hzd,jRl]at A';obtain⟨Wh,sM,Db,Hk,HSI,tC⟩:=Z6 A' (show∀w',Ok w S D obj rs K E (r+1) w'->Fr S rs (r+1) wr w'->Calls prog 121 #[ptr cb,v9,v10,p] w' (aV w S D obj rs K E (r+1) w' λv _=>v=.bool ((fs w K).id e e'))from λw' g1 g2=>kV HI.1 H.1 Ri vK (HJX.1 e (jQ8 he)).1 (HJY.1 e' (jQ8 oJ)).1 (HJX.1 e (jQ8 he)).2 (HJY.1 e' (jQ8 oJ)).2 g1 (F.out.trans g2)) (HTG.1 kk e he) (ah7.1 kk e' oJ) (show∀w',Ok w S D obj rs K E (r+1) w'->Fr S rs (r+1) wr w'->Calls prog 161 #[ptr b9,.pointer Bi,.string e'.name,.bool false] w' (dL w' (.bool (aE e.name e'.name)))from λw' g1 g2=>vp (bZ.cell g2 yu n9) (HCX.1 e (jQ8 he)).1 (HCX.1 e (jQ8 he)).2 g1.gh.td) (show∀w1 w2,Fr S rs (r+1) wr w1->Ok w S D obj rs K E (r+1) w2->Fr S rs (r+1) w1 w2->(Ok w S D obj rs K E (r+1) w2/\Fr S rs (r+1) wr w2)from λ_ _ h1 h2 h3=>⟨h2,bZ.trans h1 h3⟩);obtain⟨q9,rfl, -⟩:=id Ri;obtain⟨NM,rfl, -⟩:=id vK;have hS:=Z (show∀w',(Ok w S D obj rs K E (r+1) w'/\Fr S rs (r+1) wr w')->(Ok w S D obj rs K E (r+1) w'/\Fr S rs (r+1) wr w')/\w'.cell? ⟨b9,5,none⟩=some (.bool false)/\w'.cell? ⟨jN,5,none⟩=some (.bool false)/\w'.cell? ⟨cb,0,none⟩=some (.bool false)/\w'.cell? ⟨jN,1,none⟩=some (.pointer Bi)/\w'.cell? ⟨jN,2,none⟩=some (.string e'.name)/\w'.cell? ⟨b9,3,none⟩=some (.iface (tid e.kind) (ptr q9))/\w'.cell? ⟨jN,3,none⟩=some (.iface (tid e'.kind) (ptr NM))from λw' h=>⟨h,bZ.cell h.2 yu f9,bZ.cell h.2 vL f10,bZ.cell h.2 afF afG,bZ.cell h.2 vL p10,bZ.cell h.2 vL n10,bZ.cell h.2 yu d9,bZ.cell h.2 vL d10⟩);have hPP:Ms (fs w K) (e,e')=(aE e.tag e'.tag&&aE e.name e'.name&&(fs w K).id e e'):=rfl;have EY:=Z hPP;clear hzd A' hPP he oJ kB kC oX wT Rh CR sD Ri Ga vJ vK yu vL f9 f10 p10 n10 n9 d9 d10 afG afF;by_cases xI:e.tag=e'.tag
      ·have htn:=gB xI;have Jt:aE e.tag e'.tag=true:=by simp[aE,xI]
       by_cases dU:e.name=e'.name
       ·have bk:aE e.name e'.name=true:=by simp[aE,dU]
        rw[bk]at HSI;cases fP:(fs w K).id e e' with
        |true=>
         rw[fP]at sM;have pZ:=Z (show(((una x).elems.drop (kk+1)).zip ((una y).elems.drop (kk+1))).all (Ms (fs w K))=((una x).elems.zip (una y).elems).all (Ms (fs w K))by have:=Wh.1;rw[EY.1,Jt,bk,fP]at this;simpa using this);clear Jt bk fP xI dU;go_wp2_with fail;refine jQ9 (S:=(λw'=>(Ok w S D obj rs K E (r+1) w'/\Fr S rs (r+1) wr w')/\w'.cell? ⟨b9,5,none⟩=some (.bool false)/\w'.cell? ⟨jN,5,none⟩=some (.bool false)/\w'.cell? ⟨cb,0,none⟩=some (.bool false)/\w'.cell? ⟨jN,1,none⟩=some (.pointer Bi)/\w'.cell? ⟨jN,2,none⟩=some (.string e'.name)/\w'.cell? ⟨b9,3,none⟩=some (.iface (tid e.kind) (ptr q9))/\w'.cell? ⟨jN,3,none⟩=some (.iface (tid e'.kind) (ptr NM)))) g9 (hS.1 _ ⟨O.out.below HE.1.hs (jQ5 _ _).drew,Below.fr (jQ5 _ _).drew⟩) (λai=>?_);refine t4 0 1 2 3 ?_;refine t4 4 5 6 7 ?_;refine t4 8 9 10 11 ?_;refine t4 12 13 14 15 ?_;refine t4 16 17 19 20 ?_;refine rd 18 rfl λK hK=>?_;go_simp;have hh:=ai.1;clear ai;refine rv (Db.1 _ hh.1) ?_;refine hK.out _ _ (hS.1 _ hh) (λai=>?_);clear hh;clear hK K;refine rd 21 rfl λK hK=>?_;go_simp;have hh:=ai.1;clear ai;refine rv (Hk.1 _ hh.1) ?_;refine hK.out _ _ (hS.1 _ hh) (λai=>?_);clear hh;clear hK K;refine t4 22 23 24 25 ?_;refine t4 26 27 28 29 ?_;refine t4 30 31 32 33 ?_;refine t4 34 35 36 37 ?_;refine tk 38 ?_;refine rd 39 rfl λK hK=>?_;go_simp;have hh:=ai.1;clear ai;refine rv (HSI.1 _ hh.1 hh.2) ?_;refine hK.out _ _ (hS.1 _ hh) (λai=>?_);clear hh;clear hK K;refine t4 40 41 42 43 ?_;refine t4 44 45 46 47 ?_;refine t4 48 49 50 51 ?_;refine t2 52 53 ?_;refine tk 54 ?_;refine rd 55 rfl λK hK=>?_;go_simp;have hh:=ai.1;clear ai;refine(sM.1 _ hh.1 hh.2).mono ?_;rintro eA wA ⟨vA,rfl,rfl,g1,g2⟩;have gE:=tC.1 _ _ hh.2 g1 g2;refine hK.out _ _ (hS.1 _ gE) (λai=>?_);clear hh gE g1 g2;clear hK K;refine t2 56 57 ?_;refine jQl g9 ?_ _;have HH:=Z ai.1;clear ai;go_wp2_with fail;go_roundg (GO.length - (kk+1))
         case measure=>omega
         case rel=>exact⟨kk+1,m9,m9,by go_num,HH.1.1,F.out.trans HH.1.2,pZ.1⟩
        |false=>
         rw[fP]at sM;have bM:=Z (show(fs w K).id x y=false by have:=Wh.1;rw[EY.1,Jt,bk,fP]at this;rw[HRX.1,<-this];rfl);clear Jt bk fP xI dU;go_wp2_with fail;refine jQ9 (S:=(λw'=>(Ok w S D obj rs K E (r+1) w'/\Fr S rs (r+1) wr w')/\w'.cell? ⟨b9,5,none⟩=some (.bool false)/\w'.cell? ⟨jN,5,none⟩=some (.bool false)/\w'.cell? ⟨cb,0,none⟩=some (.bool false)/\w'.cell? ⟨jN,1,none⟩=some (.pointer Bi)/\w'.cell? ⟨jN,2,none⟩=some (.string e'.name)/\w'.cell? ⟨b9,3,none⟩=some (.iface (tid e.kind) (ptr q9))/\w'.cell? ⟨jN,3,none⟩=some (.iface (tid e'.kind) (ptr NM)))) g9 (hS.1 _ ⟨O.out.below HE.1.hs (jQ5 _ _).drew,Below.fr (jQ5 _ _).drew⟩) (λai=>?_);refine t4 0 1 2 3 ?_;refine t4 4 5 6 7 ?_;refine t4 8 9 10 11 ?_;refine t4 12 13 14 15 ?_;refine t4 16 17 19 20 ?_;refine rd 18 rfl λK hK=>?_;go_simp;have hh:=ai.1;clear ai;refine rv (Db.1 _ hh.1) ?_;refine hK.out _ _ (hS.1 _ hh) (λai=>?_);clear hh;clear hK K;refine rd 21 rfl λK hK=>?_;go_simp;have hh:=ai.1;clear ai;refine rv (Hk.1 _ hh.1) ?_;refine hK.out _ _ (hS.1 _ hh) (λai=>?_);clear hh;clear hK K;refine t4 22 23 24 25 ?_;refine t4 26 27 28 29 ?_;refine t4 30 31 32 33 ?_;refine t4 34 35 36 37 ?_;refine tk 38 ?_;refine rd 39 rfl λK hK=>?_;go_simp;have hh:=ai.1;clear ai;refine rv (HSI.1 _ hh.1 hh.2) ?_;refine hK.out _ _ (hS.1 _ hh) (λai=>?_);clear hh;clear hK K;refine t4 40 41 42 43 ?_;refine t4 44 45 46 47 ?_;refine t4 48 49 50 51 ?_;refine t2 52 53 ?_;refine tk 54 ?_;refine rd 55 rfl λK hK=>?_;go_simp;have hh:=ai.1;clear ai;refine(sM.1 _ hh.1 hh.2).mono ?_;rintro eA wA ⟨vA,rfl,rfl,g1,g2⟩;have gE:=tC.1 _ _ hh.2 g1 g2;refine hK.out _ _ (hS.1 _ gE) (λai=>?_);clear hh gE g1 g2;clear hK K;refine t2 56 57 ?_;exact M131
       ·have bk:aE e.name e'.name=false:=by simp[aE,dU]
        rw[bk]at HSI;have bM:=Z (show(fs w K).id x y=false by have:=Wh.1;rw[EY.1,Jt,bk]at this;rw[HRX.1,<-this];rfl);clear Jt bk xI dU;go_wp2_with fail;refine jQ9 (S:=(λw'=>(Ok w S D obj rs K E (r+1) w'/\Fr S rs (r+1) wr w')/\w'.cell? ⟨b9,5,none⟩=some (.bool false)/\w'.cell? ⟨jN,5,none⟩=some (.bool false)/\w'.cell? ⟨cb,0,none⟩=some (.bool false)/\w'.cell? ⟨jN,1,none⟩=some (.pointer Bi)/\w'.cell? ⟨jN,2,none⟩=some (.string e'.name)/\w'.cell? ⟨b9,3,none⟩=some (.iface (tid e.kind) (ptr q9))/\w'.cell? ⟨jN,3,none⟩=some (.iface (tid e'.kind) (ptr NM)))) g9 (hS.1 _ ⟨O.out.below HE.1.hs (jQ5 _ _).drew,Below.fr (jQ5 _ _).drew⟩) (λai=>?_);refine t4 0 1 2 3 ?_;refine t4 4 5 6 7 ?_;refine t4 8 9 10 11 ?_;refine t4 12 13 14 15 ?_;refine t4 16 17 19 20 ?_;refine rd 18 rfl λK hK=>?_;go_simp;have hh:=ai.1;clear ai;refine rv (Db.1 _ hh.1) ?_;refine hK.out _ _ (hS.1 _ hh) (λai=>?_);clear hh;clear hK K;refine rd 21 rfl λK hK=>?_;go_simp;have hh:=ai.1;clear ai;refine rv (Hk.1 _ hh.1) ?_;refine hK.out _ _ (hS.1 _ hh) (λai=>?_);clear hh;clear hK K;refine t4 22 23 24 25 ?_;refine t4 26 27 28 29 ?_;refine t4 30 31 32 33 ?_;refine t4 34 35 36 37 ?_;refine tk 38 ?_;refine rd 39 rfl λK hK=>?_;go_simp;have hh:=ai.1;clear ai;refine rv (HSI.1 _ hh.1 hh.2) ?_;refine hK.out _ _ (hS.1 _ hh) (λai=>?_);clear hh;clear hK K;refine t2 40 41 ?_;refine tk 42 ?_;exact M48
      ·have htn:=jX xI;have Jt:aE e.tag e'.tag=false:=by simp[aE,xI]
       have bM:=Z (show(fs w K).id x y=false by have:=Wh.1;rw[EY.1,Jt]at this;rw[HRX.1,<-this];rfl);clear Jt xI;go_wp2_with fail;refine jQ9 (S:=(λw'=>(Ok w S D obj rs K E (r+1) w'/\Fr S rs (r+1) wr w')/\w'.cell? ⟨b9,5,none⟩=some (.bool false)/\w'.cell? ⟨jN,5,none⟩=some (.bool false)/\w'.cell? ⟨cb,0,none⟩=some (.bool false)/\w'.cell? ⟨jN,1,none⟩=some (.pointer Bi)/\w'.cell? ⟨jN,2,none⟩=some (.string e'.name)/\w'.cell? ⟨b9,3,none⟩=some (.iface (tid e.kind) (ptr q9))/\w'.cell? ⟨jN,3,none⟩=some (.iface (tid e'.kind) (ptr NM)))) g9 (hS.1 _ ⟨O.out.below HE.1.hs (jQ5 _ _).drew,Below.fr (jQ5 _ _).drew⟩) (λai=>?_);refine t4 0 1 2 3 ?_;refine t4 4 5 6 7 ?_;refine t4 8 9 10 11 ?_;refine t4 12 13 14 15 ?_;refine t4 16 17 19 20 ?_;refine rd 18 rfl λK hK=>?_;go_simp;have hh:=ai.1;clear ai;refine rv (Db.1 _ hh.1) ?_;refine hK.out _ _ (hS.1 _ hh) (λai=>?_);clear hh;clear hK K;refine rd 21 rfl λK hK=>?_;go_simp;have hh:=ai.1;clear ai;refine rv (Hk.1 _ hh.1) ?_;refine hK.out _ _ (hS.1 _ hh) (λai=>?_);clear hh;clear hK K;refine t4 22 23 24 25 ?_;refine bg 26 ?_;refine bg 27 ?_;refine bg 28 ?_;refine bg 29 ?_;refine bg 30 ?_;refine bg 31 ?_;refine bg 32 ?_;refine bg 33 ?_;refine bg 34 ?_;refine bg 35 ?_;refine bg 36 ?_;refine bg 37 ?_;refine bg 38 ?_;refine bg 39 ?_;refine bg 40 ?_;refine t2 41 42 ?_;exact M48
     ·have aR:¬(kk:Int)<(GO.length:Int):=m9
      have hA:=A.out;rw[jQf m9,jQf m9]at hA;have bM:=Z (show(fs w K).id x y=true by rw[HRX.1,<-hA];rfl);clear hA;go_wp2_with fail;go_ret;exact⟨_,rfl,by rw[bM.1];rfl,O.out,F.out⟩
   ·have bM:=Z (show(fs w K).id x y=false by rw[bo];simp[rP]);have hz:¬(((una x).elems.length:Int)=((una y).elems.length:Int)):=m9
    have HP:=Z (show aV w S D obj rs K E (r+1) W (λv _=>v=.bool ((fs w K).id x y)) (.returned (.bool false)) W from⟨_,rfl,by rw[bM.1],H.1.ok,Fr.refl _⟩);clear aZ dI FG Wo ha3 ha4 bo Zp qe wP xi lG wQ xj iP iQ CM xm cz eX dr fx cj fK;go_wp2_with fail;refine rv CH ?_;go_wp2_with fail;refine rv iK ?_;exact M13
  ·have K9:¬(tid (una y).kind=161):=(λh=>by rcases de (una y).kind with g|g|g|g|g|g|g|g|g|g|g|g<;>first|exact iO g.1|(rw[g.2]at h;exact absurd h i5));have fp:=bd (tid (una y).kind) (ptr b2) 37 W K9;exact M8
end Go.Proofs.YtabjfnkfocnklaaGreatDoor
