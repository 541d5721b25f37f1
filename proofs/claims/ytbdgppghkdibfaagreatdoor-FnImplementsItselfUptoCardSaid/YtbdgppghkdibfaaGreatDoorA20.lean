import Derived.Test.YtbdgppghkdibfaaGreatDoorA19
set_option linter.all false
set_option maxHeartbeats 16000000
set_option maxRecDepth 20000
namespace Go.Proofs.YtbdgppghkdibfaaGreatDoor
open Go Go.RowKit Go.Lib S P Tryz
variable{LG nm:ByteArray}{X e x y:Y}{Q:Y->Prop}{NS:List ByteArray}{cs rs:List Nat}{w:List ah}{K b cb i kk q r:Nat}{obj:Nat->Nat}{D E:Qx}{GT:Prop}{S:Sg}{p u v:Value}{W:World}
def M141(h:GT:=by
 refine jQl g9 ?_ _;have HH:=Z ai.1;clear ai;go_wp2;go_ret;exact⟨_,rfl,by rw[bM.1];rfl,HH.1.1,F.out.trans HH.1.2⟩):GT:=h
def M51(h:GT:=by
 refine bg 43 ?_;refine bg 44 ?_;refine bg 45 ?_;refine bg 46 ?_;refine bg 47 ?_;refine bg 48 ?_;refine bg 49 ?_;refine bg 50 ?_;refine bg 51 ?_;refine bg 52 ?_;refine bg 53 ?_;refine bg 54 ?_;refine bg 55 ?_;refine bg 56 ?_;refine t7 57 ?_;exact M141):GT:=h
def qa(hg:GH w S D obj W)(hs:S b=some (aG X))(h5:X.ld=5):Calls prog 169 #[ptr b] W (dL W (.int .i64 X.li.length)):=by
 have j:=aW (t:=X) M M M M;obtain⟨fs,tg,ps,hb,hr, -,ha⟩:=(hg.node b _ hs).2.2.2.2.1 (by rw[aI M];exact h5);obtain⟨a,c,rfl⟩:=hr.form;have hl:=ha.len;rw[show(aG X).li=X.li by rw[j];rfl]at hl;rw[hl];have c0:=G7 0 hb
 clear hg hs hb hr ha hl j;exact M85
def EX(hg:GH w S D obj W)(hs:S b=some (aG X))(h5:X.ld=5)(he:X.li[i]?=some e):Calls prog 170 #[ptr b,.int .i64 (i:Int)] W (dL W (.string e.gc)):=by
 have j:=aW (t:=X) M M M M;obtain⟨fs,tg,ps,hb, -,hr,ha⟩:=(hg.node b _ hs).2.2.2.2.1 (by rw[aI M];exact h5);rw[show(aG X).li=X.li by rw[j];rfl]at hr;obtain⟨a,c,rfl⟩:=hr.form;have aM:i<X.li.length:=(jQg.1 he).1;obtain⟨b1,o1,rfl, -,hc⟩:=hr.nth (kk:=i) (p:=.string e.gc) (by rw[List.getElem?_map,he];rfl);have hm:=hr.max;rw[jR7]at hm;have c1:=G7 1 hb
 have Wj:(i:Int)<(X.li.length:Int):=M
 clear hg hs hb hr ha j he;exact M85
def qU(hc:ce W b 2 (.string nm))(uZ:wM nm)(hz:nm.size<=9223372036854775807)(ht:jE D W):Calls prog 211 #[ptr b] W (dL W (.bool true)):=by
 have ag:=gb (W:=W) nm uZ hz ht;clear uZ ht;exact M83
def vp{pk:Option Addr}(hc:ce W b 2 (.string nm))(uZ:wM nm)(hz:nm.size<=9223372036854775807)(ht:jE D W):Calls prog 171 #[ptr b,.pointer pk,.string LG,.bool false] W (dL W (.bool (aE nm LG))):=by
 have ag:=qU hc uZ hz ht;clear uZ ht;by_cases h:nm=LG
 .have hn:=gB h;have hr:aE nm LG=true:=by simp[aE,h]
  rw[hr];clear hr h;exact M83
 .have hn:=jX h;have hr:aE nm LG=false:=by simp[aE,h]
  rw[hr];clear hr h ag;exact M85
def Ms(F:Fs)(p:Y×Y):Bool:=aE p.1.gc p.2.gc&&aE p.1.name p.2.name&&F.id p.1 p.2
def U8{α β:Type}{l:List α}{m:List β}{a:α}{b:β}(ha:l[kk]?=some a)(hb:m[kk]?=some b):(l.drop kk).zip (m.drop kk)=(a,b)::(l.drop (kk+1)).zip (m.drop (kk+1)):=by
 rw[cZ ha,cZ hb,List.zip_cons_cons]
def Jz(iA:∀t,Q t->Q0 t)(h:PT NS Q w 0 X)(hk:X.ld=5):∀e∈X.li,wM e.name/\e.name.size<=9223372036854775807:=by
 have hq:Q X:=by
  obtain⟨k,n,m,va,nm,tg,l⟩:=X;simp only[Y.ld]at hk;subst hk;cases h with
  |st a b c=>exact a
  |uni h=>omega
  |al h=>omega
  |one h=>omega
 intro e he;have:=iA _ hq hk e he;refine⟨FZ this,?_⟩;exact M196
def Qv(hE:Env NS Q w rs cs)(hI:sv NS Q w S D obj rs K r)(hr:r+1<=K)(h:O5 NS Q w S D obj rs K (r+1) E W cb u v x y p q)(iA:∀t,Q t->Q0 t)(hk:(una x).ld=5):
 Calls prog 130 #[ptr cb,u,v,p] W (aV w S D obj rs K E (r+1) W λv _=>v=.bool ((fs w K).id x y)):=by
 have aF:=aS h.ok.gh h.tu;have aD:=aS h.ok.gh h.tv;obtain⟨ux,jx, -⟩:=cJ hE.qp h.px;obtain⟨uy,jy, -⟩:=cJ hE.qp h.py;replace jx:=jx rs false false;replace jy:=jy rs false false;have hid:=lu hE hr h.px h.py (V6 h.rx h.qr) (V6 h.ry h.qr);have c0:=G7 0 h.cb.2
 have c1:=G7 1 h.cb.2
 obtain⟨hx,HE,HI,pV,Ea,Am,tC⟩:=Z7 h hE hI hid ux uy (show∀w1 w2,Fr S rs (r+1) W w1->Ok w S D obj rs K E (r+1) w2->Fr S rs (r+1) w1 w2->(Ok w S D obj rs K E (r+1) w2/\Fr S rs (r+1) W w2)from λ_ _ I U h3=>⟨U,bZ.trans I h3⟩);clear h hE hI hid ux uy;have hX:tid (una x).ld=203:=by rw[hk];rfl
 go_in;go_wp21;refine aF.mono ?_;rintro e' O ⟨v1,rfl,dr,hw⟩;replace hw:=hw.symm;subst hw;go_wp21;refine aD.mono ?_;rintro e' O ⟨v2,rfl,fx,hw⟩;replace hw:=hw.symm;subst hw;obtain⟨b1,rfl,cz⟩:=id dr;obtain⟨b2,rfl,eX⟩:=id fx;obtain⟨rr,heq,cj,fK⟩:=sL hx.1.ok.gh dr fx;rw[hX]at heq⊢;cases rr with
 |true=>
  exact M5
 |false=>
  clear aF aD;have dB:=aY 203 (ptr b1) 37 W i5;have fX:=cM 203 (ptr b1) 37 W i5;have pj:=gz 203 (ptr b1) 37 W i5;by_cases iO:(una y).ld=5
  .have hY:tid (una y).ld=203:=by rw[iO];rfl
   rw[hY]at heq⊢;have qe:=aW (t:=una x) M M M M;have wP:=aW (t:=una y) M M M M;have xi:(aG (una x)).ld=(una x).ld:=aI M;have lG:(aG (una y)).ld=(una y).ld:=aI M;have wQ:isIf (aG (una x))=false:=by rw[iI M];simp[isIf,hk]
   have xj:isIf (aG (una y))=false:=by rw[iI M];simp[isIf,iO]
   have iP:=dH (rs:=rs) Ea.1 M;have iQ:=dH (rs:=rs) Am.1 M;obtain⟨fs3,tg3,GO,aZ,FG, -,ha3⟩:=(hx.1.ok.gh.node b1 _ cz).2.2.2.2.1 (by rw[xi];exact hk);obtain⟨fs4,tg4,ps4,dI,Wo, -,ha4⟩:=(hx.1.ok.gh.node b2 _ eX).2.2.2.2.1 (by rw[lG];exact iO);have CM:(aG (una x)).li=(una x).li:=by rw[qe];rfl
   have xm:(aG (una y)).li=(una y).li:=by rw[wP];rfl
   rw[CM]at ha3;rw[xm]at ha4;obtain⟨a5,d5,rfl⟩:=FG.form;obtain⟨a6,d6,rfl⟩:=Wo.form;have k5:=G7 0 aZ
   have k6:=G7 0 dI
   have Kx:=ha3.len;have hl6:=ha4.len;have Dk:=FG.max;have bo:(fs w K).id x y=((una x).li.length==(una y).li.length&&((una x).li.zip (una y).li).all (Ms (fs w K))):=by rw[pV.1];unfold K7;simp[isIf,hk,iO];rfl
   have CH:=qa hx.1.ok.gh cz hk;have iK:=qa hx.1.ok.gh eX iO;have Zp:∀e∈(una x).li,wM e.name/\e.name.size<=9223372036854775807:=Jz iA Ea.1 hk;obtain⟨KS2,HCB,HR3,mS,HA3,HA4,HCX,HJX⟩:=Z8 (show∀O,Fr S rs (r+1) W O->ce O b2 0 (.slice a6 ps4.length d6)from λO hf=>bZ.fU hf eX xj k6) hx.1.cb FG Wo ha3 ha4 Zp (show∀e∈(una x).li,PT NS Q w 0 e/\J rs false false e<J rs false false x from λe he=>⟨(iP e he).1,V5 ((iP e he).2)⟩);obtain⟨HJY,HTG,ah7⟩:=Z3 (show∀e∈(una y).li,PT NS Q w 0 e/\J rs false false e<J rs false false y from λe he=>⟨(iQ e he).1,V5 ((iQ e he).2)⟩) (show∀(i:Nat) (e:Y),(una x).li[i]?=some e->∀O,Ok w S D obj rs K E (r+1) O->Calls prog 170 #[ptr b1,.int .i64 (i:Int)] O (dL O (.string e.gc))from λi e he O g=>EX g.gh cz hk he) (show∀(i:Nat) (e:Y),(una y).li[i]?=some e->∀O,Ok w S D obj rs K E (r+1) O->Calls prog 170 #[ptr b2,.int .i64 (i:Int)] O (dL O (.string e.gc))from λi e he O g=>EX g.gh eX iO he);by_cases rP:(una x).li.length=(una y).li.length
   .have HRX:=Z (show(fs w K).id x y=((una x).li.zip (una y).li).all (Ms (fs w K))by rw[bo,rP];simp);rw[rP]at CH;clear aZ dI FG Wo ha3 ha4 bo Zp qe wP xi lG wQ xj iP iQ CM xm cz eX dr fx cj fK;go_wp21;refine rv CH ?_;go_wp21;refine rv iK ?_;go_wp21;clear CH iK k5 k6 heq
    go_loopg [191] GO.length (λgg s191 wr=>∃kk:Nat,kk<=GO.length/\GO.length - kk<=gg/\s191=.int .i64 kk/\Aside (Ok w S D obj rs K E (r+1) wr)/\Aside (Fr S rs (r+1) W wr)/\Aside ((((una x).li.drop kk).zip ((una y).li.drop kk)).all (Ms (fs w K))=((una x).li.zip (una y).li).all (Ms (fs w K))))
    case atStart=>exact⟨0,jQc _,M,rfl,hx.1.ok,Fr.refl _,rfl⟩
    case round=>
     obtain⟨kk,ez,hg,rfl,w',F,A⟩:=hrel;by_cases aM:kk<GO.length
     .have aR:(kk:Int)<(GO.length:Int):=M
      have qY:(kk:Int)<(ps4.length:Int):=M
      obtain⟨e,he⟩:∃e,(una x).li[kk]?=some e:=⟨(una x).li[kk]' M,by simp[show kk<(una x).li.length by omega]⟩;obtain⟨e',oJ⟩:∃e,(una y).li[kk]?=some e:=⟨(una y).li[kk]' M,by simp[show kk<(una y).li.length by omega]⟩;have kB:=hx.1.ok.gh.eu F.out;obtain⟨p5,kC,oX⟩:=HA3.1.at he;obtain⟨p6,wT,Rh⟩:=HA4.1.at oJ;obtain⟨b7,o7,rfl, -,Lf⟩:=(HR3.1.move kB).nth kC;obtain⟨b8,o8,rfl, -,hc8⟩:=(mS.1.move kB).nth wT;obtain⟨b9,i9,pk9,v9,k9,rfl,CR,sD,Ri⟩:=oX.move (λ_ _ h=>h) kB;obtain⟨jN,i10,Bi,v10,sq,rfl,Ga,vJ,vK⟩:=Rh.move (λ_ _ h=>h) kB;have yu:S b9=none:=M128
      have vL:S jN=none:=M129
      have d9:=G7 3 sD
      have d10:=G7 3 vJ
      have f9:=G7 5 sD
      have f10:=G7 5 vJ
      have n9:=G7 2 sD
      have p10:=G7 1 vJ
      have n10:=G7 2 vJ
      have afF:S cb=none:=HCB.1.1;have afG:wr.cell? ⟨cb,0,none⟩=some (.bool false):=by have:=(HCB.1.move F.out).2;simp[World.cell?,this]
      have k6r:=KS2.1 wr F.out;have hzd:=U8 he oJ;have A':=A.out;rw[hzd,jRl]at A';obtain⟨Wh,sM,Db,Hk,HSI,tC⟩:=Z6 A' (show∀O,Ok w S D obj rs K E (r+1) O->Fr S rs (r+1) wr O->Calls prog 130 #[ptr cb,v9,v10,p] O (aV w S D obj rs K E (r+1) O λv _=>v=.bool ((fs w K).id e e'))from λO g1 g2=>kV HI.1 hx.1 Ri vK (HJX.1 e (jQ8 he)).1 (HJY.1 e' (jQ8 oJ)).1 (HJX.1 e (jQ8 he)).2 (HJY.1 e' (jQ8 oJ)).2 g1 (F.out.trans g2)) (HTG.1 kk e he) (ah7.1 kk e' oJ) (show∀O,Ok w S D obj rs K E (r+1) O->Fr S rs (r+1) wr O->Calls prog 171 #[ptr b9,.pointer Bi,.string e'.name,.bool false] O (dL O (.bool (aE e.name e'.name)))from λO g1 g2=>vp (bZ.cell g2 yu n9) (HCX.1 e (jQ8 he)).1 (HCX.1 e (jQ8 he)).2 g1.gh.td) (show∀w1 w2,Fr S rs (r+1) wr w1->Ok w S D obj rs K E (r+1) w2->Fr S rs (r+1) w1 w2->(Ok w S D obj rs K E (r+1) w2/\Fr S rs (r+1) wr w2)from λ_ _ I U h3=>⟨U,bZ.trans I h3⟩);obtain⟨q9,rfl, -⟩:=id Ri;obtain⟨NM,rfl, -⟩:=id vK;have hS:=Z (show∀O,(Ok w S D obj rs K E (r+1) O/\Fr S rs (r+1) wr O)->(Ok w S D obj rs K E (r+1) O/\Fr S rs (r+1) wr O)/\ce O b9 5 (.bool false)/\ce O jN 5 (.bool false)/\ce O cb 0 (.bool false)/\ce O jN 1 (.pointer Bi)/\ce O jN 2 (.string e'.name)/\ce O b9 3 (.iface (tid e.ld) (ptr q9))/\ce O jN 3 (.iface (tid e'.ld) (ptr NM))from λO h=>⟨h,bZ.cell h.2 yu f9,bZ.cell h.2 vL f10,bZ.cell h.2 afF afG,bZ.cell h.2 vL p10,bZ.cell h.2 vL n10,bZ.cell h.2 yu d9,bZ.cell h.2 vL d10⟩);have hPP:Ms (fs w K) (e,e')=(aE e.gc e'.gc&&aE e.name e'.name&&(fs w K).id e e'):=rfl;have EY:=Z hPP;clear hzd A' hPP he oJ kB kC oX wT Rh CR sD Ri Ga vJ vK yu vL f9 f10 p10 n10 n9 d9 d10 afG afF;by_cases xI:e.gc=e'.gc
      .have htn:=gB xI;have Jt:aE e.gc e'.gc=true:=by simp[aE,xI]
       by_cases dU:e.name=e'.name
       .have bk:aE e.name e'.name=true:=by simp[aE,dU]
        rw[bk]at HSI;cases fP:(fs w K).id e e' with
        |true=>
         rw[fP]at sM;have pZ:=Z (show(((una x).li.drop (kk+1)).zip ((una y).li.drop (kk+1))).all (Ms (fs w K))=((una x).li.zip (una y).li).all (Ms (fs w K))by have:=Wh.1;rw[EY.1,Jt,bk,fP]at this;simpa using this);clear Jt bk fP xI dU;go_wp21;refine t8 hS ⟨w'.out.below HE.1.hs (jQ5 _ _).drew,Below.fr (jQ5 _ _).drew⟩ λai=>?_;refine t4 0 1 2 3 ?_;refine t4 4 5 6 7 ?_;refine t4 8 9 10 11 ?_;refine t4 12 13 14 15 ?_;refine t4 16 17 19 20 ?_;refine rd 18 rfl λK hK=>?_;go_simp;have hh:=ai.1;clear ai;refine rv (Db.1 _ hh.1) ?_;refine hK.out _ _ (hS.1 _ hh) (λai=>?_);clear hh;clear hK K;refine rd 21 rfl λK hK=>?_;go_simp;have hh:=ai.1;clear ai;refine rv (Hk.1 _ hh.1) ?_;refine hK.out _ _ (hS.1 _ hh) (λai=>?_);clear hh;clear hK K;refine t4 22 23 24 25 ?_;refine t4 26 27 28 29 ?_;refine t4 30 31 32 33 ?_;refine t4 34 35 36 37 ?_;refine t7 38 ?_;refine rd 39 rfl λK hK=>?_;go_simp;have hh:=ai.1;clear ai;refine rv (HSI.1 _ hh.1 hh.2) ?_;refine hK.out _ _ (hS.1 _ hh) (λai=>?_);clear hh;clear hK K;refine t4 40 41 42 43 ?_;refine t4 44 45 46 47 ?_;refine t4 48 49 50 51 ?_;refine t2 52 53 ?_;refine t7 54 ?_;refine rd 55 rfl λK hK=>?_;go_simp;have hh:=ai.1;clear ai;refine(sM.1 _ hh.1 hh.2).mono ?_;rintro eA wA ⟨vA,rfl,rfl,g1,g2⟩;have gE:=tC.1 _ _ hh.2 g1 g2;refine hK.out _ _ (hS.1 _ gE) (λai=>?_);clear hh gE g1 g2;clear hK K;refine t2 56 57 ?_;refine jQl g9 ?_ _;have HH:=Z ai.1;clear ai;go_wp21;go_roundg (GO.length - (kk+1))
         case measure=>omega
         case rel=>exact⟨kk+1,M,M,by go_num,HH.1.1,F.out.trans HH.1.2,pZ.1⟩
        |false=>
         rw[fP]at sM;have bM:=Z (show(fs w K).id x y=false by have:=Wh.1;rw[EY.1,Jt,bk,fP]at this;rw[HRX.1,<-this];rfl);clear Jt bk fP xI dU;go_wp21;refine t8 hS ⟨w'.out.below HE.1.hs (jQ5 _ _).drew,Below.fr (jQ5 _ _).drew⟩ λai=>?_;refine t4 0 1 2 3 ?_;refine t4 4 5 6 7 ?_;refine t4 8 9 10 11 ?_;refine t4 12 13 14 15 ?_;refine t4 16 17 19 20 ?_;refine rd 18 rfl λK hK=>?_;go_simp;have hh:=ai.1;clear ai;refine rv (Db.1 _ hh.1) ?_;refine hK.out _ _ (hS.1 _ hh) (λai=>?_);clear hh;clear hK K;refine rd 21 rfl λK hK=>?_;go_simp;have hh:=ai.1;clear ai;refine rv (Hk.1 _ hh.1) ?_;refine hK.out _ _ (hS.1 _ hh) (λai=>?_);clear hh;clear hK K;refine t4 22 23 24 25 ?_;refine t4 26 27 28 29 ?_;refine t4 30 31 32 33 ?_;refine t4 34 35 36 37 ?_;refine t7 38 ?_;refine rd 39 rfl λK hK=>?_;go_simp;have hh:=ai.1;clear ai;refine rv (HSI.1 _ hh.1 hh.2) ?_;refine hK.out _ _ (hS.1 _ hh) (λai=>?_);clear hh;clear hK K;refine t4 40 41 42 43 ?_;refine t4 44 45 46 47 ?_;refine t4 48 49 50 51 ?_;refine t2 52 53 ?_;refine t7 54 ?_;refine rd 55 rfl λK hK=>?_;go_simp;have hh:=ai.1;clear ai;refine(sM.1 _ hh.1 hh.2).mono ?_;rintro eA wA ⟨vA,rfl,rfl,g1,g2⟩;have gE:=tC.1 _ _ hh.2 g1 g2;refine hK.out _ _ (hS.1 _ gE) (λai=>?_);clear hh gE g1 g2;clear hK K;refine t2 56 57 ?_;exact M141
       .have bk:aE e.name e'.name=false:=by simp[aE,dU]
        rw[bk]at HSI;have bM:=Z (show(fs w K).id x y=false by have:=Wh.1;rw[EY.1,Jt,bk]at this;rw[HRX.1,<-this];rfl);clear Jt bk xI dU;go_wp21;refine t8 hS ⟨w'.out.below HE.1.hs (jQ5 _ _).drew,Below.fr (jQ5 _ _).drew⟩ λai=>?_;refine t4 0 1 2 3 ?_;refine t4 4 5 6 7 ?_;refine t4 8 9 10 11 ?_;refine t4 12 13 14 15 ?_;refine t4 16 17 19 20 ?_;refine rd 18 rfl λK hK=>?_;go_simp;have hh:=ai.1;clear ai;refine rv (Db.1 _ hh.1) ?_;refine hK.out _ _ (hS.1 _ hh) (λai=>?_);clear hh;clear hK K;refine rd 21 rfl λK hK=>?_;go_simp;have hh:=ai.1;clear ai;refine rv (Hk.1 _ hh.1) ?_;refine hK.out _ _ (hS.1 _ hh) (λai=>?_);clear hh;clear hK K;refine t4 22 23 24 25 ?_;refine t4 26 27 28 29 ?_;refine t4 30 31 32 33 ?_;refine t4 34 35 36 37 ?_;refine t7 38 ?_;refine rd 39 rfl λK hK=>?_;go_simp;have hh:=ai.1;clear ai;refine rv (HSI.1 _ hh.1 hh.2) ?_;refine hK.out _ _ (hS.1 _ hh) (λai=>?_);clear hh;clear hK K;refine t2 40 41 ?_;refine t7 42 ?_;exact M51
      .have htn:=jX xI;have Jt:aE e.gc e'.gc=false:=by simp[aE,xI]
       have bM:=Z (show(fs w K).id x y=false by have:=Wh.1;rw[EY.1,Jt]at this;rw[HRX.1,<-this];rfl);clear Jt xI;go_wp21;refine t8 hS ⟨w'.out.below HE.1.hs (jQ5 _ _).drew,Below.fr (jQ5 _ _).drew⟩ λai=>?_;refine t4 0 1 2 3 ?_;refine t4 4 5 6 7 ?_;refine t4 8 9 10 11 ?_;refine t4 12 13 14 15 ?_;refine t4 16 17 19 20 ?_;refine rd 18 rfl λK hK=>?_;go_simp;have hh:=ai.1;clear ai;refine rv (Db.1 _ hh.1) ?_;refine hK.out _ _ (hS.1 _ hh) (λai=>?_);clear hh;clear hK K;refine rd 21 rfl λK hK=>?_;go_simp;have hh:=ai.1;clear ai;refine rv (Hk.1 _ hh.1) ?_;refine hK.out _ _ (hS.1 _ hh) (λai=>?_);clear hh;clear hK K;refine t4 22 23 24 25 ?_;refine bg 26 ?_;refine bg 27 ?_;refine bg 28 ?_;refine bg 29 ?_;refine bg 30 ?_;refine bg 31 ?_;refine bg 32 ?_;refine bg 33 ?_;refine bg 34 ?_;refine bg 35 ?_;refine bg 36 ?_;refine bg 37 ?_;refine bg 38 ?_;refine bg 39 ?_;refine bg 40 ?_;refine t2 41 42 ?_;exact M51
     .have aR:¬(kk:Int)<(GO.length:Int):=M
      have hA:=A.out;rw[jQf M,jQf M]at hA;have bM:=Z (show(fs w K).id x y=true by rw[HRX.1,<-hA];rfl);clear hA;go_wp2;go_ret;exact⟨_,rfl,by rw[bM.1];rfl,w'.out,F.out⟩
   .have bM:=Z (show(fs w K).id x y=false by rw[bo];simp[rP]);have hz:¬(((una x).li.length:Int)=((una y).li.length:Int)):=M
    have HP:=Z (show aV w S D obj rs K E (r+1) W (λv _=>v=.bool ((fs w K).id x y)) (.returned (.bool false)) W from⟨_,rfl,by rw[bM.1],hx.1.ok,Fr.refl _⟩);clear aZ dI FG Wo ha3 ha4 bo Zp qe wP xi lG wQ xj iP iQ CM xm cz eX dr fx cj fK;go_wp21;refine rv CH ?_;go_wp21;refine rv iK ?_;exact M21
  .have K9:¬(tid (una y).ld=203):=(λh=>by rcases de (una y).ld with g|g|g|g|g|g|g|g|g|g|g|g<;>first|exact iO g.1|(rw[g.2]at h;exact absurd h i5));have fp:=bd (tid (una y).ld) (ptr b2) 37 W K9;exact M7
