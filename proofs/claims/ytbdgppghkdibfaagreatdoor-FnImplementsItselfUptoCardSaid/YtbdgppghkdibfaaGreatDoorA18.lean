import Derived.Test.YtbdgppghkdibfaaGreatDoorA17
set_option linter.all false
set_option maxHeartbeats 16000000
set_option maxRecDepth 20000
namespace Go.Proofs.YtbdgppghkdibfaaGreatDoor
open Go Go.RowKit Go.Lib S P Tryz
variable{X GT t x y:Y}{Q:Y->Prop}{NS:List ByteArray}{cs rs:List Nat}{w:List ah}{K a b cb q r:Nat}{obj:Nat->Nat}{D E:Qx}{S:Sg}{p u v:Value}{W:World}
def M66{GT:Prop}(h:GT:=by
 exact absurd (show aG X=aG GT by
  have e1:aG X=.mk X.ld 0 0 false es es []:=by unfold aG mC;rw[jQ4 M];unfold jt;rw[jQ4 M,jQ7 M]
  have e2:aG GT=.mk GT.ld 0 0 false es es []:=by unfold aG mC;rw[jQ4 M];unfold jt;rw[jQ4 M,jQ7 M]
  rw[e1,e2,he]) hk):GT:=h
def UP(h:PT NS Q w 0 t)(hk:t.ld=3):0<=t.n:=by
 obtain⟨k,n,m,va,nm,tg,l⟩:=t;simp only[Y.ld]at hk;subst hk;cases h with
 |al a b c=>exact b
 |uni h=>omega
 |one h=>omega
def x9(h:cI t):t.ld≠14:=by unfold cI at h;omega
def aft{F:Fs}(hg:GH w S D obj W)(ha:S a=some (aG X))(hb:S b=some (aG GT))(H:cI X)(hy:cI GT)(bk:a≠b):K7 F w X GT=false/\obj a≠obj b:=by
 have kx:cI (aG X):=by unfold cI;rw[aI (x9 H)];exact H
 have ky:cI (aG GT):=by unfold cI;rw[aI (x9 hy)];exact hy
 refine⟨?_,λe=>bk (hg.Gk a b _ _ ha hb kx ky e)⟩;have hk:aG X≠aG GT:=λe=>bk (hg.we a b _ ha (e▸hb) kx);have i1:isIf X=false:=UQ H;by_cases he:X.ld=GT.ld
 .unfold K7;simp only[i1,Bool.false_and,jQk,jR1];rw[jQ4 (by simp[he])];obtain h|h|h:=H
  .rw[jQ7 (.inr h)];have hn:X.n≠GT.n:=λe=>hk (by
    have e1:aG X=.mk 11 X.n 0 false es es []:=by unfold aG mC;rw[jQ4 M];unfold jt;rw[jQ7 h]
    have e2:aG GT=.mk 11 GT.n 0 false es es []:=by unfold aG mC;rw[jQ4 M];unfold jt;rw[jQ7 M]
    rw[e1,e2,e])
   simpa using hn
  .exact M66
  .exact M66
 .exact l3 he (by rw[i1];simp)
def pP(T:TypeId)(b:Nat)(h:T≠127):Calls prog 80 #[.iface T (ptr b)] W (dL W (.iface T (ptr b))):=by
 have fp:=my T (ptr b) 37 W h;exact M85
def Ze(b2:Nat):Calls prog 58 #[.iface 53 (ptr b2)] W (dL W (ptr b2)):=by
 have ag:=pP (W:=W) 53 b2 i5;exact M83
def ach(T:TypeId)(b2:Nat)(h:T≠127)(U:T≠53):Calls prog 58 #[.iface T (ptr b2)] W (dL W (.pointer none)):=by
 have ag:=pP (W:=W) T b2 h;have fp:=uf T (ptr b2) 37 W U;exact M83
def aci:(Tryz.prog.info? 119).map (·.size)=some 4:=g9
def acj:Tryz.prog.underlying 60=some (.pointer 119):=g9
def GK(hg:GH w S D obj W)(ha:S a=some (aG X))(hb:S b=some (aG GT))(H:cI X)(hy:cI GT)(bk:obj a≠obj b):Calls prog 175 #[ptr a,ptr b] W (LS W (.bool false)):=by
 have kx:cI (aG X):=by unfold cI;rw[aI (x9 H)];exact H
 have ky:cI (aG GT):=by unfold cI;rw[aI (x9 hy)];exact hy
 obtain⟨ut,ms,ps,I, -, -, -, -,p1,p2,p3,p4,ho1, -⟩:=hg.named a _ ha kx;obtain⟨ut',xX,wO,U, -, -, -, -,q1,q2,q3,q4,CL, -⟩:=hg.named b _ hb ky;obtain⟨-,c1, -⟩:=zN I;obtain⟨-,c2, -⟩:=zN U;obtain⟨hp,hj,hz⟩:=jQ6.1 aci;have heq:∀n,(binOp .eql 60 (ptr (obj a)) (ptr (obj b))).run prog (W.drewN n)=.ok (.bool false) (W.drewN n):=λn=>
  run_eql_ptr_other (P:=prog) (W.drewN n) acj hj (by rw[hz];decide) (λe=>bk (congrArg Addr.block e)) ho1 CL
 clear I U ho1 CL hj hz hg ha hb;go_in;go_wp21;go_quiet (fail);exact M192
def Zf(h:t.ld≠2):tid t.ld≠127:=by
 intro e;rcases de t.ld with g|g|g|g|g|g|g|g|g|g|g|g<;>first|exact h g.1|(rw[g.2]at e;exact absurd e i5)
def Ov(h:¬cI t)(I:1<=t.ld)(U:t.ld<=17):tid t.ld≠53:=by
 intro e;unfold cI at h;exact M100
def UR(hE:Env NS Q w rs cs)(hI:sv NS Q w S D obj rs K r)(hr:r+1<=K)(h:O5 NS Q w S D obj rs K (r+1) E W cb u v x y p q)(hk:(una x).ld=1):
 Calls prog 130 #[ptr cb,u,v,p] W (aV w S D obj rs K E (r+1) W λv _=>v=.bool ((fs w K).id x y)):=by
 have aF:=aS h.ok.gh h.tu;have aD:=aS h.ok.gh h.tv;obtain⟨ux,jx, -⟩:=cJ hE.qp h.px;obtain⟨uy,jy, -⟩:=cJ hE.qp h.py;replace jx:=jx rs false false;replace jy:=jy rs false false;have hid:=lu hE hr h.px h.py (V6 h.rx h.qr) (V6 h.ry h.qr);have c0:=G7 0 h.cb.2
 have c1:=G7 1 h.cb.2
 obtain⟨hx,HE,HI,pV,Ea,Am,tC⟩:=Z7 h hE hI hid ux uy (show∀w1 w2,Fr S rs (r+1) W w1->Ok w S D obj rs K E (r+1) w2->Fr S rs (r+1) w1 w2->(Ok w S D obj rs K E (r+1) w2/\Fr S rs (r+1) W w2)from λ_ _ I U h3=>⟨U,bZ.trans I h3⟩);clear h hE hI hid ux uy;have hX:tid (una x).ld=89:=by rw[hk];rfl
 go_in;go_wp21;refine aF.mono ?_;rintro e' O ⟨v1,rfl,dr,hw⟩;replace hw:=hw.symm;subst hw;go_wp21;refine aD.mono ?_;rintro e' O ⟨v2,rfl,fx,hw⟩;replace hw:=hw.symm;subst hw;obtain⟨b1,rfl,cz⟩:=id dr;obtain⟨b2,rfl,eX⟩:=id fx;obtain⟨rr,heq,cj,fK⟩:=sL hx.1.ok.gh dr fx;rw[hX]at heq⊢;cases rr with
 |true=>
  exact M5
 |false=>
  clear aF aD;by_cases iO:(una y).ld=1
  .have hY:tid (una y).ld=89:=by rw[iO];rfl
   rw[hY]at heq⊢;have qe:=aW (t:=una x) M M M M;have wP:=aW (t:=una y) M M M M;have xi:(aG (una x)).ld=(una x).ld:=aI M;have lG:(aG (una y)).ld=(una y).ld:=aI M;have wQ:isIf (aG (una x))=false:=by rw[iI M];simp[isIf,hk]
   have xj:isIf (aG (una y))=false:=by rw[iI M];simp[isIf,iO]
   have iP:=dH (rs:=rs) Ea.1 M;have iQ:=dH (rs:=rs) Am.1 M;obtain⟨i3,m3,aZ⟩:=(hx.1.ok.gh.node b1 _ cz).1 (by rw[xi];exact hk);obtain⟨i4,m4,dI⟩:=(hx.1.ok.gh.node b2 _ eX).1 (by rw[lG];exact iO);have jM:(aG (una x)).n=(una x).n:=by rw[qe];rfl
   have hny:(aG (una y)).n=(una y).n:=by rw[wP];rfl
   rw[jM]at aZ;rw[hny]at dI;have d3:=G7 0 aZ
   have d4:=G7 0 dI
   have bo:(fs w K).id x y=decide ((una x).n=(una y).n):=by rw[pV.1];unfold K7;simp[isIf,hk,iO];rw[Bool.eq_iff_iff];simp
   obtain⟨bM,HQ,hS⟩:=Z3 bo (show∀n,Ok w S D obj rs K E (r+1) (W.drewN n)/\Fr S rs (r+1) W (W.drewN n)from λn=>⟨hx.1.ok.below HE.1.hs (jRb (jQ5 _ _) n),Below.fr (jRb (jQ5 _ _) n)⟩) (show∀O,(Ok w S D obj rs K E (r+1) O/\Fr S rs (r+1) W O)->(Ok w S D obj rs K E (r+1) O/\Fr S rs (r+1) W O)/\ce O b1 0 (.int .i64 ((una x).n+1))/\ce O b2 0 (.int .i64 ((una y).n+1))from λO h=>⟨h,h.2.fU cz wQ d3,h.2.fU eX xj d4⟩);clear qe wP xi lG wQ xj iP iQ jM hny cz eX dr fx cj fK aZ dI bo;go_wp21;refine t8 hS ⟨hx.1.ok.below HE.1.hs (jQ5 _ _).drew,Below.fr (jQ5 _ _).drew⟩ λai=>?_;refine t4 0 1 2 3 ?_;refine t4 4 5 6 7 ?_;refine t2 8 9 ?_;refine jQl g9 ?_ _;have HH:=Z ai.1;clear ai;go_wp2;go_ret;refine⟨_,rfl,?_,HH.1.1,HH.1.2⟩;rw[bM.1];show Value.bool _=Value.bool _
   congr 1
   rw[Bool.eq_iff_iff];simp
   try omega
  .have K9:¬(tid (una y).ld=89):=(λh=>by rcases de (una y).ld with g|g|g|g|g|g|g|g|g|g|g|g<;>first|exact iO g.1|(rw[g.2]at h;exact absurd h i5));have fp:=aY (tid (una y).ld) (ptr b2) 37 W K9;exact M7
def US(hE:Env NS Q w rs cs)(hI:sv NS Q w S D obj rs K r)(hr:r+1<=K)(h:O5 NS Q w S D obj rs K (r+1) E W cb u v x y p q)(hk:(una x).ld=3):
 Calls prog 130 #[ptr cb,u,v,p] W (aV w S D obj rs K E (r+1) W λv _=>v=.bool ((fs w K).id x y)):=by
 have aF:=aS h.ok.gh h.tu;have aD:=aS h.ok.gh h.tv;obtain⟨ux,jx, -⟩:=cJ hE.qp h.px;obtain⟨uy,jy, -⟩:=cJ hE.qp h.py;replace jx:=jx rs false false;replace jy:=jy rs false false;have hid:=lu hE hr h.px h.py (V6 h.rx h.qr) (V6 h.ry h.qr);have c0:=G7 0 h.cb.2
 have c1:=G7 1 h.cb.2
 obtain⟨hx,HE,HI,pV,Ea,Am,tC⟩:=Z7 h hE hI hid ux uy (show∀w1 w2,Fr S rs (r+1) W w1->Ok w S D obj rs K E (r+1) w2->Fr S rs (r+1) w1 w2->(Ok w S D obj rs K E (r+1) w2/\Fr S rs (r+1) W w2)from λ_ _ I U h3=>⟨U,bZ.trans I h3⟩);clear h hE hI hid ux uy;have hX:tid (una x).ld=129:=by rw[hk];rfl
 go_in;go_wp21;refine aF.mono ?_;rintro e' O ⟨v1,rfl,dr,hw⟩;replace hw:=hw.symm;subst hw;go_wp21;refine aD.mono ?_;rintro e' O ⟨v2,rfl,fx,hw⟩;replace hw:=hw.symm;subst hw;obtain⟨b1,rfl,cz⟩:=id dr;obtain⟨b2,rfl,eX⟩:=id fx;obtain⟨rr,heq,cj,fK⟩:=sL hx.1.ok.gh dr fx;rw[hX]at heq⊢;cases rr with
 |true=>
  exact M5
 |false=>
  clear aF aD;have dB:=aY 129 (ptr b1) 37 W i5;by_cases iO:(una y).ld=3
  .have hY:tid (una y).ld=129:=by rw[iO];rfl
   rw[hY]at heq⊢;have qe:=aW (t:=una x) M M M M;have wP:=aW (t:=una y) M M M M;have xi:(aG (una x)).ld=(una x).ld:=aI M;have lG:(aG (una y)).ld=(una y).ld:=aI M;have wQ:isIf (aG (una x))=false:=by rw[iI M];simp[isIf,hk]
   have xj:isIf (aG (una y))=false:=by rw[iI M];simp[isIf,iO]
   have iP:=dH (rs:=rs) Ea.1 M;have iQ:=dH (rs:=rs) Am.1 M;obtain⟨v3,e3,gx,aZ,xk⟩:=(hx.1.ok.gh.node b1 _ cz).2.2.1 (by rw[xi];exact hk);obtain⟨v4,e4,gy,dI,FA⟩:=(hx.1.ok.gh.node b2 _ eX).2.2.1 (by rw[lG];exact iO);have CM:(aG (una x)).li=(una x).li:=by rw[qe];rfl
   have xm:(aG (una y)).li=(una y).li:=by rw[wP];rfl
   have jM:(aG (una x)).n=(una x).n:=by rw[qe];rfl
   have hny:(aG (una y)).n=(una y).n:=by rw[wP];rfl
   rw[CM]at gx;rw[xm]at gy;rw[jM]at aZ;rw[hny]at dI;have d3:=G7 1 aZ
   have d4:=G7 1 dI
   have d5:=G7 0 aZ
   have d6:=G7 0 dI
   have sM:=Z (show∀O,Ok w S D obj rs K E (r+1) O->Fr S rs (r+1) W O->Calls prog 130 #[ptr cb,v3,v4,p] O (aV w S D obj rs K E (r+1) O λv _=>v=.bool ((fs w K).id e3 e4))from λO g1 g2=>kV HI.1 hx.1 xk FA (iP _ (by rw[gx];simp)).1 (iQ _ (by rw[gy];simp)).1 (V5 ((iP e3 (by rw[gx];simp)).2)) (V5 ((iQ e4 (by rw[gy];simp)).2)) g1 g2);have bo:(fs w K).id x y=((una x).n==(una y).n&&(fs w K).id e3 e4):=by rw[pV.1];unfold K7;simp[isIf,hk,iO,gx,gy,idL]
   obtain⟨q3,rfl, -⟩:=id xk;obtain⟨q4,rfl, -⟩:=id FA;have JD:¬(una x).n<0:=V5 (UP Ea.1 hk)
   have hz4:¬(una y).n<0:=V5 (UP Am.1 iO)
   have hz5:((una x).n<0)=False:=eq_false JD;have hz6:((una y).n<0)=False:=eq_false hz4;have hz7:decide ((una x).n<0)=false:=decide_eq_false JD;have hz8:decide ((una y).n<0)=false:=decide_eq_false hz4;have hS:=Z (show∀O,(Ok w S D obj rs K E (r+1) O/\Fr S rs (r+1) W O)->(Ok w S D obj rs K E (r+1) O/\Fr S rs (r+1) W O)/\ce O b1 1 (.iface (tid e3.ld) (ptr q3))/\ce O b2 1 (.iface (tid e4.ld) (ptr q4))/\ce O b1 0 (.int .i64 (una x).n)/\ce O b2 0 (.int .i64 (una y).n)from λO h=>⟨h,h.2.fU cz wQ d3,h.2.fU eX xj d4,h.2.fU cz wQ d5,h.2.fU eX xj d6⟩);clear aZ dI xk FA jM hny;clear qe wP xi lG wQ xj iP iQ CM xm gx gy cz eX dr fx cj fK;by_cases jF:(una x).n=(una y).n
   .have Qo:((una x).n==(una y).n)=true:=G9 jF
    have bM:=Z (show(fs w K).id x y=(fs w K).id e3 e4 by rw[bo,Qo];rfl);clear bo jF;go_wp21;refine t8 hS ⟨hx.1.ok.below HE.1.hs (jQ5 _ _).drew,Below.fr (jQ5 _ _).drew⟩ λai=>?_;refine t4 0 1 2 3 ?_;refine t4 4 5 6 7 ?_;refine t4 8 9 10 11 ?_;refine t4 12 13 14 15 ?_;refine t4 16 17 18 19 ?_;refine t4 20 21 22 23 ?_;refine t4 24 25 26 27 ?_;refine t4 28 29 30 31 ?_;refine t2 32 33 ?_;refine rd 34 rfl λK hK=>?_;go_simp;have hh:=ai.1;clear ai;refine(sM.1 _ hh.1 hh.2).mono ?_;rintro eA wA ⟨vA,rfl,rfl,g1,g2⟩;have gE:=tC.1 _ _ hh.2 g1 g2;refine hK.out _ _ (hS.1 _ gE) (λai=>?_);clear hh gE g1 g2;clear hK K;refine t2 35 36 ?_;exact M22
   .have Hy:((una x).n==(una y).n)=false:=G9 jF
    have bM:=Z (show(fs w K).id x y=false by rw[bo,Hy];rfl);clear bo;go_wp21;refine t8 hS ⟨hx.1.ok.below HE.1.hs (jQ5 _ _).drew,Below.fr (jQ5 _ _).drew⟩ λai=>?_;refine t4 0 1 2 3 ?_;refine t4 4 5 6 7 ?_;refine t4 8 9 10 11 ?_;refine t4 12 13 14 15 ?_;refine t4 16 17 18 19 ?_;refine t4 20 21 22 23 ?_;refine bg 24 ?_;refine bg 25 ?_;refine bg 26 ?_;refine bg 27 ?_;refine bg 28 ?_;refine bg 29 ?_;refine bg 30 ?_;refine bg 31 ?_;refine bg 32 ?_;refine bg 33 ?_;refine bg 34 ?_;refine t2 35 36 ?_;exact M22
  .have K9:¬(tid (una y).ld=129):=(λh=>by rcases de (una y).ld with g|g|g|g|g|g|g|g|g|g|g|g<;>first|exact iO g.1|(rw[g.2]at h;exact absurd h i5));have fp:=cM (tid (una y).ld) (ptr b2) 37 W K9;exact M7
def Zg(hE:Env NS Q w rs cs)(hI:sv NS Q w S D obj rs K r)(hr:r+1<=K)(h:O5 NS Q w S D obj rs K (r+1) E W cb u v x y p q)(hk:(una x).ld=9):
 Calls prog 130 #[ptr cb,u,v,p] W (aV w S D obj rs K E (r+1) W λv _=>v=.bool ((fs w K).id x y)):=by
 have aF:=aS h.ok.gh h.tu;have aD:=aS h.ok.gh h.tv;obtain⟨ux,jx, -⟩:=cJ hE.qp h.px;obtain⟨uy,jy, -⟩:=cJ hE.qp h.py;replace jx:=jx rs false false;replace jy:=jy rs false false;have hid:=lu hE hr h.px h.py (V6 h.rx h.qr) (V6 h.ry h.qr);have c0:=G7 0 h.cb.2
 have c1:=G7 1 h.cb.2
 obtain⟨hx,HE,HI,pV,Ea,Am,tC⟩:=Z7 h hE hI hid ux uy (show∀w1 w2,Fr S rs (r+1) W w1->Ok w S D obj rs K E (r+1) w2->Fr S rs (r+1) w1 w2->(Ok w S D obj rs K E (r+1) w2/\Fr S rs (r+1) W w2)from λ_ _ I U h3=>⟨U,bZ.trans I h3⟩);clear h hE hI hid ux uy;have hX:tid (una x).ld=137:=by rw[hk];rfl
 go_in;go_wp21;refine aF.mono ?_;rintro e' O ⟨v1,rfl,dr,hw⟩;replace hw:=hw.symm;subst hw;go_wp21;refine aD.mono ?_;rintro e' O ⟨v2,rfl,fx,hw⟩;replace hw:=hw.symm;subst hw;obtain⟨b1,rfl,cz⟩:=id dr;obtain⟨b2,rfl,eX⟩:=id fx;obtain⟨rr,heq,cj,fK⟩:=sL hx.1.ok.gh dr fx;rw[hX]at heq⊢;cases rr with
 |true=>
  exact M5
 |false=>
  clear aF aD;have dB:=aY 137 (ptr b1) 37 W i5;have fX:=cM 137 (ptr b1) 37 W i5;have pj:=gz 137 (ptr b1) 37 W i5;have eW:=bd 137 (ptr b1) 37 W i5;have dn:=aT 137 (ptr b1) 37 W i5;have zT:=mH 137 (ptr b1) 37 W i5;have rJ:=im 137 (ptr b1) 37 W i5;have GL:=mG 137 (ptr b1) 37 W i5;have gn:=aP 137 (ptr b1) 37 W i5;have afu:=BO 137 (ptr b1) 37 W i5;by_cases iO:(una y).ld=9
  .have hY:tid (una y).ld=137:=by rw[iO];rfl
   rw[hY]at heq⊢;have qe:=aW (t:=una x) M M M M;have wP:=aW (t:=una y) M M M M;have xi:(aG (una x)).ld=(una x).ld:=aI M;have lG:(aG (una y)).ld=(una y).ld:=aI M;have wQ:isIf (aG (una x))=false:=by rw[iI M];simp[isIf,hk]
   have xj:isIf (aG (una y))=false:=by rw[iI M];simp[isIf,iO]
   have iP:=dH (rs:=rs) Ea.1 M;have iQ:=dH (rs:=rs) Am.1 M;obtain⟨v3,e3,gx,aZ,xk⟩:=(hx.1.ok.gh.node b1 _ cz).2.2.2.2.2.2.2.2.1 (by rw[xi];exact hk);obtain⟨v4,e4,gy,dI,FA⟩:=(hx.1.ok.gh.node b2 _ eX).2.2.2.2.2.2.2.2.1 (by rw[lG];exact iO);have CM:(aG (una x)).li=(una x).li:=by rw[qe];rfl
   have xm:(aG (una y)).li=(una y).li:=by rw[wP];rfl
   have jM:(aG (una x)).n=(una x).n:=by rw[qe];rfl
   have hny:(aG (una y)).n=(una y).n:=by rw[wP];rfl
   rw[CM]at gx;rw[xm]at gy;rw[jM]at aZ;rw[hny]at dI;have d3:=G7 1 aZ
   have d4:=G7 1 dI
   have d5:=G7 0 aZ
   have d6:=G7 0 dI
   have sM:=Z (show∀O,Ok w S D obj rs K E (r+1) O->Fr S rs (r+1) W O->Calls prog 130 #[ptr cb,v3,v4,p] O (aV w S D obj rs K E (r+1) O λv _=>v=.bool ((fs w K).id e3 e4))from λO g1 g2=>kV HI.1 hx.1 xk FA (iP _ (by rw[gx];simp)).1 (iQ _ (by rw[gy];simp)).1 (V5 ((iP e3 (by rw[gx];simp)).2)) (V5 ((iQ e4 (by rw[gy];simp)).2)) g1 g2);have bo:(fs w K).id x y=((una x).n==(una y).n&&(fs w K).id e3 e4):=by rw[pV.1];unfold K7;simp[isIf,hk,iO,gx,gy,idL]
   obtain⟨q3,rfl, -⟩:=id xk;obtain⟨q4,rfl, -⟩:=id FA;have hS:=Z (show∀O,(Ok w S D obj rs K E (r+1) O/\Fr S rs (r+1) W O)->(Ok w S D obj rs K E (r+1) O/\Fr S rs (r+1) W O)/\ce O b1 1 (.iface (tid e3.ld) (ptr q3))/\ce O b2 1 (.iface (tid e4.ld) (ptr q4))/\ce O b1 0 (.int .i64 (una x).n)/\ce O b2 0 (.int .i64 (una y).n)from λO h=>⟨h,h.2.fU cz wQ d3,h.2.fU eX xj d4,h.2.fU cz wQ d5,h.2.fU eX xj d6⟩);clear aZ dI xk FA jM hny;clear qe wP xi lG wQ xj iP iQ CM xm gx gy cz eX dr fx cj fK;by_cases jF:(una x).n=(una y).n
   .have Qo:((una x).n==(una y).n)=true:=G9 jF
    have bM:=Z (show(fs w K).id x y=(fs w K).id e3 e4 by rw[bo,Qo];rfl);clear bo jF;go_wp21;refine t8 hS ⟨hx.1.ok.below HE.1.hs (jQ5 _ _).drew,Below.fr (jQ5 _ _).drew⟩ λai=>?_;refine t4 0 1 2 3 ?_;refine t4 4 5 6 7 ?_;refine t4 8 9 10 11 ?_;refine t4 12 13 14 15 ?_;refine t4 16 17 18 19 ?_;refine rd 20 rfl λK hK=>?_;go_simp;have hh:=ai.1;clear ai;refine(sM.1 _ hh.1 hh.2).mono ?_;rintro eA wA ⟨vA,rfl,rfl,g1,g2⟩;have gE:=tC.1 _ _ hh.2 g1 g2;refine hK.out _ _ (hS.1 _ gE) (λai=>?_);clear hh gE g1 g2;clear hK K;refine t2 21 22 ?_;exact M22
   .have Hy:((una x).n==(una y).n)=false:=G9 jF
    have bM:=Z (show(fs w K).id x y=false by rw[bo,Hy];rfl);clear bo;go_wp21;refine t8 hS ⟨hx.1.ok.below HE.1.hs (jQ5 _ _).drew,Below.fr (jQ5 _ _).drew⟩ λai=>?_;refine t4 0 1 2 3 ?_;refine t4 4 5 6 7 ?_;refine t2 8 9 ?_;refine bg 10 ?_;refine bg 11 ?_;refine bg 12 ?_;refine bg 13 ?_;refine bg 14 ?_;refine bg 15 ?_;refine bg 16 ?_;refine bg 17 ?_;refine bg 18 ?_;refine bg 19 ?_;refine bg 20 ?_;refine t2 21 22 ?_;exact M22
  .have K9:¬(tid (una y).ld=137):=(λh=>by rcases de (una y).ld with g|g|g|g|g|g|g|g|g|g|g|g<;>first|exact iO g.1|(rw[g.2]at h;exact absurd h i5));have fp:=ed (tid (una y).ld) (ptr b2) 37 W K9;exact M7
def ack(hE:Env NS Q w rs cs)(hI:sv NS Q w S D obj rs K r)(hr:r+1<=K)(h:O5 NS Q w S D obj rs K (r+1) E W cb u v x y p q)(hk:(una x).ld=8):
 Calls prog 130 #[ptr cb,u,v,p] W (aV w S D obj rs K E (r+1) W λv _=>v=.bool ((fs w K).id x y)):=by
 have aF:=aS h.ok.gh h.tu;have aD:=aS h.ok.gh h.tv;obtain⟨ux,jx, -⟩:=cJ hE.qp h.px;obtain⟨uy,jy, -⟩:=cJ hE.qp h.py;replace jx:=jx rs false false;replace jy:=jy rs false false;have hid:=lu hE hr h.px h.py (V6 h.rx h.qr) (V6 h.ry h.qr);have c0:=G7 0 h.cb.2
 have c1:=G7 1 h.cb.2
 obtain⟨hx,HE,HI,pV,Ea,Am,tC⟩:=Z7 h hE hI hid ux uy (show∀w1 w2,Fr S rs (r+1) W w1->Ok w S D obj rs K E (r+1) w2->Fr S rs (r+1) w1 w2->(Ok w S D obj rs K E (r+1) w2/\Fr S rs (r+1) W w2)from λ_ _ I U h3=>⟨U,bZ.trans I h3⟩);clear h hE hI hid ux uy;have hX:tid (una x).ld=135:=by rw[hk];rfl
 go_in;go_wp21;refine aF.mono ?_;rintro e' O ⟨v1,rfl,dr,hw⟩;replace hw:=hw.symm;subst hw;go_wp21;refine aD.mono ?_;rintro e' O ⟨v2,rfl,fx,hw⟩;replace hw:=hw.symm;subst hw;obtain⟨b1,rfl,cz⟩:=id dr;obtain⟨b2,rfl,eX⟩:=id fx;obtain⟨rr,heq,cj,fK⟩:=sL hx.1.ok.gh dr fx;rw[hX]at heq⊢;cases rr with
 |true=>
  exact M5
 |false=>
  clear aF aD;have dB:=aY 135 (ptr b1) 37 W i5;have fX:=cM 135 (ptr b1) 37 W i5;have pj:=gz 135 (ptr b1) 37 W i5;have eW:=bd 135 (ptr b1) 37 W i5;have dn:=aT 135 (ptr b1) 37 W i5;have zT:=mH 135 (ptr b1) 37 W i5;have rJ:=im 135 (ptr b1) 37 W i5;have GL:=mG 135 (ptr b1) 37 W i5;have gn:=aP 135 (ptr b1) 37 W i5;by_cases iO:(una y).ld=8
  .have hY:tid (una y).ld=135:=by rw[iO];rfl
   rw[hY]at heq⊢;have qe:=aW (t:=una x) M M M M;have wP:=aW (t:=una y) M M M M;have xi:(aG (una x)).ld=(una x).ld:=aI M;have lG:(aG (una y)).ld=(una y).ld:=aI M;have wQ:isIf (aG (una x))=false:=by rw[iI M];simp[isIf,hk]
   have xj:isIf (aG (una y))=false:=by rw[iI M];simp[isIf,iO]
   have iP:=dH (rs:=rs) Ea.1 M;have iQ:=dH (rs:=rs) Am.1 M;obtain⟨v3,u3,k3,e3,gx,aZ,xk,tu3⟩:=(hx.1.ok.gh.node b1 _ cz).2.2.2.2.2.2.2.1 (by rw[xi];exact hk);obtain⟨v4,u4,k4,e4,gy,dI,FA,tu4⟩:=(hx.1.ok.gh.node b2 _ eX).2.2.2.2.2.2.2.1 (by rw[lG];exact iO);have CM:(aG (una x)).li=(una x).li:=by rw[qe];rfl
   have xm:(aG (una y)).li=(una y).li:=by rw[wP];rfl
   rw[CM]at gx;rw[xm]at gy;have d3:=G7 0 aZ
   have d4:=G7 0 dI
   have d5:=G7 1 aZ
   have d6:=G7 1 dI
   have sM:=Z (show∀O,Ok w S D obj rs K E (r+1) O->Fr S rs (r+1) W O->Calls prog 130 #[ptr cb,v3,v4,p] O (aV w S D obj rs K E (r+1) O λv _=>v=.bool ((fs w K).id k3 k4))from λO g1 g2=>kV HI.1 hx.1 xk FA (iP _ (by rw[gx];simp)).1 (iQ _ (by rw[gy];simp)).1 (V5 ((iP k3 (by rw[gx];simp)).2)) (V5 ((iQ k4 (by rw[gy];simp)).2)) g1 g2);have HCE:=Z (show∀O,Ok w S D obj rs K E (r+1) O->Fr S rs (r+1) W O->Calls prog 130 #[ptr cb,u3,u4,p] O (aV w S D obj rs K E (r+1) O λv _=>v=.bool ((fs w K).id e3 e4))from λO g1 g2=>kV HI.1 hx.1 tu3 tu4 (iP _ (by rw[gx];simp)).1 (iQ _ (by rw[gy];simp)).1 (V5 ((iP e3 (by rw[gx];simp)).2)) (V5 ((iQ e4 (by rw[gy];simp)).2)) g1 g2);have bo:(fs w K).id x y=((fs w K).id k3 k4&&(fs w K).id e3 e4):=by rw[pV.1];unfold K7;simp[isIf,hk,iO,gx,gy,idL]
   obtain⟨q3,rfl, -⟩:=id xk;obtain⟨q4,rfl, -⟩:=id FA;obtain⟨q5,rfl, -⟩:=id tu3;obtain⟨q6,rfl, -⟩:=id tu4;have hS:=Z (show∀O,(Ok w S D obj rs K E (r+1) O/\Fr S rs (r+1) W O)->(Ok w S D obj rs K E (r+1) O/\Fr S rs (r+1) W O)/\ce O b1 0 (.iface (tid k3.ld) (ptr q3))/\ce O b2 0 (.iface (tid k4.ld) (ptr q4))/\ce O b1 1 (.iface (tid e3.ld) (ptr q5))/\ce O b2 1 (.iface (tid e4.ld) (ptr q6))from λO h=>⟨h,h.2.fU cz wQ d3,h.2.fU eX xj d4,h.2.fU cz wQ d5,h.2.fU eX xj d6⟩);clear aZ dI xk FA tu3 tu4;clear qe wP xi lG wQ xj iP iQ CM xm gx gy cz eX dr fx cj fK;cases fP:(fs w K).id k3 k4 with
   |true=>
    rw[fP]at sM;have bM:=Z (show(fs w K).id x y=(fs w K).id e3 e4 by rw[bo,fP];rfl);clear bo fP;go_wp21;refine t8 hS ⟨hx.1.ok.below HE.1.hs (jQ5 _ _).drew,Below.fr (jQ5 _ _).drew⟩ λai=>?_;refine t4 0 1 2 3 ?_;refine t4 4 5 6 7 ?_;refine t2 8 9 ?_;refine rd 10 rfl λK hK=>?_;go_simp;have hh:=ai.1;clear ai;refine(sM.1 _ hh.1 hh.2).mono ?_;rintro eA wA ⟨vA,rfl,rfl,g1,g2⟩;have gE:=tC.1 _ _ hh.2 g1 g2;refine hK.out _ _ (hS.1 _ gE) (λai=>?_);clear hh gE g1 g2;clear hK K;refine t4 11 12 13 14 ?_;refine t4 15 16 17 18 ?_;refine t2 19 20 ?_;refine t7 21 ?_;refine rd 22 rfl λK hK=>?_;go_simp;have hh:=ai.1;clear ai;refine(HCE.1 _ hh.1 hh.2).mono ?_;rintro eA wA ⟨vA,rfl,rfl,g1,g2⟩;have gE:=tC.1 _ _ hh.2 g1 g2;refine hK.out _ _ (hS.1 _ gE) (λai=>?_);clear hh gE g1 g2;clear hK K;refine t2 23 24 ?_;exact M22
   |false=>
    rw[fP]at sM;have bM:=Z (show(fs w K).id x y=false by rw[bo,fP];rfl);clear bo fP;go_wp21;refine t8 hS ⟨hx.1.ok.below HE.1.hs (jQ5 _ _).drew,Below.fr (jQ5 _ _).drew⟩ λai=>?_;refine t4 0 1 2 3 ?_;refine t4 4 5 6 7 ?_;refine t2 8 9 ?_;refine rd 10 rfl λK hK=>?_;go_simp;have hh:=ai.1;clear ai;refine(sM.1 _ hh.1 hh.2).mono ?_;rintro eA wA ⟨vA,rfl,rfl,g1,g2⟩;have gE:=tC.1 _ _ hh.2 g1 g2;refine hK.out _ _ (hS.1 _ gE) (λai=>?_);clear hh gE g1 g2;clear hK K;refine t7 11 ?_;refine bg 12 ?_;refine bg 13 ?_;refine bg 14 ?_;refine bg 15 ?_;refine bg 16 ?_;refine bg 17 ?_;refine bg 18 ?_;refine bg 19 ?_;refine bg 20 ?_;refine bg 21 ?_;refine bg 22 ?_;refine t2 23 24 ?_;exact M22
  .have K9:¬(tid (una y).ld=135):=(λh=>by rcases de (una y).ld with g|g|g|g|g|g|g|g|g|g|g|g<;>first|exact iO g.1|(rw[g.2]at h;exact absurd h i5));have fp:=BO (tid (una y).ld) (ptr b2) 37 W K9;exact M7
def UT(hE:Env NS Q w rs cs)(hI:sv NS Q w S D obj rs K r)(hr:r+1<=K)(h:O5 NS Q w S D obj rs K (r+1) E W cb u v x y p q)(hk:cI (una x)):
 Calls prog 130 #[ptr cb,u,v,p] W (aV w S D obj rs K E (r+1) W λv _=>v=.bool ((fs w K).id x y)):=by
 have aF:=aS h.ok.gh h.tu;have aD:=aS h.ok.gh h.tv;obtain⟨ux,jx, -⟩:=cJ hE.qp h.px;obtain⟨uy,jy, -⟩:=cJ hE.qp h.py;replace jx:=jx rs false false;replace jy:=jy rs false false;have hid:=lu hE hr h.px h.py (V6 h.rx h.qr) (V6 h.ry h.qr);have c0:=G7 0 h.cb.2
 have c1:=G7 1 h.cb.2
 obtain⟨hx,HE,HI,pV,Ea,Am,tC⟩:=Z7 h hE hI hid ux uy (show∀w1 w2,Fr S rs (r+1) W w1->Ok w S D obj rs K E (r+1) w2->Fr S rs (r+1) w1 w2->(Ok w S D obj rs K E (r+1) w2/\Fr S rs (r+1) W w2)from λ_ _ I U h3=>⟨U,bZ.trans I h3⟩);clear h hE hI hid ux uy;have hX:tid (una x).ld=53:=by rcases hk with h|h|h<;>rw[h]<;>rfl
 go_in;go_wp21;refine aF.mono ?_;rintro e' O ⟨v1,rfl,dr,hw⟩;replace hw:=hw.symm;subst hw;go_wp21;refine aD.mono ?_;rintro e' O ⟨v2,rfl,fx,hw⟩;replace hw:=hw.symm;subst hw;obtain⟨b1,rfl,cz⟩:=id dr;obtain⟨b2,rfl,eX⟩:=id fx;obtain⟨rr,heq,cj,fK⟩:=sL hx.1.ok.gh dr fx;rw[hX]at heq⊢;cases rr with
 |true=>
  exact M5
 |false=>
  clear aF aD;have dB:=aY 53 (ptr b1) 37 W i5;have fX:=cM 53 (ptr b1) 37 W i5;have pj:=gz 53 (ptr b1) 37 W i5;have eW:=bd 53 (ptr b1) 37 W i5;have dn:=aT 53 (ptr b1) 37 W i5;have zT:=mH 53 (ptr b1) 37 W i5;have rJ:=im 53 (ptr b1) 37 W i5;have GL:=mG 53 (ptr b1) 37 W i5;have gn:=aP 53 (ptr b1) 37 W i5;have afu:=BO 53 (ptr b1) 37 W i5;have jY:=ed 53 (ptr b1) 37 W i5;by_cases iO:cI (una y)
  .have hY:tid (una y).ld=53:=by rcases iO with h|h|h<;>rw[h]<;>rfl
   rw[hY]at heq⊢fK;have mO:b1≠b2:=by rintro rfl;simp[hX]at fK
   obtain⟨JX,afv⟩:=aft (w:=w) (F:=fs w K) hx.1.ok.gh cz eX hk iO mO;have gO:=Ze (W:=W) b2;have acm:=GK hx.1.ok.gh cz eX hk iO afv;have bM:=Z (show(fs w K).id x y=false by rw[pV.1];exact JX);have HQ:=Z (show∀n,Ok w S D obj rs K E (r+1) (W.drewN n)/\Fr S rs (r+1) W (W.drewN n)from λn=>⟨hx.1.ok.below HE.1.hs (jRb (jQ5 _ _) n),Below.fr (jRb (jQ5 _ _) n)⟩);clear cz eX dr fx cj fK JX afv hk iO;go_wp21;refine rv gO ?_;go_wp21;refine acm.mono ?_;rintro e' O ⟨rfl,m,rfl⟩;go_wp2;go_ret;exact⟨_,rfl,by rw[bM.1];rfl,(HQ.1 m).1,(HQ.1 m).2⟩
  .have gO:=ach (W:=W) (tid (una y).ld) b2 (Zf (cJ HE.1.qp hx.1.py).2.2.2.1) (Ov iO (gR Am.1).1 (V5 ((gR Am.1).2)));have bo:(fs w K).id x y=false:=by rw[pV.1];exact l3 (by unfold cI at hk iO;omega) (by intro hh;have:=dw hh.1;unfold cI at hk;omega)
   have HP:=Z (show aV w S D obj rs K E (r+1) W (λv _=>v=.bool ((fs w K).id x y)) (.returned (.bool false)) W from⟨_,rfl,by rw[bo],hx.1.ok,Fr.refl _⟩);have hnoT:=mh 53 (ptr b1) 37 W i5;generalize tid (una y).ld=TY at*;clear bo cj fK dr fx cz eX;go_wp21;refine rv gO ?_;exact M21
