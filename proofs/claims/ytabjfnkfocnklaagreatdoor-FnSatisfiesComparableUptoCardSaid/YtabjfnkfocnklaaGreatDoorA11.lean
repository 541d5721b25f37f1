import Derived.Test.YtabjfnkfocnklaaGreatDoorA10
set_option linter.all false
set_option maxHeartbeats 16000000
set_option maxRecDepth 20000
namespace Go.Proofs.YtabjfnkfocnklaaGreatDoor
open Go Go.RowKit Go.Lib S P Tryz
variable{X t t' x y:GT}{Q:GT->Prop}{NS:List ByteArray}{l l':List GT}{cs rs:List Nat}{w:List ah}{K a b cb q r:Nat}{obj:Nat->Nat}{D E:Nat->Prop}{Y:Prop}{S:Sg}{p pa pb sl u v:Value}{W W1:World}
theorem M128(h:Y:=by
 cases hs:S b9 with
 |none=>rfl
 |some s=>exact absurd CR (O.out.gh.rS b9 s hs)):Y:=h
theorem M129(h:Y:=by
 cases hs:S jN with
 |none=>rfl
 |some s=>exact absurd Ga (O.out.gh.rS jN s hs)):Y:=h
theorem M163(h:Y:=by
 go_enter func121,ntmps121;go_wp2_with fail;refine rv aF ?_;go_wp2_with fail;refine rv aD ?_;exact M13):Y:=h
theorem M60(h:Y:=by
 go_enter func121,ntmps121;go_wp2_with fail;refine rv aF ?_;go_wp2_with fail;refine rv aD ?_;go_wp2_with fail;refine rv yB ?_;go_wp2_with fail;refine rv Jc ?_;exact M13):Y:=h
theorem M68(h:Y:=by
 exact absurd (show aG X=aG Y by
  have e1:aG X=.mk X.kind 0 0 false es es []:=by unfold aG mC;rw[jQ4 m9];unfold jt;rw[jQ4 m9,jQ7 m9]
  have e2:aG Y=.mk Y.kind 0 0 false es es []:=by unfold aG mC;rw[jQ4 m9];unfold jt;rw[jQ4 m9,jQ7 m9]
  rw[e1,e2,he]) hk):Y:=h
theorem M92(h:Y:=by
 refine t2 20 21 ?_;refine bg 22 ?_;refine bg 23 ?_;refine bg 24 ?_;refine bg 25 ?_;refine bg 26 ?_;refine bg 27 ?_;refine bg 28 ?_;refine bg 29 ?_;refine bg 30 ?_;refine bg 31 ?_;refine t2 32 33 ?_;exact M22):Y:=h
theorem UP(h:PT NS Q w 0 t)(hk:t.kind=3):0<=t.n:=by
 obtain⟨k,n,m,va,nm,tg,l⟩:=t;simp only[GT.kind]at hk;subst hk;cases h with
 |al a b c=>exact b
 |uni h=>omega
 |one h=>omega
theorem x9(h:cI t):t.kind≠14:=by unfold cI at h;omega
theorem aft{F:Fs}{Y:GT}(hg:GH w S D obj W)(ha:S a=some (aG X))(hb:S b=some (aG Y))(hx:cI X)(hy:cI Y)(bk:a≠b):K7 F w X Y=false/\obj a≠obj b:=by
 have kx:cI (aG X):=by unfold cI;rw[aI (x9 hx)];exact hx
 have ky:cI (aG Y):=by unfold cI;rw[aI (x9 hy)];exact hy
 refine⟨?_,λe=>bk (hg.Gk a b _ _ ha hb kx ky e)⟩;have hk:aG X≠aG Y:=λe=>bk (hg.we a b _ ha (e▸hb) kx);have i1:isIf X=false:=UQ hx;by_cases he:X.kind=Y.kind
 ·unfold K7;simp only[i1,Bool.false_and,jQk,jR1];rw[jQ4 (by simp[he])];obtain h|h|h:=hx
  ·rw[jQ7 (.inr h)];have hn:X.n≠Y.n:=λe=>hk (by
    have e1:aG X=.mk 11 X.n 0 false es es []:=by unfold aG mC;rw[jQ4 m9];unfold jt;rw[jQ7 h]
    have e2:aG Y=.mk 11 Y.n 0 false es es []:=by unfold aG mC;rw[jQ4 m9];unfold jt;rw[jQ7 m9]
    rw[e1,e2,e])
   simpa using hn
  ·exact M68
  ·exact M68
 ·exact l3 he (by rw[i1];simp)
theorem pP(T:TypeId)(b:Nat)(h:T≠125):Calls prog 100 #[.iface T (ptr b)] W (dL W (.iface T (ptr b))):=by
 have fp:=my T (ptr b) 37 W h;exact M197
theorem Ze(b2:Nat):Calls prog 51 #[.iface 53 (ptr b2)] W (dL W (ptr b2)):=by
 have ag:=pP (W:=W) 53 b2 i5;go_enter func51,ntmps51;exact M95
theorem ach(T:TypeId)(b2:Nat)(h:T≠125)(h2:T≠53):Calls prog 51 #[.iface T (ptr b2)] W (dL W (.pointer none)):=by
 have ag:=pP (W:=W) T b2 h;have fp:=uf T (ptr b2) 37 W h2;go_enter func51,ntmps51;exact M95
theorem aci:(Tryz.prog.info? 117).map (·.size)=some 4:=g9
theorem acj:Tryz.prog.underlying 60=some (.pointer 117):=g9
theorem GK{Y:GT}(hg:GH w S D obj W)(ha:S a=some (aG X))(hb:S b=some (aG Y))(hx:cI X)(hy:cI Y)(bk:obj a≠obj b):Calls prog 165 #[ptr a,ptr b] W (LS W (.bool false)):=by
 have kx:cI (aG X):=by unfold cI;rw[aI (x9 hx)];exact hx
 have ky:cI (aG Y):=by unfold cI;rw[aI (x9 hy)];exact hy
 obtain⟨ut,ms,ps,h1, -, -, -, -,p1,p2,p3,p4,ho1, -⟩:=hg.named a _ ha kx;obtain⟨ut',xX,wO,h2, -, -, -, -,q1,q2,q3,q4,CL, -⟩:=hg.named b _ hb ky;obtain⟨-,c1, -⟩:=zN h1;obtain⟨-,c2, -⟩:=zN h2;obtain⟨j,hj,hz⟩:=jQ6.1 aci;have heq:∀n,(binOp .eql 60 (ptr (obj a)) (ptr (obj b))).run prog (W.drewN n)=.ok (.bool false) (W.drewN n):=λn=>
  run_eql_ptr_other (P:=prog) (W.drewN n) acj hj (by rw[hz];decide) (λe=>bk (congrArg Addr.block e)) ho1 CL
 clear h1 h2 ho1 CL hj hz hg ha hb;go_enter func165,ntmps165;go_wp2_with fail;go_quiet (fail);exact M156
theorem Zf(h:t.kind≠2):tid t.kind≠125:=by
 intro e;rcases de t.kind with g|g|g|g|g|g|g|g|g|g|g|g<;>first|exact h g.1|(rw[g.2]at e;exact absurd e i5)
theorem Ov(h:¬cI t)(h1:1<=t.kind)(h2:t.kind<=17):tid t.kind≠53:=by
 intro e;unfold cI at h;exact M99
theorem UR(hE:Env NS Q w rs cs)(hI:sv NS Q w S D obj rs K r)(hr:r+1<=K)(h:O5 NS Q w S D obj rs K (r+1) E W cb u v x y p q)(hk:(una x).kind=1):
 Calls prog 121 #[ptr cb,u,v,p] W (aV w S D obj rs K E (r+1) W λv _=>v=.bool ((fs w K).id x y)):=by
 have aF:=aS h.ok.gh h.tu;have aD:=aS h.ok.gh h.tv;obtain⟨ux,jx, -⟩:=cJ hE.qp h.px;obtain⟨uy,jy, -⟩:=cJ hE.qp h.py;replace jx:=jx rs false false;replace jy:=jy rs false false;have hid:=lu hE hr h.px h.py (by have:=h.rx;have:=h.qr;omega) (by have:=h.ry;have:=h.qr;omega);have c0:W.cell? ⟨cb,0,none⟩=some (.bool false):=by simp[World.cell?,h.cb.2]
 have c1:W.cell? ⟨cb,1,none⟩=some (.bool false):=by simp[World.cell?,h.cb.2]
 obtain⟨H,HE,HI,pV,Ea,Am,tC⟩:=Z7 h hE hI hid ux uy (show∀w1 w2,Fr S rs (r+1) W w1->Ok w S D obj rs K E (r+1) w2->Fr S rs (r+1) w1 w2->(Ok w S D obj rs K E (r+1) w2/\Fr S rs (r+1) W w2)from λ_ _ h1 h2 h3=>⟨h2,bZ.trans h1 h3⟩);clear h hE hI hid ux uy;have hX:tid (una x).kind=87:=by rw[hk];rfl
 go_enter func121,ntmps121;go_wp2_with fail;refine aF.mono ?_;rintro e' w' ⟨v1,rfl,dr,hw⟩;replace hw:=hw.symm;subst hw;go_wp2_with fail;refine aD.mono ?_;rintro e' w' ⟨v2,rfl,fx,hw⟩;replace hw:=hw.symm;subst hw;obtain⟨b1,rfl,cz⟩:=id dr;obtain⟨b2,rfl,eX⟩:=id fx;obtain⟨rr,heq,cj,fK⟩:=sL H.1.ok.gh dr fx;rw[hX]at heq⊢;cases rr with
 |true=>
  exact M5
 |false=>
  clear aF aD;by_cases iO:(una y).kind=1
  ·have hY:tid (una y).kind=87:=by rw[iO];rfl
   rw[hY]at heq⊢;have qe:=aW (t:=una x) m9 m9 m9 m9;have wP:=aW (t:=una y) m9 m9 m9 m9;have xi:(aG (una x)).kind=(una x).kind:=aI m9;have lG:(aG (una y)).kind=(una y).kind:=aI m9;have wQ:isIf (aG (una x))=false:=by rw[iI m9];simp[isIf,hk]
   have xj:isIf (aG (una y))=false:=by rw[iI m9];simp[isIf,iO]
   have iP:=dH (rs:=rs) Ea.1 m9;have iQ:=dH (rs:=rs) Am.1 m9;obtain⟨i3,m3,aZ⟩:=(H.1.ok.gh.node b1 _ cz).1 (by rw[xi];exact hk);obtain⟨i4,m4,dI⟩:=(H.1.ok.gh.node b2 _ eX).1 (by rw[lG];exact iO);have jM:(aG (una x)).n=(una x).n:=by rw[qe];rfl
   have hny:(aG (una y)).n=(una y).n:=by rw[wP];rfl
   rw[jM]at aZ;rw[hny]at dI;have d3:W.cell? ⟨b1,0,none⟩=some (.int .i64 ((una x).n+1)):=by simp[World.cell?,aZ]
   have d4:W.cell? ⟨b2,0,none⟩=some (.int .i64 ((una y).n+1)):=by simp[World.cell?,dI]
   have bo:(fs w K).id x y=decide ((una x).n=(una y).n):=by rw[pV.1];unfold K7;simp[isIf,hk,iO];rw[Bool.eq_iff_iff];simp
   obtain⟨bM,HQ,hS⟩:=Z3 bo (show∀n,Ok w S D obj rs K E (r+1) (W.drewN n)/\Fr S rs (r+1) W (W.drewN n)from λn=>⟨H.1.ok.below HE.1.hs (jRb (jQ5 _ _) n),Below.fr (jRb (jQ5 _ _) n)⟩) (show∀w',(Ok w S D obj rs K E (r+1) w'/\Fr S rs (r+1) W w')->(Ok w S D obj rs K E (r+1) w'/\Fr S rs (r+1) W w')/\w'.cell? ⟨b1,0,none⟩=some (.int .i64 ((una x).n+1))/\w'.cell? ⟨b2,0,none⟩=some (.int .i64 ((una y).n+1))from λw' h=>⟨h,h.2.fU cz wQ d3,h.2.fU eX xj d4⟩);clear qe wP xi lG wQ xj iP iQ jM hny cz eX dr fx cj fK aZ dI bo;go_wp2_with fail;refine jQ9 (S:=(λw'=>(Ok w S D obj rs K E (r+1) w'/\Fr S rs (r+1) W w')/\w'.cell? ⟨b1,0,none⟩=some (.int .i64 ((una x).n+1))/\w'.cell? ⟨b2,0,none⟩=some (.int .i64 ((una y).n+1)))) g9 (hS.1 _ ⟨H.1.ok.below HE.1.hs (jQ5 _ _).drew,Below.fr (jQ5 _ _).drew⟩) (λai=>?_);refine t4 0 1 2 3 ?_;refine t4 4 5 6 7 ?_;refine t2 8 9 ?_;refine jQl g9 ?_ _;have HH:=Z ai.1;clear ai;go_wp2_with fail;go_ret;refine⟨_,rfl,?_,HH.1.1,HH.1.2⟩;rw[bM.1];show Value.bool _=Value.bool _
   congr 1
   rw[Bool.eq_iff_iff];simp
   try omega
  ·have K9:¬(tid (una y).kind=87):=(λh=>by rcases de (una y).kind with g|g|g|g|g|g|g|g|g|g|g|g<;>first|exact iO g.1|(rw[g.2]at h;exact absurd h i5));have fp:=aY (tid (una y).kind) (ptr b2) 37 W K9;exact M8
theorem US(hE:Env NS Q w rs cs)(hI:sv NS Q w S D obj rs K r)(hr:r+1<=K)(h:O5 NS Q w S D obj rs K (r+1) E W cb u v x y p q)(hk:(una x).kind=3):
 Calls prog 121 #[ptr cb,u,v,p] W (aV w S D obj rs K E (r+1) W λv _=>v=.bool ((fs w K).id x y)):=by
 have aF:=aS h.ok.gh h.tu;have aD:=aS h.ok.gh h.tv;obtain⟨ux,jx, -⟩:=cJ hE.qp h.px;obtain⟨uy,jy, -⟩:=cJ hE.qp h.py;replace jx:=jx rs false false;replace jy:=jy rs false false;have hid:=lu hE hr h.px h.py (by have:=h.rx;have:=h.qr;omega) (by have:=h.ry;have:=h.qr;omega);have c0:W.cell? ⟨cb,0,none⟩=some (.bool false):=by simp[World.cell?,h.cb.2]
 have c1:W.cell? ⟨cb,1,none⟩=some (.bool false):=by simp[World.cell?,h.cb.2]
 obtain⟨H,HE,HI,pV,Ea,Am,tC⟩:=Z7 h hE hI hid ux uy (show∀w1 w2,Fr S rs (r+1) W w1->Ok w S D obj rs K E (r+1) w2->Fr S rs (r+1) w1 w2->(Ok w S D obj rs K E (r+1) w2/\Fr S rs (r+1) W w2)from λ_ _ h1 h2 h3=>⟨h2,bZ.trans h1 h3⟩);clear h hE hI hid ux uy;have hX:tid (una x).kind=127:=by rw[hk];rfl
 go_enter func121,ntmps121;go_wp2_with fail;refine aF.mono ?_;rintro e' w' ⟨v1,rfl,dr,hw⟩;replace hw:=hw.symm;subst hw;go_wp2_with fail;refine aD.mono ?_;rintro e' w' ⟨v2,rfl,fx,hw⟩;replace hw:=hw.symm;subst hw;obtain⟨b1,rfl,cz⟩:=id dr;obtain⟨b2,rfl,eX⟩:=id fx;obtain⟨rr,heq,cj,fK⟩:=sL H.1.ok.gh dr fx;rw[hX]at heq⊢;cases rr with
 |true=>
  exact M5
 |false=>
  clear aF aD;have dB:=aY 127 (ptr b1) 37 W i5;by_cases iO:(una y).kind=3
  ·have hY:tid (una y).kind=127:=by rw[iO];rfl
   rw[hY]at heq⊢;have qe:=aW (t:=una x) m9 m9 m9 m9;have wP:=aW (t:=una y) m9 m9 m9 m9;have xi:(aG (una x)).kind=(una x).kind:=aI m9;have lG:(aG (una y)).kind=(una y).kind:=aI m9;have wQ:isIf (aG (una x))=false:=by rw[iI m9];simp[isIf,hk]
   have xj:isIf (aG (una y))=false:=by rw[iI m9];simp[isIf,iO]
   have iP:=dH (rs:=rs) Ea.1 m9;have iQ:=dH (rs:=rs) Am.1 m9;obtain⟨v3,e3,gx,aZ,xk⟩:=(H.1.ok.gh.node b1 _ cz).2.2.1 (by rw[xi];exact hk);obtain⟨v4,e4,gy,dI,FA⟩:=(H.1.ok.gh.node b2 _ eX).2.2.1 (by rw[lG];exact iO);have CM:(aG (una x)).elems=(una x).elems:=by rw[qe];rfl
   have xm:(aG (una y)).elems=(una y).elems:=by rw[wP];rfl
   have jM:(aG (una x)).n=(una x).n:=by rw[qe];rfl
   have hny:(aG (una y)).n=(una y).n:=by rw[wP];rfl
   rw[CM]at gx;rw[xm]at gy;rw[jM]at aZ;rw[hny]at dI;have d3:W.cell? ⟨b1,1,none⟩=some v3:=by simp[World.cell?,aZ]
   have d4:W.cell? ⟨b2,1,none⟩=some v4:=by simp[World.cell?,dI]
   have d5:W.cell? ⟨b1,0,none⟩=some (.int .i64 (una x).n):=by simp[World.cell?,aZ]
   have d6:W.cell? ⟨b2,0,none⟩=some (.int .i64 (una y).n):=by simp[World.cell?,dI]
   have sM:=Z (show∀w',Ok w S D obj rs K E (r+1) w'->Fr S rs (r+1) W w'->Calls prog 121 #[ptr cb,v3,v4,p] w' (aV w S D obj rs K E (r+1) w' λv _=>v=.bool ((fs w K).id e3 e4))from λw' g1 g2=>kV HI.1 H.1 xk FA (iP _ (by rw[gx];simp)).1 (iQ _ (by rw[gy];simp)).1 (by have:=(iP e3 (by rw[gx];simp)).2;omega) (by have:=(iQ e4 (by rw[gy];simp)).2;omega) g1 g2);have bo:(fs w K).id x y=((una x).n==(una y).n&&(fs w K).id e3 e4):=by rw[pV.1];unfold K7;simp[isIf,hk,iO,gx,gy,idL]
   obtain⟨q3,rfl, -⟩:=id xk;obtain⟨q4,rfl, -⟩:=id FA;have JD:¬(una x).n<0:=by have:=UP Ea.1 hk;omega
   have hz4:¬(una y).n<0:=by have:=UP Am.1 iO;omega
   have hz5:((una x).n<0)=False:=eq_false JD;have hz6:((una y).n<0)=False:=eq_false hz4;have hz7:decide ((una x).n<0)=false:=decide_eq_false JD;have hz8:decide ((una y).n<0)=false:=decide_eq_false hz4;have hS:=Z (show∀w',(Ok w S D obj rs K E (r+1) w'/\Fr S rs (r+1) W w')->(Ok w S D obj rs K E (r+1) w'/\Fr S rs (r+1) W w')/\w'.cell? ⟨b1,1,none⟩=some (.iface (tid e3.kind) (ptr q3))/\w'.cell? ⟨b2,1,none⟩=some (.iface (tid e4.kind) (ptr q4))/\w'.cell? ⟨b1,0,none⟩=some (.int .i64 (una x).n)/\w'.cell? ⟨b2,0,none⟩=some (.int .i64 (una y).n)from λw' h=>⟨h,h.2.fU cz wQ d3,h.2.fU eX xj d4,h.2.fU cz wQ d5,h.2.fU eX xj d6⟩);clear aZ dI xk FA jM hny;clear qe wP xi lG wQ xj iP iQ CM xm gx gy cz eX dr fx cj fK;by_cases jF:(una x).n=(una y).n
   ·have Qo:((una x).n==(una y).n)=true:=by simpa using jF
    have bM:=Z (show(fs w K).id x y=(fs w K).id e3 e4 by rw[bo,Qo];rfl);clear bo jF;go_wp2_with fail;refine jQ9 (S:=(λw'=>(Ok w S D obj rs K E (r+1) w'/\Fr S rs (r+1) W w')/\w'.cell? ⟨b1,1,none⟩=some (.iface (tid e3.kind) (ptr q3))/\w'.cell? ⟨b2,1,none⟩=some (.iface (tid e4.kind) (ptr q4))/\w'.cell? ⟨b1,0,none⟩=some (.int .i64 (una x).n)/\w'.cell? ⟨b2,0,none⟩=some (.int .i64 (una y).n))) g9 (hS.1 _ ⟨H.1.ok.below HE.1.hs (jQ5 _ _).drew,Below.fr (jQ5 _ _).drew⟩) (λai=>?_);refine t4 0 1 2 3 ?_;refine t4 4 5 6 7 ?_;refine t4 8 9 10 11 ?_;refine t4 12 13 14 15 ?_;refine t4 16 17 18 19 ?_;refine t4 20 21 22 23 ?_;refine t4 24 25 26 27 ?_;refine t4 28 29 30 31 ?_;refine t2 32 33 ?_;refine rd 34 rfl λK hK=>?_;go_simp;have hh:=ai.1;clear ai;refine(sM.1 _ hh.1 hh.2).mono ?_;rintro eA wA ⟨vA,rfl,rfl,g1,g2⟩;have gE:=tC.1 _ _ hh.2 g1 g2;refine hK.out _ _ (hS.1 _ gE) (λai=>?_);clear hh gE g1 g2;clear hK K;refine t2 35 36 ?_;exact M22
   ·have Hy:((una x).n==(una y).n)=false:=by simpa using jF
    have bM:=Z (show(fs w K).id x y=false by rw[bo,Hy];rfl);clear bo;go_wp2_with fail;refine jQ9 (S:=(λw'=>(Ok w S D obj rs K E (r+1) w'/\Fr S rs (r+1) W w')/\w'.cell? ⟨b1,1,none⟩=some (.iface (tid e3.kind) (ptr q3))/\w'.cell? ⟨b2,1,none⟩=some (.iface (tid e4.kind) (ptr q4))/\w'.cell? ⟨b1,0,none⟩=some (.int .i64 (una x).n)/\w'.cell? ⟨b2,0,none⟩=some (.int .i64 (una y).n))) g9 (hS.1 _ ⟨H.1.ok.below HE.1.hs (jQ5 _ _).drew,Below.fr (jQ5 _ _).drew⟩) (λai=>?_);refine t4 0 1 2 3 ?_;refine t4 4 5 6 7 ?_;refine t4 8 9 10 11 ?_;refine t4 12 13 14 15 ?_;refine t4 16 17 18 19 ?_;refine t4 20 21 22 23 ?_;refine bg 24 ?_;refine bg 25 ?_;refine bg 26 ?_;refine bg 27 ?_;refine bg 28 ?_;refine bg 29 ?_;refine bg 30 ?_;refine bg 31 ?_;refine bg 32 ?_;refine bg 33 ?_;refine bg 34 ?_;refine t2 35 36 ?_;exact M22
  ·have K9:¬(tid (una y).kind=127):=(λh=>by rcases de (una y).kind with g|g|g|g|g|g|g|g|g|g|g|g<;>first|exact iO g.1|(rw[g.2]at h;exact absurd h i5));have fp:=cM (tid (una y).kind) (ptr b2) 37 W K9;exact M8
theorem Zg(hE:Env NS Q w rs cs)(hI:sv NS Q w S D obj rs K r)(hr:r+1<=K)(h:O5 NS Q w S D obj rs K (r+1) E W cb u v x y p q)(hk:(una x).kind=9):
 Calls prog 121 #[ptr cb,u,v,p] W (aV w S D obj rs K E (r+1) W λv _=>v=.bool ((fs w K).id x y)):=by
 have aF:=aS h.ok.gh h.tu;have aD:=aS h.ok.gh h.tv;obtain⟨ux,jx, -⟩:=cJ hE.qp h.px;obtain⟨uy,jy, -⟩:=cJ hE.qp h.py;replace jx:=jx rs false false;replace jy:=jy rs false false;have hid:=lu hE hr h.px h.py (by have:=h.rx;have:=h.qr;omega) (by have:=h.ry;have:=h.qr;omega);have c0:W.cell? ⟨cb,0,none⟩=some (.bool false):=by simp[World.cell?,h.cb.2]
 have c1:W.cell? ⟨cb,1,none⟩=some (.bool false):=by simp[World.cell?,h.cb.2]
 obtain⟨H,HE,HI,pV,Ea,Am,tC⟩:=Z7 h hE hI hid ux uy (show∀w1 w2,Fr S rs (r+1) W w1->Ok w S D obj rs K E (r+1) w2->Fr S rs (r+1) w1 w2->(Ok w S D obj rs K E (r+1) w2/\Fr S rs (r+1) W w2)from λ_ _ h1 h2 h3=>⟨h2,bZ.trans h1 h3⟩);clear h hE hI hid ux uy;have hX:tid (una x).kind=135:=by rw[hk];rfl
 go_enter func121,ntmps121;go_wp2_with fail;refine aF.mono ?_;rintro e' w' ⟨v1,rfl,dr,hw⟩;replace hw:=hw.symm;subst hw;go_wp2_with fail;refine aD.mono ?_;rintro e' w' ⟨v2,rfl,fx,hw⟩;replace hw:=hw.symm;subst hw;obtain⟨b1,rfl,cz⟩:=id dr;obtain⟨b2,rfl,eX⟩:=id fx;obtain⟨rr,heq,cj,fK⟩:=sL H.1.ok.gh dr fx;rw[hX]at heq⊢;cases rr with
 |true=>
  exact M5
 |false=>
  clear aF aD;have dB:=aY 135 (ptr b1) 37 W i5;have fX:=cM 135 (ptr b1) 37 W i5;have pj:=gz 135 (ptr b1) 37 W i5;have eW:=bd 135 (ptr b1) 37 W i5;have dn:=aT 135 (ptr b1) 37 W i5;have zT:=mH 135 (ptr b1) 37 W i5;have rJ:=im 135 (ptr b1) 37 W i5;have GL:=mG 135 (ptr b1) 37 W i5;have gn:=aP 135 (ptr b1) 37 W i5;have afu:=BO 135 (ptr b1) 37 W i5;by_cases iO:(una y).kind=9
  ·have hY:tid (una y).kind=135:=by rw[iO];rfl
   rw[hY]at heq⊢;have qe:=aW (t:=una x) m9 m9 m9 m9;have wP:=aW (t:=una y) m9 m9 m9 m9;have xi:(aG (una x)).kind=(una x).kind:=aI m9;have lG:(aG (una y)).kind=(una y).kind:=aI m9;have wQ:isIf (aG (una x))=false:=by rw[iI m9];simp[isIf,hk]
   have xj:isIf (aG (una y))=false:=by rw[iI m9];simp[isIf,iO]
   have iP:=dH (rs:=rs) Ea.1 m9;have iQ:=dH (rs:=rs) Am.1 m9;obtain⟨v3,e3,gx,aZ,xk⟩:=(H.1.ok.gh.node b1 _ cz).2.2.2.2.2.2.2.2.1 (by rw[xi];exact hk);obtain⟨v4,e4,gy,dI,FA⟩:=(H.1.ok.gh.node b2 _ eX).2.2.2.2.2.2.2.2.1 (by rw[lG];exact iO);have CM:(aG (una x)).elems=(una x).elems:=by rw[qe];rfl
   have xm:(aG (una y)).elems=(una y).elems:=by rw[wP];rfl
   have jM:(aG (una x)).n=(una x).n:=by rw[qe];rfl
   have hny:(aG (una y)).n=(una y).n:=by rw[wP];rfl
   rw[CM]at gx;rw[xm]at gy;rw[jM]at aZ;rw[hny]at dI;have d3:W.cell? ⟨b1,1,none⟩=some v3:=by simp[World.cell?,aZ]
   have d4:W.cell? ⟨b2,1,none⟩=some v4:=by simp[World.cell?,dI]
   have d5:W.cell? ⟨b1,0,none⟩=some (.int .i64 (una x).n):=by simp[World.cell?,aZ]
   have d6:W.cell? ⟨b2,0,none⟩=some (.int .i64 (una y).n):=by simp[World.cell?,dI]
   have sM:=Z (show∀w',Ok w S D obj rs K E (r+1) w'->Fr S rs (r+1) W w'->Calls prog 121 #[ptr cb,v3,v4,p] w' (aV w S D obj rs K E (r+1) w' λv _=>v=.bool ((fs w K).id e3 e4))from λw' g1 g2=>kV HI.1 H.1 xk FA (iP _ (by rw[gx];simp)).1 (iQ _ (by rw[gy];simp)).1 (by have:=(iP e3 (by rw[gx];simp)).2;omega) (by have:=(iQ e4 (by rw[gy];simp)).2;omega) g1 g2);have bo:(fs w K).id x y=((una x).n==(una y).n&&(fs w K).id e3 e4):=by rw[pV.1];unfold K7;simp[isIf,hk,iO,gx,gy,idL]
   obtain⟨q3,rfl, -⟩:=id xk;obtain⟨q4,rfl, -⟩:=id FA;have hS:=Z (show∀w',(Ok w S D obj rs K E (r+1) w'/\Fr S rs (r+1) W w')->(Ok w S D obj rs K E (r+1) w'/\Fr S rs (r+1) W w')/\w'.cell? ⟨b1,1,none⟩=some (.iface (tid e3.kind) (ptr q3))/\w'.cell? ⟨b2,1,none⟩=some (.iface (tid e4.kind) (ptr q4))/\w'.cell? ⟨b1,0,none⟩=some (.int .i64 (una x).n)/\w'.cell? ⟨b2,0,none⟩=some (.int .i64 (una y).n)from λw' h=>⟨h,h.2.fU cz wQ d3,h.2.fU eX xj d4,h.2.fU cz wQ d5,h.2.fU eX xj d6⟩);clear aZ dI xk FA jM hny;clear qe wP xi lG wQ xj iP iQ CM xm gx gy cz eX dr fx cj fK;by_cases jF:(una x).n=(una y).n
   ·have Qo:((una x).n==(una y).n)=true:=by simpa using jF
    have bM:=Z (show(fs w K).id x y=(fs w K).id e3 e4 by rw[bo,Qo];rfl);clear bo jF;go_wp2_with fail;refine jQ9 (S:=(λw'=>(Ok w S D obj rs K E (r+1) w'/\Fr S rs (r+1) W w')/\w'.cell? ⟨b1,1,none⟩=some (.iface (tid e3.kind) (ptr q3))/\w'.cell? ⟨b2,1,none⟩=some (.iface (tid e4.kind) (ptr q4))/\w'.cell? ⟨b1,0,none⟩=some (.int .i64 (una x).n)/\w'.cell? ⟨b2,0,none⟩=some (.int .i64 (una y).n))) g9 (hS.1 _ ⟨H.1.ok.below HE.1.hs (jQ5 _ _).drew,Below.fr (jQ5 _ _).drew⟩) (λai=>?_);refine t4 0 1 2 3 ?_;refine t4 4 5 6 7 ?_;refine t4 8 9 10 11 ?_;refine t4 12 13 14 15 ?_;refine t4 16 17 18 19 ?_;refine rd 20 rfl λK hK=>?_;go_simp;have hh:=ai.1;clear ai;refine(sM.1 _ hh.1 hh.2).mono ?_;rintro eA wA ⟨vA,rfl,rfl,g1,g2⟩;have gE:=tC.1 _ _ hh.2 g1 g2;refine hK.out _ _ (hS.1 _ gE) (λai=>?_);clear hh gE g1 g2;clear hK K;refine t2 21 22 ?_;exact M22
   ·have Hy:((una x).n==(una y).n)=false:=by simpa using jF
    have bM:=Z (show(fs w K).id x y=false by rw[bo,Hy];rfl);clear bo;go_wp2_with fail;refine jQ9 (S:=(λw'=>(Ok w S D obj rs K E (r+1) w'/\Fr S rs (r+1) W w')/\w'.cell? ⟨b1,1,none⟩=some (.iface (tid e3.kind) (ptr q3))/\w'.cell? ⟨b2,1,none⟩=some (.iface (tid e4.kind) (ptr q4))/\w'.cell? ⟨b1,0,none⟩=some (.int .i64 (una x).n)/\w'.cell? ⟨b2,0,none⟩=some (.int .i64 (una y).n))) g9 (hS.1 _ ⟨H.1.ok.below HE.1.hs (jQ5 _ _).drew,Below.fr (jQ5 _ _).drew⟩) (λai=>?_);refine t4 0 1 2 3 ?_;refine t4 4 5 6 7 ?_;refine t2 8 9 ?_;refine bg 10 ?_;refine bg 11 ?_;refine bg 12 ?_;refine bg 13 ?_;refine bg 14 ?_;refine bg 15 ?_;refine bg 16 ?_;refine bg 17 ?_;refine bg 18 ?_;refine bg 19 ?_;refine bg 20 ?_;refine t2 21 22 ?_;exact M22
  ·have K9:¬(tid (una y).kind=135):=(λh=>by rcases de (una y).kind with g|g|g|g|g|g|g|g|g|g|g|g<;>first|exact iO g.1|(rw[g.2]at h;exact absurd h i5));have fp:=ed (tid (una y).kind) (ptr b2) 37 W K9;exact M8
theorem ack(hE:Env NS Q w rs cs)(hI:sv NS Q w S D obj rs K r)(hr:r+1<=K)(h:O5 NS Q w S D obj rs K (r+1) E W cb u v x y p q)(hk:(una x).kind=8):
 Calls prog 121 #[ptr cb,u,v,p] W (aV w S D obj rs K E (r+1) W λv _=>v=.bool ((fs w K).id x y)):=by
 have aF:=aS h.ok.gh h.tu;have aD:=aS h.ok.gh h.tv;obtain⟨ux,jx, -⟩:=cJ hE.qp h.px;obtain⟨uy,jy, -⟩:=cJ hE.qp h.py;replace jx:=jx rs false false;replace jy:=jy rs false false;have hid:=lu hE hr h.px h.py (by have:=h.rx;have:=h.qr;omega) (by have:=h.ry;have:=h.qr;omega);have c0:W.cell? ⟨cb,0,none⟩=some (.bool false):=by simp[World.cell?,h.cb.2]
 have c1:W.cell? ⟨cb,1,none⟩=some (.bool false):=by simp[World.cell?,h.cb.2]
 obtain⟨H,HE,HI,pV,Ea,Am,tC⟩:=Z7 h hE hI hid ux uy (show∀w1 w2,Fr S rs (r+1) W w1->Ok w S D obj rs K E (r+1) w2->Fr S rs (r+1) w1 w2->(Ok w S D obj rs K E (r+1) w2/\Fr S rs (r+1) W w2)from λ_ _ h1 h2 h3=>⟨h2,bZ.trans h1 h3⟩);clear h hE hI hid ux uy;have hX:tid (una x).kind=133:=by rw[hk];rfl
 go_enter func121,ntmps121;go_wp2_with fail;refine aF.mono ?_;rintro e' w' ⟨v1,rfl,dr,hw⟩;replace hw:=hw.symm;subst hw;go_wp2_with fail;refine aD.mono ?_;rintro e' w' ⟨v2,rfl,fx,hw⟩;replace hw:=hw.symm;subst hw;obtain⟨b1,rfl,cz⟩:=id dr;obtain⟨b2,rfl,eX⟩:=id fx;obtain⟨rr,heq,cj,fK⟩:=sL H.1.ok.gh dr fx;rw[hX]at heq⊢;cases rr with
 |true=>
  exact M5
 |false=>
  clear aF aD;have dB:=aY 133 (ptr b1) 37 W i5;have fX:=cM 133 (ptr b1) 37 W i5;have pj:=gz 133 (ptr b1) 37 W i5;have eW:=bd 133 (ptr b1) 37 W i5;have dn:=aT 133 (ptr b1) 37 W i5;have zT:=mH 133 (ptr b1) 37 W i5;have rJ:=im 133 (ptr b1) 37 W i5;have GL:=mG 133 (ptr b1) 37 W i5;have gn:=aP 133 (ptr b1) 37 W i5;by_cases iO:(una y).kind=8
  ·have hY:tid (una y).kind=133:=by rw[iO];rfl
   rw[hY]at heq⊢;have qe:=aW (t:=una x) m9 m9 m9 m9;have wP:=aW (t:=una y) m9 m9 m9 m9;have xi:(aG (una x)).kind=(una x).kind:=aI m9;have lG:(aG (una y)).kind=(una y).kind:=aI m9;have wQ:isIf (aG (una x))=false:=by rw[iI m9];simp[isIf,hk]
   have xj:isIf (aG (una y))=false:=by rw[iI m9];simp[isIf,iO]
   have iP:=dH (rs:=rs) Ea.1 m9;have iQ:=dH (rs:=rs) Am.1 m9;obtain⟨v3,u3,k3,e3,gx,aZ,xk,tu3⟩:=(H.1.ok.gh.node b1 _ cz).2.2.2.2.2.2.2.1 (by rw[xi];exact hk);obtain⟨v4,u4,k4,e4,gy,dI,FA,tu4⟩:=(H.1.ok.gh.node b2 _ eX).2.2.2.2.2.2.2.1 (by rw[lG];exact iO);have CM:(aG (una x)).elems=(una x).elems:=by rw[qe];rfl
   have xm:(aG (una y)).elems=(una y).elems:=by rw[wP];rfl
   rw[CM]at gx;rw[xm]at gy;have d3:W.cell? ⟨b1,0,none⟩=some v3:=by simp[World.cell?,aZ]
   have d4:W.cell? ⟨b2,0,none⟩=some v4:=by simp[World.cell?,dI]
   have d5:W.cell? ⟨b1,1,none⟩=some u3:=by simp[World.cell?,aZ]
   have d6:W.cell? ⟨b2,1,none⟩=some u4:=by simp[World.cell?,dI]
   have sM:=Z (show∀w',Ok w S D obj rs K E (r+1) w'->Fr S rs (r+1) W w'->Calls prog 121 #[ptr cb,v3,v4,p] w' (aV w S D obj rs K E (r+1) w' λv _=>v=.bool ((fs w K).id k3 k4))from λw' g1 g2=>kV HI.1 H.1 xk FA (iP _ (by rw[gx];simp)).1 (iQ _ (by rw[gy];simp)).1 (by have:=(iP k3 (by rw[gx];simp)).2;omega) (by have:=(iQ k4 (by rw[gy];simp)).2;omega) g1 g2);have HCE:=Z (show∀w',Ok w S D obj rs K E (r+1) w'->Fr S rs (r+1) W w'->Calls prog 121 #[ptr cb,u3,u4,p] w' (aV w S D obj rs K E (r+1) w' λv _=>v=.bool ((fs w K).id e3 e4))from λw' g1 g2=>kV HI.1 H.1 tu3 tu4 (iP _ (by rw[gx];simp)).1 (iQ _ (by rw[gy];simp)).1 (by have:=(iP e3 (by rw[gx];simp)).2;omega) (by have:=(iQ e4 (by rw[gy];simp)).2;omega) g1 g2);have bo:(fs w K).id x y=((fs w K).id k3 k4&&(fs w K).id e3 e4):=by rw[pV.1];unfold K7;simp[isIf,hk,iO,gx,gy,idL]
   obtain⟨q3,rfl, -⟩:=id xk;obtain⟨q4,rfl, -⟩:=id FA;obtain⟨q5,rfl, -⟩:=id tu3;obtain⟨q6,rfl, -⟩:=id tu4;have hS:=Z (show∀w',(Ok w S D obj rs K E (r+1) w'/\Fr S rs (r+1) W w')->(Ok w S D obj rs K E (r+1) w'/\Fr S rs (r+1) W w')/\w'.cell? ⟨b1,0,none⟩=some (.iface (tid k3.kind) (ptr q3))/\w'.cell? ⟨b2,0,none⟩=some (.iface (tid k4.kind) (ptr q4))/\w'.cell? ⟨b1,1,none⟩=some (.iface (tid e3.kind) (ptr q5))/\w'.cell? ⟨b2,1,none⟩=some (.iface (tid e4.kind) (ptr q6))from λw' h=>⟨h,h.2.fU cz wQ d3,h.2.fU eX xj d4,h.2.fU cz wQ d5,h.2.fU eX xj d6⟩);clear aZ dI xk FA tu3 tu4;clear qe wP xi lG wQ xj iP iQ CM xm gx gy cz eX dr fx cj fK;cases fP:(fs w K).id k3 k4 with
   |true=>
    rw[fP]at sM;have bM:=Z (show(fs w K).id x y=(fs w K).id e3 e4 by rw[bo,fP];rfl);clear bo fP;go_wp2_with fail;refine jQ9 (S:=(λw'=>(Ok w S D obj rs K E (r+1) w'/\Fr S rs (r+1) W w')/\w'.cell? ⟨b1,0,none⟩=some (.iface (tid k3.kind) (ptr q3))/\w'.cell? ⟨b2,0,none⟩=some (.iface (tid k4.kind) (ptr q4))/\w'.cell? ⟨b1,1,none⟩=some (.iface (tid e3.kind) (ptr q5))/\w'.cell? ⟨b2,1,none⟩=some (.iface (tid e4.kind) (ptr q6)))) g9 (hS.1 _ ⟨H.1.ok.below HE.1.hs (jQ5 _ _).drew,Below.fr (jQ5 _ _).drew⟩) (λai=>?_);refine t4 0 1 2 3 ?_;refine t4 4 5 6 7 ?_;refine t2 8 9 ?_;refine rd 10 rfl λK hK=>?_;go_simp;have hh:=ai.1;clear ai;refine(sM.1 _ hh.1 hh.2).mono ?_;rintro eA wA ⟨vA,rfl,rfl,g1,g2⟩;have gE:=tC.1 _ _ hh.2 g1 g2;refine hK.out _ _ (hS.1 _ gE) (λai=>?_);clear hh gE g1 g2;clear hK K;refine t4 11 12 13 14 ?_;refine t4 15 16 17 18 ?_;refine t2 19 20 ?_;refine tk 21 ?_;refine rd 22 rfl λK hK=>?_;go_simp;have hh:=ai.1;clear ai;refine(HCE.1 _ hh.1 hh.2).mono ?_;rintro eA wA ⟨vA,rfl,rfl,g1,g2⟩;have gE:=tC.1 _ _ hh.2 g1 g2;refine hK.out _ _ (hS.1 _ gE) (λai=>?_);clear hh gE g1 g2;clear hK K;refine t2 23 24 ?_;exact M22
   |false=>
    rw[fP]at sM;have bM:=Z (show(fs w K).id x y=false by rw[bo,fP];rfl);clear bo fP;go_wp2_with fail;refine jQ9 (S:=(λw'=>(Ok w S D obj rs K E (r+1) w'/\Fr S rs (r+1) W w')/\w'.cell? ⟨b1,0,none⟩=some (.iface (tid k3.kind) (ptr q3))/\w'.cell? ⟨b2,0,none⟩=some (.iface (tid k4.kind) (ptr q4))/\w'.cell? ⟨b1,1,none⟩=some (.iface (tid e3.kind) (ptr q5))/\w'.cell? ⟨b2,1,none⟩=some (.iface (tid e4.kind) (ptr q6)))) g9 (hS.1 _ ⟨H.1.ok.below HE.1.hs (jQ5 _ _).drew,Below.fr (jQ5 _ _).drew⟩) (λai=>?_);refine t4 0 1 2 3 ?_;refine t4 4 5 6 7 ?_;refine t2 8 9 ?_;refine rd 10 rfl λK hK=>?_;go_simp;have hh:=ai.1;clear ai;refine(sM.1 _ hh.1 hh.2).mono ?_;rintro eA wA ⟨vA,rfl,rfl,g1,g2⟩;have gE:=tC.1 _ _ hh.2 g1 g2;refine hK.out _ _ (hS.1 _ gE) (λai=>?_);clear hh gE g1 g2;clear hK K;refine tk 11 ?_;refine bg 12 ?_;refine bg 13 ?_;refine bg 14 ?_;refine bg 15 ?_;refine bg 16 ?_;refine bg 17 ?_;refine bg 18 ?_;refine bg 19 ?_;refine bg 20 ?_;refine bg 21 ?_;refine bg 22 ?_;refine t2 23 24 ?_;exact M22
  ·have K9:¬(tid (una y).kind=133):=(λh=>by rcases de (una y).kind with g|g|g|g|g|g|g|g|g|g|g|g<;>first|exact iO g.1|(rw[g.2]at h;exact absurd h i5));have fp:=BO (tid (una y).kind) (ptr b2) 37 W K9;exact M8
theorem UT(hE:Env NS Q w rs cs)(hI:sv NS Q w S D obj rs K r)(hr:r+1<=K)(h:O5 NS Q w S D obj rs K (r+1) E W cb u v x y p q)(hk:cI (una x)):
 Calls prog 121 #[ptr cb,u,v,p] W (aV w S D obj rs K E (r+1) W λv _=>v=.bool ((fs w K).id x y)):=by
 have aF:=aS h.ok.gh h.tu;have aD:=aS h.ok.gh h.tv;obtain⟨ux,jx, -⟩:=cJ hE.qp h.px;obtain⟨uy,jy, -⟩:=cJ hE.qp h.py;replace jx:=jx rs false false;replace jy:=jy rs false false;have hid:=lu hE hr h.px h.py (by have:=h.rx;have:=h.qr;omega) (by have:=h.ry;have:=h.qr;omega);have c0:W.cell? ⟨cb,0,none⟩=some (.bool false):=by simp[World.cell?,h.cb.2]
 have c1:W.cell? ⟨cb,1,none⟩=some (.bool false):=by simp[World.cell?,h.cb.2]
 obtain⟨H,HE,HI,pV,Ea,Am,tC⟩:=Z7 h hE hI hid ux uy (show∀w1 w2,Fr S rs (r+1) W w1->Ok w S D obj rs K E (r+1) w2->Fr S rs (r+1) w1 w2->(Ok w S D obj rs K E (r+1) w2/\Fr S rs (r+1) W w2)from λ_ _ h1 h2 h3=>⟨h2,bZ.trans h1 h3⟩);clear h hE hI hid ux uy;have hX:tid (una x).kind=53:=by rcases hk with h|h|h<;>rw[h]<;>rfl
 go_enter func121,ntmps121;go_wp2_with fail;refine aF.mono ?_;rintro e' w' ⟨v1,rfl,dr,hw⟩;replace hw:=hw.symm;subst hw;go_wp2_with fail;refine aD.mono ?_;rintro e' w' ⟨v2,rfl,fx,hw⟩;replace hw:=hw.symm;subst hw;obtain⟨b1,rfl,cz⟩:=id dr;obtain⟨b2,rfl,eX⟩:=id fx;obtain⟨rr,heq,cj,fK⟩:=sL H.1.ok.gh dr fx;rw[hX]at heq⊢;cases rr with
 |true=>
  exact M5
 |false=>
  clear aF aD;have dB:=aY 53 (ptr b1) 37 W i5;have fX:=cM 53 (ptr b1) 37 W i5;have pj:=gz 53 (ptr b1) 37 W i5;have eW:=bd 53 (ptr b1) 37 W i5;have dn:=aT 53 (ptr b1) 37 W i5;have zT:=mH 53 (ptr b1) 37 W i5;have rJ:=im 53 (ptr b1) 37 W i5;have GL:=mG 53 (ptr b1) 37 W i5;have gn:=aP 53 (ptr b1) 37 W i5;have afu:=BO 53 (ptr b1) 37 W i5;have jY:=ed 53 (ptr b1) 37 W i5;by_cases iO:cI (una y)
  ·have hY:tid (una y).kind=53:=by rcases iO with h|h|h<;>rw[h]<;>rfl
   rw[hY]at heq⊢fK;have mO:b1≠b2:=by rintro rfl;simp[hX]at fK
   obtain⟨JX,afv⟩:=aft (w:=w) (F:=fs w K) H.1.ok.gh cz eX hk iO mO;have gO:=Ze (W:=W) b2;have acm:=GK H.1.ok.gh cz eX hk iO afv;have bM:=Z (show(fs w K).id x y=false by rw[pV.1];exact JX);have HQ:=Z (show∀n,Ok w S D obj rs K E (r+1) (W.drewN n)/\Fr S rs (r+1) W (W.drewN n)from λn=>⟨H.1.ok.below HE.1.hs (jRb (jQ5 _ _) n),Below.fr (jRb (jQ5 _ _) n)⟩);clear cz eX dr fx cj fK JX afv hk iO;go_wp2_with fail;refine rv gO ?_;go_wp2_with fail;refine acm.mono ?_;rintro e' w' ⟨rfl,m,rfl⟩;go_wp2_with fail;go_ret;exact⟨_,rfl,by rw[bM.1];rfl,(HQ.1 m).1,(HQ.1 m).2⟩
  ·have gO:=ach (W:=W) (tid (una y).kind) b2 (Zf (cJ HE.1.qp H.1.py).2.2.2.1) (Ov iO (gR Am.1).1 (by have:=(gR Am.1).2;omega));have bo:(fs w K).id x y=false:=by rw[pV.1];exact l3 (by unfold cI at hk iO;omega) (by intro hh;have:=dw hh.1;unfold cI at hk;omega)
   have HP:=Z (show aV w S D obj rs K E (r+1) W (λv _=>v=.bool ((fs w K).id x y)) (.returned (.bool false)) W from⟨_,rfl,by rw[bo],H.1.ok,Fr.refl _⟩);have hnoT:=mh 53 (ptr b1) 37 W i5;generalize tid (una y).kind=TY at*;clear bo cj fK dr fx cz eX;go_wp2_with fail;refine rv gO ?_;exact M13
theorem nE.uniq{nm Wf:ByteArray}(h:nE S D W nm t p)(h':nE S D W Wf t' p):dX t t':=by
 obtain⟨b,pos,pk,v,k,rfl, -,h1,h2⟩:=h;obtain⟨b',pos',F0,v',k',e, -,h3,h4⟩:=h';simp at e;subst e;rw[h1]at h3;simp at h3;obtain⟨-, -, -,rfl, -⟩:=h3;exact h2.uniq h4
theorem I9{id:GT->GT->Bool}:∀{l l':List GT},All2 dX l l'->(∀a∈l,∀b,dX a b->id a b=true)->idL id l l'=true
 |[],[],_,_=>rfl
 |a::l,b::l',h,hi=>by rw[idL,hi a i6 b h.1,I9 h.2 λx hx=>hi x (by simp[hx])];rfl
 |[],_::_,h,_=>h.elim
 |_::_,[],h,_=>h.elim
theorem NL{id:GT->GT->Bool}:∀{l l':List GT},l.length≠l'.length->idL id l l'=false
 |[],[],h=>absurd rfl h
 |a::l,b::l',h=>by rw[idL,NL (by simpa using h),Bool.and_false]
 |[],_::_,_=>rfl
 |_::_,[],_=>rfl
theorem EB{D:Nat->Prop}:∀{l l':List GT} {ps:List Value},All2 (λe p=>∃nm,nE S D W nm e p) l ps->All2 (λe p=>∃nm,nE S D W nm e p) l' ps->All2 dX l l'
 |[],[],[],_,_=>trivial
 |a::l,b::l',p::ps,h,h'=>by
  obtain⟨n1,h1⟩:=h.1;obtain⟨n2,h2⟩:=h'.1;exact⟨h1.uniq h2,EB h.2 h'.2⟩
 |[],_::_,[],_,h=>h.elim
 |[],_,_::_,h,_=>h.elim
 |_::_,_,[],h,_=>h.elim
 |_::_,[],_::_,_,h=>h.elim
theorem eE.uniq{xs ys:List Value}(h:eE D W xs sl)(h':eE D W ys sl):xs=ys:=by
 have hl:xs.length=ys.length:=by
  obtain⟨a,c,rfl⟩:=h.form;obtain⟨a',c',e⟩:=h'.form;simp at e;exact e.2.1
 rcases h with⟨rfl,_⟩|⟨h1,b,o,c,rfl,_,_,_,h6⟩
 ·exact(jQe hl.symm).symm
 ·rcases h' with⟨rfl,_⟩|⟨_,b',o',c',e,_,_,_,h6'⟩
  ·simp at hl;exact absurd hl h1
  ·simp at e;obtain⟨⟨rfl,rfl⟩, -⟩:=e;apply List.ext_getElem?;intro j;by_cases hj:j<xs.length
   ·have e1:xs[j]?=some xs[j]:=by simp[hj]
    have e2:ys[j]?=some (ys[j]' m9):=by simp[show j<ys.length by omega]
    have:=(h6 j _ e1).symm.trans (h6' j _ e2);rw[e1,e2,this]
   ·rw[jQx m9,jQx m9]
theorem sk.uniq(h:sk S D W l (ptr b))(h':sk S D W l' (ptr b)):All2 dX l l':=by
 rcases h with⟨_,e⟩|⟨_,b1,sl,ps,e,_,h1,h2,h3⟩
 ·cases e
 rcases h' with⟨_,e'⟩|⟨_,b2,sl',wO,e',_,Q8,Is,h3'⟩
 ·cases e'
 simp at e e';subst e;subst e';rw[h1]at Q8;simp at Q8;subst Q8;have:=h2.uniq Is;subst this;exact EB h3 h3'
theorem ED(T:TypeId)(pv:Value)(h:T≠125):Calls prog 100 #[.iface T pv] W (dL W (.iface T pv)):=by
 have fp:=my T pv 37 W h;exact M197
theorem vI(h:sk S D W l p):Calls prog 147 #[p] W (dL W (.int .i64 l.length)):=by
 rcases h with⟨rfl,rfl⟩|⟨_,b,sl,ps,rfl, -,h1,h2,h3⟩
 ·go_enter func147,ntmps147;exact M9
 ·obtain⟨a,c,rfl⟩:=h2.form;have c0:=jQh h1;have hl:=h3.len;rw[hl];clear h1 h2 h3 hl;go_enter func147,ntmps147;exact M9
theorem Tq(w:World):(binOp .eql 37 (.iface 91 (.pointer none)) (.iface 91 (.pointer none))).run prog w=.ok (.bool true) w:=g9
theorem Tr(b:Nat)(w:World):(binOp .eql 37 (.iface 91 (.pointer none)) (.iface 91 (ptr b))).run prog w=.ok (.bool false) w:=g9
theorem Ts(b:Nat)(w:World):(binOp .eql 37 (.iface 91 (ptr b)) (.iface 91 (.pointer none))).run prog w=.ok (.bool false) w:=g9
theorem Tt{w:World}{ca cb:Array Value}{ta tb:TypeId}(ha:w.heap[a]?=some (.cells ca ta (0,0)))(hb:w.heap[b]?=some (.cells cb tb (0,0))):(binOp .eql 37 (.iface 91 (ptr a)) (.iface 91 (ptr b))).run prog w=.ok (.bool (a==b)) w:=by
 obtain⟨ms,hm⟩:=EE;obtain⟨te,i,j,h1,h2,h3,h4,h5⟩:=tV X6;have:=Tu (Ja (tq:=91) hm h1 h2 h3 h4 h5 ha hb);exact M150
theorem Jb(hE:Env NS Q w rs cs)(hI:sv NS Q w S D obj rs K r)(hr:r+1<=K)(h:O5 NS Q w S D obj rs K (r+1) E W cb u v x y p q)(g1:Ok w S D obj rs K E (r+1) W1)(g2:Fr S rs (r+1) W W1)(ha:sk S D W1 l pa)(hb:sk S D W1 l' pb)(hl:∀e∈l,PT NS Q w 0 e/\J rs false false e<J rs false false x)(Kn:∀e∈l',PT NS Q w 0 e/\J rs false false e<J rs false false y):
 Calls prog 121 #[ptr cb,.iface 91 pa,.iface 91 pb,p] W1 (aV w S D obj rs K E (r+1) W1 λv _=>v=.bool (idL (fs w K).id l l')):=by
 have aF:=ED (W:=W1) 91 pa i5;have aD:=ED (W:=W1) 91 pb i5;have yB:=vI ha;have Jc:=vI hb;have c1:W1.cell? ⟨cb,1,none⟩=some (.bool false):=by simp[World.cell?,(h.cb.move g2).2]
 have jn:=Z (show∀b:Bool,idL (fs w K).id l l'=b->aV w S D obj rs K E (r+1) W1 (λv _=>v=.bool (idL (fs w K).id l l')) (.returned (.bool b)) W1 from λb hb=>⟨_,rfl,by rw[hb],g1,Fr.refl _⟩);have dB:∀pv,(Instr.typeAssert (.iface 91 pv) 37 87 true).run prog W1=.ok (.tuple #[.pointer none,.bool false]) W1:=λpv=>aY 91 pv 37 W1 i5;have fX:∀pv,(Instr.typeAssert (.iface 91 pv) 37 127 true).run prog W1=.ok (.tuple #[.pointer none,.bool false]) W1:=λpv=>cM 91 pv 37 W1 i5;have pj:∀pv,(Instr.typeAssert (.iface 91 pv) 37 129 true).run prog W1=.ok (.tuple #[.pointer none,.bool false]) W1:=λpv=>gz 91 pv 37 W1 i5;have eW:∀pv,(Instr.typeAssert (.iface 91 pv) 37 161 true).run prog W1=.ok (.tuple #[.pointer none,.bool false]) W1:=λpv=>bd 91 pv 37 W1 i5;have dn:∀pv,(Instr.typeAssert (.iface 91 pv) 37 131 true).run prog W1=.ok (.tuple #[.pointer none,.bool false]) W1:=λpv=>aT 91 pv 37 W1 i5;rcases id ha with⟨rfl,rfl⟩|⟨hla,ba,sla,psa,rfl,hDa,Wn,eD,haa⟩
 ·rcases id hb with⟨rfl,rfl⟩|⟨hlb,bb,slb,psb,rfl,kN,mO,LO,Bh⟩
  ·have heq:=Tq W1;have HP:=Z (jn.1 true rfl);clear ha hb hl Kn h hE hI g1 g2;exact M163
  ·have heq:=Tr bb W1;have HP:=Z (jn.1 false (by cases l' with|nil=>exact absurd rfl hlb|cons a l=>rfl));have hz:¬((0:Int)=(l'.length:Int)):=by cases l' with|nil=>exact absurd rfl hlb|cons a l=>simp;omega
   clear ha hb hl Kn h hE hI g1 g2 mO LO Bh;exact M60
 ·rcases id hb with⟨rfl,rfl⟩|⟨hlb,bb,slb,psb,rfl,kN,mO,LO,Bh⟩
  ·have heq:=Ts ba W1;have HP:=Z (jn.1 false (by cases l with|nil=>exact absurd rfl hla|cons a l=>rfl));have hz:¬((l.length:Int)=(0:Int)):=by cases l with|nil=>exact absurd rfl hla|cons a l=>simp;omega
   clear ha hb hl Kn h hE hI g1 g2 Wn eD haa;exact M60
  ·have heq:=Tt Wn mO;by_cases V0:ba=bb
   ·subst V0;have cj:=ha.uniq hb;have HP:=Z (jn.1 true (I9 cj λa ha b hs=>by
     have:=h.rx;have:=h.qr;have h1:=F9 hE.wk hE.qp (r+1) K hr a (hl a ha).1 (by have:=(hl a ha).2;omega);rw[dX.id (dX.refl a) hs.symm];exact h1))
    have hbt:(ba==ba)=true:=i6
    clear ha hb hl Kn h hE hI g1 g2 Wn eD haa mO LO Bh cj;exact M163
   ·have X7:(ba==bb)=false:=by simpa using V0
    rw[X7]at heq;by_cases rP:l.length=l'.length
    ·obtain⟨a5,d5,rfl⟩:=eD.form;obtain⟨a6,d6,rfl⟩:=LO.form;have k5:=jQh Wn;have k6:=jQh mO;have Kx:=haa.len;have hl6:=Bh.len;have Dk:=eD.max;obtain⟨XS,HRB,Tn,HAB,HL,HL',H,HE⟩:=Z8 eD LO haa Bh hl Kn h hE;obtain⟨HI,G1,G2⟩:=Z3 hI g1 g2;have hsa:S ba=none:=by
      cases hs:S ba with
      |none=>rfl
      |some s=>exact absurd hDa (g1.gh.rS ba s hs)
     have rN:S bb=none:=by
      cases hs:S bb with
      |none=>rfl
      |some s=>exact absurd kN (g1.gh.rS bb s hs)
     have KSA:=Z (show∀w',Fr S rs (r+1) W1 w'->w'.cell? ⟨bb,0,none⟩=some (.slice a6 psb.length d6)from λw' hf=>bZ.cell hf rN k6);have hz:((l.length:Int)=(l'.length:Int)):=by rw[rP]
     rw[rP]at yB;clear ha hb hl Kn h hE hI g1 g2 Wn eD haa mO LO Bh hz;go_enter func121,ntmps121;go_wp2_with fail;refine rv aF ?_;go_wp2_with fail;refine rv aD ?_;go_wp2_with fail;refine rv yB ?_;go_wp2_with fail;refine rv Jc ?_;go_wp2_with fail;clear yB Jc aF aD heq c1
     go_loopg [303] psa.length (λgg s303 wr=>∃kk:Nat,kk<=psa.length/\psa.length - kk<=gg/\s303=.int .i64 kk/\Aside (Ok w S D obj rs K E (r+1) wr)/\Aside (Fr S rs (r+1) W1 wr)/\Aside (idL (fs w K).id (l.drop kk) (l'.drop kk)=idL (fs w K).id l l'))
     case atStart=>exact⟨0,jQc _,m9,rfl,G1.1,Fr.refl _,rfl⟩
     case round=>
      obtain⟨kk,ez,hg,rfl,O,F,A⟩:=hrel;by_cases aM:kk<psa.length
      ·have aR:(kk:Int)<(psa.length:Int):=m9
       have qY:(kk:Int)<(psb.length:Int):=m9
       obtain⟨e,he⟩:∃e,l[kk]?=some e:=⟨l[kk]' m9,by simp[show kk<l.length by omega]⟩;obtain⟨e',oJ⟩:∃e,l'[kk]?=some e:=⟨l'[kk]' m9,by simp[show kk<l'.length by omega]⟩;have kB:=G1.1.gh.eu F.out;obtain⟨p5,kC,n5,oX⟩:=Tn.1.at he;obtain⟨p6,wT,n6,Rh⟩:=HAB.1.at oJ;obtain⟨b7,o7,rfl, -,Lf⟩:=(XS.1.move kB).nth kC;obtain⟨b8,o8,rfl, -,hc8⟩:=(HRB.1.move kB).nth wT;obtain⟨b9,i9,pk9,v9,k9,rfl,CR,sD,Ri⟩:=oX.move (λ_ _ h=>h) kB;obtain⟨jN,i10,Bi,v10,sq,rfl,Ga,vJ,vK⟩:=Rh.move (λ_ _ h=>h) kB;have yu:S b9=none:=M128
       have vL:S jN=none:=M129
       have d9:wr.cell? ⟨b9,3,none⟩=some v9:=by simp[World.cell?,sD]
       have d10:wr.cell? ⟨jN,3,none⟩=some v10:=by simp[World.cell?,vJ]
       have k6r:=KSA.1 wr F.out;have hA:=A.out;rw[cZ he,cZ oJ,idL]at hA;have sM:=Z (show∀w',Ok w S D obj rs K E (r+1) w'->Fr S rs (r+1) wr w'->Calls prog 121 #[ptr cb,v9,v10,p] w' (aV w S D obj rs K E (r+1) w' λv _=>v=.bool ((fs w K).id e e'))from λw' g1 g2=>
        kV HI.1 H.1 Ri vK (HL.1 e (jQ8 he)).1 (HL'.1 e' (jQ8 oJ)).1 (HL.1 e (jQ8 he)).2 (HL'.1 e' (jQ8 oJ)).2 g1 ((G2.1.trans F.out).trans g2))
       have tC:=Z (show∀w1 w2,Fr S rs (r+1) wr w1->Ok w S D obj rs K E (r+1) w2->Fr S rs (r+1) w1 w2->(Ok w S D obj rs K E (r+1) w2/\Fr S rs (r+1) wr w2)from λ_ _ h1 h2 h3=>⟨h2,bZ.trans h1 h3⟩);obtain⟨q9,rfl, -⟩:=id Ri;obtain⟨NM,rfl, -⟩:=id vK;have hS:=Z (show∀w',(Ok w S D obj rs K E (r+1) w'/\Fr S rs (r+1) wr w')->(Ok w S D obj rs K E (r+1) w'/\Fr S rs (r+1) wr w')/\w'.cell? ⟨b9,3,none⟩=some (.iface (tid e.kind) (ptr q9))/\w'.cell? ⟨jN,3,none⟩=some (.iface (tid e'.kind) (ptr NM))from λw' h=>⟨h,bZ.cell h.2 yu d9,bZ.cell h.2 vL d10⟩);have HA:=Z hA;cases fP:(fs w K).id e e' with
       |true=>
        rw[fP]at sM HA;have hA2:=HA.1;rw[jRn]at hA2;have pZ:=Z hA2;clear hA hA2 fP he oJ kB kC oX wT Rh CR sD Ri Ga vJ vK yu vL HA;go_wp2_with fail;refine jQ9 (S:=(λw'=>(Ok w S D obj rs K E (r+1) w'/\Fr S rs (r+1) wr w')/\w'.cell? ⟨b9,3,none⟩=some (.iface (tid e.kind) (ptr q9))/\w'.cell? ⟨jN,3,none⟩=some (.iface (tid e'.kind) (ptr NM)))) g9 (hS.1 _ ⟨O.out.below HE.1.hs (jQ5 _ _).drew,Below.fr (jQ5 _ _).drew⟩) (λai=>?_);refine t4 0 1 2 3 ?_;refine t4 4 5 6 7 ?_;refine t4 8 9 10 11 ?_;refine rd 12 rfl λK hK=>?_;go_simp;have hh:=ai.1;clear ai;refine(sM.1 _ hh.1 hh.2).mono ?_;rintro eA wA ⟨vA,rfl,rfl,g1,g2⟩;have gE:=tC.1 _ _ hh.2 g1 g2;refine hK.out _ _ (hS.1 _ gE) (λai=>?_);clear hh gE g1 g2;clear hK K;refine tk 13 ?_;refine jQl g9 ?_ _;have HH:=Z ai.1;clear ai;go_wp2_with fail;go_roundg (psa.length - (kk+1))
        case measure=>omega
        case rel=>exact⟨kk+1,m9,m9,by go_num,HH.1.1,F.out.trans HH.1.2,pZ.1⟩
       |false=>
        rw[fP]at sM HA;have hA2:=HA.1;rw[Bool.false_and]at hA2;have pZ:=Z hA2.symm;clear hA hA2 fP he oJ kB kC oX wT Rh CR sD Ri Ga vJ vK yu vL HA;go_wp2_with fail;refine jQ9 (S:=(λw'=>(Ok w S D obj rs K E (r+1) w'/\Fr S rs (r+1) wr w')/\w'.cell? ⟨b9,3,none⟩=some (.iface (tid e.kind) (ptr q9))/\w'.cell? ⟨jN,3,none⟩=some (.iface (tid e'.kind) (ptr NM)))) g9 (hS.1 _ ⟨O.out.below HE.1.hs (jQ5 _ _).drew,Below.fr (jQ5 _ _).drew⟩) (λai=>?_);refine t4 0 1 2 3 ?_;refine t4 4 5 6 7 ?_;refine t4 8 9 10 11 ?_;refine rd 12 rfl λK hK=>?_;go_simp;have hh:=ai.1;clear ai;refine(sM.1 _ hh.1 hh.2).mono ?_;rintro eA wA ⟨vA,rfl,rfl,g1,g2⟩;have gE:=tC.1 _ _ hh.2 g1 g2;refine hK.out _ _ (hS.1 _ gE) (λai=>?_);clear hh gE g1 g2;clear hK K;refine tk 13 ?_;refine jQl g9 ?_ _;have HH:=Z ai.1;clear ai;go_wp2_with fail;go_ret;exact⟨_,rfl,by rw[pZ.1];rfl,HH.1.1,F.out.trans HH.1.2⟩
      ·have aR:¬(kk:Int)<(psa.length:Int):=m9
       have hA:=A.out;rw[jQf m9,jQf m9]at hA;have HA:=Z (show idL (fs w K).id l l'=true from hA.symm);clear hA;go_wp2_with fail;go_ret;exact⟨_,rfl,by rw[HA.1];rfl,O.out,F.out⟩
    ·have HP:=Z (jn.1 false (NL rP));have hz:¬((l.length:Int)=(l'.length:Int)):=m9
     clear ha hb hl Kn h hE hI g1 g2 Wn eD haa mO LO Bh;exact M60
theorem GY(hE:Env NS Q w rs cs)(hI:sv NS Q w S D obj rs K r)(hr:r+1<=K)(h:O5 NS Q w S D obj rs K (r+1) E W cb u v x y p q)(hk:(una x).kind=7):
 Calls prog 121 #[ptr cb,u,v,p] W (aV w S D obj rs K E (r+1) W λv _=>v=.bool ((fs w K).id x y)):=by
 have aF:=aS h.ok.gh h.tu;have aD:=aS h.ok.gh h.tv;obtain⟨ux,jx, -⟩:=cJ hE.qp h.px;obtain⟨uy,jy, -⟩:=cJ hE.qp h.py;replace jx:=jx rs false false;replace jy:=jy rs false false;have hid:=lu hE hr h.px h.py (by have:=h.rx;have:=h.qr;omega) (by have:=h.ry;have:=h.qr;omega);have c0:W.cell? ⟨cb,0,none⟩=some (.bool false):=by simp[World.cell?,h.cb.2]
 have c1:W.cell? ⟨cb,1,none⟩=some (.bool false):=by simp[World.cell?,h.cb.2]
 obtain⟨H,HE,HI,pV,Ea,Am,tC⟩:=Z7 h hE hI hid ux uy (show∀w1 w2,Fr S rs (r+1) W w1->Ok w S D obj rs K E (r+1) w2->Fr S rs (r+1) w1 w2->(Ok w S D obj rs K E (r+1) w2/\Fr S rs (r+1) W w2)from λ_ _ h1 h2 h3=>⟨h2,bZ.trans h1 h3⟩);clear h hE hI hid ux uy;have hX:tid (una x).kind=90:=by rw[hk];rfl
 go_enter func121,ntmps121;go_wp2_with fail;refine aF.mono ?_;rintro e' w' ⟨v1,rfl,dr,hw⟩;replace hw:=hw.symm;subst hw;go_wp2_with fail;refine aD.mono ?_;rintro e' w' ⟨v2,rfl,fx,hw⟩;replace hw:=hw.symm;subst hw;obtain⟨b1,rfl,cz⟩:=id dr;obtain⟨b2,rfl,eX⟩:=id fx;obtain⟨rr,heq,cj,fK⟩:=sL H.1.ok.gh dr fx;rw[hX]at heq⊢;cases rr with
 |true=>
  exact M5
 |false=>
  clear aF aD;have dB:=aY 90 (ptr b1) 37 W i5;have fX:=cM 90 (ptr b1) 37 W i5;have pj:=gz 90 (ptr b1) 37 W i5;have eW:=bd 90 (ptr b1) 37 W i5;have dn:=aT 90 (ptr b1) 37 W i5;have zT:=mH 90 (ptr b1) 37 W i5;by_cases iO:(una y).kind=7
  ·have hY:tid (una y).kind=90:=by rw[iO];rfl
   rw[hY]at heq⊢;have qe:=aW (t:=una x) m9 m9 m9 m9;have wP:=aW (t:=una y) m9 m9 m9 m9;have xi:(aG (una x)).kind=(una x).kind:=aI m9;have lG:(aG (una y)).kind=(una y).kind:=aI m9;have wQ:isIf (aG (una x))=false:=by rw[iI m9];simp[isIf,hk]
   have xj:isIf (aG (una y))=false:=by rw[iI m9];simp[isIf,iO]
   have iP:=dH (rs:=rs) Ea.1 m9;have iQ:=dH (rs:=rs) Am.1 m9;obtain⟨rc3,pa3,re3,aZ,tp3,tr3⟩:=(H.1.ok.gh.node b1 _ cz).2.2.2.2.2.2.1 (by rw[xi];exact hk);obtain⟨rc4,pa4,re4,dI,tp4,tr4⟩:=(H.1.ok.gh.node b2 _ eX).2.2.2.2.2.2.1 (by rw[lG];exact iO);have hox:own (aG (una x))=own (una x):=by rw[qe];rfl
   have hoy:own (aG (una y))=own (una y):=by rw[wP];rfl
   have hex:bN (aG (una x))=bN (una x):=by rw[qe];rfl
   have Eo:bN (aG (una y))=bN (una y):=by rw[wP];rfl
   have xH:(aG (una x)).va=(una x).va:=by rw[qe];rfl
   have Nw:(aG (una y)).va=(una y).va:=by rw[wP];rfl
   rw[hox]at tp3;rw[hex]at tr3;rw[hoy]at tp4;rw[Eo]at tr4;rw[xH]at aZ;rw[Nw]at dI;have d3:W.cell? ⟨b1,2,none⟩=some pa3:=by simp[World.cell?,aZ]
   have d4:W.cell? ⟨b2,2,none⟩=some pa4:=by simp[World.cell?,dI]
   have d5:W.cell? ⟨b1,3,none⟩=some re3:=by simp[World.cell?,aZ]
   have d6:W.cell? ⟨b2,3,none⟩=some re4:=by simp[World.cell?,dI]
   have d7:W.cell? ⟨b1,4,none⟩=some (.bool (una x).va):=by simp[World.cell?,aZ]
   have d8:W.cell? ⟨b2,4,none⟩=some (.bool (una y).va):=by simp[World.cell?,dI]
   have hJx:∀e∈(una x).elems,PT NS Q w 0 e/\J rs false false e<J rs false false x:=λe he=>⟨(iP e he).1,by have:=(iP e he).2;omega⟩;have hJy:∀e∈(una y).elems,PT NS Q w 0 e/\J rs false false e<J rs false false y:=λe he=>⟨(iQ e he).1,by have:=(iQ e he).2;omega⟩;have eR:=λw' (g2:Fr S rs (r+1) W w')=>H.1.ok.gh.eu g2;have sM:=Z (show∀w',Ok w S D obj rs K E (r+1) w'->Fr S rs (r+1) W w'->Calls prog 121 #[ptr cb,.iface 91 pa3,.iface 91 pa4,p] w' (aV w S D obj rs K E (r+1) w' λv _=>v=.bool (idL (fs w K).id (own (una x)) (own (una y))))from λw' g1 g2=>Jb HE.1 HI.1 hr H.1 g1 g2 (tp3.move (λ_ _ h=>h) (eR w' g2)) (tp4.move (λ_ _ h=>h) (eR w' g2)) (λe he=>hJx e (jQt he)) (λe he=>hJy e (jQt he)));have HCE:=Z (show∀w',Ok w S D obj rs K E (r+1) w'->Fr S rs (r+1) W w'->Calls prog 121 #[ptr cb,.iface 91 re3,.iface 91 re4,p] w' (aV w S D obj rs K E (r+1) w' λv _=>v=.bool (idL (fs w K).id (bN (una x)) (bN (una y))))from λw' g1 g2=>Jb HE.1 HI.1 hr H.1 g1 g2 (tr3.move (λ_ _ h=>h) (eR w' g2)) (tr4.move (λ_ _ h=>h) (eR w' g2)) (λe he=>hJx e (jR2 he)) (λe he=>hJy e (jR2 he)));have bo:(fs w K).id x y=((una x).va==(una y).va&&idL (fs w K).id (own (una x)) (own (una y))&&idL (fs w K).id (bN (una x)) (bN (una y))):=by rw[pV.1];unfold K7;simp[isIf,hk,iO]
   obtain⟨a3,rfl⟩:∃a,pa3=.pointer a:=by rcases tp3 with⟨-,e⟩|⟨-,b,_,_,e,_⟩<;>exact⟨_,e⟩
   obtain⟨a4,rfl⟩:∃a,pa4=.pointer a:=by rcases tp4 with⟨-,e⟩|⟨-,b,_,_,e,_⟩<;>exact⟨_,e⟩
   obtain⟨a5,rfl⟩:∃a,re3=.pointer a:=by rcases tr3 with⟨-,e⟩|⟨-,b,_,_,e,_⟩<;>exact⟨_,e⟩
   obtain⟨a6,rfl⟩:∃a,re4=.pointer a:=by rcases tr4 with⟨-,e⟩|⟨-,b,_,_,e,_⟩<;>exact⟨_,e⟩
   have hS:=Z (show∀w',(Ok w S D obj rs K E (r+1) w'/\Fr S rs (r+1) W w')->(Ok w S D obj rs K E (r+1) w'/\Fr S rs (r+1) W w')/\w'.cell? ⟨b1,2,none⟩=some (.pointer a3)/\w'.cell? ⟨b1,3,none⟩=some (.pointer a5)/\w'.cell? ⟨b1,4,none⟩=some (.bool (una x).va)/\w'.cell? ⟨b2,4,none⟩=some (.bool (una y).va)from λw' h=>⟨h,h.2.fU cz wQ d3,h.2.fU cz wQ d5,h.2.fU cz wQ d7,h.2.fU eX xj d8⟩);clear aZ dI tp3 tp4 tr3 tr4 hox hoy hex Eo xH Nw hJx hJy eR;clear qe wP xi lG wQ xj iP iQ cz eX dr fx cj fK;generalize idL (fs w K).id (own (una x)) (own (una y))=r1 at*;generalize idL (fs w K).id (bN (una x)) (bN (una y))=r2 at*;by_cases xb:(una x).va=(una y).va
   ·have hvt:((una x).va=(una y).va)=True:=eq_true xb;have KJ:((una x).va==(una y).va)=true:=by simpa using xb
    rw[KJ,jRn]at bo;clear xb;cases r1 with
    |true=>
     have bM:=Z (show(fs w K).id x y=r2 by rw[bo];simp);clear bo;go_wp2_with fail;refine jQ9 (S:=(λw'=>(Ok w S D obj rs K E (r+1) w'/\Fr S rs (r+1) W w')/\w'.cell? ⟨b1,2,none⟩=some (.pointer a3)/\w'.cell? ⟨b1,3,none⟩=some (.pointer a5)/\w'.cell? ⟨b1,4,none⟩=some (.bool (una x).va)/\w'.cell? ⟨b2,4,none⟩=some (.bool (una y).va))) g9 (hS.1 _ ⟨H.1.ok.below HE.1.hs (jQ5 _ _).drew,Below.fr (jQ5 _ _).drew⟩) (λai=>?_);refine t4 0 1 2 3 ?_;refine t4 4 5 6 7 ?_;refine t4 8 9 10 11 ?_;refine t4 12 13 14 15 ?_;refine t2 16 17 ?_;refine tk 18 ?_;refine rd 19 rfl λK hK=>?_;go_simp;have hh:=ai.1;clear ai;refine(sM.1 _ hh.1 hh.2).mono ?_;rintro eA wA ⟨vA,rfl,rfl,g1,g2⟩;have gE:=tC.1 _ _ hh.2 g1 g2;refine hK.out _ _ (hS.1 _ gE) (λai=>?_);clear hh gE g1 g2;clear hK K;refine t4 20 21 22 23 ?_;refine t4 24 25 26 27 ?_;refine t2 28 29 ?_;refine tk 30 ?_;refine rd 31 rfl λK hK=>?_;go_simp;have hh:=ai.1;clear ai;refine(HCE.1 _ hh.1 hh.2).mono ?_;rintro eA wA ⟨vA,rfl,rfl,g1,g2⟩;have gE:=tC.1 _ _ hh.2 g1 g2;refine hK.out _ _ (hS.1 _ gE) (λai=>?_);clear hh gE g1 g2;clear hK K;refine t2 32 33 ?_;exact M22
    |false=>
     have bM:=Z (show(fs w K).id x y=false by rw[bo];simp);clear bo;go_wp2_with fail;refine jQ9 (S:=(λw'=>(Ok w S D obj rs K E (r+1) w'/\Fr S rs (r+1) W w')/\w'.cell? ⟨b1,2,none⟩=some (.pointer a3)/\w'.cell? ⟨b1,3,none⟩=some (.pointer a5)/\w'.cell? ⟨b1,4,none⟩=some (.bool (una x).va)/\w'.cell? ⟨b2,4,none⟩=some (.bool (una y).va))) g9 (hS.1 _ ⟨H.1.ok.below HE.1.hs (jQ5 _ _).drew,Below.fr (jQ5 _ _).drew⟩) (λai=>?_);refine t4 0 1 2 3 ?_;refine t4 4 5 6 7 ?_;refine t4 8 9 10 11 ?_;refine t4 12 13 14 15 ?_;refine t2 16 17 ?_;refine tk 18 ?_;refine rd 19 rfl λK hK=>?_;go_simp;have hh:=ai.1;clear ai;refine(sM.1 _ hh.1 hh.2).mono ?_;rintro eA wA ⟨vA,rfl,rfl,g1,g2⟩;have gE:=tC.1 _ _ hh.2 g1 g2;refine hK.out _ _ (hS.1 _ gE) (λai=>?_);clear hh gE g1 g2;clear hK K;exact M92
   ·have hvt:((una x).va=(una y).va)=False:=eq_false xb;have KJ:((una x).va==(una y).va)=false:=by simpa using xb
    have bM:=Z (show(fs w K).id x y=false by rw[bo,KJ];simp);clear bo xb;go_wp2_with fail;refine jQ9 (S:=(λw'=>(Ok w S D obj rs K E (r+1) w'/\Fr S rs (r+1) W w')/\w'.cell? ⟨b1,2,none⟩=some (.pointer a3)/\w'.cell? ⟨b1,3,none⟩=some (.pointer a5)/\w'.cell? ⟨b1,4,none⟩=some (.bool (una x).va)/\w'.cell? ⟨b2,4,none⟩=some (.bool (una y).va))) g9 (hS.1 _ ⟨H.1.ok.below HE.1.hs (jQ5 _ _).drew,Below.fr (jQ5 _ _).drew⟩) (λai=>?_);refine t4 0 1 2 3 ?_;refine t4 4 5 6 7 ?_;refine t2 8 9 ?_;refine bg 10 ?_;refine bg 11 ?_;refine bg 12 ?_;refine bg 13 ?_;refine bg 14 ?_;refine bg 15 ?_;refine bg 16 ?_;refine bg 17 ?_;refine bg 18 ?_;refine bg 19 ?_;exact M92
  ·have K9:¬(tid (una y).kind=90):=(λh=>by rcases de (una y).kind with g|g|g|g|g|g|g|g|g|g|g|g<;>first|exact iO g.1|(rw[g.2]at h;exact absurd h i5));have fp:=im (tid (una y).kind) (ptr b2) 37 W K9;exact M8
end Go.Proofs.YtabjfnkfocnklaaGreatDoor
