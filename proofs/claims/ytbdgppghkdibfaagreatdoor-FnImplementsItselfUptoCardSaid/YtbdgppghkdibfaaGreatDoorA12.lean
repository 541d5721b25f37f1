import Derived.Test.YtbdgppghkdibfaaGreatDoorA11
set_option linter.all false
set_option maxHeartbeats 16000000
set_option maxRecDepth 20000
namespace Go.Proofs.YtbdgppghkdibfaaGreatDoor
open Go Go.RowKit Go.Lib S Tryz
variable{b r:Bool}{t x:Y}{n:Int}{s s':Int×Option Int}{w:List ah}{c cm cx i k:Nat}{a am ax:Option Addr}{GT:Prop}{d:ah}
def M10(h:GT:=by
 go_wp21;refine ag.mono ?_;rintro e' w3 ⟨rfl,ar⟩;have bS:=Z (eQ.1.trans (ar.mono eQ.1.size));clear ar ag eQ;clear d0 c6 e0 e1 e2 e3 e4 e5 e6;have d0:=(bS.1.cell (p:=⟨W.heap.size,0,none⟩) fV).trans HD.1;have c6:=(bS.1.cell (p:=⟨W.heap.size+1,6,none⟩) dQ).trans HC6.1;obtain⟨e0,e1,e2,e3,e4,e5,e6⟩:=ao (aj bS.1 yX.1 fh);have eQ:=bS;clear bS;have Cw:=OR.1;obtain⟨zC,EM⟩:=RS.upto (m:=(kk:Int)) (l':=t.li.take kk) (HSx.1.mv oT.1.lo eQ.1) (by unfold mq;rw[jQ7 ⟨M,M⟩];simp);have tB:(t.li.take kk).length=kk:=by simp;omega
 rw[tB]at zC EM;have hX2:=oT.1.mv eQ.1;have Vp:=aj eQ.1 yX.1 fh;have O4:=d0;have aff:=eQ.1.size;have ag:=cL (t.li.take kk) _ w3 D EM hX2.lo 141 #[.pointer (some ⟨W.heap.size,0,none⟩),.pointer (some ⟨wr.heap.size,0,none⟩)] Tryz.call141 _ (λW1 y v bb ar _ dr ke=>
  eeC k w _ x y bb v W1 D W.heap.size wr.heap.size ke (hX2.mv ar) dr ((RT.X0 Vo.1).mv oT.1.lo (eQ.1.trans (ar.mono eQ.1.size))) ((ar.cell (p:=⟨W.heap.size,0,none⟩) (by simp only;omega)).trans O4) (aj ar Vp M)) bb Cw
 have D8:=uW;clear hX2 Vp O4 EM Cw;cases bb with
 |true=>
  have GX:rr=some false:=by rcases lE with⟨_,h⟩|⟨h,_⟩;exact h;cases h
  subst GX;have Jn:r=false:=by simpa using HP.1.symm
  subst Jn;clear lE;exact M210
 |false=>
  have jM:=lE.resolve_left (λh=>by cases h.1);have nb:=Z jM.2;clear jM lE;go_wp21;refine ag.mono ?_;rintro e' w4 ⟨rfl,ar⟩;have bS:=Z (eQ.1.trans (ar.mono eQ.1.size));clear ar ag;go_wp21;go_roundg (t.li.length - (kk+1))
  case measure=>omega
  case rel=>exact⟨kk+1,M,M,by go_num,ej.1.trans (bS.1.mono ej.1.size),nb.1⟩):GT:=h
def M105(h:GT:=by
 have HB:=Z (HA.1.trans ((bS.1.trans (cX.mono bS.1.size)).mono HA.1.size));clear cX ag;exact M40):GT:=h
def M123(h:GT:=by
 go_wp21;refine ag.mono ?_;rintro e w2 ⟨rfl,cX⟩;have HB:=Z (HA.1.trans ((bS.1.trans (cX.mono bS.1.size)).mono HA.1.size));clear cX ag;exact M97):GT:=h
def M140(h:GT:=by
 exact⟨by simp only;omega,by simp only;omega,λr e=>by simp at e⟩):GT:=h
def M147(h:GT:=by
 refine bg 10 ?_;refine bg 11 ?_;refine bg 12 ?_;refine bg 13 ?_;refine bg 14 ?_;refine bg 15 ?_;refine t2 16 17 ?_;exact M57):GT:=h
def M169(h:GT:=by
 rcases aN.1 HI.1 with⟨he,_⟩|⟨_,b2,o2,xv,dN,fh,fL,du,gX⟩
 .rw[he];simp
 .simp at dN;omega):GT:=h
def M172(h:GT:=by
 rcases aN.1 su with⟨he,_⟩|⟨_,b2,o2,xv,dN,fh,fL,du,gX⟩
 .rw[he];simp
 .simp at dN;omega):GT:=h
def M207(h:GT:=by
 go_wp21;refine ag.mono ?_;rintro e' w2 ⟨rfl,cX⟩;exact M105):GT:=h
def M210(h:GT:=by
 go_wp21;refine ag.mono ?_;rintro e' w4 ⟨rfl,ar⟩;exact M41):GT:=h
theorem M215(h:GT:=by
 go_wp2;go_ret;exact⟨i6,HW8.1.trans (xL.1.mono HW8.1.size)⟩):GT:=h
def M41(h:GT:=by
 have bS:=Z (eQ.1.trans (ar.mono eQ.1.size));clear ar ag;go_wp2;go_ret;exact⟨rfl,HA.1.trans ((ej.1.trans (bS.1.mono ej.1.size)).mono HA.1.size)⟩):GT:=h
def M57(h:GT:=by
 refine jQl g9 ?_ _;have xL:=Z ai.1;clear ai;go_wp2;go_ret;exact⟨rfl,pZ.1.trans (xL.1.mono pZ.1.size)⟩):GT:=h
def M65(h:GT:=by
 have hA:=AI.out;rw[jQf (by first|omega|simp),foldM]at hA;have tS:mid=(q,none):=by simpa using hA.symm
 subst tS;clear hA AI;go_wp21;go_roundg (l.length - (kk+1))
 case measure=>omega
 case rel=>exact⟨kk+1,q,M,M,by go_num,rfl,(sQ.1.trans (BI.out.mono sQ.1.size)),NJ.1,WI.out⟩):GT:=h
def M75(h:GT:=by
 have tS:=vH Tn.1;subst tS;have qD:=Ba NJ.1;have hrq:r=q:=by rw[HR.1,qD];rfl
 subst hrq;have LM:((50:Int)<r)=True:=eq_true M;clear cz;go_wp2;go_ret;exact⟨rfl,XY.1.trans ((sQ.1.trans ((BI.out.trans (B2.1.mono KV)).mono sQ.1.size)).mono XY.1.size)⟩):GT:=h
def fA:∀k,pD k
 |0=>λ_ _ _ _ _ _ _ _ _ h=>by simp[ident]at h
 |k+1=>AQ k (fA k)
def Sc(k:Nat):Prop:=∀(w:List ah) (ws:Value) (t:Y) (r:Bool) (v:Value) (W:World) (D:Qx),gD w k t=some r->Cx D w ws W->RT D W t v->
 Calls prog 140 #[ws,v] W (ef W r)
def stC(k:Nat)(ih:Sc k)(w ws e)(r:Bool)(v W D)(Bw:Nat)(j:fy (bU w e) (gD w k e)=some r)(H:Cx D w ws W)(hv:RT D W e v)(hB:ce W Bw 0 ws):
 Calls prog 183 #[v,.pointer (some ⟨Bw,0,none⟩)] W (ef W r):=by
 have lR:=jQs hB;simp only at lR;obtain⟨a,c,rfl,hs⟩:=hv.bR;obtain⟨wa,wc,rfl⟩:=H.rd.form;have HA:=Z (an W (bx e a c));have Ff:=(HA.1.cell (p:=⟨Bw,0,none⟩) lR).trans hB;obtain⟨c0,c1,c2,c3,c4,c5,c6⟩:=ao (ak W (bx e a c));obtain⟨HX,HV,kq⟩:=Z3 (H.mv HA.1) (hv.mv H.lo HA.1) (ak W (bx e a c));rcases cY j with⟨I,rfl⟩|⟨I,U⟩
 .have ag:=gl w _ e false _ _ D I HX.1 HV.1;clear j H hv hs I c0 c1 c2 c3 c4 c5 c6 Ff;exact M6
 .have ag:=gl w _ e true _ _ D I HX.1 HV.1;have H2:=Z U;clear j H hv hs I U c0 c1 c2 c3 c4 c5 c6;go_in;go_wp21;refine ag.mono ?_;rintro e' w1 ⟨rfl,ar⟩;have bS:=Z ar;obtain⟨c0,c1,c2,c3,c4,c5,c6⟩:=ao (aj ar kq.1 i6);have Xq:=(ar.cell (p:=⟨Bw,0,none⟩) (by simp;omega)).trans Ff;have ag:=ih w _ e r _ _ D H2.1 (HX.1.mv ar) (HV.1.mv HX.1.lo ar);clear ar Ff;exact M207
def uV(k:Nat):Sc k:=by
 induction k with
 |zero=>intro w ws t r v W D h;simp[gD]at h
 |succ k ih=>
  intro w ws t r v W D hg H hv;obtain⟨u,hu,hg⟩:=jQ1.1 hg;obtain⟨a,c,rfl,hs⟩:=hv.bR;obtain⟨wa,wc,rfl⟩:=H.rd.form;have HA:=Z (dT W (.cells #[.slice wa w.length wc] 22) (bx t a c));have dt:=H.mv HA.1;have ag:=dG w _ t u _ _ D hu dt.lo dt.rd (hv.mv H.lo HA.1);have HG:=Z hg;have HX:=Z H;clear hg hs hv hu dt H;go_in;go_wp21;refine ag.mono ?_;rintro e w1 ⟨v1,rfl,fP,ar⟩;obtain⟨a1,c1,rfl,cz⟩:=fP.bR;have HB:=Z (HA.1.trans (ar.mono HA.1.size));have kq:=jQh (aj ar (aq (ak W (.cells #[.slice wa w.length wc] 22))) (by simp;omega));have aM:W.heap.size<w1.heap.size:=jQs kq;have hg:=HG.1;have j7:=ar.size;simp only[jQ3]at cz j7;have HS:=Z cz;clear ar fP ag cz;by_cases ir:u.ld=16
  .have yr:(u.ld==16)=true:=by simp[ir]
   rw[jQ7 ir]at hg;have h:true=r:=G9 hg
   subst h;clear hg ir;go_wp2;go_ret;exact⟨rfl,HB.1.alloc (V5 HB.1.size) _⟩
  .have yr:(u.ld==16)=false:=by simp[ir]
   rw[jQ4 ir]at hg;clear ir;obtain⟨l,hl,qc⟩:=jQ1.1 hg;obtain⟨a2,c2,pT,su⟩:=RS.from HS.1 hl;have hz:=HB.1.size;have HC:=Z (HB.1.alloc hz (bx u a1 c1));have dF:=(HX.1.mv HC.1).up (n:=W.heap.size+2) (HX.1.lo.mono M) (by simp;omega);have eX:=su.move (W':=w1.alloc (bx u a1 c1)) (D':=Up D (W.heap.size+2) (w1.alloc (bx u a1 c1)).heap.size) (((au.refl.alloc (λb hb=>(Up.lo (HX.1.lo.mono M) M) b hb) _)).wide (Up.mono i6 i6));have fw:(w1.alloc (bx u a1 c1)).cell? ⟨W.heap.size,0,none⟩=some (.slice wa w.length wc):=by
    rw[World.cell?_alloc_past _ _ _ aM];exact kq
   have ag:=cL l _ _ _ eX dF.lo 183 #[.pointer (some ⟨W.heap.size,0,none⟩)] Tryz.call183 _ (λW1 e v bb ar _ dr ke=>
    stC k ih w _ e bb v W1 _ _ ke (dF.mv ar) dr ((ar.cell (p:=⟨W.heap.size,0,none⟩) (by simp;omega)).trans fw)) r qc
   have D8:=uW;clear dF eX su qc hl fw hg;exact M142
def agC(k:Nat)(w ws l sl e)(r:Bool)(v W D)(Bw Bl:Nat)(j:fy (bU w e) ((required w k e).bind λq=>bh (hasAll (ident k w) l q))=some r)(H:Cx D w ws W)(hv:RT D W e v)(hl:RS D W l sl)(hB:ce W Bw 0 ws)(hL:ce W Bl 0 sl):
 Calls prog 143 #[v,.pointer (some ⟨Bw,0,none⟩),.pointer (some ⟨Bl,0,none⟩)] W (ef W r):=by
 have lR:=jQs hB;have hBl:=jQs hL;simp only at lR hBl;obtain⟨a,c,rfl,hs⟩:=hv.bR;obtain⟨wa,wc,rfl⟩:=H.rd.form;obtain⟨la,lc,rfl⟩:=hl.form;have HA:=Z (an W (bx e a c));have d0:=(HA.1.cell (p:=⟨Bw,0,none⟩) lR).trans hB;have d1:=(HA.1.cell (p:=⟨Bl,0,none⟩) hBl).trans hL;obtain⟨c0,c1,c2,c3,c4,c5,c6⟩:=ao (ak W (bx e a c));obtain⟨HX,HV,HL⟩:=Z3 (H.mv HA.1) (hv.mv H.lo HA.1) (hl.mv H.lo HA.1);have zI:Bw<(W.alloc (bx e a c)).heap.size:=by simp;omega
 have iT:Bl<(W.alloc (bx e a c)).heap.size:=by simp;omega
 have mU:W.heap.size<(W.alloc (bx e a c)).heap.size:=i6
 rcases cY j with⟨I,rfl⟩|⟨I,U⟩
 .have H1:=Z I;clear j H hv hs I hl;go_in;go_wp21;generalize sj:W.alloc (bx e a c)=w2 at HA HX HV HL c0 c1 c2 c3 c4 c5 c6 d0 d1 zI iT mU
  try rw[sj]
  have hS:=Z (show∀O,S5 w2 O->S5 w2 O/\ce O Bw 0 (.slice wa w.length wc)/\ce O Bl 0 (.slice la l.length lc)/\V8 O W.heap.size e a c from λO hb=>⟨hb,(hb.cell (p:=⟨Bw,0,none⟩) zI).trans d0,(hb.cell (p:=⟨Bl,0,none⟩) iT).trans d1,S9 hb mU c0 c1 c2 c3 c4 c5 c6⟩);have hA:=Z<|λ(O:World) (hb:S5 w2 O)=>gl w _ e false _ O D H1.1 (HX.1.mv hb) (HV.1.mv HX.1.lo hb);refine t8 hS (jQ5 _ _).drew λai=>?_;refine t2 0 1 ?_;refine rd 2 rfl λK hK=>?_;go_simp;refine(hA.1 _ ai.1).mono ?_;rintro eA wA ⟨rfl,eP⟩;have dI:=ai.1.trans (eP.mono ai.1.size);refine hK.out _ _ (hS.1 _ dI) (λai=>?_);clear hK K;refine t7 3 ?_;refine bg 4 ?_;refine bg 5 ?_;refine bg 6 ?_;refine bg 7 ?_;refine bg 8 ?_;refine bg 9 ?_;refine bg 10 ?_;refine t2 11 12 ?_;refine jQl g9 ?_ _;go_wp2;go_ret;exact⟨rfl,HA.1.trans (dI.mono HA.1.size)⟩
 .obtain⟨q,hq,h3⟩:=jQ1.1 U;have h3:=aX h3;obtain⟨H1,HQ,H3⟩:=Z3 I hq h3;clear j H hv hs I U h3 hq hl;go_in;go_wp21;generalize sj:W.alloc (bx e a c)=w2 at HA HX HV HL c0 c1 c2 c3 c4 c5 c6 d0 d1 zI iT mU;have hS:=Z (show∀O,S5 w2 O->S5 w2 O/\ce O Bw 0 (.slice wa w.length wc)/\ce O Bl 0 (.slice la l.length lc)/\V8 O W.heap.size e a c from λO hb=>⟨hb,(hb.cell (p:=⟨Bw,0,none⟩) zI).trans d0,(hb.cell (p:=⟨Bl,0,none⟩) iT).trans d1,S9 hb mU c0 c1 c2 c3 c4 c5 c6⟩);have hA:=Z<|λ(O:World) (hb:S5 w2 O)=>gl w _ e true _ O D H1.1 (HX.1.mv hb) (HV.1.mv HX.1.lo hb);have hB:=Z<|λ(O:World) (hb:S5 w2 O)=>ga k w _ e q _ O D HQ.1 (HX.1.mv hb) (HV.1.mv HX.1.lo hb);have hC:=Z<|λ(O:World) (vb:Value) (hb:S5 w2 O) (U:RS (Up D w2.heap.size O.heap.size) O q vb)=>
   pz k (fA k) w _ l q (!r) _ _ O _ H3.1 ((HX.1.mv hb).up (n:=w2.heap.size) HX.1.lo hb.size) ((HL.1.mv HX.1.lo hb).move (au.refl.wide Up.of)) U
  try rw[sj]
  go_region_held3 (λO=>S5 w2 O/\ce O Bw 0 (.slice wa w.length wc)/\ce O Bl 0 (.slice la l.length lc)/\V8 O W.heap.size e a c)
   (first|exact hS.1 _ (jQ5 _ _).drew|assumption)
   (first
    |(go_at_call 138;have hh:=‹S5 w2 _/\_›;refine(hA.1 _ hh.1).mono ?_;rintro eA wA ⟨rfl,eP⟩;have dI:=hh.1.trans (eP.mono hh.1.size);have hS4:=hS.1 _ dI)
    |(go_at_call 139;have hh:=‹S5 w2 _/\_›;refine(hB.1 _ hh.1).mono ?_;rintro eB wB ID;obtain⟨vB,rfl,Ef,IF⟩:=ID.Pf;obtain⟨aB,cB,rfl⟩:=Ef.form;have iD:=hh.1.trans (IF.mono hh.1.size);have hS5:=hS.1 _ iD;have wL:=Z (Ef.move (au.refl.wide (Up.mono hh.1.size (jQ0 _))));clear ID Ef)
    |(go_at_call 144;have hh:=‹S5 w2 _/\_›;refine(hC.1 _ _ hh.1 wL.1).mono ?_;rintro eC wC ⟨rfl,hbC⟩;have gS:=hh.1.trans (hbC.mono hh.1.size);have hS6:=hS.1 _ gS))
  go_wp2;go_ret;exact⟨i6,HA.1.trans (gS.mono HA.1.size)⟩
def yv(k:Nat)(w ws t)(r:Bool)(v W D)(j:agree k w t=some r)(H:Cx D w ws W)(hv:RT D W t v):
 Calls prog 98 #[ws,v] W (ef W r):=by
 obtain⟨l,hl,j⟩:=jQ1.1 j;obtain⟨es,Hp,j⟩:=jQ1.1 j;have j:=aX j;obtain⟨a,c,rfl,hs⟩:=hv.bR;obtain⟨wa,wc,rfl⟩:=H.rd.form;have HA:=Z (dT W (.cells #[.slice wa w.length wc] 22) (bx t a c));have ag:=ga k w _ t l _ _ D hl (H.mv HA.1) (hv.mv H.lo HA.1);obtain⟨HX,HS,HP,qM,ej⟩:=Z5 H hs j (ak (W.alloc (.cells #[.slice wa w.length wc] 22)) (bx t a c)) (aq (o:=bx t a c) (ak W (.cells #[.slice wa w.length wc] 22)));simp only[jQ3]at qM;clear j H hv hs hl;go_in;go_wp21;refine ag.mono ?_;rintro e w1 IG;obtain⟨v1,rfl,Ef,ar⟩:=IG.Pf;obtain⟨aB,cB,rfl⟩:=Ef.form;have HB:=Z (HA.1.trans (ar.mono HA.1.size));have FO:=jQh (aj ar ej.1 (by simp;omega));obtain⟨c0,c1,c2,c3,c4,c5,c6⟩:=ao (aj ar qM.1 i6);have gj:=ar.size;simp only[jQ3]at gj Ef c0 c1 c2 c3 c4 c5 c6;have iT:W.heap.size+1<w1.heap.size:=M
 have wL:=Z Ef;obtain⟨a2,xv,pT,su⟩:=RS.from ((HS.1).mv HX.1.lo HB.1) Hp;have HC:=Z (HB.1.alloc M (.cells #[.slice aB l.length cB] 23));have B1:=Z (an w1 (.cells #[.slice aB l.length cB] 23));have Ln:Lo (Up D (W.heap.size+1+1) w1.heap.size) w1.heap.size:=Up.lo (HX.1.lo.mono M) M;have dF:=((HX.1.mv HB.1).up (n:=W.heap.size+1+1) (HX.1.lo.mono M) M).mv B1.1;have eX:=(su.move (au.refl.wide (λb hb=>(Or.inl hb:Up D (W.heap.size+1+1) w1.heap.size b)))).mv Ln B1.1;have fh:=wL.1.mv Ln B1.1;have fw:=(B1.1.cell (p:=⟨W.heap.size,0,none⟩) (by simp;omega)).trans FO;have hL2:=jQh (ak w1 (.cells #[.slice aB l.length cB] 23));have ag:=cL es _ _ _ eX dF.lo 143 #[.pointer (some ⟨W.heap.size,0,none⟩),.pointer (some ⟨w1.heap.size,0,none⟩)] Tryz.call143 _ (λW1 e v bb ar _ dr ke=>
  agC k w _ l _ e bb v W1 _ _ _ ke (dF.mv ar) dr (fh.mv dF.lo ar) ((ar.cell (p:=⟨W.heap.size,0,none⟩) (by simp;omega)).trans fw) ((ar.cell (p:=⟨w1.heap.size,0,none⟩) i6).trans hL2)) _ HP.1
 have D8:=uW;clear dF eX fh Ln fw hL2 su Ef IG ar;go_wp21;refine ag.mono ?_;rintro e w2 ⟨rfl,cX⟩;have HD:=Z (HC.1.trans (cX.mono (by simp;omega)));clear cX;go_wp2;go_ret;exact⟨i6,HD.1⟩
def ui(k:Nat):xS k/\wg k/\Gl k/\Gm k/\Gn k:=by
 induction k with
 |zero=>
  refine⟨?_,?_,?_,?_,?_⟩
  .intro w ws t p r v W D h;simp[placed]at h
  .intro w ws t p r v W D h;simp[allPlaced]at h
  .intro w ws t p r v W D h;simp[placedInterface]at h
  .intro w ws t p r v W D h;simp[dz]at h
  .intro w ws t p r v W D h;simp[placedTerm]at h
 |succ k ih=>
  obtain⟨I,U,h3,h4,h5⟩:=ih;exact⟨U9 k U h3,PW k I,VC k I h4,Ue k h5,TZ k I⟩
def CF(w1 wx:World)(x y:Y)(ax ay:Option Addr)(cx cy:Nat)(s7 s8:Value):Prop:=
 ∃b7 b8,s7=.pointer (some ⟨b7,0,none⟩)/\s8=.pointer (some ⟨b8,0,none⟩)/\b7≠b8/\w1.heap.size<=b7/\w1.heap.size<=b8/\wx.heap[b7]?=some (bx x ax cx)/\wx.heap[b8]?=some (bx y ay cy)/\Below w1.heap.size w1 wx
def acU(w1 x y)(ax ay:Option Addr)(cx cy:Nat):CF w1 ((w1.alloc (bx x ax cx)).alloc (bx y ay cy)).drew x y ax ay cx cy (.pointer (some ⟨w1.heap.size,0,none⟩)) (.pointer (some ⟨w1.heap.size+1,0,none⟩)):=
 ⟨w1.heap.size,w1.heap.size+1,rfl,rfl,M,M,M,aq (ak w1 _),by have:=ak (w1.alloc (bx x ax cx)) (bx y ay cy);simp only[jQ3]at this;exact this,(dT w1 _ _).drew⟩
def acV(w1 x y)(ax ay:Option Addr)(cx cy:Nat):CF w1 ((w1.alloc (bx y ay cy)).alloc (bx x ax cx)).drew x y ax ay cx cy (.pointer (some ⟨w1.heap.size+1,0,none⟩)) (.pointer (some ⟨w1.heap.size,0,none⟩)):=
 ⟨w1.heap.size+1,w1.heap.size,rfl,rfl,M,M,M,by have:=ak (w1.alloc (bx y ay cy)) (bx x ax cx);simp only[jQ3]at this;exact this,aq (ak w1 _),(dT w1 _ _).drew⟩
def aaV(D:Qx)(W wx:World)(b7 b8:Nat)(x y:Y)(ax ay:Option Addr)(cx cy:Nat)(a:Y):Prop:=
 ∃aa ca,wx.heap[b7]?=some (bx a aa ca)/\wx.heap[b8]?=some (bx y ay cy)/\RS D wx a.li (.slice aa a.li.length ca)/\Below W.heap.size W wx/\
  wx.heap[W.heap.size]?=some (bx x ax cx)/\wx.heap[W.heap.size+1]?=some (bx y ay cy)
def af9(D:Qx)(W wx:World)(b7 b8:Nat)(x y:Y)(ax ay:Option Addr)(cx cy:Nat)(a b:Y):Prop:=
 ∃aa ca bb cb,wx.heap[b7]?=some (bx a aa ca)/\wx.heap[b8]?=some (bx b bb cb)/\RS D wx a.li (.slice aa a.li.length ca)/\RS D wx b.li (.slice bb b.li.length cb)/\Below W.heap.size W wx/\
  wx.heap[W.heap.size]?=some (bx x ax cx)/\wx.heap[W.heap.size+1]?=some (bx y ay cy)
theorem MG(k:Nat)(w:List ah)(ws:Value)(x y:Y)(r:Bool)(vx vy:Value)(W:World)(D:Qx)(j:iR k w x y=some r)(H:Cx D w ws W)(xH:RT D W x vx)(Nw:RT D W y vy):
 Calls prog 142 #[ws,vx,vy] W (ef W r):=by
 obtain⟨ax,cx,rfl,Z2⟩:=xH.bR;obtain⟨ay,cy,rfl,rV⟩:=Nw.bR;obtain⟨wa,wq,rfl⟩:=H.rd.form;have HP:=Z j;have HX:=Z H;have En:=Z xH;have We:=Z Nw;have CQ:=Z Z2;have xo:=Z rV;have HA:=Z (dT W (bx x ax cx) (bx y ay cy));clear j H xH Nw Z2 rV;go_in
 go_upto_region 1 with fail
 go_cut [7,8] (λs7 s8 wx=>CF ((W.alloc (bx x ax cx)).alloc (bx y ay cy)) wx x y ax ay cx cy s7 s8)
 case first=>
  go_region
  all_goals(go_wp2_with fail;go_meet;(have q1:=acU ((W.alloc (bx x ax cx)).alloc (bx y ay cy)) x y ax ay cx cy);(have q2:=acV ((W.alloc (bx x ax cx)).alloc (bx y ay cy)) x y ax ay cx cy);simp only[jQ3]at q1 q2;first|exact q1|exact q2)
 case rest=>
  obtain⟨b7,b8,rfl,rfl,bk,h7,h8,ek,nN,V0⟩:=hcut;obtain⟨wx,R8⟩:∃wx,wx=wc:=⟨wc,rfl⟩;subst R8;obtain⟨a,hae,ke⟩:=jQ1.1 HP.1;obtain⟨b,Ke,fJ⟩:=jQ1.1 ke;have j7:((W.alloc (bx x ax cx)).alloc (bx y ay cy)).heap.size=W.heap.size+1+1:=i6
  rw[j7]at h7 h8 V0;have yX:=Z (HA.1.trans (V0.mono M));have KY:=Z (aj V0 (aq (o:=bx y ay cy) (ak W (bx x ax cx))) M);have HWY:=Z (aj V0 (ak (W.alloc (bx x ax cx)) (bx y ay cy)) i6);simp only[jQ3]at HWY;have zM:=Z ek;have WE:=Z nN;have pG:=Z fJ;have hl7:=jQ2 ek;have R4:=jQ2 nN;obtain⟨c0,c1,c2,c3,c4,c5,c6⟩:=ao KY.1;obtain⟨d0,d1,d2,d3,d4,d5,d6⟩:=ao HWY.1;clear ke fJ V0 ek nN;have HCA:=Z (show∀(wA:World) (g:Nat) (cs:Array Value),kT g cs 25 wx wA->W.heap.size+1+1<=g->wA.heap[W.heap.size]?=some (bx x ax cx)/\wA.heap[W.heap.size+1]?=some (bx y ay cy)/\Below W.heap.size W wA from λwA g cs j hg=>
   ⟨j.cR KY.1 M,j.cR HWY.1 M,j.below yX.1 M⟩)
  go_upto_if 13 with fail
  go_cut [] (λwA=>aaV D W wA b7 b8 x y ax ay cx cy a)
  case first=>
   by_cases ye:x.ld=13
   .have kx:(x.ld==13)=true:=by simp[ye]
    rw[jQ7 ye]at hae;have aga:¬x.li.length=0:=λe=>by rw[jQe e]at hae;simp at hae
    rcases aN.1 CQ.1 with⟨he,_⟩|⟨hexn,b1,o1,zd,dN,dQ,lk,acW,hC1⟩
    .rw[he]at aga;simp at aga
    simp at dN;obtain⟨rfl,rfl⟩:=dN;have hEa:=hC1.at hae;simp only[Nat.zero_mul,Nat.add_zero]at hEa;obtain⟨sa,sc,f0,f1,f2,f3,f4,f5,f6,iL⟩:=hEa.bR;obtain⟨sa',sc',e',hsa⟩:=iL.bR;simp at e';obtain⟨rfl,rfl⟩:=e';have ur:=HX.1.lo _ acW;have g0:=(yX.1.cell (p:=⟨b1,o1,none⟩) ur).trans f0;have g1:=(yX.1.cell (p:=⟨b1,o1+1,none⟩) ur).trans f1;have g2:=(yX.1.cell (p:=⟨b1,o1+2,none⟩) ur).trans f2;have g3:=(yX.1.cell (p:=⟨b1,o1+3,none⟩) ur).trans f3;have g4:=(yX.1.cell (p:=⟨b1,o1+4,none⟩) ur).trans f4;have g5:=(yX.1.cell (p:=⟨b1,o1+5,none⟩) ur).trans f5;have g6:=(yX.1.cell (p:=⟨b1,o1+6,none⟩) ur).trans f6;have HSA:=Z hsa;clear ye hae hEa iL hsa hC1 f0 f1 f2 f3 f4 f5 f6;go_wp2_with (refine fN rfl _ _ rfl b7 rfl rfl zM.1 rfl ?_);intro wA hpA;obtain⟨q1,q2,q3⟩:=HCA.1 _ _ _ hpA h7;have HQ:=Z (show aaV D W wA b7 b8 x y (some ⟨b1,o1,none⟩) ay cx cy a from⟨sa,sc,hpA.here,hpA.cR WE.1 (Ne.symm bk),HSA.1.mv HX.1.lo q3,q3,q1,q2⟩);clear q1 q2 q3 hpA;go_wp2_with fail
    go_meet
    exact HQ.1
   .have kx:(x.ld==13)=false:=by simp[ye]
    rw[jQ4 ye]at hae;simp at hae;subst hae;clear ye;go_wp2_with fail
    go_meet
    exact⟨ax,cx,zM.1,WE.1,CQ.1.mv HX.1.lo yX.1,yX.1,KY.1,HWY.1⟩
  case rest=>
   obtain⟨aa,ca,m7,m8,msa,mbe,mwx,mwy⟩:=hcut;obtain⟨w5,gW⟩:∃w5,w5=wc:=⟨wc,rfl⟩;subst gW;have M7:=Z m7;have M8:=Z m8;have MSA:=Z msa;have WQ:=Z mbe;have MWX:=Z mwx;have MWY:=Z mwy;have HCB:=Z (show∀(wA:World) (g:Nat) (cs:Array Value),kT g cs 25 w5 wA->W.heap.size+1+1<=g->wA.heap[W.heap.size]?=some (bx x ax cx)/\wA.heap[W.heap.size+1]?=some (bx y ay cy)/\Below W.heap.size W wA from λwA g cs j hg=>
    ⟨j.cR MWX.1 M,j.cR MWY.1 M,j.below WQ.1 M⟩)
   clear c0 c1 c2 c3 c4 c5 c6 d0 d1 d2 d3 d4 d5 d6;obtain⟨d0,d1,d2,d3,d4,d5,d6⟩:=ao mwy;clear m7 m8 msa mbe mwx mwy
   go_upto_if 20 with fail
   go_cut [] (λwB=>af9 D W wB b7 b8 x y ax ay cx cy a b)
   case first=>
    by_cases yf:y.ld=13
    .have ky:(y.ld==13)=true:=by simp[yf]
     rw[jQ7 yf]at Ke;have agb:¬y.li.length=0:=λe=>by rw[jQe e]at Ke;simp at Ke
     rcases aN.1 xo.1 with⟨he,_⟩|⟨heyn,b1,o1,zd,dN,dQ,lk,acW,hC1⟩
     .rw[he]at agb;simp at agb
     simp at dN;obtain⟨rfl,rfl⟩:=dN;have hEb:=hC1.at Ke;simp only[Nat.zero_mul,Nat.add_zero]at hEb;obtain⟨sa,sc,f0,f1,f2,f3,f4,f5,f6,iL⟩:=hEb.bR;obtain⟨sa',sc',e',rN⟩:=iL.bR;simp at e';obtain⟨rfl,rfl⟩:=e';have ur:=HX.1.lo _ acW;have g0:=(WQ.1.cell (p:=⟨b1,o1,none⟩) ur).trans f0;have g1:=(WQ.1.cell (p:=⟨b1,o1+1,none⟩) ur).trans f1;have g2:=(WQ.1.cell (p:=⟨b1,o1+2,none⟩) ur).trans f2;have g3:=(WQ.1.cell (p:=⟨b1,o1+3,none⟩) ur).trans f3;have g4:=(WQ.1.cell (p:=⟨b1,o1+4,none⟩) ur).trans f4;have g5:=(WQ.1.cell (p:=⟨b1,o1+5,none⟩) ur).trans f5;have g6:=(WQ.1.cell (p:=⟨b1,o1+6,none⟩) ur).trans f6;have wL:=Z rN;clear yf Ke hEb iL rN hC1 f0 f1 f2 f3 f4 f5 f6;go_wp2_with (refine fN rfl _ _ rfl b8 rfl rfl M8.1 rfl ?_);intro wB hpB;obtain⟨q1,q2,q3⟩:=HCB.1 _ _ _ hpB h8;have HQ:=Z (show af9 D W wB b7 b8 x y ax (some ⟨b1,o1,none⟩) cx cy a b from⟨aa,ca,sa,sc,hpB.cR M7.1 bk,hpB.here,MSA.1.move (hpB.aJ (λh=>by have:=HX.1.lo _ h;omega)),wL.1.mv HX.1.lo q3,q3,q1,q2⟩);clear q1 q2 q3 hpB;go_wp2_with fail
     go_meet
     exact HQ.1
    .have ky:(y.ld==13)=false:=by simp[yf]
     rw[jQ4 yf]at Ke;simp at Ke;subst Ke;clear yf;go_wp2_with fail
     go_meet
     exact⟨aa,ca,ay,cy,M7.1,M8.1,MSA.1,xo.1.mv HX.1.lo WQ.1,WQ.1,MWX.1,MWY.1⟩
   case rest=>
    obtain⟨aa,ca,bb,cb,n7,n8,nsa,nsb,nbe,nwx,nwy⟩:=hcut;obtain⟨w6,kg⟩:∃w6,w6=wc:=⟨wc,rfl⟩;subst kg;have NBE:=Z nbe;have N7:=Z n7;have N8:=Z n8;have NWX:=Z nwx;have NWY:=Z nwy;have NVA:=Z (RT.mk' nsa);have NVB:=Z (RT.mk' nsb);have NX:=Z (HX.1.mv nbe);have hl7:=jQ2 n7;have R4:=jQ2 n8;clear d0 d1 d2 d3 d4 d5 d6;obtain⟨p0,p1,p2,p3,p4,p5,p6⟩:=ao n7;obtain⟨q0,q1,q2,q3,q4,q5,q6⟩:=ao n8;obtain⟨i,hi,j⟩:=jQ1.1 pG.1;have EY:=Z j;clear nsa nsb nbe nwx nwy n7 n8 j;rcases gN hi with⟨ha,rfl⟩|⟨ha,hb⟩
    .have h:true=r:=by simpa using EY.1
     subst h;have ag:=dh w _ a true _ w6 D ha NX.1.lo NX.1.rd NVA.1;clear hi ha;go_wp2_with fail;refine ag.mono ?_;rintro e w7 ⟨rfl,ek⟩;have HB:=Z (NBE.1.trans (ek.mono NBE.1.size));clear ek ag;exact M40
    .have ag:=dh w _ a false _ w6 D ha NX.1.lo NX.1.rd NVA.1;have HBq:=Z hb;clear hi ha hb;go_wp2_with fail;refine ag.mono ?_;rintro e w7 ⟨rfl,ek⟩;have H7:=Z ek;clear p0 p1 p2 p3 p4 p5 p6 q0 q1 q2 q3 q4 q5 q6;obtain⟨q0,q1,q2,q3,q4,q5,q6⟩:=ao (aj ek N8.1 R4);have ag:=dh w _ b i _ w7 D HBq.1 (NX.1.mv ek).lo (NX.1.mv ek).rd (NVB.1.mv NX.1.lo ek);clear ek;go_wp2_with fail;refine ag.mono ?_;rintro e w8 ⟨rfl,nN⟩;have Ry:=H7.1.trans (nN.mono H7.1.size);have H8:=Z Ry;clear q0 q1 q2 q3 q4 q5 q6;obtain⟨p0,p1,p2,p3,p4,p5,p6⟩:=ao (aj Ry N7.1 hl7);obtain⟨q0,q1,q2,q3,q4,q5,q6⟩:=ao (aj Ry N8.1 R4);have gj:W.heap.size+1+1<=w6.heap.size:=M
     obtain⟨c0,c1,c2,c3,c4,c5,c6⟩:=ao (aj Ry NWX.1 M);obtain⟨d0,d1,d2,d3,d4,d5,d6⟩:=ao (aj Ry NWY.1 M);have QN:=Z (NX.1.mv Ry);have H8A:=Z (NVA.1.mv NX.1.lo Ry);have H8B:=Z (NVB.1.mv NX.1.lo Ry);have HW8:=Z (NBE.1.trans (Ry.mono NBE.1.size));have OD:b7<w8.heap.size:=jQb hl7 Ry.size;have OE:b8<w8.heap.size:=jQb R4 Ry.size;clear nN Ry ag;cases i with
     |true=>
      have h:true=r:=by simpa using EY.1
      subst h;go_wp2;go_ret;exact⟨rfl,HW8.1⟩
     |false=>
      have j:=EY.1;simp only[jQk,jR1]at j;by_cases ye:x.ld=13
      .have kx:(x.ld==13)=true:=by simp[ye]
       rw[jQ7 ye]at j;obtain⟨ub,hub,j⟩:=jQ1.1 j;have HI:=Z (aX j);have HU:=Z hub;clear ye j hub c0 c1 c2 c3 c4 c5 c6;have c0:=(ao (aj H8.1 NWX.1 M)).1;go_wp2_with fail;have hS:=Z (show∀O,Below w8.heap.size w8 O->Below w8.heap.size w8 O/\V9 O b7 a aa ca (V8 O b8 b bb cb)from λO hb=>⟨hb,S8 hb OD p0 p1 p2 p3 p4 p5 p6 (S9 hb OE q0 q1 q2 q3 q4 q5 q6)⟩);have hU:=Z<|λ(O:World) (hb:Below w8.heap.size w8 O)=>dG w _ b ub _ O D HU.1 (QN.1.mv hb).lo (QN.1.mv hb).rd (H8B.1.mv QN.1.lo hb);have hI:=Z<|λ(O:World) (vU:Value) (hb:Below w8.heap.size w8 O) (hr:RT (Up D w8.heap.size O.heap.size) O ub vU)=>
        fA k w _ a ub (!r) _ vU O _ HI.1 ((QN.1.mv hb).up (n:=w8.heap.size) QN.1.lo hb.size) ((H8A.1.mv QN.1.lo hb).move (au.refl.wide Up.of)) hr
       refine t8 hS (jQ5 _ _).drew λai=>?_;refine t4 0 1 2 3 ?_;refine rd 4 rfl λK hK=>?_;go_simp;have hh:=ai.1;clear ai;refine(hU.1 _ hh).mono ?_;rintro eU wU ⟨vU,rfl,U0,YM⟩;obtain⟨aU,cU,rfl,hsU⟩:=U0.bR;have dI:=hh.trans (YM.mono hh.size);have HRU:=Z (U0.move (D':=Up D w8.heap.size wU.heap.size) (au.refl.wide (Up.mono hh.size (jQ0 _))));refine hK.out _ _ (hS.1 _ dI) (λai=>?_);clear hh YM U0 hsU dI;clear hK K;refine rd 5 rfl λK hK=>?_;go_simp;have hh:=ai.1;clear ai;refine(hI.1 _ _ hh HRU.1).mono ?_;rintro eI wI ⟨rfl,nW⟩;have gS:=hh.trans (nW.mono hh.size);refine hK.out _ _ (hS.1 _ gS) (λai=>?_);clear hh nW;clear hK K;refine t2 6 7 ?_;refine jQl g9 ?_ _;have xL:=Z gS;clear ai gS;exact M215
      .have kx:(x.ld==13)=false:=by simp[ye]
       rw[jQ4 ye]at j;clear ye;by_cases yf:y.ld=13
       .have ky:(y.ld==13)=true:=by simp[yf]
        rw[jQ7 yf]at j;obtain⟨ub,hub,j⟩:=jQ1.1 j;have HI:=Z (aX j);have HU:=Z hub;clear yf j hub;go_wp2_with fail;have hS:=Z (show∀O,Below w8.heap.size w8 O->Below w8.heap.size w8 O/\V9 O b7 a aa ca (V8 O b8 b bb cb)from λO hb=>⟨hb,S8 hb OD p0 p1 p2 p3 p4 p5 p6 (S9 hb OE q0 q1 q2 q3 q4 q5 q6)⟩);have hU:=Z<|λ(O:World) (hb:Below w8.heap.size w8 O)=>dG w _ a ub _ O D HU.1 (QN.1.mv hb).lo (QN.1.mv hb).rd (H8A.1.mv QN.1.lo hb);have hI:=Z<|λ(O:World) (vU:Value) (hb:Below w8.heap.size w8 O) (hr:RT (Up D w8.heap.size O.heap.size) O ub vU)=>
         fA k w _ ub b (!r) vU _ O _ HI.1 ((QN.1.mv hb).up (n:=w8.heap.size) QN.1.lo hb.size) hr ((H8B.1.mv QN.1.lo hb).move (au.refl.wide Up.of))
        go_region_held3 (λO=>Below w8.heap.size w8 O/\V9 O b7 a aa ca (V8 O b8 b bb cb))
         (first|exact hS.1 _ (jQ5 _ _).drew|assumption)
         (first
          |(go_at_call 48;have hh:=‹Below w8.heap.size w8 _/\_›;refine(hU.1 _ hh.1).mono ?_;rintro eU wU ⟨vU,rfl,U0,YM⟩;obtain⟨aU,cU,rfl,hsU⟩:=U0.bR;have dI:=hh.1.trans (YM.mono hh.1.size);have hS4:=hS.1 _ dI;have HRU:=Z (U0.move (D':=Up D w8.heap.size wU.heap.size) (au.refl.wide (Up.mono hh.1.size (jQ0 _))));clear U0 hsU)
          |(go_at_call 178;have hh:=‹Below w8.heap.size w8 _/\_›;refine(hI.1 _ _ hh.1 HRU.1).mono ?_;rintro eI wI ⟨rfl,nW⟩;have gS:=hh.1.trans (nW.mono hh.1.size);have hS6:=hS.1 _ gS))
        have xL:=Z gS;exact M215
       .have ky:(y.ld==13)=false:=by simp[yf]
        rw[jQ4 yf]at j;have ag:=fA k w _ a b (!r) _ _ w8 _ (aX j) QN.1 H8A.1 H8B.1;clear yf j;go_wp2_with fail;refine ag.mono ?_;rintro e w9 ⟨rfl,zG⟩;have HB:=Z (HW8.1.trans (zG.mono HW8.1.size));clear zG ag;exact M97
def mi(k:Nat):Prop:=∀(w:List ah) (ws:Value) (t:Y) (g:Bool) (r:Bool) (v:Value) (W:World) (D:Qx),gT w k t g=some r->Cx D w ws W->RT D W t v->
 Calls prog 22 #[ws,v,.bool g] W (ef W r)
def BC(k:Nat):Prop:=∀(w:List ah) (ws:Value) (l:List Y) (r:Bool) (v:Value) (W:World) (D:Qx),allMeant w k l=some r->Cx D w ws W->RS D W l v->
 Calls prog 51 #[ws,v] W (ef W r)
def LW(k:Nat):Prop:=∀(w:List ah) (ws:Value) (t:Y) (g:Bool) (r:Bool) (v:Value) (W:World) (D:Qx),fZ w k t g=some r->Cx D w ws W->RT D W t v->
 Calls prog 49 #[ws,v,.bool g] W (ef W r)
def TJ(k:Nat):Prop:=∀(w:List ah) (ws:Value) (t:Y) (g:Bool) (r:Bool) (v:Value) (W:World) (D:Qx),df w k t g=some r->Cx D w ws W->RT D W t v->
 Calls prog 97 #[ws,v,.bool g] W (ef W r)
def Ge(k:Nat):Prop:=∀(w:List ah) (ws:Value) (t:Y) (r:Bool) (v:Value) (W:World) (D:Qx),dY w k t=some r->Cx D w ws W->RT D W t v->
 Calls prog 137 #[ws,v] W (ef W r)
def amC(k:Nat)(ih:mi k)(w ws e)(r:Bool)(v W D)(Bw:Nat)(j:bh (gT w k e false)=some r)(H:Cx D w ws W)(hv:RT D W e v)(hB:ce W Bw 0 ws):
 Calls prog 101 #[v,.pointer (some ⟨Bw,0,none⟩)] W (ef W r):=by
 have lR:=jQs hB;simp only at lR;obtain⟨b,hb,rfl⟩:=jQ6.1 j;obtain⟨a,c,rfl,hs⟩:=hv.bR;obtain⟨wa,wc,rfl⟩:=H.rd.form;have HA:=Z (an W (bx e a c));have ag:=ih w _ e false b _ _ D hb (H.mv HA.1) (hv.mv H.lo HA.1);clear j H hv hs hb;exact M6
def BE(k:Nat)(ih:mi k):BC (k+1):=by
 intro w ws l r v W D j H hv;rw[allMeant]at j;have j:=aX j;obtain⟨wa,wc,rfl⟩:=H.rd.form;obtain⟨a,c,rfl⟩:=hv.form;have HA:=Z (an W (.cells #[.slice wa w.length wc] 22));have fw:=jQh (ak W (.cells #[.slice wa w.length wc] 22));have dF:=H.mv HA.1;have ag:=cL l _ _ D (hv.mv H.lo HA.1) dF.lo 101 #[.pointer (some ⟨W.heap.size,0,none⟩)] Tryz.call101 _ (λW1 e v bb ar _ dr ke=>
  amC k ih w _ e bb v W1 D W.heap.size ke (dF.mv ar) dr ((ar.cell (p:=⟨W.heap.size,0,none⟩) i6).trans fw)) (!r) j
 have D8:=uW;clear H hv dF fw j;exact M24
def LX(k:Nat)(Wr:mi k)(ihI:LW k)(Gf:BC k):mi (k+1):=by
 intro w ws t g r v W D j H hv;rw[gT]at j;obtain⟨a,c,rfl,hs⟩:=hv.bR;obtain⟨wa,wc,rfl⟩:=H.rd.form;have HA:=Z (an W (bx t a c));by_cases U:t.ld=2
 .have k2:(t.ld==2)=true:=by simp[U]
  rw[jQ7 U]at j;obtain⟨e,he,j⟩:=jQ1.1 j;have fV:¬t.li.length=0:=λh=>by rw[jQe h]at he;simp at he
  rcases aN.1 hs with⟨zh,_⟩|⟨bk,b,o,c1,e1,Jd,jG,kN,hC⟩
  .rw[zh]at fV;simp at fV
  simp at e1;obtain⟨rfl,rfl⟩:=e1;have hE:=(hC.at he).move (H.lo.aJ HA.1) kN;simp only[Nat.zero_mul,Nat.add_zero]at hE;obtain⟨ea,ec,f0,f1,f2,f3,f4,f5,f6,r5⟩:=hE.bR;have j6:=H.lo b kN;have ag:=Wr w _ e g r _ _ D j (H.mv HA.1) r5;clear j H hv hs hE r5 hC he U;exact M6
 .have k2:(t.ld==2)=false:=by simp[U]
  rw[jQ4 U]at j;clear U;by_cases bH:t.ld=10
  .have sq:(t.ld==10)=true:=by simp[bH]
   rw[jQ7 bH]at j;have ag:=ihI w _ t g r _ _ D j (H.mv HA.1) (hv.mv H.lo HA.1);clear j H hv hs bH;exact M6
  .have sq:(t.ld==10)=false:=by simp[bH]
   rw[jQ4 bH]at j;obtain⟨HX,HS,qM⟩:=Z3 (H.mv HA.1) (hs.mv H.lo HA.1) (ak W (bx t a c));cases g with
   |true=>
    have j:allMeant w k t.li=some r:=by simpa[fy,po]using j
    have ag:=Gf w _ t.li r _ _ D j HX.1 HS.1;clear j H hv hs bH;exact M6
   |false=>
    rcases cY j with⟨I,rfl⟩|⟨I,h3⟩
    .have hg:general w k t=some true:=by simpa[po,bh]using I
     have ag:=gM k w _ t true _ _ D hg HX.1.lo HX.1.rd (hv.mv H.lo HA.1);clear j H hv hs bH I hg;exact M6
    .have hg:general w k t=some false:=by simpa[po,bh]using I
     have ag:=gM k w _ t false _ _ D hg HX.1.lo HX.1.rd (hv.mv H.lo HA.1);have H3:=Z h3;clear j H hv hs bH I hg h3;go_in;go_wp21;refine ag.mono ?_;rintro e w1 ⟨rfl,ar⟩;have bS:=Z ar;obtain⟨c0,c1,c2,c3,c4,c5,c6⟩:=ao (aj ar qM.1 i6);have ag:=Gf w _ t.li r _ w1 D H3.1 (HX.1.mv ar) (HS.1.mv HX.1.lo ar);clear ar;go_wp21;refine ag.mono ?_;rintro e w2 ⟨rfl,cX⟩;exact M105
def UZ(k:Nat)(Wr:mi k):Ge (k+1):=by
 intro w ws x r v W D j H hv;rw[dY]at j;obtain⟨ax,cx,rfl,hs⟩:=hv.bR;obtain⟨wa,wq,rfl⟩:=H.rd.form;have HA:=Z (an W (bx x ax cx));by_cases cg:x.ld=13
 .have ll:(x.ld==13)=true:=by simp[cg]
  rw[jQ7 cg]at j;obtain⟨e,he,j⟩:=jQ1.1 j;have fV:¬x.li.length=0:=λh=>by rw[jQe h]at he;simp at he
  rcases aN.1 hs with⟨zh,_⟩|⟨bk,b,o,c1,e1,Jd,jG,kN,hC⟩
  .rw[zh]at fV;simp at fV
  simp at e1;obtain⟨rfl,rfl⟩:=e1;have hE:=(hC.at he).move (H.lo.aJ HA.1) kN;simp only[Nat.zero_mul,Nat.add_zero]at hE;obtain⟨ea,ec,f0,f1,f2,f3,f4,f5,f6,r5⟩:=hE.bR;have j6:=H.lo b kN;have pZ:=Z (HA.1.alloc i6 (bx e ea ec));have H12:=an (W.alloc (bx x (some ⟨b,o,none⟩) cx)) (bx e ea ec);have HX:=Z (H.mv pZ.1);have HE:=Z (r5.mv (H.mv HA.1).lo H12);obtain⟨p0,p1,p2,p3,p4,p5,p6⟩:=ao (ak (W.alloc (bx x (some ⟨b,o,none⟩) cx)) (bx e ea ec));simp only[jQ3]at p0 p1 p2 p3 p4 p5 p6;have iT:W.heap.size+1<((W.alloc (bx x (some ⟨b,o,none⟩) cx)).alloc (bx e ea ec)).heap.size:=i6
  have HP:=Z j;clear j H hv hs hE r5 hC he cg H12;go_in;go_wp21;generalize sj:(W.alloc (bx x (some ⟨b,o,none⟩) cx)).alloc (bx e ea ec)=w2 at pZ HX HE p0 p1 p2 p3 p4 p5 p6 iT;clear f0 f1 f2 f3 f4 f5 f6;have hS:=Z (show∀O,S5 w2 O->S5 w2 O/\V8 O (W.heap.size+1) e ea ec from λO hb=>⟨hb,S9 hb iT p0 p1 p2 p3 p4 p5 p6⟩)
  try rw[sj]
  clear sj;rcases cY HP.1 with⟨I,rfl⟩|⟨I,U⟩
  .rcases cY I with⟨h3,_⟩|⟨h3,h4⟩
   .have H3:=Z h3;clear I h3;have hM:=Z<|λ(O:World) (hb:S5 w2 O)=>Wr w _ e false false _ O D H3.1 (HX.1.mv hb) (HE.1.mv HX.1.lo hb);refine t8 hS (jQ5 _ _).drew λai=>?_;refine t2 0 1 ?_;refine rd 2 rfl λK hK=>?_;go_simp;have hh:=ai.1;clear ai;refine(hM.1 _ hh).mono ?_;rintro eA wA ⟨rfl,eP⟩;have dI:=hh.trans (eP.mono hh.size);refine hK.out _ _ (hS.1 _ dI) (λai=>?_);clear hh eP dI;clear hK K;refine t7 3 ?_;refine bg 4 ?_;refine bg 5 ?_;refine bg 6 ?_;refine bg 7 ?_;refine t2 8 9 ?_;exact M147
   .have H3:=Z h3;have H4:=Z (aX h4);clear I h3 h4;have hM:=Z<|λ(O:World) (hb:S5 w2 O)=>Wr w _ e false true _ O D H3.1 (HX.1.mv hb) (HE.1.mv HX.1.lo hb);have hF:=Z<|λ(O:World) (hb:S5 w2 O)=>dh w _ e true _ O D H4.1 (HX.1.mv hb).lo (HX.1.mv hb).rd (HE.1.mv HX.1.lo hb);refine t8 hS (jQ5 _ _).drew λai=>?_;refine t2 0 1 ?_;refine rd 2 rfl λK hK=>?_;go_simp;have hh:=ai.1;clear ai;refine(hM.1 _ hh).mono ?_;rintro eA wA ⟨rfl,eP⟩;have dI:=hh.trans (eP.mono hh.size);refine hK.out _ _ (hS.1 _ dI) (λai=>?_);clear hh eP dI;clear hK K;refine t2 3 4 ?_;refine t7 5 ?_;refine rd 6 rfl λK hK=>?_;go_simp;have hh:=ai.1;clear ai;refine(hF.1 _ hh).mono ?_;rintro eA wA ⟨rfl,eP⟩;have dI:=hh.trans (eP.mono hh.size);refine hK.out _ _ (hS.1 _ dI) (λai=>?_);clear hh eP dI;clear hK K;refine t2 7 8 ?_;refine t7 9 ?_;exact M147
  .rcases cY I with⟨_,h3⟩|⟨h3,h4⟩
   .cases h3
   .obtain⟨u,hu,hid⟩:=jQ1.1 U;obtain⟨H3,H4,HU,HI⟩:=Z4 h3 (aX h4) hu hid;clear I h3 h4 U hu hid;have hM:=Z<|λ(O:World) (hb:S5 w2 O)=>Wr w _ e false true _ O D H3.1 (HX.1.mv hb) (HE.1.mv HX.1.lo hb);have hF:=Z<|λ(O:World) (hb:S5 w2 O)=>dh w _ e false _ O D H4.1 (HX.1.mv hb).lo (HX.1.mv hb).rd (HE.1.mv HX.1.lo hb);have hU:=Z<|λ(O:World) (hb:S5 w2 O)=>dG w _ e u _ O D HU.1 (HX.1.mv hb).lo (HX.1.mv hb).rd (HE.1.mv HX.1.lo hb);have hI:=Z<|λ(O:World) (vU:Value) (hb:S5 w2 O) (hr:RT (Up D w2.heap.size O.heap.size) O u vU)=>
     fA k w _ e u r _ vU O _ HI.1 ((HX.1.mv hb).up (n:=w2.heap.size) HX.1.lo hb.size) ((HE.1.mv HX.1.lo hb).move (au.refl.wide Up.of)) hr
    refine t8 hS (jQ5 _ _).drew λai=>?_;refine t2 0 1 ?_;refine rd 2 rfl λK hK=>?_;go_simp;have hh:=ai.1;clear ai;refine(hM.1 _ hh).mono ?_;rintro eA wA ⟨rfl,eP⟩;have dI:=hh.trans (eP.mono hh.size);refine hK.out _ _ (hS.1 _ dI) (λai=>?_);clear hh eP dI;clear hK K;refine t2 3 4 ?_;refine t7 5 ?_;refine rd 6 rfl λK hK=>?_;go_simp;have hh:=ai.1;clear ai;refine(hF.1 _ hh).mono ?_;rintro eA wA ⟨rfl,eP⟩;have dI:=hh.trans (eP.mono hh.size);refine hK.out _ _ (hS.1 _ dI) (λai=>?_);clear hh eP dI;clear hK K;refine t4 7 8 9 10 ?_;refine t2 11 12 ?_;refine t7 13 ?_;refine rd 14 rfl λK hK=>?_;go_simp;have hh:=ai.1;clear ai;refine(hU.1 _ hh).mono ?_;rintro eU wU ⟨vU,rfl,U0,YM⟩;obtain⟨aU,cU,rfl,hsU⟩:=U0.bR;have dI:=hh.trans (YM.mono hh.size);have HRU:=Z (U0.move (D':=Up D w2.heap.size wU.heap.size) (au.refl.wide (Up.mono hh.size (jQ0 _))));refine hK.out _ _ (hS.1 _ dI) (λai=>?_);clear hh YM U0 hsU dI;clear hK K;refine rd 15 rfl λK hK=>?_;go_simp;have hh:=ai.1;clear ai;refine(hI.1 _ _ hh HRU.1).mono ?_;rintro eI wI ⟨rfl,nW⟩;have gS:=hh.trans (nW.mono hh.size);refine hK.out _ _ (hS.1 _ gS) (λai=>?_);clear hh nW gS;clear hK K;refine t2 16 17 ?_;exact M57
 .have ll:(x.ld==13)=false:=by simp[cg]
  rw[jQ4 cg]at j;obtain⟨i,hi,j⟩:=jQ1.1 j;have pZ:=HA;have HX:=Z (H.mv HA.1);have HE:=Z (hv.mv H.lo HA.1);obtain⟨p0,p1,p2,p3,p4,p5,p6⟩:=ao (ak W (bx x ax cx));have iT:W.heap.size<(W.alloc (bx x ax cx)).heap.size:=i6
  have H3:=Z hi;have H4:=Z j;clear j H hv hs cg hi;go_in;go_wp21;generalize sj:W.alloc (bx x ax cx)=w2 at pZ HX HE p0 p1 p2 p3 p4 p5 p6 iT;have hS:=Z (show∀O,S5 w2 O->S5 w2 O/\V8 O W.heap.size x ax cx from λO hb=>⟨hb,S9 hb iT p0 p1 p2 p3 p4 p5 p6⟩)
  try rw[sj]
  clear sj;have hM:=Z<|λ(O:World) (hb:S5 w2 O)=>Wr w _ x i r _ O D H4.1 (HX.1.mv hb) (HE.1.mv HX.1.lo hb);have hF:=Z<|λ(O:World) (hb:S5 w2 O)=>dh w _ x i _ O D H3.1 (HX.1.mv hb).lo (HX.1.mv hb).rd (HE.1.mv HX.1.lo hb);refine t8 hS (jQ5 _ _).drew λai=>?_;refine t4 0 1 2 3 ?_;refine rd 4 rfl λK hK=>?_;go_simp;have hh:=ai.1;clear ai;refine(hF.1 _ hh).mono ?_;rintro eA wA ⟨rfl,eP⟩;have dI:=hh.trans (eP.mono hh.size);refine hK.out _ _ (hS.1 _ dI) (λai=>?_);clear hh eP dI;clear hK K;refine rd 5 rfl λK hK=>?_;go_simp;have hh:=ai.1;clear ai;refine(hM.1 _ hh).mono ?_;rintro eA wA ⟨rfl,eP⟩;have dI:=hh.trans (eP.mono hh.size);refine hK.out _ _ (hS.1 _ dI) (λai=>?_);clear hh eP dI;clear hK K;refine t7 6 ?_;exact M57
def rsC(k:Nat)(Wr:mi k)(w ws e)(r:Bool)(v W D)(Bw:Nat)(j:po (po (bh (placed w k e {decls:=w.length,value:=false,term:=false})) (bh (isIface w e))) (bh (gT w k e true))=some r)(hn:NB e)(H:Cx D w ws W)(hv:RT D W e v)(hB:ce W Bw 0 ws):
 Calls prog 19 #[v,.pointer (some ⟨Bw,0,none⟩)] W (ef W r):=by
 have lR:=jQs hB;simp only at lR;obtain⟨a,c,rfl,hs⟩:=hv.bR;obtain⟨wa,wq,rfl⟩:=H.rd.form;have HA:=Z (an W (bx e a c));have d0:=(HA.1.cell (p:=⟨Bw,0,none⟩) lR).trans hB;obtain⟨c0,c1,c2,c3,c4,c5,c6⟩:=ao (ak W (bx e a c));obtain⟨qM,HX,HV⟩:=Z3 (ak W (bx e a c)) (H.mv HA.1) (hv.mv H.lo HA.1);have hP:=(ui k).1;rcases gN j with⟨I,rfl⟩|⟨I,U⟩
 .rcases gN I with⟨h3,_⟩|⟨h3,h4⟩
  .have ag:=hP w _ e ⟨w.length,false,false⟩ false _ _ D (aX h3) hn HX.1 HV.1;clear j H hv hn I h3 hs;go_in;go_wp21;refine ag.mono ?_;rintro e' w1 ⟨rfl,ar⟩;have HB:=Z (HA.1.trans (ar.mono HA.1.size));exact M218
  .have ag:=hP w _ e ⟨w.length,false,false⟩ true _ _ D (aX h3) hn HX.1 HV.1;have H4:=Z (aX h4);clear j H hv hn I h3 h4 hs;go_in;go_wp21;refine ag.mono ?_;rintro e' w1 ⟨rfl,ar⟩;clear c0 c1 c2 c3 c4 c5 c6;obtain⟨c0,c1,c2,c3,c4,c5,c6⟩:=ao (aj ar qM.1 i6);have d1:=(ar.cell (p:=⟨Bw,0,none⟩) (by simp;omega)).trans d0;have bS:=Z ar;have ag:=dh w _ e false _ w1 D H4.1 (HX.1.mv ar).lo (HX.1.mv ar).rd (HV.1.mv HX.1.lo ar);clear ar;exact M207
 .rcases gN I with⟨_,h3⟩|⟨h3,h4⟩
  .cases h3
  .have ag:=hP w _ e ⟨w.length,false,false⟩ true _ _ D (aX h3) hn HX.1 HV.1;have H4:=Z (aX h4);have H5:=Z (aX U);clear j H hv hn I h3 h4 U hs;go_in;go_wp21;refine ag.mono ?_;rintro e' w1 ⟨rfl,ar⟩;clear c0 c1 c2 c3 c4 c5 c6;obtain⟨c0,c1,c2,c3,c4,c5,c6⟩:=ao (aj ar qM.1 i6);have d1:=(ar.cell (p:=⟨Bw,0,none⟩) (by simp;omega)).trans d0;have bS:=Z ar;have ag:=dh w _ e true _ w1 D H4.1 (HX.1.mv ar).lo (HX.1.mv ar).rd (HV.1.mv HX.1.lo ar);clear ar;go_wp21;refine ag.mono ?_;rintro e' w2 ⟨rfl,cX⟩;have ar:=bS.1.trans (cX.mono bS.1.size);clear d1;clear c0 c1 c2 c3 c4 c5 c6;obtain⟨c0,c1,c2,c3,c4,c5,c6⟩:=ao (aj ar qM.1 i6);have d1:=(ar.cell (p:=⟨Bw,0,none⟩) (by simp;omega)).trans d0;have dP:=Z ar;have ag:=Wr w _ e true (!r) _ w2 D H5.1 (HX.1.mv ar) (HV.1.mv HX.1.lo ar);clear ar cX;go_wp21;refine ag.mono ?_;rintro e' w3 ⟨rfl,aZ⟩;have HB:=Z (HA.1.trans ((dP.1.trans (aZ.mono dP.1.size)).mono HA.1.size));clear aZ ag;exact M97
def Ci(k:Nat)(Wr:mi k)(w ws l)(r:Bool)(v W D)(j:nZ k w l=some r)(hn:∀e∈l,NB e)(H:Cx D w ws W)(hv:RS D W l v):
 Calls prog 9 #[ws,v] W (ef W r):=by
 have j:=aX j;obtain⟨wa,wq,rfl⟩:=H.rd.form;obtain⟨a,c,rfl⟩:=hv.form;have HA:=Z (an W (.cells #[.slice wa w.length wq] 22));have fw:=jQh (ak W (.cells #[.slice wa w.length wq] 22));have dF:=H.mv HA.1;have ag:=cL l _ _ D (hv.mv H.lo HA.1) dF.lo 19 #[.pointer (some ⟨W.heap.size,0,none⟩)] Tryz.call19 _ (λW1 e v bb ar hm dr ke=>
  rsC k Wr w _ e bb v W1 D W.heap.size ke (hn e hm) (dF.mv ar) dr ((ar.cell (p:=⟨W.heap.size,0,none⟩) i6).trans fw)) (!r) j
 have D8:=uW;clear H hv dF fw j hn;exact M24
def F3(k:Nat):Prop:=∀(w:List ah) (ws:Value) (t:Y) (r:Int) (v:Value) (W:World) (D:Qx),S.written w k t=some r->Cx D w ws W->RT D W t v->
 Calls prog 99 #[ws,v] W λe W'=>e=.returned (.int .i64 r)/\S5 W W'
def miF(w:List ah)(k:Nat)(g:Bool)(_:Nat)(e:Y):Option (Option Bool):=(df w k e g).map λb=>if b then none else some false
def Ut(k:Nat)(ihE:TJ k)(Gf:BC k)(ihW:F3 k):LW (k+1):=by
 intro w ws t g r v W D j H hv;rw[fZ]at j;obtain⟨l,hl,j⟩:=jQ1.1 j;obtain⟨rr,Ay,j⟩:=jQ1.1 j;have Ay:rangeM (miF w k g) 0 l=some rr:=Ay;obtain⟨a,c,rfl,hs⟩:=hv.bR;obtain⟨wa,wq,rfl⟩:=H.rd.form;have HA:=Z (an W (bx t a c));obtain⟨HX,HV,HS⟩:=Z3 (H.mv HA.1) (hv.mv H.lo HA.1) (hs.mv H.lo HA.1);obtain⟨a2,c2,pT,su⟩:=RS.from HS.1 hl;obtain⟨HL,Hq,HP,qM⟩:=Z4 su Ay j (ak W (bx t a c));have iT:W.heap.size<(W.alloc (bx t a c)).heap.size:=i6
 have Wj:l.length<=9223372036854775807:=M172
 clear j H hv hs hl Ay su;go_in;go_wp21;generalize Hr:W.alloc (bx t a c)=wn at HA HX HV HS HL qM iT
 try rw[Hr]
 go_loopg [8,15] l.length (λgg _ s15 wr=>∃kk:Nat,kk<=l.length/\l.length - kk<=gg/\s15=.int .i64 kk/\Aside (S5 wn wr)/\Aside (rangeM (miF w k g) kk (l.drop kk)=some rr))
 case atStart=>exact⟨0,jQc _,M,rfl,jQ5 _ _,by rw[jR0];exact Hq.1⟩
 case round=>
  obtain⟨kk,ez,hg,rfl,BW,A⟩:=hrel;by_cases aM:kk<l.length
  .have aR:(kk:Int)<(l.length:Int):=M
   obtain⟨e,he⟩:∃e,l[kk]?=some e:=⟨l[kk],by simp[aM]⟩;have ie:=kW (drop_at he) A.out;rcases aN.1 HL.1 with⟨zh,_⟩|⟨_,b2,o2,xv,dN,fh,fL,du,gX⟩
   .rw[zh]at aM;simp at aM
   simp at dN;obtain⟨rfl,rfl⟩:=dN;have hE:=(gX.at he).move (HX.1.lo.aJ BW.out) du;obtain⟨sa,sc,f0,f1,f2,f3,f4,f5,f6,iL⟩:=hE.bR;have dZ:=BW.out.size;have B1:=Z (an wr (bx e sa sc));have pA:=Z ((HX.1.mv BW.out).mv B1.1);have Q9:∃b,df w k e g=some b/\((b=false/\r=false)\/(b=true/\rangeM (miF w k g) (kk+1) (l.drop (kk+1))=some rr)):=by
    rcases ie with⟨b,I,U⟩|⟨I,U⟩
    .obtain⟨b',dD,h3⟩:=jQ6.1 I;cases b' with
     |true=>simp at h3
     |false=>
      have X7:b=false:=G9 h3.symm
      subst X7 U;have:some false=some r:=HP.1;exact⟨false,dD,.inl ⟨rfl,G9 this.symm⟩⟩
    .obtain⟨b',dD,h3⟩:=jQ6.1 I;cases b' with
     |true=>exact⟨true,dD,.inr ⟨rfl,U⟩⟩
     |false=>simp at h3
   obtain⟨b,hb,lE⟩:=Q9;have ag:=ihE w _ e g b _ _ D hb pA.1 (iL.mv (HX.1.mv BW.out).lo B1.1);clear hE gX iL he ie A hb;rcases lE with⟨rfl,rfl⟩|⟨rfl,jM⟩
   .go_wp21;refine ag.mono ?_;rintro e' w1 ⟨rfl,ar⟩;have HB:=Z (HA.1.trans ((BW.out.trans ((B1.1.trans (ar.mono B1.1.size)).mono dZ)).mono HA.1.size));exact M218
   .have nb:=Z jM;clear jM;go_wp21;refine ag.mono ?_;rintro e' w1 ⟨rfl,ar⟩;have HB:=Z (BW.out.trans ((B1.1.trans (ar.mono B1.1.size)).mono dZ));clear ar ag;go_wp21;go_roundg (l.length - (kk+1))
    case measure=>omega
    case rel=>exact⟨kk+1,M,M,by go_num,HB.1,nb.1⟩
  .have aR:¬(kk:Int)<(l.length:Int):=M
   have hA:=A.out;rw[jQf M,rangeM]at hA;have SB:rr=none:=G9 hA.symm
   subst SB;have j:(mq t.m t.li).bind (λms=>fy (fy (allMeant w k ms) (agree k w t)) ((S.written w k t).map λn=>decide (n<=50)))=some r:=HP.1;obtain⟨ms,jK,j⟩:=jQ1.1 j;obtain⟨zC,EM⟩:=RS.upto (HS.1.mv HX.1.lo BW.out) jK;have dZ:=BW.out.size;have ab6:=aj BW.out qM.1 iT;have Ma:W.heap.size<wr.heap.size:=M
   have HBr:=Z ab6;obtain⟨c0,c1,xv,c3,c4,c5,c6⟩:=ao ab6;obtain⟨pA,HVr,ej⟩:=Z3 (HX.1.mv BW.out) (HV.1.mv HX.1.lo BW.out) (HA.1.trans (BW.out.mono HA.1.size));clear ab6 hA A jK;rcases cY j with⟨I,rfl⟩|⟨I,U⟩
   .rcases cY I with⟨h3,_⟩|⟨h3,h4⟩
    .have ag:=Gf w _ ms false _ wr D h3 pA.1 EM;clear j I h3 EM;go_wp21;refine ag.mono ?_;rintro e' w1 ⟨rfl,ar⟩;have HB:=Z (ej.1.trans (ar.mono ej.1.size));exact M218
    .have ag:=Gf w _ ms true _ wr D h3 pA.1 EM;have H4:=Z h4;clear j I h3 h4 EM;go_wp21;refine ag.mono ?_;rintro e' w1 ⟨rfl,ar⟩;have bS:=Z ar;clear c0 c1 xv c3 c4 c5 c6;obtain⟨c0,c1,xv,c3,c4,c5,c6⟩:=ao (aj ar HBr.1 Ma);clear ar;have ag:=yv k w _ t false _ w1 D H4.1 (pA.1.mv bS.1) (HVr.1.mv pA.1.lo bS.1);go_wp21;refine ag.mono ?_;rintro e' w2 ⟨rfl,cX⟩;have HB:=Z (ej.1.trans ((bS.1.trans (cX.mono bS.1.size)).mono ej.1.size));clear cX ag;exact M40
   .rcases cY I with⟨_,h3⟩|⟨h3,h4⟩
    .cases h3
    .obtain⟨n,hn,hr⟩:=jQ6.1 U;have ag:=Gf w _ ms true _ wr D h3 pA.1 EM;obtain⟨H4,H5,HR⟩:=Z3 h4 hn hr;clear j I h3 h4 U hn hr EM;go_wp21;refine ag.mono ?_;rintro e' w1 ⟨rfl,ar⟩;have bS:=Z ar;clear c0 c1 xv c3 c4 c5 c6;obtain⟨c0,c1,xv,c3,c4,c5,c6⟩:=ao (aj ar HBr.1 Ma);clear ar;have ag:=yv k w _ t true _ w1 D H4.1 (pA.1.mv bS.1) (HVr.1.mv pA.1.lo bS.1);go_wp21;refine ag.mono ?_;rintro e' w2 ⟨rfl,cX⟩;have ar:=bS.1.trans (cX.mono bS.1.size);clear cX;have HB1':=bS;clear bS;have bS:=Z ar;clear c0 c1 xv c3 c4 c5 c6;obtain⟨c0,c1,xv,c3,c4,c5,c6⟩:=ao (aj ar HBr.1 Ma);clear ar;have ag:=ihW w _ t n _ w2 D H5.1 (pA.1.mv bS.1) (HVr.1.mv pA.1.lo bS.1);go_wp21;refine ag.mono ?_;rintro e' w3 ⟨rfl,aZ⟩;have HB:=Z (ej.1.trans ((bS.1.trans (aZ.mono bS.1.size)).mono ej.1.size));clear aZ ag;go_wp2;go_ret;exact⟨by rw[<-HR.1];simp,HB.1⟩
def eeC(k:Nat)(w ws x y)(r:Bool)(v W D)(Bw Bx:Nat)(j:bh (iR k w x y)=some r)(H:Cx D w ws W)(hv:RT D W y v)(hs:RS D W x.li (.slice ax x.li.length cx))(hB:ce W Bw 0 ws)(hX:W.heap[Bx]?=some (bx x ax cx)):
 Calls prog 141 #[v,.pointer (some ⟨Bw,0,none⟩),.pointer (some ⟨Bx,0,none⟩)] W (ef W r):=by
 have lR:=jQs hB;have Rj:=jQ2 hX;simp only at lR;obtain⟨b,hb,rfl⟩:=jQ6.1 j;obtain⟨c0,c1,c2,c3,c4,c5,c6⟩:=ao hX;obtain⟨a,c,rfl,rV⟩:=hv.bR;obtain⟨wa,wq,rfl⟩:=H.rd.form;have HA:=Z (an W (bx y a c));have ag:=MG k w _ x y b _ _ _ D hb (H.mv HA.1) ((RT.mk' hs).mv H.lo HA.1) (hv.mv H.lo HA.1);clear j H hv hs rV hb hX;exact M6
def acX(k:Nat)(ihT:Ge k)(w ws t)(g:Bool)(r:Bool)(v W D)(j:df w (k+1) t g=some r)(cQ:t.ld≠12)(H:Cx D w ws W)(hv:RT D W t v):
 Calls prog 97 #[ws,v,.bool g] W (ef W r):=by
 rw[df,jQ7 cQ]at j;have tT:(t.ld !=12)=true:=by simp[cQ]
 obtain⟨a,c,rfl,hs⟩:=hv.bR;obtain⟨wa,wq,rfl⟩:=H.rd.form;have HA:=Z (dT W (.cells #[.slice wa w.length wq] 22) (bx t a c));obtain⟨HX,HV,HD,qM⟩:=Z4 (H.mv HA.1) (hv.mv H.lo HA.1) (jQh (aq (o:=bx t a c) (ak W (.cells #[.slice wa w.length wq] 22)))) (show((W.alloc (.cells #[.slice wa w.length wq] 22)).alloc (bx t a c)).heap[W.heap.size+1]?=some (bx t a c)by have:=ak (W.alloc (.cells #[.slice wa w.length wq] 22)) (bx t a c);simpa using this);have zI:W.heap.size<((W.alloc (.cells #[.slice wa w.length wq] 22)).alloc (bx t a c)).heap.size:=by simp;omega
 have iT:W.heap.size+1<((W.alloc (.cells #[.slice wa w.length wq] 22)).alloc (bx t a c)).heap.size:=i6
 obtain⟨c0,c1,c2,c3,c4,c5,c6⟩:=ao qM.1;have d0:=HD.1;have HP:=Z j;clear j H hv hs cQ;rcases cY HP.1 with⟨I,rfl⟩|⟨I,U⟩
 .have ag:=ihT w _ t false _ _ D I HX.1 HV.1;clear I c0 c1 c2 c3 c4 c5 c6 d0;exact M6
 .have ag:=ihT w _ t true _ _ D I HX.1 HV.1;have H2:=Z U;clear I U;cases g with
  |true=>
   have h:true=r:=by simpa[po]using H2.1
   subst h;clear c0 c1 c2 c3 c4 c5 c6 d0;exact M6
  |false=>
   have U:fy (bU w t) (bh (general w k t))=some r:=by simpa[po]using H2.1
   rcases cY U with⟨h3,rfl⟩|⟨h3,h4⟩
   .have H3:=Z h3;clear U h3;go_in;go_wp21;refine ag.mono ?_;rintro e w1 ⟨rfl,ar⟩;have bS:=Z ar;clear c0 c1 c2 c3 c4 c5 c6 d0;obtain⟨c0,c1,c2,c3,c4,c5,c6⟩:=ao (aj ar qM.1 iT);have d0:=(ar.cell (p:=⟨W.heap.size,0,none⟩) zI).trans HD.1;clear ar;have ag:=gl w _ t false _ w1 D H3.1 (HX.1.mv bS.1) (HV.1.mv HX.1.lo bS.1);exact M123
   .have H3:=Z h3;have H4:=Z (aX h4);clear U h3 h4;go_in;go_wp21;refine ag.mono ?_;rintro e w1 ⟨rfl,ar⟩;have bS:=Z ar;clear c0 c1 c2 c3 c4 c5 c6 d0;obtain⟨c0,c1,c2,c3,c4,c5,c6⟩:=ao (aj ar qM.1 iT);have d0:=(ar.cell (p:=⟨W.heap.size,0,none⟩) zI).trans HD.1;clear ar;have ag:=gl w _ t true _ w1 D H3.1 (HX.1.mv bS.1) (HV.1.mv HX.1.lo bS.1);go_wp21;refine ag.mono ?_;rintro e w2 ⟨rfl,cX⟩;have ar:=bS.1.trans (cX.mono bS.1.size);clear cX bS;have bS:=Z ar;clear c0 c1 c2 c3 c4 c5 c6 d0;obtain⟨c0,c1,c2,c3,c4,c5,c6⟩:=ao (aj ar qM.1 iT);have d0:=(ar.cell (p:=⟨W.heap.size,0,none⟩) zI).trans HD.1;clear ar;have ag:=gM k w _ t (!r) _ w2 D H4.1 (HX.1.mv bS.1).lo (HX.1.mv bS.1).rd (HV.1.mv HX.1.lo bS.1);exact M123
def VM(D:Qx)(W:World)(m:aH)(v:Value):Prop:=
 ∃a c,v=.agg #[.string m.name,.bool m.ptr,.int .i64 m.sig.ld,.int .i64 m.sig.n,.int .i64 m.sig.m,.bool m.sig.va,.string m.sig.name,.string m.sig.gc,.slice a m.sig.li.length c]/\RS D W m.sig.li (.slice a m.sig.li.length c)
def aah(D:Qx)(W:World)(g:Nat)(lb:Array Value)(zs:List aH)(p:aH->Option Bool):Prop:=
 ∀(W1:World) (t:aH) (v:Value) (bb:Bool),S5 W W1->t∈zs->VM D W1 t v->p t=some bb->
  Calls prog g (#[v]++lb) W1 λe W2=>e=.returned (.bool bb)/\S5 W1 W2
def L0(zs:List aH)(sl W D)(hs:RM D W zs sl)(hD:Lo D W.heap.size)(g:Nat)(lb:Array Value)(eg:∀args w,(callFunc g args).run prog w=.ok (.enter g args) w)(p:aH->Option Bool)(j:aah D W g lb zs p)(r:Bool)(hr:anyM p zs=some r):
 Calls prog 92 #[sl,.func (.func g) #[] lb] W (abF W r):=by
 rcases hs with⟨rfl,a,c,rfl,ha⟩|⟨bk,b,o,c,rfl,Jd,hc,kN,hC⟩
 .exact M39
 .have hz:zs.length<=9223372036854775807:=M
  have hbW:=hD b kN;go_in;go_wp2
  go_loopg [5,8] zs.length (λgg _ s8 wr=>∃kk:Nat,kk<=zs.length/\zs.length - kk<=gg/\s8=.int .i64 kk/\Aside (S5 W wr)/\Aside (anyM p (zs.drop kk)=some r))
  case atStart=>exact⟨0,jQc _,M,rfl,jQ5 _ W,by simpa[Aside]using hr⟩
  case round=>
   obtain⟨kk,ez,hg,rfl,BW,A⟩:=hrel;by_cases aM:kk<zs.length
   .have aR:(kk:Int)<(zs.length:Int):=M
    obtain⟨t,ht⟩:∃t,zs[kk]?=some t:=⟨zs[kk],by simp[aM]⟩;obtain⟨n0,n1,hE⟩:=(RMC.move (hD.aJ BW.out) kN hC).at ht;obtain⟨a1,q1,c0,c1,c2,c3,c4,c5,c6,hv⟩:=hE.bR;obtain⟨a1',q1',e',VS⟩:=hv.bR;simp at e';obtain⟨rfl,rfl⟩:=e';have bL:zs.drop kk=t::zs.drop (kk+1):=M187
    have hA:=A.out;rw[bL,anyM]at hA;obtain⟨bb,mO,hA2⟩:=jQ1.1 hA;have ag:=j wr t _ bb BW.out (jQ8 ht) ⟨a1,q1,rfl,VS⟩ mO;clear hE hA j hr hv ht VS hC;exact M19
   .exact M52
def yG(zs:List aH)(sl W D)(hs:RM D W zs sl)(hD:Lo D W.heap.size)(g:Nat)(lb:Array Value)(eg:∀args w,(callFunc g args).run prog w=.ok (.enter g args) w)(p:aH->Option Bool)(j:aah D W g lb zs p)(r:Bool)(hr:anyM p zs=some r):
 Calls prog 39 #[sl,.func (.func g) #[] lb] W λe W'=>e=.returned (.bool r)/\S5 W W':=by
 go_in;go_wp2_with (go_at_call 92;refine(L0 zs sl W D hs hD g lb eg p j r hr).mono ?_;rintro e O ⟨q,rfl,hq,hb⟩);go_ret;exact⟨by simp[<-hq],hb⟩
def euB(w:List ah)(k:Nat)(t:Y)(i:Nat)(x:Y):Option Bool:=
 po (po (bh (dY w k x)) (fy (bU w x) (po ((required w k x).map λr=>decide (r.length>0)) (gD w k x)))) (anyM (λy=>bh (iR k w x y)) (t.li.take i))
def euF(w:List ah)(k:Nat)(t:Y)(i:Nat)(x:Y):Option (Option Bool):=(euB w k t i x).map λb=>if b then some false else none
def Vn(h:euB w k t i x=some b):
 (dY w k x=some false/\b=true)\/
 (dY w k x=some true/\bU w x=some false/\anyM (λy=>bh (iR k w x y)) (t.li.take i)=some b)\/
 (dY w k x=some true/\bU w x=some true/\∃l,required w k x=some l/\((0<l.length/\b=true)\/(l.length=0/\gD w k x=some true/\b=true)\/
  (l.length=0/\gD w k x=some false/\anyM (λy=>bh (iR k w x y)) (t.li.take i)=some b))):=by
 unfold euB at h;rcases gN h with⟨I,rfl⟩|⟨I,U⟩
 .rcases gN I with⟨h3,_⟩|⟨h3,h4⟩
  .exact .inl ⟨aX h3,rfl⟩
  .rcases cY h4 with⟨h5,h6⟩|⟨h5,h6⟩
   .cases h6
   .refine .inr (.inr ⟨aX h3,h5,?_⟩);rcases gN h6 with⟨h7,_⟩|⟨h7,h8⟩
    .obtain⟨l,hl,hd⟩:=jQ6.1 h7;exact⟨l,hl,.inl ⟨G9 hd,rfl⟩⟩
    .obtain⟨l,hl,hd⟩:=jQ6.1 h7;exact⟨l,hl,.inr (.inl ⟨G9 hd,h8,rfl⟩)⟩
 .rcases gN I with⟨_,h3⟩|⟨h3,h4⟩
  .cases h3
  .rcases cY h4 with⟨h5,_⟩|⟨h5,h6⟩
   .exact .inr (.inl ⟨aX h3,h5,U⟩)
   .refine .inr (.inr ⟨aX h3,h5,?_⟩);rcases gN h6 with⟨_,h7⟩|⟨h7,h8⟩
    .cases h7
    .obtain⟨l,hl,hd⟩:=jQ6.1 h7;exact⟨l,hl,.inr (.inr ⟨G9 hd,h8,U⟩)⟩
def RT.X0{D:Qx}{W:World}{n:Nat}(h:RT D W t (.agg #[.int .i64 t.ld,.int .i64 t.n,.int .i64 t.m,.bool t.va,.string t.name,.string t.gc,.slice a n c])):RS D W t.li (.slice a n c):=by
 obtain⟨a',c',e,hs⟩:=h.bR;simp at e;obtain⟨rfl,rfl,rfl⟩:=e;exact hs
def afY(k:Nat)(ihT:Ge k)(w ws t)(g:Bool)(r:Bool)(v W D)(j:df w (k+1) t g=some r)(cQ:t.ld=12)(H:Cx D w ws W)(hv:RT D W t v):
 Calls prog 97 #[ws,v,.bool g] W (ef W r):=by
 rw[df,jQ4 (G9 cQ)]at j;obtain⟨rr,Ay,j⟩:=jQ6.1 j;have Ay:rangeM (euF w k t) 0 t.li=some rr:=Ay;have tT:(t.ld !=12)=false:=by simp[cQ]
 obtain⟨a,c,rfl,hs⟩:=hv.bR;obtain⟨wa,wq,rfl⟩:=H.rd.form;have HA:=Z (dT W (.cells #[.slice wa w.length wq] 22) (bx t a c));obtain⟨HX,HS,Hq,HP,HD0,qM⟩:=Z6 (H.mv HA.1) (hs.mv H.lo HA.1) Ay j (jQh (aq (o:=bx t a c) (ak W (.cells #[.slice wa w.length wq] 22)))) (show((W.alloc (.cells #[.slice wa w.length wq] 22)).alloc (bx t a c)).heap[W.heap.size+1]?=some (bx t a c)by have:=ak (W.alloc (.cells #[.slice wa w.length wq] 22)) (bx t a c);simpa using this);have zI:W.heap.size<((W.alloc (.cells #[.slice wa w.length wq] 22)).alloc (bx t a c)).heap.size:=by simp;omega
 have iT:W.heap.size+1<((W.alloc (.cells #[.slice wa w.length wq] 22)).alloc (bx t a c)).heap.size:=i6
 obtain⟨c0,c1,c2,c3,c4,c5,c6⟩:=ao qM.1;have HC0:=Z c6;have Wj:t.li.length<=9223372036854775807:=by
  rcases aN.1 hs with⟨he,_⟩|⟨_,b2,o2,xv,dN,fh,fL,du,gX⟩
  .rw[he];simp
  .simp at dN;omega
 clear j H hv hs Ay cQ;go_in;go_wp21;clear c0 c1 c2 c3 c4 c5 c6;generalize Hr:(W.alloc (.cells #[.slice wa w.length wq] 22)).alloc (bx t a c)=wn at HA HX HS HD0 qM HC0 zI iT
 try rw[Hr]
 go_loopg [7,8,32] t.li.length (λgg _ _ s32 wr=>∃kk:Nat,kk<=t.li.length/\t.li.length - kk<=gg/\s32=.int .i64 kk/\Aside (S5 wn wr)/\Aside (rangeM (euF w k t) kk (t.li.drop kk)=some rr))
 case atStart=>exact⟨0,jQc _,M,rfl,jQ5 _ _,by rw[jR0];exact Hq.1⟩
 case round=>
  obtain⟨kk,ez,hg,rfl,BW,A⟩:=hrel;by_cases aM:kk<t.li.length
  .have aR:(kk:Int)<(t.li.length:Int):=M
   obtain⟨x,LL⟩:∃e,t.li[kk]?=some e:=⟨t.li[kk],by simp[aM]⟩;have ie:=kW (drop_at LL) A.out;rcases aN.1 HS.1 with⟨zh,_⟩|⟨_,b2,o2,xv,dN,ag8,fL,du,gX⟩
   .rw[zh]at aM;simp at aM
   simp at dN;obtain⟨rfl,rfl⟩:=dN;have hE:=(gX.at LL).move (HX.1.lo.aJ BW.out) du;obtain⟨sa,sc,f0,f1,f2,f3,f4,f5,f6,iL⟩:=hE.bR;have mO:∃bb,euB w k t kk x=some bb/\((bb=true/\rr=some false)\/(bb=false/\rangeM (euF w k t) (kk+1) (t.li.drop (kk+1))=some rr)):=by
    rcases ie with⟨b',I,U⟩|⟨I,U⟩
    .obtain⟨b,hb,h3⟩:=jQ6.1 I;cases b with
     |true=>exact⟨true,hb,.inl ⟨rfl,by rw[U];simpa using h3.symm⟩⟩
     |false=>simp at h3
    .obtain⟨b,hb,h3⟩:=jQ6.1 I;cases b with
     |false=>exact⟨false,hb,.inr ⟨rfl,U⟩⟩
     |true=>simp at h3
   obtain⟨bb,mO,lE⟩:=mO;have dZ:=BW.out.size;have B1:=Z (an wr (bx x sa sc));have pA:=Z (HX.1.mv BW.out);have oT:=Z (pA.1.mv B1.1);have Vo:=Z ((iL.mv pA.1.lo B1.1:RT D _ x _));have d0:=(B1.1.cell (p:=⟨W.heap.size,0,none⟩) (by simp only;omega)).trans ((BW.out.cell (p:=⟨W.heap.size,0,none⟩) zI).trans HD0.1);have c6:=(B1.1.cell (p:=⟨W.heap.size+1,6,none⟩) (by simp only;omega)).trans ((BW.out.cell (p:=⟨W.heap.size+1,6,none⟩) iT).trans HC0.1);have yX:=Z (ak wr (bx x sa sc));have fV:W.heap.size<(wr.alloc (bx x sa sc)).heap.size:=by simp;omega
   have dQ:W.heap.size+1<(wr.alloc (bx x sa sc)).heap.size:=by simp;omega
   have fh:wr.heap.size<(wr.alloc (bx x sa sc)).heap.size:=i6
   obtain⟨e0,e1,e2,e3,e4,e5,e6⟩:=ao yX.1;obtain⟨HD,HC6,HSx,ej⟩:=Z4 d0 c6 (HS.1.mv HX.1.lo (BW.out.trans (B1.1.mono dZ))) (BW.out.trans (B1.1.mono dZ));generalize oW:wr.alloc (bx x sa sc)=w2 at B1 oT Vo d0 c6 yX fV dQ fh e0 e1 e2 e3 e4 e5 e6 HD HC6 HSx ej;clear hE gX iL LL ie A du;have eQ:=Z (jQ5 w2.heap.size w2);rcases Vn mO with⟨hm,rfl⟩|⟨hm,zl,Cw⟩|⟨hm,zl,l,hl,D7⟩
   .have GX:rr=some false:=by rcases lE with⟨_,h⟩|⟨h,_⟩;exact h;cases h
    subst GX;have Jn:r=false:=G9 HP.1.symm
    subst Jn;have ag:=ihT w _ x false _ w2 D hm oT.1 Vo.1;clear lE mO hm;go_wp21
    try rw[oW]
    refine ag.mono ?_;rintro e' w3 ⟨rfl,ar⟩;exact M41
   .have ag:=ihT w _ x true _ w2 D hm oT.1 Vo.1;have HEM:=Z zl;have OR:=Z Cw;clear mO hm zl Cw;go_wp21
    try rw[oW]
    refine ag.mono ?_;rintro e' w3 ⟨rfl,ar⟩;have bS:=Z (eQ.1.trans (ar.mono eQ.1.size));clear ar ag eQ;clear d0 c6 e0 e1 e2 e3 e4 e5 e6;have d0:=(bS.1.cell (p:=⟨W.heap.size,0,none⟩) fV).trans HD.1;have c6:=(bS.1.cell (p:=⟨W.heap.size+1,6,none⟩) dQ).trans HC6.1;obtain⟨e0,e1,e2,e3,e4,e5,e6⟩:=ao (aj bS.1 yX.1 fh);have eQ:=bS;clear bS;have ag:=gl w _ x false _ w3 D HEM.1 (oT.1.mv eQ.1) (Vo.1.mv oT.1.lo eQ.1);exact M10
   .have ag:=ihT w _ x true _ w2 D hm oT.1 Vo.1;obtain⟨HEM,HL,WX⟩:=Z3 zl hl D7;clear mO hm zl hl D7;go_wp21
    try rw[oW]
    refine ag.mono ?_;rintro e' w3 ⟨rfl,ar⟩;have bS:=Z (eQ.1.trans (ar.mono eQ.1.size));clear ar ag eQ;clear d0 c6 e0 e1 e2 e3 e4 e5 e6;have d0:=(bS.1.cell (p:=⟨W.heap.size,0,none⟩) fV).trans HD.1;have c6:=(bS.1.cell (p:=⟨W.heap.size+1,6,none⟩) dQ).trans HC6.1;obtain⟨e0,e1,e2,e3,e4,e5,e6⟩:=ao (aj bS.1 yX.1 fh);have eQ:=bS;clear bS;have ag:=gl w _ x true _ w3 D HEM.1 (oT.1.mv eQ.1) (Vo.1.mv oT.1.lo eQ.1);go_wp21;refine ag.mono ?_;rintro e' w3 ⟨rfl,ar⟩;have bS:=Z (eQ.1.trans (ar.mono eQ.1.size));clear ar ag eQ;clear d0 c6 e0 e1 e2 e3 e4 e5 e6;have d0:=(bS.1.cell (p:=⟨W.heap.size,0,none⟩) fV).trans HD.1;have c6:=(bS.1.cell (p:=⟨W.heap.size+1,6,none⟩) dQ).trans HC6.1;obtain⟨e0,e1,e2,e3,e4,e5,e6⟩:=ao (aj bS.1 yX.1 fh);have eQ:=bS;clear bS;have ag:=ga k w _ x l _ w3 D HL.1 (oT.1.mv eQ.1) (Vo.1.mv oT.1.lo eQ.1);go_wp21;refine ag.mono ?_;rintro e' w3 IG;obtain⟨v1,rfl,Ef,ar⟩:=IG.Pf;obtain⟨aB,cB,rfl⟩:=Ef.form;clear IG Ef;rcases WX.1 with⟨h0,rfl⟩|⟨h0,cH,rfl⟩|⟨h0,cH,Cw⟩
    .have GX:rr=some false:=by rcases lE with⟨_,h⟩|⟨h,_⟩;exact h;cases h
     subst GX;have Jn:r=false:=G9 HP.1.symm
     subst Jn;have h0z:((0:Int)<(l.length:Int))=True:=by simp;omega
     have h0l:¬l.length=0:=M
     have LH:l≠[]:=λe=>by rw[e]at h0l;simp at h0l
     clear lE;exact M41
    .have GX:rr=some false:=by rcases lE with⟨_,h⟩|⟨h,_⟩;exact h;cases h
     subst GX;have Jn:r=false:=G9 HP.1.symm
     subst Jn;simp only[h0];clear lE h0;have eF:=Z cH;clear cH;have bS:=Z (eQ.1.trans (ar.mono eQ.1.size));clear ar ag eQ;clear d0 c6 e0 e1 e2 e3 e4 e5 e6;have d0:=(bS.1.cell (p:=⟨W.heap.size,0,none⟩) fV).trans HD.1;have c6:=(bS.1.cell (p:=⟨W.heap.size+1,6,none⟩) dQ).trans HC6.1;obtain⟨e0,e1,e2,e3,e4,e5,e6⟩:=ao (aj bS.1 yX.1 fh);have eQ:=bS;clear bS;have ag:=uV k w _ x true _ w3 D eF.1 (oT.1.mv eQ.1) (Vo.1.mv oT.1.lo eQ.1);exact M210
    .simp only[h0];clear h0;have eF:=Z cH;have OR:=Z Cw;clear cH Cw;have bS:=Z (eQ.1.trans (ar.mono eQ.1.size));clear ar ag eQ;clear d0 c6 e0 e1 e2 e3 e4 e5 e6;have d0:=(bS.1.cell (p:=⟨W.heap.size,0,none⟩) fV).trans HD.1;have c6:=(bS.1.cell (p:=⟨W.heap.size+1,6,none⟩) dQ).trans HC6.1;obtain⟨e0,e1,e2,e3,e4,e5,e6⟩:=ao (aj bS.1 yX.1 fh);have eQ:=bS;clear bS;have ag:=uV k w _ x false _ w3 D eF.1 (oT.1.mv eQ.1) (Vo.1.mv oT.1.lo eQ.1);exact M10
  .have aR:¬(kk:Int)<(t.li.length:Int):=M
   have hA:=A.out;rw[jQf M,rangeM]at hA;have SB:rr=none:=G9 hA.symm
   subst SB;have lX:g=r:=G9 HP.1
   subst lX;have ej:=Z (HA.1.trans (BW.out.mono HA.1.size));clear hA A;exact M90
def Wi(w:List ah)(k:Nat)(s:Int×Option Int)(x:Y):Option (Int×Option Int):=
 match s.2 with
 |some r=>some (s.1,some r)
 |none=>
  if s.1>50 then some (s.1,some s.1)
  else if x.ld=13 then some (s.1+1,none)
  else(isIface w x).bind λi=>if !i then some (s.1+1,none)else(S.written w k x).map λn=>(s.1+n,none)
def wrO(w:List ah)(k:Nat)(s:Int×Option Int)(e:Y):Option (Int×Option Int):=foldM (Wi w k) s (if e.ld=12 then e.li else[e])
def NI{r:Int}(h:S.written w (k+1) t=some r):∃u,gt w t=some u/\
 ((¬u.ld=10/\r=1)\/(u.ld=10/\∃l s,jW u.m u.li=some l/\foldM (wrO w k) (0,none) l=some s/\r=s.2.getD s.1)):=by
 rw[S.written]at h;obtain⟨u,hu,h⟩:=jQ1.1 h;refine⟨u,hu,?_⟩;by_cases bH:u.ld=10
 .rw[jQ4 (G9 bH)]at h;obtain⟨l,hl,h⟩:=jQ1.1 h;obtain⟨s,hs,h⟩:=jQ6.1 h;exact .inr ⟨bH,l,s,hl,hs,h.symm⟩
 .rw[jQ7 (G9 bH)]at h;exact .inl ⟨bH,G9 h.symm⟩
def vH{w:List ah}{k:Nat}{n r:Int}:∀{l:List Y} {s:Int×Option Int},foldM (Wi w k) (n,some r) l=some s->s=(n,some r)
 |[],s,h=>by simpa[foldM]using h.symm
 |x::l,s,h=>by
  rw[foldM]at h;exact vH (l:=l) (by simpa[Wi]using h)
def Ba{w:List ah}{k:Nat}{n r:Int}:∀{l:List Y} {s:Int×Option Int},foldM (wrO w k) (n,some r) l=some s->s=(n,some r)
 |[],s,h=>by simpa[foldM]using h.symm
 |x::l,s,h=>by
  rw[foldM]at h;obtain⟨s',I,U⟩:=jQ1.1 h;have:=vH I;subst this;exact Ba U
def xK(h:Wi w k (n,none) x=some s):
 (n>50/\s=(n,some n))\/(¬n>50/\x.ld=13/\s=(n+1,none))\/(¬n>50/\¬x.ld=13/\isIface w x=some false/\s=(n+1,none))\/
 (¬n>50/\¬x.ld=13/\isIface w x=some true/\∃m,S.written w k x=some m/\s=(n+m,none)):=by
 unfold Wi at h;simp only at h;by_cases I:n>50
 .rw[jQ7 I]at h;exact .inl ⟨I,G9 h.symm⟩
 .rw[jQ4 I]at h;by_cases U:x.ld=13
  .rw[jQ7 U]at h;exact .inr (.inl ⟨I,U,G9 h.symm⟩)
  .rw[jQ4 U]at h;obtain⟨i,hi,h⟩:=jQ1.1 h;cases i with
   |false=>exact .inr (.inr (.inl ⟨I,U,hi,G9 h.symm⟩))
   |true=>
    simp only[jRt,jQk,jR1]at h;obtain⟨m,hm,h⟩:=jQ6.1 h;exact .inr (.inr (.inr ⟨I,U,hi,m,hm,h.symm⟩))
def WB(k:Nat)(s:Int×Option Int):Prop:=0<=s.1/\s.1<=51*((k:Int)+1)/\∀r,s.2=some r->0<=r/\r<=51*((k:Int)+1)
def kI(ih:∀x m,S.written w k x=some m->0<=m/\m<=51*(k:Int))(hs:WB k s)(h:Wi w k s x=some s'):WB k s':=by
 obtain⟨n,o⟩:=s;cases o with
 |some r=>
  have:s'=(n,some r):=by simpa[Wi]using h.symm
  subst this;exact hs
 |none=>
  obtain⟨h0,I,_⟩:=hs;simp only at h0 I;rcases xK h with⟨_,rfl⟩|⟨U,_,rfl⟩|⟨U,_,_,rfl⟩|⟨U,_,_,m,hm,rfl⟩
  .exact⟨h0,I,λr e=>by simp at e;subst e;exact⟨h0,I⟩⟩
  .exact M140
  .exact M140
  .have:=ih x m hm;exact M140
def Bb{w:List ah}{k:Nat}(ih:∀x m,S.written w k x=some m->0<=m/\m<=51*(k:Int)):∀{l:List Y} {s s':Int×Option Int},WB k s->foldM (Wi w k) s l=some s'->WB k s'
 |[],s,s',hs,h=>by
  have:s=s':=by simpa[foldM]using h
  subst this;exact hs
 |x::l,s,s',hs,h=>by
  rw[foldM]at h;obtain⟨s1,I,U⟩:=jQ1.1 h;exact Bb ih (kI ih hs I) U
def Bc{w:List ah}{k:Nat}(ih:∀x m,S.written w k x=some m->0<=m/\m<=51*(k:Int)):∀{l:List Y} {s s':Int×Option Int},WB k s->foldM (wrO w k) s l=some s'->WB k s'
 |[],s,s',hs,h=>by
  have:s=s':=by simpa[foldM]using h
  subst this;exact hs
 |x::l,s,s',hs,h=>by
  rw[foldM]at h;obtain⟨s1,I,U⟩:=jQ1.1 h;exact Bc ih (Bb ih hs I) U
def jZ{w:List ah}:∀(k:Nat) (t:Y) (r:Int),S.written w k t=some r->0<=r/\r<=51*(k:Int)
 |0,t,r,h=>by simp[S.written]at h
 |k+1,t,r,h=>by
  obtain⟨u,_,⟨_,rfl⟩|⟨_,l,s,_,hs,rfl⟩⟩:=NI h
  .omega
  .obtain⟨h0,I,U⟩:=Bc (jZ k) (s:=(0,none)) ⟨i6,by simp only;omega,λr e=>by simp at e⟩ hs;obtain⟨n,o⟩:=s;cases o with
   |none=>simp only[Option.getD]at*;push_cast;exact⟨h0,I⟩
   |some q=>have:=U q rfl;simp only[Option.getD]at*;push_cast;exact this
def Tj(k:Nat)(hk:(k:Int)+1<=1125899906842624)(ih:F3 k):F3 (k+1):=by
 intro w ws t r v W D j H hv;obtain⟨u,hu,j⟩:=NI j;obtain⟨pY,zL,rfl,cH⟩:=hv.bR;obtain⟨wa,wc,rfl⟩:=H.rd.form;have HA:=Z (an W (bx t pY zL));have dt:=H.mv HA.1;have ag:=dG w _ t u _ _ D hu dt.lo dt.rd (hv.mv H.lo HA.1);have HP:=Z j;have HX:=Z H;clear j H dt hv cH hu;go_in;go_wp21;refine ag.mono ?_;rintro e w1 ⟨v1,rfl,fP,ar⟩;obtain⟨a1,zd,rfl,cz⟩:=fP.bR;have gj:=ar.size;simp only[jQ3]at gj;have XY:=Z ((HA.1.trans (ar.mono HA.1.size)).alloc M (bx u a1 zd));have CT:=Z ((HX.1.mv XY.1).up (n:=W.heap.size+1) (HX.1.lo.mono M) (by simp;omega));have Tl:=Z ((cz.mv (Up.lo (n:=(W.alloc (bx t pY zL)).heap.size) (HX.1.lo.mono i6) ar.size) (an w1 (bx u a1 zd))).move (D':=Up D (W.heap.size+1) (w1.alloc (bx u a1 zd)).heap.size) (au.refl.wide (Up.mono i6 i6)));obtain⟨c0,c1,c2,c3,c4,c5,c6⟩:=ao (ak w1 (bx u a1 zd));clear cz fP ar ag;rcases HP.1 with⟨bH,rfl⟩|⟨bH,l,fin,hl,lN,hr⟩
 .have sq:(u.ld !=10)=true:=by simp[bH]
  clear bH;go_wp2;go_ret;exact⟨rfl,XY.1⟩
 have sq:(u.ld !=10)=false:=by simp[bH]
 obtain⟨a2,xv,pT,su⟩:=RS.from Tl.1 hl;obtain⟨HL,XZ,HR⟩:=Z3 su lN hr;have Wj:l.length<=9223372036854775807:=M172
 clear bH hl lN hr su;go_wp21;clear c0 c1 c2 c3 c4 c5 c6;generalize Hr:w1.alloc (bx u a1 zd)=wn at XY CT Tl HL;generalize hDN:Up D (W.heap.size+1) wn.heap.size=DN at CT Tl HL
 try rw[Hr]
 go_loopg [6,8,9,11,24] l.length (λgg s6 _ _ _ s24 wr=>∃kk:Nat,∃n:Int,kk<=l.length/\l.length - kk<=gg/\s24=.int .i64 kk/\s6=.int .i64 n/\Aside (S5 wn wr)/\Aside (foldM (wrO w k) (n,none) (l.drop kk)=some fin)/\Aside (WB k (n,none)))
 case atStart=>exact⟨0,0,jQc _,M,rfl,rfl,jQ5 _ _,by rw[jR0];exact XZ.1,⟨i6,by simp only;omega,λr e=>by simp at e⟩⟩
 case round=>
  obtain⟨kk,n,ez,hg,rfl,rfl,BW,A,WBn⟩:=hrel;by_cases aM:kk<l.length
  .have aR:(kk:Int)<(l.length:Int):=M
   obtain⟨e,hek⟩:∃e,l[kk]?=some e:=⟨l[kk],by simp[aM]⟩;have hA:=A.out;rw[drop_at hek]at hA;obtain⟨mid,tS,hA⟩:=ik hA;unfold wrO at tS;rcases aN.1 HL.1 with⟨zh,_⟩|⟨_,b2,o2,xv,dN,ag8,fL,du,gX⟩
   .rw[zh]at aM;simp at aM
   simp at dN;obtain⟨rfl,rfl⟩:=dN;have hE:=(gX.at hek).move (CT.1.lo.aJ BW.out) du;obtain⟨sa,sc,f0,f1,f2,f3,f4,f5,f6,iL⟩:=hE.bR;have dZ:=BW.out.size;obtain⟨NJ,HWB,pA,Ej⟩:=Z4 hA WBn.out (CT.1.mv BW.out) (dT wr (bx e sa sc) (bx e sa sc));obtain⟨q0,q1,q2,q3,q4,q5,q6⟩:=ao (ak wr (bx e sa sc));obtain⟨d0,d1,d2,d3,d4,d5,d6⟩:=ao (aq (o:=bx e sa sc) (ak wr (bx e sa sc)));clear hE gX hek hA A du WBn;by_cases cQ:e.ld=12
   .rw[jQ7 cQ]at tS;have tT:(e.ld==12)=true:=by simp[cQ]
    obtain⟨abt,HI,Wk,sQ⟩:=Z4 tS (((RT.X0 iL).mv pA.1.lo Ej.1:RS DN _ e.li _)) (pA.1.mv Ej.1) (BW.out.trans (Ej.1.mono dZ));clear tS iL cQ;generalize hWI:(wr.alloc (bx e sa sc)).alloc (bx e sa sc)=wi at HI Wk sQ Ej d0 d1 d2 d3 d4 d5 d6;have ag9:e.li.length<=9223372036854775807:=by
     show e.li.length<=_;exact M169
    go_wp21
    try rw[hWI]
    go_loopg [6,11,37] e.li.length (λgg s6 _ s37 wr=>∃jj:Nat,∃q:Int,jj<=e.li.length/\e.li.length - jj<=gg/\s37=.int .i64 jj/\s6=.int .i64 q/\Aside (S5 wi wr)/\Aside (foldM (Wi w k) (q,none) (e.li.drop jj)=some mid)/\Aside (WB k (q,none)))
    case atStart=>exact⟨0,n,jQc _,M,rfl,rfl,jQ5 _ _,by rw[jR0];exact abt.1,HWB.1⟩
    case round=>
     obtain⟨jj,q,X1,Dp,rfl,rfl,BI,AI,WI⟩:=hrel;have hwb:=WI.out;obtain⟨abu,F4,_⟩:=hwb
     try simp only at abu F4
     by_cases ee:jj<e.li.length
     .have HG:=Z (show jj<e.li.length/\e.li.length - jj<=gk from⟨ee,Dp⟩);have qY:(jj:Int)<(e.li.length:Int):=M
      obtain⟨x,LL⟩:∃z,e.li[jj]?=some z:=⟨_,jQp (show jj<e.li.length from ee)⟩;have hA:=AI.out;rw[drop_at LL]at hA;obtain⟨s1,cz,hA⟩:=ik hA;rcases aN.1 HI.1 with⟨zh,_⟩|⟨_,b3,o3,c3',dN,R6,Kq,I4,hC3⟩
      .exfalso;have hl:e.li.length=0:=by rw[zh];rfl
       have fh:e.li.length=0:=hl;omega
      simp at dN
      first
       |(obtain⟨⟨rfl,rfl⟩,rfl⟩:=dN)
       |(obtain⟨rfl,rfl⟩:=dN)
      have IV:=(hC3.at LL).move (Wk.1.lo.aJ BI.out) I4;obtain⟨xa,xc,f0,f1,f2,f3,f4,f5,f6,hxv⟩:=IV.bR
      skip
      have B2:=Z (an wr (bx x xa xc));have KV:=BI.out.size;obtain⟨qg,En,Dz⟩:=Z3 ((Wk.1.mv BI.out).mv B2.1) (hxv.mv (Wk.1.mv BI.out).lo B2.1) (ak wr (bx x xa xc));obtain⟨e0,e1,e2,e3,e4,e5,e6⟩:=ao Dz.1;have CM:wr.heap.size<(wr.alloc (bx x xa xc)).heap.size:=i6
      have Tn:=Z hA;clear IV hC3 hxv LL hA AI I4 ee X1 Dp;rcases xK cz with⟨Wl,rfl⟩|⟨Wl,cg,rfl⟩|⟨Wl,cg,hi,rfl⟩|⟨Wl,cg,hi,m,hm,rfl⟩
      .exact M75
      .have ll:(x.ld==13)=true:=by simp[cg]
       have LM:((50:Int)<q)=False:=eq_false M;have X2:IntKind.i64.wrap (q+1)=q+1:=wrap64 M M;have wX:=Z (kI (jZ k) WI.out cz);clear cz cg;go_wp21;go_roundg (e.li.length - (jj+1))
       case measure=>have:=HG.1;omega
       case rel=>exact⟨jj+1,q+1,V5 HG.1,V5 HG.1,by go_num,rfl,BI.out.trans (B2.1.mono KV),Tn.1,wX.1⟩
      .have ll:(x.ld==13)=false:=by simp[cg]
       have LM:((50:Int)<q)=False:=eq_false M;have X2:IntKind.i64.wrap (q+1)=q+1:=wrap64 M M;have wX:=Z (kI (jZ k) WI.out cz);have ag:=dh w _ x false _ _ DN hi qg.1.lo qg.1.rd En.1;clear cz cg hi;go_wp21;refine ag.mono ?_;rintro e' w3 ⟨rfl,aZ⟩;have kL:=Z (B2.1.trans (aZ.mono B2.1.size));clear aZ ag;go_wp21;go_roundg (e.li.length - (jj+1))
       case measure=>have:=HG.1;omega
       case rel=>exact⟨jj+1,q+1,V5 HG.1,V5 HG.1,by go_num,rfl,BI.out.trans (kL.1.mono KV),Tn.1,wX.1⟩
      .have ll:(x.ld==13)=false:=by simp[cg]
       have LM:((50:Int)<q)=False:=eq_false M;have hbm:=jZ k x m hm;have X2:IntKind.i64.wrap (q+m)=q+m:=wrap64 M M;have wX:=Z (kI (jZ k) WI.out cz);have ag:=dh w _ x true _ _ DN hi qg.1.lo qg.1.rd En.1;have HM:=Z hm;clear cz cg hi hm hbm;go_wp21;refine ag.mono ?_;rintro e' w3 ⟨rfl,aZ⟩;have kL:=Z aZ;obtain⟨e0,e1,e2,e3,e4,e5,e6⟩:=ao (aj aZ Dz.1 CM);have ag:=ih w _ x m _ w3 DN HM.1 (qg.1.mv aZ) (En.1.mv qg.1.lo aZ);clear aZ;go_wp21;refine ag.mono ?_;rintro e' w4 ⟨rfl,dI⟩;have xL:=Z (B2.1.trans ((kL.1.trans (dI.mono kL.1.size)).mono B2.1.size));clear dI ag;go_wp21;go_roundg (e.li.length - (jj+1))
       case measure=>have:=HG.1;omega
       case rel=>exact⟨jj+1,q+m,V5 HG.1,V5 HG.1,by go_num,rfl,BI.out.trans (xL.1.mono KV),Tn.1,wX.1⟩
     .have qY:¬(jj:Int)<(e.li.length:Int):=M
      exact M65
   .rw[jQ4 cQ]at tS;have tT:(e.ld==12)=false:=by simp[cQ]
    have abt:=Z tS;have Ln:Lo DN wr.heap.size:=pA.1.lo;have Wk:=Z (((pA.1.mv Ej.1).up (n:=wr.heap.size+1) (Ln.mono M) i6));have HI:=Z (show RS (Up DN (wr.heap.size+1) ((wr.alloc (bx e sa sc)).alloc (bx e sa sc)).heap.size) ((wr.alloc (bx e sa sc)).alloc (bx e sa sc)) [e] (.slice (some ⟨wr.heap.size+1,0,none⟩) 1 1)from
     aN.2 (.inr ⟨i6,wr.heap.size+1,0,1,rfl,i6,M,.inr ⟨M,i6⟩,by
      rw[RC,RC];have hh:=ak (wr.alloc (bx e sa sc)) (bx e sa sc);rw[jQ3]at hh;exact⟨RE.mk' ((RT.X0 iL).mv Ln Ej.1 |>.move (au.refl.wide (λb hb=>.inl hb))) hh,trivial⟩⟩))
    have sQ:=Z (BW.out.trans (Ej.1.mono dZ));clear tS iL cQ Ln;generalize X3:Up DN (wr.heap.size+1) ((wr.alloc (bx e sa sc)).alloc (bx e sa sc)).heap.size=DI at HI Wk;generalize hWI:(wr.alloc (bx e sa sc)).alloc (bx e sa sc)=wi at HI Wk sQ Ej d0 d1 d2 d3 d4 d5 d6;have ag9:1<=9223372036854775807:=by
     show[e].length<=_;exact M169
    go_wp21
    try rw[hWI]
    go_loopg [6,11,37] 1 (λgg s6 _ s37 wr=>∃jj:Nat,∃q:Int,jj<=1/\1 - jj<=gg/\s37=.int .i64 jj/\s6=.int .i64 q/\Aside (S5 wi wr)/\Aside (foldM (Wi w k) (q,none) ([e].drop jj)=some mid)/\Aside (WB k (q,none)))
    case atStart=>exact⟨0,n,jQc _,M,rfl,rfl,jQ5 _ _,by rw[jR0];exact abt.1,HWB.1⟩
    case round=>
     obtain⟨jj,q,X1,Dp,rfl,rfl,BI,AI,WI⟩:=hrel;have hwb:=WI.out;obtain⟨abu,F4,_⟩:=hwb
     try simp only at abu F4
     by_cases ee:jj<1
     .have HG:=Z (show jj<1/\1 - jj<=gk from⟨ee,Dp⟩);obtain rfl:jj=0:=M
      obtain⟨x,LL⟩:∃z,[e][0]?=some z:=⟨_,jQp (show 0<[e].length from ee)⟩;have hA:=AI.out;rw[drop_at LL]at hA;obtain⟨s1,cz,hA⟩:=ik hA;rcases aN.1 HI.1 with⟨zh,_⟩|⟨_,b3,o3,c3',dN,R6,Kq,I4,hC3⟩
      .exfalso;have hl:[e].length=0:=by rw[zh];rfl
       have fh:1=0:=hl;omega
      simp at dN
      first
       |(obtain⟨⟨rfl,rfl⟩,rfl⟩:=dN)
       |(obtain⟨rfl,rfl⟩:=dN)
      have IV:=(hC3.at LL).move (Wk.1.lo.aJ BI.out) I4;obtain⟨xa,xc,f0,f1,f2,f3,f4,f5,f6,hxv⟩:=IV.bR;simp only[Nat.zero_mul,Nat.add_zero]at f0 f1 f2 f3 f4 f5 f6;have B2:=Z (an wr (bx x xa xc));have KV:=BI.out.size;obtain⟨qg,En,Dz⟩:=Z3 ((Wk.1.mv BI.out).mv B2.1) (hxv.mv (Wk.1.mv BI.out).lo B2.1) (ak wr (bx x xa xc));obtain⟨e0,e1,e2,e3,e4,e5,e6⟩:=ao Dz.1;have CM:wr.heap.size<(wr.alloc (bx x xa xc)).heap.size:=i6
      have Tn:=Z hA;clear IV hC3 hxv LL hA AI I4 ee X1 Dp;rcases xK cz with⟨Wl,rfl⟩|⟨Wl,cg,rfl⟩|⟨Wl,cg,hi,rfl⟩|⟨Wl,cg,hi,m,hm,rfl⟩
      .exact M75
      .have ll:(x.ld==13)=true:=by simp[cg]
       have LM:((50:Int)<q)=False:=eq_false M;have X2:IntKind.i64.wrap (q+1)=q+1:=wrap64 M M;have wX:=Z (kI (jZ k) WI.out cz);clear cz cg;go_wp21;go_roundg (1 - (0+1))
       case measure=>have:=HG.1;omega
       case rel=>exact⟨0+1,q+1,V5 HG.1,V5 HG.1,by go_num,rfl,BI.out.trans (B2.1.mono KV),Tn.1,wX.1⟩
      .have ll:(x.ld==13)=false:=by simp[cg]
       have LM:((50:Int)<q)=False:=eq_false M;have X2:IntKind.i64.wrap (q+1)=q+1:=wrap64 M M;have wX:=Z (kI (jZ k) WI.out cz);have ag:=dh w _ x false _ _ DI hi qg.1.lo qg.1.rd En.1;clear cz cg hi;go_wp21;refine ag.mono ?_;rintro e' w3 ⟨rfl,aZ⟩;have kL:=Z (B2.1.trans (aZ.mono B2.1.size));clear aZ ag;go_wp21;go_roundg (1 - (0+1))
       case measure=>have:=HG.1;omega
       case rel=>exact⟨0+1,q+1,V5 HG.1,V5 HG.1,by go_num,rfl,BI.out.trans (kL.1.mono KV),Tn.1,wX.1⟩
      .have ll:(x.ld==13)=false:=by simp[cg]
       have LM:((50:Int)<q)=False:=eq_false M;have hbm:=jZ k x m hm;have X2:IntKind.i64.wrap (q+m)=q+m:=wrap64 M M;have wX:=Z (kI (jZ k) WI.out cz);have ag:=dh w _ x true _ _ DI hi qg.1.lo qg.1.rd En.1;have HM:=Z hm;clear cz cg hi hm hbm;go_wp21;refine ag.mono ?_;rintro e' w3 ⟨rfl,aZ⟩;have kL:=Z aZ;obtain⟨e0,e1,e2,e3,e4,e5,e6⟩:=ao (aj aZ Dz.1 CM);have ag:=ih w _ x m _ w3 DI HM.1 (qg.1.mv aZ) (En.1.mv qg.1.lo aZ);clear aZ;go_wp21;refine ag.mono ?_;rintro e' w4 ⟨rfl,dI⟩;have xL:=Z (B2.1.trans ((kL.1.trans (dI.mono kL.1.size)).mono B2.1.size));clear dI ag;go_wp21;go_roundg (1 - (0+1))
       case measure=>have:=HG.1;omega
       case rel=>exact⟨0+1,q+m,V5 HG.1,V5 HG.1,by go_num,rfl,BI.out.trans (xL.1.mono KV),Tn.1,wX.1⟩
     .obtain rfl:jj=1:=M
      exact M65
  .have aR:¬(kk:Int)<(l.length:Int):=M
   have hA:=A.out;rw[jQf M,foldM]at hA;have qD:fin=(n,none):=G9 hA.symm
   have SB:r=n:=by rw[HR.1,qD];rfl
   subst SB;have ej:=Z (XY.1.trans (BW.out.mono XY.1.size));clear hA A;exact M90
def xw(k:Nat)(hk:(k:Int)+1<=1125899906842624):mi k/\BC k/\LW k/\TJ k/\Ge k/\F3 k:=by
 induction k with
 |zero=>
  refine⟨?_,?_,?_,?_,?_,?_⟩
  .intro w ws t g r v W D j;simp[gT]at j
  .intro w ws l r v W D j;simp[allMeant]at j
  .intro w ws t g r v W D j;simp[fZ]at j
  .intro w ws t g r v W D j;simp[df]at j
  .intro w ws t r v W D j;simp[dY]at j
  .intro w ws t r v W D j;simp[S.written]at j
 |succ k ih=>
  obtain⟨I,U,h3,h4,h5,h6⟩:=ih M;refine⟨LX k I h3 U,BE k I,Ut k h4 U h6,?_,UZ k I,Tj k M h6⟩;intro w ws t g r v W D j H hv;by_cases cQ:t.ld=12
  .exact afY k h5 w ws t g r v W D j cQ H hv
  .exact acX k h5 w ws t g r v W D j cQ H hv
abbrev mbx(m:aH)(a:Option Addr)(c:Nat):Obj:=.cells #[.string m.name,.bool m.ptr,.int .i64 m.sig.ld,.int .i64 m.sig.n,.int .i64 m.sig.m,.bool m.sig.va,.string m.sig.name,.string m.sig.gc,.slice a m.sig.li.length c] 68
def VDc(D:Qx)(W:World)(d:ah)(v:Value):Prop:=
 ∃a c a' c',v=.agg #[.int .i64 d.gt.ld,.int .i64 d.gt.n,.int .i64 d.gt.m,.bool d.gt.va,.string d.gt.name,.string d.gt.gc,.slice a d.gt.li.length c,.slice a' d.lw.length c']/\
  RS D W d.gt.li (.slice a d.gt.li.length c)/\RM D W d.lw (.slice a' d.lw.length c')
abbrev CO(d:ah)(a:Option Addr)(c:Nat)(a':Option Addr)(c':Nat):Obj:=
 .cells #[.int .i64 d.gt.ld,.int .i64 d.gt.n,.int .i64 d.gt.m,.bool d.gt.va,.string d.gt.name,.string d.gt.gc,.slice a d.gt.li.length c,.slice a' d.lw.length c'] 41
def aiw(x m:aH)(v W D)(Bm:Nat)(hv:VM D W x v)(Ez:W.heap[Bm]?=some (mbx m am cm)):
 Calls prog 36 #[v,.pointer (some ⟨Bm,0,none⟩)] W (ef W (aE x.name m.name)):=by
 have X4:=jQ2 Ez;obtain⟨c0, -, -, -, -, -, -, -, -⟩:=uk Ez;obtain⟨a,c,rfl,hs⟩:=hv;have HA:=Z (an W (mbx x a c));clear hs Ez;by_cases hn:x.name=m.name
 .have iK:=gB hn;have hr:aE x.name m.name=true:=by simp[aE,hn]
  rw[hr];clear hn hr;exact M47
 .have iK:=jX hn;have hr:aE x.name m.name=false:=by simp[aE,hn]
  rw[hr];clear hn hr;exact M47
def aiy(f)(kd:Int)(m:aH)(v W D)(Bk Bm:Nat)(hv:RT D W f v)(hBk:ce W Bk 0 (.int .i64 kd))(Ez:W.heap[Bm]?=some (mbx m am cm)):
 Calls prog 37 #[v,.pointer (some ⟨Bk,0,none⟩),.pointer (some ⟨Bm,0,none⟩)] W (ef W (kd==5&&aE f.name m.name)):=by
 have X4:=jQ2 Ez;have aiE:=jQs hBk;simp only at aiE;obtain⟨c0, -, -, -, -, -, -, -, -⟩:=uk Ez;obtain⟨a,c,rfl,hs⟩:=hv.bR;have HA:=Z (an W (bx f a c));clear hs hv Ez;by_cases h5:kd=5
 .have k5:(kd==5)=true:=by simp[h5]
  rw[k5,jRn];clear h5;exact M35
 .have k5:(kd==5)=false:=by simp[h5]
  rw[k5,Bool.false_and];clear h5;exact M47
def pdF(w:List ah)(k:Nat)(d:ah)(p:S.Place)(i:Nat)(m:aH):Option (Option Bool):=
 if !isName m.name then some (some false)else if m.sig.ld≠7 then some (some false)
 else(placed w k m.sig p).bind λb=>if !b then some (some false)
 else if (d.lw.take i).any (λx=>aE x.name m.name)then some (some false)
 else if d.gt.li.any (λf=>d.gt.ld==5&&aE f.name m.name)then some (some false)
 else some none
def ZB(h:fS k w d n=some r):
 ((d.gt.ld<1\/d.gt.ld=2\/d.gt.ld>10)/\r=false)\/
 (¬(d.gt.ld<1\/d.gt.ld=2\/d.gt.ld>10)/\((placed w k d.gt ⟨n,true,false⟩=some false/\r=false)\/
  (placed w k d.gt ⟨n,true,false⟩=some true/\∃rr,rangeM (pdF w k d ⟨n,false,false⟩) 0 d.lw=some rr/\
   ((rr=some r)\/(rr=none/\r=(d.lw.length==0||(d.gt.ld !=10&&eM d.gt))))))):=by
 unfold fS at h;simp only at h;split at h
 .rename_i hk;exact .inl ⟨hk,G9 h.symm⟩
 .rename_i hk
  refine .inr ⟨hk,?_⟩;obtain⟨b,hb,h⟩:=jQ1.1 h;cases b with
  |false=>exact .inl ⟨hb,G9 h.symm⟩
  |true=>
   simp only[jRt,jQk,jR1]at h;obtain⟨rr,Ay,h⟩:=jQ6.1 h;refine .inr ⟨hb,rr,Ay,?_⟩;cases rr with
   |some b=>exact .inl (by rw[<-h])
   |none=>exact .inr ⟨rfl,h.symm⟩
def QS{p:S.Place}{m:aH}{x:Option Bool}(h:pdF w k d p i m=some x):
 (isName m.name=false/\x=some false)\/(isName m.name=true/\m.sig.ld≠7/\x=some false)\/
 (isName m.name=true/\m.sig.ld=7/\((placed w k m.sig p=some false/\x=some false)\/(placed w k m.sig p=some true/\
  (((d.lw.take i).any (λx=>aE x.name m.name)=true/\x=some false)\/((d.lw.take i).any (λx=>aE x.name m.name)=false/\
   ((d.gt.li.any (λf=>d.gt.ld==5&&aE f.name m.name)=true/\x=some false)\/(d.gt.li.any (λf=>d.gt.ld==5&&aE f.name m.name)=false/\x=none))))))):=by
 unfold pdF at h;cases I:isName m.name with
 |false=>rw[I]at h;exact .inl ⟨rfl,G9 h.symm⟩
 |true=>
  rw[I]at h;simp only[jRt,jQk,jR1]at h;split at h
  .rename_i h7;exact .inr (.inl ⟨rfl,h7,G9 h.symm⟩)
  .rename_i h7
   refine .inr (.inr ⟨rfl,G9 h7,?_⟩);obtain⟨b,hb,h⟩:=jQ1.1 h;cases b with
   |false=>exact .inl ⟨hb,G9 h.symm⟩
   |true=>
    simp only[jRt,jQk,jR1]at h;refine .inr ⟨hb,?_⟩;split at h
    .rename_i U;exact .inl ⟨U,G9 h.symm⟩
    .rename_i U
     refine .inr ⟨G9 U,?_⟩;split at h
     .rename_i h3;exact .inl ⟨h3,G9 h.symm⟩
     .rename_i h3;exact .inr ⟨G9 h3,G9 h.symm⟩
