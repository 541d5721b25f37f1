import Derived.Test.YtabjfnkfocnklaaGreatDoorA22
set_option linter.all false
set_option maxHeartbeats 16000000
set_option maxRecDepth 20000
namespace Go.Proofs.YtabjfnkfocnklaaGreatDoor
open Go Go.RowKit Go.Lib S Tryz
variable{t x:GT}{c cx i k n:Nat}{a ax:Option Addr}{Y:Prop}
theorem M118(h:Y:=by
 go_wp2_with fail;refine ag.mono ?_;rintro e w2 ⟨rfl,cX⟩;have HB:=Z (HA.1.trans ((bS.1.trans (cX.mono bS.1.size)).mono HA.1.size));clear cX ag;exact M84):Y:=h
theorem M12(h:Y:=by
 go_wp2_with fail;refine ag.mono ?_;rintro e' w3 ⟨rfl,ar⟩;have bS:=Z (eQ.1.trans (ar.mono eQ.1.size));clear ar ag eQ;clear d0 c6 e0 e1 e2 e3 e4 e5 e6;have d0:=(bS.1.cell (p:=⟨W.heap.size,0,none⟩) fV).trans HD.1;have c6:=(bS.1.cell (p:=⟨W.heap.size+1,6,none⟩) dQ).trans HC6.1;obtain⟨e0,e1,e2,e3,e4,e5,e6⟩:=ao (aj bS.1 yX.1 fh);have eQ:=bS;clear bS;have Cw:=OR.1;obtain⟨zC,EM⟩:=RS.upto (m:=(kk:Int)) (l':=t.elems.take kk) (HSx.1.mv oT.1.lo eQ.1) (by unfold mq;rw[jQ7 ⟨m9,m9⟩];simp);have tB:(t.elems.take kk).length=kk:=by simp;omega
 rw[tB]at zC EM;have hX2:=oT.1.mv eQ.1;have Vp:=aj eQ.1 yX.1 fh;have O4:=d0;have aff:=eQ.1.size;have ag:=cL (t.elems.take kk) _ w3 D EM hX2.lo 173 #[.pointer (some ⟨W.heap.size,0,none⟩),.pointer (some ⟨wr.heap.size,0,none⟩)] Tryz.call173 _ (λW1 y v bb ar _ dr ke=>
  eeC k w _ x y bb v W1 D W.heap.size wr.heap.size ke (hX2.mv ar) dr ((RT.X0 Vo.1).mv oT.1.lo (eQ.1.trans (ar.mono eQ.1.size))) ((ar.cell (p:=⟨W.heap.size,0,none⟩) (by simp only;omega)).trans O4) (aj ar Vp m9)) bb Cw
 have D8:=uW;clear hX2 Vp O4 EM Cw;cases bb with
 |true=>
  have GX:rr=some false:=by rcases lE with⟨_,h⟩|⟨h,_⟩;exact h;cases h
  subst GX;have Jn:r=false:=by simpa using HP.1.symm
  subst Jn;clear lE;exact M217
 |false=>
  have jM:=lE.resolve_left (λh=>by cases h.1);have nb:=Z jM.2;clear jM lE;go_wp2_with fail;refine ag.mono ?_;rintro e' w4 ⟨rfl,ar⟩;have bS:=Z (eQ.1.trans (ar.mono eQ.1.size));clear ar ag;go_wp2_with fail;go_roundg (t.elems.length - (kk+1))
  case measure=>omega
  case rel=>exact⟨kk+1,m9,m9,by go_num,ej.1.trans (bS.1.mono ej.1.size),nb.1⟩):Y:=h
theorem M134(h:Y:=by
 clear ar;go_wp2_with fail;refine ag.mono ?_;rintro e w2 ⟨rfl,cX⟩;have HB:=Z (bS.1.trans (cX.mono bS.1.size));clear cX ag;exact M33):Y:=h
theorem M145(h:Y:=by
 refine bg 10 ?_;refine bg 11 ?_;refine bg 12 ?_;refine bg 13 ?_;refine bg 14 ?_;refine bg 15 ?_;refine t2 16 17 ?_;exact M50):Y:=h
theorem M171(h:Y:=by
 rcases aN.1 su with⟨he,_⟩|⟨_,b2,o2,xv,dN,fh,fL,du,gX⟩
 ·rw[he];simp
 ·simp at dN;omega):Y:=h
theorem M173(h:Y:=by
 have HB:=Z (HA.1.trans ((bS.1.trans (cX.mono bS.1.size)).mono HA.1.size));clear cX ag;exact M33):Y:=h
theorem M174(h:Y:=by
 go_wp2_with fail;refine ag.mono ?_;rintro e w1 ⟨rfl,ar⟩;have HB:=Z ar;clear ar ag;exact M33):Y:=h
theorem M206(h:Y:=by
 go_wp2_with fail;go_ret;exact⟨i6,HW8.1.trans (xL.1.mono HW8.1.size)⟩):Y:=h
theorem M210(h:Y:=by
 go_enter func41,ntmps41;exact M6):Y:=h
theorem M217(h:Y:=by
 go_wp2_with fail;refine ag.mono ?_;rintro e' w4 ⟨rfl,ar⟩;exact M40):Y:=h
theorem M40(h:Y:=by
 have bS:=Z (eQ.1.trans (ar.mono eQ.1.size));clear ar ag;go_wp2_with fail;go_ret;exact⟨rfl,HA.1.trans ((ej.1.trans (bS.1.mono ej.1.size)).mono HA.1.size)⟩):Y:=h
theorem M50(h:Y:=by
 refine jQl g9 ?_ _;have xL:=Z ai.1;clear ai;go_wp2_with fail;go_ret;exact⟨rfl,pZ.1.trans (xL.1.mono pZ.1.size)⟩):Y:=h
theorem fA:∀k,pD k
 |0=>λ_ _ _ _ _ _ _ _ _ h=>by simp[ident]at h
 |k+1=>AQ k (fA k)
def Sc(k:Nat):Prop:=∀(w:List ah) (ws:Value) (t:GT) (r:Bool) (v:Value) (W:World) (D:Nat->Prop),gD w k t=some r->Cx D w ws W->RT D W t v->
 Calls prog 172 #[ws,v] W (ef W r)
theorem stC(k:Nat)(ih:Sc k)(w:List ah)(ws:Value)(e:GT)(r:Bool)(v:Value)(W:World)(D:Nat->Prop)(Bw:Nat)(hp:fy (bU w e) (gD w k e)=some r)(hx:Cx D w ws W)(hv:RT D W e v)(hB:W.cell? ⟨Bw,0,none⟩=some ws):
 Calls prog 212 #[v,.pointer (some ⟨Bw,0,none⟩)] W (ef W r):=by
 have lR:=jQs hB;simp only at lR;obtain⟨a,c,rfl,hs⟩:=hv.bR;obtain⟨wa,wc,rfl⟩:=hx.rd.form;have HA:=Z (an W (bx e a c));have Ff:=(HA.1.cell (p:=⟨Bw,0,none⟩) lR).trans hB;obtain⟨c0,c1,c2,c3,c4,c5,c6⟩:=ao (ak W (bx e a c));obtain⟨HX,HV,kq⟩:=Z3 (hx.mv HA.1) (hv.mv hx.lo HA.1) (ak W (bx e a c));rcases cY hp with⟨h1,rfl⟩|⟨h1,h2⟩
 ·have ag:=gl w _ e false _ _ D h1 HX.1 HV.1;clear hp hx hv hs h1 c0 c1 c2 c3 c4 c5 c6 Ff;go_enter func212,ntmps212;exact M6
 ·have ag:=gl w _ e true _ _ D h1 HX.1 HV.1;have H2:=Z h2;clear hp hx hv hs h1 h2 c0 c1 c2 c3 c4 c5 c6;go_enter func212,ntmps212;go_wp2_with fail;refine ag.mono ?_;rintro e' w1 ⟨rfl,ar⟩;have bS:=Z ar;obtain⟨c0,c1,c2,c3,c4,c5,c6⟩:=ao (aj ar kq.1 i6);have Xq:=(ar.cell (p:=⟨Bw,0,none⟩) (by simp;omega)).trans Ff;have ag:=ih w _ e r _ _ D H2.1 (HX.1.mv ar) (HV.1.mv HX.1.lo ar);clear ar Ff;go_wp2_with fail;refine ag.mono ?_;rintro e' w2 ⟨rfl,cX⟩;exact M173
theorem uV(k:Nat):Sc k:=by
 induction k with
 |zero=>intro w ws t r v W D h;simp[gD]at h
 |succ k ih=>
  intro w ws t r v W D hg hx hv;obtain⟨u,hu,hg⟩:=jQ1.1 hg;obtain⟨a,c,rfl,hs⟩:=hv.bR;obtain⟨wa,wc,rfl⟩:=hx.rd.form;have HA:=Z (dT W (.cells #[.slice wa w.length wc] 22) (bx t a c));have dt:=hx.mv HA.1;have ag:=dG w _ t u _ _ D hu dt.lo dt.rd (hv.mv hx.lo HA.1);have HG:=Z hg;have HX:=Z hx;clear hg hs hv hu dt hx;go_enter func172,ntmps172;go_wp2_with fail;refine ag.mono ?_;rintro e w1 ⟨v1,rfl,fP,ar⟩;obtain⟨a1,c1,rfl,cz⟩:=fP.bR;have HB:=Z (HA.1.trans (ar.mono HA.1.size));have kq:=jQh (aj ar (aq (ak W (.cells #[.slice wa w.length wc] 22))) (by simp;omega));have aM:W.heap.size<w1.heap.size:=jQs kq;have hg:=HG.1;have j7:=ar.size;simp only[jQ3]at cz j7;have HS:=Z cz;clear ar fP ag cz;by_cases ir:u.kind=16
  ·have yr:(u.kind==16)=true:=by simp[ir]
   rw[jQ7 ir]at hg;have h:true=r:=by simpa using hg
   subst h;clear hg ir;go_wp2_with fail;go_ret;exact⟨rfl,HB.1.alloc (by have:=HB.1.size;omega) _⟩
  ·have yr:(u.kind==16)=false:=by simp[ir]
   rw[jQ4 ir]at hg;clear ir;obtain⟨l,hl,qc⟩:=jQ1.1 hg;obtain⟨a2,c2,pT,su⟩:=RS.from HS.1 hl;have hz:=HB.1.size;have HC:=Z (HB.1.alloc hz (bx u a1 c1));have dF:=(HX.1.mv HC.1).up (n:=W.heap.size+2) (HX.1.lo.mono m9) (by simp;omega);have eX:=su.move (W':=w1.alloc (bx u a1 c1)) (D':=Up D (W.heap.size+2) (w1.alloc (bx u a1 c1)).heap.size) (((au.refl.alloc (λb hb=>(Up.lo (HX.1.lo.mono m9) m9) b hb) _)).wide (Up.mono i6 i6));have fw:(w1.alloc (bx u a1 c1)).cell? ⟨W.heap.size,0,none⟩=some (.slice wa w.length wc):=by
    rw[World.cell?_alloc_past _ _ _ aM];exact kq
   have ag:=cL l _ _ _ eX dF.lo 212 #[.pointer (some ⟨W.heap.size,0,none⟩)] Tryz.call212 _ (λW1 e v bb ar _ dr ke=>
    stC k ih w _ e bb v W1 _ _ ke (dF.mv ar) dr ((ar.cell (p:=⟨W.heap.size,0,none⟩) (by simp;omega)).trans fw)) r qc
   have D8:=uW;clear dF eX su qc hl fw hg;exact M138
theorem agC(k:Nat)(w:List ah)(ws:Value)(l:List GT)(sl:Value)(e:GT)(r:Bool)(v:Value)(W:World)(D:Nat->Prop)(Bw Bl:Nat)(hp:fy (bU w e) ((required w k e).bind λq=>bh (hasAll (ident k w) l q))=some r)(hx:Cx D w ws W)(hv:RT D W e v)(hl:RS D W l sl)(hB:W.cell? ⟨Bw,0,none⟩=some ws)(hL:W.cell? ⟨Bl,0,none⟩=some sl):
 Calls prog 175 #[v,.pointer (some ⟨Bw,0,none⟩),.pointer (some ⟨Bl,0,none⟩)] W (ef W r):=by
 have lR:=jQs hB;have hBl:=jQs hL;simp only at lR hBl;obtain⟨a,c,rfl,hs⟩:=hv.bR;obtain⟨wa,wc,rfl⟩:=hx.rd.form;obtain⟨la,lc,rfl⟩:=hl.form;have HA:=Z (an W (bx e a c));have d0:=(HA.1.cell (p:=⟨Bw,0,none⟩) lR).trans hB;have d1:=(HA.1.cell (p:=⟨Bl,0,none⟩) hBl).trans hL;obtain⟨c0,c1,c2,c3,c4,c5,c6⟩:=ao (ak W (bx e a c));obtain⟨HX,HV,HL⟩:=Z3 (hx.mv HA.1) (hv.mv hx.lo HA.1) (hl.mv hx.lo HA.1);have zI:Bw<(W.alloc (bx e a c)).heap.size:=by simp;omega
 have iT:Bl<(W.alloc (bx e a c)).heap.size:=by simp;omega
 have mU:W.heap.size<(W.alloc (bx e a c)).heap.size:=i6
 rcases cY hp with⟨h1,rfl⟩|⟨h1,h2⟩
 ·have H1:=Z h1;clear hp hx hv hs h1 hl;go_enter func175,ntmps175;go_wp2_with fail;generalize sj:W.alloc (bx e a c)=w2 at HA HX HV HL c0 c1 c2 c3 c4 c5 c6 d0 d1 zI iT mU
  try rw[sj]
  have hS:=Z (show∀w',Below w2.heap.size w2 w'->(λw'=>Below w2.heap.size w2 w'/\w'.cell? ⟨Bw,0,none⟩=some (.slice wa w.length wc)/\w'.cell? ⟨Bl,0,none⟩=some (.slice la l.length lc)/\w'.cell? ⟨W.heap.size,0,none⟩=some (.int .i64 e.kind)/\w'.cell? ⟨W.heap.size,1,none⟩=some (.int .i64 e.n)/\w'.cell? ⟨W.heap.size,2,none⟩=some (.int .i64 e.m)/\w'.cell? ⟨W.heap.size,3,none⟩=some (.bool e.va)/\w'.cell? ⟨W.heap.size,4,none⟩=some (.string e.name)/\w'.cell? ⟨W.heap.size,5,none⟩=some (.string e.tag)/\w'.cell? ⟨W.heap.size,6,none⟩=some (.slice a e.elems.length c)) w' from λw' hb=>⟨hb,(hb.cell (p:=⟨Bw,0,none⟩) zI).trans d0,(hb.cell (p:=⟨Bl,0,none⟩) iT).trans d1,(hb.cell (p:=⟨W.heap.size,0,none⟩) mU).trans c0,(hb.cell (p:=⟨W.heap.size,1,none⟩) mU).trans c1,(hb.cell (p:=⟨W.heap.size,2,none⟩) mU).trans c2,(hb.cell (p:=⟨W.heap.size,3,none⟩) mU).trans c3,(hb.cell (p:=⟨W.heap.size,4,none⟩) mU).trans c4,(hb.cell (p:=⟨W.heap.size,5,none⟩) mU).trans c5,(hb.cell (p:=⟨W.heap.size,6,none⟩) mU).trans c6⟩);have hA:=Z<|λ(w':World) (hb:Below w2.heap.size w2 w')=>gl w _ e false _ w' D H1.1 (HX.1.mv hb) (HV.1.mv HX.1.lo hb);refine jQ9 (S:=(λw'=>Below w2.heap.size w2 w'/\w'.cell? ⟨Bw,0,none⟩=some (.slice wa w.length wc)/\w'.cell? ⟨Bl,0,none⟩=some (.slice la l.length lc)/\w'.cell? ⟨W.heap.size,0,none⟩=some (.int .i64 e.kind)/\w'.cell? ⟨W.heap.size,1,none⟩=some (.int .i64 e.n)/\w'.cell? ⟨W.heap.size,2,none⟩=some (.int .i64 e.m)/\w'.cell? ⟨W.heap.size,3,none⟩=some (.bool e.va)/\w'.cell? ⟨W.heap.size,4,none⟩=some (.string e.name)/\w'.cell? ⟨W.heap.size,5,none⟩=some (.string e.tag)/\w'.cell? ⟨W.heap.size,6,none⟩=some (.slice a e.elems.length c))) g9 (hS.1 _ (jQ5 _ _).drew) (λai=>?_);refine t2 0 1 ?_;refine rd 2 rfl λK hK=>?_;go_simp;refine(hA.1 _ ai.1).mono ?_;rintro eA wA ⟨rfl,eP⟩;have dI:=ai.1.trans (eP.mono ai.1.size);refine hK.out _ _ (hS.1 _ dI) (λai=>?_);clear hK K;refine tk 3 ?_;refine bg 4 ?_;refine bg 5 ?_;refine bg 6 ?_;refine bg 7 ?_;refine bg 8 ?_;refine bg 9 ?_;refine bg 10 ?_;refine t2 11 12 ?_;refine jQl g9 ?_ _;go_wp2_with fail;go_ret;exact⟨rfl,HA.1.trans (dI.mono HA.1.size)⟩
 ·obtain⟨q,hq,h3⟩:=jQ1.1 h2;have h3:=aX h3;obtain⟨H1,HQ,H3⟩:=Z3 h1 hq h3;clear hp hx hv hs h1 h2 h3 hq hl;go_enter func175,ntmps175;go_wp2_with fail;generalize sj:W.alloc (bx e a c)=w2 at HA HX HV HL c0 c1 c2 c3 c4 c5 c6 d0 d1 zI iT mU;have hS:=Z (show∀w',Below w2.heap.size w2 w'->(λw'=>Below w2.heap.size w2 w'/\w'.cell? ⟨Bw,0,none⟩=some (.slice wa w.length wc)/\w'.cell? ⟨Bl,0,none⟩=some (.slice la l.length lc)/\w'.cell? ⟨W.heap.size,0,none⟩=some (.int .i64 e.kind)/\w'.cell? ⟨W.heap.size,1,none⟩=some (.int .i64 e.n)/\w'.cell? ⟨W.heap.size,2,none⟩=some (.int .i64 e.m)/\w'.cell? ⟨W.heap.size,3,none⟩=some (.bool e.va)/\w'.cell? ⟨W.heap.size,4,none⟩=some (.string e.name)/\w'.cell? ⟨W.heap.size,5,none⟩=some (.string e.tag)/\w'.cell? ⟨W.heap.size,6,none⟩=some (.slice a e.elems.length c)) w' from λw' hb=>⟨hb,(hb.cell (p:=⟨Bw,0,none⟩) zI).trans d0,(hb.cell (p:=⟨Bl,0,none⟩) iT).trans d1,(hb.cell (p:=⟨W.heap.size,0,none⟩) mU).trans c0,(hb.cell (p:=⟨W.heap.size,1,none⟩) mU).trans c1,(hb.cell (p:=⟨W.heap.size,2,none⟩) mU).trans c2,(hb.cell (p:=⟨W.heap.size,3,none⟩) mU).trans c3,(hb.cell (p:=⟨W.heap.size,4,none⟩) mU).trans c4,(hb.cell (p:=⟨W.heap.size,5,none⟩) mU).trans c5,(hb.cell (p:=⟨W.heap.size,6,none⟩) mU).trans c6⟩);have hA:=Z<|λ(w':World) (hb:Below w2.heap.size w2 w')=>gl w _ e true _ w' D H1.1 (HX.1.mv hb) (HV.1.mv HX.1.lo hb);have hB:=Z<|λ(w':World) (hb:Below w2.heap.size w2 w')=>ga k w _ e q _ w' D HQ.1 (HX.1.mv hb) (HV.1.mv HX.1.lo hb);have hC:=Z<|λ(w':World) (vb:Value) (hb:Below w2.heap.size w2 w') (h2:RS (Up D w2.heap.size w'.heap.size) w' q vb)=>
   pz k (fA k) w _ l q (!r) _ _ w' _ H3.1 ((HX.1.mv hb).up (n:=w2.heap.size) HX.1.lo hb.size) ((HL.1.mv HX.1.lo hb).move (au.refl.wide Up.of)) h2
  try rw[sj]
  go_region_held3 (λw'=>Below w2.heap.size w2 w'/\w'.cell? ⟨Bw,0,none⟩=some (.slice wa w.length wc)/\w'.cell? ⟨Bl,0,none⟩=some (.slice la l.length lc)/\w'.cell? ⟨W.heap.size,0,none⟩=some (.int .i64 e.kind)/\w'.cell? ⟨W.heap.size,1,none⟩=some (.int .i64 e.n)/\w'.cell? ⟨W.heap.size,2,none⟩=some (.int .i64 e.m)/\w'.cell? ⟨W.heap.size,3,none⟩=some (.bool e.va)/\w'.cell? ⟨W.heap.size,4,none⟩=some (.string e.name)/\w'.cell? ⟨W.heap.size,5,none⟩=some (.string e.tag)/\w'.cell? ⟨W.heap.size,6,none⟩=some (.slice a e.elems.length c))
   (first|exact hS.1 _ (jQ5 _ _).drew|assumption)
   (first
    |(go_at_call 170;have hh:=‹Below w2.heap.size w2 _/\_›;refine(hA.1 _ hh.1).mono ?_;rintro eA wA ⟨rfl,eP⟩;have dI:=hh.1.trans (eP.mono hh.1.size);have hS4:=hS.1 _ dI)
    |(go_at_call 171;have hh:=‹Below w2.heap.size w2 _/\_›;refine(hB.1 _ hh.1).mono ?_;rintro eB wB ID;obtain⟨vB,rfl,Ef,IF⟩:=ID.Pf;obtain⟨aB,cB,rfl⟩:=Ef.form;have iD:=hh.1.trans (IF.mono hh.1.size);have hS5:=hS.1 _ iD;have wL:=Z (Ef.move (au.refl.wide (Up.mono hh.1.size (jQ0 _))));clear ID Ef)
    |(go_at_call 176;have hh:=‹Below w2.heap.size w2 _/\_›;refine(hC.1 _ _ hh.1 wL.1).mono ?_;rintro eC wC ⟨rfl,hbC⟩;have gS:=hh.1.trans (hbC.mono hh.1.size);have hS6:=hS.1 _ gS))
  go_wp2_with fail;go_ret;exact⟨i6,HA.1.trans (gS.mono HA.1.size)⟩
theorem yv(k:Nat)(w:List ah)(ws:Value)(t:GT)(r:Bool)(v:Value)(W:World)(D:Nat->Prop)(hp:agree k w t=some r)(hx:Cx D w ws W)(hv:RT D W t v):
 Calls prog 128 #[ws,v] W (ef W r):=by
 obtain⟨l,hl,hp⟩:=jQ1.1 hp;obtain⟨es,Hp,hp⟩:=jQ1.1 hp;have hp:=aX hp;obtain⟨a,c,rfl,hs⟩:=hv.bR;obtain⟨wa,wc,rfl⟩:=hx.rd.form;have HA:=Z (dT W (.cells #[.slice wa w.length wc] 22) (bx t a c));have ag:=ga k w _ t l _ _ D hl (hx.mv HA.1) (hv.mv hx.lo HA.1);obtain⟨HX,HS,HP,qM,ej⟩:=Z5 hx hs hp (ak (W.alloc (.cells #[.slice wa w.length wc] 22)) (bx t a c)) (aq (o:=bx t a c) (ak W (.cells #[.slice wa w.length wc] 22)));simp only[jQ3]at qM;clear hp hx hv hs hl;go_enter func128,ntmps128;go_wp2_with fail;refine ag.mono ?_;rintro e w1 IG;obtain⟨v1,rfl,Ef,ar⟩:=IG.Pf;obtain⟨aB,cB,rfl⟩:=Ef.form;have HB:=Z (HA.1.trans (ar.mono HA.1.size));have FO:=jQh (aj ar ej.1 (by simp;omega));obtain⟨c0,c1,c2,c3,c4,c5,c6⟩:=ao (aj ar qM.1 i6);have gj:=ar.size;simp only[jQ3]at gj Ef c0 c1 c2 c3 c4 c5 c6;have iT:W.heap.size+1<w1.heap.size:=m9
 have wL:=Z Ef;obtain⟨a2,xv,pT,su⟩:=RS.from ((HS.1).mv HX.1.lo HB.1) Hp;have HC:=Z (HB.1.alloc m9 (.cells #[.slice aB l.length cB] 23));have B1:=Z (an w1 (.cells #[.slice aB l.length cB] 23));have Ln:Lo (Up D (W.heap.size+1+1) w1.heap.size) w1.heap.size:=Up.lo (HX.1.lo.mono m9) m9;have dF:=((HX.1.mv HB.1).up (n:=W.heap.size+1+1) (HX.1.lo.mono m9) m9).mv B1.1;have eX:=(su.move (au.refl.wide (λb hb=>(Or.inl hb:Up D (W.heap.size+1+1) w1.heap.size b)))).mv Ln B1.1;have fh:=wL.1.mv Ln B1.1;have fw:=(B1.1.cell (p:=⟨W.heap.size,0,none⟩) (by simp;omega)).trans FO;have hL2:=jQh (ak w1 (.cells #[.slice aB l.length cB] 23));have ag:=cL es _ _ _ eX dF.lo 175 #[.pointer (some ⟨W.heap.size,0,none⟩),.pointer (some ⟨w1.heap.size,0,none⟩)] Tryz.call175 _ (λW1 e v bb ar _ dr ke=>
  agC k w _ l _ e bb v W1 _ _ _ ke (dF.mv ar) dr (fh.mv dF.lo ar) ((ar.cell (p:=⟨W.heap.size,0,none⟩) (by simp;omega)).trans fw) ((ar.cell (p:=⟨w1.heap.size,0,none⟩) i6).trans hL2)) _ HP.1
 have D8:=uW;clear dF eX fh Ln fw hL2 su Ef IG ar;go_wp2_with fail;refine ag.mono ?_;rintro e w2 ⟨rfl,cX⟩;have HD:=Z (HC.1.trans (cX.mono (by simp;omega)));clear cX;exact M195
theorem ui(k:Nat):xS k/\wg k/\Gl k/\Gm k/\Gn k:=by
 induction k with
 |zero=>
  refine⟨?_,?_,?_,?_,?_⟩
  ·intro w ws t p r v W D h;simp[placed]at h
  ·intro w ws t p r v W D h;simp[allPlaced]at h
  ·intro w ws t p r v W D h;simp[placedInterface]at h
  ·intro w ws t p r v W D h;simp[dz]at h
  ·intro w ws t p r v W D h;simp[placedTerm]at h
 |succ k ih=>
  obtain⟨h1,h2,h3,h4,h5⟩:=ih;exact⟨U9 k h2 h3,PW k h1,VC k h1 h4,Ue k h5,TZ k h1⟩
def CF(w1 wx:World)(x y:GT)(ax ay:Option Addr)(cx cy:Nat)(s7 s8:Value):Prop:=
 ∃b7 b8,s7=.pointer (some ⟨b7,0,none⟩)/\s8=.pointer (some ⟨b8,0,none⟩)/\b7≠b8/\w1.heap.size<=b7/\w1.heap.size<=b8/\wx.heap[b7]?=some (bx x ax cx)/\wx.heap[b8]?=some (bx y ay cy)/\Below w1.heap.size w1 wx
theorem acU(w1:World)(x y:GT)(ax ay:Option Addr)(cx cy:Nat):CF w1 ((w1.alloc (bx x ax cx)).alloc (bx y ay cy)).drew x y ax ay cx cy (.pointer (some ⟨w1.heap.size,0,none⟩)) (.pointer (some ⟨w1.heap.size+1,0,none⟩)):=
 ⟨w1.heap.size,w1.heap.size+1,rfl,rfl,m9,m9,m9,aq (ak w1 _),by have:=ak (w1.alloc (bx x ax cx)) (bx y ay cy);simp only[jQ3]at this;exact this,(dT w1 _ _).drew⟩
theorem acV(w1:World)(x y:GT)(ax ay:Option Addr)(cx cy:Nat):CF w1 ((w1.alloc (bx y ay cy)).alloc (bx x ax cx)).drew x y ax ay cx cy (.pointer (some ⟨w1.heap.size+1,0,none⟩)) (.pointer (some ⟨w1.heap.size,0,none⟩)):=
 ⟨w1.heap.size+1,w1.heap.size,rfl,rfl,m9,m9,m9,by have:=ak (w1.alloc (bx y ay cy)) (bx x ax cx);simp only[jQ3]at this;exact this,aq (ak w1 _),(dT w1 _ _).drew⟩
def aaV(D:Nat->Prop)(W wx:World)(b7 b8:Nat)(x y:GT)(ax ay:Option Addr)(cx cy:Nat)(a:GT):Prop:=
 ∃aa ca,wx.heap[b7]?=some (bx a aa ca)/\wx.heap[b8]?=some (bx y ay cy)/\RS D wx a.elems (.slice aa a.elems.length ca)/\Below W.heap.size W wx/\
  wx.heap[W.heap.size]?=some (bx x ax cx)/\wx.heap[W.heap.size+1]?=some (bx y ay cy)
def af9(D:Nat->Prop)(W wx:World)(b7 b8:Nat)(x y:GT)(ax ay:Option Addr)(cx cy:Nat)(a b:GT):Prop:=
 ∃aa ca bb cb,wx.heap[b7]?=some (bx a aa ca)/\wx.heap[b8]?=some (bx b bb cb)/\RS D wx a.elems (.slice aa a.elems.length ca)/\RS D wx b.elems (.slice bb b.elems.length cb)/\Below W.heap.size W wx/\
  wx.heap[W.heap.size]?=some (bx x ax cx)/\wx.heap[W.heap.size+1]?=some (bx y ay cy)
theorem MG(k:Nat)(w:List ah)(ws:Value)(x y:GT)(r:Bool)(vx vy:Value)(W:World)(D:Nat->Prop)(hp:iR k w x y=some r)(hx:Cx D w ws W)(xH:RT D W x vx)(Nw:RT D W y vy):
 Calls prog 174 #[ws,vx,vy] W (ef W r):=by
 obtain⟨ax,cx,rfl,Z2⟩:=xH.bR;obtain⟨ay,cy,rfl,rV⟩:=Nw.bR;obtain⟨wa,wq,rfl⟩:=hx.rd.form;have HP:=Z hp;have HX:=Z hx;have En:=Z xH;have We:=Z Nw;have CQ:=Z Z2;have xo:=Z rV;have HA:=Z (dT W (bx x ax cx) (bx y ay cy));clear hp hx xH Nw Z2 rV;go_enter func174,ntmps174
 go_upto_region 1 with fail
 go_cut [7,8] (λs7 s8 wx=>CF ((W.alloc (bx x ax cx)).alloc (bx y ay cy)) wx x y ax ay cx cy s7 s8)
 case first=>
  go_region
  all_goals(go_wp2_with fail;go_meet;(have q1:=acU ((W.alloc (bx x ax cx)).alloc (bx y ay cy)) x y ax ay cx cy);(have q2:=acV ((W.alloc (bx x ax cx)).alloc (bx y ay cy)) x y ax ay cx cy);simp only[jQ3]at q1 q2;first|exact q1|exact q2)
 case rest=>
  obtain⟨b7,b8,rfl,rfl,bk,h7,h8,ek,nN,V0⟩:=hcut;obtain⟨wx,R8⟩:∃wx,wx=wc:=⟨wc,rfl⟩;subst R8;obtain⟨a,hae,ke⟩:=jQ1.1 HP.1;obtain⟨b,Ke,fJ⟩:=jQ1.1 ke;have j7:((W.alloc (bx x ax cx)).alloc (bx y ay cy)).heap.size=W.heap.size+1+1:=i6
  rw[j7]at h7 h8 V0;have yX:=Z (HA.1.trans (V0.mono m9));have KY:=Z (aj V0 (aq (o:=bx y ay cy) (ak W (bx x ax cx))) m9);have HWY:=Z (aj V0 (ak (W.alloc (bx x ax cx)) (bx y ay cy)) i6);simp only[jQ3]at HWY;have zM:=Z ek;have WE:=Z nN;have pG:=Z fJ;have hl7:=jQ2 ek;have R4:=jQ2 nN;obtain⟨c0,c1,c2,c3,c4,c5,c6⟩:=ao KY.1;obtain⟨d0,d1,d2,d3,d4,d5,d6⟩:=ao HWY.1;clear ke fJ V0 ek nN;have HCA:=Z (show∀(wA:World) (g:Nat) (cs:Array Value),kT g cs 25 wx wA->W.heap.size+1+1<=g->wA.heap[W.heap.size]?=some (bx x ax cx)/\wA.heap[W.heap.size+1]?=some (bx y ay cy)/\Below W.heap.size W wA from λwA g cs hp hg=>
   ⟨hp.cR KY.1 m9,hp.cR HWY.1 m9,hp.below yX.1 m9⟩)
  go_upto_if 13 with fail
  go_cut [] (λwA=>aaV D W wA b7 b8 x y ax ay cx cy a)
  case first=>
   by_cases ye:x.kind=13
   ·have kx:(x.kind==13)=true:=by simp[ye]
    rw[jQ7 ye]at hae;have aga:¬x.elems.length=0:=λe=>by rw[jQe e]at hae;simp at hae
    rcases aN.1 CQ.1 with⟨he,_⟩|⟨hexn,b1,o1,zd,dN,dQ,lk,acW,hC1⟩
    ·rw[he]at aga;simp at aga
    simp at dN;obtain⟨rfl,rfl⟩:=dN;have hEa:=hC1.at hae;simp only[Nat.zero_mul,Nat.add_zero]at hEa;obtain⟨sa,sc,f0,f1,f2,f3,f4,f5,f6,iL⟩:=hEa.bR;obtain⟨sa',sc',e',hsa⟩:=iL.bR;simp at e';obtain⟨rfl,rfl⟩:=e';have ur:=HX.1.lo _ acW;have g0:=(yX.1.cell (p:=⟨b1,o1,none⟩) ur).trans f0;have g1:=(yX.1.cell (p:=⟨b1,o1+1,none⟩) ur).trans f1;have g2:=(yX.1.cell (p:=⟨b1,o1+2,none⟩) ur).trans f2;have g3:=(yX.1.cell (p:=⟨b1,o1+3,none⟩) ur).trans f3;have g4:=(yX.1.cell (p:=⟨b1,o1+4,none⟩) ur).trans f4;have g5:=(yX.1.cell (p:=⟨b1,o1+5,none⟩) ur).trans f5;have g6:=(yX.1.cell (p:=⟨b1,o1+6,none⟩) ur).trans f6;have HSA:=Z hsa;clear ye hae hEa iL hsa hC1 f0 f1 f2 f3 f4 f5 f6;go_wp2_with (refine fN rfl _ _ rfl b7 rfl rfl zM.1 rfl ?_);intro wA hpA;obtain⟨q1,q2,q3⟩:=HCA.1 _ _ _ hpA h7;have HQ:=Z (show aaV D W wA b7 b8 x y (some ⟨b1,o1,none⟩) ay cx cy a from⟨sa,sc,hpA.here,hpA.cR WE.1 (Ne.symm bk),HSA.1.mv HX.1.lo q3,q3,q1,q2⟩);clear q1 q2 q3 hpA;go_wp2_with fail
    go_meet
    exact HQ.1
   ·have kx:(x.kind==13)=false:=by simp[ye]
    rw[jQ4 ye]at hae;simp at hae;subst hae;clear ye;go_wp2_with fail
    go_meet
    exact⟨ax,cx,zM.1,WE.1,CQ.1.mv HX.1.lo yX.1,yX.1,KY.1,HWY.1⟩
  case rest=>
   obtain⟨aa,ca,m7,m8,msa,mbe,mwx,mwy⟩:=hcut;obtain⟨w5,gW⟩:∃w5,w5=wc:=⟨wc,rfl⟩;subst gW;have M7:=Z m7;have M8:=Z m8;have MSA:=Z msa;have WQ:=Z mbe;have MWX:=Z mwx;have MWY:=Z mwy;have HCB:=Z (show∀(wA:World) (g:Nat) (cs:Array Value),kT g cs 25 w5 wA->W.heap.size+1+1<=g->wA.heap[W.heap.size]?=some (bx x ax cx)/\wA.heap[W.heap.size+1]?=some (bx y ay cy)/\Below W.heap.size W wA from λwA g cs hp hg=>
    ⟨hp.cR MWX.1 m9,hp.cR MWY.1 m9,hp.below WQ.1 m9⟩)
   clear c0 c1 c2 c3 c4 c5 c6 d0 d1 d2 d3 d4 d5 d6;obtain⟨d0,d1,d2,d3,d4,d5,d6⟩:=ao mwy;clear m7 m8 msa mbe mwx mwy
   go_upto_if 20 with fail
   go_cut [] (λwB=>af9 D W wB b7 b8 x y ax ay cx cy a b)
   case first=>
    by_cases yf:y.kind=13
    ·have ky:(y.kind==13)=true:=by simp[yf]
     rw[jQ7 yf]at Ke;have agb:¬y.elems.length=0:=λe=>by rw[jQe e]at Ke;simp at Ke
     rcases aN.1 xo.1 with⟨he,_⟩|⟨heyn,b1,o1,zd,dN,dQ,lk,acW,hC1⟩
     ·rw[he]at agb;simp at agb
     simp at dN;obtain⟨rfl,rfl⟩:=dN;have hEb:=hC1.at Ke;simp only[Nat.zero_mul,Nat.add_zero]at hEb;obtain⟨sa,sc,f0,f1,f2,f3,f4,f5,f6,iL⟩:=hEb.bR;obtain⟨sa',sc',e',rN⟩:=iL.bR;simp at e';obtain⟨rfl,rfl⟩:=e';have ur:=HX.1.lo _ acW;have g0:=(WQ.1.cell (p:=⟨b1,o1,none⟩) ur).trans f0;have g1:=(WQ.1.cell (p:=⟨b1,o1+1,none⟩) ur).trans f1;have g2:=(WQ.1.cell (p:=⟨b1,o1+2,none⟩) ur).trans f2;have g3:=(WQ.1.cell (p:=⟨b1,o1+3,none⟩) ur).trans f3;have g4:=(WQ.1.cell (p:=⟨b1,o1+4,none⟩) ur).trans f4;have g5:=(WQ.1.cell (p:=⟨b1,o1+5,none⟩) ur).trans f5;have g6:=(WQ.1.cell (p:=⟨b1,o1+6,none⟩) ur).trans f6;have wL:=Z rN;clear yf Ke hEb iL rN hC1 f0 f1 f2 f3 f4 f5 f6;go_wp2_with (refine fN rfl _ _ rfl b8 rfl rfl M8.1 rfl ?_);intro wB hpB;obtain⟨q1,q2,q3⟩:=HCB.1 _ _ _ hpB h8;have HQ:=Z (show af9 D W wB b7 b8 x y ax (some ⟨b1,o1,none⟩) cx cy a b from⟨aa,ca,sa,sc,hpB.cR M7.1 bk,hpB.here,MSA.1.move (hpB.aJ (λh=>by have:=HX.1.lo _ h;omega)),wL.1.mv HX.1.lo q3,q3,q1,q2⟩);clear q1 q2 q3 hpB;go_wp2_with fail
     go_meet
     exact HQ.1
    ·have ky:(y.kind==13)=false:=by simp[yf]
     rw[jQ4 yf]at Ke;simp at Ke;subst Ke;clear yf;go_wp2_with fail
     go_meet
     exact⟨aa,ca,ay,cy,M7.1,M8.1,MSA.1,xo.1.mv HX.1.lo WQ.1,WQ.1,MWX.1,MWY.1⟩
   case rest=>
    obtain⟨aa,ca,bb,cb,n7,n8,nsa,nsb,nbe,nwx,nwy⟩:=hcut;obtain⟨w6,kg⟩:∃w6,w6=wc:=⟨wc,rfl⟩;subst kg;have NBE:=Z nbe;have N7:=Z n7;have N8:=Z n8;have NWX:=Z nwx;have NWY:=Z nwy;have NVA:=Z (RT.mk' nsa);have NVB:=Z (RT.mk' nsb);have NX:=Z (HX.1.mv nbe);have hl7:=jQ2 n7;have R4:=jQ2 n8;clear d0 d1 d2 d3 d4 d5 d6;obtain⟨p0,p1,p2,p3,p4,p5,p6⟩:=ao n7;obtain⟨q0,q1,q2,q3,q4,q5,q6⟩:=ao n8;obtain⟨i,hi,hp⟩:=jQ1.1 pG.1;have EY:=Z hp;clear nsa nsb nbe nwx nwy n7 n8 hp;rcases gN hi with⟨ha,rfl⟩|⟨ha,hb⟩
    ·have h:true=r:=by simpa using EY.1
     subst h;have ag:=dh w _ a true _ w6 D ha NX.1.lo NX.1.rd NVA.1;clear hi ha;go_wp2_with fail;refine ag.mono ?_;rintro e w7 ⟨rfl,ek⟩;have HB:=Z (NBE.1.trans (ek.mono NBE.1.size));clear ek ag;exact M33
    ·have ag:=dh w _ a false _ w6 D ha NX.1.lo NX.1.rd NVA.1;have HBq:=Z hb;clear hi ha hb;go_wp2_with fail;refine ag.mono ?_;rintro e w7 ⟨rfl,ek⟩;have H7:=Z ek;clear p0 p1 p2 p3 p4 p5 p6 q0 q1 q2 q3 q4 q5 q6;obtain⟨q0,q1,q2,q3,q4,q5,q6⟩:=ao (aj ek N8.1 R4);have ag:=dh w _ b i _ w7 D HBq.1 (NX.1.mv ek).lo (NX.1.mv ek).rd (NVB.1.mv NX.1.lo ek);clear ek;go_wp2_with fail;refine ag.mono ?_;rintro e w8 ⟨rfl,nN⟩;have Ry:=H7.1.trans (nN.mono H7.1.size);have H8:=Z Ry;clear q0 q1 q2 q3 q4 q5 q6;obtain⟨p0,p1,p2,p3,p4,p5,p6⟩:=ao (aj Ry N7.1 hl7);obtain⟨q0,q1,q2,q3,q4,q5,q6⟩:=ao (aj Ry N8.1 R4);have gj:W.heap.size+1+1<=w6.heap.size:=m9
     obtain⟨c0,c1,c2,c3,c4,c5,c6⟩:=ao (aj Ry NWX.1 m9);obtain⟨d0,d1,d2,d3,d4,d5,d6⟩:=ao (aj Ry NWY.1 m9);have QN:=Z (NX.1.mv Ry);have H8A:=Z (NVA.1.mv NX.1.lo Ry);have H8B:=Z (NVB.1.mv NX.1.lo Ry);have HW8:=Z (NBE.1.trans (Ry.mono NBE.1.size));have OD:b7<w8.heap.size:=jQb hl7 Ry.size;have OE:b8<w8.heap.size:=jQb R4 Ry.size;clear nN Ry ag;cases i with
     |true=>
      have h:true=r:=by simpa using EY.1
      subst h;go_wp2_with fail;go_ret;exact⟨rfl,HW8.1⟩
     |false=>
      have hp:=EY.1;simp only[jQk,jR1]at hp;by_cases ye:x.kind=13
      ·have kx:(x.kind==13)=true:=by simp[ye]
       rw[jQ7 ye]at hp;obtain⟨ub,hub,hp⟩:=jQ1.1 hp;have HI:=Z (aX hp);have HU:=Z hub;clear ye hp hub c0 c1 c2 c3 c4 c5 c6;have c0:=(ao (aj H8.1 NWX.1 m9)).1;go_wp2_with fail;have hS:=Z (show∀w',Below w8.heap.size w8 w'->(λw'=>Below w8.heap.size w8 w'/\w'.cell? ⟨b7,0,none⟩=some (.int .i64 a.kind)/\w'.cell? ⟨b7,1,none⟩=some (.int .i64 a.n)/\w'.cell? ⟨b7,2,none⟩=some (.int .i64 a.m)/\w'.cell? ⟨b7,3,none⟩=some (.bool a.va)/\w'.cell? ⟨b7,4,none⟩=some (.string a.name)/\w'.cell? ⟨b7,5,none⟩=some (.string a.tag)/\w'.cell? ⟨b7,6,none⟩=some (.slice aa a.elems.length ca)/\w'.cell? ⟨b8,0,none⟩=some (.int .i64 b.kind)/\w'.cell? ⟨b8,1,none⟩=some (.int .i64 b.n)/\w'.cell? ⟨b8,2,none⟩=some (.int .i64 b.m)/\w'.cell? ⟨b8,3,none⟩=some (.bool b.va)/\w'.cell? ⟨b8,4,none⟩=some (.string b.name)/\w'.cell? ⟨b8,5,none⟩=some (.string b.tag)/\w'.cell? ⟨b8,6,none⟩=some (.slice bb b.elems.length cb)) w' from λw' hb=>⟨hb,(hb.cell (p:=⟨b7,0,none⟩) OD).trans p0,(hb.cell (p:=⟨b7,1,none⟩) OD).trans p1,(hb.cell (p:=⟨b7,2,none⟩) OD).trans p2,(hb.cell (p:=⟨b7,3,none⟩) OD).trans p3,(hb.cell (p:=⟨b7,4,none⟩) OD).trans p4,(hb.cell (p:=⟨b7,5,none⟩) OD).trans p5,(hb.cell (p:=⟨b7,6,none⟩) OD).trans p6,(hb.cell (p:=⟨b8,0,none⟩) OE).trans q0,(hb.cell (p:=⟨b8,1,none⟩) OE).trans q1,(hb.cell (p:=⟨b8,2,none⟩) OE).trans q2,(hb.cell (p:=⟨b8,3,none⟩) OE).trans q3,(hb.cell (p:=⟨b8,4,none⟩) OE).trans q4,(hb.cell (p:=⟨b8,5,none⟩) OE).trans q5,(hb.cell (p:=⟨b8,6,none⟩) OE).trans q6⟩);have hU:=Z<|λ(w':World) (hb:Below w8.heap.size w8 w')=>dG w _ b ub _ w' D HU.1 (QN.1.mv hb).lo (QN.1.mv hb).rd (H8B.1.mv QN.1.lo hb);have hI:=Z<|λ(w':World) (vU:Value) (hb:Below w8.heap.size w8 w') (hr:RT (Up D w8.heap.size w'.heap.size) w' ub vU)=>
        fA k w _ a ub (!r) _ vU w' _ HI.1 ((QN.1.mv hb).up (n:=w8.heap.size) QN.1.lo hb.size) ((H8A.1.mv QN.1.lo hb).move (au.refl.wide Up.of)) hr
       refine jQ9 (S:=(λw'=>Below w8.heap.size w8 w'/\w'.cell? ⟨b7,0,none⟩=some (.int .i64 a.kind)/\w'.cell? ⟨b7,1,none⟩=some (.int .i64 a.n)/\w'.cell? ⟨b7,2,none⟩=some (.int .i64 a.m)/\w'.cell? ⟨b7,3,none⟩=some (.bool a.va)/\w'.cell? ⟨b7,4,none⟩=some (.string a.name)/\w'.cell? ⟨b7,5,none⟩=some (.string a.tag)/\w'.cell? ⟨b7,6,none⟩=some (.slice aa a.elems.length ca)/\w'.cell? ⟨b8,0,none⟩=some (.int .i64 b.kind)/\w'.cell? ⟨b8,1,none⟩=some (.int .i64 b.n)/\w'.cell? ⟨b8,2,none⟩=some (.int .i64 b.m)/\w'.cell? ⟨b8,3,none⟩=some (.bool b.va)/\w'.cell? ⟨b8,4,none⟩=some (.string b.name)/\w'.cell? ⟨b8,5,none⟩=some (.string b.tag)/\w'.cell? ⟨b8,6,none⟩=some (.slice bb b.elems.length cb))) g9 (hS.1 _ (jQ5 _ _).drew) (λai=>?_);refine t4 0 1 2 3 ?_;refine rd 4 rfl λK hK=>?_;go_simp;have hh:=ai.1;clear ai;refine(hU.1 _ hh).mono ?_;rintro eU wU ⟨vU,rfl,U0,YM⟩;obtain⟨aU,cU,rfl,hsU⟩:=U0.bR;have dI:=hh.trans (YM.mono hh.size);have HRU:=Z (U0.move (D':=Up D w8.heap.size wU.heap.size) (au.refl.wide (Up.mono hh.size (jQ0 _))));refine hK.out _ _ (hS.1 _ dI) (λai=>?_);clear hh YM U0 hsU dI;clear hK K;refine rd 5 rfl λK hK=>?_;go_simp;have hh:=ai.1;clear ai;refine(hI.1 _ _ hh HRU.1).mono ?_;rintro eI wI ⟨rfl,nW⟩;have gS:=hh.trans (nW.mono hh.size);refine hK.out _ _ (hS.1 _ gS) (λai=>?_);clear hh nW;clear hK K;refine t2 6 7 ?_;refine jQl g9 ?_ _;have xL:=Z gS;clear ai gS;exact M206
      ·have kx:(x.kind==13)=false:=by simp[ye]
       rw[jQ4 ye]at hp;clear ye;by_cases yf:y.kind=13
       ·have ky:(y.kind==13)=true:=by simp[yf]
        rw[jQ7 yf]at hp;obtain⟨ub,hub,hp⟩:=jQ1.1 hp;have HI:=Z (aX hp);have HU:=Z hub;clear yf hp hub;go_wp2_with fail;have hS:=Z (show∀w',Below w8.heap.size w8 w'->(λw'=>Below w8.heap.size w8 w'/\w'.cell? ⟨b7,0,none⟩=some (.int .i64 a.kind)/\w'.cell? ⟨b7,1,none⟩=some (.int .i64 a.n)/\w'.cell? ⟨b7,2,none⟩=some (.int .i64 a.m)/\w'.cell? ⟨b7,3,none⟩=some (.bool a.va)/\w'.cell? ⟨b7,4,none⟩=some (.string a.name)/\w'.cell? ⟨b7,5,none⟩=some (.string a.tag)/\w'.cell? ⟨b7,6,none⟩=some (.slice aa a.elems.length ca)/\w'.cell? ⟨b8,0,none⟩=some (.int .i64 b.kind)/\w'.cell? ⟨b8,1,none⟩=some (.int .i64 b.n)/\w'.cell? ⟨b8,2,none⟩=some (.int .i64 b.m)/\w'.cell? ⟨b8,3,none⟩=some (.bool b.va)/\w'.cell? ⟨b8,4,none⟩=some (.string b.name)/\w'.cell? ⟨b8,5,none⟩=some (.string b.tag)/\w'.cell? ⟨b8,6,none⟩=some (.slice bb b.elems.length cb)) w' from λw' hb=>⟨hb,(hb.cell (p:=⟨b7,0,none⟩) OD).trans p0,(hb.cell (p:=⟨b7,1,none⟩) OD).trans p1,(hb.cell (p:=⟨b7,2,none⟩) OD).trans p2,(hb.cell (p:=⟨b7,3,none⟩) OD).trans p3,(hb.cell (p:=⟨b7,4,none⟩) OD).trans p4,(hb.cell (p:=⟨b7,5,none⟩) OD).trans p5,(hb.cell (p:=⟨b7,6,none⟩) OD).trans p6,(hb.cell (p:=⟨b8,0,none⟩) OE).trans q0,(hb.cell (p:=⟨b8,1,none⟩) OE).trans q1,(hb.cell (p:=⟨b8,2,none⟩) OE).trans q2,(hb.cell (p:=⟨b8,3,none⟩) OE).trans q3,(hb.cell (p:=⟨b8,4,none⟩) OE).trans q4,(hb.cell (p:=⟨b8,5,none⟩) OE).trans q5,(hb.cell (p:=⟨b8,6,none⟩) OE).trans q6⟩);have hU:=Z<|λ(w':World) (hb:Below w8.heap.size w8 w')=>dG w _ a ub _ w' D HU.1 (QN.1.mv hb).lo (QN.1.mv hb).rd (H8A.1.mv QN.1.lo hb);have hI:=Z<|λ(w':World) (vU:Value) (hb:Below w8.heap.size w8 w') (hr:RT (Up D w8.heap.size w'.heap.size) w' ub vU)=>
         fA k w _ ub b (!r) vU _ w' _ HI.1 ((QN.1.mv hb).up (n:=w8.heap.size) QN.1.lo hb.size) hr ((H8B.1.mv QN.1.lo hb).move (au.refl.wide Up.of))
        go_region_held3 (λw'=>Below w8.heap.size w8 w'/\w'.cell? ⟨b7,0,none⟩=some (.int .i64 a.kind)/\w'.cell? ⟨b7,1,none⟩=some (.int .i64 a.n)/\w'.cell? ⟨b7,2,none⟩=some (.int .i64 a.m)/\w'.cell? ⟨b7,3,none⟩=some (.bool a.va)/\w'.cell? ⟨b7,4,none⟩=some (.string a.name)/\w'.cell? ⟨b7,5,none⟩=some (.string a.tag)/\w'.cell? ⟨b7,6,none⟩=some (.slice aa a.elems.length ca)/\w'.cell? ⟨b8,0,none⟩=some (.int .i64 b.kind)/\w'.cell? ⟨b8,1,none⟩=some (.int .i64 b.n)/\w'.cell? ⟨b8,2,none⟩=some (.int .i64 b.m)/\w'.cell? ⟨b8,3,none⟩=some (.bool b.va)/\w'.cell? ⟨b8,4,none⟩=some (.string b.name)/\w'.cell? ⟨b8,5,none⟩=some (.string b.tag)/\w'.cell? ⟨b8,6,none⟩=some (.slice bb b.elems.length cb))
         (first|exact hS.1 _ (jQ5 _ _).drew|assumption)
         (first
          |(go_at_call 130;have hh:=‹Below w8.heap.size w8 _/\_›;refine(hU.1 _ hh.1).mono ?_;rintro eU wU ⟨vU,rfl,U0,YM⟩;obtain⟨aU,cU,rfl,hsU⟩:=U0.bR;have dI:=hh.1.trans (YM.mono hh.1.size);have hS4:=hS.1 _ dI;have HRU:=Z (U0.move (D':=Up D w8.heap.size wU.heap.size) (au.refl.wide (Up.mono hh.1.size (jQ0 _))));clear U0 hsU)
          |(go_at_call 207;have hh:=‹Below w8.heap.size w8 _/\_›;refine(hI.1 _ _ hh.1 HRU.1).mono ?_;rintro eI wI ⟨rfl,nW⟩;have gS:=hh.1.trans (nW.mono hh.1.size);have hS6:=hS.1 _ gS))
        have xL:=Z gS;exact M206
       ·have ky:(y.kind==13)=false:=by simp[yf]
        rw[jQ4 yf]at hp;have ag:=fA k w _ a b (!r) _ _ w8 _ (aX hp) QN.1 H8A.1 H8B.1;clear yf hp;go_wp2_with fail;refine ag.mono ?_;rintro e w9 ⟨rfl,zG⟩;have HB:=Z (HW8.1.trans (zG.mono HW8.1.size));clear zG ag;exact M84
def mi(k:Nat):Prop:=∀(w:List ah) (ws:Value) (t:GT) (g:Bool) (r:Bool) (v:Value) (W:World) (D:Nat->Prop),gT w k t g=some r->Cx D w ws W->RT D W t v->
 Calls prog 41 #[ws,v,.bool g] W (ef W r)
def BC(k:Nat):Prop:=∀(w:List ah) (ws:Value) (l:List GT) (r:Bool) (v:Value) (W:World) (D:Nat->Prop),allMeant w k l=some r->Cx D w ws W->RS D W l v->
 Calls prog 20 #[ws,v] W (ef W r)
def LW(k:Nat):Prop:=∀(w:List ah) (ws:Value) (t:GT) (g:Bool) (r:Bool) (v:Value) (W:World) (D:Nat->Prop),fZ w k t g=some r->Cx D w ws W->RT D W t v->
 Calls prog 91 #[ws,v,.bool g] W (ef W r)
def TJ(k:Nat):Prop:=∀(w:List ah) (ws:Value) (t:GT) (g:Bool) (r:Bool) (v:Value) (W:World) (D:Nat->Prop),df w k t g=some r->Cx D w ws W->RT D W t v->
 Calls prog 127 #[ws,v,.bool g] W (ef W r)
def Ge(k:Nat):Prop:=∀(w:List ah) (ws:Value) (t:GT) (r:Bool) (v:Value) (W:World) (D:Nat->Prop),dY w k t=some r->Cx D w ws W->RT D W t v->
 Calls prog 169 #[ws,v] W (ef W r)
theorem amC(k:Nat)(ih:mi k)(w:List ah)(ws:Value)(e:GT)(r:Bool)(v:Value)(W:World)(D:Nat->Prop)(Bw:Nat)(hp:bh (gT w k e false)=some r)(hx:Cx D w ws W)(hv:RT D W e v)(hB:W.cell? ⟨Bw,0,none⟩=some ws):
 Calls prog 44 #[v,.pointer (some ⟨Bw,0,none⟩)] W (ef W r):=by
 have lR:=jQs hB;simp only at lR;obtain⟨b,hb,rfl⟩:=jQ6.1 hp;obtain⟨a,c,rfl,hs⟩:=hv.bR;obtain⟨wa,wc,rfl⟩:=hx.rd.form;have HA:=Z (an W (bx e a c));have ag:=ih w _ e false b _ _ D hb (hx.mv HA.1) (hv.mv hx.lo HA.1);clear hp hx hv hs hb;go_enter func44,ntmps44;exact M6
theorem BE(k:Nat)(ih:mi k):BC (k+1):=by
 intro w ws l r v W D hp hx hv;rw[allMeant]at hp;have hp:=aX hp;obtain⟨wa,wc,rfl⟩:=hx.rd.form;obtain⟨a,c,rfl⟩:=hv.form;have HA:=Z (an W (.cells #[.slice wa w.length wc] 22));have fw:=jQh (ak W (.cells #[.slice wa w.length wc] 22));have dF:=hx.mv HA.1;have ag:=cL l _ _ D (hv.mv hx.lo HA.1) dF.lo 44 #[.pointer (some ⟨W.heap.size,0,none⟩)] Tryz.call44 _ (λW1 e v bb ar _ dr ke=>
  amC k ih w _ e bb v W1 D W.heap.size ke (dF.mv ar) dr ((ar.cell (p:=⟨W.heap.size,0,none⟩) i6).trans fw)) (!r) hp
 have D8:=uW;clear hx hv dF fw hp;go_enter func20,ntmps20;exact M28
theorem LX(k:Nat)(Wr:mi k)(ihI:LW k)(Gf:BC k):mi (k+1):=by
 intro w ws t g r v W D hp hx hv;rw[gT]at hp;obtain⟨a,c,rfl,hs⟩:=hv.bR;obtain⟨wa,wc,rfl⟩:=hx.rd.form;have HA:=Z (an W (bx t a c));by_cases h2:t.kind=2
 ·have k2:(t.kind==2)=true:=by simp[h2]
  rw[jQ7 h2]at hp;obtain⟨e,he,hp⟩:=jQ1.1 hp;have fV:¬t.elems.length=0:=λh=>by rw[jQe h]at he;simp at he
  rcases aN.1 hs with⟨zh,_⟩|⟨bk,b,o,c1,e1,Jd,jG,kN,hC⟩
  ·rw[zh]at fV;simp at fV
  simp at e1;obtain⟨rfl,rfl⟩:=e1;have hE:=(hC.at he).move (hx.lo.aJ HA.1) kN;simp only[Nat.zero_mul,Nat.add_zero]at hE;obtain⟨ea,ec,f0,f1,f2,f3,f4,f5,f6,r5⟩:=hE.bR;have j6:=hx.lo b kN;have ag:=Wr w _ e g r _ _ D hp (hx.mv HA.1) r5;clear hp hx hv hs hE r5 hC he h2;exact M210
 ·have k2:(t.kind==2)=false:=by simp[h2]
  rw[jQ4 h2]at hp;clear h2;by_cases bH:t.kind=10
  ·have sq:(t.kind==10)=true:=by simp[bH]
   rw[jQ7 bH]at hp;have ag:=ihI w _ t g r _ _ D hp (hx.mv HA.1) (hv.mv hx.lo HA.1);clear hp hx hv hs bH;exact M210
  ·have sq:(t.kind==10)=false:=by simp[bH]
   rw[jQ4 bH]at hp;obtain⟨HX,HS,qM⟩:=Z3 (hx.mv HA.1) (hs.mv hx.lo HA.1) (ak W (bx t a c));cases g with
   |true=>
    have hp:allMeant w k t.elems=some r:=by simpa[fy,po]using hp
    have ag:=Gf w _ t.elems r _ _ D hp HX.1 HS.1;clear hp hx hv hs bH;exact M210
   |false=>
    rcases cY hp with⟨h1,rfl⟩|⟨h1,h3⟩
    ·have hg:general w k t=some true:=by simpa[po,bh]using h1
     have ag:=gM k w _ t true _ _ D hg HX.1.lo HX.1.rd (hv.mv hx.lo HA.1);clear hp hx hv hs bH h1 hg;exact M210
    ·have hg:general w k t=some false:=by simpa[po,bh]using h1
     have ag:=gM k w _ t false _ _ D hg HX.1.lo HX.1.rd (hv.mv hx.lo HA.1);have H3:=Z h3;clear hp hx hv hs bH h1 hg h3;go_enter func41,ntmps41;go_wp2_with fail;refine ag.mono ?_;rintro e w1 ⟨rfl,ar⟩;have bS:=Z ar;obtain⟨c0,c1,c2,c3,c4,c5,c6⟩:=ao (aj ar qM.1 i6);have ag:=Gf w _ t.elems r _ w1 D H3.1 (HX.1.mv ar) (HS.1.mv HX.1.lo ar);clear ar;go_wp2_with fail;refine ag.mono ?_;rintro e w2 ⟨rfl,cX⟩;exact M173
theorem UZ(k:Nat)(Wr:mi k):Ge (k+1):=by
 intro w ws x r v W D hp hx hv;rw[dY]at hp;obtain⟨ax,cx,rfl,hs⟩:=hv.bR;obtain⟨wa,wq,rfl⟩:=hx.rd.form;have HA:=Z (an W (bx x ax cx));by_cases cg:x.kind=13
 ·have ll:(x.kind==13)=true:=by simp[cg]
  rw[jQ7 cg]at hp;obtain⟨e,he,hp⟩:=jQ1.1 hp;have fV:¬x.elems.length=0:=λh=>by rw[jQe h]at he;simp at he
  rcases aN.1 hs with⟨zh,_⟩|⟨bk,b,o,c1,e1,Jd,jG,kN,hC⟩
  ·rw[zh]at fV;simp at fV
  simp at e1;obtain⟨rfl,rfl⟩:=e1;have hE:=(hC.at he).move (hx.lo.aJ HA.1) kN;simp only[Nat.zero_mul,Nat.add_zero]at hE;obtain⟨ea,ec,f0,f1,f2,f3,f4,f5,f6,r5⟩:=hE.bR;have j6:=hx.lo b kN;have pZ:=Z (HA.1.alloc i6 (bx e ea ec));have H12:=an (W.alloc (bx x (some ⟨b,o,none⟩) cx)) (bx e ea ec);have HX:=Z (hx.mv pZ.1);have HE:=Z (r5.mv (hx.mv HA.1).lo H12);obtain⟨p0,p1,p2,p3,p4,p5,p6⟩:=ao (ak (W.alloc (bx x (some ⟨b,o,none⟩) cx)) (bx e ea ec));simp only[jQ3]at p0 p1 p2 p3 p4 p5 p6;have iT:W.heap.size+1<((W.alloc (bx x (some ⟨b,o,none⟩) cx)).alloc (bx e ea ec)).heap.size:=i6
  have HP:=Z hp;clear hp hx hv hs hE r5 hC he cg H12;go_enter func169,ntmps169;go_wp2_with fail;generalize sj:(W.alloc (bx x (some ⟨b,o,none⟩) cx)).alloc (bx e ea ec)=w2 at pZ HX HE p0 p1 p2 p3 p4 p5 p6 iT;clear f0 f1 f2 f3 f4 f5 f6;have hS:=Z (show∀w',Below w2.heap.size w2 w'->(λw'=>Below w2.heap.size w2 w'/\w'.cell? ⟨W.heap.size+1,0,none⟩=some (.int .i64 e.kind)/\w'.cell? ⟨W.heap.size+1,1,none⟩=some (.int .i64 e.n)/\w'.cell? ⟨W.heap.size+1,2,none⟩=some (.int .i64 e.m)/\w'.cell? ⟨W.heap.size+1,3,none⟩=some (.bool e.va)/\w'.cell? ⟨W.heap.size+1,4,none⟩=some (.string e.name)/\w'.cell? ⟨W.heap.size+1,5,none⟩=some (.string e.tag)/\w'.cell? ⟨W.heap.size+1,6,none⟩=some (.slice ea e.elems.length ec)) w' from λw' hb=>⟨hb,(hb.cell (p:=⟨W.heap.size+1,0,none⟩) iT).trans p0,(hb.cell (p:=⟨W.heap.size+1,1,none⟩) iT).trans p1,(hb.cell (p:=⟨W.heap.size+1,2,none⟩) iT).trans p2,(hb.cell (p:=⟨W.heap.size+1,3,none⟩) iT).trans p3,(hb.cell (p:=⟨W.heap.size+1,4,none⟩) iT).trans p4,(hb.cell (p:=⟨W.heap.size+1,5,none⟩) iT).trans p5,(hb.cell (p:=⟨W.heap.size+1,6,none⟩) iT).trans p6⟩)
  try rw[sj]
  clear sj;rcases cY HP.1 with⟨h1,rfl⟩|⟨h1,h2⟩
  ·rcases cY h1 with⟨h3,_⟩|⟨h3,h4⟩
   ·have H3:=Z h3;clear h1 h3;have hM:=Z<|λ(w':World) (hb:Below w2.heap.size w2 w')=>Wr w _ e false false _ w' D H3.1 (HX.1.mv hb) (HE.1.mv HX.1.lo hb);refine jQ9 (S:=(λw'=>Below w2.heap.size w2 w'/\w'.cell? ⟨W.heap.size+1,0,none⟩=some (.int .i64 e.kind)/\w'.cell? ⟨W.heap.size+1,1,none⟩=some (.int .i64 e.n)/\w'.cell? ⟨W.heap.size+1,2,none⟩=some (.int .i64 e.m)/\w'.cell? ⟨W.heap.size+1,3,none⟩=some (.bool e.va)/\w'.cell? ⟨W.heap.size+1,4,none⟩=some (.string e.name)/\w'.cell? ⟨W.heap.size+1,5,none⟩=some (.string e.tag)/\w'.cell? ⟨W.heap.size+1,6,none⟩=some (.slice ea e.elems.length ec))) g9 (hS.1 _ (jQ5 _ _).drew) (λai=>?_);refine t2 0 1 ?_;refine rd 2 rfl λK hK=>?_;go_simp;have hh:=ai.1;clear ai;refine(hM.1 _ hh).mono ?_;rintro eA wA ⟨rfl,eP⟩;have dI:=hh.trans (eP.mono hh.size);refine hK.out _ _ (hS.1 _ dI) (λai=>?_);clear hh eP dI;clear hK K;refine tk 3 ?_;refine bg 4 ?_;refine bg 5 ?_;refine bg 6 ?_;refine bg 7 ?_;refine t2 8 9 ?_;exact M145
   ·have H3:=Z h3;have H4:=Z (aX h4);clear h1 h3 h4;have hM:=Z<|λ(w':World) (hb:Below w2.heap.size w2 w')=>Wr w _ e false true _ w' D H3.1 (HX.1.mv hb) (HE.1.mv HX.1.lo hb);have hF:=Z<|λ(w':World) (hb:Below w2.heap.size w2 w')=>dh w _ e true _ w' D H4.1 (HX.1.mv hb).lo (HX.1.mv hb).rd (HE.1.mv HX.1.lo hb);refine jQ9 (S:=(λw'=>Below w2.heap.size w2 w'/\w'.cell? ⟨W.heap.size+1,0,none⟩=some (.int .i64 e.kind)/\w'.cell? ⟨W.heap.size+1,1,none⟩=some (.int .i64 e.n)/\w'.cell? ⟨W.heap.size+1,2,none⟩=some (.int .i64 e.m)/\w'.cell? ⟨W.heap.size+1,3,none⟩=some (.bool e.va)/\w'.cell? ⟨W.heap.size+1,4,none⟩=some (.string e.name)/\w'.cell? ⟨W.heap.size+1,5,none⟩=some (.string e.tag)/\w'.cell? ⟨W.heap.size+1,6,none⟩=some (.slice ea e.elems.length ec))) g9 (hS.1 _ (jQ5 _ _).drew) (λai=>?_);refine t2 0 1 ?_;refine rd 2 rfl λK hK=>?_;go_simp;have hh:=ai.1;clear ai;refine(hM.1 _ hh).mono ?_;rintro eA wA ⟨rfl,eP⟩;have dI:=hh.trans (eP.mono hh.size);refine hK.out _ _ (hS.1 _ dI) (λai=>?_);clear hh eP dI;clear hK K;refine t2 3 4 ?_;refine tk 5 ?_;refine rd 6 rfl λK hK=>?_;go_simp;have hh:=ai.1;clear ai;refine(hF.1 _ hh).mono ?_;rintro eA wA ⟨rfl,eP⟩;have dI:=hh.trans (eP.mono hh.size);refine hK.out _ _ (hS.1 _ dI) (λai=>?_);clear hh eP dI;clear hK K;refine t2 7 8 ?_;refine tk 9 ?_;exact M145
  ·rcases cY h1 with⟨_,h3⟩|⟨h3,h4⟩
   ·cases h3
   ·obtain⟨u,hu,hid⟩:=jQ1.1 h2;obtain⟨H3,H4,HU,HI⟩:=Z4 h3 (aX h4) hu hid;clear h1 h3 h4 h2 hu hid;have hM:=Z<|λ(w':World) (hb:Below w2.heap.size w2 w')=>Wr w _ e false true _ w' D H3.1 (HX.1.mv hb) (HE.1.mv HX.1.lo hb);have hF:=Z<|λ(w':World) (hb:Below w2.heap.size w2 w')=>dh w _ e false _ w' D H4.1 (HX.1.mv hb).lo (HX.1.mv hb).rd (HE.1.mv HX.1.lo hb);have hU:=Z<|λ(w':World) (hb:Below w2.heap.size w2 w')=>dG w _ e u _ w' D HU.1 (HX.1.mv hb).lo (HX.1.mv hb).rd (HE.1.mv HX.1.lo hb);have hI:=Z<|λ(w':World) (vU:Value) (hb:Below w2.heap.size w2 w') (hr:RT (Up D w2.heap.size w'.heap.size) w' u vU)=>
     fA k w _ e u r _ vU w' _ HI.1 ((HX.1.mv hb).up (n:=w2.heap.size) HX.1.lo hb.size) ((HE.1.mv HX.1.lo hb).move (au.refl.wide Up.of)) hr
    refine jQ9 (S:=(λw'=>Below w2.heap.size w2 w'/\w'.cell? ⟨W.heap.size+1,0,none⟩=some (.int .i64 e.kind)/\w'.cell? ⟨W.heap.size+1,1,none⟩=some (.int .i64 e.n)/\w'.cell? ⟨W.heap.size+1,2,none⟩=some (.int .i64 e.m)/\w'.cell? ⟨W.heap.size+1,3,none⟩=some (.bool e.va)/\w'.cell? ⟨W.heap.size+1,4,none⟩=some (.string e.name)/\w'.cell? ⟨W.heap.size+1,5,none⟩=some (.string e.tag)/\w'.cell? ⟨W.heap.size+1,6,none⟩=some (.slice ea e.elems.length ec))) g9 (hS.1 _ (jQ5 _ _).drew) (λai=>?_);refine t2 0 1 ?_;refine rd 2 rfl λK hK=>?_;go_simp;have hh:=ai.1;clear ai;refine(hM.1 _ hh).mono ?_;rintro eA wA ⟨rfl,eP⟩;have dI:=hh.trans (eP.mono hh.size);refine hK.out _ _ (hS.1 _ dI) (λai=>?_);clear hh eP dI;clear hK K;refine t2 3 4 ?_;refine tk 5 ?_;refine rd 6 rfl λK hK=>?_;go_simp;have hh:=ai.1;clear ai;refine(hF.1 _ hh).mono ?_;rintro eA wA ⟨rfl,eP⟩;have dI:=hh.trans (eP.mono hh.size);refine hK.out _ _ (hS.1 _ dI) (λai=>?_);clear hh eP dI;clear hK K;refine t4 7 8 9 10 ?_;refine t2 11 12 ?_;refine tk 13 ?_;refine rd 14 rfl λK hK=>?_;go_simp;have hh:=ai.1;clear ai;refine(hU.1 _ hh).mono ?_;rintro eU wU ⟨vU,rfl,U0,YM⟩;obtain⟨aU,cU,rfl,hsU⟩:=U0.bR;have dI:=hh.trans (YM.mono hh.size);have HRU:=Z (U0.move (D':=Up D w2.heap.size wU.heap.size) (au.refl.wide (Up.mono hh.size (jQ0 _))));refine hK.out _ _ (hS.1 _ dI) (λai=>?_);clear hh YM U0 hsU dI;clear hK K;refine rd 15 rfl λK hK=>?_;go_simp;have hh:=ai.1;clear ai;refine(hI.1 _ _ hh HRU.1).mono ?_;rintro eI wI ⟨rfl,nW⟩;have gS:=hh.trans (nW.mono hh.size);refine hK.out _ _ (hS.1 _ gS) (λai=>?_);clear hh nW gS;clear hK K;refine t2 16 17 ?_;exact M50
 ·have ll:(x.kind==13)=false:=by simp[cg]
  rw[jQ4 cg]at hp;obtain⟨i,hi,hp⟩:=jQ1.1 hp;have pZ:=HA;have HX:=Z (hx.mv HA.1);have HE:=Z (hv.mv hx.lo HA.1);obtain⟨p0,p1,p2,p3,p4,p5,p6⟩:=ao (ak W (bx x ax cx));have iT:W.heap.size<(W.alloc (bx x ax cx)).heap.size:=i6
  have H3:=Z hi;have H4:=Z hp;clear hp hx hv hs cg hi;go_enter func169,ntmps169;go_wp2_with fail;generalize sj:W.alloc (bx x ax cx)=w2 at pZ HX HE p0 p1 p2 p3 p4 p5 p6 iT;have hS:=Z (show∀w',Below w2.heap.size w2 w'->(λw'=>Below w2.heap.size w2 w'/\w'.cell? ⟨W.heap.size,0,none⟩=some (.int .i64 x.kind)/\w'.cell? ⟨W.heap.size,1,none⟩=some (.int .i64 x.n)/\w'.cell? ⟨W.heap.size,2,none⟩=some (.int .i64 x.m)/\w'.cell? ⟨W.heap.size,3,none⟩=some (.bool x.va)/\w'.cell? ⟨W.heap.size,4,none⟩=some (.string x.name)/\w'.cell? ⟨W.heap.size,5,none⟩=some (.string x.tag)/\w'.cell? ⟨W.heap.size,6,none⟩=some (.slice ax x.elems.length cx)) w' from λw' hb=>⟨hb,(hb.cell (p:=⟨W.heap.size,0,none⟩) iT).trans p0,(hb.cell (p:=⟨W.heap.size,1,none⟩) iT).trans p1,(hb.cell (p:=⟨W.heap.size,2,none⟩) iT).trans p2,(hb.cell (p:=⟨W.heap.size,3,none⟩) iT).trans p3,(hb.cell (p:=⟨W.heap.size,4,none⟩) iT).trans p4,(hb.cell (p:=⟨W.heap.size,5,none⟩) iT).trans p5,(hb.cell (p:=⟨W.heap.size,6,none⟩) iT).trans p6⟩)
  try rw[sj]
  clear sj;have hM:=Z<|λ(w':World) (hb:Below w2.heap.size w2 w')=>Wr w _ x i r _ w' D H4.1 (HX.1.mv hb) (HE.1.mv HX.1.lo hb);have hF:=Z<|λ(w':World) (hb:Below w2.heap.size w2 w')=>dh w _ x i _ w' D H3.1 (HX.1.mv hb).lo (HX.1.mv hb).rd (HE.1.mv HX.1.lo hb);refine jQ9 (S:=(λw'=>Below w2.heap.size w2 w'/\w'.cell? ⟨W.heap.size,0,none⟩=some (.int .i64 x.kind)/\w'.cell? ⟨W.heap.size,1,none⟩=some (.int .i64 x.n)/\w'.cell? ⟨W.heap.size,2,none⟩=some (.int .i64 x.m)/\w'.cell? ⟨W.heap.size,3,none⟩=some (.bool x.va)/\w'.cell? ⟨W.heap.size,4,none⟩=some (.string x.name)/\w'.cell? ⟨W.heap.size,5,none⟩=some (.string x.tag)/\w'.cell? ⟨W.heap.size,6,none⟩=some (.slice ax x.elems.length cx))) g9 (hS.1 _ (jQ5 _ _).drew) (λai=>?_);refine t4 0 1 2 3 ?_;refine rd 4 rfl λK hK=>?_;go_simp;have hh:=ai.1;clear ai;refine(hF.1 _ hh).mono ?_;rintro eA wA ⟨rfl,eP⟩;have dI:=hh.trans (eP.mono hh.size);refine hK.out _ _ (hS.1 _ dI) (λai=>?_);clear hh eP dI;clear hK K;refine rd 5 rfl λK hK=>?_;go_simp;have hh:=ai.1;clear ai;refine(hM.1 _ hh).mono ?_;rintro eA wA ⟨rfl,eP⟩;have dI:=hh.trans (eP.mono hh.size);refine hK.out _ _ (hS.1 _ dI) (λai=>?_);clear hh eP dI;clear hK K;refine tk 6 ?_;exact M50
theorem JK(k:Nat)(Gf:BC k)(w:List ah)(ws:Value)(l:List GT)(r:Bool)(v:Value)(W:World)(D:Nat->Prop)(hp:right k w l=some r)(hn:∀e∈l,NB e)(hx:Cx D w ws W)(hv:RS D W l v):
 Calls prog 9 #[ws,v] W (ef W r):=by
 obtain⟨wa,wq,rfl⟩:=hx.rd.form;obtain⟨a,c,rfl⟩:=hv.form;have hP:=(ui k).2.1;rcases cY hp with⟨h1,rfl⟩|⟨h1,h2⟩
 ·have ag:=hP w _ l ⟨w.length,false,false⟩ false _ W D h1 hn hx hv;clear hp hx hv hn h1;go_enter func9,ntmps9;exact M174
 ·have ag:=hP w _ l ⟨w.length,false,false⟩ true _ W D h1 hn hx hv;obtain⟨HX,HV,H2⟩:=Z3 hx hv h2;clear hp hx hv hn h1 h2;go_enter func9,ntmps9;go_wp2_with fail;refine ag.mono ?_;rintro e w1 ⟨rfl,ar⟩;have bS:=Z ar;have ag:=Gf w _ l r _ w1 D H2.1 (HX.1.mv ar) (HV.1.mv HX.1.lo ar);exact M134
def F3(k:Nat):Prop:=∀(w:List ah) (ws:Value) (t:GT) (r:Int) (v:Value) (W:World) (D:Nat->Prop),S.written w k t=some r->Cx D w ws W->RT D W t v->
 Calls prog 129 #[ws,v] W λe W'=>e=.returned (.int .i64 r)/\Below W.heap.size W W'
def miF(w:List ah)(k:Nat)(g:Bool)(_:Nat)(e:GT):Option (Option Bool):=(df w k e g).map λb=>if b then none else some false
theorem Ut(k:Nat)(ihE:TJ k)(Gf:BC k)(ihW:F3 k):LW (k+1):=by
 intro w ws t g r v W D hp hx hv;rw[fZ]at hp;obtain⟨l,hl,hp⟩:=jQ1.1 hp;obtain⟨rr,Ay,hp⟩:=jQ1.1 hp;have Ay:rangeM (miF w k g) 0 l=some rr:=Ay;obtain⟨a,c,rfl,hs⟩:=hv.bR;obtain⟨wa,wq,rfl⟩:=hx.rd.form;have HA:=Z (an W (bx t a c));obtain⟨HX,HV,HS⟩:=Z3 (hx.mv HA.1) (hv.mv hx.lo HA.1) (hs.mv hx.lo HA.1);obtain⟨a2,c2,pT,su⟩:=RS.from HS.1 hl;obtain⟨HL,Hq,HP,qM⟩:=Z4 su Ay hp (ak W (bx t a c));have iT:W.heap.size<(W.alloc (bx t a c)).heap.size:=i6
 have Wj:l.length<=9223372036854775807:=M171
 clear hp hx hv hs hl Ay su;go_enter func91,ntmps91;go_wp2_with fail;generalize Hr:W.alloc (bx t a c)=wn at HA HX HV HS HL qM iT
 try rw[Hr]
 go_loopg [8,15] l.length (λgg _ s15 wr=>∃kk:Nat,kk<=l.length/\l.length - kk<=gg/\s15=.int .i64 kk/\Aside (Below wn.heap.size wn wr)/\Aside (rangeM (miF w k g) kk (l.drop kk)=some rr))
 case atStart=>exact⟨0,jQc _,m9,rfl,jQ5 _ _,by rw[jR0];exact Hq.1⟩
 case round=>
  obtain⟨kk,ez,hg,rfl,BW,A⟩:=hrel;by_cases aM:kk<l.length
  ·have aR:(kk:Int)<(l.length:Int):=m9
   obtain⟨e,he⟩:∃e,l[kk]?=some e:=⟨l[kk],by simp[aM]⟩;have ie:=kW (drop_at he) A.out;rcases aN.1 HL.1 with⟨zh,_⟩|⟨_,b2,o2,xv,dN,fh,fL,du,gX⟩
   ·rw[zh]at aM;simp at aM
   simp at dN;obtain⟨rfl,rfl⟩:=dN;have hE:=(gX.at he).move (HX.1.lo.aJ BW.out) du;obtain⟨sa,sc,f0,f1,f2,f3,f4,f5,f6,iL⟩:=hE.bR;have dZ:=BW.out.size;have B1:=Z (an wr (bx e sa sc));have pA:=Z ((HX.1.mv BW.out).mv B1.1);have Q9:∃b,df w k e g=some b/\((b=false/\r=false)\/(b=true/\rangeM (miF w k g) (kk+1) (l.drop (kk+1))=some rr)):=by
    rcases ie with⟨b,h1,h2⟩|⟨h1,h2⟩
    ·obtain⟨b',dD,h3⟩:=jQ6.1 h1;cases b' with
     |true=>simp at h3
     |false=>
      have X7:b=false:=by simpa using h3.symm
      subst X7 h2;have:some false=some r:=HP.1;exact⟨false,dD,.inl ⟨rfl,by simpa using this.symm⟩⟩
    ·obtain⟨b',dD,h3⟩:=jQ6.1 h1;cases b' with
     |true=>exact⟨true,dD,.inr ⟨rfl,h2⟩⟩
     |false=>simp at h3
   obtain⟨b,hb,lE⟩:=Q9;have ag:=ihE w _ e g b _ _ D hb pA.1 (iL.mv (HX.1.mv BW.out).lo B1.1);clear hE gX iL he ie A hb;rcases lE with⟨rfl,rfl⟩|⟨rfl,jM⟩
   ·go_wp2_with fail;refine ag.mono ?_;rintro e' w1 ⟨rfl,ar⟩;have HB:=Z (HA.1.trans ((BW.out.trans ((B1.1.trans (ar.mono B1.1.size)).mono dZ)).mono HA.1.size));clear ar ag;exact M33
   ·have nb:=Z jM;clear jM;go_wp2_with fail;refine ag.mono ?_;rintro e' w1 ⟨rfl,ar⟩;have HB:=Z (BW.out.trans ((B1.1.trans (ar.mono B1.1.size)).mono dZ));clear ar ag;go_wp2_with fail;go_roundg (l.length - (kk+1))
    case measure=>omega
    case rel=>exact⟨kk+1,m9,m9,by go_num,HB.1,nb.1⟩
  ·have aR:¬(kk:Int)<(l.length:Int):=m9
   have hA:=A.out;rw[jQf m9,rangeM]at hA;have SB:rr=none:=by simpa using hA.symm
   subst SB;have hp:(mq t.m t.elems).bind (λms=>fy (fy (allMeant w k ms) (agree k w t)) ((S.written w k t).map λn=>decide (n<=50)))=some r:=HP.1;obtain⟨ms,jK,hp⟩:=jQ1.1 hp;obtain⟨zC,EM⟩:=RS.upto (HS.1.mv HX.1.lo BW.out) jK;have dZ:=BW.out.size;have ab6:=aj BW.out qM.1 iT;have Ma:W.heap.size<wr.heap.size:=m9
   have HBr:=Z ab6;obtain⟨c0,c1,xv,c3,c4,c5,c6⟩:=ao ab6;obtain⟨pA,HVr,ej⟩:=Z3 (HX.1.mv BW.out) (HV.1.mv HX.1.lo BW.out) (HA.1.trans (BW.out.mono HA.1.size));clear ab6 hA A jK;rcases cY hp with⟨h1,rfl⟩|⟨h1,h2⟩
   ·rcases cY h1 with⟨h3,_⟩|⟨h3,h4⟩
    ·have ag:=Gf w _ ms false _ wr D h3 pA.1 EM;clear hp h1 h3 EM;go_wp2_with fail;refine ag.mono ?_;rintro e' w1 ⟨rfl,ar⟩;have HB:=Z (ej.1.trans (ar.mono ej.1.size));clear ar ag;exact M33
    ·have ag:=Gf w _ ms true _ wr D h3 pA.1 EM;have H4:=Z h4;clear hp h1 h3 h4 EM;go_wp2_with fail;refine ag.mono ?_;rintro e' w1 ⟨rfl,ar⟩;have bS:=Z ar;clear c0 c1 xv c3 c4 c5 c6;obtain⟨c0,c1,xv,c3,c4,c5,c6⟩:=ao (aj ar HBr.1 Ma);clear ar;have ag:=yv k w _ t false _ w1 D H4.1 (pA.1.mv bS.1) (HVr.1.mv pA.1.lo bS.1);go_wp2_with fail;refine ag.mono ?_;rintro e' w2 ⟨rfl,cX⟩;have HB:=Z (ej.1.trans ((bS.1.trans (cX.mono bS.1.size)).mono ej.1.size));clear cX ag;exact M33
   ·rcases cY h1 with⟨_,h3⟩|⟨h3,h4⟩
    ·cases h3
    ·obtain⟨n,hn,hr⟩:=jQ6.1 h2;have ag:=Gf w _ ms true _ wr D h3 pA.1 EM;obtain⟨H4,H5,HR⟩:=Z3 h4 hn hr;clear hp h1 h3 h4 h2 hn hr EM;go_wp2_with fail;refine ag.mono ?_;rintro e' w1 ⟨rfl,ar⟩;have bS:=Z ar;clear c0 c1 xv c3 c4 c5 c6;obtain⟨c0,c1,xv,c3,c4,c5,c6⟩:=ao (aj ar HBr.1 Ma);clear ar;have ag:=yv k w _ t true _ w1 D H4.1 (pA.1.mv bS.1) (HVr.1.mv pA.1.lo bS.1);go_wp2_with fail;refine ag.mono ?_;rintro e' w2 ⟨rfl,cX⟩;have ar:=bS.1.trans (cX.mono bS.1.size);clear cX;have HB1':=bS;clear bS;have bS:=Z ar;clear c0 c1 xv c3 c4 c5 c6;obtain⟨c0,c1,xv,c3,c4,c5,c6⟩:=ao (aj ar HBr.1 Ma);clear ar;have ag:=ihW w _ t n _ w2 D H5.1 (pA.1.mv bS.1) (HVr.1.mv pA.1.lo bS.1);go_wp2_with fail;refine ag.mono ?_;rintro e' w3 ⟨rfl,aZ⟩;have HB:=Z (ej.1.trans ((bS.1.trans (aZ.mono bS.1.size)).mono ej.1.size));clear aZ ag;go_wp2_with fail;go_ret;exact⟨by rw[<-HR.1];simp,HB.1⟩
theorem eeC(k:Nat)(w:List ah)(ws:Value)(x y:GT)(r:Bool)(v:Value)(W:World)(D:Nat->Prop)(Bw Bx:Nat)(hp:bh (iR k w x y)=some r)(hx:Cx D w ws W)(hv:RT D W y v)(hs:RS D W x.elems (.slice ax x.elems.length cx))(hB:W.cell? ⟨Bw,0,none⟩=some ws)(hX:W.heap[Bx]?=some (bx x ax cx)):
 Calls prog 173 #[v,.pointer (some ⟨Bw,0,none⟩),.pointer (some ⟨Bx,0,none⟩)] W (ef W r):=by
 have lR:=jQs hB;have Rj:=jQ2 hX;simp only at lR;obtain⟨b,hb,rfl⟩:=jQ6.1 hp;obtain⟨c0,c1,c2,c3,c4,c5,c6⟩:=ao hX;obtain⟨a,c,rfl,rV⟩:=hv.bR;obtain⟨wa,wq,rfl⟩:=hx.rd.form;have HA:=Z (an W (bx y a c));have ag:=MG k w _ x y b _ _ _ D hb (hx.mv HA.1) ((RT.mk' hs).mv hx.lo HA.1) (hv.mv hx.lo HA.1);clear hp hx hv hs rV hb hX;go_enter func173,ntmps173;exact M6
theorem acX(k:Nat)(ihT:Ge k)(w:List ah)(ws:Value)(t:GT)(g:Bool)(r:Bool)(v:Value)(W:World)(D:Nat->Prop)(hp:df w (k+1) t g=some r)(cQ:t.kind≠12)(hx:Cx D w ws W)(hv:RT D W t v):
 Calls prog 127 #[ws,v,.bool g] W (ef W r):=by
 rw[df,jQ7 cQ]at hp;have tT:(t.kind !=12)=true:=by simp[cQ]
 obtain⟨a,c,rfl,hs⟩:=hv.bR;obtain⟨wa,wq,rfl⟩:=hx.rd.form;have HA:=Z (dT W (.cells #[.slice wa w.length wq] 22) (bx t a c));obtain⟨HX,HV,HD,qM⟩:=Z4 (hx.mv HA.1) (hv.mv hx.lo HA.1) (jQh (aq (o:=bx t a c) (ak W (.cells #[.slice wa w.length wq] 22)))) (show((W.alloc (.cells #[.slice wa w.length wq] 22)).alloc (bx t a c)).heap[W.heap.size+1]?=some (bx t a c)by have:=ak (W.alloc (.cells #[.slice wa w.length wq] 22)) (bx t a c);simpa using this);have zI:W.heap.size<((W.alloc (.cells #[.slice wa w.length wq] 22)).alloc (bx t a c)).heap.size:=by simp;omega
 have iT:W.heap.size+1<((W.alloc (.cells #[.slice wa w.length wq] 22)).alloc (bx t a c)).heap.size:=i6
 obtain⟨c0,c1,c2,c3,c4,c5,c6⟩:=ao qM.1;have d0:=HD.1;have HP:=Z hp;clear hp hx hv hs cQ;rcases cY HP.1 with⟨h1,rfl⟩|⟨h1,h2⟩
 ·have ag:=ihT w _ t false _ _ D h1 HX.1 HV.1;clear h1 c0 c1 c2 c3 c4 c5 c6 d0;go_enter func127,ntmps127;exact M6
 ·have ag:=ihT w _ t true _ _ D h1 HX.1 HV.1;have H2:=Z h2;clear h1 h2;cases g with
  |true=>
   have h:true=r:=by simpa[po]using H2.1
   subst h;clear c0 c1 c2 c3 c4 c5 c6 d0;go_enter func127,ntmps127;exact M6
  |false=>
   have h2:fy (bU w t) (bh (general w k t))=some r:=by simpa[po]using H2.1
   rcases cY h2 with⟨h3,rfl⟩|⟨h3,h4⟩
   ·have H3:=Z h3;clear h2 h3;go_enter func127,ntmps127;go_wp2_with fail;refine ag.mono ?_;rintro e w1 ⟨rfl,ar⟩;have bS:=Z ar;clear c0 c1 c2 c3 c4 c5 c6 d0;obtain⟨c0,c1,c2,c3,c4,c5,c6⟩:=ao (aj ar qM.1 iT);have d0:=(ar.cell (p:=⟨W.heap.size,0,none⟩) zI).trans HD.1;clear ar;have ag:=gl w _ t false _ w1 D H3.1 (HX.1.mv bS.1) (HV.1.mv HX.1.lo bS.1);exact M118
   ·have H3:=Z h3;have H4:=Z (aX h4);clear h2 h3 h4;go_enter func127,ntmps127;go_wp2_with fail;refine ag.mono ?_;rintro e w1 ⟨rfl,ar⟩;have bS:=Z ar;clear c0 c1 c2 c3 c4 c5 c6 d0;obtain⟨c0,c1,c2,c3,c4,c5,c6⟩:=ao (aj ar qM.1 iT);have d0:=(ar.cell (p:=⟨W.heap.size,0,none⟩) zI).trans HD.1;clear ar;have ag:=gl w _ t true _ w1 D H3.1 (HX.1.mv bS.1) (HV.1.mv HX.1.lo bS.1);go_wp2_with fail;refine ag.mono ?_;rintro e w2 ⟨rfl,cX⟩;have ar:=bS.1.trans (cX.mono bS.1.size);clear cX bS;have bS:=Z ar;clear c0 c1 c2 c3 c4 c5 c6 d0;obtain⟨c0,c1,c2,c3,c4,c5,c6⟩:=ao (aj ar qM.1 iT);have d0:=(ar.cell (p:=⟨W.heap.size,0,none⟩) zI).trans HD.1;clear ar;have ag:=gM k w _ t (!r) _ w2 D H4.1 (HX.1.mv bS.1).lo (HX.1.mv bS.1).rd (HV.1.mv HX.1.lo bS.1);exact M118
def VM(D:Nat->Prop)(W:World)(m:aH)(v:Value):Prop:=
 ∃a c,v=.agg #[.string m.name,.bool m.ptr,.int .i64 m.sig.kind,.int .i64 m.sig.n,.int .i64 m.sig.m,.bool m.sig.va,.string m.sig.name,.string m.sig.tag,.slice a m.sig.elems.length c]/\RS D W m.sig.elems (.slice a m.sig.elems.length c)
def aah(D:Nat->Prop)(W:World)(g:Nat)(lb:Array Value)(zs:List aH)(p:aH->Option Bool):Prop:=
 ∀(W1:World) (t:aH) (v:Value) (bb:Bool),Below W.heap.size W W1->t∈zs->VM D W1 t v->p t=some bb->
  Calls prog g (#[v]++lb) W1 λe W2=>e=.returned (.bool bb)/\Below W1.heap.size W1 W2
theorem L0(zs:List aH)(sl:Value)(W:World)(D:Nat->Prop)(hs:RM D W zs sl)(hD:Lo D W.heap.size)(g:Nat)(lb:Array Value)(eg:∀args w,(callFunc g args).run prog w=.ok (.enter g args) w)(p:aH->Option Bool)(hp:aah D W g lb zs p)(r:Bool)(hr:anyM p zs=some r):
 Calls prog 89 #[sl,.func (.func g) #[] lb] W (abF W r):=by
 rcases hs with⟨rfl,a,c,rfl,ha⟩|⟨bk,b,o,c,rfl,Jd,hc,kN,hC⟩
 ·have Nn:r=false:=by simpa[anyM]using hr.symm
  subst Nn;go_enter func89,ntmps89
  go_wp2
  go_loopg [5,8] 0 (λgg s5 s8 wr=>s8=.int .i64 0/\wr=W)
  case atStart=>exact⟨rfl,rfl⟩
  case round=>
   obtain⟨rfl,rfl⟩:=hrel
   go_wp2
   go_ret;exact⟨-1,rfl,i6,jQ5 _ _⟩
 ·have hz:zs.length<=9223372036854775807:=m9
  have hbW:=hD b kN;go_enter func89,ntmps89
  go_wp2
  go_loopg [5,8] zs.length (λgg _ s8 wr=>∃kk:Nat,kk<=zs.length/\zs.length - kk<=gg/\s8=.int .i64 kk/\Aside (Below W.heap.size W wr)/\Aside (anyM p (zs.drop kk)=some r))
  case atStart=>exact⟨0,jQc _,m9,rfl,jQ5 _ W,by simpa[Aside]using hr⟩
  case round=>
   obtain⟨kk,ez,hg,rfl,BW,A⟩:=hrel;by_cases aM:kk<zs.length
   ·have aR:(kk:Int)<(zs.length:Int):=m9
    obtain⟨t,ht⟩:∃t,zs[kk]?=some t:=⟨zs[kk],by simp[aM]⟩;obtain⟨n0,n1,hE⟩:=(RMC.move (hD.aJ BW.out) kN hC).at ht;obtain⟨a1,q1,c0,c1,c2,c3,c4,c5,c6,hv⟩:=hE.bR;obtain⟨a1',q1',e',VS⟩:=hv.bR;simp at e';obtain⟨rfl,rfl⟩:=e';have bL:zs.drop kk=t::zs.drop (kk+1):=M189
    have hA:=A.out;rw[bL,anyM]at hA;obtain⟨bb,mO,hA2⟩:=jQ1.1 hA;have ag:=hp wr t _ bb BW.out (jQ8 ht) ⟨a1,q1,rfl,VS⟩ mO;clear hE hA hp hr hv ht VS hC;exact M23
   ·have aR:¬(kk:Int)<(zs.length:Int):=m9
    have Jn:r=false:=M151
    subst Jn
    go_wp2
    go_ret;exact⟨-1,rfl,i6,BW.out⟩
theorem yG(zs:List aH)(sl:Value)(W:World)(D:Nat->Prop)(hs:RM D W zs sl)(hD:Lo D W.heap.size)(g:Nat)(lb:Array Value)(eg:∀args w,(callFunc g args).run prog w=.ok (.enter g args) w)(p:aH->Option Bool)(hp:aah D W g lb zs p)(r:Bool)(hr:anyM p zs=some r):
 Calls prog 37 #[sl,.func (.func g) #[] lb] W λe W'=>e=.returned (.bool r)/\Below W.heap.size W W':=by
 go_enter func37,ntmps37;go_wp2_with (go_at_call 89;refine(L0 zs sl W D hs hD g lb eg p hp r hr).mono ?_;rintro e w' ⟨q,rfl,hq,hb⟩);go_ret;exact⟨by simp[<-hq],hb⟩
def euB(w:List ah)(k:Nat)(t:GT)(i:Nat)(x:GT):Option Bool:=
 po (po (bh (dY w k x)) (fy (bU w x) (po ((required w k x).map λr=>decide (r.length>0)) (gD w k x)))) (anyM (λy=>bh (iR k w x y)) (t.elems.take i))
def euF(w:List ah)(k:Nat)(t:GT)(i:Nat)(x:GT):Option (Option Bool):=(euB w k t i x).map λb=>if b then some false else none
theorem Vn{w:List ah}{b:Bool}(h:euB w k t i x=some b):
 (dY w k x=some false/\b=true)\/
 (dY w k x=some true/\bU w x=some false/\anyM (λy=>bh (iR k w x y)) (t.elems.take i)=some b)\/
 (dY w k x=some true/\bU w x=some true/\∃l,required w k x=some l/\((0<l.length/\b=true)\/(l.length=0/\gD w k x=some true/\b=true)\/
  (l.length=0/\gD w k x=some false/\anyM (λy=>bh (iR k w x y)) (t.elems.take i)=some b))):=by
 unfold euB at h;rcases gN h with⟨h1,rfl⟩|⟨h1,h2⟩
 ·rcases gN h1 with⟨h3,_⟩|⟨h3,h4⟩
  ·exact .inl ⟨aX h3,rfl⟩
  ·rcases cY h4 with⟨h5,h6⟩|⟨h5,h6⟩
   ·cases h6
   ·refine .inr (.inr ⟨aX h3,h5,?_⟩);rcases gN h6 with⟨h7,_⟩|⟨h7,h8⟩
    ·obtain⟨l,hl,hd⟩:=jQ6.1 h7;exact⟨l,hl,.inl ⟨by simpa using hd,rfl⟩⟩
    ·obtain⟨l,hl,hd⟩:=jQ6.1 h7;exact⟨l,hl,.inr (.inl ⟨by simpa using hd,h8,rfl⟩)⟩
 ·rcases gN h1 with⟨_,h3⟩|⟨h3,h4⟩
  ·cases h3
  ·rcases cY h4 with⟨h5,_⟩|⟨h5,h6⟩
   ·exact .inr (.inl ⟨aX h3,h5,h2⟩)
   ·refine .inr (.inr ⟨aX h3,h5,?_⟩);rcases gN h6 with⟨_,h7⟩|⟨h7,h8⟩
    ·cases h7
    ·obtain⟨l,hl,hd⟩:=jQ6.1 h7;exact⟨l,hl,.inr (.inr ⟨by simpa using hd,h8,h2⟩)⟩
theorem RT.X0{D:Nat->Prop}{W:World}(h:RT D W t (.agg #[.int .i64 t.kind,.int .i64 t.n,.int .i64 t.m,.bool t.va,.string t.name,.string t.tag,.slice a n c])):RS D W t.elems (.slice a n c):=by
 obtain⟨a',c',e,hs⟩:=h.bR;simp at e;obtain⟨rfl,rfl,rfl⟩:=e;exact hs
theorem afY(k:Nat)(ihT:Ge k)(w:List ah)(ws:Value)(t:GT)(g:Bool)(r:Bool)(v:Value)(W:World)(D:Nat->Prop)(hp:df w (k+1) t g=some r)(cQ:t.kind=12)(hx:Cx D w ws W)(hv:RT D W t v):
 Calls prog 127 #[ws,v,.bool g] W (ef W r):=by
 rw[df,jQ4 (by simpa using cQ)]at hp;obtain⟨rr,Ay,hp⟩:=jQ6.1 hp;have Ay:rangeM (euF w k t) 0 t.elems=some rr:=Ay;have tT:(t.kind !=12)=false:=by simp[cQ]
 obtain⟨a,c,rfl,hs⟩:=hv.bR;obtain⟨wa,wq,rfl⟩:=hx.rd.form;have HA:=Z (dT W (.cells #[.slice wa w.length wq] 22) (bx t a c));obtain⟨HX,HS,Hq,HP,HD0,qM⟩:=Z6 (hx.mv HA.1) (hs.mv hx.lo HA.1) Ay hp (jQh (aq (o:=bx t a c) (ak W (.cells #[.slice wa w.length wq] 22)))) (show((W.alloc (.cells #[.slice wa w.length wq] 22)).alloc (bx t a c)).heap[W.heap.size+1]?=some (bx t a c)by have:=ak (W.alloc (.cells #[.slice wa w.length wq] 22)) (bx t a c);simpa using this);have zI:W.heap.size<((W.alloc (.cells #[.slice wa w.length wq] 22)).alloc (bx t a c)).heap.size:=by simp;omega
 have iT:W.heap.size+1<((W.alloc (.cells #[.slice wa w.length wq] 22)).alloc (bx t a c)).heap.size:=i6
 obtain⟨c0,c1,c2,c3,c4,c5,c6⟩:=ao qM.1;have HC0:=Z c6;have Wj:t.elems.length<=9223372036854775807:=by
  rcases aN.1 hs with⟨he,_⟩|⟨_,b2,o2,xv,dN,fh,fL,du,gX⟩
  ·rw[he];simp
  ·simp at dN;omega
 clear hp hx hv hs Ay cQ;go_enter func127,ntmps127;go_wp2_with fail;clear c0 c1 c2 c3 c4 c5 c6;generalize Hr:(W.alloc (.cells #[.slice wa w.length wq] 22)).alloc (bx t a c)=wn at HA HX HS HD0 qM HC0 zI iT
 try rw[Hr]
 go_loopg [7,8,32] t.elems.length (λgg _ _ s32 wr=>∃kk:Nat,kk<=t.elems.length/\t.elems.length - kk<=gg/\s32=.int .i64 kk/\Aside (Below wn.heap.size wn wr)/\Aside (rangeM (euF w k t) kk (t.elems.drop kk)=some rr))
 case atStart=>exact⟨0,jQc _,m9,rfl,jQ5 _ _,by rw[jR0];exact Hq.1⟩
 case round=>
  obtain⟨kk,ez,hg,rfl,BW,A⟩:=hrel;by_cases aM:kk<t.elems.length
  ·have aR:(kk:Int)<(t.elems.length:Int):=m9
   obtain⟨x,LL⟩:∃e,t.elems[kk]?=some e:=⟨t.elems[kk],by simp[aM]⟩;have ie:=kW (drop_at LL) A.out;rcases aN.1 HS.1 with⟨zh,_⟩|⟨_,b2,o2,xv,dN,ag8,fL,du,gX⟩
   ·rw[zh]at aM;simp at aM
   simp at dN;obtain⟨rfl,rfl⟩:=dN;have hE:=(gX.at LL).move (HX.1.lo.aJ BW.out) du;obtain⟨sa,sc,f0,f1,f2,f3,f4,f5,f6,iL⟩:=hE.bR;have mO:∃bb,euB w k t kk x=some bb/\((bb=true/\rr=some false)\/(bb=false/\rangeM (euF w k t) (kk+1) (t.elems.drop (kk+1))=some rr)):=by
    rcases ie with⟨b',h1,h2⟩|⟨h1,h2⟩
    ·obtain⟨b,hb,h3⟩:=jQ6.1 h1;cases b with
     |true=>exact⟨true,hb,.inl ⟨rfl,by rw[h2];simpa using h3.symm⟩⟩
     |false=>simp at h3
    ·obtain⟨b,hb,h3⟩:=jQ6.1 h1;cases b with
     |false=>exact⟨false,hb,.inr ⟨rfl,h2⟩⟩
     |true=>simp at h3
   obtain⟨bb,mO,lE⟩:=mO;have dZ:=BW.out.size;have B1:=Z (an wr (bx x sa sc));have pA:=Z (HX.1.mv BW.out);have oT:=Z (pA.1.mv B1.1);have Vo:=Z ((iL.mv pA.1.lo B1.1:RT D _ x _));have d0:=(B1.1.cell (p:=⟨W.heap.size,0,none⟩) (by simp only;omega)).trans ((BW.out.cell (p:=⟨W.heap.size,0,none⟩) zI).trans HD0.1);have c6:=(B1.1.cell (p:=⟨W.heap.size+1,6,none⟩) (by simp only;omega)).trans ((BW.out.cell (p:=⟨W.heap.size+1,6,none⟩) iT).trans HC0.1);have yX:=Z (ak wr (bx x sa sc));have fV:W.heap.size<(wr.alloc (bx x sa sc)).heap.size:=by simp;omega
   have dQ:W.heap.size+1<(wr.alloc (bx x sa sc)).heap.size:=by simp;omega
   have fh:wr.heap.size<(wr.alloc (bx x sa sc)).heap.size:=i6
   obtain⟨e0,e1,e2,e3,e4,e5,e6⟩:=ao yX.1;obtain⟨HD,HC6,HSx,ej⟩:=Z4 d0 c6 (HS.1.mv HX.1.lo (BW.out.trans (B1.1.mono dZ))) (BW.out.trans (B1.1.mono dZ));generalize oW:wr.alloc (bx x sa sc)=w2 at B1 oT Vo d0 c6 yX fV dQ fh e0 e1 e2 e3 e4 e5 e6 HD HC6 HSx ej;clear hE gX iL LL ie A du;have eQ:=Z (jQ5 w2.heap.size w2);rcases Vn mO with⟨hm,rfl⟩|⟨hm,zl,Cw⟩|⟨hm,zl,l,hl,D7⟩
   ·have GX:rr=some false:=by rcases lE with⟨_,h⟩|⟨h,_⟩;exact h;cases h
    subst GX;have Jn:r=false:=by simpa using HP.1.symm
    subst Jn;have ag:=ihT w _ x false _ w2 D hm oT.1 Vo.1;clear lE mO hm;go_wp2_with fail
    try rw[oW]
    refine ag.mono ?_;rintro e' w3 ⟨rfl,ar⟩;exact M40
   ·have ag:=ihT w _ x true _ w2 D hm oT.1 Vo.1;have HEM:=Z zl;have OR:=Z Cw;clear mO hm zl Cw;go_wp2_with fail
    try rw[oW]
    refine ag.mono ?_;rintro e' w3 ⟨rfl,ar⟩;have bS:=Z (eQ.1.trans (ar.mono eQ.1.size));clear ar ag eQ;clear d0 c6 e0 e1 e2 e3 e4 e5 e6;have d0:=(bS.1.cell (p:=⟨W.heap.size,0,none⟩) fV).trans HD.1;have c6:=(bS.1.cell (p:=⟨W.heap.size+1,6,none⟩) dQ).trans HC6.1;obtain⟨e0,e1,e2,e3,e4,e5,e6⟩:=ao (aj bS.1 yX.1 fh);have eQ:=bS;clear bS;have ag:=gl w _ x false _ w3 D HEM.1 (oT.1.mv eQ.1) (Vo.1.mv oT.1.lo eQ.1);exact M12
   ·have ag:=ihT w _ x true _ w2 D hm oT.1 Vo.1;obtain⟨HEM,HL,WX⟩:=Z3 zl hl D7;clear mO hm zl hl D7;go_wp2_with fail
    try rw[oW]
    refine ag.mono ?_;rintro e' w3 ⟨rfl,ar⟩;have bS:=Z (eQ.1.trans (ar.mono eQ.1.size));clear ar ag eQ;clear d0 c6 e0 e1 e2 e3 e4 e5 e6;have d0:=(bS.1.cell (p:=⟨W.heap.size,0,none⟩) fV).trans HD.1;have c6:=(bS.1.cell (p:=⟨W.heap.size+1,6,none⟩) dQ).trans HC6.1;obtain⟨e0,e1,e2,e3,e4,e5,e6⟩:=ao (aj bS.1 yX.1 fh);have eQ:=bS;clear bS;have ag:=gl w _ x true _ w3 D HEM.1 (oT.1.mv eQ.1) (Vo.1.mv oT.1.lo eQ.1);go_wp2_with fail;refine ag.mono ?_;rintro e' w3 ⟨rfl,ar⟩;have bS:=Z (eQ.1.trans (ar.mono eQ.1.size));clear ar ag eQ;clear d0 c6 e0 e1 e2 e3 e4 e5 e6;have d0:=(bS.1.cell (p:=⟨W.heap.size,0,none⟩) fV).trans HD.1;have c6:=(bS.1.cell (p:=⟨W.heap.size+1,6,none⟩) dQ).trans HC6.1;obtain⟨e0,e1,e2,e3,e4,e5,e6⟩:=ao (aj bS.1 yX.1 fh);have eQ:=bS;clear bS;have ag:=ga k w _ x l _ w3 D HL.1 (oT.1.mv eQ.1) (Vo.1.mv oT.1.lo eQ.1);go_wp2_with fail;refine ag.mono ?_;rintro e' w3 IG;obtain⟨v1,rfl,Ef,ar⟩:=IG.Pf;obtain⟨aB,cB,rfl⟩:=Ef.form;clear IG Ef;rcases WX.1 with⟨h0,rfl⟩|⟨h0,cH,rfl⟩|⟨h0,cH,Cw⟩
    ·have GX:rr=some false:=by rcases lE with⟨_,h⟩|⟨h,_⟩;exact h;cases h
     subst GX;have Jn:r=false:=by simpa using HP.1.symm
     subst Jn;have h0z:((0:Int)<(l.length:Int))=True:=by simp;omega
     have h0l:¬l.length=0:=m9
     have LH:l≠[]:=λe=>by rw[e]at h0l;simp at h0l
     clear lE;exact M40
    ·have GX:rr=some false:=by rcases lE with⟨_,h⟩|⟨h,_⟩;exact h;cases h
     subst GX;have Jn:r=false:=by simpa using HP.1.symm
     subst Jn;simp only[h0];clear lE h0;have eF:=Z cH;clear cH;have bS:=Z (eQ.1.trans (ar.mono eQ.1.size));clear ar ag eQ;clear d0 c6 e0 e1 e2 e3 e4 e5 e6;have d0:=(bS.1.cell (p:=⟨W.heap.size,0,none⟩) fV).trans HD.1;have c6:=(bS.1.cell (p:=⟨W.heap.size+1,6,none⟩) dQ).trans HC6.1;obtain⟨e0,e1,e2,e3,e4,e5,e6⟩:=ao (aj bS.1 yX.1 fh);have eQ:=bS;clear bS;have ag:=uV k w _ x true _ w3 D eF.1 (oT.1.mv eQ.1) (Vo.1.mv oT.1.lo eQ.1);exact M217
    ·simp only[h0];clear h0;have eF:=Z cH;have OR:=Z Cw;clear cH Cw;have bS:=Z (eQ.1.trans (ar.mono eQ.1.size));clear ar ag eQ;clear d0 c6 e0 e1 e2 e3 e4 e5 e6;have d0:=(bS.1.cell (p:=⟨W.heap.size,0,none⟩) fV).trans HD.1;have c6:=(bS.1.cell (p:=⟨W.heap.size+1,6,none⟩) dQ).trans HC6.1;obtain⟨e0,e1,e2,e3,e4,e5,e6⟩:=ao (aj bS.1 yX.1 fh);have eQ:=bS;clear bS;have ag:=uV k w _ x false _ w3 D eF.1 (oT.1.mv eQ.1) (Vo.1.mv oT.1.lo eQ.1);exact M12
  ·have aR:¬(kk:Int)<(t.elems.length:Int):=m9
   have hA:=A.out;rw[jQf m9,rangeM]at hA;have SB:rr=none:=by simpa using hA.symm
   subst SB;have lX:g=r:=by simpa using HP.1
   subst lX;have ej:=Z (HA.1.trans (BW.out.mono HA.1.size));clear hA A;exact M64
end Go.Proofs.YtabjfnkfocnklaaGreatDoor
