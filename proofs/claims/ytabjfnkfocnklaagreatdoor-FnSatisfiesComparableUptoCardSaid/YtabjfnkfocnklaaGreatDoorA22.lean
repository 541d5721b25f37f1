import Derived.Test.YtabjfnkfocnklaaGreatDoorA21
set_option linter.all false
set_option maxHeartbeats 16000000
set_option maxRecDepth 20000
namespace Go.Proofs.YtabjfnkfocnklaaGreatDoor
open Go Go.RowKit Go.Lib S Tryz
variable{Y:Prop}
theorem M0(h:Y:=by
 go_wp2_with fail
 go_loopg [100] x.elems.length (λgg s100 wr=>∃kk:Nat,kk<=x.elems.length/\x.elems.length - kk<=gg/\s100=.int .i64 kk/\Aside (Below wx.heap.size wx wr)/\Aside (rangeM (λi e=>(y.elems[i]?).bind λe'=>(ident k w e e').map λb=>if b then none else some false) kk (x.elems.drop kk)=some res))
 case atStart=>exact⟨0,jQc _,m9,rfl,jQ5 _ _,by show rangeM _ 0 (x.elems.drop 0)=some res;rw[jR0];exact HR.1⟩
 case round=>
  obtain⟨kk,ez,hg,rfl,BW,eD⟩:=hrel;by_cases aM:kk<x.elems.length
  ·have aR:(kk:Int)<(x.elems.length:Int):=m9
   have iY:kk<y.elems.length:=m9
   have yy:(kk:Int)<(y.elems.length:Int):=m9
   obtain⟨e,hm⟩:∃e,x.elems[kk]?=some e:=⟨x.elems[kk],by simp[aM]⟩;have bL:x.elems.drop kk=e::x.elems.drop (kk+1):=M101
   have eD:=eD.out;rw[bL]at eD;obtain⟨e',b,oJ,mV,jM⟩:∃e' b,y.elems[kk]?=some e'/\ident k w e e'=some b/\((b=false/\res=some false)\/(b=true/\rangeM (λi e=>(y.elems[i]?).bind λe'=>(ident k w e e').map λb=>if b then none else some false) (kk+1) (x.elems.drop (kk+1))=some res)):=by
    rcases gm eD with⟨b,h1,h2⟩|⟨h1,h2⟩
    ·obtain⟨e',h3,h4⟩:=jQ1.1 h1;obtain⟨b2,h5,h6⟩:=jQ6.1 h4;cases b2 with
     |true=>simp at h6
     |false=>simp at h6;subst h6;exact⟨e',false,h3,h5,.inl ⟨rfl,h2⟩⟩
    ·obtain⟨e',h3,h4⟩:=jQ1.1 h1;obtain⟨b2,h5,h6⟩:=jQ6.1 h4;cases b2 with
     |false=>simp at h6
     |true=>exact⟨e',true,h3,h5,.inr ⟨rfl,h2⟩⟩
   rcases aN.1 CQ.1 with⟨he,_⟩|⟨_,b2,o2,c2,dN,fh,fL,du,gX⟩
   ·exact M102
   simp at dN;obtain⟨rfl,rfl⟩:=dN;rcases aN.1 xo.1 with⟨Eo,_⟩|⟨IZ,bI,oy,Z3,kZ,xm,Z4,lM,yz⟩
   ·rw[Eo]at iY;simp at iY
   simp at kZ;obtain⟨rfl,rfl⟩:=kZ;have dZ:=BW.out.size;obtain⟨ea,ec,g0,g1,g2,g3,g4,g5,g6,r5⟩:=((gX.at hm).move (jf.1.aJ BW.out) du).bR;obtain⟨AR,AS,f0,f1,f2,f3,f4,f5,f6,js⟩:=((yz.at oJ).move (jf.1.aJ (BW.out.alloc dZ (bx e ea ec))) lM).bR;have dt:W.heap.size+1<wr.heap.size:=jQb dQ dZ;have oW:b2<wr.heap.size:=jQb (jf.1 _ du) dZ;obtain⟨p0,p1,p2,p3,p4,p5,p6⟩:=ao (ak wr (bx e ea ec));obtain⟨d0,d1,d2,d3,d4,d5,d6⟩:=ao (aq (o:=bx e ea ec) (aj BW.out IY.1 dQ));generalize r6:wr.alloc (bx e ea ec)=wA at p0 p1 p2 p3 p4 p5 p6 d0 d1 d2 d3 d4 d5 d6 f0 f1 f2 f3 f4 f5 f6 js;have zH:wA.heap.size=wr.heap.size+1:=by subst r6;simp
   have kF:wr.heap.size<wA.heap.size:=m9
   have Pp:W.heap.size+1<wA.heap.size:=m9
   have kG:bI<wA.heap.size:=by have:=jf.1 bI lM;omega
   have eP:Below wx.heap.size wx wA:=by subst r6;exact BW.out.alloc dZ _
   have oK:RT (Up D (W.heap.size+1+1) wx.heap.size) wA e (.agg #[.int .i64 e.kind,.int .i64 e.n,.int .i64 e.m,.bool e.va,.string e.name,.string e.tag,.slice ea e.elems.length ec]):=by subst r6;exact r5.mv (jf.1.mono dZ) (an wr _)
   have hS:=Z (show∀w',Below wA.heap.size wA w'->(λw'=>Below wA.heap.size wA w'/\w'.cell? ⟨wr.heap.size,0,none⟩=some (.int .i64 e.kind)/\w'.cell? ⟨wr.heap.size,1,none⟩=some (.int .i64 e.n)/\w'.cell? ⟨wr.heap.size,2,none⟩=some (.int .i64 e.m)/\w'.cell? ⟨wr.heap.size,3,none⟩=some (.bool e.va)/\w'.cell? ⟨wr.heap.size,4,none⟩=some (.string e.name)/\w'.cell? ⟨wr.heap.size,5,none⟩=some (.string e.tag)/\w'.cell? ⟨wr.heap.size,6,none⟩=some (.slice ea e.elems.length ec)/\w'.cell? ⟨W.heap.size+1,6,none⟩=some (.slice (some ⟨bI,oy,none⟩) y.elems.length cy)/\w'.cell? ⟨bI,oy+kk*7,none⟩=some (.int .i64 e'.kind)/\w'.cell? ⟨bI,oy+kk*7+1,none⟩=some (.int .i64 e'.n)/\w'.cell? ⟨bI,oy+kk*7+2,none⟩=some (.int .i64 e'.m)/\w'.cell? ⟨bI,oy+kk*7+3,none⟩=some (.bool e'.va)/\w'.cell? ⟨bI,oy+kk*7+4,none⟩=some (.string e'.name)/\w'.cell? ⟨bI,oy+kk*7+5,none⟩=some (.string e'.tag)/\w'.cell? ⟨bI,oy+kk*7+6,none⟩=some (.slice AR e'.elems.length AS)) w' from λw' hb=>⟨hb,(hb.cell (p:=⟨wr.heap.size,0,none⟩) kF).trans p0,(hb.cell (p:=⟨wr.heap.size,1,none⟩) kF).trans p1,(hb.cell (p:=⟨wr.heap.size,2,none⟩) kF).trans p2,(hb.cell (p:=⟨wr.heap.size,3,none⟩) kF).trans p3,(hb.cell (p:=⟨wr.heap.size,4,none⟩) kF).trans p4,(hb.cell (p:=⟨wr.heap.size,5,none⟩) kF).trans p5,(hb.cell (p:=⟨wr.heap.size,6,none⟩) kF).trans p6,(hb.cell (p:=⟨W.heap.size+1,6,none⟩) Pp).trans d6,(hb.cell (p:=⟨bI,oy+kk*7,none⟩) kG).trans f0,(hb.cell (p:=⟨bI,oy+kk*7+1,none⟩) kG).trans f1,(hb.cell (p:=⟨bI,oy+kk*7+2,none⟩) kG).trans f2,(hb.cell (p:=⟨bI,oy+kk*7+3,none⟩) kG).trans f3,(hb.cell (p:=⟨bI,oy+kk*7+4,none⟩) kG).trans f4,(hb.cell (p:=⟨bI,oy+kk*7+5,none⟩) kG).trans f5,(hb.cell (p:=⟨bI,oy+kk*7+6,none⟩) kG).trans f6⟩);have hI:=Z<|λ(w':World) (hb:Below wA.heap.size wA w')=>ih w _ e e' b _ _ w' _ mV ((qg.1.mv eP).mv hb) (oK.mv (qg.1.mv eP).lo hb) (js.mv (qg.1.mv eP).lo hb);have nb:=Z jM;have qf:=Z eP;have HZA:=Z zH;clear eD bL hm oJ mV jM r5 js oK eP gX yz zH;go_wp2_with fail
   try rw[r6]
   go_region_held3 (λw'=>Below wA.heap.size wA w'/\w'.cell? ⟨wr.heap.size,0,none⟩=some (.int .i64 e.kind)/\w'.cell? ⟨wr.heap.size,1,none⟩=some (.int .i64 e.n)/\w'.cell? ⟨wr.heap.size,2,none⟩=some (.int .i64 e.m)/\w'.cell? ⟨wr.heap.size,3,none⟩=some (.bool e.va)/\w'.cell? ⟨wr.heap.size,4,none⟩=some (.string e.name)/\w'.cell? ⟨wr.heap.size,5,none⟩=some (.string e.tag)/\w'.cell? ⟨wr.heap.size,6,none⟩=some (.slice ea e.elems.length ec)/\w'.cell? ⟨W.heap.size+1,6,none⟩=some (.slice (some ⟨bI,oy,none⟩) y.elems.length cy)/\w'.cell? ⟨bI,oy+kk*7,none⟩=some (.int .i64 e'.kind)/\w'.cell? ⟨bI,oy+kk*7+1,none⟩=some (.int .i64 e'.n)/\w'.cell? ⟨bI,oy+kk*7+2,none⟩=some (.int .i64 e'.m)/\w'.cell? ⟨bI,oy+kk*7+3,none⟩=some (.bool e'.va)/\w'.cell? ⟨bI,oy+kk*7+4,none⟩=some (.string e'.name)/\w'.cell? ⟨bI,oy+kk*7+5,none⟩=some (.string e'.tag)/\w'.cell? ⟨bI,oy+kk*7+6,none⟩=some (.slice AR e'.elems.length AS))
    (first|exact hS.1 _ (jQ5 _ _).drew|assumption)
    (first
     |(go_at_call 207;have hh:=‹Below wA.heap.size wA _/\_›;refine(hI.1 _ hh.1).mono ?_;rintro eI wI ⟨rfl,nW⟩;have nW:=hh.1.trans (nW.mono hh.1.size);have hSI:=hS.1 _ nW))
   have sQ:=Z (qf.1.trans (nW.mono qf.1.size));cases b with
   |false=>
    have h:false=r:=by
     rcases nb.1 with⟨_,h⟩|⟨h,_⟩
     ·have:=bM.1;rw[h]at this;simpa using this
     ·cases h
    subst h;go_wp2_with fail;go_ret;exact⟨rfl,ej.1.trans (sQ.1.mono ej.1.size)⟩
   |true=>
    have jM:=Z (show rangeM (λi e=>(y.elems[i]?).bind λe'=>(ident k w e e').map λb=>if b then none else some false) (kk+1) (x.elems.drop (kk+1))=some res by
     rcases nb.1 with⟨h,_⟩|⟨_,h⟩
     ·cases h
     ·exact h)
    go_wp2_with fail;go_roundg (x.elems.length - (kk+1))
    case measure=>omega
    case rel=>exact⟨kk+1,m9,m9,by go_num,sQ.1,jM.out⟩
  ·have aR:¬(kk:Int)<(x.elems.length:Int):=m9
   have h:true=r:=by
    have:=eD.out;rw[jQf m9]at this;have h:none=res:=by simpa[rangeM]using this
    have:=bM.1;rw[<-h]at this;simpa using this
   subst h;have HD:=Z (ej.1.trans (BW.out.mono ej.1.size));clear eD;exact M54):Y:=h
theorem M133(h:Y:=by
 clear rP;go_wp2_with fail;refine ag.mono ?_;rintro e w3 ⟨rfl,aZ⟩;have HD:=Z (ej.1.trans (aZ.mono ej.1.size));clear aZ ag;exact M54):Y:=h
theorem M139(h:Y:=by
 go_wp2_with fail;go_quiet (fail);go_wp2_with fail;go_ret;exact⟨rfl,⟨qf.1.os,qf.1.tape,qf.1.output,qf.1.size,qf.1.block⟩⟩):Y:=h
theorem M47(h:Y:=by
 have hq:(!aE e.name e'.name||!aE e.tag e'.tag)=false:=by simp[aE,dU,xI]
 rw[hq,Bool.false_or]at eD;have XS:=Z eD;have Nx:=gB dU;have Z5:=gB xI;clear eD hq dU xI;go_wp2_with fail;go_quiet (fail);go_wp2_with fail;go_roundg (x.elems.length - (kk+1))
 case measure=>omega
 case rel=>exact⟨kk+1,m9,m9,by go_num,⟨AU.1.os,AU.1.tape,AU.1.output,AU.1.size,AU.1.block⟩,XS.1⟩):Y:=h
theorem M64(h:Y:=by
 go_wp2_with fail;go_ret;exact⟨rfl,ej.1⟩):Y:=h
def Z0(D:Nat->Prop)(W wx:World)(x y:GT):Prop:=
 ∃ax cx ay cy,wx.heap[W.heap.size]?=some (bx x ax cx)/\wx.heap[W.heap.size+1]?=some (bx y ay cy)/\Below W.heap.size W wx/\W.heap.size+1<wx.heap.size/\
  RS (Up D (W.heap.size+1+1) wx.heap.size) wx x.elems (.slice ax x.elems.length cx)/\RS (Up D (W.heap.size+1+1) wx.heap.size) wx y.elems (.slice ay y.elems.length cy)
theorem IX{D:Nat->Prop}{W W2 wA wB:World}{x0 y0 x y:GT}{ax ay aA aB:Option Addr}{cx cy cA cB:Nat}(hD:Lo D W.heap.size)(hz:W2.heap.size=W.heap.size+1+1)(XQ:Below W.heap.size W W2)(eP:Below W2.heap.size W2 wA)(IF:Below wA.heap.size wA wB)(hx:wB.heap[W.heap.size]?=some (bx x0 ax cx))(hy:wB.heap[W.heap.size+1]?=some (bx y0 ay cy))(Z1:RS (Up D W2.heap.size wA.heap.size) wA x.elems (.slice aA x.elems.length cA))(Ef:RS (Up D wA.heap.size wB.heap.size) wB y.elems (.slice aB y.elems.length cB)):
 Z0 D W (((((((((((((((wB.setCell ⟨W.heap.size,0,none⟩ (.int .i64 x.kind)).setCell ⟨W.heap.size,1,none⟩ (.int .i64 x.n)).setCell ⟨W.heap.size,2,none⟩ (.int .i64 x.m)).setCell ⟨W.heap.size,3,none⟩ (.bool x.va)).setCell ⟨W.heap.size,4,none⟩ (.string x.name)).setCell ⟨W.heap.size,5,none⟩ (.string x.tag)).setCell ⟨W.heap.size,6,none⟩ (.slice aA x.elems.length cA)).setCell
  ⟨W.heap.size+1,0,none⟩ (.int .i64 y.kind)).setCell ⟨W.heap.size+1,1,none⟩ (.int .i64 y.n)).setCell ⟨W.heap.size+1,2,none⟩ (.int .i64 y.m)).setCell ⟨W.heap.size+1,3,none⟩ (.bool y.va)).setCell ⟨W.heap.size+1,4,none⟩ (.string y.name)).setCell ⟨W.heap.size+1,5,none⟩ (.string y.tag)).setCell ⟨W.heap.size+1,6,none⟩ (.slice aB y.elems.length cB))) x y:=by
 have h1:=aea hx (.int .i64 x.kind) (.int .i64 x.n) (.int .i64 x.m) (.bool x.va) (.string x.name) (.string x.tag) (.slice aA x.elems.length cA);have h2:=aea (h1.cR hy m9) (.int .i64 y.kind) (.int .i64 y.n) (.int .i64 y.m) (.bool y.va) (.string y.name) (.string y.tag) (.slice aB y.elems.length cB);have zH:=eP.size;have hzB:=IF.size;have e1:=h1.size;have e2:=h2.size;have hb:Below W.heap.size W wB:=XQ.trans ((eP.trans (IF.mono zH)).mono XQ.size);have hm:∀{n m:Nat},W.heap.size+1+1<=n->au (Up D n m) (Up D n m) wB _:=λ{n m} hn=>λb hb=>by
  have ar:b≠W.heap.size/\b≠W.heap.size+1:=by
   obtain hb|hb:=hb
   ·have:=hD b hb;omega
   ·omega
  exact⟨hb,(h2.other b ar.2).trans (h1.other b ar.1)⟩
 refine⟨aA,cA,aB,cB,h2.cR h1.here m9,h2.here,h2.below (h1.below hb (jQ0 _)) m9,m9,?_,?_⟩
 ·exact((Z1.mv (Up.lo (hD.mono m9) zH) IF).move (hm m9)).move (au.refl.wide (Up.mono m9 m9))
 ·exact(Ef.move (hm m9)).move (au.refl.wide (Up.mono m9 m9))
theorem AQ(k:Nat)(ih:pD k):pD (k+1):=by
 intro w ws x0 y0 r vx vy W D hp hx xH Nw;rw[ident]at hp;obtain⟨x,kq,hp⟩:=jQ1.1 hp;obtain⟨y,hby,hp⟩:=jQ1.1 hp;obtain⟨ax,cx,rfl,_⟩:=xH.bR;obtain⟨ay,cy,rfl,_⟩:=Nw.bR;obtain⟨wa,wc,rfl⟩:=hx.rd.form;have eQ:=Z (dT W (bx x0 ax cx) (bx y0 ay cy));have oI:=Z hx;have En:=Z xH;have We:=Z Nw;have qM:=Z (aq (o:=bx y0 ay cy) (ak W (bx x0 ax cx)));have IY:=Z (ak (W.alloc (bx x0 ax cx)) (bx y0 ay cy));have HP:=Z hp;have HQX:=Z kq;have HQY:=Z hby
 clear hp kq hby hx xH Nw;go_enter func207,ntmps207
 go_upto_region 1 with fail
 go_cut [] (λwx=>Z0 D W wx x y)
 case first=>
  generalize sj:(W.alloc (bx x0 ax cx)).alloc (bx y0 ay cy)=W2 at eQ qM IY;have j7:W2.heap.size=W.heap.size+1+1:=by subst sj;simp
  have fV:W.heap.size<W2.heap.size:=m9
  have dQ:W.heap.size+1<W2.heap.size:=m9
  obtain⟨c0,c1,c2,c3,c4,c5,c6⟩:=ao qM.1;have aeb:=Z (show W2.heap[W.heap.size+1]?=some (bx y0 ay cy)by simpa using IY.1);obtain⟨d0,d1,d2,d3,d4,d5,d6⟩:=ao aeb.1;have hA:=Z<|λ(w':World) (hb:Below W2.heap.size W2 w')=>jr _ x0 x _ w' D (jQ0 _) HQX.1 ((oI.1.mv eQ.1).mv hb).lo ((En.1.mv oI.1.lo eQ.1).mv (oI.1.mv eQ.1).lo hb);have hB:=Z<|λ(w':World) (hb:Below W2.heap.size W2 w')=>jr _ y0 y _ w' D (jQ0 _) HQY.1 ((oI.1.mv eQ.1).mv hb).lo ((We.1.mv oI.1.lo eQ.1).mv (oI.1.mv eQ.1).lo hb);have HZ2:=Z j7;clear j7 sj
  go_region_with (first
   |(go_at_call_of 177 (Value.agg #[.int .i64 x0.kind,.int .i64 x0.n,.int .i64 x0.m,.bool x0.va,.string x0.name,.string x0.tag,.slice ax x0.elems.length cx])
     refine(hA.1 _ ((jQ5 _ _).drew)).mono ?_;rintro eA wA ⟨vA,rfl,hrA,eP⟩;obtain⟨aA,cA,rfl,Z1⟩:=hrA.bR;have XR:=(jQ5 W2.heap.size W2).drew.trans eP;have aec:=aj XR qM.1 fV;have aed:=aj XR aeb.1 dQ;obtain⟨p0,p1,p2,p3,p4,p5,p6⟩:=ao aec;obtain⟨q0,q1,q2,q3,q4,q5,q6⟩:=ao aed;have HSA:=Z Z1;have qf:=Z XR;clear hrA Z1 eP XR)
   |(go_at_call_of 177 (Value.agg #[.int .i64 y0.kind,.int .i64 y0.n,.int .i64 y0.m,.bool y0.va,.string y0.name,.string y0.tag,.slice ay y0.elems.length cy])
     refine(hB.1 _ qf.1).mono ?_;rintro eB wB ⟨vB,rfl,hrB,IF⟩;obtain⟨aB,cB,rfl,Ef⟩:=hrB.bR;have Ky:=Z IF;have wL:=Z Ef;have abl:=aj IF aec (jQb fV qf.1.size);have abm:=aj IF aed (jQb dQ qf.1.size);have hf0:=cd abl;have O7:=cd abm;obtain⟨p0,p1,p2,p3,p4,p5,p6⟩:=ao abl;obtain⟨q0,q1,q2,q3,q4,q5,q6⟩:=ao abm;clear hrB Ef IF))
  all_goals(go_wp2_with fail;go_meet;exact IX oI.1.lo HZ2.1 eQ.1 qf.1 Ky.1 abl abm HSA.1 wL.1)
 case rest=>
  obtain⟨wx,R8⟩:∃wx,wx=wc:=⟨wc,rfl⟩;subst R8;obtain⟨ax,cx,ay,cy,kq,hby,FO,dQ,Z2,rV⟩:=hcut;obtain⟨c0,c1,c2,c3,c4,c5,c6⟩:=ao kq;obtain⟨d0,d1,d2,d3,d4,d5,d6⟩:=ao hby
  have ag3:=kq;have qM:=Z kq;have IY:=Z hby
  have ej:=Z FO;have jf:=Z (Up.lo (n:=W.heap.size+1+1) (oI.1.lo.mono m9) dQ);have qg:=Z ((oI.1.mv FO).up (n:=W.heap.size+1+1) (oI.1.lo.mono m9) dQ);have CQ:=Z Z2;have xo:=Z rV;have fV:W.heap.size<wx.heap.size:=m9
  have hp:=HP.1;clear kq hby FO Z2 rV ag3 HP;by_cases hk:x.kind≠y.kind
  ·rw[jQ7 hk]at hp;have h:false=r:=by simpa using hp
   subst h;have kk:(x.kind !=y.kind)=true:=by simpa using hk
   clear hp hk;exact M64
  rw[jQ4 hk]at hp;have kk:(x.kind !=y.kind)=false:=by simpa using hk
  by_cases hl:x.elems.length≠y.elems.length/\x.kind≠10
  ·rw[jQ7 hl]at hp;have h:false=r:=by simpa using hp
   subst h;have kl:((x.elems.length:Int)!=(y.elems.length:Int))=true:=by simp;omega
   have sq:(x.kind !=10)=true:=by simpa using hl.2
   clear hp hk hl;exact M64
  rw[jQ4 hl]at hp;by_cases bH:x.kind=10
  ·rw[jQ7 bH]at hp;have sq:(x.kind !=10)=false:=by simp[bH]
   have k10':(x.kind==10)=true:=by simp[bH]
   have ag:=Ds k k ih w _ x y r _ _ wx _ hp qg.1 (RT.mk' CQ.1) (RT.mk' xo.1);clear hp hk hl bH;by_cases rP:x.elems.length=y.elems.length
   ·have kl:((x.elems.length:Int)!=(y.elems.length:Int))=false:=by simp[rP]
    exact M133
   ·have kl:((x.elems.length:Int)!=(y.elems.length:Int))=true:=by simp;omega
    exact M133
  rw[jQ4 bH]at hp;have sq:(x.kind==10)=false:=by simp[bH]
  have rP:x.elems.length=y.elems.length:=by
   by_cases h:x.elems.length=y.elems.length
   ·exact h
   ·exact absurd ⟨h,bH⟩ hl
  have kl:((x.elems.length:Int)!=(y.elems.length:Int))=false:=by simp[rP]
  clear hk hl;by_cases h1:x.kind=1\/x.kind=3\/x.kind=9\/x.kind=11
  ·have h7:¬x.kind=7:=m9
   have h5:¬x.kind=5:=m9
   have k7:(x.kind==7)=false:=by simp[h7]
   have k5:(x.kind==5)=false:=by simp[h5]
   by_cases hn:x.n≠y.n
   ·rw[jQ7 ⟨h1,hn⟩]at hp;have h:false=r:=by simpa using hp
    subst h;have kn:(x.n !=y.n)=true:=by simpa using hn
    have H1:=Z h1;clear hp hn bH h7 h5 h1;by_cases h1:x.kind=1
    ·have k1:(x.kind==1)=true:=by simp[h1]
     clear h1;exact M64
    have k1:(x.kind==1)=false:=by simp[h1]
    by_cases h3:x.kind=3
    ·have k3:(x.kind==3)=true:=by simp[h3]
     clear h1 h3;exact M64
    have k3:(x.kind==3)=false:=by simp[h3]
    by_cases h9:x.kind=9
    ·have k9:(x.kind==9)=true:=by simp[h9]
     clear h1 h3 h9;exact M64
    have k9:(x.kind==9)=false:=by simp[h9]
    have qd:(x.kind==11)=true:=by have:=H1.1;simp;omega
    clear h1 h3 h9;exact M64
   rw[jQ4 (λh=>hn h.2),jQ4 (λh=>h7 h.1),jQ4 (λh=>h5 h.1)]at hp;have kn:(x.n !=y.n)=false:=by simpa using hn
   obtain⟨res,hr,bo⟩:=jQ6.1 hp;have HR:=Z hr;have bM:=Z bo;have H1:=Z h1;clear hp hr bo h5 h7 bH hn h1;by_cases h1:x.kind=1
   ·have k1:(x.kind==1)=true:=by simp[h1]
    clear h1;exact M0
   have k1:(x.kind==1)=false:=by simp[h1]
   by_cases h3:x.kind=3
   ·have k3:(x.kind==3)=true:=by simp[h3]
    clear h1 h3;exact M0
   have k3:(x.kind==3)=false:=by simp[h3]
   by_cases h9:x.kind=9
   ·have k9:(x.kind==9)=true:=by simp[h9]
    clear h1 h3 h9;exact M0
   have k9:(x.kind==9)=false:=by simp[h9]
   have qd:(x.kind==11)=true:=by have:=H1.1;simp;omega
   clear h1 h3 h9;exact M0
  rw[jQ4 (λh=>h1 h.1)]at hp;have k1:(x.kind==1)=false:=by simp;omega
  have k3:(x.kind==3)=false:=by simp;omega
  have k9:(x.kind==9)=false:=by simp;omega
  have qd:(x.kind==11)=false:=by simp;omega
  by_cases h7:x.kind=7
  ·have k7:(x.kind==7)=true:=by simp[h7]
   have k5:(x.kind==5)=false:=by simp[h7]
   by_cases hm:x.m≠y.m
   ·rw[jQ7 ⟨h7,.inl hm⟩]at hp;have h:false=r:=by simpa using hp
    subst h;have km:(x.m !=y.m)=true:=by simpa using hm
    clear hp hm bH h7 h1;exact M64
   have km:(x.m !=y.m)=false:=by simpa using hm
   by_cases xb:x.va≠y.va
   ·rw[jQ7 ⟨h7,.inr xb⟩]at hp;have h:false=r:=by simpa using hp
    subst h;have ev:y.va=!x.va:=by revert xb;generalize x.va=a;generalize y.va=b;cases a<;>cases b<;>simp
    rw[ev]at d3;clear ev;clear hp hm xb bH h7 h1;exact M64
   have ev:y.va=x.va:=by revert xb;generalize x.va=a;generalize y.va=b;cases a<;>cases b<;>simp
   rw[ev]at d3;rw[jQ4 (λh=>by obtain h|h:=h.2;exact hm h;exact xb h),jQ4 (λh=>by have:=h.1;omega)]at hp;obtain⟨res,hr,bo⟩:=jQ6.1 hp;have HR:=Z hr;have bM:=Z bo;clear hp hr bo h7 bH hm xb h1 ev;exact M0
  rw[jQ4 (λh=>h7 h.1)]at hp;have k7:(x.kind==7)=false:=by simp[h7]
  by_cases h5:x.kind=5
  ·have k5:(x.kind==5)=true:=by simp[h5]
   cases Pq:(List.zip x.elems y.elems).any (λp=>!aE p.1.name p.2.name||!aE p.1.tag p.2.tag)with
   |true=>
    rw[jQ7 ⟨h5,Pq⟩]at hp;have h:false=r:=by simpa using hp
    subst h;have abn:=Z Pq;clear hp Pq h5 h7 bH h1;go_wp2_with fail
    go_loopg [71] x.elems.length (λgg s71 wr=>∃kk:Nat,kk<=x.elems.length/\x.elems.length - kk<=gg/\s71=.int .i64 kk/\Aside (Below wx.heap.size wx wr)/\Aside ((List.zip (x.elems.drop kk) (y.elems.drop kk)).any (λp=>!aE p.1.name p.2.name||!aE p.1.tag p.2.tag)=true))
    case atStart=>exact⟨0,jQc _,m9,rfl,jQ5 _ _,by show(List.zip (x.elems.drop 0) (y.elems.drop 0)).any _=_;rw[jR0,jR0];exact abn.1⟩
    case round=>
     obtain⟨kk,ez,hg,rfl,BW,eD⟩:=hrel;by_cases aM:kk<x.elems.length
     ·have aR:(kk:Int)<(x.elems.length:Int):=m9
      have iY:kk<y.elems.length:=m9
      have yy:(kk:Int)<(y.elems.length:Int):=m9
      obtain⟨e,hm⟩:∃e,x.elems[kk]?=some e:=⟨x.elems[kk],by simp[aM]⟩;obtain⟨e',j9⟩:∃e,y.elems[kk]?=some e:=⟨y.elems[kk],by simp[iY]⟩;have bL:x.elems.drop kk=e::x.elems.drop (kk+1):=M101
      have AT:y.elems.drop kk=e'::y.elems.drop (kk+1):=by
       rw[jQv iY];simp[jQp iY]at j9;rw[j9]
      have eD:=eD.out;rw[bL,AT,List.zip_cons_cons,List.any_cons]at eD;rcases aN.1 CQ.1 with⟨he,_⟩|⟨_,b2,o2,c2,dN,fh,fL,du,gX⟩
      ·exact M102
      simp at dN;obtain⟨rfl,rfl⟩:=dN;rcases aN.1 xo.1 with⟨Eo,_⟩|⟨IZ,bI,oy,Z3,kZ,xm,Z4,lM,yz⟩
      ·rw[Eo]at iY;simp at iY
      simp at kZ;obtain⟨rfl,rfl⟩:=kZ;have dZ:=BW.out.size;obtain⟨ea,ec,g0,g1,g2,g3,g4,g5,g6,r5⟩:=((gX.at hm).move (jf.1.aJ BW.out) du).bR;obtain⟨AR,AS,f0,f1,f2,f3,f4,f5,f6,js⟩:=((yz.at j9).move (jf.1.aJ (BW.out.alloc dZ (bx e ea ec))) lM).bR;have dt:W.heap.size+1<wr.heap.size:=jQb dQ dZ;have oW:b2<wr.heap.size:=jQb (jf.1 _ du) dZ;obtain⟨p0,p1,p2,p3,p4,p5,p6⟩:=ao (ak wr (bx e ea ec));obtain⟨d0,d1,d2,d3,d4,d5,d6⟩:=ao (aq (o:=bx e ea ec) (aj BW.out IY.1 dQ));have qf:=Z (ej.1.trans ((BW.out.alloc dZ (bx e ea ec)).mono ej.1.size));have AU:=Z (BW.out.alloc dZ (bx e ea ec));clear bL AT hm j9 r5 js gX yz;by_cases dU:e.name=e'.name
      ·by_cases xI:e.tag=e'.tag
       ·exact M47
       ·have hq:(!aE e.name e'.name||!aE e.tag e'.tag)=true:=by simp[aE,xI]
        have hqf:(!aE e.name e'.name||!aE e.tag e'.tag)=true:=by rw[hq,Bool.true_or]at eD;exact hq.trans eD
        have Nx:=gB dU;have Z5:=jX xI;clear eD dU xI;exact M139
      ·have hq:(!aE e.name e'.name||!aE e.tag e'.tag)=true:=by simp[aE,dU]
       have hqf:(!aE e.name e'.name||!aE e.tag e'.tag)=true:=by rw[hq,Bool.true_or]at eD;exact hq.trans eD
       have Nx:=jX dU;clear eD dU;exact M139
     ·have aR:¬(kk:Int)<(x.elems.length:Int):=m9
      have hex:false=true:=by
       first
        |rfl
        |(have:=eD.out;rw[jQf m9]at this;simpa using this)
      exact absurd hex i6
   |false=>
    rw[jQ4 (λh=>by rw[Pq]at h;exact absurd h.2 i6)]at hp;obtain⟨res,hr,bo⟩:=jQ6.1 hp;have HR:=Z hr;have bM:=Z bo;have abn:=Z Pq;clear hp hr bo Pq h5 h7 bH h1;go_wp2_with fail
    go_loopg [71] x.elems.length (λgg s71 wr=>∃kk:Nat,kk<=x.elems.length/\x.elems.length - kk<=gg/\s71=.int .i64 kk/\Aside (Below wx.heap.size wx wr)/\Aside ((List.zip (x.elems.drop kk) (y.elems.drop kk)).any (λp=>!aE p.1.name p.2.name||!aE p.1.tag p.2.tag)=false))
    case atStart=>exact⟨0,jQc _,m9,rfl,jQ5 _ _,by show(List.zip (x.elems.drop 0) (y.elems.drop 0)).any _=_;rw[jR0,jR0];exact abn.1⟩
    case round=>
     obtain⟨kk,ez,hg,rfl,BW,eD⟩:=hrel;by_cases aM:kk<x.elems.length
     ·have aR:(kk:Int)<(x.elems.length:Int):=m9
      have iY:kk<y.elems.length:=m9
      have yy:(kk:Int)<(y.elems.length:Int):=m9
      obtain⟨e,hm⟩:∃e,x.elems[kk]?=some e:=⟨x.elems[kk],by simp[aM]⟩;obtain⟨e',j9⟩:∃e,y.elems[kk]?=some e:=⟨y.elems[kk],by simp[iY]⟩;have bL:x.elems.drop kk=e::x.elems.drop (kk+1):=M101
      have AT:y.elems.drop kk=e'::y.elems.drop (kk+1):=by
       rw[jQv iY];simp[jQp iY]at j9;rw[j9]
      have eD:=eD.out;rw[bL,AT,List.zip_cons_cons,List.any_cons]at eD;rcases aN.1 CQ.1 with⟨he,_⟩|⟨_,b2,o2,c2,dN,fh,fL,du,gX⟩
      ·exact M102
      simp at dN;obtain⟨rfl,rfl⟩:=dN;rcases aN.1 xo.1 with⟨Eo,_⟩|⟨IZ,bI,oy,Z3,kZ,xm,Z4,lM,yz⟩
      ·rw[Eo]at iY;simp at iY
      simp at kZ;obtain⟨rfl,rfl⟩:=kZ;have dZ:=BW.out.size;obtain⟨ea,ec,g0,g1,g2,g3,g4,g5,g6,r5⟩:=((gX.at hm).move (jf.1.aJ BW.out) du).bR;obtain⟨AR,AS,f0,f1,f2,f3,f4,f5,f6,js⟩:=((yz.at j9).move (jf.1.aJ (BW.out.alloc dZ (bx e ea ec))) lM).bR;have dt:W.heap.size+1<wr.heap.size:=jQb dQ dZ;have oW:b2<wr.heap.size:=jQb (jf.1 _ du) dZ;obtain⟨p0,p1,p2,p3,p4,p5,p6⟩:=ao (ak wr (bx e ea ec));obtain⟨d0,d1,d2,d3,d4,d5,d6⟩:=ao (aq (o:=bx e ea ec) (aj BW.out IY.1 dQ));have qf:=Z (ej.1.trans ((BW.out.alloc dZ (bx e ea ec)).mono ej.1.size));have AU:=Z (BW.out.alloc dZ (bx e ea ec));clear bL AT hm j9 r5 js gX yz;by_cases dU:e.name=e'.name
      ·by_cases xI:e.tag=e'.tag
       ·exact M47
       ·have hq:(!aE e.name e'.name||!aE e.tag e'.tag)=true:=by simp[aE,xI]
        have hqf:(!aE e.name e'.name||!aE e.tag e'.tag)=false:=by rw[hq,Bool.true_or]at eD;exact hq.trans eD
        have Nx:=gB dU;have Z5:=jX xI;clear eD dU xI;exact absurd (hq.symm.trans hqf) i6
      ·have hq:(!aE e.name e'.name||!aE e.tag e'.tag)=true:=by simp[aE,dU]
       have hqf:(!aE e.name e'.name||!aE e.tag e'.tag)=false:=by rw[hq,Bool.true_or]at eD;exact hq.trans eD
       have Nx:=jX dU;clear eD dU;exact absurd (hq.symm.trans hqf) i6
     ·have aR:¬(kk:Int)<(x.elems.length:Int):=m9
      have hex:false=false:=by
       first
        |rfl
        |(have:=eD.out;rw[jQf m9]at this;simpa using this)
      have dZ:=BW.out.size;have CQ:=Z ((CQ.1.mv jf.1 BW.out).move (D':=Up D (W.heap.size+1+1) wr.heap.size) (au.refl.wide (Up.mono (jQ0 _) dZ)));have xo:=Z ((xo.1.mv jf.1 BW.out).move (D':=Up D (W.heap.size+1+1) wr.heap.size) (au.refl.wide (Up.mono (jQ0 _) dZ)));have qM:=Z (aj BW.out qM.1 fV);have IY:=Z (aj BW.out IY.1 dQ);have ej:=Z (ej.1.trans (BW.out.mono ej.1.size));have fV:W.heap.size<wr.heap.size:=jQb fV dZ;have dQ:W.heap.size+1<wr.heap.size:=jQb dQ dZ;have jf:=Z (Up.lo (n:=W.heap.size+1+1) (m:=wr.heap.size) (oI.1.lo.mono m9) m9);have qg:=Z ((oI.1.mv ej.1).up (n:=W.heap.size+1+1) (oI.1.lo.mono m9) m9);clear c0 c1 c2 c3 c4 c5 c6 d0 d1 d2 d3 d4 d5 d6 eD hex;obtain⟨c0,c1,c2,c3,c4,c5,c6⟩:=ao qM.1;obtain⟨d0,d1,d2,d3,d4,d5,d6⟩:=ao IY.1;obtain⟨wx,R8⟩:∃wx,wx=wr:=⟨wr,rfl⟩;subst R8;exact M0
  rw[jQ4 (λh=>h5 h.1)]at hp;have k5:(x.kind==5)=false:=by simp[h5]
  obtain⟨res,hr,bo⟩:=jQ6.1 hp;have HR:=Z hr;have bM:=Z bo;clear hp hr bo h1 h5 h7 bH;exact M0
end Go.Proofs.YtabjfnkfocnklaaGreatDoor
