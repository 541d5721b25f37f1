import Derived.Test.YtbdgppghkdibfaaGreatDoorA10
set_option linter.all false
set_option maxHeartbeats 16000000
set_option maxRecDepth 20000
namespace Go.Proofs.YtbdgppghkdibfaaGreatDoor
open Go Go.RowKit Go.Lib S Tryz
variable{GT:Prop}
def M0(h:GT:=by
 go_wp21
 go_loopg [100] x.li.length (λgg s100 wr=>∃kk:Nat,kk<=x.li.length/\x.li.length - kk<=gg/\s100=.int .i64 kk/\Aside (S5 wx wr)/\Aside (rangeM (λi e=>(y.li[i]?).bind λe'=>(ident k w e e').map λb=>if b then none else some false) kk (x.li.drop kk)=some res))
 case atStart=>exact⟨0,jQc _,M,rfl,jQ5 _ _,by show rangeM _ 0 (x.li.drop 0)=some res;rw[jR0];exact HR.1⟩
 case round=>
  obtain⟨kk,ez,hg,rfl,BW,eD⟩:=hrel;by_cases aM:kk<x.li.length
  .have aR:(kk:Int)<(x.li.length:Int):=M
   have iY:kk<y.li.length:=M
   have yy:(kk:Int)<(y.li.length:Int):=M
   obtain⟨e,hm⟩:∃e,x.li[kk]?=some e:=⟨x.li[kk],by simp[aM]⟩;have bL:x.li.drop kk=e::x.li.drop (kk+1):=M103
   have eD:=eD.out;rw[bL]at eD;obtain⟨e',b,oJ,mV,jM⟩:∃e' b,y.li[kk]?=some e'/\ident k w e e'=some b/\((b=false/\res=some false)\/(b=true/\rangeM (λi e=>(y.li[i]?).bind λe'=>(ident k w e e').map λb=>if b then none else some false) (kk+1) (x.li.drop (kk+1))=some res)):=by
    rcases gm eD with⟨b,I,U⟩|⟨I,U⟩
    .obtain⟨e',h3,h4⟩:=jQ1.1 I;obtain⟨b2,h5,h6⟩:=jQ6.1 h4;cases b2 with
     |true=>simp at h6
     |false=>simp at h6;subst h6;exact⟨e',false,h3,h5,.inl ⟨rfl,U⟩⟩
    .obtain⟨e',h3,h4⟩:=jQ1.1 I;obtain⟨b2,h5,h6⟩:=jQ6.1 h4;cases b2 with
     |false=>simp at h6
     |true=>exact⟨e',true,h3,h5,.inr ⟨rfl,U⟩⟩
   rcases aN.1 CQ.1 with⟨he,_⟩|⟨_,b2,o2,c2,dN,fh,fL,du,gX⟩
   .exact M106
   simp at dN;obtain⟨rfl,rfl⟩:=dN;rcases aN.1 xo.1 with⟨Eo,_⟩|⟨IZ,bI,oy,Z3q,kZ,xm,Z4q,lM,yz⟩
   .rw[Eo]at iY;simp at iY
   simp at kZ;obtain⟨rfl,rfl⟩:=kZ;have dZ:=BW.out.size;obtain⟨ea,ec,g0,g1,g2,g3,g4,g5,g6,r5⟩:=((gX.at hm).move (jf.1.aJ BW.out) du).bR;obtain⟨AR,AS,f0,f1,f2,f3,f4,f5,f6,js⟩:=((yz.at oJ).move (jf.1.aJ (BW.out.alloc dZ (bx e ea ec))) lM).bR;have dt:W.heap.size+1<wr.heap.size:=jQb dQ dZ;have oW:b2<wr.heap.size:=jQb (jf.1 _ du) dZ;obtain⟨p0,p1,p2,p3,p4,p5,p6⟩:=ao (ak wr (bx e ea ec));obtain⟨d0,d1,d2,d3,d4,d5,d6⟩:=ao (aq (o:=bx e ea ec) (aj BW.out IY.1 dQ));generalize r6:wr.alloc (bx e ea ec)=wA at p0 p1 p2 p3 p4 p5 p6 d0 d1 d2 d3 d4 d5 d6 f0 f1 f2 f3 f4 f5 f6 js;have zH:wA.heap.size=wr.heap.size+1:=by subst r6;simp
   have kF:wr.heap.size<wA.heap.size:=M
   have Pp:W.heap.size+1<wA.heap.size:=M
   have kG:bI<wA.heap.size:=by have:=jf.1 bI lM;omega
   have eP:Below wx.heap.size wx wA:=by subst r6;exact BW.out.alloc dZ _
   have oK:RT (Up D (W.heap.size+1+1) wx.heap.size) wA e (.agg #[.int .i64 e.ld,.int .i64 e.n,.int .i64 e.m,.bool e.va,.string e.name,.string e.gc,.slice ea e.li.length ec]):=by subst r6;exact r5.mv (jf.1.mono dZ) (an wr _)
   have hS:=Z (show∀O,S5 wA O->(λO=>S5 wA O/\V9 O wr.heap.size e ea ec (ce O (W.heap.size+1) 6 (.slice (some ⟨bI,oy,none⟩) y.li.length cy)/\ce O bI (oy+kk*7) (.int .i64 e'.ld)/\ce O bI (oy+kk*7+1) (.int .i64 e'.n)/\ce O bI (oy+kk*7+2) (.int .i64 e'.m)/\ce O bI (oy+kk*7+3) (.bool e'.va)/\ce O bI (oy+kk*7+4) (.string e'.name)/\ce O bI (oy+kk*7+5) (.string e'.gc)/\ce O bI (oy+kk*7+6) (.slice AR e'.li.length AS))) O from λO hb=>⟨hb,S8 hb kF p0 p1 p2 p3 p4 p5 p6 ⟨(hb.cell (p:=⟨W.heap.size+1,6,none⟩) Pp).trans d6,(hb.cell (p:=⟨bI,oy+kk*7,none⟩) kG).trans f0,(hb.cell (p:=⟨bI,oy+kk*7+1,none⟩) kG).trans f1,(hb.cell (p:=⟨bI,oy+kk*7+2,none⟩) kG).trans f2,(hb.cell (p:=⟨bI,oy+kk*7+3,none⟩) kG).trans f3,(hb.cell (p:=⟨bI,oy+kk*7+4,none⟩) kG).trans f4,(hb.cell (p:=⟨bI,oy+kk*7+5,none⟩) kG).trans f5,(hb.cell (p:=⟨bI,oy+kk*7+6,none⟩) kG).trans f6⟩⟩);have hI:=Z<|λ(O:World) (hb:S5 wA O)=>ih w _ e e' b _ _ O _ mV ((qg.1.mv eP).mv hb) (oK.mv (qg.1.mv eP).lo hb) (js.mv (qg.1.mv eP).lo hb);have nb:=Z jM;have qf:=Z eP;have HZA:=Z zH;clear eD bL hm oJ mV jM r5 js oK eP gX yz zH;go_wp21
   try rw[r6]
   go_region_held3 (λO=>S5 wA O/\V9 O wr.heap.size e ea ec (ce O (W.heap.size+1) 6 (.slice (some ⟨bI,oy,none⟩) y.li.length cy)/\ce O bI (oy+kk*7) (.int .i64 e'.ld)/\ce O bI (oy+kk*7+1) (.int .i64 e'.n)/\ce O bI (oy+kk*7+2) (.int .i64 e'.m)/\ce O bI (oy+kk*7+3) (.bool e'.va)/\ce O bI (oy+kk*7+4) (.string e'.name)/\ce O bI (oy+kk*7+5) (.string e'.gc)/\ce O bI (oy+kk*7+6) (.slice AR e'.li.length AS)))
    (first|exact hS.1 _ (jQ5 _ _).drew|assumption)
    (first
     |(go_at_call 178;have hh:=‹S5 wA _/\_›;refine(hI.1 _ hh.1).mono ?_;rintro eI wI ⟨rfl,nW⟩;have nW:=hh.1.trans (nW.mono hh.1.size);have hSI:=hS.1 _ nW))
   have sQ:=Z (qf.1.trans (nW.mono qf.1.size));cases b with
   |false=>
    have h:false=r:=by
     rcases nb.1 with⟨_,h⟩|⟨h,_⟩
     .have:=bM.1;rw[h]at this;simpa using this
     .cases h
    subst h;go_wp2;go_ret;exact⟨rfl,ej.1.trans (sQ.1.mono ej.1.size)⟩
   |true=>
    have jM:=Z (show rangeM (λi e=>(y.li[i]?).bind λe'=>(ident k w e e').map λb=>if b then none else some false) (kk+1) (x.li.drop (kk+1))=some res by
     rcases nb.1 with⟨h,_⟩|⟨_,h⟩
     .cases h
     .exact h)
    go_wp21;go_roundg (x.li.length - (kk+1))
    case measure=>omega
    case rel=>exact⟨kk+1,M,M,by go_num,sQ.1,jM.out⟩
  .have aR:¬(kk:Int)<(x.li.length:Int):=M
   have h:true=r:=by
    have:=eD.out;rw[jQf M]at this;have h:none=res:=by simpa[rangeM]using this
    have:=bM.1;rw[<-h]at this;simpa using this
   subst h;have HD:=Z (ej.1.trans (BW.out.mono ej.1.size));clear eD;exact M82):GT:=h
def M135(h:GT:=by
 clear rP;go_wp21;refine ag.mono ?_;rintro e w3 ⟨rfl,aZ⟩;have HD:=Z (ej.1.trans (aZ.mono ej.1.size));clear aZ ag;exact M82):GT:=h
def M154(h:GT:=by
 go_wp21;go_quiet (fail);go_wp2;go_ret;exact⟨rfl,⟨qf.1.os,qf.1.tape,qf.1.output,qf.1.size,qf.1.block⟩⟩):GT:=h
def M48(h:GT:=by
 have hq:(!aE e.name e'.name||!aE e.gc e'.gc)=false:=by simp[aE,dU,xI]
 rw[hq,Bool.false_or]at eD;have XS:=Z eD;have Nx:=gB dU;have Z5q:=gB xI;clear eD hq dU xI;go_wp21;go_quiet (fail);go_wp21;go_roundg (x.li.length - (kk+1))
 case measure=>omega
 case rel=>exact⟨kk+1,M,M,by go_num,⟨AU.1.os,AU.1.tape,AU.1.output,AU.1.size,AU.1.block⟩,XS.1⟩):GT:=h
def M90(h:GT:=by
 go_wp2;go_ret;exact⟨rfl,ej.1⟩):GT:=h
def Z0(D:Qx)(W wx:World)(x y:Y):Prop:=
 ∃ax cx ay cy,wx.heap[W.heap.size]?=some (bx x ax cx)/\wx.heap[W.heap.size+1]?=some (bx y ay cy)/\S5 W wx/\W.heap.size+1<wx.heap.size/\
  RS (Up D (W.heap.size+1+1) wx.heap.size) wx x.li (.slice ax x.li.length cx)/\RS (Up D (W.heap.size+1+1) wx.heap.size) wx y.li (.slice ay y.li.length cy)
def IX{D:Qx}{W W2 wA wB:World}{x0 y0 x y:Y}{ax ay aA aB:Option Addr}{cx cy cA cB:Nat}(hD:Lo D W.heap.size)(hz:W2.heap.size=W.heap.size+1+1)(XQ:S5 W W2)(eP:S5 W2 wA)(IF:S5 wA wB)(H:wB.heap[W.heap.size]?=some (bx x0 ax cx))(hy:wB.heap[W.heap.size+1]?=some (bx y0 ay cy))(Z1:RS (Up D W2.heap.size wA.heap.size) wA x.li (.slice aA x.li.length cA))(Ef:RS (Up D wA.heap.size wB.heap.size) wB y.li (.slice aB y.li.length cB)):
 Z0 D W (((((((((((((((wB.setCell ⟨W.heap.size,0,none⟩ (.int .i64 x.ld)).setCell ⟨W.heap.size,1,none⟩ (.int .i64 x.n)).setCell ⟨W.heap.size,2,none⟩ (.int .i64 x.m)).setCell ⟨W.heap.size,3,none⟩ (.bool x.va)).setCell ⟨W.heap.size,4,none⟩ (.string x.name)).setCell ⟨W.heap.size,5,none⟩ (.string x.gc)).setCell ⟨W.heap.size,6,none⟩ (.slice aA x.li.length cA)).setCell
  ⟨W.heap.size+1,0,none⟩ (.int .i64 y.ld)).setCell ⟨W.heap.size+1,1,none⟩ (.int .i64 y.n)).setCell ⟨W.heap.size+1,2,none⟩ (.int .i64 y.m)).setCell ⟨W.heap.size+1,3,none⟩ (.bool y.va)).setCell ⟨W.heap.size+1,4,none⟩ (.string y.name)).setCell ⟨W.heap.size+1,5,none⟩ (.string y.gc)).setCell ⟨W.heap.size+1,6,none⟩ (.slice aB y.li.length cB))) x y:=by
 have I:=aea H (.int .i64 x.ld) (.int .i64 x.n) (.int .i64 x.m) (.bool x.va) (.string x.name) (.string x.gc) (.slice aA x.li.length cA);have U:=aea (I.cR hy M) (.int .i64 y.ld) (.int .i64 y.n) (.int .i64 y.m) (.bool y.va) (.string y.name) (.string y.gc) (.slice aB y.li.length cB);have zH:=eP.size;have hzB:=IF.size;have e1:=I.size;have e2:=U.size;have hb:S5 W wB:=XQ.trans ((eP.trans (IF.mono zH)).mono XQ.size);have hm:∀{n m:Nat},W.heap.size+1+1<=n->au (Up D n m) (Up D n m) wB _:=λ{n m} hn=>λb hb=>by
  have ar:b≠W.heap.size/\b≠W.heap.size+1:=by
   obtain hb|hb:=hb
   .have:=hD b hb;omega
   .omega
  exact⟨hb,(U.other b ar.2).trans (I.other b ar.1)⟩
 refine⟨aA,cA,aB,cB,U.cR I.here M,U.here,U.below (I.below hb (jQ0 _)) M,M,?_,?_⟩
 .exact((Z1.mv (Up.lo (hD.mono M) zH) IF).move (hm M)).move (au.refl.wide (Up.mono M M))
 .exact(Ef.move (hm M)).move (au.refl.wide (Up.mono M M))
def AQ(k:Nat)(ih:pD k):pD (k+1):=by
 intro w ws x0 y0 r vx vy W D j H xH Nw;rw[ident]at j;obtain⟨x,kq,j⟩:=jQ1.1 j;obtain⟨y,hby,j⟩:=jQ1.1 j;obtain⟨ax,cx,rfl,_⟩:=xH.bR;obtain⟨ay,cy,rfl,_⟩:=Nw.bR;obtain⟨wa,wc,rfl⟩:=H.rd.form;have eQ:=Z (dT W (bx x0 ax cx) (bx y0 ay cy));have oI:=Z H;have En:=Z xH;have We:=Z Nw;have qM:=Z (aq (o:=bx y0 ay cy) (ak W (bx x0 ax cx)));have IY:=Z (ak (W.alloc (bx x0 ax cx)) (bx y0 ay cy));have HP:=Z j;have HQX:=Z kq;have HQY:=Z hby
 clear j kq hby H xH Nw;go_in
 go_upto_region 1 with fail
 go_cut [] (λwx=>Z0 D W wx x y)
 case first=>
  generalize sj:(W.alloc (bx x0 ax cx)).alloc (bx y0 ay cy)=W2 at eQ qM IY;have j7:W2.heap.size=W.heap.size+1+1:=by subst sj;simp
  have fV:W.heap.size<W2.heap.size:=M
  have dQ:W.heap.size+1<W2.heap.size:=M
  obtain⟨c0,c1,c2,c3,c4,c5,c6⟩:=ao qM.1;have aeb:=Z (show W2.heap[W.heap.size+1]?=some (bx y0 ay cy)by simpa using IY.1);obtain⟨d0,d1,d2,d3,d4,d5,d6⟩:=ao aeb.1;have hA:=Z<|λ(O:World) (hb:S5 W2 O)=>jr _ x0 x _ O D (jQ0 _) HQX.1 ((oI.1.mv eQ.1).mv hb).lo ((En.1.mv oI.1.lo eQ.1).mv (oI.1.mv eQ.1).lo hb);have hB:=Z<|λ(O:World) (hb:S5 W2 O)=>jr _ y0 y _ O D (jQ0 _) HQY.1 ((oI.1.mv eQ.1).mv hb).lo ((We.1.mv oI.1.lo eQ.1).mv (oI.1.mv eQ.1).lo hb);have HZ2:=Z j7;clear j7 sj
  go_region_with (first
   |(go_at_call_of 96 (Value.agg #[.int .i64 x0.ld,.int .i64 x0.n,.int .i64 x0.m,.bool x0.va,.string x0.name,.string x0.gc,.slice ax x0.li.length cx]);refine(hA.1 _ ((jQ5 _ _).drew)).mono ?_;rintro eA wA ⟨vA,rfl,hrA,eP⟩;obtain⟨aA,cA,rfl,Z1⟩:=hrA.bR;have XR:=(jQ5 W2.heap.size W2).drew.trans eP;have aec:=aj XR qM.1 fV;have aed:=aj XR aeb.1 dQ;obtain⟨p0,p1,p2,p3,p4,p5,p6⟩:=ao aec;obtain⟨q0,q1,q2,q3,q4,q5,q6⟩:=ao aed;have HSA:=Z Z1;have qf:=Z XR;clear hrA Z1 eP XR)
   |(go_at_call_of 96 (Value.agg #[.int .i64 y0.ld,.int .i64 y0.n,.int .i64 y0.m,.bool y0.va,.string y0.name,.string y0.gc,.slice ay y0.li.length cy]);refine(hB.1 _ qf.1).mono ?_;rintro eB wB ⟨vB,rfl,hrB,IF⟩;obtain⟨aB,cB,rfl,Ef⟩:=hrB.bR;have Ky:=Z IF;have wL:=Z Ef;have abl:=aj IF aec (jQb fV qf.1.size);have abm:=aj IF aed (jQb dQ qf.1.size);have hf0:=cd abl;have O7:=cd abm;obtain⟨p0,p1,p2,p3,p4,p5,p6⟩:=ao abl;obtain⟨q0,q1,q2,q3,q4,q5,q6⟩:=ao abm;clear hrB Ef IF))
  all_goals(go_wp21;go_meet;exact IX oI.1.lo HZ2.1 eQ.1 qf.1 Ky.1 abl abm HSA.1 wL.1)
 case rest=>
  obtain⟨wx,R8⟩:∃wx,wx=wc:=⟨wc,rfl⟩;subst R8;obtain⟨ax,cx,ay,cy,kq,hby,FO,dQ,Z2,rV⟩:=hcut;obtain⟨c0,c1,c2,c3,c4,c5,c6⟩:=ao kq;obtain⟨d0,d1,d2,d3,d4,d5,d6⟩:=ao hby
  have ag3:=kq;have qM:=Z kq;have IY:=Z hby
  have ej:=Z FO;have jf:=Z (Up.lo (n:=W.heap.size+1+1) (oI.1.lo.mono M) dQ);have qg:=Z ((oI.1.mv FO).up (n:=W.heap.size+1+1) (oI.1.lo.mono M) dQ);have CQ:=Z Z2;have xo:=Z rV;have fV:W.heap.size<wx.heap.size:=M
  have j:=HP.1;clear kq hby FO Z2 rV ag3 HP;by_cases hk:x.ld≠y.ld
  .rw[jQ7 hk]at j;have h:false=r:=G9 j
   subst h;have kk:(x.ld !=y.ld)=true:=G9 hk
   clear j hk;exact M90
  rw[jQ4 hk]at j;have kk:(x.ld !=y.ld)=false:=G9 hk
  by_cases hl:x.li.length≠y.li.length/\x.ld≠10
  .rw[jQ7 hl]at j;have h:false=r:=G9 j
   subst h;have kl:((x.li.length:Int)!=(y.li.length:Int))=true:=by simp;omega
   have sq:(x.ld !=10)=true:=G9 hl.2
   clear j hk hl;exact M90
  rw[jQ4 hl]at j;by_cases bH:x.ld=10
  .rw[jQ7 bH]at j;have sq:(x.ld !=10)=false:=by simp[bH]
   have k10':(x.ld==10)=true:=by simp[bH]
   have ag:=Ds k k ih w _ x y r _ _ wx _ j qg.1 (RT.mk' CQ.1) (RT.mk' xo.1);clear j hk hl bH;by_cases rP:x.li.length=y.li.length
   .have kl:((x.li.length:Int)!=(y.li.length:Int))=false:=by simp[rP]
    exact M135
   .have kl:((x.li.length:Int)!=(y.li.length:Int))=true:=by simp;omega
    exact M135
  rw[jQ4 bH]at j;have sq:(x.ld==10)=false:=by simp[bH]
  have rP:x.li.length=y.li.length:=by
   by_cases h:x.li.length=y.li.length
   .exact h
   .exact absurd ⟨h,bH⟩ hl
  have kl:((x.li.length:Int)!=(y.li.length:Int))=false:=by simp[rP]
  clear hk hl;by_cases I:x.ld=1\/x.ld=3\/x.ld=9\/x.ld=11
  .have h7:¬x.ld=7:=M
   have h5:¬x.ld=5:=M
   have k7:(x.ld==7)=false:=by simp[h7]
   have k5:(x.ld==5)=false:=by simp[h5]
   by_cases hn:x.n≠y.n
   .rw[jQ7 ⟨I,hn⟩]at j;have h:false=r:=G9 j
    subst h;have kn:(x.n !=y.n)=true:=G9 hn
    have H1:=Z I;clear j hn bH h7 h5 I;by_cases I:x.ld=1
    .have k1:(x.ld==1)=true:=by simp[I]
     clear I;exact M90
    have k1:(x.ld==1)=false:=by simp[I]
    by_cases h3:x.ld=3
    .have k3:(x.ld==3)=true:=by simp[h3]
     clear I h3;exact M90
    have k3:(x.ld==3)=false:=by simp[h3]
    by_cases h9:x.ld=9
    .have k9:(x.ld==9)=true:=by simp[h9]
     clear I h3 h9;exact M90
    have k9:(x.ld==9)=false:=by simp[h9]
    have qd:(x.ld==11)=true:=by have:=H1.1;simp;omega
    clear I h3 h9;exact M90
   rw[jQ4 (λh=>hn h.2),jQ4 (λh=>h7 h.1),jQ4 (λh=>h5 h.1)]at j;have kn:(x.n !=y.n)=false:=G9 hn
   obtain⟨res,hr,bo⟩:=jQ6.1 j;have HR:=Z hr;have bM:=Z bo;have H1:=Z I;clear j hr bo h5 h7 bH hn I;by_cases I:x.ld=1
   .have k1:(x.ld==1)=true:=by simp[I]
    clear I;exact M0
   have k1:(x.ld==1)=false:=by simp[I]
   by_cases h3:x.ld=3
   .have k3:(x.ld==3)=true:=by simp[h3]
    clear I h3;exact M0
   have k3:(x.ld==3)=false:=by simp[h3]
   by_cases h9:x.ld=9
   .have k9:(x.ld==9)=true:=by simp[h9]
    clear I h3 h9;exact M0
   have k9:(x.ld==9)=false:=by simp[h9]
   have qd:(x.ld==11)=true:=by have:=H1.1;simp;omega
   clear I h3 h9;exact M0
  rw[jQ4 (λh=>I h.1)]at j;have k1:(x.ld==1)=false:=by simp;omega
  have k3:(x.ld==3)=false:=by simp;omega
  have k9:(x.ld==9)=false:=by simp;omega
  have qd:(x.ld==11)=false:=by simp;omega
  by_cases h7:x.ld=7
  .have k7:(x.ld==7)=true:=by simp[h7]
   have k5:(x.ld==5)=false:=by simp[h7]
   by_cases hm:x.m≠y.m
   .rw[jQ7 ⟨h7,.inl hm⟩]at j;have h:false=r:=G9 j
    subst h;have km:(x.m !=y.m)=true:=G9 hm
    clear j hm bH h7 I;exact M90
   have km:(x.m !=y.m)=false:=G9 hm
   by_cases xb:x.va≠y.va
   .rw[jQ7 ⟨h7,.inr xb⟩]at j;have h:false=r:=G9 j
    subst h;have ev:y.va=!x.va:=by revert xb;generalize x.va=a;generalize y.va=b;cases a<;>cases b<;>simp
    rw[ev]at d3;clear ev;clear j hm xb bH h7 I;exact M90
   have ev:y.va=x.va:=by revert xb;generalize x.va=a;generalize y.va=b;cases a<;>cases b<;>simp
   rw[ev]at d3;rw[jQ4 (λh=>by obtain h|h:=h.2;exact hm h;exact xb h),jQ4 (λh=>by have:=h.1;omega)]at j;obtain⟨res,hr,bo⟩:=jQ6.1 j;have HR:=Z hr;have bM:=Z bo;clear j hr bo h7 bH hm xb I ev;exact M0
  rw[jQ4 (λh=>h7 h.1)]at j;have k7:(x.ld==7)=false:=by simp[h7]
  by_cases h5:x.ld=5
  .have k5:(x.ld==5)=true:=by simp[h5]
   cases Pq:(List.zip x.li y.li).any (λp=>!aE p.1.name p.2.name||!aE p.1.gc p.2.gc)with
   |true=>
    rw[jQ7 ⟨h5,Pq⟩]at j;have h:false=r:=G9 j
    subst h;have abn:=Z Pq;clear j Pq h5 h7 bH I;go_wp21
    go_loopg [71] x.li.length (λgg s71 wr=>∃kk:Nat,kk<=x.li.length/\x.li.length - kk<=gg/\s71=.int .i64 kk/\Aside (S5 wx wr)/\Aside ((List.zip (x.li.drop kk) (y.li.drop kk)).any (λp=>!aE p.1.name p.2.name||!aE p.1.gc p.2.gc)=true))
    case atStart=>exact⟨0,jQc _,M,rfl,jQ5 _ _,by show(List.zip (x.li.drop 0) (y.li.drop 0)).any _=_;rw[jR0,jR0];exact abn.1⟩
    case round=>
     obtain⟨kk,ez,hg,rfl,BW,eD⟩:=hrel;by_cases aM:kk<x.li.length
     .have aR:(kk:Int)<(x.li.length:Int):=M
      have iY:kk<y.li.length:=M
      have yy:(kk:Int)<(y.li.length:Int):=M
      obtain⟨e,hm⟩:∃e,x.li[kk]?=some e:=⟨x.li[kk],by simp[aM]⟩;obtain⟨e',j9⟩:∃e,y.li[kk]?=some e:=⟨y.li[kk],by simp[iY]⟩;have bL:x.li.drop kk=e::x.li.drop (kk+1):=M103
      have AT:y.li.drop kk=e'::y.li.drop (kk+1):=by
       rw[jQv iY];simp[jQp iY]at j9;rw[j9]
      have eD:=eD.out;rw[bL,AT,List.zip_cons_cons,List.any_cons]at eD;rcases aN.1 CQ.1 with⟨he,_⟩|⟨_,b2,o2,c2,dN,fh,fL,du,gX⟩
      .exact M106
      simp at dN;obtain⟨rfl,rfl⟩:=dN;rcases aN.1 xo.1 with⟨Eo,_⟩|⟨IZ,bI,oy,Z3q,kZ,xm,Z4q,lM,yz⟩
      .rw[Eo]at iY;simp at iY
      simp at kZ;obtain⟨rfl,rfl⟩:=kZ;have dZ:=BW.out.size;obtain⟨ea,ec,g0,g1,g2,g3,g4,g5,g6,r5⟩:=((gX.at hm).move (jf.1.aJ BW.out) du).bR;obtain⟨AR,AS,f0,f1,f2,f3,f4,f5,f6,js⟩:=((yz.at j9).move (jf.1.aJ (BW.out.alloc dZ (bx e ea ec))) lM).bR;have dt:W.heap.size+1<wr.heap.size:=jQb dQ dZ;have oW:b2<wr.heap.size:=jQb (jf.1 _ du) dZ;obtain⟨p0,p1,p2,p3,p4,p5,p6⟩:=ao (ak wr (bx e ea ec));obtain⟨d0,d1,d2,d3,d4,d5,d6⟩:=ao (aq (o:=bx e ea ec) (aj BW.out IY.1 dQ));have qf:=Z (ej.1.trans ((BW.out.alloc dZ (bx e ea ec)).mono ej.1.size));have AU:=Z (BW.out.alloc dZ (bx e ea ec));clear bL AT hm j9 r5 js gX yz;by_cases dU:e.name=e'.name
      .by_cases xI:e.gc=e'.gc
       .exact M48
       .have hq:(!aE e.name e'.name||!aE e.gc e'.gc)=true:=by simp[aE,xI]
        have hqf:(!aE e.name e'.name||!aE e.gc e'.gc)=true:=by rw[hq,Bool.true_or]at eD;exact hq.trans eD
        have Nx:=gB dU;have Z5q:=jX xI;clear eD dU xI;exact M154
      .have hq:(!aE e.name e'.name||!aE e.gc e'.gc)=true:=by simp[aE,dU]
       have hqf:(!aE e.name e'.name||!aE e.gc e'.gc)=true:=by rw[hq,Bool.true_or]at eD;exact hq.trans eD
       have Nx:=jX dU;clear eD dU;exact M154
     .have aR:¬(kk:Int)<(x.li.length:Int):=M
      have hex:false=true:=by
       first
        |rfl
        |(have:=eD.out;rw[jQf M]at this;simpa using this)
      exact absurd hex i6
   |false=>
    rw[jQ4 (λh=>by rw[Pq]at h;exact absurd h.2 i6)]at j;obtain⟨res,hr,bo⟩:=jQ6.1 j;have HR:=Z hr;have bM:=Z bo;have abn:=Z Pq;clear j hr bo Pq h5 h7 bH I;go_wp21
    go_loopg [71] x.li.length (λgg s71 wr=>∃kk:Nat,kk<=x.li.length/\x.li.length - kk<=gg/\s71=.int .i64 kk/\Aside (S5 wx wr)/\Aside ((List.zip (x.li.drop kk) (y.li.drop kk)).any (λp=>!aE p.1.name p.2.name||!aE p.1.gc p.2.gc)=false))
    case atStart=>exact⟨0,jQc _,M,rfl,jQ5 _ _,by show(List.zip (x.li.drop 0) (y.li.drop 0)).any _=_;rw[jR0,jR0];exact abn.1⟩
    case round=>
     obtain⟨kk,ez,hg,rfl,BW,eD⟩:=hrel;by_cases aM:kk<x.li.length
     .have aR:(kk:Int)<(x.li.length:Int):=M
      have iY:kk<y.li.length:=M
      have yy:(kk:Int)<(y.li.length:Int):=M
      obtain⟨e,hm⟩:∃e,x.li[kk]?=some e:=⟨x.li[kk],by simp[aM]⟩;obtain⟨e',j9⟩:∃e,y.li[kk]?=some e:=⟨y.li[kk],by simp[iY]⟩;have bL:x.li.drop kk=e::x.li.drop (kk+1):=M103
      have AT:y.li.drop kk=e'::y.li.drop (kk+1):=by
       rw[jQv iY];simp[jQp iY]at j9;rw[j9]
      have eD:=eD.out;rw[bL,AT,List.zip_cons_cons,List.any_cons]at eD;rcases aN.1 CQ.1 with⟨he,_⟩|⟨_,b2,o2,c2,dN,fh,fL,du,gX⟩
      .exact M106
      simp at dN;obtain⟨rfl,rfl⟩:=dN;rcases aN.1 xo.1 with⟨Eo,_⟩|⟨IZ,bI,oy,Z3q,kZ,xm,Z4q,lM,yz⟩
      .rw[Eo]at iY;simp at iY
      simp at kZ;obtain⟨rfl,rfl⟩:=kZ;have dZ:=BW.out.size;obtain⟨ea,ec,g0,g1,g2,g3,g4,g5,g6,r5⟩:=((gX.at hm).move (jf.1.aJ BW.out) du).bR;obtain⟨AR,AS,f0,f1,f2,f3,f4,f5,f6,js⟩:=((yz.at j9).move (jf.1.aJ (BW.out.alloc dZ (bx e ea ec))) lM).bR;have dt:W.heap.size+1<wr.heap.size:=jQb dQ dZ;have oW:b2<wr.heap.size:=jQb (jf.1 _ du) dZ;obtain⟨p0,p1,p2,p3,p4,p5,p6⟩:=ao (ak wr (bx e ea ec));obtain⟨d0,d1,d2,d3,d4,d5,d6⟩:=ao (aq (o:=bx e ea ec) (aj BW.out IY.1 dQ));have qf:=Z (ej.1.trans ((BW.out.alloc dZ (bx e ea ec)).mono ej.1.size));have AU:=Z (BW.out.alloc dZ (bx e ea ec));clear bL AT hm j9 r5 js gX yz;by_cases dU:e.name=e'.name
      .by_cases xI:e.gc=e'.gc
       .exact M48
       .have hq:(!aE e.name e'.name||!aE e.gc e'.gc)=true:=by simp[aE,xI]
        have hqf:(!aE e.name e'.name||!aE e.gc e'.gc)=false:=by rw[hq,Bool.true_or]at eD;exact hq.trans eD
        have Nx:=gB dU;have Z5q:=jX xI;clear eD dU xI;exact absurd (hq.symm.trans hqf) i6
      .have hq:(!aE e.name e'.name||!aE e.gc e'.gc)=true:=by simp[aE,dU]
       have hqf:(!aE e.name e'.name||!aE e.gc e'.gc)=false:=by rw[hq,Bool.true_or]at eD;exact hq.trans eD
       have Nx:=jX dU;clear eD dU;exact absurd (hq.symm.trans hqf) i6
     .have aR:¬(kk:Int)<(x.li.length:Int):=M
      have hex:false=false:=by
       first
        |rfl
        |(have:=eD.out;rw[jQf M]at this;simpa using this)
      have dZ:=BW.out.size;have CQ:=Z ((CQ.1.mv jf.1 BW.out).move (D':=Up D (W.heap.size+1+1) wr.heap.size) (au.refl.wide (Up.mono (jQ0 _) dZ)));have xo:=Z ((xo.1.mv jf.1 BW.out).move (D':=Up D (W.heap.size+1+1) wr.heap.size) (au.refl.wide (Up.mono (jQ0 _) dZ)));have qM:=Z (aj BW.out qM.1 fV);have IY:=Z (aj BW.out IY.1 dQ);have ej:=Z (ej.1.trans (BW.out.mono ej.1.size));have fV:W.heap.size<wr.heap.size:=jQb fV dZ;have dQ:W.heap.size+1<wr.heap.size:=jQb dQ dZ;have jf:=Z (Up.lo (n:=W.heap.size+1+1) (m:=wr.heap.size) (oI.1.lo.mono M) M);have qg:=Z ((oI.1.mv ej.1).up (n:=W.heap.size+1+1) (oI.1.lo.mono M) M);clear c0 c1 c2 c3 c4 c5 c6 d0 d1 d2 d3 d4 d5 d6 eD hex;obtain⟨c0,c1,c2,c3,c4,c5,c6⟩:=ao qM.1;obtain⟨d0,d1,d2,d3,d4,d5,d6⟩:=ao IY.1;obtain⟨wx,R8⟩:∃wx,wx=wr:=⟨wr,rfl⟩;subst R8;exact M0
  rw[jQ4 (λh=>h5 h.1)]at j;have k5:(x.ld==5)=false:=by simp[h5]
  obtain⟨res,hr,bo⟩:=jQ6.1 j;have HR:=Z hr;have bM:=Z bo;clear j hr bo I h5 h7 bH;exact M0
