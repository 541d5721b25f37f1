import Derived.Test.YtbdgppghkdibfaaGreatDoorA12
set_option linter.all false
set_option maxHeartbeats 16000000
set_option maxRecDepth 20000
namespace Go.Proofs.YtbdgppghkdibfaaGreatDoor
open Go Go.RowKit Go.Lib S Tryz
variable{c k kk n:Nat}{D:Qx}{W:World}
def M131{GT:Prop}(h:GT:=by
 go_wp21;refine(fO _ _ hnz).mono ?_;rintro e O ⟨rfl,rfl⟩;rw[dU];go_wp2;go_ret;exact⟨rfl,FP.1.trans (Ra.1.mono FP.1.size)⟩):GT:=h
def ac0(W)(o p q s:Obj):S5 W ((((W.alloc o).alloc p).alloc q).alloc s):=(pE W o p q).alloc (by simp;omega) s
def RMC.take:∀{l:List aH} {b o:Nat},RMC D W l b o->∀m,RMC D W (l.take m) b o
 |[],_,_,_,m=>by simp[RMC]
 |x::l,b,o,hr,0=>by simp[RMC]
 |x::l,b,o,hr,m+1=>⟨hr.1,RMC.take hr.2 m⟩
def RM.take{l:List aH}{a:Option Addr}{m:Nat}(h:RM D W l (.slice a n c))(hm:m<=l.length):RM D W (l.take m) (.slice a m c):=by
 rcases h with⟨rfl,a1,c1,e,I⟩|⟨bk,b,o,c1,e,I,U,h3,h4⟩
 .simp at e;obtain⟨rfl,rfl,rfl⟩:=e;have:m=0:=G9 hm
  subst this;exact .inl ⟨i6,a,c,rfl,I⟩
 .simp at e;obtain⟨rfl,rfl,rfl⟩:=e;by_cases h0:m=0
  .subst h0;exact .inl ⟨i6,some ⟨b,o,none⟩,c,rfl,λe=>by cases e⟩
  .have hl:(l.take m).length=m:=by simp;omega
   refine .inr ⟨λe=>by rw[e]at hl;simp at hl;omega,b,o,c,by rw[hl],by rw[hl];omega,U,h3,h4.take m⟩
def aiu{d:ah}(h:∀m∈d.lw,NB m.sig/\m.name.size<=9223372036854775807){m:aH}(hm:d.lw[kk]?=some m):NB m.sig/\m.name.size<=9223372036854775807:=h m (jQ8 hm)
def VF{α:Type}(f:α->Bool)(l:List α):anyM (λa=>some (f a)) l=some (l.any f):=pJ f l
def SA(k:Nat)(w ws d)(n:Int)(r:Bool)(v W D)(j:fS k w d n=some r)(hn:NB d.gt)(dU:∀m∈d.lw,NB m.sig/\m.name.size<=9223372036854775807)(H:Cx D w ws W)(hv:VDc D W d v):
 Calls prog 14 #[ws,v,.int .i64 n] W (ef W r):=by
 obtain⟨a,c,a',c',rfl,hs,hm⟩:=hv;obtain⟨wa,wc,rfl⟩:=H.rd.form;have HA:=Z (ac0 W (CO d a c a' c') (.cells #[.int .i64 d.gt.ld] 3) (px ⟨n,false,false⟩) (px ⟨n,true,false⟩));rcases ZB j with⟨hk,rfl⟩|⟨hk,UN⟩
 .clear j H hs hm hn dU;by_cases I:d.gt.ld<1
  .have k1:(d.gt.ld<1)=True:=eq_true I;clear hk I;exact M47
  .have k1:(d.gt.ld<1)=False:=eq_false I;by_cases U:d.gt.ld=2
   .have k2:(d.gt.ld==2)=true:=by simp[U]
    clear hk I U;exact M47
   .have k2:(d.gt.ld==2)=false:=by simp[U]
    have k3:((10:Int)<d.gt.ld)=True:=eq_true M;clear hk I U;exact M47
 .have k1:(d.gt.ld<1)=False:=eq_false M;have k2:(d.gt.ld==2)=false:=by simp;omega
  have k3:((10:Int)<d.gt.ld)=False:=eq_false M;have HP:=(ui k).1;obtain⟨HX,HS,HM,wS,eQ,bS,dP⟩:=Z7 (H.mv HA.1) (hs.mv H.lo HA.1) (hm.move (H.lo.aJ HA.1)) dU (aq (o:=px ⟨n,true,false⟩) (aq (o:=px ⟨n,false,false⟩) (aq (o:=.cells #[.int .i64 d.gt.ld] 3) (ak W (CO d a c a' c'))))) (aq (o:=px ⟨n,true,false⟩) (aq (o:=px ⟨n,false,false⟩) (ak (W.alloc (CO d a c a' c')) (.cells #[.int .i64 d.gt.ld] 3)))) (aq (o:=px ⟨n,true,false⟩) (ak ((W.alloc (CO d a c a' c')).alloc (.cells #[.int .i64 d.gt.ld] 3)) (px ⟨n,false,false⟩)));simp only[jQ3]at eQ bS dP;have zI:W.heap.size<((((W.alloc (CO d a c a' c')).alloc (.cells #[.int .i64 d.gt.ld] 3)).alloc (px ⟨n,false,false⟩)).alloc (px ⟨n,true,false⟩)).heap.size:=by simp;omega
  have iT:W.heap.size+1<((((W.alloc (CO d a c a' c')).alloc (.cells #[.int .i64 d.gt.ld] 3)).alloc (px ⟨n,false,false⟩)).alloc (px ⟨n,true,false⟩)).heap.size:=by simp;try omega
  have mU:W.heap.size+1+1<((((W.alloc (CO d a c a' c')).alloc (.cells #[.int .i64 d.gt.ld] 3)).alloc (px ⟨n,false,false⟩)).alloc (px ⟨n,true,false⟩)).heap.size:=by simp;try omega
  obtain⟨b,hb,hR⟩:∃b,placed w k d.gt ⟨n,true,false⟩=some b/\((b=false/\r=false)\/(b=true/\∃rr,rangeM (pdF w k d ⟨n,false,false⟩) 0 d.lw=some rr/\
   ((rr=some r)\/(rr=none/\r=(d.lw.length==0||(d.gt.ld !=10&&eM d.gt)))))):=by
   rcases UN with⟨h,h'⟩|⟨h,h'⟩
   .exact⟨_,h,.inl ⟨rfl,h'⟩⟩
   .exact⟨_,h,.inr ⟨rfl,h'⟩⟩
  have ag:=HP w _ d.gt ⟨n,true,false⟩ b _ _ D hb hn HX.1 (RT.mk' HS.1);have HRB:=Z hR;have HP:=Z HP;clear j H hs hm hn dU hk UN hb hR;go_in;go_wp21;generalize Hr:(((W.alloc (CO d a c a' c')).alloc (.cells #[.int .i64 d.gt.ld] 3)).alloc (px ⟨n,false,false⟩)).alloc (px ⟨n,true,false⟩)=wn at HA HX HS HM eQ bS dP ag zI iT mU
  try rw[Hr]
  clear Hr;refine ag.mono ?_;rintro e w1 ⟨rfl,ar⟩;have gj:=ar.size;obtain⟨HA,HS,HM,HX,eQ,bS,dP⟩:=Z7 (HA.1.trans (ar.mono HA.1.size)) (HS.1.mv HX.1.lo ar) (HM.1.move (HX.1.lo.aJ ar)) (HX.1.mv ar) (aj ar eQ.1 zI) (aj ar bS.1 iT) (aj ar dP.1 mU);clear ar ag;rcases HRB.1 with⟨rfl,rfl⟩|⟨rfl,rr,Ay,II⟩
  .go_wp2;go_ret;exact⟨rfl,HA.1⟩
  obtain⟨b0, -, -, -, -, -, -,b7⟩:=nH eQ.1;have Hq:=Z Ay;have IJ:=Z II;have Ed:W.heap.size<w1.heap.size:=M
  have fP:W.heap.size+1<w1.heap.size:=M
  have nT:W.heap.size+1+1<w1.heap.size:=M
  have ZL:d.lw.length<=9223372036854775807:=by
   rcases HM.1 with⟨he,_⟩|⟨_,b,o,q,he,I,U,_⟩
   .rw[he];simp
   .omega
  clear zI iT mU gj Ay II HRB;go_wp21;clear b0 b7
  go_loopg [10,11,12,13,42] d.lw.length (λgg _ _ _ _ s42 wr=>∃kk:Nat,kk<=d.lw.length/\d.lw.length - kk<=gg/\s42=.int .i64 kk/\Aside (S5 w1 wr)/\Aside (rangeM (pdF w k d ⟨n,false,false⟩) kk (d.lw.drop kk)=some rr))
  case atStart=>exact⟨0,jQc _,M,rfl,jQ5 _ _,by rw[jR0];exact Hq.1⟩
  case round=>
   obtain⟨kk,ez,hg,rfl,BW,A⟩:=hrel;have dZ:=BW.out.size;have Ks:W.heap.size<wr.heap.size:=M
   have cz:W.heap.size+1<wr.heap.size:=M
   have eX:W.heap.size+1+1<wr.heap.size:=M
   obtain⟨FP,pA,HSr,HMr,Sz,agj,aiv⟩:=Z7 (HA.1.trans (BW.out.mono HA.1.size)) (HX.1.mv BW.out) (HS.1.mv HX.1.lo BW.out) (HM.1.move (HX.1.lo.aJ BW.out)) (aj BW.out eQ.1 Ed) (aj BW.out bS.1 fP) (aj BW.out dP.1 nT);obtain⟨b0,b1,b2,b3,b4,b5,b6,b7⟩:=nH Sz.1;obtain⟨d0,d1,d2⟩:=nQ aiv.1;have kc:=jQh agj.1;by_cases aM:kk<d.lw.length
   .have aR:(kk:Int)<(d.lw.length:Int):=M
    obtain⟨m,uD⟩:∃m,d.lw[kk]?=some m:=⟨d.lw[kk],by simp[aM]⟩;have ie:=kW (drop_at uD) A.out;have ac1:=aiu wS.1 uD;rcases HMr.1 with⟨he,_⟩|⟨_,bm,om,cm',dN,fh,fL,kN,hC⟩
    .exact M106
    simp at dN;obtain⟨rfl,rfl⟩:=dN;obtain⟨f0,f1,hE⟩:=hC.at uD;obtain⟨sa,sc,f2,f3,f4,f5,f6,f7,f8,iL⟩:=hE.bR;have j6:bm<wr.heap.size:=pA.1.lo _ kN;have dt:∃x,pdF w k d ⟨n,false,false⟩ kk m=some x/\((x=some r/\True)\/(x=none/\rangeM (pdF w k d ⟨n,false,false⟩) (kk+1) (d.lw.drop (kk+1))=some rr)):=M101
    obtain⟨x,Lj,dF⟩:=dt;obtain⟨Km,kp,Ra⟩:=Z3 iL dF (an wr (mbx m sa sc));have hnz:=ac1.2;have HNB:=Z ac1.1;clear hE hC iL uD ie A dF ac1;rcases QS Lj with⟨dU,rfl⟩|⟨dU,h7,rfl⟩|⟨dU,h7,OF⟩
    .have hr:r=false:=by rcases kp.1 with⟨h,_⟩|⟨h,_⟩<;>simp at h;exact h
     subst hr;clear Lj;exact M131
    .have hr:r=false:=by rcases kp.1 with⟨h,_⟩|⟨h,_⟩<;>simp at h;exact h
     subst hr;have k7:(m.sig.ld !=7)=true:=by simp[h7]
     clear Lj h7;exact M131
    .have k7:(m.sig.ld !=7)=false:=by simp[h7]
     clear Lj h7;go_wp21;refine(fO _ _ hnz).mono ?_;rintro e O ⟨rfl,rfl⟩;rw[dU];obtain⟨bp,hbp,OF⟩:∃bp,placed w k m.sig ⟨n,false,false⟩=some bp/\((bp=false/\x=some false)\/(bp=true/\(((d.lw.take kk).any (λx=>aE x.name m.name)=true/\x=some false)\/((d.lw.take kk).any (λx=>aE x.name m.name)=false/\
      ((d.gt.li.any (λf=>d.gt.ld==5&&aE f.name m.name)=true/\x=some false)\/(d.gt.li.any (λf=>d.gt.ld==5&&aE f.name m.name)=false/\x=none)))))):=by
      rcases OF with⟨h,h'⟩|⟨h,h'⟩
      .exact⟨_,h,.inl ⟨rfl,h'⟩⟩
      .exact⟨_,h,.inr ⟨rfl,h'⟩⟩
     have HCS:=Z OF;have ag:=HP.1 w _ m.sig ⟨n,false,false⟩ bp _ _ D hbp HNB.1 (pA.1.mv Ra.1) (Km.1.mv pA.1.lo Ra.1);clear OF hbp;go_wp21;refine ag.mono ?_;rintro e w2 ⟨rfl,cX⟩;have j7:=cX.size;simp only[jQ3]at j7;have HB:=Z (Ra.1.trans (cX.mono Ra.1.size));have KF:=Z (aj cX (ak wr (mbx m sa sc)) i6);clear cX ag;obtain⟨ac4,HS2,rG,HK2⟩:=Z4 (pA.1.mv HB.1) (HSr.1.mv pA.1.lo HB.1) (HMr.1.move (pA.1.lo.aJ HB.1)) (jQh (aj HB.1 agj.1 cz));obtain⟨g0, -, -, -, -, -,g6,g7⟩:=nH (aj HB.1 Sz.1 Ks);clear b0 b1 b2 b3 b4 b5 b6 b7 d0 d1 d2 kc f0 f1 f2 f3 f4 f5 f6 f7 f8;rcases HCS.1 with⟨rfl,rfl⟩|⟨rfl,OF⟩
     .have hr:r=false:=by rcases kp.1 with⟨h,_⟩|⟨h,_⟩<;>simp at h;exact h
      subst hr;go_wp2;go_ret;exact⟨rfl,FP.1.trans (HB.1.mono FP.1.size)⟩
     obtain⟨ba,Wn⟩:∃ba,(d.lw.take kk).any (λx=>aE x.name m.name)=ba:=⟨_,rfl⟩;obtain⟨bf,X7⟩:∃bf,d.gt.li.any (λf=>d.gt.ld==5&&aE f.name m.name)=bf:=⟨_,rfl⟩;rw[Wn,X7]at OF;have ag:=yG (d.lw.take kk) (.slice (some ⟨bm,om,none⟩) kk c') w2 D (rG.1.take ez) ac4.1.lo 36 #[.pointer (some ⟨wr.heap.size,0,none⟩)] Tryz.call36 (λx=>some (aE x.name m.name))
      (λW1 t v bb hb _ hv j=>by
       have:=aiw t m v W1 D wr.heap.size hv (aj hb KF.1 M);simp at j;subst j;exact this) ba (by rw[<-Wn];exact VF _ _)
     have vD:=Z OF;have HBF:=Z X7;have D8:=uW;have yV:kk<=d.lw.length:=ez;clear OF Wn X7;go_wp21;refine ag.mono ?_;rintro e w3 ⟨rfl,aZ⟩;have JD:=aZ.size;obtain⟨kL,tW,C9,HK3,aix⟩:=Z5 (HB.1.trans (aZ.mono HB.1.size)) (ac4.1.mv aZ) (HS2.1.mv ac4.1.lo aZ) ((aZ.cell (p:=⟨W.heap.size+1,0,none⟩) (by simp only;omega)).trans HK2.1) (aj aZ KF.1 M);clear g0 g6 g7;obtain⟨g0, -, -, -, -, -,g6,g7⟩:=nH (aj aZ (aj HB.1 Sz.1 Ks) M);clear aZ ag;rcases vD.1 with⟨rfl,rfl⟩|⟨rfl,OF⟩
     .have hr:r=false:=by rcases kp.1 with⟨h,_⟩|⟨h,_⟩<;>simp at h;exact h
      subst hr;go_wp2;go_ret;exact⟨rfl,FP.1.trans (kL.1.mono FP.1.size)⟩
     have ag:=cL d.gt.li _ w3 D C9.1 tW.1.lo 37 #[.pointer (some ⟨W.heap.size+1,0,none⟩),.pointer (some ⟨wr.heap.size,0,none⟩)] Tryz.call37 (λf:Y=>some (d.gt.ld==5&&aE f.name m.name))
      (λW1 t v bb hb _ hv j=>by
       have:=aiy t d.gt.ld m v W1 D (W.heap.size+1) wr.heap.size hv ((hb.cell (p:=⟨W.heap.size+1,0,none⟩) (by simp only;omega)).trans HK3.1) (aj hb aix.1 M);simp only[Option.some.injEq]at j;subst j;exact this) bf (by rw[<-HBF.1];exact pJ (λf:Y=>d.gt.ld==5&&aE f.name m.name) _)
     have aiz:=Z OF;clear OF;go_wp21;refine ag.mono ?_;rintro e w4 ⟨rfl,dI⟩;have xL:=Z (kL.1.trans (dI.mono kL.1.size));clear dI ag;rcases aiz.1 with⟨rfl,rfl⟩|⟨rfl,rfl⟩
     .have hr:r=false:=by rcases kp.1 with⟨h,_⟩|⟨h,_⟩<;>simp at h;exact h
      subst hr;go_wp2;go_ret;exact⟨rfl,FP.1.trans (xL.1.mono FP.1.size)⟩
     .have IK:rangeM (pdF w k d ⟨n,false,false⟩) (kk+1) (d.lw.drop (kk+1))=some rr:=by
       rcases kp.1 with⟨h,_⟩|⟨_,h⟩
       .cases h
       .exact h
      have HN:=Z IK;clear IK;go_wp21;go_roundg (d.lw.length - (kk+1))
      case measure=>omega
      case rel=>exact⟨kk+1,M,M,by go_num,BW.out.trans (xL.1.mono dZ),HN.1⟩
   .have aR:¬(kk:Int)<(d.lw.length:Int):=M
    have hA:=A.out;rw[jQf M,rangeM]at hA;have SB:rr=none:=G9 hA.symm
    subst SB;have hr:r=(d.lw.length==0||(d.gt.ld !=10&&eM d.gt)):=M178
    have ag:=uT d.gt _ wr D (RT.mk' HSr.1);clear hA A aM ez hg ZL;have hL:∀l:Nat,((l:Int)==0)=(l==0):=λl=>by cases l<;>rfl
    have HL:=Z hL;clear hL;go_wp21
    .go_ret;exact⟨rfl,FP.1⟩
    .go_ret;exact⟨congrArg (λb=>Ending.returned (.bool b)) (HL.1 _),FP.1⟩
    .refine ag.mono ?_;rintro e w5 ⟨rfl,iD⟩;have xx:=Z iD;clear iD ag;go_wp2;go_ret;exact⟨(show Ending.returned (.bool (((d.lw.length:Int)==0)||((d.gt.ld !=10)&&eM d.gt)))=Ending.returned (.bool r)by rw[hr,HL.1]),FP.1.trans (xx.1.mono FP.1.size)⟩
def aam(D:Qx)(W:World)(g:Nat)(lb:Array Value)(zs:List ah)(p:ah->Option Bool):Prop:=
 ∀(W1:World) (t:ah) (v:Value) (bb:Bool),S5 W W1->t∈zs->VDc D W1 t v->p t=some bb->
  Calls prog g (#[v]++lb) W1 λe W2=>e=.returned (.bool bb)/\S5 W1 W2
def L7(zs sl W D)(hs:RD D W zs sl)(hD:Lo D W.heap.size)(g:Nat)(lb:Array Value)(eg:∀args w,(callFunc g args).run prog w=.ok (.enter g args) w)(p:ah->Option Bool)(j:aam D W g lb zs p)(r:Bool)(hr:anyM p zs=some r):
 Calls prog 41 #[sl,.func (.func g) #[] lb] W (abF W r):=by
 rcases hs with⟨rfl,a,c,rfl,ha⟩|⟨bk,b,o,c,rfl,Jd,hc,kN,hC⟩
 .exact M39
 .have hz:zs.length<=9223372036854775807:=M
  have hbW:=kN;go_in;go_wp2
  go_loopg [5,8] zs.length (λgg _ s8 wr=>∃kk:Nat,kk<=zs.length/\zs.length - kk<=gg/\s8=.int .i64 kk/\Aside (S5 W wr)/\Aside (anyM p (zs.drop kk)=some r))
  case atStart=>exact⟨0,jQc _,M,rfl,jQ5 _ W,by simpa[Aside]using hr⟩
  case round=>
   obtain⟨kk,ez,hg,rfl,BW,A⟩:=hrel;by_cases aM:kk<zs.length
   .have aR:(kk:Int)<(zs.length:Int):=M
    obtain⟨t,ht⟩:∃t,zs[kk]?=some t:=⟨zs[kk],by simp[aM]⟩;obtain⟨hE,ms,n7,jK⟩:=(RDC.move (hD.aJ BW.out) (BW.out.block b kN) hC).at ht;obtain⟨am,cm,rfl⟩:=jK.form;obtain⟨a1,q1,c0,c1,c2,c3,c4,c5,c6,hv⟩:=hE.bR;obtain⟨a1',q1',e',VS⟩:=hv.bR;simp at e';obtain⟨rfl,rfl⟩:=e';have bL:zs.drop kk=t::zs.drop (kk+1):=M187
    have hA:=A.out;rw[bL,anyM]at hA;obtain⟨bb,mO,hA2⟩:=jQ1.1 hA;have ag:=j wr t _ bb BW.out (jQ8 ht) ⟨a1,q1,am,cm,rfl,VS,jK⟩ mO;clear hE hA j hr hv ht VS hC jK;exact M19
   .exact M52
def IL(zs sl W D)(hs:RD D W zs sl)(hD:Lo D W.heap.size)(g:Nat)(lb:Array Value)(eg:∀args w,(callFunc g args).run prog w=.ok (.enter g args) w)(p:ah->Option Bool)(j:aam D W g lb zs p)(r:Bool)(hr:anyM p zs=some r):
 Calls prog 15 #[sl,.func (.func g) #[] lb] W λe W'=>e=.returned (.bool r)/\S5 W W':=by
 go_in;go_wp2_with (go_at_call 41;refine(L7 zs sl W D hs hD g lb eg p j r hr).mono ?_;rintro e O ⟨q,rfl,hq,hb⟩);go_ret;exact⟨by simp[<-hq],hb⟩
def mdC(k:Nat)(ih:mi k)(w ws)(m:aH)(r:Bool)(v W D)(Bw:Nat)(j:bh (gT w k m.sig false)=some r)(H:Cx D w ws W)(hv:VM D W m v)(hB:ce W Bw 0 ws):
 Calls prog 42 #[v,.pointer (some ⟨Bw,0,none⟩)] W (ef W r):=by
 have lR:=jQs hB;simp only at lR;obtain⟨b,hb,rfl⟩:=jQ6.1 j;obtain⟨a,c,rfl,hs⟩:=hv;obtain⟨wa,wc,rfl⟩:=H.rd.form;have HA:=Z (an W (mbx m a c));have ag:=ih w _ m.sig false b _ _ D hb (H.mv HA.1) (RT.mk' (hs.mv H.lo HA.1));clear j H hs hb;exact M6
def y9(k:Nat)(ih:mi k)(w ws d)(r:Bool)(v W D)(j:fB k w d=some r)(H:Cx D w ws W)(hv:VDc D W d v):Calls prog 17 #[ws,v] W (ef W r):=by
 obtain⟨a,c,a',c',rfl,hs,hm⟩:=hv;obtain⟨wa,wc,rfl⟩:=H.rd.form;have HA:=Z (dT W (.cells #[.slice wa w.length wc] 22) (CO d a c a' c'));have fw:=jQh (aq (o:=CO d a c a' c') (ak W (.cells #[.slice wa w.length wc] 22)));have HD:=Z (ak (W.alloc (.cells #[.slice wa w.length wc] 22)) (CO d a c a' c'));simp only[jQ3]at HD;have HX:=Z (H.mv HA.1);have HM:=Z (hm.move (H.lo.aJ HA.1));have Fh:=RT.mk' (hs.mv H.lo HA.1);unfold fB at j;rcases cY j with⟨I,rfl⟩|⟨I,h3⟩
 .have ag:=ih w _ d.gt true false _ _ D I HX.1 Fh;clear j H hs hm Fh I;exact M6
 .have ag:=ih w _ d.gt true true _ _ D I HX.1 Fh;have dP:=Z fw;have H3:=Z h3;clear j H hs hm Fh I h3 fw;go_in;go_wp21;refine ag.mono ?_;rintro e w1 ⟨rfl,ar⟩;have HB:=Z (HA.1.trans (ar.mono HA.1.size));have Lc:∀w2,S5 w1 w2->ce w2 W.heap.size 0 (.slice wa w.length wc):=λw2 hb=>
   ((ar.trans (hb.mono ar.size)).cell (p:=⟨W.heap.size,0,none⟩) (by simp;omega)).trans dP.1
  obtain⟨b0, -, -, -, -, -, -,b7⟩:=nH (aj ar HD.1 i6);have oT:=Z (HX.1.mv ar);have ag:=yG d.lw _ w1 D (HM.1.move (HX.1.lo.aJ ar)) oT.1.lo 42 #[.pointer (some ⟨W.heap.size,0,none⟩)] Tryz.call42 (λm=>bh (gT w k m.sig false))
   (λW1 t v bb hb _ hv j=>mdC k ih w _ t bb v W1 D W.heap.size j (oT.1.mv hb) hv (Lc W1 hb)) (!r) (aX H3.1)
  have D8:=uW;clear ar Lc;go_wp21;refine ag.mono ?_;rintro e w2 ⟨rfl,cX⟩;have Ky:=Z (HB.1.trans (cX.mono HB.1.size));clear cX ag;go_wp2;go_ret;exact⟨i6,Ky.1⟩
def NBD(d:ah):Prop:=NB d.gt/\∀m∈d.lw,NB m.sig/\m.name.size<=9223372036854775807
def vaF(w:List ah)(k:Nat)(i:Nat)(d:ah):Option (Option Bool):=(fS k w d i).map λb=>if b then none else some false
def Lr{w:List ah}{r:Bool}(h:valid k w=some r):∃rr,rangeM (vaF w k) 0 w=some rr/\((rr=some r)\/(rr=none/\bh (anyM (λd=>bh (fB k w d)) w)=some r)):=by
 unfold valid at h;obtain⟨rr,I,U⟩:=jQ1.1 h;refine⟨rr,I,?_⟩;cases rr with
 |some b=>exact .inl U
 |none=>exact .inr ⟨rfl,U⟩
def vaC(k:Nat)(ih:mi k)(w ws d)(r:Bool)(v W D)(Bw:Nat)(j:bh (fB k w d)=some r)(H:Cx D w ws W)(hv:VDc D W d v)(hB:ce W Bw 0 ws):
 Calls prog 16 #[v,.pointer (some ⟨Bw,0,none⟩)] W (ef W r):=by
 have lR:=jQs hB;simp only at lR;obtain⟨b,hb,rfl⟩:=jQ6.1 j;obtain⟨a,c,a',c',rfl,hs,hm⟩:=hv;obtain⟨wa,wc,rfl⟩:=H.rd.form;have HA:=Z (an W (CO d a c a' c'));have ag:=y9 k ih w _ d b _ _ D hb (H.mv HA.1) ⟨a,c,a',c',rfl,hs.mv H.lo HA.1,hm.move (H.lo.aJ HA.1)⟩;clear j H hs hm hb;exact M6
def nh(k:Nat)(ez:(k:Int)+1<=1125899906842624)(w ws)(r:Bool)(W D)(j:valid k w=some r)(hn:∀d∈w,NBD d)(H:Cx D w ws W):
 Calls prog 8 #[ws] W (ef W r):=by
 have Q2:=Z (xw k ez).1;obtain⟨rr,Ay,II⟩:=Lr j;obtain⟨wa,wc,rfl⟩:=H.rd.form;have HA:=Z (an W (.cells #[.slice wa w.length wc] 22));obtain⟨eQ,HX,Hq,IJ,HN⟩:=Z5 (ak W (.cells #[.slice wa w.length wc] 22)) (H.mv HA.1) Ay II hn;have ZL:w.length<=9223372036854775807:=by
  rcases H.rd with⟨he,_⟩|⟨_,b,o,q,he,I,U,_⟩
  .rw[he];simp
  .omega
 have Ed:W.heap.size<(W.alloc (.cells #[.slice wa w.length wc] 22)).heap.size:=i6
 clear j H Ay II hn ez;go_in;go_wp21;generalize Hr:W.alloc (.cells #[.slice wa w.length wc] 22)=w1 at HA HX eQ Ed
 try rw[Hr]
 clear Hr
 go_loopg [3,4,7] w.length (λgg _ _ s7 wr=>∃kk:Nat,kk<=w.length/\w.length - kk<=gg/\s7=.int .i64 kk/\Aside (S5 w1 wr)/\Aside (rangeM (vaF w k) kk (w.drop kk)=some rr))
 case atStart=>exact⟨0,jQc _,M,rfl,jQ5 _ _,by rw[jR0];exact Hq.1⟩
 case round=>
  obtain⟨kk,ez,hg,rfl,BW,A⟩:=hrel;have dZ:=BW.out.size;have Ks:W.heap.size<wr.heap.size:=M
  obtain⟨FP,pA,Sz⟩:=Z3 (HA.1.trans (BW.out.mono HA.1.size)) (HX.1.mv BW.out) (aj BW.out eQ.1 Ed);have b0:=jQh Sz.1;by_cases aM:kk<w.length
  .have aR:(kk:Int)<(w.length:Int):=M
   obtain⟨d,uD⟩:∃d,w[kk]?=some d:=⟨w[kk],by simp[aM]⟩;have ie:=kW (drop_at uD) A.out;have Xd:=Z (HN.1 d (jQ8 uD));rcases pA.1.rd with⟨he,_⟩|⟨_,bm,om,cm',dN,fh,fL,kN,hC⟩
   .exact M106
   simp at dN;obtain⟨rfl,rfl⟩:=dN;obtain⟨hE,ms,f7,jK⟩:=hC.at uD;obtain⟨am,cm,rfl⟩:=jK.form;obtain⟨sa,sc,f0,f1,f2,f3,f4,f5,f6,iL⟩:=hE.bR;have j6:bm<wr.heap.size:=kN;obtain⟨x,hpd,dF⟩:∃b,fS k w d kk=some b/\((b=false/\r=false)\/(b=true/\rangeM (vaF w k) (kk+1) (w.drop (kk+1))=some rr)):=by
    rcases ie with⟨b,I,U⟩|⟨I,U⟩
    .obtain⟨b',h3,h4⟩:=jQ6.1 I;cases b' with
     |true=>simp at h4
     |false=>
      refine⟨_,h3,.inl ⟨rfl,?_⟩⟩;simp at h4;subst h4;obtain h|⟨h,_⟩:=IJ.1
      .rw[U]at h;simpa using h.symm
      .rw[U]at h;cases h
    .obtain⟨b',h3,h4⟩:=jQ6.1 I;cases b' with
     |false=>simp at h4
     |true=>exact⟨_,h3,.inr ⟨rfl,U⟩⟩
   have kp:=Z dF;have Ra:=Z (an wr (CO d sa sc am cm));obtain⟨sa',sc',e',oC⟩:=iL.bR;simp at e';obtain⟨rfl,rfl⟩:=e';have ag:=SA k w _ d kk x _ _ D hpd Xd.1.1 Xd.1.2 (pA.1.mv Ra.1) ⟨sa,sc,am,cm,rfl,oC.mv pA.1.lo Ra.1,jK.move (pA.1.lo.aJ Ra.1)⟩;clear hE hC iL oC jK uD ie A dF hpd;go_wp21;refine ag.mono ?_;rintro e w3 ⟨rfl,aZ⟩;have kL:=Z (Ra.1.trans (aZ.mono Ra.1.size));clear aZ ag;rcases kp.1 with⟨rfl,rfl⟩|⟨rfl,IK⟩
   .go_wp2;go_ret;exact⟨rfl,FP.1.trans (kL.1.mono FP.1.size)⟩
   .have nb:=Z IK;clear IK;go_wp21;go_roundg (w.length - (kk+1))
    case measure=>omega
    case rel=>exact⟨kk+1,M,M,by go_num,BW.out.trans (kL.1.mono dZ),nb.1⟩
  .have aR:¬(kk:Int)<(w.length:Int):=M
   have hA:=A.out;rw[jQf M,rangeM]at hA;have SB:rr=none:=G9 hA.symm
   subst SB;have qD:bh (anyM (λd=>bh (fB k w d)) w)=some r:=M178
   have ag:=IL w _ wr D pA.1.rd pA.1.lo 16 #[.pointer (some ⟨W.heap.size,0,none⟩)] Tryz.call16 (λd=>bh (fB k w d))
    (λW1 t v bb hb _ hv j=>vaC k Q2.1 w _ t bb v W1 D W.heap.size j (pA.1.mv hb) hv ((hb.cell (p:=⟨W.heap.size,0,none⟩) Ks).trans b0)) (!r) (aX qD)
   have D8:=uW;clear hA A aM ez hg ZL qD;go_wp21;refine ag.mono ?_;rintro e w5 ⟨rfl,iD⟩;have xx:=Z iD;clear iD ag;go_wp2;go_ret;exact⟨i6,FP.1.trans (xx.1.mono FP.1.size)⟩
def KO(k:Nat)(hk:(k:Int)+1<=1125899906842624)(w ws l)(r:Bool)(v W D)(j:fy (valid k w) (nZ k w l)=some r)(Uu:∀d∈w,NBD d)(hn:∀e∈l,NB e)(H:Cx D w ws W)(hv:RS D W l v):
 Calls prog 5 #[ws,v] W (ef W r):=by
 have hM:=xw k hk;obtain⟨wa,wq,rfl⟩:=H.rd.form;obtain⟨a,c,rfl⟩:=hv.form;rcases cY j with⟨I,rfl⟩|⟨I,U⟩
 .have ag:=nh k hk w _ false W D I Uu H;clear j H hv hn Uu I hM;go_in;go_wp21;refine ag.mono ?_;rintro e w1 ⟨rfl,ar⟩;have HB:=Z ar;exact M218
 .have ag:=nh k hk w _ true W D I Uu H;have HC:=Z<|λ(w1:World) (ar:S5 W w1)=>Ci k hM.1 w _ l r _ w1 D U hn (H.mv ar) (hv.mv H.lo ar);clear j H hv hn Uu I U hM;go_in;go_wp21;refine ag.mono ?_;rintro e w1 ⟨rfl,ar⟩;have bS:=Z ar;have ag:=HC.1 w1 ar;clear ar;go_wp21;refine ag.mono ?_;rintro e w2 ⟨rfl,cX⟩;have HB:=Z (bS.1.trans (cX.mono bS.1.size));clear cX ag;exact M40
def Ab(t v W D)(I:t.name.size<=2147483647)(U:t.gc.size<=2147483647)(h3:t.li.length<=2147483647)(hv:RT D W t v):
 Calls prog 4 #[v] W (ef W true):=by
 obtain⟨a,c,rfl,hs⟩:=hv.bR;have HA:=Z (an W (bx t a c));have g1:((2147483647:Int)<(t.name.size:Int))=False:=eq_false M;have g2:((2147483647:Int)<(t.gc.size:Int))=False:=eq_false M;have g3:((2147483647:Int)<(t.li.length:Int))=False:=eq_false M;clear hs hv I U h3;exact M47
