import Derived.BigQuiet
import Derived.Deep.QuietTactic
import Derived.Ground.SlsfProg
import Derived.Lib.SliceRun
import Derived.Maps.AppendAt
import Derived.Shelf.RegionOpenPlain
import Derived.Shelf.SlSortCmp.NoneTotal
import Derived.Sort.OwnSorted
import Derived.Test.YtbdgppghkdibfaaGreatDoorA04
set_option linter.all false
set_option maxHeartbeats 16000000
set_option maxRecDepth 20000
namespace Go.Proofs.YtbdgppghkdibfaaGreatDoor
open Go Go.RowKit Go.Lib S Tryz Go.Sort
variable{a:Act}{os:Array Obj}{ops:Array Oper}{Q:Exit->Act->World->Prop}{t:Y}{d l r:List Y}{rest:List Oper}{B base' cm g i n:Nat}{D E F:Qx}{o:Oper}{am:Option Addr}{GT:Prop}{v v0 v1 v2:Value}{W W' w:World}
def M103(h:GT:=by
 rw[jQv aM];simp[jQp aM]at hm;rw[hm]):GT:=h
def M108(h:GT:=by
 obtain⟨xs,I,U,h3⟩:=h;refine⟨xs,⟨I.1,?_⟩,U,h3⟩;obtain h0|⟨g,cap,cur,e,hg,rest⟩:=I.2
 .exact .inl h0
 .exact .inr ⟨g,cap,cur,e,jQd hb hg,rest⟩):GT:=h
def M109(h:GT:=by
 go_in;go_wp2;go_ret;exact⟨rfl,an _ _⟩):GT:=h
def M117(h:GT:=by
 clear h5;go_wp21;refine ag.mono ?_;rintro e w3 ⟨rfl,aZ⟩;have HD:=Z (HC.1.trans (aZ.mono HC.1.size));clear aZ;go_wp2;go_ret;exact⟨i6,HD.1⟩):GT:=h
def M13(h:GT:=by
 have cF:l0.length+[m.sig.setName m.name].length<=1099511627776:=by
  have:=congrArg List.length qk;simp only[jQo,jR7]at this⊢;omega
 have cS:W.heap.size<=(w5.alloc (.cells #[.int .i64 m.sig.ld,.int .i64 m.sig.n,.int .i64 m.sig.m,.bool m.sig.va,.string m.name,.string m.sig.gc,.slice sa m.sig.li.length sc] 25)).heap.size:=TW.1.size;have hDD:∀b,D b->b<(w5.alloc (.cells #[.int .i64 m.sig.ld,.int .i64 m.sig.n,.int .i64 m.sig.m,.bool m.sig.va,.string m.name,.string m.sig.gc,.slice sa m.sig.li.length sc] 25)).heap.size/\some b≠u6.ownBlock:=λb hb=>by
  refine⟨jQb (HX.1.lo b hb) cS,λe=>?_⟩;have:=(eK.1.lt b e.symm).1;have:=HX.1.lo b hb;omega
 have HH:=Z (And.intro lj (And.intro Vt (And.intro Zw (And.intro Cy (And.intro cF (And.intro cS (And.intro hDD qk)))))));clear kC lj Vt Zw Cy qk cF cS hDD q0 q1 q2 q3 q4 q5 q6 q7 q8 h4 h3 h3';go_wp2_with (at_builtin;refine E9 rfl _ _ rfl W.heap.size u6 l0 xs rfl HH.1.1 D HH.1.2.1 ⟨w5.heap.size,0,none⟩ _ [m.sig.setName m.name] _ rfl HH.1.2.2.1 HH.1.2.2.2.1 HH.1.2.2.2.2.1 HH.1.2.2.2.2.2.1 HH.1.2.2.2.2.2.2.1 ?_);intro v7 w7 xs7 bF Vu uA;have B7:=Z (TW.1.grown uA TW.1.size (λk hk=>(eK.1.lt k hk).1));have H7:=Z (And.intro bF Vu);clear bF Vu uA;go_wp21;go_roundg (d.lw.length - (kk+1))
 case measure=>omega
 case rel=>exact⟨kk+1,M,M,by go_num,B7.1,l0++[m.sig.setName m.name],xs7,by simpa using H7.1.1,H7.1.2,HH.1.2.2.2.2.2.2.2⟩):GT:=h
def M130(h:GT:=by
 have X4:=jQ2 Ez;obtain⟨c0,c1,c2,c3,c4,c5,c6⟩:=ao Ez;obtain⟨a,c,rfl,hs⟩:=hv.bR;have HA:=Z (an W (bx f a c));clear hv hs Ez;exact M35):GT:=h
def M132(h:GT:=by
 go_wp2;go_ret;exact⟨rfl,dP.1.alloc M _⟩):GT:=h
def M136(h:GT:=by
 obtain⟨xs,I,U,_⟩:=h;exact⟨xs,I,U.move (au.refl.wide hE),hF⟩):GT:=h
def M142(h:GT:=by
 go_wp21;refine ag.mono ?_;rintro e w2 ⟨rfl,cX⟩;have HD:=Z (HC.1.trans (cX.mono (by simp;omega)));clear cX;exact M82):GT:=h
def M143(h:GT:=by
 go_wp21;go_roundg (s.size - (kk+1))
 case measure=>omega
 case rel=>exact⟨kk+1,M,M,by go_num,rfl,HA.1⟩):GT:=h
def M145(h:GT:=by
 go_wp21;refine ag.mono ?_;rintro e w3 ⟨rfl,aZ⟩;have HD:=Z (HB.1.trans (aZ.mono HB.1.size));clear aZ ag;exact M82):GT:=h
def M146(h:GT:=by
 go_wp21;refine ag.mono ?_;rintro e w6 ⟨rfl,gS⟩;have HD:=Z (xx.1.trans (gS.mono xx.1.size));clear gS ag;exact M82):GT:=h
def M156(h:GT:=by
 have hm:au E E w O:=λb hb=>⟨hb,U.block b (hE b hb).1 (hE b hb).2⟩;exact RV.append (vY.move hm) (nr.move hm)):GT:=h
def M173(h:GT:=by
 by_cases hj:hp=0
 .subst hj;simpa[Addr.add]using hc 0 u hu
 .simpa[Addr.add,hj]using hc hp u hu):GT:=h
def M174(h:GT:=by
 clear h;go_in;go_wp2;go_ret;exact⟨rfl,0,_,by rw[alloc_eq_grow,alloc_eq_grow,grow_grow];rfl⟩):GT:=h
def M175(h:GT:=by
 have ag:=ih w _ t p r _ _ D j hn (H.mv HA.1) (hv.mv H.lo HA.1);clear j H hv hs hn;exact M6):GT:=h
def M177(h:GT:=by
 obtain⟨xs,_,_,h⟩:=h;exact λb hb=>(h b hb).1):GT:=h
def M185(h:GT:=by
 go_in;go_wp2;go_ret;exact⟨by simp;omega,rfl⟩):GT:=h
def M194(h:GT:=by
 rcases hM with⟨he,_⟩|⟨_,b2,o2,c2,dN,fh,fL,du,gX⟩
 .rw[he];simp
 .omega):GT:=h
def M195(h:GT:=by
 clear j dA;go_wp2;go_ret;exact⟨_,rfl,ia.2 ⟨none,0,rfl,λ_=>rfl⟩,HB.1⟩):GT:=h
def M198(h:GT:=by
 have:=HR0.1;rw[List.filter_cons_of_pos (by simpa using lD)]at this;exact M152):GT:=h
def M212(h:GT:=by
 have H2:=Z U;clear U Dp I8;go_wp2;go_ret;exact⟨_,rfl,H2.1,B2.1⟩):GT:=h
def M218(h:GT:=by
 clear ar ag;exact M40):GT:=h
def M24(h:GT:=by
 go_in;go_wp21;refine ag.mono ?_;rintro e w1 ⟨rfl,ar⟩;have HB:=Z (HA.1.trans (ar.mono HA.1.size));clear ar ag;exact M97):GT:=h
def M32(h:GT:=by
 have lR:=jQs hB;have hBp:=jQ2 hP;simp only at lR;obtain⟨b,hb,rfl⟩:=jQ6.1 j;obtain⟨c0,c1,c2⟩:=nQ hP;obtain⟨a,c,rfl,hs⟩:=hv.bR;obtain⟨wa,wc,rfl⟩:=H.rd.form;have HA:=Z (an W (bx e a c));have ag:=ih w _ e p b _ _ D hb hn (H.mv HA.1) (hv.mv H.lo HA.1);clear j H hv hs hb hn;exact M6):GT:=h
def M35(h:GT:=by
 by_cases hn:f.name=m.name
 .have iK:=gB hn;have hr:aE f.name m.name=true:=by simp[aE,hn]
  rw[hr];clear hn hr;exact M47
 .have iK:=jX hn;have hr:aE f.name m.name=false:=by simp[aE,hn]
  rw[hr];clear hn hr;exact M47):GT:=h
def M50(h:GT:=by
 refine⟨jQb (hE b hb).1 U.size,?_⟩;rcases h4 with e|e<;>rw[e]
 .exact(hE b hb).2
 .intro e';have:=(hE b hb).1;cases e';omega):GT:=h
def M6(h:GT:=by
 go_in;go_wp21;refine ag.mono ?_;rintro e w1 ⟨rfl,ar⟩;have HB:=Z (HA.1.trans (ar.mono HA.1.size));exact M218):GT:=h
def M62(h:GT:=by
 have aR:¬(kk:Int)<(d.lw.length:Int):=M
 have qk:l0=r:=by
  have:=Ed;rw[jQf M]at this;exact M152
 subst qk;have eK:=Z aL;have HRV:=Z nr;clear aL nr Ed;go_wp2;go_ret;exact⟨_,rfl,(yd (D:=Up D W.heap.size wr.heap.size) eK.1 (HRV.1.move (au.refl.wide Up.of)) (λg hg=>.inr (eK.1.lt g hg))),BW.out⟩):GT:=h
def M79(h:GT:=by
 obtain⟨xs,I,_⟩:=h;rcases I.2 with⟨rfl,h0⟩|⟨g,cap,cur,rfl,_⟩
 .exact⟨none,0,by rw[h0]⟩
 .exact⟨_,cap,rfl⟩):GT:=h
def M82(h:GT:=by
 go_wp2;go_ret;exact⟨rfl,HD.1⟩):GT:=h
theorem M97(h:GT:=by
 go_wp2;go_ret;exact⟨i6,HB.1⟩):GT:=h
def afT(D:Qx)(W:World)(r:List Y)(e:Ending)(W':World):Prop:=∃v',e=.returned v'/\RS (Up D W.heap.size W'.heap.size) W' r v'/\S5 W W'
def rH{α:Type}{l r:List α}(h:lim l=some r):r.length<=1099511627776/\l=r:=by
 unfold lim at h;split at h
 .cases h;exact⟨by assumption,rfl⟩
 .cases h
def aaT(D:Qx)(W wr:World)(d:ah)(p:Bool)(r:List Y)(kk:Nat)(s:Value):Prop:=
 ∃l xs,wr.ownsRow W.heap.size 25 7 s l.length xs/\RV D wr l xs/\l++((d.lw.drop kk).filter λm=>p||!m.ptr).map (λm=>m.sig.setName m.name)=r
def zj(w ws t0 r v W D)(j:kK w t0=some r)(H:Cx D w ws W)(hv:RT D W t0 v):
 Calls prog 266 #[ws,v] W (afT D W r):=by
 obtain⟨t,ht,j⟩:=jQ1.1 j;obtain⟨pY,zL,rfl,cH⟩:=hv.bR;obtain⟨wa,wc,rfl⟩:=H.rd.form;have HA:=Z (an W (bx t0 pY zL));have ag:=jr _ t0 t _ _ D (jQ0 _) ht (H.mv HA.1).lo (hv.mv H.lo HA.1);have HP:=Z j;have HX:=Z H;clear j H hv cH ht;go_in;go_wp21;refine ag.mono ?_;rintro e w1 ⟨v1,rfl,fP,ar⟩;obtain⟨a1,zd,rfl,cz⟩:=fP.bR;have zK:=aj ar (ak W (bx t0 pY zL)) i6;have HB:=Z (HA.1.trans (ar.mono HA.1.size));have hz:=ar.size;simp only[jQ3]at hz cz;have HS:=Z cz;clear ar ag fP cz;go_wp2_with (refine fN rfl _ _ rfl W.heap.size rfl rfl zK rfl ?_);intro w2 fJ;have zK:=fJ.here;have HB:=Z (fJ.below HB.1 M);have eX:=HS.1.move (fJ.aJ (D:=Up D (W.heap.size+1) w1.heap.size) (by intro h;obtain h|h:=h;exact absurd (HX.1.lo _ h) M;omega));have hz:=hz;rw[<-fJ.size]at hz eX;have HS:=Z eX;have j:=HP.1;clear eX fJ HP;obtain⟨c0,c1,c2,c3,c4,c5,c6⟩:=ao zK;by_cases h6:t.ld=6
 .rw[jQ7 h6]at j;obtain⟨e,he,j⟩:=jQ1.1 j;obtain⟨t',Ng,j⟩:=jQ1.1 j;have lT:(0:Int)<(t.li.length:Int):=by
   cases hh:t.li with
   |nil=>rw[hh]at he;simp at he
   |cons=>simp
  rcases aN.1 HS.1 with⟨Gb,_⟩|⟨bk,b,o,c',dN,Jd,jG,kN,hC⟩
  .rw[Gb]at he;simp at he
  simp at dN;obtain⟨rfl,rfl⟩:=dN;obtain⟨a3,c3',f0,f1,f2,f3,f4,f5,f6,uz⟩:=(hC.at he).bR;simp only[Nat.zero_mul,Nat.add_zero]at f0 f1 f2 f3 f4 f5 f6;have k6:(t.ld==6)=true:=by simp[h6]
  have ag:=jr _ e t' _ _ _ (jQ0 _) Ng (Up.lo (n:=W.heap.size+1) (HX.1.lo.mono M) hz) uz;have HP:=Z j;clear j h6 bk uz hC he Ng;go_wp21;refine ag.mono ?_;rintro e w3 ⟨v3,rfl,FG,aZ⟩;obtain⟨a4,Rk,rfl,nU⟩:=FG.bR;have zK:=aj aZ zK M;have HB:=Z (HB.1.trans (aZ.mono HB.1.size));have JD:=aZ.size;clear nU FG aZ ag c0 c1 c2 c3 c4 c5 c6 f0 f1 f2 f3 f4 f5 f6 k6;go_wp2_with (refine fN rfl _ _ rfl W.heap.size rfl rfl zK rfl ?_);intro w4 gF;have zK:=gF.here;have HB:=Z (gF.below HB.1 M);have j:=HP.1;have hz4:=gF.size;clear gF HP;obtain⟨c0,c1,c2,c3,c4,c5,c6⟩:=ao zK;by_cases dA:t'.ld=11
  .rw[rz,jQ4 (by simp[dA])]at j;have Hv:0<=t'.n:=by
    by_cases h:0<=t'.n
    .exact h
    .simp[h]at j
   rw[jQ7 Hv]at j;obtain⟨i,hi⟩:=Int.eq_ofNat_of_zero_le Hv;obtain⟨d,hd,hr⟩:=jQ1.1 j;obtain⟨hrl,hr⟩:=rH hr;rw[hi]at hd c1;rw[Int.toNat_natCast]at hd;have hil:i<w.length:=(jQg.1 hd).1;have afq:(i:Int)<(w.length:Int):=M
   have qd:(t'.ld !=11)=false:=by simp[dA]
   rcases HX.1.rd with⟨rfl,_⟩|⟨_,b,o,c',hwe,Jd,jG,kN,hC⟩
   .simp at hd
   simp at hwe;obtain⟨rfl,rfl⟩:=hwe;obtain⟨hE,ms,jK,hM⟩:=hC.at hd;obtain⟨ma,mc,rfl⟩:=hM.form;have acT:=((fU HB.1).1 b (o+i*8+7) kN).trans jK;have hmz:d.lw.length<=9223372036854775807:=M194
   have HM:=Z hM;have HR:=Z hr;have Ro:=HB.1.size;clear j hr hM hC hE jK hd dA Hv hi;go_wp21
   go_loopg [6,31] d.lw.length (λgg s6 s31 wr=>∃kk:Nat,kk<=d.lw.length/\d.lw.length - kk<=gg/\s31=.int .i64 kk/\Aside (S5 W wr)/\Aside (aaT D W wr d true r kk s6))
   case atStart=>exact⟨0,jQc _,M,rfl,HB.1,[],[],G9 (jR9 _ _ _ _),by simp[RV],G9 HR.1⟩
   case round=>
    obtain⟨kk,ez,hg,rfl,BW,l0,xs,aL,nr,Ed⟩:=hrel;by_cases aM:kk<d.lw.length
    .have aR:(kk:Int)<(d.lw.length:Int):=M
     obtain⟨m,hm⟩:∃m,d.lw[kk]?=some m:=⟨d.lw[kk],by simp[aM]⟩;have bL:d.lw.drop kk=m::d.lw.drop (kk+1):=M103
     rw[bL]at Ed;rcases HM.1 with⟨he,_⟩|⟨_,b2,o2,c2,dN,fh,fL,du,gX⟩
     .exact M106
     simp at dN;obtain⟨rfl,rfl⟩:=dN;obtain⟨m0,m1,hEm⟩:=gX.at hm;have e:=λhp=>(fU BW.out).1 b2 hp (HX.1.lo b2 du);obtain⟨sa,sc,f0,f1,f2,f3,f4,f5,f6,iL⟩:=hEm.bR;have g0:=(e _).trans m0;have g1:=(e _).trans m1;have g2:=(e _).trans f0;have g3:wr.cell? ⟨b2,o2+kk*9+3,none⟩=_:=(e _).trans f1;have g4:wr.cell? ⟨b2,o2+kk*9+4,none⟩=_:=(e _).trans f2;have g5:wr.cell? ⟨b2,o2+kk*9+5,none⟩=_:=(e _).trans f3;have g6:wr.cell? ⟨b2,o2+kk*9+6,none⟩=_:=(e _).trans f4;have g7:wr.cell? ⟨b2,o2+kk*9+7,none⟩=_:=(e _).trans f5;have g8:wr.cell? ⟨b2,o2+kk*9+8,none⟩=_:=(e _).trans f6;obtain⟨sa',sc',e',iL⟩:=iL.bR;simp at e';obtain⟨rfl,rfl⟩:=e';obtain⟨Km,eK,HRV,HR0⟩:=Z4 iL aL nr Ed;have dZ:=BW.out.size;clear aL nr Ed e m0 m1 f0 f1 f2 f3 f4 f5 f6 hEm gX iL bL hm;go_wp2_with (refine xM rfl 68 _ _ rfl wr.heap.size _ rfl rfl 68 _ (ak wr _) g9 rfl (by simp[Value.oneCell']) ?_);intro w3 fm;have h3:=fm.here;obtain⟨q0,q1,q2,q3,q4,q5,q6,q7,q8⟩:=uk h3;have B3:=Z (fm.below (an wr _) (jQ0 _));clear fm;by_cases lD:(true||!m.ptr)=true
     .try(
       have jd:m.ptr=false:=G9 lD
       rw[jd]at q1)
      go_wp2_with (refine fN rfl _ _ rfl w3.heap.size rfl rfl (ak w3 _) rfl ?_);intro w4 gF;have h3':=gF.cR (aq h3) (Nat.ne_of_lt (jQ2 h3));obtain⟨q0,q1,q2,q3,q4,q5,q6,q7,q8⟩:=uk h3';have h4:=gF.here;have B4:=Z (gF.below (B3.1.alloc B3.1.size _) B3.1.size);clear gF;go_wp2_with (refine eT rfl 9 _ _ rfl w3.heap.size 4 (.string m.name) rfl rfl 25 _ h4 g9 (by simp[Value.cells,Value.oneCell']) (by simp[Value.cells]) #[.int .i64 m.sig.ld,.int .i64 m.sig.n,.int .i64 m.sig.m,.bool m.sig.va,.string m.name,.string m.sig.gc,.slice sa m.sig.li.length sc] (by simp[Value.cells]) ?_);intro w5 kC;obtain⟨p0,p1,p2,p3,p4,p5,p6⟩:=ao kC.here;have B5:=Z (kC.below B4.1 B3.1.size);have B6:=Z (B5.1.alloc B5.1.size (.cells #[.int .i64 m.sig.ld,.int .i64 m.sig.n,.int .i64 m.sig.m,.bool m.sig.va,.string m.name,.string m.sig.gc,.slice sa m.sig.li.length sc] 25));have TW:=Z (BW.out.trans (B6.1.mono dZ));have lj:=sg eK.1 B6.1 (λg hg=>(eK.1.lt g hg).2);have Vt:=HRV.1.move ((HX.1.lo.mono dZ).aJ B6.1);have Zw:=RV.setName m.name (Km.1.mv HX.1.lo TW.1);have Cy:=iC w5 [.int .i64 m.sig.ld,.int .i64 m.sig.n,.int .i64 m.sig.m,.bool m.sig.va,.string m.name,.string m.sig.gc,.slice sa m.sig.li.length sc] 25;have qk:(l0++[m.sig.setName m.name])++((d.lw.drop (kk+1)).filter λm=>true||!m.ptr).map (λm=>m.sig.setName m.name)=r:=M198
      exact M13
     .exact absurd i6 lD
    .exact M62
  .rw[rz,jQ7 (G9 dA)]at j;have h:[]=r:=G9 j
   subst h;have qd:(t'.ld !=11)=true:=by simp[dA]
   exact M195
 .rw[jQ4 h6]at j;have k6:(t.ld==6)=false:=by simp[h6]
  clear h6 c0 c1 c2 c3 c4 c5 c6;obtain⟨c0,c1,c2,c3,c4,c5,c6⟩:=ao zK;by_cases dA:t.ld=11
  .rw[rz,jQ4 (by simp[dA])]at j;have Hv:0<=t.n:=by
    by_cases h:0<=t.n
    .exact h
    .simp[h]at j
   rw[jQ7 Hv]at j;obtain⟨i,hi⟩:=Int.eq_ofNat_of_zero_le Hv;obtain⟨d,hd,hr⟩:=jQ1.1 j;obtain⟨hrl,hr⟩:=rH hr;rw[hi]at hd c1;rw[Int.toNat_natCast]at hd;have hil:i<w.length:=(jQg.1 hd).1;have afq:(i:Int)<(w.length:Int):=M
   have qd:(t.ld !=11)=false:=by simp[dA]
   rcases HX.1.rd with⟨rfl,_⟩|⟨_,b,o,c',hwe,Jd,jG,kN,hC⟩
   .simp at hd
   simp at hwe;obtain⟨rfl,rfl⟩:=hwe;obtain⟨hE,ms,jK,hM⟩:=hC.at hd;obtain⟨ma,mc,rfl⟩:=hM.form;have acT:=((fU HB.1).1 b (o+i*8+7) kN).trans jK;have hmz:d.lw.length<=9223372036854775807:=M194
   have HM:=Z hM;have HR:=Z hr;have Ro:=HB.1.size;clear j hr hM hC hE jK hd dA Hv hi;go_wp21
   go_loopg [6,31] d.lw.length (λgg s6 s31 wr=>∃kk:Nat,kk<=d.lw.length/\d.lw.length - kk<=gg/\s31=.int .i64 kk/\Aside (S5 W wr)/\Aside (aaT D W wr d false r kk s6))
   case atStart=>exact⟨0,jQc _,M,rfl,HB.1,[],[],G9 (jR9 _ _ _ _),by simp[RV],G9 HR.1⟩
   case round=>
    obtain⟨kk,ez,hg,rfl,BW,l0,xs,aL,nr,Ed⟩:=hrel;by_cases aM:kk<d.lw.length
    .have aR:(kk:Int)<(d.lw.length:Int):=M
     obtain⟨m,hm⟩:∃m,d.lw[kk]?=some m:=⟨d.lw[kk],by simp[aM]⟩;have bL:d.lw.drop kk=m::d.lw.drop (kk+1):=M103
     rw[bL]at Ed;rcases HM.1 with⟨he,_⟩|⟨_,b2,o2,c2,dN,fh,fL,du,gX⟩
     .exact M106
     simp at dN;obtain⟨rfl,rfl⟩:=dN;obtain⟨m0,m1,hEm⟩:=gX.at hm;have e:=λhp=>(fU BW.out).1 b2 hp (HX.1.lo b2 du);obtain⟨sa,sc,f0,f1,f2,f3,f4,f5,f6,iL⟩:=hEm.bR;have g0:=(e _).trans m0;have g1:=(e _).trans m1;have g2:=(e _).trans f0;have g3:wr.cell? ⟨b2,o2+kk*9+3,none⟩=_:=(e _).trans f1;have g4:wr.cell? ⟨b2,o2+kk*9+4,none⟩=_:=(e _).trans f2;have g5:wr.cell? ⟨b2,o2+kk*9+5,none⟩=_:=(e _).trans f3;have g6:wr.cell? ⟨b2,o2+kk*9+6,none⟩=_:=(e _).trans f4;have g7:wr.cell? ⟨b2,o2+kk*9+7,none⟩=_:=(e _).trans f5;have g8:wr.cell? ⟨b2,o2+kk*9+8,none⟩=_:=(e _).trans f6;obtain⟨sa',sc',e',iL⟩:=iL.bR;simp at e';obtain⟨rfl,rfl⟩:=e';obtain⟨Km,eK,HRV,HR0⟩:=Z4 iL aL nr Ed;have dZ:=BW.out.size;clear aL nr Ed e m0 m1 f0 f1 f2 f3 f4 f5 f6 hEm gX iL bL hm;go_wp2_with (refine xM rfl 68 _ _ rfl wr.heap.size _ rfl rfl 68 _ (ak wr _) g9 rfl (by simp[Value.oneCell']) ?_);intro w3 fm;have h3:=fm.here;obtain⟨q0,q1,q2,q3,q4,q5,q6,q7,q8⟩:=uk h3;have B3:=Z (fm.below (an wr _) (jQ0 _));clear fm;by_cases lD:(false||!m.ptr)=true
     .try(
       have jd:m.ptr=false:=G9 lD
       rw[jd]at q1)
      go_wp2_with (refine fN rfl _ _ rfl w3.heap.size rfl rfl (ak w3 _) rfl ?_);intro w4 gF;have h3':=gF.cR (aq h3) (Nat.ne_of_lt (jQ2 h3));obtain⟨q0,q1,q2,q3,q4,q5,q6,q7,q8⟩:=uk h3';have h4:=gF.here;have B4:=Z (gF.below (B3.1.alloc B3.1.size _) B3.1.size);clear gF;go_wp2_with (refine eT rfl 9 _ _ rfl w3.heap.size 4 (.string m.name) rfl rfl 25 _ h4 g9 (by simp[Value.cells,Value.oneCell']) (by simp[Value.cells]) #[.int .i64 m.sig.ld,.int .i64 m.sig.n,.int .i64 m.sig.m,.bool m.sig.va,.string m.name,.string m.sig.gc,.slice sa m.sig.li.length sc] (by simp[Value.cells]) ?_);intro w5 kC;obtain⟨p0,p1,p2,p3,p4,p5,p6⟩:=ao kC.here;have B5:=Z (kC.below B4.1 B3.1.size);have B6:=Z (B5.1.alloc B5.1.size (.cells #[.int .i64 m.sig.ld,.int .i64 m.sig.n,.int .i64 m.sig.m,.bool m.sig.va,.string m.name,.string m.sig.gc,.slice sa m.sig.li.length sc] 25));have TW:=Z (BW.out.trans (B6.1.mono dZ));have lj:=sg eK.1 B6.1 (λg hg=>(eK.1.lt g hg).2);have Vt:=HRV.1.move ((HX.1.lo.mono dZ).aJ B6.1);have Zw:=RV.setName m.name (Km.1.mv HX.1.lo TW.1);have Cy:=iC w5 [.int .i64 m.sig.ld,.int .i64 m.sig.n,.int .i64 m.sig.m,.bool m.sig.va,.string m.name,.string m.sig.gc,.slice sa m.sig.li.length sc] 25;have qk:(l0++[m.sig.setName m.name])++((d.lw.drop (kk+1)).filter λm=>false||!m.ptr).map (λm=>m.sig.setName m.name)=r:=M198
      exact M13
     .have jd:m.ptr=true:=G9 lD
      rw[jd]at q1;have qk:l0++((d.lw.drop (kk+1)).filter λm=>false||!m.ptr).map (λm=>m.sig.setName m.name)=r:=by
       have:=HR0.1;rw[List.filter_cons_of_neg (G9 lD)]at this;exact M152
      have HRE:=Z qk;clear qk;go_wp21;go_roundg (d.lw.length - (kk+1))
      case measure=>omega
      case rel=>exact⟨kk+1,M,M,by go_num,BW.out.trans (B3.1.mono dZ),_,xs,sg eK.1 B3.1 (λg hg=>(eK.1.lt g hg).2),HRV.1.move ((HX.1.lo.mono dZ).aJ B3.1),HRE.1⟩
    .exact M62
  .rw[rz,jQ7 (G9 dA)]at j;have h:[]=r:=G9 j
   subst h;have qd:(t.ld !=11)=true:=by simp[dA]
   exact M195
def dc(E:Qx)(base:Nat)(W:World)(l:List Y)(v:Value):Prop:=
 ∃xs,W.ownsRow base 25 7 v l.length xs/\RV E W l xs/\∀b,E b->b<W.heap.size/\some b≠v.ownBlock
def dc.nil{base:Nat}(h:Lo E W.heap.size):dc E base W [] (.slice none 0 0):=
 ⟨[],jR9 _ _ _ _,by rw[RV],λb hb=>⟨h b hb,by simp[Value.ownBlock]⟩⟩
def dc.lt{base:Nat}(h:dc E base W l v):∀g,v.ownBlock=some g->base<=g/\g<W.heap.size:=by
 obtain⟨xs,h,_⟩:=h;exact h.lt
def dc.lo{base:Nat}(h:dc E base W l v):Lo E W.heap.size:=M177
def dc.below{base:Nat}(h:dc E base W l v)(hb:S5 W W'):dc E base W' l v:=by
 obtain⟨xs,I,U,h3⟩:=h;exact⟨xs,sg I hb (λg hg=>(I.lt g hg).2),U.move (Lo.aJ (λb hb=>(h3 b hb).1) hb),λb dD=>⟨jQb (h3 b dD).1 hb.size,(h3 b dD).2⟩⟩
def dc.rs{base:Nat}(h:dc E base W l v)(hE:∀b,E b->D b)(hD:∀b,base<=b->b<W.heap.size->D b):RS D W l v:=by
 obtain⟨xs,I,U,_⟩:=h;exact yd I (U.move (au.refl.wide hE)) (λg hg=>hD g (I.lt g hg).1 (I.lt g hg).2)
def dc.wide{base:Nat}(h:dc E base W l v)(hE:∀b,E b->F b)(hF:∀b,F b->b<W.heap.size/\some b≠v.ownBlock):dc F base W l v:=M136
def dc.form{base:Nat}(h:dc E base W l v):∃a c,v=.slice a l.length c:=M79
def dc.base{base:Nat}(h:dc E base W l v)(hb:base'<=base):dc E base' W l v:=M108
def j4{P:Program}(mX:o.guard=none)(s x:Operand)(t:TypeId)(ho:o.op=.call {callee:=.builtin .append,args:=#[s,x],argTypes:=#[t,t]})(base:Nat)(e:TypeId)(i:TypeInfo)(size:Nat)(ht:P.underlying t=some (.slice e))(hi:P.info? e=some i)(v)(n:Nat)(xs)(hs:a.eval s=v)(aL:w.ownsRow base e size v n xs)(c:Nat)(H:a.eval x=.slice none 0 c)(h:wpList P ops Q rest (a.put o.dst v) w):wpList P ops Q (o::rest) a w:=
 wpList_plain mX λ_ hK=>by
  have hr:(Builtin.append_ #[t,t] o.type #[v,.slice none 0 c]).run P w=.ok v w:=by
   rcases aL.2 with⟨rfl,rfl⟩|⟨g,cap,cur,rfl,_,_,KX,_⟩
   .simp[Builtin.append_,jQj ht,sizeOf,typeInfo,hi,Builtin.lenOf,Builtin.firstCells]
   .simp[Builtin.append_,jQj ht,sizeOf,typeInfo,hi,Builtin.lenOf,Builtin.firstCells,KX,storeCells]
  unfold Oper.wp execOp;simp only[ho,resolve,invoke,builtin,jRp,Sem.run_pure,jR8,List.map_toArray,List.map_cons,List.map_nil,hs,H,hr];exact hK _ _ h
def nP(mX:o.guard=none)(s x:Operand)(ho:o.op=.call {callee:=.builtin .append,args:=#[s,x],argTypes:=#[23,23]})(base:Nat)(E v l)(hs:a.eval s=v)(aL:dc E base w l v)(l')(ad:Addr)(c:Nat)(ns)(H:a.eval x=.slice (some ad) l'.length c)(vY:RV E w l' ns)(hc:∀hp u,ns[hp]?=some u->w.cell? (ad.add hp)=some u)(cF:(l++l').length<=1099511627776)(cS:base<=w.heap.size)(h:∀v' O,dc E base O (l++l') v'->w.grownBy O v.ownBlock->(v'.ownBlock=v.ownBlock\/v'.ownBlock=some w.heap.size)->wpList prog ops Q rest (a.put o.dst v') O):wpList prog ops Q (o::rest) a w:=by
 obtain⟨i0,pn,lA,gj,j7⟩:=info_parts Cu;obtain⟨xs,aL,nr,hE⟩:=aL;rw[jQo]at cF;refine wpList_append_own_at w mX s x 23 ho base 25 i0 _ 7 88 underlying23 pn lA gj j7 rfl M v l.length xs hs aL ad l'.length c ns H vY.length hc vY.one
  (by simp only[maxLen];omega) M cS λv' O I U _ h4=>h v' O ⟨xs++ns,by rw[jQo];exact I,?_,?_⟩ U h4
 .exact M156
 .intro b hb;exact M50
def tU(mX:o.guard=none)(s x:Operand)(ho:o.op=.call {callee:=.builtin .append,args:=#[s,x],argTypes:=#[23,23]})(base:Nat)(E v l)(hs:a.eval s=v)(aL:dc E base w l v)(sl l' D')(pT:RS D' w l' sl)(H:a.eval x=sl)(news:∀b o,RC D' w l' b o->∃xs,RV E w l' xs/\(∀hp u,xs[hp]?=some u->ce w b (o+hp) u))(cF:(l++l').length<=1099511627776)(cS:base<=w.heap.size)(h:∀v' O,dc E base O (l++l') v'->w.grownBy O v.ownBlock->(v'.ownBlock=v.ownBlock\/v'.ownBlock=some w.heap.size)->wpList prog ops Q rest (a.put o.dst v') O):wpList prog ops Q (o::rest) a w:=by
 obtain⟨i0,pn,lA,gj,j7⟩:=info_parts Cu;rcases aN.1 pT with⟨rfl,a1,c1,e,I⟩|⟨bk,b,o',c',e,Jd,jG,kN,hC⟩
 .cases a1 with
  |none=>
   have:=I rfl;subst this;obtain⟨xs,oQ,nr,hE⟩:=aL;refine j4 mX s x 23 ho base 25 i0 7 underlying23 pn v l.length xs hs oQ 0 (H.trans e) (h v w ?_ (World.grownBy.refl w _) (.inl rfl));rw[List.append_nil];exact⟨xs,oQ,nr,hE⟩
  |some ad=>exact nP mX s x ho base E v l hs aL [] ad c1 [] (H.trans e) (by rw[RV]) (by intro hp u hu;simp at hu) cF cS h
 .obtain⟨ns,vY,hc⟩:=news b o' hC;refine nP mX s x ho base E v l hs aL l' ⟨b,o',none⟩ c' ns (H.trans e) vY (λhp u hu=>?_) cF cS h;exact M173
def abJ(D:Qx)(W:World)(r:List Y)(e:Ending)(W':World):Prop:=
 ∃v' E,e=.returned v'/\dc E W.heap.size W' r v'/\(∀b,E b->Up D W.heap.size W'.heap.size b)/\S5 W W'
def abJ.Pf{e:Ending}(h:abJ D W r e W'):afT D W r e W':=by
 obtain⟨v',E,he,I,U,h3⟩:=h;exact⟨v',he,I.rs U (λb hb dD=>.inr ⟨hb,dD⟩),h3⟩
def uT(t v W D)(hv:RT D W t v):Calls prog 40 #[v] W (ef W (eM t)):=by
 obtain⟨a,c,rfl,hs⟩:=hv.bR;clear hs hv;by_cases h6:t.ld=6
 .have hb:eM t=false:=by simp[eM,h6]
  rw[hb];clear hb;exact M109
 .have k6:(t.ld !=6)=true:=by simp[h6]
  by_cases I:t.ld=1
  .by_cases h17:t.n=17
   .have hb:eM t=false:=by simp[eM,I,h17]
    rw[hb];clear hb;exact M109
   .have k17:(t.n !=17)=true:=by simp[h17]
    have hb:eM t=true:=by simp[eM,I,h17]
    rw[hb];clear hb;exact M109
  .have k1:(t.ld !=1)=true:=by simp[I]
   have hb:eM t=true:=by simp[eM,I,h6]
   rw[hb];clear hb;exact M109
def gl(w ws t)(r:Bool)(v W D)(hr:bU w t=some r)(H:Cx D w ws W)(hv:RT D W t v):
 Calls prog 138 #[ws,v] W (ef W r):=by
 obtain⟨a,c,rfl,hs⟩:=hv.bR;have HA:=Z (an W (bx t a c));obtain⟨wa,wc,rfl⟩:=H.rd.form;unfold bU at hr;by_cases cQ:t.ld=12
 .have h:false=r:=by simpa[cQ]using hr
  subst h;clear hr hs hv H;exact M109
 .have tT:(t.ld !=12)=true:=by simp[cQ]
  by_cases cg:t.ld=13
  .have h:false=r:=by simpa[cg]using hr
   subst h;clear hr hs hv H;exact M109
  .have ll:(t.ld !=13)=true:=by simp[cg]
   have Nn:isIface w t=some r:=by simpa[cQ,cg]using hr
   have dt:=H.mv HA.1;have ag:=dh w _ t r _ _ D Nn dt.lo dt.rd (hv.mv H.lo HA.1);clear hr Nn hs hv H dt;go_in;go_wp21;refine ag.mono ?_;rintro e w1 ⟨rfl,ar⟩;have HB:=Z (HA.1.trans (ar.mono HA.1.size));clear ar;exact M40
def gM(k:Nat):Og k:=by
 induction k with
 |zero=>intro w ws t r v W D h;simp[general]at h
 |succ k ih=>
  intro w ws t r v W D hg hD hw hv;obtain⟨u,hu,hg⟩:=jQ1.1 hg;obtain⟨a,c,rfl,hs⟩:=hv.bR;obtain⟨wa,wc,rfl⟩:=hw.form;have HA:=Z (dT W (.cells #[.slice wa w.length wc] 22) (bx t a c));have H:Cx D w (.slice wa w.length wc) W:=⟨hD,hw⟩;have dt:=H.mv HA.1;have ag:=dG w _ t u _ _ D hu dt.lo dt.rd (hv.mv H.lo HA.1);have HG:=Z hg;clear hg hs hv hu dt hw;have HDD:=Z hD;clear hD;go_in;go_wp21;refine ag.mono ?_;rintro e w1 ⟨v1,rfl,fP,ar⟩;obtain⟨a1,c1,rfl,cz⟩:=fP.bR;have HB:=Z (HA.1.trans (ar.mono HA.1.size));have kq:=jQh (aj ar (aq (ak W (.cells #[.slice wa w.length wc] 22))) (by simp;omega));have aM:W.heap.size<w1.heap.size:=jQs kq;have hg:=HG.1;have j7:=ar.size;simp only[jQ3]at cz j7;have HS:=Z cz;clear ar fP ag cz;by_cases bH:u.ld=10
  .have sq:(u.ld !=10)=false:=by simp[bH]
   rw[jQ4 (by simp[bH])]at hg;clear bH;obtain⟨l,hl,qc⟩:=jQ1.1 hg;obtain⟨a2,c2,pT,su⟩:=RS.from HS.1 hl;have hz:=HB.1.size;have HC:=Z (HB.1.alloc hz (bx u a1 c1));have dF:=(H.mv HC.1).up (n:=W.heap.size+2) (HDD.1.mono M) (by simp;omega);have eX:=su.move (W':=w1.alloc (bx u a1 c1)) (D':=Up D (W.heap.size+2) (w1.alloc (bx u a1 c1)).heap.size) (((au.refl.alloc (λb hb=>?_) _)).wide (Up.mono i6 i6))
   .have fw:(w1.alloc (bx u a1 c1)).cell? ⟨W.heap.size,0,none⟩=some (.slice wa w.length wc):=by
     rw[World.cell?_alloc_past _ _ _ aM];exact kq
    have ag:=cL l _ _ _ eX dF.lo 100 #[.pointer (some ⟨W.heap.size,0,none⟩)] Tryz.call100 _ (λW1 e v bb ar _ dr ke=>by
     have qm:=dF.mv ar;exact Ur k ih w _ e bb v W1 _ _ ke qm.lo qm.rd dr ((ar.cell (p:=⟨W.heap.size,0,none⟩) (by simp;omega)).trans fw)) r qc
    have D8:∀(fn:Fn) (first cap:Array Value) (w:World),(Instr.makeFunc fn first cap).run prog w=.ok (.func fn first cap) w:=λ_ _ _ _=>rfl;clear dF eX su qc hl H fw;exact M142
   .exact(Up.lo (HDD.1.mono M) M) b hb
  .have sq:(u.ld !=10)=true:=by simp[bH]
   rw[jQ7 (G9 bH)]at hg;have h:(u.ld==16)=r:=G9 hg
   subst h;clear hg;by_cases ir:u.ld=16
   .go_wp2;go_ret;exact⟨by simp[ir],HB.1.alloc (V5 HB.1.size) _⟩
   .have yr:(u.ld==16)=false:=by simp[ir]
    go_wp2;go_ret;exact⟨by simp[yr],HB.1.alloc (V5 HB.1.size) _⟩
def af0(W:World)(r:Bool)(e:Ending)(W':World):Prop:=e=.returned (.bool r)/\W'=W
def aQ(n m:Int)(W):Calls prog 44 #[.int .i64 n,.int .i64 m] W (af0 W (within n m)):=by
 unfold within;by_cases h0:n≥0
 .by_cases I:n<m
  .exact M185
  .exact M185
 .exact M185
def Cd(s:ByteArray)(kk:Nat)(h:kk<s.size):isNameL kk (s.toList.drop kk)=
 (if ((decide ((s[kk].toNat:Int)<65))||(decide (90<(s[kk].toNat:Int))))&&(!((decide (97<=(s[kk].toNat:Int)))&&(decide ((s[kk].toNat:Int)<=122)))||kk==0)then false else isNameL (kk+1) (s.toList.drop (kk+1))):=by
 have hl:kk<s.toList.length:=by simpa[jRk]using h
 have he:s.toList[kk]=s[kk]:=by simp[jRk];rfl
 rw[jQv hl,isNameL,he];have I:decide (s[kk]≥(97:UInt8))=decide (97<=(s[kk].toNat:Int)):=by simp[UInt8.le_iff_toNat_le];omega
 have U:decide (s[kk]<=(122:UInt8))=decide ((s[kk].toNat:Int)<=122):=by simp[UInt8.le_iff_toNat_le];omega
 have h3:decide (s[kk]<(65:UInt8))=decide ((s[kk].toNat:Int)<65):=by simp[UInt8.lt_iff_toNat_lt];omega
 have h4:decide (s[kk]>(90:UInt8))=decide (90<(s[kk].toNat:Int)):=by simp[UInt8.lt_iff_toNat_lt];omega
 simp only[I,U,h3,h4]
def fO(s W)(hs:s.size<=9223372036854775807):Calls prog 38 #[.string s] W (af0 W (isName s)):=by
 go_in;go_wp21
 go_loopg [3,4,7] s.size (λgg _ _ s7 wr=>∃kk:Nat,kk<=s.size/\s.size - kk<=gg/\s7=.int .i64 kk/\wr=W/\Aside (isNameL kk (s.toList.drop kk)=isNameL 0 s.toList))
 case atStart=>exact⟨0,jQc _,M,rfl,rfl,by simp[Aside]⟩
 case round=>
  obtain⟨kk,ez,hg,rfl,rfl,A⟩:=hrel;by_cases aM:kk<s.size
  .have aR:(kk:Int)<(s.size:Int):=M
   have hz:(0:Int)<=kk:=M
   have hA:=A.out;rw[Cd s kk aM]at hA;by_cases q1:(65:Int)<=(s[kk].toNat:Int)/\(s[kk].toNat:Int)<=90
   .have t1:¬(97:Int)<=(s[kk].toNat:Int):=M
    have t3:¬(s[kk].toNat:Int)<65:=M
    have t4:¬(90:Int)<(s[kk].toNat:Int):=M
    have KB:isNameL (kk+1) (s.toList.drop (kk+1))=isNameL 0 s.toList:=by simpa[t1,t3,t4]using hA
    have HA:=Z KB;clear hA KB A q1;exact M143
   .by_cases q2:(97:Int)<=(s[kk].toNat:Int)/\(s[kk].toNat:Int)<=122
    .have t1:(97:Int)<=(s[kk].toNat:Int):=q2.1;have t2:(s[kk].toNat:Int)<=122:=q2.2;have t3:¬(s[kk].toNat:Int)<65:=M
     have t4:(90:Int)<(s[kk].toNat:Int):=M
     by_cases Vc:kk=0
     .subst Vc;have KB:false=isNameL 0 s.toList:=by simpa[t1,t2,t3,t4]using hA
      have hn:isName s=false:=by rw[isName,<-KB];simp
      rw[hn];clear hA KB A q1 q2;exact M12
     .have aim:¬(kk:Int)=0:=M
      have hk0b:((kk:Int)==0)=false:=G9 Vc
      have KB:isNameL (kk+1) (s.toList.drop (kk+1))=isNameL 0 s.toList:=by simpa[t1,t2,t3,t4,Vc]using hA
      have HA:=Z KB;clear hA KB A q1 q2;exact M143
    .have hc:(((decide ((s[kk].toNat:Int)<65))||(decide (90<(s[kk].toNat:Int))))&&(!((decide (97<=(s[kk].toNat:Int)))&&(decide ((s[kk].toNat:Int)<=122)))||kk==0))=true:=by
      simp;omega
     rw[hc]at hA;have KB:false=isNameL 0 s.toList:=G9 hA
     have hn:isName s=false:=by rw[isName,<-KB];simp
     rw[hn];clear hA KB A hc;by_cases t3:(s[kk].toNat:Int)<65
     .have t1:¬(97:Int)<=(s[kk].toNat:Int):=M
      clear q1 q2;exact M12
     .have t4:(90:Int)<(s[kk].toNat:Int):=M
      by_cases t1:(97:Int)<=(s[kk].toNat:Int)
      .have t2:¬(s[kk].toNat:Int)<=122:=M
       clear q1 q2;exact M12
      .clear q1 q2;exact M12
  .have aR:¬(kk:Int)<(s.size:Int):=M
   have hA:=A.out;rw[jQf (by simp[jRk];omega),isNameL]at hA;have hn:isName s=(decide (s.size≥1)&&decide (s.size<=8)):=by rw[isName,<-hA];simp
   clear hA A;by_cases I:1<=s.size
   .have h1z:(1:Int)<=(s.size:Int):=M
    by_cases h8:s.size<=8
    .have h8z:(s.size:Int)<=8:=M
     go_wp2;go_ret;exact⟨by simp[hn,I,h8],rfl⟩
    .have h8z:¬(s.size:Int)<=8:=M
     go_wp2;go_ret;exact⟨by simp[hn,I,h8],rfl⟩
   .have h1z:¬(1:Int)<=(s.size:Int):=M
    go_wp2;go_ret;exact⟨by simp[hn,I],rfl⟩
def pD(k:Nat):Prop:=∀(w:List ah) (ws:Value) (x y:Y) (r:Bool) (vx vy:Value) (W:World) (D:Qx),ident k w x y=some r->Cx D w ws W->RT D W x vx->RT D W y vy->
 Calls prog 178 #[ws,vx,vy] W (ef W r)
def mkf:∀(fn:Fn) (first cap:Array Value) (w:World),(Instr.makeFunc fn first cap).run prog w=.ok (.func fn first cap) w:=λ_ _ _ _=>rfl
def YB(k:Nat)(ih:pD k)(w ws m f)(r:Bool)(v W D)(Bm Bw:Nat)(j:(if f.name=m.name then ident k w f m else some false)=some r)(H:Cx D w ws W)(hv:RT D W f v)(hm:RS D W m.li (.slice am m.li.length cm))(Ez:W.heap[Bm]?=some (bx m am cm))(lR:ce W Bw 0 ws):
 Calls prog 184 #[v,.pointer (some ⟨Bm,0,none⟩),.pointer (some ⟨Bw,0,none⟩)] W (ef W r):=by
 have Dm:=jQs lR;have X4:=jQ2 Ez;simp only at Dm;obtain⟨c0,c1,c2,c3,c4,c5,c6⟩:=ao Ez;obtain⟨a,c,rfl,hs⟩:=hv.bR;obtain⟨wa,wc,rfl⟩:=H.rd.form;have HA:=Z (an W (bx f a c));by_cases hn:f.name=m.name
 .rw[jQ7 hn]at j;have dt:=H.mv HA.1;have ag:=ih w _ f m r _ _ _ D j dt (hv.mv H.lo HA.1) ((RT.mk' hm).mv H.lo HA.1);have iK:=gB hn;clear j dt H hv hm hs Ez hn;exact M6
 .rw[jQ4 hn]at j;have h:false=r:=G9 j
  subst h;have iK:=jX hn;clear j H hv hm hs Ez hn;exact M47
def gm{α β:Type}{f:Nat->α->Option (Option β)}{a:α}{l:List α}{r:Option β}(h:rangeM f i (a::l)=some r):
 (∃b,f i a=some (some b)/\r=some b)\/(f i a=some none/\rangeM f (i+1) l=some r):=by
 rw[rangeM]at h;obtain⟨x,I,U⟩:=jQ1.1 h;cases x with
 |none=>exact .inr ⟨I,U⟩
 |some b=>exact .inl ⟨b,I,G9 U.symm⟩
def pz(k:Nat)(ih:pD k)(w ws l want)(r:Bool)(sl sw W D)(j:hasAll (ident k w) l want=some r)(H:Cx D w ws W)(hl:RS D W l sl)(hw:RS D W want sw):
 Calls prog 144 #[ws,sl,sw] W (ef W r):=by
 obtain⟨wa,wc,rfl⟩:=H.rd.form;obtain⟨la,lc,rfl⟩:=hl.form;obtain⟨res,hr,bo⟩:=jQ6.1 j;have HA:=Z (an W (.cells #[.slice wa w.length wc] 22));have aM:W.heap.size<(W.alloc (.cells #[.slice wa w.length wc] 22)).heap.size:=i6
 have kq:=jQh (ak W (.cells #[.slice wa w.length wc] 22));generalize Lw:W.alloc (.cells #[.slice wa w.length wc] 22)=W1 at HA kq aM;have dt:=H.mv HA.1;have dQ:=hl.mv H.lo HA.1;have Lc:=hw.mv H.lo HA.1;rcases aN.1 Lc with⟨rfl,a,c,rfl,ha⟩|⟨bk,b,o,c,rfl,Jd,hc,kN,hC⟩
 .have h:none=res:=by simpa[rangeM]using hr
  subst h;have h:true=r:=G9 bo
  subst h;have HH:=Z Lw;clear hr bo j H hl hw dt dQ Lc Lw kq;go_in;go_wp2
  go_loopg [11] 0 (λgg s11 wr=>s11=.int .i64 0/\Aside (S5 W wr))
  case atStart=>exact⟨rfl,an _ _⟩
  case round=>
   obtain⟨rfl,BW⟩:=hrel;go_wp2;go_ret;exact⟨rfl,BW.out⟩
 .have hz:want.length<=9223372036854775807:=M
  have hbW:=dt.lo b kN;have D8:=mkf;obtain⟨HX,HL,HC,HR,bM⟩:=Z5 dt dQ hC hr bo;clear j H hl hw dt dQ Lc hC hr bo;go_in;go_wp2;have HW:=Z Lw;clear Lw
  go_loopg [11] want.length (λgg s11 wr=>∃kk:Nat,kk<=want.length/\want.length - kk<=gg/\s11=.int .i64 kk/\Aside (S5 W1 wr)/\Aside (rangeM (λ_ m=>(bh (anyM (λf=>if f.name=m.name then ident k w f m else some false) l)).map λb=>if b then some false else none) kk (want.drop kk)=some res))
  case atStart=>exact⟨0,jQc _,M,rfl,jQ5 _ _,by simpa[Aside]using HR.1⟩
  case round=>
   obtain⟨kk,ez,hg,rfl,BW,A⟩:=hrel;by_cases aM:kk<want.length
   .have aR:(kk:Int)<(want.length:Int):=M
    obtain⟨t,ht⟩:∃t,want[kk]?=some t:=⟨want[kk],by simp[aM]⟩;have hE:=(HC.1.at ht).move (HX.1.lo.aJ BW.out) kN;obtain⟨ta,tc,c0,c1,c2,c3,c4,c5,c6,hv⟩:=hE.bR;have bL:want.drop kk=t::want.drop (kk+1):=M187
    have hA:=A.out;rw[bL]at hA;have Ro:=BW.out.size;have hwb:W.heap.size<wr.heap.size:=M
    have FO:b<wr.heap.size:=M
    have HB:=Z (BW.out.alloc Ro (bx t ta tc));have abN:(wr.alloc (bx t ta tc)).cell? ⟨W.heap.size,0,none⟩=some (.slice wa w.length wc):=by
     rw[World.cell?_alloc_past _ _ _ hwb];exact(BW.out.cell (p:=⟨W.heap.size,0,none⟩) (by assumption)).trans kq
    have Oc:=λ(bb:Bool) (mO:anyM (λf=>if f.name=t.name then ident k w f t else some false) l=some bb)=>
     cL l _ _ D (HL.1.mv HX.1.lo HB.1) (HX.1.mv HB.1).lo 184 #[.pointer (some ⟨wr.heap.size,0,none⟩),.pointer (some ⟨W.heap.size,0,none⟩)] Tryz.call184 _
      (λW2 e v b2 cX _ fx fJ=>by
       have qm:=(HX.1.mv HB.1).mv cX;have sC:=((hv.mv (HX.1.mv BW.out).lo (an wr (bx t ta tc))).mv (HX.1.mv HB.1).lo cX).bR;obtain⟨a3,c3,e3,eY⟩:=sC;simp at e3;obtain⟨rfl,rfl⟩:=e3;exact YB k ih w _ t e b2 v W2 D wr.heap.size W.heap.size fJ qm fx eY (aj cX (ak wr _) i6) ((cX.cell (p:=⟨W.heap.size,0,none⟩) (by simp;omega)).trans abN)) bb mO
    rcases gm hA with⟨bb,I,U⟩|⟨I,U⟩
    .obtain⟨x,dt,dF⟩:=jQ6.1 I;cases x with
     |false=>simp at dF
     |true=>
      have h:false=bb:=G9 dF
      subst h;subst U;have ag:=Oc false (by have:=aX dt;simpa using this);have h:false=r:=G9 bM.1
      subst h;clear Oc I dt hA hv hE ht dF abN;go_wp21;refine ag.mono ?_;rintro e w2 ⟨rfl,cX⟩;have dP:=Z (HB.1.trans (cX.mono HB.1.size));clear cX ag;go_wp2;go_ret;exact⟨rfl,HA.1.trans (dP.1.mono HA.1.size)⟩
    .obtain⟨x,dt,dF⟩:=jQ6.1 I;cases x with
     |true=>simp at dF
     |false=>
      have ag:=Oc true (by have:=aX dt;simpa using this);have H2:=Z U;clear Oc I dt hA hv hE ht dF abN U;go_wp21;refine ag.mono ?_;rintro e w2 ⟨rfl,cX⟩;have dP:=Z (HB.1.trans (cX.mono HB.1.size));clear cX ag;go_wp21;go_roundg (want.length - (kk+1))
      case measure=>omega
      case rel=>exact⟨kk+1,M,M,by go_num,dP.1,H2.1⟩
   .have aR:¬(kk:Int)<(want.length:Int):=M
    have hA:=A.out;rw[jQf M]at hA;have h:none=res:=by simpa[rangeM]using hA
    subst h;have h:true=r:=G9 bM.1
    subst h;clear hA;go_wp2;go_ret;exact⟨rfl,HA.1.trans (BW.out.mono HA.1.size)⟩
def Ny(k:Nat):Prop:=∀(w:List ah) (ws:Value) (t:Y) (st r:Bool) (v:Value) (W:World) (D:Qx),compared w k t st=some r->Cx D w ws W->RT D W t v->
 Calls prog 271 #[ws,v,.bool st] W (ef W r)
def Ps(k:Nat)(ih:Ny k)(w ws t)(st r:Bool)(v W D)(Bw Bs:Nat)(j:bh (compared w k t st)=some r)(H:Cx D w ws W)(hv:RT D W t v)(lR:ce W Bw 0 ws)(hBs:ce W Bs 0 (.bool st)):
 Calls prog 272 #[v,.pointer (some ⟨Bw,0,none⟩),.pointer (some ⟨Bs,0,none⟩)] W (ef W r):=by
 have Dm:=jQs lR;have ag5:=jQs hBs;simp only at Dm ag5;obtain⟨a,c,rfl,hs⟩:=hv.bR;obtain⟨wa,wc,rfl⟩:=H.rd.form;have HA:=Z (an W (bx t a c));have dt:=H.mv HA.1;have ag:=ih w _ t st _ _ _ D (aX j) dt (hv.mv H.lo HA.1);clear j dt H hv hs;exact M24
def AW(k:Nat):Ny k:=by
 induction k with
 |zero=>intro w ws t st r v W D h;simp[compared]at h
 |succ k ih=>
  intro w ws t st r v W D j H hv;obtain⟨i,hi,j⟩:=jQ1.1 j;obtain⟨a,c,rfl,hs⟩:=hv.bR;obtain⟨wa,wc,rfl⟩:=H.rd.form;have HA:=Z (pE W (.cells #[.slice wa w.length wc] 22) (bx t a c) (.cells #[.bool st] 4));have dt:=H.mv HA.1;have dr:=hv.mv H.lo HA.1;have ag:=dh w _ t i _ _ D hi dt.lo dt.rd dr;obtain⟨HP,HX,HV⟩:=Z3 j H hv;clear j dt H hv hs hi dr;go_in;go_wp21;refine ag.mono ?_;rintro e w1 ⟨rfl,ar⟩;have lR:=jQh (aj ar (aq (aq (ak W (.cells #[.slice wa w.length wc] 22)))) (by simp;omega));obtain⟨c0,c1,c2,c3,c4,c5,c6⟩:=ao (aj ar (aq (ak _ (bx t a c))) i6);have hBs:=jQh (aj ar (ak _ (.cells #[.bool st] 4)) i6);simp only[jQ3]at c0 c1 c2 c3 c4 c5 c6 hBs;have HB:=Z (HA.1.trans (ar.mono HA.1.size));have hz:=ar.size;simp only[jQ3]at hz;clear ar ag;cases i with
  |true=>
   have h:(!st)=r:=G9 HP.1
   subst h;exact M40
  |false=>
   have j:=HP.1;simp only[jQk,jR1]at j;obtain⟨u,hu,j⟩:=jQ1.1 j;have dF:=HX.1.mv HB.1;have ag:=dG w _ t u _ w1 D hu dF.lo dF.rd (HV.1.mv HX.1.lo HB.1);have pG:=Z j;clear j hu dF HP;go_wp21;refine ag.mono ?_;rintro e w2 ⟨v2,rfl,nT,cX⟩;obtain⟨a2,xv,rfl,eX⟩:=nT.bR;have dP:=Z (HB.1.trans (cX.mono HB.1.size));have ag6:=(cX.cell (p:=⟨W.heap.size,0,none⟩) (by simp;omega)).trans lR;have ag7:=(cX.cell (p:=⟨W.heap.size+1+1,0,none⟩) (by simp;omega)).trans hBs;have j7:=cX.size;have HS:=Z eX;have j:=pG.1;clear cX ag nT lR hBs c0 c1 c2 c3 c4 c5 c6 eX pG;have fV:W.heap.size<w2.heap.size:=M
   have fh:W.heap.size+1+1<w2.heap.size:=M
   have HC:=Z (dP.1.alloc M (bx u a2 xv));by_cases I:u.ld=1
   .have h:true=r:=by simpa[I]using j
    subst h;clear j;exact M132
   have k1:(u.ld==1)=false:=by simp[I]
   by_cases h6:u.ld=6
   .have h:true=r:=by simpa[h6]using j
    subst h;clear j I;exact M132
   have k6:(u.ld==6)=false:=by simp[h6]
   by_cases h9:u.ld=9
   .have h:true=r:=by simpa[h9]using j
    subst h;clear j I h6;exact M132
   have k9:(u.ld==9)=false:=by simp[h9]
   simp only[I,h6,h9,or_false,jR1]at j;by_cases h53:u.ld=5\/u.ld=3
   .rw[jQ7 h53]at j;have qm:=(HX.1.mv HC.1).up (n:=w1.heap.size) (HX.1.lo.mono M) (by simp;omega);have eY:=HS.1.move (W':=w2.alloc (bx u a2 xv)) (D':=Up D w1.heap.size (w2.alloc (bx u a2 xv)).heap.size) ((au.refl.alloc (Up.lo (HX.1.lo.mono M) M) _).wide (Up.mono M i6));have Z7q:(w2.alloc (bx u a2 xv)).cell? ⟨W.heap.size,0,none⟩=some (.slice wa w.length wc):=by
     rw[World.cell?_alloc_past _ _ _ fV];exact ag6
    have hB4:(w2.alloc (bx u a2 xv)).cell? ⟨W.heap.size+1+1,0,none⟩=some (.bool st):=by
     rw[World.cell?_alloc_past _ _ _ fh];exact ag7
    have ag:=cL u.li _ _ _ eY qm.lo 272 #[.pointer (some ⟨W.heap.size,0,none⟩),.pointer (some ⟨W.heap.size+1+1,0,none⟩)] Tryz.call272 _ (λW1 e v bb ar _ dr ke=>
     Ps k ih w _ e st bb v W1 _ _ _ ke (qm.mv ar) dr ((ar.cell (p:=⟨W.heap.size,0,none⟩) (by simp;omega)).trans Z7q) ((ar.cell (p:=⟨W.heap.size+1+1,0,none⟩) (by simp;omega)).trans hB4)) _ (aX j)
    have D8:=mkf;have H53:=Z h53;clear qm eY Z7q hB4 j I h6 h9 h53;by_cases h5:u.ld=5
    .have k5:(u.ld==5)=true:=by simp[h5]
     exact M117
    .have k5:(u.ld==5)=false:=by simp[h5]
     have k3:(u.ld==3)=true:=by have:=H53.1;simpa[h5]using this
     exact M117
   .rw[jQ4 h53]at j;have h:false=r:=G9 j
    subst h;have k5:(u.ld==5)=false:=by simp;omega
    have k3:(u.ld==3)=false:=by simp;omega
    clear j I h6 h9 h53;exact M132
def qV(k:Nat)(w ws t)(r:Bool)(v W D)(j:compared w k t true=some r)(H:Cx D w ws W)(hv:RT D W t v):
 Calls prog 265 #[ws,v] W (ef W r):=by
 obtain⟨a,c,rfl,hs⟩:=hv.bR;obtain⟨wa,wc,rfl⟩:=H.rd.form;have HA:=Z (an W (bx t a c));have ag:=AW k w _ t true _ _ _ D j (H.mv HA.1) (hv.mv H.lo HA.1);clear j H hv hs;exact M6
def LP(n f k:Nat):Prop:=∀(w:List ah) (ws:Value) (x t:Y) (r:Bool) (vx vt:Value) (W:World) (D:Qx),inSet (ident n w) f w k x t=some r->Cx D w ws W->RT D W x vx->RT D W t vt->
 Calls prog 254 #[ws,vx,vt] W (ef W r)
@[go_sem ↓] theorem ac5(b o n c:Nat)(hn:¬n=0)(w):(Instr.indexAt 23 (.slice (some ⟨b,o,none⟩) n c) (.int .i64 0)).run prog w=.ok (.pointer (some ⟨b,o,none⟩)) w:=by
 go_simp
def ahb(n f k:Nat)(ih:LP n f k)(w ws x e)(r:Bool)(v W D)(Bw Bx:Nat)(j:inSet (ident n w) f w k x e=some r)(H:Cx D w ws W)(hv:RT D W e v)(hm:RS D W x.li (.slice am x.li.length cm))(Rj:W.heap[Bx]?=some (bx x am cm))(lR:ce W Bw 0 ws):
 Calls prog 264 #[v,.pointer (some ⟨Bw,0,none⟩),.pointer (some ⟨Bx,0,none⟩)] W (ef W r):=by
 have Dm:=jQs lR;have ahc:=jQ2 Rj;simp only at Dm;obtain⟨c0,c1,c2,c3,c4,c5,c6⟩:=ao Rj;obtain⟨a,c,rfl,hs⟩:=hv.bR;obtain⟨wa,wc,rfl⟩:=H.rd.form;have HA:=Z (an W (bx e a c));have ag:=ih w _ x e _ _ _ _ D (j) (H.mv HA.1) ((RT.mk' hm).mv H.lo HA.1) (hv.mv H.lo HA.1);clear j H hv hm hs Rj;exact M24
def ahd(n f k:Nat)(ih:LP n f k)(w ws x e)(r:Bool)(v W D)(Bw Bx:Nat)(j:bh (inSet (ident n w) f w k x e)=some r)(H:Cx D w ws W)(hv:RT D W e v)(hm:RS D W x.li (.slice am x.li.length cm))(Rj:W.heap[Bx]?=some (bx x am cm))(lR:ce W Bw 0 ws):
 Calls prog 267 #[v,.pointer (some ⟨Bw,0,none⟩),.pointer (some ⟨Bx,0,none⟩)] W (ef W r):=by
 have Dm:=jQs lR;have ahc:=jQ2 Rj;simp only at Dm;obtain⟨c0,c1,c2,c3,c4,c5,c6⟩:=ao Rj;obtain⟨a,c,rfl,hs⟩:=hv.bR;obtain⟨wa,wc,rfl⟩:=H.rd.form;have HA:=Z (an W (bx e a c));have ag:=ih w _ x e _ _ _ _ D (aX j) (H.mv HA.1) ((RT.mk' hm).mv H.lo HA.1) (hv.mv H.lo HA.1);clear j H hv hm hs Rj;exact M24
def IT(n f:Nat)(hid:pD n)(k:Nat):LP n f k:=by
 induction k with
 |zero=>intro w ws x t r vx vt W D h;simp[inSet]at h
 |succ k ih=>
  intro w ws x t0 r vx vt W D j H xH hvt;obtain⟨t,ht,j⟩:=jQ1.1 j;obtain⟨ax,cx,rfl,Z2⟩:=xH.bR;obtain⟨pY,zL,rfl,cH⟩:=hvt.bR;obtain⟨wa,wc,rfl⟩:=H.rd.form;have HA:=Z (pE W (.cells #[.slice wa w.length wc] 22) (bx x ax cx) (bx t0 pY zL));have ag:=jr _ t0 t _ _ D (jQ0 _) ht (H.mv HA.1).lo (hvt.mv H.lo HA.1);have HP:=Z j;have HX:=Z H;have HV:=Z xH;have CQ:=Z Z2;clear j H xH hvt Z2 cH ht;go_in;go_wp21;refine ag.mono ?_;rintro e w1 ⟨v1,rfl,fP,ar⟩;obtain⟨a1,zd,rfl,cz⟩:=fP.bR;have Xq:=aj ar (aq (aq (ak W (.cells #[.slice wa w.length wc] 22)))) (by simp;omega);have abw:=aj ar (aq (ak _ (bx x ax cx))) i6;have PD:=aj ar (ak _ (bx t0 pY zL)) i6;have bS:=Z (HA.1.trans (ar.mono HA.1.size));have gj:=ar.size;simp only[jQ3]at abw PD gj cz;have gV:=Z cz;clear ar ag fP cz;go_wp2_with (refine fN rfl _ _ rfl (W.heap.size+1+1) rfl rfl PD rfl ?_);intro w2 fJ;have lR:=fJ.cR Xq M;have Rj:=fJ.cR abw M;have zK:=fJ.here;have HB:=Z (fJ.below bS.1 M);have eX:=gV.1.move (fJ.aJ (D:=Up D (W.heap.size+1+1+1) w1.heap.size) (by intro h;obtain h|h:=h;exact absurd (HX.1.lo _ h) M;omega));have hz:=gj;rw[<-fJ.size]at hz eX;have HS:=Z eX;clear eX fJ gj Xq abw PD bS gV;obtain⟨c0,c1,c2,c3,c4,c5,c6⟩:=ao zK;obtain⟨d0,d1,d2,d3,d4,d5,d6⟩:=ao Rj;have e0:=jQh lR;have fV:W.heap.size<w2.heap.size:=M
  have dQ:W.heap.size+1<w2.heap.size:=M
  have fh:W.heap.size+1+1<w2.heap.size:=M
  have kp:=Z ((HX.1.mv HB.1).up (n:=W.heap.size+1+1+1) (HX.1.lo.mono M) M);have En:=Z ((HV.1.mv HX.1.lo HB.1).move (D':=Up D (W.heap.size+1+1+1) w2.heap.size) (au.refl.wide Up.of));have aek:=Z ((CQ.1.mv HX.1.lo HB.1).move (D':=Up D (W.heap.size+1+1+1) w2.heap.size) (au.refl.wide Up.of));have HVT:=Z (RT.mk' HS.1);have qM:=Z Rj;have HBT:=Z zK;have ej:=Z e0;have j:=HP.1;clear HP zK Rj lR;have D8:=mkf;by_cases cQ:t.ld=12
  .rw[jQ7 cQ]at j;have tT:(t.ld==12)=true:=by simp[cQ]
   have ag:=cL t.li _ _ _ HS.1 kp.1.lo 264 #[.pointer (some ⟨W.heap.size,0,none⟩),.pointer (some ⟨W.heap.size+1,0,none⟩)] Tryz.call264 _ (λW1 e v bb ar _ dr ke=>
    ahb n f k ih w _ x e bb v W1 _ _ _ ke (kp.1.mv ar) dr (aek.1.mv kp.1.lo ar) (aj ar qM.1 dQ) ((ar.cell (p:=⟨W.heap.size,0,none⟩) fV).trans ej.1)) _ j
   clear j cQ;exact M145
  have tT:(t.ld==12)=false:=by simp[cQ]
  rw[jQ4 cQ]at j;by_cases cg:t.ld=13
  .rw[jQ7 cg]at j;obtain⟨ux,hux,j⟩:=jQ1.1 j;obtain⟨e,he,j⟩:=jQ1.1 j;have ll:(t.ld==13)=true:=by simp[cg]
   have lT:(0:Int)<(t.li.length:Int):=by
    cases hh:t.li with
    |nil=>rw[hh]at he;simp at he
    |cons=>simp
   rcases aN.1 HS.1 with⟨Gb,_⟩|⟨bk,b,o,c',dN,Jd,jG,kN,hC⟩
   .rw[Gb]at he;simp at he
   simp at dN;obtain⟨rfl,rfl⟩:=dN;obtain⟨a3,c3',f0,f1,f2,f3,f4,f5,f6,uz⟩:=(hC.at he).bR;simp only[Nat.zero_mul,Nat.add_zero]at f0 f1 f2 f3 f4 f5 f6;have HVE:=Z uz;have j6:=kp.1.lo b kN;have aF:=Z<|λ(O:World) (hb:S5 w2 O)=>dG w _ x ux _ O _ hux (kp.1.mv hb).lo (kp.1.mv hb).rd (En.1.mv kp.1.lo hb);have H2:=Z j;clear j cQ cg uz hC hux he;go_wp21;have hS:=Z (show∀O,S5 w2 O->(λO=>S5 w2 O/\ce O W.heap.size 0 (.slice wa w.length wc)/\V9 O (W.heap.size+1) x ax cx (ce O (W.heap.size+1+1) 6 (.slice (some ⟨b,o,none⟩) t.li.length zd)/\ce O b o (.int .i64 e.ld)/\ce O b (o+1) (.int .i64 e.n)/\ce O b (o+2) (.int .i64 e.m)/\ce O b (o+3) (.bool e.va)/\ce O b (o+4) (.string e.name)/\ce O b (o+5) (.string e.gc)/\ce O b (o+6) (.slice a3 e.li.length c3'))) O from λO hb=>⟨hb,(hb.cell (p:=⟨W.heap.size,0,none⟩) (by first|exact fV|exact dQ|exact fh)).trans ej.1,S8 hb (by first|exact fV|exact dQ|exact fh) d0 d1 d2 d3 d4 d5 d6 ⟨(hb.cell (p:=⟨W.heap.size+1+1,6,none⟩) (by first|exact fV|exact dQ|exact fh)).trans c6,(hb.cell (p:=⟨b,o,none⟩) j6).trans f0,(hb.cell (p:=⟨b,o+1,none⟩) j6).trans f1,(hb.cell (p:=⟨b,o+2,none⟩) j6).trans f2,(hb.cell (p:=⟨b,o+3,none⟩) j6).trans f3,(hb.cell (p:=⟨b,o+4,none⟩) j6).trans f4,(hb.cell (p:=⟨b,o+5,none⟩) j6).trans f5,(hb.cell (p:=⟨b,o+6,none⟩) j6).trans f6⟩⟩);have mV:=Z<|λ(O:World) (v3:Value) (hb:S5 w2 O) (hr:RT (Up (Up D (W.heap.size+1+1+1) w2.heap.size) w2.heap.size O.heap.size) O ux v3)=>
    hid w _ ux e r v3 _ O _ H2.1 ((kp.1.mv hb).up (n:=w2.heap.size) kp.1.lo hb.size) hr ((HVE.1.mv kp.1.lo hb).move (au.refl.wide Up.of))
   go_region_held3 (λO=>S5 w2 O/\ce O W.heap.size 0 (.slice wa w.length wc)/\V9 O (W.heap.size+1) x ax cx (ce O (W.heap.size+1+1) 6 (.slice (some ⟨b,o,none⟩) t.li.length zd)/\ce O b o (.int .i64 e.ld)/\ce O b (o+1) (.int .i64 e.n)/\ce O b (o+2) (.int .i64 e.m)/\ce O b (o+3) (.bool e.va)/\ce O b (o+4) (.string e.name)/\ce O b (o+5) (.string e.gc)/\ce O b (o+6) (.slice a3 e.li.length c3')))
    (first|exact hS.1 _ (jQ5 _ _).drew|assumption)
    (first
     |(go_at_call 48;have hh:=‹S5 w2 _/\_›;refine(aF.1 _ hh.1).mono ?_;rintro e3 w3 ⟨v3,rfl,FG,aZ⟩;have dI:=hh.1.trans (aZ.mono hh.1.size);have hS4:=hS.1 _ dI;have HR3:=Z (FG.move (au.refl.wide (Up.mono hh.1.size (jQ0 _))));clear FG)
     |(go_at_call 178;have hh:=‹S5 w2 _/\_›;refine(mV.1 _ _ hh.1 HR3.1).mono ?_;rintro e5 w5 ⟨rfl,iD⟩;have gS:=hh.1.trans (iD.mono hh.1.size);have hS6:=hS.1 _ gS))
   go_wp2;go_ret;exact⟨rfl,HB.1.trans (gS.mono HB.1.size)⟩
  have ll:(t.ld==13)=false:=by simp[cg]
  rw[jQ4 cg]at j;by_cases ir:t.ld=16
  .rw[jQ7 ir]at j;have yr:(t.ld==16)=true:=by simp[ir]
   have ag:=qV f w _ x r _ w2 _ j kp.1 En.1;clear j cQ cg ir;exact M145
  have yr:(t.ld==16)=false:=by simp[ir]
  rw[jQ4 ir]at j;obtain⟨i,hi,j⟩:=jQ1.1 j;have ag:=dh w _ t i _ w2 _ hi kp.1.lo kp.1.rd HVT.1;have HP:=Z j;clear j cQ cg ir hi;go_wp21;refine ag.mono ?_;rintro e w3 ⟨rfl,aZ⟩;clear ag tT ll yr;have tW:=Z (kp.1.mv aZ);have ael:=Z (En.1.mv kp.1.lo aZ);have Tv:=Z (HVT.1.mv kp.1.lo aZ);have ahe:=Z (aek.1.mv kp.1.lo aZ);have Fm:=Z (aj aZ qM.1 dQ);have X8:=Z (aj aZ HBT.1 fh);have aem:=Z ((aZ.cell (p:=⟨W.heap.size,0,none⟩) fV).trans ej.1);have kL:=Z (HB.1.trans (aZ.mono HB.1.size));have Xv:=aZ.size;replace fV:W.heap.size<w3.heap.size:=M
  replace dQ:W.heap.size+1<w3.heap.size:=M
  replace fh:W.heap.size+1+1<w3.heap.size:=M
  clear c0 c1 c2 c3 c4 c5 c6 d0 d1 d2 d3 d4 d5 d6 e0;obtain⟨c0,c1,c2,c3,c4,c5,c6⟩:=ao X8.1;obtain⟨d0,d1,d2,d3,d4,d5,d6⟩:=ao Fm.1;have e0:=aem.1;cases i with
  |false=>
   have j:ident n w x t=some r:=G9 HP.1
   have ag:=hid w _ x t r _ _ w3 _ j tW.1 ael.1 Tv.1;clear j;go_wp21;refine ag.mono ?_;rintro e w4 ⟨rfl,dI⟩;have HD:=Z (kL.1.trans (dI.mono kL.1.size));clear dI ag;exact M82
  |true=>
   have j:=HP.1;simp only[jRt,jQk,jR1]at j;obtain⟨u,hu,j⟩:=jQ1.1 j;have ag:=dG w _ t u _ w3 _ hu tW.1.lo tW.1.rd Tv.1;have pG:=Z j;clear j hu HP;go_wp21;refine ag.mono ?_;rintro e w4 ⟨v4,rfl,Wo,dI⟩;obtain⟨a4,Rk,rfl,nU⟩:=Wo.bR;clear ag;have LQ:=Z (tW.1.mv dI);have ahf:=Z (ael.1.mv tW.1.lo dI);have ahg:=Z (Tv.1.mv tW.1.lo dI);have ahh:=Z (ahe.1.mv tW.1.lo dI);have aen:=Z (aj dI Fm.1 dQ);have aeo:=Z (aj dI X8.1 fh);have aep:=Z ((dI.cell (p:=⟨W.heap.size,0,none⟩) fV).trans aem.1);have xL:=Z (kL.1.trans (dI.mono kL.1.size));have Xv:=dI.size;replace fV:W.heap.size<w4.heap.size:=M
   replace dQ:W.heap.size+1<w4.heap.size:=M
   replace fh:W.heap.size+1+1<w4.heap.size:=M
   clear c0 c1 c2 c3 c4 c5 c6 d0 d1 d2 d3 d4 d5 d6 e0;obtain⟨c0,c1,c2,c3,c4,c5,c6⟩:=ao aeo.1;obtain⟨d0,d1,d2,d3,d4,d5,d6⟩:=ao aen.1;have e0:=aep.1;have aeq:=dI.size;have Bj:=Z nU;have aer:=Z (Up.lo (n:=w3.heap.size) tW.1.lo Xv);clear nU Wo;have hBo:=ak w4 (.cells #[.int .i64 0,.int .i64 0,.int .i64 0,.bool false,.string ⟨#[]⟩,.string ⟨#[]⟩,.slice none 0 0] 25);go_wp2_with (refine fN rfl _ _ rfl w4.heap.size rfl rfl (ak w4 _) rfl ?_);intro w5 kC;have iD:=kC.below (an w4 _) (jQ0 _);have Kl:=kC.size;simp only[jQ3]at Kl;obtain⟨g0,g1,g2,g3,g4,g5,g6⟩:=ao kC.here;clear kC hBo;have Kz:=Z (LQ.1.mv iD);have aes:=Z (ahf.1.mv LQ.1.lo iD);have HVT5:=Z (ahg.1.mv LQ.1.lo iD);have ahi:=Z (ahh.1.mv LQ.1.lo iD);have PE:=Z (aj iD aen.1 dQ);have ahj:=Z (aj iD aeo.1 fh);have abx:=Z ((iD.cell (p:=⟨W.heap.size,0,none⟩) fV).trans aep.1);have xx:=Z (xL.1.trans (iD.mono xL.1.size));have Xv:=iD.size;replace fV:W.heap.size<w5.heap.size:=M
   replace dQ:W.heap.size+1<w5.heap.size:=M
   replace fh:W.heap.size+1+1<w5.heap.size:=M
   clear c0 c1 c2 c3 c4 c5 c6 d0 d1 d2 d3 d4 d5 d6 e0;obtain⟨c0,c1,c2,c3,c4,c5,c6⟩:=ao ahj.1;obtain⟨d0,d1,d2,d3,d4,d5,d6⟩:=ao PE.1;have e0:=abx.1;have hl4:w4.heap.size<w5.heap.size:=M
   have X9:w3.heap.size<=w5.heap.size:=M
   have HS5:=Z (Bj.1.move (aer.1.aJ iD));have aet:=Z (aer.1.mono iD.size);clear iD Xv Kl;have j:=pG.1;by_cases u16:u.ld=16
   .rw[jQ7 u16]at j;have yr:(u.ld==16)=true:=by simp[u16]
    have ag:=qV f w _ x r _ w5 _ j Kz.1 aes.1;clear j u16;exact M146
   rw[jQ4 u16]at j;have yr:(u.ld==16)=false:=by simp[u16]
   obtain⟨ms,jK,j⟩:=jQ1.1 j;obtain⟨want,aab,j⟩:=jQ1.1 j;obtain⟨h,hh,j⟩:=jQ1.1 j;obtain⟨pT,EF⟩:=HS5.1.upto aab;have HSW:=Z EF;have Rl:=Z j;have hS:=Z (show∀O,S5 w5 O->(λO=>S5 w5 O/\ce O W.heap.size 0 (.slice wa w.length wc)/\V9 O (W.heap.size+1) x ax cx (ce O w4.heap.size 2 (.int .i64 u.m)/\ce O w4.heap.size 6 (.slice a4 u.li.length Rk))) O from λO hb=>⟨hb,(hb.cell (p:=⟨W.heap.size,0,none⟩) (by first|exact fV|exact dQ|exact fh)).trans abx.1,S8 hb (by first|exact fV|exact dQ|exact fh) d0 d1 d2 d3 d4 d5 d6 ⟨(hb.cell (p:=⟨w4.heap.size,2,none⟩) hl4).trans g2,(hb.cell (p:=⟨w4.heap.size,6,none⟩) hl4).trans g6⟩⟩);have aF:=Z<|λ(O:World) (hb:S5 w5 O)=>zj w _ x ms _ O _ jK (Kz.1.mv hb) (aes.1.mv Kz.1.lo hb);have aac:=Z<|λ(O:World) (v3:Value) (hb:S5 w5 O) (hr:RS (Up (Up D (W.heap.size+1+1+1) w2.heap.size) w5.heap.size O.heap.size) O ms v3)=>
    pz n hid w _ ms want h v3 _ O _ hh ((Kz.1.mv hb).up (n:=w3.heap.size) tW.1.lo (jQd X9 hb.size))
     (hr.move (au.refl.wide (Up.mono X9 (jQ0 _)))) ((HSW.1.mv aet.1 hb).move (au.refl.wide (Up.mono (jQ0 _) (V5 hb.size))))
   clear j jK aab hh EF pG;cases h with
   |false=>
    have h:false=r:=G9 Rl.1
    subst h;go_wp21
    go_region_held3 (λO=>S5 w5 O/\ce O W.heap.size 0 (.slice wa w.length wc)/\V9 O (W.heap.size+1) x ax cx (ce O w4.heap.size 2 (.int .i64 u.m)/\ce O w4.heap.size 6 (.slice a4 u.li.length Rk)))
     (first|exact hS.1 _ (jQ5 _ _).drew|assumption)
     (first
      |(go_at_call 266;have hh:=‹S5 w5 _/\_›;refine(aF.1 _ hh.1).mono ?_;rintro e3 w6 ⟨v6,rfl,NN,gS⟩;have ek:=hh.1.trans (gS.mono hh.1.size);have hS7:=hS.1 _ ek;have Ya:=Z (NN.move (au.refl.wide (Up.mono hh.1.size (jQ0 _))));clear NN)
      |(go_at_call 144;have hh:=‹S5 w5 _/\_›;refine(aac.1 _ _ hh.1 Ya.1).mono ?_;rintro e5 w8 ⟨rfl,nN⟩;replace nN:=hh.1.trans (nN.mono hh.1.size);have hS8:=hS.1 _ nN))
    go_wp2;go_ret;exact⟨rfl,xx.1.trans (nN.mono xx.1.size)⟩
   |true=>
    have j:=Rl.1;simp only[jRt,jQk,jR1]at j;obtain⟨l,hl,j⟩:=jQ1.1 j;have HP4:=Z j;have HL:=Z hl;clear j hl Rl;go_wp21
    go_region_held3 (λO=>S5 w5 O/\ce O W.heap.size 0 (.slice wa w.length wc)/\V9 O (W.heap.size+1) x ax cx (ce O w4.heap.size 2 (.int .i64 u.m)/\ce O w4.heap.size 6 (.slice a4 u.li.length Rk)))
     (first|exact hS.1 _ (jQ5 _ _).drew|assumption)
     (first
      |(go_at_call 266;have hh:=‹S5 w5 _/\_›;refine(aF.1 _ hh.1).mono ?_;rintro e3 w6 ⟨v6,rfl,NN,gS⟩;have ek:=hh.1.trans (gS.mono hh.1.size);have hS7:=hS.1 _ ek;have Ya:=Z (NN.move (au.refl.wide (Up.mono hh.1.size (jQ0 _))));clear NN)
      |(go_at_call 144;have hh:=‹S5 w5 _/\_›;refine(aac.1 _ _ hh.1 Ya.1).mono ?_;rintro e5 w8 ⟨rfl,nN⟩;replace nN:=hh.1.trans (nN.mono hh.1.size);have hS8:=hS.1 _ nN))
    obtain⟨af,cf,mW,hsf⟩:=HS5.1.from HL.1;have ag:=cL l _ w8 _ ((hsf.mv aet.1 nN).move (au.refl.wide (Up.mono (jQ0 _) (jQd (Nat.le_of_lt hl4) nN.size)))) (Up.lo (n:=w3.heap.size) tW.1.lo (jQd X9 nN.size)) 267 #[.pointer (some ⟨W.heap.size,0,none⟩),.pointer (some ⟨W.heap.size+1,0,none⟩)] Tryz.call267 _ (λW1 e v bb ar _ dr ke=>by
     have zG:=nN.trans (ar.mono nN.size);exact ahd n f k ih w _ x e bb v W1 _ _ _ ke (((Kz.1.mv nN).up (n:=w3.heap.size) tW.1.lo (jQd X9 nN.size)).mv ar) dr ((ahi.1.mv Kz.1.lo zG).move (au.refl.wide Up.of)) (aj zG PE.1 dQ) ((zG.cell (p:=⟨W.heap.size,0,none⟩) fV).trans abx.1)) _ (aX HP4.1)
    clear hsf;go_wp21;refine ag.mono ?_;rintro e w9 ⟨rfl,zG⟩;have xB:=Z (nN.trans (zG.mono nN.size));clear zG ag;go_wp2;go_ret;exact⟨i6,xx.1.trans (xB.1.mono xx.1.size)⟩
def aha(D:Qx)(W:World)(l:List Y)(e:Ending)(W':World):Prop:=∃v',e=.returned v'/\dc D W.heap.size W' l v'/\S5 W W'
set_option maxRecDepth 100000 in
theorem I7(l:List Y)(sl:Value)(W:World)(D:Qx)(hs:RS D W l sl)(hD:Lo D W.heap.size)(cF:l.length<=1099511627776):
 Calls prog 179 #[sl] W (aha D W l):=by
 obtain⟨a,c,rfl⟩:=hs.form;have q23:∀(w:World) (a:Option Addr) (n c n' c':Nat),(binOp .eql 23 (.slice a n c) (.slice none n' c')).run prog w=.ok (.bool a.isNone) w:=λw a n c n' c'=>Lib.run_eql_slice_nil w _ _ a n c n' c' underlying23;by_cases hn:a=none
 .subst hn;rcases aN.1 hs with⟨rfl,a1,c1,e,I⟩|⟨bk,b,o',c',e,_⟩
  .go_in;go_wp2;go_ret;exact⟨_,rfl,dc.nil hD,jQ5 _ _⟩
  .simp at e
 .obtain⟨ad,rfl⟩:=Option.ne_none_iff_exists'.1 hn;have aL:dc D W.heap.size (W.alloc (.cells #[] 25)) [] (.slice (some ⟨W.heap.size,0,none⟩) 0 0):=
   ⟨[],World.ownsRow_made W #[] 0 (jQ0 _) (jQc _) rfl,by rw[RV],λb hb=>⟨by have:=hD b hb;simp;omega,by intro e;have:=hD b hb;simp[Value.ownBlock]at e;omega⟩⟩
  have cz:=hs.mv hD (an W (.cells #[] 25));have HO:=Z aL;have HS:=Z cz;clear hs aL cz;go_in;go_wp2_with (at_builtin;refine tU rfl _ _ rfl W.heap.size D _ [] rfl HO.1 _ l D HS.1 rfl (λb o h=>h.rv) (G9 cF) i6 ?_);intro v2 w2 U Dp I8;have B2:=Z ((an W (.cells #[] 25)).grown Dp i6 (λk hk=>(HO.1.lt k hk).1));exact M212
def LN(f m v W D)(Bm:Nat)(hv:RT D W f v)(Ez:W.heap[Bm]?=some (bx m am cm)):
 Calls prog 180 #[v,.pointer (some ⟨Bm,0,none⟩)] W (ef W (aE f.name m.name)):=M130
abbrev TE:=Y×Option Addr×Nat
def mE(x:TE):List Value:=[.int .i64 x.1.ld,.int .i64 x.1.n,.int .i64 x.1.m,.bool x.1.va,.string x.1.name,.string x.1.gc,.slice x.2.1 x.1.li.length x.2.2]
def RV.unz:∀{l:List Y} {xs:List Value},RV E W l xs->
 ∃d:List TE,d.map (·.1)=l/\xs=d.flatMap mE/\∀x∈d,RS E W x.1.li (.slice x.2.1 x.1.li.length x.2.2)
 |[],xs,h=>by rw[RV]at h;exact⟨[],rfl,by simp[h],i6⟩
 |t::l,xs,h=>by
  rw[RV]at h;obtain⟨a,c,rest,rfl,hs,h⟩:=h;obtain⟨d,I,U,h3⟩:=RV.unz h;refine⟨(t,a,c)::d,by simp[I],by simp[U,mE],?_⟩;intro x H;rcases jQn.1 H with rfl|H
  .exact hs
  .exact h3 x H
def RV.zip:∀{d:List TE},(∀x∈d,RS E W x.1.li (.slice x.2.1 x.1.li.length x.2.2))->RV E W (d.map (·.1)) (d.flatMap mE)
 |[],_=>by simp[RV]
 |x::d,h=>by
  rw[List.map_cons,RV];exact⟨x.2.1,x.2.2,d.flatMap mE,by simp[mE],h x i6,RV.zip λy hy=>h y (by simp[hy])⟩
def ue{α:Type}[Inhabited α](enc:α->List Value)(k:Nat)(hk:∀x,(enc x).length=k)(Vc:0<k)(d:List α):(flatK enc k d.toArray).toList=d.flatMap enc:=by
 induction d with
 |nil=>simp[flatK]
 |cons a d ih=>
  have hl:((a::d).flatMap enc).length=(a::d).length*k:=by
   simp[List.length_flatMap,hk,List.map_const'];simp[Nat.add_mul,Nat.add_comm]
  apply List.ext_getElem
  .rw[hl];simp
  .intro t I U;have ht:t<(a::d).length*k:=by rw[hl]at U;exact U
   have e1:(flatK enc k (a::d).toArray).toList[t]=(enc (a::d).toArray[t/k]!)[t%k]! :=by
    have:=get_flatK enc k (a::d).toArray t (G9 ht);rw[getElem!_pos _ t (G9 ht)]at this;exact M152
   rw[e1];simp only[List.flatMap_cons];by_cases aM:t<k
   .rw[List.getElem_append_left (by rw[hk];exact aM)];rw[Nat.div_eq_of_lt aM,Nat.mod_eq_of_lt aM];simp only[List.getElem!_toArray,List.getElem!_cons_zero];rw[getElem!_pos _ t (by rw[hk];exact aM)]
   .rw[List.getElem_append_right (by rw[hk];omega)];have Ng:t - k<d.length*k:=by simp only[List.length_cons,Nat.add_mul]at ht;omega
    have h3:(flatK enc k d.toArray).toList[t - k]'(G9 Ng)=(enc d.toArray[(t - k)/k]!)[(t - k)%k]! :=by
     have:=get_flatK enc k d.toArray (t - k) (G9 Ng);rw[getElem!_pos _ (t - k) (G9 Ng)]at this;exact M152
    have h4:(d.flatMap enc)[t - (enc a).length]'(by have:=U;simp only[List.flatMap_cons,jQo]at this;rw[hk]at this⊢;omega)=(flatK enc k d.toArray).toList[t - k]'(G9 Ng):=by
     simp only[hk,ih]
    rw[h4,h3];have e2:t/k=(t - k)/k+1:=by
     have:t=(t - k)+k:=M
     conv=>lhs;rw[this,Nat.add_div_right _ Vc]
    have e3:t%k=(t - k)%k:=by
     have:t=(t - k)+k:=M
     conv=>lhs;rw[this,Nat.add_mod_right]
    rw[e2,e3];simp
def fY(a b):bB a b=decide (a.name.toList<b.name.toList):=by
 unfold bB;exact bytesLess_eq _ _
def cfT(x y:TE):Int:=if bB x.1 y.1 then -1 else 1
def ltT(x y:TE):ltOf cfT x y=bB x.1 y.1:=by
 unfold ltOf cfT;cases bB x.1 y.1<;>simp
def ahq:SWO (ltOf cfT) where
 irrefl x:=by rw[ltT,fY];simp[List.lt_irrefl]
 trans x y z I U:=by
  rw[ltT,fY]at*;simp only[decide_eq_true_eq]at*;exact List.lt_trans I U
 ntrans x y z I U:=by
  rw[ltT,fY]at*;simp only[decide_eq_false_iff_not,List.not_lt]at*;exact List.le_trans U I
def Yn(E:Qx)(base:Nat)(W:World)(l:List Y)(v:Value)(e:Ending)(W':World):Prop:=
 e=.returned (.tuple #[])/\dc E base W' (l.mergeSort λa b=>!bB b a) v/\Below base W W'
def ML(x y:TE)(W):Calls prog 182 #[.agg (mE x).toArray,.agg (mE y).toArray] W λe O=>e=.returned (.int .i64 (cfT x y))/\∃q os',O=grow (W.drewN q) os':=by
 obtain⟨x,xa,xc⟩:=x;obtain⟨y,ya,yc⟩:=y;unfold mE cfT;simp only;cases h:bB x y with
 |true=>
  have h':Op.bytesLess x.name.toList y.name.toList=true:=h;exact M174
 |false=>
  have h':Op.bytesLess x.name.toList y.name.toList=false:=h;exact M174
def TK(jl off size:Nat)(w):CmpLays prog 182 #[] mE 7 cfT jl off size w:=
 λ_ _ _ _ x y=>ML x y _
def sortT_ren:Go.Shelf.Ren:=⟨λ|6=>181|15=>188|14=>215|28=>226|29=>227|20=>237|21=>238|22=>239|23=>240|24=>241|25=>242|26=>243|27=>244|46=>255|47=>246|48=>247|49=>256|50=>257|57=>268|n=>n,λ|22=>23|24=>25|25=>286|3=>3|39=>290|0=>0|53=>109|55=>332|4=>4|46=>324|45=>323|50=>328|5=>5|9=>9|66=>353|70=>357|76=>372|77=>373|n=>n,λ|n=>n⟩
def sortT:Go.Proofs.SlLaysF0.n6 prog sortT_ren:=⟨g9,⟨f181.name,i5,func181.trans (congrArg some g9)⟩,⟨f215.name,i5,func215.trans (congrArg some g9)⟩,func188.trans (congrArg some g9),⟨f237.name,i5,func237.trans (congrArg some g9)⟩,⟨f238.name,i5,func238.trans (congrArg some g9)⟩,⟨f239.name,i5,func239.trans (congrArg some g9)⟩,⟨f240.name,i5,func240.trans (congrArg some g9)⟩,⟨f241.name,i5,func241.trans (congrArg some g9)⟩,⟨f242.name,i5,func242.trans (congrArg some g9)⟩,⟨f243.name,i5,func243.trans (congrArg some g9)⟩,⟨f244.name,i5,func244.trans (congrArg some g9)⟩,func226.trans (congrArg some g9),func227.trans (congrArg some g9),⟨f255.name,i5,func255.trans (congrArg some g9)⟩,func246.trans (congrArg some g9),func247.trans (congrArg some g9),⟨f256.name,i5,func256.trans (congrArg some g9)⟩,⟨f257.name,i5,func257.trans (congrArg some g9)⟩,⟨f268.name,i5,func268.trans (congrArg some g9)⟩,underlying0,isAgg0,sizeOf0,zeroValue0,underlying3,isAgg3,sizeOf3,zeroValue3,underlying4,isAgg4,sizeOf4,zeroValue4,underlying5,isAgg5,sizeOf5,zeroValue5,underlying9,isAgg9,sizeOf9,zeroValue9,underlying23,isAgg23,sizeOf23,zeroValue23,underlying286,isAgg286,sizeOf286,zeroValue286,underlying290,isAgg290,sizeOf290,zeroValue290,underlying323,isAgg323,sizeOf323,zeroValue323,underlying324,isAgg324,sizeOf324,zeroValue324,underlying328,isAgg328,sizeOf328,zeroValue328,underlying109,isAgg109,sizeOf109,zeroValue109,underlying332,isAgg332,sizeOf332,zeroValue332,underlying353,isAgg353,sizeOf353,zeroValue353,underlying357,isAgg357,sizeOf357,zeroValue357,underlying372,isAgg372,sizeOf372,zeroValue372,underlying373,isAgg373,sizeOf373,zeroValue373⟩
def Gg{cur:Array Value}{e:TypeId}(F:Array Value)(hb:w.heap[g]?=some (.cells cur e (0,0))):
 (grow (putRow id (Sort.ahead w n) g 0 F) os).heap[g]?=some (.cells (putCells id 0 F cur) e (0,0)):=by
 have hg:g<w.heap.size:=(Array.getElem?_eq_some_iff.1 hb).1;exact M159
def DB(F:Array Value)(k:Nat)(hk:k<w.heap.size)(bk:k≠g):
 (grow (putRow id (Sort.ahead w n) g 0 F) os).heap[k]?=w.heap[k]?:=M160
def BF(cur F:Array Value)(h:F.size<=cur.size):(putCells id 0 F cur).toList.take F.size=F.toList:=M96
def Jm:∀{l:List Y},(l.map (·.name)).Nodup->∀{a b:Y},a∈l->b∈l->a.name=b.name->a=b
 |[],_,_,_,ha,_,_=>by simp at ha
 |x::l,h,a,b,ha,hb,e=>by
  rw[List.map_cons,List.nodup_cons]at h;rcases jQn.1 ha with Ld|Ld
  .rcases jQn.1 hb with ar|ar
   .rw[Ld,ar]
   .exact absurd (jQu.2 ⟨b,ar,by rw[<-Ld];exact e.symm⟩) h.1
  .rcases jQn.1 hb with ar|ar
   .exact absurd (jQu.2 ⟨a,Ld,by rw[<-ar];exact e⟩) h.1
   .exact Jm h.2 Ld ar e
def D9(j:d.Perm l)(uu:(l.map (·.name)).Nodup)(hs:d.Pairwise λa b=>(!bB b a)=true):d=l.mergeSort λa b=>!bB b a:=by
 have htr:∀a b c:Y,(!bB b a)=true->(!bB c b)=true->(!bB c a)=true:=λa b c I U=>by
  simp only[fY,Bool.not_eq_true',decide_eq_false_iff_not,List.not_lt]at*;exact List.le_trans I U
 have hto:∀a b:Y,((!bB b a)||(!bB a b))=true:=λa b=>by
  simp only[fY,Bool.or_eq_true,Bool.not_eq_true',decide_eq_false_iff_not,List.not_lt];exact List.le_total _ _
 have hm:=List.pairwise_mergeSort (le:=λa b=>!bB b a) htr hto l;have hpm:=List.mergeSort_perm l (λa b=>!bB b a);refine List.Perm.eq_of_pairwise (le:=λa b=>(!bB b a)=true) ?_ hs hm (j.trans hpm.symm);intro a b ha hb I U;have ha':=j.mem_iff.1 ha;have dD:=hpm.mem_iff.1 hb;simp only[fY,Bool.not_eq_true',decide_eq_false_iff_not,List.not_lt]at I U;have hn:a.name=b.name:=by
  have:a.name.toList=b.name.toList:=List.le_antisymm I U;by_cases h:a.name=b.name
  .exact h
  .have:=jX h;simp_all
 exact Jm uu ha' dD hn
def LY(E)(base:Nat)(W l v)(h:dc E base W l v)(uu:(l.map (·.name)).Nodup)(cF:l.length<=1099511627776)(hb:base<=W.heap.size):
 Calls prog 181 #[v,.func (.func 182) #[] #[]] W (Yn E base W l v):=by
 obtain⟨xs,aL,nr,hE⟩:=h;by_cases hl:l=[]
 .subst hl;obtain⟨a,c,rfl⟩:=dc.form ⟨xs,aL,nr,hE⟩;have:=Go.Proofs.AnyF.slices_SortFunc_none (P:=prog) (ρ:=sortT_ren) sortT a c (.func (.func 182) #[] #[]) W
  change Calls prog 181 _ _ _ at this
  refine this.mono ?_;rintro e O ⟨rfl,rfl⟩;exact⟨rfl,by rw[List.mergeSort_nil];exact⟨xs,aL,nr,hE⟩,jQ5 _ _⟩
 rcases aL.2 with⟨_,h0⟩|⟨g,cap,cur,rfl,hg,Sd,hn,hm,hs,ht⟩
 .exact absurd (jQe h0) hl
 obtain⟨d,hd1,O4,hd3⟩:=nr.unz;have Se:d.length=l.length:=by rw[<-hd1];simp
 have Ip:∀x,(mE x).length=7:=λ_=>rfl;have aM:=jQ2 Sd;have hH:HoldsK mE 7 W g 0 d.toArray:=by
  intro hp hj;have xe:=ue mE 7 Ip M d;have Sf:hp<(flatK mE 7 d.toArray).toList.length:=G9 hj
  have LZ:hp<l.length*7:=by have:=hj;simp at this;omega
  refine⟨?_,by simp[World.frozen?,Sd]⟩;have I:(cur.toList.take (l.length*7))[hp]?=(flatK mE 7 d.toArray).toList[hp]?:=by rw[ht,O4,xe]
  rw[List.getElem?_take_of_lt LZ]at I;simp only[World.cell?,Sd,jRd];simp only[Option.isSome_none,jQk,jR1];rw[<-jRr,I,jQp Sf];simp only[id];rw[getElem!_pos _ hp (G9 hj)];simp
 have Iz:=Go.Proofs.AnyQ.slices_SortFunc sortT 7 isAgg25 sizeOf25 mE Ip (λx u hu=>by simp[mE]at hu;rcases hu with rfl|rfl|rfl|rfl|rfl|rfl|rfl<;>rfl) cfT ahq 182 #[] g 0 cap d.toArray W Tryz.call182 (TK g 0 _ W) hH aM (by simp;omega)
 change Calls prog 181 _ _ _ at Iz
 have j8:d.toArray.size=l.length:=G9 Se
 rw[j8]at Iz;refine Iz.mono ?_;rintro e O ⟨rfl,d',n,os,⟨Xs,_,j⟩,Nh,rfl⟩;have Al:d'.size=l.length:=G9 (Xs.trans j8)
 have K6:d'.toList.Perm d:=M125
 have bo:d'.toList.map (·.1)=l.mergeSort λa b=>!bB b a:=by
  refine D9 (hd1▸K6.map _) uu ?_;rw[List.pairwise_map,List.pairwise_iff_getElem];intro i hp hi hj hij;have:=Nh i hp (jQc _) hij (by simpa[Al]using hj);rw[ltT,getElem!_pos _ hp (G9 hj),getElem!_pos _ i (G9 hi)]at this;exact M152
 have hF:(flatK mE 7 d').size=l.length*7:=by simp[Al]
 have j6:∀b,b<W.heap.size->b≠g->(sortWorldK mE 7 W g 0 n d' os).heap[b]?=W.heap[b]?:=λb hb bk=>DB _ b hb bk;have hwz:W.heap.size<=(sortWorldK mE 7 W g 0 n d' os).heap.size:=by
  unfold sortWorldK grow putRowK;simp[Sort.ahead]
 have gP:(l.mergeSort λa b=>!bB b a).length=l.length:=i6
 refine⟨rfl,⟨d'.toList.flatMap mE,⟨?_,.inr ⟨g,cap,putCells id 0 (flatK mE 7 d') cur,by rw[gP],hg,Gg _ Sd,by rw[gP];exact hn,hm,by simp[putCells,hs],?_⟩⟩,?_,?_⟩,?_⟩
 .rw[<-ue mE 7 Ip M];simp[Al]
 .rw[gP,<-hF,BF _ _ (by rw[hF,hs];exact Nat.mul_le_mul_right 7 hn),<-ue mE 7 Ip M]
 .rw[<-bo];refine RV.zip λx H=>?_;have hx':=K6.mem_iff.1 H;refine(hd3 x hx').move λb hb=>⟨hb,j6 b (hE b hb).1 ?_⟩;intro e;subst e;exact(hE _ hb).2 rfl
 .intro b dD;exact⟨jQb (hE b dD).1 hwz,(hE b dD).2⟩
 .exact⟨rfl,rfl,rfl,hwz,λb dD=>j6 b M M⟩
abbrev pv(p:S.Place):Value:=.agg #[.int .i64 p.decls,.bool p.value,.bool p.term]
abbrev px(p:S.Place):Obj:=.cells #[.int .i64 p.decls,.bool p.value,.bool p.term] 49
def NB(t:Y):Prop:=(∀x∈ei t,x.size<=9223372036854775807)/\(ei t).length<=9223372036854775807
def wZ:∀{l:List Y} {e:Y},e∈l->(ei e).length<=(fF l).length
 |a::l,e,h=>by
  rw[fF];rcases jQn.1 h with rfl|h
  .simp
  .have:=wZ h;simp;omega
def BM:∀l:List Y,l.length<=(fF l).length
 |[]=>i6
 |a::l=>by
  rw[fF];have:=BM l;have:1<=(ei a).length:=by obtain⟨k,n,m,va,nm,tg,l⟩:=a;rw[ei];simp
  simp;omega
def NB.elem{e:Y}(h:NB t)(he:e∈t.li):NB e:=⟨λx H=>h.1 x (jD he x H),by
 obtain⟨k,n,m,va,nm,tg,l⟩:=t;have U:=h.2;rw[ei]at U;have:=wZ (l:=l) (e:=e) he;simp at U;omega⟩
def NB.name(h:NB t):t.name.size<=9223372036854775807:=h.1 _ (EK t)
def NB.len(h:NB t):t.li.length<9223372036854775807:=by
 obtain⟨k,n,m,va,nm,tg,l⟩:=t;have U:=h.2;rw[ei]at U;have:=BM l;simp[Y.li]at U⊢;omega
def nQ{t:TypeId}{f:Nat×Nat}(h:w.heap[B]?=some (.cells #[v0,v1,v2] t f)):
 w.cell? ⟨B,0,none⟩=some v0/\w.cell? ⟨B,1,none⟩=some v1/\w.cell? ⟨B,2,none⟩=some v2:=by
 simp[World.cell?,h]
def xS(k:Nat):Prop:=∀(w:List ah) (ws:Value) (t:Y) (p:S.Place) (r:Bool) (v:Value) (W:World) (D:Qx),placed w k t p=some r->NB t->Cx D w ws W->RT D W t v->
 Calls prog 20 #[ws,v,pv p] W (ef W r)
def wg(k:Nat):Prop:=∀(w:List ah) (ws:Value) (l:List Y) (p:S.Place) (r:Bool) (v:Value) (W:World) (D:Qx),allPlaced w k l p=some r->(∀e∈l,NB e)->Cx D w ws W->RS D W l v->
 Calls prog 45 #[ws,v,pv p] W (ef W r)
def Gl(k:Nat):Prop:=∀(w:List ah) (ws:Value) (t:Y) (p:S.Place) (r:Bool) (v:Value) (W:World) (D:Qx),placedInterface w k t p=some r->NB t->Cx D w ws W->RT D W t v->
 Calls prog 47 #[ws,v,pv p] W (ef W r)
def Gm(k:Nat):Prop:=∀(w:List ah) (ws:Value) (t:Y) (p:S.Place) (r:Bool) (v:Value) (W:World) (D:Qx),dz w k t p=some r->NB t->Cx D w ws W->RT D W t v->
 Calls prog 95 #[ws,v,pv p] W (ef W r)
def Gn(k:Nat):Prop:=∀(w:List ah) (ws:Value) (t:Y) (p:S.Place) (r:Bool) (v:Value) (W:World) (D:Qx),placedTerm w k t p=some r->NB t->Cx D w ws W->RT D W t v->
 Calls prog 135 #[ws,v,pv p] W (ef W r)
def ahw(k:Nat)(ih:xS k)(w ws e)(p:S.Place)(r:Bool)(v W D)(Bw Bp:Nat)(j:bh (placed w k e p)=some r)(hn:NB e)(H:Cx D w ws W)(hv:RT D W e v)(hB:ce W Bw 0 ws)(hP:W.heap[Bp]?=some (px p)):
 Calls prog 93 #[v,.pointer (some ⟨Bw,0,none⟩),.pointer (some ⟨Bp,0,none⟩)] W (ef W r):=M32
def ifC(k:Nat)(ih:Gm k)(w ws e)(p:S.Place)(r:Bool)(v W D)(Bw Bp:Nat)(j:bh (dz w k e p)=some r)(hn:NB e)(H:Cx D w ws W)(hv:RT D W e v)(hB:ce W Bw 0 ws)(hP:W.heap[Bp]?=some (px p)):
 Calls prog 94 #[v,.pointer (some ⟨Bw,0,none⟩),.pointer (some ⟨Bp,0,none⟩)] W (ef W r):=M32
def elC(k:Nat)(ih:Gn k)(w ws e)(p:S.Place)(r:Bool)(v W D)(Bw Bp:Nat)(j:bh (placedTerm w k e p)=some r)(hn:NB e)(H:Cx D w ws W)(hv:RT D W e v)(hB:ce W Bw 0 ws)(hP:W.heap[Bp]?=some (px p)):
 Calls prog 136 #[v,.pointer (some ⟨Bw,0,none⟩),.pointer (some ⟨Bp,0,none⟩)] W (ef W r):=M32
def PW(k:Nat)(ih:xS k):wg (k+1):=by
 intro w ws l p r v W D j hn H hv;rw[allPlaced]at j;have j:=aX j;obtain⟨wa,wc,rfl⟩:=H.rd.form;obtain⟨a,c,rfl⟩:=hv.form;have HA:=Z (dT W (.cells #[.slice wa w.length wc] 22) (px p));have fw:ce ((W.alloc (.cells #[.slice wa w.length wc] 22)).alloc (px p)) W.heap.size 0 (.slice wa w.length wc):=jQh (aq (ak W (.cells #[.slice wa w.length wc] 22)));have OW:=ak (W.alloc (.cells #[.slice wa w.length wc] 22)) (px p);simp only[jQ3]at OW;have dF:=H.mv HA.1;have ag:=cL l _ _ D (hv.mv H.lo HA.1) dF.lo 93 #[.pointer (some ⟨W.heap.size,0,none⟩),.pointer (some ⟨W.heap.size+1,0,none⟩)] Tryz.call93 _ (λW1 e v bb ar hm dr ke=>
  ahw k ih w _ e p bb v W1 D W.heap.size (W.heap.size+1) ke (hn e hm) (dF.mv ar) dr ((ar.cell (p:=⟨W.heap.size,0,none⟩) (by simp;omega)).trans fw) (aj ar OW i6)) (!r) j
 have D8:∀(fn:Fn) (first cap:Array Value) (w:World),(Instr.makeFunc fn first cap).run prog w=.ok (.func fn first cap) w:=λ_ _ _ _=>rfl;clear H hv dF fw OW j;exact M24
def TZ(k:Nat)(ih:xS k):Gn (k+1):=by
 intro w ws t p r v W D j hn H hv;rw[placedTerm]at j;obtain⟨a,c,rfl,hs⟩:=hv.bR;obtain⟨wa,wc,rfl⟩:=H.rd.form;have HA:=Z (an W (bx t a c));by_cases cg:t.ld=13
 .rw[jQ7 cg]at j;have ll:(t.ld==13)=true:=by simp[cg]
  by_cases dQ:t.li.length=1
  .obtain⟨e,he⟩:=List.length_eq_one_iff.1 dQ;have zl:e∈t.li:=by rw[he];simp
   have K6:placed w k e p=some r:=by rw[he]at j;exact j
   rcases aN.1 hs with⟨zh,_⟩|⟨bk,b,o,c1,e1,Jd,jG,kN,hC⟩
   .rw[zh]at dQ;simp at dQ
   simp at e1;obtain⟨rfl,rfl⟩:=e1;have pZ:=Z (dT W (bx t (some ⟨b,o,none⟩) c) (px p));have hE:=(hC.at (i:=0) (t:=e) (by rw[he];rfl)).move (H.lo.aJ pZ.1) kN;simp only[Nat.zero_mul,Nat.add_zero]at hE;obtain⟨ea,ec,f0,f1,f2,f3,f4,f5,f6,r5⟩:=hE.bR;obtain⟨AR,AS,e',Hp⟩:=r5.bR;simp at e';obtain⟨rfl,rfl⟩:=e';have j6:=H.lo b kN;have dF:=H.mv pZ.1;obtain⟨c0,c1,c2,c3,c4,c5,c6⟩:=ao (aq (o:=px p) (ak W (bx t (some ⟨b,o,none⟩) c)));obtain⟨d0,d1,d2⟩:=nQ (ak (W.alloc (bx t (some ⟨b,o,none⟩) c)) (px p));simp only[jQ3]at d0 d1 d2;have fV:(0:Int)<(t.li.length:Int):=M
   have hlq:((t.li.length:Int)==1)=true:=by simp[dQ]
   have ag:=Z<|λ(O:World) (hb:S5 ((W.alloc (bx t (some ⟨b,o,none⟩) c)).alloc (px p)) O)=>ih w _ e p r _ O D K6 (hn.elem zl) (dF.mv hb) (r5.mv dF.lo hb);have iT:W.heap.size<((W.alloc (bx t (some ⟨b,o,none⟩) c)).alloc (px p)).heap.size:=by simp;omega
   have mU:W.heap.size+1<((W.alloc (bx t (some ⟨b,o,none⟩) c)).alloc (px p)).heap.size:=i6
   have qo:b<((W.alloc (bx t (some ⟨b,o,none⟩) c)).alloc (px p)).heap.size:=by simp;omega
   have hneq:t.li≠[]:=bk;clear j K6 H hv hs hn hE r5 Hp hC dF dQ cg he;go_in;go_wp21;generalize sj:(W.alloc (bx t (some ⟨b,o,none⟩) c)).alloc (px p)=w2 at pZ ag c0 c1 c2 c3 c4 c5 c6 d0 d1 d2 f0 f1 f2 f3 f4 f5 f6 iT mU qo;have hS:=Z (show∀O,S5 w2 O->S5 w2 O/\ce O W.heap.size 6 (.slice (some ⟨b,o,none⟩) t.li.length c)/\ce O (W.heap.size+1) 0 (.int .i64 p.decls)/\ce O (W.heap.size+1) 1 (.bool p.value)/\ce O (W.heap.size+1) 2 (.bool p.term)/\ce O b o (.int .i64 e.ld)/\ce O b (o+1) (.int .i64 e.n)/\ce O b (o+2) (.int .i64 e.m)/\ce O b (o+3) (.bool e.va)/\ce O b (o+4) (.string e.name)/\ce O b (o+5) (.string e.gc)/\ce O b (o+6) (.slice ea e.li.length ec)from λO hb=>⟨hb,(hb.cell (p:=⟨W.heap.size,6,none⟩) iT).trans c6,(hb.cell (p:=⟨W.heap.size+1,0,none⟩) mU).trans d0,(hb.cell (p:=⟨W.heap.size+1,1,none⟩) mU).trans d1,(hb.cell (p:=⟨W.heap.size+1,2,none⟩) mU).trans d2,(hb.cell (p:=⟨b,o,none⟩) qo).trans f0,(hb.cell (p:=⟨b,o+1,none⟩) qo).trans f1,(hb.cell (p:=⟨b,o+2,none⟩) qo).trans f2,(hb.cell (p:=⟨b,o+3,none⟩) qo).trans f3,(hb.cell (p:=⟨b,o+4,none⟩) qo).trans f4,(hb.cell (p:=⟨b,o+5,none⟩) qo).trans f5,(hb.cell (p:=⟨b,o+6,none⟩) qo).trans f6⟩)
   try rw[sj]
   go_region_held3 (λO=>S5 w2 O/\ce O W.heap.size 6 (.slice (some ⟨b,o,none⟩) t.li.length c)/\ce O (W.heap.size+1) 0 (.int .i64 p.decls)/\ce O (W.heap.size+1) 1 (.bool p.value)/\ce O (W.heap.size+1) 2 (.bool p.term)/\ce O b o (.int .i64 e.ld)/\ce O b (o+1) (.int .i64 e.n)/\ce O b (o+2) (.int .i64 e.m)/\ce O b (o+3) (.bool e.va)/\ce O b (o+4) (.string e.name)/\ce O b (o+5) (.string e.gc)/\ce O b (o+6) (.slice ea e.li.length ec))
    (first|exact hS.1 _ (jQ5 _ _).drew|assumption)
    (first
     |(go_at_call 20;have hh:=‹S5 w2 _/\_›;refine(ag.1 _ hh.1).mono ?_;rintro eA wA ⟨rfl,eP⟩;have dI:=hh.1.trans (eP.mono hh.1.size);have hS4:=hS.1 _ dI))
   go_wp2;go_ret;exact⟨rfl,pZ.1.trans (dI.mono pZ.1.size)⟩
  .have h:false=r:=by
    match hl:t.li,dQ,j with
    |[],_,j=>simpa using j
    |[_],dQ,_=>simp at dQ
    |_::_::_,_,j=>simpa using j
   subst h;have hlq:((t.li.length:Int)==1)=false:=by simp;omega
   clear j H hv hs hn dQ;go_in;go_wp21;go_quiet (fail);go_wp2;go_ret;exact⟨rfl,jRb (dT _ _ _) _⟩
 .rw[jQ4 cg]at j;have ll:(t.ld==13)=false:=by simp[cg]
  have HA:=Z (dT W (bx t a c) (px p));exact M175
