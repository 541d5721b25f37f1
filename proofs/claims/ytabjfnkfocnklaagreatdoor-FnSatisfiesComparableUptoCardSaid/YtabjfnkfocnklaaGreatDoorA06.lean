import Derived.BigQuiet
import Derived.Deep.QuietTactic
import Derived.LaidEqlPtr
import Derived.Lib.Bytealg
import Derived.MapKept
import Derived.Maps.AppendAt
import Derived.Test.YtabjfnkfocnklaaGreatDoorA05
set_option linter.all false
set_option maxHeartbeats 16000000
set_option maxRecDepth 20000
namespace Go.Proofs.YtabjfnkfocnklaaGreatDoor
open Go Go.RowKit Go.Lib S Tryz P
variable{es0:Array MapEntry}{ops:Array Oper}{ca cb:Array Value}{xc yc:Bool}{s s1 s2:ByteArray}{e:Ending}{cmp:GT->Bool}{id:GT->GT->Bool}{Q:GT->Prop}{acc l m x xJ y:List (Option Tm)}{NS:List ByteArray}{l':List GT}{cs:List Nat}{rest:List Oper}{w:List ah}{B K b1 b2 base' c ck0 j n r rr sz:Nat}{obj:Nat->Nat}{D E F X:Nat->Prop}{o:Oper}{a:Option Addr}{P:Program}{Y:Prop}{S:Sg}{α β:Type}{d:TypeDesc}{et kt mt t t1 ta tb te ti tp tq:TypeId}{k sl sm u v v' z:Value}{q:Value->Bool}{W W' w' w2 wr:World}
theorem jQh:type_of% @Go.cell_of_one:=@Go.cell_of_one
theorem jR0:type_of% @List.drop_zero:=@List.drop_zero
theorem jRq:type_of% @Go.bodyPost_end:=@Go.bodyPost_end
theorem M101(h:Y:=by
 rw[jQv aM];simp[jQp aM]at hm;rw[hm]):Y:=h
theorem M102(h:Y:=by
 rw[he]at aM;simp at aM):Y:=h
theorem M105(h:Y:=by
 obtain⟨xs,h1,h2,h3⟩:=h;refine⟨xs,⟨h1.1,?_⟩,h2,h3⟩;obtain h0|⟨g,cap,cur,e,hg,rest⟩:=h1.2
 ·exact .inl h0
 ·exact .inr ⟨g,cap,cur,e,jQd hb hg,rest⟩):Y:=h
theorem M127(h:Y:=by
 go_enter func86,ntmps86;go_wp2_with fail;go_ret;exact⟨by simp;omega,rfl⟩):Y:=h
theorem M135(h:Y:=by
 obtain⟨xs,h1,h2,_⟩:=h;exact⟨xs,h1,h2.move (au.refl.wide hE),hF⟩):Y:=h
theorem M138(h:Y:=by
 go_wp2_with fail;refine ag.mono ?_;rintro e w2 ⟨rfl,cX⟩;have HD:=Z (HC.1.trans (cX.mono (by simp;omega)));clear cX;exact M54):Y:=h
theorem M140(h:Y:=by
 go_wp2_with fail;go_roundg (s.size - (kk+1))
 case measure=>omega
 case rel=>exact⟨kk+1,m9,m9,by go_num,rfl,HA.1⟩):Y:=h
theorem M15(h:Y:=by
 have cF:l0.length+[m.sig.setName m.name].length<=1099511627776:=by
  have:=congrArg List.length qk;simp only[jQo,jR7]at this⊢;omega
 have cS:W.heap.size<=(w5.alloc (.cells #[.int .i64 m.sig.kind,.int .i64 m.sig.n,.int .i64 m.sig.m,.bool m.sig.va,.string m.name,.string m.sig.tag,.slice sa m.sig.elems.length sc] 25)).heap.size:=TW.1.size;have hDD:∀b,D b->b<(w5.alloc (.cells #[.int .i64 m.sig.kind,.int .i64 m.sig.n,.int .i64 m.sig.m,.bool m.sig.va,.string m.name,.string m.sig.tag,.slice sa m.sig.elems.length sc] 25)).heap.size/\some b≠u6.ownBlock:=λb hb=>by
  refine⟨jQb (HX.1.lo b hb) cS,λe=>?_⟩;have:=(eK.1.lt b e.symm).1;have:=HX.1.lo b hb;omega
 have HH:=Z (And.intro lj (And.intro Vt (And.intro Zw (And.intro Cy (And.intro cF (And.intro cS (And.intro hDD qk)))))));clear kC lj Vt Zw Cy qk cF cS hDD q0 q1 q2 q3 q4 q5 q6 q7 q8 h4 h3 h3';go_wp2_with (at_builtin;refine E9 rfl _ _ rfl W.heap.size u6 l0 xs rfl HH.1.1 D HH.1.2.1 ⟨w5.heap.size,0,none⟩ _ [m.sig.setName m.name] _ rfl HH.1.2.2.1 HH.1.2.2.2.1 HH.1.2.2.2.2.1 HH.1.2.2.2.2.2.1 HH.1.2.2.2.2.2.2.1 ?_);intro v7 w7 xs7 bF Vu uA;have B7:=Z (TW.1.grown uA TW.1.size (λk hk=>(eK.1.lt k hk).1));have H7:=Z (And.intro bF Vu);clear bF Vu uA;go_wp2_with fail;go_roundg (d.meths.length - (kk+1))
 case measure=>omega
 case rel=>exact⟨kk+1,m9,m9,by go_num,B7.1,l0++[m.sig.setName m.name],xs7,by simpa using H7.1.1,H7.1.2,HH.1.2.2.2.2.2.2.2⟩):Y:=h
theorem M154(h:Y:=by
 have hm:au E E w w':=λb hb=>⟨hb,h2.block b (hE b hb).1 (hE b hb).2⟩;exact RV.append (vY.move hm) (nr.move hm)):Y:=h
theorem M156(h:Y:=by
 go_wp2_with fail;go_ret;exact⟨rfl,_,rfl⟩):Y:=h
theorem M168(h:Y:=by
 subst h;clear hr hs hv hx;go_enter func170,ntmps170;go_wp2_with fail;go_ret;exact⟨rfl,an _ _⟩):Y:=h
theorem M172(h:Y:=by
 by_cases hj:j=0
 ·subst hj;simpa[Addr.add]using hc 0 u hu
 ·simpa[Addr.add,hj]using hc j u hu):Y:=h
theorem M177(h:Y:=by
 clear hp dA;go_wp2_with fail;go_ret;exact⟨_,rfl,ia.2 ⟨none,0,rfl,λ_=>rfl⟩,HB.1⟩):Y:=h
theorem M178(h:Y:=by
 obtain⟨xs,_,_,h⟩:=h;exact λb hb=>(h b hb).1):Y:=h
theorem M191(h:Y:=by
 have h:true=r:=by simpa using hp
 subst h;clear hp;go_enter func131,ntmps131;exact M34):Y:=h
theorem M200(h:Y:=by
 rcases hM with⟨he,_⟩|⟨_,b2,o2,c2,dN,fh,fL,du,gX⟩
 ·rw[he];simp
 ·omega):Y:=h
theorem M205(h:Y:=by
 have:=HR0.1;rw[List.filter_cons_of_pos (by simpa using lD)]at this;exact M150):Y:=h
theorem M224(h:Y:=by
 rintro e w' ⟨rfl,rfl⟩;go_wp2_with fail;go_ret;exact HO.1.post):Y:=h
theorem M34(h:Y:=by
 go_wp2_with fail;go_ret;exact⟨rfl,HA.1⟩):Y:=h
theorem M37(h:Y:=by
 go_wp2_with fail;refine aF.mono ?_;rintro e w' ⟨v,rfl,k1,k2,k3⟩;have HP:=Z (show CG w S D obj rs K E r W ts true (.returned (.tuple #[v,.bool true])) w' from⟨v,rfl,k1,k2,k3⟩);have aD:=fI (sI.tl ⟨k2,k3,k1⟩);rw[ha]at aD;obtain⟨va,vc,rfl⟩:=k1.form;clear k1 k2 k3 aF;have ag:=bO w';go_wp2_with fail;refine rv aD ?_;go_wp2_with fail;refine rv aD ?_;go_wp2_with fail;refine rv ag ?_;go_wp2_with fail;refine jRc (v:=.tuple #[.slice va ts.length vc,.bool true]) (by simp[results,Tryz.results98,go_sem]) rfl ?_;exact HP.1):Y:=h
theorem M4(h:Y:=by
 go_wp2_with fail;refine aF.mono ?_;rintro e w1 ⟨v,rfl,k1,k2,k3⟩;have hO:sI w S D obj rs K E r W w1 ts v:=⟨k2,k3,k1⟩;have aD:=fI hO.tl;rw[ha]at aD;obtain⟨va,vc,rfl⟩:=k1.form;have HO:=Z hO;have rO:=hO.tl.max;clear k1 k2 k3 aF hO;go_wp2_with fail;refine rv aD ?_;clear aD;go_wp2_with fail
 go_loopg [12,30] ts.length (λgg s12 s30 wr=>∃(kk ii:Nat) (cur:List (Option Tm)),kk<=ts.length/\ts.length - kk<=gg/\s30=.int .i64 kk/\s12=.int .i64 ii/\ii<=kk/\cur.length=ts.length/\Aside (sI w S D obj rs K E r W wr cur (.slice va ts.length vc))/\Aside (cur.drop kk=ts.drop kk)/\Aside (cur.take ii=(ts.take kk).filter (keepT λt=>(fs w K).cmp t false)))
 case atStart=>exact⟨0,0,ts,jQc _,m9,rfl,rfl,jQ0 _,rfl,HO.1,rfl,rfl⟩
 case round=>
  obtain⟨kk,ii,cur,ez,hg,rfl,rfl,hik,KP,N,Dr,Tk⟩:=hrel;by_cases aM:kk<ts.length
  ·have aR:(kk:Int)<(ts.length:Int):=m9
   have hiz:(ii:Int)<(ts.length:Int):=m9
   obtain⟨x,hx⟩:∃x,ts[kk]?=some x:=⟨ts[kk],by simp[aM]⟩;have Om:cur[kk]?=some x:=by
    have h1:=congrArg (λl=>l[0]?) Dr.out;simpa[hx]using h1
   obtain⟨bt,pY,rfl⟩:=HTP.1 x (jQ8 hx);obtain⟨b,o,p,rfl,hs,hc,ht⟩:=N.out.tl.nth Om;obtain⟨g,e0, -⟩:=N.out.row.pos (by intro e;rw[e]at KP;simp at KP;omega);simp at e0;obtain⟨rfl,rfl⟩:=e0;rw[jRd]at hc;obtain⟨b1,v1,rfl,s1,c1,c2,n1,y1⟩:=ht.open;obtain⟨T1,d1,rfl,qy⟩:=y1 pY rfl;have CN:jH NS Q w rs B pY:=DH.1 _ (jQ8 hx) _ rfl _ rfl;have ag:=wu (d:=false) HC.1 N.out.ok qy CN.1 (CN.ck hB);have ly:=bO wr;have HT:=Z ht;have HX:=Z hx;clear ht hx Om n1 y1 qy CN;go_wp2_with fail;refine rv ly ?_;go_wp2_with fail;refine ag.mono ?_;rintro e w2 ⟨u,rfl,hu,g1,g2⟩;have N2:=Z (N.out.go g1 g2);have T2:=Z (HT.1.move g2);clear g1 g2 ag ly;rcases hu with⟨rfl,Kg⟩|⟨ub,rfl,Kg⟩
   ·have hil:ii<cur.length:=m9
    have HK:=Z (show keepT (λt=>(fs w K).cmp t false) (some ⟨bt,some pY⟩)=true from Kg);clear Kg;go_wp2_with (refine JN rfl _ _ rfl W.heap.size b ii _ _ cur N2.1.row _ b1 T2.1 rfl rfl hil ?_);intro w3 FG fm;have VI:(λg=>b=g)=(λq=>(Value.slice (some ⟨b,0,none⟩) ts.length vc).ownBlock=some q):=by
     funext q;simp[Value.ownBlock]
    rw[VI]at fm;have N3:=Z (N2.1.add gJ.1 FG fm (.inl rfl));have Vf:=Z (show(cur.set ii (some ⟨bt,some pY⟩)).drop (kk+1)=ts.drop (kk+1)by
     rw[List.drop_set_of_lt m9];have:=congrArg (List.drop 1) Dr.out;simpa[List.drop_drop]using this)
    have Vm:=Z (show(cur.set ii (some ⟨bt,some pY⟩)).take (ii+1)=(ts.take (kk+1)).filter (keepT λt=>(fs w K).cmp t false)by
     obtain⟨uj,e⟩:=jQg.1 HX.1;rw[jRi uj,List.filter_append,e,List.filter_cons,HK.1,<-Tk.out,jRi (by simpa using hil),List.take_set_of_le (jQ0 _)];simp)
    clear FG fm VI;go_wp2_with fail;go_roundg (ts.length - (kk+1))
    case measure=>omega
    case rel=>exact⟨kk+1,ii+1,_,m9,m9,by go_num,by go_num,m9,by simp[KP],N3.1,Vf.1,Vm.1⟩
   ·have Vf:=Z (show cur.drop (kk+1)=ts.drop (kk+1)by
     have:=congrArg (List.drop 1) Dr.out;simpa[List.drop_drop]using this)
    have HK:=Z (show keepT (λt=>(fs w K).cmp t false) (some ⟨bt,some pY⟩)=false from Kg);have Vm:=Z (show cur.take ii=(ts.take (kk+1)).filter (keepT λt=>(fs w K).cmp t false)by
     obtain⟨uj,e⟩:=jQg.1 HX.1;rw[jRi uj,List.filter_append,e,List.filter_cons,HK.1,<-Tk.out];simp)
    clear Kg;go_wp2_with fail;go_roundg (ts.length - (kk+1))
    case measure=>omega
    case rel=>exact⟨kk+1,ii,cur,m9,m9,by go_num,rfl,m9,KP,N2.1,Vf.1,Vm.1⟩
  ·have aR:¬(kk:Int)<(ts.length:Int):=m9
   have WY:ii<=cur.length:=m9
   have hN:=N.out.take WY;have hT:=Tk.out;have VJ:kk=ts.length:=m9
   rw[VJ,List.take_length]at hT;rw[hT]at hN;have ag:=fI hN.tl;rw[HFL.1]at ag;have HP:=Z (hN.aa0 false);have hvc:ii<=vc:=by
    have:=hN.tl;obtain⟨ps,h1,h2⟩:=N.out.row;rcases h1.2 with⟨e,h0⟩|⟨g,cap,cc,e,q1,q2,q3,_⟩
    ·omega
    ·simp at e;omega
   have ql:=wK (P:=prog) underlying119 sizeOf152 va ts.length vc ii hvc;have ly:=bO wr;clear hN hT VJ;go_wp2_with fail;refine rv ag ?_;go_wp2_with fail;refine rv ly ?_;go_wp2_with fail;refine jRc (v:=.tuple #[.slice va ii vc,.bool false]) (by simp[results,Tryz.results98,go_sem]) rfl ?_;exact HP.1):Y:=h
theorem M49(h:Y:=by
 refine⟨jQb (hE b hb).1 h2.size,?_⟩;rcases h4 with e|e<;>rw[e]
 ·exact(hE b hb).2
 ·intro e';have:=(hE b hb).1;cases e';omega):Y:=h
theorem M54(h:Y:=by
 go_wp2_with fail;go_ret;exact⟨rfl,HD.1⟩):Y:=h
theorem M56(h:Y:=by
 have aR:¬(kk:Int)<(d.meths.length:Int):=m9
 have qk:l0=r:=by
  have:=Ed;rw[jQf m9]at this;exact M150
 subst qk;have eK:=Z aL;have HRV:=Z nr;clear aL nr Ed;go_wp2_with fail;go_ret;exact⟨_,rfl,(yd (D:=Up D W.heap.size wr.heap.size) eK.1 (HRV.1.move (au.refl.wide Up.of)) (λg hg=>.inr (eK.1.lt g hg))),BW.out⟩):Y:=h
theorem M80(h:Y:=by
 obtain⟨xs,h1,_⟩:=h;rcases h1.2 with⟨rfl,h0⟩|⟨g,cap,cur,rfl,_⟩
 ·exact⟨none,0,by rw[h0]⟩
 ·exact⟨_,cap,rfl⟩):Y:=h
theorem M82(h:Y:=by
 rw[hb];clear hb;go_enter func39,ntmps39;go_wp2_with fail;go_ret;exact⟨rfl,an _ _⟩):Y:=h
def afT(D:Nat->Prop)(W:World)(r:List GT)(e:Ending)(W':World):Prop:=∃v',e=.returned v'/\RS (Up D W.heap.size W'.heap.size) W' r v'/\Below W.heap.size W W'
theorem rH{l r:List α}(h:lim l=some r):r.length<=1099511627776/\l=r:=by
 unfold lim at h;split at h
 ·cases h;exact⟨by assumption,rfl⟩
 ·cases h
def aaT(D:Nat->Prop)(W wr:World)(d:ah)(p:Bool)(r:List GT)(kk:Nat)(s:Value):Prop:=
 ∃l xs,wr.ownsRow W.heap.size 25 7 s l.length xs/\RV D wr l xs/\l++((d.meths.drop kk).filter λm=>p||!m.ptr).map (λm=>m.sig.setName m.name)=r
theorem zj(w:List ah)(ws:Value)(t0:GT)(r:List GT)(v:Value)(W:World)(D:Nat->Prop)(hp:kK w t0=some r)(hx:Cx D w ws W)(hv:RT D W t0 v):
 Calls prog 268 #[ws,v] W (afT D W r):=by
 obtain⟨t,ht,hp⟩:=jQ1.1 hp;obtain⟨pY,zL,rfl,cH⟩:=hv.bR;obtain⟨wa,wc,rfl⟩:=hx.rd.form;have HA:=Z (an W (bx t0 pY zL));have ag:=jr _ t0 t _ _ D (jQ0 _) ht (hx.mv HA.1).lo (hv.mv hx.lo HA.1);have HP:=Z hp;have HX:=Z hx;clear hp hx hv cH ht;go_enter func268,ntmps268;go_wp2_with fail;refine ag.mono ?_;rintro e w1 ⟨v1,rfl,fP,ar⟩;obtain⟨a1,zd,rfl,cz⟩:=fP.bR;have zK:=aj ar (ak W (bx t0 pY zL)) i6;have HB:=Z (HA.1.trans (ar.mono HA.1.size));have hz:=ar.size;simp only[jQ3]at hz cz;have HS:=Z cz;clear ar ag fP cz;go_wp2_with (refine fN rfl _ _ rfl W.heap.size rfl rfl zK rfl ?_);intro w2 fJ;have zK:=fJ.here;have HB:=Z (fJ.below HB.1 m9);have eX:=HS.1.move (fJ.aJ (D:=Up D (W.heap.size+1) w1.heap.size) (by intro h;obtain h|h:=h;exact absurd (HX.1.lo _ h) m9;omega));have hz:=hz;rw[<-fJ.size]at hz eX;have HS:=Z eX;have hp:=HP.1;clear eX fJ HP;obtain⟨c0,c1,c2,c3,c4,c5,c6⟩:=ao zK;by_cases h6:t.kind=6
 ·rw[jQ7 h6]at hp;obtain⟨e,he,hp⟩:=jQ1.1 hp;obtain⟨t',Ng,hp⟩:=jQ1.1 hp;have lT:(0:Int)<(t.elems.length:Int):=by
   cases hh:t.elems with
   |nil=>rw[hh]at he;simp at he
   |cons=>simp
  rcases aN.1 HS.1 with⟨Gb,_⟩|⟨bk,b,o,c',dN,Jd,jG,kN,hC⟩
  ·rw[Gb]at he;simp at he
  simp at dN;obtain⟨rfl,rfl⟩:=dN;obtain⟨a3,c3',f0,f1,f2,f3,f4,f5,f6,uz⟩:=(hC.at he).bR;simp only[Nat.zero_mul,Nat.add_zero]at f0 f1 f2 f3 f4 f5 f6;have k6:(t.kind==6)=true:=by simp[h6]
  have ag:=jr _ e t' _ _ _ (jQ0 _) Ng (Up.lo (n:=W.heap.size+1) (HX.1.lo.mono m9) hz) uz;have HP:=Z hp;clear hp h6 bk uz hC he Ng;go_wp2_with fail;refine ag.mono ?_;rintro e w3 ⟨v3,rfl,FG,aZ⟩;obtain⟨a4,Rk,rfl,nU⟩:=FG.bR;have zK:=aj aZ zK m9;have HB:=Z (HB.1.trans (aZ.mono HB.1.size));have JD:=aZ.size;clear nU FG aZ ag c0 c1 c2 c3 c4 c5 c6 f0 f1 f2 f3 f4 f5 f6 k6;go_wp2_with (refine fN rfl _ _ rfl W.heap.size rfl rfl zK rfl ?_);intro w4 gF;have zK:=gF.here;have HB:=Z (gF.below HB.1 m9);have hp:=HP.1;have hz4:=gF.size;clear gF HP;obtain⟨c0,c1,c2,c3,c4,c5,c6⟩:=ao zK;by_cases dA:t'.kind=11
  ·rw[rz,jQ4 (by simp[dA])]at hp;have Hv:0<=t'.n:=by
    by_cases h:0<=t'.n
    ·exact h
    ·simp[h]at hp
   rw[jQ7 Hv]at hp;obtain⟨i,hi⟩:=Int.eq_ofNat_of_zero_le Hv;obtain⟨d,hd,hr⟩:=jQ1.1 hp;obtain⟨hrl,hr⟩:=rH hr;rw[hi]at hd c1;rw[Int.toNat_natCast]at hd;have hil:i<w.length:=(jQg.1 hd).1;have afq:(i:Int)<(w.length:Int):=m9
   have qd:(t'.kind !=11)=false:=by simp[dA]
   rcases HX.1.rd with⟨rfl,_⟩|⟨_,b,o,c',hwe,Jd,jG,kN,hC⟩
   ·simp at hd
   simp at hwe;obtain⟨rfl,rfl⟩:=hwe;obtain⟨hE,ms,jK,hM⟩:=hC.at hd;obtain⟨ma,mc,rfl⟩:=hM.form;have acT:=((fU HB.1).1 b (o+i*8+7) kN).trans jK;have hmz:d.meths.length<=9223372036854775807:=M200
   have HM:=Z hM;have HR:=Z hr;have Ro:=HB.1.size;clear hp hr hM hC hE jK hd dA Hv hi;go_wp2_with fail
   go_loopg [6,31] d.meths.length (λgg s6 s31 wr=>∃kk:Nat,kk<=d.meths.length/\d.meths.length - kk<=gg/\s31=.int .i64 kk/\Aside (Below W.heap.size W wr)/\Aside (aaT D W wr d true r kk s6))
   case atStart=>exact⟨0,jQc _,m9,rfl,HB.1,[],[],by simpa using jR9 _ _ _ _,by simp[RV],by simpa using HR.1⟩
   case round=>
    obtain⟨kk,ez,hg,rfl,BW,l0,xs,aL,nr,Ed⟩:=hrel;by_cases aM:kk<d.meths.length
    ·have aR:(kk:Int)<(d.meths.length:Int):=m9
     obtain⟨m,hm⟩:∃m,d.meths[kk]?=some m:=⟨d.meths[kk],by simp[aM]⟩;have bL:d.meths.drop kk=m::d.meths.drop (kk+1):=M101
     rw[bL]at Ed;rcases HM.1 with⟨he,_⟩|⟨_,b2,o2,c2,dN,fh,fL,du,gX⟩
     ·exact M102
     simp at dN;obtain⟨rfl,rfl⟩:=dN;obtain⟨m0,m1,hEm⟩:=gX.at hm;have e:=λj=>(fU BW.out).1 b2 j (HX.1.lo b2 du);obtain⟨sa,sc,f0,f1,f2,f3,f4,f5,f6,iL⟩:=hEm.bR;have g0:=(e _).trans m0;have g1:=(e _).trans m1;have g2:=(e _).trans f0;have g3:wr.cell? ⟨b2,o2+kk*9+3,none⟩=_:=(e _).trans f1;have g4:wr.cell? ⟨b2,o2+kk*9+4,none⟩=_:=(e _).trans f2;have g5:wr.cell? ⟨b2,o2+kk*9+5,none⟩=_:=(e _).trans f3;have g6:wr.cell? ⟨b2,o2+kk*9+6,none⟩=_:=(e _).trans f4;have g7:wr.cell? ⟨b2,o2+kk*9+7,none⟩=_:=(e _).trans f5;have g8:wr.cell? ⟨b2,o2+kk*9+8,none⟩=_:=(e _).trans f6;obtain⟨sa',sc',e',iL⟩:=iL.bR;simp at e';obtain⟨rfl,rfl⟩:=e';obtain⟨Km,eK,HRV,HR0⟩:=Z4 iL aL nr Ed;have dZ:=BW.out.size;clear aL nr Ed e m0 m1 f0 f1 f2 f3 f4 f5 f6 hEm gX iL bL hm;go_wp2_with (refine xM rfl 68 _ _ rfl wr.heap.size _ rfl rfl 68 _ (ak wr _) g9 rfl (by simp[Value.oneCell']) ?_);intro w3 fm;have h3:=fm.here;obtain⟨q0,q1,q2,q3,q4,q5,q6,q7,q8⟩:=uk h3;have B3:=Z (fm.below (an wr _) (jQ0 _));clear fm;by_cases lD:(true||!m.ptr)=true
     ·try(have jd:m.ptr=false:=by simpa using lD;rw[jd]at q1)
      go_wp2_with (refine fN rfl _ _ rfl w3.heap.size rfl rfl (ak w3 _) rfl ?_);intro w4 gF;have h3':=gF.cR (aq h3) (Nat.ne_of_lt (jQ2 h3));obtain⟨q0,q1,q2,q3,q4,q5,q6,q7,q8⟩:=uk h3';have h4:=gF.here;have B4:=Z (gF.below (B3.1.alloc B3.1.size _) B3.1.size);clear gF;go_wp2_with (refine eT rfl 9 _ _ rfl w3.heap.size 4 (.string m.name) rfl rfl 25 _ h4 g9 (by simp[Value.cells,Value.oneCell']) (by simp[Value.cells]) #[.int .i64 m.sig.kind,.int .i64 m.sig.n,.int .i64 m.sig.m,.bool m.sig.va,.string m.name,.string m.sig.tag,.slice sa m.sig.elems.length sc] (by simp[Value.cells]) ?_);intro w5 kC;obtain⟨p0,p1,p2,p3,p4,p5,p6⟩:=ao kC.here;have B5:=Z (kC.below B4.1 B3.1.size);have B6:=Z (B5.1.alloc B5.1.size (.cells #[.int .i64 m.sig.kind,.int .i64 m.sig.n,.int .i64 m.sig.m,.bool m.sig.va,.string m.name,.string m.sig.tag,.slice sa m.sig.elems.length sc] 25));have TW:=Z (BW.out.trans (B6.1.mono dZ));have lj:=sg eK.1 B6.1 (λg hg=>(eK.1.lt g hg).2);have Vt:=HRV.1.move ((HX.1.lo.mono dZ).aJ B6.1);have Zw:=RV.setName m.name (Km.1.mv HX.1.lo TW.1);have Cy:=iC w5 [.int .i64 m.sig.kind,.int .i64 m.sig.n,.int .i64 m.sig.m,.bool m.sig.va,.string m.name,.string m.sig.tag,.slice sa m.sig.elems.length sc] 25;have qk:(l0++[m.sig.setName m.name])++((d.meths.drop (kk+1)).filter λm=>true||!m.ptr).map (λm=>m.sig.setName m.name)=r:=M205
      exact M15
     ·exact absurd i6 lD
    ·exact M56
  ·rw[rz,jQ7 (by simpa using dA)]at hp;have h:[]=r:=by simpa using hp
   subst h;have qd:(t'.kind !=11)=true:=by simp[dA]
   exact M177
 ·rw[jQ4 h6]at hp;have k6:(t.kind==6)=false:=by simp[h6]
  clear h6 c0 c1 c2 c3 c4 c5 c6;obtain⟨c0,c1,c2,c3,c4,c5,c6⟩:=ao zK;by_cases dA:t.kind=11
  ·rw[rz,jQ4 (by simp[dA])]at hp;have Hv:0<=t.n:=by
    by_cases h:0<=t.n
    ·exact h
    ·simp[h]at hp
   rw[jQ7 Hv]at hp;obtain⟨i,hi⟩:=Int.eq_ofNat_of_zero_le Hv;obtain⟨d,hd,hr⟩:=jQ1.1 hp;obtain⟨hrl,hr⟩:=rH hr;rw[hi]at hd c1;rw[Int.toNat_natCast]at hd;have hil:i<w.length:=(jQg.1 hd).1;have afq:(i:Int)<(w.length:Int):=m9
   have qd:(t.kind !=11)=false:=by simp[dA]
   rcases HX.1.rd with⟨rfl,_⟩|⟨_,b,o,c',hwe,Jd,jG,kN,hC⟩
   ·simp at hd
   simp at hwe;obtain⟨rfl,rfl⟩:=hwe;obtain⟨hE,ms,jK,hM⟩:=hC.at hd;obtain⟨ma,mc,rfl⟩:=hM.form;have acT:=((fU HB.1).1 b (o+i*8+7) kN).trans jK;have hmz:d.meths.length<=9223372036854775807:=M200
   have HM:=Z hM;have HR:=Z hr;have Ro:=HB.1.size;clear hp hr hM hC hE jK hd dA Hv hi;go_wp2_with fail
   go_loopg [6,31] d.meths.length (λgg s6 s31 wr=>∃kk:Nat,kk<=d.meths.length/\d.meths.length - kk<=gg/\s31=.int .i64 kk/\Aside (Below W.heap.size W wr)/\Aside (aaT D W wr d false r kk s6))
   case atStart=>exact⟨0,jQc _,m9,rfl,HB.1,[],[],by simpa using jR9 _ _ _ _,by simp[RV],by simpa using HR.1⟩
   case round=>
    obtain⟨kk,ez,hg,rfl,BW,l0,xs,aL,nr,Ed⟩:=hrel;by_cases aM:kk<d.meths.length
    ·have aR:(kk:Int)<(d.meths.length:Int):=m9
     obtain⟨m,hm⟩:∃m,d.meths[kk]?=some m:=⟨d.meths[kk],by simp[aM]⟩;have bL:d.meths.drop kk=m::d.meths.drop (kk+1):=M101
     rw[bL]at Ed;rcases HM.1 with⟨he,_⟩|⟨_,b2,o2,c2,dN,fh,fL,du,gX⟩
     ·exact M102
     simp at dN;obtain⟨rfl,rfl⟩:=dN;obtain⟨m0,m1,hEm⟩:=gX.at hm;have e:=λj=>(fU BW.out).1 b2 j (HX.1.lo b2 du);obtain⟨sa,sc,f0,f1,f2,f3,f4,f5,f6,iL⟩:=hEm.bR;have g0:=(e _).trans m0;have g1:=(e _).trans m1;have g2:=(e _).trans f0;have g3:wr.cell? ⟨b2,o2+kk*9+3,none⟩=_:=(e _).trans f1;have g4:wr.cell? ⟨b2,o2+kk*9+4,none⟩=_:=(e _).trans f2;have g5:wr.cell? ⟨b2,o2+kk*9+5,none⟩=_:=(e _).trans f3;have g6:wr.cell? ⟨b2,o2+kk*9+6,none⟩=_:=(e _).trans f4;have g7:wr.cell? ⟨b2,o2+kk*9+7,none⟩=_:=(e _).trans f5;have g8:wr.cell? ⟨b2,o2+kk*9+8,none⟩=_:=(e _).trans f6;obtain⟨sa',sc',e',iL⟩:=iL.bR;simp at e';obtain⟨rfl,rfl⟩:=e';obtain⟨Km,eK,HRV,HR0⟩:=Z4 iL aL nr Ed;have dZ:=BW.out.size;clear aL nr Ed e m0 m1 f0 f1 f2 f3 f4 f5 f6 hEm gX iL bL hm;go_wp2_with (refine xM rfl 68 _ _ rfl wr.heap.size _ rfl rfl 68 _ (ak wr _) g9 rfl (by simp[Value.oneCell']) ?_);intro w3 fm;have h3:=fm.here;obtain⟨q0,q1,q2,q3,q4,q5,q6,q7,q8⟩:=uk h3;have B3:=Z (fm.below (an wr _) (jQ0 _));clear fm;by_cases lD:(false||!m.ptr)=true
     ·try(have jd:m.ptr=false:=by simpa using lD;rw[jd]at q1)
      go_wp2_with (refine fN rfl _ _ rfl w3.heap.size rfl rfl (ak w3 _) rfl ?_);intro w4 gF;have h3':=gF.cR (aq h3) (Nat.ne_of_lt (jQ2 h3));obtain⟨q0,q1,q2,q3,q4,q5,q6,q7,q8⟩:=uk h3';have h4:=gF.here;have B4:=Z (gF.below (B3.1.alloc B3.1.size _) B3.1.size);clear gF;go_wp2_with (refine eT rfl 9 _ _ rfl w3.heap.size 4 (.string m.name) rfl rfl 25 _ h4 g9 (by simp[Value.cells,Value.oneCell']) (by simp[Value.cells]) #[.int .i64 m.sig.kind,.int .i64 m.sig.n,.int .i64 m.sig.m,.bool m.sig.va,.string m.name,.string m.sig.tag,.slice sa m.sig.elems.length sc] (by simp[Value.cells]) ?_);intro w5 kC;obtain⟨p0,p1,p2,p3,p4,p5,p6⟩:=ao kC.here;have B5:=Z (kC.below B4.1 B3.1.size);have B6:=Z (B5.1.alloc B5.1.size (.cells #[.int .i64 m.sig.kind,.int .i64 m.sig.n,.int .i64 m.sig.m,.bool m.sig.va,.string m.name,.string m.sig.tag,.slice sa m.sig.elems.length sc] 25));have TW:=Z (BW.out.trans (B6.1.mono dZ));have lj:=sg eK.1 B6.1 (λg hg=>(eK.1.lt g hg).2);have Vt:=HRV.1.move ((HX.1.lo.mono dZ).aJ B6.1);have Zw:=RV.setName m.name (Km.1.mv HX.1.lo TW.1);have Cy:=iC w5 [.int .i64 m.sig.kind,.int .i64 m.sig.n,.int .i64 m.sig.m,.bool m.sig.va,.string m.name,.string m.sig.tag,.slice sa m.sig.elems.length sc] 25;have qk:(l0++[m.sig.setName m.name])++((d.meths.drop (kk+1)).filter λm=>false||!m.ptr).map (λm=>m.sig.setName m.name)=r:=M205
      exact M15
     ·have jd:m.ptr=true:=by simpa using lD
      rw[jd]at q1;have qk:l0++((d.meths.drop (kk+1)).filter λm=>false||!m.ptr).map (λm=>m.sig.setName m.name)=r:=by
       have:=HR0.1;rw[List.filter_cons_of_neg (by simpa using lD)]at this;exact M150
      have HRE:=Z qk;clear qk;go_wp2_with fail;go_roundg (d.meths.length - (kk+1))
      case measure=>omega
      case rel=>exact⟨kk+1,m9,m9,by go_num,BW.out.trans (B3.1.mono dZ),_,xs,sg eK.1 B3.1 (λg hg=>(eK.1.lt g hg).2),HRV.1.move ((HX.1.lo.mono dZ).aJ B3.1),HRE.1⟩
    ·exact M56
  ·rw[rz,jQ7 (by simpa using dA)]at hp;have h:[]=r:=by simpa using hp
   subst h;have qd:(t.kind !=11)=true:=by simp[dA]
   exact M177
def dc(E:Nat->Prop)(base:Nat)(W:World)(l:List GT)(v:Value):Prop:=
 ∃xs,W.ownsRow base 25 7 v l.length xs/\RV E W l xs/\∀b,E b->b<W.heap.size/\some b≠v.ownBlock
theorem dc.nil{base:Nat}(h:Lo E W.heap.size):dc E base W [] (.slice none 0 0):=
 ⟨[],jR9 _ _ _ _,by rw[RV],λb hb=>⟨h b hb,by simp[Value.ownBlock]⟩⟩
theorem dc.lt{base:Nat}{l:List GT}(h:dc E base W l v):∀g,v.ownBlock=some g->base<=g/\g<W.heap.size:=by
 obtain⟨xs,h,_⟩:=h;exact h.lt
theorem dc.lo{base:Nat}{l:List GT}(h:dc E base W l v):Lo E W.heap.size:=M178
theorem dc.below{base:Nat}{l:List GT}(h:dc E base W l v)(hb:Below W.heap.size W W'):dc E base W' l v:=by
 obtain⟨xs,h1,h2,h3⟩:=h;exact⟨xs,sg h1 hb (λg hg=>(h1.lt g hg).2),h2.move (Lo.aJ (λb hb=>(h3 b hb).1) hb),λb dD=>⟨jQb (h3 b dD).1 hb.size,(h3 b dD).2⟩⟩
theorem dc.rs{base:Nat}{l:List GT}(h:dc E base W l v)(hE:∀b,E b->D b)(hD:∀b,base<=b->b<W.heap.size->D b):RS D W l v:=by
 obtain⟨xs,h1,h2,_⟩:=h;exact yd h1 (h2.move (au.refl.wide hE)) (λg hg=>hD g (h1.lt g hg).1 (h1.lt g hg).2)
theorem dc.wide{base:Nat}{l:List GT}(h:dc E base W l v)(hE:∀b,E b->F b)(hF:∀b,F b->b<W.heap.size/\some b≠v.ownBlock):dc F base W l v:=M135
theorem dc.form{base:Nat}{l:List GT}(h:dc E base W l v):∃a c,v=.slice a l.length c:=M80
theorem dc.base{base:Nat}{l:List GT}(h:dc E base W l v)(hb:base'<=base):dc E base' W l v:=M105
theorem j4{a:Act}{w:World}{Q:Exit->Act->World->Prop}(mX:o.guard=none)(s x:Operand)(t:TypeId)(ho:o.op=.call {callee:=.builtin .append,args:=#[s,x],argTypes:=#[t,t]})(base:Nat)(e:TypeId)(i:TypeInfo)(size:Nat)(ht:P.underlying t=some (.slice e))(hi:P.info? e=some i)(v:Value)(n:Nat)(xs:List Value)(hs:a.eval s=v)(aL:w.ownsRow base e size v n xs)(c:Nat)(hx:a.eval x=.slice none 0 c)(h:wpList P ops Q rest (a.put o.dst v) w):wpList P ops Q (o::rest) a w:=
 wpList_plain mX λ_ hK=>by
  have hr:(Builtin.append_ #[t,t] o.type #[v,.slice none 0 c]).run P w=.ok v w:=by
   rcases aL.2 with⟨rfl,rfl⟩|⟨g,cap,cur,rfl,_,_,KX,_⟩
   ·simp[Builtin.append_,jQj ht,sizeOf,typeInfo,hi,Builtin.lenOf,Builtin.firstCells]
   ·simp[Builtin.append_,jQj ht,sizeOf,typeInfo,hi,Builtin.lenOf,Builtin.firstCells,KX,storeCells]
  unfold Oper.wp execOp;simp only[ho,resolve,invoke,builtin,jRp,Sem.run_pure,jR8,List.map_toArray,List.map_cons,List.map_nil,hs,hx,hr];exact hK _ _ h
theorem nP{a:Act}{w:World}{Q:Exit->Act->World->Prop}(mX:o.guard=none)(s x:Operand)(ho:o.op=.call {callee:=.builtin .append,args:=#[s,x],argTypes:=#[23,23]})(base:Nat)(E:Nat->Prop)(v:Value)(l:List GT)(hs:a.eval s=v)(aL:dc E base w l v)(l':List GT)(ad:Addr)(c:Nat)(ns:List Value)(hx:a.eval x=.slice (some ad) l'.length c)(vY:RV E w l' ns)(hc:∀j u,ns[j]?=some u->w.cell? (ad.add j)=some u)(cF:(l++l').length<=1099511627776)(cS:base<=w.heap.size)(h:∀v' w',dc E base w' (l++l') v'->w.grownBy w' v.ownBlock->(v'.ownBlock=v.ownBlock\/v'.ownBlock=some w.heap.size)->wpList prog ops Q rest (a.put o.dst v') w'):wpList prog ops Q (o::rest) a w:=by
 obtain⟨i0,pn,lA,gj,j7⟩:=info_parts Cu;obtain⟨xs,aL,nr,hE⟩:=aL;rw[jQo]at cF;refine wpList_append_own_at w mX s x 23 ho base 25 i0 _ 7 88 underlying23 pn lA gj j7 rfl m9 v l.length xs hs aL ad l'.length c ns hx vY.length hc vY.one
  (by simp only[maxLen];omega) m9 cS λv' w' h1 h2 _ h4=>h v' w' ⟨xs++ns,by rw[jQo];exact h1,?_,?_⟩ h2 h4
 ·exact M154
 ·intro b hb;exact M49
theorem tU{a:Act}{w:World}{Q:Exit->Act->World->Prop}(mX:o.guard=none)(s x:Operand)(ho:o.op=.call {callee:=.builtin .append,args:=#[s,x],argTypes:=#[23,23]})(base:Nat)(E:Nat->Prop)(v:Value)(l:List GT)(hs:a.eval s=v)(aL:dc E base w l v)(sl:Value)(l':List GT)(D':Nat->Prop)(pT:RS D' w l' sl)(hx:a.eval x=sl)(news:∀b o,RC D' w l' b o->∃xs,RV E w l' xs/\(∀j u,xs[j]?=some u->w.cell? ⟨b,o+j,none⟩=some u))(cF:(l++l').length<=1099511627776)(cS:base<=w.heap.size)(h:∀v' w',dc E base w' (l++l') v'->w.grownBy w' v.ownBlock->(v'.ownBlock=v.ownBlock\/v'.ownBlock=some w.heap.size)->wpList prog ops Q rest (a.put o.dst v') w'):wpList prog ops Q (o::rest) a w:=by
 obtain⟨i0,pn,lA,gj,j7⟩:=info_parts Cu;rcases aN.1 pT with⟨rfl,a1,c1,e,h1⟩|⟨bk,b,o',c',e,Jd,jG,kN,hC⟩
 ·cases a1 with
  |none=>
   have:=h1 rfl;subst this;obtain⟨xs,oQ,nr,hE⟩:=aL;refine j4 mX s x 23 ho base 25 i0 7 underlying23 pn v l.length xs hs oQ 0 (hx.trans e) (h v w ?_ (World.grownBy.refl w _) (.inl rfl));rw[List.append_nil];exact⟨xs,oQ,nr,hE⟩
  |some ad=>exact nP mX s x ho base E v l hs aL [] ad c1 [] (hx.trans e) (by rw[RV]) (by intro j u hu;simp at hu) cF cS h
 ·obtain⟨ns,vY,hc⟩:=news b o' hC;refine nP mX s x ho base E v l hs aL l' ⟨b,o',none⟩ c' ns (hx.trans e) vY (λj u hu=>?_) cF cS h;exact M172
def abJ(D:Nat->Prop)(W:World)(r:List GT)(e:Ending)(W':World):Prop:=
 ∃v' E,e=.returned v'/\dc E W.heap.size W' r v'/\(∀b,E b->Up D W.heap.size W'.heap.size b)/\Below W.heap.size W W'
theorem abJ.Pf{r:List GT}(h:abJ D W r e W'):afT D W r e W':=by
 obtain⟨v',E,he,h1,h2,h3⟩:=h;exact⟨v',he,h1.rs h2 (λb hb dD=>.inr ⟨hb,dD⟩),h3⟩
section
variable{rs:List Nat}
structure sI(w:List ah)(S:Sg)(D:Nat->Prop)(obj:Nat->Nat)(rs:List Nat)(K:Nat)(E:Nat->Prop)(r:Nat)(W wr:World)(acc:List (Option Tm))(v:Value):Prop where
 ok:Ok w S D obj rs K (EO E v) r wr
 fr:Fr S rs r W wr
 row:qn S W.heap.size wr acc v
theorem sI.sn(h:sI w S D obj rs K E r W wr acc v):∀g,v.ownBlock=some g->S g=none:=λg hg=>(h.ok.own g (.inr hg)).2.2
theorem sI.tl(h:sI w S D obj rs K E r W wr acc v):lS S wr acc v:=h.row.tl h.sn
theorem sI.go(h:sI w S D obj rs K E r W wr acc v)(g1:Ok w S D obj rs K (EO E v) r w')(g2:Fr S rs r wr w'):sI w S D obj rs K E r W w' acc v:=
 ⟨g1,h.fr.trans g2,h.row.fr g2 h.sn⟩
theorem sI.below(h:sI w S D obj rs K E r W wr acc v)(hE:Env NS Q w rs cs)(hb:Below wr.heap.size wr w'):sI w S D obj rs K E r W w' acc v:=
 h.go (h.ok.below hE.hs hb) (Below.fr hb)
theorem sI.add(h:sI w S D obj rs K E r W wr acc v)(hE:Env NS Q w rs cs)(hr:qn S W.heap.size w' xJ v')(hp:iN (λb=>v.ownBlock=some b) wr w')(hv:v'.ownBlock=v.ownBlock\/v'.ownBlock=some wr.heap.size):
 sI w S D obj rs K E r W w' xJ v':=by
 refine⟨h.ok.step hE.hs hp (λb hb=>.inr hb) (λb hb=>?_),h.fr.ng hp λb hb=>(h.row.lt b hb).1,hr⟩;obtain hb|hb:=hb
 ·exact .inl (.inl hb)
 ·obtain e|e:=hv
  ·exact .inl (.inr (e▸hb))
  ·rw[e]at hb;cases hb;exact .inr ⟨jQ0 _,(hr.lt _ e).2⟩
theorem sI.start(h:Ok w S D obj rs K E r W):sI w S D obj rs K E r W W [] (.slice none 0 0):=
 ⟨h.drop λb hb=>hb.elim id λh=>by simp[Value.ownBlock]at h,Fr.refl _,⟨[],jR9 _ _ _ _,trivial⟩⟩
theorem sI.post(h:sI w S D obj rs K E r W wr acc v):yO w S D obj rs K E r W acc (.returned v) wr:=⟨v,rfl,h.row,h.ok,h.fr⟩
theorem sI.then(h:sI w S D obj rs K E r W wr acc v)(hp:yO w S D obj rs K (EO E v) r wr l e w'):yO w S D obj rs K E r W l e w':=by
 obtain⟨v',e1,k1,k2,k3⟩:=hp;exact⟨v',e1,k1.base h.fr.size,k2.drop λb hb=>hb.imp .inl id,h.fr.trans k3⟩
abbrev Qk(w:List ah)(K:Nat)(x y:List (Option Tm)):List (Option Tm):=(x.flatMap λa=>y.map λb=>interT (FF w K) w a b).filter (·.isSome)
theorem Y9(y:List (Option Tm)):Qk w K [] y=[]:=rfl
theorem UJ(a:Option Tm)(x y:List (Option Tm)):Qk w K (a::x) y=(y.map λb=>interT (FF w K) w a b).filter (·.isSome)++Qk w K x y:=by
 simp[Qk,List.flatMap_cons,List.filter_append]
theorem Mm(h1:aK x=false)(h2:aK y=false):eH (FF w K) w x y=norm (FF w K) w (Qk w K x y):=by
 unfold eH;rw[h1,h2];rfl
theorem JV(hE:Env NS Q w rs cs)(hI:cO NS Q w S D obj rs K r)(hB:2*B<=r)(bD:Ok w S D obj rs K E r W)(hl:lS S W l sl)(hm:lS S W m sm)(fQ:TL (jH NS Q w rs B) l)(lv:TL (jH NS Q w rs B) m)(cF:l.length*m.length<=1099511627776):
 Calls prog 134 #[sl,sm] W (yO w S D obj rs K E r W (eH (FF w K) w l m)):=by
 obtain⟨a,c,rfl⟩:=hl.form;obtain⟨a2,c2,rfl⟩:=hm.form;have rO:=hl.max;have ahA:=hm.max;have aF:=gI hl;have aD:=gI hm;obtain⟨HL,HM,HO,HI,gJ⟩:=Z5 hl hm (sI.start bD) hI hE;clear hl bD hI hE hm;cases h1:aK l with
 |true=>
  have hr:eH (FF w K) w l m=[]:=by unfold eH;rw[h1];rfl
  rw[hr];rw[h1]at aF;clear hr h1 aD fQ lv cF hB;go_enter func134,ntmps134;go_wp2_with fail;refine aF.mono ?_;exact M224
 |false=>
 rw[h1]at aF;cases h2:aK m with
 |true=>
  have hr:eH (FF w K) w l m=[]:=by unfold eH;rw[h2,Bool.or_true];rfl
  rw[hr];rw[h2]at aD;clear hr h1 h2 fQ lv cF hB;go_enter func134,ntmps134;go_wp2_with fail;refine aF.mono ?_;rintro e w' ⟨rfl,rfl⟩;go_wp2_with fail;refine aD.mono ?_;exact M224
 |false=>
 rw[h2]at aD;rw[Mm h1 h2];have mR:=ES (id:=FF w K) (w:=w) l m;have afr:=Aw (id:=FF w K) (w:=w) fQ lv;have HPL:=Z (show(Qk w K l m).length<=1099511627776 from jQd mR cF);have HPI:=Z (show TL (jH NS Q w rs B) (Qk w K l m)from afr);clear h1 h2 mR afr cF;go_enter func134,ntmps134;go_wp2_with fail;refine rv aF ?_;go_wp2_with fail;refine rv aD ?_;clear aF aD;go_wp2_with fail
 go_loopg [5,19] l.length (λgg s5 s19 wr=>∃(kk:Nat) (acc:List (Option Tm)),kk<=l.length/\l.length - kk<=gg/\s19=.int .i64 kk/\Aside (sI w S D obj rs K E r W wr acc s5)/\Aside (acc++Qk w K (l.drop kk) m=Qk w K l m))
 case atStart=>exact⟨0,[],jQc _,m9,rfl,HO.1,rfl⟩
 case round=>
  obtain⟨kk,acc,ez,hg,rfl,N,I⟩:=hrel;obtain⟨va,vc,rfl⟩:=N.out.row.form;by_cases aM:kk<l.length
  ·have aR:(kk:Int)<(l.length:Int):=m9
   obtain⟨x,hx⟩:∃x,l[kk]?=some x:=⟨l[kk],by simp[aM]⟩;obtain⟨b,o,p,rfl,hs,hc,ht⟩:=(HL.1.move N.out.fr).nth hx;have Nu:=I.out;rw[cZ hx,UJ]at Nu;obtain⟨HI2,HT,HX⟩:=Z3 Nu ht (show TO (jH NS Q w rs B) x from fQ.nth hx);clear Nu hx ht;go_wp2_with fail;clear hc
   go_loopg [5,25] m.length (λgg s5 s25 wr=>∃(jj:Nat) (acc:List (Option Tm)),jj<=m.length/\m.length - jj<=gg/\s25=.int .i64 jj/\Aside (sI w S D obj rs K E r W wr acc s5)/\Aside (TmV S wr x p)/\Aside (acc++(((m.drop jj).map λb=>interT (FF w K) w x b).filter (·.isSome)++Qk w K (l.drop (kk+1)) m)=Qk w K l m))
   case atStart=>exact⟨0,acc,jQc _,m9,rfl,N.out,HT.1,by rw[jR0];exact HI2.1⟩
   case round=>
    obtain⟨jj,acc,X1,Dp,rfl,N2,T2,A2⟩:=hrel;obtain⟨va,vc,rfl⟩:=N2.out.row.form;by_cases ee:jj<m.length
    ·have qY:(jj:Int)<(m.length:Int):=m9
     obtain⟨z,hz⟩:∃z,m[jj]?=some z:=⟨m[jj],by simp[ee]⟩;obtain⟨b4,o4,p4,rfl,nU,hc4,ht4⟩:=(HM.1.move N2.out.fr).nth hz;have hA:=A2.out;rw[cZ hz,List.map_cons]at hA;have ag:=GJ gJ.1 HI.1 hB N2.out.ok T2.out ht4 HX.1 (lv.nth hz);generalize tL:interT (FF w K) w x z=un at ag hA;have HA:=Z hA;clear hz ht4 hA tL;go_wp2_with fail;refine ag.mono ?_;rintro e w' ⟨q1,rfl,t1,g1,g2⟩;have N3:=Z (N2.out.go g1 g2);have T3:=Z (T2.out.move g2);cases un with
     |none=>
      cases t1;clear ag g1 g2;go_wp2_with fail;go_roundg (m.length - (jj+1))
      case measure=>omega
      case rel=>exact⟨jj+1,acc,m9,m9,by go_num,N3.1,T3.1,HA.1⟩
     |some un=>
      have hla:acc.length+1<=1099511627776:=by
       have h:=congrArg List.length HA.1;simp[-List.length_flatMap]at h;have:=HPL.1;rw[<-HA.1]at this;simp[-List.length_flatMap]at this;omega
      obtain⟨b8,v8,rfl,_⟩:=t1.open;have BA:=Z (an w' (.cells #[ptr b8] 152));have N4:=Z (N3.1.below gJ.1 BA.1);have TV:=Z (show All2 (TmV S (w'.alloc (.cells #[ptr b8] 152))) [some un] [ptr b8]from⟨t1.move (X:=Wc) (rs:=rs) (r:=r) (Below.fr BA.1),trivial⟩);have cS:W.heap.size<=(w'.alloc (.cells #[ptr b8] 152)).heap.size:=N4.1.fr.size;have T4:=Z (T3.1.move (X:=Wc) (rs:=rs) (r:=r) (Below.fr BA.1));clear ag g1 g2 t1;go_wp2_with (at_builtin;refine sf rfl _ _ rfl W.heap.size _ acc rfl N4.1.row [some un] ⟨w'.heap.size,0,none⟩ _ rfl [ptr b8] TV.1 (cell_one_new _ _ _) hla cS ?_);intro v9 w9 Za CP ha9;have N9:=Z (N4.1.add gJ.1 Za CP (by rw[jQ3];exact ha9));have T9:=Z (T4.1.ng CP);clear Za CP ha9;go_wp2_with fail;go_roundg (m.length - (jj+1))
      case measure=>omega
      case rel=>exact⟨jj+1,acc++[some un],m9,m9,by go_num,N9.1,T9.1,by simpa[Aside]using HA.1⟩
    ·have qY:¬(jj:Int)<(m.length:Int):=m9
     have hA:=A2.out;rw[jQf m9]at hA;have HA:=Z (show acc++Qk w K (l.drop (kk+1)) m=Qk w K l m from hA);clear hA;go_wp2_with fail;go_roundg (l.length - (kk+1))
     case measure=>omega
     case rel=>exact⟨kk+1,acc,m9,m9,by go_num,N2.out,HA.1⟩
  ·have aR:¬(kk:Int)<(l.length:Int):=m9
   have Nu:=I.out;rw[jQf m9,Y9,List.append_nil]at Nu;subst Nu;have ag:=Cl gJ.1 HI.1 hB N.out.ok N.out.tl HPI.1 HPL.1;go_wp2_with fail;refine ag.mono ?_;intro e w' hp;have fJ:=N.out.then hp;obtain⟨v',rfl,k1,k2,k3⟩:=id fJ;obtain⟨va',vc',rfl⟩:=k1.form;have HP:=Z fJ;clear ag hp fJ k1 k2 k3;exact M13
theorem Ql{a:Act}{w:World}{Q:Exit->Act->World->Prop}(mX:o.guard=none)(s x:Operand)(ho:o.op=.call {callee:=.builtin .append,args:=#[s,x],argTypes:=#[119,119]})(base:Nat)(v:Value)(l:List (Option Tm))(hs:a.eval s=v)(aL:qn S base w l v)(l':List (Option Tm))(sl:Value)(hx:a.eval x=sl)(pT:lS S w l' sl)(cF:l.length+l'.length<=1099511627776)(cS:base<=w.heap.size)(h:∀v' w',qn S base w' (l++l') v'->iN (λb=>v.ownBlock=some b) w w'->(v'.ownBlock=v.ownBlock\/v'.ownBlock=some w.heap.size)->wpList prog ops Q rest (a.put o.dst v') w'):wpList prog ops Q (o::rest) a w:=by
 obtain⟨ns,h1,h2⟩:=pT;rcases h1 with⟨rfl,ad,c,rfl,hn⟩|⟨bk,b,o',c',rfl,Jd,jG,hD,hC⟩
 ·have hl:l'=[]:=jQe (by rw[h2.len];rfl);subst hl;cases ad with
  |none=>
   have:=hn rfl;subst this;obtain⟨i0,pn,lA,gj,j7⟩:=info_parts ET;obtain⟨ps,k1,k2⟩:=id aL;refine j4 mX s x 119 ho base 152 i0 1 underlying119 pn v l.length ps hs k1 0 hx (h v w ?_ ?_ (.inl rfl))
   ·rw[List.append_nil];exact aL
   ·exact iN.grown (World.grownBy.refl w _) k1 i5 i5
  |some ad=>exact sf mX s x ho base v l hs aL [] ad c hx [] trivial (by intro j u hu;simp at hu) cF cS h
 ·refine sf mX s x ho base v l hs aL l' ⟨b,o',none⟩ c' (by rw[hx,h2.len]) ns h2 (λj u hu=>?_) cF cS h;by_cases hj:j=0
  ·subst hj;simpa[Addr.add]using hC 0 u hu
  ·simpa[Addr.add,hj]using hC j u hu
def Ti(w:List ah)(S:Sg)(D:Nat->Prop)(obj:Nat->Nat)(rs:List Nat)(K:Nat)(E:Nat->Prop)(r:Nat)(W:World)(v:Value)(l:List (Option Tm))(e:Ending)(W':World):Prop:=
 ∃v' W1,e=.returned v'/\qn S W.heap.size W' l v'/\Ok w S D obj rs K (EO E v') r W'/\iN (λb=>v.ownBlock=some b) W W1/\Fr S rs r W1 W'
theorem kQ(hE:Env NS Q w rs cs)(hI:cO NS Q w S D obj rs K r)(hB:2*B<=r)(bD:Ok w S D obj rs K E r W){base:Nat}(hl:qn S base W l v)(hb:base<=W.heap.size)(hv:∀b,v.ownBlock=some b->E b)(hm:lS S W m sm)(fQ:TL (jH NS Q w rs B) l)(lv:TL (jH NS Q w rs B) m)(cF:l.length+m.length<=1099511627776):
 Calls prog 133 #[v,sm] W (Ti w S D obj rs K E r W v (kv (FF w K) w l m)):=by
 obtain⟨a,c,rfl⟩:=hl.form;obtain⟨a2,c2,rfl⟩:=hm.form;obtain⟨HL,HM,HO,HI,gJ,HV⟩:=Z6 hl hm bD hI hE hv;clear hl bD hI hE hm hv;go_enter func133,ntmps133;go_wp2_with (at_builtin;refine Ql rfl _ _ rfl base _ l rfl HL.1 m _ rfl HM.1 cF hb ?_);intro v9 w9 Za CP ha9;have afs:Ok w S D obj rs K E r w9:=HO.1.ng gJ.1.hs CP HV.1;have yx:∀g,v9.ownBlock=some g->S g=none:=λg hg=>by
  obtain e|e:=ha9
  ·exact(HO.1.own g (HV.1 g (e▸hg))).2.2
  ·rw[e]at hg;cases hg;cases hs:S W.heap.size with
   |none=>rfl
   |some s=>have:=HO.1.gh.lI _ s hs;omega
 have ag:=Cl gJ.1 HI.1 hB afs (Za.tl yx) (TL.append.2 ⟨fQ,lv⟩) (by simpa using cF);obtain⟨a9,c9,e9⟩:=Za.form;subst e9;rw[jQo]at ag;have HP9:=Z CP;clear afs yx Za CP ha9;go_wp2_with fail;refine ag.mono ?_;rintro e w' ⟨v',rfl,k1,k2,k3⟩;have HP:=Z (show Ti w S D obj rs K E r W (.slice a l.length c) (kv (FF w K) w l m) (.returned v') w' from⟨v',w9,rfl,k1.base HP9.1.size,k2,HP9.1,k3⟩);clear ag k1 k2 k3;exact M13
end
theorem Kf{e:TypeId}(ht:P.underlying t=some (.slice e))(hs:∀w,(Go.sizeOf e).run P w=.ok sz w)(a:Option Addr)(n c m:Nat)(h1:m<=n)(w:World):
 (Instr.slice t (.slice a n c) (some (.int .i64 m)) none none).run P w=.ok (.slice (if c=m then a else a.map (·.add (m*sz))) (n - m) (c - m)) w:=by
 simp[Instr.slice,Instr.sliceBounds,jQj ht,hs,run_sliceBound,h1]
theorem wK{e:TypeId}(ht:P.underlying t=some (.slice e))(hs:∀w,(Go.sizeOf e).run P w=.ok sz w)(a:Option Addr)(n c m:Nat)(h1:m<=c)(w:World):
 (Instr.slice t (.slice a n c) none (some (.int .i64 m)) none).run P w=.ok (.slice a m c) w:=by
 simp[Instr.slice,Instr.sliceBounds,jQj ht,hs,run_sliceBound,h1];intro _;cases a<;>simp[Addr.add]
theorem RS.from{l:List GT}{m:Int}(h:RS D W l (.slice a n c))(hm:jW m l=some l'):
 ∃a' c',(∀w,(Instr.slice 23 (.slice a n c) (some (.int .i64 m)) none none).run prog w=.ok (.slice a' l'.length c') w)/\RS D W l' (.slice a' l'.length c'):=by
 unfold jW at hm;split at hm
 ·rename_i hb
  obtain⟨m,rfl⟩:=Int.eq_ofNat_of_zero_le hb.1;simp at hm;have gP:m<=l.length:=m9
  subst hm;rcases aN.1 h with⟨rfl,a1,c1,e,h1⟩|⟨bk,b,o,c1,e,h1,h2,h3,h4⟩
  ·simp at e gP;obtain⟨rfl,rfl,rfl⟩:=e;subst gP;refine⟨_,_,λw=>Kf underlying23 sizeOf25 a 0 c 0 (jQ0 _) w,aN.2 (.inl ⟨i6,_,c,rfl,?_⟩)⟩;intro hx;split at hx
   ·exact h1 hx
   ·cases a with
    |none=>exact h1 rfl
    |some a=>simp at hx
  ·simp at e;obtain⟨rfl,rfl,rfl⟩:=e;refine⟨if c=m then some ⟨b,o,none⟩else(some (Addr.mk b o none)).map (·.add (m*7)),c - m,λw=>?_,?_⟩
   ·rw[Kf underlying23 sizeOf25 _ _ _ m gP w,List.length_drop]
   ·by_cases aM:m<l.length
    ·have Kg:¬c=m:=m9
     refine aN.2 (.inr ⟨by intro e;have:=congrArg List.length e;simp at this;omega,b,o+m*7,c - m,?_,by simp;omega,m9,h3,h4.drop m⟩);by_cases KS:m=0
     ·subst KS;simp[Addr.add]
     ·simp[Kg,Addr.add];omega
    ·have Q9:m=l.length:=m9
     subst Q9;refine aN.2 (.inl ⟨i6,_,_,by simp;exact⟨rfl,rfl⟩,λe=>?_⟩);split at e
     ·omega
     ·simp at e
 ·cases hm
theorem RS.upto{l:List GT}{m:Int}(h:RS D W l (.slice a n c))(hm:mq m l=some l'):
 (∀w,(Instr.slice 23 (.slice a n c) none (some (.int .i64 m)) none).run prog w=.ok (.slice a l'.length c) w)/\RS D W l' (.slice a l'.length c):=by
 unfold mq at hm;split at hm
 ·rename_i hb
  obtain⟨m,rfl⟩:=Int.eq_ofNat_of_zero_le hb.1;simp at hm;have gP:m<=l.length:=m9
  subst hm;rcases aN.1 h with⟨rfl,a1,c1,e,h1⟩|⟨bk,b,o,c1,e,h1,h2,h3,h4⟩
  ·simp at e gP;obtain⟨rfl,rfl,rfl⟩:=e;subst gP;exact⟨λw=>wK underlying23 sizeOf25 a 0 c 0 (jQc _) w,aN.2 (.inl ⟨i6,_,c,rfl,h1⟩)⟩
  ·simp at e;obtain⟨rfl,rfl,rfl⟩:=e;have hl:(l.take m).length=m:=by simp;omega
   refine⟨λw=>?_,?_⟩
   ·rw[wK underlying23 sizeOf25 _ _ _ m m9 w,hl]
   ·by_cases h0:m=0
    ·subst h0;exact aN.2 (.inl ⟨i6,_,c,rfl,λe=>by cases e⟩)
    ·refine aN.2 (.inr ⟨?_,b,o,c,rfl,by rw[hl];omega,h2,h3,h4.take m⟩);intro e;rw[e]at hl;simp at hl;omega
 ·cases hm
theorem All2.set{R:α->β->Prop}{a:α}{b:β}(hr:R a b):∀{l:List α} {m:List β} (j:Nat),All2 R l m->All2 R (l.set j a) (m.set j b)
 |[],[],_,_=>trivial
 |_::l,_::m,0,h=>⟨hr,h.2⟩
 |_::l,_::m,j+1,h=>⟨h.1,All2.set hr j h.2⟩
 |[],_::_,_,h=>h.elim
 |_::_,[],_,h=>h.elim
def gp(w:List ah)(K:Nat)(S:Sg)(d:Bool)(G:Nat->Prop)(W:World)(so:Option Nat):Prop:=
 ∀b,so=some b->∃es ck,W.heap[b]?=some (.map es ck)/\∀e∈es.toList,∃q s,e.key=.iface (tid s.kind) (ptr q)/\S q=some s/\e.val=.bool true/\((fs w K).cmp s d=true\/G q)
section
variable(NS:List ByteArray)(Q:GT->Prop)(w:List ah)(S:Sg)(D:Nat->Prop)(obj:Nat->Nat)(rs:List Nat)(K r:Nat)
def dE:Prop:=∀(E G:Nat->Prop) (W:World) (v:Value) (t:GT) (d:Bool) (so:Option Nat),Ok w S D obj rs K E r W->dq S v t->PT NS Q w 0 t->2*J rs true false t+1<r->
 gp w K S d G W so->(∀q s,G q->S q=some s->J rs true false t<J rs true false s)->
 Calls prog 32 #[v,.bool d,.map so] W (lC (λb=>so=some b) w S D obj rs K E r W λu W'=>(u=.pointer none/\(fs w K).cmp t d=true/\gp w K S d G W' so)\/(∃b,u=ptr b/\(fs w K).cmp t d=false))
end
section
variable{rs:List Nat}
theorem bO(W:World):Calls prog 96 #[.bool true] W (dL W (.tuple #[])):=by
 go_enter func96,ntmps96;go_wp2_with fail;refine jRq (v:=.tuple #[]) (by simp[results,Tryz.results96,go_sem]) rfl ?_;exact⟨rfl,rfl⟩
theorem wu(hC:dE NS Q w S D obj rs K r)(bD:Ok w S D obj rs K E r W){t:GT}{d:Bool}(hv:dq S v t)(ht:PT NS Q w 0 t)(hr:2*J rs true false t+1<r):
 Calls prog 32 #[v,.bool d,.map none] W (aV w S D obj rs K E r W λu _=>(u=.pointer none/\(fs w K).cmp t d=true)\/(∃b,u=ptr b/\(fs w K).cmp t d=false)):=
 (hC E (λ_=>False) W v t d none bD hv ht hr (λ_ h=>by cases h) (λ_ _ h=>h.elim)).mono λe w' ⟨u,h1,h2,h3,h4⟩=>⟨u,h1,h2.imp (λh=>⟨h.1,h.2.1⟩) id,h3,h4.wide λb h=>by cases h⟩
theorem _root_.Go.Proofs.YtabjfnkfocnklaaGreatDoor.P.jH.ck{b:Nat}{a:GT}(h:jH NS Q w rs b a)(hb:2*b<=r):2*J rs true false a+1<r:=by
 have ja:=dM (rs:=rs) (v:=true) (f:=true) (v':=true) (f':=false) (λh=>h) i6 a;have:=h.2.1;omega
theorem JN{a:Act}{w:World}{Q:Exit->Act->World->Prop}(mX:o.guard=none)(x y:Operand)(ho:o.op=.store 152 x y)(base:Nat)(B j n c:Nat)(l:List (Option Tm))(aL:qn S base w l (.slice (some ⟨B,0,none⟩) n c))(tm:Option Tm)(b:Nat)(JO:TmV S w tm (ptr b))(hx:a.eval x=.pointer (some ⟨B,j,none⟩))(hy:a.eval y=ptr b)(hj:j<l.length)(h:∀w2,qn S base w2 (l.set j tm) (.slice (some ⟨B,0,none⟩) n c)->iN (λg=>some B=some g) w w2->wpList prog ops Q rest (a.put o.dst undef) w2):wpList prog ops Q (o::rest) a w:=by
 obtain⟨ps,h1,h2⟩:=aL;have Q8:=h1;rcases h1.2 with⟨h0,_⟩|⟨g,cap,cur,e,k1,k2,k3,k4,k5,k6⟩
 ·cases h0
 simp at e;obtain⟨rfl,rfl,rfl⟩:=e;have hcz:l.length<=cur.size:=m9
 refine eT mX 152 x y ho B j (ptr b) hx hy 152 _ k2 g9 (by simp[Value.cells,Value.oneCell']) (by simp[Value.cells];omega) _ rfl ?_;intro w2 hp;have hv:iN (λg=>some B=some g) w w2:=by
  have:=iN.put hp λEk t' f hc=>by rw[k2]at hc;cases hc;decide
  exact⟨this.os,this.tape,this.output,this.size,λq hq hn=>this.block q hq λe=>hn (by rw[e]),λq hq=>this.nt q (jQw hq).symm⟩
 have sG:(cur.toList.take j++(ptr b).cells.toList++cur.toList.drop (j+(ptr b).cells.size)).toArray.toList=cur.toList.set j (ptr b):=by
  have hc:(ptr b).cells=#[ptr b]:=rfl;rw[hc,List.set_eq_take_append_cons_drop,jQ7 (by simp;omega)];simp
 refine h w2 ⟨ps.set j (ptr b),⟨by rw[List.length_set,List.length_set];exact h1.1,.inr ⟨B,c,_,by rw[List.length_set],k1,hp.here,by rw[List.length_set];exact k3,k4,?_,?_⟩⟩,?_⟩ hv
 ·rw[<-Array.length_toList,sG,List.length_set,Array.length_toList];exact k5
 ·rw[sG,List.length_set,<-k6,List.take_set]
 ·have Is:All2 (TmV S w2) l ps:=h2.imp λ_ _ K6=>K6.ng hv;have Ng:=JO.ng hv;exact All2.set Ng j Is
end
section
variable{rs:List Nat}
def CG(w:List ah)(S:Sg)(D:Nat->Prop)(obj:Nat->Nat)(rs:List Nat)(K:Nat)(E:Nat->Prop)(r:Nat)(W:World)(l:List (Option Tm))(f:Bool)(e:Ending)(W':World):Prop:=
 ∃v,e=.returned (.tuple #[v,.bool f])/\qn S W.heap.size W' l v/\Ok w S D obj rs K (EO E v) r W'/\Fr S rs r W W'
theorem sI.aa0(h:sI w S D obj rs K E r W wr acc v)(f:Bool):CG w S D obj rs K E r W acc f (.returned (.tuple #[v,.bool f])) wr:=⟨v,rfl,h.row,h.ok,h.fr⟩
theorem qn.pos{base:Nat}(h:qn S base W l (.slice a n c))(hl:l≠[]):∃g,a=some ⟨g,0,none⟩/\n=l.length:=by
 obtain⟨ps,h1,h2⟩:=h;rcases h1.2 with⟨e,h0⟩|⟨g,cap,cur,e,_⟩
 ·exact absurd (jQe h0) hl
 ·simp at e;exact⟨g,e.1,e.2.1⟩
theorem All2.take{R:α->β->Prop}:∀{l:List α} {m:List β} (j:Nat),All2 R l m->All2 R (l.take j) (m.take j)
 |_,_,0,_=>by simp[All2]
 |[],[],_+1,_=>trivial
 |_::_,_::_,j+1,h=>⟨h.1,All2.take j h.2⟩
 |[],_::_,_,h=>h.elim
 |_::_,[],_,h=>h.elim
theorem qn.take{base:Nat}(h:qn S base W l (.slice a n c))(hj:j<=l.length):qn S base W (l.take j) (.slice a j c):=by
 obtain⟨ps,h1,h2⟩:=h;have hlen:(l.take j).length=j:=by simp;omega
 refine⟨ps.take j,⟨?_,?_⟩,h2.take j⟩
 ·have:=h1.1;rw[hlen];simp;omega
 ·rcases h1.2 with⟨e,h0⟩|⟨g,cap,cur,e,k1,k2,k3,k4,k5,k6⟩
  ·have:j=0:=m9
   subst this;simp at e;obtain⟨rfl, -,rfl⟩:=e;exact .inl ⟨rfl,i6⟩
  ·simp at e;obtain⟨rfl, -,rfl⟩:=e;refine .inr ⟨g,c,cur,by rw[hlen],k1,k2,m9,k4,k5,?_⟩;rw[hlen,<-k6,List.take_take]
   congr 1;omega
theorem sI.take(h:sI w S D obj rs K E r W wr acc (.slice a n c))(hj:j<=acc.length):sI w S D obj rs K E r W wr (acc.take j) (.slice a j c):=by
 refine⟨?_,h.fr,h.row.take hj⟩;have:EO E (.slice a j c)=EO E (.slice a n c):=by
  funext b;cases a<;>rfl
 rw[this];exact h.ok
theorem Fa(h:(xc||yc)=false\/isAllL (eH id w x y)=true):eJ id w cmp x xc y yc=(eH id w x y,xc||yc):=by
 unfold eJ;rcases h with h|h<;>simp[h]
theorem MN(h:(xc||yc)=true)(h2:isAllL (eH id w x y)=false):eJ id w cmp x xc y yc=((eH id w x y).filter (keepT cmp),isAllL ((eH id w x y).filter (keepT cmp))):=by
 unfold eJ;simp[h,h2]
theorem pK(hE:Env NS Q w rs cs)(hI:cO NS Q w S D obj rs K r)(hC:dE NS Q w S D obj rs K r)(hB:2*B<=r)(bD:Ok w S D obj rs K E r W)(hl:lS S W l sl)(hm:lS S W m sm)(fQ:TL (jH NS Q w rs B) l)(lv:TL (jH NS Q w rs B) m)(cF:l.length*m.length<=1099511627776)(hnl:NF l)(dU:NF m)(xc yc:Bool):
 Calls prog 98 #[sl,.bool xc,sm,.bool yc] W (CG w S D obj rs K E r W (eJ (FF w K) w (λt=>(fs w K).cmp t false) l xc m yc).1 (eJ (FF w K) w (λt=>(fs w K).cmp t false) l xc m yc).2):=by
 obtain⟨a,c,rfl⟩:=hl.form;obtain⟨a2,c2,rfl⟩:=hm.form;have aF:=JV hE hI hB bD hl hm fQ lv cF;have Hy:=(EV (id:=FF w K) (w:=w) hnl dU).1;have Oe:=rX (id:=FF w K) (w:=w) fQ lv;generalize fi:eH (FF w K) w l m=ts at aF Hy Oe;cases jG:(xc||yc)with
 |false=>
  rw[Fa (.inl jG),jG,fi];have hx:xc=false:=by cases xc<;>simp_all
  have hy:yc=false:=by cases yc<;>simp_all
  subst hx;subst hy;clear hl hm fQ lv cF hnl dU hE hI hC hB bD Hy Oe fi jG;go_enter func98,ntmps98;go_wp2_with fail;refine aF.mono ?_;rintro e w' ⟨v,rfl,k1,k2,k3⟩;have HP:=Z (show CG w S D obj rs K E r W ts false (.returned (.tuple #[v,.bool false])) w' from⟨v,rfl,k1,k2,k3⟩);obtain⟨va,vc,rfl⟩:=k1.form;clear k1 k2 k3 aF;have ag:=bO w';go_wp2_with fail;refine rv ag ?_;go_wp2_with fail;refine jRc (v:=.tuple #[.slice va ts.length vc,.bool false]) (by simp[results,Tryz.results98,go_sem]) rfl ?_;exact HP.1
 |true=>
  cases ha:isAllL ts with
  |true=>
   rw[Fa (.inr (by rw[fi];exact ha)),jG,fi];clear hl hm fQ lv cF hnl dU hE hI hC hB bD Hy Oe fi;go_enter func98,ntmps98;cases xc
   ·have hy:yc=true:=by simpa using jG
    subst hy;exact M37
   ·exact M37
  |false=>
   rw[MN jG (by rw[fi];exact ha),fi];have hnu:=oR.1 ha;have CW:=Hy.tp ha;have xe:isAllL (ts.filter (keepT λt=>(fs w K).cmp t false))=false:=oR.2 λx hx=>hnu x (List.mem_filter.1 hx).1;rw[xe];obtain⟨HI,gJ,HC,HTP,DH,HFL⟩:=Z6 hI hE hC CW Oe xe;clear hl hm fQ lv cF hnl dU hE hI hC bD Hy Oe fi hnu CW xe;go_enter func98,ntmps98;cases xc
   ·have hy:yc=true:=by simpa using jG
    subst hy;exact M4
   ·exact M4
end
def hitE(q:Value->Bool):List MapEntry->Nat->Option (Nat×Value)
 |[],_=>none
 |e::l,i=>if q e.key then some (i,e.val)else hitE q l (i+1)
theorem oD{q:Value->Bool}:∀{l:List MapEntry} {i j:Nat} {v:Value},hitE q l i=some (j,v)->∃k e,j=i+k/\l[k]?=some e/\q e.key=true/\v=e.val
 |[],_,_,_,h=>by simp[hitE]at h
 |e::l,i,j,v,h=>by
  rw[hitE]at h;split at h
  ·rename_i hq
   simp at h;exact⟨0,e,m9,rfl,hq,h.2.symm⟩
  ·obtain⟨k,e',h1,h2,h3,h4⟩:=oD h;exact⟨k+1,e',m9,by simpa using h2,h3,h4⟩
section
theorem Ou:∀{es:List MapEntry} (i:Nat),(∀e∈es,(Op.equal kt k e.key).run P W=.ok (q e.key) W)->(Instr.findAsking kt k es i).run P W=.ok (hitE q es i) W
 |[],i,_=>by simp[Instr.findAsking,hitE]
 |e::es,i,h=>by
  unfold Instr.findAsking;rw[hitE];have:=h e i6;cases hq:q e.key with
  |true=>simp[this,hq,Result.andThen]
  |false=>
   have ih:=Ou (es:=es) (i+1) λe he=>h e (by simp[he]);simp[this,hq,Result.andThen,ih]
theorem Cp(hd:P.underlying kt=some d)(hn:∀k',Instr.sameNow d k k'=none){es:List MapEntry}(h:∀e∈es,(Op.equal kt k e.key).run P W=.ok (q e.key) W):(Instr.findKey kt k es).run P W=.ok (hitE q es 0) W:=by
 cases es with
 |nil=>simp[Instr.findKey,jQj hd,Result.andThen,Instr.findNow,hitE]
 |cons e es=>
  have:Instr.findNow d k (e::es) 0=none:=by simp[Instr.findNow,hn]
  simp[Instr.findKey,jQj hd,Result.andThen,this,Ou 0 h]
structure DD(r:Nat)(es:Array MapEntry)(ck:Nat)(w w2:World):Prop where
 here:w2.heap[r]?=some (.map es ck)
 other:∀b,b≠r->w2.heap[b]?=w.heap[b]?
 size:w2.heap.size=w.heap.size
 os:w2.os=w.os
 tape:w2.tape=w.tape
 output:w2.output=w.output
theorem Cq{w:World}{es:Array MapEntry}{ck:Nat}(hb:w.heap[r]?=some (.map es0 ck0)):DD r es ck w {w with heap:=w.heap.setIfInBounds r (.map es ck)}:=
 ⟨(MapKept.heap_set hb).1,(MapKept.heap_set hb).2,i6,rfl,rfl,rfl⟩
theorem DD.fr{rs:List Nat}{es:Array MapEntry}{ck:Nat}{w:World}(h:DD r es ck w w2)(hb:w.heap[r]?=some (.map es0 ck0))(hX:X r):bZ X S rs rr w w2:=by
 refine⟨h.os,h.tape,h.output,jQz h.size.symm,λb _=>?_⟩;by_cases nL:b=r
 ·subst nL;exact .inr (.inr ⟨hX,⟨_,_,hb⟩,⟨_,_,h.here⟩⟩)
 ·exact .inl (h.other b nL)
variable{es:Array MapEntry}{ck:Nat}
theorem IM(hm:P.underlying mt=some (.map kt et))(hd:P.underlying kt=some d)(hn:∀k',Instr.sameNow d k k'=none)(hck:∀e,(Instr.checkKey e 10000 kt k).run P W=.ok () W)(hz:(zeroValue et).run P W=.ok z W)(hb:W.heap[r]?=some (.map es ck))(h:∀e∈es.toList,(Op.equal kt k e.key).run P W=.ok (q e.key) W)(c:Bool):
 (Instr.lookup mt (.map (some r)) k c).run P W=.ok (if c then .tuple #[((hitE q es.toList 0).map (·.2)).getD z,.bool (hitE q es.toList 0).isSome]else((hitE q es.toList 0).map (·.2)).getD z) W:=by
 have hf:=Cp hd hn h;unfold Instr.lookup;simp only[jRp,jQj hm,jR8,MapKept.run_getObj_map hb,Sem.run_pure,hck,hf];cases hh:hitE q es.toList 0 with
 |none=>cases c<;>simp[hz,Result.andThen]
 |some jv=>cases c<;>simp[Result.andThen]
theorem Gj(hm:P.underlying mt=some (.map kt et))(hd:P.underlying kt=some d)(hck:∀e,(Instr.checkKey e 10000 kt k).run P W=.ok () W)(hz:(zeroValue et).run P W=.ok z W):
 (Instr.lookup mt (.map none) k false).run P W=.ok z W:=by
 unfold Instr.lookup;simp[jRp,jQj hm,jR8,hck,Instr.findKey,jQj hd,Instr.findNow,hz,Result.andThen]
theorem kP(hm:P.underlying mt=some (.map kt et))(hd:P.underlying kt=some d)(hn:∀k',Instr.sameNow d k k'=none)(hck:∀e,(Instr.checkKey e 10000 kt k).run P W=.ok () W)(hb:W.heap[r]?=some (.map es ck))(h:∀e∈es.toList,(Op.equal kt k e.key).run P W=.ok (q e.key) W)(fp:hitE q es.toList 0=none):
 ∃w2,(Instr.mapUpdate mt (.map (some r)) k v).run P W=.ok () w2/\DD r (es.push {key:=k,val:=v,born:=ck}) (ck+1) W w2:=by
 have hf:=Cp hd hn h;refine⟨_,?_,Cq hb⟩;unfold Instr.mapUpdate;simp[jRp,jQj hm,jR8,MapKept.run_getObj_map hb,hck,hf,fp,MapKept.run_setObj_map _ hb,Result.andThen]
theorem iV{e:MapEntry}(hm:P.underlying mt=some (.map kt et))(hd:P.underlying kt=some d)(hn:∀k',Instr.sameNow d k k'=none)(hck:∀e,(Instr.checkKey e 10000 kt k).run P W=.ok () W)(hb:W.heap[r]?=some (.map es ck))(h:∀e∈es.toList,(Op.equal kt k e.key).run P W=.ok (q e.key) W)(hj:es[j]?=some e)(hit:hitE q es.toList 0=some (j,u))(hk:Instr.sameBits 10000 e.key k=true):
 ∃w2,(Instr.mapUpdate mt (.map (some r)) k v).run P W=.ok () w2/\DD r (es.modify j λe=>{e with key:=k,val:=v}) ck W w2:=by
 have hf:=Cp hd hn h;refine⟨_,?_,Cq hb⟩;unfold Instr.mapUpdate;simp[jRp,jQj hm,jR8,MapKept.run_getObj_map hb,hck,hf,hit,hj,Instr.keyThatStays,hk,MapKept.run_setObj_map _ hb,Result.andThen]
end
theorem LK{j:TypeInfo}{a b:Nat}(hp:Tryz.prog.underlying tp=some (.pointer te))(Jt:Tryz.prog.info? te=some j)(j8:j.size≠0)(ha:W.heap[a]?=some (.cells ca ta (0,0)))(hb:W.heap[b]?=some (.cells cb tb (0,0))):(Op.equal tp (ptr a) (ptr b)).run prog W=.ok (a==b) W:=by
 by_cases h:a=b
 ·subst h;have h1:∀d:Nat,(Op.equalIn (d+1) tp (ptr a) (ptr a)).run prog W=.ok true W:=λd=>by
   simp[Op.equalIn,jQj hp,sizeOf,typeInfo,Jt,run_sameAddr_same]
  simp[Op.equal,Op.maxDepth,h1 9999]
 ·have bk:(⟨a,0,none⟩:Addr)≠⟨b,0,none⟩:=by intro e;cases e;exact h rfl
  have h1:∀d:Nat,(Op.equalIn (d+1) tp (ptr a) (ptr b)).run prog W=.ok false W:=λd=>by
   simp[Op.equalIn,jQj hp,sizeOf,typeInfo,Jt,j8,run_sameAddr_other W bk ha hb]
  simp[Op.equal,Op.maxDepth,h1 9999,h]
theorem Ja{ms:Array (String×TypeId)}{i j:TypeInfo}{a b:Nat}(hi:Tryz.prog.underlying ti=some (.interface ms))(hp:Tryz.prog.underlying tp=some (.pointer te))(aaL:Tryz.prog.info? tp=some i)(aaM:i.comparable=true)(Jt:Tryz.prog.info? te=some j)(j8:j.size≠0)(ha:W.heap[a]?=some (.cells ca ta (0,0)))(hb:W.heap[b]?=some (.cells cb tb (0,0))):(Op.equal ti (.iface tp (ptr a)) (.iface tq (ptr b))).run prog W=.ok (tp==tq&&a==b) W:=by
 by_cases ht:tp=tq
 ·subst ht;by_cases h:a=b
  ·subst h;simp[Op.equal,Op.maxDepth,run_equalIn_iface_ptr_same W 9998 _ hi hp aaL aaM Jt]
  ·have bk:(⟨a,0,none⟩:Addr)≠⟨b,0,none⟩:=by intro e;cases e;exact h rfl
   simp[Op.equal,Op.maxDepth,run_equalIn_iface_ptr_other W 9998 hi hp aaL aaM Jt j8 bk ha hb,h]
 ·have h1:∀d:Nat,(Op.equalIn (d+1) ti (.iface tp (ptr a)) (.iface tq (ptr b))).run prog W=.ok false W:=λd=>by
   simp[Op.equalIn,jQj hi,ht]
  simp[Op.equal,Op.maxDepth,h1 9999,ht]
def Og(k:Nat):Prop:=∀(w:List ah) (ws:Value) (t:GT) (r:Bool) (v:Value) (W:World) (D:Nat->Prop),general w k t=some r->Lo D W.heap.size->RD D W w ws->RT D W t v->
 Calls prog 92 #[ws,v] W (ef W r)
theorem gN{a b:Option Bool}{r:Bool}(h:po a b=some r):(a=some true/\r=true)\/(a=some false/\b=some r):=by
 obtain⟨x,h1,h2⟩:=jQ1.1 h;cases x
 ·exact .inr ⟨h1,by simpa using h2⟩
 ·exact .inl ⟨h1,by simpa using h2.symm⟩
theorem cY{a b:Option Bool}{r:Bool}(h:fy a b=some r):(a=some false/\r=false)\/(a=some true/\b=some r):=by
 obtain⟨x,h1,h2⟩:=jQ1.1 h;cases x
 ·exact .inl ⟨h1,by simpa using h2.symm⟩
 ·exact .inr ⟨h1,by simpa using h2⟩
theorem aX{a:Option Bool}{r:Bool}(h:bh a=some r):a=some (!r):=by
 obtain⟨x,h1,h2⟩:=jQ6.1 h;rw[h1,<-h2];simp
theorem Ur(k:Nat)(ih:Og k)(w:List ah)(ws:Value)(e:GT)(r:Bool)(v:Value)(W:World)(D:Nat->Prop)(Bw:Nat)(hp:(if e.kind=12 then some true else if e.kind=13 then some true else po (bh (isIface w e)) (general w k e))=some r)(hD:Lo D W.heap.size)(hw:RD D W w ws)(hv:RT D W e v)(hB:W.cell? ⟨Bw,0,none⟩=some ws):
 Calls prog 131 #[v,.pointer (some ⟨Bw,0,none⟩)] W (ef W r):=by
 have lR:=jQs hB;simp only at lR;obtain⟨k0,n,m,va,nm,tg,l⟩:=e;obtain⟨sl,rfl,hs⟩:=ki.1 hv;obtain⟨a,c,rfl⟩:=hs.form;obtain⟨wa,wc,rfl⟩:=hw.form;have hA:=(jQ5 W.heap.size W).alloc (jQ0 _) (.cells #[.int .i64 k0,.int .i64 n,.int .i64 m,.bool va,.string nm,.string tg,.slice a l.length c] 25);have HA:=Z hA;simp only[GT.kind]at hp;obtain⟨HD,HW,HV⟩:=Z3 hD hw hv;clear hA hs hD hw hv;by_cases cQ:k0=12
 ·subst cQ;exact M191
 ·have xT:(k0==12)=false:=by simp[cQ]
  by_cases cg:k0=13
  ·subst cg;exact M191
  ·have abZ:(k0==13)=false:=by simp[cg]
   simp only[cQ,cg,jR1]at hp;rcases gN hp with⟨h1,rfl⟩|⟨h1,h2⟩
   ·have Q8:=aX h1;clear hp h1;have ag:=dh w _ _ _ _ _ D Q8 (HD.1.mono i6) (HW.1.move (HD.1.aJ HA.1) HA.1.size HA.1.block) (HV.1.move (HD.1.aJ HA.1));clear Q8;go_enter func131,ntmps131;go_wp2_with fail;refine ag.mono ?_;rintro e w1 ⟨rfl,ar⟩;have HB:=Z (HA.1.trans (ar.mono i6));clear ar;exact M33
   ·have Q8:=aX h1;clear hp h1;have ag:=dh w _ _ _ _ _ D Q8 (HD.1.mono i6) (HW.1.move (HD.1.aJ HA.1) HA.1.size HA.1.block) (HV.1.move (HD.1.aJ HA.1));have H2:=Z h2;clear Q8 h2;go_enter func131,ntmps131;go_wp2_with fail;refine ag.mono ?_;rintro e w1 ⟨rfl,ar⟩;have HB:=Z (HA.1.trans (ar.mono i6));have Ff:w1.cell? ⟨Bw,0,none⟩=some (.slice wa w.length wc):=(HB.1.cell (p:=⟨Bw,0,none⟩) lR).trans hB;obtain⟨c0,c1,c2,c3,c4,c5,c6⟩:=ao (aj ar (ak W _) i6);have aD:=ih w _ _ _ _ w1 D H2.1 (HD.1.mono HB.1.size) (HW.1.move (HD.1.aJ HB.1) HB.1.size HB.1.block) (HV.1.move (HD.1.aJ HB.1));clear ar;go_wp2_with fail;refine aD.mono ?_;rintro e w2 ⟨rfl,cX⟩;have dP:=Z (HB.1.trans (cX.mono HB.1.size));clear cX;go_wp2_with fail;go_ret;exact⟨i6,dP.1⟩
theorem uT(t:GT)(v:Value)(W:World)(D:Nat->Prop)(hv:RT D W t v):Calls prog 39 #[v] W (ef W (eM t)):=by
 obtain⟨a,c,rfl,hs⟩:=hv.bR;clear hs hv;by_cases h6:t.kind=6
 ·have hb:eM t=false:=by simp[eM,h6]
  exact M82
 ·have k6:(t.kind !=6)=true:=by simp[h6]
  by_cases h1:t.kind=1
  ·by_cases h17:t.n=17
   ·have hb:eM t=false:=by simp[eM,h1,h17]
    exact M82
   ·have k17:(t.n !=17)=true:=by simp[h17]
    have hb:eM t=true:=by simp[eM,h1,h17]
    exact M82
  ·have k1:(t.kind !=1)=true:=by simp[h1]
   have hb:eM t=true:=by simp[eM,h1,h6]
   exact M82
theorem gl(w:List ah)(ws:Value)(t:GT)(r:Bool)(v:Value)(W:World)(D:Nat->Prop)(hr:bU w t=some r)(hx:Cx D w ws W)(hv:RT D W t v):
 Calls prog 170 #[ws,v] W (ef W r):=by
 obtain⟨a,c,rfl,hs⟩:=hv.bR;have HA:=Z (an W (bx t a c));obtain⟨wa,wc,rfl⟩:=hx.rd.form;unfold bU at hr;by_cases cQ:t.kind=12
 ·have h:false=r:=by simpa[cQ]using hr
  exact M168
 ·have tT:(t.kind !=12)=true:=by simp[cQ]
  by_cases cg:t.kind=13
  ·have h:false=r:=by simpa[cg]using hr
   exact M168
  ·have ll:(t.kind !=13)=true:=by simp[cg]
   have Nn:isIface w t=some r:=by simpa[cQ,cg]using hr
   have dt:=hx.mv HA.1;have ag:=dh w _ t r _ _ D Nn dt.lo dt.rd (hv.mv hx.lo HA.1);clear hr Nn hs hv hx dt;go_enter func170,ntmps170;go_wp2_with fail;refine ag.mono ?_;rintro e w1 ⟨rfl,ar⟩;have HB:=Z (HA.1.trans (ar.mono HA.1.size));clear ar;exact M33
theorem gM(k:Nat):Og k:=by
 induction k with
 |zero=>intro w ws t r v W D h;simp[general]at h
 |succ k ih=>
  intro w ws t r v W D hg hD hw hv;obtain⟨u,hu,hg⟩:=jQ1.1 hg;obtain⟨a,c,rfl,hs⟩:=hv.bR;obtain⟨wa,wc,rfl⟩:=hw.form;have HA:=Z (dT W (.cells #[.slice wa w.length wc] 22) (bx t a c));have hx:Cx D w (.slice wa w.length wc) W:=⟨hD,hw⟩;have dt:=hx.mv HA.1;have ag:=dG w _ t u _ _ D hu dt.lo dt.rd (hv.mv hx.lo HA.1);have HG:=Z hg;clear hg hs hv hu dt hw;have HDD:=Z hD;clear hD;go_enter func92,ntmps92;go_wp2_with fail;refine ag.mono ?_;rintro e w1 ⟨v1,rfl,fP,ar⟩;obtain⟨a1,c1,rfl,cz⟩:=fP.bR;have HB:=Z (HA.1.trans (ar.mono HA.1.size));have kq:=jQh (aj ar (aq (ak W (.cells #[.slice wa w.length wc] 22))) (by simp;omega));have aM:W.heap.size<w1.heap.size:=jQs kq;have hg:=HG.1;have j7:=ar.size;simp only[jQ3]at cz j7;have HS:=Z cz;clear ar fP ag cz;by_cases bH:u.kind=10
  ·have sq:(u.kind !=10)=false:=by simp[bH]
   rw[jQ4 (by simp[bH])]at hg;clear bH;obtain⟨l,hl,qc⟩:=jQ1.1 hg;obtain⟨a2,c2,pT,su⟩:=RS.from HS.1 hl;have hz:=HB.1.size;have HC:=Z (HB.1.alloc hz (bx u a1 c1));have dF:=(hx.mv HC.1).up (n:=W.heap.size+2) (HDD.1.mono m9) (by simp;omega);have eX:=su.move (W':=w1.alloc (bx u a1 c1)) (D':=Up D (W.heap.size+2) (w1.alloc (bx u a1 c1)).heap.size) (((au.refl.alloc (λb hb=>?_) _)).wide (Up.mono i6 i6))
   ·have fw:(w1.alloc (bx u a1 c1)).cell? ⟨W.heap.size,0,none⟩=some (.slice wa w.length wc):=by
     rw[World.cell?_alloc_past _ _ _ aM];exact kq
    have ag:=cL l _ _ _ eX dF.lo 131 #[.pointer (some ⟨W.heap.size,0,none⟩)] Tryz.call131 _ (λW1 e v bb ar _ dr ke=>by
     have qm:=dF.mv ar;exact Ur k ih w _ e bb v W1 _ _ ke qm.lo qm.rd dr ((ar.cell (p:=⟨W.heap.size,0,none⟩) (by simp;omega)).trans fw)) r qc
    have D8:∀(fn:Fn) (first cap:Array Value) (w:World),(Instr.makeFunc fn first cap).run prog w=.ok (.func fn first cap) w:=λ_ _ _ _=>rfl;clear dF eX su qc hl hx fw;exact M138
   ·exact(Up.lo (HDD.1.mono m9) m9) b hb
  ·have sq:(u.kind !=10)=true:=by simp[bH]
   rw[jQ7 (by simpa using bH)]at hg;have h:(u.kind==16)=r:=by simpa using hg
   subst h;clear hg;by_cases ir:u.kind=16
   ·go_wp2_with fail;go_ret;exact⟨by simp[ir],HB.1.alloc (by have:=HB.1.size;omega) _⟩
   ·have yr:(u.kind==16)=false:=by simp[ir]
    go_wp2_with fail;go_ret;exact⟨by simp[yr],HB.1.alloc (by have:=HB.1.size;omega) _⟩
def af0(W:World)(r:Bool)(e:Ending)(W':World):Prop:=e=.returned (.bool r)/\W'=W
theorem aQ(n m:Int)(W:World):Calls prog 86 #[.int .i64 n,.int .i64 m] W (af0 W (within n m)):=by
 unfold within;by_cases h0:n≥0
 ·by_cases h1:n<m
  ·exact M127
  ·exact M127
 ·exact M127
theorem Cd(s:ByteArray)(kk:Nat)(h:kk<s.size):isNameL kk (s.toList.drop kk)=
 (if ((decide ((s[kk].toNat:Int)<65))||(decide (90<(s[kk].toNat:Int))))&&(!((decide (97<=(s[kk].toNat:Int)))&&(decide ((s[kk].toNat:Int)<=122)))||kk==0)then false else isNameL (kk+1) (s.toList.drop (kk+1))):=by
 have hl:kk<s.toList.length:=by simpa[jRk]using h
 have he:s.toList[kk]=s[kk]:=by simp[jRk];rfl
 rw[jQv hl,isNameL,he];have h1:decide (s[kk]≥(97:UInt8))=decide (97<=(s[kk].toNat:Int)):=by simp[UInt8.le_iff_toNat_le];omega
 have h2:decide (s[kk]<=(122:UInt8))=decide ((s[kk].toNat:Int)<=122):=by simp[UInt8.le_iff_toNat_le];omega
 have h3:decide (s[kk]<(65:UInt8))=decide ((s[kk].toNat:Int)<65):=by simp[UInt8.lt_iff_toNat_lt];omega
 have h4:decide (s[kk]>(90:UInt8))=decide (90<(s[kk].toNat:Int)):=by simp[UInt8.lt_iff_toNat_lt];omega
 simp only[h1,h2,h3,h4]
theorem fO(s:ByteArray)(W:World)(hs:s.size<=9223372036854775807):Calls prog 36 #[.string s] W (af0 W (isName s)):=by
 go_enter func36,ntmps36;go_wp2_with fail
 go_loopg [3,4,7] s.size (λgg _ _ s7 wr=>∃kk:Nat,kk<=s.size/\s.size - kk<=gg/\s7=.int .i64 kk/\wr=W/\Aside (isNameL kk (s.toList.drop kk)=isNameL 0 s.toList))
 case atStart=>exact⟨0,jQc _,m9,rfl,rfl,by simp[Aside]⟩
 case round=>
  obtain⟨kk,ez,hg,rfl,rfl,A⟩:=hrel;by_cases aM:kk<s.size
  ·have aR:(kk:Int)<(s.size:Int):=m9
   have hz:(0:Int)<=kk:=m9
   have hA:=A.out;rw[Cd s kk aM]at hA;by_cases q1:(65:Int)<=(s[kk].toNat:Int)/\(s[kk].toNat:Int)<=90
   ·have t1:¬(97:Int)<=(s[kk].toNat:Int):=m9
    have t3:¬(s[kk].toNat:Int)<65:=m9
    have t4:¬(90:Int)<(s[kk].toNat:Int):=m9
    have KB:isNameL (kk+1) (s.toList.drop (kk+1))=isNameL 0 s.toList:=by simpa[t1,t3,t4]using hA
    have HA:=Z KB;clear hA KB A q1;exact M140
   ·by_cases q2:(97:Int)<=(s[kk].toNat:Int)/\(s[kk].toNat:Int)<=122
    ·have t1:(97:Int)<=(s[kk].toNat:Int):=q2.1;have t2:(s[kk].toNat:Int)<=122:=q2.2;have t3:¬(s[kk].toNat:Int)<65:=m9
     have t4:(90:Int)<(s[kk].toNat:Int):=m9
     by_cases Vc:kk=0
     ·subst Vc;have KB:false=isNameL 0 s.toList:=by simpa[t1,t2,t3,t4]using hA
      have hn:isName s=false:=by rw[isName,<-KB];simp
      rw[hn];clear hA KB A q1 q2;exact M9
     ·have aim:¬(kk:Int)=0:=m9
      have hk0b:((kk:Int)==0)=false:=by simpa using Vc
      have KB:isNameL (kk+1) (s.toList.drop (kk+1))=isNameL 0 s.toList:=by simpa[t1,t2,t3,t4,Vc]using hA
      have HA:=Z KB;clear hA KB A q1 q2;exact M140
    ·have hc:(((decide ((s[kk].toNat:Int)<65))||(decide (90<(s[kk].toNat:Int))))&&(!((decide (97<=(s[kk].toNat:Int)))&&(decide ((s[kk].toNat:Int)<=122)))||kk==0))=true:=by
      simp;omega
     rw[hc]at hA;have KB:false=isNameL 0 s.toList:=by simpa using hA
     have hn:isName s=false:=by rw[isName,<-KB];simp
     rw[hn];clear hA KB A hc;by_cases t3:(s[kk].toNat:Int)<65
     ·have t1:¬(97:Int)<=(s[kk].toNat:Int):=m9
      clear q1 q2;exact M9
     ·have t4:(90:Int)<(s[kk].toNat:Int):=m9
      by_cases t1:(97:Int)<=(s[kk].toNat:Int)
      ·have t2:¬(s[kk].toNat:Int)<=122:=m9
       clear q1 q2;exact M9
      ·clear q1 q2;exact M9
  ·have aR:¬(kk:Int)<(s.size:Int):=m9
   have hA:=A.out;rw[jQf (by simp[jRk];omega),isNameL]at hA;have hn:isName s=(decide (s.size≥1)&&decide (s.size<=8)):=by rw[isName,<-hA];simp
   clear hA A;by_cases h1:1<=s.size
   ·have h1z:(1:Int)<=(s.size:Int):=m9
    by_cases h8:s.size<=8
    ·have h8z:(s.size:Int)<=8:=m9
     go_wp2_with fail;go_ret;exact⟨by simp[hn,h1,h8],rfl⟩
    ·have h8z:¬(s.size:Int)<=8:=m9
     go_wp2_with fail;go_ret;exact⟨by simp[hn,h1,h8],rfl⟩
   ·have h1z:¬(1:Int)<=(s.size:Int):=m9
    go_wp2_with fail;go_ret;exact⟨by simp[hn,h1],rfl⟩
def wM(s:ByteArray):Prop:=∃h:0<s.size,65<=(s[0]'h).toNat/\(s[0]'h).toNat<=90
theorem FZ(h:isName s=true):wM s:=by
 unfold isName at h;simp only[Bool.and_eq_true,decide_eq_true_eq]at h;obtain⟨h1,h2,h3⟩:=h;have h0:0<s.size:=h2;have:=Cd s 0 h0;rw[jR0,h1]at this;refine⟨h0,?_⟩;generalize(s[0]'h0).toNat=c at this;by_cases h65:65<=c
 ·by_cases h90:c<=90
  ·exact⟨h65,h90⟩
  ·exfalso;have e1:¬((c:Int)<65):=m9
   have e2:(90:Int)<c:=m9
   simp[e1,e2]at this
 ·exfalso;have e1:(c:Int)<65:=m9
  simp[e1]at this
theorem Gz(s:ByteArray)(hs:wM s)(hz:s.size<=9223372036854775807):Calls prog 194 #[.string s] W (dL W (.tuple #[.int .i32 ((s[0]'hs.1).toNat:Int),.int .i64 1])):=by
 obtain⟨h0,h1,h2⟩:=hs;have bk:¬s.toList=[]:=λhh=>by
  have h3:s.toList.length=s.size:=by simp[jRk]
  rw[hh]at h3;simp at h3;omega
 have zl:s.toList.isEmpty=false:=by simpa using bk
 have hzz:(0:Int)<(s.size:Int):=m9
 have h128:((s[0]'h0).toNat:Int)<128:=m9
 go_enter func194,ntmps194;go_wp2_with fail;refine jRc (v:=.tuple #[.int .i32 ((s[0]'h0).toNat:Int),.int .i64 1]) (by simp[results,Tryz.results194,go_sem]) rfl ?_;exact⟨rfl,rfl⟩
theorem DL(c:Nat)(h1:65<=c)(h2:c<=90)(ht:jE D W):Calls prog 241 #[.int .i32 (c:Int)] W (dL W (.bool true)):=by
 have hc:=ht.2 c h1 h2;have k1:(0:Int)<=(c:Int):=m9
 have k2:(c:Int)<=90:=m9
 clear ht;go_enter func241,ntmps241;exact M9
def LS(W:World)(v:Value)(e:Ending)(W':World):Prop:=e=.returned v/\∃m,W'=W.drewN m
theorem gb(s:ByteArray)(hs:wM s)(hz:s.size<=9223372036854775807)(ht:jE D W):Calls prog 226 #[.string s] W (dL W (.bool true)):=by
 have aF:=Gz (W:=W) s hs hz;have aD:=DL (W:=W) _ hs.2.1 hs.2.2 ht;generalize((s[0]'hs.1).toNat:Int)=c at aF aD;clear ht hs;go_enter func226,ntmps226;go_wp2_with fail;refine rv aF ?_;go_wp2_with fail;refine rv aD ?_;exact M9
theorem Uq(s:ByteArray)(pk:Option Addr)(hs:wM s)(hz:s.size<=9223372036854775807)(ht:jE D W):Calls prog 205 #[.pointer pk,.string s] W (dL W (.string s)):=by
 have aF:=gb (W:=W) s hs hz ht;clear ht hs;go_enter func205,ntmps205;go_wp2_with fail;refine rv aF ?_;exact M9
theorem nx(b:Nat)(s:ByteArray)(pk:Option Addr)(h1:W.cell? ⟨b,1,none⟩=some (.pointer pk))(h2:W.cell? ⟨b,2,none⟩=some (.string s))(hs:wM s)(hz:s.size<=9223372036854775807)(ht:jE D W):
 Calls prog 164 #[ptr b] W (LS W (.string s)):=by
 have HC:=Z (show∀n,Calls prog 205 #[.pointer pk,.string s] (W.drewN n) (dL (W.drewN n) (.string s))from λn=>Uq (W:=W.drewN n) s pk hs hz ht);clear ht hs;go_enter func164,ntmps164;go_wp2_with fail;go_quiet (first|(go_at_call 205;refine Calls.quiet_of_same (HC.1 _)));exact M156
theorem DO(a b:ByteArray)(w:World):(callFunc 254 #[.string a,.string b]).run prog w=.ok (.value (.int .i64 (compareBytes a.data.toList b.data.toList))) w:=by
 rw[run_callFunc_extern func254 g9 g9 g9 (e:=Extern.BytealgCompare.compare) g9,Lib.run_compareString];rfl
theorem Mg(a b:ByteArray)(W:World):Calls prog 242 #[.string a,.string b] W (dL W (.int .i64 (compareBytes a.data.toList b.data.toList))):=by
 have h:=DO a b W;go_enter func242,ntmps242;exact M9
theorem wo(a b:ByteArray)(W:World):Calls prog 227 #[.string a,.string b] W (dL W (.int .i64 (compareBytes a.data.toList b.data.toList))):=by
 have h:=Mg a b W;go_enter func227,ntmps227;go_wp2_with fail;refine rv h ?_;exact M9
theorem EP:∀l:List UInt8,compareBytes l l=0:=by
 intro l
 induction l with
 |nil=>rfl
 |cons a l ih=>simp[compareBytes,ih]
theorem afd:(Tryz.prog.info? 115).map (·.size)=some 4:=g9
theorem aaG:Tryz.prog.underlying 289=some (.pointer 115):=g9
theorem PJ{p1 p2 v1 v2 x1 x2 y1 y2:Value}{t2:TypeId}(h1:W.heap[b1]?=some (.cells #[p1,v1,.string s1,x1,y1,.bool false] t1 (0,0)))(h2:W.heap[b2]?=some (.cells #[p2,v2,.string s2,x2,y2,.bool false] t2 (0,0)))(cz:wM s1)(gj:s1.size<=9223372036854775807)(eX:wM s2)(j7:s2.size<=9223372036854775807)(ht:jE D W):
 Calls prog 182 #[ptr b1,ptr b2] W (LS W (.int .i64 (compareBytes s1.data.toList s2.data.toList))):=by
 obtain⟨j,hj,hz⟩:=jQ6.1 afd;by_cases hb:b1=b2
 ·subst hb;have hs:s1=s2:=by rw[h1]at h2;simp at h2;exact h2.1.2.2.1
  subst hs;have heq:=run_eql_ptr_same (P:=prog) W ⟨b1,0,none⟩ aaG hj;rw[EP];clear h1 h2 cz eX ht hj hz;go_enter func182,ntmps182;go_wp2_with fail;go_ret;exact⟨rfl,0,rfl⟩
 ·have bk:(⟨b1,0,none⟩:Addr)≠⟨b2,0,none⟩:=by intro e;cases e;exact hb rfl
  have heq:=run_eql_ptr_other (P:=prog) W aaG hj (by rw[hz];decide) bk h1 h2;have c1:W.cell? ⟨b1,2,none⟩=some (.string s1):=by simp[World.cell?,h1]
  have c2:W.cell? ⟨b2,2,none⟩=some (.string s2):=by simp[World.cell?,h2]
  have aF:=gb (W:=W) s1 cz gj ht;have aD:=gb (W:=W) s2 eX j7 ht;have HC:=Z (λn=>wo s1 s2 (W.drewN n));clear h1 h2 cz eX ht hj hz bk;by_cases hs:s1=s2
  ·subst hs;rw[EP];have hn:=gB (rfl:s1=s1);go_enter func182,ntmps182;go_wp2_with fail;refine rv aF ?_;go_wp2_with fail;refine rv aD ?_;go_wp2_with fail;go_quiet (fail);exact M156
  ·have hn:=jX hs;generalize bo:compareBytes s1.data.toList s2.data.toList=res;clear HC;go_enter func182,ntmps182;go_wp2_with fail;refine rv aF ?_;go_wp2_with fail;refine rv aD ?_;go_wp2_with fail;go_quiet (fail);have k1:(W.drewN nq).cell? ⟨b1,2,none⟩=some (.string s1):=c1;have k2:(W.drewN nq).cell? ⟨b2,2,none⟩=some (.string s2):=c2;have WZ:=Z (λn=>wo s1 s2 ((W.drewN nq).drewN n));rw[bo]at WZ;have HQ:=Z (show∃m,W.drewN nq=W.drewN m from⟨_,rfl⟩);generalize W.drewN nq=W2 at*;clear c1 c2 heq;go_wp2_with fail;go_quiet (first|(go_at_call 227;refine Calls.quiet_of_same (WZ.1 _)));go_wp2_with fail;go_ret;obtain⟨m,rfl⟩:=HQ.1;exact⟨rfl,_,World.drewN_drewN _ _ _⟩
end Go.Proofs.YtabjfnkfocnklaaGreatDoor
