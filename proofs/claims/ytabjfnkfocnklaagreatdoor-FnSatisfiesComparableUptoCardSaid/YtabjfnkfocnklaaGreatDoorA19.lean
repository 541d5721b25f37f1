import Derived.Laws.Cover1
import Derived.Test.YtabjfnkfocnklaaGreatDoorA18
set_option linter.all false
set_option maxHeartbeats 16000000
set_option maxRecDepth 20000
namespace Go.Proofs.YtabjfnkfocnklaaGreatDoor
open Go Go.RowKit Go.Lib S Tryz
variable{ops:Array Oper}{Q:Exit->Act->World->Prop}{e m t t':GT}{n pd:Int}{rest:List Oper}{ys:List Value}{l l':List aH}{B b base c cap g i k kk:Nat}{D D' E F:Nat->Prop}{o:Oper}{a:Option Addr}{Y Z:Prop}{α β σ:Type}{v:Value}{W W' w w':World}
theorem M100(h:Y:=by
 rcases ie with⟨b,h1,h2⟩|⟨h1,h2⟩
 ·refine⟨_,h1,.inl ⟨?_,trivial⟩⟩;obtain h|⟨h,_⟩:=IJ.1
  ·rw[<-h2];exact h
  ·rw[h2]at h;cases h
 ·exact⟨_,h1,.inr ⟨rfl,h2⟩⟩):Y:=h
theorem M109(h:Y:=by
 rcases aN.1 Wt.1 with⟨he,_⟩|⟨_,b2,o2,c2,dN,fh,fL,du,gX⟩
 ·rw[he];simp
 ·omega):Y:=h
theorem M114(h:Y:=by
 exact⟨jQb (eK.1.lo b hb) B6.1.size,by obtain⟨_,_,_,h⟩:=eK.1;exact(h b hb).2⟩):Y:=h
theorem M120(h:Y:=by
 clear hp hx hv hs hn;go_enter func88,ntmps88;go_wp2_with (go_at_call 86;refine(aQ _ _ _).mono ?_;rintro e w1 ⟨rfl,rfl⟩);go_ret;exact⟨rfl,HA.1⟩):Y:=h
theorem M141(h:Y:=by
 have aM:kk<l.length:=by
  by_cases h':kk<l.length
  ·exact h'
  ·rw[jQx m9]at h;cases h
 rw[jQv aM];simp[jQp aM]at h;rw[h]):Y:=h
theorem M166(h:Y:=by
 go_wp2_with fail;go_quiet (first|(go_at_call 36;refine Calls.quiet_of_same (fO _ _ ZA)));exact M91):Y:=h
theorem M180(h:Y:=by
 obtain h|⟨_,h⟩:=IJ.1
 ·cases h
 ·exact h):Y:=h
theorem M181(h:Y:=by
 obtain⟨xs,_,_,h⟩:=h;exact λb hb=>(h b hb).2):Y:=h
theorem M214(h:Y:=by
 have:l=[]:=jQe h0;subst this;exact .inl ⟨rfl,none,0,rfl,λ_=>rfl⟩):Y:=h
theorem M38(h:Y:=by
 obtain⟨xs,h1,h2,h3⟩:=h;refine⟨xs,⟨h1.1,?_⟩,h2.move (λb hb=>⟨hb,hE b hb⟩),λb dD=>⟨jQb (h3 b dD).1 hz,(h3 b dD).2⟩⟩;obtain h0|⟨g,cap,cur,rfl,g1,g2,g3⟩:=h1.2
 ·exact .inl h0
 ·exact .inr ⟨g,cap,cur,rfl,g1,(hv g rfl).trans g2,g3⟩):Y:=h
theorem M46(h:Y:=by
 obtain⟨xs,h,hv,_⟩:=h;rcases h.2 with⟨rfl,h0⟩|⟨g,cap,cur,rfl,hb,hg,hn,hm,hs,ht⟩
 ·exact M214
 ·by_cases hl:l=[]
  ·subst hl;exact M110
  ·refine .inr ⟨hl,g,0,cap,rfl,hn,by simp only[maxLen]at hm;omega,jQ2 hg,(hv.move (au.refl.wide hE)).rdc λj u hu=>?_⟩;exact M36):Y:=h
theorem M71(h:Y:=by
 have qk:l0=r:=by
  rw[jQf m9]at lN;simpa[foldM]using lN
 subst qk;have eK:=Z aL;have KA:=Z N1;clear aL TR N1 lN;go_wp2_with fail;go_ret;exact⟨_,rfl,PV.1.trans (BW.out.mono Ro),eK.1.rs KA.1 (λb hb dD=>.inr ⟨jQd Ro hb,dD⟩),λ_=>⟨E,eK.1.base Ro,KA.1⟩⟩):Y:=h
theorem M76(h:Y:=by
 have dF:=kp.1;have WR:x=some false:=by simpa using HXB.1
 subst WR;have hr:r=false:=by rcases dF with⟨h,_⟩|⟨h,_⟩<;>simp at h;exact h
 subst hr;clear dF;go_wp2_with fail;go_ret;exact⟨rfl,HC.1.trans ((fw.1.trans (xL.1.mono fw.1.size)).mono HC.1.size)⟩):Y:=h
theorem M87(h:Y:=by
 go_wp2_with fail;go_roundg (ls.length - (kk+1))
 case measure=>omega
 case rel=>exact⟨kk+1,m9,m9,by go_num,BW.out.alloc dZ _,l0,E,eK.1.below (an wr _),TU.1,λb hb=>Up.mono (jQ0 _) i6 b (KA.1 b hb),Jw.1⟩):Y:=h
theorem M88(h:Y:=by
 exact hc _ _ (by rw[jQr m9];simp[hl])):Y:=h
theorem M91(h:Y:=by
 go_wp2_with fail;go_ret;exact⟨rfl,HC.1.trans ((jRb (BW.out.trans ((an wr _).mono dZ)) _).mono HC.1.size)⟩):Y:=h
theorem Kh(b o n c j:Nat)(w:World)(hj:j<n):(Instr.indexAt 23 (.slice (some ⟨b,o,none⟩) n c) (.int .i64 (j:Int))).run prog w=.ok (.pointer (some ⟨b,o+j*7,none⟩)) w:=by
 have h1:(j:Int)<(n:Int):=m9
 have h2:¬(j:Int)<0:=m9
 go_simp
theorem wrap64(h0:0<=n)(h1:n<=9223372036854775807):IntKind.i64.wrap n=n:=by
 simp[IntKind.wrap,IntKind.signed,IntKind.bits];omega
theorem kW{f:Nat->α->Option (Option β)}{l:List α}{a:α}{rr:Option β}(hd:l.drop kk=a::l.drop (kk+1))(h:rangeM f kk (l.drop kk)=some rr):
 (∃b,f kk a=some (some b)/\rr=some b)\/(f kk a=some none/\rangeM f (kk+1) (l.drop (kk+1))=some rr):=by
 rw[hd,rangeM]at h;obtain⟨r,hr,h⟩:=jQ1.1 h;cases r with
 |some b=>exact .inl ⟨b,hr,by simpa using h.symm⟩
 |none=>exact .inr ⟨hr,by simpa using h⟩
theorem drop_at{l:List α}{a:α}(h:l[kk]?=some a):l.drop kk=a::l.drop (kk+1):=M141
def ifF(w:List ah)(k:Nat)(t:GT)(p:S.Place)(i:Nat)(m:GT):Option (Option Bool):=
 if m.kind≠7 then some (some false)else if !isName m.name then some (some false)
 else if i>0/\!(bB (t.elems.getD (i - 1) default) m)then some (some false)
 else(placed w k m p).map λb=>if b then none else some false
theorem QO{w:List ah}{p:S.Place}{x:Option Bool}(h:ifF w k t p i m=some x):
 (¬m.kind=7/\x=some false)\/(m.kind=7/\isName m.name=false/\x=some false)\/(m.kind=7/\isName m.name=true/\0<i/\bB (t.elems.getD (i - 1) default) m=false/\x=some false)\/
 (m.kind=7/\isName m.name=true/\(0<i->bB (t.elems.getD (i - 1) default) m=true)/\∃b,placed w k m p=some b/\x=if b then none else some false):=by
 unfold ifF at h;by_cases h7:m.kind=7
 ·rw[jQ4 (by simpa using h7)]at h;cases hn:isName m.name with
  |false=>rw[hn]at h;exact .inr (.inl ⟨h7,rfl,by simpa using h.symm⟩)
  |true=>
   rw[hn]at h;simp only[jRt,jQk,jR1]at h;by_cases hc:i>0/\(!(bB (t.elems.getD (i - 1) default) m))=true
   ·rw[jQ7 hc]at h;exact .inr (.inr (.inl ⟨h7,rfl,hc.1,by simpa using hc.2,by simpa using h.symm⟩))
   ·rw[jQ4 hc]at h;obtain⟨b,h1,h2⟩:=jQ6.1 h;refine .inr (.inr (.inr ⟨h7,rfl,λh0=>?_,b,h1,h2.symm⟩));cases hl:bB (t.elems.getD (i - 1) default) m with
    |true=>rfl
    |false=>exact absurd ⟨h0,by rw[hl];rfl⟩ hc
 ·rw[jQ7 (by simpa using h7)]at h;exact .inl ⟨h7,by simpa using h.symm⟩
theorem VE{w:List ah}{Gv pt r:Bool}(h:placedInterface w (k+1) t ⟨pd,Gv,pt⟩=some r):
 (within t.m ((t.elems.length:Int)+1)=false/\r=false)\/(within t.m ((t.elems.length:Int)+1)=true/\(t.elems.length:Int) - t.m>4/\r=false)\/
 (within t.m ((t.elems.length:Int)+1)=true/\¬(t.elems.length:Int) - t.m>4/\∃rr,rangeM (ifF w k t ⟨pd,false,pt⟩) 0 (t.elems.take t.m.toNat)=some rr/\
  ((rr=some r)\/(rr=none/\bh (anyM (λe=>bh (dz w k e ⟨pd,true,true⟩)) (t.elems.drop t.m.toNat))=some r))):=by
 rw[placedInterface]at h;simp only at h;by_cases hw:within t.m ((t.elems.length:Int)+1)=true
 ·rw[jQ4 (by simp[hw])]at h;by_cases h4:(t.elems.length:Int) - t.m>4
  ·rw[jQ7 h4]at h;exact .inr (.inl ⟨hw,h4,by simpa using h.symm⟩)
  ·rw[jQ4 h4]at h;obtain⟨rr,h1,h2⟩:=jQ1.1 h;refine .inr (.inr ⟨hw,h4,rr,h1,?_⟩);cases rr with
   |some b=>exact .inl (by simpa using h2)
   |none=>exact .inr ⟨rfl,h2⟩
 ·rw[jQ7 (by simpa using hw)]at h;exact .inl ⟨by simpa using hw,by simpa using h.symm⟩
set_option maxRecDepth 100000 in
theorem VC(k:Nat)(ih:xS k)(ihE:Gm k):Gl (k+1):=by
 intro w ws t p r v W D hp hn hx hv;obtain⟨pd,Gv,pt⟩:=p;obtain⟨a,c,rfl,hs⟩:=hv.bR;obtain⟨wa,wc,rfl⟩:=hx.rd.form;have HA:=Z (pE W (.cells #[.slice wa w.length wc] 22) (bx t a c) (.cells #[.int .i64 pd,.bool Gv,.bool pt] 49));have hz:t.elems.length<9223372036854775807:=hn.len;have gj:(t.elems.length:Int)+1<=9223372036854775807:=m9
 rcases VE hp with⟨hw,rfl⟩|⟨hw,h4,rfl⟩|⟨hw,h4,rr,Ay,II⟩
 ·exact M120
 ·have hm:=S.within_iff.1 hw;have h4:(4:Int)<(t.elems.length:Int) - t.m:=h4;have cz:(-9223372036854775808:Int)<=(t.elems.length:Int) - t.m/\(t.elems.length:Int) - t.m<=9223372036854775807:=m9
  exact M120
 ·have hm:=S.within_iff.1 hw;have h4:((4:Int)<(t.elems.length:Int) - t.m)=False:=by simpa using h4
  have cz:(-9223372036854775808:Int)<=(t.elems.length:Int) - t.m/\(t.elems.length:Int) - t.m<=9223372036854775807:=m9
  have HC:=Z (pE W (.cells #[.slice wa w.length wc] 22) (bx t a c) (.cells #[.int .i64 pd,.bool false,.bool pt] 49));have HE:=Z (show∀e∈t.elems,NB e from λe he=>hn.elem he);obtain⟨pT,EM⟩:=RS.upto (m:=t.m) (l':=t.elems.take t.m.toNat) (hs.mv hx.lo HC.1) (by unfold mq;rw[jQ7 ⟨hm.1,m9⟩]);obtain⟨Me,HX0,HS,HR,Hq,IJ,HM⟩:=Z7 (hx.mv HC.1) hx (hs.mv hx.lo HC.1) EM Ay II hm;have cw:=jQh (aq (o:=.cells #[.int .i64 pd,.bool false,.bool pt] 49) (aq (o:=bx t a c) (ak W (.cells #[.slice wa w.length wc] 22))));obtain⟨c0,c1,c2,c3,c4,c5,c6⟩:=ao (aq (o:=.cells #[.int .i64 pd,.bool false,.bool pt] 49) (ak (W.alloc (.cells #[.slice wa w.length wc] 22)) (bx t a c)));have HD:=Z (ak ((W.alloc (.cells #[.slice wa w.length wc] 22)).alloc (bx t a c)) (.cells #[.int .i64 pd,.bool false,.bool pt] 49));obtain⟨d0,d1,d2⟩:=nQ HD.1;simp only[jQ3]at c0 c1 c2 c3 c4 c5 c6 d0 d1 d2 HD;have zI:W.heap.size<(((W.alloc (.cells #[.slice wa w.length wc] 22)).alloc (bx t a c)).alloc (.cells #[.int .i64 pd,.bool false,.bool pt] 49)).heap.size:=by simp;try omega
  have iT:W.heap.size+1<(((W.alloc (.cells #[.slice wa w.length wc] 22)).alloc (bx t a c)).alloc (.cells #[.int .i64 pd,.bool false,.bool pt] 49)).heap.size:=by simp;try omega
  have mU:W.heap.size+1+1<(((W.alloc (.cells #[.slice wa w.length wc] 22)).alloc (bx t a c)).alloc (.cells #[.int .i64 pd,.bool false,.bool pt] 49)).heap.size:=i6
  have RU:=Z hx.lo;have hmz:(t.elems.take t.m.toNat).length<=9223372036854775807:=by simp;omega
  generalize hML:(t.elems.take t.m.toNat)=ms at pT HR Hq hmz;have zq:=Z hML;clear hp hx hv hs hn EM Ay II hm hML;go_enter func88,ntmps88;go_wp2_with (go_at_call 86;refine(aQ _ _ _).mono ?_;rintro e w1 ⟨rfl,rfl⟩);generalize Hr:((W.alloc (.cells #[.slice wa w.length wc] 22)).alloc (bx t a c)).alloc (.cells #[.int .i64 pd,.bool false,.bool pt] 49)=wn at HC Me HS HR HD cw c0 c1 c2 c3 c4 c5 c6 d0 d1 d2 zI iT mU
  try rw[Hr]
  clear cz h4 hw
  go_loopg [7,8,33] ms.length (λgg _ _ s33 wr=>∃kk:Nat,kk<=ms.length/\ms.length - kk<=gg/\s33=.int .i64 kk/\Aside (Below wn.heap.size wn wr)/\Aside (rangeM (ifF w k t ⟨pd,false,pt⟩) kk (ms.drop kk)=some rr))
  case atStart=>exact⟨0,jQc _,m9,rfl,jQ5 _ _,by rw[jR0];exact Hq.1⟩
  case round=>
   obtain⟨kk,ez,hg,rfl,BW,A⟩:=hrel;by_cases aM:kk<ms.length
   ·have aR:(kk:Int)<(ms.length:Int):=m9
    obtain⟨m,uD⟩:∃m,ms[kk]?=some m:=⟨ms[kk],by simp[aM]⟩;have bL:=drop_at uD;have ie:=kW bL A.out;have lT:t.elems[kk]?=some m:=by rw[<-zq.1,List.getElem?_take]at uD;split at uD;exact uD;cases uD
    have yV:kk<t.elems.length:=by
     by_cases h:kk<t.elems.length
     ·exact h
     ·rw[jQx m9]at lT;cases lT
    rcases aN.1 HS.1 with⟨he,_⟩|⟨_,b2,o2,xv,dN,fh,fL,du,gX⟩
    ·rw[he]at yV;simp at yV
    simp at dN;obtain⟨rfl,rfl⟩:=dN;have hE:=(gX.at lT).move (Me.1.lo.aJ BW.out) du;obtain⟨sa,sc,f0,f1,f2,f3,f4,f5,f6,iL⟩:=hE.bR;have dZ:=BW.out.size;have zl:m∈t.elems:=jQ8 lT;have ZA:=(HE.1 m zl).name;have agd:W.heap.size<wr.heap.size:=m9
    have Ma:W.heap.size+1<wr.heap.size:=m9
    have QR:W.heap.size+1+1<wr.heap.size:=m9
    have gw:=(BW.out.cell (p:=⟨W.heap.size,0,none⟩) zI).trans cw;have g6:=(BW.out.cell (p:=⟨W.heap.size+1,6,none⟩) iT).trans c6;have g0:=(BW.out.cell (p:=⟨W.heap.size+1+1,0,none⟩) mU).trans d0;have g1:=(BW.out.cell (p:=⟨W.heap.size+1+1,1,none⟩) mU).trans d1;have g2:=(BW.out.cell (p:=⟨W.heap.size+1+1,2,none⟩) mU).trans d2;have air:b2<wr.heap.size:=by have:=Me.1.lo _ du;omega
    have Nl:∀j,kk=j+1->∃q,t.elems.getD (kk - 1) default=q/\wr.cell? ⟨b2,o2+j*7+4,none⟩=some (.string q.name)/\j<t.elems.length:=λj hj=>by
     have LZ:j<t.elems.length:=m9
     obtain⟨q,hq⟩:∃q,t.elems[j]?=some q:=⟨t.elems[j],by simp[LZ]⟩;refine⟨q,by rw[show kk - 1=j by omega,List.getD_eq_getElem?_getD,hq];rfl,?_,LZ⟩;have:=(gX.at hq).move (Me.1.lo.aJ BW.out) du;obtain⟨_,_,_,_,_,_,f,_⟩:=this.bR;exact f
    obtain⟨aaY,Km,aiK⟩:=Z3 Nl iL ie;have dt:∃x,ifF w k t ⟨pd,false,pt⟩ kk m=some x/\((x=some r/\True)\/(x=none/\rangeM (ifF w k t ⟨pd,false,pt⟩) (kk+1) (ms.drop (kk+1))=some rr)):=M100
    obtain⟨x,Lj,dF⟩:=dt;clear hE gX iL bL uD lT Nl ie A;rcases QO Lj with⟨h7,rfl⟩|⟨h7,dU,rfl⟩|⟨h7,dU,Vc,MI,rfl⟩|⟨h7,dU,MI,b,Nk,WR⟩
    ·have hr:r=false:=by rcases dF with⟨h,_⟩|⟨h,_⟩<;>simp at h;exact h
     subst hr;have k7:(m.kind !=7)=true:=by simp[h7]
     clear h7 dF Lj;go_wp2_with fail;go_quiet (fail);exact M91
    ·have hr:r=false:=by rcases dF with⟨h,_⟩|⟨h,_⟩<;>simp at h;exact h
     subst hr;have k7:(m.kind !=7)=false:=by simp[h7]
     clear h7 dF Lj;exact M166
    ·have hr:r=false:=by rcases dF with⟨h,_⟩|⟨h,_⟩<;>simp at h;exact h
     subst hr;have k7:(m.kind !=7)=false:=by simp[h7]
     obtain⟨j,hj⟩:∃j,kk=j+1:=⟨kk - 1,m9⟩;obtain⟨q,F4,hqc,LZ⟩:=aaY.1 j hj;rw[F4]at MI;have j6:Go.Op.bytesLess q.name.toList m.name.toList=false:=MI;have hkj:(kk:Int) - 1=(j:Int):=m9
     have aim:(0:Int)<(kk:Int):=m9
     clear h7 dF Lj MI F4 hj;exact M166
    ·have k7:(m.kind !=7)=false:=by simp[h7]
     obtain⟨HPB,HXB,kp⟩:=Z3 Nk WR dF;clear h7 Lj Nk WR dF;by_cases Vc:kk=0
     ·subst Vc;have age:¬ms.length=0:=m9
      have agf:¬t.elems.length=0:=m9
      have hmsn:ms≠[]:=λe=>by rw[e]at age;simp at age
      have heln:t.elems≠[]:=λe=>by rw[e]at agf;simp at agf
      simp only[Nat.zero_mul,Nat.add_zero]at f0 f1 f2 f3 f4 f5 f6;clear MI;go_wp2_with fail;have B1:=Z (an wr (bx m sa sc));have kw:=(B1.1.cell (p:=⟨W.heap.size,0,none⟩) agd).trans gw;have k6:=(B1.1.cell (p:=⟨W.heap.size+1,6,none⟩) Ma).trans g6;have k0:=(B1.1.cell (p:=⟨W.heap.size+1+1,0,none⟩) QR).trans g0;have k1:=(B1.1.cell (p:=⟨W.heap.size+1+1,1,none⟩) QR).trans g1;have k2:=(B1.1.cell (p:=⟨W.heap.size+1+1,2,none⟩) QR).trans g2;obtain⟨e0,e1,e2,e3,e4,e5,e6⟩:=ao (ak wr (bx m sa sc));have qo:wr.heap.size<(wr.alloc (bx m sa sc)).heap.size:=i6
      have fV:W.heap.size<(wr.alloc (bx m sa sc)).heap.size:=by simp;omega
      have dQ:W.heap.size+1<(wr.alloc (bx m sa sc)).heap.size:=by simp;omega
      have fh:W.heap.size+1+1<(wr.alloc (bx m sa sc)).heap.size:=by simp;omega
      have D7:b2<(wr.alloc (bx m sa sc)).heap.size:=by simp;omega
      have fw:=Z ((BW.out.trans (B1.1.mono dZ)));have ag:=Z<|λ(w':World) (hb:Below (wr.alloc (bx m sa sc)).heap.size (wr.alloc (bx m sa sc)) w')=>ih w _ m ⟨pd,false,pt⟩ b _ w' D HPB.1 (HE.1 m zl) ((Me.1.mv fw.1).mv hb) ((Km.1.mv (Me.1.lo.mono dZ) B1.1).mv (Me.1.mv fw.1).lo hb);generalize sj:wr.alloc (bx m sa sc)=w2 at B1 fw ag kw k6 k0 k1 k2 e0 e1 e2 e3 e4 e5 e6 qo fV dQ fh D7;have hS:=Z (show∀w',Below w2.heap.size w2 w'->(λw'=>Below w2.heap.size w2 w'/\w'.cell? ⟨W.heap.size,0,none⟩=some (.slice wa w.length wc)/\w'.cell? ⟨W.heap.size+1,6,none⟩=some (.slice (some ⟨b2,o2,none⟩) t.elems.length c)/\w'.cell? ⟨W.heap.size+1+1,0,none⟩=some (.int .i64 pd)/\w'.cell? ⟨W.heap.size+1+1,1,none⟩=some (.bool false)/\w'.cell? ⟨W.heap.size+1+1,2,none⟩=some (.bool pt)/\w'.cell? ⟨wr.heap.size,0,none⟩=some (.int .i64 m.kind)/\w'.cell? ⟨wr.heap.size,1,none⟩=some (.int .i64 m.n)/\w'.cell? ⟨wr.heap.size,2,none⟩=some (.int .i64 m.m)/\w'.cell? ⟨wr.heap.size,3,none⟩=some (.bool m.va)/\w'.cell? ⟨wr.heap.size,4,none⟩=some (.string m.name)/\w'.cell? ⟨wr.heap.size,5,none⟩=some (.string m.tag)/\w'.cell? ⟨wr.heap.size,6,none⟩=some (.slice sa m.elems.length sc)) w' from λw' hb=>⟨hb,(hb.cell (p:=⟨W.heap.size,0,none⟩) fV).trans kw,(hb.cell (p:=⟨W.heap.size+1,6,none⟩) dQ).trans k6,(hb.cell (p:=⟨W.heap.size+1+1,0,none⟩) fh).trans k0,(hb.cell (p:=⟨W.heap.size+1+1,1,none⟩) fh).trans k1,(hb.cell (p:=⟨W.heap.size+1+1,2,none⟩) fh).trans k2,(hb.cell (p:=⟨wr.heap.size,0,none⟩) qo).trans e0,(hb.cell (p:=⟨wr.heap.size,1,none⟩) qo).trans e1,(hb.cell (p:=⟨wr.heap.size,2,none⟩) qo).trans e2,(hb.cell (p:=⟨wr.heap.size,3,none⟩) qo).trans e3,(hb.cell (p:=⟨wr.heap.size,4,none⟩) qo).trans e4,(hb.cell (p:=⟨wr.heap.size,5,none⟩) qo).trans e5,(hb.cell (p:=⟨wr.heap.size,6,none⟩) qo).trans e6⟩)
      try rw[sj]
      refine jQ9 (S:=(λw'=>Below w2.heap.size w2 w'/\w'.cell? ⟨W.heap.size,0,none⟩=some (.slice wa w.length wc)/\w'.cell? ⟨W.heap.size+1,6,none⟩=some (.slice (some ⟨b2,o2,none⟩) t.elems.length c)/\w'.cell? ⟨W.heap.size+1+1,0,none⟩=some (.int .i64 pd)/\w'.cell? ⟨W.heap.size+1+1,1,none⟩=some (.bool false)/\w'.cell? ⟨W.heap.size+1+1,2,none⟩=some (.bool pt)/\w'.cell? ⟨wr.heap.size,0,none⟩=some (.int .i64 m.kind)/\w'.cell? ⟨wr.heap.size,1,none⟩=some (.int .i64 m.n)/\w'.cell? ⟨wr.heap.size,2,none⟩=some (.int .i64 m.m)/\w'.cell? ⟨wr.heap.size,3,none⟩=some (.bool m.va)/\w'.cell? ⟨wr.heap.size,4,none⟩=some (.string m.name)/\w'.cell? ⟨wr.heap.size,5,none⟩=some (.string m.tag)/\w'.cell? ⟨wr.heap.size,6,none⟩=some (.slice sa m.elems.length sc))) g9 (hS.1 _ (jQ5 _ _).drew) (λai=>?_);refine t4 0 1 2 3 ?_;refine t2 4 5 ?_;refine rd 6 rfl λK hK=>?_;go_simp;refine(fO m.name _ ZA).mono ?_;rintro eN wN ⟨rfl,rfl⟩;simp only[dU];have hh:=ai;clear ai;refine hK.out _ _ hh (λai=>?_);clear hh;clear hK K;refine t4 7 8 9 10 ?_;refine t2 11 12 ?_;refine bg 13 ?_;refine bg 14 ?_;refine bg 15 ?_;refine bg 16 ?_;refine bg 17 ?_;refine bg 18 ?_;refine bg 19 ?_;refine bg 20 ?_;refine bg 21 ?_;refine bg 22 ?_;refine t4 23 24 25 26 ?_;refine t2 27 28 ?_;refine rd 29 rfl λK hK=>?_;go_simp;have hh:=ai.1;clear ai;refine(ag.1 _ hh).mono ?_;rintro eA wA ⟨rfl,eP⟩;have dI:=hh.trans (eP.mono hh.size);refine hK.out _ _ (hS.1 _ dI) (λai=>?_);clear hh eP;clear hK K;refine t2 30 31 ?_;refine jQl g9 ?_ _;have xL:=Z dI;clear ai dI;clear kw k6 k0 k1 k2 e0 e1 e2 e3 e4 e5 e6 qo fV dQ fh D7 hS sj gw g6 g0 g1 g2 f0 f1 f2 f3 f4 f5 f6 c0 c1 c2 c3 c4 c5 c6 cw d0 d1 d2 hz gj dU;cases b with
      |false=>
       exact M76
      |true=>
       have dF:=kp.1;have WR:x=none:=by simpa using HXB.1
       subst WR;have jM:=dF.resolve_left (λh=>by cases h.1);have nb:=Z jM.2;clear jM dF;go_wp2_with fail;go_roundg (ms.length - (0+1))
       case measure=>omega
       case rel=>exact⟨0+1,m9,m9,by go_num,fw.1.trans (xL.1.mono fw.1.size),nb.1⟩
     ·obtain⟨j,hj⟩:∃j,kk=j+1:=⟨kk - 1,m9⟩;obtain⟨q,F4,hqc,LZ⟩:=aaY.1 j hj;have uj:=MI m9;rw[F4]at uj;have j6:Go.Op.bytesLess q.name.toList m.name.toList=true:=uj;have hkj:(kk:Int) - 1=(j:Int):=m9
      have jC:0<kk:=m9
      have hjz:(j:Int)<(t.elems.length:Int):=m9
      have hjw:IntKind.i64.wrap (j:Int)=(j:Int):=wrap64 m9 m9;have ais:((0:Int)<(kk:Int))=True:=by simp;omega
      have Y1:∀w,(Instr.indexAt 23 (.slice (some ⟨b2,o2,none⟩) t.elems.length c) (.int .i64 ((kk:Int) - 1))).run prog w=.ok (.pointer (some ⟨b2,o2+j*7,none⟩)) w:=by
       intro w;rw[hkj];exact Kh b2 o2 t.elems.length c j w LZ
      clear MI uj F4 Vc hj;go_wp2_with fail;have B1:=Z (an wr (bx m sa sc));have kw:=(B1.1.cell (p:=⟨W.heap.size,0,none⟩) agd).trans gw;have k6:=(B1.1.cell (p:=⟨W.heap.size+1,6,none⟩) Ma).trans g6;have k0:=(B1.1.cell (p:=⟨W.heap.size+1+1,0,none⟩) QR).trans g0;have k1:=(B1.1.cell (p:=⟨W.heap.size+1+1,1,none⟩) QR).trans g1;have k2:=(B1.1.cell (p:=⟨W.heap.size+1+1,2,none⟩) QR).trans g2;obtain⟨e0,e1,e2,e3,e4,e5,e6⟩:=ao (ak wr (bx m sa sc));have qo:wr.heap.size<(wr.alloc (bx m sa sc)).heap.size:=i6
      have fV:W.heap.size<(wr.alloc (bx m sa sc)).heap.size:=by simp;omega
      have dQ:W.heap.size+1<(wr.alloc (bx m sa sc)).heap.size:=by simp;omega
      have fh:W.heap.size+1+1<(wr.alloc (bx m sa sc)).heap.size:=by simp;omega
      have D7:b2<(wr.alloc (bx m sa sc)).heap.size:=by simp;omega
      have fw:=Z ((BW.out.trans (B1.1.mono dZ)));have ag:=Z<|λ(w':World) (hb:Below (wr.alloc (bx m sa sc)).heap.size (wr.alloc (bx m sa sc)) w')=>ih w _ m ⟨pd,false,pt⟩ b _ w' D HPB.1 (HE.1 m zl) ((Me.1.mv fw.1).mv hb) ((Km.1.mv (Me.1.lo.mono dZ) B1.1).mv (Me.1.mv fw.1).lo hb);have agh:=(B1.1.cell (p:=⟨b2,o2+j*7+4,none⟩) air).trans hqc;clear hqc;generalize sj:wr.alloc (bx m sa sc)=w2 at B1 fw ag kw k6 k0 k1 k2 e0 e1 e2 e3 e4 e5 e6 qo fV dQ fh D7 agh;have hS:=Z (show∀w',Below w2.heap.size w2 w'->(λw'=>Below w2.heap.size w2 w'/\w'.cell? ⟨W.heap.size,0,none⟩=some (.slice wa w.length wc)/\w'.cell? ⟨W.heap.size+1,6,none⟩=some (.slice (some ⟨b2,o2,none⟩) t.elems.length c)/\w'.cell? ⟨W.heap.size+1+1,0,none⟩=some (.int .i64 pd)/\w'.cell? ⟨W.heap.size+1+1,1,none⟩=some (.bool false)/\w'.cell? ⟨W.heap.size+1+1,2,none⟩=some (.bool pt)/\w'.cell? ⟨wr.heap.size,0,none⟩=some (.int .i64 m.kind)/\w'.cell? ⟨wr.heap.size,1,none⟩=some (.int .i64 m.n)/\w'.cell? ⟨wr.heap.size,2,none⟩=some (.int .i64 m.m)/\w'.cell? ⟨wr.heap.size,3,none⟩=some (.bool m.va)/\w'.cell? ⟨wr.heap.size,4,none⟩=some (.string m.name)/\w'.cell? ⟨wr.heap.size,5,none⟩=some (.string m.tag)/\w'.cell? ⟨wr.heap.size,6,none⟩=some (.slice sa m.elems.length sc)/\w'.cell? ⟨b2,o2+j*7+4,none⟩=some (.string q.name)) w' from λw' hb=>⟨hb,(hb.cell (p:=⟨W.heap.size,0,none⟩) fV).trans kw,(hb.cell (p:=⟨W.heap.size+1,6,none⟩) dQ).trans k6,(hb.cell (p:=⟨W.heap.size+1+1,0,none⟩) fh).trans k0,(hb.cell (p:=⟨W.heap.size+1+1,1,none⟩) fh).trans k1,(hb.cell (p:=⟨W.heap.size+1+1,2,none⟩) fh).trans k2,(hb.cell (p:=⟨wr.heap.size,0,none⟩) qo).trans e0,(hb.cell (p:=⟨wr.heap.size,1,none⟩) qo).trans e1,(hb.cell (p:=⟨wr.heap.size,2,none⟩) qo).trans e2,(hb.cell (p:=⟨wr.heap.size,3,none⟩) qo).trans e3,(hb.cell (p:=⟨wr.heap.size,4,none⟩) qo).trans e4,(hb.cell (p:=⟨wr.heap.size,5,none⟩) qo).trans e5,(hb.cell (p:=⟨wr.heap.size,6,none⟩) qo).trans e6,(hb.cell (p:=⟨b2,o2+j*7+4,none⟩) D7).trans agh⟩)
      try rw[sj]
      refine jQ9 (S:=(λw'=>Below w2.heap.size w2 w'/\w'.cell? ⟨W.heap.size,0,none⟩=some (.slice wa w.length wc)/\w'.cell? ⟨W.heap.size+1,6,none⟩=some (.slice (some ⟨b2,o2,none⟩) t.elems.length c)/\w'.cell? ⟨W.heap.size+1+1,0,none⟩=some (.int .i64 pd)/\w'.cell? ⟨W.heap.size+1+1,1,none⟩=some (.bool false)/\w'.cell? ⟨W.heap.size+1+1,2,none⟩=some (.bool pt)/\w'.cell? ⟨wr.heap.size,0,none⟩=some (.int .i64 m.kind)/\w'.cell? ⟨wr.heap.size,1,none⟩=some (.int .i64 m.n)/\w'.cell? ⟨wr.heap.size,2,none⟩=some (.int .i64 m.m)/\w'.cell? ⟨wr.heap.size,3,none⟩=some (.bool m.va)/\w'.cell? ⟨wr.heap.size,4,none⟩=some (.string m.name)/\w'.cell? ⟨wr.heap.size,5,none⟩=some (.string m.tag)/\w'.cell? ⟨wr.heap.size,6,none⟩=some (.slice sa m.elems.length sc)/\w'.cell? ⟨b2,o2+j*7+4,none⟩=some (.string q.name))) g9 (hS.1 _ (jQ5 _ _).drew) (λai=>?_);refine t4 0 1 2 3 ?_;refine t2 4 5 ?_;refine rd 6 rfl λK hK=>?_;go_simp;refine(fO m.name _ ZA).mono ?_;rintro eN wN ⟨rfl,rfl⟩;simp only[dU];have hh:=ai;clear ai;refine hK.out _ _ hh (λai=>?_);clear hh;clear hK K;refine t4 7 8 9 10 ?_;refine t4 11 12 13 14 ?_;refine t4 15 16 17 18 ?_;refine t4 19 20 21 22 ?_;refine t4 23 24 25 26 ?_;refine t2 27 28 ?_;refine rd 29 rfl λK hK=>?_;go_simp;have hh:=ai.1;clear ai;refine(ag.1 _ hh).mono ?_;rintro eA wA ⟨rfl,eP⟩;have dI:=hh.trans (eP.mono hh.size);refine hK.out _ _ (hS.1 _ dI) (λai=>?_);clear hh eP;clear hK K;refine t2 30 31 ?_;refine jQl g9 ?_ _;clear Y1 hkj jC ais;have xL:=Z dI;clear ai dI;clear kw k6 k0 k1 k2 e0 e1 e2 e3 e4 e5 e6 qo fV dQ fh D7 hS sj gw g6 g0 g1 g2 f0 f1 f2 f3 f4 f5 f6 c0 c1 c2 c3 c4 c5 c6 cw d0 d1 d2 hz gj dU;cases b with
      |false=>
       exact M76
      |true=>
       have dF:=kp.1;have WR:x=none:=by simpa using HXB.1
       subst WR;have jM:=dF.resolve_left (λh=>by cases h.1);have nb:=Z jM.2;clear jM dF;go_wp2_with fail;go_roundg (ms.length - (kk+1))
       case measure=>omega
       case rel=>exact⟨kk+1,m9,m9,by go_num,fw.1.trans (xL.1.mono fw.1.size),nb.1⟩
   ·have aR:¬(kk:Int)<(ms.length:Int):=m9
    have hA:=A.out;rw[jQf m9,rangeM]at hA;have SB:rr=none:=by simpa using hA.symm
    subst SB;have qD:bh (anyM (λe=>bh (dz w k e ⟨pd,true,true⟩)) (t.elems.drop t.m.toNat))=some r:=M180
    have fJ:=aX qD;have dZ:=BW.out.size;have gw:=(BW.out.cell (p:=⟨W.heap.size,0,none⟩) zI).trans cw;have g6:=(BW.out.cell (p:=⟨W.heap.size+1,6,none⟩) iT).trans c6;have g2m:=(BW.out.cell (p:=⟨W.heap.size+1,2,none⟩) iT).trans c2;have hHD:=aj BW.out HD.1 mU;have g0:=(nQ hHD).1;have g1:=(nQ hHD).2.1;have g2:=(nQ hHD).2.2;have hfz:=cd hHD;have fm:=(aw hHD 1 (.bool true)).trans (aw (aw hHD 1 (.bool true)).here 2 (.bool true));have hnD:¬D (W.heap.size+1+1):=λh=>by have:=RU.1 _ h;omega
    have eR:=(fm.aJ hnD);have lR:Below W.heap.size W wr:=HC.1.trans (BW.out.mono HC.1.size);have kL:=Z (fm.below lR m9);have JD:=fm.size;have agi:Lo D ((wr.setCell ⟨W.heap.size+1+1,1,none⟩ (.bool true)).setCell ⟨W.heap.size+1+1,2,none⟩ (.bool true)).heap.size:=RU.1.mono m9;have eY:=(HS.1.mv Me.1.lo BW.out).move eR;have qm:Cx D w (.slice wa w.length wc) ((wr.setCell ⟨W.heap.size+1+1,1,none⟩ (.bool true)).setCell ⟨W.heap.size+1+1,2,none⟩ (.bool true)):=HX0.1.mv kL.1;obtain⟨a3,c3',ait,acZ⟩:=RS.from (m:=t.m) (l':=t.elems.drop t.m.toNat) eY (by unfold jW;rw[jQ7 ⟨HM.1.1,by have:=HM.1.2;omega⟩]);rw[List.length_drop]at ait acZ;have pX:=fm.other W.heap.size m9;have gw3:((wr.setCell ⟨W.heap.size+1+1,1,none⟩ (.bool true)).setCell ⟨W.heap.size+1+1,2,none⟩ (.bool true)).cell? ⟨W.heap.size,0,none⟩=some (.slice wa w.length wc):=(jQi (w:=wr) pX).trans gw;have aaZ:((wr.setCell ⟨W.heap.size+1+1,1,none⟩ (.bool true)).setCell ⟨W.heap.size+1+1,2,none⟩ (.bool true)).heap[W.heap.size+1+1]?=some (px ⟨pd,true,true⟩):=by simpa using fm.here
    have ag:=cL (t.elems.drop t.m.toNat) _ _ D acZ agi 125 #[.pointer (some ⟨W.heap.size,0,none⟩),.pointer (some ⟨W.heap.size+1+1,0,none⟩)] Tryz.call125 _ (λW1 e v bb ar Dv dr ke=>
     ifC k ihE w _ e ⟨pd,true,true⟩ bb v W1 D W.heap.size (W.heap.size+1+1) ke (HE.1 e (jR2 Dv)) (qm.mv ar) dr ((ar.cell (p:=⟨W.heap.size,0,none⟩) (by rw[JD];simp only;omega)).trans gw3) (aj ar aaZ (by rw[JD];omega))) (!r) fJ
    have D8:=uW;have JX:W.heap.size+1≠W.heap.size+1+1:=m9
    clear fm hnD eR lR JD agi eY qm acZ pX gw3 aaZ fJ qD hA A hHD;go_wp2_with fail;refine ag.mono ?_;rintro e w1 ⟨rfl,ar⟩;have HB:=Z (kL.1.trans (ar.mono kL.1.size));clear ar ag;exact M84
theorem ik{f:σ->α->Option σ}{s r:σ}{a:α}{l:List α}(h:foldM f s (a::l)=some r):∃s',f s a=some s'/\foldM f s' l=some r:=by
 rw[foldM]at h;exact jQ1.1 h
theorem YP(w:World)(t:GT)(a:Option Addr)(c:Nat)(E:Nat->Prop)(hE:Lo E w.heap.size)(base:Nat)(hb:base<=w.heap.size)(h:RS E w t.elems (.slice a t.elems.length c)):
 dc E base (w.alloc (bx t a c)) [t] (.slice (some ⟨w.heap.size,0,none⟩) 1 1):=by
 refine⟨[.int .i64 t.kind,.int .i64 t.n,.int .i64 t.m,.bool t.va,.string t.name,.string t.tag,.slice a t.elems.length c],⟨rfl,.inr ⟨w.heap.size,1,#[.int .i64 t.kind,.int .i64 t.n,.int .i64 t.m,.bool t.va,.string t.name,.string t.tag,.slice a t.elems.length c],rfl,hb,ak w _,jQ0 _,i5,rfl,rfl⟩⟩,RV.single (h.mv hE (an w _)),λb dD=>⟨by have:=hE b dD;simp;omega,by intro e;have:=hE b dD;simp[Value.ownBlock]at e;omega⟩⟩
def afb(D:Nat->Prop)(W:World)(r:List GT)(t:GT)(e:Ending)(W':World):Prop:=
 ∃v',e=.returned v'/\Below W.heap.size W W'/\RS (Up D W.heap.size W'.heap.size) W' r v'/\((∀t',bare t=some t'->t'.kind≠13)->∃E,dc E W.heap.size W' r v'/\∀b,E b->Up D W.heap.size W'.heap.size b)
def P6(k:Nat):Prop:=∀(w:List ah) (ws:Value) (t:GT) (r:List GT) (v:Value) (W:World) (D:Nat->Prop),termsOf w k t=some r->Cx D w ws W->RT D W t v->
 Calls prog 265 #[ws,v] W (afb D W r t)
def aaF(w:List ah)(k:Nat)(D D2:Nat->Prop)(W WN wr:World)(ls r:List GT)(kk:Nat)(s:Value):Prop:=
 ∃l E,dc E WN.heap.size wr l s/\(∀b,D2 b->E b)/\(∀b,E b->Up D W.heap.size wr.heap.size b)/\foldM (λout e=>(termsOf w k e).bind λts=>lim (out++ts)) l (ls.drop kk)=some r
theorem yL(k:Nat):P6 k:=by
 induction k with
 |zero=>intro w ws t r v W D h;simp[termsOf]at h
 |succ k ih=>
  intro w ws t0 r v W D hp hx hv;obtain⟨t,ht,hp⟩:=jQ1.1 hp;obtain⟨pY,zL,rfl,cH⟩:=hv.bR;obtain⟨wa,wc,rfl⟩:=hx.rd.form;have HA:=Z (an W (bx t0 pY zL));have ag:=jr _ t0 t _ _ D (jQ0 _) ht (hx.mv HA.1).lo (hv.mv hx.lo HA.1);obtain⟨HP,HX,HT⟩:=Z3 hp hx ht;clear hp hx hv cH ht;go_enter func265,ntmps265;go_wp2_with fail;refine ag.mono ?_;rintro e w1 ⟨v1,rfl,fP,ar⟩;obtain⟨a1,zd,rfl,cz⟩:=fP.bR;have PD:=aj ar (ak W (bx t0 pY zL)) i6;have bS:=Z (HA.1.trans (ar.mono HA.1.size));have gj:=ar.size;simp only[jQ3]at gj cz;have gV:=Z cz;clear ar ag fP cz;go_wp2_with (refine fN rfl _ _ rfl W.heap.size rfl rfl PD rfl ?_);intro w2 fJ;have HBT:=Z fJ.here;have HB:=Z (fJ.below bS.1 m9);have eX:=gV.1.move (fJ.aJ (D:=Up D (W.heap.size+1) w1.heap.size) (by intro h;obtain h|h:=h;exact absurd (HX.1.lo _ h) m9;omega));have hz:=gj;rw[<-fJ.size]at hz eX;have HS:=Z eX;have kp:=Z ((HX.1.mv HB.1).up (n:=W.heap.size+1) (HX.1.lo.mono m9) m9);have HVT:=Z (RT.mk' HS.1);have hp:=HP.1;have fV:W.heap.size<w2.heap.size:=m9
  clear eX fJ gj PD bS gV HP;obtain⟨c0,c1,c2,c3,c4,c5,c6⟩:=ao HBT.1;by_cases cg:t.kind=13
  ·rw[jQ7 cg]at hp;have h:t.elems=r:=by simpa using hp
   subst h;have ll:(t.kind==13)=true:=by simp[cg]
   have H13:=Z cg;clear hp cg;go_wp2_with fail;go_ret;exact⟨_,rfl,HB.1,HS.1.move (au.refl.wide (Up.mono m9 (jQ0 _))),λh=>absurd H13.1 (h t HT.1)⟩
  have ll:(t.kind==13)=false:=by simp[cg]
  rw[jQ4 cg]at hp;by_cases cQ:t.kind=12
  ·rw[jQ7 cQ]at hp;have tT:(t.kind !=12)=false:=by simp[cQ]
   have XZ:=Z (show foldM (λout e=>(termsOf w k e).bind λts=>lim (out++ts)) [] t.elems=some r by simpa using hp);have Wt:=HS;have CT:=kp;have PV:=HB;have Jv:=Z (show∀b,Up D (W.heap.size+1) w2.heap.size b->Up D W.heap.size w2.heap.size b from Up.mono m9 (jQ0 _));clear hp cQ cg;go_wp2_with fail;have Wj:t.elems.length<=9223372036854775807:=M109
   have Ro:=PV.1.size
   go_loopg [7,41] t.elems.length (λgg s7 s41 wr=>∃kk:Nat,kk<=t.elems.length/\t.elems.length - kk<=gg/\s41=.int .i64 kk/\Aside (Below w2.heap.size w2 wr)/\Aside (aaF w k D (Up D (W.heap.size+1) w2.heap.size) W w2 wr (t.elems) r kk s7))
   case atStart=>exact⟨0,jQc _,m9,rfl,jQ5 _ _,[],Up D (W.heap.size+1) w2.heap.size,dc.nil CT.1.lo,λ_ h=>h,Jv.1,by simpa using XZ.1⟩
   case round=>
    obtain⟨kk,ez,hg,rfl,BW,l0,E,aL,TR,N1,lN⟩:=hrel;by_cases aM:kk<t.elems.length
    ·have aR:(kk:Int)<(t.elems.length:Int):=m9
     obtain⟨x,hm⟩:∃x,(t.elems)[kk]?=some x:=⟨(t.elems)[kk],by simp[aM]⟩;have bL:(t.elems).drop kk=x::(t.elems).drop (kk+1):=M101
     rw[bL]at lN;obtain⟨l1,dQ,lN⟩:=ik lN;obtain⟨ts,fi,dQ⟩:=jQ1.1 dQ;obtain⟨cF,dQ⟩:=rH dQ;subst dQ;rcases aN.1 Wt.1 with⟨he,_⟩|⟨_,b2,o2,c2,dN,fh,fL,du,gX⟩
     ·exact M102
     simp at dN;obtain⟨rfl,rfl⟩:=dN;have hE:=(gX.at hm).move (CT.1.lo.aJ BW.out) du;obtain⟨sa,sc,f0,f1,f2,f3,f4,f5,f6,iL⟩:=hE.bR;have dZ:=BW.out.size;have ag:=ih w _ x ts _ (wr.alloc (bx x sa sc)) _ fi ((CT.1.mv BW.out).mv (an wr _)) (iL.mv (CT.1.lo.mono dZ) (an wr _));obtain⟨eK,TU,KA,Jw⟩:=Z4 aL TR N1 lN;clear aL TR N1 lN hE gX iL bL hm fi;go_wp2_with fail;refine ag.mono ?_;rintro e w6 ⟨v6,rfl,gS,vE,_⟩;obtain⟨a6,Kk,rfl⟩:=vE.form;have B6:=Z ((an wr (bx x sa sc)).trans (gS.mono i6));have lj:dc (Up E wr.heap.size w6.heap.size) w2.heap.size w6 l0 u7:=(eK.1.below B6.1).wide (λb h=>.inl h) (λb hb=>by
      obtain hb|hb:=hb
      ·exact M114
      ·exact⟨hb.2,λe=>by have:=(eK.1.lt b e.symm).2;omega⟩)
     have vX:=Z lj;have HS6:=Z vE;have hW6:w2.heap.size<=w6.heap.size:=jQd dZ B6.1.size;have yH:=Z (show∀b,Up (Up D (W.heap.size+1) w2.heap.size) (wr.alloc (bx x sa sc)).heap.size w6.heap.size b->Up E wr.heap.size w6.heap.size b from λb hb=>by
      obtain hb|hb:=hb
      ·exact .inl (TU.1 b hb)
      ·simp only[jQ3]at hb;exact .inr ⟨m9,hb.2⟩)
     clear lj vE gS ag;go_wp2_with (at_builtin;refine tU rfl _ _ rfl w2.heap.size (Up E wr.heap.size w6.heap.size) u7 l0 rfl vX.1 _ ts _ HS6.1 rfl (λb o h=>by obtain⟨ns,h1,h2⟩:=h.rv;exact⟨ns,h1.move (au.refl.wide yH.1),h2⟩) cF hW6 ?_);intro v7 w7 bF uA uU;have B7:=Z ((BW.out.trans (B6.1.mono dZ)).grown uA hW6 (λk hk=>(eK.1.lt k hk).1));have H7:=Z bF;have H8:=Z (show∀b,Up E wr.heap.size w6.heap.size b->Up D W.heap.size w7.heap.size b from λb hb=>by
      have h1:=uA.size;have h2:=B6.1.size;obtain hb|hb:=hb
      ·exact Up.mono (jQ0 _) m9 b (KA.1 b hb)
      ·exact .inr ⟨m9,m9⟩)
     clear bF uA uU;go_wp2_with fail;go_roundg (t.elems.length - (kk+1))
     case measure=>omega
     case rel=>exact⟨kk+1,m9,m9,by go_num,B7.1,_,_,H7.1,λb hb=>.inl (TU.1 b hb),H8.1,Jw.1⟩
    ·have aR:¬(kk:Int)<(t.elems.length:Int):=m9
     exact M71
  have tT:(t.kind !=12)=true:=by simp[cQ]
  rw[jQ4 cQ]at hp;obtain⟨parts,yk,hp⟩:=jQ1.1 hp;obtain⟨i,hi,yk⟩:=jQ1.1 yk;have ag:=dh w _ t i _ w2 _ hi kp.1.lo kp.1.rd HVT.1;have HP:=Z hp;have HPA:=Z yk;clear hp yk hi cQ cg;go_wp2_with fail;refine ag.mono ?_;rintro e w3 ⟨rfl,aZ⟩;obtain⟨kL,tW,Tv,C9,X8⟩:=Z5 (HB.1.trans (aZ.mono HB.1.size)) (kp.1.mv aZ) (HVT.1.mv kp.1.lo aZ) (HS.1.mv kp.1.lo aZ) (aj aZ HBT.1 fV);have D7:W.heap.size<w3.heap.size:=jQb fV aZ.size;have hz23:=aZ.size;clear c0 c1 c2 c3 c4 c5 c6 aZ ag;obtain⟨c0,c1,c2,c3,c4,c5,c6⟩:=ao X8.1;have yk:=HPA.1;cases i with
  |false=>
   have h:none=parts:=by simpa using yk
   subst h;have h:[t]=r:=by simpa using HP.1
   subst h;have HO:=Z (YP w3 t a1 zd _ tW.1.lo w3.heap.size (jQ0 _) C9.1);clear yk HP HPA;go_wp2_with fail;go_ret;have hE:∀b,Up D (W.heap.size+1) w2.heap.size b->Up D W.heap.size (w3.alloc (bx t a1 zd)).heap.size b:=Up.mono m9 (by simp;omega);exact⟨_,rfl,kL.1.alloc m9 _,HO.1.rs hE (λb hb dD=>.inr ⟨m9,dD⟩),λ_=>⟨_,HO.1.base m9,hE⟩⟩
  |true=>
   simp only[jRt,jQk,jR1]at yk;obtain⟨u,hu,yk⟩:=jQ1.1 yk;have ag:=dG w _ t u _ w3 _ hu tW.1.lo tW.1.rd Tv.1;have ahQ:=Z yk;clear yk hu HPA;go_wp2_with fail;refine ag.mono ?_;rintro e w4 ⟨v4,rfl,Wo,dI⟩;obtain⟨a4,Rk,rfl,nU⟩:=Wo.bR;have aeq:=dI.size;obtain⟨PV,CT,Tl⟩:=Z3 ((kL.1.trans (dI.mono kL.1.size)).alloc m9 (bx u a4 Rk)) (((tW.1.mv dI).mv (an w4 (bx u a4 Rk))).up (n:=w3.heap.size) tW.1.lo (by simp;omega)) ((nU.mv (Up.lo (n:=w3.heap.size) tW.1.lo aeq) (an w4 (bx u a4 Rk))).move (D':=Up (Up D (W.heap.size+1) w2.heap.size) w3.heap.size (w4.alloc (bx u a4 Rk)).heap.size) (au.refl.wide (Up.mono (jQ0 _) i6)));have Jv:=Z (show∀b,Up (Up D (W.heap.size+1) w2.heap.size) w3.heap.size (w4.alloc (bx u a4 Rk)).heap.size b->Up D W.heap.size (w4.alloc (bx u a4 Rk)).heap.size b from λb hb=>by
    obtain hb|hb:=hb
    ·exact Up.mono m9 (by simp;omega) b hb
    ·exact .inr ⟨m9,hb.2⟩)
   clear nU Wo dI ag c0 c1 c2 c3 c4 c5 c6;have yk:=ahQ.1;by_cases bH:u.kind=10
   ·rw[jQ4 (by simp[bH])]at yk;obtain⟨ls,CI,yk⟩:=jQ6.1 yk;subst yk;have sq:(u.kind !=10)=false:=by simp[bH]
    obtain⟨ap,cp,pT,Xs⟩:=Tl.1.from CI;have Wt:=Z Xs;have XZ:=Z (show foldM (λout e=>(termsOf w k e).bind λts=>lim (out++ts)) [] ls=some r by simpa using HP.1);clear CI Xs bH HP;go_wp2_with fail;generalize Hr:w4.alloc (bx u a4 Rk)=wn at*;have Wj:ls.length<=9223372036854775807:=M109
    have Ro:=PV.1.size
    go_loopg [7,41] ls.length (λgg s7 s41 wr=>∃kk:Nat,kk<=ls.length/\ls.length - kk<=gg/\s41=.int .i64 kk/\Aside (Below wn.heap.size wn wr)/\Aside (aaF w k D (Up (Up D (W.heap.size+1) w2.heap.size) w3.heap.size wn.heap.size) W wn wr (ls) r kk s7))
    case atStart=>exact⟨0,jQc _,m9,rfl,jQ5 _ _,[],Up (Up D (W.heap.size+1) w2.heap.size) w3.heap.size wn.heap.size,dc.nil CT.1.lo,λ_ h=>h,Jv.1,by simpa using XZ.1⟩
    case round=>
     obtain⟨kk,ez,hg,rfl,BW,l0,E,aL,TR,N1,lN⟩:=hrel;by_cases aM:kk<ls.length
     ·have aR:(kk:Int)<(ls.length:Int):=m9
      obtain⟨x,hm⟩:∃x,(ls)[kk]?=some x:=⟨(ls)[kk],by simp[aM]⟩;have bL:(ls).drop kk=x::(ls).drop (kk+1):=M101
      rw[bL]at lN;obtain⟨l1,dQ,lN⟩:=ik lN;obtain⟨ts,fi,dQ⟩:=jQ1.1 dQ;obtain⟨cF,dQ⟩:=rH dQ;subst dQ;rcases aN.1 Wt.1 with⟨he,_⟩|⟨_,b2,o2,c2,dN,fh,fL,du,gX⟩
      ·exact M102
      simp at dN;obtain⟨rfl,rfl⟩:=dN;have hE:=(gX.at hm).move (CT.1.lo.aJ BW.out) du;obtain⟨sa,sc,f0,f1,f2,f3,f4,f5,f6,iL⟩:=hE.bR;have dZ:=BW.out.size;have ag:=ih w _ x ts _ (wr.alloc (bx x sa sc)) _ fi ((CT.1.mv BW.out).mv (an wr _)) (iL.mv (CT.1.lo.mono dZ) (an wr _));obtain⟨eK,TU,KA,Jw⟩:=Z4 aL TR N1 lN;clear aL TR N1 lN hE gX iL bL hm fi;go_wp2_with fail;refine ag.mono ?_;rintro e w6 ⟨v6,rfl,gS,vE,_⟩;obtain⟨a6,Kk,rfl⟩:=vE.form;have B6:=Z ((an wr (bx x sa sc)).trans (gS.mono i6));have lj:dc (Up E wr.heap.size w6.heap.size) wn.heap.size w6 l0 u7:=(eK.1.below B6.1).wide (λb h=>.inl h) (λb hb=>by
       obtain hb|hb:=hb
       ·exact M114
       ·exact⟨hb.2,λe=>by have:=(eK.1.lt b e.symm).2;omega⟩)
      have vX:=Z lj;have HS6:=Z vE;have hW6:wn.heap.size<=w6.heap.size:=jQd dZ B6.1.size;have yH:=Z (show∀b,Up (Up (Up D (W.heap.size+1) w2.heap.size) w3.heap.size wn.heap.size) (wr.alloc (bx x sa sc)).heap.size w6.heap.size b->Up E wr.heap.size w6.heap.size b from λb hb=>by
       obtain hb|hb:=hb
       ·exact .inl (TU.1 b hb)
       ·simp only[jQ3]at hb;exact .inr ⟨m9,hb.2⟩)
      clear lj vE gS ag;go_wp2_with (at_builtin;refine tU rfl _ _ rfl wn.heap.size (Up E wr.heap.size w6.heap.size) u7 l0 rfl vX.1 _ ts _ HS6.1 rfl (λb o h=>by obtain⟨ns,h1,h2⟩:=h.rv;exact⟨ns,h1.move (au.refl.wide yH.1),h2⟩) cF hW6 ?_);intro v7 w7 bF uA uU;have B7:=Z ((BW.out.trans (B6.1.mono dZ)).grown uA hW6 (λk hk=>(eK.1.lt k hk).1));have H7:=Z bF;have H8:=Z (show∀b,Up E wr.heap.size w6.heap.size b->Up D W.heap.size w7.heap.size b from λb hb=>by
       have h1:=uA.size;have h2:=B6.1.size;obtain hb|hb:=hb
       ·exact Up.mono (jQ0 _) m9 b (KA.1 b hb)
       ·exact .inr ⟨m9,m9⟩)
      clear bF uA uU;go_wp2_with fail;go_roundg (ls.length - (kk+1))
      case measure=>omega
      case rel=>exact⟨kk+1,m9,m9,by go_num,B7.1,_,_,H7.1,λb hb=>.inl (TU.1 b hb),H8.1,Jw.1⟩
     ·have aR:¬(kk:Int)<(ls.length:Int):=m9
      exact M71
   ·rw[jQ7 (by simpa using bH)]at yk;have h:some []=parts:=by simpa using yk
    subst h;have h:[]=r:=by simpa[foldM]using HP.1
    subst h;have sq:(u.kind !=10)=true:=by simp[bH]
    clear yk bH HP;go_wp2_with fail;go_ret;exact⟨_,rfl,PV.1,ia.2 ⟨none,0,rfl,λ_=>rfl⟩,λ_=>⟨D,dc.nil (HX.1.lo.mono PV.1.size),λb hb=>.inl hb⟩⟩
def Yv(k:Nat):Prop:=∀(w:List ah) (ws:Value) (t:GT) (r:List GT) (v:Value) (W:World) (D:Nat->Prop),required w k t=some r->Cx D w ws W->RT D W t v->
 Calls prog 171 #[ws,v] W (abJ D W r)
theorem Ju(out:List GT)(m:GT):out.length<=(fW out m).length:=by
 unfold fW;split<;>simp
theorem vW(ms:List GT):∀out:List GT,out.length<=(ms.foldl fW out).length:=by
 induction ms with
 |nil=>intro out;simp
 |cons m ms ih=>intro out;exact jQd (Ju out m) (ih _)
theorem L4{rq:GT->Option (List GT)}{w:List ah}{out r:List GT}(h:qR rq w out e=some r):out.length<=r.length:=by
 unfold qR at h;split at h
 ·cases h;exact jQ0 _
 ·split at h
  ·cases h;exact jQ0 _
  ·obtain⟨i,_,h⟩:=jQ1.1 h;split at h
   ·cases h;exact jQ0 _
   ·obtain⟨ms,_,rfl⟩:=jQ6.1 h;exact vW _ _
theorem rC{rq:GT->Option (List GT)}{w:List ah}:∀{l out r:List GT},foldM (qR rq w) out l=some r->out.length<=r.length
 |[],out,r,h=>by simp[foldM]at h;subst h;exact jQ0 _
 |a::l,out,r,h=>by
  obtain⟨s,h1,h2⟩:=ik h;exact jQd (L4 h1) (rC h2)
theorem EI{α:Type}(p:α->Bool):∀l:List α,anyM (λx=>some (p x)) l=some (l.any p)
 |[]=>rfl
 |a::l=>by
  rw[anyM,List.any_cons];cases h:p a with
  |true=>simp
  |false=>simpa[h]using EI p l
def aeI(w:List ah)(k:Nat)(D D2:Nat->Prop)(W WN wr:World)(ls fin:List GT)(kk:Nat)(s:Value):Prop:=
 ∃l E,dc E WN.heap.size wr l s/\(∀b,D2 b->E b)/\(∀b,E b->Up D W.heap.size wr.heap.size b)/\foldM (qR (required w k) w) l (ls.drop kk)=some fin
def ahr(E:Nat->Prop)(WN w6 wr:World)(ms l1:List GT)(jj:Nat)(s:Value):Prop:=
 ∃l,dc E WN.heap.size wr l s/\au E E w6 wr/\w6.heap.size<=wr.heap.size/\(ms.drop jj).foldl fW l=l1
theorem ga(k:Nat):Yv k:=by
 induction k with
 |zero=>intro w ws t r v W D h;simp[required]at h
 |succ k ih=>
  intro w ws t r v W D hp hx hv;obtain⟨u,hu,hp⟩:=jQ1.1 hp;obtain⟨pY,zL,rfl,cH⟩:=hv.bR;obtain⟨wa,wc,rfl⟩:=hx.rd.form;have HA:=Z (an W (bx t pY zL));have dt:=hx.mv HA.1;have ag:=dG w _ t u _ _ D hu dt.lo dt.rd (hv.mv hx.lo HA.1);have HP:=Z hp;have HX:=Z hx;clear hp hx dt hv cH hu;go_enter func171,ntmps171;go_wp2_with fail;refine ag.mono ?_;rintro e w1 ⟨v1,rfl,fP,ar⟩;obtain⟨a1,zd,rfl,cz⟩:=fP.bR;have gj:=ar.size;simp only[jQ3]at gj;have PV:=Z ((HA.1.trans (ar.mono HA.1.size)).alloc m9 (bx u a1 zd));have CT:=Z ((HX.1.mv PV.1).up (n:=W.heap.size+1) (HX.1.lo.mono m9) (by simp;omega));have Tl:=Z ((cz.mv (Up.lo (n:=(W.alloc (bx t pY zL)).heap.size) (HX.1.lo.mono i6) ar.size) (an w1 (bx u a1 zd))).move (D':=Up D (W.heap.size+1) (w1.alloc (bx u a1 zd)).heap.size) (au.refl.wide (Up.mono i6 i6)));clear cz fP ar ag;have hp:=HP.1;by_cases bH:u.kind=10
  ·rw[jQ4 (by simp[bH])]at hp;obtain⟨out,DC,hp⟩:=jQ1.1 hp;obtain⟨ls,CI,hp⟩:=jQ1.1 hp;obtain⟨fin,lN,hp⟩:=jQ1.1 hp;have sq:(u.kind !=10)=false:=by simp[bH]
   obtain⟨⟨uu,TP⟩,aak⟩:((fin.map (·.name)).Nodup/\fin.length<=1099511627776)/\(fin.mergeSort λa b=>!bB b a)=r:=by
    unfold oG at hp;split at hp
    ·exact⟨by assumption,by simpa using hp⟩
    ·cases hp
   obtain⟨hsl1,aeJ⟩:=Tl.1.upto DC;obtain⟨ap,cp,pT,Xs⟩:=Tl.1.from CI;have ag:=I7 out _ _ _ aeJ CT.1.lo (jQd (rC lN) TP);obtain⟨Wt,XZ,Xd,HSO⟩:=Z4 Xs lN uu aak;clear Xs aeJ lN uu aak hp HP DC CI bH;go_wp2_with fail;refine ag.mono ?_;rintro e w3 ⟨v3,rfl,EJ,aZ⟩;obtain⟨abK,kL,HBU⟩:=Z3 EJ aZ (ak w1 (bx u a1 zd));obtain⟨c0,c1,c2,c3,c4,c5,c6⟩:=ao (aj aZ HBU.1 i6);have dQ:w1.heap.size<(w1.alloc (bx u a1 zd)).heap.size:=i6
   have Lw:W.heap.size+1<=(w1.alloc (bx u a1 zd)).heap.size:=by simp;omega
   clear EJ aZ ag;generalize Hr:w1.alloc (bx u a1 zd)=wn at kL abK Wt CT PV HBU dQ Lw;have Jv:=Z (show∀b,Up D (W.heap.size+1) wn.heap.size b->Up D W.heap.size w3.heap.size b from Up.mono m9 kL.1.size);generalize hD2:Up D (W.heap.size+1) wn.heap.size=D2 at CT Wt abK Jv;clear hD2 Hr Tl;have Wj:ls.length<=9223372036854775807:=M109
   go_wp2_with fail
   go_loopg [6,29] ls.length (λgg s6 s29 wr=>∃kk:Nat,kk<=ls.length/\ls.length - kk<=gg/\s29=.int .i64 kk/\Aside (Below wn.heap.size wn wr)/\Aside (aeI w k D D2 W wn wr ls fin kk s6))
   case atStart=>exact⟨0,jQc _,m9,rfl,kL.1,out,D2,abK.1,λ_ h=>h,Jv.1,by simpa using XZ.1⟩
   case round=>
    obtain⟨kk,ez,hg,rfl,BW,l0,E,aL,TR,N1,lN⟩:=hrel;by_cases aM:kk<ls.length
    ·have aR:(kk:Int)<(ls.length:Int):=m9
     obtain⟨x,hm⟩:∃x,ls[kk]?=some x:=⟨ls[kk],by simp[aM]⟩;have bL:ls.drop kk=x::ls.drop (kk+1):=M101
     rw[bL]at lN;obtain⟨l1,sF,lN⟩:=ik lN;have ahs:=jQd (rC lN) TP;rcases aN.1 Wt.1 with⟨he,_⟩|⟨_,b2,o2,c2,dN,fh,fL,du,gX⟩
     ·exact M102
     simp at dN;obtain⟨rfl,rfl⟩:=dN;have hE:=(gX.at hm).move (CT.1.lo.aJ BW.out) du;obtain⟨sa,sc,f0,f1,f2,f3,f4,f5,f6,iL⟩:=hE.bR;have dZ:=BW.out.size;obtain⟨eK,TU,KA,Jw,Km⟩:=Z5 aL TR N1 lN iL;have FO:b2<wr.heap.size:=jQb (CT.1.lo b2 du) dZ;have uB:=ak wr (bx x sa sc);obtain⟨q0,q1,q2,q3,q4,q5,q6⟩:=ao uB;clear aL TR N1 lN hE gX iL bL hm;rw[qR]at sF;by_cases cQ:x.kind=12
     ·rw[jQ7 cQ]at sF;have h:l0=l1:=by simpa using sF
      subst h;have tT:(x.kind==12)=true:=by simp[cQ]
      clear sF cQ;exact M87
     rw[jQ4 cQ]at sF;have tT:(x.kind==12)=false:=by simp[cQ]
     by_cases cg:x.kind=13
     ·rw[jQ7 cg]at sF;have h:l0=l1:=by simpa using sF
      subst h;have ll:(x.kind==13)=true:=by simp[cg]
      clear sF cQ cg;exact M87
     rw[jQ4 cg]at sF;have ll:(x.kind==13)=false:=by simp[cg]
     obtain⟨i,hi,sF⟩:=jQ1.1 sF;have pA:=Z ((CT.1.mv BW.out).mv (an wr (bx x sa sc)));have aeK:=Z (Km.1.mv (CT.1.mv BW.out).lo (an wr (bx x sa sc)));have ag:=dh w _ x i _ _ _ hi pA.1.lo pA.1.rd aeK.1;have HL1:=Z sF;clear sF hi cQ cg;go_wp2_with fail;refine ag.mono ?_;rintro e w4 ⟨rfl,dI⟩;have B4:=Z ((an wr (bx x sa sc)).trans (dI.mono i6));cases i with
     |false=>
      have h:l0=l1:=by simpa using HL1.1
      subst h;clear dI ag;go_wp2_with fail;go_roundg (ls.length - (kk+1))
      case measure=>omega
      case rel=>exact⟨kk+1,m9,m9,by go_num,BW.out.trans (B4.1.mono dZ),l0,E,eK.1.below B4.1,TU.1,λb hb=>Up.mono (jQ0 _) B4.1.size b (KA.1 b hb),Jw.1⟩
     |true=>
      obtain⟨ms,jK,sF⟩:∃ms,required w k x=some ms/\ms.foldl fW l0=l1:=by
       have:=HL1.1;simp only[jRt,jQk,jR1]at this;obtain⟨ms,h1,h2⟩:=jQ6.1 this;exact⟨ms,h1,h2⟩
      obtain⟨q0,q1,q2,q3,q4,q5,q6⟩:=ao (aj dI uB i6);have ag:=ih w _ x ms _ w4 _ jK (pA.1.mv dI) (aeK.1.mv pA.1.lo dI);have aht:=Z sF;clear jK sF HL1 dI;go_wp2_with fail;refine ag.mono ?_;rintro e w6 IG;obtain⟨v6,rfl,vE,gS⟩:=IG.Pf;obtain⟨a6,Kk,rfl⟩:=vE.form;have B6:=Z (B4.1.trans (gS.mono B4.1.size));have lj:dc (Up E wr.heap.size w6.heap.size) wn.heap.size w6 l0 u6:=(eK.1.below B6.1).wide (λb h=>.inl h) (λb hb=>by
       obtain hb|hb:=hb
       ·exact M114
       ·exact⟨hb.2,λe=>by have:=(eK.1.lt b e.symm).2;omega⟩)
      have vX:=Z lj;have HS6:=Z vE;have hW6:wn.heap.size<=w6.heap.size:=jQd dZ B6.1.size;have yH:=Z (show∀b,Up D2 w4.heap.size w6.heap.size b->Up E wr.heap.size w6.heap.size b from λb hb=>by
       have:=B4.1.size;obtain hb|hb:=hb
       ·exact .inl (TU.1 b hb)
       ·exact .inr ⟨m9,hb.2⟩)
      have aeL:=Z (show∀b,Up E wr.heap.size w6.heap.size b->Up D W.heap.size w6.heap.size b from λb hb=>by
       have h2:=B6.1.size;obtain hb|hb:=hb
       ·exact Up.mono (jQ0 _) h2 b (KA.1 b hb)
       ·exact .inr ⟨m9,hb.2⟩)
      have aeM:=Z (show∀b,D2 b->Up E wr.heap.size w6.heap.size b from λb hb=>.inl (TU.1 b hb));have TW:=Z (BW.out.trans (B6.1.mono dZ));clear lj vE gS ag IG q0 q1 q2 q3 q4 q5 q6 uB;generalize hE6:Up E wr.heap.size w6.heap.size=E6 at vX yH aeL aeM;have hmz:ms.length<=9223372036854775807:=by
       rcases aN.1 HS6.1 with⟨he,_⟩|⟨_,b2,o2,c2,dN,fh,fL,du,gX⟩
       ·rw[he];simp
       ·omega
      go_wp2_with fail
      go_loopg [6,51] ms.length (λgg s6 s51 wr=>∃jj:Nat,jj<=ms.length/\ms.length - jj<=gg/\s51=.int .i64 jj/\Aside (Below wn.heap.size wn wr)/\Aside (ahr E6 wn w6 wr ms l1 jj s6))
      case atStart=>exact⟨0,jQc _,m9,rfl,TW.1,l0,vX.1,au.refl,jQ0 _,by simpa using aht.1⟩
      case round=>
       obtain⟨jj,X1,Dp,rfl,BW2,l2,rD,eR,Yw,L5⟩:=hrel;by_cases ee:jj<ms.length
       ·have qY:(jj:Int)<(ms.length:Int):=m9
        obtain⟨m,hm⟩:∃m,ms[jj]?=some m:=⟨ms[jj],by simp[ee]⟩;have bL:ms.drop jj=m::ms.drop (jj+1):=by
         rw[jQv ee];simp[jQp ee]at hm;rw[hm]
        rw[bL,List.foldl_cons]at L5;have kj:=jQd (vW (ms.drop (jj+1)) (fW l2 m)) (L5▸ahs);rcases aN.1 HS6.1 with⟨he,_⟩|⟨_,b3,o3,c3,dN,D7,Kq,I4,hC3⟩
        ·rw[he]at ee;simp at ee
        simp at dN;obtain⟨rfl,rfl⟩:=dN;have hE:=(hC3.at hm).move (D':=E6) (λb hb=>⟨yH.1 b hb,(eR b (yH.1 b hb)).2⟩) I4;obtain⟨ma,mc,f0,f1,f2,f3,f4,f5,f6,Kr⟩:=hE.bR;obtain⟨ma',mc',e',aeN⟩:=Kr.bR;simp at e';obtain⟨rfl,rfl⟩:=e';obtain⟨la,lc,rfl⟩:=rD.form;have BB:=Z (an wr (bx m ma mc));have ag:=cL l2 _ (wr.alloc (bx m ma mc)) (λb=>b<(wr.alloc (bx m ma mc)).heap.size) ((rD.below BB.1).rs (rD.below BB.1).lo (λb _ h=>h)) (λb h=>h) 209 #[.pointer (some ⟨wr.heap.size,0,none⟩)] Tryz.call209 (λf=>some (aE f.name m.name))
         (λW1 e v bb ar _ dr ke=>by
          have h:aE e.name m.name=bb:=by simpa using ke
          subst h;exact LN e m v W1 _ wr.heap.size dr (aj ar (ak wr _) i6)) _ (EI _ l2)
        obtain⟨rE,Oa,Yx,R5⟩:=Z4 rD eR L5 aeN;have D8:=mkf;have hb3w:b3<wr.heap.size:=jQb (vX.1.lo b3 (yH.1 b3 I4)) Yw;have abL:=BW2.out.size;clear rD eR L5 hE hC3 Kr aeN bL hm;cases hc:(l2.any λf=>aE f.name m.name)with
        |true=>
         have xR:fW l2 m=l2:=by unfold fW;rw[jQ7 hc]
         rw[xR]at Yx;rw[hc]at ag;clear hc xR kj;go_wp2_with fail;refine ag.mono ?_;rintro e w8 ⟨rfl,nN⟩;have B8:=Z (BB.1.trans (nN.mono BB.1.size));clear nN ag;go_wp2_with fail;go_roundg (ms.length - (jj+1))
         case measure=>omega
         case rel=>exact⟨jj+1,m9,m9,by go_num,BW2.out.trans (B8.1.mono abL),l2,rE.1.below B8.1,λb hb=>⟨hb,(B8.1.block b (rE.1.lo b hb)).trans (Oa.1 b hb).2⟩,jQd Yw B8.1.size,Yx.1⟩
        |false=>
         have xR:fW l2 m=l2++[m]:=by unfold fW;rw[jQ4 (by rw[hc];simp)]
         rw[xR]at Yx kj;rw[hc]at ag;clear hc xR;go_wp2_with fail;refine ag.mono ?_;rintro e w8 ⟨rfl,nN⟩;have B8:=Z (BB.1.trans (nN.mono BB.1.size));obtain⟨q0,q1,q2,q3,q4,q5,q6⟩:=ao (aj nN (ak wr (bx m ma mc)) i6);clear nN ag;have BA:=Z (B8.1.alloc B8.1.size (bx m ma mc));have HOA:=Z (rE.1.below BA.1);have vY:=RV.single (R5.1.mv rE.1.lo BA.1);have Q6:=Z vY;have Xo:=Z (iC w8 [.int .i64 m.kind,.int .i64 m.n,.int .i64 m.m,.bool m.va,.string m.name,.string m.tag,.slice ma m.elems.length mc] 25);have cS:wn.heap.size<=(w8.alloc (bx m ma mc)).heap.size:=jQd abL BA.1.size;clear vY;go_wp2_with (at_builtin;refine nP rfl _ _ rfl wn.heap.size E6 _ l2 rfl HOA.1 [m] ⟨w8.heap.size,0,none⟩ _ _ rfl Q6.1 Xo.1 kj cS ?_);intro v9 w9 jR Ho K0;have B9:=Z ((BW2.out.trans (BA.1.mono abL)).grown Ho cS (λk hk=>(rE.1.lt k hk).1));have H9:=Z jR;have HM9:=Z (show au E6 E6 w6 w9 from λb hb=>by
          obtain⟨_,_,_,hav⟩:=HOA.1;exact⟨hb,(Ho.block b (hav b hb).1 (hav b hb).2).trans ((BA.1.block b (rE.1.lo b hb)).trans (Oa.1 b hb).2)⟩)
         have ahu:w6.heap.size<=w9.heap.size:=jQd (jQd Yw BA.1.size) Ho.size;clear jR Ho K0;go_wp2_with fail;go_roundg (ms.length - (jj+1))
         case measure=>omega
         case rel=>exact⟨jj+1,m9,m9,by go_num,B9.1,l2++[m],H9.1,HM9.1,ahu,Yx.1⟩
       ·have qY:¬(jj:Int)<(ms.length:Int):=m9
        have qk:l2=l1:=by
         rw[jQf m9]at L5;simpa using L5
        subst qk;have rE:=Z rD;clear rD eR L5;go_wp2_with fail;go_roundg (ls.length - (kk+1))
        case measure=>omega
        case rel=>exact⟨kk+1,m9,m9,by go_num,BW2.out,l2,E6,rE.1,aeM.1,λb hb=>Up.mono (jQ0 _) Yw b (aeL.1 b hb),Jw.1⟩
    ·have aR:¬(kk:Int)<(ls.length:Int):=m9
     have qk:l0=fin:=by
      rw[jQf m9]at lN;simpa[foldM]using lN
     subst qk;have ag:=LY E wn.heap.size wr l0 u6 aL Xd.1 TP BW.out.size;have KA:=Z N1;clear aL TR N1 lN;go_wp2_with fail;refine ag.mono ?_;rintro e w7 ⟨rfl,bF,ek⟩;have eK:=Z bF;have zM:=Z (PV.1.trans ((BW.out.trans ek).mono m9));have hz7:=ek.size;clear bF ek ag;go_wp2_with fail;go_ret;exact⟨_,E,rfl,HSO.1▸eK.1.base m9,λb hb=>Up.mono (jQ0 _) hz7 b (KA.1 b hb),zM.1⟩
  ·rw[jQ7 (by simpa using bH)]at hp;have h:[]=r:=by simpa using hp
   subst h;have sq:(u.kind !=10)=true:=by simp[bH]
   clear hp bH HP;go_wp2_with fail;go_ret;exact⟨_,D,rfl,dc.nil (HX.1.lo.mono PV.1.size),λb hb=>.inl hb,PV.1⟩
def aal(D:Nat->Prop)(W:World)(s:List ah×List GT)(e:Ending)(W':World):Prop:=
 ∃vw vo,e=.returned (.tuple #[vw,vo])/\RD (Up D W.heap.size W'.heap.size) W' s.1 vw/\(∀b o n c,vw=.slice (some ⟨b,o,none⟩) n c->W.heap.size<=b)/\RS (Up D W.heap.size W'.heap.size) W' s.2 vo/\Below W.heap.size W W'
def MV(D:Nat->Prop)(W:World):List aH->List Value->Prop
 |[],xs=>xs=[]
 |m::l,xs=>∃a c rest,xs=[.string m.name,.bool m.ptr,.int .i64 m.sig.kind,.int .i64 m.sig.n,.int .i64 m.sig.m,.bool m.sig.va,.string m.sig.name,.string m.sig.tag,.slice a m.sig.elems.length c]++rest/\RS D W m.sig.elems (.slice a m.sig.elems.length c)/\MV D W l rest
def DV(D:Nat->Prop)(W:World):List ah->List Value->Prop
 |[],xs=>xs=[]
 |d::l,xs=>∃a c ma mc rest,xs=[.int .i64 d.under.kind,.int .i64 d.under.n,.int .i64 d.under.m,.bool d.under.va,.string d.under.name,.string d.under.tag,.slice a d.under.elems.length c,.slice ma d.meths.length mc]++rest/\
  RS D W d.under.elems (.slice a d.under.elems.length c)/\RM D W d.meths (.slice ma d.meths.length mc)/\DV D W l rest
theorem MV.length:∀{l:List aH} {xs:List Value},MV D W l xs->xs.length=l.length*9
 |[],xs,h=>by rw[MV]at h;simp[h]
 |t::l,xs,h=>by
  rw[MV]at h;obtain⟨a,c,rest,rfl,_,h⟩:=h;have:=h.length;simp;omega
theorem DV.length:∀{l:List ah} {xs:List Value},DV D W l xs->xs.length=l.length*8
 |[],xs,h=>by rw[DV]at h;simp[h]
 |t::l,xs,h=>by
  rw[DV]at h;obtain⟨a,c,ma,mc,rest,rfl,_,_,h⟩:=h;have:=h.length;simp;omega
theorem MV.one:∀{l:List aH} {xs:List Value},MV D W l xs->∀u∈xs,u.oneCell'=true
 |[],xs,h=>by rw[MV]at h;subst h;intro u hu;simp at hu
 |t::l,xs,h=>by
  rw[MV]at h;obtain⟨a,c,rest,rfl,_,h⟩:=h;intro u hu;rw[jQm]at hu;obtain hu|hu:=hu
  ·simp at hu;rcases hu with rfl|rfl|rfl|rfl|rfl|rfl|rfl|rfl|rfl<;>rfl
  ·exact h.one u hu
theorem DV.one:∀{l:List ah} {xs:List Value},DV D W l xs->∀u∈xs,u.oneCell'=true
 |[],xs,h=>by rw[DV]at h;subst h;intro u hu;simp at hu
 |t::l,xs,h=>by
  rw[DV]at h;obtain⟨a,c,ma,mc,rest,rfl,_,_,h⟩:=h;intro u hu;rw[jQm]at hu;obtain hu|hu:=hu
  ·simp at hu;rcases hu with rfl|rfl|rfl|rfl|rfl|rfl|rfl|rfl<;>rfl
  ·exact h.one u hu
theorem MV.append(h':MV D W l' ys):∀{l:List aH} {xs:List Value},MV D W l xs->MV D W (l++l') (xs++ys)
 |[],xs,h=>by rw[MV]at h;subst h;simpa using h'
 |t::l,xs,h=>by
  rw[MV]at h;obtain⟨a,c,rest,rfl,hs,h⟩:=h;rw[jRh,MV];exact⟨a,c,rest++ys,i6,hs,MV.append h' h⟩
theorem DV.append{l':List ah}(h':DV D W l' ys):∀{l:List ah} {xs:List Value},DV D W l xs->DV D W (l++l') (xs++ys)
 |[],xs,h=>by rw[DV]at h;subst h;simpa using h'
 |t::l,xs,h=>by
  rw[DV]at h;obtain⟨a,c,ma,mc,rest,rfl,hs,hm,h⟩:=h;rw[jRh,DV];exact⟨a,c,ma,mc,rest++ys,i6,hs,hm,DV.append h' h⟩
theorem MV.move(hm:au D D' W W'):∀{l:List aH} {xs:List Value},MV D W l xs->MV D' W' l xs
 |[],xs,h=>by rw[MV]at h⊢;exact h
 |t::l,xs,h=>by
  rw[MV]at h⊢;obtain⟨a,c,rest,rfl,hs,h⟩:=h;exact⟨a,c,rest,rfl,hs.move hm,h.move hm⟩
theorem DV.move(hm:au D D' W W'):∀{l:List ah} {xs:List Value},DV D W l xs->DV D' W' l xs
 |[],xs,h=>by rw[DV]at h⊢;exact h
 |t::l,xs,h=>by
  rw[DV]at h⊢;obtain⟨a,c,ma,mc,rest,rfl,hs,jK,h⟩:=h;exact⟨a,c,ma,mc,rest,rfl,hs.move hm,jK.move hm,h.move hm⟩
theorem ZV{o:Nat}(c0:W.cell? ⟨b,o,none⟩=some (.int .i64 t.kind))(c1:W.cell? ⟨b,o+1,none⟩=some (.int .i64 t.n))(c2:W.cell? ⟨b,o+2,none⟩=some (.int .i64 t.m))(c3:W.cell? ⟨b,o+3,none⟩=some (.bool t.va))(c4:W.cell? ⟨b,o+4,none⟩=some (.string t.name))(c5:W.cell? ⟨b,o+5,none⟩=some (.string t.tag))(c6:W.cell? ⟨b,o+6,none⟩=some (.slice a t.elems.length c))(h:RS D W t.elems (.slice a t.elems.length c)):RE D W t b o:=by
 obtain⟨k,n,m,va,nm,tg,es⟩:=t;exact pW.2 ⟨_,c0,c1,c2,c3,c4,c5,c6,h⟩
theorem MV.rmc:∀{l:List aH} {xs:List Value} {o:Nat},MV D W l xs->(∀j u,xs[j]?=some u->W.cell? ⟨b,o+j,none⟩=some u)->RMC D W l b o
 |[],_,_,_,_=>by rw[RMC];trivial
 |t::l,xs,o,h,hc=>by
  rw[MV]at h;obtain⟨a,c,rest,rfl,hs,h⟩:=h;rw[RMC];refine⟨⟨hc 0 _ rfl,hc 1 _ rfl,ZV (hc 2 _ rfl) (hc 3 _ rfl) (hc 4 _ rfl) (hc 5 _ rfl) (hc 6 _ rfl) (hc 7 _ rfl) (hc 8 _ rfl) hs⟩,h.rmc λj u hu=>?_⟩;have:=hc (9+j) u (by rw[jQr i6];simpa using hu);rw[show o+9+j=o+(9+j)by omega];exact this
theorem DV.rdc:∀{l:List ah} {xs:List Value} {o:Nat},DV D W l xs->(∀j u,xs[j]?=some u->W.cell? ⟨b,o+j,none⟩=some u)->RDC D W l b o
 |[],_,_,_,_=>by rw[RDC];trivial
 |t::l,xs,o,h,hc=>by
  rw[DV]at h;obtain⟨a,c,ma,mc,rest,rfl,hs,hm,h⟩:=h;rw[RDC];refine⟨⟨ZV (hc 0 _ rfl) (hc 1 _ rfl) (hc 2 _ rfl) (hc 3 _ rfl) (hc 4 _ rfl) (hc 5 _ rfl) (hc 6 _ rfl) hs,_,hc 7 _ rfl,hm⟩,h.rdc λj u hu=>?_⟩;have:=hc (8+j) u (by rw[jQr i6];simpa using hu);rw[show o+8+j=o+(8+j)by omega];exact this
theorem RDC.dv:∀{l:List ah} {o:Nat},RDC D W l b o->∃xs,DV D W l xs/\(∀j u,xs[j]?=some u->W.cell? ⟨b,o+j,none⟩=some u)
 |[],o,_=>⟨[],by rw[DV],i6⟩
 |t::l,o,h=>by
  rw[RDC]at h;obtain⟨⟨he,ms,jK,hM⟩,h⟩:=h;obtain⟨a,c,c0,c1,c2,c3,c4,c5,c6,hv⟩:=he.bR;obtain⟨a',c',e,hs⟩:=hv.bR;simp at e;obtain⟨rfl,rfl⟩:=e;obtain⟨ma,mc,rfl⟩:=hM.form;obtain⟨xs,hx,hc⟩:=h.dv;refine⟨_++xs,by rw[DV];exact⟨a,c,ma,mc,xs,rfl,hs,hM,hx⟩,λj u hu=>?_⟩;by_cases hj:j<8
  ·rw[jQq (by simpa using hj)]at hu
   match j,hj,hu with
   |0,_,hu=>simp at hu;subst hu;exact c0
   |1,_,hu=>simp at hu;subst hu;exact c1
   |2,_,hu=>simp at hu;subst hu;exact c2
   |3,_,hu=>simp at hu;subst hu;exact c3
   |4,_,hu=>simp at hu;subst hu;exact c4
   |5,_,hu=>simp at hu;subst hu;exact c5
   |6,_,hu=>simp at hu;subst hu;exact c6
   |7,_,hu=>simp at hu;subst hu;exact jK
  ·obtain⟨i,rfl⟩:∃i,j=8+i:=⟨j - 8,m9⟩;rw[jQr i6]at hu;have:=hc i u (by simpa using hu);rw[show o+(8+i)=o+8+i by omega];exact this
def gv(E:Nat->Prop)(base:Nat)(W:World)(l:List ah)(v:Value):Prop:=
 ∃xs,W.ownsRow base 42 8 v l.length xs/\DV E W l xs/\∀b,E b->b<W.heap.size/\some b≠v.ownBlock
theorem gv.nil(h:Lo E W.heap.size):gv E base W [] (.slice none 0 0):=
 ⟨[],jR9 _ _ _ _,by rw[DV],λb hb=>⟨h b hb,by simp[Value.ownBlock]⟩⟩
theorem gv.lt{l:List ah}(h:gv E base W l v):∀g,v.ownBlock=some g->base<=g/\g<W.heap.size:=by
 obtain⟨xs,h,_⟩:=h;exact h.lt
theorem gv.lo{l:List ah}(h:gv E base W l v):Lo E W.heap.size:=M178
theorem gv.av{l:List ah}(h:gv E base W l v):∀b,E b->some b≠v.ownBlock:=M181
theorem gv.cR{l:List ah}(h:gv E base W l v)(hz:W.heap.size<=W'.heap.size)(hv:∀g,v.ownBlock=some g->W'.heap[g]?=W.heap[g]?)(hE:∀b,E b->W'.heap[b]?=W.heap[b]?):gv E base W' l v:=M38
theorem gv.below{l:List ah}(h:gv E base W l v)(hb:Below W.heap.size W W'):gv E base W' l v:=
 h.cR hb.size (λg hg=>hb.block g (h.lt g hg).2) (λb dD=>hb.block b (h.lo b dD))
theorem gv.wide{l:List ah}(h:gv E base W l v)(hE:∀b,E b->F b)(hF:∀b,F b->b<W.heap.size/\some b≠v.ownBlock):gv F base W l v:=M135
theorem gv.form{l:List ah}(h:gv E base W l v):∃a c,v=.slice a l.length c:=M80
theorem gv.rep{l:List ah}(h:gv E base W l v)(hE:∀b,E b->D b)(hD:∀g,v.ownBlock=some g->D g):RD D W l v:=M46
def kD(E:Nat->Prop)(base:Nat)(W:World)(l:List aH)(v:Value):Prop:=
 ∃xs,W.ownsRow base 68 9 v l.length xs/\MV E W l xs/\∀b,E b->b<W.heap.size/\some b≠v.ownBlock
theorem kD.nil(h:Lo E W.heap.size):kD E base W [] (.slice none 0 0):=
 ⟨[],jR9 _ _ _ _,by rw[MV],λb hb=>⟨h b hb,by simp[Value.ownBlock]⟩⟩
theorem kD.lt(h:kD E base W l v):∀g,v.ownBlock=some g->base<=g/\g<W.heap.size:=by
 obtain⟨xs,h,_⟩:=h;exact h.lt
theorem kD.lo(h:kD E base W l v):Lo E W.heap.size:=M178
theorem kD.av(h:kD E base W l v):∀b,E b->some b≠v.ownBlock:=M181
theorem kD.cR(h:kD E base W l v)(hz:W.heap.size<=W'.heap.size)(hv:∀g,v.ownBlock=some g->W'.heap[g]?=W.heap[g]?)(hE:∀b,E b->W'.heap[b]?=W.heap[b]?):kD E base W' l v:=M38
theorem kD.below(h:kD E base W l v)(hb:Below W.heap.size W W'):kD E base W' l v:=
 h.cR hb.size (λg hg=>hb.block g (h.lt g hg).2) (λb dD=>hb.block b (h.lo b dD))
theorem kD.wide(h:kD E base W l v)(hE:∀b,E b->F b)(hF:∀b,F b->b<W.heap.size/\some b≠v.ownBlock):kD F base W l v:=M135
theorem kD.form(h:kD E base W l v):∃a c,v=.slice a l.length c:=M80
theorem kD.rep(h:kD E base W l v)(hE:∀b,E b->D b)(hD:∀g,v.ownBlock=some g->D g):RM D W l v:=by
 obtain⟨xs,h,hv,_⟩:=h;rcases h.2 with⟨rfl,h0⟩|⟨g,cap,cur,rfl,hb,hg,hn,hm,hs,ht⟩
 ·exact M214
 ·by_cases hl:l=[]
  ·subst hl;exact M110
  ·refine .inr ⟨hl,g,0,cap,rfl,hn,by simp only[maxLen]at hm;omega,hD g rfl,(hv.move (au.refl.wide hE)).rmc λj u hu=>?_⟩;exact M36
theorem Ki:(Tryz.prog.info? 42).map (λi=>(i.zero,i.size,i.bytes))=some (some (.agg #[.int .i64 0,.int .i64 0,.int .i64 0,.bool false,.string es,.string es,.slice none 0 0,.slice none 0 0]),8,112):=g9
theorem VK:(Tryz.prog.info? 68).map (λi=>(i.zero,i.size,i.bytes))=some (some (.agg #[.string es,.bool false,.int .i64 0,.int .i64 0,.int .i64 0,.bool false,.string es,.string es,.slice none 0 0]),9,112):=g9
theorem gC{a:Act}{K:Act->World->Prop}(mX:o.guard=none)(s x:Operand)(ho:o.op=.call {callee:=.builtin .append,args:=#[s,x],argTypes:=#[23,23]})(base:Nat)(E:Nat->Prop)(v:Value)(l:List GT)(hs:a.eval s=v)(aL:dc E base w l v)(l':List GT)(ad:Addr)(c:Nat)(ns:List Value)(hx:a.eval x=.slice (some ad) l'.length c)(vY:RV E w l' ns)(hc:∀j u,ns[j]?=some u->w.cell? (ad.add j)=some u)(cF:(l++l').length<=1099511627776)(cS:base<=w.heap.size)(h:∀v' w',dc E base w' (l++l') v'->w.grownBy w' v.ownBlock->(v'.ownBlock=v.ownBlock\/v'.ownBlock=some w.heap.size)->K (a.put o.dst v') w'):
 if Region.wanted o (yielded ops a.tmps)=true then Oper.wp prog o a w K Q else Z:=by
 have hw:Region.wanted o (yielded ops a.tmps)=true:=by simp[Region.wanted,mX]
 rw[jQ7 hw];obtain⟨i0,pn,lA,gj,j7⟩:=info_parts Cu;obtain⟨xs,aL,nr,hE⟩:=aL;rw[jQo]at cF;obtain⟨v',w',hr,h1,h2,_,h4⟩:=run_append_own_at (P:=prog) w base 23 o.type 25 i0 _ 7 88 underlying23 pn lA gj j7 rfl m9 v l.length xs aL ad l'.length c ns vY.length hc vY.one
  (by simp only[maxLen];omega) m9 cS
 unfold Oper.wp execOp;simp only[ho,resolve,invoke,builtin,jRp,Sem.run_pure,jR8,List.map_toArray,List.map_cons,List.map_nil,hs,hx,hr];refine h v' w' ⟨xs++ns,by rw[jQo];exact h1,?_,?_⟩ h2 h4
 ·exact M154
 ·intro b hb;exact M49
theorem qF{a:Act}(mX:o.guard=none)(s x:Operand)(ho:o.op=.call {callee:=.builtin .append,args:=#[s,x],argTypes:=#[22,22]})(base:Nat)(E:Nat->Prop)(v:Value)(l:List ah)(hs:a.eval s=v)(aL:gv E base w l v)(l':List ah)(ad:Addr)(c:Nat)(ns:List Value)(hx:a.eval x=.slice (some ad) l'.length c)(vY:DV E w l' ns)(hc:∀j u,ns[j]?=some u->w.cell? (ad.add j)=some u)(cF:(l++l').length<=1099511627776)(cS:base<=w.heap.size)(h:∀v' w',gv E base w' (l++l') v'->w.grownBy w' v.ownBlock->(v'.ownBlock=v.ownBlock\/v'.ownBlock=some w.heap.size)->wpList prog ops Q rest (a.put o.dst v') w'):wpList prog ops Q (o::rest) a w:=by
 obtain⟨i0,pn,lA,gj,j7⟩:=info_parts Ki;obtain⟨xs,aL,nr,hE⟩:=aL;rw[jQo]at cF;refine wpList_append_own_at w mX s x 22 ho base 42 i0 _ 8 112 underlying22 pn lA gj j7 rfl m9 v l.length xs hs aL ad l'.length c ns hx vY.length hc vY.one
  (by simp only[maxLen];omega) m9 cS λv' w' h1 h2 _ h4=>h v' w' ⟨xs++ns,by rw[jQo];exact h1,?_,?_⟩ h2 h4
 ·have hm:au E E w w':=λb hb=>⟨hb,h2.block b (hE b hb).1 (hE b hb).2⟩;exact DV.append (vY.move hm) (nr.move hm)
 ·intro b hb;exact M49
theorem JH{a:Act}(mX:o.guard=none)(s x:Operand)(ho:o.op=.call {callee:=.builtin .append,args:=#[s,x],argTypes:=#[40,40]})(base:Nat)(E:Nat->Prop)(v:Value)(l:List aH)(hs:a.eval s=v)(aL:kD E base w l v)(l':List aH)(ad:Addr)(c:Nat)(ns:List Value)(hx:a.eval x=.slice (some ad) l'.length c)(vY:MV E w l' ns)(hc:∀j u,ns[j]?=some u->w.cell? (ad.add j)=some u)(cF:(l++l').length<=1099511627776)(cS:base<=w.heap.size)(h:∀v' w',kD E base w' (l++l') v'->w.grownBy w' v.ownBlock->(v'.ownBlock=v.ownBlock\/v'.ownBlock=some w.heap.size)->wpList prog ops Q rest (a.put o.dst v') w'):wpList prog ops Q (o::rest) a w:=by
 obtain⟨i0,pn,lA,gj,j7⟩:=info_parts VK;obtain⟨xs,aL,nr,hE⟩:=aL;rw[jQo]at cF;refine wpList_append_own_at w mX s x 40 ho base 68 i0 _ 9 112 underlying40 pn lA gj j7 rfl m9 v l.length xs hs aL ad l'.length c ns hx vY.length hc vY.one
  (by simp only[maxLen];omega) m9 cS λv' w' h1 h2 _ h4=>h v' w' ⟨xs++ns,by rw[jQo];exact h1,?_,?_⟩ h2 h4
 ·have hm:au E E w w':=λb hb=>⟨hb,h2.block b (hE b hb).1 (hE b hb).2⟩;exact MV.append (vY.move hm) (nr.move hm)
 ·intro b hb;exact M49
def agn(D:Nat->Prop)(W:World)(l:List ah)(e:Ending)(W':World):Prop:=∃v',e=.returned v'/\gv D W.heap.size W' l v'/\Below W.heap.size W W'
set_option maxRecDepth 100000 in
theorem Gx(l:List ah)(sl:Value)(W:World)(D:Nat->Prop)(hs:RD D W l sl)(hD:Lo D W.heap.size)(cF:l.length<=1099511627776):
 Calls prog 263 #[sl] W (agn D W l):=by
 obtain⟨i0,pn,lA,gj,j7⟩:=info_parts Ki;obtain⟨a,c,rfl⟩:=hs.form;have q22:∀(w:World) (a:Option Addr) (n c n' c':Nat),(binOp .eql 22 (.slice a n c) (.slice none n' c')).run prog w=.ok (.bool a.isNone) w:=λw a n c n' c'=>Lib.run_eql_slice_nil w _ _ a n c n' c' underlying22;by_cases hn:a=none
 ·subst hn;rcases hs with⟨rfl,a1,c1,e,h1⟩|⟨bk,b,o',c',e,_⟩
  ·clear pn lA gj j7;go_enter func263,ntmps263;go_wp2_with fail;go_ret;exact⟨_,rfl,gv.nil hD,jQ5 _ _⟩
  ·simp at e
 ·obtain⟨ad,rfl⟩:=Option.ne_none_iff_exists'.1 hn;have aL:gv D W.heap.size (W.alloc (.cells #[] 42)) [] (.slice (some ⟨W.heap.size,0,none⟩) 0 0):=
   ⟨[],World.ownsRow_made W #[] 0 (jQ0 _) (jQc _) rfl,by rw[DV],λb hb=>⟨by have:=hD b hb;simp;omega,by intro e;have:=hD b hb;simp[Value.ownBlock]at e;omega⟩⟩
  have HO:=Z aL;have HN:∃ns,DV D (W.alloc (.cells #[] 42)) l ns/\(∀j u,ns[j]?=some u->(W.alloc (.cells #[] 42)).cell? (ad.add j)=some u):=by
   rcases hs.move (hD.aJ (an W (.cells #[] 42))) (an W (.cells #[] 42)).size (an W (.cells #[] 42)).block with⟨rfl,a1,c1,e,h1⟩|⟨bk,b,o',c',e,hl,hc,kN,hC⟩
   ·exact⟨[],by rw[DV],by intro j u hu;simp at hu⟩
   ·simp at e;obtain⟨rfl,rfl⟩:=e;obtain⟨ns,h1,h2⟩:=hC.dv;refine⟨ns,h1,λj u hu=>?_⟩;by_cases hj:j=0
    ·subst hj;simpa[Addr.add]using h2 0 u hu
    ·simpa[Addr.add,hj]using h2 j u hu
  obtain⟨ns,vY,KX⟩:=HN;have Q6:=Z vY;have Xo:=Z KX;clear hs aL vY KX pn lA gj j7;go_enter func263,ntmps263;go_wp2_with (at_builtin;refine qF rfl _ _ rfl W.heap.size D _ [] rfl HO.1 l ad _ ns rfl Q6.1 Xo.1 (by simpa using cF) i6 ?_);intro v2 w2 h2 Dp I8;have B2:=Z ((an W (.cells #[] 42)).grown Dp i6 (λk hk=>(HO.1.lt k hk).1));exact M202
theorem dc.av{l:List GT}(h:dc E base W l v):∀b,E b->some b≠v.ownBlock:=M181
theorem dc.cR{l:List GT}(h:dc E base W l v)(hz:W.heap.size<=W'.heap.size)(hv:∀g,v.ownBlock=some g->W'.heap[g]?=W.heap[g]?)(hE:∀b,E b->W'.heap[b]?=W.heap[b]?):dc E base W' l v:=M38
theorem afe{n:Nat}{t:TypeId}{cur:Array Value}(hg:w.heap[B]?=some (.cells cur t (0,0)))(v0 v1 v2 v3 v4 v5 v6:Value):
 kT B (((((((cur.setIfInBounds n v0).setIfInBounds (n+1) v1).setIfInBounds (n+2) v2).setIfInBounds (n+3) v3).setIfInBounds (n+4) v4).setIfInBounds (n+5) v5).setIfInBounds (n+6) v6) t w
  (((((((w.setCell ⟨B,n,none⟩ v0).setCell ⟨B,n+1,none⟩ v1).setCell ⟨B,n+2,none⟩ v2).setCell ⟨B,n+3,none⟩ v3).setCell ⟨B,n+4,none⟩ v4).setCell ⟨B,n+5,none⟩ v5).setCell ⟨B,n+6,none⟩ v6):=by
 have h0:=aw hg n v0;generalize cur.setIfInBounds n v0=c0 at h0⊢;generalize w.setCell ⟨B,n,none⟩ v0=w0 at h0⊢;have h1:=aw h0.here (n+1) v1;generalize c0.setIfInBounds (n+1) v1=c1 at h1⊢;generalize w0.setCell ⟨B,n+1,none⟩ v1=w1 at h1⊢;have h2:=aw h1.here (n+2) v2;generalize c1.setIfInBounds (n+2) v2=c2 at h2⊢;generalize w1.setCell ⟨B,n+2,none⟩ v2=w2 at h2⊢;have h3:=aw h2.here (n+3) v3;generalize c2.setIfInBounds (n+3) v3=c3 at h3⊢;generalize w2.setCell ⟨B,n+3,none⟩ v3=w3 at h3⊢;have h4:=aw h3.here (n+4) v4;generalize c3.setIfInBounds (n+4) v4=c4 at h4⊢;generalize w3.setCell ⟨B,n+4,none⟩ v4=w4 at h4⊢;have h5:=aw h4.here (n+5) v5;generalize c4.setIfInBounds (n+5) v5=c5 at h5⊢;generalize w4.setCell ⟨B,n+5,none⟩ v5=w5 at h5⊢;have h6:=aw h5.here (n+6) v6;exact(((((h0.trans h1).trans h2).trans h3).trans h4).trans h5).trans h6
theorem Qa(cur:Array Value)(n:Nat)(xs:List Value)(o0 o1 o2 o3 o4 o5 o6 v0 v1 v2 v3 v4 v5 v6:Value)(hn:xs.length=n)(h:cur.toList.take (n+7)=xs++[o0,o1,o2,o3,o4,o5,o6]):
 ((((((((cur.setIfInBounds n v0).setIfInBounds (n+1) v1).setIfInBounds (n+2) v2).setIfInBounds (n+3) v3).setIfInBounds (n+4) v4).setIfInBounds (n+5) v5).setIfInBounds (n+6) v6)).toList.take (n+7)=xs++[v0,v1,v2,v3,v4,v5,v6]:=by
 subst hn;have hl:xs.length+7<=cur.size:=by
  have:=congrArg List.length h;simp at this;omega
 apply List.ext_getElem?;intro j;by_cases hj:j<xs.length+7
 ·rw[List.getElem?_take_of_lt hj,jRr];by_cases hx:j<xs.length
  ·rw[jQq hx];have h1:cur[j]?=xs[j]?:=by
    have:=congrArg (λl=>l[j]?) h;simp only[List.getElem?_take_of_lt hj,jQq hx,jRr]at this;exact this
   simp only[Array.getElem?_setIfInBounds,Array.size_setIfInBounds];rw[jQ4 m9,jQ4 m9,jQ4 m9,jQ4 m9,jQ4 m9,jQ4 m9,jQ4 m9];exact h1
  ·obtain⟨i,rfl⟩:∃i,j=xs.length+i:=⟨j - xs.length,m9⟩;rw[jQr m9];have hi:i<7:=m9
   simp only[Array.getElem?_setIfInBounds,Array.size_setIfInBounds,Nat.add_sub_cancel_left]
   match i,hi with
   |0,_=>simp;omega
   |1,_=>simp;omega
   |2,_=>simp;omega
   |3,_=>simp;omega
   |4,_=>simp;omega
   |5,_=>simp;omega
   |6,_=>simp;omega
 ·rw[List.getElem?_take_eq_none m9,jQx (by simp;omega)]
theorem RV.snoc:∀{l:List GT} {t:GT} {xs:List Value},RV D W (l++[t]) xs->
 ∃ys a c,xs=ys++[.int .i64 t.kind,.int .i64 t.n,.int .i64 t.m,.bool t.va,.string t.name,.string t.tag,.slice a t.elems.length c]/\RV D W l ys
 |[],t,xs,h=>by
  rw[List.nil_append,RV]at h;obtain⟨a,c,rest,rfl,_,h⟩:=h;rw[RV]at h;subst h;exact⟨[],a,c,i6,by rw[RV]⟩
 |x::l,t,xs,h=>by
  rw[jRh,RV]at h;obtain⟨a,c,rest,rfl,hs,h⟩:=h;obtain⟨ys,a',c',rfl,h'⟩:=RV.snoc h;clear h;have h:=h';exact⟨[.int .i64 x.kind,.int .i64 x.n,.int .i64 x.m,.bool x.va,.string x.name,.string x.tag,.slice a x.elems.length c]++ys,a',c',i6,by rw[RV];exact⟨a,c,ys,rfl,hs,h⟩⟩
theorem dc.zB{l:List GT}(h:dc E base w (l++[t]) (.slice (some ⟨g,0,none⟩) (l.length+1) cap))(hs:RS E w t'.elems (.slice a t'.elems.length c))(hw:w'=(((((((w.setCell ⟨g,l.length*7,none⟩ (.int .i64 t'.kind)).setCell ⟨g,l.length*7+1,none⟩ (.int .i64 t'.n)).setCell ⟨g,l.length*7+2,none⟩ (.int .i64 t'.m)).setCell ⟨g,l.length*7+3,none⟩ (.bool t'.va)).setCell ⟨g,l.length*7+4,none⟩ (.string t'.name)).setCell ⟨g,l.length*7+5,none⟩ (.string t'.tag)).setCell ⟨g,l.length*7+6,none⟩ (.slice a t'.elems.length c))):
 dc E base w' (l++[t']) (.slice (some ⟨g,0,none⟩) (l.length+1) cap)/\(∀b,b≠g->w'.heap[b]?=w.heap[b]?)/\w'.heap.size=w.heap.size/\w'.os=w.os/\w'.tape=w.tape/\w'.output=w.output:=by
 obtain⟨xs,aL,nr,hE⟩:=h;obtain⟨ys,a',c',rfl,hys⟩:=nr.snoc;rcases aL.2 with⟨e,_⟩|⟨g',cap',cur,e,hb,hg,hn,hm,j8,ht⟩
 ·cases e
 simp at e;obtain⟨rfl,rfl⟩:=e;have hp:=afe (n:=l.length*7) hg (.int .i64 t'.kind) (.int .i64 t'.n) (.int .i64 t'.m) (.bool t'.va) (.string t'.name) (.string t'.tag) (.slice a t'.elems.length c);rw[<-hw]at hp;have j9:au E E w w':=λb hb=>⟨hb,hp.other b (λe=>(hE b hb).2 (by rw[e];rfl))⟩;have hl7:(l++[t]).length*7=l.length*7+7:=by simp;omega
 rw[hl7]at ht;refine⟨⟨ys++[.int .i64 t'.kind,.int .i64 t'.n,.int .i64 t'.m,.bool t'.va,.string t'.name,.string t'.tag,.slice a t'.elems.length c],⟨?_,.inr ⟨g,cap,_,i6,hb,hp.here,by simpa using hn,hm,by simpa using j8,?_⟩⟩,?_,?_⟩,hp.other,hp.size,hp.os,hp.tape,hp.output⟩
 ·have:=hys.length;simp;omega
 ·rw[show(l++[t']).length*7=l.length*7+7 by simp;omega];exact Qa cur _ ys _ _ _ _ _ _ _ _ _ _ _ _ _ _ hys.length ht
 ·exact RV.append (RV.single (hs.move j9)) (hys.move j9)
 ·intro b dD;exact⟨by rw[hp.size];exact(hE b dD).1,(hE b dD).2⟩
theorem dc.last{l:List GT}(h:dc E base w (l++[t]) v):
 ∃g cap a c cur,v=.slice (some ⟨g,0,none⟩) (l.length+1) cap/\base<=g/\w.heap[g]?=some (.cells cur 25 (0,0))/\
  w.cell? ⟨g,l.length*7,none⟩=some (.int .i64 t.kind)/\w.cell? ⟨g,l.length*7+1,none⟩=some (.int .i64 t.n)/\w.cell? ⟨g,l.length*7+2,none⟩=some (.int .i64 t.m)/\w.cell? ⟨g,l.length*7+3,none⟩=some (.bool t.va)/\
  w.cell? ⟨g,l.length*7+4,none⟩=some (.string t.name)/\w.cell? ⟨g,l.length*7+5,none⟩=some (.string t.tag)/\w.cell? ⟨g,l.length*7+6,none⟩=some (.slice a t.elems.length c):=by
 obtain⟨xs,aL,nr,hE⟩:=h;obtain⟨ys,a',c',rfl,hys⟩:=nr.snoc;rcases aL.2 with⟨e,h0⟩|⟨g,cap,cur,rfl,hb,hg,hn,hm,j8,ht⟩
 ·simp at h0
 have hc:∀j u,(ys++[.int .i64 t.kind,.int .i64 t.n,.int .i64 t.m,.bool t.va,.string t.name,.string t.tag,.slice a' t.elems.length c'])[j]?=some u->w.cell? ⟨g,j,none⟩=some u:=λj u hu=>by
  have:=aL.cells (g:=g) rfl j u hu;by_cases hj:j=0
  ·subst hj;simpa[Addr.add]using this
  ·simpa[Addr.add,hj]using this
 have hl:=hys.length;refine⟨g,cap,a',c',cur,i6,hb,hg,?_,?_,?_,?_,?_,?_,?_⟩
 ·exact M88
 ·exact M88
 ·exact M88
 ·exact M88
 ·exact M88
 ·exact M88
 ·exact M88
end Go.Proofs.YtabjfnkfocnklaaGreatDoor
