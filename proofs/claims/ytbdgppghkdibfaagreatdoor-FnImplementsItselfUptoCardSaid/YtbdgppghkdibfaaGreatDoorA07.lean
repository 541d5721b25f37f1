import Derived.Laws.Cover1
import Derived.Test.YtbdgppghkdibfaaGreatDoorA06
set_option linter.all false
set_option maxHeartbeats 16000000
set_option maxRecDepth 20000
namespace Go.Proofs.YtbdgppghkdibfaaGreatDoor
open Go Go.RowKit Go.Lib S Tryz
variable{e m t:Y}{n pd:Int}{ys:List Value}{l l':List aH}{w:List ah}{b base c i k kk o:Nat}{D D' E F:Qx}{GT:Prop}{α β σ:Type}{v:Value}{W W':World}
def M101(h:GT:=by
 rcases ie with⟨b,I,U⟩|⟨I,U⟩
 .refine⟨_,I,.inl ⟨?_,trivial⟩⟩;obtain h|⟨h,_⟩:=IJ.1
  .rw[<-U];exact h
  .rw[U]at h;cases h
 .exact⟨_,I,.inr ⟨rfl,U⟩⟩):GT:=h
def M102(h:GT:=by
 go_wp2;go_ret;exact⟨rfl,HC.1.trans ((jRb (BW.out.trans ((an wr _).mono dZ)) _).mono HC.1.size)⟩):GT:=h
def M112(h:GT:=by
 rcases aN.1 Wt.1 with⟨he,_⟩|⟨_,b2,o2,c2,dN,fh,fL,du,gX⟩
 .rw[he];simp
 .omega):GT:=h
def M119(h:GT:=by
 exact⟨jQb (eK.1.lo b hb) B6.1.size,by obtain⟨_,_,_,h⟩:=eK.1;exact(h b hb).2⟩):GT:=h
def M137(h:GT:=by
 clear j H hv hs hn;go_in;go_wp2_with (go_at_call 44;refine(aQ _ _ _).mono ?_;rintro e w1 ⟨rfl,rfl⟩);go_ret;exact⟨rfl,HA.1⟩):GT:=h
def M144(h:GT:=by
 have aM:kk<l.length:=by
  by_cases h':kk<l.length
  .exact h'
  .rw[jQx M]at h;cases h
 rw[jQv aM];simp[jQp aM]at h;rw[h]):GT:=h
def M167(h:GT:=by
 go_wp21;go_quiet (first|(go_at_call 38;refine Calls.quiet_of_same (fO _ _ ZA)));exact M102):GT:=h
def M178(h:GT:=by
 obtain h|⟨_,h⟩:=IJ.1
 .cases h
 .exact h):GT:=h
def M179(h:GT:=by
 obtain⟨xs,_,_,h⟩:=h;exact λb hb=>(h b hb).2):GT:=h
def M206(h:GT:=by
 have:l=[]:=jQe h0;subst this;exact .inl ⟨rfl,none,0,rfl,λ_=>rfl⟩):GT:=h
def M37(h:GT:=by
 obtain⟨xs,I,U,h3⟩:=h;refine⟨xs,⟨I.1,?_⟩,U.move (λb hb=>⟨hb,hE b hb⟩),λb dD=>⟨jQb (h3 b dD).1 hz,(h3 b dD).2⟩⟩;obtain h0|⟨g,cap,cur,rfl,g1,g2,g3⟩:=I.2
 .exact .inl h0
 .exact .inr ⟨g,cap,cur,rfl,g1,(hv g rfl).trans g2,g3⟩):GT:=h
def M49(h:GT:=by
 obtain⟨xs,h,hv,_⟩:=h;rcases h.2 with⟨rfl,h0⟩|⟨g,cap,cur,rfl,hb,hg,hn,hm,hs,ht⟩
 .exact M206
 .by_cases hl:l=[]
  .subst hl;exact M113
  .refine .inr ⟨hl,g,0,cap,rfl,hn,by simp only[maxLen]at hm;omega,jQ2 hg,(hv.move (au.refl.wide hE)).rdc λhp u hu=>?_⟩;exact M34):GT:=h
def M71(h:GT:=by
 have qk:l0=r:=by
  rw[jQf M]at lN;simpa[foldM]using lN
 subst qk;have eK:=Z aL;have KA:=Z N1;clear aL TR N1 lN;go_wp2;go_ret;exact⟨_,rfl,PV.1.trans (BW.out.mono Ro),eK.1.rs KA.1 (λb hb dD=>.inr ⟨jQd Ro hb,dD⟩),λ_=>⟨E,eK.1.base Ro,KA.1⟩⟩):GT:=h
def M77(h:GT:=by
 have dF:=kp.1;have WR:x=some false:=by simpa using HXB.1
 subst WR;have hr:r=false:=by rcases dF with⟨h,_⟩|⟨h,_⟩<;>simp at h;exact h
 subst hr;clear dF;go_wp2;go_ret;exact⟨rfl,HC.1.trans ((fw.1.trans (xL.1.mono fw.1.size)).mono HC.1.size)⟩):GT:=h
def M88(h:GT:=by
 go_wp21;go_roundg (ls.length - (kk+1))
 case measure=>omega
 case rel=>exact⟨kk+1,M,M,by go_num,BW.out.alloc dZ _,l0,E,eK.1.below (an wr _),TU.1,λb hb=>Up.mono (jQ0 _) i6 b (KA.1 b hb),Jw.1⟩):GT:=h
def Kh(b o n c hp:Nat)(w)(hj:hp<n):(Instr.indexAt 23 (.slice (some ⟨b,o,none⟩) n c) (.int .i64 (hp:Int))).run prog w=.ok (.pointer (some ⟨b,o+hp*7,none⟩)) w:=by
 have I:(hp:Int)<(n:Int):=M
 have U:¬(hp:Int)<0:=M
 go_simp
def wrap64(h0:0<=n)(I:n<=9223372036854775807):IntKind.i64.wrap n=n:=by
 simp[IntKind.wrap,IntKind.signed,IntKind.bits];omega
def kW{f:Nat->α->Option (Option β)}{l:List α}{a:α}{rr:Option β}(hd:l.drop kk=a::l.drop (kk+1))(h:rangeM f kk (l.drop kk)=some rr):
 (∃b,f kk a=some (some b)/\rr=some b)\/(f kk a=some none/\rangeM f (kk+1) (l.drop (kk+1))=some rr):=by
 rw[hd,rangeM]at h;obtain⟨r,hr,h⟩:=jQ1.1 h;cases r with
 |some b=>exact .inl ⟨b,hr,G9 h.symm⟩
 |none=>exact .inr ⟨hr,G9 h⟩
def drop_at{l:List α}{a:α}(h:l[kk]?=some a):l.drop kk=a::l.drop (kk+1):=M144
def ifF(w:List ah)(k:Nat)(t:Y)(p:S.Place)(i:Nat)(m:Y):Option (Option Bool):=
 if m.ld≠7 then some (some false)else if !isName m.name then some (some false)
 else if i>0/\!(bB (t.li.getD (i - 1) default) m)then some (some false)
 else(placed w k m p).map λb=>if b then none else some false
def QO{p:S.Place}{x:Option Bool}(h:ifF w k t p i m=some x):
 (¬m.ld=7/\x=some false)\/(m.ld=7/\isName m.name=false/\x=some false)\/(m.ld=7/\isName m.name=true/\0<i/\bB (t.li.getD (i - 1) default) m=false/\x=some false)\/
 (m.ld=7/\isName m.name=true/\(0<i->bB (t.li.getD (i - 1) default) m=true)/\∃b,placed w k m p=some b/\x=if b then none else some false):=by
 unfold ifF at h;by_cases h7:m.ld=7
 .rw[jQ4 (G9 h7)]at h;cases hn:isName m.name with
  |false=>rw[hn]at h;exact .inr (.inl ⟨h7,rfl,G9 h.symm⟩)
  |true=>
   rw[hn]at h;simp only[jRt,jQk,jR1]at h;by_cases hc:i>0/\(!(bB (t.li.getD (i - 1) default) m))=true
   .rw[jQ7 hc]at h;exact .inr (.inr (.inl ⟨h7,rfl,hc.1,G9 hc.2,G9 h.symm⟩))
   .rw[jQ4 hc]at h;obtain⟨b,I,U⟩:=jQ6.1 h;refine .inr (.inr (.inr ⟨h7,rfl,λh0=>?_,b,I,U.symm⟩));cases hl:bB (t.li.getD (i - 1) default) m with
    |true=>rfl
    |false=>exact absurd ⟨h0,by rw[hl];rfl⟩ hc
 .rw[jQ7 (G9 h7)]at h;exact .inl ⟨h7,G9 h.symm⟩
def VE{Gv pt r:Bool}(h:placedInterface w (k+1) t ⟨pd,Gv,pt⟩=some r):
 (within t.m ((t.li.length:Int)+1)=false/\r=false)\/(within t.m ((t.li.length:Int)+1)=true/\(t.li.length:Int) - t.m>4/\r=false)\/
 (within t.m ((t.li.length:Int)+1)=true/\¬(t.li.length:Int) - t.m>4/\∃rr,rangeM (ifF w k t ⟨pd,false,pt⟩) 0 (t.li.take t.m.toNat)=some rr/\
  ((rr=some r)\/(rr=none/\bh (anyM (λe=>bh (dz w k e ⟨pd,true,true⟩)) (t.li.drop t.m.toNat))=some r))):=by
 rw[placedInterface]at h;simp only at h;by_cases hw:within t.m ((t.li.length:Int)+1)=true
 .rw[jQ4 (by simp[hw])]at h;by_cases h4:(t.li.length:Int) - t.m>4
  .rw[jQ7 h4]at h;exact .inr (.inl ⟨hw,h4,G9 h.symm⟩)
  .rw[jQ4 h4]at h;obtain⟨rr,I,U⟩:=jQ1.1 h;refine .inr (.inr ⟨hw,h4,rr,I,?_⟩);cases rr with
   |some b=>exact .inl (G9 U)
   |none=>exact .inr ⟨rfl,U⟩
 .rw[jQ7 (G9 hw)]at h;exact .inl ⟨G9 hw,G9 h.symm⟩
set_option maxRecDepth 100000 in
theorem VC(k:Nat)(ih:xS k)(ihE:Gm k):Gl (k+1):=by
 intro w ws t p r v W D j hn H hv;obtain⟨pd,Gv,pt⟩:=p;obtain⟨a,c,rfl,hs⟩:=hv.bR;obtain⟨wa,wc,rfl⟩:=H.rd.form;have HA:=Z (pE W (.cells #[.slice wa w.length wc] 22) (bx t a c) (.cells #[.int .i64 pd,.bool Gv,.bool pt] 49));have hz:t.li.length<9223372036854775807:=hn.len;have gj:(t.li.length:Int)+1<=9223372036854775807:=M
 rcases VE j with⟨hw,rfl⟩|⟨hw,h4,rfl⟩|⟨hw,h4,rr,Ay,II⟩
 .exact M137
 .have hm:=S.within_iff.1 hw;have h4:(4:Int)<(t.li.length:Int) - t.m:=h4;have cz:(-9223372036854775808:Int)<=(t.li.length:Int) - t.m/\(t.li.length:Int) - t.m<=9223372036854775807:=M
  exact M137
 .have hm:=S.within_iff.1 hw;have h4:((4:Int)<(t.li.length:Int) - t.m)=False:=G9 h4
  have cz:(-9223372036854775808:Int)<=(t.li.length:Int) - t.m/\(t.li.length:Int) - t.m<=9223372036854775807:=M
  have HC:=Z (pE W (.cells #[.slice wa w.length wc] 22) (bx t a c) (.cells #[.int .i64 pd,.bool false,.bool pt] 49));have HE:=Z (show∀e∈t.li,NB e from λe he=>hn.elem he);obtain⟨pT,EM⟩:=RS.upto (m:=t.m) (l':=t.li.take t.m.toNat) (hs.mv H.lo HC.1) (by unfold mq;rw[jQ7 ⟨hm.1,M⟩]);obtain⟨Me,HX0,HS,HR,Hq,IJ,HM⟩:=Z7 (H.mv HC.1) H (hs.mv H.lo HC.1) EM Ay II hm;have cw:=jQh (aq (o:=.cells #[.int .i64 pd,.bool false,.bool pt] 49) (aq (o:=bx t a c) (ak W (.cells #[.slice wa w.length wc] 22))));obtain⟨c0,c1,c2,c3,c4,c5,c6⟩:=ao (aq (o:=.cells #[.int .i64 pd,.bool false,.bool pt] 49) (ak (W.alloc (.cells #[.slice wa w.length wc] 22)) (bx t a c)));have HD:=Z (ak ((W.alloc (.cells #[.slice wa w.length wc] 22)).alloc (bx t a c)) (.cells #[.int .i64 pd,.bool false,.bool pt] 49));obtain⟨d0,d1,d2⟩:=nQ HD.1;simp only[jQ3]at c0 c1 c2 c3 c4 c5 c6 d0 d1 d2 HD;have zI:W.heap.size<(((W.alloc (.cells #[.slice wa w.length wc] 22)).alloc (bx t a c)).alloc (.cells #[.int .i64 pd,.bool false,.bool pt] 49)).heap.size:=by simp;try omega
  have iT:W.heap.size+1<(((W.alloc (.cells #[.slice wa w.length wc] 22)).alloc (bx t a c)).alloc (.cells #[.int .i64 pd,.bool false,.bool pt] 49)).heap.size:=by simp;try omega
  have mU:W.heap.size+1+1<(((W.alloc (.cells #[.slice wa w.length wc] 22)).alloc (bx t a c)).alloc (.cells #[.int .i64 pd,.bool false,.bool pt] 49)).heap.size:=i6
  have RU:=Z H.lo;have hmz:(t.li.take t.m.toNat).length<=9223372036854775807:=by simp;omega
  generalize hML:(t.li.take t.m.toNat)=ms at pT HR Hq hmz;have zq:=Z hML;clear j H hv hs hn EM Ay II hm hML;go_in;go_wp2_with (go_at_call 44;refine(aQ _ _ _).mono ?_;rintro e w1 ⟨rfl,rfl⟩);generalize Hr:((W.alloc (.cells #[.slice wa w.length wc] 22)).alloc (bx t a c)).alloc (.cells #[.int .i64 pd,.bool false,.bool pt] 49)=wn at HC Me HS HR HD cw c0 c1 c2 c3 c4 c5 c6 d0 d1 d2 zI iT mU
  try rw[Hr]
  clear cz h4 hw
  go_loopg [7,8,33] ms.length (λgg _ _ s33 wr=>∃kk:Nat,kk<=ms.length/\ms.length - kk<=gg/\s33=.int .i64 kk/\Aside (S5 wn wr)/\Aside (rangeM (ifF w k t ⟨pd,false,pt⟩) kk (ms.drop kk)=some rr))
  case atStart=>exact⟨0,jQc _,M,rfl,jQ5 _ _,by rw[jR0];exact Hq.1⟩
  case round=>
   obtain⟨kk,ez,hg,rfl,BW,A⟩:=hrel;by_cases aM:kk<ms.length
   .have aR:(kk:Int)<(ms.length:Int):=M
    obtain⟨m,uD⟩:∃m,ms[kk]?=some m:=⟨ms[kk],by simp[aM]⟩;have bL:=drop_at uD;have ie:=kW bL A.out;have lT:t.li[kk]?=some m:=by rw[<-zq.1,List.getElem?_take]at uD;split at uD;exact uD;cases uD
    have yV:kk<t.li.length:=by
     by_cases h:kk<t.li.length
     .exact h
     .rw[jQx M]at lT;cases lT
    rcases aN.1 HS.1 with⟨he,_⟩|⟨_,b2,o2,xv,dN,fh,fL,du,gX⟩
    .rw[he]at yV;simp at yV
    simp at dN;obtain⟨rfl,rfl⟩:=dN;have hE:=(gX.at lT).move (Me.1.lo.aJ BW.out) du;obtain⟨sa,sc,f0,f1,f2,f3,f4,f5,f6,iL⟩:=hE.bR;have dZ:=BW.out.size;have zl:m∈t.li:=jQ8 lT;have ZA:=(HE.1 m zl).name;have agd:W.heap.size<wr.heap.size:=M
    have Ma:W.heap.size+1<wr.heap.size:=M
    have QR:W.heap.size+1+1<wr.heap.size:=M
    have gw:=(BW.out.cell (p:=⟨W.heap.size,0,none⟩) zI).trans cw;have g6:=(BW.out.cell (p:=⟨W.heap.size+1,6,none⟩) iT).trans c6;have g0:=(BW.out.cell (p:=⟨W.heap.size+1+1,0,none⟩) mU).trans d0;have g1:=(BW.out.cell (p:=⟨W.heap.size+1+1,1,none⟩) mU).trans d1;have g2:=(BW.out.cell (p:=⟨W.heap.size+1+1,2,none⟩) mU).trans d2;have air:b2<wr.heap.size:=by have:=Me.1.lo _ du;omega
    have Nl:∀hp,kk=hp+1->∃q,t.li.getD (kk - 1) default=q/\ce wr b2 (o2+hp*7+4) (.string q.name)/\hp<t.li.length:=λhp hj=>by
     have LZ:hp<t.li.length:=M
     obtain⟨q,hq⟩:∃q,t.li[hp]?=some q:=⟨t.li[hp],by simp[LZ]⟩;refine⟨q,by rw[show kk - 1=hp by omega,List.getD_eq_getElem?_getD,hq];rfl,?_,LZ⟩;have:=(gX.at hq).move (Me.1.lo.aJ BW.out) du;obtain⟨_,_,_,_,_,_,f,_⟩:=this.bR;exact f
    obtain⟨aaY,Km,aiK⟩:=Z3 Nl iL ie;have dt:∃x,ifF w k t ⟨pd,false,pt⟩ kk m=some x/\((x=some r/\True)\/(x=none/\rangeM (ifF w k t ⟨pd,false,pt⟩) (kk+1) (ms.drop (kk+1))=some rr)):=M101
    obtain⟨x,Lj,dF⟩:=dt;clear hE gX iL bL uD lT Nl ie A;rcases QO Lj with⟨h7,rfl⟩|⟨h7,dU,rfl⟩|⟨h7,dU,Vc,MI,rfl⟩|⟨h7,dU,MI,b,Nk,WR⟩
    .have hr:r=false:=by rcases dF with⟨h,_⟩|⟨h,_⟩<;>simp at h;exact h
     subst hr;have k7:(m.ld !=7)=true:=by simp[h7]
     clear h7 dF Lj;go_wp21;go_quiet (fail);exact M102
    .have hr:r=false:=by rcases dF with⟨h,_⟩|⟨h,_⟩<;>simp at h;exact h
     subst hr;have k7:(m.ld !=7)=false:=by simp[h7]
     clear h7 dF Lj;exact M167
    .have hr:r=false:=by rcases dF with⟨h,_⟩|⟨h,_⟩<;>simp at h;exact h
     subst hr;have k7:(m.ld !=7)=false:=by simp[h7]
     obtain⟨hp,hj⟩:∃hp,kk=hp+1:=⟨kk - 1,M⟩;obtain⟨q,F4,hqc,LZ⟩:=aaY.1 hp hj;rw[F4]at MI;have j6:Go.Op.bytesLess q.name.toList m.name.toList=false:=MI;have hkj:(kk:Int) - 1=(hp:Int):=M
     have aim:(0:Int)<(kk:Int):=M
     clear h7 dF Lj MI F4 hj;exact M167
    .have k7:(m.ld !=7)=false:=by simp[h7]
     obtain⟨HPB,HXB,kp⟩:=Z3 Nk WR dF;clear h7 Lj Nk WR dF;by_cases Vc:kk=0
     .subst Vc;have age:¬ms.length=0:=M
      have agf:¬t.li.length=0:=M
      have hmsn:ms≠[]:=λe=>by rw[e]at age;simp at age
      have heln:t.li≠[]:=λe=>by rw[e]at agf;simp at agf
      simp only[Nat.zero_mul,Nat.add_zero]at f0 f1 f2 f3 f4 f5 f6;clear MI;go_wp21;have B1:=Z (an wr (bx m sa sc));have kw:=(B1.1.cell (p:=⟨W.heap.size,0,none⟩) agd).trans gw;have k6:=(B1.1.cell (p:=⟨W.heap.size+1,6,none⟩) Ma).trans g6;have k0:=(B1.1.cell (p:=⟨W.heap.size+1+1,0,none⟩) QR).trans g0;have k1:=(B1.1.cell (p:=⟨W.heap.size+1+1,1,none⟩) QR).trans g1;have k2:=(B1.1.cell (p:=⟨W.heap.size+1+1,2,none⟩) QR).trans g2;obtain⟨e0,e1,e2,e3,e4,e5,e6⟩:=ao (ak wr (bx m sa sc));have qo:wr.heap.size<(wr.alloc (bx m sa sc)).heap.size:=i6
      have fV:W.heap.size<(wr.alloc (bx m sa sc)).heap.size:=by simp;omega
      have dQ:W.heap.size+1<(wr.alloc (bx m sa sc)).heap.size:=by simp;omega
      have fh:W.heap.size+1+1<(wr.alloc (bx m sa sc)).heap.size:=by simp;omega
      have D7:b2<(wr.alloc (bx m sa sc)).heap.size:=by simp;omega
      have fw:=Z ((BW.out.trans (B1.1.mono dZ)));have ag:=Z<|λ(O:World) (hb:S5 (wr.alloc (bx m sa sc)) O)=>ih w _ m ⟨pd,false,pt⟩ b _ O D HPB.1 (HE.1 m zl) ((Me.1.mv fw.1).mv hb) ((Km.1.mv (Me.1.lo.mono dZ) B1.1).mv (Me.1.mv fw.1).lo hb);generalize sj:wr.alloc (bx m sa sc)=w2 at B1 fw ag kw k6 k0 k1 k2 e0 e1 e2 e3 e4 e5 e6 qo fV dQ fh D7;have hS:=Z (show∀O,S5 w2 O->S5 w2 O/\ce O W.heap.size 0 (.slice wa w.length wc)/\ce O (W.heap.size+1) 6 (.slice (some ⟨b2,o2,none⟩) t.li.length c)/\ce O (W.heap.size+1+1) 0 (.int .i64 pd)/\ce O (W.heap.size+1+1) 1 (.bool false)/\ce O (W.heap.size+1+1) 2 (.bool pt)/\V8 O wr.heap.size m sa sc from λO hb=>⟨hb,(hb.cell (p:=⟨W.heap.size,0,none⟩) fV).trans kw,(hb.cell (p:=⟨W.heap.size+1,6,none⟩) dQ).trans k6,(hb.cell (p:=⟨W.heap.size+1+1,0,none⟩) fh).trans k0,(hb.cell (p:=⟨W.heap.size+1+1,1,none⟩) fh).trans k1,(hb.cell (p:=⟨W.heap.size+1+1,2,none⟩) fh).trans k2,S9 hb qo e0 e1 e2 e3 e4 e5 e6⟩)
      try rw[sj]
      refine t8 hS (jQ5 _ _).drew λai=>?_;refine t4 0 1 2 3 ?_;refine t2 4 5 ?_;refine rd 6 rfl λK hK=>?_;go_simp;refine(fO m.name _ ZA).mono ?_;rintro eN wN ⟨rfl,rfl⟩;simp only[dU];have hh:=ai;clear ai;refine hK.out _ _ hh (λai=>?_);clear hh;clear hK K;refine t4 7 8 9 10 ?_;refine t2 11 12 ?_;refine bg 13 ?_;refine bg 14 ?_;refine bg 15 ?_;refine bg 16 ?_;refine bg 17 ?_;refine bg 18 ?_;refine bg 19 ?_;refine bg 20 ?_;refine bg 21 ?_;refine bg 22 ?_;refine t4 23 24 25 26 ?_;refine t2 27 28 ?_;refine rd 29 rfl λK hK=>?_;go_simp;have hh:=ai.1;clear ai;refine(ag.1 _ hh).mono ?_;rintro eA wA ⟨rfl,eP⟩;have dI:=hh.trans (eP.mono hh.size);refine hK.out _ _ (hS.1 _ dI) (λai=>?_);clear hh eP;clear hK K;refine t2 30 31 ?_;refine jQl g9 ?_ _;have xL:=Z dI;clear ai dI;clear kw k6 k0 k1 k2 e0 e1 e2 e3 e4 e5 e6 qo fV dQ fh D7 hS sj gw g6 g0 g1 g2 f0 f1 f2 f3 f4 f5 f6 c0 c1 c2 c3 c4 c5 c6 cw d0 d1 d2 hz gj dU;cases b with
      |false=>
       exact M77
      |true=>
       have dF:=kp.1;have WR:x=none:=G9 HXB.1
       subst WR;have jM:=dF.resolve_left (λh=>by cases h.1);have nb:=Z jM.2;clear jM dF;go_wp21;go_roundg (ms.length - (0+1))
       case measure=>omega
       case rel=>exact⟨0+1,M,M,by go_num,fw.1.trans (xL.1.mono fw.1.size),nb.1⟩
     .obtain⟨hp,hj⟩:∃hp,kk=hp+1:=⟨kk - 1,M⟩;obtain⟨q,F4,hqc,LZ⟩:=aaY.1 hp hj;have uj:=MI M;rw[F4]at uj;have j6:Go.Op.bytesLess q.name.toList m.name.toList=true:=uj;have hkj:(kk:Int) - 1=(hp:Int):=M
      have jC:0<kk:=M
      have hjz:(hp:Int)<(t.li.length:Int):=M
      have hjw:IntKind.i64.wrap (hp:Int)=(hp:Int):=wrap64 M M;have ais:((0:Int)<(kk:Int))=True:=by simp;omega
      have Y1:∀w,(Instr.indexAt 23 (.slice (some ⟨b2,o2,none⟩) t.li.length c) (.int .i64 ((kk:Int) - 1))).run prog w=.ok (.pointer (some ⟨b2,o2+hp*7,none⟩)) w:=by
       intro w;rw[hkj];exact Kh b2 o2 t.li.length c hp w LZ
      clear MI uj F4 Vc hj;go_wp21;have B1:=Z (an wr (bx m sa sc));have kw:=(B1.1.cell (p:=⟨W.heap.size,0,none⟩) agd).trans gw;have k6:=(B1.1.cell (p:=⟨W.heap.size+1,6,none⟩) Ma).trans g6;have k0:=(B1.1.cell (p:=⟨W.heap.size+1+1,0,none⟩) QR).trans g0;have k1:=(B1.1.cell (p:=⟨W.heap.size+1+1,1,none⟩) QR).trans g1;have k2:=(B1.1.cell (p:=⟨W.heap.size+1+1,2,none⟩) QR).trans g2;obtain⟨e0,e1,e2,e3,e4,e5,e6⟩:=ao (ak wr (bx m sa sc));have qo:wr.heap.size<(wr.alloc (bx m sa sc)).heap.size:=i6
      have fV:W.heap.size<(wr.alloc (bx m sa sc)).heap.size:=by simp;omega
      have dQ:W.heap.size+1<(wr.alloc (bx m sa sc)).heap.size:=by simp;omega
      have fh:W.heap.size+1+1<(wr.alloc (bx m sa sc)).heap.size:=by simp;omega
      have D7:b2<(wr.alloc (bx m sa sc)).heap.size:=by simp;omega
      have fw:=Z ((BW.out.trans (B1.1.mono dZ)));have ag:=Z<|λ(O:World) (hb:S5 (wr.alloc (bx m sa sc)) O)=>ih w _ m ⟨pd,false,pt⟩ b _ O D HPB.1 (HE.1 m zl) ((Me.1.mv fw.1).mv hb) ((Km.1.mv (Me.1.lo.mono dZ) B1.1).mv (Me.1.mv fw.1).lo hb);have agh:=(B1.1.cell (p:=⟨b2,o2+hp*7+4,none⟩) air).trans hqc;clear hqc;generalize sj:wr.alloc (bx m sa sc)=w2 at B1 fw ag kw k6 k0 k1 k2 e0 e1 e2 e3 e4 e5 e6 qo fV dQ fh D7 agh;have hS:=Z (show∀O,S5 w2 O->S5 w2 O/\ce O W.heap.size 0 (.slice wa w.length wc)/\ce O (W.heap.size+1) 6 (.slice (some ⟨b2,o2,none⟩) t.li.length c)/\ce O (W.heap.size+1+1) 0 (.int .i64 pd)/\ce O (W.heap.size+1+1) 1 (.bool false)/\ce O (W.heap.size+1+1) 2 (.bool pt)/\V9 O wr.heap.size m sa sc (ce O b2 (o2+hp*7+4) (.string q.name))from λO hb=>⟨hb,(hb.cell (p:=⟨W.heap.size,0,none⟩) fV).trans kw,(hb.cell (p:=⟨W.heap.size+1,6,none⟩) dQ).trans k6,(hb.cell (p:=⟨W.heap.size+1+1,0,none⟩) fh).trans k0,(hb.cell (p:=⟨W.heap.size+1+1,1,none⟩) fh).trans k1,(hb.cell (p:=⟨W.heap.size+1+1,2,none⟩) fh).trans k2,S8 hb qo e0 e1 e2 e3 e4 e5 e6 ((hb.cell (p:=⟨b2,o2+hp*7+4,none⟩) D7).trans agh)⟩)
      try rw[sj]
      refine t8 hS (jQ5 _ _).drew λai=>?_;refine t4 0 1 2 3 ?_;refine t2 4 5 ?_;refine rd 6 rfl λK hK=>?_;go_simp;refine(fO m.name _ ZA).mono ?_;rintro eN wN ⟨rfl,rfl⟩;simp only[dU];have hh:=ai;clear ai;refine hK.out _ _ hh (λai=>?_);clear hh;clear hK K;refine t4 7 8 9 10 ?_;refine t4 11 12 13 14 ?_;refine t4 15 16 17 18 ?_;refine t4 19 20 21 22 ?_;refine t4 23 24 25 26 ?_;refine t2 27 28 ?_;refine rd 29 rfl λK hK=>?_;go_simp;have hh:=ai.1;clear ai;refine(ag.1 _ hh).mono ?_;rintro eA wA ⟨rfl,eP⟩;have dI:=hh.trans (eP.mono hh.size);refine hK.out _ _ (hS.1 _ dI) (λai=>?_);clear hh eP;clear hK K;refine t2 30 31 ?_;refine jQl g9 ?_ _;clear Y1 hkj jC ais;have xL:=Z dI;clear ai dI;clear kw k6 k0 k1 k2 e0 e1 e2 e3 e4 e5 e6 qo fV dQ fh D7 hS sj gw g6 g0 g1 g2 f0 f1 f2 f3 f4 f5 f6 c0 c1 c2 c3 c4 c5 c6 cw d0 d1 d2 hz gj dU;cases b with
      |false=>
       exact M77
      |true=>
       have dF:=kp.1;have WR:x=none:=G9 HXB.1
       subst WR;have jM:=dF.resolve_left (λh=>by cases h.1);have nb:=Z jM.2;clear jM dF;go_wp21;go_roundg (ms.length - (kk+1))
       case measure=>omega
       case rel=>exact⟨kk+1,M,M,by go_num,fw.1.trans (xL.1.mono fw.1.size),nb.1⟩
   .have aR:¬(kk:Int)<(ms.length:Int):=M
    have hA:=A.out;rw[jQf M,rangeM]at hA;have SB:rr=none:=G9 hA.symm
    subst SB;have qD:bh (anyM (λe=>bh (dz w k e ⟨pd,true,true⟩)) (t.li.drop t.m.toNat))=some r:=M178
    have fJ:=aX qD;have dZ:=BW.out.size;have gw:=(BW.out.cell (p:=⟨W.heap.size,0,none⟩) zI).trans cw;have g6:=(BW.out.cell (p:=⟨W.heap.size+1,6,none⟩) iT).trans c6;have g2m:=(BW.out.cell (p:=⟨W.heap.size+1,2,none⟩) iT).trans c2;have hHD:=aj BW.out HD.1 mU;have g0:=(nQ hHD).1;have g1:=(nQ hHD).2.1;have g2:=(nQ hHD).2.2;have hfz:=cd hHD;have fm:=(aw hHD 1 (.bool true)).trans (aw (aw hHD 1 (.bool true)).here 2 (.bool true));have hnD:¬D (W.heap.size+1+1):=λh=>by have:=RU.1 _ h;omega
    have eR:=(fm.aJ hnD);have lR:S5 W wr:=HC.1.trans (BW.out.mono HC.1.size);have kL:=Z (fm.below lR M);have JD:=fm.size;have agi:Lo D ((wr.setCell ⟨W.heap.size+1+1,1,none⟩ (.bool true)).setCell ⟨W.heap.size+1+1,2,none⟩ (.bool true)).heap.size:=RU.1.mono M;have eY:=(HS.1.mv Me.1.lo BW.out).move eR;have qm:Cx D w (.slice wa w.length wc) ((wr.setCell ⟨W.heap.size+1+1,1,none⟩ (.bool true)).setCell ⟨W.heap.size+1+1,2,none⟩ (.bool true)):=HX0.1.mv kL.1;obtain⟨a3,c3',ait,acZ⟩:=RS.from (m:=t.m) (l':=t.li.drop t.m.toNat) eY (by unfold jW;rw[jQ7 ⟨HM.1.1,V5 HM.1.2⟩]);rw[List.length_drop]at ait acZ;have pX:=fm.other W.heap.size M;have gw3:ce ((wr.setCell ⟨W.heap.size+1+1,1,none⟩ (.bool true)).setCell ⟨W.heap.size+1+1,2,none⟩ (.bool true)) W.heap.size 0 (.slice wa w.length wc):=(jQi (w:=wr) pX).trans gw;have aaZ:((wr.setCell ⟨W.heap.size+1+1,1,none⟩ (.bool true)).setCell ⟨W.heap.size+1+1,2,none⟩ (.bool true)).heap[W.heap.size+1+1]?=some (px ⟨pd,true,true⟩):=G9 fm.here
    have ag:=cL (t.li.drop t.m.toNat) _ _ D acZ agi 94 #[.pointer (some ⟨W.heap.size,0,none⟩),.pointer (some ⟨W.heap.size+1+1,0,none⟩)] Tryz.call94 _ (λW1 e v bb ar Dv dr ke=>
     ifC k ihE w _ e ⟨pd,true,true⟩ bb v W1 D W.heap.size (W.heap.size+1+1) ke (HE.1 e (jR2 Dv)) (qm.mv ar) dr ((ar.cell (p:=⟨W.heap.size,0,none⟩) (by rw[JD];simp only;omega)).trans gw3) (aj ar aaZ (by rw[JD];omega))) (!r) fJ
    have D8:=uW;have JX:W.heap.size+1≠W.heap.size+1+1:=M
    clear fm hnD eR lR JD agi eY qm acZ pX gw3 aaZ fJ qD hA A hHD;go_wp21;refine ag.mono ?_;rintro e w1 ⟨rfl,ar⟩;have HB:=Z (kL.1.trans (ar.mono kL.1.size));clear ar ag;exact M97
def ik{f:σ->α->Option σ}{s r:σ}{a:α}{l:List α}(h:foldM f s (a::l)=some r):∃s',f s a=some s'/\foldM f s' l=some r:=by
 rw[foldM]at h;exact jQ1.1 h
def YP(w t)(a:Option Addr)(c:Nat)(E)(hE:Lo E w.heap.size)(base:Nat)(hb:base<=w.heap.size)(h:RS E w t.li (.slice a t.li.length c)):
 dc E base (w.alloc (bx t a c)) [t] (.slice (some ⟨w.heap.size,0,none⟩) 1 1):=by
 refine⟨[.int .i64 t.ld,.int .i64 t.n,.int .i64 t.m,.bool t.va,.string t.name,.string t.gc,.slice a t.li.length c],⟨rfl,.inr ⟨w.heap.size,1,#[.int .i64 t.ld,.int .i64 t.n,.int .i64 t.m,.bool t.va,.string t.name,.string t.gc,.slice a t.li.length c],rfl,hb,ak w _,jQ0 _,i5,rfl,rfl⟩⟩,RV.single (h.mv hE (an w _)),λb dD=>⟨by have:=hE b dD;simp;omega,by intro e;have:=hE b dD;simp[Value.ownBlock]at e;omega⟩⟩
def afb(D:Qx)(W:World)(r:List Y)(t:Y)(e:Ending)(W':World):Prop:=
 ∃v',e=.returned v'/\S5 W W'/\RS (Up D W.heap.size W'.heap.size) W' r v'/\((∀t',bare t=some t'->t'.ld≠13)->∃E,dc E W.heap.size W' r v'/\∀b,E b->Up D W.heap.size W'.heap.size b)
def P6(k:Nat):Prop:=∀(w:List ah) (ws:Value) (t:Y) (r:List Y) (v:Value) (W:World) (D:Qx),termsOf w k t=some r->Cx D w ws W->RT D W t v->
 Calls prog 263 #[ws,v] W (afb D W r t)
def aaF(w:List ah)(k:Nat)(D D2:Qx)(W WN wr:World)(ls r:List Y)(kk:Nat)(s:Value):Prop:=
 ∃l E,dc E WN.heap.size wr l s/\(∀b,D2 b->E b)/\(∀b,E b->Up D W.heap.size wr.heap.size b)/\foldM (λout e=>(termsOf w k e).bind λts=>lim (out++ts)) l (ls.drop kk)=some r
def yL(k:Nat):P6 k:=by
 induction k with
 |zero=>intro w ws t r v W D h;simp[termsOf]at h
 |succ k ih=>
  intro w ws t0 r v W D j H hv;obtain⟨t,ht,j⟩:=jQ1.1 j;obtain⟨pY,zL,rfl,cH⟩:=hv.bR;obtain⟨wa,wc,rfl⟩:=H.rd.form;have HA:=Z (an W (bx t0 pY zL));have ag:=jr _ t0 t _ _ D (jQ0 _) ht (H.mv HA.1).lo (hv.mv H.lo HA.1);obtain⟨HP,HX,HT⟩:=Z3 j H ht;clear j H hv cH ht;go_in;go_wp21;refine ag.mono ?_;rintro e w1 ⟨v1,rfl,fP,ar⟩;obtain⟨a1,zd,rfl,cz⟩:=fP.bR;have PD:=aj ar (ak W (bx t0 pY zL)) i6;have bS:=Z (HA.1.trans (ar.mono HA.1.size));have gj:=ar.size;simp only[jQ3]at gj cz;have gV:=Z cz;clear ar ag fP cz;go_wp2_with (refine fN rfl _ _ rfl W.heap.size rfl rfl PD rfl ?_);intro w2 fJ;have HBT:=Z fJ.here;have HB:=Z (fJ.below bS.1 M);have eX:=gV.1.move (fJ.aJ (D:=Up D (W.heap.size+1) w1.heap.size) (by intro h;obtain h|h:=h;exact absurd (HX.1.lo _ h) M;omega));have hz:=gj;rw[<-fJ.size]at hz eX;have HS:=Z eX;have kp:=Z ((HX.1.mv HB.1).up (n:=W.heap.size+1) (HX.1.lo.mono M) M);have HVT:=Z (RT.mk' HS.1);have j:=HP.1;have fV:W.heap.size<w2.heap.size:=M
  clear eX fJ gj PD bS gV HP;obtain⟨c0,c1,c2,c3,c4,c5,c6⟩:=ao HBT.1;by_cases cg:t.ld=13
  .rw[jQ7 cg]at j;have h:t.li=r:=G9 j
   subst h;have ll:(t.ld==13)=true:=by simp[cg]
   have H13:=Z cg;clear j cg;go_wp2;go_ret;exact⟨_,rfl,HB.1,HS.1.move (au.refl.wide (Up.mono M (jQ0 _))),λh=>absurd H13.1 (h t HT.1)⟩
  have ll:(t.ld==13)=false:=by simp[cg]
  rw[jQ4 cg]at j;by_cases cQ:t.ld=12
  .rw[jQ7 cQ]at j;have tT:(t.ld !=12)=false:=by simp[cQ]
   have XZ:=Z (show foldM (λout e=>(termsOf w k e).bind λts=>lim (out++ts)) [] t.li=some r by simpa using j);have Wt:=HS;have CT:=kp;have PV:=HB;have Jv:=Z (show∀b,Up D (W.heap.size+1) w2.heap.size b->Up D W.heap.size w2.heap.size b from Up.mono M (jQ0 _));clear j cQ cg;go_wp21;have Wj:t.li.length<=9223372036854775807:=M112
   have Ro:=PV.1.size
   go_loopg [7,41] t.li.length (λgg s7 s41 wr=>∃kk:Nat,kk<=t.li.length/\t.li.length - kk<=gg/\s41=.int .i64 kk/\Aside (S5 w2 wr)/\Aside (aaF w k D (Up D (W.heap.size+1) w2.heap.size) W w2 wr (t.li) r kk s7))
   case atStart=>exact⟨0,jQc _,M,rfl,jQ5 _ _,[],Up D (W.heap.size+1) w2.heap.size,dc.nil CT.1.lo,λ_ h=>h,Jv.1,G9 XZ.1⟩
   case round=>
    obtain⟨kk,ez,hg,rfl,BW,l0,E,aL,TR,N1,lN⟩:=hrel;by_cases aM:kk<t.li.length
    .have aR:(kk:Int)<(t.li.length:Int):=M
     obtain⟨x,hm⟩:∃x,(t.li)[kk]?=some x:=⟨(t.li)[kk],by simp[aM]⟩;have bL:(t.li).drop kk=x::(t.li).drop (kk+1):=M103
     rw[bL]at lN;obtain⟨l1,dQ,lN⟩:=ik lN;obtain⟨ts,fi,dQ⟩:=jQ1.1 dQ;obtain⟨cF,dQ⟩:=rH dQ;subst dQ;rcases aN.1 Wt.1 with⟨he,_⟩|⟨_,b2,o2,c2,dN,fh,fL,du,gX⟩
     .exact M106
     simp at dN;obtain⟨rfl,rfl⟩:=dN;have hE:=(gX.at hm).move (CT.1.lo.aJ BW.out) du;obtain⟨sa,sc,f0,f1,f2,f3,f4,f5,f6,iL⟩:=hE.bR;have dZ:=BW.out.size;have ag:=ih w _ x ts _ (wr.alloc (bx x sa sc)) _ fi ((CT.1.mv BW.out).mv (an wr _)) (iL.mv (CT.1.lo.mono dZ) (an wr _));obtain⟨eK,TU,KA,Jw⟩:=Z4 aL TR N1 lN;clear aL TR N1 lN hE gX iL bL hm fi;go_wp21;refine ag.mono ?_;rintro e w6 ⟨v6,rfl,gS,vE,_⟩;obtain⟨a6,Kk,rfl⟩:=vE.form;have B6:=Z ((an wr (bx x sa sc)).trans (gS.mono i6));have lj:dc (Up E wr.heap.size w6.heap.size) w2.heap.size w6 l0 u7:=(eK.1.below B6.1).wide (λb h=>.inl h) (λb hb=>by
      obtain hb|hb:=hb
      .exact M119
      .exact⟨hb.2,λe=>by have:=(eK.1.lt b e.symm).2;omega⟩)
     have vX:=Z lj;have HS6:=Z vE;have hW6:w2.heap.size<=w6.heap.size:=jQd dZ B6.1.size;have yH:=Z (show∀b,Up (Up D (W.heap.size+1) w2.heap.size) (wr.alloc (bx x sa sc)).heap.size w6.heap.size b->Up E wr.heap.size w6.heap.size b from λb hb=>by
      obtain hb|hb:=hb
      .exact .inl (TU.1 b hb)
      .simp only[jQ3]at hb;exact .inr ⟨M,hb.2⟩)
     clear lj vE gS ag;go_wp2_with (at_builtin;refine tU rfl _ _ rfl w2.heap.size (Up E wr.heap.size w6.heap.size) u7 l0 rfl vX.1 _ ts _ HS6.1 rfl (λb o h=>by obtain⟨ns,I,U⟩:=h.rv;exact⟨ns,I.move (au.refl.wide yH.1),U⟩) cF hW6 ?_);intro v7 w7 bF uA uU;have B7:=Z ((BW.out.trans (B6.1.mono dZ)).grown uA hW6 (λk hk=>(eK.1.lt k hk).1));have H7:=Z bF;have H8:=Z (show∀b,Up E wr.heap.size w6.heap.size b->Up D W.heap.size w7.heap.size b from λb hb=>by
      have I:=uA.size;have U:=B6.1.size;obtain hb|hb:=hb
      .exact Up.mono (jQ0 _) M b (KA.1 b hb)
      .exact .inr ⟨M,M⟩)
     clear bF uA uU;go_wp21;go_roundg (t.li.length - (kk+1))
     case measure=>omega
     case rel=>exact⟨kk+1,M,M,by go_num,B7.1,_,_,H7.1,λb hb=>.inl (TU.1 b hb),H8.1,Jw.1⟩
    .have aR:¬(kk:Int)<(t.li.length:Int):=M
     exact M71
  have tT:(t.ld !=12)=true:=by simp[cQ]
  rw[jQ4 cQ]at j;obtain⟨parts,yk,j⟩:=jQ1.1 j;obtain⟨i,hi,yk⟩:=jQ1.1 yk;have ag:=dh w _ t i _ w2 _ hi kp.1.lo kp.1.rd HVT.1;have HP:=Z j;have HPA:=Z yk;clear j yk hi cQ cg;go_wp21;refine ag.mono ?_;rintro e w3 ⟨rfl,aZ⟩;obtain⟨kL,tW,Tv,C9,X8⟩:=Z5 (HB.1.trans (aZ.mono HB.1.size)) (kp.1.mv aZ) (HVT.1.mv kp.1.lo aZ) (HS.1.mv kp.1.lo aZ) (aj aZ HBT.1 fV);have D7:W.heap.size<w3.heap.size:=jQb fV aZ.size;have hz23:=aZ.size;clear c0 c1 c2 c3 c4 c5 c6 aZ ag;obtain⟨c0,c1,c2,c3,c4,c5,c6⟩:=ao X8.1;have yk:=HPA.1;cases i with
  |false=>
   have h:none=parts:=G9 yk
   subst h;have h:[t]=r:=G9 HP.1
   subst h;have HO:=Z (YP w3 t a1 zd _ tW.1.lo w3.heap.size (jQ0 _) C9.1);clear yk HP HPA;go_wp2;go_ret;have hE:∀b,Up D (W.heap.size+1) w2.heap.size b->Up D W.heap.size (w3.alloc (bx t a1 zd)).heap.size b:=Up.mono M (by simp;omega);exact⟨_,rfl,kL.1.alloc M _,HO.1.rs hE (λb hb dD=>.inr ⟨M,dD⟩),λ_=>⟨_,HO.1.base M,hE⟩⟩
  |true=>
   simp only[jRt,jQk,jR1]at yk;obtain⟨u,hu,yk⟩:=jQ1.1 yk;have ag:=dG w _ t u _ w3 _ hu tW.1.lo tW.1.rd Tv.1;have ahQ:=Z yk;clear yk hu HPA;go_wp21;refine ag.mono ?_;rintro e w4 ⟨v4,rfl,Wo,dI⟩;obtain⟨a4,Rk,rfl,nU⟩:=Wo.bR;have aeq:=dI.size;obtain⟨PV,CT,Tl⟩:=Z3 ((kL.1.trans (dI.mono kL.1.size)).alloc M (bx u a4 Rk)) (((tW.1.mv dI).mv (an w4 (bx u a4 Rk))).up (n:=w3.heap.size) tW.1.lo (by simp;omega)) ((nU.mv (Up.lo (n:=w3.heap.size) tW.1.lo aeq) (an w4 (bx u a4 Rk))).move (D':=Up (Up D (W.heap.size+1) w2.heap.size) w3.heap.size (w4.alloc (bx u a4 Rk)).heap.size) (au.refl.wide (Up.mono (jQ0 _) i6)));have Jv:=Z (show∀b,Up (Up D (W.heap.size+1) w2.heap.size) w3.heap.size (w4.alloc (bx u a4 Rk)).heap.size b->Up D W.heap.size (w4.alloc (bx u a4 Rk)).heap.size b from λb hb=>by
    obtain hb|hb:=hb
    .exact Up.mono M (by simp;omega) b hb
    .exact .inr ⟨M,hb.2⟩)
   clear nU Wo dI ag c0 c1 c2 c3 c4 c5 c6;have yk:=ahQ.1;by_cases bH:u.ld=10
   .rw[jQ4 (by simp[bH])]at yk;obtain⟨ls,CI,yk⟩:=jQ6.1 yk;subst yk;have sq:(u.ld !=10)=false:=by simp[bH]
    obtain⟨ap,cp,pT,Xs⟩:=Tl.1.from CI;have Wt:=Z Xs;have XZ:=Z (show foldM (λout e=>(termsOf w k e).bind λts=>lim (out++ts)) [] ls=some r by simpa using HP.1);clear CI Xs bH HP;go_wp21;generalize Hr:w4.alloc (bx u a4 Rk)=wn at*;have Wj:ls.length<=9223372036854775807:=M112
    have Ro:=PV.1.size
    go_loopg [7,41] ls.length (λgg s7 s41 wr=>∃kk:Nat,kk<=ls.length/\ls.length - kk<=gg/\s41=.int .i64 kk/\Aside (S5 wn wr)/\Aside (aaF w k D (Up (Up D (W.heap.size+1) w2.heap.size) w3.heap.size wn.heap.size) W wn wr (ls) r kk s7))
    case atStart=>exact⟨0,jQc _,M,rfl,jQ5 _ _,[],Up (Up D (W.heap.size+1) w2.heap.size) w3.heap.size wn.heap.size,dc.nil CT.1.lo,λ_ h=>h,Jv.1,G9 XZ.1⟩
    case round=>
     obtain⟨kk,ez,hg,rfl,BW,l0,E,aL,TR,N1,lN⟩:=hrel;by_cases aM:kk<ls.length
     .have aR:(kk:Int)<(ls.length:Int):=M
      obtain⟨x,hm⟩:∃x,(ls)[kk]?=some x:=⟨(ls)[kk],by simp[aM]⟩;have bL:(ls).drop kk=x::(ls).drop (kk+1):=M103
      rw[bL]at lN;obtain⟨l1,dQ,lN⟩:=ik lN;obtain⟨ts,fi,dQ⟩:=jQ1.1 dQ;obtain⟨cF,dQ⟩:=rH dQ;subst dQ;rcases aN.1 Wt.1 with⟨he,_⟩|⟨_,b2,o2,c2,dN,fh,fL,du,gX⟩
      .exact M106
      simp at dN;obtain⟨rfl,rfl⟩:=dN;have hE:=(gX.at hm).move (CT.1.lo.aJ BW.out) du;obtain⟨sa,sc,f0,f1,f2,f3,f4,f5,f6,iL⟩:=hE.bR;have dZ:=BW.out.size;have ag:=ih w _ x ts _ (wr.alloc (bx x sa sc)) _ fi ((CT.1.mv BW.out).mv (an wr _)) (iL.mv (CT.1.lo.mono dZ) (an wr _));obtain⟨eK,TU,KA,Jw⟩:=Z4 aL TR N1 lN;clear aL TR N1 lN hE gX iL bL hm fi;go_wp21;refine ag.mono ?_;rintro e w6 ⟨v6,rfl,gS,vE,_⟩;obtain⟨a6,Kk,rfl⟩:=vE.form;have B6:=Z ((an wr (bx x sa sc)).trans (gS.mono i6));have lj:dc (Up E wr.heap.size w6.heap.size) wn.heap.size w6 l0 u7:=(eK.1.below B6.1).wide (λb h=>.inl h) (λb hb=>by
       obtain hb|hb:=hb
       .exact M119
       .exact⟨hb.2,λe=>by have:=(eK.1.lt b e.symm).2;omega⟩)
      have vX:=Z lj;have HS6:=Z vE;have hW6:wn.heap.size<=w6.heap.size:=jQd dZ B6.1.size;have yH:=Z (show∀b,Up (Up (Up D (W.heap.size+1) w2.heap.size) w3.heap.size wn.heap.size) (wr.alloc (bx x sa sc)).heap.size w6.heap.size b->Up E wr.heap.size w6.heap.size b from λb hb=>by
       obtain hb|hb:=hb
       .exact .inl (TU.1 b hb)
       .simp only[jQ3]at hb;exact .inr ⟨M,hb.2⟩)
      clear lj vE gS ag;go_wp2_with (at_builtin;refine tU rfl _ _ rfl wn.heap.size (Up E wr.heap.size w6.heap.size) u7 l0 rfl vX.1 _ ts _ HS6.1 rfl (λb o h=>by obtain⟨ns,I,U⟩:=h.rv;exact⟨ns,I.move (au.refl.wide yH.1),U⟩) cF hW6 ?_);intro v7 w7 bF uA uU;have B7:=Z ((BW.out.trans (B6.1.mono dZ)).grown uA hW6 (λk hk=>(eK.1.lt k hk).1));have H7:=Z bF;have H8:=Z (show∀b,Up E wr.heap.size w6.heap.size b->Up D W.heap.size w7.heap.size b from λb hb=>by
       have I:=uA.size;have U:=B6.1.size;obtain hb|hb:=hb
       .exact Up.mono (jQ0 _) M b (KA.1 b hb)
       .exact .inr ⟨M,M⟩)
      clear bF uA uU;go_wp21;go_roundg (ls.length - (kk+1))
      case measure=>omega
      case rel=>exact⟨kk+1,M,M,by go_num,B7.1,_,_,H7.1,λb hb=>.inl (TU.1 b hb),H8.1,Jw.1⟩
     .have aR:¬(kk:Int)<(ls.length:Int):=M
      exact M71
   .rw[jQ7 (G9 bH)]at yk;have h:some []=parts:=G9 yk
    subst h;have h:[]=r:=by simpa[foldM]using HP.1
    subst h;have sq:(u.ld !=10)=true:=by simp[bH]
    clear yk bH HP;go_wp2;go_ret;exact⟨_,rfl,PV.1,ia.2 ⟨none,0,rfl,λ_=>rfl⟩,λ_=>⟨D,dc.nil (HX.1.lo.mono PV.1.size),λb hb=>.inl hb⟩⟩
def Yv(k:Nat):Prop:=∀(w:List ah) (ws:Value) (t:Y) (r:List Y) (v:Value) (W:World) (D:Qx),required w k t=some r->Cx D w ws W->RT D W t v->
 Calls prog 139 #[ws,v] W (abJ D W r)
def Ju(out m):out.length<=(fW out m).length:=by
 unfold fW;split<;>simp
def vW(ms:List Y):∀out:List Y,out.length<=(ms.foldl fW out).length:=by
 induction ms with
 |nil=>intro out;simp
 |cons m ms ih=>intro out;exact jQd (Ju out m) (ih _)
def L4{rq:Y->Option (List Y)}{out r:List Y}(h:qR rq w out e=some r):out.length<=r.length:=by
 unfold qR at h;split at h
 .cases h;exact jQ0 _
 .split at h
  .cases h;exact jQ0 _
  .obtain⟨i,_,h⟩:=jQ1.1 h;split at h
   .cases h;exact jQ0 _
   .obtain⟨ms,_,rfl⟩:=jQ6.1 h;exact vW _ _
def rC{rq:Y->Option (List Y)}{w:List ah}:∀{l out r:List Y},foldM (qR rq w) out l=some r->out.length<=r.length
 |[],out,r,h=>by simp[foldM]at h;subst h;exact jQ0 _
 |a::l,out,r,h=>by
  obtain⟨s,I,U⟩:=ik h;exact jQd (L4 I) (rC U)
def EI{α:Type}(p:α->Bool):∀l:List α,anyM (λx=>some (p x)) l=some (l.any p)
 |[]=>rfl
 |a::l=>by
  rw[anyM,List.any_cons];cases h:p a with
  |true=>simp
  |false=>simpa[h]using EI p l
def aeI(w:List ah)(k:Nat)(D D2:Qx)(W WN wr:World)(ls fin:List Y)(kk:Nat)(s:Value):Prop:=
 ∃l E,dc E WN.heap.size wr l s/\(∀b,D2 b->E b)/\(∀b,E b->Up D W.heap.size wr.heap.size b)/\foldM (qR (required w k) w) l (ls.drop kk)=some fin
def ahr(E:Qx)(WN w6 wr:World)(ms l1:List Y)(jj:Nat)(s:Value):Prop:=
 ∃l,dc E WN.heap.size wr l s/\au E E w6 wr/\w6.heap.size<=wr.heap.size/\(ms.drop jj).foldl fW l=l1
def ga(k:Nat):Yv k:=by
 induction k with
 |zero=>intro w ws t r v W D h;simp[required]at h
 |succ k ih=>
  intro w ws t r v W D j H hv;obtain⟨u,hu,j⟩:=jQ1.1 j;obtain⟨pY,zL,rfl,cH⟩:=hv.bR;obtain⟨wa,wc,rfl⟩:=H.rd.form;have HA:=Z (an W (bx t pY zL));have dt:=H.mv HA.1;have ag:=dG w _ t u _ _ D hu dt.lo dt.rd (hv.mv H.lo HA.1);have HP:=Z j;have HX:=Z H;clear j H dt hv cH hu;go_in;go_wp21;refine ag.mono ?_;rintro e w1 ⟨v1,rfl,fP,ar⟩;obtain⟨a1,zd,rfl,cz⟩:=fP.bR;have gj:=ar.size;simp only[jQ3]at gj;have PV:=Z ((HA.1.trans (ar.mono HA.1.size)).alloc M (bx u a1 zd));have CT:=Z ((HX.1.mv PV.1).up (n:=W.heap.size+1) (HX.1.lo.mono M) (by simp;omega));have Tl:=Z ((cz.mv (Up.lo (n:=(W.alloc (bx t pY zL)).heap.size) (HX.1.lo.mono i6) ar.size) (an w1 (bx u a1 zd))).move (D':=Up D (W.heap.size+1) (w1.alloc (bx u a1 zd)).heap.size) (au.refl.wide (Up.mono i6 i6)));clear cz fP ar ag;have j:=HP.1;by_cases bH:u.ld=10
  .rw[jQ4 (by simp[bH])]at j;obtain⟨out,DC,j⟩:=jQ1.1 j;obtain⟨ls,CI,j⟩:=jQ1.1 j;obtain⟨fin,lN,j⟩:=jQ1.1 j;have sq:(u.ld !=10)=false:=by simp[bH]
   obtain⟨⟨uu,TP⟩,aak⟩:((fin.map (·.name)).Nodup/\fin.length<=1099511627776)/\(fin.mergeSort λa b=>!bB b a)=r:=by
    unfold oG at j;split at j
    .exact⟨by assumption,G9 j⟩
    .cases j
   obtain⟨hsl1,aeJ⟩:=Tl.1.upto DC;obtain⟨ap,cp,pT,Xs⟩:=Tl.1.from CI;have ag:=I7 out _ _ _ aeJ CT.1.lo (jQd (rC lN) TP);obtain⟨Wt,XZ,Xd,HSO⟩:=Z4 Xs lN uu aak;clear Xs aeJ lN uu aak j HP DC CI bH;go_wp21;refine ag.mono ?_;rintro e w3 ⟨v3,rfl,EJ,aZ⟩;obtain⟨abK,kL,HBU⟩:=Z3 EJ aZ (ak w1 (bx u a1 zd));obtain⟨c0,c1,c2,c3,c4,c5,c6⟩:=ao (aj aZ HBU.1 i6);have dQ:w1.heap.size<(w1.alloc (bx u a1 zd)).heap.size:=i6
   have Lw:W.heap.size+1<=(w1.alloc (bx u a1 zd)).heap.size:=by simp;omega
   clear EJ aZ ag;generalize Hr:w1.alloc (bx u a1 zd)=wn at kL abK Wt CT PV HBU dQ Lw;have Jv:=Z (show∀b,Up D (W.heap.size+1) wn.heap.size b->Up D W.heap.size w3.heap.size b from Up.mono M kL.1.size);generalize hD2:Up D (W.heap.size+1) wn.heap.size=D2 at CT Wt abK Jv;clear hD2 Hr Tl;have Wj:ls.length<=9223372036854775807:=M112
   go_wp21
   go_loopg [6,29] ls.length (λgg s6 s29 wr=>∃kk:Nat,kk<=ls.length/\ls.length - kk<=gg/\s29=.int .i64 kk/\Aside (S5 wn wr)/\Aside (aeI w k D D2 W wn wr ls fin kk s6))
   case atStart=>exact⟨0,jQc _,M,rfl,kL.1,out,D2,abK.1,λ_ h=>h,Jv.1,G9 XZ.1⟩
   case round=>
    obtain⟨kk,ez,hg,rfl,BW,l0,E,aL,TR,N1,lN⟩:=hrel;by_cases aM:kk<ls.length
    .have aR:(kk:Int)<(ls.length:Int):=M
     obtain⟨x,hm⟩:∃x,ls[kk]?=some x:=⟨ls[kk],by simp[aM]⟩;have bL:ls.drop kk=x::ls.drop (kk+1):=M103
     rw[bL]at lN;obtain⟨l1,sF,lN⟩:=ik lN;have ahs:=jQd (rC lN) TP;rcases aN.1 Wt.1 with⟨he,_⟩|⟨_,b2,o2,c2,dN,fh,fL,du,gX⟩
     .exact M106
     simp at dN;obtain⟨rfl,rfl⟩:=dN;have hE:=(gX.at hm).move (CT.1.lo.aJ BW.out) du;obtain⟨sa,sc,f0,f1,f2,f3,f4,f5,f6,iL⟩:=hE.bR;have dZ:=BW.out.size;obtain⟨eK,TU,KA,Jw,Km⟩:=Z5 aL TR N1 lN iL;have FO:b2<wr.heap.size:=jQb (CT.1.lo b2 du) dZ;have uB:=ak wr (bx x sa sc);obtain⟨q0,q1,q2,q3,q4,q5,q6⟩:=ao uB;clear aL TR N1 lN hE gX iL bL hm;rw[qR]at sF;by_cases cQ:x.ld=12
     .rw[jQ7 cQ]at sF;have h:l0=l1:=G9 sF
      subst h;have tT:(x.ld==12)=true:=by simp[cQ]
      clear sF cQ;exact M88
     rw[jQ4 cQ]at sF;have tT:(x.ld==12)=false:=by simp[cQ]
     by_cases cg:x.ld=13
     .rw[jQ7 cg]at sF;have h:l0=l1:=G9 sF
      subst h;have ll:(x.ld==13)=true:=by simp[cg]
      clear sF cQ cg;exact M88
     rw[jQ4 cg]at sF;have ll:(x.ld==13)=false:=by simp[cg]
     obtain⟨i,hi,sF⟩:=jQ1.1 sF;have pA:=Z ((CT.1.mv BW.out).mv (an wr (bx x sa sc)));have aeK:=Z (Km.1.mv (CT.1.mv BW.out).lo (an wr (bx x sa sc)));have ag:=dh w _ x i _ _ _ hi pA.1.lo pA.1.rd aeK.1;have HL1:=Z sF;clear sF hi cQ cg;go_wp21;refine ag.mono ?_;rintro e w4 ⟨rfl,dI⟩;have B4:=Z ((an wr (bx x sa sc)).trans (dI.mono i6));cases i with
     |false=>
      have h:l0=l1:=G9 HL1.1
      subst h;clear dI ag;go_wp21;go_roundg (ls.length - (kk+1))
      case measure=>omega
      case rel=>exact⟨kk+1,M,M,by go_num,BW.out.trans (B4.1.mono dZ),l0,E,eK.1.below B4.1,TU.1,λb hb=>Up.mono (jQ0 _) B4.1.size b (KA.1 b hb),Jw.1⟩
     |true=>
      obtain⟨ms,jK,sF⟩:∃ms,required w k x=some ms/\ms.foldl fW l0=l1:=by
       have:=HL1.1;simp only[jRt,jQk,jR1]at this;obtain⟨ms,I,U⟩:=jQ6.1 this;exact⟨ms,I,U⟩
      obtain⟨q0,q1,q2,q3,q4,q5,q6⟩:=ao (aj dI uB i6);have ag:=ih w _ x ms _ w4 _ jK (pA.1.mv dI) (aeK.1.mv pA.1.lo dI);have aht:=Z sF;clear jK sF HL1 dI;go_wp21;refine ag.mono ?_;rintro e w6 IG;obtain⟨v6,rfl,vE,gS⟩:=IG.Pf;obtain⟨a6,Kk,rfl⟩:=vE.form;have B6:=Z (B4.1.trans (gS.mono B4.1.size));have lj:dc (Up E wr.heap.size w6.heap.size) wn.heap.size w6 l0 u6:=(eK.1.below B6.1).wide (λb h=>.inl h) (λb hb=>by
       obtain hb|hb:=hb
       .exact M119
       .exact⟨hb.2,λe=>by have:=(eK.1.lt b e.symm).2;omega⟩)
      have vX:=Z lj;have HS6:=Z vE;have hW6:wn.heap.size<=w6.heap.size:=jQd dZ B6.1.size;have yH:=Z (show∀b,Up D2 w4.heap.size w6.heap.size b->Up E wr.heap.size w6.heap.size b from λb hb=>by
       have:=B4.1.size;obtain hb|hb:=hb
       .exact .inl (TU.1 b hb)
       .exact .inr ⟨M,hb.2⟩)
      have aeL:=Z (show∀b,Up E wr.heap.size w6.heap.size b->Up D W.heap.size w6.heap.size b from λb hb=>by
       have U:=B6.1.size;obtain hb|hb:=hb
       .exact Up.mono (jQ0 _) U b (KA.1 b hb)
       .exact .inr ⟨M,hb.2⟩)
      have aeM:=Z (show∀b,D2 b->Up E wr.heap.size w6.heap.size b from λb hb=>.inl (TU.1 b hb));have TW:=Z (BW.out.trans (B6.1.mono dZ));clear lj vE gS ag IG q0 q1 q2 q3 q4 q5 q6 uB;generalize hE6:Up E wr.heap.size w6.heap.size=E6 at vX yH aeL aeM;have hmz:ms.length<=9223372036854775807:=by
       rcases aN.1 HS6.1 with⟨he,_⟩|⟨_,b2,o2,c2,dN,fh,fL,du,gX⟩
       .rw[he];simp
       .omega
      go_wp21
      go_loopg [6,51] ms.length (λgg s6 s51 wr=>∃jj:Nat,jj<=ms.length/\ms.length - jj<=gg/\s51=.int .i64 jj/\Aside (S5 wn wr)/\Aside (ahr E6 wn w6 wr ms l1 jj s6))
      case atStart=>exact⟨0,jQc _,M,rfl,TW.1,l0,vX.1,au.refl,jQ0 _,G9 aht.1⟩
      case round=>
       obtain⟨jj,X1,Dp,rfl,BW2,l2,rD,eR,Yw,L5⟩:=hrel;by_cases ee:jj<ms.length
       .have qY:(jj:Int)<(ms.length:Int):=M
        obtain⟨m,hm⟩:∃m,ms[jj]?=some m:=⟨ms[jj],by simp[ee]⟩;have bL:ms.drop jj=m::ms.drop (jj+1):=by
         rw[jQv ee];simp[jQp ee]at hm;rw[hm]
        rw[bL,List.foldl_cons]at L5;have kj:=jQd (vW (ms.drop (jj+1)) (fW l2 m)) (L5▸ahs);rcases aN.1 HS6.1 with⟨he,_⟩|⟨_,b3,o3,c3,dN,D7,Kq,I4,hC3⟩
        .rw[he]at ee;simp at ee
        simp at dN;obtain⟨rfl,rfl⟩:=dN;have hE:=(hC3.at hm).move (D':=E6) (λb hb=>⟨yH.1 b hb,(eR b (yH.1 b hb)).2⟩) I4;obtain⟨ma,mc,f0,f1,f2,f3,f4,f5,f6,Kr⟩:=hE.bR;obtain⟨ma',mc',e',aeN⟩:=Kr.bR;simp at e';obtain⟨rfl,rfl⟩:=e';obtain⟨la,lc,rfl⟩:=rD.form;have BB:=Z (an wr (bx m ma mc));have ag:=cL l2 _ (wr.alloc (bx m ma mc)) (λb=>b<(wr.alloc (bx m ma mc)).heap.size) ((rD.below BB.1).rs (rD.below BB.1).lo (λb _ h=>h)) (λb h=>h) 180 #[.pointer (some ⟨wr.heap.size,0,none⟩)] Tryz.call180 (λf=>some (aE f.name m.name))
         (λW1 e v bb ar _ dr ke=>by
          have h:aE e.name m.name=bb:=G9 ke
          subst h;exact LN e m v W1 _ wr.heap.size dr (aj ar (ak wr _) i6)) _ (EI _ l2)
        obtain⟨rE,Oa,Yx,R5⟩:=Z4 rD eR L5 aeN;have D8:=mkf;have hb3w:b3<wr.heap.size:=jQb (vX.1.lo b3 (yH.1 b3 I4)) Yw;have abL:=BW2.out.size;clear rD eR L5 hE hC3 Kr aeN bL hm;cases hc:(l2.any λf=>aE f.name m.name)with
        |true=>
         have xR:fW l2 m=l2:=by unfold fW;rw[jQ7 hc]
         rw[xR]at Yx;rw[hc]at ag;clear hc xR kj;go_wp21;refine ag.mono ?_;rintro e w8 ⟨rfl,nN⟩;have B8:=Z (BB.1.trans (nN.mono BB.1.size));clear nN ag;go_wp21;go_roundg (ms.length - (jj+1))
         case measure=>omega
         case rel=>exact⟨jj+1,M,M,by go_num,BW2.out.trans (B8.1.mono abL),l2,rE.1.below B8.1,λb hb=>⟨hb,(B8.1.block b (rE.1.lo b hb)).trans (Oa.1 b hb).2⟩,jQd Yw B8.1.size,Yx.1⟩
        |false=>
         have xR:fW l2 m=l2++[m]:=by unfold fW;rw[jQ4 (by rw[hc];simp)]
         rw[xR]at Yx kj;rw[hc]at ag;clear hc xR;go_wp21;refine ag.mono ?_;rintro e w8 ⟨rfl,nN⟩;have B8:=Z (BB.1.trans (nN.mono BB.1.size));obtain⟨q0,q1,q2,q3,q4,q5,q6⟩:=ao (aj nN (ak wr (bx m ma mc)) i6);clear nN ag;have BA:=Z (B8.1.alloc B8.1.size (bx m ma mc));have HOA:=Z (rE.1.below BA.1);have vY:=RV.single (R5.1.mv rE.1.lo BA.1);have Q6:=Z vY;have Xo:=Z (iC w8 [.int .i64 m.ld,.int .i64 m.n,.int .i64 m.m,.bool m.va,.string m.name,.string m.gc,.slice ma m.li.length mc] 25);have cS:wn.heap.size<=(w8.alloc (bx m ma mc)).heap.size:=jQd abL BA.1.size;clear vY;go_wp2_with (at_builtin;refine nP rfl _ _ rfl wn.heap.size E6 _ l2 rfl HOA.1 [m] ⟨w8.heap.size,0,none⟩ _ _ rfl Q6.1 Xo.1 kj cS ?_);intro v9 w9 jR Ho K0;have B9:=Z ((BW2.out.trans (BA.1.mono abL)).grown Ho cS (λk hk=>(rE.1.lt k hk).1));have H9:=Z jR;have HM9:=Z (show au E6 E6 w6 w9 from λb hb=>by
          obtain⟨_,_,_,hav⟩:=HOA.1;exact⟨hb,(Ho.block b (hav b hb).1 (hav b hb).2).trans ((BA.1.block b (rE.1.lo b hb)).trans (Oa.1 b hb).2)⟩)
         have ahu:w6.heap.size<=w9.heap.size:=jQd (jQd Yw BA.1.size) Ho.size;clear jR Ho K0;go_wp21;go_roundg (ms.length - (jj+1))
         case measure=>omega
         case rel=>exact⟨jj+1,M,M,by go_num,B9.1,l2++[m],H9.1,HM9.1,ahu,Yx.1⟩
       .have qY:¬(jj:Int)<(ms.length:Int):=M
        have qk:l2=l1:=by
         rw[jQf M]at L5;simpa using L5
        subst qk;have rE:=Z rD;clear rD eR L5;go_wp21;go_roundg (ls.length - (kk+1))
        case measure=>omega
        case rel=>exact⟨kk+1,M,M,by go_num,BW2.out,l2,E6,rE.1,aeM.1,λb hb=>Up.mono (jQ0 _) Yw b (aeL.1 b hb),Jw.1⟩
    .have aR:¬(kk:Int)<(ls.length:Int):=M
     have qk:l0=fin:=by
      rw[jQf M]at lN;simpa[foldM]using lN
     subst qk;have ag:=LY E wn.heap.size wr l0 u6 aL Xd.1 TP BW.out.size;have KA:=Z N1;clear aL TR N1 lN;go_wp21;refine ag.mono ?_;rintro e w7 ⟨rfl,bF,ek⟩;have eK:=Z bF;have zM:=Z (PV.1.trans ((BW.out.trans ek).mono M));have hz7:=ek.size;clear bF ek ag;go_wp2;go_ret;exact⟨_,E,rfl,HSO.1▸eK.1.base M,λb hb=>Up.mono (jQ0 _) hz7 b (KA.1 b hb),zM.1⟩
  .rw[jQ7 (G9 bH)]at j;have h:[]=r:=G9 j
   subst h;have sq:(u.ld !=10)=true:=by simp[bH]
   clear j bH HP;go_wp2;go_ret;exact⟨_,D,rfl,dc.nil (HX.1.lo.mono PV.1.size),λb hb=>.inl hb,PV.1⟩
def aal(D:Qx)(W:World)(s:List ah×List Y)(e:Ending)(W':World):Prop:=
 ∃vw vo,e=.returned (.tuple #[vw,vo])/\RD (Up D W.heap.size W'.heap.size) W' s.1 vw/\(∀b o n c,vw=.slice (some ⟨b,o,none⟩) n c->W.heap.size<=b)/\RS (Up D W.heap.size W'.heap.size) W' s.2 vo/\S5 W W'
def MV(D:Qx)(W:World):List aH->List Value->Prop
 |[],xs=>xs=[]
 |m::l,xs=>∃a c rest,xs=[.string m.name,.bool m.ptr,.int .i64 m.sig.ld,.int .i64 m.sig.n,.int .i64 m.sig.m,.bool m.sig.va,.string m.sig.name,.string m.sig.gc,.slice a m.sig.li.length c]++rest/\RS D W m.sig.li (.slice a m.sig.li.length c)/\MV D W l rest
def DV(D:Qx)(W:World):List ah->List Value->Prop
 |[],xs=>xs=[]
 |d::l,xs=>∃a c ma mc rest,xs=[.int .i64 d.gt.ld,.int .i64 d.gt.n,.int .i64 d.gt.m,.bool d.gt.va,.string d.gt.name,.string d.gt.gc,.slice a d.gt.li.length c,.slice ma d.lw.length mc]++rest/\
  RS D W d.gt.li (.slice a d.gt.li.length c)/\RM D W d.lw (.slice ma d.lw.length mc)/\DV D W l rest
def MV.length:∀{l:List aH} {xs:List Value},MV D W l xs->xs.length=l.length*9
 |[],xs,h=>by rw[MV]at h;simp[h]
 |t::l,xs,h=>by
  rw[MV]at h;obtain⟨a,c,rest,rfl,_,h⟩:=h;have:=h.length;simp;omega
def DV.length:∀{l:List ah} {xs:List Value},DV D W l xs->xs.length=l.length*8
 |[],xs,h=>by rw[DV]at h;simp[h]
 |t::l,xs,h=>by
  rw[DV]at h;obtain⟨a,c,ma,mc,rest,rfl,_,_,h⟩:=h;have:=h.length;simp;omega
def MV.one:∀{l:List aH} {xs:List Value},MV D W l xs->∀u∈xs,u.oneCell'=true
 |[],xs,h=>by rw[MV]at h;subst h;intro u hu;simp at hu
 |t::l,xs,h=>by
  rw[MV]at h;obtain⟨a,c,rest,rfl,_,h⟩:=h;intro u hu;rw[jQm]at hu;obtain hu|hu:=hu
  .simp at hu;rcases hu with rfl|rfl|rfl|rfl|rfl|rfl|rfl|rfl|rfl<;>rfl
  .exact h.one u hu
def DV.one:∀{l:List ah} {xs:List Value},DV D W l xs->∀u∈xs,u.oneCell'=true
 |[],xs,h=>by rw[DV]at h;subst h;intro u hu;simp at hu
 |t::l,xs,h=>by
  rw[DV]at h;obtain⟨a,c,ma,mc,rest,rfl,_,_,h⟩:=h;intro u hu;rw[jQm]at hu;obtain hu|hu:=hu
  .simp at hu;rcases hu with rfl|rfl|rfl|rfl|rfl|rfl|rfl|rfl<;>rfl
  .exact h.one u hu
def MV.append(h':MV D W l' ys):∀{l:List aH} {xs:List Value},MV D W l xs->MV D W (l++l') (xs++ys)
 |[],xs,h=>by rw[MV]at h;subst h;simpa using h'
 |t::l,xs,h=>by
  rw[MV]at h;obtain⟨a,c,rest,rfl,hs,h⟩:=h;rw[jRh,MV];exact⟨a,c,rest++ys,i6,hs,MV.append h' h⟩
def DV.append{l':List ah}(h':DV D W l' ys):∀{l:List ah} {xs:List Value},DV D W l xs->DV D W (l++l') (xs++ys)
 |[],xs,h=>by rw[DV]at h;subst h;simpa using h'
 |t::l,xs,h=>by
  rw[DV]at h;obtain⟨a,c,ma,mc,rest,rfl,hs,hm,h⟩:=h;rw[jRh,DV];exact⟨a,c,ma,mc,rest++ys,i6,hs,hm,DV.append h' h⟩
def MV.move(hm:au D D' W W'):∀{l:List aH} {xs:List Value},MV D W l xs->MV D' W' l xs
 |[],xs,h=>by rw[MV]at h⊢;exact h
 |t::l,xs,h=>by
  rw[MV]at h⊢;obtain⟨a,c,rest,rfl,hs,h⟩:=h;exact⟨a,c,rest,rfl,hs.move hm,h.move hm⟩
def DV.move(hm:au D D' W W'):∀{l:List ah} {xs:List Value},DV D W l xs->DV D' W' l xs
 |[],xs,h=>by rw[DV]at h⊢;exact h
 |t::l,xs,h=>by
  rw[DV]at h⊢;obtain⟨a,c,ma,mc,rest,rfl,hs,jK,h⟩:=h;exact⟨a,c,ma,mc,rest,rfl,hs.move hm,jK.move hm,h.move hm⟩
def ZV{a:Option Addr}(c0:ce W b o (.int .i64 t.ld))(c1:ce W b (o+1) (.int .i64 t.n))(c2:ce W b (o+2) (.int .i64 t.m))(c3:ce W b (o+3) (.bool t.va))(c4:ce W b (o+4) (.string t.name))(c5:ce W b (o+5) (.string t.gc))(c6:ce W b (o+6) (.slice a t.li.length c))(h:RS D W t.li (.slice a t.li.length c)):RE D W t b o:=by
 obtain⟨k,n,m,va,nm,tg,es⟩:=t;exact pW.2 ⟨_,c0,c1,c2,c3,c4,c5,c6,h⟩
def MV.rmc:∀{l:List aH} {xs:List Value} {o:Nat},MV D W l xs->(∀hp u,xs[hp]?=some u->W.cell? ⟨b,o+hp,none⟩=some u)->RMC D W l b o
 |[],_,_,_,_=>by rw[RMC];trivial
 |t::l,xs,o,h,hc=>by
  rw[MV]at h;obtain⟨a,c,rest,rfl,hs,h⟩:=h;rw[RMC];refine⟨⟨hc 0 _ rfl,hc 1 _ rfl,ZV (hc 2 _ rfl) (hc 3 _ rfl) (hc 4 _ rfl) (hc 5 _ rfl) (hc 6 _ rfl) (hc 7 _ rfl) (hc 8 _ rfl) hs⟩,h.rmc λhp u hu=>?_⟩;have:=hc (9+hp) u (by rw[jQr i6];simpa using hu);rw[show o+9+hp=o+(9+hp)by omega];exact this
def DV.rdc:∀{l:List ah} {xs:List Value} {o:Nat},DV D W l xs->(∀hp u,xs[hp]?=some u->W.cell? ⟨b,o+hp,none⟩=some u)->RDC D W l b o
 |[],_,_,_,_=>by rw[RDC];trivial
 |t::l,xs,o,h,hc=>by
  rw[DV]at h;obtain⟨a,c,ma,mc,rest,rfl,hs,hm,h⟩:=h;rw[RDC];refine⟨⟨ZV (hc 0 _ rfl) (hc 1 _ rfl) (hc 2 _ rfl) (hc 3 _ rfl) (hc 4 _ rfl) (hc 5 _ rfl) (hc 6 _ rfl) hs,_,hc 7 _ rfl,hm⟩,h.rdc λhp u hu=>?_⟩;have:=hc (8+hp) u (by rw[jQr i6];simpa using hu);rw[show o+8+hp=o+(8+hp)by omega];exact this
def RDC.dv:∀{l:List ah} {o:Nat},RDC D W l b o->∃xs,DV D W l xs/\(∀hp u,xs[hp]?=some u->W.cell? ⟨b,o+hp,none⟩=some u)
 |[],o,_=>⟨[],by rw[DV],i6⟩
 |t::l,o,h=>by
  rw[RDC]at h;obtain⟨⟨he,ms,jK,hM⟩,h⟩:=h;obtain⟨a,c,c0,c1,c2,c3,c4,c5,c6,hv⟩:=he.bR;obtain⟨a',c',e,hs⟩:=hv.bR;simp at e;obtain⟨rfl,rfl⟩:=e;obtain⟨ma,mc,rfl⟩:=hM.form;obtain⟨xs,H,hc⟩:=h.dv;refine⟨_++xs,by rw[DV];exact⟨a,c,ma,mc,xs,rfl,hs,hM,H⟩,λhp u hu=>?_⟩;by_cases hj:hp<8
  .rw[jQq (G9 hj)]at hu
   match hp,hj,hu with
   |0,_,hu=>simp at hu;subst hu;exact c0
   |1,_,hu=>simp at hu;subst hu;exact c1
   |2,_,hu=>simp at hu;subst hu;exact c2
   |3,_,hu=>simp at hu;subst hu;exact c3
   |4,_,hu=>simp at hu;subst hu;exact c4
   |5,_,hu=>simp at hu;subst hu;exact c5
   |6,_,hu=>simp at hu;subst hu;exact c6
   |7,_,hu=>simp at hu;subst hu;exact jK
  .obtain⟨i,rfl⟩:∃i,hp=8+i:=⟨hp - 8,M⟩;rw[jQr i6]at hu;have:=hc i u (G9 hu);rw[show o+(8+i)=o+8+i by omega];exact this
def gv(E:Qx)(base:Nat)(W:World)(l:List ah)(v:Value):Prop:=
 ∃xs,W.ownsRow base 41 8 v l.length xs/\DV E W l xs/\∀b,E b->b<W.heap.size/\some b≠v.ownBlock
def gv.nil(h:Lo E W.heap.size):gv E base W [] (.slice none 0 0):=
 ⟨[],jR9 _ _ _ _,by rw[DV],λb hb=>⟨h b hb,by simp[Value.ownBlock]⟩⟩
def gv.lt{l:List ah}(h:gv E base W l v):∀g,v.ownBlock=some g->base<=g/\g<W.heap.size:=by
 obtain⟨xs,h,_⟩:=h;exact h.lt
def gv.lo{l:List ah}(h:gv E base W l v):Lo E W.heap.size:=M177
def gv.av{l:List ah}(h:gv E base W l v):∀b,E b->some b≠v.ownBlock:=M179
def gv.cR{l:List ah}(h:gv E base W l v)(hz:W.heap.size<=W'.heap.size)(hv:∀g,v.ownBlock=some g->W'.heap[g]?=W.heap[g]?)(hE:∀b,E b->W'.heap[b]?=W.heap[b]?):gv E base W' l v:=M37
def gv.below{l:List ah}(h:gv E base W l v)(hb:S5 W W'):gv E base W' l v:=
 h.cR hb.size (λg hg=>hb.block g (h.lt g hg).2) (λb dD=>hb.block b (h.lo b dD))
def gv.wide{l:List ah}(h:gv E base W l v)(hE:∀b,E b->F b)(hF:∀b,F b->b<W.heap.size/\some b≠v.ownBlock):gv F base W l v:=M136
def gv.form{l:List ah}(h:gv E base W l v):∃a c,v=.slice a l.length c:=M79
def gv.rep{l:List ah}(h:gv E base W l v)(hE:∀b,E b->D b)(hD:∀g,v.ownBlock=some g->D g):RD D W l v:=M49
def kD(E:Qx)(base:Nat)(W:World)(l:List aH)(v:Value):Prop:=
 ∃xs,W.ownsRow base 68 9 v l.length xs/\MV E W l xs/\∀b,E b->b<W.heap.size/\some b≠v.ownBlock
def kD.nil(h:Lo E W.heap.size):kD E base W [] (.slice none 0 0):=
 ⟨[],jR9 _ _ _ _,by rw[MV],λb hb=>⟨h b hb,by simp[Value.ownBlock]⟩⟩
def kD.lt(h:kD E base W l v):∀g,v.ownBlock=some g->base<=g/\g<W.heap.size:=by
 obtain⟨xs,h,_⟩:=h;exact h.lt
def kD.lo(h:kD E base W l v):Lo E W.heap.size:=M177
def kD.av(h:kD E base W l v):∀b,E b->some b≠v.ownBlock:=M179
def kD.cR(h:kD E base W l v)(hz:W.heap.size<=W'.heap.size)(hv:∀g,v.ownBlock=some g->W'.heap[g]?=W.heap[g]?)(hE:∀b,E b->W'.heap[b]?=W.heap[b]?):kD E base W' l v:=M37
def kD.below(h:kD E base W l v)(hb:S5 W W'):kD E base W' l v:=
 h.cR hb.size (λg hg=>hb.block g (h.lt g hg).2) (λb dD=>hb.block b (h.lo b dD))
def kD.wide(h:kD E base W l v)(hE:∀b,E b->F b)(hF:∀b,F b->b<W.heap.size/\some b≠v.ownBlock):kD F base W l v:=M136
def kD.form(h:kD E base W l v):∃a c,v=.slice a l.length c:=M79
def kD.rep(h:kD E base W l v)(hE:∀b,E b->D b)(hD:∀g,v.ownBlock=some g->D g):RM D W l v:=by
 obtain⟨xs,h,hv,_⟩:=h;rcases h.2 with⟨rfl,h0⟩|⟨g,cap,cur,rfl,hb,hg,hn,hm,hs,ht⟩
 .exact M206
 .by_cases hl:l=[]
  .subst hl;exact M113
  .refine .inr ⟨hl,g,0,cap,rfl,hn,by simp only[maxLen]at hm;omega,hD g rfl,(hv.move (au.refl.wide hE)).rmc λhp u hu=>?_⟩;exact M34
