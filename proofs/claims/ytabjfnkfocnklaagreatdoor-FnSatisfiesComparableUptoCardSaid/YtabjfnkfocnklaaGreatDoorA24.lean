import Derived.Test.YtabjfnkfocnklaaGreatDoorA23
set_option linter.all false
set_option maxHeartbeats 16000000
set_option maxRecDepth 20000
namespace Go.Proofs.YtabjfnkfocnklaaGreatDoor
open Go Go.RowKit Go.Lib S Tryz P
variable{con y:Bool}{e t tt vt x:GT}{Q:GT->Prop}{NS:List ByteArray}{cs rs:List Nat}{w:List ah}{K N b b2 bA bC bK bT bV c cm i k m n r sb:Nat}{obj:Nat->Nat}{D DI E E' E0 F:Nat->Prop}{a am:Option Addr}{Y:Prop}{s s':TS}{dv u v v':Value}{W W' W0 W1 W2:World}{d:ah}
theorem M1(h:Y:=by
 clear hK K;refine rd 9 rfl λK hK=>?_;obtain⟨-,n1,n2,n3,n4,n5,n6,n7⟩:=id HN.1;have Vw:wB.heap.size=wr.heap.size+2:=by rw[n1,jQ3];rfl
 have hold:∀g,g<wr.heap.size->(wB.alloc (.cells #[ptr (wr.heap.size+1)] 53)).heap[g]?=wr.heap[g]?:=λg hg=>by
  have e1:(wB.alloc (.cells #[ptr (wr.heap.size+1)] 53)).heap[g]?=wB.heap[g]?:=by
   show(wB.heap.push _)[g]?=_;exact M146
  have e2:(wr.drew.alloc (.cells #[.int .i64 0,ptr W.heap.size,.string ⟨#[84]⟩,.nilIface] 117)).heap[g]?=wr.heap[g]?:=by
   show(wr.heap.push _)[g]?=_;exact M146
  exact e1.trans ((n7 g (by rw[jQ3];show g<wr.heap.size+1;omega) (by show g≠wr.heap.size;omega)).trans e2)
 have KG:=Z (show(wB.alloc (.cells #[ptr (wr.heap.size+1)] 53)).ownsRow W.heap.size 53 1 dv (ds.map ptr).length (ds.map ptr)from cD ug.1.own λg hg=>hold g (aC ug.1.own g hg).2.1);have CA:=(hold _ Cz.1).trans ug.1.jl;have lA:=ug.1.jJ.size;have gj:W.heap.size<=wr.heap.size:=lA;refine lU underlying55 G0 rfl m9 rfl (.tmp 31) (.tmp 35) rfl W.heap.size dv (ds.map ptr) (by simp[Act.eval,Act.put]) KG.1 (ptr (wr.heap.size+1)) rfl ⟨wB.heap.size,0,none⟩ 1 (by simp[Act.eval,Act.put]) (cell_one_new _ _ _) kr.1 (by rw[jQ3];omega) ?_;intro v5 w5 aL lX oX;obtain⟨a7,m7,c7,rfl⟩:∃a n c,v5=.slice a n c:=by
  rcases aL.2 with⟨rfl,_⟩|⟨g',cap,cur,rfl,_⟩
  ·exact⟨_,_,_,rfl⟩
  ·exact⟨_,_,_,rfl⟩
 obtain⟨Zm,Rw,WM,YA⟩:=Z4 Vw aL lX oX;have iD:=(lX.block W2.heap.size (by rw[jQ3];have:=Cz.1;omega) (λe=>(ug.1.gY _ e.symm).2.2 rfl)).trans CA;have q5:w5.cell? ⟨W2.heap.size,1,none⟩=some dv:=by simp[World.cell?,iD]
 have z5:=cd iD 1;have lZ:=Z (aw iD 1 (.slice a7 m7 c7));clear ai;refine hK.out _ _ (by simp[World.cell?,iD]) (λai=>?_);clear n1 n2 n3 n4 n5 n6 n7 Vw hold CA lA gj aL lX oX iD
 (try simp only[jRa,jR3,jR4,Act.put,jQy,jRe,jRf])
 clear hK K;refine t2 10 11 ?_;refine rd 12 rfl λK hK=>?_;go_simp;clear ai;refine hK.out _ _ (by have h:=lZ.1.here;simp[World.cell?,h]) (λai=>?_);clear hK K;refine jQl g9 ?_ _;clear ai;have rO:w.length<=9223372036854775807:=by have:=HWL.1;omega
 go_wp2_with fail;go_roundg (w.length - (kk+1))
 case measure=>omega
 case rel=>
  obtain⟨S',D',ie⟩:=ug.1.step HN.1 WM.1 Rw.1 (YA.1.imp id λe=>by rw[e,jQ3,Zm.1];rfl) lZ.1;exact⟨kk+1,S',D',_,_,_,m9,m9,by go_num,by rw[jQo];simp;omega,ie⟩):Y:=h
theorem M125(h:Y:=by
 clear hK K;refine rd 8 rfl λK hK=>?_;go_simp;have hh:=ai;clear ai;refine hK.out _ _ (((an _ _).cell (jQs hh)).trans hh) (λai=>?_);exact M1):Y:=h
theorem M137(h:Y:=by
 exact⟨by simp only;omega,by simp only;omega,λr e=>by simp at e⟩):Y:=h
theorem M155(h:Y:=by
 intro hk;have h1:(az w t).kind=10\/(az w t).kind=17:=by simpa[isIf]using hi
 rw[ru m9 m9]at hk;omega):Y:=h
theorem M16(h:Y:=by
 have c5:=HX.1.c5;have c6:=HX.1.c6;have hc:=HMM.1 _ _ HX.1.ok;go_wp2_with fail;refine hc.mono ?_;rintro e' w2 ⟨v6,rfl,rfl,Cf,Cg⟩;replace HX:=Z (HX.1.call Cf Cg);clear hc Cf Cg c5 c6;have sH:=HX.1.sH;go_wp2_with fail;refine(Kp.1 _ _ HX.1.ok).mono ?_;rintro e' w2 ⟨v6,rfl,⟨sb,rfl,fi⟩,iG,j3⟩;replace HX:=Z (HX.1.call iG j3);have CX:=Z fi;clear fi iG j3;clear sH;have hc:=iq CX.1.jl;rw[tW.1,Kz.1]at hc;go_wp2_with fail;refine rv hc ?_;clear hc;clear CX;have jG:=WG.1 _ _ _ _ Bj.1 HX.1;rw[HXC.1]at jG;go_wp2_with fail;refine jG.mono ?_;rintro e' w9 ⟨v9,rfl,rfl,JR,JS⟩;replace HX:=Z (HX.1.call JR JS);clear jG JR JS;exact M66):Y:=h
theorem M167(h:Y:=by
 rcases aN.1 HI.1 with⟨he,_⟩|⟨_,b2,o2,xv,dN,fh,fL,du,gX⟩
 ·rw[he];simp
 ·simp at dN;omega):Y:=h
theorem M21(h:Y:=by
 clear hK K;refine rd 7 rfl λK hK=>?_;go_simp;have hh:=ai;clear ai;have hx:=ak wr.drew (.cells #[.int .i64 0,ptr W.heap.size,.string ⟨#[84]⟩,.nilIface] 117);refine(mK wr.drew.heap.size _ _ _ _ hx).mono ?_;rintro eA wB hN;have HN:=Z hN;obtain⟨rfl,n1,n2,n3,n4,n5,n6,n7⟩:=id hN;have aM:=Cz.1;refine hK.out _ _ ((jQi (w:=wr.drew.alloc (.cells #[.int .i64 0,ptr W.heap.size,.string ⟨#[84]⟩,.nilIface] 117)) (n7 _ (jQs hh) (λe=>by(have:W2.heap.size=wr.heap.size:=e);omega))).trans hh) (λai=>?_);have Vv:wB.heap[W2.heap.size]?=_:=(n7 _ (by rw[jQ3];show W2.heap.size<wr.heap.size+1;omega) (λe=>by(have:W2.heap.size=wr.heap.size:=e);omega)).trans (aq ug.1.jl);have q3:wB.cell? ⟨W2.heap.size,1,none⟩=some dv:=by simp[World.cell?,Vv]
 have q4h:(wB.alloc (.cells #[ptr (wr.heap.size+1)] 53)).heap[W2.heap.size]?=_:=aq Vv;have q4:(wB.alloc (.cells #[ptr (wr.heap.size+1)] 53)).cell? ⟨W2.heap.size,1,none⟩=some dv:=by simp[World.cell?,q4h]
 clear Vv q4h;clear hN hx n1 n2 n3 n4 n5 n6 n7;exact M125):Y:=h
theorem M66(h:Y:=by
 go_wp2_with fail;go_ret;exact HX.1.ret (by simp[jc])):Y:=h
theorem M67(h:Y:=by
 have hA:=AI.out;rw[jQf (by first|omega|simp),foldM]at hA;have tS:mid=(q,none):=by simpa using hA.symm
 subst tS;clear hA AI;go_wp2_with fail;go_roundg (l.length - (kk+1))
 case measure=>omega
 case rel=>exact⟨kk+1,q,m9,m9,by go_num,rfl,(sQ.1.trans (BI.out.mono sQ.1.size)),NJ.1,WI.out⟩):Y:=h
theorem M72(h:Y:=by
 have tS:=vH Tn.1;subst tS;have qD:=Ba NJ.1;have hrq:r=q:=by rw[HR.1,qD];rfl
 subst hrq;have LM:((50:Int)<r)=True:=eq_true m9;clear cz;go_wp2_with fail;go_ret;exact⟨rfl,XY.1.trans ((sQ.1.trans ((BI.out.trans (B2.1.mono KV)).mono sQ.1.size)).mono XY.1.size)⟩):Y:=h
def Wi(w:List ah)(k:Nat)(s:Int×Option Int)(x:GT):Option (Int×Option Int):=
 match s.2 with
 |some r=>some (s.1,some r)
 |none=>
  if s.1>50 then some (s.1,some s.1)
  else if x.kind=13 then some (s.1+1,none)
  else(isIface w x).bind λi=>if !i then some (s.1+1,none)else(S.written w k x).map λn=>(s.1+n,none)
def wrO(w:List ah)(k:Nat)(s:Int×Option Int)(e:GT):Option (Int×Option Int):=foldM (Wi w k) s (if e.kind=12 then e.elems else[e])
theorem NI{r:Int}(h:S.written w (k+1) t=some r):∃u,under w t=some u/\
 ((¬u.kind=10/\r=1)\/(u.kind=10/\∃l s,jW u.m u.elems=some l/\foldM (wrO w k) (0,none) l=some s/\r=s.2.getD s.1)):=by
 rw[S.written]at h;obtain⟨u,hu,h⟩:=jQ1.1 h;refine⟨u,hu,?_⟩;by_cases bH:u.kind=10
 ·rw[jQ4 (by simpa using bH)]at h;obtain⟨l,hl,h⟩:=jQ1.1 h;obtain⟨s,hs,h⟩:=jQ6.1 h;exact .inr ⟨bH,l,s,hl,hs,h.symm⟩
 ·rw[jQ7 (by simpa using bH)]at h;exact .inl ⟨bH,by simpa using h.symm⟩
theorem vH{w:List ah}{k:Nat}{n r:Int}:∀{l:List GT} {s:Int×Option Int},foldM (Wi w k) (n,some r) l=some s->s=(n,some r)
 |[],s,h=>by simpa[foldM]using h.symm
 |x::l,s,h=>by
  rw[foldM]at h;exact vH (l:=l) (by simpa[Wi]using h)
theorem Ba{w:List ah}{k:Nat}{n r:Int}:∀{l:List GT} {s:Int×Option Int},foldM (wrO w k) (n,some r) l=some s->s=(n,some r)
 |[],s,h=>by simpa[foldM]using h.symm
 |x::l,s,h=>by
  rw[foldM]at h;obtain⟨s',h1,h2⟩:=jQ1.1 h;have:=vH h1;subst this;exact Ba h2
theorem xK{n:Int}{s:Int×Option Int}(h:Wi w k (n,none) x=some s):
 (n>50/\s=(n,some n))\/(¬n>50/\x.kind=13/\s=(n+1,none))\/(¬n>50/\¬x.kind=13/\isIface w x=some false/\s=(n+1,none))\/
 (¬n>50/\¬x.kind=13/\isIface w x=some true/\∃m,S.written w k x=some m/\s=(n+m,none)):=by
 unfold Wi at h;simp only at h;by_cases h1:n>50
 ·rw[jQ7 h1]at h;exact .inl ⟨h1,by simpa using h.symm⟩
 ·rw[jQ4 h1]at h;by_cases h2:x.kind=13
  ·rw[jQ7 h2]at h;exact .inr (.inl ⟨h1,h2,by simpa using h.symm⟩)
  ·rw[jQ4 h2]at h;obtain⟨i,hi,h⟩:=jQ1.1 h;cases i with
   |false=>exact .inr (.inr (.inl ⟨h1,h2,hi,by simpa using h.symm⟩))
   |true=>
    simp only[jRt,jQk,jR1]at h;obtain⟨m,hm,h⟩:=jQ6.1 h;exact .inr (.inr (.inr ⟨h1,h2,hi,m,hm,h.symm⟩))
def WB(k:Nat)(s:Int×Option Int):Prop:=0<=s.1/\s.1<=51*((k:Int)+1)/\∀r,s.2=some r->0<=r/\r<=51*((k:Int)+1)
theorem kI(ih:∀x m,S.written w k x=some m->0<=m/\m<=51*(k:Int)){s s':Int×Option Int}(hs:WB k s)(h:Wi w k s x=some s'):WB k s':=by
 obtain⟨n,o⟩:=s;cases o with
 |some r=>
  have:s'=(n,some r):=by simpa[Wi]using h.symm
  subst this;exact hs
 |none=>
  obtain⟨h0,h1,_⟩:=hs;simp only at h0 h1;rcases xK h with⟨_,rfl⟩|⟨h2,_,rfl⟩|⟨h2,_,_,rfl⟩|⟨h2,_,_,m,hm,rfl⟩
  ·exact⟨h0,h1,λr e=>by simp at e;subst e;exact⟨h0,h1⟩⟩
  ·exact M137
  ·exact M137
  ·have:=ih x m hm;exact M137
theorem Bb{w:List ah}{k:Nat}(ih:∀x m,S.written w k x=some m->0<=m/\m<=51*(k:Int)):∀{l:List GT} {s s':Int×Option Int},WB k s->foldM (Wi w k) s l=some s'->WB k s'
 |[],s,s',hs,h=>by
  have:s=s':=by simpa[foldM]using h
  subst this;exact hs
 |x::l,s,s',hs,h=>by
  rw[foldM]at h;obtain⟨s1,h1,h2⟩:=jQ1.1 h;exact Bb ih (kI ih hs h1) h2
theorem Bc{w:List ah}{k:Nat}(ih:∀x m,S.written w k x=some m->0<=m/\m<=51*(k:Int)):∀{l:List GT} {s s':Int×Option Int},WB k s->foldM (wrO w k) s l=some s'->WB k s'
 |[],s,s',hs,h=>by
  have:s=s':=by simpa[foldM]using h
  subst this;exact hs
 |x::l,s,s',hs,h=>by
  rw[foldM]at h;obtain⟨s1,h1,h2⟩:=jQ1.1 h;exact Bc ih (Bb ih hs h1) h2
theorem jZ{w:List ah}:∀(k:Nat) (t:GT) (r:Int),S.written w k t=some r->0<=r/\r<=51*(k:Int)
 |0,t,r,h=>by simp[S.written]at h
 |k+1,t,r,h=>by
  obtain⟨u,_,⟨_,rfl⟩|⟨_,l,s,_,hs,rfl⟩⟩:=NI h
  ·omega
  ·obtain⟨h0,h1,h2⟩:=Bc (jZ k) (s:=(0,none)) ⟨i6,by simp only;omega,λr e=>by simp at e⟩ hs;obtain⟨n,o⟩:=s;cases o with
   |none=>simp only[Option.getD]at*;push_cast;exact⟨h0,h1⟩
   |some q=>have:=h2 q rfl;simp only[Option.getD]at*;push_cast;exact this
theorem Tj(k:Nat)(hk:(k:Int)+1<=1125899906842624)(ih:F3 k):F3 (k+1):=by
 intro w ws t r v W D hp hx hv;obtain⟨u,hu,hp⟩:=NI hp;obtain⟨pY,zL,rfl,cH⟩:=hv.bR;obtain⟨wa,wc,rfl⟩:=hx.rd.form;have HA:=Z (an W (bx t pY zL));have dt:=hx.mv HA.1;have ag:=dG w _ t u _ _ D hu dt.lo dt.rd (hv.mv hx.lo HA.1);have HP:=Z hp;have HX:=Z hx;clear hp hx dt hv cH hu;go_enter func129,ntmps129;go_wp2_with fail;refine ag.mono ?_;rintro e w1 ⟨v1,rfl,fP,ar⟩;obtain⟨a1,zd,rfl,cz⟩:=fP.bR;have gj:=ar.size;simp only[jQ3]at gj;have XY:=Z ((HA.1.trans (ar.mono HA.1.size)).alloc m9 (bx u a1 zd));have CT:=Z ((HX.1.mv XY.1).up (n:=W.heap.size+1) (HX.1.lo.mono m9) (by simp;omega));have Tl:=Z ((cz.mv (Up.lo (n:=(W.alloc (bx t pY zL)).heap.size) (HX.1.lo.mono i6) ar.size) (an w1 (bx u a1 zd))).move (D':=Up D (W.heap.size+1) (w1.alloc (bx u a1 zd)).heap.size) (au.refl.wide (Up.mono i6 i6)));obtain⟨c0,c1,c2,c3,c4,c5,c6⟩:=ao (ak w1 (bx u a1 zd));clear cz fP ar ag;rcases HP.1 with⟨bH,rfl⟩|⟨bH,l,fin,hl,lN,hr⟩
 ·have sq:(u.kind !=10)=true:=by simp[bH]
  clear bH;go_wp2_with fail;go_ret;exact⟨rfl,XY.1⟩
 have sq:(u.kind !=10)=false:=by simp[bH]
 obtain⟨a2,xv,pT,su⟩:=RS.from Tl.1 hl;obtain⟨HL,XZ,HR⟩:=Z3 su lN hr;have Wj:l.length<=9223372036854775807:=M171
 clear bH hl lN hr su;go_wp2_with fail;clear c0 c1 c2 c3 c4 c5 c6;generalize Hr:w1.alloc (bx u a1 zd)=wn at XY CT Tl HL;generalize hDN:Up D (W.heap.size+1) wn.heap.size=DN at CT Tl HL
 try rw[Hr]
 go_loopg [6,8,9,11,24] l.length (λgg s6 _ _ _ s24 wr=>∃kk:Nat,∃n:Int,kk<=l.length/\l.length - kk<=gg/\s24=.int .i64 kk/\s6=.int .i64 n/\Aside (Below wn.heap.size wn wr)/\Aside (foldM (wrO w k) (n,none) (l.drop kk)=some fin)/\Aside (WB k (n,none)))
 case atStart=>exact⟨0,0,jQc _,m9,rfl,rfl,jQ5 _ _,by rw[jR0];exact XZ.1,⟨i6,by simp only;omega,λr e=>by simp at e⟩⟩
 case round=>
  obtain⟨kk,n,ez,hg,rfl,rfl,BW,A,WBn⟩:=hrel;by_cases aM:kk<l.length
  ·have aR:(kk:Int)<(l.length:Int):=m9
   obtain⟨e,hek⟩:∃e,l[kk]?=some e:=⟨l[kk],by simp[aM]⟩;have hA:=A.out;rw[drop_at hek]at hA;obtain⟨mid,tS,hA⟩:=ik hA;unfold wrO at tS;rcases aN.1 HL.1 with⟨zh,_⟩|⟨_,b2,o2,xv,dN,ag8,fL,du,gX⟩
   ·rw[zh]at aM;simp at aM
   simp at dN;obtain⟨rfl,rfl⟩:=dN;have hE:=(gX.at hek).move (CT.1.lo.aJ BW.out) du;obtain⟨sa,sc,f0,f1,f2,f3,f4,f5,f6,iL⟩:=hE.bR;have dZ:=BW.out.size;obtain⟨NJ,HWB,pA,Ej⟩:=Z4 hA WBn.out (CT.1.mv BW.out) (dT wr (bx e sa sc) (bx e sa sc));obtain⟨q0,q1,q2,q3,q4,q5,q6⟩:=ao (ak wr (bx e sa sc));obtain⟨d0,d1,d2,d3,d4,d5,d6⟩:=ao (aq (o:=bx e sa sc) (ak wr (bx e sa sc)));clear hE gX hek hA A du WBn;by_cases cQ:e.kind=12
   ·rw[jQ7 cQ]at tS;have tT:(e.kind==12)=true:=by simp[cQ]
    obtain⟨abt,HI,Wk,sQ⟩:=Z4 tS (((RT.X0 iL).mv pA.1.lo Ej.1:RS DN _ e.elems _)) (pA.1.mv Ej.1) (BW.out.trans (Ej.1.mono dZ));clear tS iL cQ;generalize hWI:(wr.alloc (bx e sa sc)).alloc (bx e sa sc)=wi at HI Wk sQ Ej d0 d1 d2 d3 d4 d5 d6;have ag9:e.elems.length<=9223372036854775807:=by
     show e.elems.length<=_;exact M167
    go_wp2_with fail
    try rw[hWI]
    go_loopg [6,11,37] e.elems.length (λgg s6 _ s37 wr=>∃jj:Nat,∃q:Int,jj<=e.elems.length/\e.elems.length - jj<=gg/\s37=.int .i64 jj/\s6=.int .i64 q/\Aside (Below wi.heap.size wi wr)/\Aside (foldM (Wi w k) (q,none) (e.elems.drop jj)=some mid)/\Aside (WB k (q,none)))
    case atStart=>exact⟨0,n,jQc _,m9,rfl,rfl,jQ5 _ _,by rw[jR0];exact abt.1,HWB.1⟩
    case round=>
     obtain⟨jj,q,X1,Dp,rfl,rfl,BI,AI,WI⟩:=hrel;have hwb:=WI.out;obtain⟨abu,F4,_⟩:=hwb
     try simp only at abu F4
     by_cases ee:jj<e.elems.length
     ·have HG:=Z (show jj<e.elems.length/\e.elems.length - jj<=gk from⟨ee,Dp⟩);have qY:(jj:Int)<(e.elems.length:Int):=m9
      obtain⟨x,LL⟩:∃z,e.elems[jj]?=some z:=⟨_,jQp (show jj<e.elems.length from ee)⟩;have hA:=AI.out;rw[drop_at LL]at hA;obtain⟨s1,cz,hA⟩:=ik hA;rcases aN.1 HI.1 with⟨zh,_⟩|⟨_,b3,o3,c3',dN,R6,Kq,I4,hC3⟩
      ·exfalso;have hl:e.elems.length=0:=by rw[zh];rfl
       have fh:e.elems.length=0:=hl;omega
      simp at dN
      first
       |(obtain⟨⟨rfl,rfl⟩,rfl⟩:=dN)
       |(obtain⟨rfl,rfl⟩:=dN)
      have IV:=(hC3.at LL).move (Wk.1.lo.aJ BI.out) I4;obtain⟨xa,xc,f0,f1,f2,f3,f4,f5,f6,hxv⟩:=IV.bR
      skip
      have B2:=Z (an wr (bx x xa xc));have KV:=BI.out.size;obtain⟨qg,En,Dz⟩:=Z3 ((Wk.1.mv BI.out).mv B2.1) (hxv.mv (Wk.1.mv BI.out).lo B2.1) (ak wr (bx x xa xc));obtain⟨e0,e1,e2,e3,e4,e5,e6⟩:=ao Dz.1;have CM:wr.heap.size<(wr.alloc (bx x xa xc)).heap.size:=i6
      have Tn:=Z hA;clear IV hC3 hxv LL hA AI I4 ee X1 Dp;rcases xK cz with⟨Wl,rfl⟩|⟨Wl,cg,rfl⟩|⟨Wl,cg,hi,rfl⟩|⟨Wl,cg,hi,m,hm,rfl⟩
      ·exact M72
      ·have ll:(x.kind==13)=true:=by simp[cg]
       have LM:((50:Int)<q)=False:=eq_false m9;have X2:IntKind.i64.wrap (q+1)=q+1:=wrap64 m9 m9;have wX:=Z (kI (jZ k) WI.out cz);clear cz cg;go_wp2_with fail;go_roundg (e.elems.length - (jj+1))
       case measure=>have:=HG.1;omega
       case rel=>exact⟨jj+1,q+1,by have:=HG.1;omega,by have:=HG.1;omega,by go_num,rfl,BI.out.trans (B2.1.mono KV),Tn.1,wX.1⟩
      ·have ll:(x.kind==13)=false:=by simp[cg]
       have LM:((50:Int)<q)=False:=eq_false m9;have X2:IntKind.i64.wrap (q+1)=q+1:=wrap64 m9 m9;have wX:=Z (kI (jZ k) WI.out cz);have ag:=dh w _ x false _ _ DN hi qg.1.lo qg.1.rd En.1;clear cz cg hi;go_wp2_with fail;refine ag.mono ?_;rintro e' w3 ⟨rfl,aZ⟩;have kL:=Z (B2.1.trans (aZ.mono B2.1.size));clear aZ ag;go_wp2_with fail;go_roundg (e.elems.length - (jj+1))
       case measure=>have:=HG.1;omega
       case rel=>exact⟨jj+1,q+1,by have:=HG.1;omega,by have:=HG.1;omega,by go_num,rfl,BI.out.trans (kL.1.mono KV),Tn.1,wX.1⟩
      ·have ll:(x.kind==13)=false:=by simp[cg]
       have LM:((50:Int)<q)=False:=eq_false m9;have hbm:=jZ k x m hm;have X2:IntKind.i64.wrap (q+m)=q+m:=wrap64 m9 m9;have wX:=Z (kI (jZ k) WI.out cz);have ag:=dh w _ x true _ _ DN hi qg.1.lo qg.1.rd En.1;have HM:=Z hm;clear cz cg hi hm hbm;go_wp2_with fail;refine ag.mono ?_;rintro e' w3 ⟨rfl,aZ⟩;have kL:=Z aZ;obtain⟨e0,e1,e2,e3,e4,e5,e6⟩:=ao (aj aZ Dz.1 CM);have ag:=ih w _ x m _ w3 DN HM.1 (qg.1.mv aZ) (En.1.mv qg.1.lo aZ);clear aZ;go_wp2_with fail;refine ag.mono ?_;rintro e' w4 ⟨rfl,dI⟩;have xL:=Z (B2.1.trans ((kL.1.trans (dI.mono kL.1.size)).mono B2.1.size));clear dI ag;go_wp2_with fail;go_roundg (e.elems.length - (jj+1))
       case measure=>have:=HG.1;omega
       case rel=>exact⟨jj+1,q+m,by have:=HG.1;omega,by have:=HG.1;omega,by go_num,rfl,BI.out.trans (xL.1.mono KV),Tn.1,wX.1⟩
     ·have qY:¬(jj:Int)<(e.elems.length:Int):=m9
      exact M67
   ·rw[jQ4 cQ]at tS;have tT:(e.kind==12)=false:=by simp[cQ]
    have abt:=Z tS;have Ln:Lo DN wr.heap.size:=pA.1.lo;have Wk:=Z (((pA.1.mv Ej.1).up (n:=wr.heap.size+1) (Ln.mono m9) i6));have HI:=Z (show RS (Up DN (wr.heap.size+1) ((wr.alloc (bx e sa sc)).alloc (bx e sa sc)).heap.size) ((wr.alloc (bx e sa sc)).alloc (bx e sa sc)) [e] (.slice (some ⟨wr.heap.size+1,0,none⟩) 1 1)from
     aN.2 (.inr ⟨i6,wr.heap.size+1,0,1,rfl,i6,m9,.inr ⟨m9,i6⟩,by
      rw[RC,RC];have hh:=ak (wr.alloc (bx e sa sc)) (bx e sa sc);rw[jQ3]at hh;exact⟨RE.mk' ((RT.X0 iL).mv Ln Ej.1 |>.move (au.refl.wide (λb hb=>.inl hb))) hh,trivial⟩⟩))
    have sQ:=Z (BW.out.trans (Ej.1.mono dZ));clear tS iL cQ Ln;generalize X3:Up DN (wr.heap.size+1) ((wr.alloc (bx e sa sc)).alloc (bx e sa sc)).heap.size=DI at HI Wk;generalize hWI:(wr.alloc (bx e sa sc)).alloc (bx e sa sc)=wi at HI Wk sQ Ej d0 d1 d2 d3 d4 d5 d6;have ag9:1<=9223372036854775807:=by
     show[e].length<=_;exact M167
    go_wp2_with fail
    try rw[hWI]
    go_loopg [6,11,37] 1 (λgg s6 _ s37 wr=>∃jj:Nat,∃q:Int,jj<=1/\1 - jj<=gg/\s37=.int .i64 jj/\s6=.int .i64 q/\Aside (Below wi.heap.size wi wr)/\Aside (foldM (Wi w k) (q,none) ([e].drop jj)=some mid)/\Aside (WB k (q,none)))
    case atStart=>exact⟨0,n,jQc _,m9,rfl,rfl,jQ5 _ _,by rw[jR0];exact abt.1,HWB.1⟩
    case round=>
     obtain⟨jj,q,X1,Dp,rfl,rfl,BI,AI,WI⟩:=hrel;have hwb:=WI.out;obtain⟨abu,F4,_⟩:=hwb
     try simp only at abu F4
     by_cases ee:jj<1
     ·have HG:=Z (show jj<1/\1 - jj<=gk from⟨ee,Dp⟩);obtain rfl:jj=0:=m9
      obtain⟨x,LL⟩:∃z,[e][0]?=some z:=⟨_,jQp (show 0<[e].length from ee)⟩;have hA:=AI.out;rw[drop_at LL]at hA;obtain⟨s1,cz,hA⟩:=ik hA;rcases aN.1 HI.1 with⟨zh,_⟩|⟨_,b3,o3,c3',dN,R6,Kq,I4,hC3⟩
      ·exfalso;have hl:[e].length=0:=by rw[zh];rfl
       have fh:1=0:=hl;omega
      simp at dN
      first
       |(obtain⟨⟨rfl,rfl⟩,rfl⟩:=dN)
       |(obtain⟨rfl,rfl⟩:=dN)
      have IV:=(hC3.at LL).move (Wk.1.lo.aJ BI.out) I4;obtain⟨xa,xc,f0,f1,f2,f3,f4,f5,f6,hxv⟩:=IV.bR;simp only[Nat.zero_mul,Nat.add_zero]at f0 f1 f2 f3 f4 f5 f6;have B2:=Z (an wr (bx x xa xc));have KV:=BI.out.size;obtain⟨qg,En,Dz⟩:=Z3 ((Wk.1.mv BI.out).mv B2.1) (hxv.mv (Wk.1.mv BI.out).lo B2.1) (ak wr (bx x xa xc));obtain⟨e0,e1,e2,e3,e4,e5,e6⟩:=ao Dz.1;have CM:wr.heap.size<(wr.alloc (bx x xa xc)).heap.size:=i6
      have Tn:=Z hA;clear IV hC3 hxv LL hA AI I4 ee X1 Dp;rcases xK cz with⟨Wl,rfl⟩|⟨Wl,cg,rfl⟩|⟨Wl,cg,hi,rfl⟩|⟨Wl,cg,hi,m,hm,rfl⟩
      ·exact M72
      ·have ll:(x.kind==13)=true:=by simp[cg]
       have LM:((50:Int)<q)=False:=eq_false m9;have X2:IntKind.i64.wrap (q+1)=q+1:=wrap64 m9 m9;have wX:=Z (kI (jZ k) WI.out cz);clear cz cg;go_wp2_with fail;go_roundg (1 - (0+1))
       case measure=>have:=HG.1;omega
       case rel=>exact⟨0+1,q+1,by have:=HG.1;omega,by have:=HG.1;omega,by go_num,rfl,BI.out.trans (B2.1.mono KV),Tn.1,wX.1⟩
      ·have ll:(x.kind==13)=false:=by simp[cg]
       have LM:((50:Int)<q)=False:=eq_false m9;have X2:IntKind.i64.wrap (q+1)=q+1:=wrap64 m9 m9;have wX:=Z (kI (jZ k) WI.out cz);have ag:=dh w _ x false _ _ DI hi qg.1.lo qg.1.rd En.1;clear cz cg hi;go_wp2_with fail;refine ag.mono ?_;rintro e' w3 ⟨rfl,aZ⟩;have kL:=Z (B2.1.trans (aZ.mono B2.1.size));clear aZ ag;go_wp2_with fail;go_roundg (1 - (0+1))
       case measure=>have:=HG.1;omega
       case rel=>exact⟨0+1,q+1,by have:=HG.1;omega,by have:=HG.1;omega,by go_num,rfl,BI.out.trans (kL.1.mono KV),Tn.1,wX.1⟩
      ·have ll:(x.kind==13)=false:=by simp[cg]
       have LM:((50:Int)<q)=False:=eq_false m9;have hbm:=jZ k x m hm;have X2:IntKind.i64.wrap (q+m)=q+m:=wrap64 m9 m9;have wX:=Z (kI (jZ k) WI.out cz);have ag:=dh w _ x true _ _ DI hi qg.1.lo qg.1.rd En.1;have HM:=Z hm;clear cz cg hi hm hbm;go_wp2_with fail;refine ag.mono ?_;rintro e' w3 ⟨rfl,aZ⟩;have kL:=Z aZ;obtain⟨e0,e1,e2,e3,e4,e5,e6⟩:=ao (aj aZ Dz.1 CM);have ag:=ih w _ x m _ w3 DI HM.1 (qg.1.mv aZ) (En.1.mv qg.1.lo aZ);clear aZ;go_wp2_with fail;refine ag.mono ?_;rintro e' w4 ⟨rfl,dI⟩;have xL:=Z (B2.1.trans ((kL.1.trans (dI.mono kL.1.size)).mono B2.1.size));clear dI ag;go_wp2_with fail;go_roundg (1 - (0+1))
       case measure=>have:=HG.1;omega
       case rel=>exact⟨0+1,q+m,by have:=HG.1;omega,by have:=HG.1;omega,by go_num,rfl,BI.out.trans (xL.1.mono KV),Tn.1,wX.1⟩
     ·obtain rfl:jj=1:=m9
      exact M67
  ·have aR:¬(kk:Int)<(l.length:Int):=m9
   have hA:=A.out;rw[jQf m9,foldM]at hA;have qD:fin=(n,none):=by simpa using hA.symm
   have SB:r=n:=by rw[HR.1,qD];rfl
   subst SB;have ej:=Z (XY.1.trans (BW.out.mono XY.1.size));clear hA A;exact M64
theorem xw(k:Nat)(hk:(k:Int)+1<=1125899906842624):mi k/\BC k/\LW k/\TJ k/\Ge k/\F3 k:=by
 induction k with
 |zero=>
  refine⟨?_,?_,?_,?_,?_,?_⟩
  ·intro w ws t g r v W D hp;simp[gT]at hp
  ·intro w ws l r v W D hp;simp[allMeant]at hp
  ·intro w ws t g r v W D hp;simp[fZ]at hp
  ·intro w ws t g r v W D hp;simp[df]at hp
  ·intro w ws t r v W D hp;simp[dY]at hp
  ·intro w ws t r v W D hp;simp[S.written]at hp
 |succ k ih=>
  obtain⟨h1,h2,h3,h4,h5,h6⟩:=ih m9;refine⟨LX k h1 h3 h2,BE k h1,Ut k h4 h2 h6,?_,UZ k h1,Tj k m9 h6⟩;intro w ws t g r v W D hp hx hv;by_cases cQ:t.kind=12
  ·exact afY k h5 w ws t g r v W D hp cQ hx hv
  ·exact acX k h5 w ws t g r v W D hp cQ hx hv
abbrev mbx(m:aH)(a:Option Addr)(c:Nat):Obj:=.cells #[.string m.name,.bool m.ptr,.int .i64 m.sig.kind,.int .i64 m.sig.n,.int .i64 m.sig.m,.bool m.sig.va,.string m.sig.name,.string m.sig.tag,.slice a m.sig.elems.length c] 68
def VDc(D:Nat->Prop)(W:World)(d:ah)(v:Value):Prop:=
 ∃a c a' c',v=.agg #[.int .i64 d.under.kind,.int .i64 d.under.n,.int .i64 d.under.m,.bool d.under.va,.string d.under.name,.string d.under.tag,.slice a d.under.elems.length c,.slice a' d.meths.length c']/\
  RS D W d.under.elems (.slice a d.under.elems.length c)/\RM D W d.meths (.slice a' d.meths.length c')
abbrev CO(d:ah)(a:Option Addr)(c:Nat)(a':Option Addr)(c':Nat):Obj:=
 .cells #[.int .i64 d.under.kind,.int .i64 d.under.n,.int .i64 d.under.m,.bool d.under.va,.string d.under.name,.string d.under.tag,.slice a d.under.elems.length c,.slice a' d.meths.length c'] 42
theorem aiw(x m:aH)(v:Value)(W:World)(D:Nat->Prop)(Bm:Nat)(hv:VM D W x v)(Ez:W.heap[Bm]?=some (mbx m am cm)):
 Calls prog 34 #[v,.pointer (some ⟨Bm,0,none⟩)] W (ef W (aE x.name m.name)):=by
 have X4:=jQ2 Ez;obtain⟨c0, -, -, -, -, -, -, -, -⟩:=uk Ez;obtain⟨a,c,rfl,hs⟩:=hv;have HA:=Z (an W (mbx x a c));clear hs Ez;by_cases hn:x.name=m.name
 ·have iK:=gB hn;have hr:aE x.name m.name=true:=by simp[aE,hn]
  rw[hr];clear hn hr;go_enter func34,ntmps34;exact M34
 ·have iK:=jX hn;have hr:aE x.name m.name=false:=by simp[aE,hn]
  rw[hr];clear hn hr;go_enter func34,ntmps34;exact M34
theorem aiy(f:GT)(kd:Int)(m:aH)(v:Value)(W:World)(D:Nat->Prop)(Bk Bm:Nat)(hv:RT D W f v)(hBk:W.cell? ⟨Bk,0,none⟩=some (.int .i64 kd))(Ez:W.heap[Bm]?=some (mbx m am cm)):
 Calls prog 35 #[v,.pointer (some ⟨Bk,0,none⟩),.pointer (some ⟨Bm,0,none⟩)] W (ef W (kd==5&&aE f.name m.name)):=by
 have X4:=jQ2 Ez;have aiE:=jQs hBk;simp only at aiE;obtain⟨c0, -, -, -, -, -, -, -, -⟩:=uk Ez;obtain⟨a,c,rfl,hs⟩:=hv.bR;have HA:=Z (an W (bx f a c));clear hs hv Ez;by_cases h5:kd=5
 ·have k5:(kd==5)=true:=by simp[h5]
  rw[k5,jRn];clear h5;by_cases hn:f.name=m.name
  ·have iK:=gB hn;have hr:aE f.name m.name=true:=by simp[aE,hn]
   rw[hr];clear hn hr;go_enter func35,ntmps35;exact M34
  ·have iK:=jX hn;have hr:aE f.name m.name=false:=by simp[aE,hn]
   rw[hr];clear hn hr;go_enter func35,ntmps35;exact M34
 ·have k5:(kd==5)=false:=by simp[h5]
  rw[k5,Bool.false_and];clear h5;go_enter func35,ntmps35;exact M34
def pdF(w:List ah)(k:Nat)(d:ah)(p:S.Place)(i:Nat)(m:aH):Option (Option Bool):=
 if !isName m.name then some (some false)else if m.sig.kind≠7 then some (some false)
 else(placed w k m.sig p).bind λb=>if !b then some (some false)
 else if (d.meths.take i).any (λx=>aE x.name m.name)then some (some false)
 else if d.under.elems.any (λf=>d.under.kind==5&&aE f.name m.name)then some (some false)
 else some none
theorem ZB{n:Int}{r:Bool}(h:fS k w d n=some r):
 ((d.under.kind<1\/d.under.kind=2\/d.under.kind>10)/\r=false)\/
 (¬(d.under.kind<1\/d.under.kind=2\/d.under.kind>10)/\((placed w k d.under ⟨n,true,false⟩=some false/\r=false)\/
  (placed w k d.under ⟨n,true,false⟩=some true/\∃rr,rangeM (pdF w k d ⟨n,false,false⟩) 0 d.meths=some rr/\
   ((rr=some r)\/(rr=none/\r=(d.meths.length==0||(d.under.kind !=10&&eM d.under))))))):=by
 unfold fS at h;simp only at h;split at h
 ·rename_i hk;exact .inl ⟨hk,by simpa using h.symm⟩
 ·rename_i hk
  refine .inr ⟨hk,?_⟩;obtain⟨b,hb,h⟩:=jQ1.1 h;cases b with
  |false=>exact .inl ⟨hb,by simpa using h.symm⟩
  |true=>
   simp only[jRt,jQk,jR1]at h;obtain⟨rr,Ay,h⟩:=jQ6.1 h;refine .inr ⟨hb,rr,Ay,?_⟩;cases rr with
   |some b=>exact .inl (by rw[<-h])
   |none=>exact .inr ⟨rfl,h.symm⟩
theorem QS{p:S.Place}{m:aH}{x:Option Bool}(h:pdF w k d p i m=some x):
 (isName m.name=false/\x=some false)\/(isName m.name=true/\m.sig.kind≠7/\x=some false)\/
 (isName m.name=true/\m.sig.kind=7/\((placed w k m.sig p=some false/\x=some false)\/(placed w k m.sig p=some true/\
  (((d.meths.take i).any (λx=>aE x.name m.name)=true/\x=some false)\/((d.meths.take i).any (λx=>aE x.name m.name)=false/\
   ((d.under.elems.any (λf=>d.under.kind==5&&aE f.name m.name)=true/\x=some false)\/(d.under.elems.any (λf=>d.under.kind==5&&aE f.name m.name)=false/\x=none))))))):=by
 unfold pdF at h;cases h1:isName m.name with
 |false=>rw[h1]at h;exact .inl ⟨rfl,by simpa using h.symm⟩
 |true=>
  rw[h1]at h;simp only[jRt,jQk,jR1]at h;split at h
  ·rename_i h7;exact .inr (.inl ⟨rfl,h7,by simpa using h.symm⟩)
  ·rename_i h7
   refine .inr (.inr ⟨rfl,by simpa using h7,?_⟩);obtain⟨b,hb,h⟩:=jQ1.1 h;cases b with
   |false=>exact .inl ⟨hb,by simpa using h.symm⟩
   |true=>
    simp only[jRt,jQk,jR1]at h;refine .inr ⟨hb,?_⟩;split at h
    ·rename_i h2;exact .inl ⟨h2,by simpa using h.symm⟩
    ·rename_i h2
     refine .inr ⟨by simpa using h2,?_⟩;split at h
     ·rename_i h3;exact .inl ⟨h3,by simpa using h.symm⟩
     ·rename_i h3;exact .inr ⟨by simpa using h3,by simpa using h.symm⟩
section
variable{S:Sg}
theorem Ia(hTs:∀S D obj,dS NS Q w S D obj rs K r)(Df:PT NS Q w 0 fC)(hr:2*J rs false false fC<r)(hK:1<=K)(hp:jE (λb=>b=5) W)(Q5:∃cs t f,W.heap[5]?=some (.cells cs t f))(hd:RD DI W w (.slice a w.length c))(hwl:w.length<=1099511627776)(X3:∀b,DI b->b<W.heap.size)(qy:∀B N,dR NS Q w K B DI N)(hw0:∀(j:Nat) (d:ah),w[j]?=some d->(1<=d.under.kind/\d.under.kind<=10/\d.under.kind≠2)/\PT NS Q w 2 d.under/\d.meths.length<=1099511627776/\(∀m∈d.meths,m.sig.kind=7/\isName m.name=true/\PT NS Q w 2 m.sig)/\(d.meths.map (·.name)).Nodup)(af2:uns w+DY w<=1099511627776)(Wu:∀t,PT NS Q w 0 t->t.kind=10->2*J rs false false t<r)(Wv:2*J rs false false da<r):
 Calls prog 10 #[.slice a w.length c] W (KL NS Q w K DI W):=by
 obtain⟨Zx,Nr,HW0,af3,HQR,zk⟩:=Z6 X3 qy hw0 af2 (And.intro Wu Wv) (show∀(n:Nat) (d:ah),w[n]?=some d->∀m∈d.meths,m.sig.kind=7 from λn d hn m hm=>((hw0 n d hn).2.2.2.1 m hm).1);clear X3 qy hw0 af2 Wu Wv;have lk:=xP ⟨#[112]⟩ ⟨#[112]⟩ W;have Kp:=Z hTs;have ar:=an W (.cells #[.string ⟨#[112]⟩,.string ⟨#[112]⟩] 83);obtain⟨pcs,pty,pf,Nk⟩:=id Q5;have fL:=An (W:=W.alloc (.cells #[.string ⟨#[112]⟩,.string ⟨#[112]⟩] 83)) hTs Df hr (hp.move λb hb=>⟨hb,ar.block b (by subst hb;exact jQ2 Nk)⟩) ⟨pcs,pty,pf,aq Nk⟩;obtain⟨HD,XA,HWL⟩:=Z3 hd Df hwl;clear hTs Df hr hp Q5 Nk hd ar hwl;go_enter func10,ntmps10;go_wp2_with fail;refine rv lk ?_;clear lk;go_wp2_with fail;refine fL.mono ?_;rintro e' W2 ⟨eb,oe,S2,D2,rfl,hE⟩;have HE:=Z hE;clear fL hE;have Kq:=jS 0 none ⟨#[99,111,109,112,97,114,97,98,108,101]⟩ (W2.alloc (.cells (U7 W.heap.size eb .nilIface) 58));have hc4:=GW ((W2.alloc (.cells (U7 W.heap.size eb .nilIface) 58)).alloc (.cells #[.int .i64 0,.pointer none,.string ⟨#[99,111,109,112,97,114,97,98,108,101]⟩,.nilIface] 117));go_wp2_with fail;refine rv Kq ?_;clear Kq;go_wp2_with fail;refine rv hc4 ?_;clear hc4;have JD:(W2.alloc (.cells (U7 W.heap.size eb .nilIface) 58)).heap.size=W2.heap.size+1:=jQ3 _ _;have hz5:(oS ((W2.alloc (.cells (U7 W.heap.size eb .nilIface) 58)).alloc (.cells #[.int .i64 0,.pointer none,.string ⟨#[99,111,109,112,97,114,97,98,108,101]⟩,.nilIface] 117)) true).heap.size=W2.heap.size+6:=by simp[oS,allocs]
 have hoc:(oS ((W2.alloc (.cells (U7 W.heap.size eb .nilIface) 58)).alloc (.cells #[.int .i64 0,.pointer none,.string ⟨#[99,111,109,112,97,114,97,98,108,101]⟩,.nilIface] 117)) true).heap[W2.heap.size+1]?=some (.cells #[.int .i64 0,.pointer none,.string ⟨#[99,111,109,112,97,114,97,98,108,101]⟩,.nilIface] 117):=((pQ _ true).1.block _ (by rw[jQ3,JD];omega)).trans (by rw[<-JD];exact ak _ _);have mO:(oS ((W2.alloc (.cells (U7 W.heap.size eb .nilIface) 58)).alloc (.cells #[.int .i64 0,.pointer none,.string ⟨#[99,111,109,112,97,114,97,98,108,101]⟩,.nilIface] 117)) true).heap[W2.heap.size]?=some (.cells (U7 W.heap.size eb .nilIface) 58):=((pQ _ true).1.block _ (by rw[jQ3,JD];omega)).trans (aq (ak _ _));have Ss:=zt (W2.heap.size+1) (ptr (W2.heap.size+5)) _ _ _ _ hoc;have HZ5:=Z hz5;have Ky:=Z mO;clear JD hoc mO;go_wp2_with fail;refine Ss.mono ?_;rintro e' W6 h6;have H6:=Z h6;obtain⟨rfl,k1,k2,k3,k4,k5,k6,k7⟩:=id h6;have gS:=(k7 W2.heap.size (by rw[hz5];omega) m9).trans Ky.1;have c3:W6.cell? ⟨W2.heap.size,3,none⟩=some .nilIface:=by simp[World.cell?,gS]
 have z3:=cd gS 3;have hpu:=aw gS 3 (.iface 53 (ptr (W2.heap.size+6)));rw[hz5];have lZ:=Z hpu;clear Ss h6 k1 k2 k3 k4 k5 k6 k7 gS hpu hz5;have hoe:oe<W2.heap.size:=by obtain⟨_,_,_,_,_,_,_,ho⟩:=HE.1.nm;exact HE.1.th.mT _ ho.1
 obtain⟨S0,D0,hbp⟩:=afC hK HE.1 hoe H6.1 lZ.1;have HBP:=Z hbp;clear hbp;go_wp2_with fail
 go_loopg [25] w.length (λgg s25 wr=>∃(kk:Nat) (S:Sg) (D:Nat->Prop) (ds os:List Nat) (dv:Value),kk<=w.length/\w.length - kk<=gg/\s25=.int .i64 kk/\ds.length=kk/\BL w K W wr S D W2.heap.size W.heap.size eb (W2.heap.size+6) oe (W2.heap.size+1) ds os dv)
 case atStart=>exact⟨0,S0,D0,[],[],_,jQc _,m9,rfl,rfl,HBP.1.bl⟩
 case round=>
  obtain⟨kk,S,D,ds,os,dv,ez,hg,rfl,Se,j6⟩:=hrel;have pU:=Z j6;by_cases aM:kk<w.length
  ·have aR:(kk:Int)<(w.length:Int):=m9
   have hblk:=j6.jl;have q0:wr.cell? ⟨W2.heap.size,0,none⟩=some (ptr W.heap.size):=by simp[World.cell?,hblk]
   have q1:wr.cell? ⟨W2.heap.size,1,none⟩=some dv:=by simp[World.cell?,hblk]
   have ug:=Z j6.drew;have Cz:=Z (jQ2 hblk);have aaU:(wr.alloc (.cells #[.int .i64 0,ptr W.heap.size,.string ⟨#[84]⟩,.nilIface] 117)).heap[W2.heap.size]?=_:=aq hblk;have q2:(wr.alloc (.cells #[.int .i64 0,ptr W.heap.size,.string ⟨#[84]⟩,.nilIface] 117)).cell? ⟨W2.heap.size,1,none⟩=some dv:=by simp[World.cell?,aaU]
   clear aaU;have kr:=Z (show(ds.map ptr).length+1<=1099511627776 by rw[jR7];have:=HWL.1;omega);clear j6 hblk;go_wp2_with fail;refine jQ9 (S:=(λw'=>w'.cell? ⟨W2.heap.size,0,none⟩=some (ptr W.heap.size))) g9 (q0) (λai=>?_);refine t4 0 1 2 3 ?_;refine tk 5 ?_;refine wpAnyH_ready (rs:=[4,6]) g9 i6 ?_;refine AllReadyH.cons rfl (λK hK=>?_) (AllReadyH.cons rfl (λK hK=>?_) AllReadyH.nil)
   ·go_simp;have hh:=ai;clear ai;refine hK.out _ _ hh (λai=>?_);clear hK K;refine rd 6 rfl λK hK=>?_;go_simp;have hh:=ai;clear ai;refine rv (ud W2.heap.size W.heap.size ⟨#[84]⟩ _ _ _ _ _ wr.drew ug.1.jl) ?_;refine hK.out _ _ (((an _ _).cell (jQs hh)).trans hh) (λai=>?_);exact M21
   ·go_simp;have hh:=ai;clear ai;refine rv (ud W2.heap.size W.heap.size ⟨#[84]⟩ _ _ _ _ _ wr.drew ug.1.jl) ?_;refine hK.out _ _ (((an _ _).cell (jQs hh)).trans hh) (λai=>?_);clear hK K;refine wpAnyH_ready (rs:=[4,7]) g9 i6 ?_;refine AllReadyH.cons rfl (λK hK=>?_) (AllReadyH.cons rfl (λK hK=>?_) AllReadyH.nil)
    ·go_simp;have hh:=ai;clear ai;refine hK.out _ _ hh (λai=>?_);exact M21
    ·go_simp;have hh:=ai;clear ai;have hx:=ak wr.drew (.cells #[.int .i64 0,ptr W.heap.size,.string ⟨#[84]⟩,.nilIface] 117);refine(mK wr.drew.heap.size _ _ _ _ hx).mono ?_;rintro eA wB hN;have HN:=Z hN;obtain⟨rfl,n1,n2,n3,n4,n5,n6,n7⟩:=id hN;have aM:=Cz.1;refine hK.out _ _ ((jQi (w:=wr.drew.alloc (.cells #[.int .i64 0,ptr W.heap.size,.string ⟨#[84]⟩,.nilIface] 117)) (n7 _ (jQs hh) (λe=>by(have:W2.heap.size=wr.heap.size:=e);omega))).trans hh) (λai=>?_);have Vv:wB.heap[W2.heap.size]?=_:=(n7 _ (by rw[jQ3];show W2.heap.size<wr.heap.size+1;omega) (λe=>by(have:W2.heap.size=wr.heap.size:=e);omega)).trans (aq ug.1.jl);have q3:wB.cell? ⟨W2.heap.size,1,none⟩=some dv:=by simp[World.cell?,Vv]
     have q4h:(wB.alloc (.cells #[ptr (wr.heap.size+1)] 53)).heap[W2.heap.size]?=_:=aq Vv;have q4:(wB.alloc (.cells #[ptr (wr.heap.size+1)] 53)).cell? ⟨W2.heap.size,1,none⟩=some dv:=by simp[World.cell?,q4h]
     clear Vv q4h;clear hN hx n1 n2 n3 n4 n5 n6 n7;clear hK K;refine wpAnyH_ready (rs:=[4,8]) g9 i6 ?_;refine AllReadyH.cons rfl (λK hK=>?_) (AllReadyH.cons rfl (λK hK=>?_) AllReadyH.nil)
     ·go_simp;have hh:=ai;clear ai;refine hK.out _ _ hh (λai=>?_);exact M125
     ·go_simp;have hh:=ai;clear ai;refine hK.out _ _ (((an _ _).cell (jQs hh)).trans hh) (λai=>?_);clear hK K;refine rd 4 rfl λK hK=>?_;go_simp;have hh:=ai;clear ai;refine hK.out _ _ hh (λai=>?_);exact M1
  ·have aR:¬(kk:Int)<(w.length:Int):=m9
   have hkw:kk=w.length:=m9
   obtain⟨B,cb,oc,eo,hB,nS,gP⟩:∃(B:Bl) (cb oc:Nat) (σ:BS),W2.heap.size=B.bb/\DG NS Q w K B DI W eb cb oe oc os (λ_=>0) σ wr/\σ.ml=[]:=⟨_,_,_,_,rfl,j6.dg XA.1 m9 Zx.1,rfl⟩;have Kc:=Z nS;have zq:=Z gP;clear j6 pU nS gP HE H6 lZ HBP Ky HZ5 XA;rw[hB];clear hB;go_wp2_with fail
   go_loopg [4,5,42] w.length (λgg _ _ s42 wr=>∃(kk:Nat) (σ:BS),kk<=w.length/\w.length - kk<=gg/\s42=.int .i64 kk/\σ.ml.length<=uns (w.take kk)/\DG NS Q w K B DI W eb cb oe oc os (λi=>if i<kk then 1 else 0) σ wr)
   case atStart=>exact⟨0,eo,jQc _,m9,rfl,by rw[zq.out];simp,Kc.1.re (λi d ob _ _ _ hv=>by simpa using hv)⟩
   case round=>
    clear Kc zq;obtain⟨kk,σ,ez,hg,rfl,gP,nS⟩:=hrel;by_cases aM:kk<w.length
    ·have aR:(kk:Int)<(w.length:Int):=m9
     obtain⟨dd,uD⟩:∃d,w[kk]?=some d:=⟨w[kk],by simp[aM]⟩;have SK:RD DI wr w (.slice a w.length c):=HD.1.move (λb hb=>⟨hb,nS.jJ.block b (Zx.1 b hb)⟩) nS.jJ.size nS.jJ.block;rcases SK with⟨he,_⟩|⟨_,bm,om,cm',dN,fh,fL,kN,hC⟩
     ·exact M102
     simp at dN;obtain⟨rfl,rfl⟩:=dN;obtain⟨hE,ms,f7,jK⟩:=hC.at uD;obtain⟨am,cm,rfl⟩:=jK.form;obtain⟨sa,sc,f0,f1,f2,f3,f4,f5,f6,iL⟩:=hE.bR;have ar:=an wr (CO dd sa sc am cm);have KF:=Z ((Md.start nS.bs).below ar);have Kc:=Z nS;have My:=Z (HW0.1 kk dd uD).1;have nX:=Z (HW0.1 kk dd uD).2.1;have HLM:=Z (show σ.ml.length+nds dd.under<=1099511627776 by
      have h1:=CB uD;have h2:=ME w (kk+1);have h3:=af3.1;omega)
     have zq:=Z gP;have HMK:=Z uD;obtain⟨dk,Xr⟩:∃dk,B.ds[kk]?=some dk:=⟨B.ds[kk]'(by rw[nS.bs.dl];exact aM),by simp[nS.bs.dl,aM]⟩;have Zy:=Z Xr;have nr:=KF.1.bs.row;obtain⟨ra,rc,eD⟩:=nr.form;rw[eD,jR7]at nr;obtain⟨db,DK,rfl,uw,SO⟩:=nr.nth (p:=ptr dk) (by rw[List.getElem?_map,Xr];rfl);have hblk:=KF.1.bs.jl;have KZ:=eD;rw[jR7]at KZ;rw[KZ]at hblk;have hltb:(kk:Int)<(B.ds.length:Int):=by rw[nS.bs.dl];exact aR
     have jz:=ak wr (CO dd sa sc am cm);obtain⟨x0,x1,x2,x3,x4,x5,x6,x7⟩:=nH jz;have iT:(wr.alloc (CO dd sa sc am cm)).cell? ⟨B.bb,1,none⟩=some (.slice (some ⟨db,DK,none⟩) B.ds.length rc):=by simp[World.cell?,hblk]
     have zv:=nS.bs.rn kk dk Xr;have fq:=nS.bs.loc (g:=wr.heap.size) (jQ0 _);have GI:=jQ2 jz;have gV:=Z (show∀mL w',Bs NS Q w K B DI mL w'->Gr B σ mL (wr.alloc (CO dd sa sc am cm)) w'->w'.cell? ⟨B.bb,1,none⟩=some (.slice (some ⟨db,DK,none⟩) B.ds.length rc)/\w'.cell? ⟨db,DK+kk,none⟩=some (ptr dk)/\w'.cell? ⟨wr.heap.size,0,none⟩=some (.int .i64 dd.under.kind)/\w'.cell? ⟨wr.heap.size,1,none⟩=some (.int .i64 dd.under.n)/\w'.cell? ⟨wr.heap.size,2,none⟩=some (.int .i64 dd.under.m)/\w'.cell? ⟨wr.heap.size,3,none⟩=some (.bool dd.under.va)/\w'.cell? ⟨wr.heap.size,4,none⟩=some (.string dd.under.name)/\w'.cell? ⟨wr.heap.size,5,none⟩=some (.string dd.under.tag)/\w'.cell? ⟨wr.heap.size,6,none⟩=some (.slice sa dd.under.elems.length sc)from
      λmL w' h1 h2=>⟨by simp[World.cell?,h1.jl,KZ],(jQi (w:=wr.alloc (CO dd sa sc am cm)) (h2.aJ KF.1.bs db uw).2).trans SO,fq.cell GI h2 x0,fq.cell GI h2 x1,fq.cell GI h2 x2,fq.cell GI h2 x3,fq.cell GI h2 x4,fq.cell GI h2 x5,fq.cell GI h2 x6⟩)
     have C9:=Z (show∀w1 w2:World,w2.heap[B.bb]?=w1.heap[B.bb]?->w2.heap[db]?=w1.heap[db]?->w2.heap[wr.heap.size]?=w1.heap[wr.heap.size]?->(w1.cell? ⟨B.bb,1,none⟩=some (.slice (some ⟨db,DK,none⟩) B.ds.length rc)/\w1.cell? ⟨db,DK+kk,none⟩=some (ptr dk)/\w1.cell? ⟨wr.heap.size,0,none⟩=some (.int .i64 dd.under.kind)/\w1.cell? ⟨wr.heap.size,1,none⟩=some (.int .i64 dd.under.n)/\w1.cell? ⟨wr.heap.size,2,none⟩=some (.int .i64 dd.under.m)/\w1.cell? ⟨wr.heap.size,3,none⟩=some (.bool dd.under.va)/\w1.cell? ⟨wr.heap.size,4,none⟩=some (.string dd.under.name)/\w1.cell? ⟨wr.heap.size,5,none⟩=some (.string dd.under.tag)/\w1.cell? ⟨wr.heap.size,6,none⟩=some (.slice sa dd.under.elems.length sc))->
      (w2.cell? ⟨B.bb,1,none⟩=some (.slice (some ⟨db,DK,none⟩) B.ds.length rc)/\w2.cell? ⟨db,DK+kk,none⟩=some (ptr dk)/\w2.cell? ⟨wr.heap.size,0,none⟩=some (.int .i64 dd.under.kind)/\w2.cell? ⟨wr.heap.size,1,none⟩=some (.int .i64 dd.under.n)/\w2.cell? ⟨wr.heap.size,2,none⟩=some (.int .i64 dd.under.m)/\w2.cell? ⟨wr.heap.size,3,none⟩=some (.bool dd.under.va)/\w2.cell? ⟨wr.heap.size,4,none⟩=some (.string dd.under.name)/\w2.cell? ⟨wr.heap.size,5,none⟩=some (.string dd.under.tag)/\w2.cell? ⟨wr.heap.size,6,none⟩=some (.slice sa dd.under.elems.length sc))from
      λw1 w2 e1 e2 e3 hh=>⟨(jQi (w:=w1) e1).trans hh.1,(jQi (w:=w1) e2).trans hh.2.1,(jQi (w:=w1) e3).trans hh.2.2.1,(jQi (w:=w1) e3).trans hh.2.2.2.1,(jQi (w:=w1) e3).trans hh.2.2.2.2.1,(jQi (w:=w1) e3).trans hh.2.2.2.2.2.1,(jQi (w:=w1) e3).trans hh.2.2.2.2.2.2.1,(jQi (w:=w1) e3).trans hh.2.2.2.2.2.2.2.1,(jQi (w:=w1) e3).trans hh.2.2.2.2.2.2.2.2⟩)
     obtain⟨HRT,HDB,qM,HLT⟩:=Z4 (show∀mL w',Gr B σ mL (wr.alloc (CO dd sa sc am cm)) w'->RT DI w' dd.under (.agg #[.int .i64 dd.under.kind,.int .i64 dd.under.n,.int .i64 dd.under.m,.bool dd.under.va,.string dd.under.name,.string dd.under.tag,.slice sa dd.under.elems.length sc])from λmL w' h=>iL.move (λb hb=>⟨hb,((KF.1.bs.C0 h) b hb).2.trans (ar.block b (nS.bs.di b hb).1)⟩)) uw (show dk<wr.heap.size from nS.bs.th.lI dk _ zv) (jQ0 wr.heap.size);clear gP nS ar jz hE hC jK iL uD Xr nr eD hblk KZ zv fq GI uw SO iT x0 x1 x2 x3 x4 x5 x6 x7;go_wp2_with fail;clear f0 f1 f2 f3 f4 f5 f6 f7;generalize wr.alloc (CO dd sa sc am cm)=wq at KF gV HRT⊢;have rG:=Z (KF.1.below (jQ5 _ _).drew);have Oq:=Z (Gr.below (jQ5 _ _).drew:Gr B σ σ wq wq.drew);refine jQ9 (S:=(λw'=>w'.cell? ⟨B.bb,1,none⟩=some (.slice (some ⟨db,DK,none⟩) B.ds.length rc)/\w'.cell? ⟨db,DK+kk,none⟩=some (ptr dk)/\w'.cell? ⟨wr.heap.size,0,none⟩=some (.int .i64 dd.under.kind)/\w'.cell? ⟨wr.heap.size,1,none⟩=some (.int .i64 dd.under.n)/\w'.cell? ⟨wr.heap.size,2,none⟩=some (.int .i64 dd.under.m)/\w'.cell? ⟨wr.heap.size,3,none⟩=some (.bool dd.under.va)/\w'.cell? ⟨wr.heap.size,4,none⟩=some (.string dd.under.name)/\w'.cell? ⟨wr.heap.size,5,none⟩=some (.string dd.under.tag)/\w'.cell? ⟨wr.heap.size,6,none⟩=some (.slice sa dd.under.elems.length sc))) g9 (gV.1 _ _ rG.1.bs Oq.1) (λai=>?_);refine t4 0 1 2 3 ?_;refine t4 4 5 6 7 ?_;refine t2 8 9 ?_;refine rd 10 rfl λK hK=>?_;go_simp;clear ai;refine(Nr.1 B (nds dd.under) dd.under σ _ _ (jQ0 _) nX.1 rG.1.bs (HRT.1 _ _ Oq.1) HLM.1).mono ?_;rintro eA wA ⟨u,fT,rfl,cq,hu⟩;have oU:=Z (rG.1.trans cq);have rQ:=Z (Oq.1.trans cq.gr);obtain⟨T,f,bu,rfl,⟨hm,pC⟩,jL⟩:=PF (w:=w) (W:=wA) hu My.1.1 My.1.2.1 My.1.2.2;have lx:=Z jL;have HDA:=Z (Kc.1.gr zk.1 oU.1);refine hK.out _ _ (gV.1 _ _ oU.1.bs rQ.1) (λai=>?_);clear cq hu jL;clear hK K;refine rd 11 rfl λK hK=>?_;go_simp;have hh:=ai;clear ai;refine lx.1.mono ?_;rintro eA wB ⟨v',rfl,zw,hw⟩;replace hw:=hw.symm;subst hw;have fx:=zw.same (Bn w My.1.2.2 (by have:=My.1.2.1;omega) (by have:=My.1.2.1;omega) (by have:=My.1.2.1;omega));obtain⟨b',rfl, -⟩:=id fx;have QU:=Z fx;refine hK.out _ _ hh (λai=>?_);clear hh zw fx hm pC;clear hK K;refine rd 12 rfl λK hK=>?_;go_simp;have hh:=ai;clear ai;obtain⟨ob',Wf,k1,k2,k3,k4, -⟩:=HDA.1.dec kk dk Zy.1;refine(vd dk ob' true (tid dd.under.kind) (ptr b') (.slice none 0 0) wA (OC My.1.1 My.1.2.1 My.1.2.2).1 (OC My.1.1 My.1.2.1 My.1.2.2).2 (k4 i6)).mono ?_;rintro eA wC ⟨rfl,hp⟩;have lZ:=Z hp;have HK4:=Z k1;have zv:=HDA.1.bs.rn kk dk Zy.1;have q1:B.bb≠dk:=λe=>by have:=HDA.1.bs.kJ.1;rw[e,zv]at this;cases this
     have q2:db≠dk:=λe=>HDA.1.bs.th.rS dk _ zv (e▸rQ.1.Jo _ HDB.1);have q3:wr.heap.size≠dk:=λe=>by have:=qM.1;have:=HLT.1;omega
     refine hK.out _ _ (C9.1 _ _ (hp.other _ q1) (hp.other _ q2) (hp.other _ q3) hh) (λai=>?_);clear hh k1 k2 k3 k4 hp q1 q2 q3 zv;clear hK K;refine jQl g9 ?_ _;clear ai;have rO:w.length<=9223372036854775807:=by have:=HWL.1;omega
     go_wp2_with fail;go_roundg (w.length - (kk+1))
     case measure=>omega
     case rel=>
      have O4:=HMK.1;refine⟨kk+1,fT,m9,m9,by go_num,?_,HDA.1.put zk.1 Zy.1 HK4.1 lZ.1 ?_ (λi=>?_)⟩
      ·rw[CB O4];have:=oU.1.len;have:=zq.out;omega
      ·have e1:oZ w (r9 kk)=dd.under:=by
        have:(r9 kk).n.toNat=kk:=by simp[r9,GT.n]
        unfold oZ;rw[this,O4];rfl
       rw[e1];exact QU.1
      ·by_cases h1:i=kk
       ·rw[jQ7 h1];simp[h1]
       ·rw[jQ4 h1];by_cases h2:i<kk
        ·rw[jQ7 h2,jQ7 m9]
        ·rw[jQ4 h2,jQ4 m9]
    ·have aR:¬(kk:Int)<(w.length:Int):=m9
     have Vx:DG NS Q w K B DI W eb cb oe oc os (λi=>if i<0 then 2 else 1) σ wr:=nS.re (λi d ob hd _ _ hv=>by
      have hi:=(jQg.1 hd).1;rw[nS.bs.dl]at hi;have e1:(if i<kk then 1 else 0)=1:=jQ7 m9;have e2:(if i<0 then 2 else 1)=1:=jQ4 m9;rw[e1]at hv;rw[e2];exact hv)
     have Kc:=Z Vx;have zq:=Z (show σ.ml.length<=uns w by have:=ME w kk;omega);obtain⟨Ie,hσ⟩:∃Ie,Ie=σ:=⟨_,rfl⟩;rw[<-hσ]at Kc zq;clear nS Vx gP hσ ez hg;go_wp2_with fail
     go_loopg [6,7,9,63] w.length (λgg _ _ _ s63 wr=>∃(kk:Nat) (σ:BS),kk<=w.length/\w.length - kk<=gg/\s63=.int .i64 kk/\σ.ml.length<=uns w+DY (w.take kk)/\DG NS Q w K B DI W eb cb oe oc os (λi=>if i<kk then 2 else 1) σ wr)
     case atStart=>exact⟨0,Ie,jQc _,m9,rfl,jQd zq.out (Nat.le_add_right _ _),Kc.1⟩
     case round=>
      clear Kc zq;obtain⟨kk,σ,ez,hg,rfl,gP,nS⟩:=hrel;by_cases aM:kk<w.length
      ·have aR:(kk:Int)<(w.length:Int):=m9
       obtain⟨dd,uD⟩:∃d,w[kk]?=some d:=⟨w[kk],by simp[aM]⟩;have SK:RD DI wr w (.slice a w.length c):=HD.1.move (λb hb=>⟨hb,nS.jJ.block b (Zx.1 b hb)⟩) nS.jJ.size nS.jJ.block;rcases SK with⟨he,_⟩|⟨_,bm,om,cm',dN,fh,fL,kN,hC⟩
       ·exact M102
       simp at dN;obtain⟨rfl,rfl⟩:=dN;obtain⟨hE,ms,f7,jK⟩:=hC.at uD;obtain⟨am,cm,rfl⟩:=jK.form;obtain⟨sa,sc,f0,f1,f2,f3,f4,f5,f6,iL⟩:=hE.bR;have R5:=Z (jK.move (λb hb=>⟨hb,(nS.jJ.block b (Zx.1 b hb)).symm⟩:au DI DI wr W));have yT:dd.meths.length<=9223372036854775807:=by have:=(HW0.1 kk dd uD).2.2.1;omega
       have OL:=Z (HW0.1 kk dd uD);have HMK:=Z uD;obtain⟨dk,Xr⟩:∃dk,B.ds[kk]?=some dk:=⟨B.ds[kk]'(by rw[nS.bs.dl];exact aM),by simp[nS.bs.dl,aM]⟩;have Zy:=Z Xr;have Vx:=nS.gr zk.1 ((Md.start nS.bs).below (an wr (CO dd sa sc am cm)));obtain⟨ob,nm,ut,k1, -, -,af4,Cv⟩:=Vx.cur Xr i6 (st':=λi=>if i=kk then 3 else if i<kk then 2 else 1) (λi=>rfl);obtain⟨XC,Kc,lx,zq⟩:=Z4 k1 af4 Cv gP;clear gP nS hE hC jK iL uD Xr Vx af4 Cv k1;go_wp2_with fail;clear f0 f1 f2 f3 f4 f5 f6 f7;generalize wr.alloc (CO dd sa sc am cm)=wq at Kc lx⊢;obtain⟨Ie,hσ⟩:∃Ie,Ie=σ:=⟨_,rfl⟩;rw[<-hσ]at Kc lx zq;clear hσ
       go_loopg [9,71] dd.meths.length (λgg _ s71 wr=>∃(mm:Nat) (σ:BS) (ms:Value) (ps:List Value),mm<=dd.meths.length/\dd.meths.length - mm<=gg/\s71=.int .i64 mm/\σ.ml.length<=uns w+DY (w.take kk)+mds (dd.meths.take mm)/\ps.length=mm/\DG NS Q w K B DI W eb cb oe oc os (λi=>if i=kk then 3 else if i<kk then 2 else 1) σ wr/\Kd w B DI W kk dk ob ut ms (dd.meths.take mm) ps σ wr)
       case atStart=>exact⟨0,Ie,_,[],jQc _,m9,rfl,jQd zq.out (Nat.le_add_right _ _),rfl,Kc.1,lx.1⟩
       case round=>
        clear Kc lx zq;obtain⟨mm,σ,ms,ps,kh,Dp,rfl,gP,mR,nS,Cv⟩:=hrel;by_cases ee:mm<dd.meths.length
        ·have qY:(mm:Int)<(dd.meths.length:Int):=m9
         obtain⟨m,hmj⟩:∃m,dd.meths[mm]?=some m:=⟨dd.meths[mm],by simp[ee]⟩;have acT:RM DI wr dd.meths (.slice am dd.meths.length cm):=R5.1.move (λb hb=>⟨hb,nS.jJ.block b (Zx.1 b hb)⟩);rcases acT with⟨he,_⟩|⟨_,b2,o2,xv,dN,D7,Kq,du,hC⟩
         ·rw[he]at ee;simp at ee
         simp at dN;obtain⟨rfl,rfl⟩:=dN;obtain⟨g0,g1,hE⟩:=hC.at hmj;obtain⟨sa2,sc2,f2,f3,f4,f5,f6,f7,f8,iL⟩:=hE.bR;have Ip:∀m'∈dd.meths.take mm,m'.sig.kind=7:=λm' j9=>(OL.out.2.2.2.1 m' (jQt j9)).1;have Dv:=jQ8 hmj;have ar:=an wr (.cells #[.string m.name,.bool m.ptr,.int .i64 m.sig.kind,.int .i64 m.sig.n,.int .i64 m.sig.m,.bool m.sig.va,.string m.sig.name,.string m.sig.tag,.slice sa2 m.sig.elems.length sc2] 68);have Vy:=nS.gr zk.1 ((Md.start nS.bs).below ar);have Vz:=Cv.gr nS.bs Zy.1 Ip (Gr.below ar);obtain⟨ob',Wf,e1,e2,e3, -⟩:=Vy.dec kk dk Zy.1;rw[XC.1]at e1;obtain rfl:=jQw e1;obtain⟨sa3,sc3,e4,hss⟩:=iL.bR;simp at e4;obtain⟨rfl,rfl⟩:=e4;have cF:σ.ml.length+nds m.sig<=1099511627776:=by
          have h1:=CD hmj;have h2:=MF dd.meths (mm+1);have h3:=CE HMK.1;have h4:=VA w (kk+1);have h5:=af3.1;omega
         have yN:=Zz OL.out.2.2.2.2 (l1:=dd.meths.take mm) (m:=m) (l2:=dd.meths.drop (mm+1)) (by
          have h1:=(jQg.1 hmj);obtain⟨h2,h3⟩:=h1;rw[<-h3,<-jQv h2,jRo])
         have ag:=DS (Nr.1 B) rfl Vy.bs Zy.1 Vz.jl e2 e3 Vz.row Vy.jJ.size Vz.meths (λm' j9=>⟨(OL.out.2.2.2.1 m' (jQt j9)).1,(OL.out.2.2.2.1 m' (jQt j9)).2.1⟩) (OL.out.2.2.2.1 m Dv).1 (OL.out.2.2.2.1 m Dv).2.1 yN (OL.out.2.2.2.1 m Dv).2.2
          (hss.move (λb hb=>⟨hb,ar.block b (nS.bs.di b hb).1⟩)) cF (by rw[mR];have:=OL.out.2.2.1;omega)
         obtain⟨HDQ,HCQ,Hn,HMJ,zq⟩:=Z5 Vy Vz (And.intro Ip (OL.out.2.2.2.1 m Dv).1) hmj (And.intro gP mR);clear gP mR nS Cv hC hE iL hss Ip ar Vy Vz e2 e3 cF yN Dv hmj e1;go_wp2_with fail;clear g0 g1 f2 f3 f4 f5 f6 f7 f8;refine ag.mono ?_;rintro eA wA Q9;have af5:=Q9;obtain⟨rfl, -⟩:=Q9;obtain⟨aO,p,xX,af6,af7,af8, -⟩:=HDQ.1.YI zk.1 HCQ.1 Zy.1 i6 Hn.1.1 Hn.1.2 af5;obtain⟨Kc,lx,rG⟩:=Z3 af6 af7 af8;clear ag af5 af6 af7 af8;go_wp2_with fail;go_roundg (dd.meths.length - (mm+1))
         case measure=>omega
         case rel=>
          refine⟨mm+1,aO,xX,ps++[p],m9,m9,by go_num,?_,by rw[jQo,zq.out.2];rfl,Kc.1,?_⟩
          ·rw[CD HMJ.1];have:=zq.out.1;have:=rG.1;omega
          ·rw[jRm,HMJ.1];exact lx.1
        ·have qY:¬(mm:Int)<(dd.meths.length:Int):=m9
         obtain⟨D',Ot⟩:=nS.done zk.1 Cv Zy.1 XC.1 HMK.1 (jR6 m9) (st':=λi=>if i<kk+1 then 2 else 1) (λi=>by
          by_cases h1:i=kk
          ·rw[jQ7 h1,jQ7 m9]
          ·rw[jQ4 h1,jQ4 h1];by_cases h2:i<kk
           ·rw[jQ7 h2,jQ7 m9]
           ·rw[jQ4 h2,jQ4 m9])
         have HDN:=Z Ot;have zq:=Z (show σ.ml.length<=uns w+DY (w.take (kk+1))by
          rw[CE HMK.1];have:=MF dd.meths mm;omega)
         clear nS Cv Ot gP;have rO:w.length<=9223372036854775807:=by have:=HWL.1;omega
         go_wp2_with fail;go_roundg (w.length - (kk+1))
         case measure=>omega
         case rel=>exact⟨kk+1,{σ with D:=D'},m9,m9,by go_num,zq.out,HDN.out⟩
      ·have aR:¬(kk:Int)<(w.length:Int):=m9
       obtain⟨obj,dU⟩:=nS.nmi (λj hj=>jQ7 m9);have ag:=rF (Kp.1 σ.S σ.D obj) zk.1 nS.bs dU (nS.bs.rk HQR.1.1 HQR.1.2);have Kc:=Z nS;clear nS dU gP;go_wp2_with fail;refine ag.mono ?_;rintro eA wA ⟨rfl,Q5⟩;have HPC:=Z (VB Kc.1 Q5);clear ag Q5;go_wp2_with fail;go_ret;exact HPC.1
end
section
variable{S:Sg}
theorem KW(h:yn S D E W sb s):Calls prog 155 #[ptr sb] W (dL W (.bool (!s.comp&&isAllL s.terms))):=by
 obtain⟨ms,tl,ps, -, -, -,hb, -, -, -,hl⟩:=h;have ag:=fI hl;obtain⟨c0,c1,c2,c3⟩:=dx hb;obtain⟨a,c,rfl⟩:=hl.form;generalize isAllL s.terms=al at*;generalize s.comp=co at*;clear hb hl;cases co
 ·go_enter func155,ntmps155;exact M95
 ·go_enter func155,ntmps155;exact M9
theorem Dd(h:yn S D E W sb s):Calls prog 117 #[ptr sb] W (dL W (.bool (!s.comp&&isAllL s.terms&&s.meths.length==0))):=by
 have ag:=KW h;obtain⟨ms,tl,ps, -, -, -,hb, -,hr,ha, -⟩:=h;obtain⟨c0,c1,c2,c3⟩:=dx hb;obtain⟨a,c,rfl⟩:=hr.form;rw[ha.len];generalize(!s.comp&&isAllL s.terms)=z at*;clear hb hr ha;cases z
 ·go_enter func117,ntmps117;exact M95
 ·go_enter func117,ntmps117;go_wp2_with fail;refine rv ag ?_;go_wp2_with fail;go_ret;exact⟨by congr 2;cases ps<;>simp<;>omega,rfl⟩
end
section
variable{S:Sg}
theorem ny(hT:dS NS Q w S D obj rs K r)(bD:Ok w S D obj rs K E r W)(hs:S b=some (aG t))(cP:Fb NS Q w t)(AB:2*J rs false false t<r):
 Calls prog 71 #[ptr b] W (aV w S D obj rs K E r W λv _=>v=.bool (!((fs w K).ts t).comp&&isAllL ((fs w K).ts t).terms&&((fs w K).ts t).meths.length==0)):=by
 have ag:=bG hT bD hs cP AB;generalize(fs w K).ts t=s at*;clear hT bD hs cP;go_enter func71,ntmps71;go_wp2_with fail;refine ag.mono ?_;rintro e' w1 ⟨v6,rfl,⟨sb,rfl,fi⟩,mx,wG⟩;have hc:=Dd fi;have HP:=Z (⟨mx,wG⟩:Ok w S D obj rs K E r w1/\Fr S rs r W w1);clear fi mx wG ag;go_wp2_with fail;refine rv hc ?_;go_wp2_with fail;go_ret;exact⟨_,rfl,rfl,HP.1.1,HP.1.2⟩
end
section
variable{S:Sg}
theorem MM(hE:Env NS Q w rs cs)(hC:dE NS Q w S D obj rs K r)(hT:dS NS Q w S D obj rs K r)(sX:r<=K)(bD:Ok w S D obj rs K E r W)(hs:S b=some (aG t))(cP:Fb NS Q w t)(AB:2*J rs false false t<r):
 Calls prog 77 #[ptr b] W (aV w S D obj rs K E r W λv _=>v=.bool (lB (fs w K) ((fs w K).ts t))):=by
 have ag:=bG hT bD hs cP AB;have CS:=Z (vh hE.wk hE.qp hE.te r K sX _ cP AB).nf;have Td:=Z ((eZ hE.wk hE.qp r K K sX sX).2 _ cP AB).terms;have fw:2*J rs false false t<=r:=m9
 have HE:=Z hE;have HC:=Z hC;rw[A3];generalize(fs w K).ts t=s at*;generalize bo:(if isAllL s.terms then s.comp else if aK s.terms then false else s.terms.all (A4 (fs w K)))=res;have bM:=Z bo;clear hT bD hs cP hE hC bo;go_enter func77,ntmps77;go_wp2_with fail;refine ag.mono ?_;rintro e' w1 ⟨v6,rfl,⟨sb,rfl,fi⟩,mx,wG⟩;have hc:=qX (so:=none) (G:=λ_=>False) HE.1 HC.1 mx fi.jl CS.1 Td.1 fw (λq s hq _=>hq.elim) (λb h=>by cases h);have HF:=Z wG;rw[bM.1]at hc;clear fi mx wG ag;go_wp2_with fail;refine hc.mono ?_;rintro e' w2 ⟨rfl,iG,j3, -⟩;have HP:=Z (⟨iG,HF.1.trans (j3.wide λb h=>by cases h)⟩:Ok w S D obj rs K E r w2/\Fr S rs r W w2);clear iG j3 hc;go_wp2_with fail;go_ret;exact⟨_,rfl,rfl,HP.1.1,HP.1.2⟩
theorem QE(hE:Env NS Q w rs cs)(hC:dE NS Q w S D obj rs K r)(hT:dS NS Q w S D obj rs K r)(sX:r<=K)(bD:Ok w S D obj rs K E r W)(hs:S b=some (aG t))(cP:Fb NS Q w t)(AB:2*J rs false false t<r)(hv:dq S v vt)(pv:PT NS Q w 0 vt)(rv:2*J rs true false vt+1<r)(cT:W.cell? ⟨bT,0,none⟩=some (ptr b))(cV:W.cell? ⟨bV,0,none⟩=some v)(cC:W.cell? ⟨bC,0,none⟩=some (.bool con))(cK:W.cell? ⟨bK,0,none⟩=some (.pointer none))(nV:S bV=none)(nC:S bC=none)(nK:S bK=none):
 Calls prog 76 #[ptr bT,ptr bV,ptr bC,ptr bK] W (aV w S D obj rs K E r W λu _=>u=.bool (!lB (fs w K) ((fs w K).ts t)||(fs w K).cmp vt false||(con&&(fs w K).cmp vt true))):=by
 have ag:=MM hE hC hT sX bD hs cP AB;have HV:=Z hv;obtain⟨b0,rfl, -⟩:=id hv;have HC0:=Z (λw' (ho:Ok w S D obj rs K E r w')=>wu hC ho (d:=false) HV.1 pv rv);have HC1:=Z (λw' (ho:Ok w S D obj rs K E r w')=>wu hC ho (d:=true) HV.1 pv rv);generalize tid vt.kind=T0 at*;generalize lB (fs w K) ((fs w K).ts t)=x1 at*;generalize(fs w K).cmp vt false=x2 at*;generalize(fs w K).cmp vt true=x3 at*;obtain⟨CV,CC,CK⟩:=Z3 cV cC cK;clear hE hC hT bD hs cP hv pv rv cV cC cK;go_enter func76,ntmps76;go_wp2_with fail;refine ag.mono ?_;rintro e' w1 ⟨v1,rfl,rfl,mx,wG⟩;have HO1:=Z mx;have D6:=Z wG;clear ag mx wG cT;cases x1
 ·go_wp2_with fail;go_ret;exact⟨_,rfl,rfl,HO1.1,D6.1⟩
 ·have cV:=D6.1.cell nV CV.1;have hc:=HC0.1 w1 HO1.1;go_wp2_with fail;refine hc.mono ?_;rintro e' w2 ⟨u2,rfl,qq,iG,j3⟩;have sr:=Z iG;have rR:=Z (D6.1.trans j3);clear hc iG j3 cV;rcases qq with⟨rfl,rfl⟩|⟨b2,rfl,rfl⟩
  ·go_wp2_with fail;go_ret;exact⟨_,rfl,i6,sr.1,rR.1⟩
  ·have cV:=rR.1.cell nV CV.1;have cC:=rR.1.cell nC CC.1;have hc:=HC1.1 w2 sr.1;cases con with
   |false=>
    go_wp2_with fail;go_ret;exact⟨_,rfl,rfl,sr.1,rR.1⟩
   |true=>
    go_wp2_with fail;refine hc.mono ?_;rintro e' w3 ⟨u3,rfl,hu3,agl,agm⟩;have WD:=Z agl;have Ka:=Z (rR.1.trans agm);have cK:=Ka.1.cell nK CK.1;clear hc agl agm cV cC;rcases hu3 with⟨rfl,rfl⟩|⟨b3,rfl,rfl⟩
    ·go_wp2_with fail;go_ret;exact⟨_,rfl,i6,WD.1,Ka.1⟩
    ·go_wp2_with fail;go_ret;exact⟨_,rfl,i6,WD.1,Ka.1⟩
end
section
variable{S:Sg}
def Y4(W:World)(v:Value)(con:Bool):World:=((W.alloc (.cells #[.pointer none] 71)).alloc (.cells #[v] 37)).alloc (.cells #[.bool con] 4)
theorem QC(W:World)(v:Value)(con:Bool):Below W.heap.size W (Y4 W v con)/\(Y4 W v con).cell? ⟨W.heap.size,0,none⟩=some (.pointer none)/\(Y4 W v con).cell? ⟨W.heap.size+1,0,none⟩=some v/\(Y4 W v con).cell? ⟨W.heap.size+2,0,none⟩=some (.bool con)/\(Y4 W v con).heap.size=W.heap.size+3:=by
 have h1:=an W (.cells #[.pointer none] 71);have h2:=an (W.alloc (.cells #[.pointer none] 71)) (.cells #[v] 37);have h3:=an ((W.alloc (.cells #[.pointer none] 71)).alloc (.cells #[v] 37)) (.cells #[.bool con] 4);have s1:(W.alloc (.cells #[.pointer none] 71)).heap.size=W.heap.size+1:=by show(W.heap.push _).size=W.heap.size+1;simp
 have s2:((W.alloc (.cells #[.pointer none] 71)).alloc (.cells #[v] 37)).heap.size=W.heap.size+2:=by show((W.heap.push _).push _).size=W.heap.size+2;simp
 have e1:=ak W (.cells #[.pointer none] 71);have e2:=ak (W.alloc (.cells #[.pointer none] 71)) (.cells #[v] 37);have e3:=ak ((W.alloc (.cells #[.pointer none] 71)).alloc (.cells #[v] 37)) (.cells #[.bool con] 4);rw[s1]at e2;rw[s2]at e3;rw[s1]at h2;rw[s2]at h3;refine⟨h1.trans ((h2.mono m9).trans (h3.mono m9)),jQh ((h3.block _ m9).trans ((h2.block _ m9).trans e1)),jQh ((h3.block _ m9).trans e2),jQh e3,?_⟩;show(((W.heap.push _).push _).push _).size=W.heap.size+3;simp
def jc(x1 iv x2 x3 x4 x5 x6 cc:Bool):Bool:=if x1 then true else if iv&&x2 then true else if x3 then false else if !x4 then false else if x5 then cc else x6&&cc
theorem sd{F:Fs}{v:GT}(cP:isIf (az w t)=true):impl F w v t con=
 jc (!(F.ts (az w t)).comp&&isAllL (F.ts (az w t)).terms&&(F.ts (az w t)).meths.length==0) (isIf (az w v)) (aK (F.ts (az w v)).terms) (aK (F.ts (az w t)).terms) (eh F w v (F.ts (az w t)).meths) (isAllL (F.ts (az w t)).terms)
  (if isIf (az w v)then nJ F.id w (F.ts (az w v)).terms (F.ts (az w t)).terms else(F.ts (az w t)).terms.any λx=>CZ F.id w x v) (!lB F (F.ts (az w t))||F.cmp v false||(con&&F.cmp v true)):=by
 unfold impl jc;simp only[cP];cases isIf (az w v)<;>simp
structure Im0(NS:List ByteArray)(Q:GT->Prop)(w:List ah)(S:Sg)(D:Nat->Prop)(obj:Nat->Nat)(rs:List Nat)(K r:Nat)(E:Nat->Prop)(W:World)(v u:Value)(vt tt:GT):Prop where
 ok:Ok w S D obj rs K E r W
 hv:dq S v vt
 pv:PT NS Q w 0 vt
 hu:dq S u tt
 pu:VT NS Q w tt
 Qb:isIf (az w tt)=true
 iu:Fb NS Q w (az w tt)
 rt:2*J rs false false (az w tt)<r
 iv:isIf (az w vt)=true->Fb NS Q w (az w vt)/\2*J rs false false (az w vt)<r
 rv:2*J rs true false vt+1<r
 nm:((fs w K).ts (az w tt)).meths=[]
 al:isAllL ((fs w K).ts (az w tt)).terms=true
structure WJ(w:List ah)(S:Sg)(D:Nat->Prop)(obj:Nat->Nat)(rs:List Nat)(K:Nat)(E:Nat->Prop)(r:Nat)(W:World)(v:Value)(con:Bool)(W':World):Prop where
 ok:Ok w S D obj rs K E r W'
 fr:Fr S rs r W W'
 n0:S W.heap.size=none/\S (W.heap.size+1)=none/\S (W.heap.size+2)=none
 c5:W'.cell? ⟨W.heap.size,0,none⟩=some (.pointer none)
 c6:W'.cell? ⟨W.heap.size+1,0,none⟩=some v
 c8:W'.cell? ⟨W.heap.size+2,0,none⟩=some (.bool con)
theorem WJ.start(hE:Env NS Q w rs cs)(bD:Ok w S D obj rs K E r W):WJ w S D obj rs K E r W v con (Y4 W v con):=by
 obtain⟨h1,h2,h3,h4,h5⟩:=QC W v con;have hn:∀b,W.heap.size<=b->S b=none:=λb hb=>by
  cases hs:S b with
  |none=>rfl
  |some s=>have:=bD.gh.lI b s hs;omega
 exact⟨bD.below hE.hs h1,Below.fr h1,⟨hn _ m9,hn _ m9,hn _ m9⟩,h2,h3,h4⟩
theorem WJ.call(h:WJ w S D obj rs K E r W v con W1)(ho:Ok w S D obj rs K E r W2)(hf:Fr S rs r W1 W2):WJ w S D obj rs K E r W v con W2:=
 ⟨ho,h.fr.trans hf,h.n0,hf.cell h.n0.1 h.c5,hf.cell h.n0.2.1 h.c6,hf.cell h.n0.2.2 h.c8⟩
structure zp(w:List ah)(S:Sg)(D:Nat->Prop)(obj:Nat->Nat)(rs:List Nat)(K:Nat)(E:Nat->Prop)(r:Nat)(W:World)(v:Value)(con:Bool)(m b:Nat)(W':World):Prop extends WJ w S D obj rs K E r W v con W' where
 nm:S m=none
 mz:W.heap.size<=m
 sH:W'.cell? ⟨m,0,none⟩=some (ptr b)
theorem zp.start(hE:Env NS Q w rs cs)(h:WJ w S D obj rs K E r W v con W1):zp w S D obj rs K E r W v con W1.heap.size b2 (W1.alloc (.cells #[ptr b2] 33)):=by
 have hb:=an W1 (.cells #[ptr b2] 33);have hn:S W1.heap.size=none:=by
  cases hs:S W1.heap.size with
  |none=>rfl
  |some s=>have:=h.ok.gh.lI _ s hs;omega
 exact⟨h.call (h.ok.below hE.hs hb) (Below.fr hb),hn,h.fr.size,jQh (ak _ _)⟩
theorem zp.call(h:zp w S D obj rs K E r W v con m b2 W1)(ho:Ok w S D obj rs K E r W2)(hf:Fr S rs r W1 W2):zp w S D obj rs K E r W v con m b2 W2:=
 ⟨h.toWJ.call ho hf,h.nm,h.mz,hf.cell h.nm h.sH⟩
theorem zp.ret(h:zp w S D obj rs K E r W v con m b2 W1){x:Bool}(hx:x=y):aV w S D obj rs K E r W (λu _=>u=.bool y) (.returned (.bool x)) W1:=⟨_,rfl,by rw[hx],h.ok,h.fr⟩
theorem UD(hE:Env NS Q w rs cs)(hC:dE NS Q w S D obj rs K r)(hT:dS NS Q w S D obj rs K r)(sX:r<=K)(A:Im0 NS Q w S D obj rs K r E0 W0 v u vt tt)(h:zp w S D obj rs K E' r W v con m b2 W1)(hs:S b2=some (aG (az w tt))):
 Calls prog 76 #[ptr m,ptr (W.heap.size+1),ptr (W.heap.size+2),ptr W.heap.size] W1 (aV w S D obj rs K E' r W1 λu _=>u=.bool (!lB (fs w K) ((fs w K).ts (az w tt))||(fs w K).cmp vt false||(con&&(fs w K).cmp vt true))):=
 QE hE hC hT sX h.ok hs A.iu A.rt A.hv A.pv A.rv h.sH h.c6 h.c8 h.c5 h.n0.2.1 h.n0.2.2 h.n0.1
theorem JJ(hE:Env NS Q w rs cs)(h:PT NS Q w 0 t):(una (az w t)).kind=1->0<=(una (az w t)).n:=by
 cases hi:isIf (az w t)with
 |true=>
  exact M155
 |false=>exact AE hE.qp (fE hE.wk hE.qp h hi)
theorem Ml(hi:isIf (az w t)=true):(una (az w t)).kind=1->0<=(una (az w t)).n:=M155
@[go_sem ↓] theorem asInterface_must0(v:Value)(x:TypeId)(w:World):(Instr.typeAssert (.iface 33 v) x 33 false).run prog w=.ok v w:=g9
theorem mm0_calls(hE:Env NS Q w rs cs)(hT:dS NS Q w S D obj rs K r)(A:Im0 NS Q w S D obj rs K r E0 W0 v u vt tt)(bD:Ok w S D obj rs K E r W):
 Calls prog 119 #[.pointer none,v,u,.bool true,.func (.func 75) #[] #[],.pointer none] W λe W'=>e=.returned (.tuple #[.pointer none,.bool false])/\Ok w S D obj rs K E r W'/\Fr S rs r W W':=by
 have qN:=bj hE.qp bD.gh A.hu A.pu;obtain⟨b0,rfl, -⟩:=id A.hv;obtain⟨T,f,b2,rfl,⟨hm,pC⟩,jL⟩:=qN;obtain⟨lx,H,HT,HOK⟩:=Z4 jL A hT bD;clear hE hT A bD jL;go_enter func119,ntmps119;go_wp2_with fail;refine lx.1.mono ?_;rintro e' w5 ⟨v3,rfl,⟨b3,rfl,eY⟩,gW⟩;replace gW:=gW.symm;subst gW;rw[jo H.1.Qb];have hcT:=bG HT.1 HOK.1 eY H.1.iu H.1.rt;clear eY hm pC;go_wp2_with fail;refine hcT.mono ?_;rintro e' w1 ⟨v6,rfl,⟨sb,rfl,fi⟩,mx,wG⟩;obtain⟨ms,tl,ps, -, -, -,hb, -,hr,ha, -⟩:=id fi;obtain⟨a,c,rfl⟩:=hr.form;have hlen:=ha.len;rw[H.1.nm]at hlen;have c1:w1.cell? ⟨sb,1,none⟩=some (.slice a ps.length c):=by simp[World.cell?,hb]
 rw[<-hlen]at c1;have HP:=Z (And.intro mx wG);clear fi hb hr ha mx wG hcT hlen;go_wp2_with fail
 go_ret2
 exact⟨rfl,HP.1⟩
theorem hasAll0_calls(hE:Env NS Q w rs cs)(hT:dS NS Q w S D obj rs K r)(A:Im0 NS Q w S D obj rs K r E0 W0 v u vt tt)(bD:Ok w S D obj rs K E r W):
 Calls prog 74 #[.pointer none,v,u,.bool true,.func (.func 75) #[] #[],.pointer none] W (aV w S D obj rs K E r W λv _=>v=.bool true):=by
 have ag:=mm0_calls hE hT A bD;have JM:=dy bD.gh A.hv (λhk=>(A0 (cJ hE.qp A.pv).1 hk).1);obtain⟨b0,rfl, -⟩:=id A.hv;obtain⟨b1,rfl, -⟩:=id A.hu;generalize tid vt.kind=T0 at*;generalize tid tt.kind=T1 at*;clear hE hT A bD;go_enter func74,ntmps74;go_wp2_with fail;refine rv JM ?_;go_wp2_with fail;refine ag.mono ?_;rintro e' w1 ⟨rfl,bD,mW⟩;have HP:=Z (And.intro bD mW);clear ag bD mW;go_wp2_with fail;go_ret;exact⟨_,rfl,rfl,HP.1⟩
end
section
variable{S:Sg}
theorem impl0_if(hE:Env NS Q w rs cs)(hC:dE NS Q w S D obj rs K r)(hT:dS NS Q w S D obj rs K r)(sX:r<=K)(h:Im0 NS Q w S D obj rs K r E W v u vt tt)(cP:isIf (az w vt)=true):
 Calls prog 31 #[.pointer none,v,u,.bool con,.pointer none] W (aV w S D obj rs K E r W λu _=>u=.bool (impl (fs w K) w vt tt con)):=by
 obtain⟨HE,HT,A,HS⟩:=Z4 hE hT h (WJ.start (v:=v) (con:=con) hE h.ok);have hu1:=bj hE.qp HS.1.ok.gh h.hv (.inl ⟨0,h.pv⟩);have qq:=bj hE.qp HS.1.ok.gh h.hu h.pu;obtain⟨T1,f1,b1,e1,⟨jd,Fc⟩,Ch⟩:=hu1;obtain⟨T2,f2,b2,e2,⟨kS,Qi⟩,GG⟩:=qq;have Oh:=Z Ch;have Hz:=Z GG;subst e1;subst e2;have HMM:=Z (λ(E':Nat->Prop) W' (ho:Ok w S D obj rs K E' r W')=>hasAll0_calls hE hT h ho);have WG:=Z (λ(E':Nat->Prop) W1 m b (hs:S b=some (aG (az w tt))) (hi:zp w S D obj rs K E' r W (.iface T1 (ptr b1)) con m b W1)=>UD hE hC hT sX h hi hs);rw[sd h.Qb];generalize dt:(!((fs w K).ts (az w tt)).comp&&isAllL ((fs w K).ts (az w tt)).terms&&((fs w K).ts (az w tt)).meths.length==0)=x1;generalize dF:aK ((fs w K).ts (az w vt)).terms=x2;generalize qm:aK ((fs w K).ts (az w tt)).terms=x3;rw[show eh (fs w K) w vt ((fs w K).ts (az w tt)).meths=true by rw[h.nm];rfl];rw[h.al];have hx5:=h.al;generalize Om:(!lB (fs w K) ((fs w K).ts (az w tt))||(fs w K).cmp vt false||(con&&(fs w K).cmp vt true))=cc;obtain⟨oT,kp,tW,Kz,HXC⟩:=Z5 dt dF qm hx5 Om;clear dt dF qm hx5 Om;have uH:=Z cP;simp only[cP,if_true];generalize Y3:nJ (FF w K) w ((fs w K).ts (az w vt)).terms ((fs w K).ts (az w tt)).terms=x6;have HX6:=Z Y3;clear Y3;clear Ch GG hC hT hE h;go_enter func31,ntmps31;go_wp2_with fail;refine Oh.1.mono ?_;rintro e' w1 ⟨v1,rfl,dr,hw⟩;replace hw:=hw.symm;subst hw;have c5:=HS.1.c5;have c6:=HS.1.c6;generalize Y4 W (.iface T1 (ptr b1)) con=W1 at*;go_wp2_with fail;refine Hz.1.mono ?_;rintro e' w1 ⟨v2,rfl,fx,hw⟩;replace hw:=hw.symm;subst hw;have lk:=dy HS.1.ok.gh dr (JJ HE.1 A.1.pv);have fL:=dy HS.1.ok.gh fx (Ml A.1.Qb);obtain⟨b3,rfl,eY⟩:=dr;obtain⟨b4,rfl,nU⟩:=fx;rw[jo A.1.Qb]at fL⊢;obtain⟨C9,Bj,Kp⟩:=Z3 eY nU (λ(E':Nat->Prop) W' (ho:Ok w S D obj rs K E' r W')=>bG HT.1 ho nU A.1.iu A.1.rt);clear eY nU Oh Hz jd Fc kS Qi c5 c6;rw[jo uH.1]at lk⊢;have afm:=Z (λ(E':Nat->Prop) W' (ho:Ok w S D obj rs K E' r W')=>bG HT.1 ho C9.1 (A.1.iv uH.1).1 (A.1.iv uH.1).2);have fp:=λw=>aT 33 (ptr b3) 37 w i5;clear cP;go_wp2_with fail;refine rv lk ?_;go_wp2_with fail;refine rv fL ?_;clear lk fL;have HX:=Z (zp.start (b2:=b4) HE.1 HS.1);have uh:=ny HT.1 HX.1.ok Bj.1 A.1.iu A.1.rt;rw[oT.1]at uh;go_wp2_with fail;refine uh.mono ?_;rintro e' w2 ⟨v6,rfl,rfl,Cf,Cg⟩;replace HX:=Z (HX.1.call Cf Cg);clear uh Cf Cg fp;cases x1
 rotate_left
 ·exact M66
 ·go_wp2_with fail;refine(afm.1 _ _ HX.1.ok).mono ?_;rintro e' w2 ⟨v6,rfl,⟨sb,rfl,fi⟩,iG,j3⟩;replace HX:=Z (HX.1.call iG j3);have CX:=Z fi;clear fi iG j3;have hc:=gL CX.1.jl;rw[kp.1]at hc;go_wp2_with fail;refine rv hc ?_;clear hc CX;cases x2
  rotate_left
  ·exact M66
  ·have sH:=HX.1.sH;go_wp2_with fail;refine(Kp.1 _ _ HX.1.ok).mono ?_;rintro e' w2 ⟨v6,rfl,⟨sb,rfl,fi⟩,iG,j3⟩;replace HX:=Z (HX.1.call iG j3);have CX:=Z fi;clear fi iG j3;clear sH;have hc:=gL CX.1.jl;rw[tW.1]at hc;go_wp2_with fail;refine rv hc ?_;clear hc;clear CX;cases x3
   rotate_left
   ·exact M66
   ·exact M16
end
section
variable{S:Sg}
theorem impl0_nif(hE:Env NS Q w rs cs)(hC:dE NS Q w S D obj rs K r)(hT:dS NS Q w S D obj rs K r)(sX:r<=K)(h:Im0 NS Q w S D obj rs K r E W v u vt tt)(cP:isIf (az w vt)=false)(h6:(az w vt).kind≠6):
 Calls prog 31 #[.pointer none,v,u,.bool con,.pointer none] W (aV w S D obj rs K E r W λu _=>u=.bool (impl (fs w K) w vt tt con)):=by
 obtain⟨HE,HT,A,HS⟩:=Z4 hE hT h (WJ.start (v:=v) (con:=con) hE h.ok);have hu1:=bj hE.qp HS.1.ok.gh h.hv (.inl ⟨0,h.pv⟩);have qq:=bj hE.qp HS.1.ok.gh h.hu h.pu;obtain⟨T1,f1,b1,e1,⟨jd,Fc⟩,Ch⟩:=hu1;obtain⟨T2,f2,b2,e2,⟨kS,Qi⟩,GG⟩:=qq;have Oh:=Z Ch;have Hz:=Z GG;subst e1;subst e2;have HMM:=Z (λ(E':Nat->Prop) W' (ho:Ok w S D obj rs K E' r W')=>hasAll0_calls hE hT h ho);have WG:=Z (λ(E':Nat->Prop) W1 m b (hs:S b=some (aG (az w tt))) (hi:zp w S D obj rs K E' r W (.iface T1 (ptr b1)) con m b W1)=>UD hE hC hT sX h hi hs);rw[sd h.Qb];generalize dt:(!((fs w K).ts (az w tt)).comp&&isAllL ((fs w K).ts (az w tt)).terms&&((fs w K).ts (az w tt)).meths.length==0)=x1;generalize dF:aK ((fs w K).ts (az w vt)).terms=x2;generalize qm:aK ((fs w K).ts (az w tt)).terms=x3;rw[show eh (fs w K) w vt ((fs w K).ts (az w tt)).meths=true by rw[h.nm];rfl];rw[h.al];have hx5:=h.al;generalize Om:(!lB (fs w K) ((fs w K).ts (az w tt))||(fs w K).cmp vt false||(con&&(fs w K).cmp vt true))=cc;obtain⟨oT,kp,tW,Kz,HXC⟩:=Z5 dt dF qm hx5 Om;clear dt dF qm hx5 Om;have uH:=Z cP;simp only[cP,jQ4 (show¬(false=true)by decide)];generalize Y3:(((fs w K).ts (az w tt)).terms.any λx=>CZ (FF w K) w x vt)=x6;have HX6:=Z Y3;have hku:=gK hE h.pv;rw[cP]at hku;have CW:¬(tid (az w vt).kind=131):=λh=>by rcases de (az w vt).kind with g|g|g|g|g|g|g|g|g|g|g|g<;>first|exact h6 g.1|(rw[g.2]at h;exact absurd h i5)
 have WA:¬(tid (az w vt).kind=33):=λh=>by rcases de (az w vt).kind with g|g|g|g|g|g|g|g|g|g|g|g<;>first|(have:=g.1;simp at hku;omega)|(rw[g.2]at h;exact absurd h i5)
 clear hku;clear Y3 Ch GG hC hT hE h h6;go_enter func31,ntmps31;go_wp2_with fail;refine Oh.1.mono ?_;rintro e' w1 ⟨v1,rfl,dr,hw⟩;replace hw:=hw.symm;subst hw;have c5:=HS.1.c5;have c6:=HS.1.c6;generalize Y4 W (.iface T1 (ptr b1)) con=W1 at*;go_wp2_with fail;refine Hz.1.mono ?_;rintro e' w1 ⟨v2,rfl,fx,hw⟩;replace hw:=hw.symm;subst hw;have lk:=dy HS.1.ok.gh dr (JJ HE.1 A.1.pv);have fL:=dy HS.1.ok.gh fx (Ml A.1.Qb);obtain⟨b3,rfl,eY⟩:=dr;obtain⟨b4,rfl,nU⟩:=fx;rw[jo A.1.Qb]at fL⊢;obtain⟨C9,Bj,Kp⟩:=Z3 eY nU (λ(E':Nat->Prop) W' (ho:Ok w S D obj rs K E' r W')=>bG HT.1 ho nU A.1.iu A.1.rt);clear eY nU Oh Hz jd Fc kS Qi c5 c6;have fp:=λw'=>aT (tid (az w vt).kind) (ptr b3) 37 w' CW;have aeZ:=λw'=>aP (tid (az w vt).kind) (ptr b3) 37 w' WA;clear cP CW WA;generalize tid (az w vt).kind=T3 at*;go_wp2_with fail;refine rv lk ?_;go_wp2_with fail;refine rv fL ?_;clear lk fL;have HX:=Z (zp.start (b2:=b4) HE.1 HS.1);have uh:=ny HT.1 HX.1.ok Bj.1 A.1.iu A.1.rt;rw[oT.1]at uh;go_wp2_with fail;refine uh.mono ?_;rintro e' w2 ⟨v6,rfl,rfl,Cf,Cg⟩;replace HX:=Z (HX.1.call Cf Cg);clear uh Cf Cg;cases x1
 rotate_left
 ·exact M66
 ·have sH:=HX.1.sH;go_wp2_with fail;refine(Kp.1 _ _ HX.1.ok).mono ?_;rintro e' w2 ⟨v6,rfl,⟨sb,rfl,fi⟩,iG,j3⟩;replace HX:=Z (HX.1.call iG j3);have CX:=Z fi;clear fi iG j3;clear sH;have hc:=gL CX.1.jl;rw[tW.1]at hc;go_wp2_with fail;refine rv hc ?_;clear hc;clear CX;cases x3
  rotate_left
  ·exact M66
  ·exact M16
theorem impl0_ptr(hE:Env NS Q w rs cs)(hC:dE NS Q w S D obj rs K r)(hT:dS NS Q w S D obj rs K r)(sX:r<=K)(h:Im0 NS Q w S D obj rs K r E W v u vt tt)(h6:(az w vt).kind=6):
 Calls prog 31 #[.pointer none,v,u,.bool con,.pointer none] W (aV w S D obj rs K E r W λu _=>u=.bool (impl (fs w K) w vt tt con)):=by
 have cP:isIf (az w vt)=false:=by simp[isIf,h6]
 obtain⟨HE,HT,A,HS⟩:=Z4 hE hT h (WJ.start (v:=v) (con:=con) hE h.ok);have hu1:=bj hE.qp HS.1.ok.gh h.hv (.inl ⟨0,h.pv⟩);have qq:=bj hE.qp HS.1.ok.gh h.hu h.pu;obtain⟨T1,f1,b1,e1,⟨jd,Fc⟩,Ch⟩:=hu1;obtain⟨T2,f2,b2,e2,⟨kS,Qi⟩,GG⟩:=qq;have Oh:=Z Ch;have Hz:=Z GG;subst e1;subst e2;have HMM:=Z (λ(E':Nat->Prop) W' (ho:Ok w S D obj rs K E' r W')=>hasAll0_calls hE hT h ho);have WG:=Z (λ(E':Nat->Prop) W1 m b (hs:S b=some (aG (az w tt))) (hi:zp w S D obj rs K E' r W (.iface T1 (ptr b1)) con m b W1)=>UD hE hC hT sX h hi hs);rw[sd h.Qb];generalize dt:(!((fs w K).ts (az w tt)).comp&&isAllL ((fs w K).ts (az w tt)).terms&&((fs w K).ts (az w tt)).meths.length==0)=x1;generalize dF:aK ((fs w K).ts (az w vt)).terms=x2;generalize qm:aK ((fs w K).ts (az w tt)).terms=x3;rw[show eh (fs w K) w vt ((fs w K).ts (az w tt)).meths=true by rw[h.nm];rfl];rw[h.al];have hx5:=h.al;generalize Om:(!lB (fs w K) ((fs w K).ts (az w tt))||(fs w K).cmp vt false||(con&&(fs w K).cmp vt true))=cc;obtain⟨oT,kp,tW,Kz,HXC⟩:=Z5 dt dF qm hx5 Om;clear dt dF qm hx5 Om;obtain⟨uH,H6,lZ⟩:=Z3 cP h6 (fE hE.wk hE.qp h.pv cP);simp only[cP,jQ4 (show¬(false=true)by decide)];generalize Y3:(((fs w K).ts (az w tt)).terms.any λx=>CZ (FF w K) w x vt)=x6;have HX6:=Z Y3;clear Y3 Ch GG hC hT hE h cP;go_enter func31,ntmps31;go_wp2_with fail;refine Oh.1.mono ?_;rintro e' w1 ⟨v1,rfl,dr,hw⟩;replace hw:=hw.symm;subst hw;have c5:=HS.1.c5;have c6:=HS.1.c6;generalize Y4 W (.iface T1 (ptr b1)) con=W1 at*;go_wp2_with fail;refine Hz.1.mono ?_;rintro e' w1 ⟨v2,rfl,fx,hw⟩;replace hw:=hw.symm;subst hw;have lk:=dy HS.1.ok.gh dr (JJ HE.1 A.1.pv);have fL:=dy HS.1.ok.gh fx (Ml A.1.Qb);obtain⟨b3,rfl,eY⟩:=dr;obtain⟨b4,rfl,nU⟩:=fx;rw[jo A.1.Qb]at fL⊢;obtain⟨C9,Bj,Kp⟩:=Z3 eY nU (λ(E':Nat->Prop) W' (ho:Ok w S D obj rs K E' r W')=>bG HT.1 ho nU A.1.iu A.1.rt);clear eY nU Oh Hz jd Fc kS Qi c5 c6;have aZ:=(HS.1.ok.gh.node _ _ C9.1).2.2.2.2.2.1 (by rw[aI (by rw[h6];decide)];exact h6);obtain⟨vb,e,he,j6,KJ⟩:=aZ;rw[(fa (t:=az w vt) (by rw[h6];decide) (by rw[h6];decide) (by rw[h6];decide) (by rw[h6];decide)).2.2.2.2]at he;have pe:PT NS Q w 0 e:=(dH (rs:=rs) lZ.1 (by rw[h6];decide) e (by rw[he];simp)).1;have Rv:=jQh j6;have hub:=bj HE.1.qp HS.1.ok.gh KJ (.inl ⟨0,pe⟩);obtain⟨T5,f5,b5,e5,⟨Dk,aiG⟩,agq⟩:=hub;subst e5;have HU5:=Z agq;have VU:=Z pe;have CN:tid (az w vt).kind=131:=by rw[h6];rfl
 rw[CN]at lk⊢;have aeZ:=λw'=>aP 131 (ptr b3) 37 w' i5;clear h6 he j6 KJ pe agq CN;go_wp2_with fail;refine rv lk ?_;go_wp2_with fail;refine rv fL ?_;clear lk fL;go_wp2_with fail;refine HU5.1.mono ?_;rintro e' w1 ⟨v5,rfl,oX,hw⟩;replace hw:=hw.symm;subst hw;have Ss:=dy HS.1.ok.gh oX (JJ HE.1 VU.1);obtain⟨b6,rfl, -⟩:=oX;clear Dk aiG HU5 Rv;go_wp2_with fail;refine rv Ss ?_;clear Ss;have HX:=Z (zp.start (b2:=b4) HE.1 HS.1);have uh:=ny HT.1 HX.1.ok Bj.1 A.1.iu A.1.rt;rw[oT.1]at uh;go_wp2_with fail;refine uh.mono ?_;rintro e' w2 ⟨v6,rfl,rfl,Cf,Cg⟩;replace HX:=Z (HX.1.call Cf Cg);clear uh Cf Cg;cases x1
 rotate_left
 ·exact M66
 ·have sH:=HX.1.sH;go_wp2_with fail;refine(Kp.1 _ _ HX.1.ok).mono ?_;rintro e' w2 ⟨v6,rfl,⟨sb,rfl,fi⟩,iG,j3⟩;replace HX:=Z (HX.1.call iG j3);have CX:=Z fi;clear fi iG j3;clear sH;have hc:=gL CX.1.jl;rw[tW.1]at hc;go_wp2_with fail;refine rv hc ?_;clear hc;clear CX;cases x3
  rotate_left
  ·exact M66
  ·exact M16
theorem impl0_calls(hE:Env NS Q w rs cs)(hC:dE NS Q w S D obj rs K r)(hT:dS NS Q w S D obj rs K r)(sX:r<=K)(h:Im0 NS Q w S D obj rs K r E W v u vt tt):
 Calls prog 31 #[.pointer none,v,u,.bool con,.pointer none] W (aV w S D obj rs K E r W λu _=>u=.bool (impl (fs w K) w vt tt con)):=by
 cases cP:isIf (az w vt)with
 |true=>exact impl0_if hE hC hT sX h cP
 |false=>
  by_cases h6:(az w vt).kind=6
  ·exact impl0_ptr hE hC hT sX h h6
  ·exact impl0_nif hE hC hT sX h cP h6
end
end Go.Proofs.YtabjfnkfocnklaaGreatDoor
