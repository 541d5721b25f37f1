import Derived.Test.YtbdgppghkdibfaaGreatDoorA12
import Derived.Test.YtbdgppghkdibfaaGreatDoorA27
set_option linter.all false
set_option maxHeartbeats 16000000
set_option maxRecDepth 20000
namespace Go.Proofs.YtbdgppghkdibfaaGreatDoor
open Go Go.RowKit Go.Lib S P Tryz
variable{e t:Y}{Q:Y->Prop}{NS:List ByteArray}{cs rs:List Nat}{w:List ah}{K N c n r:Nat}{D DI:Qx}{GT:Prop}{S:Sg}{dv v v':Value}{W W':World}
theorem M1(h:GT:=by
 clear hK K;refine rd 9 rfl λK hK=>?_;obtain⟨-,n1,n2,n3,n4,n5,n6,n7⟩:=id HN.1;have Vw:wB.heap.size=wr.heap.size+2:=by rw[n1,jQ3];rfl
 have hold:∀g,g<wr.heap.size->(wB.alloc (.cells #[ptr (wr.heap.size+1)] 53)).heap[g]?=wr.heap[g]?:=λg hg=>by
  have e1:(wB.alloc (.cells #[ptr (wr.heap.size+1)] 53)).heap[g]?=wB.heap[g]?:=by
   show(wB.heap.push _)[g]?=_;exact M148
  have e2:(wr.drew.alloc (.cells #[.int .i64 0,ptr W.heap.size,.string ⟨#[84]⟩,.nilIface] 119)).heap[g]?=wr.heap[g]?:=by
   show(wr.heap.push _)[g]?=_;exact M148
  exact e1.trans ((n7 g (by rw[jQ3];show g<wr.heap.size+1;omega) (by show g≠wr.heap.size;omega)).trans e2)
 have KG:=Z (show(wB.alloc (.cells #[ptr (wr.heap.size+1)] 53)).ownsRow W.heap.size 53 1 dv (ds.map ptr).length (ds.map ptr)from cD ug.1.own λg hg=>hold g (aC ug.1.own g hg).2.1);have CA:=(hold _ Cz.1).trans ug.1.jl;have lA:=ug.1.jJ.size;have gj:W.heap.size<=wr.heap.size:=lA;refine lU underlying55 G0 rfl M rfl (.tmp 31) (.tmp 35) rfl W.heap.size dv (ds.map ptr) (by simp[Act.eval,Act.put]) KG.1 (ptr (wr.heap.size+1)) rfl ⟨wB.heap.size,0,none⟩ 1 (by simp[Act.eval,Act.put]) (cell_one_new _ _ _) kr.1 (by rw[jQ3];omega) ?_;intro v5 w5 aL lX oX;obtain⟨a7,m7,c7,rfl⟩:∃a n c,v5=.slice a n c:=by
  rcases aL.2 with⟨rfl,_⟩|⟨g',cap,cur,rfl,_⟩
  .exact⟨_,_,_,rfl⟩
  .exact⟨_,_,_,rfl⟩
 obtain⟨Zm,Rw,WM,YA⟩:=Z4 Vw aL lX oX;have iD:=(lX.block W2.heap.size (by rw[jQ3];have:=Cz.1;omega) (λe=>(ug.1.gY _ e.symm).2.2 rfl)).trans CA;have q5:w5.cell? ⟨W2.heap.size,1,none⟩=some dv:=by simp[World.cell?,iD]
 have z5:=cd iD 1;have lZ:=Z (aw iD 1 (.slice a7 m7 c7));clear ai;refine hK.out _ _ (by simp[World.cell?,iD]) (λai=>?_);clear n1 n2 n3 n4 n5 n6 n7 Vw hold CA lA gj aL lX oX iD
 (try simp only[jRa,jR3,jR4,Act.put,jQy,jRe,jRf])
 clear hK K;refine t2 10 11 ?_;refine rd 12 rfl λK hK=>?_;go_simp;clear ai;refine hK.out _ _ (by have h:=lZ.1.here;simp[World.cell?,h]) (λai=>?_);clear hK K;refine jQl g9 ?_ _;clear ai;have rO:w.length<=9223372036854775807:=by have:=HWL.1;omega
 go_wp2_with fail;go_roundg (w.length - (kk+1))
 case measure=>omega
 case rel=>
  obtain⟨S',D',ie⟩:=ug.1.step HN.1 WM.1 Rw.1 (YA.1.imp id λe=>by rw[e,jQ3,Zm.1];rfl) lZ.1;exact⟨kk+1,S',D',_,_,_,M,M,by go_num,by rw[jQo];simp;omega,ie⟩):GT:=h
theorem M127(h:GT:=by
 clear hK K;refine rd 8 rfl λK hK=>?_;go_simp;have hh:=ai;clear ai;refine hK.out _ _ (((an _ _).cell (jQs hh)).trans hh) (λai=>?_);exact M1):GT:=h
theorem M18(h:GT:=by
 clear hK K;refine rd 7 rfl λK hK=>?_;go_simp;have hh:=ai;clear ai;have H:=ak wr.drew (.cells #[.int .i64 0,ptr W.heap.size,.string ⟨#[84]⟩,.nilIface] 119);refine(mK wr.drew.heap.size _ _ _ _ H).mono ?_;rintro eA wB hN;have HN:=Z hN;obtain⟨rfl,n1,n2,n3,n4,n5,n6,n7⟩:=id hN;have aM:=Cz.1;refine hK.out _ _ ((jQi (w:=wr.drew.alloc (.cells #[.int .i64 0,ptr W.heap.size,.string ⟨#[84]⟩,.nilIface] 119)) (n7 _ (jQs hh) (λe=>by(have:W2.heap.size=wr.heap.size:=e);omega))).trans hh) (λai=>?_);have Vv:wB.heap[W2.heap.size]?=_:=(n7 _ (by rw[jQ3];show W2.heap.size<wr.heap.size+1;omega) (λe=>by(have:W2.heap.size=wr.heap.size:=e);omega)).trans (aq ug.1.jl);have q3:wB.cell? ⟨W2.heap.size,1,none⟩=some dv:=by simp[World.cell?,Vv]
 have q4h:(wB.alloc (.cells #[ptr (wr.heap.size+1)] 53)).heap[W2.heap.size]?=_:=aq Vv;have q4:(wB.alloc (.cells #[ptr (wr.heap.size+1)] 53)).cell? ⟨W2.heap.size,1,none⟩=some dv:=by simp[World.cell?,q4h]
 clear Vv q4h;clear hN H n1 n2 n3 n4 n5 n6 n7;exact M127):GT:=h
theorem Ia(hTs:∀S D obj,dS NS Q w S D obj rs K r)(Df:PT NS Q w 0 fC)(hr:2*J rs false false fC<r)(hK:1<=K)(j:jE (λb=>b=5) W)(Q5:∃cs t f,W.heap[5]?=some (.cells cs t f)){a:Option Addr}(hd:RD DI W w (.slice a w.length c))(hwl:w.length<=1099511627776)(X3:∀b,DI b->b<W.heap.size)(qy:∀B N,dR NS Q w K B DI N)(hw0:∀(hp:Nat) (d:ah),w[hp]?=some d->(1<=d.gt.ld/\d.gt.ld<=10/\d.gt.ld≠2)/\PT NS Q w 2 d.gt/\d.lw.length<=1099511627776/\(∀m∈d.lw,m.sig.ld=7/\isName m.name=true/\PT NS Q w 2 m.sig)/\(d.lw.map (·.name)).Nodup)(af2:uns w+DY w<=1099511627776)(Wu:∀t,PT NS Q w 0 t->t.ld=10->2*J rs false false t<r)(Wv:2*J rs false false da<r):
 Calls prog 10 #[.slice a w.length c] W (KL NS Q w K DI W):=by
 obtain⟨Zx,Nr,HW0,af3,HQR,zk⟩:=Z6 X3 qy hw0 af2 (And.intro Wu Wv) (show∀(n:Nat) (d:ah),w[n]?=some d->∀m∈d.lw,m.sig.ld=7 from λn d hn m hm=>((hw0 n d hn).2.2.2.1 m hm).1);clear X3 qy hw0 af2 Wu Wv;have lk:=xP ⟨#[112]⟩ ⟨#[112]⟩ W;have Kp:=Z hTs;have ar:=an W (.cells #[.string ⟨#[112]⟩,.string ⟨#[112]⟩] 85);obtain⟨pcs,pty,pf,Nk⟩:=id Q5;have fL:=An (W:=W.alloc (.cells #[.string ⟨#[112]⟩,.string ⟨#[112]⟩] 85)) hTs Df hr (j.move λb hb=>⟨hb,ar.block b (by subst hb;exact jQ2 Nk)⟩) ⟨pcs,pty,pf,aq Nk⟩;obtain⟨HD,XA,HWL⟩:=Z3 hd Df hwl;clear hTs Df hr j Q5 Nk hd ar hwl;go_in;go_wp2_with fail;refine rv lk ?_;clear lk;go_wp2_with fail;refine fL.mono ?_;rintro e' W2 ⟨eb,oe,S2,D2,rfl,hE⟩;have HE:=Z hE;clear fL hE;have Kq:=jS 0 none ⟨#[99,111,109,112,97,114,97,98,108,101]⟩ (W2.alloc (.cells (U7 W.heap.size eb .nilIface) 58));have hc4:=GW ((W2.alloc (.cells (U7 W.heap.size eb .nilIface) 58)).alloc (.cells #[.int .i64 0,.pointer none,.string ⟨#[99,111,109,112,97,114,97,98,108,101]⟩,.nilIface] 119));go_wp2_with fail;refine rv Kq ?_;clear Kq;go_wp2_with fail;refine rv hc4 ?_;clear hc4;have JD:(W2.alloc (.cells (U7 W.heap.size eb .nilIface) 58)).heap.size=W2.heap.size+1:=jQ3 _ _;have hz5:(oS ((W2.alloc (.cells (U7 W.heap.size eb .nilIface) 58)).alloc (.cells #[.int .i64 0,.pointer none,.string ⟨#[99,111,109,112,97,114,97,98,108,101]⟩,.nilIface] 119)) true).heap.size=W2.heap.size+6:=by simp[oS,allocs]
 have hoc:(oS ((W2.alloc (.cells (U7 W.heap.size eb .nilIface) 58)).alloc (.cells #[.int .i64 0,.pointer none,.string ⟨#[99,111,109,112,97,114,97,98,108,101]⟩,.nilIface] 119)) true).heap[W2.heap.size+1]?=some (.cells #[.int .i64 0,.pointer none,.string ⟨#[99,111,109,112,97,114,97,98,108,101]⟩,.nilIface] 119):=((pQ _ true).1.block _ (by rw[jQ3,JD];omega)).trans (by rw[<-JD];exact ak _ _);have mO:(oS ((W2.alloc (.cells (U7 W.heap.size eb .nilIface) 58)).alloc (.cells #[.int .i64 0,.pointer none,.string ⟨#[99,111,109,112,97,114,97,98,108,101]⟩,.nilIface] 119)) true).heap[W2.heap.size]?=some (.cells (U7 W.heap.size eb .nilIface) 58):=((pQ _ true).1.block _ (by rw[jQ3,JD];omega)).trans (aq (ak _ _));have Ss:=zt (W2.heap.size+1) (ptr (W2.heap.size+5)) _ _ _ _ hoc;have HZ5:=Z hz5;have Ky:=Z mO;clear JD hoc mO;go_wp2_with fail;refine Ss.mono ?_;rintro e' W6 h6;have H6:=Z h6;obtain⟨rfl,k1,k2,k3,k4,k5,k6,k7⟩:=id h6;have gS:=(k7 W2.heap.size (by rw[hz5];omega) M).trans Ky.1;have c3:W6.cell? ⟨W2.heap.size,3,none⟩=some .nilIface:=by simp[World.cell?,gS]
 have z3:=cd gS 3;have hpu:=aw gS 3 (.iface 53 (ptr (W2.heap.size+6)));rw[hz5];have lZ:=Z hpu;clear Ss h6 k1 k2 k3 k4 k5 k6 k7 gS hpu hz5;have hoe:oe<W2.heap.size:=by obtain⟨_,_,_,_,_,_,_,ho⟩:=HE.1.nm;exact HE.1.th.mT _ ho.1
 obtain⟨S0,D0,hbp⟩:=afC hK HE.1 hoe H6.1 lZ.1;have HBP:=Z hbp;clear hbp;go_wp2_with fail
 go_loopg [25] w.length (λgg s25 wr=>∃(kk:Nat) (S:Sg) (D:Qx) (ds os:List Nat) (dv:Value),kk<=w.length/\w.length - kk<=gg/\s25=.int .i64 kk/\ds.length=kk/\BL w K W wr S D W2.heap.size W.heap.size eb (W2.heap.size+6) oe (W2.heap.size+1) ds os dv)
 case atStart=>exact⟨0,S0,D0,[],[],_,jQc _,M,rfl,rfl,HBP.1.bl⟩
 case round=>
  obtain⟨kk,S,D,ds,os,dv,ez,hg,rfl,Se,j6⟩:=hrel;have pU:=Z j6;by_cases aM:kk<w.length
  .have aR:(kk:Int)<(w.length:Int):=M
   have hblk:=j6.jl;have q0:wr.cell? ⟨W2.heap.size,0,none⟩=some (ptr W.heap.size):=by simp[World.cell?,hblk]
   have q1:wr.cell? ⟨W2.heap.size,1,none⟩=some dv:=by simp[World.cell?,hblk]
   have ug:=Z j6.drew;have Cz:=Z (jQ2 hblk);have aaU:(wr.alloc (.cells #[.int .i64 0,ptr W.heap.size,.string ⟨#[84]⟩,.nilIface] 119)).heap[W2.heap.size]?=_:=aq hblk;have q2:(wr.alloc (.cells #[.int .i64 0,ptr W.heap.size,.string ⟨#[84]⟩,.nilIface] 119)).cell? ⟨W2.heap.size,1,none⟩=some dv:=by simp[World.cell?,aaU]
   clear aaU;have kr:=Z (show(ds.map ptr).length+1<=1099511627776 by rw[jR7];have:=HWL.1;omega);clear j6 hblk;go_wp2_with fail;refine jQ9 (S:=(λO=>O.cell? ⟨W2.heap.size,0,none⟩=some (ptr W.heap.size))) g9 (q0) (λai=>?_);refine t4 0 1 2 3 ?_;refine t7 5 ?_;refine wpAnyH_ready (rs:=[4,6]) g9 i6 ?_;refine AllReadyH.cons rfl (λK hK=>?_) (AllReadyH.cons rfl (λK hK=>?_) AllReadyH.nil)
   .go_simp;have hh:=ai;clear ai;refine hK.out _ _ hh (λai=>?_);clear hK K;refine rd 6 rfl λK hK=>?_;go_simp;have hh:=ai;clear ai;refine rv (ud W2.heap.size W.heap.size ⟨#[84]⟩ _ _ _ _ _ wr.drew ug.1.jl) ?_;refine hK.out _ _ (((an _ _).cell (jQs hh)).trans hh) (λai=>?_);exact M18
   .go_simp;have hh:=ai;clear ai;refine rv (ud W2.heap.size W.heap.size ⟨#[84]⟩ _ _ _ _ _ wr.drew ug.1.jl) ?_;refine hK.out _ _ (((an _ _).cell (jQs hh)).trans hh) (λai=>?_);clear hK K;refine wpAnyH_ready (rs:=[4,7]) g9 i6 ?_;refine AllReadyH.cons rfl (λK hK=>?_) (AllReadyH.cons rfl (λK hK=>?_) AllReadyH.nil)
    .go_simp;have hh:=ai;clear ai;refine hK.out _ _ hh (λai=>?_);exact M18
    .go_simp;have hh:=ai;clear ai;have H:=ak wr.drew (.cells #[.int .i64 0,ptr W.heap.size,.string ⟨#[84]⟩,.nilIface] 119);refine(mK wr.drew.heap.size _ _ _ _ H).mono ?_;rintro eA wB hN;have HN:=Z hN;obtain⟨rfl,n1,n2,n3,n4,n5,n6,n7⟩:=id hN;have aM:=Cz.1;refine hK.out _ _ ((jQi (w:=wr.drew.alloc (.cells #[.int .i64 0,ptr W.heap.size,.string ⟨#[84]⟩,.nilIface] 119)) (n7 _ (jQs hh) (λe=>by(have:W2.heap.size=wr.heap.size:=e);omega))).trans hh) (λai=>?_);have Vv:wB.heap[W2.heap.size]?=_:=(n7 _ (by rw[jQ3];show W2.heap.size<wr.heap.size+1;omega) (λe=>by(have:W2.heap.size=wr.heap.size:=e);omega)).trans (aq ug.1.jl);have q3:wB.cell? ⟨W2.heap.size,1,none⟩=some dv:=by simp[World.cell?,Vv]
     have q4h:(wB.alloc (.cells #[ptr (wr.heap.size+1)] 53)).heap[W2.heap.size]?=_:=aq Vv;have q4:(wB.alloc (.cells #[ptr (wr.heap.size+1)] 53)).cell? ⟨W2.heap.size,1,none⟩=some dv:=by simp[World.cell?,q4h]
     clear Vv q4h;clear hN H n1 n2 n3 n4 n5 n6 n7;clear hK K;refine wpAnyH_ready (rs:=[4,8]) g9 i6 ?_;refine AllReadyH.cons rfl (λK hK=>?_) (AllReadyH.cons rfl (λK hK=>?_) AllReadyH.nil)
     .go_simp;have hh:=ai;clear ai;refine hK.out _ _ hh (λai=>?_);exact M127
     .go_simp;have hh:=ai;clear ai;refine hK.out _ _ (((an _ _).cell (jQs hh)).trans hh) (λai=>?_);clear hK K;refine rd 4 rfl λK hK=>?_;go_simp;have hh:=ai;clear ai;refine hK.out _ _ hh (λai=>?_);exact M1
  .have aR:¬(kk:Int)<(w.length:Int):=M
   have hkw:kk=w.length:=M
   obtain⟨B,cb,oc,eo,hB,nS,gP⟩:∃(B:Bl) (cb oc:Nat) (σ:BS),W2.heap.size=B.bb/\DG NS Q w K B DI W eb cb oe oc os (λ_=>0) σ wr/\σ.ml=[]:=⟨_,_,_,_,rfl,j6.dg XA.1 M Zx.1,rfl⟩;have Kc:=Z nS;have zq:=Z gP;clear j6 pU nS gP HE H6 lZ HBP Ky HZ5 XA;rw[hB];clear hB;go_wp2_with fail
   go_loopg [4,5,42] w.length (λgg _ _ s42 wr=>∃(kk:Nat) (σ:BS),kk<=w.length/\w.length - kk<=gg/\s42=.int .i64 kk/\σ.ml.length<=uns (w.take kk)/\DG NS Q w K B DI W eb cb oe oc os (λi=>if i<kk then 1 else 0) σ wr)
   case atStart=>exact⟨0,eo,jQc _,M,rfl,by rw[zq.out];simp,Kc.1.re (λi d ob _ _ _ hv=>by simpa using hv)⟩
   case round=>
    clear Kc zq;obtain⟨kk,σ,ez,hg,rfl,gP,nS⟩:=hrel;by_cases aM:kk<w.length
    .have aR:(kk:Int)<(w.length:Int):=M
     obtain⟨dd,uD⟩:∃d,w[kk]?=some d:=⟨w[kk],by simp[aM]⟩;have SK:RD DI wr w (.slice a w.length c):=HD.1.move (λb hb=>⟨hb,nS.jJ.block b (Zx.1 b hb)⟩) nS.jJ.size nS.jJ.block;rcases SK with⟨he,_⟩|⟨_,bm,om,cm',dN,fh,fL,kN,hC⟩
     .exact M106
     simp at dN;obtain⟨rfl,rfl⟩:=dN;obtain⟨hE,ms,f7,jK⟩:=hC.at uD;obtain⟨am,cm,rfl⟩:=jK.form;obtain⟨sa,sc,f0,f1,f2,f3,f4,f5,f6,iL⟩:=hE.bR;have ar:=an wr (CO dd sa sc am cm);have KF:=Z ((Md.start nS.bs).below ar);have Kc:=Z nS;have My:=Z (HW0.1 kk dd uD).1;have nX:=Z (HW0.1 kk dd uD).2.1;have HLM:=Z (show σ.ml.length+nds dd.gt<=1099511627776 by
      have I:=CB uD;have U:=ME w (kk+1);have h3:=af3.1;omega)
     have zq:=Z gP;have HMK:=Z uD;obtain⟨dk,Xr⟩:∃dk,B.ds[kk]?=some dk:=⟨B.ds[kk]'(by rw[nS.bs.dl];exact aM),by simp[nS.bs.dl,aM]⟩;have Zy:=Z Xr;have nr:=KF.1.bs.row;obtain⟨ra,rc,eD⟩:=nr.form;rw[eD,jR7]at nr;obtain⟨db,DK,rfl,uw,SO⟩:=nr.nth (p:=ptr dk) (by rw[List.getElem?_map,Xr];rfl);have hblk:=KF.1.bs.jl;have KZ:=eD;rw[jR7]at KZ;rw[KZ]at hblk;have hltb:(kk:Int)<(B.ds.length:Int):=by rw[nS.bs.dl];exact aR
     have jz:=ak wr (CO dd sa sc am cm);obtain⟨x0,x1,x2,x3,x4,x5,x6,x7⟩:=nH jz;have iT:(wr.alloc (CO dd sa sc am cm)).cell? ⟨B.bb,1,none⟩=some (.slice (some ⟨db,DK,none⟩) B.ds.length rc):=by simp[World.cell?,hblk]
     have zv:=nS.bs.rn kk dk Xr;have fq:=nS.bs.loc (g:=wr.heap.size) (jQ0 _);have GI:=jQ2 jz;have gV:=Z (show∀mL O,Bs NS Q w K B DI mL O->Gr B σ mL (wr.alloc (CO dd sa sc am cm)) O->O.cell? ⟨B.bb,1,none⟩=some (.slice (some ⟨db,DK,none⟩) B.ds.length rc)/\O.cell? ⟨db,DK+kk,none⟩=some (ptr dk)/\V8 O wr.heap.size dd.gt sa sc from
      λmL O I U=>⟨by simp[World.cell?,I.jl,KZ],(jQi (w:=wr.alloc (CO dd sa sc am cm)) (U.aJ KF.1.bs db uw).2).trans SO,fq.cell GI U x0,fq.cell GI U x1,fq.cell GI U x2,fq.cell GI U x3,fq.cell GI U x4,fq.cell GI U x5,fq.cell GI U x6⟩)
     have C9:=Z (show∀w1 w2:World,w2.heap[B.bb]?=w1.heap[B.bb]?->w2.heap[db]?=w1.heap[db]?->w2.heap[wr.heap.size]?=w1.heap[wr.heap.size]?->(w1.cell? ⟨B.bb,1,none⟩=some (.slice (some ⟨db,DK,none⟩) B.ds.length rc)/\w1.cell? ⟨db,DK+kk,none⟩=some (ptr dk)/\V8 w1 wr.heap.size dd.gt sa sc)->
      (w2.cell? ⟨B.bb,1,none⟩=some (.slice (some ⟨db,DK,none⟩) B.ds.length rc)/\w2.cell? ⟨db,DK+kk,none⟩=some (ptr dk)/\V8 w2 wr.heap.size dd.gt sa sc)from
      λw1 w2 e1 e2 e3 hh=>⟨(jQi (w:=w1) e1).trans hh.1,(jQi (w:=w1) e2).trans hh.2.1,(jQi (w:=w1) e3).trans hh.2.2.1,(jQi (w:=w1) e3).trans hh.2.2.2.1,(jQi (w:=w1) e3).trans hh.2.2.2.2.1,(jQi (w:=w1) e3).trans hh.2.2.2.2.2.1,(jQi (w:=w1) e3).trans hh.2.2.2.2.2.2.1,(jQi (w:=w1) e3).trans hh.2.2.2.2.2.2.2.1,(jQi (w:=w1) e3).trans hh.2.2.2.2.2.2.2.2⟩)
     obtain⟨HRT,HDB,qM,HLT⟩:=Z4 (show∀mL O,Gr B σ mL (wr.alloc (CO dd sa sc am cm)) O->RT DI O dd.gt (.agg #[.int .i64 dd.gt.ld,.int .i64 dd.gt.n,.int .i64 dd.gt.m,.bool dd.gt.va,.string dd.gt.name,.string dd.gt.gc,.slice sa dd.gt.li.length sc])from λmL O h=>iL.move (λb hb=>⟨hb,((KF.1.bs.C0 h) b hb).2.trans (ar.block b (nS.bs.di b hb).1)⟩)) uw (show dk<wr.heap.size from nS.bs.th.lI dk _ zv) (jQ0 wr.heap.size);clear gP nS ar jz hE hC jK iL uD Xr nr eD hblk KZ zv fq GI uw SO iT x0 x1 x2 x3 x4 x5 x6 x7;go_wp2_with fail;clear f0 f1 f2 f3 f4 f5 f6 f7;generalize wr.alloc (CO dd sa sc am cm)=wq at KF gV HRT⊢;have rG:=Z (KF.1.below (jQ5 _ _).drew);have Oq:=Z (Gr.below (jQ5 _ _).drew:Gr B σ σ wq wq.drew);refine jQ9 (S:=(λO=>O.cell? ⟨B.bb,1,none⟩=some (.slice (some ⟨db,DK,none⟩) B.ds.length rc)/\O.cell? ⟨db,DK+kk,none⟩=some (ptr dk)/\V8 O wr.heap.size dd.gt sa sc)) g9 (gV.1 _ _ rG.1.bs Oq.1) (λai=>?_);refine t4 0 1 2 3 ?_;refine t4 4 5 6 7 ?_;refine t2 8 9 ?_;refine rd 10 rfl λK hK=>?_;go_simp;clear ai;refine(Nr.1 B (nds dd.gt) dd.gt σ _ _ (jQ0 _) nX.1 rG.1.bs (HRT.1 _ _ Oq.1) HLM.1).mono ?_;rintro eA wA ⟨u,fT,rfl,cq,hu⟩;have oU:=Z (rG.1.trans cq);have rQ:=Z (Oq.1.trans cq.gr);obtain⟨T,f,bu,rfl,⟨hm,pC⟩,jL⟩:=PF (w:=w) (W:=wA) hu My.1.1 My.1.2.1 My.1.2.2;have lx:=Z jL;have HDA:=Z (Kc.1.gr zk.1 oU.1);refine hK.out _ _ (gV.1 _ _ oU.1.bs rQ.1) (λai=>?_);clear cq hu jL;clear hK K;refine rd 11 rfl λK hK=>?_;go_simp;have hh:=ai;clear ai;refine lx.1.mono ?_;rintro eA wB ⟨v',rfl,zw,hw⟩;replace hw:=hw.symm;subst hw;have fx:=zw.same (Bn w My.1.2.2 (by have:=My.1.2.1;omega) (by have:=My.1.2.1;omega) (by have:=My.1.2.1;omega));obtain⟨b',rfl, -⟩:=id fx;have QU:=Z fx;refine hK.out _ _ hh (λai=>?_);clear hh zw fx hm pC;clear hK K;refine rd 12 rfl λK hK=>?_;go_simp;have hh:=ai;clear ai;obtain⟨ob',Wf,k1,k2,k3,k4, -⟩:=HDA.1.dec kk dk Zy.1;refine(vd dk ob' true (tid dd.gt.ld) (ptr b') (.slice none 0 0) wA (OC My.1.1 My.1.2.1 My.1.2.2).1 (OC My.1.1 My.1.2.1 My.1.2.2).2 (k4 i6)).mono ?_;rintro eA wC ⟨rfl,j⟩;have lZ:=Z j;have HK4:=Z k1;have zv:=HDA.1.bs.rn kk dk Zy.1;have q1:B.bb≠dk:=λe=>by have:=HDA.1.bs.kJ.1;rw[e,zv]at this;cases this
     have q2:db≠dk:=λe=>HDA.1.bs.th.rS dk _ zv (e▸rQ.1.Jo _ HDB.1);have q3:wr.heap.size≠dk:=λe=>by have:=qM.1;have:=HLT.1;omega
     refine hK.out _ _ (C9.1 _ _ (j.other _ q1) (j.other _ q2) (j.other _ q3) hh) (λai=>?_);clear hh k1 k2 k3 k4 j q1 q2 q3 zv;clear hK K;refine jQl g9 ?_ _;clear ai;have rO:w.length<=9223372036854775807:=by have:=HWL.1;omega
     go_wp2_with fail;go_roundg (w.length - (kk+1))
     case measure=>omega
     case rel=>
      have O4:=HMK.1;refine⟨kk+1,fT,M,M,by go_num,?_,HDA.1.put zk.1 Zy.1 HK4.1 lZ.1 ?_ (λi=>?_)⟩
      .rw[CB O4];have:=oU.1.len;have:=zq.out;omega
      .have e1:oZ w (r9 kk)=dd.gt:=by
        have:(r9 kk).n.toNat=kk:=by simp[r9,Y.n]
        unfold oZ;rw[this,O4];rfl
       rw[e1];exact QU.1
      .by_cases I:i=kk
       .rw[jQ7 I];simp[I]
       .rw[jQ4 I];by_cases U:i<kk
        .rw[jQ7 U,jQ7 M]
        .rw[jQ4 U,jQ4 M]
    .have aR:¬(kk:Int)<(w.length:Int):=M
     have Vx:DG NS Q w K B DI W eb cb oe oc os (λi=>if i<0 then 2 else 1) σ wr:=nS.re (λi d ob hd _ _ hv=>by
      have hi:=(jQg.1 hd).1;rw[nS.bs.dl]at hi;have e1:(if i<kk then 1 else 0)=1:=jQ7 M;have e2:(if i<0 then 2 else 1)=1:=jQ4 M;rw[e1]at hv;rw[e2];exact hv)
     have Kc:=Z Vx;have zq:=Z (show σ.ml.length<=uns w by have:=ME w kk;omega);obtain⟨Ie,hσ⟩:∃Ie,Ie=σ:=⟨_,rfl⟩;rw[<-hσ]at Kc zq;clear nS Vx gP hσ ez hg;go_wp2_with fail
     go_loopg [6,7,9,63] w.length (λgg _ _ _ s63 wr=>∃(kk:Nat) (σ:BS),kk<=w.length/\w.length - kk<=gg/\s63=.int .i64 kk/\σ.ml.length<=uns w+DY (w.take kk)/\DG NS Q w K B DI W eb cb oe oc os (λi=>if i<kk then 2 else 1) σ wr)
     case atStart=>exact⟨0,Ie,jQc _,M,rfl,jQd zq.out (Nat.le_add_right _ _),Kc.1⟩
     case round=>
      clear Kc zq;obtain⟨kk,σ,ez,hg,rfl,gP,nS⟩:=hrel;by_cases aM:kk<w.length
      .have aR:(kk:Int)<(w.length:Int):=M
       obtain⟨dd,uD⟩:∃d,w[kk]?=some d:=⟨w[kk],by simp[aM]⟩;have SK:RD DI wr w (.slice a w.length c):=HD.1.move (λb hb=>⟨hb,nS.jJ.block b (Zx.1 b hb)⟩) nS.jJ.size nS.jJ.block;rcases SK with⟨he,_⟩|⟨_,bm,om,cm',dN,fh,fL,kN,hC⟩
       .exact M106
       simp at dN;obtain⟨rfl,rfl⟩:=dN;obtain⟨hE,ms,f7,jK⟩:=hC.at uD;obtain⟨am,cm,rfl⟩:=jK.form;obtain⟨sa,sc,f0,f1,f2,f3,f4,f5,f6,iL⟩:=hE.bR;have R5:=Z (jK.move (λb hb=>⟨hb,(nS.jJ.block b (Zx.1 b hb)).symm⟩:au DI DI wr W));have yT:dd.lw.length<=9223372036854775807:=by have:=(HW0.1 kk dd uD).2.2.1;omega
       have OL:=Z (HW0.1 kk dd uD);have HMK:=Z uD;obtain⟨dk,Xr⟩:∃dk,B.ds[kk]?=some dk:=⟨B.ds[kk]'(by rw[nS.bs.dl];exact aM),by simp[nS.bs.dl,aM]⟩;have Zy:=Z Xr;have Vx:=nS.gr zk.1 ((Md.start nS.bs).below (an wr (CO dd sa sc am cm)));obtain⟨ob,nm,ut,k1, -, -,af4,Cv⟩:=Vx.cur Xr i6 (st':=λi=>if i=kk then 3 else if i<kk then 2 else 1) (λi=>rfl);obtain⟨XC,Kc,lx,zq⟩:=Z4 k1 af4 Cv gP;clear gP nS hE hC jK iL uD Xr Vx af4 Cv k1;go_wp2_with fail;clear f0 f1 f2 f3 f4 f5 f6 f7;generalize wr.alloc (CO dd sa sc am cm)=wq at Kc lx⊢;obtain⟨Ie,hσ⟩:∃Ie,Ie=σ:=⟨_,rfl⟩;rw[<-hσ]at Kc lx zq;clear hσ
       go_loopg [9,71] dd.lw.length (λgg _ s71 wr=>∃(mm:Nat) (σ:BS) (ms:Value) (ps:List Value),mm<=dd.lw.length/\dd.lw.length - mm<=gg/\s71=.int .i64 mm/\σ.ml.length<=uns w+DY (w.take kk)+mds (dd.lw.take mm)/\ps.length=mm/\DG NS Q w K B DI W eb cb oe oc os (λi=>if i=kk then 3 else if i<kk then 2 else 1) σ wr/\Kd w B DI W kk dk ob ut ms (dd.lw.take mm) ps σ wr)
       case atStart=>exact⟨0,Ie,_,[],jQc _,M,rfl,jQd zq.out (Nat.le_add_right _ _),rfl,Kc.1,lx.1⟩
       case round=>
        clear Kc lx zq;obtain⟨mm,σ,ms,ps,kh,Dp,rfl,gP,mR,nS,Cv⟩:=hrel;by_cases ee:mm<dd.lw.length
        .have qY:(mm:Int)<(dd.lw.length:Int):=M
         obtain⟨m,hmj⟩:∃m,dd.lw[mm]?=some m:=⟨dd.lw[mm],by simp[ee]⟩;have acT:RM DI wr dd.lw (.slice am dd.lw.length cm):=R5.1.move (λb hb=>⟨hb,nS.jJ.block b (Zx.1 b hb)⟩);rcases acT with⟨he,_⟩|⟨_,b2,o2,xv,dN,D7,Kq,du,hC⟩
         .rw[he]at ee;simp at ee
         simp at dN;obtain⟨rfl,rfl⟩:=dN;obtain⟨g0,g1,hE⟩:=hC.at hmj;obtain⟨sa2,sc2,f2,f3,f4,f5,f6,f7,f8,iL⟩:=hE.bR;have Ip:∀m'∈dd.lw.take mm,m'.sig.ld=7:=λm' j9=>(OL.out.2.2.2.1 m' (jQt j9)).1;have Dv:=jQ8 hmj;have ar:=an wr (.cells #[.string m.name,.bool m.ptr,.int .i64 m.sig.ld,.int .i64 m.sig.n,.int .i64 m.sig.m,.bool m.sig.va,.string m.sig.name,.string m.sig.gc,.slice sa2 m.sig.li.length sc2] 68);have Vy:=nS.gr zk.1 ((Md.start nS.bs).below ar);have Vz:=Cv.gr nS.bs Zy.1 Ip (Gr.below ar);obtain⟨ob',Wf,e1,e2,e3, -⟩:=Vy.dec kk dk Zy.1;rw[XC.1]at e1;obtain rfl:=jQw e1;obtain⟨sa3,sc3,e4,hss⟩:=iL.bR;simp at e4;obtain⟨rfl,rfl⟩:=e4;have cF:σ.ml.length+nds m.sig<=1099511627776:=by
          have I:=CD hmj;have U:=MF dd.lw (mm+1);have h3:=CE HMK.1;have h4:=VA w (kk+1);have h5:=af3.1;omega
         have yN:=Zz OL.out.2.2.2.2 (l1:=dd.lw.take mm) (m:=m) (l2:=dd.lw.drop (mm+1)) (by
          have I:=(jQg.1 hmj);obtain⟨U,h3⟩:=I;rw[<-h3,<-jQv U,jRo])
         have ag:=DS (Nr.1 B) rfl Vy.bs Zy.1 Vz.jl e2 e3 Vz.row Vy.jJ.size Vz.lw (λm' j9=>⟨(OL.out.2.2.2.1 m' (jQt j9)).1,(OL.out.2.2.2.1 m' (jQt j9)).2.1⟩) (OL.out.2.2.2.1 m Dv).1 (OL.out.2.2.2.1 m Dv).2.1 yN (OL.out.2.2.2.1 m Dv).2.2
          (hss.move (λb hb=>⟨hb,ar.block b (nS.bs.di b hb).1⟩)) cF (by rw[mR];have:=OL.out.2.2.1;omega)
         obtain⟨HDQ,HCQ,Hn,HMJ,zq⟩:=Z5 Vy Vz (And.intro Ip (OL.out.2.2.2.1 m Dv).1) hmj (And.intro gP mR);clear gP mR nS Cv hC hE iL hss Ip ar Vy Vz e2 e3 cF yN Dv hmj e1;go_wp2_with fail;clear g0 g1 f2 f3 f4 f5 f6 f7 f8;refine ag.mono ?_;rintro eA wA Q9;have af5:=Q9;obtain⟨rfl, -⟩:=Q9;obtain⟨aO,p,xX,af6,af7,af8, -⟩:=HDQ.1.YI zk.1 HCQ.1 Zy.1 i6 Hn.1.1 Hn.1.2 af5;obtain⟨Kc,lx,rG⟩:=Z3 af6 af7 af8;clear ag af5 af6 af7 af8;go_wp2_with fail;go_roundg (dd.lw.length - (mm+1))
         case measure=>omega
         case rel=>
          refine⟨mm+1,aO,xX,ps++[p],M,M,by go_num,?_,by rw[jQo,zq.out.2];rfl,Kc.1,?_⟩
          .rw[CD HMJ.1];have:=zq.out.1;have:=rG.1;omega
          .rw[jRm,HMJ.1];exact lx.1
        .have qY:¬(mm:Int)<(dd.lw.length:Int):=M
         obtain⟨D',Ot⟩:=nS.done zk.1 Cv Zy.1 XC.1 HMK.1 (jR6 M) (st':=λi=>if i<kk+1 then 2 else 1) (λi=>by
          by_cases I:i=kk
          .rw[jQ7 I,jQ7 M]
          .rw[jQ4 I,jQ4 I];by_cases U:i<kk
           .rw[jQ7 U,jQ7 M]
           .rw[jQ4 U,jQ4 M])
         have HDN:=Z Ot;have zq:=Z (show σ.ml.length<=uns w+DY (w.take (kk+1))by
          rw[CE HMK.1];have:=MF dd.lw mm;omega)
         clear nS Cv Ot gP;have rO:w.length<=9223372036854775807:=by have:=HWL.1;omega
         go_wp2_with fail;go_roundg (w.length - (kk+1))
         case measure=>omega
         case rel=>exact⟨kk+1,{σ with D:=D'},M,M,by go_num,zq.out,HDN.out⟩
      .have aR:¬(kk:Int)<(w.length:Int):=M
       obtain⟨obj,dU⟩:=nS.nmi (λhp hj=>jQ7 M);have ag:=rF (Kp.1 σ.S σ.D obj) zk.1 nS.bs dU (nS.bs.rk HQR.1.1 HQR.1.2);have Kc:=Z nS;clear nS dU gP;go_wp2_with fail;refine ag.mono ?_;rintro eA wA ⟨rfl,Q5⟩;have HPC:=Z (VB Kc.1 Q5);clear ag Q5;go_wp2;go_ret;exact HPC.1
