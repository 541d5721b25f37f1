import Derived.Test.YtabjfnkfocnklaaGreatDoorA12
set_option linter.all false
set_option maxHeartbeats 16000000
set_option maxRecDepth 20000
namespace Go.Proofs.YtabjfnkfocnklaaGreatDoor
open Go Go.RowKit Go.Lib S P Tryz
variable{aO eo fT σ:BS}{B:Bl}{e s t x:GT}{Q:GT->Prop}{NS:List ByteArray}{l:List GT}{ps qs vs xs ys:List Value}{w:List ah}{K N b base c ec g i kk m md n sb zi:Nat}{D D' DI P:Nat->Prop}{a ea rc rc':Option Addr}{Y:Prop}{S:Sg}{e2 ty:TypeId}{GA ev fv ms mv p pa re sl tg tv v v' v2:Value}{W W' W0 W1 W2 w':World}
theorem jR6:type_of% @List.take_of_length_le:=@List.take_of_length_le
theorem jRj:type_of% @List.length_take:=@List.length_take
theorem M130(h:Y:=by
 go_wp2_with fail;refine hc.mono ?_;rintro e w' ⟨rfl,hw⟩;subst hw;clear hc;go_wp2_with fail;go_ret;refine⟨i6,?_⟩;simp[oS,allocs]):Y:=h
theorem M184(h:Y:=by
 obtain⟨k1,k2,cur,k3⟩:=aC cH.fr.own b hb;exact⟨⟨cH.fr.loc b hb,k1⟩,_,_,_,k3⟩):Y:=h
theorem M212(h:Y:=by
 cases j with
 |zero=>simp at hu;subst hu;exact jQh h1
 |succ j=>simp at hu):Y:=h
theorem M25(h:Y:=by
 have OW:=aw hP1.here 2 (.slice a2 vs.length c2);have hP3:=aw OW.here 5 (.bool true);have hP:=(hP1.trans OW).trans hP3;have hM:=(tj.1.md.ng RZ.1 (λb hb=>⟨xf.1.loc b hb,(aC xf.1.own b hb).1⟩)).put hP (lO.1.bs.loc (jQ0 _)) lO.1.gr.size;have KV:∀{ty:TypeId} {xs:List Value} {u:Value},ty≠102->dK B DI σ W0.heap.size wr ty xs u->∀g,u.ownBlock=some g->g≠W.heap.size:=λqy hr g hg e=>by
  obtain⟨_,_,cur,h2⟩:=aC hr.own g hg;rw[e,Xg.1]at h2;cases h2;exact qy rfl
 refine⟨rfl,hM,by simpa[Nb]using hP.here,Fq.1.cR λg hg=>(hP.other g (KV i5 Fq.1 g hg)).trans (RZ.1.block g (aC Fq.1.own g hg).2.1 λe=>?_),wO,⟨cD HO.1 λg hg=>hP.other g (KV i5 xf.1 g hg),xf.1.loc⟩,HFS.1.imp λm p h=>h.move (λ_ _ h=>h) (hP.aJ (lO.1.bs.loc (jQ0 _)).2.1)⟩;obtain⟨_,_,cur,h2⟩:=aC Fq.1.own g hg;obtain⟨_,_,adF,h3⟩:=aC xf.1.own g e;rw[h2]at h3;cases h3):Y:=h
theorem M26(h:Y:=by
 have yV:l.take kk=l:=jR6 m9;obtain⟨a6,c6,rfl,JA⟩:=cH.fr.form;have cq:=cH.md;have xe:=cH.fl;rw[yV]at cq xe;have OU:=cq.lW (λb=>(Value.slice a6 ps.length c6).ownBlock=some b) (λb hb=>by
  obtain⟨k1,k2,cur,k3⟩:=aC cH.fr.own b hb;exact⟨⟨cH.fr.loc b hb,k1⟩,_,_,_,k3⟩)
 have hr:=cH.fr.row (D:=λb=>aO.D b\/(Value.slice a6 ps.length c6).ownBlock=some b) (λg hg=>.inr hg);have zF:=yg (D':=λb=>aO.D b\/(Value.slice a6 ps.length c6).ownBlock=some b) (W':=wr) xe (λb hb=>⟨.inl hb,rfl⟩);obtain⟨n6,JA⟩:∃n6,ps.length=n6+1:=⟨ps.length - 1,by have:=Hz.1;omega⟩;have HP:=Z (aaX OU HK.1 HLE.1 hr zF (λe=>by rw[e]at JA;simp at JA));have ag:=rB a6 n6 c6 wr;rw[<-JA]at ag;clear cH eF cq xe OU hr zF yV mR JA;go_wp2_with fail;refine rv ag ?_;clear ag;exact M13):Y:=h
theorem M27(h:Y:=by
 clear bF jm uM;go_wp2_with fail;go_roundg (l.length - (kk+1))
 case measure=>omega
 case rel=>
  have Af:=jI.1.grown mS.1 lY.1 yU.1 CJ.1;have kS:=fR jI.1.bs mS.1 lY.1;have jd:=mQ.1.aJ oU.1.bs;have kh:=λb hb=>(⟨(kS b hb).1,(kS b hb).2.trans (jd b hb).2⟩:_/\w7.heap[b]?=_);have nU:=eF.1.st.1.gr eF.1.md.bs (rQ.1.trans mQ.1);have Fp:=nU.1.grown jI.1.bs mS.1 i5 lY.1;have tB:l.take (kk+1)=l.take kk++[e]:=by rw[jRm,HE.1];rfl
  refine⟨kk+1,_,ps++[ptr wA.heap.size],m9,m9,by go_num,?_,Af.2,?_,Fp.1,Fp.2.trans (nU.2.trans eF.1.st.2)⟩
  ·rw[Na.1];exact Af.1.more (by have h1:=nb.1;rw[Ku.1]at h1;omega)
  ·rw[tB];refine All2.snoc ?_ (yg Ka.1 kh);exact⟨wA.heap.size,_,rfl,.inr rfl,by rw[(kh wA.heap.size (.inr rfl)).2,HEK.1];exact ak _ _,by rw[Ku.1];exact HU.1⟩):Y:=h
theorem M3(h:Y:=by
 obtain⟨e,he⟩:∃e,l[kk]?=some e:=⟨l[kk]'aM,by simp[aM]⟩;obtain⟨ea,ec,RW,uz⟩:=Ht.1 kk e wr he cH.st.2 (Zx.1 _ wr cH.md.gr);obtain⟨c0,c1,c2,c3,c4,OS,Kk⟩:=RW;have kq:=ak wr (.cells #[.int .i64 e.kind,.int .i64 e.n,.int .i64 e.m,.bool e.va,.string e.name,.string e.tag,.slice ea e.elems.length ec] 25);obtain⟨y0,y1,y2,y3,y4,y5,y6⟩:=ao kq;have FO:=an wr (.cells #[.int .i64 e.kind,.int .i64 e.n,.int .i64 e.m,.bool e.va,.string e.name,.string e.tag,.slice ea e.elems.length ec] 25);have lO:=Z (eF.1.md.below FO);have ym:=Z (Gr.below FO:Gr B aO aO wr _);obtain⟨dt,dF,qm⟩:=nX.1 e (jQ8 he);have CI:=lP he;have Ad:=lQ l (kk+1);obtain⟨Na,HE,nb,kr⟩:=Z4 CI he qm (show ps.length+1<=1099511627776 by have:=D5.1;omega);have rO:l.length<=9223372036854775807:=by have:=D5.1;omega
 have kj:aO.ml.length+nds (ep e)<=1099511627776:=by have:=eF.1.md.len;have:=HL.1;have:=Rg.1;omega
 have KJ:=uz.move (eF.1.md.bs.C0 ym.1);clear cH CI Ad kq FO mR qm;by_cases cg:e.kind=13
 ·have ll:(e.kind==13)=true:=by simp[cg]
  have HEK:=Z ll;obtain⟨x,Vs⟩:=HTI.1 e (jQ8 he) cg;have JO:ep e=x:=by unfold ep;rw[jQ7 ll,Vs];rfl
  have Ku:=Z JO;rw[JO]at dt dF kj;obtain⟨b9,o9,xa,xc,rfl,Zp,xH⟩:=VD KJ Vs;obtain⟨z0,z1,z2,z3,z4,z5,z6⟩:=Zp;have aip:0<e.elems.length:=by rw[Vs];simp
  have aiq:(0:Int)<(e.elems.length:Int):=m9
  have ag:=KR.1 x aO _ _ dF dt lO.1.bs xH kj;clear uz KJ xH dt dF Vs JO he cg;go_wp2_with fail;clear c0 c1 c2 c3 c4 OS Kk y0 y1 y2 y3 y4 y5 y6 z0 z1 z2 z3 z4 z5 z6;refine ag.mono ?_;rintro eA wA ⟨u,fT,rfl,cq,hu⟩;have HM:=Z (lO.1.trans cq);obtain⟨bu,rfl, -⟩:=id hu;have HU:=Z hu;have HG:=Z cq.gr;clear ag cq hu;go_wp2_with fail;refine rv (kR _ _ _ _) ?_;have oU:=Z (HM.1.iz #[.bool true,.iface (tid (x).kind) (ptr bu)] 234);obtain⟨rQ,jI,mQ⟩:=Z3 (ym.1.trans (HG.1.trans (jk HM.1.bs #[.bool true,.iface (tid (x).kind) (ptr bu)] 234))) (oU.1.below (an _ (.cells #[ptr wA.heap.size] 209))) (Gr.below (an (wA.alloc (.cells #[.bool true,.iface (tid (x).kind) (ptr bu)] 234)) (.cells #[ptr wA.heap.size] 209)):Gr B _ {fT with D:=λb=>fT.D b\/b=wA.heap.size} _ _);have Ka:=Z (Hc eF.1.fl eF.1.md.bs rQ.1);have mS:=Z ((eF.1.fr.gr rQ.1).gr mQ.1);go_wp2_with (at_builtin;refine gH underlying208 He rfl m9 rfl _ _ rfl W.heap.size u6 ps rfl mS.1.own (ptr wA.heap.size) rfl ⟨wA.heap.size+1,0,none⟩ 1 rfl (gi _ _ _ _) kr.1 jI.1.gr.size ?_);intro v7 w7 bF jm uM;obtain⟨yU,lY,CJ⟩:=Z3 (show w7.ownsRow W.heap.size 209 1 v7 (ps++[ptr wA.heap.size]).length (ps++[ptr wA.heap.size])by simpa using bF) (show((wA.alloc (.cells #[.bool true,.iface (tid (x).kind) (ptr bu)] 234)).alloc (.cells #[ptr wA.heap.size] 209)).grownBy w7 u6.ownBlock from jm) (show v7.ownBlock=u6.ownBlock\/v7.ownBlock=some ((wA.alloc (.cells #[.bool true,.iface (tid (x).kind) (ptr bu)] 234)).alloc (.cells #[ptr wA.heap.size] 209)).heap.size by simpa using uM);exact M27
 ·have ll:(e.kind==13)=false:=by simp[cg]
  have HEK:=Z ll;have JO:ep e=e:=by unfold ep;rw[jQ4 (by simp[cg])]
  have Ku:=Z JO;rw[JO]at dt dF kj;have ag:=KR.1 e aO _ _ dF dt lO.1.bs KJ kj;clear uz KJ dt dF he cg JO;go_wp2_with fail;clear c0 c1 c2 c3 c4 OS Kk y0 y1 y2 y3 y4 y5 y6;refine ag.mono ?_;rintro eA wA ⟨u,fT,rfl,cq,hu⟩;have HM:=Z (lO.1.trans cq);obtain⟨bu,rfl, -⟩:=id hu;have HU:=Z hu;have HG:=Z cq.gr;clear ag cq hu;go_wp2_with fail;refine rv (kR _ _ _ _) ?_;have oU:=Z (HM.1.iz #[.bool false,.iface (tid (e).kind) (ptr bu)] 234);obtain⟨rQ,jI,mQ⟩:=Z3 (ym.1.trans (HG.1.trans (jk HM.1.bs #[.bool false,.iface (tid (e).kind) (ptr bu)] 234))) (oU.1.below (an _ (.cells #[ptr wA.heap.size] 209))) (Gr.below (an (wA.alloc (.cells #[.bool false,.iface (tid (e).kind) (ptr bu)] 234)) (.cells #[ptr wA.heap.size] 209)):Gr B _ {fT with D:=λb=>fT.D b\/b=wA.heap.size} _ _);have Ka:=Z (Hc eF.1.fl eF.1.md.bs rQ.1);have mS:=Z ((eF.1.fr.gr rQ.1).gr mQ.1);go_wp2_with (at_builtin;refine gH underlying208 He rfl m9 rfl _ _ rfl W.heap.size u6 ps rfl mS.1.own (ptr wA.heap.size) rfl ⟨wA.heap.size+1,0,none⟩ 1 rfl (gi _ _ _ _) kr.1 jI.1.gr.size ?_);intro v7 w7 bF jm uM;obtain⟨yU,lY,CJ⟩:=Z3 (show w7.ownsRow W.heap.size 209 1 v7 (ps++[ptr wA.heap.size]).length (ps++[ptr wA.heap.size])by simpa using bF) (show((wA.alloc (.cells #[.bool false,.iface (tid (e).kind) (ptr bu)] 234)).alloc (.cells #[ptr wA.heap.size] 209)).grownBy w7 u6.ownBlock from jm) (show v7.ownBlock=u6.ownBlock\/v7.ownBlock=some ((wA.alloc (.cells #[.bool false,.iface (tid (e).kind) (ptr bu)] 234)).alloc (.cells #[ptr wA.heap.size] 209)).heap.size by simpa using uM);exact M27):Y:=h
theorem qz:∀l:List GT,l.length<=ndss l
 |[]=>i6
 |e::l=>by have:=qz l;have:=Gp e;rw[ndss];simp;omega
structure StS(NS:List ByteArray)(Q:GT->Prop)(w:List ah)(K:Nat)(B:Bl)(DI:Nat->Prop)(eo:BS)(W0:World)(l:List GT)(kk:Nat)(σ:BS)(W:World)(fv tv:Value)(ps:List Value):Prop where
 md:Md NS Q w K B DI eo W0 (ndss (l.take kk)) σ W
 fr:dK B DI σ W0.heap.size W 84 ps fv
 fl:All2 (λe p=>nE σ.S σ.D W e.name e p) (l.take kk) ps
 tr:dK B DI σ W0.heap.size W 9 ((l.take kk).map λe=>Value.string e.tag) tv
theorem Gr.aJ(h:Gr B σ aO W W')(hb:Bs NS Q w K B DI σ W):au σ.D aO.D W W':=λb hd=>⟨h.Jo b hd,h.block b (hb.th.mT b hd) (λe=>hb.kJ.2 (e▸hd)) (λe=>(hb.gY b e).2.1 hd)⟩
theorem Yz(h:All2 (λe p=>nE σ.S σ.D W e.name e p) l ps)(hb:Bs NS Q w K B DI σ W)(hg:Gr B σ aO W W'):All2 (λe p=>nE aO.S aO.D W' e.name e p) l ps:=h.imp λ_ _ hp=>hp.move hg.sle (hg.aJ hb)
theorem StS.go(h:StS NS Q w K B DI eo W0 l kk σ W fv tv ps)(hg:Gr B σ aO W W'):dK B DI aO W0.heap.size W' 84 ps fv/\All2 (λe p=>nE aO.S aO.D W' e.name e p) (l.take kk) ps/\dK B DI aO W0.heap.size W' 9 ((l.take kk).map λe=>Value.string e.tag) tv:=
 ⟨h.fr.gr hg,Yz h.fl h.md.bs hg,h.tr.gr hg⟩
theorem Md.iz(h:Md NS Q w K B DI eo W0 n σ W)(cs:Array Value)(ty:TypeId):Md NS Q w K B DI eo W0 n {σ with D:=λb=>σ.D b\/b=W.heap.size} (W.alloc (.cells cs ty)):=
 (h.below (an W _)).lW (λb=>b=W.heap.size) λb e=>by subst e;exact⟨⟨h.bs.loc (jQ0 _),h.gr.size⟩,_,_,_,ak W _⟩
theorem jk(h:Bs NS Q w K B DI σ W)(cs:Array Value)(ty:TypeId):Gr B σ {σ with D:=λb=>σ.D b\/b=W.heap.size} W (W.alloc (.cells cs ty)):=
 (Md.start h).iz cs ty |>.gr
theorem fR(h:Bs NS Q w K B DI σ W)(hr:dK B DI σ base W ty xs v)(hg:W.grownBy W' v.ownBlock):au σ.D σ.D W W':=λb hb=>⟨hb,hg.block b (h.th.mT b hb) λe=>(hr.loc b e.symm).2.1 hb⟩
theorem gi(w:World)(o:Obj)(x:Value)(ty:TypeId):∀j u,[x][j]?=some u->((w.alloc o).alloc (.cells #[x] ty)).cell? ((⟨w.heap.size+1,0,none⟩:Addr).add j)=some u:=by
 have:=cell_one_new (w.alloc o) x ty;rw[jQ3]at this;exact this
theorem T7(h:PT NS Q w 2 t)(hk:t.kind=5):((∀t,Q t->Q0 t)->∀e∈t.elems,wM e.name/\e.name.size<=9223372036854775807)/\(t.elems.map (·.name)).Nodup:=by
 refine⟨λiA=>Jz iA (pg h m9) hk,?_⟩;cases h with
 |basic a b=>simp[GT.kind]at hk
 |uni a=>simp only[GT.kind]at hk;omega
 |named a b c=>simp[GT.kind]at hk
 |al a b h1=>simp only[GT.kind]at hk;omega
 |st a b h1=>exact b
 |ifc a b c d e g h1 h2 q=>simp[GT.kind]at hk
 |one a b c h1=>simp only[GT.kind]at hk;omega
 |mp h1 h2=>simp[GT.kind]at hk
 |fn a b c h1=>simp[GT.kind]at hk
 |ti a h1=>simp[GT.kind]at hk
 |un a b c h1=>simp[GT.kind]at hk
theorem EL:∀{l:List GT} {ps:List Value},All2 (λe p=>nE σ.S σ.D W e.name e p) l ps->Bs NS Q w K B DI σ W->All2 (aeP W) (l.map (·.name)) ps
 |[],[],_,_=>trivial
 |e::l,p::ps,h,hb=>by
  refine⟨?_,EL h.2 hb⟩;obtain⟨b,pos,pk,v,k,rfl,hd,hh, -⟩:=h.1;exact⟨b,pk,rfl,by simp[World.cell?,hh],by simp[World.cell?,hh],hb.th.mT b hd⟩
 |[],_::_,h,_=>h.elim
 |_::_,[],h,_=>h.elim
theorem ahx{fs:Value}(h:Md NS Q w K B DI eo W0 n σ W)(hk:t.kind=5)(oY:eE σ.D W ps sl)(NN:eE σ.D W (t.elems.map λe=>Value.string e.tag) tg)(hf:All2 (λe p=>nE σ.S σ.D W e.name e p) t.elems ps)(hz:W.heap.size<=b)(ji:Below W.heap.size W W')(Ww:W'.heap[b]?=some (.cells #[fs,tg] 165 (0,0)))(QY:fs=sl\/(ps=[]/\∃a,fs=.slice (some a) 0 0)):
 dC NS Q w K B DI eo W0 n (λu aO _=>dq aO.S u t) (.returned (.iface 161 (ptr b))) W':=by
 obtain⟨k1,k2,k3,k4,k5⟩:=fa (t:=t) m9 m9 m9 m9;have hm:au σ.D σ.D W W':=λx hx=>⟨hx,ji.block x (h.bs.th.mT x hx)⟩;have mY:=h.bs.loc hz;have h2:=h.below ji;have hS:=fG (s:=aG t) mY.1;have Jn:eE σ.D W' ps fs:=by
  obtain rfl|⟨rfl,a,rfl⟩:=QY
  ·exact oY.move hm
  ·exact .inl ⟨rfl,some a,0,rfl,λh=>by cases h⟩
 have uu:mZ (cE σ.S b (aG t)) σ.D W' b (aG t):=
  ⟨m9,m9,m9,m9,λ_=>⟨fs,tg,ps,Ww,Jn,by rw[k5];exact NN.move hm,by rw[k5];exact hf.imp λ_ _ hp=>hp.move hS hm⟩,m9,m9,m9,m9,m9,m9⟩
 refine⟨_,_,rfl,h2.add mY (by have:=h.gr.size;omega) Ww (λhi=>by unfold cI at hi;omega) uu (λhi=>?_),⟨_,by rw[hk];rfl,fH _ _ _⟩⟩;exact M161
theorem zm(ih:dR NS Q w K B DI N)(iA:∀t,Q t->Q0 t)(hk:t.kind=5)(hn:nds t<=N+1)(hp:PT NS Q w 2 t)(cG:Bs NS Q w K B DI σ W)(hv:RT DI W t v)(hl:σ.ml.length+nds t<=1099511627776):
 Calls prog 63 #[ptr B.bb,v] W (dC NS Q w K B DI σ W (ndss t.elems) λu aO _=>dq aO.S u t):=by
 obtain⟨a0,c,rfl,hs⟩:=hv.bR;have xd:=D4 hp;have bk:=gq t;have rP:=qz t.elems;have jz:=ak W (bx t a0 c);have ar:=an W (bx t a0 c);obtain⟨x0, -, -, -, -, -,x6⟩:=ao jz;obtain⟨KR,VU,uL,ZK,bS,HL,na,HN⟩:=Z8 ih xd cG hs ar hl bk hn;obtain⟨D5,HP,HK⟩:=Z3 rP hp hk;clear ih xd cG hs ar jz hv hl bk hn rP hp hk;go_enter func63,ntmps63;go_wp2_with fail;clear x0 x6
 go_loopg [5,6,12] t.elems.length (λgg s5 s6 s12 wr=>∃(kk:Nat) (aO:BS) (ps:List Value),kk<=t.elems.length/\t.elems.length - kk<=gg/\s12=.int .i64 kk/\StS NS Q w K B DI σ W t.elems kk aO wr s5 s6 ps)
 case atStart=>exact⟨0,σ,[],jQc _,m9,rfl,(Md.start uL.1).below bS.1,dK.nil,trivial,dK.nil⟩
 case round=>
  obtain⟨kk,aO,ps,ez,hg,rfl,cH⟩:=hrel;have eF:=Z cH;have mR:=cH.fl.len;rw[jRj]at mR;by_cases aM:kk<t.elems.length
  ·have aR:(kk:Int)<(t.elems.length:Int):=m9
   obtain⟨e,he⟩:∃e,t.elems[kk]?=some e:=⟨t.elems[kk]'aM,by simp[aM]⟩;rcases aN.1 ZK.1 with⟨h0,_⟩|⟨-,b,o,c2,pT, -, -,uw,Hl⟩
   ·rw[h0]at aM;simp at aM
   simp at pT;obtain⟨rfl,rfl⟩:=pT;have qk:=Hl.at he;obtain⟨ea,ec,RW,uz⟩:=(qk.move (uL.1.C0 eF.1.md.gr) uw).RX;obtain⟨c0,c1,c2,c3,c4,OS,Kk⟩:=RW;have Fl:=Z (show Below wr.heap.size wr (wr.alloc (bx e ea ec)).drew from(an _ _).drew);have kq:=ak wr (bx e ea ec);obtain⟨y0,y1,y2,y3,y4,y5,y6⟩:=ao kq;have lO:=Z (eF.1.md.below Fl.1);have ym:=Z (Gr.below Fl.1:Gr B aO aO wr _);have fq:=eF.1.md.bs.loc (g:=wr.heap.size) (jQ0 _);have ee:wr.heap.size<(wr.alloc (bx e ea ec)).drew.heap.size:=jQ2 kq;have CI:=lP he;have Ad:=lQ t.elems (kk+1);have ag:=KR.1 e aO _ _ (by have:=na.1;have:=HN.1;omega) (VU.1 e (jQ8 he)) lO.1.bs (uz.move (eF.1.md.bs.C0 ym.1)) (by have:=eF.1.md.len;have:=HL.1;have:=na.1;omega);obtain⟨Na,HE,kr,HPL,Ob⟩:=Z5 CI he (show ps.length+1<=1099511627776 by have:=D5.1;have:=HL.1;have:=na.1;omega) (show ps.length=kk by omega) (show((t.elems.take kk).map λe=>Value.string e.tag).length+1<=1099511627776 by rw[jR7,jRj];have:=D5.1;have:=HL.1;have:=na.1;omega);have gV:=Z (show∀mL w',Bs NS Q w K B DI mL w'->Gr B aO mL (wr.alloc (bx e ea ec)).drew w'->w'.cell? ⟨B.bb,0,none⟩=some (ptr B.pk)/\w'.cell? ⟨wr.heap.size,0,none⟩=some (.int .i64 e.kind)/\w'.cell? ⟨wr.heap.size,1,none⟩=some (.int .i64 e.n)/\w'.cell? ⟨wr.heap.size,2,none⟩=some (.int .i64 e.m)/\w'.cell? ⟨wr.heap.size,3,none⟩=some (.bool e.va)/\w'.cell? ⟨wr.heap.size,4,none⟩=some (.string e.name)/\w'.cell? ⟨wr.heap.size,5,none⟩=some (.string e.tag)/\w'.cell? ⟨wr.heap.size,6,none⟩=some (.slice ea e.elems.length ec)from
    λmL w' h1 h2=>⟨by simp[World.cell?,h1.jl],fq.cell ee h2 y0,fq.cell ee h2 y1,fq.cell ee h2 y2,fq.cell ee h2 y3,fq.cell ee h2 y4,fq.cell ee h2 y5,fq.cell ee h2 y6⟩)
   clear cH Hl qk y0 y1 y2 y3 y4 y5 y6 kq CI ee Ad uz uw fq;go_wp2_with fail;clear c0 c1 c2 c3 c4 OS Kk;refine jQ9 (S:=(λw'=>w'.cell? ⟨B.bb,0,none⟩=some (ptr B.pk)/\w'.cell? ⟨wr.heap.size,0,none⟩=some (.int .i64 e.kind)/\w'.cell? ⟨wr.heap.size,1,none⟩=some (.int .i64 e.n)/\w'.cell? ⟨wr.heap.size,2,none⟩=some (.int .i64 e.m)/\w'.cell? ⟨wr.heap.size,3,none⟩=some (.bool e.va)/\w'.cell? ⟨wr.heap.size,4,none⟩=some (.string e.name)/\w'.cell? ⟨wr.heap.size,5,none⟩=some (.string e.tag)/\w'.cell? ⟨wr.heap.size,6,none⟩=some (.slice ea e.elems.length ec))) g9 (gV.1 _ _ lO.1.bs (Gr.refl _ _)) (λai=>?_);refine t4 0 1 2 3 ?_;refine t4 4 5 6 7 ?_;refine tk 8 ?_;refine rd 9 rfl λK hK=>?_;go_simp;clear ai;refine ag.mono ?_;rintro eA wA ⟨u,fT,rfl,cq,hu⟩;have HM:=Z (lO.1.trans cq);obtain⟨bu,rfl, -⟩:=id hu;have HU:=Z hu;have HG:=Z cq.gr;refine hK.out _ _ (gV.1 _ _ cq.bs HG.1) (λai=>?_);clear ag cq hu;clear hK K;refine rd 10 rfl λK hK=>?_;go_simp;clear ai;refine rv (BG _ _ _ _ _ _) ?_;have oU:=Z (HM.1.iz #[.int .i64 0,ptr B.pk,.string e.name,.iface (tid e.kind) (ptr bu),.int .u8 6,.bool false] 167);have rQ:=Z (HG.1.trans (jk HM.1.bs #[.int .i64 0,ptr B.pk,.string e.name,.iface (tid e.kind) (ptr bu),.int .u8 6,.bool false] 167));refine hK.out _ _ (gV.1 _ _ oU.1.bs rQ.1) (λai=>?_);clear hK K;refine rd 11 rfl λK hK=>?_;go_simp;clear ai;have jI:=Z (oU.1.below (an _ (.cells #[ptr wA.heap.size] 84)));have mQ:=Z (rQ.1.trans (Gr.below (an _ (.cells #[ptr wA.heap.size] 84))));refine hK.out _ _ (gV.1 _ _ jI.1.bs mQ.1) (λai=>?_);clear hK K;refine rd 12 rfl λK hK=>?_;have Bj:=Z (eF.1.go (ym.1.trans mQ.1));refine lU underlying162 KT rfl m9 rfl (.tmp 16) (.tmp 27) rfl W.heap.size u5 ps (by simp[Act.eval,Act.put]) Bj.1.1.own (ptr wA.heap.size) rfl ⟨wA.heap.size+1,0,none⟩ 1 (by simp[Act.eval,Act.put]) (gi _ _ _ _) kr.1 jI.1.gr.size ?_;intro v5 w5 aL lX oX;obtain⟨HM5,HT5,YA⟩:=Z3 (jI.1.grown Bj.1.1 lX aL oX) (Bj.1.2.2.other Bj.1.1 lX i5) (Bj.1.2.1.imp λ_ _ hp=>hp.move (λ_ _ h=>h) (fR jI.1.bs Bj.1.1 lX));have HNV:=Z ((fR jI.1.bs Bj.1.1 lX) wA.heap.size (.inr rfl)).2;have xn:∀g,u5.ownBlock=some g->g≠B.bb/\g≠wr.heap.size:=λg hg=>⟨(eF.1.fr.loc g hg).2.2.1,by have:=(aC eF.1.fr.own g hg).2.1;omega⟩;have mF:=ai;clear ai;refine hK.out _ _ ⟨lX.cell mF.1 (λe'=>(xn _ e'.symm).1 rfl),lX.cell mF.2.1 (λe'=>(xn _ e'.symm).2 rfl),lX.cell mF.2.2.1 (λe'=>(xn _ e'.symm).2 rfl),lX.cell mF.2.2.2.1 (λe'=>(xn _ e'.symm).2 rfl),lX.cell mF.2.2.2.2.1 (λe'=>(xn _ e'.symm).2 rfl),lX.cell mF.2.2.2.2.2.1 (λe'=>(xn _ e'.symm).2 rfl),lX.cell mF.2.2.2.2.2.2.1 (λe'=>(xn _ e'.symm).2 rfl),lX.cell mF.2.2.2.2.2.2.2 (λe'=>(xn _ e'.symm).2 rfl)⟩ (λai=>?_);clear mF xn aL lX oX
   (try simp only[jRa,jR3,jR4,Act.put,jQy,jRe,jRf])
   clear hK K;refine tk 13 ?_;refine jQl g9 ?_ _;have Ss:=ai.2.2.2.2.2.2.1;clear ai;obtain⟨tg,xI⟩:∃tg,tg=(t.elems.take kk).map λe=>Value.string e.tag:=⟨_,rfl⟩;have HTG:=Z xI;have hT6:=HT5.1.gr (Gr.below (an w5 (.cells #[.string e.tag] 9)));rw[<-xI]at hT6;obtain⟨HT6,HLT,HM6,Ya⟩:=Z4 hT6 (show tg.length+1<=1099511627776 by rw[xI];exact Ob.1) (HM5.1.1.below (an w5 (.cells #[.string e.tag] 9))) (HM5.1.2.gr (Gr.below (an w5 (.cells #[.string e.tag] 9))));clear hT6 xI;go_wp2_with (at_builtin;refine gH underlying163 abM rfl m9 rfl _ _ rfl W.heap.size u6 tg rfl HT6.1.own (.string e.tag) rfl ⟨w5.heap.size,0,none⟩ 1 rfl (cell_one_new _ _ _) HLT.1 HM6.1.gr.size ?_);intro v7 w7 bF jm uM;obtain⟨yU,lY,CJ⟩:=Z3 (show w7.ownsRow W.heap.size 9 1 v7 (tg++[Value.string e.tag]).length (tg++[Value.string e.tag])by simpa using bF) (show(w5.alloc (.cells #[.string e.tag] 9)).grownBy w7 u6.ownBlock from jm) (show v7.ownBlock=u6.ownBlock\/v7.ownBlock=some (w5.alloc (.cells #[.string e.tag] 9)).heap.size by simpa using uM);clear bF jm uM Ss;have rO:t.elems.length<=9223372036854775807:=by have:=D5.1;have:=HL.1;have:=na.1;omega
   go_wp2_with fail;go_roundg (t.elems.length - (kk+1))
   case measure=>omega
   case rel=>
    have Af:=HM6.1.grown HT6.1 lY.1 yU.1 CJ.1;have hR7:=Ya.1.other HT6.1 lY.1 i5;have jd:au _ _ w5 (w5.alloc (.cells #[.string e.tag] 9)):=(Gr.below (an w5 (.cells #[.string e.tag] 9)):Gr B _ _ w5 _).aJ HM5.1.1.bs;have kS:=fR HM6.1.bs HT6.1 lY.1;have kh:=λb hb=>(⟨(kS b hb).1,(kS b hb).2.trans (jd b hb).2⟩:_/\w7.heap[b]?=w5.heap[b]?);have tB:t.elems.take (kk+1)=t.elems.take kk++[e]:=by rw[jRm,HE.1];rfl
    refine⟨kk+1,_,ps++[ptr wA.heap.size],m9,m9,by go_num,?_,hR7,?_,?_⟩
    ·rw[Na.1];exact Af.1
    ·rw[tB];refine All2.snoc ?_ (YA.1.imp λ_ _ hp=>hp.move (λ_ _ h=>h) kh);refine⟨wA.heap.size,0,some ⟨B.pk,0,none⟩,.iface (tid e.kind) (ptr bu),6,rfl,.inr rfl,?_,HU.1⟩;rw[(kh wA.heap.size (.inr rfl)).2,HNV.1];exact aq (ak _ _)
    ·rw[tB,List.map_append,List.map_singleton,<-HTG.1];exact Af.2
  ·have aR:¬(kk:Int)<(t.elems.length:Int):=m9
   have yV:t.elems.take kk=t.elems:=jR6 m9;obtain⟨a5,c5,rfl,hn5⟩:=cH.fr.form;obtain⟨a6,c6,rfl,JA⟩:=cH.tr.form;have cq:=cH.md;have xe:=cH.fl;rw[yV]at cq xe;have OU:=cq.lW (λb=>(Value.slice a5 ps.length c5).ownBlock=some b\/(Value.slice a6 ((t.elems.take kk).map λe=>Value.string e.tag).length c6).ownBlock=some b) (λb hb=>by
    obtain hb|hb:=hb
    ·exact M184
    ·obtain⟨k1,k2,cur,k3⟩:=aC cH.tr.own b hb;exact⟨⟨cH.tr.loc b hb,k1⟩,_,_,_,k3⟩)
   have oY:=cH.fr.row (D:=λb=>aO.D b\/((Value.slice a5 ps.length c5).ownBlock=some b\/(Value.slice a6 ((t.elems.take kk).map λe=>Value.string e.tag).length c6).ownBlock=some b)) (λg hg=>.inr (.inl hg));have NN:=cH.tr.row (D:=λb=>aO.D b\/((Value.slice a5 ps.length c5).ownBlock=some b\/(Value.slice a6 ((t.elems.take kk).map λe=>Value.string e.tag).length c6).ownBlock=some b)) (λg hg=>.inr (.inr hg));rw[yV]at NN;have aeQ:=xe.imp (R':=λe p=>nE aO.S (λb=>aO.D b\/((Value.slice a5 ps.length c5).ownBlock=some b\/(Value.slice a6 ((t.elems.take kk).map λe=>Value.string e.tag).length c6).ownBlock=some b)) wr e.name e p) (λ_ _ hp=>hp.move (λ_ _ h=>h) (λb hb=>⟨.inl hb,rfl⟩));obtain⟨hq,uu⟩:=T7 HP.1 HK.1;have hlen:=xe.len;have ag:=zn (nms:=t.elems.map (·.name)) oY hn5 (OU.bs.th.mT) (EL xe cq.bs) uu (by
    intro s hs;obtain⟨e,he,rfl⟩:=jQu.1 hs;exact hq iA e he) (n2:=((t.elems.take kk).map λe=>Value.string e.tag).length) (a2:=a6) (c2:=c6) (by rw[jR7,yV,hlen];exact jQ0 _) OU.bs.th.td
   obtain⟨yF,LA,Ya,rR⟩:=Z4 OU oY NN aeQ;have ahy:((t.elems.take kk).map λe=>Value.string e.tag).length=(t.elems.map λe=>Value.string e.tag).length:=by rw[yV]
   generalize((t.elems.take kk).map λe=>Value.string e.tag).length=lt at*;subst ahy;generalize ee:(t.elems.map λe=>Value.string e.tag).length=lt at*;clear OU oY NN aeQ xe cq cH eF hq uu hlen mR yV;go_wp2_with fail;refine ag.mono ?_;rintro e' w' ⟨b,fs,rfl,hz,ji,Ww,QY⟩;have HH:=Z (And.intro hz (And.intro ji (And.intro Ww QY)));clear ag hz ji Ww QY;go_wp2_with fail;go_ret;obtain⟨hz,ji,Ww,QY⟩:=HH.1;exact ahx yF.1 HK.1 LA.1 Ya.1 rR.1 hz ji Ww QY
theorem Fk(r p q:Option Addr)(W:World):Calls prog 109 #[.pointer r,.slice none 0 0,.slice none 0 0,.pointer p,.pointer q,.bool false] W (qh W #[.pointer r,.pointer none,.pointer p,.pointer q,.bool false] 94):=by
 go_enter func109,ntmps109;exact M9
theorem IH(b:Nat)(a:Option Addr)(n c:Nat)(W:World)(h:W.heap[b]?=some (.cells #[.slice a n c] 176 (0,0))):Calls prog 147 #[ptr b] W (dL W (.int .i64 n)):=by
 have c0:=jQh h;clear h;go_enter func147,ntmps147;exact M9
theorem Lq(b b7 o7:Nat)(n c i:Nat)(v:Value)(W:World)(h:W.heap[b]?=some (.cells #[.slice (some ⟨b7,o7,none⟩) n c] 176 (0,0)))(hi:i<n)(hc:W.cell? ⟨b7,o7+i,none⟩=some v):Calls prog 148 #[ptr b,.int .i64 i] W (dL W v):=by
 have c0:=jQh h;have hi2:(i:Int)<(n:Int):=m9
 clear h;go_enter func148,ntmps148;exact M9
theorem Di(v:Value)(T:TypeId)(x:Value)(W:World)(hv:v=.iface T x):Calls prog 149 #[v] W λe W'=>e=.returned (.func (.func 190) #[] #[ptr W.heap.size])/\W'=W.alloc (.cells #[v] 37):=by
 subst hv;go_enter func149,ntmps149;exact M9
theorem Zo(b:Nat)(i:Int)(W:World):Calls prog 192 #[.iface 129 (ptr b),.int .i64 i] W (dL W (.bool false)):=by
 have hc:=ic b W;have fp:=λw=>aY 129 (ptr b) 37 w i5;go_enter func192,ntmps192;exact M179
theorem XH(b:Nat)(W:World):Calls prog 150 #[.iface 129 (ptr b)] W (dL W (.bool false)):=by
 have hc:=Zo b 32 W;go_enter func150,ntmps150;exact M179
def qv:Prop:=∀(r q:Option Addr) (pb b7 o7 n c vb sb:Nat) (W:World),n<9223372036854775807->W.heap[pb]?=some (.cells #[.slice (some ⟨b7,o7,none⟩) (n+1) c] 176 (0,0))->W.cell? ⟨b7,o7+n,none⟩=some (ptr vb)->W.cell? ⟨vb,3,none⟩=some (.iface 129 (ptr sb))->
 Calls prog 109 #[.pointer r,.slice none 0 0,.slice none 0 0,ptr pb,.pointer q,.bool true] W λe W'=>∃b,e=.returned (ptr b)/\W.heap.size<=b/\Below W.heap.size W W'/\W'.heap[b]?=some (.cells #[.pointer r,.pointer none,ptr pb,.pointer q,.bool true] 94 (0,0))
abbrev qw(S:Sg)(D:Nat->Prop)(W:World)(l:List GT)(ps:List Value):Prop:=All2 (λe p=>∃nm,nE S D W nm e p) l ps
structure SgS(NS:List ByteArray)(Q:GT->Prop)(w:List ah)(K:Nat)(B:Bl)(DI:Nat->Prop)(eo:BS)(W0:World)(l:List GT)(m kk:Nat)(σ:BS)(W:World)(fv tv:Value)(ps qs:List Value):Prop where
 md:Md NS Q w K B DI eo W0 (ndss (l.take kk)) σ W
 fr:dK B DI σ W0.heap.size W 84 ps fv
 fl:qw σ.S σ.D W ((l.take kk).take m) ps
 tr:dK B DI σ W0.heap.size W 84 qs tv
 tl:qw σ.S σ.D W ((l.take kk).drop m) qs
 dj:∀g,fv.ownBlock=some g->tv.ownBlock≠some g
theorem MZ(h:qw σ.S σ.D W l ps)(hb:Bs NS Q w K B DI σ W)(hg:Gr B σ aO W W'):qw aO.S aO.D W' l ps:=h.imp λ_ _ hp=>by obtain⟨nm,hp⟩:=hp;exact⟨nm,hp.move hg.sle (hg.aJ hb)⟩
theorem D3(h:qw S D W l ps)(hm:au D D' W W'):qw S D' W' l ps:=h.imp λ_ _ hp=>by obtain⟨nm,hp⟩:=hp;exact⟨nm,hp.move (λ_ _ h=>h) hm⟩
theorem SgS.go(h:SgS NS Q w K B DI eo W0 l m kk σ W fv tv ps qs)(hg:Gr B σ aO W W'):dK B DI aO W0.heap.size W' 84 ps fv/\qw aO.S aO.D W' ((l.take kk).take m) ps/\dK B DI aO W0.heap.size W' 84 qs tv/\qw aO.S aO.D W' ((l.take kk).drop m) qs:=
 ⟨h.fr.gr hg,MZ h.fl h.md.bs hg,h.tr.gr hg,MZ h.tl h.md.bs hg⟩
theorem dK.RP(h:dK B DI σ base W e2 ys v2)(hg:W.grownBy W' v.ownBlock)(bk:∀g,v2.ownBlock=some g->v.ownBlock≠some g):dK B DI σ base W' e2 ys v2:=
 h.cR λg hb=>hg.block g (aC h.own g hb).2.1 λe'=>bk g hb e'.symm
theorem aa4(h:l[kk]?=some e)(hm:kk<m):(l.take (kk+1)).take m=(l.take kk).take m++[e]/\(l.take (kk+1)).drop m=(l.take kk).drop m:=by
 have aM:kk<l.length:=by
  have:=jQg.1 h;exact this.1
 constructor
 ·rw[List.take_take,List.take_take,Nat.min_eq_right m9,Nat.min_eq_right m9,jRm,h];rfl
 ·rw[List.drop_eq_nil_of_le (by simp;omega),List.drop_eq_nil_of_le (by simp;omega)]
theorem aa5(h:l[kk]?=some e)(hm:m<=kk):(l.take (kk+1)).drop m=(l.take kk).drop m++[e]/\(l.take (kk+1)).take m=(l.take kk).take m:=by
 constructor
 ·rw[jRm,h,List.drop_append_of_le_length]
  ·rfl
  ·have:=jQg.1 h;obtain⟨h1,_⟩:=this;rw[jRj];omega
 ·rw[List.take_take,List.take_take,Nat.min_eq_left m9,Nat.min_eq_left m9]
theorem agG(h:PT NS Q w md t)(hk:t.kind=7):0<=t.m/\t.m<=(t.elems.length:Int):=by
 cases h with
 |basic a b=>simp[GT.kind]at hk
 |uni a=>simp only[GT.kind]at hk;omega
 |named a b c=>simp[GT.kind]at hk
 |al a b h1=>simp only[GT.kind]at hk;omega
 |st a b h1=>simp[GT.kind]at hk
 |ifc a b c d e g h1 h2 q=>simp[GT.kind]at hk
 |one a b c h1=>simp only[GT.kind]at hk;omega
 |mp h1 h2=>simp[GT.kind]at hk
 |fn a b c h1=>exact⟨a,b⟩
 |ti a h1=>simp[GT.kind]at hk
 |un a b c h1=>simp[GT.kind]at hk
theorem Ac(h:Md NS Q w K B DI eo W0 n σ W)(hr:eE σ.D W ps (.slice a ps.length c))(hv:qw σ.S σ.D W l ps):
 Calls prog 48 #[.slice a ps.length c] W λe W'=>∃q mL,e=.returned (.pointer q)/\Md NS Q w K B DI eo W0 n mL W'/\Gr B σ mL W W'/\sk mL.S mL.D W' l (.pointer q):=by
 have hl:=hv.len;cases ps with
 |nil=>
  have fV:l=[]:=jQe (by simpa using hl);refine(Fj a c W).mono ?_;rintro e W' ⟨rfl,hw⟩;subst hw;exact⟨none,σ,rfl,h,Gr.refl _ _,.inl ⟨fV,rfl⟩⟩
 |cons p ps=>
  refine(qx a ps.length c W).mono ?_;rintro e W' ⟨rfl,hw⟩;subst hw;have hg:=jk h.bs #[.slice a (ps.length+1) c] 176;refine⟨_,_,rfl,h.iz #[.slice a (ps.length+1) c] 176,hg,.inr ⟨λe=>by rw[e]at hl;simp at hl,W.heap.size,_,_,rfl,.inr rfl,ak _ _,hr.move (hg.aJ h.bs),MZ hv h.bs hg⟩⟩
theorem zA(dA:t.kind≠11)(mM:t.kind≠14)(ka:t.kind≠15)(ir:t.kind≠16):own (aG t)=own t/\bN (aG t)=bN t:=by
 obtain⟨k1,k2,k3,k4,k5⟩:=fa dA mM ka ir;unfold own bN;rw[k3,k5];exact⟨rfl,rfl⟩
theorem agH{rc:Value}(h:Md NS Q w K B DI eo W0 n σ W)(hk:t.kind=7)(hb:W0.heap.size<=b)(hl:Loc B DI σ b)(hc:W.heap[b]?=some (.cells #[rc,.pointer none,pa,re,.bool t.va] 94 (0,0)))(yk:sk σ.S σ.D W (own t) pa)(qk:sk σ.S σ.D W (bN t) re):
 dC NS Q w K B DI eo W0 n (λu aO W'=>∃b pa re,u=ptr b/\W0.heap.size<=b/\aO.S b=some (aG t)/\W'.heap[b]?=some (.cells #[rc,.pointer none,pa,re,.bool t.va] 94 (0,0))) (.returned (ptr b)) W:=by
 obtain⟨k1,k2,k3,k4,k5⟩:=fa (t:=t) m9 m9 m9 m9;obtain⟨o1,o2⟩:=zA (t:=t) m9 m9 m9 m9;have hS:=fG (s:=aG t) hl.1;have uu:mZ (cE σ.S b (aG t)) σ.D W b (aG t):=
  ⟨m9,m9,m9,m9,m9,m9,λ_=>⟨rc,pa,re,by rw[k4];exact hc,by rw[o1];exact yk.move hS au.refl,by rw[o2];exact qk.move hS au.refl⟩,m9,m9,m9,m9⟩
 refine⟨_,_,rfl,h.add hl hb hc (λhi=>by unfold cI at hi;omega) uu (λhi=>?_),b,pa,re,rfl,hb,fH _ _ _,hc⟩;exact M161
theorem RQ(hp:PT NS Q w 2 t)(hk:t.kind=7)(xb:t.va=true)(yk:sk σ.S σ.D W (own t) pa):∃pb b7 o7 n c vb sb,pa=ptr pb/\n<9223372036854775807/\W.heap[pb]?=some (.cells #[.slice (some ⟨b7,o7,none⟩) (n+1) c] 176 (0,0))/\W.cell? ⟨b7,o7+n,none⟩=some (ptr vb)/\W.cell? ⟨vb,3,none⟩=some (.iface 129 (ptr sb)):=by
 have iA:0<t.m/\t.m<=(t.elems.length:Int)/\∃e,t.elems[(t.m - 1).toNat]?=some e/\e.kind=4:=by
  cases hp with
  |basic a b=>simp[GT.kind]at hk
  |uni a=>simp only[GT.kind]at hk;omega
  |named a b c=>simp[GT.kind]at hk
  |al a b h1=>simp only[GT.kind]at hk;omega
  |st a b h1=>simp[GT.kind]at hk
  |ifc a b c d e g h1 h2 q=>simp[GT.kind]at hk
  |one a b c h1=>simp only[GT.kind]at hk;omega
  |mp h1 h2=>simp[GT.kind]at hk
  |fn a b c h1=>
   simp only[GT.va]at xb;obtain⟨h2,h3⟩:=c xb;exact⟨h2,b,h3⟩
  |ti a h1=>simp[GT.kind]at hk
  |un a b c h1=>simp[GT.kind]at hk
 obtain⟨h0,gP,e,he,he4⟩:=iA;have aL:(own t)[(t.m - 1).toNat]?=some e:=by
  unfold own;rw[List.getElem?_take,jQ7 m9];exact he
 rcases yk with⟨hn,_⟩|⟨hn,pb,sl,ps,rfl,hd,hh,hr,VS⟩
 ·rw[hn]at aL;simp at aL
 ·obtain⟨p,ke,nm,vb,pos,pk,v,kd,rfl, -,hvh,qy⟩:=VS.at aL;have hlen:=VS.len;obtain⟨a,c,rfl⟩:=hr.form;obtain⟨b7,o7,rfl, -,KP⟩:=hr.nth ke;have hol:(own t).length=(t.m - 1).toNat+1:=by unfold own;rw[jRj];omega
  obtain⟨sb,rfl, -⟩:=qy;have rO:=hr.max;refine⟨pb,b7,o7,(t.m - 1).toNat,c,vb,sb,rfl,m9,by rw[<-hol,hlen];exact hh,KP,?_⟩;rw[he4]at hvh;simp[World.cell?,hvh];rfl
theorem Loc.lW(h:Loc B DI σ g)(hP:¬P g):Loc B DI {σ with D:=λb=>σ.D b\/P b} g:=⟨h.1,λhd=>hd.elim h.2.1 hP,h.2.2⟩
theorem KQ(hV:qv)(r q1 q2:Option Addr)(hp:PT NS Q w 2 t)(hk:t.kind=7)(yk:sk σ.S σ.D W (own t) (.pointer q1)):
 Calls prog 109 #[.pointer r,.slice none 0 0,.slice none 0 0,.pointer q1,.pointer q2,.bool t.va] W λe W'=>∃b,e=.returned (ptr b)/\W.heap.size<=b/\Below W.heap.size W W'/\W'.heap[b]?=some (.cells #[.pointer r,.pointer none,.pointer q1,.pointer q2,.bool t.va] 94 (0,0)):=by
 cases xb:t.va with
 |false=>
  refine(Fk r q1 q2 W).mono ?_;rintro e W' ⟨rfl,hw⟩;subst hw;exact⟨_,rfl,jQ0 _,an _ _,ak _ _⟩
 |true=>
  obtain⟨pb,b7,o7,n,c,vb,sb,e1,h1,h2,h3,h4⟩:=RQ hp hk xb yk;simp at e1;subst e1;exact hV r q2 pb b7 o7 n c vb sb W h1 h2 h3 h4
theorem je(ih:dR NS Q w K B DI N)(hV:qv)(r:Option Addr)(hk:t.kind=7)(hn:nds t<=N+1)(hp:PT NS Q w 2 t)(cG:Bs NS Q w K B DI σ W)(hv:RT DI W t v)(hl:σ.ml.length+nds t<=1099511627776):
 Calls prog 64 #[ptr B.bb,.pointer r,v] W (dC NS Q w K B DI σ W (ndss t.elems) λu aO W'=>∃b pa re,u=ptr b/\W.heap.size<=b/\aO.S b=some (aG t)/\W'.heap[b]?=some (.cells #[.pointer r,.pointer none,pa,re,.bool t.va] 94 (0,0))):=by
 obtain⟨a0,c,rfl,hs⟩:=hv.bR;have xd:=D4 hp;have bk:=gq t;have rP:=qz t.elems;have jz:=ak W (bx t a0 c);have ar:=an W (bx t a0 c);obtain⟨x0, -, -, -, -, -,x6⟩:=ao jz;obtain⟨RR,KR,VU,uL,ZK,bS,HL,na⟩:=Z8 jz ih xd cG hs ar hl bk;obtain⟨HN,D5,HP,HK,HV⟩:=Z5 hn rP hp hk hV;clear ih xd cG hs ar jz hv hl bk hn rP hp hk hV;go_enter func64,ntmps64;go_wp2_with fail;clear x0 x6
 go_loopg [7,8,15] t.elems.length (λgg s7 s8 s15 wr=>∃(kk:Nat) (aO:BS) (ps qs:List Value),kk<=t.elems.length/\t.elems.length - kk<=gg/\s15=.int .i64 kk/\SgS NS Q w K B DI σ W t.elems t.m.toNat kk aO wr s7 s8 ps qs/\wr.heap[W.heap.size]?=some (bx t a0 c)/\Loc B DI aO W.heap.size)
 case atStart=>exact⟨0,σ,[],[],jQc _,m9,rfl,⟨(Md.start uL.1).below bS.1,dK.nil,by simp[qw,All2],dK.nil,by simp[qw,All2],λg hg=>by simp[Value.ownBlock]at hg⟩,RR.1,uL.1.loc (jQ0 _)⟩
 case round=>
  obtain⟨kk,aO,ps,qs,ez,hg,rfl,cH,hgw,Xc⟩:=hrel;obtain⟨RU,eF,HGW⟩:=Z3 Xc cH hgw;by_cases aM:kk<t.elems.length
  ·have aR:(kk:Int)<(t.elems.length:Int):=m9
   obtain⟨e,he⟩:∃e,t.elems[kk]?=some e:=⟨t.elems[kk]'aM,by simp[aM]⟩;rcases aN.1 ZK.1 with⟨h0,_⟩|⟨-,b,o,c2,pT, -, -,uw,Hl⟩
   ·rw[h0]at aM;simp at aM
   simp at pT;obtain⟨rfl,rfl⟩:=pT;have qk:=Hl.at he;obtain⟨ea,ec,RW,uz⟩:=(qk.move (uL.1.C0 eF.1.md.gr) uw).RX;obtain⟨c0,c1,c2,c3,c4,OS,Kk⟩:=RW;have Fl:=Z (show Below wr.heap.size wr (wr.alloc (bx e ea ec)).drew from(an _ _).drew);have kq:=ak wr (bx e ea ec);obtain⟨y0,y1,y2,y3,y4,y5,y6⟩:=ao kq;have lO:=Z (eF.1.md.below Fl.1);have ym:=Z (Gr.below Fl.1:Gr B aO aO wr _);have fq:=eF.1.md.bs.loc (g:=wr.heap.size) (jQ0 _);have ee:wr.heap.size<(wr.alloc (bx e ea ec)).drew.heap.size:=jQ2 kq;have gV:=Z (show∀mL w',Bs NS Q w K B DI mL w'->Gr B aO mL (wr.alloc (bx e ea ec)).drew w'->w'.cell? ⟨B.bb,0,none⟩=some (ptr B.pk)/\w'.cell? ⟨wr.heap.size,0,none⟩=some (.int .i64 e.kind)/\w'.cell? ⟨wr.heap.size,1,none⟩=some (.int .i64 e.n)/\w'.cell? ⟨wr.heap.size,2,none⟩=some (.int .i64 e.m)/\w'.cell? ⟨wr.heap.size,3,none⟩=some (.bool e.va)/\w'.cell? ⟨wr.heap.size,4,none⟩=some (.string e.name)/\w'.cell? ⟨wr.heap.size,5,none⟩=some (.string e.tag)/\w'.cell? ⟨wr.heap.size,6,none⟩=some (.slice ea e.elems.length ec)from
    λmL w' h1 h2=>⟨by simp[World.cell?,h1.jl],fq.cell ee h2 y0,fq.cell ee h2 y1,fq.cell ee h2 y2,fq.cell ee h2 y3,fq.cell ee h2 y4,fq.cell ee h2 y5,fq.cell ee h2 y6⟩)
   clear y0 y1 y2 y3 y4 y5 y6 kq ee fq;have CI:=lP he;have Ad:=lQ t.elems (kk+1);have ag:=KR.1 e aO _ _ (by have:=na.1;have:=HN.1;omega) (VU.1 e (jQ8 he)) lO.1.bs (uz.move (eF.1.md.bs.C0 ym.1)) (by have:=eF.1.md.len;have:=HL.1;have:=na.1;omega);have Na:=Z CI;have HE:=Z he;have rO:t.elems.length<=9223372036854775807:=by have:=D5.1;have:=HL.1;have:=na.1;omega
   clear cH hgw Xc Hl qk CI Ad uz uw;go_wp2_with fail;clear c0 c1 c2 c3 c4 OS Kk;refine jQ9 (S:=(λw'=>w'.cell? ⟨B.bb,0,none⟩=some (ptr B.pk)/\w'.cell? ⟨wr.heap.size,0,none⟩=some (.int .i64 e.kind)/\w'.cell? ⟨wr.heap.size,1,none⟩=some (.int .i64 e.n)/\w'.cell? ⟨wr.heap.size,2,none⟩=some (.int .i64 e.m)/\w'.cell? ⟨wr.heap.size,3,none⟩=some (.bool e.va)/\w'.cell? ⟨wr.heap.size,4,none⟩=some (.string e.name)/\w'.cell? ⟨wr.heap.size,5,none⟩=some (.string e.tag)/\w'.cell? ⟨wr.heap.size,6,none⟩=some (.slice ea e.elems.length ec))) g9 (gV.1 _ _ lO.1.bs (Gr.refl _ _)) (λai=>?_);refine t4 0 1 2 3 ?_;refine t2 4 5 ?_;refine rd 6 rfl λK hK=>?_;go_simp;clear ai;refine ag.mono ?_;rintro eA wA ⟨u,fT,rfl,cq,hu⟩;have HM:=Z (lO.1.trans cq);obtain⟨bu,rfl, -⟩:=id hu;have HU:=Z hu;have HG:=Z cq.gr;refine hK.out _ _ (gV.1 _ _ cq.bs HG.1) (λai=>?_);clear ag cq hu;clear hK K;refine rd 7 rfl λK hK=>?_;go_simp;clear ai;refine rv (Ae _ _ _ _ _ _) ?_;have oU:=Z (HM.1.iz #[.int .i64 0,ptr B.pk,.string ⟨#[]⟩,.iface (tid e.kind) (ptr bu),.int .u8 4,.bool false] 167);have rQ:=Z (ym.1.trans (HG.1.trans (jk HM.1.bs #[.int .i64 0,ptr B.pk,.string ⟨#[]⟩,.iface (tid e.kind) (ptr bu),.int .u8 4,.bool false] 167)));have lX:=HG.1.trans (jk HM.1.bs #[.int .i64 0,ptr B.pk,.string ⟨#[]⟩,.iface (tid e.kind) (ptr bu),.int .u8 4,.bool false] 167);refine hK.out _ _ (gV.1 _ _ oU.1.bs lX) (λai=>?_);clear hK K;refine tk 8 ?_;refine jQl g9 ?_ _;clear ai;have aa6:=(RU.1.same (jQ2 HGW.1) rQ.1).trans HGW.1;have adD:=Z (RU.1.gr (jQ2 HGW.1) rQ.1);have Fm:=Z aa6;have hbm:=(ao aa6).2.2.1;clear aa6;have hS3:=eF.1.go rQ.1;have C9:=Z hS3;clear hS3;have jI:=Z (oU.1.below (an _ (.cells #[ptr wA.heap.size] 84)));have mQ:=Z (Gr.below (an (wA.alloc (.cells #[.int .i64 0,ptr B.pk,.string ⟨#[]⟩,.iface (tid e.kind) (ptr bu),.int .u8 4,.bool false] 167)) (.cells #[ptr wA.heap.size] 84)):Gr B _ {fT with D:=λb=>fT.D b\/b=wA.heap.size} _ _);have hhv:(wA.alloc (.cells #[.int .i64 0,ptr B.pk,.string ⟨#[]⟩,.iface (tid e.kind) (ptr bu),.int .u8 4,.bool false] 167)).heap[wA.heap.size]?=_:=ak _ _;have HHV:=Z hhv;clear hhv;obtain⟨KS,gP⟩:=agG HP.1 HK.1;have OT:=Z (And.intro KS gP);have mR:=eF.1.fl.len;have hql:=eF.1.tl.len;rw[jRj,jRj]at mR;rw[List.length_drop,jRj]at hql;obtain⟨kr,agI,HVN⟩:=Z3 (show ps.length+1<=1099511627776 by have:=D5.1;have:=HL.1;have:=na.1;omega) (show qs.length+1<=1099511627776 by have:=D5.1;have:=HL.1;have:=na.1;omega) (show nE fT.S (λb=>fT.D b\/b=wA.heap.size) (wA.alloc (.cells #[.int .i64 0,ptr B.pk,.string ⟨#[]⟩,.iface (tid e.kind) (ptr bu),.int .u8 4,.bool false] 167)) ⟨#[]⟩ e (ptr wA.heap.size)from⟨wA.heap.size,0,some ⟨B.pk,0,none⟩,.iface (tid e.kind) (ptr bu),4,rfl,.inr rfl,ak _ _,HU.1⟩);clear mR hql KS gP;by_cases hm:kk<t.m.toNat
   ·have ZL:(kk:Int)<t.m:=by have:=OT.1;omega
    have mS:=Z (C9.1.1.gr mQ.1);clear hm;go_wp2_with (at_builtin;refine gH underlying162 KT rfl m9 rfl _ _ rfl W.heap.size u7 ps rfl mS.1.own (ptr wA.heap.size) rfl ⟨wA.heap.size+1,0,none⟩ 1 rfl (gi _ _ _ _) kr.1 jI.1.gr.size ?_);intro v7 w7 bF jm uM;obtain⟨yU,lY,CJ⟩:=Z3 (show w7.ownsRow W.heap.size 84 1 v7 (ps++[ptr wA.heap.size]).length (ps++[ptr wA.heap.size])by simpa using bF) (show((wA.alloc (.cells #[.int .i64 0,ptr B.pk,.string ⟨#[]⟩,.iface (tid e.kind) (ptr bu),.int .u8 4,.bool false] 167)).alloc (.cells #[ptr wA.heap.size] 84)).grownBy w7 u7.ownBlock from jm) (show v7.ownBlock=u7.ownBlock\/v7.ownBlock=some ((wA.alloc (.cells #[.int .i64 0,ptr B.pk,.string ⟨#[]⟩,.iface (tid e.kind) (ptr bu),.int .u8 4,.bool false] 167)).alloc (.cells #[ptr wA.heap.size] 84)).heap.size by simpa using uM);clear bF jm uM hbm;go_wp2_with fail;go_roundg (t.elems.length - (kk+1))
    case measure=>omega
    case rel=>
     have Af:=jI.1.grown mS.1 lY.1 yU.1 CJ.1;have kS:=fR jI.1.bs mS.1 lY.1;have jd:=mQ.1.aJ oU.1.bs;have kh:=λb hb=>(⟨(kS b hb).1,(kS b hb).2.trans (jd b hb).2⟩:_/\w7.heap[b]?=_);obtain⟨ZM,MR⟩:=aa4 HE.1 (show kk<t.m.toNat by omega);have hdj:∀g,u8.ownBlock=some g->u7.ownBlock≠some g:=λg h1 h2=>eF.1.dj g h2 h1;have hR2:=(C9.1.2.2.1.gr mQ.1).RP lY.1 hdj;have ee:∀g,u8.ownBlock=some g->v7.ownBlock≠some g:=λg hg=>by
      obtain e'|e':=CJ.1
      ·rw[e'];exact hdj g hg
      ·rw[e'];intro e2;cases e2;have:=(aC (C9.1.2.2.1.gr mQ.1).own _ hg).2.1;omega
     have ZN:w7.heap[W.heap.size]?=_:=(lY.1.block W.heap.size (jQ2 (aq Fm.1)) (λe'=>by
      obtain⟨_,_,cur,h2⟩:=aC mS.1.own _ e'.symm;rw[aq Fm.1]at h2;cases h2)).trans (aq Fm.1)
     have hvn:∃nm,nE fT.S (λb=>fT.D b\/b=wA.heap.size) w7 nm e (ptr wA.heap.size):=⟨_,HVN.1.move (λ_ _ h=>h) kh⟩;refine⟨kk+1,_,ps++[ptr wA.heap.size],qs,m9,m9,by go_num,⟨?_,Af.2,by rw[ZM];exact All2.snoc hvn (D3 C9.1.2.1 kh),hR2,by rw[MR];exact D3 C9.1.2.2.2 kh,λg h1 h2=>ee g h2 h1⟩,ZN,adD.1⟩;rw[Na.1];exact Af.1
   ·have ZL:¬(kk:Int)<t.m:=by have:=OT.1;omega
    have mS:=Z (C9.1.2.2.1.gr mQ.1);clear hm;go_wp2_with (at_builtin;refine gH underlying162 KT rfl m9 rfl _ _ rfl W.heap.size u8 qs rfl mS.1.own (ptr wA.heap.size) rfl ⟨wA.heap.size+1,0,none⟩ 1 rfl (gi _ _ _ _) agI.1 jI.1.gr.size ?_);intro v7 w7 bF jm uM;obtain⟨yU,lY,CJ⟩:=Z3 (show w7.ownsRow W.heap.size 84 1 v7 (qs++[ptr wA.heap.size]).length (qs++[ptr wA.heap.size])by simpa using bF) (show((wA.alloc (.cells #[.int .i64 0,ptr B.pk,.string ⟨#[]⟩,.iface (tid e.kind) (ptr bu),.int .u8 4,.bool false] 167)).alloc (.cells #[ptr wA.heap.size] 84)).grownBy w7 u8.ownBlock from jm) (show v7.ownBlock=u8.ownBlock\/v7.ownBlock=some ((wA.alloc (.cells #[.int .i64 0,ptr B.pk,.string ⟨#[]⟩,.iface (tid e.kind) (ptr bu),.int .u8 4,.bool false] 167)).alloc (.cells #[ptr wA.heap.size] 84)).heap.size by simpa using uM);clear bF jm uM hbm;go_wp2_with fail;go_roundg (t.elems.length - (kk+1))
    case measure=>omega
    case rel=>
     have Af:=jI.1.grown mS.1 lY.1 yU.1 CJ.1;have kS:=fR jI.1.bs mS.1 lY.1;have jd:=mQ.1.aJ oU.1.bs;have kh:=λb hb=>(⟨(kS b hb).1,(kS b hb).2.trans (jd b hb).2⟩:_/\w7.heap[b]?=_);obtain⟨ZM,MR⟩:=aa5 HE.1 (show t.m.toNat<=kk by omega);have hdj:∀g,u7.ownBlock=some g->u8.ownBlock≠some g:=λg h1 h2=>eF.1.dj g h1 h2;have hR2:=(C9.1.1.gr mQ.1).RP lY.1 hdj;have ee:∀g,u7.ownBlock=some g->v7.ownBlock≠some g:=λg hg=>by
      obtain e'|e':=CJ.1
      ·rw[e'];exact hdj g hg
      ·rw[e'];intro e2;cases e2;have:=(aC (C9.1.1.gr mQ.1).own _ hg).2.1;omega
     have ZN:w7.heap[W.heap.size]?=_:=(lY.1.block W.heap.size (jQ2 (aq Fm.1)) (λe'=>by
      obtain⟨_,_,cur,h2⟩:=aC mS.1.own _ e'.symm;rw[aq Fm.1]at h2;cases h2)).trans (aq Fm.1)
     have hvn:∃nm,nE fT.S (λb=>fT.D b\/b=wA.heap.size) w7 nm e (ptr wA.heap.size):=⟨_,HVN.1.move (λ_ _ h=>h) kh⟩;refine⟨kk+1,_,ps,qs++[ptr wA.heap.size],m9,m9,by go_num,⟨?_,hR2,by rw[MR];exact D3 C9.1.2.1 kh,Af.2,by rw[ZM];exact All2.snoc hvn (D3 C9.1.2.2.2 kh),ee⟩,ZN,adD.1⟩;rw[Na.1];exact Af.1
  ·have aR:¬(kk:Int)<(t.elems.length:Int):=m9
   have yV:t.elems.take kk=t.elems:=jR6 m9;obtain⟨a7,c7,rfl,hn7⟩:=cH.fr.form;obtain⟨a8,c8,rfl,hn8⟩:=cH.tr.form;have cq:=cH.md;have xe:=cH.fl;have htl:=cH.tl;rw[yV]at cq xe htl;have OU:=(cq.below (jQ5 _ _).drew).lW (λb=>(Value.slice a7 ps.length c7).ownBlock=some b\/(Value.slice a8 qs.length c8).ownBlock=some b) (λb hb=>by
    obtain hb|hb:=hb
    ·exact M184
    ·obtain⟨k1,k2,cur,k3⟩:=aC cH.tr.own b hb;exact⟨⟨cH.tr.loc b hb,k1⟩,_,_,_,k3⟩)
   have HM:=Z OU;have hmw:au aO.D (λb=>aO.D b\/((Value.slice a7 ps.length c7).ownBlock=some b\/(Value.slice a8 qs.length c8).ownBlock=some b)) wr wr.drew:=λb hb=>⟨.inl hb,rfl⟩;obtain⟨HR1,OV,D6,rR⟩:=Z4 ((cH.fr.row (D:=λb=>aO.D b\/((Value.slice a7 ps.length c7).ownBlock=some b\/(Value.slice a8 qs.length c8).ownBlock=some b)) (λg hg=>.inr (.inl hg))).move (W':=wr.drew) (λb hb=>⟨hb,rfl⟩)) ((cH.tr.row (D:=λb=>aO.D b\/((Value.slice a7 ps.length c7).ownBlock=some b\/(Value.slice a8 qs.length c8).ownBlock=some b)) (λg hg=>.inr (.inr hg))).move (W':=wr.drew) (λb hb=>⟨hb,rfl⟩)) (D3 xe hmw) (D3 htl hmw);have aZ:wr.drew.cell? ⟨W.heap.size,3,none⟩=some (.bool t.va):=(ao hgw).2.2.2.1;have agJ:=Z (Xc.lW (P:=λb=>(Value.slice a7 ps.length c7).ownBlock=some b\/(Value.slice a8 qs.length c8).ownBlock=some b) (λh=>by
    obtain h|h:=h
    ·obtain⟨_,_,cur,k3⟩:=aC cH.fr.own _ h;rw[hgw]at k3;cases k3
    ·obtain⟨_,_,cur,k3⟩:=aC cH.tr.own _ h;rw[hgw]at k3;cases k3))
   have HLT:=Z (show W.heap.size<wr.drew.heap.size from jQ2 hgw);have kL:=Z aZ;have gV:=Z (show∀mL w',Gr B {aO with D:=λb=>aO.D b\/((Value.slice a7 ps.length c7).ownBlock=some b\/(Value.slice a8 qs.length c8).ownBlock=some b)} mL wr.drew w'->w'.cell? ⟨W.heap.size,3,none⟩=some (.bool t.va)from λmL w' hg=>agJ.out.cell HLT.out hg kL.out);clear cH hgw Xc cq xe htl OU hmw;have HKL:=Z yV;clear yV;go_wp2_with fail;refine jQ9 (S:=(λw'=>w'.cell? ⟨W.heap.size,3,none⟩=some (.bool t.va))) g9 (aZ) (λai=>?_);refine t4 0 1 3 5 ?_;refine tk 6 ?_;refine rd 2 rfl λK hK=>?_;go_simp;clear ai;refine(Ac HM.1 HR1.1 D6.1).mono ?_;rintro eA wA ⟨q1,mL,rfl,rO,Da,ZO⟩;replace OV:=Z (OV.1.move (Da.aJ HM.1.bs));replace rR:=Z (MZ rR.1 HM.1.bs Da);have Db:=Z ZO;have HGX:=Z Da;replace HM:=Z rO;refine hK.out _ _ (gV.1 _ _ HGX.1) (λai=>?_);clear rO Da ZO;clear hK K;refine rd 4 rfl λK hK=>?_;go_simp;clear ai;refine(Ac HM.1 OV.1 rR.1).mono ?_;rintro eA wB ⟨q2,σy,rfl,rO,Da,ZO⟩;replace Db:=Z (Db.1.move Da.sle (Da.aJ HM.1.bs));have Hk:=Z ZO;replace HGX:=Z (HGX.1.trans Da);replace HM:=Z rO;refine hK.out _ _ (gV.1 _ _ HGX.1) (λai=>?_);clear rO Da ZO;clear hK K;refine rd 7 rfl λK hK=>?_;go_simp;clear ai;refine(KQ HV.1 r q1 q2 HP.1 HK.1 Db.1).mono ?_;rintro eA wC ⟨b,rfl,yW,j6,RY⟩;obtain⟨HBZ,pU,HBH⟩:=Z3 yW j6 RY;refine hK.out _ _ (gV.1 _ _ (HGX.1.trans (Gr.below j6))) (λai=>?_);clear yW j6 RY;clear hK K;refine tk 8 ?_;refine jQl g9 ?_ _;clear ai;have HE:=Z (agH (HM.1.below pU.1) HK.1 (by have:=HM.1.gr.size;have:=HBZ.1;omega) (HM.1.bs.loc HBZ.1) HBH.1 (Db.1.move (λ_ _ h=>h) (Gr.aJ (Gr.below pU.1) HM.1.bs)) (Hk.1.move (λ_ _ h=>h) (Gr.aJ (Gr.below pU.1) HM.1.bs)));clear HBH pU HBZ Db Hk;go_wp2_with fail;go_ret;exact HE.1
def MH(B:Bl)(DI:Nat->Prop)(σ:BS)(W:World)(b:Nat):Prop:=DI b\/(Loc B DI σ b/\∃cs f,W.heap[b]?=some (.cells cs 25 f))
theorem MH.gr(h:MH B DI σ W b)(hb:Bs NS Q w K B DI σ W)(hg:Gr B σ aO W W'):MH B DI aO W' b/\W'.heap[b]?=W.heap[b]?:=by
 obtain h|⟨h,cs,f,hc⟩:=h
 ·exact⟨.inl h,(hb.C0 hg b h).2⟩
 ·have he:=h.same (jQ2 hc) hg;exact⟨.inr ⟨h.gr (jQ2 hc) hg,cs,f,he.trans hc⟩,he⟩
theorem MH.grown(h:MH B DI σ W b)(hb:Bs NS Q w K B DI σ W)(hr:dK B DI σ base W ty xs v)(bk:ty≠25)(hg:W.grownBy W' v.ownBlock):MH B DI σ W' b/\W'.heap[b]?=W.heap[b]?:=by
 obtain h|⟨h,cs,f,hc⟩:=h
 ·exact⟨.inl h,hg.block b (hb.di b h).1 λe=>(hr.loc b e.symm).2.2.2.2 h⟩
 ·have he:W'.heap[b]?=W.heap[b]?:=hg.block b (jQ2 hc) λe=>by
   obtain⟨_,_,cur,h2⟩:=aC hr.own b e.symm;rw[hc]at h2;cases h2;exact bk rfl
  exact⟨.inr ⟨h,cs,f,he.trans hc⟩,he⟩
abbrev rM(S:Sg)(D:Nat->Prop)(W:World)(l:List GT)(ps:List Value):Prop:=All2 (vG S D W) l ps
theorem Hc(h:rM σ.S σ.D W l ps)(hb:Bs NS Q w K B DI σ W)(hg:Gr B σ aO W W'):rM aO.S aO.D W' l ps:=h.imp λ_ _ hp=>hp.move hg.sle (hg.aJ hb)
theorem yg(h:rM S D W l ps)(hm:au D D' W W'):rM S D' W' l ps:=h.imp λ_ _ hp=>hp.move (λ_ _ h=>h) hm
structure UnS(NS:List ByteArray)(Q:GT->Prop)(w:List ah)(K:Nat)(B:Bl)(DI:Nat->Prop)(eo:BS)(W0:World)(l:List GT)(kk:Nat)(σ:BS)(W:World)(fv:Value)(ps:List Value)(b:Nat)(x:Option Obj):Prop where
 md:Md NS Q w K B DI eo W0 (ndss (l.take kk)) σ W
 fr:dK B DI σ W0.heap.size W 209 ps fv
 fl:rM σ.S σ.D W (l.take kk) ps
 st:MH B DI σ W b/\W.heap[b]?=x
theorem tw(h:PT NS Q w md t)(hk:t.kind=13):∃e,t.elems=[e]:=by
 cases h with
 |basic a b=>simp[GT.kind]at hk
 |uni a=>simp only[GT.kind]at hk;omega
 |named a b c=>simp[GT.kind]at hk
 |al a b h1=>simp only[GT.kind]at hk;omega
 |st a b h1=>simp[GT.kind]at hk
 |ifc a b c d e g h1 h2 q=>simp[GT.kind]at hk
 |one a b c h1=>simp only[GT.kind]at hk;omega
 |mp h1 h2=>simp[GT.kind]at hk
 |fn a b c h1=>simp[GT.kind]at hk
 |ti a h1=>exact⟨_,rfl⟩
 |un a b c h1=>simp[GT.kind]at hk
theorem aaW(h:PT NS Q w md t)(hm:md<=2):PT NS Q w 2 (ep t)/\nds (ep t)<=nds t:=by
 unfold ep;by_cases hk:t.kind=13
 ·obtain⟨e,he⟩:=tw h hk;have hn:=gq t;rw[jQ7 (by simp[hk]),he];refine⟨D4 h e (by rw[he];simp),?_⟩;rw[hn,he];simp[ndss]
 ·rw[jQ4 (by simp[hk])];exact⟨h.eS (jQ0 _) (λ_ h=>h) hm id id,jQ0 _⟩
theorem acY(h:PT NS Q w 2 t)(hk:t.kind=12):2<=t.elems.length/\∀e∈t.elems,PT NS Q w 1 e:=by
 cases h with
 |basic a b=>simp[GT.kind]at hk
 |uni a=>simp only[GT.kind]at hk;omega
 |named a b c=>simp[GT.kind]at hk
 |al a b h1=>simp only[GT.kind]at hk;omega
 |st a b h1=>simp[GT.kind]at hk
 |ifc a b c d e g h1 h2 q=>simp[GT.kind]at hk
 |one a b c h1=>simp only[GT.kind]at hk;omega
 |mp h1 h2=>simp[GT.kind]at hk
 |fn a b c h1=>simp[GT.kind]at hk
 |ti a h1=>simp[GT.kind]at hk
 |un a b c h1=>exact⟨b,h1⟩
theorem VD(hv:RT DI W e (.agg #[.int .i64 e.kind,.int .i64 e.n,.int .i64 e.m,.bool e.va,.string e.name,.string e.tag,.slice ea e.elems.length ec]))(he:e.elems=[x]):
 ∃b9 o9 xa xc,ea=some ⟨b9,o9,none⟩/\Cel W x b9 o9 xa xc/\RT DI W x (.agg #[.int .i64 x.kind,.int .i64 x.n,.int .i64 x.m,.bool x.va,.string x.name,.string x.tag,.slice xa x.elems.length xc]):=by
 obtain⟨a9,c9,agc,yu⟩:=hv.bR;simp at agc;obtain⟨rfl,rfl⟩:=agc;rw[he]at yu;obtain⟨b9,o9,cc9,e9, -, -,hd9,hE9, -⟩:=gQ.1 yu;simp at e9;obtain⟨rfl,rfl⟩:=e9;obtain⟨xa,xc,Zp,xH⟩:=hE9.RX;exact⟨b9,o9,xa,xc,rfl,Zp,xH⟩
theorem aaX(h:Md NS Q w K B DI eo W0 n σ W)(hk:t.kind=12\/t.kind=13)(hl:l=if t.kind=12 then t.elems else[t])(hr:eE σ.D W ps sl)(hf:rM σ.S σ.D W l ps)(bk:ps≠[]):
 dC NS Q w K B DI eo W0 n (λu aO _=>dq aO.S u t) (.returned (.iface 189 (ptr W.heap.size))) (W.alloc (.cells #[sl] 233)):=by
 obtain⟨k1,k2,k3,k4,k5⟩:=fa (t:=t) m9 m9 m9 m9;have hg:Gr B σ σ W (W.alloc (.cells #[sl] 233)):=Gr.below (an _ _);have hS:=fG (s:=aG t) h.sn;have hm:=hg.aJ h.bs;have zF:All2 (vG (cE σ.S W.heap.size (aG t)) σ.D (W.alloc (.cells #[sl] 233))) (if (aG t).kind=12 then(aG t).elems else[aG t]) ps:=by
  rw[k1,k5];subst hl;have Wa:=hf.imp (R':=vG (cE σ.S W.heap.size (aG t)) σ.D (W.alloc (.cells #[sl] 233))) λ_ _ hp=>hp.move hS hm;by_cases cQ:t.kind=12
  ·rw[jQ7 cQ]at Wa⊢;exact Wa
  ·rw[jQ4 cQ]at Wa⊢
   match ps,Wa with
   |[p],Wa=>
    refine⟨?_,trivial⟩;obtain⟨b,v,h1,h2,h3,h4⟩:=Wa.1;exact⟨b,v,h1,h2,by rw[k1];exact h3,by unfold ep at h4⊢;rw[k1,k5];simpa[show t.kind=13 by omega]using h4⟩
 have:=h.fin (t:=t) (cs:=#[sl]) (ty:=233) m9 m9 m9 m9 (by unfold isIf;rcases hk with h|h<;>simp[h])
  ⟨m9,m9,m9,m9,m9,m9,m9,m9,m9,m9,λ_=>⟨sl,ps,ak _ _,hr.move hm,bk,zF⟩⟩
 have htd:tid t.kind=189:=by rcases hk with h|h<;>rw[h]<;>rfl
 rw[htd]at this;exact this
theorem U4(ih:dR NS Q w K B DI N)(hk:t.kind=12)(hn:nds t<=N+1)(hp:PT NS Q w 2 t)(cG:Bs NS Q w K B DI σ W)(hv:RT DI W t v)(hl:σ.ml.length+nds t<=1099511627776):
 Calls prog 65 #[ptr B.bb,v] W (dC NS Q w K B DI σ W (ndss t.elems) λu aO _=>dq aO.S u t):=by
 obtain⟨a0,c,rfl,hs⟩:=hv.bR;obtain⟨qq,ql⟩:=acY hp hk;have bk:=gq t;have jz:=ak W (.cells #[.int .i64 t.kind,.int .i64 t.n,.int .i64 t.m,.bool t.va,.string t.name,.string t.tag,.slice a0 t.elems.length c] 25);have ar:=an W (.cells #[.int .i64 t.kind,.int .i64 t.n,.int .i64 t.m,.bool t.va,.string t.name,.string t.tag,.slice a0 t.elems.length c] 25);obtain⟨x0, -, -, -, -, -,x6⟩:=ao jz;rcases aN.1 hs with⟨h0,_⟩|⟨-,b,o,c2,pT, -, -,uw,Hl⟩
 ·rw[h0]at qq;simp at qq
 simp at pT;obtain⟨rfl,rfl⟩:=pT;have hli:=qz t.elems;obtain⟨D5,HL,Rg,KR,Zx,Ht⟩:=Z6 (show t.elems.length+1<=1099511627776 by omega) hl (show ndss t.elems<=nds t by omega) ih (λmL w' (h:Gr B σ mL W w')=>cG.C0 h) (show∀(i:Nat) (e:GT) (W':World),t.elems[i]?=some e->W'.heap[b]?=W.heap[b]?->au DI DI W W'->∃ea ec,Cel W' e b (o+i*7) ea ec/\RT DI W' e (.agg #[.int .i64 e.kind,.int .i64 e.n,.int .i64 e.m,.bool e.va,.string e.name,.string e.tag,.slice ea e.elems.length ec])from λi e W' he _ hm=>((Hl.at he).move hm uw).RX);have nX:=Z (show∀e∈t.elems,PT NS Q w 2 (ep e)/\nds (ep e)<=N/\nds (ep e)<=nds e from λe he=>by
  have h1:=aaW (ql e he) m9;have h2:=wH he;exact⟨h1.1,m9,h1.2⟩)
 have HTI:=Z (show∀e∈t.elems,e.kind=13->∃x,e.elems=[x]from λe he h=>tw (ql e he) h);have QG:=Z (show UnS NS Q w K B DI σ W t.elems 0 σ (W.alloc (.cells #[.int .i64 t.kind,.int .i64 t.n,.int .i64 t.m,.bool t.va,.string t.name,.string t.tag,.slice (some ⟨b,o,none⟩) t.elems.length c] 25)) (.slice none 0 0) [] b (W.heap[b]?)from⟨(Md.start cG).below ar,dK.nil,by simp[rM,All2],.inl uw,ar.block b (cG.di b uw).1⟩);have ll:(t.kind==13)=false:=by simp[hk]
 have HK:=Z (show t.kind=12\/t.kind=13 from .inl hk);have Hz:=Z (show 1<=t.elems.length by omega);obtain⟨l,hle⟩:∃l,l=t.elems:=⟨_,rfl⟩;have HLE:=Z (show l=if t.kind=12 then t.elems else[t]by rw[jQ7 hk];exact hle);rw[<-hle]at D5 Rg Ht nX HTI QG Hz x6⊢;clear ih hk hn hp cG hv hl hs bk jz ar ql qq uw Hl hli hle;go_enter func65,ntmps65;go_wp2_with fail;clear x0 x6 ll
 go_loopg [6,18] l.length (λgg s6 s18 wr=>∃(kk:Nat) (aO:BS) (ps:List Value),kk<=l.length/\l.length - kk<=gg/\s18=.int .i64 kk/\UnS NS Q w K B DI σ W l kk aO wr s6 ps b (W.heap[b]?))
 case atStart=>exact⟨0,σ,[],jQc _,m9,rfl,QG.1⟩
 case round=>
  obtain⟨kk,aO,ps,ez,hg,rfl,cH⟩:=hrel;have eF:=Z cH;have mR:=cH.fl.len;rw[jRj]at mR;by_cases aM:kk<l.length
  ·have aR:(kk:Int)<(l.length:Int):=m9
   exact M3
  ·have aR:¬(kk:Int)<(l.length:Int):=m9
   exact M26
theorem U5(ih:dR NS Q w K B DI N)(hk:t.kind=13)(hn:nds t<=N+1)(hp:PT NS Q w 2 t)(cG:Bs NS Q w K B DI σ W)(hv:RT DI W t v)(hl:σ.ml.length+nds t<=1099511627776):
 Calls prog 65 #[ptr B.bb,v] W (dC NS Q w K B DI σ W (nds t) λu aO _=>dq aO.S u t):=by
 obtain⟨a0,c,rfl,hs⟩:=hv.bR;have bk:=gq t;have ar:=an W (.cells #[.int .i64 t.kind,.int .i64 t.n,.int .i64 t.m,.bool t.va,.string t.name,.string t.tag,.slice a0 t.elems.length c] 25);have cX:=dT W (.cells #[.int .i64 t.kind,.int .i64 t.n,.int .i64 t.m,.bool t.va,.string t.name,.string t.tag,.slice a0 t.elems.length c] 25) (.cells #[.int .i64 t.kind,.int .i64 t.n,.int .i64 t.m,.bool t.va,.string t.name,.string t.tag,.slice a0 t.elems.length c] 25);have jz:=ak W (.cells #[.int .i64 t.kind,.int .i64 t.n,.int .i64 t.m,.bool t.va,.string t.name,.string t.tag,.slice a0 t.elems.length c] 25);have I8:=ak (W.alloc (.cells #[.int .i64 t.kind,.int .i64 t.n,.int .i64 t.m,.bool t.va,.string t.name,.string t.tag,.slice a0 t.elems.length c] 25)) (.cells #[.int .i64 t.kind,.int .i64 t.n,.int .i64 t.m,.bool t.va,.string t.name,.string t.tag,.slice a0 t.elems.length c] 25);rw[jQ3]at I8;obtain⟨x0,x1,x2,x3,x4,x5,x6⟩:=ao jz;obtain⟨l,hle⟩:∃l,l=[t]:=⟨_,rfl⟩;have rP:l.length=1:=by rw[hle];rfl
 have hnl:ndss l=nds t:=by rw[hle];simp[ndss]
 obtain⟨D5,HL,Rg,HNL,KR,Zx⟩:=Z6 (show l.length+1<=1099511627776 by omega) hl (show ndss l<=nds t by omega) hnl ih (λmL w' (h:Gr B σ mL W w')=>cG.C0 h);have Ht:=Z (show∀(i:Nat) (e:GT) (W':World),l[i]?=some e->W'.heap[W.heap.size+1]?=some (.cells #[.int .i64 t.kind,.int .i64 t.n,.int .i64 t.m,.bool t.va,.string t.name,.string t.tag,.slice a0 t.elems.length c] 25)->au DI DI W W'->∃ea ec,Cel W' e (W.heap.size+1) (i*7) ea ec/\RT DI W' e (.agg #[.int .i64 e.kind,.int .i64 e.n,.int .i64 e.m,.bool e.va,.string e.name,.string e.tag,.slice ea e.elems.length ec])from λi e W' he hh hm=>by
  have hi:e=t:=by
   subst hle;have:=jQ8 he;exact M150
  have pn:i=0:=by
   have:=(jQg.1 he).1;omega
  subst hi;subst pn;obtain⟨y0,y1,y2,y3,y4,y5,y6⟩:=ao hh;exact⟨a0,c,⟨y0,y1,y2,y3,y4,y5,y6⟩,hv.move hm⟩)
 obtain⟨iT,mU⟩:=aaW hp m9;obtain⟨x,hx⟩:=tw hp hk;have ZO:ep t=x:=by unfold ep;rw[jQ7 (by simp[hk]),hx];rfl
 have jM:nds t=1+nds x:=by rw[bk,hx];simp[ndss]
 have nX:=Z (show∀e∈l,PT NS Q w 2 (ep e)/\nds (ep e)<=N/\nds (ep e)<=nds e from λe he=>by
  rw[hle]at he;simp at he;subst he;exact⟨iT,by rw[ZO];omega,mU⟩)
 have HTI:=Z (show∀e∈l,e.kind=13->∃x,e.elems=[x]from λe he h=>by
  rw[hle]at he;simp at he;subst he;exact⟨x,hx⟩)
 have QG:=Z (show UnS NS Q w K B DI σ W l 0 σ ((W.alloc (.cells #[.int .i64 t.kind,.int .i64 t.n,.int .i64 t.m,.bool t.va,.string t.name,.string t.tag,.slice a0 t.elems.length c] 25)).alloc (.cells #[.int .i64 t.kind,.int .i64 t.n,.int .i64 t.m,.bool t.va,.string t.name,.string t.tag,.slice a0 t.elems.length c] 25)) (.slice none 0 0) [] (W.heap.size+1) (some (.cells #[.int .i64 t.kind,.int .i64 t.n,.int .i64 t.m,.bool t.va,.string t.name,.string t.tag,.slice a0 t.elems.length c] 25))from
  ⟨(Md.start cG).below cX,dK.nil,by simp[rM,All2],.inr ⟨cG.loc m9,_,_,I8⟩,I8⟩)
 have ll:(t.kind==13)=true:=by simp[hk]
 obtain⟨HK,Hz,HLE,HL1⟩:=Z4 (show t.kind=12\/t.kind=13 from .inr hk) (show 1<=l.length by omega) (show l=if t.kind=12 then t.elems else[t]by rw[jQ4 m9];exact hle) rP;rw[<-hnl];clear ih hk hn hp cG hv hl hs bk jz I8 ar cX hle rP hnl iT mU hx ZO jM;go_enter func65,ntmps65;go_wp2_with fail;clear x0 x1 x2 x3 x4 x5 x6 ll
 go_loopg [6,18] l.length (λgg s6 s18 wr=>∃(kk:Nat) (aO:BS) (ps:List Value),kk<=l.length/\l.length - kk<=gg/\s18=.int .i64 kk/\UnS NS Q w K B DI σ W l kk aO wr s6 ps (W.heap.size+1) (some (.cells #[.int .i64 t.kind,.int .i64 t.n,.int .i64 t.m,.bool t.va,.string t.name,.string t.tag,.slice a0 t.elems.length c] 25)))
 case atStart=>exact⟨0,σ,[],jQc _,m9,rfl,QG.1⟩
 case round=>
  obtain⟨kk,aO,ps,ez,hg,rfl,cH⟩:=hrel;have eF:=Z cH;have mR:=cH.fl.len;rw[jRj]at mR;by_cases aM:kk<l.length
  ·have aR:(kk:Int)<1:=by(have:=HL1.1;omega)
   exact M3
  ·have aR:¬(kk:Int)<1:=by(have:=HL1.1;omega)
   exact M26
theorem E7(W:World):Calls prog 52 #[] W λe W'=>e=.returned (.slice (some ⟨W.heap.size+1,0,none⟩) 1 1)/\W'=(W.alloc (.cells #[.bool false,.nilIface] 154)).alloc (.cells #[ptr W.heap.size] 152):=by
 go_enter func52,ntmps52;exact M9
abbrev tT1:Obj:=.cells #[.bool false,.nilIface] 154
abbrev tT2(z:Nat):Obj:=.cells #[ptr z] 152
abbrev tT3(z:Nat)(c:Bool):Obj:=.cells #[.bool false,.slice none 0 0,.slice (some ⟨z+1,0,none⟩) 1 1,.bool c] 122
abbrev tT4(z:Nat):Obj:=.cells #[.pointer none,.slice none 0 0,.slice none 0 0,.pointer none,.bool false,.bool true,ptr (z+2)] 102
def oS(W:World)(c:Bool):World:=allocs W [tT1,tT2 W.heap.size,tT3 W.heap.size c,tT4 W.heap.size]
theorem J8(W:World):Calls prog 93 #[] W λe W'=>e=.returned (ptr (W.heap.size+2))/\W'=((W.alloc tT1).alloc (tT2 W.heap.size)).alloc (tT3 W.heap.size false):=by
 have hc:=E7 W;go_enter func93,ntmps93;go_wp2_with fail;refine hc.mono ?_;rintro e w' ⟨rfl,hw⟩;subst hw;clear hc;exact M198
theorem GW(W:World):Calls prog 25 #[] W λe W'=>e=.returned (ptr (W.heap.size+3))/\W'=oS W true:=by
 have hc:=E7 W;go_enter func25,ntmps25;exact M130
theorem Mi(a a2:Option Addr)(c c2:Nat)(W:World):Calls prog 112 #[.slice a 0 c,.slice a2 0 c2] W λe W'=>e=.returned (ptr (W.heap.size+3))/\W'=oS W false:=by
 have hc:=J8 W;go_enter func112,ntmps112;exact M130
theorem pQ(W:World)(c:Bool):Below W.heap.size W (oS W c)/\(oS W c).heap[W.heap.size]?=some tT1/\(oS W c).heap[W.heap.size+1]?=some (tT2 W.heap.size)/\(oS W c).heap[W.heap.size+2]?=some (tT3 W.heap.size c)/\(oS W c).heap[W.heap.size+3]?=some (tT4 W.heap.size):=
 ⟨jT _ _,eL _ W 0 _ rfl,eL _ W 1 _ rfl,eL _ W 2 _ rfl,eL _ W 3 _ rfl⟩
theorem Vi(w:List ah)(k:Nat)(hk:t.kind=10)(he:t.elems=[]):(fs w (k+1)).ts t=⟨[],[some fu],false⟩:=by
 rw[fs];show iH _ w t=_;unfold iH bN own;rw[jQ4 m9,he];simp[ib]
theorem ab7(h:Md NS Q w K B DI eo W0 n σ W)(hK:1<=K)(hk:s.kind=10)(he:s.elems=[])(hs:∃t,s=aG t/\t.kind=10/\PT NS Q w 0 t):
 Md NS Q w K B DI eo W0 n {σ with S:=cE σ.S (W.heap.size+3) s,D:=λb=>σ.D b\/(W.heap.size<=b/\b<W.heap.size+3)} (oS W false):=by
 obtain⟨hb,h0,h1,h2,h3⟩:=pQ W false;have hM:=(h.below hb).lW (λb=>W.heap.size<=b/\b<W.heap.size+3) (λb dD=>by
  refine⟨⟨h.bs.loc dD.1,by have:=h.gr.size;omega⟩,?_⟩;have:b=W.heap.size\/b=W.heap.size+1\/b=W.heap.size+2:=m9
  obtain rfl|rfl|rfl:=this
  ·exact⟨_,_,_,h0⟩
  ·exact⟨_,_,_,h1⟩
  ·exact⟨_,_,_,h2⟩)
 have hl:=(h.bs.loc (g:=W.heap.size+3) m9).lW (P:=λb=>W.heap.size<=b/\b<W.heap.size+3) m9;obtain⟨K',rfl⟩:∃K',K=K'+1:=⟨K - 1,m9⟩;have fi:Wq (cE σ.S (W.heap.size+3) s) (λb=>σ.D b\/(W.heap.size<=b/\b<W.heap.size+3)) (oS W false) (W.heap.size+2) ((fs w (K'+1)).ts s):=by
  rw[Vi w K' hk he];refine⟨_,_,[],[ptr W.heap.size],.inr ⟨m9,m9⟩,h2,.inl ⟨rfl,none,0,rfl,λ_=>rfl⟩,trivial,.inr ⟨i6,_,_,_,rfl,i6,i6,⟨.inr ⟨m9,m9⟩,_,_,h1⟩,λj u hu=>?_⟩,⟨⟨W.heap.size,_,_,rfl,.inr ⟨m9,m9⟩,h0,.inl rfl,rfl⟩,trivial⟩⟩;exact M212
 have cP:iJ (cE σ.S (W.heap.size+3) s) (λb=>σ.D b\/(W.heap.size<=b/\b<W.heap.size+3)) (oS W false) (W.heap.size+3) s (ptr (W.heap.size+2)):=by
  refine⟨_,_,[],[],h3,.inl ⟨rfl,none,0,rfl,λ_=>rfl⟩,.inl ⟨rfl,none,0,rfl,λ_=>rfl⟩,?_,?_⟩
  ·unfold own;rw[he];simp[All2]
  ·unfold bN;rw[he];simp[All2]
 refine hM.add hl (by have:=h.gr.size;omega) h3 (λhi=>by unfold cI at hi;omega) ⟨m9,m9,m9,m9,m9,m9,m9,m9,m9,λ_=>⟨_,cP⟩,m9⟩ (λ_=>⟨⟨_,cP,.inr ⟨_,rfl,fi⟩⟩,.inr hs⟩)
theorem Md.Zh{rc rc':Value}(h:Md NS Q w K B DI eo W0 n σ W)(hs:σ.S sb=some s)(hk:s.kind=7)(hz:W0.heap.size<=sb)(hh:W.heap[sb]?=some (.cells #[rc,.pointer none,pa,re,.bool s.va] 94 (0,0)))(hp:kT sb #[rc',.pointer none,pa,re,.bool s.va] 94 W W'):Md NS Q w K B DI eo W0 n σ W':=by
 have hbn:B.bb≠sb:=λe=>by have:=h.bs.kJ.1;rw[e,hs]at this;cases this
 have hD:∀b,σ.D b->W'.heap[b]?=W.heap[b]?:=λb hd=>hp.other b λe=>h.bs.th.rS sb s hs (e▸hd);have hm:au σ.D σ.D W W':=λb hb=>⟨hb,hD b hb⟩;have j8:=jQz hp.size.symm;refine⟨⟨⟨λb s' oC=>?_,λb s' oC=>jQb (h.bs.th.lI b s' oC) j8,h.bs.th.mT.mono j8,h.bs.th.rS,λb hd=>?_,λb s' oC=>?_,h.bs.th.td.move hm,λb s' oC hi=>?_⟩,(hp.other _ hbn).trans h.bs.jl,h.bs.Rm.move hm,h.bs.row.move hm,h.bs.rn,h.bs.dl,h.bs.ev,h.bs.cv,h.bs.kJ,?_,h.bs.gY,h.bs.made,λb hd=>⟨jQb (h.bs.di b hd).1 j8,(h.bs.di b hd).2⟩,h.bs.ifs⟩,?_,h.len⟩
 ·by_cases e:b=sb
  ·subst e;rw[hs]at oC;cases oC;obtain⟨n1,n2,n3,n4,n5,n6,n7,n8,n9,n10,n12⟩:=h.bs.th.node b s hs;obtain⟨rc2,pa2,re2,g1,g2,g3⟩:=n7 hk;rw[hh]at g1;simp at g1;obtain⟨-,rfl,rfl⟩:=g1;exact⟨m9,m9,m9,m9,m9,m9,λ_=>⟨rc',pa,re,hp.here,g2.move (λ_ _ h=>h) hm,g3.move (λ_ _ h=>h) hm⟩,m9,m9,m9,m9⟩
  ·exact(h.bs.th.node b s' oC).move (λ_ _ h=>h) hm (.inl (hp.other b e))
 ·obtain⟨cs,t,f,hc⟩:=h.bs.th.LR b hd;exact⟨cs,t,f,(hD b hd).trans hc⟩
 ·by_cases e:b=sb
  ·subst e;exact⟨_,_,hp.here⟩
  ·obtain⟨cs,t,hc⟩:=h.bs.th.A9 b s' oC;exact⟨cs,t,(hp.other b e).trans hc⟩
 ·have e:b≠sb:=by
   rintro rfl;rw[hs]at oC;cases oC;unfold isIf at hi;rw[hk]at hi;cases hi
  exact(h.bs.th.st b s' oC hi).move (λ_ _ h=>h) hm (hp.other b e)
 ·exact cD h.bs.own λg hg=>hp.other g λe=>by
   have:=(h.bs.gY g hg).1;rw[e,hs]at this;cases this
 ·have lA:=h.gr.size;exact⟨hp.os.trans h.gr.os,hp.tape.trans h.gr.tape,hp.output.trans h.gr.output,jQd lA j8,λb hl hn ho=>(hp.other b m9).trans (h.gr.block b hl hn ho),h.gr.sle,h.gr.uF,h.gr.xQ,h.gr.Jo,h.gr.Jp,h.gr.MQ⟩
def QV(S:Sg)(D:Nat->Prop)(W:World)(base:Nat)(m:GT)(p:Value):Prop:=
 m.kind=7/\∃b pos pk sb q pa re,p=ptr b/\D b/\W.heap[b]?=some (.cells #[.int .i64 pos,.pointer pk,.string m.name,.iface 90 (ptr sb),.bool false,.bool false] 178 (0,0))/\S sb=some (aG m)/\base<=sb/\
  W.heap[sb]?=some (.cells #[.pointer q,.pointer none,pa,re,.bool m.va] 94 (0,0))/\IU D W pk
theorem QV.fn{m:GT}(h:QV S D W base m p):sK S D W m.name m p:=by
 obtain⟨hk,b,pos,pk,sb,q,pa,re,h1,h2,h3,h4,h5,h6,h7⟩:=h;exact⟨b,pos,pk,_,h1,h2,h3,⟨sb,by rw[hk];rfl,h4⟩,h7⟩
structure QX(NS:List ByteArray)(Q:GT->Prop)(w:List ah)(K:Nat)(B:Bl)(DI:Nat->Prop)(eo:BS)(W0:World)(n:Nat)(σ:BS)(W1 wr:World):Prop where
 md:Md NS Q w K B DI eo W0 n σ wr
 size:W1.heap.size<=wr.heap.size
 cR:∀b,b<W1.heap.size->σ.S b=none->wr.heap[b]?=W1.heap[b]?
 sig:∀(b:Nat) (q:Option Addr) (p a r v:Value),W1.heap[b]?=some (.cells #[.pointer q,p,a,r,v] 94 (0,0))->∃q',wr.heap[b]?=some (.cells #[.pointer q',p,a,r,v] 94 (0,0))
theorem QX.dd(h:QX NS Q w K B DI eo W0 n σ W1 W)(hz:Lo σ.D W1.heap.size):∀b,σ.D b->W.heap[b]?=W1.heap[b]?:=λb hd=>h.cR b (hz b hd) (by
 cases hs:σ.S b with
 |none=>rfl
 |some s=>exact absurd hd (h.md.bs.th.rS b s hs))
theorem QX.fn(h:QX NS Q w K B DI eo W0 n σ W1 W)(hz:Lo σ.D W1.heap.size){m:GT}(hf:QV σ.S σ.D W1 base m p):QV σ.S σ.D W base m p:=by
 obtain⟨hk,b,pos,pk,sb,q,pa,re,h1,h2,h3,h4,h5,h6,h7⟩:=hf;obtain⟨q',h8⟩:=h.sig _ _ _ _ _ _ h6;exact⟨hk,b,pos,pk,sb,q',pa,re,h1,h2,(h.dd hz b h2).trans h3,h4,h5,h8,h7.move λb hb=>⟨hb,h.dd hz b hb⟩⟩
theorem QX.row(h:QX NS Q w K B DI eo W0 n σ W1 W)(hr:dK B DI σ base W1 ty ps v):dK B DI σ base W ty ps v:=
 hr.cR λg hg=>h.cR g (aC hr.own g hg).2.1 (hr.loc g hg).1
theorem QX.set(h:QX NS Q w K B DI eo W0 n σ W1 W)(hb:Below W.heap.size W W2)(hs:σ.S sb=some s)(hk:s.kind=7)(hz:W0.heap.size<=sb)(hh:W.heap[sb]?=some (.cells #[.pointer rc,.pointer none,pa,re,.bool s.va] 94 (0,0)))(hp:kT sb #[.pointer rc',.pointer none,pa,re,.bool s.va] 94 W2 W'):QX NS Q w K B DI eo W0 n σ W1 W':=by
 have aM:=jQ2 hh;have h2:=h.md.below hb;refine⟨h2.Zh hs hk hz ((hb.block sb aM).trans hh) hp,by have:=h.size;have:=hb.size;have:=hp.size;omega,λb hl hn=>?_,λb q p a r v hv=>?_⟩
 ·have hz:=h.size;exact(hp.other b λe=>by rw[e,hs]at hn;cases hn).trans ((hb.block b m9).trans (h.cR b hl hn))
 ·obtain⟨q',hq⟩:=h.sig b q p a r v hv;by_cases e:b=sb
  ·subst e;rw[hh]at hq;simp at hq;obtain⟨-,rfl,rfl,rfl,rfl⟩:=hq;exact⟨rc',hp.here⟩
  ·exact⟨q',(hp.other b e).trans ((hb.block b (jQ2 hq)).trans hq)⟩
theorem uN(aL:W.ownsRow base 95 1 v ps.length ps)(eO:All2 (λm p=>sK S D W m.name m p) l ps)(hn:∀m∈l,wM m.name/\m.name.size<=9223372036854775807)(uu:(l.map (·.name)).Nodup)(cF:l.length<=1099511627776)(hD:∀g,v.ownBlock=some g->¬D g)(mY:Lo D W.heap.size)(ht:jE D W):
 Calls prog 99 #[v] W λe W'=>e=.returned (.tuple #[])/\(∃wO,W'.ownsRow base 95 1 v wO.length wO/\wO.length=ps.length/\All2 (λm p=>sK S D W' m.name m p) (ib l) wO)/\iN (λb=>v.ownBlock=some b) W W':=by
 have hlen:=eO.len;by_cases hl:l=[]
 ·subst hl;have Ft:ps=[]:=by cases ps with
   |nil=>rfl
   |cons _ _=>simp at hlen
  subst Ft;have hv:∃a c,v=.slice a 0 c:=by
   rcases aL.2 with⟨rfl,h0⟩|⟨g',cap,cur,rfl,k1,k2,k3⟩
   ·exact⟨_,_,rfl⟩
   ·exact⟨_,_,rfl⟩
  obtain⟨a,c,rfl⟩:=hv;have hc:=Go.Proofs.AnyF.slices_SortFunc_none (P:=prog) (ρ:=sortF_ren) {sortF with} a c (.func (.func 136) #[] #[]) W
  change Calls prog 135 _ _ _ at hc
  go_enter func99,ntmps99;go_wp2_with fail;refine hc.mono ?_;rintro e w' ⟨rfl,rfl⟩;clear hc;go_wp2_with fail
  first
  |refine jRq (v:=.tuple #[]) (by simp[results,Tryz.results99,go_sem]) rfl ?_
  |refine jRc (results_none rfl _ _ _) rfl ?_
  refine⟨rfl,⟨[],aL,rfl,?_⟩,⟨rfl,rfl,rfl,jQ0 _,λ_ _ _=>rfl,λb hb cs t f hc=>?_⟩⟩
  ·simp[ib,All2]
  ·obtain⟨_,_,cur,k⟩:=aC aL b hb;rw[k]at hc;cases hc;exact⟨i5,i5⟩
 ·rw[<-hlen]at aL;refine(yt aL eO hl hn uu cF hD mY ht).mono ?_;rintro e W' ⟨rfl,⟨wO,h1,h2⟩,h3⟩;have:=h2.len;refine⟨rfl,⟨wO,by rw[<-this];exact h1,?_,h2⟩,h3⟩;rw[<-this,<-hlen];simp[ib]
theorem kT.drew{cs:Array Value}{t:TypeId}{w:World}(h:kT b cs t w w'):kT b cs t w w'.drew:=⟨h.here,h.other,h.size,h.os,h.tape,h.output⟩
@[go_sem ↓] theorem agK(v:Value)(x:TypeId)(w:World):(Instr.typeAssert (.iface 90 v) x 90 false).run prog w=.ok v w:=g9
theorem Io{α β:Type}{R:α->β->Prop}:∀{l:List α} {m:List β},All2 R l m->∀{i:Nat} {p:β},m[i]?=some p->∃a,l[i]?=some a/\R a p
 |[],[],_,i,p,h=>by simp at h
 |x::l,[],h,_,_,_=>h.elim
 |[],y::m,h,_,_,_=>h.elim
 |x::l,y::m,h,0,a,ha=>by simp at ha;subst ha;exact⟨x,rfl,h.1⟩
 |x::l,y::m,h,i+1,a,ha=>Io (l:=l) (m:=m) h.2 (by simpa using ha)
theorem dK.nth(h:dK B DI σ base W ty ps v)(hi:ps[i]?=some p):∃b c,v=.slice (some ⟨b,0,none⟩) ps.length c/\W.cell? ⟨b,i,none⟩=some p:=by
 rcases h.own.2 with⟨rfl,h0⟩|⟨g',cap,cur,rfl,k1,k2,k3⟩
 ·have:=jQe h0;subst this;simp at hi
 ·exact⟨g',cap,rfl,by have:=h.own.cells (g:=g') rfl i p hi;rw[<-this];congr 1;unfold Addr.add;split<;>simp_all⟩
abbrev Nb(c:Bool)(a1 a2:Value):Array Value:=#[.pointer none,a1,a2,.pointer none,.bool false,.bool c,.pointer none]
theorem Fo(cq:Md NS Q w K B DI eo W0 n σ W)(fP:dK B DI σ W0.heap.size W 95 ps mv)(hf:All2 (QV σ.S σ.D W W0.heap.size) l ps)(nT:dK B DI σ W0.heap.size W 37 vs ev)(bk:0<ps.length\/0<vs.length)(hn:∀m∈l,wM m.name/\m.name.size<=9223372036854775807)(uu:(l.map (·.name)).Nodup)(cF:l.length<=1099511627776):
 Calls prog 112 #[mv,ev] W λe W'=>e=.returned (ptr W.heap.size)/\Md NS Q w K B DI eo W0 n σ W'/\W'.heap[W.heap.size]?=some (.cells (Nb true mv ev) 102 (0,0))/\
  dK B DI σ W0.heap.size W' 37 vs ev/\∃wO,dK B DI σ W0.heap.size W' 95 wO mv/\All2 (λm p=>sK σ.S σ.D W' m.name m p) (ib l) wO:=by
 obtain⟨a1,c1,rfl, -⟩:=fP.form;obtain⟨a2,c2,rfl, -⟩:=nT.form;have ar:=an W (.cells (Nb false (.slice none 0 0) (.slice none 0 0)) 102);have QW:QX NS Q w K B DI eo W0 n σ (W.alloc (.cells (Nb false (.slice none 0 0) (.slice none 0 0)) 102)) (W.alloc (.cells (Nb false (.slice none 0 0) (.slice none 0 0)) 102)):=⟨cq.below ar,jQ0 _,λ_ _ _=>rfl,λb q p a r v h=>⟨q,h⟩⟩;have aa7:=cq.bs.th.mT;have jf:=Z (show Lo σ.D (W.alloc (.cells (Nb false (.slice none 0 0) (.slice none 0 0)) 102)).heap.size from aa7.mono ar.size);have Kl:Gr B σ σ W (W.alloc (.cells (Nb false (.slice none 0 0) (.slice none 0 0)) 102)):=Gr.below ar;have HR1:=Z (fP.gr Kl);have OV:=Z (nT.gr Kl);have HF:=Z (show All2 (QV σ.S σ.D (W.alloc (.cells (Nb false (.slice none 0 0) (.slice none 0 0)) 102)) W0.heap.size) l ps from hf.imp λm p h=>by
  obtain⟨hk,b,pos,pk,sb,q,pa,re,h1,h2,h3,h4,h5,h6,h7⟩:=h;exact⟨hk,b,pos,pk,sb,q,pa,re,h1,h2,aq h3,h4,h5,aq h6,h7.move λb hb=>⟨hb,ar.block b (aa7 b hb)⟩⟩)
 have rO:ps.length<=9223372036854775807:=by have:=HF.1.len;omega
 obtain⟨lO,adE,HN,Xd,kr⟩:=Z5 cq QW hn uu cF;have hc:=tf W;clear ar QW aa7 Kl fP nT hf cq hn uu cF;by_cases h0:0<ps.length
 ·have lA:((ps.length:Int)==0)=false:=by(have:¬(ps.length:Int)=0:=m9);simp[this];intro e;rw[e]at h0;simp at h0
  clear bk h0;go_enter func112,ntmps112;go_wp2_with fail;refine rv hc ?_;clear hc;go_wp2_with fail
  go_loopg [23] ps.length (λgg s23 wr=>∃(kk:Nat),kk<=ps.length/\ps.length - kk<=gg/\s23=.int .i64 kk/\QX NS Q w K B DI eo W0 n σ (W.alloc (.cells (Nb false (.slice none 0 0) (.slice none 0 0)) 102)) wr)
  case atStart=>exact⟨0,jQc _,m9,rfl,adE.1⟩
  case round=>
   obtain⟨kk,ez,hg,rfl,QW⟩:=hrel;have tj:=Z QW;by_cases aM:kk<ps.length
   ·have aR:(kk:Int)<(ps.length:Int):=m9
    obtain⟨p,hp⟩:∃p,ps[kk]?=some p:=⟨ps[kk]'aM,by simp[aM]⟩;obtain⟨x,hx,hfx⟩:=Io HF.1 hp;obtain⟨Ip,fb,pos,pk,sb,q,pa,re,rfl,uw,hfb,rN,yW,KU,Hm⟩:=tj.1.fn jf.1 hfx;obtain⟨b9,c9,e9,hc9⟩:=(tj.1.row HR1.1).nth hp;simp at e9;obtain⟨rfl,rfl⟩:=e9;obtain⟨f0,f1,f2,f3⟩:wr.cell? ⟨fb,0,none⟩=some (.int .i64 pos)/\wr.cell? ⟨fb,1,none⟩=some (.pointer pk)/\wr.cell? ⟨fb,2,none⟩=some (.string x.name)/\wr.cell? ⟨fb,3,none⟩=some (.iface 90 (ptr sb)):=by simp[World.cell?,hfb]
    have s0:wr.cell? ⟨sb,0,none⟩=some (.pointer q):=by simp[World.cell?,KU]
    have s9:wr.frozen? ⟨sb,0,none⟩=false:=by simp[World.frozen?,KU]
    obtain⟨ZG,na,HFB,wL,HBZ,Hn⟩:=Z6 KU (show fb≠sb from λe=>tj.1.md.bs.th.rS sb _ rN (e▸uw)) hfb rN yW Ip;clear QW KU hfb rN yW Ip hfx hx hp uw Hm;cases q with
    |some q=>
     go_wp2_with fail;go_roundg (ps.length - (kk+1))
     case measure=>omega
     case rel=>exact⟨kk+1,m9,m9,by go_num,tj.1⟩
    |none=>
     have Fp:(aG x).kind=7:=by obtain⟨k1, -⟩:=fa (t:=x) (by have:=Hn.1;omega) (by have:=Hn.1;omega) (by have:=Hn.1;omega) (by have:=Hn.1;omega);rw[k1];exact Hn.1
     have iL:(aG x).va=x.va:=by obtain⟨-, -, -,k4, -⟩:=fa (t:=x) (by have:=Hn.1;omega) (by have:=Hn.1;omega) (by have:=Hn.1;omega) (by have:=Hn.1;omega);exact k4
     have HS7:=Z Fp;have Km:=Z iL;clear Fp iL;clear s9;go_wp2_with fail;refine jQ9 (S:=(λw'=>w'.cell? ⟨fb,0,none⟩=some (.int .i64 pos)/\w'.cell? ⟨fb,1,none⟩=some (.pointer pk))) g9 (⟨f0,f1⟩) (λai=>?_);refine t4 0 1 2 3 ?_;refine t4 4 5 6 7 ?_;refine t4 8 9 10 11 ?_;refine tk 12 ?_;refine rd 13 rfl λK hK=>?_;go_simp;refine rv (iB _ _ _ _ _ _ _) ?_;have hh:=ai;clear ai;have Xe:(wr.alloc (.cells #[.int .i64 pos,.pointer pk,.string ⟨#[]⟩,.iface 33 (ptr W.heap.size),.int .u8 3,.bool false] 167)).heap[sb]?=_:=aq ZG.1;have Xf:(wr.alloc (.cells #[.int .i64 pos,.pointer pk,.string ⟨#[]⟩,.iface 33 (ptr W.heap.size),.int .u8 3,.bool false] 167)).cell? ⟨sb,0,none⟩=some (.pointer none):=by simp[World.cell?,Xe]
     have j7:(wr.alloc (.cells #[.int .i64 pos,.pointer pk,.string ⟨#[]⟩,.iface 33 (ptr W.heap.size),.int .u8 3,.bool false] 167)).frozen? ⟨sb,0,none⟩=false:=by simp[World.frozen?,Xe]
     have lZ:=Z (aw Xe 0 (ptr wr.heap.size));have nb:=Z (tj.1.set (an wr (.cells #[.int .i64 pos,.pointer pk,.string ⟨#[]⟩,.iface 33 (ptr W.heap.size),.int .u8 3,.bool false] 167)) wL.1 HS7.1 HBZ.1 (by rw[Km.1];exact ZG.1) (by rw[Km.1];exact lZ.1.drew));clear Xe;refine hK.out _ _ ⟨((an _ _).cell (jQs hh.1)).trans hh.1,((an _ _).cell (jQs hh.2)).trans hh.2⟩ (λai=>?_);clear hK K;refine t2 14 15 ?_;refine rd 16 rfl λK hK=>?_;go_simp;have hh:=ai;clear ai;refine hK.out _ _ ⟨(jQi (w:=(wr.alloc (.cells #[.int .i64 pos,.pointer pk,.string ⟨#[]⟩,.iface 33 (ptr W.heap.size),.int .u8 3,.bool false] 167))) (lZ.1.other fb na.1)).trans hh.1,(jQi (w:=(wr.alloc (.cells #[.int .i64 pos,.pointer pk,.string ⟨#[]⟩,.iface 33 (ptr W.heap.size),.int .u8 3,.bool false] 167))) (lZ.1.other fb na.1)).trans hh.2⟩ (λai=>?_);clear hK K;refine jQl g9 ?_ _;clear ai Xf j7;go_wp2_with fail;go_roundg (ps.length - (kk+1))
     case measure=>omega
     case rel=>exact⟨kk+1,m9,m9,by go_num,nb.1⟩
   ·have aR:¬(kk:Int)<(ps.length:Int):=m9
    have fP:=tj.1.row HR1.1;have nT:=tj.1.row OV.1;have VV:=HF.1.imp λm p h=>(tj.1.fn jf.1 h).fn;have ag:=uN fP.own VV HN.1 Xd.1 kr.1 (λg hg=>(fP.loc g hg).2.1) tj.1.md.bs.th.mT tj.1.md.bs.th.td;have Dc:=tj.1.cR W.heap.size (by rw[jQ3];omega) (lO.1.bs.loc (jQ0 _)).1;rw[ak]at Dc;obtain⟨Fq,xf,Xg⟩:=Z3 nT fP Dc;clear fP nT VV Dc QW;go_wp2_with fail;refine ag.mono ?_;rintro e' wA ⟨rfl,⟨wO,ho,mR,QY⟩,qA⟩;obtain⟨HO,HFS,RZ,HPL⟩:=Z4 ho QY qA mR;have Dc:=(qA.block W.heap.size (jQ2 Xg.1) (λe=>by
     obtain⟨_,_,cur,h2⟩:=aC xf.1.own _ e;rw[Xg.1]at h2;cases h2)).trans Xg.1
    have g1:wA.cell? ⟨W.heap.size,1,none⟩=some (.slice none 0 0):=by simp[World.cell?,Dc]
    have g2:wA.cell? ⟨W.heap.size,2,none⟩=some (.slice none 0 0):=by simp[World.cell?,Dc]
    have g5:wA.cell? ⟨W.heap.size,5,none⟩=some (.bool false):=by simp[World.cell?,Dc]
    have f1:∀i,wA.frozen? ⟨W.heap.size,i,none⟩=false:=λi=>by simp[World.frozen?,Dc]
    have HGJ:=Z Dc;clear ag ho QY qA mR Dc;go_wp2_with fail;go_ret;have hP1:=aw HGJ.1 1 (.slice a1 ps.length c1);exact M25
 ·have Ft:ps=[]:=by cases ps with
   |nil=>rfl
   |cons _ _=>exact absurd (Nat.zero_lt_succ _) h0
  have fV:l=[]:=by
   have:=HF.1.len;rw[Ft]at this;exact jQe this
  subst Ft;subst fV;have gj:((vs.length:Int)==0)=false:=by
   have h1:0<vs.length:=bk.resolve_left i6;simp;intro e;rw[e]at h1;simp at h1
  clear bk h0;simp only[List.length_nil];go_enter func112,ntmps112;go_wp2_with fail;refine rv hc ?_;clear hc;go_wp2_with fail
  go_loopg [23] 0 (λgg s23 wr=>∃(kk:Nat),s23=.int .i64 kk/\QX NS Q w K B DI eo W0 n σ (W.alloc (.cells (Nb false (.slice none 0 0) (.slice none 0 0)) 102)) wr)
  case atStart=>exact⟨0,rfl,adE.1⟩
  case round=>
   obtain⟨kk,rfl,QW⟩:=hrel;have tj:=Z QW;have aR:¬(kk:Int)<0:=m9
   have fP:=tj.1.row HR1.1;have nT:=tj.1.row OV.1;have VV:=HF.1.imp λm p h=>(tj.1.fn jf.1 h).fn;have ag:=uN fP.own VV HN.1 Xd.1 kr.1 (λg hg=>(fP.loc g hg).2.1) tj.1.md.bs.th.mT tj.1.md.bs.th.td;have Dc:=tj.1.cR W.heap.size (by rw[jQ3];omega) (lO.1.bs.loc (jQ0 _)).1;rw[ak]at Dc;obtain⟨Fq,xf,Xg⟩:=Z3 nT fP Dc;clear fP nT VV Dc QW;go_wp2_with fail;refine ag.mono ?_;rintro e' wA ⟨rfl,⟨wO,ho,mR,QY⟩,qA⟩;obtain⟨HO,HFS,RZ,HPL⟩:=Z4 ho QY qA mR;have Dc:=(qA.block W.heap.size (jQ2 Xg.1) (λe=>by
    obtain⟨_,_,cur,h2⟩:=aC xf.1.own _ e;rw[Xg.1]at h2;cases h2)).trans Xg.1
   have g1:wA.cell? ⟨W.heap.size,1,none⟩=some (.slice none 0 0):=by simp[World.cell?,Dc]
   have g2:wA.cell? ⟨W.heap.size,2,none⟩=some (.slice none 0 0):=by simp[World.cell?,Dc]
   have g5:wA.cell? ⟨W.heap.size,5,none⟩=some (.bool false):=by simp[World.cell?,Dc]
   have f1:∀i,wA.frozen? ⟨W.heap.size,i,none⟩=false:=λi=>by simp[World.frozen?,Dc]
   have HGJ:=Z Dc;clear ag ho QY qA mR Dc;go_wp2_with fail;go_ret;have hP1:=aw HGJ.1 1 (.slice a1 0 c1);exact M25
theorem Md.made(h:Md NS Q w K B DI eo W0 n σ W)(hg:W.grownBy W1 σ.mv.ownBlock)(aL:W1.ownsRow 0 33 1 v' (σ.ml++[b]).length ((σ.ml++[b]).map ptr))(hv:v'.ownBlock=σ.mv.ownBlock\/v'.ownBlock=some W.heap.size)(hp:kT B.bb #[ptr B.pk,B.dv,B.ev,B.cv,v'] 58 W1 W')(hb:∃t,σ.S b=some (aG t)/\t.kind=10/\PT NS Q w 0 t):Md NS Q w K B DI eo W0 (n+1) {σ with mv:=v',ml:=σ.ml++[b]} W':=by
 have j8:=hg.size;have aff:=hp.size;have aM:=h.bs.lt;have heq:∀g,g<W.heap.size->g≠B.bb->σ.mv.ownBlock≠some g->W'.heap[g]?=W.heap[g]?:=λg h1 h2 h3=>(hp.other g h2).trans (hg.block g h1 λe=>h3 e.symm);have hS:∀g s,σ.S g=some s->W'.heap[g]?=W.heap[g]?:=λg s hs=>heq g (h.bs.th.lI g s hs) (λe=>by have:=h.bs.kJ.1;rw[<-e,hs]at this;cases this) λe=>by have:=(h.bs.gY g e).1;rw[hs]at this;cases this
 have hD:∀g,σ.D g->W'.heap[g]?=W.heap[g]?:=λg hd=>heq g (h.bs.th.mT g hd) (λe=>h.bs.kJ.2 (e▸hd)) λe=>(h.bs.gY g e).2.1 hd;have hm:au σ.D σ.D W W':=λg hb=>⟨hb,hD g hb⟩;have hz:W.heap.size<=W'.heap.size:=m9
 have lA:=h.gr.size;refine⟨⟨h.bs.th.cR hz hS hD,hp.here,h.bs.Rm.move hm,h.bs.row.move hm,h.bs.rn,h.bs.dl,h.bs.ev,h.bs.cv,h.bs.kJ,?_,?_,?_,?_,h.bs.ifs⟩,?_,?_⟩
 ·refine cD aL λg Qd=>hp.other g λe=>?_;obtain hv|hv:=hv
  ·rw[hv]at Qd;exact(h.bs.gY g Qd).2.2 e
  ·rw[hv]at Qd;cases Qd;have:=aM.1;omega
 ·intro g Qd
  change v'.ownBlock=some g at Qd
  obtain hv|hv:=hv
  ·exact h.bs.gY g (hv▸Qd)
  ·rw[hv]at Qd;cases Qd;have:=h.bs.loc (g:=W.heap.size) (jQ0 _);exact⟨this.1,this.2.1,this.2.2.1⟩
 ·intro b' dD
  change b'∈σ.ml++[b]at dD
  rcases jQm.1 dD with dD|dD
  ·exact h.bs.made b' dD
  ·rw[List.mem_singleton]at dD;subst dD;exact hb
 ·intro g hd;obtain⟨d1,d2,d3,d4⟩:=h.bs.di g hd;refine⟨m9,d2,λe=>?_,d4⟩
  change v'.ownBlock=some g at e
  obtain hv|hv:=hv
  ·exact d3 (hv▸e)
  ·rw[hv]at e;cases e;omega
 ·refine⟨hp.os.trans (hg.os.trans h.gr.os),hp.tape.trans (hg.tape.trans h.gr.tape),hp.output.trans (hg.output.trans h.gr.output),m9,λg hl hn ho=>?_,h.gr.sle,h.gr.uF,h.gr.xQ,h.gr.Jo,h.gr.Jp,?_⟩
  ·refine(heq g m9 hn λe=>?_).trans (h.gr.block g hl hn ho);obtain e'|⟨g',e',nG⟩:=h.gr.MQ
   ·exact ho (e'.symm.trans e)
   ·rw[e']at e;cases e;omega
  ·change v'.ownBlock=_\/∃g,v'.ownBlock=some g/\_
   obtain hv|hv:=hv
   ·rw[hv];exact h.gr.MQ
   ·exact .inr ⟨_,hv,lA⟩
 ·have:=h.len
  change (σ.ml++[b]).length<=_
  rw[jQo];simp;omega
theorem xV(h:PT NS Q w md t)(hk:t.kind=10):0<=t.m/\t.m<=(t.elems.length:Int)/\((own t).Pairwise λa b=>bB a b=true)/\((own t).map (·.name)).Nodup/\(∀e∈own t,e.kind=7/\isName e.name=true/\e.name∈NS)/\PT NS Q w 0 t:=by
 cases h with
 |basic a b=>simp[GT.kind]at hk
 |uni a=>simp only[GT.kind]at hk;omega
 |named a b c=>simp[GT.kind]at hk
 |al a b h1=>simp only[GT.kind]at hk;omega
 |st a b h1=>simp[GT.kind]at hk
 |ifc a b c d e g h1 h2 q=>exact⟨a,b,d,e,λx hx=>g x hx,.ifc a b c d e g h1 h2 q⟩
 |one a b c h1=>simp only[GT.kind]at hk;omega
 |mp h1 h2=>simp[GT.kind]at hk
 |fn a b c h1=>simp[GT.kind]at hk
 |ti a h1=>simp[GT.kind]at hk
 |un a b c h1=>simp[GT.kind]at hk
theorem Qe(h:l.Pairwise λa b=>bB a b=true):ib l=l:=by
 unfold ib;refine List.mergeSort_of_pairwise (h.imp λ{a b} Bh=>?_);rw[fY]at Bh⊢;simp only[decide_eq_true_eq]at Bh;have:=List.lt_asymm Bh;simp[this]
theorem afg(h:Md NS Q w K B DI eo W0 n σ W)(hk:t.kind=10)(Ft:PT NS Q w 0 t)(hl:Loc B DI σ zi)(hz:W0.heap.size<=zi)(hh:W.heap[zi]?=some (.cells (Nb true ms GA) 102 (0,0)))(fP:dK B DI σ W0.heap.size W 95 ps ms)(nT:dK B DI σ W0.heap.size W 37 vs GA)(hf:All2 (λm p=>sK σ.S σ.D W m.name m p) (own t) ps)(he:All2 (λe v=>dq σ.S v e) (bN t) vs):
 ∃fT,Md NS Q w K B DI eo W0 n fT W/\fT.S zi=some (aG t)/\fT.mv=σ.mv/\fT.ml=σ.ml:=by
 obtain⟨k1,k2,k3,k4,k5⟩:=fa (t:=t) m9 m9 m9 m9;obtain⟨o1,o2⟩:=zA (t:=t) m9 m9 m9 m9;have hM:=h.lW (λb=>ms.ownBlock=some b\/GA.ownBlock=some b) (λb hb=>by
  obtain hb|hb:=hb
  ·obtain⟨q1,q2,cur,q3⟩:=aC fP.own b hb;exact⟨⟨fP.loc b hb,q1⟩,_,_,_,q3⟩
  ·obtain⟨q1,q2,cur,q3⟩:=aC nT.own b hb;exact⟨⟨nT.loc b hb,q1⟩,_,_,_,q3⟩)
 have bk:¬(ms.ownBlock=some zi\/GA.ownBlock=some zi):=by
  rintro(hb|hb)
  ·obtain⟨_,_,cur,q3⟩:=aC fP.own _ hb;rw[hh]at q3;cases q3
  ·obtain⟨_,_,cur,q3⟩:=aC nT.own _ hb;rw[hh]at q3;cases q3
 have fh:=hl.lW (P:=λb=>ms.ownBlock=some b\/GA.ownBlock=some b) bk;have hS:=fG (s:=aG t) hl.1;have eR:au σ.D (λb=>σ.D b\/(ms.ownBlock=some b\/GA.ownBlock=some b)) W W:=λb hb=>⟨.inl hb,rfl⟩;have cP:iJ (cE σ.S zi (aG t)) (λb=>σ.D b\/(ms.ownBlock=some b\/GA.ownBlock=some b)) W zi (aG t) (.pointer none):=
  ⟨ms,GA,ps,vs,hh,fP.row λg hg=>.inr (.inl hg),nT.row λg hg=>.inr (.inr hg),by rw[o1];exact hf.imp λm p hp=>hp.move hS eR,by rw[o2];exact he.imp λe v hv=>hv.mono hS⟩
 exact⟨_,hM.add fh hz hh (λhi=>by unfold cI at hi;omega) ⟨m9,m9,m9,m9,m9,m9,m9,m9,m9,λ_=>⟨_,cP⟩,m9⟩ (λ_=>⟨⟨_,cP,.inl ⟨rfl,by rw[k1];exact hk⟩⟩,.inr ⟨t,rfl,hk,Ft⟩⟩),fH _ _ _,rfl,rfl⟩
theorem YT(hK:1<=K)(hk:t.kind=10)(hp:PT NS Q w 2 t)(hn:∀m∈own t,wM m.name/\m.name.size<=9223372036854775807)(cF:(own t).length<=1099511627776)(cq:Md NS Q w K B DI eo W0 n σ W)(fP:dK B DI σ W0.heap.size W 95 ps mv)(hf:All2 (QV σ.S σ.D W W0.heap.size) (own t) ps)(nT:dK B DI σ W0.heap.size W 37 vs ev)(he:All2 (λe v=>dq σ.S v e) (bN t) vs):
 Calls prog 112 #[mv,ev] W λe W'=>∃b fT,e=.returned (ptr b)/\Md NS Q w K B DI eo W0 n fT W'/\fT.S b=some (aG t)/\fT.mv=σ.mv/\fT.ml=σ.ml:=by
 obtain⟨f0,f1,f2,f3,f4,f5⟩:=xV hp hk;by_cases h0:0<ps.length\/0<vs.length
 ·refine(Fo cq fP hf nT h0 hn f3 cF).mono ?_;rintro e' W' ⟨rfl,hM,hh,nr,wO,hrp,hfv⟩;rw[Qe f2]at hfv;obtain⟨fT,g1,g2,g3,g4⟩:=afg hM hk f5 (cq.bs.loc (jQ0 _)) cq.gr.size hh hrp nr hfv he;exact⟨_,fT,rfl,g1,g2,g3,g4⟩
 ·have Ft:ps=[]:=jQe m9;have qj:vs=[]:=jQe m9;have hl:=hf.len;have fh:=he.len;rw[Ft]at hl;rw[qj]at fh;have lT:t.elems=[]:=by
   have h1:own t=[]:=jQe hl;have h2:bN t=[]:=jQe fh;unfold own at h1;unfold bN at h2;rw[<-jRo t.m.toNat t.elems,h1,h2];rfl
  obtain⟨a1,c1,rfl, -⟩:=fP.form;obtain⟨a2,c2,rfl, -⟩:=nT.form;subst Ft;subst qj;obtain⟨k1,k2,k3,k4,k5⟩:=fa (t:=t) m9 m9 m9 m9;refine(Mi a1 a2 c1 c2 W).mono ?_;rintro e' W' ⟨rfl,rfl⟩;exact⟨_,_,rfl,ab7 cq hK (s:=aG t) m9 (by rw[k5];exact lT) ⟨t,rfl,hk,f5⟩,fH _ _ _,rfl,rfl⟩
end Go.Proofs.YtabjfnkfocnklaaGreatDoor
