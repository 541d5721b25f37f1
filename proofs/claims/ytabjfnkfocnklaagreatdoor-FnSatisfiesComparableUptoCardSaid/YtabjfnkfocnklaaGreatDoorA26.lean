import Derived.Test.YtabjfnkfocnklaaGreatDoorA25
set_option linter.all false
set_option maxHeartbeats 16000000
set_option maxRecDepth 20000
namespace Go.Proofs.YtabjfnkfocnklaaGreatDoor
open Go Go.RowKit Go.Lib S P Go.Proofs.Tryz
variable{t v:GT}{ts:List GT}{w:List ah}{c:Nat}{a:Option Addr}{tv vv:Value}{W W':World}
mutual
theorem zx:∀t:GT,nds t=(ei t).length
 |.mk _ _ _ _ _ _ l=>by rw[nds,ei,Ik l];simp;omega
theorem Ik:∀l:List GT,ndss l=(fF l).length
 |[]=>by simp[ndss,fF]
 |e::l=>by rw[ndss,fF,zx e,Ik l];simp
end
theorem MS:∀l:List aH,mds l<=msz l
 |[]=>by simp[mds,msz]
 |m::l=>by rw[mds,msz,zx];have:=MS l;omega
theorem RI:∀l:List ah,uns l+DY l<=wsz l
 |[]=>by simp[uns,DY,wsz]
 |d::l=>by rw[uns,DY,wsz,zx];have:=RI l;have:=MS d.meths;omega
structure Small(w:List ah)(ts:List GT):Prop where
 sz:wsz w+(fF ts).length<=BD
 nw:∀d∈w,NBD d
 nt:∀t∈ts,NB t
theorem adt(h:Small w ts):∀s∈qu w ts,s.size<=9223372036854775807:=by
 intro s hs;unfold qu at hs;rcases jQn.1 hs with rfl|hs
 ·decide
 rcases jQm.1 hs with hs|hs
 ·have hw:∀(l:List ah),(∀d∈l,NBD d)->∀s∈RJ l,s.size<=9223372036854775807:=by
   intro l
   induction l with
   |nil=>intro _ s hs;simp[RJ]at hs
   |cons d l ih=>
    intro hl s hs;rw[RJ]at hs;have hd:=hl d i6;rcases jQm.1 hs with hs|hs
    ·exact hd.1.1 s hs
    rcases jQm.1 hs with hs|hs
    ·have hm:∀(l:List aH),(∀m∈l,NB m.sig)->∀s∈VQ l,s.size<=9223372036854775807:=by
      intro l
      induction l with
      |nil=>intro _ s hs;simp[VQ]at hs
      |cons m l ih=>
       intro hl s hs;rw[VQ]at hs;rcases jQm.1 hs with hs|hs
       ·exact(hl m i6).1 s hs
       ·exact ih (λm' h'=>hl m' (by simp[h'])) s hs
     exact hm _ (λm hm=>(hd.2 m hm).1) s hs
    ·exact ih (λd' h'=>hl d' (by simp[h'])) s hs
  exact hw w h.nw s hs
 ·have ht:∀(l:List GT),(∀t∈l,NB t)->∀s∈fF l,s.size<=9223372036854775807:=by
   intro l
   induction l with
   |nil=>intro _ s hs;simp[fF]at hs
   |cons d l ih=>
    intro hl s hs;rw[fF]at hs;rcases jQm.1 hs with hs|hs
    ·exact(hl d i6).1 s hs
    ·exact ih (λd' h'=>hl d' (by simp[h'])) s hs
  exact ht ts h.nt s hs
theorem adu(h:Small w ts)(hv:VR (qu w ts) w):IE (qu w ts) (QD w BD) w (gZ w) (mP w) BR BR:=by
 have hB:=Fe h.sz;obtain⟨e1,e2,e3,e4⟩:=z8;have agF:str [69,114,114,111,114]∈qu w ts:=by simp[qu]
 have KM:=adv hB hv;have hr:∀n,(gZ w).getD n 0<BN:=λn=>by have:=uK w n;have:=hB.nn;omega
 refine⟨⟨adw agF m9,KM,adx,ady,hB.len⟩,adz,adA hv,jQ0 _,m9,λt hp hk=>?_,?_,?_,λn=>?_,λj d hd=>?_,?_,?_,adt h⟩
 ·have:=adB (v:=false) (f:=false) hB hp hk;omega
 ·rw[aa2];omega
 ·have:=zy (t:=fC) hB (by simp[fC,dp,dps];omega) false false;omega
 ·have:=hr n;omega
 ·have nY:=hv j d hd;have ho:=KM.ok.ok j d trivial hd;exact⟨⟨nY.k1,nY.k3,nY.k2⟩,ho.1.ww.eS (jQ0 _) (λ_ h=>h) m9 id id,hB.ml d (jQ8 hd),λm hm=>⟨(nY.sig m hm).1,(nY.sig m hm).2.1,(ho.2 m hm).ww.eS (jQ0 _) (λ_ h=>h) m9 id id⟩,nY.nd⟩
 ·have:=RI w;have:=h.sz;omega
 ·have:=(zz w).2;have:=h.sz;omega
theorem ZI(h:Small w ts)(ht:t∈ts)(v f:Bool):2*J (gZ w) v f t+1<BR:=by
 have:=zy (Fe h.sz) (Aa h.sz ht) v f;obtain⟨e1,e2,e3,e4⟩:=z8;omega
theorem D1(h:Small w ts)(ht:t∈ts):nds t<=1099511627776:=by
 have h1:(ei t).length<=(fF ts).length:=wZ ht;have:=h.sz;obtain⟨e1,e2,e3,e4⟩:=z8;rw[zx];omega
theorem adC(h:Small w [v]):∃r1:Bool,fy (valid (BK+1) w) (right (BK+1) w [v])=some r1/\(r1=true->VR (qu w [v]) w/\Il (qu w [v]) w v):=by
 have hB:=Fe h.sz;have Ff:ON (qu w [v]) w BN BD (BK+1):=⟨hB.err,hB.len,hB.nm,hB.ml,hB.dd,hB.nn,by have:=hB.kk;omega,hB.big⟩;obtain⟨b1,h1,h2⟩:=OO Ff;rw[h1];cases b1 with
 |false=>exact⟨false,rfl,λe=>(by cases e)⟩
 |true=>
  have hv:=h2 rfl;obtain⟨b2,h3,h4⟩:=OP hB hv (l:=[v]) (by intro x hx;simp at hx;subst hx;exact⟨RK i6,Aa h.sz i6⟩);rw[h3];exact⟨b2,by simp[fy],λe1=>⟨hv,h4 e1 v i6⟩⟩
abbrev sJ:GT:=.mk 14 0 0 false es es []
abbrev cmp16:GT:=.mk 16 0 0 false es es []
theorem MU:az w sJ=fD:=by
 have h:una sJ=fD:=by rw[sJ,hZ];rfl
 unfold az;rw[h];rfl
theorem und_cmp:az w cmp16=da:=by
 have h:una cmp16=cmp16:=by rw[cmp16,hZ];rfl
 unfold az;rw[h];rfl
theorem und_comp:az w da=da:=by
 have h:una da=da:=by show una (.mk 17 0 0 false es es [])=_;rw[hZ];rfl
 unfold az;rw[h];rfl
theorem OQ(h:Small w [v])(hW:WH (Old W) w a c W)(hv:RT (Old W) W v vv)(fv:v.name.size<=2147483647/\v.tag.size<=2147483647/\v.elems.length<=2147483647):
 Calls prog 3 #[.slice a w.length c,vv] W λe W'=>e=.returned (.bool true)/\Below W.heap.size W W':=by
 obtain⟨r1,fP,bD⟩:=adC h;have dU:=z8;have hwl:w.length<=1048576:=by have:=(zz w).2;have:=h.sz;omega
 have qj:=hv;obtain⟨av,cv,rfl,VS⟩:=hv.bR;have cX:=an W (bx v av cv);have sj:=hW.mv cX;have dt:(W.alloc (bx v av cv)).heap[W.heap.size]?=some (bx v av cv):=ak W (bx v av cv);have fx:=hW.rt cX qj;have hk:((BK+1:Nat):Int)+1<=1125899906842624:=m9
 have hold:∀w',Below (W.alloc (bx v av cv)).heap.size (W.alloc (bx v av cv)) w'->∀o,WH (Old W) w a c w'/\Cx (Old (w'.alloc o)) w (.slice a w.length c) (w'.alloc o):=λw' hb o=>by
  have h1:=sj.mv hb;refine⟨h1,λb hb=>hb,(h1.mv (an w' o)).rd.wide λb dD=>?_⟩;have e1:=cX.size;have e2:=hb.size;have e3:(w'.alloc o).heap.size=w'.heap.size+1:=jQ3 _ _;show b<(w'.alloc o).heap.size;have:b<W.heap.size:=dD;omega
 have RL:∀(x:GT) (a':Option Addr) (c':Nat),(∀w',Below (W.alloc (bx v av cv)).heap.size (W.alloc (bx v av cv)) w'->RT (Old W) w' x (.agg #[.int .i64 x.kind,.int .i64 x.n,.int .i64 x.m,.bool x.va,.string x.name,.string x.tag,.slice a' x.elems.length c']))->∀w',Below (W.alloc (bx v av cv)).heap.size (W.alloc (bx v av cv)) w'->RS (Old (w'.alloc (bx x a' c'))) (w'.alloc (bx x a' c')) [x] (.slice (some ⟨w'.heap.size,0,none⟩) 1 1):=λx a' c' Fh w' hb=>by
  have e1:=cX.size;have e2:=hb.size;have e3:(w'.alloc (bx x a' c')).heap.size=w'.heap.size+1:=jQ3 _ _;obtain⟨a2,c2,e,hs⟩:=(Fh w' hb).bR;simp at e;obtain⟨rfl,rfl⟩:=e;have hm:au (Old W) (Old (w'.alloc (bx x a' c'))) w' (w'.alloc (bx x a' c')):=λb dD=>⟨(by have:b<W.heap.size:=dD;show b<(w'.alloc (bx x a' c')).heap.size;omega),(an w' _).block b (by have:b<W.heap.size:=dD;omega)⟩;exact gQ.2 ⟨w'.heap.size,0,1,rfl,jQ0 _,m9,(by show w'.heap.size<(w'.alloc (bx x a' c')).heap.size;omega),RE.mk' (hs.move hm) (ak _ _),by rw[RC];trivial⟩
 have W8:∀w',Below (W.alloc (bx v av cv)).heap.size (W.alloc (bx v av cv)) w'->RT (Old W) w' v (.agg #[.int .i64 v.kind,.int .i64 v.n,.int .i64 v.m,.bool v.va,.string v.name,.string v.tag,.slice av v.elems.length cv]):=λw' hb=>sj.rt hb fx;obtain⟨MW,C1,C3⟩:=Z3 (show∀w',Below (W.alloc (bx v av cv)).heap.size (W.alloc (bx v av cv)) w'->w'.heap[W.heap.size]?=some (bx v av cv)from λw' hb=>aj hb dt (jQ2 dt)) (λw' hb=>Ab v _ w' (Old W) fv.1 fv.2.1 fv.2.2 (W8 w' hb)) (λw' hb=>Fi (BK+1) hk w _ [v] r1 _ _ _ fP h.nw (λe he=>by simp at he;subst he;exact h.nt _ i6) (hold w' hb (bx v av cv)).2 (RL v av cv W8 w' hb));have Im:r1=true->IE (qu w [v]) (QD w BD) w (gZ w) (mP w) BR BR/\PT (qu w [v]) (QD w BD) w 0 v:=λe1=>by
  obtain⟨k1,k2⟩:=bD e1;exact⟨adu h k1,ZJ k2 (Aa h.sz (by simp:v∈[v]))⟩
 have rv:=λa b=>ZI (t:=v) h i6 a b;have nv:=D1 (t:=v) h i6;have hj:2*J (gZ w) true false sJ+1<BR:=by
  have:=zy (Fe h.sz) (t:=sJ) (by rw[sJ,dp,dps];omega) true false;omega
 have hj2:2*J (gZ w) true false cmp16+1<BR:=by
  have:=zy (Fe h.sz) (t:=cmp16) (by rw[cmp16,dp,dps];omega) true false;omega
 obtain⟨C7,C6,C8⟩:=Z3 (λ(e1:r1=true) w' hb=>pS (t:=sJ) (tv:=.agg #[.int .i64 14,.int .i64 0,.int .i64 0,.bool false,.string es,.string es,.slice none 0 0]) (Im e1).1 (hold w' hb (bx v av cv)).1 (W8 w' hb) (ki.2 ⟨_,rfl,ia.2 ⟨none,0,rfl,λ_=>rfl⟩⟩) (Im e1).2 (.uni (.inl rfl)) (by rw[MU];rfl) (.inl MU) (rv true false) (rv false false) hj nv (by simp[sJ,nds,ndss])) (λ(e1:r1=true) w' hb=>pS (t:=cmp16) (tv:=.agg #[.int .i64 16,.int .i64 0,.int .i64 0,.bool false,.string es,.string es,.slice none 0 0]) (Im e1).1 (hold w' hb (bx v av cv)).1 (W8 w' hb) (ki.2 ⟨_,rfl,ia.2 ⟨none,0,rfl,λ_=>rfl⟩⟩) (Im e1).2 (.uni i6) (by rw[und_cmp];rfl) (.inr und_cmp) (rv true false) (rv false false) hj2 nv (by simp[cmp16,nds,ndss])) (λ(e1:r1=true) w' hb=>wY (Im e1).1 (hold w' hb (bx v av cv)).1 (W8 w' hb) (Im e1).2 (rv true false) nv);have qc:impl (fs w BR) w v (az w sJ) true=true:=by
  have:=Xa (F:=fs w BR) (w:=w) (v:=v) (t:=fD) (by rfl) (aa3 w 37748739) true;rwa[<-MU]at this
 have Sh:impl (fs w BR) w v (az w cmp16) true=(fs w BR).cmp v true:=sat_comp (k:=37748739) und_cmp und_comp (ZC w 37748739);have OR:=Z qc;have HCMP:=Z Sh;have MY:((2147483647:Int)<(w.length:Int))=False:=eq_false m9;have dP:=Z cX;have HZ:=Z dt;clear fP bD dU hwl qj hv VS hW sj dt fx hk hold RL W8 Im hj hj2 rv nv qc Sh cX fv h;generalize impl (fs w BR) w v (az w sJ) true=sa at C7 OR;generalize impl (fs w BR) w v (az w cmp16) true=ss at C6 HCMP;generalize(fs w BR).cmp v true=sc at C8 HCMP;go_enter func3,ntmps3;go_wp2_with fail;generalize W.alloc (bx v av cv)=w2 at dP HZ MW C1 C3 C6 C7 C8⊢;have HB:=Z (jQ5 w2.heap.size w2);refine(C1.1 _ HB.1).mono ?_;rintro e3 w3 ⟨rfl,aZ⟩;have HB:=Z (HB.1.trans (aZ.mono HB.1.size));clear aZ;have f1:=MW.1 _ HB.1;obtain⟨x0,x1,x2,x3,x4,x5,x6⟩:=ao f1;clear f1;go_wp2_with fail
 (try clear x0 x1 x2 x3 x4 x5 x6)
 refine(C3.1 _ HB.1).mono ?_;cases r1 with
 |false=>
  rintro e3 w3 ⟨rfl,aZ⟩;have HB:=Z (HB.1.trans (((an _ _).trans (aZ.mono (by rw[jQ3];omega))).mono HB.1.size));clear aZ;have f1:=MW.1 _ HB.1;obtain⟨x0,x1,x2,x3,x4,x5,x6⟩:=ao f1;clear f1;go_wp2_with fail
  (try clear x0 x1 x2 x3 x4 x5 x6)
  go_ret;exact⟨rfl,dP.1.trans (HB.1.mono dP.1.size)⟩
 |true=>
  rintro e3 w3 ⟨rfl,aZ⟩;have HB:=Z (HB.1.trans (((an _ _).trans (aZ.mono (by rw[jQ3];omega))).mono HB.1.size));clear aZ;obtain rfl:=OR.1;obtain rfl:=HCMP.1;clear OR HCMP;have f1:=MW.1 _ HB.1;obtain⟨x0,x1,x2,x3,x4,x5,x6⟩:=ao f1;have HLT:=Z (jQ2 f1);clear f1;go_wp2_with fail;have hS:=Z (show∀w',Below w3.heap.size w3 w'->Below w3.heap.size w3 w'/\w'.cell? ⟨W.heap.size,0,none⟩=some (.int .i64 v.kind)/\w'.cell? ⟨W.heap.size,1,none⟩=some (.int .i64 v.n)/\w'.cell? ⟨W.heap.size,2,none⟩=some (.int .i64 v.m)/\w'.cell? ⟨W.heap.size,3,none⟩=some (.bool v.va)/\w'.cell? ⟨W.heap.size,4,none⟩=some (.string v.name)/\w'.cell? ⟨W.heap.size,5,none⟩=some (.string v.tag)/\w'.cell? ⟨W.heap.size,6,none⟩=some (.slice av v.elems.length cv)from λw' hb=>⟨hb,(hb.cell (p:=⟨W.heap.size,0,none⟩) HLT.1).trans x0,(hb.cell (p:=⟨W.heap.size,1,none⟩) HLT.1).trans x1,(hb.cell (p:=⟨W.heap.size,2,none⟩) HLT.1).trans x2,(hb.cell (p:=⟨W.heap.size,3,none⟩) HLT.1).trans x3,(hb.cell (p:=⟨W.heap.size,4,none⟩) HLT.1).trans x4,(hb.cell (p:=⟨W.heap.size,5,none⟩) HLT.1).trans x5,(hb.cell (p:=⟨W.heap.size,6,none⟩) HLT.1).trans x6⟩);refine jQ9 (S:=(λw'=>Below w3.heap.size w3 w'/\w'.cell? ⟨W.heap.size,0,none⟩=some (.int .i64 v.kind)/\w'.cell? ⟨W.heap.size,1,none⟩=some (.int .i64 v.n)/\w'.cell? ⟨W.heap.size,2,none⟩=some (.int .i64 v.m)/\w'.cell? ⟨W.heap.size,3,none⟩=some (.bool v.va)/\w'.cell? ⟨W.heap.size,4,none⟩=some (.string v.name)/\w'.cell? ⟨W.heap.size,5,none⟩=some (.string v.tag)/\w'.cell? ⟨W.heap.size,6,none⟩=some (.slice av v.elems.length cv))) g9 (hS.1 _ (jQ5 _ _).drew) (λai=>?_);refine t2 0 1 ?_;refine tk 2 ?_;refine rd 3 rfl λK hK=>?_;go_simp;have hh:=ai.1;clear ai;refine(C7.1 (by trivial) _ (HB.1.trans (hh.mono HB.1.size))).mono ?_;rintro eA wA ⟨rfl,eP⟩;have dI:=hh.trans (eP.mono hh.size);refine hK.out _ _ (hS.1 _ dI) (λai=>?_);clear hh eP dI;clear hK K;refine t4 4 5 6 7 ?_;refine t2 9 10 ?_;refine rd 8 rfl λK hK=>?_;go_simp;have hh:=ai.1;clear ai;refine(C6.1 (by trivial) _ (HB.1.trans (hh.mono HB.1.size))).mono ?_;rintro eA wA ⟨rfl,eP⟩;have dI:=hh.trans (eP.mono hh.size);refine hK.out _ _ (hS.1 _ dI) (λai=>?_);clear hh eP dI;clear hK K;refine rd 11 rfl λK hK=>?_;go_simp;have hh:=ai.1;clear ai;refine(C8.1 (by trivial) _ (HB.1.trans (hh.mono HB.1.size))).mono ?_;rintro eA wA ⟨rfl,eP⟩;have dI:=hh.trans (eP.mono hh.size);refine hK.out _ _ (hS.1 _ dI) (λai=>?_);clear hh eP dI;clear hK K;refine t2 12 13 ?_;refine tk 14 ?_;refine jQl g9 ?_ _;have hh:=ai.1;clear ai;go_wp2_with fail;go_ret;exact⟨by first|rfl|simp,dP.1.trans ((HB.1.trans (hh.mono HB.1.size)).mono dP.1.size)⟩
end Go.Proofs.YtabjfnkfocnklaaGreatDoor
