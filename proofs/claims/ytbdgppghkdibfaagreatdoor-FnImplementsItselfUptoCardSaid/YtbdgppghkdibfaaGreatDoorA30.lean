import Derived.Test.YtbdgppghkdibfaaGreatDoorA13
import Derived.Test.YtbdgppghkdibfaaGreatDoorA29
set_option linter.all false
set_option maxHeartbeats 16000000
set_option maxRecDepth 20000
namespace Go.Proofs.YtbdgppghkdibfaaGreatDoor
open Go Go.RowKit Go.Lib S P Go.Proofs.Tryz
variable{t v:Y}{Q:Y->Prop}{NS:List ByteArray}{ts:List Y}{cs rs:List Nat}{w:List ah}{K c k r:Nat}{a:Option Addr}{tv vv:Value}{W W':World}
mutual
theorem zx:∀t:Y,nds t=(ei t).length
 |.mk _ _ _ _ _ _ l=>by rw[nds,ei,Ik l];simp;omega
theorem Ik:∀l:List Y,ndss l=(fF l).length
 |[]=>by simp[ndss,fF]
 |e::l=>by rw[ndss,fF,zx e,Ik l];simp
end
theorem MS:∀l:List aH,mds l<=msz l
 |[]=>by simp[mds,msz]
 |m::l=>by rw[mds,msz,zx];have:=MS l;omega
theorem RI:∀l:List ah,uns l+DY l<=wsz l
 |[]=>by simp[uns,DY,wsz]
 |d::l=>by rw[uns,DY,wsz,zx];have:=RI l;have:=MS d.lw;omega
structure Small(w:List ah)(ts:List Y):Prop where
 sz:wsz w+(fF ts).length<=BD
 nw:∀d∈w,NBD d
 nt:∀t∈ts,NB t
theorem adt(h:Small w ts):∀s∈qu w ts,s.size<=9223372036854775807:=by
 intro s hs;unfold qu at hs;rcases jQn.1 hs with rfl|hs
 .decide
 rcases jQm.1 hs with hs|hs
 .have hw:∀(l:List ah),(∀d∈l,NBD d)->∀s∈RJ l,s.size<=9223372036854775807:=by
   intro l
   induction l with
   |nil=>intro _ s hs;simp[RJ]at hs
   |cons d l ih=>
    intro hl s hs;rw[RJ]at hs;have hd:=hl d i6;rcases jQm.1 hs with hs|hs
    .exact hd.1.1 s hs
    rcases jQm.1 hs with hs|hs
    .have hm:∀(l:List aH),(∀m∈l,NB m.sig)->∀s∈VQ l,s.size<=9223372036854775807:=by
      intro l
      induction l with
      |nil=>intro _ s hs;simp[VQ]at hs
      |cons m l ih=>
       intro hl s hs;rw[VQ]at hs;rcases jQm.1 hs with hs|hs
       .exact(hl m i6).1 s hs
       .exact ih (λm' h'=>hl m' (by simp[h'])) s hs
     exact hm _ (λm hm=>(hd.2 m hm).1) s hs
    .exact ih (λd' h'=>hl d' (by simp[h'])) s hs
  exact hw w h.nw s hs
 .have ht:∀(l:List Y),(∀t∈l,NB t)->∀s∈fF l,s.size<=9223372036854775807:=by
   intro l
   induction l with
   |nil=>intro _ s hs;simp[fF]at hs
   |cons d l ih=>
    intro hl s hs;rw[fF]at hs;rcases jQm.1 hs with hs|hs
    .exact(hl d i6).1 s hs
    .exact ih (λd' h'=>hl d' (by simp[h'])) s hs
  exact ht ts h.nt s hs
theorem adu(h:Small w ts)(hv:VR (qu w ts) w):IE (qu w ts) (QD w BD) w (gZ w) (mP w) BR BR:=by
 have hB:=Fe h.sz;obtain⟨e1,e2,e3,e4⟩:=z8;have agF:str [69,114,114,111,114]∈qu w ts:=by simp[qu]
 have KM:=adv hB hv;have hr:∀n,(gZ w).getD n 0<BN:=λn=>by have:=uK w n;have:=hB.nn;omega
 refine⟨⟨adw agF M,KM,adx,ady,hB.len⟩,adz,adA hv,jQ0 _,M,λt j hk=>?_,?_,?_,λn=>?_,λhp d hd=>?_,?_,?_,adt h⟩
 .have:=adB (v:=false) (f:=false) hB j hk;omega
 .rw[aa2];omega
 .have:=zy (t:=fC) hB (by simp[fC,dp,dps];omega) false false;omega
 .have:=hr n;omega
 .have nY:=hv hp d hd;have ho:=KM.ok.ok hp d trivial hd;exact⟨⟨nY.k1,nY.k3,nY.k2⟩,ho.1.ww.eS (jQ0 _) (λ_ h=>h) M id id,hB.ml d (jQ8 hd),λm hm=>⟨(nY.sig m hm).1,(nY.sig m hm).2.1,(ho.2 m hm).ww.eS (jQ0 _) (λ_ h=>h) M id id⟩,nY.nd⟩
 .have:=RI w;have:=h.sz;omega
 .have:=(zz w).2;have:=h.sz;omega
theorem ZI(h:Small w ts)(ht:t∈ts)(v f:Bool):2*J (gZ w) v f t+1<BR:=by
 have:=zy (Fe h.sz) (Aa h.sz ht) v f;obtain⟨e1,e2,e3,e4⟩:=z8;omega
theorem D1(h:Small w ts)(ht:t∈ts):nds t<=1099511627776:=by
 have I:(ei t).length<=(fF ts).length:=wZ ht;have:=h.sz;obtain⟨e1,e2,e3,e4⟩:=z8;rw[zx];omega
theorem adC(h:Small w [v]):∃r1:Bool,fy (valid (BK+1) w) (nZ (BK+1) w [v])=some r1/\(r1=true->VR (qu w [v]) w/\Il (qu w [v]) w v/\isIface w v=some true):=by
 have hB:=Fe h.sz;have Ff:ON (qu w [v]) w BN BD (BK+1):=⟨hB.err,hB.len,hB.nm,hB.ml,hB.dd,hB.nn,by have:=hB.kk;omega,hB.big⟩;obtain⟨b1,I,U⟩:=OO Ff;rw[I];cases b1 with
 |false=>exact⟨false,rfl,λe=>(by cases e)⟩
 |true=>
  have hv:=U rfl;obtain⟨b2,h3,h4⟩:=Fg Ff hv (l:=[v]) (by intro x H;simp at H;subst H;exact⟨RK i6,Aa h.sz i6⟩);rw[h3];exact⟨b2,by simp[fy],λe1=>⟨hv,h4 e1 v i6⟩⟩
abbrev sJ:Y:=.mk 14 0 0 false es es []
theorem MU:az w sJ=fD:=by
 have h:una sJ=fD:=by rw[sJ,hZ];rfl
 unfold az;rw[h];rfl
theorem impl_any14{con:Bool}:impl (fs w (k+1)) w v sJ con=true:=Xa MU (aa3 w k) con
theorem und_any_if:isIf (az w sJ)=true:=by rw[MU];rfl
theorem free_calls{DI:Qx}(h:IE NS Q w rs cs K r)(hW:WH DI w a c W)(hv:RT DI W v vv)(pv:PT NS Q w 0 v)(hiv:isIf (az w v)=true)(r1:2*J rs true false v+1<r)(r3:2*J rs true false sJ+1<r)(nv:nds v<=1099511627776):
 Calls prog 6 #[.slice a w.length c,vv] W λe W'=>e=.returned (.bool true)/\Below W.heap.size W W':=by
 obtain⟨k,rfl⟩:∃k,K=k+1:=⟨K - 1,by have:=h.K1;omega⟩;have qj:=hv;obtain⟨av,cv,rfl, -⟩:=hv.bR;have cX:=an W (bx v av cv);have hc:=wW (t:=sJ) (tv:=.agg #[.int .i64 14,.int .i64 0,.int .i64 0,.bool false,.string es,.string es,.slice none 0 0]) h (hW.mv cX) (hW.rt cX qj) (ki.2 ⟨_,rfl,ia.2 ⟨none,0,rfl,λ_=>rfl⟩⟩) pv (.uni (.inl rfl)) und_any_if hiv impl_any14 r1 r3 nv (by simp[sJ,nds,ndss]);obtain⟨x0,x1,x2,x3,x4,x5,x6⟩:=ao (ak W (bx v av cv));have dP:=Z cX;clear h hW hv qj pv hiv r1 r3 nv cX;go_in;go_wp2_with fail;clear x0 x1 x2 x3 x4 x5 x6;refine hc.mono ?_;rintro e w1 ⟨rfl,hb⟩;have HB:=Z (dP.1.trans (hb.mono dP.1.size));clear hc hb;go_wp2;go_ret;exact⟨rfl,HB.1⟩
theorem OQ(h:Small w [v])(hW:WH (Old W) w a c W)(hv:RT (Old W) W v vv)(fv:v.name.size<=2147483647/\v.gc.size<=2147483647/\v.li.length<=2147483647):
 Calls prog 3 #[.slice a w.length c,vv] W λe W'=>e=.returned (.bool true)/\Below W.heap.size W W':=by
 obtain⟨r1,fP,bD⟩:=adC h;have dU:=z8;have hwl:w.length<=1048576:=by have:=(zz w).2;have:=h.sz;omega
 have qj:=hv;obtain⟨av,cv,rfl,VS⟩:=hv.bR;have cX:=an W (bx v av cv);have sj:=hW.mv cX;have dt:(W.alloc (bx v av cv)).heap[W.heap.size]?=some (bx v av cv):=ak W (bx v av cv);have fx:=hW.rt cX qj;have hk:((BK+1:Nat):Int)+1<=1125899906842624:=M
 have hold:∀O,Below (W.alloc (bx v av cv)).heap.size (W.alloc (bx v av cv)) O->∀o,WH (Old W) w a c O/\Cx (Old (O.alloc o)) w (.slice a w.length c) (O.alloc o):=λO hb o=>by
  have I:=sj.mv hb;refine⟨I,λb hb=>hb,(I.mv (an O o)).rd.wide λb dD=>?_⟩;have e1:=cX.size;have e2:=hb.size;have e3:(O.alloc o).heap.size=O.heap.size+1:=jQ3 _ _;show b<(O.alloc o).heap.size;have:b<W.heap.size:=dD;omega
 have RL:∀(x:Y) (a':Option Addr) (c':Nat),(∀O,Below (W.alloc (bx v av cv)).heap.size (W.alloc (bx v av cv)) O->RT (Old W) O x (.agg #[.int .i64 x.ld,.int .i64 x.n,.int .i64 x.m,.bool x.va,.string x.name,.string x.gc,.slice a' x.li.length c']))->∀O,Below (W.alloc (bx v av cv)).heap.size (W.alloc (bx v av cv)) O->RS (Old (O.alloc (bx x a' c'))) (O.alloc (bx x a' c')) [x] (.slice (some ⟨O.heap.size,0,none⟩) 1 1):=λx a' c' Fh O hb=>by
  have e1:=cX.size;have e2:=hb.size;have e3:(O.alloc (bx x a' c')).heap.size=O.heap.size+1:=jQ3 _ _;obtain⟨a2,c2,e,hs⟩:=(Fh O hb).bR;simp at e;obtain⟨rfl,rfl⟩:=e;have hm:au (Old W) (Old (O.alloc (bx x a' c'))) O (O.alloc (bx x a' c')):=λb dD=>⟨(by have:b<W.heap.size:=dD;show b<(O.alloc (bx x a' c')).heap.size;omega),(an O _).block b (by have:b<W.heap.size:=dD;omega)⟩;exact gQ.2 ⟨O.heap.size,0,1,rfl,jQ0 _,M,(by show O.heap.size<(O.alloc (bx x a' c')).heap.size;omega),RE.mk' (hs.move hm) (ak _ _),by rw[RC];trivial⟩
 have W8:∀O,Below (W.alloc (bx v av cv)).heap.size (W.alloc (bx v av cv)) O->RT (Old W) O v (.agg #[.int .i64 v.ld,.int .i64 v.n,.int .i64 v.m,.bool v.va,.string v.name,.string v.gc,.slice av v.li.length cv]):=λO hb=>sj.rt hb fx;obtain⟨MW,C1,C3⟩:=Z3 (show∀O,Below (W.alloc (bx v av cv)).heap.size (W.alloc (bx v av cv)) O->O.heap[W.heap.size]?=some (bx v av cv)from λO hb=>aj hb dt (jQ2 dt)) (λO hb=>Ab v _ O (Old W) fv.1 fv.2.1 fv.2.2 (W8 O hb)) (λO hb=>KO (BK+1) hk w _ [v] r1 _ _ _ fP h.nw (λe he=>by simp at he;subst he;exact h.nt _ i6) (hold O hb (bx v av cv)).2 (RL v av cv W8 O hb));have Im:r1=true->IE (qu w [v]) (QD w BD) w (gZ w) (mP w) BR BR/\PT (qu w [v]) (QD w BD) w 0 v/\isIf (az w v)=true:=λe1=>by
  obtain⟨k1,k2,k3⟩:=bD e1;have hE:=adu h k1;have j:=ZJ k2 (Aa h.sz (by simp:v∈[v]));have hi:=yj hE.env.wk hE.env.qp j;rw[k3]at hi;exact⟨hE,j,(jQw hi).symm⟩
 have rv:=λa b=>ZI (t:=v) h i6 a b;have nv:=D1 (t:=v) h i6;have hj:2*J (gZ w) true false sJ+1<BR:=by
  have:=zy (Fe h.sz) (t:=sJ) (by rw[sJ,dp,dps];omega) true false;omega
 have C7:=Z (λ(e1:r1=true) O hb=>free_calls (Im e1).1 (hold O hb (bx v av cv)).1 (W8 O hb) (Im e1).2.1 (Im e1).2.2 (rv true false) hj nv);have C8:=Z (λ(e1:r1=true) O hb=>wW (Im e1).1 (hold O hb (bx v av cv)).1 (W8 O hb) (W8 O hb) (Im e1).2.1 (Im e1).2.1 (Im e1).2.2 (Im e1).2.2 (impl_self (Im e1).1.env.wk (Im e1).1.env.qp (Im e1).1.rK (Im e1).2.1 (Im e1).2.2 (rv true false)) (rv true false) (rv true false) nv nv);have MY:((2147483647:Int)<(w.length:Int))=False:=eq_false M;have dP:=Z cX;have HZ:=Z dt;clear fP bD dU hwl qj hv VS hW sj dt fx hk hold RL W8 Im hj rv nv cX fv h;go_in;go_wp2_with fail;generalize W.alloc (bx v av cv)=w2 at dP HZ MW C1 C3 C7 C8⊢;have HB:=Z (jQ5 w2.heap.size w2);refine(C1.1 _ HB.1).mono ?_;rintro e3 w3 ⟨rfl,aZ⟩;have HB:=Z (HB.1.trans (aZ.mono HB.1.size));clear aZ;have f1:=MW.1 _ HB.1;obtain⟨x0,x1,x2,x3,x4,x5,x6⟩:=ao f1;clear f1;go_wp2_with fail
 (try clear x0 x1 x2 x3 x4 x5 x6)
 refine(C3.1 _ HB.1).mono ?_;cases r1 with
 |false=>
  rintro e3 w3 ⟨rfl,aZ⟩;have HB:=Z (HB.1.trans (((an _ _).trans (aZ.mono (by rw[jQ3];omega))).mono HB.1.size));clear aZ;have f1:=MW.1 _ HB.1;obtain⟨x0,x1,x2,x3,x4,x5,x6⟩:=ao f1;clear f1;go_wp2_with fail
  (try clear x0 x1 x2 x3 x4 x5 x6)
  go_ret;exact⟨rfl,dP.1.trans (HB.1.mono dP.1.size)⟩
 |true=>
  rintro e3 w3 ⟨rfl,aZ⟩;have HB:=Z (HB.1.trans (((an _ _).trans (aZ.mono (by rw[jQ3];omega))).mono HB.1.size));clear aZ;have f1:=MW.1 _ HB.1;obtain⟨x0,x1,x2,x3,x4,x5,x6⟩:=ao f1;clear f1;go_wp2_with fail
  (try clear x0 x1 x2 x3 x4 x5 x6)
  refine(C7.1 (by trivial) _ HB.1).mono ?_;rintro e3 w3 ⟨rfl,aZ⟩;have HB:=Z (HB.1.trans (aZ.mono HB.1.size));clear aZ;have f1:=MW.1 _ HB.1;obtain⟨x0,x1,x2,x3,x4,x5,x6⟩:=ao f1;clear f1;go_wp2_with fail
  (try clear x0 x1 x2 x3 x4 x5 x6)
  refine(C8.1 (by trivial) _ HB.1).mono ?_;rintro e3 w3 ⟨rfl,aZ⟩;have HB:=Z (HB.1.trans (aZ.mono HB.1.size));clear aZ;go_wp2_with fail
  go_ret;exact⟨by first|rfl|simp,dP.1.trans (HB.1.mono dP.1.size)⟩
end Go.Proofs.YtbdgppghkdibfaaGreatDoor
