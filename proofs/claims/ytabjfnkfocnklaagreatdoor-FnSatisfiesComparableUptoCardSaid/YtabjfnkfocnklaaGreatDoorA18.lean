import Derived.Test.YtabjfnkfocnklaaGreatDoorA17
set_option linter.all false
set_option maxHeartbeats 16000000
set_option maxRecDepth 20000
namespace Go.Proofs.YtabjfnkfocnklaaGreatDoor
open Go Go.RowKit Go.Lib S P Tryz
variable{aO σ:BS}{B:Bl}{e s t:GT}{Q:GT->Prop}{NS:List ByteArray}{cs ds os rs:List Nat}{ps xs:List Value}{l:List aH}{w:List ah}{K N b base bb cb d eb j n ob oc oe pk r:Nat}{obj st st':Nat->Nat}{D D' DI:Nat->Prop}{Y:Prop}{S':Sg}{dv ms p ut v v' xX:Value}{W W' W0 W1 W2 W3 W4 W5 W6 W7 gG wr:World}{m:aH}
theorem M14(h:Y:=by
 go_enter func33,ntmps33;go_wp2_with (go_at_call 86;refine(aQ _ _ _).mono ?_;rintro e w1 ⟨rfl,rfl⟩);refine ag.mono ?_;rintro e w1 ⟨rfl,ar⟩;have HB:=Z (HC.1.trans (ar.mono HC.1.size));clear ar ag;exact M84):Y:=h
theorem M146(h:Y:=by
 rw[Array.getElem?_push,jQ4 m9]):Y:=h
theorem M19(h:Y:=by
 go_enter func33,ntmps33;go_wp2_with (go_at_call 86;refine(aQ _ _ _).mono ?_;rintro e w1 ⟨rfl,rfl⟩);go_ret;exact⟨rfl,HC.1⟩):Y:=h
theorem M59(h:Y:=by
 by_cases g4:t.kind=4
 ·have k4:(t.kind==4)=true:=by simp[g4]
  clear h4 g4 hl;exact M19
 ·have k4:(t.kind==4)=false:=by simp[g4]
  by_cases g6:t.kind=6
  ·have k6:(t.kind==6)=true:=by simp[g6]
   clear h4 g4 g6 hl;exact M19
  ·have k6:(t.kind==6)=false:=by simp[g6]
   have k9:(t.kind==9)=true:=by simp;omega
   clear h4 g4 g6 hl;exact M19):Y:=h
section
variable{S:Sg}
abbrev U7(pk eb:Nat)(cv:Value):Array Value:=#[ptr pk,.slice none 0 0,.iface 53 (ptr eb),cv,.slice none 0 0]
structure BP(w:List ah)(K:Nat)(gG W:World)(S:Sg)(D:Nat->Prop)(bb pk eb cb oe oc:Nat):Prop where
 th:TH w K S D W
 jl:W.heap[bb]?=some (.cells (U7 pk eb (.iface 53 (ptr cb))) 58 (0,0))
 Yo:S bb=none/\¬D bb
 pkd:D pk/\∃p q,W.heap[pk]?=some (.cells #[.string p,.string q] 83 (0,0))
 se:S eb=some oA
 sc:S cb=some sE
 ne:fe w S D W eb oe oA
 nc:fe w S D W cb oc sE
 only:∀b s,S b=some s->cI s->(b=eb/\s=oA)\/(b=cb/\s=sE)
 ifs:∀b s,S b=some s->isIf s=true->s=aG fC\/s=aG da
 low:∀b s,S b=some s->gG.heap.size<=b
 jJ:Below gG.heap.size gG W
 bb0:gG.heap.size<=bb
 oo:oe≠oc
theorem fe.vT(hS:EH S S')(hm:au D D' W W')(hb:W'.heap[b]?=W.heap[b]?)(dA:s.kind≠11)(h:fe w S D W b ob s):fe w S' D' W' b ob s:=by
 obtain⟨ut,ms,ps,h1,h2,h3,h4,h5⟩:=h;rw[jQ4 dA]at h4;exact⟨ut,ms,ps,hb.trans h1,h2.mono hS,h3.move hm,by
  rw[jQ4 dA];cases ps with
  |nil=>trivial
  |cons _ _=>exact h4.elim,h5.move hm⟩
theorem afC(hK:1<=K){p q nm:ByteArray}(hE:adT w K S D (gG.alloc (.cells #[.string p,.string q] 83)) W2 eb oe)(hoe:oe<W2.heap.size)(h6:Mq (oS ((W2.alloc (.cells (U7 gG.heap.size eb .nilIface) 58)).alloc (.cells #[.int .i64 0,.pointer none,.string nm,.nilIface] 117)) true) (W2.heap.size+1) (.iface 33 (ptr (W2.heap.size+5))) (.int .i64 0) (.pointer none) (.string nm)
  (.cells #[.pointer none,ptr (W2.heap.size+1),.bool false,.int .i32 0,.int .u32 0,.int .u32 15,.iface 33 (ptr (W2.heap.size+5)),.iface 33 (ptr (W2.heap.size+5)),.bool false,.slice none 0 0] 113) (.returned v) W6)(hp:kT W2.heap.size (U7 gG.heap.size eb (.iface 53 (ptr (W2.heap.size+6)))) 58 W6 W7):
 ∃S' D',BP w K gG W7 S' D' W2.heap.size gG.heap.size eb (W2.heap.size+6) oe (W2.heap.size+1):=by
 obtain⟨W4,hW4⟩:∃x,x=(W2.alloc (.cells (U7 gG.heap.size eb .nilIface) 58)).alloc (.cells #[.int .i64 0,.pointer none,.string nm,.nilIface] 117):=⟨_,rfl⟩;rw[<-hW4]at h6;have z4:W4.heap.size=W2.heap.size+2:=by rw[hW4,jQ3,jQ3]
 have ah3:Below W2.heap.size W2 W4:=by rw[hW4];exact(an W2 _).trans ((an _ _).mono (by rw[jQ3];omega))
 obtain⟨ah4,t0,t1,t2,t3⟩:=pQ W4 true;have z5:(oS W4 true).heap.size=W4.heap.size+4:=by simp[oS,allocs]
 have Qu:=ah3.trans (ah4.mono m9);have z2:=hE.jJ.size;rw[jQ3]at z2;obtain⟨-,g1,g2,g3,g4,g5,g6,g7⟩:=h6;rw[z5]at g1 g5 g6 g7;have z7:=hp.size;have JX:∀b,b<W2.heap.size->W7.heap[b]?=W2.heap[b]?:=λb hb=>(hp.other b m9).trans ((g7 b m9 m9).trans (Qu.block b hb));have ah5:=hE.th.cR (W':=oS W4 true) m9 (λb s hs=>Qu.block b (hE.th.lI b s hs)) (λb hd=>Qu.block b (hE.th.mT b hd));have KH:∀b,W2.heap.size<=b->S b=none:=λb hb=>by
  cases hs:S b with
  |none=>rfl
  |some s=>have:=hE.th.lI b s hs;omega
 have hD2:∀b,W2.heap.size<=b->¬D b:=λb hb hd=>by have:=hE.th.mT b hd;omega
 have hc:=acw (z:=W4.heap.size) ah5 hK (λb hb=>KH b m9) (λb hb=>hD2 b m9) t0 t1 t2 t3;have hS3:∀b,b≠W4.heap.size+3->W2.heap.size<=b->cE S (W4.heap.size+3) (aG da) b=none:=λb hb h=>by unfold cE;rw[jQ4 hb];exact KH b h
 have Lf:=hc.cR (W':=W7) m9 (λb s hs=>by
  have bk:b≠W2.heap.size/\b≠W2.heap.size+1:=⟨λe=>(by rw[e,hS3 _ m9 m9]at hs;cases hs),λe=>(by rw[e,hS3 _ m9 m9]at hs;cases hs)⟩;have:=hc.lI b s hs;exact(hp.other b bk.1).trans (g7 b m9 bk.2)) (λb hd=>by
  have aM:=hc.mT b hd;have bk:b≠W2.heap.size/\b≠W2.heap.size+1:=by
   obtain hd|hd:=hd
   ·have:=hE.th.mT b hd;omega
   ·omega
  exact(hp.other b bk.1).trans (g7 b m9 bk.2))
 rw[show W4.heap.size+4=W2.heap.size+6 by omega]at g5;have Rv:=(hp.other (W2.heap.size+6) m9).trans g5;have hoc:W7.heap[W2.heap.size+1]?=_:=(hp.other _ m9).trans g6;have Hm:W7.heap[gG.heap.size]?=some (.cells #[.string p,.string q] 83 (0,0)):=(JX _ m9).trans ((hE.jJ.block _ (by rw[jQ3];omega)).trans (ak _ _));have ah6:S gG.heap.size=none:=by
  cases hs:S gG.heap.size with
  |none=>rfl
  |some s=>have:=hE.low _ s hs;rw[jQ3]at this;omega
 have afD:cE S (W4.heap.size+3) (aG da) gG.heap.size=none:=by unfold cE;rw[jQ4 m9];exact ah6
 have hd8:=Lf.lW (λb=>b=W2.heap.size+1\/b=gG.heap.size) (λb hb=>by
  obtain rfl|rfl:=hb
  ·exact⟨m9,hS3 _ m9 m9,_,_,_,hoc⟩
  ·exact⟨m9,afD,_,_,_,Hm⟩)
 have afE:=hS3 (W2.heap.size+6) m9 m9;have hn9:=hd8.aaO (b:=W2.heap.size+6) (s:=sE) (.inr (.inr rfl)) afE (λhd=>by
  rcases hd with(hd|hd)|hd
  ·exact hD2 _ m9 hd
  ·omega
  ·omega) Rv
 have l1:=fG (s:=aG da) (KH (W4.heap.size+3) m9);have l2:=fG (s:=sE) afE;have hl:=λb s (h:S b=some s)=>l2 b s (l1 b s h);have eR:au D (λb=>(D b\/(W4.heap.size<=b/\b<W4.heap.size+3))\/(b=W2.heap.size+1\/b=gG.heap.size)) W2 W7:=λb hd=>⟨.inl (.inl hd),JX b (hE.th.mT b hd)⟩;refine⟨_,_,hn9,hp.here,⟨?_,?_⟩,⟨.inr (.inr rfl),p,q,Hm⟩,hl _ _ hE.sb,fH _ _ _,hE.nm.vT hl eR (JX _ (hE.th.lI _ _ hE.sb)) i5,⟨.iface 33 (ptr (W2.heap.size+5)),.slice none 0 0,[],Rv,⟨W2.heap.size+5,rfl,l2 _ _ (by rw[show W2.heap.size+5=W4.heap.size+3 by omega];exact fH _ _ _)⟩,.inl ⟨rfl,none,0,rfl,λ_=>rfl⟩,trivial,.inr (.inl rfl),0,none,nm,_,hoc,.inl rfl⟩,λb s hs hn=>?_,λb s hs hi=>?_,λb s hs=>?_,?_,m9,m9⟩
 ·unfold cE;rw[jQ4 m9,jQ4 m9];exact KH _ m9
 ·intro hd;rcases hd with(hd|hd)|hd
  ·exact hD2 _ m9 hd
  ·omega
  ·omega
 ·rcases dV hs with h|⟨-,h⟩
  ·exact .inr h
  ·rcases dV h with⟨-,rfl⟩|⟨-,h⟩
   ·have hk:(aG da).kind=17:=rfl;unfold cI at hn;omega
   ·exact .inl (hE.only b s h hn)
 ·rcases dV hs with⟨-,rfl⟩|⟨-,h⟩
  ·cases hi
  ·rcases dV h with⟨-,rfl⟩|⟨-,h⟩
   ·exact .inr rfl
   ·exact .inl (hE.ifs b s h hi)
 ·rcases dV hs with⟨rfl, -⟩|⟨-,h⟩
  ·omega
  ·rcases dV h with⟨rfl, -⟩|⟨-,h⟩
   ·omega
   ·have:=hE.low b s h;rw[jQ3]at this;omega
 ·have hE0:Below gG.heap.size gG W2:=(an gG _).trans (hE.jJ.mono (by rw[jQ3];omega));exact⟨hp.os.trans (g2.trans (Qu.os.trans hE0.os)),hp.tape.trans (g3.trans (Qu.tape.trans hE0.tape)),hp.output.trans (g4.trans (Qu.output.trans hE0.output)),m9,λb hb=>(JX b m9).trans (hE0.block b hb)⟩
end
section
variable{S:Sg}
abbrev bbD(pk eb cb:Nat)(dv:Value):Array Value:=#[ptr pk,dv,.iface 53 (ptr eb),.iface 53 (ptr cb),.slice none 0 0]
structure BL(w:List ah)(K:Nat)(gG W:World)(S:Sg)(D:Nat->Prop)(bb pk eb cb oe oc:Nat)(ds os:List Nat)(dv:Value):Prop where
 th:TH w K S D W
 jl:W.heap[bb]?=some (.cells (bbD pk eb cb dv) 58 (0,0))
 Yo:S bb=none/\¬D bb
 pkd:D pk/\∃p q,W.heap[pk]?=some (.cells #[.string p,.string q] 83 (0,0))
 se:S eb=some oA
 sc:S cb=some sE
 ne:fe w S D W eb oe oA
 nc:fe w S D W cb oc sE
 only:∀b s,S b=some s->cI s->(b=eb/\s=oA)\/(b=cb/\s=sE)\/∃j,ds[j]?=some b/\s=r9 j
 ifs:∀b s,S b=some s->isIf s=true->s=aG fC\/s=aG da
 low:∀b s,S b=some s->gG.heap.size<=b
 jJ:Below gG.heap.size gG W
 bb0:gG.heap.size<=bb
 oo:oe≠oc
 own:W.ownsRow gG.heap.size 53 1 dv (ds.map ptr).length (ds.map ptr)
 gY:∀g,dv.ownBlock=some g->S g=none/\¬D g/\g≠bb
 len:os.length=ds.length
 dec:∀(j d:Nat),ds[j]?=some d->∃ob nm,os[j]?=some ob/\S d=some (r9 j)/\W.heap[d]?=some (yQ ob true)/\D ob/\W.heap[ob]?=some (.cells #[.int .i64 0,ptr pk,.string nm,.iface 53 (ptr d)] 117 (0,0))
 L3:∀(j:Nat) (ob:Nat),os[j]?=some ob->ob≠oe/\ob≠oc/\D ob
 oi:∀(i j ob:Nat),os[i]?=some ob->os[j]?=some ob->i=j
 od:D oe/\D oc
theorem BP.bl(h:BP w K gG W S D bb pk eb cb oe oc):BL w K gG W S D bb pk eb cb oe oc [] [] (.slice none 0 0):=by
 have ho1:D oe:=by obtain⟨_,_,_,_,_,_,_,ho⟩:=h.ne;exact ho.1
 have CL:D oc:=by obtain⟨_,_,_,_,_,_,_,ho⟩:=h.nc;exact ho.1
 exact⟨h.th,h.jl,h.Yo,h.pkd,h.se,h.sc,h.ne,h.nc,λb s hs hn=>(h.only b s hs hn).imp id .inl,h.ifs,h.low,h.jJ,h.bb0,h.oo,jR9 _ _ _ _,λg hg=>by simp[Value.ownBlock]at hg,rfl,λj d hd=>by simp at hd,λj ob ho=>by simp at ho,λi j ob ho=>by simp at ho,ho1,CL⟩
theorem BL.step(h:BL w K gG W S D bb pk eb cb oe oc ds os dv){nm:ByteArray}(h2:Ni (W.alloc (.cells #[.int .i64 0,ptr pk,.string nm,.nilIface] 117)) W.heap.size true (.int .i64 0) (ptr pk) (.string nm) (.returned v) W2)(hg:(W2.alloc (.cells #[ptr (W.heap.size+1)] 53)).grownBy W4 dv.ownBlock)(aL:W4.ownsRow gG.heap.size 53 1 v' (ds.map ptr++[ptr (W.heap.size+1)]).length (ds.map ptr++[ptr (W.heap.size+1)]))(hv:v'.ownBlock=dv.ownBlock\/v'.ownBlock=some (W.heap.size+3))(hp:kT bb (bbD pk eb cb v') 58 W4 W5):
 ∃S' D',BL w K gG W5 S' D' bb pk eb cb oe oc (ds++[W.heap.size+1]) (os++[W.heap.size]) v':=by
 obtain⟨-,g1,g2,g3,g4,g5,g6,g7⟩:=h2;rw[jQ3]at g1 g5 g6 g7;have z4:=hg.size;rw[jQ3]at z4;have z5:=hp.size;have j6:=jQ2 h.jl;have hz00:=h.jJ.size;have hold:∀b,b<W.heap.size->b≠bb->dv.ownBlock≠some b->W5.heap[b]?=W.heap[b]?:=λb hb h1 h2=>by
  refine(hp.other b h1).trans ((hg.block b (by rw[jQ3];omega) λe=>h2 e.symm).trans ?_);refine Eq.trans ?_ ((g7 b m9 m9).trans ?_)
  ·show(W2.heap.push _)[b]?=_;exact M146
  ·show(W.heap.push _)[b]?=_;exact M146
 have afw:∀b,b<W2.heap.size->W.heap.size<=b->W5.heap[b]?=W2.heap[b]?:=λb hb h1=>by
  refine(hp.other b m9).trans ((hg.block b (by rw[jQ3];omega) λe=>?_).trans ?_)
  ·have:=(aC h.own b e.symm).2.1;omega
  ·show(W2.heap.push _)[b]?=_;exact M146
 have hS:∀b s,S b=some s->W5.heap[b]?=W.heap[b]?:=λb s hs=>hold b (h.th.lI b s hs) (λe=>by have:=h.Yo.1;rw[<-e,hs]at this;cases this) λe=>by have:=(h.gY b e).1;rw[hs]at this;cases this
 have hD:∀b,D b->W5.heap[b]?=W.heap[b]?:=λb hd=>hold b (h.th.mT b hd) (λe=>h.Yo.2 (e▸hd)) λe=>(h.gY b e).2.1 hd;have KS:au D D W W5:=λb hb=>⟨hb,hD b hb⟩;have hSn:∀b,W.heap.size<=b->S b=none:=λb hb=>by
  cases hs:S b with
  |none=>rfl
  |some s=>have:=h.th.lI b s hs;omega
 have hDn:∀b,W.heap.size<=b->¬D b:=λb hb hd=>by have:=h.th.mT b hd;omega
 have Nj:W5.heap[W.heap.size]?=some (.cells #[.int .i64 0,ptr pk,.string nm,.iface 53 (ptr (W.heap.size+1))] 117 (0,0)):=(afw _ m9 m9).trans g6;have uw:W5.heap[W.heap.size+1]?=some (yQ W.heap.size true):=(afw _ m9 m9).trans g5;have t1:=(h.th.cR (W':=W5) m9 hS hD).lW (λb=>b=W.heap.size) (λb hb=>by subst hb;exact⟨m9,hSn _ m9,_,_,_,Nj⟩);have t2:=t1.aaO (b:=W.heap.size+1) (s:=r9 ds.length) (.inl rfl) (hSn _ m9) (λhd=>hd.elim (hDn _ m9) λe=>m9) uw;have hl:=fG (s:=r9 ds.length) (hSn (W.heap.size+1) m9);have eR:au D (λb=>D b\/b=W.heap.size) W W5:=λb hb=>⟨.inl hb,hD b hb⟩;have hvn:∀g,v'.ownBlock=some g->g≠W.heap.size/\g≠W.heap.size+1/\g≠bb/\S g=none/\¬D g:=λg nG=>by
  obtain hv|hv:=hv
  ·rw[hv]at nG;have:=(aC h.own g nG).2.1;obtain⟨q1,q2,q3⟩:=h.gY g nG;exact⟨m9,m9,q3,q1,q2⟩
  ·rw[hv]at nG;cases nG;exact⟨m9,m9,m9,hSn _ m9,hDn _ m9⟩
 refine⟨_,_,t2,hp.here,⟨by unfold cE;rw[jQ4 m9];exact h.Yo.1,λhd=>hd.elim h.Yo.2 λe=>m9⟩,⟨.inl h.pkd.1,?_⟩,hl _ _ h.se,hl _ _ h.sc,h.ne.vT hl eR (hS _ _ h.se) i5,h.nc.vT hl eR (hS _ _ h.sc) i5,λb s hs hn=>?_,λb s hs hi=>?_,λb s hs=>?_,?_,h.bb0,h.oo,?_,λg nG=>?_,?_,λj d hd=>?_,λj ob ho=>?_,λi j ob hi hj=>?_,.inl h.od.1,.inl h.od.2⟩
 ·obtain⟨p,q,Hm⟩:=h.pkd.2;exact⟨p,q,(hD _ h.pkd.1).trans Hm⟩
 ·rcases dV hs with⟨rfl,rfl⟩|⟨-,h1⟩
  ·exact .inr (.inr ⟨ds.length,i6,rfl⟩)
  ·rcases h.only b s h1 hn with k|k|⟨j,k,k'⟩
   ·exact .inl k
   ·exact .inr (.inl k)
   ·exact .inr (.inr ⟨j,by rw[jQq (jQg.1 k).1];exact k,k'⟩)
 ·rcases dV hs with⟨-,rfl⟩|⟨-,h1⟩
  ·cases hi
  ·exact h.ifs b s h1 hi
 ·rcases dV hs with⟨rfl, -⟩|⟨-,h1⟩
  ·omega
  ·exact h.low b s h1
 ·refine⟨?_,?_,?_,m9,λb hb=>(hold b m9 (by have:=h.bb0;omega) λe=>?_).trans (h.jJ.block b hb)⟩
  ·exact hp.os.trans (hg.os.trans (g2.trans h.jJ.os))
  ·exact hp.tape.trans (hg.tape.trans (g3.trans h.jJ.tape))
  ·exact hp.output.trans (hg.output.trans (g4.trans h.jJ.output))
  ·have:=(aC h.own b e).1;omega
 ·rw[List.map_append];exact cD aL λg nG=>hp.other g (hvn g nG).2.2.1
 ·obtain⟨q1,q2,q3,q4,q5⟩:=hvn g nG;exact⟨by unfold cE;rw[jQ4 q2];exact q4,λhd=>hd.elim q5 q1,q3⟩
 ·rw[jQo,jQo,h.len];rfl
 ·by_cases hj:j<ds.length
  ·rw[jQq hj]at hd;obtain⟨ob,Wf,k1,k2,k3,k4,k5⟩:=h.dec j d hd;exact⟨ob,Wf,by rw[jQq (by rw[h.len];exact hj)];exact k1,hl _ _ k2,(hS _ _ k2).trans k3,.inl k4,(hD _ k4).trans k5⟩
  ·rw[jQr m9]at hd;have hj0:j - ds.length=0:=by
    rcases Nat.eq_zero_or_pos (j - ds.length)with h0|h0
    ·exact h0
    ·rw[jQx (by simp;omega)]at hd;cases hd
   rw[hj0]at hd;simp at hd;subst hd;have hj1:j=ds.length:=m9
   subst hj1;exact⟨W.heap.size,nm,by rw[<-h.len];simp,fH _ _ _,uw,.inr rfl,Nj⟩
 ·by_cases hj:j<os.length
  ·rw[jQq hj]at ho;obtain⟨k1,k2,k3⟩:=h.L3 j ob ho;exact⟨k1,k2,.inl k3⟩
  ·rw[jQr m9]at ho;have hm:ob∈[W.heap.size]:=jQ8 ho;simp at hm;subst hm;exact⟨λe=>hDn _ m9 (e▸h.od.1),λe=>hDn _ m9 (e▸h.od.2),.inr rfl⟩
 ·by_cases h1:i<os.length
  ·rw[jQq h1]at hi;by_cases h2:j<os.length
   ·rw[jQq h2]at hj;exact h.oi i j ob hi hj
   ·rw[jQr m9]at hj;have hm:ob∈[W.heap.size]:=jQ8 hj;simp at hm;subst hm;exact absurd (h.L3 i _ hi).2.2 (hDn _ m9)
  ·rw[jQr m9]at hi;have hm:ob∈[W.heap.size]:=jQ8 hi;simp at hm;subst hm;have Q4:=(jQg.1 hi).1;simp at Q4;by_cases h2:j<os.length
   ·rw[jQq h2]at hj;exact absurd (h.L3 j _ hj).2.2 (hDn _ m9)
   ·rw[jQr m9]at hj;have hj1:=(jQg.1 hj).1;simp at hj1;omega
end
section
variable{S:Sg}
theorem PS{ty:TypeId}(h:W.ownsRow base ty 1 v xs.length xs)(hD:∀g,v.ownBlock=some g->D g):eE D W xs v:=by
 have hl:=h.1;rw[Nat.mul_one]at hl;rcases h.2 with⟨rfl,h0⟩|⟨g,cap,cur,rfl,hb,hg,hn,hm,hc,ht⟩
 ·exact M170
 ·by_cases hx:xs=[]
  ·subst hx;exact M110
  ·refine .inr ⟨hx,g,0,cap,rfl,m9,by simp only[maxLen]at hm;omega,hD g rfl,λj u hu=>?_⟩;exact M36
theorem BL.drew(h:BL w K gG W S D bb pk eb cb oe oc ds os dv):BL w K gG W.drew S D bb pk eb cb oe oc ds os dv:=
 ⟨h.th.cR (jQ0 _) (λ_ _ _=>rfl) (λ_ _=>rfl),h.jl,h.Yo,h.pkd,h.se,h.sc,h.ne.vT (λ_ _ h=>h) (λb hb=>⟨hb,rfl⟩) rfl i5,h.nc.vT (λ_ _ h=>h) (λb hb=>⟨hb,rfl⟩) rfl i5,h.only,h.ifs,h.low,h.jJ.drew,h.bb0,h.oo,h.own,h.gY,h.len,h.dec,h.L3,h.oi,h.od⟩
theorem BL.bs(h:BL w K gG W S D bb pk eb cb oe oc ds os dv)(Df:PT NS Q w 0 fC)(hl:ds.length=w.length)(X3:∀b,DI b->b<gG.heap.size):
 Bs NS Q w K ⟨bb,pk,ds,dv,.iface 53 (ptr eb),.iface 53 (ptr cb)⟩ DI ⟨S,λb=>D b\/dv.ownBlock=some b,.slice none 0 0,[]⟩ W:=by
 have hz:=h.jJ.size;have XQ:=h.bb0;refine⟨h.th.lW (λb=>dv.ownBlock=some b) (λb hb=>?_),h.jl,?_,PS h.own λg hg=>.inr hg,λj b hj=>?_,hl,⟨eb,rfl,h.se⟩,⟨cb,rfl,h.sc⟩,⟨h.Yo.1,λhd=>hd.elim h.Yo.2 λe=>(h.gY _ e).2.2 rfl⟩,jR9 _ _ _ _,λg hg=>by simp[Value.ownBlock]at hg,λb hb=>by simp at hb,λb hb=>⟨?_,?_,by simp[Value.ownBlock],?_⟩,λb s hs hi=>?_⟩
 ·obtain⟨k1,k2,cur,k3⟩:=aC h.own b hb;exact⟨k2,(h.gY b hb).1,_,_,_,k3⟩
 ·obtain⟨p,q,Hm⟩:=h.pkd.2;exact .inr ⟨pk,p,q,rfl,.inl h.pkd.1,Hm⟩
 ·obtain⟨ob,nm, -,k2, -⟩:=h.dec j b hj;exact k2
 ·have:=X3 b hb;omega
 ·have:=X3 b hb;show b≠bb;omega
 ·show S b=none;cases hs:S b with
  |none=>rfl
  |some s=>have:=h.low b s hs;have:=X3 b hb;omega
 ·rcases h.ifs b s hs hi with rfl|rfl
  ·exact .inr ⟨fC,rfl,rfl,Df⟩
  ·exact .inl rfl
end
section
variable{S:Sg}
theorem OI(hS:EH S S')(hm:au D D' W W')(h7:∀b s,S b=some s->s.kind=7->W'.heap[b]?=W.heap[b]?):∀{l:List aH} {ps:List Value},(∀m∈l,m.sig.kind=7)->All2 (mr S D W) l ps->All2 (mr S' D' W') l ps
 |[],[],_,_=>trivial
 |[],_::_,_,h=>h.elim
 |_::_,[],_,h=>h.elim
 |m::l,p::ps,hk,h=>⟨h.1.move hS hm h7 (hk m i6),OI hS hm h7 (l:=l) (ps:=ps) (λm' h'=>hk m' (by simp[h'])) h.2⟩
theorem fe.cR(hS:EH S S')(hm:au D D' W W')(h7:∀b s,S b=some s->s.kind=7->W'.heap[b]?=W.heap[b]?)(hb:W'.heap[b]?=W.heap[b]?)(dJ:∀(n:Nat) (d:ah),w[n]?=some d->∀m∈d.meths,m.sig.kind=7)(h:fe w S D W b ob s):fe w S' D' W' b ob s:=by
 obtain⟨ut,ms,ps,h1,h2,h3,h4,h5⟩:=h;refine⟨ut,ms,ps,hb.trans h1,h2.mono hS,h3.move hm,OI hS hm h7 ?_ h4,h5.move hm⟩;exact M44
def ZD(w:List ah)(σ:BS)(W:World)(s j d ob:Nat):Prop:=
 (s=0->W.heap[d]?=some (yQ ob true))/\(s=1->∃ut,W.heap[d]?=some (On ob ut (.slice none 0 0))/\dq σ.S ut (oZ w (r9 j)))/\(s=2->fe w σ.S σ.D W d ob (r9 j))
structure DG(NS:List ByteArray)(Q:GT->Prop)(w:List ah)(K:Nat)(B:Bl)(DI:Nat->Prop)(gG:World)(eb cb oe oc:Nat)(os:List Nat)(st:Nat->Nat)(σ:BS)(W:World):Prop where
 bs:Bs NS Q w K B DI σ W
 jJ:Below gG.heap.size gG W
 lo:gG.heap.size<=B.bb/\(∀g,σ.mv.ownBlock=some g->gG.heap.size<=g)/\∀b s,σ.S b=some s->gG.heap.size<=b
 se:σ.S eb=some oA
 sc:σ.S cb=some sE
 ne:fe w σ.S σ.D W eb oe oA
 nc:fe w σ.S σ.D W cb oc sE
 only:∀b s,σ.S b=some s->cI s->(b=eb/\s=oA)\/(b=cb/\s=sE)\/∃j,B.ds[j]?=some b/\s=r9 j
 oo:oe≠oc
 L3:∀(j:Nat) (ob:Nat),os[j]?=some ob->ob≠oe/\ob≠oc
 oi:∀(i j ob:Nat),os[i]?=some ob->os[j]?=some ob->i=j
 dec:∀(j d:Nat),B.ds[j]?=some d->∃ob nm,os[j]?=some ob/\σ.D ob/\W.heap[ob]?=some (.cells #[.int .i64 0,ptr B.pk,.string nm,.iface 53 (ptr d)] 117 (0,0))/\ZD w σ W (st j) j d ob
theorem BL.dg(h:BL w K gG W S D bb pk eb cb oe oc ds os dv)(Df:PT NS Q w 0 fC)(hl:ds.length=w.length)(X3:∀b,DI b->b<gG.heap.size):
 DG NS Q w K ⟨bb,pk,ds,dv,.iface 53 (ptr eb),.iface 53 (ptr cb)⟩ DI gG eb cb oe oc os (λ_=>0) ⟨S,λb=>D b\/dv.ownBlock=some b,.slice none 0 0,[]⟩ W:=by
 have hm:au D (λb=>D b\/dv.ownBlock=some b) W W:=λb hb=>⟨.inl hb,rfl⟩;refine⟨h.bs Df hl X3,h.jJ,⟨h.bb0,λg hg=>by simp[Value.ownBlock]at hg,h.low⟩,h.se,h.sc,h.ne.vT (λ_ _ h=>h) hm rfl i5,h.nc.vT (λ_ _ h=>h) hm rfl i5,h.only,h.oo,λj ob ho=>⟨(h.L3 j ob ho).1,(h.L3 j ob ho).2.1⟩,h.oi,λj d hd=>?_⟩;obtain⟨ob,nm,k1,k2,k3,k4,k5⟩:=h.dec j d hd;exact⟨ob,nm,k1,.inl k4,k5,λ_=>k3,λe=>(by cases e),λe=>(by cases e)⟩
variable(dJ:∀(n:Nat) (d:ah),w[n]?=some d->∀m∈d.meths,m.sig.kind=7)
include dJ
theorem DG.gr(h:DG NS Q w K B DI gG eb cb oe oc os st σ W)(hm:Md NS Q w K B DI σ W n aO W'):DG NS Q w K B DI gG eb cb oe oc os st aO W':=by
 have hg:=hm.gr;have eR:=hg.aJ h.bs;have qy:=hg.types h.bs;have hz:=h.jJ.size;have hk:∀b ob s,σ.S b=some s->fe w σ.S σ.D W b ob s->fe w aO.S aO.D W' b ob s:=λb ob s hs hn=>hn.cR hg.sle eR (λb s hs _=>qy b s hs) (qy b s hs) dJ;refine⟨hm.bs,⟨hg.os.trans h.jJ.os,hg.tape.trans h.jJ.tape,hg.output.trans h.jJ.output,jQd hz hg.size,λb hb=>(hg.block b m9 (by have:=h.lo.1;omega) (λe=>by have:=h.lo.2.1 b e;omega)).trans (h.jJ.block b hb)⟩,⟨h.lo.1,λg he=>?_,λb s hs=>?_⟩,hg.sle _ _ h.se,hg.sle _ _ h.sc,hk _ _ _ h.se h.ne,hk _ _ _ h.sc h.nc,λb s hs hn=>h.only b s (hg.xQ b s hs hn) hn,h.oo,h.L3,h.oi,λj d hd=>?_⟩
 ·obtain e|⟨g',e,nG⟩:=hg.MQ
  ·exact h.lo.2.1 g (e▸he)
  ·rw[e]at he;cases he;omega
 ·rcases hg.uF b s hs with h'|h'
  ·exact h.lo.2.2 b s h'
  ·omega
 ·obtain⟨ob,nm,k1,k2,k3,k4,k5,k6⟩:=h.dec j d hd;have hs:=h.bs.rn j d hd;exact⟨ob,nm,k1,hg.Jo _ k2,(eR ob k2).2.trans k3,λe=>(qy _ _ hs).trans (k4 e),λe=>by obtain⟨ut,g1,g2⟩:=k5 e;exact⟨ut,(qy _ _ hs).trans g1,g2.mono hg.sle⟩,λe=>hk _ _ _ hs (k6 e)⟩
theorem DG.nm{s':Nat}(h:DG NS Q w K B DI gG eb cb oe oc os st σ W)(hd:B.ds[j]?=some d)(hz:W.heap.size<=W'.heap.size)(Ao:W'.os=W.os)(CW:W'.tape=W.tape)(Le:W'.output=W.output)(hb:∀b,b<W.heap.size->b≠d->¬(Loc B DI σ b/\gG.heap.size<=b)->W'.heap[b]?=W.heap[b]?)(hc:∃cs ty,W'.heap[d]?=some (.cells cs ty (0,0)))(aiF:∀ob,os[j]?=some ob->ZD w σ W' s' j d ob)(cH:∀i,st' i=if i=j then s' else st i):DG NS Q w K B DI gG eb cb oe oc os st' σ W':=by
 have zv:=h.bs.rn j d hd;have lA:=h.jJ.size;have hS:∀b s,σ.S b=some s->s≠r9 j->W'.heap[b]?=W.heap[b]?:=λb s hs hn=>hb b (h.bs.th.lI b s hs) (λe=>by subst e;rw[zv]at hs;cases hs;exact hn rfl) λhl=>by rw[hl.1.1]at hs;cases hs
 have hD:∀b,σ.D b->W'.heap[b]?=W.heap[b]?:=λb nY=>hb b (h.bs.th.mT b nY) (λe=>by subst e;exact h.bs.th.rS b _ zv nY) λhl=>hl.1.2.1 nY;have hm:au σ.D σ.D W W':=λb nY=>⟨nY,hD b nY⟩;have h7:∀b s,σ.S b=some s->s.kind=7->W'.heap[b]?=W.heap[b]?:=λb s hs hk=>hS b s hs λe=>by rw[e]at hk;cases hk
 have hk:∀b ob s,σ.S b=some s->s≠r9 j->fe w σ.S σ.D W b ob s->fe w σ.S σ.D W' b ob s:=λb ob s hs hn hv=>hv.cR (λ_ _ h=>h) hm h7 (hS b s hs hn) dJ;refine⟨h.bs.aby hz (λb hl hn hq=>hb b hl (λe=>hq (r9 j) (e▸zv) (.inl rfl)) λKn=>hn Kn.1) (λb s hs hi=>?_),⟨Ao.trans h.jJ.os,CW.trans h.jJ.tape,Le.trans h.jJ.output,jQd lA hz,λb hl=>(hb b m9 (λe=>by have:=h.lo.2.2 d _ zv;omega) λKn=>m9).trans (h.jJ.block b hl)⟩,h.lo,h.se,h.sc,hk _ _ _ h.se (by intro e;have:=congrArg GT.kind e;simp[oA,r9,GT.kind]at this) h.ne,hk _ _ _ h.sc (by intro e;have:=congrArg GT.kind e;simp[sE,r9,GT.kind]at this) h.nc,h.only,h.oo,h.L3,h.oi,λi d' nY=>?_⟩
 ·by_cases e:b=d
  ·subst e;exact hc
  ·obtain⟨cs,t,yq⟩:=h.bs.th.A9 b s hs;exact⟨cs,t,(hb b (h.bs.th.lI b s hs) e λhl=>by rw[hl.1.1]at hs;cases hs).trans yq⟩
 ·obtain⟨ob,nm,k1,k2,k3,k4,k5,k6⟩:=h.dec i d' nY;refine⟨ob,nm,k1,k2,(hD _ k2).trans k3,?_⟩;by_cases e:i=j
  ·subst e;rw[hd]at nY;cases nY;rw[cH,jQ7 rfl];exact aiF ob k1
  ·rw[cH,jQ4 e];have hs:=h.bs.rn i d' nY;have hn:r9 i≠r9 j:=λe'=>by have:=congrArg GT.n e';simp[r9,GT.n]at this;omega
   exact⟨λe=>(hS _ _ hs hn).trans (k4 e),λe=>by obtain⟨ut,g1,g2⟩:=k5 e;exact⟨ut,(hS _ _ hs hn).trans g1,g2⟩,λe=>hk _ _ _ hs hn (k6 e)⟩
omit dJ in
theorem DG.re(h:DG NS Q w K B DI gG eb cb oe oc os st σ W)(cH:∀i d ob,B.ds[i]?=some d->os[i]?=some ob->σ.D ob->ZD w σ W (st i) i d ob->ZD w σ W (st' i) i d ob):DG NS Q w K B DI gG eb cb oe oc os st' σ W:=
 ⟨h.bs,h.jJ,h.lo,h.se,h.sc,h.ne,h.nc,h.only,h.oo,h.L3,h.oi,λj d hd=>by
  obtain⟨ob,nm,k1,k2,k3,k4⟩:=h.dec j d hd;exact⟨ob,nm,k1,k2,k3,cH j d ob hd k1 k2 k4⟩⟩
theorem DG.lW(h:DG NS Q w K B DI gG eb cb oe oc os st σ W)(P:Nat->Prop)(hP:∀b,P b->Loc B DI σ b/\∃cs t f,W.heap[b]?=some (.cells cs t f)):DG NS Q w K B DI gG eb cb oe oc os st {σ with D:=λb=>σ.D b\/P b} W:=by
 have hm:au σ.D (λb=>σ.D b\/P b) W W:=λb hb=>⟨.inl hb,rfl⟩;have hk:∀b ob s,fe w σ.S σ.D W b ob s->fe w σ.S (λb=>σ.D b\/P b) W b ob s:=λb ob s hv=>hv.cR (λ_ _ h=>h) hm (λ_ _ _ _=>rfl) rfl dJ;exact⟨h.bs.lW P hP,h.jJ,h.lo,h.se,h.sc,hk _ _ _ h.ne,hk _ _ _ h.nc,h.only,h.oo,h.L3,h.oi,λj d hd=>by
  obtain⟨ob,nm,k1,k2,k3,k4,k5,k6⟩:=h.dec j d hd;exact⟨ob,nm,k1,.inl k2,k3,k4,k5,λe=>hk _ _ _ (k6 e)⟩⟩
theorem DG.put(h:DG NS Q w K B DI gG eb cb oe oc os st σ W)(hd:B.ds[j]?=some d)(ho:os[j]?=some ob)(hp:kT d #[.pointer none,ptr ob,.bool false,.int .i32 0,.int .u32 0,.int .u32 15,ut,ut,.bool false,.slice none 0 0] 113 W W')(hu:dq σ.S ut (oZ w (r9 j)))(cH:∀i,st' i=if i=j then 1 else st i):
 DG NS Q w K B DI gG eb cb oe oc os st' σ W':=
 h.nm dJ hd (jQz hp.size.symm) hp.os hp.tape hp.output (λb _ hn _=>hp.other b hn) ⟨_,_,hp.here⟩ (λob' ho'=>by
  rw[ho]at ho';cases ho';exact⟨λe=>(by cases e),λ_=>⟨ut,hp.here,hu⟩,λe=>(by cases e)⟩) cH
structure Kd(w:List ah)(B:Bl)(DI:Nat->Prop)(gG:World)(j d ob:Nat)(ut ms:Value)(l:List aH)(ps:List Value)(σ:BS)(W:World):Prop where
 jl:W.heap[d]?=some (On ob ut ms)
 ut:dq σ.S ut (oZ w (r9 j))
 row:dK B DI σ gG.heap.size W 95 ps ms
 meths:All2 (mr σ.S σ.D W) l ps
omit dJ in
theorem Kd.gr(h:Kd w B DI gG j d ob ut ms l ps σ W)(hb:Bs NS Q w K B DI σ W)(hd:B.ds[j]?=some d)(hl:∀m∈l,m.sig.kind=7)(hg:Gr B σ aO W W'):Kd w B DI gG j d ob ut ms l ps aO W':=
 ⟨(hg.types hb d _ (hb.rn j d hd)).trans h.jl,h.ut.mono hg.sle,h.row.gr hg,Jy h.meths hb hg hl⟩
omit dJ in
theorem DG.cur(h:DG NS Q w K B DI gG eb cb oe oc os st σ W)(hd:B.ds[j]?=some d)(h1:st j=1)(cH:∀i,st' i=if i=j then 3 else st i):
 ∃ob nm ut,os[j]?=some ob/\σ.D ob/\W.heap[ob]?=some (.cells #[.int .i64 0,ptr B.pk,.string nm,.iface 53 (ptr d)] 117 (0,0))/\DG NS Q w K B DI gG eb cb oe oc os st' σ W/\Kd w B DI gG j d ob ut (.slice none 0 0) [] [] σ W:=by
 obtain⟨ob,nm,k1,k2,k3,k4,k5,k6⟩:=h.dec j d hd;obtain⟨ut,g1,g2⟩:=k5 h1;refine⟨ob,nm,ut,k1,k2,k3,h.re λi d' ob' _ _ _ hv=>?_,g1,g2,dK.nil,trivial⟩;by_cases e:i=j
 ·rw[cH,jQ7 e];exact⟨λe=>(by cases e),λe=>(by cases e),λe=>(by cases e)⟩
 ·rw[cH,jQ4 e];exact hv
theorem DG.YI(h:DG NS Q w K B DI gG eb cb oe oc os st σ W)(hc:Kd w B DI gG j d ob ut ms l ps σ W)(hd:B.ds[j]?=some d)(h3:st j=3)(hl:∀m∈l,m.sig.kind=7)(hk:m.sig.kind=7){en:Ending}(hr:MeR NS Q w K B DI σ W d ob gG.heap.size ut ms ps m en W'):
 ∃aO p xX,DG NS Q w K B DI gG eb cb oe oc os st aO W'/\Kd w B DI gG j d ob ut xX (l++[m]) (ps++[p]) aO W'/\aO.ml.length<=σ.ml.length+nds m.sig/\EH σ.S aO.S:=by
 obtain⟨-,aO,W1,p,xX,cq,hp,aL,eR,hblk,Ao,CW,Le,hz,hb⟩:=hr;have h1:=h.gr dJ cq;have kX:=hc.row.gr cq.gr;have zv:=h1.bs.rn j d hd;have hS:∀b s,aO.S b=some s->s.kind=7->W'.heap[b]?=W1.heap[b]?:=λb s hs hk=>hb b (h1.bs.th.lI b s hs) (λe=>by subst e;rw[zv]at hs;cases hs;cases hk) λe=>by have:=(kX.loc b e).1;rw[hs]at this;cases this
 have hm:au aO.D aO.D W1 W':=λb nY=>⟨nY,hb b (h1.bs.th.mT b nY) (λe=>by subst e;exact h1.bs.th.rS b _ zv nY) λe=>(kX.loc b e).2.1 nY⟩;refine⟨aO,p,xX,?_,⟨hblk,hc.ut.mono cq.gr.sle,⟨aL,λg hg=>?_⟩,All2.snoc ?_ ?_⟩,cq.len,cq.gr.sle⟩
 ·refine h1.nm dJ hd hz Ao CW Le (λb hl hn fp=>hb b hl hn λe=>fp ⟨kX.loc b e,(aC kX.own b e).1⟩) ⟨_,_,hblk⟩ (s':=3) (λob _=>⟨λe=>(by cases e),λe=>(by cases e),λe=>(by cases e)⟩) λi=>?_;split
  ·rename_i e;rw[e];exact h3
  ·rfl
 ·obtain e|⟨g',e,nG⟩:=eR
  ·exact kX.loc g (e▸hg)
  ·rw[e]at hg;cases hg;exact h1.bs.loc nG
 ·exact hp.move (λ_ _ h=>h) hm hS hk
 ·exact OI (λ_ _ h=>h) hm hS hl (Jy hc.meths h.bs cq.gr hl)
theorem DG.done{dd:ah}(h:DG NS Q w K B DI gG eb cb oe oc os st σ W)(hc:Kd w B DI gG j d ob ut ms l ps σ W)(hd:B.ds[j]?=some d)(ho:os[j]?=some ob)(hw:w[j]?=some dd)(hl:l=dd.meths)(cH:∀i,st' i=if i=j then 2 else st i):
 ∃D',DG NS Q w K B DI gG eb cb oe oc os st' {σ with D:=D'} W:=by
 have h1:=h.lW dJ (λb=>ms.ownBlock=some b) λb hb=>by
  obtain⟨-, -,cur,Cv⟩:=aC hc.row.own b hb;exact⟨hc.row.loc b hb,_,_,_,Cv⟩
 refine⟨_,h1.re λi d' ob' nY ho' hD hv=>?_⟩;by_cases e:i=j
 ·subst e;rw[cH,jQ7 rfl];rw[hd]at nY;cases nY;rw[ho]at ho';cases ho';refine⟨λe=>(by cases e),λe=>(by cases e),λ_=>?_⟩;have hm:au σ.D (λb=>σ.D b\/ms.ownBlock=some b) W W:=λb hb=>⟨.inl hb,rfl⟩;obtain⟨ob2,nm,k1, -,k3, -⟩:=h.dec i d hd;rw[ho]at k1;cases k1;refine⟨ut,ms,ps,hc.jl,hc.ut,hc.row.row λg hg=>.inr hg,?_,hD,0,_,nm,_,k3,h1.bs.Rm⟩;have e1:(if (r9 i).kind=11 then((w[(r9 i).n.toNat]?).map (·.meths)).getD []else[])=l:=by
   have:(r9 i).n.toNat=i:=by simp[r9,GT.n]
   rw[this,hw,hl];rfl
  rw[e1];refine OI (λ_ _ h=>h) hm (λ_ _ _ _=>rfl) ?_ hc.meths;intro m hm;rw[hl]at hm;exact dJ _ _ hw m hm
 ·rw[cH,jQ4 e];exact hv
omit dJ in
theorem DG.nmi(h:DG NS Q w K B DI gG eb cb oe oc os st σ W)(cH:∀j,j<w.length->st j=2):∃obj,DZ w σ W obj:=by
 have hx:∀b,∃ob,∀s,σ.S b=some s->cI s->fe w σ.S σ.D W b ob s/\((b=eb/\s=oA/\ob=oe)\/(b=cb/\s=sE/\ob=oc)\/∃j,B.ds[j]?=some b/\s=r9 j/\os[j]?=some ob):=by
  intro b;cases hs:σ.S b with
  |none=>exact⟨0,λs h=>by cases h⟩
  |some s=>
   by_cases hn:cI s
   ·rcases h.only b s hs hn with⟨rfl,rfl⟩|⟨rfl,rfl⟩|⟨j,hj,rfl⟩
    ·exact⟨oe,λs' e _=>by cases e;exact⟨h.ne,.inl ⟨rfl,rfl,rfl⟩⟩⟩
    ·exact⟨oc,λs' e _=>by cases e;exact⟨h.nc,.inr (.inl ⟨rfl,rfl,rfl⟩)⟩⟩
    ·obtain⟨ob,nm,k1,k2,k3,k4,k5,k6⟩:=h.dec j b hj;have LZ:=(jQg.1 hj).1;rw[h.bs.dl]at LZ;exact⟨ob,λs' e _=>by cases e;exact⟨k6 (cH j LZ),.inr (.inr ⟨j,hj,rfl,k1⟩)⟩⟩
   ·exact⟨0,λs' e hi=>by cases e;exact absurd hi hn⟩
 obtain⟨obj,VO⟩:=Classical.axiomOfChoice hx;refine⟨obj,λb s hs hn=>(VO b s hs hn).1,λb b' s h1 h2 hn=>?_,λb b' s s' h1 h2 hn hn' e=>?_⟩
 ·rcases(VO b s h1 hn).2 with⟨rfl,k, -⟩|⟨rfl,k, -⟩|⟨j,g1,k, -⟩<;>rcases(VO b' s h2 hn).2 with⟨rfl,k', -⟩|⟨rfl,k', -⟩|⟨j',g1',k', -⟩<;>subst k<;>first
   |rfl
   |(exfalso;have:=congrArg GT.kind k';simp[oA,sE,r9,GT.kind]at this;done)
   |(have:j=j':=(by have:=congrArg GT.n k';simp[r9,GT.n]at this;omega);subst this;rw[g1]at g1';exact jQw g1')
 ·rcases(VO b s h1 hn).2 with⟨rfl, -,k⟩|⟨rfl, -,k⟩|⟨j,g1, -,k⟩<;>rcases(VO b' s' h2 hn').2 with⟨rfl, -,k'⟩|⟨rfl, -,k'⟩|⟨j',g1', -,k'⟩<;>first
   |rfl
   |(exfalso;rw[k,k']at e;exact h.oo e)
   |(exfalso;rw[k,k']at e;exact h.oo e.symm)
   |(exfalso;have:=h.L3 j' _ k';rw[<-e,k]at this;exact this.1 rfl)
   |(exfalso;have:=h.L3 j' _ k';rw[<-e,k]at this;exact this.2 rfl)
   |(exfalso;have:=h.L3 j _ k;rw[e,k']at this;exact this.1 rfl)
   |(exfalso;have:=h.L3 j _ k;rw[e,k']at this;exact this.2 rfl)
   |(have:j=j':=h.oi j j' _ k (e▸k');subst this;rw[g1]at g1';exact jQw g1')
end
def uns:List ah->Nat
 |[]=>0
 |d::l=>nds d.under+uns l
def mds:List aH->Nat
 |[]=>0
 |m::l=>nds m.sig+mds l
def DY:List ah->Nat
 |[]=>0
 |d::l=>mds d.meths+DY l
theorem CB:∀{l:List ah} {k:Nat} {d:ah},l[k]?=some d->uns (l.take (k+1))=uns (l.take k)+nds d.under
 |[],k,d,h=>by simp at h
 |x::l,0,d,h=>by simp at h;subst h;simp[uns]
 |x::l,k+1,d,h=>by
  have:=CB (l:=l) (k:=k) (d:=d) (by simpa using h);rw[jR5,jR5,uns,uns,this];omega
theorem CD:∀{l:List aH} {k:Nat} {d:aH},l[k]?=some d->mds (l.take (k+1))=mds (l.take k)+nds d.sig
 |[],k,d,h=>by simp at h
 |x::l,0,d,h=>by simp at h;subst h;simp[mds]
 |x::l,k+1,d,h=>by
  have:=CD (l:=l) (k:=k) (d:=d) (by simpa using h);rw[jR5,jR5,mds,mds,this];omega
theorem CE:∀{l:List ah} {k:Nat} {d:ah},l[k]?=some d->DY (l.take (k+1))=DY (l.take k)+mds d.meths
 |[],k,d,h=>by simp at h
 |x::l,0,d,h=>by simp at h;subst h;simp[DY]
 |x::l,k+1,d,h=>by
  have:=CE (l:=l) (k:=k) (d:=d) (by simpa using h);rw[jR5,jR5,DY,DY,this];omega
theorem ME:∀(l:List ah) (k:Nat),uns (l.take k)<=uns l
 |[],k=>by simp[uns]
 |d::l,0=>by simp[uns]
 |d::l,k+1=>by have:=ME l k;rw[jR5,uns,uns];omega
theorem MF:∀(l:List aH) (k:Nat),mds (l.take k)<=mds l
 |[],k=>by simp[mds]
 |d::l,0=>by simp[mds]
 |d::l,k+1=>by have:=MF l k;rw[jR5,mds,mds];omega
theorem VA:∀(l:List ah) (k:Nat),DY (l.take k)<=DY l
 |[],k=>by simp[DY]
 |d::l,0=>by simp[DY]
 |d::l,k+1=>by have:=VA l k;rw[jR5,DY,DY];omega
theorem OC{k:Int}(h1:1<=k)(bH:k<=10)(h2:k≠2):¬tid k=125/\¬tid k=53:=by
 rcases de k with g|g|g|g|g|g|g|g|g|g|g|g<;>first
  |(rw[g.2];exact⟨i5,i5⟩)
  |omega
def KL(NS:List ByteArray)(Q:GT->Prop)(w:List ah)(K:Nat)(DI:Nat->Prop)(W:World)(e:Ending)(W':World):Prop:=
 ∃(B:Bl) (σ:BS) (obj:Nat->Nat),e=.returned (ptr B.bb)/\Bs NS Q w K B DI σ W'/\DZ w σ W' obj/\σ.ml=[]/\Below W.heap.size W W'/\W.heap.size<=B.bb/\(∀g,σ.mv.ownBlock≠some g)/\∀b s,σ.S b=some s->W.heap.size<=b
theorem VB(h:DG NS Q w K B DI gG eb cb oe oc os st σ wr)(hc:aaQ NS Q w K B DI obj rs r σ wr W'):KL NS Q w K DI gG (.returned (ptr B.bb)) W':=by
 obtain⟨D',hb,hn,g1,g2,g3,g4,g5⟩:=hc;have hz:=h.jJ.size;refine⟨B,_,obj,rfl,hb,hn,rfl,⟨g1.trans h.jJ.os,g2.trans h.jJ.tape,g3.trans h.jJ.output,jQd hz g4,λb hl=>?_⟩,h.lo.1,λg hg=>by simp[Value.ownBlock]at hg,h.lo.2.2⟩;rcases g5 b m9 (by have:=h.lo.1;omega)with e|⟨s,ts,sh,k1,k2, -⟩
 ·exact e.trans (h.jJ.block b hl)
 ·have:=h.lo.2.2 b s k1;omega
set_option maxRecDepth 100000 in
theorem Mt(k:Nat)(Gf:wg k)(ihI:Gl k)(w:List ah)(ws:Value)(t:GT)(p:S.Place)(r:Bool)(v:Value)(W:World)(D:Nat->Prop)(hp:placed w (k+1) t p=some r)(hn:NB t)(hx:Cx D w ws W)(hv:RT D W t v)(hk:¬(t.kind=1\/t.kind=14\/t.kind=15\/t.kind=16\/t.kind=11\/t.kind=2\/t.kind=3\/t.kind=5)):Calls prog 33 #[ws,v,pv p] W (ef W r):=by
 obtain⟨pd,Gv,pt⟩:=p;rw[placed]at hp;simp only at hp;rw[jQ4 m9,jQ4 m9,jQ4 m9,jQ4 m9,jQ4 m9]at hp;have k1:(t.kind==1)=false:=by simp;omega
 have k14:(t.kind==14)=false:=by simp;omega
 have Hw:(t.kind==15)=false:=by simp;omega
 have yr:(t.kind==16)=false:=by simp;omega
 have qd:(t.kind==11)=false:=by simp;omega
 have k2:(t.kind==2)=false:=by simp;omega
 have k3:(t.kind==3)=false:=by simp;omega
 have k5:(t.kind==5)=false:=by simp;omega
 obtain⟨a,c,rfl,hs⟩:=hv.bR;obtain⟨wa,wc,rfl⟩:=hx.rd.form;obtain⟨HA,HP,HX,HV,HS,HN,HE⟩:=Z7 (dT W (bx t a c) (.cells #[.int .i64 pd,.bool Gv,.bool pt] 49)) hp hx hv hs hn (show∀e∈t.elems,NB e from λe he=>hn.elem he);clear hp hx hv hs hn hk;by_cases bH:t.kind=10
 ·have sq:(t.kind==10)=true:=by simp[bH]
  have h:=HP.1;rw[jQ7 bH]at h;have ag:=ihI w _ t ⟨pd,Gv,pt⟩ r _ _ D h HN.1 (HX.1.mv HA.1) (HV.1.mv HX.1.lo HA.1);have HC:=HA;clear bH h;exact M14
 have sq:(t.kind==10)=false:=by simp[bH]
 have HP:=Z ((jQ4 bH).symm.trans HP.1);clear bH;have HC:=Z (dT W (bx t a c) (.cells #[.int .i64 pd,.bool false,.bool pt] 49));have hz:t.elems.length<9223372036854775807:=HN.1.len;have gj:(t.elems.length:Int)+1<=9223372036854775807:=m9
 by_cases h4:t.kind=4\/t.kind=6\/t.kind=9
 ·have h:=HP.1;rw[jQ7 h4]at h;by_cases hw:within t.n 3=true
  ·by_cases hl:(t.elems.length:Int)=1
   ·rw[jQ7 ⟨hw,hl⟩]at h;have ag:=Gf w _ t.elems ⟨pd,false,pt⟩ r _ _ D h HE.1 (HX.1.mv HC.1) (HS.1.mv HX.1.lo HC.1);have hlq:((t.elems.length:Int)==1)=true:=by simp;omega
    by_cases g4:t.kind=4
    ·have k4:(t.kind==4)=true:=by simp[g4]
     clear h4 g4 hl;exact M14
    ·have k4:(t.kind==4)=false:=by simp[g4]
     by_cases g6:t.kind=6
     ·have k6:(t.kind==6)=true:=by simp[g6]
      clear h4 g4 g6 hl;exact M14
     ·have k6:(t.kind==6)=false:=by simp[g6]
      have k9:(t.kind==9)=true:=by simp;omega
      clear h4 g4 g6 hl;exact M14
   ·rw[jQ4 (λhh=>hl hh.2)]at h;have h:false=r:=by simpa using h
    subst h;have hlq:((t.elems.length:Int)==1)=false:=by simp;omega
    exact M59
  ·rw[jQ4 (λhh=>hw hh.1)]at h;have h:false=r:=by simpa using h
   subst h;have hw:within t.n 3=false:=by simpa using hw
   have hl:=();exact M59
 have k4:(t.kind==4)=false:=by simp;omega
 have k6:(t.kind==6)=false:=by simp;omega
 have k9:(t.kind==9)=false:=by simp;omega
 have HP:=Z ((jQ4 h4).symm.trans HP.1);clear h4;by_cases h8:t.kind=8
 ·have k8:(t.kind==8)=true:=by simp[h8]
  have h:=HP.1;rw[jQ7 h8]at h;by_cases hl:(t.elems.length:Int)=2
  ·rw[jQ7 hl]at h;have ag:=Gf w _ t.elems ⟨pd,false,pt⟩ r _ _ D h HE.1 (HX.1.mv HC.1) (HS.1.mv HX.1.lo HC.1);have hlq:((t.elems.length:Int)==2)=true:=by simp;omega
   clear h8 hl h;exact M14
  ·rw[jQ4 hl]at h;have h:false=r:=by simpa using h
   subst h;have hlq:((t.elems.length:Int)==2)=false:=by simp;omega
   clear h8 hl;exact M19
 have k8:(t.kind==8)=false:=by simp[h8]
 have HP:=Z ((jQ4 h8).symm.trans HP.1);clear h8;by_cases h7:t.kind=7
 ·have k7:(t.kind==7)=true:=by simp[h7]
  have h:=HP.1;rw[jQ7 h7]at h;clear h7;by_cases hw:within t.m ((t.elems.length:Int)+1)=true
  ·rw[jQ7 hw]at h;have hm:=S.within_iff.1 hw;cases xb:t.va with
   |false=>
    rw[xb]at h;have h:allPlaced w k t.elems ⟨pd,false,pt⟩=some r:=by simpa using h
    have ag:=Gf w _ t.elems ⟨pd,false,pt⟩ r _ _ D h HE.1 (HX.1.mv HC.1) (HS.1.mv HX.1.lo HC.1);simp only[bx,xb]at ag HC;clear h hm;exact M14
   |true=>
    rw[xb]at h;rw[jQ4 i6]at h;by_cases KS:t.m>0
    ·rw[jQ7 KS]at h;obtain⟨e,he,h⟩:=jQ1.1 h;rcases aN.1 HS.1 with⟨zh,_⟩|⟨_,b2,o2,xv,dN,fh,fL,du,gX⟩
     ·rw[zh]at he;simp at he
     simp at dN;obtain⟨rfl,rfl⟩:=dN;have hE:=(gX.at he).move (HX.1.lo.aJ HC.1) du;obtain⟨mm,kh⟩:∃mm:Nat,t.m - 1=(mm:Int):=⟨(t.m - 1).toNat,m9⟩;rw[kh,Int.toNat_natCast]at hE;obtain⟨sa,sc,f0,f1,f2,f3,f4,f5,f6,iL⟩:=hE.bR;have Q4:mm<t.elems.length:=m9
     have hi1z:(mm:Int)<(t.elems.length:Int):=m9
     have lD:(0:Int)<t.m:=KS;by_cases QZ:e.kind=4
     ·rw[jQ7 QZ]at h;have ag:=Gf w _ t.elems ⟨pd,false,pt⟩ r _ _ D h HE.1 (HX.1.mv HC.1) (HS.1.mv HX.1.lo HC.1);have hkq:(e.kind==4)=true:=by simp[QZ]
      simp only[bx,xb]at ag HC f0;clear h hm hE gX he iL QZ;exact M14
     ·rw[jQ4 QZ]at h;have h:false=r:=by simpa using h
      subst h;have hkq:(e.kind==4)=false:=by simp[QZ]
      simp only[bx,xb]at HC f0;clear hm hE gX he iL QZ;exact M19
    ·rw[jQ4 KS]at h;have h:false=r:=by simpa using h
     subst h;have lD:(0<t.m)=False:=by simpa using KS
     simp only[bx,xb]at HC;clear hm KS;exact M19
  ·rw[jQ4 hw]at h;have h:false=r:=by simpa using h
   subst h;have hw:within t.m ((t.elems.length:Int)+1)=false:=by simpa using hw
   exact M19
 have k7:(t.kind==7)=false:=by simp[h7]
 have h:=HP.1;rw[jQ4 h7]at h;have h:false=r:=by simpa using h
 subst h;clear h7;exact M19
theorem U9(k:Nat)(Gf:wg k)(ihI:Gl k):xS (k+1):=by
 intro w ws t p r v W D hp hn hx hv;by_cases hk:t.kind=1\/t.kind=14\/t.kind=15\/t.kind=16\/t.kind=11\/t.kind=2\/t.kind=3\/t.kind=5
 ·exact L9 k Gf w ws t p r v W D hp hn hx hv hk
 ·exact Mt k Gf ihI w ws t p r v W D hp hn hx hv hk
end Go.Proofs.YtabjfnkfocnklaaGreatDoor
