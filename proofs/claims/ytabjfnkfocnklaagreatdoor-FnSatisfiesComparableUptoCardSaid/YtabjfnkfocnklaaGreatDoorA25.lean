import Derived.Test.YtabjfnkfocnklaaGreatDoorRows
import Derived.ChangeArms
import Derived.OpenShut
import Derived.Test.YtabjfnkfocnklaaGreatDoorA24
set_option linter.all false
set_option maxHeartbeats 16000000
set_option maxRecDepth 20000
namespace Go.Proofs.YtabjfnkfocnklaaGreatDoor
open Go Go.RowKit Go.Lib S P Go.Proofs.Tryz
variable{aO σ:BS}{B:Bl}{t tt v vt:GT}{Q:GT->Prop}{NS:List ByteArray}{rs:List Nat}{cs l:List Value}{w:List ah}{K b c i k kk md n nw o r z:Nat}{obj:Nat->Nat}{A D DI E:Nat->Prop}{a:Option Addr}{Y:Prop}{S:Sg}{H α β:Type}{e:TypeId}{tv vv vw:Value}{W W':World}
theorem M121(h:Y:=by
 go_wp2_with fail;refine(fO _ _ hnz).mono ?_;rintro e w' ⟨rfl,rfl⟩;rw[dU];go_wp2_with fail;go_ret;exact⟨rfl,FP.1.trans (Ra.1.mono FP.1.size)⟩):Y:=h
theorem M215(h:Y:=by
 go_wp2_with fail;go_ret;exact⟨rfl,FP.1.trans (kL.1.mono FP.1.size)⟩):Y:=h
theorem M220(h:Y:=by
 have aM:=(jQg.1 ht).1;exact(Ko i (els[i]' m9) t (jQp _) ht).1):Y:=h
section
variable{cs:List Nat}
structure IE(NS:List ByteArray)(Q:GT->Prop)(w:List ah)(rs cs:List Nat)(K r:Nat):Prop where
 env:Env NS Q w rs cs
 fn:∀t,Q t->Q0 t
 br:∀(n:Nat) (d:ah),w[n]?=some d->isIf d.under=true->d.meths=[]
 rK:r<=K
 K1:1<=K
 qr:∀t,PT NS Q w 0 t->t.kind=10->2*J rs false false t<r
 cr:2*J rs false false da<r
 er:2*J rs false false fC<r
 rr:∀n,2*rs.getD n 0+1<r
 w0:∀(j:Nat) (d:ah),w[j]?=some d->(1<=d.under.kind/\d.under.kind<=10/\d.under.kind≠2)/\PT NS Q w 2 d.under/\d.meths.length<=1099511627776/\(∀m∈d.meths,m.sig.kind=7/\isName m.name=true/\PT NS Q w 2 m.sig)/\(d.meths.map (·.name)).Nodup
 big:uns w+DY w<=1099511627776
 wl:w.length<=1099511627776
 ns:∀s∈NS,s.size<=9223372036854775807
structure WH(DI:Nat->Prop)(w:List ah)(a:Option Addr)(c:Nat)(W:World):Prop where
 rd:RD DI W w (.slice a w.length c)
 lt:∀b,DI b->b<W.heap.size
 td:jE (λb=>b=5) W
 pc:∃cs t f,W.heap[5]?=some (.cells cs t f)
theorem WH.mv(h:WH DI w a c W)(hb:Below W.heap.size W W'):WH DI w a c W':=by
 obtain⟨cs,t,f,hc⟩:=h.pc;exact⟨h.rd.move (λb dD=>⟨dD,hb.block b (h.lt b dD)⟩) hb.size hb.block,λb dD=>jQb (h.lt b dD) hb.size,h.td.move λb e=>⟨e,hb.block b (by subst e;exact jQ2 hc)⟩,cs,t,f,(hb.block _ (jQ2 hc)).trans hc⟩
theorem WH.rt(h:WH DI w a c W)(hb:Below W.heap.size W W')(hv:RT DI W t vv):RT DI W' t vv:=hv.move λb dD=>⟨dD,hb.block b (h.lt b dD)⟩
theorem WT(hq:QP NS Q){v f:Bool}:PL nw NS Q A md v f fD:=
 .ifc i5 i5 i5 i6 i6 (by intro e he;simp at he) (by intro e he;simp at he) (by intro e he;simp at he) hq.any
theorem IE.jg(h:IE NS Q w rs cs K r):∀B N,dR NS Q w K B DI N:=λB N=>WU KK h.fn h.ns h.K1 (WT h.env.qp) N
theorem IE.said(h:IE NS Q w rs cs K r):∀S D obj,cO NS Q w S D obj rs K r/\dE NS Q w S D obj rs K r/\dS NS Q w S D obj rs K r:=λS D obj=>by
 obtain⟨h1,h2,h3⟩:=H0 (S:=S) (D:=D) (obj:=obj) h.env h.fn r h.rK;exact⟨zV h.env h1,h2,h3⟩
theorem IE.build(h:IE NS Q w rs cs K r)(hW:WH DI w a c W):Calls prog 10 #[.slice a w.length c] W (KL NS Q w K DI W):=
 Ia (λS D obj=>(h.said S D obj).2.2) (MP h.env.qp) h.er h.K1 hW.td hW.pc hW.rd h.wl hW.lt h.jg h.w0 h.big h.qr h.cr
structure LoB(z:Nat)(B:Bl)(σ:BS)(W:World):Prop where
 bb:z<=B.bb
 mv:∀g,σ.mv.ownBlock≠some g
 lo:∀b s,σ.S b=some s->z<=b
 sz:z<=W.heap.size
theorem LoB.of(h:LoB z B σ W)(hf:OfF B σ aO W W'):LoB z B aO W'/\Below z W W':=by
 refine⟨⟨h.bb,hf.MQ,λb s hs=>?_,jQd h.sz hf.size⟩,hf.os,hf.tape,hf.output,hf.size,λb hb=>?_⟩
 ·rcases hf.uF b s hs with h'|h'
  ·exact h.lo b s h'
  ·have:=h.sz;omega
 ·have hz:=h.sz;rcases hf.block b m9 (by have:=h.bb;omega) (h.mv b)with e|⟨s,ts,sh,k1, -⟩
  ·exact e
  ·have:=h.lo b s k1;omega
theorem zW(mY:∀b s,S b=some s->z<=b)(hz:z<=W.heap.size)(hf:Fr S rs r W W'):Below z W W':=by
 refine⟨hf.os,hf.tape,hf.output,hf.size,λb hb=>?_⟩;rcases hf.block b (m9)with e|⟨s,ts,sh,k1, -⟩|⟨k, -⟩
 ·exact e
 ·have:=mY b s k1;omega
 ·exact k.elim
theorem ts_two{x:GT}(hK:1<=K)(hx:x=fD\/x=da):((fs w K).ts x).meths=[]/\isAllL ((fs w K).ts x).terms=true:=by
 obtain⟨k,rfl⟩:∃k,K=k+1:=⟨K - 1,m9⟩;obtain rfl|rfl:=hx
 ·rw[aa3];exact⟨rfl,rfl⟩
 ·rw[ZC];exact⟨rfl,rfl⟩
theorem im0_of(h:IE NS Q w rs cs K r)(cG:Bs NS Q w K B DI σ W)(hn:DZ w σ W obj)(hb:σ.S b=some (aG (az w t)))(hv:dq σ.S vv v)(pt:PT NS Q w 0 t)(pv:PT NS Q w 0 v)(cP:isIf (az w t)=true)(h2:az w t=fD\/az w t=da)(r1:2*J rs true false v+1<r)(r2:2*J rs false false v+1<r)(r3:2*J rs true false t+1<r):
 Im0 NS Q w σ.S σ.D obj rs K r (CY B σ) W vv (.iface 33 (ptr b)) v (az w t):=by
 have KM:=h.env.wk;have hqp:=h.env.qp;have huu:az w (az w t)=az w t:=by
  have h1:(az w t).kind=10\/(az w t).kind=17:=by simpa[isIf]using cP
  generalize az w t=x at h1;exact M188
 have ut:=(jh KM hqp pt).2;have uv:=(jh KM hqp pv).2;have hit:=P.jO KM hqp pt cP;have h3:=ts_two (w:=w) h.K1 h2;refine⟨cG.ok hn rs r,hv,pv,⟨b,?_,hb⟩,?_,by rw[huu];exact cP,by rw[huu];exact hit,by rw[huu];omega,λhi=>?_,r1,by rw[huu];exact h3.1,by rw[huu];exact h3.2⟩
 ·have:(az w t).kind=10\/(az w t).kind=17:=by simpa[isIf]using cP
  rcases this with e|e<;>(rw[e];rfl)
 ·rcases hit with⟨k, -⟩|k
  ·exact .inl ⟨0,k⟩
  ·exact .inr k
 ·exact⟨P.jO KM hqp pv hi,m9⟩
theorem Sat0_calls(hE:Env NS Q w rs cs)(hC:dE NS Q w S D obj rs K r)(hT:dS NS Q w S D obj rs K r)(sX:r<=K)(h:Im0 NS Q w S D obj rs K r E W vw (.iface 33 (ptr b)) vt tt):
 Calls prog 12 #[vw,ptr b] W (aV w S D obj rs K E r W λu _=>u=.bool (impl (fs w K) w vt tt true)):=by
 have hc:=impl0_calls (con:=true) hE hC hT sX h;clear hE hC hT h;go_enter func12,ntmps12;go_wp2_with fail;refine hc.mono ?_;rintro e' w3 ⟨v6,rfl,rfl,ok3,fr3⟩;have HP:=Z (show aV w S D obj rs K E r W (λu _=>u=.bool (impl (fs w K) w vt tt true)) (.returned (.bool (impl (fs w K) w vt tt true))) w3 from⟨_,rfl,rfl,ok3,fr3⟩);clear hc ok3 fr3;exact M13
theorem OM(hC:dE NS Q w S D obj rs K r)(bD:Ok w S D obj rs K E r W){v:Value}(hv:dq S v t)(ht:PT NS Q w 0 t)(hr:2*J rs true false t+1<r):
 Calls prog 14 #[v] W (aV w S D obj rs K E r W λu _=>u=.bool ((fs w K).cmp t true)):=by
 have hc:=wu hC bD (d:=true) hv ht hr;obtain⟨b0,rfl, -⟩:=id hv;generalize(fs w K).cmp t true=x at hc⊢;clear hC bD hv;go_enter func14,ntmps14;go_wp2_with fail;refine hc.mono ?_;rintro e' w2 ⟨u2,rfl,qq,Cf,Cg⟩;have sr:=Z Cf;have rR:=Z Cg;clear hc Cf Cg;rcases qq with⟨rfl,rfl⟩|⟨b2,rfl,rfl⟩
 all_goals
  go_wp2_with fail;go_ret;exact⟨_,rfl,rfl,sr.1,rR.1⟩
theorem pS(h:IE NS Q w rs cs K r)(hW:WH DI w a c W)(hv:RT DI W v vv)(ht:RT DI W t tv)(pv:PT NS Q w 0 v)(pt:PT NS Q w 0 t)(cP:isIf (az w t)=true)(h2:az w t=fD\/az w t=da)(r1:2*J rs true false v+1<r)(r2:2*J rs false false v+1<r)(r3:2*J rs true false t+1<r)(nv:nds v<=1099511627776)(nt:nds t<=1099511627776):
 Calls prog 6 #[.slice a w.length c,vv,tv] W λe W'=>e=.returned (.bool (impl (fs w K) w v (az w t) true))/\Below W.heap.size W W':=by
 have qj:=hv;have WW:=ht;obtain⟨av,cv,rfl, -⟩:=hv.bR;obtain⟨ae,ct,rfl, -⟩:=ht.bR;have cX:=dT W (bx v av cv) (bx t ae ct);have sj:=hW.mv cX;have zX:=h.build sj;have dt:((W.alloc (bx v av cv)).alloc (bx t ae ct)).heap[W.heap.size]?=some (bx v av cv):=aq (ak W (bx v av cv));have dF:((W.alloc (bx v av cv)).alloc (bx t ae ct)).heap[W.heap.size+1]?=some (bx t ae ct):=by rw[<-jQ3 W (bx v av cv)];exact ak _ _
 have fx:=hW.rt cX qj;have MR:=hW.rt cX WW;obtain⟨H,dP,wX,oT,kp,QU,Hk,ZE⟩:=Z8 h cX sj dt dF fx MR pv;obtain⟨nX,uH,Hz,HR,RA⟩:=Z5 pt cP h2 (And.intro r1 (And.intro r2 r3)) (And.intro nv nt);clear h hW hv ht qj WW cX sj dt dF fx MR pv pt cP h2 r1 r2 r3 nv nt;go_enter func6,ntmps6;go_wp2_with fail;refine zX.mono ?_;clear zX;rintro e1 W3 ⟨B,σ,obj,rfl,cG,hn,gP,ji,mO,eR,mY⟩;generalize(W.alloc (bx v av cv)).alloc (bx t ae ct)=W2 at dP wX oT kp QU Hk ji mO mY;have WX:=Z (⟨mO,eR,mY,ji.size⟩:LoB W2.heap.size B σ W3);have Ib:=Z ji;have Ic:=zY H.1.env.wk H.1.env.qp (H.1.jg B) (λS D=>(H.1.said S D obj).2.2) H.1.env.hs H.1.qr H.1.cr cG hn nX.1 (wX.1.rt ji Hk.1) (by rw[gP];simpa using RA.1.2);obtain⟨y0,y1,y2,y3,y4,y5,y6⟩:=ao ((ji.block _ (jQ2 kp.1)).trans kp.1);clear cG hn gP ji mO eR mY;go_wp2_with fail;refine Ic.mono ?_;clear Ic y0 y1 y2 y3 y4 y5 y6;rintro e2 W4 ⟨u,Ie,rfl,hu,RB,CH,RF,hof⟩;obtain⟨-,b,rfl,rN⟩:=hu.resolve_right (λk=>by have:=k.1;rw[uH.1]at this;cases this);obtain⟨Ig,Ih⟩:=WX.1.of hof;have uI:=Ib.1.trans Ih;obtain⟨HL4,aa1,wL⟩:=Z3 Ig uI rN;have RG:=uJ (H.1.jg B) (λS D=>(H.1.said S D obj).2.2) H.1.env.hs H.1.qr H.1.cr RB CH (ZE.1.eS (jQ0 _) (λ_ h=>h) m9 id id) (wX.1.rt uI QU.1) (by rw[RF];simpa using RA.1.1);obtain⟨y0,y1,y2,y3,y4,y5,y6⟩:=ao ((uI.block _ (jQ2 oT.1)).trans oT.1);clear hu RB CH RF hof Ig Ih uI rN Ib WX;go_wp2_with fail;refine RG.mono ?_;clear RG y0 y1 y2 y3 y4 y5 y6;rintro e3 W5 ⟨u2,fT,rfl,qq,Ii,iK,yT,zZ⟩;obtain⟨yh,yi⟩:=HL4.1.of zZ;obtain⟨b3,rfl, -⟩:=id qq;have RH:=im0_of H.1 Ii iK (zZ.sle _ _ wL.1) qq nX.1 ZE.1 uH.1 Hz.1 HR.1.1 HR.1.2.1 HR.1.2.2;have zv:=H.1.said fT.S fT.D obj;have WY:=Sat0_calls H.1.env zv.2.1 zv.2.2 H.1.rK RH;have ZF:=Z yh;have OJ:=Z (aa1.1.trans yi);clear qq Ii iK yT zZ yh yi RH zv;go_wp2_with fail;refine WY.mono ?_;clear WY;rintro e4 W6 ⟨v6,rfl,rfl, -,Ij⟩;have HP:=Z (show Below W.heap.size W W6 from dP.1.trans ((OJ.1.trans (zW ZF.1.lo ZF.1.sz Ij)).mono dP.1.size));clear Ij;go_wp2_with fail;go_ret;exact⟨rfl,HP.1⟩
theorem wY(h:IE NS Q w rs cs K r)(hW:WH DI w a c W)(hv:RT DI W v vv)(pv:PT NS Q w 0 v)(r1:2*J rs true false v+1<r)(nv:nds v<=1099511627776):
 Calls prog 7 #[.slice a w.length c,vv] W λe W'=>e=.returned (.bool ((fs w K).cmp v true))/\Below W.heap.size W W':=by
 have qj:=hv;obtain⟨av,cv,rfl, -⟩:=hv.bR;have ar:=an W (bx v av cv);have dt:=ak W (bx v av cv);obtain⟨H,bS,OL,Kj,ZE,HR,RA,ZG⟩:=Z8 h ar (hW.mv ar) (hW.rt ar qj) pv r1 nv (show∀w',Below (W.alloc (bx v av cv)).heap.size (W.alloc (bx v av cv)) w'->w'.cell? ⟨W.heap.size,0,none⟩=some (.int .i64 v.kind)/\w'.cell? ⟨W.heap.size,1,none⟩=some (.int .i64 v.n)/\w'.cell? ⟨W.heap.size,2,none⟩=some (.int .i64 v.m)/\w'.cell? ⟨W.heap.size,3,none⟩=some (.bool v.va)/\w'.cell? ⟨W.heap.size,4,none⟩=some (.string v.name)/\w'.cell? ⟨W.heap.size,5,none⟩=some (.string v.tag)/\w'.cell? ⟨W.heap.size,6,none⟩=some (.slice av v.elems.length cv)from λw' hb=>ao ((hb.block _ (jQ2 dt)).trans dt));clear h hW hv qj ar dt pv r1 nv;go_enter func7,ntmps7;go_wp2_with fail;generalize W.alloc (bx v av cv)=w1 at bS OL Kj ZG⊢;refine jQ9 (S:=(λw'=>w'.cell? ⟨W.heap.size,0,none⟩=some (.int .i64 v.kind)/\w'.cell? ⟨W.heap.size,1,none⟩=some (.int .i64 v.n)/\w'.cell? ⟨W.heap.size,2,none⟩=some (.int .i64 v.m)/\w'.cell? ⟨W.heap.size,3,none⟩=some (.bool v.va)/\w'.cell? ⟨W.heap.size,4,none⟩=some (.string v.name)/\w'.cell? ⟨W.heap.size,5,none⟩=some (.string v.tag)/\w'.cell? ⟨W.heap.size,6,none⟩=some (.slice av v.elems.length cv))) g9 (ZG.1 _ (jQ5 _ _).drew) (λai=>?_);refine t2 0 2 ?_;refine rd 1 rfl λK hK=>?_;go_simp;clear ai;refine(H.1.build (OL.1.mv (jQ5 _ _).drew)).mono ?_;rintro e1 W3 ⟨B,σ,obj,rfl,cG,hn,gP,ZH,mO,eR,mY⟩;have ji:Below w1.heap.size w1 W3:=(jQ5 _ _).drew.trans ZH;obtain⟨WX,Ib,kL⟩:=Z3 (⟨mO,eR,mY,ji.size⟩:LoB w1.heap.size B σ W3) ji (And.intro cG (And.intro hn gP));refine hK.out _ _ (ZG.1 _ ji) (λai=>?_);clear cG hn gP ZH ji mO eR mY;clear hK K;refine rd 3 rfl λK hK=>?_;go_simp;have hh:=ai;clear ai;refine(uJ (H.1.jg B) (λS D=>(H.1.said S D obj).2.2) H.1.env.hs H.1.qr H.1.cr kL.1.1 kL.1.2.1 (ZE.1.eS (jQ0 _) (λ_ h=>h) m9 id id) (OL.1.rt Ib.1 Kj.1) (by rw[kL.1.2.2];simpa using RA.1)).mono ?_;rintro e3 W5 ⟨u2,fT,rfl,qq,Ii,iK,yT,zZ⟩;obtain⟨yh,yi⟩:=WX.1.of zZ;obtain⟨b3,rfl, -⟩:=id qq;obtain⟨ZF,OJ,HC⟩:=Z3 yh (Ib.1.trans yi) (OM (H.1.said fT.S fT.D obj).2.1 (Ii.ok iK rs r) qq ZE.1 HR.1);refine hK.out _ _ (ZG.1 _ OJ.1) (λai=>?_);clear hh qq Ii iK yT zZ yh yi;clear hK K;refine rd 4 rfl λK hK=>?_;go_simp;clear ai;refine HC.1.mono ?_;rintro e4 W6 ⟨v6,rfl,rfl, -,Ij⟩;have ads:=Z (OJ.1.trans (zW ZF.1.lo ZF.1.sz Ij));refine hK.out _ _ (ZG.1 _ ads.1) (λai=>?_);clear Ij;clear hK K;refine tk 5 ?_;refine jQl g9 ?_ _;clear ai;go_wp2_with fail;go_ret;exact⟨rfl,bS.1.trans (ads.1.mono bS.1.size)⟩
end
theorem ac0(W:World)(o p q s:Obj):Below W.heap.size W ((((W.alloc o).alloc p).alloc q).alloc s):=(pE W o p q).alloc (by simp;omega) s
theorem RMC.take:∀{l:List aH} {b o:Nat},RMC D W l b o->∀m,RMC D W (l.take m) b o
 |[],_,_,_,m=>by simp[RMC]
 |x::l,b,o,hr,0=>by simp[RMC]
 |x::l,b,o,hr,m+1=>⟨hr.1,RMC.take hr.2 m⟩
theorem RM.take{l:List aH}{m:Nat}(h:RM D W l (.slice a n c))(hm:m<=l.length):RM D W (l.take m) (.slice a m c):=by
 rcases h with⟨rfl,a1,c1,e,h1⟩|⟨bk,b,o,c1,e,h1,h2,h3,h4⟩
 ·simp at e;obtain⟨rfl,rfl,rfl⟩:=e;have:m=0:=by simpa using hm
  subst this;exact .inl ⟨i6,a,c,rfl,h1⟩
 ·simp at e;obtain⟨rfl,rfl,rfl⟩:=e;by_cases h0:m=0
  ·subst h0;exact .inl ⟨i6,some ⟨b,o,none⟩,c,rfl,λe=>by cases e⟩
  ·have hl:(l.take m).length=m:=by simp;omega
   refine .inr ⟨λe=>by rw[e]at hl;simp at hl;omega,b,o,c,by rw[hl],by rw[hl];omega,h2,h3,h4.take m⟩
theorem aiu{d:ah}(h:∀m∈d.meths,NB m.sig/\m.name.size<=9223372036854775807){m:aH}(hm:d.meths[kk]?=some m):NB m.sig/\m.name.size<=9223372036854775807:=h m (jQ8 hm)
theorem VF(f:α->Bool)(l:List α):anyM (λa=>some (f a)) l=some (l.any f):=pJ f l
theorem SA(k:Nat)(w:List ah)(ws:Value)(d:ah)(n:Int)(r:Bool)(v:Value)(W:World)(D:Nat->Prop)(hp:fS k w d n=some r)(hn:NB d.under)(dU:∀m∈d.meths,NB m.sig/\m.name.size<=9223372036854775807)(hx:Cx D w ws W)(hv:VDc D W d v):
 Calls prog 15 #[ws,v,.int .i64 n] W (ef W r):=by
 obtain⟨a,c,a',c',rfl,hs,hm⟩:=hv;obtain⟨wa,wc,rfl⟩:=hx.rd.form;have HA:=Z (ac0 W (CO d a c a' c') (.cells #[.int .i64 d.under.kind] 3) (px ⟨n,false,false⟩) (px ⟨n,true,false⟩));rcases ZB hp with⟨hk,rfl⟩|⟨hk,UN⟩
 ·clear hp hx hs hm hn dU;by_cases h1:d.under.kind<1
  ·have k1:(d.under.kind<1)=True:=eq_true h1;clear hk h1;go_enter func15,ntmps15;exact M34
  ·have k1:(d.under.kind<1)=False:=eq_false h1;by_cases h2:d.under.kind=2
   ·have k2:(d.under.kind==2)=true:=by simp[h2]
    clear hk h1 h2;go_enter func15,ntmps15;exact M34
   ·have k2:(d.under.kind==2)=false:=by simp[h2]
    have k3:((10:Int)<d.under.kind)=True:=eq_true m9;clear hk h1 h2;go_enter func15,ntmps15;exact M34
 ·have k1:(d.under.kind<1)=False:=eq_false m9;have k2:(d.under.kind==2)=false:=by simp;omega
  have k3:((10:Int)<d.under.kind)=False:=eq_false m9;have HP:=(ui k).1;obtain⟨HX,HS,HM,wS,eQ,bS,dP⟩:=Z7 (hx.mv HA.1) (hs.mv hx.lo HA.1) (hm.move (hx.lo.aJ HA.1)) dU (aq (o:=px ⟨n,true,false⟩) (aq (o:=px ⟨n,false,false⟩) (aq (o:=.cells #[.int .i64 d.under.kind] 3) (ak W (CO d a c a' c'))))) (aq (o:=px ⟨n,true,false⟩) (aq (o:=px ⟨n,false,false⟩) (ak (W.alloc (CO d a c a' c')) (.cells #[.int .i64 d.under.kind] 3)))) (aq (o:=px ⟨n,true,false⟩) (ak ((W.alloc (CO d a c a' c')).alloc (.cells #[.int .i64 d.under.kind] 3)) (px ⟨n,false,false⟩)));simp only[jQ3]at eQ bS dP;have zI:W.heap.size<((((W.alloc (CO d a c a' c')).alloc (.cells #[.int .i64 d.under.kind] 3)).alloc (px ⟨n,false,false⟩)).alloc (px ⟨n,true,false⟩)).heap.size:=by simp;omega
  have iT:W.heap.size+1<((((W.alloc (CO d a c a' c')).alloc (.cells #[.int .i64 d.under.kind] 3)).alloc (px ⟨n,false,false⟩)).alloc (px ⟨n,true,false⟩)).heap.size:=by simp;try omega
  have mU:W.heap.size+1+1<((((W.alloc (CO d a c a' c')).alloc (.cells #[.int .i64 d.under.kind] 3)).alloc (px ⟨n,false,false⟩)).alloc (px ⟨n,true,false⟩)).heap.size:=by simp;try omega
  obtain⟨b,hb,hR⟩:∃b,placed w k d.under ⟨n,true,false⟩=some b/\((b=false/\r=false)\/(b=true/\∃rr,rangeM (pdF w k d ⟨n,false,false⟩) 0 d.meths=some rr/\
   ((rr=some r)\/(rr=none/\r=(d.meths.length==0||(d.under.kind !=10&&eM d.under)))))):=by
   rcases UN with⟨h,h'⟩|⟨h,h'⟩
   ·exact⟨_,h,.inl ⟨rfl,h'⟩⟩
   ·exact⟨_,h,.inr ⟨rfl,h'⟩⟩
  have ag:=HP w _ d.under ⟨n,true,false⟩ b _ _ D hb hn HX.1 (RT.mk' HS.1);have HRB:=Z hR;have HP:=Z HP;clear hp hx hs hm hn dU hk UN hb hR;go_enter func15,ntmps15;go_wp2_with fail;generalize Hr:(((W.alloc (CO d a c a' c')).alloc (.cells #[.int .i64 d.under.kind] 3)).alloc (px ⟨n,false,false⟩)).alloc (px ⟨n,true,false⟩)=wn at HA HX HS HM eQ bS dP ag zI iT mU
  try rw[Hr]
  clear Hr;refine ag.mono ?_;rintro e w1 ⟨rfl,ar⟩;have gj:=ar.size;obtain⟨HA,HS,HM,HX,eQ,bS,dP⟩:=Z7 (HA.1.trans (ar.mono HA.1.size)) (HS.1.mv HX.1.lo ar) (HM.1.move (HX.1.lo.aJ ar)) (HX.1.mv ar) (aj ar eQ.1 zI) (aj ar bS.1 iT) (aj ar dP.1 mU);clear ar ag;rcases HRB.1 with⟨rfl,rfl⟩|⟨rfl,rr,Ay,II⟩
  ·exact M34
  obtain⟨b0, -, -, -, -, -, -,b7⟩:=nH eQ.1;have Hq:=Z Ay;have IJ:=Z II;have Ed:W.heap.size<w1.heap.size:=m9
  have fP:W.heap.size+1<w1.heap.size:=m9
  have nT:W.heap.size+1+1<w1.heap.size:=m9
  have ZL:d.meths.length<=9223372036854775807:=by
   rcases HM.1 with⟨he,_⟩|⟨_,b,o,q,he,h1,h2,_⟩
   ·rw[he];simp
   ·omega
  clear zI iT mU gj Ay II HRB;go_wp2_with fail;clear b0 b7
  go_loopg [10,11,12,13,42] d.meths.length (λgg _ _ _ _ s42 wr=>∃kk:Nat,kk<=d.meths.length/\d.meths.length - kk<=gg/\s42=.int .i64 kk/\Aside (Below w1.heap.size w1 wr)/\Aside (rangeM (pdF w k d ⟨n,false,false⟩) kk (d.meths.drop kk)=some rr))
  case atStart=>exact⟨0,jQc _,m9,rfl,jQ5 _ _,by rw[jR0];exact Hq.1⟩
  case round=>
   obtain⟨kk,ez,hg,rfl,BW,A⟩:=hrel;have dZ:=BW.out.size;have Ks:W.heap.size<wr.heap.size:=m9
   have cz:W.heap.size+1<wr.heap.size:=m9
   have eX:W.heap.size+1+1<wr.heap.size:=m9
   obtain⟨FP,pA,HSr,HMr,Sz,agj,aiv⟩:=Z7 (HA.1.trans (BW.out.mono HA.1.size)) (HX.1.mv BW.out) (HS.1.mv HX.1.lo BW.out) (HM.1.move (HX.1.lo.aJ BW.out)) (aj BW.out eQ.1 Ed) (aj BW.out bS.1 fP) (aj BW.out dP.1 nT);obtain⟨b0,b1,b2,b3,b4,b5,b6,b7⟩:=nH Sz.1;obtain⟨d0,d1,d2⟩:=nQ aiv.1;have kc:=jQh agj.1;by_cases aM:kk<d.meths.length
   ·have aR:(kk:Int)<(d.meths.length:Int):=m9
    obtain⟨m,uD⟩:∃m,d.meths[kk]?=some m:=⟨d.meths[kk],by simp[aM]⟩;have ie:=kW (drop_at uD) A.out;have ac1:=aiu wS.1 uD;rcases HMr.1 with⟨he,_⟩|⟨_,bm,om,cm',dN,fh,fL,kN,hC⟩
    ·exact M102
    simp at dN;obtain⟨rfl,rfl⟩:=dN;obtain⟨f0,f1,hE⟩:=hC.at uD;obtain⟨sa,sc,f2,f3,f4,f5,f6,f7,f8,iL⟩:=hE.bR;have j6:bm<wr.heap.size:=pA.1.lo _ kN;have dt:∃x,pdF w k d ⟨n,false,false⟩ kk m=some x/\((x=some r/\True)\/(x=none/\rangeM (pdF w k d ⟨n,false,false⟩) (kk+1) (d.meths.drop (kk+1))=some rr)):=M100
    obtain⟨x,Lj,dF⟩:=dt;obtain⟨Km,kp,Ra⟩:=Z3 iL dF (an wr (mbx m sa sc));have hnz:=ac1.2;have HNB:=Z ac1.1;clear hE hC iL uD ie A dF ac1;rcases QS Lj with⟨dU,rfl⟩|⟨dU,h7,rfl⟩|⟨dU,h7,OF⟩
    ·have hr:r=false:=by rcases kp.1 with⟨h,_⟩|⟨h,_⟩<;>simp at h;exact h
     subst hr;clear Lj;exact M121
    ·have hr:r=false:=by rcases kp.1 with⟨h,_⟩|⟨h,_⟩<;>simp at h;exact h
     subst hr;have k7:(m.sig.kind !=7)=true:=by simp[h7]
     clear Lj h7;exact M121
    ·have k7:(m.sig.kind !=7)=false:=by simp[h7]
     clear Lj h7;go_wp2_with fail;refine(fO _ _ hnz).mono ?_;rintro e w' ⟨rfl,rfl⟩;rw[dU];obtain⟨bp,hbp,OF⟩:∃bp,placed w k m.sig ⟨n,false,false⟩=some bp/\((bp=false/\x=some false)\/(bp=true/\(((d.meths.take kk).any (λx=>aE x.name m.name)=true/\x=some false)\/((d.meths.take kk).any (λx=>aE x.name m.name)=false/\
      ((d.under.elems.any (λf=>d.under.kind==5&&aE f.name m.name)=true/\x=some false)\/(d.under.elems.any (λf=>d.under.kind==5&&aE f.name m.name)=false/\x=none)))))):=by
      rcases OF with⟨h,h'⟩|⟨h,h'⟩
      ·exact⟨_,h,.inl ⟨rfl,h'⟩⟩
      ·exact⟨_,h,.inr ⟨rfl,h'⟩⟩
     have HCS:=Z OF;have ag:=HP.1 w _ m.sig ⟨n,false,false⟩ bp _ _ D hbp HNB.1 (pA.1.mv Ra.1) (Km.1.mv pA.1.lo Ra.1);clear OF hbp;go_wp2_with fail;refine ag.mono ?_;rintro e w2 ⟨rfl,cX⟩;have j7:=cX.size;simp only[jQ3]at j7;have HB:=Z (Ra.1.trans (cX.mono Ra.1.size));have KF:=Z (aj cX (ak wr (mbx m sa sc)) i6);clear cX ag;obtain⟨ac4,HS2,rG,HK2⟩:=Z4 (pA.1.mv HB.1) (HSr.1.mv pA.1.lo HB.1) (HMr.1.move (pA.1.lo.aJ HB.1)) (jQh (aj HB.1 agj.1 cz));obtain⟨g0, -, -, -, -, -,g6,g7⟩:=nH (aj HB.1 Sz.1 Ks);clear b0 b1 b2 b3 b4 b5 b6 b7 d0 d1 d2 kc f0 f1 f2 f3 f4 f5 f6 f7 f8;rcases HCS.1 with⟨rfl,rfl⟩|⟨rfl,OF⟩
     ·have hr:r=false:=by rcases kp.1 with⟨h,_⟩|⟨h,_⟩<;>simp at h;exact h
      subst hr;go_wp2_with fail;go_ret;exact⟨rfl,FP.1.trans (HB.1.mono FP.1.size)⟩
     obtain⟨ba,Wn⟩:∃ba,(d.meths.take kk).any (λx=>aE x.name m.name)=ba:=⟨_,rfl⟩;obtain⟨bf,X7⟩:∃bf,d.under.elems.any (λf=>d.under.kind==5&&aE f.name m.name)=bf:=⟨_,rfl⟩;rw[Wn,X7]at OF;have ag:=yG (d.meths.take kk) (.slice (some ⟨bm,om,none⟩) kk c') w2 D (rG.1.take ez) ac4.1.lo 34 #[.pointer (some ⟨wr.heap.size,0,none⟩)] Tryz.call34 (λx=>some (aE x.name m.name))
      (λW1 t v bb hb _ hv hp=>by
       have:=aiw t m v W1 D wr.heap.size hv (aj hb KF.1 m9);simp at hp;subst hp;exact this) ba (by rw[<-Wn];exact VF _ _)
     have vD:=Z OF;have HBF:=Z X7;have D8:=uW;have yV:kk<=d.meths.length:=ez;clear OF Wn X7;go_wp2_with fail;refine ag.mono ?_;rintro e w3 ⟨rfl,aZ⟩;have JD:=aZ.size;obtain⟨kL,tW,C9,HK3,aix⟩:=Z5 (HB.1.trans (aZ.mono HB.1.size)) (ac4.1.mv aZ) (HS2.1.mv ac4.1.lo aZ) ((aZ.cell (p:=⟨W.heap.size+1,0,none⟩) (by simp only;omega)).trans HK2.1) (aj aZ KF.1 m9);clear g0 g6 g7;obtain⟨g0, -, -, -, -, -,g6,g7⟩:=nH (aj aZ (aj HB.1 Sz.1 Ks) m9);clear aZ ag;rcases vD.1 with⟨rfl,rfl⟩|⟨rfl,OF⟩
     ·have hr:r=false:=by rcases kp.1 with⟨h,_⟩|⟨h,_⟩<;>simp at h;exact h
      subst hr;exact M215
     have ag:=cL d.under.elems _ w3 D C9.1 tW.1.lo 35 #[.pointer (some ⟨W.heap.size+1,0,none⟩),.pointer (some ⟨wr.heap.size,0,none⟩)] Tryz.call35 (λf:GT=>some (d.under.kind==5&&aE f.name m.name))
      (λW1 t v bb hb _ hv hp=>by
       have:=aiy t d.under.kind m v W1 D (W.heap.size+1) wr.heap.size hv ((hb.cell (p:=⟨W.heap.size+1,0,none⟩) (by simp only;omega)).trans HK3.1) (aj hb aix.1 m9);simp only[Option.some.injEq]at hp;subst hp;exact this) bf (by rw[<-HBF.1];exact pJ (λf:GT=>d.under.kind==5&&aE f.name m.name) _)
     have aiz:=Z OF;clear OF;go_wp2_with fail;refine ag.mono ?_;rintro e w4 ⟨rfl,dI⟩;have xL:=Z (kL.1.trans (dI.mono kL.1.size));clear dI ag;rcases aiz.1 with⟨rfl,rfl⟩|⟨rfl,rfl⟩
     ·have hr:r=false:=by rcases kp.1 with⟨h,_⟩|⟨h,_⟩<;>simp at h;exact h
      subst hr;go_wp2_with fail;go_ret;exact⟨rfl,FP.1.trans (xL.1.mono FP.1.size)⟩
     ·have IK:rangeM (pdF w k d ⟨n,false,false⟩) (kk+1) (d.meths.drop (kk+1))=some rr:=by
       rcases kp.1 with⟨h,_⟩|⟨_,h⟩
       ·cases h
       ·exact h
      have HN:=Z IK;clear IK;go_wp2_with fail;go_roundg (d.meths.length - (kk+1))
      case measure=>omega
      case rel=>exact⟨kk+1,m9,m9,by go_num,BW.out.trans (xL.1.mono dZ),HN.1⟩
   ·have aR:¬(kk:Int)<(d.meths.length:Int):=m9
    have hA:=A.out;rw[jQf m9,rangeM]at hA;have SB:rr=none:=by simpa using hA.symm
    subst SB;have hr:r=(d.meths.length==0||(d.under.kind !=10&&eM d.under)):=M180
    have ag:=uT d.under _ wr D (RT.mk' HSr.1);clear hA A aM ez hg ZL;have hL:∀l:Nat,((l:Int)==0)=(l==0):=λl=>by cases l<;>rfl
    have HL:=Z hL;clear hL;go_wp2_with fail
    ·go_ret;exact⟨rfl,FP.1⟩
    ·go_ret;exact⟨congrArg (λb=>Ending.returned (.bool b)) (HL.1 _),FP.1⟩
    ·refine ag.mono ?_;rintro e w5 ⟨rfl,iD⟩;have xx:=Z iD;clear iD ag;go_wp2_with fail;go_ret;exact⟨(show Ending.returned (.bool (((d.meths.length:Int)==0)||((d.under.kind !=10)&&eM d.under)))=Ending.returned (.bool r)by rw[hr,HL.1]),FP.1.trans (xx.1.mono FP.1.size)⟩
def aam(D:Nat->Prop)(W:World)(g:Nat)(lb:Array Value)(zs:List ah)(p:ah->Option Bool):Prop:=
 ∀(W1:World) (t:ah) (v:Value) (bb:Bool),Below W.heap.size W W1->t∈zs->VDc D W1 t v->p t=some bb->
  Calls prog g (#[v]++lb) W1 λe W2=>e=.returned (.bool bb)/\Below W1.heap.size W1 W2
theorem L7(zs:List ah)(sl:Value)(W:World)(D:Nat->Prop)(hs:RD D W zs sl)(hD:Lo D W.heap.size)(g:Nat)(lb:Array Value)(eg:∀args w,(callFunc g args).run prog w=.ok (.enter g args) w)(p:ah->Option Bool)(hp:aam D W g lb zs p)(r:Bool)(hr:anyM p zs=some r):
 Calls prog 40 #[sl,.func (.func g) #[] lb] W (abF W r):=by
 rcases hs with⟨rfl,a,c,rfl,ha⟩|⟨bk,b,o,c,rfl,Jd,hc,kN,hC⟩
 ·have Nn:r=false:=by simpa[anyM]using hr.symm
  subst Nn;go_enter func40,ntmps40
  go_wp2
  go_loopg [5,8] 0 (λgg s5 s8 wr=>s8=.int .i64 0/\wr=W)
  case atStart=>exact⟨rfl,rfl⟩
  case round=>
   obtain⟨rfl,rfl⟩:=hrel
   go_wp2
   go_ret;exact⟨-1,rfl,i6,jQ5 _ _⟩
 ·have hz:zs.length<=9223372036854775807:=m9
  have hbW:=kN;go_enter func40,ntmps40
  go_wp2
  go_loopg [5,8] zs.length (λgg _ s8 wr=>∃kk:Nat,kk<=zs.length/\zs.length - kk<=gg/\s8=.int .i64 kk/\Aside (Below W.heap.size W wr)/\Aside (anyM p (zs.drop kk)=some r))
  case atStart=>exact⟨0,jQc _,m9,rfl,jQ5 _ W,by simpa[Aside]using hr⟩
  case round=>
   obtain⟨kk,ez,hg,rfl,BW,A⟩:=hrel;by_cases aM:kk<zs.length
   ·have aR:(kk:Int)<(zs.length:Int):=m9
    obtain⟨t,ht⟩:∃t,zs[kk]?=some t:=⟨zs[kk],by simp[aM]⟩;obtain⟨hE,ms,n7,jK⟩:=(RDC.move (hD.aJ BW.out) (BW.out.block b kN) hC).at ht;obtain⟨am,cm,rfl⟩:=jK.form;obtain⟨a1,q1,c0,c1,c2,c3,c4,c5,c6,hv⟩:=hE.bR;obtain⟨a1',q1',e',VS⟩:=hv.bR;simp at e';obtain⟨rfl,rfl⟩:=e';have bL:zs.drop kk=t::zs.drop (kk+1):=M189
    have hA:=A.out;rw[bL,anyM]at hA;obtain⟨bb,mO,hA2⟩:=jQ1.1 hA;have ag:=hp wr t _ bb BW.out (jQ8 ht) ⟨a1,q1,am,cm,rfl,VS,jK⟩ mO;clear hE hA hp hr hv ht VS hC jK;exact M23
   ·have aR:¬(kk:Int)<(zs.length:Int):=m9
    have Jn:r=false:=M151
    subst Jn
    go_wp2
    go_ret;exact⟨-1,rfl,i6,BW.out⟩
theorem IL(zs:List ah)(sl:Value)(W:World)(D:Nat->Prop)(hs:RD D W zs sl)(hD:Lo D W.heap.size)(g:Nat)(lb:Array Value)(eg:∀args w,(callFunc g args).run prog w=.ok (.enter g args) w)(p:ah->Option Bool)(hp:aam D W g lb zs p)(r:Bool)(hr:anyM p zs=some r):
 Calls prog 16 #[sl,.func (.func g) #[] lb] W λe W'=>e=.returned (.bool r)/\Below W.heap.size W W':=by
 go_enter func16,ntmps16;go_wp2_with (go_at_call 40;refine(L7 zs sl W D hs hD g lb eg p hp r hr).mono ?_;rintro e w' ⟨q,rfl,hq,hb⟩);go_ret;exact⟨by simp[<-hq],hb⟩
theorem mdC(k:Nat)(ih:mi k)(w:List ah)(ws:Value)(m:aH)(r:Bool)(v:Value)(W:World)(D:Nat->Prop)(Bw:Nat)(hp:bh (gT w k m.sig false)=some r)(hx:Cx D w ws W)(hv:VM D W m v)(hB:W.cell? ⟨Bw,0,none⟩=some ws):
 Calls prog 42 #[v,.pointer (some ⟨Bw,0,none⟩)] W (ef W r):=by
 have lR:=jQs hB;simp only at lR;obtain⟨b,hb,rfl⟩:=jQ6.1 hp;obtain⟨a,c,rfl,hs⟩:=hv;obtain⟨wa,wc,rfl⟩:=hx.rd.form;have HA:=Z (an W (mbx m a c));have ag:=ih w _ m.sig false b _ _ D hb (hx.mv HA.1) (RT.mk' (hs.mv hx.lo HA.1));clear hp hx hs hb;go_enter func42,ntmps42;exact M6
theorem y9(k:Nat)(ih:mi k)(w:List ah)(ws:Value)(d:ah)(r:Bool)(v:Value)(W:World)(D:Nat->Prop)(hp:fB k w d=some r)(hx:Cx D w ws W)(hv:VDc D W d v):Calls prog 18 #[ws,v] W (ef W r):=by
 obtain⟨a,c,a',c',rfl,hs,hm⟩:=hv;obtain⟨wa,wc,rfl⟩:=hx.rd.form;have HA:=Z (dT W (.cells #[.slice wa w.length wc] 22) (CO d a c a' c'));have fw:=jQh (aq (o:=CO d a c a' c') (ak W (.cells #[.slice wa w.length wc] 22)));have HD:=Z (ak (W.alloc (.cells #[.slice wa w.length wc] 22)) (CO d a c a' c'));simp only[jQ3]at HD;have HX:=Z (hx.mv HA.1);have HM:=Z (hm.move (hx.lo.aJ HA.1));have Fh:=RT.mk' (hs.mv hx.lo HA.1);unfold fB at hp;rcases cY hp with⟨h1,rfl⟩|⟨h1,h3⟩
 ·have ag:=ih w _ d.under true false _ _ D h1 HX.1 Fh;clear hp hx hs hm Fh h1;go_enter func18,ntmps18;exact M6
 ·have ag:=ih w _ d.under true true _ _ D h1 HX.1 Fh;have dP:=Z fw;have H3:=Z h3;clear hp hx hs hm Fh h1 h3 fw;go_enter func18,ntmps18;go_wp2_with fail;refine ag.mono ?_;rintro e w1 ⟨rfl,ar⟩;have HB:=Z (HA.1.trans (ar.mono HA.1.size));have Lc:∀w2,Below w1.heap.size w1 w2->w2.cell? ⟨W.heap.size,0,none⟩=some (.slice wa w.length wc):=λw2 hb=>
   ((ar.trans (hb.mono ar.size)).cell (p:=⟨W.heap.size,0,none⟩) (by simp;omega)).trans dP.1
  obtain⟨b0, -, -, -, -, -, -,b7⟩:=nH (aj ar HD.1 i6);have oT:=Z (HX.1.mv ar);have ag:=yG d.meths _ w1 D (HM.1.move (HX.1.lo.aJ ar)) oT.1.lo 42 #[.pointer (some ⟨W.heap.size,0,none⟩)] Tryz.call42 (λm=>bh (gT w k m.sig false))
   (λW1 t v bb hb _ hv hp=>mdC k ih w _ t bb v W1 D W.heap.size hp (oT.1.mv hb) hv (Lc W1 hb)) (!r) (aX H3.1)
  have D8:=uW;clear ar Lc;go_wp2_with fail;refine ag.mono ?_;rintro e w2 ⟨rfl,cX⟩;have Ky:=Z (HB.1.trans (cX.mono HB.1.size));clear cX ag;go_wp2_with fail;go_ret;exact⟨i6,Ky.1⟩
def NBD(d:ah):Prop:=NB d.under/\∀m∈d.meths,NB m.sig/\m.name.size<=9223372036854775807
def vaF(w:List ah)(k:Nat)(i:Nat)(d:ah):Option (Option Bool):=(fS k w d i).map λb=>if b then none else some false
theorem Lr{r:Bool}(h:valid k w=some r):∃rr,rangeM (vaF w k) 0 w=some rr/\((rr=some r)\/(rr=none/\bh (anyM (λd=>bh (fB k w d)) w)=some r)):=by
 unfold valid at h;obtain⟨rr,h1,h2⟩:=jQ1.1 h;refine⟨rr,h1,?_⟩;cases rr with
 |some b=>exact .inl h2
 |none=>exact .inr ⟨rfl,h2⟩
theorem vaC(k:Nat)(ih:mi k)(w:List ah)(ws:Value)(d:ah)(r:Bool)(v:Value)(W:World)(D:Nat->Prop)(Bw:Nat)(hp:bh (fB k w d)=some r)(hx:Cx D w ws W)(hv:VDc D W d v)(hB:W.cell? ⟨Bw,0,none⟩=some ws):
 Calls prog 17 #[v,.pointer (some ⟨Bw,0,none⟩)] W (ef W r):=by
 have lR:=jQs hB;simp only at lR;obtain⟨b,hb,rfl⟩:=jQ6.1 hp;obtain⟨a,c,a',c',rfl,hs,hm⟩:=hv;obtain⟨wa,wc,rfl⟩:=hx.rd.form;have HA:=Z (an W (CO d a c a' c'));have ag:=y9 k ih w _ d b _ _ D hb (hx.mv HA.1) ⟨a,c,a',c',rfl,hs.mv hx.lo HA.1,hm.move (hx.lo.aJ HA.1)⟩;clear hp hx hs hm hb;go_enter func17,ntmps17;exact M6
theorem nh(k:Nat)(ez:(k:Int)+1<=1125899906842624)(w:List ah)(ws:Value)(r:Bool)(W:World)(D:Nat->Prop)(hp:valid k w=some r)(hn:∀d∈w,NBD d)(hx:Cx D w ws W):
 Calls prog 8 #[ws] W (ef W r):=by
 have Q2:=Z (xw k ez).1;obtain⟨rr,Ay,II⟩:=Lr hp;obtain⟨wa,wc,rfl⟩:=hx.rd.form;have HA:=Z (an W (.cells #[.slice wa w.length wc] 22));obtain⟨eQ,HX,Hq,IJ,HN⟩:=Z5 (ak W (.cells #[.slice wa w.length wc] 22)) (hx.mv HA.1) Ay II hn;have ZL:w.length<=9223372036854775807:=by
  rcases hx.rd with⟨he,_⟩|⟨_,b,o,q,he,h1,h2,_⟩
  ·rw[he];simp
  ·omega
 have Ed:W.heap.size<(W.alloc (.cells #[.slice wa w.length wc] 22)).heap.size:=i6
 clear hp hx Ay II hn ez;go_enter func8,ntmps8;go_wp2_with fail;generalize Hr:W.alloc (.cells #[.slice wa w.length wc] 22)=w1 at HA HX eQ Ed
 try rw[Hr]
 clear Hr
 go_loopg [3,4,7] w.length (λgg _ _ s7 wr=>∃kk:Nat,kk<=w.length/\w.length - kk<=gg/\s7=.int .i64 kk/\Aside (Below w1.heap.size w1 wr)/\Aside (rangeM (vaF w k) kk (w.drop kk)=some rr))
 case atStart=>exact⟨0,jQc _,m9,rfl,jQ5 _ _,by rw[jR0];exact Hq.1⟩
 case round=>
  obtain⟨kk,ez,hg,rfl,BW,A⟩:=hrel;have dZ:=BW.out.size;have Ks:W.heap.size<wr.heap.size:=m9
  obtain⟨FP,pA,Sz⟩:=Z3 (HA.1.trans (BW.out.mono HA.1.size)) (HX.1.mv BW.out) (aj BW.out eQ.1 Ed);have b0:=jQh Sz.1;by_cases aM:kk<w.length
  ·have aR:(kk:Int)<(w.length:Int):=m9
   obtain⟨d,uD⟩:∃d,w[kk]?=some d:=⟨w[kk],by simp[aM]⟩;have ie:=kW (drop_at uD) A.out;have Xd:=Z (HN.1 d (jQ8 uD));rcases pA.1.rd with⟨he,_⟩|⟨_,bm,om,cm',dN,fh,fL,kN,hC⟩
   ·exact M102
   simp at dN;obtain⟨rfl,rfl⟩:=dN;obtain⟨hE,ms,f7,jK⟩:=hC.at uD;obtain⟨am,cm,rfl⟩:=jK.form;obtain⟨sa,sc,f0,f1,f2,f3,f4,f5,f6,iL⟩:=hE.bR;have j6:bm<wr.heap.size:=kN;obtain⟨x,hpd,dF⟩:∃b,fS k w d kk=some b/\((b=false/\r=false)\/(b=true/\rangeM (vaF w k) (kk+1) (w.drop (kk+1))=some rr)):=by
    rcases ie with⟨b,h1,h2⟩|⟨h1,h2⟩
    ·obtain⟨b',h3,h4⟩:=jQ6.1 h1;cases b' with
     |true=>simp at h4
     |false=>
      refine⟨_,h3,.inl ⟨rfl,?_⟩⟩;simp at h4;subst h4;obtain h|⟨h,_⟩:=IJ.1
      ·rw[h2]at h;simpa using h.symm
      ·rw[h2]at h;cases h
    ·obtain⟨b',h3,h4⟩:=jQ6.1 h1;cases b' with
     |false=>simp at h4
     |true=>exact⟨_,h3,.inr ⟨rfl,h2⟩⟩
   have kp:=Z dF;have Ra:=Z (an wr (CO d sa sc am cm));obtain⟨sa',sc',e',oC⟩:=iL.bR;simp at e';obtain⟨rfl,rfl⟩:=e';have ag:=SA k w _ d kk x _ _ D hpd Xd.1.1 Xd.1.2 (pA.1.mv Ra.1) ⟨sa,sc,am,cm,rfl,oC.mv pA.1.lo Ra.1,jK.move (pA.1.lo.aJ Ra.1)⟩;clear hE hC iL oC jK uD ie A dF hpd;go_wp2_with fail;refine ag.mono ?_;rintro e w3 ⟨rfl,aZ⟩;have kL:=Z (Ra.1.trans (aZ.mono Ra.1.size));clear aZ ag;rcases kp.1 with⟨rfl,rfl⟩|⟨rfl,IK⟩
   ·exact M215
   ·have nb:=Z IK;clear IK;go_wp2_with fail;go_roundg (w.length - (kk+1))
    case measure=>omega
    case rel=>exact⟨kk+1,m9,m9,by go_num,BW.out.trans (kL.1.mono dZ),nb.1⟩
  ·have aR:¬(kk:Int)<(w.length:Int):=m9
   have hA:=A.out;rw[jQf m9,rangeM]at hA;have SB:rr=none:=by simpa using hA.symm
   subst SB;have qD:bh (anyM (λd=>bh (fB k w d)) w)=some r:=M180
   have ag:=IL w _ wr D pA.1.rd pA.1.lo 17 #[.pointer (some ⟨W.heap.size,0,none⟩)] Tryz.call17 (λd=>bh (fB k w d))
    (λW1 t v bb hb _ hv hp=>vaC k Q2.1 w _ t bb v W1 D W.heap.size hp (pA.1.mv hb) hv ((hb.cell (p:=⟨W.heap.size,0,none⟩) Ks).trans b0)) (!r) (aX qD)
   have D8:=uW;clear hA A aM ez hg ZL qD;go_wp2_with fail;refine ag.mono ?_;rintro e w5 ⟨rfl,iD⟩;have xx:=Z iD;clear iD ag;go_wp2_with fail;go_ret;exact⟨i6,FP.1.trans (xx.1.mono FP.1.size)⟩
theorem Fi(k:Nat)(hk:(k:Int)+1<=1125899906842624)(w:List ah)(ws:Value)(l:List GT)(r:Bool)(v:Value)(W:World)(D:Nat->Prop)(hp:fy (valid k w) (right k w l)=some r)(Uu:∀d∈w,NBD d)(hn:∀e∈l,NB e)(hx:Cx D w ws W)(hv:RS D W l v):
 Calls prog 5 #[ws,v] W (ef W r):=by
 have hM:=xw k hk;obtain⟨wa,wq,rfl⟩:=hx.rd.form;obtain⟨a,c,rfl⟩:=hv.form;rcases cY hp with⟨h1,rfl⟩|⟨h1,h2⟩
 ·have ag:=nh k hk w _ false W D h1 Uu hx;clear hp hx hv hn Uu h1 hM;go_enter func5,ntmps5;exact M174
 ·have ag:=nh k hk w _ true W D h1 Uu hx;have HC:=Z<|λ(w1:World) (ar:Below W.heap.size W w1)=>JK k hM.2.1 w _ l r _ w1 D h2 hn (hx.mv ar) (hv.mv hx.lo ar);clear hp hx hv hn Uu h1 h2 hM;go_enter func5,ntmps5;go_wp2_with fail;refine ag.mono ?_;rintro e w1 ⟨rfl,ar⟩;have bS:=Z ar;have ag:=HC.1 w1 ar;exact M134
theorem Ab(t:GT)(v:Value)(W:World)(D:Nat->Prop)(h1:t.name.size<=2147483647)(h2:t.tag.size<=2147483647)(h3:t.elems.length<=2147483647)(hv:RT D W t v):
 Calls prog 4 #[v] W (ef W true):=by
 obtain⟨a,c,rfl,hs⟩:=hv.bR;have HA:=Z (an W (bx t a c));have g1:((2147483647:Int)<(t.name.size:Int))=False:=eq_false m9;have g2:((2147483647:Int)<(t.tag.size:Int))=False:=eq_false m9;have g3:((2147483647:Int)<(t.elems.length:Int))=False:=eq_false m9;clear hs hv h1 h2 h3;go_enter func4,ntmps4;exact M34
section
variable{enc:TypeId×Value->H}{t:TypeId}{x:DataW H×List MemPlace}{c:Value}
noncomputable abbrev Xt(enc:TypeId×Value->H)(W:World)(n:Nat)(t:TypeId)(cs:List Value):Option (DataW H×List MemPlace):=DataW.trod enc prog W 0 (λ_=>true) true n t cs
abbrev Old(W:World):Nat->Prop:=λb=>b<W.heap.size
theorem uY{l:List (DataW H×List MemPlace)}{y:DataW H×List MemPlace}(h:l[i]?=some y):Rows.uptoBulk y.1<=Rows.uptoBulkAll (l.map (·.1)):=by
 induction l generalizing i with
 |nil=>simp at h
 |cons a l ih=>
  simp only[List.map_cons,Rows.uptoBulkAll];cases i with
  |zero=>simp at h;subst h;omega
  |succ i=>have:=ih (i:=i) (by simpa using h);omega
theorem FB(ht:Tryz.prog.underlying t=some (.slice e))(hk:Tryz.prog.cellsOf e=k)(agQ:0<k)(h:Xt enc W n t [c]=some x):
 ∃(a:Option Addr) (cap m:Nat) (els:List (DataW H×List MemPlace)),m<n/\c=.slice a els.length cap/\els.length<=cap/\cap<=9223372036854775807/\(a=none->cap=0)/\Rows.uptoBulkAll (els.map (·.1))<=Rows.uptoBulk x.1/\
  (els≠[]->∃b o,a=some ⟨b,o,none⟩/\b<W.heap.size/\∀i y,els[i]?=some y->∃cs,Xt enc W m e cs=some y/\cs.length=k/\∀j u,cs[j]?=some u->W.cell? ⟨b,o+i*k+j,none⟩=some u):=by
 rcases DataW.trod_slice ht h with⟨h1,rfl⟩|⟨a,len,cap,els,rest,m,rfl,h1,rfl, -,h2,h3,h4,h5, -, -⟩
 ·simp at h1;subst h1;refine⟨none,0,0,[],?_,rfl,jQ0 _,m9,λ_=>rfl,by simp[Rows.uptoBulkAll],λh=>absurd rfl h⟩;cases n with
  |zero=>simp[Xt,DataW.trod]at h
  |succ n=>omega
 ·simp at h1;subst h1;refine⟨some a,cap,m,els,m9,by rw[h4],m9,by simpa[maxLen]using h3,λe=>(by cases e),by simp only[Rows.uptoBulk];omega,λbk=>?_⟩;have hl:0<len:=by
   rw[<-h4];exact List.length_pos_iff.2 bk
  have jz:∀i y,els[i]?=some y->∃cs,W.cells? 0 (a.add (i*k)) k=some cs/\Xt enc W m e cs=some y:=λi y hy=>by
   have hi:i<len:=by rw[<-h4];exact(jQg.1 hy).1
   have:=h5 i hi;rw[hy,hk]at this;exact jQ1.1 this
  obtain⟨y0,hy0⟩:∃y,els[0]?=some y:=⟨els[0]' m9,jQp _⟩;obtain⟨cs0,c0, -⟩:=jz 0 y0 hy0;obtain⟨b,o,sp⟩:=a;obtain⟨-,l0,g0⟩:=World.cells?_some c0;obtain⟨u0,hu0⟩:∃u,cs0[0]?=some u:=⟨cs0[0]' m9,jQp _⟩;have g00:=g0 0 agQ;rw[hu0]at g00;have hsp:sp=none:=by simpa[Addr.add]using World.cell?_spot g00
  subst hsp;rw[Nat.zero_mul,Go.WideShapes.add_plain,Go.WideShapes.add_plain]at g00;refine⟨b,o,rfl,jQs g00,λi y hy=>?_⟩;obtain⟨cs,hc,hr⟩:=jz i y hy;obtain⟨-,Kn,hg⟩:=World.cells?_some hc;refine⟨cs,hr,Kn,λj u hu=>?_⟩;have hj:=(jQg.1 hu).1;have:=hg j m9;rw[Go.WideShapes.add_plain,Go.WideShapes.add_plain,hu]at this;exact this
theorem zD{α β:Type}{R:Nat->α->β->Prop}:∀(l:List α) (s:Nat),(∀i x,l[i]?=some x->∃y,R (s+i) x y)->∃ys:List β,ys.length=l.length/\∀i x y,l[i]?=some x->ys[i]?=some y->R (s+i) x y
 |[],s,_=>⟨[],rfl,λi x y h=>by simp at h⟩
 |a::l,s,h=>by
  obtain⟨y,hy⟩:=h 0 a rfl;obtain⟨ys,h1,h2⟩:=zD (R:=R) l (s+1) λi x hx=>by have:=h (i+1) x (by simpa using hx);rwa[show s+(i+1)=s+1+i by omega]at this
  refine⟨y::ys,by simp[h1],λi x y' hx hy'=>?_⟩;cases i with
  |zero=>simp at hx hy';subst hx;subst hy';exact hy
  |succ i=>have:=h2 i x y' (by simpa using hx) (by simpa using hy');rwa[show s+1+i=s+(i+1)by omega]at this
theorem ZQ{D:Nat->Prop}{b:Nat}:∀{l:List GT} {o:Nat},(∀i t,l[i]?=some t->RE D W t b (o+i*7))->RC D W l b o
 |[],o,_=>by rw[RC];trivial
 |t::l,o,h=>by
  rw[RC];exact⟨by simpa using h 0 t rfl,ZQ λi t' ht=>by have:=h (i+1) t' (by simpa using ht);rwa[show o+(i+1)*7=o+7+i*7 by omega]at this⟩
theorem Sj{D:Nat->Prop}{b:Nat}:∀{l:List aH} {o:Nat},(∀i m,l[i]?=some m->W.cell? ⟨b,o+i*9,none⟩=some (.string m.name)/\W.cell? ⟨b,o+i*9+1,none⟩=some (.bool m.ptr)/\RE D W m.sig b (o+i*9+2))->RMC D W l b o
 |[],o,_=>trivial
 |t::l,o,h=>⟨by simpa using h 0 t rfl,Sj λi t' ht=>by have:=h (i+1) t' (by simpa using ht);rwa[show o+(i+1)*9=o+9+i*9 by omega]at this⟩
theorem Sk{D:Nat->Prop}{b:Nat}:∀{l:List ah} {o:Nat},(∀i d,l[i]?=some d->RE D W d.under b (o+i*8)/\∃ms,W.cell? ⟨b,o+i*8+7,none⟩=some ms/\RM D W d.meths ms)->RDC D W l b o
 |[],o,_=>trivial
 |t::l,o,h=>⟨by simpa using h 0 t rfl,Sk λi t' ht=>by have:=h (i+1) t' (by simpa using ht);rwa[show o+(i+1)*8=o+8+i*8 by omega]at this⟩
def Is7(W:World)(t:GT)(cs:List Value):Prop:=∃sl,cs=[.int .i64 t.kind,.int .i64 t.n,.int .i64 t.m,.bool t.va,.string t.name,.string t.tag,sl]/\RS (Old W) W t.elems sl
theorem Lb{t:GT}(h:Is7 W t cs)(hc:∀j u,cs[j]?=some u->W.cell? ⟨b,o+j,none⟩=some u):RE (Old W) W t b o:=by
 obtain⟨sl,rfl,hs⟩:=h;obtain⟨k,n,m,va,nm,tg,l⟩:=t;exact pW.2 ⟨sl,hc 0 _ rfl,hc 1 _ rfl,hc 2 _ rfl,hc 3 _ rfl,hc 4 _ rfl,hc 5 _ rfl,hc 6 _ rfl,hs⟩
theorem Sm{t:GT}(h:Is7 W t cs):RT (Old W) W t (.agg cs.toArray):=by
 obtain⟨sl,rfl,hs⟩:=h;exact RT.mk' hs
def NZ(t:GT):Prop:=∀x∈ei t,x.size<=9223372036854775807
theorem FC{β:Type}{f:β->Nat}{F:List β->Nat}(hn:F []=0)(hc:∀y l,F (y::l)=f y+F l):∀{els:List (DataW H×List MemPlace)} {ys:List β},ys.length=els.length->(∀(i:Nat) (x:DataW H×List MemPlace) (y:β),els[i]?=some x->ys[i]?=some y->f y<=Rows.uptoBulk x.1)->F ys<=Rows.uptoBulkAll (els.map (·.1))
 |[],[],_,_=>by rw[hn];omega
 |[],_::_,h,_=>by simp at h
 |_::_,[],h,_=>by simp at h
 |x::els,y::ys,hl,h=>by
  have h1:=FC hn hc (els:=els) (ys:=ys) (by simpa using hl) λi x' y' hx hy=>h (i+1) x' y' (by simpa using hx) (by simpa using hy);have h2:=h 0 x y rfl rfl;rw[hc,List.map_cons];simp only[Rows.uptoBulkAll];omega
theorem FD{P:β->Prop}{els:List (DataW H×List MemPlace)}{ys:List β}(hl:ys.length=els.length)(h:∀(i:Nat) (x:DataW H×List MemPlace) (y:β),els[i]?=some x->ys[i]?=some y->P y):∀y∈ys,P y:=by
 intro y hy;obtain⟨i,hi⟩:=List.getElem?_of_mem hy;have aM:=(jQg.1 hi).1;exact h i (els[i]' m9) y (jQp _) hi
theorem Eb:∀{l:List GT} {z:ByteArray},z∈fF l->∃t∈l,z∈ei t
 |t::l,z,h=>by
  rw[fF]at h;rcases jQm.1 h with h|h
  ·exact⟨t,i6,h⟩
  ·obtain⟨t',h1,h2⟩:=Eb h;exact⟨t',by simp[h1],h2⟩
theorem l7(h:l.length=7):∃c0 c1 c2 c3 c4 c5 c6,l=[c0,c1,c2,c3,c4,c5,c6]:=by
 match l,h with
 |[a,b,c,d,e,f,g],_=>exact⟨a,b,c,d,e,f,g,rfl⟩
theorem l8(h:l.length=8):∃c0 c1 c2 c3 c4 c5 c6 c7,l=[c0,c1,c2,c3,c4,c5,c6,c7]:=by
 match l,h with
 |[a,b,c,d,e,f,g,i],_=>exact⟨a,b,c,d,e,f,g,i,rfl⟩
theorem l9(h:l.length=9):∃c0 c1 c7,l=c0::c1::c7/\c7.length=7:=by
 match l,h with
 |a::b::c,h=>exact⟨a,b,c,rfl,by simpa using h⟩
theorem adO:Tryz.prog.cellsOf 3=1:=g9
theorem Sn:Tryz.prog.cellsOf 4=1:=g9
theorem ZR:Tryz.prog.cellsOf 9=1:=g9
theorem Xu:Tryz.prog.cellsOf 25=7:=g9
theorem adP:Tryz.prog.cellsOf 23=1:=g9
theorem adQ:Tryz.prog.cellsOf 68=9:=g9
theorem adR:Tryz.prog.cellsOf 40=1:=g9
theorem adS:Tryz.prog.cellsOf 42=8:=g9
theorem zE:∀(n:Nat) (cs:List Value) (x:DataW H×List MemPlace),Xt enc W n 25 cs=some x->∃t,Is7 W t cs/\(ei t).length<=Rows.uptoBulk x.1/\NZ t/\t.name.size<=Rows.uptoBulk x.1/\t.tag.size<=Rows.uptoBulk x.1:=by
 intro n
 induction n using Nat.strongRecOn with
 |ind n ih=>
  intro cs x h;obtain⟨xs,m,rfl,rfl,hl,hxl,hf⟩:=DataW.trod_struct underlying25 h;rw[Xu]at hl;have hx:∀i,i<7->∃y,xs[i]?=some y:=λi hi=>⟨xs[i]'(by rw[hxl];exact hi),i6⟩;obtain⟨c0,c1,c2,c3,c4,c5,c6,rfl⟩:=l7 hl;obtain⟨y0,e0⟩:=hx 0 m9;obtain⟨y1,e1⟩:=hx 1 m9;obtain⟨y2,e2⟩:=hx 2 m9;obtain⟨y3,e3⟩:=hx 3 m9;obtain⟨y4,e4⟩:=hx 4 m9;obtain⟨y5,e5⟩:=hx 5 m9;obtain⟨y6,e6⟩:=hx 6 m9;have g0:=hf 0 _ rfl;have g1:=hf 1 _ rfl;have g2:=hf 2 _ rfl;have g3:=hf 3 _ rfl;have g4:=hf 4 _ rfl;have g5:=hf 5 _ rfl;have g6:=hf 6 _ rfl;clear hf hx;simp only[List.getElem_toArray,List.getElem_cons_zero,List.getElem_cons_succ,adO,Sn,ZR,adP,e0,e1,e2,e3,e4,e5,e6,List.drop_succ_cons,jR0,jR5,List.take_zero]at g0 g1 g2 g3 g4 g5 g6;obtain⟨k0,q0, -, -⟩:=DataW.trod_int underlying3 g0;obtain⟨k1,q1, -, -⟩:=DataW.trod_int underlying3 g1;obtain⟨k2,q2, -, -⟩:=DataW.trod_int underlying3 g2;obtain⟨b3,q3, -⟩:=DataW.trod_bool underlying4 g3;obtain⟨s4,q4,u4,z4⟩:=DataW.trod_string underlying9 g4;obtain⟨s5,q5,u5, -⟩:=DataW.trod_string underlying9 g5;simp only[List.cons.injEq,and_true]at q0 q1 q2 q3 q4 q5;subst q0 q1 q2 q3 q4 q5;obtain⟨a,cap,m',els,j9,rfl,hle,uZ,jF,Ec,Sp⟩:=FB underlying23 Xu m9 g6;have gS:=uY e6;have dI:=uY e4;have iD:=uY e5;rw[u4]at dI;rw[u5]at iD;simp only[Rows.uptoBulk,Array.length_toList]at dI iD;have nU:s4.size=s4.data.size:=rfl;have Q3:s5.size=s5.data.size:=rfl;have hz4:s4.size<=9223372036854775807:=by simpa[maxLen]using z4
  by_cases he:els=[]
  ·subst he;refine⟨.mk k0 k1 k2 b3 s4 s5 [],⟨_,rfl,ia.2 ⟨a,cap,rfl,jF⟩⟩,by rw[ei,fF];simp only[Rows.uptoBulk];simp,λz hz=>?_,by simp only[Rows.uptoBulk,GT.name];omega,by simp only[Rows.uptoBulk,GT.tag];omega⟩;rw[ei,fF]at hz;simp at hz;rw[hz];exact hz4
  ·obtain⟨b,o,rfl,hb,jz⟩:=Sp he;obtain⟨ys,FE,Ko⟩:=zD (R:=λi (y:DataW H×List MemPlace) (t:GT)=>RE (Old W) W t b (o+i*7)/\(ei t).length<=Rows.uptoBulk y.1/\NZ t) els 0 λi y hy=>by
    obtain⟨cs,hr, -,hc⟩:=jz i y hy;obtain⟨t,h1,h2,h3, -, -⟩:=ih m' m9 cs y hr;exact⟨t,by rw[jRd];exact Lb h1 hc,h2,h3⟩
   simp only[jRd]at Ko;have hs:=FC (F:=λl=>(fF l).length) (f:=λt=>(ei t).length) (by simp[fF]) (λy l=>by simp[fF]) FE λi x y h1 h2=>(Ko i x y h1 h2).2.1;have hz:=FD FE λi x y h1 h2=>(Ko i x y h1 h2).2.2;have Hl:=ZQ λi t ht=>by
    have aM:=(jQg.1 ht).1;exact(Ko i (els[i]' m9) t (jQp _) ht).1
   refine⟨.mk k0 k1 k2 b3 s4 s5 ys,⟨_,rfl,?_⟩,?_,λz Xv=>?_,by simp only[Rows.uptoBulk,GT.name];omega,by simp only[Rows.uptoBulk,GT.tag];omega⟩
   ·cases ys with
    |nil=>exact absurd (jQe (by simpa using FE.symm)) he
    |cons t l=>
     rw[RC]at Hl;simp only[List.length_cons]at FE;exact gQ.2 ⟨b,o,cap,by rw[<-FE],m9,uZ,hb,Hl.1,Hl.2⟩
   ·rw[ei];simp only[List.length_cons,Rows.uptoBulk];omega
   ·rw[ei]at Xv;rcases jQn.1 Xv with rfl|Xv
    ·exact hz4
    ·obtain⟨t,h1,h2⟩:=Eb Xv;exact hz t h1 z h2
theorem Xw(n:Nat)(cs:List Value)(x:DataW H×List MemPlace)(h:Xt enc W n 68 cs=some x):∃(m:aH) (c7:List Value),cs=.string m.name::.bool m.ptr::c7/\Is7 W m.sig c7/\1+(ei m.sig).length<=Rows.uptoBulk x.1/\NZ m.sig/\m.name.size<=9223372036854775807:=by
 obtain⟨xs,m,rfl,rfl,hl,hxl,hf⟩:=DataW.trod_struct underlying68 h;rw[adQ]at hl;have hx:∀i,i<3->∃y,xs[i]?=some y:=λi hi=>⟨xs[i]'(by rw[hxl];exact hi),i6⟩;obtain⟨c0,c1,c7,rfl,hl7⟩:=l9 hl;obtain⟨y0,e0⟩:=hx 0 m9;obtain⟨y1,e1⟩:=hx 1 m9;obtain⟨y2,e2⟩:=hx 2 m9;have g0:=hf 0 _ rfl;have g1:=hf 1 _ rfl;have g2:=hf 2 _ rfl;clear hf hx;simp only[List.getElem_toArray,List.getElem_cons_zero,List.getElem_cons_succ,Sn,ZR,Xu,e0,e1,e2,List.drop_succ_cons,jR0,jR5,List.take_zero]at g0 g1 g2;rw[jR6 m9]at g2;obtain⟨s0,q0, -,z0⟩:=DataW.trod_string underlying9 g0;obtain⟨b1,q1, -⟩:=DataW.trod_bool underlying4 g1;simp only[List.cons.injEq,and_true]at q0 q1;subst q0 q1;obtain⟨t,h1,h2,h3, -, -⟩:=zE m c7 y2 g2;have hb:=uY e2;exact⟨⟨s0,b1,t⟩,c7,rfl,h1,by simp only[Rows.uptoBulk];omega,h3,by simpa[maxLen]using z0⟩
theorem Xx(n:Nat)(c:Value)(x:DataW H×List MemPlace)(h:Xt enc W n 40 [c]=some x):∃l:List aH,RM (Old W) W l c/\msz l<=Rows.uptoBulk x.1/\∀m∈l,NZ m.sig/\m.name.size<=9223372036854775807:=by
 obtain⟨a,cap,m',els,j9,rfl,hle,uZ,jF,Ec,Sp⟩:=FB underlying40 adQ m9 h;by_cases he:els=[]
 ·subst he;exact⟨[],.inl ⟨rfl,a,cap,rfl,jF⟩,by simp[msz],i6⟩
 ·obtain⟨b,o,rfl,hb,jz⟩:=Sp he;obtain⟨ys,FE,Ko⟩:=zD (R:=λi (y:DataW H×List MemPlace) (m:aH)=>(W.cell? ⟨b,o+i*9,none⟩=some (.string m.name)/\W.cell? ⟨b,o+i*9+1,none⟩=some (.bool m.ptr)/\RE (Old W) W m.sig b (o+i*9+2))/\1+(ei m.sig).length<=Rows.uptoBulk y.1/\NZ m.sig/\m.name.size<=9223372036854775807) els 0 λi y hy=>by
   obtain⟨cs,hr, -,hc⟩:=jz i y hy;obtain⟨m,c7,rfl,h1,h2,h3,h4⟩:=Xw m' cs y hr;exact⟨m,by rw[jRd];exact⟨hc 0 _ rfl,hc 1 _ rfl,Lb h1 λj u hu=>by have:=hc (j+2) u (by simpa using hu);rwa[show o+i*9+(j+2)=o+i*9+2+j by omega]at this⟩,h2,h3,h4⟩
  simp only[jRd]at Ko;refine⟨ys,.inr ⟨λe=>by subst e;exact he (jQe (by simpa using FE.symm)),b,o,cap,by rw[FE],m9,uZ,hb,Sj λi t ht=>?_⟩,jQd (FC (F:=msz) (f:=λm=>1+(ei m.sig).length) (by simp[msz]) (λy l=>by simp[msz]) FE λi x y h1 h2=>(Ko i x y h1 h2).2.1) Ec,FD FE λi x y h1 h2=>(Ko i x y h1 h2).2.2⟩;exact M220
theorem Xy(n:Nat)(cs:List Value)(x:DataW H×List MemPlace)(h:Xt enc W n 42 cs=some x):∃(d:ah) (c7:List Value) (c:Value),cs=c7++[c]/\c7.length=7/\Is7 W d.under c7/\RM (Old W) W d.meths c/\(ei d.under).length+msz d.meths<=Rows.uptoBulk x.1/\NZ d.under/\∀m∈d.meths,NZ m.sig/\m.name.size<=9223372036854775807:=by
 obtain⟨xs,m,rfl,rfl,hl,hxl,hf⟩:=DataW.trod_struct underlying42 h;rw[adS]at hl;have hx:∀i,i<2->∃y,xs[i]?=some y:=λi hi=>⟨xs[i]'(by rw[hxl];exact hi),i6⟩;obtain⟨c0,c1,c2,c3,c4,c5,c6,c,rfl⟩:=l8 hl;obtain⟨y0,e0⟩:=hx 0 m9;obtain⟨y1,e1⟩:=hx 1 m9;have g0:=hf 0 _ rfl;have g1:=hf 1 _ rfl;clear hf hx;simp only[List.getElem_toArray,List.getElem_cons_zero,List.getElem_cons_succ,Xu,adR,e0,e1,List.drop_succ_cons,jR0,jR5,List.take_zero]at g0 g1;obtain⟨t,h1,h2,h3, -, -⟩:=zE m _ y0 g0;obtain⟨l,h4,h5,h6⟩:=Xx m _ y1 g1;refine⟨⟨t,l⟩,[c0,c1,c2,c3,c4,c5,c6],c,rfl,rfl,h1,h4,?_,h3,h6⟩;simp only[Rows.uptoBulk]
 match xs,e0,e1 with
 |a::b::r,e0,e1=>
  simp at e0 e1;subst e0 e1;simp only[List.map_cons,Rows.uptoBulkAll];omega
theorem Xz(n:Nat)(c:Value)(x:DataW H×List MemPlace)(h:Xt enc W n 22 [c]=some x):∃w:List ah,RD (Old W) W w c/\wsz w<=Rows.uptoBulk x.1/\∀d∈w,NZ d.under/\∀m∈d.meths,NZ m.sig/\m.name.size<=9223372036854775807:=by
 obtain⟨a,cap,m',els,j9,rfl,hle,uZ,jF,Ec,Sp⟩:=FB underlying22 adS m9 h;by_cases he:els=[]
 ·subst he;exact⟨[],.inl ⟨rfl,a,cap,rfl,jF⟩,by simp[wsz],i6⟩
 ·obtain⟨b,o,rfl,hb,jz⟩:=Sp he;obtain⟨ys,FE,Ko⟩:=zD (R:=λi (y:DataW H×List MemPlace) (d:ah)=>(RE (Old W) W d.under b (o+i*8)/\∃ms,W.cell? ⟨b,o+i*8+7,none⟩=some ms/\RM (Old W) W d.meths ms)/\(ei d.under).length+msz d.meths<=Rows.uptoBulk y.1/\NZ d.under/\∀m∈d.meths,NZ m.sig/\m.name.size<=9223372036854775807) els 0 λi y hy=>by
   obtain⟨cs,hr, -,hc⟩:=jz i y hy;obtain⟨d,c7,cl,rfl,h7,h1,h2,h3,h4,h5⟩:=Xy m' cs y hr;exact⟨d,by rw[jRd];exact⟨Lb h1 λj u hu=>hc j u (by rw[jQq (jQg.1 hu).1];exact hu),cl,hc 7 cl (by rw[jQr m9];simp[h7]),h2⟩,h3,h4,h5⟩
  simp only[jRd]at Ko;refine⟨ys,.inr ⟨λe=>by subst e;exact he (jQe (by simpa using FE.symm)),b,o,cap,by rw[FE],m9,uZ,hb,Sk λi t ht=>?_⟩,jQd (FC (F:=wsz) (f:=λd=>(ei d.under).length+msz d.meths) (by simp[wsz]) (λy l=>by simp[wsz]) FE λi x y h1 h2=>(Ko i x y h1 h2).2.1) Ec,FD FE λi x y h1 h2=>(Ko i x y h1 h2).2.2⟩;exact M220
end
end Go.Proofs.YtabjfnkfocnklaaGreatDoor
