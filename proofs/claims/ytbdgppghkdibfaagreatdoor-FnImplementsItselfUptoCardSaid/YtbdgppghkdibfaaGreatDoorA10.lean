import Derived.Test.YtbdgppghkdibfaaGreatDoorA09
set_option linter.all false
set_option maxHeartbeats 16000000
set_option maxRecDepth 20000
namespace Go.Proofs.YtbdgppghkdibfaaGreatDoor
open Go Go.RowKit Go.Lib S Tryz
variable{t x:Y}{out pM r:List Y}{ms:List aH}{l w w1 w1':List ah}{B11 B3 B8 b b' base' cm cv f g g7 k kk n0 ox xc:Nat}{D E:Qx}{am av xa:Option Addr}{GT:Prop}{VX VY v vm vo vw:Value}{W w2 w6 w7 wr wx:World}
def M203(h:GT:=by
 rcases hE _ h with(hb|hb)|hb
 .have:=HX.1.lo _ hb;omega
 .omega
 .omega):GT:=h
def M217(h:GT:=by
 have:=HX.1.lo b hb;omega):GT:=h
def M33(h:GT:=by
 clear iD ag c0 c1 c2 c3 c4 c5 c6 d0 d1 d2 d3 d4 d5 d6;obtain⟨c0,c1,c2,c3,c4,c5,c6⟩:=ao PE.1;obtain⟨d0,d1,d2,d3,d4,d5,d6⟩:=ao abB.1;cases i with
 |false=>
  have h:false=r:=by simpa using pG.1
  subst h;go_wp2;go_ret;exact⟨rfl,xx.1⟩
 |true=>
  have j:subset (ident n) f w y x=some r:=by simpa using pG.1
  have ag:=lJ n f hid w _ y x r _ _ w5 D j (oI.1.mv xx.1) (We.1.mv oI.1.lo xx.1) (En.1.mv oI.1.lo xx.1);clear j;exact M146):GT:=h
def DJ{base:Nat}{Z:Obj}(aL:dc E base w7 (out++[Ir]) (.slice (some ⟨g7,0,none⟩) (out.length+1) ox))(hg:(w2.alloc Z).drew.grownBy w7 vo.ownBlock)(dA:w7.heap[B11]?=some (.cells #[vo] 23 (0,0)))(bk:B11≠g7)(OZ:¬E B11)(U:B11<w2.heap.size)(jz:g7<w2.heap.size->vo.ownBlock=some g7)(hs:RS E w7 x.li (.slice xa x.li.length xc))(H:wx=(((((((w7.setCell ⟨g7,out.length*7,none⟩ (.int .i64 x.ld)).setCell ⟨g7,out.length*7+1,none⟩ (.int .i64 x.n)).setCell ⟨g7,out.length*7+2,none⟩ (.int .i64 x.m)).setCell ⟨g7,out.length*7+3,none⟩ (.bool x.va)).setCell ⟨g7,out.length*7+4,none⟩ (.string x.name)).setCell ⟨g7,out.length*7+5,none⟩ (.string x.gc)).setCell ⟨g7,out.length*7+6,none⟩ (.slice xa x.li.length xc)).setCell ⟨B11,0,none⟩ (.slice (some ⟨g7,0,none⟩) (out.length+1) ox)
  \/wx=(((((((w7.setCell ⟨B11,0,none⟩ (.slice (some ⟨g7,0,none⟩) (out.length+1) ox)).setCell ⟨g7,out.length*7,none⟩ (.int .i64 x.ld)).setCell ⟨g7,out.length*7+1,none⟩ (.int .i64 x.n)).setCell ⟨g7,out.length*7+2,none⟩ (.int .i64 x.m)).setCell ⟨g7,out.length*7+3,none⟩ (.bool x.va)).setCell ⟨g7,out.length*7+4,none⟩ (.string x.name)).setCell ⟨g7,out.length*7+5,none⟩ (.string x.gc)).setCell ⟨g7,out.length*7+6,none⟩ (.slice xa x.li.length xc)):
 qC E base w2 wx B11 vo (out++[x]):=by
 have aM:=jQ2 dA;have qD:∀{wx:World},dc E base wx (out++[x]) (.slice (some ⟨g7,0,none⟩) (out.length+1) ox)->wx.heap[B11]?=some (.cells #[.slice (some ⟨g7,0,none⟩) (out.length+1) ox] 23 (0,0))->
  (∀b,b≠B11->b≠g7->wx.heap[b]?=w7.heap[b]?)->wx.heap.size=w7.heap.size->wx.os=w7.os->wx.tape=w7.tape->wx.output=w7.output->qC E base w2 wx B11 vo (out++[x]):=by
  intro wx ho hb tA hz I Is h3;exact M56
 obtain rfl|rfl:=H
 .obtain⟨h,tA,hz,I,Is,h3⟩:=aL.zB (t':=x) (a:=xa) (c:=xc) hs rfl;exact M54
 .have j:=aw dA 0 (.slice (some ⟨g7,0,none⟩) (out.length+1) ox);obtain⟨h,tA,hz,I,Is,h3⟩:=(aL.cR (jQz j.size.symm) (λg nG=>j.other g (by simp[Value.ownBlock]at nG;omega)) (λb hb=>j.other b (λe=>OZ (e▸hb)))).zB (t':=x) (a:=xa) (c:=xc) (hs.move (j.aJ OZ)) rfl;exact M114
def Cb{ops:Array Oper}{o:Oper}{a:Act}{w:World}{K:Act->World->Prop}{Q:Exit->Act->World->Prop}{Z:Prop}(mX:o.guard=none)(s x:Operand)(ho:o.op=.call {callee:=.builtin .append,args:=#[s,x],argTypes:=#[23,23]})(base:Nat)(E v l)(hs:a.eval s=v)(aL:dc E base w l v)(sl l')(pT:RS E w l' sl)(H:a.eval x=sl)(cF:(l++l').length<=1099511627776)(cS:base<=w.heap.size)(h:∀v' O,dc E base O (l++l') v'->w.grownBy O v.ownBlock->(v'.ownBlock=v.ownBlock\/v'.ownBlock=some w.heap.size)->K (a.put o.dst v') O):
 if Region.wanted o (yielded ops a.tmps)=true then Oper.wp prog o a w K Q else Z:=by
 have hw:Region.wanted o (yielded ops a.tmps)=true:=by simp[Region.wanted,mX]
 rcases aN.1 pT with⟨rfl,a1,c1,e,I⟩|⟨bk,b,o',c',e,Jd,jG,kN,hC⟩
 .cases a1 with
  |none=>
   have:=I rfl;subst this;rw[jQ7 hw];obtain⟨i0,hi,lA,gj,j7⟩:=info_parts Cu;have hr:(Builtin.append_ #[23,23] o.type #[v,.slice none 0 0]).run prog w=.ok v w:=by
    obtain⟨xs,oQ,nr,hE⟩:=aL;rcases oQ.2 with⟨rfl,hl⟩|⟨g,cap,cur,rfl,_,_,KX,_⟩
    .simp[Builtin.append_,jQj underlying23,sizeOf,typeInfo,hi,Builtin.lenOf,Builtin.firstCells]
    .simp[Builtin.append_,jQj underlying23,sizeOf,typeInfo,hi,Builtin.lenOf,Builtin.firstCells,KX,storeCells]
   unfold Oper.wp execOp;simp only[ho,resolve,invoke,builtin,jRp,Sem.run_pure,jR8,List.map_toArray,List.map_cons,List.map_nil,hs,H,e,hr];exact h v w (G9 aL) (World.grownBy.refl w _) (.inl rfl)
  |some ad=>exact gC mX s x ho base E v l hs aL [] ad c1 [] (H.trans e) (by rw[RV]) (by intro hp u hu;simp at hu) cF cS h
 .obtain⟨ns,vY,hc⟩:=hC.rv;refine gC mX s x ho base E v l hs aL l' ⟨b,o',none⟩ c' ns (H.trans e) vY (λhp u hu=>?_) cF cS h;exact M173
def gv.base{base:Nat}(h:gv E base W l v)(hb:base'<=base):gv E base' W l v:=M108
def kD.at{base:Nat}{l:List aH}(h:kD E base W l v)(hg:v.ownBlock=some g):∃cur,W.heap[g]?=some (.cells cur 68 (0,0)):=M64
def gv.rd{base:Nat}(h:gv E base W l v)(hE:∀b,E b->D b):RD D W l v:=M49
structure CU(D E:Qx)(n0:Nat)(W wr:World)(B3 B8 B11:Nat)(ms:List aH)(w1:List ah)(out:List Y)(vm vw vo:Value):Prop where
 b8:wr.heap[B8]?=some (.cells #[vm] 39 (0,0))
 Rx:wr.heap[B11]?=some (.cells #[vo] 23 (0,0))
 b3:wr.heap[B3]?=some (.cells #[vw] 22 (0,0))
 rm:RM E wr ms vm
 ro:dc E n0 wr out vo
 rw:gv E n0 wr w1 vw
 sub:∀b,E b->Up D n0 wr.heap.size b
 e3:¬E B3
 e8:¬E B8
 O1:¬E B11
 n3:n0<=B3
 n11:n0<=B11
 jJ:Below n0 W wr
def CU.cx(h:CU D E n0 W wr B3 B8 B11 ms w1 out vm vw vo):Cx E w1 vw wr:=
 ⟨h.rw.lo,h.rw.rd λ_ h=>h⟩
def CU.n0z(h:CU D E n0 W wr B3 B8 B11 ms w1 out vm vw vo):n0<=wr.heap.size:=V6 (jQ2 h.b3) h.n3
def lz{w:World}{c c':Array Value}{t t':TypeId}{f f':Nat×Nat}(h:w.heap[b]?=some (.cells c t f))(h':w.heap[b']?=some (.cells c' t' f'))(ht:t≠t'):b≠b':=by
 intro e;subst e;rw[h]at h';simp at h';exact ht h'.2.1
def CU.afP(h:CU D E n0 W wr B3 B8 B11 ms w1 out vm vw vo):B8≠B11/\B8≠B3/\B3≠B11:=⟨lz h.b8 h.Rx i5,lz h.b8 h.b3 i5,lz h.b3 h.Rx i5⟩
def CU.step(h:CU D E n0 W wr B3 B8 B11 ms w1 out vm vw vo)(hb:S5 wr w6):CU D (Up E wr.heap.size w6.heap.size) n0 W w6 B3 B8 B11 ms w1 out vm vw vo:=by
 have mY:=h.ro.lo;have h3:=jQ2 h.b3;have h8:=jQ2 h.b8;have dA:=jQ2 h.Rx;refine⟨aj hb h.b8 h8,aj hb h.Rx dA,aj hb h.b3 h3,h.rm.move ((mY.aJ hb).wide Up.of),(h.ro.below hb).wide Up.of λb dD=>?_,(h.rw.below hb).wide Up.of λb dD=>?_,λb dD=>?_,?_,?_,?_,h.n3,h.n11,h.jJ.trans (hb.mono h.n0z)⟩
 .obtain dD|dD:=dD
  .exact⟨jQb (mY b dD) hb.size,h.ro.av b dD⟩
  .exact⟨dD.2,λe=>by have:=(h.ro.lt b e.symm).2;omega⟩
 .obtain dD|dD:=dD
  .exact⟨jQb (mY b dD) hb.size,h.rw.av b dD⟩
  .exact⟨dD.2,λe=>by have:=(h.rw.lt b e.symm).2;omega⟩
 .obtain dD|dD:=dD
  .exact Up.mono (jQ0 _) hb.size b (h.sub b dD)
  .exact .inr ⟨jQd h.n0z dD.1,dD.2⟩
 .rintro(h'|h');exact h.e3 h';omega
 .rintro(h'|h');exact h.e8 h';omega
 .rintro(h'|h');exact h.O1 h';omega
def CU.frame(h:CU D E n0 W wr B3 B8 B11 ms w1 out vm vw vo)(qd:wx.heap[B11]?=some (.cells #[VX] 23 (0,0)))(k3:wx.heap[B3]?=some (.cells #[VY] 22 (0,0)))(ko:dc E n0 wx pM VX)(kw:gv E n0 wx w1' VY)(kf:∀b,b<wr.heap.size->b≠B11->b≠B3->vo.ownBlock≠some b->vw.ownBlock≠some b->wx.heap[b]?=wr.heap[b]?)(os:wx.os=wr.os)(tp:wx.tape=wr.tape)(ou:wx.output=wr.output)(hz:wr.heap.size<=wx.heap.size):
 CU D E n0 W wx B3 B8 B11 ms w1' pM vm VY VX:=by
 obtain⟨d1,d2,d3⟩:=h.afP;have h8:=jQ2 h.b8;have mY:=h.ro.lo;refine⟨(kf B8 h8 d1 d2 (λe=>?_) (λe=>?_)).trans h.b8,qd,k3,h.rm.move λb hb=>⟨hb,kf b (mY b hb) (λe=>h.O1 (e▸hb)) (λe=>h.e3 (e▸hb)) (λe=>h.ro.av b hb e.symm) (λe=>h.rw.av b hb e.symm)⟩,ko,kw,
  λb hb=>Up.mono (jQ0 _) hz b (h.sub b hb),h.e3,h.e8,h.O1,h.n3,h.n11,h.jJ.trans ⟨os,tp,ou,hz,λb hb=>?_⟩⟩
 .obtain⟨cur,hc⟩:=h.ro.at e;exact lz hc h.b8 i5 rfl
 .obtain⟨cur,hc⟩:=h.rw.at e;exact lz hc h.b8 i5 rfl
 .have:=h.n3;have:=h.n11;have:=h.n0z;exact kf b M M M (λe=>by have:=(h.ro.lt b e).1;omega) (λe=>by have:=(h.rw.lt b e).1;omega)
def CU.mv(h:CU D E n0 W wr B3 B8 B11 ms w1 out vm vw vo)(kf:∀b,b<wr.heap.size->b≠B11->b≠B3->vo.ownBlock≠some b->vw.ownBlock≠some b->wx.heap[b]?=wr.heap[b]?):au E E wr wx:=
 λb hb=>⟨hb,kf b (h.ro.lo b hb) (λe=>h.O1 (e▸hb)) (λe=>h.e3 (e▸hb)) (λe=>h.ro.av b hb e.symm) (λe=>h.rw.av b hb e.symm)⟩
def CU.add(h:CU D E n0 W wr B3 B8 B11 ms w1 out vm vw vo){e:Ending}(j:Nd E n0 wr B11 B3 vo vw pM w1' e wx):
 e=.returned (.tuple #[])/\au E E wr wx/\wr.heap.size<=wx.heap.size/\∃VX VY,CU D E n0 W wx B3 B8 B11 ms w1' pM vm VY VX:=by
 obtain⟨he,VX,VY,qd,k3,ko,kw,kf,os,tp,ou,hz⟩:=j;exact⟨he,h.mv kf,hz,VX,VY,h.frame qd k3 ko kw kf os tp ou hz⟩
def CU.mid(h:CU D E n0 W wr B3 B8 B11 ms w1 out vm vw vo)(j:qC E n0 wr wx B11 vo pM):
 au E E wr wx/\wr.heap.size<=wx.heap.size/\∃oa oc,CU D E n0 W wx B3 B8 B11 ms w1 pM vm vw (.slice oa pM.length oc):=by
 obtain⟨oa,oc,qd,ko,kf,os,tp,ou,hz⟩:=j;obtain⟨d1,d2,d3⟩:=h.afP;have hvo:∀b c t,wr.heap[b]?=some (.cells c t (0,0))->t≠25->vo.ownBlock≠some b:=λb c t hb ht e=>by
  obtain⟨cur,hc⟩:=h.ro.at e;exact lz hb hc ht rfl
 have W8:∀g,vw.ownBlock=some g->wx.heap[g]?=wr.heap[g]?:=λg hg=>by
  obtain⟨cur,hc⟩:=h.rw.at hg;exact kf g (jQ2 hc) (lz hc h.Rx i5) (hvo g _ _ hc i5)
 refine⟨h.mv λb I U _ h4 _=>kf b I U h4,hz,oa,oc,h.frame qd ((kf B3 (jQ2 h.b3) d3 (hvo B3 _ _ h.b3 i5)).trans h.b3) ko (h.rw.cR hz W8 λb hb=>kf b (h.rw.lo b hb) (λe=>h.O1 (e▸hb)) (λe=>h.ro.av b hb e.symm)) (λb I U _ h4 _=>kf b I U h4) os tp ou hz⟩
def wj(h:required w k t=some r):r.length<=1099511627776:=by
 cases k with
 |zero=>simp[required]at h
 |succ k=>
  rw[required]at h;obtain⟨u,_,h⟩:=jQ1.1 h;split at h
  .cases h;simp
  .obtain⟨_,_,h⟩:=jQ1.1 h;obtain⟨_,_,h⟩:=jQ1.1 h;obtain⟨fin,_,h⟩:=jQ1.1 h;unfold oG at h;split at h
   .rename_i hf
    cases h;rw[List.length_mergeSort];exact hf.2
   .cases h
def Ul{α:Type}{l:List α}{a:α}(h:l[kk]?=some a):l.drop kk=a::l.drop (kk+1):=M144
def smp(ms:List aH)(s:List ah×List Y)(x:Y):Option (List ah×List Y):=(gt s.1 x).map λu=>ew ms (s.1,s.2++[x]) u
def Gw{ms:List aH}:∀{l:List Y} {s s1:List ah×List Y},foldM (smp ms) s l=some s1->s1.1.length=s.1.length+l.length/\s1.2.length=s.2.length+2*l.length
 |[],s,s1,h=>by
  have:s=s1:=by simpa[foldM]using h
  subst this;simp
 |x::l,s,s1,h=>by
  rw[foldM]at h;obtain⟨s',I,U⟩:=jQ1.1 h;obtain⟨u,_,rfl⟩:=jQ6.1 I;have:=Gw U;simp[ew]at this⊢;omega
def Lp2(D:Qx)(n0:Nat)(W wr:World)(B3 B8 B11:Nat)(ms:List aH)(vm:Value)(ab:List Y)(va:Value)(s1:List ah×List Y)(kk:Nat):Prop:=
 ∃E w1 out vw vo,CU D E n0 W wr B3 B8 B11 ms w1 out vm vw vo/\RS E wr ab va/\foldM (smp ms) (w1,out) (ab.drop kk)=some s1
abbrev zQ(m:Y):aH:={name:=m.name,ptr:=false,sig:=m}
def wm{v:Y}{s:List ah×List Y}(h:samples f w v t=some s):
 ∃bv ms a b ab s1,bare v=some bv/\bv.ld≠13/\required w f v=some ms/\termsOf w f v=some a/\termsOf w f t=some b/\lim (a++b)=some ab/\
  foldM (smp (ms.map zQ)) (w,[]) ab=some s1/\
  s=ew (ms.map zQ) (ew (ms.map zQ) s1 (alone s1.1.length)) (tk 4 [alone s1.1.length])/\
  s.1.length<=1099511627776/\s.2.length<=1099511627776:=by
 unfold samples at h;obtain⟨bv,I,h⟩:=jQ1.1 h;split at h
 .cases h
 .rename_i hk
  obtain⟨ms,U,h⟩:=jQ1.1 h;obtain⟨a,h3,h⟩:=jQ1.1 h;obtain⟨b,h4,h⟩:=jQ1.1 h;obtain⟨ab,h5,h⟩:=jQ1.1 h;obtain⟨s1,h6,h⟩:=jQ1.1 h;simp only at h;split at h
  .rename_i hl
   cases h;exact⟨bv,ms,a,b,ab,s1,I,hk,U,h3,h4,h5,h6,rfl,hl.1,hl.2⟩
  .cases h
abbrev abY(m:Y)(a:Option Addr)(c:Nat):Obj:=.cells #[.string m.name,.bool false,.int .i64 m.ld,.int .i64 m.n,.int .i64 m.m,.bool m.va,.string m.name,.string m.gc,.slice a m.li.length c] 68
def LpM(DM:Qx)(w3 wr:World)(B8:Nat)(ms:List Y)(kk:Nat):Prop:=
 ∃vm,wr.heap[B8]?=some (.cells #[vm] 39 (0,0))/\kD DM w3.heap.size wr ((ms.map zQ).take kk) vm/\(∀b,b<w3.heap.size->b≠B8->wr.heap[b]?=w3.heap[b]?)/\wr.os=w3.os/\wr.tape=w3.tape/\wr.output=w3.output/\w3.heap.size<=wr.heap.size
def Ca(f:Nat)(w ws v t)(s:List ah×List Y)(vv vt W D)(j:samples f w v t=some s)(Xc:w.length<=1099511627776)(H:Cx D w ws W)(hv:RT D W v vv)(ht:RT D W t vt):
 Calls prog 252 #[ws,vv,vt] W (aal D W s):=by
 obtain⟨bv,ms,ta,tb,ab,s1,hbv,abZ,jK,fQ,lv,Bh,lN,hs,dQ,fh⟩:=wm j;obtain⟨av,cv,rfl,iL⟩:=hv.bR;obtain⟨pY,zL,rfl,cH⟩:=ht.bR;obtain⟨wa,wc,rfl⟩:=H.rd.form;obtain⟨HA,HX,HV,HT,Km,eF⟩:=Z6 (pE W (.cells #[.slice wa w.length wc] 22) (bx v av cv) (bx t pY zL)) H hv ht iL cH;obtain⟨Me,H3,H4,H5⟩:=Z4 (H.mv HA.1) (aq (o:=bx t pY zL) (aq (o:=bx v av cv) (ak W (.cells #[.slice wa w.length wc] 22)))) (aq (o:=bx t pY zL) (ak (W.alloc (.cells #[.slice wa w.length wc] 22)) (bx v av cv))) (ak ((W.alloc (.cells #[.slice wa w.length wc] 22)).alloc (bx v av cv)) (bx t pY zL));simp only[jQ3]at H3 H4 H5;have ag:=Gx w _ _ D Me.1.rd Me.1.lo Xc;have HF:=Z (And.intro hbv (And.intro abZ (And.intro jK (And.intro fQ (And.intro lv (And.intro Bh (And.intro lN (And.intro hs (And.intro dQ fh)))))))));clear j H hv ht iL cH hbv abZ jK fQ lv Bh lN hs dQ fh;go_in;go_wp21;refine ag.mono ?_;rintro e w1 ⟨v2,rfl,aL,ar⟩;obtain⟨bS,oT,J3,J4,J5⟩:=Z5 (HA.1.trans (ar.mono HA.1.size)) (Me.1.mv ar) (aj ar H3.1 (by simp;omega)) (aj ar H4.1 i6) (aj ar H5.1 i6);have gj:=ar.size;simp only[jQ3]at gj;have Rw:=Z (aL.base (base':=W.heap.size) (by simp;omega));obtain⟨a2,c2,rfl⟩:=aL.form;have e3:=jQh J3.1;have Wa:=cd J3.1;have D7:W.heap.size<w1.heap.size:=M
 have hl4:W.heap.size+1<w1.heap.size:=M
 have Kx:W.heap.size+1+1<w1.heap.size:=M
 have ahF:W.heap.size+1≠W.heap.size:=M
 obtain⟨p0,p1,p2,p3,p4,p5,p6⟩:=ao J4.1;clear aL ar ag;have j:=aw J3.1 0 (.slice a2 w.length c2);have Ky:=Z ((j.below bS.1 (jQ0 _)).alloc (by rw[j.size];omega) (.cells #[.slice none 0 0] 39));have ahG:∀b,D b->b≠W.heap.size:=λb hb e=>by have:=HX.1.lo b hb;omega
 have sr:=Z ((Rw.1.cR (jQz j.size.symm) (λg hg=>by
  obtain⟨cur,hc⟩:=Rw.1.at hg;exact j.other g (lz hc J3.1 i5)) (λb hb=>j.other b (ahG b hb))).below (an _ (.cells #[.slice none 0 0] 39)))
 obtain⟨K3,K4,K5,K8⟩:=Z4 (aq (o:=.cells #[.slice none 0 0] 39) j.here) (aq (o:=.cells #[.slice none 0 0] 39) ((j.other _ ahF).trans J4.1)) (aq (o:=.cells #[.slice none 0 0] 39) ((j.other _ (show W.heap.size+1+1≠W.heap.size by omega)).trans J5.1)) (ak (w1.setCell ⟨W.heap.size,0,none⟩ (.slice a2 w.length c2)) (.cells #[.slice none 0 0] 39));have hzS:=j.size;rw[hzS]at K8;have ag:=ga f w _ v ms _ _ D HF.1.2.2.1 ⟨sr.1.lo,sr.1.rd λ_ h=>h⟩ (HV.1.mv HX.1.lo Ky.1);clear j;go_wp21;generalize hWB:(w1.setCell ⟨W.heap.size,0,none⟩ (.slice a2 w.length c2)).alloc (.cells #[.slice none 0 0] 39)=wb at Ky sr K3 K4 K5 K8 ag
 try rw[hWB]
 have hzb:wb.heap.size=w1.heap.size+1:=by rw[<-hWB,jQ3,hzS]
 clear hWB;refine ag.mono ?_;rintro e w3 ⟨v3,E3,rfl,EJ,hE3,aZ⟩;obtain⟨ZK,kL,M3,M4,M5,M8,WD⟩:=Z7 (EJ.rs (D:=Up D wb.heap.size w3.heap.size) hE3 (λb I U=>.inr ⟨I,U⟩)) (Ky.1.trans (aZ.mono Ky.1.size)) (aj aZ K3.1 M) (aj aZ K4.1 M) (aj aZ K5.1 M) (aj aZ K8.1 M) (sr.1.below aZ);have JD:=aZ.size;obtain⟨a3,c3,rfl⟩:=EJ.form;have hmz:ms.length<=9223372036854775807:=V5 (wj HF.1.2.2.1)
 clear EJ aZ ag e3 Wa p0 p1 p2 p3 p4 p5 p6;have Xl:=Z (show∀b,Up D wb.heap.size w3.heap.size b->b<w3.heap.size/\b≠w1.heap.size from λb hb=>by
  obtain hb|hb:=hb
  .exact M217
  .exact⟨hb.2,M⟩)
 have hz18:w1.heap.size+1<=w3.heap.size:=M
 have hz13:W.heap.size+3<=w1.heap.size:=M
 have Ro:W.heap.size+3<=wb.heap.size:=M
 have hzb1:w1.heap.size<wb.heap.size:=M
 clear hzb;go_wp21
 go_loopg [10,22] ms.length (λgg _ s22 wr=>∃kk:Nat,kk<=ms.length/\ms.length - kk<=gg/\s22=.int .i64 kk/\Aside (LpM (Up D wb.heap.size w3.heap.size) w3 wr w1.heap.size ms kk))
 case atStart=>exact⟨0,jQc _,M,rfl,_,M8.1,by simpa using kD.nil (λb hb=>(Xl.1 b hb).1),λ_ _ _=>rfl,rfl,rfl,rfl,jQ0 _⟩
 case round=>
  obtain⟨kk,ez,hg,rfl,vm,nN,YL,mW,Ao,CW,Le,dZ⟩:=hrel;by_cases aM:kk<ms.length
  .have aR:(kk:Int)<(ms.length:Int):=M
   obtain⟨m,hm⟩:∃m,ms[kk]?=some m:=⟨ms[kk],by simp[aM]⟩;have hE6:=ZK.1;rcases aN.1 hE6 with⟨he,_⟩|⟨_,b3,o3,q3,dN,hlb,hqc,kN,hC⟩
   .exact M106
   simp at dN;obtain⟨rfl,rfl⟩:=dN;have eR:au (Up D wb.heap.size w3.heap.size) (Up D wb.heap.size w3.heap.size) w3 wr:=λb hb=>⟨hb,mW b (Xl.1 b hb).1 (Xl.1 b hb).2⟩;have hE:=(hC.at hm).move eR kN;obtain⟨sa,sc,f0,f1,f2,f3,f4,f5,f6,Kr⟩:=hE.bR;obtain⟨sa',sc',e',jK⟩:=Kr.bR;simp at e';obtain⟨rfl,rfl⟩:=e';have j6:b3<wr.heap.size:=V5 ((Xl.1 b3 kN).1)
   have R4:w1.heap.size<wr.heap.size:=M
   have e8:=jQh nN;obtain⟨HOM,WE,Mf,R5⟩:=Z4 YL nN mW jK;have mY:Lo (Up D wb.heap.size w3.heap.size) wr.heap.size:=YL.lo;have BA:=Z (dT wr (bx m sa sc) (abY m sa sc));have HOA:=Z (YL.below BA.1);have Q6:=Z (show MV (Up D wb.heap.size w3.heap.size) ((wr.alloc (bx m sa sc)).alloc (abY m sa sc)) [zQ m] [.string m.name,.bool false,.int .i64 m.ld,.int .i64 m.n,.int .i64 m.m,.bool m.va,.string m.name,.string m.gc,.slice sa m.li.length sc]from by
    rw[MV];exact⟨sa,sc,[],rfl,jK.mv mY BA.1,by rw[MV]⟩)
   have Xo:=Z (iC (wr.alloc (bx m sa sc)) [.string m.name,.bool false,.int .i64 m.ld,.int .i64 m.n,.int .i64 m.m,.bool m.va,.string m.name,.string m.gc,.slice sa m.li.length sc] 68);have cF:((ms.map zQ).take kk++[zQ m]).length<=1099511627776:=by have:=wj HF.1.2.2.1;simp;omega
   have cS:w3.heap.size<=((wr.alloc (bx m sa sc)).alloc (abY m sa sc)).heap.size:=by simp;omega
   have HTK:=Z (show(ms.map zQ).take (kk+1)=(ms.map zQ).take kk++[zQ m]from by
    rw[jRm,List.getElem?_map,hm];rfl)
   clear hE6 hC eR hE Kr jK YL nN mW hm mY;go_wp2_with (at_builtin;refine JH rfl _ _ rfl w3.heap.size (Up D wb.heap.size w3.heap.size) _ ((ms.map zQ).take kk) rfl HOA.1 [zQ m] ⟨wr.heap.size+1,0,none⟩ _ _ rfl Q6.1 (G9 Xo.1) cF cS ?_);intro v9 w9 jR Ho K0;obtain⟨a9,c9,hv9⟩:=jR.form;rw[show((ms.map zQ).take kk++[zQ m]).length=kk+1 by simp;omega]at hv9;subst hv9;have h89:w9.heap[w1.heap.size]?=some (.cells #[vm] 39 (0,0)):=(Ho.block w1.heap.size (by simp;omega) (λe=>by
    obtain⟨cur,hc⟩:=HOM.1.at e.symm;exact lz hc WE.1 i5 rfl)).trans (aj BA.1 WE.1 R4)
   have e89:=jQh h89;have hf89:=cd h89;have hl89:=jQ2 h89;obtain⟨yp,Iv,H89⟩:=Z3 jR Ho h89;clear jR Ho K0 h89;go_wp21;go_roundg (ms.length - (kk+1))
   case measure=>omega
   case rel=>
    have j:=aw H89.1 0 (.slice a9 (kk+1) c9);have Kl:=Iv.1.size;simp only[jQ3]at Kl;refine⟨kk+1,M,M,by go_num,.slice a9 (kk+1) c9,G9 j.here,?_,λb hb bk=>?_,j.os.trans (Iv.1.os.trans Ao),j.tape.trans (Iv.1.tape.trans CW),j.output.trans (Iv.1.output.trans Le),by rw[j.size];omega⟩
    .rw[HTK.1];exact yp.1.cR (jQz j.size.symm) (λg hg=>by
      obtain⟨cur,hc⟩:=yp.1.at hg;exact j.other g (lz hc H89.1 i5)) (λb hb=>j.other b (Xl.1 b hb).2)
    .refine(j.other b bk).trans ((Iv.1.block b (by simp;omega) (λe=>by have:=(HOM.1.lt b e.symm).1;omega)).trans ((BA.1.block b M).trans (Mf.1 b hb bk)))
  .have aR:¬(kk:Int)<(ms.length:Int):=M
   have hkm:kk=ms.length:=M
   have tB:(ms.map zQ).take kk=ms.map zQ:=jR6 (by simp;omega);rw[tB]at YL;clear aM ez hg;have hW1n:W.heap.size<=w1.heap.size:=M
   obtain⟨HWr,N3,N4,N5⟩:=Z4 (show S5 W wr from kL.1.trans ⟨Ao,CW,Le,dZ,λb hb=>mW b M M⟩) ((mW _ M M).trans M3.1) ((mW _ M M).trans M4.1) ((mW _ M M).trans M5.1);have HOr:=Z (WD.1.cR dZ (λg hg=>by
    obtain⟨cur,hc⟩:=WD.1.at hg;exact mW g (jQ2 hc) (lz hc M8.1 i5)) (λb hb=>mW b (V5 (HX.1.lo b hb)) (V5 (HX.1.lo b hb))))
   have HRM:=Z (YL.rep (D:=Up D wb.heap.size wr.heap.size) (λb hb=>Up.mono (jQ0 _) dZ b hb) (λg hg=>.inr ⟨V5 ((YL.lt g hg).1),(YL.lt g hg).2⟩));have WE:=Z nN;have QU:=Z (show∀g,(Value.slice a2 w.length c2).ownBlock=some g->g<w1.heap.size/\¬D g from λg hg=>by
    obtain⟨cur,hc⟩:=Rw.1.at hg;exact⟨jQ2 hc,λh=>Rw.1.av g h hg.symm⟩)
   have hzr3:w3.heap.size<=wr.heap.size:=dZ;clear YL nN mW Ao CW Le dZ tB hkm ZK Xl M3 M4 M5 M8 WD kL
   go_upto_region 10 with fail
   generalize hWD:wr.alloc (.cells #[.slice none 0 0] 23)=wd;have hWD':wr.heap.size+1=wd.heap.size:=by rw[<-hWD,jQ3]
   have BD:Below wr.heap.size wr wd:=by rw[<-hWD];exact an _ _
   obtain⟨ug,HWD,P3,P4,P5,P11,P2⟩:=Z7 BD (HWr.1.trans (BD.mono HWr.1.size)) (aj BD N3.1 M) (aj BD N4.1 M) (aj BD N5.1 M) (show wd.heap[wr.heap.size]?=some (.cells #[.slice none 0 0] 23 (0,0))by rw[<-hWD];exact ak _ _) (HOr.1.below BD);have Db:=Z<|λ(O:World) (hb:S5 wd O)=>yL f w _ v ta _ O D HF.1.2.2.2.1 ⟨(P2.1.below hb).lo,(P2.1.below hb).rd λ_ h=>h⟩ (HV.1.mv HX.1.lo (HWD.1.trans (hb.mono (V5 HWD.1.size))));have Hk:=Z<|λ(O:World) (hb:S5 wd O)=>yL f w _ t tb _ O D HF.1.2.2.2.2.1 ⟨(P2.1.below hb).lo,(P2.1.below hb).rd λ_ h=>h⟩ (HT.1.mv HX.1.lo (HWD.1.trans (hb.mono (V5 HWD.1.size))));have HNB:=Z (show∀t',bare v=some t'->t'.ld≠13 from λt' ht=>by rw[HF.1.1]at ht;cases ht;exact HF.1.2.1);have kr:=Z HF.1.2.2.2.2.2.1;have qo:W.heap.size<wd.heap.size:=M
   have hq4:W.heap.size+1<wd.heap.size:=M
   have hq5:W.heap.size+1+1<wd.heap.size:=M
   have e3:=jQh P3.1;obtain⟨p0,p1,p2,p3,p4,p5,p6⟩:=ao P4.1;obtain⟨q0,q1,q2,q3,q4,q5,q6⟩:=ao P5.1;obtain⟨cF,Bh⟩:=rH kr.1;clear BD hWD aR
   go_cut [41,42,43] (λs41 s42 s43 wx=>s42=.int .i64 ab.length/\s43=.int .i64 0/\Aside (S5 wd wx/\RS (Up (Up D wb.heap.size wr.heap.size) wd.heap.size wx.heap.size) wx ab s41))
   case first=>
    have hS:=Z (show∀O,S5 wd O->S5 wd O/\ce O W.heap.size 0 (.slice a2 w.length c2)/\V9 O (W.heap.size+1) v av cv (V8 O (W.heap.size+1+1) t pY zL)from λO hb=>⟨hb,(hb.cell (p:=⟨W.heap.size,0,none⟩) qo).trans e3,S8 hb hq4 p0 p1 p2 p3 p4 p5 p6 (S9 hb hq5 q0 q1 q2 q3 q4 q5 q6)⟩)
    go_region_held3 (λO=>S5 wd O/\ce O W.heap.size 0 (.slice a2 w.length c2)/\V9 O (W.heap.size+1) v av cv (V8 O (W.heap.size+1+1) t pY zL))
     (first|exact hS.1 _ (jQ5 _ _).drew|assumption)
     (first
      |(
       go_at_call 263;have hh:=‹S5 wd _/\_›
       with_reducible refine(Db.1 _ hh.1).mono ?_
       rintro eU wU ⟨va,rfl,YM,ahH,aaE⟩;have eP:=hh.1.trans (YM.mono hh.1.size);have hS4:=hS.1 _ eP;obtain⟨EA,Su,hEA⟩:=aaE HNB.1;have YN:=Z (Su.base hh.1.size);have HEA:=Z (show∀b,EA b->Up D wd.heap.size wU.heap.size b from λb hb=>Up.mono hh.1.size (jQ0 _) b (hEA b hb));clear aaE ahH Su hEA)
      |(
       go_at_call 263;have hh:=‹S5 wd _/\_›
       with_reducible refine(Hk.1 _ hh.1).mono ?_
       rintro eV wV ⟨vb,rfl,hbV,ae5,ae6⟩;have IF:=hh.1.trans (hbV.mono hh.1.size);have hS5:=hS.1 _ IF;have HRB:=Z ae5;have HBV:=Z hbV;have ae7:=Z (show dc (λb=>EA b\/Up D wU.heap.size wV.heap.size b) wd.heap.size wV ta va from(YN.1.below hbV).wide (λb h=>.inl h) (λb hb=>by
        obtain hb|hb:=hb
        .exact⟨jQb (YN.1.lo b hb) hbV.size,YN.1.av b hb⟩
        .refine⟨Up.lo (HX.1.lo.mono (V5 eP.size)) hbV.size b hb,λe=>?_⟩;have I:=YN.1.lt b e.symm;obtain hb|hb:=hb
         .exact M217
         .omega))
       have ahI:=Z (show RS (λb=>EA b\/Up D wU.heap.size wV.heap.size b) wV tb vb from HRB.1.move (au.refl.wide λb hb=>.inr hb));have ab0:=Z IF;clear ae6 ae5)
      |(
       refine Cb rfl (.tmp 37) (.tmp 40) rfl wd.heap.size (λb=>EA b\/Up D wU.heap.size wV.heap.size b) va ta (by simp[Act.eval]) ae7.1 vb tb ahI.1 (by simp[Act.eval]) (by rw[Bh];exact cF) ab0.1.size ?_;intro v7 w7 bF uA uU;rw[Bh]at bF;obtain⟨a7,c7,rfl⟩:=bF.form;have ek:=ab0.1.grown uA ab0.1.size (λk hk=>(ae7.1.lt k hk).1);have hS7:=hS.1 _ ek;have ahJ:=Z bF;have zM:=Z ek;have Jv:=Z (show∀b,(EA b\/Up D wU.heap.size wV.heap.size b)->Up D wd.heap.size w7.heap.size b from λb hb=>by
        have I:=uA.size;have U:=HBV.1.size;have h3:=eP.size;obtain hb|hb:=hb
        .exact Up.mono (jQ0 _) M b (HEA.1 b hb)
        .exact Up.mono M M b hb)
       clear bF uA uU))
    go_wp21
    go_meet
    exact⟨rfl,rfl,zM.1,ahJ.1.rs (λb hb=>by
     rcases Jv.1 b hb with h|h
     .exact .inl (.inl h)
     .exact .inr h) (λb I U=>.inr ⟨I,U⟩)⟩
   case rest=>
    obtain⟨wx,R8⟩:∃wx,wx=wc:=⟨wc,rfl⟩;subst R8;obtain⟨rfl,rfl,kq,ab1⟩:=hcut;obtain⟨aa,ac,rfl⟩:=ab1.form;have hzx:=kq.size;have HSM:=Z (show CU D (Up (Up D wb.heap.size wr.heap.size) wd.heap.size wx.heap.size) W.heap.size W wx W.heap.size w1.heap.size wr.heap.size (ms.map zQ) w [] vm (.slice a2 w.length c2) (.slice none 0 0)from by
     have hE:∀b,Up (Up D wb.heap.size wr.heap.size) wd.heap.size wx.heap.size b->(D b\/(wb.heap.size<=b/\b<wr.heap.size))\/(wd.heap.size<=b/\b<wx.heap.size):=λb h=>h;have mY:Lo (Up (Up D wb.heap.size wr.heap.size) wd.heap.size wx.heap.size) wx.heap.size:=λb hb=>by
      rcases hE b hb with(hb|hb)|hb
      .exact M217
      .omega
      .exact hb.2
     have fV:Lo (Up D wb.heap.size wr.heap.size) wd.heap.size:=λb hb=>by
      obtain hb|hb:=hb
      .exact M217
      .omega
     have j6:S5 wr wx:=ug.1.trans (kq.mono M);refine⟨aj j6 WE.1 M,aj kq P11.1 M,aj kq P3.1 M,HRM.1.move λb hb=>⟨.inl hb,j6.block b ?_⟩,dc.nil mY,(P2.1.below kq).wide (λb hb=>.inl (.inl hb)) λb hb=>⟨mY b hb,λe=>?_⟩,λb hb=>?_,λh=>?_,λh=>?_,λh=>?_,jQ0 _,M,HWD.1.trans (kq.mono M)⟩
     .obtain hb|hb:=hb
      .exact M217
      .exact hb.2
     .obtain⟨I,U⟩:=QU.1 b e.symm;rcases hE b hb with(hb|hb)|hb
      .exact U hb
      .omega
      .omega
     .rcases hE b hb with(hb|hb)|hb
      .exact .inl hb
      .exact .inr M
      .exact .inr M
     .exact M203
     .exact M203
     .rcases hE _ h with(hb|hb)|hb
      .have:=HX.1.lo _ hb;omega
      .omega
      .omega)
    have XS:=Z ab1;have haz:ab.length<=9223372036854775807:=M
    have RU:=Z (show s1.1.length+2<=1099511627776/\s1.2.length+2<=1099511627776 from by
     have I:=HF.1.2.2.2.2.2.2.2.1;have U:=HF.1.2.2.2.2.2.2.2.2;rw[I]at U;simp[ew]at U;omega)
    have XZ:=Z HF.1.2.2.2.2.2.2.1;clear kq ab1 e3 p0 p1 p2 p3 p4 p5 p6 q0 q1 q2 q3 q4 q5 q6;clear Db Hk HNB kr WE HRM HOr P2 P3 P4 P5 P11 QU N3 N4 N5;have hzn:W.heap.size<=wr.heap.size:=M
    generalize Sb:wr.heap.size=B11 at HSM XS hzn⊢;generalize hB8:w1.heap.size=B8 at HSM XS⊢;clear Sb hB8;go_wp21
    go_loopg [14,43] ab.length (λgg _ s43 wq=>∃jj:Nat,jj<=ab.length/\ab.length - jj<=gg/\s43=.int .i64 jj/\Aside (Lp2 D W.heap.size W wq W.heap.size B8 B11 (ms.map zQ) vm ab (.slice aa ab.length ac) s1 jj))
    case atStart=>exact⟨0,jQc _,M,rfl,_,_,_,_,_,HSM.1,XS.1,by rw[jR0];exact XZ.1⟩
    case round=>
     obtain⟨jj,X1,Dp,rfl,E,O,pM,vw,vo,EF,eD,lN⟩:=hrel;have HSW:=Z EF;obtain⟨oa,oc,rfl⟩:=EF.ro.form;obtain⟨ww,wc',rfl⟩:=EF.rw.form;have dA:=EF.Rx;have O1:=jQh dA;have e3:=jQh EF.b3;have O0:=jQ2 dA;have D7:=jQ2 EF.b3;have R4:=jQ2 EF.b8;by_cases aM:jj<ab.length
     .have aR:(jj:Int)<(ab.length:Int):=M
      obtain⟨x,LL⟩:∃x,ab[jj]?=some x:=⟨ab[jj],by simp[aM]⟩;rw[Ul LL]at lN;obtain⟨s',oC,lN⟩:=ik lN;obtain⟨u,hu,rfl⟩:=jQ6.1 oC;have hlen:=Gw lN;simp[ew]at hlen;have HLB:=Z (show pM.length+2<=1099511627776/\O.length+1<=1099511627776 from by have:=RU.1;omega);rcases aN.1 eD with⟨he,_⟩|⟨_,bb,ob,qb,dN,hlb,hqc,kN,hC⟩
      .exact M106
      simp at dN;obtain⟨rfl,rfl⟩:=dN;obtain⟨sa,sc,f0,f1,f2,f3,f4,f5,f6,Kr⟩:=(hC.at LL).bR;obtain⟨sa',sc',e',Q7⟩:=Kr.bR;simp at e';obtain⟨rfl,rfl⟩:=e';have j6:bb<wr.heap.size:=EF.ro.lo bb kN;have BX:=an wr (bx x sa sc);obtain⟨qM,gV,HXS,ae8,ahK,HU,HQ⟩:=Z7 BX (EF.step BX) ((Q7.mv EF.ro.lo BX).move (au.refl.wide (Up.of (n:=wr.heap.size) (m:=(wr.alloc (bx x sa sc)).heap.size)))) ((eD.mv EF.ro.lo BX).move (au.refl.wide (Up.of (n:=wr.heap.size) (m:=(wr.alloc (bx x sa sc)).heap.size)))) lN hu (ak wr (bx x sa sc));have na:=Z (show some B11≠(Value.slice oa pM.length oc).ownBlock from λe=>by
       obtain⟨cur,hc⟩:=EF.ro.at e.symm;exact lz hc EF.Rx i5 rfl)
      have OZ:=gV.1.O1;have It:B11<(wr.alloc (bx x sa sc)).heap.size:=by simp;omega
      have hn0z:W.heap.size<=wr.heap.size:=EF.n0z;clear oC hu Kr Q7 eD hC LL EF lN hlen BX
      go_upto_region 13 with fail
      go_cut [] (λwx=>qC (Up E wr.heap.size (wr.alloc (bx x sa sc)).heap.size) W.heap.size (wr.alloc (bx x sa sc)) wx B11 (.slice oa pM.length oc) (pM++[x]))
      case first=>
       have KX:=Z (λ(O:World)=>iC O [.int .i64 0,.int .i64 0,.int .i64 0,.bool false,.string es,.string es,.slice none 0 0] 25);have hlo1:=HLB.1.1;have ar:=(wr.alloc (bx x sa sc)).heap.size;obtain⟨g0,g1,g2',g3,g4,g5,g6⟩:=ao HQ.1;have ae9:=gV.1.Rx;have e11q:=jQh ae9
       go_region_law (first
        |(
         refine gC rfl (.tmp 47) (.tmp 50) rfl W.heap.size (Up E wr.heap.size (wr.alloc (bx x sa sc)).heap.size) _ pM (by simp[Act.eval,Act.put]) (gV.1.ro.below (by first|exact(an (wr.alloc (bx x sa sc)) _).drew|exact an (wr.alloc (bx x sa sc)) _)) [Ir] ⟨(wr.alloc (bx x sa sc)).heap.size,0,none⟩ 1 _ (by simp[Act.eval,Act.put]) (RV.single (ia.2 ⟨none,0,rfl,λ_=>rfl⟩)) (KX.1 (wr.alloc (bx x sa sc))) (by simp;omega) (by simp;omega) ?_;intro v7 w7 bF uA uU;obtain⟨gg7,ox,za,zc,adI,rfl,adJ,qE,z0,z1,z2,z3,z4,z5,z6⟩:=bF.last;have hf7:=cd qE;have oz:=(uA.block B11 (by simp;omega) na.1).trans (aq ae9);have adK:=jQh oz;have adL:=cd oz;have bk:B11≠gg7:=by intro e;rw[e,qE]at oz;simp at oz
         have adM:gg7≠B11:=λe=>bk e.symm;obtain⟨Iu,lY,R7,ahL⟩:=Z4 bF uA oz (HXS.1.move (D':=Up E wr.heap.size (wr.alloc (bx x sa sc)).heap.size) λb hb=>⟨hb,(uA.block b (by have:=gV.1.ro.lo b hb;simp at this⊢;omega) (gV.1.ro.av b hb)).trans (Below.heap_alloc _ _ _ (gV.1.ro.lo b hb))⟩);have RR:=Z (show gg7<(wr.alloc (bx x sa sc)).heap.size->(Value.slice oa pM.length oc).ownBlock=some gg7 from λaM=>by
          obtain e|e:=uU
          .exact e.symm
          .simp[Value.ownBlock]at e;simp at aM;omega)
         clear bF uA uU qE oz))
       all_goals(go_wp21;go_meet;exact DJ Iu.1 lY.1 R7.1 bk OZ It RR.1 ahL.1 (by first|exact .inl (by with_reducible rfl)|exact .inr (by with_reducible rfl)))
      case rest=>
       obtain⟨wy,hwy⟩:∃wy,wy=wc:=⟨wc,rfl⟩;subst hwy;obtain⟨YO,hzy,oa2,oc2,rV⟩:=gV.1.mid hcut;have hlq:wr.heap.size<wy.heap.size:=by simp at hzy;omega
       have hq:=(YO wr.heap.size (.inr ⟨jQ0 _,i6⟩)).2.trans HQ.1;have HRY:=Z (ae8.1.move YO);have hxy:=HXS.1.move YO;obtain⟨g0,g1,g2',g3,g4,g5,g6⟩:=ao hq;have e3y:=jQh rV.b3;have hl3y:=jQ2 rV.b3;have xo:=Z rV;have ag:=dG O _ x u _ wy _ HU.1 rV.ro.lo rV.cx.rd (RT.mk' hxy);clear hcut YO hq hxy rV HXS ae8;go_wp21;refine ag.mono ?_;rintro e w6 ⟨vu,rfl,hru,gS⟩;obtain⟨ua,uc,rfl,uE⟩:=hru.bR;have zC:=xo.1.step gS;have HSU:=Z zC;have Ya:=Z ((HRY.1.mv xo.1.ro.lo gS).move (au.refl.wide (Up.of (n:=wy.heap.size) (m:=w6.heap.size))));have ag:=xh _ W.heap.size w6 B8 B11 W.heap.size vm _ _ _ (ms.map zQ) (if eM u then ms.map zQ else[]) (pM++[x]) O u rfl zC.b8 zC.Rx zC.b3 zC.rm zC.ro zC.rw hru zC.O1 zC.e3 (by have:=HLB.1.1;simp;omega) HLB.1.2 zC.n0z zC.n11 zC.n3;clear gS zC uE hru g0 g1 g2' g3 g4 g5 g6 e3y;go_wp21;refine ag.mono ?_;rintro e w8 hpost;obtain⟨rfl,afa,hz8,vo8,vw8,hs8⟩:=HSU.1.add hpost;have HS8:=Z hs8;have HR8:=Z (Ya.1.move afa);clear hs8 afa hpost ag;go_wp21;go_roundg (ab.length - (jj+1))
       case measure=>omega
       case rel=>exact⟨jj+1,M,M,by go_num,_,_,_,_,_,HS8.1,HR8.1,ahK.1⟩
     .have aR:¬(jj:Int)<(ab.length:Int):=M
      rw[jQf M,foldM]at lN;have cz:s1=(O,pM):=G9 lN.symm
      subst cz;have HZ:=pE wr (.cells #[.int .i64 1,.int .i64 0,.int .i64 0,.bool false,.string ⟨#[]⟩,.string ⟨#[]⟩,.slice none 0 0] 25) (.cells #[.int .i64 3,.int .i64 O.length,.int .i64 0,.bool false,.string ⟨#[63]⟩,.string ⟨#[]⟩,.slice (some ⟨wr.heap.size,0,none⟩) 1 1] 25) (.cells #[.int .i64 5,.int .i64 0,.int .i64 0,.bool false,.string ⟨#[]⟩,.string ⟨#[]⟩,.slice (some ⟨wr.heap.size+1,0,none⟩) 1 1] 25);have j8:=EF.step HZ;have k0:=aq (o:=.cells #[.int .i64 5,.int .i64 0,.int .i64 0,.bool false,.string ⟨#[]⟩,.string ⟨#[]⟩,.slice (some ⟨wr.heap.size+1,0,none⟩) 1 1] 25) (aq (o:=.cells #[.int .i64 3,.int .i64 O.length,.int .i64 0,.bool false,.string ⟨#[63]⟩,.string ⟨#[]⟩,.slice (some ⟨wr.heap.size,0,none⟩) 1 1] 25) (ak wr (.cells #[.int .i64 1,.int .i64 0,.int .i64 0,.bool false,.string ⟨#[]⟩,.string ⟨#[]⟩,.slice none 0 0] 25)));have k1:=aq (o:=.cells #[.int .i64 5,.int .i64 0,.int .i64 0,.bool false,.string ⟨#[]⟩,.string ⟨#[]⟩,.slice (some ⟨wr.heap.size+1,0,none⟩) 1 1] 25) (ak (wr.alloc (.cells #[.int .i64 1,.int .i64 0,.int .i64 0,.bool false,.string ⟨#[]⟩,.string ⟨#[]⟩,.slice none 0 0] 25)) (.cells #[.int .i64 3,.int .i64 O.length,.int .i64 0,.bool false,.string ⟨#[63]⟩,.string ⟨#[]⟩,.slice (some ⟨wr.heap.size,0,none⟩) 1 1] 25));have k2:=ak ((wr.alloc (.cells #[.int .i64 1,.int .i64 0,.int .i64 0,.bool false,.string ⟨#[]⟩,.string ⟨#[]⟩,.slice none 0 0] 25)).alloc (.cells #[.int .i64 3,.int .i64 O.length,.int .i64 0,.bool false,.string ⟨#[63]⟩,.string ⟨#[]⟩,.slice (some ⟨wr.heap.size,0,none⟩) 1 1] 25)) (.cells #[.int .i64 5,.int .i64 0,.int .i64 0,.bool false,.string ⟨#[]⟩,.string ⟨#[]⟩,.slice (some ⟨wr.heap.size+1,0,none⟩) 1 1] 25);simp only[jQ3]at k1 k2;have hzz:wr.heap.size+3=(((wr.alloc (.cells #[.int .i64 1,.int .i64 0,.int .i64 0,.bool false,.string ⟨#[]⟩,.string ⟨#[]⟩,.slice none 0 0] 25)).alloc (.cells #[.int .i64 3,.int .i64 O.length,.int .i64 0,.bool false,.string ⟨#[63]⟩,.string ⟨#[]⟩,.slice (some ⟨wr.heap.size,0,none⟩) 1 1] 25)).alloc (.cells #[.int .i64 5,.int .i64 0,.int .i64 0,.bool false,.string ⟨#[]⟩,.string ⟨#[]⟩,.slice (some ⟨wr.heap.size+1,0,none⟩) 1 1] 25)).heap.size:=i6
      clear eD lN aM X1 Dp EF HSW HZ
      go_upto_region 17 with fail
      generalize hWZ:((wr.alloc (.cells #[.int .i64 1,.int .i64 0,.int .i64 0,.bool false,.string ⟨#[]⟩,.string ⟨#[]⟩,.slice none 0 0] 25)).alloc (.cells #[.int .i64 3,.int .i64 O.length,.int .i64 0,.bool false,.string ⟨#[63]⟩,.string ⟨#[]⟩,.slice (some ⟨wr.heap.size,0,none⟩) 1 1] 25)).alloc (.cells #[.int .i64 5,.int .i64 0,.int .i64 0,.bool false,.string ⟨#[]⟩,.string ⟨#[]⟩,.slice (some ⟨wr.heap.size+1,0,none⟩) 1 1] 25)=wz at j8 k0 k1 k2 hzz
      try rw[hWZ]
      clear hWZ;have XB:=Z j8;obtain⟨x0,x1,x2,x3,x4,x5,x6⟩:=ao k0;obtain⟨y0,y1,y2,y3,y4,y5,y6⟩:=ao k1;have uB:RT (Up E wr.heap.size wz.heap.size) wz (alone O.length) (.agg #[.int .i64 5,.int .i64 0,.int .i64 0,.bool false,.string ⟨#[]⟩,.string ⟨#[]⟩,.slice (some ⟨wr.heap.size+1,0,none⟩) 1 1]):=by
       refine ki.2 ⟨_,rfl,gQ.2 ⟨_,_,_,rfl,i6,i6,.inr ⟨M,M⟩,?_,by simp[RC]⟩⟩;refine pW.2 ⟨_,y0,y1,y2,y3,y4,y5,y6,gQ.2 ⟨_,_,_,rfl,i6,i6,.inr ⟨M,M⟩,?_,by simp[RC]⟩⟩;exact pW.2 ⟨_,x0,x1,x2,x3,x4,x5,x6,ia.2 ⟨_,_,rfl,λ_=>rfl⟩⟩
      have Ej:=Z uB;have K2:=Z k2;have ahM:wr.heap.size+1+1<wz.heap.size:=M
      have ag:=xh _ W.heap.size wz B8 B11 W.heap.size vm _ _ _ (ms.map zQ) (if eM (alone O.length)then ms.map zQ else[]) pM O (alone O.length) rfl j8.b8 j8.Rx j8.b3 j8.rm j8.ro j8.rw uB j8.O1 j8.e3 (by have:=RU.1;simp at this;omega) (by have:=RU.1;simp at this;omega) j8.n0z j8.n11 j8.n3;obtain⟨z0,z1,z2,z3,z4,z5,z6⟩:=ao k2;clear x0 x1 x2 x3 x4 x5 x6 y0 y1 y2 y3 y4 y5 y6 k0 k1 k2 j8 uB e3 O1 dA;go_wp21;refine ag.mono ?_;rintro e w7 hpost;obtain⟨rfl,ab2,hz7,vo7,vw7,Fp⟩:=XB.1.add hpost;have HS7:=Z Fp;have ahN:=Z (Ej.1.move ab2);have k7:=(ab2 (wr.heap.size+1+1) (.inr ⟨M,ahM⟩)).2.trans K2.1;have hl27:wr.heap.size+1+1<w7.heap.size:=M
      clear z0 z1 z2 z3 z4 z5 z6 ab2 hpost ag;obtain⟨z0,z1,z2,z3,z4,z5,z6⟩:=ao k7;have BY:=an w7 (.cells #[.int .i64 5,.int .i64 0,.int .i64 0,.bool false,.string ⟨#[]⟩,.string ⟨#[]⟩,.slice (some ⟨wr.heap.size+1,0,none⟩) 1 1] 25);have rV:=Fp.step BY;have xo:=Z rV;have hay:=(ahN.1.mv Fp.ro.lo BY).move (au.refl.wide (Up.of (n:=w7.heap.size) (m:=(w7.alloc (.cells #[.int .i64 5,.int .i64 0,.int .i64 0,.bool false,.string ⟨#[]⟩,.string ⟨#[]⟩,.slice (some ⟨wr.heap.size+1,0,none⟩) 1 1] 25)).heap.size)));have qy:RT (Up (Up E wr.heap.size wz.heap.size) w7.heap.size (w7.alloc (.cells #[.int .i64 5,.int .i64 0,.int .i64 0,.bool false,.string ⟨#[]⟩,.string ⟨#[]⟩,.slice (some ⟨wr.heap.size+1,0,none⟩) 1 1] 25)).heap.size) (w7.alloc (.cells #[.int .i64 5,.int .i64 0,.int .i64 0,.bool false,.string ⟨#[]⟩,.string ⟨#[]⟩,.slice (some ⟨wr.heap.size+1,0,none⟩) 1 1] 25)) (tk 4 [alone O.length]) (.agg #[.int .i64 4,.int .i64 0,.int .i64 0,.bool false,.string ⟨#[]⟩,.string ⟨#[]⟩,.slice (some ⟨w7.heap.size,0,none⟩) 1 1]):=by
       refine ki.2 ⟨_,rfl,gQ.2 ⟨_,_,_,rfl,i6,i6,.inr ⟨jQ0 _,i6⟩,?_,by simp[RC]⟩⟩;obtain⟨x0,x1,x2,x3,x4,x5,x6⟩:=ao (ak w7 (.cells #[.int .i64 5,.int .i64 0,.int .i64 0,.bool false,.string ⟨#[]⟩,.string ⟨#[]⟩,.slice (some ⟨wr.heap.size+1,0,none⟩) 1 1] 25));obtain⟨sl,pT,hss⟩:=ki.1 hay;have ahO:sl=.slice (some ⟨wr.heap.size+1,0,none⟩) 1 1:=by
        have:=congrArg (λv=>match v with|Value.agg c=>c[6]?|_=>none) pT;simpa using this.symm
       subst ahO;exact pW.2 ⟨_,x0,x1,x2,x3,x4,x5,x6,hss⟩
      have ag:=xh _ W.heap.size _ B8 B11 W.heap.size vm _ _ _ (ms.map zQ) (if eM (tk 4 [alone O.length])then ms.map zQ else[]) _ _ (tk 4 [alone O.length]) rfl rV.b8 rV.Rx rV.b3 rV.rm rV.ro rV.rw qy rV.O1 rV.e3 (by have:=RU.1;simp at this⊢;omega) (by have:=RU.1;simp at this⊢;omega) rV.n0z rV.n11 rV.n3;clear Fp BY rV hay qy;go_wp21;refine ag.mono ?_;rintro e w9 hpost;obtain⟨rfl,ahP,hz9,vo9,vw9,yu⟩:=xo.1.add hpost;have HS9:=Z yu;have n3:=jQh yu.b3;have n11:=jQh yu.Rx;clear z0 z1 z2 z3 z4 z5 z6 ahP hpost ag yu;go_wp21;go_quiet (fail);go_wp21;refine jRc (v:=.tuple #[vw9,vo9]) (by simp[results,Tryz.results252,go_sem]) rfl ?_;have hs:=HF.1.2.2.2.2.2.2.2.1;have hd:=λq=>HS9.1.step (jRb (jQ5 w9.heap.size w9) q);refine⟨_,_,rfl,?_,?_,?_,jRb HS9.1.jJ _⟩
      .rw[hs];exact(hd _).rw.rd (hd _).sub
      .intro b o n c he;exact(HS9.1.rw.lt b (by rw[he];rfl)).1
      .rw[hs];exact(hd _).ro.rs (hd _).sub (λb I U=>.inr ⟨I,U⟩)
def Dn(f:Nat)(w ws v t)(s:List ah×List Y)(vv vt W D)(j:samples f w v t=some s)(H:Cx D w ws W)(hv:RT D W v vv)(ht:RT D W t vt):
 Calls prog 252 #[ws,vv,vt] W (aal D W s):=by
 refine Ca f w ws v t s vv vt W D j ?_ H hv ht;obtain⟨_,_,_,_,_,s1,_,_,_,_,_,_,lN,hs,hl,_⟩:=wm j;have:=Gw lN;rw[hs]at hl;simp[ew]at hl this;omega
def agX(n f:Nat)(hid:pD n)(w ws v t x)(r:Bool)(vx W D)(Bw Bv Bt:Nat)(j:fy (inSet (ident n w) f w f x v) (bh (inSet (ident n w) f w f x t))=some r)(H:Cx D w ws W)(hv:RT D W x vx)(eR:RS D W v.li (.slice av v.li.length cv))(hm:RS D W t.li (.slice am t.li.length cm))(XK:W.heap[Bv]?=some (bx v av cv))(zK:W.heap[Bt]?=some (bx t am cm))(lR:ce W Bw 0 ws):
 Calls prog 253 #[vx,.pointer (some ⟨Bw,0,none⟩),.pointer (some ⟨Bv,0,none⟩),.pointer (some ⟨Bt,0,none⟩)] W (ef W r):=by
 have Dm:=jQs lR;have agY:=jQ2 zK;have hBvl:=jQ2 XK;simp only at Dm;obtain⟨c0,c1,c2,c3,c4,c5,c6⟩:=ao zK;obtain⟨d0,d1,d2,d3,d4,d5,d6⟩:=ao XK;obtain⟨a,c,rfl,hs⟩:=hv.bR;obtain⟨wa,wc,rfl⟩:=H.rd.form;have HA:=Z (an W (bx x a c));obtain⟨i,hi,j⟩:=jQ1.1 j;have ag:=IT n f hid f w _ x v i _ _ _ D hi (H.mv HA.1) (hv.mv H.lo HA.1) ((RT.mk' eR).mv H.lo HA.1);obtain⟨HX,HV,HM,HP,HBt,HBw⟩:=Z6 H hv (RT.mk' hm) j zK lR;clear j H hv hm eR hs zK XK hi;go_in;go_wp21;refine ag.mono ?_;rintro e w1 ⟨rfl,ar⟩;have HB:=Z (HA.1.trans (ar.mono HA.1.size));have kq:=aj ar (ak W (bx x a c)) i6;clear ar ag c0 c1 c2 c3 c4 c5 c6 d0 d1 d2 d3 d4 d5 d6 lR;have Xq:=(HB.1.cell (p:=⟨Bw,0,none⟩) Dm).trans HBw.1;obtain⟨c0,c1,c2,c3,c4,c5,c6⟩:=ao (aj HB.1 HBt.1 agY);obtain⟨d0,d1,d2,d3,d4,d5,d6⟩:=ao kq;clear kq;cases i with
 |false=>
  have h:false=r:=G9 HP.1
  subst h;exact M40
 |true=>
  obtain⟨hp,hj,hr⟩:∃hp,inSet (ident n w) f w f x t=some hp/\(!hp)=r:=by
   have:=HP.1;simp only[if_true]at this;obtain⟨hp,I,U⟩:=jQ6.1 this;exact⟨hp,I,U⟩
  have ag:=IT n f hid f w _ x t hp _ _ w1 D hj (HX.1.mv HB.1) (HV.1.mv HX.1.lo HB.1) (HM.1.mv HX.1.lo HB.1);subst hr;clear hj HP;go_wp21;refine ag.mono ?_;rintro e w2 ⟨rfl,cX⟩;have dP:=Z (HB.1.trans (cX.mono HB.1.size));clear cX ag;go_wp2;go_ret;exact⟨rfl,dP.1⟩
def lJ(n f:Nat)(hid:pD n)(w ws v t)(r:Bool)(vv vt W D)(j:subset (ident n) f w v t=some r)(H:Cx D w ws W)(hv:RT D W v vv)(ht:RT D W t vt):
 Calls prog 236 #[ws,vv,vt] W (ef W r):=by
 obtain⟨s,hs,j⟩:=jQ1.1 j;obtain⟨av,cv,rfl,iL⟩:=hv.bR;obtain⟨pY,zL,rfl,cH⟩:=ht.bR;obtain⟨wa,wc,rfl⟩:=H.rd.form;have HA:=Z (pE W (.cells #[.slice wa w.length wc] 22) (bx v av cv) (bx t pY zL));have ag:=Dn f w _ v t s _ _ _ D hs (H.mv HA.1) (hv.mv H.lo HA.1) (ht.mv H.lo HA.1);obtain⟨HP,HX,Km,eF⟩:=Z4 j H iL cH;clear j H hv ht iL cH hs;go_in;go_wp21;refine ag.mono ?_;rintro e w1 ⟨vw,vo,rfl,SK,hru,hrs,ar⟩;obtain⟨a1,zd,rfl⟩:=SK.form;obtain⟨a2,xv,rfl⟩:=hrs.form;have lR:=aj ar (aq (aq (ak W (.cells #[.slice wa w.length wc] 22)))) (by simp;omega);have XK:=aj ar (aq (ak _ (bx v av cv))) i6;have zK:=aj ar (ak _ (bx t pY zL)) i6;have HB:=Z (HA.1.trans (ar.mono HA.1.size));have hz:=ar.size;simp only[jQ3]at XK zK hz SK hrs;obtain⟨HRD,HRU,ZK⟩:=Z3 SK hru hrs;clear ar ag SK hrs hru;go_wp2_with (refine eT rfl 22 _ _ rfl W.heap.size 0 (.slice a1 s.1.length zd) rfl rfl 22 _ lR g9 (by simp[Value.cells,Value.oneCell']) (by simp[Value.cells]) #[.slice a1 s.1.length zd] (by simp[Value.cells]) ?_);intro w2 fJ;have XK:=fJ.cR XK M;have zK:=fJ.cR zK M;have e0:=jQh fJ.here;have HB:=Z (fJ.below HB.1 M);have j7:=hz;rw[<-fJ.size]at j7;have eR:au (Up D (W.heap.size+1+1+1) w1.heap.size) (Up D (W.heap.size+1+1+1) w1.heap.size) w1 w2:=fJ.aJ (by intro h;obtain h|h:=h;exact absurd (HX.1.lo _ h) M;omega);obtain⟨kp,agZ,ag0,ag1,HBV,HBT,HE0⟩:=Z7 (Cx.mk (Up.lo (n:=W.heap.size+1+1+1) (HX.1.lo.mono M) j7) ((HRD.1.XL eR (jQz fJ.size.symm) (λb o n c he=>fJ.other b (by have:=HRU.1 b o n c he;simp at this;omega))).wide (Up.mono (jQ0 _) (jQz fJ.size.symm)))) ((ZK.1.move eR).move (D':=Up D (W.heap.size+1+1+1) w2.heap.size) (au.refl.wide (Up.mono (jQ0 _) (jQz fJ.size.symm)))) ((Km.1.mv HX.1.lo HB.1).move (D':=Up D (W.heap.size+1+1+1) w2.heap.size) (au.refl.wide Up.of)) ((eF.1.mv HX.1.lo HB.1).move (D':=Up D (W.heap.size+1+1+1) w2.heap.size) (au.refl.wide Up.of)) XK zK e0;have fV:W.heap.size<w2.heap.size:=M
 have dQ:W.heap.size+1<w2.heap.size:=M
 have fh:W.heap.size+1+1<w2.heap.size:=M
 clear fJ eR XK zK e0;have D8:=mkf;have ag:=cL s.2 _ w2 _ agZ.1 kp.1.lo 253 #[.pointer (some ⟨W.heap.size,0,none⟩),.pointer (some ⟨W.heap.size+1,0,none⟩),.pointer (some ⟨W.heap.size+1+1,0,none⟩)] Tryz.call253 _ (λW1 e ve bb ar _ dr ke=>
  agX n f hid s.1 _ v t e bb ve W1 _ _ _ _ ke (kp.1.mv ar) dr (ag0.1.mv kp.1.lo ar) (ag1.1.mv kp.1.lo ar) (aj ar HBV.1 dQ) (aj ar HBT.1 fh) ((ar.cell (p:=⟨W.heap.size,0,none⟩) fV).trans HE0.1)) _ (aX HP.1)
 clear HP;go_wp21;refine ag.mono ?_;rintro e w3 ⟨rfl,aZ⟩;have HD:=Z (HB.1.trans (aZ.mono HB.1.size));clear aZ ag;go_wp2;go_ret;exact⟨i6,HD.1⟩
def Ds(n f:Nat)(hid:pD n)(w ws x y)(r:Bool)(vx vy W D)(j:Gd (ident n) f w x y=some r)(H:Cx D w ws W)(xH:RT D W x vx)(Nw:RT D W y vy):
 Calls prog 214 #[ws,vx,vy] W (ef W r):=by
 obtain⟨basic,hb,j⟩:=jQ1.1 j;obtain⟨ax,cx,rfl,_⟩:=xH.bR;obtain⟨ay,cy,rfl,_⟩:=Nw.bR;obtain⟨wa,wc,rfl⟩:=H.rd.form;have eQ:=Z (dT W (bx x ax cx) (bx y ay cy));have oI:=Z H;have En:=Z xH;have We:=Z Nw;have qM:=Z (aq (o:=bx y ay cy) (ak W (bx x ax cx)));have IY:=Z (ak (W.alloc (bx x ax cx)) (bx y ay cy));obtain⟨gx,Da,hb⟩:=jQ1.1 hb;obtain⟨gx',aev,egx⟩:=jQ6.1 Da;have ag:=gM f w _ x gx' _ _ D aev (H.mv eQ.1).lo (H.mv eQ.1).rd (xH.mv H.lo eQ.1);have HP:=Z j;have Ky:=Z hb;subst egx;clear j hb Da aev H xH Nw;go_in;go_wp21;refine ag.mono ?_;rintro e w1 ⟨rfl,ar⟩;have HB:=Z (eQ.1.trans (ar.mono eQ.1.size));have fV:W.heap.size<w1.heap.size:=by have:=ar.size;simp at this;omega
 have dQ:W.heap.size+1<w1.heap.size:=by have:=ar.size;simp at this;omega
 have Yh:=Z (aj ar qM.1 (by simp;omega));have TB:=Z (aj ar IY.1 i6);simp only[jQ3]at TB;obtain⟨c0,c1,c2,c3,c4,c5,c6⟩:=ao Yh.1;obtain⟨d0,d1,d2,d3,d4,d5,d6⟩:=ao TB.1;clear ar ag;by_cases aew:basic=true
 .subst aew;have Da:gx'=false/\bh (general w f y)=some true:=by
   have:=Ky.1;cases gx' with
   |true=>simp at this
   |false=>simpa using this
  obtain⟨rfl,hgy⟩:=Da;have ag:=gM f w _ y false _ w1 D (by have:=aX hgy;simpa using this) (oI.1.mv HB.1).lo (oI.1.mv HB.1).rd (We.1.mv oI.1.lo HB.1);have j:=HP.1;simp only[if_true]at j;obtain⟨a,ha,j⟩:=jQ1.1 j;obtain⟨b,hbq,j⟩:=jQ1.1 j;have HA:=Z ha;have HBQ:=Z hbq;have pG:=Z j;clear hgy ha hbq j HP Ky;go_wp21;refine ag.mono ?_;rintro e w2 ⟨rfl,cX⟩;have dP:=Z (HB.1.trans (cX.mono HB.1.size));have Dz:=Z (aj cX Yh.1 fV);have Yi:=Z (aj cX TB.1 dQ);replace fV:W.heap.size<w2.heap.size:=jQb fV cX.size;replace dQ:W.heap.size+1<w2.heap.size:=jQb dQ cX.size;clear cX ag c0 c1 c2 c3 c4 c5 c6 d0 d1 d2 d3 d4 d5 d6;obtain⟨c0,c1,c2,c3,c4,c5,c6⟩:=ao Dz.1;obtain⟨d0,d1,d2,d3,d4,d5,d6⟩:=ao Yi.1;have hS:=Z (show∀O,S5 w2 O->(λO=>S5 w2 O/\V9 O W.heap.size x ax cx (V8 O (W.heap.size+1) y ay cy)) O from λO hb=>⟨hb,S8 hb fV c0 c1 c2 c3 c4 c5 c6 (S9 hb dQ d0 d1 d2 d3 d4 d5 d6)⟩);have hA:=Z<|λ(O:World) (hb:S5 w2 O)=>ga f w _ x a _ O D HA.1 ((oI.1.mv dP.1).mv (hb.mono (jQ0 _))) ((En.1.mv oI.1.lo dP.1).mv (oI.1.mv dP.1).lo hb);have hB:=Z<|λ(O:World) (hb:S5 w2 O)=>ga f w _ y b _ O D HBQ.1 ((oI.1.mv dP.1).mv (hb.mono (jQ0 _))) ((We.1.mv oI.1.lo dP.1).mv (oI.1.mv dP.1).lo hb);go_wp21
  go_region_held3 (λO=>S5 w2 O/\V9 O W.heap.size x ax cx (V8 O (W.heap.size+1) y ay cy))
   (first|exact hS.1 _ (jQ5 _ _).drew|assumption)
   (first
    |(
     go_at_call 139;have hh:=‹S5 w2 _/\_›
     with_reducible refine(hA.1 _ hh.1).mono ?_
     rintro eA wA aag;obtain⟨vA,rfl,Z1,eP⟩:=aag.Pf;obtain⟨aA,cA,rfl⟩:=Z1.form;have dI:=hh.1.trans (eP.mono hh.1.size);have hS4:=hS.1 _ dI;have HSA:=Z (Z1.move (au.refl.wide (Up.mono hh.1.size (jQ0 _))));clear aag Z1)
    |(
     go_at_call 139;have hh:=‹S5 w2 _/\_›
     with_reducible refine(hB.1 _ hh.1).mono ?_
     rintro eB wB ID;obtain⟨vB,rfl,Ef,IF⟩:=ID.Pf;obtain⟨aB,cB,rfl⟩:=Ef.form;have iD:=hh.1.trans (IF.mono hh.1.size);have hS5:=hS.1 _ iD;have wL:=Z (Ef.move (au.refl.wide (Up.mono hh.1.size (jQ0 _))));clear ID Ef))
  have HXF:=Z (((oI.1.mv dP.1).mv (iD.mono (jQ0 _))).up (n:=w2.heap.size) (oI.1.mv dP.1).lo iD.size);have ahn:=Z ((HSA.1.mv (Up.lo (oI.1.mv dP.1).lo dI.size) IF).move (au.refl.wide (Up.mono (jQ0 _) IF.size)));have aho:=Z (wL.1);have HBF:=Z (dP.1.trans (iD.mono dP.1.size));by_cases hlen:a.length=b.length
  .have j:hasAll (ident n w) a b=some r:=by have:=pG.1;rwa[jQ7 hlen]at this
   have ag:=pz n hid w _ a b r _ _ wB _ j HXF.1 ahn.1 aho.1;have kl:((a.length:Int)==(b.length:Int))=true:=by simp[hlen]
   clear j hlen;go_wp21;refine ag.mono ?_;rintro e w7 ⟨rfl,ek⟩;have HD:=Z (HBF.1.trans (ek.mono HBF.1.size));clear ek ag;exact M82
  .have h:false=r:=by have:=pG.1;rw[jQ4 hlen]at this;simpa using this
   subst h;have kl:((a.length:Int)==(b.length:Int))=false:=by simp;omega
   clear hlen;go_wp2;go_ret;exact⟨rfl,HBF.1⟩
 .have X7:basic=false:=G9 aew
  subst X7;have j:fy (subset (ident n) f w x y) (subset (ident n) f w y x)=some r:=G9 HP.1
  obtain⟨i,hi,j⟩:=jQ1.1 j;have pG:=Z j;have HI:=Z hi;clear j hi HP;cases gx' with
  |true=>
   have ag:=lJ n f hid w _ x y i _ _ w1 D HI.1 (oI.1.mv HB.1) (En.1.mv oI.1.lo HB.1) (We.1.mv oI.1.lo HB.1);go_wp21;refine ag.mono ?_;rintro e w5 ⟨rfl,iD⟩;have xx:=Z (HB.1.trans (iD.mono HB.1.size));have PE:=Z (aj iD Yh.1 fV);have abB:=Z (aj iD TB.1 dQ);exact M33
  |false=>
   have hgy:bh (general w f y)=some false:=G9 Ky.1
   have ag:=gM f w _ y true _ w1 D (by have:=aX hgy;simpa using this) (oI.1.mv HB.1).lo (oI.1.mv HB.1).rd (We.1.mv oI.1.lo HB.1);clear hgy Ky;go_wp21;refine ag.mono ?_;rintro e w2 ⟨rfl,cX⟩;have dP:=Z (HB.1.trans (cX.mono HB.1.size));have Dz:=Z (aj cX Yh.1 fV);have Yi:=Z (aj cX TB.1 dQ);replace fV:W.heap.size<w2.heap.size:=jQb fV cX.size;replace dQ:W.heap.size+1<w2.heap.size:=jQb dQ cX.size;clear cX ag c0 c1 c2 c3 c4 c5 c6 d0 d1 d2 d3 d4 d5 d6;obtain⟨c0,c1,c2,c3,c4,c5,c6⟩:=ao Dz.1;obtain⟨d0,d1,d2,d3,d4,d5,d6⟩:=ao Yi.1;have ag:=lJ n f hid w _ x y i _ _ w2 D HI.1 (oI.1.mv dP.1) (En.1.mv oI.1.lo dP.1) (We.1.mv oI.1.lo dP.1);go_wp21;refine ag.mono ?_;rintro e w5 ⟨rfl,iD⟩;have xx:=Z (dP.1.trans (iD.mono dP.1.size));have PE:=Z (aj iD Dz.1 fV);have abB:=Z (aj iD Yi.1 dQ);exact M33
