import Derived.Test.YtbdgppghkdibfaaGreatDoorA16
set_option linter.all false
set_option maxHeartbeats 16000000
set_option maxRecDepth 20000
namespace Go.Proofs.YtbdgppghkdibfaaGreatDoor
open Go Go.RowKit Go.Lib S P Tryz
variable{e e' s x y:Y}{Q:Y->Prop}{NS:List ByteArray}{cs:List Nat}{w:List ah}{K cb o q' r r':Nat}{obj:Nat->Nat}{D E X:Qx}{GT:Prop}{S:Sg}{p u u' v v':Value}{W W' O:World}
def M11(h:GT:=by
 have CM:(aG (una x)).li=(una x).li:=by rw[qe];rfl
 have xm:(aG (una y)).li=(una y).li:=by rw[wP];rfl
 rw[CM]at gx;rw[xm]at gy;have d3:ce W b1 0 v3:=by simp[World.cell?,aZ]
 have d4:ce W b2 0 v4:=by simp[World.cell?,dI]
 have sM:=Z (show∀O,Ok w S D obj rs K E (r+1) O->Fr S rs (r+1) W O->Calls prog 130 #[ptr cb,v3,v4,p] O (aV w S D obj rs K E (r+1) O λv _=>v=.bool ((fs w K).id e3 e4))from λO g1 g2=>kV HI.1 hx.1 xk FA (iP _ (by rw[gx];simp)).1 (iQ _ (by rw[gy];simp)).1 (by have:=(iP e3 (by rw[gx];simp)).2;omega) (by have:=(iQ e4 (by rw[gy];simp)).2;omega) g1 g2);have bo:(fs w K).id x y=(fs w K).id e3 e4:=by rw[pV.1];unfold K7;simp[isIf,hk,iO,gx,gy,idL]
 have bM:=Z bo;obtain⟨q3,rfl, -⟩:=id xk;obtain⟨q4,rfl, -⟩:=id FA;have hS:=Z (show∀O,(Ok w S D obj rs K E (r+1) O/\Fr S rs (r+1) W O)->(Ok w S D obj rs K E (r+1) O/\Fr S rs (r+1) W O)/\ce O b1 0 (.iface (tid e3.ld) (ptr q3))/\ce O b2 0 (.iface (tid e4.ld) (ptr q4))from λO h=>⟨h,h.2.fU cz wQ d3,h.2.fU eX xj d4⟩);clear aZ dI xk FA bo;clear qe wP xi lG wQ xj iP iQ CM xm gx gy cz eX dr fx cj fK;go_wp21;refine t8 hS ⟨hx.1.ok.below HE.1.hs (jQ5 _ _).drew,Below.fr (jQ5 _ _).drew⟩ λai=>?_;refine t4 0 1 2 3 ?_;refine t4 4 5 6 7 ?_;refine t2 8 9 ?_;refine rd 10 rfl λK hK=>?_;go_simp;have hh:=ai.1;clear ai;refine(sM.1 _ hh.1 hh.2).mono ?_;rintro eA wA ⟨vA,rfl,rfl,g1,g2⟩;have gE:=tC.1 _ _ hh.2 g1 g2;refine hK.out _ _ (hS.1 _ gE) (λai=>?_);clear hh gE g1 g2;clear hK K;refine t7 11 ?_;exact M22):GT:=h
def M22(h:GT:=by
 refine jQl g9 ?_ _;have HH:=Z ai.1;clear ai;go_wp2;go_ret;exact⟨_,rfl,by rw[bM.1];rfl,HH.1.1,HH.1.2⟩):GT:=h
def Yy(S:Sg)(W:World)(cb:Nat):Prop:=S cb=none/\W.heap[cb]?=some (.cells #[.bool false,.bool false] 220 (0,0))
inductive vZ(S:Sg)(rs:List Nat)(W:World)(q:Nat):Value->Prop
 |nil:vZ S rs W q (.pointer none)
 |cons {b x y:Nat} {sx sy:Y} {p:Value}:S b=none->W.heap[b]?=some (.cells #[ptr x,ptr y,p] 276 (0,0))->S x=some sx->S y=some sy->(q<=2*J rs false false sx+1\/q<=2*J rs false false sy+1)->vZ S rs W q p->vZ S rs W q (ptr b)
def K7(F:Fs)(w:List ah)(x y:Y):Bool:=
 if isIf x&&isIf y then
  (F.ts x).comp==(F.ts y).comp&&Pa F.id w (F.ts x).terms (F.ts y).terms&&((F.ts x).lw.length==(F.ts y).lw.length)&&
   ((F.ts x).lw.zip (F.ts y).lw).all λp=>aE p.1.name p.2.name&&F.id p.1 p.2
 else if x.ld≠y.ld then false
 else if x.ld=1\/x.ld=11 then x.n==y.n
 else if x.ld=15\/x.ld=16 then true
 else if x.ld=3\/x.ld=9 then x.n==y.n&&idL F.id x.li y.li
 else if x.ld=4\/x.ld=6\/x.ld=8 then idL F.id x.li y.li
 else if x.ld=5 then x.li.length==y.li.length&&(x.li.zip y.li).all λp=>aE p.1.gc p.2.gc&&aE p.1.name p.2.name&&F.id p.1 p.2
 else if x.ld=7 then x.va==y.va&&idL F.id (own x) (own y)&&idL F.id (bN x) (bN y)
 else false
def L6(F w x y):jQ F w x y=K7 F w (una x) (una y):=rfl
section
variable(NS:List ByteArray)(Q:Y->Prop)(w:List ah)(S:Sg)(D:Qx)(obj:Nat->Nat)(rs:List Nat)(K r:Nat)
structure O5(E:Qx)(W:World)(cb:Nat)(u v:Value)(x y:Y)(p:Value)(q:Nat):Prop where
 ok:Ok w S D obj rs K E r W
 cb:Yy S W cb
 tu:dq S u x
 tv:dq S v y
 px:PT NS Q w 0 x
 py:PT NS Q w 0 y
 rx:2*J rs false false x+1<q
 ry:2*J rs false false y+1<q
 stk:vZ S rs W q p
 qr:q<=r
def sv:Prop:=∀(E:Qx) (W:World) (cb:Nat) (u v:Value) (x y:Y) (p:Value) (q:Nat),O5 NS Q w S D obj rs K r E W cb u v x y p q->
 Calls prog 130 #[ptr cb,u,v,p] W (aV w S D obj rs K E r W λv _=>v=.bool ((fs w K).id x y))
end
section
variable{rs:List Nat}{q b:Nat}
def Yy.move(h:Yy S W cb)(hf:bZ X S rs r W O):Yy S O cb:=⟨h.1,hf.obj h.1 h.2⟩
def vZ.move(h:vZ S rs W q p)(hf:bZ X S rs r W O):vZ S rs O q p:=by
 induction h with
 |nil=>exact .nil
 |cons a1 a2 a3 a4 a5 _ ih=>exact .cons a1 (hf.obj a1 a2) a3 a4 a5 ih
def vZ.mono(h:vZ S rs W q p)(hq:q'<=q):vZ S rs W q' p:=by
 induction h with
 |nil=>exact .nil
 |cons a1 a2 a3 a4 a5 _ ih=>exact .cons a1 a2 a3 a4 M ih
def l3{F:Fs}(h:x.ld≠y.ld)(hi:¬(isIf x=true/\isIf y=true)):K7 F w x y=false:=by
 unfold K7;have hf:(isIf x&&isIf y)=false:=by cases I:isIf x<;>cases U:isIf y<;>simp_all
 simp only[hf,jQk,jR1,jQ7 h]
def lu(hE:Env NS Q w rs cs)(hr:r<=K)(H:PT NS Q w 0 x)(hy:PT NS Q w 0 y)(I:2*J rs false false x+1<r)(U:2*J rs false false y+1<r):(fs w K).id x y=K7 (fs w K) w (una x) (una y):=
 (aeO hE hr H hy I U).trans (L6 _ _ _ _)
def ff(hE:Env NS Q w rs cs)(hr:r<=K)(H:PT NS Q w 0 x)(hy:PT NS Q w 0 y)(I:2*J rs false false x+1<r)(U:2*J rs false false y+1<r)(hs:dX (una x) (una y)):(fs w K).id x y=true:=by
 obtain⟨ux,jx, -⟩:=cJ hE.qp H;obtain⟨uy,jy, -⟩:=cJ hE.qp hy;have jx:=jx rs false false;have jy:=jy rs false false;rw[lu hE hr H hy I U];have h3:=lu hE hr ux uy M M;rw[vO,vO]at h3;rw[<-h3,dX.id (dX.refl (una x)) hs.symm];exact F9 hE.wk hE.qp r K hr _ ux M
def bZ.jl(h:bZ X S rs r W O)(hs:S b=some s)(hi:isIf s=false){cs:Array Value}{t:TypeId}(hb:W.heap[b]?=some (.cells cs t (0,0))):O.heap[b]?=some (.cells cs t (0,0)):=h.other hs hi hb
def bZ.fU(h:bZ X S rs r W O)(hs:S b=some s)(hi:isIf s=false)(hc:ce W b o v):O.cell? ⟨b,o,none⟩=some v:=by
 obtain⟨cs,t,f,hb⟩:=cells_of_cell hc;exact(jQi (w:=W) ((h.other hs hi hb).trans hb.symm)).trans hc
def iI(h:x.ld≠14):isIf (aG x)=isIf x:=by unfold isIf;rw[aI h]
def kV(hI:sv NS Q w S D obj rs K r)(h:O5 NS Q w S D obj rs K (r+1) E W cb u v x y p q)(hu:dq S u' e)(hv:dq S v' e')(he:PT NS Q w 0 e)(oJ:PT NS Q w 0 e')(hj:J rs false false e<J rs false false x)(Sf:J rs false false e'<J rs false false y)(g1:Ok w S D obj rs K E (r+1) W')(g2:Fr S rs (r+1) W W'):
 Calls prog 130 #[ptr cb,u',v',p] W' (aV w S D obj rs K E (r+1) W' λv _=>v=.bool ((fs w K).id e e')):=by
 have:=h.rx;have:=h.ry;have:=h.qr;exact(hI E W' cb u' v' e e' p (min q r) ⟨g1.le M,h.cb.move g2,hu,hv,he,oJ,M,M,(h.stk.move g2).mono M,M⟩).mono λe W2 j=>j.up g1 M
def dH(h:PT NS Q w 0 x)(bH:x.ld≠10):∀e∈x.li,PT NS Q w 0 e/\J rs false false e<J rs false false x:=λe he=>by
 have:=ow (rs:=rs) (h.ww (v':=false) (f':=false)) bH e he;exact⟨this.1.ww,this.2⟩
end
section
variable{rs:List Nat}{q:Nat}
def Si(hE:Env NS Q w rs cs)(hI:sv NS Q w S D obj rs K r)(hr:r+1<=K)(h:O5 NS Q w S D obj rs K (r+1) E W cb u v x y p q)(hk:(una x).ld=4):
 Calls prog 130 #[ptr cb,u,v,p] W (aV w S D obj rs K E (r+1) W λv _=>v=.bool ((fs w K).id x y)):=by
 have aF:=aS h.ok.gh h.tu;have aD:=aS h.ok.gh h.tv;obtain⟨ux,jx, -⟩:=cJ hE.qp h.px;obtain⟨uy,jy, -⟩:=cJ hE.qp h.py;replace jx:=jx rs false false;replace jy:=jy rs false false;have hid:=lu hE hr h.px h.py (V6 h.rx h.qr) (V6 h.ry h.qr);have c0:=G7 0 h.cb.2
 have c1:=G7 1 h.cb.2
 obtain⟨hx,HE,HI,pV,Ea,Am,tC⟩:=Z7 h hE hI hid ux uy (show∀w1 w2,Fr S rs (r+1) W w1->Ok w S D obj rs K E (r+1) w2->Fr S rs (r+1) w1 w2->(Ok w S D obj rs K E (r+1) w2/\Fr S rs (r+1) W w2)from λ_ _ I U h3=>⟨U,bZ.trans I h3⟩);clear h hE hI hid ux uy;have hX:tid (una x).ld=131:=by rw[hk];rfl
 go_in;go_wp21;refine aF.mono ?_;rintro e' O ⟨v1,rfl,dr,hw⟩;replace hw:=hw.symm;subst hw;go_wp21;refine aD.mono ?_;rintro e' O ⟨v2,rfl,fx,hw⟩;replace hw:=hw.symm;subst hw;obtain⟨b1,rfl,cz⟩:=id dr;obtain⟨b2,rfl,eX⟩:=id fx;obtain⟨rr,heq,cj,fK⟩:=sL hx.1.ok.gh dr fx;rw[hX]at heq⊢;cases rr with
 |true=>
  exact M5
 |false=>
  clear aF aD;have dB:=aY 131 (ptr b1) 37 W i5;have fX:=cM 131 (ptr b1) 37 W i5;by_cases iO:(una y).ld=4
  .have hY:tid (una y).ld=131:=by rw[iO];rfl
   rw[hY]at heq⊢;have qe:=aW (t:=una x) M M M M;have wP:=aW (t:=una y) M M M M;have xi:(aG (una x)).ld=(una x).ld:=aI M;have lG:(aG (una y)).ld=(una y).ld:=aI M;have wQ:isIf (aG (una x))=false:=by rw[iI M];simp[isIf,hk]
   have xj:isIf (aG (una y))=false:=by rw[iI M];simp[isIf,iO]
   have iP:=dH (rs:=rs) Ea.1 M;have iQ:=dH (rs:=rs) Am.1 M;obtain⟨v3,e3,gx,aZ,xk⟩:=(hx.1.ok.gh.node b1 _ cz).2.2.2.1 (by rw[xi];exact hk);obtain⟨v4,e4,gy,dI,FA⟩:=(hx.1.ok.gh.node b2 _ eX).2.2.2.1 (by rw[lG];exact iO);exact M11
  .have K9:¬(tid (una y).ld=131):=(λh=>by rcases de (una y).ld with g|g|g|g|g|g|g|g|g|g|g|g<;>first|exact iO g.1|(rw[g.2]at h;exact absurd h i5));have fp:=gz (tid (una y).ld) (ptr b2) 37 W K9;exact M7
def La(hE:Env NS Q w rs cs)(hI:sv NS Q w S D obj rs K r)(hr:r+1<=K)(h:O5 NS Q w S D obj rs K (r+1) E W cb u v x y p q)(hk:(una x).ld=6):
 Calls prog 130 #[ptr cb,u,v,p] W (aV w S D obj rs K E (r+1) W λv _=>v=.bool ((fs w K).id x y)):=by
 have aF:=aS h.ok.gh h.tu;have aD:=aS h.ok.gh h.tv;obtain⟨ux,jx, -⟩:=cJ hE.qp h.px;obtain⟨uy,jy, -⟩:=cJ hE.qp h.py;replace jx:=jx rs false false;replace jy:=jy rs false false;have hid:=lu hE hr h.px h.py (V6 h.rx h.qr) (V6 h.ry h.qr);have c0:=G7 0 h.cb.2
 have c1:=G7 1 h.cb.2
 obtain⟨hx,HE,HI,pV,Ea,Am,tC⟩:=Z7 h hE hI hid ux uy (show∀w1 w2,Fr S rs (r+1) W w1->Ok w S D obj rs K E (r+1) w2->Fr S rs (r+1) w1 w2->(Ok w S D obj rs K E (r+1) w2/\Fr S rs (r+1) W w2)from λ_ _ I U h3=>⟨U,bZ.trans I h3⟩);clear h hE hI hid ux uy;have hX:tid (una x).ld=133:=by rw[hk];rfl
 go_in;go_wp21;refine aF.mono ?_;rintro e' O ⟨v1,rfl,dr,hw⟩;replace hw:=hw.symm;subst hw;go_wp21;refine aD.mono ?_;rintro e' O ⟨v2,rfl,fx,hw⟩;replace hw:=hw.symm;subst hw;obtain⟨b1,rfl,cz⟩:=id dr;obtain⟨b2,rfl,eX⟩:=id fx;obtain⟨rr,heq,cj,fK⟩:=sL hx.1.ok.gh dr fx;rw[hX]at heq⊢;cases rr with
 |true=>
  exact M5
 |false=>
  clear aF aD;have dB:=aY 133 (ptr b1) 37 W i5;have fX:=cM 133 (ptr b1) 37 W i5;have pj:=gz 133 (ptr b1) 37 W i5;have eW:=bd 133 (ptr b1) 37 W i5;by_cases iO:(una y).ld=6
  .have hY:tid (una y).ld=133:=by rw[iO];rfl
   rw[hY]at heq⊢;have qe:=aW (t:=una x) M M M M;have wP:=aW (t:=una y) M M M M;have xi:(aG (una x)).ld=(una x).ld:=aI M;have lG:(aG (una y)).ld=(una y).ld:=aI M;have wQ:isIf (aG (una x))=false:=by rw[iI M];simp[isIf,hk]
   have xj:isIf (aG (una y))=false:=by rw[iI M];simp[isIf,iO]
   have iP:=dH (rs:=rs) Ea.1 M;have iQ:=dH (rs:=rs) Am.1 M;obtain⟨v3,e3,gx,aZ,xk⟩:=(hx.1.ok.gh.node b1 _ cz).2.2.2.2.2.1 (by rw[xi];exact hk);obtain⟨v4,e4,gy,dI,FA⟩:=(hx.1.ok.gh.node b2 _ eX).2.2.2.2.2.1 (by rw[lG];exact iO);exact M11
  .have K9:¬(tid (una y).ld=133):=(λh=>by rcases de (una y).ld with g|g|g|g|g|g|g|g|g|g|g|g<;>first|exact iO g.1|(rw[g.2]at h;exact absurd h i5));have fp:=aT (tid (una y).ld) (ptr b2) 37 W K9;exact M7
end
