import Derived.Test.YtabjfnkfocnklaaGreatDoorA09
set_option linter.all false
set_option maxHeartbeats 16000000
set_option maxRecDepth 20000
namespace Go.Proofs.YtabjfnkfocnklaaGreatDoor
open Go Go.RowKit Go.Lib S P Tryz
variable{a i:Acc}{cf d:Bool}{nm0:ByteArray}{F:Fs}{e e' m m0 s t x y:GT}{Q:GT->Prop}{acc l xJ:List (Option Tm)}{NS:List ByteArray}{ms xX:List GT}{cs:List Nat}{ps xs:List Value}{w:List ah}{B B10 B8 B9 K base cb ck kk mb md n pb q' r r' sb tb:Nat}{obj:Nat->Nat}{D E E' E1 E2 G X X':Nat->Prop}{ER so:Option Nat}{Y:Prop}{S:Sg}{c0 c1 c2 c3 c4 c5 msv mv mv' p tl ts ts0 u u' v v':Value}{P P':Value->World->Prop}{W W' W2 w' w1 w2 wr:World}
theorem M11(h:Y:=by
 have CM:(aG (una x)).elems=(una x).elems:=by rw[qe];rfl
 have xm:(aG (una y)).elems=(una y).elems:=by rw[wP];rfl
 rw[CM]at gx;rw[xm]at gy;have d3:W.cell? ⟨b1,0,none⟩=some v3:=by simp[World.cell?,aZ]
 have d4:W.cell? ⟨b2,0,none⟩=some v4:=by simp[World.cell?,dI]
 have sM:=Z (show∀w',Ok w S D obj rs K E (r+1) w'->Fr S rs (r+1) W w'->Calls prog 121 #[ptr cb,v3,v4,p] w' (aV w S D obj rs K E (r+1) w' λv _=>v=.bool ((fs w K).id e3 e4))from λw' g1 g2=>kV HI.1 H.1 xk FA (iP _ (by rw[gx];simp)).1 (iQ _ (by rw[gy];simp)).1 (by have:=(iP e3 (by rw[gx];simp)).2;omega) (by have:=(iQ e4 (by rw[gy];simp)).2;omega) g1 g2);have bo:(fs w K).id x y=(fs w K).id e3 e4:=by rw[pV.1];unfold K7;simp[isIf,hk,iO,gx,gy,idL]
 have bM:=Z bo;obtain⟨q3,rfl, -⟩:=id xk;obtain⟨q4,rfl, -⟩:=id FA;have hS:=Z (show∀w',(Ok w S D obj rs K E (r+1) w'/\Fr S rs (r+1) W w')->(Ok w S D obj rs K E (r+1) w'/\Fr S rs (r+1) W w')/\w'.cell? ⟨b1,0,none⟩=some (.iface (tid e3.kind) (ptr q3))/\w'.cell? ⟨b2,0,none⟩=some (.iface (tid e4.kind) (ptr q4))from λw' h=>⟨h,h.2.fU cz wQ d3,h.2.fU eX xj d4⟩);clear aZ dI xk FA bo;clear qe wP xi lG wQ xj iP iQ CM xm gx gy cz eX dr fx cj fK;go_wp2_with fail;refine jQ9 (S:=(λw'=>(Ok w S D obj rs K E (r+1) w'/\Fr S rs (r+1) W w')/\w'.cell? ⟨b1,0,none⟩=some (.iface (tid e3.kind) (ptr q3))/\w'.cell? ⟨b2,0,none⟩=some (.iface (tid e4.kind) (ptr q4)))) g9 (hS.1 _ ⟨H.1.ok.below HE.1.hs (jQ5 _ _).drew,Below.fr (jQ5 _ _).drew⟩) (λai=>?_);refine t4 0 1 2 3 ?_;refine t4 4 5 6 7 ?_;refine t2 8 9 ?_;refine rd 10 rfl λK hK=>?_;go_simp;have hh:=ai.1;clear ai;refine(sM.1 _ hh.1 hh.2).mono ?_;rintro eA wA ⟨vA,rfl,rfl,g1,g2⟩;have gE:=tC.1 _ _ hh.2 g1 g2;refine hK.out _ _ (hS.1 _ gE) (λai=>?_);clear hh gE g1 g2;clear hK K;refine tk 11 ?_;exact M22):Y:=h
theorem M188(h:Y:=by
 unfold az oZ;rw[ru m9 m9,jQ4 m9,jQ4 m9,jQ4 m9]):Y:=h
theorem M201(h:Y:=by
 unfold isName at this;simp only[Bool.and_eq_true,decide_eq_true_eq]at this;omega):Y:=h
theorem M22(h:Y:=by
 refine jQl g9 ?_ _;have HH:=Z ai.1;clear ai;go_wp2_with fail;go_ret;exact⟨_,rfl,by rw[bM.1];rfl,HH.1.1,HH.1.2⟩):Y:=h
theorem M39(h:Y:=by
 rintro b (rfl|rfl|rfl|rfl|hb|hb) cs t f hc
 ·rw[h.b8]at hc;cases hc;decide
 ·rw[h.b9]at hc;cases hc;decide
 ·rw[h.jN]at hc;cases hc;decide
 ·obtain⟨es,ck,h1,_⟩:=h.mp;rw[h1]at hc;cases hc
 ·rcases h.set with⟨h1,_⟩|⟨Uv,es,ck,h1,h2,_⟩
  ·rw[h1]at hb;cases hb
  ·rw[h1]at hb;cases hb;rw[h2]at hc;cases hc
 ·obtain⟨ps,h1,h2⟩:=h.row;rcases h1.2 with⟨rfl,_⟩|⟨g,cap,cur,rfl,k1,k2,k3⟩
  ·simp[Value.ownBlock]at hb
  ·simp[Value.ownBlock]at hb;subst hb;rw[k2]at hc;cases hc;decide):Y:=h
theorem M5(h:Y:=by
 have HP:=Z (show aV w S D obj rs K E (r+1) W (λv _=>v=.bool ((fs w K).id x y)) (.returned (.bool true)) W from⟨_,rfl,by rw[ff HE.1 hr H.1.px H.1.py (by have:=H.1.rx;have:=H.1.qr;omega) (by have:=H.1.ry;have:=H.1.qr;omega) (cj rfl)],H.1.ok,Fr.refl _⟩);clear cj fK dr fx cz eX aF aD;exact M13):Y:=h
theorem M8(h:Y:=by
 have bo:(fs w K).id x y=false:=by rw[pV.1];exact l3 m9 (by intro hh;have:=dw hh.1;omega)
 exact M86):Y:=h
theorem M86(h:Y:=by
 have HP:=Z (show aV w S D obj rs K E (r+1) W (λv _=>v=.bool ((fs w K).id x y)) (.returned (.bool false)) W from⟨_,rfl,by rw[bo],H.1.ok,Fr.refl _⟩);generalize tid (una y).kind=TY at*;clear bo cj fK dr fx cz eX;exact M13):Y:=h
section
variable{rs:List Nat}
theorem gp.block(h:gp w K S d G W so)(hb:∀b,so=some b->w'.heap[b]?=W.heap[b]?):gp w K S d G w' so:=λb e=>by
 obtain⟨es,ck,h1,h2⟩:=h b e;exact⟨es,ck,(hb b e).trans h1,h2⟩
theorem gp.lt(h:gp w K S d G W so):∀b,so=some b->b<W.heap.size:=λb e=>by
 obtain⟨es,ck,h1,h2⟩:=h b e;exact jQ2 h1
theorem afO(a b:Value):(#[a]++#[b]:Array Value)=#[a,b]:=rfl
theorem Vh(hE:Env NS Q w rs cs)(hC:dE NS Q w S D obj rs K r)(bD:Ok w S D obj rs K E r W)(h:mI S W sb l cf)(ha:isAllL l=false)(Hy:NF l)(fQ:TL (jH NS Q w rs B) l)(hB:2*B<=r)(hG:∀q s,G q->S q=some s->B<=J rs true false s)(mw:gp w K S false G W so)(Rv:W.cell? ⟨cb,0,none⟩=some (.map so))(KU:S cb=none):
 Calls prog 80 #[ptr sb,.func (.func 124) #[] #[ptr cb]] W (BQ w S D obj rs K E G r so W (if aK l then false else l.all (A4 (fs w K)))):=by
 have CW:=Hy.tp ha;obtain⟨ms,sl,q1,q2,q3⟩:=id h;obtain⟨c0,c1,c2,c3⟩:=dx q1;cases he:aK l with
 |true=>
  have hf:Calls prog 124 (#[.pointer none]++#[ptr cb]) W λe W'=>e=.returned (.bool false)/\Below W.heap.size W W':=by
   rw[afO];exact L8
  have hc:=YU h (by rw[he];rfl) 124 #[ptr cb] Tryz.call124 false (λW'=>Below W.heap.size W W') hf;refine hc.mono ?_;rintro e W' ⟨rfl,hb⟩;exact⟨rfl,bD.below hE.hs hb,Below.fr hb,λh=>by cases h⟩
 |false=>
  have eR:∀W',(Ok w S D obj rs K E r W'/\bZ (λb=>so=some b) S rs r W W'/\gp w K S false G W' so)->mI S W' sb l cf/\∀n c a,W.cell? ⟨sb,2,none⟩=some (.slice a n c)->lS S W' l (.slice a n c):=λW' hi=>⟨h.move hi.2.1,λn c a hc=>by
   have:sl=.slice a n c:=by rw[c2]at hc;exact jQw hc
   subst this;exact q3.move hi.2.1⟩
  have hf:∀W' x p,(Ok w S D obj rs K E r W'/\bZ (λb=>so=some b) S rs r W W'/\gp w K S false G W' so)->x∈l->TmV S W' x p->Calls prog 124 (#[p]++#[ptr cb]) W' (IsR (λW'=>Ok w S D obj rs K E r W'/\bZ (λb=>so=some b) S rs r W W'/\gp w K S false G W' so) (λW'=>Ok w S D obj rs K E r W'/\bZ (λb=>so=some b) S rs r W W') (A4 (fs w K) x)):=by
   intro W' x p hi hx ht;obtain⟨ti,ty,rfl⟩:=CW x hx;rw[afO];refine(Gq hE hC hi.1 ht (fQ _ hx _ rfl ty rfl) hB hG hi.2.2 (hi.2.1.cell KU Rv) KU).mono ?_;rintro e W2 ⟨rfl,k1,k2,k3⟩;exact⟨rfl,λh=>⟨k1,hi.2.1.trans k2,k3 h⟩,λ_=>⟨k1,hi.2.1.trans k2⟩⟩
  have hc:=JL h he ha CW 124 #[ptr cb] Tryz.call124 (A4 (fs w K)) _ _ ⟨bD,bZ.refl _,mw⟩ eR hf;refine hc.mono ?_;rintro e W2 ⟨rfl,k1,k2⟩;simp only[jQk,jR1];generalize l.all (A4 (fs w K))=res at*;cases res with
  |true=>obtain⟨g1,g2,g3⟩:=k1 rfl;exact⟨rfl,g1,g2,λ_=>g3⟩
  |false=>obtain⟨g1,g2⟩:=k2 rfl;exact⟨rfl,g1,g2,λh=>by cases h⟩
theorem qX(hE:Env NS Q w rs cs)(hC:dE NS Q w S D obj rs K r)(bD:Ok w S D obj rs K E r W)(h:mI S W sb l cf)(Hy:NF l)(fQ:TL (jH NS Q w rs B) l)(hB:2*B<=r)(hG:∀q s,G q->S q=some s->B<=J rs true false s)(mw:gp w K S false G W so):
 Calls prog 85 #[ptr sb,.map so] W (BQ w S D obj rs K E G r so W (if isAllL l then cf else if aK l then false else l.all (A4 (fs w K)))):=by
 have hA:=an W (.cells #[.map so] 156);have mx:=bD.below hE.hs hA;have Oz:=h.move (X:=Wc) (rs:=rs) (r:=r) (Below.fr hA);have GU:gp w K S false G (W.alloc (.cells #[.map so] 156)) so:=mw.block λb e=>hA.block b (mw.lt b e);have Rv:(W.alloc (.cells #[.map so] 156)).cell? ⟨W.heap.size,0,none⟩=some (.map so):=jQh (ak W _);have KU:S W.heap.size=none:=kA bD.gh;obtain⟨ms,sl,q1,q2,q3⟩:=id Oz;obtain⟨a,c,rfl⟩:=q3.form;obtain⟨c0,c1,c2,c3⟩:=dx q1;have aF:=fI q3;have FV:bZ (λb=>so=some b) S rs r W (W.alloc (.cells #[.map so] 156)):=Below.fr hA;have D8:=uW;cases ha:isAllL l with
 |true=>
  rw[ha]at aF;have HP:=Z (show BQ w S D obj rs K E G r so W cf (.returned (.bool cf)) (W.alloc (.cells #[.map so] 156))from⟨rfl,mx,FV,λ_=>GU⟩);show Calls _ _ _ _ (BQ w S D obj rs K E G r so W cf);clear hC hE bD h Hy fQ hG mw mx Oz GU q1 q2 q3 FV c0 c1 hA Rv KU;go_enter func85,ntmps85;go_wp2_with fail;refine rv aF ?_;exact M13
 |false=>
  rw[ha]at aF;show Calls _ _ _ _ (BQ w S D obj rs K E G r so W (if aK l then false else l.all (A4 (fs w K))));have aD:=Vh hE hC mx Oz ha Hy fQ hB hG GU Rv KU;have D6:=Z FV;generalize(if aK l then false else l.all (A4 (fs w K)))=res at aD⊢;clear hC hE bD h Hy fQ hG mw mx Oz GU q1 q2 q3 FV c0 c1 c3 hA Rv KU ha;go_enter func85,ntmps85;go_wp2_with fail;refine rv aF ?_;go_wp2_with fail;refine aD.mono ?_;rintro e w5 ⟨rfl,k1,k2,k3⟩;have HP:=Z (show BQ w S D obj rs K E G r so W res (.returned (.bool res)) w5 from⟨rfl,k1,D6.1.trans k2,k3⟩);clear aF aD k1 k2 k3;exact M13
end
section
variable{rs:List Nat}{b:Nat}{es:Array MapEntry}
theorem bZ.sub(h:bZ X' S rs r W w')(hx:∀b,X' b->X b\/W.heap.size<=b):bZ X S rs r W w':=
 ⟨h.os,h.tape,h.output,h.size,λb hb=>(h.block b hb).imp id λh=>h.imp id λh=>⟨(hx b h.1).resolve_right m9,h.2⟩⟩
theorem abp(hE:Env NS Q w rs cs)(hr:r<=K)(h:PT NS Q w 0 t)(hj:2*J rs true false t+1<r):(fs w K).cmp t d=bX (fs w K) w t d:=
 (eZ hE.wk hE.qp r K (K+1) hr m9).1.cmp t d h hj
theorem aeO(hE:Env NS Q w rs cs)(hr:r<=K)(hx:PT NS Q w 0 x)(hy:PT NS Q w 0 y)(h1:2*J rs false false x+1<r)(h2:2*J rs false false y+1<r):(fs w K).id x y=jQ (fs w K) w x y:=
 (eZ hE.wk hE.qp r K (K+1) hr m9).1.id x y hx hy h1 h2
theorem Ar(v f:Bool)(h:t.kind≠14):J rs v f (aG t)=J rs v f t:=by unfold aG mC;rw[jQ4 h];exact xN _ _ _ _
theorem Py(hE:Env NS Q w rs cs)(h:PT NS Q w 0 t):J rs true false (az w t)<=J rs true false (aG t)/\J rs false false (az w t)<=J rs true false (aG t):=by
 have hm:∀x:GT,J rs false false x<=J rs true false x:=λx=>dM i6 i6 x;by_cases mM:t.kind=14
 ·have h1:az w t=fD:=by rw[<-vP];unfold mC;rw[jQ7 mM];rfl
  have h2:aG t=fD:=by unfold aG mC;rw[jQ7 mM];rfl
  rw[h1,h2];exact⟨jQ0 _,hm _⟩
 ·rw[Ar _ _ mM];have:=(lq (rs:=rs) hE.wk hE.qp h).2;exact⟨this,jQd (hm _) this⟩
theorem gK(hE:Env NS Q w rs cs)(h:PT NS Q w 0 t):(az w t).kind=1\/(az w t).kind=3\/(az w t).kind=4\/(az w t).kind=5\/(az w t).kind=6\/(az w t).kind=7\/(az w t).kind=8\/(az w t).kind=9\/isIf (az w t)=true:=by
 rcases(lq hE.wk hE.qp h).1 with e|e
 ·rw[e];right;right;right;right;right;right;right;right;rfl
 ·have h1:=lg e.1;have h2:=gR e.1;by_cases bH:(az w t).kind=10
  ·right;right;right;right;right;right;right;right;simp[isIf,bH]
  ·omega
theorem A0(h:PT NS Q w 0 t)(hk:t.kind=1):0<=t.n/\t.n<18:=by
 obtain⟨k,n,m,va,nm,tg,l⟩:=t;simp only[GT.kind]at hk;subst hk;cases h with
 |basic a b=>exact⟨a,b⟩
 |uni h=>omega
 |al h=>omega
 |one h=>omega
def Dx(w:List ah)(S:Sg)(D:Nat->Prop)(obj:Nat->Nat)(rs:List Nat)(K:Nat)(E G:Nat->Prop)(r:Nat)(so:Option Nat)(W:World)(t:GT)(d:Bool)(e:Ending)(W':World):Prop:=
 lC (λb=>so=some b) w S D obj rs K E r W (λu W'=>(u=.pointer none/\(fs w K).cmp t d=true/\gp w K S d G W' so)\/(∃b,u=ptr b/\(fs w K).cmp t d=false)) e W'
def XV(so:Option Nat)(mb:Nat)(W:World):Prop:=so=some mb\/(so=none/\W.heap.size<=mb)
structure Hu(w:List ah)(S:Sg)(D:Nat->Prop)(obj:Nat->Nat)(rs:List Nat)(K:Nat)(E G:Nat->Prop)(r:Nat)(so:Option Nat)(W wr:World)(b mb:Nat)(d:Bool):Prop where
 ok:Ok w S D obj rs K E r wr
 fr:bZ (λx=>some mb=some x) S rs r W wr
 seen:gp w K S d (λq=>G q\/q=b) wr (some mb)
theorem Hu.yes(h:Hu w S D obj rs K E G r so W wr b mb d)(hm:XV so mb W)(hb:S b=some (aG t))(hc:(fs w K).cmp t d=true):Dx w S D obj rs K E G r so W t d (.returned (.pointer none)) wr:=by
 refine⟨_,rfl,.inl ⟨rfl,hc,?_⟩,h.ok,h.fr.sub λx e=>?_⟩
 ·obtain rfl|⟨rfl,_⟩:=hm
  ·intro x hx;obtain⟨es,ck,h1,h2⟩:=h.seen x hx;refine⟨es,ck,h1,λe he=>?_⟩;obtain⟨q,s,k1,k2,k3,k4⟩:=h2 e he;refine⟨q,s,k1,k2,k3,k4.elim .inl λhq=>hq.elim .inr λhq=>.inl ?_⟩;subst hq;rw[hb]at k2;cases k2;rw[dX.cmp (oN t)];exact hc
  ·intro x hx;cases hx
 ·cases e;obtain h|h:=hm
  ·exact .inl h
  ·exact .inr h.2
theorem Hu.no(h:Hu w S D obj rs K E G r so W wr b mb d)(hm:XV so mb W)(q:Nat)(hc:(fs w K).cmp t d=false):Dx w S D obj rs K E G r so W t d (.returned (ptr q)) wr:=by
 refine⟨_,rfl,.inr ⟨q,rfl,hc⟩,h.ok,h.fr.sub λx e=>?_⟩;cases e;obtain h|h:=hm
 ·exact .inl h
 ·exact .inr h.2
theorem Hu.below(h:Hu w S D obj rs K E G r so W wr b mb d)(hE:Env NS Q w rs cs)(hb:Below wr.heap.size wr w'):Hu w S D obj rs K E G r so W w' b mb d:=
 ⟨h.ok.below hE.hs hb,h.fr.trans (Below.fr hb),h.seen.block λx e=>hb.block x (h.seen.lt x e)⟩
theorem Hu.go(h:Hu w S D obj rs K E G r so W wr b mb d)(g1:Ok w S D obj rs K E r w')(g2:bZ (λx=>some mb=some x) S rs r wr w')(g3:gp w K S d (λq=>G q\/q=b) w' (some mb)):Hu w S D obj rs K E G r so W w' b mb d:=
 ⟨g1,h.fr.trans g2,g3⟩
theorem Hu.start(bD:Ok w S D obj rs K E r W)(hE:Env NS Q w rs cs)(hb:S b=some (aG t))(hf:bZ (λx=>some mb=some x) S rs r W w2)(iG:Ok w S D obj rs K E r w2)(hm:w2.heap[mb]?=some (.map es ck))(hs:∀e∈es.toList,∃q s,e.key=.iface (tid s.kind) (ptr q)/\S q=some s/\e.val=.bool true/\((fs w K).cmp s d=true\/G q))(hp:DD mb (es.push {key:=.iface (tid t.kind) (ptr b),val:=.bool true,born:=ck}) (ck+1) w2 w'):Hu w S D obj rs K E G r so W w' b mb d:=by
 have zF:bZ (λx=>some mb=some x) S rs r w2 w':=hp.fr hm rfl;refine⟨iG.frx hE.hs (hp.fr (X:=λx=>some mb=some x) hm rfl),hf.trans zF,λx hx=>?_⟩;cases hx;refine⟨_,_,hp.here,λe he=>?_⟩;simp at he;obtain he|rfl:=he
 ·obtain⟨q,s,k1,k2,k3,k4⟩:=hs e (by simpa using he);exact⟨q,s,k1,k2,k3,k4.imp id .inl⟩
 ·exact⟨b,aG t,by rw[GM],hb,rfl,.inr (.inr rfl)⟩
end
def PM(B8 B9 B10 pb:Nat)(so:Option Nat)(v:Value):Nat->Prop:=λb=>b=B8\/b=B9\/b=B10\/b=pb\/so=some b\/v.ownBlock=some b
structure KE(S:Sg)(D:Nat->Prop)(base:Nat)(wr:World)(B8 B9 B10 pb:Nat)(so:Option Nat)(ms:List GT)(v:Value):Prop where
 b8:wr.heap[B8]?=some (.cells #[.map so] 181 (0,0))
 set:J0 wr so (ms.map (·.name))
 b9:wr.heap[B9]?=some (.cells #[v] 97 (0,0))
 row:∃ps,wr.ownsRow base 95 1 v ms.length ps/\All2 (λm p=>sK S D wr m.name m p) ms ps
 jN:wr.heap[B10]?=some (.cells #[.map (some pb)] 182 (0,0))
 ne:so≠some pb
 mp:∃es ck,wr.heap[pb]?=some (.map es ck)/\∀e∈es.toList,∃q nm m,e.key=ptr q/\sK S D wr nm m (ptr q)
theorem KE.cR(h:KE S D base wr B8 B9 B10 pb so ms v)(hb:∀b,PM B8 B9 B10 pb so v b->b<wr.heap.size->w'.heap[b]?=wr.heap[b]?)(hD:∀b,D b->w'.heap[b]?=wr.heap[b]?):KE S D base w' B8 B9 B10 pb so ms v:=by
 have hm:au D D wr w':=λb hb=>⟨hb,hD b hb⟩;refine⟨(hb B8 (.inl rfl) (jQ2 h.b8)).trans h.b8,h.set.block λmb e=>?_,(hb B9 (.inr (.inl rfl)) (jQ2 h.b9)).trans h.b9,?_,(hb B10 (.inr (.inr (.inl rfl))) (jQ2 h.jN)).trans h.jN,h.ne,?_⟩
 ·refine hb mb (.inr (.inr (.inr (.inr (.inl e))))) ?_;rcases h.set with⟨h1,_⟩|⟨Uv,es,ck,h1,h2,_⟩
  ·rw[h1]at e;cases e
  ·rw[h1]at e;cases e;exact jQ2 h2
 ·obtain⟨ps,h1,h2⟩:=h.row;refine⟨ps,⟨h1.1,h1.2.imp id λ⟨g,cap,cur,e1,k1,k2,k3⟩=>?_⟩,h2.imp λm p hp=>hp.move (λ_ _ h=>h) hm⟩;subst e1;exact⟨g,cap,cur,rfl,k1,(hb g (.inr (.inr (.inr (.inr (.inr rfl))))) (jQ2 k2)).trans k2,k3⟩
 ·obtain⟨es,ck,h1,h2⟩:=h.mp;exact⟨es,ck,(hb pb (.inr (.inr (.inr (.inl rfl)))) (jQ2 h1)).trans h1,λe he=>by obtain⟨q,nm,m,k1,k2⟩:=h2 e he;exact⟨q,nm,m,k1,k2.move (λ_ _ h=>h) hm⟩⟩
theorem YW:(Tryz.prog.info? 95).map (λi=>(i.zero,i.size,i.bytes))=some (some (.pointer none),1,8):=g9
theorem acQ:(Tryz.prog.info? 178).map (·.size)=some 6:=g9
theorem OB:Tryz.prog.underlying 95=some (.pointer 178):=g9
theorem aaR:Tryz.prog.underlying 182=some (.map 95 62):=g9
theorem ckF(u:Nat)(W:World)(e:Bool):(Instr.checkKey e 10000 95 (ptr u)).run prog W=.ok () W:=by
 have h:∀n,(Instr.checkKey e (n+1) 95 (ptr u)).run prog W=.ok () W:=λn=>by
  unfold Instr.checkKey;simp[jQj OB,Result.andThen]
 exact h 9999
theorem afX(u:Nat):∀k',Instr.sameNow (.pointer 178) (ptr u) k'=none:=λk'=>by cases k'<;>rfl
theorem eqF{u:Nat}(hu:sK S D W nm0 m0 (ptr u)){es:List MapEntry}(h:∀e∈es,∃q nm m,e.key=ptr q/\sK S D W nm m (ptr q)):∀e∈es,(Op.equal 95 (ptr u) e.key).run prog W=.ok (Rb u e.key) W:=by
 intro e he;obtain⟨q,nm,m,hk,hq⟩:=h e he;obtain⟨-,_,_,_,h1⟩:=Aj hu;obtain⟨-,_,_,_,h2⟩:=Aj hq;obtain⟨j,hj,hz⟩:=jQ6.1 acQ;rw[hk];exact LK OB hj (by rw[hz];decide) h1 h2
theorem aca{u:Nat}(hu:sK S D W nm0 m0 (ptr u))(x:Value){es:Array MapEntry}(hb:W.heap[pb]?=some (.map es ck))(h:∀e∈es.toList,∃q nm m,e.key=ptr q/\sK S D W nm m (ptr q)):
 ∃w2 GA YX,(Instr.mapUpdate 182 (.map (some pb)) (ptr u) x).run prog W=.ok () w2/\DD pb GA YX W w2/\∀e∈GA.toList,e.key=ptr u\/∃e0∈es.toList,e.key=e0.key:=by
 cases hh:hitE (Rb u) es.toList 0 with
 |none=>
  obtain⟨w2,h1,h2⟩:=kP (v:=x) aaR OB (afX u) (ckF u W) hb (eqF hu h) hh;refine⟨w2,_,_,h1,h2,λe he=>?_⟩;simp at he;obtain he|rfl:=he
  ·exact .inr ⟨e,by simpa using he,rfl⟩
  ·exact .inl rfl
 |some jv=>
  obtain⟨j,v⟩:=jv;obtain⟨k,e0,e1,g2,g3,g4⟩:=oD hh;rw[jRd]at e1;subst e1;obtain⟨q,nm,m,hk,_⟩:=h e0 (jQ8 g2);rw[hk]at g3;have hq:u=q:=by simpa[Rb]using g3
  subst hq;obtain⟨w2,h1,h2⟩:=iV (v:=x) aaR OB (afX u) (ckF u W) hb (eqF hu h) (by simpa using g2) hh (by rw[hk];exact jV u);refine⟨w2,_,_,h1,h2,λe he=>?_⟩;obtain⟨i,hi⟩:=List.mem_iff_getElem?.1 he;rw[jRr,Array.getElem?_modify]at hi;split at hi
  ·cases hz:es[i]? with
   |none=>simp[hz]at hi
   |some z=>simp[hz]at hi;subst hi;exact .inl rfl
  ·exact .inr ⟨e,jQ8 (by rw[jRr];exact hi),rfl⟩
def YV(S:Sg)(D:Nat->Prop)(base:Nat)(W:World)(B8 B9 B10 pb:Nat)(so:Option Nat)(ms:List GT)(v:Value)(m:GT)(e:Ending)(W':World):Prop:=
 e=.returned (.tuple #[])/\∃ER v',KE S D base W' B8 B9 B10 pb ER (lF ms m) v'/\iN (PM B8 B9 B10 pb so v) W W'/\∀b,PM B8 B9 B10 pb ER v' b->PM B8 B9 B10 pb so v b\/(W.heap.size<=b/\b<W'.heap.size)
theorem KE.nt(h:KE S D base W B8 B9 B10 pb so ms v):∀b,PM B8 B9 B10 pb so v b->∀cs t f,W.heap[b]?=some (.cells cs t f)->t≠154/\t≠234:=M39
theorem KE.vne(h:KE S D base W B8 B9 B10 pb so ms v):v.ownBlock≠some B8/\v.ownBlock≠some B9/\v.ownBlock≠some B10/\v.ownBlock≠some pb/\(∀mb,so=some mb->v.ownBlock≠some mb):=by
 obtain⟨ps,h1,h2⟩:=h.row;have hk:∀{b:Nat} {o:Obj},W.heap[b]?=some o->v.ownBlock=some b->∃cur,o=.cells cur 95 (0,0):=by
  intro b o ho e;rcases h1.2 with⟨rfl,_⟩|⟨g,cap,cur,rfl,k1,k2,k3⟩
  ·simp[Value.ownBlock]at e
  ·simp[Value.ownBlock]at e;subst e;rw[k2]at ho;cases ho;exact⟨cur,rfl⟩
 refine⟨λe=>?_,λe=>?_,λe=>?_,λe=>?_,λmb Ev e=>?_⟩
 ·obtain⟨_,e⟩:=hk h.b8 e;simp at e
 ·obtain⟨_,e⟩:=hk h.b9 e;simp at e
 ·obtain⟨_,e⟩:=hk h.jN e;simp at e
 ·obtain⟨es,ck,h3,_⟩:=h.mp;obtain⟨_,e⟩:=hk h3 e;cases e
 ·rcases h.set with⟨h3,_⟩|⟨Uv,es,ck,h3,h4,_⟩
  ·rw[h3]at Ev;cases Ev
  ·rw[h3]at Ev;cases Ev;obtain⟨_,e⟩:=hk h4 e;cases e
theorem KE.bne(h:KE S D base W B8 B9 B10 pb so ms v):B8≠B9/\B8≠B10/\B9≠B10/\pb≠B8/\pb≠B9/\pb≠B10/\(∀mb,so=some mb->mb≠B8/\mb≠B9/\mb≠B10/\mb≠pb):=by
 obtain⟨es,ck,h1,_⟩:=h.mp;refine⟨λe=>?_,λe=>?_,λe=>?_,λe=>?_,λe=>?_,λe=>?_,λmb Ev=>?_⟩
 ·have:=h.b8;rw[e,h.b9]at this;simp at this
 ·have:=h.b8;rw[e,h.jN]at this;simp at this
 ·have:=h.b9;rw[e,h.jN]at this;simp at this
 ·have:=h.b8;rw[<-e,h1]at this;cases this
 ·have:=h.b9;rw[<-e,h1]at this;cases this
 ·have:=h.jN;rw[<-e,h1]at this;cases this
 ·rcases h.set with⟨h3,_⟩|⟨Uv,es,ck,h3,h4,_⟩
  ·rw[h3]at Ev;cases Ev
  ·rw[h3]at Ev;cases Ev;refine⟨λe=>?_,λe=>?_,λe=>?_,λe=>?_⟩
   ·have:=h.b8;rw[<-e,h4]at this;cases this
   ·have:=h.b9;rw[<-e,h4]at this;cases this
   ·have:=h.jN;rw[<-e,h4]at this;cases this
   ·exact h.ne (by rw[h3,e])
theorem Jh(h:m.name∈ms.map (·.name)):lF ms m=ms:=by
 obtain⟨f,hf,e⟩:=jQu.1 h;unfold lF;rw[jQ7 (List.any_eq_true.2 ⟨f,hf,by simp[aE,e]⟩)]
theorem Bu(h:¬m.name∈ms.map (·.name)):lF ms m=ms++[m]:=by
 unfold lF;rw[jQ4];intro hh;obtain⟨f,hf,e⟩:=List.any_eq_true.1 hh;exact h (jQu.2 ⟨f,hf,by simpa[aE]using e⟩)
theorem Qg{ops:Array Oper}{rest:List Oper}{o:Oper}{a:Act}{w:World}{Q:Exit->Act->World->Prop}(mX:o.guard=none)(s x:Operand)(ho:o.op=.call {callee:=.builtin .append,args:=#[s,x],argTypes:=#[97,97]})(base:Nat)(v:Value)(n:Nat)(ps:List Value)(hs:a.eval s=v)(aL:w.ownsRow base 95 1 v n ps)(p:Value)(ke:p.oneCell'=true)(ad:Addr)(c:Nat)(hx:a.eval x=.slice (some ad) 1 c)(hc:∀j u,[p][j]?=some u->w.cell? (ad.add j)=some u)(cF:n+1<=1099511627776)(cS:base<=w.heap.size)(h:∀v' w',w'.ownsRow base 95 1 v' (n+1) (ps++[p])->iN (λb=>v.ownBlock=some b) w w'->(v'.ownBlock=v.ownBlock\/v'.ownBlock=some w.heap.size)->wpList prog ops Q rest (a.put o.dst v') w'):wpList prog ops Q (o::rest) a w:=by
 obtain⟨i0,pn,lA,gj,j7⟩:=info_parts YW;refine wpList_append_own_at w mX s x 97 ho base 95 i0 _ 1 8 underlying97 pn lA gj j7 rfl m9 v n ps hs aL ad 1 c [p] hx i6 hc (by simpa using ke)
  (by simp only[maxLen];omega) m9 cS λv' w' k1 k2 _ k4=>?_
 exact h v' w' k1 (iN.grown k2 aL i5 i5) k4
theorem pL{e:TypeId}(h:W.ownsRow base e 1 v n xs):∃a c,v=.slice a n c:=by
 rcases h.2 with⟨rfl,h0⟩|⟨g',cap,cur,rfl,_⟩
 ·exact⟨none,0,by rw[h0]⟩
 ·exact⟨_,_,rfl⟩
theorem pN{e:TypeId}(h:W.ownsRow base e 1 v n xs):∀g,v.ownBlock=some g->base<=g/\g<W.heap.size:=by
 intro g hg;rcases h.2 with⟨rfl,_⟩|⟨g',cap,cur,rfl,k1,k2,k3⟩
 ·simp[Value.ownBlock]at hg
 ·simp[Value.ownBlock]at hg;subst hg;exact⟨k1,jQ2 k2⟩
theorem jb{e:TypeId}(h:W.ownsRow base e 1 v n xs)(hb:∀g,v.ownBlock=some g->W'.heap[g]?=W.heap[g]?):W'.ownsRow base e 1 v n xs:=by
 refine⟨h.1,h.2.imp id λ⟨g,cap,cur,e1,k1,k2,k3⟩=>?_⟩;subst e1;exact⟨g,cap,cur,rfl,k1,(hb g rfl).trans k2,k3⟩
theorem BZ(h:KE S D base W B8 B9 B10 pb so ms v)(hD:∀b,PM B8 B9 B10 pb so v b->¬D b)(mY:Lo D W.heap.size)(hm:sK S D W m.name m p)(hc:wM m.name)(hz:m.name.size<=9223372036854775807)(ht:jE D W)(cS:base<=W.heap.size)(cF:¬m.name∈ms.map (·.name)->ms.length+1<=1099511627776)(pos:Int)(ex:Bool):
 Calls prog 94 #[.int .i64 pos,p,.bool ex,ptr B8,ptr B9,ptr B10] W (YV S D base W B8 B9 B10 pb so ms v m):=by
 obtain⟨b,ip,pk,iv,rfl,kN,hb,qy⟩:=id hm;have c1:W.cell? ⟨b,1,none⟩=some (.pointer pk):=by simp[World.cell?,hb]
 have c2:W.cell? ⟨b,2,none⟩=some (.string m.name):=by simp[World.cell?,hb]
 have ag:=GB h.b8 h.set c1 c2 hc hz ht;obtain⟨n1,n2,n3,n4,n5,n6,n7⟩:=h.bne;obtain⟨v1,v2,v3,v4,v5⟩:=h.vne;obtain⟨HH,HD,HM,jf⟩:=Z4 h hD hm mY;clear c1 c2 hb qy h hD hm hc ht mY;go_enter func94,ntmps94;go_wp2_with fail;refine ag.mono ?_;intro e w1 hr;clear ag;rcases hr with⟨Oe,⟨T,x,rfl⟩,ji⟩|⟨fp,rfl,ER,nN,sG,qA,Nh⟩
 ·have hk:KE S D base w1 B8 B9 B10 pb so ms v:=HH.1.cR (λb _ hl=>ji.block b hl) (λb hd=>ji.block b (jf.1 b hd));have HP:=Z (show YV S D base W B8 B9 B10 pb so ms v m (.returned (.tuple #[])) w1 from⟨rfl,so,v,by rw[Jh Oe];exact hk,iN.Uw ji HH.1.nt,λb hb=>.inl hb⟩);clear hk ji Oe;cases ex
  all_goals
   go_wp2_with fail;refine jRq (v:=.tuple #[]) (by simp[results,Tryz.results94,go_sem]) rfl ?_;exact HP.1
 ·obtain⟨ps,aL,eO⟩:=HH.1.row;obtain⟨va,vc,rfl⟩:=pL aL;have k01:∀x,x<W.heap.size->x≠B8->so≠some x->w1.heap[x]?=W.heap[x]?:=λx hx h1 h2=>qA.block x hx λe=>e.elim h1 h2;have l8:=jQ2 HH.1.b8;have l9:=jQ2 HH.1.b9;have l10:=jQ2 HH.1.jN;have lpb:pb<W.heap.size:=by obtain⟨es,ck,h1,_⟩:=HH.1.mp;exact jQ2 h1
  have s9:so≠some B9:=λe=>(n7 B9 e).2.1 rfl;have s10:so≠some B10:=λe=>(n7 B10 e).2.2.1 rfl;have gj:=qA.size;have h9:w1.heap[B9]?=some (.cells #[.slice va ms.length vc] 97 (0,0)):=(k01 B9 l9 (Ne.symm n1) s9).trans HH.1.b9;have bH:w1.heap[B10]?=some (.cells #[.map (some pb)] 182 (0,0)):=(k01 B10 l10 (Ne.symm n2) s10).trans HH.1.jN;have oQ:w1.ownsRow base 95 1 (.slice va ms.length vc) ms.length ps:=jb aL λg hg=>k01 g (pN aL g hg).2 (λe=>v1 (e▸hg)) (λe=>v5 g e hg);have aaI:(w1.alloc (.cells #[ptr b] 95)).ownsRow base 95 1 (.slice va ms.length vc) ms.length ps:=jb oQ λg hg=>(an w1 _).block g (pN oQ g hg).2;have c9:=jQh h9;have eP:base<=(w1.alloc (.cells #[ptr b] 95)).heap.size:=by simp;omega
  obtain⟨ahS,afh,afi,HP1,gV,WE,H9,H10⟩:=Z8 eO k01 aaI qA sG nN h9 bH;have HSO:=Z Nh;clear eO k01 aL oQ aaI qA sG nN h9 bH Nh;go_wp2_with (at_builtin;refine Qg rfl _ _ rfl base _ ms.length ps rfl afi.1 (ptr b) rfl ⟨w1.heap.size,0,none⟩ _ rfl (cell_one_new _ _ _) (cF fp) eP ?_);intro v2' w2 rD fJ Sq;obtain⟨va2,vc2,e2⟩:=pL rD;subst e2;have tT:∀x,x<w1.heap.size->Value.ownBlock (.slice va ms.length vc)≠some x->w2.heap[x]?=w1.heap[x]?:=λx hx hn=>(fJ.block x (by simp;omega) hn).trans ((an w1 _).block x hx);have j7:=fJ.size;simp only[jQ3]at j7 Sq;have h9b:w2.heap[B9]?=some (.cells #[.slice va ms.length vc] 97 (0,0)):=(tT B9 m9 v2).trans H9.1;obtain⟨rE,pG,pZ⟩:=Z3 rD fJ Sq;clear rD fJ Sq;go_wp2_with (refine eT rfl 97 _ _ rfl B9 0 (.slice va2 (ms.length+1) vc2) rfl rfl 97 _ h9b g9 (by simp[Value.cells,Value.oneCell']) (by simp[Value.cells]) #[.slice va2 (ms.length+1) vc2] (by simp[Value.cells]) ?_);intro w3 fm;have ll:∀x,x<w1.heap.size->x≠B9->Value.ownBlock (.slice va ms.length vc)≠some x->w3.heap[x]?=w1.heap[x]?:=λx hx h9 hn=>(fm.other x h9).trans (tT x hx hn);have k03:∀x,x<W.heap.size->¬PM B8 B9 B10 pb so (.slice va ms.length vc) x->w3.heap[x]?=W.heap[x]?:=λx hx hn=>
   (ll x m9 (λe=>hn (.inr (.inl e))) (λe=>hn (.inr (.inr (.inr (.inr (.inr e))))))).trans (afh.1 x hx (λe=>hn (.inl e)) (λe=>hn (.inr (.inr (.inr (.inr (.inl e)))))))
  have hD3:∀x,D x->w3.heap[x]?=W.heap[x]?:=λx hx=>k03 x (jf.1 x hx) λe=>HD.1 x e hx;have ab9:au D D W w3:=λx hx=>⟨hx,hD3 x hx⟩;obtain⟨es,ck,lD,vi⟩:=HH.1.mp;have afj:w3.heap[pb]?=some (.map es ck):=((ll pb m9 n5 v4).trans (afh.1 pb lpb n4 (λe=>(n7 pb e).2.2.2 rfl))).trans lD;obtain⟨w4,GA,YX,Oj,gF,QZ⟩:=aca (HM.1.move (λ_ _ h=>h) ab9) (.int .i64 pos) afj (λe he=>by obtain⟨q,nm,m',g1,g2⟩:=vi e he;exact⟨q,nm,m',g1,g2.move (λ_ _ h=>h) ab9⟩);have acb:w3.heap[B10]?=some (.cells #[.map (some pb)] 182 (0,0)):=(ll B10 m9 (Ne.symm n3) v3).trans H10.1;have c10:=jQh acb;have hz4:=gF.size;have JD:=fm.size;have k04:∀x,x<W.heap.size->¬PM B8 B9 B10 pb so (.slice va ms.length vc) x->w4.heap[x]?=W.heap[x]?:=λx hx hn=>(gF.other x λe=>hn (.inr (.inr (.inr (.inl e))))).trans (k03 x hx hn);have Ux:au D D W w4:=λx hx=>⟨hx,k04 x (jf.1 x hx) λe=>HD.1 x e hx⟩;have hneW:pb<W.heap.size:=lpb;have aaJ:=pN rE.1;have Mj:∀mb,ER=some mb->mb<w1.heap.size/\mb≠B9/\mb≠pb/\Value.ownBlock (.slice va ms.length vc)≠some mb:=by
   intro mb e;have hl:mb<w1.heap.size:=by
    rcases gV.1 with⟨h1,_⟩|⟨Uv,_,_,h1,h2,_⟩
    ·rw[h1]at e;cases e
    ·rw[h1]at e;cases e;exact jQ2 h2
   obtain h1|⟨Uv,h1,h2⟩:=HSO.1
   ·rw[h1]at e;exact⟨hl,(n7 mb e).2.1,(n7 mb e).2.2.2,v5 mb e⟩
   ·rw[h1]at e;cases e;refine⟨hl,m9,m9,λe=>?_⟩;obtain⟨wO,h3,_⟩:=HH.1.row;have:=(pN h3 _ e).2;omega
  have hMS:KE S D base w4 B8 B9 B10 pb ER (lF ms m) (.slice va2 (ms.length+1) vc2):=by
   rw[Bu fp];refine⟨?_,?_,?_,?_,?_,?_,?_⟩
   ·exact(gF.other B8 (Ne.symm n4)).trans ((ll B8 m9 n1 v1).trans WE.1)
   ·rw[List.map_append,List.map_singleton];exact gV.1.block λmb e=>(gF.other mb (Mj mb e).2.2.1).trans (ll mb (Mj mb e).1 (Mj mb e).2.1 (Mj mb e).2.2.2)
   ·exact(gF.other B9 (Ne.symm n5)).trans fm.here
   ·refine⟨ps++[ptr b],?_,All2.app (R:=λm p=>sK S D w4 m.name m p) (l':=[m]) (m':=[ptr b]) ⟨HM.1.move (λ_ _ h=>h) Ux,trivial⟩ (ahS.1.imp λm' p hp=>hp.move (λ_ _ h=>h) Ux)⟩;rw[jQo,List.length_singleton];refine jb rE.1 λg hg=>?_;have Ho:g≠B9:=by
     intro e;obtain e1|e1:=pZ.1
     ·rw[e1]at hg;exact v2 (e▸hg)
     ·rw[e1]at hg;cases hg;omega
    have hgp:g≠pb:=by
     intro e;obtain e1|e1:=pZ.1
     ·rw[e1]at hg;exact v4 (e▸hg)
     ·rw[e1]at hg;cases hg;omega
    exact(gF.other g hgp).trans (fm.other g Ho)
   ·exact(gF.other B10 (Ne.symm n6)).trans acb
   ·intro e;exact(Mj pb e).2.2.1 rfl
   ·refine⟨GA,YX,gF.here,λe he=>?_⟩;rcases QZ e he with h1|⟨e0,zh,h1⟩
    ·exact⟨b,m.name,m,h1,HM.1.move (λ_ _ h=>h) Ux⟩
    ·obtain⟨q,nm,m',g1,g2⟩:=vi e0 zh;exact⟨q,nm,m',h1.trans g1,g2.move (λ_ _ h=>h) Ux⟩
  have hPR:iN (PM B8 B9 B10 pb so (.slice va ms.length vc)) W w4:=by
   refine⟨gF.os.trans (fm.os.trans (pG.1.os.trans HP1.1.os)),gF.tape.trans (fm.tape.trans (pG.1.tape.trans HP1.1.tape)),gF.output.trans (fm.output.trans (pG.1.output.trans HP1.1.output)),m9,k04,HH.1.nt⟩
  have HP:=Z (show YV S D base W B8 B9 B10 pb so ms (.slice va ms.length vc) m (.returned (.tuple #[])) w4 from⟨rfl,ER,_,hMS,hPR,λx hx=>by
   obtain hx|hx|hx|hx|hx|hx:=hx
   ·exact .inl (.inl hx)
   ·exact .inl (.inr (.inl hx))
   ·exact .inl (.inr (.inr (.inl hx)))
   ·exact .inl (.inr (.inr (.inr (.inl hx))))
   ·obtain h1|⟨Uv,h1,h2⟩:=HSO.1
    ·exact .inl (.inr (.inr (.inr (.inr (.inl (h1▸hx))))))
    ·have:=(Mj x hx).1;rw[h1]at hx;cases hx;exact .inr ⟨h2,m9⟩
   ·obtain e1|e1:=pZ.1
    ·exact .inl (.inr (.inr (.inr (.inr (.inr (e1▸hx))))))
    ·have:=(aaJ x hx).2;rw[e1]at hx;cases hx;exact .inr ⟨m9,m9⟩⟩)
  clear hMS hPR Mj aaJ k04 Ux k03 hD3 ab9 lD vi afj gF QZ acb fm ll tT h9b;go_wp2_with fail;refine jRq (v:=.tuple #[]) (by simp[results,Tryz.results94,go_sem]) rfl ?_;exact HP.1
section
variable{rs:List Nat}{b:Nat}
theorem KE.nt2(h:KE S D base W B8 B9 B10 pb so ms v):∀b,PM B8 B9 B10 pb so v b->∀cs t f,W.heap[b]?=some (.cells cs t f)->t≠152/\t≠122:=M39
theorem FR.ng{t:Nat}(h:FR w K S W t s)(hp:iN E1 W w')(hE:∀b,E1 b->∀cs t f,W.heap[b]?=some (.cells cs t f)->t≠152/\t≠122):FR w K S w' t s:=by
 obtain⟨inv,tl,h1,h2,h3,h4⟩:=h;exact⟨inv,tl,(hp.block t (jQ2 h1) λe=>(hE t e _ _ _ h1).2 rfl).trans h1,h2,h3,λq hq=>⟨(h4 q hq).1,(h4 q hq).2.Mo hp λb hb cs f hc=>(hE b hb _ _ _ hc).1 rfl⟩⟩
theorem Dj.ng(h:Dj w K S W mb)(hp:iN E1 W w')(hm:¬E1 mb)(hE:∀b,E1 b->∀cs t f,W.heap[b]?=some (.cells cs t f)->t≠152/\t≠122):Dj w K S w' mb:=by
 obtain⟨es,ck,h1,h2⟩:=h;refine⟨es,ck,(hp.block mb (jQ2 h1) hm).trans h1,λe he=>?_⟩;obtain⟨u,tb,s,k1,k2,k3,k4⟩:=h2 e he;exact⟨u,tb,s,k1,k2,k3,k4.ng hp hE⟩
theorem Dj.move(h:Dj w K S W mb)(hf:Fr S rs r W w'):Dj w K S w' mb:=by
 obtain⟨es,ck,h1,h2⟩:=h;exact⟨es,ck,hf.map (λh=>h) h1,h2.move hf⟩
theorem yn.step{t:Nat}{s:TS}(h:yn S D E W t s)(hp:iN E1 W w')(hE:∀b,E1 b->E b)(hD:au D D W w')(hE':∀b,E' b->E b\/W.heap.size<=b):yn S D E' w' t s:=by
 obtain⟨ms,tl,ps,e1,e2,e3,k1,k2,k3,k4,k5⟩:=h;have ho:∀{b:Nat},b<W.heap.size->¬E b->¬E' b:=λhl hn he=>(hE' _ he).elim hn λh=>m9
 refine⟨ms,tl,ps,ho (jQ2 k1) e1,λad n c e hn=>?_,λad n c e hn=>?_,(hp.block t (jQ2 k1) λe=>e1 (hE _ e)).trans k1,k2,k3.ng hp (e2.wide hE),k4.imp λm p hv=>hv.move (λ_ _ h=>h) hD,k5.ng hp (e3.wide hE)⟩
 ·exact M147
 ·exact M78
def EC(E:Nat->Prop)(tb B8 B9 B10 pb:Nat)(so:Option Nat)(mv:Value):Nat->Prop:=λx=>E x\/x=tb\/PM B8 B9 B10 pb so mv x
structure rA(w:List ah)(S:Sg)(D:Nat->Prop)(obj:Nat->Nat)(rs:List Nat)(K:Nat)(E:Nat->Prop)(r:Nat)(W wr:World)(b:Nat)(s:GT)(tb mb B8 B9 B10 pb:Nat)(so:Option Nat)(ms:List GT)(mv:Value)(acc:List (Option Tm))(v:Value):Prop where
 ok:Ok w S D obj rs K (EC E tb B8 B9 B10 pb so mv) r wr
 fr:Fr S rs (r+1) W wr
 oth:∀x s',S x=some s'->x≠b->r<=2*J rs false false s'->wr.heap[x]?=W.heap[x]?
 sb:S b=some s
 rk:r<=2*J rs false false s
 ifc:iJ S D wr b s (ptr tb)
 ts:∃tl,wr.heap[tb]?=some (.cells #[.bool false,.slice none 0 0,tl,.bool false] 122 (0,0))
 TC:KE S D W.heap.size wr B8 B9 B10 pb so ms mv
 us:Dj w K S wr mb
 row:lS S wr acc v
 out:Out (λx=>x<W.heap.size) v
 lt:W.heap.size<=tb
 lm:W.heap.size<=mb
 lp:∀x,PM B8 B9 B10 pb so mv x->W.heap.size<=x
 nm:¬PM B8 B9 B10 pb so mv mb
 nt:¬PM B8 B9 B10 pb so mv tb
theorem rA.sn(h:rA w S D obj rs K E r W wr b s tb mb B8 B9 B10 pb so ms mv acc v):S tb=none/\(∀x,PM B8 B9 B10 pb so mv x->S x=none/\¬D x):=⟨(h.ok.own tb (.inr (.inl rfl))).2.2,λx hx=>⟨(h.ok.own x (.inr (.inr hx))).2.2,(h.ok.own x (.inr (.inr hx))).2.1⟩⟩
theorem rA.go(h:rA w S D obj rs K E r W wr b s tb mb B8 B9 B10 pb so ms mv acc v)(g1:Ok w S D obj rs K (EC E tb B8 B9 B10 pb so mv) r w')(g2:bZ (λx=>x=mb) S rs r wr w')(zU:Dj w K S w' mb):
 rA w S D obj rs K E r W w' b s tb mb B8 B9 B10 pb so ms mv acc v:=by
 have hS:∀x s',S x=some s'->r<=2*J rs false false s'->w'.heap[x]?=wr.heap[x]?:=λx s' hs hr=>by
  rcases g2.block x (h.ok.gh.lI x s' hs)with e|⟨s2,_,_,k1,_,k3,_⟩|⟨_,⟨_,_,k⟩,_⟩
  ·exact e
  ·rw[hs]at k1;cases k1;omega
  ·obtain⟨cs,t,hc⟩:=h.ok.gh.A9 x s' hs;rw[hc]at k;cases k
 have hD:=h.ok.gh.eu g2;refine⟨g1,((Fr.x h.fr).trans (g2.mono m9)).new λx hx=>by subst hx;exact h.lm,λx s' hs bk hr=>(hS x s' hs hr).trans (h.oth x s' hs bk hr),h.sb,h.rk,h.ifc.move (λ_ _ h=>h) hD (hS b s h.sb h.rk),?_,?_,zU,h.row.move g2,h.out,h.lt,h.lm,h.lp,h.nm,h.nt⟩
 ·obtain⟨tl,ht⟩:=h.ts;exact⟨tl,g2.obj h.sn.1 ht⟩
 ·refine h.TC.cR (λx hx hl=>?_) λx hx=>(hD x hx).2;rcases g2.block x hl with e|⟨s2,_,_,k1,_⟩|⟨k,_⟩
  ·exact e
  ·rw[(h.sn.2 x hx).1]at k1;cases k1
  ·exact absurd (k▸hx) h.nm
theorem rA.go0(h:rA w S D obj rs K E r W wr b s tb mb B8 B9 B10 pb so ms mv acc v)(g1:Ok w S D obj rs K (EC E tb B8 B9 B10 pb so mv) r w')(g2:Fr S rs r wr w'):rA w S D obj rs K E r W w' b s tb mb B8 B9 B10 pb so ms mv acc v:=
 h.go g1 g2.x (h.us.move g2)
theorem rA.below(h:rA w S D obj rs K E r W wr b s tb mb B8 B9 B10 pb so ms mv acc v)(hE:Env NS Q w rs cs)(hb:Below wr.heap.size wr w'):rA w S D obj rs K E r W w' b s tb mb B8 B9 B10 pb so ms mv acc v:=
 h.go0 (h.ok.below hE.hs hb) (Below.fr hb)
theorem rA.set(h:rA w S D obj rs K E r W wr b s tb mb B8 B9 B10 pb so ms mv acc v)(hr:lS S wr xJ v')(ho:Out (λx=>x<W.heap.size) v'):rA w S D obj rs K E r W wr b s tb mb B8 B9 B10 pb so ms mv xJ v':=
 ⟨h.ok,h.fr,h.oth,h.sb,h.rk,h.ifc,h.ts,h.TC,h.us,hr,ho,h.lt,h.lm,h.lp,h.nm,h.nt⟩
theorem rA.new(h:rA w S D obj rs K E r W wr b s tb mb B8 B9 B10 pb so ms mv acc v)(k1:qn S wr.heap.size w' xJ v')(k2:Ok w S D obj rs K (EO (EC E tb B8 B9 B10 pb so mv) v') r w')(k3:Fr S rs r wr w'):
 rA w S D obj rs K E r W w' b s tb mb B8 B9 B10 pb so ms mv xJ v':=by
 refine(h.go0 (k2.drop λ_ hb=>.inl hb) k3).set (k1.tl λg hg=>(k2.own g (.inr hg)).2.2) λad n c e hn hl=>?_;have:=h.fr.size;subst e;have:=(k1.lt ad.block (by simp[Value.ownBlock])).1;omega
theorem rA.YI(h:rA w S D obj rs K E r W wr b s tb mb B8 B9 B10 pb so ms mv acc v)(hE:Env NS Q w rs cs){e:Ending}(ha:YV S D W.heap.size wr B8 B9 B10 pb so ms mv m e w'):
 e=.returned (.tuple #[])/\∃ER mv',rA w S D obj rs K E r W w' b s tb mb B8 B9 B10 pb ER (lF ms m) mv' acc v/\iN (PM B8 B9 B10 pb so mv) wr w'/\(∀x,EC E tb B8 B9 B10 pb ER mv' x->EC E tb B8 B9 B10 pb so mv x\/(wr.heap.size<=x/\x<w'.heap.size)):=by
 obtain⟨rfl,ER,mv',hm,hp,hb⟩:=ha;have XE:∀x,EC E tb B8 B9 B10 pb ER mv' x->EC E tb B8 B9 B10 pb so mv x\/(wr.heap.size<=x/\x<w'.heap.size):=by
  rintro x (hx|hx|hx)
  ·exact .inl (.inl hx)
  ·exact .inl (.inr (.inl hx))
  ·exact(hb x hx).imp (λh=>.inr (.inr h)) id
 have hS:∀x s',S x=some s'->w'.heap[x]?=wr.heap[x]?:=λx s' hs=>hp.block x (h.ok.gh.lI x s' hs) λe=>by rw[(h.sn.2 x e).1]at hs;cases hs
 have hD:au D D wr w':=λx hx=>⟨hx,hp.block x (h.ok.gh.mT x hx) λe=>(h.sn.2 x e).2 hx⟩;have hz:=h.fr.size;obtain⟨tl,ht⟩:=h.ts;have Ev:mb<wr.heap.size:=by obtain⟨es,ck,h1,_⟩:=h.us;exact jQ2 h1
 refine⟨rfl,ER,mv',⟨h.ok.step hE.hs hp (λx hx=>.inr (.inr hx)) XE,h.fr.ng hp h.lp,λx s' hs bk hr=>(hS x s' hs).trans (h.oth x s' hs bk hr),h.sb,h.rk,h.ifc.move (λ_ _ h=>h) hD (hS b s h.sb),⟨tl,(hp.block tb (jQ2 ht) h.nt).trans ht⟩,hm,h.us.ng hp h.nm h.TC.nt2,h.row.Mo hp λx hx cs f hc=>(h.TC.nt2 x hx _ _ _ hc).1 rfl,h.out,h.lt,h.lm,λx hx=>?_,λhx=>?_,λhx=>?_⟩,hp,XE⟩
 ·rcases hb x hx with k|k
  ·exact h.lp x k
  ·omega
 ·rcases hb mb hx with k|k
  ·exact h.nm k
  ·omega
 ·rcases hb tb hx with k|k
  ·exact h.nt k
  ·have:=jQ2 ht;omega
theorem rA.fin(bD:Ok w S D obj rs K E (r+1) W)(bH:t.kind=10)(h:rA w S D obj rs K E r W wr b (aG t) tb mb B8 B9 B10 pb so ms mv acc v)(hE:Env NS Q w rs cs)(hp:iN (λx=>x=tb\/mv.ownBlock=some x) wr w')(fi:w'.heap[tb]?=some (.cells #[.bool false,msv,v,.bool ((fs w K).ts t).comp] 122 (0,0)))(kX:eE (Rn S w') w' ps msv)(eO:All2 (λm p=>sK S D w' m.name m p) ((fs w K).ts t).meths ps)(ho:Out (λx=>x<W.heap.size) msv)(afz:acc=((fs w K).ts t).terms):
 aV w S D obj rs K E (r+1) W (λv W'=>∃sb,v=ptr sb/\yn S D E W' sb ((fs w K).ts t)) (.returned (ptr tb)) w':=by
 have hEl:∀x,E x->x<W.heap.size:=λx hx=>(bD.own x hx).1;have hpm:∀x,(x=tb\/mv.ownBlock=some x)->EC E tb B8 B9 B10 pb so mv x:=λx hx=>hx.elim (λe=>.inr (.inl e)) λe=>.inr (.inr (.inr (.inr (.inr (.inr (.inr e))))));have mY:∀x,(x=tb\/mv.ownBlock=some x)->W.heap.size<=x:=λx hx=>hx.elim (λe=>by rw[e];exact h.lt) λe=>h.lp x (.inr (.inr (.inr (.inr (.inr e)))));have mW:Fr S rs (r+1) W w':=h.fr.ng hp mY;have yx:S tb=none:=h.sn.1;have htl:lS S w' acc v:=h.row.Mo hp λx hx cs f hc=>by
  obtain rfl|hx:=hx
  ·obtain⟨tl,k⟩:=h.ts;rw[k]at hc;simp at hc
  ·exact(h.TC.nt2 x (.inr (.inr (.inr (.inr (.inr hx))))) _ _ _ hc).1 rfl
 have UE:yn S D E w' tb ((fs w K).ts t):=by
  refine⟨msv,v,ps,λe=>by have:=hEl tb e;have:=h.lt;omega,λad n c e hn he=>ho ad n c e hn (hEl _ he),λad n c e hn he=>h.out ad n c e hn (hEl _ he),fi,yx,kX,eO,afz▸htl⟩
 have I3:Ok w S D obj rs K E r w':=(h.ok.ng hE.hs hp hpm).drop λx hx=>.inl hx;refine⟨_,rfl,⟨tb,rfl,UE⟩,⟨I3.gh,I3.own,λx s' hs hi hj=>?_⟩,mW⟩;by_cases aM:2*J rs false false s'<r
 ·exact I3.st x s' hs hi aM
 ·have hD:=h.ok.gh.eu (X:=Wc) (rs:=rs) (r:=r) (W':=wr) (bZ.refl _);have hw:w'.heap[x]?=wr.heap[x]?:=hp.block x (h.ok.gh.lI x s' hs) λe=>by have:=(h.ok.own x (hpm x e)).2.2;rw[hs]at this;cases this
  have hDw:au D D wr w':=λy hy=>⟨hy,hp.block y (h.ok.gh.mT y hy) λe=>(h.ok.own y (hpm y e)).2.1 hy⟩;by_cases hx:x=b
  ·subst hx;have:s'=aG t:=by have:=h.sb;rw[hs]at this;exact jQw this
   subst this;refine⟨_,h.ifc.move (λ_ _ h=>h) hDw hw,.inr ⟨tb,rfl,?_⟩⟩;rw[dX.ts (oN t) hi (by simp[isIf,bH])];exact UE
  ·obtain⟨ts,k1,k2⟩:=bD.st x s' hs hi hj;exact⟨ts,k1.move (λ_ _ h=>h) (bD.gh.eu mW) (hw.trans (h.oth x s' hs hx m9)),k2.imp id λ⟨sb,g1,g2⟩=>⟨sb,g1,g2.move bD.gh mW⟩⟩
theorem rA.start(ahZ:Ok w S D obj rs K E (r+1) W)(bD:Ok w S D obj rs K E r w1)(O7:Fr S rs r W w1)(hE:Env NS Q w rs cs)(rN:S b=some (aG t))(hk:2*J rs false false (aG t)=r)(cP:isIf (aG t)=true)(gS:iJ S D w1 b (aG t) ts0)(j8:w1.heap.size<=wr.heap.size)(Ao:wr.os=w1.os)(BH:wr.tape=w1.tape)(DC:wr.output=w1.output)(hold:∀x,x<w1.heap.size->x≠b->wr.heap[x]?=w1.heap[x]?)(afA:DE w1 wr b ts0 (ptr tb))(fi:wr.heap[tb]?=some (.cells #[.bool false,.slice none 0 0,tl,.bool false] 122 (0,0)))(Ev:wr.heap[mb]?=some (.map #[] 0))(h8:wr.heap[B8]?=some (.cells #[.map none] 181 (0,0)))(h9:wr.heap[B9]?=some (.cells #[.slice none 0 0] 97 (0,0)))(bH:wr.heap[B10]?=some (.cells #[.map (some pb)] 182 (0,0)))(Nk:wr.heap[pb]?=some (.map #[] 0))(lD:mb≠pb)(aM:w1.heap.size<=tb)(ZL:w1.heap.size<=mb)(R4:w1.heap.size<=B8)(hl9:w1.heap.size<=B9)(ah0:w1.heap.size<=B10)(hlp:w1.heap.size<=pb):
 rA w S D obj rs K E r W wr b (aG t) tb mb B8 B9 B10 pb none [] (.slice none 0 0) [] (.slice none 0 0):=by
 have U1:∀x,PM B8 B9 B10 pb none (.slice none 0 0) x->w1.heap.size<=x/\x<wr.heap.size:=by
  rintro x (rfl|rfl|rfl|rfl|hx|hx)
  ·exact⟨R4,jQ2 h8⟩
  ·exact⟨hl9,jQ2 h9⟩
  ·exact⟨ah0,jQ2 bH⟩
  ·exact⟨hlp,jQ2 Nk⟩
  ·cases hx
  ·simp[Value.ownBlock]at hx
 have gj:=O7.size;have mW:Fr S rs (r+1) w1 wr:=⟨Ao,BH,DC,j8,λx hx=>by
  by_cases e:x=b
  ·subst e;exact .inr (.inl ⟨_,_,_,rN,cP,m9,afA⟩)
  ·exact .inl (hold x hx e)⟩
 have IS:GH w S D obj wr:=bD.gh.fr hE.hs mW;have yx:∀x,w1.heap.size<=x->S x=none:=λx hx=>by
  cases hs:S x with
  |none=>rfl
  |some s=>have:=bD.gh.lI x s hs;omega
 have Ot:∀x,w1.heap.size<=x->¬D x:=λx hx hd=>by have:=bD.gh.mT x hd;omega
 refine⟨⟨IS,λx hx=>?_,λx s' hs hi hj=>?_⟩,(O7.mono m9).trans mW,λx s' hs bk hr=>?_,rN,m9,gS.but (λ_ _ h=>h) (bD.gh.eu mW) afA,⟨tl,fi⟩,?_,⟨_,_,Ev,λe he=>by simp at he⟩,⟨[],.inl ⟨rfl,none,0,rfl,λ_=>rfl⟩,trivial⟩,λad n c e=>(by cases e),m9,m9,λx hx=>jQd gj (U1 x hx).1,?_,?_⟩
 ·obtain hx|rfl|hx:=hx
  ·exact⟨jQb (bD.own x hx).1 j8,(bD.own x hx).2⟩
  ·exact⟨jQ2 fi,Ot _ aM,yx _ aM⟩
  ·exact⟨(U1 x hx).2,Ot _ (U1 x hx).1,yx _ (U1 x hx).1⟩
 ·have bk:x≠b:=by rintro rfl;rw[rN]at hs;cases hs;omega
  obtain⟨ts,k1,k2⟩:=bD.st x s' hs hi hj;refine⟨ts,k1.move (λ_ _ h=>h) (bD.gh.eu mW) (hold x (bD.gh.lI x s' hs) bk),k2.imp id λ⟨sb,g1,g2⟩=>⟨sb,g1,?_⟩⟩;have ho:∀{y:Nat},y<w1.heap.size->¬E y->¬EC E tb B8 B9 B10 pb none (.slice none 0 0) y:=by
   rintro y hl hn (hy|rfl|hy)
   ·exact hn hy
   ·omega
   ·have:=(U1 y hy).1;omega
  have g3:=g2.move bD.gh mW;obtain⟨ms,tl,ps,e1,e2,e3,k1,k2,k3,k4,k5⟩:=g2;obtain⟨xX,tl',wO, -, -, -,Nx,Z5,k3',k4',k5'⟩:=g3;have hk:=mW.obj k2 k1;rw[Nx]at hk;simp at hk;obtain⟨rfl,rfl⟩:=hk;exact M112
 ·refine(hold x (bD.gh.lI x s' hs) bk).trans ?_;rcases O7.block x (ahZ.gh.lI x s' hs)with e|⟨s2,_,_,q1,_,q3,_⟩|⟨q,_⟩
  ·exact e
  ·rw[hs]at q1;cases q1;omega
  ·exact q.elim
 ·exact⟨h8,.inl ⟨rfl,rfl⟩,h9,⟨[],jR9 _ _ _ _,trivial⟩,bH,i6,_,_,Nk,λe he=>by simp at he⟩
 ·rintro(rfl|rfl|rfl|rfl|hx|hx)
  ·rw[h8]at Ev;cases Ev
  ·rw[h9]at Ev;cases Ev
  ·rw[bH]at Ev;cases Ev
  ·exact lD rfl
  ·cases hx
  ·simp[Value.ownBlock]at hx
 ·rintro(rfl|rfl|rfl|rfl|hx|hx)
  ·rw[h8]at fi;simp at fi
  ·rw[h9]at fi;simp at fi
  ·rw[bH]at fi;simp at fi
  ·rw[Nk]at fi;cases fi
  ·cases hx
  ·simp[Value.ownBlock]at hx
end
theorem bE(w:World)(o:Obj)(b:Nat):(w.alloc o).heap[b]?=if b=w.heap.size then some o else w.heap[b]?:=by
 show(w.heap.push o)[b]?=_;rw[Array.getElem?_push]
def Br(NS:List ByteArray)(ms:List GT):Prop:=(ms.map (·.name)).Nodup/\∀m∈ms,m.name∈NS
theorem Br.nil:Br NS []:=⟨List.nodup_nil,i6⟩
theorem Br.add(h:Br NS ms)(hm:m.name∈NS):Br NS (lF ms m):=by
 by_cases hn:m.name∈ms.map (·.name)
 ·rw[Jh hn];exact h
 ·rw[Bu hn];refine⟨?_,λx hx=>?_⟩
  ·rw[List.map_append,List.nodup_append];refine⟨h.1,i6,λa ha b hb=>?_⟩;simp at hb;subst hb;intro e;exact hn (e▸ha)
  ·rcases jQm.1 hx with hx|hx
   ·exact h.2 x hx
   ·simp at hx;subst hx;exact hm
theorem Br.lim(h:Br NS ms)(hm:m.name∈NS)(hN:NS.length<=1099511627776):¬m.name∈ms.map (·.name)->ms.length+1<=1099511627776:=by
 intro hn;have h2:=h.add hm;rw[Bu hn]at h2;have:=kE h2.1 (m:=NS) λa ha=>by
  obtain⟨x,hx,rfl⟩:=jQu.1 ha;exact h2.2 x hx
 simp at this;omega
theorem By{α β:Type}(f:β->α->β)(b:β){l:List α}{x:α}(h:l[kk]?=some x):(l.take (kk+1)).foldl f b=f ((l.take kk).foldl f b) x:=by
 obtain⟨aM,e⟩:=jQg.1 h;rw[jRi aM,List.foldl_append,e];rfl
section
variable{rs:List Nat}
theorem lC.up{e:Ending}(h:lC X w S D obj rs K E r W P e w')(bD:Ok w S D obj rs K E r' W)(hr:r<=r'):lC X w S D obj rs K E r' W P e w':=by
 obtain⟨v,h1,h2,h3,h4⟩:=h;exact⟨v,h1,h2,bD.up h4 h3,h4.mono hr⟩
theorem lC.imp{e:Ending}(h:lC X w S D obj rs K E r W P e w')(hp:∀v W',P v W'->P' v W'):lC X w S D obj rs K E r W P' e w':=by
 obtain⟨v,h1,h2,h3⟩:=h;exact⟨v,h1,hp _ _ h2,h3⟩
theorem r7{b:Nat}(h:VW NS Q w rs b m):m.name∈NS/\wM m.name/\m.name.size<=9223372036854775807:=by
 refine⟨h.2.1,FZ h.2.2.1,?_⟩;have:=h.2.2.1;exact M201
def TsX(S:Sg)(D E:Nat->Prop)(W:World)(b:Nat)(s:TS)(ms tl:Value)(ps:List Value):Prop:=
 ¬E b/\Out E ms/\Out E tl/\W.heap[b]?=some (.cells #[.bool false,ms,tl,.bool s.comp] 122 (0,0))/\S b=none/\eE (Rn S W) W ps ms/\All2 (λm p=>sK S D W m.name m p) s.meths ps/\lS S W s.terms tl
theorem TsX.step{t:Nat}{s:TS}{ms:Value}(h:TsX S D E W t s ms tl ps)(hp:iN E1 W w')(hE:∀b,E1 b->E b)(hD:au D D W w')(hE':∀b,E' b->E b\/W.heap.size<=b):TsX S D E' w' t s ms tl ps:=by
 obtain⟨e1,e2,e3,k1,k2,k3,k4,k5⟩:=h;have ho:∀{b:Nat},b<W.heap.size->¬E b->¬E' b:=λhl hn he=>(hE' _ he).elim hn λh=>m9
 refine⟨ho (jQ2 k1) e1,λad n c e hn=>?_,λad n c e hn=>?_,(hp.block t (jQ2 k1) λe=>e1 (hE _ e)).trans k1,k2,k3.ng hp (e2.wide hE),k4.imp λm p hv=>hv.move (λ_ _ h=>h) hD,k5.ng hp (e3.wide hE)⟩
 ·exact M147
 ·exact M78
theorem rA.hb{b:Nat}(h:rA w S D obj rs K E r W wr b s tb mb B8 B9 B10 pb so ms mv acc v)(hW:W.heap[b]?=some (.cells #[c0,c1,c2,c3,c4,c5,ts] 102 (0,0))):wr.heap[b]?=some (.cells #[c0,c1,c2,c3,c4,c5,ptr tb] 102 (0,0)):=by
 obtain⟨ms,es,ps,vs,h1, -⟩:=h.ifc;rcases h.fr.block b (jQ2 hW)with e|⟨s,t1,t2,_,_,_,d0,d1,d2,d3,d4,d5,g1,g2⟩|⟨q,_⟩
 ·rw[e,hW]at h1;simp at h1;obtain⟨-, -, -, -, -, -,rfl⟩:=h1;exact e.trans hW
 ·rw[hW]at g1;simp at g1;obtain⟨rfl,rfl,rfl,rfl,rfl,rfl, -⟩:=g1;rw[g2]at h1;simp at h1;obtain⟨-, -, -, -, -, -,rfl⟩:=h1;exact g2
 ·exact q.elim
theorem DA(h:gu F w e=none):eG F w a e=a:=by unfold eG;rw[h]
theorem nO(h:gu F w e=some i):eG F w a e=⟨i.ms.foldl lF a.ms,(eJ F.id w (λt=>F.cmp t false) a.terms a.comp i.terms i.comp).1,(eJ F.id w (λt=>F.cmp t false) a.terms a.comp i.terms i.comp).2⟩:=by unfold eG;rw[h]
theorem PK(hk:e.kind=12\/e.kind=13):gu F w e=(unionTerms F w [] (Kt e)).map λts=>⟨[],ts,false⟩:=by
 unfold gu Kt;obtain h|h:=hk
 ·rw[jQ7 h,jQ7 h]
 ·rw[jQ4 m9,jQ7 h,jQ4 m9]
theorem PN(cQ:e.kind≠12)(cg:e.kind≠13)(hi:isIf (az w e)=true):gu F w e=some ⟨(F.ts (az w e)).meths,(F.ts (az w e)).terms,(F.ts (az w e)).comp⟩:=by
 unfold gu;rw[jQ4 cQ,jQ4 cg];simp[hi]
theorem LU(cQ:e.kind≠12)(cg:e.kind≠13)(hi:isIf (az w e)=false):gu F w e=some ⟨[],[some ⟨false,some e⟩],false⟩:=by
 unfold gu;rw[jQ4 cQ,jQ4 cg];simp[hi]
theorem Yj(cQ:t.kind≠12)(cg:t.kind≠13):¬(tid t.kind=189):=by
 intro e;exact M99
theorem abC(h:t.kind=12\/t.kind=13):tid t.kind=189:=by rcases h with e|e<;>rw[e]<;>rfl
theorem Yk(hE:Env NS Q w rs cs)(h:PT NS Q w 0 t):(az w t).kind≠12/\(az w t).kind≠13:=by
 rcases(lq hE.wk hE.qp h).1 with e|e
 ·rw[e];exact⟨i5,i5⟩
 ·have:=lg e.1;omega
theorem PO(h:PT NS Q w 2 e)(hk:e.kind=12\/e.kind=13)(hx:Go.Proofs.YtabjfnkfocnklaaGreatDoor.S.TE w e)(hc:bP cs e<=50)(hJ:J rs true true e<B):∀x∈Kt e,PT NS Q w 1 x/\Go.Proofs.YtabjfnkfocnklaaGreatDoor.S.TX w x/\bP cs x<=50/\J rs true true x<B:=by
 intro x hm;unfold Kt at hm;obtain cQ|cg:=hk
 ·rw[jQ7 cQ]at hm;obtain⟨p1,p2⟩:=uQ (rs:=rs) h cQ x hm;refine⟨p1,hx.2 cQ x hm,?_,m9⟩;have:bP cs e=cN cs 0 e.elems:=M186
  have:=qS (cs:=cs) hm;omega
 ·rw[jQ4 m9]at hm;simp at hm;subst hm;exact⟨tw h cg,hx.1,hc,hJ⟩
theorem iN.wide(h:iN E1 W w')(hE:∀b,E1 b->E2 b)(hn:∀b,E2 b->∀cs t f,W.heap[b]?=some (.cells cs t f)->t≠154/\t≠234):iN E2 W w':=
 ⟨h.os,h.tape,h.output,h.size,λb hb hn=>h.block b hb λe=>hn (hE b e),hn⟩
theorem iN.trans(h:iN E1 W w')(h':iN E1 w' W2):iN E1 W W2:=
 ⟨h'.os.trans h.os,h'.tape.trans h.tape,h'.output.trans h.output,jQd h.size h'.size,λb hb hn=>(h'.block b (jQb hb h.size) hn).trans (h.block b hb hn),h.nt⟩
theorem rA.ont{b:Nat}(h:rA w S D obj rs K E r W wr b s tb mb B8 B9 B10 pb so ms mv acc v):∀x,(x=tb\/mv.ownBlock=some x)->∀cs t f,wr.heap[x]?=some (.cells cs t f)->t≠154/\t≠234:=by
 rintro x (rfl|hx) cs t f hc
 ·obtain⟨tl,k⟩:=h.ts;rw[k]at hc;simp at hc;obtain⟨-,rfl, -⟩:=hc;decide
 ·exact h.TC.nt x (.inr (.inr (.inr (.inr (.inr hx))))) cs t f hc
theorem Yl(h:PT NS Q w md e)(cQ:e.kind≠12)(cg:e.kind≠13):PT NS Q w 0 e:=by
 cases h with
 |basic a b=>exact .basic a b
 |uni h=>exact .uni h
 |named a b c=>exact .named a b c
 |al a b c=>exact .al a b c
 |st a b c=>exact .st a b c
 |ifc a b c d e f g h i=>exact .ifc a b c d e f g h i
 |one a b c d=>exact .one a b c d
 |mp a b=>exact .mp a b
 |fn a b c d=>exact .fn a b c d
 |ti a b=>exact absurd rfl cg
 |un a b c d=>exact absurd rfl cQ
theorem abD(hk:e.kind=12\/e.kind=13):az w e=e:=M188
end
def Yy(S:Sg)(W:World)(cb:Nat):Prop:=S cb=none/\W.heap[cb]?=some (.cells #[.bool false,.bool false] 219 (0,0))
inductive vZ(S:Sg)(rs:List Nat)(W:World)(q:Nat):Value->Prop
 |nil:vZ S rs W q (.pointer none)
 |cons {b x y:Nat} {sx sy:GT} {p:Value}:S b=none->W.heap[b]?=some (.cells #[ptr x,ptr y,p] 276 (0,0))->S x=some sx->S y=some sy->(q<=2*J rs false false sx+1\/q<=2*J rs false false sy+1)->vZ S rs W q p->vZ S rs W q (ptr b)
def K7(F:Fs)(w:List ah)(x y:GT):Bool:=
 if isIf x&&isIf y then
  (F.ts x).comp==(F.ts y).comp&&Pa F.id w (F.ts x).terms (F.ts y).terms&&((F.ts x).meths.length==(F.ts y).meths.length)&&
   ((F.ts x).meths.zip (F.ts y).meths).all λp=>aE p.1.name p.2.name&&F.id p.1 p.2
 else if x.kind≠y.kind then false
 else if x.kind=1\/x.kind=11 then x.n==y.n
 else if x.kind=15\/x.kind=16 then true
 else if x.kind=3\/x.kind=9 then x.n==y.n&&idL F.id x.elems y.elems
 else if x.kind=4\/x.kind=6\/x.kind=8 then idL F.id x.elems y.elems
 else if x.kind=5 then x.elems.length==y.elems.length&&(x.elems.zip y.elems).all λp=>aE p.1.tag p.2.tag&&aE p.1.name p.2.name&&F.id p.1 p.2
 else if x.kind=7 then x.va==y.va&&idL F.id (own x) (own y)&&idL F.id (bN x) (bN y)
 else false
theorem L6(F:Fs)(w:List ah)(x y:GT):jQ F w x y=K7 F w (una x) (una y):=rfl
section
variable(NS:List ByteArray)(Q:GT->Prop)(w:List ah)(S:Sg)(D:Nat->Prop)(obj:Nat->Nat)(rs:List Nat)(K r:Nat)
structure O5(E:Nat->Prop)(W:World)(cb:Nat)(u v:Value)(x y:GT)(p:Value)(q:Nat):Prop where
 ok:Ok w S D obj rs K E r W
 cb:Yy S W cb
 tu:dq S u x
 tv:dq S v y
 px:PT NS Q w 0 x
 py:PT NS Q w 0 y
 rx:2*J rs false false x+1<q
 ry:2*J rs false false y+1<q
 stk:vZ S rs W q p
 qr:q<=r
def sv:Prop:=∀(E:Nat->Prop) (W:World) (cb:Nat) (u v:Value) (x y:GT) (p:Value) (q:Nat),O5 NS Q w S D obj rs K r E W cb u v x y p q->
 Calls prog 121 #[ptr cb,u,v,p] W (aV w S D obj rs K E r W λv _=>v=.bool ((fs w K).id x y))
end
section
variable{rs:List Nat}{q b:Nat}
theorem Yy.move(h:Yy S W cb)(hf:bZ X S rs r W w'):Yy S w' cb:=⟨h.1,hf.obj h.1 h.2⟩
theorem vZ.move(h:vZ S rs W q p)(hf:bZ X S rs r W w'):vZ S rs w' q p:=by
 induction h with
 |nil=>exact .nil
 |cons a1 a2 a3 a4 a5 _ ih=>exact .cons a1 (hf.obj a1 a2) a3 a4 a5 ih
theorem vZ.mono(h:vZ S rs W q p)(hq:q'<=q):vZ S rs W q' p:=by
 induction h with
 |nil=>exact .nil
 |cons a1 a2 a3 a4 a5 _ ih=>exact .cons a1 a2 a3 a4 m9 ih
theorem l3(h:x.kind≠y.kind)(hi:¬(isIf x=true/\isIf y=true)):K7 F w x y=false:=by
 unfold K7;have hf:(isIf x&&isIf y)=false:=by cases h1:isIf x<;>cases h2:isIf y<;>simp_all
 simp only[hf,jQk,jR1,jQ7 h]
theorem lu(hE:Env NS Q w rs cs)(hr:r<=K)(hx:PT NS Q w 0 x)(hy:PT NS Q w 0 y)(h1:2*J rs false false x+1<r)(h2:2*J rs false false y+1<r):(fs w K).id x y=K7 (fs w K) w (una x) (una y):=
 (aeO hE hr hx hy h1 h2).trans (L6 _ _ _ _)
theorem ff(hE:Env NS Q w rs cs)(hr:r<=K)(hx:PT NS Q w 0 x)(hy:PT NS Q w 0 y)(h1:2*J rs false false x+1<r)(h2:2*J rs false false y+1<r)(hs:dX (una x) (una y)):(fs w K).id x y=true:=by
 obtain⟨ux,jx, -⟩:=cJ hE.qp hx;obtain⟨uy,jy, -⟩:=cJ hE.qp hy;have jx:=jx rs false false;have jy:=jy rs false false;rw[lu hE hr hx hy h1 h2];have h3:=lu hE hr ux uy m9 m9;rw[vO,vO]at h3;rw[<-h3,dX.id (dX.refl (una x)) hs.symm];exact F9 hE.wk hE.qp r K hr _ ux m9
theorem bZ.jl(h:bZ X S rs r W w')(hs:S b=some s)(hi:isIf s=false){cs:Array Value}{t:TypeId}(hb:W.heap[b]?=some (.cells cs t (0,0))):w'.heap[b]?=some (.cells cs t (0,0)):=h.other hs hi hb
theorem bZ.fU(h:bZ X S rs r W w')(hs:S b=some s)(hi:isIf s=false){o:Nat}(hc:W.cell? ⟨b,o,none⟩=some v):w'.cell? ⟨b,o,none⟩=some v:=by
 obtain⟨cs,t,f,hb⟩:=cells_of_cell hc;exact(jQi (w:=W) ((h.other hs hi hb).trans hb.symm)).trans hc
theorem iI(h:x.kind≠14):isIf (aG x)=isIf x:=by unfold isIf;rw[aI h]
theorem kV(hI:sv NS Q w S D obj rs K r)(h:O5 NS Q w S D obj rs K (r+1) E W cb u v x y p q)(hu:dq S u' e)(hv:dq S v' e')(he:PT NS Q w 0 e)(oJ:PT NS Q w 0 e')(hj:J rs false false e<J rs false false x)(Sf:J rs false false e'<J rs false false y)(g1:Ok w S D obj rs K E (r+1) W')(g2:Fr S rs (r+1) W W'):
 Calls prog 121 #[ptr cb,u',v',p] W' (aV w S D obj rs K E (r+1) W' λv _=>v=.bool ((fs w K).id e e')):=by
 have:=h.rx;have:=h.ry;have:=h.qr;exact(hI E W' cb u' v' e e' p (min q r) ⟨g1.le m9,h.cb.move g2,hu,hv,he,oJ,m9,m9,(h.stk.move g2).mono m9,m9⟩).mono λe W2 hp=>hp.up g1 m9
theorem dH(h:PT NS Q w 0 x)(bH:x.kind≠10):∀e∈x.elems,PT NS Q w 0 e/\J rs false false e<J rs false false x:=λe he=>by
 have:=ow (rs:=rs) (h.ww (v':=false) (f':=false)) bH e he;exact⟨this.1.ww,this.2⟩
end
section
variable{rs:List Nat}{q:Nat}
theorem Si(hE:Env NS Q w rs cs)(hI:sv NS Q w S D obj rs K r)(hr:r+1<=K)(h:O5 NS Q w S D obj rs K (r+1) E W cb u v x y p q)(hk:(una x).kind=4):
 Calls prog 121 #[ptr cb,u,v,p] W (aV w S D obj rs K E (r+1) W λv _=>v=.bool ((fs w K).id x y)):=by
 have aF:=aS h.ok.gh h.tu;have aD:=aS h.ok.gh h.tv;obtain⟨ux,jx, -⟩:=cJ hE.qp h.px;obtain⟨uy,jy, -⟩:=cJ hE.qp h.py;replace jx:=jx rs false false;replace jy:=jy rs false false;have hid:=lu hE hr h.px h.py (by have:=h.rx;have:=h.qr;omega) (by have:=h.ry;have:=h.qr;omega);have c0:W.cell? ⟨cb,0,none⟩=some (.bool false):=by simp[World.cell?,h.cb.2]
 have c1:W.cell? ⟨cb,1,none⟩=some (.bool false):=by simp[World.cell?,h.cb.2]
 obtain⟨H,HE,HI,pV,Ea,Am,tC⟩:=Z7 h hE hI hid ux uy (show∀w1 w2,Fr S rs (r+1) W w1->Ok w S D obj rs K E (r+1) w2->Fr S rs (r+1) w1 w2->(Ok w S D obj rs K E (r+1) w2/\Fr S rs (r+1) W w2)from λ_ _ h1 h2 h3=>⟨h2,bZ.trans h1 h3⟩);clear h hE hI hid ux uy;have hX:tid (una x).kind=129:=by rw[hk];rfl
 go_enter func121,ntmps121;go_wp2_with fail;refine aF.mono ?_;rintro e' w' ⟨v1,rfl,dr,hw⟩;replace hw:=hw.symm;subst hw;go_wp2_with fail;refine aD.mono ?_;rintro e' w' ⟨v2,rfl,fx,hw⟩;replace hw:=hw.symm;subst hw;obtain⟨b1,rfl,cz⟩:=id dr;obtain⟨b2,rfl,eX⟩:=id fx;obtain⟨rr,heq,cj,fK⟩:=sL H.1.ok.gh dr fx;rw[hX]at heq⊢;cases rr with
 |true=>
  exact M5
 |false=>
  clear aF aD;have dB:=aY 129 (ptr b1) 37 W i5;have fX:=cM 129 (ptr b1) 37 W i5;by_cases iO:(una y).kind=4
  ·have hY:tid (una y).kind=129:=by rw[iO];rfl
   rw[hY]at heq⊢;have qe:=aW (t:=una x) m9 m9 m9 m9;have wP:=aW (t:=una y) m9 m9 m9 m9;have xi:(aG (una x)).kind=(una x).kind:=aI m9;have lG:(aG (una y)).kind=(una y).kind:=aI m9;have wQ:isIf (aG (una x))=false:=by rw[iI m9];simp[isIf,hk]
   have xj:isIf (aG (una y))=false:=by rw[iI m9];simp[isIf,iO]
   have iP:=dH (rs:=rs) Ea.1 m9;have iQ:=dH (rs:=rs) Am.1 m9;obtain⟨v3,e3,gx,aZ,xk⟩:=(H.1.ok.gh.node b1 _ cz).2.2.2.1 (by rw[xi];exact hk);obtain⟨v4,e4,gy,dI,FA⟩:=(H.1.ok.gh.node b2 _ eX).2.2.2.1 (by rw[lG];exact iO);exact M11
  ·have K9:¬(tid (una y).kind=129):=(λh=>by rcases de (una y).kind with g|g|g|g|g|g|g|g|g|g|g|g<;>first|exact iO g.1|(rw[g.2]at h;exact absurd h i5));have fp:=gz (tid (una y).kind) (ptr b2) 37 W K9;exact M8
theorem La(hE:Env NS Q w rs cs)(hI:sv NS Q w S D obj rs K r)(hr:r+1<=K)(h:O5 NS Q w S D obj rs K (r+1) E W cb u v x y p q)(hk:(una x).kind=6):
 Calls prog 121 #[ptr cb,u,v,p] W (aV w S D obj rs K E (r+1) W λv _=>v=.bool ((fs w K).id x y)):=by
 have aF:=aS h.ok.gh h.tu;have aD:=aS h.ok.gh h.tv;obtain⟨ux,jx, -⟩:=cJ hE.qp h.px;obtain⟨uy,jy, -⟩:=cJ hE.qp h.py;replace jx:=jx rs false false;replace jy:=jy rs false false;have hid:=lu hE hr h.px h.py (by have:=h.rx;have:=h.qr;omega) (by have:=h.ry;have:=h.qr;omega);have c0:W.cell? ⟨cb,0,none⟩=some (.bool false):=by simp[World.cell?,h.cb.2]
 have c1:W.cell? ⟨cb,1,none⟩=some (.bool false):=by simp[World.cell?,h.cb.2]
 obtain⟨H,HE,HI,pV,Ea,Am,tC⟩:=Z7 h hE hI hid ux uy (show∀w1 w2,Fr S rs (r+1) W w1->Ok w S D obj rs K E (r+1) w2->Fr S rs (r+1) w1 w2->(Ok w S D obj rs K E (r+1) w2/\Fr S rs (r+1) W w2)from λ_ _ h1 h2 h3=>⟨h2,bZ.trans h1 h3⟩);clear h hE hI hid ux uy;have hX:tid (una x).kind=131:=by rw[hk];rfl
 go_enter func121,ntmps121;go_wp2_with fail;refine aF.mono ?_;rintro e' w' ⟨v1,rfl,dr,hw⟩;replace hw:=hw.symm;subst hw;go_wp2_with fail;refine aD.mono ?_;rintro e' w' ⟨v2,rfl,fx,hw⟩;replace hw:=hw.symm;subst hw;obtain⟨b1,rfl,cz⟩:=id dr;obtain⟨b2,rfl,eX⟩:=id fx;obtain⟨rr,heq,cj,fK⟩:=sL H.1.ok.gh dr fx;rw[hX]at heq⊢;cases rr with
 |true=>
  exact M5
 |false=>
  clear aF aD;have dB:=aY 131 (ptr b1) 37 W i5;have fX:=cM 131 (ptr b1) 37 W i5;have pj:=gz 131 (ptr b1) 37 W i5;have eW:=bd 131 (ptr b1) 37 W i5;by_cases iO:(una y).kind=6
  ·have hY:tid (una y).kind=131:=by rw[iO];rfl
   rw[hY]at heq⊢;have qe:=aW (t:=una x) m9 m9 m9 m9;have wP:=aW (t:=una y) m9 m9 m9 m9;have xi:(aG (una x)).kind=(una x).kind:=aI m9;have lG:(aG (una y)).kind=(una y).kind:=aI m9;have wQ:isIf (aG (una x))=false:=by rw[iI m9];simp[isIf,hk]
   have xj:isIf (aG (una y))=false:=by rw[iI m9];simp[isIf,iO]
   have iP:=dH (rs:=rs) Ea.1 m9;have iQ:=dH (rs:=rs) Am.1 m9;obtain⟨v3,e3,gx,aZ,xk⟩:=(H.1.ok.gh.node b1 _ cz).2.2.2.2.2.1 (by rw[xi];exact hk);obtain⟨v4,e4,gy,dI,FA⟩:=(H.1.ok.gh.node b2 _ eX).2.2.2.2.2.1 (by rw[lG];exact iO);exact M11
  ·have K9:¬(tid (una y).kind=131):=(λh=>by rcases de (una y).kind with g|g|g|g|g|g|g|g|g|g|g|g<;>first|exact iO g.1|(rw[g.2]at h;exact absurd h i5));have fp:=aT (tid (una y).kind) (ptr b2) 37 W K9;exact M8
end
end Go.Proofs.YtabjfnkfocnklaaGreatDoor
