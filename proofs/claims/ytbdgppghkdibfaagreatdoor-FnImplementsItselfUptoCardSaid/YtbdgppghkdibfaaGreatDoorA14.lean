import Derived.Laws.LoneSync
import Derived.Test.YtbdgppghkdibfaaGreatDoorA04
set_option linter.all false
set_option maxHeartbeats 16000000
set_option maxRecDepth 20000
namespace Go.Proofs.YtbdgppghkdibfaaGreatDoor
open Go Go.RowKit Go.Lib S P Tryz
variable{nm:ByteArray}{s t t':Y}{Q T:Y->Prop}{l m xl yl:List (Option Tm)}{NS:List ByteArray}{cs rs:List Nat}{xs:List Value}{w:List ah}{B K b base c ck kk md n o ob r r' size:Nat}{f:Nat×Nat}{D D' E E' E1 X X':Qx}{a pk:Option Addr}{y:Option Tm}{GT:Prop}{α β:Type}{e:TypeId}{p q sh sl sm t1 t3 ts v v0 v1 v2 v3:Value}{W W' W0 W2:World}
def M116(h:GT:=by
 refine⟨xX,tl',wO,ho (jQ2 k1) e1,λad n c e hn=>?_,λad n c e hn=>?_,Nx,Z5q,k3',k4',k5'⟩
 .exact M149
 .exact M74):GT:=h
def M149(h:GT:=by
 subst e;exact ho (j0 k3 hn).1 (e2 _ _ _ rfl hn)):GT:=h
def M153(h:GT:=by
 refine⟨e2,λhd=>by have:=h.gh.mT b hd;omega,?_⟩;cases hs:S b with
 |none=>rfl
 |some s=>have:=h.gh.lI b s hs;omega):GT:=h
def M158(h:GT:=by
 go_wp2;go_ret;exact⟨by rw[HA.1];rfl,rfl⟩):GT:=h
def M204(h:GT:=by
 rw[hu];clear hu;go_in;exact M80):GT:=h
def M208(h:GT:=by
 clear hA;go_wp2;go_ret;exact⟨_,rfl,by rw[<-HA.1];rfl,w'.out,F.out⟩):GT:=h
def M63(h:GT:=by
 go_wp21;refine jRc (v:=.tuple #[ptr b1,.pointer none]) (by simp[results,Tryz.results216,go_sem]) rfl ?_;exact⟨_,rfl,⟨_,_,rfl,HP'.1,rfl⟩,HO.1,HF.1⟩):GT:=h
def M74(h:GT:=by
 subst e;obtain⟨qs,q1,q2⟩:=k5;exact ho (j0 q1 hn).1 (e3 _ _ _ rfl hn)):GT:=h
def M78(h:GT:=by
 go_wp21;go_roundg (l.length - (kk+1))
 case measure=>omega
 case rel=>exact⟨kk+1,M,M,by go_num,rfl,HA.1⟩):GT:=h
def M80(h:GT:=by
 go_wp2;go_ret;exact⟨_,rfl,rfl,HO.1,Fr.refl _⟩):GT:=h
def M94(h:GT:=by
 rintro e O ⟨v,rfl,rfl,g1,g2⟩;go_wp2;go_ret;exact⟨_,rfl,rfl,g1,g2⟩):GT:=h
def jE(D:Qx)(W:World):Prop:=D 5/\∀c:Nat,65<=c->c<=90->W.cell? ⟨5,c,none⟩=some (.int .u8 160)
def jE.move(h:jE D W)(hm:au D D' W W'):jE D' W':=
 ⟨(hm _ h.1).1,λc I U=>(jQi (w:=W) (hm _ h.1).2).trans (h.2 c I U)⟩
abbrev Sg:=Nat->Option Y
variable{S S':Sg}
def tid(k:Int):TypeId:=
 if k=1 then 89 else if k=2 then 127 else if k=3 then 129 else if k=4 then 131 else if k=5 then 203 else if k=6 then 133
 else if k=7 then 92 else if k=8 then 135 else if k=9 then 137 else if k=10\/k=14\/k=17 then 33 else if k=12\/k=13 then 184 else 53
abbrev ptr(b:Nat):Value:=.pointer (some ⟨b,0,none⟩)
def dq(S:Sg)(v:Value)(t:Y):Prop:=∃b,v=.iface (tid t.ld) (ptr b)/\S b=some (aG t)
def EH(S S':Sg):Prop:=∀b s,S b=some s->S' b=some s
def dq.mono(h:EH S S')(hv:dq S v t):dq S' v t:=by
 obtain⟨b,I,U⟩:=hv;exact⟨b,I,h _ _ U⟩
def GM(t):tid (aG t).ld=tid t.ld:=by
 by_cases h:t.ld=14
 .have:aG t=fD:=by unfold aG mC;rw[jQ7 h];rfl
  rw[this,h];rfl
 .rw[aI h]
def dq.same(hv:dq S v t)(h:dX t t'):dq S v t':=by
 obtain⟨b,I,U⟩:=hv;exact⟨b,by rw[<-GM t',<-h,GM];exact I,by rw[<-h];exact U⟩
def dq.uniq(h:dq S v t)(h':dq S v t'):dX t t':=by
 obtain⟨b,rfl,U⟩:=h;obtain⟨b',e,h4⟩:=h';simp at e;rw[e.2,h4]at U;exact(jQw U).symm
def All2{α β:Type}(R:α->β->Prop):List α->List β->Prop
 |[],[]=>True
 |a::l,b::m=>R a b/\All2 R l m
 |_,_=>False
def All2.len{R:α->β->Prop}:∀{l:List α} {m:List β},All2 R l m->l.length=m.length
 |[],[],_=>rfl
 |_::l,_::m,h=>by simp[All2.len (l:=l) (m:=m) h.2]
 |[],_::_,h=>h.elim
 |_::_,[],h=>h.elim
def All2.imp{R R':α->β->Prop}(h:∀a b,R a b->R' a b):∀{l:List α} {m:List β},All2 R l m->All2 R' l m
 |[],[],_=>trivial
 |_::l,_::m,hr=>⟨h _ _ hr.1,All2.imp h (l:=l) (m:=m) hr.2⟩
 |[],_::_,h=>h.elim
 |_::_,[],h=>h.elim
def All2.at{α β:Type}{R:α->β->Prop}:∀{l:List α} {m:List β},All2 R l m->∀{i:Nat} {a:α},l[i]?=some a->∃b,m[i]?=some b/\R a b
 |[],_,_,i,a,h=>by simp at h
 |x::l,[],h,_,_,_=>h.elim
 |x::l,y::m,h,0,a,ha=>by simp at ha;subst ha;exact⟨y,rfl,h.1⟩
 |x::l,y::m,h,i+1,a,ha=>All2.at (l:=l) (m:=m) h.2 (G9 ha)
def All2.snoc{R:α->β->Prop}{a:α}{b:β}(hr:R a b):∀{l:List α} {m:List β},All2 R l m->All2 R (l++[a]) (m++[b])
 |[],[],_=>⟨hr,trivial⟩
 |_::l,_::m,h=>⟨h.1,All2.snoc hr (l:=l) (m:=m) h.2⟩
 |[],_::_,h=>h.elim
 |_::_,[],h=>h.elim
def eE(D:Qx)(W:World)(xs:List Value)(sl:Value):Prop:=
 (xs=[]/\∃a c,sl=.slice a 0 c/\(a=none->c=0))\/(xs≠[]/\∃b o c,sl=.slice (some ⟨b,o,none⟩) xs.length c/\xs.length<=c/\c<=9223372036854775807/\D b/\∀hp u,xs[hp]?=some u->W.cell? ⟨b,o+hp,none⟩=some u)
def eE.move(h:au D D' W W')(hr:eE D W xs sl):eE D' W' xs sl:=by
 obtain hr|⟨I,b,o,c,U,h3,h4,h5,h6⟩:=hr
 .exact .inl hr
 .exact .inr ⟨I,b,o,c,U,h3,h4,(h b h5).1,λhp u hu=>(jQi (w:=W) (h b h5).2).trans (h6 hp u hu)⟩
def eE.form(hr:eE D W xs sl):∃a c,sl=.slice a xs.length c:=by
 rcases hr with⟨rfl,a,c,rfl,_⟩|⟨I,b,o,c,rfl,_⟩
 .exact⟨a,c,rfl⟩
 .exact⟨_,c,rfl⟩
def nE(S:Sg)(D:Qx)(W:World)(nm:ByteArray)(t:Y)(p:Value):Prop:=
 ∃b pos pk v k,p=ptr b/\D b/\W.heap[b]?=some (.cells #[.int .i64 pos,.pointer pk,.string nm,v,.int .u8 k,.bool false] 164 (0,0))/\dq S v t
def IU(D:Qx)(W:World)(pk:Option Addr):Prop:=pk=none\/∃b p n,pk=some ⟨b,0,none⟩/\D b/\W.heap[b]?=some (.cells #[.string p,.string n] 85 (0,0))
def IU.move(h:au D D' W W')(hv:IU D W pk):IU D' W' pk:=
 hv.imp id λ⟨b,p,n,I,U,h3⟩=>⟨b,p,n,I,(h b U).1,(h b U).2.trans h3⟩
def ObV(D:Qx)(W:World)(ob:Nat):Prop:=D ob/\∃pos pk nm tv,W.heap[ob]?=some (.cells #[.int .i64 pos,.pointer pk,.string nm,tv] 119 (0,0))/\IU D W pk
def ObV.move(h:au D D' W W')(hv:ObV D W ob):ObV D' W' ob:=by
 obtain⟨I,pos,pk,nm,tv,U,h3⟩:=hv;exact⟨(h ob I).1,pos,pk,nm,tv,(h ob I).2.trans U,h3.move h⟩
def sK(S:Sg)(D:Qx)(W:World)(nm:ByteArray)(t:Y)(p:Value):Prop:=
 ∃b pos pk v,p=ptr b/\D b/\W.heap[b]?=some (.cells #[.int .i64 pos,.pointer pk,.string nm,v,.bool false,.bool false] 173 (0,0))/\dq S v t/\IU D W pk
def sk(S:Sg)(D:Qx)(W:World)(l:List Y)(p:Value):Prop:=
 (l=[]/\p=.pointer none)\/(l≠[]/\∃b sl ps,p=ptr b/\D b/\W.heap[b]?=some (.cells #[sl] 171 (0,0))/\eE D W ps sl/\All2 (λe p=>∃nm,nE S D W nm e p) l ps)
def vG(S:Sg)(D:Qx)(W:World)(x:Y)(p:Value):Prop:=
 ∃b v,p=ptr b/\D b/\W.heap[b]?=some (.cells #[.bool (x.ld==13),v] 237 (0,0))/\dq S v (ep x)
def iJ(S:Sg)(D:Qx)(W:World)(b:Nat)(s:Y)(ts:Value):Prop:=
 ∃ms es ps vs,W.heap[b]?=some (.cells #[.pointer none,ms,es,.pointer none,.bool false,.bool true,ts] 104 (0,0))/\eE D W ps ms/\eE D W vs es/\
  All2 (λm p=>sK S D W m.name m p) (own s) ps/\All2 (λe v=>dq S v e) (bN s) vs
def mZ(S:Sg)(D:Qx)(W:World)(b:Nat)(s:Y):Prop:=
 (s.ld=1->∃info nm,W.heap[b]?=some (.cells #[.int .i64 (s.n+1),.int .i64 info,.string nm] 167 (0,0)))/\
 (s.ld=2->∃ob og fr ac,W.heap[b]?=some (.cells #[ob,og,fr,ac] 249 (0,0))/\dq S ac (una s)/\∃e,s.li=[e]/\dq S fr e)/\
 (s.ld=3->∃v e,s.li=[e]/\W.heap[b]?=some (.cells #[.int .i64 s.n,v] 194 (0,0))/\dq S v e)/\
 (s.ld=4->∃v e,s.li=[e]/\W.heap[b]?=some (.cells #[v] 196 (0,0))/\dq S v e)/\
 (s.ld=5->∃fs tg ps,W.heap[b]?=some (.cells #[fs,tg] 226 (0,0))/\eE D W ps fs/\eE D W (s.li.map λe=>.string e.gc) tg/\All2 (λe p=>nE S D W e.name e p) s.li ps)/\
 (s.ld=6->∃v e,s.li=[e]/\W.heap[b]?=some (.cells #[v] 149 (0,0))/\dq S v e)/\
 (s.ld=7->∃rc pa re,W.heap[b]?=some (.cells #[rc,.pointer none,pa,re,.bool s.va] 96 (0,0))/\sk S D W (own s) pa/\sk S D W (bN s) re)/\
 (s.ld=8->∃v u x y,s.li=[x,y]/\W.heap[b]?=some (.cells #[v,u] 198 (0,0))/\dq S v x/\dq S u y)/\
 (s.ld=9->∃v e,s.li=[e]/\W.heap[b]?=some (.cells #[.int .i64 s.n,v] 200 (0,0))/\dq S v e)/\
 (s.ld=10\/s.ld=17->∃ts,iJ S D W b s ts)/\
 (s.ld=12\/s.ld=13->∃sl ps,W.heap[b]?=some (.cells #[sl] 236 (0,0))/\eE D W ps sl/\ps≠[]/\All2 (vG S D W) (if s.ld=12 then s.li else[s]) ps)
def nE.move(hS:EH S S')(h:au D D' W W')(hv:nE S D W nm t p):nE S' D' W' nm t p:=by
 obtain⟨b,pos,pk,v,k,I,U,h3,h4⟩:=hv;exact⟨b,pos,pk,v,k,I,(h b U).1,(h b U).2.trans h3,h4.mono hS⟩
def sK.move(hS:EH S S')(h:au D D' W W')(hv:sK S D W nm t p):sK S' D' W' nm t p:=by
 obtain⟨b,pos,pk,v,I,U,h3,h4,h5⟩:=hv;exact⟨b,pos,pk,v,I,(h b U).1,(h b U).2.trans h3,h4.mono hS,h5.move h⟩
def sk.move(hS:EH S S')(h:au D D' W W'){l:List Y}(hv:sk S D W l p):sk S' D' W' l p:=by
 obtain hv|⟨h0,b,sl,ps,I,U,h3,h4,h5⟩:=hv
 .exact .inl hv
 .exact .inr ⟨h0,b,sl,ps,I,(h b U).1,(h b U).2.trans h3,h4.move h,h5.imp λe p j=>by obtain⟨nm,j⟩:=j;exact⟨nm,j.move hS h⟩⟩
def vG.move(hS:EH S S')(h:au D D' W W'){x:Y}(hv:vG S D W x p):vG S' D' W' x p:=by
 obtain⟨b,v,I,U,h3,h4⟩:=hv;exact⟨b,v,I,(h b U).1,(h b U).2.trans h3,h4.mono hS⟩
def DE(W W':World)(b:Nat)(ts sh:Value):Prop:=
 ∃c0 c1 c2 c3 c4 c5,W.heap[b]?=some (.cells #[c0,c1,c2,c3,c4,c5,ts] 104 (0,0))/\W'.heap[b]?=some (.cells #[c0,c1,c2,c3,c4,c5,sh] 104 (0,0))
def iJ.move(hS:EH S S')(h:au D D' W W')(hb:W'.heap[b]?=W.heap[b]?)(hv:iJ S D W b s ts):iJ S' D' W' b s ts:=by
 obtain⟨ms,es,ps,vs,I,U,h3,h4,h5⟩:=hv;exact⟨ms,es,ps,vs,hb.trans I,U.move h,h3.move h,h4.imp λm p j=>j.move hS h,h5.imp λe v hv=>hv.mono hS⟩
def iJ.but(hS:EH S S')(h:au D D' W W')(hb:DE W W' b ts sh)(hv:iJ S D W b s ts):iJ S' D' W' b s sh:=by
 obtain⟨ms,es,ps,vs,I,U,h3,h4,h5⟩:=hv;obtain⟨c0,c1,c2,c3,c4,c5,g1,g2⟩:=hb;rw[I]at g1;simp at g1;obtain⟨rfl,rfl,rfl,rfl,rfl,rfl⟩:=g1;exact⟨ms,es,ps,vs,g2,U.move h,h3.move h,h4.imp λm p j=>j.move hS h,h5.imp λe v hv=>hv.mono hS⟩
def mZ.move(hS:EH S S')(h:au D D' W W')(hb:W'.heap[b]?=W.heap[b]?\/(isIf s=true/\∃ts sh,DE W W' b ts sh))(hv:mZ S D W b s):mZ S' D' W' b s:=by
 obtain⟨n1,n2,n3,n4,n5,n6,n7,n8,n9,n10,n12⟩:=hv;obtain hb|⟨hi,ts,sh,hb⟩:=hb
 .refine⟨λk=>?_,λk=>?_,λk=>?_,λk=>?_,λk=>?_,λk=>?_,λk=>?_,λk=>?_,λk=>?_,λk=>?_,λk=>?_⟩
  .obtain⟨i,nm,g⟩:=n1 k;exact⟨i,nm,hb.trans g⟩
  .obtain⟨ob,og,fr,ac,g1,g2,e,g3,g4⟩:=n2 k;exact⟨ob,og,fr,ac,hb.trans g1,g2.mono hS,e,g3,g4.mono hS⟩
  .obtain⟨v,e,g1,g2,g3⟩:=n3 k;exact⟨v,e,g1,hb.trans g2,g3.mono hS⟩
  .obtain⟨v,e,g1,g2,g3⟩:=n4 k;exact⟨v,e,g1,hb.trans g2,g3.mono hS⟩
  .obtain⟨fs,tg,ps,g1,g2,g3,g4⟩:=n5 k;exact⟨fs,tg,ps,hb.trans g1,g2.move h,g3.move h,g4.imp λe p j=>j.move hS h⟩
  .obtain⟨v,e,g1,g2,g3⟩:=n6 k;exact⟨v,e,g1,hb.trans g2,g3.mono hS⟩
  .obtain⟨rc,pa,re,g1,g2,g3⟩:=n7 k;exact⟨rc,pa,re,hb.trans g1,g2.move hS h,g3.move hS h⟩
  .obtain⟨v,u,x,y,g1,g2,g3,g4⟩:=n8 k;exact⟨v,u,x,y,g1,hb.trans g2,g3.mono hS,g4.mono hS⟩
  .obtain⟨v,e,g1,g2,g3⟩:=n9 k;exact⟨v,e,g1,hb.trans g2,g3.mono hS⟩
  .obtain⟨ts,g⟩:=n10 k;exact⟨ts,g.move hS h hb⟩
  .obtain⟨sl,ps,g1,g2,g3,g4⟩:=n12 k;exact⟨sl,ps,hb.trans g1,g2.move h,g3,g4.imp λe p j=>j.move hS h⟩
 .have hk:s.ld=10\/s.ld=17:=by simpa[isIf]using hi
  refine⟨M,M,M,M,M,M,M,M,M,λk=>?_,M⟩;obtain⟨ts2,g⟩:=n10 k;obtain⟨ms,es,ps,vs,I,U⟩:=id g;have cX:=hb;obtain⟨c0,c1,c2,c3,c4,c5,g1,g2⟩:=cX;rw[I]at g1;simp at g1;obtain⟨-, -, -, -, -, -,rfl⟩:=g1;exact⟨sh,g.but hS h hb⟩
def mr(S:Sg)(D:Qx)(W:World)(m:aH)(p:Value):Prop:=
 ∃b pos pk sb rb pos' F0 nm k rt,p=ptr b/\D b/\W.heap[b]?=some (.cells #[.int .i64 pos,.pointer pk,.string m.name,.iface 92 (ptr sb),.bool false,.bool false] 173 (0,0))/\S sb=some (aG m.sig)/\
  W.cell? ⟨sb,0,none⟩=some (ptr rb)/\D rb/\W.heap[rb]?=some (.cells #[.int .i64 pos',.pointer F0,.string nm,.iface (if m.ptr then 133 else 53) (ptr rt),.int .u8 k,.bool false] 164 (0,0))/\(m.ptr=true->∃tt,S rt=some tt/\tt.ld=6)
def fe(w:List ah)(S:Sg)(D:Qx)(W:World)(b ob:Nat)(s:Y):Prop:=
 ∃ut ms ps,W.heap[b]?=some (.cells #[.pointer none,ptr ob,.bool false,.int .i32 0,.int .u32 0,.int .u32 15,ut,ut,.bool false,ms] 115 (0,0))/\dq S ut (oZ w s)/\eE D W ps ms/\
  All2 (mr S D W) (if s.ld=11 then((w[s.n.toNat]?).map (·.lw)).getD []else[]) ps/\ObV D W ob
def cI(s:Y):Prop:=s.ld=11\/s.ld=15\/s.ld=16
structure GH(w:List ah)(S:Sg)(D:Qx)(obj:Nat->Nat)(W:World):Prop where
 node:∀b s,S b=some s->mZ S D W b s
 named:∀b s,S b=some s->cI s->fe w S D W b (obj b) s
 lI:∀b s,S b=some s->b<W.heap.size
 mT:Lo D W.heap.size
 rS:∀b s,S b=some s->¬D b
 we:∀b b' s,S b=some s->S b'=some s->cI s->b=b'
 Gk:∀b b' s s',S b=some s->S b'=some s'->cI s->cI s'->obj b=obj b'->b=b'
 LR:∀b,D b->∃cs t f,W.heap[b]?=some (.cells cs t f)
 A9:∀b s,S b=some s->∃cs t,W.heap[b]?=some (.cells cs t (0,0))
 td:jE D W
section
variable{obj:Nat->Nat}
def mr.move(hS:EH S S')(h:au D D' W W')(hs:∀b s,S b=some s->s.ld=7->W'.heap[b]?=W.heap[b]?){m:aH}(hm:m.sig.ld=7)(hv:mr S D W m p):mr S' D' W' m p:=by
 obtain⟨b,pos,pk,sb,rb,pos',F0,nm,k,rt,I,U,h3,h4,h5,h6,h7⟩:=hv;exact⟨b,pos,pk,sb,rb,pos',F0,nm,k,rt,I,(h b U).1,(h b U).2.trans h3,hS _ _ h4,(jQi (w:=W) (hs sb _ h4 (by rw[aI M];exact hm))).trans h5,(h rb h6).1,(h rb h6).2.trans h7.1,λj=>by obtain⟨tt,g1,g2⟩:=h7.2 j;exact⟨tt,hS _ _ g1,g2⟩⟩
def GH.cR(h:GH w S D obj W)(dJ:∀(n:Nat) (d:ah),w[n]?=some d->∀m∈d.lw,m.sig.ld=7)(hz:W.heap.size<=W'.heap.size)(hS:∀b s,S b=some s->W'.heap[b]?=W.heap[b]?)(hD:∀b,D b->W'.heap[b]?=W.heap[b]?):GH w S D obj W':=by
 have hm:au D D W W':=λb hb=>⟨hb,hD b hb⟩;refine⟨λb s hs=>(h.node b s hs).move (λ_ _ h=>h) hm (.inl (hS b s hs)),λb s hs hn=>?_,λb s hs=>jQb (h.lI b s hs) hz,h.mT.mono hz,h.rS,h.we,h.Gk,λb hd=>by obtain⟨cs,t,f,hc⟩:=h.LR b hd;exact⟨cs,t,f,(hD b hd).trans hc⟩,λb s hs=>by obtain⟨cs,t,hc⟩:=h.A9 b s hs;exact⟨cs,t,(hS b s hs).trans hc⟩,h.td.move hm⟩;exact M29
def GH.below(h:GH w S D obj W)(dJ:∀(n:Nat) (d:ah),w[n]?=some d->∀m∈d.lw,m.sig.ld=7)(hb:S5 W W'):GH w S D obj W':=
 h.cR dJ hb.size (λb s hs=>hb.block b (h.lI b s hs)) (λb hd=>hb.block b (h.mT b hd))
end
def YC(a:Addr)(x:Int)(w)(hc:w.cell? a=some (.int .u32 x)):(callFunc 200 #[.pointer (some a)]).run prog w=.ok (.value (.int .u32 x)) w:=
 run_call_load func200 g9 g9 g9 .u32 g9 hc
@[go_sem ↓] theorem aan(v)(x:TypeId)(w):(Instr.typeAssert (.iface 89 v) x 89 true).run prog w=.ok (.tuple #[v,.bool true]) w:=g9
@[go_sem ↓] theorem aao(x:TypeId)(w):(Instr.typeAssert .nilIface x 89 true).run prog w=.ok (.tuple #[.pointer none,.bool false]) w:=g9
def aY(u:TypeId)(v)(x:TypeId)(w)(h:u≠89):(Instr.typeAssert (.iface u v) x 89 true).run prog w=.ok (.tuple #[.pointer none,.bool false]) w:=by
 simp[Instr.typeAssert,jQj underlying89,h]
@[go_sem ↓] theorem aap(v)(x:TypeId)(w):(Instr.typeAssert (.iface 127 v) x 127 true).run prog w=.ok (.tuple #[v,.bool true]) w:=g9
@[go_sem ↓] theorem aaq(x:TypeId)(w):(Instr.typeAssert .nilIface x 127 true).run prog w=.ok (.tuple #[.pointer none,.bool false]) w:=g9
def my(u:TypeId)(v)(x:TypeId)(w)(h:u≠127):(Instr.typeAssert (.iface u v) x 127 true).run prog w=.ok (.tuple #[.pointer none,.bool false]) w:=by
 simp[Instr.typeAssert,jQj underlying127,h]
@[go_sem ↓] theorem aar(v)(x:TypeId)(w):(Instr.typeAssert (.iface 129 v) x 129 true).run prog w=.ok (.tuple #[v,.bool true]) w:=g9
@[go_sem ↓] theorem aas(x:TypeId)(w):(Instr.typeAssert .nilIface x 129 true).run prog w=.ok (.tuple #[.pointer none,.bool false]) w:=g9
def cM(u:TypeId)(v)(x:TypeId)(w)(h:u≠129):(Instr.typeAssert (.iface u v) x 129 true).run prog w=.ok (.tuple #[.pointer none,.bool false]) w:=by
 simp[Instr.typeAssert,jQj underlying129,h]
@[go_sem ↓] theorem aat(v)(x:TypeId)(w):(Instr.typeAssert (.iface 131 v) x 131 true).run prog w=.ok (.tuple #[v,.bool true]) w:=g9
@[go_sem ↓] theorem aau(x:TypeId)(w):(Instr.typeAssert .nilIface x 131 true).run prog w=.ok (.tuple #[.pointer none,.bool false]) w:=g9
def gz(u:TypeId)(v)(x:TypeId)(w)(h:u≠131):(Instr.typeAssert (.iface u v) x 131 true).run prog w=.ok (.tuple #[.pointer none,.bool false]) w:=by
 simp[Instr.typeAssert,jQj underlying131,h]
@[go_sem ↓] theorem YD(v)(x:TypeId)(w):(Instr.typeAssert (.iface 203 v) x 203 true).run prog w=.ok (.tuple #[v,.bool true]) w:=g9
@[go_sem ↓] theorem YE(x:TypeId)(w):(Instr.typeAssert .nilIface x 203 true).run prog w=.ok (.tuple #[.pointer none,.bool false]) w:=g9
def bd(u:TypeId)(v)(x:TypeId)(w)(h:u≠203):(Instr.typeAssert (.iface u v) x 203 true).run prog w=.ok (.tuple #[.pointer none,.bool false]) w:=by
 simp[Instr.typeAssert,jQj underlying203,h]
@[go_sem ↓] theorem Wy(v)(x:TypeId)(w):(Instr.typeAssert (.iface 133 v) x 133 true).run prog w=.ok (.tuple #[v,.bool true]) w:=g9
@[go_sem ↓] theorem Wz(x:TypeId)(w):(Instr.typeAssert .nilIface x 133 true).run prog w=.ok (.tuple #[.pointer none,.bool false]) w:=g9
def aT(u:TypeId)(v)(x:TypeId)(w)(h:u≠133):(Instr.typeAssert (.iface u v) x 133 true).run prog w=.ok (.tuple #[.pointer none,.bool false]) w:=by
 simp[Instr.typeAssert,jQj underlying133,h]
@[go_sem ↓] theorem Rp(v)(x:TypeId)(w):(Instr.typeAssert (.iface 92 v) x 92 true).run prog w=.ok (.tuple #[v,.bool true]) w:=g9
@[go_sem ↓] theorem Rq(x:TypeId)(w):(Instr.typeAssert .nilIface x 92 true).run prog w=.ok (.tuple #[.pointer none,.bool false]) w:=g9
def im(u:TypeId)(v)(x:TypeId)(w)(h:u≠92):(Instr.typeAssert (.iface u v) x 92 true).run prog w=.ok (.tuple #[.pointer none,.bool false]) w:=by
 simp[Instr.typeAssert,jQj underlying92,h]
@[go_sem ↓] theorem adh(v)(x:TypeId)(w):(Instr.typeAssert (.iface 135 v) x 135 true).run prog w=.ok (.tuple #[v,.bool true]) w:=g9
@[go_sem ↓] theorem adi(x:TypeId)(w):(Instr.typeAssert .nilIface x 135 true).run prog w=.ok (.tuple #[.pointer none,.bool false]) w:=g9
def BO(u:TypeId)(v)(x:TypeId)(w)(h:u≠135):(Instr.typeAssert (.iface u v) x 135 true).run prog w=.ok (.tuple #[.pointer none,.bool false]) w:=by
 simp[Instr.typeAssert,jQj underlying135,h]
@[go_sem ↓] theorem abO(v)(x:TypeId)(w):(Instr.typeAssert (.iface 137 v) x 137 true).run prog w=.ok (.tuple #[v,.bool true]) w:=g9
@[go_sem ↓] theorem abP(x:TypeId)(w):(Instr.typeAssert .nilIface x 137 true).run prog w=.ok (.tuple #[.pointer none,.bool false]) w:=g9
def ed(u:TypeId)(v)(x:TypeId)(w)(h:u≠137):(Instr.typeAssert (.iface u v) x 137 true).run prog w=.ok (.tuple #[.pointer none,.bool false]) w:=by
 simp[Instr.typeAssert,jQj underlying137,h]
@[go_sem ↓] theorem Rr(v)(x:TypeId)(w):(Instr.typeAssert (.iface 33 v) x 33 true).run prog w=.ok (.tuple #[v,.bool true]) w:=g9
@[go_sem ↓] theorem Rs(x:TypeId)(w):(Instr.typeAssert .nilIface x 33 true).run prog w=.ok (.tuple #[.pointer none,.bool false]) w:=g9
def aP(u:TypeId)(v)(x:TypeId)(w)(h:u≠33):(Instr.typeAssert (.iface u v) x 33 true).run prog w=.ok (.tuple #[.pointer none,.bool false]) w:=by
 simp[Instr.typeAssert,jQj underlying33,h]
@[go_sem ↓] theorem aav(v)(x:TypeId)(w):(Instr.typeAssert (.iface 53 v) x 53 true).run prog w=.ok (.tuple #[v,.bool true]) w:=g9
@[go_sem ↓] theorem aaw(x:TypeId)(w):(Instr.typeAssert .nilIface x 53 true).run prog w=.ok (.tuple #[.pointer none,.bool false]) w:=g9
def uf(u:TypeId)(v)(x:TypeId)(w)(h:u≠53):(Instr.typeAssert (.iface u v) x 53 true).run prog w=.ok (.tuple #[.pointer none,.bool false]) w:=by
 simp[Instr.typeAssert,jQj underlying53,h]
@[go_sem ↓] theorem aax(v)(x:TypeId)(w):(Instr.typeAssert (.iface 184 v) x 184 true).run prog w=.ok (.tuple #[v,.bool true]) w:=g9
@[go_sem ↓] theorem aay(x:TypeId)(w):(Instr.typeAssert .nilIface x 184 true).run prog w=.ok (.tuple #[.pointer none,.bool false]) w:=g9
def mG(u:TypeId)(v)(x:TypeId)(w)(h:u≠184):(Instr.typeAssert (.iface u v) x 184 true).run prog w=.ok (.tuple #[.pointer none,.bool false]) w:=by
 simp[Instr.typeAssert,jQj underlying184,h]
@[go_sem ↓] theorem aaz(v)(x:TypeId)(w):(Instr.typeAssert (.iface 93 v) x 93 true).run prog w=.ok (.tuple #[v,.bool true]) w:=g9
@[go_sem ↓] theorem aaA(x:TypeId)(w):(Instr.typeAssert .nilIface x 93 true).run prog w=.ok (.tuple #[.pointer none,.bool false]) w:=g9
def mH(u:TypeId)(v)(x:TypeId)(w)(h:u≠93):(Instr.typeAssert (.iface u v) x 93 true).run prog w=.ok (.tuple #[.pointer none,.bool false]) w:=by
 simp[Instr.typeAssert,jQj underlying93,h]
@[go_sem ↓] theorem Rt(v)(x:TypeId)(w):(Instr.typeAssert (.iface 232 v) x 232 true).run prog w=.ok (.tuple #[v,.bool true]) w:=g9
@[go_sem ↓] theorem Ru(x:TypeId)(w):(Instr.typeAssert .nilIface x 232 true).run prog w=.ok (.tuple #[.pointer none,.bool false]) w:=g9
def mh(u:TypeId)(v)(x:TypeId)(w)(h:u≠232):(Instr.typeAssert (.iface u v) x 232 true).run prog w=.ok (.tuple #[.pointer none,.bool false]) w:=by
 simp[Instr.typeAssert,jQj underlying232,h]
@[go_sem ↓] theorem aeR(u:TypeId)(v w):(binOp .eql 37 (.iface u v) .nilIface).run prog w=.ok (.bool false) w:=g9
@[go_sem ↓] theorem aeS(u:TypeId)(v w):(binOp .neq 37 (.iface u v) .nilIface).run prog w=.ok (.bool true) w:=g9
@[go_sem ↓] theorem adj(w):(binOp .eql 37 .nilIface .nilIface).run prog w=.ok (.bool true) w:=g9
@[go_sem ↓] theorem adk(w):(binOp .neq 37 .nilIface .nilIface).run prog w=.ok (.bool false) w:=g9
def dL(W:World)(v:Value)(e:Ending)(W':World):Prop:=e=.returned v/\W'=W
def zN{w:World}{v4 v5 v6 v7 v8 v9:Value}{t:TypeId}(h:w.heap[B]?=some (.cells #[v0,v1,v2,v3,v4,v5,v6,v7,v8,v9] t f)):
 w.cell? ⟨B,0,none⟩=some v0/\w.cell? ⟨B,1,none⟩=some v1/\w.cell? ⟨B,2,none⟩=some v2/\w.cell? ⟨B,3,none⟩=some v3/\w.cell? ⟨B,4,none⟩=some v4/\w.cell? ⟨B,5,none⟩=some v5/\w.cell? ⟨B,6,none⟩=some v6/\w.cell? ⟨B,7,none⟩=some v7/\w.cell? ⟨B,8,none⟩=some v8/\w.cell? ⟨B,9,none⟩=some v9:=by
 simp[World.cell?,h]
def tZ(b:Nat)(W)(hc:ce W b 5 (.int .u32 15))(m:Int)(hm:m=3\/m=4\/m=8):
 Calls prog 164 #[ptr b,.int .u32 m] W (dL W (.bool true)):=by
 have hl:=YC ⟨b,5,none⟩ 15 W hc;obtain rfl|rfl|rfl:=hm
 all_goals
  go_in;go_wp2;go_ret;exact⟨g9,rfl⟩
def PG(b:Nat)(v W)(hc:ce W b 6 v):Calls prog 293 #[ptr b] W (dL W v):=M85
def vN(b:Nat)(W)(hc:ce W b 5 (.int .u32 15)):Calls prog 123 #[ptr b] W (dL W (ptr b)):=by
 go_enter_defers func123,ntmps123
 go_wp21;refine(tZ b W hc 3 M).mono ?_;rintro e O ⟨rfl,rfl⟩;go_wp21;exact⟨_,results_tmp rfl _ _ _,rfl,rfl⟩
def de(k:Int):(k=1/\tid k=89)\/(k=2/\tid k=127)\/(k=3/\tid k=129)\/(k=4/\tid k=131)\/(k=5/\tid k=203)\/(k=6/\tid k=133)\/(k=7/\tid k=92)\/
 (k=8/\tid k=135)\/(k=9/\tid k=137)\/((k=10\/k=14\/k=17)/\tid k=33)\/((k=12\/k=13)/\tid k=184)\/((k<1\/k=11\/k=15\/k=16\/k>17)/\tid k=53):=by
 unfold tid;by_cases I:k=1;·exact .inl ⟨I,by rw[jQ7 I]⟩
 rw[jQ4 I];refine .inr ?_;by_cases U:k=2;·exact .inl ⟨U,by rw[jQ7 U]⟩
 rw[jQ4 U];refine .inr ?_;by_cases h3:k=3;·exact .inl ⟨h3,by rw[jQ7 h3]⟩
 rw[jQ4 h3];refine .inr ?_;by_cases h4:k=4;·exact .inl ⟨h4,by rw[jQ7 h4]⟩
 rw[jQ4 h4];refine .inr ?_;by_cases h5:k=5;·exact .inl ⟨h5,by rw[jQ7 h5]⟩
 rw[jQ4 h5];refine .inr ?_;by_cases h6:k=6;·exact .inl ⟨h6,by rw[jQ7 h6]⟩
 rw[jQ4 h6];refine .inr ?_;by_cases h7:k=7;·exact .inl ⟨h7,by rw[jQ7 h7]⟩
 rw[jQ4 h7];refine .inr ?_;by_cases h8:k=8;·exact .inl ⟨h8,by rw[jQ7 h8]⟩
 rw[jQ4 h8];refine .inr ?_;by_cases h9:k=9;·exact .inl ⟨h9,by rw[jQ7 h9]⟩
 rw[jQ4 h9];refine .inr ?_;by_cases bH:k=10\/k=14\/k=17;·exact .inl ⟨bH,by rw[jQ7 bH]⟩
 rw[jQ4 bH];refine .inr ?_;by_cases cQ:k=12\/k=13;·exact .inl ⟨cQ,by rw[jQ7 cQ]⟩
 rw[jQ4 cQ];exact .inr ⟨M,rfl⟩
def aW(dA:t.ld≠11)(mM:t.ld≠14)(ka:t.ld≠15)(ir:t.ld≠16):aG t=.mk t.ld t.n t.m t.va es es t.li:=by
 unfold aG mC;rw[jQ4 mM];unfold jt;rw[jQ4 dA,jQ4 M]
def zo{obj:Nat->Nat}(hg:GH w S D obj W)(hv:dq S v t)(hn:t.ld=1->0<=t.n):
 Calls prog 79 #[v] W (dL W (.bool false)):=by
 obtain⟨b,rfl,hs⟩:=hv;by_cases I:t.ld=1
 .have hk:(aG t).ld=1:=by rw[aI M];exact I
  obtain⟨info,nm,hb⟩:=(hg.node b _ hs).1 hk;have ht:tid t.ld=89:=by rw[I];rfl
  have jF:(aG t).n=t.n:=by rw[aW M M M M];rfl
  rw[ht];have c0:W.cell? ⟨b,0,none⟩=some (.int .i64 (t.n+1)):=by rw[<-jF];simp[World.cell?,hb]
  have Hv:((t.n+1)==0)=false:=by simp;have:=hn I;omega
  generalize t.n+1=q at c0 Hv;clear hs hb hg hk ht jF I hn;exact M85
 .have ht:¬(tid t.ld=89):=(λh=>by rcases de t.ld with g|g|g|g|g|g|g|g|g|g|g|g<;>first|exact I g.1|(rw[g.2]at h;exact absurd h i5));have fp:=aY (tid t.ld) (ptr b) 37 W ht;generalize tid t.ld=T at ht fp;clear hs hg I hn;exact M85
def dx{w:World}{t:TypeId}(h:w.heap[B]?=some (.cells #[v0,v1,v2,v3] t f)):
 w.cell? ⟨B,0,none⟩=some v0/\w.cell? ⟨B,1,none⟩=some v1/\w.cell? ⟨B,2,none⟩=some v2/\w.cell? ⟨B,3,none⟩=some v3:=by
 simp[World.cell?,h]
def sV(b:Nat)(T:TypeId)(x W)(hc:ce W b 3 (.iface T x)):Calls prog 126 #[ptr b] W (dL W (.iface T x)):=M85
def Tz(S:Sg)(t:Y)(W:World)(e:Ending)(W':World):Prop:=∃v,e=.returned v/\dq S v t/\W'=W
def aS{obj:Nat->Nat}(hg:GH w S D obj W)(hv:dq S v t):
 Calls prog 80 #[v] W (Tz S (una t) W):=by
 obtain⟨b,rfl,hs⟩:=id hv;by_cases U:t.ld=2
 .have hk:(aG t).ld=2:=by rw[aI M];exact U
  obtain⟨ob,og,fr,ac,hb,hac, -⟩:=(hg.node b _ hs).2.1 hk;have hT:=hac.same (Jf (dX.una (oN t)));obtain⟨b2,rfl,eX⟩:=id hT;have ht:tid t.ld=127:=by rw[U];rfl
  rw[ht];have ag:=sV b _ _ W (dx hb).2.2.2;have HT:=Z hT;clear hs hb hg hk ht hac eX U hv hT;go_in;go_wp21;refine ag.mono ?_;rintro e O ⟨rfl,rfl⟩;go_wp2;go_ret;exact⟨_,rfl,HT.1,rfl⟩
 .have ht:¬(tid t.ld=127):=(λh=>by rcases de t.ld with g|g|g|g|g|g|g|g|g|g|g|g<;>first|exact U g.1|(rw[g.2]at h;exact absurd h i5));have fp:=my (tid t.ld) (ptr b) 37 W ht;have HT:=Z (show dq S (.iface (tid t.ld) (ptr b)) (una t)from hv.same (by
   unfold dX;obtain⟨k,n,m,va,nm,tg,l⟩:=t;by_cases mM:k=14
   .subst mM;rw[hZ];rfl
   .rw[hZ,jQ4 (show¬k=2 from U),jQ4 mM]))
  generalize tid t.ld=T at ht fp HT;clear hs hg U hv;go_in;go_wp2;go_ret;exact⟨_,rfl,HT.1,rfl⟩
def dy{obj:Nat->Nat}(hg:GH w S D obj W)(hv:dq S v t)(hn:(una t).ld=1->0<=(una t).n):
 Calls prog 34 #[v] W (dL W (.bool true)):=by
 have ag:=aS hg hv;go_in;go_wp21;refine ag.mono ?_;rintro e O ⟨v1,rfl,dr,rfl⟩;have ag:=zo hg dr hn;go_wp21;refine ag.mono ?_;exact M188
@[go_sem ↓] theorem agt(b:Nat)(w):(callMethod (.iface 89 (ptr b)) "Underlying" #[]).run prog w=.ok (.enter 297 #[ptr b]) w:=g9
@[go_sem ↓] theorem agu(b:Nat)(w):(callMethod (.iface 129 (ptr b)) "Underlying" #[]).run prog w=.ok (.enter 303 #[ptr b]) w:=g9
@[go_sem ↓] theorem agv(b:Nat)(w):(callMethod (.iface 131 (ptr b)) "Underlying" #[]).run prog w=.ok (.enter 305 #[ptr b]) w:=g9
@[go_sem ↓] theorem aeu(b:Nat)(w):(callMethod (.iface 203 (ptr b)) "Underlying" #[]).run prog w=.ok (.enter 314 #[ptr b]) w:=g9
@[go_sem ↓] theorem adf(b:Nat)(w):(callMethod (.iface 133 (ptr b)) "Underlying" #[]).run prog w=.ok (.enter 307 #[ptr b]) w:=g9
@[go_sem ↓] theorem aae(b:Nat)(w):(callMethod (.iface 92 (ptr b)) "Underlying" #[]).run prog w=.ok (.enter 298 #[ptr b]) w:=g9
@[go_sem ↓] theorem aiH(b:Nat)(w):(callMethod (.iface 135 (ptr b)) "Underlying" #[]).run prog w=.ok (.enter 309 #[ptr b]) w:=g9
@[go_sem ↓] theorem ahk(b:Nat)(w):(callMethod (.iface 137 (ptr b)) "Underlying" #[]).run prog w=.ok (.enter 311 #[ptr b]) w:=g9
@[go_sem ↓] theorem aaf(b:Nat)(w):(callMethod (.iface 33 (ptr b)) "Underlying" #[]).run prog w=.ok (.enter 289 #[ptr b]) w:=g9
@[go_sem ↓] theorem agw(b:Nat)(w):(callMethod (.iface 184 (ptr b)) "Underlying" #[]).run prog w=.ok (.enter 313 #[ptr b]) w:=g9
@[go_sem ↓] theorem agx(b:Nat)(w):(callMethod (.iface 53 (ptr b)) "Underlying" #[]).run prog w=.ok (.enter 291 #[ptr b]) w:=g9
@[go_sem ↓] theorem agy(b:Nat)(w):(callMethod (.iface 127 (ptr b)) "Underlying" #[]).run prog w=.ok (.enter 301 #[ptr b]) w:=g9
def NP(b n:Nat)(w):(method (n+1) 89 (ptr b) "Underlying").run prog w=.ok (297,ptr b) w:=g9
def NQ(b n:Nat)(w):(method (n+1) 129 (ptr b) "Underlying").run prog w=.ok (303,ptr b) w:=g9
def zJ(b n:Nat)(w):(method (n+1) 131 (ptr b) "Underlying").run prog w=.ok (305,ptr b) w:=g9
def Je(b n:Nat)(w):(method (n+1) 203 (ptr b) "Underlying").run prog w=.ok (314,ptr b) w:=g9
def EG(b n:Nat)(w):(method (n+1) 133 (ptr b) "Underlying").run prog w=.ok (307,ptr b) w:=g9
def yC(b n:Nat)(w):(method (n+1) 92 (ptr b) "Underlying").run prog w=.ok (298,ptr b) w:=g9
def aad(b n:Nat)(w):(method (n+1) 135 (ptr b) "Underlying").run prog w=.ok (309,ptr b) w:=g9
def Tw(b n:Nat)(w):(method (n+1) 137 (ptr b) "Underlying").run prog w=.ok (311,ptr b) w:=g9
def yD(b n:Nat)(w):(method (n+1) 33 (ptr b) "Underlying").run prog w=.ok (289,ptr b) w:=g9
def NR(b n:Nat)(w):(method (n+1) 184 (ptr b) "Underlying").run prog w=.ok (313,ptr b) w:=g9
def Yb(b n:Nat)(w):(method (n+1) 53 (ptr b) "Underlying").run prog w=.ok (291,ptr b) w:=g9
def Yc(b n:Nat)(w):(method (n+1) 127 (ptr b) "Underlying").run prog w=.ok (301,ptr b) w:=g9
def qZ(b:Nat)(W):Calls prog 297 #[ptr b] W (dL W (.iface 89 (ptr b))):=M85
def rh(b:Nat)(W):Calls prog 303 #[ptr b] W (dL W (.iface 129 (ptr b))):=M85
def ic(b:Nat)(W):Calls prog 305 #[ptr b] W (dL W (.iface 131 (ptr b))):=M85
def p8(b:Nat)(W):Calls prog 314 #[ptr b] W (dL W (.iface 203 (ptr b))):=M85
def oP(b:Nat)(W):Calls prog 307 #[ptr b] W (dL W (.iface 133 (ptr b))):=M85
def mA(b:Nat)(W):Calls prog 298 #[ptr b] W (dL W (.iface 92 (ptr b))):=M85
def vM(b:Nat)(W):Calls prog 309 #[ptr b] W (dL W (.iface 135 (ptr b))):=M85
def sU(b:Nat)(W):Calls prog 311 #[ptr b] W (dL W (.iface 137 (ptr b))):=M85
def mB(b:Nat)(W):Calls prog 289 #[ptr b] W (dL W (.iface 33 (ptr b))):=M85
def rj(b:Nat)(W):Calls prog 313 #[ptr b] W (dL W (.iface 184 (ptr b))):=M85
def Bq(b:Nat)(T:TypeId)(x W)(h5:ce W b 5 (.int .u32 15))(h6:ce W b 6 (.iface T x))(h7:ce W b 7 (.iface T x)):
 Calls prog 291 #[ptr b] W (dL W (.iface T x)):=by
 have c1:=vN b W h5;have c2:=PG b _ W h6;have c3:=tZ b W h5 8 M;go_in;go_wp21;refine c1.mono ?_;rintro e O ⟨rfl,rfl⟩;go_wp21;refine c2.mono ?_;rintro e O ⟨rfl,rfl⟩;go_wp21;refine c3.mono ?_;exact M188
def Tx(w)(h:cI t)(hd:t.ld=11->∃d,w[t.n.toNat]?=some d):oZ w (aG t)=oZ w t:=by
 obtain⟨k,n,m,va,nm,tg,l⟩:=t;rcases h with h|h|h<;>(simp only[Y.ld]at h;subst h)
 .have:aG (.mk 11 n m va nm tg l)=.mk 11 n 0 false es es []:=by unfold aG mC jt;simp[Y.ld,Y.n]
  rw[this];unfold oZ;simp only[Y.ld,Y.n,if_true];obtain⟨d,hd⟩:=hd rfl;simp only[Y.n]at hd;rw[hd];rfl
 .exact M161
 .exact M162
def Ty(h:PT NS Q w md t)(hk:t.ld=11):∃d,w[t.n.toNat]?=some d:=by
 obtain⟨k,n,m,va,nm,tg,l⟩:=t;simp only[Y.ld]at hk;subst hk;cases h with
 |named a1 a2 a3=>exact⟨w[n.toNat]' M,by simp[Y.n]⟩
 |uni h=>omega
 |al h=>omega
 |one h=>omega
def ru(U:t.ld≠2)(mM:t.ld≠14):una t=t:=by
 obtain⟨k,n,m,va,nm,tg,l⟩:=t;rw[hZ,jQ4 (show¬k=2 from U),jQ4 (show¬k=14 from mM)]
def vO:∀t:Y,una (una t)=una t
 |.mk k n m v s tg []=>by
  rw[hZ];split
  .rfl
  .split
   .rfl
   .rename_i I U;exact ru I U
 |.mk k n m v s tg (e::l)=>by
  rw[hZ];split
  .exact vO e
  .split
   .rfl
   .rename_i I U;exact ru I U
def Yd(w t):az w (una t)=az w t:=by unfold az;rw[vO]
def NO(w:List ah)(S:Sg)(W:World)(v:Value)(t:Y):Prop:=
 ∃T f b,v=.iface T (ptr b)/\((∀(n:Nat) (O:World),(method (n+1) T (ptr b) "Underlying").run prog O=.ok (f,ptr b) O)/\∀(args:Array Value) (O:World),(callFunc f args).run prog O=.ok (.enter f args) O)/\Calls prog f #[ptr b] W (Tz S (az w t) W)
section
variable{obj:Nat->Nat}
def VT(NS:List ByteArray)(Q:Y->Prop)(w:List ah)(t:Y):Prop:=(∃md,PT NS Q w md t)\/t=da
def Bn(w)(U:t.ld≠2)(dA:t.ld≠11)(ka:t.ld≠15)(ir:t.ld≠16):dX (az w t) t:=by
 by_cases mM:t.ld=14
 .have I:az w t=fD:=by
   rw[<-vP];unfold mC;rw[jQ7 mM];rfl
  rw[I];unfold dX aG mC;rw[jQ7 mM];rfl
 .have I:az w t=t:=by unfold az oZ;rw[ru U mM,jQ4 dA,jQ4 ka,jQ4 ir]
  rw[I];rfl
def yE(hg:GH w S D obj W)(hv:dq S v t)(ht:VT NS Q w t)(U:t.ld≠2):NO w S W v t:=by
 obtain⟨b,rfl,hs⟩:=id hv;by_cases hn:cI t
 .have mM:t.ld≠14:=by rcases hn with h|h|h<;>omega
  have hk:cI (aG t):=by unfold cI;rw[aI mM];exact hn
  obtain⟨ut,ms,ps,hb,hu, -⟩:=hg.named b _ hs hk;rw[Tx w hn (λdA=>by
   rcases ht with⟨md,h⟩|rfl
   .exact Ty h dA
   .simp[da,tk,Y.ld]at dA)]at hu
  have he:oZ w t=az w t:=by unfold az;rw[ru U mM]
  rw[he]at hu;obtain⟨b2,rfl,eX⟩:=id hu;obtain⟨c0,c1,c2,c3,c4,c5,c6,c7,c8,c9⟩:=zN hb;have hT:tid t.ld=53:=by rcases hn with h|h|h<;>rw[h]<;>rfl
  rw[hT];exact⟨_,_,b,rfl,⟨Yb b,Tryz.call291⟩,(Bq b _ _ W c5 c6 c7).mono λe O h=>⟨_,h.1,hu,h.2⟩⟩
 .have dA:t.ld≠11:=λh=>hn (.inl h);have ka:t.ld≠15:=λh=>hn (.inr (.inl h));have ir:t.ld≠16:=λh=>hn (.inr (.inr h));have hu:=hv.same (t':=az w t) (Bn w U dA ka ir).symm;have ahl:1<=t.ld/\t.ld<=17:=by
   rcases ht with⟨md,h⟩|rfl
   .have:=gR h;omega
   .exact⟨i5,i5⟩
  exact M17
def bj(hq:QP NS Q)(hg:GH w S D obj W)(hv:dq S v t)(ht:VT NS Q w t):NO w S W v t:=by
 by_cases U:t.ld=2
 .obtain⟨b,rfl,hs⟩:=id hv;have hk:(aG t).ld=2:=by rw[aI M];exact U
  obtain⟨ob,og,fr,ac,hb,hac, -⟩:=(hg.node b _ hs).2.1 hk;have hT:=hac.same (Jf (dX.una (oN t)));have qq:(una t).ld≠2/\VT NS Q w (una t):=by
   rcases ht with⟨md,h⟩|rfl
   .exact⟨(cJ hq h).2.2.2.1,.inl ⟨md,(cJ hq h).1⟩⟩
   .simp[da,tk,Y.ld]at U
  obtain⟨T,f,b2,rfl,⟨hm,pC⟩,hc⟩:=yE hg hT qq.2 qq.1;have Ng:tid t.ld=127:=by rw[U];rfl
  rw[Ng];refine⟨_,_,b,rfl,⟨Yc b,Tryz.call301⟩,?_⟩;have ag:=sV b _ _ W (dx hb).2.2.2;rw[Yd]at hc;have HC:=Z hc;clear hs hb hg hk ht hac U hv hT hc Ng qq;go_in;go_wp21;refine ag.mono ?_;rintro e O ⟨rfl,rfl⟩;go_wp21;refine HC.1.mono ?_;rintro e O ⟨v',rfl,zw,rfl⟩;obtain⟨b3,rfl,eY⟩:=id zw;go_wp2;go_ret;exact⟨_,rfl,zw,rfl⟩
 .exact yE hg hv ht U
end
def Rn(S:Sg)(W:World):Nat->Prop:=λb=>S b=none/\∃cs t f,W.heap[b]?=some (.cells cs t f)
def Qq(S:Sg)(W:World):Nat->Prop:=λb=>S b=none/\∃cs f,W.heap[b]?=some (.cells cs 156 f)
def TmV(S:Sg)(W:World)(x:Option Tm)(p:Value):Prop:=
 match x with
 |none=>p=.pointer none
 |some tm=>∃b v ty,p=ptr b/\S b=none/\W.heap[b]?=some (.cells #[.bool tm.dO,v] ty (0,0))/\(ty=158\/ty=237)/\(match tm.jg with|none=>v=.nilIface|some a=>dq S v a)
def lS(S:Sg)(W:World)(l:List (Option Tm))(sl:Value):Prop:=∃ps,eE (Qq S W) W ps sl/\All2 (TmV S W) l ps
def Out(E:Qx)(sl:Value):Prop:=∀ad n c,sl=.slice (some ad) n c->n≠0->¬E ad.block
def yn(S:Sg)(D E:Qx)(W:World)(b:Nat)(s:TS):Prop:=
 ∃ms tl ps,¬E b/\Out E ms/\Out E tl/\W.heap[b]?=some (.cells #[.bool false,ms,tl,.bool s.comp] 124 (0,0))/\S b=none/\eE (Rn S W) W ps ms/\All2 (λm p=>sK S D W m.name m p) s.lw ps/\lS S W s.terms tl
structure bZ(X:Qx)(S:Sg)(rs:List Nat)(r:Nat)(W W':World):Prop where
 os:W'.os=W.os
 tape:W'.tape=W.tape
 output:W'.output=W.output
 size:W.heap.size<=W'.heap.size
 block:∀b,b<W.heap.size->W'.heap[b]?=W.heap[b]?\/(∃s ts sh,S b=some s/\isIf s=true/\2*J rs false false s<r/\DE W W' b ts sh)\/(X b/\(∃es ck,W.heap[b]?=some (.map es ck))/\∃es ck,W'.heap[b]?=some (.map es ck))
def Wc:Nat->Prop:=λ_=>False
abbrev Fr(S:Sg)(rs:List Nat)(r:Nat)(W W':World):Prop:=bZ Wc S rs r W W'
def DE.trans{t2 t4:Value}(h:DE W W' b t1 t2)(h':DE W' W2 b t3 t4):DE W W2 b t1 t4:=by
 obtain⟨c0,c1,c2,c3,c4,c5,I,U⟩:=h;obtain⟨d0,d1,d2,d3,d4,d5,h3,h4⟩:=h';rw[U]at h3;simp at h3;obtain⟨rfl,rfl,rfl,rfl,rfl,rfl, -⟩:=h3;exact⟨c0,c1,c2,c3,c4,c5,I,h4⟩
def bZ.refl(W):bZ X S rs r W W:=⟨rfl,rfl,rfl,jQ0 _,λ_ _=>.inl rfl⟩
def Fr.refl(W):Fr S rs r W W:=bZ.refl W
def bZ.trans(h:bZ X S rs r W W')(h':bZ X S rs r W' W2):bZ X S rs r W W2:=by
 refine⟨h'.os.trans h.os,h'.tape.trans h.tape,h'.output.trans h.output,jQd h.size h'.size,λb hb=>?_⟩;rcases h.block b hb with e|⟨s,ts,sh,g1,g2,g3,g4⟩|⟨x1,⟨es,ck,x2⟩,⟨GA,YX,x3⟩⟩
 .rcases h'.block b (jQb hb h.size)with e'|⟨s,ts,sh,g1,g2,g3,c0,c1,c2,c3,c4,c5,g4,g5⟩|⟨y1,⟨es,ck,y2⟩,⟨GA,YX,y3⟩⟩
  .exact .inl (e'.trans e)
  .exact .inr (.inl ⟨s,ts,sh,g1,g2,g3,c0,c1,c2,c3,c4,c5,e.symm.trans g4,g5⟩)
  .exact .inr (.inr ⟨y1,⟨es,ck,e.symm.trans y2⟩,⟨GA,YX,y3⟩⟩)
 .rcases h'.block b (jQb hb h.size)with e'|⟨s',us,zU,k1,k2,k3,k4⟩|⟨y1,⟨es,ck,y2⟩,y3⟩
  .obtain⟨c0,c1,c2,c3,c4,c5,k1,k2⟩:=g4;exact .inr (.inl ⟨s,ts,sh,g1,g2,g3,c0,c1,c2,c3,c4,c5,k1,e'.trans k2⟩)
  .exact .inr (.inl ⟨s,ts,zU,g1,g2,g3,g4.trans k4⟩)
  .obtain⟨c0,c1,c2,c3,c4,c5,k1,k2⟩:=g4;rw[k2]at y2;cases y2
 .rcases h'.block b (jQb hb h.size)with e'|⟨s',us,zU,k1,k2,k3,k4⟩|⟨y1,⟨es2,ck2,y2⟩,⟨es3,ck3,y3⟩⟩
  .exact .inr (.inr ⟨x1,⟨es,ck,x2⟩,⟨GA,YX,e'.trans x3⟩⟩)
  .obtain⟨c0,c1,c2,c3,c4,c5,k5,k6⟩:=k4;rw[x3]at k5;cases k5
  .exact .inr (.inr ⟨x1,⟨es,ck,x2⟩,⟨es3,ck3,y3⟩⟩)
def bZ.wide(h:bZ X S rs r W W')(H:∀b,X b->X' b):bZ X' S rs r W W':=
 ⟨h.os,h.tape,h.output,h.size,λb hb=>(h.block b hb).imp id λh=>h.imp id λh=>⟨H _ h.1,h.2⟩⟩
def Fr.x(h:Fr S rs r W W'):bZ X S rs r W W':=bZ.wide h (λ_ h=>h.elim)
def bZ.new(h:bZ X S rs r W W')(H:∀b,X b->W.heap.size<=b):Fr S rs r W W':=
 ⟨h.os,h.tape,h.output,h.size,λb hb=>(h.block b hb).imp id λh=>h.imp id λh=>absurd (H b h.1) M⟩
def bZ.mono(h:bZ X S rs r W W')(hr:r<=r'):bZ X S rs r' W W':=
 ⟨h.os,h.tape,h.output,h.size,λb hb=>(h.block b hb).imp id λh=>h.imp (λ⟨s,ts,sh,g1,g2,g3,g4⟩=>⟨s,ts,sh,g1,g2,M,g4⟩) id⟩
def Below.fr(h:S5 W W'):bZ X S rs r W W':=⟨h.os,h.tape,h.output,h.size,λb hb=>.inl (h.block b hb)⟩
def bZ.obj(h:bZ X S rs r W W')(hs:S b=none){cs:Array Value}{t:TypeId}(hb:W.heap[b]?=some (.cells cs t f)):W'.heap[b]?=some (.cells cs t f):=by
 rcases h.block b (jQ2 hb)with e|⟨s,_,_,g1,_⟩|⟨_,⟨_,_,g⟩,_⟩
 .exact e.trans hb
 .rw[hs]at g1;cases g1
 .rw[hb]at g;cases g
def bZ.map(h:bZ X S rs r W W')(hs:¬X b){es:Array MapEntry}(hb:W.heap[b]?=some (.map es ck)):W'.heap[b]?=some (.map es ck):=by
 rcases h.block b (jQ2 hb)with e|⟨s,_,_,_,_,_,c0,c1,c2,c3,c4,c5,g1,_⟩|⟨g,_,_⟩
 .exact e.trans hb
 .rw[hb]at g1;cases g1
 .exact absurd g hs
def bZ.frz(h:bZ X S rs r W W'):au (Rn S W) (Rn S W') W W':=λb hb=>by
 obtain⟨I,cs,t,f,U⟩:=hb;have:=h.obj I U;exact⟨⟨I,cs,t,f,this⟩,this.trans U.symm⟩
def bZ.ahY(h:bZ X S rs r W W'):au (Qq S W) (Qq S W') W W':=λb hb=>by
 obtain⟨I,cs,f,U⟩:=hb;have:=h.obj I U;exact⟨⟨I,cs,f,this⟩,this.trans U.symm⟩
def cells_of_cell{w:World}(hc:ce w b o v):∃cs t f,w.heap[b]?=some (.cells cs t f):=by
 have:=jQs hc;cases ho:w.heap[b]? with
 |none=>simp[World.cell?,ho]at hc
 |some x=>cases x<;>first|exact⟨_,_,_,rfl⟩|simp[World.cell?,ho]at hc
def bZ.cell(h:bZ X S rs r W W')(hs:S b=none)(hc:ce W b o v):W'.cell? ⟨b,o,none⟩=some v:=by
 obtain⟨cs,t,f,hb⟩:=cells_of_cell hc;exact(jQi (w:=W) ((h.obj hs hb).trans hb.symm)).trans hc
def TmV.move(h:bZ X S rs r W W'){x:Option Tm}(hv:TmV S W x p):TmV S W' x p:=by
 unfold TmV at hv⊢;cases x with
 |none=>exact hv
 |some tm=>
  obtain⟨b,v,ty,I,U,h3,h5,h4⟩:=hv;exact⟨b,v,ty,I,U,h.obj U h3,h5,h4⟩
def lS.move(h:bZ X S rs r W W')(hv:lS S W l sl):lS S W' l sl:=by
 obtain⟨ps,I,U⟩:=hv;exact⟨ps,I.move h.ahY,U.imp λ_ _ j=>j.move h⟩
def lS.form(hv:lS S W l sl):∃a c,sl=.slice a l.length c:=by
 obtain⟨ps,I,U⟩:=hv;obtain⟨a,c,rfl⟩:=I.form;exact⟨a,c,by rw[U.len]⟩
structure Ok(w:List ah)(S:Sg)(D:Qx)(obj:Nat->Nat)(rs:List Nat)(K:Nat)(E:Qx)(r:Nat)(W:World):Prop where
 gh:GH w S D obj W
 own:∀b,E b->b<W.heap.size/\¬D b/\S b=none
 st:∀b s,S b=some s->isIf s=true->2*J rs false false s<r->∃ts,iJ S D W b s ts/\((ts=.pointer none/\s.ld=10)\/∃sb,ts=ptr sb/\yn S D E W sb ((fs w K).ts s))
section
variable{obj:Nat->Nat}
def dw(h:isIf s=true):s.ld=10\/s.ld=17:=by simpa[isIf]using h
def bZ.other(h:bZ X S rs r W W')(hs:S b=some s)(hi:isIf s=false){cs:Array Value}{t:TypeId}(hb:W.heap[b]?=some (.cells cs t f)):W'.heap[b]?=some (.cells cs t f):=by
 rcases h.block b (jQ2 hb)with e|⟨s',_,_,g1,g2,_⟩|⟨_,⟨_,_,g⟩,_⟩
 .exact e.trans hb
 .rw[hs]at g1;cases g1;rw[hi]at g2;cases g2
 .rw[hb]at g;cases g
def GH.eu(hg:GH w S D obj W)(h:bZ X S rs r W W'):au D D W W':=λb hb=>by
 obtain⟨cs,t,f,hc⟩:=hg.LR b hb;have hs:S b=none:=by
  cases hs:S b with
  |none=>rfl
  |some s=>exact absurd hb (hg.rS b s hs)
 exact⟨hb,(h.obj hs hc).trans hc.symm⟩
def UQ(h:cI s):isIf s=false:=by unfold isIf;rcases h with h|h|h<;>simp[h]
def GH.acn(hg:GH w S D obj W)(h:bZ X S rs r W W'):∀b s,S b=some s->∃cs t,W'.heap[b]?=some (.cells cs t (0,0)):=λb s hs=>by
 obtain⟨cs,t,hc⟩:=hg.A9 b s hs;rcases h.block b (hg.lI b s hs)with e|⟨s',_,_,_,_,_,c0,c1,c2,c3,c4,c5,g1,g2⟩|⟨_,⟨_,_,g⟩,_⟩
 .exact⟨cs,t,e.trans hc⟩
 .exact⟨_,_,g2⟩
 .rw[hc]at g;cases g
def GH.fr(hg:GH w S D obj W)(dJ:∀(n:Nat) (d:ah),w[n]?=some d->∀m∈d.lw,m.sig.ld=7)(h:bZ X S rs r W W'):GH w S D obj W':=by
 have hm:=hg.eu h;refine⟨λb s hs=>(hg.node b s hs).move (λ_ _ h=>h) hm ?_,λb s hs hn=>?_,λb s hs=>jQb (hg.lI b s hs) h.size,hg.mT.mono h.size,hg.rS,hg.we,hg.Gk,λb hb=>?_,hg.acn h,hg.td.move hm⟩
 .rcases h.block b (hg.lI b s hs)with e|⟨s',ts,sh,g1,g2,g3,g4⟩|⟨_,⟨_,_,g⟩,_⟩
  .exact .inl e
  .rw[hs]at g1;cases g1;exact .inr ⟨g2,ts,sh,g4⟩
  .obtain⟨cs,t,hc⟩:=hg.A9 b s hs;rw[hc]at g;cases g
 rotate_right
 .obtain⟨cs,t,f,hc⟩:=hg.LR b hb;exact⟨cs,t,f,(hm b hb).2.trans hc⟩
 .obtain⟨ut,ms,ps,I,U,h3,h4,h5⟩:=hg.named b s hs hn;refine⟨ut,ms,ps,h.other hs (UQ hn) I,U,h3.move hm,?_,h5.move hm⟩;have hk:∀m∈(if s.ld=11 then((w[s.n.toNat]?).map (·.lw)).getD []else[]),m.sig.ld=7:=M45
  generalize(if s.ld=11 then((w[s.n.toNat]?).map (·.lw)).getD []else[])=l at h4 hk;clear I h3
  induction l generalizing ps with
  |nil=>cases ps with
   |nil=>trivial
   |cons _ _=>exact h4.elim
  |cons m l ih=>cases ps with
   |nil=>exact h4.elim
   |cons p ps=>exact⟨h4.1.move (λ_ _ h=>h) hm (λb s hs h7=>by obtain⟨cs,t,hc⟩:=hg.A9 b s hs;exact(h.other hs (by simp[isIf,h7]) hc).trans hc.symm) (hk m i6),ih (ps:=ps) h4.2 (λm' j9=>hk m' (by simp[j9]))⟩
def yn.move(hg:GH w S D obj W)(h:bZ X S rs r W W'){s:TS}(hv:yn S D E W b s):yn S D E W' b s:=by
 obtain⟨ms,tl,ps,e1,e2,e3,I,U,h3,h4,h5⟩:=hv;exact⟨ms,tl,ps,e1,e2,e3,h.obj U I,U,h3.move h.frz,h4.imp λm p j=>j.move (λ_ _ h=>h) (hg.eu h),h5.move h⟩
def Ok.le(h:Ok w S D obj rs K E r W)(hr:r'<=r):Ok w S D obj rs K E r' W:=⟨h.gh,h.own,λb s hs hi hj=>h.st b s hs hi M⟩
def Ok.up(h:Ok w S D obj rs K E r' W)(hf:bZ X S rs r W W')(h':Ok w S D obj rs K E r W'):Ok w S D obj rs K E r' W':=by
 refine⟨h'.gh,h'.own,λb s hs hi hj=>?_⟩;by_cases aM:2*J rs false false s<r
 .exact h'.st b s hs hi aM
 .obtain⟨ts,I,U⟩:=h.st b s hs hi hj;have he:W'.heap[b]?=W.heap[b]?:=by
   rcases hf.block b (h.gh.lI b s hs)with e|⟨s',_,_,g1,_,g3,_⟩|⟨_,⟨_,_,g⟩,_⟩
   .exact e
   .rw[hs]at g1;cases g1;omega
   .obtain⟨cs,t,hc⟩:=h.gh.A9 b s hs;rw[hc]at g;cases g
  refine⟨ts,I.move (λ_ _ h=>h) (h.gh.eu hf) he,U.imp id λ⟨sb,g1,g2⟩=>⟨sb,g1,g2.move h.gh hf⟩⟩
def Ok.frx(h:Ok w S D obj rs K E r W)(dJ:∀(n:Nat) (d:ah),w[n]?=some d->∀m∈d.lw,m.sig.ld=7)(hf:bZ X S rs 0 W W'):Ok w S D obj rs K E r W':=
 h.up hf ⟨h.gh.fr dJ hf,λb hb=>⟨jQb (h.own b hb).1 hf.size,(h.own b hb).2⟩,λ_ _ _ _ hj=>M⟩
def Ok.below(h:Ok w S D obj rs K E r W)(dJ:∀(n:Nat) (d:ah),w[n]?=some d->∀m∈d.lw,m.sig.ld=7)(hb:S5 W W'):Ok w S D obj rs K E r W':=by
 have hf:Fr S rs 0 W W':=Below.fr hb;exact h.up hf ⟨h.gh.fr dJ hf,λb hb=>⟨jQb (h.own b hb).1 hf.size,(h.own b hb).2⟩,λ_ _ _ _ hj=>M⟩
def Out.wide(h:Out E sl)(hE:∀b,E' b->E b):Out E' sl:=λad n c e hn hb=>h ad n c e hn (hE _ hb)
def Ok.drop(h:Ok w S D obj rs K E r W)(hE:∀b,E' b->E b):Ok w S D obj rs K E' r W:=
 ⟨h.gh,λb hb=>h.own b (hE b hb),λb s hs hi hj=>by
  obtain⟨ts,I,U⟩:=h.st b s hs hi hj;exact⟨ts,I,U.imp id λ⟨sb,g1,ms,tl,ps,e1,e2,e3,g2⟩=>⟨sb,g1,ms,tl,ps,λe=>e1 (hE _ e),e2.wide hE,e3.wide hE,g2⟩⟩⟩
def j0{a:Addr}(h:eE D W xs (.slice (some a) n c))(hn:n≠0):a.block<W.heap.size/\D a.block:=by
 rcases h with⟨h,a',c',e,_⟩|⟨H,b,o,c',e,h3,h4,h5,h6⟩
 .simp at e;exact absurd e.2.1 hn
 .simp at e;obtain⟨rfl, -, -⟩:=e;cases xs with
  |nil=>exact absurd rfl H
  |cons x l=>exact⟨jQs (h6 0 x rfl),h5⟩
def Ok.new(h:Ok w S D obj rs K E r W)(dJ:∀(n:Nat) (d:ah),w[n]?=some d->∀m∈d.lw,m.sig.ld=7)(hb:S5 W W')(hE:∀b,E' b->E b\/(W.heap.size<=b/\b<W'.heap.size)):Ok w S D obj rs K E' r W':=by
 have hf:Fr S rs 0 W W':=Below.fr hb;refine⟨h.gh.below dJ hb,λb he=>?_,λb s hs hi hj=>?_⟩
 .rcases hE b he with e|⟨e1,e2⟩
  .exact⟨jQb (h.own b e).1 hb.size,(h.own b e).2⟩
  .exact M153
 .obtain⟨ts,I,U⟩:=h.st b s hs hi hj;refine⟨ts,I.move (λ_ _ h=>h) (h.gh.eu hf) (hb.block b (h.gh.lI b s hs)),U.imp id λ⟨sb,g1,g2⟩=>⟨sb,g1,?_⟩⟩;have g3:=g2.move h.gh hf;obtain⟨ms,tl,ps,e1,e2,e3,k1,k2,k3,k4,k5⟩:=g2;obtain⟨xX,tl',wO, -, -, -,Nx,Z5q,k3',k4',k5'⟩:=g3;have hk:=(hb.block sb (jQ2 k1)).trans k1;rw[Nx]at hk;simp at hk;obtain⟨rfl,rfl⟩:=hk;have ho:∀{b:Nat},b<W.heap.size->¬E b->¬E' b:=λhl hn he=>(hE _ he).elim hn λh=>M
  exact M116
structure iN(E1:Qx)(W W':World):Prop where
 os:W'.os=W.os
 tape:W'.tape=W.tape
 output:W'.output=W.output
 size:W.heap.size<=W'.heap.size
 block:∀b,b<W.heap.size->¬E1 b->W'.heap[b]?=W.heap[b]?
 nt:∀b,E1 b->∀cs t f,W.heap[b]?=some (.cells cs t f)->t≠158/\t≠237
def TmV.ng(h:iN E1 W W'){x:Option Tm}(hv:TmV S W x p):TmV S W' x p:=by
 unfold TmV at hv⊢;cases x with
 |none=>exact hv
 |some tm=>
  obtain⟨b,v,ty,I,U,h3,h5,h4⟩:=hv;exact⟨b,v,ty,I,U,(h.block b (jQ2 h3) (λe=>by have:=h.nt b e _ _ _ h3;rcases h5 with g|g<;>simp[g]at this)).trans h3,h5,h4⟩
def eE.ng(h:iN E1 W W')(hr:eE (Rn S W) W xs sl)(ho:Out E1 sl):eE (Rn S W') W' xs sl:=by
 obtain hr|⟨I,b,o,c,rfl,h3,h4,⟨h5,cs,t,f,h6⟩,h7⟩:=hr
 .exact .inl hr
 .have hn:=ho _ _ _ rfl (by cases xs with|nil=>exact absurd rfl I|cons x l=>simp);have hb:=h.block b (jQ2 h6) hn;exact .inr ⟨I,b,o,c,rfl,h3,h4,⟨h5,cs,t,f,hb.trans h6⟩,λhp u hu=>(jQi (w:=W) hb).trans (h7 hp u hu)⟩
def eE.Mo(h:iN E1 W W')(hr:eE (Qq S W) W xs sl)(ho:Out E1 sl):eE (Qq S W') W' xs sl:=by
 obtain hr|⟨I,b,o,c,rfl,h3,h4,⟨h5,cs,f,h6⟩,h7⟩:=hr
 .exact .inl hr
 .have hn:=ho _ _ _ rfl (by cases xs with|nil=>exact absurd rfl I|cons x l=>simp);have hb:=h.block b (jQ2 h6) hn;exact .inr ⟨I,b,o,c,rfl,h3,h4,⟨h5,cs,f,hb.trans h6⟩,λhp u hu=>(jQi (w:=W) hb).trans (h7 hp u hu)⟩
def lS.ng(h:iN E1 W W')(hr:lS S W l sl)(ho:Out E1 sl):lS S W' l sl:=by
 obtain⟨ps,I,U⟩:=hr;exact⟨ps,I.Mo h ho,U.imp λ_ _ j=>j.ng h⟩
def lS.Mo(h:iN E1 W W')(hr:lS S W l sl)(hE:∀b,E1 b->∀cs f,W.heap[b]?≠some (.cells cs 156 f)):lS S W' l sl:=by
 refine hr.ng h λad n c e hn hb=>?_;obtain⟨ps,I,U⟩:=hr;subst e;obtain⟨-, -,cs,f,hc⟩:=j0 I hn;exact hE _ hb cs f hc
def Ok.step(h:Ok w S D obj rs K E r W)(dJ:∀(n:Nat) (d:ah),w[n]?=some d->∀m∈d.lw,m.sig.ld=7)(j:iN E1 W W')(hE:∀b,E1 b->E b)(hE':∀b,E' b->E b\/(W.heap.size<=b/\b<W'.heap.size)):Ok w S D obj rs K E' r W':=by
 have hS:∀b s,S b=some s->W'.heap[b]?=W.heap[b]?:=λb s hs=>j.block b (h.gh.lI b s hs) λe=>by have:=(h.own b (hE b e)).2.2;rw[hs]at this;cases this
 have hD:∀b,D b->W'.heap[b]?=W.heap[b]?:=λb hd=>j.block b (h.gh.mT b hd) λe=>(h.own b (hE b e)).2.1 hd;have ho:∀{b:Nat},b<W.heap.size->¬E b->¬E' b:=λhl hn he=>(hE' _ he).elim hn λh=>M
 refine⟨h.gh.cR dJ j.size hS hD,λb he=>?_,λb s hs hi hj=>?_⟩
 .rcases hE' b he with e|⟨e1,e2⟩
  .exact⟨jQb (h.own b e).1 j.size,(h.own b e).2⟩
  .exact M153
 obtain⟨ts,I,U⟩:=h.st b s hs hi hj;have hm:au D D W W':=λb hb=>⟨hb,hD b hb⟩;refine⟨ts,I.move (λ_ _ h=>h) hm (hS b s hs),U.imp id λ⟨sb,g1,ms,tl,ps,e1,e2,e3,k1,k2,k3,k4,k5⟩=>⟨sb,g1,ms,tl,ps,ho (jQ2 k1) e1,λad n c e hn=>?_,λad n c e hn=>?_,?_,k2,?_,?_,?_⟩⟩
 .exact M149
 .exact M74
 .exact(j.block sb (jQ2 k1) λe=>e1 (hE _ e)).trans k1
 .exact k3.ng j (e2.wide hE)
 .exact k4.imp λm p hv=>hv.move (λ_ _ h=>h) hm
 .exact k5.ng j (e3.wide hE)
def Ok.ng(h:Ok w S D obj rs K E r W)(dJ:∀(n:Nat) (d:ah),w[n]?=some d->∀m∈d.lw,m.sig.ld=7)(j:iN E1 W W')(hE:∀b,E1 b->E b):Ok w S D obj rs K E r W':=
 h.step dJ j hE λ_ h=>.inl h
def iN.put{cs:Array Value}{t:TypeId}(j:kT B cs t W W')(hc:∀Ek t' f,W.heap[B]?=some (.cells Ek t' f)->t'≠158/\t'≠237):iN (λb=>b=B) W W':=
 ⟨j.os,j.tape,j.output,jQz j.size.symm,λb _ hn=>j.other b hn,λb hb cs t f h=>by subst hb;exact hc cs t f h⟩
def bZ.ng(h:bZ X S rs r W0 W)(j:iN E1 W W')(I:∀b,E1 b->W0.heap.size<=b):bZ X S rs r W0 W':=by
 refine⟨j.os.trans h.os,j.tape.trans h.tape,j.output.trans h.output,jQd h.size j.size,λb hb=>?_⟩;have e:=j.block b (jQb hb h.size) λe=>by have:=I b e;omega
 rcases h.block b hb with e'|⟨s,ts,sh,g1,g2,g3,c0,c1,c2,c3,c4,c5,g4,g5⟩|⟨y1,⟨es,ck,y2⟩,⟨GA,YX,y3⟩⟩
 .exact .inl (e.trans e')
 .exact .inr (.inl ⟨s,ts,sh,g1,g2,g3,c0,c1,c2,c3,c4,c5,g4,e.trans g5⟩)
 .exact .inr (.inr ⟨y1,⟨es,ck,y2⟩,⟨GA,YX,e.trans y3⟩⟩)
def iN.grown(hg:W.grownBy W' v.ownBlock)(ho:W.ownsRow base e size v n xs)(I:e≠158)(U:e≠237):iN (λb=>v.ownBlock=some b) W W':=by
 refine⟨hg.os,hg.tape,hg.output,hg.size,λb hb hn=>hg.block b hb λe=>hn e.symm,λb hb cs t f hc=>?_⟩;rcases ho.2 with⟨rfl,_⟩|⟨g,cap,cur,rfl,k1,k2,k3⟩
 .simp[Value.ownBlock]at hb
 .simp[Value.ownBlock]at hb;subst hb;rw[k2]at hc;simp at hc;obtain⟨-,rfl, -⟩:=hc;exact⟨I,U⟩
def Mp(h:bZ X S rs r W W')(ho:W.ownsRow base e size v n xs)(hs:∀g,v.ownBlock=some g->S g=none):W'.ownsRow base e size v n xs:=by
 refine⟨ho.1,ho.2.imp id λ⟨g,cap,cur,e1,k1,k2,k3⟩=>?_⟩;subst e1;exact⟨g,cap,cur,rfl,k1,h.obj (hs g rfl) k2,k3⟩
def JZ(h:iN E1 W W')(ho:W.ownsRow base e size v n xs)(hs:∀g,v.ownBlock=some g->¬E1 g):W'.ownsRow base e size v n xs:=by
 refine⟨ho.1,ho.2.imp id λ⟨g,cap,cur,e1,k1,k2,k3⟩=>?_⟩;subst e1;exact⟨g,cap,cur,rfl,k1,(h.block g (jQ2 k2) (hs g rfl)).trans k2,k3⟩
def lC(X:Qx)(w:List ah)(S:Sg)(D:Qx)(obj:Nat->Nat)(rs:List Nat)(K:Nat)(E:Qx)(r:Nat)(W:World)(P:Value->World->Prop)(e:Ending)(W':World):Prop:=
 ∃v,e=.returned v/\P v W'/\Ok w S D obj rs K E r W'/\bZ X S rs r W W'
abbrev aV(w:List ah)(S:Sg)(D:Qx)(obj:Nat->Nat)(rs:List Nat)(K:Nat)(E:Qx)(r:Nat)(W:World)(P:Value->World->Prop)(e:Ending)(W':World):Prop:=lC Wc w S D obj rs K E r W P e W'
end
structure Env(NS:List ByteArray)(Q:Y->Prop)(w:List ah)(rs cs:List Nat):Prop where
 qp:QP NS Q
 wk:WK NS Q w rs cs
 te:QTe w Q
 cn:∀t,Q t->t.ld=10->bP cs t<=50
 nsl:NS.length<=1099511627776
def Env.hs(h:Env NS Q w rs cs):∀(n:Nat) (d:ah),w[n]?=some d->∀m∈d.lw,m.sig.ld=7:=λn d hd m hm=>(h.wk.sig n d hd m hm).1
section
variable(NS:List ByteArray)(Q:Y->Prop)(w:List ah)(S:Sg)(D:Qx)(obj:Nat->Nat)(rs:List Nat)(K r:Nat)
def cO:Prop:=∀(E:Qx) (W:World) (u v:Value) (x y:Y),Ok w S D obj rs K E r W->dq S u x->dq S v y->PT NS Q w 0 x->PT NS Q w 0 y->2*J rs false false x+1<r->2*J rs false false y+1<r->
 Calls prog 83 #[u,v] W (aV w S D obj rs K E r W λv _=>v=.bool ((fs w K).id x y))
end
section
variable{obj:Nat->Nat}
abbrev FF(w:List ah)(K:Nat):Y->Y->Bool:=(fs w K).id
def _root_.Go.Proofs.YtbdgppghkdibfaaGreatDoor.P.jH.rk(hE:Env NS Q w rs cs){a:Y}(h:jH NS Q w rs B a)(hB:2*B<=r):2*J rs false false a+1<r/\2*J rs false false (az w a)+1<r/\PT NS Q w 0 (az w a):=by
 have ja:=dM (rs:=rs) (v:=true) (f:=true) (v':=false) (f':=false) i6 i6 a;have ua:=(jh hE.wk hE.qp h.1).1;have:=h.2.1;exact⟨M,M,fE hE.wk hE.qp h.1 h.2.2⟩
def mJ(hE:Env NS Q w rs cs)(hI:cO NS Q w S D obj rs K r)(hB:2*B<=r)(bD:Ok w S D obj rs K E r W){x y:Tm}{a b:Y}(ha:x.jg=some a)(hb:y.jg=some b)(j:TmV S W (some x) p)(hq:TmV S W (some y) q)(fQ:jH NS Q w rs B a)(lv:jH NS Q w rs B b):
 Calls prog 217 #[p,q] W (aV w S D obj rs K E r W λv _=>v=.bool (l6 (FF w K) w a b x.dO y.dO)):=by
 obtain⟨b1,v1,ty1,rfl,s1,I, -,U⟩:=j;obtain⟨b2,v2,ty2,rfl,s2,h3, -,h4⟩:=hq;simp only[ha]at U;simp only[hb]at h4;have u1:=bj hE.qp bD.gh U (.inl ⟨0,fQ.1⟩);have u2:=bj hE.qp bD.gh h4 (.inl ⟨0,lv.1⟩);obtain⟨r1,r2,r3⟩:=fQ.rk hE hB;obtain⟨k1,k2,k3⟩:=lv.rk hE hB;have acL:l6 (FF w K) w a b x.dO y.dO=!(fs w K).id (if y.dO then az w a else a) (if x.dO then az w b else b):=rfl;obtain⟨tx,ax⟩:=x;obtain⟨ty,bx⟩:=y;simp only at I h3 acL;have c1:=G7 0 I
 have c2:=G7 1 I
 have c3:=G7 0 h3
 have c4:=G7 1 h3
 have ag:∀u v x' y',dq S u x'->dq S v y'->x'=(if ty then az w a else a)->y'=(if tx then az w b else b)->Calls prog 83 #[u,v] W (aV w S D obj rs K E r W λv _=>v=.bool ((fs w K).id (if ty then az w a else a) (if tx then az w b else b))):=by
  intro u v x' y' hu hv ex ey;subst ex;subst ey;refine hI E W u v _ _ bD hu hv ?_ ?_ ?_ ?_
  .cases ty<;>first|exact fQ.1|exact r3
  .cases tx<;>first|exact lv.1|exact k3
  .cases ty<;>first|exact r1|exact r2
  .cases tx<;>first|exact k1|exact k2
 obtain⟨T1,f1,b3,rfl,⟨jd,Fc⟩,lk⟩:=u1;obtain⟨T2,f2,b4,rfl,⟨kS,Qi⟩,fL⟩:=u2;obtain⟨HC,Oh,Hz,H2,H4⟩:=Z5 ag lk fL U h4;rw[acL];clear ag lk fL r1 r2 r3 k1 k2 k3 fQ lv ha hb U h4 hI hE hB bD I h3 s1 s2 acL;generalize(fs w K).id (if ty then az w a else a) (if tx then az w b else b)=res at HC⊢;go_in;cases ty<;>cases tx
 .go_wp21;refine(HC.1 _ _ _ _ H2.1 H4.1 rfl rfl).mono ?_;exact M94
 .go_wp21;refine Hz.1.mono ?_;rintro e O ⟨v',rfl,zw,rfl⟩;obtain⟨bv',rfl, -⟩:=id zw;go_wp21;refine(HC.1 _ _ _ _ H2.1 zw rfl rfl).mono ?_;exact M94
 .go_wp21;refine Oh.1.mono ?_;rintro e O ⟨v',rfl,zw,rfl⟩;obtain⟨bv',rfl, -⟩:=id zw;go_wp21;refine(HC.1 _ _ _ _ zw H4.1 rfl rfl).mono ?_;exact M94
 .go_wp21;refine Oh.1.mono ?_;rintro e O ⟨v',rfl,zw,rfl⟩;obtain⟨bv',rfl, -⟩:=id zw;go_wp21;refine Hz.1.mono ?_;rintro e O ⟨v'',rfl,afS,rfl⟩;obtain⟨bv'',rfl, -⟩:=id afS;go_wp21;refine(HC.1 _ _ _ _ zw afS rfl rfl).mono ?_;exact M94
def TmV.open{x:Tm}(h:TmV S W (some x) p):∃b v,p=ptr b/\S b=none/\W.cell? ⟨b,0,none⟩=some (.bool x.dO)/\W.cell? ⟨b,1,none⟩=some v/\(x.jg=none->v=.nilIface)/\(∀a,x.jg=some a->∃T c,v=.iface T (ptr c)/\dq S v a):=by
 obtain⟨b,v,ty,I,U,h3, -,h4⟩:=h;refine⟨b,v,I,U,by simp[World.cell?,h3],by simp[World.cell?,h3],λh=>?_,λa ha=>?_⟩
 .rw[h]at h4;exact h4
 .rw[ha]at h4;obtain⟨c,rfl,hc⟩:=h4;exact⟨_,c,rfl,c,rfl,hc⟩
def J6{id:Y->Y->Bool}{x y:Tm}{a b:Y}(H:x.jg=some a)(hy:y.jg=some b):unionT id w x y=if l6 id w a b x.dO y.dO then(x,some y)else if x.dO||!y.dO then(x,none)else(y,none):=by
 unfold unionT;simp[H,hy]
def GV(hE:Env NS Q w rs cs)(hI:cO NS Q w S D obj rs K r)(hB:2*B<=r)(bD:Ok w S D obj rs K E r W){x y:Tm}(j:TmV S W (some x) p)(hq:TmV S W (some y) q)(fQ:TT (jH NS Q w rs B) x)(lv:TT (jH NS Q w rs B) y):
 Calls prog 216 #[p,q] W (aV w S D obj rs K E r W λv W'=>∃u1 u2,v=.tuple #[u1,u2]/\TmV S W' (some (unionT (FF w K) w x y).1) u1/\TmV S W' (unionT (FF w K) w x y).2 u2):=by
 obtain⟨b1,v1,rfl,s1,c1,c2,n1,y1⟩:=j.open;obtain⟨b2,v2,rfl,s2,c3,c4,n2,y2⟩:=hq.open;cases H:x.jg with
 |none=>
  cases n1 H;have hu:unionT (FF w K) w x y=(x,none):=by unfold unionT;rw[H]
  rw[hu];have HP:=Z j;have HO:=Z bD;clear j hq fQ lv n1 y1 n2 y2 hu hE hI hB bD H c1 c3 s1 s2;go_in;go_wp21;refine jRc (v:=.tuple #[ptr b1,.pointer none]) (by simp[results,Tryz.results216,go_sem]) rfl ?_;exact⟨_,rfl,⟨_,_,rfl,HP.1,rfl⟩,HO.1,Fr.refl _⟩
 |some a=>
  obtain⟨T1,d1,rfl, -⟩:=y1 a H;cases hy:y.jg with
  |none=>
   cases n2 hy;have hu:unionT (FF w K) w x y=(y,none):=by unfold unionT;simp[H,hy]
   rw[hu];have HP:=Z hq;have HO:=Z bD;clear j hq fQ lv n1 y1 n2 y2 hu hE hI hB bD H hy c1 c3 s1 s2;go_in;go_wp21;refine jRc (v:=.tuple #[ptr b2,.pointer none]) (by simp[results,Tryz.results216,go_sem]) rfl ?_;exact⟨_,rfl,⟨_,_,rfl,HP.1,rfl⟩,HO.1,Fr.refl _⟩
  |some b=>
   obtain⟨T2,d2,rfl, -⟩:=y2 b hy;have ag:=mJ hE hI hB bD H hy j hq (fQ a H) (lv b hy);rw[J6 H hy];obtain⟨HP,HQ,S1,S2⟩:=Z4 j hq s1 s2;clear j hq fQ lv n1 y1 n2 y2 hE hI hB bD s1 s2;generalize l6 (FF w K) w a b x.dO y.dO=dj at ag⊢;go_in;go_wp21;refine ag.mono ?_;rintro e O ⟨v,rfl,rfl,g1,g2⟩;replace c1:=g2.cell S1.1 c1;replace c3:=g2.cell S2.1 c3;obtain⟨HP',HQ',HO,HF⟩:=Z4 (HP.1.move g2) (HQ.1.move g2) g1 g2;clear g1 g2 c2 c4 H hy;obtain⟨tx,ax⟩:=x;obtain⟨ty,ay⟩:=y;simp only at c1 c3 HP' HQ'⊢;cases dj
   .cases tx<;>cases ty
    .exact M63
    .go_wp21;refine jRc (v:=.tuple #[ptr b2,.pointer none]) (by simp[results,Tryz.results216,go_sem]) rfl ?_;exact⟨_,rfl,⟨_,_,rfl,HQ'.1,rfl⟩,HO.1,HF.1⟩
    .exact M63
    .exact M63
   .go_wp21;refine jRc (v:=.tuple #[ptr b1,ptr b2]) (by simp[results,Tryz.results216,go_sem]) rfl ?_;exact⟨_,rfl,⟨_,_,rfl,HP'.1,HQ'.1⟩,HO.1,HF.1⟩
def J7{id:Y->Y->Bool}{x y:Tm}{a b:Y}(H:x.jg=some a)(hy:y.jg=some b):interT id w (some x) (some y)=if l6 id w a b x.dO y.dO then none else if !x.dO||y.dO then some x else some y:=by
 unfold interT;simp[H,hy]
def GJ(hE:Env NS Q w rs cs)(hI:cO NS Q w S D obj rs K r)(hB:2*B<=r)(bD:Ok w S D obj rs K E r W){x:Option Tm}(j:TmV S W x p)(hq:TmV S W y q)(fQ:TO (jH NS Q w rs B) x)(lv:TO (jH NS Q w rs B) y):
 Calls prog 186 #[p,q] W (aV w S D obj rs K E r W λv W'=>TmV S W' (interT (FF w K) w x y) v):=by
 have HO:=Z bD;cases x with
 |none=>
  cases j;clear hq fQ lv hE hI hB bD;have hu:interT (FF w K) w none y=none:=by unfold interT;rfl
  exact M204
 |some x=>
 obtain⟨b1,v1,rfl,s1,c1,c2,n1,y1⟩:=j.open;cases y with
 |none=>
  cases hq;clear j fQ lv hE hI hB bD n1 y1 s1;have hu:interT (FF w K) w (some x) none=none:=by unfold interT;rfl
  exact M204
 |some y=>
 obtain⟨b2,v2,rfl,s2,c3,c4,n2,y2⟩:=hq.open;cases H:x.jg with
 |none=>
  cases n1 H;have hu:interT (FF w K) w (some x) (some y)=some y:=by unfold interT;simp[H]
  rw[hu];have HP:=Z hq;clear j hq fQ lv n1 y1 n2 y2 hu hE hI hB bD H c1 c3 s1 s2;go_in;go_wp2;go_ret;exact⟨_,rfl,HP.1,HO.1,Fr.refl _⟩
 |some a=>
  obtain⟨T1,d1,rfl, -⟩:=y1 a H;cases hy:y.jg with
  |none=>
   cases n2 hy;have hu:interT (FF w K) w (some x) (some y)=some x:=by unfold interT;simp[H,hy]
   rw[hu];have HP:=Z j;clear j hq fQ lv n1 y1 n2 y2 hu hE hI hB bD H hy c1 c3 s1 s2;go_in;go_wp2;go_ret;exact⟨_,rfl,HP.1,HO.1,Fr.refl _⟩
  |some b=>
   obtain⟨T2,d2,rfl, -⟩:=y2 b hy;have ag:=mJ hE hI hB bD H hy j hq (fQ x rfl a H) (lv y rfl b hy);rw[J7 H hy];obtain⟨HP,HQ,S1,S2⟩:=Z4 j hq s1 s2;clear j hq fQ lv n1 y1 n2 y2 hE hI hB bD s1 s2 HO;generalize l6 (FF w K) w a b x.dO y.dO=dj at ag⊢;go_in;go_wp21;refine ag.mono ?_;rintro e O ⟨v,rfl,rfl,g1,g2⟩;replace c1:=g2.cell S1.1 c1;replace c3:=g2.cell S2.1 c3;obtain⟨HP',HQ',HO,HF⟩:=Z4 (HP.1.move g2) (HQ.1.move g2) g1 g2;clear g1 g2 c2 c4 H hy;obtain⟨tx,ax⟩:=x;obtain⟨ty,ay⟩:=y;simp only at c1 c3 HP' HQ'⊢;cases dj
   .cases tx<;>cases ty
    all_goals
     go_wp2;go_ret
     first|exact⟨_,rfl,HP'.1,HO.1,HF.1⟩|exact⟨_,rfl,HQ'.1,HO.1,HF.1⟩
   .go_wp2;go_ret;exact⟨_,rfl,rfl,HO.1,HF.1⟩
def QH{id:Y->Y->Bool}{x y:Tm}{a b:Y}(H:x.jg=some a)(hy:y.jg=some b):subT id w (some x) (some y)=if l6 id w a b x.dO y.dO then false else !x.dO||y.dO:=by
 unfold subT;simp[H,hy]
def Lg(hE:Env NS Q w rs cs)(hI:cO NS Q w S D obj rs K r)(hB:2*B<=r)(bD:Ok w S D obj rs K E r W){x:Option Tm}(j:TmV S W x p)(hq:TmV S W y q)(fQ:TO (jH NS Q w rs B) x)(lv:TO (jH NS Q w rs B) y):
 Calls prog 213 #[p,q] W (aV w S D obj rs K E r W λv W'=>v=.bool (subT (FF w K) w x y)):=by
 have HO:=Z bD;cases x with
 |none=>
  cases j;clear hq fQ lv hE hI hB bD;have hu:subT (FF w K) w none y=true:=by unfold subT;rfl
  exact M204
 |some x=>
 obtain⟨b1,v1,rfl,s1,c1,c2,n1,y1⟩:=j.open;cases y with
 |none=>
  cases hq;clear j fQ lv hE hI hB bD n1 y1 s1;have hu:subT (FF w K) w (some x) none=false:=by unfold subT;rfl
  exact M204
 |some y=>
 obtain⟨b2,v2,rfl,s2,c3,c4,n2,y2⟩:=hq.open;cases hy:y.jg with
 |none=>
  cases n2 hy;have hu:subT (FF w K) w (some x) (some y)=true:=by unfold subT;simp[hy]
  rw[hu];clear j hq fQ lv n1 y1 n2 y2 hu hE hI hB bD hy c1 c3 s1 s2;go_in;exact M80
 |some b=>
  obtain⟨T2,d2,rfl, -⟩:=y2 b hy;cases H:x.jg with
  |none=>
   cases n1 H;have hu:subT (FF w K) w (some x) (some y)=false:=by unfold subT;simp[H,hy]
   rw[hu];clear j hq fQ lv n1 y1 n2 y2 hu hE hI hB bD H hy c1 c3 s1 s2;go_in;exact M80
  |some a=>
   obtain⟨T1,d1,rfl, -⟩:=y1 a H;have ag:=mJ hE hI hB bD H hy j hq (fQ x rfl a H) (lv y rfl b hy);rw[QH H hy];have S1:=Z s1;have S2:=Z s2;clear j hq fQ lv n1 y1 n2 y2 hE hI hB bD s1 s2 HO;generalize l6 (FF w K) w a b x.dO y.dO=dj at ag⊢;go_in;go_wp21;refine ag.mono ?_;rintro e O ⟨v,rfl,rfl,g1,g2⟩;replace c1:=g2.cell S1.1 c1;replace c3:=g2.cell S2.1 c3;have HO:=Z g1;have HF:=Z g2;clear g1 g2 c2 c4 H hy;obtain⟨tx,ax⟩:=x;obtain⟨ty,ay⟩:=y;simp only at c1 c3⊢;cases dj
   .cases tx<;>cases ty
    all_goals
     go_wp2;go_ret;exact⟨_,rfl,rfl,HO.1,HF.1⟩
   .go_wp2;go_ret;exact⟨_,rfl,rfl,HO.1,HF.1⟩
end
section
variable{obj:Nat->Nat}
def eE.nth(h:eE D W xs (.slice a n c))(H:xs[kk]?=some p):∃b o,a=some ⟨b,o,none⟩/\D b/\W.cell? ⟨b,o+kk,none⟩=some p:=by
 rcases h with⟨rfl,_⟩|⟨I,b,o,c',e,h3,h4,h5,h6⟩
 .simp at H
 .simp at e;exact⟨b,o,e.1,h5,h6 kk p H⟩
def eE.max(h:eE D W xs sl):xs.length<=9223372036854775807:=by
 rcases h with⟨rfl,_⟩|⟨I,b,o,c',e,h3,h4,h5,h6⟩
 .simp
 .omega
def lS.nth{x:Option Tm}(h:lS S W l (.slice a n c))(H:l[kk]?=some x):∃b o p,a=some ⟨b,o,none⟩/\S b=none/\W.cell? ⟨b,o+kk,none⟩=some p/\TmV S W x p:=by
 obtain⟨ps,I,U⟩:=h;obtain⟨p,j,ht⟩:=U.at H;obtain⟨b,o,e,hd,hc⟩:=I.nth j;exact⟨b,o,p,e,hd.1,hc,ht⟩
def lS.max(h:lS S W l sl):l.length<=9223372036854775807:=by
 obtain⟨ps,I,U⟩:=h;rw[U.len];exact I.max
def cZ{l:List α}{x:α}(h:l[kk]?=some x):l.drop kk=x::l.drop (kk+1):=by
 obtain⟨aM,e⟩:=jQg.1 h;rw[jQv aM,e]
def Dh(x:Option Tm)(l:List (Option Tm)):aK (x::l)=(x.isNone&&aK l):=by
 unfold aK;cases x<;>simp
def gI(hl:lS S W l sl):Calls prog 127 #[sl] W (dL W (.bool (aK l))):=by
 obtain⟨a,c,rfl⟩:=hl.form;have rO:=hl.max;have HL:=Z hl;clear hl;go_in;go_wp21
 go_loopg [4,7] l.length (λgg _ s7 wr=>∃kk:Nat,kk<=l.length/\l.length - kk<=gg/\s7=.int .i64 kk/\wr=W/\Aside (aK (l.drop kk)=aK l))
 case atStart=>exact⟨0,jQc _,M,rfl,rfl,by simp[Aside]⟩
 case round=>
  obtain⟨kk,ez,hg,rfl,rfl,A⟩:=hrel;by_cases aM:kk<l.length
  .have aR:(kk:Int)<(l.length:Int):=M
   obtain⟨x,H⟩:∃x,l[kk]?=some x:=⟨l[kk],by simp[aM]⟩;obtain⟨b,o,p,rfl,hs,hc,ht⟩:=HL.1.nth H;have hA:=A.out;rw[cZ H,Dh]at hA;cases x with
   |none=>
    cases ht;have HA:=Z (show aK (l.drop (kk+1))=aK l by rw[<-hA];simp);clear hA H;exact M78
   |some x=>
    obtain⟨b1,v1,rfl,_⟩:=ht.open;have HA:=Z (show aK l=false by rw[<-hA];rfl);clear hA H ht;exact M158
  .have aR:¬(kk:Int)<(l.length:Int):=M
   have hA:=A.out;rw[jQf M]at hA;have HA:=Z (show aK l=true by rw[<-hA];rfl);clear hA;exact M158
def fI(hl:lS S W l sl):Calls prog 133 #[sl] W (dL W (.bool (isAllL l))):=by
 obtain⟨a,c,rfl⟩:=hl.form;have rO:=hl.max;have HL:=Z hl;clear hl;go_in;go_wp21
 go_loopg [4,7] l.length (λgg _ s7 wr=>∃kk:Nat,kk<=l.length/\l.length - kk<=gg/\s7=.int .i64 kk/\wr=W/\Aside (isAllL (l.drop kk)=isAllL l))
 case atStart=>exact⟨0,jQc _,M,rfl,rfl,by simp[Aside]⟩
 case round=>
  obtain⟨kk,ez,hg,rfl,rfl,A⟩:=hrel;by_cases aM:kk<l.length
  .have aR:(kk:Int)<(l.length:Int):=M
   obtain⟨x,H⟩:∃x,l[kk]?=some x:=⟨l[kk],by simp[aM]⟩;obtain⟨b,o,p,rfl,hs,hc,ht⟩:=HL.1.nth H;have hA:=A.out;rw[cZ H,fg]at hA;cases x with
   |none=>
    cases ht;have HA:=Z (show isAllL (l.drop (kk+1))=isAllL l by rw[<-hA];simp);clear hA H;exact M78
   |some x=>
    obtain⟨b1,v1,rfl,s1,c1,c2,n1,y1⟩:=ht.open;cases CN:x.jg with
    |none=>
     cases n1 CN;have HA:=Z (show isAllL l=true by rw[<-hA];simp[CN]);clear hA H ht CN n1 y1;exact M158
    |some q=>
     obtain⟨T,c3,rfl,_⟩:=y1 q CN;have HA:=Z (show isAllL (l.drop (kk+1))=isAllL l by rw[<-hA];simp[CN]);clear hA H ht CN n1 y1;exact M78
  .have aR:¬(kk:Int)<(l.length:Int):=M
   have hA:=A.out;rw[jQf M]at hA;have HA:=Z (show isAllL l=false by rw[<-hA];rfl);clear hA;exact M158
def _root_.Go.Proofs.YtbdgppghkdibfaaGreatDoor.P.TL.nth{x:Option Tm}(h:TL T l)(H:l[kk]?=some x):TO T x:=h x (jQ8 H)
def xp(hE:Env NS Q w rs cs)(hI:cO NS Q w S D obj rs K r)(hB:2*B<=r)(bD:Ok w S D obj rs K E r W)(hl:lS S W l sl)(hq:TmV S W y q)(fQ:TL (jH NS Q w rs B) l)(lv:TO (jH NS Q w rs B) y):
 Calls prog 177 #[sl,q] W (aV w S D obj rs K E r W λv _=>v=.bool (tD (FF w K) w l y)):=by
 obtain⟨a,c,rfl⟩:=hl.form;have rO:=hl.max;obtain⟨HL,HO,HQ⟩:=Z3 hl bD hq;clear hl bD hq;go_in;go_wp21
 go_loopg [6,9] l.length (λgg _ s9 wr=>∃kk:Nat,kk<=l.length/\l.length - kk<=gg/\s9=.int .i64 kk/\Aside (Ok w S D obj rs K E r wr)/\Aside (Fr S rs r W wr)/\Aside (tD (FF w K) w (l.drop kk) y=tD (FF w K) w l y))
 case atStart=>exact⟨0,jQc _,M,rfl,HO.1,Fr.refl _,by simp[Aside]⟩
 case round=>
  obtain⟨kk,ez,hg,rfl,w',F,A⟩:=hrel;by_cases aM:kk<l.length
  .have aR:(kk:Int)<(l.length:Int):=M
   obtain⟨x,H⟩:∃x,l[kk]?=some x:=⟨l[kk],by simp[aM]⟩;obtain⟨b,o,p,rfl,hs,hc,ht⟩:=(HL.1.move F.out).nth H;have hA:=A.out;rw[cZ H]at hA;have hA:(subT (FF w K) w y x||tD (FF w K) w (l.drop (kk+1)) y)=tD (FF w K) w l y:=hA;have ag:=Lg hE hI hB w'.out (HQ.1.move F.out) ht lv (fQ.nth H);generalize rN:subT (FF w K) w y x=sb at ag hA;have HA:=Z hA;clear hA H ht rN;go_wp21;refine ag.mono ?_;rintro e O ⟨v,rfl,rfl,g1,g2⟩;have sr:=Z g1;have rR:=Z (F.out.trans g2);clear g1 g2 ag;cases sb
   .go_wp21;go_roundg (l.length - (kk+1))
    case measure=>omega
    case rel=>exact⟨kk+1,M,M,by go_num,sr.1,rR.1,by have:=HA.1;rw[Bool.false_or]at this;exact this⟩
   .go_wp2;go_ret;exact⟨_,rfl,by rw[<-HA.1];rfl,sr.1,rR.1⟩
  .have aR:¬(kk:Int)<(l.length:Int):=M
   have hA:=A.out;rw[jQf M]at hA;have HA:=Z (show false=tD (FF w K) w l y from hA);exact M208
def XD{id:Y->Y->Bool}(h:aK yl=false):nJ id w xl yl=xl.all λx=>tD id w yl x:=by unfold nJ;rw[h];rfl
def tE(hE:Env NS Q w rs cs)(hI:cO NS Q w S D obj rs K r)(hB:2*B<=r)(bD:Ok w S D obj rs K E r W)(hl:lS S W l sl)(hm:lS S W m sm)(fQ:TL (jH NS Q w rs B) l)(lv:TL (jH NS Q w rs B) m):
 Calls prog 134 #[sl,sm] W (aV w S D obj rs K E r W λv _=>v=.bool (nJ (FF w K) w l m)):=by
 obtain⟨a,c,rfl⟩:=hl.form;obtain⟨a2,c2,rfl⟩:=hm.form;have rO:=hl.max;have aF:=gI hm;have aD:=gI hl;obtain⟨HL,HM,HO⟩:=Z3 hl hm bD;clear hl bD hm;cases he:aK m with
 |true=>
  have hs:nJ (FF w K) w l m=aK l:=by unfold nJ;rw[he];rfl
  rw[hs];rw[he]at aF;clear hs he hE hI hB fQ lv;go_in;go_wp21;refine aF.mono ?_;rintro e O ⟨rfl,rfl⟩;go_wp21;refine aD.mono ?_;rintro e O ⟨rfl,rfl⟩;exact M80
 |false=>
  rw[XD he];rw[he]at aF;clear aD he;go_in;go_wp21;refine rv aF ?_;clear aF;go_wp21
  go_loopg [6,13] l.length (λgg _ s13 wr=>∃kk:Nat,kk<=l.length/\l.length - kk<=gg/\s13=.int .i64 kk/\Aside (Ok w S D obj rs K E r wr)/\Aside (Fr S rs r W wr)/\Aside (((l.drop kk).all λx=>tD (FF w K) w m x)=l.all λx=>tD (FF w K) w m x))
  case atStart=>exact⟨0,jQc _,M,rfl,HO.1,Fr.refl _,by simp[Aside]⟩
  case round=>
   obtain⟨kk,ez,hg,rfl,w',F,A⟩:=hrel;by_cases aM:kk<l.length
   .have aR:(kk:Int)<(l.length:Int):=M
    obtain⟨x,H⟩:∃x,l[kk]?=some x:=⟨l[kk],by simp[aM]⟩;obtain⟨b,o,p,rfl,hs,hc,ht⟩:=(HL.1.move F.out).nth H;have hA:=A.out;rw[cZ H,jRl]at hA;have ag:=xp hE hI hB w'.out (HM.1.move F.out) ht lv (fQ.nth H);generalize rN:tD (FF w K) w m x=sb at ag hA;have HA:=Z hA;clear hA H ht rN;go_wp21;refine ag.mono ?_;rintro e O ⟨v,rfl,rfl,g1,g2⟩;have sr:=Z g1;have rR:=Z (F.out.trans g2);clear g1 g2 ag;cases sb
    .go_wp2;go_ret;exact⟨_,rfl,by rw[<-HA.1];rfl,sr.1,rR.1⟩
    .go_wp21;go_roundg (l.length - (kk+1))
     case measure=>omega
     case rel=>exact⟨kk+1,M,M,by go_num,sr.1,rR.1,by have:=HA.1;rw[jRn]at this;exact this⟩
   .have aR:¬(kk:Int)<(l.length:Int):=M
    have hA:=A.out;rw[jQf M]at hA;have HA:=Z hA;exact M208
def O9(hE:Env NS Q w rs cs)(hI:cO NS Q w S D obj rs K r)(hB:2*B<=r)(bD:Ok w S D obj rs K E r W)(hl:lS S W l sl)(hm:lS S W m sm)(fQ:TL (jH NS Q w rs B) l)(lv:TL (jH NS Q w rs B) m):
 Calls prog 172 #[sl,sm] W (aV w S D obj rs K E r W λv _=>v=.bool (Pa (FF w K) w l m)):=by
 obtain⟨a,c,rfl⟩:=hl.form;obtain⟨a2,c2,rfl⟩:=hm.form;have ag:=tE hE hI hB bD hl hm fQ lv;have aD:=λW' (g1:Ok w S D obj rs K E r W') (g2:Fr S rs r W W')=>tE hE hI hB g1 (hm.move g2) (hl.move g2) lv fQ;have heq:Pa (FF w K) w l m=(nJ (FF w K) w l m&&nJ (FF w K) w m l):=rfl;rw[heq];generalize nJ (FF w K) w l m=s1 at ag⊢;generalize nJ (FF w K) w m l=s2 at aD⊢;have WZ:=Z aD;clear hE hI hB bD hl hm fQ lv heq aD;go_in;cases s1
 .go_wp21;refine ag.mono ?_;rintro e O ⟨v,rfl,rfl,g1,g2⟩;clear ag;go_wp2;go_ret;exact⟨_,rfl,rfl,g1,g2⟩
 .go_wp21;refine ag.mono ?_;rintro e O ⟨v,rfl,rfl,g1,g2⟩;have ag:=WZ.1 _ g1 g2;have HF:=Z g2;clear g1 g2;go_wp21;refine ag.mono ?_;rintro e w2 ⟨v,rfl,rfl,g1,g2⟩;have rR:=Z (HF.1.trans g2);have sr:=Z g1;clear ag g1 g2;go_wp2;go_ret;exact⟨_,rfl,i6,sr.1,rR.1⟩
end
