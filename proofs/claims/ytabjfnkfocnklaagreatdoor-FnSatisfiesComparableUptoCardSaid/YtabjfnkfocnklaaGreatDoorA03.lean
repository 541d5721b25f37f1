import Derived.Test.YtabjfnkfocnklaaGreatDoorA02
set_option linter.all false
set_option maxHeartbeats 16000000
set_option maxRecDepth 20000
namespace Go.Proofs.YtabjfnkfocnklaaGreatDoor
open S P
variable{d f v:Bool}{e t t' x' y':GT}{Q T:GT->Prop}{acc l m m':List (Option Tm)}{us:List Bool}{NS:List ByteArray}{cs rs:List Nat}{w:List ah}{D K N i j k kk md nw:Nat}{R:Option (Tm×List (Option Tm))}{u x y z:Tm}{α:Type}
theorem jQg:type_of% @List.getElem?_eq_some_iff:=@List.getElem?_eq_some_iff
theorem jRh:type_of% @List.cons_append:=@List.cons_append
theorem jRi:type_of% @List.take_succ_eq_append_getElem:=@List.take_succ_eq_append_getElem
namespace P
open S
def jt(t:GT):GT:=if t.kind=11 then .mk 11 t.n 0 false es es []else if t.kind=15\/t.kind=16 then .mk t.kind 0 0 false es es []else .mk t.kind t.n t.m t.va es es t.elems
theorem r8(t:GT):(jt t).kind=t.kind:=by
 unfold jt;split
 ·rename_i h;exact h.symm
 ·split<;>rfl
theorem PQ(t:GT):jt (jt t)=jt t:=by
 obtain⟨k,n,m,va,nm,tg,l⟩:=t;unfold jt;by_cases h:k=11
 ·simp[GT.kind,GT.n,h]
 ·by_cases h2:k=15\/k=16
  ·rcases h2 with rfl|rfl<;>simp[GT.kind]
  ·simp[GT.kind,h,h2,GT.n,GT.m,GT.va,GT.elems]
theorem xN(rs:List Nat)(v f:Bool)(t:GT):J rs v f (jt t)=J rs v f t:=by
 obtain⟨k,n,m,va,nm,tg,l⟩:=t;unfold jt;by_cases h:k=11
 ·simp[GT.kind,GT.n,h,bw]
 ·by_cases h2:k=15\/k=16
  ·rcases h2 with rfl|rfl<;>simp[GT.kind,bw]
  ·simp[GT.kind,h,h2,GT.n,GT.m,GT.va,GT.elems,bw]
theorem np(h:jt t=jt t'):t.kind=t'.kind/\(t.kind=11->t.n=t'.n)/\(t.kind≠11->t.kind≠15->t.kind≠16->t.n=t'.n/\t.m=t'.m/\t.va=t'.va/\t.elems=t'.elems):=by
 have hk:t.kind=t'.kind:=by rw[<-r8 t,<-r8 t',h]
 refine⟨hk,λdA=>?_,λdA ka ir=>?_⟩
 ·unfold jt at h;rw[jQ7 dA,jQ7 m9]at h;injection h
 ·unfold jt at h;rw[jQ4 dA,jQ4 m9,jQ4 m9,jQ4 m9]at h;injection h with a b c d e f g;exact⟨b,c,d,g⟩
def ju(t t':GT):Prop:=jt t=jt t'
theorem ju.J(h:ju t t'):J rs v f t=J rs v f t':=by rw[<-xN rs v f t,<-xN rs v f t',h]
theorem vQ(h:ju t t'):ju (una t) (una t'):=by
 obtain⟨h1,h2,h3⟩:=np h;obtain⟨k,n,m,va,nm,tg,l⟩:=t;obtain⟨k',n',m',va',Wf,tg',l'⟩:=t';simp only[GT.kind,GT.n,GT.m,GT.va,GT.elems]at h1 h2 h3;subst h1;rw[hZ,hZ];by_cases hk:k=2
 ·subst hk;obtain⟨-, -, -,rfl⟩:=h3 i5 i5 i5;rfl
 ·rw[jQ4 hk,jQ4 hk];by_cases hk:k=14
  ·rw[jQ7 hk,jQ7 hk];rfl
  ·rw[jQ4 hk,jQ4 hk];exact h
theorem Jj(h:ju t t'):ju (az w t) (az w t'):=by
 have hu:=vQ h;unfold az oZ;generalize una t=b at*;generalize una t'=b' at*;obtain⟨h1,h2,h3⟩:=np hu;rw[<-h1];by_cases dA:b.kind=11
 ·rw[jQ7 dA,jQ7 dA,<-h2 dA];cases w[b.n.toNat]? with
  |none=>exact hu
  |some d=>rfl
 ·rw[jQ4 dA,jQ4 dA];by_cases ka:b.kind=15
  ·rw[jQ7 ka,jQ7 ka];rfl
  ·rw[jQ4 ka,jQ4 ka];by_cases ir:b.kind=16
   ·rw[jQ7 ir,jQ7 ir];rfl
   ·rw[jQ4 ir,jQ4 ir];exact hu
theorem xO(h:ju t t'):isIf t=isIf t':=by unfold isIf;rw[(np h).1]
theorem zO(w:List ah):∀(k:Nat) {t t':GT},ju t t'->isIf t=true->(fs w k).ts t=(fs w k).ts t'
 |0,t,t',h,hi=>rfl
 |k+1,t,t',h,hi=>by
  rw[fs];obtain⟨h1,h2,h3⟩:=np h;have hk:t.kind=10\/t.kind=17:=by simpa[isIf]using hi
  obtain⟨-,hm, -,he⟩:=h3 m9 m9 m9;show iH _ w t=iH _ w t';unfold iH bN own;rw[h1,hm,he]
theorem TD(w:List ah)(d:Bool):∀(k:Nat) {t t':GT},ju t t'->(fs w k).cmp t d=(fs w k).cmp t' d
 |0,t,t',h=>rfl
 |k+1,t,t',h=>by
  have hu:=Jj (w:=w) h;rw[fs];show bX _ w t d=bX _ w t' d;unfold bX;simp only;obtain⟨h1,h2,h3⟩:=np hu;have hi:=xO hu;have ht:=zO w k hu;generalize az w t=u at*;generalize az w t'=u' at*;rw[<-h1,<-hi];split
  ·rfl
  ·split
   ·rename_i h5;rw[(h3 m9 m9 m9).2.2.2]
   ·split
    ·rename_i h5;rw[(h3 m9 m9 m9).2.2.2]
    ·split
     ·rename_i hI;rw[ht hI]
     ·rfl
theorem Ym(w:List ah):∀(k:Nat) {x x' y y':GT},ju x x'->ju y y'->(fs w k).id x y=(fs w k).id x' y'
 |0,_,_,_,_,_,_=>rfl
 |k+1,x,x',y,y',hx,hy=>by
  have ux:=vQ hx;have uy:=vQ hy;rw[fs];show jQ _ w x y=jQ _ w x' y';unfold jQ;simp only;have tx:=zO w k ux;have ty:=zO w k uy;have ix:=xO ux;have iy:=xO uy;obtain⟨x1,x2,x3⟩:=np ux;obtain⟨y1,y2,y3⟩:=np uy;generalize una x=a at*;generalize una x'=a' at*;generalize una y=b at*;generalize una y'=b' at*;rw[<-ix,<-iy];by_cases hi:(isIf a&&isIf b)=true
  ·rw[jQ7 hi,jQ7 hi];simp at hi;rw[tx hi.1,ty hi.2]
  ·rw[jQ4 hi,jQ4 hi,<-x1,<-y1];by_cases hk:a.kind≠b.kind
   ·rw[jQ7 hk,jQ7 hk]
   ·rw[jQ4 hk,jQ4 hk];by_cases dA:a.kind=11
    ·rw[jQ7 m9,jQ7 m9,x2 dA,y2 m9]
    ·by_cases ka:a.kind=15\/a.kind=16
     ·have e1:¬(a.kind=1\/a.kind=11):=m9
      simp only[jQ4 e1,jQ7 ka]
     ·obtain⟨a1,a2,a3,a4⟩:=x3 dA m9 m9;obtain⟨b1,b2,b3,b4⟩:=y3 m9 m9 m9;unfold own bN;rw[a1,a2,a3,a4,b1,b2,b3,b4]
theorem TF{id:GT->GT->Bool}(h:∀a,T a->id a a=true/\id (az w a) (az w a)=true)(hl:TL T l):Pa id w l l=true:=by
 have hs:nJ id w l l=true:=by
  unfold nJ;split
  ·rename_i he;exact he
  ·rw[List.all_eq_true];intro x hx;unfold tD;rw[List.any_eq_true];refine⟨x,hx,?_⟩;unfold subT;cases x with
   |none=>rfl
   |some x=>
    obtain⟨b,a⟩:=x;cases a with
    |none=>rfl
    |some a=>
     have ha:=h a (hl _ hx _ rfl a rfl);simp only;cases b<;>simp[l6,ha.1,ha.2]
 unfold Pa;rw[hs];rfl
theorem vR{id:GT->GT->Bool}:∀{l:List GT},(∀a∈l,id a a=true)->idL id l l=true
 |[],_=>rfl
 |a::l,h=>by rw[idL,h a i6,vR λb hb=>h b (by simp[hb])];rfl
theorem Bz{p:GT×GT->Bool}:∀{l:List GT},(∀a∈l,p (a,a)=true)->(l.zip l).all p=true
 |[],_=>rfl
 |a::l,h=>by rw[List.zip_cons_cons,jRl,h a i6,Bz λb hb=>h b (by simp[hb])];rfl
theorem F9(hw:WK NS Q w rs cs)(hq:QP NS Q):∀(r k:Nat),r<=k->∀x,PT NS Q w 0 x->2*J rs false false x+1<r->(fs w k).id x x=true
 |0,_,_,_,_,h=>m9
 |r+1,k,hk,x,hx,hr=>by
  obtain⟨k,rfl⟩:∃j,k=j+1:=⟨k - 1,m9⟩;have ih:=F9 hw hq r k m9;have hA:=(eZ hw hq r k k m9 m9).2;obtain⟨px,jx, -,kx,kx', -⟩:=cJ hq hx;have jx:=jx rs false false;rw[fs];show jQ _ w x x=true;unfold jQ;simp only;generalize una x=x' at*;by_cases hi:isIf x'=true
  ·rw[jQ7 (by simp[hi])];have ix:Fb NS Q w x':=.inl ⟨px,by have:=gR px;simp[isIf]at hi;omega⟩;have sx:=hA _ ix m9;rw[TF (T:=jH NS Q w rs (J rs false false x')) (λa ha=>?_) sx.terms,Bz (λm hm=>?_)]
   ·simp
   ·have:=sx.meths m hm;rw[ih m this.2.2.2.1 (by have:=this.2.2.2.2;omega)];simp[aE]
   ·have ja:=dM (rs:=rs) (v:=true) (f:=true) (v':=false) (f':=false) i6 i6 a;have ua:=(jh hw hq ha.1).1;have:=ha.2.1;exact⟨ih a ha.1 m9,ih _ (fE hw hq ha.1 ha.2.2) m9⟩
  ·rw[jQ4 (by simpa using hi),jQ4 i6];have aa9:x'.kind≠10:=λe=>hi (by simp[isIf,e]);have ex:=ow (rs:=rs) (px.ww (v':=false) (f':=false)) aa9;have he:∀a∈x'.elems,(fs w k).id a a=true:=λa ha=>ih a (ex a ha).1.ww (by have:=(ex a ha).2;omega);have hk:=gR px;have h0:=lg px;have h1:idL (fs w k).id x'.elems x'.elems=true:=vR he;have h2:idL (fs w k).id (own x') (own x')=true:=vR λa ha=>he a (jQt ha);have h3:idL (fs w k).id (bN x') (bN x')=true:=vR λa ha=>he a (jR2 ha);have h4:(x'.elems.zip x'.elems).all (λp=>aE p.1.tag p.2.tag&&aE p.1.name p.2.name&&(fs w k).id p.1 p.2)=true:=Bz λa ha=>by rw[he a ha];simp[aE]
   rw[h1,h2,h3,h4];simp only[beq_self_eq_true,Bool.and_self]
   repeat' split
   all_goals first|rfl|omega
def mC(t:GT):GT:=if t.kind=14 then fD else t
def aG(t:GT):GT:=jt (mC t)
def dX(t t':GT):Prop:=aG t=aG t'
theorem Jk(t:GT):(mC t).kind≠14:=by
 unfold mC;split
 ·decide
 ·assumption
theorem LV(t:GT):(aG t).kind≠14:=by unfold aG;rw[r8];exact Jk t
theorem aI(h:t.kind≠14):(aG t).kind=t.kind:=by unfold aG mC;rw[jQ4 h,r8]
theorem TG(t:GT):aG (aG t)=aG t:=by
 have h:=LV t;rw[aG,mC,jQ4 h];exact PQ _
theorem AZ(rs:List Nat)(v f:Bool)(t:GT):J rs v f (aG t)<=J rs v f t:=by
 unfold aG mC;split
 ·rename_i h
  rw[xN];obtain⟨k,n,m,va,nm,tg,l⟩:=t;simp only[GT.kind]at h;subst h;rw[bw];simp[fD,tk,bw,Ji]
 ·rw[xN];exact jQ0 _
theorem vS(t:GT):una (mC t)=una t:=by
 unfold mC;split
 ·rename_i h
  obtain⟨k,n,m,va,nm,tg,l⟩:=t;simp only[GT.kind]at h;subst h;rw[hZ];rfl
 ·rfl
theorem vP(w:List ah)(t:GT):az w (mC t)=az w t:=by unfold az;rw[vS]
theorem NV:∀t:GT,(una t).kind≠14
 |.mk k n m v s tg []=>by
  rw[hZ];split
  ·decide
  ·split
   ·decide
   ·assumption
 |.mk k n m v s tg (e::l)=>by
  rw[hZ];split
  ·exact NV e
  ·split
   ·decide
   ·assumption
theorem dX.refl(t:GT):dX t t:=rfl
theorem dX.una(h:dX t t'):ju (una t) (una t'):=by
 have:=vQ (t:=mC t) (t':=mC t') h;rwa[vS,vS]at this
theorem dX.az(h:dX t t'):ju (az w t) (az w t'):=by
 have:=Jj (w:=w) (t:=mC t) (t':=mC t') h;rwa[vP,vP]at this
theorem Jf(h:ju t t'):dX t t':=by
 unfold dX aG mC;rw[<-(np h).1];split
 ·rfl
 ·exact h
theorem oN(t:GT):dX (aG t) t:=TG t
theorem NW(w:List ah)(d:Bool)(k:Nat)(t:GT):(fs w k).cmp (mC t) d=(fs w k).cmp t d:=by
 cases k with
 |zero=>rfl
 |succ k=>rw[fs];show bX _ w _ d=bX _ w _ d;unfold bX;rw[vP]
theorem TI(w:List ah)(k:Nat)(x y:GT):(fs w k).id (mC x) (mC y)=(fs w k).id x y:=by
 cases k with
 |zero=>rfl
 |succ k=>rw[fs];show jQ _ w _ _=jQ _ w _ _;unfold jQ;rw[vS,vS]
theorem dX.cmp(h:dX t t'):(fs w k).cmp t d=(fs w k).cmp t' d:=by
 rw[<-NW w d k t,<-NW w d k t'];exact TD w d k h
theorem dX.id{x y:GT}(hx:dX x x')(hy:dX y y'):(fs w k).id x y=(fs w k).id x' y':=by
 rw[<-TI w k x y,<-TI w k x' y'];exact Ym w k hx hy
theorem dX.ts(h:dX t t')(hi:isIf t=true)(Xi:isIf t'=true):(fs w k).ts t=(fs w k).ts t':=by
 have e:∀{t:GT},isIf t=true->mC t=t:=λ{t} h=>by
  unfold mC;rw[jQ4];simp[isIf]at h;omega
 have h0:ju t t':=by
  have:jt (mC t)=jt (mC t'):=h;rwa[e hi,e Xi]at this
 exact zO w k h0 hi
end P
namespace P
open S
def qi(l:List (Option Tm))(us:List Bool):List (Option Tm):=List.zipWith (λx u=>if u then none else x) l us
theorem Cc(h:us.length=l.length):(qi l us).length=l.length:=by simp[qi,h]
theorem JI{x:Option Tm}{u:Bool}(hx:l[j]?=some x)(hu:us[j]?=some u):(qi l us)[j]?=some (if u then none else x):=by
 simp[qi,List.getElem?_zipWith,hx,hu]
theorem Um(h:us.length=l.length)(j:Nat):qi l (us.set j true)=(qi l us).set j none:=by
 apply List.ext_getElem?;intro k;unfold qi;rw[List.getElem?_zipWith,List.getElem?_set,List.getElem?_set,List.getElem?_zipWith,List.length_zipWith];by_cases hjk:j=k
 ·subst hjk;by_cases hl:j<l.length
  ·have:j<us.length:=m9
   have h3:j<min l.length us.length:=m9
   simp[hl,this,h3]
  ·have:¬j<us.length:=m9
   have h3:min l.length us.length<=j:=m9
   simp[this,h3]
 ·simp[hjk]
theorem Un(l:List (Option Tm)):qi l (List.replicate l.length false)=l:=by
 apply List.ext_getElem?;intro k;unfold qi;rw[List.getElem?_zipWith,List.getElem?_replicate];by_cases hl:k<l.length<;>simp[hl]
section
variable{id:GT->GT->Bool}
theorem drop_at{l:List α}{x:α}(h:l[k]?=some x):l.drop k=x::l.drop (k+1):=by
 obtain⟨aM,e⟩:=jQg.1 h;rw[jQv aM,e]
theorem Gy{l:List α}{x:α}(h:l[k]?=some x)(hi:i<=k):(l.take (k+1)).drop i=(l.take k).drop i++[x]:=by
 obtain⟨aM,e⟩:=jQg.1 h;rw[jRi aM,e,List.drop_append_of_le_length (by simp;omega)]
theorem P7(x:Tm)(l:List (Option Tm)):absorb id w x (none::l)=(absorb id w x l).map λr=>(r.1,none::r.2):=by rw[absorb]
theorem xU(x y:Tm)(l:List (Option Tm)):absorb id w x (some y::l)=match unionT id w x y with
 |(u,none)=>if u.jg.isNone then none else(absorb id w u l).map λr=>(r.1,none::r.2)
 |(_,some _)=>(absorb id w x l).map λr=>(r.1,some y::r.2):=by rw[absorb];rfl
def rI(id:GT->GT->Bool)(w:List ah)(R:Option (Tm×List (Option Tm)))(i:Nat)(m:List (Option Tm))(x:Tm)(j:Nat):Prop:=
 i+1<=j/\j<=m.length/\R=(absorb id w x (m.drop j)).map λr=>(r.1,(m.take j).drop (i+1)++r.2)
theorem rI.start(hi:i<m.length):rI id w (absorb id w x (m.drop (i+1))) i m x (i+1):=by
 refine⟨jQ0 _,hi,?_⟩;rw[List.drop_eq_nil_of_le (show(m.take (i+1)).length<=i+1 by simp;omega)];cases absorb id w x (m.drop (i+1))<;>simp
theorem rI.none(h:rI id w R i m x j)(hm:m[j]?=some none):rI id w R i m x (j+1):=by
 obtain⟨h1,h2,h3⟩:=h;obtain⟨aM, -⟩:=jQg.1 hm;refine⟨m9,m9,?_⟩;rw[h3,drop_at hm,P7,Gy hm h1];cases absorb id w x (m.drop (j+1))<;>simp
theorem rI.cR(h:rI id w R i m x j)(hm:m[j]?=some (some y))(hu:unionT id w x y=(u,some z)):rI id w R i m x (j+1):=by
 obtain⟨h1,h2,h3⟩:=h;obtain⟨aM, -⟩:=jQg.1 hm;refine⟨m9,m9,?_⟩;rw[h3,drop_at hm,xU,hu,Gy hm h1];simp only;cases absorb id w x (m.drop (j+1))<;>simp
theorem rI.join(h:rI id w R i m x j)(hm:m[j]?=some (some y))(hu:unionT id w x y=(u,.none))(ht:u.jg≠.none):rI id w R i (m.set j .none) u (j+1):=by
 obtain⟨h1,h2,h3⟩:=h;obtain⟨aM, -⟩:=jQg.1 hm;refine⟨m9,by simp;omega,?_⟩;have hn:(m.set j .none)[j]?=some (.none:Option Tm):=by simp[aM]
 rw[h3,drop_at hm,xU,hu,Gy hn h1];have e1:(m.set j .none).drop (j+1)=m.drop (j+1):=by rw[List.drop_set_of_lt m9]
 have e2:(m.set j .none).take j=m.take j:=by rw[List.take_set_of_le m9]
 rw[e1,e2];have:u.jg.isNone=false:=by cases h:u.jg<;>simp_all
 simp only[this,jQk,jR1];cases absorb id w u (m.drop (j+1))<;>simp
theorem rI.all(h:rI id w R i m x j)(hm:m[j]?=some (some y))(hu:unionT id w x y=(u,.none))(ht:u.jg=.none):R=.none:=by
 rw[h.2.2,drop_at hm,xU,hu];simp[ht]
theorem rI.done(h:rI id w R i m x m.length):R=some (x,m.drop (i+1)):=by
 rw[h.2.2];simp[absorb]
def nu(id:GT->GT->Bool)(w:List ah)(l m:List (Option Tm))(i:Nat)(acc:List (Option Tm)):Prop:=
 m.length=l.length/\((normA id w (l.length - i) (m.drop i)).map (acc++·)).getD [some fu]=norm id w l
theorem nu.start(l:List (Option Tm)):nu id w l l 0 []:=by
 refine⟨rfl,?_⟩;simp[norm]
theorem nu.none(h:nu id w l m i acc)(hm:m[i]?=some .none):nu id w l m (i+1) acc:=by
 obtain⟨h1,h2⟩:=h;obtain⟨aM, -⟩:=jQg.1 hm;refine⟨h1,?_⟩;rw[drop_at hm,show l.length - i=(l.length - (i+1))+1 by omega,normA]at h2;exact h2
theorem nu.some(h:nu id w l m i acc)(hm:m[i]?=.some (.some x))(hR:absorb id w x (m.drop (i+1))=.some (y,m'.drop (i+1)))(hl:m'.length=m.length):nu id w l m' (i+1) (acc++[.some y]):=by
 obtain⟨h1,h2⟩:=h;obtain⟨aM, -⟩:=jQg.1 hm;refine⟨hl.trans h1,?_⟩;rw[drop_at hm,show l.length - i=(l.length - (i+1))+1 by omega,normA,hR]at h2;rw[<-h2];simp only[jQa];cases normA id w (l.length - (i+1)) (m'.drop (i+1))<;>simp
theorem nu.all(h:nu id w l m i acc)(hm:m[i]?=.some (.some x))(hR:absorb id w x (m.drop (i+1))=.none):norm id w l=[.some fu]:=by
 obtain⟨h1,h2⟩:=h;obtain⟨aM, -⟩:=jQg.1 hm;rw[drop_at hm,show l.length - i=(l.length - (i+1))+1 by omega,normA,hR]at h2;rw[<-h2];rfl
theorem nu.done(h:nu id w l m l.length acc):acc=norm id w l:=by
 obtain⟨h1,h2⟩:=h;rw[<-h2];simp[normA]
end
end P
namespace P
open S
def Qf(t:GT):Acc:=⟨(own t).foldl lF [],[some fu],false⟩
def cW(F:Fs)(w:List ah)(t:GT)(kk:Nat):Acc:=((bN t).take kk).foldl (eG F w) (Qf t)
theorem Cj(cs:List Nat):∀l l':List GT,cN cs 0 (l++l')=cN cs 0 l+cN cs 0 l'
 |[],l'=>by simp[cN]
 |e::l,l'=>by rw[jRh,cN,cN,Cj cs l l'];omega
theorem kE:∀{l m:List ByteArray},l.Nodup->(∀a∈l,a∈m)->l.length<=m.length
 |[],_,_,_=>i6
 |a::l,m,h,hs=>by
  obtain⟨h1,h2⟩:=List.nodup_cons.1 h;obtain⟨m1,m2,rfl⟩:=List.append_of_mem (hs a i6);have:=kE (l:=l) (m:=m1++m2) h2 λb hb=>by
   have dD:=hs b (by simp[hb]);simp at dD⊢;obtain h|rfl|h:=dD
   ·exact .inl h
   ·exact absurd hb h1
   ·exact .inr h
  simp at this⊢;omega
theorem Oi(h:PT NS Q w 0 t)(bH:t.kind=10):uR NS Q w rs (J rs false false t) (Qf t):=by
 obtain⟨-, -,e3,e4,e5, -, -⟩:=cu (rs:=rs) (cs:=[]) (h.ww (v':=false) (f':=false)) bH;exact M117
theorem abS(h:PT NS Q w 0 t)(bH:t.kind=10):∀m∈own t,VW NS Q w rs (J rs false false t) m:=by
 obtain⟨-, -,e3,e4,e5, -, -⟩:=cu (rs:=rs) (cs:=[]) (h.ww (v':=false) (f':=false)) bH;intro m hm;obtain⟨q1,q2,q3,q4,q5⟩:=e4 m hm;exact⟨q1,q2,q3,q4.ww,q5⟩
theorem Uh(hw:WK NS Q w rs cs)(hq:QP NS Q)(hQ:QTe w Q)(h:PT NS Q w 0 t)(bH:t.kind=10)(hK:2*J rs false false t<=K)(hcn:bP cs t<=50)(he:(bN t)[kk]?=some e):
 PT NS Q w 2 e/\TE w e/\J rs true true e<J rs false false t/\bP cs e<=50/\uR NS Q w rs (J rs false false t) (cW (fs w K) w t kk)/\NF (cW (fs w K) w t kk).terms/\cW (fs w K) w t (kk+1)=eG (fs w K) w (cW (fs w K) w t kk) e/\
 (∀i,gu (fs w K) w e=some i->NF i.terms/\TL (jH NS Q w rs (J rs false false t)) i.terms/\(cW (fs w K) w t kk).terms.length*i.terms.length<=100000000/\∀m∈i.ms,VW NS Q w rs (J rs false false t) m):=by
 obtain⟨-, -,e3, -, -,e6,e7⟩:=cu (rs:=rs) (cs:=cs) (h.ww (v':=false) (f':=false)) bH;have hm:=jQ8 he;obtain⟨hS,hA⟩:=eZ hw hq _ K K hK hK;have hN:=vh hw hq hQ _ K hK;have eO:∀x∈bN t,PT NS Q w 2 x/\TE w x/\J rs true true x<J rs false false t:=λx hx=>⟨(e3 x hx).1.ww,hQ t e6 bH x hx,(e3 x hx).2⟩;have tB:∀x∈(bN t).take kk,x∈bN t:=λx hx=>jQt hx;obtain⟨aM,hee⟩:=jQg.1 he;have aaH:(bN t).take (kk+1)=(bN t).take kk++[e]:=by rw[jRi aM,hee]
 have lk:cN cs 0 ((bN t).take kk)+bP cs e<=50:=by
  have h1:cN cs 0 (bN t)=bP cs t:=by rw[e7,ku cs t.m.toNat];rfl
  have h2:=Cj cs ((bN t).take (kk+1)) ((bN t).drop (kk+1));rw[jRo,h1,aaH,Cj]at h2;simp[cN]at h2;omega
 have bD:=(ph hw hq hS hA (b:=J rs false false t) (l:=(bN t).take kk) (jQ0 _) (λx hx=>⟨(eO x (tB x hx)).1,(eO x (tB x hx)).2.2⟩) (Oi h bH)).2;have Hy:=Bf hw hq hN (b:=J rs false false t) (l:=(bN t).take kk) (a:=Qf t) (c:=0) (jQ0 _) (λx hx=>eO x (tB x hx)) ⟨.inl rfl,by simp[Qf],by simp[Qf],λ_=>rfl⟩;refine⟨(eO e hm).1,(eO e hm).2.1,(eO e hm).2.2,m9,bD,Hy.nf,?_,λi hi=>?_⟩
 ·unfold cW;rw[aaH,List.foldl_append];rfl
 ·obtain⟨g1,g2,g3⟩:=Ey hw hq hN (eO e hm).1 (eO e hm).2.1 (eO e hm).2.2 (jQ0 _) i hi;obtain⟨k1,k2⟩:=(yo hw hq hS hA (eO e hm).1 (eO e hm).2.2 (jQ0 _)).2 i hi;refine⟨g1,k1,Nq lk ?_,k2⟩;rw[Bd,Nat.pow_add];have:=Hy.len;rw[jRd]at this;exact Nat.mul_le_mul this g2
theorem YF(hw:WK NS Q w rs cs)(hq:QP NS Q)(h:PT NS Q w 0 t)(bH:t.kind=10)(hK:2*J rs false false t<K):
 (fs w K).ts t=⟨ib (cW (fs w K) w t (bN t).length).ms,(cW (fs w K) w t (bN t).length).terms,(cW (fs w K) w t (bN t).length).comp⟩/\uR NS Q w rs (J rs false false t) (cW (fs w K) w t (bN t).length):=by
 obtain⟨-, -,e3, -, -,e6,e7⟩:=cu (rs:=rs) (cs:=cs) (h.ww (v':=false) (f':=false)) bH;obtain⟨hS,hA⟩:=eZ hw hq (2*J rs false false t+1) K (K+1) m9 m9;have h1:=hS.ts t (.inl ⟨h,bH⟩) m9;obtain⟨hS',KB⟩:=eZ hw hq (2*J rs false false t) K K m9 m9;have bD:=(ph hw hq hS' KB (b:=J rs false false t) (l:=bN t) (jQ0 _) (λx hx=>⟨(e3 x hx).1.ww,(e3 x hx).2⟩) (Oi h bH)).2;refine⟨?_,by unfold cW;rw[List.take_length];exact bD⟩;rw[h1,fs];simp only[iH];rw[jQ4 m9];unfold cW Qf;rw[List.take_length]
end P
namespace P
open S
theorem dep{A:Nat->Prop}(h:PL nw NS Q A md v f t):dp t<=D->PL nw NS (λt=>Q t/\dp t<=D) A md v f t:=by
 have sub:∀{k n m:Int} {va:Bool} {nm tg:ByteArray} {l:List GT} {e:GT},e∈l->dp (.mk k n m va nm tg l)<=D->dp e<=D:=λhe hd=>by
  rw[dp]at hd;have:=zS he;omega
 induction h with
 |basic a b=>intro _;exact .basic a b
 |uni a=>intro _;exact .uni a
 |named a b c=>intro _;exact .named a b c
 |al a b _ ih=>intro hd;exact .al a b (ih (sub i6 hd))
 |st a b _ ih=>intro hd;exact .st ⟨a,hd⟩ b (λe he=>ih e he (sub he hd))
 |ifc a b c d e g _ _ q zg vq=>intro hd;exact .ifc a b c d e g (λe he=>zg e he (sub (jQt he) hd)) (λe he=>vq e he (sub (jR2 he) hd)) ⟨q,hd⟩
 |one a b c _ ih=>intro hd;exact .one a b c (ih (sub i6 hd))
 |mp _ _ i1 i2=>intro hd;exact .mp (i1 (sub i6 hd)) (i2 (sub i6 hd))
 |fn a b c _ ih=>intro hd;exact .fn a b c (λe he=>ih e he (sub he hd))
 |ti a _ ih=>intro hd;exact .ti a (ih (sub i6 hd))
 |un a b c _ ih=>intro hd;exact .un a b c (λe he=>ih e he (sub he hd))
mutual
theorem MO:∀t:GT,dp t<=(ei t).length
 |.mk _ _ _ _ _ _ l=>by rw[dp,ei];have:=Hh l;simp;omega
theorem Hh:∀l:List GT,dps l<=(fF l).length
 |[]=>by simp[dps]
 |e::l=>by rw[dps,fF];have:=MO e;have:=Hh l;simp;omega
end
theorem VL(t:GT):1<=(ei t).length:=by obtain⟨k,n,m,va,nm,tg,l⟩:=t;rw[ei];simp
def msz:List aH->Nat
 |[]=>0
 |m::l=>1+(ei m.sig).length+msz l
def wsz:List ah->Nat
 |[]=>0
 |d::l=>(ei d.under).length+msz d.meths+wsz l
def VQ:List aH->List ByteArray
 |[]=>[]
 |m::l=>ei m.sig++VQ l
def RJ:List ah->List ByteArray
 |[]=>[]
 |d::l=>ei d.under++(VQ d.meths++RJ l)
theorem Hi:∀l:List aH,(VQ l).length+l.length<=msz l
 |[]=>by simp[VQ,msz]
 |m::l=>by rw[VQ,msz];have:=Hi l;simp;omega
theorem zz:∀l:List ah,(RJ l).length<=wsz l/\l.length<=wsz l
 |[]=>by simp[RJ,wsz]
 |d::l=>by rw[RJ,wsz];have:=zz l;have:=Hi d.meths;have:=VL d.under;simp;omega
theorem OG:∀{l:List aH} {m:aH},m∈l->∀x∈ei m.sig,x∈VQ l
 |a::l,m,h,x,hx=>by
  rw[VQ];rcases jQn.1 h with rfl|h
  ·exact jQm.2 (.inl hx)
  ·exact jQm.2 (.inr (OG h x hx))
theorem Hj:∀{l:List ah} {d:ah},d∈l->(∀x∈ei d.under,x∈RJ l)/\∀m∈d.meths,∀x∈ei m.sig,x∈RJ l
 |a::l,d,h=>by
  rw[RJ];rcases jQn.1 h with rfl|h
  ·exact⟨λx hx=>jQm.2 (.inl hx),λm hm x hx=>jQm.2 (.inr (jQm.2 (.inl (OG hm x hx))))⟩
  ·obtain⟨h1,h2⟩:=Hj h;exact⟨λx hx=>jQm.2 (.inr (jQm.2 (.inr (h1 x hx)))),λm hm x hx=>jQm.2 (.inr (jQm.2 (.inr (h2 m hm x hx))))⟩
theorem GD:∀{l:List aH} {m:aH},m∈l->1+(ei m.sig).length<=msz l
 |a::l,m,h=>by
  rw[msz];rcases jQn.1 h with rfl|h
  ·omega
  ·have:=GD h;omega
theorem zR:∀{l:List ah} {d:ah},d∈l->(ei d.under).length+msz d.meths<=wsz l
 |a::l,d,h=>by
  rw[wsz];rcases jQn.1 h with rfl|h
  ·omega
  ·have:=zR h;omega
theorem vz:∀{l:List Nat} {b:Nat},(∀a∈l,a<=b)->maxl l<=b
 |[],b,_=>jQc _
 |a::l,b,h=>by rw[maxl];exact Nat.max_le.2 ⟨h a i6,vz λa' h'=>h a' (by simp[h'])⟩
theorem VN(d:ah):NA d<=(ei d.under).length+msz d.meths:=by
 unfold NA;refine Nat.max_le.2 ⟨jQd (MO _) m9,vz λa ha=>?_⟩;obtain⟨m,hm,rfl⟩:=jQu.1 ha;have:=MO m.sig;have:=GD hm;omega
theorem OH:∀l:List ah,totD l<=9*wsz l
 |[]=>by simp[totD,wsz]
 |d::l=>by rw[totD,wsz];have:=OH l;have:=VN d;omega
def qu(w:List ah)(ts:List GT):List ByteArray:=str [69,114,114,111,114]::(RJ w++fF ts)
theorem RK{ts:List GT}(h:t∈ts):∀x∈ei t,x∈qu w ts:=λx hx=>List.mem_cons_of_mem _ (jQm.2 (.inr (xW h x hx)))
abbrev BN:Nat:=18874369
abbrev BD:Nat:=1048576
abbrev BK:Nat:=27262977
abbrev BR:Nat:=37748740
theorem z8:BN=18874369/\BD=1048576/\BK=27262977/\BR=37748740:=⟨rfl,rfl,rfl,rfl⟩
theorem Fe{ts:List GT}(h:wsz w+(fF ts).length<=BD):ON (qu w ts) w BN BD BK:=by
 have h1:=zz w;have h2:=OH w;obtain⟨e1,e2,e3,e4⟩:=z8;refine⟨by simp[qu],by simp[qu];omega,λd hd=>⟨λx hx=>List.mem_cons_of_mem _ (jQm.2 (.inl ((Hj hd).1 x hx))),λm hm x hx=>List.mem_cons_of_mem _ (jQm.2 (.inl ((Hj hd).2 m hm x hx)))⟩,λd hd=>?_,λd hd=>?_,m9,m9,m9⟩
 ·have:=zR hd;have:=Hi d.meths;omega
 ·have:=zR hd;have:=VN d;omega
theorem Aa{ts:List GT}(h:wsz w+(fF ts).length<=BD)(ht:t∈ts):dp t<=BD:=by
 have h1:=Hh ts;have h2:=zS ht;obtain⟨e1,e2,e3,e4⟩:=z8;omega
abbrev QD(w:List ah)(D:Nat)(t:GT):Prop:=QQ w t/\dp t<=D
theorem adw(h:str [69,114,114,111,114]∈NS)(hD:3<=D):QP NS (QD w D):=by
 have hq:=aey (w:=w) h;exact⟨⟨hq.any,by simp[fD,tk,dp,dps];omega⟩,⟨hq.err,by simp[fC,dp,dps];omega⟩,h⟩
theorem adx:QTe w (QD w D):=λt h hk=>aez t h.1 hk
theorem adv(hB:ON NS w N D k)(hv:VR NS w):WK NS (QD w D) w (gZ w) (mP w):=by
 have h:=aeA hB hv;have hd:∀(n:Nat) (d:ah),w[n]?=some d->dp d.under<=D/\∀m∈d.meths,dp m.sig<=D:=λn d hd=>by
  have h1:=hB.dd d (jQ8 hd);unfold NA at h1;obtain⟨h2,h3⟩:=Nat.max_le.1 h1;exact⟨h2,λm hm=>jQd (oM (jQu.2 ⟨m,hm,rfl⟩)) h3⟩
 exact⟨⟨h.ok.rl,h.ok.cl,h.ok.dec,h.ok.kd,h.ok.rk,h.ok.ct,h.ok.ml,λn d ha hn=>⟨dep (h.ok.ok n d ha hn).1 (hd n d hn).1,λm hm=>dep ((h.ok.ok n d ha hn).2 m hm) ((hd n d hn).2 m hm)⟩⟩,h.sq,h.sig⟩
theorem ZJ(h:Il NS w t)(hd:dp t<=D):PT NS (QD w D) w 0 t:=dep (aeB h) hd
theorem ady:∀t,QD w D t->t.kind=10->bP (mP w) t<=50:=λt h hk=>by
 have:=h.1.2.1 hk [];simpa using this
theorem adz:∀t,QD w D t->Q0 t:=λ_ h=>h.1.1
theorem adA(hv:VR NS w):∀(n:Nat) (d:ah),w[n]?=some d->isIf d.under=true->d.meths=[]:=λn d hd hi=>by
 have h:=hv n d hd;cases hm:d.meths with
 |nil=>rfl
 |cons m l=>
  have h1:=(h.br (by rw[hm];simp)).1;have h2:=h.k3;simp[isIf]at hi;omega
theorem adB(hB:ON NS w N D k)(h:PT NS (QD w D) w md t)(hk:t.kind=10):J (gZ w) v f t<N:=by
 cases h with
 |ifc a b c d e g h1 h2 q=>exact zy hB q.2 _ _
 |_=>first|(exact absurd hk i5)|(simp only[GT.kind]at hk;omega)
theorem Zz{l:List aH}(h:(l.map (·.name)).Nodup){l1 l2:List aH}{m:aH}(e:l=l1++m::l2):l1.find? (λx=>aE x.name m.name)=none:=by
 subst e;rw[List.find?_eq_none];intro x hx hn;simp[aE]at hn;rw[List.map_append,List.map_cons]at h;have:=(List.nodup_append.1 h).2.2 x.name (jQu.2 ⟨x,hx,rfl⟩) m.name i6;exact this hn
end P
namespace P
open S
theorem cmp_mono(w:List ah):∀(k:Nat) (t:GT),(fs w k).cmp t false=true->(fs w k).cmp t true=true
 |0,t=>by intro h;cases h
 |k+1,t=>by
  intro h;rw[fs]at h⊢;show bX (fs w k) w t true=true;have h':bX (fs w k) w t false=true:=h;unfold bX at h'⊢;simp only at h'⊢;split
  ·rfl
  rename_i h1
  rw[jQ4 h1]at h';split
  ·rename_i h2
   rw[jQ7 h2]at h';exact List.all_eq_true.2 λe he=>cmp_mono w k e (List.all_eq_true.1 h' e he)
  rename_i h2
  rw[jQ4 h2]at h';split
  ·rename_i h3
   rw[jQ7 h3]at h';exact cmp_mono w k _ h'
  rename_i h3
  rw[jQ4 h3]at h';split
  ·simp
  ·rename_i h4
   rw[jQ4 h4]at h';exact h'
theorem cmp_if(h:isIf (az w t)=true):(fs w (k+1)).cmp t true=true:=by
 rw[fs];show bX (fs w k) w t true=true;have hk:(az w t).kind=10\/(az w t).kind=17:=by simpa[isIf]using h
 unfold bX;simp only;rw[jQ4 m9,jQ4 m9,jQ4 m9,jQ7 h];rfl
theorem sat_comp{v:GT}(hu:az w t=da)(qq:az w da=da)(fi:(fs w (k+1)).ts da=⟨[],[some fu],true⟩):impl (fs w (k+1)) w v (az w t) true=(fs w (k+1)).cmp v true:=by
 have hm:=cmp_mono w (k+1) v;have hi:=cmp_if (w:=w) (k:=k) (t:=v);rw[hu];unfold impl;simp only[qq,fi];generalize(fs w (k+1)).cmp v true=a at*;generalize(fs w (k+1)).cmp v false=b at*;have e1:isIf da=true:=rfl;have e2:isAllL [some fu]=true:=rfl;have e3:aK [some fu]=false:=rfl;have e4:eh (fs w (k+1)) w v []=true:=by simp[eh]
 have e5:lB (fs w (k+1)) ⟨[],[some fu],true⟩=true:=by simp[lB,e2]
 simp only[e1,e2,e3,e4,e5];cases a<;>cases b<;>cases hv:isIf (az w v)<;>simp_all
end P
end Go.Proofs.YtabjfnkfocnklaaGreatDoor
