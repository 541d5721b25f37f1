import Derived.Test.YtbdgppghkdibfaaGreatDoorA02
set_option linter.all false
set_option maxHeartbeats 16000000
set_option maxRecDepth 20000
namespace Go.Proofs.YtbdgppghkdibfaaGreatDoor
open S P
variable{d f v:Bool}{e t t' x' y':Y}{Q T:Y->Prop}{acc l m m':List (Option Tm)}{us:List Bool}{NS:List ByteArray}{cs rs:List Nat}{w:List ah}{D K N i hp k kk md nw r:Nat}{R:Option (Tm×List (Option Tm))}{u x y z:Tm}{α:Type}
def jQg:type_of% @List.getElem?_eq_some_iff:=@List.getElem?_eq_some_iff
def jRh:type_of% @List.cons_append:=@List.cons_append
def jRi:type_of% @List.take_succ_eq_append_getElem:=@List.take_succ_eq_append_getElem
namespace P
open S
def jt(t:Y):Y:=if t.ld=11 then .mk 11 t.n 0 false es es []else if t.ld=15\/t.ld=16 then .mk t.ld 0 0 false es es []else .mk t.ld t.n t.m t.va es es t.li
def r8(t):(jt t).ld=t.ld:=by
 unfold jt;split
 .rename_i h;exact h.symm
 .split<;>rfl
def PQ(t):jt (jt t)=jt t:=by
 obtain⟨k,n,m,va,nm,tg,l⟩:=t;unfold jt;by_cases h:k=11
 .simp[Y.ld,Y.n,h]
 .by_cases U:k=15\/k=16
  .rcases U with rfl|rfl<;>simp[Y.ld]
  .simp[Y.ld,h,U,Y.n,Y.m,Y.va,Y.li]
def xN(rs:List Nat)(v f:Bool)(t):J rs v f (jt t)=J rs v f t:=by
 obtain⟨k,n,m,va,nm,tg,l⟩:=t;unfold jt;by_cases h:k=11
 .simp[Y.ld,Y.n,h,bw]
 .by_cases U:k=15\/k=16
  .rcases U with rfl|rfl<;>simp[Y.ld,bw]
  .simp[Y.ld,h,U,Y.n,Y.m,Y.va,Y.li,bw]
def np(h:jt t=jt t'):t.ld=t'.ld/\(t.ld=11->t.n=t'.n)/\(t.ld≠11->t.ld≠15->t.ld≠16->t.n=t'.n/\t.m=t'.m/\t.va=t'.va/\t.li=t'.li):=by
 have hk:t.ld=t'.ld:=by rw[<-r8 t,<-r8 t',h]
 refine⟨hk,λdA=>?_,λdA ka ir=>?_⟩
 .unfold jt at h;rw[jQ7 dA,jQ7 M]at h;injection h
 .unfold jt at h;rw[jQ4 dA,jQ4 M,jQ4 M,jQ4 M]at h;injection h with a b c d e f g;exact⟨b,c,d,g⟩
def ju(t t':Y):Prop:=jt t=jt t'
def ju.J(h:ju t t'):J rs v f t=J rs v f t':=by rw[<-xN rs v f t,<-xN rs v f t',h]
def vQ(h:ju t t'):ju (una t) (una t'):=by
 obtain⟨I,U,h3⟩:=np h;obtain⟨k,n,m,va,nm,tg,l⟩:=t;obtain⟨k',n',m',va',Wf,tg',l'⟩:=t';simp only[Y.ld,Y.n,Y.m,Y.va,Y.li]at I U h3;subst I;rw[hZ,hZ];by_cases hk:k=2
 .subst hk;obtain⟨-, -, -,rfl⟩:=h3 i5 i5 i5;rfl
 .rw[jQ4 hk,jQ4 hk];by_cases hk:k=14
  .rw[jQ7 hk,jQ7 hk];rfl
  .rw[jQ4 hk,jQ4 hk];exact h
def Jj(h:ju t t'):ju (az w t) (az w t'):=by
 have hu:=vQ h;unfold az oZ;generalize una t=b at*;generalize una t'=b' at*;obtain⟨I,U,h3⟩:=np hu;rw[<-I];by_cases dA:b.ld=11
 .rw[jQ7 dA,jQ7 dA,<-U dA];cases w[b.n.toNat]? with
  |none=>exact hu
  |some d=>rfl
 .rw[jQ4 dA,jQ4 dA];by_cases ka:b.ld=15
  .rw[jQ7 ka,jQ7 ka];rfl
  .rw[jQ4 ka,jQ4 ka];by_cases ir:b.ld=16
   .rw[jQ7 ir,jQ7 ir];rfl
   .rw[jQ4 ir,jQ4 ir];exact hu
def xO(h:ju t t'):isIf t=isIf t':=by unfold isIf;rw[(np h).1]
def zO(w):∀(k:Nat) {t t':Y},ju t t'->isIf t=true->(fs w k).ts t=(fs w k).ts t'
 |0,t,t',h,hi=>rfl
 |k+1,t,t',h,hi=>by
  rw[fs];obtain⟨I,U,h3⟩:=np h;have hk:t.ld=10\/t.ld=17:=by simpa[isIf]using hi
  obtain⟨-,hm, -,he⟩:=h3 M M M;show iH _ w t=iH _ w t';unfold iH bN own;rw[I,hm,he]
def TD(w)(d:Bool):∀(k:Nat) {t t':Y},ju t t'->(fs w k).cmp t d=(fs w k).cmp t' d
 |0,t,t',h=>rfl
 |k+1,t,t',h=>by
  have hu:=Jj (w:=w) h;rw[fs];show bX _ w t d=bX _ w t' d;unfold bX;simp only;obtain⟨I,U,h3⟩:=np hu;have hi:=xO hu;have ht:=zO w k hu;generalize az w t=u at*;generalize az w t'=u' at*;rw[<-I,<-hi];split
  .rfl
  .split
   .rename_i h5;rw[(h3 M M M).2.2.2]
   .split
    .rename_i h5;rw[(h3 M M M).2.2.2]
    .split
     .rename_i hI;rw[ht hI]
     .rfl
def Ym(w):∀(k:Nat) {x x' y y':Y},ju x x'->ju y y'->(fs w k).id x y=(fs w k).id x' y'
 |0,_,_,_,_,_,_=>rfl
 |k+1,x,x',y,y',H,hy=>by
  have ux:=vQ H;have uy:=vQ hy;rw[fs];show jQ _ w x y=jQ _ w x' y';unfold jQ;simp only;have tx:=zO w k ux;have ty:=zO w k uy;have ix:=xO ux;have iy:=xO uy;obtain⟨x1,x2,x3⟩:=np ux;obtain⟨y1,y2,y3⟩:=np uy;generalize una x=a at*;generalize una x'=a' at*;generalize una y=b at*;generalize una y'=b' at*;rw[<-ix,<-iy];by_cases hi:(isIf a&&isIf b)=true
  .rw[jQ7 hi,jQ7 hi];simp at hi;rw[tx hi.1,ty hi.2]
  .rw[jQ4 hi,jQ4 hi,<-x1,<-y1];by_cases hk:a.ld≠b.ld
   .rw[jQ7 hk,jQ7 hk]
   .rw[jQ4 hk,jQ4 hk];by_cases dA:a.ld=11
    .rw[jQ7 M,jQ7 M,x2 dA,y2 M]
    .by_cases ka:a.ld=15\/a.ld=16
     .have e1:¬(a.ld=1\/a.ld=11):=M
      simp only[jQ4 e1,jQ7 ka]
     .obtain⟨a1,a2,a3,a4⟩:=x3 dA M M;obtain⟨b1,b2,b3,b4⟩:=y3 M M M;unfold own bN;rw[a1,a2,a3,a4,b1,b2,b3,b4]
def TF{id:Y->Y->Bool}(h:∀a,T a->id a a=true/\id (az w a) (az w a)=true)(hl:TL T l):Pa id w l l=true:=by
 have hs:nJ id w l l=true:=by
  unfold nJ;split
  .rename_i he;exact he
  .rw[List.all_eq_true];intro x H;unfold tD;rw[List.any_eq_true];refine⟨x,H,?_⟩;unfold subT;cases x with
   |none=>rfl
   |some x=>
    obtain⟨b,a⟩:=x;cases a with
    |none=>rfl
    |some a=>
     have ha:=h a (hl _ H _ rfl a rfl);simp only;cases b<;>simp[l6,ha.1,ha.2]
 unfold Pa;rw[hs];rfl
def vR{id:Y->Y->Bool}:∀{l:List Y},(∀a∈l,id a a=true)->idL id l l=true
 |[],_=>rfl
 |a::l,h=>by rw[idL,h a i6,vR λb hb=>h b (by simp[hb])];rfl
def Bz{p:Y×Y->Bool}:∀{l:List Y},(∀a∈l,p (a,a)=true)->(l.zip l).all p=true
 |[],_=>rfl
 |a::l,h=>by rw[List.zip_cons_cons,jRl,h a i6,Bz λb hb=>h b (by simp[hb])];rfl
def F9(hw:WK NS Q w rs cs)(hq:QP NS Q):∀(r k:Nat),r<=k->∀x,PT NS Q w 0 x->2*J rs false false x+1<r->(fs w k).id x x=true
 |0,_,_,_,_,h=>M
 |r+1,k,hk,x,H,hr=>by
  obtain⟨k,rfl⟩:∃hp,k=hp+1:=⟨k - 1,M⟩;have ih:=F9 hw hq r k M;have hA:=(eZ hw hq r k k M M).2;obtain⟨px,jx, -,kx,kx', -⟩:=cJ hq H;have jx:=jx rs false false;rw[fs];show jQ _ w x x=true;unfold jQ;simp only;generalize una x=x' at*;by_cases hi:isIf x'=true
  .rw[jQ7 (by simp[hi])];have ix:Fb NS Q w x':=.inl ⟨px,by have:=gR px;simp[isIf]at hi;omega⟩;have sx:=hA _ ix M;rw[TF (T:=jH NS Q w rs (J rs false false x')) (λa ha=>?_) sx.terms,Bz (λm hm=>?_)]
   .simp
   .have:=sx.lw m hm;rw[ih m this.2.2.2.1 (by have:=this.2.2.2.2;omega)];simp[aE]
   .have ja:=dM (rs:=rs) (v:=true) (f:=true) (v':=false) (f':=false) i6 i6 a;have ua:=(jh hw hq ha.1).1;have:=ha.2.1;exact⟨ih a ha.1 M,ih _ (fE hw hq ha.1 ha.2.2) M⟩
  .rw[jQ4 (G9 hi),jQ4 i6];have aa9:x'.ld≠10:=λe=>hi (by simp[isIf,e]);have ex:=ow (rs:=rs) (px.ww (v':=false) (f':=false)) aa9;have he:∀a∈x'.li,(fs w k).id a a=true:=λa ha=>ih a (ex a ha).1.ww (V5 ((ex a ha).2));have hk:=gR px;have h0:=lg px;have I:idL (fs w k).id x'.li x'.li=true:=vR he;have U:idL (fs w k).id (own x') (own x')=true:=vR λa ha=>he a (jQt ha);have h3:idL (fs w k).id (bN x') (bN x')=true:=vR λa ha=>he a (jR2 ha);have h4:(x'.li.zip x'.li).all (λp=>aE p.1.gc p.2.gc&&aE p.1.name p.2.name&&(fs w k).id p.1 p.2)=true:=Bz λa ha=>by rw[he a ha];simp[aE]
   rw[I,U,h3,h4];simp only[beq_self_eq_true,Bool.and_self]
   repeat' split
   all_goals first|rfl|omega
def mC(t:Y):Y:=if t.ld=14 then fD else t
def aG(t:Y):Y:=jt (mC t)
def dX(t t':Y):Prop:=aG t=aG t'
def Jk(t):(mC t).ld≠14:=by
 unfold mC;split
 .decide
 .assumption
def LV(t):(aG t).ld≠14:=by unfold aG;rw[r8];exact Jk t
def aI(h:t.ld≠14):(aG t).ld=t.ld:=by unfold aG mC;rw[jQ4 h,r8]
def TG(t):aG (aG t)=aG t:=by
 have h:=LV t;rw[aG,mC,jQ4 h];exact PQ _
def AZ(rs:List Nat)(v f:Bool)(t):J rs v f (aG t)<=J rs v f t:=by
 unfold aG mC;split
 .rename_i h
  rw[xN];obtain⟨k,n,m,va,nm,tg,l⟩:=t;simp only[Y.ld]at h;subst h;rw[bw];simp[fD,tk,bw,Ji]
 .rw[xN];exact jQ0 _
def vS(t):una (mC t)=una t:=by
 unfold mC;split
 .rename_i h
  obtain⟨k,n,m,va,nm,tg,l⟩:=t;simp only[Y.ld]at h;subst h;rw[hZ];rfl
 .rfl
def vP(w t):az w (mC t)=az w t:=by unfold az;rw[vS]
def NV:∀t:Y,(una t).ld≠14
 |.mk k n m v s tg []=>by
  rw[hZ];split
  .decide
  .split
   .decide
   .assumption
 |.mk k n m v s tg (e::l)=>by
  rw[hZ];split
  .exact NV e
  .split
   .decide
   .assumption
def dX.refl(t):dX t t:=rfl
def dX.una(h:dX t t'):ju (una t) (una t'):=by
 have:=vQ (t:=mC t) (t':=mC t') h;rwa[vS,vS]at this
def dX.az(h:dX t t'):ju (az w t) (az w t'):=by
 have:=Jj (w:=w) (t:=mC t) (t':=mC t') h;rwa[vP,vP]at this
def Jf(h:ju t t'):dX t t':=by
 unfold dX aG mC;rw[<-(np h).1];split
 .rfl
 .exact h
def oN(t):dX (aG t) t:=TG t
def NW(w)(d:Bool)(k:Nat)(t):(fs w k).cmp (mC t) d=(fs w k).cmp t d:=by
 cases k with
 |zero=>rfl
 |succ k=>rw[fs];show bX _ w _ d=bX _ w _ d;unfold bX;rw[vP]
def TI(w)(k:Nat)(x y):(fs w k).id (mC x) (mC y)=(fs w k).id x y:=by
 cases k with
 |zero=>rfl
 |succ k=>rw[fs];show jQ _ w _ _=jQ _ w _ _;unfold jQ;rw[vS,vS]
def dX.cmp(h:dX t t'):(fs w k).cmp t d=(fs w k).cmp t' d:=by
 rw[<-NW w d k t,<-NW w d k t'];exact TD w d k h
def dX.id{x y:Y}(H:dX x x')(hy:dX y y'):(fs w k).id x y=(fs w k).id x' y':=by
 rw[<-TI w k x y,<-TI w k x' y'];exact Ym w k H hy
def dX.ts(h:dX t t')(hi:isIf t=true)(Xi:isIf t'=true):(fs w k).ts t=(fs w k).ts t':=by
 have e:∀{t:Y},isIf t=true->mC t=t:=λ{t} h=>by
  unfold mC;rw[jQ4];simp[isIf]at h;omega
 have h0:ju t t':=by
  have:jt (mC t)=jt (mC t'):=h;rwa[e hi,e Xi]at this
 exact zO w k h0 hi
end P
namespace P
open S
def qi(l:List (Option Tm))(us:List Bool):List (Option Tm):=List.zipWith (λx u=>if u then none else x) l us
def Cc(h:us.length=l.length):(qi l us).length=l.length:=by simp[qi,h]
def JI{x:Option Tm}{u:Bool}(H:l[hp]?=some x)(hu:us[hp]?=some u):(qi l us)[hp]?=some (if u then none else x):=by
 simp[qi,List.getElem?_zipWith,H,hu]
def Um(h:us.length=l.length)(hp:Nat):qi l (us.set hp true)=(qi l us).set hp none:=by
 apply List.ext_getElem?;intro k;unfold qi;rw[List.getElem?_zipWith,List.getElem?_set,List.getElem?_set,List.getElem?_zipWith,List.length_zipWith];by_cases hjk:hp=k
 .subst hjk;by_cases hl:hp<l.length
  .have:hp<us.length:=M
   have h3:hp<min l.length us.length:=M
   simp[hl,this,h3]
  .have:¬hp<us.length:=M
   have h3:min l.length us.length<=hp:=M
   simp[this,h3]
 .simp[hjk]
def Un(l:List (Option Tm)):qi l (List.replicate l.length false)=l:=by
 apply List.ext_getElem?;intro k;unfold qi;rw[List.getElem?_zipWith,List.getElem?_replicate];by_cases hl:k<l.length<;>simp[hl]
section
variable{id:Y->Y->Bool}
def drop_at{l:List α}{x:α}(h:l[k]?=some x):l.drop k=x::l.drop (k+1):=by
 obtain⟨aM,e⟩:=jQg.1 h;rw[jQv aM,e]
def Gy{l:List α}{x:α}(h:l[k]?=some x)(hi:i<=k):(l.take (k+1)).drop i=(l.take k).drop i++[x]:=by
 obtain⟨aM,e⟩:=jQg.1 h;rw[jRi aM,e,List.drop_append_of_le_length (by simp;omega)]
def P7(x:Tm)(l:List (Option Tm)):absorb id w x (none::l)=(absorb id w x l).map λr=>(r.1,none::r.2):=by rw[absorb]
def xU(x y:Tm)(l:List (Option Tm)):absorb id w x (some y::l)=match unionT id w x y with
 |(u,none)=>if u.jg.isNone then none else(absorb id w u l).map λr=>(r.1,none::r.2)
 |(_,some _)=>(absorb id w x l).map λr=>(r.1,some y::r.2):=by rw[absorb];rfl
def rI(id:Y->Y->Bool)(w:List ah)(R:Option (Tm×List (Option Tm)))(i:Nat)(m:List (Option Tm))(x:Tm)(hp:Nat):Prop:=
 i+1<=hp/\hp<=m.length/\R=(absorb id w x (m.drop hp)).map λr=>(r.1,(m.take hp).drop (i+1)++r.2)
def rI.start(hi:i<m.length):rI id w (absorb id w x (m.drop (i+1))) i m x (i+1):=by
 refine⟨jQ0 _,hi,?_⟩;rw[List.drop_eq_nil_of_le (show(m.take (i+1)).length<=i+1 by simp;omega)];cases absorb id w x (m.drop (i+1))<;>simp
def rI.none(h:rI id w R i m x hp)(hm:m[hp]?=some none):rI id w R i m x (hp+1):=by
 obtain⟨I,U,h3⟩:=h;obtain⟨aM, -⟩:=jQg.1 hm;refine⟨M,M,?_⟩;rw[h3,drop_at hm,P7,Gy hm I];cases absorb id w x (m.drop (hp+1))<;>simp
def rI.cR(h:rI id w R i m x hp)(hm:m[hp]?=some (some y))(hu:unionT id w x y=(u,some z)):rI id w R i m x (hp+1):=by
 obtain⟨I,U,h3⟩:=h;obtain⟨aM, -⟩:=jQg.1 hm;refine⟨M,M,?_⟩;rw[h3,drop_at hm,xU,hu,Gy hm I];simp only;cases absorb id w x (m.drop (hp+1))<;>simp
def rI.join(h:rI id w R i m x hp)(hm:m[hp]?=some (some y))(hu:unionT id w x y=(u,.none))(ht:u.jg≠.none):rI id w R i (m.set hp .none) u (hp+1):=by
 obtain⟨I,U,h3⟩:=h;obtain⟨aM, -⟩:=jQg.1 hm;refine⟨M,by simp;omega,?_⟩;have hn:(m.set hp .none)[hp]?=some (.none:Option Tm):=by simp[aM]
 rw[h3,drop_at hm,xU,hu,Gy hn I];have e1:(m.set hp .none).drop (hp+1)=m.drop (hp+1):=by rw[List.drop_set_of_lt M]
 have e2:(m.set hp .none).take hp=m.take hp:=by rw[List.take_set_of_le M]
 rw[e1,e2];have:u.jg.isNone=false:=by cases h:u.jg<;>simp_all
 simp only[this,jQk,jR1];cases absorb id w u (m.drop (hp+1))<;>simp
def rI.all(h:rI id w R i m x hp)(hm:m[hp]?=some (some y))(hu:unionT id w x y=(u,.none))(ht:u.jg=.none):R=.none:=by
 rw[h.2.2,drop_at hm,xU,hu];simp[ht]
def rI.done(h:rI id w R i m x m.length):R=some (x,m.drop (i+1)):=by
 rw[h.2.2];simp[absorb]
def nu(id:Y->Y->Bool)(w:List ah)(l m:List (Option Tm))(i:Nat)(acc:List (Option Tm)):Prop:=
 m.length=l.length/\((normA id w (l.length - i) (m.drop i)).map (acc++·)).getD [some fu]=norm id w l
def nu.start(l:List (Option Tm)):nu id w l l 0 []:=by
 refine⟨rfl,?_⟩;simp[norm]
def nu.none(h:nu id w l m i acc)(hm:m[i]?=some .none):nu id w l m (i+1) acc:=by
 obtain⟨I,U⟩:=h;obtain⟨aM, -⟩:=jQg.1 hm;refine⟨I,?_⟩;rw[drop_at hm,show l.length - i=(l.length - (i+1))+1 by omega,normA]at U;exact U
def nu.some(h:nu id w l m i acc)(hm:m[i]?=.some (.some x))(hR:absorb id w x (m.drop (i+1))=.some (y,m'.drop (i+1)))(hl:m'.length=m.length):nu id w l m' (i+1) (acc++[.some y]):=by
 obtain⟨I,U⟩:=h;obtain⟨aM, -⟩:=jQg.1 hm;refine⟨hl.trans I,?_⟩;rw[drop_at hm,show l.length - i=(l.length - (i+1))+1 by omega,normA,hR]at U;rw[<-U];simp only[jQa];cases normA id w (l.length - (i+1)) (m'.drop (i+1))<;>simp
def nu.all(h:nu id w l m i acc)(hm:m[i]?=.some (.some x))(hR:absorb id w x (m.drop (i+1))=.none):norm id w l=[.some fu]:=by
 obtain⟨I,U⟩:=h;obtain⟨aM, -⟩:=jQg.1 hm;rw[drop_at hm,show l.length - i=(l.length - (i+1))+1 by omega,normA,hR]at U;rw[<-U];rfl
def nu.done(h:nu id w l m l.length acc):acc=norm id w l:=by
 obtain⟨I,U⟩:=h;rw[<-U];simp[normA]
end
end P
namespace P
open S
def Qf(t:Y):Acc:=⟨(own t).foldl lF [],[some fu],false⟩
def cW(F:Fs)(w:List ah)(t:Y)(kk:Nat):Acc:=((bN t).take kk).foldl (eG F w) (Qf t)
def Cj(cs:List Nat):∀l l':List Y,cN cs 0 (l++l')=cN cs 0 l+cN cs 0 l'
 |[],l'=>by simp[cN]
 |e::l,l'=>by rw[jRh,cN,cN,Cj cs l l'];omega
def kE:∀{l m:List ByteArray},l.Nodup->(∀a∈l,a∈m)->l.length<=m.length
 |[],_,_,_=>i6
 |a::l,m,h,hs=>by
  obtain⟨I,U⟩:=List.nodup_cons.1 h;obtain⟨m1,m2,rfl⟩:=List.append_of_mem (hs a i6);have:=kE (l:=l) (m:=m1++m2) U λb hb=>by
   have dD:=hs b (by simp[hb]);simp at dD⊢;obtain h|rfl|h:=dD
   .exact .inl h
   .exact absurd hb I
   .exact .inr h
  simp at this⊢;omega
def Oi(h:PT NS Q w 0 t)(bH:t.ld=10):uR NS Q w rs (J rs false false t) (Qf t):=by
 obtain⟨-, -,e3,e4,e5, -, -⟩:=cu (rs:=rs) (cs:=[]) (h.ww (v':=false) (f':=false)) bH;exact M122
def abS(h:PT NS Q w 0 t)(bH:t.ld=10):∀m∈own t,VW NS Q w rs (J rs false false t) m:=by
 obtain⟨-, -,e3,e4,e5, -, -⟩:=cu (rs:=rs) (cs:=[]) (h.ww (v':=false) (f':=false)) bH;intro m hm;obtain⟨q1,q2,q3,q4,q5⟩:=e4 m hm;exact⟨q1,q2,q3,q4.ww,q5⟩
def Uh(hw:WK NS Q w rs cs)(hq:QP NS Q)(hQ:QTe w Q)(h:PT NS Q w 0 t)(bH:t.ld=10)(hK:2*J rs false false t<=K)(hcn:bP cs t<=50)(he:(bN t)[kk]?=some e):
 PT NS Q w 2 e/\TE w e/\J rs true true e<J rs false false t/\bP cs e<=50/\uR NS Q w rs (J rs false false t) (cW (fs w K) w t kk)/\NF (cW (fs w K) w t kk).terms/\cW (fs w K) w t (kk+1)=eG (fs w K) w (cW (fs w K) w t kk) e/\
 (∀i,gu (fs w K) w e=some i->NF i.terms/\TL (jH NS Q w rs (J rs false false t)) i.terms/\(cW (fs w K) w t kk).terms.length*i.terms.length<=100000000/\∀m∈i.ms,VW NS Q w rs (J rs false false t) m):=by
 obtain⟨-, -,e3, -, -,e6,e7⟩:=cu (rs:=rs) (cs:=cs) (h.ww (v':=false) (f':=false)) bH;have hm:=jQ8 he;obtain⟨hS,hA⟩:=eZ hw hq _ K K hK hK;have hN:=vh hw hq hQ _ K hK;have eO:∀x∈bN t,PT NS Q w 2 x/\TE w x/\J rs true true x<J rs false false t:=λx H=>⟨(e3 x H).1.ww,hQ t e6 bH x H,(e3 x H).2⟩;have tB:∀x∈(bN t).take kk,x∈bN t:=λx H=>jQt H;obtain⟨aM,hee⟩:=jQg.1 he;have aaH:(bN t).take (kk+1)=(bN t).take kk++[e]:=by rw[jRi aM,hee]
 have lk:cN cs 0 ((bN t).take kk)+bP cs e<=50:=by
  have I:cN cs 0 (bN t)=bP cs t:=by rw[e7,ku cs t.m.toNat];rfl
  have U:=Cj cs ((bN t).take (kk+1)) ((bN t).drop (kk+1));rw[jRo,I,aaH,Cj]at U;simp[cN]at U;omega
 have bD:=(ph hw hq hS hA (b:=J rs false false t) (l:=(bN t).take kk) (jQ0 _) (λx H=>⟨(eO x (tB x H)).1,(eO x (tB x H)).2.2⟩) (Oi h bH)).2;have Hy:=Bf hw hq hN (b:=J rs false false t) (l:=(bN t).take kk) (a:=Qf t) (c:=0) (jQ0 _) (λx H=>eO x (tB x H)) ⟨.inl rfl,by simp[Qf],by simp[Qf],λ_=>rfl⟩;refine⟨(eO e hm).1,(eO e hm).2.1,(eO e hm).2.2,M,bD,Hy.nf,?_,λi hi=>?_⟩
 .unfold cW;rw[aaH,List.foldl_append];rfl
 .obtain⟨g1,g2,g3⟩:=Ey hw hq hN (eO e hm).1 (eO e hm).2.1 (eO e hm).2.2 (jQ0 _) i hi;obtain⟨k1,k2⟩:=(yo hw hq hS hA (eO e hm).1 (eO e hm).2.2 (jQ0 _)).2 i hi;refine⟨g1,k1,Nq lk ?_,k2⟩;rw[Bd,Nat.pow_add];have:=Hy.len;rw[jRd]at this;exact Nat.mul_le_mul this g2
def YF(hw:WK NS Q w rs cs)(hq:QP NS Q)(h:PT NS Q w 0 t)(bH:t.ld=10)(hK:2*J rs false false t<K):
 (fs w K).ts t=⟨ib (cW (fs w K) w t (bN t).length).ms,(cW (fs w K) w t (bN t).length).terms,(cW (fs w K) w t (bN t).length).comp⟩/\uR NS Q w rs (J rs false false t) (cW (fs w K) w t (bN t).length):=by
 obtain⟨-, -,e3, -, -,e6,e7⟩:=cu (rs:=rs) (cs:=cs) (h.ww (v':=false) (f':=false)) bH;obtain⟨hS,hA⟩:=eZ hw hq (2*J rs false false t+1) K (K+1) M M;have I:=hS.ts t (.inl ⟨h,bH⟩) M;obtain⟨hS',KB⟩:=eZ hw hq (2*J rs false false t) K K M M;have bD:=(ph hw hq hS' KB (b:=J rs false false t) (l:=bN t) (jQ0 _) (λx H=>⟨(e3 x H).1.ww,(e3 x H).2⟩) (Oi h bH)).2;refine⟨?_,by unfold cW;rw[List.take_length];exact bD⟩;rw[I,fs];simp only[iH];rw[jQ4 M];unfold cW Qf;rw[List.take_length]
end P
namespace P
open S
def dep{A:Qx}(h:PL nw NS Q A md v f t):dp t<=D->PL nw NS (λt=>Q t/\dp t<=D) A md v f t:=by
 have sub:∀{k n m:Int} {va:Bool} {nm tg:ByteArray} {l:List Y} {e:Y},e∈l->dp (.mk k n m va nm tg l)<=D->dp e<=D:=λhe hd=>by
  rw[dp]at hd;have:=zS he;omega
 induction h with
 |basic a b=>intro _;exact .basic a b
 |uni a=>intro _;exact .uni a
 |named a b c=>intro _;exact .named a b c
 |al a b _ ih=>intro hd;exact .al a b (ih (sub i6 hd))
 |st a b _ ih=>intro hd;exact .st ⟨a,hd⟩ b (λe he=>ih e he (sub he hd))
 |ifc a b c d e g _ _ q zg vq=>intro hd;exact .ifc a b c d e g (λe he=>zg e he (sub (jQt he) hd)) (λe he=>vq e he (sub (jR2 he) hd)) ⟨q,hd⟩
 |one a b c _ ih=>intro hd;exact .one a b c (ih (sub i6 hd))
 |mp _ _ i1 i2=>intro hd;exact .mp (i1 (sub i6 hd)) (i2 (sub i6 hd))
 |fn a b c _ ih=>intro hd;exact .fn a b c (λe he=>ih e he (sub he hd))
 |ti a _ ih=>intro hd;exact .ti a (ih (sub i6 hd))
 |un a b c _ ih=>intro hd;exact .un a b c (λe he=>ih e he (sub he hd))
mutual
def MO:∀t:Y,dp t<=(ei t).length
 |.mk _ _ _ _ _ _ l=>by rw[dp,ei];have:=Hh l;simp;omega
def Hh:∀l:List Y,dps l<=(fF l).length
 |[]=>by simp[dps]
 |e::l=>by rw[dps,fF];have:=MO e;have:=Hh l;simp;omega
end
def VL(t):1<=(ei t).length:=by obtain⟨k,n,m,va,nm,tg,l⟩:=t;rw[ei];simp
def msz:List aH->Nat
 |[]=>0
 |m::l=>1+(ei m.sig).length+msz l
def wsz:List ah->Nat
 |[]=>0
 |d::l=>(ei d.gt).length+msz d.lw+wsz l
def VQ:List aH->List ByteArray
 |[]=>[]
 |m::l=>ei m.sig++VQ l
def RJ:List ah->List ByteArray
 |[]=>[]
 |d::l=>ei d.gt++(VQ d.lw++RJ l)
def Hi:∀l:List aH,(VQ l).length+l.length<=msz l
 |[]=>by simp[VQ,msz]
 |m::l=>by rw[VQ,msz];have:=Hi l;simp;omega
def zz:∀l:List ah,(RJ l).length<=wsz l/\l.length<=wsz l
 |[]=>by simp[RJ,wsz]
 |d::l=>by rw[RJ,wsz];have:=zz l;have:=Hi d.lw;have:=VL d.gt;simp;omega
def OG:∀{l:List aH} {m:aH},m∈l->∀x∈ei m.sig,x∈VQ l
 |a::l,m,h,x,H=>by
  rw[VQ];rcases jQn.1 h with rfl|h
  .exact jQm.2 (.inl H)
  .exact jQm.2 (.inr (OG h x H))
def Hj:∀{l:List ah} {d:ah},d∈l->(∀x∈ei d.gt,x∈RJ l)/\∀m∈d.lw,∀x∈ei m.sig,x∈RJ l
 |a::l,d,h=>by
  rw[RJ];rcases jQn.1 h with rfl|h
  .exact⟨λx H=>jQm.2 (.inl H),λm hm x H=>jQm.2 (.inr (jQm.2 (.inl (OG hm x H))))⟩
  .obtain⟨I,U⟩:=Hj h;exact⟨λx H=>jQm.2 (.inr (jQm.2 (.inr (I x H)))),λm hm x H=>jQm.2 (.inr (jQm.2 (.inr (U m hm x H))))⟩
def GD:∀{l:List aH} {m:aH},m∈l->1+(ei m.sig).length<=msz l
 |a::l,m,h=>by
  rw[msz];rcases jQn.1 h with rfl|h
  .omega
  .have:=GD h;omega
def zR:∀{l:List ah} {d:ah},d∈l->(ei d.gt).length+msz d.lw<=wsz l
 |a::l,d,h=>by
  rw[wsz];rcases jQn.1 h with rfl|h
  .omega
  .have:=zR h;omega
def vz:∀{l:List Nat} {b:Nat},(∀a∈l,a<=b)->maxl l<=b
 |[],b,_=>jQc _
 |a::l,b,h=>by rw[maxl];exact Nat.max_le.2 ⟨h a i6,vz λa' h'=>h a' (by simp[h'])⟩
def VN(d):NA d<=(ei d.gt).length+msz d.lw:=by
 unfold NA;refine Nat.max_le.2 ⟨jQd (MO _) M,vz λa ha=>?_⟩;obtain⟨m,hm,rfl⟩:=jQu.1 ha;have:=MO m.sig;have:=GD hm;omega
def OH:∀l:List ah,totD l<=9*wsz l
 |[]=>by simp[totD,wsz]
 |d::l=>by rw[totD,wsz];have:=OH l;have:=VN d;omega
def qu(w:List ah)(ts:List Y):List ByteArray:=str [69,114,114,111,114]::(RJ w++fF ts)
def RK{ts:List Y}(h:t∈ts):∀x∈ei t,x∈qu w ts:=λx H=>List.mem_cons_of_mem _ (jQm.2 (.inr (xW h x H)))
abbrev BN:Nat:=18874369
abbrev BD:Nat:=1048576
abbrev BK:Nat:=27262977
abbrev BR:Nat:=37748740
def z8:BN=18874369/\BD=1048576/\BK=27262977/\BR=37748740:=⟨rfl,rfl,rfl,rfl⟩
def Fe{ts:List Y}(h:wsz w+(fF ts).length<=BD):ON (qu w ts) w BN BD BK:=by
 have I:=zz w;have U:=OH w;obtain⟨e1,e2,e3,e4⟩:=z8;refine⟨by simp[qu],by simp[qu];omega,λd hd=>⟨λx H=>List.mem_cons_of_mem _ (jQm.2 (.inl ((Hj hd).1 x H))),λm hm x H=>List.mem_cons_of_mem _ (jQm.2 (.inl ((Hj hd).2 m hm x H)))⟩,λd hd=>?_,λd hd=>?_,M,M,M⟩
 .have:=zR hd;have:=Hi d.lw;omega
 .have:=zR hd;have:=VN d;omega
def Aa{ts:List Y}(h:wsz w+(fF ts).length<=BD)(ht:t∈ts):dp t<=BD:=by
 have I:=Hh ts;have U:=zS ht;obtain⟨e1,e2,e3,e4⟩:=z8;omega
abbrev QD(w:List ah)(D:Nat)(t:Y):Prop:=QQ w t/\dp t<=D
def adw(h:str [69,114,114,111,114]∈NS)(hD:3<=D):QP NS (QD w D):=by
 have hq:=aey (w:=w) h;exact⟨⟨hq.any,by simp[fD,tk,dp,dps];omega⟩,⟨hq.err,by simp[fC,dp,dps];omega⟩,h⟩
def adx:QTe w (QD w D):=λt h hk=>aez t h.1 hk
def adv(hB:ON NS w N D k)(hv:VR NS w):WK NS (QD w D) w (gZ w) (mP w):=by
 have h:=aeA hB hv;have hd:∀(n:Nat) (d:ah),w[n]?=some d->dp d.gt<=D/\∀m∈d.lw,dp m.sig<=D:=λn d hd=>by
  have I:=hB.dd d (jQ8 hd);unfold NA at I;obtain⟨U,h3⟩:=Nat.max_le.1 I;exact⟨U,λm hm=>jQd (oM (jQu.2 ⟨m,hm,rfl⟩)) h3⟩
 exact⟨⟨h.ok.rl,h.ok.cl,h.ok.dec,h.ok.kd,h.ok.rk,h.ok.ct,h.ok.ml,λn d ha hn=>⟨dep (h.ok.ok n d ha hn).1 (hd n d hn).1,λm hm=>dep ((h.ok.ok n d ha hn).2 m hm) ((hd n d hn).2 m hm)⟩⟩,h.sq,h.sig⟩
def ZJ(h:Il NS w t)(hd:dp t<=D):PT NS (QD w D) w 0 t:=dep (aeB h) hd
def ady:∀t,QD w D t->t.ld=10->bP (mP w) t<=50:=λt h hk=>by
 have:=h.1.2.1 hk [];simpa using this
def adz:∀t,QD w D t->Q0 t:=λ_ h=>h.1.1
def adA(hv:VR NS w):∀(n:Nat) (d:ah),w[n]?=some d->isIf d.gt=true->d.lw=[]:=λn d hd hi=>by
 have h:=hv n d hd;cases hm:d.lw with
 |nil=>rfl
 |cons m l=>
  have I:=(h.br (by rw[hm];simp)).1;have U:=h.k3;simp[isIf]at hi;omega
def adB(hB:ON NS w N D k)(h:PT NS (QD w D) w md t)(hk:t.ld=10):J (gZ w) v f t<N:=by
 cases h with
 |ifc a b c d e g I U q=>exact zy hB q.2 _ _
 |_=>first|(exact absurd hk i5)|(simp only[Y.ld]at hk;omega)
def Zz{l:List aH}(h:(l.map (·.name)).Nodup){l1 l2:List aH}{m:aH}(e:l=l1++m::l2):l1.find? (λx=>aE x.name m.name)=none:=by
 subst e;rw[List.find?_eq_none];intro x H hn;simp[aE]at hn;rw[List.map_append,List.map_cons]at h;have:=(List.nodup_append.1 h).2.2 x.name (jQu.2 ⟨x,H,rfl⟩) m.name i6;exact this hn
end P
namespace P
open S
def nmEq_self(a):aE a a=true:=by simp[aE]
def impl_self(hw:WK NS Q w rs cs)(hq:QP NS Q)(sX:r<=K)(h:PT NS Q w 0 t)(hi:isIf (az w t)=true)(hr:2*J rs true false t+1<r):
 impl (fs w K) w t t false=true:=by
 obtain⟨k,rfl⟩:∃hp,K=hp+1:=⟨K - 1,M⟩;have hJ:=(jh hw hq h).2;have hI:=jO hw hq h hi;have hA:=(eZ hw hq r (k+1) (k+1) sX sX).2 _ hI M;obtain⟨hS, -⟩:=eZ hw hq (r - 1) k (k+1) M M;have hc:(fs w (k+1)).cmp t false=lB (fs w (k+1)) ((fs w (k+1)).ts (az w t)):=by
  have hk:(az w t).ld=10\/(az w t).ld=17:=by simpa[isIf]using hi
  have e1:(fs w (k+1)).cmp t false=lB (fs w k) ((fs w k).ts (az w t)):=by
   rw[fs];show bX (fs w k) w t false=_;unfold bX;simp only;rw[jQ4 M,jQ4 M,jQ4 M,jQ7 hi];rfl
  rw[e1,hS.ts _ hI M];exact Iq λx H tm e a ha=>hS.ZP (b:=J rs false false (az w t)) M false a (hA.terms x H tm e a ha)
 have hid:∀a,PT NS Q w 0 a->2*J rs false false a+1<r->(fs w (k+1)).id a a=true:=F9 hw hq r (k+1) sX;have he:nJ (fs w (k+1)).id w ((fs w (k+1)).ts (az w t)).terms ((fs w (k+1)).ts (az w t)).terms=true:=by
  have:=TF (w:=w) (T:=jH NS Q w rs (J rs false false (az w t))) (id:=(fs w (k+1)).id) (λa ha=>by
   have ja:=dM (rs:=rs) (v:=true) (f:=true) (v':=false) (f':=false) i6 i6 a;have ua:=(jh hw hq ha.1).1;have I:=ha.2.1;exact⟨hid a ha.1 M,hid _ (fE hw hq ha.1 ha.2.2) M⟩) hA.terms
  unfold Pa at this;rw[Bool.and_self]at this;exact this
 have hm:eh (fs w (k+1)) w t ((fs w (k+1)).ts (az w t)).lw=true:=by
  unfold eh;simp only[hi,if_true];refine List.all_eq_true.2 λm hm=>?_;have hf:((fs w (k+1)).ts (az w t)).lw.find? (λf=>aE f.name m.name)=some m:=by
   have uu:=hA.nodup;generalize((fs w (k+1)).ts (az w t)).lw=l at hm uu
   induction l with
   |nil=>simp at hm
   |cons a l ih=>
    rw[List.find?_cons];rw[List.map_cons,List.nodup_cons]at uu;rcases jQn.1 hm with rfl|hm
    .simp[nmEq_self]
    .have:aE a.name m.name=false:=by
      simp only[aE,decide_eq_false_iff_not];intro e;exact uu.1 (e▸List.mem_map_of_mem hm)
     rw[this];exact ih hm uu.2
  rw[hf];obtain⟨-, -, -,q1,q2⟩:=hA.lw m hm;exact hid m q1 M
 unfold impl;simp only[hi,hm,hc,he];generalize lB (fs w (k+1)) ((fs w (k+1)).ts (az w t))=c;generalize aK ((fs w (k+1)).ts (az w t)).terms=e;generalize isAllL ((fs w (k+1)).ts (az w t)).terms=a;cases c<;>cases e<;>cases a<;>simp
end P
