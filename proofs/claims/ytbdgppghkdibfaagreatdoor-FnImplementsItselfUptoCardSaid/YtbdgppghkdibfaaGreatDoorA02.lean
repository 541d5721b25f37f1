import Derived.Test.YtbdgppghkdibfaaGreatDoorA01
set_option linter.all false
set_option maxHeartbeats 16000000
set_option maxRecDepth 20000
namespace Go.Proofs.YtbdgppghkdibfaaGreatDoor
open S P
variable{a:Acc}{f f' v v' xc yc:Bool}{F G:Fs}{e t:Y}{abe cmp:Y->Bool}{nF:Y->Y->Bool}{Q T T':Y->Prop}{acc l l' q ts x xl y yl:List (Option Tm)}{NS:List ByteArray}{cs rs:List Nat}{w:List ah}{D N b b' c d i k md n nw r:Nat}{A:Qx}{GT:Prop}{u z:Tm}
def jQe:type_of% @List.eq_nil_of_length_eq_zero:=@List.eq_nil_of_length_eq_zero
def jQk:type_of% @Bool.false_eq_true:=@Bool.false_eq_true
def jQp:type_of% @List.getElem?_eq_getElem:=@List.getElem?_eq_getElem
def jQv:type_of% @List.drop_eq_getElem_cons:=@List.drop_eq_getElem_cons
def jR1:type_of% @if_false:=@if_false
def jRd:type_of% @Nat.zero_add:=@Nat.zero_add
def jRl:type_of% @List.all_cons:=@List.all_cons
def jRo:type_of% @List.take_append_drop:=@List.take_append_drop
def jRt:type_of% @Bool.not_true:=@Bool.not_true
def M122(h:GT:=by
 refine⟨TL.cons.2 ⟨TO.some.2 TT.all,TL.nil⟩,kU i6 λm hm=>?_,iM i6⟩;obtain⟨q1,q2,q3,q4,q5⟩:=e4 m hm;exact⟨q1,q2,q3,q4.ww,q5⟩):GT:=h
def M138(h:GT:=by
 simp only[fg]at this⊢;simp at this⊢;rcases this with h|h<;>simp[h]):GT:=h
def M176(h:GT:=by
 refine⟨by rw[I],λi hi=>?_⟩;obtain⟨q,hq,rfl⟩:=jQ6.1 hi;exact⟨U q hq,i6⟩):GT:=h
def M184(h:GT:=by
 obtain⟨k,n,m,va,nm,tg,l⟩:=e;simp only[Y.ld]at cQ;subst cQ;rw[bP];simp[Y.li]):GT:=h
def M191(h:GT:=by
 split
 .rfl
 .rfl
 .rename_i a b ha hb
  rw[qK h (H _ rfl a ha) (hy _ rfl b hb)]):GT:=h
def M200(h:GT:=by
 exact⟨_,rfl,i6,i6⟩):GT:=h
def M201(h:GT:=by
 obtain⟨k,n,m,va,nm,tg,l⟩:=e;simp only[Y.ld]at cg;subst cg;rw[bP];simp):GT:=h
namespace S
def Z8q(r:List Nat)(hr:rs.length=n)(h:PL nw NS Q (λhp=>hp<n) md v f t):J (rs++r) v f t=J rs v f t:=by
 induction h with
 |named a b c=>
  rw[bw,bw];simp only[if_true];split
  .rename_i hf;rw[lf (V5 (c hf))]
  .rfl
 |basic a b=>rw[bw,bw];simp[Js]
 |uni a=>rw[bw,bw];rcases a with rfl|rfl|rfl<;>simp
 |al a b _ ih=>rw[bw,bw];rcases a with rfl|rfl<;>simp[Js,ih]
 |st a b _ ih=>rw[bw,bw];simp;exact mu λe he=>ih e he
 |ifc a b c d e g _ _ q zg vq=>rw[bw,bw];simp;exact vr (λe he=>zg e he) (λe he=>vq e he)
 |one a b c _ ih=>rw[bw,bw];rcases a with rfl|rfl|rfl<;>simp[Js,ih]
 |mp _ _ zg vq=>rw[bw,bw];simp[Js,zg,vq]
 |fn a b c _ ih=>rw[bw,bw];simp;exact mu λe he=>ih e he
 |ti a _ ih=>rw[bw,bw];simp[Js,ih]
 |un a b c _ ih=>rw[bw,bw];simp;exact mu λe he=>ih e he
def XU(c:List Nat)(hc:cs.length=n)(h:PL nw NS Q (λhp=>hp<n) md v f t):(v||f)=true->bP (cs++c) t=bP cs t:=by
 induction h with
 |named a b d=>intro hf;rw[bP,bP];simp only[if_true];rw[lf (V5 (d hf))]
 |basic a b=>intro _;rw[bP,bP];simp
 |uni a=>intro _;rw[bP,bP];rcases a with rfl|rfl|rfl<;>simp
 |al a b _ ih=>intro hf;rw[bP,bP];rcases a with rfl|rfl<;>simp[SQ,ih hf]
 |st a b _ ih=>intro _;rw[bP,bP];simp
 |ifc a b c d e g _ _ q zg vq=>intro _;rw[bP,bP];simp;exact kH λe he=>vq e he rfl
 |one a b c _ ih=>intro _;rw[bP,bP];rcases a with rfl|rfl|rfl<;>simp
 |mp _ _ zg vq=>intro _;rw[bP,bP];simp
 |fn a b c _ ih=>intro _;rw[bP,bP];simp
 |ti a _ ih=>intro _;rw[bP,bP];simp
 |un a b c _ ih=>intro hf;rw[bP,bP];simp;exact kH λe he=>ih e (G9 he) hf
def qW{α:Type}{f:Nat->α->Option (Option Bool)}:∀{l:List α} {i:Nat},(∀i,∀a∈l,f i a≠some (some true))->rangeM f i l≠some (some true)
 |[],_,_=>by simp[rangeM]
 |a::l,i,h=>by
  rw[rangeM];intro e;obtain⟨r,hr,e⟩:=jQ1.1 e;cases r with
  |some b=>simp at e;subst e;exact h i a i6 hr
  |none=>exact qW (l:=l) (i:=i+1) (λi x H=>h i x (by simp[H])) (G9 e)
def maxl:List Nat->Nat
 |[]=>0
 |a::l=>max a (maxl l)
def oM:∀{l:List Nat} {a:Nat},a∈l->a<=maxl l
 |b::l,a,h=>by
  rw[maxl];rcases jQn.1 h with rfl|h
  .exact jRs _ _
  .exact jQd (oM h) (jRg _ _)
def vz:∀{l:List Nat} {b:Nat},(∀a∈l,a<=b)->maxl l<=b
 |[],_,_=>jQc _
 |a::l,b,h=>by rw[maxl];exact Nat.max_le.2 ⟨h a i6,vz λx H=>h x (by simp[H])⟩
def Pu(rs:List Nat)(d:ah):Nat:=max (J rs true false d.gt) (maxl (d.lw.map λm=>J rs false false m.sig))
def gZ(w:List ah):List Nat:=w.foldl (λrs d=>rs++[Pu rs d]) []
def mP(w:List ah):List Nat:=w.foldl (λcs d=>cs++[bP cs d.gt]) []
def vC{α β:Type}(g:List β->α->β):∀(l:List α) (a:List β),(l.foldl (λrs d=>rs++[g rs d]) a).length=a.length+l.length
 |[],a=>i6
 |x::l,a=>by rw[List.foldl_cons,vC g l];simp;omega
def I0{α β:Type}(g:List β->α->β):∀(l:List α) (a:List β),∃r,l.foldl (λrs d=>rs++[g rs d]) a=a++r
 |[],a=>⟨[],i6⟩
 |x::l,a=>by
  obtain⟨r,hr⟩:=I0 g l (a++[g a x]);exact⟨g a x::r,by rw[List.foldl_cons,hr];simp⟩
def Nz{α β:Type}(g:List β->α->β)(l:List α)(n:Nat)(d:α)(hd:l[n]?=some d):∃rs r,rs.length=n/\l.foldl (λrs d=>rs++[g rs d]) []=rs++(g rs d::r):=by
 have hn:n<l.length:=by
  by_cases h:n<l.length
  .exact h
  .rw[jQx M]at hd;cases hd
 have hl:l=l.take n++d::l.drop (n+1):=by
  rw[jQp hn]at hd;cases hd;rw[<-jQv hn,jRo]
 obtain⟨r,hr⟩:=I0 g (l.drop (n+1)) ((l.take n).foldl (λrs d=>rs++[g rs d]) []++[g ((l.take n).foldl (λrs d=>rs++[g rs d]) []) d]);refine⟨(l.take n).foldl (λrs d=>rs++[g rs d]) [],r,?_,?_⟩
 .rw[vC];simp;omega
 .conv=>lhs;rw[hl,List.foldl_append,List.foldl_cons]
  rw[hr];simp
structure DP(NS:List ByteArray)(nw:Nat)(Q:Y->Prop)(n:Nat)(d:ah):Prop where
 un:PL nw NS Q (λhp=>hp<n) 0 true false d.gt
 k1:1<=d.gt.ld
 k2:d.gt.ld≠2
 k3:d.gt.ld<=10
 sig:∀m∈d.lw,m.sig.ld=7/\isName m.name=true/\PL nw NS Q (λhp=>hp<n) 0 false false m.sig
 nd:(d.lw.map (·.name)).Nodup
 fld:d.gt.ld=5->∀m∈d.lw,∀f∈d.gt.li,f.name≠m.name
 br:d.lw≠[]->d.gt.ld≠10/\eM d.gt=true
def SR(gP:∀d∈w,d.lw.length<=1099511627776)(h0:∀n d,w[n]?=some d->DP NS w.length Q0 n d)(I:∀n d,n<i->w[n]?=some d->DP NS w.length Q n d):
 mN NS Q (λn=>n<i) w (gZ w) (mP w):=by
 have mR:∀{n d},w[n]?=some d->PL w.length NS (λ_=>True) (λhp=>hp<n) 0 true false d.gt/\∀m∈d.lw,PL w.length NS (λ_=>True) (λhp=>hp<n) 0 false false m.sig:=λhd=>
  ⟨((h0 _ _ hd).un).imp λ_ _=>trivial,λm hm=>((h0 _ _ hd).sig m hm).2.2.imp λ_ _=>trivial⟩
 refine⟨by rw[gZ,vC];simp,by rw[mP,vC];simp,?_,?_,?_,?_,?_,?_⟩
 .intro n d hd;exact⟨(mR hd).1.eS (jQ0 _) (λ_ _=>trivial) (jQ0 _) id id,λm hm=>((mR hd).2 m hm).eS (jQ0 _) (λ_ _=>trivial) (jQ0 _) id id⟩
 .intro n d hd;have h:=h0 n d hd;have:=h.k1;have:=h.k2;have:=h.k3;have dA:d.gt.ld≠11:=M
  exact⟨M,M,M,M,M,M⟩
 .intro n d hd;obtain⟨rs,r,hl,e⟩:=Nz Pu w n d hd;have hg:(gZ w).getD n 0=Pu rs d:=by rw[gZ,e,<-hl];simp
  have he:gZ w=rs++(Pu rs d::r):=e;rw[hg,he];refine⟨by rw[Z8q _ hl (mR hd).1];exact jRs _ _,λm hm=>?_⟩;rw[Z8q _ hl ((mR hd).2 m hm)];exact jQd (oM (jQu.2 ⟨m,hm,rfl⟩)) (jRg _ _)
 .intro n d hd;obtain⟨cs,r,hl,e⟩:=Nz (λcs (d:ah)=>bP cs d.gt) w n d hd;have he:mP w=cs++(bP cs d.gt::r):=e;rw[he,XU _ hl (mR hd).1 rfl,<-hl];simp
 .intro n d hd;exact gP d (jQ8 hd)
 .intro n d hn hd;have h:=I n d hn hd;exact⟨h.un.eS (jQ0 _) (λhp hj=>Nat.lt_trans hj hn) (jQ0 _) id id,λm hm=>(h.sig m hm).2.2.eS (jQ0 _) (λhp hj=>Nat.lt_trans hj hn) (jQ0 _) id id⟩
mutual
def I1 (rs:List Nat) (R:Nat) (hR:∀n,rs.getD n 0<=R):∀(v f:Bool) (t:Y),J rs v f t<=9*dp t+R
 |v,f,.mk k n m va nm tg l=>by
  rw[bw,dp];have:=hR n.toNat;have I:=SS rs R hR v f l;have U:=SS rs R hR false f l;have h3:=SU rs R hR f m.toNat l;split
  .split<;>omega
  .split
   .omega
   .split
    .omega
    .split<;>omega
def SS (rs:List Nat) (R:Nat) (hR:∀n,rs.getD n 0<=R):∀(v f:Bool) (l:List Y),Js rs v f l<=9*dps l+R
 |v,f,[]=>by simp[Js]
 |v,f,e::l=>by
  rw[Js,dps];have:=I1 rs R hR v f e;have:=SS rs R hR v f l;omega
def SU (rs:List Nat) (R:Nat) (hR:∀n,rs.getD n 0<=R):∀(f:Bool) (m:Nat) (l:List Y),Ji rs f m l<=9*dps l+R
 |f,m,[]=>by simp[Ji]
 |f,0,e::l=>by
  rw[Ji,dps];have:=I1 rs R hR true true e;have:=SU rs R hR f 0 l;omega
 |f,m+1,e::l=>by
  rw[Ji,dps];have:=I1 rs R hR false f e;have:=SU rs R hR f m l;omega
end
def NA(d:ah):Nat:=max (dp d.gt) (maxl (d.lw.map λm=>dp m.sig))
def totD:List ah->Nat
 |[]=>0
 |d::l=>9*NA d+totD l
def Ep:∀(l:List ah) (rs:List Nat) (R:Nat),(∀n,rs.getD n 0<=R)->∀n,(l.foldl (λrs d=>rs++[Pu rs d]) rs).getD n 0<=R+totD l
 |[],rs,R,h,n=>by rw[totD];exact h n
 |d::l,rs,R,h,n=>by
  rw[List.foldl_cons,totD];have:=Ep l (rs++[Pu rs d]) (R+9*NA d) (λn=>by
   by_cases hn:n<rs.length
   .rw[lf hn];have:=h n;omega
   .by_cases he:n=rs.length
    .subst he;simp;have I:=I1 rs R h true false d.gt;have U:maxl (d.lw.map λm=>J rs false false m.sig)<=R+9*NA d:=vz λa ha=>by
      obtain⟨m,hm,rfl⟩:=jQu.1 ha;have:=I1 rs R h false false m.sig;have:dp m.sig<=NA d:=jQd (oM (jQu.2 ⟨m,hm,rfl⟩)) (jRg _ _);omega
     have h3:dp d.gt<=NA d:=jRs _ _;exact Nat.max_le.2 ⟨M,U⟩
    .rw[List.getD_eq_getElem?_getD,jQx (by simp;omega)];simp) n
  omega
def uK(w)(n:Nat):(gZ w).getD n 0<=totD w:=by
 have:=Ep w [] 0 (λn=>i6) n;rw[gZ];omega
def AX{d:ah}(I:SX NS w k d.gt)(U:∀m∈d.lw,SX NS w k m.sig):
 ∃b,fS k w d n=some b/\(b=true->DP NS w.length Q0 n d):=by
 unfold fS;simp only;split
 .exact M92
 .rename_i hk
  obtain⟨b,b1,b2⟩:=I {decls:=n,value:=true,term:=false};rw[b1];simp only[jQa];cases b with
  |false=>exact⟨false,rfl,i6⟩
  |true=>
   simp only[jRt,jQk,jR1]
   let f:Nat->aH->Option (Option Bool):=λi m=>
    if !isName m.name then some (some false)else if m.sig.ld≠7 then some (some false)
    else(placed w k m.sig {decls:=n,value:=false,term:=false}).bind λb=>if !b then some (some false)
    else if (d.lw.take i).any (λx=>aE x.name m.name)then some (some false)
    else if d.gt.li.any (λf=>d.gt.ld==5&&aE f.name m.name)then some (some false)
    else some none
   have hf:∀i,∀m∈d.lw,∃r,f i m=some r/\r≠some true/\(r=none->isName m.name=true/\m.sig.ld=7/\PL w.length NS Q0 (λhp=>hp<n) 0 false false m.sig/\(d.lw.take i).any (λx=>aE x.name m.name)=false/\d.gt.li.any (λf=>d.gt.ld==5&&aE f.name m.name)=false):=by
    intro i m hm;obtain⟨b,c1,c2⟩:=U m hm {decls:=n,value:=false,term:=false};show∃r,(if !isName m.name then some (some false)else if m.sig.ld≠7 then some (some false)
     else(placed w k m.sig {decls:=n,value:=false,term:=false}).bind λb=>if !b then some (some false)
     else if (d.lw.take i).any (λx=>aE x.name m.name)then some (some false)
     else if d.gt.li.any (λf=>d.gt.ld==5&&aE f.name m.name)then some (some false)
     else some none)=some r/\_
    split
    .exact M200
    .rename_i g1
     split
     .exact M200
     .rename_i g2
      rw[c1];simp only[jQa];cases b with
      |false=>exact⟨_,rfl,i6,i6⟩
      |true=>
       simp only[jRt,jQk,jR1];split
       .exact M200
       .rename_i g3
        split
        .exact M200
        .rename_i g4
         refine⟨_,rfl,i6,λ_=>⟨G9 g1,G9 g2,?_,Bool.eq_false_iff.2 g3,Bool.eq_false_iff.2 g4⟩⟩;have:=c2 rfl;simp only[Int.ofNat_lt]at this;exact this
   obtain⟨r,hr⟩:=pw (f:=f) (l:=d.lw) (i:=0) (λi m hm=>by obtain⟨r,hr,_⟩:=hf i m hm;exact⟨r,hr⟩);show∃b,(rangeM f 0 d.lw).map _=some b/\_;rw[hr];cases r with
   |some b=>
    refine⟨b,rfl,λhb=>?_⟩;subst hb;exact absurd hr (qW λi m hm h=>by obtain⟨r,I,U,_⟩:=hf i m hm;rw[I]at h;cases h;exact U rfl)
   |none=>
    refine⟨_,rfl,λhb=>?_⟩;have eO:∀i m,d.lw[i]?=some m->isName m.name=true/\m.sig.ld=7/\PL w.length NS Q0 (λhp=>hp<n) 0 false false m.sig/\(d.lw.take i).any (λx=>aE x.name m.name)=false/\d.gt.li.any (λf=>d.gt.ld==5&&aE f.name m.name)=false:=by
     intro i m hm;have:=jA hr i m hm;obtain⟨r,I,_,h3⟩:=hf (0+i) m (jQ8 hm);rw[this]at I;cases I;have:=h3 rfl;rwa[jRd]at this
    have Dv:∀m∈d.lw,∃i:Nat,d.lw[i]?=some m:=λm hm=>List.getElem?_of_mem hm;have tL:=b2 rfl;simp only[Int.ofNat_lt]at tL;refine⟨tL,M,M,M,λm hm=>?_,?_,λh5 m hm f hfm e=>?_,λbk=>?_⟩
    .obtain⟨i,hi⟩:=Dv m hm;exact⟨(eO i m hi).2.1,(eO i m hi).1,(eO i m hi).2.2.1⟩
    .rw[List.Nodup,List.pairwise_map,List.pairwise_iff_getElem];intro i hp hi hj hij e;have:=(eO hp d.lw[hp] i6).2.2.2.1;simp only[List.any_eq_false]at this;exact this d.lw[i] (List.mem_take_iff_getElem.2 ⟨i,M,rfl⟩) (by simp[aE,e])
    .obtain⟨i,hi⟩:=Dv m hm;have:=(eO i m hi).2.2.2.2;simp only[List.any_eq_false]at this;exact this f hfm (by simp[aE,e,h5])
    .have hl:¬d.lw.length=0:=by intro h;exact bk (jQe h)
     simp at hb;obtain hb|hb:=hb
     .exact absurd (by rw[hb];rfl) hl
     .exact hb
def Dw{d:ah}(hm:MC NS (λhp=>hp<n) w (gZ w) (mP w) N)(j:DP NS w.length Q0 n d)(hk:N+8*D<=k)(hD:NA d<=D)(hN:totD w+9*D<N):
 ∃b,fB k w d=some b/\(b=true->DP NS w.length (Qs w Q0 (mP w)) n d):=by
 have hJ:∀t,dp t<=D->J (gZ w) true true t<N:=λt ht=>by have:=I1 (gZ w) (totD w) (uK w) true true t;omega
 have hds:∀m∈d.lw,dp m.sig<=D:=λm kh=>jQd (jQd (oM (jQu.2 ⟨m,kh,rfl⟩)) (jRg _ _)) hD;have hdu:dp d.gt<=D:=jQd (jRs _ _) hD;obtain⟨a,a1,a2⟩:=xr hm D d.gt hdu k hk true false j.un (hJ _ hdu) true;have hT:=λm (kh:m∈d.lw)=>xr hm D m.sig (hds m kh) k hk false false (j.sig m kh).2.2 (hJ _ (hds m kh)) false;obtain⟨c,hc⟩:=bc (dW (p:=λ(m:aH)=>bh (gT w k m.sig false)) (l:=d.lw) λm kh=>bc (by obtain⟨b,hb,_⟩:=hT m kh;exact⟨b,hb⟩));unfold fB;rw[a1,hc];cases a with
 |false=>exact⟨false,rfl,i6⟩
 |true=>
  refine⟨c,rfl,λe=>?_⟩;subst e;have eO:=iE (p:=λ(m:aH)=>gT w k m.sig false) hc;refine⟨a2 rfl,j.k1,j.k2,j.k3,λm kh=>⟨(j.sig m kh).1,(j.sig m kh).2.1,?_⟩,j.nd,j.fld,j.br⟩;obtain⟨b,b1,b2⟩:=hT m kh;rw[eO m kh]at b1;cases b1;exact b2 rfl
def I2{α:Type}{p:α->Option Bool}:∀{l:List α},(∀(hp:Nat) a,l[hp]?=some a->(∀(j':Nat) b,j'<hp->l[j']?=some b->p b=some false)->∃b,p a=some b)->∃b,anyM p l=some b
 |[],_=>⟨false,rfl⟩
 |a::l,h=>by
  obtain⟨b,hb⟩:=h 0 a rfl (by intro j' b h;omega);rw[anyM,hb];cases b
  .refine I2 (l:=l) λhp c hc hj=>h (hp+1) c (G9 hc) λj' x Sf H=>?_;cases j' with
   |zero=>simp at H;subst H;exact hb
   |succ j'=>exact hj j' x M (G9 H)
  .exact⟨true,rfl⟩
structure ON(NS:List ByteArray)(w:List ah)(N D k:Nat):Prop where
 err:str [69,114,114,111,114]∈NS
 len:NS.length<=1099511627776
 nm:∀d∈w,(∀x∈ei d.gt,x∈NS)/\∀m∈d.lw,∀x∈ei m.sig,x∈NS
 ml:∀d∈w,d.lw.length<=1099511627776
 dd:∀d∈w,NA d<=D
 nn:totD w+9*D<N
 kk:N+8*D<=k
 big:w.length+(N+1)*6404<=1099511627776
def VR(NS:List ByteArray)(w:List ah):Prop:=∀n d,w[n]?=some d->DP NS w.length (Qs w Q0 (mP w)) n d
def Z9(hB:ON NS w N D k)(h0:∀n d,w[n]?=some d->DP NS w.length Q0 n d)(I:∀n d,n<i->w[n]?=some d->DP NS w.length (Qs w Q0 (mP w)) n d):
 MC NS (λhp=>hp<i) w (gZ w) (mP w) N:=
 ⟨(SR hB.ml h0 I).imp λ_ h=>h.2.1,hB.err,λn d hd m hm=>((h0 n d hd).sig m hm).1,hB.len,hB.big⟩
def OO(hB:ON NS w N D k):∃b,valid k w=some b/\(b=true->VR NS w):=by
 have hP:∀d∈w,∀n:Nat,∃b,fS k w d n=some b/\(b=true->DP NS w.length Q0 n d):=λd hd n=>by
  have I:=hB.dd d hd;have U:=hB.kk;refine AX (tQ NS w (dp d.gt) d.gt (jQ0 _) k ?_ (hB.nm d hd).1) λm hm=>tQ NS w (dp m.sig) m.sig (jQ0 _) k ?_ ((hB.nm d hd).2 m hm)
  .have:dp d.gt<=NA d:=jRs _ _;omega
  .have:dp m.sig<=NA d:=jQd (oM (jQu.2 ⟨m,hm,rfl⟩)) (jRg _ _);omega
 obtain⟨r,hr⟩:=pw (f:=λ(i:Nat) (d:ah)=>(fS k w d i).map λ(b:Bool)=>if b then(none:Option Bool)else some false) (l:=w) (i:=0) (λhp d hd=>by
  obtain⟨b,hb,_⟩:=hP d hd hp;exact⟨_,by rw[hb];rfl⟩)
 unfold valid;rw[hr];simp only[jQa];cases r with
 |some b=>
  exact M151
 |none=>
  have h0:∀n d,w[n]?=some d->DP NS w.length Q0 n d:=λn d hd=>by
   have:=jA hr n d hd;obtain⟨b,b1,b2⟩:=hP d (jQ8 hd) n;rw[jRd,b1]at this;cases b
   .simp at this
   .exact b2 rfl
  simp only;have hM:∀n d,w[n]?=some d->(∀hp d',hp<n->w[hp]?=some d'->DP NS w.length (Qs w Q0 (mP w)) hp d')->∃b,fB k w d=some b/\(b=true->DP NS w.length (Qs w Q0 (mP w)) n d):=λn d hd j=>
   Dw (Z9 hB h0 j) (h0 n d hd) hB.kk (hB.dd d (jQ8 hd)) hB.nn
  have hS:∀n d,w[n]?=some d->(∀hp d',hp<=n->w[hp]?=some d'->fB k w d'=some true)->DP NS w.length (Qs w Q0 (mP w)) n d:=by
   intro n
   induction n using Nat.strongRecOn with
   |_ n ih=>
    intro d hd eO;obtain⟨b,b1,b2⟩:=hM n d hd λhp d' hj nY=>ih hp hj d' nY λj' d'' Sf abo=>eO j' d'' M abo;rw[eO n d (jQ0 _) hd]at b1;cases b1;exact b2 rfl
  obtain⟨b,hb⟩:=bc (I2 (p:=λd=>bh (fB k w d)) (l:=w) λn d hd j=>bc (by
   obtain⟨b,hb,_⟩:=hM n d hd λhp d' hj nY=>hS hp d' nY λj' d'' Sf abo=>l4 (j j' d'' M abo);exact⟨b,hb⟩))
  refine⟨b,hb,λe=>?_⟩;subst e;have eO:=iE hb;exact λn d hd=>hS n d hd λhp d' _ nY=>eO d' (jQ8 nY)
def Il(NS:List ByteArray)(w:List ah)(t:Y):Prop:=PL w.length NS (Qs w Q0 (mP w)) (λhp=>hp<w.length) 0 false false t
def SY(hB:ON NS w N D k)(hv:VR NS w):MC NS (λhp=>hp<w.length) w (gZ w) (mP w) N:=
 Z9 hB (λn d hd=>by
  have h:=hv n d hd;exact⟨h.un.imp λ_ h=>h.1,h.k1,h.k2,h.k3,λm hm=>⟨(h.sig m hm).1,(h.sig m hm).2.1,(h.sig m hm).2.2.imp λ_ h=>h.1⟩,h.nd,h.fld,h.br⟩) (λn d _ hd=>hv n d hd)
def AY(hB:ON NS w N D k)(ht:∀x∈ei t,x∈NS)(hD:dp t<=D):
 ∃b,placed w k t {decls:=w.length,value:=false,term:=false}=some b/\(b=true->PL w.length NS Q0 (λhp=>hp<w.length) 0 false false t):=by
 obtain⟨b,b1,b2⟩:=tQ NS w (dp t) t (jQ0 _) k (V5 hB.kk) ht {decls:=w.length,value:=false,term:=false};refine⟨b,b1,λh=>?_⟩;have:=b2 h;simp only[Int.ofNat_lt]at this;exact this
def Er(hB:ON NS w N D k)(hv:VR NS w)(j:PL w.length NS Q0 (λhp=>hp<w.length) 0 false false t)(hD:dp t<=D)(g:Bool):
 ∃b,gT w k t g=some b/\(b=true->Il NS w t):=
 xr (SY hB hv) D t hD k hB.kk false false j (V6 (I1 (gZ w) (totD w) (uK w) true true t) hB.nn) g
def Fg(hB:ON NS w N D k)(hv:VR NS w){l:List Y}(hl:∀t∈l,(∀x∈ei t,x∈NS)/\dp t<=D):
 ∃b,nZ k w l=some b/\(b=true->∀t∈l,Il NS w t/\isIface w t=some true):=by
 have hm:=SY hB hv;have hq:=Qc.qb (mP w) 50 hB.err;have hT:∀t∈l,∃b,po (po (bh (placed w k t {decls:=w.length,value:=false,term:=false})) (bh (isIface w t))) (bh (gT w k t true))=some b/\(b=false->Il NS w t/\isIface w t=some true):=λt ht=>by
  obtain⟨a,a1,a2⟩:=AY hB (hl t ht).1 (hl t ht).2;rw[a1];cases a with
  |false=>exact⟨true,rfl,i6⟩
  |true=>
   have j:=a2 rfl;obtain⟨i,hi⟩:=fj hm.hw.plain hq.plain (j.vf (v':=true) (f':=true));rw[hi];cases i with
   |false=>exact⟨true,rfl,i6⟩
   |true=>
    obtain⟨c,c1,c2⟩:=Er hB hv j (hl t ht).2 true;rw[c1];exact⟨!c,rfl,λh=>⟨c2 (G9 h),rfl⟩⟩
 obtain⟨b,hb⟩:=bc (dW (p:=λt=>po (po (bh (placed w k t {decls:=w.length,value:=false,term:=false})) (bh (isIface w t))) (bh (gT w k t true))) (l:=l) λe he=>by obtain⟨b,hb,_⟩:=hT e he;exact⟨b,hb⟩);refine⟨b,by rw[nZ,hb],λe t ht=>?_⟩;subst e;have:=tR (Es hb) t ht;obtain⟨b,b1,b2⟩:=hT t ht;rw[this]at b1;cases b1;exact b2 rfl
end S
namespace P
open S
def TT(T:Y->Prop)(x:Tm):Prop:=∀a,x.jg=some a->T a
def TO(T:Y->Prop)(x:Option Tm):Prop:=∀tm,x=some tm->TT T tm
def TL(T:Y->Prop)(l:List (Option Tm)):Prop:=∀x∈l,TO T x
def TL.nil:TL T []:=λ_ h=>by simp at h
def TL.cons{x:Option Tm}:TL T (x::l)↔TO T x/\TL T l:=by
 unfold TL;simp
def TL.append:TL T (l++l')↔TL T l/\TL T l':=by
 unfold TL;simp only[jQm];exact⟨λh=>⟨λx H=>h x (.inl H),λx H=>h x (.inr H)⟩,λh x H=>H.elim (h.1 x) (h.2 x)⟩
def TO.none:TO T none:=λ_ h=>by cases h
def TO.some{x:Tm}:TO T (some x)↔TT T x:=⟨λh=>h x rfl,λh _ e=>by cases e;exact h⟩
def TT.all:TT T fu:=λ_ h=>by simp[fu]at h
def TL.imp(h:∀a,T a->T' a)(hl:TL T l):TL T' l:=λx H tm e a ha=>h a (hl x H tm e a ha)
def tn(w:List ah)(T:Y->Prop)(id nF:Y->Y->Bool):Prop:=
 ∀x y,T x->T y->id x y=nF x y/\id (az w x) y=nF (az w x) y/\id x (az w y)=nF x (az w y)/\id (az w x) (az w y)=nF (az w x) (az w y)
section
variable{id:Y->Y->Bool}
def qK(h:tn w T id nF){x y:Y}(H:T x)(hy:T y)(tx ty:Bool):l6 id w x y tx ty=l6 nF w x y tx ty:=by
 obtain⟨I,U,h3,h4⟩:=h x y H hy;unfold l6;cases tx<;>cases ty<;>simp[I,U,h3,h4]
def FL(h:tn w T id nF){x y:Tm}(H:TT T x)(hy:TT T y):unionT id w x y=unionT nF w x y:=by
 unfold unionT;split
 .rfl
 .rfl
 .rename_i a b ha hb
  rw[qK h (H a ha) (hy b hb)]
def xt{x y:Tm}(H:TT T x)(hy:TT T y):TT T (unionT id w x y).1/\TO T (unionT id w x y).2:=by
 unfold unionT;split
 .exact⟨H,TO.none⟩
 .exact⟨hy,TO.none⟩
 .split
  .exact⟨H,TO.some.2 hy⟩
  .split
   .exact⟨H,TO.none⟩
   .exact⟨hy,TO.none⟩
def FM(h:tn w T id nF){x y:Option Tm}(H:TO T x)(hy:TO T y):interT id w x y=interT nF w x y:=by
 unfold interT;split
 .rfl
 .rfl
 .rename_i x y
  exact M191
def Pe{x y:Option Tm}(H:TO T x)(hy:TO T y):TO T (interT id w x y):=by
 unfold interT;split
 .exact TO.none
 .exact TO.none
 .split
  .exact hy
  .exact H
  .split
   .exact TO.none
   .split
    .exact H
    .exact hy
def Ll(h:tn w T id nF){x y:Option Tm}(H:TO T x)(hy:TO T y):subT id w x y=subT nF w x y:=by
 unfold subT;split
 .rfl
 .rfl
 .exact M191
def oB:∀{l:List (Option Tm)} {x:Tm} {r:Tm×List (Option Tm)},TT T x->TL T l->absorb id w x l=some r->TT T r.1/\TL T r.2
 |[],x,r,H,hl,h=>by rw[absorb]at h;cases h;exact⟨H,hl⟩
 |none::l,x,r,H,hl,h=>by
  rw[absorb]at h;obtain⟨q,hq,rfl⟩:=jQ6.1 h;have:=oB H (TL.cons.1 hl).2 hq;exact⟨this.1,TL.cons.2 ⟨TO.none,this.2⟩⟩
 |some y::l,x,r,H,hl,h=>by
  rw[absorb]at h;have hu:=xt (id:=id) (w:=w) H (TO.some.1 (TL.cons.1 hl).1);rcases hq:unionT id w x y with⟨u,o⟩;rw[hq]at h hu;cases o with
  |none=>
   simp only at h;split at h
   .cases h
   .obtain⟨q,hq,rfl⟩:=jQ6.1 h;have:=oB hu.1 (TL.cons.1 hl).2 hq;exact⟨this.1,TL.cons.2 ⟨TO.none,this.2⟩⟩
  |some z=>
   simp only at h;obtain⟨q,hq,rfl⟩:=jQ6.1 h;have:=oB H (TL.cons.1 hl).2 hq;exact⟨this.1,TL.cons.2 ⟨(TL.cons.1 hl).1,this.2⟩⟩
def lH(h:tn w T id nF):∀{l:List (Option Tm)} {x:Tm},TT T x->TL T l->absorb id w x l=absorb nF w x l
 |[],x,H,hl=>by rw[absorb,absorb]
 |none::l,x,H,hl=>by rw[absorb,absorb,lH h H (TL.cons.1 hl).2]
 |some y::l,x,H,hl=>by
  have hy:=TO.some.1 (TL.cons.1 hl).1;rw[absorb,absorb,FL h H hy];have hu:=xt (id:=nF) (w:=w) H hy;rcases hq:unionT nF w x y with⟨u,o⟩;rw[hq]at hu;cases o with
  |none=>simp only;rw[lH h hu.1 (TL.cons.1 hl).2]
  |some z=>simp only;rw[lH h H (TL.cons.1 hl).2]
def Au:∀{k:Nat} {l r:List (Option Tm)},TL T l->normA id w k l=some r->TL T r
 |0,l,r,hl,h=>by rw[normA]at h;cases h;exact TL.nil
 |k+1,[],r,hl,h=>by rw[normA]at h;cases h;exact TL.nil;simp
 |k+1,none::l,r,hl,h=>by rw[normA]at h;exact Au (TL.cons.1 hl).2 h
 |k+1,some x::l,r,hl,h=>by
  rw[normA]at h;obtain⟨q,hq,h⟩:=jQ1.1 h;obtain⟨q',xu,rfl⟩:=jQ6.1 h;have:=oB (TO.some.1 (TL.cons.1 hl).1) (TL.cons.1 hl).2 hq;exact TL.cons.2 ⟨TO.some.2 this.1,Au this.2 xu⟩
def qL(h:tn w T id nF):∀{k:Nat} {l:List (Option Tm)},TL T l->normA id w k l=normA nF w k l
 |0,l,hl=>by rw[normA,normA]
 |k+1,[],hl=>by rw[normA,normA]<;>simp
 |k+1,none::l,hl=>by rw[normA,normA];exact qL h (TL.cons.1 hl).2
 |k+1,some x::l,hl=>by
  rw[normA,normA,lH h (TO.some.1 (TL.cons.1 hl).1) (TL.cons.1 hl).2];cases hq:absorb nF w x l with
  |none=>rfl
  |some q=>
   have:=oB (TO.some.1 (TL.cons.1 hl).1) (TL.cons.1 hl).2 hq;simp only[jQa];rw[qL h this.2]
def No(hl:TL T l):TL T (norm id w l):=by
 unfold norm;cases h:normA id w l.length l with
 |none=>simp only[Option.getD];exact TL.cons.2 ⟨TO.some.2 TT.all,TL.nil⟩
 |some r=>exact Au hl h
def Av(h:tn w T id nF)(hl:TL T l):norm id w l=norm nF w l:=by
 unfold norm;rw[qL h hl]
def ot(H:TL T x)(hy:TL T y):TL T (kv id w x y):=No (TL.append.2 ⟨H,hy⟩)
def Fv(h:tn w T id nF)(H:TL T x)(hy:TL T y):kv id w x y=kv nF w x y:=Av h (TL.append.2 ⟨H,hy⟩)
def Aw(H:TL T x)(hy:TL T y):TL T ((x.flatMap λa=>y.map λb=>interT id w a b).filter (·.isSome)):=by
 intro z hz;have:=(List.mem_filter.1 hz).1;obtain⟨a,ha,hz⟩:=List.mem_flatMap.1 this;obtain⟨b,hb,rfl⟩:=jQu.1 hz;exact Pe (H a ha) (hy b hb)
def IC(h:tn w T id nF)(H:TL T x)(hy:TL T y):(x.flatMap λa=>y.map λb=>interT id w a b)=(x.flatMap λa=>y.map λb=>interT nF w a b):=by
 have hm:∀a,a∈x->(y.map λb=>interT id w a b)=(y.map λb=>interT nF w a b):=λa ha=>List.map_congr_left λb hb=>FM h (H a ha) (hy b hb);clear H
 induction x with
 |nil=>rfl
 |cons a x ih=>rw[List.flatMap_cons,List.flatMap_cons,hm a i6,ih (λb hb=>hm b (by simp[hb]))]
def rX(H:TL T x)(hy:TL T y):TL T (eH id w x y):=by
 unfold eH;split
 .exact TL.nil
 .exact No (Aw H hy)
def FN(h:tn w T id nF)(H:TL T x)(hy:TL T y):eH id w x y=eH nF w x y:=by
 unfold eH;rw[IC h H hy,Av h (Aw H hy)]
def Lm(h:tn w T id nF){y:Option Tm}(H:TL T xl)(hy:TO T y):tD id w xl y=tD nF w xl y:=by
 unfold tD
 induction xl with
 |nil=>rfl
 |cons a x ih=>rw[List.any_cons,List.any_cons,Ll h hy (TL.cons.1 H).1,ih (TL.cons.1 H).2]
def Ax(h:tn w T id nF)(H:TL T xl)(hy:TL T yl):nJ id w xl yl=nJ nF w xl yl:=by
 unfold nJ
 congr 1
 induction xl with
 |nil=>rfl
 |cons a x ih=>rw[jRl,jRl,Lm h hy (TL.cons.1 H).1,ih (TL.cons.1 H).2]
def OY(h:tn w T id nF)(H:TL T xl)(hy:TL T yl):Pa id w xl yl=Pa nF w xl yl:=by
 unfold Pa;rw[Ax h H hy,Ax h hy H]
def OX(H:TL T x)(hy:TL T y):TL T (eJ id w cmp x xc y yc).1:=by
 unfold eJ;simp only;split
 .intro z hz;exact rX H hy z (List.mem_filter.1 hz).1
 .exact rX H hy
def Fw(h:tn w T id nF)(hc:∀a,T a->cmp a=abe a)(H:TL T x)(hy:TL T y):
 eJ id w cmp x xc y yc=eJ nF w abe x xc y yc:=by
 unfold eJ;simp only;rw[FN h H hy];have hi:=rX (id:=nF) (w:=w) H hy;have:(eH nF w x y).filter (keepT cmp)=(eH nF w x y).filter (keepT abe):=by
  refine List.filter_congr λz hz=>?_;cases z with
  |none=>rfl
  |some z=>
   unfold keepT;simp only;split
   .rename_i a ha;exact hc a (hi _ hz z rfl a ha)
   .rfl
 rw[this]
end
end P
namespace P
open S
abbrev PT(NS:List ByteArray)(Q:Y->Prop)(w:List ah)(md:Nat)(t:Y):Prop:=PL w.length NS Q (λ_=>True) md true true t
structure WK(NS:List ByteArray)(Q:Y->Prop)(w:List ah)(rs cs:List Nat):Prop where
 ok:mN NS Q (λ_=>True) w rs cs
 sq:∀(n:Nat) (d:ah),w[n]?=some d->d.gt.ld<=10
 sig:∀(n:Nat) (d:ah),w[n]?=some d->∀m∈d.lw,m.sig.ld=7/\isName m.name=true
def _root_.Go.Proofs.YtbdgppghkdibfaaGreatDoor.S.PL.ww(h:PL nw NS Q (λ_=>True) md v f t):PL nw NS Q (λ_=>True) md v' f' t:=PL.up (λ_ _=>trivial) h
structure QP(NS:List ByteArray)(Q:Y->Prop):Prop where
 any:Q fD
 err:Q fC
 Xh:str [69,114,114,111,114]∈NS
def MP(hq:QP NS Q):PL nw NS Q A md v f fC:=M46
def qB:∀{t u:Y},bare t=some u->una t=u
 |.mk k n m v s tg [],u,h=>by
  rw[fo]at h;rw[hZ];split at h
  .simp at h
  .rename_i U;rw[jQ4 U];split at h<;>simp_all
 |.mk k n m v s tg (e::l),u,h=>by
  rw[fo]at h;rw[hZ];split at h
  .rename_i U;rw[jQ7 U];exact qB (t:=e) h
  .rename_i U;rw[jQ4 U];split at h<;>simp_all
def gR(h:PL nw NS Q A md v f t):1<=t.ld/\t.ld<=16:=by
 cases h<;>simp[Y.ld]<;>omega
def cJ(hq:QP NS Q)(h:PT NS Q w md t):PT NS Q w md (una t)/\(∀rs v f,J rs v f (una t)<=J rs v f t)/\(∀cs,bP cs (una t)=bP cs t)/\(una t).ld≠2/\(una t).ld≠14/\(t.ld≠2->t.ld≠14->una t=t):=by
 obtain⟨u,I,U,h3,h4,h5,h6,h7,h8⟩:=fc hq.any [] [] h;have hu:=qB I;subst hu;refine⟨U,λrs v f=>?_,λcs=>?_,h5,h6,h7⟩
 .obtain⟨u,g1,g2,g3,_⟩:=fc hq.any rs [] (h.ww (v':=v) (f':=f));rw[I]at g1;cases g1;exact g3
 .obtain⟨u,g1,g2,g3,g4,_⟩:=fc hq.any [] cs h;rw[I]at g1;cases g1;exact g4
def lq(hw:WK NS Q w rs cs)(hq:QP NS Q)(h:PT NS Q w md t):
 ((az w t=da)\/(PT NS Q w md (az w t)/\(az w t).ld≠2/\(az w t).ld≠11/\(az w t).ld≠14/\(az w t).ld≠15/\(az w t).ld≠16/\(az w t).ld≠17))/\J rs true false (az w t)<=J rs true false t:=by
 obtain⟨I,U, -,h5,h6, -⟩:=cJ hq h;have U:=U rs true false;unfold az oZ;generalize una t=b at*;by_cases dA:b.ld=11
 .rw[jQ7 dA];obtain⟨k,n,m,va,nm,tg,l⟩:=b;simp only[Y.ld]at dA;subst dA;cases I with
  |named a1 a2 a3=>
   have iK:(Y.mk 11 n m va nm tg []).n=n:=rfl;simp only[iK];obtain⟨d,hd⟩:∃d,w[n.toNat]?=some d:=⟨w[n.toNat]' M,i6⟩;rw[hd];obtain⟨hk1,hk2,hk3,QZ,oV,Ag⟩:=hw.ok.kd _ _ hd;have hk:=hw.sq _ _ hd;have hr:=(hw.ok.rk _ _ hd).1;have hJ:J rs true false (.mk 11 n m va nm tg [])=1+rs.getD n.toNat 0:=by simp[bw]
   simp only[Option.map_some,Option.getD_some];have j:=(hw.ok.ok _ _ trivial hd).1.ww (v':=true) (f':=true);exact⟨.inr ⟨j.eS (jQ0 _) (λ_ h=>h) (jQc _) id id,hk1,M,M,M,M,M⟩,M⟩
  |uni h=>omega
  |al h=>omega
  |one h=>omega
 .rw[jQ4 dA];by_cases ka:b.ld=15
  .rw[jQ7 ka];refine⟨.inr ⟨MP hq,i5,i5,i5,i5,i5,i5⟩,?_⟩;obtain⟨k,n,m,va,nm,tg,l⟩:=b;simp only[Y.ld]at ka;subst ka;rw[bw]at U;rw[R0];simp at U;omega
  .rw[jQ4 ka];by_cases ir:b.ld=16
   .rw[jQ7 ir];refine⟨.inl rfl,?_⟩;have:J rs true false da=1:=by simp[da,tk,bw,Js]
    have:=oh rs true false t;omega
   .rw[jQ4 ir];exact⟨.inr ⟨I,h5,dA,h6,ka,ir,V5 (gR I)⟩,U⟩
def jh(hw:WK NS Q w rs cs)(hq:QP NS Q)(h:PT NS Q w md t):J rs false false (az w t)<=J rs true true t/\J rs false false (az w t)<=J rs true false t:=by
 have I:=(lq hw hq h).2;have U:=dM (rs:=rs) (v:=true) (f:=false) (v':=false) (f':=false) i6 id (az w t);have h3:=dM (rs:=rs) (v:=true) (f:=true) (v':=true) (f':=false) id i6 t;omega
def aa2(rs:List Nat)(v f:Bool):J rs v f da=1:=by simp[da,tk,bw,Js]
def Fb(NS:List ByteArray)(Q:Y->Prop)(w:List ah)(t:Y):Prop:=(PT NS Q w 0 t/\t.ld=10)\/t=da
def jO(hw:WK NS Q w rs cs)(hq:QP NS Q)(h:PT NS Q w 0 t)(hi:isIf (az w t)=true):Fb NS Q w (az w t):=by
 rcases(lq hw hq h).1 with e|⟨I,U⟩
 .exact .inr e
 .refine .inl ⟨I,?_⟩;simp[isIf]at hi;omega
def fE(hw:WK NS Q w rs cs)(hq:QP NS Q)(h:PT NS Q w 0 t)(hi:isIf (az w t)=false):PT NS Q w 0 (az w t):=by
 rcases(lq hw hq h).1 with e|⟨I,U⟩
 .rw[e]at hi;simp[isIf,da,tk,Y.ld]at hi
 .exact I
def jH(NS:List ByteArray)(Q:Y->Prop)(w:List ah)(rs:List Nat)(b:Nat)(a:Y):Prop:=PT NS Q w 0 a/\J rs true true a<b/\isIf (az w a)=false
def VW(NS:List ByteArray)(Q:Y->Prop)(w:List ah)(rs:List Nat)(b:Nat)(m:Y):Prop:=m.ld=7/\m.name∈NS/\isName m.name=true/\PT NS Q w 0 m/\J rs false false m<b
def jH.mono(hb:b<=b'){a:Y}(h:jH NS Q w rs b a):jH NS Q w rs b' a:=⟨h.1,V5 h.2.1,h.2.2⟩
def VW.mono(hb:b<=b'){a:Y}(h:VW NS Q w rs b a):VW NS Q w rs b' a:=⟨h.1,h.2.1,h.2.2.1,h.2.2.2.1,V5 h.2.2.2.2⟩
structure adG(NS:List ByteArray)(Q:Y->Prop)(w:List ah)(rs:List Nat)(b:Nat)(s:TS):Prop where
 terms:TL (jH NS Q w rs b) s.terms
 lw:∀m∈s.lw,VW NS Q w rs b m
 nodup:(s.lw.map (·.name)).Nodup
def uO(NS:List ByteArray)(Q:Y->Prop)(w:List ah)(rs:List Nat)(r:Nat)(F:Fs):Prop:=∀t,Fb NS Q w t->2*J rs false false t<r->adG NS Q w rs (J rs false false t) (F.ts t)
structure ks(NS:List ByteArray)(Q:Y->Prop)(w:List ah)(rs:List Nat)(r:Nat)(F G:Fs):Prop where
 id:∀x y,PT NS Q w 0 x->PT NS Q w 0 y->2*J rs false false x+1<r->2*J rs false false y+1<r->F.id x y=G.id x y
 cmp:∀t d,PT NS Q w 0 t->2*J rs true false t+1<r->F.cmp t d=G.cmp t d
 ts:∀t,Fb NS Q w t->2*J rs false false t<r->F.ts t=G.ts t
def ks.aa8(hw:WK NS Q w rs cs)(hq:QP NS Q)(h:ks NS Q w rs r F G)(hb:2*b<=r):tn w (jH NS Q w rs b) F.id G.id:=by
 intro x y H hy;have jx:=dM (rs:=rs) (v:=true) (f:=true) (v':=false) (f':=false) i6 i6 x;have jy:=dM (rs:=rs) (v:=true) (f:=true) (v':=false) (f':=false) i6 i6 y;have ux:=(jh hw hq H.1).1;have uy:=(jh hw hq hy.1).1;have I:=H.2.1;have U:=hy.2.1;exact⟨h.id _ _ H.1 hy.1 M M,h.id _ _ (fE hw hq H.1 H.2.2) hy.1 M M,h.id _ _ H.1 (fE hw hq hy.1 hy.2.2) M M,h.id _ _ (fE hw hq H.1 H.2.2) (fE hw hq hy.1 hy.2.2) M M⟩
def ks.ZP(h:ks NS Q w rs r F G)(hb:2*b<=r)(d:Bool):∀a,jH NS Q w rs b a->F.cmp a d=G.cmp a d:=by
 intro a ha;have ja:=dM (rs:=rs) (v:=true) (f:=true) (v':=true) (f':=false) (λh=>h) i6 a;have:=ha.2.1;exact h.cmp a d ha.1 M
def ep(e:Y):Y:=if e.ld==13 then e.li.headD fD else e
def Fu(h:PT NS Q w 1 e):PT NS Q w 0 (ep e)/\J rs true true (ep e)<=J rs true true e:=by
 obtain⟨a,I,U,h3⟩:=xg (rs:=rs) h (rT h);have:ep e=a:=by
  unfold ep;by_cases cg:e.ld=13
  .rw[jQ7 cg]at I;rw[jQ7 (G9 cg)];cases hl:e.li with
   |nil=>rw[hl]at I;simp at I
   |cons y l=>rw[hl]at I;simpa using I
  .rw[jQ4 cg]at I;rw[jQ4 (G9 cg)];simpa using I
 rw[this];exact⟨U,h3⟩
def uP(F e):oq F w e=if isIf (az w (ep e))then(F.ts (az w (ep e))).terms else if (e.ld==13)&&!F.id (ep e) (az w (ep e))then[none]else[some ⟨e.ld==13,some (ep e)⟩]:=rfl
def Ah(hw:WK NS Q w rs cs)(hq:QP NS Q)(hS:ks NS Q w rs r F G)(hA:uO NS Q w rs r F)(h:PT NS Q w 1 e)(hJ:J rs true true e<b)(hb:2*b<=r):
 oq F w e=oq G w e/\TL (jH NS Q w rs b) (oq F w e):=by
 rw[uP,uP];obtain⟨I,U⟩:=Fu (rs:=rs) h;generalize ep e=x at*;have hu:=jh hw hq I;have jx:=dM (rs:=rs) (v:=true) (f:=true) (v':=false) (f':=false) i6 i6 x;cases hi:isIf (az w x)with
 |true=>
  have hI:=jO hw hq I hi;simp only[if_true];have hs:=hA _ hI M;rw[hS.ts _ hI M]at*;exact⟨rfl,hs.terms.imp λa ha=>ha.mono M⟩
 |false=>
  simp only[jQk,jR1];rw[hS.id _ _ I (fE hw hq I hi) M M];refine⟨rfl,?_⟩;split
  .exact TL.cons.2 ⟨TO.none,TL.nil⟩
  .refine TL.cons.2 ⟨TO.some.2 ?_,TL.nil⟩;intro a ha;simp at ha;subst ha;exact⟨I,M,hi⟩
def lr(hw:WK NS Q w rs cs)(hq:QP NS Q){r b:Nat}{F G:Fs}(hS:ks NS Q w rs r F G)(hA:uO NS Q w rs r F)(hb:2*b<=r):
 ∀{l:List Y} {acc:List (Option Tm)},(∀e∈l,PT NS Q w 1 e/\J rs true true e<b)->TL (jH NS Q w rs b) acc->
  unionTerms F w acc l=unionTerms G w acc l/\∀q,unionTerms F w acc l=some q->TL (jH NS Q w rs b) q
 |[],acc,_,ha=>⟨by rw[unionTerms,unionTerms],λq hq=>by rw[unionTerms]at hq;cases hq;exact ha⟩
 |e::l,acc,hl,ha=>by
  obtain⟨I,U⟩:=Ah hw hq hS hA (hl e i6).1 (hl e i6).2 hb;have hi:=hS.aa8 hw hq hb;rw[unionTerms,unionTerms,<-I,Fv hi ha U];have h3:=ot (id:=G.id) (w:=w) ha U;split
  .exact⟨rfl,λq hq=>by cases hq⟩
  .exact lr hw hq hS hA hb (λe he=>hl e (by simp[he])) h3
def uQ(h:PT NS Q w 2 e)(hk:e.ld=12):∀x∈e.li,PT NS Q w 1 x/\J rs true true x<J rs true true e:=by
 obtain⟨k,n,m,va,nm,tg,l⟩:=e;simp only[Y.ld]at hk;subst hk;cases h with
 |un a b c d=>
  intro x H;refine⟨d x H,?_⟩;have hx':x∈l:=H;have:=jP (rs:=rs) (v:=true) (f:=true) hx';rw[bw];simp;omega
 |uni h=>omega
 |al h=>omega
 |one h=>omega
def tw(h:PT NS Q w 2 e)(hk:e.ld=13):PT NS Q w 1 e:=by
 obtain⟨k,n,m,va,nm,tg,l⟩:=e;simp only[Y.ld]at hk;subst hk;cases h with
 |ti a b=>exact .ti i5 b
 |uni h=>omega
 |al h=>omega
 |one h=>omega
def yo(hw:WK NS Q w rs cs)(hq:QP NS Q)(hS:ks NS Q w rs r F G)(hA:uO NS Q w rs r F)(h:PT NS Q w 2 e)(hJ:J rs true true e<b)(hb:2*b<=r):
 gu F w e=gu G w e/\∀i,gu F w e=some i->TL (jH NS Q w rs b) i.terms/\∀m∈i.ms,VW NS Q w rs b m:=by
 unfold gu;by_cases cQ:e.ld=12
 .rw[jQ7 cQ,jQ7 cQ];obtain⟨I,U⟩:=lr hw hq hS hA hb (acc:=[]) (λx H=>⟨(uQ (rs:=rs) h cQ x H).1,V5 ((uQ (rs:=rs) h cQ x H).2)⟩) TL.nil;exact M176
 .rw[jQ4 cQ,jQ4 cQ];by_cases cg:e.ld=13
  .rw[jQ7 cg,jQ7 cg];obtain⟨I,U⟩:=lr hw hq hS hA hb (acc:=[]) (l:=[e]) (λx H=>by simp at H;subst H;exact⟨tw h cg,hJ⟩) TL.nil;exact M176
  .rw[jQ4 cg,jQ4 cg];have h0:=pg h M;have hu:=jh hw hq h0;simp only;cases hi:isIf (az w e)with
   |true=>
    have hI:=jO hw hq h0 hi;have hs:=hA _ hI M;have he:=hS.ts _ hI M;rw[jQ7 rfl,jQ7 rfl,<-he];refine⟨rfl,λi hi=>?_⟩;cases hi;exact⟨hs.terms.imp λa ha=>ha.mono M,λm hm=>(hs.lw m hm).mono M⟩
   |false=>
    rw[jQ4 i6,jQ4 i6];refine⟨rfl,λi Xi=>?_⟩;cases Xi;refine⟨TL.cons.2 ⟨TO.some.2 ?_,TL.nil⟩,i6⟩;intro a ha;simp at ha;subst ha;exact⟨h0,M,hi⟩
structure uR(NS:List ByteArray)(Q:Y->Prop)(w:List ah)(rs:List Nat)(b:Nat)(a:Acc):Prop where
 terms:TL (jH NS Q w rs b) a.terms
 ms:∀m∈a.ms,VW NS Q w rs b m
 nodup:(a.ms.map (·.name)).Nodup
def De(hw:WK NS Q w rs cs)(hq:QP NS Q)(hS:ks NS Q w rs r F G)(hA:uO NS Q w rs r F)(h:PT NS Q w 2 e)(hJ:J rs true true e<b)(hb:2*b<=r)(ha:uR NS Q w rs b a):
 eG F w a e=eG G w a e/\uR NS Q w rs b (eG F w a e):=by
 obtain⟨I,U⟩:=yo hw hq hS hA h hJ hb;unfold eG;rw[<-I];cases hi:gu F w e with
 |none=>exact⟨rfl,ha⟩
 |some i=>
  obtain⟨g1,g2⟩:=U i hi;simp only;have hid:=hS.aa8 hw hq hb;have hc:=hS.ZP hb false;rw[Fw hid hc ha.terms g1];exact⟨rfl,OX ha.terms g1,kU ha.ms g2,iM ha.nodup⟩
def ph(hw:WK NS Q w rs cs)(hq:QP NS Q){r b:Nat}{F G:Fs}(hS:ks NS Q w rs r F G)(hA:uO NS Q w rs r F)(hb:2*b<=r):
 ∀{l:List Y} {a:Acc},(∀e∈l,PT NS Q w 2 e/\J rs true true e<b)->uR NS Q w rs b a->l.foldl (eG F w) a=l.foldl (eG G w) a/\uR NS Q w rs b (l.foldl (eG F w) a)
 |[],a,_,ha=>⟨rfl,ha⟩
 |e::l,a,hl,ha=>by
  obtain⟨I,U⟩:=De hw hq hS hA (hl e i6).1 (hl e i6).2 hb ha;rw[List.foldl_cons,List.foldl_cons,<-I];exact ph hw hq hS hA hb (λe he=>hl e (by simp[he])) U
def tz(l):(ib l).Perm l:=List.mergeSort_perm _ _
def Nc(hw:WK NS Q w rs cs)(hq:QP NS Q)(hS:ks NS Q w rs r F G)(hA:uO NS Q w rs r F)(h:Fb NS Q w t)(hr:2*J rs false false t<r+1):
 iH F w t=iH G w t/\adG NS Q w rs (J rs false false t) (iH F w t):=by
 unfold iH;rcases h with⟨h,bH⟩|rfl
 .rw[jQ4 M,jQ4 M];obtain⟨-, -,e3,e4,e5, -, -⟩:=cu (rs:=rs) (cs:=[]) (h.ww (v':=false) (f':=false)) bH;have ha:uR NS Q w rs (J rs false false t) ⟨(own t).foldl lF [],[some fu],false⟩:=M122
  obtain⟨I,U⟩:=ph hw hq hS hA (b:=J rs false false t) (l:=bN t) M (λe he=>⟨(e3 e he).1.ww,(e3 e he).2⟩) ha;simp only;rw[<-I];refine⟨rfl,U.terms,λm hm=>U.ms m ((tz _).mem_iff.1 hm),?_⟩;exact((tz _).map _).nodup_iff.2 U.nodup
 .rw[jQ7 (show da.ld=17 from rfl),jQ7 (show da.ld=17 from rfl)];exact⟨rfl,TL.cons.2 ⟨TO.some.2 TT.all,TL.nil⟩,i6,i6⟩
def all_congr{α:Type}{p q:α->Bool}:∀{l:List α},(∀a∈l,p a=q a)->l.all p=l.all q
 |[],_=>rfl
 |a::l,h=>by rw[jRl,jRl,h a i6,all_congr λb hb=>h b (by simp[hb])]
def Iq{s:TS}(h:∀x∈s.terms,∀tm,x=some tm->∀a,tm.jg=some a->F.cmp a false=G.cmp a false):lB F s=lB G s:=by
 unfold lB;split
 .rfl
 .split
  .rfl
  .refine all_congr λx H=>?_;cases x with
   |none=>rfl
   |some x=>
    simp only;split
    .rename_i a ha;exact h _ H x rfl a ha
    .rfl
def ov{u:Y}(h:PT NS Q w 0 u)(hk:u.ld=5\/u.ld=3):∀e∈u.li,PT NS Q w 0 e/\J rs true false e<J rs true false u:=by
 obtain⟨k,n,m,va,nm,tg,l⟩:=u;simp only[Y.ld]at hk;have hj:∀e∈l,J rs true false e<J rs true false (.mk k n m va nm tg l):=by
  intro e he;have:=jP (rs:=rs) (v:=true) (f:=false) he;rw[bw,jQ4 M,jQ4 M,jQ4 M,jQ7 M];omega
 intro e he;refine⟨?_,hj e he⟩;cases h with
 |al a b c=>simp[Y.li]at he;subst he;exact c
 |st a b c=>exact c e he
 |one a=>omega
 |uni a=>omega
 |_=>omega
def R1(hw:WK NS Q w rs cs)(hq:QP NS Q)(hS:ks NS Q w rs r F G)(hA:uO NS Q w rs r F)(h:PT NS Q w 0 t)(d:Bool)(hr:2*J rs true false t+1<r+1):
 bX F w t d=bX G w t d:=by
 obtain⟨hu,hj⟩:=lq hw hq h;have VV:=jh hw hq h;unfold bX;simp only;split
 .rfl
 .split
  .rename_i h5
   obtain e|⟨hu, -⟩:=hu
   .rw[e]at h5;simp[da,tk,Y.ld]at h5
   .refine all_congr λe he=>?_;obtain⟨p1,p2⟩:=ov (rs:=rs) hu (.inl h5) e he;exact hS.cmp e d p1 M
  .split
   .rename_i h3
    obtain e|⟨hu, -⟩:=hu
    .rw[e]at h3;simp[da,tk,Y.ld]at h3
    .have j:=ov (rs:=rs) hu (.inr h3);cases hl:(az w t).li with
     |nil=>exact absurd hl (by
      generalize az w t=u at*;obtain⟨k,n,m,va,nm,tg,l⟩:=u;simp only[Y.ld]at h3;subst h3;cases hu with
      |al a b c=>simp[Y.li]
      |uni a=>omega
      |one a=>omega)
     |cons x l=>
      rw[hl]at j;obtain⟨p1,p2⟩:=j x i6;exact hS.cmp x d p1 M
   .split
    .rename_i hi
     have hI:=jO hw hq h hi;have hs:=hA _ hI M;rw[hS.ts _ hI M]at*;rw[Iq (F:=F) (G:=G) λx H tm e a ha=>?_];exact hS.ZP (b:=J rs false false (az w t)) M false a (hs.terms x H tm e a ha)
    .rfl
def rU{id nF:Y->Y->Bool}:∀{l l':List Y},(∀a∈l,∀b∈l',id a b=nF a b)->idL id l l'=idL nF l l'
 |[],[],_=>rfl
 |[],_::_,_=>rfl
 |_::_,[],_=>rfl
 |a::l,b::l',h=>by
  rw[idL,idL,h a i6 b i6,rU λx H y hy=>h x (by simp[H]) y (by simp[hy])]
def Fx{α β:Type}:∀{l:List α} {l':List β} {p:α×β},p∈l.zip l'->p.1∈l/\p.2∈l'
 |[],_,p,h=>by simp at h
 |_::_,[],p,h=>by simp at h
 |a::l,b::l',p,h=>by
  rw[List.zip_cons_cons]at h;rcases jQn.1 h with rfl|h
  .exact⟨i6,i6⟩
  .have:=Fx h;exact⟨by simp[this.1],by simp[this.2]⟩
def Xj(hw:WK NS Q w rs cs)(hq:QP NS Q)(hS:ks NS Q w rs r F G)(hA:uO NS Q w rs r F){x y:Y}(H:PT NS Q w 0 x)(hy:PT NS Q w 0 y)(hrx:2*J rs false false x+1<r+1)(hry:2*J rs false false y+1<r+1):jQ F w x y=jQ G w x y:=by
 obtain⟨px,jx, -,kx,kx', -⟩:=cJ hq H;obtain⟨py,jy, -,ky,ky', -⟩:=cJ hq hy;have jx:=jx rs false false;have jy:=jy rs false false;unfold jQ;simp only;generalize una x=x' at*;generalize una y=y' at*;by_cases hi:isIf x'=true/\isIf y'=true
 .have hf:(isIf x'&&isIf y')=true:=by simp[hi]
  simp only[hf,if_true];have ix:Fb NS Q w x':=.inl ⟨px,by have:=gR px;simp[isIf]at hi;omega⟩;have iy:Fb NS Q w y':=.inl ⟨py,by have:=gR py;simp[isIf]at hi;omega⟩;have sx:=hA _ ix M;have sy:=hA _ iy M;rw[hS.ts _ ix M,hS.ts _ iy M]at*;have hb:2*max (J rs false false x') (J rs false false y')<=r:=M
  rw[OY (hS.aa8 hw hq hb) (sx.terms.imp λa ha=>ha.mono (jRs _ _)) (sy.terms.imp λa ha=>ha.mono (jRg _ _))]
  congr 1
  refine all_congr λp j=>?_;have:=Fx j;obtain⟨-, -, -,q1,q2⟩:=sx.lw _ this.1;obtain⟨-, -, -,q3,q4⟩:=sy.lw _ this.2;rw[hS.id _ _ q1 q3 M M]
 .have hf:(isIf x'&&isIf y')=false:=by
   cases I:isIf x'<;>cases U:isIf y'<;>simp_all
  simp only[hf,jQk,jR1];by_cases hk:x'.ld≠y'.ld
  .simp only[jQ7 hk]
  .simp only[jQ4 hk];have aa9:x'.ld≠10:=λe=>hi ⟨by simp[isIf,e],by simp[isIf];omega⟩;have ex:=ow (rs:=rs) (px.ww (v':=false) (f':=false)) aa9;have ey:=ow (rs:=rs) (py.ww (v':=false) (f':=false)) M;have hid:∀a∈x'.li,∀b∈y'.li,F.id a b=G.id a b:=λa ha b hb=>by
    have I:=ex a ha;have U:=ey b hb;exact hS.id _ _ I.1.ww U.1.ww M M
   rw[rU hid,rU (l:=own x') (l':=own y') (λa ha b hb=>hid a (jQt ha) b (jQt hb)),
    rU (l:=bN x') (l':=bN y') (λa ha b hb=>hid a (jR2 ha) b (jR2 hb)),
    all_congr (l:=x'.li.zip y'.li) (p:=λp=>aE p.1.gc p.2.gc&&aE p.1.name p.2.name&&F.id p.1 p.2) (q:=λp=>aE p.1.gc p.2.gc&&aE p.1.name p.2.name&&G.id p.1 p.2) (λp j=>by
     have:=Fx j;rw[hid _ this.1 _ this.2])]
def eZ(hw:WK NS Q w rs cs)(hq:QP NS Q):∀(r k k':Nat),r<=k->r<=k'->ks NS Q w rs r (fs w k) (fs w k')/\uO NS Q w rs r (fs w k)
 |0,k,k',_,_=>⟨⟨λ_ _ _ _ h _=>M,λ_ _ _ h=>M,λ_ _ h=>M⟩,λ_ _ h=>M⟩
 |r+1,k,k',hk,hk'=>by
  obtain⟨k,rfl⟩:∃hp,k=hp+1:=⟨k - 1,M⟩;obtain⟨k',rfl⟩:∃hp,k'=hp+1:=⟨k' - 1,M⟩;obtain⟨hS,hA⟩:=eZ hw hq r k k' M M;rw[fs,fs];exact⟨⟨λx y H hy I U=>Xj hw hq hS hA H hy I U,λt d h hr=>R1 hw hq hS hA h d hr,λt h hr=>(Nc hw hq hS hA h hr).1⟩,λt h hr=>(Nc hw hq hS hA h hr).2⟩
end P
namespace P
open S
def Tp(x:Option Tm):Prop:=∃b a,x=some ⟨b,some a⟩
def AL(l:List (Option Tm)):Prop:=∀x∈l,∀tm,x=some tm->tm.jg=none->tm=fu
def NF(l:List (Option Tm)):Prop:=l=[some fu]\/∀x∈l,Tp x
def NF.al(h:NF l):AL l:=by
 intro x H tm e he;obtain rfl|h:=h
 .simp at H;subst H;simpa using e.symm
 .obtain⟨b,a,e'⟩:=h x H;rw[e']at e;cases e;simp at he
def AL.cons{x:Option Tm}:AL (x::l)↔(∀tm,x=some tm->tm.jg=none->tm=fu)/\AL l:=by unfold AL;simp
def AL.append(h:AL l)(h':AL l'):AL (l++l'):=λx H=>(jQm.1 H).elim (h x) (h' x)
def NU(l:List (Option Tm)):Prop:=∀x∈l,∀tm,x=some tm->tm.jg≠none
def fg(x:Option Tm)(l:List (Option Tm)):isAllL (x::l)=((match x with|some x=>x.jg.isNone|none=>false)||isAllL l):=rfl
def um:isAllL l=true↔∃tm,some tm∈l/\tm.jg=none:=by
 unfold isAllL;rw[List.any_eq_true];constructor
 .rintro⟨x,H,h⟩;cases x with
  |none=>simp at h
  |some x=>exact⟨x,H,G9 h⟩
 .rintro⟨tm,H,h⟩;exact⟨some tm,H,G9 h⟩
def oR:isAllL l=false↔NU l:=by
 rw[<-Bool.not_eq_true,um];constructor
 .intro h x H tm e he;subst e;exact h ⟨tm,H,he⟩
 .rintro h ⟨tm,H,he⟩;exact h _ H tm rfl he
def NF.one(h:NF l)(ha:isAllL l=true):l=[some fu]:=by
 obtain h|h:=h
 .exact h
 .obtain⟨tm,H,he⟩:=um.1 ha;obtain⟨b,a,e⟩:=h _ H;cases e;simp at he
def NF.tp(h:NF l)(ha:isAllL l=false):∀x∈l,Tp x:=by
 obtain rfl|h:=h
 .simp[isAllL,fu]at ha
 .exact h
section
variable{id:Y->Y->Bool}
def Mn{x y:Tm}(h:unionT id w x y=(u,some z)):u=x/\z=y/\x.jg≠none/\y.jg≠none:=by
 unfold unionT at h;split at h
 .simp at h
 .simp at h
 .rename_i a b ha hb
  split at h
  .simp at h;exact⟨h.1.symm,h.2.symm,by simp[ha],by simp[hb]⟩
  .split at h<;>simp at h
def Cm{x y:Tm}(h:unionT id w x y=(u,none)):(u=x\/u=y)/\(u.jg≠none->x.jg≠none/\y.jg≠none):=by
 unfold unionT at h;split at h
 .rename_i H;simp at h;subst h;exact⟨.inl rfl,λh=>absurd H h⟩
 .rename_i H _;simp at h;subst h;exact⟨.inr rfl,λh=>absurd H h⟩
 .rename_i a b ha hb
  split at h
  .simp at h
  .split at h<;>simp at h<;>subst h<;>exact⟨i6,λ_=>⟨by simp[ha],by simp[hb]⟩⟩
def pO:∀{l:List (Option Tm)} {x:Tm} {r:Tm×List (Option Tm)},absorb id w x l=some r->r.2.length=l.length
 |[],x,r,h=>by rw[absorb]at h;cases h;rfl
 |none::l,x,r,h=>by
  rw[absorb]at h;obtain⟨q,hq,rfl⟩:=jQ6.1 h;simp[pO hq]
 |some y::l,x,r,h=>by
  rw[absorb]at h;rcases hq:unionT id w x y with⟨u,o⟩;rw[hq]at h;cases o with
  |none=>
   simp only at h;split at h
   .cases h
   .obtain⟨q,hq,rfl⟩:=jQ6.1 h;simp[pO hq]
  |some z=>
   simp only at h;obtain⟨q,hq,rfl⟩:=jQ6.1 h;simp[pO hq]
def lV:∀{l:List (Option Tm)} {x:Tm} {r:Tm×List (Option Tm)},absorb id w x l=some r->NU r.2/\(x.jg≠none->r.1.jg≠none/\NU l)/\(x.jg=none->r.1=x/\∀y∈l,y=none)
 |[],x,r,h=>by rw[absorb]at h;cases h;exact⟨λ_ h=>by simp at h,λh=>⟨h,λ_ h=>by simp at h⟩,λ_=>⟨rfl,i6⟩⟩
 |none::l,x,r,h=>by
  rw[absorb]at h;obtain⟨q,hq,rfl⟩:=jQ6.1 h;obtain⟨I,U,h3⟩:=lV hq;refine⟨?_,λH=>⟨(U H).1,?_⟩,λH=>⟨(h3 H).1,?_⟩⟩
  .intro z hz tm e;rcases jQn.1 hz with rfl|hz
   .cases e
   .exact I z hz tm e
  .intro z hz tm e;rcases jQn.1 hz with rfl|hz
   .cases e
   .exact(U H).2 z hz tm e
  .intro y hy;rcases jQn.1 hy with rfl|hy
   .rfl
   .exact(h3 H).2 y hy
 |some y::l,x,r,h=>by
  rw[absorb]at h;rcases hq:unionT id w x y with⟨u,o⟩;rw[hq]at h;cases o with
  |none=>
   obtain⟨g1,g2⟩:=Cm hq;simp only at h;split at h
   .cases h
   .rename_i hu
    have Wd:u.jg≠none:=G9 hu
    obtain⟨q,hq,rfl⟩:=jQ6.1 h;obtain⟨I,U,h3⟩:=lV hq;refine⟨?_,λH=>⟨(U Wd).1,?_⟩,λH=>absurd H (g2 Wd).1⟩
    .intro z hz tm e;rcases jQn.1 hz with rfl|hz
     .cases e
     .exact I z hz tm e
    .intro z hz tm e;rcases jQn.1 hz with rfl|hz
     .cases e;exact(g2 Wd).2
     .exact(U Wd).2 z hz tm e
  |some z'=>
   obtain⟨g1,g2,g3,g4⟩:=Mn hq;simp only at h;obtain⟨q,hq,rfl⟩:=jQ6.1 h;obtain⟨I,U,h3⟩:=lV hq;refine⟨?_,λH=>⟨(U H).1,?_⟩,λH=>absurd H g3⟩
   .intro z hz tm e;rcases jQn.1 hz with rfl|hz
    .cases e;exact g4
    .exact I z hz tm e
   .intro z hz tm e;rcases jQn.1 hz with rfl|hz
    .cases e;exact g4
    .exact(U H).2 z hz tm e
def nz:∀{l:List (Option Tm)} {x:Tm},absorb id w x l=none->isAllL (some x::l)=true
 |[],x,h=>by rw[absorb]at h;cases h
 |none::l,x,h=>by
  rw[absorb]at h;have:=nz (Option.map_eq_none_iff.1 h);rw[fg]at this⊢;simpa[fg]using this
 |some y::l,x,h=>by
  rw[absorb]at h;rcases hq:unionT id w x y with⟨u,o⟩;rw[hq]at h;cases o with
  |none=>
   obtain⟨g1,g2⟩:=Cm hq;simp only at h;split at h
   .rename_i hu
    obtain rfl|rfl:=g1
    .simp[fg,hu]
    .simp[fg,hu]
   .have:=nz (Option.map_eq_none_iff.1 h);obtain rfl|rfl:=g1
    .exact M138
    .exact M138
  |some z=>
   simp only at h;have:=nz (Option.map_eq_none_iff.1 h);exact M138
def xY:∀{k:Nat} {l r:List (Option Tm)},normA id w k l=some r->r.length<=l.length
 |0,l,r,h=>by rw[normA]at h;cases h;simp
 |k+1,[],r,h=>by rw[normA]at h;cases h;simp;simp
 |k+1,none::l,r,h=>by rw[normA]at h;have:=xY h;simp;omega
 |k+1,some x::l,r,h=>by
  rw[normA]at h;obtain⟨q,hq,h⟩:=jQ1.1 h;obtain⟨q',xu,rfl⟩:=jQ6.1 h;have I:=pO hq;have U:=xY xu;simp;omega
def Cn:∀{k:Nat} {l r:List (Option Tm)},NU l->normA id w k l=some r->∀x∈r,Tp x
 |0,l,r,_,h=>by rw[normA]at h;cases h;simp
 |k+1,[],r,_,h=>by rw[normA]at h;cases h;simp;simp
 |k+1,none::l,r,hn,h=>by rw[normA]at h;exact Cn (λx H=>hn x (by simp[H])) h
 |k+1,some x::l,r,hn,h=>by
  rw[normA]at h;obtain⟨q,hq,h⟩:=jQ1.1 h;obtain⟨q',xu,rfl⟩:=jQ6.1 h;obtain⟨I,U,_⟩:=lV hq;have H:=hn (some x) i6 x rfl;intro z hz;rcases jQn.1 hz with rfl|hz
  .have:=(U H).1;obtain⟨⟨b,a⟩,q2⟩:=q;cases a with
   |none=>exact absurd rfl this
   |some a=>exact⟨_,_,rfl⟩
  .exact Cn I xu z hz
def Co:∀{k:Nat} {l:List (Option Tm)},(∀x∈l,x=none)->normA id w k l=some []
 |0,l,_=>by rw[normA]
 |k+1,[],_=>by rw[normA];simp
 |k+1,none::l,h=>by rw[normA];exact Co λx H=>h x (by simp[H])
 |k+1,some x::l,h=>by have:=h (some x) i6;cases this
def yP:∀{l:List (Option Tm)} {x:Tm} {r:Tm×List (Option Tm)},(∀y∈l,y=none)->absorb id w x l=some r->∀y∈r.2,y=none
 |[],x,r,_,h=>by rw[absorb]at h;cases h;simp
 |none::l,x,r,hl,h=>by
  rw[absorb]at h;obtain⟨q,hq,rfl⟩:=jQ6.1 h;intro y hy;rcases jQn.1 hy with rfl|hy
  .rfl
  .exact yP (λy hy=>hl y (by simp[hy])) hq y hy
 |some y::l,x,r,hl,h=>by have:=hl (some y) i6;cases this
def EU:∀{k:Nat} {l r:List (Option Tm)},l.length<=k->AL l->isAllL l=true->normA id w k l=some r->r=[some fu]
 |0,l,r,hk,_,ha,_=>by
  have:=jQe (l:=l) M;subst this;simp[isAllL]at ha
 |k+1,[],r,_,_,ha,_=>by simp[isAllL]at ha
 |k+1,none::l,r,hk,hl,ha,h=>by
  rw[normA]at h;exact EU (by simp at hk;omega) (AL.cons.1 hl).2 (by simpa[fg]using ha) h
 |k+1,some x::l,r,hk,hl,ha,h=>by
  rw[normA]at h;obtain⟨q,hq,h⟩:=jQ1.1 h;obtain⟨q',xu,rfl⟩:=jQ6.1 h;obtain⟨I,U,h3⟩:=lV hq;by_cases H:x.jg=none
  .obtain⟨g1,g2⟩:=h3 H;rw[Co (yP g2 hq)]at xu;cases xu;rw[g1,(AL.cons.1 hl).1 x rfl H]
  .obtain⟨g1,g2⟩:=U H;exfalso;obtain⟨tm,hm,he⟩:=um.1 ha;rcases jQn.1 hm with e|hm
   .cases e;exact H he
   .exact g2 _ hm tm rfl he
def uo:∀{k:Nat} {l:List (Option Tm)},normA id w k l=none->isAllL l=true
 |0,l,h=>by rw[normA]at h;cases h
 |k+1,[],h=>by rw[normA]at h;cases h;simp
 |k+1,none::l,h=>by rw[normA]at h;simpa[fg]using uo h
 |k+1,some x::l,h=>by
  rw[normA]at h;cases hq:absorb id w x l with
  |none=>exact nz hq
  |some q=>
   rw[hq]at h;simp only[jQa,Option.map_eq_none_iff]at h;have:=oR.2 (lV hq).1;rw[uo h]at this;cases this
def F8(hl:AL l):NF (norm id w l)/\isAllL (norm id w l)=isAllL l/\(norm id w l).length<=max l.length 1/\(isAllL l=false->(norm id w l).length<=l.length):=by
 have I:isAllL [some fu]=true:=by simp[isAllL,fu]
 unfold norm;cases h:normA id w l.length l with
 |none=>rw[uo h];exact⟨.inl rfl,I,by simp[Option.getD];omega,i6⟩
 |some r=>
  simp only[Option.getD];have hlen:=xY h;cases ha:isAllL l with
  |true=>
   have:=EU (jQ0 _) hl ha h;subst this;exact⟨.inl rfl,I,by simp;omega,i6⟩
  |false=>
   have:=Cn (oR.1 ha) h;refine⟨.inr this,?_,M,λ_=>hlen⟩;rw[oR];intro x H tm e he;obtain⟨b,a,e'⟩:=this x H;rw[e']at e;cases e;simp at he
def UK(H:AL x)(hy:AL y):AL ((x.flatMap λa=>y.map λb=>interT id w a b).filter (·.isSome)):=by
 intro z hz tm e he;have:=(List.mem_filter.1 hz).1;obtain⟨a,ha,hz⟩:=List.mem_flatMap.1 this;obtain⟨b,hb,rfl⟩:=jQu.1 hz;have:interT id w a b=none\/interT id w a b=a\/interT id w a b=b:=by
  unfold interT;split
  .exact .inl rfl
  .exact .inl rfl
  .split
   .exact .inr (.inr rfl)
   .exact .inr (.inl rfl)
   .split
    .exact .inl rfl
    .split
     .exact .inr (.inl rfl)
     .exact .inr (.inr rfl)
 obtain h|h|h:=this
 .rw[h]at e;cases e
 .rw[h]at e;exact H _ ha tm e he
 .rw[h]at e;exact hy _ hb tm e he
def ES(x y:List (Option Tm)):((x.flatMap λa=>y.map λb=>interT id w a b).filter (·.isSome)).length<=x.length*y.length:=by
 refine jQd (List.length_filter_le _ _) ?_
 induction x with
 |nil=>simp
 |cons a x ih=>rw[List.flatMap_cons,jQo,jR7,List.length_cons,Nat.succ_mul];omega
def Qm(H:x=[some fu])(hy:y=[some fu]):((x.flatMap λa=>y.map λb=>interT id w a b).filter (·.isSome))=[some fu]:=by
 subst H hy;simp[interT,fu]
def EV(H:NF x)(hy:NF y):NF (eH id w x y)/\(eH id w x y).length<=x.length*y.length/\(isAllL x=true->isAllL y=true->isAllL (eH id w x y)=true):=by
 unfold eH;split
 .rename_i he
  refine⟨.inr i6,i6,λI U=>?_⟩;rw[H.one I,hy.one U]at he;simp[aK]at he
 .rename_i he
  obtain⟨I,U,h3,h4⟩:=F8 (id:=id) (w:=w) (UK (id:=id) (w:=w) H.al hy.al);have j:=ES (id:=id) (w:=w) x y;refine⟨I,?_,λa b=>by rw[U,Qm (H.one a) (hy.one b)];rfl⟩;have Lj:1<=x.length:=by
   cases x with
   |nil=>simp[aK]at he
   |cons _ _=>simp
  have hy0:1<=y.length:=by
   cases y with
   |nil=>simp[aK]at he
   |cons _ _=>simp
  have:1<=x.length*y.length:=Nat.mul_le_mul Lj hy0;omega
def PC(H:NF x)(hy:NF y):
 NF (eJ id w cmp x xc y yc).1/\(eJ id w cmp x xc y yc).1.length<=x.length*y.length/\(isAllL x=true->isAllL y=true->isAllL (eJ id w cmp x xc y yc).1=true)/\((eJ id w cmp x xc y yc).2=true->isAllL (eJ id w cmp x xc y yc).1=true):=by
 obtain⟨I,U,h3⟩:=EV (id:=id) (w:=w) H hy;unfold eJ;simp only;split
 .rename_i hc
  simp at hc;have ht:=I.tp hc.2;refine⟨.inr λz hz=>ht z (List.mem_filter.1 hz).1,jQd (List.length_filter_le _ _) U,λa b=>?_,λh=>h⟩;have:=h3 a b;rw[hc.2]at this;cases this
 .rename_i hc
  refine⟨I,U,h3,λh=>?_⟩;simp at hc;simp at h;cases ha:isAllL (eH id w x y)with
  |true=>rfl
  |false=>rcases h with h|h<;>simp[h,ha]at hc
end
end P
namespace P
open S
def Wm(cs:List Nat)(t:Y):Nat:=if t.ld=17 then 0 else bP cs t
structure aei(cs:List Nat)(t:Y)(s:TS):Prop where
 nf:NF s.terms
 comp:s.comp=true->isAllL s.terms=true
 len:s.terms.length^3<=3^Wm cs t
 zero:Wm cs t=0->isAllL s.terms=true
def Bd(a b:Nat):(a*b)^3=a^3*b^3:=Nat.mul_pow a b 3
def pH(c:Nat):1<=3^c:=Nat.one_le_pow _ _ i5
def il(h:c<=d):3^c<=3^d:=Nat.pow_le_pow_right i5 h
def Ew(hc:1<=c)(hd:1<=d)(hb:b^3<=3^d):(1+b)^3<=3^(c+d):=by
 have h3:3<=3^c:=by have:=il hc;simpa using this
 match b,hb with
 |0,_=>simpa using pH _
 |1,_=>have:=il (show 2<=c+d by omega);simp at this⊢;omega
 |2,hb=>
  have:2<=d:=by
   rcases Nat.lt_or_ge d 2 with h|h
   .have:d=1:=M
    subst this;simp at hb
   .exact h
  have:=il (show 3<=c+d by omega);simp at this⊢;omega
 |b+3,hb=>
  have I:∀z:Nat,3<=z->(1+z)^3<=3*z^3:=by
   intro z hz;have e1:(1+z)^3=z*z*z+3*(z*z)+3*z+1:=by
    simp[Nat.pow_succ,Nat.add_mul,Nat.mul_add];omega
   have e2:z^3=z*z*z:=by simp[Nat.pow_succ]
   have g1:3*z<=z*z:=Nat.mul_le_mul_right z hz;have g2:3*(z*z)<=z*z*z:=by rw[Nat.mul_comm 3];exact Nat.mul_le_mul_left (z*z) hz
   omega
  have I:=I (b+3) M;rw[Nat.pow_add];exact jQd I (Nat.mul_le_mul h3 hb)
def To{a:Nat}(hc:1<=c)(hd:1<=d)(ha:a^3<=3^c)(hb:b^3<=3^d):(a+b)^3<=3^(c+d):=by
 match a,b,ha,hb with
 |0,b,_,hb=>rw[jRd];exact jQd hb (il M)
 |1,b,_,hb=>exact Ew hc hd hb
 |a,0,ha,_=>exact jQd ha (il M)
 |a,1,ha,_=>rw[Nat.add_comm a 1,Nat.add_comm c d];exact Ew hd hc ha
 |a+2,b+2,ha,hb=>
  have h:(a+2)+(b+2)<=(a+2)*(b+2):=by
   have:(a+2)*(b+2)=a*b+2*a+2*b+4:=by simp[Nat.add_mul,Nat.mul_add];omega
   omega
  have U:=Nat.pow_le_pow_left h 3;rw[Bd]at U;rw[Nat.pow_add];exact jQd U (Nat.mul_le_mul ha hb)
def Nq{a:Nat}(hc:c<=50)(h:a^3<=3^c):a<=100000000:=by
 rcases Nat.lt_or_ge 100000000 a with I|I
 .have U:=Nat.pow_le_pow_left (Nat.le_of_lt I) 3;have h3:=jQd U (jQd h (il hc));have h4:¬(100000000^3<=3^50):=by decide+kernel
  exact absurd h3 h4
 .exact I
def QTe(w:List ah)(Q:Y->Prop):Prop:=∀t,Q t->t.ld=10->∀e∈t.li.drop t.m.toNat,TE w e
def F7(hw:WK NS Q w rs cs)(hq:QP NS Q)(h:PT NS Q w 0 t):Wm cs (az w t)=bP cs t:=by
 obtain⟨I, -,h3,h5,h6, -⟩:=cJ hq h;rw[<-h3 cs];unfold az oZ;generalize una t=b at*;by_cases dA:b.ld=11
 .rw[jQ7 dA];obtain⟨k,n,m,va,nm,tg,l⟩:=b;simp only[Y.ld]at dA;subst dA;cases I with
  |named a1 a2 a3=>
   have iK:(Y.mk 11 n m va nm tg []).n=n:=rfl;simp only[iK];obtain⟨d,hd⟩:∃d,w[n.toNat]?=some d:=⟨w[n.toNat]' M,i6⟩;rw[hd];have hk:=hw.sq _ _ hd;simp only[Option.map_some,Option.getD_some];rw[Wm,jQ4 M,<-hw.ok.ct _ _ hd,bP];simp
  |uni h=>omega
  |al h=>omega
  |one h=>omega
 .rw[jQ4 dA];by_cases ka:b.ld=15
  .rw[jQ7 ka];obtain⟨k,n,m,va,nm,tg,l⟩:=b;simp only[Y.ld]at ka;subst ka;simp[Wm,fC,bP,cN,Y.ld]
  .rw[jQ4 ka];by_cases ir:b.ld=16
   .rw[jQ7 ir];obtain⟨k,n,m,va,nm,tg,l⟩:=b;simp only[Y.ld]at ir;subst ir;simp[Wm,da,tk,bP,Y.ld]
   .rw[jQ4 ir,Wm,jQ4 (V5 (gR I))]
def NK(hw:WK NS Q w rs cs)(hq:QP NS Q)(h:PT NS Q w 0 t)(hi:isIf (az w t)=false):bP cs t=1:=by
 rw[<-F7 hw hq h];rcases(lq hw hq h).1 with e|⟨I,U,h3,h4,h5,h6,h7⟩
 .rw[e]at hi;simp[isIf,da,tk,Y.ld]at hi
 .rw[Wm,jQ4 h7];have h0:=lg I;simp[isIf]at hi;exact oH I U hi.1 h3 M h4 h5 h6
def yj(hw:WK NS Q w rs cs)(hq:QP NS Q)(h:PT NS Q w 0 t):isIface w t=some (isIf (az w t)):=by
 obtain⟨b,hb,I, -, -, -, -, -, -⟩:=fc hq.any [] [] h;have hu:=qB hb;rw[isIface,gt,hb];simp only[jQa];unfold az oZ;rw[hu];by_cases dA:b.ld=11
 .rw[jQ7 dA,jQ7 dA];obtain⟨k,n,m,va,nm,tg,l⟩:=b;simp only[Y.ld]at dA;subst dA;cases I with
  |named a1 a2 a3=>
   have iK:(Y.mk 11 n m va nm tg []).n=n:=rfl;simp only[iK,jQ7 a1];obtain⟨d,hd⟩:∃d,w[n.toNat]?=some d:=⟨w[n.toNat]' M,i6⟩;rw[hd];have hk:=hw.sq _ _ hd;simp[isIf];have:(d.gt.ld==16)=false:=by simp;omega
   have h17:(d.gt.ld==17)=false:=by simp;omega
   rw[this,h17]
  |uni h=>omega
  |al h=>omega
  |one h=>omega
 .rw[jQ4 dA,jQ4 dA];by_cases ka:b.ld=15
  .rw[jQ7 ka,jQ7 ka];simp[isIf,fC,Y.ld]
  .rw[jQ4 ka,jQ4 ka];by_cases ir:b.ld=16
   .rw[jQ7 ir];have abv:(b.ld==16)=true:=by simp[ir]
    show some (b.ld==10||b.ld==16)=_;rw[abv,Bool.or_true];rfl
   .rw[jQ4 ir];have:=gR I;have h17:(b.ld==17)=false:=by simp;omega
    have abv:(b.ld==16)=false:=G9 ir
    simp[isIf,h17,abv]
def Be(NS:List ByteArray)(Q:Y->Prop)(w:List ah)(rs cs:List Nat)(r:Nat)(F:Fs):Prop:=∀t,Fb NS Q w t->2*J rs false false t<r->aei cs t (F.ts t)
def AA(hw:WK NS Q w rs cs)(hq:QP NS Q)(hA:Be NS Q w rs cs r F)(h:PT NS Q w 1 e)(H:TX w e)(hJ:J rs true true e<b)(hb:2*b<=r):
 AL (oq F w e)/\(oq F w e).length^3<=3^bP cs e/\(bP cs e=0->isAllL (oq F w e)=true):=by
 rw[uP];obtain⟨I,U⟩:=Fu (rs:=rs) h;have hu:=jh hw hq I;have RL:isIf (az w (ep e))=false->bP cs e=1:=by
  intro hi;by_cases cg:e.ld=13
  .exact M201
  .have he:ep e=e:=by simp[ep,cg]
   rw[he]at hi I;exact NK hw hq I hi
 cases hi:isIf (az w (ep e))with
 |true=>
  have cg:e.ld≠13:=by
   intro cg;have h3:=yj hw hq I;rw[hi]at h3;have:ep e∈e.li:=by
    obtain⟨k,n,m,va,nm,tg,l⟩:=e;simp only[Y.ld]at cg;subst cg;cases h with
    |ti _ _=>simp[ep,Y.ld,Y.li]
    |uni h=>omega
    |al h=>omega
    |one h=>omega
   rw[H cg _ this]at h3;cases h3
  have he:ep e=e:=by simp[ep,cg]
  have hI:=jO hw hq I hi;have hs:=hA _ hI M;have hc:=F7 hw hq I;rw[he]at hs hc⊢;rw[<-hc];simp only[if_true];exact⟨hs.nf.al,hs.len,hs.zero⟩
 |false=>
  rw[RL hi];simp only[jQk,jR1];split
  .exact⟨λx H tm e=>(by simp at H;subst H;cases e),i5,i6⟩
  .exact⟨λx H tm e he=>(by simp at H;subst H;cases e;simp at he),i6,i6⟩
def UI(acc:List (Option Tm))(c:Nat):Prop:=NF acc/\(acc=[]\/isAllL acc=true\/(acc.length^3<=3^c/\1<=c))
def sS(l l':List (Option Tm)):isAllL (l++l')=(isAllL l||isAllL l'):=List.any_append
def UI.step{id:Y->Y->Bool}(h:UI acc c)(ha:AL ts)(hl:ts.length^3<=3^d)(h0:d=0->isAllL ts=true):UI (kv id w acc ts) (c+d):=by
 obtain⟨I,U⟩:=h;obtain⟨n1,n2,n3,n4⟩:=F8 (id:=id) (w:=w) (I.al.append ha);refine⟨n1,?_⟩;unfold kv;rw[sS]at n2 n4;cases hA:(isAllL acc||isAllL ts)with
 |true=>exact .inr (.inl (by rw[n2,hA]))
 |false=>
  have n4:=n4 hA;rw[jQo]at n4;simp at hA;have hd:1<=d:=by
   rcases Nat.eq_zero_or_pos d with e|e
   .rw[h0 e]at hA;cases hA.2
   .exact e
  refine .inr (.inr ⟨?_,M⟩);obtain rfl|U|⟨U,h3⟩:=U
  .simp at n4;exact jQd (Nat.pow_le_pow_left n4 3) (jQd hl (il M))
  .rw[hA.1]at U;cases U
  .exact jQd (Nat.pow_le_pow_left n4 3) (To h3 hd U hl)
def nM(hw:WK NS Q w rs cs)(hq:QP NS Q){r b:Nat}{F:Fs}(hA:Be NS Q w rs cs r F)(hb:2*b<=r):
 ∀{l:List Y} {acc:List (Option Tm)} {c:Nat},(∀e∈l,PT NS Q w 1 e/\TX w e/\J rs true true e<b)->UI acc c->∀q,unionTerms F w acc l=some q->UI q (c+cN cs 0 l)
 |[],acc,c,_,ha,q,xu=>by rw[unionTerms]at xu;cases xu;rw[cN];exact ha
 |e::l,acc,c,hl,ha,q,xu=>by
  obtain⟨I,U,h3⟩:=AA hw hq hA (hl e i6).1 (hl e i6).2.1 (hl e i6).2.2 hb;rw[unionTerms]at xu;have hs:=UI.step (w:=w) (id:=F.id) ha I U h3
  try simp only at xu
  split at xu
  .cases xu
  .have:=nM hw hq hA hb (λx H=>hl x (by simp[H])) hs q xu;rw[cN,<-Nat.add_assoc];exact this
def Ex(h:UI q c)(hc:c=0->q≠[]):NF q/\q.length^3<=3^c/\(c=0->isAllL q=true):=by
 obtain⟨I,U⟩:=h;refine⟨I,?_,λe=>?_⟩
 .obtain rfl|U|U:=U
  .simp
  .rw[I.one U];simpa using pH c
  .exact U.1
 .obtain U|U|U:=U
  .exact absurd U (hc e)
  .exact U
  .omega
def sT{F:Fs}:∀{l:List Y} {acc q:List (Option Tm)},(acc≠[]->isAllL acc=true)->unionTerms F w acc l=some q->(∀e∈l,isAllL (oq F w e)=true/\AL (oq F w e))->NF acc->(l≠[]\/acc≠[])->q≠[]
 |[],acc,q,_,h,_,_,hn=>by rw[unionTerms]at h;cases h;simpa using hn
 |e::l,acc,q,ha,h,hl,hN,_=>by
  rw[unionTerms]at h
  try simp only at h
  split at h
  .cases h
  .obtain⟨n1,n2,n3,n4⟩:=F8 (id:=F.id) (w:=w) (hN.al.append (hl e i6).2);have eO:isAllL (kv F.id w acc (oq F w e))=true:=by
    show isAllL (norm _ _ _)=true;rw[n2,sS,(hl e i6).1];simp
   exact sT (λ_=>eO) h (λx H=>hl x (by simp[H])) n1 (.inr (by intro e;rw[e]at eO;simp[isAllL]at eO))
def PB{l:List Y}(h:cN cs 0 l=0):∀e∈l,bP cs e=0:=λe he=>by have:=qS (cs:=cs) he;omega
def Ey(hw:WK NS Q w rs cs)(hq:QP NS Q)(hA:Be NS Q w rs cs r F)(h:PT NS Q w 2 e)(H:TE w e)(hJ:J rs true true e<b)(hb:2*b<=r):
 ∀i,gu F w e=some i->NF i.terms/\i.terms.length^3<=3^bP cs e/\(bP cs e=0->isAllL i.terms=true):=by
 intro i hi;unfold gu at hi;by_cases cQ:e.ld=12
 .rw[jQ7 cQ]at hi;obtain⟨q,xu,rfl⟩:=jQ6.1 hi;have j:=λx H=>uQ (rs:=rs) h cQ x H;have hc:bP cs e=cN cs 0 e.li:=M184
  have hl:∀x∈e.li,PT NS Q w 1 x/\TX w x/\J rs true true x<b:=λx uC=>⟨(j x uC).1,H.2 cQ x uC,V5 ((j x uC).2)⟩;have I:=nM hw hq hA hb hl (acc:=[]) (c:=0) ⟨.inr i6,.inl rfl⟩ q xu;rw[jRd,<-hc]at I;refine Ex I λe0=>?_;rw[hc]at e0;refine sT i6 xu (λx uC=>?_) (.inr i6) (.inl ?_)
  .obtain⟨g1,g2,g3⟩:=AA hw hq hA (hl x uC).1 (hl x uC).2.1 (hl x uC).2.2 hb;exact⟨g3 (PB e0 x uC),g1⟩
  .obtain⟨k,n,m,va,nm,tg,l⟩:=e;simp only[Y.ld]at cQ;subst cQ;cases h with
   |un a b c d=>intro e;have:l=[]:=e;subst this;simp at b
   |uni h=>omega
   |al h=>omega
   |one h=>omega
 .rw[jQ4 cQ]at hi;by_cases cg:e.ld=13
  .rw[jQ7 cg]at hi;obtain⟨q,xu,rfl⟩:=jQ6.1 hi;have I:=nM hw hq hA hb (l:=[e]) (λx uC=>by simp at uC;subst uC;exact⟨tw h cg,H.1,hJ⟩) (acc:=[]) (c:=0) ⟨.inr i6,.inl rfl⟩ q xu;have hc:cN cs 0 [e]=bP cs e:=by simp[cN]
   rw[jRd,hc]at I;have lk:bP cs e=1:=M201
   exact Ex I λe0=>M
  .rw[jQ4 cg]at hi;have h0:=pg h M;have hu:=jh hw hq h0;simp only at hi;cases hI:isIf (az w e)with
   |true=>
    rw[jQ7 hI]at hi;cases hi;have hs:=hA _ (jO hw hq h0 hI) M;rw[<-F7 hw hq h0];exact⟨hs.nf,hs.len,hs.zero⟩
   |false=>
    rw[hI]at hi;simp only[jQk,jR1]at hi;cases hi;rw[NK hw hq h0 hI];exact⟨.inr λx H=>by simp at H;subst H;exact⟨_,_,rfl⟩,i6,i6⟩
structure I5(a:Acc)(c:Nat):Prop where
 nf:NF a.terms
 comp:a.comp=true->isAllL a.terms=true
 len:a.terms.length^3<=3^c
 zero:c=0->isAllL a.terms=true
def I6(hw:WK NS Q w rs cs)(hq:QP NS Q)(hA:Be NS Q w rs cs r F)(h:PT NS Q w 2 e)(H:TE w e)(hJ:J rs true true e<b)(hb:2*b<=r)(ha:I5 a c):
 I5 (eG F w a e) (c+bP cs e):=by
 have hE:=Ey hw hq hA h H hJ hb;unfold eG;cases hi:gu F w e with
 |none=>
  refine⟨ha.nf,ha.comp,jQd ha.len (il M),λe0=>ha.zero M⟩
 |some i=>
  obtain⟨g1,g2,g3⟩:=hE i hi;obtain⟨n1,n2,n3,n4⟩:=PC (id:=F.id) (w:=w) (cmp:=λt=>F.cmp t false) (xc:=a.comp) (yc:=i.comp) ha.nf g1;refine⟨n1,n4,?_,λe0=>n3 (ha.zero M) (g3 M)⟩;refine jQd (Nat.pow_le_pow_left n2 3) ?_;rw[Bd,Nat.pow_add];exact Nat.mul_le_mul ha.len g2
def Bf(hw:WK NS Q w rs cs)(hq:QP NS Q){r b:Nat}{F:Fs}(hA:Be NS Q w rs cs r F)(hb:2*b<=r):
 ∀{l:List Y} {a:Acc} {c:Nat},(∀e∈l,PT NS Q w 2 e/\TE w e/\J rs true true e<b)->I5 a c->I5 (l.foldl (eG F w) a) (c+cN cs 0 l)
 |[],a,c,_,ha=>by rw[cN];exact ha
 |e::l,a,c,hl,ha=>by
  have h:=Bf hw hq hA hb (l:=l) (λx H=>hl x (by simp[H])) (I6 hw hq hA (hl e i6).1 (hl e i6).2.1 (hl e i6).2.2 hb ha);rw[List.foldl_cons,cN,<-Nat.add_assoc];exact h
def aej(hw:WK NS Q w rs cs)(hq:QP NS Q)(hQ:QTe w Q)(hA:Be NS Q w rs cs r F)(h:Fb NS Q w t)(hr:2*J rs false false t<r+1):aei cs t (iH F w t):=by
 unfold iH;rcases h with⟨h,bH⟩|rfl
 .rw[jQ4 M];obtain⟨-, -,e3, -, -,e6,e7⟩:=cu (rs:=rs) (cs:=cs) (h.ww (v':=false) (f':=false)) bH;have ha:I5 ⟨(own t).foldl lF [],[some fu],false⟩ 0:=⟨.inl rfl,i6,i6,λ_=>rfl⟩;have hn:=Bf hw hq hA (b:=J rs false false t) (l:=bN t) M (λe he=>⟨(e3 e he).1.ww,hQ t e6 bH e he,(e3 e he).2⟩) ha;have hc:0+cN cs 0 (bN t)=Wm cs t:=by
   rw[Wm,jQ4 M,e7,jRd,ku cs t.m.toNat];rfl
  rw[hc]at hn;exact⟨hn.nf,hn.comp,hn.len,hn.zero⟩
 .rw[jQ7 (show da.ld=17 from rfl)];exact⟨.inl rfl,λ_=>rfl,by simp;exact pH _,λ_=>rfl⟩
def vh(hw:WK NS Q w rs cs)(hq:QP NS Q)(hQ:QTe w Q):∀(r k:Nat),r<=k->Be NS Q w rs cs r (fs w k)
 |0,_,_=>λ_ _ h=>M
 |r+1,k,hk=>by
  obtain⟨k,rfl⟩:∃hp,k=hp+1:=⟨k - 1,M⟩;have hA:=vh hw hq hQ r k M;rw[fs];exact λt h hr=>aej hw hq hQ hA h hr
end P
namespace P
open S
def Xa{v:Y}(hu:az w t=fD)(ha:F.ts fD=⟨[],[some fu],false⟩)(c:Bool):impl F w v t c=true:=by
 unfold impl;simp only[hu,ha];rfl
def aa3(w)(k:Nat):(fs w (k+1)).ts fD=⟨[],[some fu],false⟩:=by
 rw[fs];simp[iH,fD,tk,Y.ld,own,bN,Y.li,Y.m,ib]
end P
namespace P
open S
abbrev QQ(w:List ah):Y->Prop:=Qs w Q0 (mP w)
def aey(h:str [69,114,114,111,114]∈NS):QP NS (QQ w):=by
 refine⟨⟨?_,(Qc.qb (mP w) 50 h).any,?_⟩,⟨?_,(Qc.qb (mP w) 50 h).err,?_⟩,h⟩
 .intro h;simp[fD,tk,Y.ld]at h
 .intro _ e he;simp[fD,tk,Y.li]at he
 .intro h;simp[fC,Y.ld]at h
 .intro _ e he;simp[fC,Y.li,Y.m]at he
def aez:QTe w (QQ w):=λ_ h hk=>h.2.2 hk
def aeA(hB:ON NS w N D k)(hv:VR NS w):WK NS (QQ w) w (gZ w) (mP w):=by
 have h:=SR (i:=w.length) hB.ml (λn d hd=>by
  have h:=hv n d hd;exact(⟨h.un.imp λ_ h=>h.1,h.k1,h.k2,h.k3,λm hm=>⟨(h.sig m hm).1,(h.sig m hm).2.1,(h.sig m hm).2.2.imp λ_ h=>h.1⟩,h.nd,h.fld,h.br⟩:DP NS w.length Q0 n d)) (λn d _ hd=>hv n d hd)
 refine⟨⟨h.rl,h.cl,h.dec,h.kd,h.rk,h.ct,h.ml,λn d _ hd=>?_⟩,λn d hd=>(hv n d hd).k3,λn d hd m hm=>⟨((hv n d hd).sig m hm).1,((hv n d hd).sig m hm).2.1⟩⟩;have hn:n<w.length:=by
  rcases Nat.lt_or_ge n w.length with h|h
  .exact h
  .rw[jQx h]at hd;cases hd
 obtain⟨I,U⟩:=h.ok n d hn hd;exact⟨I.eS (jQ0 _) (λ_ _=>trivial) (jQ0 _) id id,λm hm=>(U m hm).eS (jQ0 _) (λ_ _=>trivial) (jQ0 _) id id⟩
def aeB(h:Il NS w t):PT NS (QQ w) w 0 t:=PL.up (λ_ _=>trivial) h
def zy(hB:ON NS w N D k)(hD:dp t<=D)(v f:Bool):J (gZ w) v f t<N:=by
 have:=I1 (gZ w) (totD w) (uK w) v f t;have:=hB.nn;omega
end P
