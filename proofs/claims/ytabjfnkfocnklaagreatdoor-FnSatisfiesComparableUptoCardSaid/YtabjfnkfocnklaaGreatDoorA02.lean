import Derived.Test.YtabjfnkfocnklaaGreatDoorA01
set_option linter.all false
set_option maxHeartbeats 16000000
set_option maxRecDepth 20000
namespace Go.Proofs.YtabjfnkfocnklaaGreatDoor
open S P
variable{a:Acc}{f f' v v' xc yc:Bool}{F G:Fs}{e t:GT}{abe cmp:GT->Bool}{id nF:GT->GT->Bool}{Q T T':GT->Prop}{acc l l' q ts x xl y yl:List (Option Tm)}{NS:List ByteArray}{cs rs:List Nat}{w:List ah}{D N b b' c d i k md n nw r:Nat}{A:Nat->Prop}{Y:Prop}{u z:Tm}
theorem jQe:type_of% @List.eq_nil_of_length_eq_zero:=@List.eq_nil_of_length_eq_zero
theorem jQk:type_of% @Bool.false_eq_true:=@Bool.false_eq_true
theorem jQp:type_of% @List.getElem?_eq_getElem:=@List.getElem?_eq_getElem
theorem jQv:type_of% @List.drop_eq_getElem_cons:=@List.drop_eq_getElem_cons
theorem jR1:type_of% @if_false:=@if_false
theorem jRd:type_of% @Nat.zero_add:=@Nat.zero_add
theorem jRl:type_of% @List.all_cons:=@List.all_cons
theorem jRo:type_of% @List.take_append_drop:=@List.take_append_drop
theorem jRt:type_of% @Bool.not_true:=@Bool.not_true
theorem M117(h:Y:=by
 refine⟨TL.cons.2 ⟨TO.some.2 TT.all,TL.nil⟩,kU i6 λm hm=>?_,iM i6⟩;obtain⟨q1,q2,q3,q4,q5⟩:=e4 m hm;exact⟨q1,q2,q3,q4.ww,q5⟩):Y:=h
theorem M136(h:Y:=by
 simp only[fg]at this⊢;simp at this⊢;rcases this with h|h<;>simp[h]):Y:=h
theorem M176(h:Y:=by
 refine⟨by rw[h1],λi hi=>?_⟩;obtain⟨q,hq,rfl⟩:=jQ6.1 hi;exact⟨h2 q hq,i6⟩):Y:=h
theorem M186(h:Y:=by
 obtain⟨k,n,m,va,nm,tg,l⟩:=e;simp only[GT.kind]at cQ;subst cQ;rw[bP];simp[GT.elems]):Y:=h
theorem M196(h:Y:=by
 split
 ·rfl
 ·rfl
 ·rename_i a b ha hb
  rw[qK h (hx _ rfl a ha) (hy _ rfl b hb)]):Y:=h
theorem M208(h:Y:=by
 exact⟨_,rfl,i6,i6⟩):Y:=h
theorem M209(h:Y:=by
 obtain⟨k,n,m,va,nm,tg,l⟩:=e;simp only[GT.kind]at cg;subst cg;rw[bP];simp):Y:=h
namespace S
theorem Z8(r:List Nat)(hr:rs.length=n)(h:PL nw NS Q (λj=>j<n) md v f t):J (rs++r) v f t=J rs v f t:=by
 induction h with
 |named a b c=>
  rw[bw,bw];simp only[if_true];split
  ·rename_i hf;rw[lf (by have:=c hf;omega)]
  ·rfl
 |basic a b=>rw[bw,bw];simp[Js]
 |uni a=>rw[bw,bw];rcases a with rfl|rfl|rfl<;>simp
 |al a b _ ih=>rw[bw,bw];rcases a with rfl|rfl<;>simp[Js,ih]
 |st a b _ ih=>rw[bw,bw];simp;exact mu λe he=>ih e he
 |ifc a b c d e g _ _ q zg vq=>rw[bw,bw];simp;exact vr (λe he=>zg e he) (λe he=>vq e he)
 |one a b c _ ih=>rw[bw,bw];rcases a with rfl|rfl|rfl<;>simp[Js,ih]
 |mp _ _ zg vq=>rw[bw,bw];simp[Js,zg,vq]
 |fn a b c _ ih=>rw[bw,bw];simp;exact mu λe he=>ih e he
 |ti a _ ih=>rw[bw,bw];simp[Js,ih]
 |un a b c _ ih=>rw[bw,bw];simp;exact mu λe he=>ih e he
theorem XU(c:List Nat)(hc:cs.length=n)(h:PL nw NS Q (λj=>j<n) md v f t):(v||f)=true->bP (cs++c) t=bP cs t:=by
 induction h with
 |named a b d=>intro hf;rw[bP,bP];simp only[if_true];rw[lf (by have:=d hf;omega)]
 |basic a b=>intro _;rw[bP,bP];simp
 |uni a=>intro _;rw[bP,bP];rcases a with rfl|rfl|rfl<;>simp
 |al a b _ ih=>intro hf;rw[bP,bP];rcases a with rfl|rfl<;>simp[SQ,ih hf]
 |st a b _ ih=>intro _;rw[bP,bP];simp
 |ifc a b c d e g _ _ q zg vq=>intro _;rw[bP,bP];simp;exact kH λe he=>vq e he rfl
 |one a b c _ ih=>intro _;rw[bP,bP];rcases a with rfl|rfl|rfl<;>simp
 |mp _ _ zg vq=>intro _;rw[bP,bP];simp
 |fn a b c _ ih=>intro _;rw[bP,bP];simp
 |ti a _ ih=>intro _;rw[bP,bP];simp
 |un a b c _ ih=>intro hf;rw[bP,bP];simp;exact kH λe he=>ih e (by simpa using he) hf
theorem qW{α:Type}{f:Nat->α->Option (Option Bool)}:∀{l:List α} {i:Nat},(∀i,∀a∈l,f i a≠some (some true))->rangeM f i l≠some (some true)
 |[],_,_=>by simp[rangeM]
 |a::l,i,h=>by
  rw[rangeM];intro e;obtain⟨r,hr,e⟩:=jQ1.1 e;cases r with
  |some b=>simp at e;subst e;exact h i a i6 hr
  |none=>exact qW (l:=l) (i:=i+1) (λi x hx=>h i x (by simp[hx])) (by simpa using e)
def maxl:List Nat->Nat
 |[]=>0
 |a::l=>max a (maxl l)
theorem oM:∀{l:List Nat} {a:Nat},a∈l->a<=maxl l
 |b::l,a,h=>by
  rw[maxl];rcases jQn.1 h with rfl|h
  ·exact jRs _ _
  ·exact jQd (oM h) (jRg _ _)
theorem vz:∀{l:List Nat} {b:Nat},(∀a∈l,a<=b)->maxl l<=b
 |[],_,_=>jQc _
 |a::l,b,h=>by rw[maxl];exact Nat.max_le.2 ⟨h a i6,vz λx hx=>h x (by simp[hx])⟩
def Pu(rs:List Nat)(d:ah):Nat:=max (J rs true false d.under) (maxl (d.meths.map λm=>J rs false false m.sig))
def gZ(w:List ah):List Nat:=w.foldl (λrs d=>rs++[Pu rs d]) []
def mP(w:List ah):List Nat:=w.foldl (λcs d=>cs++[bP cs d.under]) []
theorem vC{α β:Type}(g:List β->α->β):∀(l:List α) (a:List β),(l.foldl (λrs d=>rs++[g rs d]) a).length=a.length+l.length
 |[],a=>i6
 |x::l,a=>by rw[List.foldl_cons,vC g l];simp;omega
theorem I0{α β:Type}(g:List β->α->β):∀(l:List α) (a:List β),∃r,l.foldl (λrs d=>rs++[g rs d]) a=a++r
 |[],a=>⟨[],i6⟩
 |x::l,a=>by
  obtain⟨r,hr⟩:=I0 g l (a++[g a x]);exact⟨g a x::r,by rw[List.foldl_cons,hr];simp⟩
theorem Nz{α β:Type}(g:List β->α->β)(l:List α)(n:Nat)(d:α)(hd:l[n]?=some d):∃rs r,rs.length=n/\l.foldl (λrs d=>rs++[g rs d]) []=rs++(g rs d::r):=by
 have hn:n<l.length:=by
  by_cases h:n<l.length
  ·exact h
  ·rw[jQx m9]at hd;cases hd
 have hl:l=l.take n++d::l.drop (n+1):=by
  rw[jQp hn]at hd;cases hd;rw[<-jQv hn,jRo]
 obtain⟨r,hr⟩:=I0 g (l.drop (n+1)) ((l.take n).foldl (λrs d=>rs++[g rs d]) []++[g ((l.take n).foldl (λrs d=>rs++[g rs d]) []) d]);refine⟨(l.take n).foldl (λrs d=>rs++[g rs d]) [],r,?_,?_⟩
 ·rw[vC];simp;omega
 ·conv=>lhs;rw[hl,List.foldl_append,List.foldl_cons]
  rw[hr];simp
structure DP(NS:List ByteArray)(nw:Nat)(Q:GT->Prop)(n:Nat)(d:ah):Prop where
 un:PL nw NS Q (λj=>j<n) 0 true false d.under
 k1:1<=d.under.kind
 k2:d.under.kind≠2
 k3:d.under.kind<=10
 sig:∀m∈d.meths,m.sig.kind=7/\isName m.name=true/\PL nw NS Q (λj=>j<n) 0 false false m.sig
 nd:(d.meths.map (·.name)).Nodup
 fld:d.under.kind=5->∀m∈d.meths,∀f∈d.under.elems,f.name≠m.name
 br:d.meths≠[]->d.under.kind≠10/\eM d.under=true
theorem SR(gP:∀d∈w,d.meths.length<=1099511627776)(h0:∀n d,w[n]?=some d->DP NS w.length Q0 n d)(h1:∀n d,n<i->w[n]?=some d->DP NS w.length Q n d):
 mN NS Q (λn=>n<i) w (gZ w) (mP w):=by
 have mR:∀{n d},w[n]?=some d->PL w.length NS (λ_=>True) (λj=>j<n) 0 true false d.under/\∀m∈d.meths,PL w.length NS (λ_=>True) (λj=>j<n) 0 false false m.sig:=λhd=>
  ⟨((h0 _ _ hd).un).imp λ_ _=>trivial,λm hm=>((h0 _ _ hd).sig m hm).2.2.imp λ_ _=>trivial⟩
 refine⟨by rw[gZ,vC];simp,by rw[mP,vC];simp,?_,?_,?_,?_,?_,?_⟩
 ·intro n d hd;exact⟨(mR hd).1.eS (jQ0 _) (λ_ _=>trivial) (jQ0 _) id id,λm hm=>((mR hd).2 m hm).eS (jQ0 _) (λ_ _=>trivial) (jQ0 _) id id⟩
 ·intro n d hd;have h:=h0 n d hd;have:=h.k1;have:=h.k2;have:=h.k3;have dA:d.under.kind≠11:=m9
  exact⟨m9,m9,m9,m9,m9,m9⟩
 ·intro n d hd;obtain⟨rs,r,hl,e⟩:=Nz Pu w n d hd;have hg:(gZ w).getD n 0=Pu rs d:=by rw[gZ,e,<-hl];simp
  have he:gZ w=rs++(Pu rs d::r):=e;rw[hg,he];refine⟨by rw[Z8 _ hl (mR hd).1];exact jRs _ _,λm hm=>?_⟩;rw[Z8 _ hl ((mR hd).2 m hm)];exact jQd (oM (jQu.2 ⟨m,hm,rfl⟩)) (jRg _ _)
 ·intro n d hd;obtain⟨cs,r,hl,e⟩:=Nz (λcs (d:ah)=>bP cs d.under) w n d hd;have he:mP w=cs++(bP cs d.under::r):=e;rw[he,XU _ hl (mR hd).1 rfl,<-hl];simp
 ·intro n d hd;exact gP d (jQ8 hd)
 ·intro n d hn hd;have h:=h1 n d hn hd;exact⟨h.un.eS (jQ0 _) (λj hj=>Nat.lt_trans hj hn) (jQ0 _) id id,λm hm=>(h.sig m hm).2.2.eS (jQ0 _) (λj hj=>Nat.lt_trans hj hn) (jQ0 _) id id⟩
mutual
theorem I1 (rs:List Nat) (R:Nat) (hR:∀n,rs.getD n 0<=R):∀(v f:Bool) (t:GT),J rs v f t<=9*dp t+R
 |v,f,.mk k n m va nm tg l=>by
  rw[bw,dp];have:=hR n.toNat;have h1:=SS rs R hR v f l;have h2:=SS rs R hR false f l;have h3:=SU rs R hR f m.toNat l;split
  ·split<;>omega
  ·split
   ·omega
   ·split
    ·omega
    ·split<;>omega
theorem SS (rs:List Nat) (R:Nat) (hR:∀n,rs.getD n 0<=R):∀(v f:Bool) (l:List GT),Js rs v f l<=9*dps l+R
 |v,f,[]=>by simp[Js]
 |v,f,e::l=>by
  rw[Js,dps];have:=I1 rs R hR v f e;have:=SS rs R hR v f l;omega
theorem SU (rs:List Nat) (R:Nat) (hR:∀n,rs.getD n 0<=R):∀(f:Bool) (m:Nat) (l:List GT),Ji rs f m l<=9*dps l+R
 |f,m,[]=>by simp[Ji]
 |f,0,e::l=>by
  rw[Ji,dps];have:=I1 rs R hR true true e;have:=SU rs R hR f 0 l;omega
 |f,m+1,e::l=>by
  rw[Ji,dps];have:=I1 rs R hR false f e;have:=SU rs R hR f m l;omega
end
def NA(d:ah):Nat:=max (dp d.under) (maxl (d.meths.map λm=>dp m.sig))
def totD:List ah->Nat
 |[]=>0
 |d::l=>9*NA d+totD l
theorem Ep:∀(l:List ah) (rs:List Nat) (R:Nat),(∀n,rs.getD n 0<=R)->∀n,(l.foldl (λrs d=>rs++[Pu rs d]) rs).getD n 0<=R+totD l
 |[],rs,R,h,n=>by rw[totD];exact h n
 |d::l,rs,R,h,n=>by
  rw[List.foldl_cons,totD];have:=Ep l (rs++[Pu rs d]) (R+9*NA d) (λn=>by
   by_cases hn:n<rs.length
   ·rw[lf hn];have:=h n;omega
   ·by_cases he:n=rs.length
    ·subst he;simp;have h1:=I1 rs R h true false d.under;have h2:maxl (d.meths.map λm=>J rs false false m.sig)<=R+9*NA d:=vz λa ha=>by
      obtain⟨m,hm,rfl⟩:=jQu.1 ha;have:=I1 rs R h false false m.sig;have:dp m.sig<=NA d:=jQd (oM (jQu.2 ⟨m,hm,rfl⟩)) (jRg _ _);omega
     have h3:dp d.under<=NA d:=jRs _ _;exact Nat.max_le.2 ⟨m9,h2⟩
    ·rw[List.getD_eq_getElem?_getD,jQx (by simp;omega)];simp) n
  omega
theorem uK(w:List ah)(n:Nat):(gZ w).getD n 0<=totD w:=by
 have:=Ep w [] 0 (λn=>i6) n;rw[gZ];omega
theorem AX{d:ah}(h1:SX NS w k d.under)(h2:∀m∈d.meths,SX NS w k m.sig):
 ∃b,fS k w d n=some b/\(b=true->DP NS w.length Q0 n d):=by
 unfold fS;simp only;split
 ·exact M90
 ·rename_i hk
  obtain⟨b,b1,b2⟩:=h1 {decls:=n,value:=true,term:=false};rw[b1];simp only[jQa];cases b with
  |false=>exact⟨false,rfl,i6⟩
  |true=>
   simp only[jRt,jQk,jR1]
   let f:Nat->aH->Option (Option Bool):=λi m=>
    if !isName m.name then some (some false)else if m.sig.kind≠7 then some (some false)
    else(placed w k m.sig {decls:=n,value:=false,term:=false}).bind λb=>if !b then some (some false)
    else if (d.meths.take i).any (λx=>aE x.name m.name)then some (some false)
    else if d.under.elems.any (λf=>d.under.kind==5&&aE f.name m.name)then some (some false)
    else some none
   have hf:∀i,∀m∈d.meths,∃r,f i m=some r/\r≠some true/\(r=none->isName m.name=true/\m.sig.kind=7/\PL w.length NS Q0 (λj=>j<n) 0 false false m.sig/\(d.meths.take i).any (λx=>aE x.name m.name)=false/\d.under.elems.any (λf=>d.under.kind==5&&aE f.name m.name)=false):=by
    intro i m hm;obtain⟨b,c1,c2⟩:=h2 m hm {decls:=n,value:=false,term:=false};show∃r,(if !isName m.name then some (some false)else if m.sig.kind≠7 then some (some false)
     else(placed w k m.sig {decls:=n,value:=false,term:=false}).bind λb=>if !b then some (some false)
     else if (d.meths.take i).any (λx=>aE x.name m.name)then some (some false)
     else if d.under.elems.any (λf=>d.under.kind==5&&aE f.name m.name)then some (some false)
     else some none)=some r/\_
    split
    ·exact M208
    ·rename_i g1
     split
     ·exact M208
     ·rename_i g2
      rw[c1];simp only[jQa];cases b with
      |false=>exact⟨_,rfl,i6,i6⟩
      |true=>
       simp only[jRt,jQk,jR1];split
       ·exact M208
       ·rename_i g3
        split
        ·exact M208
        ·rename_i g4
         refine⟨_,rfl,i6,λ_=>⟨by simpa using g1,by simpa using g2,?_,Bool.eq_false_iff.2 g3,Bool.eq_false_iff.2 g4⟩⟩;have:=c2 rfl;simp only[Int.ofNat_lt]at this;exact this
   obtain⟨r,hr⟩:=pw (f:=f) (l:=d.meths) (i:=0) (λi m hm=>by obtain⟨r,hr,_⟩:=hf i m hm;exact⟨r,hr⟩);show∃b,(rangeM f 0 d.meths).map _=some b/\_;rw[hr];cases r with
   |some b=>
    refine⟨b,rfl,λhb=>?_⟩;subst hb;exact absurd hr (qW λi m hm h=>by obtain⟨r,h1,h2,_⟩:=hf i m hm;rw[h1]at h;cases h;exact h2 rfl)
   |none=>
    refine⟨_,rfl,λhb=>?_⟩;have eO:∀i m,d.meths[i]?=some m->isName m.name=true/\m.sig.kind=7/\PL w.length NS Q0 (λj=>j<n) 0 false false m.sig/\(d.meths.take i).any (λx=>aE x.name m.name)=false/\d.under.elems.any (λf=>d.under.kind==5&&aE f.name m.name)=false:=by
     intro i m hm;have:=jA hr i m hm;obtain⟨r,h1,_,h3⟩:=hf (0+i) m (jQ8 hm);rw[this]at h1;cases h1;have:=h3 rfl;rwa[jRd]at this
    have Dv:∀m∈d.meths,∃i:Nat,d.meths[i]?=some m:=λm hm=>List.getElem?_of_mem hm;have tL:=b2 rfl;simp only[Int.ofNat_lt]at tL;refine⟨tL,m9,m9,m9,λm hm=>?_,?_,λh5 m hm f hfm e=>?_,λbk=>?_⟩
    ·obtain⟨i,hi⟩:=Dv m hm;exact⟨(eO i m hi).2.1,(eO i m hi).1,(eO i m hi).2.2.1⟩
    ·rw[List.Nodup,List.pairwise_map,List.pairwise_iff_getElem];intro i j hi hj hij e;have:=(eO j d.meths[j] i6).2.2.2.1;simp only[List.any_eq_false]at this;exact this d.meths[i] (List.mem_take_iff_getElem.2 ⟨i,m9,rfl⟩) (by simp[aE,e])
    ·obtain⟨i,hi⟩:=Dv m hm;have:=(eO i m hi).2.2.2.2;simp only[List.any_eq_false]at this;exact this f hfm (by simp[aE,e,h5])
    ·have hl:¬d.meths.length=0:=by intro h;exact bk (jQe h)
     simp at hb;obtain hb|hb:=hb
     ·exact absurd (by rw[hb];rfl) hl
     ·exact hb
theorem Dw{d:ah}(hm:MC NS (λj=>j<n) w (gZ w) (mP w) N)(hp:DP NS w.length Q0 n d)(hk:N+8*D<=k)(hD:NA d<=D)(hN:totD w+9*D<N):
 ∃b,fB k w d=some b/\(b=true->DP NS w.length (Qs w Q0 (mP w)) n d):=by
 have hJ:∀t,dp t<=D->J (gZ w) true true t<N:=λt ht=>by have:=I1 (gZ w) (totD w) (uK w) true true t;omega
 have hds:∀m∈d.meths,dp m.sig<=D:=λm kh=>jQd (jQd (oM (jQu.2 ⟨m,kh,rfl⟩)) (jRg _ _)) hD;have hdu:dp d.under<=D:=jQd (jRs _ _) hD;obtain⟨a,a1,a2⟩:=xr hm D d.under hdu k hk true false hp.un (hJ _ hdu) true;have hT:=λm (kh:m∈d.meths)=>xr hm D m.sig (hds m kh) k hk false false (hp.sig m kh).2.2 (hJ _ (hds m kh)) false;obtain⟨c,hc⟩:=bc (dW (p:=λ(m:aH)=>bh (gT w k m.sig false)) (l:=d.meths) λm kh=>bc (by obtain⟨b,hb,_⟩:=hT m kh;exact⟨b,hb⟩));unfold fB;rw[a1,hc];cases a with
 |false=>exact⟨false,rfl,i6⟩
 |true=>
  refine⟨c,rfl,λe=>?_⟩;subst e;have eO:=iE (p:=λ(m:aH)=>gT w k m.sig false) hc;refine⟨a2 rfl,hp.k1,hp.k2,hp.k3,λm kh=>⟨(hp.sig m kh).1,(hp.sig m kh).2.1,?_⟩,hp.nd,hp.fld,hp.br⟩;obtain⟨b,b1,b2⟩:=hT m kh;rw[eO m kh]at b1;cases b1;exact b2 rfl
theorem I2{α:Type}{p:α->Option Bool}:∀{l:List α},(∀(j:Nat) a,l[j]?=some a->(∀(j':Nat) b,j'<j->l[j']?=some b->p b=some false)->∃b,p a=some b)->∃b,anyM p l=some b
 |[],_=>⟨false,rfl⟩
 |a::l,h=>by
  obtain⟨b,hb⟩:=h 0 a rfl (by intro j' b h;omega);rw[anyM,hb];cases b
  ·refine I2 (l:=l) λj c hc hj=>h (j+1) c (by simpa using hc) λj' x Sf hx=>?_;cases j' with
   |zero=>simp at hx;subst hx;exact hb
   |succ j'=>exact hj j' x m9 (by simpa using hx)
  ·exact⟨true,rfl⟩
structure ON(NS:List ByteArray)(w:List ah)(N D k:Nat):Prop where
 err:str [69,114,114,111,114]∈NS
 len:NS.length<=1099511627776
 nm:∀d∈w,(∀x∈ei d.under,x∈NS)/\∀m∈d.meths,∀x∈ei m.sig,x∈NS
 ml:∀d∈w,d.meths.length<=1099511627776
 dd:∀d∈w,NA d<=D
 nn:totD w+9*D<N
 kk:N+8*D<=k
 big:w.length+(N+1)*6404<=1099511627776
def VR(NS:List ByteArray)(w:List ah):Prop:=∀n d,w[n]?=some d->DP NS w.length (Qs w Q0 (mP w)) n d
theorem Z9(hB:ON NS w N D k)(h0:∀n d,w[n]?=some d->DP NS w.length Q0 n d)(h1:∀n d,n<i->w[n]?=some d->DP NS w.length (Qs w Q0 (mP w)) n d):
 MC NS (λj=>j<i) w (gZ w) (mP w) N:=
 ⟨(SR hB.ml h0 h1).imp λ_ h=>h.2.1,hB.err,λn d hd m hm=>((h0 n d hd).sig m hm).1,hB.len,hB.big⟩
theorem OO(hB:ON NS w N D k):∃b,valid k w=some b/\(b=true->VR NS w):=by
 have hP:∀d∈w,∀n:Nat,∃b,fS k w d n=some b/\(b=true->DP NS w.length Q0 n d):=λd hd n=>by
  have h1:=hB.dd d hd;have h2:=hB.kk;refine AX (tQ NS w (dp d.under) d.under (jQ0 _) k ?_ (hB.nm d hd).1) λm hm=>tQ NS w (dp m.sig) m.sig (jQ0 _) k ?_ ((hB.nm d hd).2 m hm)
  ·have:dp d.under<=NA d:=jRs _ _;omega
  ·have:dp m.sig<=NA d:=jQd (oM (jQu.2 ⟨m,hm,rfl⟩)) (jRg _ _);omega
 obtain⟨r,hr⟩:=pw (f:=λ(i:Nat) (d:ah)=>(fS k w d i).map λ(b:Bool)=>if b then(none:Option Bool)else some false) (l:=w) (i:=0) (λj d hd=>by
  obtain⟨b,hb,_⟩:=hP d hd j;exact⟨_,by rw[hb];rfl⟩)
 unfold valid;rw[hr];simp only[jQa];cases r with
 |some b=>
  exact M149
 |none=>
  have h0:∀n d,w[n]?=some d->DP NS w.length Q0 n d:=λn d hd=>by
   have:=jA hr n d hd;obtain⟨b,b1,b2⟩:=hP d (jQ8 hd) n;rw[jRd,b1]at this;cases b
   ·simp at this
   ·exact b2 rfl
  simp only;have hM:∀n d,w[n]?=some d->(∀j d',j<n->w[j]?=some d'->DP NS w.length (Qs w Q0 (mP w)) j d')->∃b,fB k w d=some b/\(b=true->DP NS w.length (Qs w Q0 (mP w)) n d):=λn d hd hp=>
   Dw (Z9 hB h0 hp) (h0 n d hd) hB.kk (hB.dd d (jQ8 hd)) hB.nn
  have hS:∀n d,w[n]?=some d->(∀j d',j<=n->w[j]?=some d'->fB k w d'=some true)->DP NS w.length (Qs w Q0 (mP w)) n d:=by
   intro n
   induction n using Nat.strongRecOn with
   |_ n ih=>
    intro d hd eO;obtain⟨b,b1,b2⟩:=hM n d hd λj d' hj nY=>ih j hj d' nY λj' d'' Sf abo=>eO j' d'' m9 abo;rw[eO n d (jQ0 _) hd]at b1;cases b1;exact b2 rfl
  obtain⟨b,hb⟩:=bc (I2 (p:=λd=>bh (fB k w d)) (l:=w) λn d hd hp=>bc (by
   obtain⟨b,hb,_⟩:=hM n d hd λj d' hj nY=>hS j d' nY λj' d'' Sf abo=>l4 (hp j' d'' m9 abo);exact⟨b,hb⟩))
  refine⟨b,hb,λe=>?_⟩;subst e;have eO:=iE hb;exact λn d hd=>hS n d hd λj d' _ nY=>eO d' (jQ8 nY)
def Il(NS:List ByteArray)(w:List ah)(t:GT):Prop:=PL w.length NS (Qs w Q0 (mP w)) (λj=>j<w.length) 0 false false t
theorem SY(hB:ON NS w N D k)(hv:VR NS w):MC NS (λj=>j<w.length) w (gZ w) (mP w) N:=
 Z9 hB (λn d hd=>by
  have h:=hv n d hd;exact⟨h.un.imp λ_ h=>h.1,h.k1,h.k2,h.k3,λm hm=>⟨(h.sig m hm).1,(h.sig m hm).2.1,(h.sig m hm).2.2.imp λ_ h=>h.1⟩,h.nd,h.fld,h.br⟩) (λn d _ hd=>hv n d hd)
theorem AY(hB:ON NS w N D k)(ht:∀x∈ei t,x∈NS)(hD:dp t<=D):
 ∃b,placed w k t {decls:=w.length,value:=false,term:=false}=some b/\(b=true->PL w.length NS Q0 (λj=>j<w.length) 0 false false t):=by
 obtain⟨b,b1,b2⟩:=tQ NS w (dp t) t (jQ0 _) k (by have:=hB.kk;omega) ht {decls:=w.length,value:=false,term:=false};refine⟨b,b1,λh=>?_⟩;have:=b2 h;simp only[Int.ofNat_lt]at this;exact this
theorem Er(hB:ON NS w N D k)(hv:VR NS w)(hp:PL w.length NS Q0 (λj=>j<w.length) 0 false false t)(hD:dp t<=D)(g:Bool):
 ∃b,gT w k t g=some b/\(b=true->Il NS w t):=
 xr (SY hB hv) D t hD k hB.kk false false hp (by have:=I1 (gZ w) (totD w) (uK w) true true t;have:=hB.nn;omega) g
theorem OP(hB:ON NS w N D k)(hv:VR NS w){l:List GT}(hl:∀t∈l,(∀x∈ei t,x∈NS)/\dp t<=D):
 ∃b,right (k+1) w l=some b/\(b=true->∀t∈l,Il NS w t):=by
 have hP:=λt (ht:t∈l)=>AY hB (hl t ht).1 (hl t ht).2;obtain⟨b,hb⟩:=bc (dW (p:=λt=>bh (placed w k t {decls:=w.length,value:=false,term:=false})) (l:=l) λe he=>bc (by obtain⟨b,hb,_⟩:=hP e he;exact⟨b,hb⟩));unfold right;rw[allPlaced,hb];cases b with
 |false=>exact⟨false,rfl,i6⟩
 |true=>
  have eO:=iE hb;have hp:∀t∈l,PL w.length NS Q0 (λj=>j<w.length) 0 false false t:=λt ht=>by
   obtain⟨b,b1,b2⟩:=hP t ht;rw[eO t ht]at b1;cases b1;exact b2 rfl
  have hM:=λt (ht:t∈l)=>Er hB hv (hp t ht) (hl t ht).2 false;obtain⟨c,hc⟩:=bc (dW (p:=λt=>bh (gT w k t false)) (l:=l) λe he=>bc (by obtain⟨b,hb,_⟩:=hM e he;exact⟨b,hb⟩));rw[allMeant,hc];refine⟨c,rfl,λe t ht=>?_⟩;subst e;have eO:=iE hc;obtain⟨b,b1,b2⟩:=hM t ht;rw[eO t ht]at b1;cases b1;exact b2 rfl
end S
namespace P
open S
def TT(T:GT->Prop)(x:Tm):Prop:=∀a,x.jg=some a->T a
def TO(T:GT->Prop)(x:Option Tm):Prop:=∀tm,x=some tm->TT T tm
def TL(T:GT->Prop)(l:List (Option Tm)):Prop:=∀x∈l,TO T x
theorem TL.nil:TL T []:=λ_ h=>by simp at h
theorem TL.cons{x:Option Tm}:TL T (x::l)↔TO T x/\TL T l:=by
 unfold TL;simp
theorem TL.append:TL T (l++l')↔TL T l/\TL T l':=by
 unfold TL;simp only[jQm];exact⟨λh=>⟨λx hx=>h x (.inl hx),λx hx=>h x (.inr hx)⟩,λh x hx=>hx.elim (h.1 x) (h.2 x)⟩
theorem TO.none:TO T none:=λ_ h=>by cases h
theorem TO.some{x:Tm}:TO T (some x)↔TT T x:=⟨λh=>h x rfl,λh _ e=>by cases e;exact h⟩
theorem TT.all:TT T fu:=λ_ h=>by simp[fu]at h
theorem TL.imp(h:∀a,T a->T' a)(hl:TL T l):TL T' l:=λx hx tm e a ha=>h a (hl x hx tm e a ha)
def tn(w:List ah)(T:GT->Prop)(id nF:GT->GT->Bool):Prop:=
 ∀x y,T x->T y->id x y=nF x y/\id (az w x) y=nF (az w x) y/\id x (az w y)=nF x (az w y)/\id (az w x) (az w y)=nF (az w x) (az w y)
theorem qK(h:tn w T id nF){x y:GT}(hx:T x)(hy:T y)(tx ty:Bool):l6 id w x y tx ty=l6 nF w x y tx ty:=by
 obtain⟨h1,h2,h3,h4⟩:=h x y hx hy;unfold l6;cases tx<;>cases ty<;>simp[h1,h2,h3,h4]
theorem FL(h:tn w T id nF){x y:Tm}(hx:TT T x)(hy:TT T y):unionT id w x y=unionT nF w x y:=by
 unfold unionT;split
 ·rfl
 ·rfl
 ·rename_i a b ha hb
  rw[qK h (hx a ha) (hy b hb)]
theorem xt{x y:Tm}(hx:TT T x)(hy:TT T y):TT T (unionT id w x y).1/\TO T (unionT id w x y).2:=by
 unfold unionT;split
 ·exact⟨hx,TO.none⟩
 ·exact⟨hy,TO.none⟩
 ·split
  ·exact⟨hx,TO.some.2 hy⟩
  ·split
   ·exact⟨hx,TO.none⟩
   ·exact⟨hy,TO.none⟩
theorem FM(h:tn w T id nF){x y:Option Tm}(hx:TO T x)(hy:TO T y):interT id w x y=interT nF w x y:=by
 unfold interT;split
 ·rfl
 ·rfl
 ·rename_i x y
  exact M196
theorem Pe{x y:Option Tm}(hx:TO T x)(hy:TO T y):TO T (interT id w x y):=by
 unfold interT;split
 ·exact TO.none
 ·exact TO.none
 ·split
  ·exact hy
  ·exact hx
  ·split
   ·exact TO.none
   ·split
    ·exact hx
    ·exact hy
theorem Ll(h:tn w T id nF){x y:Option Tm}(hx:TO T x)(hy:TO T y):subT id w x y=subT nF w x y:=by
 unfold subT;split
 ·rfl
 ·rfl
 ·exact M196
theorem oB:∀{l:List (Option Tm)} {x:Tm} {r:Tm×List (Option Tm)},TT T x->TL T l->absorb id w x l=some r->TT T r.1/\TL T r.2
 |[],x,r,hx,hl,h=>by rw[absorb]at h;cases h;exact⟨hx,hl⟩
 |none::l,x,r,hx,hl,h=>by
  rw[absorb]at h;obtain⟨q,hq,rfl⟩:=jQ6.1 h;have:=oB hx (TL.cons.1 hl).2 hq;exact⟨this.1,TL.cons.2 ⟨TO.none,this.2⟩⟩
 |some y::l,x,r,hx,hl,h=>by
  rw[absorb]at h;have hu:=xt (id:=id) (w:=w) hx (TO.some.1 (TL.cons.1 hl).1);rcases hq:unionT id w x y with⟨u,o⟩;rw[hq]at h hu;cases o with
  |none=>
   simp only at h;split at h
   ·cases h
   ·obtain⟨q,hq,rfl⟩:=jQ6.1 h;have:=oB hu.1 (TL.cons.1 hl).2 hq;exact⟨this.1,TL.cons.2 ⟨TO.none,this.2⟩⟩
  |some z=>
   simp only at h;obtain⟨q,hq,rfl⟩:=jQ6.1 h;have:=oB hx (TL.cons.1 hl).2 hq;exact⟨this.1,TL.cons.2 ⟨(TL.cons.1 hl).1,this.2⟩⟩
theorem lH(h:tn w T id nF):∀{l:List (Option Tm)} {x:Tm},TT T x->TL T l->absorb id w x l=absorb nF w x l
 |[],x,hx,hl=>by rw[absorb,absorb]
 |none::l,x,hx,hl=>by rw[absorb,absorb,lH h hx (TL.cons.1 hl).2]
 |some y::l,x,hx,hl=>by
  have hy:=TO.some.1 (TL.cons.1 hl).1;rw[absorb,absorb,FL h hx hy];have hu:=xt (id:=nF) (w:=w) hx hy;rcases hq:unionT nF w x y with⟨u,o⟩;rw[hq]at hu;cases o with
  |none=>simp only;rw[lH h hu.1 (TL.cons.1 hl).2]
  |some z=>simp only;rw[lH h hx (TL.cons.1 hl).2]
theorem Au:∀{k:Nat} {l r:List (Option Tm)},TL T l->normA id w k l=some r->TL T r
 |0,l,r,hl,h=>by rw[normA]at h;cases h;exact TL.nil
 |k+1,[],r,hl,h=>by rw[normA]at h;cases h;exact TL.nil;simp
 |k+1,none::l,r,hl,h=>by rw[normA]at h;exact Au (TL.cons.1 hl).2 h
 |k+1,some x::l,r,hl,h=>by
  rw[normA]at h;obtain⟨q,hq,h⟩:=jQ1.1 h;obtain⟨q',xu,rfl⟩:=jQ6.1 h;have:=oB (TO.some.1 (TL.cons.1 hl).1) (TL.cons.1 hl).2 hq;exact TL.cons.2 ⟨TO.some.2 this.1,Au this.2 xu⟩
theorem qL(h:tn w T id nF):∀{k:Nat} {l:List (Option Tm)},TL T l->normA id w k l=normA nF w k l
 |0,l,hl=>by rw[normA,normA]
 |k+1,[],hl=>by rw[normA,normA]<;>simp
 |k+1,none::l,hl=>by rw[normA,normA];exact qL h (TL.cons.1 hl).2
 |k+1,some x::l,hl=>by
  rw[normA,normA,lH h (TO.some.1 (TL.cons.1 hl).1) (TL.cons.1 hl).2];cases hq:absorb nF w x l with
  |none=>rfl
  |some q=>
   have:=oB (TO.some.1 (TL.cons.1 hl).1) (TL.cons.1 hl).2 hq;simp only[jQa];rw[qL h this.2]
theorem No(hl:TL T l):TL T (norm id w l):=by
 unfold norm;cases h:normA id w l.length l with
 |none=>simp only[Option.getD];exact TL.cons.2 ⟨TO.some.2 TT.all,TL.nil⟩
 |some r=>exact Au hl h
theorem Av(h:tn w T id nF)(hl:TL T l):norm id w l=norm nF w l:=by
 unfold norm;rw[qL h hl]
theorem ot(hx:TL T x)(hy:TL T y):TL T (kv id w x y):=No (TL.append.2 ⟨hx,hy⟩)
theorem Fv(h:tn w T id nF)(hx:TL T x)(hy:TL T y):kv id w x y=kv nF w x y:=Av h (TL.append.2 ⟨hx,hy⟩)
theorem Aw(hx:TL T x)(hy:TL T y):TL T ((x.flatMap λa=>y.map λb=>interT id w a b).filter (·.isSome)):=by
 intro z hz;have:=(List.mem_filter.1 hz).1;obtain⟨a,ha,hz⟩:=List.mem_flatMap.1 this;obtain⟨b,hb,rfl⟩:=jQu.1 hz;exact Pe (hx a ha) (hy b hb)
theorem IC(h:tn w T id nF)(hx:TL T x)(hy:TL T y):(x.flatMap λa=>y.map λb=>interT id w a b)=(x.flatMap λa=>y.map λb=>interT nF w a b):=by
 have hm:∀a,a∈x->(y.map λb=>interT id w a b)=(y.map λb=>interT nF w a b):=λa ha=>List.map_congr_left λb hb=>FM h (hx a ha) (hy b hb);clear hx
 induction x with
 |nil=>rfl
 |cons a x ih=>rw[List.flatMap_cons,List.flatMap_cons,hm a i6,ih (λb hb=>hm b (by simp[hb]))]
theorem rX(hx:TL T x)(hy:TL T y):TL T (eH id w x y):=by
 unfold eH;split
 ·exact TL.nil
 ·exact No (Aw hx hy)
theorem FN(h:tn w T id nF)(hx:TL T x)(hy:TL T y):eH id w x y=eH nF w x y:=by
 unfold eH;rw[IC h hx hy,Av h (Aw hx hy)]
theorem Lm(h:tn w T id nF){y:Option Tm}(hx:TL T xl)(hy:TO T y):tD id w xl y=tD nF w xl y:=by
 unfold tD
 induction xl with
 |nil=>rfl
 |cons a x ih=>rw[List.any_cons,List.any_cons,Ll h hy (TL.cons.1 hx).1,ih (TL.cons.1 hx).2]
theorem Ax(h:tn w T id nF)(hx:TL T xl)(hy:TL T yl):nJ id w xl yl=nJ nF w xl yl:=by
 unfold nJ
 congr 1
 induction xl with
 |nil=>rfl
 |cons a x ih=>rw[jRl,jRl,Lm h hy (TL.cons.1 hx).1,ih (TL.cons.1 hx).2]
theorem OY(h:tn w T id nF)(hx:TL T xl)(hy:TL T yl):Pa id w xl yl=Pa nF w xl yl:=by
 unfold Pa;rw[Ax h hx hy,Ax h hy hx]
theorem OX(hx:TL T x)(hy:TL T y):TL T (eJ id w cmp x xc y yc).1:=by
 unfold eJ;simp only;split
 ·intro z hz;exact rX hx hy z (List.mem_filter.1 hz).1
 ·exact rX hx hy
theorem Fw(h:tn w T id nF)(hc:∀a,T a->cmp a=abe a)(hx:TL T x)(hy:TL T y):
 eJ id w cmp x xc y yc=eJ nF w abe x xc y yc:=by
 unfold eJ;simp only;rw[FN h hx hy];have hi:=rX (id:=nF) (w:=w) hx hy;have:(eH nF w x y).filter (keepT cmp)=(eH nF w x y).filter (keepT abe):=by
  refine List.filter_congr λz hz=>?_;cases z with
  |none=>rfl
  |some z=>
   unfold keepT;simp only;split
   ·rename_i a ha;exact hc a (hi _ hz z rfl a ha)
   ·rfl
 rw[this]
end P
namespace P
open S
abbrev PT(NS:List ByteArray)(Q:GT->Prop)(w:List ah)(md:Nat)(t:GT):Prop:=PL w.length NS Q (λ_=>True) md true true t
structure WK(NS:List ByteArray)(Q:GT->Prop)(w:List ah)(rs cs:List Nat):Prop where
 ok:mN NS Q (λ_=>True) w rs cs
 sq:∀(n:Nat) (d:ah),w[n]?=some d->d.under.kind<=10
 sig:∀(n:Nat) (d:ah),w[n]?=some d->∀m∈d.meths,m.sig.kind=7/\isName m.name=true
theorem _root_.Go.Proofs.YtabjfnkfocnklaaGreatDoor.S.PL.ww(h:PL nw NS Q (λ_=>True) md v f t):PL nw NS Q (λ_=>True) md v' f' t:=PL.up (λ_ _=>trivial) h
structure QP(NS:List ByteArray)(Q:GT->Prop):Prop where
 any:Q fD
 err:Q fC
 Xh:str [69,114,114,111,114]∈NS
theorem MP(hq:QP NS Q):PL nw NS Q A md v f fC:=M45
theorem qB:∀{t u:GT},bare t=some u->una t=u
 |.mk k n m v s tg [],u,h=>by
  rw[fo]at h;rw[hZ];split at h
  ·simp at h
  ·rename_i h2;rw[jQ4 h2];split at h<;>simp_all
 |.mk k n m v s tg (e::l),u,h=>by
  rw[fo]at h;rw[hZ];split at h
  ·rename_i h2;rw[jQ7 h2];exact qB (t:=e) h
  ·rename_i h2;rw[jQ4 h2];split at h<;>simp_all
theorem gR(h:PL nw NS Q A md v f t):1<=t.kind/\t.kind<=16:=by
 cases h<;>simp[GT.kind]<;>omega
theorem cJ(hq:QP NS Q)(h:PT NS Q w md t):PT NS Q w md (una t)/\(∀rs v f,J rs v f (una t)<=J rs v f t)/\(∀cs,bP cs (una t)=bP cs t)/\(una t).kind≠2/\(una t).kind≠14/\(t.kind≠2->t.kind≠14->una t=t):=by
 obtain⟨u,h1,h2,h3,h4,h5,h6,h7,h8⟩:=fc hq.any [] [] h;have hu:=qB h1;subst hu;refine⟨h2,λrs v f=>?_,λcs=>?_,h5,h6,h7⟩
 ·obtain⟨u,g1,g2,g3,_⟩:=fc hq.any rs [] (h.ww (v':=v) (f':=f));rw[h1]at g1;cases g1;exact g3
 ·obtain⟨u,g1,g2,g3,g4,_⟩:=fc hq.any [] cs h;rw[h1]at g1;cases g1;exact g4
theorem lq(hw:WK NS Q w rs cs)(hq:QP NS Q)(h:PT NS Q w md t):
 ((az w t=da)\/(PT NS Q w md (az w t)/\(az w t).kind≠2/\(az w t).kind≠11/\(az w t).kind≠14/\(az w t).kind≠15/\(az w t).kind≠16/\(az w t).kind≠17))/\J rs true false (az w t)<=J rs true false t:=by
 obtain⟨h1,h2, -,h5,h6, -⟩:=cJ hq h;have h2:=h2 rs true false;unfold az oZ;generalize una t=b at*;by_cases dA:b.kind=11
 ·rw[jQ7 dA];obtain⟨k,n,m,va,nm,tg,l⟩:=b;simp only[GT.kind]at dA;subst dA;cases h1 with
  |named a1 a2 a3=>
   have iK:(GT.mk 11 n m va nm tg []).n=n:=rfl;simp only[iK];obtain⟨d,hd⟩:∃d,w[n.toNat]?=some d:=⟨w[n.toNat]' m9,i6⟩;rw[hd];obtain⟨hk1,hk2,hk3,QZ,oV,Ag⟩:=hw.ok.kd _ _ hd;have hk:=hw.sq _ _ hd;have hr:=(hw.ok.rk _ _ hd).1;have hJ:J rs true false (.mk 11 n m va nm tg [])=1+rs.getD n.toNat 0:=by simp[bw]
   simp only[Option.map_some,Option.getD_some];have hp:=(hw.ok.ok _ _ trivial hd).1.ww (v':=true) (f':=true);exact⟨.inr ⟨hp.eS (jQ0 _) (λ_ h=>h) (jQc _) id id,hk1,m9,m9,m9,m9,m9⟩,m9⟩
  |uni h=>omega
  |al h=>omega
  |one h=>omega
 ·rw[jQ4 dA];by_cases ka:b.kind=15
  ·rw[jQ7 ka];refine⟨.inr ⟨MP hq,i5,i5,i5,i5,i5,i5⟩,?_⟩;obtain⟨k,n,m,va,nm,tg,l⟩:=b;simp only[GT.kind]at ka;subst ka;rw[bw]at h2;rw[R0];simp at h2;omega
  ·rw[jQ4 ka];by_cases ir:b.kind=16
   ·rw[jQ7 ir];refine⟨.inl rfl,?_⟩;have:J rs true false da=1:=by simp[da,tk,bw,Js]
    have:=oh rs true false t;omega
   ·rw[jQ4 ir];exact⟨.inr ⟨h1,h5,dA,h6,ka,ir,by have:=gR h1;omega⟩,h2⟩
theorem jh(hw:WK NS Q w rs cs)(hq:QP NS Q)(h:PT NS Q w md t):J rs false false (az w t)<=J rs true true t/\J rs false false (az w t)<=J rs true false t:=by
 have h1:=(lq hw hq h).2;have h2:=dM (rs:=rs) (v:=true) (f:=false) (v':=false) (f':=false) i6 id (az w t);have h3:=dM (rs:=rs) (v:=true) (f:=true) (v':=true) (f':=false) id i6 t;omega
theorem aa2(rs:List Nat)(v f:Bool):J rs v f da=1:=by simp[da,tk,bw,Js]
def Fb(NS:List ByteArray)(Q:GT->Prop)(w:List ah)(t:GT):Prop:=(PT NS Q w 0 t/\t.kind=10)\/t=da
theorem jO(hw:WK NS Q w rs cs)(hq:QP NS Q)(h:PT NS Q w 0 t)(hi:isIf (az w t)=true):Fb NS Q w (az w t):=by
 rcases(lq hw hq h).1 with e|⟨h1,h2⟩
 ·exact .inr e
 ·refine .inl ⟨h1,?_⟩;simp[isIf]at hi;omega
theorem fE(hw:WK NS Q w rs cs)(hq:QP NS Q)(h:PT NS Q w 0 t)(hi:isIf (az w t)=false):PT NS Q w 0 (az w t):=by
 rcases(lq hw hq h).1 with e|⟨h1,h2⟩
 ·rw[e]at hi;simp[isIf,da,tk,GT.kind]at hi
 ·exact h1
def jH(NS:List ByteArray)(Q:GT->Prop)(w:List ah)(rs:List Nat)(b:Nat)(a:GT):Prop:=PT NS Q w 0 a/\J rs true true a<b/\isIf (az w a)=false
def VW(NS:List ByteArray)(Q:GT->Prop)(w:List ah)(rs:List Nat)(b:Nat)(m:GT):Prop:=m.kind=7/\m.name∈NS/\isName m.name=true/\PT NS Q w 0 m/\J rs false false m<b
theorem jH.mono(hb:b<=b'){a:GT}(h:jH NS Q w rs b a):jH NS Q w rs b' a:=⟨h.1,by have:=h.2.1;omega,h.2.2⟩
theorem VW.mono(hb:b<=b'){a:GT}(h:VW NS Q w rs b a):VW NS Q w rs b' a:=⟨h.1,h.2.1,h.2.2.1,h.2.2.2.1,by have:=h.2.2.2.2;omega⟩
structure adG(NS:List ByteArray)(Q:GT->Prop)(w:List ah)(rs:List Nat)(b:Nat)(s:TS):Prop where
 terms:TL (jH NS Q w rs b) s.terms
 meths:∀m∈s.meths,VW NS Q w rs b m
 nodup:(s.meths.map (·.name)).Nodup
def uO(NS:List ByteArray)(Q:GT->Prop)(w:List ah)(rs:List Nat)(r:Nat)(F:Fs):Prop:=∀t,Fb NS Q w t->2*J rs false false t<r->adG NS Q w rs (J rs false false t) (F.ts t)
structure ks(NS:List ByteArray)(Q:GT->Prop)(w:List ah)(rs:List Nat)(r:Nat)(F G:Fs):Prop where
 id:∀x y,PT NS Q w 0 x->PT NS Q w 0 y->2*J rs false false x+1<r->2*J rs false false y+1<r->F.id x y=G.id x y
 cmp:∀t d,PT NS Q w 0 t->2*J rs true false t+1<r->F.cmp t d=G.cmp t d
 ts:∀t,Fb NS Q w t->2*J rs false false t<r->F.ts t=G.ts t
theorem ks.aa8(hw:WK NS Q w rs cs)(hq:QP NS Q)(h:ks NS Q w rs r F G)(hb:2*b<=r):tn w (jH NS Q w rs b) F.id G.id:=by
 intro x y hx hy;have jx:=dM (rs:=rs) (v:=true) (f:=true) (v':=false) (f':=false) i6 i6 x;have jy:=dM (rs:=rs) (v:=true) (f:=true) (v':=false) (f':=false) i6 i6 y;have ux:=(jh hw hq hx.1).1;have uy:=(jh hw hq hy.1).1;have h1:=hx.2.1;have h2:=hy.2.1;exact⟨h.id _ _ hx.1 hy.1 m9 m9,h.id _ _ (fE hw hq hx.1 hx.2.2) hy.1 m9 m9,h.id _ _ hx.1 (fE hw hq hy.1 hy.2.2) m9 m9,h.id _ _ (fE hw hq hx.1 hx.2.2) (fE hw hq hy.1 hy.2.2) m9 m9⟩
theorem ks.ZP(h:ks NS Q w rs r F G)(hb:2*b<=r)(d:Bool):∀a,jH NS Q w rs b a->F.cmp a d=G.cmp a d:=by
 intro a ha;have ja:=dM (rs:=rs) (v:=true) (f:=true) (v':=true) (f':=false) (λh=>h) i6 a;have:=ha.2.1;exact h.cmp a d ha.1 m9
def ep(e:GT):GT:=if e.kind==13 then e.elems.headD fD else e
theorem Fu(h:PT NS Q w 1 e):PT NS Q w 0 (ep e)/\J rs true true (ep e)<=J rs true true e:=by
 obtain⟨a,h1,h2,h3⟩:=xg (rs:=rs) h (rT h);have:ep e=a:=by
  unfold ep;by_cases cg:e.kind=13
  ·rw[jQ7 cg]at h1;rw[jQ7 (by simpa using cg)];cases hl:e.elems with
   |nil=>rw[hl]at h1;simp at h1
   |cons y l=>rw[hl]at h1;simpa using h1
  ·rw[jQ4 cg]at h1;rw[jQ4 (by simpa using cg)];simpa using h1
 rw[this];exact⟨h2,h3⟩
theorem uP(F:Fs)(e:GT):oq F w e=if isIf (az w (ep e))then(F.ts (az w (ep e))).terms else if (e.kind==13)&&!F.id (ep e) (az w (ep e))then[none]else[some ⟨e.kind==13,some (ep e)⟩]:=rfl
theorem Ah(hw:WK NS Q w rs cs)(hq:QP NS Q)(hS:ks NS Q w rs r F G)(hA:uO NS Q w rs r F)(h:PT NS Q w 1 e)(hJ:J rs true true e<b)(hb:2*b<=r):
 oq F w e=oq G w e/\TL (jH NS Q w rs b) (oq F w e):=by
 rw[uP,uP];obtain⟨h1,h2⟩:=Fu (rs:=rs) h;generalize ep e=x at*;have hu:=jh hw hq h1;have jx:=dM (rs:=rs) (v:=true) (f:=true) (v':=false) (f':=false) i6 i6 x;cases hi:isIf (az w x)with
 |true=>
  have hI:=jO hw hq h1 hi;simp only[if_true];have hs:=hA _ hI m9;rw[hS.ts _ hI m9]at*;exact⟨rfl,hs.terms.imp λa ha=>ha.mono m9⟩
 |false=>
  simp only[jQk,jR1];rw[hS.id _ _ h1 (fE hw hq h1 hi) m9 m9];refine⟨rfl,?_⟩;split
  ·exact TL.cons.2 ⟨TO.none,TL.nil⟩
  ·refine TL.cons.2 ⟨TO.some.2 ?_,TL.nil⟩;intro a ha;simp at ha;subst ha;exact⟨h1,m9,hi⟩
theorem lr(hw:WK NS Q w rs cs)(hq:QP NS Q){r b:Nat}{F G:Fs}(hS:ks NS Q w rs r F G)(hA:uO NS Q w rs r F)(hb:2*b<=r):
 ∀{l:List GT} {acc:List (Option Tm)},(∀e∈l,PT NS Q w 1 e/\J rs true true e<b)->TL (jH NS Q w rs b) acc->
  unionTerms F w acc l=unionTerms G w acc l/\∀q,unionTerms F w acc l=some q->TL (jH NS Q w rs b) q
 |[],acc,_,ha=>⟨by rw[unionTerms,unionTerms],λq hq=>by rw[unionTerms]at hq;cases hq;exact ha⟩
 |e::l,acc,hl,ha=>by
  obtain⟨h1,h2⟩:=Ah hw hq hS hA (hl e i6).1 (hl e i6).2 hb;have hi:=hS.aa8 hw hq hb;rw[unionTerms,unionTerms,<-h1,Fv hi ha h2];have h3:=ot (id:=G.id) (w:=w) ha h2;split
  ·exact⟨rfl,λq hq=>by cases hq⟩
  ·exact lr hw hq hS hA hb (λe he=>hl e (by simp[he])) h3
theorem uQ(h:PT NS Q w 2 e)(hk:e.kind=12):∀x∈e.elems,PT NS Q w 1 x/\J rs true true x<J rs true true e:=by
 obtain⟨k,n,m,va,nm,tg,l⟩:=e;simp only[GT.kind]at hk;subst hk;cases h with
 |un a b c d=>
  intro x hx;refine⟨d x hx,?_⟩;have hx':x∈l:=hx;have:=jP (rs:=rs) (v:=true) (f:=true) hx';rw[bw];simp;omega
 |uni h=>omega
 |al h=>omega
 |one h=>omega
theorem tw(h:PT NS Q w 2 e)(hk:e.kind=13):PT NS Q w 1 e:=by
 obtain⟨k,n,m,va,nm,tg,l⟩:=e;simp only[GT.kind]at hk;subst hk;cases h with
 |ti a b=>exact .ti i5 b
 |uni h=>omega
 |al h=>omega
 |one h=>omega
theorem yo(hw:WK NS Q w rs cs)(hq:QP NS Q)(hS:ks NS Q w rs r F G)(hA:uO NS Q w rs r F)(h:PT NS Q w 2 e)(hJ:J rs true true e<b)(hb:2*b<=r):
 gu F w e=gu G w e/\∀i,gu F w e=some i->TL (jH NS Q w rs b) i.terms/\∀m∈i.ms,VW NS Q w rs b m:=by
 unfold gu;by_cases cQ:e.kind=12
 ·rw[jQ7 cQ,jQ7 cQ];obtain⟨h1,h2⟩:=lr hw hq hS hA hb (acc:=[]) (λx hx=>⟨(uQ (rs:=rs) h cQ x hx).1,by have:=(uQ (rs:=rs) h cQ x hx).2;omega⟩) TL.nil;exact M176
 ·rw[jQ4 cQ,jQ4 cQ];by_cases cg:e.kind=13
  ·rw[jQ7 cg,jQ7 cg];obtain⟨h1,h2⟩:=lr hw hq hS hA hb (acc:=[]) (l:=[e]) (λx hx=>by simp at hx;subst hx;exact⟨tw h cg,hJ⟩) TL.nil;exact M176
  ·rw[jQ4 cg,jQ4 cg];have h0:=pg h m9;have hu:=jh hw hq h0;simp only;cases hi:isIf (az w e)with
   |true=>
    have hI:=jO hw hq h0 hi;have hs:=hA _ hI m9;have he:=hS.ts _ hI m9;rw[jQ7 rfl,jQ7 rfl,<-he];refine⟨rfl,λi hi=>?_⟩;cases hi;exact⟨hs.terms.imp λa ha=>ha.mono m9,λm hm=>(hs.meths m hm).mono m9⟩
   |false=>
    rw[jQ4 i6,jQ4 i6];refine⟨rfl,λi Xi=>?_⟩;cases Xi;refine⟨TL.cons.2 ⟨TO.some.2 ?_,TL.nil⟩,i6⟩;intro a ha;simp at ha;subst ha;exact⟨h0,m9,hi⟩
structure uR(NS:List ByteArray)(Q:GT->Prop)(w:List ah)(rs:List Nat)(b:Nat)(a:Acc):Prop where
 terms:TL (jH NS Q w rs b) a.terms
 ms:∀m∈a.ms,VW NS Q w rs b m
 nodup:(a.ms.map (·.name)).Nodup
theorem De(hw:WK NS Q w rs cs)(hq:QP NS Q)(hS:ks NS Q w rs r F G)(hA:uO NS Q w rs r F)(h:PT NS Q w 2 e)(hJ:J rs true true e<b)(hb:2*b<=r)(ha:uR NS Q w rs b a):
 eG F w a e=eG G w a e/\uR NS Q w rs b (eG F w a e):=by
 obtain⟨h1,h2⟩:=yo hw hq hS hA h hJ hb;unfold eG;rw[<-h1];cases hi:gu F w e with
 |none=>exact⟨rfl,ha⟩
 |some i=>
  obtain⟨g1,g2⟩:=h2 i hi;simp only;have hid:=hS.aa8 hw hq hb;have hc:=hS.ZP hb false;rw[Fw hid hc ha.terms g1];exact⟨rfl,OX ha.terms g1,kU ha.ms g2,iM ha.nodup⟩
theorem ph(hw:WK NS Q w rs cs)(hq:QP NS Q){r b:Nat}{F G:Fs}(hS:ks NS Q w rs r F G)(hA:uO NS Q w rs r F)(hb:2*b<=r):
 ∀{l:List GT} {a:Acc},(∀e∈l,PT NS Q w 2 e/\J rs true true e<b)->uR NS Q w rs b a->l.foldl (eG F w) a=l.foldl (eG G w) a/\uR NS Q w rs b (l.foldl (eG F w) a)
 |[],a,_,ha=>⟨rfl,ha⟩
 |e::l,a,hl,ha=>by
  obtain⟨h1,h2⟩:=De hw hq hS hA (hl e i6).1 (hl e i6).2 hb ha;rw[List.foldl_cons,List.foldl_cons,<-h1];exact ph hw hq hS hA hb (λe he=>hl e (by simp[he])) h2
theorem tz(l:List GT):(ib l).Perm l:=List.mergeSort_perm _ _
theorem Nc(hw:WK NS Q w rs cs)(hq:QP NS Q)(hS:ks NS Q w rs r F G)(hA:uO NS Q w rs r F)(h:Fb NS Q w t)(hr:2*J rs false false t<r+1):
 iH F w t=iH G w t/\adG NS Q w rs (J rs false false t) (iH F w t):=by
 unfold iH;rcases h with⟨h,bH⟩|rfl
 ·rw[jQ4 m9,jQ4 m9];obtain⟨-, -,e3,e4,e5, -, -⟩:=cu (rs:=rs) (cs:=[]) (h.ww (v':=false) (f':=false)) bH;have ha:uR NS Q w rs (J rs false false t) ⟨(own t).foldl lF [],[some fu],false⟩:=M117
  obtain⟨h1,h2⟩:=ph hw hq hS hA (b:=J rs false false t) (l:=bN t) m9 (λe he=>⟨(e3 e he).1.ww,(e3 e he).2⟩) ha;simp only;rw[<-h1];refine⟨rfl,h2.terms,λm hm=>h2.ms m ((tz _).mem_iff.1 hm),?_⟩;exact((tz _).map _).nodup_iff.2 h2.nodup
 ·rw[jQ7 (show da.kind=17 from rfl),jQ7 (show da.kind=17 from rfl)];exact⟨rfl,TL.cons.2 ⟨TO.some.2 TT.all,TL.nil⟩,i6,i6⟩
theorem all_congr{α:Type}{p q:α->Bool}:∀{l:List α},(∀a∈l,p a=q a)->l.all p=l.all q
 |[],_=>rfl
 |a::l,h=>by rw[jRl,jRl,h a i6,all_congr λb hb=>h b (by simp[hb])]
theorem Iq{s:TS}(h:∀x∈s.terms,∀tm,x=some tm->∀a,tm.jg=some a->F.cmp a false=G.cmp a false):lB F s=lB G s:=by
 unfold lB;split
 ·rfl
 ·split
  ·rfl
  ·refine all_congr λx hx=>?_;cases x with
   |none=>rfl
   |some x=>
    simp only;split
    ·rename_i a ha;exact h _ hx x rfl a ha
    ·rfl
theorem ov{u:GT}(h:PT NS Q w 0 u)(hk:u.kind=5\/u.kind=3):∀e∈u.elems,PT NS Q w 0 e/\J rs true false e<J rs true false u:=by
 obtain⟨k,n,m,va,nm,tg,l⟩:=u;simp only[GT.kind]at hk;have hj:∀e∈l,J rs true false e<J rs true false (.mk k n m va nm tg l):=by
  intro e he;have:=jP (rs:=rs) (v:=true) (f:=false) he;rw[bw,jQ4 m9,jQ4 m9,jQ4 m9,jQ7 m9];omega
 intro e he;refine⟨?_,hj e he⟩;cases h with
 |al a b c=>simp[GT.elems]at he;subst he;exact c
 |st a b c=>exact c e he
 |one a=>omega
 |uni a=>omega
 |_=>omega
theorem R1(hw:WK NS Q w rs cs)(hq:QP NS Q)(hS:ks NS Q w rs r F G)(hA:uO NS Q w rs r F)(h:PT NS Q w 0 t)(d:Bool)(hr:2*J rs true false t+1<r+1):
 bX F w t d=bX G w t d:=by
 obtain⟨hu,hj⟩:=lq hw hq h;have VV:=jh hw hq h;unfold bX;simp only;split
 ·rfl
 ·split
  ·rename_i h5
   obtain e|⟨hu, -⟩:=hu
   ·rw[e]at h5;simp[da,tk,GT.kind]at h5
   ·refine all_congr λe he=>?_;obtain⟨p1,p2⟩:=ov (rs:=rs) hu (.inl h5) e he;exact hS.cmp e d p1 m9
  ·split
   ·rename_i h3
    obtain e|⟨hu, -⟩:=hu
    ·rw[e]at h3;simp[da,tk,GT.kind]at h3
    ·have hp:=ov (rs:=rs) hu (.inr h3);cases hl:(az w t).elems with
     |nil=>exact absurd hl (by
      generalize az w t=u at*;obtain⟨k,n,m,va,nm,tg,l⟩:=u;simp only[GT.kind]at h3;subst h3;cases hu with
      |al a b c=>simp[GT.elems]
      |uni a=>omega
      |one a=>omega)
     |cons x l=>
      rw[hl]at hp;obtain⟨p1,p2⟩:=hp x i6;exact hS.cmp x d p1 m9
   ·split
    ·rename_i hi
     have hI:=jO hw hq h hi;have hs:=hA _ hI m9;rw[hS.ts _ hI m9]at*;rw[Iq (F:=F) (G:=G) λx hx tm e a ha=>?_];exact hS.ZP (b:=J rs false false (az w t)) m9 false a (hs.terms x hx tm e a ha)
    ·rfl
theorem rU{id nF:GT->GT->Bool}:∀{l l':List GT},(∀a∈l,∀b∈l',id a b=nF a b)->idL id l l'=idL nF l l'
 |[],[],_=>rfl
 |[],_::_,_=>rfl
 |_::_,[],_=>rfl
 |a::l,b::l',h=>by
  rw[idL,idL,h a i6 b i6,rU λx hx y hy=>h x (by simp[hx]) y (by simp[hy])]
theorem Fx{α β:Type}:∀{l:List α} {l':List β} {p:α×β},p∈l.zip l'->p.1∈l/\p.2∈l'
 |[],_,p,h=>by simp at h
 |_::_,[],p,h=>by simp at h
 |a::l,b::l',p,h=>by
  rw[List.zip_cons_cons]at h;rcases jQn.1 h with rfl|h
  ·exact⟨i6,i6⟩
  ·have:=Fx h;exact⟨by simp[this.1],by simp[this.2]⟩
theorem Xj(hw:WK NS Q w rs cs)(hq:QP NS Q)(hS:ks NS Q w rs r F G)(hA:uO NS Q w rs r F){x y:GT}(hx:PT NS Q w 0 x)(hy:PT NS Q w 0 y)(hrx:2*J rs false false x+1<r+1)(hry:2*J rs false false y+1<r+1):jQ F w x y=jQ G w x y:=by
 obtain⟨px,jx, -,kx,kx', -⟩:=cJ hq hx;obtain⟨py,jy, -,ky,ky', -⟩:=cJ hq hy;have jx:=jx rs false false;have jy:=jy rs false false;unfold jQ;simp only;generalize una x=x' at*;generalize una y=y' at*;by_cases hi:isIf x'=true/\isIf y'=true
 ·have hf:(isIf x'&&isIf y')=true:=by simp[hi]
  simp only[hf,if_true];have ix:Fb NS Q w x':=.inl ⟨px,by have:=gR px;simp[isIf]at hi;omega⟩;have iy:Fb NS Q w y':=.inl ⟨py,by have:=gR py;simp[isIf]at hi;omega⟩;have sx:=hA _ ix m9;have sy:=hA _ iy m9;rw[hS.ts _ ix m9,hS.ts _ iy m9]at*;have hb:2*max (J rs false false x') (J rs false false y')<=r:=m9
  rw[OY (hS.aa8 hw hq hb) (sx.terms.imp λa ha=>ha.mono (jRs _ _)) (sy.terms.imp λa ha=>ha.mono (jRg _ _))]
  congr 1
  refine all_congr λp hp=>?_;have:=Fx hp;obtain⟨-, -, -,q1,q2⟩:=sx.meths _ this.1;obtain⟨-, -, -,q3,q4⟩:=sy.meths _ this.2;rw[hS.id _ _ q1 q3 m9 m9]
 ·have hf:(isIf x'&&isIf y')=false:=by
   cases h1:isIf x'<;>cases h2:isIf y'<;>simp_all
  simp only[hf,jQk,jR1];by_cases hk:x'.kind≠y'.kind
  ·simp only[jQ7 hk]
  ·simp only[jQ4 hk];have aa9:x'.kind≠10:=λe=>hi ⟨by simp[isIf,e],by simp[isIf];omega⟩;have ex:=ow (rs:=rs) (px.ww (v':=false) (f':=false)) aa9;have ey:=ow (rs:=rs) (py.ww (v':=false) (f':=false)) m9;have hid:∀a∈x'.elems,∀b∈y'.elems,F.id a b=G.id a b:=λa ha b hb=>by
    have h1:=ex a ha;have h2:=ey b hb;exact hS.id _ _ h1.1.ww h2.1.ww m9 m9
   rw[rU hid,rU (l:=own x') (l':=own y') (λa ha b hb=>hid a (jQt ha) b (jQt hb)),
    rU (l:=bN x') (l':=bN y') (λa ha b hb=>hid a (jR2 ha) b (jR2 hb)),
    all_congr (l:=x'.elems.zip y'.elems) (p:=λp=>aE p.1.tag p.2.tag&&aE p.1.name p.2.name&&F.id p.1 p.2) (q:=λp=>aE p.1.tag p.2.tag&&aE p.1.name p.2.name&&G.id p.1 p.2) (λp hp=>by
     have:=Fx hp;rw[hid _ this.1 _ this.2])]
theorem eZ(hw:WK NS Q w rs cs)(hq:QP NS Q):∀(r k k':Nat),r<=k->r<=k'->ks NS Q w rs r (fs w k) (fs w k')/\uO NS Q w rs r (fs w k)
 |0,k,k',_,_=>⟨⟨λ_ _ _ _ h _=>m9,λ_ _ _ h=>m9,λ_ _ h=>m9⟩,λ_ _ h=>m9⟩
 |r+1,k,k',hk,hk'=>by
  obtain⟨k,rfl⟩:∃j,k=j+1:=⟨k - 1,m9⟩;obtain⟨k',rfl⟩:∃j,k'=j+1:=⟨k' - 1,m9⟩;obtain⟨hS,hA⟩:=eZ hw hq r k k' m9 m9;rw[fs,fs];exact⟨⟨λx y hx hy h1 h2=>Xj hw hq hS hA hx hy h1 h2,λt d h hr=>R1 hw hq hS hA h d hr,λt h hr=>(Nc hw hq hS hA h hr).1⟩,λt h hr=>(Nc hw hq hS hA h hr).2⟩
end P
namespace P
open S
def Tp(x:Option Tm):Prop:=∃b a,x=some ⟨b,some a⟩
def AL(l:List (Option Tm)):Prop:=∀x∈l,∀tm,x=some tm->tm.jg=none->tm=fu
def NF(l:List (Option Tm)):Prop:=l=[some fu]\/∀x∈l,Tp x
theorem NF.al(h:NF l):AL l:=by
 intro x hx tm e he;obtain rfl|h:=h
 ·simp at hx;subst hx;simpa using e.symm
 ·obtain⟨b,a,e'⟩:=h x hx;rw[e']at e;cases e;simp at he
theorem AL.cons{x:Option Tm}:AL (x::l)↔(∀tm,x=some tm->tm.jg=none->tm=fu)/\AL l:=by unfold AL;simp
theorem AL.append(h:AL l)(h':AL l'):AL (l++l'):=λx hx=>(jQm.1 hx).elim (h x) (h' x)
def NU(l:List (Option Tm)):Prop:=∀x∈l,∀tm,x=some tm->tm.jg≠none
theorem fg(x:Option Tm)(l:List (Option Tm)):isAllL (x::l)=((match x with|some x=>x.jg.isNone|none=>false)||isAllL l):=rfl
theorem um:isAllL l=true↔∃tm,some tm∈l/\tm.jg=none:=by
 unfold isAllL;rw[List.any_eq_true];constructor
 ·rintro⟨x,hx,h⟩;cases x with
  |none=>simp at h
  |some x=>exact⟨x,hx,by simpa using h⟩
 ·rintro⟨tm,hx,h⟩;exact⟨some tm,hx,by simpa using h⟩
theorem oR:isAllL l=false↔NU l:=by
 rw[<-Bool.not_eq_true,um];constructor
 ·intro h x hx tm e he;subst e;exact h ⟨tm,hx,he⟩
 ·rintro h ⟨tm,hx,he⟩;exact h _ hx tm rfl he
theorem NF.one(h:NF l)(ha:isAllL l=true):l=[some fu]:=by
 obtain h|h:=h
 ·exact h
 ·obtain⟨tm,hx,he⟩:=um.1 ha;obtain⟨b,a,e⟩:=h _ hx;cases e;simp at he
theorem NF.tp(h:NF l)(ha:isAllL l=false):∀x∈l,Tp x:=by
 obtain rfl|h:=h
 ·simp[isAllL,fu]at ha
 ·exact h
theorem Mn{x y:Tm}(h:unionT id w x y=(u,some z)):u=x/\z=y/\x.jg≠none/\y.jg≠none:=by
 unfold unionT at h;split at h
 ·simp at h
 ·simp at h
 ·rename_i a b ha hb
  split at h
  ·simp at h;exact⟨h.1.symm,h.2.symm,by simp[ha],by simp[hb]⟩
  ·split at h<;>simp at h
theorem Cm{x y:Tm}(h:unionT id w x y=(u,none)):(u=x\/u=y)/\(u.jg≠none->x.jg≠none/\y.jg≠none):=by
 unfold unionT at h;split at h
 ·rename_i hx;simp at h;subst h;exact⟨.inl rfl,λh=>absurd hx h⟩
 ·rename_i hx _;simp at h;subst h;exact⟨.inr rfl,λh=>absurd hx h⟩
 ·rename_i a b ha hb
  split at h
  ·simp at h
  ·split at h<;>simp at h<;>subst h<;>exact⟨i6,λ_=>⟨by simp[ha],by simp[hb]⟩⟩
theorem pO:∀{l:List (Option Tm)} {x:Tm} {r:Tm×List (Option Tm)},absorb id w x l=some r->r.2.length=l.length
 |[],x,r,h=>by rw[absorb]at h;cases h;rfl
 |none::l,x,r,h=>by
  rw[absorb]at h;obtain⟨q,hq,rfl⟩:=jQ6.1 h;simp[pO hq]
 |some y::l,x,r,h=>by
  rw[absorb]at h;rcases hq:unionT id w x y with⟨u,o⟩;rw[hq]at h;cases o with
  |none=>
   simp only at h;split at h
   ·cases h
   ·obtain⟨q,hq,rfl⟩:=jQ6.1 h;simp[pO hq]
  |some z=>
   simp only at h;obtain⟨q,hq,rfl⟩:=jQ6.1 h;simp[pO hq]
theorem lV:∀{l:List (Option Tm)} {x:Tm} {r:Tm×List (Option Tm)},absorb id w x l=some r->NU r.2/\(x.jg≠none->r.1.jg≠none/\NU l)/\(x.jg=none->r.1=x/\∀y∈l,y=none)
 |[],x,r,h=>by rw[absorb]at h;cases h;exact⟨λ_ h=>by simp at h,λh=>⟨h,λ_ h=>by simp at h⟩,λ_=>⟨rfl,i6⟩⟩
 |none::l,x,r,h=>by
  rw[absorb]at h;obtain⟨q,hq,rfl⟩:=jQ6.1 h;obtain⟨h1,h2,h3⟩:=lV hq;refine⟨?_,λhx=>⟨(h2 hx).1,?_⟩,λhx=>⟨(h3 hx).1,?_⟩⟩
  ·intro z hz tm e;rcases jQn.1 hz with rfl|hz
   ·cases e
   ·exact h1 z hz tm e
  ·intro z hz tm e;rcases jQn.1 hz with rfl|hz
   ·cases e
   ·exact(h2 hx).2 z hz tm e
  ·intro y hy;rcases jQn.1 hy with rfl|hy
   ·rfl
   ·exact(h3 hx).2 y hy
 |some y::l,x,r,h=>by
  rw[absorb]at h;rcases hq:unionT id w x y with⟨u,o⟩;rw[hq]at h;cases o with
  |none=>
   obtain⟨g1,g2⟩:=Cm hq;simp only at h;split at h
   ·cases h
   ·rename_i hu
    have Wd:u.jg≠none:=by simpa using hu
    obtain⟨q,hq,rfl⟩:=jQ6.1 h;obtain⟨h1,h2,h3⟩:=lV hq;refine⟨?_,λhx=>⟨(h2 Wd).1,?_⟩,λhx=>absurd hx (g2 Wd).1⟩
    ·intro z hz tm e;rcases jQn.1 hz with rfl|hz
     ·cases e
     ·exact h1 z hz tm e
    ·intro z hz tm e;rcases jQn.1 hz with rfl|hz
     ·cases e;exact(g2 Wd).2
     ·exact(h2 Wd).2 z hz tm e
  |some z'=>
   obtain⟨g1,g2,g3,g4⟩:=Mn hq;simp only at h;obtain⟨q,hq,rfl⟩:=jQ6.1 h;obtain⟨h1,h2,h3⟩:=lV hq;refine⟨?_,λhx=>⟨(h2 hx).1,?_⟩,λhx=>absurd hx g3⟩
   ·intro z hz tm e;rcases jQn.1 hz with rfl|hz
    ·cases e;exact g4
    ·exact h1 z hz tm e
   ·intro z hz tm e;rcases jQn.1 hz with rfl|hz
    ·cases e;exact g4
    ·exact(h2 hx).2 z hz tm e
theorem nz:∀{l:List (Option Tm)} {x:Tm},absorb id w x l=none->isAllL (some x::l)=true
 |[],x,h=>by rw[absorb]at h;cases h
 |none::l,x,h=>by
  rw[absorb]at h;have:=nz (Option.map_eq_none_iff.1 h);rw[fg]at this⊢;simpa[fg]using this
 |some y::l,x,h=>by
  rw[absorb]at h;rcases hq:unionT id w x y with⟨u,o⟩;rw[hq]at h;cases o with
  |none=>
   obtain⟨g1,g2⟩:=Cm hq;simp only at h;split at h
   ·rename_i hu
    obtain rfl|rfl:=g1
    ·simp[fg,hu]
    ·simp[fg,hu]
   ·have:=nz (Option.map_eq_none_iff.1 h);obtain rfl|rfl:=g1
    ·exact M136
    ·exact M136
  |some z=>
   simp only at h;have:=nz (Option.map_eq_none_iff.1 h);exact M136
theorem xY:∀{k:Nat} {l r:List (Option Tm)},normA id w k l=some r->r.length<=l.length
 |0,l,r,h=>by rw[normA]at h;cases h;simp
 |k+1,[],r,h=>by rw[normA]at h;cases h;simp;simp
 |k+1,none::l,r,h=>by rw[normA]at h;have:=xY h;simp;omega
 |k+1,some x::l,r,h=>by
  rw[normA]at h;obtain⟨q,hq,h⟩:=jQ1.1 h;obtain⟨q',xu,rfl⟩:=jQ6.1 h;have h1:=pO hq;have h2:=xY xu;simp;omega
theorem Cn:∀{k:Nat} {l r:List (Option Tm)},NU l->normA id w k l=some r->∀x∈r,Tp x
 |0,l,r,_,h=>by rw[normA]at h;cases h;simp
 |k+1,[],r,_,h=>by rw[normA]at h;cases h;simp;simp
 |k+1,none::l,r,hn,h=>by rw[normA]at h;exact Cn (λx hx=>hn x (by simp[hx])) h
 |k+1,some x::l,r,hn,h=>by
  rw[normA]at h;obtain⟨q,hq,h⟩:=jQ1.1 h;obtain⟨q',xu,rfl⟩:=jQ6.1 h;obtain⟨h1,h2,_⟩:=lV hq;have hx:=hn (some x) i6 x rfl;intro z hz;rcases jQn.1 hz with rfl|hz
  ·have:=(h2 hx).1;obtain⟨⟨b,a⟩,q2⟩:=q;cases a with
   |none=>exact absurd rfl this
   |some a=>exact⟨_,_,rfl⟩
  ·exact Cn h1 xu z hz
theorem Co:∀{k:Nat} {l:List (Option Tm)},(∀x∈l,x=none)->normA id w k l=some []
 |0,l,_=>by rw[normA]
 |k+1,[],_=>by rw[normA];simp
 |k+1,none::l,h=>by rw[normA];exact Co λx hx=>h x (by simp[hx])
 |k+1,some x::l,h=>by have:=h (some x) i6;cases this
theorem yP:∀{l:List (Option Tm)} {x:Tm} {r:Tm×List (Option Tm)},(∀y∈l,y=none)->absorb id w x l=some r->∀y∈r.2,y=none
 |[],x,r,_,h=>by rw[absorb]at h;cases h;simp
 |none::l,x,r,hl,h=>by
  rw[absorb]at h;obtain⟨q,hq,rfl⟩:=jQ6.1 h;intro y hy;rcases jQn.1 hy with rfl|hy
  ·rfl
  ·exact yP (λy hy=>hl y (by simp[hy])) hq y hy
 |some y::l,x,r,hl,h=>by have:=hl (some y) i6;cases this
theorem EU:∀{k:Nat} {l r:List (Option Tm)},l.length<=k->AL l->isAllL l=true->normA id w k l=some r->r=[some fu]
 |0,l,r,hk,_,ha,_=>by
  have:=jQe (l:=l) m9;subst this;simp[isAllL]at ha
 |k+1,[],r,_,_,ha,_=>by simp[isAllL]at ha
 |k+1,none::l,r,hk,hl,ha,h=>by
  rw[normA]at h;exact EU (by simp at hk;omega) (AL.cons.1 hl).2 (by simpa[fg]using ha) h
 |k+1,some x::l,r,hk,hl,ha,h=>by
  rw[normA]at h;obtain⟨q,hq,h⟩:=jQ1.1 h;obtain⟨q',xu,rfl⟩:=jQ6.1 h;obtain⟨h1,h2,h3⟩:=lV hq;by_cases hx:x.jg=none
  ·obtain⟨g1,g2⟩:=h3 hx;rw[Co (yP g2 hq)]at xu;cases xu;rw[g1,(AL.cons.1 hl).1 x rfl hx]
  ·obtain⟨g1,g2⟩:=h2 hx;exfalso;obtain⟨tm,hm,he⟩:=um.1 ha;rcases jQn.1 hm with e|hm
   ·cases e;exact hx he
   ·exact g2 _ hm tm rfl he
theorem uo:∀{k:Nat} {l:List (Option Tm)},normA id w k l=none->isAllL l=true
 |0,l,h=>by rw[normA]at h;cases h
 |k+1,[],h=>by rw[normA]at h;cases h;simp
 |k+1,none::l,h=>by rw[normA]at h;simpa[fg]using uo h
 |k+1,some x::l,h=>by
  rw[normA]at h;cases hq:absorb id w x l with
  |none=>exact nz hq
  |some q=>
   rw[hq]at h;simp only[jQa,Option.map_eq_none_iff]at h;have:=oR.2 (lV hq).1;rw[uo h]at this;cases this
theorem F8(hl:AL l):NF (norm id w l)/\isAllL (norm id w l)=isAllL l/\(norm id w l).length<=max l.length 1/\(isAllL l=false->(norm id w l).length<=l.length):=by
 have h1:isAllL [some fu]=true:=by simp[isAllL,fu]
 unfold norm;cases h:normA id w l.length l with
 |none=>rw[uo h];exact⟨.inl rfl,h1,by simp[Option.getD];omega,i6⟩
 |some r=>
  simp only[Option.getD];have hlen:=xY h;cases ha:isAllL l with
  |true=>
   have:=EU (jQ0 _) hl ha h;subst this;exact⟨.inl rfl,h1,by simp;omega,i6⟩
  |false=>
   have:=Cn (oR.1 ha) h;refine⟨.inr this,?_,m9,λ_=>hlen⟩;rw[oR];intro x hx tm e he;obtain⟨b,a,e'⟩:=this x hx;rw[e']at e;cases e;simp at he
theorem UK(hx:AL x)(hy:AL y):AL ((x.flatMap λa=>y.map λb=>interT id w a b).filter (·.isSome)):=by
 intro z hz tm e he;have:=(List.mem_filter.1 hz).1;obtain⟨a,ha,hz⟩:=List.mem_flatMap.1 this;obtain⟨b,hb,rfl⟩:=jQu.1 hz;have:interT id w a b=none\/interT id w a b=a\/interT id w a b=b:=by
  unfold interT;split
  ·exact .inl rfl
  ·exact .inl rfl
  ·split
   ·exact .inr (.inr rfl)
   ·exact .inr (.inl rfl)
   ·split
    ·exact .inl rfl
    ·split
     ·exact .inr (.inl rfl)
     ·exact .inr (.inr rfl)
 obtain h|h|h:=this
 ·rw[h]at e;cases e
 ·rw[h]at e;exact hx _ ha tm e he
 ·rw[h]at e;exact hy _ hb tm e he
theorem ES(x y:List (Option Tm)):((x.flatMap λa=>y.map λb=>interT id w a b).filter (·.isSome)).length<=x.length*y.length:=by
 refine jQd (List.length_filter_le _ _) ?_
 induction x with
 |nil=>simp
 |cons a x ih=>rw[List.flatMap_cons,jQo,jR7,List.length_cons,Nat.succ_mul];omega
theorem Qm(hx:x=[some fu])(hy:y=[some fu]):((x.flatMap λa=>y.map λb=>interT id w a b).filter (·.isSome))=[some fu]:=by
 subst hx hy;simp[interT,fu]
theorem EV(hx:NF x)(hy:NF y):NF (eH id w x y)/\(eH id w x y).length<=x.length*y.length/\(isAllL x=true->isAllL y=true->isAllL (eH id w x y)=true):=by
 unfold eH;split
 ·rename_i he
  refine⟨.inr i6,i6,λh1 h2=>?_⟩;rw[hx.one h1,hy.one h2]at he;simp[aK]at he
 ·rename_i he
  obtain⟨h1,h2,h3,h4⟩:=F8 (id:=id) (w:=w) (UK (id:=id) (w:=w) hx.al hy.al);have hp:=ES (id:=id) (w:=w) x y;refine⟨h1,?_,λa b=>by rw[h2,Qm (hx.one a) (hy.one b)];rfl⟩;have Lj:1<=x.length:=by
   cases x with
   |nil=>simp[aK]at he
   |cons _ _=>simp
  have hy0:1<=y.length:=by
   cases y with
   |nil=>simp[aK]at he
   |cons _ _=>simp
  have:1<=x.length*y.length:=Nat.mul_le_mul Lj hy0;omega
theorem PC(hx:NF x)(hy:NF y):
 NF (eJ id w cmp x xc y yc).1/\(eJ id w cmp x xc y yc).1.length<=x.length*y.length/\(isAllL x=true->isAllL y=true->isAllL (eJ id w cmp x xc y yc).1=true)/\((eJ id w cmp x xc y yc).2=true->isAllL (eJ id w cmp x xc y yc).1=true):=by
 obtain⟨h1,h2,h3⟩:=EV (id:=id) (w:=w) hx hy;unfold eJ;simp only;split
 ·rename_i hc
  simp at hc;have ht:=h1.tp hc.2;refine⟨.inr λz hz=>ht z (List.mem_filter.1 hz).1,jQd (List.length_filter_le _ _) h2,λa b=>?_,λh=>h⟩;have:=h3 a b;rw[hc.2]at this;cases this
 ·rename_i hc
  refine⟨h1,h2,h3,λh=>?_⟩;simp at hc;simp at h;cases ha:isAllL (eH id w x y)with
  |true=>rfl
  |false=>rcases h with h|h<;>simp[h,ha]at hc
end P
namespace P
open S
def Wm(cs:List Nat)(t:GT):Nat:=if t.kind=17 then 0 else bP cs t
structure aei(cs:List Nat)(t:GT)(s:TS):Prop where
 nf:NF s.terms
 comp:s.comp=true->isAllL s.terms=true
 len:s.terms.length^3<=3^Wm cs t
 zero:Wm cs t=0->isAllL s.terms=true
theorem Bd(a b:Nat):(a*b)^3=a^3*b^3:=Nat.mul_pow a b 3
theorem pH(c:Nat):1<=3^c:=Nat.one_le_pow _ _ i5
theorem il(h:c<=d):3^c<=3^d:=Nat.pow_le_pow_right i5 h
theorem Ew(hc:1<=c)(hd:1<=d)(hb:b^3<=3^d):(1+b)^3<=3^(c+d):=by
 have h3:3<=3^c:=by have:=il hc;simpa using this
 match b,hb with
 |0,_=>simpa using pH _
 |1,_=>have:=il (show 2<=c+d by omega);simp at this⊢;omega
 |2,hb=>
  have:2<=d:=by
   rcases Nat.lt_or_ge d 2 with h|h
   ·have:d=1:=m9
    subst this;simp at hb
   ·exact h
  have:=il (show 3<=c+d by omega);simp at this⊢;omega
 |b+3,hb=>
  have h1:∀z:Nat,3<=z->(1+z)^3<=3*z^3:=by
   intro z hz;have e1:(1+z)^3=z*z*z+3*(z*z)+3*z+1:=by
    simp[Nat.pow_succ,Nat.add_mul,Nat.mul_add];omega
   have e2:z^3=z*z*z:=by simp[Nat.pow_succ]
   have g1:3*z<=z*z:=Nat.mul_le_mul_right z hz;have g2:3*(z*z)<=z*z*z:=by rw[Nat.mul_comm 3];exact Nat.mul_le_mul_left (z*z) hz
   omega
  have h1:=h1 (b+3) m9;rw[Nat.pow_add];exact jQd h1 (Nat.mul_le_mul h3 hb)
theorem To{a:Nat}(hc:1<=c)(hd:1<=d)(ha:a^3<=3^c)(hb:b^3<=3^d):(a+b)^3<=3^(c+d):=by
 match a,b,ha,hb with
 |0,b,_,hb=>rw[jRd];exact jQd hb (il m9)
 |1,b,_,hb=>exact Ew hc hd hb
 |a,0,ha,_=>exact jQd ha (il m9)
 |a,1,ha,_=>rw[Nat.add_comm a 1,Nat.add_comm c d];exact Ew hd hc ha
 |a+2,b+2,ha,hb=>
  have h:(a+2)+(b+2)<=(a+2)*(b+2):=by
   have:(a+2)*(b+2)=a*b+2*a+2*b+4:=by simp[Nat.add_mul,Nat.mul_add];omega
   omega
  have h2:=Nat.pow_le_pow_left h 3;rw[Bd]at h2;rw[Nat.pow_add];exact jQd h2 (Nat.mul_le_mul ha hb)
theorem Nq{a:Nat}(hc:c<=50)(h:a^3<=3^c):a<=100000000:=by
 rcases Nat.lt_or_ge 100000000 a with h1|h1
 ·have h2:=Nat.pow_le_pow_left (Nat.le_of_lt h1) 3;have h3:=jQd h2 (jQd h (il hc));have h4:¬(100000000^3<=3^50):=by decide+kernel
  exact absurd h3 h4
 ·exact h1
def QTe(w:List ah)(Q:GT->Prop):Prop:=∀t,Q t->t.kind=10->∀e∈t.elems.drop t.m.toNat,TE w e
theorem F7(hw:WK NS Q w rs cs)(hq:QP NS Q)(h:PT NS Q w 0 t):Wm cs (az w t)=bP cs t:=by
 obtain⟨h1, -,h3,h5,h6, -⟩:=cJ hq h;rw[<-h3 cs];unfold az oZ;generalize una t=b at*;by_cases dA:b.kind=11
 ·rw[jQ7 dA];obtain⟨k,n,m,va,nm,tg,l⟩:=b;simp only[GT.kind]at dA;subst dA;cases h1 with
  |named a1 a2 a3=>
   have iK:(GT.mk 11 n m va nm tg []).n=n:=rfl;simp only[iK];obtain⟨d,hd⟩:∃d,w[n.toNat]?=some d:=⟨w[n.toNat]' m9,i6⟩;rw[hd];have hk:=hw.sq _ _ hd;simp only[Option.map_some,Option.getD_some];rw[Wm,jQ4 m9,<-hw.ok.ct _ _ hd,bP];simp
  |uni h=>omega
  |al h=>omega
  |one h=>omega
 ·rw[jQ4 dA];by_cases ka:b.kind=15
  ·rw[jQ7 ka];obtain⟨k,n,m,va,nm,tg,l⟩:=b;simp only[GT.kind]at ka;subst ka;simp[Wm,fC,bP,cN,GT.kind]
  ·rw[jQ4 ka];by_cases ir:b.kind=16
   ·rw[jQ7 ir];obtain⟨k,n,m,va,nm,tg,l⟩:=b;simp only[GT.kind]at ir;subst ir;simp[Wm,da,tk,bP,GT.kind]
   ·rw[jQ4 ir,Wm,jQ4 (by have:=gR h1;omega)]
theorem NK(hw:WK NS Q w rs cs)(hq:QP NS Q)(h:PT NS Q w 0 t)(hi:isIf (az w t)=false):bP cs t=1:=by
 rw[<-F7 hw hq h];rcases(lq hw hq h).1 with e|⟨h1,h2,h3,h4,h5,h6,h7⟩
 ·rw[e]at hi;simp[isIf,da,tk,GT.kind]at hi
 ·rw[Wm,jQ4 h7];have h0:=lg h1;simp[isIf]at hi;exact oH h1 h2 hi.1 h3 m9 h4 h5 h6
theorem yj(hw:WK NS Q w rs cs)(hq:QP NS Q)(h:PT NS Q w 0 t):isIface w t=some (isIf (az w t)):=by
 obtain⟨b,hb,h1, -, -, -, -, -, -⟩:=fc hq.any [] [] h;have hu:=qB hb;rw[isIface,under,hb];simp only[jQa];unfold az oZ;rw[hu];by_cases dA:b.kind=11
 ·rw[jQ7 dA,jQ7 dA];obtain⟨k,n,m,va,nm,tg,l⟩:=b;simp only[GT.kind]at dA;subst dA;cases h1 with
  |named a1 a2 a3=>
   have iK:(GT.mk 11 n m va nm tg []).n=n:=rfl;simp only[iK,jQ7 a1];obtain⟨d,hd⟩:∃d,w[n.toNat]?=some d:=⟨w[n.toNat]' m9,i6⟩;rw[hd];have hk:=hw.sq _ _ hd;simp[isIf];have:(d.under.kind==16)=false:=by simp;omega
   have h17:(d.under.kind==17)=false:=by simp;omega
   rw[this,h17]
  |uni h=>omega
  |al h=>omega
  |one h=>omega
 ·rw[jQ4 dA,jQ4 dA];by_cases ka:b.kind=15
  ·rw[jQ7 ka,jQ7 ka];simp[isIf,fC,GT.kind]
  ·rw[jQ4 ka,jQ4 ka];by_cases ir:b.kind=16
   ·rw[jQ7 ir];have abv:(b.kind==16)=true:=by simp[ir]
    show some (b.kind==10||b.kind==16)=_;rw[abv,Bool.or_true];rfl
   ·rw[jQ4 ir];have:=gR h1;have h17:(b.kind==17)=false:=by simp;omega
    have abv:(b.kind==16)=false:=by simpa using ir
    simp[isIf,h17,abv]
def Be(NS:List ByteArray)(Q:GT->Prop)(w:List ah)(rs cs:List Nat)(r:Nat)(F:Fs):Prop:=∀t,Fb NS Q w t->2*J rs false false t<r->aei cs t (F.ts t)
theorem AA(hw:WK NS Q w rs cs)(hq:QP NS Q)(hA:Be NS Q w rs cs r F)(h:PT NS Q w 1 e)(hx:TX w e)(hJ:J rs true true e<b)(hb:2*b<=r):
 AL (oq F w e)/\(oq F w e).length^3<=3^bP cs e/\(bP cs e=0->isAllL (oq F w e)=true):=by
 rw[uP];obtain⟨h1,h2⟩:=Fu (rs:=rs) h;have hu:=jh hw hq h1;have RL:isIf (az w (ep e))=false->bP cs e=1:=by
  intro hi;by_cases cg:e.kind=13
  ·exact M209
  ·have he:ep e=e:=by simp[ep,cg]
   rw[he]at hi h1;exact NK hw hq h1 hi
 cases hi:isIf (az w (ep e))with
 |true=>
  have cg:e.kind≠13:=by
   intro cg;have h3:=yj hw hq h1;rw[hi]at h3;have:ep e∈e.elems:=by
    obtain⟨k,n,m,va,nm,tg,l⟩:=e;simp only[GT.kind]at cg;subst cg;cases h with
    |ti _ _=>simp[ep,GT.kind,GT.elems]
    |uni h=>omega
    |al h=>omega
    |one h=>omega
   rw[hx cg _ this]at h3;cases h3
  have he:ep e=e:=by simp[ep,cg]
  have hI:=jO hw hq h1 hi;have hs:=hA _ hI m9;have hc:=F7 hw hq h1;rw[he]at hs hc⊢;rw[<-hc];simp only[if_true];exact⟨hs.nf.al,hs.len,hs.zero⟩
 |false=>
  rw[RL hi];simp only[jQk,jR1];split
  ·exact⟨λx hx tm e=>(by simp at hx;subst hx;cases e),i5,i6⟩
  ·exact⟨λx hx tm e he=>(by simp at hx;subst hx;cases e;simp at he),i6,i6⟩
def UI(acc:List (Option Tm))(c:Nat):Prop:=NF acc/\(acc=[]\/isAllL acc=true\/(acc.length^3<=3^c/\1<=c))
theorem sS(l l':List (Option Tm)):isAllL (l++l')=(isAllL l||isAllL l'):=List.any_append
theorem UI.step(h:UI acc c)(ha:AL ts)(hl:ts.length^3<=3^d)(h0:d=0->isAllL ts=true):UI (kv id w acc ts) (c+d):=by
 obtain⟨h1,h2⟩:=h;obtain⟨n1,n2,n3,n4⟩:=F8 (id:=id) (w:=w) (h1.al.append ha);refine⟨n1,?_⟩;unfold kv;rw[sS]at n2 n4;cases hA:(isAllL acc||isAllL ts)with
 |true=>exact .inr (.inl (by rw[n2,hA]))
 |false=>
  have n4:=n4 hA;rw[jQo]at n4;simp at hA;have hd:1<=d:=by
   rcases Nat.eq_zero_or_pos d with e|e
   ·rw[h0 e]at hA;cases hA.2
   ·exact e
  refine .inr (.inr ⟨?_,m9⟩);obtain rfl|h2|⟨h2,h3⟩:=h2
  ·simp at n4;exact jQd (Nat.pow_le_pow_left n4 3) (jQd hl (il m9))
  ·rw[hA.1]at h2;cases h2
  ·exact jQd (Nat.pow_le_pow_left n4 3) (To h3 hd h2 hl)
theorem nM(hw:WK NS Q w rs cs)(hq:QP NS Q){r b:Nat}{F:Fs}(hA:Be NS Q w rs cs r F)(hb:2*b<=r):
 ∀{l:List GT} {acc:List (Option Tm)} {c:Nat},(∀e∈l,PT NS Q w 1 e/\TX w e/\J rs true true e<b)->UI acc c->∀q,unionTerms F w acc l=some q->UI q (c+cN cs 0 l)
 |[],acc,c,_,ha,q,xu=>by rw[unionTerms]at xu;cases xu;rw[cN];exact ha
 |e::l,acc,c,hl,ha,q,xu=>by
  obtain⟨h1,h2,h3⟩:=AA hw hq hA (hl e i6).1 (hl e i6).2.1 (hl e i6).2.2 hb;rw[unionTerms]at xu;have hs:=UI.step (w:=w) (id:=F.id) ha h1 h2 h3
  try simp only at xu
  split at xu
  ·cases xu
  ·have:=nM hw hq hA hb (λx hx=>hl x (by simp[hx])) hs q xu;rw[cN,<-Nat.add_assoc];exact this
theorem Ex(h:UI q c)(hc:c=0->q≠[]):NF q/\q.length^3<=3^c/\(c=0->isAllL q=true):=by
 obtain⟨h1,h2⟩:=h;refine⟨h1,?_,λe=>?_⟩
 ·obtain rfl|h2|h2:=h2
  ·simp
  ·rw[h1.one h2];simpa using pH c
  ·exact h2.1
 ·obtain h2|h2|h2:=h2
  ·exact absurd h2 (hc e)
  ·exact h2
  ·omega
theorem sT{F:Fs}:∀{l:List GT} {acc q:List (Option Tm)},(acc≠[]->isAllL acc=true)->unionTerms F w acc l=some q->(∀e∈l,isAllL (oq F w e)=true/\AL (oq F w e))->NF acc->(l≠[]\/acc≠[])->q≠[]
 |[],acc,q,_,h,_,_,hn=>by rw[unionTerms]at h;cases h;simpa using hn
 |e::l,acc,q,ha,h,hl,hN,_=>by
  rw[unionTerms]at h
  try simp only at h
  split at h
  ·cases h
  ·obtain⟨n1,n2,n3,n4⟩:=F8 (id:=F.id) (w:=w) (hN.al.append (hl e i6).2);have eO:isAllL (kv F.id w acc (oq F w e))=true:=by
    show isAllL (norm _ _ _)=true;rw[n2,sS,(hl e i6).1];simp
   exact sT (λ_=>eO) h (λx hx=>hl x (by simp[hx])) n1 (.inr (by intro e;rw[e]at eO;simp[isAllL]at eO))
theorem PB{l:List GT}(h:cN cs 0 l=0):∀e∈l,bP cs e=0:=λe he=>by have:=qS (cs:=cs) he;omega
theorem Ey(hw:WK NS Q w rs cs)(hq:QP NS Q)(hA:Be NS Q w rs cs r F)(h:PT NS Q w 2 e)(hx:TE w e)(hJ:J rs true true e<b)(hb:2*b<=r):
 ∀i,gu F w e=some i->NF i.terms/\i.terms.length^3<=3^bP cs e/\(bP cs e=0->isAllL i.terms=true):=by
 intro i hi;unfold gu at hi;by_cases cQ:e.kind=12
 ·rw[jQ7 cQ]at hi;obtain⟨q,xu,rfl⟩:=jQ6.1 hi;have hp:=λx hx=>uQ (rs:=rs) h cQ x hx;have hc:bP cs e=cN cs 0 e.elems:=M186
  have hl:∀x∈e.elems,PT NS Q w 1 x/\TX w x/\J rs true true x<b:=λx uC=>⟨(hp x uC).1,hx.2 cQ x uC,by have:=(hp x uC).2;omega⟩;have h1:=nM hw hq hA hb hl (acc:=[]) (c:=0) ⟨.inr i6,.inl rfl⟩ q xu;rw[jRd,<-hc]at h1;refine Ex h1 λe0=>?_;rw[hc]at e0;refine sT i6 xu (λx uC=>?_) (.inr i6) (.inl ?_)
  ·obtain⟨g1,g2,g3⟩:=AA hw hq hA (hl x uC).1 (hl x uC).2.1 (hl x uC).2.2 hb;exact⟨g3 (PB e0 x uC),g1⟩
  ·obtain⟨k,n,m,va,nm,tg,l⟩:=e;simp only[GT.kind]at cQ;subst cQ;cases h with
   |un a b c d=>intro e;have:l=[]:=e;subst this;simp at b
   |uni h=>omega
   |al h=>omega
   |one h=>omega
 ·rw[jQ4 cQ]at hi;by_cases cg:e.kind=13
  ·rw[jQ7 cg]at hi;obtain⟨q,xu,rfl⟩:=jQ6.1 hi;have h1:=nM hw hq hA hb (l:=[e]) (λx uC=>by simp at uC;subst uC;exact⟨tw h cg,hx.1,hJ⟩) (acc:=[]) (c:=0) ⟨.inr i6,.inl rfl⟩ q xu;have hc:cN cs 0 [e]=bP cs e:=by simp[cN]
   rw[jRd,hc]at h1;have lk:bP cs e=1:=M209
   exact Ex h1 λe0=>m9
  ·rw[jQ4 cg]at hi;have h0:=pg h m9;have hu:=jh hw hq h0;simp only at hi;cases hI:isIf (az w e)with
   |true=>
    rw[jQ7 hI]at hi;cases hi;have hs:=hA _ (jO hw hq h0 hI) m9;rw[<-F7 hw hq h0];exact⟨hs.nf,hs.len,hs.zero⟩
   |false=>
    rw[hI]at hi;simp only[jQk,jR1]at hi;cases hi;rw[NK hw hq h0 hI];exact⟨.inr λx hx=>by simp at hx;subst hx;exact⟨_,_,rfl⟩,i6,i6⟩
structure I5(a:Acc)(c:Nat):Prop where
 nf:NF a.terms
 comp:a.comp=true->isAllL a.terms=true
 len:a.terms.length^3<=3^c
 zero:c=0->isAllL a.terms=true
theorem I6(hw:WK NS Q w rs cs)(hq:QP NS Q)(hA:Be NS Q w rs cs r F)(h:PT NS Q w 2 e)(hx:TE w e)(hJ:J rs true true e<b)(hb:2*b<=r)(ha:I5 a c):
 I5 (eG F w a e) (c+bP cs e):=by
 have hE:=Ey hw hq hA h hx hJ hb;unfold eG;cases hi:gu F w e with
 |none=>
  refine⟨ha.nf,ha.comp,jQd ha.len (il m9),λe0=>ha.zero m9⟩
 |some i=>
  obtain⟨g1,g2,g3⟩:=hE i hi;obtain⟨n1,n2,n3,n4⟩:=PC (id:=F.id) (w:=w) (cmp:=λt=>F.cmp t false) (xc:=a.comp) (yc:=i.comp) ha.nf g1;refine⟨n1,n4,?_,λe0=>n3 (ha.zero m9) (g3 m9)⟩;refine jQd (Nat.pow_le_pow_left n2 3) ?_;rw[Bd,Nat.pow_add];exact Nat.mul_le_mul ha.len g2
theorem Bf(hw:WK NS Q w rs cs)(hq:QP NS Q){r b:Nat}{F:Fs}(hA:Be NS Q w rs cs r F)(hb:2*b<=r):
 ∀{l:List GT} {a:Acc} {c:Nat},(∀e∈l,PT NS Q w 2 e/\TE w e/\J rs true true e<b)->I5 a c->I5 (l.foldl (eG F w) a) (c+cN cs 0 l)
 |[],a,c,_,ha=>by rw[cN];exact ha
 |e::l,a,c,hl,ha=>by
  have h:=Bf hw hq hA hb (l:=l) (λx hx=>hl x (by simp[hx])) (I6 hw hq hA (hl e i6).1 (hl e i6).2.1 (hl e i6).2.2 hb ha);rw[List.foldl_cons,cN,<-Nat.add_assoc];exact h
theorem aej(hw:WK NS Q w rs cs)(hq:QP NS Q)(hQ:QTe w Q)(hA:Be NS Q w rs cs r F)(h:Fb NS Q w t)(hr:2*J rs false false t<r+1):aei cs t (iH F w t):=by
 unfold iH;rcases h with⟨h,bH⟩|rfl
 ·rw[jQ4 m9];obtain⟨-, -,e3, -, -,e6,e7⟩:=cu (rs:=rs) (cs:=cs) (h.ww (v':=false) (f':=false)) bH;have ha:I5 ⟨(own t).foldl lF [],[some fu],false⟩ 0:=⟨.inl rfl,i6,i6,λ_=>rfl⟩;have hn:=Bf hw hq hA (b:=J rs false false t) (l:=bN t) m9 (λe he=>⟨(e3 e he).1.ww,hQ t e6 bH e he,(e3 e he).2⟩) ha;have hc:0+cN cs 0 (bN t)=Wm cs t:=by
   rw[Wm,jQ4 m9,e7,jRd,ku cs t.m.toNat];rfl
  rw[hc]at hn;exact⟨hn.nf,hn.comp,hn.len,hn.zero⟩
 ·rw[jQ7 (show da.kind=17 from rfl)];exact⟨.inl rfl,λ_=>rfl,by simp;exact pH _,λ_=>rfl⟩
theorem vh(hw:WK NS Q w rs cs)(hq:QP NS Q)(hQ:QTe w Q):∀(r k:Nat),r<=k->Be NS Q w rs cs r (fs w k)
 |0,_,_=>λ_ _ h=>m9
 |r+1,k,hk=>by
  obtain⟨k,rfl⟩:∃j,k=j+1:=⟨k - 1,m9⟩;have hA:=vh hw hq hQ r k m9;rw[fs];exact λt h hr=>aej hw hq hQ hA h hr
end P
namespace P
open S
theorem Xa{v:GT}(hu:az w t=fD)(ha:F.ts fD=⟨[],[some fu],false⟩)(c:Bool):impl F w v t c=true:=by
 unfold impl;simp only[hu,ha];rfl
theorem aa3(w:List ah)(k:Nat):(fs w (k+1)).ts fD=⟨[],[some fu],false⟩:=by
 rw[fs];simp[iH,fD,tk,GT.kind,own,bN,GT.elems,GT.m,ib]
end P
namespace P
open S
abbrev QQ(w:List ah):GT->Prop:=Qs w Q0 (mP w)
theorem aey(h:str [69,114,114,111,114]∈NS):QP NS (QQ w):=by
 refine⟨⟨?_,(Qc.qb (mP w) 50 h).any,?_⟩,⟨?_,(Qc.qb (mP w) 50 h).err,?_⟩,h⟩
 ·intro h;simp[fD,tk,GT.kind]at h
 ·intro _ e he;simp[fD,tk,GT.elems]at he
 ·intro h;simp[fC,GT.kind]at h
 ·intro _ e he;simp[fC,GT.elems,GT.m]at he
theorem aez:QTe w (QQ w):=λ_ h hk=>h.2.2 hk
theorem aeA(hB:ON NS w N D k)(hv:VR NS w):WK NS (QQ w) w (gZ w) (mP w):=by
 have h:=SR (i:=w.length) hB.ml (λn d hd=>by
  have h:=hv n d hd;exact(⟨h.un.imp λ_ h=>h.1,h.k1,h.k2,h.k3,λm hm=>⟨(h.sig m hm).1,(h.sig m hm).2.1,(h.sig m hm).2.2.imp λ_ h=>h.1⟩,h.nd,h.fld,h.br⟩:DP NS w.length Q0 n d)) (λn d _ hd=>hv n d hd)
 refine⟨⟨h.rl,h.cl,h.dec,h.kd,h.rk,h.ct,h.ml,λn d _ hd=>?_⟩,λn d hd=>(hv n d hd).k3,λn d hd m hm=>⟨((hv n d hd).sig m hm).1,((hv n d hd).sig m hm).2.1⟩⟩;have hn:n<w.length:=by
  rcases Nat.lt_or_ge n w.length with h|h
  ·exact h
  ·rw[jQx h]at hd;cases hd
 obtain⟨h1,h2⟩:=h.ok n d hn hd;exact⟨h1.eS (jQ0 _) (λ_ _=>trivial) (jQ0 _) id id,λm hm=>(h2 m hm).eS (jQ0 _) (λ_ _=>trivial) (jQ0 _) id id⟩
theorem aeB(h:Il NS w t):PT NS (QQ w) w 0 t:=PL.up (λ_ _=>trivial) h
theorem zy(hB:ON NS w N D k)(hD:dp t<=D)(v f:Bool):J (gZ w) v f t<N:=by
 have:=I1 (gZ w) (totD w) (uK w) v f t;have:=hB.nn;omega
end P
end Go.Proofs.YtabjfnkfocnklaaGreatDoor
