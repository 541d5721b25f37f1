import Derived.Test.YtabjfnkfocnklaaGreatDoorA00
set_option linter.all false
set_option maxHeartbeats 16000000
set_option maxRecDepth 20000
namespace Go.Proofs.YtabjfnkfocnklaaGreatDoor
open S
variable{f f' g g' v:Bool}{t u x y:GT}{P0 Q Q':GT->Prop}{NS:List ByteArray}{cs r rs:List Nat}{w:List ah}{B B' N c j k md md' n nw:Nat}{A:Nat->Prop}{a b:Option Bool}{Y:Prop}{α:Type}
theorem jQ1:type_of% @Option.bind_eq_some_iff:=@Option.bind_eq_some_iff
theorem jQ6:type_of% @Option.map_eq_some_iff:=@Option.map_eq_some_iff
theorem jQb:type_of% @Nat.lt_of_lt_of_le:=@Nat.lt_of_lt_of_le
theorem jQo:type_of% @List.length_append:=@List.length_append
theorem jQq:type_of% @List.getElem?_append_left:=@List.getElem?_append_left
theorem jQr:type_of% @List.getElem?_append_right:=@List.getElem?_append_right
theorem jQt:type_of% @List.mem_of_mem_take:=@List.mem_of_mem_take
theorem jQx:type_of% @List.getElem?_eq_none:=@List.getElem?_eq_none
theorem jR2:type_of% @List.mem_of_mem_drop:=@List.mem_of_mem_drop
theorem M149(h:Y:=by
 refine⟨b,rfl,λhb=>?_⟩;subst hb;exact absurd hr (iS λi a h=>by
  obtain⟨b,_,h⟩:=jQ6.1 h;cases b<;>simp at h)):Y:=h
theorem M150(h:Y:=by
 simpa using this):Y:=h
theorem M207(h:Y:=by
 exact⟨_,rfl,.inl ⟨rfl,by simp only;omega,λ_=>by simp only;omega⟩⟩):Y:=h
theorem M218(h:Y:=by
 obtain⟨k',n,m,va,nm,tg,l⟩:=u;simp[GT.kind]at ir;subst ir;simp[bP]):Y:=h
theorem M221(h:Y:=by
 cases a with
 |none=>simp[bh]at h
 |some b=>cases b<;>simp[bh]at h⊢):Y:=h
theorem M53(h:Y:=by
 by_cases cg:e.kind=13
 ·cases he with
  |ti a b=>exact .ti i5 b
  |uni a=>rename_i kk _ _ _ _ _;simp[GT.kind]at cg;omega
  |al a=>rename_i kk _ _ _ _ _ _ _ _;simp[GT.kind]at cg;omega
  |one a=>rename_i kk _ _ _ _ _ _ _ _ _;simp[GT.kind]at cg;omega
  |_=>simp[GT.kind]at cg
 ·exact(pg he m9).eS (jQ0 _) (λ_ h=>h) i5 id id):Y:=h
theorem M77(h:Y:=by
 intro e;cases hx with
 |un a _ _ _=>exact absurd a i5
 |uni a=>rename_i kk _ _ _ _ _;simp[GT.kind]at e;omega
 |al a=>rename_i kk _ _ _ _ _ _ _ _;simp[GT.kind]at e;omega
 |one a=>rename_i kk _ _ _ _ _ _ _ _ _;simp[GT.kind]at e;omega
 |_=>simp[GT.kind]at e):Y:=h
theorem M90(h:Y:=by
 exact⟨false,rfl,i6⟩):Y:=h
namespace S
theorem lf{l:List Nat}(h:n<l.length):(l++r).getD n 0=l.getD n 0:=by simp[List.getD,jQq h]
theorem mu{rs rs':List Nat}{v f:Bool}:∀{l:List GT},(∀e∈l,J rs' v f e=J rs v f e)->Js rs' v f l=Js rs v f l
 |[],_=>rfl
 |a::l,h=>by rw[Js,Js,h a i6,mu (l:=l) λe he=>h e (by simp[he])]
theorem vr{rs rs':List Nat}{f:Bool}:∀{m:Nat} {l:List GT},(∀e∈l.take m,J rs' false f e=J rs false f e)->(∀e∈l.drop m,J rs' true true e=J rs true true e)->Ji rs' f m l=Ji rs f m l
 |_,[],_,_=>by simp[Ji]
 |0,a::l,_,h=>by rw[Ji,Ji,h a i6,vr (m:=0) (l:=l) i6 λe he=>h e (by simp at he⊢;exact .inr he)]
 |m+1,a::l,h1,h=>by rw[Ji,Ji,h1 a i6,vr (m:=m) (l:=l) (λe he=>h1 e (by simp[he])) λe he=>h e (by simpa using he)]
theorem nD(r:List Nat)(hr:rs.length=nw)(h:PL nw NS Q A md v f t):∀v' f',J (rs++r) v' f' t=J rs v' f' t:=by
 induction h with
 |named a b c=>intro v' f';rw[bw,bw];simp only[if_true];rw[lf m9]
 |basic a b=>intro v' f';rw[bw,bw];simp[Js]
 |uni a=>intro v' f';rw[bw,bw];simp[a];rcases a with rfl|rfl|rfl<;>simp
 |al a b _ ih=>intro v' f';rw[bw,bw];rcases a with rfl|rfl<;>simp[Js,ih]
 |st a b _ ih=>intro v' f';rw[bw,bw];simp;exact mu λe he=>ih e he _ _
 |ifc a b c d e g _ _ q zg vq=>intro v' f';rw[bw,bw];simp;exact vr (λe he=>zg e he _ _) (λe he=>vq e he _ _)
 |one a b c _ ih=>intro v' f';rw[bw,bw];rcases a with rfl|rfl|rfl<;>simp[Js,ih]
 |mp _ _ zg vq=>intro v' f';rw[bw,bw];simp[Js,zg,vq]
 |fn a b c _ ih=>intro v' f';rw[bw,bw];simp;exact mu λe he=>ih e he _ _
 |ti a _ ih=>intro v' f';rw[bw,bw];simp[Js,ih]
 |un a b c _ ih=>intro v' f';rw[bw,bw];simp;exact mu λe he=>ih e he _ _
theorem kH{cs Ek:List Nat}:∀{m:Nat} {l:List GT},(∀e∈l.drop m,bP Ek e=bP cs e)->cN Ek m l=cN cs m l
 |m,[],_=>by simp[SN]
 |0,a::l,h=>by rw[cN,cN,h a i6,kH (m:=0) (l:=l) λe he=>h e (by simp at he⊢;exact .inr he)]
 |m+1,a::l,h=>by rw[cN,cN,kH (m:=m) (l:=l) λe he=>h e (by simpa using he)]
theorem FK(c:List Nat)(hc:cs.length=nw)(h:PL nw NS Q A md v f t):bP (cs++c) t=bP cs t:=by
 induction h with
 |named a b d=>rw[bP,bP];simp only[if_true];rw[lf m9]
 |basic a b=>rw[bP,bP];simp
 |uni a=>rw[bP,bP];rcases a with rfl|rfl|rfl<;>simp
 |al a b _ ih=>rw[bP,bP];rcases a with rfl|rfl<;>simp[SQ,ih]
 |st a b _ ih=>rw[bP,bP];simp
 |ifc a b c d e g _ _ q zg vq=>rw[bP,bP];simp;exact kH λe he=>vq e he
 |one a b c _ ih=>rw[bP,bP];rcases a with rfl|rfl|rfl<;>simp
 |mp _ _ zg vq=>rw[bP,bP];simp
 |fn a b c _ ih=>rw[bP,bP];simp
 |ti a _ ih=>rw[bP,bP];simp
 |un a b c _ ih=>rw[bP,bP];simp;exact kH λe he=>ih e (by simpa using he)
theorem E8(l:List ah)(hn:w.length=nw)(h:PL nw NS Q A md v f t):under (w++l) t=under w t:=by
 obtain⟨b,h1,h2, -⟩:=fc (Q:=λ_=>True) trivial [] [] (h.vf (v':=true) (f':=false));unfold under;rw[h1];simp only[jQa];by_cases dA:b.kind=11
 ·rw[jQ7 dA,jQ7 dA];cases h2 with
  |named a1 a2 a3=>
   rename_i n m va nm tg
   have iK:(GT.mk 11 n m va nm tg []).n=n:=rfl;simp only[iK];rw[jQq m9]
  |uni h=>rename_i k _ _ _ _ _;simp[GT.kind]at dA;omega
  |al h=>rename_i k _ _ _ _ _ _ _ _;simp[GT.kind]at dA;omega
  |one h=>rename_i k _ _ _ _ _ _ _ _ _;simp[GT.kind]at dA;omega
  |_=>simp[GT.kind]at dA
 ·rw[jQ4 dA,jQ4 dA]
theorem mN.snoc(hw:mN NS Q A w rs cs){d:ah}{r:Nat}(hu:PL w.length NS Q A 0 true false d.under)(hk:KD d.under)(hr:J rs true false d.under<=r)(hm:∀m∈d.meths,PL w.length NS Q A 0 false false m.sig/\J rs false false m.sig<=r)(gP:d.meths.length<=1099511627776):
 mN NS Q (λn=>A n\/n=w.length) (w++[d]) (rs++[r]) (cs++[bP cs d.under]):=by
 have QM:∀{n:Nat} {d':ah},(w++[d])[n]?=some d'->(w[n]?=some d'/\n<w.length)\/(n=w.length/\d'=d):=by
  intro n d' h;by_cases hn:n<w.length
  ·rw[jQq hn]at h;exact .inl ⟨h,hn⟩
  ·rw[jQr m9]at h;have:n - w.length=0:=by
    by_cases h0:n - w.length=0
    ·exact h0
    ·rw[jQx (by simp;omega)]at h;cases h
   rw[this]at h;simp at h;exact .inr ⟨m9,h.symm⟩
 have hge:∀{n:Nat},n<w.length->(rs++[r]).getD n 0=rs.getD n 0:=λhn=>lf (by rw[hw.rl];omega);have hgc:∀{n:Nat},n<w.length->(cs++[bP cs d.under]).getD n 0=cs.getD n 0:=λhn=>lf (by rw[hw.cl];omega);have lX:(rs++[r]).getD w.length 0=r:=by rw[<-hw.rl];simp
 have ain:(cs++[bP cs d.under]).getD w.length 0=bP cs d.under:=by rw[<-hw.cl];simp
 have hle:w.length<=(w++[d]).length:=i6
 refine⟨by simp[hw.rl],by simp[hw.cl],?_,?_,?_,?_,?_,?_⟩
 ·intro n d' h;rcases QM h with⟨h,_⟩|⟨_,rfl⟩
  ·obtain⟨h1,h2⟩:=hw.dec n d' h;exact⟨h1.eS hle (λ_ h=>h) (jQ0 _) id id,λm j9=>(h2 m j9).eS hle (λ_ h=>h) (jQ0 _) id id⟩
  ·exact⟨(hu.vf).eS hle (λ_ h=>h) (jQ0 _) id id,λm j9=>((hm m j9).1.vf).eS hle (λ_ h=>h) (jQ0 _) id id⟩
 ·intro n d' h;rcases QM h with⟨h,_⟩|⟨_,rfl⟩
  ·exact hw.kd n d' h
  ·exact hk
 ·intro n d' h;rcases QM h with⟨h,hn⟩|⟨rfl,rfl⟩
  ·obtain⟨h1,h2⟩:=hw.dec n d' h;obtain⟨h3,h4⟩:=hw.rk n d' h;rw[hge hn,nD _ hw.rl h1];exact⟨h3,λm j9=>by rw[nD _ hw.rl (h2 m j9)];exact h4 m j9⟩
  ·rw[lX,nD _ hw.rl hu];exact⟨hr,λm j9=>by rw[nD _ hw.rl (hm m j9).1];exact(hm m j9).2⟩
 ·intro n d' h;rcases QM h with⟨h,hn⟩|⟨rfl,rfl⟩
  ·rw[hgc hn,FK _ hw.cl (hw.dec n d' h).1];exact hw.ct n d' h
  ·rw[ain,FK _ hw.cl hu]
 ·intro n d' h;rcases QM h with⟨h,_⟩|⟨_,rfl⟩
  ·exact hw.ml n d' h
  ·exact gP
 ·intro n d' hA h;rcases QM h with⟨h,hn⟩|⟨_,rfl⟩
  ·obtain⟨h1,h2⟩:=hw.ok n d' (hA.resolve_right m9) h;exact⟨h1.eS hle (λ_ h=>.inl h) (jQ0 _) id id,λm j9=>(h2 m j9).eS hle (λ_ h=>.inl h) (jQ0 _) id id⟩
  ·exact⟨hu.eS hle (λ_ h=>.inl h) (jQ0 _) id id,λm j9=>(hm m j9).1.eS hle (λ_ h=>.inl h) (jQ0 _) id id⟩
theorem XOK.snoc(hw:mN NS Q A w rs cs)(hq:QB NS Q)(hx:XOK NS Q A w rs N x)(d:ah)(r:Nat):XOK NS Q (λn=>A n\/n=w.length) (w++[d]) (rs++[r]) N x:=by
 refine⟨hx.pl.eS i6 (λ_ h=>.inl h) (jQ0 _) id id,by rw[nD _ hw.rl hx.pl];exact hx.r,by rw[nD _ hw.rl hx.pl];exact hx.rf,λux h=>?_⟩;rw[E8 _ rfl hx.pl]at h;obtain⟨u,h1,h2,_⟩:=JB hw hq hx.pl;rw[h1]at h;cases h;rw[nD _ hw.rl h2];exact hx.un _ h1
def SI(NS:List ByteArray)(Q:GT->Prop)(A:Nat->Prop)(w:List ah)(rs cs:List Nat)(N j:Nat)(s:List ah×List GT):Prop:=
 ∃l r c A',s.1=w++l/\mN NS Q A' s.1 (rs++r) (cs++c)/\Li s.1/\(∀n,A n->A' n)/\(∀x∈s.2,XOK NS Q A' s.1 (rs++r) N x)/\l.length=j
theorem SI.add(h0:mN NS Q A w rs cs)(hq:QB NS Q){s:List ah×List GT}(h:SI NS Q A w rs cs N j s)(hN:2<=N){ms:List aH}(jK:∀m∈ms,m.sig.kind=7/\PL w.length NS Q A 0 false false m.sig/\J rs false false m.sig<N)(gP:ms.length<=1099511627776)(hu:PL w.length NS Q A 0 true false u)(hk:KD u)(hr:J rs true false u<N):SI NS Q A w rs cs N (j+1) (ew ms s u):=by
 obtain⟨l,r,c,A',e,hw,hs,hA,hx,hj⟩:=h;have hle:w.length<=s.1.length:=by rw[e];simp
 have hJ:∀{md v f t v' f'},PL w.length NS Q A md v f t->J (rs++r) v' f' t=J rs v' f' t:=λh=>nD _ h0.rl h _ _
 let d:ah:={under:=u,meths:=if eM u then ms else[]}
 have R3:∀m∈d.meths,m∈ms:=by intro m hm;by_cases hb:eM u=true<;>simp[d,hb]at hm;exact hm
 have oW:=hw.snoc (d:=d) (r:=N - 1) (hu.eS hle hA (jQ0 _) id id) hk (by show J (rs++r) true false u<=N - 1;rw[hJ hu];omega)
  (λm hm=>⟨(jK m (R3 m hm)).2.1.eS hle hA (jQ0 _) id id,by rw[hJ (jK m (R3 m hm)).2.1];have:=(jK m (R3 m hm)).2.2;omega⟩) (by by_cases hb:eM u=true<;>simp[d,hb];omega)
 refine⟨l++[d],r++[N - 1],c++[bP (cs++c) u],_,by show s.1++[d]=_;rw[e];simp,by rw[<-List.append_assoc,<-List.append_assoc];exact oW,?_,λn h=>Or.inl (hA n h),?_,by simp[hj]⟩
 ·intro n d' hd m hm;have nY:(s.1++[d])[n]?=some d':=hd;by_cases hn:n<s.1.length
  ·rw[jQq hn]at nY;exact hs n d' nY m hm
  ·rw[jQr m9]at nY;cases xu:n - s.1.length with
   |zero=>rw[xu]at nY;simp at nY;subst nY;exact(jK m (R3 m hm)).1
   |succ i=>rw[xu]at nY;simp at nY
 ·intro x uC;rw[<-List.append_assoc];have aio:x∈s.2++[.mk 11 s.1.length 0 false es es []]:=uC;rcases jQm.1 aio with h|h
  ·exact(hx x h).snoc hw hq d (N - 1)
  ·simp at h;subst h;have hg:((rs++r)++[N - 1]).getD s.1.length 0=N - 1:=by rw[<-hw.rl];simp
   refine⟨.named m9 (by show(s.1.length:Int)<((s.1++[d]).length:Nat);simp;omega) (λ_=>.inr i6),?_,?_,λux h=>?_⟩
   ·rw[bw];simp only[if_true];simp only[Int.toNat_natCast];rw[hg];simp;omega
   ·rw[bw];simp;omega
   ·have:under (s.1++[d]) (.mk 11 s.1.length 0 false es es [])=some u:=by
     simp[under,fo,GT.kind,GT.n,d]
    have h':under (s.1++[d]) (.mk 11 s.1.length 0 false es es [])=some ux:=h;rw[this]at h';cases h';rw[nD _ (by rw[jQo];have:=hw.rl;simp at this;exact this) (hu.eS hle hA (jQ0 _) id id),hJ hu];have:=dM (rs:=rs) (v:=true) (v':=false) (f:=false) (f':=false) i6 id u;omega
theorem Kb(hw:mN NS Q A w rs cs)(hq:QB NS Q)(dJ:Li w)(hl:NS.length<=1099511627776)(hN:6<=N)(hk:N<=k)(hB:w.length+4*B+4<=1099511627776){v:GT}(hv:PL w.length NS Q A md f g v)(acS:v.kind=10)(hvN:J rs f g v<=N)(hvc:bP cs v<=B)(ht:PL w.length NS Q A md' f' g' t)(vK:t.kind=10)(htN:J rs f' g' t<=N)(htc:bP cs t<=B):
 ∃s j,samples k w v t=some s/\SI NS Q A w rs cs N j s/\j<=2*B+2:=by
 obtain⟨ms,m1,m2,_⟩:=jU hw hq hl hv acS (k:=k) m9;obtain⟨a,a1,a2,a3⟩:=Em hw hq hv acS (k:=k) m9 m9;obtain⟨b,b1,b2,b3⟩:=Em hw hq ht vK (k:=k) m9 m9;obtain⟨bv,c1,_,_,_,_,_,c7,_⟩:=fc hq.any rs cs hv;have hb:=c7 m9 m9;subst hb;rw[samples,c1];simp only[jQa];rw[jQ4 m9,m1,a1,b1];simp only[jQa];rw[FY (by simp;omega)];simp only[jQa];have jK:∀m∈ms.map (λm=>({name:=m.name,ptr:=false,sig:=m}:aH)),m.sig.kind=7/\PL w.length NS Q A 0 false false m.sig/\J rs false false m.sig<N:=by
  intro m hm;obtain⟨x,hx,rfl⟩:=jQu.1 hm;obtain⟨p1,_,_,p4,p5⟩:=m2 x hx;exact⟨p1,p4,jQb p5 hvN⟩
 have gP:(ms.map (λm=>({name:=m.name,ptr:=false,sig:=m}:aH))).length<=1099511627776:=by
  obtain⟨r,h1,h2,h3⟩:=jU hw hq hl hv acS (k:=k) m9;rw[m1]at h1;cases h1;have:=kE h3 (NS:=NS) (λx hx=>by obtain⟨m,hm,rfl⟩:=jQu.1 hx;exact(h2 m hm).2.1);simp at this⊢;omega
 have hT:∀x∈a++b,SM NS Q A w rs N x:=λx hx=>by
  rcases jQm.1 hx with h|h
  ·exact(a3 x h).mono hvN
  ·exact(b3 x h).mono htN
 generalize ms.map (λm=>({name:=m.name,ptr:=false,sig:=m}:aH))=meths at jK gP⊢;obtain⟨s,s1,j,s2,s3,s4⟩:=xG (f:=λ(s:List ah×List GT) x=>(under s.1 x).map λu=>ew meths (s.1,s.2++[x]) u) (l:=a++b) (s:=(w,[]))
  (λs l'=>∃j,SI NS Q A w rs cs N j s/\j+l'.length<=(a++b).length/\s.2.length+2*l'.length<=2*(a++b).length)
  ⟨0,⟨[],[],[],A,i6,by simpa using hw,dJ,λ_ h=>h,i6,rfl⟩,i6,i6⟩ (λs x l' hs hx=>by
   obtain⟨j,hs,hj,hj2⟩:=hs;obtain⟨dt,dF⟩:=hT x hx;obtain⟨l,r,c,A',e,rY,oC,hA,Q7,Sf⟩:=hs;obtain⟨u,u1,u2,u3,_,u5,u6,u7,u8,_,u10,u11⟩:=fM hw hq dt;have xT:¬(u.kind=12\/u.kind=13):=by intro h;have:=u11 h;subst this;exact lg dt h
   have hux:under s.1 x=some u:=by rw[e,E8 l rfl dt];exact u1
   have hle:w.length<=s.1.length:=by rw[e];simp
   have hXx:XOK NS Q A' s.1 (rs++r) N x:=⟨dt.eS hle hA (jQ0 _) id id,by rw[nD _ hw.rl dt];omega,by rw[nD _ hw.rl dt];have:=dM (rs:=rs) (v:=true) (v':=false) (f:=true) (f':=false) i6 i6 x;omega,λux h=>by
    rw[hux]at h;cases h;rw[nD _ hw.rl u2];have:=dM (rs:=rs) (v:=true) (v':=false) (f:=false) (f':=false) i6 id u;omega⟩
   refine⟨_,by rw[hux];rfl,j+1,?_,by simp at hj⊢;omega,by simp[ew]at hj2⊢;omega⟩;exact SI.add hw hq (s:=(s.1,s.2++[x])) ⟨l,r,c,A',e,rY,oC,hA,λy hy=>by
    rcases jQm.1 hy with h|h
    ·exact Q7 y h
    ·simp at h;subst h;exact hXx,Sf⟩ m9 jK gP u2 ⟨u5,u7,λh=>xT (.inl h),λh=>xT (.inr h),u6,u8⟩ m9)
 rw[s1];simp only[jQa];have uB:∀n,PL w.length NS Q A 0 true false (alone n):=λn=>.st (hq.al n) i6 (λe he=>by
  simp at he;subst he;exact .al (.inr rfl) m9 (.basic i5 i5))
 have cF:∀n,J rs true false (alone n)=3/\J rs false false (alone n)=3:=λn=>by constructor<;>simp[alone,tk,bw,Js]
 have t1:=SI.add hw hq s2 m9 jK gP (uB s.1.length) ⟨by simp[alone,tk,GT.kind],by simp[alone,tk,GT.kind],by simp[alone,tk,GT.kind],by simp[alone,tk,GT.kind],by simp[alone,tk,GT.kind],by simp[alone,tk,GT.kind]⟩ (by rw[(cF _).1];omega);have pT:PL w.length NS Q A 0 true false (tk 4 [alone s.1.length]):=.one (.inl rfl) i5 i5 ((uB s.1.length).eS (jQ0 _) (λ_ h=>h) (jQ0 _) i6 id);have t2:=SI.add hw hq t1 m9 jK gP pT ⟨by simp[tk,GT.kind],by simp[tk,GT.kind],by simp[tk,GT.kind],by simp[tk,GT.kind],by simp[tk,GT.kind],by simp[tk,GT.kind]⟩ (by
  have:=(cF s.1.length).2;simp[tk,bw,Js]at this⊢;omega)
 have yB:s.1.length=w.length+j:=by obtain⟨l,r,c,A',e,_,_,_,_,hj⟩:=s2;rw[e];simp[hj]
 simp at s3 s4;rw[jQ7 ⟨by simp[ew,yB];omega,by simp[ew];omega⟩];exact⟨_,_,rfl,t2,m9⟩
theorem yR(hw:mN NS Q A w rs cs)(hq:QB NS Q)(h:PL w.length NS Q A md v f u)(kY:u.kind=10)(hk:J rs v f u<=k):∃b,general w k u=some b:=by
 obtain⟨k,rfl⟩:∃j,k=j+1:=⟨k - 1,by have:=oh rs v f u;omega⟩;obtain⟨b,b1,_,_,_,_,_,b7,_⟩:=fc hq.any rs cs h;have hb:=b7 m9 m9;subst hb;have hu:under w b=some b:=by rw[under,b1];simp[kY]
 rw[general,hu];simp only[jQa];rw[jQ4 (by simp[kY])];obtain⟨e1,_,e3,_⟩:=cu (rs:=rs) (cs:=cs) h kY;rw[e1];simp only[jQa];refine dW λe he=>?_;obtain⟨p1,p2⟩:=e3 e he;split
 ·exact M164
 ·split
  ·exact M164
  ·exact rW (bc (fj hw hq p1)) (qJ hw hq k p1 m9)
theorem ow(h:PL nw NS Q A 0 false false u)(hk:u.kind≠10):∀e∈u.elems,PL nw NS Q A 0 false false e/\J rs false false e<J rs false false u:=by
 cases h with
 |basic a b=>intro e he;simp[GT.elems]at he
 |uni a=>intro e he;simp[GT.elems]at he
 |named a b c=>intro e he;simp[GT.elems]at he
 |al a b c=>intro e he;simp[GT.elems]at he;subst he;exact⟨c,by rw[bw (l:=[e])];rcases a with rfl|rfl<;>simp[Js]⟩
 |st a b c=>
  rename_i n m va nm tg l
  intro e he;have hm:J rs false false e<=Js rs false false l:=jP he;exact⟨c e he,by rw[bw (l:=l)];simp;omega⟩
 |ifc=>simp[GT.kind]at hk
 |one a b c d=>intro e he;simp[GT.elems]at he;subst he;exact⟨d,by rw[bw (l:=[e])];rcases a with rfl|rfl|rfl<;>simp[Js]⟩
 |mp a b=>
  rename_i n m va nm tg x y
  intro e he;have hm:J rs false false e<=Js rs false false [x,y]:=jP he;refine⟨?_,by rw[bw (l:=[x,y])];simp;omega⟩;simp[GT.elems]at he;obtain rfl|rfl:=he
  ·exact a
  ·exact b
 |fn a b c d=>
  rename_i n m va nm tg l
  intro e he;have hm:J rs false false e<=Js rs false false l:=jP he;exact⟨d e he,by rw[bw (l:=l)];simp;omega⟩
 |ti a b=>exact absurd a i5
 |un a b c d=>exact absurd a i5
theorem Pc(hq:QB NS Q)(hl:NS.length<=1099511627776):∀(N k:Nat),N<=k->∀(w:List ah) (rs cs:List Nat) (A:Nat->Prop),mN NS Q A w rs cs->Li w->
 (∀c t,t.kind=10->Q t->bP (cs++c) t<=B)->w.length+(N+1)*(4*B+4)<=1099511627776->IdT NS Q A w rs N (ident k w):=by
 intro N
 induction N with
 |zero=>intro k _ w rs cs A _ _ _ _ a b _ h;omega
 |succ N ih=>
  intro k hk w rs cs A hw dJ hQ hB x y hx hxN hy hyN;obtain⟨k,rfl⟩:∃j,k=j+1:=⟨k - 1,m9⟩;have hBN:(N+1+1)*(4*B+4)=(N+1)*(4*B+4)+(4*B+4):=by rw[Nat.add_mul (N+1) 1];omega
  have hid:=ih k m9 w rs cs A hw dJ hQ m9;obtain⟨bx,x1,x2,x3, -, -, -, -,x4⟩:=fc hq.any rs cs hx;obtain⟨bY,y1,y2,y3, -, -, -, -,y4⟩:=fc hq.any rs cs hy;rw[ident,x1,y1];simp only[jQa];by_cases ez:bx.kind=bY.kind
  ·rw[jQ4 (by simpa using ez)];by_cases rP:bx.elems.length≠bY.elems.length/\bx.kind≠10
   ·rw[jQ7 rP];exact⟨_,rfl⟩
   ·rw[jQ4 rP];by_cases bH:bx.kind=10
    ·rw[jQ7 bH];have Zv:bY.kind=10:=m9
     unfold Gd;obtain⟨b,hb⟩:=qI (bc (yR hw hq x2 bH (k:=k) m9)) (bc (yR hw hq y2 Zv (k:=k) m9));rw[hb];simp only[jQa];cases b
     ·have Y3:6<=J rs false false bx:=by
       obtain⟨k,n,m,va,nm,tg,l⟩:=bx;simp[GT.kind]at bH;subst bH;rw[bw];simp
      have Qj:∀{p q:GT},PL w.length NS Q A 0 false false p->p.kind=10->J rs false false p<=N->PL w.length NS Q A 0 false false q->q.kind=10->J rs false false q<=N->∃r,subset (ident k) k w p q=some r:=by
       intro p q p1 p2 p3 q1 q2 q3;have Y7:=hQ [] p p2 (cu (rs:=rs) (cs:=cs) p1 p2).2.2.2.2.2.1;have hcq:=hQ [] q q2 (cu (rs:=rs) (cs:=cs) q1 q2).2.2.2.2.2.1;rw[List.append_nil]at Y7 hcq;obtain⟨s,j,s1,⟨l,r,c,A',e,rY,oC,hA,Q7,hj⟩,hj2⟩:=Kb hw hq dJ hl (N:=N) (k:=k) (B:=B) m9 m9 m9 p1 p2 p3 Y7 q1 q2 q3 hcq;unfold subset;rw[s1];simp only[jQa];have hle:w.length<=s.1.length:=by rw[e];simp
       have af1:=ih k m9 s.1 (rs++r) (cs++c) A' rY oC (λc' t h1 h2=>by rw[List.append_assoc];exact hQ _ t h1 h2) (by rw[e];simp;omega);refine bc (dW λz hz=>?_);have hX:=Q7 z hz;exact qI (Ub rY hq oC af1 (f:=k) m9 hX (p1.eS hle hA (jQ0 _) id id) p2 (by rw[nD _ hw.rl p1];exact p3) m9) (bc (Ub rY hq oC af1 (f:=k) m9 hX (q1.eS hle hA (jQ0 _) id id) q2 (by rw[nD _ hw.rl q1];exact q3) m9))
      exact qI (Qj x2 bH m9 y2 Zv m9) (Qj y2 Zv m9 x2 bH m9)
     ·obtain⟨a,a1,a2,_⟩:=jU hw hq hl x2 bH (k:=k) m9;obtain⟨b,b1,b2,_⟩:=jU hw hq hl y2 Zv (k:=k) m9;simp only[if_true];rw[a1,b1];simp only[jQa];split
      ·refine tG λf hf m hm=>?_;obtain⟨_,_,_,p4,p5⟩:=a2 f hf;obtain⟨_,_,_,q4,q5⟩:=b2 m hm;exact hid _ _ p4 m9 q4 m9
      ·exact M164
    ·rw[jQ4 bH];split
     ·exact M164
     ·split
      ·exact M164
      ·split
       ·exact M164
       ·have hlen:bx.elems.length=bY.elems.length:=by
         by_cases h:bx.elems.length=bY.elems.length
         ·exact h
         ·exact absurd ⟨h,bH⟩ rP
        have Vs:=ow (rs:=rs) x2 bH;have hye:=ow (rs:=rs) y2 m9;obtain⟨r,hr⟩:=pI (f:=λi e=>(bY.elems[i]?).bind λe'=>(ident k w e e').map λb=>if b then none else some false) (l:=bx.elems) (i:=0) (λj a ha=>by
         have LZ:j<bx.elems.length:=by
          by_cases h:j<bx.elems.length
          ·exact h
          ·rw[jQx m9]at ha;cases ha
         obtain⟨b,hb⟩:∃b,bY.elems[0+j]?=some b:=⟨bY.elems[0+j]' m9,i6⟩;obtain⟨p1,p2⟩:=Vs a (jQ8 ha);obtain⟨q1,q2⟩:=hye b (jQ8 hb);obtain⟨c,hc⟩:=hid a b p1 m9 q1 m9;simp only[hb,jQa,hc];exact⟨_,rfl⟩)
        rw[hr];exact⟨_,rfl⟩
  ·rw[jQ7 (by simpa using ez)];exact⟨_,rfl⟩
end S
namespace S
mutual
def dp:GT->Nat
 |.mk _ _ _ _ _ _ l=>1+dps l
def dps:List GT->Nat
 |[]=>0
 |e::l=>max (dp e) (dps l)
end
theorem zS:∀{l:List GT} {e:GT},e∈l->dp e<=dps l
 |a::l,e,h=>by
  rw[dps];rcases jQn.1 h with rfl|h
  ·exact jRs _ _
  ·exact jQd (zS h) (jRg _ _)
theorem gA{e:GT}(h:e∈t.elems):dp e<dp t:=by
 obtain⟨k,n,m,va,nm,tg,l⟩:=t;have:=zS (l:=l) h;rw[dp.eq_def (GT.mk k n m va nm tg l)];simp only;omega
theorem Sv(t:GT):1<=dp t:=by obtain⟨k,n,m,va,nm,tg,l⟩:=t;rw[dp];omega
mutual
def ei:GT->List ByteArray
 |.mk _ _ _ _ nm _ l=>nm::fF l
def fF:List GT->List ByteArray
 |[]=>[]
 |e::l=>ei e++fF l
end
theorem xW:∀{l:List GT} {e:GT},e∈l->∀x∈ei e,x∈fF l
 |a::l,e,h,x,hx=>by
  rw[fF];rcases jQn.1 h with rfl|h
  ·exact jQm.2 (.inl hx)
  ·exact jQm.2 (.inr (xW h x hx))
theorem jD{e:GT}(h:e∈t.elems):∀x∈ei e,x∈ei t:=by
 obtain⟨k,n,m,va,nm,tg,l⟩:=t;intro x hx;rw[ei];exact jQn.2 (.inr (xW h x hx))
theorem EK(t:GT):t.name∈ei t:=by obtain⟨k,n,m,va,nm,tg,l⟩:=t;rw[ei];simp[GT.name]
theorem tR{α:Type}{p:α->Option Bool}:∀{l:List α},anyM p l=some false->∀a∈l,p a=some false
 |[],_,a,h=>by simp at h
 |x::l,h,a,ha=>by
  rw[anyM]at h;obtain⟨b,hb,h⟩:=jQ1.1 h;cases b
  ·rcases jQn.1 ha with rfl|ha
   ·exact hb
   ·exact tR (by simpa using h) a ha
  ·simp at h
theorem Es(h:bh a=some true):a=some false:=M221
theorem l4(h:bh a=some false):a=some true:=M221
theorem iE{p:α->Option Bool}{l:List α}(h:bh (anyM (λa=>bh (p a)) l)=some true):∀a∈l,p a=some true:=
 λa ha=>l4 (tR (Es h) a ha)
theorem jA{α β:Type}{f:Nat->α->Option (Option β)}:∀{l:List α} {i:Nat},rangeM f i l=some none->∀j a,l[j]?=some a->f (i+j) a=some none
 |[],i,_,j,a,h=>by simp at h
 |x::l,i,h,j,a,ha=>by
  rw[rangeM]at h;obtain⟨r,hr,h⟩:=jQ1.1 h;cases r with
  |some b=>simp at h
  |none=>
   cases j with
   |zero=>simp at ha;subst ha;exact hr
   |succ j=>rw[show i+(j+1)=i+1+j by omega];exact jA (by simpa using h) j a (by simpa using ha)
theorem wv{α β:Type}{f g:Nat->α->Option (Option β)}:∀{l:List α} {i:Nat},(∀j a,l[j]?=some a->f (i+j) a=g (i+j) a)->rangeM f i l=rangeM g i l
 |[],_,_=>rfl
 |a::l,i,h=>by
  have h0:=h 0 a rfl;rw[Nat.add_zero]at h0;rw[rangeM,rangeM,h0];have:=wv (f:=f) (g:=g) (l:=l) (i:=i+1) λj b hb=>by have:=h (j+1) b (by simpa using hb);rwa[show i+1+j=i+(j+1)by omega]
  rw[this]
theorem iS{α:Type}{f:Nat->α->Option (Option Bool)}(h:∀i a,f i a≠some (some true)):∀{l:List α} {i:Nat},rangeM f i l≠some (some true)
 |[],_=>by simp[rangeM]
 |a::l,i=>by
  rw[rangeM];intro e;obtain⟨r,hr,e⟩:=jQ1.1 e;cases r with
  |some b=>simp at e;subst e;exact h i a hr
  |none=>exact iS h (l:=l) (i:=i+1) (by simpa using e)
theorem nR:∀(x y:List UInt8),Go.Op.bytesLess x y=decide (x<y)
 |[],[]=>by simp[Go.Op.bytesLess]
 |_::_,[]=>by simp[Go.Op.bytesLess]
 |[],_::_=>by simp[Go.Op.bytesLess]
 |a::x,b::y=>by
  rw[Go.Op.bytesLess,nR x y];simp only[List.cons_lt_cons_iff];by_cases h1:a<b<;>by_cases h2:a=b<;>by_cases h3:x<y<;>simp[h1,h2,h3]
theorem GF{a b c:GT}(h:bB a b=true)(h':bB b c=true):bB a c=true:=by
 unfold bB at*;rw[nR,decide_eq_true_eq]at*;exact List.lt_trans h h'
theorem Mk(a:GT):bB a a=false:=by
 unfold bB;rw[nR,decide_eq_false_iff_not];exact List.lt_irrefl _
theorem yM:∀{l:List GT},(∀i a b,l[i]?=some a->l[i+1]?=some b->bB a b=true)->l.Pairwise λa b=>bB a b=true
 |[],_=>.nil
 |[a],_=>i6
 |a::b::l,h=>by
  have ih:=yM (l:=b::l) λi x y hx hy=>h (i+1) x y (by simpa using hx) (by simpa using hy);refine List.Pairwise.cons ?_ ih;intro x hx;have Bh:=h 0 a b rfl rfl;rcases jQn.1 hx with rfl|hx
  ·exact Bh
  ·exact GF Bh ((List.pairwise_cons.1 ih).1 x hx)
theorem DQ{l:List GT}(h:l.Pairwise λa b=>bB a b=true):(l.map (·.name)).Nodup:=by
 rw[List.Nodup,List.pairwise_map];refine h.imp ?_;intro a b Bh e;have:bB a b=bB b b:=by unfold bB;rw[e]
 rw[this,Mk]at Bh;cases Bh
def Q0(t:GT):Prop:=t.kind=5->∀e∈t.elems,isName e.name=true
def SX(NS:List ByteArray)(w:List ah)(k:Nat)(t:GT):Prop:=∀p,∃b,placed w k t p=some b/\(b=true->PL w.length NS Q0 (λn=>(n:Int)<p.decls) 0 p.value p.term t)
theorem DR{l:List GT}(h:∀e∈l,SX NS w k e)(p:Place):
 ∃b,allPlaced w (k+1) l p=some b/\(b=true->∀e∈l,PL w.length NS Q0 (λn=>(n:Int)<p.decls) 0 p.value p.term e):=by
 obtain⟨b,hb⟩:=bc (dW (p:=λt=>bh (placed w k t p)) (l:=l) λe he=>bc (by obtain⟨b,hb,_⟩:=h e he p;exact⟨b,hb⟩));refine⟨b,by rw[allPlaced,hb],λe x hx=>?_⟩;subst e;have:=iE hb x hx;obtain⟨b,h1,h2⟩:=h x hx p;rw[this]at h1;cases h1;exact h2 rfl
theorem JP:∀{l:List GT},(∀i f,l[i]?=some f->mD l i f=false)->(l.map (·.name)).Nodup:=by
 intro l h;rw[List.Nodup,List.pairwise_map,List.pairwise_iff_getElem];intro i j hi hj hij e;have:=h j l[j] i6;unfold mD at this;simp only[List.any_eq_false]at this;exact this l[i] (List.mem_take_iff_getElem.2 ⟨i,m9,rfl⟩) (by simp[aE,e])
theorem JQ(h:SX NS w k x)(h':∀e∈x.elems,SX NS w k e)(d:Int):
 ∃b,placedTerm w (k+1) x {decls:=d,value:=true,term:=true}=some b/\(b=true->∀md,1<=md->PL w.length NS Q0 (λn=>(n:Int)<d) md true true x):=by
 rw[placedTerm];split
 ·rename_i cg
  obtain⟨kd,n,m,va,nm,tg,l⟩:=x;simp[GT.kind]at cg;subst cg
  match l,h' with
  |[],_=>exact⟨false,rfl,i6⟩
  |[e],h'=>
   obtain⟨b,h1,h2⟩:=h' e (by simp[GT.elems]) {decls:=d,value:=true,term:=true};exact⟨b,h1,λhb md cq=>.ti m9 (h2 hb)⟩
  |_::_::_,_=>exact⟨false,rfl,i6⟩
 ·obtain⟨b,h1,h2⟩:=h {decls:=d,value:=true,term:=true};exact⟨b,h1,λhb md cq=>(h2 hb).eS (jQ0 _) (λ_ h=>h) (jQc _) id id⟩
theorem UB{e:GT}(h:∀k',k<=k'+1->SX NS w k' e)(h':∀k',k<=k'+1->∀x∈e.elems,SX NS w k' x)(h'':∀k',k<=k'+1->∀x∈e.elems,∀y∈x.elems,SX NS w k' y)(hk:1<=k)(d:Int):
 ∃b,dz w (k+1) e {decls:=d,value:=true,term:=true}=some b/\(b=true->PL w.length NS Q0 (λn=>(n:Int)<d) 2 true true e):=by
 obtain⟨k,rfl⟩:∃j,k=j+1:=⟨k - 1,m9⟩;rw[dz];split
 ·obtain⟨b,h1,h2⟩:=JQ (h k m9) (λx hx=>h' k m9 x hx) d;exact⟨b,h1,λhb=>h2 hb 2 i5⟩
 ·rename_i cQ
  split
  ·rename_i hl
   have hT:=λx (hx:x∈e.elems)=>JQ (h' k m9 x hx) (λy hy=>h'' k m9 x hx y hy) d;obtain⟨b,hb⟩:=bc (dW (p:=λx=>bh (placedTerm w (k+1) x {decls:=d,value:=true,term:=true})) (l:=e.elems) λx hx=>bc (by obtain⟨b,hb,_⟩:=hT x hx;exact⟨b,hb⟩));refine⟨b,hb,λe'=>?_⟩;subst e';obtain⟨kd,n,m,va,nm,tg,l⟩:=e;simp[GT.kind]at cQ;subst cQ;refine .un i5 hl.1 hl.2 λx hx=>?_;have:=iE hb x hx;obtain⟨b,h1,h2⟩:=hT x hx;rw[this]at h1;cases h1;exact h2 rfl 1 i5
  ·exact M90
theorem YZ:∀{l:List α},l.length=2->∃a b,l=[a,b]
 |[a,b],_=>⟨a,b,rfl⟩
 |[],h=>by simp at h
 |[_],h=>by simp at h
 |_::_::_::_,h=>by simp at h
theorem within_iff{n m:Int}:within n m=true↔0<=n/\n<m:=by simp[within]
theorem Y0(kY:t.kind=10)(hm:∀x∈t.elems,SX NS w k x)(dU:∀x∈t.elems,x.name∈NS)(he:∀d,∀e∈t.elems,∃b,dz w k e {decls:=d,value:=true,term:=true}=some b/\(b=true->PL w.length NS Q0 (λn=>(n:Int)<d) 2 true true e))(p:Place)(v:Bool):
 ∃b,placedInterface w (k+1) t p=some b/\(b=true->PL w.length NS Q0 (λn=>(n:Int)<p.decls) 0 v p.term t):=by
 rw[placedInterface];simp only;split
 ·exact M90
 ·rename_i hw
  have rY:=within_iff.1 (by simpa using hw);split
  ·exact M90
  ·rename_i h4
   obtain⟨r,hr⟩:=pI (f:=λi (m:GT)=>if m.kind≠7 then some (some false)else if !isName m.name then some (some false)
    else if i>0/\!(bB ((t.elems.take t.m.toNat).getD (i - 1) default) m)then some (some false)
    else(placed w k m {decls:=p.decls,value:=false,term:=p.term}).map λb=>if b then none else some false) (l:=t.elems.take t.m.toNat) (i:=0) (λj a ha=>by
    obtain⟨b,hb,_⟩:=hm a (jQt (jQ8 ha)) {decls:=p.decls,value:=false,term:=p.term};simp only[hb];split
    ·exact M164
    ·split
     ·exact M164
     ·split
      ·exact M164
      ·exact⟨_,rfl⟩)
   have Nn:rangeM (λi (m:GT)=>if m.kind≠7 then some (some false)else if !isName m.name then some (some false)
    else if i>0/\!(bB (t.elems.getD (i - 1) default) m)then some (some false)
    else(placed w k m {decls:=p.decls,value:=false,term:=p.term}).map λb=>if b then none else some false) 0 (t.elems.take t.m.toNat)=some r:=by
    rw[<-hr];refine wv λj a ha=>?_;have hj:j<(t.elems.take t.m.toNat).length:=by
     by_cases h:j<(t.elems.take t.m.toNat).length
     ·exact h
     ·rw[jQx m9]at ha;cases ha
    have hg:t.elems.getD (0+j - 1) default=(t.elems.take t.m.toNat).getD (0+j - 1) default:=by
     simp only[List.getD_eq_getElem?_getD];rw[List.getElem?_take_of_lt (by simp at hj;omega)]
    rw[hg]
   rw[Nn];simp only[jQa];cases r with
   |some b=>refine⟨b,rfl,λhb=>?_⟩;subst hb;exact absurd hr (iS λi a=>by
    intro h;split at h
    ·simp at h
    ·split at h
     ·simp at h
     ·split at h
      ·simp at h
      ·obtain⟨b,_,h⟩:=jQ6.1 h;cases b<;>simp at h)
   |none=>
    have eO:=jA hr;simp only;obtain⟨b,hb⟩:=bc (dW (p:=λe=>bh (dz w k e {decls:=p.decls,value:=true,term:=true})) (l:=t.elems.drop t.m.toNat) λe hx=>bc (by
     obtain⟨b,hb,_⟩:=he p.decls e (jR2 hx);exact⟨b,hb⟩))
    refine⟨b,hb,λe=>?_⟩;subst e;have jd:∀j a,(t.elems.take t.m.toNat)[j]?=some a->a.kind=7/\isName a.name=true/\(0<j->bB ((t.elems.take t.m.toNat).getD (j - 1) default) a=true)/\placed w k a {decls:=p.decls,value:=false,term:=p.term}=some true:=by
     intro j a ha;have h:=eO j a ha;split at h
     ·simp at h
     ·rename_i g1
      split at h
      ·simp at h
      ·rename_i g2
       split at h
       ·simp at h
       ·rename_i g3
        obtain⟨b,hb,h⟩:=jQ6.1 h;refine⟨by simpa using g1,by simpa using g2,λhj=>?_,by cases b<;>simp at h;exact hb⟩;have:¬(0+j>0/\(!bB ((t.elems.take t.m.toNat).getD (0+j - 1) default) a)=true):=g3;simp at this;simpa using this m9
    have UC:(t.elems.take t.m.toNat).Pairwise λa b=>bB a b=true:=yM λi a b ha hb=>by
     have:=(jd (i+1) b hb).2.2.1 m9;simp only[List.getD_eq_getElem?_getD,Nat.add_sub_cancel,ha]at this;simpa using this
    have lT:=iE hb;obtain⟨kd,n,m,va,nm,tg,l⟩:=t;simp[GT.kind]at kY;subst kY;simp only[GT.m,GT.elems]at rY h4 jd UC lT hm dU he;have Y1:∀a∈l.take m.toNat,∃j,(l.take m.toNat)[j]?=some a:=λa ha=>List.getElem?_of_mem ha;refine .ifc rY.1 m9 m9 UC (DQ UC) (λa ha=>?_) (λa ha=>?_) (λe hx=>?_) (by intro h;simp[GT.kind]at h)
    ·obtain⟨j,hj⟩:=Y1 a ha;exact⟨(jd j a hj).1,(jd j a hj).2.1,dU a (jQt ha)⟩
    ·obtain⟨j,hj⟩:=Y1 a ha;obtain⟨b,h1,h2⟩:=hm a (jQt ha) {decls:=p.decls,value:=false,term:=p.term};rw[(jd j a hj).2.2.2]at h1;cases h1;exact h2 rfl
    ·obtain⟨b,h1,h2⟩:=he p.decls e (jR2 hx);rw[lT e hx]at h1;cases h1;exact h2 rfl
theorem tQ(NS:List ByteArray)(w:List ah):∀(n:Nat) (t:GT),dp t<=n->∀k,6*n<=k->(∀x∈ei t,x∈NS)->SX NS w k t:=by
 intro n
 induction n with
 |zero=>intro t h;have:=Sv t;omega
 |succ n ih=>
  intro t hn k hk hN p;obtain⟨k,rfl⟩:∃j,k=j+2:=⟨k - 2,m9⟩;have lT:∀e∈t.elems,∀k',6*n<=k'->SX NS w k' e:=λe he k' hk'=>ih e (by have:=gA he;omega) k' hk' (λx hx=>hN x (jD he x hx));have hap:∀p,∃b,allPlaced w (k+1) t.elems p=some b/\(b=true->∀e∈t.elems,PL w.length NS Q0 (λn=>(n:Int)<p.decls) 0 p.value p.term e):=
   λp=>DR (λe he=>lT e he k m9) p
  rw[placed];simp only;have wE:t=.mk t.kind t.n t.m t.va t.name t.tag t.elems:=by cases t;rfl
  by_cases h1:t.kind=1
  ·rw[jQ7 h1];refine⟨_,rfl,λh=>?_⟩;simp[within_iff]at h;obtain⟨h2,h3⟩:=h;rw[wE,h1,h3];exact .basic h2.1 h2.2
  rw[jQ4 h1];by_cases mM:t.kind=14\/t.kind=15\/t.kind=16
  ·rw[jQ7 mM];refine⟨_,rfl,λh=>?_⟩;simp at h;rw[wE,h];exact .uni mM
  rw[jQ4 mM];by_cases dA:t.kind=11
  ·rw[jQ7 dA];refine⟨_,rfl,λh=>?_⟩;simp[within_iff]at h;obtain⟨⟨⟨h1,h2⟩,h3⟩,h4⟩:=h;rw[wE,dA,h4];refine .named h1 h2 λhf=>?_;have:((t.n.toNat:Nat):Int)=t.n:=m9
   simp only[this];obtain h3|h3:=h3
   ·simp[h3.1,h3.2]at hf
   ·exact h3
  rw[jQ4 dA];by_cases h2:t.kind=2\/t.kind=3
  ·rw[jQ7 h2];split
   ·rename_i hc
    obtain⟨b,hb,hP⟩:=hap p;refine⟨b,hb,λh=>?_⟩;obtain⟨e,he⟩:=List.length_eq_one_iff.1 (show t.elems.length=1 by omega);rw[wE,he];exact .al h2 hc.1 (hP h e (by simp[he]))
   ·exact M90
  rw[jQ4 h2];by_cases h5:t.kind=5
  ·rw[jQ7 h5];split
   ·exact M90
   ·rename_i hc
    obtain⟨b,hb,hP⟩:=hap p;refine⟨b,hb,λh=>?_⟩;have yq:∀i f,t.elems[i]?=some f->isName f.name=true/\mD t.elems i f=false:=by
     intro i f hf;simp only[Bool.not_eq_true,List.any_eq_false]at hc;have:=hc (f,i) (List.mk_mem_zipIdx_iff_getElem?.2 hf);exact M150
    rw[wE,h5];refine .st (λ_ e he=>?_) (JP λi f hf=>(yq i f hf).2) (hP h);obtain⟨i,hi⟩:=List.getElem?_of_mem (show e∈t.elems from he);exact(yq i e hi).1
  rw[jQ4 h5];by_cases bH:t.kind=10
  ·rw[jQ7 bH];exact Y0 bH (λx hx=>lT x hx k m9) (λx hx=>hN _ (jD hx _ (EK x))) (λd e he=>by
    obtain⟨k,rfl⟩:∃j,k=j+1:=⟨k - 1,m9⟩;exact UB (λk' hk'=>lT e he k' m9) (λk' hk' x hx=>ih x (by have:=gA hx;have:=gA he;omega) k' m9 (λy hy=>hN y (jD he y (jD hx y hy))))
     (λk' hk' x hx y hy=>ih y (by have:=gA hx;have:=gA hy;have:=gA he;omega) k' m9 (λz hz=>hN z (jD he z (jD hx z (jD hy z hz))))) m9 d) p p.value
  rw[jQ4 bH];have afl:=hap {decls:=p.decls,value:=false,term:=p.term};simp only at afl;obtain⟨b,hb,hP⟩:=afl;by_cases h4:t.kind=4\/t.kind=6\/t.kind=9
  ·rw[jQ7 h4];split
   ·rename_i hc
    refine⟨b,hb,λh=>?_⟩;have lk:=within_iff.1 hc.1;obtain⟨e,he⟩:=List.length_eq_one_iff.1 (show t.elems.length=1 by omega);rw[wE,he];exact .one h4 lk.1 lk.2 (hP h e (by simp[he]))
   ·exact M90
  rw[jQ4 h4];by_cases h8:t.kind=8
  ·rw[jQ7 h8];split
   ·rename_i hc
    refine⟨b,hb,λh=>?_⟩;obtain⟨a,c,he⟩:=YZ (show t.elems.length=2 by omega);rw[wE,he,h8];exact .mp (hP h a (by simp[he])) (hP h c (by simp[he]))
   ·exact M90
  rw[jQ4 h8];by_cases h7:t.kind=7
  ·rw[jQ7 h7];split
   ·rename_i hc
    have lk:=within_iff.1 hc;split
    ·rename_i xb
     exact⟨b,hb,λh=>by rw[wE,h7];exact .fn lk.1 m9 (λhv=>by simp[hv]at xb) (hP h)⟩
    ·split
     ·rename_i hm
      obtain⟨e,he⟩:∃e,t.elems[(t.m - 1).toNat]?=some e:=⟨t.elems[(t.m - 1).toNat]' m9,i6⟩;rw[he];simp only[jQa];split
      ·rename_i hek
       exact⟨b,hb,λh=>by rw[wE,h7];exact .fn lk.1 m9 (λ_=>⟨hm,e,he,hek⟩) (hP h)⟩
      ·exact M90
     ·exact M90
   ·exact M90
  rw[jQ4 h7];exact M90
end S
namespace S
theorem FI(hw:mN NS Q A w rs cs)(hq:QB NS Q):∀(k:Nat) {md:Nat} {t:GT},PL w.length NS Q A md true true t->isIface w t=some true->J rs true true t<=k->∃b,gD w k t=some b:=by
 intro k
 induction k with
 |zero=>intro md t _ _ h;have:=oh rs true true t;omega
 |succ k ih=>
  intro md t h hi hk;obtain⟨u,h1,h2,h3,_⟩:=fM hw hq h;rw[isIface,h1]at hi;rw[gD,h1];simp only[jQa];by_cases ir:u.kind=16
  ·rw[jQ7 ir];exact⟨_,rfl⟩
  ·rw[jQ4 ir];have bH:u.kind=10:=by simp[ir]at hi;exact hi
   obtain⟨e1,_,e3,_⟩:=cu (rs:=rs) (cs:=cs) h2 bH;rw[e1];simp only[jQa];refine dW λe he=>?_;obtain⟨p1,p2⟩:=e3 e he;unfold bU;split
   ·exact⟨false,rfl⟩
   ·split
    ·exact⟨false,rfl⟩
    ·obtain⟨b,hb⟩:=fj hw hq p1;rw[hb];cases b
     ·exact⟨false,rfl⟩
     ·exact ih p1 hb m9
theorem l5(hw:mN NS Q A w rs cs)(hq:QB NS Q)(h:PL w.length NS Q A md v f t):∃b,bU w t=some b:=by
 unfold bU;split
 ·exact⟨false,rfl⟩
 ·split
  ·exact⟨false,rfl⟩
  ·exact fj hw hq h
theorem yZ(h:bU w t=some true):isIface w t=some true:=by
 unfold bU at h;split at h
 ·simp at h
 ·split at h
  ·simp at h
  ·exact h
def WS(c:Nat)(s:Int×Option Int):Prop:=(s.2=none/\0<=s.1/\(s.1<=50->(c:Int)<=s.1))\/(∃r,s.2=some r/\50<r)
def EW(w:List ah)(k:Nat)(s:Int×Option Int)(x:GT):Option (Int×Option Int):=
 match s.2 with
 |some r=>some (s.1,some r)
 |none=>
  if s.1>50 then some (s.1,some s.1)
  else if x.kind=13 then some (s.1+1,none)
  else(isIface w x).bind λi=>if !i then some (s.1+1,none)else(written w k x).map λn=>(s.1+n,none)
theorem Zc(hw:mN NS Q A w rs cs)(hq:QB NS Q)(h:PL w.length NS Q A md true true t)(hi:isIface w t=some false)(cQ:t.kind≠12):bP cs t=1:=by
 obtain⟨u,u1,u2,u3,u4,u5,u6,u7,u8, -, -,u11⟩:=fM hw hq h;rw[isIface,u1]at hi;simp at hi;by_cases hu:u.kind=12
 ·have:=u11 (.inl hu);subst this;exact absurd hu cQ
 ·rw[<-u4];exact oH u2 u5 hi.1 u7 hu u6 u8 hi.2
theorem UL(hw:mN NS Q A w rs cs)(hq:QB NS Q){s:Int×Option Int}(hx:PL w.length NS Q A 1 true true x)(ahU:isIface w x=some true->∃n,written w k x=some n/\0<=n/\(n<=50->(bP cs x:Int)<=n))(hs:WS c s):∃s',EW w k s x=some s'/\WS (c+bP cs x) s':=by
 unfold EW;rcases hs with⟨h1,h2,h3⟩|⟨r,h1,h2⟩
 ·rw[h1];simp only;split
  ·rename_i Wl;exact⟨_,rfl,.inr ⟨_,rfl,Wl⟩⟩
  ·rename_i Wl
   have hle:=h3 m9;split
   ·rename_i cg
    have:bP cs x=1:=by
     obtain⟨k',n,m,va,nm,tg,l⟩:=x;simp[GT.kind]at cg;subst cg;simp[bP]
    exact M207
   ·obtain⟨b,hb⟩:=fj hw hq hx;rw[hb];simp only[jQa];cases b
    ·have cQ:x.kind≠12:=by
      intro h;cases hx with
      |un a _ _ _=>exact absurd a i5
      |uni a=>rename_i kk _ _ _ _ _;simp[GT.kind]at h;omega
      |al a=>rename_i kk _ _ _ _ _ _ _ _;simp[GT.kind]at h;omega
      |one a=>rename_i kk _ _ _ _ _ _ _ _ _;simp[GT.kind]at h;omega
      |_=>simp[GT.kind]at h
     have:=Zc hw hq hx hb cQ;exact M207
    ·obtain⟨n,n1,n2,n3⟩:=ahU hb;rw[n1];refine⟨_,rfl,.inl ⟨rfl,by simp only;omega,λh=>?_⟩⟩;simp only at h⊢;have:=n3 m9;omega
 ·rw[h1];exact⟨_,rfl,.inr ⟨r,rfl,h2⟩⟩
theorem xZ(hw:mN NS Q A w rs cs)(hq:QB NS Q){k:Nat}:∀{l:List GT} {c:Nat} {s:Int×Option Int},(∀x∈l,PL w.length NS Q A 1 true true x)->
 (∀x∈l,isIface w x=some true->∃n,written w k x=some n/\0<=n/\(n<=50->(bP cs x:Int)<=n))->WS c s->∃s',foldM (EW w k) s l=some s'/\WS (c+cN cs 0 l) s'
 |[],c,s,_,_,hs=>⟨s,rfl,by simpa[cN]using hs⟩
 |x::l,c,s,hp,hr,hs=>by
  obtain⟨s1,h1,h2⟩:=UL hw hq (hp x i6) (hr x i6) hs;obtain⟨s2,h3,h4⟩:=xZ hw hq (l:=l) (λy hy=>hp y (by simp[hy])) (λy hy=>hr y (by simp[hy])) h2;refine⟨s2,by rw[foldM,h1];exact h3,?_⟩;rw[cN,show c+(bP cs x+cN cs 0 l)=c+bP cs x+cN cs 0 l by omega];exact h4
theorem UM(hw:mN NS Q A w rs cs)(hq:QB NS Q){k:Nat}:∀{l:List GT} {c:Nat} {s:Int×Option Int},(∀e∈l,PL w.length NS Q A 2 true true e)->
 (∀e∈l,∀x,(x=e\/(e.kind=12/\x∈e.elems))->PL w.length NS Q A 1 true true x->isIface w x=some true->∃n,written w k x=some n/\0<=n/\(n<=50->(bP cs x:Int)<=n))->WS c s->
 ∃s',foldM (λs e=>foldM (EW w k) s (if e.kind=12 then e.elems else[e])) s l=some s'/\WS (c+cN cs 0 l) s'
 |[],c,s,_,_,hs=>⟨s,rfl,by simpa[cN]using hs⟩
 |e::l,c,s,hp,hr,hs=>by
  have he:=hp e i6;have h1:∃s1,foldM (EW w k) s (if e.kind=12 then e.elems else[e])=some s1/\WS (c+bP cs e) s1:=by
   by_cases cQ:e.kind=12
   ·rw[jQ7 cQ];have hc:bP cs e=cN cs 0 e.elems:=by
     obtain⟨k',n,m,va,nm,tg,l⟩:=e;simp[GT.kind]at cQ;subst cQ;simp[bP,GT.elems]
    rw[hc];have qe:∀x∈e.elems,PL w.length NS Q A 1 true true x:=by
     cases he with
     |un a b c d=>exact d
     |uni a=>rename_i kk _ _ _ _ _;simp[GT.kind]at cQ;omega
     |al a=>rename_i kk _ _ _ _ _ _ _ _;simp[GT.kind]at cQ;omega
     |one a=>rename_i kk _ _ _ _ _ _ _ _ _;simp[GT.kind]at cQ;omega
     |_=>simp[GT.kind]at cQ
    exact xZ hw hq qe (λx hx=>hr e i6 x (.inr ⟨cQ,hx⟩) (qe x hx)) hs
   ·rw[jQ4 cQ];have ke:PL w.length NS Q A 1 true true e:=M53
    have:=xZ hw hq (l:=[e]) (k:=k) (c:=c) (s:=s) (by simpa using ke) (by simpa using λhi=>hr e i6 e (.inl rfl) ke hi) hs;simpa[cN]using this
  obtain⟨s1,a1,a2⟩:=h1;obtain⟨s2,h3,h4⟩:=UM hw hq (l:=l) (λy hy=>hp y (by simp[hy])) (λy hy=>hr y (by simp[hy])) a2;refine⟨s2,by rw[foldM,a1];exact h3,?_⟩;rw[cN,show c+(bP cs e+cN cs 0 l)=c+bP cs e+cN cs 0 l by omega];exact h4
theorem wF(hw:mN NS Q A w rs cs)(hq:QB NS Q)(h1:under w t=some u)(h2:PL w.length NS Q A md v f u)(hc:u.kind≠10->bP cs t<=1)(yq:bP cs u=bP cs t)(ih:∀x,PL w.length NS Q A 1 true true x->J rs true true x<J rs v f u->isIface w x=some true->∃n,written w k x=some n/\0<=n/\(n<=50->(bP cs x:Int)<=n)):
 ∃n,written w (k+1) t=some n/\0<=n/\(n<=50->(bP cs t:Int)<=n):=by
 rw[written,h1];simp only[jQa];by_cases bH:u.kind=10
 ·rw[jQ4 (by simp[bH])];obtain⟨e1,_,e3,_,_,_,e7⟩:=cu (rs:=rs) (cs:=cs) h2 bH;rw[e1];simp only[jQa];obtain⟨s,s1,s2⟩:=UM hw hq (k:=k) (l:=u.elems.drop u.m.toNat) (c:=0) (s:=(0,none)) (λe he=>(e3 e he).1) (λe he x hx hp hi=>ih x hp (by
   have hj:=(e3 e he).2;obtain rfl|⟨cQ,hx⟩:=hx
   ·exact hj
   ·have:J rs true true x<=J rs true true e:=by
     obtain⟨k',n,m,va,nm,tg,l⟩:=e;simp[GT.kind]at cQ;subst cQ;have:=jP (rs:=rs) (v:=true) (f:=true) (show x∈l from hx);rw[bw (l:=l)];simp;omega
    omega) hi) (.inl ⟨rfl,i5,λ_=>i5⟩)
  change ∃n,Option.map (λ(s:Int×Option Int)=>s.2.getD s.1) (foldM (λs e=>foldM (EW w k) s (if e.kind=12 then e.elems else[e])) (0,none) (u.elems.drop u.m.toNat))=some n/\_
  rw[s1];refine⟨s.2.getD s.1,rfl,?_⟩;rw[e7,ku]at yq;rcases s2 with⟨h1,h2,h3⟩|⟨r,h1,h2⟩
  ·rw[h1];exact⟨h2,λh=>by have:=h3 h;simp only[Option.getD_none];omega⟩
  ·rw[h1];exact⟨by simp;omega,λh=>by simp at h;omega⟩
 ·rw[jQ7 (by simpa using bH)];exact⟨1,rfl,i5,λ_=>by have:=hc bH;omega⟩
theorem Zd(hw:mN NS Q A w rs cs)(hq:QB NS Q)(h:PL w.length NS Q A md true true t)(cQ:t.kind≠12)(hu:under w t=some u)(bH:u.kind≠10):bP cs t<=1:=by
 obtain⟨u',u1,u2,u3,u4,u5,u6,u7,u8, -, -,u11⟩:=fM hw hq h;rw[hu]at u1;cases u1;rw[<-u4];by_cases ir:u.kind=16
 ·exact M218
 ·by_cases acg:u.kind=12
  ·have:=u11 (.inl acg);subst this;exact absurd acg cQ
  ·rw[oH u2 u5 bH u7 acg u6 u8 ir];exact jQ0 _
theorem JW(hw:mN NS Q A w rs cs)(hq:QB NS Q):∀(k:Nat) {md:Nat} {t:GT},PL w.length NS Q A md true true t->t.kind≠12->J rs true true t<=k->∃n,written w k t=some n/\0<=n/\(n<=50->(bP cs t:Int)<=n):=by
 intro k
 induction k with
 |zero=>intro md t _ _ h;have:=oh rs true true t;omega
 |succ k ih=>
  intro md t h cQ hk;obtain⟨u,u1,u2,u3,u4,_⟩:=fM hw hq h;refine wF hw hq u1 u2 (λbH=>Zd hw hq h cQ u1 bH) u4 (λx hx hj _=>ih hx ?_ m9);exact M77
theorem IB(hw:mN NS Q A w rs cs)(hq:QB NS Q)(h:PL w.length NS Q A md v f u)(kY:u.kind=10)(hk:J rs v f u<=k):∃n,written w k u=some n/\0<=n/\(n<=50->(bP cs u:Int)<=n):=by
 obtain⟨k,rfl⟩:∃j,k=j+1:=⟨k - 1,by have:=oh rs v f u;omega⟩;obtain⟨b,b1,_,_,_,_,_,b7,_⟩:=fc hq.any rs cs h;have hb:=b7 m9 m9;subst hb;have hu:under w b=some b:=by rw[under,b1];simp[kY]
 refine wF hw hq hu h (λh=>absurd kY h) rfl (λx hx hj _=>JW hw hq k hx ?_ m9);exact M77
def Qc(cs:List Nat)(B:Nat)(t:GT):Prop:=t.kind=10->∀c,bP (cs++c) t<=B
theorem Qc.qb(cs:List Nat)(B:Nat)(h:str [69,114,114,111,114]∈NS):QB NS (Qc cs B):=
 ⟨λ_ c=>by simp[fD,tk,bP,cN],λ_ c=>by simp[fC,bP,cN],h,λn h=>by simp[alone,tk,GT.kind]at h⟩
theorem aaN(hB:1<=B)(hw:mN NS (Qc cs B) A w rs cs)(c:List Nat)(h:PL w.length NS (Qc cs B) A md v f x):v=true->f=true->x.kind≠12->bP (cs++c) x<=B:=by
 induction h with
 |named a b d=>
  rename_i n m va nm tg
  intro hv hf _;obtain⟨d',hd⟩:∃d',w[n.toNat]?=some d':=⟨w[n.toNat]' m9,i6⟩;have h1:=(hw.ok _ _ (d (by simp[hv])) hd).1;have h2:=hw.ct _ _ hd;have h3:bP (cs++c) (.mk 11 n m va nm tg [])=(cs++c).getD n.toNat 0:=by rw[bP];simp
  rw[h3,lf (by rw[hw.cl];omega),h2];by_cases bH:d'.under.kind=10
  ·have:=(cu (rs:=rs) (cs:=cs) h1 bH).2.2.2.2.2.1 bH [];rwa[List.append_nil]at this
  ·obtain⟨k1,k2,k3,k4,k5,k6⟩:=hw.kd _ _ hd;by_cases ir:d'.under.kind=16
   ·generalize d'.under=u at ir;exact M218
   ·rw[oH h1 k1 bH k2 k3 k5 k6 ir];exact hB
 |basic a b=>intro _ _ _;rw[bP];simp;omega
 |uni a=>intro _ _ _;rw[bP];rcases a with rfl|rfl|rfl<;>simp
 |al a b h ih=>
  intro hv hf _;rw[bP];obtain rfl|rfl:=a
  ·simp[SQ];exact ih hv hf (λe=>lg h (.inl e))
  ·simp;omega
 |st a b _ ih=>intro _ _ _;rw[bP];simp;omega
 |ifc a b c' d e g _ _ q _ _=>intro _ _ _;exact q rfl c
 |one a b c' _ ih=>intro _ _ _;rw[bP];rcases a with rfl|rfl|rfl<;>simp<;>omega
 |mp _ _ _ _=>intro _ _ _;rw[bP];simp;omega
 |fn a b c' _ ih=>intro _ _ _;rw[bP];simp;omega
 |ti a _ ih=>intro _ _ _;rw[bP];simp;omega
 |un a b c' _ ih=>intro _ _ h;exact absurd rfl h
theorem FJ{cs:List Nat}{B:Nat}:∀{l:List GT},(∀e∈l,bP cs e<=B)->cN cs 0 l<=l.length*B
 |[],_=>by simp[cN]
 |a::l,h=>by
  rw[cN];have:=h a i6;have:=FJ (l:=l) λe he=>h e (by simp[he]);simp[Nat.add_mul];omega
theorem abd(hB:1<=B)(hw:mN NS (Qc cs B) A w rs cs)(c:List Nat){e:GT}(h:PL w.length NS (Qc cs B) A 2 true true e):bP (cs++c) e<=8*B:=by
 by_cases cQ:e.kind=12
 ·cases h with
  |un a b d g=>
   rename_i n m va nm tg l
   have:bP (cs++c) (.mk 12 n m va nm tg l)=cN (cs++c) 0 l:=by rw[bP];simp
   rw[this];have:=FJ (cs:=cs++c) (B:=B) (l:=l) λx hx=>aaN hB hw c (g x hx) rfl rfl (by
    intro e;have hx':=g x hx;cases hx' with
    |un a _ _ _=>exact absurd a i5
    |uni a=>rename_i kk _ _ _ _ _;simp[GT.kind]at e;omega
    |al a=>rename_i kk _ _ _ _ _ _ _ _;simp[GT.kind]at e;omega
    |one a=>rename_i kk _ _ _ _ _ _ _ _ _;simp[GT.kind]at e;omega
    |_=>simp[GT.kind]at e)
   exact jQd this (Nat.mul_le_mul_right _ d)
  |uni a=>rename_i kk _ _ _ _ _;simp[GT.kind]at cQ;omega
  |al a=>rename_i kk _ _ _ _ _ _ _ _;simp[GT.kind]at cQ;omega
  |one a=>rename_i kk _ _ _ _ _ _ _ _ _;simp[GT.kind]at cQ;omega
  |_=>simp[GT.kind]at cQ
 ·have:=aaN hB hw c h rfl rfl cQ;omega
theorem As{α β:Type}{f:Nat->α->Option (Option β)}:∀{l:List α} {i:Nat},(∀j a,l[j]?=some a->(∀j' b,j'<j->l[j']?=some b->f (i+j') b=some none)->∃r,f (i+j) a=some r)->∃r,rangeM f i l=some r
 |[],i,_=>⟨none,rfl⟩
 |a::l,i,h=>by
  obtain⟨r,hr⟩:=h 0 a rfl (by intro j' b h;omega);rw[Nat.add_zero]at hr;rw[rangeM,hr];cases r with
  |some b=>exact⟨_,rfl⟩
  |none=>
   refine As (i:=i+1) λj b hb hj=>?_;have:=h (j+1) b (by simpa using hb) (λj' c Sf hc=>by
    cases j' with
    |zero=>simp at hc;subst hc;exact hr
    |succ j'=>have:=hj j' c m9 (by simpa using hc);rwa[show i+(j'+1)=i+1+j' by omega])
   rwa[show i+1+j=i+(j+1)by omega]
end S
namespace S
theorem mN.imp(hQ:∀t,Q t->Q' t)(h:mN NS Q A w rs cs):mN NS Q' A w rs cs:=
 ⟨h.rl,h.cl,h.dec,h.kd,h.rk,h.ct,h.ml,λn d hA hd=>⟨((h.ok n d hA hd).1).imp hQ,λm hm=>((h.ok n d hA hd).2 m hm).imp hQ⟩⟩
theorem Lh(h:po a b=some false):a=some false/\b=some false:=by
 cases a with
 |none=>simp[po]at h
 |some x=>cases x<;>simp[po]at h⊢;exact h
theorem IA(h:∃x,a=some x)(h':a=some false->∃x,b=some x):∃x,po a b=some x:=by
 obtain⟨x,hx⟩:=h;cases x
 ·obtain⟨y,hy⟩:=h' hx;rw[hx,hy];exact⟨_,rfl⟩
 ·rw[hx];exact⟨true,rfl⟩
theorem Pb(h:∃x,a=some x)(h':a=some true->∃x,b=some x):∃x,fy a b=some x:=by
 obtain⟨x,hx⟩:=h;cases x
 ·rw[hx];exact⟨false,rfl⟩
 ·obtain⟨y,hy⟩:=h' hx;rw[hx,hy];exact⟨_,rfl⟩
mutual
theorem adZ (rs:List Nat):∀t:GT,J rs true true t<=J rs false true t
 |.mk k n m va nm tg l=>by
  rw[bw,bw];split
  ·simp
  ·split
   ·exact jQ0 _
   ·split
    ·exact jQ0 _
    ·split
     ·have:=ZT rs l;omega
     ·exact jQ0 _
theorem ZT (rs:List Nat):∀l:List GT,Js rs true true l<=Js rs false true l
 |[]=>by simp[Js]
 |e::l=>by
  rw[Js,Js];have:=adZ rs e;have:=ZT rs l;omega
end
def TX(w:List ah)(x:GT):Prop:=x.kind=13->∀y∈x.elems,isIface w y=some false
def TE(w:List ah)(e:GT):Prop:=TX w e/\(e.kind=12->∀x∈e.elems,TX w x)
def Qs(w:List ah)(P0:GT->Prop)(cs:List Nat)(t:GT):Prop:=P0 t/\Qc cs 50 t/\(t.kind=10->∀e∈t.elems.drop t.m.toNat,TE w e)
structure MC(NS:List ByteArray)(A:Nat->Prop)(w:List ah)(rs cs:List Nat)(N:Nat):Prop where
 hw:mN NS (Qc cs 50) A w rs cs
 err:str [69,114,114,111,114]∈NS
 sig:Li w
 len:NS.length<=1099511627776
 big:w.length+(N+1)*6404<=1099511627776
theorem Qc.mono(h:B<=B')(hq:Qc cs B t):Qc cs B' t:=λhk c=>jQd (hq hk c) h
theorem MC.id(hm:MC NS A w rs cs N)(hk:N<=k):IdT NS (Qc cs 1600) A w rs N (ident k w):=
 Pc (B:=1600) (Qc.qb cs 1600 hm.err) hm.len N k hk w rs cs A (hm.hw.imp λt h=>h.mono i5) hm.sig (λc t h1 h2=>h2 h1 c) (by have:=hm.big;omega)
theorem xg(h:PL nw NS Q A md true true x)(hk:x.kind≠12):∃a,(if x.kind=13 then x.elems[0]? else some x)=some a/\PL nw NS Q A 0 true true a/\J rs true true a<=J rs true true x:=by
 by_cases cg:x.kind=13
 ·rw[jQ7 cg];cases h with
  |ti a b=>exact⟨_,rfl,b,by rw[bw (k:=13)];simp[Js]⟩
  |uni a=>rename_i kk _ _ _ _ _;simp[GT.kind]at cg;omega
  |al a=>rename_i kk _ _ _ _ _ _ _ _;simp[GT.kind]at cg;omega
  |one a=>rename_i kk _ _ _ _ _ _ _ _ _;simp[GT.kind]at cg;omega
  |_=>simp[GT.kind]at cg
 ·rw[jQ4 cg];exact⟨x,rfl,pg h m9,jQ0 _⟩
theorem rT(h:PL nw NS Q A 1 v f x):x.kind≠12:=by
 intro e;cases h with
 |un a _ _ _=>exact absurd a i5
 |uni a=>rename_i kk _ _ _ _ _;simp[GT.kind]at e;omega
 |al a=>rename_i kk _ _ _ _ _ _ _ _;simp[GT.kind]at e;omega
 |one a=>rename_i kk _ _ _ _ _ _ _ _ _;simp[GT.kind]at e;omega
 |_=>simp[GT.kind]at e
theorem FH(hm:MC NS A w rs cs N)(hk:N<=k)(hx:PL w.length NS (Qc cs 1600) A 1 true true x)(hy:PL w.length NS (Qc cs 1600) A 1 true true y)(hxN:J rs true true x<N)(hyN:J rs true true y<N):
 ∃b,iR k w x y=some b:=by
 have hw:=hm.hw.imp (Q':=Qc cs 1600) λt h=>h.mono i5;have hq:=Qc.qb cs 1600 hm.err;have hid:=hm.id hk;obtain⟨a,a1,a2,a3⟩:=xg (rs:=rs) hx (rT hx);obtain⟨b,b1,b2,b3⟩:=xg (rs:=rs) hy (rT hy);unfold iR;rw[a1,b1];simp only[jQa];obtain⟨i,hi⟩:=rW (fj hw hq a2) (fj hw hq b2);rw[hi];simp only[jQa];have VV:∀t,J rs false false t<=J rs true true t:=λt=>dM i6 i6 t;have KM:∀{t},PL w.length NS (Qc cs 1600) A 0 true true t->PL w.length NS (Qc cs 1600) A 0 false false t:=λh=>h.eS (jQ0 _) (λ_ h=>h) (jQ0 _) i6 i6;obtain⟨ua,ua1,ua2,ua3, -⟩:=fM hw hq a2;obtain⟨ub,ub1,ub2,ub3, -⟩:=fM hw hq b2;have hwu:∀{t},PL w.length NS (Qc cs 1600) A 0 true false t->PL w.length NS (Qc cs 1600) A 0 false false t:=λh=>h.eS (jQ0 _) (λ_ h=>h) (jQ0 _) i6 id;have hfu:∀t,J rs false false t<=J rs true false t:=λt=>dM i6 i6 t;have:=VV a;have:=VV b;have:=hfu ua;have:=hfu ub;split
 ·exact M164
 ·split
  ·rw[ub1];exact bc (hid _ _ (KM a2) m9 (hwu ub2) m9)
  ·split
   ·rw[ua1];exact bc (hid _ _ (hwu ua2) m9 (KM b2) m9)
   ·exact bc (hid _ _ (KM a2) m9 (KM b2) m9)
def MT(NS:List ByteArray)(P0:GT->Prop)(A:Nat->Prop)(w:List ah)(rs cs:List Nat)(N k:Nat)(t:GT):Prop:=
 ∀v f,PL w.length NS P0 A 0 v f t->J rs true true t<N->∀g,∃b,gT w k t g=some b/\(b=true->PL w.length NS (Qs w P0 cs) A 0 v f t)
theorem sN(hm:MC NS A w rs cs N)(hk:N<=k)(hx:PL w.length NS P0 A 1 true true x)(hN:J rs true true x<N)(h1:MT NS P0 A w rs cs N k x)(h2:∀e∈x.elems,MT NS P0 A w rs cs N k e):∃b,dY w (k+1) x=some b/\(b=true->PL w.length NS (Qs w P0 cs) A 1 true true x/\TX w x):=by
 have hw:=hm.hw.imp (Q':=Qc cs 1600) λt h=>h.mono i5;have hq:=Qc.qb cs 1600 hm.err;rw[dY];by_cases cg:x.kind=13
 ·rw[jQ7 cg];cases hx with
  |ti a b=>
   rename_i n m va nm tg e
   have he:(GT.mk 13 n m va nm tg [e]).elems[0]?=some e:=rfl;rw[he];simp only[jQa];have hje:J rs true true e<N:=by rw[bw]at hN;simp[Js]at hN;omega
   obtain⟨r,r1,r2⟩:=h2 e (by simp[GT.elems]) true true b hje false;rw[r1];cases r with
   |false=>exact⟨false,rfl,i6⟩
   |true=>
    have Hp:=r2 rfl;have XE:PL w.length NS (Qc cs 1600) A 0 true true e:=Hp.imp λt h=>h.2.1.mono i5;obtain⟨i,hi⟩:=fj hw hq XE;rw[hi];obtain⟨u,u1,u2,u3, -⟩:=fM hw hq XE;have VV:=dM (rs:=rs) (v:=true) (f:=true) (v':=false) (f':=false) i6 i6 e;have hfu:=dM (rs:=rs) (v:=true) (f:=false) (v':=false) (f':=false) i6 i6 u;obtain⟨c,hc⟩:=hm.id hk e u (XE.eS (jQ0 _) (λ_ h=>h) (jQ0 _) i6 i6) m9 (u2.eS (jQ0 _) (λ_ h=>h) (jQ0 _) i6 id) m9;rw[u1];simp only[jQa];rw[hc];exact⟨(!i)&&c,by cases i<;>cases c<;>rfl,λhb=>⟨.ti a Hp,λ_ y hy=>by simp[GT.elems]at hy;subst hy;rw[hi];simp at hb;rw[hb.1]⟩⟩
  |uni a=>rename_i kk _ _ _ _ _;simp[GT.kind]at cg;omega
  |al a=>rename_i kk _ _ _ _ _ _ _ _;simp[GT.kind]at cg;omega
  |one a=>rename_i kk _ _ _ _ _ _ _ _ _;simp[GT.kind]at cg;omega
  |_=>simp[GT.kind]at cg
 ·rw[jQ4 cg];have Lj:=pg hx (by have:=rT hx;omega);obtain⟨i,hi⟩:=fj hm.hw.plain hq.plain Lj.vf (v:=true) (f:=true);rw[hi];simp only[jQa];obtain⟨r,r1,r2⟩:=h1 true true Lj hN i;exact⟨r,r1,λh=>⟨(r2 h).eS (jQ0 _) (λ_ h=>h) i5 id id,λh=>absurd h cg⟩⟩
theorem xq(hm:MC NS A w rs cs N)(hk:N<=k){e:GT}(he:PL w.length NS P0 A 2 true true e)(hN:J rs true true e<N)(h1:MT NS P0 A w rs cs N k e)(h2:∀x∈e.elems,MT NS P0 A w rs cs N k x)(h3:∀x∈e.elems,∀y∈x.elems,MT NS P0 A w rs cs N k y)(g:Bool):
 ∃b,df w (k+2) e g=some b/\(b=true->PL w.length NS (Qs w P0 cs) A 2 true true e/\TE w e):=by
 have hw:=hm.hw.imp (Q':=Qc cs 1600) λt h=>h.mono i5;have hq:=Qc.qb cs 1600 hm.err;rw[df];by_cases cQ:e.kind=12
 ·rw[jQ4 (by simpa using cQ)];have hx:∀x∈e.elems,PL w.length NS P0 A 1 true true x/\J rs true true x<N:=by
   cases he with
   |un a b c d=>
    rename_i n m va nm tg l
    intro x hx;have hj:J rs true true x<=Js rs true true l:=jP hx;exact⟨d x hx,by rw[bw]at hN;simp at hN;omega⟩
   |uni a=>rename_i kk _ _ _ _ _;simp[GT.kind]at cQ;omega
   |al a=>rename_i kk _ _ _ _ _ _ _ _;simp[GT.kind]at cQ;omega
   |one a=>rename_i kk _ _ _ _ _ _ _ _ _;simp[GT.kind]at cQ;omega
   |_=>simp[GT.kind]at cQ
  have hT:∀x∈e.elems,∃b,dY w (k+1) x=some b/\(b=true->PL w.length NS (Qs w P0 cs) A 1 true true x/\TX w x):=λx uC=>
   sN hm hk (hx x uC).1 (hx x uC).2 (h2 x uC) (h3 x uC)
  let f:Nat->GT->Option (Option Bool):=λi x=>(po (po (bh (dY w (k+1) x)) (fy (bU w x) (po ((required w (k+1) x).map λr=>decide (r.length>0)) (gD w (k+1) x))))
   (anyM (λy=>bh (iR (k+1) w x y)) (e.elems.take i))).map λb=>if b then some false else none
  have O7:∀i x,f i x=some none->dY w (k+1) x=some true:=by
   intro i x h;obtain⟨b,hb,h⟩:=jQ6.1 h;cases b
   ·exact l4 (Lh (Lh hb).1).1
   ·simp at h
  have hS:∀x∈e.elems,dY w (k+1) x=some true->PL w.length NS (Qs w P0 cs) A 1 true true x/\TX w x:=λx uC h=>by
   obtain⟨b,b1,b2⟩:=hT x uC;rw[h]at b1;cases b1;exact b2 rfl
  obtain⟨r,hr⟩:=As (f:=f) (l:=e.elems) (i:=0) (λj x hxj Nl=>by
   have uC:=jQ8 hxj;obtain⟨b,hb⟩:∃b,(po (po (bh (dY w (k+1) x)) (fy (bU w x) (po ((required w (k+1) x).map λr=>decide (r.length>0)) (gD w (k+1) x))))
    (anyM (λy=>bh (iR (k+1) w x y)) (e.elems.take (0+j))))=some b:=by
    refine IA (IA (bc (by obtain⟨b,hb,_⟩:=hT x uC;exact⟨b,hb⟩)) λh=>?_) λh=>?_
    ·have Q7:=(hS x uC (l4 h)).1.imp (Q':=Qc cs 1600) λt h=>h.2.1.mono i5;refine Pb (l5 hw hq Q7) λhE=>rW ?_ (FI hw hq (k+1) Q7 (yZ hE) (by have:=(hx x uC).2;omega));obtain⟨r,hr,_⟩:=pr hw hq hm.len (k+1) Q7 (by have:=(hx x uC).2;omega);rw[hr];exact⟨_,rfl⟩
    ·have Q7:=(hS x uC (l4 (Lh h).1)).1.imp (Q':=Qc cs 1600) λt h=>h.2.1.mono i5;refine dW λy hy=>bc ?_;obtain⟨j',Sf,hyj⟩:=List.mem_take_iff_getElem.1 hy;have hym:y∈e.elems:=jQt hy;have hys:=(hS y hym (O7 _ y (Nl j' y m9 (by rw[<-hyj];simp)))).1.imp (Q':=Qc cs 1600) λt h=>h.2.1.mono i5;exact FH hm m9 Q7 hys (hx x uC).2 (hx y hym).2
   exact⟨_,by show(_:Option Bool).map _=_;rw[hb];rfl⟩)
  have Nn:rangeM f 0 e.elems=some r:=hr;show∃b,(rangeM f 0 e.elems).map _=some b/\_;rw[Nn];cases r with
  |some b=>
   refine⟨b,rfl,λhb=>?_⟩;subst hb;exact absurd Nn (iS λi a h=>by
    obtain⟨b,_,h⟩:=jQ6.1 h;cases b<;>simp at h)
  |none=>
   refine⟨g,rfl,λ_=>?_⟩;have eO:=jA Nn;have hd:∀x∈e.elems,PL w.length NS (Qs w P0 cs) A 1 true true x/\TX w x:=λx uC=>by
    obtain⟨j,hj⟩:=List.getElem?_of_mem uC;exact hS x uC (O7 _ x (eO j x hj))
   cases he with
   |un a b c d=>exact⟨.un a b c λx hx=>(hd x hx).1,λh=>by simp[GT.kind]at h,λ_ x hx=>(hd x hx).2⟩
   |uni a=>rename_i kk _ _ _ _ _;simp[GT.kind]at cQ;omega
   |al a=>rename_i kk _ _ _ _ _ _ _ _;simp[GT.kind]at cQ;omega
   |one a=>rename_i kk _ _ _ _ _ _ _ _ _;simp[GT.kind]at cQ;omega
   |_=>simp[GT.kind]at cQ
 ·rw[jQ7 (by simpa using cQ)];have he1:PL w.length NS P0 A 1 true true e:=M53
  obtain⟨b,b1,b2⟩:=sN hm hk he1 hN h1 h2;obtain⟨c,hc⟩:∃c,po (some g) (fy (bU w e) (bh (general w (k+1) e)))=some c:=
   rW ⟨g,rfl⟩ (qI (l5 hm.hw.plain hq.plain (he.vf (v':=true) (f':=true))) (bc (qJ hm.hw.plain hq.plain (k+1) (he.vf) m9)))
  rw[b1,hc];cases b with
  |false=>exact⟨false,rfl,i6⟩
  |true=>exact⟨c,rfl,λ_=>⟨(b2 rfl).1.eS (jQ0 _) (λ_ h=>h) i5 id id,(b2 rfl).2,λh=>absurd h cQ⟩⟩
theorem vg{l:List GT}(h:∀e∈l,MT NS P0 A w rs cs N k e)(hp:∀e∈l,PL w.length NS P0 A 0 v f e)(hN:∀e∈l,J rs true true e<N):
 ∃b,allMeant w (k+1) l=some b/\(b=true->∀e∈l,PL w.length NS (Qs w P0 cs) A 0 v f e):=by
 have hT:=λe (he:e∈l)=>h e he v f (hp e he) (hN e he) false;obtain⟨b,hb⟩:=bc (dW (p:=λt=>bh (gT w k t false)) (l:=l) λe he=>bc (by obtain⟨b,hb,_⟩:=hT e he;exact⟨b,hb⟩));refine⟨b,by rw[allMeant,hb],λe x hx=>?_⟩;subst e;have:=iE hb x hx;obtain⟨b,h1,h2⟩:=hT x hx;rw[this]at h1;cases h1;exact h2 rfl
theorem tF(hm:MC NS A w rs cs N)(hk:N<=k)(h:PL w.length NS P0 A 0 v f t)(bH:t.kind=10)(hN:J rs true true t<N)(h1:∀e∈t.elems,MT NS P0 A w rs cs N k e)(Q8:∀e∈t.elems,MT NS P0 A w rs cs N (k+1) e)(h2:∀e∈t.elems,∀x∈e.elems,MT NS P0 A w rs cs N k x)(h3:∀e∈t.elems,∀x∈e.elems,∀y∈x.elems,MT NS P0 A w rs cs N k y)(g:Bool):
 ∃b,fZ w (k+3) t g=some b/\(b=true->PL w.length NS (Qs w P0 cs) A 0 v f t):=by
 have hw:=hm.hw.imp (Q':=Qc cs 1600) λt h=>h.mono i5;have hq:=Qc.qb cs 1600 hm.err;obtain⟨e1,e2,e3,e4,e5,e6,e7⟩:=cu (rs:=rs) (cs:=cs) h bH;rw[fZ,e1];simp only[jQa];have hjt:∀e∈t.elems.drop t.m.toNat,J rs true true e<N:=λe he=>by
  have:=(cu (rs:=rs) (cs:=cs) (h.vf (v':=true) (f':=true)) bH).2.2.1 e he;omega
 have hjm:∀e∈t.elems.take t.m.toNat,J rs true true e<N:=λe he=>by
  have hj:=(cu (rs:=rs) (cs:=cs) (h.vf (v':=true) (f':=true)) bH).2.2.2.1 e he;have:J rs false true e=J rs true true e:=by
   have Ip:=hj.1;obtain⟨k',n,m,va,nm,tg,l⟩:=e;simp[GT.kind]at Ip;subst Ip;rw[bw,bw];simp
  omega
 have hE:∀e∈t.elems.drop t.m.toNat,∃b,df w (k+2) e g=some b/\(b=true->PL w.length NS (Qs w P0 cs) A 2 true true e/\TE w e):=λe he=>
  xq hm hk (e3 e he).1 (hjt e he) (h1 e (jR2 he)) (h2 e (jR2 he)) (h3 e (jR2 he)) g
 obtain⟨r,hr⟩:=pw (f:=λ(_:Nat) (e:GT)=>(df w (k+2) e g).map λ(b:Bool)=>if b then(none:Option Bool)else some false) (l:=t.elems.drop t.m.toNat) (i:=0) (λj e he=>by
  obtain⟨b,hb,_⟩:=hE e he;rw[hb];exact⟨_,rfl⟩)
 rw[hr];simp only[jQa];cases r with
 |some b=>
  exact M149
 |none=>
  have ad0:∀e∈t.elems.drop t.m.toNat,PL w.length NS (Qs w P0 cs) A 2 true true e/\TE w e:=λe he=>by
   obtain⟨j,hj⟩:=List.getElem?_of_mem he;have:=jA hr j e hj;obtain⟨b,hb,cX⟩:=hE e he;rw[hb]at this;cases b
   ·simp at this
   ·exact cX rfl
  have lT:∀e∈t.elems.drop t.m.toNat,PL w.length NS (Qs w P0 cs) A 2 true true e:=λe he=>(ad0 e he).1;simp only;rw[e2];simp only[jQa];obtain⟨b,b1,b2⟩:=vg (k:=k+1) (l:=t.elems.take t.m.toNat) (v:=false) (f:=f) (λe he=>Q8 e (jQt he)) (λe he=>(e4 e he).2.2.2.1) hjm;rw[b1];cases b with
  |false=>exact⟨false,rfl,i6⟩
  |true=>
   have Q9:=b2 rfl;have Lk:∀c,bP (cs++c) t<=1600:=by
    intro c;have hd:cN (cs++c) 0 (t.elems.drop t.m.toNat)<=(t.elems.drop t.m.toNat).length*400:=FJ λe he=>abd (B:=50) i5 hm.hw c ((lT e he).imp λ_ h=>h.2.1);have ht:bP (cs++c) t=cN (cs++c) 0 (t.elems.drop t.m.toNat):=by
     rw[<-ku];obtain⟨k',n,m,va,nm,tg,l⟩:=t;simp[GT.kind]at bH;subst bH;rw[bP];simp[GT.m,GT.elems]
    have hlen:(t.elems.drop t.m.toNat).length<=4:=by
     cases h with
     |ifc a b c' d e g _ _ q=>simp[GT.elems,GT.m];omega
     |uni a=>rename_i kk _ _ _ _ _;simp[GT.kind]at bH;omega
     |al a=>rename_i kk _ _ _ _ _ _ _ _;simp[GT.kind]at bH;omega
     |one a=>rename_i kk _ _ _ _ _ _ _ _ _;simp[GT.kind]at bH;omega
     |_=>simp[GT.kind]at bH
    rw[ht];omega
   have htc:PL w.length NS (Qc cs 1600) A 0 v f t:=by
    cases h with
    |ifc a b c' d e g _ _ q=>exact .ifc a b c' d e g (λx hx=>(Q9 x hx).imp λ_ h=>h.2.1.mono i5) (λx hx=>(lT x hx).imp λ_ h=>h.2.1.mono i5) (λ_=>Lk)
    |uni a=>rename_i kk _ _ _ _ _;simp[GT.kind]at bH;omega
    |al a=>rename_i kk _ _ _ _ _ _ _ _;simp[GT.kind]at bH;omega
    |one a=>rename_i kk _ _ _ _ _ _ _ _ _;simp[GT.kind]at bH;omega
    |_=>simp[GT.kind]at bH
   have hJ:J rs v f t<=J rs true true t:=dM i6 i6 t;obtain⟨l,l1,l2,_⟩:=jU hw hq hm.len htc bH (k:=k+2) m9;obtain⟨n,n1,n2,n3⟩:=IB hw hq htc bH (k:=k+2) m9;have hag:∃b,agree (k+2) w t=some b:=by
    unfold agree;rw[l1,e1];simp only[jQa];refine bc (dW λe he=>?_);have XE:=(lT e he).imp (Q':=Qc cs 1600) λ_ h=>h.2.1.mono i5;refine qI (l5 hw hq XE) ?_;obtain⟨r,r1,r2,_⟩:=pr hw hq hm.len (k+2) XE (by have:=hjt e he;omega);rw[r1];simp only[jQa];refine bc (tG λa ha b hb=>?_);obtain⟨_,_,_,p4,p5⟩:=l2 a ha;obtain⟨_,_,_,q4,q5⟩:=r2 b hb;exact hm.id m9 a b p4 m9 q4 (by have:=hjt e he;omega)
   obtain⟨a,ha⟩:=hag;rw[ha,n1];refine⟨a&&decide (n<=50),by cases a<;>rfl,λhb=>?_⟩;have hn:n<=50:=by simp at hb;exact hb.2
   have hcn:bP cs t<=50:=by have:=n3 hn;omega
   cases h with
   |ifc a b c' d e g _ _ q=>exact .ifc a b c' d e g Q9 lT ⟨q,λ_ c=>by rw[FK c hm.hw.cl htc];exact hcn,λ_ e he=>(ad0 e he).2⟩
   |uni a=>rename_i kk _ _ _ _ _;simp[GT.kind]at bH;omega
   |al a=>rename_i kk _ _ _ _ _ _ _ _;simp[GT.kind]at bH;omega
   |one a=>rename_i kk _ _ _ _ _ _ _ _ _;simp[GT.kind]at bH;omega
   |_=>simp[GT.kind]at bH
theorem PL.ad1(h:PL nw NS Q A md v f t)(hk:t.kind≠10)(h0:md=0)(h5:t.kind=5->Q' t)(he:∀e∈t.elems,∀v f,PL nw NS Q A 0 v f e->PL nw NS Q' A 0 v f e):PL nw NS Q' A md v f t:=by
 cases h with
 |basic a b=>exact .basic a b
 |uni a=>exact .uni a
 |named a b c=>exact .named a b c
 |al a b c=>exact .al a b (he _ (by simp[GT.elems]) _ _ c)
 |st a b c=>exact .st (h5 rfl) b (λe hx=>he e hx _ _ (c e hx))
 |ifc=>simp[GT.kind]at hk
 |one a b c d=>exact .one a b c (he _ (by simp[GT.elems]) _ _ d)
 |mp a b=>exact .mp (he _ (by simp[GT.elems]) _ _ a) (he _ (by simp[GT.elems]) _ _ b)
 |fn a b c d=>exact .fn a b c (λe hx=>he e hx _ _ (d e hx))
 |ti a b=>omega
 |un a b c d=>omega
theorem Pd(h:PL nw NS Q A 0 v f t)(hk:t.kind≠10):∃v',∀e∈t.elems,PL nw NS Q A 0 v' f e:=by
 cases h with
 |basic a b=>exact⟨true,by intro e he;simp[GT.elems]at he⟩
 |uni a=>exact⟨true,by intro e he;simp[GT.elems]at he⟩
 |named a b c=>exact⟨true,by intro e he;simp[GT.elems]at he⟩
 |al a b c=>exact⟨v,by intro e he;simp[GT.elems]at he;subst he;exact c⟩
 |st a b c=>exact⟨v,c⟩
 |ifc=>simp[GT.kind]at hk
 |one a b c d=>exact⟨false,by intro e he;simp[GT.elems]at he;subst he;exact d⟩
 |mp a b=>exact⟨false,by
  intro e he;simp[GT.elems]at he;obtain rfl|rfl:=he
  ·exact a
  ·exact b⟩
 |fn a b c d=>exact⟨false,d⟩
 |ti a b=>exact absurd a i5
 |un a b c d=>exact absurd a i5
theorem XF(h:PL nw NS Q A 0 v f t)(hk:t.kind≠10):∀e∈t.elems,J rs true true e<J rs true true t:=by
 have hv:∀e,J rs false true e=J rs true true e->J rs true true e=J rs false true e:=λ_ h=>h.symm;have hft:∀e:GT,J rs true true e<=J rs false true e:=by
  intro e;exact adZ rs e
 cases h with
 |basic a b=>intro e he;simp[GT.elems]at he
 |uni a=>intro e he;simp[GT.elems]at he
 |named a b c=>intro e he;simp[GT.elems]at he
 |al a b c=>intro e he;simp[GT.elems]at he;subst he;rw[bw (l:=[e])];rcases a with rfl|rfl<;>simp[Js]
 |st a b c=>
  rename_i n m va nm tg l
  intro e he;have hm:J rs true true e<=Js rs true true l:=jP he;rw[bw (l:=l)];simp;omega
 |ifc=>simp[GT.kind]at hk
 |one a b c d=>intro e he;simp[GT.elems]at he;subst he;have:=hft e;rw[bw (l:=[e])];rcases a with rfl|rfl|rfl<;>simp[Js]<;>omega
 |mp a b=>
  rename_i n m va nm tg x y
  intro e he;have hm:J rs false true e<=Js rs false true [x,y]:=jP he;have:=hft e;rw[bw (l:=[x,y])];simp;omega
 |fn a b c d=>
  rename_i n m va nm tg l
  intro e he;have hm:J rs false true e<=Js rs false true l:=jP he;have:=hft e;rw[bw (l:=l)];simp;omega
 |ti a b=>exact absurd a i5
 |un a b c d=>exact absurd a i5
theorem xr(hm:MC NS A w rs cs N):∀(n:Nat) (t:GT),dp t<=n->∀k,N+8*n<=k->MT NS P0 A w rs cs N k t:=by
 intro n
 induction n with
 |zero=>intro t h;have:=Sv t;omega
 |succ n ih=>
  intro t hd k hk v f h hN g;obtain⟨k,rfl⟩:∃j,k=j+4:=⟨k - 4,m9⟩;rw[gT];by_cases h2:t.kind=2
  ·rw[jQ7 h2];cases h with
   |al a b c=>
    rename_i kd n' m va nm tg e
    have hkd:kd=2:=h2;subst hkd;show∃r,(some e).bind _=some r/\_;simp only[jQa];obtain⟨r,r1,r2⟩:=ih e (by have:=gA (t:=.mk 2 n' m va nm tg [e]) (e:=e) (by simp[GT.elems]);omega) (k+3) m9 v f c (by rw[bw]at hN;simp[Js]at hN;omega) g;exact⟨r,r1,λh=>.al (.inl rfl) b (r2 h)⟩
   |uni a=>rename_i kk _ _ _ _ _;simp[GT.kind]at h2;omega
   |one a=>rename_i kk _ _ _ _ _ _ _ _ _;simp[GT.kind]at h2;omega
   |_=>simp[GT.kind]at h2
  ·rw[jQ4 h2];by_cases bH:t.kind=10
   ·rw[jQ7 bH];exact tF hm m9 h bH hN (λe he=>ih e (by have:=gA he;omega) k m9) (λe he=>ih e (by have:=gA he;omega) (k+1) m9)
     (λe he x hx=>ih x (by have:=gA he;have:=gA hx;omega) k m9) (λe he x hx y hy=>ih y (by have:=gA he;have:=gA hx;have:=gA hy;omega) k m9) g
   ·rw[jQ4 bH];obtain⟨c,hc⟩:∃c,po (some g) (bh (general w (k+3) t))=some c:=rW ⟨g,rfl⟩ (bc (qJ hm.hw.plain (Qc.qb cs 50 hm.err).plain (k+3) (h.vf (v':=true) (f':=true)) m9));rw[hc];cases c with
    |false=>exact⟨false,rfl,i6⟩
    |true=>
     obtain⟨v',zw⟩:=Pd h bH;have hT:∀e∈t.elems,MT NS P0 A w rs cs N (k+2) e:=λe he=>ih e (by have:=gA he;omega) (k+2) m9;have hJe:=XF (rs:=rs) h bH;obtain⟨b,b1,b2⟩:=vg hT zw (λe he=>by have:=hJe e he;omega);show∃r,allMeant w (k+3) t.elems=some r/\_;rw[b1];refine⟨b,rfl,λhb=>?_⟩;subst hb;have eO:=iE (p:=λt=>gT w (k+2) t false) (l:=t.elems) (by rw[allMeant]at b1;exact b1);refine h.ad1 bH rfl (λh5=>⟨?_,λh=>absurd h bH,λh=>absurd h bH⟩) (λe he v1 f1 hp=>?_)
     ·cases h with
      |st a _ _=>exact a
      |uni a=>rename_i kk _ _ _ _ _;simp[GT.kind]at h5;omega
      |al a=>rename_i kk _ _ _ _ _ _ _ _;simp[GT.kind]at h5;omega
      |one a=>rename_i kk _ _ _ _ _ _ _ _ _;simp[GT.kind]at h5;omega
      |_=>simp[GT.kind]at h5
     ·obtain⟨r,r1,r2⟩:=hT e he v1 f1 hp (by have:=hJe e he;omega) false;rw[eO e he]at r1;cases r1;exact r2 rfl
end S
end Go.Proofs.YtabjfnkfocnklaaGreatDoor
