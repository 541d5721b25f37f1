import Derived.Test.YtbdgppghkdibfaaGreatDoorA00
set_option linter.all false
set_option maxHeartbeats 16000000
set_option maxRecDepth 20000
namespace Go.Proofs.YtbdgppghkdibfaaGreatDoor
open S
variable{f f' g g' v:Bool}{t u x y:Y}{P0 Q Q':Y->Prop}{NS:List ByteArray}{cs r rs:List Nat}{w:List ah}{B B' N c hp k md md' n nw:Nat}{A:Qx}{a b:Option Bool}{GT:Prop}{α:Type}
def jQ1:type_of% @Option.bind_eq_some_iff:=@Option.bind_eq_some_iff
def jQ6:type_of% @Option.map_eq_some_iff:=@Option.map_eq_some_iff
def jQb:type_of% @Nat.lt_of_lt_of_le:=@Nat.lt_of_lt_of_le
def jQo:type_of% @List.length_append:=@List.length_append
def jQq:type_of% @List.getElem?_append_left:=@List.getElem?_append_left
def jQr:type_of% @List.getElem?_append_right:=@List.getElem?_append_right
def jQt:type_of% @List.mem_of_mem_take:=@List.mem_of_mem_take
def jQx:type_of% @List.getElem?_eq_none:=@List.getElem?_eq_none
def jR2:type_of% @List.mem_of_mem_drop:=@List.mem_of_mem_drop
def M151(h:GT:=by
 refine⟨b,rfl,λhb=>?_⟩;subst hb;exact absurd hr (iS λi a h=>by
  obtain⟨b,_,h⟩:=jQ6.1 h;cases b<;>simp at h)):GT:=h
def M152(h:GT:=by
 simpa using this):GT:=h
def M199(h:GT:=by
 exact⟨_,rfl,.inl ⟨rfl,by simp only;omega,λ_=>by simp only;omega⟩⟩):GT:=h
def M211(h:GT:=by
 obtain⟨k',n,m,va,nm,tg,l⟩:=u;simp[Y.ld]at ir;subst ir;simp[bP]):GT:=h
def M214(h:GT:=by
 cases a with
 |none=>simp[bh]at h
 |some b=>cases b<;>simp[bh]at h⊢):GT:=h
def M55(h:GT:=by
 by_cases cg:e.ld=13
 .cases he with
  |ti a b=>exact .ti i5 b
  |uni a=>rename_i kk _ _ _ _ _;simp[Y.ld]at cg;omega
  |al a=>rename_i kk _ _ _ _ _ _ _ _;simp[Y.ld]at cg;omega
  |one a=>rename_i kk _ _ _ _ _ _ _ _ _;simp[Y.ld]at cg;omega
  |_=>simp[Y.ld]at cg
 .exact(pg he M).eS (jQ0 _) (λ_ h=>h) i5 id id):GT:=h
def M73(h:GT:=by
 intro e;cases H with
 |un a _ _ _=>exact absurd a i5
 |uni a=>rename_i kk _ _ _ _ _;simp[Y.ld]at e;omega
 |al a=>rename_i kk _ _ _ _ _ _ _ _;simp[Y.ld]at e;omega
 |one a=>rename_i kk _ _ _ _ _ _ _ _ _;simp[Y.ld]at e;omega
 |_=>simp[Y.ld]at e):GT:=h
def M92(h:GT:=by
 exact⟨false,rfl,i6⟩):GT:=h
namespace S
def lf{l:List Nat}(h:n<l.length):(l++r).getD n 0=l.getD n 0:=by simp[List.getD,jQq h]
def mu{rs rs':List Nat}{v f:Bool}:∀{l:List Y},(∀e∈l,J rs' v f e=J rs v f e)->Js rs' v f l=Js rs v f l
 |[],_=>rfl
 |a::l,h=>by rw[Js,Js,h a i6,mu (l:=l) λe he=>h e (by simp[he])]
def vr{rs rs':List Nat}{f:Bool}:∀{m:Nat} {l:List Y},(∀e∈l.take m,J rs' false f e=J rs false f e)->(∀e∈l.drop m,J rs' true true e=J rs true true e)->Ji rs' f m l=Ji rs f m l
 |_,[],_,_=>by simp[Ji]
 |0,a::l,_,h=>by rw[Ji,Ji,h a i6,vr (m:=0) (l:=l) i6 λe he=>h e (by simp at he⊢;exact .inr he)]
 |m+1,a::l,I,h=>by rw[Ji,Ji,I a i6,vr (m:=m) (l:=l) (λe he=>I e (by simp[he])) λe he=>h e (G9 he)]
def nD(r:List Nat)(hr:rs.length=nw)(h:PL nw NS Q A md v f t):∀v' f',J (rs++r) v' f' t=J rs v' f' t:=by
 induction h with
 |named a b c=>intro v' f';rw[bw,bw];simp only[if_true];rw[lf M]
 |basic a b=>intro v' f';rw[bw,bw];simp[Js]
 |uni a=>intro v' f';rw[bw,bw];simp[a];rcases a with rfl|rfl|rfl<;>simp
 |al a b _ ih=>intro v' f';rw[bw,bw];rcases a with rfl|rfl<;>simp[Js,ih]
 |st a b _ ih=>intro v' f';rw[bw,bw];simp;exact mu λe he=>ih e he _ _
 |ifc a b c d e g _ _ q zg vq=>intro v' f';rw[bw,bw];simp;exact vr (λe he=>zg e he _ _) (λe he=>vq e he _ _)
 |one a b c _ ih=>intro v' f';rw[bw,bw];rcases a with rfl|rfl|rfl<;>simp[Js,ih]
 |mp _ _ zg vq=>intro v' f';rw[bw,bw];simp[Js,zg,vq]
 |fn a b c _ ih=>intro v' f';rw[bw,bw];simp;exact mu λe he=>ih e he _ _
 |ti a _ ih=>intro v' f';rw[bw,bw];simp[Js,ih]
 |un a b c _ ih=>intro v' f';rw[bw,bw];simp;exact mu λe he=>ih e he _ _
def kH{cs Ek:List Nat}:∀{m:Nat} {l:List Y},(∀e∈l.drop m,bP Ek e=bP cs e)->cN Ek m l=cN cs m l
 |m,[],_=>by simp[SN]
 |0,a::l,h=>by rw[cN,cN,h a i6,kH (m:=0) (l:=l) λe he=>h e (by simp at he⊢;exact .inr he)]
 |m+1,a::l,h=>by rw[cN,cN,kH (m:=m) (l:=l) λe he=>h e (G9 he)]
def FK(c:List Nat)(hc:cs.length=nw)(h:PL nw NS Q A md v f t):bP (cs++c) t=bP cs t:=by
 induction h with
 |named a b d=>rw[bP,bP];simp only[if_true];rw[lf M]
 |basic a b=>rw[bP,bP];simp
 |uni a=>rw[bP,bP];rcases a with rfl|rfl|rfl<;>simp
 |al a b _ ih=>rw[bP,bP];rcases a with rfl|rfl<;>simp[SQ,ih]
 |st a b _ ih=>rw[bP,bP];simp
 |ifc a b c d e g _ _ q zg vq=>rw[bP,bP];simp;exact kH λe he=>vq e he
 |one a b c _ ih=>rw[bP,bP];rcases a with rfl|rfl|rfl<;>simp
 |mp _ _ zg vq=>rw[bP,bP];simp
 |fn a b c _ ih=>rw[bP,bP];simp
 |ti a _ ih=>rw[bP,bP];simp
 |un a b c _ ih=>rw[bP,bP];simp;exact kH λe he=>ih e (G9 he)
def E8(l)(hn:w.length=nw)(h:PL nw NS Q A md v f t):gt (w++l) t=gt w t:=by
 obtain⟨b,I,U, -⟩:=fc (Q:=λ_=>True) trivial [] [] (h.vf (v':=true) (f':=false));unfold gt;rw[I];simp only[jQa];by_cases dA:b.ld=11
 .rw[jQ7 dA,jQ7 dA];cases U with
  |named a1 a2 a3=>
   rename_i n m va nm tg
   have iK:(Y.mk 11 n m va nm tg []).n=n:=rfl;simp only[iK];rw[jQq M]
  |uni h=>rename_i k _ _ _ _ _;simp[Y.ld]at dA;omega
  |al h=>rename_i k _ _ _ _ _ _ _ _;simp[Y.ld]at dA;omega
  |one h=>rename_i k _ _ _ _ _ _ _ _ _;simp[Y.ld]at dA;omega
  |_=>simp[Y.ld]at dA
 .rw[jQ4 dA,jQ4 dA]
def mN.snoc(hw:mN NS Q A w rs cs){d:ah}{r:Nat}(hu:PL w.length NS Q A 0 true false d.gt)(hk:KD d.gt)(hr:J rs true false d.gt<=r)(hm:∀m∈d.lw,PL w.length NS Q A 0 false false m.sig/\J rs false false m.sig<=r)(gP:d.lw.length<=1099511627776):
 mN NS Q (λn=>A n\/n=w.length) (w++[d]) (rs++[r]) (cs++[bP cs d.gt]):=by
 have QM:∀{n:Nat} {d':ah},(w++[d])[n]?=some d'->(w[n]?=some d'/\n<w.length)\/(n=w.length/\d'=d):=by
  intro n d' h;by_cases hn:n<w.length
  .rw[jQq hn]at h;exact .inl ⟨h,hn⟩
  .rw[jQr M]at h;have:n - w.length=0:=by
    by_cases h0:n - w.length=0
    .exact h0
    .rw[jQx (by simp;omega)]at h;cases h
   rw[this]at h;simp at h;exact .inr ⟨M,h.symm⟩
 have hge:∀{n:Nat},n<w.length->(rs++[r]).getD n 0=rs.getD n 0:=λhn=>lf (by rw[hw.rl];omega);have hgc:∀{n:Nat},n<w.length->(cs++[bP cs d.gt]).getD n 0=cs.getD n 0:=λhn=>lf (by rw[hw.cl];omega);have lX:(rs++[r]).getD w.length 0=r:=by rw[<-hw.rl];simp
 have ain:(cs++[bP cs d.gt]).getD w.length 0=bP cs d.gt:=by rw[<-hw.cl];simp
 have hle:w.length<=(w++[d]).length:=i6
 refine⟨by simp[hw.rl],by simp[hw.cl],?_,?_,?_,?_,?_,?_⟩
 .intro n d' h;rcases QM h with⟨h,_⟩|⟨_,rfl⟩
  .obtain⟨I,U⟩:=hw.dec n d' h;exact⟨I.eS hle (λ_ h=>h) (jQ0 _) id id,λm j9=>(U m j9).eS hle (λ_ h=>h) (jQ0 _) id id⟩
  .exact⟨(hu.vf).eS hle (λ_ h=>h) (jQ0 _) id id,λm j9=>((hm m j9).1.vf).eS hle (λ_ h=>h) (jQ0 _) id id⟩
 .intro n d' h;rcases QM h with⟨h,_⟩|⟨_,rfl⟩
  .exact hw.kd n d' h
  .exact hk
 .intro n d' h;rcases QM h with⟨h,hn⟩|⟨rfl,rfl⟩
  .obtain⟨I,U⟩:=hw.dec n d' h;obtain⟨h3,h4⟩:=hw.rk n d' h;rw[hge hn,nD _ hw.rl I];exact⟨h3,λm j9=>by rw[nD _ hw.rl (U m j9)];exact h4 m j9⟩
  .rw[lX,nD _ hw.rl hu];exact⟨hr,λm j9=>by rw[nD _ hw.rl (hm m j9).1];exact(hm m j9).2⟩
 .intro n d' h;rcases QM h with⟨h,hn⟩|⟨rfl,rfl⟩
  .rw[hgc hn,FK _ hw.cl (hw.dec n d' h).1];exact hw.ct n d' h
  .rw[ain,FK _ hw.cl hu]
 .intro n d' h;rcases QM h with⟨h,_⟩|⟨_,rfl⟩
  .exact hw.ml n d' h
  .exact gP
 .intro n d' hA h;rcases QM h with⟨h,hn⟩|⟨_,rfl⟩
  .obtain⟨I,U⟩:=hw.ok n d' (hA.resolve_right M) h;exact⟨I.eS hle (λ_ h=>.inl h) (jQ0 _) id id,λm j9=>(U m j9).eS hle (λ_ h=>.inl h) (jQ0 _) id id⟩
  .exact⟨hu.eS hle (λ_ h=>.inl h) (jQ0 _) id id,λm j9=>(hm m j9).1.eS hle (λ_ h=>.inl h) (jQ0 _) id id⟩
def XOK.snoc(hw:mN NS Q A w rs cs)(hq:QB NS Q)(H:XOK NS Q A w rs N x)(d)(r:Nat):XOK NS Q (λn=>A n\/n=w.length) (w++[d]) (rs++[r]) N x:=by
 refine⟨H.pl.eS i6 (λ_ h=>.inl h) (jQ0 _) id id,by rw[nD _ hw.rl H.pl];exact H.r,by rw[nD _ hw.rl H.pl];exact H.rf,λux h=>?_⟩;rw[E8 _ rfl H.pl]at h;obtain⟨u,I,U,_⟩:=JB hw hq H.pl;rw[I]at h;cases h;rw[nD _ hw.rl U];exact H.un _ I
def SI(NS:List ByteArray)(Q:Y->Prop)(A:Qx)(w:List ah)(rs cs:List Nat)(N hp:Nat)(s:List ah×List Y):Prop:=
 ∃l r c A',s.1=w++l/\mN NS Q A' s.1 (rs++r) (cs++c)/\Li s.1/\(∀n,A n->A' n)/\(∀x∈s.2,XOK NS Q A' s.1 (rs++r) N x)/\l.length=hp
def SI.add(h0:mN NS Q A w rs cs)(hq:QB NS Q){s:List ah×List Y}(h:SI NS Q A w rs cs N hp s)(hN:2<=N){ms:List aH}(jK:∀m∈ms,m.sig.ld=7/\PL w.length NS Q A 0 false false m.sig/\J rs false false m.sig<N)(gP:ms.length<=1099511627776)(hu:PL w.length NS Q A 0 true false u)(hk:KD u)(hr:J rs true false u<N):SI NS Q A w rs cs N (hp+1) (ew ms s u):=by
 obtain⟨l,r,c,A',e,hw,hs,hA,H,hj⟩:=h;have hle:w.length<=s.1.length:=by rw[e];simp
 have hJ:∀{md v f t v' f'},PL w.length NS Q A md v f t->J (rs++r) v' f' t=J rs v' f' t:=λh=>nD _ h0.rl h _ _
 let d:ah:={gt:=u,lw:=if eM u then ms else[]}
 have R3:∀m∈d.lw,m∈ms:=by intro m hm;by_cases hb:eM u=true<;>simp[d,hb]at hm;exact hm
 have oW:=hw.snoc (d:=d) (r:=N - 1) (hu.eS hle hA (jQ0 _) id id) hk (by show J (rs++r) true false u<=N - 1;rw[hJ hu];omega)
  (λm hm=>⟨(jK m (R3 m hm)).2.1.eS hle hA (jQ0 _) id id,by rw[hJ (jK m (R3 m hm)).2.1];have:=(jK m (R3 m hm)).2.2;omega⟩) (by by_cases hb:eM u=true<;>simp[d,hb];omega)
 refine⟨l++[d],r++[N - 1],c++[bP (cs++c) u],_,by show s.1++[d]=_;rw[e];simp,by rw[<-List.append_assoc,<-List.append_assoc];exact oW,?_,λn h=>Or.inl (hA n h),?_,by simp[hj]⟩
 .intro n d' hd m hm;have nY:(s.1++[d])[n]?=some d':=hd;by_cases hn:n<s.1.length
  .rw[jQq hn]at nY;exact hs n d' nY m hm
  .rw[jQr M]at nY;cases xu:n - s.1.length with
   |zero=>rw[xu]at nY;simp at nY;subst nY;exact(jK m (R3 m hm)).1
   |succ i=>rw[xu]at nY;simp at nY
 .intro x uC;rw[<-List.append_assoc];have aio:x∈s.2++[.mk 11 s.1.length 0 false es es []]:=uC;rcases jQm.1 aio with h|h
  .exact(H x h).snoc hw hq d (N - 1)
  .simp at h;subst h;have hg:((rs++r)++[N - 1]).getD s.1.length 0=N - 1:=by rw[<-hw.rl];simp
   refine⟨.named M (by show(s.1.length:Int)<((s.1++[d]).length:Nat);simp;omega) (λ_=>.inr i6),?_,?_,λux h=>?_⟩
   .rw[bw];simp only[if_true];simp only[Int.toNat_natCast];rw[hg];simp;omega
   .rw[bw];simp;omega
   .have:gt (s.1++[d]) (.mk 11 s.1.length 0 false es es [])=some u:=by
     simp[gt,fo,Y.ld,Y.n,d]
    have h':gt (s.1++[d]) (.mk 11 s.1.length 0 false es es [])=some ux:=h;rw[this]at h';cases h';rw[nD _ (by rw[jQo];have:=hw.rl;simp at this;exact this) (hu.eS hle hA (jQ0 _) id id),hJ hu];have:=dM (rs:=rs) (v:=true) (v':=false) (f:=false) (f':=false) i6 id u;omega
def Kb(hw:mN NS Q A w rs cs)(hq:QB NS Q)(dJ:Li w)(hl:NS.length<=1099511627776)(hN:6<=N)(hk:N<=k)(hB:w.length+4*B+4<=1099511627776){v:Y}(hv:PL w.length NS Q A md f g v)(acS:v.ld=10)(hvN:J rs f g v<=N)(hvc:bP cs v<=B)(ht:PL w.length NS Q A md' f' g' t)(vK:t.ld=10)(htN:J rs f' g' t<=N)(htc:bP cs t<=B):
 ∃s hp,samples k w v t=some s/\SI NS Q A w rs cs N hp s/\hp<=2*B+2:=by
 obtain⟨ms,m1,m2,_⟩:=jU hw hq hl hv acS (k:=k) M;obtain⟨a,a1,a2,a3⟩:=Em hw hq hv acS (k:=k) M M;obtain⟨b,b1,b2,b3⟩:=Em hw hq ht vK (k:=k) M M;obtain⟨bv,c1,_,_,_,_,_,c7,_⟩:=fc hq.any rs cs hv;have hb:=c7 M M;subst hb;rw[samples,c1];simp only[jQa];rw[jQ4 M,m1,a1,b1];simp only[jQa];rw[FY (by simp;omega)];simp only[jQa];have jK:∀m∈ms.map (λm=>({name:=m.name,ptr:=false,sig:=m}:aH)),m.sig.ld=7/\PL w.length NS Q A 0 false false m.sig/\J rs false false m.sig<N:=by
  intro m hm;obtain⟨x,H,rfl⟩:=jQu.1 hm;obtain⟨p1,_,_,p4,p5⟩:=m2 x H;exact⟨p1,p4,jQb p5 hvN⟩
 have gP:(ms.map (λm=>({name:=m.name,ptr:=false,sig:=m}:aH))).length<=1099511627776:=by
  obtain⟨r,I,U,h3⟩:=jU hw hq hl hv acS (k:=k) M;rw[m1]at I;cases I;have:=kE h3 (NS:=NS) (λx H=>by obtain⟨m,hm,rfl⟩:=jQu.1 H;exact(U m hm).2.1);simp at this⊢;omega
 have hT:∀x∈a++b,SM NS Q A w rs N x:=λx H=>by
  rcases jQm.1 H with h|h
  .exact(a3 x h).mono hvN
  .exact(b3 x h).mono htN
 generalize ms.map (λm=>({name:=m.name,ptr:=false,sig:=m}:aH))=lw at jK gP⊢;obtain⟨s,s1,hp,s2,s3,s4⟩:=xG (f:=λ(s:List ah×List Y) x=>(gt s.1 x).map λu=>ew lw (s.1,s.2++[x]) u) (l:=a++b) (s:=(w,[]))
  (λs l'=>∃hp,SI NS Q A w rs cs N hp s/\hp+l'.length<=(a++b).length/\s.2.length+2*l'.length<=2*(a++b).length)
  ⟨0,⟨[],[],[],A,i6,G9 hw,dJ,λ_ h=>h,i6,rfl⟩,i6,i6⟩ (λs x l' hs H=>by
   obtain⟨hp,hs,hj,hj2⟩:=hs;obtain⟨dt,dF⟩:=hT x H;obtain⟨l,r,c,A',e,rY,oC,hA,Q7,Sf⟩:=hs;obtain⟨u,u1,u2,u3,_,u5,u6,u7,u8,_,u10,u11⟩:=fM hw hq dt;have xT:¬(u.ld=12\/u.ld=13):=by intro h;have:=u11 h;subst this;exact lg dt h
   have hux:gt s.1 x=some u:=by rw[e,E8 l rfl dt];exact u1
   have hle:w.length<=s.1.length:=by rw[e];simp
   have hXx:XOK NS Q A' s.1 (rs++r) N x:=⟨dt.eS hle hA (jQ0 _) id id,by rw[nD _ hw.rl dt];omega,by rw[nD _ hw.rl dt];have:=dM (rs:=rs) (v:=true) (v':=false) (f:=true) (f':=false) i6 i6 x;omega,λux h=>by
    rw[hux]at h;cases h;rw[nD _ hw.rl u2];have:=dM (rs:=rs) (v:=true) (v':=false) (f:=false) (f':=false) i6 id u;omega⟩
   refine⟨_,by rw[hux];rfl,hp+1,?_,by simp at hj⊢;omega,by simp[ew]at hj2⊢;omega⟩;exact SI.add hw hq (s:=(s.1,s.2++[x])) ⟨l,r,c,A',e,rY,oC,hA,λy hy=>by
    rcases jQm.1 hy with h|h
    .exact Q7 y h
    .simp at h;subst h;exact hXx,Sf⟩ M jK gP u2 ⟨u5,u7,λh=>xT (.inl h),λh=>xT (.inr h),u6,u8⟩ M)
 rw[s1];simp only[jQa];have uB:∀n,PL w.length NS Q A 0 true false (alone n):=λn=>.st (hq.al n) i6 (λe he=>by
  simp at he;subst he;exact .al (.inr rfl) M (.basic i5 i5))
 have cF:∀n,J rs true false (alone n)=3/\J rs false false (alone n)=3:=λn=>by constructor<;>simp[alone,tk,bw,Js]
 have t1:=SI.add hw hq s2 M jK gP (uB s.1.length) ⟨by simp[alone,tk,Y.ld],by simp[alone,tk,Y.ld],by simp[alone,tk,Y.ld],by simp[alone,tk,Y.ld],by simp[alone,tk,Y.ld],by simp[alone,tk,Y.ld]⟩ (by rw[(cF _).1];omega);have pT:PL w.length NS Q A 0 true false (tk 4 [alone s.1.length]):=.one (.inl rfl) i5 i5 ((uB s.1.length).eS (jQ0 _) (λ_ h=>h) (jQ0 _) i6 id);have t2:=SI.add hw hq t1 M jK gP pT ⟨by simp[tk,Y.ld],by simp[tk,Y.ld],by simp[tk,Y.ld],by simp[tk,Y.ld],by simp[tk,Y.ld],by simp[tk,Y.ld]⟩ (by
  have:=(cF s.1.length).2;simp[tk,bw,Js]at this⊢;omega)
 have yB:s.1.length=w.length+hp:=by obtain⟨l,r,c,A',e,_,_,_,_,hj⟩:=s2;rw[e];simp[hj]
 simp at s3 s4;rw[jQ7 ⟨by simp[ew,yB];omega,by simp[ew];omega⟩];exact⟨_,_,rfl,t2,M⟩
def yR(hw:mN NS Q A w rs cs)(hq:QB NS Q)(h:PL w.length NS Q A md v f u)(kY:u.ld=10)(hk:J rs v f u<=k):∃b,general w k u=some b:=by
 obtain⟨k,rfl⟩:∃hp,k=hp+1:=⟨k - 1,V5 (oh rs v f u)⟩;obtain⟨b,b1,_,_,_,_,_,b7,_⟩:=fc hq.any rs cs h;have hb:=b7 M M;subst hb;have hu:gt w b=some b:=by rw[gt,b1];simp[kY]
 rw[general,hu];simp only[jQa];rw[jQ4 (by simp[kY])];obtain⟨e1,_,e3,_⟩:=cu (rs:=rs) (cs:=cs) h kY;rw[e1];simp only[jQa];refine dW λe he=>?_;obtain⟨p1,p2⟩:=e3 e he;split
 .exact M166
 .split
  .exact M166
  .exact rW (bc (fj hw hq p1)) (qJ hw hq k p1 M)
def ow(h:PL nw NS Q A 0 false false u)(hk:u.ld≠10):∀e∈u.li,PL nw NS Q A 0 false false e/\J rs false false e<J rs false false u:=by
 cases h with
 |basic a b=>intro e he;simp[Y.li]at he
 |uni a=>intro e he;simp[Y.li]at he
 |named a b c=>intro e he;simp[Y.li]at he
 |al a b c=>intro e he;simp[Y.li]at he;subst he;exact⟨c,by rw[bw (l:=[e])];rcases a with rfl|rfl<;>simp[Js]⟩
 |st a b c=>
  rename_i n m va nm tg l
  intro e he;have hm:J rs false false e<=Js rs false false l:=jP he;exact⟨c e he,by rw[bw (l:=l)];simp;omega⟩
 |ifc=>simp[Y.ld]at hk
 |one a b c d=>intro e he;simp[Y.li]at he;subst he;exact⟨d,by rw[bw (l:=[e])];rcases a with rfl|rfl|rfl<;>simp[Js]⟩
 |mp a b=>
  rename_i n m va nm tg x y
  intro e he;have hm:J rs false false e<=Js rs false false [x,y]:=jP he;refine⟨?_,by rw[bw (l:=[x,y])];simp;omega⟩;simp[Y.li]at he;obtain rfl|rfl:=he
  .exact a
  .exact b
 |fn a b c d=>
  rename_i n m va nm tg l
  intro e he;have hm:J rs false false e<=Js rs false false l:=jP he;exact⟨d e he,by rw[bw (l:=l)];simp;omega⟩
 |ti a b=>exact absurd a i5
 |un a b c d=>exact absurd a i5
def Pc(hq:QB NS Q)(hl:NS.length<=1099511627776):∀(N k:Nat),N<=k->∀(w:List ah) (rs cs:List Nat) (A:Qx),mN NS Q A w rs cs->Li w->
 (∀c t,t.ld=10->Q t->bP (cs++c) t<=B)->w.length+(N+1)*(4*B+4)<=1099511627776->IdT NS Q A w rs N (ident k w):=by
 intro N
 induction N with
 |zero=>intro k _ w rs cs A _ _ _ _ a b _ h;omega
 |succ N ih=>
  intro k hk w rs cs A hw dJ hQ hB x y H hxN hy hyN;obtain⟨k,rfl⟩:∃hp,k=hp+1:=⟨k - 1,M⟩;have hBN:(N+1+1)*(4*B+4)=(N+1)*(4*B+4)+(4*B+4):=by rw[Nat.add_mul (N+1) 1];omega
  have hid:=ih k M w rs cs A hw dJ hQ M;obtain⟨bx,x1,x2,x3, -, -, -, -,x4⟩:=fc hq.any rs cs H;obtain⟨bY,y1,y2,y3, -, -, -, -,y4⟩:=fc hq.any rs cs hy;rw[ident,x1,y1];simp only[jQa];by_cases ez:bx.ld=bY.ld
  .rw[jQ4 (G9 ez)];by_cases rP:bx.li.length≠bY.li.length/\bx.ld≠10
   .rw[jQ7 rP];exact⟨_,rfl⟩
   .rw[jQ4 rP];by_cases bH:bx.ld=10
    .rw[jQ7 bH];have Zv:bY.ld=10:=M
     unfold Gd;obtain⟨b,hb⟩:=qI (bc (yR hw hq x2 bH (k:=k) M)) (bc (yR hw hq y2 Zv (k:=k) M));rw[hb];simp only[jQa];cases b
     .have Y3:6<=J rs false false bx:=by
       obtain⟨k,n,m,va,nm,tg,l⟩:=bx;simp[Y.ld]at bH;subst bH;rw[bw];simp
      have Qj:∀{p q:Y},PL w.length NS Q A 0 false false p->p.ld=10->J rs false false p<=N->PL w.length NS Q A 0 false false q->q.ld=10->J rs false false q<=N->∃r,subset (ident k) k w p q=some r:=by
       intro p q p1 p2 p3 q1 q2 q3;have Y7:=hQ [] p p2 (cu (rs:=rs) (cs:=cs) p1 p2).2.2.2.2.2.1;have hcq:=hQ [] q q2 (cu (rs:=rs) (cs:=cs) q1 q2).2.2.2.2.2.1;rw[List.append_nil]at Y7 hcq;obtain⟨s,hp,s1,⟨l,r,c,A',e,rY,oC,hA,Q7,hj⟩,hj2⟩:=Kb hw hq dJ hl (N:=N) (k:=k) (B:=B) M M M p1 p2 p3 Y7 q1 q2 q3 hcq;unfold subset;rw[s1];simp only[jQa];have hle:w.length<=s.1.length:=by rw[e];simp
       have af1:=ih k M s.1 (rs++r) (cs++c) A' rY oC (λc' t I U=>by rw[List.append_assoc];exact hQ _ t I U) (by rw[e];simp;omega);refine bc (dW λz hz=>?_);have hX:=Q7 z hz;exact qI (Ub rY hq oC af1 (f:=k) M hX (p1.eS hle hA (jQ0 _) id id) p2 (by rw[nD _ hw.rl p1];exact p3) M) (bc (Ub rY hq oC af1 (f:=k) M hX (q1.eS hle hA (jQ0 _) id id) q2 (by rw[nD _ hw.rl q1];exact q3) M))
      exact qI (Qj x2 bH M y2 Zv M) (Qj y2 Zv M x2 bH M)
     .obtain⟨a,a1,a2,_⟩:=jU hw hq hl x2 bH (k:=k) M;obtain⟨b,b1,b2,_⟩:=jU hw hq hl y2 Zv (k:=k) M;simp only[if_true];rw[a1,b1];simp only[jQa];split
      .refine tG λf hf m hm=>?_;obtain⟨_,_,_,p4,p5⟩:=a2 f hf;obtain⟨_,_,_,q4,q5⟩:=b2 m hm;exact hid _ _ p4 M q4 M
      .exact M166
    .rw[jQ4 bH];split
     .exact M166
     .split
      .exact M166
      .split
       .exact M166
       .have hlen:bx.li.length=bY.li.length:=by
         by_cases h:bx.li.length=bY.li.length
         .exact h
         .exact absurd ⟨h,bH⟩ rP
        have Vs:=ow (rs:=rs) x2 bH;have hye:=ow (rs:=rs) y2 M;obtain⟨r,hr⟩:=pI (f:=λi e=>(bY.li[i]?).bind λe'=>(ident k w e e').map λb=>if b then none else some false) (l:=bx.li) (i:=0) (λhp a ha=>by
         have LZ:hp<bx.li.length:=by
          by_cases h:hp<bx.li.length
          .exact h
          .rw[jQx M]at ha;cases ha
         obtain⟨b,hb⟩:∃b,bY.li[0+hp]?=some b:=⟨bY.li[0+hp]' M,i6⟩;obtain⟨p1,p2⟩:=Vs a (jQ8 ha);obtain⟨q1,q2⟩:=hye b (jQ8 hb);obtain⟨c,hc⟩:=hid a b p1 M q1 M;simp only[hb,jQa,hc];exact⟨_,rfl⟩)
        rw[hr];exact⟨_,rfl⟩
  .rw[jQ7 (G9 ez)];exact⟨_,rfl⟩
end S
namespace S
mutual
def dp:Y->Nat
 |.mk _ _ _ _ _ _ l=>1+dps l
def dps:List Y->Nat
 |[]=>0
 |e::l=>max (dp e) (dps l)
end
def zS:∀{l:List Y} {e:Y},e∈l->dp e<=dps l
 |a::l,e,h=>by
  rw[dps];rcases jQn.1 h with rfl|h
  .exact jRs _ _
  .exact jQd (zS h) (jRg _ _)
def gA{e:Y}(h:e∈t.li):dp e<dp t:=by
 obtain⟨k,n,m,va,nm,tg,l⟩:=t;have:=zS (l:=l) h;rw[dp.eq_def (Y.mk k n m va nm tg l)];simp only;omega
def Sv(t):1<=dp t:=by obtain⟨k,n,m,va,nm,tg,l⟩:=t;rw[dp];omega
mutual
def ei:Y->List ByteArray
 |.mk _ _ _ _ nm _ l=>nm::fF l
def fF:List Y->List ByteArray
 |[]=>[]
 |e::l=>ei e++fF l
end
def xW:∀{l:List Y} {e:Y},e∈l->∀x∈ei e,x∈fF l
 |a::l,e,h,x,H=>by
  rw[fF];rcases jQn.1 h with rfl|h
  .exact jQm.2 (.inl H)
  .exact jQm.2 (.inr (xW h x H))
def jD{e:Y}(h:e∈t.li):∀x∈ei e,x∈ei t:=by
 obtain⟨k,n,m,va,nm,tg,l⟩:=t;intro x H;rw[ei];exact jQn.2 (.inr (xW h x H))
def EK(t):t.name∈ei t:=by obtain⟨k,n,m,va,nm,tg,l⟩:=t;rw[ei];simp[Y.name]
def tR{α:Type}{p:α->Option Bool}:∀{l:List α},anyM p l=some false->∀a∈l,p a=some false
 |[],_,a,h=>by simp at h
 |x::l,h,a,ha=>by
  rw[anyM]at h;obtain⟨b,hb,h⟩:=jQ1.1 h;cases b
  .rcases jQn.1 ha with rfl|ha
   .exact hb
   .exact tR (G9 h) a ha
  .simp at h
def Es(h:bh a=some true):a=some false:=M214
def l4(h:bh a=some false):a=some true:=M214
def iE{p:α->Option Bool}{l:List α}(h:bh (anyM (λa=>bh (p a)) l)=some true):∀a∈l,p a=some true:=
 λa ha=>l4 (tR (Es h) a ha)
def jA{α β:Type}{f:Nat->α->Option (Option β)}:∀{l:List α} {i:Nat},rangeM f i l=some none->∀hp a,l[hp]?=some a->f (i+hp) a=some none
 |[],i,_,hp,a,h=>by simp at h
 |x::l,i,h,hp,a,ha=>by
  rw[rangeM]at h;obtain⟨r,hr,h⟩:=jQ1.1 h;cases r with
  |some b=>simp at h
  |none=>
   cases hp with
   |zero=>simp at ha;subst ha;exact hr
   |succ hp=>rw[show i+(hp+1)=i+1+hp by omega];exact jA (G9 h) hp a (G9 ha)
def wv{α β:Type}{f g:Nat->α->Option (Option β)}:∀{l:List α} {i:Nat},(∀hp a,l[hp]?=some a->f (i+hp) a=g (i+hp) a)->rangeM f i l=rangeM g i l
 |[],_,_=>rfl
 |a::l,i,h=>by
  have h0:=h 0 a rfl;rw[Nat.add_zero]at h0;rw[rangeM,rangeM,h0];have:=wv (f:=f) (g:=g) (l:=l) (i:=i+1) λhp b hb=>by have:=h (hp+1) b (G9 hb);rwa[show i+1+hp=i+(hp+1)by omega]
  rw[this]
def iS{α:Type}{f:Nat->α->Option (Option Bool)}(h:∀i a,f i a≠some (some true)):∀{l:List α} {i:Nat},rangeM f i l≠some (some true)
 |[],_=>by simp[rangeM]
 |a::l,i=>by
  rw[rangeM];intro e;obtain⟨r,hr,e⟩:=jQ1.1 e;cases r with
  |some b=>simp at e;subst e;exact h i a hr
  |none=>exact iS h (l:=l) (i:=i+1) (G9 e)
def nR:∀(x y:List UInt8),Go.Op.bytesLess x y=decide (x<y)
 |[],[]=>by simp[Go.Op.bytesLess]
 |_::_,[]=>by simp[Go.Op.bytesLess]
 |[],_::_=>by simp[Go.Op.bytesLess]
 |a::x,b::y=>by
  rw[Go.Op.bytesLess,nR x y];simp only[List.cons_lt_cons_iff];by_cases I:a<b<;>by_cases U:a=b<;>by_cases h3:x<y<;>simp[I,U,h3]
def GF{a b c:Y}(h:bB a b=true)(h':bB b c=true):bB a c=true:=by
 unfold bB at*;rw[nR,decide_eq_true_eq]at*;exact List.lt_trans h h'
def Mk(a):bB a a=false:=by
 unfold bB;rw[nR,decide_eq_false_iff_not];exact List.lt_irrefl _
def yM:∀{l:List Y},(∀i a b,l[i]?=some a->l[i+1]?=some b->bB a b=true)->l.Pairwise λa b=>bB a b=true
 |[],_=>.nil
 |[a],_=>i6
 |a::b::l,h=>by
  have ih:=yM (l:=b::l) λi x y H hy=>h (i+1) x y (G9 H) (G9 hy);refine List.Pairwise.cons ?_ ih;intro x H;have Bh:=h 0 a b rfl rfl;rcases jQn.1 H with rfl|H
  .exact Bh
  .exact GF Bh ((List.pairwise_cons.1 ih).1 x H)
def DQ{l:List Y}(h:l.Pairwise λa b=>bB a b=true):(l.map (·.name)).Nodup:=by
 rw[List.Nodup,List.pairwise_map];refine h.imp ?_;intro a b Bh e;have:bB a b=bB b b:=by unfold bB;rw[e]
 rw[this,Mk]at Bh;cases Bh
def Q0(t:Y):Prop:=t.ld=5->∀e∈t.li,isName e.name=true
def SX(NS:List ByteArray)(w:List ah)(k:Nat)(t:Y):Prop:=∀p,∃b,placed w k t p=some b/\(b=true->PL w.length NS Q0 (λn=>(n:Int)<p.decls) 0 p.value p.term t)
def DR{l:List Y}(h:∀e∈l,SX NS w k e)(p:Place):
 ∃b,allPlaced w (k+1) l p=some b/\(b=true->∀e∈l,PL w.length NS Q0 (λn=>(n:Int)<p.decls) 0 p.value p.term e):=by
 obtain⟨b,hb⟩:=bc (dW (p:=λt=>bh (placed w k t p)) (l:=l) λe he=>bc (by obtain⟨b,hb,_⟩:=h e he p;exact⟨b,hb⟩));refine⟨b,by rw[allPlaced,hb],λe x H=>?_⟩;subst e;have:=iE hb x H;obtain⟨b,I,U⟩:=h x H p;rw[this]at I;cases I;exact U rfl
def JP:∀{l:List Y},(∀i f,l[i]?=some f->mD l i f=false)->(l.map (·.name)).Nodup:=by
 intro l h;rw[List.Nodup,List.pairwise_map,List.pairwise_iff_getElem];intro i hp hi hj hij e;have:=h hp l[hp] i6;unfold mD at this;simp only[List.any_eq_false]at this;exact this l[i] (List.mem_take_iff_getElem.2 ⟨i,M,rfl⟩) (by simp[aE,e])
def JQ(h:SX NS w k x)(h':∀e∈x.li,SX NS w k e)(d:Int):
 ∃b,placedTerm w (k+1) x {decls:=d,value:=true,term:=true}=some b/\(b=true->∀md,1<=md->PL w.length NS Q0 (λn=>(n:Int)<d) md true true x):=by
 rw[placedTerm];split
 .rename_i cg
  obtain⟨kd,n,m,va,nm,tg,l⟩:=x;simp[Y.ld]at cg;subst cg
  match l,h' with
  |[],_=>exact⟨false,rfl,i6⟩
  |[e],h'=>
   obtain⟨b,I,U⟩:=h' e (by simp[Y.li]) {decls:=d,value:=true,term:=true};exact⟨b,I,λhb md cq=>.ti M (U hb)⟩
  |_::_::_,_=>exact⟨false,rfl,i6⟩
 .obtain⟨b,I,U⟩:=h {decls:=d,value:=true,term:=true};exact⟨b,I,λhb md cq=>(U hb).eS (jQ0 _) (λ_ h=>h) (jQc _) id id⟩
def UB{e:Y}(h:∀k',k<=k'+1->SX NS w k' e)(h':∀k',k<=k'+1->∀x∈e.li,SX NS w k' x)(h'':∀k',k<=k'+1->∀x∈e.li,∀y∈x.li,SX NS w k' y)(hk:1<=k)(d:Int):
 ∃b,dz w (k+1) e {decls:=d,value:=true,term:=true}=some b/\(b=true->PL w.length NS Q0 (λn=>(n:Int)<d) 2 true true e):=by
 obtain⟨k,rfl⟩:∃hp,k=hp+1:=⟨k - 1,M⟩;rw[dz];split
 .obtain⟨b,I,U⟩:=JQ (h k M) (λx H=>h' k M x H) d;exact⟨b,I,λhb=>U hb 2 i5⟩
 .rename_i cQ
  split
  .rename_i hl
   have hT:=λx (H:x∈e.li)=>JQ (h' k M x H) (λy hy=>h'' k M x H y hy) d;obtain⟨b,hb⟩:=bc (dW (p:=λx=>bh (placedTerm w (k+1) x {decls:=d,value:=true,term:=true})) (l:=e.li) λx H=>bc (by obtain⟨b,hb,_⟩:=hT x H;exact⟨b,hb⟩));refine⟨b,hb,λe'=>?_⟩;subst e';obtain⟨kd,n,m,va,nm,tg,l⟩:=e;simp[Y.ld]at cQ;subst cQ;refine .un i5 hl.1 hl.2 λx H=>?_;have:=iE hb x H;obtain⟨b,I,U⟩:=hT x H;rw[this]at I;cases I;exact U rfl 1 i5
  .exact M92
def YZ:∀{l:List α},l.length=2->∃a b,l=[a,b]
 |[a,b],_=>⟨a,b,rfl⟩
 |[],h=>by simp at h
 |[_],h=>by simp at h
 |_::_::_::_,h=>by simp at h
def within_iff{n m:Int}:within n m=true↔0<=n/\n<m:=by simp[within]
def Y0(kY:t.ld=10)(hm:∀x∈t.li,SX NS w k x)(dU:∀x∈t.li,x.name∈NS)(he:∀d,∀e∈t.li,∃b,dz w k e {decls:=d,value:=true,term:=true}=some b/\(b=true->PL w.length NS Q0 (λn=>(n:Int)<d) 2 true true e))(p:Place)(v:Bool):
 ∃b,placedInterface w (k+1) t p=some b/\(b=true->PL w.length NS Q0 (λn=>(n:Int)<p.decls) 0 v p.term t):=by
 rw[placedInterface];simp only;split
 .exact M92
 .rename_i hw
  have rY:=within_iff.1 (G9 hw);split
  .exact M92
  .rename_i h4
   obtain⟨r,hr⟩:=pI (f:=λi (m:Y)=>if m.ld≠7 then some (some false)else if !isName m.name then some (some false)
    else if i>0/\!(bB ((t.li.take t.m.toNat).getD (i - 1) default) m)then some (some false)
    else(placed w k m {decls:=p.decls,value:=false,term:=p.term}).map λb=>if b then none else some false) (l:=t.li.take t.m.toNat) (i:=0) (λhp a ha=>by
    obtain⟨b,hb,_⟩:=hm a (jQt (jQ8 ha)) {decls:=p.decls,value:=false,term:=p.term};simp only[hb];split
    .exact M166
    .split
     .exact M166
     .split
      .exact M166
      .exact⟨_,rfl⟩)
   have Nn:rangeM (λi (m:Y)=>if m.ld≠7 then some (some false)else if !isName m.name then some (some false)
    else if i>0/\!(bB (t.li.getD (i - 1) default) m)then some (some false)
    else(placed w k m {decls:=p.decls,value:=false,term:=p.term}).map λb=>if b then none else some false) 0 (t.li.take t.m.toNat)=some r:=by
    rw[<-hr];refine wv λhp a ha=>?_;have hj:hp<(t.li.take t.m.toNat).length:=by
     by_cases h:hp<(t.li.take t.m.toNat).length
     .exact h
     .rw[jQx M]at ha;cases ha
    have hg:t.li.getD (0+hp - 1) default=(t.li.take t.m.toNat).getD (0+hp - 1) default:=by
     simp only[List.getD_eq_getElem?_getD];rw[List.getElem?_take_of_lt (by simp at hj;omega)]
    rw[hg]
   rw[Nn];simp only[jQa];cases r with
   |some b=>refine⟨b,rfl,λhb=>?_⟩;subst hb;exact absurd hr (iS λi a=>by
    intro h;split at h
    .simp at h
    .split at h
     .simp at h
     .split at h
      .simp at h
      .obtain⟨b,_,h⟩:=jQ6.1 h;cases b<;>simp at h)
   |none=>
    have eO:=jA hr;simp only;obtain⟨b,hb⟩:=bc (dW (p:=λe=>bh (dz w k e {decls:=p.decls,value:=true,term:=true})) (l:=t.li.drop t.m.toNat) λe H=>bc (by
     obtain⟨b,hb,_⟩:=he p.decls e (jR2 H);exact⟨b,hb⟩))
    refine⟨b,hb,λe=>?_⟩;subst e;have jd:∀hp a,(t.li.take t.m.toNat)[hp]?=some a->a.ld=7/\isName a.name=true/\(0<hp->bB ((t.li.take t.m.toNat).getD (hp - 1) default) a=true)/\placed w k a {decls:=p.decls,value:=false,term:=p.term}=some true:=by
     intro hp a ha;have h:=eO hp a ha;split at h
     .simp at h
     .rename_i g1
      split at h
      .simp at h
      .rename_i g2
       split at h
       .simp at h
       .rename_i g3
        obtain⟨b,hb,h⟩:=jQ6.1 h;refine⟨G9 g1,G9 g2,λhj=>?_,by cases b<;>simp at h;exact hb⟩;have:¬(0+hp>0/\(!bB ((t.li.take t.m.toNat).getD (0+hp - 1) default) a)=true):=g3;simp at this;simpa using this M
    have UC:(t.li.take t.m.toNat).Pairwise λa b=>bB a b=true:=yM λi a b ha hb=>by
     have:=(jd (i+1) b hb).2.2.1 M;simp only[List.getD_eq_getElem?_getD,Nat.add_sub_cancel,ha]at this;simpa using this
    have lT:=iE hb;obtain⟨kd,n,m,va,nm,tg,l⟩:=t;simp[Y.ld]at kY;subst kY;simp only[Y.m,Y.li]at rY h4 jd UC lT hm dU he;have Y1:∀a∈l.take m.toNat,∃hp,(l.take m.toNat)[hp]?=some a:=λa ha=>List.getElem?_of_mem ha;refine .ifc rY.1 M M UC (DQ UC) (λa ha=>?_) (λa ha=>?_) (λe H=>?_) (by intro h;simp[Y.ld]at h)
    .obtain⟨hp,hj⟩:=Y1 a ha;exact⟨(jd hp a hj).1,(jd hp a hj).2.1,dU a (jQt ha)⟩
    .obtain⟨hp,hj⟩:=Y1 a ha;obtain⟨b,I,U⟩:=hm a (jQt ha) {decls:=p.decls,value:=false,term:=p.term};rw[(jd hp a hj).2.2.2]at I;cases I;exact U rfl
    .obtain⟨b,I,U⟩:=he p.decls e (jR2 H);rw[lT e H]at I;cases I;exact U rfl
def tQ(NS w):∀(n:Nat) (t:Y),dp t<=n->∀k,6*n<=k->(∀x∈ei t,x∈NS)->SX NS w k t:=by
 intro n
 induction n with
 |zero=>intro t h;have:=Sv t;omega
 |succ n ih=>
  intro t hn k hk hN p;obtain⟨k,rfl⟩:∃hp,k=hp+2:=⟨k - 2,M⟩;have lT:∀e∈t.li,∀k',6*n<=k'->SX NS w k' e:=λe he k' hk'=>ih e (V5 (gA he)) k' hk' (λx H=>hN x (jD he x H));have hap:∀p,∃b,allPlaced w (k+1) t.li p=some b/\(b=true->∀e∈t.li,PL w.length NS Q0 (λn=>(n:Int)<p.decls) 0 p.value p.term e):=
   λp=>DR (λe he=>lT e he k M) p
  rw[placed];simp only;have wE:t=.mk t.ld t.n t.m t.va t.name t.gc t.li:=by cases t;rfl
  by_cases I:t.ld=1
  .rw[jQ7 I];refine⟨_,rfl,λh=>?_⟩;simp[within_iff]at h;obtain⟨U,h3⟩:=h;rw[wE,I,h3];exact .basic U.1 U.2
  rw[jQ4 I];by_cases mM:t.ld=14\/t.ld=15\/t.ld=16
  .rw[jQ7 mM];refine⟨_,rfl,λh=>?_⟩;simp at h;rw[wE,h];exact .uni mM
  rw[jQ4 mM];by_cases dA:t.ld=11
  .rw[jQ7 dA];refine⟨_,rfl,λh=>?_⟩;simp[within_iff]at h;obtain⟨⟨⟨I,U⟩,h3⟩,h4⟩:=h;rw[wE,dA,h4];refine .named I U λhf=>?_;have:((t.n.toNat:Nat):Int)=t.n:=M
   simp only[this];obtain h3|h3:=h3
   .simp[h3.1,h3.2]at hf
   .exact h3
  rw[jQ4 dA];by_cases U:t.ld=2\/t.ld=3
  .rw[jQ7 U];split
   .rename_i hc
    obtain⟨b,hb,hP⟩:=hap p;refine⟨b,hb,λh=>?_⟩;obtain⟨e,he⟩:=List.length_eq_one_iff.1 (show t.li.length=1 by omega);rw[wE,he];exact .al U hc.1 (hP h e (by simp[he]))
   .exact M92
  rw[jQ4 U];by_cases h5:t.ld=5
  .rw[jQ7 h5];split
   .exact M92
   .rename_i hc
    obtain⟨b,hb,hP⟩:=hap p;refine⟨b,hb,λh=>?_⟩;have yq:∀i f,t.li[i]?=some f->isName f.name=true/\mD t.li i f=false:=by
     intro i f hf;simp only[Bool.not_eq_true,List.any_eq_false]at hc;have:=hc (f,i) (List.mk_mem_zipIdx_iff_getElem?.2 hf);exact M152
    rw[wE,h5];refine .st (λ_ e he=>?_) (JP λi f hf=>(yq i f hf).2) (hP h);obtain⟨i,hi⟩:=List.getElem?_of_mem (show e∈t.li from he);exact(yq i e hi).1
  rw[jQ4 h5];by_cases bH:t.ld=10
  .rw[jQ7 bH];exact Y0 bH (λx H=>lT x H k M) (λx H=>hN _ (jD H _ (EK x))) (λd e he=>by
    obtain⟨k,rfl⟩:∃hp,k=hp+1:=⟨k - 1,M⟩;exact UB (λk' hk'=>lT e he k' M) (λk' hk' x H=>ih x (V6 (gA H) (gA he)) k' M (λy hy=>hN y (jD he y (jD H y hy))))
     (λk' hk' x H y hy=>ih y (by have:=gA H;have:=gA hy;have:=gA he;omega) k' M (λz hz=>hN z (jD he z (jD H z (jD hy z hz))))) M d) p p.value
  rw[jQ4 bH];have afl:=hap {decls:=p.decls,value:=false,term:=p.term};simp only at afl;obtain⟨b,hb,hP⟩:=afl;by_cases h4:t.ld=4\/t.ld=6\/t.ld=9
  .rw[jQ7 h4];split
   .rename_i hc
    refine⟨b,hb,λh=>?_⟩;have lk:=within_iff.1 hc.1;obtain⟨e,he⟩:=List.length_eq_one_iff.1 (show t.li.length=1 by omega);rw[wE,he];exact .one h4 lk.1 lk.2 (hP h e (by simp[he]))
   .exact M92
  rw[jQ4 h4];by_cases h8:t.ld=8
  .rw[jQ7 h8];split
   .rename_i hc
    refine⟨b,hb,λh=>?_⟩;obtain⟨a,c,he⟩:=YZ (show t.li.length=2 by omega);rw[wE,he,h8];exact .mp (hP h a (by simp[he])) (hP h c (by simp[he]))
   .exact M92
  rw[jQ4 h8];by_cases h7:t.ld=7
  .rw[jQ7 h7];split
   .rename_i hc
    have lk:=within_iff.1 hc;split
    .rename_i xb
     exact⟨b,hb,λh=>by rw[wE,h7];exact .fn lk.1 M (λhv=>by simp[hv]at xb) (hP h)⟩
    .split
     .rename_i hm
      obtain⟨e,he⟩:∃e,t.li[(t.m - 1).toNat]?=some e:=⟨t.li[(t.m - 1).toNat]' M,i6⟩;rw[he];simp only[jQa];split
      .rename_i hek
       exact⟨b,hb,λh=>by rw[wE,h7];exact .fn lk.1 M (λ_=>⟨hm,e,he,hek⟩) (hP h)⟩
      .exact M92
     .exact M92
   .exact M92
  rw[jQ4 h7];exact M92
end S
namespace S
def FI(hw:mN NS Q A w rs cs)(hq:QB NS Q):∀(k:Nat) {md:Nat} {t:Y},PL w.length NS Q A md true true t->isIface w t=some true->J rs true true t<=k->∃b,gD w k t=some b:=by
 intro k
 induction k with
 |zero=>intro md t _ _ h;have:=oh rs true true t;omega
 |succ k ih=>
  intro md t h hi hk;obtain⟨u,I,U,h3,_⟩:=fM hw hq h;rw[isIface,I]at hi;rw[gD,I];simp only[jQa];by_cases ir:u.ld=16
  .rw[jQ7 ir];exact⟨_,rfl⟩
  .rw[jQ4 ir];have bH:u.ld=10:=by simp[ir]at hi;exact hi
   obtain⟨e1,_,e3,_⟩:=cu (rs:=rs) (cs:=cs) U bH;rw[e1];simp only[jQa];refine dW λe he=>?_;obtain⟨p1,p2⟩:=e3 e he;unfold bU;split
   .exact⟨false,rfl⟩
   .split
    .exact⟨false,rfl⟩
    .obtain⟨b,hb⟩:=fj hw hq p1;rw[hb];cases b
     .exact⟨false,rfl⟩
     .exact ih p1 hb M
def l5(hw:mN NS Q A w rs cs)(hq:QB NS Q)(h:PL w.length NS Q A md v f t):∃b,bU w t=some b:=by
 unfold bU;split
 .exact⟨false,rfl⟩
 .split
  .exact⟨false,rfl⟩
  .exact fj hw hq h
def yZ(h:bU w t=some true):isIface w t=some true:=by
 unfold bU at h;split at h
 .simp at h
 .split at h
  .simp at h
  .exact h
def WS(c:Nat)(s:Int×Option Int):Prop:=(s.2=none/\0<=s.1/\(s.1<=50->(c:Int)<=s.1))\/(∃r,s.2=some r/\50<r)
def EW(w:List ah)(k:Nat)(s:Int×Option Int)(x:Y):Option (Int×Option Int):=
 match s.2 with
 |some r=>some (s.1,some r)
 |none=>
  if s.1>50 then some (s.1,some s.1)
  else if x.ld=13 then some (s.1+1,none)
  else(isIface w x).bind λi=>if !i then some (s.1+1,none)else(written w k x).map λn=>(s.1+n,none)
def Zc(hw:mN NS Q A w rs cs)(hq:QB NS Q)(h:PL w.length NS Q A md true true t)(hi:isIface w t=some false)(cQ:t.ld≠12):bP cs t=1:=by
 obtain⟨u,u1,u2,u3,u4,u5,u6,u7,u8, -, -,u11⟩:=fM hw hq h;rw[isIface,u1]at hi;simp at hi;by_cases hu:u.ld=12
 .have:=u11 (.inl hu);subst this;exact absurd hu cQ
 .rw[<-u4];exact oH u2 u5 hi.1 u7 hu u6 u8 hi.2
def UL(hw:mN NS Q A w rs cs)(hq:QB NS Q){s:Int×Option Int}(H:PL w.length NS Q A 1 true true x)(ahU:isIface w x=some true->∃n,written w k x=some n/\0<=n/\(n<=50->(bP cs x:Int)<=n))(hs:WS c s):∃s',EW w k s x=some s'/\WS (c+bP cs x) s':=by
 unfold EW;rcases hs with⟨I,U,h3⟩|⟨r,I,U⟩
 .rw[I];simp only;split
  .rename_i Wl;exact⟨_,rfl,.inr ⟨_,rfl,Wl⟩⟩
  .rename_i Wl
   have hle:=h3 M;split
   .rename_i cg
    have:bP cs x=1:=by
     obtain⟨k',n,m,va,nm,tg,l⟩:=x;simp[Y.ld]at cg;subst cg;simp[bP]
    exact M199
   .obtain⟨b,hb⟩:=fj hw hq H;rw[hb];simp only[jQa];cases b
    .have cQ:x.ld≠12:=by
      intro h;cases H with
      |un a _ _ _=>exact absurd a i5
      |uni a=>rename_i kk _ _ _ _ _;simp[Y.ld]at h;omega
      |al a=>rename_i kk _ _ _ _ _ _ _ _;simp[Y.ld]at h;omega
      |one a=>rename_i kk _ _ _ _ _ _ _ _ _;simp[Y.ld]at h;omega
      |_=>simp[Y.ld]at h
     have:=Zc hw hq H hb cQ;exact M199
    .obtain⟨n,n1,n2,n3⟩:=ahU hb;rw[n1];refine⟨_,rfl,.inl ⟨rfl,by simp only;omega,λh=>?_⟩⟩;simp only at h⊢;have:=n3 M;omega
 .rw[I];exact⟨_,rfl,.inr ⟨r,rfl,U⟩⟩
def xZ(hw:mN NS Q A w rs cs)(hq:QB NS Q){k:Nat}:∀{l:List Y} {c:Nat} {s:Int×Option Int},(∀x∈l,PL w.length NS Q A 1 true true x)->
 (∀x∈l,isIface w x=some true->∃n,written w k x=some n/\0<=n/\(n<=50->(bP cs x:Int)<=n))->WS c s->∃s',foldM (EW w k) s l=some s'/\WS (c+cN cs 0 l) s'
 |[],c,s,_,_,hs=>⟨s,rfl,by simpa[cN]using hs⟩
 |x::l,c,s,j,hr,hs=>by
  obtain⟨s1,I,U⟩:=UL hw hq (j x i6) (hr x i6) hs;obtain⟨s2,h3,h4⟩:=xZ hw hq (l:=l) (λy hy=>j y (by simp[hy])) (λy hy=>hr y (by simp[hy])) U;refine⟨s2,by rw[foldM,I];exact h3,?_⟩;rw[cN,show c+(bP cs x+cN cs 0 l)=c+bP cs x+cN cs 0 l by omega];exact h4
def UM(hw:mN NS Q A w rs cs)(hq:QB NS Q){k:Nat}:∀{l:List Y} {c:Nat} {s:Int×Option Int},(∀e∈l,PL w.length NS Q A 2 true true e)->
 (∀e∈l,∀x,(x=e\/(e.ld=12/\x∈e.li))->PL w.length NS Q A 1 true true x->isIface w x=some true->∃n,written w k x=some n/\0<=n/\(n<=50->(bP cs x:Int)<=n))->WS c s->
 ∃s',foldM (λs e=>foldM (EW w k) s (if e.ld=12 then e.li else[e])) s l=some s'/\WS (c+cN cs 0 l) s'
 |[],c,s,_,_,hs=>⟨s,rfl,by simpa[cN]using hs⟩
 |e::l,c,s,j,hr,hs=>by
  have he:=j e i6;have I:∃s1,foldM (EW w k) s (if e.ld=12 then e.li else[e])=some s1/\WS (c+bP cs e) s1:=by
   by_cases cQ:e.ld=12
   .rw[jQ7 cQ];have hc:bP cs e=cN cs 0 e.li:=by
     obtain⟨k',n,m,va,nm,tg,l⟩:=e;simp[Y.ld]at cQ;subst cQ;simp[bP,Y.li]
    rw[hc];have qe:∀x∈e.li,PL w.length NS Q A 1 true true x:=by
     cases he with
     |un a b c d=>exact d
     |uni a=>rename_i kk _ _ _ _ _;simp[Y.ld]at cQ;omega
     |al a=>rename_i kk _ _ _ _ _ _ _ _;simp[Y.ld]at cQ;omega
     |one a=>rename_i kk _ _ _ _ _ _ _ _ _;simp[Y.ld]at cQ;omega
     |_=>simp[Y.ld]at cQ
    exact xZ hw hq qe (λx H=>hr e i6 x (.inr ⟨cQ,H⟩) (qe x H)) hs
   .rw[jQ4 cQ];have ke:PL w.length NS Q A 1 true true e:=M55
    have:=xZ hw hq (l:=[e]) (k:=k) (c:=c) (s:=s) (G9 ke) (by simpa using λhi=>hr e i6 e (.inl rfl) ke hi) hs;simpa[cN]using this
  obtain⟨s1,a1,a2⟩:=I;obtain⟨s2,h3,h4⟩:=UM hw hq (l:=l) (λy hy=>j y (by simp[hy])) (λy hy=>hr y (by simp[hy])) a2;refine⟨s2,by rw[foldM,a1];exact h3,?_⟩;rw[cN,show c+(bP cs e+cN cs 0 l)=c+bP cs e+cN cs 0 l by omega];exact h4
def wF(hw:mN NS Q A w rs cs)(hq:QB NS Q)(I:gt w t=some u)(U:PL w.length NS Q A md v f u)(hc:u.ld≠10->bP cs t<=1)(yq:bP cs u=bP cs t)(ih:∀x,PL w.length NS Q A 1 true true x->J rs true true x<J rs v f u->isIface w x=some true->∃n,written w k x=some n/\0<=n/\(n<=50->(bP cs x:Int)<=n)):
 ∃n,written w (k+1) t=some n/\0<=n/\(n<=50->(bP cs t:Int)<=n):=by
 rw[written,I];simp only[jQa];by_cases bH:u.ld=10
 .rw[jQ4 (by simp[bH])];obtain⟨e1,_,e3,_,_,_,e7⟩:=cu (rs:=rs) (cs:=cs) U bH;rw[e1];simp only[jQa];obtain⟨s,s1,s2⟩:=UM hw hq (k:=k) (l:=u.li.drop u.m.toNat) (c:=0) (s:=(0,none)) (λe he=>(e3 e he).1) (λe he x H j hi=>ih x j (by
   have hj:=(e3 e he).2;obtain rfl|⟨cQ,H⟩:=H
   .exact hj
   .have:J rs true true x<=J rs true true e:=by
     obtain⟨k',n,m,va,nm,tg,l⟩:=e;simp[Y.ld]at cQ;subst cQ;have:=jP (rs:=rs) (v:=true) (f:=true) (show x∈l from H);rw[bw (l:=l)];simp;omega
    omega) hi) (.inl ⟨rfl,i5,λ_=>i5⟩)
  change ∃n,Option.map (λ(s:Int×Option Int)=>s.2.getD s.1) (foldM (λs e=>foldM (EW w k) s (if e.ld=12 then e.li else[e])) (0,none) (u.li.drop u.m.toNat))=some n/\_
  rw[s1];refine⟨s.2.getD s.1,rfl,?_⟩;rw[e7,ku]at yq;rcases s2 with⟨I,U,h3⟩|⟨r,I,U⟩
  .rw[I];exact⟨U,λh=>by have:=h3 h;simp only[Option.getD_none];omega⟩
  .rw[I];exact⟨by simp;omega,λh=>by simp at h;omega⟩
 .rw[jQ7 (G9 bH)];exact⟨1,rfl,i5,λ_=>by have:=hc bH;omega⟩
def Zd(hw:mN NS Q A w rs cs)(hq:QB NS Q)(h:PL w.length NS Q A md true true t)(cQ:t.ld≠12)(hu:gt w t=some u)(bH:u.ld≠10):bP cs t<=1:=by
 obtain⟨u',u1,u2,u3,u4,u5,u6,u7,u8, -, -,u11⟩:=fM hw hq h;rw[hu]at u1;cases u1;rw[<-u4];by_cases ir:u.ld=16
 .exact M211
 .by_cases acg:u.ld=12
  .have:=u11 (.inl acg);subst this;exact absurd acg cQ
  .rw[oH u2 u5 bH u7 acg u6 u8 ir];exact jQ0 _
def JW(hw:mN NS Q A w rs cs)(hq:QB NS Q):∀(k:Nat) {md:Nat} {t:Y},PL w.length NS Q A md true true t->t.ld≠12->J rs true true t<=k->∃n,written w k t=some n/\0<=n/\(n<=50->(bP cs t:Int)<=n):=by
 intro k
 induction k with
 |zero=>intro md t _ _ h;have:=oh rs true true t;omega
 |succ k ih=>
  intro md t h cQ hk;obtain⟨u,u1,u2,u3,u4,_⟩:=fM hw hq h;refine wF hw hq u1 u2 (λbH=>Zd hw hq h cQ u1 bH) u4 (λx H hj _=>ih H ?_ M);exact M73
def IB(hw:mN NS Q A w rs cs)(hq:QB NS Q)(h:PL w.length NS Q A md v f u)(kY:u.ld=10)(hk:J rs v f u<=k):∃n,written w k u=some n/\0<=n/\(n<=50->(bP cs u:Int)<=n):=by
 obtain⟨k,rfl⟩:∃hp,k=hp+1:=⟨k - 1,V5 (oh rs v f u)⟩;obtain⟨b,b1,_,_,_,_,_,b7,_⟩:=fc hq.any rs cs h;have hb:=b7 M M;subst hb;have hu:gt w b=some b:=by rw[gt,b1];simp[kY]
 refine wF hw hq hu h (λh=>absurd kY h) rfl (λx H hj _=>JW hw hq k H ?_ M);exact M73
def Qc(cs:List Nat)(B:Nat)(t:Y):Prop:=t.ld=10->∀c,bP (cs++c) t<=B
def Qc.qb(cs:List Nat)(B:Nat)(h:str [69,114,114,111,114]∈NS):QB NS (Qc cs B):=
 ⟨λ_ c=>by simp[fD,tk,bP,cN],λ_ c=>by simp[fC,bP,cN],h,λn h=>by simp[alone,tk,Y.ld]at h⟩
def aaN(hB:1<=B)(hw:mN NS (Qc cs B) A w rs cs)(c:List Nat)(h:PL w.length NS (Qc cs B) A md v f x):v=true->f=true->x.ld≠12->bP (cs++c) x<=B:=by
 induction h with
 |named a b d=>
  rename_i n m va nm tg
  intro hv hf _;obtain⟨d',hd⟩:∃d',w[n.toNat]?=some d':=⟨w[n.toNat]' M,i6⟩;have I:=(hw.ok _ _ (d (by simp[hv])) hd).1;have U:=hw.ct _ _ hd;have h3:bP (cs++c) (.mk 11 n m va nm tg [])=(cs++c).getD n.toNat 0:=by rw[bP];simp
  rw[h3,lf (by rw[hw.cl];omega),U];by_cases bH:d'.gt.ld=10
  .have:=(cu (rs:=rs) (cs:=cs) I bH).2.2.2.2.2.1 bH [];rwa[List.append_nil]at this
  .obtain⟨k1,k2,k3,k4,k5,k6⟩:=hw.kd _ _ hd;by_cases ir:d'.gt.ld=16
   .generalize d'.gt=u at ir;exact M211
   .rw[oH I k1 bH k2 k3 k5 k6 ir];exact hB
 |basic a b=>intro _ _ _;rw[bP];simp;omega
 |uni a=>intro _ _ _;rw[bP];rcases a with rfl|rfl|rfl<;>simp
 |al a b h ih=>
  intro hv hf _;rw[bP];obtain rfl|rfl:=a
  .simp[SQ];exact ih hv hf (λe=>lg h (.inl e))
  .simp;omega
 |st a b _ ih=>intro _ _ _;rw[bP];simp;omega
 |ifc a b c' d e g _ _ q _ _=>intro _ _ _;exact q rfl c
 |one a b c' _ ih=>intro _ _ _;rw[bP];rcases a with rfl|rfl|rfl<;>simp<;>omega
 |mp _ _ _ _=>intro _ _ _;rw[bP];simp;omega
 |fn a b c' _ ih=>intro _ _ _;rw[bP];simp;omega
 |ti a _ ih=>intro _ _ _;rw[bP];simp;omega
 |un a b c' _ ih=>intro _ _ h;exact absurd rfl h
def FJ{cs:List Nat}{B:Nat}:∀{l:List Y},(∀e∈l,bP cs e<=B)->cN cs 0 l<=l.length*B
 |[],_=>by simp[cN]
 |a::l,h=>by
  rw[cN];have:=h a i6;have:=FJ (l:=l) λe he=>h e (by simp[he]);simp[Nat.add_mul];omega
def abd(hB:1<=B)(hw:mN NS (Qc cs B) A w rs cs)(c:List Nat){e:Y}(h:PL w.length NS (Qc cs B) A 2 true true e):bP (cs++c) e<=8*B:=by
 by_cases cQ:e.ld=12
 .cases h with
  |un a b d g=>
   rename_i n m va nm tg l
   have:bP (cs++c) (.mk 12 n m va nm tg l)=cN (cs++c) 0 l:=by rw[bP];simp
   rw[this];have:=FJ (cs:=cs++c) (B:=B) (l:=l) λx H=>aaN hB hw c (g x H) rfl rfl (by
    intro e;have hx':=g x H;cases hx' with
    |un a _ _ _=>exact absurd a i5
    |uni a=>rename_i kk _ _ _ _ _;simp[Y.ld]at e;omega
    |al a=>rename_i kk _ _ _ _ _ _ _ _;simp[Y.ld]at e;omega
    |one a=>rename_i kk _ _ _ _ _ _ _ _ _;simp[Y.ld]at e;omega
    |_=>simp[Y.ld]at e)
   exact jQd this (Nat.mul_le_mul_right _ d)
  |uni a=>rename_i kk _ _ _ _ _;simp[Y.ld]at cQ;omega
  |al a=>rename_i kk _ _ _ _ _ _ _ _;simp[Y.ld]at cQ;omega
  |one a=>rename_i kk _ _ _ _ _ _ _ _ _;simp[Y.ld]at cQ;omega
  |_=>simp[Y.ld]at cQ
 .have:=aaN hB hw c h rfl rfl cQ;omega
def As{α β:Type}{f:Nat->α->Option (Option β)}:∀{l:List α} {i:Nat},(∀hp a,l[hp]?=some a->(∀j' b,j'<hp->l[j']?=some b->f (i+j') b=some none)->∃r,f (i+hp) a=some r)->∃r,rangeM f i l=some r
 |[],i,_=>⟨none,rfl⟩
 |a::l,i,h=>by
  obtain⟨r,hr⟩:=h 0 a rfl (by intro j' b h;omega);rw[Nat.add_zero]at hr;rw[rangeM,hr];cases r with
  |some b=>exact⟨_,rfl⟩
  |none=>
   refine As (i:=i+1) λhp b hb hj=>?_;have:=h (hp+1) b (G9 hb) (λj' c Sf hc=>by
    cases j' with
    |zero=>simp at hc;subst hc;exact hr
    |succ j'=>have:=hj j' c M (G9 hc);rwa[show i+(j'+1)=i+1+j' by omega])
   rwa[show i+1+hp=i+(hp+1)by omega]
end S
namespace S
def mN.imp(hQ:∀t,Q t->Q' t)(h:mN NS Q A w rs cs):mN NS Q' A w rs cs:=
 ⟨h.rl,h.cl,h.dec,h.kd,h.rk,h.ct,h.ml,λn d hA hd=>⟨((h.ok n d hA hd).1).imp hQ,λm hm=>((h.ok n d hA hd).2 m hm).imp hQ⟩⟩
def Lh(h:po a b=some false):a=some false/\b=some false:=by
 cases a with
 |none=>simp[po]at h
 |some x=>cases x<;>simp[po]at h⊢;exact h
def IA(h:∃x,a=some x)(h':a=some false->∃x,b=some x):∃x,po a b=some x:=by
 obtain⟨x,H⟩:=h;cases x
 .obtain⟨y,hy⟩:=h' H;rw[H,hy];exact⟨_,rfl⟩
 .rw[H];exact⟨true,rfl⟩
def Pb(h:∃x,a=some x)(h':a=some true->∃x,b=some x):∃x,fy a b=some x:=by
 obtain⟨x,H⟩:=h;cases x
 .rw[H];exact⟨false,rfl⟩
 .obtain⟨y,hy⟩:=h' H;rw[H,hy];exact⟨_,rfl⟩
mutual
def adZ (rs:List Nat):∀t:Y,J rs true true t<=J rs false true t
 |.mk k n m va nm tg l=>by
  rw[bw,bw];split
  .simp
  .split
   .exact jQ0 _
   .split
    .exact jQ0 _
    .split
     .have:=ZT rs l;omega
     .exact jQ0 _
def ZT (rs:List Nat):∀l:List Y,Js rs true true l<=Js rs false true l
 |[]=>by simp[Js]
 |e::l=>by
  rw[Js,Js];have:=adZ rs e;have:=ZT rs l;omega
end
def TX(w:List ah)(x:Y):Prop:=x.ld=13->∀y∈x.li,isIface w y=some false
def TE(w:List ah)(e:Y):Prop:=TX w e/\(e.ld=12->∀x∈e.li,TX w x)
def Qs(w:List ah)(P0:Y->Prop)(cs:List Nat)(t:Y):Prop:=P0 t/\Qc cs 50 t/\(t.ld=10->∀e∈t.li.drop t.m.toNat,TE w e)
structure MC(NS:List ByteArray)(A:Qx)(w:List ah)(rs cs:List Nat)(N:Nat):Prop where
 hw:mN NS (Qc cs 50) A w rs cs
 err:str [69,114,114,111,114]∈NS
 sig:Li w
 len:NS.length<=1099511627776
 big:w.length+(N+1)*6404<=1099511627776
def Qc.mono(h:B<=B')(hq:Qc cs B t):Qc cs B' t:=λhk c=>jQd (hq hk c) h
def MC.id(hm:MC NS A w rs cs N)(hk:N<=k):IdT NS (Qc cs 1600) A w rs N (ident k w):=
 Pc (B:=1600) (Qc.qb cs 1600 hm.err) hm.len N k hk w rs cs A (hm.hw.imp λt h=>h.mono i5) hm.sig (λc t I U=>U I c) (V5 hm.big)
def xg(h:PL nw NS Q A md true true x)(hk:x.ld≠12):∃a,(if x.ld=13 then x.li[0]? else some x)=some a/\PL nw NS Q A 0 true true a/\J rs true true a<=J rs true true x:=by
 by_cases cg:x.ld=13
 .rw[jQ7 cg];cases h with
  |ti a b=>exact⟨_,rfl,b,by rw[bw (k:=13)];simp[Js]⟩
  |uni a=>rename_i kk _ _ _ _ _;simp[Y.ld]at cg;omega
  |al a=>rename_i kk _ _ _ _ _ _ _ _;simp[Y.ld]at cg;omega
  |one a=>rename_i kk _ _ _ _ _ _ _ _ _;simp[Y.ld]at cg;omega
  |_=>simp[Y.ld]at cg
 .rw[jQ4 cg];exact⟨x,rfl,pg h M,jQ0 _⟩
def rT(h:PL nw NS Q A 1 v f x):x.ld≠12:=by
 intro e;cases h with
 |un a _ _ _=>exact absurd a i5
 |uni a=>rename_i kk _ _ _ _ _;simp[Y.ld]at e;omega
 |al a=>rename_i kk _ _ _ _ _ _ _ _;simp[Y.ld]at e;omega
 |one a=>rename_i kk _ _ _ _ _ _ _ _ _;simp[Y.ld]at e;omega
 |_=>simp[Y.ld]at e
def FH(hm:MC NS A w rs cs N)(hk:N<=k)(H:PL w.length NS (Qc cs 1600) A 1 true true x)(hy:PL w.length NS (Qc cs 1600) A 1 true true y)(hxN:J rs true true x<N)(hyN:J rs true true y<N):
 ∃b,iR k w x y=some b:=by
 have hw:=hm.hw.imp (Q':=Qc cs 1600) λt h=>h.mono i5;have hq:=Qc.qb cs 1600 hm.err;have hid:=hm.id hk;obtain⟨a,a1,a2,a3⟩:=xg (rs:=rs) H (rT H);obtain⟨b,b1,b2,b3⟩:=xg (rs:=rs) hy (rT hy);unfold iR;rw[a1,b1];simp only[jQa];obtain⟨i,hi⟩:=rW (fj hw hq a2) (fj hw hq b2);rw[hi];simp only[jQa];have VV:∀t,J rs false false t<=J rs true true t:=λt=>dM i6 i6 t;have KM:∀{t},PL w.length NS (Qc cs 1600) A 0 true true t->PL w.length NS (Qc cs 1600) A 0 false false t:=λh=>h.eS (jQ0 _) (λ_ h=>h) (jQ0 _) i6 i6;obtain⟨ua,ua1,ua2,ua3, -⟩:=fM hw hq a2;obtain⟨ub,ub1,ub2,ub3, -⟩:=fM hw hq b2;have hwu:∀{t},PL w.length NS (Qc cs 1600) A 0 true false t->PL w.length NS (Qc cs 1600) A 0 false false t:=λh=>h.eS (jQ0 _) (λ_ h=>h) (jQ0 _) i6 id;have hfu:∀t,J rs false false t<=J rs true false t:=λt=>dM i6 i6 t;have:=VV a;have:=VV b;have:=hfu ua;have:=hfu ub;split
 .exact M166
 .split
  .rw[ub1];exact bc (hid _ _ (KM a2) M (hwu ub2) M)
  .split
   .rw[ua1];exact bc (hid _ _ (hwu ua2) M (KM b2) M)
   .exact bc (hid _ _ (KM a2) M (KM b2) M)
def MT(NS:List ByteArray)(P0:Y->Prop)(A:Qx)(w:List ah)(rs cs:List Nat)(N k:Nat)(t:Y):Prop:=
 ∀v f,PL w.length NS P0 A 0 v f t->J rs true true t<N->∀g,∃b,gT w k t g=some b/\(b=true->PL w.length NS (Qs w P0 cs) A 0 v f t)
def sN(hm:MC NS A w rs cs N)(hk:N<=k)(H:PL w.length NS P0 A 1 true true x)(hN:J rs true true x<N)(I:MT NS P0 A w rs cs N k x)(U:∀e∈x.li,MT NS P0 A w rs cs N k e):∃b,dY w (k+1) x=some b/\(b=true->PL w.length NS (Qs w P0 cs) A 1 true true x/\TX w x):=by
 have hw:=hm.hw.imp (Q':=Qc cs 1600) λt h=>h.mono i5;have hq:=Qc.qb cs 1600 hm.err;rw[dY];by_cases cg:x.ld=13
 .rw[jQ7 cg];cases H with
  |ti a b=>
   rename_i n m va nm tg e
   have he:(Y.mk 13 n m va nm tg [e]).li[0]?=some e:=rfl;rw[he];simp only[jQa];have hje:J rs true true e<N:=by rw[bw]at hN;simp[Js]at hN;omega
   obtain⟨r,r1,r2⟩:=U e (by simp[Y.li]) true true b hje false;rw[r1];cases r with
   |false=>exact⟨false,rfl,i6⟩
   |true=>
    have Hp:=r2 rfl;have XE:PL w.length NS (Qc cs 1600) A 0 true true e:=Hp.imp λt h=>h.2.1.mono i5;obtain⟨i,hi⟩:=fj hw hq XE;rw[hi];obtain⟨u,u1,u2,u3, -⟩:=fM hw hq XE;have VV:=dM (rs:=rs) (v:=true) (f:=true) (v':=false) (f':=false) i6 i6 e;have hfu:=dM (rs:=rs) (v:=true) (f:=false) (v':=false) (f':=false) i6 i6 u;obtain⟨c,hc⟩:=hm.id hk e u (XE.eS (jQ0 _) (λ_ h=>h) (jQ0 _) i6 i6) M (u2.eS (jQ0 _) (λ_ h=>h) (jQ0 _) i6 id) M;rw[u1];simp only[jQa];rw[hc];exact⟨(!i)&&c,by cases i<;>cases c<;>rfl,λhb=>⟨.ti a Hp,λ_ y hy=>by simp[Y.li]at hy;subst hy;rw[hi];simp at hb;rw[hb.1]⟩⟩
  |uni a=>rename_i kk _ _ _ _ _;simp[Y.ld]at cg;omega
  |al a=>rename_i kk _ _ _ _ _ _ _ _;simp[Y.ld]at cg;omega
  |one a=>rename_i kk _ _ _ _ _ _ _ _ _;simp[Y.ld]at cg;omega
  |_=>simp[Y.ld]at cg
 .rw[jQ4 cg];have Lj:=pg H (V5 (rT H));obtain⟨i,hi⟩:=fj hm.hw.plain hq.plain Lj.vf (v:=true) (f:=true);rw[hi];simp only[jQa];obtain⟨r,r1,r2⟩:=I true true Lj hN i;exact⟨r,r1,λh=>⟨(r2 h).eS (jQ0 _) (λ_ h=>h) i5 id id,λh=>absurd h cg⟩⟩
def xq(hm:MC NS A w rs cs N)(hk:N<=k){e:Y}(he:PL w.length NS P0 A 2 true true e)(hN:J rs true true e<N)(I:MT NS P0 A w rs cs N k e)(U:∀x∈e.li,MT NS P0 A w rs cs N k x)(h3:∀x∈e.li,∀y∈x.li,MT NS P0 A w rs cs N k y)(g:Bool):
 ∃b,df w (k+2) e g=some b/\(b=true->PL w.length NS (Qs w P0 cs) A 2 true true e/\TE w e):=by
 have hw:=hm.hw.imp (Q':=Qc cs 1600) λt h=>h.mono i5;have hq:=Qc.qb cs 1600 hm.err;rw[df];by_cases cQ:e.ld=12
 .rw[jQ4 (G9 cQ)];have H:∀x∈e.li,PL w.length NS P0 A 1 true true x/\J rs true true x<N:=by
   cases he with
   |un a b c d=>
    rename_i n m va nm tg l
    intro x H;have hj:J rs true true x<=Js rs true true l:=jP H;exact⟨d x H,by rw[bw]at hN;simp at hN;omega⟩
   |uni a=>rename_i kk _ _ _ _ _;simp[Y.ld]at cQ;omega
   |al a=>rename_i kk _ _ _ _ _ _ _ _;simp[Y.ld]at cQ;omega
   |one a=>rename_i kk _ _ _ _ _ _ _ _ _;simp[Y.ld]at cQ;omega
   |_=>simp[Y.ld]at cQ
  have hT:∀x∈e.li,∃b,dY w (k+1) x=some b/\(b=true->PL w.length NS (Qs w P0 cs) A 1 true true x/\TX w x):=λx uC=>
   sN hm hk (H x uC).1 (H x uC).2 (U x uC) (h3 x uC)
  let f:Nat->Y->Option (Option Bool):=λi x=>(po (po (bh (dY w (k+1) x)) (fy (bU w x) (po ((required w (k+1) x).map λr=>decide (r.length>0)) (gD w (k+1) x))))
   (anyM (λy=>bh (iR (k+1) w x y)) (e.li.take i))).map λb=>if b then some false else none
  have O7:∀i x,f i x=some none->dY w (k+1) x=some true:=by
   intro i x h;obtain⟨b,hb,h⟩:=jQ6.1 h;cases b
   .exact l4 (Lh (Lh hb).1).1
   .simp at h
  have hS:∀x∈e.li,dY w (k+1) x=some true->PL w.length NS (Qs w P0 cs) A 1 true true x/\TX w x:=λx uC h=>by
   obtain⟨b,b1,b2⟩:=hT x uC;rw[h]at b1;cases b1;exact b2 rfl
  obtain⟨r,hr⟩:=As (f:=f) (l:=e.li) (i:=0) (λhp x hxj Nl=>by
   have uC:=jQ8 hxj;obtain⟨b,hb⟩:∃b,(po (po (bh (dY w (k+1) x)) (fy (bU w x) (po ((required w (k+1) x).map λr=>decide (r.length>0)) (gD w (k+1) x))))
    (anyM (λy=>bh (iR (k+1) w x y)) (e.li.take (0+hp))))=some b:=by
    refine IA (IA (bc (by obtain⟨b,hb,_⟩:=hT x uC;exact⟨b,hb⟩)) λh=>?_) λh=>?_
    .have Q7:=(hS x uC (l4 h)).1.imp (Q':=Qc cs 1600) λt h=>h.2.1.mono i5;refine Pb (l5 hw hq Q7) λhE=>rW ?_ (FI hw hq (k+1) Q7 (yZ hE) (V5 ((H x uC).2)));obtain⟨r,hr,_⟩:=pr hw hq hm.len (k+1) Q7 (V5 ((H x uC).2));rw[hr];exact⟨_,rfl⟩
    .have Q7:=(hS x uC (l4 (Lh h).1)).1.imp (Q':=Qc cs 1600) λt h=>h.2.1.mono i5;refine dW λy hy=>bc ?_;obtain⟨j',Sf,hyj⟩:=List.mem_take_iff_getElem.1 hy;have hym:y∈e.li:=jQt hy;have hys:=(hS y hym (O7 _ y (Nl j' y M (by rw[<-hyj];simp)))).1.imp (Q':=Qc cs 1600) λt h=>h.2.1.mono i5;exact FH hm M Q7 hys (H x uC).2 (H y hym).2
   exact⟨_,by show(_:Option Bool).map _=_;rw[hb];rfl⟩)
  have Nn:rangeM f 0 e.li=some r:=hr;show∃b,(rangeM f 0 e.li).map _=some b/\_;rw[Nn];cases r with
  |some b=>
   refine⟨b,rfl,λhb=>?_⟩;subst hb;exact absurd Nn (iS λi a h=>by
    obtain⟨b,_,h⟩:=jQ6.1 h;cases b<;>simp at h)
  |none=>
   refine⟨g,rfl,λ_=>?_⟩;have eO:=jA Nn;have hd:∀x∈e.li,PL w.length NS (Qs w P0 cs) A 1 true true x/\TX w x:=λx uC=>by
    obtain⟨hp,hj⟩:=List.getElem?_of_mem uC;exact hS x uC (O7 _ x (eO hp x hj))
   cases he with
   |un a b c d=>exact⟨.un a b c λx H=>(hd x H).1,λh=>by simp[Y.ld]at h,λ_ x H=>(hd x H).2⟩
   |uni a=>rename_i kk _ _ _ _ _;simp[Y.ld]at cQ;omega
   |al a=>rename_i kk _ _ _ _ _ _ _ _;simp[Y.ld]at cQ;omega
   |one a=>rename_i kk _ _ _ _ _ _ _ _ _;simp[Y.ld]at cQ;omega
   |_=>simp[Y.ld]at cQ
 .rw[jQ7 (G9 cQ)];have he1:PL w.length NS P0 A 1 true true e:=M55
  obtain⟨b,b1,b2⟩:=sN hm hk he1 hN I U;obtain⟨c,hc⟩:∃c,po (some g) (fy (bU w e) (bh (general w (k+1) e)))=some c:=
   rW ⟨g,rfl⟩ (qI (l5 hm.hw.plain hq.plain (he.vf (v':=true) (f':=true))) (bc (qJ hm.hw.plain hq.plain (k+1) (he.vf) M)))
  rw[b1,hc];cases b with
  |false=>exact⟨false,rfl,i6⟩
  |true=>exact⟨c,rfl,λ_=>⟨(b2 rfl).1.eS (jQ0 _) (λ_ h=>h) i5 id id,(b2 rfl).2,λh=>absurd h cQ⟩⟩
def vg{l:List Y}(h:∀e∈l,MT NS P0 A w rs cs N k e)(j:∀e∈l,PL w.length NS P0 A 0 v f e)(hN:∀e∈l,J rs true true e<N):
 ∃b,allMeant w (k+1) l=some b/\(b=true->∀e∈l,PL w.length NS (Qs w P0 cs) A 0 v f e):=by
 have hT:=λe (he:e∈l)=>h e he v f (j e he) (hN e he) false;obtain⟨b,hb⟩:=bc (dW (p:=λt=>bh (gT w k t false)) (l:=l) λe he=>bc (by obtain⟨b,hb,_⟩:=hT e he;exact⟨b,hb⟩));refine⟨b,by rw[allMeant,hb],λe x H=>?_⟩;subst e;have:=iE hb x H;obtain⟨b,I,U⟩:=hT x H;rw[this]at I;cases I;exact U rfl
def tF(hm:MC NS A w rs cs N)(hk:N<=k)(h:PL w.length NS P0 A 0 v f t)(bH:t.ld=10)(hN:J rs true true t<N)(I:∀e∈t.li,MT NS P0 A w rs cs N k e)(Q8:∀e∈t.li,MT NS P0 A w rs cs N (k+1) e)(U:∀e∈t.li,∀x∈e.li,MT NS P0 A w rs cs N k x)(h3:∀e∈t.li,∀x∈e.li,∀y∈x.li,MT NS P0 A w rs cs N k y)(g:Bool):
 ∃b,fZ w (k+3) t g=some b/\(b=true->PL w.length NS (Qs w P0 cs) A 0 v f t):=by
 have hw:=hm.hw.imp (Q':=Qc cs 1600) λt h=>h.mono i5;have hq:=Qc.qb cs 1600 hm.err;obtain⟨e1,e2,e3,e4,e5,e6,e7⟩:=cu (rs:=rs) (cs:=cs) h bH;rw[fZ,e1];simp only[jQa];have hjt:∀e∈t.li.drop t.m.toNat,J rs true true e<N:=λe he=>by
  have:=(cu (rs:=rs) (cs:=cs) (h.vf (v':=true) (f':=true)) bH).2.2.1 e he;omega
 have hjm:∀e∈t.li.take t.m.toNat,J rs true true e<N:=λe he=>by
  have hj:=(cu (rs:=rs) (cs:=cs) (h.vf (v':=true) (f':=true)) bH).2.2.2.1 e he;have:J rs false true e=J rs true true e:=by
   have Ip:=hj.1;obtain⟨k',n,m,va,nm,tg,l⟩:=e;simp[Y.ld]at Ip;subst Ip;rw[bw,bw];simp
  omega
 have hE:∀e∈t.li.drop t.m.toNat,∃b,df w (k+2) e g=some b/\(b=true->PL w.length NS (Qs w P0 cs) A 2 true true e/\TE w e):=λe he=>
  xq hm hk (e3 e he).1 (hjt e he) (I e (jR2 he)) (U e (jR2 he)) (h3 e (jR2 he)) g
 obtain⟨r,hr⟩:=pw (f:=λ(_:Nat) (e:Y)=>(df w (k+2) e g).map λ(b:Bool)=>if b then(none:Option Bool)else some false) (l:=t.li.drop t.m.toNat) (i:=0) (λhp e he=>by
  obtain⟨b,hb,_⟩:=hE e he;rw[hb];exact⟨_,rfl⟩)
 rw[hr];simp only[jQa];cases r with
 |some b=>
  exact M151
 |none=>
  have ad0:∀e∈t.li.drop t.m.toNat,PL w.length NS (Qs w P0 cs) A 2 true true e/\TE w e:=λe he=>by
   obtain⟨hp,hj⟩:=List.getElem?_of_mem he;have:=jA hr hp e hj;obtain⟨b,hb,cX⟩:=hE e he;rw[hb]at this;cases b
   .simp at this
   .exact cX rfl
  have lT:∀e∈t.li.drop t.m.toNat,PL w.length NS (Qs w P0 cs) A 2 true true e:=λe he=>(ad0 e he).1;simp only;rw[e2];simp only[jQa];obtain⟨b,b1,b2⟩:=vg (k:=k+1) (l:=t.li.take t.m.toNat) (v:=false) (f:=f) (λe he=>Q8 e (jQt he)) (λe he=>(e4 e he).2.2.2.1) hjm;rw[b1];cases b with
  |false=>exact⟨false,rfl,i6⟩
  |true=>
   have Q9:=b2 rfl;have Lk:∀c,bP (cs++c) t<=1600:=by
    intro c;have hd:cN (cs++c) 0 (t.li.drop t.m.toNat)<=(t.li.drop t.m.toNat).length*400:=FJ λe he=>abd (B:=50) i5 hm.hw c ((lT e he).imp λ_ h=>h.2.1);have ht:bP (cs++c) t=cN (cs++c) 0 (t.li.drop t.m.toNat):=by
     rw[<-ku];obtain⟨k',n,m,va,nm,tg,l⟩:=t;simp[Y.ld]at bH;subst bH;rw[bP];simp[Y.m,Y.li]
    have hlen:(t.li.drop t.m.toNat).length<=4:=by
     cases h with
     |ifc a b c' d e g _ _ q=>simp[Y.li,Y.m];omega
     |uni a=>rename_i kk _ _ _ _ _;simp[Y.ld]at bH;omega
     |al a=>rename_i kk _ _ _ _ _ _ _ _;simp[Y.ld]at bH;omega
     |one a=>rename_i kk _ _ _ _ _ _ _ _ _;simp[Y.ld]at bH;omega
     |_=>simp[Y.ld]at bH
    rw[ht];omega
   have htc:PL w.length NS (Qc cs 1600) A 0 v f t:=by
    cases h with
    |ifc a b c' d e g _ _ q=>exact .ifc a b c' d e g (λx H=>(Q9 x H).imp λ_ h=>h.2.1.mono i5) (λx H=>(lT x H).imp λ_ h=>h.2.1.mono i5) (λ_=>Lk)
    |uni a=>rename_i kk _ _ _ _ _;simp[Y.ld]at bH;omega
    |al a=>rename_i kk _ _ _ _ _ _ _ _;simp[Y.ld]at bH;omega
    |one a=>rename_i kk _ _ _ _ _ _ _ _ _;simp[Y.ld]at bH;omega
    |_=>simp[Y.ld]at bH
   have hJ:J rs v f t<=J rs true true t:=dM i6 i6 t;obtain⟨l,l1,l2,_⟩:=jU hw hq hm.len htc bH (k:=k+2) M;obtain⟨n,n1,n2,n3⟩:=IB hw hq htc bH (k:=k+2) M;have hag:∃b,agree (k+2) w t=some b:=by
    unfold agree;rw[l1,e1];simp only[jQa];refine bc (dW λe he=>?_);have XE:=(lT e he).imp (Q':=Qc cs 1600) λ_ h=>h.2.1.mono i5;refine qI (l5 hw hq XE) ?_;obtain⟨r,r1,r2,_⟩:=pr hw hq hm.len (k+2) XE (V5 (hjt e he));rw[r1];simp only[jQa];refine bc (tG λa ha b hb=>?_);obtain⟨_,_,_,p4,p5⟩:=l2 a ha;obtain⟨_,_,_,q4,q5⟩:=r2 b hb;exact hm.id M a b p4 M q4 (V5 (hjt e he))
   obtain⟨a,ha⟩:=hag;rw[ha,n1];refine⟨a&&decide (n<=50),by cases a<;>rfl,λhb=>?_⟩;have hn:n<=50:=by simp at hb;exact hb.2
   have hcn:bP cs t<=50:=V5 (n3 hn)
   cases h with
   |ifc a b c' d e g _ _ q=>exact .ifc a b c' d e g Q9 lT ⟨q,λ_ c=>by rw[FK c hm.hw.cl htc];exact hcn,λ_ e he=>(ad0 e he).2⟩
   |uni a=>rename_i kk _ _ _ _ _;simp[Y.ld]at bH;omega
   |al a=>rename_i kk _ _ _ _ _ _ _ _;simp[Y.ld]at bH;omega
   |one a=>rename_i kk _ _ _ _ _ _ _ _ _;simp[Y.ld]at bH;omega
   |_=>simp[Y.ld]at bH
def PL.ad1(h:PL nw NS Q A md v f t)(hk:t.ld≠10)(h0:md=0)(h5:t.ld=5->Q' t)(he:∀e∈t.li,∀v f,PL nw NS Q A 0 v f e->PL nw NS Q' A 0 v f e):PL nw NS Q' A md v f t:=by
 cases h with
 |basic a b=>exact .basic a b
 |uni a=>exact .uni a
 |named a b c=>exact .named a b c
 |al a b c=>exact .al a b (he _ (by simp[Y.li]) _ _ c)
 |st a b c=>exact .st (h5 rfl) b (λe H=>he e H _ _ (c e H))
 |ifc=>simp[Y.ld]at hk
 |one a b c d=>exact .one a b c (he _ (by simp[Y.li]) _ _ d)
 |mp a b=>exact .mp (he _ (by simp[Y.li]) _ _ a) (he _ (by simp[Y.li]) _ _ b)
 |fn a b c d=>exact .fn a b c (λe H=>he e H _ _ (d e H))
 |ti a b=>omega
 |un a b c d=>omega
def Pd(h:PL nw NS Q A 0 v f t)(hk:t.ld≠10):∃v',∀e∈t.li,PL nw NS Q A 0 v' f e:=by
 cases h with
 |basic a b=>exact⟨true,by intro e he;simp[Y.li]at he⟩
 |uni a=>exact⟨true,by intro e he;simp[Y.li]at he⟩
 |named a b c=>exact⟨true,by intro e he;simp[Y.li]at he⟩
 |al a b c=>exact⟨v,by intro e he;simp[Y.li]at he;subst he;exact c⟩
 |st a b c=>exact⟨v,c⟩
 |ifc=>simp[Y.ld]at hk
 |one a b c d=>exact⟨false,by intro e he;simp[Y.li]at he;subst he;exact d⟩
 |mp a b=>exact⟨false,by
  intro e he;simp[Y.li]at he;obtain rfl|rfl:=he
  .exact a
  .exact b⟩
 |fn a b c d=>exact⟨false,d⟩
 |ti a b=>exact absurd a i5
 |un a b c d=>exact absurd a i5
def XF(h:PL nw NS Q A 0 v f t)(hk:t.ld≠10):∀e∈t.li,J rs true true e<J rs true true t:=by
 have hv:∀e,J rs false true e=J rs true true e->J rs true true e=J rs false true e:=λ_ h=>h.symm;have hft:∀e:Y,J rs true true e<=J rs false true e:=by
  intro e;exact adZ rs e
 cases h with
 |basic a b=>intro e he;simp[Y.li]at he
 |uni a=>intro e he;simp[Y.li]at he
 |named a b c=>intro e he;simp[Y.li]at he
 |al a b c=>intro e he;simp[Y.li]at he;subst he;rw[bw (l:=[e])];rcases a with rfl|rfl<;>simp[Js]
 |st a b c=>
  rename_i n m va nm tg l
  intro e he;have hm:J rs true true e<=Js rs true true l:=jP he;rw[bw (l:=l)];simp;omega
 |ifc=>simp[Y.ld]at hk
 |one a b c d=>intro e he;simp[Y.li]at he;subst he;have:=hft e;rw[bw (l:=[e])];rcases a with rfl|rfl|rfl<;>simp[Js]<;>omega
 |mp a b=>
  rename_i n m va nm tg x y
  intro e he;have hm:J rs false true e<=Js rs false true [x,y]:=jP he;have:=hft e;rw[bw (l:=[x,y])];simp;omega
 |fn a b c d=>
  rename_i n m va nm tg l
  intro e he;have hm:J rs false true e<=Js rs false true l:=jP he;have:=hft e;rw[bw (l:=l)];simp;omega
 |ti a b=>exact absurd a i5
 |un a b c d=>exact absurd a i5
def xr(hm:MC NS A w rs cs N):∀(n:Nat) (t:Y),dp t<=n->∀k,N+8*n<=k->MT NS P0 A w rs cs N k t:=by
 intro n
 induction n with
 |zero=>intro t h;have:=Sv t;omega
 |succ n ih=>
  intro t hd k hk v f h hN g;obtain⟨k,rfl⟩:∃hp,k=hp+4:=⟨k - 4,M⟩;rw[gT];by_cases U:t.ld=2
  .rw[jQ7 U];cases h with
   |al a b c=>
    rename_i kd n' m va nm tg e
    have hkd:kd=2:=U;subst hkd;show∃r,(some e).bind _=some r/\_;simp only[jQa];obtain⟨r,r1,r2⟩:=ih e (V5 (gA (t:=.mk 2 n' m va nm tg [e]) (e:=e) (by simp[Y.li]))) (k+3) M v f c (by rw[bw]at hN;simp[Js]at hN;omega) g;exact⟨r,r1,λh=>.al (.inl rfl) b (r2 h)⟩
   |uni a=>rename_i kk _ _ _ _ _;simp[Y.ld]at U;omega
   |one a=>rename_i kk _ _ _ _ _ _ _ _ _;simp[Y.ld]at U;omega
   |_=>simp[Y.ld]at U
  .rw[jQ4 U];by_cases bH:t.ld=10
   .rw[jQ7 bH];exact tF hm M h bH hN (λe he=>ih e (V5 (gA he)) k M) (λe he=>ih e (V5 (gA he)) (k+1) M)
     (λe he x H=>ih x (V6 (gA he) (gA H)) k M) (λe he x H y hy=>ih y (by have:=gA he;have:=gA H;have:=gA hy;omega) k M) g
   .rw[jQ4 bH];obtain⟨c,hc⟩:∃c,po (some g) (bh (general w (k+3) t))=some c:=rW ⟨g,rfl⟩ (bc (qJ hm.hw.plain (Qc.qb cs 50 hm.err).plain (k+3) (h.vf (v':=true) (f':=true)) M));rw[hc];cases c with
    |false=>exact⟨false,rfl,i6⟩
    |true=>
     obtain⟨v',zw⟩:=Pd h bH;have hT:∀e∈t.li,MT NS P0 A w rs cs N (k+2) e:=λe he=>ih e (V5 (gA he)) (k+2) M;have hJe:=XF (rs:=rs) h bH;obtain⟨b,b1,b2⟩:=vg hT zw (λe he=>by have:=hJe e he;omega);show∃r,allMeant w (k+3) t.li=some r/\_;rw[b1];refine⟨b,rfl,λhb=>?_⟩;subst hb;have eO:=iE (p:=λt=>gT w (k+2) t false) (l:=t.li) (by rw[allMeant]at b1;exact b1);refine h.ad1 bH rfl (λh5=>⟨?_,λh=>absurd h bH,λh=>absurd h bH⟩) (λe he v1 f1 j=>?_)
     .cases h with
      |st a _ _=>exact a
      |uni a=>rename_i kk _ _ _ _ _;simp[Y.ld]at h5;omega
      |al a=>rename_i kk _ _ _ _ _ _ _ _;simp[Y.ld]at h5;omega
      |one a=>rename_i kk _ _ _ _ _ _ _ _ _;simp[Y.ld]at h5;omega
      |_=>simp[Y.ld]at h5
     .obtain⟨r,r1,r2⟩:=hT e he v1 f1 j (V5 (hJe e he)) false;rw[eO e he]at r1;cases r1;exact r2 rfl
end S
