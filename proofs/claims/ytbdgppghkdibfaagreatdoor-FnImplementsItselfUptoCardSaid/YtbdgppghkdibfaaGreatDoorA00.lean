import Derived.Calls
import Derived.Test.YtbdgppghkdibfaaGreatDoorMc
set_option linter.all false
set_option maxHeartbeats 16000000
set_option maxRecDepth 20000
namespace Go.Proofs.YtbdgppghkdibfaaGreatDoor
variable{f' g v':Bool}{NS:List ByteArray}{cs:List Nat}{N b' i nw nw':Nat}{A A':Qx}{GT:Prop}{α β:Type}
def jQ0:type_of% @Nat.le_refl:=@Nat.le_refl
def jQ4:type_of% @if_neg:=@if_neg
def jQ7:type_of% @if_pos:=@if_pos
def jQ8:type_of% @List.mem_of_getElem?:=@List.mem_of_getElem?
def jQa:type_of% @Option.bind_some:=@Option.bind_some
def jQc:type_of% @Nat.zero_le:=@Nat.zero_le
def jQd:type_of% @Nat.le_trans:=@Nat.le_trans
def jQm:type_of% @List.mem_append:=@List.mem_append
def jQn:type_of% @List.mem_cons:=@List.mem_cons
def jQu:type_of% @List.mem_map:=@List.mem_map
def jR7:type_of% @List.length_map:=@List.length_map
def jRg:type_of% @Nat.le_max_right:=@Nat.le_max_right
def jRs:type_of% @Nat.le_max_left:=@Nat.le_max_left
def M166(h:GT:=by
 exact⟨_,rfl⟩):GT:=h
def M46(h:GT:=by
 have hb:∀{md v f},PL nw NS Q A md v f (.mk 1 16 0 false es es []):=.basic i5 i5;refine .ifc i5 i5 i5 i6 i6 ?_ ?_ i6 hq.err
 .intro e he;simp at he;subst he;exact⟨rfl,by decide+kernel,hq.Xh⟩
 .intro e he;simp at he;subst he;exact .fn i5 i5 (by intro h;cases h) (by intro e he;simp at he;subst he;exact hb)):GT:=h
def M86(h:GT:=by
 cases U with
 |uni h=>rw[R0];simp[Y.ld]at ka;subst ka;rw[bw]at h3;simp at h3;omega
 |al h=>rename_i k _ _ _ _ _ _ _ _;simp[Y.ld]at ka;omega
 |one h=>rename_i k _ _ _ _ _ _ _ _ _;simp[Y.ld]at ka;omega
 |_=>simp[Y.ld]at ka):GT:=h
namespace S
inductive Y where
 |mk (ld n m:Int) (va:Bool) (name gc:ByteArray) (li:List Y)
 deriving Inhabited
variable{u x:Y}{Ua:Y->Y->Option Bool}{Q Q':Y->Prop}
def Y.ld:Y->Int|.mk k _ _ _ _ _ _=>k
def Y.n:Y->Int|.mk _ n _ _ _ _ _=>n
def Y.m:Y->Int|.mk _ _ m _ _ _ _=>m
def Y.va:Y->Bool|.mk _ _ _ v _ _ _=>v
def Y.name:Y->ByteArray|.mk _ _ _ _ s _ _=>s
def Y.gc:Y->ByteArray|.mk _ _ _ _ _ s _=>s
def Y.li:Y->List Y|.mk _ _ _ _ _ _ l=>l
def Y.setName:Y->ByteArray->Y|.mk k n m v _ t l,s=>.mk k n m v s t l
structure aH where
 name:ByteArray
 ptr:Bool
 sig:Y
 deriving Inhabited
structure ah where
 gt:Y
 lw:List aH
 deriving Inhabited
abbrev es:ByteArray:=ByteArray.empty
def tk(k:Int)(l:List Y):Y:=.mk k 0 0 false es es l
def fD:Y:=tk 10 []
def aE(a b:ByteArray):Bool:=decide (a=b)
def str(l:List UInt8):ByteArray:=⟨l.toArray⟩
def fC:Y:=.mk 10 0 1 false es es [.mk 7 0 0 false (str [69,114,114,111,114]) es [.mk 1 16 0 false es es []]]
def anyM{α:Type}(p:α->Option Bool):List α->Option Bool
 |[]=>some false
 |a::l=>(p a).bind λb=>if b then some true else anyM p l
def jW(m:Int)(l:List Y):Option (List Y):=if 0<=m/\m<=l.length then some (l.drop m.toNat)else none
def mq(m:Int)(l:List Y):Option (List Y):=if 0<=m/\m<=l.length then some (l.take m.toNat)else none
def bare:Y->Option Y
 |.mk k n m v s t l=>
  if k=2 then(match l with|[]=>none|e::_=>bare e)
  else if k=14 then some fD
  else some (.mk k n m v s t l)
def fo(k n m:Int)(v:Bool)(s t l):bare (.mk k n m v s t l)=
 if k=2 then(match l with|[]=>none|e::_=>bare e)else if k=14 then some fD else some (.mk k n m v s t l):=by
 cases l<;>rw[bare]
def gt(w:List ah)(t:Y):Option Y:=
 (bare t).bind λt=>
  if t.ld=11 then(if 0<=t.n then(w[t.n.toNat]?).map (·.gt)else none)
  else if t.ld=15 then some fC
  else some t
def isIface(w:List ah)(t:Y):Option Bool:=(gt w t).map λu=>u.ld==10||u.ld==16
def within(n ahm:Int):Bool:=decide (n≥0)&&decide (n<ahm)
def isNameL:Nat->List UInt8->Bool
 |_,[]=>true
 |i,c::l=>
  let small:=decide (c≥97)&&decide (c<=122)
  if (decide (c<65)||decide (c>90))&&(!small||i==0)then false else isNameL (i+1) l
def isName(s:ByteArray):Bool:=isNameL 0 s.toList&&(decide (s.size≥1)&&decide (s.size<=8))
def fy(a b:Option Bool):Option Bool:=a.bind λx=>if x then b else some false
def po(a b:Option Bool):Option Bool:=a.bind λx=>if x then some true else b
def bh(a:Option Bool):Option Bool:=a.map λx=>!x
def rangeM{α β:Type}(f:Nat->α->Option (Option β)):Nat->List α->Option (Option β)
 |_,[]=>some none
 |i,a::l=>(f i a).bind λr=>match r with|some b=>some (some b)|none=>rangeM f (i+1) l
def foldM{α σ:Type}(f:σ->α->Option σ):σ->List α->Option σ
 |s,[]=>some s
 |s,a::l=>(f s a).bind λs'=>foldM f s' l
def general(w:List ah):Nat->Y->Option Bool
 |0,_=>none
 |k+1,t=>(gt w t).bind λu=>
  if u.ld≠10 then some (u.ld==16)
  else(jW u.m u.li).bind λl=>anyM (λe=>
   if e.ld=12 then some true else if e.ld=13 then some true
   else po (bh (isIface w e)) (general w k e)) l
def bB(a b:Y):Bool:=Go.Op.bytesLess a.name.toList b.name.toList
def oG(l:List Y):Option (List Y):=if (l.map (·.name)).Nodup/\l.length<=1099511627776 then some (l.mergeSort λa b=>!bB b a)else none
def fW(out:List Y)(m:Y):List Y:=if out.any (λf=>aE f.name m.name)then out else out++[m]
def qR(rq:Y->Option (List Y))(w:List ah)(out:List Y)(e:Y):Option (List Y):=
 if e.ld=12 then some out else if e.ld=13 then some out
 else(isIface w e).bind λi=>if !i then some out else(rq e).map λms=>ms.foldl fW out
def required(w:List ah):Nat->Y->Option (List Y)
 |0,_=>none
 |k+1,t=>(gt w t).bind λu=>
  if u.ld≠10 then some []
  else(mq u.m u.li).bind λout=>(jW u.m u.li).bind λl=>
   (foldM (qR (required w k) w) out l).bind oG
def lim{α:Type}(l:List α):Option (List α):=if l.length<=1099511627776 then some l else none
def rz(w:List ah)(t:Y)(p:Bool):Option (List Y):=
 if t.ld≠11 then some []else
  if 0<=t.n then(w[t.n.toNat]?).bind λd=>lim ((d.lw.filter λm=>p||!m.ptr).map λm=>m.sig.setName m.name)else none
def kK(w:List ah)(t:Y):Option (List Y):=
 (bare t).bind λt=>
  if t.ld=6 then(t.li[0]?).bind λe=>(bare e).bind λt=>rz w t true
  else rz w t false
def hasAll(id:Y->Y->Option Bool)(l want:List Y):Option Bool:=
 (rangeM (λ_ m=>(bh (anyM (λf=>if f.name=m.name then id f m else some false) l)).map λb=>if b then some false else none) 0 want).map λr=>r.getD true
def termsOf(w:List ah):Nat->Y->Option (List Y)
 |0,_=>none
 |k+1,t=>(bare t).bind λt=>
  if t.ld=13 then some t.li
  else
   (if t.ld=12 then some (some t.li)
    else(isIface w t).bind λi=>if !i then some none
     else(gt w t).bind λu=>if u.ld≠10 then some (some [])else(jW u.m u.li).map some).bind λparts=>
   match parts with
   |none=>some [t]
   |some l=>foldM (λout e=>(termsOf w k e).bind λts=>lim (out++ts)) [] l
def eM(u:Y):Bool:=u.ld !=6&&(u.ld !=1||u.n !=17)
def ew(ms:List aH)(s:List ah×List Y)(u:Y):List ah×List Y:=
 (s.1++[{gt:=u,lw:=if eM u then ms else[]}],s.2++[.mk 11 s.1.length 0 false es es []])
def alone(n:Nat):Y:=tk 5 [.mk 3 n 0 false (str [63]) es [tk 1 []]]
def samples(k:Nat)(w:List ah)(v t:Y):Option (List ah×List Y):=
 (bare v).bind λbv=>if bv.ld=13 then none else
 (required w k v).bind λms=>(termsOf w k v).bind λa=>(termsOf w k t).bind λb=>(lim (a++b)).bind λab=>
  let lw:=ms.map λm=>{name:=m.name,ptr:=false,sig:=m}
  (foldM (λs x=>(gt s.1 x).map λu=>ew lw (s.1,s.2++[x]) u) (w,[]) ab).bind λs=>
   let al:=alone s.1.length
   let r:=ew lw (ew lw s al) (tk 4 [al])
   if r.1.length<=1099511627776/\r.2.length<=1099511627776 then some r else none
def compared(w:List ah):Nat->Y->Bool->Option Bool
 |0,_,_=>none
 |k+1,t,Jg=>(isIface w t).bind λi=>
  if i then some (!Jg)
  else(gt w t).bind λu=>
   if u.ld=1\/u.ld=6\/u.ld=9 then some true
   else if u.ld=5\/u.ld=3 then bh (anyM (λe=>bh (compared w k e Jg)) u.li)
   else some false
def inSet(id:Y->Y->Option Bool)(f:Nat)(w:List ah):Nat->Y->Y->Option Bool
 |0,_,_=>none
 |k+1,x,t=>(bare t).bind λt=>
  if t.ld=12 then anyM (λe=>inSet id f w k x e) t.li
  else if t.ld=13 then(gt w x).bind λux=>(t.li[0]?).bind λe=>id ux e
  else if t.ld=16 then compared w f x true
  else(isIface w t).bind λi=>
   if !i then id x t
   else(gt w t).bind λu=>
    if u.ld=16 then compared w f x true
    else(kK w x).bind λms=>(mq u.m u.li).bind λwant=>(hasAll id ms want).bind λh=>
     if !h then some false
     else(jW u.m u.li).bind λl=>bh (anyM (λe=>bh (inSet id f w k x e)) l)
def subset(id:List ah->Y->Y->Option Bool)(f:Nat)(w:List ah)(v t:Y):Option Bool:=
 (samples f w v t).bind λs=>
  bh (anyM (λx=>fy (inSet (id s.1) f s.1 f x v) (bh (inSet (id s.1) f s.1 f x t))) s.2)
def PI(id:List ah->Y->Y->Option Bool)(f:Nat)(w:List ah)(t:Y):Option Bool:=
 (samples f w t t).bind λs=>anyM (λx=>inSet (id s.1) f s.1 f x t) s.2
def Gd(id:List ah->Y->Y->Option Bool)(f:Nat)(w:List ah)(x y:Y):Option Bool:=
 (fy (bh (general w f x)) (bh (general w f y))).bind λbasic=>
  if basic then
   (required w f x).bind λa=>(required w f y).bind λb=>
    if a.length=b.length then hasAll (id w) a b else some false
  else fy (subset id f w x y) (subset id f w y x)
def ident:Nat->List ah->Y->Y->Option Bool
 |0,_,_,_=>none
 |k+1,w,x,y=>(bare x).bind λx=>(bare y).bind λy=>
  if x.ld≠y.ld then some false
  else if x.li.length≠y.li.length/\x.ld≠10 then some false
  else if x.ld=10 then Gd (ident k) k w x y
  else if (x.ld=1\/x.ld=3\/x.ld=9\/x.ld=11)/\x.n≠y.n then some false
  else if x.ld=7/\(x.m≠y.m\/x.va≠y.va)then some false
  else if x.ld=5/\(List.zip x.li y.li).any (λp=>!aE p.1.name p.2.name||!aE p.1.gc p.2.gc)then some false
  else(rangeM (λi e=>(y.li[i]?).bind λe'=>(ident k w e e').map λb=>if b then none else some false) 0 x.li).map λr=>r.getD true
def implements(k:Nat)(w:List ah)(v t:Y):Option Bool:=
 (isIface w v).bind λi=>if i then subset (ident k) k w v t else inSet (ident k w) k w k v t
def strict(k:Nat)(w:List ah)(t:Y):Option (Y×Bool):=
 (required w k t).bind λm=>
  let basic:Y:=.mk 10 0 m.length false es es m
  let wth:Y:=.mk 10 0 m.length false es es (m++[tk 16 []])
  (fy (subset (ident k) k w t wth) (subset (ident k) k w wth t)).map λb=>(basic,b)
def adg(k:Nat)(w:List ah)(v t:Y):Option Bool:=
 (implements k w v t).bind λi=>if i then some true else
  (strict k w t).bind λe=>fy (fy (some e.2) (compared w k v false)) (implements k w v e.1)
def Yg(u:Y)(methods:List Y):Option Bool:=
 (bare u).map λu=>eM u&&(u.ld !=5||!(u.li.any λf=>methods.any λm=>aE m.name f.name))
def apart(w:List ah):Nat->Y->List Y->Option Bool
 |0,_,_=>none
 |k+1,t,asked=>(bare t).bind λt=>
  if t.ld=13 then(if asked.length=0 then some true else(t.li[0]?).bind λe=>Yg e asked)
  else if t.ld=12 then bh (anyM (λe=>bh (apart w k e asked)) t.li)
  else(isIface w t).bind λi=>
   if !i then(if asked.length=0 then(kK w t).map λl=>l.length==0 else some false)
   else(gt w t).bind λu=>if u.ld≠10 then some true
    else(jW u.m u.li).bind λl=>bh (anyM (λe=>bh (apart w k e asked)) l)
def clear(k:Nat)(w:List ah)(t:Y):Option Bool:=
 (PI (ident k) k w t).bind λi=>if !i then some false else
  (required w k t).bind λr=>apart w k t r
structure Place where
 decls:Int
 value:Bool
 term:Bool
 deriving Inhabited
def mD(l:List Y)(i:Nat)(f:Y):Bool:=(l.take i).any λg=>aE g.name f.name
mutual
def placed (w:List ah):Nat->Y->Place->Option Bool
 |0,_,_=>none
 |k+1,t,p=>
  let n:Int:=t.li.length
  if t.ld=1 then some (within t.n 18&&n==0)
  else if t.ld=14\/t.ld=15\/t.ld=16 then some (n==0)
  else if t.ld=11 then some (within t.n w.length&&((!p.value&&!p.term)||decide (t.n<p.decls))&&n==0)
  else if t.ld=2\/t.ld=3 then(if t.n≥0/\n=1 then allPlaced w k t.li p else some false)
  else if t.ld=5 then
   if (t.li.zipIdx).any (λq=>!isName q.1.name||mD t.li q.2 q.1)then some false else allPlaced w k t.li p
  else if t.ld=10 then placedInterface w k t p
  else
   let p:={p with value:=false}
   if t.ld=4\/t.ld=6\/t.ld=9 then(if within t.n 3/\n=1 then allPlaced w k t.li p else some false)
   else if t.ld=8 then(if n=2 then allPlaced w k t.li p else some false)
   else if t.ld=7 then
    if within t.m (n+1)then
     if !t.va then allPlaced w k t.li p
     else if t.m>0 then(t.li[(t.m - 1).toNat]?).bind λe=>if e.ld=4 then allPlaced w k t.li p else some false
     else some false
    else some false
   else some false
def allPlaced (w:List ah):Nat->List Y->Place->Option Bool
 |0,_,_=>none
 |k+1,l,p=>bh (anyM (λt=>bh (placed w k t p)) l)
def placedInterface (w:List ah):Nat->Y->Place->Option Bool
 |0,_,_=>none
 |k+1,t,p=>
  let n:Int:=t.li.length
  if !within t.m (n+1)then some false
  else if n - t.m>4 then some false
  else
   let p:={p with value:=false}
   (rangeM (λi m=>
    if m.ld≠7 then some (some false)else if !isName m.name then some (some false)
    else if i>0/\!(bB (t.li.getD (i - 1) default) m)then some (some false)
    else(placed w k m p).map λb=>if b then none else some false) 0 (t.li.take t.m.toNat)).bind λr=>
   match r with
   |some b=>some b
   |none=>
    let p:={p with value:=true,term:=true}
    bh (anyM (λe=>bh (dz w k e p)) (t.li.drop t.m.toNat))
def dz (w:List ah):Nat->Y->Place->Option Bool
 |0,_,_=>none
 |k+1,e,p=>
  if e.ld≠12 then placedTerm w k e p
  else if e.li.length≥2/\e.li.length<=8 then bh (anyM (λx=>bh (placedTerm w k x p)) e.li)else some false
def placedTerm (w:List ah):Nat->Y->Place->Option Bool
 |0,_,_=>none
 |k+1,x,p=>
  if x.ld=13 then(match x.li with|[e]=>placed w k e p|_=>some false)
  else placed w k x p
end
def bU(w:List ah)(e:Y):Option Bool:=
 if e.ld=12 then some false else if e.ld=13 then some false else isIface w e
def gD(w:List ah):Nat->Y->Option Bool
 |0,_=>none
 |k+1,t=>(gt w t).bind λu=>
  if u.ld=16 then some true
  else(jW u.m u.li).bind λl=>anyM (λe=>fy (bU w e) (gD w k e)) l
def written(w:List ah):Nat->Y->Option Int
 |0,_=>none
 |k+1,t=>(gt w t).bind λu=>
  if u.ld≠10 then some 1
  else(jW u.m u.li).bind λl=>
   let step (s:Int×Option Int) (x:Y):Option (Int×Option Int):=
    match s.2 with
    |some r=>some (s.1,some r)
    |none=>
     if s.1>50 then some (s.1,some s.1)
     else if x.ld=13 then some (s.1+1,none)
     else(isIface w x).bind λi=>if !i then some (s.1+1,none)else(written w k x).map λn=>(s.1+n,none)
   (foldM (λs e=>foldM step s (if e.ld=12 then e.li else[e])) (0,none) l).map λs=>s.2.getD s.1
def iR(k:Nat)(w:List ah)(x y:Y):Option Bool:=
 (if x.ld=13 then x.li[0]? else some x).bind λa=>
 (if y.ld=13 then y.li[0]? else some y).bind λb=>
 (po (isIface w a) (isIface w b)).bind λi=>
  if i then some true
  else if x.ld=13 then(gt w b).bind λub=>bh (ident k w a ub)
  else if y.ld=13 then(gt w a).bind λua=>bh (ident k w ua b)
  else bh (ident k w a b)
def agree(k:Nat)(w:List ah)(t:Y):Option Bool:=
 (required w k t).bind λl=>(jW t.m t.li).bind λes=>
  bh (anyM (λe=>fy (bU w e) ((required w k e).bind λr=>bh (hasAll (ident k w) l r))) es)
mutual
def gT (w:List ah):Nat->Y->Bool->Option Bool
 |0,_,_=>none
 |k+1,t,g=>
  if t.ld=2 then(t.li[0]?).bind λe=>gT w k e g
  else if t.ld=10 then fZ w k t g
  else fy (po (some g) (bh (general w k t))) (allMeant w k t.li)
def allMeant (w:List ah):Nat->List Y->Option Bool
 |0,_=>none
 |k+1,l=>bh (anyM (λt=>bh (gT w k t false)) l)
def fZ (w:List ah):Nat->Y->Bool->Option Bool
 |0,_,_=>none
 |k+1,t,g=>(jW t.m t.li).bind λl=>
  (rangeM (λ_ e=>(df w k e g).map λb=>if b then none else some false) 0 l).bind λr=>
   match r with
   |some b=>some b
   |none=>(mq t.m t.li).bind λms=>fy (fy (allMeant w k ms) (agree k w t)) ((written w k t).map λn=>decide (n<=50))
def df (w:List ah):Nat->Y->Bool->Option Bool
 |0,_,_=>none
 |k+1,e,g=>
  if e.ld≠12 then fy (dY w k e) (po (some g) (fy (bU w e) (bh (general w k e))))
  else
   (rangeM (λi x=>
    (po (po (bh (dY w k x))
     (fy (bU w x) (po ((required w k x).map λr=>decide (r.length>0)) (gD w k x))))
     (anyM (λy=>bh (iR k w x y)) (e.li.take i))).map λb=>if b then some false else none) 0 e.li).map λr=>
   match r with
   |some b=>b
   |none=>g
def dY (w:List ah):Nat->Y->Option Bool
 |0,_=>none
 |k+1,x=>
  if x.ld=13 then(x.li[0]?).bind λe=>
   fy (fy (gT w k e false) (bh (isIface w e))) ((gt w e).bind λu=>ident k w e u)
  else(isIface w x).bind λi=>gT w k x i
end
def fS(k:Nat)(w:List ah)(d:ah)(number:Int):Option Bool:=
 let kd:=d.gt.ld
 let p:Place:={decls:=number,value:=false,term:=false}
 if kd<1\/kd=2\/kd>10 then some false
 else(placed w k d.gt {p with value:=true}).bind λb=>
  if !b then some false
  else(rangeM (λi m=>
   if !isName m.name then some (some false)else if m.sig.ld≠7 then some (some false)
   else(placed w k m.sig p).bind λb=>if !b then some (some false)
   else if (d.lw.take i).any (λx=>aE x.name m.name)then some (some false)
   else if d.gt.li.any (λf=>kd==5&&aE f.name m.name)then some (some false)
   else some none) 0 d.lw).map λr=>
   match r with
   |some b=>b
   |none=>d.lw.length==0||(kd !=10&&eM d.gt)
def fB(k:Nat)(w:List ah)(d:ah):Option Bool:=
 fy (gT w k d.gt true) (bh (anyM (λm=>bh (gT w k m.sig false)) d.lw))
def valid(k:Nat)(w:List ah):Option Bool:=
 (rangeM (λi d=>(fS k w d i).map λb=>if b then none else some false) 0 w).bind λr=>
  match r with
  |some b=>some b
  |none=>bh (anyM (λd=>bh (fB k w d)) w)
def right(k:Nat)(w:List ah)(l:List Y):Option Bool:=
 fy (allPlaced w k l {decls:=w.length,value:=false,term:=false}) (allMeant w k l)
def nZ(k:Nat)(w:List ah)(l:List Y):Option Bool:=
 bh (anyM (λt=>po (po (bh (placed w k t {decls:=w.length,value:=false,term:=false})) (bh (isIface w t))) (bh (gT w k t true))) l)
end S
open S
variable{u x:Y}{Ua:Y->Y->Option Bool}{Q Q':Y->Prop}
namespace P
open S
def una:Y->Y
 |.mk k n m v s t l=>if k=2 then(match l with|[]=>fD|e::_=>una e)else if k=14 then fD else .mk k n m v s t l
def hZ(k n m:Int)(v:Bool)(s t l):una (.mk k n m v s t l)=
 if k=2 then(match l with|[]=>fD|e::_=>una e)else if k=14 then fD else .mk k n m v s t l:=by
 cases l<;>rw[una]
def da:Y:=tk 17 []
def oZ(w:List ah)(t:Y):Y:=
 if t.ld=11 then((w[t.n.toNat]?).map (·.gt)).getD t else if t.ld=15 then fC else if t.ld=16 then da else t
def az(w:List ah)(t:Y):Y:=oZ w (una t)
def isIf(t:Y):Bool:=t.ld==10||t.ld==17
structure Tm where
 dO:Bool
 jg:Option Y
 deriving Inhabited
def fu:Tm:=⟨false,none⟩
structure TS where
 lw:List Y
 terms:List (Option Tm)
 comp:Bool
 deriving Inhabited
def aK(l:List (Option Tm)):Bool:=!l.any (·.isSome)
def isAllL(l:List (Option Tm)):Bool:=l.any λx=>match x with|some x=>x.jg.isNone|none=>false
section
variable(id:Y->Y->Bool)(w:List ah)
def l6(x y:Y)(tx ty:Bool):Bool:=!id (if ty then az w x else x) (if tx then az w y else y)
def unionT(x y:Tm):Tm×Option Tm:=
 match x.jg,y.jg with
 |none,_=>(x,none)
 |_,none=>(y,none)
 |some a,some b=>if l6 id w a b x.dO y.dO then(x,some y)else if x.dO||!y.dO then(x,none)else(y,none)
def interT(x y:Option Tm):Option Tm:=
 match x,y with
 |none,_=>none
 |_,none=>none
 |some x,some y=>
  match x.jg,y.jg with
  |none,_=>some y
  |_,none=>some x
  |some a,some b=>if l6 id w a b x.dO y.dO then none else if !x.dO||y.dO then some x else some y
def subT(x y:Option Tm):Bool:=
 match x,y with
 |none,_=>true
 |_,none=>false
 |some x,some y=>
  match x.jg,y.jg with
  |_,none=>true
  |none,_=>false
  |some a,some b=>if l6 id w a b x.dO y.dO then false else !x.dO||y.dO
def CZ(x:Option Tm)(t:Y):Bool:=
 match x with
 |none=>false
 |some x=>match x.jg with
  |none=>true
  |some a=>id a (if x.dO then az w t else t)
def absorb:Tm->List (Option Tm)->Option (Tm×List (Option Tm))
 |x,[]=>some (x,[])
 |x,none::l=>(absorb x l).map λr=>(r.1,none::r.2)
 |x,some y::l=>
  match unionT id w x y with
  |(u,none)=>if u.jg.isNone then none else(absorb u l).map λr=>(r.1,none::r.2)
  |(_,some _)=>(absorb x l).map λr=>(r.1,some y::r.2)
def normA:Nat->List (Option Tm)->Option (List (Option Tm))
 |0,_=>some []
 |_,[]=>some []
 |k+1,none::l=>normA k l
 |k+1,some x::l=>(absorb id w x l).bind λr=>(normA k r.2).map λq=>some r.1::q
def norm(l:List (Option Tm)):List (Option Tm):=(normA id w l.length l).getD [some fu]
def kv(x y:List (Option Tm)):List (Option Tm):=norm id w (x++y)
def eH(x y:List (Option Tm)):List (Option Tm):=
 if aK x||aK y then[]else norm id w ((x.flatMap λa=>y.map λb=>interT id w a b).filter (·.isSome))
def tD(xl:List (Option Tm))(y:Option Tm):Bool:=xl.any λx=>subT id w y x
def nJ(xl yl:List (Option Tm)):Bool:=if aK yl then aK xl else xl.all λx=>tD id w yl x
def Pa(xl yl:List (Option Tm)):Bool:=nJ id w xl yl&&nJ id w yl xl
def keepT(cmp:Y->Bool)(x:Option Tm):Bool:=match x with|some x=>(match x.jg with|some a=>cmp a|none=>true)|none=>true
def eJ(cmp:Y->Bool)(x:List (Option Tm))(xc:Bool)(y:List (Option Tm))(yc:Bool):List (Option Tm)×Bool:=
 let ts:=eH id w x y
 if (xc||yc)&&!isAllL ts then
  let r:=ts.filter (keepT cmp)
  (r,isAllL r)
 else(ts,xc||yc)
end
def lF(l:List Y)(m:Y):List Y:=if l.any (λf=>aE f.name m.name)then l else l++[m]
def ib(l:List Y):List Y:=l.mergeSort λa b=>!bB b a
def own(t:Y):List Y:=t.li.take t.m.toNat
def bN(t:Y):List Y:=t.li.drop t.m.toNat
structure Fs where
 id:Y->Y->Bool
 cmp:Y->Bool->Bool
 ts:Y->TS
def oq(F:Fs)(w:List ah)(e:Y):List (Option Tm):=
 let til:=e.ld==13
 let x:=if til then e.li.headD fD else e
 let u:=az w x
 if isIf u then(F.ts u).terms else if til&&!F.id x u then[none]else[some ⟨til,some x⟩]
def unionTerms(F:Fs)(w:List ah):List (Option Tm)->List Y->Option (List (Option Tm))
 |a,[]=>some a
 |a,e::l=>
  let r:=kv F.id w a (oq F w e)
  if r.length>100 then none else unionTerms F w r l
structure Acc where
 ms:List Y
 terms:List (Option Tm)
 comp:Bool
def gu(F:Fs)(w:List ah)(e:Y):Option Acc:=
 if e.ld=12 then(unionTerms F w [] e.li).map λts=>⟨[],ts,false⟩
 else if e.ld=13 then(unionTerms F w [] [e]).map λts=>⟨[],ts,false⟩
 else
  let u:=az w e
  if isIf u then some ⟨(F.ts u).lw,(F.ts u).terms,(F.ts u).comp⟩else some ⟨[],[some ⟨false,some e⟩],false⟩
def eG(F:Fs)(w:List ah)(a:Acc)(e:Y):Acc:=
 match gu F w e with
 |none=>a
 |some i=>
  let r:=eJ F.id w (λt=>F.cmp t false) a.terms a.comp i.terms i.comp
  ⟨i.ms.foldl lF a.ms,r.1,r.2⟩
def iH(F:Fs)(w:List ah)(t:Y):TS:=
 if t.ld=17 then⟨[],[some fu],true⟩
 else
  let r:=(bN t).foldl (eG F w) ⟨(own t).foldl lF [],[some fu],false⟩
  ⟨ib r.ms,r.terms,r.comp⟩
def lB(F:Fs)(s:TS):Bool:=
 if isAllL s.terms then s.comp
 else if aK s.terms then false
 else s.terms.all λx=>match x with|some x=>(match x.jg with|some a=>F.cmp a false|none=>true)|none=>false
def bX(F:Fs)(w:List ah)(t:Y)(dyn:Bool):Bool:=
 let u:=az w t
 if u.ld=1\/u.ld=6\/u.ld=9 then true
 else if u.ld=5 then u.li.all λe=>F.cmp e dyn
 else if u.ld=3 then(u.li.headD fD |> λe=>F.cmp e dyn)
 else if isIf u then dyn||lB F (F.ts u)
 else false
def idL(id:Y->Y->Bool):List Y->List Y->Bool
 |[],[]=>true
 |a::l,b::l'=>id a b&&idL id l l'
 |_,_=>false
def jQ(F:Fs)(w:List ah)(x y:Y):Bool:=
 let x:=una x;let y:=una y
 if isIf x&&isIf y then
  (F.ts x).comp==(F.ts y).comp&&Pa F.id w (F.ts x).terms (F.ts y).terms&&((F.ts x).lw.length==(F.ts y).lw.length)&&
   ((F.ts x).lw.zip (F.ts y).lw).all λp=>aE p.1.name p.2.name&&F.id p.1 p.2
 else if x.ld≠y.ld then false
 else if x.ld=1\/x.ld=11 then x.n==y.n
 else if x.ld=15\/x.ld=16 then true
 else if x.ld=3\/x.ld=9 then x.n==y.n&&idL F.id x.li y.li
 else if x.ld=4\/x.ld=6\/x.ld=8 then idL F.id x.li y.li
 else if x.ld=5 then x.li.length==y.li.length&&(x.li.zip y.li).all λp=>aE p.1.gc p.2.gc&&aE p.1.name p.2.name&&F.id p.1 p.2
 else if x.ld=7 then x.va==y.va&&idL F.id (own x) (own y)&&idL F.id (bN x) (bN y)
 else false
def fs(w:List ah):Nat->Fs
 |0=>⟨λ_ _=>false,λ_ _=>false,λ_=>⟨[],[],false⟩⟩
 |k+1=>⟨jQ (fs w k) w,bX (fs w k) w,iH (fs w k) w⟩
def jB(w:List ah)(v:Y)(name:ByteArray):Option Y:=
 let b:=una v
 let ptr:=b.ld==6
 let t:=una (if ptr then b.li.headD fD else b)
 if t.ld=11 then((w[t.n.toNat]?).bind λd=>d.lw.find? λm=>aE m.name name).bind λm=>if m.ptr&&!ptr then none else some m.sig
 else none
def eh(F:Fs)(w:List ah)(v:Y)(want:List Y):Bool:=
 let u:=az w v
 want.all λm=>match(if isIf u then(F.ts u).lw.find? λf=>aE f.name m.name else jB w v m.name)with|some f=>F.id f m|none=>false
def impl(F:Fs)(w:List ah)(v t:Y)(con:Bool):Bool:=
 let vu:=az w v;let tu:=az w t
 if !isIf tu then false
 else
  let s:=F.ts tu
  if !s.comp&&isAllL s.terms&&s.lw.length==0 then true
  else if isIf vu&&aK (F.ts vu).terms then true
  else if aK s.terms then false
  else if !eh F w v s.lw then false
  else
   let cc:=!lB F s||F.cmp v false||(con&&F.cmp v true)
   if isAllL s.terms then cc
   else if isIf vu then nJ F.id w (F.ts vu).terms s.terms&&cc
   else s.terms.any (λx=>CZ F.id w x v)&&cc
end P
namespace S
inductive PL(nw:Nat)(NS:List ByteArray)(Q:Y->Prop)(A:Qx):Nat->Bool->Bool->Y->Prop
 |basic {md v f n m va nm tg}:0<=n->n<18->PL nw NS Q A md v f (.mk 1 n m va nm tg [])
 |uni {md v f k n m va nm tg}:(k=14\/k=15\/k=16)->PL nw NS Q A md v f (.mk k n m va nm tg [])
 |named {md v f} {n m:Int} {va nm tg}:0<=n->n<nw->((v||f)=true->A n.toNat)->PL nw NS Q A md v f (.mk 11 n m va nm tg [])
 |al {md v f k n m va nm tg e}:(k=2\/k=3)->0<=n->PL nw NS Q A 0 v f e->PL nw NS Q A md v f (.mk k n m va nm tg [e])
 |st {md v f n m va nm tg l}:Q (.mk 5 n m va nm tg l)->(l.map (·.name)).Nodup->(∀e∈l,PL nw NS Q A 0 v f e)->PL nw NS Q A md v f (.mk 5 n m va nm tg l)
 |ifc {md v f n m va nm tg l}:0<=m->m<=(l.length:Int)->(l.length:Int) - m<=4->((l.take m.toNat).Pairwise λa b=>bB a b=true)->((l.take m.toNat).map (·.name)).Nodup->
  (∀e∈l.take m.toNat,e.ld=7/\isName e.name=true/\e.name∈NS)->(∀e∈l.take m.toNat,PL nw NS Q A 0 false f e)->(∀e∈l.drop m.toNat,PL nw NS Q A 2 true true e)->Q (.mk 10 n m va nm tg l)->PL nw NS Q A md v f (.mk 10 n m va nm tg l)
 |one {md v f k n m va nm tg e}:(k=4\/k=6\/k=9)->0<=n->n<3->PL nw NS Q A 0 false f e->PL nw NS Q A md v f (.mk k n m va nm tg [e])
 |mp {md v f n m va nm tg a b}:PL nw NS Q A 0 false f a->PL nw NS Q A 0 false f b->PL nw NS Q A md v f (.mk 8 n m va nm tg [a,b])
 |fn {md v f n m va nm tg l}:0<=m->m<=(l.length:Int)->(va=true->0<m/\∃e,l[(m - 1).toNat]?=some e/\e.ld=4)->(∀e∈l,PL nw NS Q A 0 false f e)->PL nw NS Q A md v f (.mk 7 n m va nm tg l)
 |ti {md v f n m va nm tg e}:0<md->PL nw NS Q A 0 v f e->PL nw NS Q A md v f (.mk 13 n m va nm tg [e])
 |un {md v f n m va nm tg l}:2<=md->2<=l.length->l.length<=8->(∀e∈l,PL nw NS Q A 1 v f e)->PL nw NS Q A md v f (.mk 12 n m va nm tg l)
def PL.imp(hQ:∀t,Q t->Q' t){md:Nat}{v f:Bool}{t:Y}(h:PL nw NS Q A md v f t):PL nw NS Q' A md v f t:=by
 induction h with
 |basic a b=>exact .basic a b
 |uni a=>exact .uni a
 |named a b c=>exact .named a b c
 |al a b _ ih=>exact .al a b ih
 |st a b _ ih=>exact .st (hQ _ a) b ih
 |ifc a b c d e g _ _ q zg vq=>exact .ifc a b c d e g zg vq (hQ _ q)
 |one a b c _ ih=>exact .one a b c ih
 |mp _ _ zg vq=>exact .mp zg vq
 |fn a b c _ ih=>exact .fn a b c ih
 |ti a _ ih=>exact .ti a ih
 |un a b c _ ih=>exact .un a b c ih
def PL.eS(hn:nw<=nw')(hi:∀n,A n->A' n){md:Nat}{v f:Bool}{t:Y}(h:PL nw NS Q A md v f t):
 ∀{md':Nat} {v' f':Bool},md<=md'->(v'=true->v=true)->(f'=true->f=true)->PL nw' NS Q A' md' v' f' t:=by
 induction h with
 |basic a b=>intro _ _ _ _ _ _;exact .basic a b
 |uni a=>intro _ _ _ _ _ _;exact .uni a
 |named a b c=>
  intro _ v' f' _ I U;refine .named a M (λh=>?_);have:v'=true\/f'=true:=G9 h
  exact hi _ (c (by obtain h|h:=this;simp[I h];simp[U h]))
 |al a b _ ih=>intro _ _ _ _ I U;exact .al a b (ih (jQ0 _) I U)
 |st a b _ ih=>intro _ _ _ _ I U;exact .st a b (λe he=>ih e he (jQ0 _) I U)
 |ifc a b c d e g _ _ q zg vq=>intro _ _ _ _ I U;exact .ifc a b c d e g (λe he=>zg e he (jQ0 _) id U) (λe he=>vq e he (jQ0 _) id id) q
 |one a b c _ ih=>intro _ _ _ _ I U;exact .one a b c (ih (jQ0 _) id U)
 |mp _ _ zg vq=>intro _ _ _ _ I U;exact .mp (zg (jQ0 _) id U) (vq (jQ0 _) id U)
 |fn a b c _ ih=>intro _ _ _ _ I U;exact .fn a b c (λe he=>ih e he (jQ0 _) id U)
 |ti a _ ih=>intro _ _ _ hm I U;exact .ti M (ih (jQ0 _) I U)
 |un a b c _ ih=>intro _ _ _ hm I U;exact .un M b c (λe he=>ih e he (jQ0 _) I U)
mutual
def J (rs:List Nat) (v f:Bool):Y->Nat
 |.mk k n m _ _ _ l=>
  if k=11 then 1+(if v||f then rs.getD n.toNat 0 else 0)
  else if k=10 then 6+Ji rs f m.toNat l
  else if k=14\/k=15\/k=16 then 9
  else if k=2\/k=3\/k=5\/k=12\/k=13 then 1+Js rs v f l
  else 1+Js rs false f l
def Js (rs:List Nat) (v f:Bool):List Y->Nat
 |[]=>0
 |e::l=>max (J rs v f e) (Js rs v f l)
def Ji (rs:List Nat) (f:Bool):Nat->List Y->Nat
 |_,[]=>0
 |0,e::l=>max (J rs true true e) (Ji rs f 0 l)
 |m+1,e::l=>max (J rs false f e) (Ji rs f m l)
end
def bw(rs:List Nat)(v f:Bool)(k n m:Int)(va:Bool)(nm tg l):J rs v f (.mk k n m va nm tg l)=
 if k=11 then 1+(if v||f then rs.getD n.toNat 0 else 0)
 else if k=10 then 6+Ji rs f m.toNat l
 else if k=14\/k=15\/k=16 then 9
 else if k=2\/k=3\/k=5\/k=12\/k=13 then 1+Js rs v f l
 else 1+Js rs false f l:=by rw[J]
def jP{rs:List Nat}{v f:Bool}:∀{l:List Y} {e:Y},e∈l->J rs v f e<=Js rs v f l
 |a::l,e,h=>by
  rw[Js];rcases jQn.1 h with rfl|h
  .exact jRs _ _
  .exact jQd (jP h) (jRg _ _)
def FX{rs:List Nat}{f:Bool}:∀{m:Nat} {l:List Y} {e:Y},e∈l.drop m->J rs true true e<=Ji rs f m l
 |0,a::l,e,h=>by
  rw[Ji];rcases jQn.1 (G9 h)with rfl|h
  .exact jRs _ _
  .exact jQd (FX (m:=0) (G9 h)) (jRg _ _)
 |m+1,a::l,e,h=>by
  rw[Ji];exact jQd (FX (m:=m) (G9 h)) (jRg _ _)
 |0,[],e,h=>by simp at h
 |m+1,[],e,h=>by simp at h
def Nv{rs:List Nat}{f:Bool}:∀{m:Nat} {l:List Y} {e:Y},e∈l.take m->J rs false f e<=Ji rs f m l
 |0,l,e,h=>by simp at h
 |m+1,[],e,h=>by simp at h
 |m+1,a::l,e,h=>by
  rw[Ji];rcases jQn.1 (G9 h)with rfl|h
  .exact jRs _ _
  .exact jQd (Nv (m:=m) h) (jRg _ _)
mutual
def dM {rs:List Nat} {v f v' f':Bool} (hv:v'=true->v=true) (hf:f'=true->f=true):∀t:Y,J rs v' f' t<=J rs v f t
 |.mk k n m va nm tg l=>by
  rw[bw,bw];split
  .cases v<;>cases f<;>cases v'<;>cases f'<;>simp_all
  .split
   .have:=Ha (rs:=rs) hf m.toNat l;omega
   .split
    .exact jQ0 _
    .split
     .have:=Hb (rs:=rs) hv hf l;omega
     .have:=Hb (rs:=rs) (v:=false) (v':=false) id hf l;omega
def Hb {rs:List Nat} {v f v' f':Bool} (hv:v'=true->v=true) (hf:f'=true->f=true):∀l:List Y,Js rs v' f' l<=Js rs v f l
 |[]=>by simp[Js]
 |e::l=>by
  rw[Js,Js];have:=dM (rs:=rs) hv hf e;have:=Hb (rs:=rs) hv hf l;omega
def Ha {rs:List Nat} {f f':Bool} (hf:f'=true->f=true):∀(m:Nat) (l:List Y),Ji rs f' m l<=Ji rs f m l
 |_,[]=>by simp[Ji]
 |0,e::l=>by
  rw[Ji,Ji];have:=Ha (rs:=rs) hf 0 l;omega
 |m+1,e::l=>by
  rw[Ji,Ji];have:=dM (rs:=rs) (v:=false) (v':=false) id hf e;have:=Ha (rs:=rs) hf m l;omega
end
def oh(rs:List Nat)(v f:Bool)(t):1<=J rs v f t:=by
 obtain⟨k,n,m,va,nm,tg,l⟩:=t;rw[bw];split;omega;split;omega;split;omega;split<;>omega
mutual
def bP (cs:List Nat):Y->Nat
 |.mk k n m _ _ _ l=>
  if k=11 then cs.getD n.toNat 0
  else if k=2 then SQ cs l
  else if k=10 then cN cs m.toNat l
  else if k=12 then cN cs 0 l
  else if k=14\/k=15\/k=16 then 0
  else 1
def SQ (cs:List Nat):List Y->Nat
 |[]=>0
 |e::_=>bP cs e
def cN (cs:List Nat):Nat->List Y->Nat
 |_,[]=>0
 |0,e::l=>bP cs e+cN cs 0 l
 |m+1,_::l=>cN cs m l
end
def pg{md:Nat}{v f:Bool}{t:Y}(h:PL nw NS Q A md v f t)(hk:¬(t.ld=12\/t.ld=13)):PL nw NS Q A 0 v f t:=by
 cases h with
 |basic a b=>exact .basic a b
 |uni a=>exact .uni a
 |named a b c=>exact .named a b c
 |al a b c=>exact .al a b c
 |st a b c=>exact .st a b c
 |ifc a b c d e g I U q=>exact .ifc a b c d e g I U q
 |one a b c h=>exact .one a b c h
 |mp I U=>exact .mp I U
 |fn a b c h=>exact .fn a b c h
 |ti a h=>simp[Y.ld]at hk
 |un a b c h=>simp[Y.ld]at hk
def PL.up(hA:∀n,n<nw->A' n){md:Nat}{v f:Bool}{t:Y}(h:PL nw NS Q A md v f t):∀{v' f':Bool},PL nw NS Q A' md v' f' t:=by
 induction h with
 |basic a b=>intro _ _;exact .basic a b
 |uni a=>intro _ _;exact .uni a
 |named a b c=>intro _ _;exact .named a b (λ_=>hA _ M)
 |al a b _ ih=>intro _ _;exact .al a b ih
 |st a b _ ih=>intro _ _;exact .st a b (λe he=>ih e he)
 |ifc a b c d e g _ _ q zg vq=>intro _ _;exact .ifc a b c d e g (λe he=>zg e he) (λe he=>vq e he) q
 |one a b c _ ih=>intro _ _;exact .one a b c ih
 |mp _ _ zg vq=>intro _ _;exact .mp zg vq
 |fn a b c _ ih=>intro _ _;exact .fn a b c (λe he=>ih e he)
 |ti a _ ih=>intro _ _;exact .ti a ih
 |un a b c _ ih=>intro _ _;exact .un a b c (λe he=>ih e he)
def KD(t:Y):Prop:=t.ld≠2/\t.ld≠11/\t.ld≠12/\t.ld≠13/\t.ld≠14/\t.ld≠15
structure mN(NS:List ByteArray)(Q:Y->Prop)(A:Qx)(w:List ah)(rs cs:List Nat):Prop where
 rl:rs.length=w.length
 cl:cs.length=w.length
 dec:∀(n:Nat) (d:ah),w[n]?=some d->PL w.length NS (λ_=>True) (λ_=>True) 0 true false d.gt/\∀m∈d.lw,PL w.length NS (λ_=>True) (λ_=>True) 0 false false m.sig
 kd:∀(n:Nat) (d:ah),w[n]?=some d->KD d.gt
 rk:∀(n:Nat) (d:ah),w[n]?=some d->J rs true false d.gt<=rs.getD n 0/\∀m∈d.lw,J rs false false m.sig<=rs.getD n 0
 ct:∀(n:Nat) (d:ah),w[n]?=some d->cs.getD n 0=bP cs d.gt
 ml:∀(n:Nat) (d:ah),w[n]?=some d->d.lw.length<=1099511627776
 ok:∀(n:Nat) (d:ah),A n->w[n]?=some d->PL w.length NS Q A 0 true false d.gt/\∀m∈d.lw,PL w.length NS Q A 0 false false m.sig
def mN.plain{w:List ah}{rs:List Nat}(h:mN NS Q A w rs cs):mN NS (λ_=>True) (λ_=>True) w rs cs:=
 ⟨h.rl,h.cl,h.dec,h.kd,h.rk,h.ct,h.ml,λn d _ hd=>h.dec n d hd⟩
def lg{v f:Bool}{t:Y}(h:PL nw NS Q A 0 v f t):¬(t.ld=12\/t.ld=13):=by
 cases h with
 |ti a _=>exact absurd a i5
 |un a _ _ _=>exact absurd a i5
 |uni h=>simp[Y.ld];omega
 |al h=>simp[Y.ld];omega
 |one h=>simp[Y.ld];omega
 |_=>simp[Y.ld]
def fc(hQ:Q fD)(rs cs:List Nat){md:Nat}{v f:Bool}{t:Y}(h:PL nw NS Q A md v f t):
 ∃u,bare t=some u/\PL nw NS Q A md v f u/\J rs v f u<=J rs v f t/\bP cs u=bP cs t/\u.ld≠2/\u.ld≠14/\(t.ld≠2->t.ld≠14->u=t)/\(u.ld=12\/u.ld=13->u=t):=by
 induction h with
 |basic a b=>exact⟨_,by simp[fo],.basic a b,jQ0 _,rfl,by simp[Y.ld],by simp[Y.ld],λ_ _=>rfl,λ_=>rfl⟩
 |uni a=>
  rename_i md v f k n m va nm tg
  by_cases mM:k=14
  .subst mM;exact⟨fD,by simp[fo],.ifc i5 i5 i5 i6 i6 i6 i6 i6 hQ,by simp[fD,tk,bw,Ji],by simp[fD,tk,bP,cN],i5,i5,λ_ h=>absurd rfl h,λh=>absurd h i5⟩
  .exact⟨_,by rw[fo,jQ4 M,jQ4 mM],.uni a,jQ0 _,rfl,by simp[Y.ld];omega,by simpa[Y.ld]using mM,λ_ _=>rfl,λ_=>rfl⟩
 |named a b c=>exact⟨_,by simp[fo],.named a b c,jQ0 _,rfl,by simp[Y.ld],by simp[Y.ld],λ_ _=>rfl,λ_=>rfl⟩
 |al a b h ih=>
  rename_i md v f k n m va nm tg e
  obtain rfl|rfl:=a
  .obtain⟨u,I,U,h3,h4,h5,h6,_,h8⟩:=ih;refine⟨u,by simpa[fo]using I,U.eS (jQ0 _) (λ_ h=>h) (jQc _) id id,?_,?_,h5,h6,λh=>absurd rfl h,λh'=>by have:=h8 h';subst this;exact absurd h' (lg U)⟩
   .rw[bw];simp[Js];omega
   .rw[h4];conv=>rhs;rw[bP];simp[SQ]
  .exact⟨_,by simp[fo],.al (.inr rfl) b h,jQ0 _,rfl,by simp[Y.ld],by simp[Y.ld],λ_ _=>rfl,λ_=>rfl⟩
 |st a b c _=>exact⟨_,by simp[fo],.st a b c,jQ0 _,rfl,by simp[Y.ld],by simp[Y.ld],λ_ _=>rfl,λ_=>rfl⟩
 |ifc a b c d e g I U q _ _=>exact⟨_,by simp[fo],.ifc a b c d e g I U q,jQ0 _,rfl,by simp[Y.ld],by simp[Y.ld],λ_ _=>rfl,λ_=>rfl⟩
 |one a b c h _=>
  rename_i md v f k n m va nm tg e _
  exact⟨_,by rw[fo,jQ4 M,jQ4 M],.one a b c h,jQ0 _,rfl,by simp[Y.ld];omega,by simp[Y.ld];omega,λ_ _=>rfl,λ_=>rfl⟩
 |mp I U _ _=>exact⟨_,by simp[fo],.mp I U,jQ0 _,rfl,by simp[Y.ld],by simp[Y.ld],λ_ _=>rfl,λ_=>rfl⟩
 |fn a b c h _=>exact⟨_,by simp[fo],.fn a b c h,jQ0 _,rfl,by simp[Y.ld],by simp[Y.ld],λ_ _=>rfl,λ_=>rfl⟩
 |ti a h _=>exact⟨_,by simp[fo],.ti a h,jQ0 _,rfl,by simp[Y.ld],by simp[Y.ld],λ_ _=>rfl,λ_=>rfl⟩
 |un a b c h _=>exact⟨_,by simp[fo],.un a b c h,jQ0 _,rfl,by simp[Y.ld],by simp[Y.ld],λ_ _=>rfl,λ_=>rfl⟩
end S
namespace S
def dW{α:Type}{p:α->Option Bool}:∀{l:List α},(∀a∈l,∃b,p a=some b)->∃b,anyM p l=some b
 |[],_=>⟨false,rfl⟩
 |a::l,h=>by
  obtain⟨b,hb⟩:=h a i6;rw[anyM,hb];cases b
  .exact dW λa ha=>h a (by simp[ha])
  .exact⟨true,rfl⟩
def xG{α σ:Type}{f:σ->α->Option σ}(P:σ->List α->Prop):∀{l:List α} {s:σ},P s l->(∀s a l',P s (a::l')->a∈l->∃s',f s a=some s'/\P s' l')->∃r,foldM f s l=some r/\P r []
 |[],s,h,_=>⟨s,rfl,h⟩
 |a::l,s,h,hs=>by
  obtain⟨s',I,U⟩:=hs s a l h i6;obtain⟨r,h3,h4⟩:=xG P (l:=l) U (λs b l' hb hm=>hs s b l' hb (by simp[hm]));exact⟨r,by rw[foldM,I];exact h3,h4⟩
def bc{a:Option Bool}(h:∃b,a=some b):∃b,bh a=some b:=by obtain⟨b,rfl⟩:=h;exact⟨!b,rfl⟩
def rW{a b:Option Bool}(h:∃x,a=some x)(h':∃x,b=some x):∃x,po a b=some x:=by
 obtain⟨x,rfl⟩:=h;obtain⟨y,rfl⟩:=h';cases x<;>simp[po]
def qI{a b:Option Bool}(h:∃x,a=some x)(h':∃x,b=some x):∃x,fy a b=some x:=by
 obtain⟨x,rfl⟩:=h;obtain⟨y,rfl⟩:=h';cases x<;>simp[fy]
structure QB(NS:List ByteArray)(Q:Y->Prop):Prop where
 any:Q fD
 err:Q fC
 Xh:str [69,114,114,111,114]∈NS
 al:∀n,Q (alone n)
def QB.plain(h:QB NS Q):QB NS (λ_=>True):=⟨trivial,trivial,h.Xh,λ_=>trivial⟩
def SL(hq:QB NS Q){md:Nat}{v f:Bool}:PL nw NS Q A md v f fC:=M46
def R0(rs:List Nat)(v f:Bool):J rs v f fC=8:=by simp[fC,bw,Ji,Js]
section
variable{w:List ah}{rs:List Nat}
def fM(hw:mN NS Q A w rs cs)(hq:QB NS Q){md:Nat}{t:Y}(h:PL w.length NS Q A md true true t):
 ∃u,gt w t=some u/\PL w.length NS Q A md true false u/\J rs true false u<=J rs true true t/\bP cs u=bP cs t/\u.ld≠2/\u.ld≠14/\u.ld≠11/\u.ld≠15/\(t.ld≠2->t.ld≠14->t.ld≠11->t.ld≠15->u=t)/\(u.ld≠10->u.ld≠16->J rs false false u<=J rs true true t)/\(u.ld=12\/u.ld=13->u=t):=by
 obtain⟨b,I,U,h3,h4,h5,h6,h7,h8⟩:=fc hq.any rs cs h;unfold gt;rw[I];simp only[jQa];by_cases dA:b.ld=11
 .rw[jQ7 dA];cases U with
  |named a1 a2 a3=>
   rename_i n m va nm tg
   have hn:0<=(Y.mk 11 n m va nm tg []).n:=a1;simp only[jQ7 hn];have iK:(Y.mk 11 n m va nm tg []).n=n:=rfl;simp only[iK];obtain⟨d,hd⟩:∃d,w[n.toNat]?=some d:=⟨w[n.toNat]' M,i6⟩;rw[hd];obtain⟨hk1,hk2,hk3,QZ,oV,Ag⟩:=hw.kd _ _ hd;have hJ:J rs true true (.mk 11 n m va nm tg [])=1+rs.getD n.toNat 0:=by simp[bw]
   have hr:=(hw.rk _ _ hd).1;have hm:=dM (rs:=rs) (v:=true) (f:=false) (v':=false) (f':=false) i6 i6 d.gt;refine⟨d.gt,rfl,((hw.ok _ _ (a3 rfl) hd).1).eS (jQ0 _) (λ_ h=>h) (jQc _) id id,M,?_,M,M,M,M,?_,λ_ _=>M,λ_=>M⟩
   .rw[<-h4,<-hw.ct _ _ hd];simp[bP]
   .intro e1 e2 e3 _;exact absurd (by rw[<-h7 e1 e2];rfl) e3
  |uni h=>rename_i k _ _ _ _ _;simp[Y.ld]at dA;omega
  |al h=>rename_i k _ _ _ _ _ _ _ _;simp[Y.ld]at dA;omega
  |one h=>rename_i k _ _ _ _ _ _ _ _ _;simp[Y.ld]at dA;omega
  |_=>simp[Y.ld]at dA
 .rw[jQ4 dA];by_cases ka:b.ld=15
  .rw[jQ7 ka];refine⟨fC,rfl,SL hq,?_,?_,i5,i5,i5,i5,?_,λh=>absurd rfl h,λh=>absurd h i5⟩
   .exact M86
   .rw[<-h4];cases b with
    |mk k n m va nm tg l=>simp[Y.ld]at ka;subst ka;simp[fC,bP,cN]
   .intro e1 e2 e3 e4;exact absurd (by rw[<-h7 e1 e2];exact ka) e4
  .rw[jQ4 ka];have hm:=dM (rs:=rs) (v:=true) (f:=true) (v':=true) (f':=false) i6 i6 b;have kS:=dM (rs:=rs) (v:=true) (f:=true) (v':=false) (f':=false) i6 i6 b;refine⟨b,rfl,U.eS (jQ0 _) (λ_ h=>h) (jQ0 _) id i6,M,h4,h5,h6,dA,ka,λe1 e2 _ _=>h7 e1 e2,λ_ _=>M,h8⟩
def fj(hw:mN NS Q A w rs cs)(hq:QB NS Q){md:Nat}{v f:Bool}{t:Y}(h:PL w.length NS Q A md v f t):∃b,isIface w t=some b:=by
 obtain⟨u,I,_⟩:=fM hw.plain hq.plain (PL.up (A':=λ_=>True) (λ_ _=>trivial) (h.imp (Q':=λ_=>True) (λ_ _=>trivial)));exact⟨_,by rw[isIface,I];rfl⟩
def cu{md:Nat}{v f:Bool}(h:PL nw NS Q A md v f u)(hk:u.ld=10):
 jW u.m u.li=some (u.li.drop u.m.toNat)/\mq u.m u.li=some (u.li.take u.m.toNat)/\(∀e∈u.li.drop u.m.toNat,PL nw NS Q A 2 true true e/\J rs true true e<J rs v f u)/\
 (∀e∈u.li.take u.m.toNat,e.ld=7/\e.name∈NS/\isName e.name=true/\PL nw NS Q A 0 false f e/\J rs false f e<J rs v f u)/\((u.li.take u.m.toNat).map (·.name)).Nodup/\Q u/\bP cs u=cN cs u.m.toNat u.li:=by
 cases h with
 |ifc a b c d e g I U q=>
  rename_i n m va nm tg l
  simp only[Y.m,Y.li];refine⟨by rw[jW,jQ7 ⟨a,b⟩],by rw[mq,jQ7 ⟨a,b⟩],λx H=>⟨U x H,?_⟩,λx H=>⟨(g x H).1,(g x H).2.2,(g x H).2.1,I x H,?_⟩,e,q,by simp[bP]⟩
  .have:=FX (rs:=rs) (f:=f) H;rw[bw];simp;omega
  .have:=Nv (rs:=rs) (f:=f) H;rw[bw];simp;omega
 |uni h=>rename_i k _ _ _ _ _;simp[Y.ld]at hk;omega
 |al h=>rename_i k _ _ _ _ _ _ _ _;simp[Y.ld]at hk;omega
 |one h=>rename_i k _ _ _ _ _ _ _ _ _;simp[Y.ld]at hk;omega
 |_=>simp[Y.ld]at hk
def qJ(hw:mN NS Q A w rs cs)(hq:QB NS Q):∀(k:Nat) {md:Nat} {t:Y},PL w.length NS Q A md true true t->J rs true true t<=k->∃b,general w k t=some b:=by
 intro k
 induction k with
 |zero=>intro md t _ h;have:=oh rs true true t;omega
 |succ k ih=>
  intro md t h hk;obtain⟨u,I,U,h3,_⟩:=fM hw hq h;rw[general,I];simp only[jQa];by_cases bH:u.ld=10
  .rw[jQ4 (by simp[bH])];obtain⟨e1,_,e3,_⟩:=cu (rs:=rs) (cs:=cs) U bH;rw[e1];simp only[jQa];refine dW λe he=>?_;obtain⟨p1,p2⟩:=e3 e he;split
   .exact M166
   .split
    .exact M166
    .exact rW (bc (fj hw hq p1)) (ih p1 M)
  .rw[jQ7 (G9 bH)];exact⟨_,rfl⟩
def ZZ(NS:List ByteArray)(Q:Y->Prop)(A:Qx)(nw:Nat)(rs:List Nat)(b:Nat)(m:Y):Prop:=m.ld=7/\m.name∈NS/\isName m.name=true/\PL nw NS Q A 0 false false m/\J rs false false m<b
def ZZ.mono{b:Nat}{m:Y}(h:ZZ NS Q A nw rs b m)(hb:b<=b'):ZZ NS Q A nw rs b' m:=⟨h.1,h.2.1,h.2.2.1,h.2.2.2.1,V5 h.2.2.2.2⟩
def kU{P:Y->Prop}:∀{l out:List Y},(∀m∈out,P m)->(∀m∈l,P m)->∀m∈l.foldl fW out,P m
 |[],_,h,_=>h
 |a::l,out,h,h'=>by
  rw[List.foldl_cons];refine kU ?_ (λm hm=>h' m (by simp[hm]));intro m hm;unfold fW at hm;split at hm
  .exact h m hm
  .rcases jQm.1 hm with hm|hm
   .exact h m hm
   .simp at hm;subst hm;exact h' _ i6
def iM:∀{l out:List Y},(out.map (·.name)).Nodup->((l.foldl fW out).map (·.name)).Nodup
 |[],_,h=>h
 |a::l,out,h=>by
  rw[List.foldl_cons];refine iM ?_;unfold fW;split
  .exact h
  .rename_i hc
   rw[List.map_append,List.nodup_append];refine⟨h,i6,?_⟩;intro x H y hy;simp at hy;subst hy;intro e;apply hc;obtain⟨z,hz,rfl⟩:=jQu.1 H;simp only[List.any_eq_true];exact⟨z,hz,by simp[aE,e]⟩
def kE:∀{l NS:List ByteArray},l.Nodup->(∀x∈l,x∈NS)->l.length<=NS.length
 |[],NS,_,_=>jQc _
 |a::l,NS,h,hs=>by
  have I:=kE (l:=l) (NS:=NS.filter λx=>decide (x≠a)) (List.nodup_cons.1 h).2 (λx H=>by
   rw[List.mem_filter];exact⟨hs x (by simp[H]),by simp;intro e;exact(List.nodup_cons.1 h).1 (e▸H)⟩)
  have U:(NS.filter λx=>decide (x≠a)).length<NS.length:=List.length_filter_lt_length_iff_exists.2 ⟨a,hs a i6,i6⟩;simp;omega
def Dq{l:List Y}(hn:(l.map (·.name)).Nodup)(hl:l.length<=1099511627776):∃r,oG l=some r/\(∀m,m∈r↔m∈l)/\(r.map (·.name)).Nodup/\r.length=l.length:=by
 refine⟨_,by rw[oG,jQ7 ⟨hn,hl⟩],λm=>(List.mergeSort_perm _ _).mem_iff,?_,(List.mergeSort_perm _ _).length_eq⟩;exact((List.mergeSort_perm l _).map _).nodup_iff.2 hn
def IW(hw:mN NS Q A w rs cs)(hq:QB NS Q)(hl:NS.length<=1099511627776){k:Nat}{t:Y}{md:Nat}{v f:Bool}(I:gt w t=some u)(U:PL w.length NS Q A md v f u)(ih:∀e,PL w.length NS Q A 2 true true e->J rs true true e<J rs v f u->∃r,required w k e=some r/\(∀m∈r,ZZ NS Q A w.length rs (J rs true true e) m)/\(r.map (·.name)).Nodup):
 ∃r,required w (k+1) t=some r/\(∀m∈r,ZZ NS Q A w.length rs (J rs v f u) m)/\(r.map (·.name)).Nodup:=by
 rw[required,I];simp only[jQa];by_cases bH:u.ld=10
 .rw[jQ4 (by simp[bH])];obtain⟨e1,e2,e3,e4,e5,_⟩:=cu (rs:=rs) (cs:=cs) U bH;rw[e1,e2];simp only[jQa];obtain⟨r,hr,hP,hN⟩:=xG (f:=qR (required w k) w) (λs _=>(∀m∈s,ZZ NS Q A w.length rs (J rs v f u) m)/\(s.map (·.name)).Nodup) (l:=u.li.drop u.m.toNat) (s:=u.li.take u.m.toNat)
   ⟨λm hm=>by
    obtain⟨p1,p2,p3,p4,p5⟩:=e4 m hm;exact⟨p1,p2,p3,p4.eS (jQ0 _) (λ_ h=>h) (jQ0 _) id i6,V5 (dM (rs:=rs) (v:=false) (v':=false) (f:=f) (f':=false) id i6 m)⟩,e5⟩
   (λs e l' hs he=>by
    obtain⟨p1,p2⟩:=e3 e he;rw[qR];split
    .exact⟨_,rfl,hs⟩
    .split
     .exact⟨_,rfl,hs⟩
     .obtain⟨b,hb⟩:=fj hw hq p1;rw[hb];simp only[jQa];cases b
      .exact⟨_,rfl,hs⟩
      .obtain⟨r,h3,h4,h5⟩:=ih e p1 p2;rw[h3];exact⟨_,rfl,kU hs.1 (λm hm=>(h4 m hm).mono M),iM hs.2⟩)
  rw[hr];simp only[jQa];have hlen:r.length<=1099511627776:=by
   have:=kE hN (NS:=NS) (λx H=>by obtain⟨m,hm,rfl⟩:=jQu.1 H;exact(hP m hm).2.1);simp at this;omega
  obtain⟨q,q1,q2,q3,_⟩:=Dq hN hlen;exact⟨q,q1,λm hm=>hP m ((q2 m).1 hm),q3⟩
 .rw[jQ7 (G9 bH)];exact⟨[],rfl,i6,i6⟩
def pr(hw:mN NS Q A w rs cs)(hq:QB NS Q)(hl:NS.length<=1099511627776):∀(k:Nat) {md:Nat} {t:Y},PL w.length NS Q A md true true t->J rs true true t<=k->
 ∃r,required w k t=some r/\(∀m∈r,ZZ NS Q A w.length rs (J rs true true t) m)/\(r.map (·.name)).Nodup:=by
 intro k
 induction k with
 |zero=>intro md t _ h;have:=oh rs true true t;omega
 |succ k ih=>
  intro md t h hk;obtain⟨u,I,U,h3,_⟩:=fM hw hq h;obtain⟨r,r1,r2,r3⟩:=IW hw hq hl I U (λe p1 p2=>ih p1 M);exact⟨r,r1,λm hm=>(r2 m hm).mono h3,r3⟩
def jU(hw:mN NS Q A w rs cs)(hq:QB NS Q)(hl:NS.length<=1099511627776){k:Nat}{md:Nat}{v f:Bool}(h:PL w.length NS Q A md v f u)(kY:u.ld=10)(hk:J rs v f u<=k):
 ∃r,required w k u=some r/\(∀m∈r,ZZ NS Q A w.length rs (J rs v f u) m)/\(r.map (·.name)).Nodup:=by
 obtain⟨k,rfl⟩:∃hp,k=hp+1:=⟨k - 1,V5 (oh rs v f u)⟩;have hu:gt w u=some u:=by
  obtain⟨b,I,_,_,_,_,_,h7,_⟩:=fc hq.any rs cs h;have:=h7 M M;subst this;rw[gt,I];simp[kY]
 exact IW hw hq hl hu h (λe p1 p2=>pr hw hq hl k p1 M)
def SM(NS:List ByteArray)(Q:Y->Prop)(A:Qx)(w:List ah)(rs:List Nat)(b:Nat)(a:Y):Prop:=PL w.length NS Q A 0 true true a/\J rs true true a<b
def FY{l:List α}(h:l.length<=1099511627776):lim l=some l:=by rw[lim,jQ7 h]
def SN(cs:List Nat)(m:Nat):cN cs m []=0:=by cases m<;>simp[cN]
def ku(cs:List Nat):∀(m:Nat) (l:List Y),cN cs m l=cN cs 0 (l.drop m)
 |0,l=>i6
 |m+1,[]=>by simp[cN]
 |m+1,a::l=>by rw[cN];simpa using ku cs m l
def oH{md:Nat}{v f:Bool}(h:PL nw NS Q A md v f u)(I:u.ld≠2)(U:u.ld≠10)(h3:u.ld≠11)(h4:u.ld≠12)(h5:u.ld≠14)(h6:u.ld≠15)(h7:u.ld≠16):bP cs u=1:=by
 obtain⟨k,n,m,va,nm,tg,l⟩:=u;simp[Y.ld]at I U h3 h4 h5 h6 h7;simp[bP,I,U,h3,h4,h5,h6,h7]
def qS{cs:List Nat}:∀{l:List Y} {e:Y},e∈l->bP cs e<=cN cs 0 l
 |a::l,e,h=>by
  rw[cN];rcases jQn.1 h with rfl|h
  .omega
  .have:=qS (cs:=cs) h;omega
def qT{k:Nat}{b:Nat}:∀{l:List Y} {out:List Y},(∀e∈l,∃r,termsOf w k e=some r/\r.length<=bP cs e/\∀a∈r,SM NS Q A w rs b a)->(∀a∈out,SM NS Q A w rs b a)->out.length+cN cs 0 l<=1099511627776->
 ∃r,foldM (λout e=>(termsOf w k e).bind λts=>lim (out++ts)) out l=some r/\r.length<=out.length+cN cs 0 l/\∀a∈r,SM NS Q A w rs b a
 |[],out,_,ho,hl=>⟨out,rfl,by simp[cN],ho⟩
 |e::l,out,h,ho,hl=>by
  obtain⟨ts,I,U,h3⟩:=h e i6;rw[cN]at hl;rw[foldM,I];simp only[jQa];rw[FY (by simp;omega)];simp only[jQa];obtain⟨r,r1,r2,r3⟩:=qT (l:=l) (out:=out++ts) (λe he=>h e (by simp[he])) (λa ha=>by rcases jQm.1 ha with ha|ha;exact ho a ha;exact h3 a ha) (by simp;omega);exact⟨r,r1,by rw[cN];simp at r2;omega,r3⟩
def SM.mono{b:Nat}{a:Y}(h:SM NS Q A w rs b a)(hb:b<=b'):SM NS Q A w rs b' a:=⟨h.1,V5 h.2⟩
def AP(hw:mN NS Q A w rs cs)(hq:QB NS Q){k:Nat}{md:Nat}{v f:Bool}(U:PL w.length NS Q A md v f u)(hc:bP cs u<=1099511627776)(bH:u.ld=10)(ih:∀e,PL w.length NS Q A 2 true true e->J rs true true e<J rs v f u->bP cs e<=1099511627776->∃r,termsOf w k e=some r/\r.length<=bP cs e/\∀a∈r,SM NS Q A w rs (J rs true true e+1) a):
 ∃r,(jW u.m u.li).bind (λl=>foldM (λout e=>(termsOf w k e).bind λts=>lim (out++ts)) [] l)=some r/\r.length<=bP cs u/\∀a∈r,SM NS Q A w rs (J rs v f u) a:=by
 obtain⟨e1,e2,e3,e4,e5,e6,e7⟩:=cu (rs:=rs) (cs:=cs) U bH;rw[e1];simp only[jQa];rw[e7,ku]at hc;obtain⟨r,r1,r2,r3⟩:=qT (NS:=NS) (Q:=Q) (A:=A) (rs:=rs) (cs:=cs) (w:=w) (k:=k) (b:=J rs v f u) (l:=u.li.drop u.m.toNat) (out:=[]) (λe he=>by
  obtain⟨p1,p2⟩:=e3 e he;obtain⟨r,q1,q2,q3⟩:=ih e p1 p2 (jQd (qS he) hc);exact⟨r,q1,q2,λa ha=>(q3 a ha).mono M⟩) i6 (G9 hc)
 exact⟨r,r1,by rw[e7,ku];simpa using r2,r3⟩
def Po(hw:mN NS Q A w rs cs)(hq:QB NS Q):∀(k:Nat) {md:Nat} {t:Y},PL w.length NS Q A md true true t->J rs true true t<=k->bP cs t<=1099511627776->
 ∃r,termsOf w k t=some r/\r.length<=bP cs t/\∀a∈r,SM NS Q A w rs (J rs true true t+1) a:=by
 intro k
 induction k with
 |zero=>intro md t _ h;have:=oh rs true true t;omega
 |succ k ih=>
  intro md t h hk hc;obtain⟨b,b1,b2,b3,b4,b5,b6,b7,b8⟩:=fc hq.any rs cs h;rw[termsOf,b1];simp only[jQa];rw[<-b4]at hc⊢;by_cases cg:b.ld=13
  .rw[jQ7 cg];cases b2 with
   |ti a a2=>
    rename_i n m va nm tg e
    refine⟨[e],rfl,by simp[bP],λx H=>?_⟩;simp at H;subst H;refine⟨a2,?_⟩;rw[bw]at b3;simp[Js]at b3;omega
   |uni h=>rename_i k _ _ _ _ _;simp[Y.ld]at cg;omega
   |al h=>rename_i k _ _ _ _ _ _ _ _;simp[Y.ld]at cg;omega
   |one h=>rename_i k _ _ _ _ _ _ _ _ _;simp[Y.ld]at cg;omega
   |_=>simp[Y.ld]at cg
  .rw[jQ4 cg];by_cases cQ:b.ld=12
   .rw[jQ7 cQ];simp only[jQa];cases b2 with
    |un a a2 a3 a4=>
     rename_i n m va nm tg l
     have SO:bP cs (Y.mk 12 n m va nm tg l)=cN cs 0 l:=by simp[bP]
     rw[SO]at hc⊢;have hJe:∀e∈l,J rs true true e<J rs true true t:=λe he=>by
      have:=jP (rs:=rs) (v:=true) (f:=true) he;rw[bw]at b3;simp at b3;omega
     obtain⟨r,r1,r2,r3⟩:=qT (NS:=NS) (Q:=Q) (A:=A) (rs:=rs) (cs:=cs) (w:=w) (k:=k) (b:=J rs true true t+1) (l:=l) (out:=[]) (λe he=>by
      obtain⟨r,q1,q2,q3⟩:=ih (a4 e he) (V5 (hJe e he)) (jQd (qS he) hc);exact⟨r,q1,q2,λa ha=>(q3 a ha).mono (V5 (hJe e he))⟩) i6 (G9 hc)
     exact⟨r,r1,G9 r2,r3⟩
    |uni h=>rename_i k _ _ _ _ _;simp[Y.ld]at cQ;omega
    |al h=>rename_i k _ _ _ _ _ _ _ _;simp[Y.ld]at cQ;omega
    |one h=>rename_i k _ _ _ _ _ _ _ _ _;simp[Y.ld]at cQ;omega
    |_=>simp[Y.ld]at cQ
   .rw[jQ4 cQ];obtain⟨u,u1,u2,u3,u4,u5,u6,u7,u8,u9,u10,u11⟩:=fM hw hq b2;have hi:isIface w b=some (u.ld==10||u.ld==16):=by rw[isIface,u1];rfl
    rw[hi];simp only[jQa];by_cases cP:u.ld=10
    .rw[jQ4 (by simp[cP]),u1];simp only[jQa];rw[jQ4 (by simp[cP])];obtain⟨r,r1,r2,r3⟩:=AP hw hq (k:=k) u2 M cP (λe p1 p2 p3=>ih p1 M p3);have e1:=(cu (rs:=rs) (cs:=cs) u2 cP).1;rw[e1]at r1⊢;simp only[jQa,Option.map_some]at r1⊢;exact⟨r,r1,M,λa ha=>(r3 a ha).mono M⟩
    .by_cases ir:u.ld=16
     .rw[jQ4 (by simp[ir]),u1];simp only[jQa];rw[jQ7 (by simp[ir])];exact⟨[],rfl,jQc _,i6⟩
     .rw[jQ7 (by simp[cP,ir])];simp only[jQa];have hu:¬(u.ld=12\/u.ld=13):=by intro H;have:=u11 H;subst this;omega
      refine⟨[b],rfl,?_,λx H=>?_⟩
      .rw[<-u4,oH u2 u5 cP u7 M u6 u8 ir];simp
      .simp at H;rw[H];refine⟨?_,M⟩;by_cases hb:b.ld=12\/b.ld=13
       .omega
       .exact pg b2 hb
def Em(hw:mN NS Q A w rs cs)(hq:QB NS Q){k:Nat}{md:Nat}{v f:Bool}(h:PL w.length NS Q A md v f u)(kY:u.ld=10)(hk:J rs v f u<=k)(hc:bP cs u<=1099511627776):
 ∃r,termsOf w k u=some r/\r.length<=bP cs u/\∀a∈r,SM NS Q A w rs (J rs v f u) a:=by
 obtain⟨k,rfl⟩:∃hp,k=hp+1:=⟨k - 1,V5 (oh rs v f u)⟩;obtain⟨b,b1,_,_,_,_,_,b7,_⟩:=fc hq.any rs cs h;have hb:=b7 M M;subst hb;have hu:gt w b=some b:=by rw[gt,b1];simp[kY]
 rw[termsOf,b1];simp only[jQa];rw[jQ4 M,jQ4 M];have hi:isIface w b=some (b.ld==10||b.ld==16):=by rw[isIface,hu];rfl
 rw[hi];simp only[jQa];rw[jQ4 (by simp[kY]),hu];simp only[jQa];rw[jQ4 (by simp[kY])];obtain⟨r,r1,r2,r3⟩:=AP hw hq (k:=k) h hc kY (λe p1 p2 p3=>Po hw hq k p1 M p3);have e1:=(cu (rs:=rs) (cs:=cs) h kY).1;rw[e1]at r1⊢;simp only[jQa,Option.map_some]at r1⊢;exact⟨r,r1,r2,r3⟩
end
end S
namespace S
section
variable{w:List ah}{rs:List Nat}
def PL.vf{md:Nat}{v f:Bool}{t:Y}(h:PL nw NS Q A md v f t):PL nw NS (λ_=>True) (λ_=>True) md v' f' t:=
 PL.up (λ_ _=>trivial) (h.imp (λ_ _=>trivial))
def JB(hw:mN NS Q A w rs cs)(hq:QB NS Q){md:Nat}{v f:Bool}{t:Y}(h:PL w.length NS Q A md v f t):
 ∃u,gt w t=some u/\PL w.length NS (λ_=>True) (λ_=>True) md true false u/\J rs true false u<=J rs true false t:=by
 obtain⟨b,I,U,h3, -⟩:=fc (Q:=λ_=>True) trivial rs cs (h.vf (v':=true) (f':=false));unfold gt;rw[I];simp only[jQa];by_cases dA:b.ld=11
 .rw[jQ7 dA];cases U with
  |named a1 a2 a3=>
   rename_i n m va nm tg
   have hn:0<=(Y.mk 11 n m va nm tg []).n:=a1;simp only[jQ7 hn];have iK:(Y.mk 11 n m va nm tg []).n=n:=rfl;simp only[iK];obtain⟨d,hd⟩:∃d,w[n.toNat]?=some d:=⟨w[n.toNat]' M,i6⟩;rw[hd];have hr:=(hw.rk _ _ hd).1;have hJ:J rs true false (.mk 11 n m va nm tg [])=1+rs.getD n.toNat 0:=by simp[bw]
   exact⟨d.gt,rfl,(hw.dec _ _ hd).1.eS (jQ0 _) (λ_ h=>h) (jQc _) id id,M⟩
  |uni h=>rename_i k _ _ _ _ _;simp[Y.ld]at dA;omega
  |al h=>rename_i k _ _ _ _ _ _ _ _;simp[Y.ld]at dA;omega
  |one h=>rename_i k _ _ _ _ _ _ _ _ _;simp[Y.ld]at dA;omega
  |_=>simp[Y.ld]at dA
 .rw[jQ4 dA];by_cases ka:b.ld=15
  .rw[jQ7 ka];refine⟨fC,rfl,SL hq.plain,?_⟩;exact M86
  .rw[jQ4 ka];exact⟨b,rfl,U,h3⟩
def Gs(hw:mN NS Q A w rs cs)(hq:QB NS Q)(s:Bool):∀(k:Nat) {md:Nat} {v f:Bool} {t:Y},PL w.length NS Q A md v f t->J rs true false t<=k->∃b,compared w k t s=some b:=by
 have rY:=hw.plain;have xu:=hq.plain
 suffices h:∀(k:Nat) {md:Nat} {v f:Bool} {t:Y},PL w.length NS (λ_=>True) (λ_=>True) md v f t->J rs true false t<=k->∃b,compared w k t s=some b from λk _ _ _ _ I U=>h k (I.vf (v':=true) (f':=true)) U
 intro k
 induction k with
 |zero=>intro _ _ _ t _ h;have:=oh rs true false t;omega
 |succ k ih=>
  intro md v f t h hk;obtain⟨u,I,U,h3⟩:=JB rY xu h;have hi:isIface w t=some (u.ld==10||u.ld==16):=by rw[isIface,I];rfl
  rw[compared,hi,I];simp only[jQa];split
  .exact M166
  .split
   .exact M166
   .split
    .rename_i CH iK hk2
     have he:∀e∈u.li,PL w.length NS (λ_=>True) (λ_=>True) 0 true true e/\J rs true false e<J rs true false u:=by
      cases U with
      |st a b c=>
       rename_i n m va nm tg l
       intro e he;refine⟨(c e he).vf,?_⟩;have:J rs true false e<=Js rs true false l:=jP he;rw[bw];simp;omega
      |al a b c=>
       rename_i k n m va nm tg e
       intro x H;simp[Y.li]at H;subst H;refine⟨c.vf,?_⟩;rcases a with rfl|rfl<;>rw[bw]<;>simp[Js]
      |uni h=>rename_i k _ _ _ _ _;simp[Y.ld]at hk2;omega
      |one h=>rename_i k _ _ _ _ _ _ _ _ _;simp[Y.ld]at hk2;omega
      |_=>simp[Y.ld]at hk2
     exact bc (dW λe hm=>bc (ih (he e hm).1 (V5 ((he e hm).2))))
    .exact M166
def PL.setName{md:Nat}{v f:Bool}{t:Y}(s)(h:PL nw NS Q A md v f t)(hk:t.ld=7):PL nw NS Q A md v f (t.setName s):=by
 cases h with
 |fn a b c d=>exact .fn a b c d
 |uni h=>rename_i k _ _ _ _ _;simp[Y.ld]at hk;omega
 |al h=>rename_i k _ _ _ _ _ _ _ _;simp[Y.ld]at hk;omega
 |one h=>rename_i k _ _ _ _ _ _ _ _ _;simp[Y.ld]at hk;omega
 |_=>simp[Y.ld]at hk
def PX(rs:List Nat)(v f:Bool)(t s):J rs v f (t.setName s)=J rs v f t:=by
 obtain⟨k,n,m,va,nm,tg,l⟩:=t;simp[Y.setName,bw]
def BT(hw:mN NS Q A w rs cs)(dJ:∀(n:Nat) (d:ah),w[n]?=some d->∀m∈d.lw,m.sig.ld=7){md:Nat}{v:Bool}{t:Y}(h:PL w.length NS Q A md v true t)(p:Bool):
 ∃r,rz w t p=some r/\∀m∈r,m.ld=7/\PL w.length NS Q A 0 false false m/\J rs false false m<J rs v true t:=by
 unfold rz;by_cases dA:t.ld=11
 .rw[jQ4 (by simp[dA])];cases h with
  |named a1 a2 a3=>
   rename_i n m va nm tg
   have hn:0<=(Y.mk 11 n m va nm tg []).n:=a1;simp only[jQ7 hn];have iK:(Y.mk 11 n m va nm tg []).n=n:=rfl;simp only[iK];obtain⟨d,hd⟩:∃d,w[n.toNat]?=some d:=⟨w[n.toNat]' M,i6⟩;rw[hd];simp only[jQa];have gP:=hw.ml _ _ hd;have hlen:((d.lw.filter λm=>p||!m.ptr).map λm=>m.sig.setName m.name).length<=1099511627776:=by
    rw[jR7];exact jQd (List.length_filter_le _ _) gP
   refine⟨_,FY hlen,λx H=>?_⟩;obtain⟨me,hm,rfl⟩:=jQu.1 H;have j9:=(List.mem_filter.1 hm).1;have hk:=dJ _ _ hd me j9;have j:=(hw.ok _ _ (a3 i6) hd).2 me j9;have hr:=(hw.rk _ _ hd).2 me j9;have hJ:J rs v true (.mk 11 n m va nm tg [])=1+rs.getD n.toNat 0:=by rw[bw];simp
   refine⟨?_,j.setName _ hk,?_⟩
   .obtain⟨mn,mp,ms⟩:=me;obtain⟨k,_⟩:=ms;exact hk
   .rw[PX];omega
  |uni h=>rename_i k _ _ _ _ _;simp[Y.ld]at dA;omega
  |al h=>rename_i k _ _ _ _ _ _ _ _;simp[Y.ld]at dA;omega
  |one h=>rename_i k _ _ _ _ _ _ _ _ _;simp[Y.ld]at dA;omega
  |_=>simp[Y.ld]at dA
 .rw[jQ7 dA];exact⟨[],rfl,i6⟩
def DF(hw:mN NS Q A w rs cs)(hq:QB NS Q)(dJ:∀(n:Nat) (d:ah),w[n]?=some d->∀m∈d.lw,m.sig.ld=7){md:Nat}{t:Y}(h:PL w.length NS Q A md true true t):
 ∃r,kK w t=some r/\∀m∈r,m.ld=7/\PL w.length NS Q A 0 false false m/\J rs false false m<J rs true true t:=by
 obtain⟨b,b1,b2,b3, -⟩:=fc hq.any rs cs h;rw[kK,b1];simp only[jQa];by_cases h6:b.ld=6
 .rw[jQ7 h6];cases b2 with
  |one a a1 a2 a3=>
   rename_i k n m va nm tg e
   obtain⟨c,c1,c2,c3, -⟩:=fc hq.any rs cs a3;show∃r,(some e).bind _=some r/\_;simp only[jQa];rw[c1];simp only[jQa];obtain⟨r,r1,r2⟩:=BT hw dJ c2 true;refine⟨r,r1,λx H=>⟨(r2 x H).1,(r2 x H).2.1,?_⟩⟩;have:=(r2 x H).2.2;have hj:J rs false true e<J rs true true (.mk k n m va nm tg [e]):=by
    rw[bw (k:=k)];rcases a with rfl|rfl|rfl<;>simp[Js]
   omega
  |uni h=>rename_i k _ _ _ _ _;simp[Y.ld]at h6;omega
  |al h=>rename_i k _ _ _ _ _ _ _ _;simp[Y.ld]at h6;omega
  |_=>simp[Y.ld]at h6
 .rw[jQ4 h6];obtain⟨r,r1,r2⟩:=BT hw dJ b2 false;exact⟨r,r1,λx H=>⟨(r2 x H).1,(r2 x H).2.1,V5 ((r2 x H).2.2)⟩⟩
def pI{α β:Type}{f:Nat->α->Option (Option β)}:∀{l:List α} {i:Nat},(∀hp a,l[hp]?=some a->∃r,f (i+hp) a=some r)->∃r,rangeM f i l=some r
 |[],i,_=>⟨none,rfl⟩
 |a::l,i,h=>by
  obtain⟨r,hr⟩:=h 0 a rfl;rw[rangeM,show i=i+0 by omega,hr];cases r with
  |some b=>exact⟨_,rfl⟩
  |none=>exact pI (i:=i+0+1) λhp b hb=>by have:=h (hp+1) b (G9 hb);rwa[show i+0+1+hp=i+(hp+1)by omega]
def pw{f:Nat->α->Option (Option β)}{l:List α}(h:∀hp,∀a∈l,∃r,f hp a=some r):∃r,rangeM f i l=some r:=
 pI λhp a ha=>h _ a (jQ8 ha)
def tG{id:Y->Y->Option Bool}{l want:List Y}(h:∀f∈l,∀m∈want,∃b,id f m=some b):∃b,hasAll id l want=some b:=by
 obtain⟨r,hr⟩:=pw (f:=λ(_:Nat) (m:Y)=>(bh (anyM (λ(f:Y)=>if f.name=m.name then id f m else some false) l)).map λ(b:Bool)=>if b then some false else none) (l:=want) (i:=0) (λ_ m hm=>by
  obtain⟨b,hb⟩:=bc (dW (p:=λ(f:Y)=>if f.name=m.name then id f m else some false) (l:=l) λf hf=>by
   by_cases hn:f.name=m.name
   .simp only[jQ7 hn];exact h f hf m hm
   .simp only[jQ4 hn];exact⟨_,rfl⟩)
  rw[hb];exact⟨_,rfl⟩)
 rw[hasAll,hr];exact⟨_,rfl⟩
structure XOK(NS:List ByteArray)(Q:Y->Prop)(A:Qx)(w:List ah)(rs:List Nat)(N:Nat)(x:Y):Prop where
 pl:PL w.length NS Q A 0 true true x
 r:J rs true true x<=N
 rf:J rs false false x<N
 un:∀ux,gt w x=some ux->J rs false false ux<N
def IdT(NS:List ByteArray)(Q:Y->Prop)(A:Qx)(w:List ah)(rs:List Nat)(N:Nat)(id:Y->Y->Option Bool):Prop:=
 ∀a b,PL w.length NS Q A 0 false false a->J rs false false a<N->PL w.length NS Q A 0 false false b->J rs false false b<N->∃r,id a b=some r
def Li(w:List ah):Prop:=∀(n:Nat) (d:ah),w[n]?=some d->∀m∈d.lw,m.sig.ld=7
def Od(hw:mN NS Q A w rs cs)(hq:QB NS Q)(dJ:Li w){f:Nat}(hid:IdT NS Q A w rs N Ua)(_hf:N<=f)(H:XOK NS Q A w rs N x){k md:Nat}{v:Bool}(h:PL w.length NS Q A md v g u)(kY:u.ld=10)(hN:J rs v g u<=N)(ih:∀e,PL w.length NS Q A 2 true true e->J rs true true e<J rs v g u->∃b,inSet Ua f w k x e=some b):
 ∃b,((kK w x).bind λms=>(mq u.m u.li).bind λwant=>(hasAll Ua ms want).bind λh=>
  if !h then some false
  else(jW u.m u.li).bind λl=>bh (anyM (λe=>bh (inSet Ua f w k x e)) l))=some b:=by
 obtain⟨e1,e2,e3,e4,_⟩:=cu (rs:=rs) (cs:=cs) h kY;obtain⟨ms,m1,m2⟩:=DF hw hq dJ H.pl;rw[m1,e1,e2];simp only[jQa];obtain⟨b,hb⟩:=tG (id:=Ua) (l:=ms) (want:=u.li.take u.m.toNat) (λf' hf m hm=>by
  obtain⟨_,p2,p3⟩:=m2 f' hf;obtain⟨_,_,_,q4,q5⟩:=e4 m hm;have:=H.r;have:=dM (rs:=rs) (v:=false) (v':=false) (f:=g) (f':=false) id i6 m;exact hid _ _ p2 M (q4.eS (jQ0 _) (λ_ h=>h) (jQ0 _) id i6) M)
 rw[hb];simp only[jQa];cases b
 .exact M166
 .exact bc (dW λe he=>bc (ih e (e3 e he).1 (e3 e he).2))
def abQ(hw:mN NS Q A w rs cs)(hq:QB NS Q)(dJ:Li w){f:Nat}(hid:IdT NS Q A w rs N Ua)(hf:N<=f)(H:XOK NS Q A w rs N x):
 ∀(k:Nat) {md:Nat} {t:Y},PL w.length NS Q A md true true t->J rs true true t<=k->J rs true true t<N->∃b,inSet Ua f w k x t=some b:=by
 intro k
 induction k with
 |zero=>intro md t _ h;have:=oh rs true true t;omega
 |succ k ih=>
  intro md t h hk hN;obtain⟨b,b1,b2,b3, -,b5,b6, -, -⟩:=fc hq.any rs cs h;rw[inSet,b1];simp only[jQa];have Sh:∃r,compared w f x true=some r:=Gs hw hq true f H.pl (V6 H.r (dM (rs:=rs) (v:=true) (v':=true) (f:=true) (f':=false) id i6 x));by_cases cQ:b.ld=12
  .rw[jQ7 cQ];cases b2 with
   |un a a2 a3 a4=>
    rename_i n m va nm tg l
    refine dW λe he=>?_;have oJ:e∈l:=he;have hj:=jP (rs:=rs) (v:=true) (f:=true) oJ;rw[bw]at b3;simp at b3;exact ih (a4 e oJ) M M
   |uni h=>rename_i k _ _ _ _ _;simp[Y.ld]at cQ;omega
   |al h=>rename_i k _ _ _ _ _ _ _ _;simp[Y.ld]at cQ;omega
   |one h=>rename_i k _ _ _ _ _ _ _ _ _;simp[Y.ld]at cQ;omega
   |_=>simp[Y.ld]at cQ
  .rw[jQ4 cQ];by_cases cg:b.ld=13
   .rw[jQ7 cg];obtain⟨ux,x1,x2, -⟩:=fM hw hq H.pl;rw[x1];simp only[jQa];cases b2 with
    |ti a a2=>
     rename_i n m va nm tg e
     show∃r,(some e).bind _=some r;have hj:=dM (rs:=rs) (v:=true) (v':=false) (f:=true) (f':=false) i6 i6 e;rw[bw]at b3;simp[Js]at b3;exact hid _ _ (x2.eS (jQ0 _) (λ_ h=>h) (jQ0 _) i6 id) (H.un _ x1) (a2.eS (jQ0 _) (λ_ h=>h) (jQ0 _) i6 i6) M
    |uni h=>rename_i k _ _ _ _ _;simp[Y.ld]at cg;omega
    |al h=>rename_i k _ _ _ _ _ _ _ _;simp[Y.ld]at cg;omega
    |one h=>rename_i k _ _ _ _ _ _ _ _ _;simp[Y.ld]at cg;omega
    |_=>simp[Y.ld]at cg
   .rw[jQ4 cg];by_cases ir:b.ld=16
    .rw[jQ7 ir];exact Sh
    .rw[jQ4 ir];obtain⟨u,u1,u2,u3, -⟩:=fM hw hq b2;have hi:isIface w b=some (u.ld==10||u.ld==16):=by rw[isIface,u1];rfl
     rw[hi,u1];simp only[jQa];by_cases cP:u.ld=10
     .rw[jQ4 (by simp[cP]),jQ4 (by simp[cP])];exact Od hw hq dJ hid hf H u2 cP M (λe p1 p2=>ih p1 M M)
     .by_cases abR:u.ld=16
      .rw[jQ4 (by simp[abR]),jQ7 abR];exact Sh
      .rw[jQ7 (by simp[cP,abR])];have hj:=dM (rs:=rs) (v:=true) (v':=false) (f:=true) (f':=false) i6 i6 b;exact hid _ _ (H.pl.eS (jQ0 _) (λ_ h=>h) (jQ0 _) i6 i6) H.rf ((pg b2 M).eS (jQ0 _) (λ_ h=>h) (jQ0 _) i6 i6) M
def Ub(hw:mN NS Q A w rs cs)(hq:QB NS Q)(dJ:Li w){f:Nat}(hid:IdT NS Q A w rs N Ua)(hf:N<=f)(H:XOK NS Q A w rs N x){k md:Nat}{v:Bool}(h:PL w.length NS Q A md v g u)(kY:u.ld=10)(hN:J rs v g u<=N)(hk:N<=k):∃b,inSet Ua f w k x u=some b:=by
 obtain⟨k,rfl⟩:∃hp,k=hp+1:=⟨k - 1,V5 (oh rs v g u)⟩;obtain⟨b,b1,_,_,_,_,_,b7,_⟩:=fc hq.any rs cs h;have hb:=b7 M M;subst hb;have hu:gt w b=some b:=by rw[gt,b1];simp[kY]
 have hi:isIface w b=some (b.ld==10||b.ld==16):=by rw[isIface,hu];rfl
 rw[inSet,b1];simp only[jQa];rw[jQ4 M,jQ4 M,jQ4 M,hi,hu];simp only[jQa];rw[jQ4 (by simp[kY]),jQ4 M];exact Od hw hq dJ hid hf H h kY hN (λe p1 p2=>abQ hw hq dJ hid hf H k p1 M M)
end
end S
