import Derived.LaidEqlPtr
import Derived.Lib.Bytealg
import Derived.MapKept
import Derived.Shelf.SlLaysF
import Derived.Test.YtbdgppghkdibfaaGreatDoorA05
import Derived.Test.YtbdgppghkdibfaaGreatDoorA14
set_option linter.all false
set_option maxHeartbeats 16000000
set_option maxRecDepth 20000
namespace Go.Proofs.YtbdgppghkdibfaaGreatDoor
open Go Go.RowKit Go.Lib S P Tryz Go.Sort
variable{es0:Array MapEntry}{ops:Array Oper}{ca cb:Array Value}{xc yc:Bool}{s1 s2:ByteArray}{e:Ending}{s t:Y}{cmp:Y->Bool}{Q:Y->Prop}{acc l m x xJ y:List (Option Tm)}{us zU:List Bool}{NS:List ByteArray}{cs rs:List Nat}{rest:List Oper}{ps xs:List Value}{w:List ah}{B K b b1 b2 base' c ck0 hp mb md n r rr tb u ub:Nat}{obj:Nat->Nat}{D E E1 X:Qx}{o:Oper}{a:Option Addr}{P:Program}{GT:Prop}{S:Sg}{α β:Type}{d:TypeDesc}{et kt mt t1 ta te ti tp tq:TypeId}{k p p1 p2 sl sm v v' v0 v1 v2 x1 x2 y1 y2 z:Value}{q:Value->Bool}{W W' O w2 wr:World}
def M100(h:GT:=by
 rcases de t.ld with g|g|g|g|g|g|g|g|g|g|g|g<;>first|omega|(rw[g.2]at e;exact absurd e i5)):GT:=h
def M111(h:GT:=by
 go_wp21;go_roundg (l.length - (jj+1))
 case measure=>omega
 case rel=>exact⟨jj+1,zU,y,M,M,M,by go_num,J9,N2.out,T2.out,TT2.out,DH.1⟩):GT:=h
def M124(h:GT:=by
 go_wp21;go_roundg (l.length - (kk+1))
 case measure=>omega
 case rel=>exact⟨kk+1,us,acc,M,M,by go_num,hul,M,N.out,DH.1⟩):GT:=h
def M192(h:GT:=by
 go_wp2;go_ret;exact⟨rfl,_,rfl⟩):GT:=h
def M2(h:GT:=by
 by_cases MY:ul.length>100
 .rw[jQ7 MY]at qO;have Kl:(100:Int)<(ul.length:Int):=M
  have jn:=Z qO.symm;have IS:=N9.1.ok.gh;have vj:GH w S D obj (w9.alloc (.cells #[.bool true,.slice none 0 0,.slice none 0 0,.bool false] 124)):=IS.below gJ.1.hs (an w9 _);have pB:=aj (an w9 (.cells #[.bool true,.slice none 0 0,.slice none 0 0,.bool false] 124)) N9.1.map (jQ2 N9.1.map);have ql:=iV (e:={key:=ptr u,val:=ptr tb,born:=ck}) (v:=ptr w9.heap.size) Eh yw (Pg u) (ckU u _) pB (eqU vj HU.1 (sO HU.1 HK.1 _ _)) i6 (iU tj.1 (ptr tb) ck) (jV u);have xy:=Z pB;obtain⟨tH,Lu,mj⟩:=ql;have tI:bZ (λb=>b=mb) S rs r W tH:=(N9.1.fr.trans (Below.fr (an w9 _))).trans (mj.fr xy.1 rfl);have tJ:Ok w S D obj rs K E r tH:=((N9.1.ok.drop λb hb=>.inl (.inl hb)).below gJ.1.hs (an w9 _)).frx gJ.1.hs (mj.fr (X:=λb=>b=mb) xy.1 rfl);have tK:tH.heap[mb]?=some (.map (es.push {key:=ptr u,val:=ptr w9.heap.size,born:=ck}) (ck+1)):=by
   have:=mj.here;rw[ni]at this;exact this
  have xB:tH.heap[w9.heap.size]?=some (.cells #[.bool true,.slice none 0 0,.slice none 0 0,.bool false] 124 (0,0)):=
   (mj.other _ (by have:=jQ2 N9.1.map;omega)).trans (ak w9 _)
  have qP:=Az tJ.gh tK (sO HU.1 HK.1 _ _) HU.1 false;rw[iU tj.1]at qP;simp only[jQk,jR1,Option.map_some,Option.getD_some]at qP;have tL:FR w K S tH w9.heap.size (aG e):=by
   have hn:=(rZ (w:=w) (K:=K) HHK.1).1;refine⟨true,_,xB,kA IS,λ_=>rfl,λq hq=>?_⟩;rw[hn,jn.1]at hq;cases hq
  have uE:Dj w K S tH mb:=by
   refine⟨_,_,tK,λen wR=>?_⟩;simp at wR;obtain wR|rfl:=wR
   .exact(HUS.1.move tI) en (by simpa using wR)
   .exact⟨u,w9.heap.size,aG e,rfl,HU.1,rfl,tL⟩
  have HP:=Z (show lC (λb=>b=mb) w S D obj rs K E r W (λv W'=>∃tb,v=ptr tb/\FR w K S W' tb (aG e)/\Dj w K S W' mb) (.returned (ptr w9.heap.size)) tH from⟨_,rfl,⟨w9.heap.size,rfl,tL,uE⟩,tJ,tI⟩);clear qO IS vj pB tI tJ tK xB tL uE mj;exact M21
 .rw[jQ4 MY]at qO;have Kl:¬(100:Int)<(ul.length:Int):=M
  have Lv:=Z qO;clear qO;go_wp21;go_roundg (ps.length - (kk+1))
  case measure=>omega
  case rel=>exact⟨kk+1,ul,M,M,by go_num,N9.1,Lv.1,HUL.1,M⟩):GT:=h
def M36(h:GT:=by
 go_wp21;refine aF.mono ?_;rintro e O ⟨v,rfl,k1,k2,k3⟩;have HP:=Z (show CG w S D obj rs K E r W ts true (.returned (.tuple #[v,.bool true])) O from⟨v,rfl,k1,k2,k3⟩);have aD:=fI (sI.tl ⟨k2,k3,k1⟩);rw[ha]at aD;obtain⟨va,vc,rfl⟩:=k1.form;clear k1 k2 k3 aF;have ag:=bO O;go_wp21;refine rv aD ?_;go_wp21;refine rv aD ?_;go_wp21;refine rv ag ?_;go_wp21;refine jRc (v:=.tuple #[.slice va ts.length vc,.bool true]) (by simp[results,Tryz.results108,go_sem]) rfl ?_;exact HP.1):GT:=h
def qn(S:Sg)(base:Nat)(W:World)(l:List (Option Tm))(v:Value):Prop:=∃ps,W.ownsRow base 156 1 v l.length ps/\All2 (TmV S W) l ps
def EO(E:Qx)(v:Value):Nat->Prop:=λb=>E b\/v.ownBlock=some b
def yK{base:Nat}{e:TypeId}(h:W.ownsRow base e 1 v n xs)(hs:∀g,v.ownBlock=some g->S g=none):eE (Rn S W) W xs v:=by
 have hl:=h.1;rw[Nat.mul_one]at hl;rcases h.2 with⟨rfl,h0⟩|⟨g,cap,cur,rfl,hb,hg,hn,hm,hc,ht⟩
 .exact M171
 .by_cases H:xs=[]
  .subst H;simp at hl;subst hl;exact M113
  .refine .inr ⟨H,g,0,cap,by rw[hl],M,by simp only[maxLen]at hm;omega,⟨hs g rfl,_,_,_,hg⟩,λhp u hu=>?_⟩;exact M34
def Hf{base:Nat}(h:W.ownsRow base 156 1 v n xs)(hs:∀g,v.ownBlock=some g->S g=none):eE (Qq S W) W xs v:=by
 rcases yK h hs with hr|⟨I,b,o,c,rfl,h3,h4,h5,h7⟩
 .exact .inl hr
 .refine .inr ⟨I,b,o,c,rfl,h3,h4,⟨h5.1,?_⟩,h7⟩;rcases h.2 with⟨e,_⟩|⟨g,cap,cur,e,_,hg,_⟩
  .cases e
  .simp at e;obtain⟨⟨rfl, -⟩, -⟩:=e;exact⟨_,_,hg⟩
def qn.tl{base:Nat}(h:qn S base W l v)(hs:∀g,v.ownBlock=some g->S g=none):lS S W l v:=by
 obtain⟨ps,I,U⟩:=h;exact⟨ps,Hf I hs,U⟩
def qn.base{base:Nat}(h:qn S base W l v)(hb:base'<=base):qn S base' W l v:=by
 obtain⟨ps,I,U⟩:=h;exact⟨ps,⟨I.1,I.2.imp id λ⟨g,cap,cur,e,k1,k2⟩=>⟨g,cap,cur,e,jQd hb k1,k2⟩⟩,U⟩
def qn.lt{base:Nat}(h:qn S base W l v):∀g,v.ownBlock=some g->base<=g/\g<W.heap.size:=by
 obtain⟨ps,I,U⟩:=h;intro g hg;rcases I.2 with⟨rfl,_⟩|⟨g',cap,cur,rfl,k1,k2,k3⟩
 .simp[Value.ownBlock]at hg
 .simp[Value.ownBlock]at hg;subst hg;exact⟨k1,jQ2 k2⟩
def qn.fr{base:Nat}(h:qn S base W l v)(hf:bZ X S rs r W W')(hs:∀g,v.ownBlock=some g->S g=none):qn S base W' l v:=by
 obtain⟨ps,I,U⟩:=h;exact⟨ps,Mp hf I hs,U.imp λ_ _ j=>j.move hf⟩
def qn.ng{base:Nat}(h:qn S base W l v)(hf:iN E1 W W')(hs:∀g,v.ownBlock=some g->¬E1 g):qn S base W' l v:=by
 obtain⟨ps,I,U⟩:=h;exact⟨ps,JZ hf I hs,U.imp λ_ _ j=>j.ng hf⟩
def qn.form{base:Nat}(h:qn S base W l v):∃a c,v=.slice a l.length c:=by
 obtain⟨ps,I,U⟩:=h;rcases I.2 with⟨rfl,h0⟩|⟨g',cap,cur,rfl,k1,k2,k3⟩
 .exact⟨none,0,by rw[h0]⟩
 .exact⟨_,_,rfl⟩
def TmV.one{x:Option Tm}(h:TmV S W x p):p.oneCell'=true:=by
 cases x with
 |none=>cases h;rfl
 |some tm=>obtain⟨b,v,ty,rfl,_⟩:=h;rfl
def All2.app{R:α->β->Prop}{l':List α}{m':List β}(h':All2 R l' m'):∀{l:List α} {m:List β},All2 R l m->All2 R (l++l') (m++m')
 |[],[],_=>h'
 |_::l,_::m,h=>⟨h.1,All2.app h' (l:=l) (m:=m) h.2⟩
 |[],_::_,h=>h.elim
 |_::_,[],h=>h.elim
def lS.one:∀{l:List (Option Tm)} {ps:List Value},All2 (TmV S W) l ps->∀u∈ps,u.oneCell'=true
 |[],[],_,u,hu=>by simp at hu
 |_::l,_::m,h,u,hu=>by
  rcases jQn.1 hu with rfl|hu
  .exact h.1.one
  .exact lS.one (l:=l) h.2 u hu
 |[],_::_,h,_,_=>h.elim
 |_::_,[],h,_,_=>h.elim
def ET:(Tryz.prog.info? 156).map (λi=>(i.zero,i.size,i.bytes))=some (some (.pointer none),1,8):=g9
def QJ:(Tryz.prog.info? 4).map (λi=>(i.zero,i.size,i.bytes))=some (some (.bool false),1,1):=g9
def sf{a:Act}{w:World}{Q:Exit->Act->World->Prop}(mX:o.guard=none)(s x:Operand)(ho:o.op=.call {callee:=.builtin .append,args:=#[s,x],argTypes:=#[121,121]})(base:Nat)(v)(l:List (Option Tm))(hs:a.eval s=v)(aL:qn S base w l v)(l':List (Option Tm))(ad:Addr)(c:Nat)(H:a.eval x=.slice (some ad) l'.length c)(ns)(vY:All2 (TmV S w) l' ns)(hc:∀hp u,ns[hp]?=some u->w.cell? (ad.add hp)=some u)(cF:l.length+l'.length<=1099511627776)(cS:base<=w.heap.size)(h:∀v' O,qn S base O (l++l') v'->iN (λb=>v.ownBlock=some b) w O->(v'.ownBlock=v.ownBlock\/v'.ownBlock=some w.heap.size)->wpList prog ops Q rest (a.put o.dst v') O):wpList prog ops Q (o::rest) a w:=by
 obtain⟨i0,pn,lA,gj,j7⟩:=info_parts ET;obtain⟨ps,I,U⟩:=aL;refine wpList_append_own_at w mX s x 121 ho base 156 i0 _ 1 8 underlying121 pn lA gj j7 rfl M v l.length ps hs I ad l'.length c ns H (by rw[Nat.mul_one];exact vY.len.symm) hc (lS.one vY)
  (by simp only[maxLen];omega) M cS λv' O k1 k2 _ k4=>?_
 have j:=iN.grown k2 I i5 i5;refine h v' O ⟨ps++ns,by rw[jQo];exact k1,?_⟩ j k4;exact(vY.imp λ_ _ K6=>K6.ng j).app (U.imp λ_ _ K6=>K6.ng j)
def yO(w:List ah)(S:Sg)(D:Qx)(obj:Nat->Nat)(rs:List Nat)(K:Nat)(E:Qx)(r:Nat)(W:World)(l:List (Option Tm))(e:Ending)(W':World):Prop:=
 ∃v,e=.returned v/\qn S W.heap.size W' l v/\Ok w S D obj rs K (EO E v) r W'/\Fr S rs r W W'
def j1(hE:Env NS Q w rs cs)(bD:Ok w S D obj rs K E r W):Calls prog 59 #[] W (yO w S D obj rs K E r W [some fu]):=by
 have HO:=Z bD;clear bD;go_in;go_wp2;go_ret;have hS:∀b,W.heap.size<=b->S b=none:=λb hb=>by
  cases hs:S b with
  |none=>rfl
  |some s=>have:=HO.1.gh.lI b s hs;omega
 refine⟨_,rfl,⟨[ptr W.heap.size],⟨rfl,.inr ⟨W.heap.size+1,1,#[ptr W.heap.size],?_,M,?_,i6,by simp only[maxLen];omega,rfl,rfl⟩⟩,⟨W.heap.size,.nilIface,158,rfl,hS _ (jQ0 _),?_,.inl rfl,rfl⟩,trivial⟩,?_,Below.fr (dT W _ _)⟩
 .simp[fu]
 .rw[<-jQ3 W (.cells #[.bool false,.nilIface] 158)];exact ak _ _
 .exact aj (an (W.alloc (.cells #[.bool false,.nilIface] 158)) _) (ak W _) i6
 .exact HO.1.new hE.hs (dT W _ _) λb hb=>hb.imp id λh=>by simp[Value.ownBlock]at h;subst h;simp
def EN(E:Qx)(ub:Nat)(v:Value):Nat->Prop:=λb=>E b\/b=ub\/v.ownBlock=some b
abbrev UsV(wr:World)(ub:Nat)(us:List Bool):Prop:=wr.heap[ub]?=some (.cells (us.map Value.bool).toArray 4 (0,0))
structure DX(w:List ah)(S:Sg)(D:Qx)(obj:Nat->Nat)(rs:List Nat)(K:Nat)(E:Qx)(r:Nat)(W wr:World)(ub:Nat)(us:List Bool)(acc:List (Option Tm))(v:Value):Prop where
 ok:Ok w S D obj rs K (EN E ub v) r wr
 fr:Fr S rs r W wr
 used:UsV wr ub us
 ubl:W.heap.size<=ub
 row:qn S W.heap.size wr acc v
def DX.sn(h:DX w S D obj rs K E r W wr ub us acc v):S ub=none/\∀g,v.ownBlock=some g->S g=none:=⟨(h.ok.own ub (.inr (.inl rfl))).2.2,λg hg=>(h.ok.own g (.inr (.inr hg))).2.2⟩
def DX.go(h:DX w S D obj rs K E r W wr ub us acc v)(g1:Ok w S D obj rs K (EN E ub v) r O)(g2:Fr S rs r wr O):DX w S D obj rs K E r W O ub us acc v:=
 ⟨g1,h.fr.trans g2,g2.obj h.sn.1 h.used,h.ubl,h.row.fr g2 h.sn.2⟩
def DX.below(h:DX w S D obj rs K E r W wr ub us acc v)(hE:Env NS Q w rs cs)(hb:S5 wr O):DX w S D obj rs K E r W O ub us acc v:=
 h.go (h.ok.below hE.hs hb) (Below.fr hb)
def DX.ne(h:DX w S D obj rs K E r W wr ub us acc v):v.ownBlock≠some ub:=by
 obtain⟨ps,I,U⟩:=h.row;intro e;rcases I.2 with⟨rfl,_⟩|⟨g',cap,cur,rfl,k1,k2,k3⟩
 .simp[Value.ownBlock]at e
 .simp[Value.ownBlock]at e;subst e;have:=h.used;unfold UsV at this;rw[k2]at this;simp at this
def DX.mark(h:DX w S D obj rs K E r W wr ub us acc v)(hE:Env NS Q w rs cs)(j:kT ub (zU.map Value.bool).toArray 4 wr O):DX w S D obj rs K E r W O ub zU acc v:=by
 have hv:=iN.put j λEk t' f hc=>by rw[h.used]at hc;cases hc;decide
 exact⟨h.ok.ng hE.hs hv λb hb=>.inr (.inl hb),h.fr.ng hv λb hb=>by subst hb;exact h.ubl,j.here,h.ubl,h.row.ng hv λg hg e=>h.ne (by rw[<-e];exact hg)⟩
def DX.add(h:DX w S D obj rs K E r W wr ub us acc v)(hE:Env NS Q w rs cs)(hr:qn S W.heap.size O xJ v')(j:iN (λb=>v.ownBlock=some b) wr O)(hv:v'.ownBlock=v.ownBlock\/v'.ownBlock=some wr.heap.size):
 DX w S D obj rs K E r W O ub us xJ v':=by
 refine⟨h.ok.step hE.hs j (λb hb=>.inr (.inr hb)) (λb hb=>?_),h.fr.ng j λb hb=>(h.row.lt b hb).1,(j.block ub (jQ2 h.used) λe=>h.ne e).trans h.used,h.ubl,hr⟩;obtain hb|hb|hb:=hb
 .exact .inl (.inl hb)
 .exact .inl (.inr (.inl hb))
 .obtain e|e:=hv
  .exact .inl (.inr (.inr (e▸hb)))
  .rw[e]at hb;cases hb;exact .inr ⟨jQ0 _,(hr.lt _ e).2⟩
def MB{a:Act}{w:World}{Q:Exit->Act->World->Prop}(mX:o.guard=none)(x y:Operand)(ho:o.op=.store 4 x y)(B hp:Nat)(f:Bool)(H:a.eval x=.pointer (some ⟨B,hp,none⟩))(hy:a.eval y=.bool f)(us:List Bool)(hg:UsV w B us)(hj:hp<us.length)(h:∀w2,kT B ((us.set hp f).map Value.bool).toArray 4 w w2->wpList prog ops Q rest (a.put o.dst undef) w2):wpList prog ops Q (o::rest) a w:=by
 refine eT mX 4 x y ho B hp (.bool f) H hy 4 _ hg g9 (by simp[Value.cells,Value.oneCell']) (by simp[Value.cells];omega) _ ?_ h;have hc:(Value.bool f).cells=#[.bool f]:=rfl;rw[hc]
 congr 1
 simp only[List.map_set,Array.toList,List.size_toArray,List.length_cons,List.length_nil];rw[List.set_eq_take_append_cons_drop,jQ7 (G9 hj)];simp
def UsV.cell(h:UsV wr ub us){u:Bool}(hu:us[hp]?=some u):wr.cell? ⟨ub,hp,none⟩=some (.bool u):=by
 simp[World.cell?,h,hu]
def DX.post(h:DX w S D obj rs K E r W wr ub us acc v):yO w S D obj rs K E r W acc (.returned v) wr:=
 ⟨v,rfl,h.row,h.ok.drop λ_ hb=>hb.imp id .inr,h.fr⟩
def Cl(hE:Env NS Q w rs cs)(hI:cO NS Q w S D obj rs K r)(hB:2*B<=r)(bD:Ok w S D obj rs K E r W)(hl:lS S W l sl)(fQ:TL (jH NS Q w rs B) l)(cF:l.length<=1099511627776):
 Calls prog 185 #[sl] W (yO w S D obj rs K E r W (norm (FF w K) w l)):=by
 obtain⟨a,c,rfl⟩:=hl.form;obtain⟨HL,HO,HI,gJ⟩:=Z4 hl bD hI hE;clear hl bD hI hE;obtain⟨i0,pn,lA,gj,j7⟩:=info_parts QJ;have Wj:l.length<=maxLen:=by simp only[maxLen];omega
 go_in;go_wp2_with (at_make;refine wpList_make_full _ rfl _ _ 319 rfl W.heap.size 4 i0 _ 1 underlying319 pn lA gj _ _ _ _ l.length rfl rfl rfl rfl (by rw[j7];omega) Wj (jQ0 _) ?_);intro w1 oQ hg1;have ar:S5 W w1:=(jQ5 _ _).grown hg1 (jQ0 _) (λ_ h=>by cases h);have cH:DX w S D obj rs K E r W w1 W.heap.size (List.replicate l.length false) [] (.slice none 0 0):=by
  replace oQ:w1.ownsRow W.heap.size 4 1 (.slice (some ⟨W.heap.size,0,none⟩) l.length l.length) l.length (List.replicate l.length (.bool false)):=by
   have:=oQ;rw[<-toList_madeCells_one,<-Nat.mul_one l.length];exact M152
  rcases oQ.2 with⟨h0,_⟩|⟨g,cap,cur,e,k1,k2,k3,k4,k5,k6⟩
  .cases h0
  .simp at e;obtain⟨rfl,rfl⟩:=e;have Cv:cur=((List.replicate l.length false).map Value.bool).toArray:=by
    have hs:cur.toList.length=l.length*1:=G9 k5
    rw[<-hs,List.take_length]at k6;rw[List.map_replicate,<-k6]
   refine⟨HO.1.new gJ.1.hs ar λb hb=>hb.imp id λh=>?_,Below.fr ar,by rw[UsV,<-Cv];exact k2,jQ0 _,⟨[],jR9 _ _ _ _,trivial⟩⟩;obtain h|h:=h
   .subst h;exact⟨jQ0 _,jQ2 k2⟩
   .simp[Value.ownBlock]at h
 have eF:=Z cH;clear cH ar oQ hg1 pn lA gj j7 Wj;go_wp21
 go_loopg [4,16] l.length (λgg s4 s16 wr=>∃(kk:Nat) (us:List Bool) (acc:List (Option Tm)),kk<=l.length/\l.length - kk<=gg/\s16=.int .i64 kk/\us.length=l.length/\acc.length<=kk/\Aside (DX w S D obj rs K E r W wr W.heap.size us acc s4)/\Aside (nu (FF w K) w l (qi l us) kk acc))
 case atStart=>exact⟨0,_,[],jQc _,M,rfl,i6,jQ0 _,eF.1,by simp only[Aside,Un];exact nu.start l⟩
 case round=>
  obtain⟨kk,us,acc,ez,hg,rfl,hul,afz,N,h1⟩:=hrel;by_cases aM:kk<l.length
  .have aR:(kk:Int)<(l.length:Int):=M
   obtain⟨x,H⟩:∃x,l[kk]?=some x:=⟨l[kk],by simp[aM]⟩;obtain⟨u,hu⟩:∃u,us[kk]?=some u:=⟨us[kk]' M,by simp[hul,aM]⟩;obtain⟨b,o,p,rfl,hs,hc,ht⟩:=(HL.1.move N.out.fr).nth H;obtain⟨va,vc,rfl⟩:=N.out.row.form;have jL:=N.out.used.cell hu;have hm:=JI H hu;cases x with
   |none=>
    cases ht;have DH:=Z (h1.out.none (G9 hm));clear H hm hu;exact M124
   |some x=>
    obtain⟨b1,v1,rfl,s1,c1,c2,n1,y1⟩:=ht.open;cases u with
    |true=>
     have DH:=Z (h1.out.none (G9 hm));clear H hm hu n1 y1;exact M124
    |false=>
     have gP:=Cc hul;obtain⟨Ws,HM,HT,HTT⟩:=Z4 (rI.start (id:=FF w K) (w:=w) (x:=x) (m:=qi l us) (i:=kk) M) (show(qi l us)[kk]?=some (some x)from hm) ht (show TT (jH NS Q w rs B) x from TO.some.1 (fQ.nth H));clear H hm hu n1 y1 ht gP c1 c2;go_wp21;clear jL
     go_loopg [6,7] l.length (λgg s6 s7 wr=>∃(jj:Nat) (zU:List Bool) (y:Tm),kk+1<=jj/\jj<=l.length/\l.length - jj<=gg/\s7=.int .i64 jj/\zU.length=l.length/\Aside (DX w S D obj rs K E r W wr W.heap.size zU acc (.slice va acc.length vc))/\Aside (TmV S wr (some y) s6)/\Aside (TT (jH NS Q w rs B) y)/\Aside (rI (FF w K) w (absorb (FF w K) w x ((qi l us).drop (kk+1))) kk (qi l zU) y jj))
     case atStart=>exact⟨kk+1,us,x,jQ0 _,M,M,by go_num,hul,N.out,HT.1,HTT.1,Ws.1⟩
     case round=>
      obtain⟨jj,zU,y,hkj,X1,Dp,rfl,J9,N2,T2,TT2,A2⟩:=hrel;obtain⟨b3,v3,rfl,s3,c3,c4,n3,y3⟩:=T2.out.open;have gP:=Cc J9;by_cases ee:jj<l.length
      .have qY:(jj:Int)<(l.length:Int):=M
       obtain⟨z,hz⟩:∃z,l[jj]?=some z:=⟨l[jj],by simp[ee]⟩;obtain⟨u2,qq⟩:∃u,zU[jj]?=some u:=⟨zU[jj]' M,by simp[J9,ee]⟩;obtain⟨b4,o4,p4,e4,nU,hc4,ht4⟩:=(HL.1.move N2.out.fr).nth hz;simp at e4;obtain⟨rfl,rfl⟩:=e4;have GG:=N2.out.used.cell qq;have kS:=JI hz qq;cases z with
       |none=>
        cases ht4;have DH:=Z (A2.out.none (G9 kS));clear hz kS qq n3 y3;exact M111
       |some z=>
        obtain⟨b5,v5,rfl,s5,c5,c6,n5,y5⟩:=ht4.open;cases u2 with
        |true=>
         have DH:=Z (A2.out.none (G9 kS));clear hz kS qq n3 y3 n5 y5;exact M111
        |false=>
         have rG:=Z (show(qi l zU)[jj]?=some (some z)from kS);have htz:TT (jH NS Q w rs B) z:=TO.some.1 (fQ.nth hz);have HTU:=Z (xt (id:=FF w K) (w:=w) TT2.out htz);have ag:=GV gJ.1 HI.1 hB N2.out.ok T2.out ht4 TT2.out htz;generalize tL:unionT (FF w K) w y z=un at ag HTU;obtain⟨un1,un2⟩:=un;have HUN:=Z tL;clear hz kS qq n3 y3 n5 y5 htz tL;go_wp21;refine ag.mono ?_;rintro e O ⟨v,rfl,⟨q1,q2,rfl,t1,t2⟩,g1,g2⟩;have N3:=N2.out.go g1 g2;obtain⟨b7,v7,rfl,s7,c7,c8,n7,y7⟩:=t1.open;cases un2 with
         |some z'=>
          obtain⟨b8,v8,rfl,s8,c9,c10,n8,y8⟩:=t2.open;obtain⟨DH,HN3,Vm⟩:=Z3 (A2.out.cR rG.1 HUN.1) N3 (T2.out.move g2);clear ag g1 g2 t1 t2 n7 y7 n8 y8 c7 c8 c9 c10 N3;go_wp21;go_roundg (l.length - (jj+1))
          case measure=>omega
          case rel=>exact⟨jj+1,zU,y,M,M,M,by go_num,J9,HN3.1,Vm.1,TT2.out,DH.1⟩
         |none=>
          cases t2;cases PZ:un1.jg with
          |none=>
           cases n7 PZ;have hR:=A2.out.all rG.1 HUN.1 PZ;have jn:=Z (h1.out.all HM.1 hR);have ag:=j1 gJ.1 N3.ok;have Ka:=Z N3.fr;have XB:=Z N3.fr.size;clear g1 g2 t1 n7 y7 PZ hR N3;go_wp21;refine ag.mono ?_;rintro e w6 ⟨v,rfl,k1,k2,k3⟩;have HP:=Z (show yO w S D obj rs K E r W (norm (FF w K) w l) (.returned v) w6 from⟨v,rfl,by rw[jn.1];exact k1.base XB.1,k2.drop (λb hb=>hb.imp .inl id),Ka.1.trans k3⟩);clear ag k1 k2 k3;exact M21
          |some q=>
           obtain⟨T8,d8,rfl,_⟩:=y7 q PZ;obtain⟨DH,HN3,Vm⟩:=Z3 (A2.out.join rG.1 HUN.1 (by rw[PZ];simp)) N3 t1;have LZ:jj<zU.length:=M
           clear ag g1 g2 t1 n7 y7 N3 PZ;go_wp2_with (refine MB rfl _ _ rfl W.heap.size jj true rfl rfl zU HN3.1.used LZ ?_);intro w8 WC;replace WC:kT W.heap.size ((zU.set jj true).map Value.bool).toArray 4 O w8:=by rw[List.map_set];exact WC
           have N8:=Z (HN3.1.mark gJ.1 WC);have T8':=Z (Vm.1.ng (iN.put WC λEk t' f hc=>by rw[HN3.1.used]at hc;cases hc;decide));clear WC;go_wp21;go_roundg (l.length - (jj+1))
           case measure=>omega
           case rel=>exact⟨jj+1,zU.set jj true,un1,M,M,M,by go_num,by simp[J9],N8.1,T8'.1,HTU.1.1,by simp only[Aside];rw[Um J9];exact DH.1⟩
      .have qY:¬(jj:Int)<(l.length:Int):=M
       have LZ:jj=(qi l zU).length:=M
       have hA:=A2.out;rw[LZ]at hA;have DH:=Z (h1.out.some HM.1 hA.done (by rw[gP,Cc hul]));have BA:=Z (an wr (.cells #[ptr b3] 156));have N4:=Z (N2.out.below gJ.1 BA.1);have TV:=Z (show All2 (TmV S (wr.alloc (.cells #[ptr b3] 156))) [some y] [ptr b3]from⟨T2.out.move (X:=Wc) (rs:=rs) (r:=r) (Below.fr BA.1),trivial⟩);have cS:W.heap.size<=(wr.alloc (.cells #[ptr b3] 156)).heap.size:=N4.1.fr.size;have kj:acc.length+1<=1099511627776:=M
       clear hA n3 y3 gP;go_wp2_with (at_builtin;refine sf rfl _ _ rfl W.heap.size _ acc rfl N4.1.row [some y] ⟨wr.heap.size,0,none⟩ _ rfl [ptr b3] TV.1 (cell_one_new _ _ _) kj cS ?_);intro v9 w9 Za CP ha9;have N9:=Z (N4.1.add gJ.1 Za CP (by rw[jQ3];exact ha9));clear Za CP ha9;go_wp21;go_roundg (l.length - (kk+1))
       case measure=>omega
       case rel=>exact⟨kk+1,zU,acc++[some y],M,M,by go_num,J9,by simp;omega,N9.1,DH.1⟩
  .have aR:¬(kk:Int)<(l.length:Int):=M
   have hk:kk=l.length:=M
   subst hk;have hI:=h1.out.done;subst hI;have HP:=Z N.out.post;exact M21
structure sI(w:List ah)(S:Sg)(D:Qx)(obj:Nat->Nat)(rs:List Nat)(K:Nat)(E:Qx)(r:Nat)(W wr:World)(acc:List (Option Tm))(v:Value):Prop where
 ok:Ok w S D obj rs K (EO E v) r wr
 fr:Fr S rs r W wr
 row:qn S W.heap.size wr acc v
def sI.sn(h:sI w S D obj rs K E r W wr acc v):∀g,v.ownBlock=some g->S g=none:=λg hg=>(h.ok.own g (.inr hg)).2.2
def sI.tl(h:sI w S D obj rs K E r W wr acc v):lS S wr acc v:=h.row.tl h.sn
def sI.go(h:sI w S D obj rs K E r W wr acc v)(g1:Ok w S D obj rs K (EO E v) r O)(g2:Fr S rs r wr O):sI w S D obj rs K E r W O acc v:=
 ⟨g1,h.fr.trans g2,h.row.fr g2 h.sn⟩
def sI.below(h:sI w S D obj rs K E r W wr acc v)(hE:Env NS Q w rs cs)(hb:S5 wr O):sI w S D obj rs K E r W O acc v:=
 h.go (h.ok.below hE.hs hb) (Below.fr hb)
def sI.add(h:sI w S D obj rs K E r W wr acc v)(hE:Env NS Q w rs cs)(hr:qn S W.heap.size O xJ v')(j:iN (λb=>v.ownBlock=some b) wr O)(hv:v'.ownBlock=v.ownBlock\/v'.ownBlock=some wr.heap.size):
 sI w S D obj rs K E r W O xJ v':=by
 refine⟨h.ok.step hE.hs j (λb hb=>.inr hb) (λb hb=>?_),h.fr.ng j λb hb=>(h.row.lt b hb).1,hr⟩;obtain hb|hb:=hb
 .exact .inl (.inl hb)
 .obtain e|e:=hv
  .exact .inl (.inr (e▸hb))
  .rw[e]at hb;cases hb;exact .inr ⟨jQ0 _,(hr.lt _ e).2⟩
def sI.start(h:Ok w S D obj rs K E r W):sI w S D obj rs K E r W W [] (.slice none 0 0):=
 ⟨h.drop λb hb=>hb.elim id λh=>by simp[Value.ownBlock]at h,Fr.refl _,⟨[],jR9 _ _ _ _,trivial⟩⟩
def sI.post(h:sI w S D obj rs K E r W wr acc v):yO w S D obj rs K E r W acc (.returned v) wr:=⟨v,rfl,h.row,h.ok,h.fr⟩
def sI.then(h:sI w S D obj rs K E r W wr acc v)(j:yO w S D obj rs K (EO E v) r wr l e O):yO w S D obj rs K E r W l e O:=by
 obtain⟨v',e1,k1,k2,k3⟩:=j;exact⟨v',e1,k1.base h.fr.size,k2.drop λb hb=>hb.imp .inl id,h.fr.trans k3⟩
abbrev Qk(w:List ah)(K:Nat)(x y:List (Option Tm)):List (Option Tm):=(x.flatMap λa=>y.map λb=>interT (FF w K) w a b).filter (·.isSome)
def Y9(y:List (Option Tm)):Qk w K [] y=[]:=rfl
def UJ(a:Option Tm)(x y:List (Option Tm)):Qk w K (a::x) y=(y.map λb=>interT (FF w K) w a b).filter (·.isSome)++Qk w K x y:=by
 simp[Qk,List.flatMap_cons,List.filter_append]
def Mm(I:aK x=false)(U:aK y=false):eH (FF w K) w x y=norm (FF w K) w (Qk w K x y):=by
 unfold eH;rw[I,U];rfl
def JV(hE:Env NS Q w rs cs)(hI:cO NS Q w S D obj rs K r)(hB:2*B<=r)(bD:Ok w S D obj rs K E r W)(hl:lS S W l sl)(hm:lS S W m sm)(fQ:TL (jH NS Q w rs B) l)(lv:TL (jH NS Q w rs B) m)(cF:l.length*m.length<=1099511627776):
 Calls prog 146 #[sl,sm] W (yO w S D obj rs K E r W (eH (FF w K) w l m)):=by
 obtain⟨a,c,rfl⟩:=hl.form;obtain⟨a2,c2,rfl⟩:=hm.form;have rO:=hl.max;have ahA:=hm.max;have aF:=gI hl;have aD:=gI hm;obtain⟨HL,HM,HO,HI,gJ⟩:=Z5 hl hm (sI.start bD) hI hE;clear hl bD hI hE hm;cases I:aK l with
 |true=>
  have hr:eH (FF w K) w l m=[]:=by unfold eH;rw[I];rfl
  rw[hr];rw[I]at aF;clear hr I aD fQ lv cF hB;go_in;go_wp21;refine aF.mono ?_;rintro e O ⟨rfl,rfl⟩;go_wp2;go_ret;exact HO.1.post
 |false=>
 rw[I]at aF;cases U:aK m with
 |true=>
  have hr:eH (FF w K) w l m=[]:=by unfold eH;rw[U,Bool.or_true];rfl
  rw[hr];rw[U]at aD;clear hr I U fQ lv cF hB;go_in;go_wp21;refine aF.mono ?_;rintro e O ⟨rfl,rfl⟩;go_wp21;refine aD.mono ?_;rintro e O ⟨rfl,rfl⟩;go_wp2;go_ret;exact HO.1.post
 |false=>
 rw[U]at aD;rw[Mm I U];have mR:=ES (id:=FF w K) (w:=w) l m;have afr:=Aw (id:=FF w K) (w:=w) fQ lv;have HPL:=Z (show(Qk w K l m).length<=1099511627776 from jQd mR cF);have HPI:=Z (show TL (jH NS Q w rs B) (Qk w K l m)from afr);clear I U mR afr cF;go_in;go_wp21;refine rv aF ?_;go_wp21;refine rv aD ?_;clear aF aD;go_wp21
 go_loopg [5,19] l.length (λgg s5 s19 wr=>∃(kk:Nat) (acc:List (Option Tm)),kk<=l.length/\l.length - kk<=gg/\s19=.int .i64 kk/\Aside (sI w S D obj rs K E r W wr acc s5)/\Aside (acc++Qk w K (l.drop kk) m=Qk w K l m))
 case atStart=>exact⟨0,[],jQc _,M,rfl,HO.1,rfl⟩
 case round=>
  obtain⟨kk,acc,ez,hg,rfl,N,h1⟩:=hrel;obtain⟨va,vc,rfl⟩:=N.out.row.form;by_cases aM:kk<l.length
  .have aR:(kk:Int)<(l.length:Int):=M
   obtain⟨x,H⟩:∃x,l[kk]?=some x:=⟨l[kk],by simp[aM]⟩;obtain⟨b,o,p,rfl,hs,hc,ht⟩:=(HL.1.move N.out.fr).nth H;have Nu:=h1.out;rw[cZ H,UJ]at Nu;obtain⟨HI2,HT,HX⟩:=Z3 Nu ht (show TO (jH NS Q w rs B) x from fQ.nth H);clear Nu H ht;go_wp21;clear hc
   go_loopg [5,25] m.length (λgg s5 s25 wr=>∃(jj:Nat) (acc:List (Option Tm)),jj<=m.length/\m.length - jj<=gg/\s25=.int .i64 jj/\Aside (sI w S D obj rs K E r W wr acc s5)/\Aside (TmV S wr x p)/\Aside (acc++(((m.drop jj).map λb=>interT (FF w K) w x b).filter (·.isSome)++Qk w K (l.drop (kk+1)) m)=Qk w K l m))
   case atStart=>exact⟨0,acc,jQc _,M,rfl,N.out,HT.1,by rw[jR0];exact HI2.1⟩
   case round=>
    obtain⟨jj,acc,X1,Dp,rfl,N2,T2,A2⟩:=hrel;obtain⟨va,vc,rfl⟩:=N2.out.row.form;by_cases ee:jj<m.length
    .have qY:(jj:Int)<(m.length:Int):=M
     obtain⟨z,hz⟩:∃z,m[jj]?=some z:=⟨m[jj],by simp[ee]⟩;obtain⟨b4,o4,p4,rfl,nU,hc4,ht4⟩:=(HM.1.move N2.out.fr).nth hz;have hA:=A2.out;rw[cZ hz,List.map_cons]at hA;have ag:=GJ gJ.1 HI.1 hB N2.out.ok T2.out ht4 HX.1 (lv.nth hz);generalize tL:interT (FF w K) w x z=un at ag hA;have HA:=Z hA;clear hz ht4 hA tL;go_wp21;refine ag.mono ?_;rintro e O ⟨q1,rfl,t1,g1,g2⟩;have N3:=Z (N2.out.go g1 g2);have T3:=Z (T2.out.move g2);cases un with
     |none=>
      cases t1;clear ag g1 g2;go_wp21;go_roundg (m.length - (jj+1))
      case measure=>omega
      case rel=>exact⟨jj+1,acc,M,M,by go_num,N3.1,T3.1,HA.1⟩
     |some un=>
      have hla:acc.length+1<=1099511627776:=by
       have h:=congrArg List.length HA.1;simp[-List.length_flatMap]at h;have:=HPL.1;rw[<-HA.1]at this;simp[-List.length_flatMap]at this;omega
      obtain⟨b8,v8,rfl,_⟩:=t1.open;have BA:=Z (an O (.cells #[ptr b8] 156));have N4:=Z (N3.1.below gJ.1 BA.1);have TV:=Z (show All2 (TmV S (O.alloc (.cells #[ptr b8] 156))) [some un] [ptr b8]from⟨t1.move (X:=Wc) (rs:=rs) (r:=r) (Below.fr BA.1),trivial⟩);have cS:W.heap.size<=(O.alloc (.cells #[ptr b8] 156)).heap.size:=N4.1.fr.size;have T4:=Z (T3.1.move (X:=Wc) (rs:=rs) (r:=r) (Below.fr BA.1));clear ag g1 g2 t1;go_wp2_with (at_builtin;refine sf rfl _ _ rfl W.heap.size _ acc rfl N4.1.row [some un] ⟨O.heap.size,0,none⟩ _ rfl [ptr b8] TV.1 (cell_one_new _ _ _) hla cS ?_);intro v9 w9 Za CP ha9;have N9:=Z (N4.1.add gJ.1 Za CP (by rw[jQ3];exact ha9));have T9:=Z (T4.1.ng CP);clear Za CP ha9;go_wp21;go_roundg (m.length - (jj+1))
      case measure=>omega
      case rel=>exact⟨jj+1,acc++[some un],M,M,by go_num,N9.1,T9.1,by simpa[Aside]using HA.1⟩
    .have qY:¬(jj:Int)<(m.length:Int):=M
     have hA:=A2.out;rw[jQf M]at hA;have HA:=Z (show acc++Qk w K (l.drop (kk+1)) m=Qk w K l m from hA);clear hA;go_wp21;go_roundg (l.length - (kk+1))
     case measure=>omega
     case rel=>exact⟨kk+1,acc,M,M,by go_num,N2.out,HA.1⟩
  .have aR:¬(kk:Int)<(l.length:Int):=M
   have Nu:=h1.out;rw[jQf M,Y9,List.append_nil]at Nu;subst Nu;have ag:=Cl gJ.1 HI.1 hB N.out.ok N.out.tl HPI.1 HPL.1;go_wp21;refine ag.mono ?_;intro e O j;have fJ:=N.out.then j;obtain⟨v',rfl,k1,k2,k3⟩:=id fJ;obtain⟨va',vc',rfl⟩:=k1.form;have HP:=Z fJ;clear ag j fJ k1 k2 k3;exact M21
def Ql{a:Act}{w:World}{Q:Exit->Act->World->Prop}(mX:o.guard=none)(s x:Operand)(ho:o.op=.call {callee:=.builtin .append,args:=#[s,x],argTypes:=#[121,121]})(base:Nat)(v)(l:List (Option Tm))(hs:a.eval s=v)(aL:qn S base w l v)(l':List (Option Tm))(sl)(H:a.eval x=sl)(pT:lS S w l' sl)(cF:l.length+l'.length<=1099511627776)(cS:base<=w.heap.size)(h:∀v' O,qn S base O (l++l') v'->iN (λb=>v.ownBlock=some b) w O->(v'.ownBlock=v.ownBlock\/v'.ownBlock=some w.heap.size)->wpList prog ops Q rest (a.put o.dst v') O):wpList prog ops Q (o::rest) a w:=by
 obtain⟨ns,I,U⟩:=pT;rcases I with⟨rfl,ad,c,rfl,hn⟩|⟨bk,b,o',c',rfl,Jd,jG,hD,hC⟩
 .have hl:l'=[]:=jQe (by rw[U.len];rfl);subst hl;cases ad with
  |none=>
   have:=hn rfl;subst this;obtain⟨i0,pn,lA,gj,j7⟩:=info_parts ET;obtain⟨ps,k1,k2⟩:=id aL;refine j4 mX s x 121 ho base 156 i0 1 underlying121 pn v l.length ps hs k1 0 H (h v w ?_ ?_ (.inl rfl))
   .rw[List.append_nil];exact aL
   .exact iN.grown (World.grownBy.refl w _) k1 i5 i5
  |some ad=>exact sf mX s x ho base v l hs aL [] ad c H [] trivial (by intro hp u hu;simp at hu) cF cS h
 .refine sf mX s x ho base v l hs aL l' ⟨b,o',none⟩ c' (by rw[H,U.len]) ns U (λhp u hu=>?_) cF cS h;by_cases hj:hp=0
  .subst hj;simpa[Addr.add]using hC 0 u hu
  .simpa[Addr.add,hj]using hC hp u hu
def Ti(w:List ah)(S:Sg)(D:Qx)(obj:Nat->Nat)(rs:List Nat)(K:Nat)(E:Qx)(r:Nat)(W:World)(v:Value)(l:List (Option Tm))(e:Ending)(W':World):Prop:=
 ∃v' W1,e=.returned v'/\qn S W.heap.size W' l v'/\Ok w S D obj rs K (EO E v') r W'/\iN (λb=>v.ownBlock=some b) W W1/\Fr S rs r W1 W'
def kQ(hE:Env NS Q w rs cs)(hI:cO NS Q w S D obj rs K r)(hB:2*B<=r)(bD:Ok w S D obj rs K E r W){base:Nat}(hl:qn S base W l v)(hb:base<=W.heap.size)(hv:∀b,v.ownBlock=some b->E b)(hm:lS S W m sm)(fQ:TL (jH NS Q w rs B) l)(lv:TL (jH NS Q w rs B) m)(cF:l.length+m.length<=1099511627776):
 Calls prog 145 #[v,sm] W (Ti w S D obj rs K E r W v (kv (FF w K) w l m)):=by
 obtain⟨a,c,rfl⟩:=hl.form;obtain⟨a2,c2,rfl⟩:=hm.form;obtain⟨HL,HM,HO,HI,gJ,HV⟩:=Z6 hl hm bD hI hE hv;clear hl bD hI hE hm hv;go_in;go_wp2_with (at_builtin;refine Ql rfl _ _ rfl base _ l rfl HL.1 m _ rfl HM.1 cF hb ?_);intro v9 w9 Za CP ha9;have afs:Ok w S D obj rs K E r w9:=HO.1.ng gJ.1.hs CP HV.1;have yx:∀g,v9.ownBlock=some g->S g=none:=λg hg=>by
  obtain e|e:=ha9
  .exact(HO.1.own g (HV.1 g (e▸hg))).2.2
  .rw[e]at hg;cases hg;cases hs:S W.heap.size with
   |none=>rfl
   |some s=>have:=HO.1.gh.lI _ s hs;omega
 have ag:=Cl gJ.1 HI.1 hB afs (Za.tl yx) (TL.append.2 ⟨fQ,lv⟩) (G9 cF);obtain⟨a9,c9,e9⟩:=Za.form;subst e9;rw[jQo]at ag;have HP9:=Z CP;clear afs yx Za CP ha9;go_wp21;refine ag.mono ?_;rintro e O ⟨v',rfl,k1,k2,k3⟩;have HP:=Z (show Ti w S D obj rs K E r W (.slice a l.length c) (kv (FF w K) w l m) (.returned v') O from⟨v',w9,rfl,k1.base HP9.1.size,k2,HP9.1,k3⟩);clear ag k1 k2 k3;exact M21
def All2.set{R:α->β->Prop}{a:α}{b:β}(hr:R a b):∀{l:List α} {m:List β} (hp:Nat),All2 R l m->All2 R (l.set hp a) (m.set hp b)
 |[],[],_,_=>trivial
 |_::l,_::m,0,h=>⟨hr,h.2⟩
 |_::l,_::m,hp+1,h=>⟨h.1,All2.set hr hp h.2⟩
 |[],_::_,_,h=>h.elim
 |_::_,[],_,h=>h.elim
def gp(w:List ah)(K:Nat)(S:Sg)(d:Bool)(G:Qx)(W:World)(so:Option Nat):Prop:=
 ∀b,so=some b->∃es ck,W.heap[b]?=some (.map es ck)/\∀e∈es.toList,∃q s,e.key=.iface (tid s.ld) (ptr q)/\S q=some s/\e.val=.bool true/\((fs w K).cmp s d=true\/G q)
section
variable(NS:List ByteArray)(Q:Y->Prop)(w:List ah)(S:Sg)(D:Qx)(obj:Nat->Nat)(rs:List Nat)(K r:Nat)
def dE:Prop:=∀(E G:Qx) (W:World) (v:Value) (t:Y) (d:Bool) (so:Option Nat),Ok w S D obj rs K E r W->dq S v t->PT NS Q w 0 t->2*J rs true false t+1<r->
 gp w K S d G W so->(∀q s,G q->S q=some s->J rs true false t<J rs true false s)->
 Calls prog 86 #[v,.bool d,.map so] W (lC (λb=>so=some b) w S D obj rs K E r W λu W'=>(u=.pointer none/\(fs w K).cmp t d=true/\gp w K S d G W' so)\/(∃b,u=ptr b/\(fs w K).cmp t d=false))
end
def bO(W):Calls prog 105 #[.bool true] W (dL W (.tuple #[])):=by
 go_in;go_wp21;refine jRq (v:=.tuple #[]) (by simp[results,Tryz.results105,go_sem]) rfl ?_;exact⟨rfl,rfl⟩
def wu(hC:dE NS Q w S D obj rs K r)(bD:Ok w S D obj rs K E r W){d:Bool}(hv:dq S v t)(ht:PT NS Q w 0 t)(hr:2*J rs true false t+1<r):
 Calls prog 86 #[v,.bool d,.map none] W (aV w S D obj rs K E r W λu _=>(u=.pointer none/\(fs w K).cmp t d=true)\/(∃b,u=ptr b/\(fs w K).cmp t d=false)):=
 (hC E (λ_=>False) W v t d none bD hv ht hr (λ_ h=>by cases h) (λ_ _ h=>h.elim)).mono λe O ⟨u,I,U,h3,h4⟩=>⟨u,I,U.imp (λh=>⟨h.1,h.2.1⟩) id,h3,h4.wide λb h=>by cases h⟩
def _root_.Go.Proofs.YtbdgppghkdibfaaGreatDoor.P.jH.ck{a:Y}(h:jH NS Q w rs b a)(hb:2*b<=r):2*J rs true false a+1<r:=by
 have ja:=dM (rs:=rs) (v:=true) (f:=true) (v':=true) (f':=false) (λh=>h) i6 a;have:=h.2.1;omega
def JN{a:Act}{w:World}{Q:Exit->Act->World->Prop}(mX:o.guard=none)(x y:Operand)(ho:o.op=.store 156 x y)(base:Nat)(B hp n c:Nat)(l:List (Option Tm))(aL:qn S base w l (.slice (some ⟨B,0,none⟩) n c))(tm:Option Tm)(b:Nat)(JO:TmV S w tm (ptr b))(H:a.eval x=.pointer (some ⟨B,hp,none⟩))(hy:a.eval y=ptr b)(hj:hp<l.length)(h:∀w2,qn S base w2 (l.set hp tm) (.slice (some ⟨B,0,none⟩) n c)->iN (λg=>some B=some g) w w2->wpList prog ops Q rest (a.put o.dst undef) w2):wpList prog ops Q (o::rest) a w:=by
 obtain⟨ps,I,U⟩:=aL;have Q8:=I;rcases I.2 with⟨h0,_⟩|⟨g,cap,cur,e,k1,k2,k3,k4,k5,k6⟩
 .cases h0
 simp at e;obtain⟨rfl,rfl,rfl⟩:=e;have hcz:l.length<=cur.size:=M
 refine eT mX 156 x y ho B hp (ptr b) H hy 156 _ k2 g9 (by simp[Value.cells,Value.oneCell']) (by simp[Value.cells];omega) _ rfl ?_;intro w2 j;have hv:iN (λg=>some B=some g) w w2:=by
  have:=iN.put j λEk t' f hc=>by rw[k2]at hc;cases hc;decide
  exact⟨this.os,this.tape,this.output,this.size,λq hq hn=>this.block q hq λe=>hn (by rw[e]),λq hq=>this.nt q (jQw hq).symm⟩
 have sG:(cur.toList.take hp++(ptr b).cells.toList++cur.toList.drop (hp+(ptr b).cells.size)).toArray.toList=cur.toList.set hp (ptr b):=by
  have hc:(ptr b).cells=#[ptr b]:=rfl;rw[hc,List.set_eq_take_append_cons_drop,jQ7 (by simp;omega)];simp
 refine h w2 ⟨ps.set hp (ptr b),⟨by rw[List.length_set,List.length_set];exact I.1,.inr ⟨B,c,_,by rw[List.length_set],k1,j.here,by rw[List.length_set];exact k3,k4,?_,?_⟩⟩,?_⟩ hv
 .rw[<-Array.length_toList,sG,List.length_set,Array.length_toList];exact k5
 .rw[sG,List.length_set,<-k6,List.take_set]
 .have Is:All2 (TmV S w2) l ps:=U.imp λ_ _ K6=>K6.ng hv;have Ng:=JO.ng hv;exact All2.set Ng hp Is
def CG(w:List ah)(S:Sg)(D:Qx)(obj:Nat->Nat)(rs:List Nat)(K:Nat)(E:Qx)(r:Nat)(W:World)(l:List (Option Tm))(f:Bool)(e:Ending)(W':World):Prop:=
 ∃v,e=.returned (.tuple #[v,.bool f])/\qn S W.heap.size W' l v/\Ok w S D obj rs K (EO E v) r W'/\Fr S rs r W W'
def sI.aa0(h:sI w S D obj rs K E r W wr acc v)(f:Bool):CG w S D obj rs K E r W acc f (.returned (.tuple #[v,.bool f])) wr:=⟨v,rfl,h.row,h.ok,h.fr⟩
def qn.pos{base:Nat}(h:qn S base W l (.slice a n c))(hl:l≠[]):∃g,a=some ⟨g,0,none⟩/\n=l.length:=by
 obtain⟨ps,I,U⟩:=h;rcases I.2 with⟨e,h0⟩|⟨g,cap,cur,e,_⟩
 .exact absurd (jQe h0) hl
 .simp at e;exact⟨g,e.1,e.2.1⟩
def All2.take{R:α->β->Prop}:∀{l:List α} {m:List β} (hp:Nat),All2 R l m->All2 R (l.take hp) (m.take hp)
 |_,_,0,_=>by simp[All2]
 |[],[],_+1,_=>trivial
 |_::_,_::_,hp+1,h=>⟨h.1,All2.take hp h.2⟩
 |[],_::_,_,h=>h.elim
 |_::_,[],_,h=>h.elim
def qn.take{base:Nat}(h:qn S base W l (.slice a n c))(hj:hp<=l.length):qn S base W (l.take hp) (.slice a hp c):=by
 obtain⟨ps,I,U⟩:=h;have hlen:(l.take hp).length=hp:=by simp;omega
 refine⟨ps.take hp,⟨?_,?_⟩,U.take hp⟩
 .have:=I.1;rw[hlen];simp;omega
 .rcases I.2 with⟨e,h0⟩|⟨g,cap,cur,e,k1,k2,k3,k4,k5,k6⟩
  .have:hp=0:=M
   subst this;simp at e;obtain⟨rfl, -,rfl⟩:=e;exact .inl ⟨rfl,i6⟩
  .simp at e;obtain⟨rfl, -,rfl⟩:=e;refine .inr ⟨g,c,cur,by rw[hlen],k1,k2,M,k4,k5,?_⟩;rw[hlen,<-k6,List.take_take]
   congr 1;omega
def sI.take(h:sI w S D obj rs K E r W wr acc (.slice a n c))(hj:hp<=acc.length):sI w S D obj rs K E r W wr (acc.take hp) (.slice a hp c):=by
 refine⟨?_,h.fr,h.row.take hj⟩;have:EO E (.slice a hp c)=EO E (.slice a n c):=by
  funext b;cases a<;>rfl
 rw[this];exact h.ok
def Fa{id:Y->Y->Bool}(h:(xc||yc)=false\/isAllL (eH id w x y)=true):eJ id w cmp x xc y yc=(eH id w x y,xc||yc):=by
 unfold eJ;rcases h with h|h<;>simp[h]
def MN{id:Y->Y->Bool}(h:(xc||yc)=true)(U:isAllL (eH id w x y)=false):eJ id w cmp x xc y yc=((eH id w x y).filter (keepT cmp),isAllL ((eH id w x y).filter (keepT cmp))):=by
 unfold eJ;simp[h,U]
def pK(hE:Env NS Q w rs cs)(hI:cO NS Q w S D obj rs K r)(hC:dE NS Q w S D obj rs K r)(hB:2*B<=r)(bD:Ok w S D obj rs K E r W)(hl:lS S W l sl)(hm:lS S W m sm)(fQ:TL (jH NS Q w rs B) l)(lv:TL (jH NS Q w rs B) m)(cF:l.length*m.length<=1099511627776)(hnl:NF l)(dU:NF m)(xc yc:Bool):
 Calls prog 108 #[sl,.bool xc,sm,.bool yc] W (CG w S D obj rs K E r W (eJ (FF w K) w (λt=>(fs w K).cmp t false) l xc m yc).1 (eJ (FF w K) w (λt=>(fs w K).cmp t false) l xc m yc).2):=by
 obtain⟨a,c,rfl⟩:=hl.form;obtain⟨a2,c2,rfl⟩:=hm.form;have aF:=JV hE hI hB bD hl hm fQ lv cF;have Hy:=(EV (id:=FF w K) (w:=w) hnl dU).1;have Oe:=rX (id:=FF w K) (w:=w) fQ lv;generalize fi:eH (FF w K) w l m=ts at aF Hy Oe;cases jG:(xc||yc)with
 |false=>
  rw[Fa (.inl jG),jG,fi];have H:xc=false:=by cases xc<;>simp_all
  have hy:yc=false:=by cases yc<;>simp_all
  subst H;subst hy;clear hl hm fQ lv cF hnl dU hE hI hC hB bD Hy Oe fi jG;go_in;go_wp21;refine aF.mono ?_;rintro e O ⟨v,rfl,k1,k2,k3⟩;have HP:=Z (show CG w S D obj rs K E r W ts false (.returned (.tuple #[v,.bool false])) O from⟨v,rfl,k1,k2,k3⟩);obtain⟨va,vc,rfl⟩:=k1.form;clear k1 k2 k3 aF;have ag:=bO O;go_wp21;refine rv ag ?_;go_wp21;refine jRc (v:=.tuple #[.slice va ts.length vc,.bool false]) (by simp[results,Tryz.results108,go_sem]) rfl ?_;exact HP.1
 |true=>
  cases ha:isAllL ts with
  |true=>
   rw[Fa (.inr (by rw[fi];exact ha)),jG,fi];clear hl hm fQ lv cF hnl dU hE hI hC hB bD Hy Oe fi;go_in;cases xc
   .have hy:yc=true:=G9 jG
    subst hy;exact M36
   .exact M36
  |false=>
   rw[MN jG (by rw[fi];exact ha),fi];have hnu:=oR.1 ha;have CW:=Hy.tp ha;have xe:isAllL (ts.filter (keepT λt=>(fs w K).cmp t false))=false:=oR.2 λx H=>hnu x (List.mem_filter.1 H).1;rw[xe];obtain⟨HI,gJ,HC,HTP,DH,HFL⟩:=Z6 hI hE hC CW Oe xe;clear hl hm fQ lv cF hnl dU hE hI hC bD Hy Oe fi hnu CW xe;go_in;cases xc
   .have hy:yc=true:=G9 jG
    subst hy;exact M4
   .exact M4
def hitE(q:Value->Bool):List MapEntry->Nat->Option (Nat×Value)
 |[],_=>none
 |e::l,i=>if q e.key then some (i,e.val)else hitE q l (i+1)
def oD{q:Value->Bool}:∀{l:List MapEntry} {i hp:Nat} {v:Value},hitE q l i=some (hp,v)->∃k e,hp=i+k/\l[k]?=some e/\q e.key=true/\v=e.val
 |[],_,_,_,h=>by simp[hitE]at h
 |e::l,i,hp,v,h=>by
  rw[hitE]at h;split at h
  .rename_i hq
   simp at h;exact⟨0,e,M,rfl,hq,h.2.symm⟩
  .obtain⟨k,e',I,U,h3,h4⟩:=oD h;exact⟨k+1,e',M,G9 U,h3,h4⟩
section
def Ou:∀{es:List MapEntry} (i:Nat),(∀e∈es,(Op.equal kt k e.key).run P W=.ok (q e.key) W)->(Instr.findAsking kt k es i).run P W=.ok (hitE q es i) W
 |[],i,_=>by simp[Instr.findAsking,hitE]
 |e::es,i,h=>by
  unfold Instr.findAsking;rw[hitE];have:=h e i6;cases hq:q e.key with
  |true=>simp[this,hq,Result.andThen]
  |false=>
   have ih:=Ou (es:=es) (i+1) λe he=>h e (by simp[he]);simp[this,hq,Result.andThen,ih]
def Cp(hd:P.underlying kt=some d)(hn:∀k',Instr.sameNow d k k'=none){es:List MapEntry}(h:∀e∈es,(Op.equal kt k e.key).run P W=.ok (q e.key) W):(Instr.findKey kt k es).run P W=.ok (hitE q es 0) W:=by
 cases es with
 |nil=>simp[Instr.findKey,jQj hd,Result.andThen,Instr.findNow,hitE]
 |cons e es=>
  have:Instr.findNow d k (e::es) 0=none:=by simp[Instr.findNow,hn]
  simp[Instr.findKey,jQj hd,Result.andThen,this,Ou 0 h]
structure DD(r:Nat)(es:Array MapEntry)(ck:Nat)(w w2:World):Prop where
 here:w2.heap[r]?=some (.map es ck)
 other:∀b,b≠r->w2.heap[b]?=w.heap[b]?
 size:w2.heap.size=w.heap.size
 os:w2.os=w.os
 tape:w2.tape=w.tape
 output:w2.output=w.output
def Cq{w:World}{es:Array MapEntry}{ck:Nat}(hb:w.heap[r]?=some (.map es0 ck0)):DD r es ck w {w with heap:=w.heap.setIfInBounds r (.map es ck)}:=
 ⟨(MapKept.heap_set hb).1,(MapKept.heap_set hb).2,i6,rfl,rfl,rfl⟩
def DD.fr{es:Array MapEntry}{ck:Nat}{w:World}(h:DD r es ck w w2)(hb:w.heap[r]?=some (.map es0 ck0))(hX:X r):bZ X S rs rr w w2:=by
 refine⟨h.os,h.tape,h.output,jQz h.size.symm,λb _=>?_⟩;by_cases nL:b=r
 .subst nL;exact .inr (.inr ⟨hX,⟨_,_,hb⟩,⟨_,_,h.here⟩⟩)
 .exact .inl (h.other b nL)
variable{es:Array MapEntry}{ck:Nat}
def IM(hm:P.underlying mt=some (.map kt et))(hd:P.underlying kt=some d)(hn:∀k',Instr.sameNow d k k'=none)(hck:∀e,(Instr.checkKey e 10000 kt k).run P W=.ok () W)(hz:(zeroValue et).run P W=.ok z W)(hb:W.heap[r]?=some (.map es ck))(h:∀e∈es.toList,(Op.equal kt k e.key).run P W=.ok (q e.key) W)(c:Bool):
 (Instr.lookup mt (.map (some r)) k c).run P W=.ok (if c then .tuple #[((hitE q es.toList 0).map (·.2)).getD z,.bool (hitE q es.toList 0).isSome]else((hitE q es.toList 0).map (·.2)).getD z) W:=by
 have hf:=Cp hd hn h;unfold Instr.lookup;simp only[jRp,jQj hm,jR8,MapKept.run_getObj_map hb,Sem.run_pure,hck,hf];cases hh:hitE q es.toList 0 with
 |none=>cases c<;>simp[hz,Result.andThen]
 |some jv=>cases c<;>simp[Result.andThen]
def Gj(hm:P.underlying mt=some (.map kt et))(hd:P.underlying kt=some d)(hck:∀e,(Instr.checkKey e 10000 kt k).run P W=.ok () W)(hz:(zeroValue et).run P W=.ok z W):
 (Instr.lookup mt (.map none) k false).run P W=.ok z W:=by
 unfold Instr.lookup;simp[jRp,jQj hm,jR8,hck,Instr.findKey,jQj hd,Instr.findNow,hz,Result.andThen]
def kP(hm:P.underlying mt=some (.map kt et))(hd:P.underlying kt=some d)(hn:∀k',Instr.sameNow d k k'=none)(hck:∀e,(Instr.checkKey e 10000 kt k).run P W=.ok () W)(hb:W.heap[r]?=some (.map es ck))(h:∀e∈es.toList,(Op.equal kt k e.key).run P W=.ok (q e.key) W)(fp:hitE q es.toList 0=none):
 ∃w2,(Instr.mapUpdate mt (.map (some r)) k v).run P W=.ok () w2/\DD r (es.push {key:=k,val:=v,born:=ck}) (ck+1) W w2:=by
 have hf:=Cp hd hn h;refine⟨_,?_,Cq hb⟩;unfold Instr.mapUpdate;simp[jRp,jQj hm,jR8,MapKept.run_getObj_map hb,hck,hf,fp,MapKept.run_setObj_map _ hb,Result.andThen]
def iV{e:MapEntry}{u:Value}(hm:P.underlying mt=some (.map kt et))(hd:P.underlying kt=some d)(hn:∀k',Instr.sameNow d k k'=none)(hck:∀e,(Instr.checkKey e 10000 kt k).run P W=.ok () W)(hb:W.heap[r]?=some (.map es ck))(h:∀e∈es.toList,(Op.equal kt k e.key).run P W=.ok (q e.key) W)(hj:es[hp]?=some e)(hit:hitE q es.toList 0=some (hp,u))(hk:Instr.sameBits 10000 e.key k=true):
 ∃w2,(Instr.mapUpdate mt (.map (some r)) k v).run P W=.ok () w2/\DD r (es.modify hp λe=>{e with key:=k,val:=v}) ck W w2:=by
 have hf:=Cp hd hn h;refine⟨_,?_,Cq hb⟩;unfold Instr.mapUpdate;simp[jRp,jQj hm,jR8,MapKept.run_getObj_map hb,hck,hf,hit,hj,Instr.keyThatStays,hk,MapKept.run_setObj_map _ hb,Result.andThen]
end
def LK{hp:TypeInfo}{a:Nat}{tb:TypeId}(j:Tryz.prog.underlying tp=some (.pointer te))(Jt:Tryz.prog.info? te=some hp)(j8:hp.size≠0)(ha:W.heap[a]?=some (.cells ca ta (0,0)))(hb:W.heap[b]?=some (.cells cb tb (0,0))):(Op.equal tp (ptr a) (ptr b)).run prog W=.ok (a==b) W:=by
 by_cases h:a=b
 .subst h;have I:∀d:Nat,(Op.equalIn (d+1) tp (ptr a) (ptr a)).run prog W=.ok true W:=λd=>by
   simp[Op.equalIn,jQj j,sizeOf,typeInfo,Jt,run_sameAddr_same]
  simp[Op.equal,Op.maxDepth,I 9999]
 .have bk:(⟨a,0,none⟩:Addr)≠⟨b,0,none⟩:=by intro e;cases e;exact h rfl
  have I:∀d:Nat,(Op.equalIn (d+1) tp (ptr a) (ptr b)).run prog W=.ok false W:=λd=>by
   simp[Op.equalIn,jQj j,sizeOf,typeInfo,Jt,j8,run_sameAddr_other W bk ha hb]
  simp[Op.equal,Op.maxDepth,I 9999,h]
def Ja{ms:Array (String×TypeId)}{i hp:TypeInfo}{a:Nat}{tb:TypeId}(hi:Tryz.prog.underlying ti=some (.interface ms))(j:Tryz.prog.underlying tp=some (.pointer te))(aaL:Tryz.prog.info? tp=some i)(aaM:i.comparable=true)(Jt:Tryz.prog.info? te=some hp)(j8:hp.size≠0)(ha:W.heap[a]?=some (.cells ca ta (0,0)))(hb:W.heap[b]?=some (.cells cb tb (0,0))):(Op.equal ti (.iface tp (ptr a)) (.iface tq (ptr b))).run prog W=.ok (tp==tq&&a==b) W:=by
 by_cases ht:tp=tq
 .subst ht;by_cases h:a=b
  .subst h;simp[Op.equal,Op.maxDepth,run_equalIn_iface_ptr_same W 9998 _ hi j aaL aaM Jt]
  .have bk:(⟨a,0,none⟩:Addr)≠⟨b,0,none⟩:=by intro e;cases e;exact h rfl
   simp[Op.equal,Op.maxDepth,run_equalIn_iface_ptr_other W 9998 hi j aaL aaM Jt j8 bk ha hb,h]
 .have I:∀d:Nat,(Op.equalIn (d+1) ti (.iface tp (ptr a)) (.iface tq (ptr b))).run prog W=.ok false W:=λd=>by
   simp[Op.equalIn,jQj hi,ht]
  simp[Op.equal,Op.maxDepth,I 9999,ht]
def wM(s:ByteArray):Prop:=∃h:0<s.size,65<=(s[0]'h).toNat/\(s[0]'h).toNat<=90
def FZ{s:ByteArray}(h:isName s=true):wM s:=by
 unfold isName at h;simp only[Bool.and_eq_true,decide_eq_true_eq]at h;obtain⟨I,U,h3⟩:=h;have h0:0<s.size:=U;have:=Cd s 0 h0;rw[jR0,I]at this;refine⟨h0,?_⟩;generalize(s[0]'h0).toNat=c at this;by_cases h65:65<=c
 .by_cases h90:c<=90
  .exact⟨h65,h90⟩
  .exfalso;have e1:¬((c:Int)<65):=M
   have e2:(90:Int)<c:=M
   simp[e1,e2]at this
 .exfalso;have e1:(c:Int)<65:=M
  simp[e1]at this
def Gz(s)(hs:wM s)(hz:s.size<=9223372036854775807):Calls prog 201 #[.string s] W (dL W (.tuple #[.int .i32 ((s[0]'hs.1).toNat:Int),.int .i64 1])):=by
 obtain⟨h0,I,U⟩:=hs;have bk:¬s.toList=[]:=λhh=>by
  have h3:s.toList.length=s.size:=by simp[jRk]
  rw[hh]at h3;simp at h3;omega
 have zl:s.toList.isEmpty=false:=G9 bk
 have hzz:(0:Int)<(s.size:Int):=M
 have h128:((s[0]'h0).toNat:Int)<128:=M
 go_in;go_wp21;refine jRc (v:=.tuple #[.int .i32 ((s[0]'h0).toNat:Int),.int .i64 1]) (by simp[results,Tryz.results201,go_sem]) rfl ?_;exact⟨rfl,rfl⟩
def DL(c:Nat)(I:65<=c)(U:c<=90)(ht:jE D W):Calls prog 250 #[.int .i32 (c:Int)] W (dL W (.bool true)):=by
 have hc:=ht.2 c I U;have k1:(0:Int)<=(c:Int):=M
 have k2:(c:Int)<=90:=M
 clear ht;exact M85
def LS(W:World)(v:Value)(e:Ending)(W':World):Prop:=e=.returned v/\∃m,W'=W.drewN m
def gb(s)(hs:wM s)(hz:s.size<=9223372036854775807)(ht:jE D W):Calls prog 228 #[.string s] W (dL W (.bool true)):=by
 have aF:=Gz (W:=W) s hs hz;have aD:=DL (W:=W) _ hs.2.1 hs.2.2 ht;generalize((s[0]'hs.1).toNat:Int)=c at aF aD;clear ht hs;go_in;go_wp21;refine rv aF ?_;go_wp21;refine rv aD ?_;exact M12
def Uq(s)(pk:Option Addr)(hs:wM s)(hz:s.size<=9223372036854775807)(ht:jE D W):Calls prog 212 #[.pointer pk,.string s] W (dL W (.string s)):=by
 have aF:=gb (W:=W) s hs hz ht;clear ht hs;go_in;go_wp21;refine rv aF ?_;exact M12
def nx(b:Nat)(s)(pk:Option Addr)(I:ce W b 1 (.pointer pk))(U:ce W b 2 (.string s))(hs:wM s)(hz:s.size<=9223372036854775807)(ht:jE D W):
 Calls prog 174 #[ptr b] W (LS W (.string s)):=by
 have HC:=Z (show∀n,Calls prog 212 #[.pointer pk,.string s] (W.drewN n) (dL (W.drewN n) (.string s))from λn=>Uq (W:=W.drewN n) s pk hs hz ht);clear ht hs;go_in;go_wp21;go_quiet (first|(go_at_call 212;refine Calls.quiet_of_same (HC.1 _)));exact M192
def DO(a b w):(callFunc 260 #[.string a,.string b]).run prog w=.ok (.value (.int .i64 (compareBytes a.data.toList b.data.toList))) w:=by
 rw[run_callFunc_extern func260 g9 g9 g9 (e:=Extern.BytealgCompare.compare) g9,Lib.run_compareString];rfl
def Mg(a b W):Calls prog 251 #[.string a,.string b] W (dL W (.int .i64 (compareBytes a.data.toList b.data.toList))):=by
 have h:=DO a b W;exact M85
def wo(a b W):Calls prog 229 #[.string a,.string b] W (dL W (.int .i64 (compareBytes a.data.toList b.data.toList))):=by
 have h:=Mg a b W;go_in;go_wp21;refine rv h ?_;exact M12
def EP:∀l:List UInt8,compareBytes l l=0:=by
 intro l
 induction l with
 |nil=>rfl
 |cons a l ih=>simp[compareBytes,ih]
def afd:(Tryz.prog.info? 117).map (·.size)=some 4:=g9
def aaG:Tryz.prog.underlying 292=some (.pointer 117):=g9
def PJ{t2:TypeId}(I:W.heap[b1]?=some (.cells #[p1,v1,.string s1,x1,y1,.bool false] t1 (0,0)))(U:W.heap[b2]?=some (.cells #[p2,v2,.string s2,x2,y2,.bool false] t2 (0,0)))(cz:wM s1)(gj:s1.size<=9223372036854775807)(eX:wM s2)(j7:s2.size<=9223372036854775807)(ht:jE D W):
 Calls prog 189 #[ptr b1,ptr b2] W (LS W (.int .i64 (compareBytes s1.data.toList s2.data.toList))):=by
 obtain⟨hp,hj,hz⟩:=jQ6.1 afd;by_cases hb:b1=b2
 .subst hb;have hs:s1=s2:=by rw[I]at U;simp at U;exact U.1.2.2.1
  subst hs;have heq:=run_eql_ptr_same (P:=prog) W ⟨b1,0,none⟩ aaG hj;rw[EP];clear I U cz eX ht hj hz;go_in;go_wp2;go_ret;exact⟨rfl,0,rfl⟩
 .have bk:(⟨b1,0,none⟩:Addr)≠⟨b2,0,none⟩:=by intro e;cases e;exact hb rfl
  have heq:=run_eql_ptr_other (P:=prog) W aaG hj (by rw[hz];decide) bk I U;have c1:=G7 2 I
  have c2:=G7 2 U
  have aF:=gb (W:=W) s1 cz gj ht;have aD:=gb (W:=W) s2 eX j7 ht;have HC:=Z (λn=>wo s1 s2 (W.drewN n));clear I U cz eX ht hj hz bk;by_cases hs:s1=s2
  .subst hs;rw[EP];have hn:=gB (rfl:s1=s1);go_in;go_wp21;refine rv aF ?_;go_wp21;refine rv aD ?_;go_wp21;go_quiet (fail);exact M192
  .have hn:=jX hs;generalize bo:compareBytes s1.data.toList s2.data.toList=res;clear HC;go_in;go_wp21;refine rv aF ?_;go_wp21;refine rv aD ?_;go_wp21;go_quiet (fail);have k1:ce (W.drewN nq) b1 2 (.string s1):=c1;have k2:ce (W.drewN nq) b2 2 (.string s2):=c2;have WZ:=Z (λn=>wo s1 s2 ((W.drewN nq).drewN n));rw[bo]at WZ;have HQ:=Z (show∃m,W.drewN nq=W.drewN m from⟨_,rfl⟩);generalize W.drewN nq=W2 at*;clear c1 c2 heq;go_wp21;go_quiet (first|(go_at_call 229;refine Calls.quiet_of_same (WZ.1 _)));go_wp2;go_ret;obtain⟨m,rfl⟩:=HQ.1;exact⟨rfl,_,World.drewN_drewN _ _ _⟩
def uX{t2:TypeId}(I:W.heap[b1]?=some (.cells #[p1,v1,.string s1,x1,y1,.bool false] t1 (0,0)))(U:W.heap[b2]?=some (.cells #[p2,v2,.string s2,x2,y2,.bool false] t2 (0,0)))(cz:wM s1)(gj:s1.size<=9223372036854775807)(eX:wM s2)(j7:s2.size<=9223372036854775807)(ht:jE D W):
 Calls prog 148 #[ptr b1,ptr b2] W (LS W (.int .i64 (compareBytes s1.data.toList s2.data.toList))):=by
 have HC:=Z (λn=>PJ (W:=W.drewN n) (b1:=b1) (b2:=b2) I U cz gj eX j7 ht);have c1:∃v,ce W b1 0 v:=⟨p1,by simp[World.cell?,I]⟩;have c2:∃v,ce W b2 0 v:=⟨p2,by simp[World.cell?,U]⟩;obtain⟨q1,c1⟩:=c1;obtain⟨q2,c2⟩:=c2;clear ht cz eX I U;generalize compareBytes s1.data.toList s2.data.toList=res at HC⊢;go_in;go_wp21;go_quiet (first|(go_at_call 189;refine Calls.quiet_of (HC.1 _)));exact M192
def sortF_ren:Go.Shelf.Ren:=⟨λ|6=>147|15=>188|14=>187|28=>226|29=>227|20=>218|21=>219|22=>220|23=>221|24=>222|25=>223|26=>224|27=>225|46=>245|47=>246|48=>247|49=>248|50=>249|57=>258|n=>n,λ|22=>99|24=>97|25=>240|3=>3|39=>290|0=>0|53=>109|55=>332|4=>4|46=>324|45=>323|50=>328|5=>5|9=>9|66=>353|70=>357|76=>372|77=>373|n=>n,λ|n=>n⟩
def sortF:Go.Proofs.SlLaysF.n6 prog sortF_ren:=⟨g9,⟨f147.name,i5,func147.trans (congrArg some g9)⟩,⟨f187.name,i5,func187.trans (congrArg some g9)⟩,func188.trans (congrArg some g9),⟨f218.name,i5,func218.trans (congrArg some g9)⟩,⟨f219.name,i5,func219.trans (congrArg some g9)⟩,⟨f220.name,i5,func220.trans (congrArg some g9)⟩,⟨f221.name,i5,func221.trans (congrArg some g9)⟩,⟨f222.name,i5,func222.trans (congrArg some g9)⟩,⟨f223.name,i5,func223.trans (congrArg some g9)⟩,⟨f224.name,i5,func224.trans (congrArg some g9)⟩,⟨f225.name,i5,func225.trans (congrArg some g9)⟩,func226.trans (congrArg some g9),func227.trans (congrArg some g9),⟨f245.name,i5,func245.trans (congrArg some g9)⟩,func246.trans (congrArg some g9),func247.trans (congrArg some g9),⟨f248.name,i5,func248.trans (congrArg some g9)⟩,⟨f249.name,i5,func249.trans (congrArg some g9)⟩,⟨f258.name,i5,func258.trans (congrArg some g9)⟩,underlying0,isAgg0,sizeOf0,zeroValue0,underlying3,isAgg3,sizeOf3,zeroValue3,underlying4,isAgg4,sizeOf4,zeroValue4,underlying5,isAgg5,sizeOf5,zeroValue5,underlying9,isAgg9,sizeOf9,zeroValue9,underlying99,isAgg99,sizeOf99,zeroValue99,isAgg97,sizeOf97,underlying240,isAgg240,sizeOf240,zeroValue240,underlying290,isAgg290,sizeOf290,zeroValue290,underlying323,isAgg323,sizeOf323,zeroValue323,underlying324,isAgg324,sizeOf324,zeroValue324,underlying328,isAgg328,sizeOf328,zeroValue328,underlying109,isAgg109,sizeOf109,zeroValue109,underlying332,isAgg332,sizeOf332,zeroValue332,underlying353,isAgg353,sizeOf353,zeroValue353,underlying357,isAgg357,sizeOf357,zeroValue357,underlying372,isAgg372,sizeOf372,zeroValue372,underlying373,isAgg373,sizeOf373,zeroValue373⟩
section
variable(NS:List ByteArray)(Q:Y->Prop)(w:List ah)(S:Sg)(D:Qx)(obj:Nat->Nat)(rs:List Nat)(K r:Nat)
def dS:Prop:=∀(E:Qx) (W:World) (b:Nat) (t:Y) (p:Int),Ok w S D obj rs K E r W->S b=some (aG t)->Fb NS Q w t->2*J rs false false t<r->
 Calls prog 57 #[.pointer none,.int .i64 p,ptr b] W (aV w S D obj rs K E r W λv W'=>∃sb,v=ptr sb/\yn S D E W' sb ((fs w K).ts t))
end
def Kt(e:Y):List Y:=if e.ld=12 then e.li else[e]
def FR(w:List ah)(K:Nat)(S:Sg)(W:World)(tb:Nat)(s:Y):Prop:=
 ∃inv tl,W.heap[tb]?=some (.cells #[.bool inv,.slice none 0 0,tl,.bool false] 124 (0,0))/\S tb=none/\(unionTerms (fs w K) w [] (Kt s)=none->inv=true)/\(∀q,unionTerms (fs w K) w [] (Kt s)=some q->inv=false/\lS S W q tl)
def NH(w:List ah)(K:Nat)(S:Sg)(W:World)(es:List MapEntry):Prop:=∀e∈es,∃u tb s,e.key=ptr u/\S u=some s/\e.val=ptr tb/\FR w K S W tb s
def Dj(w:List ah)(K:Nat)(S:Sg)(W:World)(mb:Nat):Prop:=∃es ck,W.heap[mb]?=some (.map es ck)/\NH w K S W es.toList
section
def FR.move(h:FR w K S W tb s)(hf:bZ X S rs r W O):FR w K S O tb s:=by
 obtain⟨inv,tl,I,U,h3,h4⟩:=h;exact⟨inv,tl,hf.obj U I,U,h3,λq hq=>⟨(h4 q hq).1,(h4 q hq).2.move hf⟩⟩
def NH.move{es:List MapEntry}(h:NH w K S W es)(hf:bZ X S rs r W O):NH w K S O es:=λe he=>by
 obtain⟨u,tb,s,I,U,h3,h4⟩:=h e he;exact⟨u,tb,s,I,U,h3,h4.move hf⟩
def rZ{e:Y}(hk:e.ld=12\/e.ld=13):unionTerms (fs w K) w [] (Kt (aG e))=unionTerms (fs w K) w [] (Kt e)/\(if (aG e).ld=12 then(aG e).li else[aG e])=Kt (aG e):=by
 have j:=aW (t:=e) M M M M;refine⟨?_,rfl⟩;rw[j];obtain⟨k,n,m,va,nm,tg,l⟩:=e;simp only[Y.ld]at hk;rcases hk with rfl|rfl<;>rfl
def Ph{e:Y}(hk:e.ld=12\/e.ld=13)(h:All2 (vG S D W) (if (aG e).ld=12 then(aG e).li else[aG e]) ps):All2 (vG S D W) (Kt e) ps:=by
 have j:=aW (t:=e) M M M M;rw[j]at h;obtain⟨k,n,m,va,nm,tg,l⟩:=e;simp only[Y.ld]at hk;obtain rfl|rfl:=hk
 .exact h
 .match ps,h with
  |[],h=>exact h.elim
  |[p],h=>exact⟨h.1,trivial⟩
  |_::_::_,h=>exact h.2.elim
def gU(hg:GH w S D obj W)(hv:dq S v t):Calls prog 106 #[v] W (dL W (.bool false)):=by
 have ag:=aS hg hv;clear hg hv;go_in;go_wp21;refine ag.mono ?_;rintro e O ⟨v1,rfl,dr,hw⟩;replace hw:=hw.symm;subst hw;obtain⟨b,rfl,hs⟩:=dr;have ht:¬(tid (una t).ld=232):=(λh=>by rcases de (una t).ld with g|g|g|g|g|g|g|g|g|g|g|g<;>(rw[g.2]at h;exact absurd h i5));have fp:=mh (tid (una t).ld) (ptr b) 37 W ht;generalize tid (una t).ld=T at ht fp;clear hs;exact M12
def AE(hq:QP NS Q)(h:PT NS Q w md t):(una t).ld=1->0<=(una t).n:=by
 intro hk;have j:=(cJ hq h).1;generalize una t=u at hk j;obtain⟨k,n,m,va,nm,tg,l⟩:=u;simp only[Y.ld]at hk;subst hk;cases j with
 |basic a b=>exact a
 |uni h=>omega
 |al h=>omega
 |one h=>omega
structure Lt(w:List ah)(S:Sg)(D:Qx)(obj:Nat->Nat)(rs:List Nat)(K:Nat)(E:Qx)(r:Nat)(W wr:World)(mb tb u:Nat)(es:Array MapEntry)(ck:Nat)(acc:List (Option Tm))(v:Value):Prop where
 ok:Ok w S D obj rs K (λb=>EO E v b\/b=tb) r wr
 fr:bZ (λb=>b=mb) S rs r W wr
 row:qn S W.heap.size wr acc v
 SF:wr.heap[tb]?=some (.cells #[.bool false,.slice none 0 0,.slice none 0 0,.bool false] 124 (0,0))
 tbl:W.heap.size<=tb
 map:wr.heap[mb]?=some (.map (es.push {key:=ptr u,val:=ptr tb,born:=ck}) (ck+1))
variable{ck:Nat}{es:Array MapEntry}
def Lt.sn(h:Lt w S D obj rs K E r W wr mb tb u es ck acc v):S tb=none/\∀g,v.ownBlock=some g->S g=none:=⟨(h.ok.own tb (.inr rfl)).2.2,λg hg=>(h.ok.own g (.inl (.inr hg))).2.2⟩
def Lt.go(h:Lt w S D obj rs K E r W wr mb tb u es ck acc v)(g1:Ok w S D obj rs K (λb=>EO E v b\/b=tb) r O)(g2:Fr S rs r wr O):Lt w S D obj rs K E r W O mb tb u es ck acc v:=
 ⟨g1,h.fr.trans g2.x,h.row.fr g2 h.sn.2,g2.obj h.sn.1 h.SF,h.tbl,g2.map (λh=>h) h.map⟩
def Lt.below(h:Lt w S D obj rs K E r W wr mb tb u es ck acc v)(hE:Env NS Q w rs cs)(hb:S5 wr O):Lt w S D obj rs K E r W O mb tb u es ck acc v:=
 h.go (h.ok.below hE.hs hb) (Below.fr hb)
def Lt.ne(h:Lt w S D obj rs K E r W wr mb tb u es ck acc v):v.ownBlock≠some tb/\v.ownBlock≠some mb:=by
 obtain⟨ps,I,U⟩:=h.row;have ht:=h.SF;have hm:=h.map;rcases I.2 with⟨rfl,_⟩|⟨g',cap,cur,rfl,k1,k2,k3⟩
 .exact⟨by simp[Value.ownBlock],by simp[Value.ownBlock]⟩
 .constructor
  .intro e;simp[Value.ownBlock]at e;subst e;rw[k2]at ht;simp at ht
  .intro e;simp[Value.ownBlock]at e;subst e;rw[k2]at hm;simp at hm
def Lt.un(h:Lt w S D obj rs K E r W wr mb tb u es ck acc v)(j:Ti w S D obj rs K (λb=>EO E v b\/b=tb) r wr v xJ e O):∃v',e=.returned v'/\Lt w S D obj rs K E r W O mb tb u es ck xJ v':=by
 obtain⟨v',W1,rfl,k1,k2,k3,k4⟩:=j;refine⟨v',rfl,?_⟩;have hf:bZ (λb=>b=mb) S rs r W O:=(h.fr.ng k3 λb hb=>(h.row.lt b hb).1).trans k4.x;refine⟨k2.drop λb hb=>?_,hf,k1.base h.fr.size,k4.obj h.sn.1 ((k3.block tb (jQ2 h.SF) h.ne.1).trans h.SF),h.tbl,k4.map (λh=>h) ((k3.block mb (jQ2 h.map) h.ne.2).trans h.map)⟩;rcases hb with(hb|hb)|hb
 .exact .inl (.inl (.inl hb))
 .exact .inr hb
 .exact .inl (.inr hb)
def Ei{q:Value->Bool}{e:MapEntry}:∀{l:List MapEntry} {i:Nat},hitE q l i=none->q e.key=true->hitE q (l++[e]) i=some (i+l.length,e.val)
 |[],i,_,h=>by simp[hitE,h]
 |a::l,i,hn,h=>by
  rw[hitE]at hn;split at hn
  .cases hn
  .rename_i hq
   rw[jRh,hitE,jQ4 hq,Ei hn h];simp;omega
def sR{q:Value->Bool}:∀{l:List MapEntry} {i:Nat},hitE q l i=none->∀e∈l,q e.key=false
 |[],_,_,e,he=>by simp at he
 |a::l,i,h,e,he=>by
  rw[hitE]at h;split at h
  .cases h
  .rename_i hq
   rcases jQn.1 he with rfl|he
   .simpa using hq
   .exact sR h e he
def aeh:(Tryz.prog.info? 236).map (·.size)=some 1:=g9
def yw:Tryz.prog.underlying 184=some (.pointer 236):=g9
def Eh:Tryz.prog.underlying 174=some (.map 184 102):=g9
def abg(W):(zeroValue 102).run prog W=.ok (.pointer none) W:=g9
def ckU(u:Nat)(W)(e:Bool):(Instr.checkKey e 10000 184 (ptr u)).run prog W=.ok () W:=by
 have h:∀n,(Instr.checkKey e (n+1) 184 (ptr u)).run prog W=.ok () W:=λn=>by
  unfold Instr.checkKey;simp[jQj yw,Result.andThen]
 exact h 9999
abbrev Rb(u:Nat)(k:Value):Bool:=match k with|.pointer (some a)=>u==a.block|_=>false
def eqU(hg:GH w S D obj W)(hu:S u=some s){es:List MapEntry}(h:∀e∈es,∃u s,e.key=ptr u/\S u=some s):∀e∈es,(Op.equal 184 (ptr u) e.key).run prog W=.ok (Rb u e.key) W:=by
 intro e he;obtain⟨u',s',hk,hs⟩:=h e he;obtain⟨cs,t,hc⟩:=hg.A9 u s hu;obtain⟨Ek,t',yq⟩:=hg.A9 u' s' hs;obtain⟨hp,hj,hz⟩:=jQ6.1 aeh;rw[hk];exact LK yw hj (by rw[hz];decide) hc yq
def Pg(u:Nat):∀k',Instr.sameNow (.pointer 236) (ptr u) k'=none:=λk'=>by cases k'<;>rfl
end
section
variable{ck:Nat}{es:Array MapEntry}
def jV(u:Nat):Instr.sameBits 10000 (ptr u) (ptr u)=true:=by
 have h:∀n,Instr.sameBits (n+1) (ptr u) (ptr u)=true:=λn=>by simp[Instr.sameBits]
 exact h 9999
def abf{w:World}{t:TypeId}{f:Nat×Nat}(h:w.heap[B]?=some (.cells #[v0,v1] t f)):
 w.cell? ⟨B,0,none⟩=some v0/\w.cell? ⟨B,1,none⟩=some v1:=by
 simp[World.cell?,h]
def FQ{x:Option Tm}(h:TmV S W x p)(hs:S W.heap.size=none):lS S (W.alloc (.cells #[p] 156)) [x] (.slice (some ⟨W.heap.size,0,none⟩) 1 1):=by
 refine⟨[p],.inr ⟨i6,W.heap.size,0,1,rfl,jQ0 _,i5,⟨hs,_,_,ak _ _⟩,λhp u hu=>?_⟩,h.move (X:=Wc) (rs:=[]) (r:=0) (Below.fr (an W _)),trivial⟩
 match hp,hu with
 |0,hu=>simp at hu;subst hu;simp
def kA(hg:GH w S D obj W):S W.heap.size=none:=by
 cases hs:S W.heap.size with
 |none=>rfl
 |some s=>have:=hg.lI _ s hs;omega
def jo(h:isIf t=true):tid t.ld=33:=by rcases dw h with e|e<;>rw[e]<;>rfl
def kO(h:isIf t=false)(mM:t.ld≠14):¬(tid t.ld=33):=by
 intro e;have hk:t.ld≠10/\t.ld≠17:=by constructor<;>(intro e;simp[isIf,e]at h)
 exact M100
def Np(hE:Env NS Q w rs cs)(h:PT NS Q w 0 t):(az w t).ld≠14:=by
 rcases(lq hE.wk hE.qp h).1 with e|e
 .rw[e];decide
 .exact e.2.2.2.1
def yn.tl{s:TS}{b:Nat}(h:yn S D E W b s):∃ms tl,W.heap[b]?=some (.cells #[.bool false,ms,tl,.bool s.comp] 124 (0,0))/\S b=none/\lS S W s.terms tl:=by
 obtain⟨ms,tl,ps,e1,e2,e3,I,U,h3,h4,h5⟩:=h;exact⟨ms,tl,I,U,h5⟩
def Az(hg:GH w S D obj W)(hm:W.heap[mb]?=some (.map es ck))(hk:∀e∈es.toList,∃u s,e.key=ptr u/\S u=some s)(hu:S u=some s)(c:Bool):
 (Instr.lookup 174 (.map (some mb)) (ptr u) c).run prog W=.ok (if c then .tuple #[((hitE (Rb u) es.toList 0).map (·.2)).getD (.pointer none),.bool (hitE (Rb u) es.toList 0).isSome]else((hitE (Rb u) es.toList 0).map (·.2)).getD (.pointer none)) W:=
 IM Eh yw (Pg u) (ckU u W) (abg W) hm (eqU hg hu hk) c
def sO(hu:S u=some s)(h:∀e∈es.toList,∃u s,e.key=ptr u/\S u=some s)(x)(n:Nat):∀e∈(es.push {key:=ptr u,val:=x,born:=n}).toList,∃u s,e.key=ptr u/\S u=some s:=by
 intro e he;simp at he;obtain he|rfl:=he
 .exact h e (G9 he)
 .exact⟨u,s,rfl,hu⟩
def iU(hn:hitE (Rb u) es.toList 0=none)(x)(n:Nat):hitE (Rb u) (es.push {key:=ptr u,val:=x,born:=n}).toList 0=some (es.size,x):=by
 rw[Array.toList_push,Ei hn (by simp[Rb])];simp
def abh(hE:Env NS Q w rs cs)(hr:r<=K){x:Y}(h:PT NS Q w 1 x)(H:TX w x)(hc:bP cs x<=50)(hJ:J rs true true x<B)(hB:2*B<=r):(oq (fs w K) w x).length<=100000000/\TL (jH NS Q w rs B) (oq (fs w K) w x):=
 ⟨Nq hc (AA hE.wk hE.qp (vh hE.wk hE.qp hE.te r K hr) h H hJ hB).2.1,(Ah hE.wk hE.qp (eZ hE.wk hE.qp r K K hr hr).1 (eZ hE.wk hE.qp r K K hr hr).2 h hJ hB).2⟩
def ni(a:Array α)(x:α)(f:α->α):(a.push x).modify a.size f=a.push (f x):=by
 apply Array.ext
 .simp
 .intro i I U;simp at I U;simp[Array.getElem_modify,Array.getElem_push];by_cases h:a.size=i
  .subst h;simp
  .have:i<a.size:=M
   simp[h,this]
def SC(hE:Env NS Q w rs cs)(hI:cO NS Q w S D obj rs K r)(hT:dS NS Q w S D obj rs K r)(hB:2*B<=r)(hr:r<=K)(bD:Ok w S D obj rs K E r W)(p:Int){e:Y}(hu:S u=some (aG e))(hk:e.ld=12\/e.ld=13)(H:∀x∈Kt e,PT NS Q w 1 x/\TX w x/\bP cs x<=50/\J rs true true x<B)(hm:Dj w K S W mb):
 Calls prog 107 #[.pointer none,.map (some mb),.int .i64 p,ptr u] W (lC (λb=>b=mb) w S D obj rs K E r W λv W'=>∃tb,v=ptr tb/\FR w K S W' tb (aG e)/\Dj w K S W' mb):=by
 obtain⟨es,ck,lD,uE⟩:=hm;have vi:∀e∈es.toList,∃u s,e.key=ptr u/\S u=some s:=λe he=>by obtain⟨u,tb,s,I,U,_⟩:=uE e he;exact⟨u,s,I,U⟩
 have IN:=Az bD.gh lD vi hu true;obtain⟨-, -, -, -, -, -, -, -, -, -,n12⟩:=bD.gh.node u _ hu;have ez:(aG e).ld=e.ld:=aI M;obtain⟨sl,ps,hb,kX,bk,uB⟩:=n12 (by rw[ez];exact hk);have uB:=Ph hk uB;obtain⟨ra,rc,rfl⟩:=kX.form;have hlen:=uB.len;cases hh:hitE (Rb u) es.toList 0 with
 |some jv=>
  obtain⟨hp,vv⟩:=jv;obtain⟨k,en, -,U,h3,rfl⟩:=oD hh;obtain⟨u',tb,s,g1,g2,g3,g4⟩:=uE en (jQ8 U);rw[g1]at h3;have Wd:u=u':=by simpa[Rb]using h3
  subst Wd;rw[hu]at g2;cases g2;rw[hh,g3]at IN;have HP:=Z (show lC (λb=>b=mb) w S D obj rs K E r W (λv W'=>∃tb,v=ptr tb/\FR w K S W' tb (aG e)/\Dj w K S W' mb) (.returned (ptr tb)) W from⟨_,rfl,⟨tb,rfl,g4,es,ck,lD,uE⟩,bD,bZ.refl _⟩);simp only[if_true,Option.map_some,Option.getD_some,Option.isSome_some]at IN;clear hE hI hT hB hr bD H lD uE vi ez n12 hb kX bk uB hlen hh U h3 g1 g3 g4 hu hk;go_in;exact M21
 |none=>
  rw[hh]at IN;simp only[if_true,Option.map_none,Option.getD_none,Option.isSome_none]at IN;have vj:GH w S D obj (W.alloc (.cells #[.bool false,.slice none 0 0,.slice none 0 0,.bool false] 124)):=bD.gh.below hE.hs (an W _);have pB:=aj (an W (.cells #[.bool false,.slice none 0 0,.slice none 0 0,.bool false] 124)) lD (jQ2 lD);have ql:=kP (v:=ptr W.heap.size) Eh yw (Pg u) (ckU u _) pB (eqU vj hu vi) hh;obtain⟨gJ,HI,HT,HO,HU,HX0,HK,tj⟩:=Z8 hE hI hT bD hu H vi hh;obtain⟨Ej,Ls,HB,HUS,HMP,xy,HHK⟩:=Z7 uB kX hb uE lD pB hk;clear hE hI hT bD hu H vi hh uB kX hb uE lD vj pB n12 ez bk hk;obtain⟨w2,IP,fJ⟩:=ql;have hN2:Lt w S D obj rs K E r W w2 mb W.heap.size u es ck [] (.slice none 0 0):=by
   have hf:=fJ.fr (X:=λb=>b=mb) (S:=S) (rs:=rs) (rr:=0) xy.1 rfl;refine⟨((HO.1.new gJ.1.hs (an W _) (E':=λb=>EO E (.slice none 0 0) b\/b=W.heap.size) λb hb=>?_).frx gJ.1.hs hf),(bZ.trans (Below.fr (an W _)) (hf.mono (jQc _))),⟨[],jR9 _ _ _ _,trivial⟩,?_,jQ0 _,fJ.here⟩
   .rcases hb with(hb|hb)|rfl
    .exact .inl hb
    .simp[Value.ownBlock]at hb
    .exact .inr ⟨jQ0 _,i6⟩
   .exact(fJ.other _ (V5 (jQ2 HMP.1))).trans (ak W _)
  have N0:=Z hN2;have cX:=hN2.fr.other HU.1 (by have:=aI (t:=e) (V5 HHK.1);unfold isIf;rw[this];rcases HHK.1 with h|h<;>rw[h]<;>rfl) HB.1;have c0:=jQh cX;clear hN2 fJ cX;have hpz:ps.length<=9223372036854775807:=Ls.1.max;go_in;go_wp21;clear IP IN;generalize hTB:W.heap.size=tb at N0;have HTB:=Z hTB;clear hTB;clear c0
  go_loopg [11,35] ps.length (λgg s11 s35 wr=>∃(kk:Nat) (acc:List (Option Tm)),kk<=ps.length/\ps.length - kk<=gg/\s35=.int .i64 kk/\Aside (Lt w S D obj rs K E r W wr mb tb u es ck acc s11)/\Aside (unionTerms (fs w K) w acc ((Kt e).drop kk)=unionTerms (fs w K) w [] (Kt e))/\Aside (TL (jH NS Q w rs B) acc/\acc.length<=100))
  case atStart=>exact⟨0,[],jQc _,M,rfl,N0.1,rfl,TL.nil,i5⟩
  case round=>
   obtain⟨kk,acc,ez,hg,rfl,N,h1,Rc⟩:=hrel;obtain⟨va,vc,rfl⟩:=N.out.row.form;by_cases aM:kk<ps.length
   .have aR:(kk:Int)<(ps.length:Int):=M
    obtain⟨x,H⟩:∃x,(Kt e)[kk]?=some x:=⟨(Kt e)[kk]' M,by simp[hlen,aM]⟩;obtain⟨pv,sP,ZU⟩:=Ej.1.at H;have kB:=HO.1.gh.eu N.out.fr;obtain⟨b,o,rfl,kN,hc⟩:=(Ls.1.move kB).nth sP;obtain⟨b1,v1,rfl,VZ,ar,qy⟩:=ZU.move (λ_ _ h=>h) kB;obtain⟨dt,dF,qm,FT⟩:=HX0.1 x (jQ8 H);have sA:=Z (abh gJ.1 hr dt dF qm FT hB);obtain⟨ke,fJ⟩:=Fu (rs:=rs) dt;have qN:=bj gJ.1.qp N.out.ok.gh qy (.inl ⟨0,ke⟩);obtain⟨c1,c2⟩:=abf ar;have agU:S b1=none:=by
     cases hs:S b1 with
     |none=>rfl
     |some s=>exact absurd VZ (N.out.ok.gh.rS b1 s hs)
    obtain⟨T,f,b2,rfl,⟨hm,pC⟩,jL⟩:=qN;obtain⟨lx,HX,Nr,bS,HP1⟩:=Z5 jL H qy ar ke;have AB:J rs true true (ep x)<B:=M
    have ad2:=(jh gJ.1.wk gJ.1.qp ke).1;have AD:=uP (w:=w) (fs w K) x;have IQ:=Np gJ.1 ke;clear H sP ZU kB kN VZ ar qy dt dF qm FT ke fJ jL;go_wp21;refine lx.1.mono ?_;rintro e' w3 ⟨v3,rfl,oE,pX⟩;replace pX:=pX.symm;subst pX;cases hi:isIf (az w (ep x))with
    |true=>
     rw[hi]at AD;simp only[if_true]at AD;obtain⟨b3,rfl,eY⟩:=id oE;have fk:=gU N.out.ok.gh Nr.1;have gO:=bO wr;have ig:=HT.1 _ wr b3 (az w (ep x)) p N.out.ok eY (jO gJ.1.wk gJ.1.qp HP1.1 hi) M;have ht3:=jo hi;have Db:=Z AD;rw[AD]at sA;clear AD IQ ad2 AB eY oE hi;rw[ht3];go_wp21;refine rv fk ?_;go_wp21;refine rv gO ?_;go_wp21;refine ig.mono ?_;rintro e' w4 ⟨v4,rfl,⟨sb,rfl,fi⟩,g1,g2⟩;obtain⟨ms,tl,k1,k2,k3⟩:=fi.tl;obtain⟨ta,tc,rfl⟩:=k3.form;have xA:=Z k3;have N8:=Z (N.out.go g1 g2);obtain⟨q0,q1,q2,q3⟩:=dx k1;clear fi g1 g2 k1 k2 k3 fk gO ig;have ag:=kQ gJ.1 HI.1 hB N8.1.ok N8.1.row N8.1.fr.size (λb hb=>.inl (.inr hb)) xA.1 Rc.out.1 sA.1.2 (V6 Rc.out.2 sA.1.1);have SE:=Z h1.out;clear h1;go_wp21;refine ag.mono ?_;intro e9 w9 CP;obtain⟨v9,rfl,Hs⟩:=N8.1.un CP;obtain⟨a9,c9,rfl⟩:=Hs.row.form;have qO:=SE.1;rw[cZ HX.1,unionTerms]at qO;simp only[Db.1]at qO;have HUL:=Z (ot (id:=FF w K) (w:=w) Rc.out.1 sA.1.2);have N9:=Z Hs;clear ag CP Hs SE;generalize kv (FF w K) w acc ((fs w K).ts (az w (ep x))).terms=ul at*;exact M2
    |false=>
     obtain⟨b3,rfl,eY⟩:=id oE;have fp:=aP (tid (az w (ep x)).ld) (ptr b3) 37 wr (kO hi IQ);have Pj:=fE gJ.1.wk gJ.1.qp HP1.1 hi;have tM:=dy N.out.ok.gh oE (AE gJ.1.qp Pj);have AF:=HI.1 _ wr _ _ (ep x) (az w (ep x)) N.out.ok Nr.1 oE HP1.1 Pj (V5 (dM (rs:=rs) (v:=true) (f:=true) (v':=false) (f':=false) i6 i6 (ep x))) M;have Ku:=Z (show TmV S wr (some ⟨x.ld==13,some (ep x)⟩) (ptr b1)from⟨b1,_,_,rfl,agU,bS.1,.inr rfl,Nr.1⟩);rw[hi]at AD;simp only[jQk,jR1]at AD;generalize tid (az w (ep x)).ld=T3 at*;clear IQ ad2 AB eY oE hi Pj;cases cg:(x.ld==13)with
     |false=>
      rw[cg]at c1 AD Ku;simp only[Bool.false_and,jQk,jR1]at AD;have Db:=Z AD;rw[AD]at sA;have xA:=Z (FQ Ku.1 (kA N.out.ok.gh));have N8:=Z (N.out.below gJ.1 (an wr (.cells #[ptr b1] 156)));clear AD AF cg;go_wp21;refine rv tM ?_;clear tM;have ag:=kQ gJ.1 HI.1 hB N8.1.ok N8.1.row N8.1.fr.size (λb hb=>.inl (.inr hb)) xA.1 Rc.out.1 sA.1.2 (V6 Rc.out.2 sA.1.1);have SE:=Z h1.out;clear h1;go_wp21;refine ag.mono ?_;intro e9 w9 CP;obtain⟨v9,rfl,Hs⟩:=N8.1.un CP;obtain⟨a9,c9,rfl⟩:=Hs.row.form;have qO:=SE.1;rw[cZ HX.1,unionTerms]at qO;simp only[Db.1]at qO;have HUL:=Z (ot (id:=FF w K) (w:=w) Rc.out.1 sA.1.2);have N9:=Z Hs;clear ag CP Hs SE;generalize kv (FF w K) w acc [some ⟨false,some (ep x)⟩]=ul at*;exact M2
     |true=>
      rw[cg]at c1 AD Ku;simp only[jRn]at AD;generalize bo:(fs w K).id (ep x) (az w (ep x))=res at AF AD;clear cg bo;go_wp21;refine rv tM ?_;clear tM;go_wp21;refine AF.mono ?_;rintro e' w5 ⟨v5,rfl,rfl,g1,g2⟩;have Re:=N.out.go g1 g2;have abi:=Ku.1.move g2;cases res with
      |false=>
       simp only[Bool.not_false,if_true]at AD;have Db:=Z AD;rw[AD]at sA;have xA:=Z (FQ (S:=S) (W:=w5) (x:=none) (p:=.pointer none) rfl (kA Re.ok.gh));have N8:=Z (Re.below gJ.1 (an w5 (.cells #[.pointer none] 156)));clear AD AF g1 g2 Re abi;have ag:=kQ gJ.1 HI.1 hB N8.1.ok N8.1.row N8.1.fr.size (λb hb=>.inl (.inr hb)) xA.1 Rc.out.1 sA.1.2 (V6 Rc.out.2 sA.1.1);have SE:=Z h1.out;clear h1;go_wp21;refine ag.mono ?_;intro e9 w9 CP;obtain⟨v9,rfl,Hs⟩:=N8.1.un CP;obtain⟨a9,c9,rfl⟩:=Hs.row.form;have qO:=SE.1;rw[cZ HX.1,unionTerms]at qO;simp only[Db.1]at qO;have HUL:=Z (ot (id:=FF w K) (w:=w) Rc.out.1 sA.1.2);have N9:=Z Hs;clear ag CP Hs SE;generalize kv (FF w K) w acc [none]=ul at*;exact M2
      |true=>
       simp only[jRt,jQk,jR1]at AD;have Db:=Z AD;rw[AD]at sA;have xA:=Z (FQ abi (kA Re.ok.gh));have N8:=Z (Re.below gJ.1 (an w5 (.cells #[ptr b1] 156)));clear AD AF g1 g2 Re abi;have ag:=kQ gJ.1 HI.1 hB N8.1.ok N8.1.row N8.1.fr.size (λb hb=>.inl (.inr hb)) xA.1 Rc.out.1 sA.1.2 (V6 Rc.out.2 sA.1.1);have SE:=Z h1.out;clear h1;go_wp21;refine ag.mono ?_;intro e9 w9 CP;obtain⟨v9,rfl,Hs⟩:=N8.1.un CP;obtain⟨a9,c9,rfl⟩:=Hs.row.form;have qO:=SE.1;rw[cZ HX.1,unionTerms]at qO;simp only[Db.1]at qO;have HUL:=Z (ot (id:=FF w K) (w:=w) Rc.out.1 sA.1.2);have N9:=Z Hs;clear ag CP Hs SE;generalize kv (FF w K) w acc [some ⟨true,some (ep x)⟩]=ul at*;exact M2
   .have aR:¬(kk:Int)<(ps.length:Int):=M
    have hI:=h1.out;rw[jQf M,unionTerms]at hI;have bM:=Z hI.symm;have hlk:=Az N.out.ok.gh N.out.map (sO HU.1 HK.1 _ _) HU.1 false;rw[iU tj.1]at hlk;simp only[jQk,jR1,Option.map_some,Option.getD_some]at hlk;have fi:=N.out.SF;clear hI;go_wp2_with (refine eT rfl 121 _ _ rfl tb 2 (.slice va acc.length vc) rfl rfl 124 _ fi g9 (by simp[Value.cells,Value.oneCell']) (by simp[Value.cells]) #[.bool false,.slice none 0 0,.slice va acc.length vc,.bool false] (by simp[Value.cells]) ?_);intro w5 kC;have oX:=iN.put kC λEk t' f hc=>by rw[fi]at hc;cases hc;decide
    have hF5:bZ (λb=>b=mb) S rs r W w5:=N.out.fr.ng oX λb hb=>by subst hb;exact N.out.tbl
    have hO5:Ok w S D obj rs K E r w5:=(N.out.ok.ng gJ.1.hs oX λb hb=>.inr hb).drop λb hb=>.inl (.inl hb);have Dk:w5.heap[mb]?=some (.map (es.push {key:=ptr u,val:=ptr tb,born:=ck}) (ck+1)):=(kC.other mb λe0=>by have:=N.out.map;rw[e0,fi]at this;cases this).trans N.out.map;have ad3:=Az hO5.gh Dk (sO HU.1 HK.1 _ _) HU.1 false;rw[iU tj.1]at ad3;simp only[jQk,jR1,Option.map_some,Option.getD_some]at ad3;have tL:FR w K S w5 tb (aG e):=by
     have hn:=(rZ (w:=w) (K:=K) HHK.1).1;refine⟨false,_,kC.here,N.out.sn.1,λh=>?_,λq hq=>⟨rfl,?_⟩⟩
     .rw[hn,bM.1]at h;cases h
     .rw[hn,bM.1]at hq;cases hq;exact(N.out.row.ng oX λg hg e0=>N.out.ne.1 (by rw[<-e0];exact hg)).tl N.out.sn.2
    have uE:Dj w K S w5 mb:=by
     refine⟨_,_,Dk,λen wR=>?_⟩;simp at wR;obtain wR|rfl:=wR
     .exact(HUS.1.move hF5) en (G9 wR)
     .exact⟨u,tb,aG e,rfl,HU.1,rfl,tL⟩
    have HP:=Z (show lC (λb=>b=mb) w S D obj rs K E r W (λv W'=>∃tb,v=ptr tb/\FR w K S W' tb (aG e)/\Dj w K S W' mb) (.returned (ptr tb)) w5 from⟨_,rfl,⟨tb,rfl,tL,uE⟩,hO5,hF5⟩);clear oX hF5 hO5 Dk tL uE kC hlk fi;exact M21
end
