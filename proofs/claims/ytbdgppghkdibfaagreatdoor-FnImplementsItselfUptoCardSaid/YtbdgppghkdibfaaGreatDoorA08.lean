import Derived.Test.YtbdgppghkdibfaaGreatDoorA07
set_option linter.all false
set_option maxHeartbeats 16000000
set_option maxRecDepth 20000
namespace Go.Proofs.YtbdgppghkdibfaaGreatDoor
open Go Go.RowKit Go.Lib S Tryz
variable{a:Act}{ops:Array Oper}{Q:Exit->Act->World->Prop}{t t':Y}{l:List Y}{rest:List Oper}{B base c cap g n:Nat}{D E:Qx}{o:Oper}{v:Value}{W W' w O:World}
def M89{GT:Prop}(h:GT:=by
 exact hc _ _ (by rw[jQr M];simp[hl])):GT:=h
def Ki:(Tryz.prog.info? 41).map (λi=>(i.zero,i.size,i.bytes))=some (some (.agg #[.int .i64 0,.int .i64 0,.int .i64 0,.bool false,.string es,.string es,.slice none 0 0,.slice none 0 0]),8,112):=g9
def VK:(Tryz.prog.info? 68).map (λi=>(i.zero,i.size,i.bytes))=some (some (.agg #[.string es,.bool false,.int .i64 0,.int .i64 0,.int .i64 0,.bool false,.string es,.string es,.slice none 0 0]),9,112):=g9
def gC{K:Act->World->Prop}{Z:Prop}(mX:o.guard=none)(s x:Operand)(ho:o.op=.call {callee:=.builtin .append,args:=#[s,x],argTypes:=#[23,23]})(base:Nat)(E v l)(hs:a.eval s=v)(aL:dc E base w l v)(l')(ad:Addr)(c:Nat)(ns)(H:a.eval x=.slice (some ad) l'.length c)(vY:RV E w l' ns)(hc:∀hp u,ns[hp]?=some u->w.cell? (ad.add hp)=some u)(cF:(l++l').length<=1099511627776)(cS:base<=w.heap.size)(h:∀v' O,dc E base O (l++l') v'->w.grownBy O v.ownBlock->(v'.ownBlock=v.ownBlock\/v'.ownBlock=some w.heap.size)->K (a.put o.dst v') O):
 if Region.wanted o (yielded ops a.tmps)=true then Oper.wp prog o a w K Q else Z:=by
 have hw:Region.wanted o (yielded ops a.tmps)=true:=by simp[Region.wanted,mX]
 rw[jQ7 hw];obtain⟨i0,pn,lA,gj,j7⟩:=info_parts Cu;obtain⟨xs,aL,nr,hE⟩:=aL;rw[jQo]at cF;obtain⟨v',O,hr,I,U,_,h4⟩:=run_append_own_at (P:=prog) w base 23 o.type 25 i0 _ 7 88 underlying23 pn lA gj j7 rfl M v l.length xs aL ad l'.length c ns vY.length hc vY.one
  (by simp only[maxLen];omega) M cS
 unfold Oper.wp execOp;simp only[ho,resolve,invoke,builtin,jRp,Sem.run_pure,jR8,List.map_toArray,List.map_cons,List.map_nil,hs,H,hr];refine h v' O ⟨xs++ns,by rw[jQo];exact I,?_,?_⟩ U h4
 .exact M156
 .intro b hb;exact M50
def qF(mX:o.guard=none)(s x:Operand)(ho:o.op=.call {callee:=.builtin .append,args:=#[s,x],argTypes:=#[22,22]})(base:Nat)(E v l)(hs:a.eval s=v)(aL:gv E base w l v)(l')(ad:Addr)(c:Nat)(ns)(H:a.eval x=.slice (some ad) l'.length c)(vY:DV E w l' ns)(hc:∀hp u,ns[hp]?=some u->w.cell? (ad.add hp)=some u)(cF:(l++l').length<=1099511627776)(cS:base<=w.heap.size)(h:∀v' O,gv E base O (l++l') v'->w.grownBy O v.ownBlock->(v'.ownBlock=v.ownBlock\/v'.ownBlock=some w.heap.size)->wpList prog ops Q rest (a.put o.dst v') O):wpList prog ops Q (o::rest) a w:=by
 obtain⟨i0,pn,lA,gj,j7⟩:=info_parts Ki;obtain⟨xs,aL,nr,hE⟩:=aL;rw[jQo]at cF;refine wpList_append_own_at w mX s x 22 ho base 41 i0 _ 8 112 underlying22 pn lA gj j7 rfl M v l.length xs hs aL ad l'.length c ns H vY.length hc vY.one
  (by simp only[maxLen];omega) M cS λv' O I U _ h4=>h v' O ⟨xs++ns,by rw[jQo];exact I,?_,?_⟩ U h4
 .have hm:au E E w O:=λb hb=>⟨hb,U.block b (hE b hb).1 (hE b hb).2⟩;exact DV.append (vY.move hm) (nr.move hm)
 .intro b hb;exact M50
def JH(mX:o.guard=none)(s x:Operand)(ho:o.op=.call {callee:=.builtin .append,args:=#[s,x],argTypes:=#[39,39]})(base:Nat)(E v)(l:List aH)(hs:a.eval s=v)(aL:kD E base w l v)(l':List aH)(ad:Addr)(c:Nat)(ns)(H:a.eval x=.slice (some ad) l'.length c)(vY:MV E w l' ns)(hc:∀hp u,ns[hp]?=some u->w.cell? (ad.add hp)=some u)(cF:(l++l').length<=1099511627776)(cS:base<=w.heap.size)(h:∀v' O,kD E base O (l++l') v'->w.grownBy O v.ownBlock->(v'.ownBlock=v.ownBlock\/v'.ownBlock=some w.heap.size)->wpList prog ops Q rest (a.put o.dst v') O):wpList prog ops Q (o::rest) a w:=by
 obtain⟨i0,pn,lA,gj,j7⟩:=info_parts VK;obtain⟨xs,aL,nr,hE⟩:=aL;rw[jQo]at cF;refine wpList_append_own_at w mX s x 39 ho base 68 i0 _ 9 112 underlying39 pn lA gj j7 rfl M v l.length xs hs aL ad l'.length c ns H vY.length hc vY.one
  (by simp only[maxLen];omega) M cS λv' O I U _ h4=>h v' O ⟨xs++ns,by rw[jQo];exact I,?_,?_⟩ U h4
 .have hm:au E E w O:=λb hb=>⟨hb,U.block b (hE b hb).1 (hE b hb).2⟩;exact MV.append (vY.move hm) (nr.move hm)
 .intro b hb;exact M50
def agn(D:Qx)(W:World)(l:List ah)(e:Ending)(W':World):Prop:=∃v',e=.returned v'/\gv D W.heap.size W' l v'/\S5 W W'
set_option maxRecDepth 100000 in
theorem Gx(l:List ah)(sl:Value)(W:World)(D:Qx)(hs:RD D W l sl)(hD:Lo D W.heap.size)(cF:l.length<=1099511627776):
 Calls prog 261 #[sl] W (agn D W l):=by
 obtain⟨i0,pn,lA,gj,j7⟩:=info_parts Ki;obtain⟨a,c,rfl⟩:=hs.form;have q22:∀(w:World) (a:Option Addr) (n c n' c':Nat),(binOp .eql 22 (.slice a n c) (.slice none n' c')).run prog w=.ok (.bool a.isNone) w:=λw a n c n' c'=>Lib.run_eql_slice_nil w _ _ a n c n' c' underlying22;by_cases hn:a=none
 .subst hn;rcases hs with⟨rfl,a1,c1,e,I⟩|⟨bk,b,o',c',e,_⟩
  .clear pn lA gj j7;go_in;go_wp2;go_ret;exact⟨_,rfl,gv.nil hD,jQ5 _ _⟩
  .simp at e
 .obtain⟨ad,rfl⟩:=Option.ne_none_iff_exists'.1 hn;have aL:gv D W.heap.size (W.alloc (.cells #[] 41)) [] (.slice (some ⟨W.heap.size,0,none⟩) 0 0):=
   ⟨[],World.ownsRow_made W #[] 0 (jQ0 _) (jQc _) rfl,by rw[DV],λb hb=>⟨by have:=hD b hb;simp;omega,by intro e;have:=hD b hb;simp[Value.ownBlock]at e;omega⟩⟩
  have HO:=Z aL;have HN:∃ns,DV D (W.alloc (.cells #[] 41)) l ns/\(∀hp u,ns[hp]?=some u->(W.alloc (.cells #[] 41)).cell? (ad.add hp)=some u):=by
   rcases hs.move (hD.aJ (an W (.cells #[] 41))) (an W (.cells #[] 41)).size (an W (.cells #[] 41)).block with⟨rfl,a1,c1,e,I⟩|⟨bk,b,o',c',e,hl,hc,kN,hC⟩
   .exact⟨[],by rw[DV],by intro hp u hu;simp at hu⟩
   .simp at e;obtain⟨rfl,rfl⟩:=e;obtain⟨ns,I,U⟩:=hC.dv;refine⟨ns,I,λhp u hu=>?_⟩;by_cases hj:hp=0
    .subst hj;simpa[Addr.add]using U 0 u hu
    .simpa[Addr.add,hj]using U hp u hu
  obtain⟨ns,vY,KX⟩:=HN;have Q6:=Z vY;have Xo:=Z KX;clear hs aL vY KX pn lA gj j7;go_in;go_wp2_with (at_builtin;refine qF rfl _ _ rfl W.heap.size D _ [] rfl HO.1 l ad _ ns rfl Q6.1 Xo.1 (G9 cF) i6 ?_);intro v2 w2 U Dp I8;have B2:=Z ((an W (.cells #[] 41)).grown Dp i6 (λk hk=>(HO.1.lt k hk).1));exact M212
def dc.av(h:dc E base W l v):∀b,E b->some b≠v.ownBlock:=M179
def dc.cR(h:dc E base W l v)(hz:W.heap.size<=W'.heap.size)(hv:∀g,v.ownBlock=some g->W'.heap[g]?=W.heap[g]?)(hE:∀b,E b->W'.heap[b]?=W.heap[b]?):dc E base W' l v:=M37
def afe{t:TypeId}{cur:Array Value}(hg:w.heap[B]?=some (.cells cur t (0,0)))(v0 v1 v2 v3 v4 v5 v6):
 kT B (((((((cur.setIfInBounds n v0).setIfInBounds (n+1) v1).setIfInBounds (n+2) v2).setIfInBounds (n+3) v3).setIfInBounds (n+4) v4).setIfInBounds (n+5) v5).setIfInBounds (n+6) v6) t w
  (((((((w.setCell ⟨B,n,none⟩ v0).setCell ⟨B,n+1,none⟩ v1).setCell ⟨B,n+2,none⟩ v2).setCell ⟨B,n+3,none⟩ v3).setCell ⟨B,n+4,none⟩ v4).setCell ⟨B,n+5,none⟩ v5).setCell ⟨B,n+6,none⟩ v6):=by
 have h0:=aw hg n v0;generalize cur.setIfInBounds n v0=c0 at h0⊢;generalize w.setCell ⟨B,n,none⟩ v0=w0 at h0⊢;have I:=aw h0.here (n+1) v1;generalize c0.setIfInBounds (n+1) v1=c1 at I⊢;generalize w0.setCell ⟨B,n+1,none⟩ v1=w1 at I⊢;have U:=aw I.here (n+2) v2;generalize c1.setIfInBounds (n+2) v2=c2 at U⊢;generalize w1.setCell ⟨B,n+2,none⟩ v2=w2 at U⊢;have h3:=aw U.here (n+3) v3;generalize c2.setIfInBounds (n+3) v3=c3 at h3⊢;generalize w2.setCell ⟨B,n+3,none⟩ v3=w3 at h3⊢;have h4:=aw h3.here (n+4) v4;generalize c3.setIfInBounds (n+4) v4=c4 at h4⊢;generalize w3.setCell ⟨B,n+4,none⟩ v4=w4 at h4⊢;have h5:=aw h4.here (n+5) v5;generalize c4.setIfInBounds (n+5) v5=c5 at h5⊢;generalize w4.setCell ⟨B,n+5,none⟩ v5=w5 at h5⊢;have h6:=aw h5.here (n+6) v6;exact(((((h0.trans I).trans U).trans h3).trans h4).trans h5).trans h6
def Qa(cur:Array Value)(n:Nat)(xs o0 o1 o2 o3 o4 o5 o6 v0 v1 v2 v3 v4 v5 v6)(hn:xs.length=n)(h:cur.toList.take (n+7)=xs++[o0,o1,o2,o3,o4,o5,o6]):
 ((((((((cur.setIfInBounds n v0).setIfInBounds (n+1) v1).setIfInBounds (n+2) v2).setIfInBounds (n+3) v3).setIfInBounds (n+4) v4).setIfInBounds (n+5) v5).setIfInBounds (n+6) v6)).toList.take (n+7)=xs++[v0,v1,v2,v3,v4,v5,v6]:=by
 subst hn;have hl:xs.length+7<=cur.size:=by
  have:=congrArg List.length h;simp at this;omega
 apply List.ext_getElem?;intro hp;by_cases hj:hp<xs.length+7
 .rw[List.getElem?_take_of_lt hj,jRr];by_cases H:hp<xs.length
  .rw[jQq H];have I:cur[hp]?=xs[hp]?:=by
    have:=congrArg (λl=>l[hp]?) h;simp only[List.getElem?_take_of_lt hj,jQq H,jRr]at this;exact this
   simp only[Array.getElem?_setIfInBounds,Array.size_setIfInBounds];rw[jQ4 M,jQ4 M,jQ4 M,jQ4 M,jQ4 M,jQ4 M,jQ4 M];exact I
  .obtain⟨i,rfl⟩:∃i,hp=xs.length+i:=⟨hp - xs.length,M⟩;rw[jQr M];have hi:i<7:=M
   simp only[Array.getElem?_setIfInBounds,Array.size_setIfInBounds,Nat.add_sub_cancel_left]
   match i,hi with
   |0,_=>simp;omega
   |1,_=>simp;omega
   |2,_=>simp;omega
   |3,_=>simp;omega
   |4,_=>simp;omega
   |5,_=>simp;omega
   |6,_=>simp;omega
 .rw[List.getElem?_take_eq_none M,jQx (by simp;omega)]
def RV.snoc:∀{l:List Y} {t:Y} {xs:List Value},RV D W (l++[t]) xs->
 ∃ys a c,xs=ys++[.int .i64 t.ld,.int .i64 t.n,.int .i64 t.m,.bool t.va,.string t.name,.string t.gc,.slice a t.li.length c]/\RV D W l ys
 |[],t,xs,h=>by
  rw[List.nil_append,RV]at h;obtain⟨a,c,rest,rfl,_,h⟩:=h;rw[RV]at h;subst h;exact⟨[],a,c,i6,by rw[RV]⟩
 |x::l,t,xs,h=>by
  rw[jRh,RV]at h;obtain⟨a,c,rest,rfl,hs,h⟩:=h;obtain⟨ys,a',c',rfl,h'⟩:=RV.snoc h;clear h;have h:=h';exact⟨[.int .i64 x.ld,.int .i64 x.n,.int .i64 x.m,.bool x.va,.string x.name,.string x.gc,.slice a x.li.length c]++ys,a',c',i6,by rw[RV];exact⟨a,c,ys,rfl,hs,h⟩⟩
def dc.zB{a:Option Addr}(h:dc E base w (l++[t]) (.slice (some ⟨g,0,none⟩) (l.length+1) cap))(hs:RS E w t'.li (.slice a t'.li.length c))(hw:O=(((((((w.setCell ⟨g,l.length*7,none⟩ (.int .i64 t'.ld)).setCell ⟨g,l.length*7+1,none⟩ (.int .i64 t'.n)).setCell ⟨g,l.length*7+2,none⟩ (.int .i64 t'.m)).setCell ⟨g,l.length*7+3,none⟩ (.bool t'.va)).setCell ⟨g,l.length*7+4,none⟩ (.string t'.name)).setCell ⟨g,l.length*7+5,none⟩ (.string t'.gc)).setCell ⟨g,l.length*7+6,none⟩ (.slice a t'.li.length c))):
 dc E base O (l++[t']) (.slice (some ⟨g,0,none⟩) (l.length+1) cap)/\(∀b,b≠g->O.heap[b]?=w.heap[b]?)/\O.heap.size=w.heap.size/\O.os=w.os/\O.tape=w.tape/\O.output=w.output:=by
 obtain⟨xs,aL,nr,hE⟩:=h;obtain⟨ys,a',c',rfl,hys⟩:=nr.snoc;rcases aL.2 with⟨e,_⟩|⟨g',cap',cur,e,hb,hg,hn,hm,j8,ht⟩
 .cases e
 simp at e;obtain⟨rfl,rfl⟩:=e;have j:=afe (n:=l.length*7) hg (.int .i64 t'.ld) (.int .i64 t'.n) (.int .i64 t'.m) (.bool t'.va) (.string t'.name) (.string t'.gc) (.slice a t'.li.length c);rw[<-hw]at j;have j9:au E E w O:=λb hb=>⟨hb,j.other b (λe=>(hE b hb).2 (by rw[e];rfl))⟩;have hl7:(l++[t]).length*7=l.length*7+7:=by simp;omega
 rw[hl7]at ht;refine⟨⟨ys++[.int .i64 t'.ld,.int .i64 t'.n,.int .i64 t'.m,.bool t'.va,.string t'.name,.string t'.gc,.slice a t'.li.length c],⟨?_,.inr ⟨g,cap,_,i6,hb,j.here,G9 hn,hm,G9 j8,?_⟩⟩,?_,?_⟩,j.other,j.size,j.os,j.tape,j.output⟩
 .have:=hys.length;simp;omega
 .rw[show(l++[t']).length*7=l.length*7+7 by simp;omega];exact Qa cur _ ys _ _ _ _ _ _ _ _ _ _ _ _ _ _ hys.length ht
 .exact RV.append (RV.single (hs.move j9)) (hys.move j9)
 .intro b dD;exact⟨by rw[j.size];exact(hE b dD).1,(hE b dD).2⟩
def dc.last(h:dc E base w (l++[t]) v):
 ∃g cap a c cur,v=.slice (some ⟨g,0,none⟩) (l.length+1) cap/\base<=g/\w.heap[g]?=some (.cells cur 25 (0,0))/\
  w.cell? ⟨g,l.length*7,none⟩=some (.int .i64 t.ld)/\w.cell? ⟨g,l.length*7+1,none⟩=some (.int .i64 t.n)/\w.cell? ⟨g,l.length*7+2,none⟩=some (.int .i64 t.m)/\w.cell? ⟨g,l.length*7+3,none⟩=some (.bool t.va)/\
  w.cell? ⟨g,l.length*7+4,none⟩=some (.string t.name)/\w.cell? ⟨g,l.length*7+5,none⟩=some (.string t.gc)/\w.cell? ⟨g,l.length*7+6,none⟩=some (.slice a t.li.length c):=by
 obtain⟨xs,aL,nr,hE⟩:=h;obtain⟨ys,a',c',rfl,hys⟩:=nr.snoc;rcases aL.2 with⟨e,h0⟩|⟨g,cap,cur,rfl,hb,hg,hn,hm,j8,ht⟩
 .simp at h0
 have hc:∀hp u,(ys++[.int .i64 t.ld,.int .i64 t.n,.int .i64 t.m,.bool t.va,.string t.name,.string t.gc,.slice a' t.li.length c'])[hp]?=some u->ce w g hp u:=λhp u hu=>by
  have:=aL.cells (g:=g) rfl hp u hu;by_cases hj:hp=0
  .subst hj;simpa[Addr.add]using this
  .simpa[Addr.add,hj]using this
 have hl:=hys.length;refine⟨g,cap,a',c',cur,i6,hb,hg,?_,?_,?_,?_,?_,?_,?_⟩
 .exact M89
 .exact M89
 .exact M89
 .exact M89
 .exact M89
 .exact M89
 .exact M89
