import Derived.Test.YtabjfnkfocnklaaGreatDoorProg
import Derived.Deep.LoopGhost
import Derived.Laws.LoneSync
import Derived.Lib.AtoiErrMem
import Derived.Lib.Hide
import Derived.Shelf.Abstract
import Derived.WalkKit
import Derived.WalkLawsBesides
import Derived.WalkSpells
import Derived.Test.YtabjfnkfocnklaaGreatDoorA03
set_option linter.all false
set_option maxHeartbeats 16000000
set_option maxRecDepth 20000
namespace Go.Proofs.YtabjfnkfocnklaaGreatDoor
open Go Go.RowKit S Go.Lib Tryz P
variable{ops:Array Oper}{NT args cs:Array Value}{va:Bool}{nm tg:ByteArray}{s t t':GT}{Q:GT->Prop}{NS:List ByteArray}{rest:List Oper}{xs:List Value}{w:List ah}{B b ln m m' md n' ob:Nat}{f:Nat×Nat}{obj:Nat->Nat}{D D' E:Nat->Prop}{x:Obj}{pk sa:Option Addr}{P:Program}{Y:Prop}{α β:Type}{p sh sl ts v v0 v1 v2 v3 v4 v5 v6 ws:Value}{A W W' W2 w' w1 w2:World}
theorem g9(h:Y:=by kernel_rfl):Y:=h
theorem jQ2:type_of% @Go.lt_of_block:=@Go.lt_of_block
theorem jQ3:type_of% @Go.World.size_alloc:=@Go.World.size_alloc
theorem jQ5:type_of% @Go.RowKit.Below.refl:=@Go.RowKit.Below.refl
theorem jQf:type_of% @List.drop_of_length_le:=@List.drop_of_length_le
theorem jQi:type_of% @Go.World.cell?_of_block:=@Go.World.cell?_of_block
theorem jQj:type_of% @Go.run_underlying:=@Go.run_underlying
theorem jQw:type_of% @Option.some.inj:=@Option.some.inj
theorem jQz:type_of% @Nat.le_of_eq:=@Nat.le_of_eq
theorem jR5:type_of% @List.take_succ_cons:=@List.take_succ_cons
theorem jRc:type_of% @Go.bodyPost_ret:=@Go.bodyPost_ret
theorem jRk:type_of% @Go.ByteArray.toList_eq:=@Go.ByteArray.toList_eq
theorem M151(h:Y:=by
 have:=A.out;rw[jQf m9]at this;simpa[anyM]using this.symm):Y:=h
theorem M159(h:Y:=by
 have:aG (.mk 15 n m va nm tg l)=.mk 15 0 0 false es es []:=by unfold aG mC jt;simp[GT.kind]
 rw[this];rfl):Y:=h
theorem M160(h:Y:=by
 have:aG (.mk 16 n m va nm tg l)=.mk 16 0 0 false es es []:=by unfold aG mC jt;simp[GT.kind]
 rw[this];rfl):Y:=h
theorem M169(h:Y:=by
 rcases h with⟨rfl,a,c,rfl,_⟩|⟨_,b,o,c,rfl,_⟩
 ·exact⟨a,c,rfl⟩
 ·exact⟨_,c,rfl⟩):Y:=h
theorem M189(h:Y:=by
 rw[jQv aM];simp[jQp aM]at ht;rw[ht]):Y:=h
theorem M20(h:Y:=by
 rcases de t.kind with g|g|g|g|g|g|g|g|g|g|g|g
 ·rw[g.2]at hu⊢;exact⟨_,_,b,rfl,⟨NP b,Tryz.call297⟩,(qZ b W).mono λe w' h=>⟨_,h.1,hu,h.2⟩⟩
 ·exact absurd g.1 h2
 ·rw[g.2]at hu⊢;exact⟨_,_,b,rfl,⟨NQ b,Tryz.call303⟩,(rh b W).mono λe w' h=>⟨_,h.1,hu,h.2⟩⟩
 ·rw[g.2]at hu⊢;exact⟨_,_,b,rfl,⟨zJ b,Tryz.call305⟩,(ic b W).mono λe w' h=>⟨_,h.1,hu,h.2⟩⟩
 ·rw[g.2]at hu⊢;exact⟨_,_,b,rfl,⟨Je b,Tryz.call312⟩,(p8 b W).mono λe w' h=>⟨_,h.1,hu,h.2⟩⟩
 ·rw[g.2]at hu⊢;exact⟨_,_,b,rfl,⟨EG b,Tryz.call307⟩,(oP b W).mono λe w' h=>⟨_,h.1,hu,h.2⟩⟩
 ·rw[g.2]at hu⊢;exact⟨_,_,b,rfl,⟨yC b,Tryz.call298⟩,(mA b W).mono λe w' h=>⟨_,h.1,hu,h.2⟩⟩
 ·rw[g.2]at hu⊢;exact⟨_,_,b,rfl,⟨aad b,Tryz.call309⟩,(vM b W).mono λe w' h=>⟨_,h.1,hu,h.2⟩⟩
 ·rw[g.2]at hu⊢;exact⟨_,_,b,rfl,⟨Tw b,Tryz.call311⟩,(sU b W).mono λe w' h=>⟨_,h.1,hu,h.2⟩⟩
 ·rw[g.2]at hu⊢;exact⟨_,_,b,rfl,⟨yD b,Tryz.call289⟩,(mB b W).mono λe w' h=>⟨_,h.1,hu,h.2⟩⟩
 ·rw[g.2]at hu⊢;exact⟨_,_,b,rfl,⟨NR b,Tryz.call314⟩,(rj b W).mono λe w' h=>⟨_,h.1,hu,h.2⟩⟩
 ·omega):Y:=h
theorem M23(h:Y:=by
 cases bb with
 |true=>
  have Fh:r=true:=by simpa using hA2.symm
  subst Fh;go_wp2_with (go_at_fn g;refine ag.mono ?_;rintro e w' ⟨rfl,dD⟩);go_ret;exact⟨kk,rfl,i6,BW.out.trans (dD.mono BW.out.size)⟩
 |false=>
  have Ws:anyM p (zs.drop (kk+1))=some r:=by simpa using hA2
  have HA:=Z Ws;clear Ws;clear hA2;go_wp2_with (go_at_fn g;refine ag.mono ?_;rintro e w' ⟨rfl,dD⟩);go_roundg (zs.length - (kk+1))
  case measure=>omega
  case rel=>exact⟨kk+1,m9,m9,by go_num,BW.out.trans (dD.mono BW.out.size),HA.1⟩):Y:=h
theorem M30(h:Y:=by
 obtain⟨ut,ms,ps,h1,h2,h3,h4,h5⟩:=h.named b s hs hn;refine⟨ut,ms,ps,(hS b s hs).trans h1,h2,h3.move hm,?_,h5.move hm⟩;have hk:∀m∈(if s.kind=11 then((w[s.n.toNat]?).map (·.meths)).getD []else[]),m.sig.kind=7:=M44
 generalize(if s.kind=11 then((w[s.n.toNat]?).map (·.meths)).getD []else[])=l at h4 hk;clear h1 h3
 induction l generalizing ps with
 |nil=>cases ps with
  |nil=>trivial
  |cons _ _=>exact h4.elim
 |cons m l ih=>cases ps with
  |nil=>exact h4.elim
  |cons p ps=>exact⟨h4.1.move (λ_ _ h=>h) hm (λb s hs _=>hS b s hs) (hk m i6),ih (ps:=ps) h4.2 (λm' j9=>hk m' (by simp[j9]))⟩):Y:=h
theorem M33(h:Y:=by
 go_wp2_with fail;go_ret;exact⟨rfl,HB.1⟩):Y:=h
theorem M44(h:Y:=by
 intro m hm;split at hm
 ·cases hd:w[s.n.toNat]? with
  |none=>rw[hd]at hm;simp at hm
  |some d=>rw[hd]at hm;exact dJ _ d hd m hm
 ·simp at hm):Y:=h
theorem M9(h:Y:=by
 go_wp2_with fail;go_ret;exact⟨rfl,rfl⟩):Y:=h
mutual
def RT (D:Nat->Prop) (W:World):GT->Value->Prop
 |.mk k n m va nm tg l,v=>∃sl,v=.agg #[.int .i64 k,.int .i64 n,.int .i64 m,.bool va,.string nm,.string tg,sl]/\RS D W l sl
def RS (D:Nat->Prop) (W:World):List GT->Value->Prop
 |[],sl=>∃a c,sl=.slice a 0 c/\(a=none->c=0)
 |t::l,sl=>∃b o c,sl=.slice (some ⟨b,o,none⟩) (l.length+1) c/\l.length+1<=c/\c<=9223372036854775807/\D b/\RE D W t b o/\RC D W l b (o+7)
def RC (D:Nat->Prop) (W:World):List GT->Nat->Nat->Prop
 |[],_,_=>True
 |t::l,b,o=>RE D W t b o/\RC D W l b (o+7)
def RE (D:Nat->Prop) (W:World):GT->Nat->Nat->Prop
 |.mk k n m va nm tg l,b,o=>∃sl,W.cell? ⟨b,o,none⟩=some (.int .i64 k)/\W.cell? ⟨b,o+1,none⟩=some (.int .i64 n)/\
  W.cell? ⟨b,o+2,none⟩=some (.int .i64 m)/\W.cell? ⟨b,o+3,none⟩=some (.bool va)/\W.cell? ⟨b,o+4,none⟩=some (.string nm)/\
  W.cell? ⟨b,o+5,none⟩=some (.string tg)/\W.cell? ⟨b,o+6,none⟩=some sl/\RS D W l sl
end
theorem ki{k n m:Int}{l:List GT}:
 RT D W (.mk k n m va nm tg l) v↔∃sl,v=.agg #[.int .i64 k,.int .i64 n,.int .i64 m,.bool va,.string nm,.string tg,sl]/\RS D W l sl:=by rw[RT]
theorem ia:RS D W [] sl↔∃a c,sl=.slice a 0 c/\(a=none->c=0):=by rw[RS]
theorem gQ{l:List GT}:
 RS D W (t::l) sl↔∃b o c,sl=.slice (some ⟨b,o,none⟩) (l.length+1) c/\l.length+1<=c/\c<=9223372036854775807/\D b/\RE D W t b o/\RC D W l b (o+7):=by rw[RS]
theorem pW{k n m:Int}{l:List GT}{o:Nat}:
 RE D W (.mk k n m va nm tg l) b o↔∃sl,W.cell? ⟨b,o,none⟩=some (.int .i64 k)/\W.cell? ⟨b,o+1,none⟩=some (.int .i64 n)/\
  W.cell? ⟨b,o+2,none⟩=some (.int .i64 m)/\W.cell? ⟨b,o+3,none⟩=some (.bool va)/\W.cell? ⟨b,o+4,none⟩=some (.string nm)/\
  W.cell? ⟨b,o+5,none⟩=some (.string tg)/\W.cell? ⟨b,o+6,none⟩=some sl/\RS D W l sl:=by rw[RE]
def au(D D':Nat->Prop)(W W':World):Prop:=∀b,D b->D' b/\W'.heap[b]?=W.heap[b]?
mutual
theorem RT.move {D D':Nat->Prop} {W W':World} (h:au D D' W W'):∀{t:GT} {v:Value},RT D W t v->RT D' W' t v
 |.mk k n m va nm tg l,v,hr=>by
  rw[RT]at hr⊢;obtain⟨sl,hv,hs⟩:=hr;exact⟨sl,hv,RS.move h hs⟩
theorem RS.move {D D':Nat->Prop} {W W':World} (h:au D D' W W'):∀{l:List GT} {sl:Value},RS D W l sl->RS D' W' l sl
 |[],sl,hr=>by rw[RS]at hr⊢;exact hr
 |t::l,sl,hr=>by
  rw[RS]at hr⊢;obtain⟨b,o,c,hs,h1,h2,hb,he,hc⟩:=hr;exact⟨b,o,c,hs,h1,h2,(h b hb).1,RE.move h hb he,RC.move h hb hc⟩
theorem RC.move {D D':Nat->Prop} {W W':World} (h:au D D' W W'):∀{l:List GT} {b o:Nat},D b->RC D W l b o->RC D' W' l b o
 |[],b,o,_,_=>by rw[RC];trivial
 |t::l,b,o,hb,hr=>by
  rw[RC]at hr⊢;exact⟨RE.move h hb hr.1,RC.move h hb hr.2⟩
theorem RE.move {D D':Nat->Prop} {W W':World} (h:au D D' W W'):∀{t:GT} {b o:Nat},D b->RE D W t b o->RE D' W' t b o
 |.mk k n m va nm tg l,b,o,hb,hr=>by
  rw[RE]at hr⊢;obtain⟨sl,c0,c1,c2,c3,c4,c5,c6,hs⟩:=hr;have e:∀j,W'.cell? ⟨b,j,none⟩=W.cell? ⟨b,j,none⟩:=λj=>jQi (w:=W) (h b hb).2;exact⟨sl,(e _).trans c0,(e _).trans c1,(e _).trans c2,(e _).trans c3,(e _).trans c4,(e _).trans c5,(e _).trans c6,RS.move h hs⟩
end
theorem RS.form{l:List GT}(h:RS D W l sl):∃a c,sl=.slice a l.length c:=by
 cases l with
 |nil=>obtain⟨a,c,rfl,_⟩:=ia.1 h;exact⟨a,c,rfl⟩
 |cons t l=>obtain⟨b,o,c,rfl,_⟩:=gQ.1 h;exact⟨_,c,rfl⟩
theorem au.refl:au D D W W:=λ_ h=>⟨h,rfl⟩
theorem au.setCell(h:au D D' W W'){p:Addr}(hp:¬D p.block)(u:Value):au D D' W (W'.setCell p u):=
 λb hb=>⟨(h b hb).1,by rw[Below.heap_setCell _ _ _ _ (λe=>hp (e▸hb))];exact(h b hb).2⟩
theorem au.wide(h:au D D' W W')(hE:∀b,D' b->E b):au D E W W':=λb hb=>⟨hE b (h b hb).1,(h b hb).2⟩
theorem au.alloc(h:au D D' W W')(hD:∀b,D b->b<W'.heap.size)(o:Obj):au D D' W (W'.alloc o):=
 λb hb=>⟨(h b hb).1,by rw[Below.heap_alloc _ _ _ (hD b hb)];exact(h b hb).2⟩
def Up(D:Nat->Prop)(n m:Nat):Nat->Prop:=λb=>D b\/(n<=b/\b<m)
def Lo(D:Nat->Prop)(n:Nat):Prop:=∀b,D b->b<n
def RMC(D:Nat->Prop)(W:World):List aH->Nat->Nat->Prop
 |[],_,_=>True
 |m::l,b,o=>(W.cell? ⟨b,o,none⟩=some (.string m.name)/\W.cell? ⟨b,o+1,none⟩=some (.bool m.ptr)/\RE D W m.sig b (o+2))/\RMC D W l b (o+9)
def RM(D:Nat->Prop)(W:World)(l:List aH)(sl:Value):Prop:=
 (l=[]/\∃a c,sl=.slice a 0 c/\(a=none->c=0))\/(l≠[]/\∃b o c,sl=.slice (some ⟨b,o,none⟩) l.length c/\l.length<=c/\c<=9223372036854775807/\D b/\RMC D W l b o)
def RDC(D:Nat->Prop)(W:World):List ah->Nat->Nat->Prop
 |[],_,_=>True
 |d::l,b,o=>(RE D W d.under b o/\∃ms,W.cell? ⟨b,o+7,none⟩=some ms/\RM D W d.meths ms)/\RDC D W l b (o+8)
def RD(D:Nat->Prop)(W:World)(l:List ah)(sl:Value):Prop:=
 (l=[]/\∃a c,sl=.slice a 0 c/\(a=none->c=0))\/(l≠[]/\∃b o c,sl=.slice (some ⟨b,o,none⟩) l.length c/\l.length<=c/\c<=9223372036854775807/\b<W.heap.size/\RDC D W l b o)
theorem RE.vT(h:au D D' W W'){o:Nat}(hb:W'.heap[b]?=W.heap[b]?)(hr:RE D W t b o):RE D' W' t b o:=by
 obtain⟨k,n,m,va,nm,tg,l⟩:=t;rw[RE]at hr⊢;obtain⟨sl,c0,c1,c2,c3,c4,c5,c6,hs⟩:=hr;have e:∀j,W'.cell? ⟨b,j,none⟩=W.cell? ⟨b,j,none⟩:=λj=>jQi (w:=W) hb;exact⟨sl,(e _).trans c0,(e _).trans c1,(e _).trans c2,(e _).trans c3,(e _).trans c4,(e _).trans c5,(e _).trans c6,RS.move h hs⟩
theorem RMC.move(h:au D D' W W'):∀{l:List aH} {b o:Nat},D b->RMC D W l b o->RMC D' W' l b o
 |[],_,_,_,_=>trivial
 |m::l,b,o,hb,hr=>by
  have e:∀j,W'.cell? ⟨b,j,none⟩=W.cell? ⟨b,j,none⟩:=λj=>jQi (w:=W) (h b hb).2;exact⟨⟨(e _).trans hr.1.1,(e _).trans hr.1.2.1,RE.move h hb hr.1.2.2⟩,RMC.move h hb hr.2⟩
theorem RM.move(h:au D D' W W'){l:List aH}:RM D W l sl->RM D' W' l sl
 |.inl h'=>.inl h'
 |.inr ⟨hl,b,o,c,h1,h2,h3,h4,h5⟩=>.inr ⟨hl,b,o,c,h1,h2,h3,(h b h4).1,RMC.move h h4 h5⟩
theorem RDC.move(h:au D D' W W'):∀{l:List ah} {b o:Nat},W'.heap[b]?=W.heap[b]?->RDC D W l b o->RDC D' W' l b o
 |[],_,_,_,_=>trivial
 |d::l,b,o,hb,hr=>by
  have e:∀j,W'.cell? ⟨b,j,none⟩=W.cell? ⟨b,j,none⟩:=λj=>jQi (w:=W) hb;obtain⟨⟨h1,ms,h2,h3⟩,h4⟩:=hr;exact⟨⟨RE.vT h hb h1,ms,(e _).trans h2,RM.move h h3⟩,RDC.move h hb h4⟩
theorem RD.move(h:au D D' W W')(hz:W.heap.size<=W'.heap.size)(hW:∀b,b<W.heap.size->W'.heap[b]?=W.heap[b]?){l:List ah}:RD D W l sl->RD D' W' l sl
 |.inl h'=>.inl h'
 |.inr ⟨hl,b,o,c,h1,h2,h3,h4,h5⟩=>.inr ⟨hl,b,o,c,h1,h2,h3,jQb h4 hz,RDC.move h (hW b h4) h5⟩
theorem RD.XL(h:au D D' W W')(hz:W.heap.size<=W'.heap.size){l:List ah}(hr:RD D W l sl)(hW:∀b o n c,sl=.slice (some ⟨b,o,none⟩) n c->W'.heap[b]?=W.heap[b]?):RD D' W' l sl:=by
 obtain h'|⟨hl,b,o,c,h1,h2,h3,h4,h5⟩:=hr
 ·exact .inl h'
 ·exact .inr ⟨hl,b,o,c,h1,h2,h3,jQb h4 hz,RDC.move h (hW b o _ c h1) h5⟩
theorem RD.wide(hE:∀b,D b->E b){l:List ah}(h:RD D W l sl):RD E W l sl:=h.move (λb hb=>⟨hE b hb,rfl⟩) (jQ0 _) (λ_ _=>rfl)
theorem RD.form{l:List ah}(h:RD D W l sl):∃a c,sl=.slice a l.length c:=M169
theorem RM.form{l:List aH}(h:RM D W l sl):∃a c,sl=.slice a l.length c:=M169
theorem RC.at{D:Nat->Prop}{W:World}:∀{l:List GT} {b o:Nat},RC D W l b o->∀{i:Nat} {t:GT},l[i]?=some t->RE D W t b (o+i*7)
 |[],_,_,_,i,t,h=>by simp at h
 |x::l,b,o,hr,0,t,h=>by
  rw[RC]at hr;simp at h;subst h;simpa using hr.1
 |x::l,b,o,hr,i+1,t,h=>by
  rw[RC]at hr;have:=RC.at hr.2 (i:=i) (t:=t) (by simpa using h);rw[show o+(i+1)*7=o+7+i*7 by omega];exact this
theorem RDC.at{D:Nat->Prop}{W:World}:∀{l:List ah} {b o:Nat},RDC D W l b o->∀{i:Nat} {d:ah},l[i]?=some d->
 RE D W d.under b (o+i*8)/\∃ms,W.cell? ⟨b,o+i*8+7,none⟩=some ms/\RM D W d.meths ms
 |[],_,_,_,i,t,h=>by simp at h
 |x::l,b,o,hr,0,t,h=>by
  simp at h;subst h;simpa using hr.1
 |x::l,b,o,hr,i+1,t,h=>by
  have:=RDC.at hr.2 (i:=i) (d:=t) (by simpa using h);rw[show o+(i+1)*8=o+8+i*8 by omega];exact this
theorem RMC.at{D:Nat->Prop}{W:World}:∀{l:List aH} {b o:Nat},RMC D W l b o->∀{i:Nat} {m:aH},l[i]?=some m->
 W.cell? ⟨b,o+i*9,none⟩=some (.string m.name)/\W.cell? ⟨b,o+i*9+1,none⟩=some (.bool m.ptr)/\RE D W m.sig b (o+i*9+2)
 |[],_,_,_,i,t,h=>by simp at h
 |x::l,b,o,hr,0,t,h=>by
  simp at h;subst h;simpa using hr.1
 |x::l,b,o,hr,i+1,t,h=>by
  have:=RMC.at hr.2 (i:=i) (m:=t) (by simpa using h);rw[show o+(i+1)*9=o+9+i*9 by omega];exact this
theorem RE.val{o:Nat}(h:RE D W t b o):∃k n m va nm tg a ln c,RT D W t (.agg #[.int .i64 k,.int .i64 n,.int .i64 m,.bool va,.string nm,.string tg,.slice a ln c])/\
 W.cell? ⟨b,o,none⟩=some (.int .i64 k)/\W.cell? ⟨b,o+1,none⟩=some (.int .i64 n)/\W.cell? ⟨b,o+2,none⟩=some (.int .i64 m)/\W.cell? ⟨b,o+3,none⟩=some (.bool va)/\
 W.cell? ⟨b,o+4,none⟩=some (.string nm)/\W.cell? ⟨b,o+5,none⟩=some (.string tg)/\W.cell? ⟨b,o+6,none⟩=some (.slice a ln c):=by
 obtain⟨k,n,m,va,nm,tg,l⟩:=t;obtain⟨sl,c0,c1,c2,c3,c4,c5,c6,hs⟩:=pW.1 h;obtain⟨a,c,rfl⟩:=hs.form;exact⟨k,n,m,va,nm,tg,a,l.length,c,ki.2 ⟨_,rfl,hs⟩,c0,c1,c2,c3,c4,c5,c6⟩
theorem RC.drop:∀{l:List GT} {b o:Nat},RC D W l b o->∀m,RC D W (l.drop m) b (o+m*7)
 |[],_,_,_,m=>by simp[RC]
 |x::l,b,o,hr,0=>by simpa using hr
 |x::l,b,o,hr,m+1=>by
  rw[RC]at hr;have:=RC.drop hr.2 m;rw[show o+(m+1)*7=o+7+m*7 by omega];simpa using this
theorem RC.take:∀{l:List GT} {b o:Nat},RC D W l b o->∀m,RC D W (l.take m) b o
 |[],_,_,_,m=>by simp[RC]
 |x::l,b,o,hr,0=>by simp[RC]
 |x::l,b,o,hr,m+1=>by
  rw[RC]at hr;rw[jR5,RC];exact⟨hr.1,RC.take hr.2 m⟩
theorem aN{l:List GT}:RS D W l sl↔
 (l=[]/\∃a c,sl=.slice a 0 c/\(a=none->c=0))\/(l≠[]/\∃b o c,sl=.slice (some ⟨b,o,none⟩) l.length c/\l.length<=c/\c<=9223372036854775807/\D b/\RC D W l b o):=by
 cases l with
 |nil=>rw[ia];simp
 |cons t l=>rw[gQ];simp[RC]
theorem rv{f:FuncId}{R Q:Ending->World->Prop}(hc:Calls P f args W R)(k:Q (.returned v) W2)(hR:∀e w,R e w->e=.returned v/\w=W2:=by exact λ_ _ h=>h):Calls P f args W Q:=
 hc.mono λe w r=>by obtain⟨rfl,rfl⟩:=hR e w r;exact k
structure kT(B:Nat)(cs:Array Value)(t:TypeId)(w w2:World):Prop where
 here:w2.heap[B]?=some (.cells cs t (0,0))
 other:∀b,b≠B->w2.heap[b]?=w.heap[b]?
 size:w2.heap.size=w.heap.size
 os:w2.os=w.os
 tape:w2.tape=w.tape
 output:w2.output=w.output
theorem kT.below{t:TypeId}{a w:World}(h:kT B cs t w w2){n:Nat}(hb:Below n a w)(hn:n<=B):Below n a w2:=
 hb.trans ⟨h.os,h.tape,h.output,jQz h.size.symm,λk hk=>h.other k m9⟩
theorem Bo{w:World}{t:TypeId}(hg:w.heap[B]?=some (.cells NT t (0,0)))(_h:NT.size=cs.size):kT B cs t w (w.setRow B cs):=by
 have aM:=jQ2 hg;have hB:w.heap[B]=.cells NT t (0,0):=by simpa[Array.getElem?_eq_getElem aM]using hg
 refine⟨?_,?_,?_,rfl,rfl,rfl⟩
 ·simp[World.setRow,Array.getElem?_modify,hg]
 ·intro b hb;simp[World.setRow,Array.getElem?_modify,Ne.symm hb]
 ·simp[World.setRow]
theorem xM{o:Oper}{a:Act}{w:World}{Q:Exit->Act->World->Prop}(mX:o.guard=none)(ty:TypeId)(x y:Operand)(ho:o.op=.store ty x y)(B:Nat)(cells:Array Value)(hx:a.eval x=.pointer (some ⟨B,0,none⟩))(hy:a.eval y=.agg cells)(t:TypeId)(NT:Array Value)(hg:w.heap[B]?=some (.cells NT t (0,0)))(hi:(P.info? ty).map (·.size)=some cells.size)(hold:NT.size=cells.size)(h1:cells.all (·.oneCell')=true)(h:∀w2,kT B cells t w w2->wpList P ops Q rest (a.put o.dst undef) w2):wpList P ops Q (o::rest) a w:=
 wpList_store_row mX ty x y ho B cells hx hy t NT hg hi hold h1 (h _ (Bo hg hold))
theorem fN{o:Oper}{a:Act}{w:World}{Q:Exit->Act->World->Prop}(mX:o.guard=none)(x y:Operand)(ho:o.op=.store 25 x y)(B:Nat){k n m:Int}{c:Nat}(hx:a.eval x=.pointer (some ⟨B,0,none⟩))(hy:a.eval y=.agg #[.int .i64 k,.int .i64 n,.int .i64 m,.bool va,.string nm,.string tg,.slice sa ln c])(hg:w.heap[B]?=some (.cells NT 25 (0,0)))(hold:NT.size=7)(h:∀w2,kT B #[.int .i64 k,.int .i64 n,.int .i64 m,.bool va,.string nm,.string tg,.slice sa ln c] 25 w w2->wpList prog ops Q rest (a.put o.dst undef) w2):wpList prog ops Q (o::rest) a w:=
 xM mX 25 x y ho B _ hx hy 25 NT hg g9 hold (by simp[Value.oneCell']) h
theorem ao{w:World}{t:TypeId}(h:w.heap[B]?=some (.cells #[v0,v1,v2,v3,v4,v5,v6] t f)):
 w.cell? ⟨B,0,none⟩=some v0/\w.cell? ⟨B,1,none⟩=some v1/\w.cell? ⟨B,2,none⟩=some v2/\w.cell? ⟨B,3,none⟩=some v3/\w.cell? ⟨B,4,none⟩=some v4/\w.cell? ⟨B,5,none⟩=some v5/\w.cell? ⟨B,6,none⟩=some v6:=by
 simp[World.cell?,h]
theorem cd{w:World}{c:Array Value}{t:TypeId}(h:w.heap[B]?=some (.cells c t (0,0))):∀j,w.frozen? ⟨B,j,none⟩=false:=by
 intro j;simp[World.frozen?,h]
@[go_sem ↓] theorem ac6(x0 x1 x2 x3 x4 x5 x6:Value)(w:World):(Instr.field 25 (.agg #[x0,x1,x2,x3,x4,x5,x6]) 0).run prog w=.ok x0 w:=g9
@[go_sem ↓] theorem ac7(x0 x1 x2 x3 x4 x5 x6:Value)(w:World):(Instr.field 25 (.agg #[x0,x1,x2,x3,x4,x5,x6]) 1).run prog w=.ok x1 w:=g9
@[go_sem ↓] theorem ac8(x0 x1 x2 x3 x4 x5 x6:Value)(w:World):(Instr.field 25 (.agg #[x0,x1,x2,x3,x4,x5,x6]) 2).run prog w=.ok x2 w:=g9
@[go_sem ↓] theorem ac9(x0 x1 x2 x3 x4 x5 x6:Value)(w:World):(Instr.field 25 (.agg #[x0,x1,x2,x3,x4,x5,x6]) 3).run prog w=.ok x3 w:=g9
@[go_sem ↓] theorem ada(x0 x1 x2 x3 x4 x5 x6:Value)(w:World):(Instr.field 25 (.agg #[x0,x1,x2,x3,x4,x5,x6]) 4).run prog w=.ok x4 w:=g9
@[go_sem ↓] theorem adb(x0 x1 x2 x3 x4 x5 x6:Value)(w:World):(Instr.field 25 (.agg #[x0,x1,x2,x3,x4,x5,x6]) 5).run prog w=.ok x5 w:=g9
@[go_sem ↓] theorem ade(x0 x1 x2 x3 x4 x5 x6:Value)(w:World):(Instr.field 25 (.agg #[x0,x1,x2,x3,x4,x5,x6]) 6).run prog w=.ok x6 w:=g9
theorem ak(w:World)(o:Obj):(w.alloc o).heap[w.heap.size]?=some o:=by show(w.heap.push o)[w.heap.size]?=some o;simp
theorem aq{w:World}{o:Obj}(h:w.heap[b]?=some x):(w.alloc o).heap[b]?=some x:=by
 rw[Below.heap_alloc _ _ _ (jQ2 h)];exact h
theorem aj{w:World}(hb:Below B w w')(h:w.heap[b]?=some x)(hl:b<B):w'.heap[b]?=some x:=(hb.block b hl).trans h
theorem kT.cR{t:TypeId}{w:World}(hp:kT B cs t w w2)(h:w.heap[b]?=some x)(bk:b≠B):w2.heap[b]?=some x:=(hp.other b bk).trans h
theorem kT.aJ{t:TypeId}{w:World}(hp:kT B cs t w w2)(hD:¬D B):au D D w w2:=λb hb=>⟨hb,hp.other b (λe=>hD (e▸hb))⟩
def afp(D:Nat->Prop)(W:World)(r:GT)(e:Ending)(W':World):Prop:=∃v',e=.returned v'/\RT (Up D W.heap.size W'.heap.size) W' r v'/\Below W.heap.size W W'
theorem fU(hb:Below B W w1):(∀b o,b<B->w1.cell? ⟨b,o,none⟩=W.cell? ⟨b,o,none⟩)/\(∀b o,b<B->w1.frozen? ⟨b,o,none⟩=W.frozen? ⟨b,o,none⟩):=
 ⟨λb o h=>hb.cell (p:=⟨b,o,none⟩) h,λb o h=>hb.frozen (p:=⟨b,o,none⟩) h⟩
theorem Lo.aJ{n:Nat}(hD:Lo D n)(hb:Below n W A):au D D W A:=λb h=>⟨h,hb.block b (hD b h)⟩
theorem Lo.mono{n:Nat}(hD:Lo D n)(h:n<=m):Lo D m:=λb hb=>jQb (hD b hb) h
theorem Up.mono{n:Nat}(h:n'<=n)(h':m<=m'):∀b,Up D n m b->Up D n' m' b:=λ_ hb=>hb.imp id (λhh=>⟨jQd h hh.1,jQb hh.2 h'⟩)
theorem Up.lo{n:Nat}(hD:Lo D n)(h:n<=m):Lo (Up D n m) m:=λb hb=>by
 obtain hb|hb:=hb
 ·exact jQb (hD b hb) h
 ·exact hb.2
theorem Up.of{n:Nat}:∀b,D b->Up D n m b:=λ_ h=>.inl h
theorem jr(N:Nat):∀(t r:GT) (v:Value) (W:World) (D:Nat->Prop),SizeOf.sizeOf t<=N->bare t=some r->Lo D W.heap.size->RT D W t v->
 Calls prog 177 #[v] W (afp D W r):=by
 induction N with
 |zero=>intro t;cases t;simp
 |succ N ih=>
  intro t r v W D hN hb hD hv;obtain⟨k,n,m,va,nm,tg,l⟩:=t;obtain⟨sl,rfl,hs⟩:=ki.1 hv;by_cases h2:k=2
  ·subst h2;cases l with
   |nil=>simp[bare]at hb
   |cons e l=>
    have dD:bare e=some r:=by simpa[bare]using hb
    obtain⟨b,o,c,rfl,Jd,hc,kN,hE,UN⟩:=gQ.1 hs;obtain⟨k',n',m',va',Wf,tg',l'⟩:=e;obtain⟨sl',c0,c1,c2,c3,c4,c5,c6,oC⟩:=pW.1 hE;have j6:b<W.heap.size:=hD b kN;have hbl1:b<W.heap.size+1:=m9
    have hlen:(0:Int)<(l.length:Int)+1:=m9
    go_enter func177,ntmps177;go_wp2_with fail;have hA:=((jQ5 W.heap.size W).alloc (jQ0 _) (.cells #[.int .i64 2,.int .i64 n,.int .i64 m,.bool va,.string nm,.string tg,.slice (some ⟨b,o,none⟩) (l.length+1) c] 25)).alloc i6 (.cells #[.int .i64 0,.int .i64 0,.int .i64 0,.bool false,.string ⟨#[]⟩,.string ⟨#[]⟩,.slice none 0 0] 25);refine(ih _ _ _ _ D (by simp at hN⊢;omega) dD (hD.mono (by simp;omega)) ((ki.2 ⟨sl',rfl,oC⟩).move (hD.aJ hA))).mono ?_;rintro e w1 ⟨v',rfl,hr,ar⟩;obtain⟨k1,n1,m1,va1,nm1,tg1,l1⟩:=r;obtain⟨sl1,rfl,cz⟩:=ki.1 hr;obtain⟨a1,q1,rfl⟩:=cz.form;have hBW:=hA.trans (ar.mono (by simp;omega));have hx:=aj ar (ak _ _) i6;simp only[jQ3]at hx hr;clear ar cz;go_wp2_with (refine fN rfl _ _ rfl (W.heap.size+1) rfl rfl hx rfl ?_);intro w3 fm;obtain⟨e0,e1,e2,e3,e4,e5,e6⟩:=ao fm.here;go_wp2_with fail;refine jRc (v:=.agg #[.int .i64 k1,.int .i64 n1,.int .i64 m1,.bool va1,.string nm1,.string tg1,.slice a1 l1.length q1]) (by simp[results,Tryz.results177,go_sem, *]) rfl ⟨_,rfl,?_,fm.below hBW m9⟩;exact hr.move ((fm.aJ (D:=Up D (W.heap.size+1+1) w1.heap.size) (by intro h;obtain h|h:=h;exact absurd (hD _ h) m9;omega)).wide (Up.mono m9 (by rw[fm.size];exact jQ0 _)))
  ·have hk:(k==2)=false:=by simp[h2]
   by_cases mM:k=14
   ·subst mM;have dD:fD=r:=by simpa[fo]using hb
    subst dD;go_enter func177,ntmps177;go_wp2_with fail
    trace "B"
    refine jRc (v:=.agg #[.int .i64 10,.int .i64 0,.int .i64 0,.bool false,.string es,.string es,.slice none 0 0]) (by simp[results,Tryz.results177,go_sem];rfl) rfl ⟨_,rfl,?_,?_⟩
    ·exact ki.2 ⟨_,rfl,ia.2 ⟨_,_,rfl,λ_=>rfl⟩⟩
    ·exact((jQ5 _ _).alloc (jQ0 _) _).alloc i6 _
   ·have QZ:(k==14)=false:=by simp[mM]
    have dD:GT.mk k n m va nm tg l=r:=by simpa[fo,h2,mM]using hb
    subst dD;obtain⟨a,c,rfl⟩:=hs.form;go_enter func177,ntmps177;go_wp2_with fail;refine jRc (v:=.agg #[.int .i64 k,.int .i64 n,.int .i64 m,.bool va,.string nm,.string tg,.slice a l.length c]) (by simp[results,Tryz.results177,go_sem]) rfl ⟨_,rfl,?_,?_⟩
    ·exact hv.move ((((au.refl.alloc (λb h=>hD b h) _).alloc (λb h=>by have:=hD b h;simp;omega) _)).wide Up.of)
    ·exact((jQ5 _ _).alloc (jQ0 _) _).alloc i6 _
def Pred(D:Nat->Prop)(W:World)(g:Nat)(lb:Array Value)(zs:List GT)(p:GT->Option Bool):Prop:=
 ∀(W1:World) (t:GT) (v:Value) (bb:Bool),Below W.heap.size W W1->t∈zs->RT D W1 t v->p t=some bb->
  Calls prog g (#[v]++lb) W1 λe W2=>e=.returned (.bool bb)/\Below W1.heap.size W1 W2
def abF(W:World)(r:Bool)(e:Ending)(W':World):Prop:=∃q:Int,e=.returned (.int .i64 q)/\decide (q≥0)=r/\Below W.heap.size W W'
theorem Qp(zs:List GT)(sl:Value)(W:World)(D:Nat->Prop)(hs:RS D W zs sl)(hD:Lo D W.heap.size)(g:Nat)(lb:Array Value)(eg:∀args w,(callFunc g args).run prog w=.ok (.enter g args) w)(p:GT->Option Bool)(hp:Pred D W g lb zs p)(r:Bool)(hr:anyM p zs=some r):
 Calls prog 90 #[sl,.func (.func g) #[] lb] W (abF W r):=by
 rcases aN.1 hs with⟨rfl,a,c,rfl,ha⟩|⟨bk,b,o,c,rfl,Jd,hc,kN,hC⟩
 ·have Nn:r=false:=by simpa[anyM]using hr.symm
  subst Nn;go_enter func90,ntmps90
  go_wp2
  go_loopg [5,8] 0 (λgg s5 s8 wr=>s8=.int .i64 0/\wr=W)
  case atStart=>exact⟨rfl,rfl⟩
  case round=>
   obtain⟨rfl,rfl⟩:=hrel
   go_wp2
   go_ret;exact⟨-1,rfl,i6,jQ5 _ _⟩
 ·have hz:zs.length<=9223372036854775807:=m9
  have hbW:=hD b kN;go_enter func90,ntmps90
  go_wp2
  go_loopg [5,8] zs.length (λgg _ s8 wr=>∃kk:Nat,kk<=zs.length/\zs.length - kk<=gg/\s8=.int .i64 kk/\Aside (Below W.heap.size W wr)/\Aside (anyM p (zs.drop kk)=some r))
  case atStart=>exact⟨0,jQc _,m9,rfl,jQ5 _ W,by simpa[Aside]using hr⟩
  case round=>
   obtain⟨kk,ez,hg,rfl,BW,A⟩:=hrel;by_cases aM:kk<zs.length
   ·have aR:(kk:Int)<(zs.length:Int):=m9
    obtain⟨t,ht⟩:∃t,zs[kk]?=some t:=⟨zs[kk],by simp[aM]⟩;have hE:=(hC.at ht).move (hD.aJ BW.out) kN;obtain⟨k1,n1,m1,va1,nm1,tg1,a1,ln1,q1,hv,c0,c1,c2,c3,c4,c5,c6⟩:=hE.val;have bL:zs.drop kk=t::zs.drop (kk+1):=M189
    have hA:=A.out;rw[bL,anyM]at hA;obtain⟨bb,mO,hA2⟩:=jQ1.1 hA;have ag:=hp wr t _ bb BW.out (jQ8 ht) hv mO;clear hE hA hp hr hv ht;exact M23
   ·have aR:¬(kk:Int)<(zs.length:Int):=m9
    have Jn:r=false:=M151
    subst Jn
    go_wp2
    go_ret;exact⟨-1,rfl,i6,BW.out⟩
theorem cL(zs:List GT)(sl:Value)(W:World)(D:Nat->Prop)(hs:RS D W zs sl)(hD:Lo D W.heap.size)(g:Nat)(lb:Array Value)(eg:∀args w,(callFunc g args).run prog w=.ok (.enter g args) w)(p:GT->Option Bool)(hp:Pred D W g lb zs p)(r:Bool)(hr:anyM p zs=some r):
 Calls prog 38 #[sl,.func (.func g) #[] lb] W λe W'=>e=.returned (.bool r)/\Below W.heap.size W W':=by
 go_enter func38,ntmps38;go_wp2_with (go_at_call 90;refine(Qp zs sl W D hs hD g lb eg p hp r hr).mono ?_;rintro e w' ⟨q,rfl,hq,hb⟩);go_ret;exact⟨by simp[<-hq],hb⟩
theorem dG(w:List ah)(ws:Value)(t r:GT)(v:Value)(W:World)(D:Nat->Prop)(hu:under w t=some r)(hD:Lo D W.heap.size)(hw:RD D W w ws)(hv:RT D W t v):
 Calls prog 130 #[ws,v] W (afp D W r):=by
 obtain⟨k,n,m,va,nm,tg,l⟩:=t;obtain⟨sl,rfl,hs⟩:=ki.1 hv;obtain⟨a,c,rfl⟩:=hs.form;obtain⟨t1,hb,hu⟩:=jQ1.1 hu;obtain⟨wa,wc,rfl⟩:=hw.form;go_enter func130,ntmps130;go_wp2_with fail;have qm:=aq (o:=.cells #[.int .i64 0,.int .i64 0,.int .i64 0,.bool false,.string ⟨#[]⟩,.string ⟨#[]⟩,.slice none 0 0] 25) (ak W (.cells #[.int .i64 k,.int .i64 n,.int .i64 m,.bool va,.string nm,.string tg,.slice a l.length c] 25));have FT:=ak (W.alloc (.cells #[.int .i64 k,.int .i64 n,.int .i64 m,.bool va,.string nm,.string tg,.slice a l.length c] 25)) (.cells #[.int .i64 0,.int .i64 0,.int .i64 0,.bool false,.string ⟨#[]⟩,.string ⟨#[]⟩,.slice none 0 0] 25);have hA:=((jQ5 W.heap.size W).alloc (jQ0 _) (.cells #[.int .i64 k,.int .i64 n,.int .i64 m,.bool va,.string nm,.string tg,.slice a l.length c] 25)).alloc i6 (.cells #[.int .i64 0,.int .i64 0,.int .i64 0,.bool false,.string ⟨#[]⟩,.string ⟨#[]⟩,.slice none 0 0] 25);refine(jr _ _ _ _ _ D (jQ0 _) hb (hD.mono (by simp;omega)) (hv.move (hD.aJ hA))).mono ?_;rintro e w1 ⟨v',rfl,hr,ar⟩;obtain⟨k1,n1,m1,va1,nm1,tg1,l1⟩:=t1;obtain⟨sl1,rfl,cz⟩:=ki.1 hr;obtain⟨a1,q1,rfl⟩:=cz.form;have hBW:=hA.trans (ar.mono (by simp;omega));have qm:=aj ar qm (by simp;omega);have FT:=aj ar FT i6;simp only[jQ3]at FT hr;clear hA ar hb hv hs cz;go_wp2_with (refine fN rfl _ _ rfl W.heap.size rfl rfl qm rfl ?_);intro w2 fJ;have oW:=hw.move (hD.aJ (fJ.below hBW (jQ0 _))) (fJ.below hBW (jQ0 _)).size (fJ.below hBW (jQ0 _)).block;have nT:=hr.move (fJ.aJ (D:=Up D (W.heap.size+1+1) w1.heap.size) (by intro h;obtain h|h:=h;exact absurd (hD _ h) m9;omega));rw[<-fJ.size]at nT;have acf:=fJ.below hBW (jQ0 _);have FT:=fJ.cR FT m9;obtain⟨c0,c1,c2,c3,c4,c5,c6⟩:=ao fJ.here;simp only[GT.kind,GT.n]at hu;clear hw hr fJ qm hBW;have LQ:=Z FT;clear FT;by_cases dA:k1=11
 ·subst dA;have Hv:0<=n1:=by
   by_cases h:0<=n1
   ·exact h
   ·simp[h]at hu
  obtain⟨i,rfl⟩:=Int.eq_ofNat_of_zero_le Hv;simp at hu;obtain⟨d,hd,rfl⟩:=hu;have hil:i<w.length:=by
   by_cases h:i<w.length
   ·exact h
   ·simp[jQx (by omega:w.length<=i)]at hd
  have afq:(i:Int)<(w.length:Int):=m9
  rcases oW with⟨rfl,_⟩|⟨_,b,o,c',hwe,Jd,jG,kN,hC⟩
  ·simp at hd
  simp at hwe;obtain⟨rfl,rfl⟩:=hwe;obtain⟨hE,ms,jK,hM⟩:=hC.at hd;obtain⟨k2,n2,m2,va2,LG,tg2,a2,ln2,q2,fx,d0,d1,d2,d3,d4,d5,d6⟩:=hE.val;clear hd hE hM jK hC nT;go_wp2_with (refine fN rfl _ _ rfl (W.heap.size+1) rfl rfl LQ.1 rfl ?_);intro w3 fm;obtain⟨e0,e1,e2,e3,e4,e5,e6⟩:=ao fm.here;go_wp2_with fail;refine jRc (v:=.agg #[.int .i64 k2,.int .i64 n2,.int .i64 m2,.bool va2,.string LG,.string tg2,.slice a2 ln2 q2]) (by simp[results,Tryz.results130,go_sem, *]) rfl ⟨_,rfl,?_,?_⟩
  ·refine fx.move ((fm.aJ ?_).wide (λb h=>.inl h));intro h;exact absurd (hD _ h) m9
  ·exact fm.below acf m9
 ·have hk11:(k1==11)=false:=by simp[dA]
  by_cases ka:k1=15
  ·subst ka;have Wd:fC=r:=by simpa using hu
   subst Wd;have hz:=jQ2 LQ.1;go_wp2_with (refine fN rfl _ _ rfl (W.heap.size+1) rfl rfl (aq (aq (aq LQ.1))) rfl ?_);intro w3 fm;obtain⟨e0,e1,e2,e3,e4,e5,e6⟩:=ao fm.here;go_wp2_with fail;refine jRc (v:=.agg #[.int .i64 10,.int .i64 0,.int .i64 1,.bool false,.string es,.string es,.slice (some ⟨w2.heap.size+1+1,0,none⟩) 1 1]) (by simp[results,Tryz.results130,go_sem, *];rfl) rfl ⟨_,rfl,?_,fm.below (((acf.alloc m9 _).alloc (by simp;omega) _).alloc (by simp;omega) _) m9⟩;have g2:=fm.cR (ak (((w2.alloc _).alloc _)) _) (by simp only[jQ3];omega);have g1:=fm.cR (aq (ak ((w2.alloc _)) _)) (by simp;omega);simp only[jQ3]at g1 g2;obtain⟨p0,p1,p2,p3,p4,p5,p6⟩:=ao g1;obtain⟨q0,q1,q2,q3,q4,q5,q6⟩:=ao g2;refine ki.2 ⟨_,rfl,gQ.2 ⟨_,_,_,rfl,i6,i6,.inr ⟨m9,by rw[fm.size];simp⟩,?_,by simp[RC]⟩⟩;refine pW.2 ⟨_,q0,q1,q2,q3,q4,q5,q6,gQ.2 ⟨_,_,_,rfl,i6,i6,.inr ⟨m9,by rw[fm.size];simp⟩,?_,by simp[RC]⟩⟩;exact pW.2 ⟨_,p0,p1,p2,p3,p4,p5,p6,ia.2 ⟨_,_,rfl,λ_=>rfl⟩⟩
  ·have hk15:(k1==15)=false:=by simp[ka]
   have Wd:GT.mk k1 n1 m1 va1 nm1 tg1 l1=r:=by simpa[dA,ka]using hu
   subst Wd;go_wp2_with (refine fN rfl _ _ rfl (W.heap.size+1) rfl rfl LQ.1 rfl ?_);intro w3 fm;obtain⟨e0,e1,e2,e3,e4,e5,e6⟩:=ao fm.here;go_wp2_with fail;refine jRc (v:=.agg #[.int .i64 k1,.int .i64 n1,.int .i64 m1,.bool va1,.string nm1,.string tg1,.slice a1 l1.length q1]) (by simp[results,Tryz.results130,go_sem, *]) rfl ⟨_,rfl,?_,fm.below acf m9⟩;exact nT.move ((fm.aJ (D:=Up D (W.heap.size+1+1) w2.heap.size) (by intro h;obtain h|h:=h;exact absurd (hD _ h) m9;omega)).wide (Up.mono m9 (by rw[fm.size];exact jQ0 _)))
def ef(W:World)(r:Bool)(e:Ending)(W':World):Prop:=e=.returned (.bool r)/\Below W.heap.size W W'
theorem dh(w:List ah)(ws:Value)(t:GT)(r:Bool)(v:Value)(W:World)(D:Nat->Prop)(hu:isIface w t=some r)(hD:Lo D W.heap.size)(hw:RD D W w ws)(hv:RT D W t v):
 Calls prog 132 #[ws,v] W (ef W r):=by
 obtain⟨u,hu,hr⟩:=jQ6.1 hu;obtain⟨k,n,m,va,nm,tg,l⟩:=t;obtain⟨sl,rfl,hs⟩:=ki.1 hv;obtain⟨a,c,rfl⟩:=hs.form;obtain⟨wa,wc,rfl⟩:=hw.form;have hA:=(jQ5 W.heap.size W).alloc (jQ0 _) (.cells #[.int .i64 k,.int .i64 n,.int .i64 m,.bool va,.string nm,.string tg,.slice a l.length c] 25);have ag:=dG w _ _ u _ _ D hu (hD.mono i6) (hw.move (hD.aJ hA) hA.size hA.block) (hv.move (hD.aJ hA));have HR:=Z hr;have HA:=Z hA;clear hr hv hw hu hs hA;go_enter func132,ntmps132;go_wp2_with fail;refine ag.mono ?_;rintro e w1 ⟨v1,rfl,fP,ar⟩;obtain⟨k1,n1,m1,va1,nm1,tg1,l1⟩:=u;obtain⟨sl1,rfl,cz⟩:=ki.1 fP;obtain⟨a1,q1,rfl⟩:=cz.form;have HB:=Z (HA.1.trans (ar.mono i6));clear ar ag fP cz;have hR:=HR.1;simp only[GT.kind]at hR;by_cases bH:k1=10
 ·subst bH;have h:true=r:=by simpa using hR
  subst h;clear hR;exact M33
 ·have hk:(k1==10)=false:=by simp[bH]
  by_cases ir:k1=16
  ·subst ir;have h:true=r:=by simpa using hR
   subst h;clear hR;exact M33
  ·have aiA:(k1==16)=false:=by simp[ir]
   have h:false=r:=by simpa[hk,aiA]using hR
   subst h;clear hR;exact M33
theorem gB{a b:ByteArray}(h:a=b):(a.toList==b.toList)=true:=by subst h;simp
theorem jX{a b:ByteArray}(h:¬a=b):(a.toList==b.toList)=false:=by
 simp only[jRk,beq_eq_false_iff_ne,ne_eq];intro e;apply h;cases a;cases b;simp only[ByteArray.mk.injEq];exact Array.toList_inj.1 e
theorem RT.bR(h:RT D W t v):
 ∃a c,v=.agg #[.int .i64 t.kind,.int .i64 t.n,.int .i64 t.m,.bool t.va,.string t.name,.string t.tag,.slice a t.elems.length c]/\RS D W t.elems (.slice a t.elems.length c):=by
 obtain⟨k,n,m,va,nm,tg,l⟩:=t;obtain⟨sl,rfl,hs⟩:=ki.1 h;obtain⟨a,c,rfl⟩:=hs.form;exact⟨a,c,rfl,hs⟩
theorem RT.mk'(hs:RS D W t.elems sl):
 RT D W t (.agg #[.int .i64 t.kind,.int .i64 t.n,.int .i64 t.m,.bool t.va,.string t.name,.string t.tag,sl]):=by
 obtain⟨k,n,m,va,nm,tg,l⟩:=t;exact ki.2 ⟨sl,rfl,hs⟩
theorem RE.bR{o:Nat}(h:RE D W t b o):
 ∃a c,W.cell? ⟨b,o,none⟩=some (.int .i64 t.kind)/\W.cell? ⟨b,o+1,none⟩=some (.int .i64 t.n)/\W.cell? ⟨b,o+2,none⟩=some (.int .i64 t.m)/\W.cell? ⟨b,o+3,none⟩=some (.bool t.va)/\
 W.cell? ⟨b,o+4,none⟩=some (.string t.name)/\W.cell? ⟨b,o+5,none⟩=some (.string t.tag)/\W.cell? ⟨b,o+6,none⟩=some (.slice a t.elems.length c)/\
 RT D W t (.agg #[.int .i64 t.kind,.int .i64 t.n,.int .i64 t.m,.bool t.va,.string t.name,.string t.tag,.slice a t.elems.length c]):=by
 obtain⟨k,n,m,va,nm,tg,l⟩:=t;obtain⟨sl,c0,c1,c2,c3,c4,c5,c6,hs⟩:=pW.1 h;obtain⟨a,c,rfl⟩:=hs.form;exact⟨a,c,c0,c1,c2,c3,c4,c5,c6,ki.2 ⟨_,rfl,hs⟩⟩
theorem RE.mk'{ty:TypeId}(hs:RS D W t.elems sl)(h:W.heap[b]?=some (.cells #[.int .i64 t.kind,.int .i64 t.n,.int .i64 t.m,.bool t.va,.string t.name,.string t.tag,sl] ty f)):RE D W t b 0:=by
 obtain⟨k,n,m,va,nm,tg,l⟩:=t;obtain⟨c0,c1,c2,c3,c4,c5,c6⟩:=ao h;exact pW.2 ⟨sl,c0,c1,c2,c3,c4,c5,c6,hs⟩
structure Cx(D:Nat->Prop)(w:List ah)(ws:Value)(W:World):Prop where
 lo:Lo D W.heap.size
 rd:RD D W w ws
theorem Cx.mv(h:Cx D w ws W)(hb:Below W.heap.size W A):Cx D w ws A:=
 ⟨h.lo.mono hb.size,h.rd.move (h.lo.aJ hb) hb.size hb.block⟩
theorem RT.mv(h:RT D W t v)(hD:Lo D W.heap.size)(hb:Below W.heap.size W A):RT D A t v:=h.move (hD.aJ hb)
theorem RS.mv{l:List GT}(h:RS D W l v)(hD:Lo D W.heap.size)(hb:Below W.heap.size W A):RS D A l v:=h.move (hD.aJ hb)
abbrev bx(t:GT)(a:Option Addr)(c:Nat):Obj:=.cells #[.int .i64 t.kind,.int .i64 t.n,.int .i64 t.m,.bool t.va,.string t.name,.string t.tag,.slice a t.elems.length c] 25
theorem an(W:World)(o:Obj):Below W.heap.size W (W.alloc o):=(jQ5 _ _).alloc (jQ0 _) o
theorem dT(W:World)(o p:Obj):Below W.heap.size W ((W.alloc o).alloc p):=(an W o).alloc i6 p
theorem pE(W:World)(o p q:Obj):Below W.heap.size W (((W.alloc o).alloc p).alloc q):=(dT W o p).alloc (by simp;omega) q
theorem Cx.up(h:Cx D w ws W){n:Nat}(hD:Lo D n)(hn:n<=W.heap.size):Cx (Up D n W.heap.size) w ws W:=
 ⟨Up.lo hD hn,h.rd.wide Up.of⟩
theorem RS.drop{l:List GT}{a:Option Addr}{n c:Nat}(h:RS D W l (.slice a n c))(hm:m<=l.length):
 ∃a',RS D W (l.drop m) (.slice a' (n - m) (c - m))/\(m<l.length->∀b o,a=some ⟨b,o,none⟩->a'=some ⟨b,o+m*7,none⟩):=by
 rcases aN.1 h with⟨rfl,a1,c1,e,h1⟩|⟨bk,b,o,c1,e,h1,h2,h3,h4⟩
 ·simp at e;obtain⟨rfl,rfl,rfl⟩:=e;have:m=0:=by simpa using hm
  subst this;exact⟨a,aN.2 (.inl ⟨i6,a,c,i6,h1⟩),λaM=>absurd aM i6⟩
 ·simp at e;obtain⟨rfl,rfl,rfl⟩:=e;by_cases aM:m<l.length
  ·refine⟨some ⟨b,o+m*7,none⟩,aN.2 (.inr ⟨?_,b,o+m*7,c - m,i6,?_,m9,h3,h4.drop m⟩),λ_ b' o' e=>?_⟩
   ·intro e;have:=congrArg List.length e;simp at this;omega
   ·simp;omega
   ·simp at e;obtain⟨rfl,rfl⟩:=e;rfl
  ·have:m=l.length:=m9
   subst this;refine⟨some ⟨b,o,none⟩,aN.2 (.inl ⟨i6,some ⟨b,o,none⟩,c - l.length,i6,λe=>by cases e⟩),λaM=>absurd aM i6⟩
def jE(D:Nat->Prop)(W:World):Prop:=D 5/\∀c:Nat,65<=c->c<=90->W.cell? ⟨5,c,none⟩=some (.int .u8 160)
theorem jE.move(h:jE D W)(hm:au D D' W W'):jE D' W':=
 ⟨(hm _ h.1).1,λc h1 h2=>(jQi (w:=W) (hm _ h.1).2).trans (h.2 c h1 h2)⟩
abbrev Sg:=Nat->Option GT
variable{S S':Sg}
def tid(k:Int):TypeId:=
 if k=1 then 87 else if k=2 then 125 else if k=3 then 127 else if k=4 then 129 else if k=5 then 161 else if k=6 then 131
 else if k=7 then 90 else if k=8 then 133 else if k=9 then 135 else if k=10\/k=14\/k=17 then 33 else if k=12\/k=13 then 189 else 53
abbrev ptr(b:Nat):Value:=.pointer (some ⟨b,0,none⟩)
def dq(S:Sg)(v:Value)(t:GT):Prop:=∃b,v=.iface (tid t.kind) (ptr b)/\S b=some (aG t)
def EH(S S':Sg):Prop:=∀b s,S b=some s->S' b=some s
theorem dq.mono(h:EH S S')(hv:dq S v t):dq S' v t:=by
 obtain⟨b,h1,h2⟩:=hv;exact⟨b,h1,h _ _ h2⟩
theorem GM(t:GT):tid (aG t).kind=tid t.kind:=by
 by_cases h:t.kind=14
 ·have:aG t=fD:=by unfold aG mC;rw[jQ7 h];rfl
  rw[this,h];rfl
 ·rw[aI h]
theorem dq.same(hv:dq S v t)(h:dX t t'):dq S v t':=by
 obtain⟨b,h1,h2⟩:=hv;exact⟨b,by rw[<-GM t',<-h,GM];exact h1,by rw[<-h];exact h2⟩
theorem dq.uniq(h:dq S v t)(h':dq S v t'):dX t t':=by
 obtain⟨b,rfl,h2⟩:=h;obtain⟨b',e,h4⟩:=h';simp at e;rw[e.2,h4]at h2;exact(jQw h2).symm
def All2{α β:Type}(R:α->β->Prop):List α->List β->Prop
 |[],[]=>True
 |a::l,b::m=>R a b/\All2 R l m
 |_,_=>False
theorem All2.len{R:α->β->Prop}:∀{l:List α} {m:List β},All2 R l m->l.length=m.length
 |[],[],_=>rfl
 |_::l,_::m,h=>by simp[All2.len (l:=l) (m:=m) h.2]
 |[],_::_,h=>h.elim
 |_::_,[],h=>h.elim
theorem All2.imp{R R':α->β->Prop}(h:∀a b,R a b->R' a b):∀{l:List α} {m:List β},All2 R l m->All2 R' l m
 |[],[],_=>trivial
 |_::l,_::m,hr=>⟨h _ _ hr.1,All2.imp h (l:=l) (m:=m) hr.2⟩
 |[],_::_,h=>h.elim
 |_::_,[],h=>h.elim
theorem All2.at{α β:Type}{R:α->β->Prop}:∀{l:List α} {m:List β},All2 R l m->∀{i:Nat} {a:α},l[i]?=some a->∃b,m[i]?=some b/\R a b
 |[],_,_,i,a,h=>by simp at h
 |x::l,[],h,_,_,_=>h.elim
 |x::l,y::m,h,0,a,ha=>by simp at ha;subst ha;exact⟨y,rfl,h.1⟩
 |x::l,y::m,h,i+1,a,ha=>All2.at (l:=l) (m:=m) h.2 (by simpa using ha)
theorem All2.snoc{R:α->β->Prop}{a:α}{b:β}(hr:R a b):∀{l:List α} {m:List β},All2 R l m->All2 R (l++[a]) (m++[b])
 |[],[],_=>⟨hr,trivial⟩
 |_::l,_::m,h=>⟨h.1,All2.snoc hr (l:=l) (m:=m) h.2⟩
 |[],_::_,h=>h.elim
 |_::_,[],h=>h.elim
def eE(D:Nat->Prop)(W:World)(xs:List Value)(sl:Value):Prop:=
 (xs=[]/\∃a c,sl=.slice a 0 c/\(a=none->c=0))\/(xs≠[]/\∃b o c,sl=.slice (some ⟨b,o,none⟩) xs.length c/\xs.length<=c/\c<=9223372036854775807/\D b/\∀j u,xs[j]?=some u->W.cell? ⟨b,o+j,none⟩=some u)
theorem eE.move(h:au D D' W W')(hr:eE D W xs sl):eE D' W' xs sl:=by
 obtain hr|⟨h1,b,o,c,h2,h3,h4,h5,h6⟩:=hr
 ·exact .inl hr
 ·exact .inr ⟨h1,b,o,c,h2,h3,h4,(h b h5).1,λj u hu=>(jQi (w:=W) (h b h5).2).trans (h6 j u hu)⟩
theorem eE.form(hr:eE D W xs sl):∃a c,sl=.slice a xs.length c:=by
 rcases hr with⟨rfl,a,c,rfl,_⟩|⟨h1,b,o,c,rfl,_⟩
 ·exact⟨a,c,rfl⟩
 ·exact⟨_,c,rfl⟩
def nE(S:Sg)(D:Nat->Prop)(W:World)(nm:ByteArray)(t:GT)(p:Value):Prop:=
 ∃b pos pk v k,p=ptr b/\D b/\W.heap[b]?=some (.cells #[.int .i64 pos,.pointer pk,.string nm,v,.int .u8 k,.bool false] 167 (0,0))/\dq S v t
def IU(D:Nat->Prop)(W:World)(pk:Option Addr):Prop:=pk=none\/∃b p n,pk=some ⟨b,0,none⟩/\D b/\W.heap[b]?=some (.cells #[.string p,.string n] 83 (0,0))
theorem IU.move(h:au D D' W W')(hv:IU D W pk):IU D' W' pk:=
 hv.imp id λ⟨b,p,n,h1,h2,h3⟩=>⟨b,p,n,h1,(h b h2).1,(h b h2).2.trans h3⟩
def ObV(D:Nat->Prop)(W:World)(ob:Nat):Prop:=D ob/\∃pos pk nm tv,W.heap[ob]?=some (.cells #[.int .i64 pos,.pointer pk,.string nm,tv] 117 (0,0))/\IU D W pk
theorem ObV.move(h:au D D' W W')(hv:ObV D W ob):ObV D' W' ob:=by
 obtain⟨h1,pos,pk,nm,tv,h2,h3⟩:=hv;exact⟨(h ob h1).1,pos,pk,nm,tv,(h ob h1).2.trans h2,h3.move h⟩
def sK(S:Sg)(D:Nat->Prop)(W:World)(nm:ByteArray)(t:GT)(p:Value):Prop:=
 ∃b pos pk v,p=ptr b/\D b/\W.heap[b]?=some (.cells #[.int .i64 pos,.pointer pk,.string nm,v,.bool false,.bool false] 178 (0,0))/\dq S v t/\IU D W pk
def sk(S:Sg)(D:Nat->Prop)(W:World)(l:List GT)(p:Value):Prop:=
 (l=[]/\p=.pointer none)\/(l≠[]/\∃b sl ps,p=ptr b/\D b/\W.heap[b]?=some (.cells #[sl] 176 (0,0))/\eE D W ps sl/\All2 (λe p=>∃nm,nE S D W nm e p) l ps)
def vG(S:Sg)(D:Nat->Prop)(W:World)(x:GT)(p:Value):Prop:=
 ∃b v,p=ptr b/\D b/\W.heap[b]?=some (.cells #[.bool (x.kind==13),v] 234 (0,0))/\dq S v (ep x)
def iJ(S:Sg)(D:Nat->Prop)(W:World)(b:Nat)(s:GT)(ts:Value):Prop:=
 ∃ms es ps vs,W.heap[b]?=some (.cells #[.pointer none,ms,es,.pointer none,.bool false,.bool true,ts] 102 (0,0))/\eE D W ps ms/\eE D W vs es/\
  All2 (λm p=>sK S D W m.name m p) (own s) ps/\All2 (λe v=>dq S v e) (bN s) vs
def mZ(S:Sg)(D:Nat->Prop)(W:World)(b:Nat)(s:GT):Prop:=
 (s.kind=1->∃info nm,W.heap[b]?=some (.cells #[.int .i64 (s.n+1),.int .i64 info,.string nm] 159 (0,0)))/\
 (s.kind=2->∃ob og fr ac,W.heap[b]?=some (.cells #[ob,og,fr,ac] 248 (0,0))/\dq S ac (una s)/\∃e,s.elems=[e]/\dq S fr e)/\
 (s.kind=3->∃v e,s.elems=[e]/\W.heap[b]?=some (.cells #[.int .i64 s.n,v] 169 (0,0))/\dq S v e)/\
 (s.kind=4->∃v e,s.elems=[e]/\W.heap[b]?=some (.cells #[v] 200 (0,0))/\dq S v e)/\
 (s.kind=5->∃fs tg ps,W.heap[b]?=some (.cells #[fs,tg] 165 (0,0))/\eE D W ps fs/\eE D W (s.elems.map λe=>.string e.tag) tg/\All2 (λe p=>nE S D W e.name e p) s.elems ps)/\
 (s.kind=6->∃v e,s.elems=[e]/\W.heap[b]?=some (.cells #[v] 145 (0,0))/\dq S v e)/\
 (s.kind=7->∃rc pa re,W.heap[b]?=some (.cells #[rc,.pointer none,pa,re,.bool s.va] 94 (0,0))/\sk S D W (own s) pa/\sk S D W (bN s) re)/\
 (s.kind=8->∃v u x y,s.elems=[x,y]/\W.heap[b]?=some (.cells #[v,u] 202 (0,0))/\dq S v x/\dq S u y)/\
 (s.kind=9->∃v e,s.elems=[e]/\W.heap[b]?=some (.cells #[.int .i64 s.n,v] 204 (0,0))/\dq S v e)/\
 (s.kind=10\/s.kind=17->∃ts,iJ S D W b s ts)/\
 (s.kind=12\/s.kind=13->∃sl ps,W.heap[b]?=some (.cells #[sl] 233 (0,0))/\eE D W ps sl/\ps≠[]/\All2 (vG S D W) (if s.kind=12 then s.elems else[s]) ps)
theorem nE.move(hS:EH S S')(h:au D D' W W')(hv:nE S D W nm t p):nE S' D' W' nm t p:=by
 obtain⟨b,pos,pk,v,k,h1,h2,h3,h4⟩:=hv;exact⟨b,pos,pk,v,k,h1,(h b h2).1,(h b h2).2.trans h3,h4.mono hS⟩
theorem sK.move(hS:EH S S')(h:au D D' W W')(hv:sK S D W nm t p):sK S' D' W' nm t p:=by
 obtain⟨b,pos,pk,v,h1,h2,h3,h4,h5⟩:=hv;exact⟨b,pos,pk,v,h1,(h b h2).1,(h b h2).2.trans h3,h4.mono hS,h5.move h⟩
theorem sk.move(hS:EH S S')(h:au D D' W W'){l:List GT}(hv:sk S D W l p):sk S' D' W' l p:=by
 obtain hv|⟨h0,b,sl,ps,h1,h2,h3,h4,h5⟩:=hv
 ·exact .inl hv
 ·exact .inr ⟨h0,b,sl,ps,h1,(h b h2).1,(h b h2).2.trans h3,h4.move h,h5.imp λe p hp=>by obtain⟨nm,hp⟩:=hp;exact⟨nm,hp.move hS h⟩⟩
theorem vG.move(hS:EH S S')(h:au D D' W W'){x:GT}(hv:vG S D W x p):vG S' D' W' x p:=by
 obtain⟨b,v,h1,h2,h3,h4⟩:=hv;exact⟨b,v,h1,(h b h2).1,(h b h2).2.trans h3,h4.mono hS⟩
def DE(W W':World)(b:Nat)(ts sh:Value):Prop:=
 ∃c0 c1 c2 c3 c4 c5,W.heap[b]?=some (.cells #[c0,c1,c2,c3,c4,c5,ts] 102 (0,0))/\W'.heap[b]?=some (.cells #[c0,c1,c2,c3,c4,c5,sh] 102 (0,0))
theorem iJ.move(hS:EH S S')(h:au D D' W W')(hb:W'.heap[b]?=W.heap[b]?)(hv:iJ S D W b s ts):iJ S' D' W' b s ts:=by
 obtain⟨ms,es,ps,vs,h1,h2,h3,h4,h5⟩:=hv;exact⟨ms,es,ps,vs,hb.trans h1,h2.move h,h3.move h,h4.imp λm p hp=>hp.move hS h,h5.imp λe v hv=>hv.mono hS⟩
theorem iJ.but(hS:EH S S')(h:au D D' W W')(hb:DE W W' b ts sh)(hv:iJ S D W b s ts):iJ S' D' W' b s sh:=by
 obtain⟨ms,es,ps,vs,h1,h2,h3,h4,h5⟩:=hv;obtain⟨c0,c1,c2,c3,c4,c5,g1,g2⟩:=hb;rw[h1]at g1;simp at g1;obtain⟨rfl,rfl,rfl,rfl,rfl,rfl⟩:=g1;exact⟨ms,es,ps,vs,g2,h2.move h,h3.move h,h4.imp λm p hp=>hp.move hS h,h5.imp λe v hv=>hv.mono hS⟩
theorem mZ.move(hS:EH S S')(h:au D D' W W')(hb:W'.heap[b]?=W.heap[b]?\/(isIf s=true/\∃ts sh,DE W W' b ts sh))(hv:mZ S D W b s):mZ S' D' W' b s:=by
 obtain⟨n1,n2,n3,n4,n5,n6,n7,n8,n9,n10,n12⟩:=hv;obtain hb|⟨hi,ts,sh,hb⟩:=hb
 ·refine⟨λk=>?_,λk=>?_,λk=>?_,λk=>?_,λk=>?_,λk=>?_,λk=>?_,λk=>?_,λk=>?_,λk=>?_,λk=>?_⟩
  ·obtain⟨i,nm,g⟩:=n1 k;exact⟨i,nm,hb.trans g⟩
  ·obtain⟨ob,og,fr,ac,g1,g2,e,g3,g4⟩:=n2 k;exact⟨ob,og,fr,ac,hb.trans g1,g2.mono hS,e,g3,g4.mono hS⟩
  ·obtain⟨v,e,g1,g2,g3⟩:=n3 k;exact⟨v,e,g1,hb.trans g2,g3.mono hS⟩
  ·obtain⟨v,e,g1,g2,g3⟩:=n4 k;exact⟨v,e,g1,hb.trans g2,g3.mono hS⟩
  ·obtain⟨fs,tg,ps,g1,g2,g3,g4⟩:=n5 k;exact⟨fs,tg,ps,hb.trans g1,g2.move h,g3.move h,g4.imp λe p hp=>hp.move hS h⟩
  ·obtain⟨v,e,g1,g2,g3⟩:=n6 k;exact⟨v,e,g1,hb.trans g2,g3.mono hS⟩
  ·obtain⟨rc,pa,re,g1,g2,g3⟩:=n7 k;exact⟨rc,pa,re,hb.trans g1,g2.move hS h,g3.move hS h⟩
  ·obtain⟨v,u,x,y,g1,g2,g3,g4⟩:=n8 k;exact⟨v,u,x,y,g1,hb.trans g2,g3.mono hS,g4.mono hS⟩
  ·obtain⟨v,e,g1,g2,g3⟩:=n9 k;exact⟨v,e,g1,hb.trans g2,g3.mono hS⟩
  ·obtain⟨ts,g⟩:=n10 k;exact⟨ts,g.move hS h hb⟩
  ·obtain⟨sl,ps,g1,g2,g3,g4⟩:=n12 k;exact⟨sl,ps,hb.trans g1,g2.move h,g3,g4.imp λe p hp=>hp.move hS h⟩
 ·have hk:s.kind=10\/s.kind=17:=by simpa[isIf]using hi
  refine⟨m9,m9,m9,m9,m9,m9,m9,m9,m9,λk=>?_,m9⟩;obtain⟨ts2,g⟩:=n10 k;obtain⟨ms,es,ps,vs,h1,h2⟩:=id g;have cX:=hb;obtain⟨c0,c1,c2,c3,c4,c5,g1,g2⟩:=cX;rw[h1]at g1;simp at g1;obtain⟨-, -, -, -, -, -,rfl⟩:=g1;exact⟨sh,g.but hS h hb⟩
def mr(S:Sg)(D:Nat->Prop)(W:World)(m:aH)(p:Value):Prop:=
 ∃b pos pk sb rb pos' F0 nm k rt,p=ptr b/\D b/\W.heap[b]?=some (.cells #[.int .i64 pos,.pointer pk,.string m.name,.iface 90 (ptr sb),.bool false,.bool false] 178 (0,0))/\S sb=some (aG m.sig)/\
  W.cell? ⟨sb,0,none⟩=some (ptr rb)/\D rb/\W.heap[rb]?=some (.cells #[.int .i64 pos',.pointer F0,.string nm,.iface (if m.ptr then 131 else 53) (ptr rt),.int .u8 k,.bool false] 167 (0,0))/\(m.ptr=true->∃tt,S rt=some tt/\tt.kind=6)
def fe(w:List ah)(S:Sg)(D:Nat->Prop)(W:World)(b ob:Nat)(s:GT):Prop:=
 ∃ut ms ps,W.heap[b]?=some (.cells #[.pointer none,ptr ob,.bool false,.int .i32 0,.int .u32 0,.int .u32 15,ut,ut,.bool false,ms] 113 (0,0))/\dq S ut (oZ w s)/\eE D W ps ms/\
  All2 (mr S D W) (if s.kind=11 then((w[s.n.toNat]?).map (·.meths)).getD []else[]) ps/\ObV D W ob
def cI(s:GT):Prop:=s.kind=11\/s.kind=15\/s.kind=16
structure GH(w:List ah)(S:Sg)(D:Nat->Prop)(obj:Nat->Nat)(W:World):Prop where
 node:∀b s,S b=some s->mZ S D W b s
 named:∀b s,S b=some s->cI s->fe w S D W b (obj b) s
 lI:∀b s,S b=some s->b<W.heap.size
 mT:Lo D W.heap.size
 rS:∀b s,S b=some s->¬D b
 we:∀b b' s,S b=some s->S b'=some s->cI s->b=b'
 Gk:∀b b' s s',S b=some s->S b'=some s'->cI s->cI s'->obj b=obj b'->b=b'
 LR:∀b,D b->∃cs t f,W.heap[b]?=some (.cells cs t f)
 A9:∀b s,S b=some s->∃cs t,W.heap[b]?=some (.cells cs t (0,0))
 td:jE D W
theorem mr.move(hS:EH S S')(h:au D D' W W')(hs:∀b s,S b=some s->s.kind=7->W'.heap[b]?=W.heap[b]?){m:aH}(hm:m.sig.kind=7)(hv:mr S D W m p):mr S' D' W' m p:=by
 obtain⟨b,pos,pk,sb,rb,pos',F0,nm,k,rt,h1,h2,h3,h4,h5,h6,h7⟩:=hv;exact⟨b,pos,pk,sb,rb,pos',F0,nm,k,rt,h1,(h b h2).1,(h b h2).2.trans h3,hS _ _ h4,(jQi (w:=W) (hs sb _ h4 (by rw[aI m9];exact hm))).trans h5,(h rb h6).1,(h rb h6).2.trans h7.1,λhp=>by obtain⟨tt,g1,g2⟩:=h7.2 hp;exact⟨tt,hS _ _ g1,g2⟩⟩
theorem GH.cR(h:GH w S D obj W)(dJ:∀(n:Nat) (d:ah),w[n]?=some d->∀m∈d.meths,m.sig.kind=7)(hz:W.heap.size<=W'.heap.size)(hS:∀b s,S b=some s->W'.heap[b]?=W.heap[b]?)(hD:∀b,D b->W'.heap[b]?=W.heap[b]?):GH w S D obj W':=by
 have hm:au D D W W':=λb hb=>⟨hb,hD b hb⟩;refine⟨λb s hs=>(h.node b s hs).move (λ_ _ h=>h) hm (.inl (hS b s hs)),λb s hs hn=>?_,λb s hs=>jQb (h.lI b s hs) hz,h.mT.mono hz,h.rS,h.we,h.Gk,λb hd=>by obtain⟨cs,t,f,hc⟩:=h.LR b hd;exact⟨cs,t,f,(hD b hd).trans hc⟩,λb s hs=>by obtain⟨cs,t,hc⟩:=h.A9 b s hs;exact⟨cs,t,(hS b s hs).trans hc⟩,h.td.move hm⟩;exact M30
theorem GH.below(h:GH w S D obj W)(dJ:∀(n:Nat) (d:ah),w[n]?=some d->∀m∈d.meths,m.sig.kind=7)(hb:Below W.heap.size W W'):GH w S D obj W':=
 h.cR dJ hb.size (λb s hs=>hb.block b (h.lI b s hs)) (λb hd=>hb.block b (h.mT b hd))
theorem YC(a:Addr)(x:Int)(w:World)(hc:w.cell? a=some (.int .u32 x)):(callFunc 193 #[.pointer (some a)]).run prog w=.ok (.value (.int .u32 x)) w:=
 run_call_load func193 g9 g9 g9 .u32 g9 hc
@[go_sem ↓] theorem aan(v:Value)(x:TypeId)(w:World):(Instr.typeAssert (.iface 87 v) x 87 true).run prog w=.ok (.tuple #[v,.bool true]) w:=g9
@[go_sem ↓] theorem aao(x:TypeId)(w:World):(Instr.typeAssert .nilIface x 87 true).run prog w=.ok (.tuple #[.pointer none,.bool false]) w:=g9
theorem aY(u:TypeId)(v:Value)(x:TypeId)(w:World)(h:u≠87):(Instr.typeAssert (.iface u v) x 87 true).run prog w=.ok (.tuple #[.pointer none,.bool false]) w:=by
 simp[Instr.typeAssert,jQj underlying87,h]
@[go_sem ↓] theorem aap(v:Value)(x:TypeId)(w:World):(Instr.typeAssert (.iface 125 v) x 125 true).run prog w=.ok (.tuple #[v,.bool true]) w:=g9
@[go_sem ↓] theorem aaq(x:TypeId)(w:World):(Instr.typeAssert .nilIface x 125 true).run prog w=.ok (.tuple #[.pointer none,.bool false]) w:=g9
theorem my(u:TypeId)(v:Value)(x:TypeId)(w:World)(h:u≠125):(Instr.typeAssert (.iface u v) x 125 true).run prog w=.ok (.tuple #[.pointer none,.bool false]) w:=by
 simp[Instr.typeAssert,jQj underlying125,h]
@[go_sem ↓] theorem aar(v:Value)(x:TypeId)(w:World):(Instr.typeAssert (.iface 127 v) x 127 true).run prog w=.ok (.tuple #[v,.bool true]) w:=g9
@[go_sem ↓] theorem aas(x:TypeId)(w:World):(Instr.typeAssert .nilIface x 127 true).run prog w=.ok (.tuple #[.pointer none,.bool false]) w:=g9
theorem cM(u:TypeId)(v:Value)(x:TypeId)(w:World)(h:u≠127):(Instr.typeAssert (.iface u v) x 127 true).run prog w=.ok (.tuple #[.pointer none,.bool false]) w:=by
 simp[Instr.typeAssert,jQj underlying127,h]
@[go_sem ↓] theorem aat(v:Value)(x:TypeId)(w:World):(Instr.typeAssert (.iface 129 v) x 129 true).run prog w=.ok (.tuple #[v,.bool true]) w:=g9
@[go_sem ↓] theorem aau(x:TypeId)(w:World):(Instr.typeAssert .nilIface x 129 true).run prog w=.ok (.tuple #[.pointer none,.bool false]) w:=g9
theorem gz(u:TypeId)(v:Value)(x:TypeId)(w:World)(h:u≠129):(Instr.typeAssert (.iface u v) x 129 true).run prog w=.ok (.tuple #[.pointer none,.bool false]) w:=by
 simp[Instr.typeAssert,jQj underlying129,h]
@[go_sem ↓] theorem YD(v:Value)(x:TypeId)(w:World):(Instr.typeAssert (.iface 161 v) x 161 true).run prog w=.ok (.tuple #[v,.bool true]) w:=g9
@[go_sem ↓] theorem YE(x:TypeId)(w:World):(Instr.typeAssert .nilIface x 161 true).run prog w=.ok (.tuple #[.pointer none,.bool false]) w:=g9
theorem bd(u:TypeId)(v:Value)(x:TypeId)(w:World)(h:u≠161):(Instr.typeAssert (.iface u v) x 161 true).run prog w=.ok (.tuple #[.pointer none,.bool false]) w:=by
 simp[Instr.typeAssert,jQj underlying161,h]
@[go_sem ↓] theorem Wy(v:Value)(x:TypeId)(w:World):(Instr.typeAssert (.iface 131 v) x 131 true).run prog w=.ok (.tuple #[v,.bool true]) w:=g9
@[go_sem ↓] theorem Wz(x:TypeId)(w:World):(Instr.typeAssert .nilIface x 131 true).run prog w=.ok (.tuple #[.pointer none,.bool false]) w:=g9
theorem aT(u:TypeId)(v:Value)(x:TypeId)(w:World)(h:u≠131):(Instr.typeAssert (.iface u v) x 131 true).run prog w=.ok (.tuple #[.pointer none,.bool false]) w:=by
 simp[Instr.typeAssert,jQj underlying131,h]
@[go_sem ↓] theorem Rp(v:Value)(x:TypeId)(w:World):(Instr.typeAssert (.iface 90 v) x 90 true).run prog w=.ok (.tuple #[v,.bool true]) w:=g9
@[go_sem ↓] theorem Rq(x:TypeId)(w:World):(Instr.typeAssert .nilIface x 90 true).run prog w=.ok (.tuple #[.pointer none,.bool false]) w:=g9
theorem im(u:TypeId)(v:Value)(x:TypeId)(w:World)(h:u≠90):(Instr.typeAssert (.iface u v) x 90 true).run prog w=.ok (.tuple #[.pointer none,.bool false]) w:=by
 simp[Instr.typeAssert,jQj underlying90,h]
@[go_sem ↓] theorem adh(v:Value)(x:TypeId)(w:World):(Instr.typeAssert (.iface 133 v) x 133 true).run prog w=.ok (.tuple #[v,.bool true]) w:=g9
@[go_sem ↓] theorem adi(x:TypeId)(w:World):(Instr.typeAssert .nilIface x 133 true).run prog w=.ok (.tuple #[.pointer none,.bool false]) w:=g9
theorem BO(u:TypeId)(v:Value)(x:TypeId)(w:World)(h:u≠133):(Instr.typeAssert (.iface u v) x 133 true).run prog w=.ok (.tuple #[.pointer none,.bool false]) w:=by
 simp[Instr.typeAssert,jQj underlying133,h]
@[go_sem ↓] theorem abO(v:Value)(x:TypeId)(w:World):(Instr.typeAssert (.iface 135 v) x 135 true).run prog w=.ok (.tuple #[v,.bool true]) w:=g9
@[go_sem ↓] theorem abP(x:TypeId)(w:World):(Instr.typeAssert .nilIface x 135 true).run prog w=.ok (.tuple #[.pointer none,.bool false]) w:=g9
theorem ed(u:TypeId)(v:Value)(x:TypeId)(w:World)(h:u≠135):(Instr.typeAssert (.iface u v) x 135 true).run prog w=.ok (.tuple #[.pointer none,.bool false]) w:=by
 simp[Instr.typeAssert,jQj underlying135,h]
@[go_sem ↓] theorem Rr(v:Value)(x:TypeId)(w:World):(Instr.typeAssert (.iface 33 v) x 33 true).run prog w=.ok (.tuple #[v,.bool true]) w:=g9
@[go_sem ↓] theorem Rs(x:TypeId)(w:World):(Instr.typeAssert .nilIface x 33 true).run prog w=.ok (.tuple #[.pointer none,.bool false]) w:=g9
theorem aP(u:TypeId)(v:Value)(x:TypeId)(w:World)(h:u≠33):(Instr.typeAssert (.iface u v) x 33 true).run prog w=.ok (.tuple #[.pointer none,.bool false]) w:=by
 simp[Instr.typeAssert,jQj underlying33,h]
@[go_sem ↓] theorem aav(v:Value)(x:TypeId)(w:World):(Instr.typeAssert (.iface 53 v) x 53 true).run prog w=.ok (.tuple #[v,.bool true]) w:=g9
@[go_sem ↓] theorem aaw(x:TypeId)(w:World):(Instr.typeAssert .nilIface x 53 true).run prog w=.ok (.tuple #[.pointer none,.bool false]) w:=g9
theorem uf(u:TypeId)(v:Value)(x:TypeId)(w:World)(h:u≠53):(Instr.typeAssert (.iface u v) x 53 true).run prog w=.ok (.tuple #[.pointer none,.bool false]) w:=by
 simp[Instr.typeAssert,jQj underlying53,h]
@[go_sem ↓] theorem aax(v:Value)(x:TypeId)(w:World):(Instr.typeAssert (.iface 189 v) x 189 true).run prog w=.ok (.tuple #[v,.bool true]) w:=g9
@[go_sem ↓] theorem aay(x:TypeId)(w:World):(Instr.typeAssert .nilIface x 189 true).run prog w=.ok (.tuple #[.pointer none,.bool false]) w:=g9
theorem mG(u:TypeId)(v:Value)(x:TypeId)(w:World)(h:u≠189):(Instr.typeAssert (.iface u v) x 189 true).run prog w=.ok (.tuple #[.pointer none,.bool false]) w:=by
 simp[Instr.typeAssert,jQj underlying189,h]
@[go_sem ↓] theorem aaz(v:Value)(x:TypeId)(w:World):(Instr.typeAssert (.iface 91 v) x 91 true).run prog w=.ok (.tuple #[v,.bool true]) w:=g9
@[go_sem ↓] theorem aaA(x:TypeId)(w:World):(Instr.typeAssert .nilIface x 91 true).run prog w=.ok (.tuple #[.pointer none,.bool false]) w:=g9
theorem mH(u:TypeId)(v:Value)(x:TypeId)(w:World)(h:u≠91):(Instr.typeAssert (.iface u v) x 91 true).run prog w=.ok (.tuple #[.pointer none,.bool false]) w:=by
 simp[Instr.typeAssert,jQj underlying91,h]
@[go_sem ↓] theorem Rt(v:Value)(x:TypeId)(w:World):(Instr.typeAssert (.iface 225 v) x 225 true).run prog w=.ok (.tuple #[v,.bool true]) w:=g9
@[go_sem ↓] theorem Ru(x:TypeId)(w:World):(Instr.typeAssert .nilIface x 225 true).run prog w=.ok (.tuple #[.pointer none,.bool false]) w:=g9
theorem mh(u:TypeId)(v:Value)(x:TypeId)(w:World)(h:u≠225):(Instr.typeAssert (.iface u v) x 225 true).run prog w=.ok (.tuple #[.pointer none,.bool false]) w:=by
 simp[Instr.typeAssert,jQj underlying225,h]
@[go_sem ↓] theorem aeR(u:TypeId)(v:Value)(w:World):(binOp .eql 37 (.iface u v) .nilIface).run prog w=.ok (.bool false) w:=g9
@[go_sem ↓] theorem aeS(u:TypeId)(v:Value)(w:World):(binOp .neq 37 (.iface u v) .nilIface).run prog w=.ok (.bool true) w:=g9
@[go_sem ↓] theorem adj(w:World):(binOp .eql 37 .nilIface .nilIface).run prog w=.ok (.bool true) w:=g9
@[go_sem ↓] theorem adk(w:World):(binOp .neq 37 .nilIface .nilIface).run prog w=.ok (.bool false) w:=g9
def dL(W:World)(v:Value)(e:Ending)(W':World):Prop:=e=.returned v/\W'=W
theorem zN{w:World}{v7 v8 v9:Value}{t:TypeId}(h:w.heap[B]?=some (.cells #[v0,v1,v2,v3,v4,v5,v6,v7,v8,v9] t f)):
 w.cell? ⟨B,0,none⟩=some v0/\w.cell? ⟨B,1,none⟩=some v1/\w.cell? ⟨B,2,none⟩=some v2/\w.cell? ⟨B,3,none⟩=some v3/\w.cell? ⟨B,4,none⟩=some v4/\w.cell? ⟨B,5,none⟩=some v5/\w.cell? ⟨B,6,none⟩=some v6/\w.cell? ⟨B,7,none⟩=some v7/\w.cell? ⟨B,8,none⟩=some v8/\w.cell? ⟨B,9,none⟩=some v9:=by
 simp[World.cell?,h]
theorem tZ(b:Nat)(W:World)(hc:W.cell? ⟨b,5,none⟩=some (.int .u32 15))(m:Int)(hm:m=3\/m=4\/m=8):
 Calls prog 153 #[ptr b,.int .u32 m] W (dL W (.bool true)):=by
 have hl:=YC ⟨b,5,none⟩ 15 W hc;obtain rfl|rfl|rfl:=hm
 all_goals
  go_enter func153,ntmps153;go_wp2_with fail;go_ret;exact⟨g9,rfl⟩
theorem PG(b:Nat)(v:Value)(W:World)(hc:W.cell? ⟨b,6,none⟩=some v):Calls prog 293 #[ptr b] W (dL W v):=by
 go_enter func293,ntmps293;exact M9
theorem vN(b:Nat)(W:World)(hc:W.cell? ⟨b,5,none⟩=some (.int .u32 15)):Calls prog 114 #[ptr b] W (dL W (ptr b)):=by
 go_enter_defers func114,ntmps114
 go_wp2_with fail;refine(tZ b W hc 3 m9).mono ?_;rintro e w' ⟨rfl,rfl⟩;go_wp2_with fail;exact⟨_,results_tmp rfl _ _ _,rfl,rfl⟩
theorem de(k:Int):(k=1/\tid k=87)\/(k=2/\tid k=125)\/(k=3/\tid k=127)\/(k=4/\tid k=129)\/(k=5/\tid k=161)\/(k=6/\tid k=131)\/(k=7/\tid k=90)\/
 (k=8/\tid k=133)\/(k=9/\tid k=135)\/((k=10\/k=14\/k=17)/\tid k=33)\/((k=12\/k=13)/\tid k=189)\/((k<1\/k=11\/k=15\/k=16\/k>17)/\tid k=53):=by
 unfold tid;by_cases h1:k=1;·exact .inl ⟨h1,by rw[jQ7 h1]⟩
 rw[jQ4 h1];refine .inr ?_;by_cases h2:k=2;·exact .inl ⟨h2,by rw[jQ7 h2]⟩
 rw[jQ4 h2];refine .inr ?_;by_cases h3:k=3;·exact .inl ⟨h3,by rw[jQ7 h3]⟩
 rw[jQ4 h3];refine .inr ?_;by_cases h4:k=4;·exact .inl ⟨h4,by rw[jQ7 h4]⟩
 rw[jQ4 h4];refine .inr ?_;by_cases h5:k=5;·exact .inl ⟨h5,by rw[jQ7 h5]⟩
 rw[jQ4 h5];refine .inr ?_;by_cases h6:k=6;·exact .inl ⟨h6,by rw[jQ7 h6]⟩
 rw[jQ4 h6];refine .inr ?_;by_cases h7:k=7;·exact .inl ⟨h7,by rw[jQ7 h7]⟩
 rw[jQ4 h7];refine .inr ?_;by_cases h8:k=8;·exact .inl ⟨h8,by rw[jQ7 h8]⟩
 rw[jQ4 h8];refine .inr ?_;by_cases h9:k=9;·exact .inl ⟨h9,by rw[jQ7 h9]⟩
 rw[jQ4 h9];refine .inr ?_;by_cases bH:k=10\/k=14\/k=17;·exact .inl ⟨bH,by rw[jQ7 bH]⟩
 rw[jQ4 bH];refine .inr ?_;by_cases cQ:k=12\/k=13;·exact .inl ⟨cQ,by rw[jQ7 cQ]⟩
 rw[jQ4 cQ];exact .inr ⟨m9,rfl⟩
theorem aW(dA:t.kind≠11)(mM:t.kind≠14)(ka:t.kind≠15)(ir:t.kind≠16):aG t=.mk t.kind t.n t.m t.va es es t.elems:=by
 unfold aG mC;rw[jQ4 mM];unfold jt;rw[jQ4 dA,jQ4 m9]
theorem zo(hg:GH w S D obj W)(hv:dq S v t)(hn:t.kind=1->0<=t.n):
 Calls prog 116 #[v] W (dL W (.bool false)):=by
 obtain⟨b,rfl,hs⟩:=hv;by_cases h1:t.kind=1
 ·have hk:(aG t).kind=1:=by rw[aI m9];exact h1
  obtain⟨info,nm,hb⟩:=(hg.node b _ hs).1 hk;have ht:tid t.kind=87:=by rw[h1];rfl
  have jF:(aG t).n=t.n:=by rw[aW m9 m9 m9 m9];rfl
  rw[ht];have c0:W.cell? ⟨b,0,none⟩=some (.int .i64 (t.n+1)):=by rw[<-jF];simp[World.cell?,hb]
  have Hv:((t.n+1)==0)=false:=by simp;have:=hn h1;omega
  generalize t.n+1=q at c0 Hv;clear hs hb hg hk ht jF h1 hn;go_enter func116,ntmps116;exact M9
 ·have ht:¬(tid t.kind=87):=(λh=>by rcases de t.kind with g|g|g|g|g|g|g|g|g|g|g|g<;>first|exact h1 g.1|(rw[g.2]at h;exact absurd h i5));have fp:=aY (tid t.kind) (ptr b) 37 W ht;generalize tid t.kind=T at ht fp;clear hs hg h1 hn;go_enter func116,ntmps116;exact M9
theorem dx{w:World}{t:TypeId}(h:w.heap[B]?=some (.cells #[v0,v1,v2,v3] t f)):
 w.cell? ⟨B,0,none⟩=some v0/\w.cell? ⟨B,1,none⟩=some v1/\w.cell? ⟨B,2,none⟩=some v2/\w.cell? ⟨B,3,none⟩=some v3:=by
 simp[World.cell?,h]
theorem sV(b:Nat)(T:TypeId)(x:Value)(W:World)(hc:W.cell? ⟨b,3,none⟩=some (.iface T x)):Calls prog 137 #[ptr b] W (dL W (.iface T x)):=by
 go_enter func137,ntmps137;exact M9
def Tz(S:Sg)(t:GT)(W:World)(e:Ending)(W':World):Prop:=∃v,e=.returned v/\dq S v t/\W'=W
theorem aS(hg:GH w S D obj W)(hv:dq S v t):
 Calls prog 100 #[v] W (Tz S (una t) W):=by
 obtain⟨b,rfl,hs⟩:=id hv;by_cases h2:t.kind=2
 ·have hk:(aG t).kind=2:=by rw[aI m9];exact h2
  obtain⟨ob,og,fr,ac,hb,hac, -⟩:=(hg.node b _ hs).2.1 hk;have hT:=hac.same (Jf (dX.una (oN t)));obtain⟨b2,rfl,eX⟩:=id hT;have ht:tid t.kind=125:=by rw[h2];rfl
  rw[ht];have ag:=sV b _ _ W (dx hb).2.2.2;have HT:=Z hT;clear hs hb hg hk ht hac eX h2 hv hT;go_enter func100,ntmps100;go_wp2_with fail;refine ag.mono ?_;rintro e w' ⟨rfl,rfl⟩;go_wp2_with fail;go_ret;exact⟨_,rfl,HT.1,rfl⟩
 ·have ht:¬(tid t.kind=125):=(λh=>by rcases de t.kind with g|g|g|g|g|g|g|g|g|g|g|g<;>first|exact h2 g.1|(rw[g.2]at h;exact absurd h i5));have fp:=my (tid t.kind) (ptr b) 37 W ht;have HT:=Z (show dq S (.iface (tid t.kind) (ptr b)) (una t)from hv.same (by
   unfold dX;obtain⟨k,n,m,va,nm,tg,l⟩:=t;by_cases mM:k=14
   ·subst mM;rw[hZ];rfl
   ·rw[hZ,jQ4 (show¬k=2 from h2),jQ4 mM]))
  generalize tid t.kind=T at ht fp HT;clear hs hg h2 hv;go_enter func100,ntmps100;go_wp2_with fail;go_ret;exact⟨_,rfl,HT.1,rfl⟩
theorem dy(hg:GH w S D obj W)(hv:dq S v t)(hn:(una t).kind=1->0<=(una t).n):
 Calls prog 70 #[v] W (dL W (.bool true)):=by
 have ag:=aS hg hv;go_enter func70,ntmps70;go_wp2_with fail;refine ag.mono ?_;rintro e w' ⟨v1,rfl,dr,rfl⟩;have ag:=zo hg dr hn;go_wp2_with fail;refine ag.mono ?_;rintro e w' ⟨rfl,rfl⟩;exact M9
@[go_sem ↓] theorem agt(b:Nat)(w:World):(callMethod (.iface 87 (ptr b)) "Underlying" #[]).run prog w=.ok (.enter 297 #[ptr b]) w:=g9
@[go_sem ↓] theorem agu(b:Nat)(w:World):(callMethod (.iface 127 (ptr b)) "Underlying" #[]).run prog w=.ok (.enter 303 #[ptr b]) w:=g9
@[go_sem ↓] theorem agv(b:Nat)(w:World):(callMethod (.iface 129 (ptr b)) "Underlying" #[]).run prog w=.ok (.enter 305 #[ptr b]) w:=g9
@[go_sem ↓] theorem aeu(b:Nat)(w:World):(callMethod (.iface 161 (ptr b)) "Underlying" #[]).run prog w=.ok (.enter 312 #[ptr b]) w:=g9
@[go_sem ↓] theorem adf(b:Nat)(w:World):(callMethod (.iface 131 (ptr b)) "Underlying" #[]).run prog w=.ok (.enter 307 #[ptr b]) w:=g9
@[go_sem ↓] theorem aae(b:Nat)(w:World):(callMethod (.iface 90 (ptr b)) "Underlying" #[]).run prog w=.ok (.enter 298 #[ptr b]) w:=g9
@[go_sem ↓] theorem aiH(b:Nat)(w:World):(callMethod (.iface 133 (ptr b)) "Underlying" #[]).run prog w=.ok (.enter 309 #[ptr b]) w:=g9
@[go_sem ↓] theorem ahk(b:Nat)(w:World):(callMethod (.iface 135 (ptr b)) "Underlying" #[]).run prog w=.ok (.enter 311 #[ptr b]) w:=g9
@[go_sem ↓] theorem aaf(b:Nat)(w:World):(callMethod (.iface 33 (ptr b)) "Underlying" #[]).run prog w=.ok (.enter 289 #[ptr b]) w:=g9
@[go_sem ↓] theorem agw(b:Nat)(w:World):(callMethod (.iface 189 (ptr b)) "Underlying" #[]).run prog w=.ok (.enter 314 #[ptr b]) w:=g9
@[go_sem ↓] theorem agx(b:Nat)(w:World):(callMethod (.iface 53 (ptr b)) "Underlying" #[]).run prog w=.ok (.enter 291 #[ptr b]) w:=g9
@[go_sem ↓] theorem agy(b:Nat)(w:World):(callMethod (.iface 125 (ptr b)) "Underlying" #[]).run prog w=.ok (.enter 301 #[ptr b]) w:=g9
theorem NP(b n:Nat)(w:World):(method (n+1) 87 (ptr b) "Underlying").run prog w=.ok (297,ptr b) w:=g9
theorem NQ(b n:Nat)(w:World):(method (n+1) 127 (ptr b) "Underlying").run prog w=.ok (303,ptr b) w:=g9
theorem zJ(b n:Nat)(w:World):(method (n+1) 129 (ptr b) "Underlying").run prog w=.ok (305,ptr b) w:=g9
theorem Je(b n:Nat)(w:World):(method (n+1) 161 (ptr b) "Underlying").run prog w=.ok (312,ptr b) w:=g9
theorem EG(b n:Nat)(w:World):(method (n+1) 131 (ptr b) "Underlying").run prog w=.ok (307,ptr b) w:=g9
theorem yC(b n:Nat)(w:World):(method (n+1) 90 (ptr b) "Underlying").run prog w=.ok (298,ptr b) w:=g9
theorem aad(b n:Nat)(w:World):(method (n+1) 133 (ptr b) "Underlying").run prog w=.ok (309,ptr b) w:=g9
theorem Tw(b n:Nat)(w:World):(method (n+1) 135 (ptr b) "Underlying").run prog w=.ok (311,ptr b) w:=g9
theorem yD(b n:Nat)(w:World):(method (n+1) 33 (ptr b) "Underlying").run prog w=.ok (289,ptr b) w:=g9
theorem NR(b n:Nat)(w:World):(method (n+1) 189 (ptr b) "Underlying").run prog w=.ok (314,ptr b) w:=g9
theorem Yb(b n:Nat)(w:World):(method (n+1) 53 (ptr b) "Underlying").run prog w=.ok (291,ptr b) w:=g9
theorem Yc(b n:Nat)(w:World):(method (n+1) 125 (ptr b) "Underlying").run prog w=.ok (301,ptr b) w:=g9
theorem qZ(b:Nat)(W:World):Calls prog 297 #[ptr b] W (dL W (.iface 87 (ptr b))):=by
 go_enter func297,ntmps297;exact M9
theorem rh(b:Nat)(W:World):Calls prog 303 #[ptr b] W (dL W (.iface 127 (ptr b))):=by
 go_enter func303,ntmps303;exact M9
theorem ic(b:Nat)(W:World):Calls prog 305 #[ptr b] W (dL W (.iface 129 (ptr b))):=by
 go_enter func305,ntmps305;exact M9
theorem p8(b:Nat)(W:World):Calls prog 312 #[ptr b] W (dL W (.iface 161 (ptr b))):=by
 go_enter func312,ntmps312;exact M9
theorem oP(b:Nat)(W:World):Calls prog 307 #[ptr b] W (dL W (.iface 131 (ptr b))):=by
 go_enter func307,ntmps307;exact M9
theorem mA(b:Nat)(W:World):Calls prog 298 #[ptr b] W (dL W (.iface 90 (ptr b))):=by
 go_enter func298,ntmps298;exact M9
theorem vM(b:Nat)(W:World):Calls prog 309 #[ptr b] W (dL W (.iface 133 (ptr b))):=by
 go_enter func309,ntmps309;exact M9
theorem sU(b:Nat)(W:World):Calls prog 311 #[ptr b] W (dL W (.iface 135 (ptr b))):=by
 go_enter func311,ntmps311;exact M9
theorem mB(b:Nat)(W:World):Calls prog 289 #[ptr b] W (dL W (.iface 33 (ptr b))):=by
 go_enter func289,ntmps289;exact M9
theorem rj(b:Nat)(W:World):Calls prog 314 #[ptr b] W (dL W (.iface 189 (ptr b))):=by
 go_enter func314,ntmps314;exact M9
theorem Bq(b:Nat)(T:TypeId)(x:Value)(W:World)(h5:W.cell? ⟨b,5,none⟩=some (.int .u32 15))(h6:W.cell? ⟨b,6,none⟩=some (.iface T x))(h7:W.cell? ⟨b,7,none⟩=some (.iface T x)):
 Calls prog 291 #[ptr b] W (dL W (.iface T x)):=by
 have c1:=vN b W h5;have c2:=PG b _ W h6;have c3:=tZ b W h5 8 m9;go_enter func291,ntmps291;go_wp2_with fail;refine c1.mono ?_;rintro e w' ⟨rfl,rfl⟩;go_wp2_with fail;refine c2.mono ?_;rintro e w' ⟨rfl,rfl⟩;go_wp2_with fail;refine c3.mono ?_;rintro e w' ⟨rfl,rfl⟩;exact M9
theorem Tx(w:List ah)(h:cI t)(hd:t.kind=11->∃d,w[t.n.toNat]?=some d):oZ w (aG t)=oZ w t:=by
 obtain⟨k,n,m,va,nm,tg,l⟩:=t;rcases h with h|h|h<;>(simp only[GT.kind]at h;subst h)
 ·have:aG (.mk 11 n m va nm tg l)=.mk 11 n 0 false es es []:=by unfold aG mC jt;simp[GT.kind,GT.n]
  rw[this];unfold oZ;simp only[GT.kind,GT.n,if_true];obtain⟨d,hd⟩:=hd rfl;simp only[GT.n]at hd;rw[hd];rfl
 ·exact M159
 ·exact M160
theorem Ty(h:PT NS Q w md t)(hk:t.kind=11):∃d,w[t.n.toNat]?=some d:=by
 obtain⟨k,n,m,va,nm,tg,l⟩:=t;simp only[GT.kind]at hk;subst hk;cases h with
 |named a1 a2 a3=>exact⟨w[n.toNat]' m9,by simp[GT.n]⟩
 |uni h=>omega
 |al h=>omega
 |one h=>omega
theorem ru(h2:t.kind≠2)(mM:t.kind≠14):una t=t:=by
 obtain⟨k,n,m,va,nm,tg,l⟩:=t;rw[hZ,jQ4 (show¬k=2 from h2),jQ4 (show¬k=14 from mM)]
theorem vO:∀t:GT,una (una t)=una t
 |.mk k n m v s tg []=>by
  rw[hZ];split
  ·rfl
  ·split
   ·rfl
   ·rename_i h1 h2;exact ru h1 h2
 |.mk k n m v s tg (e::l)=>by
  rw[hZ];split
  ·exact vO e
  ·split
   ·rfl
   ·rename_i h1 h2;exact ru h1 h2
theorem Yd(w:List ah)(t:GT):az w (una t)=az w t:=by unfold az;rw[vO]
def NO(w:List ah)(S:Sg)(W:World)(v:Value)(t:GT):Prop:=
 ∃T f b,v=.iface T (ptr b)/\((∀(n:Nat) (w':World),(method (n+1) T (ptr b) "Underlying").run prog w'=.ok (f,ptr b) w')/\∀(args:Array Value) (w':World),(callFunc f args).run prog w'=.ok (.enter f args) w')/\Calls prog f #[ptr b] W (Tz S (az w t) W)
def VT(NS:List ByteArray)(Q:GT->Prop)(w:List ah)(t:GT):Prop:=(∃md,PT NS Q w md t)\/t=da
theorem Bn(w:List ah)(h2:t.kind≠2)(dA:t.kind≠11)(ka:t.kind≠15)(ir:t.kind≠16):dX (az w t) t:=by
 by_cases mM:t.kind=14
 ·have h1:az w t=fD:=by
   rw[<-vP];unfold mC;rw[jQ7 mM];rfl
  rw[h1];unfold dX aG mC;rw[jQ7 mM];rfl
 ·have h1:az w t=t:=by unfold az oZ;rw[ru h2 mM,jQ4 dA,jQ4 ka,jQ4 ir]
  rw[h1];rfl
theorem yE(hg:GH w S D obj W)(hv:dq S v t)(ht:VT NS Q w t)(h2:t.kind≠2):NO w S W v t:=by
 obtain⟨b,rfl,hs⟩:=id hv;by_cases hn:cI t
 ·have mM:t.kind≠14:=by rcases hn with h|h|h<;>omega
  have hk:cI (aG t):=by unfold cI;rw[aI mM];exact hn
  obtain⟨ut,ms,ps,hb,hu, -⟩:=hg.named b _ hs hk;rw[Tx w hn (λdA=>by
   rcases ht with⟨md,h⟩|rfl
   ·exact Ty h dA
   ·simp[da,tk,GT.kind]at dA)]at hu
  have he:oZ w t=az w t:=by unfold az;rw[ru h2 mM]
  rw[he]at hu;obtain⟨b2,rfl,eX⟩:=id hu;obtain⟨c0,c1,c2,c3,c4,c5,c6,c7,c8,c9⟩:=zN hb;have hT:tid t.kind=53:=by rcases hn with h|h|h<;>rw[h]<;>rfl
  rw[hT];exact⟨_,_,b,rfl,⟨Yb b,Tryz.call291⟩,(Bq b _ _ W c5 c6 c7).mono λe w' h=>⟨_,h.1,hu,h.2⟩⟩
 ·have dA:t.kind≠11:=λh=>hn (.inl h);have ka:t.kind≠15:=λh=>hn (.inr (.inl h));have ir:t.kind≠16:=λh=>hn (.inr (.inr h));have hu:=hv.same (t':=az w t) (Bn w h2 dA ka ir).symm;have ahl:1<=t.kind/\t.kind<=17:=by
   rcases ht with⟨md,h⟩|rfl
   ·have:=gR h;omega
   ·exact⟨i5,i5⟩
  exact M20
theorem bj(hq:QP NS Q)(hg:GH w S D obj W)(hv:dq S v t)(ht:VT NS Q w t):NO w S W v t:=by
 by_cases h2:t.kind=2
 ·obtain⟨b,rfl,hs⟩:=id hv;have hk:(aG t).kind=2:=by rw[aI m9];exact h2
  obtain⟨ob,og,fr,ac,hb,hac, -⟩:=(hg.node b _ hs).2.1 hk;have hT:=hac.same (Jf (dX.una (oN t)));have qq:(una t).kind≠2/\VT NS Q w (una t):=by
   rcases ht with⟨md,h⟩|rfl
   ·exact⟨(cJ hq h).2.2.2.1,.inl ⟨md,(cJ hq h).1⟩⟩
   ·simp[da,tk,GT.kind]at h2
  obtain⟨T,f,b2,rfl,⟨hm,pC⟩,hc⟩:=yE hg hT qq.2 qq.1;have Ng:tid t.kind=125:=by rw[h2];rfl
  rw[Ng];refine⟨_,_,b,rfl,⟨Yc b,Tryz.call301⟩,?_⟩;have ag:=sV b _ _ W (dx hb).2.2.2;rw[Yd]at hc;have HC:=Z hc;clear hs hb hg hk ht hac h2 hv hT hc Ng qq;go_enter func301,ntmps301;go_wp2_with fail;refine ag.mono ?_;rintro e w' ⟨rfl,rfl⟩;go_wp2_with fail;refine HC.1.mono ?_;rintro e w' ⟨v',rfl,zw,rfl⟩;obtain⟨b3,rfl,eY⟩:=id zw;go_wp2_with fail;go_ret;exact⟨_,rfl,zw,rfl⟩
 ·exact yE hg hv ht h2
end Go.Proofs.YtabjfnkfocnklaaGreatDoor
