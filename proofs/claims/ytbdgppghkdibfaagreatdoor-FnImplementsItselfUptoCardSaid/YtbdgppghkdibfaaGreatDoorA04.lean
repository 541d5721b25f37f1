import Derived.Test.YtbdgppghkdibfaaGreatDoorProg
import Derived.Deep.LoopGhost
import Derived.Deep.RegionHeld3
import Derived.Laws.AppendOwn
import Derived.Lib.AtoiErrMem
import Derived.Lib.Hide
import Derived.OwnWalk
import Derived.Shelf.Abstract
import Derived.WalkKit
import Derived.WalkLawsBesides
import Derived.WalkSpells
import Derived.Test.YtbdgppghkdibfaaGreatDoorA03
set_option linter.all false
set_option maxHeartbeats 16000000
set_option maxRecDepth 20000
namespace Go.Proofs.YtbdgppghkdibfaaGreatDoor
open Go Go.RowKit S Go.Lib Tryz
variable{a' d:Act}{listed:Array Bool}{ops:Array Oper}{Ek NT args cs:Array Value}{r va:Bool}{nm tg:ByteArray}{Q:Exit->Act->World->Prop}{m:Int}{l':List Y}{rest:List Oper}{xs ys:List Value}{B b base fuel ln m' n' size sz:Nat}{f:Nat×Nat}{D D' E:Qx}{x:Obj}{oi oj ok ol:Oper}{P:Program}{GT:Prop}{md:Region.Mode}{e t t' ty:TypeId}{o0 o1 o2 o3 o4 o5 o6 sl u v v0 v1 v2 v3 v4 v5 v6 v7 ws y:Value}{A W W' W2 w O w1 w2:World}{S:World->Prop}
def g9(h:GT:=by kernel_rfl):GT:=h
def jQ2:type_of% @Go.lt_of_block:=@Go.lt_of_block
def jQ3:type_of% @Go.World.size_alloc:=@Go.World.size_alloc
def jQ5:type_of% @Go.RowKit.Below.refl:=@Go.RowKit.Below.refl
def jQ9:type_of% @Go.wp_region_held_drew:=@Go.wp_region_held_drew
def jQf:type_of% @List.drop_of_length_le:=@List.drop_of_length_le
def jQh:type_of% @Go.cell_of_one:=@Go.cell_of_one
def jQi:type_of% @Go.World.cell?_of_block:=@Go.World.cell?_of_block
def jQj:type_of% @Go.run_underlying:=@Go.run_underlying
def jQl:type_of% @Go.wpAnyH_done:=@Go.wpAnyH_done
def jQs:type_of% @Go.Lib.lt_of_cell:=@Go.Lib.lt_of_cell
def jQw:type_of% @Option.some.inj:=@Option.some.inj
def jQy:type_of% @List.setIfInBounds_toArray:=@List.setIfInBounds_toArray
def jQz:type_of% @Nat.le_of_eq:=@Nat.le_of_eq
def jR0:type_of% @List.drop_zero:=@List.drop_zero
def jR3:type_of% @List.getElem?_cons_zero:=@List.getElem?_cons_zero
def jR4:type_of% @List.getElem?_cons_succ:=@List.getElem?_cons_succ
def jR5:type_of% @List.take_succ_cons:=@List.take_succ_cons
def jR6:type_of% @List.take_of_length_le:=@List.take_of_length_le
def jR8:type_of% @Go.Result.andThen_ok:=@Go.Result.andThen_ok
def jR9:type_of% @Go.World.ownsRow_nil:=@Go.World.ownsRow_nil
def jRa:type_of% @List.getElem?_toArray:=@List.getElem?_toArray
def jRb:type_of% @Go.below_drewN:=@Go.below_drewN
def jRc:type_of% @Go.bodyPost_ret:=@Go.bodyPost_ret
def jRe:type_of% @List.set_cons_zero:=@List.set_cons_zero
def jRf:type_of% @List.set_cons_succ:=@List.set_cons_succ
def jRk:type_of% @Go.ByteArray.toList_eq:=@Go.ByteArray.toList_eq
def jRm:type_of% @List.take_add_one:=@List.take_add_one
def jRn:type_of% @Bool.true_and:=@Bool.true_and
def jRp:type_of% @Go.Sem.run_bind:=@Go.Sem.run_bind
def jRq:type_of% @Go.bodyPost_end:=@Go.bodyPost_end
def jRr:type_of% @Array.getElem?_toList:=@Array.getElem?_toList
def M106(h:GT:=by
 rw[he]at aM;simp at aM):GT:=h
def M107(h:GT:=by
 rintro x (rfl|H) cs t f hc
 .rw[hB]at hc;cases hc;decide
 .rcases sG with⟨h,_⟩|⟨mb,es,ck,h,hm,_⟩
  .rw[h]at H;cases H
  .rw[h]at H;cases H;rw[hm]at hc;cases hc):GT:=h
def M113(h:GT:=by
 exact .inl ⟨rfl,_,cap,rfl,λe=>by cases e⟩):GT:=h
def M12(h:GT:=by
 go_wp2;go_ret;exact⟨rfl,rfl⟩):GT:=h
def M125(h:GT:=by
 have I:d'.extract 0 l.length=d':=by rw[<-Al];simp
 have U:d.toArray.extract 0 l.length=d.toArray:=by rw[<-Se];simp
 rw[I,U]at j;simpa using j):GT:=h
def M150(h:GT:=by
 have:t.ld=10\/t.ld=17:=by
  rcases cP with⟨-,h⟩|rfl
  .exact .inl h
  .exact .inr rfl
 rw[aI M];exact this):GT:=h
def M159(h:GT:=by
 rw[heap_grow_old _ _ (by simpa using hg)];simp[putRow,mapBlock,Sort.ahead,Array.getElem?_modify,hb,onCells]):GT:=h
def M160(h:GT:=by
 rw[heap_grow_old _ _ (by simpa using hk)];simp[putRow,mapBlock,Sort.ahead,Array.getElem?_modify,Ne.symm bk]):GT:=h
def M161(h:GT:=by
 have:aG (.mk 15 n m va nm tg l)=.mk 15 0 0 false es es []:=by unfold aG mC jt;simp[Y.ld]
 rw[this];rfl):GT:=h
def M162(h:GT:=by
 have:aG (.mk 16 n m va nm tg l)=.mk 16 0 0 false es es []:=by unfold aG mC jt;simp[Y.ld]
 rw[this];rfl):GT:=h
def M17(h:GT:=by
 rcases de t.ld with g|g|g|g|g|g|g|g|g|g|g|g
 .rw[g.2]at hu⊢;exact⟨_,_,b,rfl,⟨NP b,Tryz.call297⟩,(qZ b W).mono λe O h=>⟨_,h.1,hu,h.2⟩⟩
 .exact absurd g.1 U
 .rw[g.2]at hu⊢;exact⟨_,_,b,rfl,⟨NQ b,Tryz.call303⟩,(rh b W).mono λe O h=>⟨_,h.1,hu,h.2⟩⟩
 .rw[g.2]at hu⊢;exact⟨_,_,b,rfl,⟨zJ b,Tryz.call305⟩,(ic b W).mono λe O h=>⟨_,h.1,hu,h.2⟩⟩
 .rw[g.2]at hu⊢;exact⟨_,_,b,rfl,⟨Je b,Tryz.call314⟩,(p8 b W).mono λe O h=>⟨_,h.1,hu,h.2⟩⟩
 .rw[g.2]at hu⊢;exact⟨_,_,b,rfl,⟨EG b,Tryz.call307⟩,(oP b W).mono λe O h=>⟨_,h.1,hu,h.2⟩⟩
 .rw[g.2]at hu⊢;exact⟨_,_,b,rfl,⟨yC b,Tryz.call298⟩,(mA b W).mono λe O h=>⟨_,h.1,hu,h.2⟩⟩
 .rw[g.2]at hu⊢;exact⟨_,_,b,rfl,⟨aad b,Tryz.call309⟩,(vM b W).mono λe O h=>⟨_,h.1,hu,h.2⟩⟩
 .rw[g.2]at hu⊢;exact⟨_,_,b,rfl,⟨Tw b,Tryz.call311⟩,(sU b W).mono λe O h=>⟨_,h.1,hu,h.2⟩⟩
 .rw[g.2]at hu⊢;exact⟨_,_,b,rfl,⟨yD b,Tryz.call289⟩,(mB b W).mono λe O h=>⟨_,h.1,hu,h.2⟩⟩
 .rw[g.2]at hu⊢;exact⟨_,_,b,rfl,⟨NR b,Tryz.call313⟩,(rj b W).mono λe O h=>⟨_,h.1,hu,h.2⟩⟩
 .omega):GT:=h
def M170(h:GT:=by
 rcases h with⟨rfl,a,c,rfl,_⟩|⟨_,b,o,c,rfl,_⟩
 .exact⟨a,c,rfl⟩
 .exact⟨_,c,rfl⟩):GT:=h
def M171(h:GT:=by
 exact .inl ⟨jQe M,none,0,rfl,λ_=>rfl⟩):GT:=h
def M186(h:GT:=by
 unfold az oZ;rw[ru M M,jQ4 M,jQ4 M,jQ4 M]):GT:=h
def M187(h:GT:=by
 rw[jQv aM];simp[jQp aM]at ht;rw[ht]):GT:=h
def M188(h:GT:=by
 rintro e O ⟨rfl,rfl⟩;exact M12):GT:=h
def M189(h:GT:=by
 by_cases hj:hp=0
 .subst hj;simpa[Addr.add]using this
 .simpa[Addr.add,hj]using this):GT:=h
def M19(h:GT:=by
 cases bb with
 |true=>
  have Fh:r=true:=by simpa using hA2.symm
  subst Fh;go_wp2_with (go_at_fn g;refine ag.mono ?_;rintro e O ⟨rfl,dD⟩);go_ret;exact⟨kk,rfl,i6,BW.out.trans (dD.mono BW.out.size)⟩
 |false=>
  have Ws:anyM p (zs.drop (kk+1))=some r:=by simpa using hA2
  have HA:=Z Ws;clear Ws;clear hA2;go_wp2_with (go_at_fn g;refine ag.mono ?_;rintro e O ⟨rfl,dD⟩);go_roundg (zs.length - (kk+1))
  case measure=>omega
  case rel=>exact⟨kk+1,M,M,by go_num,BW.out.trans (dD.mono BW.out.size),HA.1⟩):GT:=h
def M21(h:GT:=by
 go_wp2;go_ret;exact HP.1):GT:=h
def M27(h:GT:=by
 clear bF jm uM;go_wp21;go_roundg (l.length - (kk+1))
 case measure=>omega
 case rel=>
  have Af:=jI.1.grown mS.1 lY.1 yU.1 CJ.1;have kS:=fR jI.1.bs mS.1 lY.1;have jd:=mQ.1.aJ oU.1.bs;have kh:=λb hb=>(⟨(kS b hb).1,(kS b hb).2.trans (jd b hb).2⟩:_/\w7.heap[b]?=_);have nU:=eF.1.st.1.gr eF.1.md.bs (rQ.1.trans mQ.1);have Fp:=nU.1.grown jI.1.bs mS.1 i5 lY.1;have tB:l.take (kk+1)=l.take kk++[e]:=by rw[jRm,HE.1];rfl
  refine⟨kk+1,_,ps++[ptr wA.heap.size],M,M,by go_num,?_,Af.2,?_,Fp.1,Fp.2.trans (nU.2.trans eF.1.st.2)⟩
  .rw[Na.1];exact Af.1.more (by have I:=nb.1;rw[Ku.1]at I;omega)
  .rw[tB];refine All2.snoc ?_ (yg Ka.1 kh);exact⟨wA.heap.size,_,rfl,.inr rfl,by rw[(kh wA.heap.size (.inr rfl)).2,HEK.1];exact ak _ _,by rw[Ku.1];exact HU.1⟩):GT:=h
def M29(h:GT:=by
 obtain⟨ut,ms,ps,I,U,h3,h4,h5⟩:=h.named b s hs hn;refine⟨ut,ms,ps,(hS b s hs).trans I,U,h3.move hm,?_,h5.move hm⟩;have hk:∀m∈(if s.ld=11 then((w[s.n.toNat]?).map (·.lw)).getD []else[]),m.sig.ld=7:=M45
 generalize(if s.ld=11 then((w[s.n.toNat]?).map (·.lw)).getD []else[])=l at h4 hk;clear I h3
 induction l generalizing ps with
 |nil=>cases ps with
  |nil=>trivial
  |cons _ _=>exact h4.elim
 |cons m l ih=>cases ps with
  |nil=>exact h4.elim
  |cons p ps=>exact⟨h4.1.move (λ_ _ h=>h) hm (λb s hs _=>hS b s hs) (hk m i6),ih (ps:=ps) h4.2 (λm' j9=>hk m' (by simp[j9]))⟩):GT:=h
def M3(h:GT:=by
 obtain⟨e,he⟩:∃e,l[kk]?=some e:=⟨l[kk]'aM,by simp[aM]⟩;obtain⟨ea,ec,RW,uz⟩:=Ht.1 kk e wr he cH.st.2 (Zx.1 _ wr cH.md.gr);obtain⟨c0,c1,c2,c3,c4,OS,Kk⟩:=RW;have kq:=ak wr (.cells #[.int .i64 e.ld,.int .i64 e.n,.int .i64 e.m,.bool e.va,.string e.name,.string e.gc,.slice ea e.li.length ec] 25);obtain⟨y0,y1,y2,y3,y4,y5,y6⟩:=ao kq;have FO:=an wr (.cells #[.int .i64 e.ld,.int .i64 e.n,.int .i64 e.m,.bool e.va,.string e.name,.string e.gc,.slice ea e.li.length ec] 25);have lO:=Z (eF.1.md.below FO);have ym:=Z (Gr.below FO:Gr B aO aO wr _);obtain⟨dt,dF,qm⟩:=nX.1 e (jQ8 he);have CI:=lP he;have Ad:=lQ l (kk+1);obtain⟨Na,HE,nb,kr⟩:=Z4 CI he qm (show ps.length+1<=1099511627776 by have:=D5.1;omega);have rO:l.length<=9223372036854775807:=by have:=D5.1;omega
 have kj:aO.ml.length+nds (ep e)<=1099511627776:=by have:=eF.1.md.len;have:=HL.1;have:=Rg.1;omega
 have KJ:=uz.move (eF.1.md.bs.C0 ym.1);clear cH CI Ad kq FO mR qm;by_cases cg:e.ld=13
 .have ll:(e.ld==13)=true:=by simp[cg]
  have HEK:=Z ll;obtain⟨x,Vs⟩:=HTI.1 e (jQ8 he) cg;have JO:ep e=x:=by unfold ep;rw[jQ7 ll,Vs];rfl
  have Ku:=Z JO;rw[JO]at dt dF kj;obtain⟨b9,o9,xa,xc,rfl,Zp,xH⟩:=VD KJ Vs;obtain⟨z0,z1,z2,z3,z4,z5,z6⟩:=Zp;have aip:0<e.li.length:=by rw[Vs];simp
  have aiq:(0:Int)<(e.li.length:Int):=M
  have ag:=KR.1 x aO _ _ dF dt lO.1.bs xH kj;clear uz KJ xH dt dF Vs JO he cg;go_wp21;clear c0 c1 c2 c3 c4 OS Kk y0 y1 y2 y3 y4 y5 y6 z0 z1 z2 z3 z4 z5 z6;refine ag.mono ?_;rintro eA wA ⟨u,fT,rfl,cq,hu⟩;have HM:=Z (lO.1.trans cq);obtain⟨bu,rfl, -⟩:=id hu;have HU:=Z hu;have HG:=Z cq.gr;clear ag cq hu;go_wp21;refine rv (kR _ _ _ _) ?_;have oU:=Z (HM.1.iz #[.bool true,.iface (tid (x).ld) (ptr bu)] 237);obtain⟨rQ,jI,mQ⟩:=Z3 (ym.1.trans (HG.1.trans (jk HM.1.bs #[.bool true,.iface (tid (x).ld) (ptr bu)] 237))) (oU.1.below (an _ (.cells #[ptr wA.heap.size] 207))) (Gr.below (an (wA.alloc (.cells #[.bool true,.iface (tid (x).ld) (ptr bu)] 237)) (.cells #[ptr wA.heap.size] 207)):Gr B _ {fT with D:=λb=>fT.D b\/b=wA.heap.size} _ _);have Ka:=Z (Hc eF.1.fl eF.1.md.bs rQ.1);have mS:=Z ((eF.1.fr.gr rQ.1).gr mQ.1);go_wp2_with (at_builtin;refine gH underlying206 He rfl M rfl _ _ rfl W.heap.size u6 ps rfl mS.1.own (ptr wA.heap.size) rfl ⟨wA.heap.size+1,0,none⟩ 1 rfl (gi _ _ _ _) kr.1 jI.1.gr.size ?_);intro v7 w7 bF jm uM;obtain⟨yU,lY,CJ⟩:=Z3 (show w7.ownsRow W.heap.size 207 1 v7 (ps++[ptr wA.heap.size]).length (ps++[ptr wA.heap.size])by simpa using bF) (show((wA.alloc (.cells #[.bool true,.iface (tid (x).ld) (ptr bu)] 237)).alloc (.cells #[ptr wA.heap.size] 207)).grownBy w7 u6.ownBlock from jm) (show v7.ownBlock=u6.ownBlock\/v7.ownBlock=some ((wA.alloc (.cells #[.bool true,.iface (tid (x).ld) (ptr bu)] 237)).alloc (.cells #[ptr wA.heap.size] 207)).heap.size by simpa using uM);exact M27
 .have ll:(e.ld==13)=false:=by simp[cg]
  have HEK:=Z ll;have JO:ep e=e:=by unfold ep;rw[jQ4 (by simp[cg])]
  have Ku:=Z JO;rw[JO]at dt dF kj;have ag:=KR.1 e aO _ _ dF dt lO.1.bs KJ kj;clear uz KJ dt dF he cg JO;go_wp21;clear c0 c1 c2 c3 c4 OS Kk y0 y1 y2 y3 y4 y5 y6;refine ag.mono ?_;rintro eA wA ⟨u,fT,rfl,cq,hu⟩;have HM:=Z (lO.1.trans cq);obtain⟨bu,rfl, -⟩:=id hu;have HU:=Z hu;have HG:=Z cq.gr;clear ag cq hu;go_wp21;refine rv (kR _ _ _ _) ?_;have oU:=Z (HM.1.iz #[.bool false,.iface (tid (e).ld) (ptr bu)] 237);obtain⟨rQ,jI,mQ⟩:=Z3 (ym.1.trans (HG.1.trans (jk HM.1.bs #[.bool false,.iface (tid (e).ld) (ptr bu)] 237))) (oU.1.below (an _ (.cells #[ptr wA.heap.size] 207))) (Gr.below (an (wA.alloc (.cells #[.bool false,.iface (tid (e).ld) (ptr bu)] 237)) (.cells #[ptr wA.heap.size] 207)):Gr B _ {fT with D:=λb=>fT.D b\/b=wA.heap.size} _ _);have Ka:=Z (Hc eF.1.fl eF.1.md.bs rQ.1);have mS:=Z ((eF.1.fr.gr rQ.1).gr mQ.1);go_wp2_with (at_builtin;refine gH underlying206 He rfl M rfl _ _ rfl W.heap.size u6 ps rfl mS.1.own (ptr wA.heap.size) rfl ⟨wA.heap.size+1,0,none⟩ 1 rfl (gi _ _ _ _) kr.1 jI.1.gr.size ?_);intro v7 w7 bF jm uM;obtain⟨yU,lY,CJ⟩:=Z3 (show w7.ownsRow W.heap.size 207 1 v7 (ps++[ptr wA.heap.size]).length (ps++[ptr wA.heap.size])by simpa using bF) (show((wA.alloc (.cells #[.bool false,.iface (tid (e).ld) (ptr bu)] 237)).alloc (.cells #[ptr wA.heap.size] 207)).grownBy w7 u6.ownBlock from jm) (show v7.ownBlock=u6.ownBlock\/v7.ownBlock=some ((wA.alloc (.cells #[.bool false,.iface (tid (e).ld) (ptr bu)] 237)).alloc (.cells #[ptr wA.heap.size] 207)).heap.size by simpa using uM);exact M27):GT:=h
def M30(h:GT:=by
 have c3:=jQh fm.here;have hP:iN (λx=>x=B8\/(none:Option Nat)=some x) W w4:=by
  refine⟨gF.os.trans (fm.os.trans jw.os),gF.tape.trans (fm.tape.trans jw.tape),gF.output.trans (fm.output.trans jw.output),?_,λx H hn=>?_,HNT.1⟩
  .have I:=gF.size;have U:=fm.size;have h3:=jw.size;simp at U;omega
  .have h3:=jw.size;rw[gF.other x M,fm.other x (λe=>hn (.inl e)),(an W2 _).block x M];exact jw.block x H
 have HP:=Z (show DW W B8 none [] s (.returned .nilIface) w4 from .inr ⟨i6,rfl,some W2.heap.size,(gF.other _ M).trans fm.here,.inr ⟨_,_,_,rfl,gF.here,i6,λe he=>by simp at he;subst he;exact⟨_,_,rfl⟩⟩,hP,.inr ⟨_,rfl,jw.size⟩⟩);clear hP gF fm sC Z7q fw ag;exact M21):GT:=h
def M31(h:GT:=by
 have bk:B8≠mb:=by intro e;rw[e,Of]at fw;cases fw
 have hP:iN (λx=>x=B8\/some mb=some x) W w4:=by
  refine⟨gF.os.trans jw.os,gF.tape.trans jw.tape,gF.output.trans jw.output,?_,λx H hn=>?_,HNT.1⟩
  .have I:=gF.size;have h3:=jw.size;omega
  .rw[gF.other x (λe=>hn (.inr (by rw[e])))];exact jw.block x H
 have HP:=Z (show DW W B8 (some mb) nms s (.returned .nilIface) w4 from .inr ⟨J1 HK.1 hh,rfl,some mb,(gF.other _ bk).trans fw,.inr ⟨_,_,_,rfl,gF.here,by simp[HK.1],λe he=>by
  simp at he;obtain he|rfl:=he
  .exact HV.1 e (by simpa using he)
  .exact⟨_,_,rfl⟩⟩,hP,.inl rfl⟩)
 clear hP gF fw Of ag hh;exact M21):GT:=h
def M34(h:GT:=by
 have:=h.cells (g:=g) rfl hp u hu;exact M189):GT:=h
def M39(h:GT:=by
 have Nn:r=false:=by simpa[anyM]using hr.symm
 subst Nn;go_in;go_wp2
 go_loopg [5,8] 0 (λgg s5 s8 wr=>s8=.int .i64 0/\wr=W)
 case atStart=>exact⟨rfl,rfl⟩
 case round=>
  obtain⟨rfl,rfl⟩:=hrel;go_wp2;go_ret;exact⟨-1,rfl,i6,jQ5 _ _⟩):GT:=h
def M4(h:GT:=by
 go_wp21;refine aF.mono ?_;rintro e w1 ⟨v,rfl,k1,k2,k3⟩;have hO:sI w S D obj rs K E r W w1 ts v:=⟨k2,k3,k1⟩;have aD:=fI hO.tl;rw[ha]at aD;obtain⟨va,vc,rfl⟩:=k1.form;have HO:=Z hO;have rO:=hO.tl.max;clear k1 k2 k3 aF hO;go_wp21;refine rv aD ?_;clear aD;go_wp21
 go_loopg [12,30] ts.length (λgg s12 s30 wr=>∃(kk ii:Nat) (cur:List (Option Tm)),kk<=ts.length/\ts.length - kk<=gg/\s30=.int .i64 kk/\s12=.int .i64 ii/\ii<=kk/\cur.length=ts.length/\Aside (sI w S D obj rs K E r W wr cur (.slice va ts.length vc))/\Aside (cur.drop kk=ts.drop kk)/\Aside (cur.take ii=(ts.take kk).filter (keepT λt=>(fs w K).cmp t false)))
 case atStart=>exact⟨0,0,ts,jQc _,M,rfl,rfl,jQ0 _,rfl,HO.1,rfl,rfl⟩
 case round=>
  obtain⟨kk,ii,cur,ez,hg,rfl,rfl,hik,KP,N,Dr,Tk⟩:=hrel;by_cases aM:kk<ts.length
  .have aR:(kk:Int)<(ts.length:Int):=M
   have hiz:(ii:Int)<(ts.length:Int):=M
   obtain⟨x,H⟩:∃x,ts[kk]?=some x:=⟨ts[kk],by simp[aM]⟩;have Om:cur[kk]?=some x:=by
    have I:=congrArg (λl=>l[0]?) Dr.out;simpa[H]using I
   obtain⟨bt,pY,rfl⟩:=HTP.1 x (jQ8 H);obtain⟨b,o,p,rfl,hs,hc,ht⟩:=N.out.tl.nth Om;obtain⟨g,e0, -⟩:=N.out.row.pos (by intro e;rw[e]at KP;simp at KP;omega);simp at e0;obtain⟨rfl,rfl⟩:=e0;rw[jRd]at hc;obtain⟨b1,v1,rfl,s1,c1,c2,n1,y1⟩:=ht.open;obtain⟨T1,d1,rfl,qy⟩:=y1 pY rfl;have CN:jH NS Q w rs B pY:=DH.1 _ (jQ8 H) _ rfl _ rfl;have ag:=wu (d:=false) HC.1 N.out.ok qy CN.1 (CN.ck hB);have ly:=bO wr;have HT:=Z ht;have HX:=Z H;clear ht H Om n1 y1 qy CN;go_wp21;refine rv ly ?_;go_wp21;refine ag.mono ?_;rintro e w2 ⟨u,rfl,hu,g1,g2⟩;have N2:=Z (N.out.go g1 g2);have T2:=Z (HT.1.move g2);clear g1 g2 ag ly;rcases hu with⟨rfl,Kg⟩|⟨ub,rfl,Kg⟩
   .have hil:ii<cur.length:=M
    have HK:=Z (show keepT (λt=>(fs w K).cmp t false) (some ⟨bt,some pY⟩)=true from Kg);clear Kg;go_wp2_with (refine JN rfl _ _ rfl W.heap.size b ii _ _ cur N2.1.row _ b1 T2.1 rfl rfl hil ?_);intro w3 FG fm;have VI:(λg=>b=g)=(λq=>(Value.slice (some ⟨b,0,none⟩) ts.length vc).ownBlock=some q):=by
     funext q;simp[Value.ownBlock]
    rw[VI]at fm;have N3:=Z (N2.1.add gJ.1 FG fm (.inl rfl));have Vf:=Z (show(cur.set ii (some ⟨bt,some pY⟩)).drop (kk+1)=ts.drop (kk+1)by
     rw[List.drop_set_of_lt M];have:=congrArg (List.drop 1) Dr.out;simpa[List.drop_drop]using this)
    have Vm:=Z (show(cur.set ii (some ⟨bt,some pY⟩)).take (ii+1)=(ts.take (kk+1)).filter (keepT λt=>(fs w K).cmp t false)by
     obtain⟨uj,e⟩:=jQg.1 HX.1;rw[jRi uj,List.filter_append,e,List.filter_cons,HK.1,<-Tk.out,jRi (by simpa using hil),List.take_set_of_le (jQ0 _)];simp)
    clear FG fm VI;go_wp21;go_roundg (ts.length - (kk+1))
    case measure=>omega
    case rel=>exact⟨kk+1,ii+1,_,M,M,by go_num,by go_num,M,by simp[KP],N3.1,Vf.1,Vm.1⟩
   .have Vf:=Z (show cur.drop (kk+1)=ts.drop (kk+1)by
     have:=congrArg (List.drop 1) Dr.out;simpa[List.drop_drop]using this)
    have HK:=Z (show keepT (λt=>(fs w K).cmp t false) (some ⟨bt,some pY⟩)=false from Kg);have Vm:=Z (show cur.take ii=(ts.take (kk+1)).filter (keepT λt=>(fs w K).cmp t false)by
     obtain⟨uj,e⟩:=jQg.1 HX.1;rw[jRi uj,List.filter_append,e,List.filter_cons,HK.1,<-Tk.out];simp)
    clear Kg;go_wp21;go_roundg (ts.length - (kk+1))
    case measure=>omega
    case rel=>exact⟨kk+1,ii,cur,M,M,by go_num,rfl,M,KP,N2.1,Vf.1,Vm.1⟩
  .have aR:¬(kk:Int)<(ts.length:Int):=M
   have WY:ii<=cur.length:=M
   have hN:=N.out.take WY;have hT:=Tk.out;have VJ:kk=ts.length:=M
   rw[VJ,List.take_length]at hT;rw[hT]at hN;have ag:=fI hN.tl;rw[HFL.1]at ag;have HP:=Z (hN.aa0 false);have hvc:ii<=vc:=by
    have:=hN.tl;obtain⟨ps,I,U⟩:=N.out.row;rcases I.2 with⟨e,h0⟩|⟨g,cap,cc,e,q1,q2,q3,_⟩
    .omega
    .simp at e;omega
   have ql:=wK (P:=prog) underlying121 sizeOf156 va ts.length vc ii hvc;have ly:=bO wr;clear hN hT VJ;go_wp21;refine rv ag ?_;go_wp21;refine rv ly ?_;go_wp21;refine jRc (v:=.tuple #[.slice va ii vc,.bool false]) (by simp[results,Tryz.results108,go_sem]) rfl ?_;exact HP.1):GT:=h
theorem M40(h:GT:=by
 go_wp2;go_ret;exact⟨rfl,HB.1⟩):GT:=h
def M45(h:GT:=by
 intro m hm;split at hm
 .cases hd:w[s.n.toNat]? with
  |none=>rw[hd]at hm;simp at hm
  |some d=>rw[hd]at hm;exact dJ _ d hd m hm
 .simp at hm):GT:=h
def M47(h:GT:=by
 go_in;go_wp2;go_ret;exact⟨rfl,HA.1⟩):GT:=h
def M5(h:GT:=by
 have HP:=Z (show aV w S D obj rs K E (r+1) W (λv _=>v=.bool ((fs w K).id x y)) (.returned (.bool true)) W from⟨_,rfl,by rw[ff HE.1 hr hx.1.px hx.1.py (by have:=hx.1.rx;have:=hx.1.qr;omega) (by have:=hx.1.ry;have:=hx.1.qr;omega) (cj rfl)],hx.1.ok,Fr.refl _⟩);clear cj fK dr fx cz eX aF aD;exact M21):GT:=h
def M52(h:GT:=by
 have aR:¬(kk:Int)<(zs.length:Int):=M
 have Jn:r=false:=by
  have:=A.out;rw[jQf M]at this;simpa[anyM]using this.symm
 subst Jn;go_wp2;go_ret;exact⟨-1,rfl,i6,BW.out⟩):GT:=h
def M68(h:GT:=by
 obtain⟨h3,e0,zh,h4⟩:=Ox HK.1 hh;obtain⟨T,x,H⟩:=HV.1 e0 zh;rw[hh]at hl;simp only[Option.map_some,Option.getD_some,h4,H]at hl;have HP:=Z (show DW W B8 (some mb) nms s (.returned (.iface T x)) W2 from .inl ⟨h3,⟨T,x,rfl⟩,jw⟩);clear fw Of jw hh h3 zh h4 H ag;exact M21):GT:=h
theorem M7(h:GT:=by
 have bo:(fs w K).id x y=false:=by rw[pV.1];exact l3 M (by intro hh;have:=dw hh.1;omega)
 exact M87):GT:=h
def M85(h:GT:=by
 go_in;exact M12):GT:=h
def M87(h:GT:=by
 have HP:=Z (show aV w S D obj rs K E (r+1) W (λv _=>v=.bool ((fs w K).id x y)) (.returned (.bool false)) W from⟨_,rfl,by rw[bo],hx.1.ok,Fr.refl _⟩);generalize tid (una y).ld=TY at*;clear bo cj fK dr fx cz eX;exact M21):GT:=h
def M96(h:GT:=by
 apply List.ext_getElem?;intro hp;by_cases hj:hp<F.size
 .rw[List.getElem?_take_of_lt hj,jRr];simp[putCells,hj,show hp<cur.size by omega]
 .rw[List.getElem?_take_eq_none M,jQx (by simp;omega)]):GT:=h
@[simp] abbrev ce(W:World)(b o:Nat)(v:Value):Prop:=W.cell? ⟨b,o,none⟩=some v
@[simp] abbrev ci(W:World)(b:Nat)(v:Go.Obj):Prop:=W.heap[b]?=some v
abbrev S5(W w:World):Prop:=Below W.heap.size W w
@[simp] abbrev G8(W:World)(b:Nat)(c:Array Value)(t:TypeId):Prop:=W.heap[b]?=some (.cells c t)
def nth_G7:List Value->Nat->Option Value
 |[],_=>none
 |a::_,0=>some a
 |_::l,n+1=>nth_G7 l n
def nth_G7_eq:∀(l:List Value)(n:Nat),nth_G7 l n=l[n]?
 |[],_=>by simp[nth_G7]
 |a::_,0=>by simp[nth_G7]
 |_::l,n+1=>by simp[nth_G7,nth_G7_eq l n]
def G7{cs:List Value}(o:Nat)(h:W.heap[b]?=some (.cells ⟨cs⟩ ty f))(e:nth_G7 cs o=some v:=by rfl):ce W b o v:=by
 rw[nth_G7_eq]at e
 show W.cell? ⟨b,o,none⟩=some v
 simp[World.cell?,h,e]
mutual
def RT (D:Qx) (W:World):Y->Value->Prop
 |.mk k n m va nm tg l,v=>∃sl,v=.agg #[.int .i64 k,.int .i64 n,.int .i64 m,.bool va,.string nm,.string tg,sl]/\RS D W l sl
def RS (D:Qx) (W:World):List Y->Value->Prop
 |[],sl=>∃a c,sl=.slice a 0 c/\(a=none->c=0)
 |t::l,sl=>∃b o c,sl=.slice (some ⟨b,o,none⟩) (l.length+1) c/\l.length+1<=c/\c<=9223372036854775807/\D b/\RE D W t b o/\RC D W l b (o+7)
def RC (D:Qx) (W:World):List Y->Nat->Nat->Prop
 |[],_,_=>True
 |t::l,b,o=>RE D W t b o/\RC D W l b (o+7)
def RE (D:Qx) (W:World):Y->Nat->Nat->Prop
 |.mk k n m va nm tg l,b,o=>∃sl,W.cell? ⟨b,o,none⟩=some (.int .i64 k)/\W.cell? ⟨b,o+1,none⟩=some (.int .i64 n)/\
  W.cell? ⟨b,o+2,none⟩=some (.int .i64 m)/\W.cell? ⟨b,o+3,none⟩=some (.bool va)/\W.cell? ⟨b,o+4,none⟩=some (.string nm)/\
  W.cell? ⟨b,o+5,none⟩=some (.string tg)/\W.cell? ⟨b,o+6,none⟩=some sl/\RS D W l sl
end
def ki{k n:Int}{l:List Y}:
 RT D W (.mk k n m va nm tg l) v↔∃sl,v=.agg #[.int .i64 k,.int .i64 n,.int .i64 m,.bool va,.string nm,.string tg,sl]/\RS D W l sl:=by rw[RT]
def ia:RS D W [] sl↔∃a c,sl=.slice a 0 c/\(a=none->c=0):=by rw[RS]
def gQ{t:Y}{l:List Y}:
 RS D W (t::l) sl↔∃b o c,sl=.slice (some ⟨b,o,none⟩) (l.length+1) c/\l.length+1<=c/\c<=9223372036854775807/\D b/\RE D W t b o/\RC D W l b (o+7):=by rw[RS]
def pW{k n:Int}{l:List Y}{o:Nat}:
 RE D W (.mk k n m va nm tg l) b o↔∃sl,W.cell? ⟨b,o,none⟩=some (.int .i64 k)/\W.cell? ⟨b,o+1,none⟩=some (.int .i64 n)/\
  W.cell? ⟨b,o+2,none⟩=some (.int .i64 m)/\W.cell? ⟨b,o+3,none⟩=some (.bool va)/\W.cell? ⟨b,o+4,none⟩=some (.string nm)/\
  W.cell? ⟨b,o+5,none⟩=some (.string tg)/\W.cell? ⟨b,o+6,none⟩=some sl/\RS D W l sl:=by rw[RE]
def au(D D':Qx)(W W':World):Prop:=∀b,D b->D' b/\W'.heap[b]?=W.heap[b]?
mutual
def RT.move {D D':Qx} {W W':World} (h:au D D' W W'):∀{t:Y} {v:Value},RT D W t v->RT D' W' t v
 |.mk k n m va nm tg l,v,hr=>by
  rw[RT]at hr⊢;obtain⟨sl,hv,hs⟩:=hr;exact⟨sl,hv,RS.move h hs⟩
def RS.move {D D':Qx} {W W':World} (h:au D D' W W'):∀{l:List Y} {sl:Value},RS D W l sl->RS D' W' l sl
 |[],sl,hr=>by rw[RS]at hr⊢;exact hr
 |t::l,sl,hr=>by
  rw[RS]at hr⊢;obtain⟨b,o,c,hs,I,U,hb,he,hc⟩:=hr;exact⟨b,o,c,hs,I,U,(h b hb).1,RE.move h hb he,RC.move h hb hc⟩
def RC.move {D D':Qx} {W W':World} (h:au D D' W W'):∀{l:List Y} {b o:Nat},D b->RC D W l b o->RC D' W' l b o
 |[],b,o,_,_=>by rw[RC];trivial
 |t::l,b,o,hb,hr=>by
  rw[RC]at hr⊢;exact⟨RE.move h hb hr.1,RC.move h hb hr.2⟩
def RE.move {D D':Qx} {W W':World} (h:au D D' W W'):∀{t:Y} {b o:Nat},D b->RE D W t b o->RE D' W' t b o
 |.mk k n m va nm tg l,b,o,hb,hr=>by
  rw[RE]at hr⊢;obtain⟨sl,c0,c1,c2,c3,c4,c5,c6,hs⟩:=hr;have e:∀hp,W'.cell? ⟨b,hp,none⟩=W.cell? ⟨b,hp,none⟩:=λhp=>jQi (w:=W) (h b hb).2;exact⟨sl,(e _).trans c0,(e _).trans c1,(e _).trans c2,(e _).trans c3,(e _).trans c4,(e _).trans c5,(e _).trans c6,RS.move h hs⟩
end
def RS.form{l:List Y}(h:RS D W l sl):∃a c,sl=.slice a l.length c:=by
 cases l with
 |nil=>obtain⟨a,c,rfl,_⟩:=ia.1 h;exact⟨a,c,rfl⟩
 |cons t l=>obtain⟨b,o,c,rfl,_⟩:=gQ.1 h;exact⟨_,c,rfl⟩
def au.refl:au D D W W:=λ_ h=>⟨h,rfl⟩
def au.setCell(h:au D D' W W'){p:Addr}(j:¬D p.block)(u):au D D' W (W'.setCell p u):=
 λb hb=>⟨(h b hb).1,by rw[Below.heap_setCell _ _ _ _ (λe=>j (e▸hb))];exact(h b hb).2⟩
def au.wide(h:au D D' W W')(hE:∀b,D' b->E b):au D E W W':=λb hb=>⟨hE b (h b hb).1,(h b hb).2⟩
def au.alloc(h:au D D' W W')(hD:∀b,D b->b<W'.heap.size)(o:Obj):au D D' W (W'.alloc o):=
 λb hb=>⟨(h b hb).1,by rw[Below.heap_alloc _ _ _ (hD b hb)];exact(h b hb).2⟩
def Up(D:Qx)(n m:Nat):Nat->Prop:=λb=>D b\/(n<=b/\b<m)
def Lo(D:Qx)(n:Nat):Prop:=∀b,D b->b<n
def RMC(D:Qx)(W:World):List aH->Nat->Nat->Prop
 |[],_,_=>True
 |m::l,b,o=>(W.cell? ⟨b,o,none⟩=some (.string m.name)/\W.cell? ⟨b,o+1,none⟩=some (.bool m.ptr)/\RE D W m.sig b (o+2))/\RMC D W l b (o+9)
def RM(D:Qx)(W:World)(l:List aH)(sl:Value):Prop:=
 (l=[]/\∃a c,sl=.slice a 0 c/\(a=none->c=0))\/(l≠[]/\∃b o c,sl=.slice (some ⟨b,o,none⟩) l.length c/\l.length<=c/\c<=9223372036854775807/\D b/\RMC D W l b o)
def RDC(D:Qx)(W:World):List ah->Nat->Nat->Prop
 |[],_,_=>True
 |d::l,b,o=>(RE D W d.gt b o/\∃ms,W.cell? ⟨b,o+7,none⟩=some ms/\RM D W d.lw ms)/\RDC D W l b (o+8)
def RD(D:Qx)(W:World)(l:List ah)(sl:Value):Prop:=
 (l=[]/\∃a c,sl=.slice a 0 c/\(a=none->c=0))\/(l≠[]/\∃b o c,sl=.slice (some ⟨b,o,none⟩) l.length c/\l.length<=c/\c<=9223372036854775807/\b<W.heap.size/\RDC D W l b o)
def RE.vT(h:au D D' W W'){t:Y}{o:Nat}(hb:W'.heap[b]?=W.heap[b]?)(hr:RE D W t b o):RE D' W' t b o:=by
 obtain⟨k,n,m,va,nm,tg,l⟩:=t;rw[RE]at hr⊢;obtain⟨sl,c0,c1,c2,c3,c4,c5,c6,hs⟩:=hr;have e:∀hp,W'.cell? ⟨b,hp,none⟩=W.cell? ⟨b,hp,none⟩:=λhp=>jQi (w:=W) hb;exact⟨sl,(e _).trans c0,(e _).trans c1,(e _).trans c2,(e _).trans c3,(e _).trans c4,(e _).trans c5,(e _).trans c6,RS.move h hs⟩
def RMC.move(h:au D D' W W'):∀{l:List aH} {b o:Nat},D b->RMC D W l b o->RMC D' W' l b o
 |[],_,_,_,_=>trivial
 |m::l,b,o,hb,hr=>by
  have e:∀hp,W'.cell? ⟨b,hp,none⟩=W.cell? ⟨b,hp,none⟩:=λhp=>jQi (w:=W) (h b hb).2;exact⟨⟨(e _).trans hr.1.1,(e _).trans hr.1.2.1,RE.move h hb hr.1.2.2⟩,RMC.move h hb hr.2⟩
def RM.move(h:au D D' W W'){l:List aH}:RM D W l sl->RM D' W' l sl
 |.inl h'=>.inl h'
 |.inr ⟨hl,b,o,c,I,U,h3,h4,h5⟩=>.inr ⟨hl,b,o,c,I,U,h3,(h b h4).1,RMC.move h h4 h5⟩
def RDC.move(h:au D D' W W'):∀{l:List ah} {b o:Nat},W'.heap[b]?=W.heap[b]?->RDC D W l b o->RDC D' W' l b o
 |[],_,_,_,_=>trivial
 |d::l,b,o,hb,hr=>by
  have e:∀hp,W'.cell? ⟨b,hp,none⟩=W.cell? ⟨b,hp,none⟩:=λhp=>jQi (w:=W) hb;obtain⟨⟨I,ms,U,h3⟩,h4⟩:=hr;exact⟨⟨RE.vT h hb I,ms,(e _).trans U,RM.move h h3⟩,RDC.move h hb h4⟩
def RD.move(h:au D D' W W')(hz:W.heap.size<=W'.heap.size)(hW:∀b,b<W.heap.size->W'.heap[b]?=W.heap[b]?){l:List ah}:RD D W l sl->RD D' W' l sl
 |.inl h'=>.inl h'
 |.inr ⟨hl,b,o,c,I,U,h3,h4,h5⟩=>.inr ⟨hl,b,o,c,I,U,h3,jQb h4 hz,RDC.move h (hW b h4) h5⟩
def RD.XL(h:au D D' W W')(hz:W.heap.size<=W'.heap.size){l:List ah}(hr:RD D W l sl)(hW:∀b o n c,sl=.slice (some ⟨b,o,none⟩) n c->W'.heap[b]?=W.heap[b]?):RD D' W' l sl:=by
 obtain h'|⟨hl,b,o,c,I,U,h3,h4,h5⟩:=hr
 .exact .inl h'
 .exact .inr ⟨hl,b,o,c,I,U,h3,jQb h4 hz,RDC.move h (hW b o _ c I) h5⟩
def RD.wide(hE:∀b,D b->E b){l:List ah}(h:RD D W l sl):RD E W l sl:=h.move (λb hb=>⟨hE b hb,rfl⟩) (jQ0 _) (λ_ _=>rfl)
def RD.form{l:List ah}(h:RD D W l sl):∃a c,sl=.slice a l.length c:=M170
def RM.form{l:List aH}(h:RM D W l sl):∃a c,sl=.slice a l.length c:=M170
def RC.at{D:Qx}{W:World}:∀{l:List Y} {b o:Nat},RC D W l b o->∀{i:Nat} {t:Y},l[i]?=some t->RE D W t b (o+i*7)
 |[],_,_,_,i,t,h=>by simp at h
 |x::l,b,o,hr,0,t,h=>by
  rw[RC]at hr;simp at h;subst h;simpa using hr.1
 |x::l,b,o,hr,i+1,t,h=>by
  rw[RC]at hr;have:=RC.at hr.2 (i:=i) (t:=t) (G9 h);rw[show o+(i+1)*7=o+7+i*7 by omega];exact this
def RDC.at{D:Qx}{W:World}:∀{l:List ah} {b o:Nat},RDC D W l b o->∀{i:Nat} {d:ah},l[i]?=some d->
 RE D W d.gt b (o+i*8)/\∃ms,W.cell? ⟨b,o+i*8+7,none⟩=some ms/\RM D W d.lw ms
 |[],_,_,_,i,t,h=>by simp at h
 |x::l,b,o,hr,0,t,h=>by
  simp at h;subst h;simpa using hr.1
 |x::l,b,o,hr,i+1,t,h=>by
  have:=RDC.at hr.2 (i:=i) (d:=t) (G9 h);rw[show o+(i+1)*8=o+8+i*8 by omega];exact this
def RMC.at{D:Qx}{W:World}:∀{l:List aH} {b o:Nat},RMC D W l b o->∀{i:Nat} {m:aH},l[i]?=some m->
 W.cell? ⟨b,o+i*9,none⟩=some (.string m.name)/\W.cell? ⟨b,o+i*9+1,none⟩=some (.bool m.ptr)/\RE D W m.sig b (o+i*9+2)
 |[],_,_,_,i,t,h=>by simp at h
 |x::l,b,o,hr,0,t,h=>by
  simp at h;subst h;simpa using hr.1
 |x::l,b,o,hr,i+1,t,h=>by
  have:=RMC.at hr.2 (i:=i) (m:=t) (G9 h);rw[show o+(i+1)*9=o+9+i*9 by omega];exact this
def RE.val{t:Y}{o:Nat}(h:RE D W t b o):∃k n m va nm tg a ln c,RT D W t (.agg #[.int .i64 k,.int .i64 n,.int .i64 m,.bool va,.string nm,.string tg,.slice a ln c])/\
 W.cell? ⟨b,o,none⟩=some (.int .i64 k)/\W.cell? ⟨b,o+1,none⟩=some (.int .i64 n)/\W.cell? ⟨b,o+2,none⟩=some (.int .i64 m)/\W.cell? ⟨b,o+3,none⟩=some (.bool va)/\
 W.cell? ⟨b,o+4,none⟩=some (.string nm)/\W.cell? ⟨b,o+5,none⟩=some (.string tg)/\W.cell? ⟨b,o+6,none⟩=some (.slice a ln c):=by
 obtain⟨k,n,m,va,nm,tg,l⟩:=t;obtain⟨sl,c0,c1,c2,c3,c4,c5,c6,hs⟩:=pW.1 h;obtain⟨a,c,rfl⟩:=hs.form;exact⟨k,n,m,va,nm,tg,a,l.length,c,ki.2 ⟨_,rfl,hs⟩,c0,c1,c2,c3,c4,c5,c6⟩
def RC.drop:∀{l:List Y} {b o:Nat},RC D W l b o->∀m,RC D W (l.drop m) b (o+m*7)
 |[],_,_,_,m=>by simp[RC]
 |x::l,b,o,hr,0=>by simpa using hr
 |x::l,b,o,hr,m+1=>by
  rw[RC]at hr;have:=RC.drop hr.2 m;rw[show o+(m+1)*7=o+7+m*7 by omega];simpa using this
def RC.take:∀{l:List Y} {b o:Nat},RC D W l b o->∀m,RC D W (l.take m) b o
 |[],_,_,_,m=>by simp[RC]
 |x::l,b,o,hr,0=>by simp[RC]
 |x::l,b,o,hr,m+1=>by
  rw[RC]at hr;rw[jR5,RC];exact⟨hr.1,RC.take hr.2 m⟩
def aN{l:List Y}:RS D W l sl↔
 (l=[]/\∃a c,sl=.slice a 0 c/\(a=none->c=0))\/(l≠[]/\∃b o c,sl=.slice (some ⟨b,o,none⟩) l.length c/\l.length<=c/\c<=9223372036854775807/\D b/\RC D W l b o):=by
 cases l with
 |nil=>rw[ia];simp
 |cons t l=>rw[gQ];simp[RC]
def rv{f:FuncId}{R Q:Ending->World->Prop}(hc:Calls P f args W R)(k:Q (.returned v) W2)(hR:∀e w,R e w->e=.returned v/\w=W2:=by exact λ_ _ h=>h):Calls P f args W Q:=
 hc.mono λe w r=>by obtain⟨rfl,rfl⟩:=hR e w r;exact k
structure kT(B:Nat)(cs:Array Value)(t:TypeId)(w w2:World):Prop where
 here:w2.heap[B]?=some (.cells cs t (0,0))
 other:∀b,b≠B->w2.heap[b]?=w.heap[b]?
 size:w2.heap.size=w.heap.size
 os:w2.os=w.os
 tape:w2.tape=w.tape
 output:w2.output=w.output
def kT.below{a:World}(h:kT B cs t w w2){n:Nat}(hb:Below n a w)(hn:n<=B):Below n a w2:=
 hb.trans ⟨h.os,h.tape,h.output,jQz h.size.symm,λk hk=>h.other k M⟩
def Bo(hg:w.heap[B]?=some (.cells NT t (0,0)))(_h:NT.size=cs.size):kT B cs t w (w.setRow B cs):=by
 have aM:=jQ2 hg;have hB:w.heap[B]=.cells NT t (0,0):=by simpa[Array.getElem?_eq_getElem aM]using hg
 refine⟨?_,?_,?_,rfl,rfl,rfl⟩
 .simp[World.setRow,Array.getElem?_modify,hg]
 .intro b hb;simp[World.setRow,Array.getElem?_modify,Ne.symm hb]
 .simp[World.setRow]
def xM{o:Oper}{a:Act}(mX:o.guard=none)(ty:TypeId)(x y:Operand)(ho:o.op=.store ty x y)(B:Nat)(cells:Array Value)(H:a.eval x=.pointer (some ⟨B,0,none⟩))(hy:a.eval y=.agg cells)(t:TypeId)(NT:Array Value)(hg:w.heap[B]?=some (.cells NT t (0,0)))(hi:(P.info? ty).map (·.size)=some cells.size)(hold:NT.size=cells.size)(I:cells.all (·.oneCell')=true)(h:∀w2,kT B cells t w w2->wpList P ops Q rest (a.put o.dst undef) w2):wpList P ops Q (o::rest) a w:=
 wpList_store_row mX ty x y ho B cells H hy t NT hg hi hold I (h _ (Bo hg hold))
def fN{o:Oper}{a:Act}(mX:o.guard=none)(x y:Operand)(ho:o.op=.store 25 x y)(B:Nat){k n:Int}{sa:Option Addr}{c:Nat}(H:a.eval x=.pointer (some ⟨B,0,none⟩))(hy:a.eval y=.agg #[.int .i64 k,.int .i64 n,.int .i64 m,.bool va,.string nm,.string tg,.slice sa ln c])(hg:w.heap[B]?=some (.cells NT 25 (0,0)))(hold:NT.size=7)(h:∀w2,kT B #[.int .i64 k,.int .i64 n,.int .i64 m,.bool va,.string nm,.string tg,.slice sa ln c] 25 w w2->wpList prog ops Q rest (a.put o.dst undef) w2):wpList prog ops Q (o::rest) a w:=
 xM mX 25 x y ho B _ H hy 25 NT hg g9 hold (by simp[Value.oneCell']) h
def ao(h:w.heap[B]?=some (.cells #[v0,v1,v2,v3,v4,v5,v6] t f)):
 w.cell? ⟨B,0,none⟩=some v0/\w.cell? ⟨B,1,none⟩=some v1/\w.cell? ⟨B,2,none⟩=some v2/\w.cell? ⟨B,3,none⟩=some v3/\w.cell? ⟨B,4,none⟩=some v4/\w.cell? ⟨B,5,none⟩=some v5/\w.cell? ⟨B,6,none⟩=some v6:=by
 simp[World.cell?,h]
theorem cd{c:Array Value}(h:w.heap[B]?=some (.cells c t (0,0))):∀hp,w.frozen? ⟨B,hp,none⟩=false:=by
 intro hp;simp[World.frozen?,h]
@[go_sem ↓] theorem ac6(x0 x1 x2 x3 x4 x5 x6 w):(Instr.field 25 (.agg #[x0,x1,x2,x3,x4,x5,x6]) 0).run prog w=.ok x0 w:=g9
@[go_sem ↓] theorem ac7(x0 x1 x2 x3 x4 x5 x6 w):(Instr.field 25 (.agg #[x0,x1,x2,x3,x4,x5,x6]) 1).run prog w=.ok x1 w:=g9
@[go_sem ↓] theorem ac8(x0 x1 x2 x3 x4 x5 x6 w):(Instr.field 25 (.agg #[x0,x1,x2,x3,x4,x5,x6]) 2).run prog w=.ok x2 w:=g9
@[go_sem ↓] theorem ac9(x0 x1 x2 x3 x4 x5 x6 w):(Instr.field 25 (.agg #[x0,x1,x2,x3,x4,x5,x6]) 3).run prog w=.ok x3 w:=g9
@[go_sem ↓] theorem ada(x0 x1 x2 x3 x4 x5 x6 w):(Instr.field 25 (.agg #[x0,x1,x2,x3,x4,x5,x6]) 4).run prog w=.ok x4 w:=g9
@[go_sem ↓] theorem adb(x0 x1 x2 x3 x4 x5 x6 w):(Instr.field 25 (.agg #[x0,x1,x2,x3,x4,x5,x6]) 5).run prog w=.ok x5 w:=g9
@[go_sem ↓] theorem ade(x0 x1 x2 x3 x4 x5 x6 w):(Instr.field 25 (.agg #[x0,x1,x2,x3,x4,x5,x6]) 6).run prog w=.ok x6 w:=g9
def ak(w:World)(o:Obj):(w.alloc o).heap[w.heap.size]?=some o:=by show(w.heap.push o)[w.heap.size]?=some o;simp
theorem aq{o:Obj}(h:w.heap[b]?=some x):(w.alloc o).heap[b]?=some x:=by
 rw[Below.heap_alloc _ _ _ (jQ2 h)];exact h
def aj(hb:Below B w O)(h:w.heap[b]?=some x)(hl:b<B):O.heap[b]?=some x:=(hb.block b hl).trans h
def kT.cR(j:kT B cs t w w2)(h:w.heap[b]?=some x)(bk:b≠B):w2.heap[b]?=some x:=(j.other b bk).trans h
def kT.aJ(j:kT B cs t w w2)(hD:¬D B):au D D w w2:=λb hb=>⟨hb,j.other b (λe=>hD (e▸hb))⟩
def afp(D:Qx)(W:World)(r:Y)(e:Ending)(W':World):Prop:=∃v',e=.returned v'/\RT (Up D W.heap.size W'.heap.size) W' r v'/\S5 W W'
def fU(hb:Below B W w1):(∀b o,b<B->w1.cell? ⟨b,o,none⟩=W.cell? ⟨b,o,none⟩)/\(∀b o,b<B->w1.frozen? ⟨b,o,none⟩=W.frozen? ⟨b,o,none⟩):=
 ⟨λb o h=>hb.cell (p:=⟨b,o,none⟩) h,λb o h=>hb.frozen (p:=⟨b,o,none⟩) h⟩
def Lo.aJ{n:Nat}(hD:Lo D n)(hb:Below n W A):au D D W A:=λb h=>⟨h,hb.block b (hD b h)⟩
def Lo.mono{n m:Nat}(hD:Lo D n)(h:n<=m):Lo D m:=λb hb=>jQb (hD b hb) h
def Up.mono{n m:Nat}(h:n'<=n)(h':m<=m'):∀b,Up D n m b->Up D n' m' b:=λ_ hb=>hb.imp id (λhh=>⟨jQd h hh.1,jQb hh.2 h'⟩)
def Up.lo{n m:Nat}(hD:Lo D n)(h:n<=m):Lo (Up D n m) m:=λb hb=>by
 obtain hb|hb:=hb
 .exact jQb (hD b hb) h
 .exact hb.2
def Up.of{n m:Nat}:∀b,D b->Up D n m b:=λ_ h=>.inl h
def jr(N:Nat):∀(t r:Y) (v:Value) (W:World) (D:Qx),SizeOf.sizeOf t<=N->bare t=some r->Lo D W.heap.size->RT D W t v->
 Calls prog 96 #[v] W (afp D W r):=by
 induction N with
 |zero=>intro t;cases t;simp
 |succ N ih=>
  intro t r v W D hN hb hD hv;obtain⟨k,n,m,va,nm,tg,l⟩:=t;obtain⟨sl,rfl,hs⟩:=ki.1 hv;by_cases U:k=2
  .subst U;cases l with
   |nil=>simp[bare]at hb
   |cons e l=>
    have dD:bare e=some r:=by simpa[bare]using hb
    obtain⟨b,o,c,rfl,Jd,hc,kN,hE,UN⟩:=gQ.1 hs;obtain⟨k',n',m',va',Wf,tg',l'⟩:=e;obtain⟨sl',c0,c1,c2,c3,c4,c5,c6,oC⟩:=pW.1 hE;have j6:b<W.heap.size:=hD b kN;have hbl1:b<W.heap.size+1:=M
    have hlen:(0:Int)<(l.length:Int)+1:=M
    go_in;go_wp21;have hA:=((jQ5 W.heap.size W).alloc (jQ0 _) (.cells #[.int .i64 2,.int .i64 n,.int .i64 m,.bool va,.string nm,.string tg,.slice (some ⟨b,o,none⟩) (l.length+1) c] 25)).alloc i6 (.cells #[.int .i64 0,.int .i64 0,.int .i64 0,.bool false,.string ⟨#[]⟩,.string ⟨#[]⟩,.slice none 0 0] 25);refine(ih _ _ _ _ D (by simp at hN⊢;omega) dD (hD.mono (by simp;omega)) ((ki.2 ⟨sl',rfl,oC⟩).move (hD.aJ hA))).mono ?_;rintro e w1 ⟨v',rfl,hr,ar⟩;obtain⟨k1,n1,m1,va1,nm1,tg1,l1⟩:=r;obtain⟨sl1,rfl,cz⟩:=ki.1 hr;obtain⟨a1,q1,rfl⟩:=cz.form;have hBW:=hA.trans (ar.mono (by simp;omega));have H:=aj ar (ak _ _) i6;simp only[jQ3]at H hr;clear ar cz;go_wp2_with (refine fN rfl _ _ rfl (W.heap.size+1) rfl rfl H rfl ?_);intro w3 fm;obtain⟨e0,e1,e2,e3,e4,e5,e6⟩:=ao fm.here;go_wp21;refine jRc (v:=.agg #[.int .i64 k1,.int .i64 n1,.int .i64 m1,.bool va1,.string nm1,.string tg1,.slice a1 l1.length q1]) (by simp[results,Tryz.results96,go_sem, *]) rfl ⟨_,rfl,?_,fm.below hBW M⟩;exact hr.move ((fm.aJ (D:=Up D (W.heap.size+1+1) w1.heap.size) (by intro h;obtain h|h:=h;exact absurd (hD _ h) M;omega)).wide (Up.mono M (by rw[fm.size];exact jQ0 _)))
  .have hk:(k==2)=false:=by simp[U]
   by_cases mM:k=14
   .subst mM;have dD:fD=r:=by simpa[fo]using hb
    subst dD;go_in;go_wp21
    trace "B"
    refine jRc (v:=.agg #[.int .i64 10,.int .i64 0,.int .i64 0,.bool false,.string es,.string es,.slice none 0 0]) (by simp[results,Tryz.results96,go_sem];rfl) rfl ⟨_,rfl,?_,?_⟩
    .exact ki.2 ⟨_,rfl,ia.2 ⟨_,_,rfl,λ_=>rfl⟩⟩
    .exact((jQ5 _ _).alloc (jQ0 _) _).alloc i6 _
   .have QZ:(k==14)=false:=by simp[mM]
    have dD:Y.mk k n m va nm tg l=r:=by simpa[fo,U,mM]using hb
    subst dD;obtain⟨a,c,rfl⟩:=hs.form;go_in;go_wp21;refine jRc (v:=.agg #[.int .i64 k,.int .i64 n,.int .i64 m,.bool va,.string nm,.string tg,.slice a l.length c]) (by simp[results,Tryz.results96,go_sem]) rfl ⟨_,rfl,?_,?_⟩
    .exact hv.move ((((au.refl.alloc (λb h=>hD b h) _).alloc (λb h=>by have:=hD b h;simp;omega) _)).wide Up.of)
    .exact((jQ5 _ _).alloc (jQ0 _) _).alloc i6 _
def Pred(D:Qx)(W:World)(g:Nat)(lb:Array Value)(zs:List Y)(p:Y->Option Bool):Prop:=
 ∀(W1:World) (t:Y) (v:Value) (bb:Bool),S5 W W1->t∈zs->RT D W1 t v->p t=some bb->
  Calls prog g (#[v]++lb) W1 λe W2=>e=.returned (.bool bb)/\S5 W1 W2
def abF(W:World)(r:Bool)(e:Ending)(W':World):Prop:=∃q:Int,e=.returned (.int .i64 q)/\decide (q≥0)=r/\S5 W W'
def Qp(zs sl W D)(hs:RS D W zs sl)(hD:Lo D W.heap.size)(g:Nat)(lb:Array Value)(eg:∀args w,(callFunc g args).run prog w=.ok (.enter g args) w)(p:Y->Option Bool)(j:Pred D W g lb zs p)(r:Bool)(hr:anyM p zs=some r):
 Calls prog 43 #[sl,.func (.func g) #[] lb] W (abF W r):=by
 rcases aN.1 hs with⟨rfl,a,c,rfl,ha⟩|⟨bk,b,o,c,rfl,Jd,hc,kN,hC⟩
 .exact M39
 .have hz:zs.length<=9223372036854775807:=M
  have hbW:=hD b kN;go_in;go_wp2
  go_loopg [5,8] zs.length (λgg _ s8 wr=>∃kk:Nat,kk<=zs.length/\zs.length - kk<=gg/\s8=.int .i64 kk/\Aside (S5 W wr)/\Aside (anyM p (zs.drop kk)=some r))
  case atStart=>exact⟨0,jQc _,M,rfl,jQ5 _ W,by simpa[Aside]using hr⟩
  case round=>
   obtain⟨kk,ez,hg,rfl,BW,A⟩:=hrel;by_cases aM:kk<zs.length
   .have aR:(kk:Int)<(zs.length:Int):=M
    obtain⟨t,ht⟩:∃t,zs[kk]?=some t:=⟨zs[kk],by simp[aM]⟩;have hE:=(hC.at ht).move (hD.aJ BW.out) kN;obtain⟨k1,n1,m1,va1,nm1,tg1,a1,ln1,q1,hv,c0,c1,c2,c3,c4,c5,c6⟩:=hE.val;have bL:zs.drop kk=t::zs.drop (kk+1):=M187
    have hA:=A.out;rw[bL,anyM]at hA;obtain⟨bb,mO,hA2⟩:=jQ1.1 hA;have ag:=j wr t _ bb BW.out (jQ8 ht) hv mO;clear hE hA j hr hv ht;exact M19
   .exact M52
def cL(zs sl W D)(hs:RS D W zs sl)(hD:Lo D W.heap.size)(g:Nat)(lb:Array Value)(eg:∀args w,(callFunc g args).run prog w=.ok (.enter g args) w)(p:Y->Option Bool)(j:Pred D W g lb zs p)(r:Bool)(hr:anyM p zs=some r):
 Calls prog 18 #[sl,.func (.func g) #[] lb] W λe W'=>e=.returned (.bool r)/\S5 W W':=by
 go_in;go_wp2_with (go_at_call 43;refine(Qp zs sl W D hs hD g lb eg p j r hr).mono ?_;rintro e O ⟨q,rfl,hq,hb⟩);go_ret;exact⟨by simp[<-hq],hb⟩
def dG(w ws t r v W D)(hu:gt w t=some r)(hD:Lo D W.heap.size)(hw:RD D W w ws)(hv:RT D W t v):
 Calls prog 48 #[ws,v] W (afp D W r):=by
 obtain⟨k,n,m,va,nm,tg,l⟩:=t;obtain⟨sl,rfl,hs⟩:=ki.1 hv;obtain⟨a,c,rfl⟩:=hs.form;obtain⟨t1,hb,hu⟩:=jQ1.1 hu;obtain⟨wa,wc,rfl⟩:=hw.form;go_in;go_wp21;have qm:=aq (o:=.cells #[.int .i64 0,.int .i64 0,.int .i64 0,.bool false,.string ⟨#[]⟩,.string ⟨#[]⟩,.slice none 0 0] 25) (ak W (.cells #[.int .i64 k,.int .i64 n,.int .i64 m,.bool va,.string nm,.string tg,.slice a l.length c] 25));have FT:=ak (W.alloc (.cells #[.int .i64 k,.int .i64 n,.int .i64 m,.bool va,.string nm,.string tg,.slice a l.length c] 25)) (.cells #[.int .i64 0,.int .i64 0,.int .i64 0,.bool false,.string ⟨#[]⟩,.string ⟨#[]⟩,.slice none 0 0] 25);have hA:=((jQ5 W.heap.size W).alloc (jQ0 _) (.cells #[.int .i64 k,.int .i64 n,.int .i64 m,.bool va,.string nm,.string tg,.slice a l.length c] 25)).alloc i6 (.cells #[.int .i64 0,.int .i64 0,.int .i64 0,.bool false,.string ⟨#[]⟩,.string ⟨#[]⟩,.slice none 0 0] 25);refine(jr _ _ _ _ _ D (jQ0 _) hb (hD.mono (by simp;omega)) (hv.move (hD.aJ hA))).mono ?_;rintro e w1 ⟨v',rfl,hr,ar⟩;obtain⟨k1,n1,m1,va1,nm1,tg1,l1⟩:=t1;obtain⟨sl1,rfl,cz⟩:=ki.1 hr;obtain⟨a1,q1,rfl⟩:=cz.form;have hBW:=hA.trans (ar.mono (by simp;omega));have qm:=aj ar qm (by simp;omega);have FT:=aj ar FT i6;simp only[jQ3]at FT hr;clear hA ar hb hv hs cz;go_wp2_with (refine fN rfl _ _ rfl W.heap.size rfl rfl qm rfl ?_);intro w2 fJ;have oW:=hw.move (hD.aJ (fJ.below hBW (jQ0 _))) (fJ.below hBW (jQ0 _)).size (fJ.below hBW (jQ0 _)).block;have nT:=hr.move (fJ.aJ (D:=Up D (W.heap.size+1+1) w1.heap.size) (by intro h;obtain h|h:=h;exact absurd (hD _ h) M;omega));rw[<-fJ.size]at nT;have acf:=fJ.below hBW (jQ0 _);have FT:=fJ.cR FT M;obtain⟨c0,c1,c2,c3,c4,c5,c6⟩:=ao fJ.here;simp only[Y.ld,Y.n]at hu;clear hw hr fJ qm hBW;have LQ:=Z FT;clear FT;by_cases dA:k1=11
 .subst dA;have Hv:0<=n1:=by
   by_cases h:0<=n1
   .exact h
   .simp[h]at hu
  obtain⟨i,rfl⟩:=Int.eq_ofNat_of_zero_le Hv;simp at hu;obtain⟨d,hd,rfl⟩:=hu;have hil:i<w.length:=by
   by_cases h:i<w.length
   .exact h
   .simp[jQx (by omega:w.length<=i)]at hd
  have afq:(i:Int)<(w.length:Int):=M
  rcases oW with⟨rfl,_⟩|⟨_,b,o,c',hwe,Jd,jG,kN,hC⟩
  .simp at hd
  simp at hwe;obtain⟨rfl,rfl⟩:=hwe;obtain⟨hE,ms,jK,hM⟩:=hC.at hd;obtain⟨k2,n2,m2,va2,LG,tg2,a2,ln2,q2,fx,d0,d1,d2,d3,d4,d5,d6⟩:=hE.val;clear hd hE hM jK hC nT;go_wp2_with (refine fN rfl _ _ rfl (W.heap.size+1) rfl rfl LQ.1 rfl ?_);intro w3 fm;obtain⟨e0,e1,e2,e3,e4,e5,e6⟩:=ao fm.here;go_wp21;refine jRc (v:=.agg #[.int .i64 k2,.int .i64 n2,.int .i64 m2,.bool va2,.string LG,.string tg2,.slice a2 ln2 q2]) (by simp[results,Tryz.results48,go_sem, *]) rfl ⟨_,rfl,?_,?_⟩
  .refine fx.move ((fm.aJ ?_).wide (λb h=>.inl h));intro h;exact absurd (hD _ h) M
  .exact fm.below acf M
 .have hk11:(k1==11)=false:=by simp[dA]
  by_cases ka:k1=15
  .subst ka;have Wd:fC=r:=G9 hu
   subst Wd;have hz:=jQ2 LQ.1;go_wp2_with (refine fN rfl _ _ rfl (W.heap.size+1) rfl rfl (aq (aq (aq LQ.1))) rfl ?_);intro w3 fm;obtain⟨e0,e1,e2,e3,e4,e5,e6⟩:=ao fm.here;go_wp21;refine jRc (v:=.agg #[.int .i64 10,.int .i64 0,.int .i64 1,.bool false,.string es,.string es,.slice (some ⟨w2.heap.size+1+1,0,none⟩) 1 1]) (by simp[results,Tryz.results48,go_sem, *];rfl) rfl ⟨_,rfl,?_,fm.below (((acf.alloc M _).alloc (by simp;omega) _).alloc (by simp;omega) _) M⟩;have g2:=fm.cR (ak (((w2.alloc _).alloc _)) _) (by simp only[jQ3];omega);have g1:=fm.cR (aq (ak ((w2.alloc _)) _)) (by simp;omega);simp only[jQ3]at g1 g2;obtain⟨p0,p1,p2,p3,p4,p5,p6⟩:=ao g1;obtain⟨q0,q1,q2,q3,q4,q5,q6⟩:=ao g2;refine ki.2 ⟨_,rfl,gQ.2 ⟨_,_,_,rfl,i6,i6,.inr ⟨M,by rw[fm.size];simp⟩,?_,by simp[RC]⟩⟩;refine pW.2 ⟨_,q0,q1,q2,q3,q4,q5,q6,gQ.2 ⟨_,_,_,rfl,i6,i6,.inr ⟨M,by rw[fm.size];simp⟩,?_,by simp[RC]⟩⟩;exact pW.2 ⟨_,p0,p1,p2,p3,p4,p5,p6,ia.2 ⟨_,_,rfl,λ_=>rfl⟩⟩
  .have hk15:(k1==15)=false:=by simp[ka]
   have Wd:Y.mk k1 n1 m1 va1 nm1 tg1 l1=r:=by simpa[dA,ka]using hu
   subst Wd;go_wp2_with (refine fN rfl _ _ rfl (W.heap.size+1) rfl rfl LQ.1 rfl ?_);intro w3 fm;obtain⟨e0,e1,e2,e3,e4,e5,e6⟩:=ao fm.here;go_wp21;refine jRc (v:=.agg #[.int .i64 k1,.int .i64 n1,.int .i64 m1,.bool va1,.string nm1,.string tg1,.slice a1 l1.length q1]) (by simp[results,Tryz.results48,go_sem, *]) rfl ⟨_,rfl,?_,fm.below acf M⟩;exact nT.move ((fm.aJ (D:=Up D (W.heap.size+1+1) w2.heap.size) (by intro h;obtain h|h:=h;exact absurd (hD _ h) M;omega)).wide (Up.mono M (by rw[fm.size];exact jQ0 _)))
def ef(W:World)(r:Bool)(e:Ending)(W':World):Prop:=e=.returned (.bool r)/\Below W.heap.size W W'
def dh(w ws t)(r:Bool)(v W D)(hu:isIface w t=some r)(hD:Lo D W.heap.size)(hw:RD D W w ws)(hv:RT D W t v):
 Calls prog 21 #[ws,v] W (ef W r):=by
 obtain⟨u,hu,hr⟩:=jQ6.1 hu;obtain⟨k,n,m,va,nm,tg,l⟩:=t;obtain⟨sl,rfl,hs⟩:=ki.1 hv;obtain⟨a,c,rfl⟩:=hs.form;obtain⟨wa,wc,rfl⟩:=hw.form;have hA:=(jQ5 W.heap.size W).alloc (jQ0 _) (.cells #[.int .i64 k,.int .i64 n,.int .i64 m,.bool va,.string nm,.string tg,.slice a l.length c] 25);have ag:=dG w _ _ u _ _ D hu (hD.mono i6) (hw.move (hD.aJ hA) hA.size hA.block) (hv.move (hD.aJ hA));have HR:=Z hr;have HA:=Z hA;clear hr hv hw hu hs hA;go_in;go_wp21;refine ag.mono ?_;rintro e w1 ⟨v1,rfl,fP,ar⟩;obtain⟨k1,n1,m1,va1,nm1,tg1,l1⟩:=u;obtain⟨sl1,rfl,cz⟩:=ki.1 fP;obtain⟨a1,q1,rfl⟩:=cz.form;have HB:=Z (HA.1.trans (ar.mono i6));clear ar ag fP cz;have hR:=HR.1;simp only[Y.ld]at hR;by_cases bH:k1=10
 .subst bH;have h:true=r:=G9 hR
  subst h;clear hR;exact M40
 .have hk:(k1==10)=false:=by simp[bH]
  by_cases ir:k1=16
  .subst ir;have h:true=r:=G9 hR
   subst h;clear hR;exact M40
  .have aiA:(k1==16)=false:=by simp[ir]
   have h:false=r:=by simpa[hk,aiA]using hR
   subst h;clear hR;exact M40
def gB{a b:ByteArray}(h:a=b):(a.toList==b.toList)=true:=by subst h;simp
def jX{a b:ByteArray}(h:¬a=b):(a.toList==b.toList)=false:=by
 simp only[jRk,beq_eq_false_iff_ne,ne_eq];intro e;apply h;cases a;cases b;simp only[ByteArray.mk.injEq];exact Array.toList_inj.1 e
def RT.bR{t:Y}(h:RT D W t v):
 ∃a c,v=.agg #[.int .i64 t.ld,.int .i64 t.n,.int .i64 t.m,.bool t.va,.string t.name,.string t.gc,.slice a t.li.length c]/\RS D W t.li (.slice a t.li.length c):=by
 obtain⟨k,n,m,va,nm,tg,l⟩:=t;obtain⟨sl,rfl,hs⟩:=ki.1 h;obtain⟨a,c,rfl⟩:=hs.form;exact⟨a,c,rfl,hs⟩
def RT.mk'{t:Y}(hs:RS D W t.li sl):
 RT D W t (.agg #[.int .i64 t.ld,.int .i64 t.n,.int .i64 t.m,.bool t.va,.string t.name,.string t.gc,sl]):=by
 obtain⟨k,n,m,va,nm,tg,l⟩:=t;exact ki.2 ⟨sl,rfl,hs⟩
def RE.bR{t:Y}{o:Nat}(h:RE D W t b o):
 ∃a c,W.cell? ⟨b,o,none⟩=some (.int .i64 t.ld)/\W.cell? ⟨b,o+1,none⟩=some (.int .i64 t.n)/\W.cell? ⟨b,o+2,none⟩=some (.int .i64 t.m)/\W.cell? ⟨b,o+3,none⟩=some (.bool t.va)/\
 W.cell? ⟨b,o+4,none⟩=some (.string t.name)/\W.cell? ⟨b,o+5,none⟩=some (.string t.gc)/\W.cell? ⟨b,o+6,none⟩=some (.slice a t.li.length c)/\
 RT D W t (.agg #[.int .i64 t.ld,.int .i64 t.n,.int .i64 t.m,.bool t.va,.string t.name,.string t.gc,.slice a t.li.length c]):=by
 obtain⟨k,n,m,va,nm,tg,l⟩:=t;obtain⟨sl,c0,c1,c2,c3,c4,c5,c6,hs⟩:=pW.1 h;obtain⟨a,c,rfl⟩:=hs.form;exact⟨a,c,c0,c1,c2,c3,c4,c5,c6,ki.2 ⟨_,rfl,hs⟩⟩
def RE.mk'{t:Y}(hs:RS D W t.li sl)(h:W.heap[b]?=some (.cells #[.int .i64 t.ld,.int .i64 t.n,.int .i64 t.m,.bool t.va,.string t.name,.string t.gc,sl] ty f)):RE D W t b 0:=by
 obtain⟨k,n,m,va,nm,tg,l⟩:=t;obtain⟨c0,c1,c2,c3,c4,c5,c6⟩:=ao h;exact pW.2 ⟨sl,c0,c1,c2,c3,c4,c5,c6,hs⟩
structure Cx(D:Qx)(w:List ah)(ws:Value)(W:World):Prop where
 lo:Lo D W.heap.size
 rd:RD D W w ws
def Cx.mv{w:List ah}(h:Cx D w ws W)(hb:S5 W A):Cx D w ws A:=
 ⟨h.lo.mono hb.size,h.rd.move (h.lo.aJ hb) hb.size hb.block⟩
def RT.mv{t:Y}(h:RT D W t v)(hD:Lo D W.heap.size)(hb:S5 W A):RT D A t v:=h.move (hD.aJ hb)
def RS.mv{l:List Y}(h:RS D W l v)(hD:Lo D W.heap.size)(hb:S5 W A):RS D A l v:=h.move (hD.aJ hb)
abbrev bx(t:Y)(a:Option Addr)(c:Nat):Obj:=.cells #[.int .i64 t.ld,.int .i64 t.n,.int .i64 t.m,.bool t.va,.string t.name,.string t.gc,.slice a t.li.length c] 25
abbrev V8(w:World)(B:Nat)(t:Y)(a:Option Addr)(c:Nat):Prop:=
 w.cell? ⟨B,0,none⟩=some (.int .i64 t.ld)/\w.cell? ⟨B,1,none⟩=some (.int .i64 t.n)/\w.cell? ⟨B,2,none⟩=some (.int .i64 t.m)/\w.cell? ⟨B,3,none⟩=some (.bool t.va)/\
 w.cell? ⟨B,4,none⟩=some (.string t.name)/\w.cell? ⟨B,5,none⟩=some (.string t.gc)/\w.cell? ⟨B,6,none⟩=some (.slice a t.li.length c)
abbrev V9(w:World)(B:Nat)(t:Y)(a:Option Addr)(c:Nat)(r:Prop):Prop:=
 w.cell? ⟨B,0,none⟩=some (.int .i64 t.ld)/\w.cell? ⟨B,1,none⟩=some (.int .i64 t.n)/\w.cell? ⟨B,2,none⟩=some (.int .i64 t.m)/\w.cell? ⟨B,3,none⟩=some (.bool t.va)/\
 w.cell? ⟨B,4,none⟩=some (.string t.name)/\w.cell? ⟨B,5,none⟩=some (.string t.gc)/\w.cell? ⟨B,6,none⟩=some (.slice a t.li.length c)/\r
def S9(hb:S5 w O)(hl:B<w.heap.size)(p0:ce w B 0 v0)(p1:ce w B 1 v1)(p2:ce w B 2 v2)(p3:ce w B 3 v3)(p4:ce w B 4 v4)(p5:ce w B 5 v5)(p6:ce w B 6 v6):
 O.cell? ⟨B,0,none⟩=some v0/\O.cell? ⟨B,1,none⟩=some v1/\O.cell? ⟨B,2,none⟩=some v2/\O.cell? ⟨B,3,none⟩=some v3/\O.cell? ⟨B,4,none⟩=some v4/\O.cell? ⟨B,5,none⟩=some v5/\O.cell? ⟨B,6,none⟩=some v6:=
 ⟨(hb.cell (p:=⟨B,0,none⟩) hl).trans p0,(hb.cell (p:=⟨B,1,none⟩) hl).trans p1,(hb.cell (p:=⟨B,2,none⟩) hl).trans p2,(hb.cell (p:=⟨B,3,none⟩) hl).trans p3,(hb.cell (p:=⟨B,4,none⟩) hl).trans p4,(hb.cell (p:=⟨B,5,none⟩) hl).trans p5,(hb.cell (p:=⟨B,6,none⟩) hl).trans p6⟩
def S8{r:Prop}(hb:S5 w O)(hl:B<w.heap.size)(p0:ce w B 0 v0)(p1:ce w B 1 v1)(p2:ce w B 2 v2)(p3:ce w B 3 v3)(p4:ce w B 4 v4)(p5:ce w B 5 v5)(p6:ce w B 6 v6)(h:r):
 O.cell? ⟨B,0,none⟩=some v0/\O.cell? ⟨B,1,none⟩=some v1/\O.cell? ⟨B,2,none⟩=some v2/\O.cell? ⟨B,3,none⟩=some v3/\O.cell? ⟨B,4,none⟩=some v4/\O.cell? ⟨B,5,none⟩=some v5/\O.cell? ⟨B,6,none⟩=some v6/\r:=
 ⟨(hb.cell (p:=⟨B,0,none⟩) hl).trans p0,(hb.cell (p:=⟨B,1,none⟩) hl).trans p1,(hb.cell (p:=⟨B,2,none⟩) hl).trans p2,(hb.cell (p:=⟨B,3,none⟩) hl).trans p3,(hb.cell (p:=⟨B,4,none⟩) hl).trans p4,(hb.cell (p:=⟨B,5,none⟩) hl).trans p5,(hb.cell (p:=⟨B,6,none⟩) hl).trans p6,h⟩
theorem an(W:World)(o:Obj):Below W.heap.size W (W.alloc o):=(jQ5 _ _).alloc (jQ0 _) o
def dT(W)(o p:Obj):S5 W ((W.alloc o).alloc p):=(an W o).alloc i6 p
def pE(W)(o p q:Obj):S5 W (((W.alloc o).alloc p).alloc q):=(dT W o p).alloc (by simp;omega) q
def Cx.up{w:List ah}(h:Cx D w ws W){n:Nat}(hD:Lo D n)(hn:n<=W.heap.size):Cx (Up D n W.heap.size) w ws W:=
 ⟨Up.lo hD hn,h.rd.wide Up.of⟩
def RS.drop{l:List Y}{a:Option Addr}{n c m:Nat}(h:RS D W l (.slice a n c))(hm:m<=l.length):
 ∃a',RS D W (l.drop m) (.slice a' (n - m) (c - m))/\(m<l.length->∀b o,a=some ⟨b,o,none⟩->a'=some ⟨b,o+m*7,none⟩):=by
 rcases aN.1 h with⟨rfl,a1,c1,e,I⟩|⟨bk,b,o,c1,e,I,U,h3,h4⟩
 .simp at e;obtain⟨rfl,rfl,rfl⟩:=e;have:m=0:=G9 hm
  subst this;exact⟨a,aN.2 (.inl ⟨i6,a,c,i6,I⟩),λaM=>absurd aM i6⟩
 .simp at e;obtain⟨rfl,rfl,rfl⟩:=e;by_cases aM:m<l.length
  .refine⟨some ⟨b,o+m*7,none⟩,aN.2 (.inr ⟨?_,b,o+m*7,c - m,i6,?_,M,h3,h4.drop m⟩),λ_ b' o' e=>?_⟩
   .intro e;have:=congrArg List.length e;simp at this;omega
   .simp;omega
   .simp at e;obtain⟨rfl,rfl⟩:=e;rfl
  .have:m=l.length:=M
   subst this;refine⟨some ⟨b,o,none⟩,aN.2 (.inl ⟨i6,some ⟨b,o,none⟩,c - l.length,i6,λe=>by cases e⟩),λaM=>absurd aM i6⟩
def RV(D:Qx)(W:World):List Y->List Value->Prop
 |[],xs=>xs=[]
 |t::l,xs=>∃a c rest,xs=[.int .i64 t.ld,.int .i64 t.n,.int .i64 t.m,.bool t.va,.string t.name,.string t.gc,.slice a t.li.length c]++rest/\RS D W t.li (.slice a t.li.length c)/\RV D W l rest
def RV.length:∀{l:List Y} {xs:List Value},RV D W l xs->xs.length=l.length*7
 |[],xs,h=>by rw[RV]at h;simp[h]
 |t::l,xs,h=>by
  rw[RV]at h;obtain⟨a,c,rest,rfl,_,h⟩:=h;have:=h.length;simp;omega
def RV.one:∀{l:List Y} {xs:List Value},RV D W l xs->∀u∈xs,u.oneCell'=true
 |[],xs,h=>by rw[RV]at h;subst h;intro u hu;simp at hu
 |t::l,xs,h=>by
  rw[RV]at h;obtain⟨a,c,rest,rfl,_,h⟩:=h;intro u hu;rw[jQm]at hu;obtain hu|hu:=hu
  .simp at hu;rcases hu with rfl|rfl|rfl|rfl|rfl|rfl|rfl<;>rfl
  .exact h.one u hu
def RV.append(h':RV D W l' ys):∀{l:List Y} {xs:List Value},RV D W l xs->RV D W (l++l') (xs++ys)
 |[],xs,h=>by rw[RV]at h;subst h;simpa using h'
 |t::l,xs,h=>by
  rw[RV]at h;obtain⟨a,c,rest,rfl,hs,h⟩:=h;rw[jRh,RV];exact⟨a,c,rest++ys,i6,hs,RV.append h' h⟩
def RV.move(hm:au D D' W W'):∀{l:List Y} {xs:List Value},RV D W l xs->RV D' W' l xs
 |[],xs,h=>by rw[RV]at h⊢;exact h
 |t::l,xs,h=>by
  rw[RV]at h⊢;obtain⟨a,c,rest,rfl,hs,h⟩:=h;exact⟨a,c,rest,rfl,hs.move hm,h.move hm⟩
def RV.single{t:Y}{a:Option Addr}{c:Nat}(h:RS D W t.li (.slice a t.li.length c)):
 RV D W [t] [.int .i64 t.ld,.int .i64 t.n,.int .i64 t.m,.bool t.va,.string t.name,.string t.gc,.slice a t.li.length c]:=by
 rw[RV];exact⟨a,c,[],i6,h,by rw[RV]⟩
def RV.rc:∀{l:List Y} {xs:List Value} {o:Nat},RV D W l xs->(∀hp u,xs[hp]?=some u->W.cell? ⟨b,o+hp,none⟩=some u)->RC D W l b o
 |[],_,_,_,_=>by rw[RC];trivial
 |t::l,xs,o,h,hc=>by
  rw[RV]at h;obtain⟨a,c,rest,rfl,hs,h⟩:=h;rw[RC];refine⟨?_,h.rc λhp u hu=>?_⟩
  .obtain⟨k,n,m,va,nm,tg,es⟩:=t;exact pW.2 ⟨_,hc 0 _ rfl,hc 1 _ rfl,hc 2 _ rfl,hc 3 _ rfl,hc 4 _ rfl,hc 5 _ rfl,hc 6 _ rfl,hs⟩
  .have:=hc (7+hp) u (by rw[jQr i6];simpa using hu);rw[show o+7+hp=o+(7+hp)by omega];exact this
def RC.rv:∀{l:List Y} {o:Nat},RC D W l b o->∃xs,RV D W l xs/\(∀hp u,xs[hp]?=some u->W.cell? ⟨b,o+hp,none⟩=some u)
 |[],o,_=>⟨[],by rw[RV],i6⟩
 |t::l,o,h=>by
  rw[RC]at h;obtain⟨a,c,c0,c1,c2,c3,c4,c5,c6,hv⟩:=h.1.bR;obtain⟨a',c',e,hs⟩:=hv.bR;simp at e;obtain⟨rfl,rfl⟩:=e;obtain⟨xs,H,hc⟩:=h.2.rv;refine⟨_++xs,by rw[RV];exact⟨a,c,xs,rfl,hs,H⟩,λhp u hu=>?_⟩;by_cases hj:hp<7
  .rw[jQq (G9 hj)]at hu
   match hp,hj,hu with
   |0,_,hu=>simp at hu;subst hu;exact c0
   |1,_,hu=>simp at hu;subst hu;exact c1
   |2,_,hu=>simp at hu;subst hu;exact c2
   |3,_,hu=>simp at hu;subst hu;exact c3
   |4,_,hu=>simp at hu;subst hu;exact c4
   |5,_,hu=>simp at hu;subst hu;exact c5
   |6,_,hu=>simp at hu;subst hu;exact c6
  .obtain⟨i,rfl⟩:∃i,hp=7+i:=⟨hp - 7,M⟩;rw[jQr i6]at hu;have:=hc i u (G9 hu);rw[show o+(7+i)=o+7+i by omega];exact this
def yd{l:List Y}(h:W.ownsRow base 25 7 v l.length xs)(hv:RV D W l xs)(hD:∀g,v.ownBlock=some g->D g):RS D W l v:=by
 rcases h.2 with⟨rfl,h0⟩|⟨g,cap,cur,rfl,hb,hg,hn,hm,hs,ht⟩
 .have:l=[]:=jQe h0;subst this;exact ia.2 ⟨none,0,rfl,λ_=>rfl⟩
 .by_cases hl:l=[]
  .subst hl;exact ia.2 ⟨_,cap,rfl,λe=>by cases e⟩
  .refine aN.2 (.inr ⟨hl,g,0,cap,rfl,hn,by simp only[maxLen]at hm;omega,hD g rfl,hv.rc λhp u hu=>?_⟩);exact M34
def sg{n:Nat}{k:Nat}(h:W.ownsRow base e size v k xs)(hb:Below n W W')(hn:∀g,v.ownBlock=some g->g<n):W'.ownsRow base e size v k xs:=by
 refine⟨h.1,?_⟩;obtain h0|⟨g,cap,cur,rfl,I,U,h3⟩:=h.2
 .exact .inl h0
 .exact .inr ⟨g,cap,cur,rfl,I,(hb.block g (hn g rfl)).trans U,h3⟩
theorem aw(hg:w.heap[B]?=some (.cells cs t (0,0)))(hp:Nat)(v:Value):kT B (cs.setIfInBounds hp v) t w (w.setCell ⟨B,hp,none⟩ v):=by
 refine⟨?_,?_,?_,rfl,rfl,rfl⟩
 .simp[World.setCell,Array.getElem?_modify,hg]
 .intro b hb;simp[World.setCell,Array.getElem?_modify,Ne.symm hb]
 .simp[World.setCell]
def kT.trans{a:World}(h:kT B cs t a w)(h':kT B Ek t' w w2):kT B Ek t' a w2:=
 ⟨h'.here,λb hb=>(h'.other b hb).trans (h.other b hb),h'.size.trans h.size,h'.os.trans h.os,h'.tape.trans h.tape,h'.output.trans h.output⟩
def aea(hg:w.heap[B]?=some (.cells #[o0,o1,o2,o3,o4,o5,o6] t (0,0)))(v0 v1 v2 v3 v4 v5 v6):
 kT B #[v0,v1,v2,v3,v4,v5,v6] t w (((((((w.setCell ⟨B,0,none⟩ v0).setCell ⟨B,1,none⟩ v1).setCell ⟨B,2,none⟩ v2).setCell ⟨B,3,none⟩ v3).setCell ⟨B,4,none⟩ v4).setCell ⟨B,5,none⟩ v5).setCell ⟨B,6,none⟩ v6):=by
 have g0:kT B #[v0,o1,o2,o3,o4,o5,o6] t w (w.setCell ⟨B,0,none⟩ v0):=by
  have:=aw (w:=w) hg 0 v0;exact M152
 have h0:kT B #[v0,o1,o2,o3,o4,o5,o6] t w (w.setCell ⟨B,0,none⟩ v0):=g0;have g1:kT B #[v0,v1,o2,o3,o4,o5,o6] t (w.setCell ⟨B,0,none⟩ v0) ((w.setCell ⟨B,0,none⟩ v0).setCell ⟨B,1,none⟩ v1):=by
  have:=aw (w:=(w.setCell ⟨B,0,none⟩ v0)) h0.here 1 v1;exact M152
 have I:kT B #[v0,v1,o2,o3,o4,o5,o6] t w ((w.setCell ⟨B,0,none⟩ v0).setCell ⟨B,1,none⟩ v1):=h0.trans g1;have g2:kT B #[v0,v1,v2,o3,o4,o5,o6] t ((w.setCell ⟨B,0,none⟩ v0).setCell ⟨B,1,none⟩ v1) (((w.setCell ⟨B,0,none⟩ v0).setCell ⟨B,1,none⟩ v1).setCell ⟨B,2,none⟩ v2):=by
  have:=aw (w:=((w.setCell ⟨B,0,none⟩ v0).setCell ⟨B,1,none⟩ v1)) I.here 2 v2;exact M152
 have U:kT B #[v0,v1,v2,o3,o4,o5,o6] t w (((w.setCell ⟨B,0,none⟩ v0).setCell ⟨B,1,none⟩ v1).setCell ⟨B,2,none⟩ v2):=I.trans g2;have g3:kT B #[v0,v1,v2,v3,o4,o5,o6] t (((w.setCell ⟨B,0,none⟩ v0).setCell ⟨B,1,none⟩ v1).setCell ⟨B,2,none⟩ v2) ((((w.setCell ⟨B,0,none⟩ v0).setCell ⟨B,1,none⟩ v1).setCell ⟨B,2,none⟩ v2).setCell ⟨B,3,none⟩ v3):=by
  have:=aw (w:=(((w.setCell ⟨B,0,none⟩ v0).setCell ⟨B,1,none⟩ v1).setCell ⟨B,2,none⟩ v2)) U.here 3 v3;exact M152
 have h3:kT B #[v0,v1,v2,v3,o4,o5,o6] t w ((((w.setCell ⟨B,0,none⟩ v0).setCell ⟨B,1,none⟩ v1).setCell ⟨B,2,none⟩ v2).setCell ⟨B,3,none⟩ v3):=U.trans g3;have g4:kT B #[v0,v1,v2,v3,v4,o5,o6] t ((((w.setCell ⟨B,0,none⟩ v0).setCell ⟨B,1,none⟩ v1).setCell ⟨B,2,none⟩ v2).setCell ⟨B,3,none⟩ v3) (((((w.setCell ⟨B,0,none⟩ v0).setCell ⟨B,1,none⟩ v1).setCell ⟨B,2,none⟩ v2).setCell ⟨B,3,none⟩ v3).setCell ⟨B,4,none⟩ v4):=by
  have:=aw (w:=((((w.setCell ⟨B,0,none⟩ v0).setCell ⟨B,1,none⟩ v1).setCell ⟨B,2,none⟩ v2).setCell ⟨B,3,none⟩ v3)) h3.here 4 v4;exact M152
 have h4:kT B #[v0,v1,v2,v3,v4,o5,o6] t w (((((w.setCell ⟨B,0,none⟩ v0).setCell ⟨B,1,none⟩ v1).setCell ⟨B,2,none⟩ v2).setCell ⟨B,3,none⟩ v3).setCell ⟨B,4,none⟩ v4):=h3.trans g4;have g5:kT B #[v0,v1,v2,v3,v4,v5,o6] t (((((w.setCell ⟨B,0,none⟩ v0).setCell ⟨B,1,none⟩ v1).setCell ⟨B,2,none⟩ v2).setCell ⟨B,3,none⟩ v3).setCell ⟨B,4,none⟩ v4) ((((((w.setCell ⟨B,0,none⟩ v0).setCell ⟨B,1,none⟩ v1).setCell ⟨B,2,none⟩ v2).setCell ⟨B,3,none⟩ v3).setCell ⟨B,4,none⟩ v4).setCell ⟨B,5,none⟩ v5):=by
  have:=aw (w:=(((((w.setCell ⟨B,0,none⟩ v0).setCell ⟨B,1,none⟩ v1).setCell ⟨B,2,none⟩ v2).setCell ⟨B,3,none⟩ v3).setCell ⟨B,4,none⟩ v4)) h4.here 5 v5;exact M152
 have h5:kT B #[v0,v1,v2,v3,v4,v5,o6] t w ((((((w.setCell ⟨B,0,none⟩ v0).setCell ⟨B,1,none⟩ v1).setCell ⟨B,2,none⟩ v2).setCell ⟨B,3,none⟩ v3).setCell ⟨B,4,none⟩ v4).setCell ⟨B,5,none⟩ v5):=h4.trans g5;have g6:kT B #[v0,v1,v2,v3,v4,v5,v6] t ((((((w.setCell ⟨B,0,none⟩ v0).setCell ⟨B,1,none⟩ v1).setCell ⟨B,2,none⟩ v2).setCell ⟨B,3,none⟩ v3).setCell ⟨B,4,none⟩ v4).setCell ⟨B,5,none⟩ v5) (((((((w.setCell ⟨B,0,none⟩ v0).setCell ⟨B,1,none⟩ v1).setCell ⟨B,2,none⟩ v2).setCell ⟨B,3,none⟩ v3).setCell ⟨B,4,none⟩ v4).setCell ⟨B,5,none⟩ v5).setCell ⟨B,6,none⟩ v6):=by
  have:=aw (w:=((((((w.setCell ⟨B,0,none⟩ v0).setCell ⟨B,1,none⟩ v1).setCell ⟨B,2,none⟩ v2).setCell ⟨B,3,none⟩ v3).setCell ⟨B,4,none⟩ v4).setCell ⟨B,5,none⟩ v5)) h5.here 6 v6;exact M152
 have h6:kT B #[v0,v1,v2,v3,v4,v5,v6] t w (((((((w.setCell ⟨B,0,none⟩ v0).setCell ⟨B,1,none⟩ v1).setCell ⟨B,2,none⟩ v2).setCell ⟨B,3,none⟩ v3).setCell ⟨B,4,none⟩ v4).setCell ⟨B,5,none⟩ v5).setCell ⟨B,6,none⟩ v6):=h5.trans g6;exact h6
def eT{o:Oper}{a:Act}(mX:o.guard=none)(ty:TypeId)(x y:Operand)(ho:o.op=.store ty x y)(B hp:Nat)(v)(H:a.eval x=.pointer (some ⟨B,hp,none⟩))(hy:a.eval y=v)(t:TypeId)(cur:Array Value)(hg:w.heap[B]?=some (.cells cur t (0,0)))(hi:(P.info? ty).map (·.size)=some v.cells.size)(I:v.cells.all (·.oneCell')=true)(hl:hp+v.cells.size<=cur.size)(cs:Array Value)(OF:cs=(cur.toList.take hp++v.cells.toList++cur.toList.drop (hp+v.cells.size)).toArray)(h:∀w2,kT B cs t w w2->wpList P ops Q rest (a.put o.dst undef) w2):wpList P ops Q (o::rest) a w:=
 wpList_plain mX λ_ hK=>by
  have IP:(storeVar ty ⟨B,hp,none⟩ v).run P w=.ok () (w.setRow B cs):=by
   have:=run_storeCells_at P B hp t v.cells.toList 0 cur w hg (G9 hl) (λu hu=>by have:=Array.all_eq_true_iff_forall_mem.1 I u (G9 hu);exact this);cases hq:P.info? ty with
   |none=>simp[hq]at hi
   |some i=>
    have hs:i.size=v.cells.size:=by simpa[hq]using hi
    subst OF;simp only[Nat.add_zero,Array.length_toList]at this;simp[storeVar,sizeOf,typeInfo,hq,hs,this]
  unfold Oper.wp execOp;simp only[ho,H,hy,Instr.storeAt,Instr.sureAddr,jRp,Sem.run_pure,jR8,IP];exact hK _ _ (h _ (Bo hg (by subst OF;simp;omega)))
def uk{v8:Value}(h:w.heap[B]?=some (.cells #[v0,v1,v2,v3,v4,v5,v6,v7,v8] t f)):
 w.cell? ⟨B,0,none⟩=some v0/\w.cell? ⟨B,1,none⟩=some v1/\w.cell? ⟨B,2,none⟩=some v2/\w.cell? ⟨B,3,none⟩=some v3/\w.cell? ⟨B,4,none⟩=some v4/\w.cell? ⟨B,5,none⟩=some v5/\w.cell? ⟨B,6,none⟩=some v6/\w.cell? ⟨B,7,none⟩=some v7/\w.cell? ⟨B,8,none⟩=some v8:=by
 simp[World.cell?,h]
def nH(h:w.heap[B]?=some (.cells #[v0,v1,v2,v3,v4,v5,v6,v7] t f)):
 w.cell? ⟨B,0,none⟩=some v0/\w.cell? ⟨B,1,none⟩=some v1/\w.cell? ⟨B,2,none⟩=some v2/\w.cell? ⟨B,3,none⟩=some v3/\w.cell? ⟨B,4,none⟩=some v4/\w.cell? ⟨B,5,none⟩=some v5/\w.cell? ⟨B,6,none⟩=some v6/\w.cell? ⟨B,7,none⟩=some v7:=by
 simp[World.cell?,h]
def RV.setName{t:Y}{a:Option Addr}{c:Nat}(s)(h:RS D W t.li (.slice a t.li.length c)):
 RV D W [t.setName s] [.int .i64 t.ld,.int .i64 t.n,.int .i64 t.m,.bool t.va,.string s,.string t.gc,.slice a t.li.length c]:=by
 obtain⟨k,n,m,va,nm,tg,l⟩:=t;rw[RV];exact⟨a,c,[],rfl,h,by rw[RV]⟩
def iC(w:World)(cs:List Value)(t:TypeId):∀hp u,cs[hp]?=some u->(w.alloc (.cells cs.toArray t)).cell? ((⟨w.heap.size,0,none⟩:Addr).add hp)=some u:=by
 intro hp u hu;have xR:(⟨w.heap.size,0,none⟩:Addr).add hp=⟨w.heap.size,hp,none⟩:=by unfold Addr.add;split<;>simp_all
 rw[xR,cell_of_row _ w.heap.size hp cs.toArray t (0,0) (ak w _)];simpa using hu
def Cu:(Tryz.prog.info? 25).map (λi=>(i.zero,i.size,i.bytes))=some (some (.agg #[.int .i64 0,.int .i64 0,.int .i64 0,.bool false,.string es,.string es,.slice none 0 0]),7,88):=g9
def E9{o:Oper}{a:Act}(mX:o.guard=none)(s x:Operand)(ho:o.op=.call {callee:=.builtin .append,args:=#[s,x],argTypes:=#[23,23]})(base:Nat)(v l xs)(hs:a.eval s=v)(aL:w.ownsRow base 25 7 v l.length xs)(D)(nr:RV D w l xs)(ad:Addr)(c:Nat)(l' news)(H:a.eval x=.slice (some ad) l'.length c)(Zw:RV D w l' news)(Cy:∀hp u,news[hp]?=some u->w.cell? (ad.add hp)=some u)(cF:l.length+l'.length<=1099511627776)(cS:base<=w.heap.size)(hD:∀b,D b->b<w.heap.size/\some b≠v.ownBlock)(h:∀v' O xs',O.ownsRow base 25 7 v' (l++l').length xs'->RV D O (l++l') xs'->w.grownBy O v.ownBlock->wpList prog ops Q rest (a.put o.dst v') O):wpList prog ops Q (o::rest) a w:=by
 obtain⟨i0,pn,lA,gj,j7⟩:=info_parts Cu;refine wpList_append_own w mX s x 23 ho base 25 i0 _ 7 88 underlying23 pn lA gj j7 rfl M v l.length xs hs aL ad l'.length c news H Zw.length Cy Zw.one
  (by simp only[maxLen];omega) M cS λv' O I U _=>h v' O (xs++news) (by rw[jQo];exact I) ?_ U
 have hm:au D D w O:=λb hb=>⟨hb,U.block b (hD b hb).1 (hD b hb).2⟩;exact RV.append (Zw.move hm) (nr.move hm)
def Kf(ht:P.underlying t=some (.slice e))(hs:∀w,(Go.sizeOf e).run P w=.ok sz w)(a:Option Addr)(n c m:Nat)(I:m<=n)(w):
 (Instr.slice t (.slice a n c) (some (.int .i64 m)) none none).run P w=.ok (.slice (if c=m then a else a.map (·.add (m*sz))) (n - m) (c - m)) w:=by
 simp[Instr.slice,Instr.sliceBounds,jQj ht,hs,run_sliceBound,I]
def wK(ht:P.underlying t=some (.slice e))(hs:∀w,(Go.sizeOf e).run P w=.ok sz w)(a:Option Addr)(n c m:Nat)(I:m<=c)(w):
 (Instr.slice t (.slice a n c) none (some (.int .i64 m)) none).run P w=.ok (.slice a m c) w:=by
 simp[Instr.slice,Instr.sliceBounds,jQj ht,hs,run_sliceBound,I];intro _;cases a<;>simp[Addr.add]
def RS.from{l:List Y}{a:Option Addr}{n c:Nat}(h:RS D W l (.slice a n c))(hm:jW m l=some l'):
 ∃a' c',(∀w,(Instr.slice 23 (.slice a n c) (some (.int .i64 m)) none none).run prog w=.ok (.slice a' l'.length c') w)/\RS D W l' (.slice a' l'.length c'):=by
 unfold jW at hm;split at hm
 .rename_i hb
  obtain⟨m,rfl⟩:=Int.eq_ofNat_of_zero_le hb.1;simp at hm;have gP:m<=l.length:=M
  subst hm;rcases aN.1 h with⟨rfl,a1,c1,e,I⟩|⟨bk,b,o,c1,e,I,U,h3,h4⟩
  .simp at e gP;obtain⟨rfl,rfl,rfl⟩:=e;subst gP;refine⟨_,_,λw=>Kf underlying23 sizeOf25 a 0 c 0 (jQ0 _) w,aN.2 (.inl ⟨i6,_,c,rfl,?_⟩)⟩;intro H;split at H
   .exact I H
   .cases a with
    |none=>exact I rfl
    |some a=>simp at H
  .simp at e;obtain⟨rfl,rfl,rfl⟩:=e;refine⟨if c=m then some ⟨b,o,none⟩else(some (Addr.mk b o none)).map (·.add (m*7)),c - m,λw=>?_,?_⟩
   .rw[Kf underlying23 sizeOf25 _ _ _ m gP w,List.length_drop]
   .by_cases aM:m<l.length
    .have Kg:¬c=m:=M
     refine aN.2 (.inr ⟨by intro e;have:=congrArg List.length e;simp at this;omega,b,o+m*7,c - m,?_,by simp;omega,M,h3,h4.drop m⟩);by_cases KS:m=0
     .subst KS;simp[Addr.add]
     .simp[Kg,Addr.add];omega
    .have Q9:m=l.length:=M
     subst Q9;refine aN.2 (.inl ⟨i6,_,_,by simp;exact⟨rfl,rfl⟩,λe=>?_⟩);split at e
     .omega
     .simp at e
 .cases hm
def RS.upto{l:List Y}{a:Option Addr}{n c:Nat}(h:RS D W l (.slice a n c))(hm:mq m l=some l'):
 (∀w,(Instr.slice 23 (.slice a n c) none (some (.int .i64 m)) none).run prog w=.ok (.slice a l'.length c) w)/\RS D W l' (.slice a l'.length c):=by
 unfold mq at hm;split at hm
 .rename_i hb
  obtain⟨m,rfl⟩:=Int.eq_ofNat_of_zero_le hb.1;simp at hm;have gP:m<=l.length:=M
  subst hm;rcases aN.1 h with⟨rfl,a1,c1,e,I⟩|⟨bk,b,o,c1,e,I,U,h3,h4⟩
  .simp at e gP;obtain⟨rfl,rfl,rfl⟩:=e;subst gP;exact⟨λw=>wK underlying23 sizeOf25 a 0 c 0 (jQc _) w,aN.2 (.inl ⟨i6,_,c,rfl,I⟩)⟩
  .simp at e;obtain⟨rfl,rfl,rfl⟩:=e;have hl:(l.take m).length=m:=by simp;omega
   refine⟨λw=>?_,?_⟩
   .rw[wK underlying23 sizeOf25 _ _ _ m M w,hl]
   .by_cases h0:m=0
    .subst h0;exact aN.2 (.inl ⟨i6,_,c,rfl,λe=>by cases e⟩)
    .refine aN.2 (.inr ⟨?_,b,o,c,rfl,by rw[hl];omega,U,h3,h4.take m⟩);intro e;rw[e]at hl;simp at hl;omega
 .cases hm
def Og(k:Nat):Prop:=∀(w:List ah) (ws:Value) (t:Y) (r:Bool) (v:Value) (W:World) (D:Qx),general w k t=some r->Lo D W.heap.size->RD D W w ws->RT D W t v->
 Calls prog 50 #[ws,v] W (ef W r)
def gN{a b:Option Bool}(h:po a b=some r):(a=some true/\r=true)\/(a=some false/\b=some r):=by
 obtain⟨x,I,U⟩:=jQ1.1 h;cases x
 .exact .inr ⟨I,G9 U⟩
 .exact .inl ⟨I,G9 U.symm⟩
def cY{a b:Option Bool}(h:fy a b=some r):(a=some false/\r=false)\/(a=some true/\b=some r):=by
 obtain⟨x,I,U⟩:=jQ1.1 h;cases x
 .exact .inl ⟨I,G9 U.symm⟩
 .exact .inr ⟨I,G9 U⟩
def aX{a:Option Bool}(h:bh a=some r):a=some (!r):=by
 obtain⟨x,I,U⟩:=jQ6.1 h;rw[I,<-U];simp
def Ur(k:Nat)(ih:Og k)(w ws e)(r:Bool)(v W D)(Bw:Nat)(j:(if e.ld=12 then some true else if e.ld=13 then some true else po (bh (isIface w e)) (general w k e))=some r)(hD:Lo D W.heap.size)(hw:RD D W w ws)(hv:RT D W e v)(hB:ce W Bw 0 ws):
 Calls prog 100 #[v,.pointer (some ⟨Bw,0,none⟩)] W (ef W r):=by
 have lR:=jQs hB;simp only at lR;obtain⟨k0,n,m,va,nm,tg,l⟩:=e;obtain⟨sl,rfl,hs⟩:=ki.1 hv;obtain⟨a,c,rfl⟩:=hs.form;obtain⟨wa,wc,rfl⟩:=hw.form;have hA:=(jQ5 W.heap.size W).alloc (jQ0 _) (.cells #[.int .i64 k0,.int .i64 n,.int .i64 m,.bool va,.string nm,.string tg,.slice a l.length c] 25);have HA:=Z hA;simp only[Y.ld]at j;obtain⟨HD,HW,HV⟩:=Z3 hD hw hv;clear hA hs hD hw hv;by_cases cQ:k0=12
 .subst cQ;have h:true=r:=G9 j
  subst h;clear j;exact M47
 .have xT:(k0==12)=false:=by simp[cQ]
  by_cases cg:k0=13
  .subst cg;have h:true=r:=G9 j
   subst h;clear j;exact M47
  .have abZ:(k0==13)=false:=by simp[cg]
   simp only[cQ,cg,jR1]at j;rcases gN j with⟨I,rfl⟩|⟨I,U⟩
   .have Q8:=aX I;clear j I;have ag:=dh w _ _ _ _ _ D Q8 (HD.1.mono i6) (HW.1.move (HD.1.aJ HA.1) HA.1.size HA.1.block) (HV.1.move (HD.1.aJ HA.1));clear Q8;go_in;go_wp21;refine ag.mono ?_;rintro e w1 ⟨rfl,ar⟩;have HB:=Z (HA.1.trans (ar.mono i6));clear ar;exact M40
   .have Q8:=aX I;clear j I;have ag:=dh w _ _ _ _ _ D Q8 (HD.1.mono i6) (HW.1.move (HD.1.aJ HA.1) HA.1.size HA.1.block) (HV.1.move (HD.1.aJ HA.1));have H2:=Z U;clear Q8 U;go_in;go_wp21;refine ag.mono ?_;rintro e w1 ⟨rfl,ar⟩;have HB:=Z (HA.1.trans (ar.mono i6));have Ff:ce w1 Bw 0 (.slice wa w.length wc):=(HB.1.cell (p:=⟨Bw,0,none⟩) lR).trans hB;obtain⟨c0,c1,c2,c3,c4,c5,c6⟩:=ao (aj ar (ak W _) i6);have aD:=ih w _ _ _ _ w1 D H2.1 (HD.1.mono HB.1.size) (HW.1.move (HD.1.aJ HB.1) HB.1.size HB.1.block) (HV.1.move (HD.1.aJ HB.1));clear ar;go_wp21;refine aD.mono ?_;rintro e w2 ⟨rfl,cX⟩;have dP:=Z (HB.1.trans (cX.mono HB.1.size));clear cX;go_wp2;go_ret;exact⟨i6,dP.1⟩
section
variable{a:Act}
def t8{id:Nat}{A:World->Prop}(hS:Hd (∀O,A O->S O))(hA:A w.drew)(h:S w.drew->wpAnyH P .any ops Q S ops.size (Array.replicate ops.size false) a w.drew)(hm:P.follows .mixedOrders=true:=by kernel_rfl):(Code.region id ops true).wp P Q a w:=
 jQ9 hm (hS.out _ hA) h
def t7(i:Nat)(h:wpAnyH P md ops Q S fuel (listed.setIfInBounds i true) a' w)(hi:ops[i]?=some oi:=by(simp only[jRa,jR3,jR4];try rfl))(hs:Region.noSelect ops=true:=by kernel_rfl)(hf:Region.free md ops listed i=true:=by kernel_rfl)(hr:(Region.ready md ops listed).contains i=true:=by kernel_rfl)(hQ:∀c a w,Q (.panic c) (a.put oi.dst v) w->Q (.panic c) a w:=by exact λ_ _ _ h=>h)(hw:Region.wanted oi (yielded ops a.tmps)=true:=by kernel_rfl)(hy:∀w,S w->(execOp a.eval oi).run P w=.ok (.value v) w:=by(intro w O6;(try dsimp only at O6);go_simp;try with_reducible rfl))(ha:a.put oi.dst v=a':=by((try simp only[Act.put,jQy,jRe,jRf]);try rfl))(hS:S w:=by assumption):wpAnyH P md ops Q S (fuel+1) listed a w:=
 wpAnyH_take hi hs hf hr hQ (Or.inl ⟨hw,hy⟩) hS (by rw[ha];exact h)
def bg(i:Nat)(h:wpAnyH P md ops Q S fuel (listed.setIfInBounds i true) a' w)(hi:ops[i]?=some oi:=by(simp only[jRa,jR3,jR4];try rfl))(hs:Region.noSelect ops=true:=by kernel_rfl)(hf:Region.free md ops listed i=true:=by kernel_rfl)(hr:(Region.ready md ops listed).contains i=true:=by kernel_rfl)(hQ:∀c a w,Q (.panic c) (a.put oi.dst undef) w->Q (.panic c) a w:=by exact λ_ _ _ h=>h)(hw:Region.wanted oi (yielded ops a.tmps)=false:=by kernel_rfl)(ha:a.put oi.dst undef=a':=by((try simp only[Act.put,jQy,jRe,jRf]);try rfl))(hS:S w:=by assumption):wpAnyH P md ops Q S (fuel+1) listed a w:=
 wpAnyH_take hi hs hf hr hQ (Or.inr ⟨hw,rfl⟩) hS (by rw[ha];exact h)
def t2(i hp:Nat){b c:Act}(h:wpAnyH P md ops Q S fuel ((listed.setIfInBounds i true).setIfInBounds hp true) c w)(pn:ops[i]?=some oi:=by(simp only[jRa,jR3,jR4];try rfl))(hs:Region.noSelect ops=true:=by kernel_rfl)(hf0:Region.free md ops listed i=true:=by kernel_rfl)(Ed:(Region.ready md ops listed).contains i=true:=by kernel_rfl)(hQ0:∀z a w,Q (.panic z) (a.put oi.dst v) w->Q (.panic z) a w:=by exact λ_ _ _ h=>h)(hw0:Region.wanted oi (yielded ops a.tmps)=true:=by kernel_rfl)(hy0:∀w,S w->(execOp a.eval oi).run P w=.ok (.value v) w:=by(intro w O6;(try dsimp only at O6);go_simp;try with_reducible rfl))(ha0:a.put oi.dst v=b:=by((try simp only[Act.put,jQy,jRe,jRf]);try rfl))(Q4:ops[hp]?=some oj:=by(simp only[jRa,jR3,jR4];try rfl))(O7:Region.free md ops (listed.setIfInBounds i true) hp=true:=by kernel_rfl)(fP:(Region.ready md ops (listed.setIfInBounds i true)).contains hp=true:=by kernel_rfl)(hQ1:∀z a w,Q (.panic z) (a.put oj.dst u) w->Q (.panic z) a w:=by exact λ_ _ _ h=>h)(Lc:Region.wanted oj (yielded ops b.tmps)=true:=by kernel_rfl)(FE:∀w,S w->(execOp b.eval oj).run P w=.ok (.value u) w:=by(intro w O6;(try dsimp only at O6);go_simp;try with_reducible rfl))(Ld:b.put oj.dst u=c:=by((try simp only[Act.put,jQy,jRe,jRf]);try rfl))(hS:S w:=by assumption):wpAnyH P md ops Q S (fuel+2) listed a w:=
 t7 i (t7 hp (h) Q4 hs O7 fP hQ1 Lc FE Ld hS) pn hs hf0 Ed hQ0 hw0 hy0 ha0 hS
def t4(i hp k l:Nat){x:Value}{b c e:Act}(h:wpAnyH P md ops Q S fuel ((((listed.setIfInBounds i true).setIfInBounds hp true).setIfInBounds k true).setIfInBounds l true) e w)(pn:ops[i]?=some oi:=by(simp only[jRa,jR3,jR4];try rfl))(hs:Region.noSelect ops=true:=by kernel_rfl)(hf0:Region.free md ops listed i=true:=by kernel_rfl)(Ed:(Region.ready md ops listed).contains i=true:=by kernel_rfl)(hQ0:∀z a w,Q (.panic z) (a.put oi.dst v) w->Q (.panic z) a w:=by exact λ_ _ _ h=>h)(hw0:Region.wanted oi (yielded ops a.tmps)=true:=by kernel_rfl)(hy0:∀w,S w->(execOp a.eval oi).run P w=.ok (.value v) w:=by(intro w O6;(try dsimp only at O6);go_simp;try with_reducible rfl))(ha0:a.put oi.dst v=b:=by((try simp only[Act.put,jQy,jRe,jRf]);try rfl))(Q4:ops[hp]?=some oj:=by(simp only[jRa,jR3,jR4];try rfl))(O7:Region.free md ops (listed.setIfInBounds i true) hp=true:=by kernel_rfl)(fP:(Region.ready md ops (listed.setIfInBounds i true)).contains hp=true:=by kernel_rfl)(hQ1:∀z a w,Q (.panic z) (a.put oj.dst u) w->Q (.panic z) a w:=by exact λ_ _ _ h=>h)(Lc:Region.wanted oj (yielded ops b.tmps)=true:=by kernel_rfl)(FE:∀w,S w->(execOp b.eval oj).run P w=.ok (.value u) w:=by(intro w O6;(try dsimp only at O6);go_simp;try with_reducible rfl))(Ld:b.put oj.dst u=c:=by((try simp only[Act.put,jQy,jRe,jRf]);try rfl))(hi2:ops[k]?=some ok:=by(simp only[jRa,jR3,jR4];try rfl))(zF:Region.free md ops ((listed.setIfInBounds i true).setIfInBounds hp true) k=true:=by kernel_rfl)(nT:(Region.ready md ops ((listed.setIfInBounds i true).setIfInBounds hp true)).contains k=true:=by kernel_rfl)(hQ2:∀z a w,Q (.panic z) (a.put ok.dst x) w->Q (.panic z) a w:=by exact λ_ _ _ h=>h)(oW:Region.wanted ok (yielded ops c.tmps)=true:=by kernel_rfl)(Ko:∀w,S w->(execOp c.eval ok).run P w=.ok (.value x) w:=by(intro w O6;(try dsimp only at O6);go_simp;try with_reducible rfl))(Sq:c.put ok.dst x=d:=by((try simp only[Act.put,jQy,jRe,jRf]);try rfl))(hi3:ops[l]?=some ol:=by(simp only[jRa,jR3,jR4];try rfl))(Wa:Region.free md ops (((listed.setIfInBounds i true).setIfInBounds hp true).setIfInBounds k true) l=true:=by kernel_rfl)(FG:(Region.ready md ops (((listed.setIfInBounds i true).setIfInBounds hp true).setIfInBounds k true)).contains l=true:=by kernel_rfl)(hQ3:∀z a w,Q (.panic z) (a.put ol.dst y) w->Q (.panic z) a w:=by exact λ_ _ _ h=>h)(pX:Region.wanted ol (yielded ops d.tmps)=true:=by kernel_rfl)(hy3:∀w,S w->(execOp d.eval ol).run P w=.ok (.value y) w:=by(intro w O6;(try dsimp only at O6);go_simp;try with_reducible rfl))(ha3:d.put ol.dst y=e:=by((try simp only[Act.put,jQy,jRe,jRf]);try rfl))(hS:S w:=by assumption):wpAnyH P md ops Q S (fuel+4) listed a w:=
 t7 i (t7 hp (t7 k (t7 l (h) hi3 hs Wa FG hQ3 pX hy3 ha3 hS) hi2 hs zF nT hQ2 oW Ko Sq hS) Q4 hs O7 fP hQ1 Lc FE Ld hS) pn hs hf0 Ed hQ0 hw0 hy0 ha0 hS
def rd(i:Nat){o:Oper}(ho:ops[i]?=some o)(h:∀K':Act->World->Prop,Shut (∀a w,S w->(S w->wpAnyH P md ops Q S fuel (listed.setIfInBounds i true) a w)->K' a w)->if Region.wanted o (yielded ops a.tmps)=true then Oper.wp P o a w K' Q else K' (a.put o.dst undef) w)(hr:Region.ready md ops listed=[i]:=by kernel_rfl):wpAnyH P md ops Q S (fuel+1) listed a w:=
 wpAnyH_ready hr i6 (AllReadyH.cons ho h AllReadyH.nil)
end
