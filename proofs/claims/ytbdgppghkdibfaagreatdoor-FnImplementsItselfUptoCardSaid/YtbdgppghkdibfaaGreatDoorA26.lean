import Derived.LoopIn
import Derived.LoopNIn
import Derived.OwnWalkIn
import Derived.RangeFuncBound
import Derived.RangeFuncCalls
import Derived.RangeFuncLeaves
import Derived.RangeFuncNested
import Derived.Shelf.RegionOpen
import Derived.TacticsInMore
import Derived.Test.YtbdgppghkdibfaaGreatDoorA23
import Derived.Test.YtbdgppghkdibfaaGreatDoorA25
set_option linter.all false
set_option maxHeartbeats 16000000
set_option maxRecDepth 20000
namespace Go.Proofs.YtbdgppghkdibfaaGreatDoor
open Go Go.RowKit Go.Lib S P Tryz Go.Shelf
variable{args cs:Array Value}{aO eo fT σ:BS}{B:Bl}{mp v0:Bool}{nm nm0 q s1 s2:ByteArray}{e t x:Y}{Q:Y->Prop}{k0 n0 p0 pos:Int}{NS:List ByteArray}{l:List Y}{ps qs vs xs:List Value}{w:List ah}{K N b b0 base c d fb i hp kk m md n ob pk zi:Nat}{D D' DI:Qx}{a0:Option Addr}{GT:Prop}{S S':Sg}{ty:TypeId}{GA ev fv ms mv p tv ut v v' v6:Value}{W W' W0 W1 W2 O:World}
theorem M134(h:GT:=by
 have I:=aq (o:=.cells #[.int .i64 0,ptr B.pk,.string m.name,.iface 92 (ptr b1),.bool false,.bool false] 173) HSH.1;simp[World.cell?,I]):GT:=h
theorem M165(h:GT:=by
 rw[HMP.1]at j;obtain⟨tt,I,U⟩:=HRP.1 (by first|exact j|trivial);exact⟨tt,UG.1.sle _ _ I,U⟩):GT:=h
theorem M168(h:GT:=by
 rcases bF.2 with⟨rfl,_⟩|⟨g',cap,cur,rfl,_⟩
 .exact⟨_,_,_,rfl⟩
 .exact⟨_,_,_,rfl⟩):GT:=h
theorem M209(h:GT:=by
 rw[HMP.1];exact(UG.1.aJ rG.1.bs wB.heap.size (.inr rfl)).2.trans HVB.1):GT:=h
theorem M23(h:GT:=by
 have na:=Z bk;clear ih hk hn j cG hv qj dr hs cz hl bk eR ar;go_in;go_wp2_with fail;refine ag.mono ?_;rintro e' O ⟨u,aO,rfl,cq,hu⟩;have HP:=Z (show dC NS Q w K B DI σ W (nds t) (λu aO _=>dq aO.S u t) (.returned u) O from⟨u,aO,rfl,(HM.1.trans cq).more (by have:=na.1;omega),hu⟩);clear ag cq hu;exact M21):GT:=h
theorem M25(h:GT:=by
 have OW:=aw hP1.here 2 (.slice a2 vs.length c2);have hP3:=aw OW.here 5 (.bool true);have hP:=(hP1.trans OW).trans hP3;have hM:=(tj.1.md.ng RZ.1 (λb hb=>⟨xf.1.loc b hb,(aC xf.1.own b hb).1⟩)).put hP (lO.1.bs.loc (jQ0 _)) lO.1.gr.size;have KV:∀{ty:TypeId} {xs:List Value} {u:Value},ty≠104->dK B DI σ W0.heap.size wr ty xs u->∀g,u.ownBlock=some g->g≠W.heap.size:=λqy hr g hg e=>by
  obtain⟨_,_,cur,U⟩:=aC hr.own g hg;rw[e,Xg.1]at U;cases U;exact qy rfl
 refine⟨rfl,hM,by simpa[Nb]using hP.here,Fq.1.cR λg hg=>(hP.other g (KV i5 Fq.1 g hg)).trans (RZ.1.block g (aC Fq.1.own g hg).2.1 λe=>?_),wO,⟨cD HO.1 λg hg=>hP.other g (KV i5 xf.1 g hg),xf.1.loc⟩,HFS.1.imp λm p h=>h.move (λ_ _ h=>h) (hP.aJ (lO.1.bs.loc (jQ0 _)).2.1)⟩;obtain⟨_,_,cur,U⟩:=aC Fq.1.own g hg;obtain⟨_,_,adF,h3⟩:=aC xf.1.own g e;rw[U]at h3;cases h3):GT:=h
theorem kT.drew{t:TypeId}{w:World}(h:kT b cs t w O):kT b cs t w O.drew:=⟨h.here,h.other,h.size,h.os,h.tape,h.output⟩
@[go_sem ↓] theorem agK(v:Value)(x:TypeId)(w:World):(Instr.typeAssert (.iface 92 v) x 92 false).run prog w=.ok v w:=g9
theorem Io{α β:Type}{R:α->β->Prop}:∀{l:List α} {m:List β},All2 R l m->∀{i:Nat} {p:β},m[i]?=some p->∃a,l[i]?=some a/\R a p
 |[],[],_,i,p,h=>by simp at h
 |x::l,[],h,_,_,_=>h.elim
 |[],y::m,h,_,_,_=>h.elim
 |x::l,y::m,h,0,a,ha=>by simp at ha;subst ha;exact⟨x,rfl,h.1⟩
 |x::l,y::m,h,i+1,a,ha=>Io (l:=l) (m:=m) h.2 (by simpa using ha)
theorem dK.nth(h:dK B DI σ base W ty ps v)(hi:ps[i]?=some p):∃b c,v=.slice (some ⟨b,0,none⟩) ps.length c/\W.cell? ⟨b,i,none⟩=some p:=by
 rcases h.own.2 with⟨rfl,h0⟩|⟨g',cap,cur,rfl,k1,k2,k3⟩
 .have:=jQe h0;subst this;simp at hi
 .exact⟨g',cap,rfl,by have:=h.own.cells (g:=g') rfl i p hi;rw[<-this];congr 1;unfold Addr.add;split<;>simp_all⟩
abbrev Nb(c:Bool)(a1 a2:Value):Array Value:=#[.pointer none,a1,a2,.pointer none,.bool false,.bool c,.pointer none]
theorem Fo(cq:Md NS Q w K B DI eo W0 n σ W)(fP:dK B DI σ W0.heap.size W 97 ps mv)(hf:All2 (QV σ.S σ.D W W0.heap.size) l ps)(nT:dK B DI σ W0.heap.size W 37 vs ev)(bk:0<ps.length\/0<vs.length)(hn:∀m∈l,wM m.name/\m.name.size<=9223372036854775807)(uu:(l.map (·.name)).Nodup)(cF:l.length<=1099511627776):
 Calls prog 121 #[mv,ev] W λe W'=>e=.returned (ptr W.heap.size)/\Md NS Q w K B DI eo W0 n σ W'/\W'.heap[W.heap.size]?=some (.cells (Nb true mv ev) 104 (0,0))/\
  dK B DI σ W0.heap.size W' 37 vs ev/\∃wO,dK B DI σ W0.heap.size W' 97 wO mv/\All2 (λm p=>sK σ.S σ.D W' m.name m p) (ib l) wO:=by
 obtain⟨a1,c1,rfl, -⟩:=fP.form;obtain⟨a2,c2,rfl, -⟩:=nT.form;have ar:=an W (.cells (Nb false (.slice none 0 0) (.slice none 0 0)) 104);have QW:QX NS Q w K B DI eo W0 n σ (W.alloc (.cells (Nb false (.slice none 0 0) (.slice none 0 0)) 104)) (W.alloc (.cells (Nb false (.slice none 0 0) (.slice none 0 0)) 104)):=⟨cq.below ar,jQ0 _,λ_ _ _=>rfl,λb q p a r v h=>⟨q,h⟩⟩;have aa7:=cq.bs.th.mT;have jf:=Z (show Lo σ.D (W.alloc (.cells (Nb false (.slice none 0 0) (.slice none 0 0)) 104)).heap.size from aa7.mono ar.size);have Kl:Gr B σ σ W (W.alloc (.cells (Nb false (.slice none 0 0) (.slice none 0 0)) 104)):=Gr.below ar;have HR1:=Z (fP.gr Kl);have OV:=Z (nT.gr Kl);have HF:=Z (show All2 (QV σ.S σ.D (W.alloc (.cells (Nb false (.slice none 0 0) (.slice none 0 0)) 104)) W0.heap.size) l ps from hf.imp λm p h=>by
  obtain⟨hk,b,pos,pk,sb,q,pa,re,I,U,h3,h4,h5,h6,h7⟩:=h;exact⟨hk,b,pos,pk,sb,q,pa,re,I,U,aq h3,h4,h5,aq h6,h7.move λb hb=>⟨hb,ar.block b (aa7 b hb)⟩⟩)
 have rO:ps.length<=9223372036854775807:=by have:=HF.1.len;omega
 obtain⟨lO,adE,HN,Xd,kr⟩:=Z5 cq QW hn uu cF;have hc:=tf W;clear ar QW aa7 Kl fP nT hf cq hn uu cF;by_cases h0:0<ps.length
 .have lA:((ps.length:Int)==0)=false:=by(have:¬(ps.length:Int)=0:=M);simp[this];intro e;rw[e]at h0;simp at h0
  clear bk h0;go_in;go_wp2_with fail;refine rv hc ?_;clear hc;go_wp2_with fail
  go_loopg [23] ps.length (λgg s23 wr=>∃(kk:Nat),kk<=ps.length/\ps.length - kk<=gg/\s23=.int .i64 kk/\QX NS Q w K B DI eo W0 n σ (W.alloc (.cells (Nb false (.slice none 0 0) (.slice none 0 0)) 104)) wr)
  case atStart=>exact⟨0,jQc _,M,rfl,adE.1⟩
  case round=>
   obtain⟨kk,ez,hg,rfl,QW⟩:=hrel;have tj:=Z QW;by_cases aM:kk<ps.length
   .have aR:(kk:Int)<(ps.length:Int):=M
    obtain⟨p,j⟩:∃p,ps[kk]?=some p:=⟨ps[kk]'aM,by simp[aM]⟩;obtain⟨x,H,hfx⟩:=Io HF.1 j;obtain⟨Ip,fb,pos,pk,sb,q,pa,re,rfl,uw,hfb,rN,yW,KU,Hm⟩:=tj.1.fn jf.1 hfx;obtain⟨b9,c9,e9,hc9⟩:=(tj.1.row HR1.1).nth j;simp at e9;obtain⟨rfl,rfl⟩:=e9;obtain⟨f0,f1,f2,f3⟩:wr.cell? ⟨fb,0,none⟩=some (.int .i64 pos)/\wr.cell? ⟨fb,1,none⟩=some (.pointer pk)/\wr.cell? ⟨fb,2,none⟩=some (.string x.name)/\wr.cell? ⟨fb,3,none⟩=some (.iface 92 (ptr sb)):=by simp[World.cell?,hfb]
    have s0:wr.cell? ⟨sb,0,none⟩=some (.pointer q):=by simp[World.cell?,KU]
    have s9:wr.frozen? ⟨sb,0,none⟩=false:=by simp[World.frozen?,KU]
    obtain⟨ZG,na,HFB,wL,HBZ,Hn⟩:=Z6 KU (show fb≠sb from λe=>tj.1.md.bs.th.rS sb _ rN (e▸uw)) hfb rN yW Ip;clear QW KU hfb rN yW Ip hfx H j uw Hm;cases q with
    |some q=>
     go_wp2_with fail;go_roundg (ps.length - (kk+1))
     case measure=>omega
     case rel=>exact⟨kk+1,M,M,by go_num,tj.1⟩
    |none=>
     have Fp:(aG x).ld=7:=by obtain⟨k1, -⟩:=fa (t:=x) (by have:=Hn.1;omega) (by have:=Hn.1;omega) (by have:=Hn.1;omega) (by have:=Hn.1;omega);rw[k1];exact Hn.1
     have iL:(aG x).va=x.va:=by obtain⟨-, -, -,k4, -⟩:=fa (t:=x) (by have:=Hn.1;omega) (by have:=Hn.1;omega) (by have:=Hn.1;omega) (by have:=Hn.1;omega);exact k4
     have HS7:=Z Fp;have Km:=Z iL;clear Fp iL;clear s9;go_wp2_with fail;refine jQ9 (S:=(λO=>O.cell? ⟨fb,0,none⟩=some (.int .i64 pos)/\O.cell? ⟨fb,1,none⟩=some (.pointer pk))) g9 (⟨f0,f1⟩) (λai=>?_);refine t4 0 1 2 3 ?_;refine t4 4 5 6 7 ?_;refine t4 8 9 10 11 ?_;refine t7 12 ?_;refine rd 13 rfl λK hK=>?_;go_simp;refine rv (iB _ _ _ _ _ _ _) ?_;have hh:=ai;clear ai;have Xe:(wr.alloc (.cells #[.int .i64 pos,.pointer pk,.string ⟨#[]⟩,.iface 33 (ptr W.heap.size),.int .u8 3,.bool false] 164)).heap[sb]?=_:=aq ZG.1;have Xf:(wr.alloc (.cells #[.int .i64 pos,.pointer pk,.string ⟨#[]⟩,.iface 33 (ptr W.heap.size),.int .u8 3,.bool false] 164)).cell? ⟨sb,0,none⟩=some (.pointer none):=by simp[World.cell?,Xe]
     have j7:(wr.alloc (.cells #[.int .i64 pos,.pointer pk,.string ⟨#[]⟩,.iface 33 (ptr W.heap.size),.int .u8 3,.bool false] 164)).frozen? ⟨sb,0,none⟩=false:=by simp[World.frozen?,Xe]
     have lZ:=Z (aw Xe 0 (ptr wr.heap.size));have nb:=Z (tj.1.set (an wr (.cells #[.int .i64 pos,.pointer pk,.string ⟨#[]⟩,.iface 33 (ptr W.heap.size),.int .u8 3,.bool false] 164)) wL.1 HS7.1 HBZ.1 (by rw[Km.1];exact ZG.1) (by rw[Km.1];exact lZ.1.drew));clear Xe;refine hK.out _ _ ⟨((an _ _).cell (jQs hh.1)).trans hh.1,((an _ _).cell (jQs hh.2)).trans hh.2⟩ (λai=>?_);clear hK K;refine t2 14 15 ?_;refine rd 16 rfl λK hK=>?_;go_simp;have hh:=ai;clear ai;refine hK.out _ _ ⟨(jQi (w:=(wr.alloc (.cells #[.int .i64 pos,.pointer pk,.string ⟨#[]⟩,.iface 33 (ptr W.heap.size),.int .u8 3,.bool false] 164))) (lZ.1.other fb na.1)).trans hh.1,(jQi (w:=(wr.alloc (.cells #[.int .i64 pos,.pointer pk,.string ⟨#[]⟩,.iface 33 (ptr W.heap.size),.int .u8 3,.bool false] 164))) (lZ.1.other fb na.1)).trans hh.2⟩ (λai=>?_);clear hK K;refine jQl g9 ?_ _;clear ai Xf j7;go_wp2_with fail;go_roundg (ps.length - (kk+1))
     case measure=>omega
     case rel=>exact⟨kk+1,M,M,by go_num,nb.1⟩
   .have aR:¬(kk:Int)<(ps.length:Int):=M
    have fP:=tj.1.row HR1.1;have nT:=tj.1.row OV.1;have VV:=HF.1.imp λm p h=>(tj.1.fn jf.1 h).fn;have ag:=uN fP.own VV HN.1 Xd.1 kr.1 (λg hg=>(fP.loc g hg).2.1) tj.1.md.bs.th.mT tj.1.md.bs.th.td;have Dc:=tj.1.cR W.heap.size (by rw[jQ3];omega) (lO.1.bs.loc (jQ0 _)).1;rw[ak]at Dc;obtain⟨Fq,xf,Xg⟩:=Z3 nT fP Dc;clear fP nT VV Dc QW;go_wp2_with fail;refine ag.mono ?_;rintro e' wA ⟨rfl,⟨wO,ho,mR,QY⟩,qA⟩;obtain⟨HO,HFS,RZ,HPL⟩:=Z4 ho QY qA mR;have Dc:=(qA.block W.heap.size (jQ2 Xg.1) (λe=>by
     obtain⟨_,_,cur,U⟩:=aC xf.1.own _ e;rw[Xg.1]at U;cases U)).trans Xg.1
    have g1:wA.cell? ⟨W.heap.size,1,none⟩=some (.slice none 0 0):=by simp[World.cell?,Dc]
    have g2:wA.cell? ⟨W.heap.size,2,none⟩=some (.slice none 0 0):=by simp[World.cell?,Dc]
    have g5:wA.cell? ⟨W.heap.size,5,none⟩=some (.bool false):=by simp[World.cell?,Dc]
    have f1:∀i,wA.frozen? ⟨W.heap.size,i,none⟩=false:=λi=>by simp[World.frozen?,Dc]
    have HGJ:=Z Dc;clear ag ho QY qA mR Dc;go_wp2;go_ret;have hP1:=aw HGJ.1 1 (.slice a1 ps.length c1);exact M25
 .have Ft:ps=[]:=by cases ps with
   |nil=>rfl
   |cons _ _=>exact absurd (Nat.zero_lt_succ _) h0
  have fV:l=[]:=by
   have:=HF.1.len;rw[Ft]at this;exact jQe this
  subst Ft;subst fV;have gj:((vs.length:Int)==0)=false:=by
   have I:0<vs.length:=bk.resolve_left i6;simp;intro e;rw[e]at I;simp at I
  clear bk h0;simp only[List.length_nil];go_in;go_wp2_with fail;refine rv hc ?_;clear hc;go_wp2_with fail
  go_loopg [23] 0 (λgg s23 wr=>∃(kk:Nat),s23=.int .i64 kk/\QX NS Q w K B DI eo W0 n σ (W.alloc (.cells (Nb false (.slice none 0 0) (.slice none 0 0)) 104)) wr)
  case atStart=>exact⟨0,rfl,adE.1⟩
  case round=>
   obtain⟨kk,rfl,QW⟩:=hrel;have tj:=Z QW;have aR:¬(kk:Int)<0:=M
   have fP:=tj.1.row HR1.1;have nT:=tj.1.row OV.1;have VV:=HF.1.imp λm p h=>(tj.1.fn jf.1 h).fn;have ag:=uN fP.own VV HN.1 Xd.1 kr.1 (λg hg=>(fP.loc g hg).2.1) tj.1.md.bs.th.mT tj.1.md.bs.th.td;have Dc:=tj.1.cR W.heap.size (by rw[jQ3];omega) (lO.1.bs.loc (jQ0 _)).1;rw[ak]at Dc;obtain⟨Fq,xf,Xg⟩:=Z3 nT fP Dc;clear fP nT VV Dc QW;go_wp2_with fail;refine ag.mono ?_;rintro e' wA ⟨rfl,⟨wO,ho,mR,QY⟩,qA⟩;obtain⟨HO,HFS,RZ,HPL⟩:=Z4 ho QY qA mR;have Dc:=(qA.block W.heap.size (jQ2 Xg.1) (λe=>by
    obtain⟨_,_,cur,U⟩:=aC xf.1.own _ e;rw[Xg.1]at U;cases U)).trans Xg.1
   have g1:wA.cell? ⟨W.heap.size,1,none⟩=some (.slice none 0 0):=by simp[World.cell?,Dc]
   have g2:wA.cell? ⟨W.heap.size,2,none⟩=some (.slice none 0 0):=by simp[World.cell?,Dc]
   have g5:wA.cell? ⟨W.heap.size,5,none⟩=some (.bool false):=by simp[World.cell?,Dc]
   have f1:∀i,wA.frozen? ⟨W.heap.size,i,none⟩=false:=λi=>by simp[World.frozen?,Dc]
   have HGJ:=Z Dc;clear ag ho QY qA mR Dc;go_wp2;go_ret;have hP1:=aw HGJ.1 1 (.slice a1 0 c1);exact M25
theorem Md.made(h:Md NS Q w K B DI eo W0 n σ W)(hg:W.grownBy W1 σ.mv.ownBlock)(aL:W1.ownsRow 0 33 1 v' (σ.ml++[b]).length ((σ.ml++[b]).map ptr))(hv:v'.ownBlock=σ.mv.ownBlock\/v'.ownBlock=some W.heap.size)(j:kT B.bb #[ptr B.pk,B.dv,B.ev,B.cv,v'] 58 W1 W')(hb:∃t,σ.S b=some (aG t)/\t.ld=10/\PT NS Q w 0 t):Md NS Q w K B DI eo W0 (n+1) {σ with mv:=v',ml:=σ.ml++[b]} W':=by
 have j8:=hg.size;have aff:=j.size;have aM:=h.bs.lt;have heq:∀g,g<W.heap.size->g≠B.bb->σ.mv.ownBlock≠some g->W'.heap[g]?=W.heap[g]?:=λg I U h3=>(j.other g U).trans (hg.block g I λe=>h3 e.symm);have hS:∀g s,σ.S g=some s->W'.heap[g]?=W.heap[g]?:=λg s hs=>heq g (h.bs.th.lI g s hs) (λe=>by have:=h.bs.kJ.1;rw[<-e,hs]at this;cases this) λe=>by have:=(h.bs.gY g e).1;rw[hs]at this;cases this
 have hD:∀g,σ.D g->W'.heap[g]?=W.heap[g]?:=λg hd=>heq g (h.bs.th.mT g hd) (λe=>h.bs.kJ.2 (e▸hd)) λe=>(h.bs.gY g e).2.1 hd;have hm:au σ.D σ.D W W':=λg hb=>⟨hb,hD g hb⟩;have hz:W.heap.size<=W'.heap.size:=M
 have lA:=h.gr.size;refine⟨⟨h.bs.th.cR hz hS hD,j.here,h.bs.Rm.move hm,h.bs.row.move hm,h.bs.rn,h.bs.dl,h.bs.ev,h.bs.cv,h.bs.kJ,?_,?_,?_,?_,h.bs.ifs⟩,?_,?_⟩
 .refine cD aL λg Qd=>j.other g λe=>?_;obtain hv|hv:=hv
  .rw[hv]at Qd;exact(h.bs.gY g Qd).2.2 e
  .rw[hv]at Qd;cases Qd;have:=aM.1;omega
 .intro g Qd
  change v'.ownBlock=some g at Qd
  obtain hv|hv:=hv
  .exact h.bs.gY g (hv▸Qd)
  .rw[hv]at Qd;cases Qd;have:=h.bs.loc (g:=W.heap.size) (jQ0 _);exact⟨this.1,this.2.1,this.2.2.1⟩
 .intro b' dD
  change b'∈σ.ml++[b]at dD
  rcases jQm.1 dD with dD|dD
  .exact h.bs.made b' dD
  .rw[List.mem_singleton]at dD;subst dD;exact hb
 .intro g hd;obtain⟨d1,d2,d3,d4⟩:=h.bs.di g hd;refine⟨M,d2,λe=>?_,d4⟩
  change v'.ownBlock=some g at e
  obtain hv|hv:=hv
  .exact d3 (hv▸e)
  .rw[hv]at e;cases e;omega
 .refine⟨j.os.trans (hg.os.trans h.gr.os),j.tape.trans (hg.tape.trans h.gr.tape),j.output.trans (hg.output.trans h.gr.output),M,λg hl hn ho=>?_,h.gr.sle,h.gr.uF,h.gr.xQ,h.gr.Jo,h.gr.Jp,?_⟩
  .refine(heq g M hn λe=>?_).trans (h.gr.block g hl hn ho);obtain e'|⟨g',e',nG⟩:=h.gr.MQ
   .exact ho (e'.symm.trans e)
   .rw[e']at e;cases e;omega
  .change v'.ownBlock=_\/∃g,v'.ownBlock=some g/\_
   obtain hv|hv:=hv
   .rw[hv];exact h.gr.MQ
   .exact .inr ⟨_,hv,lA⟩
 .have:=h.len
  change (σ.ml++[b]).length<=_
  rw[jQo];simp;omega
theorem xV(h:PT NS Q w md t)(hk:t.ld=10):0<=t.m/\t.m<=(t.li.length:Int)/\((own t).Pairwise λa b=>bB a b=true)/\((own t).map (·.name)).Nodup/\(∀e∈own t,e.ld=7/\isName e.name=true/\e.name∈NS)/\PT NS Q w 0 t:=by
 cases h with
 |basic a b=>simp[Y.ld]at hk
 |uni a=>simp only[Y.ld]at hk;omega
 |named a b c=>simp[Y.ld]at hk
 |al a b I=>simp only[Y.ld]at hk;omega
 |st a b I=>simp[Y.ld]at hk
 |ifc a b c d e g I U q=>exact⟨a,b,d,e,λx H=>g x H,.ifc a b c d e g I U q⟩
 |one a b c I=>simp only[Y.ld]at hk;omega
 |mp I U=>simp[Y.ld]at hk
 |fn a b c I=>simp[Y.ld]at hk
 |ti a I=>simp[Y.ld]at hk
 |un a b c I=>simp[Y.ld]at hk
theorem Qe(h:l.Pairwise λa b=>bB a b=true):ib l=l:=by
 unfold ib;refine List.mergeSort_of_pairwise (h.imp λ{a b} Bh=>?_);rw[fY]at Bh⊢;simp only[decide_eq_true_eq]at Bh;have:=List.lt_asymm Bh;simp[this]
theorem afg(h:Md NS Q w K B DI eo W0 n σ W)(hk:t.ld=10)(Ft:PT NS Q w 0 t)(hl:Loc B DI σ zi)(hz:W0.heap.size<=zi)(hh:W.heap[zi]?=some (.cells (Nb true ms GA) 104 (0,0)))(fP:dK B DI σ W0.heap.size W 97 ps ms)(nT:dK B DI σ W0.heap.size W 37 vs GA)(hf:All2 (λm p=>sK σ.S σ.D W m.name m p) (own t) ps)(he:All2 (λe v=>dq σ.S v e) (bN t) vs):
 ∃fT,Md NS Q w K B DI eo W0 n fT W/\fT.S zi=some (aG t)/\fT.mv=σ.mv/\fT.ml=σ.ml:=by
 obtain⟨k1,k2,k3,k4,k5⟩:=fa (t:=t) M M M M;obtain⟨o1,o2⟩:=zA (t:=t) M M M M;have hM:=h.lW (λb=>ms.ownBlock=some b\/GA.ownBlock=some b) (λb hb=>by
  obtain hb|hb:=hb
  .obtain⟨q1,q2,cur,q3⟩:=aC fP.own b hb;exact⟨⟨fP.loc b hb,q1⟩,_,_,_,q3⟩
  .obtain⟨q1,q2,cur,q3⟩:=aC nT.own b hb;exact⟨⟨nT.loc b hb,q1⟩,_,_,_,q3⟩)
 have bk:¬(ms.ownBlock=some zi\/GA.ownBlock=some zi):=by
  rintro(hb|hb)
  .obtain⟨_,_,cur,q3⟩:=aC fP.own _ hb;rw[hh]at q3;cases q3
  .obtain⟨_,_,cur,q3⟩:=aC nT.own _ hb;rw[hh]at q3;cases q3
 have fh:=hl.lW (P:=λb=>ms.ownBlock=some b\/GA.ownBlock=some b) bk;have hS:=fG (s:=aG t) hl.1;have eR:au σ.D (λb=>σ.D b\/(ms.ownBlock=some b\/GA.ownBlock=some b)) W W:=λb hb=>⟨.inl hb,rfl⟩;have cP:iJ (cE σ.S zi (aG t)) (λb=>σ.D b\/(ms.ownBlock=some b\/GA.ownBlock=some b)) W zi (aG t) (.pointer none):=
  ⟨ms,GA,ps,vs,hh,fP.row λg hg=>.inr (.inl hg),nT.row λg hg=>.inr (.inr hg),by rw[o1];exact hf.imp λm p j=>j.move hS eR,by rw[o2];exact he.imp λe v hv=>hv.mono hS⟩
 exact⟨_,hM.add fh hz hh (λhi=>by unfold cI at hi;omega) ⟨M,M,M,M,M,M,M,M,M,λ_=>⟨_,cP⟩,M⟩ (λ_=>⟨⟨_,cP,.inl ⟨rfl,by rw[k1];exact hk⟩⟩,.inr ⟨t,rfl,hk,Ft⟩⟩),fH _ _ _,rfl,rfl⟩
theorem YT(hK:1<=K)(hk:t.ld=10)(j:PT NS Q w 2 t)(hn:∀m∈own t,wM m.name/\m.name.size<=9223372036854775807)(cF:(own t).length<=1099511627776)(cq:Md NS Q w K B DI eo W0 n σ W)(fP:dK B DI σ W0.heap.size W 97 ps mv)(hf:All2 (QV σ.S σ.D W W0.heap.size) (own t) ps)(nT:dK B DI σ W0.heap.size W 37 vs ev)(he:All2 (λe v=>dq σ.S v e) (bN t) vs):
 Calls prog 121 #[mv,ev] W λe W'=>∃b fT,e=.returned (ptr b)/\Md NS Q w K B DI eo W0 n fT W'/\fT.S b=some (aG t)/\fT.mv=σ.mv/\fT.ml=σ.ml:=by
 obtain⟨f0,f1,f2,f3,f4,f5⟩:=xV j hk;by_cases h0:0<ps.length\/0<vs.length
 .refine(Fo cq fP hf nT h0 hn f3 cF).mono ?_;rintro e' W' ⟨rfl,hM,hh,nr,wO,hrp,hfv⟩;rw[Qe f2]at hfv;obtain⟨fT,g1,g2,g3,g4⟩:=afg hM hk f5 (cq.bs.loc (jQ0 _)) cq.gr.size hh hrp nr hfv he;exact⟨_,fT,rfl,g1,g2,g3,g4⟩
 .have Ft:ps=[]:=jQe M;have qj:vs=[]:=jQe M;have hl:=hf.len;have fh:=he.len;rw[Ft]at hl;rw[qj]at fh;have lT:t.li=[]:=by
   have I:own t=[]:=jQe hl;have U:bN t=[]:=jQe fh;unfold own at I;unfold bN at U;rw[<-jRo t.m.toNat t.li,I,U];rfl
  obtain⟨a1,c1,rfl, -⟩:=fP.form;obtain⟨a2,c2,rfl, -⟩:=nT.form;subst Ft;subst qj;obtain⟨k1,k2,k3,k4,k5⟩:=fa (t:=t) M M M M;refine(Mi a1 a2 c1 c2 W).mono ?_;rintro e' W' ⟨rfl,rfl⟩;exact⟨_,_,rfl,ab7 cq hK (s:=aG t) M (by rw[k5];exact lT) ⟨t,rfl,hk,f5⟩,fH _ _ _,rfl,rfl⟩
theorem QV.stay(hS:EH S S')(hD:∀b,D b->D' b)(I:∀b,D b->W'.heap[b]?=W.heap[b]?)(U:∀b s,S b=some s->W'.heap[b]?=W.heap[b]?)(h:QV S D W base x p):QV S' D' W' base x p:=by
 obtain⟨hk,b,pos,pk,sb,q,pa,re,g1,g2,g3,g4,g5,g6,g7⟩:=h;exact⟨hk,b,pos,pk,sb,q,pa,re,g1,hD b g2,(I b g2).trans g3,hS _ _ g4,g5,(U sb _ g4).trans g6,g7.move λb hb=>⟨hD b hb,I b hb⟩⟩
theorem Gr.types(h:Gr B σ aO W W')(hb:Bs NS Q w K B DI σ W):∀b s,σ.S b=some s->W'.heap[b]?=W.heap[b]?:=λb s hs=>h.block b (hb.th.lI b s hs) (λe=>by have:=hb.kJ.1;rw[<-e,hs]at this;cases this) λe=>by have:=(hb.gY b e).1;rw[hs]at this;cases this
abbrev QF(S:Sg)(D:Qx)(W:World)(base:Nat)(l:List Y)(ps:List Value):Prop:=All2 (QV S D W base) l ps
theorem afQ(h:QF σ.S σ.D W base l ps)(hb:Bs NS Q w K B DI σ W)(hg:Gr B σ aO W W'):QF aO.S aO.D W' base l ps:=h.imp λ_ _ j=>j.stay hg.sle hg.Jo (λb hd=>(hg.aJ hb b hd).2) (hg.types hb)
theorem afR(h:QF σ.S σ.D W base l ps)(hb:Bs NS Q w K B DI σ W)(hr:dK B DI σ b0 W ty xs v)(hg:W.grownBy W' v.ownBlock):QF σ.S σ.D W' base l ps:=
 h.imp λ_ _ j=>j.stay (λ_ _ h=>h) (λ_ h=>h) (λb hd=>(fR hb hr hg b hd).2) λb s hs=>hg.block b (hb.th.lI b s hs) λe=>by have:=(hr.loc b e.symm).1;rw[hs]at this;cases this
structure IfM(NS:List ByteArray)(Q:Y->Prop)(w:List ah)(K:Nat)(B:Bl)(DI:Qx)(eo:BS)(W0:World)(l:List Y)(kk:Nat)(σ:BS)(W:World)(fv:Value)(ps:List Value)(x:Option Obj):Prop where
 md:Md NS Q w K B DI eo W0 (ndss (l.take kk)) σ W
 fr:dK B DI σ W0.heap.size W 97 ps fv
 fl:QF σ.S σ.D W W0.heap.size (l.take kk) ps
 blk0:W.heap[W0.heap.size]?=x
 lc:Loc B DI σ W0.heap.size
structure IfE(NS:List ByteArray)(Q:Y->Prop)(w:List ah)(K:Nat)(B:Bl)(DI:Qx)(eo:BS)(W0:World)(l1 l:List Y)(kk:Nat)(σ:BS)(W:World)(fv ev:Value)(ps vs:List Value):Prop where
 md:Md NS Q w K B DI eo W0 (ndss l1+ndss (l.take kk)) σ W
 fr:dK B DI σ W0.heap.size W 97 ps fv
 fl:QF σ.S σ.D W W0.heap.size l1 ps
 er:dK B DI σ W0.heap.size W 37 vs ev
 el:All2 (λe v=>dq σ.S v e) (l.take kk) vs
theorem nB(ih:dR NS Q w K B DI N)(hV:qv)(Zj:∀s∈NS,s.size<=9223372036854775807)(Zk:1<=K)(hk:t.ld=10)(hn:nds t<=N+1)(j:PT NS Q w 2 t)(cG:Bs NS Q w K B DI σ W)(hs:RS DI W t.li (.slice a0 t.li.length c))(hl:σ.ml.length+nds t<=1099511627776):
 Calls prog 73 #[ptr B.bb,.agg #[.int .i64 k0,.int .i64 n0,.int .i64 t.m,.bool v0,.string s1,.string s2,.slice a0 t.li.length c]] W (dC NS Q w K B DI σ W (nds t) λu aO _=>dq aO.S u t):=by
 have xd:=D4 j;have bk:=gq t;have rP:=qz t.li;obtain⟨f0,f1,f2,f3,f4,f5⟩:=xV j hk;have hoe:ndss (own t)+ndss (bN t)=ndss t.li:=by
  unfold own bN;rw[<-wJ,jRo]
 have hol:(own t).length<=t.li.length:=by unfold own;rw[jRj];omega
 have lT:(bN t).length<=t.li.length:=by unfold bN;rw[List.length_drop];omega
 have hmo:∀e∈own t,e∈t.li:=λe he=>jQt he;have Q9:∀e∈bN t,e∈t.li:=λe he=>jR2 he;obtain⟨fP,zC⟩:=RS.upto (l':=own t) hs (show mq t.m t.li=some (own t)by unfold mq;rw[jQ7 ⟨f0,f1⟩];rfl);obtain⟨a9,c9,nT,hsf⟩:=RS.from (l':=bN t) hs (show jW t.m t.li=some (bN t)by unfold jW;rw[jQ7 ⟨f0,f1⟩];rfl);have jz:=ak W (.cells #[.int .i64 k0,.int .i64 n0,.int .i64 t.m,.bool v0,.string s1,.string s2,.slice a0 t.li.length c] 25);have ar:=an W (.cells #[.int .i64 k0,.int .i64 n0,.int .i64 t.m,.bool v0,.string s1,.string s2,.slice a0 t.li.length c] 25);obtain⟨x0, -,x2, -, -, -,x6⟩:=ao jz;obtain⟨OV,HSU,HSF,RR,KR,VU,uL,bS⟩:=Z8 nT zC hsf jz ih xd cG ar;obtain⟨HL,na,HN,D5,HP,HK,HV,HOE⟩:=Z8 hl bk hn rP j hk hV hoe;obtain⟨jf,HMO,Q2,wS,My⟩:=Z5 (And.intro hol lT) hmo Q9 (show∀e∈own t,e.ld=7/\wM e.name/\e.name.size<=9223372036854775807 from λe he=>⟨(f4 e he).1,FZ (f4 e he).2.1,Zj _ (f4 e he).2.2⟩) Zk;clear ih xd cG hs ar jz hl bk hn rP j hk hV hoe hol lT hmo Q9 f0 f1 f2 f3 f4 f5 nT zC hsf Zk Zj;go_in;go_wp2_with fail;clear x0 x2 x6 fP
 go_loopg [5,18] (own t).length (λgg s5 s18 wr=>∃(kk:Nat) (aO:BS) (ps:List Value),kk<=(own t).length/\(own t).length - kk<=gg/\s18=.int .i64 kk/\IfM NS Q w K B DI σ W (own t) kk aO wr s5 ps (some (.cells #[.int .i64 k0,.int .i64 n0,.int .i64 t.m,.bool v0,.string s1,.string s2,.slice a0 t.li.length c] 25)))
 case atStart=>exact⟨0,σ,[],jQc _,M,rfl,(Md.start uL.1).below bS.1,dK.nil,trivial,RR.1,uL.1.loc (jQ0 _)⟩
 case round=>
  obtain⟨kk,aO,ps,ez,hg,rfl,cH⟩:=hrel;have eF:=Z cH;have mR:=cH.fl.len;rw[jRj]at mR;by_cases aM:kk<(own t).length
  .have aR:(kk:Int)<((own t).length:Int):=M
   obtain⟨e,he⟩:∃e,(own t)[kk]?=some e:=⟨(own t)[kk]'aM,by simp[aM]⟩;rcases aN.1 HSU.1 with⟨h0,_⟩|⟨-,b,o,c2,pT, -, -,uw,Hl⟩
   .rw[h0]at aM;simp at aM
   simp at pT;obtain⟨rfl,rfl⟩:=pT;have qk:=Hl.at he;obtain⟨ea,ec,RW,uz⟩:=(qk.move (uL.1.C0 eF.1.md.gr) uw).RX;obtain⟨c0,c1,c2,c3,c4,OS,Kk⟩:=RW;have Fl:=Z (show Below wr.heap.size wr (wr.alloc (bx e ea ec)).drew from(an _ _).drew);have kq:=ak wr (bx e ea ec);obtain⟨y0,y1,y2,y3,y4,y5,y6⟩:=ao kq;have lO:=Z (eF.1.md.below Fl.1);have ym:=Z (Gr.below Fl.1:Gr B aO aO wr _);have fq:=eF.1.md.bs.loc (g:=wr.heap.size) (jQ0 _);have ee:wr.heap.size<(wr.alloc (bx e ea ec)).drew.heap.size:=jQ2 kq;have gV:=Z (show∀mL O,Bs NS Q w K B DI mL O->Gr B aO mL (wr.alloc (bx e ea ec)).drew O->O.cell? ⟨B.bb,0,none⟩=some (ptr B.pk)/\V8 O wr.heap.size e ea ec from
    λmL O I U=>⟨by simp[World.cell?,I.jl],fq.cell ee U y0,fq.cell ee U y1,fq.cell ee U y2,fq.cell ee U y3,fq.cell ee U y4,fq.cell ee U y5,fq.cell ee U y6⟩)
   clear y0 y1 y2 y3 y4 y5 y6 kq ee fq;have zl:=jQ8 he;have CI:=lP he;have Ad:=lQ (own t) (kk+1);have rO:(own t).length<=9223372036854775807:=by have:=jf.1;have:=D5.1;have:=HL.1;have:=na.1;omega
   have wR:=wH (HMO.1 e zl);have jF:=gq e;have RA:=Z (show nds e<=N+1 by have:=na.1;have:=HN.1;omega);have HP7:=Z (VU.1 e (HMO.1 e zl));have Hn:=Z (wS.1 e zl).1;obtain⟨HVE,HLM,Na,HE,kr⟩:=Z5 (uz.move (eF.1.md.bs.C0 ym.1)) (show aO.ml.length+nds e<=1099511627776 by have:=eF.1.md.len;have:=HL.1;have:=na.1;have:=HOE.1;omega) (show ndss ((own t).take kk)+ndss e.li<=ndss ((own t).take (kk+1))by omega) he (show ps.length+1<=1099511627776 by have:=jf.1;have:=D5.1;have:=HL.1;have:=na.1;omega);clear cH Hl qk CI Ad uz uw zl wR jF mR;go_wp2_with fail;clear c0 c1 c2 c3 c4 OS Kk;refine jQ9 (S:=(λO=>O.cell? ⟨B.bb,0,none⟩=some (ptr B.pk)/\V8 O wr.heap.size e ea ec)) g9 (gV.1 _ _ lO.1.bs (Gr.refl _ _)) (λai=>?_);refine t4 0 1 2 3 ?_;refine t4 4 5 6 7 ?_;refine t7 8 ?_;refine rd 9 rfl λK hK=>?_;go_simp;clear ai;refine(je KR.1 HV.1 none Hn.1 RA.1 HP7.1 lO.1.bs HVE.1 HLM.1).mono ?_;rintro eA wA ⟨u,fT,rfl,cq,b1,pa,re,rfl,yW,cG,RY⟩;obtain⟨HM,HG,wL,HSH,HBZ⟩:=Z5 (lO.1.trans cq) cq.gr cG RY yW;refine hK.out _ _ (gV.1 _ _ cq.bs HG.1) (λai=>?_);clear cq yW cG RY;clear hK K;refine rd 10 rfl λK hK=>?_;go_simp;clear ai;refine rv (kM _ _ _ _ _) ?_;have oU:=Z (HM.1.iz #[.int .i64 0,ptr B.pk,.string e.name,.iface 92 (ptr b1),.bool false,.bool false] 173);have rQ:=Z (HG.1.trans (jk HM.1.bs #[.int .i64 0,ptr B.pk,.string e.name,.iface 92 (ptr b1),.bool false,.bool false] 173));refine hK.out _ _ (gV.1 _ _ oU.1.bs rQ.1) (λai=>?_);clear hK K;refine rd 11 rfl λK hK=>?_;go_simp;clear ai;have jI:=Z (oU.1.below (an _ (.cells #[ptr wA.heap.size] 97)));have mQ:=Z (rQ.1.trans (Gr.below (an _ (.cells #[ptr wA.heap.size] 97))));refine hK.out _ _ (gV.1 _ _ jI.1.bs mQ.1) (λai=>?_);clear hK K;refine rd 12 rfl λK hK=>?_;have mS:=Z (eF.1.fr.gr (ym.1.trans mQ.1));refine lU underlying99 U3 rfl M rfl (.tmp 22) (.tmp 33) rfl W.heap.size u5 ps (by simp[Act.eval,Act.put]) mS.1.own (ptr wA.heap.size) rfl ⟨wA.heap.size+1,0,none⟩ 1 (by simp[Act.eval,Act.put]) (gi _ _ _ _) kr.1 jI.1.gr.size ?_;intro v5 w5 aL lX oX;have HM5:=Z (jI.1.grown mS.1 lX aL oX);have WM:=Z lX;have xn:∀g,u5.ownBlock=some g->g≠B.bb/\g≠wr.heap.size:=λg hg=>⟨(eF.1.fr.loc g hg).2.2.1,by have:=(aC eF.1.fr.own g hg).2.1;omega⟩;have mF:=ai;clear ai;refine hK.out _ _ ⟨lX.cell mF.1 (λe'=>(xn _ e'.symm).1 rfl),lX.cell mF.2.1 (λe'=>(xn _ e'.symm).2 rfl),lX.cell mF.2.2.1 (λe'=>(xn _ e'.symm).2 rfl),lX.cell mF.2.2.2.1 (λe'=>(xn _ e'.symm).2 rfl),lX.cell mF.2.2.2.2.1 (λe'=>(xn _ e'.symm).2 rfl),lX.cell mF.2.2.2.2.2.1 (λe'=>(xn _ e'.symm).2 rfl),lX.cell mF.2.2.2.2.2.2.1 (λe'=>(xn _ e'.symm).2 rfl),lX.cell mF.2.2.2.2.2.2.2 (λe'=>(xn _ e'.symm).2 rfl)⟩ (λai=>?_);clear mF xn aL lX oX
   (try simp only[jRa,jR3,jR4,Act.put,jQy,jRe,jRf])
   clear hK K;refine t7 13 ?_;refine jQl g9 ?_ _;clear ai;go_wp2_with fail;go_roundg ((own t).length - (kk+1))
   case measure=>omega
   case rel=>
    have hG:=ym.1.trans mQ.1;have hf4:=afQ eF.1.fl eF.1.md.bs hG;have Uu:QV _ _ ((wA.alloc (.cells #[.int .i64 0,ptr B.pk,.string e.name,.iface 92 (ptr b1),.bool false,.bool false] 173)).alloc (.cells #[ptr wA.heap.size] 97)) W.heap.size e (ptr wA.heap.size):=
     ⟨Hn.1,wA.heap.size,0,some ⟨B.pk,0,none⟩,b1,none,pa,re,rfl,.inr rfl,aq (ak _ _),wL.1,by have:=HBZ.1;have:=eF.1.md.gr.size;have:=Fl.1.size;omega,aq (aq HSH.1),jI.1.bs.Rm⟩
    have tB:(own t).take (kk+1)=(own t).take kk++[e]:=by rw[jRm,HE.1];rfl
    have hf5:=afR (All2.snoc Uu hf4) jI.1.bs mS.1 WM.1;rw[<-tB]at hf5;have Jd:=eF.1.lc.gr (jQ2 eF.1.blk0) hG;refine⟨kk+1,_,ps++[ptr wA.heap.size],M,M,by go_num,HM5.1.1.more Na.1,HM5.1.2,hf5,?_,Jd⟩;have dI:=(eF.1.lc.same (jQ2 eF.1.blk0) hG).trans eF.1.blk0;refine(WM.1.block _ (jQ2 dI) λe'=>?_).trans dI;obtain⟨_,_,cur,U⟩:=aC mS.1.own _ e'.symm;rw[dI]at U;cases U
  .have aR:¬(kk:Int)<((own t).length:Int):=M
   have yV:(own t).take kk=own t:=jR6 M;have cq:=cH.md;have xe:=cH.fl;rw[yV]at cq xe;obtain⟨x0, -,x2, -, -, -,x6⟩:=ao cH.blk0;have nT:=OV.1;have QG:=Z (show IfE NS Q w K B DI σ W (own t) (bN t) 0 aO wr u5 (.slice none 0 0) ps []from⟨cq.more i6,cH.fr,xe,dK.nil,trivial⟩);clear cH eF cq xe yV mR;go_wp2_with fail;clear x0 x2 x6 nT
   go_loopg [8,42] (bN t).length (λgg s8 s42 wr=>∃(kk:Nat) (aO:BS) (vs:List Value),kk<=(bN t).length/\(bN t).length - kk<=gg/\s42=.int .i64 kk/\IfE NS Q w K B DI σ W (own t) (bN t) kk aO wr u5 s8 ps vs)
   case atStart=>exact⟨0,_,[],jQc _,M,rfl,QG.1⟩
   case round=>
    obtain⟨kk,aO,vs,ez,hg,rfl,cH⟩:=hrel;have eF:=Z cH;have mR:=cH.el.len;rw[jRj]at mR;by_cases aM:kk<(bN t).length
    .have aR:(kk:Int)<((bN t).length:Int):=M
     obtain⟨e,he⟩:∃e,(bN t)[kk]?=some e:=⟨(bN t)[kk]'aM,by simp[aM]⟩;rcases aN.1 HSF.1 with⟨h0,_⟩|⟨-,b,o,c2,pT, -, -,uw,Hl⟩
     .rw[h0]at aM;simp at aM
     simp at pT;obtain⟨rfl,rfl⟩:=pT;have qk:=Hl.at he;obtain⟨ea,ec,RW,uz⟩:=(qk.move (uL.1.C0 eF.1.md.gr) uw).RX;obtain⟨c0,c1,c2,c3,c4,OS,Kk⟩:=RW;have kq:=ak wr (bx e ea ec);obtain⟨y0,y1,y2,y3,y4,y5,y6⟩:=ao kq;have FO:=an wr (bx e ea ec);have lO:=Z (eF.1.md.below FO);have ym:=Z (Gr.below FO:Gr B aO aO wr _);have zl:=jQ8 he;have CI:=lP he;have Ad:=lQ (bN t) (kk+1);have rO:(bN t).length<=9223372036854775807:=by have:=jf.1;have:=D5.1;have:=HL.1;have:=na.1;omega
     have wR:=wH (Q2.1 e zl);have ag:=KR.1 e aO _ _ (by have:=na.1;have:=HN.1;omega) (VU.1 e (Q2.1 e zl)) lO.1.bs (uz.move (eF.1.md.bs.C0 ym.1)) (by have:=eF.1.md.len;have:=HL.1;have:=na.1;have:=HOE.1;omega);obtain⟨Na,HE,kr⟩:=Z3 CI he (show vs.length+1<=1099511627776 by have:=jf.1;have:=D5.1;have:=HL.1;have:=na.1;omega);clear cH Hl qk CI Ad uz uw zl wR mR kq FO he;go_wp2_with fail;clear c0 c1 c2 c3 c4 OS Kk y0 y1 y2 y3 y4 y5 y6;refine ag.mono ?_;rintro eA wA ⟨u,fT,rfl,cq,hu⟩;have HM:=Z (lO.1.trans cq);obtain⟨bu,rfl, -⟩:=id hu;have HU:=Z hu;have HG:=Z (ym.1.trans cq.gr);clear ag cq hu;have jI:=Z (HM.1.below (an wA (.cells #[.iface (tid e.ld) (ptr bu)] 37)));have mQ:=Z (Gr.below (an wA (.cells #[.iface (tid e.ld) (ptr bu)] 37)):Gr B fT fT wA _);have mS:=Z ((eF.1.er.gr HG.1).gr mQ.1);go_wp2_with (at_builtin;refine gH underlying100 Zt rfl M rfl _ _ rfl W.heap.size u8 vs rfl mS.1.own (.iface (tid e.ld) (ptr bu)) rfl ⟨wA.heap.size,0,none⟩ 1 rfl (cell_one_new _ _ _) kr.1 jI.1.gr.size ?_);intro v7 w7 bF jm uM;obtain⟨yU,lY,CJ⟩:=Z3 (show w7.ownsRow W.heap.size 37 1 v7 (vs++[Value.iface (tid e.ld) (ptr bu)]).length (vs++[Value.iface (tid e.ld) (ptr bu)])by simpa using bF) (show(wA.alloc (.cells #[.iface (tid e.ld) (ptr bu)] 37)).grownBy w7 u8.ownBlock from jm) (show v7.ownBlock=u8.ownBlock\/v7.ownBlock=some (wA.alloc (.cells #[.iface (tid e.ld) (ptr bu)] 37)).heap.size by simpa using uM);clear bF jm uM;go_wp2_with fail;go_roundg ((bN t).length - (kk+1))
     case measure=>omega
     case rel=>
      have Af:=jI.1.grown mS.1 lY.1 yU.1 CJ.1;have tB:(bN t).take (kk+1)=(bN t).take kk++[e]:=by rw[jRm,HE.1];rfl
      have hG:=HG.1.trans mQ.1;refine⟨kk+1,_,vs++[.iface (tid e.ld) (ptr bu)],M,M,by go_num,?_,((eF.1.fr.gr HG.1).gr mQ.1).other mS.1 lY.1 i5,afR (afQ eF.1.fl eF.1.md.bs hG) jI.1.bs mS.1 lY.1,Af.2,?_⟩
      .rw[Na.1,<-Nat.add_assoc];exact Af.1
      .rw[tB];exact All2.snoc (R:=λe v=>dq fT.S v e) HU.1 (eF.1.el.imp λ_ _ h=>h.mono hG.sle)
    .have aR:¬(kk:Int)<((bN t).length:Int):=M
     have yV:(bN t).take kk=bN t:=jR6 M;have cq:=cH.md;have lT:=cH.el;rw[yV]at cq lT;have ag:=YT My.1 HK.1 HP.1 (λm hm=>(wS.1 m hm).2) (by have:=jf.1;have:=D5.1;have:=HL.1;have:=na.1;omega) cq cH.fr cH.fl cH.er lT;have Rg:=Z cq.len;clear cH eF cq lT yV mR;go_wp2_with fail;refine ag.mono ?_;rintro eA wA ⟨b,fT,rfl,cq,rN,eR,gP⟩;obtain⟨HM,wL,HL2⟩:=Z3 cq rN (show(fT.ml.map ptr).length+1<=1099511627776 by rw[jR7,gP];have:=Rg.1;have:=HL.1;have:=na.1;have:=HOE.1;omega);have b4:wA.cell? ⟨B.bb,4,none⟩=some fT.mv:=by simp[World.cell?,cq.bs.jl]
     clear ag cq rN eR gP;have jI:=Z (HM.1.below (an wA (.cells #[ptr b] 33)));have HO:=Z (show(wA.alloc (.cells #[ptr b] 33)).ownsRow 0 33 1 fT.mv (fT.ml.map ptr).length (fT.ml.map ptr)by rw[jR7];exact jI.1.bs.own);go_wp2_with (at_builtin;refine gH underlying56 acK rfl M rfl _ _ rfl 0 fT.mv (fT.ml.map ptr) rfl HO.1 (ptr b) rfl ⟨wA.heap.size,0,none⟩ 1 rfl (cell_one_new _ _ _) HL2.1 (jQc _) ?_);intro v7 w7 bF jm uM;obtain⟨a7,n7,c7,rfl⟩:∃a n c,v7=.slice a n c:=M168
     have h7:=(jm.block B.bb (jQ2 jI.1.bs.jl) λe=>(jI.1.bs.gY _ e.symm).2.2 rfl).trans jI.1.bs.jl;have b7:w7.cell? ⟨B.bb,4,none⟩=some fT.mv:=by simp[World.cell?,h7]
     have z7:w7.frozen? ⟨B.bb,4,none⟩=false:=by simp[World.frozen?,h7]
     obtain⟨lZ,yU,lY,CJ⟩:=Z4 (aw h7 4 (Value.slice a7 n7 c7)) (show w7.ownsRow 0 33 1 (Value.slice a7 n7 c7) (fT.ml++[b]).length ((fT.ml++[b]).map ptr)by simpa using bF) (show(wA.alloc (.cells #[ptr b] 33)).grownBy w7 fT.mv.ownBlock from jm) (show(Value.slice a7 n7 c7).ownBlock=fT.mv.ownBlock\/(Value.slice a7 n7 c7).ownBlock=some (wA.alloc (.cells #[ptr b] 33)).heap.size by simpa using uM);clear bF jm uM h7 b4;go_wp2;go_ret;obtain⟨-, -, -, -, -,f5⟩:=xV HP.1 HK.1;have hM8:=jI.1.made lY.1 yU.1 CJ.1 lZ.1 ⟨t,wL.1,HK.1,f5⟩;exact⟨_,_,rfl,hM8.more (by have:=na.1;have:=HOE.1;omega),⟨b,by rw[HK.1];rfl,wL.1⟩⟩
theorem Mr(ih:dR NS Q w K B DI N)(iA:∀t,Q t->Q0 t)(hk:t.ld=5)(hn:nds t<=N+1)(j:PT NS Q w 2 t)(cG:Bs NS Q w K B DI σ W)(hv:RT DI W t v)(hl:σ.ml.length+nds t<=1099511627776):
 Calls prog 30 #[ptr B.bb,v] W (dC NS Q w K B DI σ W (nds t) λu aO _=>dq aO.S u t):=by
 have qj:=hv;obtain⟨a0,c,rfl,hs⟩:=hv.bR;have ar:=an W (bx t a0 c);have HM:=Z ((Md.start cG).below ar);have eR:au DI DI W (W.alloc (bx t a0 c)):=λx H=>⟨H,ar.block x (cG.di x H).1⟩;obtain⟨x0,x1,x2,x3,x4,x5,x6⟩:=ao (ak W (bx t a0 c));have dr:=qj.move eR;have cz:=hs.move eR;have bk:=gq t;have k1:(t.ld==1)=false:=by simp[hk]
 have k2:(t.ld==2)=false:=by simp[hk]
 have k3:(t.ld==3)=false:=by simp[hk]
 have k4:(t.ld==4)=false:=by simp[hk]
 have k6:(t.ld==6)=false:=by simp[hk]
 have k8:(t.ld==8)=false:=by simp[hk]
 have k9:(t.ld==9)=false:=by simp[hk]
 have k5:(t.ld==5)=decide ((5:Nat)=5):=by simp[hk]
 have k7:(t.ld==7)=decide ((5:Nat)=7):=by simp[hk]
 have qd:(t.ld==11)=decide ((5:Nat)=11):=by simp[hk]
 have tT:(t.ld==12)=decide ((5:Nat)=12):=by simp[hk]
 have ll:(t.ld==13)=decide ((5:Nat)=13):=by simp[hk]
 have Hw:(t.ld==15)=decide ((5:Nat)=15):=by simp[hk]
 have yr:(t.ld==16)=decide ((5:Nat)=16):=by simp[hk]
 have sq:(t.ld==10)=decide ((5:Nat)=10):=by simp[hk]
 try simp only[Nat.reduceEqDiff,decide_true,decide_false]at k5 k7 sq qd tT ll Hw yr
 have ag:=zm ih iA hk hn j HM.1.bs dr hl;exact M23
theorem Qr(ih:dR NS Q w K B DI N)(hk:t.ld=12)(hn:nds t<=N+1)(j:PT NS Q w 2 t)(cG:Bs NS Q w K B DI σ W)(hv:RT DI W t v)(hl:σ.ml.length+nds t<=1099511627776):
 Calls prog 30 #[ptr B.bb,v] W (dC NS Q w K B DI σ W (nds t) λu aO _=>dq aO.S u t):=by
 have qj:=hv;obtain⟨a0,c,rfl,hs⟩:=hv.bR;have ar:=an W (bx t a0 c);have HM:=Z ((Md.start cG).below ar);have eR:au DI DI W (W.alloc (bx t a0 c)):=λx H=>⟨H,ar.block x (cG.di x H).1⟩;obtain⟨x0,x1,x2,x3,x4,x5,x6⟩:=ao (ak W (bx t a0 c));have dr:=qj.move eR;have cz:=hs.move eR;have bk:=gq t;have k1:(t.ld==1)=false:=by simp[hk]
 have k2:(t.ld==2)=false:=by simp[hk]
 have k3:(t.ld==3)=false:=by simp[hk]
 have k4:(t.ld==4)=false:=by simp[hk]
 have k6:(t.ld==6)=false:=by simp[hk]
 have k8:(t.ld==8)=false:=by simp[hk]
 have k9:(t.ld==9)=false:=by simp[hk]
 have k5:(t.ld==5)=decide ((12:Nat)=5):=by simp[hk]
 have k7:(t.ld==7)=decide ((12:Nat)=7):=by simp[hk]
 have qd:(t.ld==11)=decide ((12:Nat)=11):=by simp[hk]
 have tT:(t.ld==12)=decide ((12:Nat)=12):=by simp[hk]
 have ll:(t.ld==13)=decide ((12:Nat)=13):=by simp[hk]
 have Hw:(t.ld==15)=decide ((12:Nat)=15):=by simp[hk]
 have yr:(t.ld==16)=decide ((12:Nat)=16):=by simp[hk]
 have sq:(t.ld==10)=decide ((12:Nat)=10):=by simp[hk]
 try simp only[Nat.reduceEqDiff,decide_true,decide_false]at k5 k7 sq qd tT ll Hw yr
 have ag:=U4 ih hk hn j HM.1.bs dr hl;exact M23
theorem Qt(ih:dR NS Q w K B DI N)(hk:t.ld=13)(hn:nds t<=N+1)(j:PT NS Q w 2 t)(cG:Bs NS Q w K B DI σ W)(hv:RT DI W t v)(hl:σ.ml.length+nds t<=1099511627776):
 Calls prog 30 #[ptr B.bb,v] W (dC NS Q w K B DI σ W (nds t) λu aO _=>dq aO.S u t):=by
 have qj:=hv;obtain⟨a0,c,rfl,hs⟩:=hv.bR;have ar:=an W (bx t a0 c);have HM:=Z ((Md.start cG).below ar);have eR:au DI DI W (W.alloc (bx t a0 c)):=λx H=>⟨H,ar.block x (cG.di x H).1⟩;obtain⟨x0,x1,x2,x3,x4,x5,x6⟩:=ao (ak W (bx t a0 c));have dr:=qj.move eR;have cz:=hs.move eR;have bk:=gq t;have k1:(t.ld==1)=false:=by simp[hk]
 have k2:(t.ld==2)=false:=by simp[hk]
 have k3:(t.ld==3)=false:=by simp[hk]
 have k4:(t.ld==4)=false:=by simp[hk]
 have k6:(t.ld==6)=false:=by simp[hk]
 have k8:(t.ld==8)=false:=by simp[hk]
 have k9:(t.ld==9)=false:=by simp[hk]
 have k5:(t.ld==5)=decide ((13:Nat)=5):=by simp[hk]
 have k7:(t.ld==7)=decide ((13:Nat)=7):=by simp[hk]
 have qd:(t.ld==11)=decide ((13:Nat)=11):=by simp[hk]
 have tT:(t.ld==12)=decide ((13:Nat)=12):=by simp[hk]
 have ll:(t.ld==13)=decide ((13:Nat)=13):=by simp[hk]
 have Hw:(t.ld==15)=decide ((13:Nat)=15):=by simp[hk]
 have yr:(t.ld==16)=decide ((13:Nat)=16):=by simp[hk]
 have sq:(t.ld==10)=decide ((13:Nat)=10):=by simp[hk]
 try simp only[Nat.reduceEqDiff,decide_true,decide_false]at k5 k7 sq qd tT ll Hw yr
 have ag:=U5 ih hk hn j HM.1.bs dr hl;exact M23
theorem Zi(ih:dR NS Q w K B DI N)(hV:qv)(Zj:∀s∈NS,s.size<=9223372036854775807)(Zk:1<=K)(hk:t.ld=10)(hn:nds t<=N+1)(j:PT NS Q w 2 t)(cG:Bs NS Q w K B DI σ W)(hv:RT DI W t v)(hl:σ.ml.length+nds t<=1099511627776):
 Calls prog 30 #[ptr B.bb,v] W (dC NS Q w K B DI σ W (nds t) λu aO _=>dq aO.S u t):=by
 have qj:=hv;obtain⟨a0,c,rfl,hs⟩:=hv.bR;have ar:=an W (bx t a0 c);have HM:=Z ((Md.start cG).below ar);have eR:au DI DI W (W.alloc (bx t a0 c)):=λx H=>⟨H,ar.block x (cG.di x H).1⟩;obtain⟨x0,x1,x2,x3,x4,x5,x6⟩:=ao (ak W (bx t a0 c));have dr:=qj.move eR;have cz:=hs.move eR;have bk:=gq t;have k1:(t.ld==1)=false:=by simp[hk]
 have k2:(t.ld==2)=false:=by simp[hk]
 have k3:(t.ld==3)=false:=by simp[hk]
 have k4:(t.ld==4)=false:=by simp[hk]
 have k6:(t.ld==6)=false:=by simp[hk]
 have k8:(t.ld==8)=false:=by simp[hk]
 have k9:(t.ld==9)=false:=by simp[hk]
 have k5:(t.ld==5)=decide ((10:Nat)=5):=by simp[hk]
 have k7:(t.ld==7)=decide ((10:Nat)=7):=by simp[hk]
 have qd:(t.ld==11)=decide ((10:Nat)=11):=by simp[hk]
 have tT:(t.ld==12)=decide ((10:Nat)=12):=by simp[hk]
 have ll:(t.ld==13)=decide ((10:Nat)=13):=by simp[hk]
 have Hw:(t.ld==15)=decide ((10:Nat)=15):=by simp[hk]
 have yr:(t.ld==16)=decide ((10:Nat)=16):=by simp[hk]
 have sq:(t.ld==10)=decide ((10:Nat)=10):=by simp[hk]
 try simp only[Nat.reduceEqDiff,decide_true,decide_false]at k5 k7 sq qd tT ll Hw yr
 have ag:=nB ih hV Zj Zk hk hn j HM.1.bs (k0:=t.ld) (n0:=t.n) (v0:=t.va) (s1:=t.name) (s2:=t.gc) cz hl;exact M23
theorem acv(h:t.ld=14):aG t=fD:=by unfold aG mC;rw[jQ7 h];rfl
theorem Zl(ih:dR NS Q w K B DI N)(hV:qv)(Zj:∀s∈NS,s.size<=9223372036854775807)(Zk:1<=K)(qc:PT NS Q w 2 fD)(hk:t.ld=14)(cG:Bs NS Q w K B DI σ W)(hv:RT DI W t v)(hl:σ.ml.length+nds t<=1099511627776):
 Calls prog 30 #[ptr B.bb,v] W (dC NS Q w K B DI σ W (nds t) λu aO _=>dq aO.S u t):=by
 obtain⟨a0,c,rfl,hs⟩:=hv.bR;have ar:=an W (bx t a0 c);have HM:=Z ((Md.start cG).below ar);obtain⟨x0,x1,x2,x3,x4,x5,x6⟩:=ao (ak W (bx t a0 c));have bk:=gq t;have hna:=gq fD;have afB:nds fD=1:=by rw[hna];rfl
 have k1:(t.ld==1)=false:=by simp[hk]
 have k2:(t.ld==2)=false:=by simp[hk]
 have k3:(t.ld==3)=false:=by simp[hk]
 have k4:(t.ld==4)=false:=by simp[hk]
 have k6:(t.ld==6)=false:=by simp[hk]
 have k8:(t.ld==8)=false:=by simp[hk]
 have k9:(t.ld==9)=false:=by simp[hk]
 have k5:(t.ld==5)=decide ((14:Nat)=5):=by simp[hk]
 have k7:(t.ld==7)=decide ((14:Nat)=7):=by simp[hk]
 have qd:(t.ld==11)=decide ((14:Nat)=11):=by simp[hk]
 have tT:(t.ld==12)=decide ((14:Nat)=12):=by simp[hk]
 have ll:(t.ld==13)=decide ((14:Nat)=13):=by simp[hk]
 have Hw:(t.ld==15)=decide ((14:Nat)=15):=by simp[hk]
 have yr:(t.ld==16)=decide ((14:Nat)=16):=by simp[hk]
 have sq:(t.ld==10)=decide ((14:Nat)=10):=by simp[hk]
 try simp only[Nat.reduceEqDiff,decide_true,decide_false]at k5 k7 sq qd tT ll Hw yr
 have ag:=nB (t:=fD) ih hV Zj Zk rfl M qc HM.1.bs (k0:=0) (n0:=0) (v0:=false) (s1:=⟨#[]⟩) (s2:=⟨#[]⟩) (a0:=none) (c:=0) (aN.2 (.inl ⟨rfl,none,0,rfl,λ_=>rfl⟩)) M;obtain⟨na,Zm,ah2⟩:=Z3 (show 1<=nds t by omega) afB hk;clear ih hk cG hv hs hl bk ar hna afB;go_in;go_wp2_with fail;refine ag.mono ?_;rintro e' O ⟨u,aO,rfl,cq,hu⟩;have HP:=Z (show dC NS Q w K B DI σ W (nds t) (λu aO _=>dq aO.S u t) (.returned u) O from⟨u,aO,rfl,(HM.1.trans cq).more (by have:=na.1;have:=Zm.1;omega),hu.same (t:=fD) (t':=t) (by show aG fD=aG t;rw[acv ah2.1];rfl)⟩);clear ag cq hu;exact M21
theorem U6(ih:dR NS Q w K B DI N)(hV:qv)(hk:t.ld=7)(hn:nds t<=N+1)(j:PT NS Q w 2 t)(cG:Bs NS Q w K B DI σ W)(hv:RT DI W t v)(hl:σ.ml.length+nds t<=1099511627776):
 Calls prog 30 #[ptr B.bb,v] W (dC NS Q w K B DI σ W (nds t) λu aO _=>dq aO.S u t):=by
 have qj:=hv;obtain⟨a0,c,rfl,hs⟩:=hv.bR;have ar:=an W (bx t a0 c);have HM:=Z ((Md.start cG).below ar);have eR:au DI DI W (W.alloc (bx t a0 c)):=λx H=>⟨H,ar.block x (cG.di x H).1⟩;obtain⟨x0,x1,x2,x3,x4,x5,x6⟩:=ao (ak W (bx t a0 c));have dr:=qj.move eR;have bk:=gq t;have HK:=Z hk;have k1:(t.ld==1)=false:=by simp[hk]
 have k2:(t.ld==2)=false:=by simp[hk]
 have k3:(t.ld==3)=false:=by simp[hk]
 have k4:(t.ld==4)=false:=by simp[hk]
 have k6:(t.ld==6)=false:=by simp[hk]
 have k8:(t.ld==8)=false:=by simp[hk]
 have k9:(t.ld==9)=false:=by simp[hk]
 have k5:(t.ld==5)=decide ((7:Nat)=5):=by simp[hk]
 have k7:(t.ld==7)=decide ((7:Nat)=7):=by simp[hk]
 have qd:(t.ld==11)=decide ((7:Nat)=11):=by simp[hk]
 have tT:(t.ld==12)=decide ((7:Nat)=12):=by simp[hk]
 have ll:(t.ld==13)=decide ((7:Nat)=13):=by simp[hk]
 have Hw:(t.ld==15)=decide ((7:Nat)=15):=by simp[hk]
 have yr:(t.ld==16)=decide ((7:Nat)=16):=by simp[hk]
 have sq:(t.ld==10)=decide ((7:Nat)=10):=by simp[hk]
 try simp only[Nat.reduceEqDiff,decide_true,decide_false]at k5 k7 sq qd tT ll Hw yr
 have ag:=je ih hV none hk hn j HM.1.bs dr hl;have na:=Z bk;clear ih hk hn j cG hv qj dr hs hl bk eR ar;go_in;go_wp2_with fail;refine ag.mono ?_;rintro e' O ⟨u,aO,rfl,cq,b1,pa,re,rfl, -,rN, -⟩;have HP:=Z (show dC NS Q w K B DI σ W (nds t) (λu aO _=>dq aO.S u t) (.returned (.iface 92 (ptr b1))) O from⟨_,aO,rfl,(HM.1.trans cq).more (by have:=na.1;omega),b1,by rw[HK.1];rfl,rN⟩);clear ag cq rN;exact M21
theorem WU(hV:qv)(iA:∀t,Q t->Q0 t)(Zj:∀s∈NS,s.size<=9223372036854775807)(Zk:1<=K)(qc:PT NS Q w 2 fD):∀N,dR NS Q w K B DI N:=by
 intro N
 induction N with
 |zero=>intro t σ W v hn;have:=Gp t;omega
 |succ N ih=>
  intro t σ W v hn j cG hv hl;have h0:=j;cases j with
  |basic a b=>exact P8 rfl h0 cG hv
  |uni a=>
   obtain rfl|rfl|rfl:=a
   .exact Zl ih hV Zj Zk qc rfl cG hv hl
   .exact YQ rfl cG hv
   .exact YR rfl cG hv
  |named a b c=>exact P9 rfl h0 cG hv
  |al a b I=>
   obtain rfl|rfl:=a
   .exact PR ih rfl hn h0 cG hv hl
   .exact XI ih rfl hn h0 cG hv hl
  |st a b I=>exact Mr ih iA rfl hn h0 cG hv hl
  |ifc a b c d e g I U q=>exact Zi ih hV Zj Zk rfl hn h0 cG hv hl
  |one a b c I=>
   obtain rfl|rfl|rfl:=a
   .exact Pn ih rfl hn h0 cG hv hl
   .exact XP ih rfl hn h0 cG hv hl
   .exact SJ ih rfl hn h0 cG hv hl
  |mp I U=>exact Zn ih rfl hn h0 cG hv hl
  |fn a b c I=>exact U6 ih hV rfl hn h0 cG hv hl
  |ti a I=>exact Qt ih rfl hn h0 cG hv hl
  |un a b c I=>exact Qr ih rfl hn h0 cG hv hl
section
attribute [local go_sem] Oper.semAt_some
theorem Sw{F:Fence}(hd:F.depth=none)(m':Nat){P:Program}{l:Nat}{R:Ending->World->Prop}(h:YieldAt F m P l args W R):YieldAt F m' P l args W R:=by
 obtain⟨fn,tmps,assign,body,hy,hR⟩:=h;exact⟨fn,tmps,assign,body,hy,hR.1,λc cs _=>hR.2 c cs λd h=>by rw[hd]at h;cases h⟩
set_option maxRecDepth 100000 in
theorem Sx(n:Nat)(hn:1<=n)(l Lp sb:Nat)(J Jx:List Unit->World->Prop)(W:World)(hY:YieldAt Fence.wide (n - 1) prog l #[.iface 131 (ptr sb),.iface 131 (ptr sb)] W λe W'=>(e=.returned (.bool true)/\J [()] W'/\Below Lp W W')\/(e=.returned (.bool false)/\Jx [()] W')):
 CallsIn Fence.wide n prog 198 #[.iface 131 (ptr sb),.func (.yield l) #[] #[]] W λe W'=>(∃v,e=.returned v)/\(J [()] W'\/Jx [()] W'):=by
 have lk:=callsIn_wide (n:=n - 1) |>.2 (Eg 131 (ptr sb) W i5);have fp:=λw=>mh 131 (ptr sb) 37 w i5;have fL:=callsIn_wide (n:=n - 1) |>.2 (ic sb W);refine callsIn_of_wp func198 rfl trivial ?_ rfl;simp only[ntmps198,List.size_toArray,List.length_cons,List.length_nil,Nat.reduceAdd,Nat.reduceSub,Array.replicate_succ,Array.replicate_zero,List.push_toArray,List.append_toArray,List.nil_append,jRh];obtain⟨fn,tmps,assign,body,hy,hR⟩:=hY
 gi_wp2_with fail
 refine⟨trivial,lk.mono ?_⟩;rintro e' O ⟨rfl,hw⟩;replace hw:=hw.symm;subst hw;clear lk;have Kr:=zJ sb;have hca:=Tryz.call305
 gi_wp2_with fail
 refine⟨trivial,fL.mono ?_⟩;rintro e' O ⟨rfl,hw⟩;replace hw:=hw.symm;subst hw;clear fL Kr hca
 gi_wp2
 refine hR.mono ?_;rintro e W3 (⟨rfl,hJ3,hk3⟩|⟨rfl,agT⟩)
 .gi_wp2
  go_ret;exact⟨⟨_,rfl⟩,.inl hJ3⟩
 .gi_wp2
  go_ret;exact⟨⟨_,rfl⟩,.inr agT⟩
set_option maxRecDepth 100000 in
theorem XG(n:Nat)(hn:1<=n)(l Lp sb bx:Nat)(J Jx:List Unit->World->Prop)(W:World)(hb:W.cell? ⟨bx,0,none⟩=some (.iface 131 (ptr sb)))(hY:YieldAt Fence.wide (n - 1 - 1) prog l #[.iface 131 (ptr sb),.iface 131 (ptr sb)] W λe W'=>(e=.returned (.bool true)/\J [()] W'/\Below Lp W W')\/(e=.returned (.bool false)/\Jx [()] W'))(iK:1<=n - 1):
 CallsIn Fence.wide n prog 197 #[.func (.yield l) #[] #[],ptr bx] W λe W'=>(∃v,e=.returned v)/\(J [()] W'\/Jx [()] W'):=by
 have hc:=Sx (n - 1) iK l Lp sb J Jx W hY;refine callsIn_of_wp func197 rfl trivial ?_ rfl;simp only[ntmps197,List.size_toArray,List.length_cons,List.length_nil,Nat.reduceAdd,Nat.reduceSub,Array.replicate_succ,Array.replicate_zero,List.push_toArray,List.append_toArray,List.nil_append,jRh];clear hY
 gi_wp2_with fail
 refine⟨trivial,hc.mono ?_⟩;rintro e' O ⟨⟨v,rfl⟩,hw⟩;clear hc
 gi_wp2_with fail
 go_end0
 exact⟨⟨_,rfl⟩,hw⟩
theorem Sy(n:Nat)(Lp sb bx:Nat)(w:World)(kq:bx<w.heap.size)(hb:w.cell? ⟨bx,0,none⟩=some (.iface 131 (ptr sb))):
 SeqStopsK Fence.wide (n+3) prog 197 #[ptr bx] (λ_:Unit=>#[Value.iface 131 (ptr sb),.iface 131 (ptr sb)]) (Below Lp) (λxs=>xs=[()]) (λxs=>xs=[()]) 1 w:=by
 intro l J Jx W hW _ _ hY h0;have yq:=(hW.cell (p:=⟨bx,0,none⟩) kq).trans hb;have hy:=hY [] () W h0 i6;refine(XG (n+3) M l Lp sb bx J Jx W yq ?_ M).mono ?_
 .exact Sw rfl _ hy
 .rintro e W' ⟨he,h|h⟩
  .exact⟨he,.inl ⟨_,rfl,h⟩⟩
  .exact⟨he,.inr ⟨_,rfl,h⟩⟩
set_option maxRecDepth 100000 in
theorem KK:qv:=by
 intro r q pb b7 o7 n c vb sb W hn I U h3;have lk:=callsIn_wide (n:=4) |>.2 (IH pb (some ⟨b7,o7,none⟩) (n+1) c W I);have fL:=callsIn_wide (n:=4) |>.2 (Lq pb b7 o7 (n+1) c n (ptr vb) W I M U);have hz:(((n+1:Nat):Int)==0)=false:=by simp;omega
 refine(callsIn_wide (n:=5)).1 ?_;refine callsIn_of_wp_marks func118 rfl trivial ?_ rfl;simp only[ntmps118,List.size_toArray,List.length_cons,List.length_nil,Nat.reduceAdd,Nat.reduceSub,Array.replicate_succ,Array.replicate_zero,List.push_toArray,List.append_toArray,List.nil_append,jRh]
 gi_wp2_with fail
 refine⟨trivial,lk.mono ?_⟩;rintro e' O ⟨rfl,rY⟩;replace rY:=rY.symm;subst rY;clear lk
 gi_wp2_with fail
 refine⟨trivial,fL.mono ?_⟩;rintro e' O ⟨rfl,rY⟩;replace rY:=rY.symm;subst rY;clear fL;have Kq:=callsIn_wide (n:=4) |>.2 (Di _ 131 (ptr sb) (W.alloc (.cells #[.pointer none] 131)) rfl);rw[jQ3]at Kq
 gi_wp2_with fail
 refine⟨trivial,Kq.mono ?_⟩;rintro e' O ⟨rfl,rY⟩;replace rY:=rY.symm;subst rY;clear Kq
 gi_wp2_with fail
 have hh:=aq (o:=.cells #[.iface 131 (ptr sb)] 37) (ak W (.cells #[.pointer none] 131));have hb:=jQh (ak (W.alloc (.cells #[.pointer none] 131)) (.cells #[.iface 131 (ptr sb)] 37));rw[jQ3]at hb;have gj:((W.alloc (.cells #[.pointer none] 131)).alloc (.cells #[.iface 131 (ptr sb)] 37)).heap.size=W.heap.size+2:=by rw[jQ3,jQ3]
 refine wpIn_rangeFunc_ownF (α:=Unit) rfl M (gf:=197) (lb:=#[ptr (W.heap.size+1)]) rfl trivial (enters_of func197 g9 rfl)
  (Sy 1 W.heap.size sb (W.heap.size+1) _ M hb) belowK_t (belowK_b M) (jQ5 _ _) (λ_=>rfl)
  (λpre W'=>(W'.cell? ⟨W.heap.size,0,none⟩=some (if pre=[]then .pointer none else ptr sb)/\W'.frozen? ⟨W.heap.size,0,none⟩=false)/\Below W.heap.size W W')
  (λ_ _ _=>False)
  (OwnFrom.and (Own.from (λs A B row hs hg hr=>⟨cell_kept hs.1 hg hr,(frozen_kept hs.1 hg hr).trans hs.2⟩) _) (ownFrom_below (jQ0 _) M))
  (λ_ _ _ _ _ hs _ _=>hs)
  ⟨⟨jQh hh,by simp[World.frozen?,hh]⟩,(an _ _).trans ((an _ _).mono (by rw[jQ3];omega))⟩
  (λ_=>?act) ?assign ?body ?done ?stop
 case assign=>
  intro l x W1 K hK
  gi_wp2
  exact hK
 case body=>
  rintro l pre x W1 ⟨⟨hc,hf⟩,hB⟩ mR;have Ft:pre=[]:=jQe M;subst Ft;have iT:=(callsIn_wide (n:=2) |>.2 (XH sb W1)).inRound l;have mU:=(callsIn_wide (n:=2) |>.2 (ic sb W1)).inRound l;have Kr:=zJ sb;have hca:=Tryz.call305;replace hc:W1.cell? ⟨W.heap.size,0,none⟩=some (.pointer none):=hc
  gi_wp2_with fail
  refine⟨trivial,iT.mono ?_⟩;rintro e' O ⟨rfl,rY⟩;replace rY:=rY.symm;subst rY;clear iT
  gi_wp2_with fail
  refine⟨trivial,mU.mono ?_⟩;rintro e' O ⟨rfl,rY⟩;replace rY:=rY.symm;subst rY;clear mU Kr hca
  gi_wp2_with fail
  exact⟨KeepsOthers.setCell _ _ _,(jQ5 W.heap.size W1).setCell (p:=⟨W.heap.size,0,none⟩) (jQ0 _) _,⟨World.cell?_setCell_same' _ _ _ (by rw[hc];rfl),by rw[World.frozen?_setCell];exact hf⟩,hB.setCell (p:=⟨W.heap.size,0,none⟩) (jQ0 _) _⟩
 case done=>
  rintro D ys W2 hD rfl ⟨⟨hc,hf⟩,hB⟩ hK;replace hc:W2.cell? ⟨W.heap.size,0,none⟩=some (ptr sb):=hc
  gi_wp2
  have hDz:D<W2.heap.size:=jQ2 hK;refine⟨i6,.inl ⟨_,_,rfl,run_takeDeferred (aq hK),?_⟩⟩;refine⟨_,results_tmp rfl _ _ _,W2.heap.size,rfl,hB.size,?_,?_⟩
  .exact(hB.trans ((an _ _).mono hB.size)).trans (belowK_b (w:=W) (jQ0 _) _ D _ _ M (aq hK) rfl rfl)
  .exact((grownBy_putObj' _ D _).block W2.heap.size (by rw[jQ3];omega) (λe=>by cases e;omega)).trans (ak _ _)
 case stop=>
  rintro D c pre W2 hD _ h _;exact h.elim
end
theorem GN{p:ByteArray}(W:World)(h:W.heap[b]?=some (.cells #[.string p,.string q] 85 (0,0))):Calls prog 122 #[ptr b,ptr b] W λe W'=>e=.returned (.bool true)/\∃m,W'=W.drewN m:=by
 have c1:W.cell? ⟨b,0,none⟩=some (.string p):=by simp[World.cell?,h]
 clear h;go_in;go_wp2_with fail;go_quiet (fail);go_wp2;go_ret;exact⟨i6,_,rfl⟩
theorem sZ{p:ByteArray}{l:List aH}(hd:W.heap[d]?=some (.cells #[.pointer none,ptr ob,.bool false,.int .i32 0,.int .u32 0,.int .u32 15,ut,ut,.bool false,ms] 115 (0,0)))(ho:W.heap[ob]?=some (.cells #[.int .i64 p0,ptr pk,.string nm0,tv] 119 (0,0)))(Hm:W.heap[pk]?=some (.cells #[.string p,.string q] 85 (0,0)))(hf:W.heap[fb]?=some (.cells #[.int .i64 pos,ptr pk,.string nm,v6,.bool false,.bool false] 173 (0,0)))(aL:W.ownsRow base 97 1 ms ps.length ps)(cS:base<=W.heap.size)(cF:ps.length+1<=1099511627776)(hr:eE D W ps ms)(hl:All2 (mr S D W) l ps)(hn:isName nm=true)(LH:∀m∈l,isName m.name=true)(yN:l.find? (λm=>aE m.name nm)=none):
 Calls prog 75 #[ptr d,ptr fb] W λe W'=>e=.returned (.tuple #[])/\∃xX,W'.ownsRow base 97 1 xX (ps++[ptr fb]).length (ps++[ptr fb])/\(xX.ownBlock=ms.ownBlock\/∃g,xX.ownBlock=some g/\W.heap.size<=g)/\
  W'.heap[d]?=some (.cells #[.pointer none,ptr ob,.bool false,.int .i32 0,.int .u32 0,.int .u32 15,ut,ut,.bool false,xX] 115 (0,0))/\W'.os=W.os/\W'.tape=W.tape/\W'.output=W.output/\W.heap.size<=W'.heap.size/\∀b,b<W.heap.size->b≠d->ms.ownBlock≠some b->W'.heap[b]?=W.heap[b]?:=by
 have c1:W.cell? ⟨d,1,none⟩=some (ptr ob):=by simp[World.cell?,hd]
 have c2:W.cell? ⟨ob,1,none⟩=some (ptr pk):=by simp[World.cell?,ho]
 have c3:W.cell? ⟨fb,1,none⟩=some (ptr pk):=by simp[World.cell?,hf]
 obtain⟨HC1,WZ,HD,HF,eK,HR,HL,HN⟩:=Z8 (λn=>GN (W.drewN n) Hm) bO hd hf aL hr hl hn;have Rg:=Z LH;have Oo:=Z yN;clear hd ho Hm hf aL hr hl hn LH yN;go_in;go_wp2_with fail;go_quiet (first|(go_at_call 122;refine Calls.quiet_of (HC1.1 _))|(go_at_call 105;refine Calls.quiet_of_same (WZ.1 _)));go_wp2_with fail;have hu:=vN d (W.drewN nq) (by show W.cell? ⟨d,5,none⟩=_;simp[World.cell?,HD.1]);have WL:=yA (W:=W.drewN nq) (S:=S) (D:=D) (b:=d) (ms:=ms) (ps:=ps) (l:=l) (nm:=nm) (by show W.cell? ⟨d,9,none⟩=_;simp[World.cell?,HD.1]) HR.1 HL.1 HN.1 Rg.1 false;have hh:∃W1,W1=W.drewN nq/\W1.heap=W.heap/\W1.os=W.os/\W1.tape=W.tape/\W1.output=W.output:=⟨_,rfl,rfl,rfl,rfl,rfl⟩;obtain⟨W1,e1,g1,g2,g3,g4⟩:=hh;rw[<-e1]at hu WL⊢;clear e1;have c4:W1.cell? ⟨fb,2,none⟩=some (.string nm):=by simp[World.cell?,g1,HF.1]
 have c9:W1.cell? ⟨d,9,none⟩=some ms:=by simp[World.cell?,g1,HD.1]
 obtain⟨G1,G2,G3,G4⟩:=Z4 g1 g2 g3 g4;clear g1 g2 g3 g4;refine rv hu ?_;clear hu;go_wp2_with fail;refine WL.mono ?_;rintro e' O ⟨hw,H⟩;replace hw:=hw.symm;subst hw;have dt:e'=.returned (.int .i64 (-1)):=by
  rcases H with⟨h,_⟩|⟨i,m,_,_,h⟩
  .exact h
  .have:=h rfl;rw[Oo.1]at this;cases this
 subst dt;clear WL H;have KG:=Z (show(W1.alloc (.cells #[ptr fb] 97)).ownsRow base 97 1 ms ps.length ps from cD eK.1 λg hg=>(aq (by rw[G1.1];exact(aC eK.1 g hg).2.2.choose_spec)).trans (aC eK.1 g hg).2.2.choose_spec.symm);go_wp2_with (at_builtin;refine gH underlying99 U3 rfl M rfl _ _ rfl base ms ps rfl KG.1 (ptr fb) rfl ⟨W1.heap.size,0,none⟩ 1 rfl (cell_one_new _ _ _) cF (by rw[jQ3,G1.1];omega) ?_);intro v7 w7 bF jm uM;obtain⟨a7,n7,c7,rfl⟩:∃a n c,v7=.slice a n c:=M168
 have Ot:∀{b:Nat} {cs:Array Value} {ty:TypeId},W.heap[b]?=some (.cells cs ty (0,0))->ty≠97->ms.ownBlock≠some b:=λhb bk e=>by
  obtain⟨_,_,cur,U⟩:=aC eK.1 _ e;rw[hb]at U;cases U;exact bk rfl
 have h7:w7.heap[d]?=_:=(jm.block d (by rw[jQ3,G1.1];have:=jQ2 HD.1;omega) λe=>Ot HD.1 i5 e.symm).trans (aq (by rw[G1.1];exact HD.1));have b9:w7.cell? ⟨d,9,none⟩=some ms:=by simp[World.cell?,h7]
 have z9:=cd h7 9;obtain⟨lZ,yU,lY,CJ⟩:=Z4 (aw h7 9 (Value.slice a7 n7 c7)) (show w7.ownsRow base 97 1 (Value.slice a7 n7 c7) (ps++[ptr fb]).length (ps++[ptr fb])by simpa using bF) jm uM;clear bF jm uM h7 c1 c2 c3 c4 c9;go_wp2_with fail;refine jRq (v:=.tuple #[]) (by simp[results,Tryz.results75,go_sem]) rfl ?_;refine⟨rfl,Value.slice a7 n7 c7,?_,?_,?_,?_,?_,?_,?_,?_⟩
 .refine cD yU.1 λg hg=>lZ.1.other g λe=>?_;obtain hv|hv:=CJ.1
  .rw[hv,e]at hg;exact Ot HD.1 i5 hg
  .rw[hv,e]at hg;have I:=jQ2 HD.1;have U:=G1.1;simp[U]at hg;omega
 .obtain hv|hv:=CJ.1
  .exact .inl hv
  .exact .inr ⟨_,hv,by have:=G1.1;simp[this]⟩
 .simpa using lZ.1.here
 .exact lZ.1.os.trans (lY.1.os.trans G2.1)
 .exact lZ.1.tape.trans (lY.1.tape.trans G3.1)
 .exact lZ.1.output.trans (lY.1.output.trans G4.1)
 .have:=lZ.1.size;have:=lY.1.size;rw[jQ3,G1.1]at this;omega
 .intro b hb I U;refine(lZ.1.other b I).trans ((lY.1.block b (by rw[jQ3,G1.1];omega) λe=>U e.symm).trans ?_);show(W1.heap.push _)[b]?=_;rw[Array.getElem?_push,jQ4 (by rw[G1.1];omega),G1.1]
abbrev On(ob:Nat)(ut ms:Value):Obj:=.cells #[.pointer none,ptr ob,.bool false,.int .i32 0,.int .u32 0,.int .u32 15,ut,ut,.bool false,ms] 115 (0,0)
def MeR(NS:List ByteArray)(Q:Y->Prop)(w:List ah)(K:Nat)(B:Bl)(DI:Qx)(σ:BS)(W:World)(d ob base:Nat)(ut ms:Value)(ps:List Value)(m:aH)(e:Ending)(W':World):Prop:=
 e=.returned (.tuple #[])/\∃aO W1 p xX,Md NS Q w K B DI σ W (nds m.sig) aO W1/\mr aO.S aO.D W1 m p/\W'.ownsRow base 97 1 xX (ps++[p]).length (ps++[p])/\(xX.ownBlock=ms.ownBlock\/∃g,xX.ownBlock=some g/\W1.heap.size<=g)/\
  W'.heap[d]?=some (On ob ut xX)/\W'.os=W1.os/\W'.tape=W1.tape/\W'.output=W1.output/\W1.heap.size<=W'.heap.size/\∀b,b<W1.heap.size->b≠d->ms.ownBlock≠some b->W'.heap[b]?=W1.heap[b]?
theorem Jy{l:List aH}(h:All2 (mr σ.S σ.D W) l ps)(hb:Bs NS Q w K B DI σ W)(hg:Gr B σ aO W W')(hk:∀m∈l,m.sig.ld=7):All2 (mr aO.S aO.D W') l ps:=by
 induction l generalizing ps with
 |nil=>cases ps with
  |nil=>trivial
  |cons _ _=>exact h.elim
 |cons m l ih=>cases ps with
  |nil=>exact h.elim
  |cons p ps=>exact⟨h.1.move hg.sle (hg.aJ hb) (λb s hs _=>hg.types hb b s hs) (hk m i6),ih h.2 λm' j9=>hk m' (by simp[j9])⟩
theorem DS(ih:∀N,dR NS Q w K B DI N){m:aH}(lD:m.ptr=mp){l:List aH}(cG:Bs NS Q w K B DI σ W)(hd:B.ds[hp]?=some d)(hdh:W.heap[d]?=some (On ob ut ms))(hod:σ.D ob)(Nj:W.heap[ob]?=some (.cells #[.int .i64 p0,ptr B.pk,.string nm0,tv] 119 (0,0)))(kX:dK B DI σ base W 97 ps ms)(cS:base<=W.heap.size)(hl:All2 (mr σ.S σ.D W) l ps)(hlk:∀m∈l,m.sig.ld=7/\isName m.name=true)(hk:m.sig.ld=7)(dU:isName m.name=true)(yN:l.find? (λx=>aE x.name m.name)=none)(j:PT NS Q w 2 m.sig)(hs:RS DI W m.sig.li (.slice a0 m.sig.li.length c))(cF:σ.ml.length+nds m.sig<=1099511627776)(kj:ps.length+1<=1099511627776):
 Calls prog 31 #[ptr B.bb,.int .i64 hp,.agg #[.string m.name,.bool mp,.int .i64 m.sig.ld,.int .i64 m.sig.n,.int .i64 m.sig.m,.bool m.sig.va,.string m.sig.name,.string m.sig.gc,.slice a0 m.sig.li.length c]] W (MeR NS Q w K B DI σ W d ob base ut ms ps m):=by
 have ar:=an W (.cells #[.string m.name,.bool mp,.int .i64 m.sig.ld,.int .i64 m.sig.n,.int .i64 m.sig.m,.bool m.sig.va,.string m.sig.name,.string m.sig.gc,.slice a0 m.sig.li.length c] 68);have jz:=ak W (.cells #[.string m.name,.bool mp,.int .i64 m.sig.ld,.int .i64 m.sig.n,.int .i64 m.sig.m,.bool m.sig.va,.string m.sig.name,.string m.sig.gc,.slice a0 m.sig.li.length c] 68);obtain⟨x0,x1,x2,x3,x4,x5,x6,x7,x8⟩:=uk jz;have yF:=Z ((Md.start cG).below ar);have hds:=cG.rn _ _ hd;have nr:=yF.1.bs.row;obtain⟨ra,rc,eD⟩:=nr.form;rw[eD,jR7]at nr;obtain⟨db,DK,rfl,uw,SO⟩:=nr.nth (p:=ptr d) (by rw[List.getElem?_map,hd];rfl);have hblk:=yF.1.bs.jl;have KZ:=eD;rw[jR7]at KZ;rw[KZ]at hblk;have zI:(W.alloc (.cells #[.string m.name,.bool mp,.int .i64 m.sig.ld,.int .i64 m.sig.n,.int .i64 m.sig.m,.bool m.sig.va,.string m.sig.name,.string m.sig.gc,.slice a0 m.sig.li.length c] 68)).cell? ⟨B.bb,0,none⟩=some (ptr B.pk):=by simp[World.cell?,hblk]
 have iT:(W.alloc (.cells #[.string m.name,.bool mp,.int .i64 m.sig.ld,.int .i64 m.sig.n,.int .i64 m.sig.m,.bool m.sig.va,.string m.sig.name,.string m.sig.gc,.slice a0 m.sig.li.length c] 68)).cell? ⟨B.bb,1,none⟩=some (.slice (some ⟨db,DK,none⟩) B.ds.length rc):=by simp[World.cell?,hblk]
 have aM:(hp:Int)<(B.ds.length:Int):=by have:=(jQg.1 hd).1;omega
 have fq:=cG.loc (g:=W.heap.size) (jQ0 _);have GI:=jQ2 jz;have gV:=Z (show∀mL O,Bs NS Q w K B DI mL O->Gr B σ mL (W.alloc (.cells #[.string m.name,.bool mp,.int .i64 m.sig.ld,.int .i64 m.sig.n,.int .i64 m.sig.m,.bool m.sig.va,.string m.sig.name,.string m.sig.gc,.slice a0 m.sig.li.length c] 68)) O->O.cell? ⟨B.bb,0,none⟩=some (ptr B.pk)/\O.cell? ⟨B.bb,1,none⟩=some (.slice (some ⟨db,DK,none⟩) B.ds.length rc)/\O.cell? ⟨db,DK+hp,none⟩=some (ptr d)/\O.cell? ⟨W.heap.size,0,none⟩=some (.string m.name)/\O.cell? ⟨W.heap.size,1,none⟩=some (.bool mp)/\O.cell? ⟨W.heap.size,2,none⟩=some (.int .i64 m.sig.ld)/\O.cell? ⟨W.heap.size,3,none⟩=some (.int .i64 m.sig.n)/\O.cell? ⟨W.heap.size,4,none⟩=some (.int .i64 m.sig.m)/\O.cell? ⟨W.heap.size,5,none⟩=some (.bool m.sig.va)/\O.cell? ⟨W.heap.size,6,none⟩=some (.string m.sig.name)/\O.cell? ⟨W.heap.size,7,none⟩=some (.string m.sig.gc)/\O.cell? ⟨W.heap.size,8,none⟩=some (.slice a0 m.sig.li.length c)from
  λmL O I U=>⟨by simp[World.cell?,I.jl],by simp[World.cell?,I.jl,KZ],(jQi (w:=W.alloc (.cells #[.string m.name,.bool mp,.int .i64 m.sig.ld,.int .i64 m.sig.n,.int .i64 m.sig.m,.bool m.sig.va,.string m.sig.name,.string m.sig.gc,.slice a0 m.sig.li.length c] 68)) (U.aJ yF.1.bs db uw).2).trans SO,fq.cell GI U x0,fq.cell GI U x1,fq.cell GI U x2,fq.cell GI U x3,fq.cell GI U x4,fq.cell GI U x5,fq.cell GI U x6,fq.cell GI U x7,fq.cell GI U x8⟩)
 have hv:RT DI (W.alloc (.cells #[.string m.name,.bool mp,.int .i64 m.sig.ld,.int .i64 m.sig.n,.int .i64 m.sig.m,.bool m.sig.va,.string m.sig.name,.string m.sig.gc,.slice a0 m.sig.li.length c] 68)) m.sig (.agg #[.int .i64 m.sig.ld,.int .i64 m.sig.n,.int .i64 m.sig.m,.bool m.sig.va,.string m.sig.name,.string m.sig.gc,.slice a0 m.sig.li.length c]):=by
  have:=hs.move (λx H=>(⟨H,ar.block x (cG.di x H).1⟩:DI x/\(W.alloc (.cells #[.string m.name,.bool mp,.int .i64 m.sig.ld,.int .i64 m.sig.n,.int .i64 m.sig.m,.bool m.sig.va,.string m.sig.name,.string m.sig.gc,.slice a0 m.sig.li.length c] 68)).heap[x]?=W.heap[x]?));obtain⟨mn,mpp,k,n,mm,va,nm,tg,l⟩:=m;rw[RT];exact⟨_,rfl,this⟩
 obtain⟨HRT,KR,uL,Hn,nX,HDS,HDH,P2⟩:=Z8 (show∀mL O,Gr B σ mL (W.alloc (.cells #[.string m.name,.bool mp,.int .i64 m.sig.ld,.int .i64 m.sig.n,.int .i64 m.sig.m,.bool m.sig.va,.string m.sig.name,.string m.sig.gc,.slice a0 m.sig.li.length c] 68)) O->RT DI O m.sig (.agg #[.int .i64 m.sig.ld,.int .i64 m.sig.n,.int .i64 m.sig.m,.bool m.sig.va,.string m.sig.name,.string m.sig.gc,.slice a0 m.sig.li.length c])from λmL O h=>hv.move (yF.1.bs.C0 h)) ih cG hk j hds hdh hod;obtain⟨XC,Ls,zq,HLK,wS,Oo,Ob,kr⟩:=Z8 Nj kX hl hlk dU yN kj cF;obtain⟨HMP,HDB,eQ,HGA⟩:=Z4 lD uw cS (Gr.below ar:Gr B σ σ W _);clear ih cG hd hdh hod Nj kX cS hl hlk hk dU yN j hs cF kj lD ar jz hds nr eD hblk KZ fq GI hv uw;cases mp with
 |false=>
  go_in;go_wp2_with fail;obtain⟨ym,HRP,acd⟩:=Z3 (Gr.refl (B:=B) σ (W.alloc (.cells #[.string m.name,.bool false,.int .i64 m.sig.ld,.int .i64 m.sig.n,.int .i64 m.sig.m,.bool m.sig.va,.string m.sig.name,.string m.sig.gc,.slice a0 m.sig.li.length c] 68))) (show false=true->∃tt,σ.S d=some tt/\tt.ld=6 from λh=>by cases h) (show σ.ml.length+nds m.sig<=1099511627776 from kr.1);clear x0 x1 x2 x3 x4 x5 x6 x7 x8 SO zI iT;generalize Lc:W.alloc (.cells #[.string m.name,.bool false,.int .i64 m.sig.ld,.int .i64 m.sig.n,.int .i64 m.sig.m,.bool m.sig.va,.string m.sig.name,.string m.sig.gc,.slice a0 m.sig.li.length c] 68)=wB at yF gV HRT HGA ym⊢;have KF:=yF;have hcv:=sW 0 (some ⟨B.pk,0,none⟩) ⟨#[]⟩ 53 (ptr d) wB;refine rv hcv ?_;clear hcv;obtain⟨rG,Oq,HVB⟩:=Z3 ((KF.1.iz #[.int .i64 0,ptr B.pk,.string ⟨#[]⟩,.iface 53 (ptr d),.int .u8 1,.bool false] 164).below (jQ5 _ _).drew) ((ym.1.trans (jk KF.1.bs #[.int .i64 0,ptr B.pk,.string ⟨#[]⟩,.iface 53 (ptr d),.int .u8 1,.bool false] 164)).trans (Gr.below (jQ5 _ _).drew)) (ak wB (.cells #[.int .i64 0,ptr B.pk,.string ⟨#[]⟩,.iface 53 (ptr d),.int .u8 1,.bool false] 164));have HVE:=Z (HRT.1 _ _ Oq.1);have HLM:=Z (show _+nds m.sig<=1099511627776 from acd.1);go_wp2_with fail;refine jQ9 (S:=(λO=>O.cell? ⟨B.bb,0,none⟩=some (ptr B.pk)/\O.cell? ⟨B.bb,1,none⟩=some (.slice (some ⟨db,DK,none⟩) B.ds.length rc)/\O.cell? ⟨db,DK+hp,none⟩=some (ptr d)/\O.cell? ⟨W.heap.size,0,none⟩=some (.string m.name)/\O.cell? ⟨W.heap.size,1,none⟩=some (.bool false)/\O.cell? ⟨W.heap.size,2,none⟩=some (.int .i64 m.sig.ld)/\O.cell? ⟨W.heap.size,3,none⟩=some (.int .i64 m.sig.n)/\O.cell? ⟨W.heap.size,4,none⟩=some (.int .i64 m.sig.m)/\O.cell? ⟨W.heap.size,5,none⟩=some (.bool m.sig.va)/\O.cell? ⟨W.heap.size,6,none⟩=some (.string m.sig.name)/\O.cell? ⟨W.heap.size,7,none⟩=some (.string m.sig.gc)/\O.cell? ⟨W.heap.size,8,none⟩=some (.slice a0 m.sig.li.length c))) g9 (gV.1 _ _ rG.1.bs Oq.1) (λai=>?_);refine t4 0 1 2 3 ?_;refine t4 4 5 6 7 ?_;refine t4 8 9 10 11 ?_;refine t4 12 13 14 15 ?_;refine t7 16 ?_;refine rd 17 rfl λK hK=>?_;go_simp;clear ai;refine(je (KR.1 (nds m.sig)) KK (some ⟨wB.heap.size,0,none⟩) Hn.1 (Nat.le_succ _) nX.1 rG.1.bs HVE.1 HLM.1).mono ?_;rintro eA wA ⟨u,σ3,rfl,cq,b1,pa,re,rfl,yW,cG,RY⟩;obtain⟨oU,rQ,UF,wL,HSH⟩:=Z5 (rG.1.trans cq) (Oq.1.trans cq.gr) cq.gr cG RY;refine hK.out _ _ (gV.1 _ _ oU.1.bs rQ.1) (λai=>?_);clear cq yW cG RY;clear hK K;refine rd 18 rfl λK hK=>?_;go_simp;clear ai;refine rv (kM _ _ _ _ _) ?_;obtain⟨jI,mQ,UG⟩:=Z3 (oU.1.iz #[.int .i64 0,ptr B.pk,.string m.name,.iface 92 (ptr b1),.bool false,.bool false] 173) (rQ.1.trans (jk oU.1.bs #[.int .i64 0,ptr B.pk,.string m.name,.iface 92 (ptr b1),.bool false,.bool false] 173)) (UF.1.trans (jk oU.1.bs #[.int .i64 0,ptr B.pk,.string m.name,.iface 92 (ptr b1),.bool false,.bool false] 173));refine hK.out _ _ (gV.1 _ _ jI.1.bs mQ.1) (λai=>?_);clear hK K;refine rd 19 rfl λK hK=>?_;go_simp;have mF:=ai;clear ai;have JU:=HGA.1.trans mQ.1;have hdt:=(JU.types uL.1 d _ HDS.1).trans HDH.1;have UH:=(JU.aJ uL.1 ob P2.1);have yW:base<=(wA.alloc (.cells #[.int .i64 0,ptr B.pk,.string m.name,.iface 92 (ptr b1),.bool false,.bool false] 173)).heap.size:=by have:=eQ.1;have:=JU.size;omega
  obtain⟨pb',pp,pq,epk, -,Hm⟩:=jI.1.bs.Rm.resolve_left i6;simp at epk;subst epk;have Y6:=Ls.1.gr JU;have HRW:=Z Y6;have gP:=Jy zq.1 uL.1 JU (λm hm=>(HLK.1 m hm).1);have yT:All2 (mr _ (λb=>(σ3.D b\/b=wA.heap.size)\/ms.ownBlock=some b) (wA.alloc (.cells #[.int .i64 0,ptr B.pk,.string m.name,.iface 92 (ptr b1),.bool false,.bool false] 173))) l ps:=gP.imp λm p h=>by
   obtain⟨b,pos,pk,sb,rb,pos',F0,nm,k,rt,I,U,h3,h4,h5,h6,h7⟩:=h;exact⟨b,pos,pk,sb,rb,pos',F0,nm,k,rt,I,.inl U,h3,h4,h5,.inl h6,h7⟩
  refine(sZ (D:=λb=>(σ3.D b\/b=wA.heap.size)\/ms.ownBlock=some b) hdt (UH.2.trans XC.1) Hm (ak wA (.cells #[.int .i64 0,ptr B.pk,.string m.name,.iface 92 (ptr b1),.bool false,.bool false] 173)) Y6.own yW Ob.1 (Y6.row λg hg=>.inr hg) yT wS.1 (λm hm=>(HLK.1 m hm).2) Oo.1).mono ?_;rintro eA wD ⟨rfl,xX,aL,hmo,Ot,Ao,fQ,Le,j8,j6⟩;have ace:=Z (And.intro aL (And.intro hmo (And.intro Ot (And.intro Ao (And.intro fQ (And.intro Le (And.intro j8 j6)))))));have jC:∀{b i:Nat} {u:Value},b≠d->ms.ownBlock≠some b->(wA.alloc (.cells #[.int .i64 0,ptr B.pk,.string m.name,.iface 92 (ptr b1),.bool false,.bool false] 173)).cell? ⟨b,i,none⟩=some u->wD.cell? ⟨b,i,none⟩=some u:=λI U h3=>(jQi (w:=wA.alloc (.cells #[.int .i64 0,ptr B.pk,.string m.name,.iface 92 (ptr b1),.bool false,.bool false] 173)) (j6 _ (jQs h3) I U)).trans h3;have q1:B.bb≠d:=λe=>by have:=jI.1.bs.kJ.1;rw[e,JU.sle _ _ HDS.1]at this;cases this
  have q2:ms.ownBlock≠some B.bb:=λe=>(HRW.1.loc _ e).2.2.1 rfl;have q3:db≠d:=λe=>jI.1.bs.th.rS d _ (JU.sle _ _ HDS.1) (e▸mQ.1.Jo _ HDB.1);have q4:ms.ownBlock≠some db:=λe=>(HRW.1.loc _ e).2.1 (mQ.1.Jo _ HDB.1);have q5:W.heap.size≠d:=λe=>by have:=jQ2 HDH.1;omega
  have q6:ms.ownBlock≠some W.heap.size:=λe=>by have:=(aC Ls.1.own _ e).2.1;omega
  refine hK.out _ _ ⟨jC q1 q2 mF.1,jC q1 q2 mF.2.1,jC q3 q4 mF.2.2.1,jC q5 q6 mF.2.2.2.1,jC q5 q6 mF.2.2.2.2.1,jC q5 q6 mF.2.2.2.2.2.1,jC q5 q6 mF.2.2.2.2.2.2.1,jC q5 q6 mF.2.2.2.2.2.2.2.1,jC q5 q6 mF.2.2.2.2.2.2.2.2.1,jC q5 q6 mF.2.2.2.2.2.2.2.2.2.1,jC q5 q6 mF.2.2.2.2.2.2.2.2.2.2.1,jC q5 q6 mF.2.2.2.2.2.2.2.2.2.2.2⟩ (λai=>?_);clear JU yW mF jC q1 q2 q3 q4 q5 q6 aL hmo Ot Ao fQ Le j8 j6 Y6 gP yT UH hdt;clear hK K;refine jQl g9 ?_ _;clear ai;go_wp2_with fail;refine jRq (v:=.tuple #[]) (by simp[results,Tryz.results31,go_sem]) rfl ?_;have bk:=gq m.sig;refine⟨rfl,_,_,ptr wA.heap.size,xX,jI.1.more M,?_,ace.1⟩;refine⟨wA.heap.size,0,some ⟨B.pk,0,none⟩,b1,wB.heap.size,0,some ⟨B.pk,0,none⟩,⟨#[]⟩,1,d,rfl,.inr rfl,ak _ _,wL.1,?_,.inl (UF.1.Jo _ (.inr rfl)),?_,λj=>?_⟩
  .exact M134
  .exact M209
  .exact M165
 |true=>
  go_in;go_wp2_with fail;clear x0 x1 x2 x3 x4 x5 x6 x7 x8 SO iT;generalize Lc:W.alloc (.cells #[.string m.name,.bool true,.int .i64 m.sig.ld,.int .i64 m.sig.n,.int .i64 m.sig.m,.bool m.sig.va,.string m.sig.name,.string m.sig.gc,.slice a0 m.sig.li.length c] 68)=w1 at yF gV HRT HGA zI⊢;have Y7:=oF 53 (ptr d) w1;refine rv Y7 ?_;clear Y7;have hpo:=ad9 (t:=.mk 6 0 0 false es es [r9 hp]) (e:=r9 hp) (Md.start yF.1.bs) rfl rfl (v:=.iface 53 (ptr d)) ⟨d,rfl,by rw[Uo (t:=r9 hp) rfl (by simp[r9,Y.n])];exact HDS.1⟩;obtain⟨u5,σB,e5,Y8,b5,e6,Q3⟩:=hpo;cases e5;simp at e6;obtain⟨-,e6⟩:=e6;subst e6;have mU:=aq (o:=.cells #[.iface 53 (ptr d)] 149) yF.1.bs.jl;replace zI:(w1.alloc (.cells #[.iface 53 (ptr d)] 149)).cell? ⟨B.bb,0,none⟩=some (ptr B.pk):=by simp[World.cell?,mU]
  obtain⟨ym,KF,HRP,acd⟩:=Z4 Y8.gr (yF.1.trans Y8) (show true=true->∃tt,σB.S w1.heap.size=some tt/\tt.ld=6 from λ_=>⟨_,Q3,rfl⟩) (show σB.ml.length+nds m.sig<=1099511627776 by have I:=Y8.len;have U:=kr.1;omega);clear Y8 Q3 mU;obtain⟨rp,hrp⟩:∃rp,rp=w1.heap.size:=⟨_,rfl⟩;rw[<-hrp]at HRP;generalize oW:w1.alloc (.cells #[.iface 53 (ptr d)] 149)=wB at ym KF zI⊢;simp only[<-hrp];clear Lc oW hrp;go_wp2_with fail;have hcv:=sW 0 (some ⟨B.pk,0,none⟩) ⟨#[]⟩ 133 (ptr rp) wB;refine rv hcv ?_;clear hcv;obtain⟨rG,Oq,HVB⟩:=Z3 ((KF.1.iz #[.int .i64 0,ptr B.pk,.string ⟨#[]⟩,.iface 133 (ptr rp),.int .u8 1,.bool false] 164).below (jQ5 _ _).drew) ((ym.1.trans (jk KF.1.bs #[.int .i64 0,ptr B.pk,.string ⟨#[]⟩,.iface 133 (ptr rp),.int .u8 1,.bool false] 164)).trans (Gr.below (jQ5 _ _).drew)) (ak wB (.cells #[.int .i64 0,ptr B.pk,.string ⟨#[]⟩,.iface 133 (ptr rp),.int .u8 1,.bool false] 164));have HVE:=Z (HRT.1 _ _ Oq.1);have HLM:=Z (show _+nds m.sig<=1099511627776 from acd.1);go_wp2_with fail;refine jQ9 (S:=(λO=>O.cell? ⟨B.bb,0,none⟩=some (ptr B.pk)/\O.cell? ⟨B.bb,1,none⟩=some (.slice (some ⟨db,DK,none⟩) B.ds.length rc)/\O.cell? ⟨db,DK+hp,none⟩=some (ptr d)/\O.cell? ⟨W.heap.size,0,none⟩=some (.string m.name)/\O.cell? ⟨W.heap.size,1,none⟩=some (.bool true)/\O.cell? ⟨W.heap.size,2,none⟩=some (.int .i64 m.sig.ld)/\O.cell? ⟨W.heap.size,3,none⟩=some (.int .i64 m.sig.n)/\O.cell? ⟨W.heap.size,4,none⟩=some (.int .i64 m.sig.m)/\O.cell? ⟨W.heap.size,5,none⟩=some (.bool m.sig.va)/\O.cell? ⟨W.heap.size,6,none⟩=some (.string m.sig.name)/\O.cell? ⟨W.heap.size,7,none⟩=some (.string m.sig.gc)/\O.cell? ⟨W.heap.size,8,none⟩=some (.slice a0 m.sig.li.length c))) g9 (gV.1 _ _ rG.1.bs Oq.1) (λai=>?_);refine t4 0 1 2 3 ?_;refine t4 4 5 6 7 ?_;refine t4 8 9 10 11 ?_;refine t4 12 13 14 15 ?_;refine t7 16 ?_;refine rd 17 rfl λK hK=>?_;go_simp;clear ai;refine(je (KR.1 (nds m.sig)) KK (some ⟨wB.heap.size,0,none⟩) Hn.1 (Nat.le_succ _) nX.1 rG.1.bs HVE.1 HLM.1).mono ?_;rintro eA wA ⟨u,σ3,rfl,cq,b1,pa,re,rfl,yW,cG,RY⟩;obtain⟨oU,rQ,UF,wL,HSH⟩:=Z5 (rG.1.trans cq) (Oq.1.trans cq.gr) cq.gr cG RY;refine hK.out _ _ (gV.1 _ _ oU.1.bs rQ.1) (λai=>?_);clear cq yW cG RY;clear hK K;refine rd 18 rfl λK hK=>?_;go_simp;clear ai;refine rv (kM _ _ _ _ _) ?_;obtain⟨jI,mQ,UG⟩:=Z3 (oU.1.iz #[.int .i64 0,ptr B.pk,.string m.name,.iface 92 (ptr b1),.bool false,.bool false] 173) (rQ.1.trans (jk oU.1.bs #[.int .i64 0,ptr B.pk,.string m.name,.iface 92 (ptr b1),.bool false,.bool false] 173)) (UF.1.trans (jk oU.1.bs #[.int .i64 0,ptr B.pk,.string m.name,.iface 92 (ptr b1),.bool false,.bool false] 173));refine hK.out _ _ (gV.1 _ _ jI.1.bs mQ.1) (λai=>?_);clear hK K;refine rd 19 rfl λK hK=>?_;go_simp;have mF:=ai;clear ai;have JU:=HGA.1.trans mQ.1;have hdt:=(JU.types uL.1 d _ HDS.1).trans HDH.1;have UH:=(JU.aJ uL.1 ob P2.1);have yW:base<=(wA.alloc (.cells #[.int .i64 0,ptr B.pk,.string m.name,.iface 92 (ptr b1),.bool false,.bool false] 173)).heap.size:=by have:=eQ.1;have:=JU.size;omega
  obtain⟨pb',pp,pq,epk, -,Hm⟩:=jI.1.bs.Rm.resolve_left i6;simp at epk;subst epk;have Y6:=Ls.1.gr JU;have HRW:=Z Y6;have gP:=Jy zq.1 uL.1 JU (λm hm=>(HLK.1 m hm).1);have yT:All2 (mr _ (λb=>(σ3.D b\/b=wA.heap.size)\/ms.ownBlock=some b) (wA.alloc (.cells #[.int .i64 0,ptr B.pk,.string m.name,.iface 92 (ptr b1),.bool false,.bool false] 173))) l ps:=gP.imp λm p h=>by
   obtain⟨b,pos,pk,sb,rb,pos',F0,nm,k,rt,I,U,h3,h4,h5,h6,h7⟩:=h;exact⟨b,pos,pk,sb,rb,pos',F0,nm,k,rt,I,.inl U,h3,h4,h5,.inl h6,h7⟩
  refine(sZ (D:=λb=>(σ3.D b\/b=wA.heap.size)\/ms.ownBlock=some b) hdt (UH.2.trans XC.1) Hm (ak wA (.cells #[.int .i64 0,ptr B.pk,.string m.name,.iface 92 (ptr b1),.bool false,.bool false] 173)) Y6.own yW Ob.1 (Y6.row λg hg=>.inr hg) yT wS.1 (λm hm=>(HLK.1 m hm).2) Oo.1).mono ?_;rintro eA wD ⟨rfl,xX,aL,hmo,Ot,Ao,fQ,Le,j8,j6⟩;have ace:=Z (And.intro aL (And.intro hmo (And.intro Ot (And.intro Ao (And.intro fQ (And.intro Le (And.intro j8 j6)))))));have jC:∀{b i:Nat} {u:Value},b≠d->ms.ownBlock≠some b->(wA.alloc (.cells #[.int .i64 0,ptr B.pk,.string m.name,.iface 92 (ptr b1),.bool false,.bool false] 173)).cell? ⟨b,i,none⟩=some u->wD.cell? ⟨b,i,none⟩=some u:=λI U h3=>(jQi (w:=wA.alloc (.cells #[.int .i64 0,ptr B.pk,.string m.name,.iface 92 (ptr b1),.bool false,.bool false] 173)) (j6 _ (jQs h3) I U)).trans h3;have q1:B.bb≠d:=λe=>by have:=jI.1.bs.kJ.1;rw[e,JU.sle _ _ HDS.1]at this;cases this
  have q2:ms.ownBlock≠some B.bb:=λe=>(HRW.1.loc _ e).2.2.1 rfl;have q3:db≠d:=λe=>jI.1.bs.th.rS d _ (JU.sle _ _ HDS.1) (e▸mQ.1.Jo _ HDB.1);have q4:ms.ownBlock≠some db:=λe=>(HRW.1.loc _ e).2.1 (mQ.1.Jo _ HDB.1);have q5:W.heap.size≠d:=λe=>by have:=jQ2 HDH.1;omega
  have q6:ms.ownBlock≠some W.heap.size:=λe=>by have:=(aC Ls.1.own _ e).2.1;omega
  refine hK.out _ _ ⟨jC q1 q2 mF.1,jC q1 q2 mF.2.1,jC q3 q4 mF.2.2.1,jC q5 q6 mF.2.2.2.1,jC q5 q6 mF.2.2.2.2.1,jC q5 q6 mF.2.2.2.2.2.1,jC q5 q6 mF.2.2.2.2.2.2.1,jC q5 q6 mF.2.2.2.2.2.2.2.1,jC q5 q6 mF.2.2.2.2.2.2.2.2.1,jC q5 q6 mF.2.2.2.2.2.2.2.2.2.1,jC q5 q6 mF.2.2.2.2.2.2.2.2.2.2.1,jC q5 q6 mF.2.2.2.2.2.2.2.2.2.2.2⟩ (λai=>?_);clear JU yW mF jC q1 q2 q3 q4 q5 q6 aL hmo Ot Ao fQ Le j8 j6 Y6 gP yT UH hdt;clear hK K;refine jQl g9 ?_ _;clear ai;go_wp2_with fail;refine jRq (v:=.tuple #[]) (by simp[results,Tryz.results31,go_sem]) rfl ?_;have bk:=gq m.sig;refine⟨rfl,_,_,ptr wA.heap.size,xX,jI.1.more M,?_,ace.1⟩;refine⟨wA.heap.size,0,some ⟨B.pk,0,none⟩,b1,wB.heap.size,0,some ⟨B.pk,0,none⟩,⟨#[]⟩,1,rp,rfl,.inr rfl,ak _ _,wL.1,?_,.inl (UF.1.Jo _ (.inr rfl)),?_,λj=>?_⟩
  .exact M134
  .exact M209
  .exact M165
