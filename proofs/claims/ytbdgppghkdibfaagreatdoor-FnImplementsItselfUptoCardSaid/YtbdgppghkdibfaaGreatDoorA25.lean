import Derived.Test.YtbdgppghkdibfaaGreatDoorA20
import Derived.Test.YtbdgppghkdibfaaGreatDoorA24
set_option linter.all false
set_option maxHeartbeats 16000000
set_option maxRecDepth 20000
namespace Go.Proofs.YtbdgppghkdibfaaGreatDoor
open Go Go.RowKit Go.Lib S P Tryz
variable{ops:Array Oper}{aO eo fT σ:BS}{B:Bl}{s:ByteArray}{e t x:Y}{Q:Y->Prop}{NS nms:List ByteArray}{l:List Y}{ps qs xs ys:List Value}{w:List ah}{B8 K N b b5 base bs c c2 ec g k kk m md n n2 sb size:Nat}{D D' DI P:Qx}{o:Oper}{a a2 ea pk rc rc':Option Addr}{so:Option Nat}{GT:Prop}{S:Sg}{e2 st ty:TypeId}{fv p pa re sl tg tv v v2 z:Value}{W W' W0 W1 W2 O wr:World}
def jRj:type_of% @List.length_take:=@List.length_take
theorem M133(h:GT:=by
 go_in;go_wp2_with fail;refine hc.mono ?_;rintro e O ⟨rfl,hw⟩;subst hw;clear hc;go_wp2;go_ret;refine⟨i6,?_⟩;simp[oS,allocs]):GT:=h
theorem M182(h:GT:=by
 obtain⟨k1,k2,cur,k3⟩:=aC cH.fr.own b hb;exact⟨⟨cH.fr.loc b hb,k1⟩,_,_,_,k3⟩):GT:=h
theorem M205(h:GT:=by
 cases hp with
 |zero=>simp at hu;subst hu;exact jQh I
 |succ hp=>simp at hu):GT:=h
theorem M26(h:GT:=by
 have yV:l.take kk=l:=jR6 M;obtain⟨a6,c6,rfl,JA⟩:=cH.fr.form;have cq:=cH.md;have xe:=cH.fl;rw[yV]at cq xe;have OU:=cq.lW (λb=>(Value.slice a6 ps.length c6).ownBlock=some b) (λb hb=>by
  obtain⟨k1,k2,cur,k3⟩:=aC cH.fr.own b hb;exact⟨⟨cH.fr.loc b hb,k1⟩,_,_,_,k3⟩)
 have hr:=cH.fr.row (D:=λb=>aO.D b\/(Value.slice a6 ps.length c6).ownBlock=some b) (λg hg=>.inr hg);have zF:=yg (D':=λb=>aO.D b\/(Value.slice a6 ps.length c6).ownBlock=some b) (W':=wr) xe (λb hb=>⟨.inl hb,rfl⟩);obtain⟨n6,JA⟩:∃n6,ps.length=n6+1:=⟨ps.length - 1,by have:=Hz.1;omega⟩;have HP:=Z (aaX OU HK.1 HLE.1 hr zF (λe=>by rw[e]at JA;simp at JA));have ag:=rB a6 n6 c6 wr;rw[<-JA]at ag;clear cH eF cq xe OU hr zF yV mR JA;go_wp2_with fail;refine rv ag ?_;clear ag;exact M21):GT:=h
theorem U3:(Tryz.prog.info? 97).map (λi=>(i.zero,i.size,i.bytes))=some (some (.pointer none),1,8):=g9
theorem KT:(Tryz.prog.info? 86).map (λi=>(i.zero,i.size,i.bytes))=some (some (.pointer none),1,8):=g9
theorem acK:(Tryz.prog.info? 33).map (λi=>(i.zero,i.size,i.bytes))=some (some (.pointer none),1,8):=g9
theorem G0:(Tryz.prog.info? 53).map (λi=>(i.zero,i.size,i.bytes))=some (some (.pointer none),1,8):=g9
theorem He:(Tryz.prog.info? 207).map (λi=>(i.zero,i.size,i.bytes))=some (some (.pointer none),1,8):=g9
theorem Zt:(Tryz.prog.info? 37).map (λi=>(i.zero,i.size,i.bytes))=some (some .nilIface,1,16):=g9
theorem abM:(Tryz.prog.info? 9).map (λi=>(i.zero,i.size,i.bytes))=some (some (.string es),1,16):=g9
section
variable{e:TypeId}
theorem lU{a:Act}{w:World}{K:Act->World->Prop}{Q:Exit->Act->World->Prop}{Z:Prop}(cH:Tryz.prog.underlying st=some (.slice e))(hi:(Tryz.prog.info? e).map (λi=>(i.zero,i.size,i.bytes))=some (some z,1,bs))(hz:z.cells.size=1)(cG:0<bs/\bs<=16)(mX:o.guard=none)(s x:Operand)(ho:o.op=.call {callee:=.builtin .append,args:=#[s,x],argTypes:=#[st,st]})(base:Nat)(v:Value)(xs:List Value)(hs:a.eval s=v)(aL:w.ownsRow base e 1 v xs.length xs)(u:Value)(hu:u.oneCell'=true)(ad:Addr)(c:Nat)(H:a.eval x=.slice (some ad) 1 c)(hc:∀hp u',([u]:List Value)[hp]?=some u'->w.cell? (ad.add hp)=some u')(cF:xs.length+1<=1099511627776)(cS:base<=w.heap.size)(h:∀v' O,O.ownsRow base e 1 v' (xs++[u]).length (xs++[u])->w.grownBy O v.ownBlock->(v'.ownBlock=v.ownBlock\/v'.ownBlock=some w.heap.size)->K (a.put o.dst v') O):
 if Region.wanted o (yielded ops a.tmps)=true then Oper.wp prog o a w K Q else Z:=by
 have hw:Region.wanted o (yielded ops a.tmps)=true:=by simp[Region.wanted,mX]
 rw[jQ7 hw];obtain⟨i0,pn,lA,gj,j7⟩:=info_parts hi;obtain⟨v',O,hr,I,U,_,h4⟩:=run_append_own_at (P:=prog) w base st o.type e i0 _ 1 bs cH pn lA gj j7 hz M v xs.length xs aL ad 1 c [u] rfl hc (by intro y hy;simp at hy;subst hy;exact hu)
  (by simp only[maxLen];omega) (by have:=Nat.mul_le_mul_right bs (show xs.length+1<=1099511627776 from cF);omega) cS
 unfold Oper.wp execOp;simp only[ho,resolve,invoke,builtin,jRp,Sem.run_pure,jR8,List.map_toArray,List.map_cons,List.map_nil,hs,H,hr];exact h v' O (by rw[jQo];exact I) U h4
theorem gH{rest:List Oper}{a:Act}{w:World}{Q:Exit->Act->World->Prop}(cH:Tryz.prog.underlying st=some (.slice e))(hi:(Tryz.prog.info? e).map (λi=>(i.zero,i.size,i.bytes))=some (some z,1,bs))(hz:z.cells.size=1)(cG:0<bs/\bs<=16)(mX:o.guard=none)(s x:Operand)(ho:o.op=.call {callee:=.builtin .append,args:=#[s,x],argTypes:=#[st,st]})(base:Nat)(v:Value)(xs:List Value)(hs:a.eval s=v)(aL:w.ownsRow base e 1 v xs.length xs)(u:Value)(hu:u.oneCell'=true)(ad:Addr)(c:Nat)(H:a.eval x=.slice (some ad) 1 c)(hc:∀hp u',([u]:List Value)[hp]?=some u'->w.cell? (ad.add hp)=some u')(cF:xs.length+1<=1099511627776)(cS:base<=w.heap.size)(h:∀v' O,O.ownsRow base e 1 v' (xs++[u]).length (xs++[u])->w.grownBy O v.ownBlock->(v'.ownBlock=v.ownBlock\/v'.ownBlock=some w.heap.size)->wpList prog ops Q rest (a.put o.dst v') O):wpList prog ops Q (o::rest) a w:=by
 obtain⟨i0,pn,lA,gj,j7⟩:=info_parts hi;refine wpList_append_own_at w mX s x st ho base e i0 _ 1 bs cH pn lA gj j7 hz M v xs.length xs hs aL ad 1 c [u] H rfl hc (by intro y hy;simp at hy;subst hy;exact hu)
  (by simp only[maxLen];omega) (by have:=Nat.mul_le_mul_right bs (show xs.length+1<=1099511627776 from cF);omega) cS λv' O k1 k2 _ k4=>?_
 exact h v' O (by rw[jQo];exact k1) k2 k4
end
structure dK(B:Bl)(DI:Qx)(σ:BS)(base:Nat)(W:World)(e:TypeId)(xs:List Value)(v:Value):Prop where
 own:W.ownsRow base e 1 v xs.length xs
 loc:∀g,v.ownBlock=some g->Loc B DI σ g
section
variable{e:TypeId}
theorem aC(h:W.ownsRow base e size v k xs):∀g,v.ownBlock=some g->base<=g/\g<W.heap.size/\∃cur,W.heap[g]?=some (.cells cur e (0,0)):=by
 intro g hg;rcases h.2 with⟨rfl,_⟩|⟨g',cap,cur,rfl,k1,k2,k3⟩
 .simp[Value.ownBlock]at hg
 .simp[Value.ownBlock]at hg;subst hg;exact⟨k1,jQ2 k2,cur,k2⟩
theorem cD(h:W.ownsRow base e size v k xs)(hb:∀g,v.ownBlock=some g->W'.heap[g]?=W.heap[g]?):W'.ownsRow base e size v k xs:=
 ⟨h.1,h.2.imp id λ⟨g,cap,cur,e,k1,k2,k3⟩=>⟨g,cap,cur,e,k1,(hb g (by rw[e];simp[Value.ownBlock])).trans k2,k3⟩⟩
theorem dK.nil:dK B DI σ base W e [] (.slice none 0 0):=⟨jR9 _ _ _ _,λg hg=>by simp[Value.ownBlock]at hg⟩
theorem dK.gr(h:dK B DI σ base W e xs v)(hg:Gr B σ aO W W'):dK B DI aO base W' e xs v:=
 ⟨cD h.own λg hb=>(h.loc g hb).same (aC h.own g hb).2.1 hg,λg hb=>(h.loc g hb).gr (aC h.own g hb).2.1 hg⟩
theorem dK.cR(h:dK B DI σ base W e xs v)(hb:∀g,v.ownBlock=some g->W'.heap[g]?=W.heap[g]?):dK B DI σ base W' e xs v:=⟨cD h.own hb,h.loc⟩
theorem dK.form(h:dK B DI σ base W e xs v):∃a c,v=.slice a xs.length c/\(a=none->c=0):=by
 rcases h.own.2 with⟨rfl,h0⟩|⟨g',cap,cur,rfl,k1,k2,k3⟩
 .exact⟨none,0,by rw[h0],λ_=>rfl⟩
 .exact⟨_,_,rfl,λh=>by cases h⟩
theorem dK.row(h:dK B DI σ base W e xs v)(hD:∀g,v.ownBlock=some g->D g):eE D W xs v:=by
 have hl:=h.own.1;rw[Nat.mul_one]at hl;rcases h.own.2 with⟨rfl,h0⟩|⟨g,cap,cur,rfl,hb,hg,hn,hm,hc,ht⟩
 .exact M171
 .by_cases H:xs=[]
  .subst H;exact M113
  .refine .inr ⟨H,g,0,cap,rfl,M,by simp only[maxLen]at hm;omega,hD g rfl,λhp u hu=>?_⟩;have:=h.own.cells (g:=g) rfl hp u hu;exact M189
theorem Md.grown(h:Md NS Q w K B DI eo W0 n σ W)(hr:dK B DI σ W0.heap.size W e xs v)(hg:W.grownBy W' v.ownBlock)(aL:W'.ownsRow W0.heap.size e 1 v2 ys.length ys)(hv:v2.ownBlock=v.ownBlock\/v2.ownBlock=some W.heap.size):Md NS Q w K B DI eo W0 n σ W'/\dK B DI σ W0.heap.size W' e ys v2:=by
 refine⟨h.step hg.os hg.tape hg.output hg.size λb hb hn=>hg.block b hb λe=>hn ?_,aL,λg Qd=>?_⟩
 .exact⟨hr.loc b e.symm,(aC hr.own b e.symm).1⟩
 .obtain hv|hv:=hv
  .exact hr.loc g (by rw[<-hv];exact Qd)
  .rw[hv]at Qd;cases Qd;exact h.bs.loc (jQ0 _)
theorem dK.other(h:dK B DI σ base W e2 ys v2)(hr:dK B DI σ base W e xs v)(hg:W.grownBy W' v.ownBlock)(bk:e2≠e):dK B DI σ base W' e2 ys v2:=by
 refine h.cR λg hb=>hg.block g (aC h.own g hb).2.1 λe'=>?_;obtain⟨_,_,cur,I⟩:=aC h.own g hb;obtain⟨_,_,adF,U⟩:=aC hr.own g e'.symm;rw[I]at U;cases U;exact bk rfl
end
@[go_sem ↓] theorem agD(b:Nat)(w:World):(callMethod (.iface 86 (ptr b)) "Id" #[]).run prog w=.ok (.enter 174 #[ptr b]) w:=g9
theorem DU(hB:W.heap[B8]?=some (.cells #[.map so] 176 (0,0)))(sG:J0 W so nms)(I:W.cell? ⟨b,1,none⟩=some (.pointer pk))(U:W.cell? ⟨b,2,none⟩=some (.string s))(hs:wM s)(hz:s.size<=9223372036854775807)(ht:jE D W):
 Calls prog 104 #[ptr B8,.iface 86 (ptr b)] W (DW W B8 so nms s):=by
 have ag:=nx b s pk I U hs hz ht;have Qo:∀x,(x=B8\/so=some x)->∀cs t f,W.heap[x]?=some (.cells cs t f)->t≠158/\t≠237:=M107
 rcases sG with⟨rfl,rfl⟩|⟨mb,es,ck,rfl,hm,hk,hv⟩
 .have HB:=Z hB;have HNT:=Z Qo;clear hB Qo I U hs ht;go_in;go_wp2_with fail;refine ag.mono ?_;rintro e O ⟨rfl,m,rfl⟩;have fw:(W.drewN m).heap[B8]?=some (.cells #[.map none] 176 (0,0)):=HB.1;have jw:Below W.heap.size W (W.drewN m):=jRb (jQ5 _ _) m;generalize W.drewN m=W2 at*;have hl:=EZ (W:=W2) s;have heq:=E5 W2;have kh:=mkMap 175 W2;have c0:=jQh fw;have Z7q:=aj (an W2 (.map #[] 0)) fw (jQ2 fw);have ee:=jQ2 fw;go_wp2_with (refine eT rfl 176 _ _ rfl B8 0 (.map (some W2.heap.size)) rfl rfl 176 _ Z7q g9 (by simp[Value.cells,Value.oneCell']) (by simp[Value.cells]) #[.map (some W2.heap.size)] (by simp[Value.cells]) ?_);intro w3 fm;have sC:w3.heap[W2.heap.size]?=some (.map #[] 0):=(fm.other _ M).trans (ak W2 _);obtain⟨w4,Oj,gF⟩:=GQ (nms:=[]) s (.iface 86 (ptr b)) sC rfl rfl;exact M30
 .obtain⟨HB,HNT,HM,HK,HV⟩:=Z5 hB Qo hm hk hv;clear hB Qo I U hs ht hm hk hv;go_in;go_wp2_with fail;refine ag.mono ?_;rintro e O ⟨rfl,m,rfl⟩;have fw:(W.drewN m).heap[B8]?=some (.cells #[.map (some mb)] 176 (0,0)):=HB.1;have Of:(W.drewN m).heap[mb]?=some (.map es ck):=HM.1;have jw:Below W.heap.size W (W.drewN m):=jRb (jQ5 _ _) m;have yW:mb<W.heap.size:=jQ2 HM.1;generalize W.drewN m=W2 at*;have hl:=aaP s Of HK.1;have heq:=E4 mb W2;have c0:=jQh fw;cases hh:hitE (isStr s) es.toList 0 with
  |some jv=>
   exact M68
  |none=>
   rw[hh]at hl;simp only[Option.map_none,Option.getD_none]at hl;obtain⟨w4,Oj,gF⟩:=GQ s (.iface 86 (ptr b)) Of HK.1 hh;exact M31
def aeP(W:World)(nm:ByteArray)(p:Value):Prop:=∃b pk,p=ptr b/\W.cell? ⟨b,1,none⟩=some (.pointer pk)/\W.cell? ⟨b,2,none⟩=some (.string nm)/\b<W.heap.size
def acx(W:World)(ps:List Value)(sl tg:Value)(e:Ending)(W':World):Prop:=
 ∃b fs,e=.returned (ptr b)/\W.heap.size<=b/\Below W.heap.size W W'/\W'.heap[b]?=some (.cells #[fs,tg] 226 (0,0))/\(fs=sl\/(ps=[]/\∃a,fs=.slice (some a) 0 0))
theorem acy(h:wM s):(s.toList==[95])=false:=by
 obtain⟨h0,I,U⟩:=h;cases hl:(s.toList==[95])with
 |false=>rfl
 |true=>
  have e:s.toList=[95]:=by simpa using hl
  rw[jRk]at e;have:s.data.toList[0]?=some 95:=by rw[e];rfl
  have h3:s[0]'h0=95:=by
   have h4:s.data.toList[0]?=some (s[0]'h0):=by
    rw[jRr,Array.getElem?_eq_getElem h0];rfl
   rw[this]at h4;exact(jQw h4).symm
  rw[h3]at U;exact absurd U i5
@[go_sem ↓] theorem adq(w:World):(binOp .eql 169 (.slice none 0 0) (.slice none 0 0)).run prog w=.ok (.bool true) w:=g9
@[go_sem ↓] theorem acz(a:Addr)(n c:Nat)(w:World):(binOp .eql 169 (.slice (some a) n c) (.slice none 0 0)).run prog w=.ok (.bool false) w:=g9
theorem Mu(b:Nat)(a:Addr)(n c:Nat)(tg:Value)(W:World)(h:W.heap[b]?=some (.cells #[.slice (some a) n c,tg] 226 (0,0))):
 Calls prog 157 #[ptr b] W (dL W (.tuple #[])):=by
 have c0:W.cell? ⟨b,0,none⟩=some (.slice (some a) n c):=by simp[World.cell?,h]
 clear h;go_in;go_wp2_with fail;refine jRq (v:=.tuple #[]) (by simp[results,Tryz.results157,go_sem]) rfl ?_;exact⟨rfl,rfl⟩
theorem acA:(Tryz.prog.info? 86).map (λi=>(i.zero,i.size,i.bytes))=some (some (.pointer none),1,8):=g9
theorem ah8(w:World):(Instr.makeSlice 169 (.int .i64 0) (.int .i64 0)).run prog w=.ok (.slice (some ⟨w.heap.size,0,none⟩) 0 0) (w.alloc (.cells #[] 86)):=by
 obtain⟨i0,pn,lA,gj,j7⟩:=info_parts acA;have h:=run_make (P:=prog) w 169 86 i0 (.pointer none) underlying169 pn lA .i64 .i64 0 0 M (Int.le_refl _) (by rw[j7];omega) M;rw[gj]at h;have e:madeCells (Value.pointer none).cells (Int.toNat 0*1)=#[]:=by simp[madeCells]
 rw[e]at h;exact h
theorem Mw(b:Nat)(tg:Value)(W:World)(h:W.heap[b]?=some (.cells #[.slice none 0 0,tg] 226 (0,0))):
 Calls prog 157 #[ptr b] W λe W'=>e=.returned (.tuple #[])/\∃a W1,W1=W.alloc (.cells #[] 86)/\kT b #[.slice (some a) 0 0,tg] 226 W1 W':=by
 have c0:W.cell? ⟨b,0,none⟩=some (.slice none 0 0):=by simp[World.cell?,h]
 have uD:=ah8 W;have ar:=aj (an W (.cells #[] 86)) h (jQ2 h);have c1:(W.alloc (.cells #[] 86)).cell? ⟨b,0,none⟩=some (.slice none 0 0):=by simp[World.cell?,ar]
 have fz:=cd ar 0;go_in;go_wp2_with fail;refine jRq (v:=.tuple #[]) (by simp[results,Tryz.results157,go_sem]) rfl ?_;exact⟨rfl,_,_,rfl,aw ar 0 _⟩
@[go_sem ↓] theorem ah9(w:World):(binOp .neq 179 .nilIface .nilIface).run prog w=.ok (.bool false) w:=g9
structure StL(W wr:World)(b5:Nat)(nms:List ByteArray):Prop where
 jJ:Below W.heap.size W wr
 bz:b5=W.heap.size
 set:∃so,wr.heap[b5]?=some (.cells #[.map so] 176 (0,0))/\J0 wr so nms/\∀mb,so=some mb->W.heap.size<=mb
theorem StL.ins{e:Ending}(h:StL W wr b5 nms)(I:wr.heap[b5]?=some (.cells #[.map so] 176 (0,0)))(hm:∀mb,so=some mb->W.heap.size<=mb)(hn:¬s∈nms)(hr:DW wr b5 so nms s e O):
 e=.returned .nilIface/\StL W O b5 (nms++[s]):=by
 rcases hr with⟨hs,_⟩|⟨_,rfl,ER,g1,g2,g3,g4⟩
 .exact absurd hs hn
 .refine⟨rfl,⟨h.jJ.trans ⟨g3.os,g3.tape,g3.output,?_,λb hb=>?_⟩,h.bz,ER,g1,g2,?_⟩⟩
  .have:=g3.size;omega
  .have hz:=h.jJ.size;refine g3.block b M ?_;rintro(rfl|e)
   .have:=h.bz;omega
   .have:=hm b e;omega
  .intro mb he;obtain g4|⟨Uv,g4,g5⟩:=g4
   .exact hm mb (g4▸he)
   .rw[g4]at he;cases he;have:=h.jJ.size;omega
theorem zn(hr:eE D W ps (.slice a ps.length c))(Xf:a=none->c=0)(Se:∀b,D b->b<W.heap.size)(hf:All2 (aeP W) nms ps)(uu:nms.Nodup)(uZ:∀s∈nms,wM s/\s.size<=9223372036854775807)(U:n2<=ps.length)(ht:jE D W):
 Calls prog 116 #[.slice a ps.length c,.slice a2 n2 c2] W (acx W ps (.slice a ps.length c) (.slice a2 n2 c2)):=by
 have hlen:=hf.len;have rO:=hr.max;obtain⟨HR,HF,Xd,aia,HT,HDL⟩:=Z6 hr hf uu uZ ht Se;clear hr hf uu uZ ht Se;go_in;go_wp2_with fail
 go_loopg [11] ps.length (λgg s11 wr=>∃kk:Nat,kk<=ps.length/\ps.length - kk<=gg/\s11=.int .i64 kk/\StL W wr W.heap.size (nms.take kk))
 case atStart=>exact⟨0,jQc _,M,rfl,⟨an W _,rfl,none,ak W _,.inl ⟨rfl,i6⟩,λmb h=>by cases h⟩⟩
 case round=>
  obtain⟨kk,ez,hg,rfl,cH⟩:=hrel;have eF:=Z cH;have eR:au D D W wr:=λb hb=>⟨hb,cH.jJ.block b (HDL.1 b hb)⟩;have Oa:=Z eR;obtain⟨-, -,so,hB,sG,Nh⟩:=id cH;by_cases aM:kk<ps.length
  .have aR:(kk:Int)<(ps.length:Int):=M
   obtain⟨nm,dU⟩:∃nm,nms[kk]?=some nm:=⟨nms[kk]' M,by simp[show kk<nms.length by omega]⟩;obtain⟨p,j,b,pk,rfl,k1,k2,k3⟩:=HF.1.at dU;have kb:wr.heap[b]?=W.heap[b]?:=cH.jJ.block b k3;have Nx:wr.cell? ⟨b,1,none⟩=some (.pointer pk):=(jQi (w:=W) kb).trans k1;have c2:wr.cell? ⟨b,2,none⟩=some (.string nm):=(jQi (w:=W) kb).trans k2;obtain⟨b7,o7,rfl, -,Lf⟩:=(HR.1.move eR).nth j;obtain⟨Y7,j8⟩:=aia.1 nm (jQ8 dU);have uE:=acy Y7;have QW:¬nm∈nms.take kk:=λhm=>by
    have hs:=Xd.1;rw[<-jRo kk nms]at hs;have U:nm∈nms.drop kk:=jQ8 (i:=0) (by simpa using dU);exact(List.nodup_append.1 hs).2.2 nm hm nm U rfl
   have ag:=DU hB sG Nx c2 Y7 j8 (HT.1.move eR);have tB:nms.take (kk+1)=nms.take kk++[nm]:=by rw[jRm,dU];rfl
   have HG:=Z (λe O (h:DW wr W.heap.size so (nms.take kk) nm e O)=>eF.1.ins hB Nh QW h);clear cH eR hB sG Nh dU j k1 k2 k3 kb Nx Y7 j8 QW;go_wp2_with fail;refine ag.mono ?_;rintro e O hI;obtain⟨rfl,KH⟩:=HG.1 e O hI;have HS2:=Z KH;clear ag hI KH Lf c2;go_wp2_with fail;go_roundg (ps.length - (kk+1))
   case measure=>omega
   case rel=>exact⟨kk+1,M,M,by go_num,by rw[tB];exact HS2.1⟩
  .have aR:¬(kk:Int)<(ps.length:Int):=M
   have MY:¬(n2:Int)>(ps.length:Int):=M
   have ar:=an wr (.cells #[.slice a ps.length c,.slice a2 n2 c2] 226);have jz:=ak wr (.cells #[.slice a ps.length c,.slice a2 n2 c2] 226);cases a with
   |some ad=>
    have hc:=Mu wr.heap.size ad ps.length c (.slice a2 n2 c2) _ jz;clear cH eR hB sG Nh ez;go_wp2_with fail;refine rv hc ?_;clear hc;go_wp2;go_ret;exact⟨_,_,rfl,eF.1.jJ.size,eF.1.jJ.trans (ar.mono eF.1.jJ.size),jz,.inl rfl⟩
   |none=>
    obtain rfl:=Xf rfl;have hz:ps=[]:=by
     rcases HR.1 with⟨h,_⟩|⟨_,b,o,c,h,_⟩
     .exact h
     .cases h
    subst hz;have Hv:n2=0:=by simpa using U
    subst Hv;have Vc:kk=0:=by simpa using ez
    subst Vc;clear aR MY aM;have hc:=Mw wr.heap.size (.slice a2 0 c2) _ jz;clear cH eR hB sG Nh ez;go_wp2_with fail;refine hc.mono ?_;rintro e O ⟨rfl,a3,W3,pX,fm⟩;have Rl:=Z fm;clear hc fm;go_wp2;go_ret;have hz:=eF.1.jJ.size;have cX:=an (wr.alloc (.cells #[.slice none 0 0,.slice a2 0 c2] 226)) (.cells #[] 86);have aZ:Below W.heap.size W W3:=by
     rw[pX];exact eF.1.jJ.trans ((ar.mono hz).trans (cX.mono (by simp;omega)))
    exact⟨_,_,rfl,hz,Rl.1.below aZ hz,Rl.1.here,.inr ⟨rfl,a3,rfl⟩⟩
theorem qz:∀l:List Y,l.length<=ndss l
 |[]=>i6
 |e::l=>by have:=qz l;have:=Gp e;rw[ndss];simp;omega
structure StS(NS:List ByteArray)(Q:Y->Prop)(w:List ah)(K:Nat)(B:Bl)(DI:Qx)(eo:BS)(W0:World)(l:List Y)(kk:Nat)(σ:BS)(W:World)(fv tv:Value)(ps:List Value):Prop where
 md:Md NS Q w K B DI eo W0 (ndss (l.take kk)) σ W
 fr:dK B DI σ W0.heap.size W 86 ps fv
 fl:All2 (λe p=>nE σ.S σ.D W e.name e p) (l.take kk) ps
 tr:dK B DI σ W0.heap.size W 9 ((l.take kk).map λe=>Value.string e.gc) tv
theorem Gr.aJ(h:Gr B σ aO W W')(hb:Bs NS Q w K B DI σ W):au σ.D aO.D W W':=λb hd=>⟨h.Jo b hd,h.block b (hb.th.mT b hd) (λe=>hb.kJ.2 (e▸hd)) (λe=>(hb.gY b e).2.1 hd)⟩
theorem Yz(h:All2 (λe p=>nE σ.S σ.D W e.name e p) l ps)(hb:Bs NS Q w K B DI σ W)(hg:Gr B σ aO W W'):All2 (λe p=>nE aO.S aO.D W' e.name e p) l ps:=h.imp λ_ _ j=>j.move hg.sle (hg.aJ hb)
theorem StS.go(h:StS NS Q w K B DI eo W0 l kk σ W fv tv ps)(hg:Gr B σ aO W W'):dK B DI aO W0.heap.size W' 86 ps fv/\All2 (λe p=>nE aO.S aO.D W' e.name e p) (l.take kk) ps/\dK B DI aO W0.heap.size W' 9 ((l.take kk).map λe=>Value.string e.gc) tv:=
 ⟨h.fr.gr hg,Yz h.fl h.md.bs hg,h.tr.gr hg⟩
theorem Md.iz(h:Md NS Q w K B DI eo W0 n σ W)(cs:Array Value)(ty:TypeId):Md NS Q w K B DI eo W0 n {σ with D:=λb=>σ.D b\/b=W.heap.size} (W.alloc (.cells cs ty)):=
 (h.below (an W _)).lW (λb=>b=W.heap.size) λb e=>by subst e;exact⟨⟨h.bs.loc (jQ0 _),h.gr.size⟩,_,_,_,ak W _⟩
theorem jk(h:Bs NS Q w K B DI σ W)(cs:Array Value)(ty:TypeId):Gr B σ {σ with D:=λb=>σ.D b\/b=W.heap.size} W (W.alloc (.cells cs ty)):=
 (Md.start h).iz cs ty |>.gr
theorem fR(h:Bs NS Q w K B DI σ W)(hr:dK B DI σ base W ty xs v)(hg:W.grownBy W' v.ownBlock):au σ.D σ.D W W':=λb hb=>⟨hb,hg.block b (h.th.mT b hb) λe=>(hr.loc b e.symm).2.1 hb⟩
theorem gi(w:World)(o:Obj)(x:Value)(ty:TypeId):∀hp u,[x][hp]?=some u->((w.alloc o).alloc (.cells #[x] ty)).cell? ((⟨w.heap.size+1,0,none⟩:Addr).add hp)=some u:=by
 have:=cell_one_new (w.alloc o) x ty;rw[jQ3]at this;exact this
theorem T7(h:PT NS Q w 2 t)(hk:t.ld=5):((∀t,Q t->Q0 t)->∀e∈t.li,wM e.name/\e.name.size<=9223372036854775807)/\(t.li.map (·.name)).Nodup:=by
 refine⟨λiA=>Jz iA (pg h M) hk,?_⟩;cases h with
 |basic a b=>simp[Y.ld]at hk
 |uni a=>simp only[Y.ld]at hk;omega
 |named a b c=>simp[Y.ld]at hk
 |al a b I=>simp only[Y.ld]at hk;omega
 |st a b I=>exact b
 |ifc a b c d e g I U q=>simp[Y.ld]at hk
 |one a b c I=>simp only[Y.ld]at hk;omega
 |mp I U=>simp[Y.ld]at hk
 |fn a b c I=>simp[Y.ld]at hk
 |ti a I=>simp[Y.ld]at hk
 |un a b c I=>simp[Y.ld]at hk
theorem EL:∀{l:List Y} {ps:List Value},All2 (λe p=>nE σ.S σ.D W e.name e p) l ps->Bs NS Q w K B DI σ W->All2 (aeP W) (l.map (·.name)) ps
 |[],[],_,_=>trivial
 |e::l,p::ps,h,hb=>by
  refine⟨?_,EL h.2 hb⟩;obtain⟨b,pos,pk,v,k,rfl,hd,hh, -⟩:=h.1;exact⟨b,pk,rfl,by simp[World.cell?,hh],by simp[World.cell?,hh],hb.th.mT b hd⟩
 |[],_::_,h,_=>h.elim
 |_::_,[],h,_=>h.elim
theorem ahx{fs:Value}(h:Md NS Q w K B DI eo W0 n σ W)(hk:t.ld=5)(oY:eE σ.D W ps sl)(NN:eE σ.D W (t.li.map λe=>Value.string e.gc) tg)(hf:All2 (λe p=>nE σ.S σ.D W e.name e p) t.li ps)(hz:W.heap.size<=b)(ji:Below W.heap.size W W')(Ww:W'.heap[b]?=some (.cells #[fs,tg] 226 (0,0)))(QY:fs=sl\/(ps=[]/\∃a,fs=.slice (some a) 0 0)):
 dC NS Q w K B DI eo W0 n (λu aO _=>dq aO.S u t) (.returned (.iface 203 (ptr b))) W':=by
 obtain⟨k1,k2,k3,k4,k5⟩:=fa (t:=t) M M M M;have hm:au σ.D σ.D W W':=λx H=>⟨H,ji.block x (h.bs.th.mT x H)⟩;have mY:=h.bs.loc hz;have U:=h.below ji;have hS:=fG (s:=aG t) mY.1;have Jn:eE σ.D W' ps fs:=by
  obtain rfl|⟨rfl,a,rfl⟩:=QY
  .exact oY.move hm
  .exact .inl ⟨rfl,some a,0,rfl,λh=>by cases h⟩
 have uu:mZ (cE σ.S b (aG t)) σ.D W' b (aG t):=
  ⟨M,M,M,M,λ_=>⟨fs,tg,ps,Ww,Jn,by rw[k5];exact NN.move hm,by rw[k5];exact hf.imp λ_ _ j=>j.move hS hm⟩,M,M,M,M,M,M⟩
 refine⟨_,_,rfl,U.add mY (by have:=h.gr.size;omega) Ww (λhi=>by unfold cI at hi;omega) uu (λhi=>?_),⟨_,by rw[hk];rfl,fH _ _ _⟩⟩;exact M164
theorem zm(ih:dR NS Q w K B DI N)(iA:∀t,Q t->Q0 t)(hk:t.ld=5)(hn:nds t<=N+1)(j:PT NS Q w 2 t)(cG:Bs NS Q w K B DI σ W)(hv:RT DI W t v)(hl:σ.ml.length+nds t<=1099511627776):
 Calls prog 70 #[ptr B.bb,v] W (dC NS Q w K B DI σ W (ndss t.li) λu aO _=>dq aO.S u t):=by
 obtain⟨a0,c,rfl,hs⟩:=hv.bR;have xd:=D4 j;have bk:=gq t;have rP:=qz t.li;have jz:=ak W (bx t a0 c);have ar:=an W (bx t a0 c);obtain⟨x0, -, -, -, -, -,x6⟩:=ao jz;obtain⟨KR,VU,uL,ZK,bS,HL,na,HN⟩:=Z8 ih xd cG hs ar hl bk hn;obtain⟨D5,HP,HK⟩:=Z3 rP j hk;clear ih xd cG hs ar jz hv hl bk hn rP j hk;go_in;go_wp2_with fail;clear x0 x6
 go_loopg [5,6,12] t.li.length (λgg s5 s6 s12 wr=>∃(kk:Nat) (aO:BS) (ps:List Value),kk<=t.li.length/\t.li.length - kk<=gg/\s12=.int .i64 kk/\StS NS Q w K B DI σ W t.li kk aO wr s5 s6 ps)
 case atStart=>exact⟨0,σ,[],jQc _,M,rfl,(Md.start uL.1).below bS.1,dK.nil,trivial,dK.nil⟩
 case round=>
  obtain⟨kk,aO,ps,ez,hg,rfl,cH⟩:=hrel;have eF:=Z cH;have mR:=cH.fl.len;rw[jRj]at mR;by_cases aM:kk<t.li.length
  .have aR:(kk:Int)<(t.li.length:Int):=M
   obtain⟨e,he⟩:∃e,t.li[kk]?=some e:=⟨t.li[kk]'aM,by simp[aM]⟩;rcases aN.1 ZK.1 with⟨h0,_⟩|⟨-,b,o,c2,pT, -, -,uw,Hl⟩
   .rw[h0]at aM;simp at aM
   simp at pT;obtain⟨rfl,rfl⟩:=pT;have qk:=Hl.at he;obtain⟨ea,ec,RW,uz⟩:=(qk.move (uL.1.C0 eF.1.md.gr) uw).RX;obtain⟨c0,c1,c2,c3,c4,OS,Kk⟩:=RW;have Fl:=Z (show Below wr.heap.size wr (wr.alloc (bx e ea ec)).drew from(an _ _).drew);have kq:=ak wr (bx e ea ec);obtain⟨y0,y1,y2,y3,y4,y5,y6⟩:=ao kq;have lO:=Z (eF.1.md.below Fl.1);have ym:=Z (Gr.below Fl.1:Gr B aO aO wr _);have fq:=eF.1.md.bs.loc (g:=wr.heap.size) (jQ0 _);have ee:wr.heap.size<(wr.alloc (bx e ea ec)).drew.heap.size:=jQ2 kq;have CI:=lP he;have Ad:=lQ t.li (kk+1);have ag:=KR.1 e aO _ _ (by have:=na.1;have:=HN.1;omega) (VU.1 e (jQ8 he)) lO.1.bs (uz.move (eF.1.md.bs.C0 ym.1)) (by have:=eF.1.md.len;have:=HL.1;have:=na.1;omega);obtain⟨Na,HE,kr,HPL,Ob⟩:=Z5 CI he (show ps.length+1<=1099511627776 by have:=D5.1;have:=HL.1;have:=na.1;omega) (show ps.length=kk by omega) (show((t.li.take kk).map λe=>Value.string e.gc).length+1<=1099511627776 by rw[jR7,jRj];have:=D5.1;have:=HL.1;have:=na.1;omega);have gV:=Z (show∀mL O,Bs NS Q w K B DI mL O->Gr B aO mL (wr.alloc (bx e ea ec)).drew O->O.cell? ⟨B.bb,0,none⟩=some (ptr B.pk)/\V8 O wr.heap.size e ea ec from
    λmL O I U=>⟨by simp[World.cell?,I.jl],fq.cell ee U y0,fq.cell ee U y1,fq.cell ee U y2,fq.cell ee U y3,fq.cell ee U y4,fq.cell ee U y5,fq.cell ee U y6⟩)
   clear cH Hl qk y0 y1 y2 y3 y4 y5 y6 kq CI ee Ad uz uw fq;go_wp2_with fail;clear c0 c1 c2 c3 c4 OS Kk;refine jQ9 (S:=(λO=>O.cell? ⟨B.bb,0,none⟩=some (ptr B.pk)/\V8 O wr.heap.size e ea ec)) g9 (gV.1 _ _ lO.1.bs (Gr.refl _ _)) (λai=>?_);refine t4 0 1 2 3 ?_;refine t4 4 5 6 7 ?_;refine t7 8 ?_;refine rd 9 rfl λK hK=>?_;go_simp;clear ai;refine ag.mono ?_;rintro eA wA ⟨u,fT,rfl,cq,hu⟩;have HM:=Z (lO.1.trans cq);obtain⟨bu,rfl, -⟩:=id hu;have HU:=Z hu;have HG:=Z cq.gr;refine hK.out _ _ (gV.1 _ _ cq.bs HG.1) (λai=>?_);clear ag cq hu;clear hK K;refine rd 10 rfl λK hK=>?_;go_simp;clear ai;refine rv (BG _ _ _ _ _ _) ?_;have oU:=Z (HM.1.iz #[.int .i64 0,ptr B.pk,.string e.name,.iface (tid e.ld) (ptr bu),.int .u8 6,.bool false] 164);have rQ:=Z (HG.1.trans (jk HM.1.bs #[.int .i64 0,ptr B.pk,.string e.name,.iface (tid e.ld) (ptr bu),.int .u8 6,.bool false] 164));refine hK.out _ _ (gV.1 _ _ oU.1.bs rQ.1) (λai=>?_);clear hK K;refine rd 11 rfl λK hK=>?_;go_simp;clear ai;have jI:=Z (oU.1.below (an _ (.cells #[ptr wA.heap.size] 86)));have mQ:=Z (rQ.1.trans (Gr.below (an _ (.cells #[ptr wA.heap.size] 86))));refine hK.out _ _ (gV.1 _ _ jI.1.bs mQ.1) (λai=>?_);clear hK K;refine rd 12 rfl λK hK=>?_;have Bj:=Z (eF.1.go (ym.1.trans mQ.1));refine lU underlying169 KT rfl M rfl (.tmp 16) (.tmp 27) rfl W.heap.size u5 ps (by simp[Act.eval,Act.put]) Bj.1.1.own (ptr wA.heap.size) rfl ⟨wA.heap.size+1,0,none⟩ 1 (by simp[Act.eval,Act.put]) (gi _ _ _ _) kr.1 jI.1.gr.size ?_;intro v5 w5 aL lX oX;obtain⟨HM5,HT5,YA⟩:=Z3 (jI.1.grown Bj.1.1 lX aL oX) (Bj.1.2.2.other Bj.1.1 lX i5) (Bj.1.2.1.imp λ_ _ j=>j.move (λ_ _ h=>h) (fR jI.1.bs Bj.1.1 lX));have HNV:=Z ((fR jI.1.bs Bj.1.1 lX) wA.heap.size (.inr rfl)).2;have xn:∀g,u5.ownBlock=some g->g≠B.bb/\g≠wr.heap.size:=λg hg=>⟨(eF.1.fr.loc g hg).2.2.1,by have:=(aC eF.1.fr.own g hg).2.1;omega⟩;have mF:=ai;clear ai;refine hK.out _ _ ⟨lX.cell mF.1 (λe'=>(xn _ e'.symm).1 rfl),lX.cell mF.2.1 (λe'=>(xn _ e'.symm).2 rfl),lX.cell mF.2.2.1 (λe'=>(xn _ e'.symm).2 rfl),lX.cell mF.2.2.2.1 (λe'=>(xn _ e'.symm).2 rfl),lX.cell mF.2.2.2.2.1 (λe'=>(xn _ e'.symm).2 rfl),lX.cell mF.2.2.2.2.2.1 (λe'=>(xn _ e'.symm).2 rfl),lX.cell mF.2.2.2.2.2.2.1 (λe'=>(xn _ e'.symm).2 rfl),lX.cell mF.2.2.2.2.2.2.2 (λe'=>(xn _ e'.symm).2 rfl)⟩ (λai=>?_);clear mF xn aL lX oX
   (try simp only[jRa,jR3,jR4,Act.put,jQy,jRe,jRf])
   clear hK K;refine t7 13 ?_;refine jQl g9 ?_ _;have Ss:=ai.2.2.2.2.2.2.1;clear ai;obtain⟨tg,xI⟩:∃tg,tg=(t.li.take kk).map λe=>Value.string e.gc:=⟨_,rfl⟩;have HTG:=Z xI;have hT6:=HT5.1.gr (Gr.below (an w5 (.cells #[.string e.gc] 9)));rw[<-xI]at hT6;obtain⟨HT6,HLT,HM6,Ya⟩:=Z4 hT6 (show tg.length+1<=1099511627776 by rw[xI];exact Ob.1) (HM5.1.1.below (an w5 (.cells #[.string e.gc] 9))) (HM5.1.2.gr (Gr.below (an w5 (.cells #[.string e.gc] 9))));clear hT6 xI;go_wp2_with (at_builtin;refine gH underlying201 abM rfl M rfl _ _ rfl W.heap.size u6 tg rfl HT6.1.own (.string e.gc) rfl ⟨w5.heap.size,0,none⟩ 1 rfl (cell_one_new _ _ _) HLT.1 HM6.1.gr.size ?_);intro v7 w7 bF jm uM;obtain⟨yU,lY,CJ⟩:=Z3 (show w7.ownsRow W.heap.size 9 1 v7 (tg++[Value.string e.gc]).length (tg++[Value.string e.gc])by simpa using bF) (show(w5.alloc (.cells #[.string e.gc] 9)).grownBy w7 u6.ownBlock from jm) (show v7.ownBlock=u6.ownBlock\/v7.ownBlock=some (w5.alloc (.cells #[.string e.gc] 9)).heap.size by simpa using uM);clear bF jm uM Ss;have rO:t.li.length<=9223372036854775807:=by have:=D5.1;have:=HL.1;have:=na.1;omega
   go_wp2_with fail;go_roundg (t.li.length - (kk+1))
   case measure=>omega
   case rel=>
    have Af:=HM6.1.grown HT6.1 lY.1 yU.1 CJ.1;have hR7:=Ya.1.other HT6.1 lY.1 i5;have jd:au _ _ w5 (w5.alloc (.cells #[.string e.gc] 9)):=(Gr.below (an w5 (.cells #[.string e.gc] 9)):Gr B _ _ w5 _).aJ HM5.1.1.bs;have kS:=fR HM6.1.bs HT6.1 lY.1;have kh:=λb hb=>(⟨(kS b hb).1,(kS b hb).2.trans (jd b hb).2⟩:_/\w7.heap[b]?=w5.heap[b]?);have tB:t.li.take (kk+1)=t.li.take kk++[e]:=by rw[jRm,HE.1];rfl
    refine⟨kk+1,_,ps++[ptr wA.heap.size],M,M,by go_num,?_,hR7,?_,?_⟩
    .rw[Na.1];exact Af.1
    .rw[tB];refine All2.snoc ?_ (YA.1.imp λ_ _ j=>j.move (λ_ _ h=>h) kh);refine⟨wA.heap.size,0,some ⟨B.pk,0,none⟩,.iface (tid e.ld) (ptr bu),6,rfl,.inr rfl,?_,HU.1⟩;rw[(kh wA.heap.size (.inr rfl)).2,HNV.1];exact aq (ak _ _)
    .rw[tB,List.map_append,List.map_singleton,<-HTG.1];exact Af.2
  .have aR:¬(kk:Int)<(t.li.length:Int):=M
   have yV:t.li.take kk=t.li:=jR6 M;obtain⟨a5,c5,rfl,hn5⟩:=cH.fr.form;obtain⟨a6,c6,rfl,JA⟩:=cH.tr.form;have cq:=cH.md;have xe:=cH.fl;rw[yV]at cq xe;have OU:=cq.lW (λb=>(Value.slice a5 ps.length c5).ownBlock=some b\/(Value.slice a6 ((t.li.take kk).map λe=>Value.string e.gc).length c6).ownBlock=some b) (λb hb=>by
    obtain hb|hb:=hb
    .exact M182
    .obtain⟨k1,k2,cur,k3⟩:=aC cH.tr.own b hb;exact⟨⟨cH.tr.loc b hb,k1⟩,_,_,_,k3⟩)
   have oY:=cH.fr.row (D:=λb=>aO.D b\/((Value.slice a5 ps.length c5).ownBlock=some b\/(Value.slice a6 ((t.li.take kk).map λe=>Value.string e.gc).length c6).ownBlock=some b)) (λg hg=>.inr (.inl hg));have NN:=cH.tr.row (D:=λb=>aO.D b\/((Value.slice a5 ps.length c5).ownBlock=some b\/(Value.slice a6 ((t.li.take kk).map λe=>Value.string e.gc).length c6).ownBlock=some b)) (λg hg=>.inr (.inr hg));rw[yV]at NN;have aeQ:=xe.imp (R':=λe p=>nE aO.S (λb=>aO.D b\/((Value.slice a5 ps.length c5).ownBlock=some b\/(Value.slice a6 ((t.li.take kk).map λe=>Value.string e.gc).length c6).ownBlock=some b)) wr e.name e p) (λ_ _ j=>j.move (λ_ _ h=>h) (λb hb=>⟨.inl hb,rfl⟩));obtain⟨hq,uu⟩:=T7 HP.1 HK.1;have hlen:=xe.len;have ag:=zn (nms:=t.li.map (·.name)) oY hn5 (OU.bs.th.mT) (EL xe cq.bs) uu (by
    intro s hs;obtain⟨e,he,rfl⟩:=jQu.1 hs;exact hq iA e he) (n2:=((t.li.take kk).map λe=>Value.string e.gc).length) (a2:=a6) (c2:=c6) (by rw[jR7,yV,hlen];exact jQ0 _) OU.bs.th.td
   obtain⟨yF,LA,Ya,rR⟩:=Z4 OU oY NN aeQ;have ahy:((t.li.take kk).map λe=>Value.string e.gc).length=(t.li.map λe=>Value.string e.gc).length:=by rw[yV]
   generalize((t.li.take kk).map λe=>Value.string e.gc).length=lt at*;subst ahy;generalize ee:(t.li.map λe=>Value.string e.gc).length=lt at*;clear OU oY NN aeQ xe cq cH eF hq uu hlen mR yV;go_wp2_with fail;refine ag.mono ?_;rintro e' O ⟨b,fs,rfl,hz,ji,Ww,QY⟩;have HH:=Z (And.intro hz (And.intro ji (And.intro Ww QY)));clear ag hz ji Ww QY;go_wp2;go_ret;obtain⟨hz,ji,Ww,QY⟩:=HH.1;exact ahx yF.1 HK.1 LA.1 Ya.1 rR.1 hz ji Ww QY
theorem Fk(r p q:Option Addr)(W:World):Calls prog 118 #[.pointer r,.slice none 0 0,.slice none 0 0,.pointer p,.pointer q,.bool false] W (qh W #[.pointer r,.pointer none,.pointer p,.pointer q,.bool false] 96):=M85
theorem IH(b:Nat)(a:Option Addr)(n c:Nat)(W:World)(h:W.heap[b]?=some (.cells #[.slice a n c] 171 (0,0))):Calls prog 158 #[ptr b] W (dL W (.int .i64 n)):=by
 have c0:=jQh h;clear h;exact M85
theorem Lq(b b7 o7:Nat)(n c i:Nat)(v:Value)(W:World)(h:W.heap[b]?=some (.cells #[.slice (some ⟨b7,o7,none⟩) n c] 171 (0,0)))(hi:i<n)(hc:W.cell? ⟨b7,o7+i,none⟩=some v):Calls prog 159 #[ptr b,.int .i64 i] W (dL W v):=by
 have c0:=jQh h;have hi2:(i:Int)<(n:Int):=M
 clear h;exact M85
theorem Di(v:Value)(T:TypeId)(x:Value)(W:World)(hv:v=.iface T x):Calls prog 160 #[v] W λe W'=>e=.returned (.func (.func 197) #[] #[ptr W.heap.size])/\W'=W.alloc (.cells #[v] 37):=by
 subst hv;exact M85
theorem Zo(b:Nat)(i:Int)(W:World):Calls prog 199 #[.iface 131 (ptr b),.int .i64 i] W (dL W (.bool false)):=by
 have hc:=ic b W;have fp:=λw=>aY 131 (ptr b) 37 w i5;exact M163
theorem XH(b:Nat)(W:World):Calls prog 161 #[.iface 131 (ptr b)] W (dL W (.bool false)):=by
 have hc:=Zo b 32 W;exact M163
def qv:Prop:=∀(r q:Option Addr) (pb b7 o7 n c vb sb:Nat) (W:World),n<9223372036854775807->W.heap[pb]?=some (.cells #[.slice (some ⟨b7,o7,none⟩) (n+1) c] 171 (0,0))->W.cell? ⟨b7,o7+n,none⟩=some (ptr vb)->W.cell? ⟨vb,3,none⟩=some (.iface 131 (ptr sb))->
 Calls prog 118 #[.pointer r,.slice none 0 0,.slice none 0 0,ptr pb,.pointer q,.bool true] W λe W'=>∃b,e=.returned (ptr b)/\W.heap.size<=b/\Below W.heap.size W W'/\W'.heap[b]?=some (.cells #[.pointer r,.pointer none,ptr pb,.pointer q,.bool true] 96 (0,0))
abbrev qw(S:Sg)(D:Qx)(W:World)(l:List Y)(ps:List Value):Prop:=All2 (λe p=>∃nm,nE S D W nm e p) l ps
structure SgS(NS:List ByteArray)(Q:Y->Prop)(w:List ah)(K:Nat)(B:Bl)(DI:Qx)(eo:BS)(W0:World)(l:List Y)(m kk:Nat)(σ:BS)(W:World)(fv tv:Value)(ps qs:List Value):Prop where
 md:Md NS Q w K B DI eo W0 (ndss (l.take kk)) σ W
 fr:dK B DI σ W0.heap.size W 86 ps fv
 fl:qw σ.S σ.D W ((l.take kk).take m) ps
 tr:dK B DI σ W0.heap.size W 86 qs tv
 tl:qw σ.S σ.D W ((l.take kk).drop m) qs
 dj:∀g,fv.ownBlock=some g->tv.ownBlock≠some g
theorem MZ(h:qw σ.S σ.D W l ps)(hb:Bs NS Q w K B DI σ W)(hg:Gr B σ aO W W'):qw aO.S aO.D W' l ps:=h.imp λ_ _ j=>by obtain⟨nm,j⟩:=j;exact⟨nm,j.move hg.sle (hg.aJ hb)⟩
theorem D3(h:qw S D W l ps)(hm:au D D' W W'):qw S D' W' l ps:=h.imp λ_ _ j=>by obtain⟨nm,j⟩:=j;exact⟨nm,j.move (λ_ _ h=>h) hm⟩
theorem SgS.go(h:SgS NS Q w K B DI eo W0 l m kk σ W fv tv ps qs)(hg:Gr B σ aO W W'):dK B DI aO W0.heap.size W' 86 ps fv/\qw aO.S aO.D W' ((l.take kk).take m) ps/\dK B DI aO W0.heap.size W' 86 qs tv/\qw aO.S aO.D W' ((l.take kk).drop m) qs:=
 ⟨h.fr.gr hg,MZ h.fl h.md.bs hg,h.tr.gr hg,MZ h.tl h.md.bs hg⟩
theorem dK.RP(h:dK B DI σ base W e2 ys v2)(hg:W.grownBy W' v.ownBlock)(bk:∀g,v2.ownBlock=some g->v.ownBlock≠some g):dK B DI σ base W' e2 ys v2:=
 h.cR λg hb=>hg.block g (aC h.own g hb).2.1 λe'=>bk g hb e'.symm
theorem aa4(h:l[kk]?=some e)(hm:kk<m):(l.take (kk+1)).take m=(l.take kk).take m++[e]/\(l.take (kk+1)).drop m=(l.take kk).drop m:=by
 have aM:kk<l.length:=by
  have:=jQg.1 h;exact this.1
 constructor
 .rw[List.take_take,List.take_take,Nat.min_eq_right M,Nat.min_eq_right M,jRm,h];rfl
 .rw[List.drop_eq_nil_of_le (by simp;omega),List.drop_eq_nil_of_le (by simp;omega)]
theorem aa5(h:l[kk]?=some e)(hm:m<=kk):(l.take (kk+1)).drop m=(l.take kk).drop m++[e]/\(l.take (kk+1)).take m=(l.take kk).take m:=by
 constructor
 .rw[jRm,h,List.drop_append_of_le_length]
  .rfl
  .have:=jQg.1 h;obtain⟨I,_⟩:=this;rw[jRj];omega
 .rw[List.take_take,List.take_take,Nat.min_eq_left M,Nat.min_eq_left M]
theorem agG(h:PT NS Q w md t)(hk:t.ld=7):0<=t.m/\t.m<=(t.li.length:Int):=by
 cases h with
 |basic a b=>simp[Y.ld]at hk
 |uni a=>simp only[Y.ld]at hk;omega
 |named a b c=>simp[Y.ld]at hk
 |al a b I=>simp only[Y.ld]at hk;omega
 |st a b I=>simp[Y.ld]at hk
 |ifc a b c d e g I U q=>simp[Y.ld]at hk
 |one a b c I=>simp only[Y.ld]at hk;omega
 |mp I U=>simp[Y.ld]at hk
 |fn a b c I=>exact⟨a,b⟩
 |ti a I=>simp[Y.ld]at hk
 |un a b c I=>simp[Y.ld]at hk
theorem Ac(h:Md NS Q w K B DI eo W0 n σ W)(hr:eE σ.D W ps (.slice a ps.length c))(hv:qw σ.S σ.D W l ps):
 Calls prog 55 #[.slice a ps.length c] W λe W'=>∃q mL,e=.returned (.pointer q)/\Md NS Q w K B DI eo W0 n mL W'/\Gr B σ mL W W'/\sk mL.S mL.D W' l (.pointer q):=by
 have hl:=hv.len;cases ps with
 |nil=>
  have fV:l=[]:=jQe (by simpa using hl);refine(Fj a c W).mono ?_;rintro e W' ⟨rfl,hw⟩;subst hw;exact⟨none,σ,rfl,h,Gr.refl _ _,.inl ⟨fV,rfl⟩⟩
 |cons p ps=>
  refine(qx a ps.length c W).mono ?_;rintro e W' ⟨rfl,hw⟩;subst hw;have hg:=jk h.bs #[.slice a (ps.length+1) c] 171;refine⟨_,_,rfl,h.iz #[.slice a (ps.length+1) c] 171,hg,.inr ⟨λe=>by rw[e]at hl;simp at hl,W.heap.size,_,_,rfl,.inr rfl,ak _ _,hr.move (hg.aJ h.bs),MZ hv h.bs hg⟩⟩
theorem zA(dA:t.ld≠11)(mM:t.ld≠14)(ka:t.ld≠15)(ir:t.ld≠16):own (aG t)=own t/\bN (aG t)=bN t:=by
 obtain⟨k1,k2,k3,k4,k5⟩:=fa dA mM ka ir;unfold own bN;rw[k3,k5];exact⟨rfl,rfl⟩
theorem agH{rc:Value}(h:Md NS Q w K B DI eo W0 n σ W)(hk:t.ld=7)(hb:W0.heap.size<=b)(hl:Loc B DI σ b)(hc:W.heap[b]?=some (.cells #[rc,.pointer none,pa,re,.bool t.va] 96 (0,0)))(yk:sk σ.S σ.D W (own t) pa)(qk:sk σ.S σ.D W (bN t) re):
 dC NS Q w K B DI eo W0 n (λu aO W'=>∃b pa re,u=ptr b/\W0.heap.size<=b/\aO.S b=some (aG t)/\W'.heap[b]?=some (.cells #[rc,.pointer none,pa,re,.bool t.va] 96 (0,0))) (.returned (ptr b)) W:=by
 obtain⟨k1,k2,k3,k4,k5⟩:=fa (t:=t) M M M M;obtain⟨o1,o2⟩:=zA (t:=t) M M M M;have hS:=fG (s:=aG t) hl.1;have uu:mZ (cE σ.S b (aG t)) σ.D W b (aG t):=
  ⟨M,M,M,M,M,M,λ_=>⟨rc,pa,re,by rw[k4];exact hc,by rw[o1];exact yk.move hS au.refl,by rw[o2];exact qk.move hS au.refl⟩,M,M,M,M⟩
 refine⟨_,_,rfl,h.add hl hb hc (λhi=>by unfold cI at hi;omega) uu (λhi=>?_),b,pa,re,rfl,hb,fH _ _ _,hc⟩;exact M164
theorem RQ(j:PT NS Q w 2 t)(hk:t.ld=7)(xb:t.va=true)(yk:sk σ.S σ.D W (own t) pa):∃pb b7 o7 n c vb sb,pa=ptr pb/\n<9223372036854775807/\W.heap[pb]?=some (.cells #[.slice (some ⟨b7,o7,none⟩) (n+1) c] 171 (0,0))/\W.cell? ⟨b7,o7+n,none⟩=some (ptr vb)/\W.cell? ⟨vb,3,none⟩=some (.iface 131 (ptr sb)):=by
 have iA:0<t.m/\t.m<=(t.li.length:Int)/\∃e,t.li[(t.m - 1).toNat]?=some e/\e.ld=4:=by
  cases j with
  |basic a b=>simp[Y.ld]at hk
  |uni a=>simp only[Y.ld]at hk;omega
  |named a b c=>simp[Y.ld]at hk
  |al a b I=>simp only[Y.ld]at hk;omega
  |st a b I=>simp[Y.ld]at hk
  |ifc a b c d e g I U q=>simp[Y.ld]at hk
  |one a b c I=>simp only[Y.ld]at hk;omega
  |mp I U=>simp[Y.ld]at hk
  |fn a b c I=>
   simp only[Y.va]at xb;obtain⟨U,h3⟩:=c xb;exact⟨U,b,h3⟩
  |ti a I=>simp[Y.ld]at hk
  |un a b c I=>simp[Y.ld]at hk
 obtain⟨h0,gP,e,he,he4⟩:=iA;have aL:(own t)[(t.m - 1).toNat]?=some e:=by
  unfold own;rw[List.getElem?_take,jQ7 M];exact he
 rcases yk with⟨hn,_⟩|⟨hn,pb,sl,ps,rfl,hd,hh,hr,VS⟩
 .rw[hn]at aL;simp at aL
 .obtain⟨p,ke,nm,vb,pos,pk,v,kd,rfl, -,hvh,qy⟩:=VS.at aL;have hlen:=VS.len;obtain⟨a,c,rfl⟩:=hr.form;obtain⟨b7,o7,rfl, -,KP⟩:=hr.nth ke;have hol:(own t).length=(t.m - 1).toNat+1:=by unfold own;rw[jRj];omega
  obtain⟨sb,rfl, -⟩:=qy;have rO:=hr.max;refine⟨pb,b7,o7,(t.m - 1).toNat,c,vb,sb,rfl,M,by rw[<-hol,hlen];exact hh,KP,?_⟩;rw[he4]at hvh;simp[World.cell?,hvh];rfl
theorem Loc.lW(h:Loc B DI σ g)(hP:¬P g):Loc B DI {σ with D:=λb=>σ.D b\/P b} g:=⟨h.1,λhd=>hd.elim h.2.1 hP,h.2.2⟩
theorem KQ(hV:qv)(r q1 q2:Option Addr)(j:PT NS Q w 2 t)(hk:t.ld=7)(yk:sk σ.S σ.D W (own t) (.pointer q1)):
 Calls prog 118 #[.pointer r,.slice none 0 0,.slice none 0 0,.pointer q1,.pointer q2,.bool t.va] W λe W'=>∃b,e=.returned (ptr b)/\W.heap.size<=b/\Below W.heap.size W W'/\W'.heap[b]?=some (.cells #[.pointer r,.pointer none,.pointer q1,.pointer q2,.bool t.va] 96 (0,0)):=by
 cases xb:t.va with
 |false=>
  refine(Fk r q1 q2 W).mono ?_;rintro e W' ⟨rfl,hw⟩;subst hw;exact⟨_,rfl,jQ0 _,an _ _,ak _ _⟩
 |true=>
  obtain⟨pb,b7,o7,n,c,vb,sb,e1,I,U,h3,h4⟩:=RQ j hk xb yk;simp at e1;subst e1;exact hV r q2 pb b7 o7 n c vb sb W I U h3 h4
theorem je(ih:dR NS Q w K B DI N)(hV:qv)(r:Option Addr)(hk:t.ld=7)(hn:nds t<=N+1)(j:PT NS Q w 2 t)(cG:Bs NS Q w K B DI σ W)(hv:RT DI W t v)(hl:σ.ml.length+nds t<=1099511627776):
 Calls prog 71 #[ptr B.bb,.pointer r,v] W (dC NS Q w K B DI σ W (ndss t.li) λu aO W'=>∃b pa re,u=ptr b/\W.heap.size<=b/\aO.S b=some (aG t)/\W'.heap[b]?=some (.cells #[.pointer r,.pointer none,pa,re,.bool t.va] 96 (0,0))):=by
 obtain⟨a0,c,rfl,hs⟩:=hv.bR;have xd:=D4 j;have bk:=gq t;have rP:=qz t.li;have jz:=ak W (bx t a0 c);have ar:=an W (bx t a0 c);obtain⟨x0, -, -, -, -, -,x6⟩:=ao jz;obtain⟨RR,KR,VU,uL,ZK,bS,HL,na⟩:=Z8 jz ih xd cG hs ar hl bk;obtain⟨HN,D5,HP,HK,HV⟩:=Z5 hn rP j hk hV;clear ih xd cG hs ar jz hv hl bk hn rP j hk hV;go_in;go_wp2_with fail;clear x0 x6
 go_loopg [7,8,15] t.li.length (λgg s7 s8 s15 wr=>∃(kk:Nat) (aO:BS) (ps qs:List Value),kk<=t.li.length/\t.li.length - kk<=gg/\s15=.int .i64 kk/\SgS NS Q w K B DI σ W t.li t.m.toNat kk aO wr s7 s8 ps qs/\wr.heap[W.heap.size]?=some (bx t a0 c)/\Loc B DI aO W.heap.size)
 case atStart=>exact⟨0,σ,[],[],jQc _,M,rfl,⟨(Md.start uL.1).below bS.1,dK.nil,by simp[qw,All2],dK.nil,by simp[qw,All2],λg hg=>by simp[Value.ownBlock]at hg⟩,RR.1,uL.1.loc (jQ0 _)⟩
 case round=>
  obtain⟨kk,aO,ps,qs,ez,hg,rfl,cH,hgw,Xc⟩:=hrel;obtain⟨RU,eF,HGW⟩:=Z3 Xc cH hgw;by_cases aM:kk<t.li.length
  .have aR:(kk:Int)<(t.li.length:Int):=M
   obtain⟨e,he⟩:∃e,t.li[kk]?=some e:=⟨t.li[kk]'aM,by simp[aM]⟩;rcases aN.1 ZK.1 with⟨h0,_⟩|⟨-,b,o,c2,pT, -, -,uw,Hl⟩
   .rw[h0]at aM;simp at aM
   simp at pT;obtain⟨rfl,rfl⟩:=pT;have qk:=Hl.at he;obtain⟨ea,ec,RW,uz⟩:=(qk.move (uL.1.C0 eF.1.md.gr) uw).RX;obtain⟨c0,c1,c2,c3,c4,OS,Kk⟩:=RW;have Fl:=Z (show Below wr.heap.size wr (wr.alloc (bx e ea ec)).drew from(an _ _).drew);have kq:=ak wr (bx e ea ec);obtain⟨y0,y1,y2,y3,y4,y5,y6⟩:=ao kq;have lO:=Z (eF.1.md.below Fl.1);have ym:=Z (Gr.below Fl.1:Gr B aO aO wr _);have fq:=eF.1.md.bs.loc (g:=wr.heap.size) (jQ0 _);have ee:wr.heap.size<(wr.alloc (bx e ea ec)).drew.heap.size:=jQ2 kq;have gV:=Z (show∀mL O,Bs NS Q w K B DI mL O->Gr B aO mL (wr.alloc (bx e ea ec)).drew O->O.cell? ⟨B.bb,0,none⟩=some (ptr B.pk)/\V8 O wr.heap.size e ea ec from
    λmL O I U=>⟨by simp[World.cell?,I.jl],fq.cell ee U y0,fq.cell ee U y1,fq.cell ee U y2,fq.cell ee U y3,fq.cell ee U y4,fq.cell ee U y5,fq.cell ee U y6⟩)
   clear y0 y1 y2 y3 y4 y5 y6 kq ee fq;have CI:=lP he;have Ad:=lQ t.li (kk+1);have ag:=KR.1 e aO _ _ (by have:=na.1;have:=HN.1;omega) (VU.1 e (jQ8 he)) lO.1.bs (uz.move (eF.1.md.bs.C0 ym.1)) (by have:=eF.1.md.len;have:=HL.1;have:=na.1;omega);have Na:=Z CI;have HE:=Z he;have rO:t.li.length<=9223372036854775807:=by have:=D5.1;have:=HL.1;have:=na.1;omega
   clear cH hgw Xc Hl qk CI Ad uz uw;go_wp2_with fail;clear c0 c1 c2 c3 c4 OS Kk;refine jQ9 (S:=(λO=>O.cell? ⟨B.bb,0,none⟩=some (ptr B.pk)/\V8 O wr.heap.size e ea ec)) g9 (gV.1 _ _ lO.1.bs (Gr.refl _ _)) (λai=>?_);refine t4 0 1 2 3 ?_;refine t2 4 5 ?_;refine rd 6 rfl λK hK=>?_;go_simp;clear ai;refine ag.mono ?_;rintro eA wA ⟨u,fT,rfl,cq,hu⟩;have HM:=Z (lO.1.trans cq);obtain⟨bu,rfl, -⟩:=id hu;have HU:=Z hu;have HG:=Z cq.gr;refine hK.out _ _ (gV.1 _ _ cq.bs HG.1) (λai=>?_);clear ag cq hu;clear hK K;refine rd 7 rfl λK hK=>?_;go_simp;clear ai;refine rv (Ae _ _ _ _ _ _) ?_;have oU:=Z (HM.1.iz #[.int .i64 0,ptr B.pk,.string ⟨#[]⟩,.iface (tid e.ld) (ptr bu),.int .u8 4,.bool false] 164);have rQ:=Z (ym.1.trans (HG.1.trans (jk HM.1.bs #[.int .i64 0,ptr B.pk,.string ⟨#[]⟩,.iface (tid e.ld) (ptr bu),.int .u8 4,.bool false] 164)));have lX:=HG.1.trans (jk HM.1.bs #[.int .i64 0,ptr B.pk,.string ⟨#[]⟩,.iface (tid e.ld) (ptr bu),.int .u8 4,.bool false] 164);refine hK.out _ _ (gV.1 _ _ oU.1.bs lX) (λai=>?_);clear hK K;refine t7 8 ?_;refine jQl g9 ?_ _;clear ai;have aa6:=(RU.1.same (jQ2 HGW.1) rQ.1).trans HGW.1;have adD:=Z (RU.1.gr (jQ2 HGW.1) rQ.1);have Fm:=Z aa6;have hbm:=(ao aa6).2.2.1;clear aa6;have hS3:=eF.1.go rQ.1;have C9:=Z hS3;clear hS3;have jI:=Z (oU.1.below (an _ (.cells #[ptr wA.heap.size] 86)));have mQ:=Z (Gr.below (an (wA.alloc (.cells #[.int .i64 0,ptr B.pk,.string ⟨#[]⟩,.iface (tid e.ld) (ptr bu),.int .u8 4,.bool false] 164)) (.cells #[ptr wA.heap.size] 86)):Gr B _ {fT with D:=λb=>fT.D b\/b=wA.heap.size} _ _);have hhv:(wA.alloc (.cells #[.int .i64 0,ptr B.pk,.string ⟨#[]⟩,.iface (tid e.ld) (ptr bu),.int .u8 4,.bool false] 164)).heap[wA.heap.size]?=_:=ak _ _;have HHV:=Z hhv;clear hhv;obtain⟨KS,gP⟩:=agG HP.1 HK.1;have OT:=Z (And.intro KS gP);have mR:=eF.1.fl.len;have hql:=eF.1.tl.len;rw[jRj,jRj]at mR;rw[List.length_drop,jRj]at hql;obtain⟨kr,agI,HVN⟩:=Z3 (show ps.length+1<=1099511627776 by have:=D5.1;have:=HL.1;have:=na.1;omega) (show qs.length+1<=1099511627776 by have:=D5.1;have:=HL.1;have:=na.1;omega) (show nE fT.S (λb=>fT.D b\/b=wA.heap.size) (wA.alloc (.cells #[.int .i64 0,ptr B.pk,.string ⟨#[]⟩,.iface (tid e.ld) (ptr bu),.int .u8 4,.bool false] 164)) ⟨#[]⟩ e (ptr wA.heap.size)from⟨wA.heap.size,0,some ⟨B.pk,0,none⟩,.iface (tid e.ld) (ptr bu),4,rfl,.inr rfl,ak _ _,HU.1⟩);clear mR hql KS gP;by_cases hm:kk<t.m.toNat
   .have ZL:(kk:Int)<t.m:=by have:=OT.1;omega
    have mS:=Z (C9.1.1.gr mQ.1);clear hm;go_wp2_with (at_builtin;refine gH underlying169 KT rfl M rfl _ _ rfl W.heap.size u7 ps rfl mS.1.own (ptr wA.heap.size) rfl ⟨wA.heap.size+1,0,none⟩ 1 rfl (gi _ _ _ _) kr.1 jI.1.gr.size ?_);intro v7 w7 bF jm uM;obtain⟨yU,lY,CJ⟩:=Z3 (show w7.ownsRow W.heap.size 86 1 v7 (ps++[ptr wA.heap.size]).length (ps++[ptr wA.heap.size])by simpa using bF) (show((wA.alloc (.cells #[.int .i64 0,ptr B.pk,.string ⟨#[]⟩,.iface (tid e.ld) (ptr bu),.int .u8 4,.bool false] 164)).alloc (.cells #[ptr wA.heap.size] 86)).grownBy w7 u7.ownBlock from jm) (show v7.ownBlock=u7.ownBlock\/v7.ownBlock=some ((wA.alloc (.cells #[.int .i64 0,ptr B.pk,.string ⟨#[]⟩,.iface (tid e.ld) (ptr bu),.int .u8 4,.bool false] 164)).alloc (.cells #[ptr wA.heap.size] 86)).heap.size by simpa using uM);clear bF jm uM hbm;go_wp2_with fail;go_roundg (t.li.length - (kk+1))
    case measure=>omega
    case rel=>
     have Af:=jI.1.grown mS.1 lY.1 yU.1 CJ.1;have kS:=fR jI.1.bs mS.1 lY.1;have jd:=mQ.1.aJ oU.1.bs;have kh:=λb hb=>(⟨(kS b hb).1,(kS b hb).2.trans (jd b hb).2⟩:_/\w7.heap[b]?=_);obtain⟨ZM,MR⟩:=aa4 HE.1 (show kk<t.m.toNat by omega);have hdj:∀g,u8.ownBlock=some g->u7.ownBlock≠some g:=λg I U=>eF.1.dj g U I;have hR2:=(C9.1.2.2.1.gr mQ.1).RP lY.1 hdj;have ee:∀g,u8.ownBlock=some g->v7.ownBlock≠some g:=λg hg=>by
      obtain e'|e':=CJ.1
      .rw[e'];exact hdj g hg
      .rw[e'];intro e2;cases e2;have:=(aC (C9.1.2.2.1.gr mQ.1).own _ hg).2.1;omega
     have ZN:w7.heap[W.heap.size]?=_:=(lY.1.block W.heap.size (jQ2 (aq Fm.1)) (λe'=>by
      obtain⟨_,_,cur,U⟩:=aC mS.1.own _ e'.symm;rw[aq Fm.1]at U;cases U)).trans (aq Fm.1)
     have hvn:∃nm,nE fT.S (λb=>fT.D b\/b=wA.heap.size) w7 nm e (ptr wA.heap.size):=⟨_,HVN.1.move (λ_ _ h=>h) kh⟩;refine⟨kk+1,_,ps++[ptr wA.heap.size],qs,M,M,by go_num,⟨?_,Af.2,by rw[ZM];exact All2.snoc hvn (D3 C9.1.2.1 kh),hR2,by rw[MR];exact D3 C9.1.2.2.2 kh,λg I U=>ee g U I⟩,ZN,adD.1⟩;rw[Na.1];exact Af.1
   .have ZL:¬(kk:Int)<t.m:=by have:=OT.1;omega
    have mS:=Z (C9.1.2.2.1.gr mQ.1);clear hm;go_wp2_with (at_builtin;refine gH underlying169 KT rfl M rfl _ _ rfl W.heap.size u8 qs rfl mS.1.own (ptr wA.heap.size) rfl ⟨wA.heap.size+1,0,none⟩ 1 rfl (gi _ _ _ _) agI.1 jI.1.gr.size ?_);intro v7 w7 bF jm uM;obtain⟨yU,lY,CJ⟩:=Z3 (show w7.ownsRow W.heap.size 86 1 v7 (qs++[ptr wA.heap.size]).length (qs++[ptr wA.heap.size])by simpa using bF) (show((wA.alloc (.cells #[.int .i64 0,ptr B.pk,.string ⟨#[]⟩,.iface (tid e.ld) (ptr bu),.int .u8 4,.bool false] 164)).alloc (.cells #[ptr wA.heap.size] 86)).grownBy w7 u8.ownBlock from jm) (show v7.ownBlock=u8.ownBlock\/v7.ownBlock=some ((wA.alloc (.cells #[.int .i64 0,ptr B.pk,.string ⟨#[]⟩,.iface (tid e.ld) (ptr bu),.int .u8 4,.bool false] 164)).alloc (.cells #[ptr wA.heap.size] 86)).heap.size by simpa using uM);clear bF jm uM hbm;go_wp2_with fail;go_roundg (t.li.length - (kk+1))
    case measure=>omega
    case rel=>
     have Af:=jI.1.grown mS.1 lY.1 yU.1 CJ.1;have kS:=fR jI.1.bs mS.1 lY.1;have jd:=mQ.1.aJ oU.1.bs;have kh:=λb hb=>(⟨(kS b hb).1,(kS b hb).2.trans (jd b hb).2⟩:_/\w7.heap[b]?=_);obtain⟨ZM,MR⟩:=aa5 HE.1 (show t.m.toNat<=kk by omega);have hdj:∀g,u7.ownBlock=some g->u8.ownBlock≠some g:=λg I U=>eF.1.dj g I U;have hR2:=(C9.1.1.gr mQ.1).RP lY.1 hdj;have ee:∀g,u7.ownBlock=some g->v7.ownBlock≠some g:=λg hg=>by
      obtain e'|e':=CJ.1
      .rw[e'];exact hdj g hg
      .rw[e'];intro e2;cases e2;have:=(aC (C9.1.1.gr mQ.1).own _ hg).2.1;omega
     have ZN:w7.heap[W.heap.size]?=_:=(lY.1.block W.heap.size (jQ2 (aq Fm.1)) (λe'=>by
      obtain⟨_,_,cur,U⟩:=aC mS.1.own _ e'.symm;rw[aq Fm.1]at U;cases U)).trans (aq Fm.1)
     have hvn:∃nm,nE fT.S (λb=>fT.D b\/b=wA.heap.size) w7 nm e (ptr wA.heap.size):=⟨_,HVN.1.move (λ_ _ h=>h) kh⟩;refine⟨kk+1,_,ps,qs++[ptr wA.heap.size],M,M,by go_num,⟨?_,hR2,by rw[MR];exact D3 C9.1.2.1 kh,Af.2,by rw[ZM];exact All2.snoc hvn (D3 C9.1.2.2.2 kh),ee⟩,ZN,adD.1⟩;rw[Na.1];exact Af.1
  .have aR:¬(kk:Int)<(t.li.length:Int):=M
   have yV:t.li.take kk=t.li:=jR6 M;obtain⟨a7,c7,rfl,hn7⟩:=cH.fr.form;obtain⟨a8,c8,rfl,hn8⟩:=cH.tr.form;have cq:=cH.md;have xe:=cH.fl;have htl:=cH.tl;rw[yV]at cq xe htl;have OU:=(cq.below (jQ5 _ _).drew).lW (λb=>(Value.slice a7 ps.length c7).ownBlock=some b\/(Value.slice a8 qs.length c8).ownBlock=some b) (λb hb=>by
    obtain hb|hb:=hb
    .exact M182
    .obtain⟨k1,k2,cur,k3⟩:=aC cH.tr.own b hb;exact⟨⟨cH.tr.loc b hb,k1⟩,_,_,_,k3⟩)
   have HM:=Z OU;have hmw:au aO.D (λb=>aO.D b\/((Value.slice a7 ps.length c7).ownBlock=some b\/(Value.slice a8 qs.length c8).ownBlock=some b)) wr wr.drew:=λb hb=>⟨.inl hb,rfl⟩;obtain⟨HR1,OV,D6,rR⟩:=Z4 ((cH.fr.row (D:=λb=>aO.D b\/((Value.slice a7 ps.length c7).ownBlock=some b\/(Value.slice a8 qs.length c8).ownBlock=some b)) (λg hg=>.inr (.inl hg))).move (W':=wr.drew) (λb hb=>⟨hb,rfl⟩)) ((cH.tr.row (D:=λb=>aO.D b\/((Value.slice a7 ps.length c7).ownBlock=some b\/(Value.slice a8 qs.length c8).ownBlock=some b)) (λg hg=>.inr (.inr hg))).move (W':=wr.drew) (λb hb=>⟨hb,rfl⟩)) (D3 xe hmw) (D3 htl hmw);have aZ:wr.drew.cell? ⟨W.heap.size,3,none⟩=some (.bool t.va):=(ao hgw).2.2.2.1;have agJ:=Z (Xc.lW (P:=λb=>(Value.slice a7 ps.length c7).ownBlock=some b\/(Value.slice a8 qs.length c8).ownBlock=some b) (λh=>by
    obtain h|h:=h
    .obtain⟨_,_,cur,k3⟩:=aC cH.fr.own _ h;rw[hgw]at k3;cases k3
    .obtain⟨_,_,cur,k3⟩:=aC cH.tr.own _ h;rw[hgw]at k3;cases k3))
   have HLT:=Z (show W.heap.size<wr.drew.heap.size from jQ2 hgw);have kL:=Z aZ;have gV:=Z (show∀mL O,Gr B {aO with D:=λb=>aO.D b\/((Value.slice a7 ps.length c7).ownBlock=some b\/(Value.slice a8 qs.length c8).ownBlock=some b)} mL wr.drew O->O.cell? ⟨W.heap.size,3,none⟩=some (.bool t.va)from λmL O hg=>agJ.out.cell HLT.out hg kL.out);clear cH hgw Xc cq xe htl OU hmw;have HKL:=Z yV;clear yV;go_wp2_with fail;refine jQ9 (S:=(λO=>O.cell? ⟨W.heap.size,3,none⟩=some (.bool t.va))) g9 (aZ) (λai=>?_);refine t4 0 1 3 5 ?_;refine t7 6 ?_;refine rd 2 rfl λK hK=>?_;go_simp;clear ai;refine(Ac HM.1 HR1.1 D6.1).mono ?_;rintro eA wA ⟨q1,mL,rfl,rO,Da,ZO⟩;replace OV:=Z (OV.1.move (Da.aJ HM.1.bs));replace rR:=Z (MZ rR.1 HM.1.bs Da);have Db:=Z ZO;have HGX:=Z Da;replace HM:=Z rO;refine hK.out _ _ (gV.1 _ _ HGX.1) (λai=>?_);clear rO Da ZO;clear hK K;refine rd 4 rfl λK hK=>?_;go_simp;clear ai;refine(Ac HM.1 OV.1 rR.1).mono ?_;rintro eA wB ⟨q2,σy,rfl,rO,Da,ZO⟩;replace Db:=Z (Db.1.move Da.sle (Da.aJ HM.1.bs));have Hk:=Z ZO;replace HGX:=Z (HGX.1.trans Da);replace HM:=Z rO;refine hK.out _ _ (gV.1 _ _ HGX.1) (λai=>?_);clear rO Da ZO;clear hK K;refine rd 7 rfl λK hK=>?_;go_simp;clear ai;refine(KQ HV.1 r q1 q2 HP.1 HK.1 Db.1).mono ?_;rintro eA wC ⟨b,rfl,yW,j6,RY⟩;obtain⟨HBZ,pU,HBH⟩:=Z3 yW j6 RY;refine hK.out _ _ (gV.1 _ _ (HGX.1.trans (Gr.below j6))) (λai=>?_);clear yW j6 RY;clear hK K;refine t7 8 ?_;refine jQl g9 ?_ _;clear ai;have HE:=Z (agH (HM.1.below pU.1) HK.1 (by have:=HM.1.gr.size;have:=HBZ.1;omega) (HM.1.bs.loc HBZ.1) HBH.1 (Db.1.move (λ_ _ h=>h) (Gr.aJ (Gr.below pU.1) HM.1.bs)) (Hk.1.move (λ_ _ h=>h) (Gr.aJ (Gr.below pU.1) HM.1.bs)));clear HBH pU HBZ Db Hk;go_wp2;go_ret;exact HE.1
def MH(B:Bl)(DI:Qx)(σ:BS)(W:World)(b:Nat):Prop:=DI b\/(Loc B DI σ b/\∃cs f,W.heap[b]?=some (.cells cs 25 f))
theorem MH.gr(h:MH B DI σ W b)(hb:Bs NS Q w K B DI σ W)(hg:Gr B σ aO W W'):MH B DI aO W' b/\W'.heap[b]?=W.heap[b]?:=by
 obtain h|⟨h,cs,f,hc⟩:=h
 .exact⟨.inl h,(hb.C0 hg b h).2⟩
 .have he:=h.same (jQ2 hc) hg;exact⟨.inr ⟨h.gr (jQ2 hc) hg,cs,f,he.trans hc⟩,he⟩
theorem MH.grown(h:MH B DI σ W b)(hb:Bs NS Q w K B DI σ W)(hr:dK B DI σ base W ty xs v)(bk:ty≠25)(hg:W.grownBy W' v.ownBlock):MH B DI σ W' b/\W'.heap[b]?=W.heap[b]?:=by
 obtain h|⟨h,cs,f,hc⟩:=h
 .exact⟨.inl h,hg.block b (hb.di b h).1 λe=>(hr.loc b e.symm).2.2.2.2 h⟩
 .have he:W'.heap[b]?=W.heap[b]?:=hg.block b (jQ2 hc) λe=>by
   obtain⟨_,_,cur,U⟩:=aC hr.own b e.symm;rw[hc]at U;cases U;exact bk rfl
  exact⟨.inr ⟨h,cs,f,he.trans hc⟩,he⟩
abbrev rM(S:Sg)(D:Qx)(W:World)(l:List Y)(ps:List Value):Prop:=All2 (vG S D W) l ps
theorem Hc(h:rM σ.S σ.D W l ps)(hb:Bs NS Q w K B DI σ W)(hg:Gr B σ aO W W'):rM aO.S aO.D W' l ps:=h.imp λ_ _ j=>j.move hg.sle (hg.aJ hb)
theorem yg(h:rM S D W l ps)(hm:au D D' W W'):rM S D' W' l ps:=h.imp λ_ _ j=>j.move (λ_ _ h=>h) hm
structure UnS(NS:List ByteArray)(Q:Y->Prop)(w:List ah)(K:Nat)(B:Bl)(DI:Qx)(eo:BS)(W0:World)(l:List Y)(kk:Nat)(σ:BS)(W:World)(fv:Value)(ps:List Value)(b:Nat)(x:Option Obj):Prop where
 md:Md NS Q w K B DI eo W0 (ndss (l.take kk)) σ W
 fr:dK B DI σ W0.heap.size W 207 ps fv
 fl:rM σ.S σ.D W (l.take kk) ps
 st:MH B DI σ W b/\W.heap[b]?=x
def tw(h:PT NS Q w md t)(hk:t.ld=13):∃e,t.li=[e]:=by
 cases h with
 |basic a b=>simp[Y.ld]at hk
 |uni a=>simp only[Y.ld]at hk;omega
 |named a b c=>simp[Y.ld]at hk
 |al a b I=>simp only[Y.ld]at hk;omega
 |st a b I=>simp[Y.ld]at hk
 |ifc a b c d e g I U q=>simp[Y.ld]at hk
 |one a b c I=>simp only[Y.ld]at hk;omega
 |mp I U=>simp[Y.ld]at hk
 |fn a b c I=>simp[Y.ld]at hk
 |ti a I=>exact⟨_,rfl⟩
 |un a b c I=>simp[Y.ld]at hk
theorem aaW(h:PT NS Q w md t)(hm:md<=2):PT NS Q w 2 (ep t)/\nds (ep t)<=nds t:=by
 unfold ep;by_cases hk:t.ld=13
 .obtain⟨e,he⟩:=tw h hk;have hn:=gq t;rw[jQ7 (by simp[hk]),he];refine⟨D4 h e (by rw[he];simp),?_⟩;rw[hn,he];simp[ndss]
 .rw[jQ4 (by simp[hk])];exact⟨h.eS (jQ0 _) (λ_ h=>h) hm id id,jQ0 _⟩
theorem acY(h:PT NS Q w 2 t)(hk:t.ld=12):2<=t.li.length/\∀e∈t.li,PT NS Q w 1 e:=by
 cases h with
 |basic a b=>simp[Y.ld]at hk
 |uni a=>simp only[Y.ld]at hk;omega
 |named a b c=>simp[Y.ld]at hk
 |al a b I=>simp only[Y.ld]at hk;omega
 |st a b I=>simp[Y.ld]at hk
 |ifc a b c d e g I U q=>simp[Y.ld]at hk
 |one a b c I=>simp only[Y.ld]at hk;omega
 |mp I U=>simp[Y.ld]at hk
 |fn a b c I=>simp[Y.ld]at hk
 |ti a I=>simp[Y.ld]at hk
 |un a b c I=>exact⟨b,I⟩
theorem VD(hv:RT DI W e (.agg #[.int .i64 e.ld,.int .i64 e.n,.int .i64 e.m,.bool e.va,.string e.name,.string e.gc,.slice ea e.li.length ec]))(he:e.li=[x]):
 ∃b9 o9 xa xc,ea=some ⟨b9,o9,none⟩/\Cel W x b9 o9 xa xc/\RT DI W x (.agg #[.int .i64 x.ld,.int .i64 x.n,.int .i64 x.m,.bool x.va,.string x.name,.string x.gc,.slice xa x.li.length xc]):=by
 obtain⟨a9,c9,agc,yu⟩:=hv.bR;simp at agc;obtain⟨rfl,rfl⟩:=agc;rw[he]at yu;obtain⟨b9,o9,cc9,e9, -, -,hd9,hE9, -⟩:=gQ.1 yu;simp at e9;obtain⟨rfl,rfl⟩:=e9;obtain⟨xa,xc,Zp,xH⟩:=hE9.RX;exact⟨b9,o9,xa,xc,rfl,Zp,xH⟩
theorem aaX(h:Md NS Q w K B DI eo W0 n σ W)(hk:t.ld=12\/t.ld=13)(hl:l=if t.ld=12 then t.li else[t])(hr:eE σ.D W ps sl)(hf:rM σ.S σ.D W l ps)(bk:ps≠[]):
 dC NS Q w K B DI eo W0 n (λu aO _=>dq aO.S u t) (.returned (.iface 184 (ptr W.heap.size))) (W.alloc (.cells #[sl] 236)):=by
 obtain⟨k1,k2,k3,k4,k5⟩:=fa (t:=t) M M M M;have hg:Gr B σ σ W (W.alloc (.cells #[sl] 236)):=Gr.below (an _ _);have hS:=fG (s:=aG t) h.sn;have hm:=hg.aJ h.bs;have zF:All2 (vG (cE σ.S W.heap.size (aG t)) σ.D (W.alloc (.cells #[sl] 236))) (if (aG t).ld=12 then(aG t).li else[aG t]) ps:=by
  rw[k1,k5];subst hl;have Wa:=hf.imp (R':=vG (cE σ.S W.heap.size (aG t)) σ.D (W.alloc (.cells #[sl] 236))) λ_ _ j=>j.move hS hm;by_cases cQ:t.ld=12
  .rw[jQ7 cQ]at Wa⊢;exact Wa
  .rw[jQ4 cQ]at Wa⊢
   match ps,Wa with
   |[p],Wa=>
    refine⟨?_,trivial⟩;obtain⟨b,v,I,U,h3,h4⟩:=Wa.1;exact⟨b,v,I,U,by rw[k1];exact h3,by unfold ep at h4⊢;rw[k1,k5];simpa[show t.ld=13 by omega]using h4⟩
 have:=h.fin (t:=t) (cs:=#[sl]) (ty:=236) M M M M (by unfold isIf;rcases hk with h|h<;>simp[h])
  ⟨M,M,M,M,M,M,M,M,M,M,λ_=>⟨sl,ps,ak _ _,hr.move hm,bk,zF⟩⟩
 have htd:tid t.ld=184:=by rcases hk with h|h<;>rw[h]<;>rfl
 rw[htd]at this;exact this
theorem U4(ih:dR NS Q w K B DI N)(hk:t.ld=12)(hn:nds t<=N+1)(j:PT NS Q w 2 t)(cG:Bs NS Q w K B DI σ W)(hv:RT DI W t v)(hl:σ.ml.length+nds t<=1099511627776):
 Calls prog 72 #[ptr B.bb,v] W (dC NS Q w K B DI σ W (ndss t.li) λu aO _=>dq aO.S u t):=by
 obtain⟨a0,c,rfl,hs⟩:=hv.bR;obtain⟨qq,ql⟩:=acY j hk;have bk:=gq t;have jz:=ak W (.cells #[.int .i64 t.ld,.int .i64 t.n,.int .i64 t.m,.bool t.va,.string t.name,.string t.gc,.slice a0 t.li.length c] 25);have ar:=an W (.cells #[.int .i64 t.ld,.int .i64 t.n,.int .i64 t.m,.bool t.va,.string t.name,.string t.gc,.slice a0 t.li.length c] 25);obtain⟨x0, -, -, -, -, -,x6⟩:=ao jz;rcases aN.1 hs with⟨h0,_⟩|⟨-,b,o,c2,pT, -, -,uw,Hl⟩
 .rw[h0]at qq;simp at qq
 simp at pT;obtain⟨rfl,rfl⟩:=pT;have hli:=qz t.li;obtain⟨D5,HL,Rg,KR,Zx,Ht⟩:=Z6 (show t.li.length+1<=1099511627776 by omega) hl (show ndss t.li<=nds t by omega) ih (λmL O (h:Gr B σ mL W O)=>cG.C0 h) (show∀(i:Nat) (e:Y) (W':World),t.li[i]?=some e->W'.heap[b]?=W.heap[b]?->au DI DI W W'->∃ea ec,Cel W' e b (o+i*7) ea ec/\RT DI W' e (.agg #[.int .i64 e.ld,.int .i64 e.n,.int .i64 e.m,.bool e.va,.string e.name,.string e.gc,.slice ea e.li.length ec])from λi e W' he _ hm=>((Hl.at he).move hm uw).RX);have nX:=Z (show∀e∈t.li,PT NS Q w 2 (ep e)/\nds (ep e)<=N/\nds (ep e)<=nds e from λe he=>by
  have I:=aaW (ql e he) M;have U:=wH he;exact⟨I.1,M,I.2⟩)
 have HTI:=Z (show∀e∈t.li,e.ld=13->∃x,e.li=[x]from λe he h=>tw (ql e he) h);have QG:=Z (show UnS NS Q w K B DI σ W t.li 0 σ (W.alloc (.cells #[.int .i64 t.ld,.int .i64 t.n,.int .i64 t.m,.bool t.va,.string t.name,.string t.gc,.slice (some ⟨b,o,none⟩) t.li.length c] 25)) (.slice none 0 0) [] b (W.heap[b]?)from⟨(Md.start cG).below ar,dK.nil,by simp[rM,All2],.inl uw,ar.block b (cG.di b uw).1⟩);have ll:(t.ld==13)=false:=by simp[hk]
 have HK:=Z (show t.ld=12\/t.ld=13 from .inl hk);have Hz:=Z (show 1<=t.li.length by omega);obtain⟨l,hle⟩:∃l,l=t.li:=⟨_,rfl⟩;have HLE:=Z (show l=if t.ld=12 then t.li else[t]by rw[jQ7 hk];exact hle);rw[<-hle]at D5 Rg Ht nX HTI QG Hz x6⊢;clear ih hk hn j cG hv hl hs bk jz ar ql qq uw Hl hli hle;go_in;go_wp2_with fail;clear x0 x6 ll
 go_loopg [6,18] l.length (λgg s6 s18 wr=>∃(kk:Nat) (aO:BS) (ps:List Value),kk<=l.length/\l.length - kk<=gg/\s18=.int .i64 kk/\UnS NS Q w K B DI σ W l kk aO wr s6 ps b (W.heap[b]?))
 case atStart=>exact⟨0,σ,[],jQc _,M,rfl,QG.1⟩
 case round=>
  obtain⟨kk,aO,ps,ez,hg,rfl,cH⟩:=hrel;have eF:=Z cH;have mR:=cH.fl.len;rw[jRj]at mR;by_cases aM:kk<l.length
  .have aR:(kk:Int)<(l.length:Int):=M
   exact M3
  .have aR:¬(kk:Int)<(l.length:Int):=M
   exact M26
theorem U5(ih:dR NS Q w K B DI N)(hk:t.ld=13)(hn:nds t<=N+1)(j:PT NS Q w 2 t)(cG:Bs NS Q w K B DI σ W)(hv:RT DI W t v)(hl:σ.ml.length+nds t<=1099511627776):
 Calls prog 72 #[ptr B.bb,v] W (dC NS Q w K B DI σ W (nds t) λu aO _=>dq aO.S u t):=by
 obtain⟨a0,c,rfl,hs⟩:=hv.bR;have bk:=gq t;have ar:=an W (.cells #[.int .i64 t.ld,.int .i64 t.n,.int .i64 t.m,.bool t.va,.string t.name,.string t.gc,.slice a0 t.li.length c] 25);have cX:=dT W (.cells #[.int .i64 t.ld,.int .i64 t.n,.int .i64 t.m,.bool t.va,.string t.name,.string t.gc,.slice a0 t.li.length c] 25) (.cells #[.int .i64 t.ld,.int .i64 t.n,.int .i64 t.m,.bool t.va,.string t.name,.string t.gc,.slice a0 t.li.length c] 25);have jz:=ak W (.cells #[.int .i64 t.ld,.int .i64 t.n,.int .i64 t.m,.bool t.va,.string t.name,.string t.gc,.slice a0 t.li.length c] 25);have I8:=ak (W.alloc (.cells #[.int .i64 t.ld,.int .i64 t.n,.int .i64 t.m,.bool t.va,.string t.name,.string t.gc,.slice a0 t.li.length c] 25)) (.cells #[.int .i64 t.ld,.int .i64 t.n,.int .i64 t.m,.bool t.va,.string t.name,.string t.gc,.slice a0 t.li.length c] 25);rw[jQ3]at I8;obtain⟨x0,x1,x2,x3,x4,x5,x6⟩:=ao jz;obtain⟨l,hle⟩:∃l,l=[t]:=⟨_,rfl⟩;have rP:l.length=1:=by rw[hle];rfl
 have hnl:ndss l=nds t:=by rw[hle];simp[ndss]
 obtain⟨D5,HL,Rg,HNL,KR,Zx⟩:=Z6 (show l.length+1<=1099511627776 by omega) hl (show ndss l<=nds t by omega) hnl ih (λmL O (h:Gr B σ mL W O)=>cG.C0 h);have Ht:=Z (show∀(i:Nat) (e:Y) (W':World),l[i]?=some e->W'.heap[W.heap.size+1]?=some (.cells #[.int .i64 t.ld,.int .i64 t.n,.int .i64 t.m,.bool t.va,.string t.name,.string t.gc,.slice a0 t.li.length c] 25)->au DI DI W W'->∃ea ec,Cel W' e (W.heap.size+1) (i*7) ea ec/\RT DI W' e (.agg #[.int .i64 e.ld,.int .i64 e.n,.int .i64 e.m,.bool e.va,.string e.name,.string e.gc,.slice ea e.li.length ec])from λi e W' he hh hm=>by
  have hi:e=t:=by
   subst hle;have:=jQ8 he;exact M152
  have pn:i=0:=by
   have:=(jQg.1 he).1;omega
  subst hi;subst pn;obtain⟨y0,y1,y2,y3,y4,y5,y6⟩:=ao hh;exact⟨a0,c,⟨y0,y1,y2,y3,y4,y5,y6⟩,hv.move hm⟩)
 obtain⟨iT,mU⟩:=aaW j M;obtain⟨x,H⟩:=tw j hk;have ZO:ep t=x:=by unfold ep;rw[jQ7 (by simp[hk]),H];rfl
 have jM:nds t=1+nds x:=by rw[bk,H];simp[ndss]
 have nX:=Z (show∀e∈l,PT NS Q w 2 (ep e)/\nds (ep e)<=N/\nds (ep e)<=nds e from λe he=>by
  rw[hle]at he;simp at he;subst he;exact⟨iT,by rw[ZO];omega,mU⟩)
 have HTI:=Z (show∀e∈l,e.ld=13->∃x,e.li=[x]from λe he h=>by
  rw[hle]at he;simp at he;subst he;exact⟨x,H⟩)
 have QG:=Z (show UnS NS Q w K B DI σ W l 0 σ ((W.alloc (.cells #[.int .i64 t.ld,.int .i64 t.n,.int .i64 t.m,.bool t.va,.string t.name,.string t.gc,.slice a0 t.li.length c] 25)).alloc (.cells #[.int .i64 t.ld,.int .i64 t.n,.int .i64 t.m,.bool t.va,.string t.name,.string t.gc,.slice a0 t.li.length c] 25)) (.slice none 0 0) [] (W.heap.size+1) (some (.cells #[.int .i64 t.ld,.int .i64 t.n,.int .i64 t.m,.bool t.va,.string t.name,.string t.gc,.slice a0 t.li.length c] 25))from
  ⟨(Md.start cG).below cX,dK.nil,by simp[rM,All2],.inr ⟨cG.loc M,_,_,I8⟩,I8⟩)
 have ll:(t.ld==13)=true:=by simp[hk]
 obtain⟨HK,Hz,HLE,HL1⟩:=Z4 (show t.ld=12\/t.ld=13 from .inr hk) (show 1<=l.length by omega) (show l=if t.ld=12 then t.li else[t]by rw[jQ4 M];exact hle) rP;rw[<-hnl];clear ih hk hn j cG hv hl hs bk jz I8 ar cX hle rP hnl iT mU H ZO jM;go_in;go_wp2_with fail;clear x0 x1 x2 x3 x4 x5 x6 ll
 go_loopg [6,18] l.length (λgg s6 s18 wr=>∃(kk:Nat) (aO:BS) (ps:List Value),kk<=l.length/\l.length - kk<=gg/\s18=.int .i64 kk/\UnS NS Q w K B DI σ W l kk aO wr s6 ps (W.heap.size+1) (some (.cells #[.int .i64 t.ld,.int .i64 t.n,.int .i64 t.m,.bool t.va,.string t.name,.string t.gc,.slice a0 t.li.length c] 25)))
 case atStart=>exact⟨0,σ,[],jQc _,M,rfl,QG.1⟩
 case round=>
  obtain⟨kk,aO,ps,ez,hg,rfl,cH⟩:=hrel;have eF:=Z cH;have mR:=cH.fl.len;rw[jRj]at mR;by_cases aM:kk<l.length
  .have aR:(kk:Int)<1:=by(have:=HL1.1;omega)
   exact M3
  .have aR:¬(kk:Int)<1:=by(have:=HL1.1;omega)
   exact M26
theorem E7(W:World):Calls prog 59 #[] W λe W'=>e=.returned (.slice (some ⟨W.heap.size+1,0,none⟩) 1 1)/\W'=(W.alloc (.cells #[.bool false,.nilIface] 158)).alloc (.cells #[ptr W.heap.size] 156):=M85
abbrev tT1:Obj:=.cells #[.bool false,.nilIface] 158
abbrev tT2(z:Nat):Obj:=.cells #[ptr z] 156
abbrev tT3(z:Nat)(c:Bool):Obj:=.cells #[.bool false,.slice none 0 0,.slice (some ⟨z+1,0,none⟩) 1 1,.bool c] 124
abbrev tT4(z:Nat):Obj:=.cells #[.pointer none,.slice none 0 0,.slice none 0 0,.pointer none,.bool false,.bool true,ptr (z+2)] 104
def oS(W:World)(c:Bool):World:=allocs W [tT1,tT2 W.heap.size,tT3 W.heap.size c,tT4 W.heap.size]
theorem J8(W:World):Calls prog 102 #[] W λe W'=>e=.returned (ptr (W.heap.size+2))/\W'=((W.alloc tT1).alloc (tT2 W.heap.size)).alloc (tT3 W.heap.size false):=by
 have hc:=E7 W;go_in;go_wp2_with fail;refine hc.mono ?_;rintro e O ⟨rfl,hw⟩;subst hw;clear hc;go_wp2;go_ret;exact⟨i6,rfl⟩
theorem GW(W:World):Calls prog 27 #[] W λe W'=>e=.returned (ptr (W.heap.size+3))/\W'=oS W true:=by
 have hc:=E7 W;exact M133
theorem Mi(a a2:Option Addr)(c c2:Nat)(W:World):Calls prog 121 #[.slice a 0 c,.slice a2 0 c2] W λe W'=>e=.returned (ptr (W.heap.size+3))/\W'=oS W false:=by
 have hc:=J8 W;exact M133
theorem pQ(W:World)(c:Bool):Below W.heap.size W (oS W c)/\(oS W c).heap[W.heap.size]?=some tT1/\(oS W c).heap[W.heap.size+1]?=some (tT2 W.heap.size)/\(oS W c).heap[W.heap.size+2]?=some (tT3 W.heap.size c)/\(oS W c).heap[W.heap.size+3]?=some (tT4 W.heap.size):=
 ⟨jT _ _,eL _ W 0 _ rfl,eL _ W 1 _ rfl,eL _ W 2 _ rfl,eL _ W 3 _ rfl⟩
theorem Vi(w:List ah)(k:Nat)(hk:t.ld=10)(he:t.li=[]):(fs w (k+1)).ts t=⟨[],[some fu],false⟩:=by
 rw[fs];show iH _ w t=_;unfold iH bN own;rw[jQ4 M,he];simp[ib]
theorem ab7(h:Md NS Q w K B DI eo W0 n σ W)(hK:1<=K){s:Y}(hk:s.ld=10)(he:s.li=[])(hs:∃t,s=aG t/\t.ld=10/\PT NS Q w 0 t):
 Md NS Q w K B DI eo W0 n {σ with S:=cE σ.S (W.heap.size+3) s,D:=λb=>σ.D b\/(W.heap.size<=b/\b<W.heap.size+3)} (oS W false):=by
 obtain⟨hb,h0,I,U,h3⟩:=pQ W false;have hM:=(h.below hb).lW (λb=>W.heap.size<=b/\b<W.heap.size+3) (λb dD=>by
  refine⟨⟨h.bs.loc dD.1,by have:=h.gr.size;omega⟩,?_⟩;have:b=W.heap.size\/b=W.heap.size+1\/b=W.heap.size+2:=M
  obtain rfl|rfl|rfl:=this
  .exact⟨_,_,_,h0⟩
  .exact⟨_,_,_,I⟩
  .exact⟨_,_,_,U⟩)
 have hl:=(h.bs.loc (g:=W.heap.size+3) M).lW (P:=λb=>W.heap.size<=b/\b<W.heap.size+3) M;obtain⟨K',rfl⟩:∃K',K=K'+1:=⟨K - 1,M⟩;have fi:Wq (cE σ.S (W.heap.size+3) s) (λb=>σ.D b\/(W.heap.size<=b/\b<W.heap.size+3)) (oS W false) (W.heap.size+2) ((fs w (K'+1)).ts s):=by
  rw[Vi w K' hk he];refine⟨_,_,[],[ptr W.heap.size],.inr ⟨M,M⟩,U,.inl ⟨rfl,none,0,rfl,λ_=>rfl⟩,trivial,.inr ⟨i6,_,_,_,rfl,i6,i6,⟨.inr ⟨M,M⟩,_,_,I⟩,λhp u hu=>?_⟩,⟨⟨W.heap.size,_,_,rfl,.inr ⟨M,M⟩,h0,.inl rfl,rfl⟩,trivial⟩⟩;exact M205
 have cP:iJ (cE σ.S (W.heap.size+3) s) (λb=>σ.D b\/(W.heap.size<=b/\b<W.heap.size+3)) (oS W false) (W.heap.size+3) s (ptr (W.heap.size+2)):=by
  refine⟨_,_,[],[],h3,.inl ⟨rfl,none,0,rfl,λ_=>rfl⟩,.inl ⟨rfl,none,0,rfl,λ_=>rfl⟩,?_,?_⟩
  .unfold own;rw[he];simp[All2]
  .unfold bN;rw[he];simp[All2]
 refine hM.add hl (by have:=h.gr.size;omega) h3 (λhi=>by unfold cI at hi;omega) ⟨M,M,M,M,M,M,M,M,M,λ_=>⟨_,cP⟩,M⟩ (λ_=>⟨⟨_,cP,.inr ⟨_,rfl,fi⟩⟩,.inr hs⟩)
theorem Md.Zh{s:Y}{rc rc':Value}(h:Md NS Q w K B DI eo W0 n σ W)(hs:σ.S sb=some s)(hk:s.ld=7)(hz:W0.heap.size<=sb)(hh:W.heap[sb]?=some (.cells #[rc,.pointer none,pa,re,.bool s.va] 96 (0,0)))(j:kT sb #[rc',.pointer none,pa,re,.bool s.va] 96 W W'):Md NS Q w K B DI eo W0 n σ W':=by
 have hbn:B.bb≠sb:=λe=>by have:=h.bs.kJ.1;rw[e,hs]at this;cases this
 have hD:∀b,σ.D b->W'.heap[b]?=W.heap[b]?:=λb hd=>j.other b λe=>h.bs.th.rS sb s hs (e▸hd);have hm:au σ.D σ.D W W':=λb hb=>⟨hb,hD b hb⟩;have j8:=jQz j.size.symm;refine⟨⟨⟨λb s' oC=>?_,λb s' oC=>jQb (h.bs.th.lI b s' oC) j8,h.bs.th.mT.mono j8,h.bs.th.rS,λb hd=>?_,λb s' oC=>?_,h.bs.th.td.move hm,λb s' oC hi=>?_⟩,(j.other _ hbn).trans h.bs.jl,h.bs.Rm.move hm,h.bs.row.move hm,h.bs.rn,h.bs.dl,h.bs.ev,h.bs.cv,h.bs.kJ,?_,h.bs.gY,h.bs.made,λb hd=>⟨jQb (h.bs.di b hd).1 j8,(h.bs.di b hd).2⟩,h.bs.ifs⟩,?_,h.len⟩
 .by_cases e:b=sb
  .subst e;rw[hs]at oC;cases oC;obtain⟨n1,n2,n3,n4,n5,n6,n7,n8,n9,n10,n12⟩:=h.bs.th.node b s hs;obtain⟨rc2,pa2,re2,g1,g2,g3⟩:=n7 hk;rw[hh]at g1;simp at g1;obtain⟨-,rfl,rfl⟩:=g1;exact⟨M,M,M,M,M,M,λ_=>⟨rc',pa,re,j.here,g2.move (λ_ _ h=>h) hm,g3.move (λ_ _ h=>h) hm⟩,M,M,M,M⟩
  .exact(h.bs.th.node b s' oC).move (λ_ _ h=>h) hm (.inl (j.other b e))
 .obtain⟨cs,t,f,hc⟩:=h.bs.th.LR b hd;exact⟨cs,t,f,(hD b hd).trans hc⟩
 .by_cases e:b=sb
  .subst e;exact⟨_,_,j.here⟩
  .obtain⟨cs,t,hc⟩:=h.bs.th.A9 b s' oC;exact⟨cs,t,(j.other b e).trans hc⟩
 .have e:b≠sb:=by
   rintro rfl;rw[hs]at oC;cases oC;unfold isIf at hi;rw[hk]at hi;cases hi
  exact(h.bs.th.st b s' oC hi).move (λ_ _ h=>h) hm (j.other b e)
 .exact cD h.bs.own λg hg=>j.other g λe=>by
   have:=(h.bs.gY g hg).1;rw[e,hs]at this;cases this
 .have lA:=h.gr.size;exact⟨j.os.trans h.gr.os,j.tape.trans h.gr.tape,j.output.trans h.gr.output,jQd lA j8,λb hl hn ho=>(j.other b M).trans (h.gr.block b hl hn ho),h.gr.sle,h.gr.uF,h.gr.xQ,h.gr.Jo,h.gr.Jp,h.gr.MQ⟩
def QV(S:Sg)(D:Qx)(W:World)(base:Nat)(m:Y)(p:Value):Prop:=
 m.ld=7/\∃b pos pk sb q pa re,p=ptr b/\D b/\W.heap[b]?=some (.cells #[.int .i64 pos,.pointer pk,.string m.name,.iface 92 (ptr sb),.bool false,.bool false] 173 (0,0))/\S sb=some (aG m)/\base<=sb/\
  W.heap[sb]?=some (.cells #[.pointer q,.pointer none,pa,re,.bool m.va] 96 (0,0))/\IU D W pk
theorem QV.fn{m:Y}(h:QV S D W base m p):sK S D W m.name m p:=by
 obtain⟨hk,b,pos,pk,sb,q,pa,re,I,U,h3,h4,h5,h6,h7⟩:=h;exact⟨b,pos,pk,_,I,U,h3,⟨sb,by rw[hk];rfl,h4⟩,h7⟩
structure QX(NS:List ByteArray)(Q:Y->Prop)(w:List ah)(K:Nat)(B:Bl)(DI:Qx)(eo:BS)(W0:World)(n:Nat)(σ:BS)(W1 wr:World):Prop where
 md:Md NS Q w K B DI eo W0 n σ wr
 size:W1.heap.size<=wr.heap.size
 cR:∀b,b<W1.heap.size->σ.S b=none->wr.heap[b]?=W1.heap[b]?
 sig:∀(b:Nat) (q:Option Addr) (p a r v:Value),W1.heap[b]?=some (.cells #[.pointer q,p,a,r,v] 96 (0,0))->∃q',wr.heap[b]?=some (.cells #[.pointer q',p,a,r,v] 96 (0,0))
theorem QX.dd(h:QX NS Q w K B DI eo W0 n σ W1 W)(hz:Lo σ.D W1.heap.size):∀b,σ.D b->W.heap[b]?=W1.heap[b]?:=λb hd=>h.cR b (hz b hd) (by
 cases hs:σ.S b with
 |none=>rfl
 |some s=>exact absurd hd (h.md.bs.th.rS b s hs))
theorem QX.fn(h:QX NS Q w K B DI eo W0 n σ W1 W)(hz:Lo σ.D W1.heap.size){m:Y}(hf:QV σ.S σ.D W1 base m p):QV σ.S σ.D W base m p:=by
 obtain⟨hk,b,pos,pk,sb,q,pa,re,I,U,h3,h4,h5,h6,h7⟩:=hf;obtain⟨q',h8⟩:=h.sig _ _ _ _ _ _ h6;exact⟨hk,b,pos,pk,sb,q',pa,re,I,U,(h.dd hz b U).trans h3,h4,h5,h8,h7.move λb hb=>⟨hb,h.dd hz b hb⟩⟩
theorem QX.row(h:QX NS Q w K B DI eo W0 n σ W1 W)(hr:dK B DI σ base W1 ty ps v):dK B DI σ base W ty ps v:=
 hr.cR λg hg=>h.cR g (aC hr.own g hg).2.1 (hr.loc g hg).1
theorem QX.set(h:QX NS Q w K B DI eo W0 n σ W1 W)(hb:Below W.heap.size W W2){s:Y}(hs:σ.S sb=some s)(hk:s.ld=7)(hz:W0.heap.size<=sb)(hh:W.heap[sb]?=some (.cells #[.pointer rc,.pointer none,pa,re,.bool s.va] 96 (0,0)))(j:kT sb #[.pointer rc',.pointer none,pa,re,.bool s.va] 96 W2 W'):QX NS Q w K B DI eo W0 n σ W1 W':=by
 have aM:=jQ2 hh;have U:=h.md.below hb;refine⟨U.Zh hs hk hz ((hb.block sb aM).trans hh) j,by have:=h.size;have:=hb.size;have:=j.size;omega,λb hl hn=>?_,λb q p a r v hv=>?_⟩
 .have hz:=h.size;exact(j.other b λe=>by rw[e,hs]at hn;cases hn).trans ((hb.block b M).trans (h.cR b hl hn))
 .obtain⟨q',hq⟩:=h.sig b q p a r v hv;by_cases e:b=sb
  .subst e;rw[hh]at hq;simp at hq;obtain⟨-,rfl,rfl,rfl,rfl⟩:=hq;exact⟨rc',j.here⟩
  .exact⟨q',(j.other b e).trans ((hb.block b (jQ2 hq)).trans hq)⟩
theorem uN(aL:W.ownsRow base 97 1 v ps.length ps)(eO:All2 (λm p=>sK S D W m.name m p) l ps)(hn:∀m∈l,wM m.name/\m.name.size<=9223372036854775807)(uu:(l.map (·.name)).Nodup)(cF:l.length<=1099511627776)(hD:∀g,v.ownBlock=some g->¬D g)(mY:Lo D W.heap.size)(ht:jE D W):
 Calls prog 109 #[v] W λe W'=>e=.returned (.tuple #[])/\(∃wO,W'.ownsRow base 97 1 v wO.length wO/\wO.length=ps.length/\All2 (λm p=>sK S D W' m.name m p) (ib l) wO)/\iN (λb=>v.ownBlock=some b) W W':=by
 have hlen:=eO.len;by_cases hl:l=[]
 .subst hl;have Ft:ps=[]:=by cases ps with
   |nil=>rfl
   |cons _ _=>simp at hlen
  subst Ft;have hv:∃a c,v=.slice a 0 c:=by
   rcases aL.2 with⟨rfl,h0⟩|⟨g',cap,cur,rfl,k1,k2,k3⟩
   .exact⟨_,_,rfl⟩
   .exact⟨_,_,rfl⟩
  obtain⟨a,c,rfl⟩:=hv;have hc:=Go.Proofs.AnyF.slices_SortFunc_none (P:=prog) (ρ:=sortF_ren) {sortF with} a c (.func (.func 148) #[] #[]) W
  change Calls prog 147 _ _ _ at hc
  go_in;go_wp2_with fail;refine hc.mono ?_;rintro e O ⟨rfl,rfl⟩;clear hc;go_wp2_with fail
  first
  |refine jRq (v:=.tuple #[]) (by simp[results,Tryz.results109,go_sem]) rfl ?_
  |refine jRc (results_none rfl _ _ _) rfl ?_
  refine⟨rfl,⟨[],aL,rfl,?_⟩,⟨rfl,rfl,rfl,jQ0 _,λ_ _ _=>rfl,λb hb cs t f hc=>?_⟩⟩
  .simp[ib,All2]
  .obtain⟨_,_,cur,k⟩:=aC aL b hb;rw[k]at hc;cases hc;exact⟨i5,i5⟩
 .rw[<-hlen]at aL;refine(yt aL eO hl hn uu cF hD mY ht).mono ?_;rintro e W' ⟨rfl,⟨wO,I,U⟩,h3⟩;have:=U.len;refine⟨rfl,⟨wO,by rw[<-this];exact I,?_,U⟩,h3⟩;rw[<-this,<-hlen];simp[ib]
