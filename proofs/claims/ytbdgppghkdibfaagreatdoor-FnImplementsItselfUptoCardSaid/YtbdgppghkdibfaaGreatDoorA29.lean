import Derived.Test.YtbdgppghkdibfaaGreatDoorRows
import Derived.ChangeArms
import Derived.OpenShut
import Derived.Test.YtbdgppghkdibfaaGreatDoorA28
set_option linter.all false
set_option maxHeartbeats 16000000
set_option maxRecDepth 20000
namespace Go.Proofs.YtbdgppghkdibfaaGreatDoor
open Go Go.RowKit Go.Lib S P Go.Proofs.Tryz
variable{aO σ:BS}{B:Bl}{con f:Bool}{t tt vt:Y}{Q:Y->Prop}{NS:List ByteArray}{cs rs:List Nat}{l:List Value}{w:List ah}{K b b2 bA bV c i k m md n nw o r sb z:Nat}{obj:Nat->Nat}{A D DI E E' E0 F:Qx}{a:Option Addr}{GT:Prop}{S:Sg}{hx β:Type}{e:TypeId}{tv u v vv vw:Value}{W W' W0 W1 W2 w2:World}
theorem M157(h:GT:=by
 intro hk;have I:(az w t).ld=10\/(az w t).ld=17:=by simpa[isIf]using hi
 rw[ru M M]at hk;omega):GT:=h
theorem M213(h:GT:=by
 have aM:=(jQg.1 ht).1;exact(Ko i (els[i]' M) t (jQp _) ht).1):GT:=h
theorem M72(h:GT:=by
 have iZ:cc=true:=by have:=HIMP.1;simpa[jc]using this
 subst iZ;have jG:=WG.1 _ _ _ _ Bj.1 HX.1;rw[HXC.1]at jG;go_wp2_with fail;refine jG.mono ?_;rintro e' w9 ⟨v9,rfl,rfl,JR,JS⟩;replace HX:=Z (HX.1.call JR JS);clear jG JR JS;go_wp2;go_ret;exact HX.1.ret rfl):GT:=h
def Y4(W:World)(v:Value)(con:Bool):World:=((W.alloc (.cells #[.pointer none] 73)).alloc (.cells #[v] 37)).alloc (.cells #[.bool con] 4)
theorem QC(W:World)(v:Value)(con:Bool):Below W.heap.size W (Y4 W v con)/\(Y4 W v con).cell? ⟨W.heap.size,0,none⟩=some (.pointer none)/\(Y4 W v con).cell? ⟨W.heap.size+1,0,none⟩=some v/\(Y4 W v con).cell? ⟨W.heap.size+2,0,none⟩=some (.bool con)/\(Y4 W v con).heap.size=W.heap.size+3:=by
 have I:=an W (.cells #[.pointer none] 73);have U:=an (W.alloc (.cells #[.pointer none] 73)) (.cells #[v] 37);have h3:=an ((W.alloc (.cells #[.pointer none] 73)).alloc (.cells #[v] 37)) (.cells #[.bool con] 4);have s1:(W.alloc (.cells #[.pointer none] 73)).heap.size=W.heap.size+1:=by show(W.heap.push _).size=W.heap.size+1;simp
 have s2:((W.alloc (.cells #[.pointer none] 73)).alloc (.cells #[v] 37)).heap.size=W.heap.size+2:=by show((W.heap.push _).push _).size=W.heap.size+2;simp
 have e1:=ak W (.cells #[.pointer none] 73);have e2:=ak (W.alloc (.cells #[.pointer none] 73)) (.cells #[v] 37);have e3:=ak ((W.alloc (.cells #[.pointer none] 73)).alloc (.cells #[v] 37)) (.cells #[.bool con] 4);rw[s1]at e2;rw[s2]at e3;rw[s1]at U;rw[s2]at h3;refine⟨I.trans ((U.mono M).trans (h3.mono M)),jQh ((h3.block _ M).trans ((U.block _ M).trans e1)),jQh ((h3.block _ M).trans e2),jQh e3,?_⟩;show(((W.heap.push _).push _).push _).size=W.heap.size+3;simp
def jc(x1 iv x2 x3 x4 x5 x6 cc:Bool):Bool:=if x1 then true else if iv&&x2 then true else if x3 then false else if !x4 then false else if x5 then cc else x6&&cc
theorem sd{F:Fs}{v:Y}(cP:isIf (az w t)=true):impl F w v t con=
 jc (!(F.ts (az w t)).comp&&isAllL (F.ts (az w t)).terms&&(F.ts (az w t)).lw.length==0) (isIf (az w v)) (aK (F.ts (az w v)).terms) (aK (F.ts (az w t)).terms) (eh F w v (F.ts (az w t)).lw) (isAllL (F.ts (az w t)).terms)
  (if isIf (az w v)then nJ F.id w (F.ts (az w v)).terms (F.ts (az w t)).terms else(F.ts (az w t)).terms.any λx=>CZ F.id w x v) (!lB F (F.ts (az w t))||F.cmp v false||(con&&F.cmp v true)):=by
 unfold impl jc;simp only[cP];cases isIf (az w v)<;>simp
def MmT(NS:List ByteArray)(Q:Y->Prop)(w:List ah)(rs:List Nat)(r:Nat)(m:Y):Prop:=m.ld=7/\isName m.name=true/\PT NS Q w 0 m/\2*J rs false false m+1<r
structure Im1(NS:List ByteArray)(Q:Y->Prop)(w:List ah)(S:Sg)(D:Qx)(obj:Nat->Nat)(rs:List Nat)(K r:Nat)(E:Qx)(W:World)(v u:Value)(vt tt:Y):Prop where
 ok:Ok w S D obj rs K E r W
 hv:dq S v vt
 pv:PT NS Q w 0 vt
 hu:dq S u tt
 pu:VT NS Q w tt
 Qb:isIf (az w tt)=true
 iu:Fb NS Q w (az w tt)
 rt:2*J rs false false (az w tt)<r
 mt:∀m∈((fs w K).ts (az w tt)).lw,MmT NS Q w rs r m
 ifv:isIf (az w vt)=true
 iv:Fb NS Q w (az w vt)/\2*J rs false false (az w vt)<r/\∀m∈((fs w K).ts (az w vt)).lw,MmT NS Q w rs r m
 rv:2*J rs true false vt+1<r
theorem Im1.go(h:Im1 NS Q w S D obj rs K r E W v u vt tt)(ho:Ok w S D obj rs K E' r W'):Im1 NS Q w S D obj rs K r E' W' v u vt tt:=
 ⟨ho,h.hv,h.pv,h.hu,h.pu,h.Qb,h.iu,h.rt,h.mt,h.ifv,h.iv,h.rv⟩
structure WJ(w:List ah)(S:Sg)(D:Qx)(obj:Nat->Nat)(rs:List Nat)(K:Nat)(E:Qx)(r:Nat)(W:World)(v:Value)(con:Bool)(W':World):Prop where
 ok:Ok w S D obj rs K E r W'
 fr:Fr S rs r W W'
 n0:S W.heap.size=none/\S (W.heap.size+1)=none/\S (W.heap.size+2)=none
 c5:W'.cell? ⟨W.heap.size,0,none⟩=some (.pointer none)
 c6:W'.cell? ⟨W.heap.size+1,0,none⟩=some v
 c8:W'.cell? ⟨W.heap.size+2,0,none⟩=some (.bool con)
theorem WJ.start(hE:Env NS Q w rs cs)(bD:Ok w S D obj rs K E r W):WJ w S D obj rs K E r W v con (Y4 W v con):=by
 obtain⟨I,U,h3,h4,h5⟩:=QC W v con;have hn:∀b,W.heap.size<=b->S b=none:=λb hb=>by
  cases hs:S b with
  |none=>rfl
  |some s=>have:=bD.gh.lI b s hs;omega
 exact⟨bD.below hE.hs I,Below.fr I,⟨hn _ M,hn _ M,hn _ M⟩,U,h3,h4⟩
theorem WJ.call(h:WJ w S D obj rs K E r W v con W1)(ho:Ok w S D obj rs K E r W2)(hf:Fr S rs r W1 W2):WJ w S D obj rs K E r W v con W2:=
 ⟨ho,h.fr.trans hf,h.n0,hf.cell h.n0.1 h.c5,hf.cell h.n0.2.1 h.c6,hf.cell h.n0.2.2 h.c8⟩
structure zp(w:List ah)(S:Sg)(D:Qx)(obj:Nat->Nat)(rs:List Nat)(K:Nat)(E:Qx)(r:Nat)(W:World)(v:Value)(con:Bool)(m b:Nat)(W':World):Prop extends WJ w S D obj rs K E r W v con W' where
 nm:S m=none
 mz:W.heap.size<=m
 sH:W'.cell? ⟨m,0,none⟩=some (ptr b)
theorem zp.start(hE:Env NS Q w rs cs)(h:WJ w S D obj rs K E r W v con W1):zp w S D obj rs K E r W v con W1.heap.size b2 (W1.alloc (.cells #[ptr b2] 33)):=by
 have hb:=an W1 (.cells #[ptr b2] 33);have hn:S W1.heap.size=none:=by
  cases hs:S W1.heap.size with
  |none=>rfl
  |some s=>have:=h.ok.gh.lI _ s hs;omega
 exact⟨h.call (h.ok.below hE.hs hb) (Below.fr hb),hn,h.fr.size,jQh (ak _ _)⟩
theorem zp.call(h:zp w S D obj rs K E r W v con m b2 W1)(ho:Ok w S D obj rs K E r W2)(hf:Fr S rs r W1 W2):zp w S D obj rs K E r W v con m b2 W2:=
 ⟨h.toWJ.call ho hf,h.nm,h.mz,hf.cell h.nm h.sH⟩
theorem zp.ret(h:zp w S D obj rs K E r W v con m b2 W1){x y:Bool}(H:x=y):aV w S D obj rs K E r W (λu _=>u=.bool y) (.returned (.bool x)) W1:=⟨_,rfl,by rw[H],h.ok,h.fr⟩
theorem UD(hE:Env NS Q w rs cs)(hC:dE NS Q w S D obj rs K r)(hT:dS NS Q w S D obj rs K r)(sX:r<=K)(A:Im1 NS Q w S D obj rs K r E0 W0 v u vt tt)(h:zp w S D obj rs K E' r W v con m b2 W1)(hs:S b2=some (aG (az w tt))):
 Calls prog 84 #[ptr m,ptr (W.heap.size+1),ptr (W.heap.size+2),ptr W.heap.size] W1 (aV w S D obj rs K E' r W1 λu _=>u=.bool (!lB (fs w K) ((fs w K).ts (az w tt))||(fs w K).cmp vt false||(con&&(fs w K).cmp vt true))):=
 QE hE hC hT sX h.ok hs A.iu A.rt A.hv A.pv A.rv h.sH h.c6 h.c8 h.c5 h.n0.2.1 h.n0.2.2 h.n0.1
theorem JJ(hE:Env NS Q w rs cs)(h:PT NS Q w 0 t):(una (az w t)).ld=1->0<=(una (az w t)).n:=by
 cases hi:isIf (az w t)with
 |true=>
  exact M157
 |false=>exact AE hE.qp (fE hE.wk hE.qp h hi)
theorem Ml(hi:isIf (az w t)=true):(una (az w t)).ld=1->0<=(una (az w t)).n:=M157
@[go_sem ↓] theorem asInterface_must0(v:Value)(x:TypeId)(w:World):(Instr.typeAssert (.iface 33 v) x 33 false).run prog w=.ok v w:=g9
theorem acB{l:List Y}{nm:ByteArray}{e:Ending}(h:(e=.returned (.tuple #[.int .i64 (-1),.pointer none])/\l.find? (λm=>aE m.name nm)=none)\/∃(i:Nat) (m:Y) (p:Value),e=.returned (.tuple #[.int .i64 i,p])/\sK S D W m.name m p/\l.find? (λm=>aE m.name nm)=some m)(hm:au D D w2 W):∃(ii:Int) (pp:Option Addr),e=.returned (.tuple #[.int .i64 ii,.pointer pp])/\
 ((pp=none/\l.find? (λm=>aE m.name nm)=none)\/∃m bf,pp=some ⟨bf,0,none⟩/\sK S D w2 m.name m (ptr bf)/\l.find? (λm=>aE m.name nm)=some m):=by
 rcases h with⟨rfl,I⟩|⟨i,m,p,rfl,I,U⟩
 .exact⟨-1,none,rfl,.inl ⟨rfl,I⟩⟩
 .obtain⟨b,pos,pk,v,rfl,hr⟩:=id I;exact⟨i,some ⟨b,0,none⟩,rfl,.inr ⟨m,b,rfl,I.move (λ_ _ h=>h) (λq hq=>⟨hq,(hm q hq).2.symm⟩),U⟩⟩
def okI(F:Fs)(l:List Y)(m:Y):Bool:=match l.find? (λf=>aE f.name m.name)with|some f=>F.id f m|none=>false
theorem Qy{F:Fs}{v:Y}(cP:isIf (az w v)=true)(l:List Y):eh F w v l=l.all (okI F (F.ts (az w v)).lw):=by
 unfold eh okI;simp only[cP,if_true]
 congr 1
theorem gd(hg:GH w S D obj W)(h:Fr S rs r W W')(hd:D b)(hc:W.cell? ⟨b,o,none⟩=some v):W'.cell? ⟨b,o,none⟩=some v:=
 (jQi (w:=W) (hg.eu h b hd).2).trans hc
theorem mmI_calls(hE:Env NS Q w rs cs)(hI:cO NS Q w S D obj rs K r)(hT:dS NS Q w S D obj rs K r)(h:Im1 NS Q w S D obj rs K r E W v u vt tt)(eO:eh (fs w K) w vt ((fs w K).ts (az w tt)).lw=true):
 Calls prog 128 #[.pointer none,v,u,.bool true,.func (.func 83) #[] #[],.pointer none] W λe W'=>e=.returned (.tuple #[.pointer none,.bool false])/\Ok w S D obj rs K E r W'/\Fr S rs r W W':=by
 have cP:=h.ifv;have ahS:=Z (show∀m∈((fs w K).ts (az w tt)).lw,okI (fs w K) ((fs w K).ts (az w vt)).lw m=true from λm hm=>by rw[Qy cP]at eO;exact List.all_eq_true.1 eO m hm);clear eO;have qN:=bj hE.qp h.ok.gh h.hu h.pu;obtain⟨T,f,b2,e2,⟨hm,pC⟩,jL⟩:=qN;subst e2;obtain⟨HUT,HE,HI,HT⟩:=Z4 jL hE hI hT;obtain⟨b0,rfl, -⟩:=id h.hv;have A:=Z h;generalize tid vt.ld=T0 at*;clear jL hE hI hT h;go_in;go_wp2_with fail;refine HUT.1.mono ?_;rintro e' w5 ⟨v3,rfl,⟨b3,rfl,eY⟩,gW⟩;replace gW:=gW.symm;subst gW;rw[jo A.1.Qb];have hcT:=bG HT.1 A.1.ok eY A.1.iu A.1.rt;clear eY;go_wp2_with fail;refine hcT.mono ?_;rintro e' w1 ⟨v6,rfl,⟨sb,rfl,fi⟩,mx,wG⟩;obtain⟨ms,tl,ps,ne1,ne2,ne3,hb,ne4,hr,ha,hl⟩:=id fi;obtain⟨a,c,rfl⟩:=hr.form;have hlen:=ha.len;have rO:=hr.max;have c1:w1.cell? ⟨sb,1,none⟩=some (.slice a ps.length c):=by simp[World.cell?,hb]
 obtain⟨Kp,pR,uq,HR,HA⟩:=Z5 fi mx wG hr ha;clear fi ne1 ne2 ne3 hb ne4 hr ha hl mx wG hcT;by_cases hz:ps.length=0
 .have j7:((ps.length:Int)==0)=true:=by simp[hz]
  clear hz;go_wp2_with fail
  go_ret2
  exact⟨rfl,pR.1,uq.1⟩
 .have j7:((ps.length:Int)==0)=false:=by simp[hz]
  have qN:=bj HE.1.qp pR.1.gh A.1.hv (.inl ⟨0,A.1.pv⟩);obtain⟨T,f,b2,e2,⟨hm,pC⟩,jL⟩:=qN;simp at e2;obtain⟨rfl,rfl⟩:=e2;have lx:=Z jL;have uH:=Z cP;clear jL cP hz;go_wp2_with fail;refine lx.1.mono ?_;rintro e' w5 ⟨v3,rfl,⟨b5,rfl,Q3⟩,gW⟩;replace gW:=gW.symm;subst gW;rw[jo uH.1];have Vd:=bG HT.1 pR.1 Q3 A.1.iv.1 A.1.iv.2.1;clear Q3 lx hm pC;go_wp2_with fail;refine Vd.mono ?_;rintro e' w2 ⟨v6,rfl,⟨sb2,rfl,ZU⟩,iG,j3⟩;obtain⟨CX,GR,Ve,HNV⟩:=Z4 ZU iG j3 (show∀m∈((fs w K).ts (az w vt)).lw,isName m.name=true from λm hm=>(A.1.iv.2.2 m hm).2.1);clear ZU iG j3 Vd c1;go_wp2_with fail
  go_loopg [46,15] ps.length (λgg s46 s15 wl=>∃kk:Nat,kk<=ps.length/\ps.length - kk<=gg/\s46=.int .i64 kk/\s15=.int .i64 0/\Aside (Ok w S D obj rs K E r wl)/\Aside (Fr S rs r w2 wl))
  case atStart=>exact⟨0,jQc _,M,rfl,rfl,GR.1,bZ.refl _⟩
  case round=>
   obtain⟨kk,ez,hg,rfl,rfl,HO,HF⟩:=hrel;by_cases aM:kk<ps.length
   .have aR:(kk:Int)<(ps.length:Int):=M
    obtain⟨m,kh⟩:∃m,((fs w K).ts (az w tt)).lw[kk]?=some m:=⟨((fs w K).ts (az w tt)).lw[kk]' M,by simp[show kk<((fs w K).ts (az w tt)).lw.length by omega]⟩;obtain⟨p,j,hv⟩:=HA.1.at kh;have HMT:=Z (A.1.mt m (jQ8 kh));have wS:=Z HMT.1.2.1;have FV:Fr S rs r w1 wr:=Ve.1.trans HF.out;obtain⟨b7,o7,rfl, -,Lf⟩:=(HR.1.move FV.frz).nth j;obtain⟨b9,pos,pk,v9,rfl,CR,sD,⟨q9,rfl,hq9⟩, -⟩:=hv.move (λ_ _ h=>h) (pR.1.gh.eu Ve.1);have d1:w2.cell? ⟨b9,1,none⟩=some (.pointer pk):=by simp[World.cell?,sD]
    have d2:w2.cell? ⟨b9,2,none⟩=some (.string m.name):=by simp[World.cell?,sD]
    have d3:w2.cell? ⟨b9,3,none⟩=some (.iface (tid m.ld) (ptr q9)):=by simp[World.cell?,sD]
    obtain⟨Vf,HD9,HQ9,HOKI,KI⟩:=Z5 d3 CR (show dq S (.iface (tid m.ld) (ptr q9)) m from⟨q9,rfl,hq9⟩) (ahS.1 m (jQ8 kh)) (show∀O,(Ok w S D obj rs K E r O/\Fr S rs r w2 O)->(Ok w S D obj rs K E r O/\Fr S rs r w2 O)/\O.cell? ⟨b9,1,none⟩=some (.pointer pk)/\O.cell? ⟨b9,2,none⟩=some (.string m.name)from λO h=>⟨h,gd GR.1.gh h.2 CR d1,gd GR.1.gh h.2 CR d2⟩);clear kh j hv FV sD d1 d2 d3 CR hq9;go_wp2_with fail;refine t8 KI ⟨HO.out.below HE.1.hs (jQ5 _ _).drew,HF.out.trans (Below.fr (jQ5 _ _).drew)⟩ λai=>?_;refine t4 0 1 2 3 ?_;refine t4 4 5 6 7 ?_;refine t2 8 9 ?_;refine t7 10 ?_;refine rd 11 rfl λK hK=>?_;go_simp;have hh:=ai.1;clear ai;refine(Gi (CX.1.move GR.1.gh hh.2) hh.1.gh.td wS.1 HNV.1).mono ?_;rintro eA wA ⟨hwA,hRA⟩;replace hwA:=hwA.symm;subst hwA;obtain⟨ii,pp,rfl,hpp⟩:=acB hRA (GR.1.gh.eu hh.2);have EY:=Z hpp;refine hK.out _ _ (KI.1 _ hh) (λai=>?_);clear hh hRA hpp;clear hK K;refine t4 12 13 14 15 ?_;refine jQl g9 ?_ _;have HH:=Z ai.1;clear ai;rcases EY.1 with⟨rfl,fp⟩|⟨m',bf,rfl,hfv,GS⟩
    .have ho:=HOKI.1;unfold okI at ho;rw[fp]at ho;cases ho
    .have bo:(fs w K).id m' m=true:=by
      have ho:=HOKI.1;unfold okI at ho;rw[GS]at ho;exact ho
     have eR:=A.1.iv.2.2 m' (List.mem_of_find?_eq_some GS);obtain⟨bf',pos',F0,v8,e8,Zq,Zr,⟨q8,rfl,Qz⟩, -⟩:=hfv;simp at e8;subst e8;have d3:w2.cell? ⟨bf,3,none⟩=some (.iface (tid m'.ld) (ptr q8)):=by simp[World.cell?,Zr]
     have pV:=Z (show∀O,Ok w S D obj rs K E r O->Calls prog 83 #[.iface (tid m'.ld) (ptr q8),.iface (tid m.ld) (ptr q9)] O (aV w S D obj rs K E r O λv _=>v=.bool ((fs w K).id m' m))from λO ho=>HI.1 E O _ _ m' m ho ⟨q8,rfl,Qz⟩ HQ9.1 eR.2.2.1 HMT.1.2.2.1 eR.2.2.2 HMT.1.2.2.2);have KH:=Z (show∀O,(Ok w S D obj rs K E r O/\Fr S rs r w2 O)->(Ok w S D obj rs K E r O/\Fr S rs r w2 O)/\O.cell? ⟨bf,3,none⟩=some (.iface (tid m'.ld) (ptr q8))/\O.cell? ⟨b9,3,none⟩=some (.iface (tid m.ld) (ptr q9))from λO h=>⟨h,gd GR.1.gh h.2 Zq d3,gd GR.1.gh h.2 HD9.1 Vf.1⟩);rw[bo]at pV;clear eR GS Zr Qz d3 Zq EY bo;go_wp2_with fail;refine t8 KH ⟨HH.1.1.below HE.1.hs (jQ5 _ _).drew,HH.1.2.trans (Below.fr (jQ5 _ _).drew)⟩ λai=>?_;refine t4 0 1 2 3 ?_;refine t4 4 5 6 7 ?_;refine t2 8 9 ?_;refine t7 10 ?_;refine rd 11 rfl λK hK=>?_;go_simp;have hh:=ai.1;clear ai;refine(pV.1 _ hh.1).mono ?_;rintro eA wA ⟨vA,rfl,rfl,g1,g2⟩;refine hK.out _ _ (KH.1 _ ⟨g1,hh.2.trans g2⟩) (λai=>?_);clear hh g1 g2;clear hK K;refine t7 12 ?_;refine jQl g9 ?_ _;have HJ:=Z ai.1;clear ai;go_wp2_with fail;go_roundg (ps.length - (kk+1))
     case measure=>omega
     case rel=>exact⟨kk+1,M,M,by go_num,rfl,HJ.1.1,HJ.1.2⟩
   .have aR:¬(kk:Int)<(ps.length:Int):=M
    go_wp2_with fail
    go_ret2
    exact⟨rfl,HO.out,uq.1.trans (Ve.1.trans HF.out)⟩
theorem hasAllI_calls(hE:Env NS Q w rs cs)(hI:cO NS Q w S D obj rs K r)(hT:dS NS Q w S D obj rs K r)(A:Im1 NS Q w S D obj rs K r E W v u vt tt)(eO:eh (fs w K) w vt ((fs w K).ts (az w tt)).lw=true):
 Calls prog 82 #[.pointer none,v,u,.bool true,.func (.func 83) #[] #[],.pointer none] W (aV w S D obj rs K E r W λv _=>v=.bool true):=by
 have ag:=mmI_calls hE hI hT A eO;have JM:=dy A.ok.gh A.hv (λhk=>(A0 (cJ hE.qp A.pv).1 hk).1);obtain⟨b0,rfl, -⟩:=id A.hv;obtain⟨b1,rfl, -⟩:=id A.hu;generalize tid vt.ld=T0 at*;generalize tid tt.ld=T1 at*;clear hE hI hT A eO;go_in;go_wp2_with fail;refine rv JM ?_;go_wp2_with fail;refine ag.mono ?_;rintro e' w1 ⟨rfl,bD,mW⟩;have HP:=Z (And.intro bD mW);clear ag bD mW;go_wp2;go_ret;exact⟨_,rfl,rfl,HP.1⟩
theorem implI_calls(hE:Env NS Q w rs cs)(hI:cO NS Q w S D obj rs K r)(hC:dE NS Q w S D obj rs K r)(hT:dS NS Q w S D obj rs K r)(sX:r<=K)(h:Im1 NS Q w S D obj rs K r E W v u vt tt)(himp:impl (fs w K) w vt tt con=true):
 Calls prog 35 #[.pointer none,v,u,.bool con,.pointer none] W (aV w S D obj rs K E r W λu _=>u=.bool true):=by
 have cP:=h.ifv;obtain⟨HE,HT,HI,A,HS⟩:=Z5 hE hT hI h (WJ.start (v:=v) (con:=con) hE h.ok);have hu1:=bj hE.qp HS.1.ok.gh h.hv (.inl ⟨0,h.pv⟩);have qq:=bj hE.qp HS.1.ok.gh h.hu h.pu;obtain⟨T1,f1,b1,e1,⟨jd,Fc⟩,Ch⟩:=hu1;obtain⟨T2,f2,b2,e2,⟨kS,Qi⟩,GG⟩:=qq;have Oh:=Z Ch;have Hz:=Z GG;subst e1;subst e2;have HMM:=Z (λ(E':Qx) W' (ho:Ok w S D obj rs K E' r W') (eO:eh (fs w K) w vt ((fs w K).ts (az w tt)).lw=true)=>hasAllI_calls hE hI hT (h.go ho) eO);have WG:=Z (λ(E':Qx) W1 m b (hs:S b=some (aG (az w tt))) (hi:zp w S D obj rs K E' r W (.iface T1 (ptr b1)) con m b W1)=>UD hE hC hT sX h hi hs);have CS:=Z (vh hE.wk hE.qp hE.te r K sX _ h.iu h.rt).nf;have Td:=Z (TL.imp (λa ha=>jH.mono (b':=r/2) (by have:=h.rt;omega) ha) ((eZ hE.wk hE.qp r K K sX sX).2 _ h.iu h.rt).terms);rw[sd h.Qb]at himp;simp only[cP,if_true]at himp;generalize dt:(!((fs w K).ts (az w tt)).comp&&isAllL ((fs w K).ts (az w tt)).terms&&((fs w K).ts (az w tt)).lw.length==0)=x1 at himp;generalize dF:aK ((fs w K).ts (az w vt)).terms=x2 at himp;generalize qm:aK ((fs w K).ts (az w tt)).terms=x3 at himp;generalize FT:eh (fs w K) w vt ((fs w K).ts (az w tt)).lw=x4 at himp;generalize hx5:isAllL ((fs w K).ts (az w tt)).terms=x5 at himp;generalize Y3:nJ (FF w K) w ((fs w K).ts (az w vt)).terms ((fs w K).ts (az w tt)).terms=x6 at himp;have HX6:=Z Y3;generalize Om:(!lB (fs w K) ((fs w K).ts (az w tt))||(fs w K).cmp vt false||(con&&(fs w K).cmp vt true))=cc at himp;obtain⟨oT,kp,tW,LQ,Kz,HXC,HIMP⟩:=Z7 dt dF qm FT hx5 Om himp;clear dt dF qm FT hx5 Y3 Om himp;have HNV:=Z (TL.imp (λa ha=>jH.mono (b':=r/2) (by have:=h.iv.2.1;omega) ha) ((eZ hE.wk hE.qp r K K sX sX).2 _ h.iv.1 h.iv.2.1).terms);have uH:=Z cP;clear Ch GG hI hC hT hE h;go_in;go_wp2_with fail;refine Oh.1.mono ?_;rintro e' w1 ⟨v1,rfl,dr,hw⟩;replace hw:=hw.symm;subst hw;have c5:=HS.1.c5;have c6:=HS.1.c6;generalize Y4 W (.iface T1 (ptr b1)) con=W1 at*;go_wp2_with fail;refine Hz.1.mono ?_;rintro e' w1 ⟨v2,rfl,fx,hw⟩;replace hw:=hw.symm;subst hw;have lk:=dy HS.1.ok.gh dr (JJ HE.1 A.1.pv);have fL:=dy HS.1.ok.gh fx (Ml A.1.Qb);obtain⟨b3,rfl,eY⟩:=dr;obtain⟨b4,rfl,nU⟩:=fx;rw[jo A.1.Qb]at fL⊢;obtain⟨C9,Bj,Kp⟩:=Z3 eY nU (λ(E':Qx) W' (ho:Ok w S D obj rs K E' r W')=>bG HT.1 ho nU A.1.iu A.1.rt);clear eY nU Oh Hz jd Fc kS Qi c5 c6;rw[jo uH.1]at lk⊢;have afm:=Z (λ(E':Qx) W' (ho:Ok w S D obj rs K E' r W')=>bG HT.1 ho C9.1 A.1.iv.1 A.1.iv.2.1);have fp:=λw=>aT 33 (ptr b3) 37 w i5;clear cP;go_wp2_with fail;refine rv lk ?_;go_wp2_with fail;refine rv fL ?_;clear lk fL;have HX:=Z (zp.start (b2:=b4) HE.1 HS.1);have uh:=ny HT.1 HX.1.ok Bj.1 A.1.iu A.1.rt;rw[oT.1]at uh;go_wp2_with fail;refine uh.mono ?_;rintro e' w2 ⟨v6,rfl,rfl,Cf,Cg⟩;replace HX:=Z (HX.1.call Cf Cg);clear uh Cf Cg fp;cases x1
 rotate_left
 .go_wp2;go_ret;exact HX.1.ret rfl
 .go_wp2_with fail;refine(afm.1 _ _ HX.1.ok).mono ?_;rintro e' w2 ⟨v6,rfl,⟨sb,rfl,fi⟩,iG,j3⟩;replace HX:=Z (HX.1.call iG j3);have CX:=Z fi;clear fi iG j3;have hc:=gL CX.1.jl;rw[kp.1]at hc;go_wp2_with fail;refine rv hc ?_;clear hc CX;cases x2
  rotate_left
  .go_wp2;go_ret;exact HX.1.ret rfl
  .cases x3
   rotate_left
   .exact absurd HIMP.1 (by simp[jc])
   .cases x4
    .exact absurd HIMP.1 (by simp[jc])
    .have sH:=HX.1.sH;go_wp2_with fail;refine(Kp.1 _ _ HX.1.ok).mono ?_;rintro e' w2 ⟨v6,rfl,⟨sb,rfl,fi⟩,iG,j3⟩;replace HX:=Z (HX.1.call iG j3);have CX:=Z fi;clear fi iG j3;clear sH;have hc:=gL CX.1.jl;rw[tW.1]at hc;go_wp2_with fail;refine rv hc ?_;clear hc;clear CX;have c5:=HX.1.c5;have c6:=HX.1.c6;have hc:=HMM.1 _ _ HX.1.ok LQ.1;go_wp2_with fail;refine hc.mono ?_;rintro e' w2 ⟨v6,rfl,rfl,Cf,Cg⟩;replace HX:=Z (HX.1.call Cf Cg);clear hc Cf Cg c5 c6;have sH:=HX.1.sH;go_wp2_with fail;refine(Kp.1 _ _ HX.1.ok).mono ?_;rintro e' w2 ⟨v6,rfl,⟨sb,rfl,fi⟩,iG,j3⟩;replace HX:=Z (HX.1.call iG j3);have CX:=Z fi;clear fi iG j3;clear sH;have hc:=iq CX.1.jl;rw[tW.1,Kz.1]at hc;go_wp2_with fail;refine rv hc ?_;clear hc;clear CX;cases x5
     rotate_left
     .exact M72
     .cases x6
      .exact absurd HIMP.1 (by simp[jc])
      .go_wp2_with fail;replace HX:=Z (HX.1.call (HX.1.ok.below HE.1.hs (jQ5 _ _).drew) (Below.fr (jQ5 _ _).drew));have afn:=HX.1.sH;refine jQ9 (S:=(λO=>O.cell? ⟨W1.heap.size,0,none⟩=some (ptr b4))) g9 (afn) (λai=>?_);refine t2 0 2 ?_;refine rd 1 rfl λK hK=>?_;go_simp;clear ai;refine(afm.1 _ _ HX.1.ok).mono ?_;rintro eA wA ⟨vA,rfl,⟨sbv,rfl,UE⟩,okA,Y5⟩;replace HX:=Z (HX.1.call okA Y5);have HVV:=Z UE;refine hK.out _ _ HX.1.sH (λai=>?_);clear UE okA Y5;clear hK K;refine rd 3 rfl λK hK=>?_;go_simp;clear ai;refine(Kp.1 _ _ HX.1.ok).mono ?_;rintro eA wA ⟨vA,rfl,⟨sbt,rfl,afo⟩,okA,Y5⟩;replace HVV:=Z (HVV.1.move HX.1.ok.gh Y5);replace HX:=Z (HX.1.call okA Y5);have HVT:=Z afo;refine hK.out _ _ HX.1.sH (λai=>?_);clear afo okA Y5;clear hK K;refine rd 4 rfl λK hK=>?_;go_simp;clear ai;have Qj:=JT HE.1 HI.1 (show 2*(r/2)<=r by omega) HX.1.ok HVV.1 HVT.1 HNV.1 Td.1;rw[HX6.1]at Qj;refine Qj.mono ?_;rintro eA wA ⟨vA,rfl,rfl,okA,Y5⟩;replace HX:=Z (HX.1.call okA Y5);refine hK.out _ _ HX.1.sH (λai=>?_);clear okA Y5 Qj;clear hK K;refine t7 5 ?_;refine jQl g9 ?_ _;clear ai afn;exact M72
section
variable{v:Y}
structure IE(NS:List ByteArray)(Q:Y->Prop)(w:List ah)(rs cs:List Nat)(K r:Nat):Prop where
 env:Env NS Q w rs cs
 fn:∀t,Q t->Q0 t
 br:∀(n:Nat) (d:ah),w[n]?=some d->isIf d.gt=true->d.lw=[]
 rK:r<=K
 K1:1<=K
 qr:∀t,PT NS Q w 0 t->t.ld=10->2*J rs false false t<r
 cr:2*J rs false false da<r
 er:2*J rs false false fC<r
 rr:∀n,2*rs.getD n 0+1<r
 w0:∀(hp:Nat) (d:ah),w[hp]?=some d->(1<=d.gt.ld/\d.gt.ld<=10/\d.gt.ld≠2)/\PT NS Q w 2 d.gt/\d.lw.length<=1099511627776/\(∀m∈d.lw,m.sig.ld=7/\isName m.name=true/\PT NS Q w 2 m.sig)/\(d.lw.map (·.name)).Nodup
 big:uns w+DY w<=1099511627776
 wl:w.length<=1099511627776
 ns:∀s∈NS,s.size<=9223372036854775807
structure WH(DI:Qx)(w:List ah)(a:Option Addr)(c:Nat)(W:World):Prop where
 rd:RD DI W w (.slice a w.length c)
 lt:∀b,DI b->b<W.heap.size
 td:jE (λb=>b=5) W
 pc:∃cs t f,W.heap[5]?=some (.cells cs t f)
theorem WH.mv(h:WH DI w a c W)(hb:Below W.heap.size W W'):WH DI w a c W':=by
 obtain⟨cs,t,f,hc⟩:=h.pc;exact⟨h.rd.move (λb dD=>⟨dD,hb.block b (h.lt b dD)⟩) hb.size hb.block,λb dD=>jQb (h.lt b dD) hb.size,h.td.move λb e=>⟨e,hb.block b (by subst e;exact jQ2 hc)⟩,cs,t,f,(hb.block _ (jQ2 hc)).trans hc⟩
theorem WH.rt(h:WH DI w a c W)(hb:Below W.heap.size W W')(hv:RT DI W t vv):RT DI W' t vv:=hv.move λb dD=>⟨dD,hb.block b (h.lt b dD)⟩
theorem WT(hq:QP NS Q){v:Bool}:PL nw NS Q A md v f fD:=
 .ifc i5 i5 i5 i6 i6 (by intro e he;simp at he) (by intro e he;simp at he) (by intro e he;simp at he) hq.any
theorem IE.jg(h:IE NS Q w rs cs K r):∀B N,dR NS Q w K B DI N:=λB N=>WU KK h.fn h.ns h.K1 (WT h.env.qp) N
theorem IE.said(h:IE NS Q w rs cs K r):∀S D obj,cO NS Q w S D obj rs K r/\dE NS Q w S D obj rs K r/\dS NS Q w S D obj rs K r:=λS D obj=>by
 obtain⟨I,U,h3⟩:=H0 (S:=S) (D:=D) (obj:=obj) h.env h.fn r h.rK;exact⟨zV h.env I,U,h3⟩
theorem IE.build(h:IE NS Q w rs cs K r)(hW:WH DI w a c W):Calls prog 10 #[.slice a w.length c] W (KL NS Q w K DI W):=
 Ia (λS D obj=>(h.said S D obj).2.2) (MP h.env.qp) h.er h.K1 hW.td hW.pc hW.rd h.wl hW.lt h.jg h.w0 h.big h.qr h.cr
structure LoB(z:Nat)(B:Bl)(σ:BS)(W:World):Prop where
 bb:z<=B.bb
 mv:∀g,σ.mv.ownBlock≠some g
 lo:∀b s,σ.S b=some s->z<=b
 sz:z<=W.heap.size
theorem LoB.of(h:LoB z B σ W)(hf:OfF B σ aO W W'):LoB z B aO W'/\Below z W W':=by
 refine⟨⟨h.bb,hf.MQ,λb s hs=>?_,jQd h.sz hf.size⟩,hf.os,hf.tape,hf.output,hf.size,λb hb=>?_⟩
 .rcases hf.uF b s hs with h'|h'
  .exact h.lo b s h'
  .have:=h.sz;omega
 .have hz:=h.sz;rcases hf.block b M (by have:=h.bb;omega) (h.mv b)with e|⟨s,ts,sh,k1, -⟩
  .exact e
  .have:=h.lo b s k1;omega
theorem zW(mY:∀b s,S b=some s->z<=b)(hz:z<=W.heap.size)(hf:Fr S rs r W W'):Below z W W':=by
 refine⟨hf.os,hf.tape,hf.output,hf.size,λb hb=>?_⟩;rcases hf.block b (M)with e|⟨s,ts,sh,k1, -⟩|⟨k, -⟩
 .exact e
 .have:=mY b s k1;omega
 .exact k.elim
theorem und_idem{x:Y}(cP:isIf x=true):az w x=x:=by
 have I:x.ld=10\/x.ld=17:=by simpa[isIf]using cP
 exact M186
theorem impl_und{F:Fs}{x y:Y}(cP:isIf (az w y)=true):impl F w x (az w y) con=impl F w x y con:=by
 unfold impl;rw[und_idem cP]
theorem im0_of(h:IE NS Q w rs cs K r)(cG:Bs NS Q w K B DI σ W)(hn:DZ w σ W obj)(hb:σ.S b=some (aG (az w t)))(hv:dq σ.S vv v)(pt:PT NS Q w 0 t)(pv:PT NS Q w 0 v)(cP:isIf (az w t)=true)(hiv:isIf (az w v)=true)(r1:2*J rs true false v+1<r)(r3:2*J rs true false t+1<r):
 Im1 NS Q w σ.S σ.D obj rs K r (CY B σ) W vv (.iface 33 (ptr b)) v (az w t):=by
 have hw:=h.env.wk;have hq:=h.env.qp;have CN:=und_idem (w:=w) cP;have ut:=(jh hw hq pt).2;have uv:=(jh hw hq pv).2;have it:=jO hw hq pt cP;have iv:=jO hw hq pv hiv;have hm:∀x,Fb NS Q w x->2*J rs false false x<r->∀m∈((fs w K).ts x).lw,MmT NS Q w rs r m:=λx hx hr m hm=>by
  obtain⟨q1,q2,q3,q4,q5⟩:=((eZ hw hq r K K h.rK h.rK).2 _ hx hr).lw m hm;exact⟨q1,q3,q4,by omega⟩
 refine⟨cG.ok hn rs r,hv,pv,⟨b,?_,hb⟩,?_,by rw[CN];exact cP,by rw[CN];exact it,by rw[CN];omega,by rw[CN];exact hm _ it (by omega),hiv,⟨iv,by omega,hm _ iv (by omega)⟩,r1⟩
 .have:(az w t).ld=10\/(az w t).ld=17:=by simpa[isIf]using cP
  rcases this with e|e<;>(rw[e];rfl)
 .rcases it with ⟨k, -⟩|k
  .exact .inl ⟨0,k⟩
  .exact .inr k
theorem Impl1_calls(hE:Env NS Q w rs cs)(hI:cO NS Q w S D obj rs K r)(hC:dE NS Q w S D obj rs K r)(hT:dS NS Q w S D obj rs K r)(sX:r<=K)(hb:S b=some (aG tt))(WA:isIf tt=true)(h:Im1 NS Q w S D obj rs K r E W vw (.iface 33 (ptr b)) vt tt)(himp:impl (fs w K) w vt tt false=true):
 Calls prog 12 #[vw,ptr b] W (aV w S D obj rs K E r W λu _=>u=.bool true):=by
 have CN:=und_idem (w:=w) WA;have uh:=ny hT h.ok hb (by have:=h.iu;rw[CN]at this;exact this) (by have:=h.rt;rw[CN]at this;exact this);obtain⟨WG,HE,A⟩:=Z3 (λW' (ho:Ok w S D obj rs K E r W')=>implI_calls (con:=false) hE hI hC hT sX (h.go ho) himp) hE h;obtain⟨bv,rfl, -⟩:=id h.hv;generalize(!((fs w K).ts tt).comp&&isAllL ((fs w K).ts tt).terms&&((fs w K).ts tt).lw.length==0)=x1 at uh;clear hI hC hT h hE hb CN himp;go_in;go_wp2_with fail;refine uh.mono ?_;rintro e' w2 ⟨v6,rfl,rfl,Cf,Cg⟩;have sr:=Z Cf;have rR:=Z Cg;clear uh Cf Cg;cases x1
 rotate_left
 .have HP:=Z (show aV w S D obj rs K E r W (λu _=>u=.bool true) (.returned (.bool true)) w2 from⟨_,rfl,rfl,sr.1,rR.1⟩);exact M21
 .have hu:=bj HE.1.qp sr.1.gh A.1.hv (.inl ⟨0,A.1.pv⟩);obtain⟨T1,f1,b1,e1,⟨jd,Fc⟩,Ch⟩:=hu;simp at e1;obtain⟨rfl,rfl⟩:=e1;have Oh:=Z Ch;clear Ch;go_wp2_with fail;refine Oh.1.mono ?_;rintro e' w1 ⟨v1,rfl,dr,hw⟩;replace hw:=hw.symm;subst hw;have lk:=dy sr.1.gh dr (JJ HE.1 A.1.pv);obtain⟨b3,rfl, -⟩:=dr;clear jd Fc Oh;go_wp2_with fail;refine rv lk ?_;clear lk;have fL:=WG.1 _ sr.1;go_wp2_with fail;refine fL.mono ?_;rintro e' w3 ⟨v6,rfl,rfl,ok3,fr3⟩;have HP:=Z (show aV w S D obj rs K E r W (λu _=>u=.bool true) (.returned (.bool true)) w3 from⟨_,rfl,rfl,ok3,rR.1.trans fr3⟩);clear fL ok3 fr3;exact M21
theorem wW(h:IE NS Q w rs cs K r)(hW:WH DI w a c W)(hv:RT DI W v vv)(ht:RT DI W t tv)(pv:PT NS Q w 0 v)(pt:PT NS Q w 0 t)(cP:isIf (az w t)=true)(hiv:isIf (az w v)=true)(himp:impl (fs w K) w v t false=true)(r1:2*J rs true false v+1<r)(r3:2*J rs true false t+1<r)(nv:nds v<=1099511627776)(nt:nds t<=1099511627776):
 Calls prog 7 #[.slice a w.length c,vv,tv] W λe W'=>e=.returned (.bool true)/\Below W.heap.size W W':=by
 have qj:=hv;have WW:=ht;obtain⟨av,cv,rfl, -⟩:=hv.bR;obtain⟨ae,ct,rfl, -⟩:=ht.bR;have cX:=dT W (bx v av cv) (bx t ae ct);have sj:=hW.mv cX;have zX:=h.build sj;have dt:((W.alloc (bx v av cv)).alloc (bx t ae ct)).heap[W.heap.size]?=some (bx v av cv):=aq (ak W (bx v av cv));have dF:((W.alloc (bx v av cv)).alloc (bx t ae ct)).heap[W.heap.size+1]?=some (bx t ae ct):=by rw[<-jQ3 W (bx v av cv)];exact ak _ _
 have fx:=hW.rt cX qj;have MR:=hW.rt cX WW;obtain⟨hx,dP,wX,oT,kp,QU,Hk,ZE⟩:=Z8 h cX sj dt dF fx MR pv;obtain⟨nX,uH,HIV,HIMP,HR,RA⟩:=Z6 pt cP hiv ((impl_und (F:=fs w K) (x:=v) (con:=false) cP).trans himp) (And.intro r1 r3) (And.intro nv nt);clear h hW hv ht qj WW cX sj dt dF fx MR pv pt cP hiv himp r1 r3 nv nt;go_in;go_wp2_with fail;refine zX.mono ?_;clear zX;rintro e1 W3 ⟨B,σ,obj,rfl,cG,hn,gP,ji,mO,eR,mY⟩;generalize(W.alloc (bx v av cv)).alloc (bx t ae ct)=W2 at dP wX oT kp QU Hk ji mO mY;have WX:=Z (⟨mO,eR,mY,ji.size⟩:LoB W2.heap.size B σ W3);have Ib:=Z ji;have Ic:=zY hx.1.env.wk hx.1.env.qp (hx.1.jg B) (λS D=>(hx.1.said S D obj).2.2) hx.1.env.hs hx.1.qr hx.1.cr cG hn nX.1 (wX.1.rt ji Hk.1) (by rw[gP];simpa using RA.1.2);obtain⟨y0,y1,y2,y3,y4,y5,y6⟩:=ao ((ji.block _ (jQ2 kp.1)).trans kp.1);clear cG hn gP ji mO eR mY;go_wp2_with fail;refine Ic.mono ?_;clear Ic y0 y1 y2 y3 y4 y5 y6;rintro e2 W4 ⟨u,Ie,rfl,hu,RB,CH,RF,hof⟩;obtain⟨-,b,rfl,rN⟩:=hu.resolve_right (λk=>by have:=k.1;rw[uH.1]at this;cases this);obtain⟨Ig,Ih⟩:=WX.1.of hof;have uI:=Ib.1.trans Ih;obtain⟨HL4,aa1,wL⟩:=Z3 Ig uI rN;have RG:=uJ (hx.1.jg B) (λS D=>(hx.1.said S D obj).2.2) hx.1.env.hs hx.1.qr hx.1.cr RB CH (ZE.1.eS (jQ0 _) (λ_ h=>h) M id id) (wX.1.rt uI QU.1) (by rw[RF];simpa using RA.1.1);obtain⟨y0,y1,y2,y3,y4,y5,y6⟩:=ao ((uI.block _ (jQ2 oT.1)).trans oT.1);clear hu RB CH RF hof Ig Ih uI rN Ib WX;go_wp2_with fail;refine RG.mono ?_;clear RG y0 y1 y2 y3 y4 y5 y6;rintro e3 W5 ⟨u2,fT,rfl,qq,Ii,iK,yT,zZ⟩;obtain⟨yh,yi⟩:=HL4.1.of zZ;obtain⟨b3,rfl, -⟩:=id qq;have RH:=im0_of hx.1 Ii iK (zZ.sle _ _ wL.1) qq nX.1 ZE.1 uH.1 HIV.1 HR.1.1 HR.1.2;have zv:=hx.1.said fT.S fT.D obj;have WY:=Impl1_calls hx.1.env zv.1 zv.2.1 zv.2.2 hx.1.rK (zZ.sle _ _ wL.1) uH.1 RH HIMP.1;have ZF:=Z yh;have OJ:=Z (aa1.1.trans yi);clear qq Ii iK yT zZ yh yi RH zv;go_wp2_with fail;refine WY.mono ?_;clear WY;rintro e4 W6 ⟨v6,rfl,rfl, -,Ij⟩;have HP:=Z (show Below W.heap.size W W6 from dP.1.trans ((OJ.1.trans (zW ZF.1.lo ZF.1.sz Ij)).mono dP.1.size));clear Ij;go_wp2;go_ret;exact⟨rfl,HP.1⟩
end
section
variable{enc:TypeId×Value->hx}{t:TypeId}{x:DataW hx×List MemPlace}{c:Value}{cs:List Value}
noncomputable abbrev Xt(enc:TypeId×Value->hx)(W:World)(n:Nat)(t:TypeId)(cs:List Value):Option (DataW hx×List MemPlace):=DataW.trod enc prog W 0 (λ_=>true) true n t cs
abbrev Old(W:World):Nat->Prop:=λb=>b<W.heap.size
theorem uY{l:List (DataW hx×List MemPlace)}{y:DataW hx×List MemPlace}(h:l[i]?=some y):Rows.uptoBulk y.1<=Rows.uptoBulkAll (l.map (·.1)):=by
 induction l generalizing i with
 |nil=>simp at h
 |cons a l ih=>
  simp only[List.map_cons,Rows.uptoBulkAll];cases i with
  |zero=>simp at h;subst h;omega
  |succ i=>have:=ih (i:=i) (by simpa using h);omega
theorem FB(ht:Tryz.prog.underlying t=some (.slice e))(hk:Tryz.prog.cellsOf e=k)(agQ:0<k)(h:Xt enc W n t [c]=some x):
 ∃(a:Option Addr) (cap m:Nat) (els:List (DataW hx×List MemPlace)),m<n/\c=.slice a els.length cap/\els.length<=cap/\cap<=9223372036854775807/\(a=none->cap=0)/\Rows.uptoBulkAll (els.map (·.1))<=Rows.uptoBulk x.1/\
  (els≠[]->∃b o,a=some ⟨b,o,none⟩/\b<W.heap.size/\∀i y,els[i]?=some y->∃cs,Xt enc W m e cs=some y/\cs.length=k/\∀hp u,cs[hp]?=some u->W.cell? ⟨b,o+i*k+hp,none⟩=some u):=by
 rcases DataW.trod_slice ht h with⟨I,rfl⟩|⟨a,len,cap,els,rest,m,rfl,I,rfl, -,U,h3,h4,h5, -, -⟩
 .simp at I;subst I;refine⟨none,0,0,[],?_,rfl,jQ0 _,M,λ_=>rfl,by simp[Rows.uptoBulkAll],λh=>absurd rfl h⟩;cases n with
  |zero=>simp[Xt,DataW.trod]at h
  |succ n=>omega
 .simp at I;subst I;refine⟨some a,cap,m,els,M,by rw[h4],M,by simpa[maxLen]using h3,λe=>(by cases e),by simp only[Rows.uptoBulk];omega,λbk=>?_⟩;have hl:0<len:=by
   rw[<-h4];exact List.length_pos_iff.2 bk
  have jz:∀i y,els[i]?=some y->∃cs,W.cells? 0 (a.add (i*k)) k=some cs/\Xt enc W m e cs=some y:=λi y hy=>by
   have hi:i<len:=by rw[<-h4];exact(jQg.1 hy).1
   have:=h5 i hi;rw[hy,hk]at this;exact jQ1.1 this
  obtain⟨y0,hy0⟩:∃y,els[0]?=some y:=⟨els[0]' M,jQp _⟩;obtain⟨cs0,c0, -⟩:=jz 0 y0 hy0;obtain⟨b,o,sp⟩:=a;obtain⟨-,l0,g0⟩:=World.cells?_some c0;obtain⟨u0,hu0⟩:∃u,cs0[0]?=some u:=⟨cs0[0]' M,jQp _⟩;have g00:=g0 0 agQ;rw[hu0]at g00;have hsp:sp=none:=by simpa[Addr.add]using World.cell?_spot g00
  subst hsp;rw[Nat.zero_mul,Go.WideShapes.add_plain,Go.WideShapes.add_plain]at g00;refine⟨b,o,rfl,jQs g00,λi y hy=>?_⟩;obtain⟨cs,hc,hr⟩:=jz i y hy;obtain⟨-,Kn,hg⟩:=World.cells?_some hc;refine⟨cs,hr,Kn,λhp u hu=>?_⟩;have hj:=(jQg.1 hu).1;have:=hg hp M;rw[Go.WideShapes.add_plain,Go.WideShapes.add_plain,hu]at this;exact this
theorem zD{α β:Type}{R:Nat->α->β->Prop}:∀(l:List α) (s:Nat),(∀i x,l[i]?=some x->∃y,R (s+i) x y)->∃ys:List β,ys.length=l.length/\∀i x y,l[i]?=some x->ys[i]?=some y->R (s+i) x y
 |[],s,_=>⟨[],rfl,λi x y h=>by simp at h⟩
 |a::l,s,h=>by
  obtain⟨y,hy⟩:=h 0 a rfl;obtain⟨ys,I,U⟩:=zD (R:=R) l (s+1) λi x H=>by have:=h (i+1) x (by simpa using H);rwa[show s+(i+1)=s+1+i by omega]at this
  refine⟨y::ys,by simp[I],λi x y' H hy'=>?_⟩;cases i with
  |zero=>simp at H hy';subst H;subst hy';exact hy
  |succ i=>have:=U i x y' (by simpa using H) (by simpa using hy');rwa[show s+1+i=s+(i+1)by omega]at this
theorem ZQ{D:Qx}{b:Nat}:∀{l:List Y} {o:Nat},(∀i t,l[i]?=some t->RE D W t b (o+i*7))->RC D W l b o
 |[],o,_=>by rw[RC];trivial
 |t::l,o,h=>by
  rw[RC];exact⟨by simpa using h 0 t rfl,ZQ λi t' ht=>by have:=h (i+1) t' (by simpa using ht);rwa[show o+(i+1)*7=o+7+i*7 by omega]at this⟩
theorem Sj{D:Qx}{b:Nat}:∀{l:List aH} {o:Nat},(∀i m,l[i]?=some m->W.cell? ⟨b,o+i*9,none⟩=some (.string m.name)/\W.cell? ⟨b,o+i*9+1,none⟩=some (.bool m.ptr)/\RE D W m.sig b (o+i*9+2))->RMC D W l b o
 |[],o,_=>trivial
 |t::l,o,h=>⟨by simpa using h 0 t rfl,Sj λi t' ht=>by have:=h (i+1) t' (by simpa using ht);rwa[show o+(i+1)*9=o+9+i*9 by omega]at this⟩
theorem Sk{D:Qx}{b:Nat}:∀{l:List ah} {o:Nat},(∀i d,l[i]?=some d->RE D W d.gt b (o+i*8)/\∃ms,W.cell? ⟨b,o+i*8+7,none⟩=some ms/\RM D W d.lw ms)->RDC D W l b o
 |[],o,_=>trivial
 |t::l,o,h=>⟨by simpa using h 0 t rfl,Sk λi t' ht=>by have:=h (i+1) t' (by simpa using ht);rwa[show o+(i+1)*8=o+8+i*8 by omega]at this⟩
def Is7(W:World)(t:Y)(cs:List Value):Prop:=∃sl,cs=[.int .i64 t.ld,.int .i64 t.n,.int .i64 t.m,.bool t.va,.string t.name,.string t.gc,sl]/\RS (Old W) W t.li sl
theorem Lb{t:Y}{cs:List Value}(h:Is7 W t cs)(hc:∀hp u,cs[hp]?=some u->W.cell? ⟨b,o+hp,none⟩=some u):RE (Old W) W t b o:=by
 obtain⟨sl,rfl,hs⟩:=h;obtain⟨k,n,m,va,nm,tg,l⟩:=t;exact pW.2 ⟨sl,hc 0 _ rfl,hc 1 _ rfl,hc 2 _ rfl,hc 3 _ rfl,hc 4 _ rfl,hc 5 _ rfl,hc 6 _ rfl,hs⟩
theorem Sm{t:Y}{cs:List Value}(h:Is7 W t cs):RT (Old W) W t (.agg cs.toArray):=by
 obtain⟨sl,rfl,hs⟩:=h;exact RT.mk' hs
def NZ(t:Y):Prop:=∀x∈ei t,x.size<=9223372036854775807
theorem FC{β:Type}{f:β->Nat}{F:List β->Nat}(hn:F []=0)(hc:∀y l,F (y::l)=f y+F l):∀{els:List (DataW hx×List MemPlace)} {ys:List β},ys.length=els.length->(∀(i:Nat) (x:DataW hx×List MemPlace) (y:β),els[i]?=some x->ys[i]?=some y->f y<=Rows.uptoBulk x.1)->F ys<=Rows.uptoBulkAll (els.map (·.1))
 |[],[],_,_=>by rw[hn];omega
 |[],_::_,h,_=>by simp at h
 |_::_,[],h,_=>by simp at h
 |x::els,y::ys,hl,h=>by
  have I:=FC hn hc (els:=els) (ys:=ys) (by simpa using hl) λi x' y' H hy=>h (i+1) x' y' (by simpa using H) (by simpa using hy);have U:=h 0 x y rfl rfl;rw[hc,List.map_cons];simp only[Rows.uptoBulkAll];omega
theorem FD{P:β->Prop}{els:List (DataW hx×List MemPlace)}{ys:List β}(hl:ys.length=els.length)(h:∀(i:Nat) (x:DataW hx×List MemPlace) (y:β),els[i]?=some x->ys[i]?=some y->P y):∀y∈ys,P y:=by
 intro y hy;obtain⟨i,hi⟩:=List.getElem?_of_mem hy;have aM:=(jQg.1 hi).1;exact h i (els[i]' M) y (jQp _) hi
theorem Eb:∀{l:List Y} {z:ByteArray},z∈fF l->∃t∈l,z∈ei t
 |t::l,z,h=>by
  rw[fF]at h;rcases jQm.1 h with h|h
  .exact⟨t,i6,h⟩
  .obtain⟨t',I,U⟩:=Eb h;exact⟨t',by simp[I],U⟩
theorem l7(h:l.length=7):∃c0 c1 c2 c3 c4 c5 c6,l=[c0,c1,c2,c3,c4,c5,c6]:=by
 match l,h with
 |[a,b,c,d,e,f,g],_=>exact⟨a,b,c,d,e,f,g,rfl⟩
theorem l8(h:l.length=8):∃c0 c1 c2 c3 c4 c5 c6 c7,l=[c0,c1,c2,c3,c4,c5,c6,c7]:=by
 match l,h with
 |[a,b,c,d,e,f,g,i],_=>exact⟨a,b,c,d,e,f,g,i,rfl⟩
theorem l9(h:l.length=9):∃c0 c1 c7,l=c0::c1::c7/\c7.length=7:=by
 match l,h with
 |a::b::c,h=>exact⟨a,b,c,rfl,by simpa using h⟩
theorem adO:Tryz.prog.cellsOf 3=1:=g9
theorem Sn:Tryz.prog.cellsOf 4=1:=g9
theorem ZR:Tryz.prog.cellsOf 9=1:=g9
theorem Xu:Tryz.prog.cellsOf 25=7:=g9
theorem adP:Tryz.prog.cellsOf 23=1:=g9
theorem adQ:Tryz.prog.cellsOf 68=9:=g9
theorem adR:Tryz.prog.cellsOf 39=1:=g9
theorem adS:Tryz.prog.cellsOf 41=8:=g9
theorem zE:∀(n:Nat) (cs:List Value) (x:DataW hx×List MemPlace),Xt enc W n 25 cs=some x->∃t,Is7 W t cs/\(ei t).length<=Rows.uptoBulk x.1/\NZ t/\t.name.size<=Rows.uptoBulk x.1/\t.gc.size<=Rows.uptoBulk x.1:=by
 intro n
 induction n using Nat.strongRecOn with
 |ind n ih=>
  intro cs x h;obtain⟨xs,m,rfl,rfl,hl,hxl,hf⟩:=DataW.trod_struct underlying25 h;rw[Xu]at hl;have H:∀i,i<7->∃y,xs[i]?=some y:=λi hi=>⟨xs[i]'(by rw[hxl];exact hi),i6⟩;obtain⟨c0,c1,c2,c3,c4,c5,c6,rfl⟩:=l7 hl;obtain⟨y0,e0⟩:=H 0 M;obtain⟨y1,e1⟩:=H 1 M;obtain⟨y2,e2⟩:=H 2 M;obtain⟨y3,e3⟩:=H 3 M;obtain⟨y4,e4⟩:=H 4 M;obtain⟨y5,e5⟩:=H 5 M;obtain⟨y6,e6⟩:=H 6 M;have g0:=hf 0 _ rfl;have g1:=hf 1 _ rfl;have g2:=hf 2 _ rfl;have g3:=hf 3 _ rfl;have g4:=hf 4 _ rfl;have g5:=hf 5 _ rfl;have g6:=hf 6 _ rfl;clear hf H;simp only[List.getElem_toArray,List.getElem_cons_zero,List.getElem_cons_succ,adO,Sn,ZR,adP,e0,e1,e2,e3,e4,e5,e6,List.drop_succ_cons,jR0,jR5,List.take_zero]at g0 g1 g2 g3 g4 g5 g6;obtain⟨k0,q0, -, -⟩:=DataW.trod_int underlying3 g0;obtain⟨k1,q1, -, -⟩:=DataW.trod_int underlying3 g1;obtain⟨k2,q2, -, -⟩:=DataW.trod_int underlying3 g2;obtain⟨b3,q3, -⟩:=DataW.trod_bool underlying4 g3;obtain⟨s4,q4,u4,z4⟩:=DataW.trod_string underlying9 g4;obtain⟨s5,q5,u5, -⟩:=DataW.trod_string underlying9 g5;simp only[List.cons.injEq,and_true]at q0 q1 q2 q3 q4 q5;subst q0 q1 q2 q3 q4 q5;obtain⟨a,cap,m',els,j9,rfl,hle,uZ,jF,Ec,Sp⟩:=FB underlying23 Xu M g6;have gS:=uY e6;have dI:=uY e4;have iD:=uY e5;rw[u4]at dI;rw[u5]at iD;simp only[Rows.uptoBulk,Array.length_toList]at dI iD;have nU:s4.size=s4.data.size:=rfl;have Q3:s5.size=s5.data.size:=rfl;have hz4:s4.size<=9223372036854775807:=by simpa[maxLen]using z4
  by_cases he:els=[]
  .subst he;refine⟨.mk k0 k1 k2 b3 s4 s5 [],⟨_,rfl,ia.2 ⟨a,cap,rfl,jF⟩⟩,by rw[ei,fF];simp only[Rows.uptoBulk];simp,λz hz=>?_,by simp only[Rows.uptoBulk,Y.name];omega,by simp only[Rows.uptoBulk,Y.gc];omega⟩;rw[ei,fF]at hz;simp at hz;rw[hz];exact hz4
  .obtain⟨b,o,rfl,hb,jz⟩:=Sp he;obtain⟨ys,FE,Ko⟩:=zD (R:=λi (y:DataW hx×List MemPlace) (t:Y)=>RE (Old W) W t b (o+i*7)/\(ei t).length<=Rows.uptoBulk y.1/\NZ t) els 0 λi y hy=>by
    obtain⟨cs,hr, -,hc⟩:=jz i y hy;obtain⟨t,I,U,h3, -, -⟩:=ih m' M cs y hr;exact⟨t,by rw[jRd];exact Lb I hc,U,h3⟩
   simp only[jRd]at Ko;have hs:=FC (F:=λl=>(fF l).length) (f:=λt=>(ei t).length) (by simp[fF]) (λy l=>by simp[fF]) FE λi x y I U=>(Ko i x y I U).2.1;have hz:=FD FE λi x y I U=>(Ko i x y I U).2.2;have Hl:=ZQ λi t ht=>by
    have aM:=(jQg.1 ht).1;exact(Ko i (els[i]' M) t (jQp _) ht).1
   refine⟨.mk k0 k1 k2 b3 s4 s5 ys,⟨_,rfl,?_⟩,?_,λz Xv=>?_,by simp only[Rows.uptoBulk,Y.name];omega,by simp only[Rows.uptoBulk,Y.gc];omega⟩
   .cases ys with
    |nil=>exact absurd (jQe (by simpa using FE.symm)) he
    |cons t l=>
     rw[RC]at Hl;simp only[List.length_cons]at FE;exact gQ.2 ⟨b,o,cap,by rw[<-FE],M,uZ,hb,Hl.1,Hl.2⟩
   .rw[ei];simp only[List.length_cons,Rows.uptoBulk];omega
   .rw[ei]at Xv;rcases jQn.1 Xv with rfl|Xv
    .exact hz4
    .obtain⟨t,I,U⟩:=Eb Xv;exact hz t I z U
theorem Xw(n:Nat)(cs:List Value)(x:DataW hx×List MemPlace)(h:Xt enc W n 68 cs=some x):∃(m:aH) (c7:List Value),cs=.string m.name::.bool m.ptr::c7/\Is7 W m.sig c7/\1+(ei m.sig).length<=Rows.uptoBulk x.1/\NZ m.sig/\m.name.size<=9223372036854775807:=by
 obtain⟨xs,m,rfl,rfl,hl,hxl,hf⟩:=DataW.trod_struct underlying68 h;rw[adQ]at hl;have H:∀i,i<3->∃y,xs[i]?=some y:=λi hi=>⟨xs[i]'(by rw[hxl];exact hi),i6⟩;obtain⟨c0,c1,c7,rfl,hl7⟩:=l9 hl;obtain⟨y0,e0⟩:=H 0 M;obtain⟨y1,e1⟩:=H 1 M;obtain⟨y2,e2⟩:=H 2 M;have g0:=hf 0 _ rfl;have g1:=hf 1 _ rfl;have g2:=hf 2 _ rfl;clear hf H;simp only[List.getElem_toArray,List.getElem_cons_zero,List.getElem_cons_succ,Sn,ZR,Xu,e0,e1,e2,List.drop_succ_cons,jR0,jR5,List.take_zero]at g0 g1 g2;rw[jR6 M]at g2;obtain⟨s0,q0, -,z0⟩:=DataW.trod_string underlying9 g0;obtain⟨b1,q1, -⟩:=DataW.trod_bool underlying4 g1;simp only[List.cons.injEq,and_true]at q0 q1;subst q0 q1;obtain⟨t,I,U,h3, -, -⟩:=zE m c7 y2 g2;have hb:=uY e2;exact⟨⟨s0,b1,t⟩,c7,rfl,I,by simp only[Rows.uptoBulk];omega,h3,by simpa[maxLen]using z0⟩
theorem Xx(n:Nat)(c:Value)(x:DataW hx×List MemPlace)(h:Xt enc W n 39 [c]=some x):∃l:List aH,RM (Old W) W l c/\msz l<=Rows.uptoBulk x.1/\∀m∈l,NZ m.sig/\m.name.size<=9223372036854775807:=by
 obtain⟨a,cap,m',els,j9,rfl,hle,uZ,jF,Ec,Sp⟩:=FB underlying39 adQ M h;by_cases he:els=[]
 .subst he;exact⟨[],.inl ⟨rfl,a,cap,rfl,jF⟩,by simp[msz],i6⟩
 .obtain⟨b,o,rfl,hb,jz⟩:=Sp he;obtain⟨ys,FE,Ko⟩:=zD (R:=λi (y:DataW hx×List MemPlace) (m:aH)=>(W.cell? ⟨b,o+i*9,none⟩=some (.string m.name)/\W.cell? ⟨b,o+i*9+1,none⟩=some (.bool m.ptr)/\RE (Old W) W m.sig b (o+i*9+2))/\1+(ei m.sig).length<=Rows.uptoBulk y.1/\NZ m.sig/\m.name.size<=9223372036854775807) els 0 λi y hy=>by
   obtain⟨cs,hr, -,hc⟩:=jz i y hy;obtain⟨m,c7,rfl,I,U,h3,h4⟩:=Xw m' cs y hr;exact⟨m,by rw[jRd];exact⟨hc 0 _ rfl,hc 1 _ rfl,Lb I λhp u hu=>by have:=hc (hp+2) u (by simpa using hu);rwa[show o+i*9+(hp+2)=o+i*9+2+hp by omega]at this⟩,U,h3,h4⟩
  simp only[jRd]at Ko;refine⟨ys,.inr ⟨λe=>by subst e;exact he (jQe (by simpa using FE.symm)),b,o,cap,by rw[FE],M,uZ,hb,Sj λi t ht=>?_⟩,jQd (FC (F:=msz) (f:=λm=>1+(ei m.sig).length) (by simp[msz]) (λy l=>by simp[msz]) FE λi x y I U=>(Ko i x y I U).2.1) Ec,FD FE λi x y I U=>(Ko i x y I U).2.2⟩;exact M213
theorem Xy(n:Nat)(cs:List Value)(x:DataW hx×List MemPlace)(h:Xt enc W n 41 cs=some x):∃(d:ah) (c7:List Value) (c:Value),cs=c7++[c]/\c7.length=7/\Is7 W d.gt c7/\RM (Old W) W d.lw c/\(ei d.gt).length+msz d.lw<=Rows.uptoBulk x.1/\NZ d.gt/\∀m∈d.lw,NZ m.sig/\m.name.size<=9223372036854775807:=by
 obtain⟨xs,m,rfl,rfl,hl,hxl,hf⟩:=DataW.trod_struct underlying41 h;rw[adS]at hl;have H:∀i,i<2->∃y,xs[i]?=some y:=λi hi=>⟨xs[i]'(by rw[hxl];exact hi),i6⟩;obtain⟨c0,c1,c2,c3,c4,c5,c6,c,rfl⟩:=l8 hl;obtain⟨y0,e0⟩:=H 0 M;obtain⟨y1,e1⟩:=H 1 M;have g0:=hf 0 _ rfl;have g1:=hf 1 _ rfl;clear hf H;simp only[List.getElem_toArray,List.getElem_cons_zero,List.getElem_cons_succ,Xu,adR,e0,e1,List.drop_succ_cons,jR0,jR5,List.take_zero]at g0 g1;obtain⟨t,I,U,h3, -, -⟩:=zE m _ y0 g0;obtain⟨l,h4,h5,h6⟩:=Xx m _ y1 g1;refine⟨⟨t,l⟩,[c0,c1,c2,c3,c4,c5,c6],c,rfl,rfl,I,h4,?_,h3,h6⟩;simp only[Rows.uptoBulk]
 match xs,e0,e1 with
 |a::b::r,e0,e1=>
  simp at e0 e1;subst e0 e1;simp only[List.map_cons,Rows.uptoBulkAll];omega
theorem Xz(n:Nat)(c:Value)(x:DataW hx×List MemPlace)(h:Xt enc W n 22 [c]=some x):∃w:List ah,RD (Old W) W w c/\wsz w<=Rows.uptoBulk x.1/\∀d∈w,NZ d.gt/\∀m∈d.lw,NZ m.sig/\m.name.size<=9223372036854775807:=by
 obtain⟨a,cap,m',els,j9,rfl,hle,uZ,jF,Ec,Sp⟩:=FB underlying22 adS M h;by_cases he:els=[]
 .subst he;exact⟨[],.inl ⟨rfl,a,cap,rfl,jF⟩,by simp[wsz],i6⟩
 .obtain⟨b,o,rfl,hb,jz⟩:=Sp he;obtain⟨ys,FE,Ko⟩:=zD (R:=λi (y:DataW hx×List MemPlace) (d:ah)=>(RE (Old W) W d.gt b (o+i*8)/\∃ms,W.cell? ⟨b,o+i*8+7,none⟩=some ms/\RM (Old W) W d.lw ms)/\(ei d.gt).length+msz d.lw<=Rows.uptoBulk y.1/\NZ d.gt/\∀m∈d.lw,NZ m.sig/\m.name.size<=9223372036854775807) els 0 λi y hy=>by
   obtain⟨cs,hr, -,hc⟩:=jz i y hy;obtain⟨d,c7,cl,rfl,h7,I,U,h3,h4,h5⟩:=Xy m' cs y hr;exact⟨d,by rw[jRd];exact⟨Lb I λhp u hu=>hc hp u (by rw[jQq (jQg.1 hu).1];exact hu),cl,hc 7 cl (by rw[jQr M];simp[h7]),U⟩,h3,h4,h5⟩
  simp only[jRd]at Ko;refine⟨ys,.inr ⟨λe=>by subst e;exact he (jQe (by simpa using FE.symm)),b,o,cap,by rw[FE],M,uZ,hb,Sk λi t ht=>?_⟩,jQd (FC (F:=wsz) (f:=λd=>(ei d.gt).length+msz d.lw) (by simp[wsz]) (λy l=>by simp[wsz]) FE λi x y I U=>(Ko i x y I U).2.1) Ec,FD FE λi x y I U=>(Ko i x y I U).2.2⟩;exact M213
end
