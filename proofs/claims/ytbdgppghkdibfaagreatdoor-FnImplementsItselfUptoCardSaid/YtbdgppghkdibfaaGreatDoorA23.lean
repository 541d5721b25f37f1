import Derived.Ground.NamesProg
import Derived.Shelf.Strings.Fold
import Derived.Test.YtbdgppghkdibfaaGreatDoorA20
import Derived.Test.YtbdgppghkdibfaaGreatDoorA22
set_option linter.all false
set_option maxHeartbeats 16000000
set_option maxRecDepth 20000
namespace Go.Proofs.YtbdgppghkdibfaaGreatDoor
open Go Go.RowKit Go.Lib S P Tryz Tryz
variable{LG a nm:ByteArray}{m t vt x:Y}{Q:Y->Prop}{NS:List ByteArray}{l:List Y}{cs rs:List Nat}{ps:List Value}{w:List ah}{B K b bC bK bT bV kk r sb sb':Nat}{obj:Nat->Nat}{D E F:Qx}{pk q:Option Addr}{S:Sg}{s s':TS}{ms v:Value}{W:World}
def M139{GT:Prop}(h:GT:=by
 go_wp21;go_roundg (ps.length - (kk+1))
 case measure=>omega
 case rel=>exact⟨kk+1,M,M,by go_num,rfl,HA.1⟩):GT:=h
def Vr(hE:Env NS Q w rs cs)(iA:∀t,Q t->Q0 t)(hI:sv NS Q w S D obj rs K r)(hT:dS NS Q w S D obj rs K r)(hr:r+1<=K):sv NS Q w S D obj rs K (r+1):=by
 intro E W cb u v x y p q h;obtain⟨ux, -, -,k2,k14, -⟩:=cJ hE.qp h.px;have I:=gR ux;have U:=lg ux;by_cases cP:isIf (una x)=true
 .exact GZ hE hI hr h hT cP
 have bH:(una x).ld≠10:=λe=>cP (by simp[isIf,e]);by_cases hn:cI (una x)
 .exact UT hE hI hr h hn
 have jF:(una x).ld≠11/\(una x).ld≠15/\(una x).ld≠16:=by unfold cI at hn;omega
 rcases(show(una x).ld=1\/(una x).ld=3\/(una x).ld=4\/(una x).ld=5\/(una x).ld=6\/(una x).ld=7\/(una x).ld=8\/(una x).ld=9 by omega)with k|k|k|k|k|k|k|k
 .exact UR hE hI hr h k
 .exact US hE hI hr h k
 .exact Si hE hI hr h k
 .exact Qv hE hI hr h iA k
 .exact La hE hI hr h k
 .exact GY hE hI hr h k
 .exact ack hE hI hr h k
 .exact Zg hE hI hr h k
def H0(hE:Env NS Q w rs cs)(iA:∀t,Q t->Q0 t):∀r,r<=K->sv NS Q w S D obj rs K r/\dE NS Q w S D obj rs K r/\dS NS Q w S D obj rs K r
 |0,_=>⟨λ_ _ _ _ _ _ _ _ _ h=>by have:=h.rx;have:=h.qr;omega,λ_ _ _ _ _ _ _ _ _ _ h=>M,λ_ _ _ _ _ _ _ _ h=>M⟩
 |r+1,hr=>by
  obtain⟨I,U,h3⟩:=H0 hE iA r M;exact⟨Vr hE iA I h3 hr,LI hE U h3 hr,Ug hE (zV hE I) U h3 hr⟩
def fold164_ren:Go.Shelf.Ren:=⟨λ|164=>165|197=>201|239=>202|260=>231|274=>232|275=>233|n=>n,λ|9=>9|4=>4|3=>3|5=>5|0=>0|21=>21|105=>300|156=>336|49=>335|157=>337|46=>290|159=>339|162=>342|160=>340|119=>360|139=>363|138=>362|208=>367|51=>109|206=>365|n=>n,λ|11=>0|12=>1|13=>2|3=>3|4=>4|n=>n⟩
def fold164:Go.Proofs.Lays.n164 prog fold164_ren:=⟨g9,func165.trans (congrArg some g9),func201.trans (congrArg some g9),func202.trans (congrArg some g9),func231.trans (congrArg some g9),func232.trans (congrArg some g9),func233.trans (congrArg some g9),underlying0,isAgg0,sizeOf0,zeroValue0,underlying3,isAgg3,sizeOf3,zeroValue3,underlying4,isAgg4,sizeOf4,zeroValue4,underlying5,isAgg5,sizeOf5,zeroValue5,underlying9,isAgg9,sizeOf9,zeroValue9,underlying21,isAgg21,sizeOf21,zeroValue21,underlying290,isAgg290,sizeOf290,zeroValue290,underlying335,isAgg335,sizeOf335,zeroValue335,underlying109,isAgg109,sizeOf109,zeroValue109,underlying300,isAgg300,sizeOf300,zeroValue300,underlying360,isAgg360,sizeOf360,underlying362,isAgg362,sizeOf362,zeroValue362,underlying363,isAgg363,sizeOf363,zeroValue363,underlying336,isAgg336,sizeOf336,underlying337,isAgg337,sizeOf337,zeroValue337,underlying339,isAgg339,sizeOf339,zeroValue339,underlying340,isAgg340,sizeOf340,zeroValue340,underlying342,isAgg342,sizeOf342,zeroValue342,underlying365,isAgg365,sizeOf365,zeroValue365,underlying367,isAgg367,sizeOf367,zeroValue367,g9,g9,g9,g9,g9⟩
def yS:∀{l:List UInt8} {i:Nat},isNameL i l=true->∀b∈l,b.toNat<128
 |[],_,_,b,hb=>by simp at hb
 |c::l,i,h,b,hb=>by
  rw[isNameL]at h;split at h
  .cases h
  .rename_i hc
   rcases jQn.1 hb with rfl|hb
   .simp at hc;have hz:b<=122:=by
     by_cases I:b<65\/90<b
     .have:=hc (by rcases I with h|h<;>simp[h]);exact this.1.2
     .have U:b<=90:=by
       rcases Nat.lt_or_ge 90 b.toNat with h3|h3
       .exact absurd (.inr (UInt8.lt_iff_toNat_lt.2 (G9 h3))) I
       .exact UInt8.le_iff_toNat_le.2 (G9 h3)
      exact UInt8.le_iff_toNat_le.2 (by have:=UInt8.le_iff_toNat_le.1 U;simp at this⊢;omega)
    have:=UInt8.le_iff_toNat_le.1 hz;simp at this;omega
   .exact yS h b hb
def tP{s:ByteArray}(h:isName s=true):s.size<=8/\∀(hp:Nat) b,s.data.toList[hp]?=some b->b.toNat<128:=by
 unfold isName at h;simp only[Bool.and_eq_true,decide_eq_true_eq]at h;refine⟨h.2.2,λhp b hb=>yS h.1 b ?_⟩;rw[jRk];exact jQ8 hb
def AV{b:ByteArray}(W)(ha:isName a=true)(hb:isName b=true):Calls prog 165 #[.string a,.string b] W λe W'=>∃r,e=.returned (.bool r)/\W'=W:=by
 obtain⟨I,U⟩:=tP ha;obtain⟨h3,h4⟩:=tP hb;have hc:=Go.Proofs.Any.strings_EqualFold fold164 a b W M U h4
 change Calls prog 165 _ _ _ at hc
 exact hc.mono λe W' h=>⟨_,h.1,h.2⟩
def oL{s:ByteArray}(h:isName s=true):wM s/\s.size<=9223372036854775807:=⟨FZ h,V5 ((tP h).1)⟩
def Dt(hc:ce W b 2 (.string nm))(hn:isName nm=true)(iK:isName LG=true)(ht:jE D W):Calls prog 171 #[ptr b,.pointer pk,.string LG,.bool true] W λe W'=>∃r,e=.returned (.bool r)/\W'=W:=by
 have ag:=qU hc (oL hn).1 (oL hn).2 ht;have SP:=AV W hn iK;clear ht hn iK;by_cases h:nm=LG
 .have bk:=gB h;clear h;go_in;go_wp21;refine SP.mono ?_;rintro e O ⟨rr,rfl,hw⟩;replace hw:=hw.symm;subst hw;cases rr
  .go_wp21;refine rv ag ?_;go_wp2;go_ret;exact⟨_,rfl,rfl⟩
  .go_wp2;go_ret;exact⟨_,rfl,rfl⟩
 .have bk:=jX h;clear h ag;go_in;go_wp21;refine SP.mono ?_;rintro e O ⟨rr,rfl,hw⟩;replace hw:=hw.symm;subst hw;cases rr
  all_goals
   go_wp2;go_ret;exact⟨_,rfl,rfl⟩
def iX(hc:ce W b 2 (.string nm))(hn:isName nm=true)(iK:isName LG=true)(ht:jE D W)(fold:Bool):Calls prog 171 #[ptr b,.pointer pk,.string LG,.bool fold] W λe W'=>∃r,e=.returned (.bool r)/\W'=W/\(fold=false->r=aE nm LG):=by
 cases fold with
 |true=>exact(Dt hc hn iK ht).mono λe W' ⟨r,I,U⟩=>⟨r,I,U,λh=>by cases h⟩
 |false=>exact(vp hc (oL hn).1 (oL hn).2 ht).mono λe W' h=>⟨_,h.1,h.2,λ_=>rfl⟩
def aef{s:ByteArray}(h:isName s=true):(s.toList==(str [95]).toList)=false:=jX λe=>by rw[e]at h;exact absurd h (by decide+kernel)
def xD{s:ByteArray}(h:isName s=true):(s.toList==[95])=false:=by
 have:=aef h;rwa[show(str [95]).toList=[95]by decide+kernel]at this
def Z6q(l:List aH)(nm:ByteArray)(fold:Bool)(W:World)(e:Ending)(W':World):Prop:=
 W'=W/\((e=.returned (.int .i64 (-1))/\(fold=false->l.find? (λm=>aE m.name nm)=none))\/∃(i:Nat) (m:aH),e=.returned (.int .i64 (i:Int))/\l[i]?=some m/\(fold=false->l.find? (λm=>aE m.name nm)=some m))
def Pr{l:List aH}{m:aH}(h:l[kk]?=some m):(l.drop kk).find? (λm=>aE m.name nm)=if aE m.name nm then some m else(l.drop (kk+1)).find? (λm=>aE m.name nm):=by
 rw[cZ h,List.find?_cons];cases aE m.name nm<;>rfl
def yA{l:List aH}(hb:ce W b 9 ms)(hr:eE D W ps ms)(hl:All2 (mr S D W) l ps)(hn:isName nm=true)(LH:∀m∈l,isName m.name=true)(fold:Bool):
 Calls prog 124 #[ptr b,.string nm,.bool fold] W (Z6q l nm fold W):=by
 obtain⟨a,c,rfl⟩:=hr.form;have uE:(nm.toList==[95])=false:=xD hn;have rP:=hl.len;have rO:=hr.max;obtain⟨HR,HL,HN,Rg⟩:=Z4 hr hl hn LH;clear hr hl hn LH;cases fold with
 |true=>
  go_in;go_wp21;clear hb
  go_loopg [19] ps.length (λgg s19 wr=>∃kk:Nat,kk<=ps.length/\ps.length - kk<=gg/\s19=.int .i64 kk/\wr=W)
  case atStart=>exact⟨0,jQc _,M,rfl,rfl⟩
  case round=>
   obtain⟨kk,ez,hg,rfl,rfl⟩:=hrel;by_cases aM:kk<ps.length
   .have aR:(kk:Int)<(ps.length:Int):=M
    obtain⟨m,hm⟩:∃m,l[kk]?=some m:=⟨l[kk]' M,by simp[show kk<l.length by omega]⟩;obtain⟨p,j,hv⟩:=HL.1.at hm;obtain⟨b7,o7,rfl, -,Lf⟩:=HR.1.nth j;obtain⟨b9,pos,pk,sb,rb,pos',F0,Wf,k,rt,rfl,CR,sD, -⟩:=hv;have c2:=G7 2 sD
    have ag:=AV wr (Rg.1 m (jQ8 hm)) HN.1;have HM:=Z hm;clear hm j sD;go_wp21;refine ag.mono ?_;rintro e O ⟨rr,rfl,hw⟩;replace hw:=hw.symm;subst hw;clear ag;cases rr
    .go_wp21;go_roundg (ps.length - (kk+1))
     case measure=>omega
     case rel=>exact⟨kk+1,M,M,by go_num,rfl⟩
    .go_wp2;go_ret;exact⟨rfl,.inr ⟨kk,m,rfl,HM.1,λh=>by cases h⟩⟩
   .have aR:¬(kk:Int)<(ps.length:Int):=M
    go_wp2;go_ret;exact⟨rfl,.inl ⟨rfl,λh=>by cases h⟩⟩
 |false=>
  go_in;go_wp21;clear hb
  go_loopg [38] ps.length (λgg s38 wr=>∃kk:Nat,kk<=ps.length/\ps.length - kk<=gg/\s38=.int .i64 kk/\wr=W/\Aside ((l.drop kk).find? (λm=>aE m.name nm)=l.find? (λm=>aE m.name nm)))
  case atStart=>exact⟨0,jQc _,M,rfl,rfl,by simp[Aside]⟩
  case round=>
   obtain⟨kk,ez,hg,rfl,rfl,A⟩:=hrel;by_cases aM:kk<ps.length
   .have aR:(kk:Int)<(ps.length:Int):=M
    obtain⟨m,hm⟩:∃m,l[kk]?=some m:=⟨l[kk]' M,by simp[show kk<l.length by omega]⟩;obtain⟨p,j,hv⟩:=HL.1.at hm;obtain⟨b7,o7,rfl, -,Lf⟩:=HR.1.nth j;obtain⟨b9,pos,pk,sb,rb,pos',F0,Wf,k,rt,rfl,CR,sD, -⟩:=hv;have c2:=G7 2 sD
    have hA:=A.out;rw[Pr hm]at hA;have HM:=Z hm;by_cases dU:m.name=nm
    .have bk:=gB dU;have HA:=Z (show l.find? (λm=>aE m.name nm)=some m by rw[<-hA,jQ7 (by simp[aE,dU])]);clear hm j sD hA dU;go_wp2;go_ret;exact⟨rfl,.inr ⟨kk,m,rfl,HM.1,λ_=>HA.1⟩⟩
    .have bk:=jX dU;have HA:=Z (show(l.drop (kk+1)).find? (λm=>aE m.name nm)=l.find? (λm=>aE m.name nm)by rw[<-hA,jQ4 (by simp[aE,dU])]);clear hm j sD hA dU;exact M139
   .have aR:¬(kk:Int)<(ps.length:Int):=M
    have hA:=A.out;rw[jQf M]at hA;have HA:=Z (show l.find? (λm=>aE m.name nm)=none by rw[<-hA];rfl);clear hA;go_wp2;go_ret;exact⟨rfl,.inl ⟨rfl,λ_=>HA.1⟩⟩
@[go_sem ↓] theorem ahV(w):(Instr.index 309 (.agg #[.pointer none,.pointer none,.pointer none]) (.int .i64 0)).run prog w=.ok (.pointer none) w:=g9
@[go_sem ↓] theorem ahW(w):(Instr.index 309 (.agg #[.pointer none,.pointer none,.pointer none]) (.int .i64 1)).run prog w=.ok (.pointer none) w:=g9
@[go_sem ↓] theorem ahX(w):(Instr.index 309 (.agg #[.pointer none,.pointer none,.pointer none]) (.int .i64 2)).run prog w=.ok (.pointer none) w:=g9
@[go_sem ↓] theorem adn(u:Nat)(W):(Instr.lookup 310 (.map none) (ptr u) false).run prog W=.ok (.slice none 0 0) W:=g9
def L1(h:l[kk]?=some m):(l.drop kk).find? (λm=>aE m.name nm)=if aE m.name nm then some m else(l.drop (kk+1)).find? (λm=>aE m.name nm):=by
 rw[cZ h,List.find?_cons];cases aE m.name nm<;>rfl
def MiR(S:Sg)(D:Qx)(l:List Y)(nm:ByteArray)(W:World)(e:Ending)(W':World):Prop:=
 W'=W/\((e=.returned (.tuple #[.int .i64 (-1),.pointer none])/\l.find? (λm=>aE m.name nm)=none)\/
  ∃(i:Nat) (m:Y) (p:Value),e=.returned (.tuple #[.int .i64 i,p])/\sK S D W m.name m p/\l.find? (λm=>aE m.name nm)=some m)
def L2(hr:eE F W ps ms)(hl:All2 (λm p=>sK S D W m.name m p) l ps)(ht:jE D W)(hn:isName nm=true)(LH:∀m∈l,isName m.name=true):
 Calls prog 203 #[ms,.pointer q,.string nm,.bool false] W (MiR S D l nm W):=by
 obtain⟨a,c,rfl⟩:=hr.form;have uE:(nm.toList==[95])=false:=xD hn;have rP:=hl.len;have rO:=hr.max;obtain⟨HR,HL,HN,HT,Rg⟩:=Z5 hr hl hn ht LH;clear hr hl hn LH ht;go_in;go_wp21
 go_loopg [16] ps.length (λgg s16 wr=>∃kk:Nat,kk<=ps.length/\ps.length - kk<=gg/\s16=.int .i64 kk/\wr=W/\Aside ((l.drop kk).find? (λm=>aE m.name nm)=l.find? (λm=>aE m.name nm)))
 case atStart=>exact⟨0,jQc _,M,rfl,rfl,by simp[Aside]⟩
 case round=>
  obtain⟨kk,ez,hg,rfl,rfl,A⟩:=hrel;by_cases aM:kk<ps.length
  .have aR:(kk:Int)<(ps.length:Int):=M
   obtain⟨m,hm⟩:∃m,l[kk]?=some m:=⟨l[kk]' M,by simp[show kk<l.length by omega]⟩;obtain⟨p,j,hv⟩:=HL.1.at hm;obtain⟨b7,o7,rfl, -,Lf⟩:=HR.1.nth j;have HV:=Z hv;obtain⟨b9,pos,pk,v9,rfl,CR,sD, -⟩:=hv;have c2:=G7 2 sD
   have ag:=iX (pk:=q) c2 (Rg.1 m (jQ8 hm)) HN.1 HT.1 false;have hA:=A.out;rw[L1 hm]at hA;have HM:=Z hm;clear hm j sD;go_wp21;refine ag.mono ?_;rintro e O ⟨rr,rfl,hw,Ay⟩;replace hw:=hw.symm;subst hw;have aeC:=Ay trivial;rw[<-aeC]at hA;clear ag Ay aeC;cases rr
   .have HA:=Z (show(l.drop (kk+1)).find? (λm=>aE m.name nm)=l.find? (λm=>aE m.name nm)by rw[<-hA];rfl);clear hA;exact M139
   .have HA:=Z (show l.find? (λm=>aE m.name nm)=some m by rw[<-hA];rfl);clear hA;go_wp21
    go_ret2
    exact⟨rfl,.inr ⟨kk,m,_,rfl,HV.1,HA.1⟩⟩
  .have aR:¬(kk:Int)<(ps.length:Int):=M
   have hA:=A.out;rw[jQf M]at hA;have HA:=Z (show l.find? (λm=>aE m.name nm)=none by rw[<-hA];rfl);clear hA;go_wp21
   go_ret2
   exact⟨rfl,.inl ⟨rfl,HA.1⟩⟩
def Gi(h:yn S D E W sb s)(ht:jE D W)(hn:isName nm=true)(LH:∀m∈s.lw,isName m.name=true):
 Calls prog 166 #[ptr sb,.pointer q,.string nm,.bool false] W (MiR S D s.lw nm W):=by
 obtain⟨ms,tl,ps, -, -, -,hb, -,hr,hl, -⟩:=h;have ag:=L2 (q:=q) hr hl ht hn LH;have c1:=G7 1 hb
 obtain⟨a,c,rfl⟩:=hr.form;clear hb hr hl ht hn LH;go_in;go_wp21;refine ag.mono ?_;rintro e O ⟨hw,hR⟩;replace hw:=hw.symm;subst hw;rcases hR with⟨rfl,h⟩|⟨i,m,p,rfl,I,U⟩
 .have hx:=Z h;clear h ag;go_wp21
  go_ret2
  exact⟨rfl,.inl ⟨rfl,hx.1⟩⟩
 .have hx:=Z I;have H2:=Z U;clear I U ag;go_wp21
  go_ret2
  exact⟨rfl,.inr ⟨i,m,p,rfl,hx.1,H2.1⟩⟩
def KW(h:yn S D E W sb s):Calls prog 125 #[ptr sb] W (dL W (.bool (!s.comp&&isAllL s.terms))):=by
 obtain⟨ms,tl,ps, -, -, -,hb, -, -, -,hl⟩:=h;have ag:=fI hl;obtain⟨c0,c1,c2,c3⟩:=dx hb;obtain⟨a,c,rfl⟩:=hl.form;generalize isAllL s.terms=al at*;generalize s.comp=co at*;clear hb hl;cases co
 .exact M83
 .exact M85
def Dd(h:yn S D E W sb s):Calls prog 78 #[ptr sb] W (dL W (.bool (!s.comp&&isAllL s.terms&&s.lw.length==0))):=by
 have ag:=KW h;obtain⟨ms,tl,ps, -, -, -,hb, -,hr,ha, -⟩:=h;obtain⟨c0,c1,c2,c3⟩:=dx hb;obtain⟨a,c,rfl⟩:=hr.form;rw[ha.len];generalize(!s.comp&&isAllL s.terms)=z at*;clear hb hr ha;cases z
 .exact M83
 .go_in;go_wp21;refine rv ag ?_;go_wp2;go_ret;exact⟨by congr 2;cases ps<;>simp<;>omega,rfl⟩
def ny(hT:dS NS Q w S D obj rs K r)(bD:Ok w S D obj rs K E r W)(hs:S b=some (aG t))(cP:Fb NS Q w t)(AB:2*J rs false false t<r):
 Calls prog 33 #[ptr b] W (aV w S D obj rs K E r W λv _=>v=.bool (!((fs w K).ts t).comp&&isAllL ((fs w K).ts t).terms&&((fs w K).ts t).lw.length==0)):=by
 have ag:=bG hT bD hs cP AB;generalize(fs w K).ts t=s at*;clear hT bD hs cP;go_in;go_wp21;refine ag.mono ?_;rintro e' w1 ⟨v6,rfl,⟨sb,rfl,fi⟩,mx,wG⟩;have hc:=Dd fi;have HP:=Z (⟨mx,wG⟩:Ok w S D obj rs K E r w1/\Fr S rs r W w1);clear fi mx wG ag;go_wp21;refine rv hc ?_;go_wp2;go_ret;exact⟨_,rfl,rfl,HP.1.1,HP.1.2⟩
def MM(hE:Env NS Q w rs cs)(hC:dE NS Q w S D obj rs K r)(hT:dS NS Q w S D obj rs K r)(sX:r<=K)(bD:Ok w S D obj rs K E r W)(hs:S b=some (aG t))(cP:Fb NS Q w t)(AB:2*J rs false false t<r):
 Calls prog 85 #[ptr b] W (aV w S D obj rs K E r W λv _=>v=.bool (lB (fs w K) ((fs w K).ts t))):=by
 have ag:=bG hT bD hs cP AB;have CS:=Z (vh hE.wk hE.qp hE.te r K sX _ cP AB).nf;have Td:=Z ((eZ hE.wk hE.qp r K K sX sX).2 _ cP AB).terms;have fw:2*J rs false false t<=r:=M
 have HE:=Z hE;have HC:=Z hC;rw[A3];generalize(fs w K).ts t=s at*;generalize bo:(if isAllL s.terms then s.comp else if aK s.terms then false else s.terms.all (A4 (fs w K)))=res;have bM:=Z bo;clear hT bD hs cP hE hC bo;go_in;go_wp21;refine ag.mono ?_;rintro e' w1 ⟨v6,rfl,⟨sb,rfl,fi⟩,mx,wG⟩;have hc:=qX (so:=none) (G:=λ_=>False) HE.1 HC.1 mx fi.jl CS.1 Td.1 fw (λq s hq _=>hq.elim) (λb h=>by cases h);have HF:=Z wG;rw[bM.1]at hc;clear fi mx wG ag;go_wp21;refine hc.mono ?_;rintro e' w2 ⟨rfl,iG,j3, -⟩;have HP:=Z (⟨iG,HF.1.trans (j3.wide λb h=>by cases h)⟩:Ok w S D obj rs K E r w2/\Fr S rs r W w2);clear iG j3 hc;go_wp2;go_ret;exact⟨_,rfl,rfl,HP.1.1,HP.1.2⟩
def QE(hE:Env NS Q w rs cs)(hC:dE NS Q w S D obj rs K r)(hT:dS NS Q w S D obj rs K r)(sX:r<=K)(bD:Ok w S D obj rs K E r W){con:Bool}(hs:S b=some (aG t))(cP:Fb NS Q w t)(AB:2*J rs false false t<r)(hv:dq S v vt)(pv:PT NS Q w 0 vt)(rv:2*J rs true false vt+1<r)(cT:ce W bT 0 (ptr b))(cV:ce W bV 0 v)(cC:ce W bC 0 (.bool con))(cK:ce W bK 0 (.pointer none))(nV:S bV=none)(nC:S bC=none)(nK:S bK=none):
 Calls prog 84 #[ptr bT,ptr bV,ptr bC,ptr bK] W (aV w S D obj rs K E r W λu _=>u=.bool (!lB (fs w K) ((fs w K).ts t)||(fs w K).cmp vt false||(con&&(fs w K).cmp vt true))):=by
 have ag:=MM hE hC hT sX bD hs cP AB;have HV:=Z hv;obtain⟨b0,rfl, -⟩:=id hv;have HC0:=Z (λO (ho:Ok w S D obj rs K E r O)=>wu hC ho (d:=false) HV.1 pv rv);have HC1:=Z (λO (ho:Ok w S D obj rs K E r O)=>wu hC ho (d:=true) HV.1 pv rv);generalize tid vt.ld=T0 at*;generalize lB (fs w K) ((fs w K).ts t)=x1 at*;generalize(fs w K).cmp vt false=x2 at*;generalize(fs w K).cmp vt true=x3 at*;obtain⟨CV,CC,CK⟩:=Z3 cV cC cK;clear hE hC hT bD hs cP hv pv rv cV cC cK;go_in;go_wp21;refine ag.mono ?_;rintro e' w1 ⟨v1,rfl,rfl,mx,wG⟩;have HO1:=Z mx;have D6:=Z wG;clear ag mx wG cT;cases x1
 .go_wp2;go_ret;exact⟨_,rfl,rfl,HO1.1,D6.1⟩
 .have cV:=D6.1.cell nV CV.1;have hc:=HC0.1 w1 HO1.1;go_wp21;refine hc.mono ?_;rintro e' w2 ⟨u2,rfl,qq,iG,j3⟩;have sr:=Z iG;have rR:=Z (D6.1.trans j3);clear hc iG j3 cV;rcases qq with⟨rfl,rfl⟩|⟨b2,rfl,rfl⟩
  .go_wp2;go_ret;exact⟨_,rfl,i6,sr.1,rR.1⟩
  .have cV:=rR.1.cell nV CV.1;have cC:=rR.1.cell nC CC.1;have hc:=HC1.1 w2 sr.1;cases con with
   |false=>
    go_wp2;go_ret;exact⟨_,rfl,rfl,sr.1,rR.1⟩
   |true=>
    go_wp21;refine hc.mono ?_;rintro e' w3 ⟨u3,rfl,hu3,agl,agm⟩;have WD:=Z agl;have Ka:=Z (rR.1.trans agm);have cK:=Ka.1.cell nK CK.1;clear hc agl agm cV cC;rcases hu3 with⟨rfl,rfl⟩|⟨b3,rfl,rfl⟩
    .go_wp2;go_ret;exact⟨_,rfl,i6,WD.1,Ka.1⟩
    .go_wp2;go_ret;exact⟨_,rfl,i6,WD.1,Ka.1⟩
def JT(hE:Env NS Q w rs cs)(hI:cO NS Q w S D obj rs K r)(hB:2*B<=r)(bD:Ok w S D obj rs K E r W)(h:yn S D E W sb s)(h':yn S D E W sb' s')(fQ:TL (jH NS Q w rs B) s.terms)(lv:TL (jH NS Q w rs B) s'.terms):
 Calls prog 88 #[ptr sb,ptr sb'] W (aV w S D obj rs K E r W λv _=>v=.bool (nJ (FF w K) w s.terms s'.terms)):=by
 obtain⟨ms,tl,ps, -, -, -,hb,n1, -, -,hl⟩:=h;obtain⟨xX,tl',wO, -, -, -,dD,n2, -, -,Kn⟩:=h';have d1:=G7 2 hb
 have d2:=G7 2 dD
 obtain⟨HC,HE,HOK⟩:=Z3 (λO (g1:Ok w S D obj rs K E r O) (g2:Fr S rs r W O)=>tE hE hI hB g1 (hl.move g2) (Kn.move g2) fQ lv) hE bD;obtain⟨a1,c1,rfl⟩:=hl.form;obtain⟨a2,c2,rfl⟩:=Kn.form;have KI:=Z (show∀O,(Ok w S D obj rs K E r O/\Fr S rs r W O)->(Ok w S D obj rs K E r O/\Fr S rs r W O)/\ce O sb 2 (.slice a1 s.terms.length c1)/\ce O sb' 2 (.slice a2 s'.terms.length c2)from λO h=>⟨h,h.2.cell n1 d1,h.2.cell n2 d2⟩);generalize nJ (FF w K) w s.terms s'.terms=res at HC⊢;clear hb dD hl Kn d1 d2 fQ lv hE hI bD n1 n2;go_in;go_wp21;refine t8 KI ⟨HOK.1.below HE.1.hs (jQ5 _ _).drew,Below.fr (jQ5 _ _).drew⟩ λai=>?_;refine t4 0 1 2 3 ?_;refine t4 4 5 6 7 ?_;refine rd 8 rfl λK hK=>?_;go_simp;have hh:=ai.1;clear ai;refine(HC.1 _ hh.1 hh.2).mono ?_;rintro eA wA ⟨vA,rfl,rfl,g1,g2⟩;refine hK.out _ _ (KI.1 _ ⟨g1,hh.2.trans g2⟩) (λai=>?_);clear hh g1 g2;clear hK K;refine t7 9 ?_;refine jQl g9 ?_ _;have HH:=Z ai.1;clear ai;go_wp2;go_ret;exact⟨_,rfl,rfl,HH.1.1,HH.1.2⟩
