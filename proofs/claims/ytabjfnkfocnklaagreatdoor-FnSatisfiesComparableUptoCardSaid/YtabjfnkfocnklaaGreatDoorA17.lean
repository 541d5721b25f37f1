import Derived.Ground.NamesProg
import Derived.Shelf.Strings.Fold
import Derived.Test.YtabjfnkfocnklaaGreatDoorA14
import Derived.Test.YtabjfnkfocnklaaGreatDoorA16
set_option linter.all false
set_option maxHeartbeats 16000000
set_option maxRecDepth 20000
namespace Go.Proofs.YtabjfnkfocnklaaGreatDoor
open Go Go.RowKit Go.Lib S P Tryz Tryz
variable{aO eo fT σ:BS}{B:Bl}{a nm nm0 p q s:ByteArray}{e t x:GT}{Q:GT->Prop}{inf p0 pos:Int}{NS:List ByteArray}{cs rs:List Nat}{ps qs:List Value}{l:List aH}{w:List ah}{K N b base c d fb j kk m n ob pk r sb y z:Nat}{obj:Nat->Nat}{D DI E:Nat->Prop}{Y:Prop}{S:Sg}{ty:TypeId}{fv ms tv ut v v6:Value}{W W' W0 W1 W2:World}
theorem M124(h:Y:=by
 obtain hr|⟨g1,b,o,c,e,g3,g4,g5,g6⟩:=hr
 ·exact .inl hr
 ·refine .inr ⟨g1,b,o,c,e,g3,g4,⟨g5,ho _ _ _ e λhz=>g1 (jQe hz)⟩,g6⟩):Y:=h
theorem M132(h:Y:=by
 have h1:=aq (o:=.cells #[.int .i64 0,ptr B.pk,.string m.name,.iface 90 (ptr b1),.bool false,.bool false] 178) HSH.1;simp[World.cell?,h1]):Y:=h
theorem M153(h:Y:=by
 cases x with
 |none=>exact hp
 |some tm=>
  obtain⟨b,v,ty,g1,g2,g3,g4,g5⟩:=hp;exact⟨b,v,ty,g1,h.Wp b g2,g3,g4,g5⟩):Y:=h
theorem M162(h:Y:=by
 rw[HMP.1]at hp;obtain⟨tt,h1,h2⟩:=HRP.1 (by first|exact hp|trivial);exact⟨tt,UG.1.sle _ _ h1,h2⟩):Y:=h
theorem M216(h:Y:=by
 rw[HMP.1];exact(UG.1.aJ rG.1.bs wB.heap.size (.inr rfl)).2.trans HVB.1):Y:=h
theorem Vr(hE:Env NS Q w rs cs)(iA:∀t,Q t->Q0 t)(hI:sv NS Q w S D obj rs K r)(hT:dS NS Q w S D obj rs K r)(hr:r+1<=K):sv NS Q w S D obj rs K (r+1):=by
 intro E W cb u v x y p q h;obtain⟨ux, -, -,k2,k14, -⟩:=cJ hE.qp h.px;have h1:=gR ux;have h2:=lg ux;by_cases cP:isIf (una x)=true
 ·exact GZ hE hI hr h hT cP
 have bH:(una x).kind≠10:=λe=>cP (by simp[isIf,e]);by_cases hn:cI (una x)
 ·exact UT hE hI hr h hn
 have jF:(una x).kind≠11/\(una x).kind≠15/\(una x).kind≠16:=by unfold cI at hn;omega
 rcases(show(una x).kind=1\/(una x).kind=3\/(una x).kind=4\/(una x).kind=5\/(una x).kind=6\/(una x).kind=7\/(una x).kind=8\/(una x).kind=9 by omega)with k|k|k|k|k|k|k|k
 ·exact UR hE hI hr h k
 ·exact US hE hI hr h k
 ·exact Si hE hI hr h k
 ·exact Qv hE hI hr h iA k
 ·exact La hE hI hr h k
 ·exact GY hE hI hr h k
 ·exact ack hE hI hr h k
 ·exact Zg hE hI hr h k
theorem H0(hE:Env NS Q w rs cs)(iA:∀t,Q t->Q0 t):∀r,r<=K->sv NS Q w S D obj rs K r/\dE NS Q w S D obj rs K r/\dS NS Q w S D obj rs K r
 |0,_=>⟨λ_ _ _ _ _ _ _ _ _ h=>by have:=h.rx;have:=h.qr;omega,λ_ _ _ _ _ _ _ _ _ _ h=>m9,λ_ _ _ _ _ _ _ _ h=>m9⟩
 |r+1,hr=>by
  obtain⟨h1,h2,h3⟩:=H0 hE iA r m9;exact⟨Vr hE iA h1 h3 hr,LI hE h2 h3 hr,Ug hE (zV hE h1) h2 h3 hr⟩
def fold164_ren:Go.Shelf.Ren:=⟨λ|164=>154|197=>194|239=>195|260=>229|274=>230|275=>231|n=>n,λ|9=>9|4=>4|3=>3|5=>5|0=>0|21=>21|105=>297|156=>335|49=>334|157=>336|46=>287|159=>338|162=>341|160=>339|119=>355|139=>358|138=>357|208=>362|51=>107|206=>360|n=>n,λ|11=>0|12=>1|13=>2|3=>3|4=>4|n=>n⟩
theorem fold164:Go.Proofs.Lays.n164 prog fold164_ren:=⟨g9,func154.trans (congrArg some g9),func194.trans (congrArg some g9),func195.trans (congrArg some g9),func229.trans (congrArg some g9),func230.trans (congrArg some g9),func231.trans (congrArg some g9),underlying0,isAgg0,sizeOf0,zeroValue0,underlying3,isAgg3,sizeOf3,zeroValue3,underlying4,isAgg4,sizeOf4,zeroValue4,underlying5,isAgg5,sizeOf5,zeroValue5,underlying9,isAgg9,sizeOf9,zeroValue9,underlying21,isAgg21,sizeOf21,zeroValue21,underlying287,isAgg287,sizeOf287,zeroValue287,underlying334,isAgg334,sizeOf334,zeroValue334,underlying107,isAgg107,sizeOf107,zeroValue107,underlying297,isAgg297,sizeOf297,zeroValue297,underlying355,isAgg355,sizeOf355,underlying357,isAgg357,sizeOf357,zeroValue357,underlying358,isAgg358,sizeOf358,zeroValue358,underlying335,isAgg335,sizeOf335,underlying336,isAgg336,sizeOf336,zeroValue336,underlying338,isAgg338,sizeOf338,zeroValue338,underlying339,isAgg339,sizeOf339,zeroValue339,underlying341,isAgg341,sizeOf341,zeroValue341,underlying360,isAgg360,sizeOf360,zeroValue360,underlying362,isAgg362,sizeOf362,zeroValue362,g9,g9,g9,g9,g9⟩
theorem yS:∀{l:List UInt8} {i:Nat},isNameL i l=true->∀b∈l,b.toNat<128
 |[],_,_,b,hb=>by simp at hb
 |c::l,i,h,b,hb=>by
  rw[isNameL]at h;split at h
  ·cases h
  ·rename_i hc
   rcases jQn.1 hb with rfl|hb
   ·simp at hc;have hz:b<=122:=by
     by_cases h1:b<65\/90<b
     ·have:=hc (by rcases h1 with h|h<;>simp[h]);exact this.1.2
     ·have h2:b<=90:=by
       rcases Nat.lt_or_ge 90 b.toNat with h3|h3
       ·exact absurd (.inr (UInt8.lt_iff_toNat_lt.2 (by simpa using h3))) h1
       ·exact UInt8.le_iff_toNat_le.2 (by simpa using h3)
      exact UInt8.le_iff_toNat_le.2 (by have:=UInt8.le_iff_toNat_le.1 h2;simp at this⊢;omega)
    have:=UInt8.le_iff_toNat_le.1 hz;simp at this;omega
   ·exact yS h b hb
theorem tP(h:isName s=true):s.size<=8/\∀(j:Nat) b,s.data.toList[j]?=some b->b.toNat<128:=by
 unfold isName at h;simp only[Bool.and_eq_true,decide_eq_true_eq]at h;refine⟨h.2.2,λj b hb=>yS h.1 b ?_⟩;rw[jRk];exact jQ8 hb
theorem AV{b:ByteArray}(W:World)(ha:isName a=true)(hb:isName b=true):Calls prog 154 #[.string a,.string b] W λe W'=>∃r,e=.returned (.bool r)/\W'=W:=by
 obtain⟨h1,h2⟩:=tP ha;obtain⟨h3,h4⟩:=tP hb;have hc:=Go.Proofs.Any.strings_EqualFold fold164 a b W m9 h2 h4
 change Calls prog 154 _ _ _ at hc
 exact hc.mono λe W' h=>⟨_,h.1,h.2⟩
theorem aef(h:isName s=true):(s.toList==(str [95]).toList)=false:=jX λe=>by rw[e]at h;exact absurd h (by decide+kernel)
theorem xD(h:isName s=true):(s.toList==[95])=false:=by
 have:=aef h;rwa[show(str [95]).toList=[95]by decide+kernel]at this
def Z6q(l:List aH)(nm:ByteArray)(fold:Bool)(W:World)(e:Ending)(W':World):Prop:=
 W'=W/\((e=.returned (.int .i64 (-1))/\(fold=false->l.find? (λm=>aE m.name nm)=none))\/∃(i:Nat) (m:aH),e=.returned (.int .i64 (i:Int))/\l[i]?=some m/\(fold=false->l.find? (λm=>aE m.name nm)=some m))
theorem Pr{m:aH}(h:l[kk]?=some m):(l.drop kk).find? (λm=>aE m.name nm)=if aE m.name nm then some m else(l.drop (kk+1)).find? (λm=>aE m.name nm):=by
 rw[cZ h,List.find?_cons];cases aE m.name nm<;>rfl
theorem yA(hb:W.cell? ⟨b,9,none⟩=some ms)(hr:eE D W ps ms)(hl:All2 (mr S D W) l ps)(hn:isName nm=true)(LH:∀m∈l,isName m.name=true)(fold:Bool):
 Calls prog 115 #[ptr b,.string nm,.bool fold] W (Z6q l nm fold W):=by
 obtain⟨a,c,rfl⟩:=hr.form;have uE:(nm.toList==[95])=false:=xD hn;have rP:=hl.len;have rO:=hr.max;have HR:=Z hr;have HL:=Z hl;have HN:=Z hn;have Rg:=Z LH;clear hr hl hn LH;cases fold with
 |true=>
  go_enter func115,ntmps115;go_wp2_with fail;clear hb
  go_loopg [19] ps.length (λgg s19 wr=>∃kk:Nat,kk<=ps.length/\ps.length - kk<=gg/\s19=.int .i64 kk/\wr=W)
  case atStart=>exact⟨0,jQc _,m9,rfl,rfl⟩
  case round=>
   obtain⟨kk,ez,hg,rfl,rfl⟩:=hrel;by_cases aM:kk<ps.length
   ·have aR:(kk:Int)<(ps.length:Int):=m9
    obtain⟨m,hm⟩:∃m,l[kk]?=some m:=⟨l[kk]' m9,by simp[show kk<l.length by omega]⟩;obtain⟨p,hp,hv⟩:=HL.1.at hm;obtain⟨b7,o7,rfl, -,Lf⟩:=HR.1.nth hp;obtain⟨b9,pos,pk,sb,rb,pos',F0,Wf,k,rt,rfl,CR,sD, -⟩:=hv;have c2:wr.cell? ⟨b9,2,none⟩=some (.string m.name):=by simp[World.cell?,sD]
    have ag:=AV wr (Rg.1 m (jQ8 hm)) HN.1;have HM:=Z hm;clear hm hp sD;go_wp2_with fail;refine ag.mono ?_;rintro e w' ⟨rr,rfl,hw⟩;replace hw:=hw.symm;subst hw;clear ag;cases rr
    ·go_wp2_with fail;go_roundg (ps.length - (kk+1))
     case measure=>omega
     case rel=>exact⟨kk+1,m9,m9,by go_num,rfl⟩
    ·go_wp2_with fail;go_ret;exact⟨rfl,.inr ⟨kk,m,rfl,HM.1,λh=>by cases h⟩⟩
   ·have aR:¬(kk:Int)<(ps.length:Int):=m9
    go_wp2_with fail;go_ret;exact⟨rfl,.inl ⟨rfl,λh=>by cases h⟩⟩
 |false=>
  go_enter func115,ntmps115;go_wp2_with fail;clear hb
  go_loopg [38] ps.length (λgg s38 wr=>∃kk:Nat,kk<=ps.length/\ps.length - kk<=gg/\s38=.int .i64 kk/\wr=W/\Aside ((l.drop kk).find? (λm=>aE m.name nm)=l.find? (λm=>aE m.name nm)))
  case atStart=>exact⟨0,jQc _,m9,rfl,rfl,by simp[Aside]⟩
  case round=>
   obtain⟨kk,ez,hg,rfl,rfl,A⟩:=hrel;by_cases aM:kk<ps.length
   ·have aR:(kk:Int)<(ps.length:Int):=m9
    obtain⟨m,hm⟩:∃m,l[kk]?=some m:=⟨l[kk]' m9,by simp[show kk<l.length by omega]⟩;obtain⟨p,hp,hv⟩:=HL.1.at hm;obtain⟨b7,o7,rfl, -,Lf⟩:=HR.1.nth hp;obtain⟨b9,pos,pk,sb,rb,pos',F0,Wf,k,rt,rfl,CR,sD, -⟩:=hv;have c2:wr.cell? ⟨b9,2,none⟩=some (.string m.name):=by simp[World.cell?,sD]
    have hA:=A.out;rw[Pr hm]at hA;have HM:=Z hm;by_cases dU:m.name=nm
    ·have bk:=gB dU;have HA:=Z (show l.find? (λm=>aE m.name nm)=some m by rw[<-hA,jQ7 (by simp[aE,dU])]);clear hm hp sD hA dU;go_wp2_with fail;go_ret;exact⟨rfl,.inr ⟨kk,m,rfl,HM.1,λ_=>HA.1⟩⟩
    ·have bk:=jX dU;have HA:=Z (show(l.drop (kk+1)).find? (λm=>aE m.name nm)=l.find? (λm=>aE m.name nm)by rw[<-hA,jQ4 (by simp[aE,dU])]);clear hm hp sD hA dU;go_wp2_with fail;go_roundg (ps.length - (kk+1))
     case measure=>omega
     case rel=>exact⟨kk+1,m9,m9,by go_num,rfl,HA.1⟩
   ·have aR:¬(kk:Int)<(ps.length:Int):=m9
    have hA:=A.out;rw[jQf m9]at hA;have HA:=Z (show l.find? (λm=>aE m.name nm)=none by rw[<-hA];rfl);clear hA;go_wp2_with fail;go_ret;exact⟨rfl,.inl ⟨rfl,λ_=>HA.1⟩⟩
theorem GN(W:World)(h:W.heap[b]?=some (.cells #[.string p,.string q] 83 (0,0))):Calls prog 113 #[ptr b,ptr b] W λe W'=>e=.returned (.bool true)/\∃m,W'=W.drewN m:=by
 have c1:W.cell? ⟨b,0,none⟩=some (.string p):=by simp[World.cell?,h]
 clear h;go_enter func113,ntmps113;go_wp2_with fail;go_quiet (fail);go_wp2_with fail;go_ret;exact⟨i6,_,rfl⟩
theorem sZ(hd:W.heap[d]?=some (.cells #[.pointer none,ptr ob,.bool false,.int .i32 0,.int .u32 0,.int .u32 15,ut,ut,.bool false,ms] 113 (0,0)))(ho:W.heap[ob]?=some (.cells #[.int .i64 p0,ptr pk,.string nm0,tv] 117 (0,0)))(Hm:W.heap[pk]?=some (.cells #[.string p,.string q] 83 (0,0)))(hf:W.heap[fb]?=some (.cells #[.int .i64 pos,ptr pk,.string nm,v6,.bool false,.bool false] 178 (0,0)))(aL:W.ownsRow base 95 1 ms ps.length ps)(cS:base<=W.heap.size)(cF:ps.length+1<=1099511627776)(hr:eE D W ps ms)(hl:All2 (mr S D W) l ps)(hn:isName nm=true)(LH:∀m∈l,isName m.name=true)(yN:l.find? (λm=>aE m.name nm)=none):
 Calls prog 68 #[ptr d,ptr fb] W λe W'=>e=.returned (.tuple #[])/\∃xX,W'.ownsRow base 95 1 xX (ps++[ptr fb]).length (ps++[ptr fb])/\(xX.ownBlock=ms.ownBlock\/∃g,xX.ownBlock=some g/\W.heap.size<=g)/\
  W'.heap[d]?=some (.cells #[.pointer none,ptr ob,.bool false,.int .i32 0,.int .u32 0,.int .u32 15,ut,ut,.bool false,xX] 113 (0,0))/\W'.os=W.os/\W'.tape=W.tape/\W'.output=W.output/\W.heap.size<=W'.heap.size/\∀b,b<W.heap.size->b≠d->ms.ownBlock≠some b->W'.heap[b]?=W.heap[b]?:=by
 have c1:W.cell? ⟨d,1,none⟩=some (ptr ob):=by simp[World.cell?,hd]
 have c2:W.cell? ⟨ob,1,none⟩=some (ptr pk):=by simp[World.cell?,ho]
 have c3:W.cell? ⟨fb,1,none⟩=some (ptr pk):=by simp[World.cell?,hf]
 obtain⟨HC1,WZ,HD,HF,eK,HR,HL,HN⟩:=Z8 (λn=>GN (W.drewN n) Hm) bO hd hf aL hr hl hn;have Rg:=Z LH;have Oo:=Z yN;clear hd ho Hm hf aL hr hl hn LH yN;go_enter func68,ntmps68;go_wp2_with fail;go_quiet (first|(go_at_call 113;refine Calls.quiet_of (HC1.1 _))|(go_at_call 96;refine Calls.quiet_of_same (WZ.1 _)));go_wp2_with fail;have hu:=vN d (W.drewN nq) (by show W.cell? ⟨d,5,none⟩=_;simp[World.cell?,HD.1]);have WL:=yA (W:=W.drewN nq) (S:=S) (D:=D) (b:=d) (ms:=ms) (ps:=ps) (l:=l) (nm:=nm) (by show W.cell? ⟨d,9,none⟩=_;simp[World.cell?,HD.1]) HR.1 HL.1 HN.1 Rg.1 false;have hh:∃W1,W1=W.drewN nq/\W1.heap=W.heap/\W1.os=W.os/\W1.tape=W.tape/\W1.output=W.output:=⟨_,rfl,rfl,rfl,rfl,rfl⟩;obtain⟨W1,e1,g1,g2,g3,g4⟩:=hh;rw[<-e1]at hu WL⊢;clear e1;have c4:W1.cell? ⟨fb,2,none⟩=some (.string nm):=by simp[World.cell?,g1,HF.1]
 have c9:W1.cell? ⟨d,9,none⟩=some ms:=by simp[World.cell?,g1,HD.1]
 obtain⟨G1,G2,G3,G4⟩:=Z4 g1 g2 g3 g4;clear g1 g2 g3 g4;refine rv hu ?_;clear hu;go_wp2_with fail;refine WL.mono ?_;rintro e' w' ⟨hw,hx⟩;replace hw:=hw.symm;subst hw;have dt:e'=.returned (.int .i64 (-1)):=by
  rcases hx with⟨h,_⟩|⟨i,m,_,_,h⟩
  ·exact h
  ·have:=h rfl;rw[Oo.1]at this;cases this
 subst dt;clear WL hx;have KG:=Z (show(W1.alloc (.cells #[ptr fb] 95)).ownsRow base 95 1 ms ps.length ps from cD eK.1 λg hg=>(aq (by rw[G1.1];exact(aC eK.1 g hg).2.2.choose_spec)).trans (aC eK.1 g hg).2.2.choose_spec.symm);go_wp2_with (at_builtin;refine gH underlying97 U3 rfl m9 rfl _ _ rfl base ms ps rfl KG.1 (ptr fb) rfl ⟨W1.heap.size,0,none⟩ 1 rfl (cell_one_new _ _ _) cF (by rw[jQ3,G1.1];omega) ?_);intro v7 w7 bF jm uM;obtain⟨a7,n7,c7,rfl⟩:∃a n c,v7=.slice a n c:=M165
 have Ot:∀{b:Nat} {cs:Array Value} {ty:TypeId},W.heap[b]?=some (.cells cs ty (0,0))->ty≠95->ms.ownBlock≠some b:=λhb bk e=>by
  obtain⟨_,_,cur,h2⟩:=aC eK.1 _ e;rw[hb]at h2;cases h2;exact bk rfl
 have h7:w7.heap[d]?=_:=(jm.block d (by rw[jQ3,G1.1];have:=jQ2 HD.1;omega) λe=>Ot HD.1 i5 e.symm).trans (aq (by rw[G1.1];exact HD.1));have b9:w7.cell? ⟨d,9,none⟩=some ms:=by simp[World.cell?,h7]
 have z9:=cd h7 9;obtain⟨lZ,yU,lY,CJ⟩:=Z4 (aw h7 9 (Value.slice a7 n7 c7)) (show w7.ownsRow base 95 1 (Value.slice a7 n7 c7) (ps++[ptr fb]).length (ps++[ptr fb])by simpa using bF) jm uM;clear bF jm uM h7 c1 c2 c3 c4 c9;go_wp2_with fail;refine jRq (v:=.tuple #[]) (by simp[results,Tryz.results68,go_sem]) rfl ?_;refine⟨rfl,Value.slice a7 n7 c7,?_,?_,?_,?_,?_,?_,?_,?_⟩
 ·refine cD yU.1 λg hg=>lZ.1.other g λe=>?_;obtain hv|hv:=CJ.1
  ·rw[hv,e]at hg;exact Ot HD.1 i5 hg
  ·rw[hv,e]at hg;have h1:=jQ2 HD.1;have h2:=G1.1;simp[h2]at hg;omega
 ·obtain hv|hv:=CJ.1
  ·exact .inl hv
  ·exact .inr ⟨_,hv,by have:=G1.1;simp[this]⟩
 ·simpa using lZ.1.here
 ·exact lZ.1.os.trans (lY.1.os.trans G2.1)
 ·exact lZ.1.tape.trans (lY.1.tape.trans G3.1)
 ·exact lZ.1.output.trans (lY.1.output.trans G4.1)
 ·have:=lZ.1.size;have:=lY.1.size;rw[jQ3,G1.1]at this;omega
 ·intro b hb h1 h2;refine(lZ.1.other b h1).trans ((lY.1.block b (by rw[jQ3,G1.1];omega) λe=>h2 e.symm).trans ?_);show(W1.heap.push _)[b]?=_;rw[Array.getElem?_push,jQ4 (by rw[G1.1];omega),G1.1]
abbrev On(ob:Nat)(ut ms:Value):Obj:=.cells #[.pointer none,ptr ob,.bool false,.int .i32 0,.int .u32 0,.int .u32 15,ut,ut,.bool false,ms] 113 (0,0)
def MeR(NS:List ByteArray)(Q:GT->Prop)(w:List ah)(K:Nat)(B:Bl)(DI:Nat->Prop)(σ:BS)(W:World)(d ob base:Nat)(ut ms:Value)(ps:List Value)(m:aH)(e:Ending)(W':World):Prop:=
 e=.returned (.tuple #[])/\∃aO W1 p xX,Md NS Q w K B DI σ W (nds m.sig) aO W1/\mr aO.S aO.D W1 m p/\W'.ownsRow base 95 1 xX (ps++[p]).length (ps++[p])/\(xX.ownBlock=ms.ownBlock\/∃g,xX.ownBlock=some g/\W1.heap.size<=g)/\
  W'.heap[d]?=some (On ob ut xX)/\W'.os=W1.os/\W'.tape=W1.tape/\W'.output=W1.output/\W1.heap.size<=W'.heap.size/\∀b,b<W1.heap.size->b≠d->ms.ownBlock≠some b->W'.heap[b]?=W1.heap[b]?
theorem Jy(h:All2 (mr σ.S σ.D W) l ps)(hb:Bs NS Q w K B DI σ W)(hg:Gr B σ aO W W')(hk:∀m∈l,m.sig.kind=7):All2 (mr aO.S aO.D W') l ps:=by
 induction l generalizing ps with
 |nil=>cases ps with
  |nil=>trivial
  |cons _ _=>exact h.elim
 |cons m l ih=>cases ps with
  |nil=>exact h.elim
  |cons p ps=>exact⟨h.1.move hg.sle (hg.aJ hb) (λb s hs _=>hg.types hb b s hs) (hk m i6),ih h.2 λm' j9=>hk m' (by simp[j9])⟩
theorem DS(ih:∀N,dR NS Q w K B DI N){m:aH}{mp:Bool}(lD:m.ptr=mp){a0:Option Addr}(cG:Bs NS Q w K B DI σ W)(hd:B.ds[j]?=some d)(hdh:W.heap[d]?=some (On ob ut ms))(hod:σ.D ob)(Nj:W.heap[ob]?=some (.cells #[.int .i64 p0,ptr B.pk,.string nm0,tv] 117 (0,0)))(kX:dK B DI σ base W 95 ps ms)(cS:base<=W.heap.size)(hl:All2 (mr σ.S σ.D W) l ps)(hlk:∀m∈l,m.sig.kind=7/\isName m.name=true)(hk:m.sig.kind=7)(dU:isName m.name=true)(yN:l.find? (λx=>aE x.name m.name)=none)(hp:PT NS Q w 2 m.sig)(hs:RS DI W m.sig.elems (.slice a0 m.sig.elems.length c))(cF:σ.ml.length+nds m.sig<=1099511627776)(kj:ps.length+1<=1099511627776):
 Calls prog 29 #[ptr B.bb,.int .i64 j,.agg #[.string m.name,.bool mp,.int .i64 m.sig.kind,.int .i64 m.sig.n,.int .i64 m.sig.m,.bool m.sig.va,.string m.sig.name,.string m.sig.tag,.slice a0 m.sig.elems.length c]] W (MeR NS Q w K B DI σ W d ob base ut ms ps m):=by
 have ar:=an W (.cells #[.string m.name,.bool mp,.int .i64 m.sig.kind,.int .i64 m.sig.n,.int .i64 m.sig.m,.bool m.sig.va,.string m.sig.name,.string m.sig.tag,.slice a0 m.sig.elems.length c] 68);have jz:=ak W (.cells #[.string m.name,.bool mp,.int .i64 m.sig.kind,.int .i64 m.sig.n,.int .i64 m.sig.m,.bool m.sig.va,.string m.sig.name,.string m.sig.tag,.slice a0 m.sig.elems.length c] 68);obtain⟨x0,x1,x2,x3,x4,x5,x6,x7,x8⟩:=uk jz;have yF:=Z ((Md.start cG).below ar);have hds:=cG.rn _ _ hd;have nr:=yF.1.bs.row;obtain⟨ra,rc,eD⟩:=nr.form;rw[eD,jR7]at nr;obtain⟨db,DK,rfl,uw,SO⟩:=nr.nth (p:=ptr d) (by rw[List.getElem?_map,hd];rfl);have hblk:=yF.1.bs.jl;have KZ:=eD;rw[jR7]at KZ;rw[KZ]at hblk;have zI:(W.alloc (.cells #[.string m.name,.bool mp,.int .i64 m.sig.kind,.int .i64 m.sig.n,.int .i64 m.sig.m,.bool m.sig.va,.string m.sig.name,.string m.sig.tag,.slice a0 m.sig.elems.length c] 68)).cell? ⟨B.bb,0,none⟩=some (ptr B.pk):=by simp[World.cell?,hblk]
 have iT:(W.alloc (.cells #[.string m.name,.bool mp,.int .i64 m.sig.kind,.int .i64 m.sig.n,.int .i64 m.sig.m,.bool m.sig.va,.string m.sig.name,.string m.sig.tag,.slice a0 m.sig.elems.length c] 68)).cell? ⟨B.bb,1,none⟩=some (.slice (some ⟨db,DK,none⟩) B.ds.length rc):=by simp[World.cell?,hblk]
 have aM:(j:Int)<(B.ds.length:Int):=by have:=(jQg.1 hd).1;omega
 have fq:=cG.loc (g:=W.heap.size) (jQ0 _);have GI:=jQ2 jz;have gV:=Z (show∀mL w',Bs NS Q w K B DI mL w'->Gr B σ mL (W.alloc (.cells #[.string m.name,.bool mp,.int .i64 m.sig.kind,.int .i64 m.sig.n,.int .i64 m.sig.m,.bool m.sig.va,.string m.sig.name,.string m.sig.tag,.slice a0 m.sig.elems.length c] 68)) w'->w'.cell? ⟨B.bb,0,none⟩=some (ptr B.pk)/\w'.cell? ⟨B.bb,1,none⟩=some (.slice (some ⟨db,DK,none⟩) B.ds.length rc)/\w'.cell? ⟨db,DK+j,none⟩=some (ptr d)/\w'.cell? ⟨W.heap.size,0,none⟩=some (.string m.name)/\w'.cell? ⟨W.heap.size,1,none⟩=some (.bool mp)/\w'.cell? ⟨W.heap.size,2,none⟩=some (.int .i64 m.sig.kind)/\w'.cell? ⟨W.heap.size,3,none⟩=some (.int .i64 m.sig.n)/\w'.cell? ⟨W.heap.size,4,none⟩=some (.int .i64 m.sig.m)/\w'.cell? ⟨W.heap.size,5,none⟩=some (.bool m.sig.va)/\w'.cell? ⟨W.heap.size,6,none⟩=some (.string m.sig.name)/\w'.cell? ⟨W.heap.size,7,none⟩=some (.string m.sig.tag)/\w'.cell? ⟨W.heap.size,8,none⟩=some (.slice a0 m.sig.elems.length c)from
  λmL w' h1 h2=>⟨by simp[World.cell?,h1.jl],by simp[World.cell?,h1.jl,KZ],(jQi (w:=W.alloc (.cells #[.string m.name,.bool mp,.int .i64 m.sig.kind,.int .i64 m.sig.n,.int .i64 m.sig.m,.bool m.sig.va,.string m.sig.name,.string m.sig.tag,.slice a0 m.sig.elems.length c] 68)) (h2.aJ yF.1.bs db uw).2).trans SO,fq.cell GI h2 x0,fq.cell GI h2 x1,fq.cell GI h2 x2,fq.cell GI h2 x3,fq.cell GI h2 x4,fq.cell GI h2 x5,fq.cell GI h2 x6,fq.cell GI h2 x7,fq.cell GI h2 x8⟩)
 have hv:RT DI (W.alloc (.cells #[.string m.name,.bool mp,.int .i64 m.sig.kind,.int .i64 m.sig.n,.int .i64 m.sig.m,.bool m.sig.va,.string m.sig.name,.string m.sig.tag,.slice a0 m.sig.elems.length c] 68)) m.sig (.agg #[.int .i64 m.sig.kind,.int .i64 m.sig.n,.int .i64 m.sig.m,.bool m.sig.va,.string m.sig.name,.string m.sig.tag,.slice a0 m.sig.elems.length c]):=by
  have:=hs.move (λx hx=>(⟨hx,ar.block x (cG.di x hx).1⟩:DI x/\(W.alloc (.cells #[.string m.name,.bool mp,.int .i64 m.sig.kind,.int .i64 m.sig.n,.int .i64 m.sig.m,.bool m.sig.va,.string m.sig.name,.string m.sig.tag,.slice a0 m.sig.elems.length c] 68)).heap[x]?=W.heap[x]?));obtain⟨mn,mpp,k,n,mm,va,nm,tg,l⟩:=m;rw[RT];exact⟨_,rfl,this⟩
 obtain⟨HRT,KR,uL,Hn,nX,HDS,HDH,P2⟩:=Z8 (show∀mL w',Gr B σ mL (W.alloc (.cells #[.string m.name,.bool mp,.int .i64 m.sig.kind,.int .i64 m.sig.n,.int .i64 m.sig.m,.bool m.sig.va,.string m.sig.name,.string m.sig.tag,.slice a0 m.sig.elems.length c] 68)) w'->RT DI w' m.sig (.agg #[.int .i64 m.sig.kind,.int .i64 m.sig.n,.int .i64 m.sig.m,.bool m.sig.va,.string m.sig.name,.string m.sig.tag,.slice a0 m.sig.elems.length c])from λmL w' h=>hv.move (yF.1.bs.C0 h)) ih cG hk hp hds hdh hod;obtain⟨XC,Ls,zq,HLK,wS,Oo,Ob,kr⟩:=Z8 Nj kX hl hlk dU yN kj cF;obtain⟨HMP,HDB,eQ,HGA⟩:=Z4 lD uw cS (Gr.below ar:Gr B σ σ W _);clear ih cG hd hdh hod Nj kX cS hl hlk hk dU yN hp hs cF kj lD ar jz hds nr eD hblk KZ fq GI hv uw;cases mp with
 |false=>
  go_enter func29,ntmps29;go_wp2_with fail;obtain⟨ym,HRP,acd⟩:=Z3 (Gr.refl (B:=B) σ (W.alloc (.cells #[.string m.name,.bool false,.int .i64 m.sig.kind,.int .i64 m.sig.n,.int .i64 m.sig.m,.bool m.sig.va,.string m.sig.name,.string m.sig.tag,.slice a0 m.sig.elems.length c] 68))) (show false=true->∃tt,σ.S d=some tt/\tt.kind=6 from λh=>by cases h) (show σ.ml.length+nds m.sig<=1099511627776 from kr.1);clear x0 x1 x2 x3 x4 x5 x6 x7 x8 SO zI iT;generalize Lc:W.alloc (.cells #[.string m.name,.bool false,.int .i64 m.sig.kind,.int .i64 m.sig.n,.int .i64 m.sig.m,.bool m.sig.va,.string m.sig.name,.string m.sig.tag,.slice a0 m.sig.elems.length c] 68)=wB at yF gV HRT HGA ym⊢;have KF:=yF;have hcv:=sW 0 (some ⟨B.pk,0,none⟩) ⟨#[]⟩ 53 (ptr d) wB;refine rv hcv ?_;clear hcv;obtain⟨rG,Oq,HVB⟩:=Z3 ((KF.1.iz #[.int .i64 0,ptr B.pk,.string ⟨#[]⟩,.iface 53 (ptr d),.int .u8 1,.bool false] 167).below (jQ5 _ _).drew) ((ym.1.trans (jk KF.1.bs #[.int .i64 0,ptr B.pk,.string ⟨#[]⟩,.iface 53 (ptr d),.int .u8 1,.bool false] 167)).trans (Gr.below (jQ5 _ _).drew)) (ak wB (.cells #[.int .i64 0,ptr B.pk,.string ⟨#[]⟩,.iface 53 (ptr d),.int .u8 1,.bool false] 167));have HVE:=Z (HRT.1 _ _ Oq.1);have HLM:=Z (show _+nds m.sig<=1099511627776 from acd.1);go_wp2_with fail;refine jQ9 (S:=(λw'=>w'.cell? ⟨B.bb,0,none⟩=some (ptr B.pk)/\w'.cell? ⟨B.bb,1,none⟩=some (.slice (some ⟨db,DK,none⟩) B.ds.length rc)/\w'.cell? ⟨db,DK+j,none⟩=some (ptr d)/\w'.cell? ⟨W.heap.size,0,none⟩=some (.string m.name)/\w'.cell? ⟨W.heap.size,1,none⟩=some (.bool false)/\w'.cell? ⟨W.heap.size,2,none⟩=some (.int .i64 m.sig.kind)/\w'.cell? ⟨W.heap.size,3,none⟩=some (.int .i64 m.sig.n)/\w'.cell? ⟨W.heap.size,4,none⟩=some (.int .i64 m.sig.m)/\w'.cell? ⟨W.heap.size,5,none⟩=some (.bool m.sig.va)/\w'.cell? ⟨W.heap.size,6,none⟩=some (.string m.sig.name)/\w'.cell? ⟨W.heap.size,7,none⟩=some (.string m.sig.tag)/\w'.cell? ⟨W.heap.size,8,none⟩=some (.slice a0 m.sig.elems.length c))) g9 (gV.1 _ _ rG.1.bs Oq.1) (λai=>?_);refine t4 0 1 2 3 ?_;refine t4 4 5 6 7 ?_;refine t4 8 9 10 11 ?_;refine t4 12 13 14 15 ?_;refine tk 16 ?_;refine rd 17 rfl λK hK=>?_;go_simp;clear ai;refine(je (KR.1 (nds m.sig)) KK (some ⟨wB.heap.size,0,none⟩) Hn.1 (Nat.le_succ _) nX.1 rG.1.bs HVE.1 HLM.1).mono ?_;rintro eA wA ⟨u,σ3,rfl,cq,b1,pa,re,rfl,yW,cG,RY⟩;obtain⟨oU,rQ,UF,wL,HSH⟩:=Z5 (rG.1.trans cq) (Oq.1.trans cq.gr) cq.gr cG RY;refine hK.out _ _ (gV.1 _ _ oU.1.bs rQ.1) (λai=>?_);clear cq yW cG RY;clear hK K;refine rd 18 rfl λK hK=>?_;go_simp;clear ai;refine rv (kM _ _ _ _ _) ?_;obtain⟨jI,mQ,UG⟩:=Z3 (oU.1.iz #[.int .i64 0,ptr B.pk,.string m.name,.iface 90 (ptr b1),.bool false,.bool false] 178) (rQ.1.trans (jk oU.1.bs #[.int .i64 0,ptr B.pk,.string m.name,.iface 90 (ptr b1),.bool false,.bool false] 178)) (UF.1.trans (jk oU.1.bs #[.int .i64 0,ptr B.pk,.string m.name,.iface 90 (ptr b1),.bool false,.bool false] 178));refine hK.out _ _ (gV.1 _ _ jI.1.bs mQ.1) (λai=>?_);clear hK K;refine rd 19 rfl λK hK=>?_;go_simp;have mF:=ai;clear ai;have JU:=HGA.1.trans mQ.1;have hdt:=(JU.types uL.1 d _ HDS.1).trans HDH.1;have UH:=(JU.aJ uL.1 ob P2.1);have yW:base<=(wA.alloc (.cells #[.int .i64 0,ptr B.pk,.string m.name,.iface 90 (ptr b1),.bool false,.bool false] 178)).heap.size:=by have:=eQ.1;have:=JU.size;omega
  obtain⟨pb',pp,pq,epk, -,Hm⟩:=jI.1.bs.Rm.resolve_left i6;simp at epk;subst epk;have Y6:=Ls.1.gr JU;have HRW:=Z Y6;have gP:=Jy zq.1 uL.1 JU (λm hm=>(HLK.1 m hm).1);have yT:All2 (mr _ (λb=>(σ3.D b\/b=wA.heap.size)\/ms.ownBlock=some b) (wA.alloc (.cells #[.int .i64 0,ptr B.pk,.string m.name,.iface 90 (ptr b1),.bool false,.bool false] 178))) l ps:=gP.imp λm p h=>by
   obtain⟨b,pos,pk,sb,rb,pos',F0,nm,k,rt,h1,h2,h3,h4,h5,h6,h7⟩:=h;exact⟨b,pos,pk,sb,rb,pos',F0,nm,k,rt,h1,.inl h2,h3,h4,h5,.inl h6,h7⟩
  refine(sZ (D:=λb=>(σ3.D b\/b=wA.heap.size)\/ms.ownBlock=some b) hdt (UH.2.trans XC.1) Hm (ak wA (.cells #[.int .i64 0,ptr B.pk,.string m.name,.iface 90 (ptr b1),.bool false,.bool false] 178)) Y6.own yW Ob.1 (Y6.row λg hg=>.inr hg) yT wS.1 (λm hm=>(HLK.1 m hm).2) Oo.1).mono ?_;rintro eA wD ⟨rfl,xX,aL,hmo,Ot,Ao,fQ,Le,j8,j6⟩;have ace:=Z (And.intro aL (And.intro hmo (And.intro Ot (And.intro Ao (And.intro fQ (And.intro Le (And.intro j8 j6)))))));have jC:∀{b i:Nat} {u:Value},b≠d->ms.ownBlock≠some b->(wA.alloc (.cells #[.int .i64 0,ptr B.pk,.string m.name,.iface 90 (ptr b1),.bool false,.bool false] 178)).cell? ⟨b,i,none⟩=some u->wD.cell? ⟨b,i,none⟩=some u:=λh1 h2 h3=>(jQi (w:=wA.alloc (.cells #[.int .i64 0,ptr B.pk,.string m.name,.iface 90 (ptr b1),.bool false,.bool false] 178)) (j6 _ (jQs h3) h1 h2)).trans h3;have q1:B.bb≠d:=λe=>by have:=jI.1.bs.kJ.1;rw[e,JU.sle _ _ HDS.1]at this;cases this
  have q2:ms.ownBlock≠some B.bb:=λe=>(HRW.1.loc _ e).2.2.1 rfl;have q3:db≠d:=λe=>jI.1.bs.th.rS d _ (JU.sle _ _ HDS.1) (e▸mQ.1.Jo _ HDB.1);have q4:ms.ownBlock≠some db:=λe=>(HRW.1.loc _ e).2.1 (mQ.1.Jo _ HDB.1);have q5:W.heap.size≠d:=λe=>by have:=jQ2 HDH.1;omega
  have q6:ms.ownBlock≠some W.heap.size:=λe=>by have:=(aC Ls.1.own _ e).2.1;omega
  refine hK.out _ _ ⟨jC q1 q2 mF.1,jC q1 q2 mF.2.1,jC q3 q4 mF.2.2.1,jC q5 q6 mF.2.2.2.1,jC q5 q6 mF.2.2.2.2.1,jC q5 q6 mF.2.2.2.2.2.1,jC q5 q6 mF.2.2.2.2.2.2.1,jC q5 q6 mF.2.2.2.2.2.2.2.1,jC q5 q6 mF.2.2.2.2.2.2.2.2.1,jC q5 q6 mF.2.2.2.2.2.2.2.2.2.1,jC q5 q6 mF.2.2.2.2.2.2.2.2.2.2.1,jC q5 q6 mF.2.2.2.2.2.2.2.2.2.2.2⟩ (λai=>?_);clear JU yW mF jC q1 q2 q3 q4 q5 q6 aL hmo Ot Ao fQ Le j8 j6 Y6 gP yT UH hdt;clear hK K;refine jQl g9 ?_ _;clear ai;go_wp2_with fail;refine jRq (v:=.tuple #[]) (by simp[results,Tryz.results29,go_sem]) rfl ?_;have bk:=gq m.sig;refine⟨rfl,_,_,ptr wA.heap.size,xX,jI.1.more m9,?_,ace.1⟩;refine⟨wA.heap.size,0,some ⟨B.pk,0,none⟩,b1,wB.heap.size,0,some ⟨B.pk,0,none⟩,⟨#[]⟩,1,d,rfl,.inr rfl,ak _ _,wL.1,?_,.inl (UF.1.Jo _ (.inr rfl)),?_,λhp=>?_⟩
  ·exact M132
  ·exact M216
  ·exact M162
 |true=>
  go_enter func29,ntmps29;go_wp2_with fail;clear x0 x1 x2 x3 x4 x5 x6 x7 x8 SO iT;generalize Lc:W.alloc (.cells #[.string m.name,.bool true,.int .i64 m.sig.kind,.int .i64 m.sig.n,.int .i64 m.sig.m,.bool m.sig.va,.string m.sig.name,.string m.sig.tag,.slice a0 m.sig.elems.length c] 68)=w1 at yF gV HRT HGA zI⊢;have Y7:=oF 53 (ptr d) w1;refine rv Y7 ?_;clear Y7;have hpo:=ad9 (t:=.mk 6 0 0 false es es [r9 j]) (e:=r9 j) (Md.start yF.1.bs) rfl rfl (v:=.iface 53 (ptr d)) ⟨d,rfl,by rw[Uo (t:=r9 j) rfl (by simp[r9,GT.n])];exact HDS.1⟩;obtain⟨u5,σB,e5,Y8,b5,e6,Q3⟩:=hpo;cases e5;simp at e6;obtain⟨-,e6⟩:=e6;subst e6;have mU:=aq (o:=.cells #[.iface 53 (ptr d)] 145) yF.1.bs.jl;replace zI:(w1.alloc (.cells #[.iface 53 (ptr d)] 145)).cell? ⟨B.bb,0,none⟩=some (ptr B.pk):=by simp[World.cell?,mU]
  obtain⟨ym,KF,HRP,acd⟩:=Z4 Y8.gr (yF.1.trans Y8) (show true=true->∃tt,σB.S w1.heap.size=some tt/\tt.kind=6 from λ_=>⟨_,Q3,rfl⟩) (show σB.ml.length+nds m.sig<=1099511627776 by have h1:=Y8.len;have h2:=kr.1;omega);clear Y8 Q3 mU;obtain⟨rp,hrp⟩:∃rp,rp=w1.heap.size:=⟨_,rfl⟩;rw[<-hrp]at HRP;generalize oW:w1.alloc (.cells #[.iface 53 (ptr d)] 145)=wB at ym KF zI⊢;simp only[<-hrp];clear Lc oW hrp;go_wp2_with fail;have hcv:=sW 0 (some ⟨B.pk,0,none⟩) ⟨#[]⟩ 131 (ptr rp) wB;refine rv hcv ?_;clear hcv;obtain⟨rG,Oq,HVB⟩:=Z3 ((KF.1.iz #[.int .i64 0,ptr B.pk,.string ⟨#[]⟩,.iface 131 (ptr rp),.int .u8 1,.bool false] 167).below (jQ5 _ _).drew) ((ym.1.trans (jk KF.1.bs #[.int .i64 0,ptr B.pk,.string ⟨#[]⟩,.iface 131 (ptr rp),.int .u8 1,.bool false] 167)).trans (Gr.below (jQ5 _ _).drew)) (ak wB (.cells #[.int .i64 0,ptr B.pk,.string ⟨#[]⟩,.iface 131 (ptr rp),.int .u8 1,.bool false] 167));have HVE:=Z (HRT.1 _ _ Oq.1);have HLM:=Z (show _+nds m.sig<=1099511627776 from acd.1);go_wp2_with fail;refine jQ9 (S:=(λw'=>w'.cell? ⟨B.bb,0,none⟩=some (ptr B.pk)/\w'.cell? ⟨B.bb,1,none⟩=some (.slice (some ⟨db,DK,none⟩) B.ds.length rc)/\w'.cell? ⟨db,DK+j,none⟩=some (ptr d)/\w'.cell? ⟨W.heap.size,0,none⟩=some (.string m.name)/\w'.cell? ⟨W.heap.size,1,none⟩=some (.bool true)/\w'.cell? ⟨W.heap.size,2,none⟩=some (.int .i64 m.sig.kind)/\w'.cell? ⟨W.heap.size,3,none⟩=some (.int .i64 m.sig.n)/\w'.cell? ⟨W.heap.size,4,none⟩=some (.int .i64 m.sig.m)/\w'.cell? ⟨W.heap.size,5,none⟩=some (.bool m.sig.va)/\w'.cell? ⟨W.heap.size,6,none⟩=some (.string m.sig.name)/\w'.cell? ⟨W.heap.size,7,none⟩=some (.string m.sig.tag)/\w'.cell? ⟨W.heap.size,8,none⟩=some (.slice a0 m.sig.elems.length c))) g9 (gV.1 _ _ rG.1.bs Oq.1) (λai=>?_);refine t4 0 1 2 3 ?_;refine t4 4 5 6 7 ?_;refine t4 8 9 10 11 ?_;refine t4 12 13 14 15 ?_;refine tk 16 ?_;refine rd 17 rfl λK hK=>?_;go_simp;clear ai;refine(je (KR.1 (nds m.sig)) KK (some ⟨wB.heap.size,0,none⟩) Hn.1 (Nat.le_succ _) nX.1 rG.1.bs HVE.1 HLM.1).mono ?_;rintro eA wA ⟨u,σ3,rfl,cq,b1,pa,re,rfl,yW,cG,RY⟩;obtain⟨oU,rQ,UF,wL,HSH⟩:=Z5 (rG.1.trans cq) (Oq.1.trans cq.gr) cq.gr cG RY;refine hK.out _ _ (gV.1 _ _ oU.1.bs rQ.1) (λai=>?_);clear cq yW cG RY;clear hK K;refine rd 18 rfl λK hK=>?_;go_simp;clear ai;refine rv (kM _ _ _ _ _) ?_;obtain⟨jI,mQ,UG⟩:=Z3 (oU.1.iz #[.int .i64 0,ptr B.pk,.string m.name,.iface 90 (ptr b1),.bool false,.bool false] 178) (rQ.1.trans (jk oU.1.bs #[.int .i64 0,ptr B.pk,.string m.name,.iface 90 (ptr b1),.bool false,.bool false] 178)) (UF.1.trans (jk oU.1.bs #[.int .i64 0,ptr B.pk,.string m.name,.iface 90 (ptr b1),.bool false,.bool false] 178));refine hK.out _ _ (gV.1 _ _ jI.1.bs mQ.1) (λai=>?_);clear hK K;refine rd 19 rfl λK hK=>?_;go_simp;have mF:=ai;clear ai;have JU:=HGA.1.trans mQ.1;have hdt:=(JU.types uL.1 d _ HDS.1).trans HDH.1;have UH:=(JU.aJ uL.1 ob P2.1);have yW:base<=(wA.alloc (.cells #[.int .i64 0,ptr B.pk,.string m.name,.iface 90 (ptr b1),.bool false,.bool false] 178)).heap.size:=by have:=eQ.1;have:=JU.size;omega
  obtain⟨pb',pp,pq,epk, -,Hm⟩:=jI.1.bs.Rm.resolve_left i6;simp at epk;subst epk;have Y6:=Ls.1.gr JU;have HRW:=Z Y6;have gP:=Jy zq.1 uL.1 JU (λm hm=>(HLK.1 m hm).1);have yT:All2 (mr _ (λb=>(σ3.D b\/b=wA.heap.size)\/ms.ownBlock=some b) (wA.alloc (.cells #[.int .i64 0,ptr B.pk,.string m.name,.iface 90 (ptr b1),.bool false,.bool false] 178))) l ps:=gP.imp λm p h=>by
   obtain⟨b,pos,pk,sb,rb,pos',F0,nm,k,rt,h1,h2,h3,h4,h5,h6,h7⟩:=h;exact⟨b,pos,pk,sb,rb,pos',F0,nm,k,rt,h1,.inl h2,h3,h4,h5,.inl h6,h7⟩
  refine(sZ (D:=λb=>(σ3.D b\/b=wA.heap.size)\/ms.ownBlock=some b) hdt (UH.2.trans XC.1) Hm (ak wA (.cells #[.int .i64 0,ptr B.pk,.string m.name,.iface 90 (ptr b1),.bool false,.bool false] 178)) Y6.own yW Ob.1 (Y6.row λg hg=>.inr hg) yT wS.1 (λm hm=>(HLK.1 m hm).2) Oo.1).mono ?_;rintro eA wD ⟨rfl,xX,aL,hmo,Ot,Ao,fQ,Le,j8,j6⟩;have ace:=Z (And.intro aL (And.intro hmo (And.intro Ot (And.intro Ao (And.intro fQ (And.intro Le (And.intro j8 j6)))))));have jC:∀{b i:Nat} {u:Value},b≠d->ms.ownBlock≠some b->(wA.alloc (.cells #[.int .i64 0,ptr B.pk,.string m.name,.iface 90 (ptr b1),.bool false,.bool false] 178)).cell? ⟨b,i,none⟩=some u->wD.cell? ⟨b,i,none⟩=some u:=λh1 h2 h3=>(jQi (w:=wA.alloc (.cells #[.int .i64 0,ptr B.pk,.string m.name,.iface 90 (ptr b1),.bool false,.bool false] 178)) (j6 _ (jQs h3) h1 h2)).trans h3;have q1:B.bb≠d:=λe=>by have:=jI.1.bs.kJ.1;rw[e,JU.sle _ _ HDS.1]at this;cases this
  have q2:ms.ownBlock≠some B.bb:=λe=>(HRW.1.loc _ e).2.2.1 rfl;have q3:db≠d:=λe=>jI.1.bs.th.rS d _ (JU.sle _ _ HDS.1) (e▸mQ.1.Jo _ HDB.1);have q4:ms.ownBlock≠some db:=λe=>(HRW.1.loc _ e).2.1 (mQ.1.Jo _ HDB.1);have q5:W.heap.size≠d:=λe=>by have:=jQ2 HDH.1;omega
  have q6:ms.ownBlock≠some W.heap.size:=λe=>by have:=(aC Ls.1.own _ e).2.1;omega
  refine hK.out _ _ ⟨jC q1 q2 mF.1,jC q1 q2 mF.2.1,jC q3 q4 mF.2.2.1,jC q5 q6 mF.2.2.2.1,jC q5 q6 mF.2.2.2.2.1,jC q5 q6 mF.2.2.2.2.2.1,jC q5 q6 mF.2.2.2.2.2.2.1,jC q5 q6 mF.2.2.2.2.2.2.2.1,jC q5 q6 mF.2.2.2.2.2.2.2.2.1,jC q5 q6 mF.2.2.2.2.2.2.2.2.2.1,jC q5 q6 mF.2.2.2.2.2.2.2.2.2.2.1,jC q5 q6 mF.2.2.2.2.2.2.2.2.2.2.2⟩ (λai=>?_);clear JU yW mF jC q1 q2 q3 q4 q5 q6 aL hmo Ot Ao fQ Le j8 j6 Y6 gP yT UH hdt;clear hK K;refine jQl g9 ?_ _;clear ai;go_wp2_with fail;refine jRq (v:=.tuple #[]) (by simp[results,Tryz.results29,go_sem]) rfl ?_;have bk:=gq m.sig;refine⟨rfl,_,_,ptr wA.heap.size,xX,jI.1.more m9,?_,ace.1⟩;refine⟨wA.heap.size,0,some ⟨B.pk,0,none⟩,b1,wB.heap.size,0,some ⟨B.pk,0,none⟩,⟨#[]⟩,1,rp,rfl,.inr rfl,ak _ _,wL.1,?_,.inl (UF.1.Jo _ (.inr rfl)),?_,λhp=>?_⟩
  ·exact M132
  ·exact M216
  ·exact M162
def CY(B:Bl)(σ:BS)(b:Nat):Prop:=b=B.bb\/σ.mv.ownBlock=some b
structure DZ(w:List ah)(σ:BS)(W:World)(obj:Nat->Nat):Prop where
 named:∀b s,σ.S b=some s->cI s->fe w σ.S σ.D W b (obj b) s
 we:∀b b' s,σ.S b=some s->σ.S b'=some s->cI s->b=b'
 Gk:∀b b' s s',σ.S b=some s->σ.S b'=some s'->cI s->cI s'->obj b=obj b'->b=b'
theorem Bs.dne(h:Bs NS Q w K B DI σ W):∀b,σ.D b->¬CY B σ b:=λb hd he=>he.elim (λe=>h.kJ.2 (e▸hd)) λe=>(h.gY b e).2.1 hd
theorem Bs.Wp(h:Bs NS Q w K B DI σ W):∀b,σ.D b->σ.S b=none:=λb hd=>by
 cases hs:σ.S b with
 |none=>rfl
 |some s=>exact absurd hd (h.th.rS b s hs)
theorem Bs.gh(h:Bs NS Q w K B DI σ W)(hn:DZ w σ W obj):GH w σ.S σ.D obj W:=
 ⟨h.th.node,hn.named,h.th.lI,h.th.mT,h.th.rS,hn.we,hn.Gk,h.th.LR,h.th.A9,h.th.td⟩
theorem Gc(hr:eE D W ps v)(hd:∀b,D b->¬E b):Out E v:=by
 intro ad n c e hn;rcases hr with⟨_,a,c',e',_⟩|⟨_,b,o,c',e',_,_,hb,_⟩
 ·rw[e']at e;cases e;exact absurd rfl hn
 ·rw[e']at e;cases e;exact hd b hb
theorem acH(h:Bs NS Q w K B DI σ W){s:TS}(hs:Wq σ.S σ.D W sb s):yn σ.S σ.D (CY B σ) W sb s:=by
 obtain⟨ms,tl,ps,qs,h1,h2,h3,h4,h5,h6⟩:=hs;have hm:au σ.D (Rn σ.S W) W W:=λb hb=>⟨⟨h.Wp b hb,h.th.LR b hb⟩,rfl⟩;refine⟨ms,tl,ps,h.dne sb h1,Gc h3 h.dne,Gc h5 λb hb=>h.dne b hb.1,h2,h.Wp sb h1,h3.move hm,h4,qs,h5.move (λb hb=>⟨⟨h.Wp b hb.1,hb.2⟩,rfl⟩),h6.imp λx p hp=>?_⟩;exact M153
theorem Bs.ok(h:Bs NS Q w K B DI σ W)(hn:DZ w σ W obj)(rs:List Nat)(r:Nat):Ok w σ.S σ.D obj rs K (CY B σ) r W:=by
 refine⟨h.gh hn,λb hb=>?_,λb s hs hi _=>?_⟩
 ·obtain rfl|hb:=hb
  ·exact⟨h.lt.1,h.kJ.2,h.kJ.1⟩
  ·exact⟨h.lt.2 b hb,(h.gY b hb).2.1,(h.gY b hb).1⟩
 ·obtain⟨ts,h1,h2⟩:=h.th.st b s hs hi;exact⟨ts,h1,h2.imp id λ⟨sb,g1,g2⟩=>⟨sb,g1,acH h g2⟩⟩
def J2(B:Bl)(σ:BS)(W:World)(b:Nat):Prop:=Rn σ.S W b/\¬CY B σ b
theorem acI(mO:W.heap[B.bb]?=some (.cells #[ptr B.pk,B.dv,B.ev,B.cv,σ.mv] 58 (0,0)))(eR:∀g,σ.mv.ownBlock=some g->∃cur,W.heap[g]?=some (.cells cur 33 (0,0)))(hd:∀b,σ.D b->J2 B σ W b){s:TS}(hs:yn σ.S σ.D (CY B σ) W sb s):Wq σ.S (J2 B σ W) W sb s:=by
 obtain⟨ms,tl,ps,h1,h2,h3,h4,h5,h6,h7,qs,h8,h9⟩:=hs;have cq:au σ.D (J2 B σ W) W W:=λb hb=>⟨hd b hb,rfl⟩;have kX:∀{F:Nat->Prop} {xs:List Value} {sl:Value},eE F W xs sl->Out (CY B σ) sl->eE (λb=>F b/\¬CY B σ b) W xs sl:=by
  intro F xs sl hr ho;exact M124
 refine⟨ms,tl,ps,qs,⟨⟨h5,_,_,_,h4⟩,h1⟩,h4,kX h6 h2,h7.imp λm p hp=>hp.move (λ_ _ h=>h) cq,(kX h8 h3).move (λb hb=>⟨⟨⟨⟨hb.1.1,(by obtain⟨cs,f,hc⟩:=hb.1.2;exact⟨cs,_,f,hc⟩)⟩,hb.2⟩,hb.1.2⟩,rfl⟩),h9.imp λx p hp=>?_⟩
 ·cases x with
  |none=>exact hp
  |some tm=>
   obtain⟨b,v,ty,g1,g2,g3,g4,g5⟩:=hp;refine⟨b,v,ty,g1,⟨⟨g2,_,_,_,g3⟩,λhe=>?_⟩,g3,g4,g5⟩;obtain rfl|he:=he
   ·rw[mO]at g3;cases g3
   ·obtain⟨cur,hc⟩:=eR b he;rw[hc]at g3;cases g3;rcases g4 with h|h<;>cases h
theorem Bs.back(h:Bs NS Q w K B DI σ W)(hn:DZ w σ W obj)(bD:Ok w σ.S σ.D obj rs K (CY B σ) r W')(hf:Fr σ.S rs r W W')(hJ:∀b s,σ.S b=some s->isIf s=true->2*J rs false false s<r):
 Bs NS Q w K B DI {σ with D:=J2 B σ W'} W'/\DZ w {σ with D:=J2 B σ W'} W' obj:=by
 have mO:=hf.obj h.kJ.1 h.jl;have eR:∀g,σ.mv.ownBlock=some g->∃cur,W'.heap[g]?=some (.cells cur 33 (0,0)):=λg hg=>by
  obtain⟨_,_,cur,hc⟩:=aC h.own g hg;exact⟨cur,hf.obj (h.gY g hg).1 hc⟩
 have hd:∀b,σ.D b->J2 B σ W' b:=λb hb=>⟨⟨h.Wp b hb,bD.gh.LR b hb⟩,h.dne b hb⟩;have j9:au σ.D (J2 B σ W') W' W':=λb hb=>⟨hd b hb,rfl⟩;have hm:au σ.D (J2 B σ W') W W':=λb hb=>⟨hd b hb,((h.gh hn).eu hf b hb).2⟩;have hz:=hf.size;refine⟨⟨⟨λb s hs=>(bD.gh.node b s hs).move (λ_ _ h=>h) j9 (.inl rfl),bD.gh.lI,λb hb=>?_,λb s hs hb=>?_,λb hb=>hb.1.2,bD.gh.A9,bD.gh.td.move j9,λb s hs hi=>?_⟩,mO,h.Rm.move hm,h.row.move hm,h.rn,h.dl,h.ev,h.cv,⟨h.kJ.1,λhb=>hb.2 (.inl rfl)⟩,?_,λg hg=>⟨(h.gY g hg).1,λhb=>hb.2 (.inr hg),(h.gY g hg).2.2⟩,h.made,λb hb=>⟨jQb (h.di b hb).1 hz,(h.di b hb).2⟩,h.ifs⟩,⟨λb s hs hi=>?_,hn.we,hn.Gk⟩⟩
 ·obtain⟨_,cs,ty,f,hc⟩:=hb.1;exact jQ2 hc
 ·have:=hb.1.1;rw[hs]at this;cases this
 ·obtain⟨ts,h1,h2⟩:=bD.st b s hs hi (hJ b s hs hi);exact⟨ts,h1.move (λ_ _ h=>h) j9 rfl,h2.imp id λ⟨sb,g1,g2⟩=>⟨sb,g1,acI mO eR hd g2⟩⟩
 ·exact cD h.own λg hg=>by
   obtain⟨_,_,cur,hc⟩:=aC h.own g hg;exact(hf.obj (h.gY g hg).1 hc).trans hc.symm
 ·obtain⟨ut,ms,ps,g1,g2,g3,g4,g5⟩:=bD.gh.named b s hs hi;refine⟨ut,ms,ps,g1,g2,g3.move j9,g4.imp λm p hp=>?_,g5.move j9⟩;obtain⟨b,pos,pk,sb,rb,pos',F0,nm,k,rt,h1,h2,h3,h4,h5,h6,h7⟩:=hp;exact⟨b,pos,pk,sb,rb,pos',F0,nm,k,rt,h1,hd _ h2,h3,h4,h5,hd _ h6,h7⟩
theorem zu(hT:dS NS Q w S D obj rs K r)(bD:Ok w S D obj rs K E r W)(hs:S b=some (aG t))(cP:Fb NS Q w t)(AB:2*J rs false false t<r):
 Calls prog 69 #[ptr b] W (aV w S D obj rs K E r W λv _=>v=ptr b):=by
 have ag:=bG hT bD hs cP AB;have hk:(aG t).kind=10\/(aG t).kind=17:=M148
 obtain⟨-, -, -, -, -, -, -, -, -,n10, -⟩:=bD.gh.node b _ hs;obtain⟨ts,ms,es,ps,vs,hb, -⟩:=n10 hk;obtain⟨-, -, -, -, -,c5, -⟩:=ao hb;clear hb n10 bD hs hT cP AB hk;go_enter func69,ntmps69;go_wp2_with fail;refine ag.mono ?_;rintro e w' ⟨v,rfl,⟨sb,rfl,k1⟩,k2,k3⟩;have HP:=Z (show aV w S D obj rs K E r W (λv _=>v=ptr b) (.returned (ptr b)) w' from⟨_,rfl,rfl,k2,k3⟩);clear k1 k2 k3 ag;exact M13
theorem Bs.clear(h:Bs NS Q w K B DI σ W)(hp:kT B.bb #[ptr B.pk,B.dv,B.ev,B.cv,.slice none 0 0] 58 W W'):Bs NS Q w K B DI {σ with mv:=.slice none 0 0,ml:=[]} W':=by
 have hS:∀b s,σ.S b=some s->W'.heap[b]?=W.heap[b]?:=λb s hs=>hp.other b λe=>by have:=h.kJ.1;rw[<-e,hs]at this;cases this
 have hD:∀b,σ.D b->W'.heap[b]?=W.heap[b]?:=λb hd=>hp.other b λe=>h.kJ.2 (e▸hd);have hm:au σ.D σ.D W W':=λb hb=>⟨hb,hD b hb⟩;have hz:=jQz hp.size.symm;exact⟨h.th.cR hz hS hD,hp.here,h.Rm.move hm,h.row.move hm,h.rn,h.dl,h.ev,h.cv,h.kJ,jR9 _ _ _ _,λg hg=>by simp[Value.ownBlock]at hg,λb hb=>by simp at hb,λb hb=>⟨jQb (h.di b hb).1 hz,(h.di b hb).2.1,by simp[Value.ownBlock],(h.di b hb).2.2.2⟩,h.ifs⟩
theorem DZ.cR(h:DZ w σ W obj)(dJ:∀(n:Nat) (d:ah),w[n]?=some d->∀m∈d.meths,m.sig.kind=7)(hS:∀b s,σ.S b=some s->W'.heap[b]?=W.heap[b]?)(hD:∀b,σ.D b->W'.heap[b]?=W.heap[b]?):DZ w σ W' obj:=by
 have hm:au σ.D σ.D W W':=λb hb=>⟨hb,hD b hb⟩;refine⟨λb s hs hn=>?_,h.we,h.Gk⟩;exact M30
def aaQ(NS:List ByteArray)(Q:GT->Prop)(w:List ah)(K:Nat)(B:Bl)(DI:Nat->Prop)(obj:Nat->Nat)(rs:List Nat)(r:Nat)(σ:BS)(W:World)(W':World):Prop:=
 ∃D',Bs NS Q w K B DI {σ with D:=D',mv:=.slice none 0 0,ml:=[]} W'/\DZ w {σ with D:=D',mv:=.slice none 0 0,ml:=[]} W' obj/\W'.os=W.os/\W'.tape=W.tape/\W'.output=W.output/\W.heap.size<=W'.heap.size/\
  ∀b,b<W.heap.size->b≠B.bb->W'.heap[b]?=W.heap[b]?\/∃s ts sh,σ.S b=some s/\isIf s=true/\DE W W' b ts sh
theorem rF(hT:dS NS Q w σ.S σ.D obj rs K r)(dJ:∀(n:Nat) (d:ah),w[n]?=some d->∀m∈d.meths,m.sig.kind=7)(cG:Bs NS Q w K B DI σ W)(hn:DZ w σ W obj)(hJ:∀b s,σ.S b=some s->isIf s=true->2*J rs false false s<r):
 Calls prog 30 #[ptr B.bb] W λe W'=>e=.returned (.tuple #[])/\aaQ NS Q w K B DI obj rs r σ W W':=by
 have bD:=cG.ok hn rs r;have afL:∃a c,σ.mv=.slice a σ.ml.length c:=by
  rcases cG.own.2 with⟨e,h0⟩|⟨g',cap,cur,e,k1,k2,k3⟩
  ·exact⟨none,0,by rw[e,h0]⟩
  ·exact⟨_,_,e⟩
 obtain⟨a,c,eR⟩:=afL;have rO:σ.ml.length<=9223372036854775807:=by
  have:=cG.own.1;rcases cG.own.2 with⟨e,h0⟩|⟨g',cap,cur,e,k1,k2,k3,k4,k5,k6⟩
  ·omega
  ·simp only[maxLen]at k4;omega
 have hblk:=cG.jl;rw[eR]at hblk;have b4:W.cell? ⟨B.bb,4,none⟩=some (.slice a σ.ml.length c):=by simp[World.cell?,hblk]
 have KP:∀(wr:World),Fr σ.S rs r W wr->∀i p,σ.ml[i]?=some p->∃b,a=some ⟨b,0,none⟩/\wr.cell? ⟨b,i,none⟩=some (ptr p):=by
  intro wr hf i p hi;rcases cG.own.2 with⟨e,h0⟩|⟨g',cap,cur,e,k1,k2,k3⟩
  ·have:=jQe h0;rw[this]at hi;simp at hi
  ·rw[eR]at e;cases e;have hg:σ.mv.ownBlock=some g':=by rw[eR];simp[Value.ownBlock]
   have h1:=cG.own.cells (g:=g') hg i (ptr p) (by rw[List.getElem?_map,hi];rfl);have h2:W.cell? ⟨g',i,none⟩=some (ptr p):=by rw[<-h1];congr 1;unfold Addr.add;split<;>simp_all
   exact⟨g',rfl,hf.cell (cG.gY g' hg).1 h2⟩
 obtain⟨HCL,uL,HN,HOK,HJ,HT,zk,Oa⟩:=Z8 KP cG hn bD hJ hT dJ eR;clear KP cG hn bD hJ hT dJ eR hblk;go_enter func30,ntmps30;go_wp2_with fail
 go_loopg [9] σ.ml.length (λgg s9 wr=>∃(kk:Nat),kk<=σ.ml.length/\σ.ml.length - kk<=gg/\s9=.int .i64 kk/\Ok w σ.S σ.D obj rs K (CY B σ) r wr/\Fr σ.S rs r W wr)
 case atStart=>exact⟨0,jQc _,m9,rfl,HOK.1,Fr.refl _⟩
 case round=>
  obtain⟨kk,ez,hg,rfl,Vg,mW⟩:=hrel;have HOKR:=Z Vg;have Mf:=Z mW;by_cases aM:kk<σ.ml.length
  ·have aR:(kk:Int)<(σ.ml.length:Int):=m9
   obtain⟨b,hb⟩:∃b,σ.ml[kk]?=some b:=⟨σ.ml[kk]'aM,by simp[aM]⟩;obtain⟨g',rfl,hc⟩:=HCL.1 wr mW kk b hb;obtain⟨t,hs,hk,hp⟩:=uL.1.made b (jQ8 hb);have AB:2*J rs false false t<r:=by
    have h1:=HJ.1 b _ hs (by unfold isIf;rw[aI m9,hk];rfl);rw[Ar (rs:=rs) false false m9]at h1;exact h1
   have ag:=zu HT.1 Vg hs (.inl ⟨hp,hk⟩) AB;clear Vg mW hb hs hk hp AB;go_wp2_with fail;refine ag.mono ?_;rintro e' wA ⟨v,rfl,rfl,iG,zF⟩;have GR:=Z iG;have rR:=Z (Mf.1.trans zF);clear ag iG zF;go_wp2_with fail;go_roundg (σ.ml.length - (kk+1))
   case measure=>omega
   case rel=>exact⟨kk+1,m9,m9,by go_num,GR.1,rR.1⟩
  ·have aR:¬(kk:Int)<(σ.ml.length:Int):=m9
   obtain⟨cX,iK⟩:=uL.1.back HN.1 Vg mW HJ.1;have hblk:=cX.jl;have c4:wr.cell? ⟨B.bb,4,none⟩=some σ.mv:=by simp[World.cell?,hblk]
   rw[Oa.1]at c4;have z4:=cd hblk 4;obtain⟨lZ,dP,HN2⟩:=Z3 (aw hblk 4 (.slice none 0 0)) cX iK;clear Vg mW cX iK hblk b4;go_wp2_with fail;refine jRq (v:=.tuple #[]) (by simp[results,Tryz.results30,go_sem]) rfl ?_;have hp:kT B.bb #[ptr B.pk,B.dv,B.ev,B.cv,.slice none 0 0] 58 wr _:=lZ.1;have aZ:=dP.1.clear hp;have YH:=HN2.1.cR zk.1 (λb s hs=>hp.other b λe=>by have:=dP.1.kJ.1;rw[<-e,hs]at this;cases this) (λb hd=>hp.other b λe=>dP.1.kJ.2 (e▸hd));refine⟨rfl,_,aZ,⟨YH.named,YH.we,YH.Gk⟩,hp.os.trans Mf.1.os,hp.tape.trans Mf.1.tape,hp.output.trans Mf.1.output,by have:=hp.size;have:=Mf.1.size;omega,λb hb bk=>?_⟩;have ho:=hp.other b bk;rcases Mf.1.block b hb with e|⟨s,ts,sh,g1,g2, -,c0,c1,c2,c3,c4,c5,g4,g5⟩|⟨x1,⟨es,ck,x2⟩,x3⟩
   ·exact .inl (ho.trans e)
   ·exact .inr ⟨s,ts,sh,g1,g2,c0,c1,c2,c3,c4,c5,g4,ho.trans g5⟩
   ·exact x1.elim
theorem TH.Wp(h:TH w K S D W):∀b,D b->S b=none:=λb hd=>by
 cases hs:S b with
 |none=>rfl
 |some s=>exact absurd hd (h.rS b s hs)
theorem Ye(h:TH w K S D W)(hE:∀b,D b->¬E b){s:TS}(hs:Wq S D W sb s):yn S D E W sb s:=by
 obtain⟨ms,tl,ps,qs,h1,h2,h3,h4,h5,h6⟩:=hs;have hm:au D (Rn S W) W W:=λb hb=>⟨⟨h.Wp b hb,h.LR b hb⟩,rfl⟩;refine⟨ms,tl,ps,hE sb h1,Gc h3 hE,Gc h5 λb hb=>hE b hb.1,h2,h.Wp sb h1,h3.move hm,h4,qs,h5.move (λb hb=>⟨⟨h.Wp b hb.1,hb.2⟩,rfl⟩),h6.imp λx p hp=>?_⟩;exact M153
theorem TH.ok(h:TH w K S D W)(fp:∀b s,S b=some s->¬cI s)(hE:∀b,E b->b<W.heap.size/\¬D b/\S b=none)(obj:Nat->Nat)(rs:List Nat)(r:Nat):Ok w S D obj rs K E r W:=by
 refine⟨⟨h.node,λb s hs hn=>absurd hn (fp b s hs),h.lI,h.mT,h.rS,λb b' s hs _ hn=>absurd hn (fp b s hs),λb b' s s' hs _ hn=>absurd hn (fp b s hs),h.LR,h.A9,h.td⟩,hE,λb s hs hi _=>?_⟩;obtain⟨ts,h1,h2⟩:=h.st b s hs hi;exact⟨ts,h1,h2.imp id λ⟨sb,g1,g2⟩=>⟨sb,g1,Ye h (λb hd he=>(hE b he).2.1 hd) g2⟩⟩
def PH(S:Sg)(E:Nat->Prop)(W:World)(b:Nat):Prop:=Rn S W b/\¬E b
theorem Yf(hE:∀b,E b->∃cs ty f,W.heap[b]?=some (.cells cs ty f)/\ty≠154/\ty≠234)(hd:∀b,D b->PH S E W b){s:TS}(hs:yn S D E W sb s):Wq S (PH S E W) W sb s:=by
 obtain⟨ms,tl,ps,h1,h2,h3,h4,h5,h6,h7,qs,h8,h9⟩:=hs;have cq:au D (PH S E W) W W:=λb hb=>⟨hd b hb,rfl⟩;have kX:∀{F:Nat->Prop} {xs:List Value} {sl:Value},eE F W xs sl->Out E sl->eE (λb=>F b/\¬E b) W xs sl:=by
  intro F xs sl hr ho;exact M124
 refine⟨ms,tl,ps,qs,⟨⟨h5,_,_,_,h4⟩,h1⟩,h4,kX h6 h2,h7.imp λm p hp=>hp.move (λ_ _ h=>h) cq,(kX h8 h3).move (λb hb=>⟨⟨⟨⟨hb.1.1,(by obtain⟨cs,f,hc⟩:=hb.1.2;exact⟨cs,_,f,hc⟩)⟩,hb.2⟩,hb.1.2⟩,rfl⟩),h9.imp λx p hp=>?_⟩;cases x with
 |none=>exact hp
 |some tm=>
  obtain⟨b,v,ty,g1,g2,g3,g4,g5⟩:=hp;refine⟨b,v,ty,g1,⟨⟨g2,_,_,_,g3⟩,λhe=>?_⟩,g3,g4,g5⟩;obtain⟨cs,ty',f,hc,hn⟩:=hE b he;rw[hc]at g3;cases g3;obtain h|h:=g4
  ·exact hn.1 h
  ·exact hn.2 h
theorem TH.back(bD:Ok w S D obj rs K E r W')(hE:∀b,E b->∃cs ty f,W'.heap[b]?=some (.cells cs ty f)/\ty≠154/\ty≠234)(hJ:∀b s,S b=some s->isIf s=true->2*J rs false false s<r):TH w K S (PH S E W') W':=by
 have hd:∀b,D b->PH S E W' b:=λb hb=>by
  refine⟨⟨?_,bD.gh.LR b hb⟩,λhe=>(bD.own b he).2.1 hb⟩;cases hs:S b with
  |none=>rfl
  |some s=>exact absurd hb (bD.gh.rS b s hs)
 have j9:au D (PH S E W') W' W':=λb hb=>⟨hd b hb,rfl⟩;refine⟨λb s hs=>(bD.gh.node b s hs).move (λ_ _ h=>h) j9 (.inl rfl),bD.gh.lI,λb hb=>?_,λb s hs hb=>?_,λb hb=>hb.1.2,bD.gh.A9,bD.gh.td.move j9,λb s hs hi=>?_⟩
 ·obtain⟨_,cs,ty,f,hc⟩:=hb.1;exact jQ2 hc
 ·have:=hb.1.1;rw[hs]at this;cases this
 ·obtain⟨ts,h1,h2⟩:=bD.st b s hs hi (hJ b s hs hi);exact⟨ts,h1.move (λ_ _ h=>h) j9 rfl,h2.imp id λ⟨sb,g1,g2⟩=>⟨sb,g1,Yf hE hd g2⟩⟩
def Dg:GT:=.mk 1 16 0 false es es []
def Aq:GT:=.mk 7 0 0 false (str [69,114,114,111,114]) es [Dg]
def Ap(sb y:Nat):Sg:=cE (cE (cE (λ_=>none) sb (aG Dg)) (y+3) (aG Aq)) (y+6) (aG fC)
def St(y:Nat)(b:Nat):Prop:=b=5\/(b=y\/b=y+1\/b=y+2\/b=y+4\/b=y+5)
theorem row_one{x:Value}(hd:D b)(h:W.heap[b]?=some (.cells #[x] ty (0,0))):eE D W [x] (.slice (some ⟨b,0,none⟩) 1 1):=by
 refine .inr ⟨i6,b,0,1,rfl,i6,m9,hd,λj u hj=>?_⟩;cases j with
 |zero=>simp at hj;subst hj;exact jQh h
 |succ j=>simp at hj
theorem abc(rcv:Nat)(hp:jE (λb=>b=5) W)(Q5:∃cs t f,W.heap[5]?=some (.cells cs t f))(hpz:5<sb)(aM:sb<y)(rN:W.heap[sb]?=some (.cells #[.int .i64 17,.int .i64 inf,.string nm] 159 (0,0)))(h0:W.heap[y]?=some (.cells #[.int .i64 0,.pointer none,.string ⟨#[]⟩,.iface 87 (ptr sb),.int .u8 5,.bool false] 167 (0,0)))(h1:W.heap[y+1]?=some (.cells #[ptr y] 84 (0,0)))(h2:W.heap[y+2]?=some (.cells #[.slice (some ⟨y+1,0,none⟩) 1 1] 176 (0,0)))(h3:W.heap[y+3]?=some (.cells #[ptr rcv,.pointer none,.pointer none,ptr (y+2),.bool false] 94 (0,0)))(h4:W.heap[y+4]?=some (.cells #[.int .i64 0,.pointer none,.string ⟨#[69,114,114,111,114]⟩,.iface 90 (ptr (y+3)),.bool false,.bool false] 178 (0,0)))(h5:W.heap[y+5]?=some (.cells #[ptr (y+4)] 95 (0,0)))(h6:W.heap[y+6]?=some (.cells (Nb true (.slice (some ⟨y+5,0,none⟩) 1 1) (.slice none 0 0)) 102 (0,0))):TH w K (Ap sb y) (St y) W:=by
 have z6:=jQ2 h6;have t0:TH w K (λ_=>none) (λb=>b=5) W:=⟨λ_ _ h=>(by cases h),λ_ _ h=>(by cases h),λb hb=>(by subst hb;omega),λ_ _ h=>(by cases h),λb hb=>(by subst hb;exact Q5),λ_ _ h=>(by cases h),hp,λ_ _ h=>(by cases h)⟩;have t1:=t0.lW (λb=>b=y\/b=y+1\/b=y+2\/b=y+4\/b=y+5) (λb hb=>by
  refine⟨m9,rfl,?_⟩;obtain rfl|rfl|rfl|rfl|rfl:=hb
  ·exact⟨_,_,_,h0⟩
  ·exact⟨_,_,_,h1⟩
  ·exact⟨_,_,_,h2⟩
  ·exact⟨_,_,_,h4⟩
  ·exact⟨_,_,_,h5⟩)
 have e1:∀{b:Nat},St y b->b=5\/(b=y\/b=y+1\/b=y+2\/b=y+4\/b=y+5):=id;obtain⟨a1,a2,a3,a4,a5⟩:=fa (t:=Dg) i5 i5 i5 i5;obtain⟨b1,b2,b3,b4,b5⟩:=fa (t:=Aq) i5 i5 i5 i5;obtain⟨c1,c2,c3,c4,c5⟩:=fa (t:=fC) i5 i5 i5 i5;have hA:(aG Dg).kind=1:=a1;have hB:(aG Aq).kind=7:=b1;have hC:(aG fC).kind=10:=c1;have t2:TH w K (cE (λ_=>none) sb (aG Dg)) (St y) W:=t1.add rfl (by intro h;omega) m9 ⟨_,_,rN⟩
  ⟨λ_=>⟨inf,nm,by rw[a2];exact rN⟩,m9,m9,m9,m9,m9,m9,m9,m9,m9,m9⟩ (λh=>by unfold isIf at h;rw[hA]at h;cases h)
 have n3:cE (λ_=>none) sb (aG Dg) (y+3)=none:=by unfold cE;rw[jQ4 m9]
 have s3:=fG (s:=aG Aq) n3;obtain⟨o1,o2⟩:=zA (t:=Aq) i5 i5 i5 i5;have t3:=t2.add (s:=aG Aq) n3 (by intro h;have:=e1 h;omega) m9 ⟨_,_,h3⟩
  ⟨m9,m9,m9,m9,m9,m9,λ_=>⟨ptr rcv,.pointer none,ptr (y+2),by rw[b4];exact h3,by rw[o1];exact .inl ⟨rfl,rfl⟩,by
   rw[o2];refine .inr ⟨i5,y+2,_,[ptr y],rfl,.inr m9,h2,row_one (.inr m9) h1,⟨⟨#[]⟩,y,0,none,_,5,rfl,.inr m9,h0,⟨sb,rfl,s3 _ _ (fH _ _ _)⟩⟩,trivial⟩⟩,m9,m9,m9,m9⟩ (λh=>by unfold isIf at h;rw[hB]at h;cases h)
 have n6:cE (cE (λ_=>none) sb (aG Dg)) (y+3) (aG Aq) (y+6)=none:=by unfold cE;rw[jQ4 m9,jQ4 m9]
 have s6:=fG (s:=aG fC) n6;obtain⟨q1,q2⟩:=zA (t:=fC) i5 i5 i5 i5;have cP:iJ (Ap sb y) (St y) W (y+6) (aG fC) (.pointer none):=
  ⟨_,_,[ptr (y+4)],[],h6,row_one (.inr m9) h5,.inl ⟨rfl,none,0,rfl,λ_=>rfl⟩,by
   rw[q1];exact⟨⟨y+4,0,none,_,rfl,.inr m9,h4,⟨y+3,rfl,s6 _ _ (fH _ _ _)⟩,.inl rfl⟩,trivial⟩,by rw[q2];trivial⟩
 exact t3.add (s:=aG fC) n6 (by intro h;have:=e1 h;omega) z6 ⟨_,_,h6⟩
  ⟨m9,m9,m9,m9,m9,m9,m9,m9,m9,λ_=>⟨_,cP⟩,m9⟩ (λ_=>⟨_,cP,.inl ⟨rfl,m9⟩⟩)
structure adT(w:List ah)(K:Nat)(S:Sg)(D:Nat->Prop)(W W':World)(b ob:Nat):Prop where
 th:TH w K S D W'
 sb:S b=some oA
 nm:fe w S D W' b ob oA
 only:∀b' s,S b'=some s->cI s->b'=b/\s=oA
 ifs:∀b' s,S b'=some s->isIf s=true->s=aG fC
 low:∀b' s,S b'=some s->W.heap.size<=b'
 jJ:Below W.heap.size W W'
theorem Sr{pos pk nm:Value}(hz:z<=ob)(hzw:z<=W.heap.size)(h:Ni W ob false pos pk nm (.returned v) W'):Below z W W':=by
 obtain⟨-,h1,h2,h3,h4, -, -,h5⟩:=h;exact⟨h2,h3,h4,m9,λk hk=>h5 k m9 m9⟩
theorem An(hTs:∀S D obj,dS NS Q w S D obj rs K r)(Df:PT NS Q w 0 fC)(hr:2*J rs false false fC<r)(hp:jE (λb=>b=5) W)(Q5:∃cs t f,W.heap[5]?=some (.cells cs t f)):
 Calls prog 22 #[] W λe W'=>∃b ob S D,e=.returned (ptr b)/\adT w K S D W W' b ob:=by
 have lk:=jS 0 none ⟨#[101,114,114,111,114]⟩ W;have hh1:=ak W (.cells #[.int .i64 0,.pointer none,.string ⟨#[101,114,114,111,114]⟩,.nilIface] 117);have fL:=qH W.heap.size _ _ _ _ hh1;obtain⟨HH1,Kp,XA,HR,HP,HPC,HZ1,bS⟩:=Z8 hh1 hTs Df hr hp Q5 (jQ3 W (.cells #[.int .i64 0,.pointer none,.string ⟨#[101,114,114,111,114]⟩,.nilIface] 117)) (an W (.cells #[.int .i64 0,.pointer none,.string ⟨#[101,114,114,111,114]⟩,.nilIface] 117));clear hh1 hTs Df hr hp Q5;go_enter func22,ntmps22;go_wp2_with fail;refine rv lk ?_;clear lk;go_wp2_with fail;refine fL.mono ?_;rintro e' w2 h2;obtain⟨rfl,j8,Ao,fQ,Le,xn,Nj,j6⟩:=id h2;have dP:=Z (bS.1.trans (Sr (jQ0 _) bS.1.size h2));rw[jQ3]at j8 xn Nj⊢;obtain⟨XB,HNB,XC⟩:=Z3 j8 xn Nj;clear fL h2 j8 Ao fQ Le xn Nj j6;have Kq:=iB 3 0 none ⟨#[]⟩ 53 (ptr (W.heap.size+1)) w2;go_wp2_with fail;refine rv Kq ?_;clear Kq;have hc4:=Ee 17 m9 m9 (w2.alloc (.cells #[.int .i64 0,.pointer none,.string ⟨#[]⟩,.iface 53 (ptr (W.heap.size+1)),.int .u8 3,.bool false] 167));go_wp2_with fail;refine hc4.mono ?_;rintro e' w4 ⟨sb,inf,nm,rfl,j8,j6,rN⟩;obtain⟨HSL,pU,wL⟩:=Z3 j8 j6 rN;clear hc4 j8 j6 rN;have Ss:=iB 5 0 none ⟨#[]⟩ 87 (ptr sb) w4;go_wp2_with fail;refine rv Ss ?_;clear Ss;have yY:Calls prog 48 #[.slice (some ⟨w4.heap.size+1,0,none⟩) 1 1] ((w4.alloc (.cells #[.int .i64 0,.pointer none,.string ⟨#[]⟩,.iface 87 (ptr sb),.int .u8 5,.bool false] 167)).alloc (.cells #[ptr w4.heap.size] 84)) _:=qx _ 0 1 _;go_wp2_with fail;refine rv yY ?_;clear yY;have Lf:=kM 0 none ⟨#[69,114,114,111,114]⟩ (w4.heap.size+3) ((((w4.alloc (.cells #[.int .i64 0,.pointer none,.string ⟨#[]⟩,.iface 87 (ptr sb),.int .u8 5,.bool false] 167)).alloc (.cells #[ptr w4.heap.size] 84)).alloc (.cells #[.slice (some ⟨w4.heap.size+1,0,none⟩) 1 1] 176)).alloc (.cells #[ptr w2.heap.size,.pointer none,.pointer none,ptr (w4.heap.size+2),.bool false] 94));go_wp2_with fail;refine rv Lf ?_;clear Lf;obtain⟨W9,Wb⟩:∃W9,W9=allocs w4 [.cells #[.int .i64 0,.pointer none,.string ⟨#[]⟩,.iface 87 (ptr sb),.int .u8 5,.bool false] 167,.cells #[ptr w4.heap.size] 84,.cells #[.slice (some ⟨w4.heap.size+1,0,none⟩) 1 1] 176,.cells #[ptr w2.heap.size,.pointer none,.pointer none,ptr (w4.heap.size+2),.bool false] 94,.cells #[.int .i64 0,.pointer none,.string ⟨#[69,114,114,111,114]⟩,.iface 90 (ptr (w4.heap.size+3)),.bool false,.bool false] 178,.cells #[ptr (w4.heap.size+4)] 95,.cells (Nb true (.slice (some ⟨w4.heap.size+5,0,none⟩) 1 1) (.slice none 0 0)) 102]:=⟨_,rfl⟩;have hpW:=HPC.1;obtain⟨pcs,pty,pf,Nk⟩:=id hpW;have hpz:=jQ2 Nk;have cz:=HSL.1;rw[jQ3,XB.1]at cz;have nU:=pU.1.size;rw[jQ3,XB.1]at nU;have rV:=jQ2 wL.1;have zG:Below w4.heap.size w4 W9:=by rw[Wb];exact jT _ _
 have yu:=zG.size;have adU:Below W.heap.size w2 w4:=((an w2 _).mono (by rw[XB.1];omega)).trans (pU.1.mono (by rw[jQ3,XB.1];omega));have adV:Below w2.heap.size w2 W9:=((an w2 _)).trans ((pU.1.mono (by rw[jQ3];omega)).trans (zG.mono (by rw[XB.1];omega)));have hB9:Below W.heap.size W W9:=dP.1.trans (adU.trans (zG.mono m9));have th:=abc (w:=w) (K:=K) (W:=W9) (sb:=sb) (y:=w4.heap.size) w2.heap.size (HP.1.move λb hb=>⟨hb,hB9.block b (by subst hb;exact hpz)⟩) ⟨pcs,pty,pf,(hB9.block _ hpz).trans Nk⟩ m9 rV ((zG.block _ rV).trans wL.1)
  (by rw[Wb];exact eL _ w4 0 _ rfl) (by rw[Wb];exact eL _ w4 1 _ rfl) (by rw[Wb];exact eL _ w4 2 _ rfl) (by rw[Wb];exact eL _ w4 3 _ rfl) (by rw[Wb];exact eL _ w4 4 _ rfl) (by rw[Wb];exact eL _ w4 5 _ rfl) (by rw[Wb];exact eL _ w4 6 _ rfl)
 have hor:∀(b:Nat) (s:GT),Ap sb w4.heap.size b=some s->(b=sb/\s=aG Dg)\/(b=w4.heap.size+3/\s=aG Aq)\/(b=w4.heap.size+6/\s=aG fC):=λb s h=>by
  unfold Ap at h;rcases dV h with h|⟨-,h⟩
  ·exact .inr (.inr h)
  ·rcases dV h with h|⟨-,h⟩
   ·exact .inr (.inl h)
   ·rcases dV h with h|⟨-,h⟩
    ·exact .inl h
    ·cases h
 have hA:(aG Dg).kind=1:=(fa (t:=Dg) i5 i5 i5 i5).1;have hBk:(aG Aq).kind=7:=(fa (t:=Aq) i5 i5 i5 i5).1;have hC:(aG fC).kind=10:=(fa (t:=fC) i5 i5 i5 i5).1;have hnS:Ap sb w4.heap.size (W.heap.size+1)=none:=by
  cases h:Ap sb w4.heap.size (W.heap.size+1)with
  |none=>rfl
  |some s=>have:=hor _ _ h;omega
 have adW:Ap sb w4.heap.size W.heap.size=none:=by
  cases h:Ap sb w4.heap.size W.heap.size with
  |none=>rfl
  |some s=>have:=hor _ _ h;omega
 have bD:=th.ok (E:=λb=>b=W.heap.size+1) (λb s hs hn=>by
  rcases hor _ _ hs with⟨-,rfl⟩|⟨-,rfl⟩|⟨-,rfl⟩<;>(unfold cI at hn;omega)) (λb hb=>by
  subst hb;refine⟨m9,λhd=>?_,hnS⟩;unfold St at hd;omega) (λ_=>0) rs r
 have hsT:Ap sb w4.heap.size (w4.heap.size+6)=some (aG fC):=fH _ _ _;have hc8:=Kp.1 _ _ _ _ W9 (w4.heap.size+6) fC 0 bD hsT (.inl ⟨XA.1,rfl⟩) HR.1;obtain⟨HTH,HOR,HK,Q6,eF,ZS,agR,xo⟩:=Z8 th hor (And.intro hA (And.intro hBk hC)) (And.intro hnS adW) hsT hB9 adV (And.intro cz (And.intro nU rV));have HW9:=Z Wb;clear bD hsT th hor hA hBk hC hnS adW hB9 adV adU zG cz nU rV yu hpW Nk hpz;go_wp2_with fail;subst Wb;refine hc8.mono ?_;rintro e' wA ⟨v,rfl,⟨tb,rfl,fi⟩,adX,hfA⟩;have hcA:∀b,Ap sb w4.heap.size b=none->∀{cs:Array Value} {ty:TypeId} {f:Nat×Nat},w2.heap[b]?=some (.cells cs ty f)->wA.heap[b]?=some (.cells cs ty f):=λb hb cs ty f h=>hfA.obj hb ((agR.1.block b (jQ2 h)).trans h);have hnA:=hcA _ Q6.1.1 HNB.1;have Su:=hcA _ Q6.1.2 XC.1;have hc9:=vd (W.heap.size+1) W.heap.size false 33 (ptr (w4.heap.size+6)) (.slice none 0 0) wA i5 i5 hnA;obtain⟨HOA,HNA,HFA,agS⟩:=Z4 Su hnA hfA adX;clear hc8 fi adX hfA hcA hnA Su;go_wp2_with fail;refine hc9.mono ?_;rintro e' wB ⟨rfl,adY⟩;have lZ:=Z adY;clear hc9 adY;go_wp2_with fail;go_ret;obtain⟨hA,hBk,hC⟩:=HK.1;obtain⟨cz,nU,rV⟩:=xo.1;have hJ:∀b s,Ap sb w4.heap.size b=some s->isIf s=true->2*J rs false false s<r:=λb s hs hi=>by
  rcases HOR.1 _ _ hs with⟨-,rfl⟩|⟨-,rfl⟩|⟨-,rfl⟩
  ·unfold isIf at hi;rw[hA]at hi;cases hi
  ·unfold isIf at hi;rw[hBk]at hi;cases hi
  ·rw[Ar (rs:=rs) false false i5];exact HR.1
 have thA:=TH.back agS.1 (λb hb=>by subst hb;exact⟨_,_,_,HNA.1,i5,i5⟩) hJ;have thB:=thA.cR (W':=wB) (jQz lZ.1.size.symm) (λb s hs=>lZ.1.other b λe=>by rw[e,Q6.1.1]at hs;cases hs) (λb hb=>lZ.1.other b λe=>hb.2 e);have hkE:oA.kind=15:=rfl;have thC:=thB.add (s:=oA) Q6.1.1 (λh=>h.2 rfl) (jQ2 lZ.1.here) ⟨_,_,lZ.1.here⟩ ⟨m9,m9,m9,m9,m9,m9,m9,m9,m9,m9,m9⟩ (λh=>by cases h);have hle:=fG (s:=oA) Q6.1.1;refine⟨W.heap.size+1,W.heap.size,_,_,rfl,thC,fH _ _ _,⟨.iface 33 (ptr (w4.heap.size+6)),.slice none 0 0,[],lZ.1.here,⟨w4.heap.size+6,rfl,hle _ _ eF.1⟩,.inl ⟨rfl,none,0,rfl,λ_=>rfl⟩,trivial,⟨⟨Q6.1.2,_,_,_,HOA.1⟩,λh=>m9⟩,0,none,_,_,(lZ.1.other _ m9).trans HOA.1,.inl rfl⟩,λb' s hs hn=>?_,λb' s hs hi=>?_,λb' s hs=>?_,?_⟩
 ·rcases dV hs with h|⟨-,h⟩
  ·exact h
  ·exfalso;rcases HOR.1 _ _ h with⟨-,rfl⟩|⟨-,rfl⟩|⟨-,rfl⟩<;>(unfold cI at hn;omega)
 ·rcases dV hs with⟨-,rfl⟩|⟨-,h⟩
  ·cases hi
  ·rcases HOR.1 _ _ h with⟨-,rfl⟩|⟨-,rfl⟩|⟨-,rfl⟩
   ·unfold isIf at hi;rw[hA]at hi;cases hi
   ·unfold isIf at hi;rw[hBk]at hi;cases hi
   ·rfl
 ·rcases dV hs with⟨rfl, -⟩|⟨-,h⟩
  ·omega
  ·have:=HOR.1 _ _ h;omega
 ·have hz9:=ZS.1.size;have zH:=HFA.1.size;refine⟨lZ.1.os.trans (HFA.1.os.trans ZS.1.os),lZ.1.tape.trans (HFA.1.tape.trans ZS.1.tape),lZ.1.output.trans (HFA.1.output.trans ZS.1.output),by have:=lZ.1.size;omega,λb hb=>(lZ.1.other b m9).trans ?_⟩;rcases HFA.1.block b (m9)with e|⟨s,_,_,g1,_⟩|⟨x1,_⟩
  ·exact e.trans (ZS.1.block b hb)
  ·have:=HOR.1 _ _ g1;omega
  ·exact x1.elim
theorem DT(v6:Value)(b ob:Nat)(al:Bool)(T:TypeId)(x ms:Value)(W:World)(hT:¬T=125)(hN:¬T=53)(h:W.heap[b]?=some (.cells #[.pointer none,ptr ob,.bool al,.int .i32 0,.int .u32 0,.int .u32 0,v6,.nilIface,.bool false,ms] 113 (0,0))):
 Calls prog 27 #[ptr b,.iface T x] W (F2 b #[.pointer none,ptr ob,.bool false,.int .i32 0,.int .u32 0,.int .u32 15,.iface T x,.iface T x,.bool false,ms] 113 W):=by
 have lk:=yb T x W hT hN;have fL:=BJ ⟨b,3,none⟩ W (by simp[World.cell?,h]) (cd h 3);have ke:=aw h 3 (.int .i32 1);have H:=Z h;clear hT hN h
 go_enter_defers func27,ntmps27
 go_wp2_with fail;refine rv lk ?_;go_wp2_with fail;refine rv fL ?_;generalize W.setCell ⟨b,3,none⟩ (.int .i32 1)=W1 at ke⊢;have h1:=ke.here;simp only[Array.setIfInBounds]at h1;simp at h1;have f1:=cd h1 6;have f2:=cd h1 2;have c6:W1.cell? ⟨b,6,none⟩=some v6:=by simp[World.cell?,h1]
 exact M18
abbrev Cr(ob:Nat)(u:Value):Obj:=.cells #[.pointer none,ptr ob,.bool false,.int .i32 0,.int .u32 0,.int .u32 0,u,.nilIface,.bool false,.slice none 0 0] 113
def Mq(W:World)(ob:Nat)(u pos pk nm:Value)(o:Obj)(e:Ending)(W':World):Prop:=
 e=.returned (ptr W.heap.size)/\W'.heap.size=W.heap.size+1/\W'.os=W.os/\W'.tape=W.tape/\W'.output=W.output/\W'.heap[W.heap.size]?=some o/\W'.heap[ob]?=some (.cells #[pos,pk,nm,.iface 53 (ptr W.heap.size)] 117 (0,0))/\∀b,b<W.heap.size->b≠ob->W'.heap[b]?=W.heap[b]?
theorem zr(ob:Nat)(x:Value)(pos pk nm:Value)(W:World)(h:W.heap[ob]?=some (.cells #[pos,pk,nm,.nilIface] 117 (0,0))):
 Calls prog 45 #[.pointer none,ptr ob,.iface 33 x,.slice none 0 0] W (Mq W ob (.iface 33 x) pos pk nm (Cr ob (.iface 33 x))):=by
 have aM:=jQ2 h;have hg:(W.alloc (Cr ob (.iface 33 x))).heap[ob]?=some (.cells #[pos,pk,nm,.nilIface] 117 (0,0)):=aq h;have c3:(W.alloc (Cr ob (.iface 33 x))).cell? ⟨ob,3,none⟩=some .nilIface:=by simp[World.cell?,hg]
 have fz:=cd hg 3;have bk:ob≠W.heap.size:=m9
 go_enter func45,ntmps45;go_wp2_with fail;go_ret;have hp:=aw h 3 (.iface 53 (ptr W.heap.size));have h1:=ak (W.setCell ⟨ob,3,none⟩ (.iface 53 (ptr W.heap.size))) (Cr ob (.iface 33 x));have hb:=an (W.setCell ⟨ob,3,none⟩ (.iface 53 (ptr W.heap.size))) (Cr ob (.iface 33 x));exact M43
theorem zt(ob:Nat)(x:Value)(pos pk nm:Value)(W:World)(h:W.heap[ob]?=some (.cells #[pos,pk,nm,.nilIface] 117 (0,0))):
 Calls prog 23 #[ptr ob,.iface 33 x,.slice none 0 0] W (Mq W ob (.iface 33 x) pos pk nm (.cells #[.pointer none,ptr ob,.bool false,.int .i32 0,.int .u32 0,.int .u32 15,.iface 33 x,.iface 33 x,.bool false,.slice none 0 0] 113)):=by
 have Xf:=yb 33 x W i5 i5;have hc:=zr ob x pos pk nm W h;have aM:=jQ2 h;clear h;go_enter func23,ntmps23;go_wp2_with fail;refine rv Xf ?_;go_wp2_with fail;refine hc.mono ?_;rintro e w' ⟨rfl,h1,h2,h3,h4,h5,h6,h7⟩;have Kq:=DT (.iface 33 x) W.heap.size ob false 33 x (.slice none 0 0) w' i5 i5 h5;clear hc Xf;go_wp2_with fail;refine Kq.mono ?_;rintro e w3 ⟨rfl,hp⟩;have HP:=Z hp;clear Kq hp;go_wp2_with fail;go_ret;exact M97
theorem ZC(w:List ah)(k:Nat):(fs w (k+1)).ts da=⟨[],[some fu],true⟩:=by
 rw[fs];show iH (fs w k) w da=_;unfold iH;rw[jQ7 (show da.kind=17 from rfl)]
theorem acw(h:TH w K S D W)(hK:1<=K)(hS:∀b,z<=b->S b=none)(hD:∀b,z<=b->¬D b)(h0:W.heap[z]?=some tT1)(h1:W.heap[z+1]?=some (tT2 z))(h2:W.heap[z+2]?=some (tT3 z true))(h3:W.heap[z+3]?=some (tT4 z)):
 TH w K (cE S (z+3) (aG da)) (λb=>D b\/(z<=b/\b<z+3)) W:=by
 have z3:=jQ2 h3;have hM:=h.lW (λb=>z<=b/\b<z+3) (λb hb=>by
  refine⟨m9,hS b hb.1,?_⟩;have:b=z\/b=z+1\/b=z+2:=m9
  obtain rfl|rfl|rfl:=this
  ·exact⟨_,_,_,h0⟩
  ·exact⟨_,_,_,h1⟩
  ·exact⟨_,_,_,h2⟩)
 obtain⟨K',rfl⟩:∃K',K=K'+1:=⟨K - 1,m9⟩;have hkc:aG da=da:=rfl;have hk:(aG da).kind=17:=rfl;have fi:Wq (cE S (z+3) (aG da)) (λb=>D b\/(z<=b/\b<z+3)) W (z+2) ((fs w (K'+1)).ts (aG da)):=by
  rw[hkc,ZC w K'];refine⟨_,_,[],[ptr z],.inr ⟨m9,m9⟩,h2,.inl ⟨rfl,none,0,rfl,λ_=>rfl⟩,trivial,.inr ⟨i6,_,_,_,rfl,i6,i6,⟨.inr ⟨m9,m9⟩,_,_,h1⟩,λj u hu=>?_⟩,⟨⟨z,_,_,rfl,.inr ⟨m9,m9⟩,h0,.inl rfl,rfl⟩,trivial⟩⟩;exact M212
 have cP:iJ (cE S (z+3) (aG da)) (λb=>D b\/(z<=b/\b<z+3)) W (z+3) (aG da) (ptr (z+2)):=
  ⟨_,_,[],[],h3,.inl ⟨rfl,none,0,rfl,λ_=>rfl⟩,.inl ⟨rfl,none,0,rfl,λ_=>rfl⟩,by rw[hkc];trivial,by rw[hkc];trivial⟩
 exact hM.add (s:=aG da) (hS _ m9) (λhd=>hd.elim (hD _ m9) λh=>m9) z3 ⟨_,_,h3⟩ ⟨m9,m9,m9,m9,m9,m9,m9,m9,m9,λ_=>⟨_,cP⟩,m9⟩ (λ_=>⟨_,cP,.inr ⟨_,rfl,fi⟩⟩)
theorem TH.aaO{s:GT}{cs:Array Value}(h:TH w K S D W)(hn:cI s)(hb:S b=none)(hd:¬D b)(hc:W.heap[b]?=some (.cells cs ty (0,0))):TH w K (cE S b s) D W:=by
 have hk:s.kind=11\/s.kind=15\/s.kind=16:=hn;exact h.add hb hd (jQ2 hc) ⟨_,_,hc⟩ ⟨m9,m9,m9,m9,m9,m9,m9,m9,m9,m9,m9⟩ (λhi=>by simp[isIf]at hi;omega)
theorem PF(hv:dq S v t)(h1:1<=t.kind)(bH:t.kind<=10)(h2:t.kind≠2):NO w S W v t:=by
 obtain⟨b,rfl,hs⟩:=id hv;have hu:=hv.same (t':=az w t) (Bn w h2 m9 m9 m9).symm;exact M20
theorem Bs.aby(h:Bs NS Q w K B DI σ W)(hz:W.heap.size<=W'.heap.size)(hb:∀b,b<W.heap.size->¬Loc B DI σ b->(∀s,σ.S b=some s->¬cI s)->W'.heap[b]?=W.heap[b]?)(hc:∀b s,σ.S b=some s->cI s->∃cs ty,W'.heap[b]?=some (.cells cs ty (0,0))):Bs NS Q w K B DI σ W':=by
 have hS:∀b s,σ.S b=some s->¬cI s->W'.heap[b]?=W.heap[b]?:=λb s hs hn=>hb b (h.th.lI b s hs) (λhl=>by rw[hl.1]at hs;cases hs) λs' oC=>by rw[hs]at oC;cases oC;exact hn
 have hD:∀b,σ.D b->W'.heap[b]?=W.heap[b]?:=λb hd=>hb b (h.th.mT b hd) (λhl=>hl.2.1 hd) λs hs=>absurd hd (h.th.rS b s hs);have hm:au σ.D σ.D W W':=λb hb=>⟨hb,hD b hb⟩;refine⟨⟨λb s hs=>?_,λb s hs=>jQb (h.th.lI b s hs) hz,h.th.mT.mono hz,h.th.rS,λb hd=>?_,λb s hs=>?_,h.th.td.move hm,λb s hs hi=>?_⟩,(hb B.bb h.lt.1 (λhl=>hl.2.2.1 rfl) λs hs=>by have:=h.kJ.1;rw[hs]at this;cases this).trans h.jl,h.Rm.move hm,h.row.move hm,h.rn,h.dl,h.ev,h.cv,h.kJ,?_,h.gY,h.made,λb hd=>⟨jQb (h.di b hd).1 hz,(h.di b hd).2⟩,h.ifs⟩
 ·by_cases hn:cI s
  ·have hk:s.kind=11\/s.kind=15\/s.kind=16:=hn;exact⟨m9,m9,m9,m9,m9,m9,m9,m9,m9,m9,m9⟩
  ·exact(h.th.node b s hs).move (λ_ _ h=>h) hm (.inl (hS b s hs hn))
 ·obtain⟨cs,t,f,yq⟩:=h.th.LR b hd;exact⟨cs,t,f,(hD b hd).trans yq⟩
 ·by_cases hn:cI s
  ·exact hc b s hs hn
  ·obtain⟨cs,t,yq⟩:=h.th.A9 b s hs;exact⟨cs,t,(hS b s hs hn).trans yq⟩
 ·have hn:¬cI s:=λhn=>by
   have hk:s.kind=11\/s.kind=15\/s.kind=16:=hn;simp[isIf]at hi;omega
  exact(h.th.st b s hs hi).move (λ_ _ h=>h) hm (hS b s hs hn)
 ·exact cD h.own λg hg=>hb g (h.lt.2 g hg) (λhl=>hl.2.2.2.1 hg) λs hs=>by have:=(h.gY g hg).1;rw[hs]at this;cases this
theorem DZ.gr(h:DZ w σ W obj)(dJ:∀(n:Nat) (d:ah),w[n]?=some d->∀m∈d.meths,m.sig.kind=7)(hb:Bs NS Q w K B DI σ W)(hg:Gr B σ aO W W'):DZ w aO W' obj:=by
 refine⟨λb s hs hn=>?_,λb b' s h1 h2 hn=>h.we b b' s (hg.xQ b s h1 hn) (hg.xQ b' s h2 hn) hn,λb b' s s' h1 h2 hn hn'=>h.Gk b b' s s' (hg.xQ b s h1 hn) (hg.xQ b' s' h2 hn') hn hn'⟩;have oC:=hg.xQ b s hs hn;obtain⟨ut,ms,ps,h1,h2,h3,h4,h5⟩:=h.named b s oC hn;refine⟨ut,ms,ps,(hg.types hb b s oC).trans h1,h2.mono hg.sle,h3.move (hg.aJ hb),Jy h4 hb hg ?_,h5.move (hg.aJ hb)⟩;exact M44
theorem Bs.rk(h:Bs NS Q w K B DI σ W)(Wu:∀t,PT NS Q w 0 t->t.kind=10->2*J rs false false t<r)(Wv:2*J rs false false da<r):∀b s,σ.S b=some s->isIf s=true->2*J rs false false s<r:=by
 intro b s hs hi;rcases h.ifs b s hs hi with rfl|⟨t,rfl,hk,hp⟩
 ·exact Wv
 ·have:=Wu t hp hk;have:=AZ rs false false t;omega
structure OfF(B:Bl)(σ aO:BS)(W W':World):Prop where
 os:W'.os=W.os
 tape:W'.tape=W.tape
 output:W'.output=W.output
 size:W.heap.size<=W'.heap.size
 block:∀b,b<W.heap.size->b≠B.bb->σ.mv.ownBlock≠some b->W'.heap[b]?=W.heap[b]?\/∃s ts sh,σ.S b=some s/\isIf s=true/\DE W W' b ts sh
 sle:EH σ.S aO.S
 uF:∀b s,aO.S b=some s->σ.S b=some s\/W.heap.size<=b
 MQ:∀g,aO.mv.ownBlock≠some g
theorem uJ(ih:∀N,dR NS Q w K B DI N)(hT:∀S D,dS NS Q w S D obj rs K r)(dJ:∀(n:Nat) (d:ah),w[n]?=some d->∀m∈d.meths,m.sig.kind=7)(Wu:∀t,PT NS Q w 0 t->t.kind=10->2*J rs false false t<r)(Wv:2*J rs false false da<r)(cG:Bs NS Q w K B DI σ W)(hn:DZ w σ W obj)(hp:PT NS Q w 2 t)(hv:RT DI W t v)(hl:σ.ml.length+nds t<=1099511627776):
 Calls prog 13 #[ptr B.bb,v] W λe W'=>∃u aO,e=.returned u/\dq aO.S u t/\Bs NS Q w K B DI aO W'/\DZ w aO W' obj/\aO.ml=[]/\OfF B σ aO W W':=by
 have qj:=hv;obtain⟨a0,c,rfl,hs⟩:=hv.bR;have ar:=an W (bx t a0 c);have HM:=Z ((Md.start cG).below ar);have eR:au DI DI W (W.alloc (bx t a0 c)):=λx hx=>⟨hx,ar.block x (cG.di x hx).1⟩;obtain⟨x0,x1,x2,x3,x4,x5,x6⟩:=ao (ak W (bx t a0 c));have ag:=ih (nds t) t σ _ _ (jQ0 _) hp HM.1.bs (qj.move eR) hl;obtain⟨HT,zk,HQ,uL,HN⟩:=Z5 hT dJ (And.intro Wu Wv) cG hn;clear ih hT dJ Wu Wv cG hn hp hv qj hl hs eR ar;go_enter func13,ntmps13;go_wp2_with fail;refine ag.mono ?_;rintro e' wA ⟨u,Ie,rfl,cq,hu⟩;have yF:=Z (HM.1.trans cq);have HU:=Z hu;have CH:=HN.1.gr zk.1 uL.1 yF.1.gr;have aD:=rF (HT.1 Ie.S Ie.D) zk.1 yF.1.bs CH (yF.1.bs.rk HQ.1.1 HQ.1.2);clear ag cq hu CH;go_wp2_with fail;refine aD.mono ?_;rintro e' wB ⟨rfl,D',cX,iK,g1,g2,g3,g4,g5⟩;have HR:=Z (show∃u' aO,(Ending.returned u:Ending)=.returned u'/\dq aO.S u' t/\Bs NS Q w K B DI aO wB/\DZ w aO wB obj/\aO.ml=[]/\OfF B σ aO W wB from by
  have hg:=yF.1.gr;refine⟨u,{Ie with D:=D',mv:=.slice none 0 0,ml:=[]},rfl,HU.out,cX,iK,rfl,g1.trans hg.os,g2.trans hg.tape,g3.trans hg.output,jQd hg.size g4,λb hb h1 h2=>?_,hg.sle,hg.uF,λg nG=>by simp[Value.ownBlock]at nG⟩;have hz:=hg.size;have ZN:=hg.block b hb h1 h2;rcases g5 b m9 h1 with e|⟨s,ts,sh,k1,k2,c0,c1,c2,c3,c4,c5,k3,k4⟩
  ·exact .inl (e.trans ZN)
  ·rcases hg.uF b s k1 with k5|k5
   ·exact .inr ⟨s,ts,sh,k5,k2,c0,c1,c2,c3,c4,c5,ZN.symm.trans k3,k4⟩
   ·omega)
 clear aD cX iK g1 g2 g3 g4 g5;go_wp2_with fail;go_ret;exact HR.1
theorem zY(hw:WK NS Q w rs cs)(hq:QP NS Q)(ih:∀N,dR NS Q w K B DI N)(hT:∀S D,dS NS Q w S D obj rs K r)(dJ:∀(n:Nat) (d:ah),w[n]?=some d->∀m∈d.meths,m.sig.kind=7)(Wu:∀t,PT NS Q w 0 t->t.kind=10->2*J rs false false t<r)(Wv:2*J rs false false da<r)(cG:Bs NS Q w K B DI σ W)(hn:DZ w σ W obj)(hp:PT NS Q w 0 t)(hv:RT DI W t v)(hl:σ.ml.length+nds t<=1099511627776):
 Calls prog 11 #[ptr B.bb,v] W λe W'=>∃u aO,e=.returned u/\((isIf (az w t)=true/\∃b,u=ptr b/\aO.S b=some (aG (az w t)))\/(isIf (az w t)=false/\u=.pointer none))/\Bs NS Q w K B DI aO W'/\DZ w aO W' obj/\aO.ml=[]/\OfF B σ aO W W':=by
 have qj:=hv;obtain⟨a0,c,rfl,hs⟩:=hv.bR;have ar:=an W (bx t a0 c);have HM:=Z ((Md.start cG).below ar);have eR:au DI DI W (W.alloc (bx t a0 c)):=λx hx=>⟨hx,ar.block x (cG.di x hx).1⟩;obtain⟨x0,x1,x2,x3,x4,x5,x6⟩:=ao (ak W (bx t a0 c));have fJ:PT NS Q w 2 t:=hp.eS (jQ0 _) (λ_ h=>h) m9 id id;have ag:=uJ ih hT dJ Wu Wv HM.1.bs (hn.gr dJ cG HM.1.gr) fJ (qj.move eR) hl;have bS:=Z ar;have afZ:(az w t).kind=10\/(az w t).kind=17\/tid (az w t).kind≠33:=by
  rcases(lq hw hq hp).1 with e|⟨h1,h2,h3,h4,h5,h6,h7⟩
  ·rw[e];exact .inr (.inl rfl)
  ·by_cases bH:(az w t).kind=10
   ·exact .inl bH
   ·refine .inr (.inr λe=>?_);rcases de (az w t).kind with g|g|g|g|g|g|g|g|g|g|g|g<;>(rw[g.2]at e;first|(exact absurd e i5)|omega)
 obtain⟨aih,HQ,pG⟩:=Z3 afZ hq fJ;clear afZ ih hT dJ Wu Wv cG hn hp hv qj hl hs eR ar hw hq fJ;go_enter func11,ntmps11;go_wp2_with fail;refine ag.mono ?_;rintro e' wA ⟨u,Ie,rfl,hu,cX,iK,gP,hf⟩;have qN:=bj HQ.1 (cX.gh iK) hu (.inl ⟨2,pG.1⟩);obtain⟨T,f,b2,rfl,⟨hm,pC⟩,jL⟩:=qN;obtain⟨dP,HN2,zq⟩:=Z3 cX iK gP;have HF:=Z (show OfF B σ Ie W wA from by
  refine⟨hf.os.trans bS.1.os,hf.tape.trans bS.1.tape,hf.output.trans bS.1.output,jQd bS.1.size hf.size,λb hb h1 h2=>?_,hf.sle,λb s hs=>(hf.uF b s hs).imp id λh=>jQd bS.1.size h,hf.MQ⟩;have hz:=bS.1.size;have e1:=bS.1.block b hb;rcases hf.block b m9 h1 h2 with e|⟨s,ts,sh,k1,k2,c0,c1,c2,c3,c4,c5,k3,k4⟩
  ·exact .inl (e.trans e1)
  ·exact .inr ⟨s,ts,sh,k1,k2,c0,c1,c2,c3,c4,c5,e1.symm.trans k3,k4⟩)
 clear ag hu cX iK gP hf;go_wp2_with fail;refine jL.mono ?_;rintro e' w' ⟨v',rfl,zw,rY⟩;replace rY:=rY.symm;subst rY;obtain⟨b4,rfl,nU⟩:=id zw;have Bj:=Z nU;clear jL zw nU hm pC;by_cases hT:tid (az w t).kind=33
 ·have hi:isIf (az w t)=true:=by
   obtain h|h|h:=aih.1
   ·simp[isIf,h]
   ·simp[isIf,h]
   ·exact absurd hT h
  have HI:=Z hi;rw[hT];clear hi hT;go_wp2_with fail;go_ret;exact⟨_,Ie,rfl,.inl ⟨HI.1,b4,rfl,Bj.1⟩,dP.1,HN2.1,zq.1,HF.1⟩
 ·have hi:isIf (az w t)=false:=by
   cases h:isIf (az w t)with
   |false=>rfl
   |true=>
    have:(az w t).kind=10\/(az w t).kind=17:=by simpa[isIf]using h
    rcases this with h|h<;>(rw[h]at hT;exact absurd rfl hT)
  have HI:=Z hi;have fp:=λx w'=>aP (tid (az w t).kind) (ptr b4) x w' hT;clear hi hT;go_wp2_with fail;go_ret;exact⟨_,Ie,rfl,.inr ⟨HI.1,rfl⟩,dP.1,HN2.1,zq.1,HF.1⟩
end Go.Proofs.YtabjfnkfocnklaaGreatDoor
