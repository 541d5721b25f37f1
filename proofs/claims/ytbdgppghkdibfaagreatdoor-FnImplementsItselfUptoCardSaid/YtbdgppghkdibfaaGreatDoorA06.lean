import Derived.Test.YtbdgppghkdibfaaGreatDoorA05
set_option linter.all false
set_option maxHeartbeats 16000000
set_option maxRecDepth 20000
namespace Go.Proofs.YtbdgppghkdibfaaGreatDoor
open Go Go.RowKit Go.Lib S Tryz
variable{GT:Prop}
def M15(h:GT:=by
 go_in;go_wp2_with (go_at_call 44;refine(aQ _ _ _).mono ?_;rintro e w1 ⟨rfl,rfl⟩);refine ag.mono ?_;rintro e w1 ⟨rfl,ar⟩;have HB:=Z (HC.1.trans (ar.mono HC.1.size));clear ar ag;exact M97):GT:=h
def M180(h:GT:=by
 cases Gv with
 |true=>
  exact M9
 |false=>
  cases pt with
  |true=>
   exact M9
  |false=>
   exact M9):GT:=h
def M20(h:GT:=by
 go_in;go_wp2_with (go_at_call 44;refine(aQ _ _ _).mono ?_;rintro e w1 ⟨rfl,rfl⟩);go_ret;exact⟨rfl,HC.1⟩):GT:=h
def M60(h:GT:=by
 by_cases g4:t.ld=4
 .have k4:(t.ld==4)=true:=by simp[g4]
  clear h4 g4 hl;exact M20
 .have k4:(t.ld==4)=false:=by simp[g4]
  by_cases g6:t.ld=6
  .have k6:(t.ld==6)=true:=by simp[g6]
   clear h4 g4 g6 hl;exact M20
  .have k6:(t.ld==6)=false:=by simp[g6]
   have k9:(t.ld==9)=true:=by simp;omega
   clear h4 g4 g6 hl;exact M20):GT:=h
def M81(h:GT:=by
 clear hc h U g2;go_in;go_wp2_with (go_at_call 44;refine(aQ _ _ _).mono ?_;rintro e w1 ⟨rfl,rfl⟩);refine ag.mono ?_;rintro e w1 ⟨rfl,ar⟩;have HB:=Z (HC.out.trans (ar.mono HC.out.size));clear ar ag;exact M97):GT:=h
def M9(h:GT:=by
 go_in;go_wp2_with (go_at_call 44;refine(aQ _ _ _).mono ?_;rintro e w1 ⟨rfl,rfl⟩);go_ret;exact⟨by first|(simp[*];done)|(simp[*];intros;omega),HA.1⟩):GT:=h
def M99(h:GT:=by
 by_cases g2:t.ld=2
 .have k2:(t.ld==2)=true:=by simp[g2]
  clear hc U g2;exact M9
 .have k2:(t.ld==2)=false:=by simp[g2]
  have k3:(t.ld==3)=true:=by simp;omega
  clear hc U g2;exact M9):GT:=h
def pJ{α:Type}(f:α->Bool):∀l:List α,anyM (λa=>some (f a)) l=some (l.any f)
 |[]=>rfl
 |a::l=>by
  rw[anyM,List.any_cons];cases h:f a
  .simpa[h]using pJ f l
  .simp[h]
def uW:∀(fn:Fn) (first cap:Array Value) (w:World),(Instr.makeFunc fn first cap).run prog w=.ok (.func fn first cap) w:=λ_ _ _ _=>rfl
def Ue(k:Nat)(ih:Gn k):Gm (k+1):=by
 intro w ws t p r v W D j hn H hv;rw[dz]at j;obtain⟨a,c,rfl,hs⟩:=hv.bR;obtain⟨wa,wc,rfl⟩:=H.rd.form;have HA:=Z (pE W (.cells #[.slice wa w.length wc] 22) (bx t a c) (px p));by_cases cQ:t.ld=12
 .rw[jQ4 (G9 cQ)]at j;have tT:(t.ld !=12)=false:=by simp[cQ]
  by_cases hl:t.li.length≥2/\t.li.length<=8
  .rw[jQ7 hl]at j;have j:=aX j;have l2:(2:Int)<=(t.li.length:Int):=M
   have l8:(t.li.length:Int)<=8:=M
   have fw:ce (((W.alloc (.cells #[.slice wa w.length wc] 22)).alloc (bx t a c)).alloc (px p)) W.heap.size 0 (.slice wa w.length wc):=jQh (aq (aq (ak W (.cells #[.slice wa w.length wc] 22))));have OW:=ak ((W.alloc (.cells #[.slice wa w.length wc] 22)).alloc (bx t a c)) (px p);simp only[jQ3]at OW;have dF:=H.mv HA.1;have ag:=cL t.li _ _ D (hs.mv H.lo HA.1) dF.lo 136 #[.pointer (some ⟨W.heap.size,0,none⟩),.pointer (some ⟨W.heap.size+1+1,0,none⟩)] Tryz.call136 _ (λW1 e v bb ar hm dr ke=>
    elC k ih w _ e p bb v W1 D W.heap.size (W.heap.size+1+1) ke (hn.elem hm) (dF.mv ar) dr ((ar.cell (p:=⟨W.heap.size,0,none⟩) (by simp;omega)).trans fw) (aj ar OW i6)) (!r) j
   have D8:=uW;clear H hv dF fw OW j hl cQ hs hn;exact M24
  .rw[jQ4 hl]at j;have h:false=r:=G9 j
   subst h;clear j H hv hs hn cQ;by_cases l2:(2:Int)<=(t.li.length:Int)
   .have l8:¬(t.li.length:Int)<=8:=M
    clear hl;exact M47
   .clear hl;exact M47
 .rw[jQ7 (G9 cQ)]at j;have tT:(t.ld !=12)=true:=by simp[cQ]
  exact M175
def PY(f m v W D)(Bm:Nat)(hv:RT D W f v){am:Option Addr}{cm:Nat}(Ez:W.heap[Bm]?=some (bx m am cm)):
 Calls prog 46 #[v,.pointer (some ⟨Bm,0,none⟩)] W (ef W (aE f.name m.name)):=M130
def L9(k:Nat)(Gf:wg k)(w ws t)(p:S.Place)(r:Bool)(v W D)(j:placed w (k+1) t p=some r)(hn:NB t)(H:Cx D w ws W)(hv:RT D W t v)(hk:t.ld=1\/t.ld=14\/t.ld=15\/t.ld=16\/t.ld=11\/t.ld=2\/t.ld=3\/t.ld=5):Calls prog 20 #[ws,v,pv p] W (ef W r):=by
 have HK:=Z hk;clear hk;obtain⟨pd,Gv,pt⟩:=p;rw[placed]at j;simp only at j;obtain⟨a,c,rfl,hs⟩:=hv.bR;obtain⟨wa,wc,rfl⟩:=H.rd.form;obtain⟨HA,HP,HX,HV,HS,HN,HE⟩:=Z7 (dT W (bx t a c) (.cells #[.int .i64 pd,.bool Gv,.bool pt] 49)) j H hv hs hn (show∀e∈t.li,NB e from λe he=>hn.elem he);clear j H hv hs hn;by_cases I:t.ld=1
 .have k1:(t.ld==1)=true:=by simp[I]
  have h:=HP.1;rw[jQ7 I]at h;have h:(within t.n 18&&((t.li.length:Int)==0))=r:=G9 h
  clear I;cases hw:within t.n 18 with
  |false=>
   rw[hw]at h;have h:false=r:=G9 h
   subst h;exact M9
  |true=>
   rw[hw,jRn]at h;subst h;exact M9
 have k1:(t.ld==1)=false:=by simp[I]
 have HP:=Z ((jQ4 I).symm.trans HP.1);clear I;by_cases mM:t.ld=14\/t.ld=15\/t.ld=16
 .have h:=HP.1;rw[jQ7 mM]at h;have h:((t.li.length:Int)==0)=r:=G9 h
  subst h;by_cases g14:t.ld=14
  .have k14:(t.ld==14)=true:=by simp[g14]
   clear g14 mM;exact M9
  .have k14:(t.ld==14)=false:=by simp[g14]
   by_cases g15:t.ld=15
   .have Hw:(t.ld==15)=true:=by simp[g15]
    clear g14 g15 mM;exact M9
   .have Hw:(t.ld==15)=false:=by simp[g15]
    have yr:(t.ld==16)=true:=by simp;omega
    clear g14 g15 mM;exact M9
 have k14:(t.ld==14)=false:=by simp;omega
 have Hw:(t.ld==15)=false:=by simp;omega
 have yr:(t.ld==16)=false:=by simp;omega
 have HP:=Z ((jQ4 mM).symm.trans HP.1);clear mM;by_cases dA:t.ld=11
 .have qd:(t.ld==11)=true:=by simp[dA]
  have h:=HP.1;rw[jQ7 dA]at h;have h:(within t.n w.length&&((!Gv&&!pt)||decide (t.n<pd))&&((t.li.length:Int)==0))=r:=G9 h
  clear dA;cases hw:within t.n w.length with
  |false=>
   rw[hw]at h;have h:false=r:=G9 h
   subst h;exact M9
  |true=>
   rw[hw,jRn]at h;subst h;clear HP HX HV HS HN HE;by_cases hd:t.n<pd
   .exact M180
   .exact M180
 have qd:(t.ld==11)=false:=by simp;omega
 have HP:=Z ((jQ4 dA).symm.trans HP.1);clear dA;by_cases U:t.ld=2\/t.ld=3
 .have h:=HP.1;rw[jQ7 U]at h;by_cases hc:t.n≥0/\(t.li.length:Int)=1
  .rw[jQ7 hc]at h;have Hv:0<=t.n:=hc.1;have hl:((t.li.length:Int)==1)=true:=by simp;omega
   have ag:=Gf w _ t.li ⟨pd,Gv,pt⟩ r _ _ D h HE.1 (HX.1.mv HA.1) (HS.1.mv HX.1.lo HA.1);have HC:=HA;by_cases g2:t.ld=2
   .have k2:(t.ld==2)=true:=by simp[g2]
    exact M81
   .have k2:(t.ld==2)=false:=by simp[g2]
    have k3:(t.ld==3)=true:=by simp;omega
    exact M81
  .rw[jQ4 hc]at h;have h:false=r:=G9 h
   subst h;by_cases Hv:0<=t.n
   .have hl:((t.li.length:Int)==1)=false:=by simp;omega
    exact M99
   .exact M99
 have k2:(t.ld==2)=false:=by simp;omega
 have k3:(t.ld==3)=false:=by simp;omega
 have HP:=Z ((jQ4 U).symm.trans HP.1);clear U;by_cases h5:t.ld=5
 .have k5:(t.ld==5)=true:=by simp[h5]
  have j:=HP.1;rw[jQ7 h5]at j;clear h5;have HP:=Z j;clear j;have Wj:t.li.length<=9223372036854775807:=by
   rcases aN.1 HS.1 with⟨he,_⟩|⟨_,b2,o2,c2,dN,fh,fL,du,gX⟩
   .rw[he];simp
   .omega
  have hXA:=Z (HX.1.mv HA.1);have hSA:=Z (HS.1.mv HX.1.lo HA.1);obtain⟨c0,c1,c2,c3,c4,c5,c6⟩:=ao (aq (o:=.cells #[.int .i64 pd,.bool Gv,.bool pt] 49) (ak W (bx t a c)));obtain⟨d0,d1,d2⟩:=nQ (ak (W.alloc (bx t a c)) (.cells #[.int .i64 pd,.bool Gv,.bool pt] 49));simp only[jQ3]at d0 d1 d2;have iT:W.heap.size<((W.alloc (bx t a c)).alloc (.cells #[.int .i64 pd,.bool Gv,.bool pt] 49)).heap.size:=by simp;omega
  have mU:W.heap.size+1<((W.alloc (bx t a c)).alloc (.cells #[.int .i64 pd,.bool Gv,.bool pt] 49)).heap.size:=i6
  go_in;go_wp21;generalize Hr:(W.alloc (bx t a c)).alloc (.cells #[.int .i64 pd,.bool Gv,.bool pt] 49)=wn at HA hXA hSA c0 c1 c2 c3 c4 c5 c6 d0 d1 d2 iT mU
  try rw[Hr]
  go_loopg [8,9,80] t.li.length (λgg _ _ s80 wr=>∃kk:Nat,kk<=t.li.length/\t.li.length - kk<=gg/\s80=.int .i64 kk/\Aside (S5 wn wr)/\Aside ((t.li.zipIdx.drop kk).any (λq=>!isName q.1.name||mD t.li q.2 q.1)=t.li.zipIdx.any (λq=>!isName q.1.name||mD t.li q.2 q.1)))
  case atStart=>exact⟨0,jQc _,M,rfl,jQ5 _ _,rfl⟩
  case round=>
   obtain⟨kk,ez,hg,rfl,BW,A⟩:=hrel;by_cases aM:kk<t.li.length
   .have aR:(kk:Int)<(t.li.length:Int):=M
    obtain⟨e,hm⟩:∃e,t.li[kk]?=some e:=⟨t.li[kk],by simp[aM]⟩;have bL:t.li.zipIdx.drop kk=(e,kk)::t.li.zipIdx.drop (kk+1):=by
     rw[jQv (G9 aM)];simp[jQp aM]at hm;simp[hm]
    have hA:=A.out;rw[bL,List.any_cons]at hA;rcases aN.1 hSA.1 with⟨he,_⟩|⟨_,b2,o2,xv,dN,fh,fL,du,gX⟩
    .exact M106
    simp at dN;obtain⟨rfl,rfl⟩:=dN;have hE:=(gX.at hm).move (hXA.1.lo.aJ BW.out) du;obtain⟨sa,sc,f0,f1,f2,f3,f4,f5,f6,iL⟩:=hE.bR;have dZ:=BW.out.size;have zl:e∈t.li:=jQ8 hm;have hcN:=fO e.name (wr.alloc (bx e sa sc)) (HE.1 e zl).name;have g6:=(BW.out.cell (p:=⟨W.heap.size,6,none⟩) iT).trans c6;have Ma:W.heap.size<wr.heap.size:=M
    obtain⟨pT,EM⟩:=RS.upto (m:=(kk:Int)) (l':=t.li.take kk) ((hSA.1.mv hXA.1.lo BW.out).mv (hXA.1.lo.mono dZ) (an wr (bx e sa sc))) (by unfold mq;rw[jQ7 ⟨M,M⟩];simp);have hlen:(t.li.take kk).length=kk:=by simp;omega
    rw[hlen]at pT EM;have D8:=uW;clear hE gX iL bL hm hlen;cases dU:isName e.name with
    |false=>
     rw[dU]at hA hcN;have qc:t.li.zipIdx.any (λq=>!isName q.1.name||mD t.li q.2 q.1)=true:=by rw[<-hA];simp
     have h:=HP.1;rw[jQ7 qc]at h;have h:false=r:=G9 h
     subst h;clear dU hA qc;go_wp2_with (go_at_call 38;refine hcN.mono ?_;rintro e w1 ⟨rfl,rfl⟩);go_ret;exact⟨rfl,HA.1.trans ((BW.out.trans ((an wr _).mono dZ)).mono HA.1.size)⟩
    |true=>
     rw[dU]at hA hcN;have hcC:=cL (t.li.take kk) _ (wr.alloc (bx e sa sc)) D EM ((hXA.1.lo.mono dZ).mono i6) 46 #[.pointer (some ⟨wr.heap.size,0,none⟩)] Tryz.call46 (λg=>some (aE g.name e.name)) (λW1 g v bb ar _ dr ke=>by
      have h:aE g.name e.name=bb:=G9 ke
      subst h;exact PY g e v W1 _ wr.heap.size dr (aj ar (ak wr _) i6)) _ (pJ _ _)
     cases mW:mD t.li kk e with
     |true=>
      have Uf:((t.li.take kk).any λg=>aE g.name e.name)=true:=mW;rw[Uf]at hcC;have qc:t.li.zipIdx.any (λq=>!isName q.1.name||mD t.li q.2 q.1)=true:=by rw[<-hA,mW];simp
      have h:=HP.1;rw[jQ7 qc]at h;have h:false=r:=G9 h
      subst h;clear dU hA qc mW Uf;go_wp2_with (first
       |(go_at_call 38;refine hcN.mono ?_;rintro e w1 ⟨rfl,rfl⟩)
       |(go_at_call 18;refine hcC.mono ?_;rintro e w9 ⟨rfl,zG⟩))
      go_ret;exact⟨rfl,HA.1.trans (((BW.out.trans ((an wr _).mono dZ)).trans (zG.mono (by simp;omega))).mono HA.1.size)⟩
     |false=>
      have Uf:((t.li.take kk).any λg=>aE g.name e.name)=false:=mW;rw[Uf]at hcC;rw[mW]at hA;have KB:(t.li.zipIdx.drop (kk+1)).any (λq=>!isName q.1.name||mD t.li q.2 q.1)=t.li.zipIdx.any (λq=>!isName q.1.name||mD t.li q.2 q.1):=G9 hA
      have Wh:=Z KB;clear dU hA KB mW Uf A;go_wp2_with (first
       |(go_at_call 38;refine hcN.mono ?_;rintro e w1 ⟨rfl,rfl⟩)
       |(go_at_call 18;refine hcC.mono ?_;rintro e w9 ⟨rfl,zG⟩))
      go_roundg (t.li.length - (kk+1))
      case measure=>omega
      case rel=>exact⟨kk+1,M,M,by go_num,(BW.out.trans ((an wr _).mono dZ)).trans (zG.mono (by simp;omega)),Wh.1⟩
   .have aR:¬(kk:Int)<(t.li.length:Int):=M
    have hA:=A.out;rw[jQf (by simp;omega),List.any_nil]at hA;have h:=HP.1;rw[<-hA]at h;have h:allPlaced w k t.li ⟨pd,Gv,pt⟩=some r:=G9 h
    have dZ:=BW.out.size;have g6:=(BW.out.cell (p:=⟨W.heap.size,6,none⟩) iT).trans c6;have g0:=(BW.out.cell (p:=⟨W.heap.size+1,0,none⟩) mU).trans d0;have g1:=(BW.out.cell (p:=⟨W.heap.size+1,1,none⟩) mU).trans d1;have g2:=(BW.out.cell (p:=⟨W.heap.size+1,2,none⟩) mU).trans d2;have ag:=Gf w _ t.li ⟨pd,Gv,pt⟩ r _ wr D h HE.1 (hXA.1.mv BW.out) (hSA.1.mv hXA.1.lo BW.out);clear h hA A;go_wp21;refine ag.mono ?_;rintro e w1 ⟨rfl,ar⟩;have HB:=Z (HA.1.trans ((BW.out.trans (ar.mono dZ)).mono HA.1.size));exact M218
 have:=HK.1;simp at k1 k14 Hw yr qd k2 k3;omega
set_option maxRecDepth 100000 in
theorem Mt(k:Nat)(Gf:wg k)(ihI:Gl k)(w:List ah)(ws:Value)(t:Y)(p:S.Place)(r:Bool)(v:Value)(W:World)(D:Qx)(j:placed w (k+1) t p=some r)(hn:NB t)(H:Cx D w ws W)(hv:RT D W t v)(hk:¬(t.ld=1\/t.ld=14\/t.ld=15\/t.ld=16\/t.ld=11\/t.ld=2\/t.ld=3\/t.ld=5)):Calls prog 20 #[ws,v,pv p] W (ef W r):=by
 obtain⟨pd,Gv,pt⟩:=p;rw[placed]at j;simp only at j;rw[jQ4 M,jQ4 M,jQ4 M,jQ4 M,jQ4 M]at j;have k1:(t.ld==1)=false:=by simp;omega
 have k14:(t.ld==14)=false:=by simp;omega
 have Hw:(t.ld==15)=false:=by simp;omega
 have yr:(t.ld==16)=false:=by simp;omega
 have qd:(t.ld==11)=false:=by simp;omega
 have k2:(t.ld==2)=false:=by simp;omega
 have k3:(t.ld==3)=false:=by simp;omega
 have k5:(t.ld==5)=false:=by simp;omega
 obtain⟨a,c,rfl,hs⟩:=hv.bR;obtain⟨wa,wc,rfl⟩:=H.rd.form;obtain⟨HA,HP,HX,HV,HS,HN,HE⟩:=Z7 (dT W (bx t a c) (.cells #[.int .i64 pd,.bool Gv,.bool pt] 49)) j H hv hs hn (show∀e∈t.li,NB e from λe he=>hn.elem he);clear j H hv hs hn hk;by_cases bH:t.ld=10
 .have sq:(t.ld==10)=true:=by simp[bH]
  have h:=HP.1;rw[jQ7 bH]at h;have ag:=ihI w _ t ⟨pd,Gv,pt⟩ r _ _ D h HN.1 (HX.1.mv HA.1) (HV.1.mv HX.1.lo HA.1);have HC:=HA;clear bH h;exact M15
 have sq:(t.ld==10)=false:=by simp[bH]
 have HP:=Z ((jQ4 bH).symm.trans HP.1);clear bH;have HC:=Z (dT W (bx t a c) (.cells #[.int .i64 pd,.bool false,.bool pt] 49));have hz:t.li.length<9223372036854775807:=HN.1.len;have gj:(t.li.length:Int)+1<=9223372036854775807:=M
 by_cases h4:t.ld=4\/t.ld=6\/t.ld=9
 .have h:=HP.1;rw[jQ7 h4]at h;by_cases hw:within t.n 3=true
  .by_cases hl:(t.li.length:Int)=1
   .rw[jQ7 ⟨hw,hl⟩]at h;have ag:=Gf w _ t.li ⟨pd,false,pt⟩ r _ _ D h HE.1 (HX.1.mv HC.1) (HS.1.mv HX.1.lo HC.1);have hlq:((t.li.length:Int)==1)=true:=by simp;omega
    by_cases g4:t.ld=4
    .have k4:(t.ld==4)=true:=by simp[g4]
     clear h4 g4 hl;exact M15
    .have k4:(t.ld==4)=false:=by simp[g4]
     by_cases g6:t.ld=6
     .have k6:(t.ld==6)=true:=by simp[g6]
      clear h4 g4 g6 hl;exact M15
     .have k6:(t.ld==6)=false:=by simp[g6]
      have k9:(t.ld==9)=true:=by simp;omega
      clear h4 g4 g6 hl;exact M15
   .rw[jQ4 (λhh=>hl hh.2)]at h;have h:false=r:=G9 h
    subst h;have hlq:((t.li.length:Int)==1)=false:=by simp;omega
    exact M60
  .rw[jQ4 (λhh=>hw hh.1)]at h;have h:false=r:=G9 h
   subst h;have hw:within t.n 3=false:=G9 hw
   have hl:=();exact M60
 have k4:(t.ld==4)=false:=by simp;omega
 have k6:(t.ld==6)=false:=by simp;omega
 have k9:(t.ld==9)=false:=by simp;omega
 have HP:=Z ((jQ4 h4).symm.trans HP.1);clear h4;by_cases h8:t.ld=8
 .have k8:(t.ld==8)=true:=by simp[h8]
  have h:=HP.1;rw[jQ7 h8]at h;by_cases hl:(t.li.length:Int)=2
  .rw[jQ7 hl]at h;have ag:=Gf w _ t.li ⟨pd,false,pt⟩ r _ _ D h HE.1 (HX.1.mv HC.1) (HS.1.mv HX.1.lo HC.1);have hlq:((t.li.length:Int)==2)=true:=by simp;omega
   clear h8 hl h;exact M15
  .rw[jQ4 hl]at h;have h:false=r:=G9 h
   subst h;have hlq:((t.li.length:Int)==2)=false:=by simp;omega
   clear h8 hl;exact M20
 have k8:(t.ld==8)=false:=by simp[h8]
 have HP:=Z ((jQ4 h8).symm.trans HP.1);clear h8;by_cases h7:t.ld=7
 .have k7:(t.ld==7)=true:=by simp[h7]
  have h:=HP.1;rw[jQ7 h7]at h;clear h7;by_cases hw:within t.m ((t.li.length:Int)+1)=true
  .rw[jQ7 hw]at h;have hm:=S.within_iff.1 hw;cases xb:t.va with
   |false=>
    rw[xb]at h;have h:allPlaced w k t.li ⟨pd,false,pt⟩=some r:=G9 h
    have ag:=Gf w _ t.li ⟨pd,false,pt⟩ r _ _ D h HE.1 (HX.1.mv HC.1) (HS.1.mv HX.1.lo HC.1);simp only[bx,xb]at ag HC;clear h hm;exact M15
   |true=>
    rw[xb]at h;rw[jQ4 i6]at h;by_cases KS:t.m>0
    .rw[jQ7 KS]at h;obtain⟨e,he,h⟩:=jQ1.1 h;rcases aN.1 HS.1 with⟨zh,_⟩|⟨_,b2,o2,xv,dN,fh,fL,du,gX⟩
     .rw[zh]at he;simp at he
     simp at dN;obtain⟨rfl,rfl⟩:=dN;have hE:=(gX.at he).move (HX.1.lo.aJ HC.1) du;obtain⟨mm,kh⟩:∃mm:Nat,t.m - 1=(mm:Int):=⟨(t.m - 1).toNat,M⟩;rw[kh,Int.toNat_natCast]at hE;obtain⟨sa,sc,f0,f1,f2,f3,f4,f5,f6,iL⟩:=hE.bR;have Q4:mm<t.li.length:=M
     have hi1z:(mm:Int)<(t.li.length:Int):=M
     have lD:(0:Int)<t.m:=KS;by_cases QZ:e.ld=4
     .rw[jQ7 QZ]at h;have ag:=Gf w _ t.li ⟨pd,false,pt⟩ r _ _ D h HE.1 (HX.1.mv HC.1) (HS.1.mv HX.1.lo HC.1);have hkq:(e.ld==4)=true:=by simp[QZ]
      simp only[bx,xb]at ag HC f0;clear h hm hE gX he iL QZ;exact M15
     .rw[jQ4 QZ]at h;have h:false=r:=G9 h
      subst h;have hkq:(e.ld==4)=false:=by simp[QZ]
      simp only[bx,xb]at HC f0;clear hm hE gX he iL QZ;exact M20
    .rw[jQ4 KS]at h;have h:false=r:=G9 h
     subst h;have lD:(0<t.m)=False:=G9 KS
     simp only[bx,xb]at HC;clear hm KS;exact M20
  .rw[jQ4 hw]at h;have h:false=r:=G9 h
   subst h;have hw:within t.m ((t.li.length:Int)+1)=false:=G9 hw
   exact M20
 have k7:(t.ld==7)=false:=by simp[h7]
 have h:=HP.1;rw[jQ4 h7]at h;have h:false=r:=G9 h
 subst h;clear h7;exact M20
def U9(k:Nat)(Gf:wg k)(ihI:Gl k):xS (k+1):=by
 intro w ws t p r v W D j hn H hv;by_cases hk:t.ld=1\/t.ld=14\/t.ld=15\/t.ld=16\/t.ld=11\/t.ld=2\/t.ld=3\/t.ld=5
 .exact L9 k Gf w ws t p r v W D j hn H hv hk
 .exact Mt k Gf ihI w ws t p r v W D j hn H hv hk
