import Derived.Test.YtabjfnkfocnklaaGreatDoorA08
set_option linter.all false
set_option maxHeartbeats 16000000
set_option maxRecDepth 20000
namespace Go.Proofs.YtabjfnkfocnklaaGreatDoor
open Go Go.RowKit Go.Lib S P Tryz Go.Sort
variable{os:Array Obj}{cf d ti:Bool}{s s' ty:GT}{Q:GT->Prop}{acc l:List (Option Tm)}{NS nms:List ByteArray}{cs rs:List Nat}{ps:List Value}{w:List ah}{B B8 K a b b5 base c c2 cb ck cm g mb n n2 r r' sb tb u:Nat}{f:Nat×Nat}{obj:Nat->Nat}{D E E1 G X:Nat->Prop}{a2 am pk y:Option Addr}{so:Option Nat}{Y:Prop}{t t':TypeId}{p v v0 v1 v2:Value}{W W' W2 w' wr:World}
theorem jRb:type_of% @Go.below_drewN:=@Go.below_drewN
theorem M104(h:Y:=by
 rintro x (rfl|hx) cs t f hc
 ·rw[hB]at hc;cases hc;decide
 ·rcases sG with⟨h,_⟩|⟨mb,es,ck,h,hm,_⟩
  ·rw[h]at hx;cases hx
  ·rw[h]at hx;cases hx;rw[hm]at hc;cases hc):Y:=h
theorem M148(h:Y:=by
 have:t.kind=10\/t.kind=17:=by
  rcases cP with⟨-,h⟩|rfl
  ·exact .inl h
  ·exact .inr rfl
 rw[aI m9];exact this):Y:=h
theorem M182(h:Y:=by
 cases Gv with
 |true=>
  exact M7
 |false=>
  cases pt with
  |true=>
   exact M7
  |false=>
   exact M7):Y:=h
theorem M198(h:Y:=by
 go_wp2_with fail;go_ret;exact⟨i6,rfl⟩):Y:=h
theorem M2(h:Y:=by
 by_cases MY:ul.length>100
 ·rw[jQ7 MY]at qO;have Kl:(100:Int)<(ul.length:Int):=m9
  have jn:=Z qO.symm;have IS:=N9.1.ok.gh;have vj:GH w S D obj (w9.alloc (.cells #[.bool true,.slice none 0 0,.slice none 0 0,.bool false] 122)):=IS.below gJ.1.hs (an w9 _);have pB:=aj (an w9 (.cells #[.bool true,.slice none 0 0,.slice none 0 0,.bool false] 122)) N9.1.map (jQ2 N9.1.map);have ql:=iV (e:={key:=ptr u,val:=ptr tb,born:=ck}) (v:=ptr w9.heap.size) Eh yw (Pg u) (ckU u _) pB (eqU vj HU.1 (sO HU.1 HK.1 _ _)) i6 (iU tj.1 (ptr tb) ck) (jV u);have xy:=Z pB;obtain⟨tH,Lu,mj⟩:=ql;have tI:bZ (λb=>b=mb) S rs r W tH:=(N9.1.fr.trans (Below.fr (an w9 _))).trans (mj.fr xy.1 rfl);have tJ:Ok w S D obj rs K E r tH:=((N9.1.ok.drop λb hb=>.inl (.inl hb)).below gJ.1.hs (an w9 _)).frx gJ.1.hs (mj.fr (X:=λb=>b=mb) xy.1 rfl);have tK:tH.heap[mb]?=some (.map (es.push {key:=ptr u,val:=ptr w9.heap.size,born:=ck}) (ck+1)):=by
   have:=mj.here;rw[ni]at this;exact this
  have xB:tH.heap[w9.heap.size]?=some (.cells #[.bool true,.slice none 0 0,.slice none 0 0,.bool false] 122 (0,0)):=
   (mj.other _ (by have:=jQ2 N9.1.map;omega)).trans (ak w9 _)
  have qP:=Az tJ.gh tK (sO HU.1 HK.1 _ _) HU.1 false;rw[iU tj.1]at qP;simp only[jQk,jR1,Option.map_some,Option.getD_some]at qP;have tL:FR w K S tH w9.heap.size (aG e):=by
   have hn:=(rZ (w:=w) (K:=K) HHK.1).1;refine⟨true,_,xB,kA IS,λ_=>rfl,λq hq=>?_⟩;rw[hn,jn.1]at hq;cases hq
  have uE:Dj w K S tH mb:=by
   refine⟨_,_,tK,λen wR=>?_⟩;simp at wR;obtain wR|rfl:=wR
   ·exact(HUS.1.move tI) en (by simpa using wR)
   ·exact⟨u,w9.heap.size,aG e,rfl,HU.1,rfl,tL⟩
  have HP:=Z (show lC (λb=>b=mb) w S D obj rs K E r W (λv W'=>∃tb,v=ptr tb/\FR w K S W' tb (aG e)/\Dj w K S W' mb) (.returned (ptr w9.heap.size)) tH from⟨_,rfl,⟨w9.heap.size,rfl,tL,uE⟩,tJ,tI⟩);clear qO IS vj pB tI tJ tK xB tL uE mj;exact M13
 ·rw[jQ4 MY]at qO;have Kl:¬(100:Int)<(ul.length:Int):=m9
  have Lv:=Z qO;clear qO;go_wp2_with fail;go_roundg (ps.length - (kk+1))
  case measure=>omega
  case rel=>exact⟨kk+1,ul,m9,m9,by go_num,N9.1,Lv.1,HUL.1,m9⟩):Y:=h
theorem M213(h:Y:=by
 go_enter func83,ntmps83;go_wp2_with fail;go_ret;exact⟨_,rfl,an _ _⟩):Y:=h
theorem M31(h:Y:=by
 have c3:=jQh fm.here;have hP:iN (λx=>x=B8\/(none:Option Nat)=some x) W w4:=by
  refine⟨gF.os.trans (fm.os.trans jw.os),gF.tape.trans (fm.tape.trans jw.tape),gF.output.trans (fm.output.trans jw.output),?_,λx hx hn=>?_,HNT.1⟩
  ·have h1:=gF.size;have h2:=fm.size;have h3:=jw.size;simp at h2;omega
  ·have h3:=jw.size;rw[gF.other x m9,fm.other x (λe=>hn (.inl e)),(an W2 _).block x m9];exact jw.block x hx
 have HP:=Z (show DW W B8 none [] s (.returned .nilIface) w4 from .inr ⟨i6,rfl,some W2.heap.size,(gF.other _ m9).trans fm.here,.inr ⟨_,_,_,rfl,gF.here,i6,λe he=>by simp at he;subst he;exact⟨_,_,rfl⟩⟩,hP,.inr ⟨_,rfl,jw.size⟩⟩);clear hP gF fm sC Z7 fw ag;exact M13):Y:=h
theorem M32(h:Y:=by
 have bk:B8≠mb:=by intro e;rw[e,Of]at fw;cases fw
 have hP:iN (λx=>x=B8\/some mb=some x) W w4:=by
  refine⟨gF.os.trans jw.os,gF.tape.trans jw.tape,gF.output.trans jw.output,?_,λx hx hn=>?_,HNT.1⟩
  ·have h1:=gF.size;have h3:=jw.size;omega
  ·rw[gF.other x (λe=>hn (.inr (by rw[e])))];exact jw.block x hx
 have HP:=Z (show DW W B8 (some mb) nms s (.returned .nilIface) w4 from .inr ⟨J1 HK.1 hh,rfl,some mb,(gF.other _ bk).trans fw,.inr ⟨_,_,_,rfl,gF.here,by simp[HK.1],λe he=>by
  simp at he;obtain he|rfl:=he
  ·exact HV.1 e (by simpa using he)
  ·exact⟨_,_,rfl⟩⟩,hP,.inl rfl⟩)
 clear hP gF fw Of ag hh;exact M13):Y:=h
theorem M69(h:Y:=by
 obtain⟨h3,e0,zh,h4⟩:=Ox HK.1 hh;obtain⟨T,x,hx⟩:=HV.1 e0 zh;rw[hh]at hl;simp only[Option.map_some,Option.getD_some,h4,hx]at hl;have HP:=Z (show DW W B8 (some mb) nms s (.returned (.iface T x)) W2 from .inl ⟨h3,⟨T,x,rfl⟩,jw⟩);clear fw Of jw hh h3 zh h4 hx ag;exact M13):Y:=h
theorem M7(h:Y:=by
 go_enter func33,ntmps33;go_wp2_with (go_at_call 86;refine(aQ _ _ _).mono ?_;rintro e w1 ⟨rfl,rfl⟩);go_ret;exact⟨by first|(simp[*];done)|(simp[*];intros;omega),HA.1⟩):Y:=h
theorem M70(h:Y:=by
 clear hc h h2 g2;go_enter func33,ntmps33;go_wp2_with (go_at_call 86;refine(aQ _ _ _).mono ?_;rintro e w1 ⟨rfl,rfl⟩);refine ag.mono ?_;rintro e w1 ⟨rfl,ar⟩;have HB:=Z (HC.out.trans (ar.mono HC.out.size));clear ar ag;exact M84):Y:=h
theorem M95(h:Y:=by
 go_wp2_with fail;refine rv ag ?_;exact M9):Y:=h
theorem M98(h:Y:=by
 by_cases g2:t.kind=2
 ·have k2:(t.kind==2)=true:=by simp[g2]
  clear hc h2 g2;exact M7
 ·have k2:(t.kind==2)=false:=by simp[g2]
  have k3:(t.kind==3)=true:=by simp;omega
  clear hc h2 g2;exact M7):Y:=h
theorem M99(h:Y:=by
 rcases de t.kind with g|g|g|g|g|g|g|g|g|g|g|g<;>first|omega|(rw[g.2]at e;exact absurd e i5)):Y:=h
section
variable{S:Sg}{es:Array MapEntry}
theorem jV(u:Nat):Instr.sameBits 10000 (ptr u) (ptr u)=true:=by
 have h:∀n,Instr.sameBits (n+1) (ptr u) (ptr u)=true:=λn=>by simp[Instr.sameBits]
 exact h 9999
theorem abf{w:World}(h:w.heap[B]?=some (.cells #[v0,v1] t f)):
 w.cell? ⟨B,0,none⟩=some v0/\w.cell? ⟨B,1,none⟩=some v1:=by
 simp[World.cell?,h]
theorem FQ{x:Option Tm}(h:TmV S W x p)(hs:S W.heap.size=none):lS S (W.alloc (.cells #[p] 152)) [x] (.slice (some ⟨W.heap.size,0,none⟩) 1 1):=by
 refine⟨[p],.inr ⟨i6,W.heap.size,0,1,rfl,jQ0 _,i5,⟨hs,_,_,ak _ _⟩,λj u hu=>?_⟩,h.move (X:=Wc) (rs:=[]) (r:=0) (Below.fr (an W _)),trivial⟩
 match j,hu with
 |0,hu=>simp at hu;subst hu;simp
theorem kA(hg:GH w S D obj W):S W.heap.size=none:=by
 cases hs:S W.heap.size with
 |none=>rfl
 |some s=>have:=hg.lI _ s hs;omega
theorem jo{t:GT}(h:isIf t=true):tid t.kind=33:=by rcases dw h with e|e<;>rw[e]<;>rfl
theorem kO{t:GT}(h:isIf t=false)(mM:t.kind≠14):¬(tid t.kind=33):=by
 intro e;have hk:t.kind≠10/\t.kind≠17:=by constructor<;>(intro e;simp[isIf,e]at h)
 exact M99
theorem Np(hE:Env NS Q w rs cs){t:GT}(h:PT NS Q w 0 t):(az w t).kind≠14:=by
 rcases(lq hE.wk hE.qp h).1 with e|e
 ·rw[e];decide
 ·exact e.2.2.2.1
theorem yn.tl{s:TS}{b:Nat}(h:yn S D E W b s):∃ms tl,W.heap[b]?=some (.cells #[.bool false,ms,tl,.bool s.comp] 122 (0,0))/\S b=none/\lS S W s.terms tl:=by
 obtain⟨ms,tl,ps,e1,e2,e3,h1,h2,h3,h4,h5⟩:=h;exact⟨ms,tl,h1,h2,h5⟩
theorem Az(hg:GH w S D obj W)(hm:W.heap[mb]?=some (.map es ck))(hk:∀e∈es.toList,∃u s,e.key=ptr u/\S u=some s)(hu:S u=some s)(c:Bool):
 (Instr.lookup 179 (.map (some mb)) (ptr u) c).run prog W=.ok (if c then .tuple #[((hitE (Rb u) es.toList 0).map (·.2)).getD (.pointer none),.bool (hitE (Rb u) es.toList 0).isSome]else((hitE (Rb u) es.toList 0).map (·.2)).getD (.pointer none)) W:=
 IM Eh yw (Pg u) (ckU u W) (abg W) hm (eqU hg hu hk) c
theorem sO(hu:S u=some s)(h:∀e∈es.toList,∃u s,e.key=ptr u/\S u=some s)(x:Value)(n:Nat):∀e∈(es.push {key:=ptr u,val:=x,born:=n}).toList,∃u s,e.key=ptr u/\S u=some s:=by
 intro e he;simp at he;obtain he|rfl:=he
 ·exact h e (by simpa using he)
 ·exact⟨u,s,rfl,hu⟩
theorem iU(hn:hitE (Rb u) es.toList 0=none)(x:Value)(n:Nat):hitE (Rb u) (es.push {key:=ptr u,val:=x,born:=n}).toList 0=some (es.size,x):=by
 rw[Array.toList_push,Ei hn (by simp[Rb])];simp
theorem abh(hE:Env NS Q w rs cs)(hr:r<=K){x:GT}(h:PT NS Q w 1 x)(hx:TX w x)(hc:bP cs x<=50)(hJ:J rs true true x<B)(hB:2*B<=r):(oq (fs w K) w x).length<=100000000/\TL (jH NS Q w rs B) (oq (fs w K) w x):=
 ⟨Nq hc (AA hE.wk hE.qp (vh hE.wk hE.qp hE.te r K hr) h hx hJ hB).2.1,(Ah hE.wk hE.qp (eZ hE.wk hE.qp r K K hr hr).1 (eZ hE.wk hE.qp r K K hr hr).2 h hJ hB).2⟩
theorem ni{α:Type}(a:Array α)(x:α)(f:α->α):(a.push x).modify a.size f=a.push (f x):=by
 apply Array.ext
 ·simp
 ·intro i h1 h2;simp at h1 h2;simp[Array.getElem_modify,Array.getElem_push];by_cases h:a.size=i
  ·subst h;simp
  ·have:i<a.size:=m9
   simp[h,this]
theorem SC(hE:Env NS Q w rs cs)(hI:cO NS Q w S D obj rs K r)(hT:dS NS Q w S D obj rs K r)(hB:2*B<=r)(hr:r<=K)(bD:Ok w S D obj rs K E r W)(p:Int){e:GT}(hu:S u=some (aG e))(hk:e.kind=12\/e.kind=13)(hx:∀x∈Kt e,PT NS Q w 1 x/\TX w x/\bP cs x<=50/\J rs true true x<B)(hm:Dj w K S W mb):
 Calls prog 97 #[.pointer none,.map (some mb),.int .i64 p,ptr u] W (lC (λb=>b=mb) w S D obj rs K E r W λv W'=>∃tb,v=ptr tb/\FR w K S W' tb (aG e)/\Dj w K S W' mb):=by
 obtain⟨es,ck,lD,uE⟩:=hm;have vi:∀e∈es.toList,∃u s,e.key=ptr u/\S u=some s:=λe he=>by obtain⟨u,tb,s,h1,h2,_⟩:=uE e he;exact⟨u,s,h1,h2⟩
 have IN:=Az bD.gh lD vi hu true;obtain⟨-, -, -, -, -, -, -, -, -, -,n12⟩:=bD.gh.node u _ hu;have ez:(aG e).kind=e.kind:=aI m9;obtain⟨sl,ps,hb,kX,bk,uB⟩:=n12 (by rw[ez];exact hk);have uB:=Ph hk uB;obtain⟨ra,rc,rfl⟩:=kX.form;have hlen:=uB.len;cases hh:hitE (Rb u) es.toList 0 with
 |some jv=>
  obtain⟨j,vv⟩:=jv;obtain⟨k,en, -,h2,h3,rfl⟩:=oD hh;obtain⟨u',tb,s,g1,g2,g3,g4⟩:=uE en (jQ8 h2);rw[g1]at h3;have Wd:u=u':=by simpa[Rb]using h3
  subst Wd;rw[hu]at g2;cases g2;rw[hh,g3]at IN;have HP:=Z (show lC (λb=>b=mb) w S D obj rs K E r W (λv W'=>∃tb,v=ptr tb/\FR w K S W' tb (aG e)/\Dj w K S W' mb) (.returned (ptr tb)) W from⟨_,rfl,⟨tb,rfl,g4,es,ck,lD,uE⟩,bD,bZ.refl _⟩);simp only[if_true,Option.map_some,Option.getD_some,Option.isSome_some]at IN;clear hE hI hT hB hr bD hx lD uE vi ez n12 hb kX bk uB hlen hh h2 h3 g1 g3 g4 hu hk;go_enter func97,ntmps97;exact M13
 |none=>
  rw[hh]at IN;simp only[if_true,Option.map_none,Option.getD_none,Option.isSome_none]at IN;have vj:GH w S D obj (W.alloc (.cells #[.bool false,.slice none 0 0,.slice none 0 0,.bool false] 122)):=bD.gh.below hE.hs (an W _);have pB:=aj (an W (.cells #[.bool false,.slice none 0 0,.slice none 0 0,.bool false] 122)) lD (jQ2 lD);have ql:=kP (v:=ptr W.heap.size) Eh yw (Pg u) (ckU u _) pB (eqU vj hu vi) hh;obtain⟨gJ,HI,HT,HO,HU,HX0,HK,tj⟩:=Z8 hE hI hT bD hu hx vi hh;obtain⟨Ej,Ls,HB,HUS,HMP,xy,HHK⟩:=Z7 uB kX hb uE lD pB hk;clear hE hI hT bD hu hx vi hh uB kX hb uE lD vj pB n12 ez bk hk;obtain⟨w2,IP,fJ⟩:=ql;have hN2:Lt w S D obj rs K E r W w2 mb W.heap.size u es ck [] (.slice none 0 0):=by
   have hf:=fJ.fr (X:=λb=>b=mb) (S:=S) (rs:=rs) (rr:=0) xy.1 rfl;refine⟨((HO.1.new gJ.1.hs (an W _) (E':=λb=>EO E (.slice none 0 0) b\/b=W.heap.size) λb hb=>?_).frx gJ.1.hs hf),(bZ.trans (Below.fr (an W _)) (hf.mono (jQc _))),⟨[],jR9 _ _ _ _,trivial⟩,?_,jQ0 _,fJ.here⟩
   ·rcases hb with(hb|hb)|rfl
    ·exact .inl hb
    ·simp[Value.ownBlock]at hb
    ·exact .inr ⟨jQ0 _,i6⟩
   ·exact(fJ.other _ (by have:=jQ2 HMP.1;omega)).trans (ak W _)
  have N0:=Z hN2;have cX:=hN2.fr.other HU.1 (by have:=aI (t:=e) (by have:=HHK.1;omega);unfold isIf;rw[this];rcases HHK.1 with h|h<;>rw[h]<;>rfl) HB.1;have c0:=jQh cX;clear hN2 fJ cX;have hpz:ps.length<=9223372036854775807:=Ls.1.max;go_enter func97,ntmps97;go_wp2_with fail;clear IP IN;generalize hTB:W.heap.size=tb at N0;have HTB:=Z hTB;clear hTB;clear c0
  go_loopg [11,35] ps.length (λgg s11 s35 wr=>∃(kk:Nat) (acc:List (Option Tm)),kk<=ps.length/\ps.length - kk<=gg/\s35=.int .i64 kk/\Aside (Lt w S D obj rs K E r W wr mb tb u es ck acc s11)/\Aside (unionTerms (fs w K) w acc ((Kt e).drop kk)=unionTerms (fs w K) w [] (Kt e))/\Aside (TL (jH NS Q w rs B) acc/\acc.length<=100))
  case atStart=>exact⟨0,[],jQc _,m9,rfl,N0.1,rfl,TL.nil,i5⟩
  case round=>
   obtain⟨kk,acc,ez,hg,rfl,N,I,Rc⟩:=hrel;obtain⟨va,vc,rfl⟩:=N.out.row.form;by_cases aM:kk<ps.length
   ·have aR:(kk:Int)<(ps.length:Int):=m9
    obtain⟨x,hx⟩:∃x,(Kt e)[kk]?=some x:=⟨(Kt e)[kk]' m9,by simp[hlen,aM]⟩;obtain⟨pv,sP,ZU⟩:=Ej.1.at hx;have kB:=HO.1.gh.eu N.out.fr;obtain⟨b,o,rfl,kN,hc⟩:=(Ls.1.move kB).nth sP;obtain⟨b1,v1,rfl,VZ,ar,qy⟩:=ZU.move (λ_ _ h=>h) kB;obtain⟨dt,dF,qm,FT⟩:=HX0.1 x (jQ8 hx);have sA:=Z (abh gJ.1 hr dt dF qm FT hB);obtain⟨ke,fJ⟩:=Fu (rs:=rs) dt;have qN:=bj gJ.1.qp N.out.ok.gh qy (.inl ⟨0,ke⟩);obtain⟨c1,c2⟩:=abf ar;have agU:S b1=none:=by
     cases hs:S b1 with
     |none=>rfl
     |some s=>exact absurd VZ (N.out.ok.gh.rS b1 s hs)
    obtain⟨T,f,b2,rfl,⟨hm,pC⟩,jL⟩:=qN;obtain⟨lx,HX,Nr,bS,HP1⟩:=Z5 jL hx qy ar ke;have AB:J rs true true (ep x)<B:=m9
    have ad2:=(jh gJ.1.wk gJ.1.qp ke).1;have AD:=uP (w:=w) (fs w K) x;have IQ:=Np gJ.1 ke;clear hx sP ZU kB kN VZ ar qy dt dF qm FT ke fJ jL;go_wp2_with fail;refine lx.1.mono ?_;rintro e' w3 ⟨v3,rfl,oE,pX⟩;replace pX:=pX.symm;subst pX;cases hi:isIf (az w (ep x))with
    |true=>
     rw[hi]at AD;simp only[if_true]at AD;obtain⟨b3,rfl,eY⟩:=id oE;have fk:=gU N.out.ok.gh Nr.1;have gO:=bO wr;have ig:=HT.1 _ wr b3 (az w (ep x)) p N.out.ok eY (jO gJ.1.wk gJ.1.qp HP1.1 hi) m9;have ht3:=jo hi;have Db:=Z AD;rw[AD]at sA;clear AD IQ ad2 AB eY oE hi;rw[ht3];go_wp2_with fail;refine rv fk ?_;go_wp2_with fail;refine rv gO ?_;go_wp2_with fail;refine ig.mono ?_;rintro e' w4 ⟨v4,rfl,⟨sb,rfl,fi⟩,g1,g2⟩;obtain⟨ms,tl,k1,k2,k3⟩:=fi.tl;obtain⟨ta,tc,rfl⟩:=k3.form;have xA:=Z k3;have N8:=Z (N.out.go g1 g2);obtain⟨q0,q1,q2,q3⟩:=dx k1;clear fi g1 g2 k1 k2 k3 fk gO ig;have ag:=kQ gJ.1 HI.1 hB N8.1.ok N8.1.row N8.1.fr.size (λb hb=>.inl (.inr hb)) xA.1 Rc.out.1 sA.1.2 (by have:=Rc.out.2;have:=sA.1.1;omega);have SE:=Z I.out;clear I;go_wp2_with fail;refine ag.mono ?_;intro e9 w9 CP;obtain⟨v9,rfl,Hs⟩:=N8.1.un CP;obtain⟨a9,c9,rfl⟩:=Hs.row.form;have qO:=SE.1;rw[cZ HX.1,unionTerms]at qO;simp only[Db.1]at qO;have HUL:=Z (ot (id:=FF w K) (w:=w) Rc.out.1 sA.1.2);have N9:=Z Hs;clear ag CP Hs SE;generalize kv (FF w K) w acc ((fs w K).ts (az w (ep x))).terms=ul at*;exact M2
    |false=>
     obtain⟨b3,rfl,eY⟩:=id oE;have fp:=aP (tid (az w (ep x)).kind) (ptr b3) 37 wr (kO hi IQ);have Pj:=fE gJ.1.wk gJ.1.qp HP1.1 hi;have tM:=dy N.out.ok.gh oE (AE gJ.1.qp Pj);have AF:=HI.1 _ wr _ _ (ep x) (az w (ep x)) N.out.ok Nr.1 oE HP1.1 Pj (by have:=dM (rs:=rs) (v:=true) (f:=true) (v':=false) (f':=false) i6 i6 (ep x);omega) m9;have Ku:=Z (show TmV S wr (some ⟨x.kind==13,some (ep x)⟩) (ptr b1)from⟨b1,_,_,rfl,agU,bS.1,.inr rfl,Nr.1⟩);rw[hi]at AD;simp only[jQk,jR1]at AD;generalize tid (az w (ep x)).kind=T3 at*;clear IQ ad2 AB eY oE hi Pj;cases cg:(x.kind==13)with
     |false=>
      rw[cg]at c1 AD Ku;simp only[Bool.false_and,jQk,jR1]at AD;have Db:=Z AD;rw[AD]at sA;have xA:=Z (FQ Ku.1 (kA N.out.ok.gh));have N8:=Z (N.out.below gJ.1 (an wr (.cells #[ptr b1] 152)));clear AD AF cg;go_wp2_with fail;refine rv tM ?_;clear tM;have ag:=kQ gJ.1 HI.1 hB N8.1.ok N8.1.row N8.1.fr.size (λb hb=>.inl (.inr hb)) xA.1 Rc.out.1 sA.1.2 (by have:=Rc.out.2;have:=sA.1.1;omega);have SE:=Z I.out;clear I;go_wp2_with fail;refine ag.mono ?_;intro e9 w9 CP;obtain⟨v9,rfl,Hs⟩:=N8.1.un CP;obtain⟨a9,c9,rfl⟩:=Hs.row.form;have qO:=SE.1;rw[cZ HX.1,unionTerms]at qO;simp only[Db.1]at qO;have HUL:=Z (ot (id:=FF w K) (w:=w) Rc.out.1 sA.1.2);have N9:=Z Hs;clear ag CP Hs SE;generalize kv (FF w K) w acc [some ⟨false,some (ep x)⟩]=ul at*;exact M2
     |true=>
      rw[cg]at c1 AD Ku;simp only[jRn]at AD;generalize bo:(fs w K).id (ep x) (az w (ep x))=res at AF AD;clear cg bo;go_wp2_with fail;refine rv tM ?_;clear tM;go_wp2_with fail;refine AF.mono ?_;rintro e' w5 ⟨v5,rfl,rfl,g1,g2⟩;have Re:=N.out.go g1 g2;have abi:=Ku.1.move g2;cases res with
      |false=>
       simp only[Bool.not_false,if_true]at AD;have Db:=Z AD;rw[AD]at sA;have xA:=Z (FQ (S:=S) (W:=w5) (x:=none) (p:=.pointer none) rfl (kA Re.ok.gh));have N8:=Z (Re.below gJ.1 (an w5 (.cells #[.pointer none] 152)));clear AD AF g1 g2 Re abi;have ag:=kQ gJ.1 HI.1 hB N8.1.ok N8.1.row N8.1.fr.size (λb hb=>.inl (.inr hb)) xA.1 Rc.out.1 sA.1.2 (by have:=Rc.out.2;have:=sA.1.1;omega);have SE:=Z I.out;clear I;go_wp2_with fail;refine ag.mono ?_;intro e9 w9 CP;obtain⟨v9,rfl,Hs⟩:=N8.1.un CP;obtain⟨a9,c9,rfl⟩:=Hs.row.form;have qO:=SE.1;rw[cZ HX.1,unionTerms]at qO;simp only[Db.1]at qO;have HUL:=Z (ot (id:=FF w K) (w:=w) Rc.out.1 sA.1.2);have N9:=Z Hs;clear ag CP Hs SE;generalize kv (FF w K) w acc [none]=ul at*;exact M2
      |true=>
       simp only[jRt,jQk,jR1]at AD;have Db:=Z AD;rw[AD]at sA;have xA:=Z (FQ abi (kA Re.ok.gh));have N8:=Z (Re.below gJ.1 (an w5 (.cells #[ptr b1] 152)));clear AD AF g1 g2 Re abi;have ag:=kQ gJ.1 HI.1 hB N8.1.ok N8.1.row N8.1.fr.size (λb hb=>.inl (.inr hb)) xA.1 Rc.out.1 sA.1.2 (by have:=Rc.out.2;have:=sA.1.1;omega);have SE:=Z I.out;clear I;go_wp2_with fail;refine ag.mono ?_;intro e9 w9 CP;obtain⟨v9,rfl,Hs⟩:=N8.1.un CP;obtain⟨a9,c9,rfl⟩:=Hs.row.form;have qO:=SE.1;rw[cZ HX.1,unionTerms]at qO;simp only[Db.1]at qO;have HUL:=Z (ot (id:=FF w K) (w:=w) Rc.out.1 sA.1.2);have N9:=Z Hs;clear ag CP Hs SE;generalize kv (FF w K) w acc [some ⟨true,some (ep x)⟩]=ul at*;exact M2
   ·have aR:¬(kk:Int)<(ps.length:Int):=m9
    have hI:=I.out;rw[jQf m9,unionTerms]at hI;have bM:=Z hI.symm;have hlk:=Az N.out.ok.gh N.out.map (sO HU.1 HK.1 _ _) HU.1 false;rw[iU tj.1]at hlk;simp only[jQk,jR1,Option.map_some,Option.getD_some]at hlk;have fi:=N.out.SF;clear hI;go_wp2_with (refine eT rfl 119 _ _ rfl tb 2 (.slice va acc.length vc) rfl rfl 122 _ fi g9 (by simp[Value.cells,Value.oneCell']) (by simp[Value.cells]) #[.bool false,.slice none 0 0,.slice va acc.length vc,.bool false] (by simp[Value.cells]) ?_);intro w5 kC;have oX:=iN.put kC λEk t' f hc=>by rw[fi]at hc;cases hc;decide
    have hF5:bZ (λb=>b=mb) S rs r W w5:=N.out.fr.ng oX λb hb=>by subst hb;exact N.out.tbl
    have hO5:Ok w S D obj rs K E r w5:=(N.out.ok.ng gJ.1.hs oX λb hb=>.inr hb).drop λb hb=>.inl (.inl hb);have Dk:w5.heap[mb]?=some (.map (es.push {key:=ptr u,val:=ptr tb,born:=ck}) (ck+1)):=(kC.other mb λe0=>by have:=N.out.map;rw[e0,fi]at this;cases this).trans N.out.map;have ad3:=Az hO5.gh Dk (sO HU.1 HK.1 _ _) HU.1 false;rw[iU tj.1]at ad3;simp only[jQk,jR1,Option.map_some,Option.getD_some]at ad3;have tL:FR w K S w5 tb (aG e):=by
     have hn:=(rZ (w:=w) (K:=K) HHK.1).1;refine⟨false,_,kC.here,N.out.sn.1,λh=>?_,λq hq=>⟨rfl,?_⟩⟩
     ·rw[hn,bM.1]at h;cases h
     ·rw[hn,bM.1]at hq;cases hq;exact(N.out.row.ng oX λg hg e0=>N.out.ne.1 (by rw[<-e0];exact hg)).tl N.out.sn.2
    have uE:Dj w K S w5 mb:=by
     refine⟨_,_,Dk,λen wR=>?_⟩;simp at wR;obtain wR|rfl:=wR
     ·exact(HUS.1.move hF5) en (by simpa using wR)
     ·exact⟨u,tb,aG e,rfl,HU.1,rfl,tL⟩
    have HP:=Z (show lC (λb=>b=mb) w S D obj rs K E r W (λv W'=>∃tb,v=ptr tb/\FR w K S W' tb (aG e)/\Dj w K S W' mb) (.returned (ptr tb)) w5 from⟨_,rfl,⟨tb,rfl,tL,uE⟩,hO5,hF5⟩);clear oX hF5 hO5 Dk tL uE kC hlk fi;exact M13
end
theorem Nf:∀a b:List UInt8,compareBytes a b<0↔a<b
 |[],[]=>by simp[compareBytes]
 |[],_::_=>by simp[compareBytes]
 |_::_,[]=>by simp[compareBytes]
 |a::la,b::lb=>by
  rw[compareBytes,List.cons_lt_cons_iff];by_cases h:a<b
  ·simp[h]
  ·rw[jQ4 h];by_cases h2:b<a
   ·rw[jQ7 h2];have:¬a=b:=λe=>by subst e;exact absurd h2 h
    simp[h,this]
   ·rw[jQ4 h2,Nf la lb];have:a=b:=by
     have h1:=UInt8.not_lt.1 h;have h3:=UInt8.not_lt.1 h2;exact UInt8.le_antisymm h3 h1
    simp[this]
theorem O3(a b:GT):decide (compareBytes a.name.data.toList b.name.data.toList<0)=bB a b:=by
 rw[fY]
 congr 1
 rw[jRk,jRk];exact propext (Nf _ _)
def agO(S:Sg)(D:Nat->Prop)(W:World)(x:GT×Nat):Prop:=wM x.1.name/\x.1.name.size<=9223372036854775807/\sK S D W x.1.name x.1 (ptr x.2)
theorem Aj{S:Sg}{nm:ByteArray}{t:GT}(h:sK S D W nm t (ptr b)):D b/\∃p pk v,W.heap[b]?=some (.cells #[p,pk,.string nm,v,.bool false,.bool false] 178 (0,0)):=by
 obtain⟨b',pos,pk,v,e,h1,h2,h3⟩:=h;simp at e;subst e;exact⟨h1,_,_,_,h2⟩
section
variable{S:Sg}
abbrev Iw(S:Sg)(D:Nat->Prop)(W:World):={x:GT×Nat//agO S D W x}
def cfF(x y:Iw S D W):Int:=compareBytes x.1.1.name.data.toList y.1.1.name.data.toList
def qG(x:Iw S D W):Value:=ptr x.1.2
theorem ltF(x y:Iw S D W):ltOf cfF x y=bB x.1.1 y.1.1:=O3 _ _
theorem agP:SWO (ltOf (cfF (S:=S) (D:=D) (W:=W))) where
 irrefl x:=by rw[ltF,fY];simp[List.lt_irrefl]
 trans x y z h1 h2:=by
  rw[ltF,fY]at*;simp only[decide_eq_true_eq]at*;exact List.lt_trans h1 h2
 ntrans x y z h1 h2:=by
  rw[ltF,fY]at*;simp only[decide_eq_false_iff_not,List.not_lt]at*;exact List.le_trans h2 h1
theorem Fz{α:Type}[Inhabited α]{enc:α->Value}{w:World}{cur:Array Value}{e:TypeId}(F:Array α)(hb:w.heap[g]?=some (.cells cur e (0,0))):
 (sortWorld enc w g 0 n F os).heap[g]?=some (.cells (putCells enc 0 F cur) e (0,0)):=by
 have hg:g<w.heap.size:=(Array.getElem?_eq_some_iff.1 hb).1;unfold sortWorld;exact M157
theorem nI{α:Type}[Inhabited α]{enc:α->Value}{w:World}(F:Array α)(k:Nat)(hk:k<w.heap.size)(bk:k≠g):
 (sortWorld enc w g 0 n F os).heap[k]?=w.heap[k]?:=by
 unfold sortWorld;exact M158
theorem Ak{α:Type}[Inhabited α]{enc:α->Value}(cur:Array Value)(F:Array α)(h:F.size<=cur.size):(putCells enc 0 F cur).toList.take F.size=F.toList.map enc:=M94
theorem Ix{P:GT->Value->Prop}:∀{l:List GT} {ps:List Value},All2 (λm p=>sK S D W m.name m p) l ps->(∀m∈l,wM m.name/\m.name.size<=9223372036854775807)->
 ∃d:List (Iw S D W),d.map (λx=>x.1.1)=l/\d.map qG=ps
 |[],[],_,_=>⟨[],rfl,rfl⟩
 |m::l,p::ps,h,hc=>by
  obtain⟨d,h1,h2⟩:=Ix (P:=P) h.2 λm hm=>hc m (by simp[hm]);obtain⟨b,pos,pk,v,e,h3⟩:=id h.1;subst e;exact⟨⟨(m,b),(hc m i6).1,(hc m i6).2,h.1⟩::d,by simp[h1],by simp[h2,qG]⟩
 |[],_::_,h,_=>h.elim
 |_::_,[],h,_=>h.elim
theorem Iy:∀(d:List (Iw S D W)),All2 (λm p=>sK S D W m.name m p) (d.map λx=>x.1.1) (d.map qG)
 |[]=>trivial
 |x::d=>⟨x.2.2.2,Iy d⟩
theorem yt{l:List GT}(aL:W.ownsRow base 95 1 v l.length ps)(eO:All2 (λm p=>sK S D W m.name m p) l ps)(hl:l≠[])(hn:∀m∈l,wM m.name/\m.name.size<=9223372036854775807)(uu:(l.map (·.name)).Nodup)(cF:l.length<=1099511627776)(hD:∀g,v.ownBlock=some g->¬D g)(mY:Lo D W.heap.size)(ht:jE D W):
 Calls prog 99 #[v] W λe W'=>e=.returned (.tuple #[])/\(∃wO,W'.ownsRow base 95 1 v (ib l).length wO/\All2 (λm p=>sK S D W' m.name m p) (ib l) wO)/\iN (λb=>v.ownBlock=some b) W W':=by
 have adN:=aL;rcases aL.2 with⟨_,h0⟩|⟨g,cap,cur,rfl,hg,Sd,KX,hm,hs,tB⟩
 ·exact absurd (jQe h0) hl
 have hDg:=hD g rfl;obtain⟨d,hd1,O4⟩:=Ix (P:=λ_ _=>True) eO hn;have Se:d.length=l.length:=by rw[<-hd1];simp
 have:Inhabited (Iw S D W):=by
  cases d with
  |nil=>simp at Se;exact absurd (jQe Se.symm) hl
  |cons x _=>exact⟨x⟩
 have aM:=jQ2 Sd;rw[Nat.mul_one]at hs tB;have hH:Holds qG W g 0 d.toArray:=by
  intro j hj;have Sf:j<d.length:=by simpa using hj
  refine⟨?_,by simp[World.frozen?,Sd]⟩;have h1:(cur.toList.take l.length)[j]?=(d.map qG)[j]?:=by rw[tB,O4]
  rw[List.getElem?_take_of_lt m9]at h1;simp only[World.cell?,Sd,jRd];simp only[Option.isSome_none,jQk,jR1];rw[<-jRr,h1];simp[Sf]
 have Sh:CmpReads prog 136 #[] (qG (S:=S) (D:=D) (W:=W)) cfF g 0 d.toArray.size W:=by
  intro m os dk Xr x y;have hb:∀z:Iw S D W,∃p pk v,(sortWorld qG W g 0 m dk os).heap[z.1.2]?=some (.cells #[p,pk,.string z.1.1.name,v,.bool false,.bool false] 178 (0,0)):=λz=>by
   obtain⟨h1,p,pk,v,h2⟩:=Aj z.2.2.2;refine⟨p,pk,v,(nI dk z.1.2 (jQ2 h2) ?_).trans h2⟩;intro e;rw[e]at h1;exact hDg h1
  obtain⟨p1,k1,v1,b1⟩:=hb x;obtain⟨p2,k2,v2,b2⟩:=hb y;have Ng:jE D (sortWorld qG W g 0 m dk os):=⟨ht.1,λc c1 c2=>(jQi (w:=W) (nI dk _ (jQs (ht.2 c c1 c2)) (λe=>hDg (by rw[<-e];exact ht.1)))).trans (ht.2 c c1 c2)⟩;exact uX b1 b2 x.2.1 x.2.2.1 y.2.1 y.2.2.1 Ng
 have Iz:=Go.Proofs.Any.slices_SortFunc sortF qG (λ_=>rfl) cfF agP 136 #[] g 0 cap d.toArray W Tryz.call136 Sh.lays hH aM (by simp;omega)
 change Calls prog 135 _ _ _ at Iz
 have j8:d.toArray.size=l.length:=by simpa using Se
 rw[j8]at Iz;have hpost:∀(d':Array (Iw S D W)) (n:Nat) (os:Array Obj),PermIn 0 l.length d.toArray d'->SortedIn (ltOf cfF) 0 l.length d'->
  (∃wO,(sortWorld qG W g 0 n d' os).ownsRow base 95 1 (.slice (some ⟨g,0,none⟩) l.length cap) (ib l).length wO/\All2 (λm p=>sK S D (sortWorld qG W g 0 n d' os) m.name m p) (ib l) wO)/\iN (λb=>Value.ownBlock (.slice (some ⟨g,0,none⟩) l.length cap)=some b) W (sortWorld qG W g 0 n d' os):=by
  rintro d' n os ⟨Xs,_,hp⟩ Nh;have Al:d'.size=l.length:=by simpa using Xs.trans j8
  have K6:d'.toList.Perm d:=M122
  have bo:d'.toList.map (λx=>x.1.1)=ib l:=by
   refine D9 (hd1▸K6.map _) uu ?_;rw[List.pairwise_map,List.pairwise_iff_getElem];intro i j hi hj hij;have:=Nh i j (jQc _) hij (by simpa[Al]using hj);rw[ltF,getElem!_pos _ j (by simpa using hj),getElem!_pos _ i (by simpa using hi)]at this;exact M150
  have gP:(ib l).length=l.length:=by rw[<-bo];simp[Al]
  have j6:∀b,b<W.heap.size->b≠g->(sortWorld qG W g 0 n d' os).heap[b]?=W.heap[b]?:=λb hb bk=>nI d' b hb bk;have hwz:W.heap.size<=(sortWorld qG W g 0 n d' os).heap.size:=by
   unfold sortWorld grow putRow mapBlock;simp[Sort.ahead]
  refine⟨⟨d'.toList.map qG,⟨by rw[gP];simp[Al],.inr ⟨g,cap,putCells qG 0 d' cur,by rw[gP],hg,Fz _ Sd,by rw[gP];exact KX,hm,by simp[putCells,hs],?_⟩⟩,?_⟩,?_⟩
  ·rw[Nat.mul_one,gP,<-Al,Ak _ _ (by rw[Al,hs];exact KX)]
  ·rw[<-bo];have eR:au D D W (sortWorld qG W g 0 n d' os):=λb hb=>⟨hb,j6 b (mY b hb) (λe=>hDg (e▸hb))⟩;exact(Iy d'.toList).imp λm p hp=>hp.move (λ_ _ h=>h) eR
  ·refine⟨rfl,rfl,rfl,hwz,λb hb bk=>j6 b hb λe=>bk (by rw[e];rfl),λb hb cs t f hc=>?_⟩;simp[Value.ownBlock]at hb;subst hb;rw[Sd]at hc;cases hc;decide
 clear aL adN eO hn uu Sh hH hd1 O4 ht hs tB Sd;go_enter func99,ntmps99;go_wp2_with fail;refine Iz.mono ?_;rintro e w' ⟨rfl,d',n,os,hp,Nh,rfl⟩;have HP:=Z (hpost d' n os hp Nh);clear hpost Iz hp Nh;go_wp2_with fail;refine jRq (v:=.tuple #[]) (by simp[results,Tryz.results99,go_sem]) rfl ?_;exact⟨rfl,HP.1⟩
end
theorem afH(a b:ByteArray):(a==b)=decide (a=b):=by
 obtain⟨a⟩:=a;obtain⟨b⟩:=b;show(a==b)=_;by_cases h:a=b
 ·subst h;simp
 ·simp[h]
abbrev isStr(s:ByteArray)(k:Value):Bool:=match k with|.string a=>s==a|_=>false
theorem rL(s:ByteArray):∀{es:List MapEntry} {i:Nat},(∀e∈es,∃a,e.key=.string a)->Instr.findNow .string (.string s) es i=some (hitE (isStr s) es i)
 |[],_,_=>rfl
 |e::es,i,h=>by
  obtain⟨a,ha⟩:=h e i6;have ih:=rL s (es:=es) (i:=i+1) λe he=>h e (by simp[he]);unfold Instr.findNow;rw[hitE,ha];cases hq:(s==a)with
  |true=>simp[Instr.sameNow,hq]
  |false=>simp[Instr.sameNow,hq,ih]
def J0(W:World)(so:Option Nat)(nms:List ByteArray):Prop:=
 (so=none/\nms=[])\/∃mb es ck,so=some mb/\W.heap[mb]?=some (.map es ck)/\es.toList.map (·.key)=nms.map Value.string/\∀e∈es.toList,∃T x,e.val=.iface T x
theorem J0.block(h:J0 W so nms)(hb:∀mb,so=some mb->W'.heap[mb]?=W.heap[mb]?):J0 W' so nms:=by
 obtain h|⟨mb,es,ck,h1,h2,h3⟩:=h
 ·exact .inl h
 ·exact .inr ⟨mb,es,ck,h1,(hb mb h1).trans h2,h3⟩
theorem Ct{es:List MapEntry}(h:es.map (·.key)=nms.map Value.string):∀e∈es,∃a,a∈nms/\e.key=.string a:=by
 intro e he;have:e.key∈es.map (·.key):=jQu.2 ⟨e,he,rfl⟩;rw[h]at this;obtain⟨a,h1,h2⟩:=jQu.1 this;exact⟨a,h1,h2.symm⟩
theorem Va:Tryz.prog.underlying 181=some (.map 9 184):=g9
theorem GP:Tryz.prog.underlying 9=some .string:=g9
theorem Vb(W:World):(zeroValue 184).run prog W=.ok .nilIface W:=g9
theorem ckS(s:ByteArray)(W:World)(e:Bool):(Instr.checkKey e 10000 9 (.string s)).run prog W=.ok () W:=by
 have h:∀n,(Instr.checkKey e (n+1) 9 (.string s)).run prog W=.ok () W:=λn=>by
  unfold Instr.checkKey;simp[jQj GP,Result.andThen]
 exact h 9999
section
variable{es:Array MapEntry}
theorem aaP(s:ByteArray)(hb:W.heap[mb]?=some (.map es ck))(hk:es.toList.map (·.key)=nms.map Value.string):
 (Instr.lookup 181 (.map (some mb)) (.string s) false).run prog W=.ok (((hitE (isStr s) es.toList 0).map (·.2)).getD .nilIface) W:=by
 have hf:=MapKept.run_findKey (P:=prog) (w:=W) GP (rL s (es:=es.toList) (i:=0) λe he=>by obtain⟨a, -,h⟩:=Ct hk e he;exact⟨a,h⟩);unfold Instr.lookup;simp only[jRp,jQj Va,jR8,MapKept.run_getObj_map hb,Sem.run_pure,ckS,hf];cases hh:hitE (isStr s) es.toList 0 with
 |none=>simp[Vb,Result.andThen]
 |some jv=>simp[Result.andThen]
theorem EZ(s:ByteArray):(Instr.lookup 181 (.map none) (.string s) false).run prog W=.ok .nilIface W:=by
 unfold Instr.lookup;simp[jRp,jQj Va,jR8,ckS,Instr.findKey,jQj GP,Instr.findNow,Vb,Result.andThen]
theorem GQ(s:ByteArray)(v:Value)(hb:W.heap[mb]?=some (.map es ck))(hk:es.toList.map (·.key)=nms.map Value.string)(fp:hitE (isStr s) es.toList 0=none):
 ∃w2,(Instr.mapUpdate 181 (.map (some mb)) (.string s) v).run prog W=.ok () w2/\DD mb (es.push {key:=.string s,val:=v,born:=ck}) (ck+1) W w2:=by
 have hf:=MapKept.run_findKey (P:=prog) (w:=W) GP (rL s (es:=es.toList) (i:=0) λe he=>by obtain⟨a, -,h⟩:=Ct hk e he;exact⟨a,h⟩);refine⟨_,?_,Cq hb⟩;unfold Instr.mapUpdate;simp[jRp,jQj Va,jR8,MapKept.run_getObj_map hb,ckS,hf,fp,MapKept.run_setObj_map _ hb,Result.andThen]
theorem mkMap(t:TypeId)(w:World):(Instr.makeMap t none).run prog w=.ok (.map (some w.heap.size)) (w.alloc (.map #[] 0)):=rfl
theorem E4(mb:Nat)(w:World):(binOp .eql 181 (.map (some mb)) (.map none)).run prog w=.ok (.bool false) w:=g9
theorem E5(w:World):(binOp .eql 181 (.map none) (.map none)).run prog w=.ok (.bool true) w:=g9
@[go_sem ↓] theorem afI(b:Nat)(w:World):(callMethod (.iface 95 (ptr b)) "Id" #[]).run prog w=.ok (.enter 164 #[ptr b]) w:=g9
end
def DW(W:World)(B8:Nat)(so:Option Nat)(nms:List ByteArray)(s:ByteArray)(e:Ending)(W':World):Prop:=
 (s∈nms/\(∃T x,e=.returned (.iface T x))/\Below W.heap.size W W')\/
 (¬s∈nms/\e=.returned .nilIface/\∃ER,W'.heap[B8]?=some (.cells #[.map ER] 181 (0,0))/\J0 W' ER (nms++[s])/\iN (λx=>x=B8\/so=some x) W W'/\(ER=so\/∃Uv,ER=some Uv/\W.heap.size<=Uv))
theorem iN.Uw(h:Below W.heap.size W W')(hn:∀b,E1 b->∀cs t f,W.heap[b]?=some (.cells cs t f)->t≠154/\t≠234):iN E1 W W':=
 ⟨h.os,h.tape,h.output,h.size,λb hb _=>h.block b hb,hn⟩
theorem iN.then(h:iN E1 W W')(Ao:W2.os=W'.os)(BH:W2.tape=W'.tape)(DC:W2.output=W'.output)(hz:W'.heap.size<=W2.heap.size)(hb:∀b,b<W'.heap.size->¬E1 b->b<W.heap.size->W2.heap[b]?=W'.heap[b]?):iN E1 W W2:=
 ⟨Ao.trans h.os,BH.trans h.tape,DC.trans h.output,jQd h.size hz,λb dD hn=>(hb b (jQb dD h.size) hn dD).trans (h.block b dD hn),h.nt⟩
theorem Ox{s:ByteArray}{es:List MapEntry}(h:es.map (·.key)=nms.map Value.string){jv:Nat×Value}(hh:hitE (isStr s) es 0=some jv):s∈nms/\∃e∈es,jv.2=e.val:=by
 obtain⟨j,v⟩:=jv;obtain⟨k,e, -,h2,h3,h4⟩:=oD hh;have he:=jQ8 h2;obtain⟨a,ha,hk⟩:=Ct h e he;rw[hk]at h3;have:s=a:=by simpa[isStr,afH]using h3
 exact⟨this▸ha,e,he,h4⟩
theorem J1{s:ByteArray}{es:List MapEntry}(h:es.map (·.key)=nms.map Value.string)(hh:hitE (isStr s) es 0=none):¬s∈nms:=by
 intro hs;have:Value.string s∈es.map (·.key):=by rw[h];exact jQu.2 ⟨s,hs,rfl⟩
 obtain⟨e,he,hk⟩:=jQu.1 this;have:=sR hh e he;rw[hk]at this;simp[isStr,afH]at this
theorem GB{s:ByteArray}(hB:W.heap[B8]?=some (.cells #[.map so] 181 (0,0)))(sG:J0 W so nms)(h1:W.cell? ⟨b,1,none⟩=some (.pointer pk))(h2:W.cell? ⟨b,2,none⟩=some (.string s))(hs:wM s)(hz:s.size<=9223372036854775807)(ht:jE D W):
 Calls prog 95 #[ptr B8,.iface 95 (ptr b)] W (DW W B8 so nms s):=by
 have ag:=nx b s pk h1 h2 hs hz ht;have Qo:∀x,(x=B8\/so=some x)->∀cs t f,W.heap[x]?=some (.cells cs t f)->t≠154/\t≠234:=M104
 rcases sG with⟨rfl,rfl⟩|⟨mb,es,ck,rfl,hm,hk,hv⟩
 ·have HB:=Z hB;have HNT:=Z Qo;clear hB Qo h1 h2 hs ht;go_enter func95,ntmps95;go_wp2_with fail;refine ag.mono ?_;rintro e w' ⟨rfl,m,rfl⟩;have fw:(W.drewN m).heap[B8]?=some (.cells #[.map none] 181 (0,0)):=HB.1;have jw:Below W.heap.size W (W.drewN m):=jRb (jQ5 _ _) m;generalize W.drewN m=W2 at*;have hl:=EZ (W:=W2) s;have heq:=E5 W2;have kh:=mkMap 180 W2;have c0:=jQh fw;have Z7:=aj (an W2 (.map #[] 0)) fw (jQ2 fw);have ee:=jQ2 fw;go_wp2_with (refine eT rfl 181 _ _ rfl B8 0 (.map (some W2.heap.size)) rfl rfl 181 _ Z7 g9 (by simp[Value.cells,Value.oneCell']) (by simp[Value.cells]) #[.map (some W2.heap.size)] (by simp[Value.cells]) ?_);intro w3 fm;have sC:w3.heap[W2.heap.size]?=some (.map #[] 0):=(fm.other _ m9).trans (ak W2 _);obtain⟨w4,Oj,gF⟩:=GQ (nms:=[]) s (.iface 95 (ptr b)) sC rfl rfl;exact M31
 ·have HB:=Z hB;have HNT:=Z Qo;have HM:=Z hm;have HK:=Z hk;have HV:=Z hv;clear hB Qo h1 h2 hs ht hm hk hv;go_enter func95,ntmps95;go_wp2_with fail;refine ag.mono ?_;rintro e w' ⟨rfl,m,rfl⟩;have fw:(W.drewN m).heap[B8]?=some (.cells #[.map (some mb)] 181 (0,0)):=HB.1;have Of:(W.drewN m).heap[mb]?=some (.map es ck):=HM.1;have jw:Below W.heap.size W (W.drewN m):=jRb (jQ5 _ _) m;have yW:mb<W.heap.size:=jQ2 HM.1;generalize W.drewN m=W2 at*;have hl:=aaP s Of HK.1;have heq:=E4 mb W2;have c0:=jQh fw;cases hh:hitE (isStr s) es.toList 0 with
  |some jv=>
   exact M69
  |none=>
   rw[hh]at hl;simp only[Option.map_none,Option.getD_none]at hl;obtain⟨w4,Oj,gF⟩:=GQ s (.iface 95 (ptr b)) Of HK.1 hh;exact M32
@[go_sem ↓] theorem agD(b:Nat)(w:World):(callMethod (.iface 84 (ptr b)) "Id" #[]).run prog w=.ok (.enter 164 #[ptr b]) w:=g9
theorem DU{s:ByteArray}(hB:W.heap[B8]?=some (.cells #[.map so] 181 (0,0)))(sG:J0 W so nms)(h1:W.cell? ⟨b,1,none⟩=some (.pointer pk))(h2:W.cell? ⟨b,2,none⟩=some (.string s))(hs:wM s)(hz:s.size<=9223372036854775807)(ht:jE D W):
 Calls prog 95 #[ptr B8,.iface 84 (ptr b)] W (DW W B8 so nms s):=by
 have ag:=nx b s pk h1 h2 hs hz ht;have Qo:∀x,(x=B8\/so=some x)->∀cs t f,W.heap[x]?=some (.cells cs t f)->t≠154/\t≠234:=M104
 rcases sG with⟨rfl,rfl⟩|⟨mb,es,ck,rfl,hm,hk,hv⟩
 ·have HB:=Z hB;have HNT:=Z Qo;clear hB Qo h1 h2 hs ht;go_enter func95,ntmps95;go_wp2_with fail;refine ag.mono ?_;rintro e w' ⟨rfl,m,rfl⟩;have fw:(W.drewN m).heap[B8]?=some (.cells #[.map none] 181 (0,0)):=HB.1;have jw:Below W.heap.size W (W.drewN m):=jRb (jQ5 _ _) m;generalize W.drewN m=W2 at*;have hl:=EZ (W:=W2) s;have heq:=E5 W2;have kh:=mkMap 180 W2;have c0:=jQh fw;have Z7:=aj (an W2 (.map #[] 0)) fw (jQ2 fw);have ee:=jQ2 fw;go_wp2_with (refine eT rfl 181 _ _ rfl B8 0 (.map (some W2.heap.size)) rfl rfl 181 _ Z7 g9 (by simp[Value.cells,Value.oneCell']) (by simp[Value.cells]) #[.map (some W2.heap.size)] (by simp[Value.cells]) ?_);intro w3 fm;have sC:w3.heap[W2.heap.size]?=some (.map #[] 0):=(fm.other _ m9).trans (ak W2 _);obtain⟨w4,Oj,gF⟩:=GQ (nms:=[]) s (.iface 84 (ptr b)) sC rfl rfl;exact M31
 ·have HB:=Z hB;have HNT:=Z Qo;have HM:=Z hm;have HK:=Z hk;have HV:=Z hv;clear hB Qo h1 h2 hs ht hm hk hv;go_enter func95,ntmps95;go_wp2_with fail;refine ag.mono ?_;rintro e w' ⟨rfl,m,rfl⟩;have fw:(W.drewN m).heap[B8]?=some (.cells #[.map (some mb)] 181 (0,0)):=HB.1;have Of:(W.drewN m).heap[mb]?=some (.map es ck):=HM.1;have jw:Below W.heap.size W (W.drewN m):=jRb (jQ5 _ _) m;have yW:mb<W.heap.size:=jQ2 HM.1;generalize W.drewN m=W2 at*;have hl:=aaP s Of HK.1;have heq:=E4 mb W2;have c0:=jQh fw;cases hh:hitE (isStr s) es.toList 0 with
  |some jv=>
   exact M69
  |none=>
   rw[hh]at hl;simp only[Option.map_none,Option.getD_none]at hl;obtain⟨w4,Oj,gF⟩:=GQ s (.iface 84 (ptr b)) Of HK.1 hh;exact M32
def aeP(W:World)(nm:ByteArray)(p:Value):Prop:=∃b pk,p=ptr b/\W.cell? ⟨b,1,none⟩=some (.pointer pk)/\W.cell? ⟨b,2,none⟩=some (.string nm)/\b<W.heap.size
def acx(W:World)(ps:List Value)(sl tg:Value)(e:Ending)(W':World):Prop:=
 ∃b fs,e=.returned (ptr b)/\W.heap.size<=b/\Below W.heap.size W W'/\W'.heap[b]?=some (.cells #[fs,tg] 165 (0,0))/\(fs=sl\/(ps=[]/\∃a,fs=.slice (some a) 0 0))
theorem acy{s:ByteArray}(h:wM s):(s.toList==[95])=false:=by
 obtain⟨h0,h1,h2⟩:=h;cases hl:(s.toList==[95])with
 |false=>rfl
 |true=>
  have e:s.toList=[95]:=by simpa using hl
  rw[jRk]at e;have:s.data.toList[0]?=some 95:=by rw[e];rfl
  have h3:s[0]'h0=95:=by
   have h4:s.data.toList[0]?=some (s[0]'h0):=by
    rw[jRr,Array.getElem?_eq_getElem h0];rfl
   rw[this]at h4;exact(jQw h4).symm
  rw[h3]at h2;exact absurd h2 i5
@[go_sem ↓] theorem adq(w:World):(binOp .eql 162 (.slice none 0 0) (.slice none 0 0)).run prog w=.ok (.bool true) w:=g9
@[go_sem ↓] theorem acz(a:Addr)(n c:Nat)(w:World):(binOp .eql 162 (.slice (some a) n c) (.slice none 0 0)).run prog w=.ok (.bool false) w:=g9
theorem Mu(b:Nat)(a:Addr)(n c:Nat)(tg:Value)(W:World)(h:W.heap[b]?=some (.cells #[.slice (some a) n c,tg] 165 (0,0))):
 Calls prog 146 #[ptr b] W (dL W (.tuple #[])):=by
 have c0:W.cell? ⟨b,0,none⟩=some (.slice (some a) n c):=by simp[World.cell?,h]
 clear h;go_enter func146,ntmps146;go_wp2_with fail;refine jRq (v:=.tuple #[]) (by simp[results,Tryz.results146,go_sem]) rfl ?_;exact⟨rfl,rfl⟩
theorem acA:(Tryz.prog.info? 84).map (λi=>(i.zero,i.size,i.bytes))=some (some (.pointer none),1,8):=g9
theorem ah8(w:World):(Instr.makeSlice 162 (.int .i64 0) (.int .i64 0)).run prog w=.ok (.slice (some ⟨w.heap.size,0,none⟩) 0 0) (w.alloc (.cells #[] 84)):=by
 obtain⟨i0,pn,lA,gj,j7⟩:=info_parts acA;have h:=run_make (P:=prog) w 162 84 i0 (.pointer none) underlying162 pn lA .i64 .i64 0 0 m9 (Int.le_refl _) (by rw[j7];omega) m9;rw[gj]at h;have e:madeCells (Value.pointer none).cells (Int.toNat 0*1)=#[]:=by simp[madeCells]
 rw[e]at h;exact h
theorem Mw(b:Nat)(tg:Value)(W:World)(h:W.heap[b]?=some (.cells #[.slice none 0 0,tg] 165 (0,0))):
 Calls prog 146 #[ptr b] W λe W'=>e=.returned (.tuple #[])/\∃a W1,W1=W.alloc (.cells #[] 84)/\kT b #[.slice (some a) 0 0,tg] 165 W1 W':=by
 have c0:W.cell? ⟨b,0,none⟩=some (.slice none 0 0):=by simp[World.cell?,h]
 have uD:=ah8 W;have ar:=aj (an W (.cells #[] 84)) h (jQ2 h);have c1:(W.alloc (.cells #[] 84)).cell? ⟨b,0,none⟩=some (.slice none 0 0):=by simp[World.cell?,ar]
 have fz:=cd ar 0;go_enter func146,ntmps146;go_wp2_with fail;refine jRq (v:=.tuple #[]) (by simp[results,Tryz.results146,go_sem]) rfl ?_;exact⟨rfl,_,_,rfl,aw ar 0 _⟩
@[go_sem ↓] theorem ah9(w:World):(binOp .neq 184 .nilIface .nilIface).run prog w=.ok (.bool false) w:=g9
structure StL(W wr:World)(b5:Nat)(nms:List ByteArray):Prop where
 jJ:Below W.heap.size W wr
 bz:b5=W.heap.size
 set:∃so,wr.heap[b5]?=some (.cells #[.map so] 181 (0,0))/\J0 wr so nms/\∀mb,so=some mb->W.heap.size<=mb
theorem StL.ins{s:ByteArray}{e:Ending}(h:StL W wr b5 nms)(h1:wr.heap[b5]?=some (.cells #[.map so] 181 (0,0)))(hm:∀mb,so=some mb->W.heap.size<=mb)(hn:¬s∈nms)(hr:DW wr b5 so nms s e w'):
 e=.returned .nilIface/\StL W w' b5 (nms++[s]):=by
 rcases hr with⟨hs,_⟩|⟨_,rfl,ER,g1,g2,g3,g4⟩
 ·exact absurd hs hn
 ·refine⟨rfl,⟨h.jJ.trans ⟨g3.os,g3.tape,g3.output,?_,λb hb=>?_⟩,h.bz,ER,g1,g2,?_⟩⟩
  ·have:=g3.size;omega
  ·have hz:=h.jJ.size;refine g3.block b m9 ?_;rintro(rfl|e)
   ·have:=h.bz;omega
   ·have:=hm b e;omega
  ·intro mb he;obtain g4|⟨Uv,g4,g5⟩:=g4
   ·exact hm mb (g4▸he)
   ·rw[g4]at he;cases he;have:=h.jJ.size;omega
theorem zn{a:Option Addr}(hr:eE D W ps (.slice a ps.length c))(Xf:a=none->c=0)(Se:∀b,D b->b<W.heap.size)(hf:All2 (aeP W) nms ps)(uu:nms.Nodup)(uZ:∀s∈nms,wM s/\s.size<=9223372036854775807)(h2:n2<=ps.length)(ht:jE D W):
 Calls prog 107 #[.slice a ps.length c,.slice a2 n2 c2] W (acx W ps (.slice a ps.length c) (.slice a2 n2 c2)):=by
 have hlen:=hf.len;have rO:=hr.max;have HR:=Z hr;have HF:=Z hf;have Xd:=Z uu;have aia:=Z uZ;have HT:=Z ht;have HDL:=Z Se;clear hr hf uu uZ ht Se;go_enter func107,ntmps107;go_wp2_with fail
 go_loopg [11] ps.length (λgg s11 wr=>∃kk:Nat,kk<=ps.length/\ps.length - kk<=gg/\s11=.int .i64 kk/\StL W wr W.heap.size (nms.take kk))
 case atStart=>exact⟨0,jQc _,m9,rfl,⟨an W _,rfl,none,ak W _,.inl ⟨rfl,i6⟩,λmb h=>by cases h⟩⟩
 case round=>
  obtain⟨kk,ez,hg,rfl,cH⟩:=hrel;have eF:=Z cH;have eR:au D D W wr:=λb hb=>⟨hb,cH.jJ.block b (HDL.1 b hb)⟩;have Oa:=Z eR;obtain⟨-, -,so,hB,sG,Nh⟩:=id cH;by_cases aM:kk<ps.length
  ·have aR:(kk:Int)<(ps.length:Int):=m9
   obtain⟨nm,dU⟩:∃nm,nms[kk]?=some nm:=⟨nms[kk]' m9,by simp[show kk<nms.length by omega]⟩;obtain⟨p,hp,b,pk,rfl,k1,k2,k3⟩:=HF.1.at dU;have kb:wr.heap[b]?=W.heap[b]?:=cH.jJ.block b k3;have Nx:wr.cell? ⟨b,1,none⟩=some (.pointer pk):=(jQi (w:=W) kb).trans k1;have c2:wr.cell? ⟨b,2,none⟩=some (.string nm):=(jQi (w:=W) kb).trans k2;obtain⟨b7,o7,rfl, -,Lf⟩:=(HR.1.move eR).nth hp;obtain⟨Y7,j8⟩:=aia.1 nm (jQ8 dU);have uE:=acy Y7;have QW:¬nm∈nms.take kk:=λhm=>by
    have hs:=Xd.1;rw[<-jRo kk nms]at hs;have h2:nm∈nms.drop kk:=jQ8 (i:=0) (by simpa using dU);exact(List.nodup_append.1 hs).2.2 nm hm nm h2 rfl
   have ag:=DU hB sG Nx c2 Y7 j8 (HT.1.move eR);have tB:nms.take (kk+1)=nms.take kk++[nm]:=by rw[jRm,dU];rfl
   have HG:=Z (λe w' (h:DW wr W.heap.size so (nms.take kk) nm e w')=>eF.1.ins hB Nh QW h);clear cH eR hB sG Nh dU hp k1 k2 k3 kb Nx Y7 j8 QW;go_wp2_with fail;refine ag.mono ?_;rintro e w' hI;obtain⟨rfl,KH⟩:=HG.1 e w' hI;have HS2:=Z KH;clear ag hI KH Lf c2;go_wp2_with fail;go_roundg (ps.length - (kk+1))
   case measure=>omega
   case rel=>exact⟨kk+1,m9,m9,by go_num,by rw[tB];exact HS2.1⟩
  ·have aR:¬(kk:Int)<(ps.length:Int):=m9
   have MY:¬(n2:Int)>(ps.length:Int):=m9
   have ar:=an wr (.cells #[.slice a ps.length c,.slice a2 n2 c2] 165);have jz:=ak wr (.cells #[.slice a ps.length c,.slice a2 n2 c2] 165);cases a with
   |some ad=>
    have hc:=Mu wr.heap.size ad ps.length c (.slice a2 n2 c2) _ jz;clear cH eR hB sG Nh ez;go_wp2_with fail;refine rv hc ?_;clear hc;go_wp2_with fail;go_ret;exact⟨_,_,rfl,eF.1.jJ.size,eF.1.jJ.trans (ar.mono eF.1.jJ.size),jz,.inl rfl⟩
   |none=>
    obtain rfl:=Xf rfl;have hz:ps=[]:=by
     rcases HR.1 with⟨h,_⟩|⟨_,b,o,c,h,_⟩
     ·exact h
     ·cases h
    subst hz;have Hv:n2=0:=by simpa using h2
    subst Hv;have Vc:kk=0:=by simpa using ez
    subst Vc;clear aR MY aM;have hc:=Mw wr.heap.size (.slice a2 0 c2) _ jz;clear cH eR hB sG Nh ez;go_wp2_with fail;refine hc.mono ?_;rintro e w' ⟨rfl,a3,W3,pX,fm⟩;have Rl:=Z fm;clear hc fm;go_wp2_with fail;go_ret;have hz:=eF.1.jJ.size;have cX:=an (wr.alloc (.cells #[.slice none 0 0,.slice a2 0 c2] 165)) (.cells #[] 84);have aZ:Below W.heap.size W W3:=by
     rw[pX];exact eF.1.jJ.trans ((ar.mono hz).trans (cX.mono (by simp;omega)))
    exact⟨_,_,rfl,hz,Rl.1.below aZ hz,Rl.1.here,.inr ⟨rfl,a3,rfl⟩⟩
noncomputable def okTid(t:TypeId):Bool:=
 match Tryz.prog.underlying t with
 |some (.pointer te)=>(match Tryz.prog.info? t with|some i=>i.comparable|none=>false)&&(match Tryz.prog.info? te with|some j=>j.size !=0|none=>false)
 |_=>false
theorem Yp:okTid 87=true:=g9
theorem Yq:okTid 125=true:=g9
theorem Yr:okTid 127=true:=g9
theorem Ys:okTid 129=true:=g9
theorem TM:okTid 161=true:=g9
theorem PU:okTid 131=true:=g9
theorem Jq:okTid 90=true:=g9
theorem aeD:okTid 133=true:=g9
theorem abG:okTid 135=true:=g9
theorem Jr:okTid 33=true:=g9
theorem Yt:okTid 189=true:=g9
theorem Yu:okTid 53=true:=g9
theorem X6:okTid 91=true:=g9
theorem Eu(k:Int):okTid (tid k)=true:=by
 rcases de k with⟨-,g⟩|⟨-,g⟩|⟨-,g⟩|⟨-,g⟩|⟨-,g⟩|⟨-,g⟩|⟨-,g⟩|⟨-,g⟩|⟨-,g⟩|⟨-,g⟩|⟨-,g⟩|⟨-,g⟩
 ·rw[g];exact Yp
 ·rw[g];exact Yq
 ·rw[g];exact Yr
 ·rw[g];exact Ys
 ·rw[g];exact TM
 ·rw[g];exact PU
 ·rw[g];exact Jq
 ·rw[g];exact aeD
 ·rw[g];exact abG
 ·rw[g];exact Jr
 ·rw[g];exact Yt
 ·rw[g];exact Yu
theorem tV(h:okTid t=true):∃te i j,Tryz.prog.underlying t=some (.pointer te)/\Tryz.prog.info? t=some i/\i.comparable=true/\Tryz.prog.info? te=some j/\j.size≠0:=by
 unfold okTid at h;split at h
 ·rename_i te Jt
  rw[Bool.and_eq_true]at h;cases hi:Tryz.prog.info? t with
  |none=>rw[hi]at h;simp at h
  |some i=>
   cases hj:Tryz.prog.info? te with
   |none=>rw[hj]at h;simp at h
   |some j=>
    rw[hi,hj]at h;exact⟨te,i,j,Jt,rfl,h.1,hj,by simpa using h.2⟩
 ·cases h
theorem undTyB:(match Tryz.prog.underlying 37 with|some (.interface _)=>true|_=>false)=true:=g9
theorem EE:∃ms,Tryz.prog.underlying 37=some (.interface ms):=by
 have h:=undTyB;split at h
 ·rename_i ms jK;exact⟨ms,jK⟩
 ·cases h
theorem TN:Tryz.prog.underlying 156=some (.map 37 4):=g9
theorem aai(W:World):(zeroValue 4).run prog W=.ok (.bool false) W:=g9
theorem aeE(ms:Array (String×TypeId))(k:Value):∀k',Instr.sameNow (.interface ms) k k'=none:=λk'=>by cases k'<;>rfl
theorem ckT(ht:okTid t=true)(u:Nat)(W:World)(e:Bool):(Instr.checkKey e 10000 37 (.iface t (ptr u))).run prog W=.ok () W:=by
 obtain⟨ms,hm⟩:=EE;obtain⟨te,i,j,h1,h2,h3,h4,h5⟩:=tV ht;have h0:∀n,(Instr.checkKey e (n+1) t (ptr u)).run prog W=.ok () W:=λn=>by
  unfold Instr.checkKey;simp[jQj h1,Result.andThen]
 have h:∀n,(Instr.checkKey e (n+1+1) 37 (.iface t (ptr u))).run prog W=.ok () W:=λn=>by
  unfold Instr.checkKey;simp[jQj hm,Result.andThen,typeInfo,h2,h3,h0]
 exact h 9998
section
variable{S:Sg}
theorem aeF(hg:GH w S D obj W)(ha:S a=some s)(hb:S b=some s')(ht:okTid t=true):(Op.equal 37 (.iface t (ptr a)) (.iface t' (ptr b))).run prog W=.ok (t==t'&&a==b) W:=by
 obtain⟨ms,hm⟩:=EE;obtain⟨te,i,j,h1,h2,h3,h4,h5⟩:=tV ht;obtain⟨cs,ty,hc⟩:=hg.A9 a s ha;obtain⟨Ek,ty',yq⟩:=hg.A9 b s' hb;exact Ja hm h1 h2 h3 h4 h5 hc yq
theorem Tu{u v:TypeId}{x y:Value}{r:Bool}(h:(Op.equal t (.iface u x) (.iface v y)).run prog W=.ok r W):(binOp .eql t (.iface u x) (.iface v y)).run prog W=.ok (.bool r) W:=by
 simp only[binOp];simp[h]
theorem abH{x:Option Addr}{r:Bool}(h:(Op.equal t (.pointer x) (.pointer y)).run prog W=.ok r W):(binOp .eql t (.pointer x) (.pointer y)).run prog W=.ok (.bool r) W:=by
 simp only[binOp];simp[h]
theorem sL(hg:GH w S D obj W){u:Value}{x y:GT}(hu:dq S u x)(hv:dq S v y):∃r:Bool,(binOp .eql 37 u v).run prog W=.ok (.bool r) W/\(r=true->dX x y)/\(r=true↔u=v):=by
 obtain⟨a,rfl,ha⟩:=hu;obtain⟨b,rfl,hb⟩:=hv;refine⟨_,Tu (aeF hg ha hb (Eu _)),λh=>?_,?_⟩
 ·simp at h;obtain⟨h1,rfl⟩:=h;rw[ha]at hb;exact jQw hb
 ·simp
abbrev Th(t:TypeId)(u:Nat)(k:Value):Bool:=match k with|.iface t' (.pointer (some a))=>t==t'&&u==a.block|_=>false
def NC(S:Sg)(es:List MapEntry):Prop:=∀e∈es,∃q s,e.key=.iface (tid s.kind) (ptr q)/\S q=some s
variable{es:Array MapEntry}
theorem aeG(hg:GH w S D obj W)(ha:S a=some s)(ht:okTid t=true){es:List MapEntry}(hk:NC S es):∀e∈es,(Op.equal 37 (.iface t (ptr a)) e.key).run prog W=.ok (Th t a e.key) W:=by
 intro e he;obtain⟨q,s',h1,h2⟩:=hk e he;rw[h1];exact aeF hg ha h2 ht
theorem aeg(hg:GH w S D obj W)(hm:W.heap[mb]?=some (.map es ck))(hk:NC S es.toList)(ha:S a=some s)(ht:okTid t=true):
 (Instr.lookup 156 (.map (some mb)) (.iface t (ptr a)) false).run prog W=.ok (((hitE (Th t a) es.toList 0).map (·.2)).getD (.bool false)) W:=by
 obtain⟨ms,jK⟩:=EE;exact IM TN jK (aeE ms _) (ckT ht a W) (aai W) hm (aeG hg ha ht hk) false
theorem Pz(ht:okTid t=true):(Instr.lookup 156 (.map none) (.iface t (ptr a)) false).run prog W=.ok (.bool false) W:=by
 obtain⟨ms,jK⟩:=EE;exact Gj TN jK (ckT ht a W) (aai W)
theorem SZ(v:Value)(hg:GH w S D obj W)(hm:W.heap[mb]?=some (.map es ck))(hk:NC S es.toList)(ha:S a=some s)(ht:okTid t=true)(fp:hitE (Th t a) es.toList 0=none):
 ∃w2,(Instr.mapUpdate 156 (.map (some mb)) (.iface t (ptr a)) v).run prog W=.ok () w2/\DD mb (es.push {key:=.iface t (ptr a),val:=v,born:=ck}) (ck+1) W w2:=by
 obtain⟨ms,jK⟩:=EE;exact kP TN jK (aeE ms _) (ckT ht a W) hm (aeG hg ha ht hk) fp
end
section
variable{S:Sg}
def mI(S:Sg)(W:World)(sb:Nat)(l:List (Option Tm))(cf:Bool):Prop:=∃ms sl,W.heap[sb]?=some (.cells #[.bool false,ms,sl,.bool cf] 122 (0,0))/\S sb=none/\lS S W l sl
theorem mI.move(h:mI S W sb l cf)(hf:bZ X S rs r W w'):mI S w' sb l cf:=by
 obtain⟨ms,sl,h1,h2,h3⟩:=h;exact⟨ms,sl,hf.obj h2 h1,h2,h3.move hf⟩
theorem yn.jl{s:TS}(h:yn S D E W b s):mI S W b s.terms s.comp:=h.tl
theorem gL(h:mI S W sb l cf):Calls prog 73 #[ptr sb] W (dL W (.bool (aK l))):=by
 obtain⟨ms,sl,h1,h2,h3⟩:=h;obtain⟨c0,c1,c2,c3⟩:=dx h1;have ag:=gI h3;clear h1 h2 h3;go_enter func73,ntmps73;exact M95
theorem iq(h:mI S W sb l cf):Calls prog 78 #[ptr sb] W (dL W (.bool (!aK l&&!isAllL l))):=by
 obtain⟨ms,sl,h1,h2,h3⟩:=h;obtain⟨c0,c1,c2,c3⟩:=dx h1;have ag:=gI h3;have aD:=fI h3;clear h1 h2 h3;generalize aK l=r1 at*;generalize isAllL l=r2 at*;cases r1
 ·go_enter func78,ntmps78;go_wp2_with fail;refine rv ag ?_;go_wp2_with fail;refine rv aD ?_;exact M198
 ·go_enter func78,ntmps78;go_wp2_with fail;refine rv ag ?_;exact M198
def ab8(W:World)(e:Ending)(W':World):Prop:=∃b,e=.returned (ptr b)/\Below W.heap.size W W'
theorem bJ(s:ByteArray)(x:Option Addr)(n c:Nat)(W:World):Calls prog 83 #[.string s,.slice x n c] W (ab8 W):=by
 by_cases hs:s=es
 ·have hn:=gB hs;have zl:s.toList.isEmpty=true:=by subst hs;rw[jRk];rfl
  exact M213
 ·have hn:=jX hs;have zl:s.toList.isEmpty=false:=by
   cases h:s.toList.isEmpty with
   |false=>rfl
   |true=>rw[List.isEmpty_iff.1 h]at hn;simp at hn
  exact M213
theorem bG(hT:dS NS Q w S D obj rs K r)(bD:Ok w S D obj rs K E r W){t:GT}(hs:S b=some (aG t))(cP:Fb NS Q w t)(AB:2*J rs false false t<r):
 Calls prog 72 #[ptr b] W (aV w S D obj rs K E r W λv W'=>∃sb,v=ptr sb/\yn S D E W' sb ((fs w K).ts t)):=by
 have ag:=hT E W b t 0 bD hs cP AB;have hk:(aG t).kind=10\/(aG t).kind=17:=M148
 obtain⟨-, -, -, -, -, -, -, -, -,n10, -⟩:=bD.gh.node b _ hs;obtain⟨ts,ms,es,ps,vs,hb, -⟩:=n10 hk;obtain⟨c0, -⟩:=ao hb;clear hb n10 bD hs hT cP AB hk;go_enter func72,ntmps72;go_wp2_with fail;refine ag.mono ?_;rintro e w' ⟨v,rfl,⟨sb,rfl,k1⟩,k2,k3⟩;have HP:=Z (show aV w S D obj rs K E r W (λv W'=>∃sb,v=ptr sb/\yn S D E W' sb ((fs w K).ts t)) (.returned (ptr sb)) w' from⟨_,rfl,⟨sb,rfl,k1⟩,k2,k3⟩);clear k1 k2 k3 ag;exact M13
theorem YU(h:mI S W sb l cf)(bk:(!aK l&&!isAllL l)=false)(fn:Nat)(cap:Array Value)(eg:∀args w,(callFunc fn args).run prog w=.ok (.enter fn args) w)(x:Bool)(P:World->Prop)(hf:Calls prog fn (#[.pointer none]++cap) W λe W'=>e=.returned (.bool x)/\P W'):
 Calls prog 80 #[ptr sb,.func (.func fn) #[] cap] W λe W'=>e=.returned (.bool x)/\P W':=by
 have ag:=iq h;rw[bk]at ag;clear h bk;go_enter func80,ntmps80;go_wp2_with fail;refine rv ag ?_;clear ag;go_wp2_with (go_at_fn fn;refine hf.mono ?_;rintro e w' ⟨rfl,hp⟩);go_ret;exact⟨rfl,hp⟩
def IsR(Inv Fin:World->Prop)(x:Bool)(e:Ending)(W':World):Prop:=e=.returned (.bool x)/\(x=true->Inv W')/\(x=false->Fin W')
theorem JL(h:mI S W sb l cf)(bk:aK l=false)(hna:isAllL l=false)(CW:∀x∈l,Tp x)(fn:Nat)(cap:Array Value)(eg:∀args w,(callFunc fn args).run prog w=.ok (.enter fn args) w)(g:Option Tm->Bool)(Inv Fin:World->Prop)(Oe:Inv W)(eR:∀W',Inv W'->mI S W' sb l cf/\∀n c a,W.cell? ⟨sb,2,none⟩=some (.slice a n c)->lS S W' l (.slice a n c))(hf:∀W' x p,Inv W'->x∈l->TmV S W' x p->Calls prog fn (#[p]++cap) W' (IsR Inv Fin (g x))):
 Calls prog 80 #[ptr sb,.func (.func fn) #[] cap] W (IsR Inv Fin (l.all g)):=by
 have ag:=iq h;rw[bk,hna]at ag;obtain⟨ms,sl,h1,h2,h3⟩:=h;obtain⟨a,c,rfl⟩:=h3.form;obtain⟨c0,c1,c2,c3⟩:=dx h1;have rO:=h3.max;obtain⟨Oa,HF,DH,HTP,C2⟩:=Z5 eR hf Oe CW c2;clear h1 h2 h3 eR hf Oe CW bk hna c0 c1 c3;go_enter func80,ntmps80;go_wp2_with fail;refine rv ag ?_;clear ag;go_wp2_with fail;clear c2
 go_loopg [17] l.length (λgg s17 wr=>∃kk:Nat,kk<=l.length/\l.length - kk<=gg/\s17=.int .i64 kk/\Aside (Inv wr)/\Aside ((l.drop kk).all g=l.all g))
 case atStart=>exact⟨0,jQc _,m9,rfl,DH.1,rfl⟩
 case round=>
  obtain⟨kk,ez,hg,rfl,N,A⟩:=hrel;by_cases aM:kk<l.length
  ·have aR:(kk:Int)<(l.length:Int):=m9
   obtain⟨x,hx⟩:∃x,l[kk]?=some x:=⟨l[kk],by simp[aM]⟩;obtain⟨b,o,p,rfl,hs,hc,ht⟩:=((Oa.1 wr N.out).2 _ _ _ C2.1).nth hx;have hm:=jQ8 hx;obtain⟨ti,ty,rfl⟩:=HTP.1 x hm;obtain⟨b1,v1,rfl,s1,d1,d2, -,y1⟩:=ht.open;obtain⟨T1,q1,rfl, -⟩:=y1 ty rfl;have hA:=A.out;rw[cZ hx,jRl]at hA;have ag:=HF.1 wr _ _ N.out hm ht;have gO:=bO wr;have HA:=Z hA;clear hA hx ht hm y1 s1 d1 hs;cases Da:g (some ⟨ti,some ty⟩)with
   |true=>
    have HG:=Z Da;rw[Da]at ag;clear Da;go_wp2_with fail;refine rv gO ?_;clear gO;go_wp2_with (go_at_fn fn;refine ag.mono ?_;rintro e w' ⟨rfl,Q4, -⟩);have N2:=Z (Q4 i6);clear Q4 ag
    try go_wp2_with fail
    go_roundg (l.length - (kk+1))
    case measure=>omega
    case rel=>exact⟨kk+1,m9,m9,by go_num,N2.1,by have:=HA.1;rw[HG.1,jRn]at this;exact this⟩
   |false=>
    have HG:=Z Da;rw[Da]at ag;clear Da;go_wp2_with fail;refine rv gO ?_;clear gO;go_wp2_with (go_at_fn fn;refine ag.mono ?_;rintro e w' ⟨rfl, -,Q4⟩);have N2:=Z (Q4 i6);clear Q4 ag
    try go_wp2_with fail
    go_ret;have hl:l.all g=false:=by have:=HA.1;rw[HG.1,Bool.false_and]at this;exact this.symm
    exact⟨by rw[hl];rfl,λh=>(by rw[hl]at h;cases h),λ_=>N2.1⟩
  ·have aR:¬(kk:Int)<(l.length:Int):=m9
   have hA:=A.out;rw[jQf m9]at hA;have HA:=Z (show l.all g=true by rw[<-hA];rfl);clear hA;go_wp2_with fail;go_ret;exact⟨by rw[HA.1];rfl,λ_=>N.out,λh=>(by rw[HA.1]at h;cases h)⟩
end
abbrev pv(p:S.Place):Value:=.agg #[.int .i64 p.decls,.bool p.value,.bool p.term]
abbrev px(p:S.Place):Obj:=.cells #[.int .i64 p.decls,.bool p.value,.bool p.term] 49
def NB(t:GT):Prop:=(∀x∈ei t,x.size<=9223372036854775807)/\(ei t).length<=9223372036854775807
theorem wZ:∀{l:List GT} {e:GT},e∈l->(ei e).length<=(fF l).length
 |a::l,e,h=>by
  rw[fF];rcases jQn.1 h with rfl|h
  ·simp
  ·have:=wZ h;simp;omega
theorem BM:∀l:List GT,l.length<=(fF l).length
 |[]=>i6
 |a::l=>by
  rw[fF];have:=BM l;have:1<=(ei a).length:=by obtain⟨k,n,m,va,nm,tg,l⟩:=a;rw[ei];simp
  simp;omega
theorem NB.elem{t e:GT}(h:NB t)(he:e∈t.elems):NB e:=⟨λx hx=>h.1 x (jD he x hx),by
 obtain⟨k,n,m,va,nm,tg,l⟩:=t;have h2:=h.2;rw[ei]at h2;have:=wZ (l:=l) (e:=e) he;simp at h2;omega⟩
theorem NB.name{t:GT}(h:NB t):t.name.size<=9223372036854775807:=h.1 _ (EK t)
theorem NB.len{t:GT}(h:NB t):t.elems.length<9223372036854775807:=by
 obtain⟨k,n,m,va,nm,tg,l⟩:=t;have h2:=h.2;rw[ei]at h2;have:=BM l;simp[GT.elems]at h2⊢;omega
theorem nQ{w:World}(h:w.heap[B]?=some (.cells #[v0,v1,v2] t f)):
 w.cell? ⟨B,0,none⟩=some v0/\w.cell? ⟨B,1,none⟩=some v1/\w.cell? ⟨B,2,none⟩=some v2:=by
 simp[World.cell?,h]
def xS(k:Nat):Prop:=∀(w:List ah) (ws:Value) (t:GT) (p:S.Place) (r:Bool) (v:Value) (W:World) (D:Nat->Prop),placed w k t p=some r->NB t->Cx D w ws W->RT D W t v->
 Calls prog 33 #[ws,v,pv p] W (ef W r)
def wg(k:Nat):Prop:=∀(w:List ah) (ws:Value) (l:List GT) (p:S.Place) (r:Bool) (v:Value) (W:World) (D:Nat->Prop),allPlaced w k l p=some r->(∀e∈l,NB e)->Cx D w ws W->RS D W l v->
 Calls prog 19 #[ws,v,pv p] W (ef W r)
def Gl(k:Nat):Prop:=∀(w:List ah) (ws:Value) (t:GT) (p:S.Place) (r:Bool) (v:Value) (W:World) (D:Nat->Prop),placedInterface w k t p=some r->NB t->Cx D w ws W->RT D W t v->
 Calls prog 88 #[ws,v,pv p] W (ef W r)
def Gm(k:Nat):Prop:=∀(w:List ah) (ws:Value) (t:GT) (p:S.Place) (r:Bool) (v:Value) (W:World) (D:Nat->Prop),dz w k t p=some r->NB t->Cx D w ws W->RT D W t v->
 Calls prog 126 #[ws,v,pv p] W (ef W r)
def Gn(k:Nat):Prop:=∀(w:List ah) (ws:Value) (t:GT) (p:S.Place) (r:Bool) (v:Value) (W:World) (D:Nat->Prop),placedTerm w k t p=some r->NB t->Cx D w ws W->RT D W t v->
 Calls prog 167 #[ws,v,pv p] W (ef W r)
theorem ahw(k:Nat)(ih:xS k)(w:List ah)(ws:Value)(e:GT)(p:S.Place)(r:Bool)(v:Value)(W:World)(D:Nat->Prop)(Bw Bp:Nat)(hp:bh (placed w k e p)=some r)(hn:NB e)(hx:Cx D w ws W)(hv:RT D W e v)(hB:W.cell? ⟨Bw,0,none⟩=some ws)(hP:W.heap[Bp]?=some (px p)):
 Calls prog 43 #[v,.pointer (some ⟨Bw,0,none⟩),.pointer (some ⟨Bp,0,none⟩)] W (ef W r):=by
 have lR:=jQs hB;have hBp:=jQ2 hP;simp only at lR;obtain⟨b,hb,rfl⟩:=jQ6.1 hp;obtain⟨c0,c1,c2⟩:=nQ hP;obtain⟨a,c,rfl,hs⟩:=hv.bR;obtain⟨wa,wc,rfl⟩:=hx.rd.form;have HA:=Z (an W (bx e a c));have ag:=ih w _ e p b _ _ D hb hn (hx.mv HA.1) (hv.mv hx.lo HA.1);clear hp hx hv hs hb hn;go_enter func43,ntmps43;exact M6
theorem ifC(k:Nat)(ih:Gm k)(w:List ah)(ws:Value)(e:GT)(p:S.Place)(r:Bool)(v:Value)(W:World)(D:Nat->Prop)(Bw Bp:Nat)(hp:bh (dz w k e p)=some r)(hn:NB e)(hx:Cx D w ws W)(hv:RT D W e v)(hB:W.cell? ⟨Bw,0,none⟩=some ws)(hP:W.heap[Bp]?=some (px p)):
 Calls prog 125 #[v,.pointer (some ⟨Bw,0,none⟩),.pointer (some ⟨Bp,0,none⟩)] W (ef W r):=by
 have lR:=jQs hB;have hBp:=jQ2 hP;simp only at lR;obtain⟨b,hb,rfl⟩:=jQ6.1 hp;obtain⟨c0,c1,c2⟩:=nQ hP;obtain⟨a,c,rfl,hs⟩:=hv.bR;obtain⟨wa,wc,rfl⟩:=hx.rd.form;have HA:=Z (an W (bx e a c));have ag:=ih w _ e p b _ _ D hb hn (hx.mv HA.1) (hv.mv hx.lo HA.1);clear hp hx hv hs hb hn;go_enter func125,ntmps125;exact M6
theorem elC(k:Nat)(ih:Gn k)(w:List ah)(ws:Value)(e:GT)(p:S.Place)(r:Bool)(v:Value)(W:World)(D:Nat->Prop)(Bw Bp:Nat)(hp:bh (placedTerm w k e p)=some r)(hn:NB e)(hx:Cx D w ws W)(hv:RT D W e v)(hB:W.cell? ⟨Bw,0,none⟩=some ws)(hP:W.heap[Bp]?=some (px p)):
 Calls prog 168 #[v,.pointer (some ⟨Bw,0,none⟩),.pointer (some ⟨Bp,0,none⟩)] W (ef W r):=by
 have lR:=jQs hB;have hBp:=jQ2 hP;simp only at lR;obtain⟨b,hb,rfl⟩:=jQ6.1 hp;obtain⟨c0,c1,c2⟩:=nQ hP;obtain⟨a,c,rfl,hs⟩:=hv.bR;obtain⟨wa,wc,rfl⟩:=hx.rd.form;have HA:=Z (an W (bx e a c));have ag:=ih w _ e p b _ _ D hb hn (hx.mv HA.1) (hv.mv hx.lo HA.1);clear hp hx hv hs hb hn;go_enter func168,ntmps168;exact M6
theorem PW(k:Nat)(ih:xS k):wg (k+1):=by
 intro w ws l p r v W D hp hn hx hv;rw[allPlaced]at hp;have hp:=aX hp;obtain⟨wa,wc,rfl⟩:=hx.rd.form;obtain⟨a,c,rfl⟩:=hv.form;have HA:=Z (dT W (.cells #[.slice wa w.length wc] 22) (px p));have fw:((W.alloc (.cells #[.slice wa w.length wc] 22)).alloc (px p)).cell? ⟨W.heap.size,0,none⟩=some (.slice wa w.length wc):=jQh (aq (ak W (.cells #[.slice wa w.length wc] 22)));have OW:=ak (W.alloc (.cells #[.slice wa w.length wc] 22)) (px p);simp only[jQ3]at OW;have dF:=hx.mv HA.1;have ag:=cL l _ _ D (hv.mv hx.lo HA.1) dF.lo 43 #[.pointer (some ⟨W.heap.size,0,none⟩),.pointer (some ⟨W.heap.size+1,0,none⟩)] Tryz.call43 _ (λW1 e v bb ar hm dr ke=>
  ahw k ih w _ e p bb v W1 D W.heap.size (W.heap.size+1) ke (hn e hm) (dF.mv ar) dr ((ar.cell (p:=⟨W.heap.size,0,none⟩) (by simp;omega)).trans fw) (aj ar OW i6)) (!r) hp
 have D8:∀(fn:Fn) (first cap:Array Value) (w:World),(Instr.makeFunc fn first cap).run prog w=.ok (.func fn first cap) w:=λ_ _ _ _=>rfl;clear hx hv dF fw OW hp;go_enter func19,ntmps19;exact M28
theorem TZ(k:Nat)(ih:xS k):Gn (k+1):=by
 intro w ws t p r v W D hp hn hx hv;rw[placedTerm]at hp;obtain⟨a,c,rfl,hs⟩:=hv.bR;obtain⟨wa,wc,rfl⟩:=hx.rd.form;have HA:=Z (an W (bx t a c));by_cases cg:t.kind=13
 ·rw[jQ7 cg]at hp;have ll:(t.kind==13)=true:=by simp[cg]
  by_cases dQ:t.elems.length=1
  ·obtain⟨e,he⟩:=List.length_eq_one_iff.1 dQ;have zl:e∈t.elems:=by rw[he];simp
   have K6:placed w k e p=some r:=by rw[he]at hp;exact hp
   rcases aN.1 hs with⟨zh,_⟩|⟨bk,b,o,c1,e1,Jd,jG,kN,hC⟩
   ·rw[zh]at dQ;simp at dQ
   simp at e1;obtain⟨rfl,rfl⟩:=e1;have pZ:=Z (dT W (bx t (some ⟨b,o,none⟩) c) (px p));have hE:=(hC.at (i:=0) (t:=e) (by rw[he];rfl)).move (hx.lo.aJ pZ.1) kN;simp only[Nat.zero_mul,Nat.add_zero]at hE;obtain⟨ea,ec,f0,f1,f2,f3,f4,f5,f6,r5⟩:=hE.bR;obtain⟨AR,AS,e',Hp⟩:=r5.bR;simp at e';obtain⟨rfl,rfl⟩:=e';have j6:=hx.lo b kN;have dF:=hx.mv pZ.1;obtain⟨c0,c1,c2,c3,c4,c5,c6⟩:=ao (aq (o:=px p) (ak W (bx t (some ⟨b,o,none⟩) c)));obtain⟨d0,d1,d2⟩:=nQ (ak (W.alloc (bx t (some ⟨b,o,none⟩) c)) (px p));simp only[jQ3]at d0 d1 d2;have fV:(0:Int)<(t.elems.length:Int):=m9
   have hlq:((t.elems.length:Int)==1)=true:=by simp[dQ]
   have ag:=Z<|λ(w':World) (hb:Below ((W.alloc (bx t (some ⟨b,o,none⟩) c)).alloc (px p)).heap.size ((W.alloc (bx t (some ⟨b,o,none⟩) c)).alloc (px p)) w')=>ih w _ e p r _ w' D K6 (hn.elem zl) (dF.mv hb) (r5.mv dF.lo hb);have iT:W.heap.size<((W.alloc (bx t (some ⟨b,o,none⟩) c)).alloc (px p)).heap.size:=by simp;omega
   have mU:W.heap.size+1<((W.alloc (bx t (some ⟨b,o,none⟩) c)).alloc (px p)).heap.size:=i6
   have qo:b<((W.alloc (bx t (some ⟨b,o,none⟩) c)).alloc (px p)).heap.size:=by simp;omega
   have hneq:t.elems≠[]:=bk;clear hp K6 hx hv hs hn hE r5 Hp hC dF dQ cg he;go_enter func167,ntmps167;go_wp2_with fail;generalize sj:(W.alloc (bx t (some ⟨b,o,none⟩) c)).alloc (px p)=w2 at pZ ag c0 c1 c2 c3 c4 c5 c6 d0 d1 d2 f0 f1 f2 f3 f4 f5 f6 iT mU qo;have hS:=Z (show∀w',Below w2.heap.size w2 w'->(λw'=>Below w2.heap.size w2 w'/\w'.cell? ⟨W.heap.size,6,none⟩=some (.slice (some ⟨b,o,none⟩) t.elems.length c)/\w'.cell? ⟨W.heap.size+1,0,none⟩=some (.int .i64 p.decls)/\w'.cell? ⟨W.heap.size+1,1,none⟩=some (.bool p.value)/\w'.cell? ⟨W.heap.size+1,2,none⟩=some (.bool p.term)/\w'.cell? ⟨b,o,none⟩=some (.int .i64 e.kind)/\w'.cell? ⟨b,o+1,none⟩=some (.int .i64 e.n)/\w'.cell? ⟨b,o+2,none⟩=some (.int .i64 e.m)/\w'.cell? ⟨b,o+3,none⟩=some (.bool e.va)/\w'.cell? ⟨b,o+4,none⟩=some (.string e.name)/\w'.cell? ⟨b,o+5,none⟩=some (.string e.tag)/\w'.cell? ⟨b,o+6,none⟩=some (.slice ea e.elems.length ec)) w' from λw' hb=>⟨hb,(hb.cell (p:=⟨W.heap.size,6,none⟩) iT).trans c6,(hb.cell (p:=⟨W.heap.size+1,0,none⟩) mU).trans d0,(hb.cell (p:=⟨W.heap.size+1,1,none⟩) mU).trans d1,(hb.cell (p:=⟨W.heap.size+1,2,none⟩) mU).trans d2,(hb.cell (p:=⟨b,o,none⟩) qo).trans f0,(hb.cell (p:=⟨b,o+1,none⟩) qo).trans f1,(hb.cell (p:=⟨b,o+2,none⟩) qo).trans f2,(hb.cell (p:=⟨b,o+3,none⟩) qo).trans f3,(hb.cell (p:=⟨b,o+4,none⟩) qo).trans f4,(hb.cell (p:=⟨b,o+5,none⟩) qo).trans f5,(hb.cell (p:=⟨b,o+6,none⟩) qo).trans f6⟩)
   try rw[sj]
   go_region_held3 (λw'=>Below w2.heap.size w2 w'/\w'.cell? ⟨W.heap.size,6,none⟩=some (.slice (some ⟨b,o,none⟩) t.elems.length c)/\w'.cell? ⟨W.heap.size+1,0,none⟩=some (.int .i64 p.decls)/\w'.cell? ⟨W.heap.size+1,1,none⟩=some (.bool p.value)/\w'.cell? ⟨W.heap.size+1,2,none⟩=some (.bool p.term)/\w'.cell? ⟨b,o,none⟩=some (.int .i64 e.kind)/\w'.cell? ⟨b,o+1,none⟩=some (.int .i64 e.n)/\w'.cell? ⟨b,o+2,none⟩=some (.int .i64 e.m)/\w'.cell? ⟨b,o+3,none⟩=some (.bool e.va)/\w'.cell? ⟨b,o+4,none⟩=some (.string e.name)/\w'.cell? ⟨b,o+5,none⟩=some (.string e.tag)/\w'.cell? ⟨b,o+6,none⟩=some (.slice ea e.elems.length ec))
    (first|exact hS.1 _ (jQ5 _ _).drew|assumption)
    (first
     |(go_at_call 33;have hh:=‹Below w2.heap.size w2 _/\_›;refine(ag.1 _ hh.1).mono ?_;rintro eA wA ⟨rfl,eP⟩;have dI:=hh.1.trans (eP.mono hh.1.size);have hS4:=hS.1 _ dI))
   go_wp2_with fail;go_ret;exact⟨rfl,pZ.1.trans (dI.mono pZ.1.size)⟩
  ·have h:false=r:=by
    match hl:t.elems,dQ,hp with
    |[],_,hp=>simpa using hp
    |[_],dQ,_=>simp at dQ
    |_::_::_,_,hp=>simpa using hp
   subst h;have hlq:((t.elems.length:Int)==1)=false:=by simp;omega
   clear hp hx hv hs hn dQ;go_enter func167,ntmps167;go_wp2_with fail;go_quiet (fail);go_wp2_with fail;go_ret;exact⟨rfl,jRb (dT _ _ _) _⟩
 ·rw[jQ4 cg]at hp;have ll:(t.kind==13)=false:=by simp[cg]
  have HA:=Z (dT W (bx t a c) (px p));have ag:=ih w _ t p r _ _ D hp hn (hx.mv HA.1) (hv.mv hx.lo HA.1);clear hp hx hv hs hn;go_enter func167,ntmps167;exact M6
theorem pJ{α:Type}(f:α->Bool):∀l:List α,anyM (λa=>some (f a)) l=some (l.any f)
 |[]=>rfl
 |a::l=>by
  rw[anyM,List.any_cons];cases h:f a
  ·simpa[h]using pJ f l
  ·simp[h]
theorem uW:∀(fn:Fn) (first cap:Array Value) (w:World),(Instr.makeFunc fn first cap).run prog w=.ok (.func fn first cap) w:=λ_ _ _ _=>rfl
theorem Ue(k:Nat)(ih:Gn k):Gm (k+1):=by
 intro w ws t p r v W D hp hn hx hv;rw[dz]at hp;obtain⟨a,c,rfl,hs⟩:=hv.bR;obtain⟨wa,wc,rfl⟩:=hx.rd.form;have HA:=Z (pE W (.cells #[.slice wa w.length wc] 22) (bx t a c) (px p));by_cases cQ:t.kind=12
 ·rw[jQ4 (by simpa using cQ)]at hp;have tT:(t.kind !=12)=false:=by simp[cQ]
  by_cases hl:t.elems.length≥2/\t.elems.length<=8
  ·rw[jQ7 hl]at hp;have hp:=aX hp;have l2:(2:Int)<=(t.elems.length:Int):=m9
   have l8:(t.elems.length:Int)<=8:=m9
   have fw:(((W.alloc (.cells #[.slice wa w.length wc] 22)).alloc (bx t a c)).alloc (px p)).cell? ⟨W.heap.size,0,none⟩=some (.slice wa w.length wc):=jQh (aq (aq (ak W (.cells #[.slice wa w.length wc] 22))));have OW:=ak ((W.alloc (.cells #[.slice wa w.length wc] 22)).alloc (bx t a c)) (px p);simp only[jQ3]at OW;have dF:=hx.mv HA.1;have ag:=cL t.elems _ _ D (hs.mv hx.lo HA.1) dF.lo 168 #[.pointer (some ⟨W.heap.size,0,none⟩),.pointer (some ⟨W.heap.size+1+1,0,none⟩)] Tryz.call168 _ (λW1 e v bb ar hm dr ke=>
    elC k ih w _ e p bb v W1 D W.heap.size (W.heap.size+1+1) ke (hn.elem hm) (dF.mv ar) dr ((ar.cell (p:=⟨W.heap.size,0,none⟩) (by simp;omega)).trans fw) (aj ar OW i6)) (!r) hp
   have D8:=uW;clear hx hv dF fw OW hp hl cQ hs hn;go_enter func126,ntmps126;exact M28
  ·rw[jQ4 hl]at hp;have h:false=r:=by simpa using hp
   subst h;clear hp hx hv hs hn cQ;by_cases l2:(2:Int)<=(t.elems.length:Int)
   ·have l8:¬(t.elems.length:Int)<=8:=m9
    clear hl;go_enter func126,ntmps126;exact M34
   ·clear hl;go_enter func126,ntmps126;exact M34
 ·rw[jQ7 (by simpa using cQ)]at hp;have tT:(t.kind !=12)=true:=by simp[cQ]
  have ag:=ih w _ t p r _ _ D hp hn (hx.mv HA.1) (hv.mv hx.lo HA.1);clear hp hx hv hs hn;go_enter func126,ntmps126;exact M6
theorem PY(f m:GT)(v:Value)(W:World)(D:Nat->Prop)(Bm:Nat)(hv:RT D W f v)(Ez:W.heap[Bm]?=some (bx m am cm)):
 Calls prog 87 #[v,.pointer (some ⟨Bm,0,none⟩)] W (ef W (aE f.name m.name)):=by
 have X4:=jQ2 Ez;obtain⟨c0,c1,c2,c3,c4,c5,c6⟩:=ao Ez;obtain⟨a,c,rfl,hs⟩:=hv.bR;have HA:=Z (an W (bx f a c));clear hv hs Ez;by_cases hn:f.name=m.name
 ·have iK:=gB hn;have hr:aE f.name m.name=true:=by simp[aE,hn]
  rw[hr];clear hn hr;go_enter func87,ntmps87;exact M34
 ·have iK:=jX hn;have hr:aE f.name m.name=false:=by simp[aE,hn]
  rw[hr];clear hn hr;go_enter func87,ntmps87;exact M34
theorem L9(k:Nat)(Gf:wg k)(w:List ah)(ws:Value)(t:GT)(p:S.Place)(r:Bool)(v:Value)(W:World)(D:Nat->Prop)(hp:placed w (k+1) t p=some r)(hn:NB t)(hx:Cx D w ws W)(hv:RT D W t v)(hk:t.kind=1\/t.kind=14\/t.kind=15\/t.kind=16\/t.kind=11\/t.kind=2\/t.kind=3\/t.kind=5):Calls prog 33 #[ws,v,pv p] W (ef W r):=by
 have HK:=Z hk;clear hk;obtain⟨pd,Gv,pt⟩:=p;rw[placed]at hp;simp only at hp;obtain⟨a,c,rfl,hs⟩:=hv.bR;obtain⟨wa,wc,rfl⟩:=hx.rd.form;obtain⟨HA,HP,HX,HV,HS,HN,HE⟩:=Z7 (dT W (bx t a c) (.cells #[.int .i64 pd,.bool Gv,.bool pt] 49)) hp hx hv hs hn (show∀e∈t.elems,NB e from λe he=>hn.elem he);clear hp hx hv hs hn;by_cases h1:t.kind=1
 ·have k1:(t.kind==1)=true:=by simp[h1]
  have h:=HP.1;rw[jQ7 h1]at h;have h:(within t.n 18&&((t.elems.length:Int)==0))=r:=by simpa using h
  clear h1;cases hw:within t.n 18 with
  |false=>
   rw[hw]at h;have h:false=r:=by simpa using h
   subst h;exact M7
  |true=>
   rw[hw,jRn]at h;subst h;exact M7
 have k1:(t.kind==1)=false:=by simp[h1]
 have HP:=Z ((jQ4 h1).symm.trans HP.1);clear h1;by_cases mM:t.kind=14\/t.kind=15\/t.kind=16
 ·have h:=HP.1;rw[jQ7 mM]at h;have h:((t.elems.length:Int)==0)=r:=by simpa using h
  subst h;by_cases g14:t.kind=14
  ·have k14:(t.kind==14)=true:=by simp[g14]
   clear g14 mM;exact M7
  ·have k14:(t.kind==14)=false:=by simp[g14]
   by_cases g15:t.kind=15
   ·have Hw:(t.kind==15)=true:=by simp[g15]
    clear g14 g15 mM;exact M7
   ·have Hw:(t.kind==15)=false:=by simp[g15]
    have yr:(t.kind==16)=true:=by simp;omega
    clear g14 g15 mM;exact M7
 have k14:(t.kind==14)=false:=by simp;omega
 have Hw:(t.kind==15)=false:=by simp;omega
 have yr:(t.kind==16)=false:=by simp;omega
 have HP:=Z ((jQ4 mM).symm.trans HP.1);clear mM;by_cases dA:t.kind=11
 ·have qd:(t.kind==11)=true:=by simp[dA]
  have h:=HP.1;rw[jQ7 dA]at h;have h:(within t.n w.length&&((!Gv&&!pt)||decide (t.n<pd))&&((t.elems.length:Int)==0))=r:=by simpa using h
  clear dA;cases hw:within t.n w.length with
  |false=>
   rw[hw]at h;have h:false=r:=by simpa using h
   subst h;exact M7
  |true=>
   rw[hw,jRn]at h;subst h;clear HP HX HV HS HN HE;by_cases hd:t.n<pd
   ·exact M182
   ·exact M182
 have qd:(t.kind==11)=false:=by simp;omega
 have HP:=Z ((jQ4 dA).symm.trans HP.1);clear dA;by_cases h2:t.kind=2\/t.kind=3
 ·have h:=HP.1;rw[jQ7 h2]at h;by_cases hc:t.n≥0/\(t.elems.length:Int)=1
  ·rw[jQ7 hc]at h;have Hv:0<=t.n:=hc.1;have hl:((t.elems.length:Int)==1)=true:=by simp;omega
   have ag:=Gf w _ t.elems ⟨pd,Gv,pt⟩ r _ _ D h HE.1 (HX.1.mv HA.1) (HS.1.mv HX.1.lo HA.1);have HC:=HA;by_cases g2:t.kind=2
   ·have k2:(t.kind==2)=true:=by simp[g2]
    exact M70
   ·have k2:(t.kind==2)=false:=by simp[g2]
    have k3:(t.kind==3)=true:=by simp;omega
    exact M70
  ·rw[jQ4 hc]at h;have h:false=r:=by simpa using h
   subst h;by_cases Hv:0<=t.n
   ·have hl:((t.elems.length:Int)==1)=false:=by simp;omega
    exact M98
   ·exact M98
 have k2:(t.kind==2)=false:=by simp;omega
 have k3:(t.kind==3)=false:=by simp;omega
 have HP:=Z ((jQ4 h2).symm.trans HP.1);clear h2;by_cases h5:t.kind=5
 ·have k5:(t.kind==5)=true:=by simp[h5]
  have hp:=HP.1;rw[jQ7 h5]at hp;clear h5;have HP:=Z hp;clear hp;have Wj:t.elems.length<=9223372036854775807:=by
   rcases aN.1 HS.1 with⟨he,_⟩|⟨_,b2,o2,c2,dN,fh,fL,du,gX⟩
   ·rw[he];simp
   ·omega
  have hXA:=Z (HX.1.mv HA.1);have hSA:=Z (HS.1.mv HX.1.lo HA.1);obtain⟨c0,c1,c2,c3,c4,c5,c6⟩:=ao (aq (o:=.cells #[.int .i64 pd,.bool Gv,.bool pt] 49) (ak W (bx t a c)));obtain⟨d0,d1,d2⟩:=nQ (ak (W.alloc (bx t a c)) (.cells #[.int .i64 pd,.bool Gv,.bool pt] 49));simp only[jQ3]at d0 d1 d2;have iT:W.heap.size<((W.alloc (bx t a c)).alloc (.cells #[.int .i64 pd,.bool Gv,.bool pt] 49)).heap.size:=by simp;omega
  have mU:W.heap.size+1<((W.alloc (bx t a c)).alloc (.cells #[.int .i64 pd,.bool Gv,.bool pt] 49)).heap.size:=i6
  go_enter func33,ntmps33;go_wp2_with fail;generalize Hr:(W.alloc (bx t a c)).alloc (.cells #[.int .i64 pd,.bool Gv,.bool pt] 49)=wn at HA hXA hSA c0 c1 c2 c3 c4 c5 c6 d0 d1 d2 iT mU
  try rw[Hr]
  go_loopg [8,9,80] t.elems.length (λgg _ _ s80 wr=>∃kk:Nat,kk<=t.elems.length/\t.elems.length - kk<=gg/\s80=.int .i64 kk/\Aside (Below wn.heap.size wn wr)/\Aside ((t.elems.zipIdx.drop kk).any (λq=>!isName q.1.name||mD t.elems q.2 q.1)=t.elems.zipIdx.any (λq=>!isName q.1.name||mD t.elems q.2 q.1)))
  case atStart=>exact⟨0,jQc _,m9,rfl,jQ5 _ _,rfl⟩
  case round=>
   obtain⟨kk,ez,hg,rfl,BW,A⟩:=hrel;by_cases aM:kk<t.elems.length
   ·have aR:(kk:Int)<(t.elems.length:Int):=m9
    obtain⟨e,hm⟩:∃e,t.elems[kk]?=some e:=⟨t.elems[kk],by simp[aM]⟩;have bL:t.elems.zipIdx.drop kk=(e,kk)::t.elems.zipIdx.drop (kk+1):=by
     rw[jQv (by simpa using aM)];simp[jQp aM]at hm;simp[hm]
    have hA:=A.out;rw[bL,List.any_cons]at hA;rcases aN.1 hSA.1 with⟨he,_⟩|⟨_,b2,o2,xv,dN,fh,fL,du,gX⟩
    ·exact M102
    simp at dN;obtain⟨rfl,rfl⟩:=dN;have hE:=(gX.at hm).move (hXA.1.lo.aJ BW.out) du;obtain⟨sa,sc,f0,f1,f2,f3,f4,f5,f6,iL⟩:=hE.bR;have dZ:=BW.out.size;have zl:e∈t.elems:=jQ8 hm;have hcN:=fO e.name (wr.alloc (bx e sa sc)) (HE.1 e zl).name;have g6:=(BW.out.cell (p:=⟨W.heap.size,6,none⟩) iT).trans c6;have Ma:W.heap.size<wr.heap.size:=m9
    obtain⟨pT,EM⟩:=RS.upto (m:=(kk:Int)) (l':=t.elems.take kk) ((hSA.1.mv hXA.1.lo BW.out).mv (hXA.1.lo.mono dZ) (an wr (bx e sa sc))) (by unfold mq;rw[jQ7 ⟨m9,m9⟩];simp);have hlen:(t.elems.take kk).length=kk:=by simp;omega
    rw[hlen]at pT EM;have D8:=uW;clear hE gX iL bL hm hlen;cases dU:isName e.name with
    |false=>
     rw[dU]at hA hcN;have qc:t.elems.zipIdx.any (λq=>!isName q.1.name||mD t.elems q.2 q.1)=true:=by rw[<-hA];simp
     have h:=HP.1;rw[jQ7 qc]at h;have h:false=r:=by simpa using h
     subst h;clear dU hA qc;go_wp2_with (go_at_call 36;refine hcN.mono ?_;rintro e w1 ⟨rfl,rfl⟩);go_ret;exact⟨rfl,HA.1.trans ((BW.out.trans ((an wr _).mono dZ)).mono HA.1.size)⟩
    |true=>
     rw[dU]at hA hcN;have hcC:=cL (t.elems.take kk) _ (wr.alloc (bx e sa sc)) D EM ((hXA.1.lo.mono dZ).mono i6) 87 #[.pointer (some ⟨wr.heap.size,0,none⟩)] Tryz.call87 (λg=>some (aE g.name e.name)) (λW1 g v bb ar _ dr ke=>by
      have h:aE g.name e.name=bb:=by simpa using ke
      subst h;exact PY g e v W1 _ wr.heap.size dr (aj ar (ak wr _) i6)) _ (pJ _ _)
     cases mW:mD t.elems kk e with
     |true=>
      have Uf:((t.elems.take kk).any λg=>aE g.name e.name)=true:=mW;rw[Uf]at hcC;have qc:t.elems.zipIdx.any (λq=>!isName q.1.name||mD t.elems q.2 q.1)=true:=by rw[<-hA,mW];simp
      have h:=HP.1;rw[jQ7 qc]at h;have h:false=r:=by simpa using h
      subst h;clear dU hA qc mW Uf;go_wp2_with (first
       |(go_at_call 36;refine hcN.mono ?_;rintro e w1 ⟨rfl,rfl⟩)
       |(go_at_call 38;refine hcC.mono ?_;rintro e w9 ⟨rfl,zG⟩))
      go_ret;exact⟨rfl,HA.1.trans (((BW.out.trans ((an wr _).mono dZ)).trans (zG.mono (by simp;omega))).mono HA.1.size)⟩
     |false=>
      have Uf:((t.elems.take kk).any λg=>aE g.name e.name)=false:=mW;rw[Uf]at hcC;rw[mW]at hA;have KB:(t.elems.zipIdx.drop (kk+1)).any (λq=>!isName q.1.name||mD t.elems q.2 q.1)=t.elems.zipIdx.any (λq=>!isName q.1.name||mD t.elems q.2 q.1):=by simpa using hA
      have Wh:=Z KB;clear dU hA KB mW Uf A;go_wp2_with (first
       |(go_at_call 36;refine hcN.mono ?_;rintro e w1 ⟨rfl,rfl⟩)
       |(go_at_call 38;refine hcC.mono ?_;rintro e w9 ⟨rfl,zG⟩))
      go_roundg (t.elems.length - (kk+1))
      case measure=>omega
      case rel=>exact⟨kk+1,m9,m9,by go_num,(BW.out.trans ((an wr _).mono dZ)).trans (zG.mono (by simp;omega)),Wh.1⟩
   ·have aR:¬(kk:Int)<(t.elems.length:Int):=m9
    have hA:=A.out;rw[jQf (by simp;omega),List.any_nil]at hA;have h:=HP.1;rw[<-hA]at h;have h:allPlaced w k t.elems ⟨pd,Gv,pt⟩=some r:=by simpa using h
    have dZ:=BW.out.size;have g6:=(BW.out.cell (p:=⟨W.heap.size,6,none⟩) iT).trans c6;have g0:=(BW.out.cell (p:=⟨W.heap.size+1,0,none⟩) mU).trans d0;have g1:=(BW.out.cell (p:=⟨W.heap.size+1,1,none⟩) mU).trans d1;have g2:=(BW.out.cell (p:=⟨W.heap.size+1,2,none⟩) mU).trans d2;have ag:=Gf w _ t.elems ⟨pd,Gv,pt⟩ r _ wr D h HE.1 (hXA.1.mv BW.out) (hSA.1.mv hXA.1.lo BW.out);clear h hA A;go_wp2_with fail;refine ag.mono ?_;rintro e w1 ⟨rfl,ar⟩;have HB:=Z (HA.1.trans ((BW.out.trans (ar.mono dZ)).mono HA.1.size));clear ar ag;exact M33
 have:=HK.1;simp at k1 k14 Hw yr qd k2 k3;omega
section
variable{S:Sg}
def BQ(w:List ah)(S:Sg)(D:Nat->Prop)(obj:Nat->Nat)(rs:List Nat)(K:Nat)(E G:Nat->Prop)(r:Nat)(so:Option Nat)(W:World)(x:Bool)(e:Ending)(W':World):Prop:=
 e=.returned (.bool x)/\Ok w S D obj rs K E r W'/\bZ (λb=>so=some b) S rs r W W'/\(x=true->gp w K S false G W' so)
def A4(F:Fs)(x:Option Tm):Bool:=match x with|some x=>(match x.jg with|some a=>F.cmp a false|none=>true)|none=>false
theorem A3(F:Fs)(s:TS):lB F s=if isAllL s.terms then s.comp else if aK s.terms then false else s.terms.all (A4 F):=rfl
theorem gp.map(h:gp w K S d G W so)(hf:bZ Wc S rs r W w'):gp w K S d G w' so:=λb hb=>by
 obtain⟨es,ck,h1,h2⟩:=h b hb;exact⟨es,ck,hf.map (λh=>h) h1,h2⟩
@[go_sem ↓] theorem agz(w:World):(binOp .eql 73 (.pointer none) (.pointer none)).run prog w=.ok (.bool true) w:=g9
@[go_sem ↓] theorem aeT(b:Nat)(w:World):(binOp .eql 73 (ptr b) (.pointer none)).run prog w=.ok (.bool false) w:=g9
@[go_sem ↓] theorem agA(w:World):(binOp .neq 73 (.pointer none) (.pointer none)).run prog w=.ok (.bool false) w:=g9
@[go_sem ↓] theorem aeU(b:Nat)(w:World):(binOp .neq 73 (ptr b) (.pointer none)).run prog w=.ok (.bool true) w:=g9
theorem L8:Calls prog 124 #[.pointer none,ptr cb] W λe W'=>e=.returned (.bool false)/\Below W.heap.size W W':=by
 go_enter func124,ntmps124;go_wp2_with fail;have hS:=Z (show∀w',Below W.heap.size W w'->Below W.heap.size W w' from λ_ h=>h);refine jQ9 (S:=(λw'=>Below W.heap.size W w')) g9 (hS.1 _ (jQ5 _ _).drew) (λai=>?_);refine t2 0 1 ?_;refine tk 2 ?_;refine bg 3 ?_;refine bg 4 ?_;refine bg 5 ?_;refine bg 6 ?_;refine bg 7 ?_;refine bg 8 ?_;refine bg 9 ?_;refine t2 10 11 ?_;refine jQl g9 ?_ _;go_wp2_with fail;go_ret;exact⟨rfl,ai⟩
theorem Gq(hE:Env NS Q w rs cs)(hC:dE NS Q w S D obj rs K r)(bD:Ok w S D obj rs K E r W)(ht:TmV S W (some ⟨ti,some ty⟩) p)(fQ:jH NS Q w rs B ty)(hB:2*B<=r)(hG:∀q s,G q->S q=some s->B<=J rs true false s)(mw:gp w K S false G W so)(Rv:W.cell? ⟨cb,0,none⟩=some (.map so))(KU:S cb=none):
 Calls prog 124 #[p,ptr cb] W (BQ w S D obj rs K E G r so W ((fs w K).cmp ty false)):=by
 obtain⟨b1,v1,rfl,s1,d1,d2, -,y1⟩:=ht.open;obtain⟨T1,q1,rfl,qy⟩:=y1 ty rfl;have hbW:Below W.heap.size W W.drew:=(jQ5 _ _).drew;have hJ:=dM (rs:=rs) (v:=true) (f:=true) (v':=true) (f':=false) i6 i6 ty;have ag:=hC E G W.drew _ ty false so (bD.below hE.hs hbW) qy fQ.1 (fQ.ck hB) mw (λq s hq hs=>by have:=hG q s hq hs;have:=fQ.2.1;omega);have HO:=Z (bD.below hE.hs hbW);clear qy fQ hB hG mw hC y1 ht bD d1;obtain⟨hS,HF0,HMK⟩:=Z3 (show∀w',(Ok w S D obj rs K E r w'/\bZ (λb=>so=some b) S rs r W w')->(Ok w S D obj rs K E r w'/\bZ (λb=>so=some b) S rs r W w')/\w'.cell? ⟨b1,1,none⟩=some (.iface T1 (ptr q1))/\w'.cell? ⟨cb,0,none⟩=some (.map so)from λw' h=>⟨h,h.2.cell s1 d2,h.2.cell KU Rv⟩) (show bZ (λb=>so=some b) S rs r W W.drew from Below.fr hbW) (show∀w',Ok w S D obj rs K E r w'->bZ (λb=>so=some b) S rs r W w'->(Ok w S D obj rs K E r w'/\bZ (λb=>so=some b) S rs r W w')from λ_ h1 h2=>⟨h1,h2⟩);cases hr:(fs w K).cmp ty false with
 |true=>
  have HU:=Z (show∀u wA,((u=.pointer none/\(fs w K).cmp ty false=true/\gp w K S false G wA so)\/(∃b,u=ptr b/\(fs w K).cmp ty false=false))->u=.pointer none/\gp w K S false G wA so from λu wA hu=>by
   rcases hu with⟨h1,h2,h3⟩|⟨b,h1,h2⟩
   ·exact⟨h1,h3⟩
   ·rw[hr]at h2;cases h2)
  clear hr;go_enter func124,ntmps124;go_wp2_with fail;refine jQ9 (S:=(λw'=>(Ok w S D obj rs K E r w'/\bZ (λb=>so=some b) S rs r W w')/\w'.cell? ⟨b1,1,none⟩=some (.iface T1 (ptr q1))/\w'.cell? ⟨cb,0,none⟩=some (.map so))) g9 (hS.1 _ ⟨HO.1,HF0.1⟩) (λai=>?_);refine t4 0 1 2 3 ?_;refine t4 4 5 6 7 ?_;refine rd 8 rfl λK hK=>?_;go_simp;clear ai;refine ag.mono ?_;rintro eA wA ⟨u,rfl,hu,g1,g2⟩;obtain⟨rfl,yx⟩:=HU.1 _ _ hu;have Tl:=Z yx;have hh:=HMK.1 _ g1 (HF0.1.trans g2);refine hK.out _ _ (hS.1 _ hh) (λai=>?_);clear hu g1 g2 yx hh;clear hK K;refine t2 9 10 ?_;refine tk 11 ?_;refine jQl g9 ?_ _;have HH:=Z ai.1;clear ai;go_wp2_with fail;go_ret;exact⟨rfl,HH.1.1,HH.1.2,λ_=>Tl.1⟩
 |false=>
  have HU:=Z (show∀u wA,((u=.pointer none/\(fs w K).cmp ty false=true/\gp w K S false G wA so)\/(∃b,u=ptr b/\(fs w K).cmp ty false=false))->∃b,u=ptr b from λu wA hu=>by
   rcases hu with⟨h1,h2,h3⟩|⟨b,h1,h2⟩
   ·rw[hr]at h2;cases h2
   ·exact⟨b,h1⟩)
  clear hr;go_enter func124,ntmps124;go_wp2_with fail;refine jQ9 (S:=(λw'=>(Ok w S D obj rs K E r w'/\bZ (λb=>so=some b) S rs r W w')/\w'.cell? ⟨b1,1,none⟩=some (.iface T1 (ptr q1))/\w'.cell? ⟨cb,0,none⟩=some (.map so))) g9 (hS.1 _ ⟨HO.1,HF0.1⟩) (λai=>?_);refine t4 0 1 2 3 ?_;refine t4 4 5 6 7 ?_;refine rd 8 rfl λK hK=>?_;go_simp;clear ai;refine ag.mono ?_;rintro eA wA ⟨u,rfl,hu,g1,g2⟩;obtain⟨be,rfl⟩:=HU.1 _ _ hu;have hh:=HMK.1 _ g1 (HF0.1.trans g2);refine hK.out _ _ (hS.1 _ hh) (λai=>?_);clear hu g1 g2 hh;clear hK K;refine t2 9 10 ?_;refine tk 11 ?_;refine jQl g9 ?_ _;have HH:=Z ai.1;clear ai;go_wp2_with fail;go_ret;exact⟨rfl,HH.1.1,HH.1.2,λh=>by cases h⟩
end
end Go.Proofs.YtabjfnkfocnklaaGreatDoor
