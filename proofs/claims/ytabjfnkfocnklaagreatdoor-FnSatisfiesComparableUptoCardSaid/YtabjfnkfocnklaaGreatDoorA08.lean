import Derived.Ground.SlsfProg
import Derived.Lib.SliceRun
import Derived.Shelf.RegionOpenPlain
import Derived.Shelf.SlLaysF
import Derived.Shelf.SlSortCmp.NoneTotal
import Derived.Sort.OwnSorted
import Derived.Test.YtabjfnkfocnklaaGreatDoorA07
set_option linter.all false
set_option maxHeartbeats 16000000
set_option maxRecDepth 20000
namespace Go.Proofs.YtabjfnkfocnklaaGreatDoor
open Go Go.RowKit Go.Lib S P Tryz Go.Sort
variable{a:Act}{os:Array Obj}{ops:Array Oper}{aO eo σ:BS}{B:Bl}{nm s1 s2:ByteArray}{e2 s t:GT}{Q:GT->Prop}{acc xJ:List (Option Tm)}{NS:List ByteArray}{cs rs:List Nat}{ps xs ys:List Value}{w:List ah}{K N b b1 b2 base bs c c' c2 ck cm g i k mb md n o r size tb u:Nat}{obj:Nat->Nat}{D DI E X:Nat->Prop}{a' a2 am:Option Addr}{Y Z:Prop}{S:Sg}{e st t1:TypeId}{v v2 z:Value}{W W' W0 W1 W2 w' wr:World}
theorem jRr:type_of% @Array.getElem?_toList:=@Array.getElem?_toList
theorem M106(h:Y:=by
 clear h5;go_wp2_with fail;refine ag.mono ?_;rintro e w3 ⟨rfl,aZ⟩;have HD:=Z (HC.1.trans (aZ.mono HC.1.size));clear aZ;exact M195):Y:=h
theorem M107(h:Y:=by
 go_wp2_with fail;go_ret;exact⟨rfl,dP.1.alloc m9 _⟩):Y:=h
theorem M122(h:Y:=by
 have h1:d'.extract 0 l.length=d':=by rw[<-Al];simp
 have h2:d.toArray.extract 0 l.length=d.toArray:=by rw[<-Se];simp
 rw[h1,h2]at hp;simpa using hp):Y:=h
theorem M142(h:Y:=by
 go_wp2_with fail;refine ag.mono ?_;rintro e w3 ⟨rfl,aZ⟩;have HD:=Z (HB.1.trans (aZ.mono HB.1.size));clear aZ ag;exact M54):Y:=h
theorem M143(h:Y:=by
 go_wp2_with fail;refine ag.mono ?_;rintro e w6 ⟨rfl,gS⟩;have HD:=Z (xx.1.trans (gS.mono xx.1.size));clear gS ag;exact M54):Y:=h
theorem M144(h:Y:=by
 clear h;go_enter func211,ntmps211;go_wp2_with fail;go_ret;exact⟨rfl,0,_,by rw[alloc_eq_grow,alloc_eq_grow,grow_grow];rfl⟩):Y:=h
theorem M157(h:Y:=by
 rw[heap_grow_old _ _ (by simpa using hg)];simp[putRow,mapBlock,Sort.ahead,Array.getElem?_modify,hb,onCells]):Y:=h
theorem M158(h:Y:=by
 rw[heap_grow_old _ _ (by simpa using hk)];simp[putRow,mapBlock,Sort.ahead,Array.getElem?_modify,Ne.symm bk]):Y:=h
theorem M195(h:Y:=by
 go_wp2_with fail;go_ret;exact⟨i6,HD.1⟩):Y:=h
theorem M202(h:Y:=by
 have H2:=Z h2;clear h2 Dp I8;go_wp2_with fail;go_ret;exact⟨_,rfl,H2.1,B2.1⟩):Y:=h
theorem M203(h:Y:=by
 clear cG hv hs ar jz hblk hE hee Hp hk x1 HM;go_enter func28,ntmps28;exact M13):Y:=h
theorem M28(h:Y:=by
 go_wp2_with fail;refine ag.mono ?_;rintro e w1 ⟨rfl,ar⟩;have HB:=Z (HA.1.trans (ar.mono HA.1.size));clear ar ag;exact M84):Y:=h
theorem M6(h:Y:=by
 go_wp2_with fail;refine ag.mono ?_;rintro e w1 ⟨rfl,ar⟩;have HB:=Z (HA.1.trans (ar.mono HA.1.size));clear ar ag;exact M33):Y:=h
theorem M84(h:Y:=by
 go_wp2_with fail;go_ret;exact⟨i6,HB.1⟩):Y:=h
theorem M94(h:Y:=by
 apply List.ext_getElem?;intro j;by_cases hj:j<F.size
 ·rw[List.getElem?_take_of_lt hj,jRr];simp[putCells,hj,show j<cur.size by omega]
 ·rw[List.getElem?_take_eq_none m9,jQx (by simp;omega)]):Y:=h
section
variable{e:GT}
theorem ab3(h:PT NS Q w md t)(hk:t.kind=1):0<=t.n/\t.n<18:=by
 cases h with
 |basic a b=>exact⟨a,b⟩
 |uni a=>simp only[GT.kind]at hk;omega
 |named a b c=>simp[GT.kind]at hk
 |al a b h1=>simp only[GT.kind]at hk;omega
 |st a b h1=>simp[GT.kind]at hk
 |ifc a b c d e g h1 h2 q=>simp[GT.kind]at hk
 |one a b c h1=>simp only[GT.kind]at hk;omega
 |mp h1 h2=>simp[GT.kind]at hk
 |fn a b c h1=>simp[GT.kind]at hk
 |ti a h1=>simp[GT.kind]at hk
 |un a b c h1=>simp[GT.kind]at hk
theorem ahR{inf:Int}(h:Md NS Q w K B DI eo W0 n σ W)(hk:t.kind=1)(hb:W0.heap.size<=b)(hl:Loc B DI σ b)(hc:W.heap[b]?=some (.cells #[.int .i64 (1+t.n),.int .i64 inf,.string nm] 159 (0,0))):
 dC NS Q w K B DI eo W0 n (λu aO _=>dq aO.S u t) (.returned (.iface 87 (ptr b))) W:=by
 obtain⟨k1,k2,k3,k4,k5⟩:=fa (t:=t) m9 m9 m9 m9;refine⟨_,_,rfl,h.add (s:=aG t) hl hb hc (λhi=>by unfold cI at hi;omega) ⟨λ_=>⟨inf,nm,by rw[k2,Int.add_comm];exact hc⟩,m9,m9,m9,m9,m9,m9,m9,m9,m9,m9⟩ (λhi=>?_),⟨_,by rw[hk];rfl,fH _ _ _⟩⟩;exact M161
theorem P8(hk:t.kind=1)(hp:PT NS Q w 2 t)(cG:Bs NS Q w K B DI σ W)(hv:RT DI W t v):
 Calls prog 28 #[ptr B.bb,v] W (dC NS Q w K B DI σ W (nds t) λu aO _=>dq aO.S u t):=by
 obtain⟨a0,c,rfl,hs⟩:=hv.bR;obtain⟨h0,h18⟩:=ab3 hp hk;have ar:=an W (bx t a0 c);have jz:=ak W (bx t a0 c);have HM:=Z ((Md.start cG).below ar);have ag:=Ee (t.n.toNat+1) m9 m9 (W.alloc (bx t a0 c));rw[show((t.n.toNat+1:Nat):Int)=1+t.n by omega]at ag;obtain⟨x0,x1, -, -, -, -, -⟩:=ao jz;have hw:wrap64 (1+t.n)=1+t.n:=by unfold wrap64;omega
 have k1:(t.kind==1)=true:=by simp[hk]
 have HK:=Z hk;have uL:=Z cG;clear hk hp cG hv hs ar jz;go_enter func28,ntmps28;go_wp2_with fail;refine ag.mono ?_;rintro e' w' ⟨b,info,nm,rfl,yW,j6,Ww⟩;have Of:=HM.1.below j6;have mY:=HM.1.bs.loc yW;have HP:=Z (ahR (Of.more (m:=nds t) m9) HK.1 (by have:=HM.1.gr.size;omega) mY Ww);clear ag j6 Ww Of mY yW;exact M13
theorem afc(h:PT NS Q w md t)(hk:t.kind=11):0<=t.n/\t.n<w.length:=by
 cases h with
 |basic a b=>simp[GT.kind]at hk
 |uni a=>simp only[GT.kind]at hk;omega
 |named a b c=>exact⟨a,b⟩
 |al a b h1=>simp only[GT.kind]at hk;omega
 |st a b h1=>simp[GT.kind]at hk
 |ifc a b c d e g h1 h2 q=>simp[GT.kind]at hk
 |one a b c h1=>simp only[GT.kind]at hk;omega
 |mp h1 h2=>simp[GT.kind]at hk
 |fn a b c h1=>simp[GT.kind]at hk
 |ti a h1=>simp[GT.kind]at hk
 |un a b c h1=>simp[GT.kind]at hk
theorem Uo(hk:t.kind=11)(h0:0<=t.n):aG t=r9 t.n.toNat:=by
 obtain⟨k,n,m,va,nm,tg,l⟩:=t;simp only[GT.kind]at hk;simp only[GT.n]at h0⊢;subst hk;have:aG (.mk 11 n m va nm tg l)=.mk 11 n 0 false es es []:=by unfold aG mC jt;simp[GT.kind,GT.n]
 rw[this];unfold r9;rw[Int.toNat_of_nonneg h0]
theorem ab4(hk:t.kind=15):aG t=aG oA:=by
 obtain⟨k,n,m,va,nm,tg,l⟩:=t;simp only[GT.kind]at hk;subst hk;exact M159
theorem ab5(hk:t.kind=16):aG t=aG sE:=by
 obtain⟨k,n,m,va,nm,tg,l⟩:=t;simp only[GT.kind]at hk;subst hk;exact M160
theorem P9(hk:t.kind=11)(hp:PT NS Q w 2 t)(cG:Bs NS Q w K B DI σ W)(hv:RT DI W t v):
 Calls prog 28 #[ptr B.bb,v] W (dC NS Q w K B DI σ W (nds t) λu aO _=>dq aO.S u t):=by
 obtain⟨a0,c,rfl,hs⟩:=hv.bR;have ar:=an W (bx t a0 c);have jz:=ak W (bx t a0 c);have HM:=Z ((Md.start cG).below ar);obtain⟨x0,x1, -, -, -, -, -⟩:=ao jz;have k1:(t.kind==1)=false:=by simp[hk]
 have k2:(t.kind==2)=false:=by simp[hk]
 have k3:(t.kind==3)=false:=by simp[hk]
 have k4:(t.kind==4)=false:=by simp[hk]
 have k6:(t.kind==6)=false:=by simp[hk]
 have k8:(t.kind==8)=false:=by simp[hk]
 have k9:(t.kind==9)=false:=by simp[hk]
 have k5:(t.kind==5)=false:=by simp[hk]
 have k7:(t.kind==7)=false:=by simp[hk]
 obtain⟨h0,h18⟩:=afc hp hk;obtain⟨d,hd⟩:∃d,B.ds[t.n.toNat]?=some d:=by
  have:=cG.dl;exact⟨B.ds[t.n.toNat]' m9,by simp[show t.n.toNat<B.ds.length by omega]⟩
 have hS:=cG.rn _ _ hd;have rG:=Z (HM.1.below (jQ5 _ _).drew);have kX:=rG.1.bs.row;obtain⟨ra,rc,eD⟩:=kX.form;rw[eD,jR7]at kX;obtain⟨db,DK,rfl, -,SO⟩:=kX.nth (p:=ptr d) (by rw[List.getElem?_map,hd];rfl);have hblk:=rG.1.bs.jl;rw[eD,jR7]at hblk;have dt:(W.alloc (bx t a0 c)).drew.cell? ⟨W.heap.size,1,none⟩=some (.int .i64 t.n):=x1;have iT:(W.alloc (bx t a0 c)).drew.cell? ⟨B.bb,1,none⟩=some (.slice (some ⟨db,DK,none⟩) B.ds.length rc):=by simp[World.cell?,hblk]
 have gV:=Z (And.intro dt (And.intro iT SO));have qd:(t.kind==11)=true:=by simp[hk]
 have aM:t.n<(B.ds.length:Int):=by rw[cG.dl];exact h18
 have ee:¬t.n<0:=m9
 have HP:=Z (show dC NS Q w K B DI σ W (nds t) (λu aO _=>dq aO.S u t) (.returned (.iface 53 (ptr d))) _ from⟨_,σ,rfl,rG.1.more m9,d,by rw[hk];rfl,by rw[Uo hk h0];exact hS⟩);clear hp cG hv hs ar jz hd hS kX eD hblk dt iT SO hk x1 HM rG h18;go_enter func28,ntmps28;go_wp2_with fail;refine jQ9 (S:=(λw'=>w'.cell? ⟨W.heap.size,1,none⟩=some (.int .i64 t.n)/\w'.cell? ⟨B.bb,1,none⟩=some (.slice (some ⟨db,DK,none⟩) B.ds.length rc)/\w'.cell? ⟨db,DK+t.n.toNat,none⟩=some (ptr d))) g9 (gV.1) (λai=>?_);refine t4 0 1 2 3 ?_;refine t4 4 5 6 7 ?_;refine t2 8 9 ?_;refine jQl g9 ?_ _;clear ai;exact M13
theorem YQ(hk:t.kind=15)(cG:Bs NS Q w K B DI σ W)(hv:RT DI W t v):
 Calls prog 28 #[ptr B.bb,v] W (dC NS Q w K B DI σ W (nds t) λu aO _=>dq aO.S u t):=by
 obtain⟨a0,c,rfl,hs⟩:=hv.bR;have ar:=an W (bx t a0 c);have jz:=ak W (bx t a0 c);have HM:=Z ((Md.start cG).below ar);obtain⟨x0,x1, -, -, -, -, -⟩:=ao jz;have k1:(t.kind==1)=false:=by simp[hk]
 have k2:(t.kind==2)=false:=by simp[hk]
 have k3:(t.kind==3)=false:=by simp[hk]
 have k4:(t.kind==4)=false:=by simp[hk]
 have k6:(t.kind==6)=false:=by simp[hk]
 have k8:(t.kind==8)=false:=by simp[hk]
 have k9:(t.kind==9)=false:=by simp[hk]
 have k5:(t.kind==5)=false:=by simp[hk]
 have k7:(t.kind==7)=false:=by simp[hk]
 have hblk:=HM.1.bs.jl;have hE:=cG.ev;obtain⟨eb,hee,Hp⟩:=id hE;rw[hee]at hblk;have iT:(W.alloc (bx t a0 c)).cell? ⟨B.bb,2,none⟩=some (.iface 53 (ptr eb)):=by simp[World.cell?,hblk];rfl
 have qd:(t.kind==11)=false:=by simp[hk]
 have tT:(t.kind==12)=false:=by simp[hk]
 have ll:(t.kind==13)=false:=by simp[hk]
 have Hw:(t.kind==15)=true:=by simp[hk]
 have yr:(t.kind==16)=!true:=by simp[hk]
 have HP:=Z (show dC NS Q w K B DI σ W (nds t) (λu aO _=>dq aO.S u t) (.returned (.iface 53 (ptr eb))) _ from⟨_,σ,rfl,HM.1.more m9,eb,by rw[hk];rfl,by rw[ab4 hk];exact Hp⟩);exact M203
theorem YR(hk:t.kind=16)(cG:Bs NS Q w K B DI σ W)(hv:RT DI W t v):
 Calls prog 28 #[ptr B.bb,v] W (dC NS Q w K B DI σ W (nds t) λu aO _=>dq aO.S u t):=by
 obtain⟨a0,c,rfl,hs⟩:=hv.bR;have ar:=an W (bx t a0 c);have jz:=ak W (bx t a0 c);have HM:=Z ((Md.start cG).below ar);obtain⟨x0,x1, -, -, -, -, -⟩:=ao jz;have k1:(t.kind==1)=false:=by simp[hk]
 have k2:(t.kind==2)=false:=by simp[hk]
 have k3:(t.kind==3)=false:=by simp[hk]
 have k4:(t.kind==4)=false:=by simp[hk]
 have k6:(t.kind==6)=false:=by simp[hk]
 have k8:(t.kind==8)=false:=by simp[hk]
 have k9:(t.kind==9)=false:=by simp[hk]
 have k5:(t.kind==5)=false:=by simp[hk]
 have k7:(t.kind==7)=false:=by simp[hk]
 have hblk:=HM.1.bs.jl;have hE:=cG.cv;obtain⟨eb,hee,Hp⟩:=id hE;rw[hee]at hblk;have iT:(W.alloc (bx t a0 c)).cell? ⟨B.bb,3,none⟩=some (.iface 53 (ptr eb)):=by simp[World.cell?,hblk];rfl
 have qd:(t.kind==11)=false:=by simp[hk]
 have tT:(t.kind==12)=false:=by simp[hk]
 have ll:(t.kind==13)=false:=by simp[hk]
 have Hw:(t.kind==15)=false:=by simp[hk]
 have yr:(t.kind==16)=!false:=by simp[hk]
 have HP:=Z (show dC NS Q w K B DI σ W (nds t) (λu aO _=>dq aO.S u t) (.returned (.iface 53 (ptr eb))) _ from⟨_,σ,rfl,HM.1.more m9,eb,by rw[hk];rfl,by rw[ab5 hk];exact Hp⟩);exact M203
end
theorem U3:(Tryz.prog.info? 95).map (λi=>(i.zero,i.size,i.bytes))=some (some (.pointer none),1,8):=g9
theorem KT:(Tryz.prog.info? 84).map (λi=>(i.zero,i.size,i.bytes))=some (some (.pointer none),1,8):=g9
theorem acK:(Tryz.prog.info? 33).map (λi=>(i.zero,i.size,i.bytes))=some (some (.pointer none),1,8):=g9
theorem G0:(Tryz.prog.info? 53).map (λi=>(i.zero,i.size,i.bytes))=some (some (.pointer none),1,8):=g9
theorem He:(Tryz.prog.info? 209).map (λi=>(i.zero,i.size,i.bytes))=some (some (.pointer none),1,8):=g9
theorem Zt:(Tryz.prog.info? 37).map (λi=>(i.zero,i.size,i.bytes))=some (some .nilIface,1,16):=g9
theorem abM:(Tryz.prog.info? 9).map (λi=>(i.zero,i.size,i.bytes))=some (some (.string es),1,16):=g9
theorem lU{o:Oper}{w:World}{K:Act->World->Prop}{Q:Exit->Act->World->Prop}(cH:Tryz.prog.underlying st=some (.slice e))(hi:(Tryz.prog.info? e).map (λi=>(i.zero,i.size,i.bytes))=some (some z,1,bs))(hz:z.cells.size=1)(cG:0<bs/\bs<=16)(mX:o.guard=none)(s x:Operand)(ho:o.op=.call {callee:=.builtin .append,args:=#[s,x],argTypes:=#[st,st]})(base:Nat)(v:Value)(xs:List Value)(hs:a.eval s=v)(aL:w.ownsRow base e 1 v xs.length xs)(u:Value)(hu:u.oneCell'=true)(ad:Addr)(c:Nat)(hx:a.eval x=.slice (some ad) 1 c)(hc:∀j u',([u]:List Value)[j]?=some u'->w.cell? (ad.add j)=some u')(cF:xs.length+1<=1099511627776)(cS:base<=w.heap.size)(h:∀v' w',w'.ownsRow base e 1 v' (xs++[u]).length (xs++[u])->w.grownBy w' v.ownBlock->(v'.ownBlock=v.ownBlock\/v'.ownBlock=some w.heap.size)->K (a.put o.dst v') w'):
 if Region.wanted o (yielded ops a.tmps)=true then Oper.wp prog o a w K Q else Z:=by
 have hw:Region.wanted o (yielded ops a.tmps)=true:=by simp[Region.wanted,mX]
 rw[jQ7 hw];obtain⟨i0,pn,lA,gj,j7⟩:=info_parts hi;obtain⟨v',w',hr,h1,h2,_,h4⟩:=run_append_own_at (P:=prog) w base st o.type e i0 _ 1 bs cH pn lA gj j7 hz m9 v xs.length xs aL ad 1 c [u] rfl hc (by intro y hy;simp at hy;subst hy;exact hu)
  (by simp only[maxLen];omega) (by have:=Nat.mul_le_mul_right bs (show xs.length+1<=1099511627776 from cF);omega) cS
 unfold Oper.wp execOp;simp only[ho,resolve,invoke,builtin,jRp,Sem.run_pure,jR8,List.map_toArray,List.map_cons,List.map_nil,hs,hx,hr];exact h v' w' (by rw[jQo];exact h1) h2 h4
theorem gH{rest:List Oper}{o:Oper}{w:World}{Q:Exit->Act->World->Prop}(cH:Tryz.prog.underlying st=some (.slice e))(hi:(Tryz.prog.info? e).map (λi=>(i.zero,i.size,i.bytes))=some (some z,1,bs))(hz:z.cells.size=1)(cG:0<bs/\bs<=16)(mX:o.guard=none)(s x:Operand)(ho:o.op=.call {callee:=.builtin .append,args:=#[s,x],argTypes:=#[st,st]})(base:Nat)(v:Value)(xs:List Value)(hs:a.eval s=v)(aL:w.ownsRow base e 1 v xs.length xs)(u:Value)(hu:u.oneCell'=true)(ad:Addr)(c:Nat)(hx:a.eval x=.slice (some ad) 1 c)(hc:∀j u',([u]:List Value)[j]?=some u'->w.cell? (ad.add j)=some u')(cF:xs.length+1<=1099511627776)(cS:base<=w.heap.size)(h:∀v' w',w'.ownsRow base e 1 v' (xs++[u]).length (xs++[u])->w.grownBy w' v.ownBlock->(v'.ownBlock=v.ownBlock\/v'.ownBlock=some w.heap.size)->wpList prog ops Q rest (a.put o.dst v') w'):wpList prog ops Q (o::rest) a w:=by
 obtain⟨i0,pn,lA,gj,j7⟩:=info_parts hi;refine wpList_append_own_at w mX s x st ho base e i0 _ 1 bs cH pn lA gj j7 hz m9 v xs.length xs hs aL ad 1 c [u] hx rfl hc (by intro y hy;simp at hy;subst hy;exact hu)
  (by simp only[maxLen];omega) (by have:=Nat.mul_le_mul_right bs (show xs.length+1<=1099511627776 from cF);omega) cS λv' w' k1 k2 _ k4=>?_
 exact h v' w' (by rw[jQo];exact k1) k2 k4
structure dK(B:Bl)(DI:Nat->Prop)(σ:BS)(base:Nat)(W:World)(e:TypeId)(xs:List Value)(v:Value):Prop where
 own:W.ownsRow base e 1 v xs.length xs
 loc:∀g,v.ownBlock=some g->Loc B DI σ g
section
variable{e2:TypeId}
theorem aC(h:W.ownsRow base e size v k xs):∀g,v.ownBlock=some g->base<=g/\g<W.heap.size/\∃cur,W.heap[g]?=some (.cells cur e (0,0)):=by
 intro g hg;rcases h.2 with⟨rfl,_⟩|⟨g',cap,cur,rfl,k1,k2,k3⟩
 ·simp[Value.ownBlock]at hg
 ·simp[Value.ownBlock]at hg;subst hg;exact⟨k1,jQ2 k2,cur,k2⟩
theorem cD(h:W.ownsRow base e size v k xs)(hb:∀g,v.ownBlock=some g->W'.heap[g]?=W.heap[g]?):W'.ownsRow base e size v k xs:=
 ⟨h.1,h.2.imp id λ⟨g,cap,cur,e,k1,k2,k3⟩=>⟨g,cap,cur,e,k1,(hb g (by rw[e];simp[Value.ownBlock])).trans k2,k3⟩⟩
theorem dK.nil:dK B DI σ base W e [] (.slice none 0 0):=⟨jR9 _ _ _ _,λg hg=>by simp[Value.ownBlock]at hg⟩
theorem dK.gr(h:dK B DI σ base W e xs v)(hg:Gr B σ aO W W'):dK B DI aO base W' e xs v:=
 ⟨cD h.own λg hb=>(h.loc g hb).same (aC h.own g hb).2.1 hg,λg hb=>(h.loc g hb).gr (aC h.own g hb).2.1 hg⟩
theorem dK.cR(h:dK B DI σ base W e xs v)(hb:∀g,v.ownBlock=some g->W'.heap[g]?=W.heap[g]?):dK B DI σ base W' e xs v:=⟨cD h.own hb,h.loc⟩
theorem dK.form(h:dK B DI σ base W e xs v):∃a c,v=.slice a xs.length c/\(a=none->c=0):=by
 rcases h.own.2 with⟨rfl,h0⟩|⟨g',cap,cur,rfl,k1,k2,k3⟩
 ·exact⟨none,0,by rw[h0],λ_=>rfl⟩
 ·exact⟨_,_,rfl,λh=>by cases h⟩
theorem dK.row(h:dK B DI σ base W e xs v)(hD:∀g,v.ownBlock=some g->D g):eE D W xs v:=by
 have hl:=h.own.1;rw[Nat.mul_one]at hl;rcases h.own.2 with⟨rfl,h0⟩|⟨g,cap,cur,rfl,hb,hg,hn,hm,hc,ht⟩
 ·exact M170
 ·by_cases hx:xs=[]
  ·subst hx;exact M110
  ·refine .inr ⟨hx,g,0,cap,rfl,m9,by simp only[maxLen]at hm;omega,hD g rfl,λj u hu=>?_⟩;have:=h.own.cells (g:=g) rfl j u hu;exact M192
theorem Md.grown(h:Md NS Q w K B DI eo W0 n σ W)(hr:dK B DI σ W0.heap.size W e xs v)(hg:W.grownBy W' v.ownBlock)(aL:W'.ownsRow W0.heap.size e 1 v2 ys.length ys)(hv:v2.ownBlock=v.ownBlock\/v2.ownBlock=some W.heap.size):Md NS Q w K B DI eo W0 n σ W'/\dK B DI σ W0.heap.size W' e ys v2:=by
 refine⟨h.step hg.os hg.tape hg.output hg.size λb hb hn=>hg.block b hb λe=>hn ?_,aL,λg Qd=>?_⟩
 ·exact⟨hr.loc b e.symm,(aC hr.own b e.symm).1⟩
 ·obtain hv|hv:=hv
  ·exact hr.loc g (by rw[<-hv];exact Qd)
  ·rw[hv]at Qd;cases Qd;exact h.bs.loc (jQ0 _)
theorem dK.other(h:dK B DI σ base W e2 ys v2)(hr:dK B DI σ base W e xs v)(hg:W.grownBy W' v.ownBlock)(bk:e2≠e):dK B DI σ base W' e2 ys v2:=by
 refine h.cR λg hb=>hg.block g (aC h.own g hb).2.1 λe'=>?_;obtain⟨_,_,cur,h1⟩:=aC h.own g hb;obtain⟨_,_,adF,h2⟩:=aC hr.own g e'.symm;rw[h1]at h2;cases h2;exact bk rfl
end
def pD(k:Nat):Prop:=∀(w:List ah) (ws:Value) (x y:GT) (r:Bool) (vx vy:Value) (W:World) (D:Nat->Prop),ident k w x y=some r->Cx D w ws W->RT D W x vx->RT D W y vy->
 Calls prog 207 #[ws,vx,vy] W (ef W r)
theorem mkf:∀(fn:Fn) (first cap:Array Value) (w:World),(Instr.makeFunc fn first cap).run prog w=.ok (.func fn first cap) w:=λ_ _ _ _=>rfl
theorem YB(k:Nat)(ih:pD k)(w:List ah)(ws:Value)(m f:GT)(r:Bool)(v:Value)(W:World)(D:Nat->Prop)(Bm Bw:Nat)(hp:(if f.name=m.name then ident k w f m else some false)=some r)(hx:Cx D w ws W)(hv:RT D W f v)(hm:RS D W m.elems (.slice am m.elems.length cm))(Ez:W.heap[Bm]?=some (bx m am cm))(lR:W.cell? ⟨Bw,0,none⟩=some ws):
 Calls prog 213 #[v,.pointer (some ⟨Bm,0,none⟩),.pointer (some ⟨Bw,0,none⟩)] W (ef W r):=by
 have Dm:=jQs lR;have X4:=jQ2 Ez;simp only at Dm;obtain⟨c0,c1,c2,c3,c4,c5,c6⟩:=ao Ez;obtain⟨a,c,rfl,hs⟩:=hv.bR;obtain⟨wa,wc,rfl⟩:=hx.rd.form;have HA:=Z (an W (bx f a c));by_cases hn:f.name=m.name
 ·rw[jQ7 hn]at hp;have dt:=hx.mv HA.1;have ag:=ih w _ f m r _ _ _ D hp dt (hv.mv hx.lo HA.1) ((RT.mk' hm).mv hx.lo HA.1);have iK:=gB hn;clear hp dt hx hv hm hs Ez hn;go_enter func213,ntmps213;exact M6
 ·rw[jQ4 hn]at hp;have h:false=r:=by simpa using hp
  subst h;have iK:=jX hn;clear hp hx hv hm hs Ez hn;go_enter func213,ntmps213;exact M34
theorem gm{α β:Type}{f:Nat->α->Option (Option β)}{a:α}{l:List α}{r:Option β}(h:rangeM f i (a::l)=some r):
 (∃b,f i a=some (some b)/\r=some b)\/(f i a=some none/\rangeM f (i+1) l=some r):=by
 rw[rangeM]at h;obtain⟨x,h1,h2⟩:=jQ1.1 h;cases x with
 |none=>exact .inr ⟨h1,h2⟩
 |some b=>exact .inl ⟨b,h1,by simpa using h2.symm⟩
theorem pz(k:Nat)(ih:pD k)(w:List ah)(ws:Value)(l want:List GT)(r:Bool)(sl sw:Value)(W:World)(D:Nat->Prop)(hp:hasAll (ident k w) l want=some r)(hx:Cx D w ws W)(hl:RS D W l sl)(hw:RS D W want sw):
 Calls prog 176 #[ws,sl,sw] W (ef W r):=by
 obtain⟨wa,wc,rfl⟩:=hx.rd.form;obtain⟨la,lc,rfl⟩:=hl.form;obtain⟨res,hr,bo⟩:=jQ6.1 hp;have HA:=Z (an W (.cells #[.slice wa w.length wc] 22));have aM:W.heap.size<(W.alloc (.cells #[.slice wa w.length wc] 22)).heap.size:=i6
 have kq:=jQh (ak W (.cells #[.slice wa w.length wc] 22));generalize Lw:W.alloc (.cells #[.slice wa w.length wc] 22)=W1 at HA kq aM;have dt:=hx.mv HA.1;have dQ:=hl.mv hx.lo HA.1;have Lc:=hw.mv hx.lo HA.1;rcases aN.1 Lc with⟨rfl,a,c,rfl,ha⟩|⟨bk,b,o,c,rfl,Jd,hc,kN,hC⟩
 ·have h:none=res:=by simpa[rangeM]using hr
  subst h;have h:true=r:=by simpa using bo
  subst h;have HH:=Z Lw;clear hr bo hp hx hl hw dt dQ Lc Lw kq;go_enter func176,ntmps176
  go_wp2
  go_loopg [11] 0 (λgg s11 wr=>s11=.int .i64 0/\Aside (Below W.heap.size W wr))
  case atStart=>exact⟨rfl,an _ _⟩
  case round=>
   obtain⟨rfl,BW⟩:=hrel
   go_wp2
   go_ret;exact⟨rfl,BW.out⟩
 ·have hz:want.length<=9223372036854775807:=m9
  have hbW:=dt.lo b kN;have D8:=mkf;obtain⟨HX,HL,HC,HR,bM⟩:=Z5 dt dQ hC hr bo;clear hp hx hl hw dt dQ Lc hC hr bo;go_enter func176,ntmps176
  go_wp2
  have HW:=Z Lw;clear Lw
  go_loopg [11] want.length (λgg s11 wr=>∃kk:Nat,kk<=want.length/\want.length - kk<=gg/\s11=.int .i64 kk/\Aside (Below W1.heap.size W1 wr)/\Aside (rangeM (λ_ m=>(bh (anyM (λf=>if f.name=m.name then ident k w f m else some false) l)).map λb=>if b then some false else none) kk (want.drop kk)=some res))
  case atStart=>exact⟨0,jQc _,m9,rfl,jQ5 _ _,by simpa[Aside]using HR.1⟩
  case round=>
   obtain⟨kk,ez,hg,rfl,BW,A⟩:=hrel;by_cases aM:kk<want.length
   ·have aR:(kk:Int)<(want.length:Int):=m9
    obtain⟨t,ht⟩:∃t,want[kk]?=some t:=⟨want[kk],by simp[aM]⟩;have hE:=(HC.1.at ht).move (HX.1.lo.aJ BW.out) kN;obtain⟨ta,tc,c0,c1,c2,c3,c4,c5,c6,hv⟩:=hE.bR;have bL:want.drop kk=t::want.drop (kk+1):=M189
    have hA:=A.out;rw[bL]at hA;have Ro:=BW.out.size;have hwb:W.heap.size<wr.heap.size:=m9
    have FO:b<wr.heap.size:=m9
    have HB:=Z (BW.out.alloc Ro (bx t ta tc));have abN:(wr.alloc (bx t ta tc)).cell? ⟨W.heap.size,0,none⟩=some (.slice wa w.length wc):=by
     rw[World.cell?_alloc_past _ _ _ hwb];exact(BW.out.cell (p:=⟨W.heap.size,0,none⟩) (by assumption)).trans kq
    have Oc:=λ(bb:Bool) (mO:anyM (λf=>if f.name=t.name then ident k w f t else some false) l=some bb)=>
     cL l _ _ D (HL.1.mv HX.1.lo HB.1) (HX.1.mv HB.1).lo 213 #[.pointer (some ⟨wr.heap.size,0,none⟩),.pointer (some ⟨W.heap.size,0,none⟩)] Tryz.call213 _
      (λW2 e v b2 cX _ fx fJ=>by
       have qm:=(HX.1.mv HB.1).mv cX;have sC:=((hv.mv (HX.1.mv BW.out).lo (an wr (bx t ta tc))).mv (HX.1.mv HB.1).lo cX).bR;obtain⟨a3,c3,e3,eY⟩:=sC;simp at e3;obtain⟨rfl,rfl⟩:=e3;exact YB k ih w _ t e b2 v W2 D wr.heap.size W.heap.size fJ qm fx eY (aj cX (ak wr _) i6) ((cX.cell (p:=⟨W.heap.size,0,none⟩) (by simp;omega)).trans abN)) bb mO
    rcases gm hA with⟨bb,h1,h2⟩|⟨h1,h2⟩
    ·obtain⟨x,dt,dF⟩:=jQ6.1 h1;cases x with
     |false=>simp at dF
     |true=>
      have h:false=bb:=by simpa using dF
      subst h;subst h2;have ag:=Oc false (by have:=aX dt;simpa using this);have h:false=r:=by simpa using bM.1
      subst h;clear Oc h1 dt hA hv hE ht dF abN;go_wp2_with fail;refine ag.mono ?_;rintro e w2 ⟨rfl,cX⟩;have dP:=Z (HB.1.trans (cX.mono HB.1.size));clear cX ag;go_wp2_with fail;go_ret;exact⟨rfl,HA.1.trans (dP.1.mono HA.1.size)⟩
    ·obtain⟨x,dt,dF⟩:=jQ6.1 h1;cases x with
     |true=>simp at dF
     |false=>
      have ag:=Oc true (by have:=aX dt;simpa using this);have H2:=Z h2;clear Oc h1 dt hA hv hE ht dF abN h2;go_wp2_with fail;refine ag.mono ?_;rintro e w2 ⟨rfl,cX⟩;have dP:=Z (HB.1.trans (cX.mono HB.1.size));clear cX ag;go_wp2_with fail;go_roundg (want.length - (kk+1))
      case measure=>omega
      case rel=>exact⟨kk+1,m9,m9,by go_num,dP.1,H2.1⟩
   ·have aR:¬(kk:Int)<(want.length:Int):=m9
    have hA:=A.out;rw[jQf m9]at hA;have h:none=res:=by simpa[rangeM]using hA
    subst h;have h:true=r:=by simpa using bM.1
    subst h;clear hA
    go_wp2
    go_ret;exact⟨rfl,HA.1.trans (BW.out.mono HA.1.size)⟩
def Ny(k:Nat):Prop:=∀(w:List ah) (ws:Value) (t:GT) (st r:Bool) (v:Value) (W:World) (D:Nat->Prop),compared w k t st=some r->Cx D w ws W->RT D W t v->
 Calls prog 271 #[ws,v,.bool st] W (ef W r)
theorem Ps(k:Nat)(ih:Ny k)(w:List ah)(ws:Value)(t:GT)(st r:Bool)(v:Value)(W:World)(D:Nat->Prop)(Bw Bs:Nat)(hp:bh (compared w k t st)=some r)(hx:Cx D w ws W)(hv:RT D W t v)(lR:W.cell? ⟨Bw,0,none⟩=some ws)(hBs:W.cell? ⟨Bs,0,none⟩=some (.bool st)):
 Calls prog 272 #[v,.pointer (some ⟨Bw,0,none⟩),.pointer (some ⟨Bs,0,none⟩)] W (ef W r):=by
 have Dm:=jQs lR;have ag5:=jQs hBs;simp only at Dm ag5;obtain⟨a,c,rfl,hs⟩:=hv.bR;obtain⟨wa,wc,rfl⟩:=hx.rd.form;have HA:=Z (an W (bx t a c));have dt:=hx.mv HA.1;have ag:=ih w _ t st _ _ _ D (aX hp) dt (hv.mv hx.lo HA.1);clear hp dt hx hv hs;go_enter func272,ntmps272;exact M28
theorem AW(k:Nat):Ny k:=by
 induction k with
 |zero=>intro w ws t st r v W D h;simp[compared]at h
 |succ k ih=>
  intro w ws t st r v W D hp hx hv;obtain⟨i,hi,hp⟩:=jQ1.1 hp;obtain⟨a,c,rfl,hs⟩:=hv.bR;obtain⟨wa,wc,rfl⟩:=hx.rd.form;have HA:=Z (pE W (.cells #[.slice wa w.length wc] 22) (bx t a c) (.cells #[.bool st] 4));have dt:=hx.mv HA.1;have dr:=hv.mv hx.lo HA.1;have ag:=dh w _ t i _ _ D hi dt.lo dt.rd dr;have HP:=Z hp;have HX:=Z hx;have HV:=Z hv;clear hp dt hx hv hs hi dr;go_enter func271,ntmps271;go_wp2_with fail;refine ag.mono ?_;rintro e w1 ⟨rfl,ar⟩;have lR:=jQh (aj ar (aq (aq (ak W (.cells #[.slice wa w.length wc] 22)))) (by simp;omega));obtain⟨c0,c1,c2,c3,c4,c5,c6⟩:=ao (aj ar (aq (ak _ (bx t a c))) i6);have hBs:=jQh (aj ar (ak _ (.cells #[.bool st] 4)) i6);simp only[jQ3]at c0 c1 c2 c3 c4 c5 c6 hBs;have HB:=Z (HA.1.trans (ar.mono HA.1.size));have hz:=ar.size;simp only[jQ3]at hz;clear ar ag;cases i with
  |true=>
   have h:(!st)=r:=by simpa using HP.1
   subst h;exact M33
  |false=>
   have hp:=HP.1;simp only[jQk,jR1]at hp;obtain⟨u,hu,hp⟩:=jQ1.1 hp;have dF:=HX.1.mv HB.1;have ag:=dG w _ t u _ w1 D hu dF.lo dF.rd (HV.1.mv HX.1.lo HB.1);have pG:=Z hp;clear hp hu dF HP;go_wp2_with fail;refine ag.mono ?_;rintro e w2 ⟨v2,rfl,nT,cX⟩;obtain⟨a2,xv,rfl,eX⟩:=nT.bR;have dP:=Z (HB.1.trans (cX.mono HB.1.size));have ag6:=(cX.cell (p:=⟨W.heap.size,0,none⟩) (by simp;omega)).trans lR;have ag7:=(cX.cell (p:=⟨W.heap.size+1+1,0,none⟩) (by simp;omega)).trans hBs;have j7:=cX.size;have HS:=Z eX;have hp:=pG.1;clear cX ag nT lR hBs c0 c1 c2 c3 c4 c5 c6 eX pG;have fV:W.heap.size<w2.heap.size:=m9
   have fh:W.heap.size+1+1<w2.heap.size:=m9
   have HC:=Z (dP.1.alloc m9 (bx u a2 xv));by_cases h1:u.kind=1
   ·have h:true=r:=by simpa[h1]using hp
    subst h;clear hp;exact M107
   have k1:(u.kind==1)=false:=by simp[h1]
   by_cases h6:u.kind=6
   ·have h:true=r:=by simpa[h6]using hp
    subst h;clear hp h1;exact M107
   have k6:(u.kind==6)=false:=by simp[h6]
   by_cases h9:u.kind=9
   ·have h:true=r:=by simpa[h9]using hp
    subst h;clear hp h1 h6;exact M107
   have k9:(u.kind==9)=false:=by simp[h9]
   simp only[h1,h6,h9,or_false,jR1]at hp;by_cases h53:u.kind=5\/u.kind=3
   ·rw[jQ7 h53]at hp;have qm:=(HX.1.mv HC.1).up (n:=w1.heap.size) (HX.1.lo.mono m9) (by simp;omega);have eY:=HS.1.move (W':=w2.alloc (bx u a2 xv)) (D':=Up D w1.heap.size (w2.alloc (bx u a2 xv)).heap.size) ((au.refl.alloc (Up.lo (HX.1.lo.mono m9) m9) _).wide (Up.mono m9 i6));have Z7:(w2.alloc (bx u a2 xv)).cell? ⟨W.heap.size,0,none⟩=some (.slice wa w.length wc):=by
     rw[World.cell?_alloc_past _ _ _ fV];exact ag6
    have hB4:(w2.alloc (bx u a2 xv)).cell? ⟨W.heap.size+1+1,0,none⟩=some (.bool st):=by
     rw[World.cell?_alloc_past _ _ _ fh];exact ag7
    have ag:=cL u.elems _ _ _ eY qm.lo 272 #[.pointer (some ⟨W.heap.size,0,none⟩),.pointer (some ⟨W.heap.size+1+1,0,none⟩)] Tryz.call272 _ (λW1 e v bb ar _ dr ke=>
     Ps k ih w _ e st bb v W1 _ _ _ ke (qm.mv ar) dr ((ar.cell (p:=⟨W.heap.size,0,none⟩) (by simp;omega)).trans Z7) ((ar.cell (p:=⟨W.heap.size+1+1,0,none⟩) (by simp;omega)).trans hB4)) _ (aX hp)
    have D8:=mkf;have H53:=Z h53;clear qm eY Z7 hB4 hp h1 h6 h9 h53;by_cases h5:u.kind=5
    ·have k5:(u.kind==5)=true:=by simp[h5]
     exact M106
    ·have k5:(u.kind==5)=false:=by simp[h5]
     have k3:(u.kind==3)=true:=by have:=H53.1;simpa[h5]using this
     exact M106
   ·rw[jQ4 h53]at hp;have h:false=r:=by simpa using hp
    subst h;have k5:(u.kind==5)=false:=by simp;omega
    have k3:(u.kind==3)=false:=by simp;omega
    clear hp h1 h6 h9 h53;exact M107
theorem qV(k:Nat)(w:List ah)(ws:Value)(t:GT)(r:Bool)(v:Value)(W:World)(D:Nat->Prop)(hp:compared w k t true=some r)(hx:Cx D w ws W)(hv:RT D W t v):
 Calls prog 267 #[ws,v] W (ef W r):=by
 obtain⟨a,c,rfl,hs⟩:=hv.bR;obtain⟨wa,wc,rfl⟩:=hx.rd.form;have HA:=Z (an W (bx t a c));have ag:=AW k w _ t true _ _ _ D hp (hx.mv HA.1) (hv.mv hx.lo HA.1);clear hp hx hv hs;go_enter func267,ntmps267;exact M6
def LP(n f k:Nat):Prop:=∀(w:List ah) (ws:Value) (x t:GT) (r:Bool) (vx vt:Value) (W:World) (D:Nat->Prop),inSet (ident n w) f w k x t=some r->Cx D w ws W->RT D W x vx->RT D W t vt->
 Calls prog 257 #[ws,vx,vt] W (ef W r)
@[go_sem ↓] theorem ac5(b o n c:Nat)(hn:¬n=0)(w:World):(Instr.indexAt 23 (.slice (some ⟨b,o,none⟩) n c) (.int .i64 0)).run prog w=.ok (.pointer (some ⟨b,o,none⟩)) w:=by
 go_simp
theorem ahb(n f k:Nat)(ih:LP n f k)(w:List ah)(ws:Value)(x e:GT)(r:Bool)(v:Value)(W:World)(D:Nat->Prop)(Bw Bx:Nat)(hp:inSet (ident n w) f w k x e=some r)(hx:Cx D w ws W)(hv:RT D W e v)(hm:RS D W x.elems (.slice am x.elems.length cm))(Rj:W.heap[Bx]?=some (bx x am cm))(lR:W.cell? ⟨Bw,0,none⟩=some ws):
 Calls prog 266 #[v,.pointer (some ⟨Bw,0,none⟩),.pointer (some ⟨Bx,0,none⟩)] W (ef W r):=by
 have Dm:=jQs lR;have ahc:=jQ2 Rj;simp only at Dm;obtain⟨c0,c1,c2,c3,c4,c5,c6⟩:=ao Rj;obtain⟨a,c,rfl,hs⟩:=hv.bR;obtain⟨wa,wc,rfl⟩:=hx.rd.form;have HA:=Z (an W (bx e a c));have ag:=ih w _ x e _ _ _ _ D (hp) (hx.mv HA.1) ((RT.mk' hm).mv hx.lo HA.1) (hv.mv hx.lo HA.1);clear hp hx hv hm hs Rj;go_enter func266,ntmps266;exact M28
theorem ahd(n f k:Nat)(ih:LP n f k)(w:List ah)(ws:Value)(x e:GT)(r:Bool)(v:Value)(W:World)(D:Nat->Prop)(Bw Bx:Nat)(hp:bh (inSet (ident n w) f w k x e)=some r)(hx:Cx D w ws W)(hv:RT D W e v)(hm:RS D W x.elems (.slice am x.elems.length cm))(Rj:W.heap[Bx]?=some (bx x am cm))(lR:W.cell? ⟨Bw,0,none⟩=some ws):
 Calls prog 269 #[v,.pointer (some ⟨Bw,0,none⟩),.pointer (some ⟨Bx,0,none⟩)] W (ef W r):=by
 have Dm:=jQs lR;have ahc:=jQ2 Rj;simp only at Dm;obtain⟨c0,c1,c2,c3,c4,c5,c6⟩:=ao Rj;obtain⟨a,c,rfl,hs⟩:=hv.bR;obtain⟨wa,wc,rfl⟩:=hx.rd.form;have HA:=Z (an W (bx e a c));have ag:=ih w _ x e _ _ _ _ D (aX hp) (hx.mv HA.1) ((RT.mk' hm).mv hx.lo HA.1) (hv.mv hx.lo HA.1);clear hp hx hv hm hs Rj;go_enter func269,ntmps269;exact M28
theorem IT(n f:Nat)(hid:pD n)(k:Nat):LP n f k:=by
 induction k with
 |zero=>intro w ws x t r vx vt W D h;simp[inSet]at h
 |succ k ih=>
  intro w ws x t0 r vx vt W D hp hx xH hvt;obtain⟨t,ht,hp⟩:=jQ1.1 hp;obtain⟨ax,cx,rfl,Z2⟩:=xH.bR;obtain⟨pY,zL,rfl,cH⟩:=hvt.bR;obtain⟨wa,wc,rfl⟩:=hx.rd.form;have HA:=Z (pE W (.cells #[.slice wa w.length wc] 22) (bx x ax cx) (bx t0 pY zL));have ag:=jr _ t0 t _ _ D (jQ0 _) ht (hx.mv HA.1).lo (hvt.mv hx.lo HA.1);have HP:=Z hp;have HX:=Z hx;have HV:=Z xH;have CQ:=Z Z2;clear hp hx xH hvt Z2 cH ht;go_enter func257,ntmps257;go_wp2_with fail;refine ag.mono ?_;rintro e w1 ⟨v1,rfl,fP,ar⟩;obtain⟨a1,zd,rfl,cz⟩:=fP.bR;have Xq:=aj ar (aq (aq (ak W (.cells #[.slice wa w.length wc] 22)))) (by simp;omega);have abw:=aj ar (aq (ak _ (bx x ax cx))) i6;have PD:=aj ar (ak _ (bx t0 pY zL)) i6;have bS:=Z (HA.1.trans (ar.mono HA.1.size));have gj:=ar.size;simp only[jQ3]at abw PD gj cz;have gV:=Z cz;clear ar ag fP cz;go_wp2_with (refine fN rfl _ _ rfl (W.heap.size+1+1) rfl rfl PD rfl ?_);intro w2 fJ;have lR:=fJ.cR Xq m9;have Rj:=fJ.cR abw m9;have zK:=fJ.here;have HB:=Z (fJ.below bS.1 m9);have eX:=gV.1.move (fJ.aJ (D:=Up D (W.heap.size+1+1+1) w1.heap.size) (by intro h;obtain h|h:=h;exact absurd (HX.1.lo _ h) m9;omega));have hz:=gj;rw[<-fJ.size]at hz eX;have HS:=Z eX;clear eX fJ gj Xq abw PD bS gV;obtain⟨c0,c1,c2,c3,c4,c5,c6⟩:=ao zK;obtain⟨d0,d1,d2,d3,d4,d5,d6⟩:=ao Rj;have e0:=jQh lR;have fV:W.heap.size<w2.heap.size:=m9
  have dQ:W.heap.size+1<w2.heap.size:=m9
  have fh:W.heap.size+1+1<w2.heap.size:=m9
  have kp:=Z ((HX.1.mv HB.1).up (n:=W.heap.size+1+1+1) (HX.1.lo.mono m9) m9);have En:=Z ((HV.1.mv HX.1.lo HB.1).move (D':=Up D (W.heap.size+1+1+1) w2.heap.size) (au.refl.wide Up.of));have aek:=Z ((CQ.1.mv HX.1.lo HB.1).move (D':=Up D (W.heap.size+1+1+1) w2.heap.size) (au.refl.wide Up.of));have HVT:=Z (RT.mk' HS.1);have qM:=Z Rj;have HBT:=Z zK;have ej:=Z e0;have hp:=HP.1;clear HP zK Rj lR;have D8:=mkf;by_cases cQ:t.kind=12
  ·rw[jQ7 cQ]at hp;have tT:(t.kind==12)=true:=by simp[cQ]
   have ag:=cL t.elems _ _ _ HS.1 kp.1.lo 266 #[.pointer (some ⟨W.heap.size,0,none⟩),.pointer (some ⟨W.heap.size+1,0,none⟩)] Tryz.call266 _ (λW1 e v bb ar _ dr ke=>
    ahb n f k ih w _ x e bb v W1 _ _ _ ke (kp.1.mv ar) dr (aek.1.mv kp.1.lo ar) (aj ar qM.1 dQ) ((ar.cell (p:=⟨W.heap.size,0,none⟩) fV).trans ej.1)) _ hp
   clear hp cQ;exact M142
  have tT:(t.kind==12)=false:=by simp[cQ]
  rw[jQ4 cQ]at hp;by_cases cg:t.kind=13
  ·rw[jQ7 cg]at hp;obtain⟨ux,hux,hp⟩:=jQ1.1 hp;obtain⟨e,he,hp⟩:=jQ1.1 hp;have ll:(t.kind==13)=true:=by simp[cg]
   have lT:(0:Int)<(t.elems.length:Int):=by
    cases hh:t.elems with
    |nil=>rw[hh]at he;simp at he
    |cons=>simp
   rcases aN.1 HS.1 with⟨Gb,_⟩|⟨bk,b,o,c',dN,Jd,jG,kN,hC⟩
   ·rw[Gb]at he;simp at he
   simp at dN;obtain⟨rfl,rfl⟩:=dN;obtain⟨a3,c3',f0,f1,f2,f3,f4,f5,f6,uz⟩:=(hC.at he).bR;simp only[Nat.zero_mul,Nat.add_zero]at f0 f1 f2 f3 f4 f5 f6;have HVE:=Z uz;have j6:=kp.1.lo b kN;have aF:=Z<|λ(w':World) (hb:Below w2.heap.size w2 w')=>dG w _ x ux _ w' _ hux (kp.1.mv hb).lo (kp.1.mv hb).rd (En.1.mv kp.1.lo hb);have H2:=Z hp;clear hp cQ cg uz hC hux he;go_wp2_with fail;have hS:=Z (show∀w',Below w2.heap.size w2 w'->(λw'=>Below w2.heap.size w2 w'/\w'.cell? ⟨W.heap.size,0,none⟩=some (.slice wa w.length wc)/\w'.cell? ⟨W.heap.size+1,0,none⟩=some (.int .i64 x.kind)/\w'.cell? ⟨W.heap.size+1,1,none⟩=some (.int .i64 x.n)/\w'.cell? ⟨W.heap.size+1,2,none⟩=some (.int .i64 x.m)/\w'.cell? ⟨W.heap.size+1,3,none⟩=some (.bool x.va)/\w'.cell? ⟨W.heap.size+1,4,none⟩=some (.string x.name)/\w'.cell? ⟨W.heap.size+1,5,none⟩=some (.string x.tag)/\w'.cell? ⟨W.heap.size+1,6,none⟩=some (.slice ax x.elems.length cx)/\w'.cell? ⟨W.heap.size+1+1,6,none⟩=some (.slice (some ⟨b,o,none⟩) t.elems.length zd)/\w'.cell? ⟨b,o,none⟩=some (.int .i64 e.kind)/\w'.cell? ⟨b,o+1,none⟩=some (.int .i64 e.n)/\w'.cell? ⟨b,o+2,none⟩=some (.int .i64 e.m)/\w'.cell? ⟨b,o+3,none⟩=some (.bool e.va)/\w'.cell? ⟨b,o+4,none⟩=some (.string e.name)/\w'.cell? ⟨b,o+5,none⟩=some (.string e.tag)/\w'.cell? ⟨b,o+6,none⟩=some (.slice a3 e.elems.length c3')) w' from λw' hb=>⟨hb,(hb.cell (p:=⟨W.heap.size,0,none⟩) (by first|exact fV|exact dQ|exact fh)).trans ej.1,(hb.cell (p:=⟨W.heap.size+1,0,none⟩) (by first|exact fV|exact dQ|exact fh)).trans d0,(hb.cell (p:=⟨W.heap.size+1,1,none⟩) (by first|exact fV|exact dQ|exact fh)).trans d1,(hb.cell (p:=⟨W.heap.size+1,2,none⟩) (by first|exact fV|exact dQ|exact fh)).trans d2,(hb.cell (p:=⟨W.heap.size+1,3,none⟩) (by first|exact fV|exact dQ|exact fh)).trans d3,(hb.cell (p:=⟨W.heap.size+1,4,none⟩) (by first|exact fV|exact dQ|exact fh)).trans d4,(hb.cell (p:=⟨W.heap.size+1,5,none⟩) (by first|exact fV|exact dQ|exact fh)).trans d5,(hb.cell (p:=⟨W.heap.size+1,6,none⟩) (by first|exact fV|exact dQ|exact fh)).trans d6,(hb.cell (p:=⟨W.heap.size+1+1,6,none⟩) (by first|exact fV|exact dQ|exact fh)).trans c6,(hb.cell (p:=⟨b,o,none⟩) j6).trans f0,(hb.cell (p:=⟨b,o+1,none⟩) j6).trans f1,(hb.cell (p:=⟨b,o+2,none⟩) j6).trans f2,(hb.cell (p:=⟨b,o+3,none⟩) j6).trans f3,(hb.cell (p:=⟨b,o+4,none⟩) j6).trans f4,(hb.cell (p:=⟨b,o+5,none⟩) j6).trans f5,(hb.cell (p:=⟨b,o+6,none⟩) j6).trans f6⟩);have mV:=Z<|λ(w':World) (v3:Value) (hb:Below w2.heap.size w2 w') (hr:RT (Up (Up D (W.heap.size+1+1+1) w2.heap.size) w2.heap.size w'.heap.size) w' ux v3)=>
    hid w _ ux e r v3 _ w' _ H2.1 ((kp.1.mv hb).up (n:=w2.heap.size) kp.1.lo hb.size) hr ((HVE.1.mv kp.1.lo hb).move (au.refl.wide Up.of))
   go_region_held3 (λw'=>Below w2.heap.size w2 w'/\w'.cell? ⟨W.heap.size,0,none⟩=some (.slice wa w.length wc)/\w'.cell? ⟨W.heap.size+1,0,none⟩=some (.int .i64 x.kind)/\w'.cell? ⟨W.heap.size+1,1,none⟩=some (.int .i64 x.n)/\w'.cell? ⟨W.heap.size+1,2,none⟩=some (.int .i64 x.m)/\w'.cell? ⟨W.heap.size+1,3,none⟩=some (.bool x.va)/\w'.cell? ⟨W.heap.size+1,4,none⟩=some (.string x.name)/\w'.cell? ⟨W.heap.size+1,5,none⟩=some (.string x.tag)/\w'.cell? ⟨W.heap.size+1,6,none⟩=some (.slice ax x.elems.length cx)/\w'.cell? ⟨W.heap.size+1+1,6,none⟩=some (.slice (some ⟨b,o,none⟩) t.elems.length zd)/\w'.cell? ⟨b,o,none⟩=some (.int .i64 e.kind)/\w'.cell? ⟨b,o+1,none⟩=some (.int .i64 e.n)/\w'.cell? ⟨b,o+2,none⟩=some (.int .i64 e.m)/\w'.cell? ⟨b,o+3,none⟩=some (.bool e.va)/\w'.cell? ⟨b,o+4,none⟩=some (.string e.name)/\w'.cell? ⟨b,o+5,none⟩=some (.string e.tag)/\w'.cell? ⟨b,o+6,none⟩=some (.slice a3 e.elems.length c3'))
    (first|exact hS.1 _ (jQ5 _ _).drew|assumption)
    (first
     |(go_at_call 130;have hh:=‹Below w2.heap.size w2 _/\_›;refine(aF.1 _ hh.1).mono ?_;rintro e3 w3 ⟨v3,rfl,FG,aZ⟩;have dI:=hh.1.trans (aZ.mono hh.1.size);have hS4:=hS.1 _ dI;have HR3:=Z (FG.move (au.refl.wide (Up.mono hh.1.size (jQ0 _))));clear FG)
     |(go_at_call 207;have hh:=‹Below w2.heap.size w2 _/\_›;refine(mV.1 _ _ hh.1 HR3.1).mono ?_;rintro e5 w5 ⟨rfl,iD⟩;have gS:=hh.1.trans (iD.mono hh.1.size);have hS6:=hS.1 _ gS))
   go_wp2_with fail;go_ret;exact⟨rfl,HB.1.trans (gS.mono HB.1.size)⟩
  have ll:(t.kind==13)=false:=by simp[cg]
  rw[jQ4 cg]at hp;by_cases ir:t.kind=16
  ·rw[jQ7 ir]at hp;have yr:(t.kind==16)=true:=by simp[ir]
   have ag:=qV f w _ x r _ w2 _ hp kp.1 En.1;clear hp cQ cg ir;exact M142
  have yr:(t.kind==16)=false:=by simp[ir]
  rw[jQ4 ir]at hp;obtain⟨i,hi,hp⟩:=jQ1.1 hp;have ag:=dh w _ t i _ w2 _ hi kp.1.lo kp.1.rd HVT.1;have HP:=Z hp;clear hp cQ cg ir hi;go_wp2_with fail;refine ag.mono ?_;rintro e w3 ⟨rfl,aZ⟩;clear ag tT ll yr;have tW:=Z (kp.1.mv aZ);have ael:=Z (En.1.mv kp.1.lo aZ);have Tv:=Z (HVT.1.mv kp.1.lo aZ);have ahe:=Z (aek.1.mv kp.1.lo aZ);have Fm:=Z (aj aZ qM.1 dQ);have X8:=Z (aj aZ HBT.1 fh);have aem:=Z ((aZ.cell (p:=⟨W.heap.size,0,none⟩) fV).trans ej.1);have kL:=Z (HB.1.trans (aZ.mono HB.1.size));have Xv:=aZ.size;replace fV:W.heap.size<w3.heap.size:=m9
  replace dQ:W.heap.size+1<w3.heap.size:=m9
  replace fh:W.heap.size+1+1<w3.heap.size:=m9
  clear c0 c1 c2 c3 c4 c5 c6 d0 d1 d2 d3 d4 d5 d6 e0;obtain⟨c0,c1,c2,c3,c4,c5,c6⟩:=ao X8.1;obtain⟨d0,d1,d2,d3,d4,d5,d6⟩:=ao Fm.1;have e0:=aem.1;cases i with
  |false=>
   have hp:ident n w x t=some r:=by simpa using HP.1
   have ag:=hid w _ x t r _ _ w3 _ hp tW.1 ael.1 Tv.1;clear hp;go_wp2_with fail;refine ag.mono ?_;rintro e w4 ⟨rfl,dI⟩;have HD:=Z (kL.1.trans (dI.mono kL.1.size));clear dI ag;exact M54
  |true=>
   have hp:=HP.1;simp only[jRt,jQk,jR1]at hp;obtain⟨u,hu,hp⟩:=jQ1.1 hp;have ag:=dG w _ t u _ w3 _ hu tW.1.lo tW.1.rd Tv.1;have pG:=Z hp;clear hp hu HP;go_wp2_with fail;refine ag.mono ?_;rintro e w4 ⟨v4,rfl,Wo,dI⟩;obtain⟨a4,Rk,rfl,nU⟩:=Wo.bR;clear ag;have LQ:=Z (tW.1.mv dI);have ahf:=Z (ael.1.mv tW.1.lo dI);have ahg:=Z (Tv.1.mv tW.1.lo dI);have ahh:=Z (ahe.1.mv tW.1.lo dI);have aen:=Z (aj dI Fm.1 dQ);have aeo:=Z (aj dI X8.1 fh);have aep:=Z ((dI.cell (p:=⟨W.heap.size,0,none⟩) fV).trans aem.1);have xL:=Z (kL.1.trans (dI.mono kL.1.size));have Xv:=dI.size;replace fV:W.heap.size<w4.heap.size:=m9
   replace dQ:W.heap.size+1<w4.heap.size:=m9
   replace fh:W.heap.size+1+1<w4.heap.size:=m9
   clear c0 c1 c2 c3 c4 c5 c6 d0 d1 d2 d3 d4 d5 d6 e0;obtain⟨c0,c1,c2,c3,c4,c5,c6⟩:=ao aeo.1;obtain⟨d0,d1,d2,d3,d4,d5,d6⟩:=ao aen.1;have e0:=aep.1;have aeq:=dI.size;have Bj:=Z nU;have aer:=Z (Up.lo (n:=w3.heap.size) tW.1.lo Xv);clear nU Wo;have hBo:=ak w4 (.cells #[.int .i64 0,.int .i64 0,.int .i64 0,.bool false,.string ⟨#[]⟩,.string ⟨#[]⟩,.slice none 0 0] 25);go_wp2_with (refine fN rfl _ _ rfl w4.heap.size rfl rfl (ak w4 _) rfl ?_);intro w5 kC;have iD:=kC.below (an w4 _) (jQ0 _);have Kl:=kC.size;simp only[jQ3]at Kl;obtain⟨g0,g1,g2,g3,g4,g5,g6⟩:=ao kC.here;clear kC hBo;have Kz:=Z (LQ.1.mv iD);have aes:=Z (ahf.1.mv LQ.1.lo iD);have HVT5:=Z (ahg.1.mv LQ.1.lo iD);have ahi:=Z (ahh.1.mv LQ.1.lo iD);have PE:=Z (aj iD aen.1 dQ);have ahj:=Z (aj iD aeo.1 fh);have abx:=Z ((iD.cell (p:=⟨W.heap.size,0,none⟩) fV).trans aep.1);have xx:=Z (xL.1.trans (iD.mono xL.1.size));have Xv:=iD.size;replace fV:W.heap.size<w5.heap.size:=m9
   replace dQ:W.heap.size+1<w5.heap.size:=m9
   replace fh:W.heap.size+1+1<w5.heap.size:=m9
   clear c0 c1 c2 c3 c4 c5 c6 d0 d1 d2 d3 d4 d5 d6 e0;obtain⟨c0,c1,c2,c3,c4,c5,c6⟩:=ao ahj.1;obtain⟨d0,d1,d2,d3,d4,d5,d6⟩:=ao PE.1;have e0:=abx.1;have hl4:w4.heap.size<w5.heap.size:=m9
   have X9:w3.heap.size<=w5.heap.size:=m9
   have HS5:=Z (Bj.1.move (aer.1.aJ iD));have aet:=Z (aer.1.mono iD.size);clear iD Xv Kl;have hp:=pG.1;by_cases u16:u.kind=16
   ·rw[jQ7 u16]at hp;have yr:(u.kind==16)=true:=by simp[u16]
    have ag:=qV f w _ x r _ w5 _ hp Kz.1 aes.1;clear hp u16;exact M143
   rw[jQ4 u16]at hp;have yr:(u.kind==16)=false:=by simp[u16]
   obtain⟨ms,jK,hp⟩:=jQ1.1 hp;obtain⟨want,aab,hp⟩:=jQ1.1 hp;obtain⟨h,hh,hp⟩:=jQ1.1 hp;obtain⟨pT,EF⟩:=HS5.1.upto aab;have HSW:=Z EF;have Rl:=Z hp;have hS:=Z (show∀w',Below w5.heap.size w5 w'->(λw'=>Below w5.heap.size w5 w'/\w'.cell? ⟨W.heap.size,0,none⟩=some (.slice wa w.length wc)/\w'.cell? ⟨W.heap.size+1,0,none⟩=some (.int .i64 x.kind)/\w'.cell? ⟨W.heap.size+1,1,none⟩=some (.int .i64 x.n)/\w'.cell? ⟨W.heap.size+1,2,none⟩=some (.int .i64 x.m)/\w'.cell? ⟨W.heap.size+1,3,none⟩=some (.bool x.va)/\w'.cell? ⟨W.heap.size+1,4,none⟩=some (.string x.name)/\w'.cell? ⟨W.heap.size+1,5,none⟩=some (.string x.tag)/\w'.cell? ⟨W.heap.size+1,6,none⟩=some (.slice ax x.elems.length cx)/\w'.cell? ⟨w4.heap.size,2,none⟩=some (.int .i64 u.m)/\w'.cell? ⟨w4.heap.size,6,none⟩=some (.slice a4 u.elems.length Rk)) w' from λw' hb=>⟨hb,(hb.cell (p:=⟨W.heap.size,0,none⟩) (by first|exact fV|exact dQ|exact fh)).trans abx.1,(hb.cell (p:=⟨W.heap.size+1,0,none⟩) (by first|exact fV|exact dQ|exact fh)).trans d0,(hb.cell (p:=⟨W.heap.size+1,1,none⟩) (by first|exact fV|exact dQ|exact fh)).trans d1,(hb.cell (p:=⟨W.heap.size+1,2,none⟩) (by first|exact fV|exact dQ|exact fh)).trans d2,(hb.cell (p:=⟨W.heap.size+1,3,none⟩) (by first|exact fV|exact dQ|exact fh)).trans d3,(hb.cell (p:=⟨W.heap.size+1,4,none⟩) (by first|exact fV|exact dQ|exact fh)).trans d4,(hb.cell (p:=⟨W.heap.size+1,5,none⟩) (by first|exact fV|exact dQ|exact fh)).trans d5,(hb.cell (p:=⟨W.heap.size+1,6,none⟩) (by first|exact fV|exact dQ|exact fh)).trans d6,(hb.cell (p:=⟨w4.heap.size,2,none⟩) hl4).trans g2,(hb.cell (p:=⟨w4.heap.size,6,none⟩) hl4).trans g6⟩);have aF:=Z<|λ(w':World) (hb:Below w5.heap.size w5 w')=>zj w _ x ms _ w' _ jK (Kz.1.mv hb) (aes.1.mv Kz.1.lo hb);have aac:=Z<|λ(w':World) (v3:Value) (hb:Below w5.heap.size w5 w') (hr:RS (Up (Up D (W.heap.size+1+1+1) w2.heap.size) w5.heap.size w'.heap.size) w' ms v3)=>
    pz n hid w _ ms want h v3 _ w' _ hh ((Kz.1.mv hb).up (n:=w3.heap.size) tW.1.lo (jQd X9 hb.size))
     (hr.move (au.refl.wide (Up.mono X9 (jQ0 _)))) ((HSW.1.mv aet.1 hb).move (au.refl.wide (Up.mono (jQ0 _) (by have:=hb.size;omega))))
   clear hp jK aab hh EF pG;cases h with
   |false=>
    have h:false=r:=by simpa using Rl.1
    subst h;go_wp2_with fail
    go_region_held3 (λw'=>Below w5.heap.size w5 w'/\w'.cell? ⟨W.heap.size,0,none⟩=some (.slice wa w.length wc)/\w'.cell? ⟨W.heap.size+1,0,none⟩=some (.int .i64 x.kind)/\w'.cell? ⟨W.heap.size+1,1,none⟩=some (.int .i64 x.n)/\w'.cell? ⟨W.heap.size+1,2,none⟩=some (.int .i64 x.m)/\w'.cell? ⟨W.heap.size+1,3,none⟩=some (.bool x.va)/\w'.cell? ⟨W.heap.size+1,4,none⟩=some (.string x.name)/\w'.cell? ⟨W.heap.size+1,5,none⟩=some (.string x.tag)/\w'.cell? ⟨W.heap.size+1,6,none⟩=some (.slice ax x.elems.length cx)/\w'.cell? ⟨w4.heap.size,2,none⟩=some (.int .i64 u.m)/\w'.cell? ⟨w4.heap.size,6,none⟩=some (.slice a4 u.elems.length Rk))
     (first|exact hS.1 _ (jQ5 _ _).drew|assumption)
     (first
      |(go_at_call 268;have hh:=‹Below w5.heap.size w5 _/\_›;refine(aF.1 _ hh.1).mono ?_;rintro e3 w6 ⟨v6,rfl,NN,gS⟩;have ek:=hh.1.trans (gS.mono hh.1.size);have hS7:=hS.1 _ ek;have Ya:=Z (NN.move (au.refl.wide (Up.mono hh.1.size (jQ0 _))));clear NN)
      |(go_at_call 176;have hh:=‹Below w5.heap.size w5 _/\_›;refine(aac.1 _ _ hh.1 Ya.1).mono ?_;rintro e5 w8 ⟨rfl,nN⟩;replace nN:=hh.1.trans (nN.mono hh.1.size);have hS8:=hS.1 _ nN))
    go_wp2_with fail;go_ret;exact⟨rfl,xx.1.trans (nN.mono xx.1.size)⟩
   |true=>
    have hp:=Rl.1;simp only[jRt,jQk,jR1]at hp;obtain⟨l,hl,hp⟩:=jQ1.1 hp;have HP4:=Z hp;have HL:=Z hl;clear hp hl Rl;go_wp2_with fail
    go_region_held3 (λw'=>Below w5.heap.size w5 w'/\w'.cell? ⟨W.heap.size,0,none⟩=some (.slice wa w.length wc)/\w'.cell? ⟨W.heap.size+1,0,none⟩=some (.int .i64 x.kind)/\w'.cell? ⟨W.heap.size+1,1,none⟩=some (.int .i64 x.n)/\w'.cell? ⟨W.heap.size+1,2,none⟩=some (.int .i64 x.m)/\w'.cell? ⟨W.heap.size+1,3,none⟩=some (.bool x.va)/\w'.cell? ⟨W.heap.size+1,4,none⟩=some (.string x.name)/\w'.cell? ⟨W.heap.size+1,5,none⟩=some (.string x.tag)/\w'.cell? ⟨W.heap.size+1,6,none⟩=some (.slice ax x.elems.length cx)/\w'.cell? ⟨w4.heap.size,2,none⟩=some (.int .i64 u.m)/\w'.cell? ⟨w4.heap.size,6,none⟩=some (.slice a4 u.elems.length Rk))
     (first|exact hS.1 _ (jQ5 _ _).drew|assumption)
     (first
      |(go_at_call 268;have hh:=‹Below w5.heap.size w5 _/\_›;refine(aF.1 _ hh.1).mono ?_;rintro e3 w6 ⟨v6,rfl,NN,gS⟩;have ek:=hh.1.trans (gS.mono hh.1.size);have hS7:=hS.1 _ ek;have Ya:=Z (NN.move (au.refl.wide (Up.mono hh.1.size (jQ0 _))));clear NN)
      |(go_at_call 176;have hh:=‹Below w5.heap.size w5 _/\_›;refine(aac.1 _ _ hh.1 Ya.1).mono ?_;rintro e5 w8 ⟨rfl,nN⟩;replace nN:=hh.1.trans (nN.mono hh.1.size);have hS8:=hS.1 _ nN))
    obtain⟨af,cf,mW,hsf⟩:=HS5.1.from HL.1;have ag:=cL l _ w8 _ ((hsf.mv aet.1 nN).move (au.refl.wide (Up.mono (jQ0 _) (jQd (Nat.le_of_lt hl4) nN.size)))) (Up.lo (n:=w3.heap.size) tW.1.lo (jQd X9 nN.size)) 269 #[.pointer (some ⟨W.heap.size,0,none⟩),.pointer (some ⟨W.heap.size+1,0,none⟩)] Tryz.call269 _ (λW1 e v bb ar _ dr ke=>by
     have zG:=nN.trans (ar.mono nN.size);exact ahd n f k ih w _ x e bb v W1 _ _ _ ke (((Kz.1.mv nN).up (n:=w3.heap.size) tW.1.lo (jQd X9 nN.size)).mv ar) dr ((ahi.1.mv Kz.1.lo zG).move (au.refl.wide Up.of)) (aj zG PE.1 dQ) ((zG.cell (p:=⟨W.heap.size,0,none⟩) fV).trans abx.1)) _ (aX HP4.1)
    clear hsf;go_wp2_with fail;refine ag.mono ?_;rintro e w9 ⟨rfl,zG⟩;have xB:=Z (nN.trans (zG.mono nN.size));clear zG ag;go_wp2_with fail;go_ret;exact⟨i6,xx.1.trans (xB.1.mono xx.1.size)⟩
def aha(D:Nat->Prop)(W:World)(l:List GT)(e:Ending)(W':World):Prop:=∃v',e=.returned v'/\dc D W.heap.size W' l v'/\Below W.heap.size W W'
set_option maxRecDepth 100000 in
theorem I7(l:List GT)(sl:Value)(W:World)(D:Nat->Prop)(hs:RS D W l sl)(hD:Lo D W.heap.size)(cF:l.length<=1099511627776):
 Calls prog 208 #[sl] W (aha D W l):=by
 obtain⟨a,c,rfl⟩:=hs.form;have q23:∀(w:World) (a:Option Addr) (n c n' c':Nat),(binOp .eql 23 (.slice a n c) (.slice none n' c')).run prog w=.ok (.bool a.isNone) w:=λw a n c n' c'=>Lib.run_eql_slice_nil w _ _ a n c n' c' underlying23;by_cases hn:a=none
 ·subst hn;rcases aN.1 hs with⟨rfl,a1,c1,e,h1⟩|⟨bk,b,o',c',e,_⟩
  ·go_enter func208,ntmps208;go_wp2_with fail;go_ret;exact⟨_,rfl,dc.nil hD,jQ5 _ _⟩
  ·simp at e
 ·obtain⟨ad,rfl⟩:=Option.ne_none_iff_exists'.1 hn;have aL:dc D W.heap.size (W.alloc (.cells #[] 25)) [] (.slice (some ⟨W.heap.size,0,none⟩) 0 0):=
   ⟨[],World.ownsRow_made W #[] 0 (jQ0 _) (jQc _) rfl,by rw[RV],λb hb=>⟨by have:=hD b hb;simp;omega,by intro e;have:=hD b hb;simp[Value.ownBlock]at e;omega⟩⟩
  have cz:=hs.mv hD (an W (.cells #[] 25));have HO:=Z aL;have HS:=Z cz;clear hs aL cz;go_enter func208,ntmps208;go_wp2_with (at_builtin;refine tU rfl _ _ rfl W.heap.size D _ [] rfl HO.1 _ l D HS.1 rfl (λb o h=>h.rv) (by simpa using cF) i6 ?_);intro v2 w2 h2 Dp I8;have B2:=Z ((an W (.cells #[] 25)).grown Dp i6 (λk hk=>(HO.1.lt k hk).1));exact M202
theorem LN(f m:GT)(v:Value)(W:World)(D:Nat->Prop)(Bm:Nat)(hv:RT D W f v)(Ez:W.heap[Bm]?=some (bx m am cm)):
 Calls prog 209 #[v,.pointer (some ⟨Bm,0,none⟩)] W (ef W (aE f.name m.name)):=by
 have X4:=jQ2 Ez;obtain⟨c0,c1,c2,c3,c4,c5,c6⟩:=ao Ez;obtain⟨a,c,rfl,hs⟩:=hv.bR;have HA:=Z (an W (bx f a c));clear hv hs Ez;by_cases hn:f.name=m.name
 ·have iK:=gB hn;have hr:aE f.name m.name=true:=by simp[aE,hn]
  rw[hr];clear hn hr;go_enter func209,ntmps209;exact M34
 ·have iK:=jX hn;have hr:aE f.name m.name=false:=by simp[aE,hn]
  rw[hr];clear hn hr;go_enter func209,ntmps209;exact M34
abbrev TE:=GT×Option Addr×Nat
def mE(x:TE):List Value:=[.int .i64 x.1.kind,.int .i64 x.1.n,.int .i64 x.1.m,.bool x.1.va,.string x.1.name,.string x.1.tag,.slice x.2.1 x.1.elems.length x.2.2]
theorem RV.unz:∀{l:List GT} {xs:List Value},RV E W l xs->
 ∃d:List TE,d.map (·.1)=l/\xs=d.flatMap mE/\∀x∈d,RS E W x.1.elems (.slice x.2.1 x.1.elems.length x.2.2)
 |[],xs,h=>by rw[RV]at h;exact⟨[],rfl,by simp[h],i6⟩
 |t::l,xs,h=>by
  rw[RV]at h;obtain⟨a,c,rest,rfl,hs,h⟩:=h;obtain⟨d,h1,h2,h3⟩:=RV.unz h;refine⟨(t,a,c)::d,by simp[h1],by simp[h2,mE],?_⟩;intro x hx;rcases jQn.1 hx with rfl|hx
  ·exact hs
  ·exact h3 x hx
theorem RV.zip:∀{d:List TE},(∀x∈d,RS E W x.1.elems (.slice x.2.1 x.1.elems.length x.2.2))->RV E W (d.map (·.1)) (d.flatMap mE)
 |[],_=>by simp[RV]
 |x::d,h=>by
  rw[List.map_cons,RV];exact⟨x.2.1,x.2.2,d.flatMap mE,by simp[mE],h x i6,RV.zip λy hy=>h y (by simp[hy])⟩
theorem ue{α:Type}[Inhabited α](enc:α->List Value)(k:Nat)(hk:∀x,(enc x).length=k)(Vc:0<k)(d:List α):(flatK enc k d.toArray).toList=d.flatMap enc:=by
 induction d with
 |nil=>simp[flatK]
 |cons a d ih=>
  have hl:((a::d).flatMap enc).length=(a::d).length*k:=by
   simp[List.length_flatMap,hk,List.map_const'];simp[Nat.add_mul,Nat.add_comm]
  apply List.ext_getElem
  ·rw[hl];simp
  ·intro t h1 h2;have ht:t<(a::d).length*k:=by rw[hl]at h2;exact h2
   have e1:(flatK enc k (a::d).toArray).toList[t]=(enc (a::d).toArray[t/k]!)[t%k]! :=by
    have:=get_flatK enc k (a::d).toArray t (by simpa using ht);rw[getElem!_pos _ t (by simpa using ht)]at this;exact M150
   rw[e1];simp only[List.flatMap_cons];by_cases aM:t<k
   ·rw[List.getElem_append_left (by rw[hk];exact aM)];rw[Nat.div_eq_of_lt aM,Nat.mod_eq_of_lt aM];simp only[List.getElem!_toArray,List.getElem!_cons_zero];rw[getElem!_pos _ t (by rw[hk];exact aM)]
   ·rw[List.getElem_append_right (by rw[hk];omega)];have Ng:t - k<d.length*k:=by simp only[List.length_cons,Nat.add_mul]at ht;omega
    have h3:(flatK enc k d.toArray).toList[t - k]'(by simpa using Ng)=(enc d.toArray[(t - k)/k]!)[(t - k)%k]! :=by
     have:=get_flatK enc k d.toArray (t - k) (by simpa using Ng);rw[getElem!_pos _ (t - k) (by simpa using Ng)]at this;exact M150
    have h4:(d.flatMap enc)[t - (enc a).length]'(by have:=h2;simp only[List.flatMap_cons,jQo]at this;rw[hk]at this⊢;omega)=(flatK enc k d.toArray).toList[t - k]'(by simpa using Ng):=by
     simp only[hk,ih]
    rw[h4,h3];have e2:t/k=(t - k)/k+1:=by
     have:t=(t - k)+k:=m9
     conv=>lhs;rw[this,Nat.add_div_right _ Vc]
    have e3:t%k=(t - k)%k:=by
     have:t=(t - k)+k:=m9
     conv=>lhs;rw[this,Nat.add_mod_right]
    rw[e2,e3];simp
theorem fY(a b:GT):bB a b=decide (a.name.toList<b.name.toList):=by
 unfold bB;exact bytesLess_eq _ _
def cfT(x y:TE):Int:=if bB x.1 y.1 then -1 else 1
theorem ltT(x y:TE):ltOf cfT x y=bB x.1 y.1:=by
 unfold ltOf cfT;cases bB x.1 y.1<;>simp
theorem ahq:SWO (ltOf cfT) where
 irrefl x:=by rw[ltT,fY];simp[List.lt_irrefl]
 trans x y z h1 h2:=by
  rw[ltT,fY]at*;simp only[decide_eq_true_eq]at*;exact List.lt_trans h1 h2
 ntrans x y z h1 h2:=by
  rw[ltT,fY]at*;simp only[decide_eq_false_iff_not,List.not_lt]at*;exact List.le_trans h2 h1
def Yn(E:Nat->Prop)(base:Nat)(W:World)(l:List GT)(v:Value)(e:Ending)(W':World):Prop:=
 e=.returned (.tuple #[])/\dc E base W' (l.mergeSort λa b=>!bB b a) v/\Below base W W'
theorem ML(x y:TE)(W:World):Calls prog 211 #[.agg (mE x).toArray,.agg (mE y).toArray] W λe w'=>e=.returned (.int .i64 (cfT x y))/\∃q os',w'=grow (W.drewN q) os':=by
 obtain⟨x,xa,xc⟩:=x;obtain⟨y,ya,yc⟩:=y;unfold mE cfT;simp only;cases h:bB x y with
 |true=>
  have h':Op.bytesLess x.name.toList y.name.toList=true:=h;exact M144
 |false=>
  have h':Op.bytesLess x.name.toList y.name.toList=false:=h;exact M144
theorem TK(jl off size:Nat)(w:World):CmpLays prog 211 #[] mE 7 cfT jl off size w:=
 λ_ _ _ _ x y=>ML x y _
def sortT_ren:Go.Shelf.Ren:=⟨λ|6=>210|15=>181|14=>235|28=>224|29=>225|20=>244|21=>245|22=>246|23=>247|24=>248|25=>249|26=>250|27=>251|46=>258|47=>237|48=>238|49=>259|50=>260|57=>270|n=>n,λ|22=>23|24=>25|25=>317|3=>3|39=>287|0=>0|53=>107|55=>331|4=>4|46=>323|45=>322|50=>327|5=>5|9=>9|66=>348|70=>352|76=>368|77=>369|n=>n,λ|n=>n⟩
theorem sortT:Go.Proofs.SlLaysF0.n6 prog sortT_ren:=⟨g9,⟨f210.name,i5,func210.trans (congrArg some g9)⟩,⟨f235.name,i5,func235.trans (congrArg some g9)⟩,func181.trans (congrArg some g9),⟨f244.name,i5,func244.trans (congrArg some g9)⟩,⟨f245.name,i5,func245.trans (congrArg some g9)⟩,⟨f246.name,i5,func246.trans (congrArg some g9)⟩,⟨f247.name,i5,func247.trans (congrArg some g9)⟩,⟨f248.name,i5,func248.trans (congrArg some g9)⟩,⟨f249.name,i5,func249.trans (congrArg some g9)⟩,⟨f250.name,i5,func250.trans (congrArg some g9)⟩,⟨f251.name,i5,func251.trans (congrArg some g9)⟩,func224.trans (congrArg some g9),func225.trans (congrArg some g9),⟨f258.name,i5,func258.trans (congrArg some g9)⟩,func237.trans (congrArg some g9),func238.trans (congrArg some g9),⟨f259.name,i5,func259.trans (congrArg some g9)⟩,⟨f260.name,i5,func260.trans (congrArg some g9)⟩,⟨f270.name,i5,func270.trans (congrArg some g9)⟩,underlying0,isAgg0,sizeOf0,zeroValue0,underlying3,isAgg3,sizeOf3,zeroValue3,underlying4,isAgg4,sizeOf4,zeroValue4,underlying5,isAgg5,sizeOf5,zeroValue5,underlying9,isAgg9,sizeOf9,zeroValue9,underlying23,isAgg23,sizeOf23,zeroValue23,underlying317,isAgg317,sizeOf317,zeroValue317,underlying287,isAgg287,sizeOf287,zeroValue287,underlying322,isAgg322,sizeOf322,zeroValue322,underlying323,isAgg323,sizeOf323,zeroValue323,underlying327,isAgg327,sizeOf327,zeroValue327,underlying107,isAgg107,sizeOf107,zeroValue107,underlying331,isAgg331,sizeOf331,zeroValue331,underlying348,isAgg348,sizeOf348,zeroValue348,underlying352,isAgg352,sizeOf352,zeroValue352,underlying368,isAgg368,sizeOf368,zeroValue368,underlying369,isAgg369,sizeOf369,zeroValue369⟩
theorem Gg{w:World}{cur:Array Value}(F:Array Value)(hb:w.heap[g]?=some (.cells cur e (0,0))):
 (grow (putRow id (Sort.ahead w n) g 0 F) os).heap[g]?=some (.cells (putCells id 0 F cur) e (0,0)):=by
 have hg:g<w.heap.size:=(Array.getElem?_eq_some_iff.1 hb).1;exact M157
theorem DB{w:World}(F:Array Value)(k:Nat)(hk:k<w.heap.size)(bk:k≠g):
 (grow (putRow id (Sort.ahead w n) g 0 F) os).heap[k]?=w.heap[k]?:=M158
theorem BF(cur F:Array Value)(h:F.size<=cur.size):(putCells id 0 F cur).toList.take F.size=F.toList:=M94
theorem Jm:∀{l:List GT},(l.map (·.name)).Nodup->∀{a b:GT},a∈l->b∈l->a.name=b.name->a=b
 |[],_,_,_,ha,_,_=>by simp at ha
 |x::l,h,a,b,ha,hb,e=>by
  rw[List.map_cons,List.nodup_cons]at h;rcases jQn.1 ha with Ld|Ld
  ·rcases jQn.1 hb with ar|ar
   ·rw[Ld,ar]
   ·exact absurd (jQu.2 ⟨b,ar,by rw[<-Ld];exact e.symm⟩) h.1
  ·rcases jQn.1 hb with ar|ar
   ·exact absurd (jQu.2 ⟨a,Ld,by rw[<-ar];exact e⟩) h.1
   ·exact Jm h.2 Ld ar e
theorem D9{l d:List GT}(hp:d.Perm l)(uu:(l.map (·.name)).Nodup)(hs:d.Pairwise λa b=>(!bB b a)=true):d=l.mergeSort λa b=>!bB b a:=by
 have htr:∀a b c:GT,(!bB b a)=true->(!bB c b)=true->(!bB c a)=true:=λa b c h1 h2=>by
  simp only[fY,Bool.not_eq_true',decide_eq_false_iff_not,List.not_lt]at*;exact List.le_trans h1 h2
 have hto:∀a b:GT,((!bB b a)||(!bB a b))=true:=λa b=>by
  simp only[fY,Bool.or_eq_true,Bool.not_eq_true',decide_eq_false_iff_not,List.not_lt];exact List.le_total _ _
 have hm:=List.pairwise_mergeSort (le:=λa b=>!bB b a) htr hto l;have hpm:=List.mergeSort_perm l (λa b=>!bB b a);refine List.Perm.eq_of_pairwise (le:=λa b=>(!bB b a)=true) ?_ hs hm (hp.trans hpm.symm);intro a b ha hb h1 h2;have ha':=hp.mem_iff.1 ha;have dD:=hpm.mem_iff.1 hb;simp only[fY,Bool.not_eq_true',decide_eq_false_iff_not,List.not_lt]at h1 h2;have hn:a.name=b.name:=by
  have:a.name.toList=b.name.toList:=List.le_antisymm h1 h2;by_cases h:a.name=b.name
  ·exact h
  ·have:=jX h;simp_all
 exact Jm uu ha' dD hn
theorem LY(E:Nat->Prop)(base:Nat)(W:World)(l:List GT)(v:Value)(h:dc E base W l v)(uu:(l.map (·.name)).Nodup)(cF:l.length<=1099511627776)(hb:base<=W.heap.size):
 Calls prog 210 #[v,.func (.func 211) #[] #[]] W (Yn E base W l v):=by
 obtain⟨xs,aL,nr,hE⟩:=h;by_cases hl:l=[]
 ·subst hl;obtain⟨a,c,rfl⟩:=dc.form ⟨xs,aL,nr,hE⟩;have:=Go.Proofs.AnyF.slices_SortFunc_none (P:=prog) (ρ:=sortT_ren) sortT a c (.func (.func 211) #[] #[]) W
  change Calls prog 210 _ _ _ at this
  refine this.mono ?_;rintro e w' ⟨rfl,rfl⟩;exact⟨rfl,by rw[List.mergeSort_nil];exact⟨xs,aL,nr,hE⟩,jQ5 _ _⟩
 rcases aL.2 with⟨_,h0⟩|⟨g,cap,cur,rfl,hg,Sd,hn,hm,hs,ht⟩
 ·exact absurd (jQe h0) hl
 obtain⟨d,hd1,O4,hd3⟩:=nr.unz;have Se:d.length=l.length:=by rw[<-hd1];simp
 have Ip:∀x,(mE x).length=7:=λ_=>rfl;have aM:=jQ2 Sd;have hH:HoldsK mE 7 W g 0 d.toArray:=by
  intro j hj;have xe:=ue mE 7 Ip m9 d;have Sf:j<(flatK mE 7 d.toArray).toList.length:=by simpa using hj
  have LZ:j<l.length*7:=by have:=hj;simp at this;omega
  refine⟨?_,by simp[World.frozen?,Sd]⟩;have h1:(cur.toList.take (l.length*7))[j]?=(flatK mE 7 d.toArray).toList[j]?:=by rw[ht,O4,xe]
  rw[List.getElem?_take_of_lt LZ]at h1;simp only[World.cell?,Sd,jRd];simp only[Option.isSome_none,jQk,jR1];rw[<-jRr,h1,jQp Sf];simp only[id];rw[getElem!_pos _ j (by simpa using hj)];simp
 have Iz:=Go.Proofs.AnyQ.slices_SortFunc sortT 7 isAgg25 sizeOf25 mE Ip (λx u hu=>by simp[mE]at hu;rcases hu with rfl|rfl|rfl|rfl|rfl|rfl|rfl<;>rfl) cfT ahq 211 #[] g 0 cap d.toArray W Tryz.call211 (TK g 0 _ W) hH aM (by simp;omega)
 change Calls prog 210 _ _ _ at Iz
 have j8:d.toArray.size=l.length:=by simpa using Se
 rw[j8]at Iz;refine Iz.mono ?_;rintro e w' ⟨rfl,d',n,os,⟨Xs,_,hp⟩,Nh,rfl⟩;have Al:d'.size=l.length:=by simpa using Xs.trans j8
 have K6:d'.toList.Perm d:=M122
 have bo:d'.toList.map (·.1)=l.mergeSort λa b=>!bB b a:=by
  refine D9 (hd1▸K6.map _) uu ?_;rw[List.pairwise_map,List.pairwise_iff_getElem];intro i j hi hj hij;have:=Nh i j (jQc _) hij (by simpa[Al]using hj);rw[ltT,getElem!_pos _ j (by simpa using hj),getElem!_pos _ i (by simpa using hi)]at this;exact M150
 have hF:(flatK mE 7 d').size=l.length*7:=by simp[Al]
 have j6:∀b,b<W.heap.size->b≠g->(sortWorldK mE 7 W g 0 n d' os).heap[b]?=W.heap[b]?:=λb hb bk=>DB _ b hb bk;have hwz:W.heap.size<=(sortWorldK mE 7 W g 0 n d' os).heap.size:=by
  unfold sortWorldK grow putRowK;simp[Sort.ahead]
 have gP:(l.mergeSort λa b=>!bB b a).length=l.length:=i6
 refine⟨rfl,⟨d'.toList.flatMap mE,⟨?_,.inr ⟨g,cap,putCells id 0 (flatK mE 7 d') cur,by rw[gP],hg,Gg _ Sd,by rw[gP];exact hn,hm,by simp[putCells,hs],?_⟩⟩,?_,?_⟩,?_⟩
 ·rw[<-ue mE 7 Ip m9];simp[Al]
 ·rw[gP,<-hF,BF _ _ (by rw[hF,hs];exact Nat.mul_le_mul_right 7 hn),<-ue mE 7 Ip m9]
 ·rw[<-bo];refine RV.zip λx hx=>?_;have hx':=K6.mem_iff.1 hx;refine(hd3 x hx').move λb hb=>⟨hb,j6 b (hE b hb).1 ?_⟩;intro e;subst e;exact(hE _ hb).2 rfl
 ·intro b dD;exact⟨jQb (hE b dD).1 hwz,(hE b dD).2⟩
 ·exact⟨rfl,rfl,rfl,hwz,λb dD=>j6 b m9 m9⟩
theorem uX{p1 p2 v1 x1 x2 y1 y2:Value}{t2:TypeId}(h1:W.heap[b1]?=some (.cells #[p1,v1,.string s1,x1,y1,.bool false] t1 (0,0)))(h2:W.heap[b2]?=some (.cells #[p2,v2,.string s2,x2,y2,.bool false] t2 (0,0)))(cz:wM s1)(gj:s1.size<=9223372036854775807)(eX:wM s2)(j7:s2.size<=9223372036854775807)(ht:jE D W):
 Calls prog 136 #[ptr b1,ptr b2] W (LS W (.int .i64 (compareBytes s1.data.toList s2.data.toList))):=by
 have HC:=Z (λn=>PJ (W:=W.drewN n) (b1:=b1) (b2:=b2) h1 h2 cz gj eX j7 ht);have c1:∃v,W.cell? ⟨b1,0,none⟩=some v:=⟨p1,by simp[World.cell?,h1]⟩;have c2:∃v,W.cell? ⟨b2,0,none⟩=some v:=⟨p2,by simp[World.cell?,h2]⟩;obtain⟨q1,c1⟩:=c1;obtain⟨q2,c2⟩:=c2;clear ht cz eX h1 h2;generalize compareBytes s1.data.toList s2.data.toList=res at HC⊢;go_enter func136,ntmps136;go_wp2_with fail;go_quiet (first|(go_at_call 182;refine Calls.quiet_of (HC.1 _)));exact M156
def sortF_ren:Go.Shelf.Ren:=⟨λ|6=>135|15=>181|14=>180|28=>224|29=>225|20=>216|21=>217|22=>218|23=>219|24=>220|25=>221|26=>222|27=>223|46=>236|47=>237|48=>238|49=>239|50=>240|57=>252|n=>n,λ|22=>97|24=>95|25=>237|3=>3|39=>287|0=>0|53=>107|55=>331|4=>4|46=>323|45=>322|50=>327|5=>5|9=>9|66=>348|70=>352|76=>368|77=>369|n=>n,λ|n=>n⟩
theorem sortF:Go.Proofs.SlLaysF.n6 prog sortF_ren:=⟨g9,⟨f135.name,i5,func135.trans (congrArg some g9)⟩,⟨f180.name,i5,func180.trans (congrArg some g9)⟩,func181.trans (congrArg some g9),⟨f216.name,i5,func216.trans (congrArg some g9)⟩,⟨f217.name,i5,func217.trans (congrArg some g9)⟩,⟨f218.name,i5,func218.trans (congrArg some g9)⟩,⟨f219.name,i5,func219.trans (congrArg some g9)⟩,⟨f220.name,i5,func220.trans (congrArg some g9)⟩,⟨f221.name,i5,func221.trans (congrArg some g9)⟩,⟨f222.name,i5,func222.trans (congrArg some g9)⟩,⟨f223.name,i5,func223.trans (congrArg some g9)⟩,func224.trans (congrArg some g9),func225.trans (congrArg some g9),⟨f236.name,i5,func236.trans (congrArg some g9)⟩,func237.trans (congrArg some g9),func238.trans (congrArg some g9),⟨f239.name,i5,func239.trans (congrArg some g9)⟩,⟨f240.name,i5,func240.trans (congrArg some g9)⟩,⟨f252.name,i5,func252.trans (congrArg some g9)⟩,underlying0,isAgg0,sizeOf0,zeroValue0,underlying3,isAgg3,sizeOf3,zeroValue3,underlying4,isAgg4,sizeOf4,zeroValue4,underlying5,isAgg5,sizeOf5,zeroValue5,underlying9,isAgg9,sizeOf9,zeroValue9,underlying97,isAgg97,sizeOf97,zeroValue97,isAgg95,sizeOf95,underlying237,isAgg237,sizeOf237,zeroValue237,underlying287,isAgg287,sizeOf287,zeroValue287,underlying322,isAgg322,sizeOf322,zeroValue322,underlying323,isAgg323,sizeOf323,zeroValue323,underlying327,isAgg327,sizeOf327,zeroValue327,underlying107,isAgg107,sizeOf107,zeroValue107,underlying331,isAgg331,sizeOf331,zeroValue331,underlying348,isAgg348,sizeOf348,zeroValue348,underlying352,isAgg352,sizeOf352,zeroValue352,underlying368,isAgg368,sizeOf368,zeroValue368,underlying369,isAgg369,sizeOf369,zeroValue369⟩
section
variable(NS:List ByteArray)(Q:GT->Prop)(w:List ah)(S:Sg)(D:Nat->Prop)(obj:Nat->Nat)(rs:List Nat)(K r:Nat)
def dS:Prop:=∀(E:Nat->Prop) (W:World) (b:Nat) (t:GT) (p:Int),Ok w S D obj rs K E r W->S b=some (aG t)->Fb NS Q w t->2*J rs false false t<r->
 Calls prog 50 #[.pointer none,.int .i64 p,ptr b] W (aV w S D obj rs K E r W λv W'=>∃sb,v=ptr sb/\yn S D E W' sb ((fs w K).ts t))
end
def Kt(e:GT):List GT:=if e.kind=12 then e.elems else[e]
def FR(w:List ah)(K:Nat)(S:Sg)(W:World)(tb:Nat)(s:GT):Prop:=
 ∃inv tl,W.heap[tb]?=some (.cells #[.bool inv,.slice none 0 0,tl,.bool false] 122 (0,0))/\S tb=none/\(unionTerms (fs w K) w [] (Kt s)=none->inv=true)/\(∀q,unionTerms (fs w K) w [] (Kt s)=some q->inv=false/\lS S W q tl)
def NH(w:List ah)(K:Nat)(S:Sg)(W:World)(es:List MapEntry):Prop:=∀e∈es,∃u tb s,e.key=ptr u/\S u=some s/\e.val=ptr tb/\FR w K S W tb s
def Dj(w:List ah)(K:Nat)(S:Sg)(W:World)(mb:Nat):Prop:=∃es ck,W.heap[mb]?=some (.map es ck)/\NH w K S W es.toList
section
variable{B:Nat}
theorem FR.move(h:FR w K S W tb s)(hf:bZ X S rs r W w'):FR w K S w' tb s:=by
 obtain⟨inv,tl,h1,h2,h3,h4⟩:=h;exact⟨inv,tl,hf.obj h2 h1,h2,h3,λq hq=>⟨(h4 q hq).1,(h4 q hq).2.move hf⟩⟩
theorem NH.move{es:List MapEntry}(h:NH w K S W es)(hf:bZ X S rs r W w'):NH w K S w' es:=λe he=>by
 obtain⟨u,tb,s,h1,h2,h3,h4⟩:=h e he;exact⟨u,tb,s,h1,h2,h3,h4.move hf⟩
theorem rZ{e:GT}(hk:e.kind=12\/e.kind=13):unionTerms (fs w K) w [] (Kt (aG e))=unionTerms (fs w K) w [] (Kt e)/\(if (aG e).kind=12 then(aG e).elems else[aG e])=Kt (aG e):=by
 have hp:=aW (t:=e) m9 m9 m9 m9;refine⟨?_,rfl⟩;rw[hp];obtain⟨k,n,m,va,nm,tg,l⟩:=e;simp only[GT.kind]at hk;rcases hk with rfl|rfl<;>rfl
theorem Ph{e:GT}(hk:e.kind=12\/e.kind=13)(h:All2 (vG S D W) (if (aG e).kind=12 then(aG e).elems else[aG e]) ps):All2 (vG S D W) (Kt e) ps:=by
 have hp:=aW (t:=e) m9 m9 m9 m9;rw[hp]at h;obtain⟨k,n,m,va,nm,tg,l⟩:=e;simp only[GT.kind]at hk;obtain rfl|rfl:=hk
 ·exact h
 ·match ps,h with
  |[],h=>exact h.elim
  |[p],h=>exact⟨h.1,trivial⟩
  |_::_::_,h=>exact h.2.elim
theorem gU(hg:GH w S D obj W)(hv:dq S v t):Calls prog 84 #[v] W (dL W (.bool false)):=by
 have ag:=aS hg hv;clear hg hv;go_enter func84,ntmps84;go_wp2_with fail;refine ag.mono ?_;rintro e w' ⟨v1,rfl,dr,hw⟩;replace hw:=hw.symm;subst hw;obtain⟨b,rfl,hs⟩:=dr;have ht:¬(tid (una t).kind=225):=(λh=>by rcases de (una t).kind with g|g|g|g|g|g|g|g|g|g|g|g<;>(rw[g.2]at h;exact absurd h i5));have fp:=mh (tid (una t).kind) (ptr b) 37 W ht;generalize tid (una t).kind=T at ht fp;clear hs;exact M9
theorem AE(hq:QP NS Q)(h:PT NS Q w md t):(una t).kind=1->0<=(una t).n:=by
 intro hk;have hp:=(cJ hq h).1;generalize una t=u at hk hp;obtain⟨k,n,m,va,nm,tg,l⟩:=u;simp only[GT.kind]at hk;subst hk;cases hp with
 |basic a b=>exact a
 |uni h=>omega
 |al h=>omega
 |one h=>omega
structure Lt(w:List ah)(S:Sg)(D:Nat->Prop)(obj:Nat->Nat)(rs:List Nat)(K:Nat)(E:Nat->Prop)(r:Nat)(W wr:World)(mb tb u:Nat)(es:Array MapEntry)(ck:Nat)(acc:List (Option Tm))(v:Value):Prop where
 ok:Ok w S D obj rs K (λb=>EO E v b\/b=tb) r wr
 fr:bZ (λb=>b=mb) S rs r W wr
 row:qn S W.heap.size wr acc v
 SF:wr.heap[tb]?=some (.cells #[.bool false,.slice none 0 0,.slice none 0 0,.bool false] 122 (0,0))
 tbl:W.heap.size<=tb
 map:wr.heap[mb]?=some (.map (es.push {key:=ptr u,val:=ptr tb,born:=ck}) (ck+1))
variable{es:Array MapEntry}
theorem Lt.sn(h:Lt w S D obj rs K E r W wr mb tb u es ck acc v):S tb=none/\∀g,v.ownBlock=some g->S g=none:=⟨(h.ok.own tb (.inr rfl)).2.2,λg hg=>(h.ok.own g (.inl (.inr hg))).2.2⟩
theorem Lt.go(h:Lt w S D obj rs K E r W wr mb tb u es ck acc v)(g1:Ok w S D obj rs K (λb=>EO E v b\/b=tb) r w')(g2:Fr S rs r wr w'):Lt w S D obj rs K E r W w' mb tb u es ck acc v:=
 ⟨g1,h.fr.trans g2.x,h.row.fr g2 h.sn.2,g2.obj h.sn.1 h.SF,h.tbl,g2.map (λh=>h) h.map⟩
theorem Lt.below(h:Lt w S D obj rs K E r W wr mb tb u es ck acc v)(hE:Env NS Q w rs cs)(hb:Below wr.heap.size wr w'):Lt w S D obj rs K E r W w' mb tb u es ck acc v:=
 h.go (h.ok.below hE.hs hb) (Below.fr hb)
theorem Lt.ne(h:Lt w S D obj rs K E r W wr mb tb u es ck acc v):v.ownBlock≠some tb/\v.ownBlock≠some mb:=by
 obtain⟨ps,h1,h2⟩:=h.row;have ht:=h.SF;have hm:=h.map;rcases h1.2 with⟨rfl,_⟩|⟨g',cap,cur,rfl,k1,k2,k3⟩
 ·exact⟨by simp[Value.ownBlock],by simp[Value.ownBlock]⟩
 ·constructor
  ·intro e;simp[Value.ownBlock]at e;subst e;rw[k2]at ht;simp at ht
  ·intro e;simp[Value.ownBlock]at e;subst e;rw[k2]at hm;simp at hm
theorem Lt.un(h:Lt w S D obj rs K E r W wr mb tb u es ck acc v){e:Ending}(hp:Ti w S D obj rs K (λb=>EO E v b\/b=tb) r wr v xJ e w'):∃v',e=.returned v'/\Lt w S D obj rs K E r W w' mb tb u es ck xJ v':=by
 obtain⟨v',W1,rfl,k1,k2,k3,k4⟩:=hp;refine⟨v',rfl,?_⟩;have hf:bZ (λb=>b=mb) S rs r W w':=(h.fr.ng k3 λb hb=>(h.row.lt b hb).1).trans k4.x;refine⟨k2.drop λb hb=>?_,hf,k1.base h.fr.size,k4.obj h.sn.1 ((k3.block tb (jQ2 h.SF) h.ne.1).trans h.SF),h.tbl,k4.map (λh=>h) ((k3.block mb (jQ2 h.map) h.ne.2).trans h.map)⟩;rcases hb with(hb|hb)|hb
 ·exact .inl (.inl (.inl hb))
 ·exact .inr hb
 ·exact .inl (.inr hb)
theorem Ei{q:Value->Bool}{e:MapEntry}:∀{l:List MapEntry} {i:Nat},hitE q l i=none->q e.key=true->hitE q (l++[e]) i=some (i+l.length,e.val)
 |[],i,_,h=>by simp[hitE,h]
 |a::l,i,hn,h=>by
  rw[hitE]at hn;split at hn
  ·cases hn
  ·rename_i hq
   rw[jRh,hitE,jQ4 hq,Ei hn h];simp;omega
theorem sR{q:Value->Bool}:∀{l:List MapEntry} {i:Nat},hitE q l i=none->∀e∈l,q e.key=false
 |[],_,_,e,he=>by simp at he
 |a::l,i,h,e,he=>by
  rw[hitE]at h;split at h
  ·cases h
  ·rename_i hq
   rcases jQn.1 he with rfl|he
   ·simpa using hq
   ·exact sR h e he
theorem aeh:(Tryz.prog.info? 233).map (·.size)=some 1:=g9
theorem yw:Tryz.prog.underlying 189=some (.pointer 233):=g9
theorem Eh:Tryz.prog.underlying 179=some (.map 189 100):=g9
theorem abg(W:World):(zeroValue 100).run prog W=.ok (.pointer none) W:=g9
theorem ckU(u:Nat)(W:World)(e:Bool):(Instr.checkKey e 10000 189 (ptr u)).run prog W=.ok () W:=by
 have h:∀n,(Instr.checkKey e (n+1) 189 (ptr u)).run prog W=.ok () W:=λn=>by
  unfold Instr.checkKey;simp[jQj yw,Result.andThen]
 exact h 9999
abbrev Rb(u:Nat)(k:Value):Bool:=match k with|.pointer (some a)=>u==a.block|_=>false
theorem eqU(hg:GH w S D obj W)(hu:S u=some s){es:List MapEntry}(h:∀e∈es,∃u s,e.key=ptr u/\S u=some s):∀e∈es,(Op.equal 189 (ptr u) e.key).run prog W=.ok (Rb u e.key) W:=by
 intro e he;obtain⟨u',s',hk,hs⟩:=h e he;obtain⟨cs,t,hc⟩:=hg.A9 u s hu;obtain⟨Ek,t',yq⟩:=hg.A9 u' s' hs;obtain⟨j,hj,hz⟩:=jQ6.1 aeh;rw[hk];exact LK yw hj (by rw[hz];decide) hc yq
theorem Pg(u:Nat):∀k',Instr.sameNow (.pointer 233) (ptr u) k'=none:=λk'=>by cases k'<;>rfl
end
end Go.Proofs.YtabjfnkfocnklaaGreatDoor
