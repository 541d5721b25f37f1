import Derived.Test.YtbdgppghkdibfaaGreatDoorA06
import Derived.Test.YtbdgppghkdibfaaGreatDoorA15
set_option linter.all false
set_option maxHeartbeats 16000000
set_option maxRecDepth 20000
namespace Go.Proofs.YtbdgppghkdibfaaGreatDoor
open Go Go.RowKit Go.Lib S P Go.Sort Tryz
variable{os:Array Obj}{cf d ti:Bool}{nm nm0:ByteArray}{F:Fs}{e m m0 s s' t ty x y:Y}{Q:Y->Prop}{acc l xJ:List (Option Tm)}{NS nms:List ByteArray}{ms xX:List Y}{cs rs:List Nat}{ps xs:List Value}{w:List ah}{B B10 B8 B9 K a b base cb ck g kk mb md n pb r r' sb tb u:Nat}{obj:Nat->Nat}{D E E' E1 E2 G X X':Qx}{ER so:Option Nat}{GT:Prop}{S:Sg}{t':TypeId}{c0 c1 c2 c3 c4 c5 msv mv mv' p tl ts ts0 v v':Value}{P P':Value->World->Prop}{W W' W2 O w1 w2 wr:World}
def M196(h:GT:=by
 unfold isName at this;simp only[Bool.and_eq_true,decide_eq_true_eq]at this;omega):GT:=h
def M38(h:GT:=by
 rintro b (rfl|rfl|rfl|rfl|hb|hb) cs t f hc
 .rw[h.b8]at hc;cases hc;decide
 .rw[h.b9]at hc;cases hc;decide
 .rw[h.jN]at hc;cases hc;decide
 .obtain⟨es,ck,I,_⟩:=h.mp;rw[I]at hc;cases hc
 .rcases h.set with⟨I,_⟩|⟨Uv,es,ck,I,U,_⟩
  .rw[I]at hb;cases hb
  .rw[I]at hb;cases hb;rw[U]at hc;cases hc
 .obtain⟨ps,I,U⟩:=h.row;rcases I.2 with⟨rfl,_⟩|⟨g,cap,cur,rfl,k1,k2,k3⟩
  .simp[Value.ownBlock]at hb
  .simp[Value.ownBlock]at hb;subst hb;rw[k2]at hc;cases hc;decide):GT:=h
def M83(h:GT:=by
 go_in;go_wp21;refine rv ag ?_;exact M12):GT:=h
def Nf:∀a b:List UInt8,compareBytes a b<0↔a<b
 |[],[]=>by simp[compareBytes]
 |[],_::_=>by simp[compareBytes]
 |_::_,[]=>by simp[compareBytes]
 |a::la,b::lb=>by
  rw[compareBytes,List.cons_lt_cons_iff];by_cases h:a<b
  .simp[h]
  .rw[jQ4 h];by_cases U:b<a
   .rw[jQ7 U];have:¬a=b:=λe=>by subst e;exact absurd U h
    simp[h,this]
   .rw[jQ4 U,Nf la lb];have:a=b:=by
     have I:=UInt8.not_lt.1 h;have h3:=UInt8.not_lt.1 U;exact UInt8.le_antisymm h3 I
    simp[this]
def O3(a b):decide (compareBytes a.name.data.toList b.name.data.toList<0)=bB a b:=by
 rw[fY]
 congr 1
 rw[jRk,jRk];exact propext (Nf _ _)
def agO(S:Sg)(D:Qx)(W:World)(x:Y×Nat):Prop:=wM x.1.name/\x.1.name.size<=9223372036854775807/\sK S D W x.1.name x.1 (ptr x.2)
def Aj(h:sK S D W nm t (ptr b)):D b/\∃p pk v,W.heap[b]?=some (.cells #[p,pk,.string nm,v,.bool false,.bool false] 173 (0,0)):=by
 obtain⟨b',pos,pk,v,e,I,U,h3⟩:=h;simp at e;subst e;exact⟨I,_,_,_,U⟩
abbrev Iw(S:Sg)(D:Qx)(W:World):={x:Y×Nat//agO S D W x}
def cfF(x y:Iw S D W):Int:=compareBytes x.1.1.name.data.toList y.1.1.name.data.toList
def qG(x:Iw S D W):Value:=ptr x.1.2
def ltF(x y:Iw S D W):ltOf cfF x y=bB x.1.1 y.1.1:=O3 _ _
def agP:SWO (ltOf (cfF (S:=S) (D:=D) (W:=W))) where
 irrefl x:=by rw[ltF,fY];simp[List.lt_irrefl]
 trans x y z I U:=by
  rw[ltF,fY]at*;simp only[decide_eq_true_eq]at*;exact List.lt_trans I U
 ntrans x y z I U:=by
  rw[ltF,fY]at*;simp only[decide_eq_false_iff_not,List.not_lt]at*;exact List.le_trans U I
def Fz{α:Type}[Inhabited α]{enc:α->Value}{w:World}{cur:Array Value}{e:TypeId}(F:Array α)(hb:w.heap[g]?=some (.cells cur e (0,0))):
 (sortWorld enc w g 0 n F os).heap[g]?=some (.cells (putCells enc 0 F cur) e (0,0)):=by
 have hg:g<w.heap.size:=(Array.getElem?_eq_some_iff.1 hb).1;unfold sortWorld;exact M159
def nI{α:Type}[Inhabited α]{enc:α->Value}{w:World}(F:Array α)(k:Nat)(hk:k<w.heap.size)(bk:k≠g):
 (sortWorld enc w g 0 n F os).heap[k]?=w.heap[k]?:=by
 unfold sortWorld;exact M160
def Ak{α:Type}[Inhabited α]{enc:α->Value}(cur:Array Value)(F:Array α)(h:F.size<=cur.size):(putCells enc 0 F cur).toList.take F.size=F.toList.map enc:=M96
def Ix{P:Y->Value->Prop}:∀{l:List Y} {ps:List Value},All2 (λm p=>sK S D W m.name m p) l ps->(∀m∈l,wM m.name/\m.name.size<=9223372036854775807)->
 ∃d:List (Iw S D W),d.map (λx=>x.1.1)=l/\d.map qG=ps
 |[],[],_,_=>⟨[],rfl,rfl⟩
 |m::l,p::ps,h,hc=>by
  obtain⟨d,I,U⟩:=Ix (P:=P) h.2 λm hm=>hc m (by simp[hm]);obtain⟨b,pos,pk,v,e,h3⟩:=id h.1;subst e;exact⟨⟨(m,b),(hc m i6).1,(hc m i6).2,h.1⟩::d,by simp[I],by simp[U,qG]⟩
 |[],_::_,h,_=>h.elim
 |_::_,[],h,_=>h.elim
def Iy:∀(d:List (Iw S D W)),All2 (λm p=>sK S D W m.name m p) (d.map λx=>x.1.1) (d.map qG)
 |[]=>trivial
 |x::d=>⟨x.2.2.2,Iy d⟩
def yt{l:List Y}(aL:W.ownsRow base 97 1 v l.length ps)(eO:All2 (λm p=>sK S D W m.name m p) l ps)(hl:l≠[])(hn:∀m∈l,wM m.name/\m.name.size<=9223372036854775807)(uu:(l.map (·.name)).Nodup)(cF:l.length<=1099511627776)(hD:∀g,v.ownBlock=some g->¬D g)(mY:Lo D W.heap.size)(ht:jE D W):
 Calls prog 109 #[v] W λe W'=>e=.returned (.tuple #[])/\(∃wO,W'.ownsRow base 97 1 v (ib l).length wO/\All2 (λm p=>sK S D W' m.name m p) (ib l) wO)/\iN (λb=>v.ownBlock=some b) W W':=by
 have adN:=aL;rcases aL.2 with⟨_,h0⟩|⟨g,cap,cur,rfl,hg,Sd,KX,hm,hs,tB⟩
 .exact absurd (jQe h0) hl
 have hDg:=hD g rfl;obtain⟨d,hd1,O4⟩:=Ix (P:=λ_ _=>True) eO hn;have Se:d.length=l.length:=by rw[<-hd1];simp
 have:Inhabited (Iw S D W):=by
  cases d with
  |nil=>simp at Se;exact absurd (jQe Se.symm) hl
  |cons x _=>exact⟨x⟩
 have aM:=jQ2 Sd;rw[Nat.mul_one]at hs tB;have hH:Holds qG W g 0 d.toArray:=by
  intro hp hj;have Sf:hp<d.length:=G9 hj
  refine⟨?_,by simp[World.frozen?,Sd]⟩;have I:(cur.toList.take l.length)[hp]?=(d.map qG)[hp]?:=by rw[tB,O4]
  rw[List.getElem?_take_of_lt M]at I;simp only[World.cell?,Sd,jRd];simp only[Option.isSome_none,jQk,jR1];rw[<-jRr,I];simp[Sf]
 have Sh:CmpReads prog 148 #[] (qG (S:=S) (D:=D) (W:=W)) cfF g 0 d.toArray.size W:=by
  intro m os dk Xr x y;have hb:∀z:Iw S D W,∃p pk v,(sortWorld qG W g 0 m dk os).heap[z.1.2]?=some (.cells #[p,pk,.string z.1.1.name,v,.bool false,.bool false] 173 (0,0)):=λz=>by
   obtain⟨I,p,pk,v,U⟩:=Aj z.2.2.2;refine⟨p,pk,v,(nI dk z.1.2 (jQ2 U) ?_).trans U⟩;intro e;rw[e]at I;exact hDg I
  obtain⟨p1,k1,v1,b1⟩:=hb x;obtain⟨p2,k2,v2,b2⟩:=hb y;have Ng:jE D (sortWorld qG W g 0 m dk os):=⟨ht.1,λc c1 c2=>(jQi (w:=W) (nI dk _ (jQs (ht.2 c c1 c2)) (λe=>hDg (by rw[<-e];exact ht.1)))).trans (ht.2 c c1 c2)⟩;exact uX b1 b2 x.2.1 x.2.2.1 y.2.1 y.2.2.1 Ng
 have Iz:=Go.Proofs.Any.slices_SortFunc sortF qG (λ_=>rfl) cfF agP 148 #[] g 0 cap d.toArray W Tryz.call148 Sh.lays hH aM (by simp;omega)
 change Calls prog 147 _ _ _ at Iz
 have j8:d.toArray.size=l.length:=G9 Se
 rw[j8]at Iz;have hpost:∀(d':Array (Iw S D W)) (n:Nat) (os:Array Obj),PermIn 0 l.length d.toArray d'->SortedIn (ltOf cfF) 0 l.length d'->
  (∃wO,(sortWorld qG W g 0 n d' os).ownsRow base 97 1 (.slice (some ⟨g,0,none⟩) l.length cap) (ib l).length wO/\All2 (λm p=>sK S D (sortWorld qG W g 0 n d' os) m.name m p) (ib l) wO)/\iN (λb=>Value.ownBlock (.slice (some ⟨g,0,none⟩) l.length cap)=some b) W (sortWorld qG W g 0 n d' os):=by
  rintro d' n os ⟨Xs,_,j⟩ Nh;have Al:d'.size=l.length:=G9 (Xs.trans j8)
  have K6:d'.toList.Perm d:=M125
  have bo:d'.toList.map (λx=>x.1.1)=ib l:=by
   refine D9 (hd1▸K6.map _) uu ?_;rw[List.pairwise_map,List.pairwise_iff_getElem];intro i hp hi hj hij;have:=Nh i hp (jQc _) hij (by simpa[Al]using hj);rw[ltF,getElem!_pos _ hp (G9 hj),getElem!_pos _ i (G9 hi)]at this;exact M152
  have gP:(ib l).length=l.length:=by rw[<-bo];simp[Al]
  have j6:∀b,b<W.heap.size->b≠g->(sortWorld qG W g 0 n d' os).heap[b]?=W.heap[b]?:=λb hb bk=>nI d' b hb bk;have hwz:W.heap.size<=(sortWorld qG W g 0 n d' os).heap.size:=by
   unfold sortWorld grow putRow mapBlock;simp[Sort.ahead]
  refine⟨⟨d'.toList.map qG,⟨by rw[gP];simp[Al],.inr ⟨g,cap,putCells qG 0 d' cur,by rw[gP],hg,Fz _ Sd,by rw[gP];exact KX,hm,by simp[putCells,hs],?_⟩⟩,?_⟩,?_⟩
  .rw[Nat.mul_one,gP,<-Al,Ak _ _ (by rw[Al,hs];exact KX)]
  .rw[<-bo];have eR:au D D W (sortWorld qG W g 0 n d' os):=λb hb=>⟨hb,j6 b (mY b hb) (λe=>hDg (e▸hb))⟩;exact(Iy d'.toList).imp λm p j=>j.move (λ_ _ h=>h) eR
  .refine⟨rfl,rfl,rfl,hwz,λb hb bk=>j6 b hb λe=>bk (by rw[e];rfl),λb hb cs t f hc=>?_⟩;simp[Value.ownBlock]at hb;subst hb;rw[Sd]at hc;cases hc;decide
 clear aL adN eO hn uu Sh hH hd1 O4 ht hs tB Sd;go_in;go_wp21;refine Iz.mono ?_;rintro e O ⟨rfl,d',n,os,j,Nh,rfl⟩;have HP:=Z (hpost d' n os j Nh);clear hpost Iz j Nh;go_wp21;refine jRq (v:=.tuple #[]) (by simp[results,Tryz.results109,go_sem]) rfl ?_;exact⟨rfl,HP.1⟩
def afH(a b:ByteArray):(a==b)=decide (a=b):=by
 obtain⟨a⟩:=a;obtain⟨b⟩:=b;show(a==b)=_;by_cases h:a=b
 .subst h;simp
 .simp[h]
abbrev isStr(s:ByteArray)(k:Value):Bool:=match k with|.string a=>s==a|_=>false
def rL(s):∀{es:List MapEntry} {i:Nat},(∀e∈es,∃a,e.key=.string a)->Instr.findNow .string (.string s) es i=some (hitE (isStr s) es i)
 |[],_,_=>rfl
 |e::es,i,h=>by
  obtain⟨a,ha⟩:=h e i6;have ih:=rL s (es:=es) (i:=i+1) λe he=>h e (by simp[he]);unfold Instr.findNow;rw[hitE,ha];cases hq:(s==a)with
  |true=>simp[Instr.sameNow,hq]
  |false=>simp[Instr.sameNow,hq,ih]
def J0(W:World)(so:Option Nat)(nms:List ByteArray):Prop:=
 (so=none/\nms=[])\/∃mb es ck,so=some mb/\W.heap[mb]?=some (.map es ck)/\es.toList.map (·.key)=nms.map Value.string/\∀e∈es.toList,∃T x,e.val=.iface T x
def J0.block(h:J0 W so nms)(hb:∀mb,so=some mb->W'.heap[mb]?=W.heap[mb]?):J0 W' so nms:=by
 obtain h|⟨mb,es,ck,I,U,h3⟩:=h
 .exact .inl h
 .exact .inr ⟨mb,es,ck,I,(hb mb I).trans U,h3⟩
def Ct{es:List MapEntry}(h:es.map (·.key)=nms.map Value.string):∀e∈es,∃a,a∈nms/\e.key=.string a:=by
 intro e he;have:e.key∈es.map (·.key):=jQu.2 ⟨e,he,rfl⟩;rw[h]at this;obtain⟨a,I,U⟩:=jQu.1 this;exact⟨a,I,U.symm⟩
def Va:Tryz.prog.underlying 176=some (.map 9 179):=g9
def GP:Tryz.prog.underlying 9=some .string:=g9
def Vb(W):(zeroValue 179).run prog W=.ok .nilIface W:=g9
def ckS(s W)(e:Bool):(Instr.checkKey e 10000 9 (.string s)).run prog W=.ok () W:=by
 have h:∀n,(Instr.checkKey e (n+1) 9 (.string s)).run prog W=.ok () W:=λn=>by
  unfold Instr.checkKey;simp[jQj GP,Result.andThen]
 exact h 9999
section
variable{es:Array MapEntry}
def aaP(s)(hb:W.heap[mb]?=some (.map es ck))(hk:es.toList.map (·.key)=nms.map Value.string):
 (Instr.lookup 176 (.map (some mb)) (.string s) false).run prog W=.ok (((hitE (isStr s) es.toList 0).map (·.2)).getD .nilIface) W:=by
 have hf:=MapKept.run_findKey (P:=prog) (w:=W) GP (rL s (es:=es.toList) (i:=0) λe he=>by obtain⟨a, -,h⟩:=Ct hk e he;exact⟨a,h⟩);unfold Instr.lookup;simp only[jRp,jQj Va,jR8,MapKept.run_getObj_map hb,Sem.run_pure,ckS,hf];cases hh:hitE (isStr s) es.toList 0 with
 |none=>simp[Vb,Result.andThen]
 |some jv=>simp[Result.andThen]
def EZ(s):(Instr.lookup 176 (.map none) (.string s) false).run prog W=.ok .nilIface W:=by
 unfold Instr.lookup;simp[jRp,jQj Va,jR8,ckS,Instr.findKey,jQj GP,Instr.findNow,Vb,Result.andThen]
def GQ(s v)(hb:W.heap[mb]?=some (.map es ck))(hk:es.toList.map (·.key)=nms.map Value.string)(fp:hitE (isStr s) es.toList 0=none):
 ∃w2,(Instr.mapUpdate 176 (.map (some mb)) (.string s) v).run prog W=.ok () w2/\DD mb (es.push {key:=.string s,val:=v,born:=ck}) (ck+1) W w2:=by
 have hf:=MapKept.run_findKey (P:=prog) (w:=W) GP (rL s (es:=es.toList) (i:=0) λe he=>by obtain⟨a, -,h⟩:=Ct hk e he;exact⟨a,h⟩);refine⟨_,?_,Cq hb⟩;unfold Instr.mapUpdate;simp[jRp,jQj Va,jR8,MapKept.run_getObj_map hb,ckS,hf,fp,MapKept.run_setObj_map _ hb,Result.andThen]
def mkMap(t:TypeId)(w):(Instr.makeMap t none).run prog w=.ok (.map (some w.heap.size)) (w.alloc (.map #[] 0)):=rfl
def E4(mb:Nat)(w):(binOp .eql 176 (.map (some mb)) (.map none)).run prog w=.ok (.bool false) w:=g9
def E5(w):(binOp .eql 176 (.map none) (.map none)).run prog w=.ok (.bool true) w:=g9
@[go_sem ↓] theorem afI(b:Nat)(w):(callMethod (.iface 97 (ptr b)) "Id" #[]).run prog w=.ok (.enter 174 #[ptr b]) w:=g9
end
def DW(W:World)(B8:Nat)(so:Option Nat)(nms:List ByteArray)(s:ByteArray)(e:Ending)(W':World):Prop:=
 (s∈nms/\(∃T x,e=.returned (.iface T x))/\S5 W W')\/
 (¬s∈nms/\e=.returned .nilIface/\∃ER,W'.heap[B8]?=some (.cells #[.map ER] 176 (0,0))/\J0 W' ER (nms++[s])/\iN (λx=>x=B8\/so=some x) W W'/\(ER=so\/∃Uv,ER=some Uv/\W.heap.size<=Uv))
def iN.Uw(h:S5 W W')(hn:∀b,E1 b->∀cs t f,W.heap[b]?=some (.cells cs t f)->t≠158/\t≠237):iN E1 W W':=
 ⟨h.os,h.tape,h.output,h.size,λb hb _=>h.block b hb,hn⟩
def iN.then(h:iN E1 W W')(Ao:W2.os=W'.os)(BH:W2.tape=W'.tape)(DC:W2.output=W'.output)(hz:W'.heap.size<=W2.heap.size)(hb:∀b,b<W'.heap.size->¬E1 b->b<W.heap.size->W2.heap[b]?=W'.heap[b]?):iN E1 W W2:=
 ⟨Ao.trans h.os,BH.trans h.tape,DC.trans h.output,jQd h.size hz,λb dD hn=>(hb b (jQb dD h.size) hn dD).trans (h.block b dD hn),h.nt⟩
def Ox{s:ByteArray}{es:List MapEntry}(h:es.map (·.key)=nms.map Value.string){jv:Nat×Value}(hh:hitE (isStr s) es 0=some jv):s∈nms/\∃e∈es,jv.2=e.val:=by
 obtain⟨hp,v⟩:=jv;obtain⟨k,e, -,U,h3,h4⟩:=oD hh;have he:=jQ8 U;obtain⟨a,ha,hk⟩:=Ct h e he;rw[hk]at h3;have:s=a:=by simpa[isStr,afH]using h3
 exact⟨this▸ha,e,he,h4⟩
def J1{s:ByteArray}{es:List MapEntry}(h:es.map (·.key)=nms.map Value.string)(hh:hitE (isStr s) es 0=none):¬s∈nms:=by
 intro hs;have:Value.string s∈es.map (·.key):=by rw[h];exact jQu.2 ⟨s,hs,rfl⟩
 obtain⟨e,he,hk⟩:=jQu.1 this;have:=sR hh e he;rw[hk]at this;simp[isStr,afH]at this
def GB{s:ByteArray}{pk:Option Addr}(hB:W.heap[B8]?=some (.cells #[.map so] 176 (0,0)))(sG:J0 W so nms)(I:ce W b 1 (.pointer pk))(U:ce W b 2 (.string s))(hs:wM s)(hz:s.size<=9223372036854775807)(ht:jE D W):
 Calls prog 104 #[ptr B8,.iface 97 (ptr b)] W (DW W B8 so nms s):=by
 have ag:=nx b s pk I U hs hz ht;have Qo:∀x,(x=B8\/so=some x)->∀cs t f,W.heap[x]?=some (.cells cs t f)->t≠158/\t≠237:=M107
 rcases sG with⟨rfl,rfl⟩|⟨mb,es,ck,rfl,hm,hk,hv⟩
 .have HB:=Z hB;have HNT:=Z Qo;clear hB Qo I U hs ht;go_in;go_wp21;refine ag.mono ?_;rintro e O ⟨rfl,m,rfl⟩;have fw:(W.drewN m).heap[B8]?=some (.cells #[.map none] 176 (0,0)):=HB.1;have jw:S5 W (W.drewN m):=jRb (jQ5 _ _) m;generalize W.drewN m=W2 at*;have hl:=EZ (W:=W2) s;have heq:=E5 W2;have kh:=mkMap 175 W2;have c0:=jQh fw;have Z7q:=aj (an W2 (.map #[] 0)) fw (jQ2 fw);have ee:=jQ2 fw;go_wp2_with (refine eT rfl 176 _ _ rfl B8 0 (.map (some W2.heap.size)) rfl rfl 176 _ Z7q g9 (by simp[Value.cells,Value.oneCell']) (by simp[Value.cells]) #[.map (some W2.heap.size)] (by simp[Value.cells]) ?_);intro w3 fm;have sC:w3.heap[W2.heap.size]?=some (.map #[] 0):=(fm.other _ M).trans (ak W2 _);obtain⟨w4,Oj,gF⟩:=GQ (nms:=[]) s (.iface 97 (ptr b)) sC rfl rfl;exact M30
 .obtain⟨HB,HNT,HM,HK,HV⟩:=Z5 hB Qo hm hk hv;clear hB Qo I U hs ht hm hk hv;go_in;go_wp21;refine ag.mono ?_;rintro e O ⟨rfl,m,rfl⟩;have fw:(W.drewN m).heap[B8]?=some (.cells #[.map (some mb)] 176 (0,0)):=HB.1;have Of:(W.drewN m).heap[mb]?=some (.map es ck):=HM.1;have jw:S5 W (W.drewN m):=jRb (jQ5 _ _) m;have yW:mb<W.heap.size:=jQ2 HM.1;generalize W.drewN m=W2 at*;have hl:=aaP s Of HK.1;have heq:=E4 mb W2;have c0:=jQh fw;cases hh:hitE (isStr s) es.toList 0 with
  |some jv=>
   exact M68
  |none=>
   rw[hh]at hl;simp only[Option.map_none,Option.getD_none]at hl;obtain⟨w4,Oj,gF⟩:=GQ s (.iface 97 (ptr b)) Of HK.1 hh;exact M31
noncomputable def okTid(t:TypeId):Bool:=
 match Tryz.prog.underlying t with
 |some (.pointer te)=>(match Tryz.prog.info? t with|some i=>i.comparable|none=>false)&&(match Tryz.prog.info? te with|some hp=>hp.size !=0|none=>false)
 |_=>false
def Yp:okTid 89=true:=g9
def Yq:okTid 127=true:=g9
def Yr:okTid 129=true:=g9
def Ys:okTid 131=true:=g9
def TM:okTid 203=true:=g9
def PU:okTid 133=true:=g9
def Jq:okTid 92=true:=g9
def aeD:okTid 135=true:=g9
def abG:okTid 137=true:=g9
def Jr:okTid 33=true:=g9
def Yt:okTid 184=true:=g9
def Yu:okTid 53=true:=g9
def X6:okTid 93=true:=g9
def Eu(k:Int):okTid (tid k)=true:=by
 rcases de k with⟨-,g⟩|⟨-,g⟩|⟨-,g⟩|⟨-,g⟩|⟨-,g⟩|⟨-,g⟩|⟨-,g⟩|⟨-,g⟩|⟨-,g⟩|⟨-,g⟩|⟨-,g⟩|⟨-,g⟩
 .rw[g];exact Yp
 .rw[g];exact Yq
 .rw[g];exact Yr
 .rw[g];exact Ys
 .rw[g];exact TM
 .rw[g];exact PU
 .rw[g];exact Jq
 .rw[g];exact aeD
 .rw[g];exact abG
 .rw[g];exact Jr
 .rw[g];exact Yt
 .rw[g];exact Yu
def tV{t:TypeId}(h:okTid t=true):∃te i hp,Tryz.prog.underlying t=some (.pointer te)/\Tryz.prog.info? t=some i/\i.comparable=true/\Tryz.prog.info? te=some hp/\hp.size≠0:=by
 unfold okTid at h;split at h
 .rename_i te Jt
  rw[Bool.and_eq_true]at h;cases hi:Tryz.prog.info? t with
  |none=>rw[hi]at h;simp at h
  |some i=>
   cases hj:Tryz.prog.info? te with
   |none=>rw[hj]at h;simp at h
   |some hp=>
    rw[hi,hj]at h;exact⟨te,i,hp,Jt,rfl,h.1,hj,G9 h.2⟩
 .cases h
def undTyB:(match Tryz.prog.underlying 37 with|some (.interface _)=>true|_=>false)=true:=g9
def EE:∃ms,Tryz.prog.underlying 37=some (.interface ms):=by
 have h:=undTyB;split at h
 .rename_i ms jK;exact⟨ms,jK⟩
 .cases h
def TN:Tryz.prog.underlying 223=some (.map 37 4):=g9
def aai(W):(zeroValue 4).run prog W=.ok (.bool false) W:=g9
def aeE(ms:Array (String×TypeId))(k):∀k',Instr.sameNow (.interface ms) k k'=none:=λk'=>by cases k'<;>rfl
def ckT{t:TypeId}(ht:okTid t=true)(u:Nat)(W)(e:Bool):(Instr.checkKey e 10000 37 (.iface t (ptr u))).run prog W=.ok () W:=by
 obtain⟨ms,hm⟩:=EE;obtain⟨te,i,hp,I,U,h3,h4,h5⟩:=tV ht;have h0:∀n,(Instr.checkKey e (n+1) t (ptr u)).run prog W=.ok () W:=λn=>by
  unfold Instr.checkKey;simp[jQj I,Result.andThen]
 have h:∀n,(Instr.checkKey e (n+1+1) 37 (.iface t (ptr u))).run prog W=.ok () W:=λn=>by
  unfold Instr.checkKey;simp[jQj hm,Result.andThen,typeInfo,U,h3,h0]
 exact h 9998
section
variable{t:TypeId}
def aeF(hg:GH w S D obj W)(ha:S a=some s)(hb:S b=some s')(ht:okTid t=true):(Op.equal 37 (.iface t (ptr a)) (.iface t' (ptr b))).run prog W=.ok (t==t'&&a==b) W:=by
 obtain⟨ms,hm⟩:=EE;obtain⟨te,i,hp,I,U,h3,h4,h5⟩:=tV ht;obtain⟨cs,ty,hc⟩:=hg.A9 a s ha;obtain⟨Ek,ty',yq⟩:=hg.A9 b s' hb;exact Ja hm I U h3 h4 h5 hc yq
def Tu{t u v:TypeId}{x y:Value}{r:Bool}(h:(Op.equal t (.iface u x) (.iface v y)).run prog W=.ok r W):(binOp .eql t (.iface u x) (.iface v y)).run prog W=.ok (.bool r) W:=by
 simp only[binOp];simp[h]
def abH{t:TypeId}{x y:Option Addr}{r:Bool}(h:(Op.equal t (.pointer x) (.pointer y)).run prog W=.ok r W):(binOp .eql t (.pointer x) (.pointer y)).run prog W=.ok (.bool r) W:=by
 simp only[binOp];simp[h]
def sL(hg:GH w S D obj W){u:Value}(hu:dq S u x)(hv:dq S v y):∃r:Bool,(binOp .eql 37 u v).run prog W=.ok (.bool r) W/\(r=true->dX x y)/\(r=true↔u=v):=by
 obtain⟨a,rfl,ha⟩:=hu;obtain⟨b,rfl,hb⟩:=hv;refine⟨_,Tu (aeF hg ha hb (Eu _)),λh=>?_,?_⟩
 .simp at h;obtain⟨I,rfl⟩:=h;rw[ha]at hb;exact jQw hb
 .simp
abbrev Th(t:TypeId)(u:Nat)(k:Value):Bool:=match k with|.iface t' (.pointer (some a))=>t==t'&&u==a.block|_=>false
def NC(S:Sg)(es:List MapEntry):Prop:=∀e∈es,∃q s,e.key=.iface (tid s.ld) (ptr q)/\S q=some s
variable{es:Array MapEntry}
def aeG(hg:GH w S D obj W)(ha:S a=some s)(ht:okTid t=true){es:List MapEntry}(hk:NC S es):∀e∈es,(Op.equal 37 (.iface t (ptr a)) e.key).run prog W=.ok (Th t a e.key) W:=by
 intro e he;obtain⟨q,s',I,U⟩:=hk e he;rw[I];exact aeF hg ha U ht
def aeg(hg:GH w S D obj W)(hm:W.heap[mb]?=some (.map es ck))(hk:NC S es.toList)(ha:S a=some s)(ht:okTid t=true):
 (Instr.lookup 223 (.map (some mb)) (.iface t (ptr a)) false).run prog W=.ok (((hitE (Th t a) es.toList 0).map (·.2)).getD (.bool false)) W:=by
 obtain⟨ms,jK⟩:=EE;exact IM TN jK (aeE ms _) (ckT ht a W) (aai W) hm (aeG hg ha ht hk) false
def Pz(ht:okTid t=true):(Instr.lookup 223 (.map none) (.iface t (ptr a)) false).run prog W=.ok (.bool false) W:=by
 obtain⟨ms,jK⟩:=EE;exact Gj TN jK (ckT ht a W) (aai W)
def SZ(v)(hg:GH w S D obj W)(hm:W.heap[mb]?=some (.map es ck))(hk:NC S es.toList)(ha:S a=some s)(ht:okTid t=true)(fp:hitE (Th t a) es.toList 0=none):
 ∃w2,(Instr.mapUpdate 223 (.map (some mb)) (.iface t (ptr a)) v).run prog W=.ok () w2/\DD mb (es.push {key:=.iface t (ptr a),val:=v,born:=ck}) (ck+1) W w2:=by
 obtain⟨ms,jK⟩:=EE;exact kP TN jK (aeE ms _) (ckT ht a W) hm (aeG hg ha ht hk) fp
end
def mI(S:Sg)(W:World)(sb:Nat)(l:List (Option Tm))(cf:Bool):Prop:=∃ms sl,W.heap[sb]?=some (.cells #[.bool false,ms,sl,.bool cf] 124 (0,0))/\S sb=none/\lS S W l sl
def mI.move(h:mI S W sb l cf)(hf:bZ X S rs r W O):mI S O sb l cf:=by
 obtain⟨ms,sl,I,U,h3⟩:=h;exact⟨ms,sl,hf.obj U I,U,h3.move hf⟩
def yn.jl{s:TS}(h:yn S D E W b s):mI S W b s.terms s.comp:=h.tl
def gL(h:mI S W sb l cf):Calls prog 81 #[ptr sb] W (dL W (.bool (aK l))):=by
 obtain⟨ms,sl,I,U,h3⟩:=h;obtain⟨c0,c1,c2,c3⟩:=dx I;have ag:=gI h3;clear I U h3;exact M83
def iq(h:mI S W sb l cf):Calls prog 87 #[ptr sb] W (dL W (.bool (!aK l&&!isAllL l))):=by
 obtain⟨ms,sl,I,U,h3⟩:=h;obtain⟨c0,c1,c2,c3⟩:=dx I;have ag:=gI h3;have aD:=fI h3;clear I U h3;generalize aK l=r1 at*;generalize isAllL l=r2 at*;cases r1
 .go_in;go_wp21;refine rv ag ?_;go_wp21;refine rv aD ?_;go_wp2;go_ret;exact⟨i6,rfl⟩
 .go_in;go_wp21;refine rv ag ?_;go_wp2;go_ret;exact⟨i6,rfl⟩
def ab8(W:World)(e:Ending)(W':World):Prop:=∃b,e=.returned (ptr b)/\S5 W W'
def bJ(s)(x:Option Addr)(n c:Nat)(W):Calls prog 132 #[.string s,.slice x n c] W (ab8 W):=by
 by_cases hs:s=es
 .have hn:=gB hs;have zl:s.toList.isEmpty=true:=by subst hs;rw[jRk];rfl
  go_in;go_wp2;go_ret;exact⟨_,rfl,an _ _⟩
 .have hn:=jX hs;have zl:s.toList.isEmpty=false:=by
   cases h:s.toList.isEmpty with
   |false=>rfl
   |true=>rw[List.isEmpty_iff.1 h]at hn;simp at hn
  go_in;go_wp2;go_ret;exact⟨_,rfl,an _ _⟩
def bG(hT:dS NS Q w S D obj rs K r)(bD:Ok w S D obj rs K E r W)(hs:S b=some (aG t))(cP:Fb NS Q w t)(AB:2*J rs false false t<r):
 Calls prog 77 #[ptr b] W (aV w S D obj rs K E r W λv W'=>∃sb,v=ptr sb/\yn S D E W' sb ((fs w K).ts t)):=by
 have ag:=hT E W b t 0 bD hs cP AB;have hk:(aG t).ld=10\/(aG t).ld=17:=M150
 obtain⟨-, -, -, -, -, -, -, -, -,n10, -⟩:=bD.gh.node b _ hs;obtain⟨ts,ms,es,ps,vs,hb, -⟩:=n10 hk;obtain⟨c0, -⟩:=ao hb;clear hb n10 bD hs hT cP AB hk;go_in;go_wp21;refine ag.mono ?_;rintro e O ⟨v,rfl,⟨sb,rfl,k1⟩,k2,k3⟩;have HP:=Z (show aV w S D obj rs K E r W (λv W'=>∃sb,v=ptr sb/\yn S D E W' sb ((fs w K).ts t)) (.returned (ptr sb)) O from⟨_,rfl,⟨sb,rfl,k1⟩,k2,k3⟩);clear k1 k2 k3 ag;exact M21
def YU(h:mI S W sb l cf)(bk:(!aK l&&!isAllL l)=false)(fn:Nat)(cap:Array Value)(eg:∀args w,(callFunc fn args).run prog w=.ok (.enter fn args) w)(x:Bool)(P:World->Prop)(hf:Calls prog fn (#[.pointer none]++cap) W λe W'=>e=.returned (.bool x)/\P W'):
 Calls prog 89 #[ptr sb,.func (.func fn) #[] cap] W λe W'=>e=.returned (.bool x)/\P W':=by
 have ag:=iq h;rw[bk]at ag;clear h bk;go_in;go_wp21;refine rv ag ?_;clear ag;go_wp2_with (go_at_fn fn;refine hf.mono ?_;rintro e O ⟨rfl,j⟩);go_ret;exact⟨rfl,j⟩
def IsR(Inv Fin:World->Prop)(x:Bool)(e:Ending)(W':World):Prop:=e=.returned (.bool x)/\(x=true->Inv W')/\(x=false->Fin W')
def JL(h:mI S W sb l cf)(bk:aK l=false)(hna:isAllL l=false)(CW:∀x∈l,Tp x)(fn:Nat)(cap:Array Value)(eg:∀args w,(callFunc fn args).run prog w=.ok (.enter fn args) w)(g:Option Tm->Bool)(Inv Fin:World->Prop)(Oe:Inv W)(eR:∀W',Inv W'->mI S W' sb l cf/\∀n c a,ce W sb 2 (.slice a n c)->lS S W' l (.slice a n c))(hf:∀W' x p,Inv W'->x∈l->TmV S W' x p->Calls prog fn (#[p]++cap) W' (IsR Inv Fin (g x))):
 Calls prog 89 #[ptr sb,.func (.func fn) #[] cap] W (IsR Inv Fin (l.all g)):=by
 have ag:=iq h;rw[bk,hna]at ag;obtain⟨ms,sl,I,U,h3⟩:=h;obtain⟨a,c,rfl⟩:=h3.form;obtain⟨c0,c1,c2,c3⟩:=dx I;have rO:=h3.max;obtain⟨Oa,HF,DH,HTP,C2⟩:=Z5 eR hf Oe CW c2;clear I U h3 eR hf Oe CW bk hna c0 c1 c3;go_in;go_wp21;refine rv ag ?_;clear ag;go_wp21;clear c2
 go_loopg [17] l.length (λgg s17 wr=>∃kk:Nat,kk<=l.length/\l.length - kk<=gg/\s17=.int .i64 kk/\Aside (Inv wr)/\Aside ((l.drop kk).all g=l.all g))
 case atStart=>exact⟨0,jQc _,M,rfl,DH.1,rfl⟩
 case round=>
  obtain⟨kk,ez,hg,rfl,N,A⟩:=hrel;by_cases aM:kk<l.length
  .have aR:(kk:Int)<(l.length:Int):=M
   obtain⟨x,H⟩:∃x,l[kk]?=some x:=⟨l[kk],by simp[aM]⟩;obtain⟨b,o,p,rfl,hs,hc,ht⟩:=((Oa.1 wr N.out).2 _ _ _ C2.1).nth H;have hm:=jQ8 H;obtain⟨ti,ty,rfl⟩:=HTP.1 x hm;obtain⟨b1,v1,rfl,s1,d1,d2, -,y1⟩:=ht.open;obtain⟨T1,q1,rfl, -⟩:=y1 ty rfl;have hA:=A.out;rw[cZ H,jRl]at hA;have ag:=HF.1 wr _ _ N.out hm ht;have gO:=bO wr;have HA:=Z hA;clear hA H ht hm y1 s1 d1 hs;cases Da:g (some ⟨ti,some ty⟩)with
   |true=>
    have HG:=Z Da;rw[Da]at ag;clear Da;go_wp21;refine rv gO ?_;clear gO;go_wp2_with (go_at_fn fn;refine ag.mono ?_;rintro e O ⟨rfl,Q4, -⟩);have N2:=Z (Q4 i6);clear Q4 ag
    try go_wp21
    go_roundg (l.length - (kk+1))
    case measure=>omega
    case rel=>exact⟨kk+1,M,M,by go_num,N2.1,by have:=HA.1;rw[HG.1,jRn]at this;exact this⟩
   |false=>
    have HG:=Z Da;rw[Da]at ag;clear Da;go_wp21;refine rv gO ?_;clear gO;go_wp2_with (go_at_fn fn;refine ag.mono ?_;rintro e O ⟨rfl, -,Q4⟩);have N2:=Z (Q4 i6);clear Q4 ag
    try go_wp2
    go_ret;have hl:l.all g=false:=by have:=HA.1;rw[HG.1,Bool.false_and]at this;exact this.symm
    exact⟨by rw[hl];rfl,λh=>(by rw[hl]at h;cases h),λ_=>N2.1⟩
  .have aR:¬(kk:Int)<(l.length:Int):=M
   have hA:=A.out;rw[jQf M]at hA;have HA:=Z (show l.all g=true by rw[<-hA];rfl);clear hA;go_wp2;go_ret;exact⟨by rw[HA.1];rfl,λ_=>N.out,λh=>(by rw[HA.1]at h;cases h)⟩
def BQ(w:List ah)(S:Sg)(D:Qx)(obj:Nat->Nat)(rs:List Nat)(K:Nat)(E G:Qx)(r:Nat)(so:Option Nat)(W:World)(x:Bool)(e:Ending)(W':World):Prop:=
 e=.returned (.bool x)/\Ok w S D obj rs K E r W'/\bZ (λb=>so=some b) S rs r W W'/\(x=true->gp w K S false G W' so)
def A4(F:Fs)(x:Option Tm):Bool:=match x with|some x=>(match x.jg with|some a=>F.cmp a false|none=>true)|none=>false
def A3(F)(s:TS):lB F s=if isAllL s.terms then s.comp else if aK s.terms then false else s.terms.all (A4 F):=rfl
def gp.map(h:gp w K S d G W so)(hf:bZ Wc S rs r W O):gp w K S d G O so:=λb hb=>by
 obtain⟨es,ck,I,U⟩:=h b hb;exact⟨es,ck,hf.map (λh=>h) I,U⟩
@[go_sem ↓] theorem agz(w):(binOp .eql 152 (.pointer none) (.pointer none)).run prog w=.ok (.bool true) w:=g9
@[go_sem ↓] theorem aeT(b:Nat)(w):(binOp .eql 152 (ptr b) (.pointer none)).run prog w=.ok (.bool false) w:=g9
@[go_sem ↓] theorem agA(w):(binOp .neq 152 (.pointer none) (.pointer none)).run prog w=.ok (.bool false) w:=g9
@[go_sem ↓] theorem aeU(b:Nat)(w):(binOp .neq 152 (ptr b) (.pointer none)).run prog w=.ok (.bool true) w:=g9
def L8:Calls prog 176 #[.pointer none,ptr cb] W λe W'=>e=.returned (.bool false)/\S5 W W':=by
 go_in;go_wp21;have hS:=Z (show∀O,S5 W O->S5 W O from λ_ h=>h);refine t8 hS (jQ5 _ _).drew λai=>?_;refine t2 0 1 ?_;refine t7 2 ?_;refine bg 3 ?_;refine bg 4 ?_;refine bg 5 ?_;refine bg 6 ?_;refine bg 7 ?_;refine bg 8 ?_;refine bg 9 ?_;refine t2 10 11 ?_;refine jQl g9 ?_ _;go_wp2;go_ret;exact⟨rfl,ai⟩
def Gq(hE:Env NS Q w rs cs)(hC:dE NS Q w S D obj rs K r)(bD:Ok w S D obj rs K E r W)(ht:TmV S W (some ⟨ti,some ty⟩) p)(fQ:jH NS Q w rs B ty)(hB:2*B<=r)(hG:∀q s,G q->S q=some s->B<=J rs true false s)(mw:gp w K S false G W so)(Rv:ce W cb 0 (.map so))(KU:S cb=none):
 Calls prog 176 #[p,ptr cb] W (BQ w S D obj rs K E G r so W ((fs w K).cmp ty false)):=by
 obtain⟨b1,v1,rfl,s1,d1,d2, -,y1⟩:=ht.open;obtain⟨T1,q1,rfl,qy⟩:=y1 ty rfl;have hbW:S5 W W.drew:=(jQ5 _ _).drew;have hJ:=dM (rs:=rs) (v:=true) (f:=true) (v':=true) (f':=false) i6 i6 ty;have ag:=hC E G W.drew _ ty false so (bD.below hE.hs hbW) qy fQ.1 (fQ.ck hB) mw (λq s hq hs=>by have:=hG q s hq hs;have:=fQ.2.1;omega);have HO:=Z (bD.below hE.hs hbW);clear qy fQ hB hG mw hC y1 ht bD d1;obtain⟨hS,HF0,HMK⟩:=Z3 (show∀O,(Ok w S D obj rs K E r O/\bZ (λb=>so=some b) S rs r W O)->(Ok w S D obj rs K E r O/\bZ (λb=>so=some b) S rs r W O)/\ce O b1 1 (.iface T1 (ptr q1))/\ce O cb 0 (.map so)from λO h=>⟨h,h.2.cell s1 d2,h.2.cell KU Rv⟩) (show bZ (λb=>so=some b) S rs r W W.drew from Below.fr hbW) (show∀O,Ok w S D obj rs K E r O->bZ (λb=>so=some b) S rs r W O->(Ok w S D obj rs K E r O/\bZ (λb=>so=some b) S rs r W O)from λ_ I U=>⟨I,U⟩);cases hr:(fs w K).cmp ty false with
 |true=>
  have HU:=Z (show∀u wA,((u=.pointer none/\(fs w K).cmp ty false=true/\gp w K S false G wA so)\/(∃b,u=ptr b/\(fs w K).cmp ty false=false))->u=.pointer none/\gp w K S false G wA so from λu wA hu=>by
   rcases hu with⟨I,U,h3⟩|⟨b,I,U⟩
   .exact⟨I,h3⟩
   .rw[hr]at U;cases U)
  clear hr;go_in;go_wp21;refine t8 hS ⟨HO.1,HF0.1⟩ λai=>?_;refine t4 0 1 2 3 ?_;refine t4 4 5 6 7 ?_;refine rd 8 rfl λK hK=>?_;go_simp;clear ai;refine ag.mono ?_;rintro eA wA ⟨u,rfl,hu,g1,g2⟩;obtain⟨rfl,yx⟩:=HU.1 _ _ hu;have Tl:=Z yx;have hh:=HMK.1 _ g1 (HF0.1.trans g2);refine hK.out _ _ (hS.1 _ hh) (λai=>?_);clear hu g1 g2 yx hh;clear hK K;refine t2 9 10 ?_;refine t7 11 ?_;refine jQl g9 ?_ _;have HH:=Z ai.1;clear ai;go_wp2;go_ret;exact⟨rfl,HH.1.1,HH.1.2,λ_=>Tl.1⟩
 |false=>
  have HU:=Z (show∀u wA,((u=.pointer none/\(fs w K).cmp ty false=true/\gp w K S false G wA so)\/(∃b,u=ptr b/\(fs w K).cmp ty false=false))->∃b,u=ptr b from λu wA hu=>by
   rcases hu with⟨I,U,h3⟩|⟨b,I,U⟩
   .rw[hr]at U;cases U
   .exact⟨b,I⟩)
  clear hr;go_in;go_wp21;refine t8 hS ⟨HO.1,HF0.1⟩ λai=>?_;refine t4 0 1 2 3 ?_;refine t4 4 5 6 7 ?_;refine rd 8 rfl λK hK=>?_;go_simp;clear ai;refine ag.mono ?_;rintro eA wA ⟨u,rfl,hu,g1,g2⟩;obtain⟨be,rfl⟩:=HU.1 _ _ hu;have hh:=HMK.1 _ g1 (HF0.1.trans g2);refine hK.out _ _ (hS.1 _ hh) (λai=>?_);clear hu g1 g2 hh;clear hK K;refine t2 9 10 ?_;refine t7 11 ?_;refine jQl g9 ?_ _;have HH:=Z ai.1;clear ai;go_wp2;go_ret;exact⟨rfl,HH.1.1,HH.1.2,λh=>by cases h⟩
def gp.block(h:gp w K S d G W so)(hb:∀b,so=some b->O.heap[b]?=W.heap[b]?):gp w K S d G O so:=λb e=>by
 obtain⟨es,ck,I,U⟩:=h b e;exact⟨es,ck,(hb b e).trans I,U⟩
def gp.lt(h:gp w K S d G W so):∀b,so=some b->b<W.heap.size:=λb e=>by
 obtain⟨es,ck,I,U⟩:=h b e;exact jQ2 I
def afO(a b):(#[a]++#[b]:Array Value)=#[a,b]:=rfl
def Vh(hE:Env NS Q w rs cs)(hC:dE NS Q w S D obj rs K r)(bD:Ok w S D obj rs K E r W)(h:mI S W sb l cf)(ha:isAllL l=false)(Hy:NF l)(fQ:TL (jH NS Q w rs B) l)(hB:2*B<=r)(hG:∀q s,G q->S q=some s->B<=J rs true false s)(mw:gp w K S false G W so)(Rv:W.cell? ⟨cb,0,none⟩=some (.map so))(KU:S cb=none):
 Calls prog 89 #[ptr sb,.func (.func 176) #[] #[ptr cb]] W (BQ w S D obj rs K E G r so W (if aK l then false else l.all (A4 (fs w K)))):=by
 have CW:=Hy.tp ha;obtain⟨ms,sl,q1,q2,q3⟩:=id h;obtain⟨c0,c1,c2,c3⟩:=dx q1;cases he:aK l with
 |true=>
  have hf:Calls prog 176 (#[.pointer none]++#[ptr cb]) W λe W'=>e=.returned (.bool false)/\Below W.heap.size W W':=by
   rw[afO];exact L8
  have hc:=YU h (by rw[he];rfl) 176 #[ptr cb] Tryz.call176 false (λW'=>Below W.heap.size W W') hf;refine hc.mono ?_;rintro e W' ⟨rfl,hb⟩;exact⟨rfl,bD.below hE.hs hb,Below.fr hb,λh=>by cases h⟩
 |false=>
  have eR:∀W',(Ok w S D obj rs K E r W'/\bZ (λb=>so=some b) S rs r W W'/\gp w K S false G W' so)->mI S W' sb l cf/\∀n c a,W.cell? ⟨sb,2,none⟩=some (.slice a n c)->lS S W' l (.slice a n c):=λW' hi=>⟨h.move hi.2.1,λn c a hc=>by
   have:sl=.slice a n c:=by rw[c2]at hc;exact jQw hc
   subst this;exact q3.move hi.2.1⟩
  have hf:∀W' x p,(Ok w S D obj rs K E r W'/\bZ (λb=>so=some b) S rs r W W'/\gp w K S false G W' so)->x∈l->TmV S W' x p->Calls prog 176 (#[p]++#[ptr cb]) W' (IsR (λW'=>Ok w S D obj rs K E r W'/\bZ (λb=>so=some b) S rs r W W'/\gp w K S false G W' so) (λW'=>Ok w S D obj rs K E r W'/\bZ (λb=>so=some b) S rs r W W') (A4 (fs w K) x)):=by
   intro W' x p hi H ht;obtain⟨ti,ty,rfl⟩:=CW x H;rw[afO];refine(Gq hE hC hi.1 ht (fQ _ H _ rfl ty rfl) hB hG hi.2.2 (hi.2.1.cell KU Rv) KU).mono ?_;rintro e W2 ⟨rfl,k1,k2,k3⟩;exact⟨rfl,λh=>⟨k1,hi.2.1.trans k2,k3 h⟩,λ_=>⟨k1,hi.2.1.trans k2⟩⟩
  have hc:=JL h he ha CW 176 #[ptr cb] Tryz.call176 (A4 (fs w K)) _ _ ⟨bD,bZ.refl _,mw⟩ eR hf;refine hc.mono ?_;rintro e W2 ⟨rfl,k1,k2⟩;simp only[jQk,jR1];generalize l.all (A4 (fs w K))=res at*;cases res with
  |true=>obtain⟨g1,g2,g3⟩:=k1 rfl;exact⟨rfl,g1,g2,λ_=>g3⟩
  |false=>obtain⟨g1,g2⟩:=k2 rfl;exact⟨rfl,g1,g2,λh=>by cases h⟩
def qX(hE:Env NS Q w rs cs)(hC:dE NS Q w S D obj rs K r)(bD:Ok w S D obj rs K E r W)(h:mI S W sb l cf)(Hy:NF l)(fQ:TL (jH NS Q w rs B) l)(hB:2*B<=r)(hG:∀q s,G q->S q=some s->B<=J rs true false s)(mw:gp w K S false G W so):
 Calls prog 131 #[ptr sb,.map so] W (BQ w S D obj rs K E G r so W (if isAllL l then cf else if aK l then false else l.all (A4 (fs w K)))):=by
 have hA:=an W (.cells #[.map so] 223);have mx:=bD.below hE.hs hA;have Oz:=h.move (X:=Wc) (rs:=rs) (r:=r) (Below.fr hA);have GU:gp w K S false G (W.alloc (.cells #[.map so] 223)) so:=mw.block λb e=>hA.block b (mw.lt b e);have Rv:ce (W.alloc (.cells #[.map so] 223)) W.heap.size 0 (.map so):=jQh (ak W _);have KU:S W.heap.size=none:=kA bD.gh;obtain⟨ms,sl,q1,q2,q3⟩:=id Oz;obtain⟨a,c,rfl⟩:=q3.form;obtain⟨c0,c1,c2,c3⟩:=dx q1;have aF:=fI q3;have FV:bZ (λb=>so=some b) S rs r W (W.alloc (.cells #[.map so] 223)):=Below.fr hA;have D8:=uW;cases ha:isAllL l with
 |true=>
  rw[ha]at aF;have HP:=Z (show BQ w S D obj rs K E G r so W cf (.returned (.bool cf)) (W.alloc (.cells #[.map so] 223))from⟨rfl,mx,FV,λ_=>GU⟩);show Calls _ _ _ _ (BQ w S D obj rs K E G r so W cf);clear hC hE bD h Hy fQ hG mw mx Oz GU q1 q2 q3 FV c0 c1 hA Rv KU;go_in;go_wp21;refine rv aF ?_;exact M21
 |false=>
  rw[ha]at aF;show Calls _ _ _ _ (BQ w S D obj rs K E G r so W (if aK l then false else l.all (A4 (fs w K))));have aD:=Vh hE hC mx Oz ha Hy fQ hB hG GU Rv KU;have D6:=Z FV;generalize(if aK l then false else l.all (A4 (fs w K)))=res at aD⊢;clear hC hE bD h Hy fQ hG mw mx Oz GU q1 q2 q3 FV c0 c1 c3 hA Rv KU ha;go_in;go_wp21;refine rv aF ?_;go_wp21;refine aD.mono ?_;rintro e w5 ⟨rfl,k1,k2,k3⟩;have HP:=Z (show BQ w S D obj rs K E G r so W res (.returned (.bool res)) w5 from⟨rfl,k1,D6.1.trans k2,k3⟩);clear aF aD k1 k2 k3;exact M21
section
variable{es:Array MapEntry}
def bZ.sub(h:bZ X' S rs r W O)(H:∀b,X' b->X b\/W.heap.size<=b):bZ X S rs r W O:=
 ⟨h.os,h.tape,h.output,h.size,λb hb=>(h.block b hb).imp id λh=>h.imp id λh=>⟨(H b h.1).resolve_right M,h.2⟩⟩
def abp(hE:Env NS Q w rs cs)(hr:r<=K)(h:PT NS Q w 0 t)(hj:2*J rs true false t+1<r):(fs w K).cmp t d=bX (fs w K) w t d:=
 (eZ hE.wk hE.qp r K (K+1) hr M).1.cmp t d h hj
def aeO(hE:Env NS Q w rs cs)(hr:r<=K)(H:PT NS Q w 0 x)(hy:PT NS Q w 0 y)(I:2*J rs false false x+1<r)(U:2*J rs false false y+1<r):(fs w K).id x y=jQ (fs w K) w x y:=
 (eZ hE.wk hE.qp r K (K+1) hr M).1.id x y H hy I U
def Ar(v f:Bool)(h:t.ld≠14):J rs v f (aG t)=J rs v f t:=by unfold aG mC;rw[jQ4 h];exact xN _ _ _ _
def Py(hE:Env NS Q w rs cs)(h:PT NS Q w 0 t):J rs true false (az w t)<=J rs true false (aG t)/\J rs false false (az w t)<=J rs true false (aG t):=by
 have hm:∀x:Y,J rs false false x<=J rs true false x:=λx=>dM i6 i6 x;by_cases mM:t.ld=14
 .have I:az w t=fD:=by rw[<-vP];unfold mC;rw[jQ7 mM];rfl
  have U:aG t=fD:=by unfold aG mC;rw[jQ7 mM];rfl
  rw[I,U];exact⟨jQ0 _,hm _⟩
 .rw[Ar _ _ mM];have:=(lq (rs:=rs) hE.wk hE.qp h).2;exact⟨this,jQd (hm _) this⟩
def gK(hE:Env NS Q w rs cs)(h:PT NS Q w 0 t):(az w t).ld=1\/(az w t).ld=3\/(az w t).ld=4\/(az w t).ld=5\/(az w t).ld=6\/(az w t).ld=7\/(az w t).ld=8\/(az w t).ld=9\/isIf (az w t)=true:=by
 rcases(lq hE.wk hE.qp h).1 with e|e
 .rw[e];right;right;right;right;right;right;right;right;rfl
 .have I:=lg e.1;have U:=gR e.1;by_cases bH:(az w t).ld=10
  .right;right;right;right;right;right;right;right;simp[isIf,bH]
  .omega
def A0(h:PT NS Q w 0 t)(hk:t.ld=1):0<=t.n/\t.n<18:=by
 obtain⟨k,n,m,va,nm,tg,l⟩:=t;simp only[Y.ld]at hk;subst hk;cases h with
 |basic a b=>exact⟨a,b⟩
 |uni h=>omega
 |al h=>omega
 |one h=>omega
def Dx(w:List ah)(S:Sg)(D:Qx)(obj:Nat->Nat)(rs:List Nat)(K:Nat)(E G:Qx)(r:Nat)(so:Option Nat)(W:World)(t:Y)(d:Bool)(e:Ending)(W':World):Prop:=
 lC (λb=>so=some b) w S D obj rs K E r W (λu W'=>(u=.pointer none/\(fs w K).cmp t d=true/\gp w K S d G W' so)\/(∃b,u=ptr b/\(fs w K).cmp t d=false)) e W'
def XV(so:Option Nat)(mb:Nat)(W:World):Prop:=so=some mb\/(so=none/\W.heap.size<=mb)
structure Hu(w:List ah)(S:Sg)(D:Qx)(obj:Nat->Nat)(rs:List Nat)(K:Nat)(E G:Qx)(r:Nat)(so:Option Nat)(W wr:World)(b mb:Nat)(d:Bool):Prop where
 ok:Ok w S D obj rs K E r wr
 fr:bZ (λx=>some mb=some x) S rs r W wr
 seen:gp w K S d (λq=>G q\/q=b) wr (some mb)
def Hu.yes(h:Hu w S D obj rs K E G r so W wr b mb d)(hm:XV so mb W)(hb:S b=some (aG t))(hc:(fs w K).cmp t d=true):Dx w S D obj rs K E G r so W t d (.returned (.pointer none)) wr:=by
 refine⟨_,rfl,.inl ⟨rfl,hc,?_⟩,h.ok,h.fr.sub λx e=>?_⟩
 .obtain rfl|⟨rfl,_⟩:=hm
  .intro x H;obtain⟨es,ck,I,U⟩:=h.seen x H;refine⟨es,ck,I,λe he=>?_⟩;obtain⟨q,s,k1,k2,k3,k4⟩:=U e he;refine⟨q,s,k1,k2,k3,k4.elim .inl λhq=>hq.elim .inr λhq=>.inl ?_⟩;subst hq;rw[hb]at k2;cases k2;rw[dX.cmp (oN t)];exact hc
  .intro x H;cases H
 .cases e;obtain h|h:=hm
  .exact .inl h
  .exact .inr h.2
def Hu.no(h:Hu w S D obj rs K E G r so W wr b mb d)(hm:XV so mb W)(q:Nat)(hc:(fs w K).cmp t d=false):Dx w S D obj rs K E G r so W t d (.returned (ptr q)) wr:=by
 refine⟨_,rfl,.inr ⟨q,rfl,hc⟩,h.ok,h.fr.sub λx e=>?_⟩;cases e;obtain h|h:=hm
 .exact .inl h
 .exact .inr h.2
def Hu.below(h:Hu w S D obj rs K E G r so W wr b mb d)(hE:Env NS Q w rs cs)(hb:S5 wr O):Hu w S D obj rs K E G r so W O b mb d:=
 ⟨h.ok.below hE.hs hb,h.fr.trans (Below.fr hb),h.seen.block λx e=>hb.block x (h.seen.lt x e)⟩
def Hu.go(h:Hu w S D obj rs K E G r so W wr b mb d)(g1:Ok w S D obj rs K E r O)(g2:bZ (λx=>some mb=some x) S rs r wr O)(g3:gp w K S d (λq=>G q\/q=b) O (some mb)):Hu w S D obj rs K E G r so W O b mb d:=
 ⟨g1,h.fr.trans g2,g3⟩
def Hu.start(bD:Ok w S D obj rs K E r W)(hE:Env NS Q w rs cs)(hb:S b=some (aG t))(hf:bZ (λx=>some mb=some x) S rs r W w2)(iG:Ok w S D obj rs K E r w2)(hm:w2.heap[mb]?=some (.map es ck))(hs:∀e∈es.toList,∃q s,e.key=.iface (tid s.ld) (ptr q)/\S q=some s/\e.val=.bool true/\((fs w K).cmp s d=true\/G q))(j:DD mb (es.push {key:=.iface (tid t.ld) (ptr b),val:=.bool true,born:=ck}) (ck+1) w2 O):Hu w S D obj rs K E G r so W O b mb d:=by
 have zF:bZ (λx=>some mb=some x) S rs r w2 O:=j.fr hm rfl;refine⟨iG.frx hE.hs (j.fr (X:=λx=>some mb=some x) hm rfl),hf.trans zF,λx H=>?_⟩;cases H;refine⟨_,_,j.here,λe he=>?_⟩;simp at he;obtain he|rfl:=he
 .obtain⟨q,s,k1,k2,k3,k4⟩:=hs e (G9 he);exact⟨q,s,k1,k2,k3,k4.imp id .inl⟩
 .exact⟨b,aG t,by rw[GM],hb,rfl,.inr (.inr rfl)⟩
end
def PM(B8 B9 B10 pb:Nat)(so:Option Nat)(v:Value):Nat->Prop:=λb=>b=B8\/b=B9\/b=B10\/b=pb\/so=some b\/v.ownBlock=some b
structure KE(S:Sg)(D:Qx)(base:Nat)(wr:World)(B8 B9 B10 pb:Nat)(so:Option Nat)(ms:List Y)(v:Value):Prop where
 b8:wr.heap[B8]?=some (.cells #[.map so] 176 (0,0))
 set:J0 wr so (ms.map (·.name))
 b9:wr.heap[B9]?=some (.cells #[v] 99 (0,0))
 row:∃ps,wr.ownsRow base 97 1 v ms.length ps/\All2 (λm p=>sK S D wr m.name m p) ms ps
 jN:wr.heap[B10]?=some (.cells #[.map (some pb)] 177 (0,0))
 ne:so≠some pb
 mp:∃es ck,wr.heap[pb]?=some (.map es ck)/\∀e∈es.toList,∃q nm m,e.key=ptr q/\sK S D wr nm m (ptr q)
def KE.cR(h:KE S D base wr B8 B9 B10 pb so ms v)(hb:∀b,PM B8 B9 B10 pb so v b->b<wr.heap.size->O.heap[b]?=wr.heap[b]?)(hD:∀b,D b->O.heap[b]?=wr.heap[b]?):KE S D base O B8 B9 B10 pb so ms v:=by
 have hm:au D D wr O:=λb hb=>⟨hb,hD b hb⟩;refine⟨(hb B8 (.inl rfl) (jQ2 h.b8)).trans h.b8,h.set.block λmb e=>?_,(hb B9 (.inr (.inl rfl)) (jQ2 h.b9)).trans h.b9,?_,(hb B10 (.inr (.inr (.inl rfl))) (jQ2 h.jN)).trans h.jN,h.ne,?_⟩
 .refine hb mb (.inr (.inr (.inr (.inr (.inl e))))) ?_;rcases h.set with⟨I,_⟩|⟨Uv,es,ck,I,U,_⟩
  .rw[I]at e;cases e
  .rw[I]at e;cases e;exact jQ2 U
 .obtain⟨ps,I,U⟩:=h.row;refine⟨ps,⟨I.1,I.2.imp id λ⟨g,cap,cur,e1,k1,k2,k3⟩=>?_⟩,U.imp λm p j=>j.move (λ_ _ h=>h) hm⟩;subst e1;exact⟨g,cap,cur,rfl,k1,(hb g (.inr (.inr (.inr (.inr (.inr rfl))))) (jQ2 k2)).trans k2,k3⟩
 .obtain⟨es,ck,I,U⟩:=h.mp;exact⟨es,ck,(hb pb (.inr (.inr (.inr (.inl rfl)))) (jQ2 I)).trans I,λe he=>by obtain⟨q,nm,m,k1,k2⟩:=U e he;exact⟨q,nm,m,k1,k2.move (λ_ _ h=>h) hm⟩⟩
def YW:(Tryz.prog.info? 97).map (λi=>(i.zero,i.size,i.bytes))=some (some (.pointer none),1,8):=g9
def acQ:(Tryz.prog.info? 173).map (·.size)=some 6:=g9
def OB:Tryz.prog.underlying 97=some (.pointer 173):=g9
def aaR:Tryz.prog.underlying 177=some (.map 97 62):=g9
def ckF(u:Nat)(W)(e:Bool):(Instr.checkKey e 10000 97 (ptr u)).run prog W=.ok () W:=by
 have h:∀n,(Instr.checkKey e (n+1) 97 (ptr u)).run prog W=.ok () W:=λn=>by
  unfold Instr.checkKey;simp[jQj OB,Result.andThen]
 exact h 9999
def afX(u:Nat):∀k',Instr.sameNow (.pointer 173) (ptr u) k'=none:=λk'=>by cases k'<;>rfl
def eqF(hu:sK S D W nm0 m0 (ptr u)){es:List MapEntry}(h:∀e∈es,∃q nm m,e.key=ptr q/\sK S D W nm m (ptr q)):∀e∈es,(Op.equal 97 (ptr u) e.key).run prog W=.ok (Rb u e.key) W:=by
 intro e he;obtain⟨q,nm,m,hk,hq⟩:=h e he;obtain⟨-,_,_,_,I⟩:=Aj hu;obtain⟨-,_,_,_,U⟩:=Aj hq;obtain⟨hp,hj,hz⟩:=jQ6.1 acQ;rw[hk];exact LK OB hj (by rw[hz];decide) I U
def aca(hu:sK S D W nm0 m0 (ptr u))(x){es:Array MapEntry}(hb:W.heap[pb]?=some (.map es ck))(h:∀e∈es.toList,∃q nm m,e.key=ptr q/\sK S D W nm m (ptr q)):
 ∃w2 GA YX,(Instr.mapUpdate 177 (.map (some pb)) (ptr u) x).run prog W=.ok () w2/\DD pb GA YX W w2/\∀e∈GA.toList,e.key=ptr u\/∃e0∈es.toList,e.key=e0.key:=by
 cases hh:hitE (Rb u) es.toList 0 with
 |none=>
  obtain⟨w2,I,U⟩:=kP (v:=x) aaR OB (afX u) (ckF u W) hb (eqF hu h) hh;refine⟨w2,_,_,I,U,λe he=>?_⟩;simp at he;obtain he|rfl:=he
  .exact .inr ⟨e,G9 he,rfl⟩
  .exact .inl rfl
 |some jv=>
  obtain⟨hp,v⟩:=jv;obtain⟨k,e0,e1,g2,g3,g4⟩:=oD hh;rw[jRd]at e1;subst e1;obtain⟨q,nm,m,hk,_⟩:=h e0 (jQ8 g2);rw[hk]at g3;have hq:u=q:=by simpa[Rb]using g3
  subst hq;obtain⟨w2,I,U⟩:=iV (v:=x) aaR OB (afX u) (ckF u W) hb (eqF hu h) (G9 g2) hh (by rw[hk];exact jV u);refine⟨w2,_,_,I,U,λe he=>?_⟩;obtain⟨i,hi⟩:=List.mem_iff_getElem?.1 he;rw[jRr,Array.getElem?_modify]at hi;split at hi
  .cases hz:es[i]? with
   |none=>simp[hz]at hi
   |some z=>simp[hz]at hi;subst hi;exact .inl rfl
  .exact .inr ⟨e,jQ8 (by rw[jRr];exact hi),rfl⟩
def YV(S:Sg)(D:Qx)(base:Nat)(W:World)(B8 B9 B10 pb:Nat)(so:Option Nat)(ms:List Y)(v:Value)(m:Y)(e:Ending)(W':World):Prop:=
 e=.returned (.tuple #[])/\∃ER v',KE S D base W' B8 B9 B10 pb ER (lF ms m) v'/\iN (PM B8 B9 B10 pb so v) W W'/\∀b,PM B8 B9 B10 pb ER v' b->PM B8 B9 B10 pb so v b\/(W.heap.size<=b/\b<W'.heap.size)
def KE.nt(h:KE S D base W B8 B9 B10 pb so ms v):∀b,PM B8 B9 B10 pb so v b->∀cs t f,W.heap[b]?=some (.cells cs t f)->t≠158/\t≠237:=M38
def KE.vne(h:KE S D base W B8 B9 B10 pb so ms v):v.ownBlock≠some B8/\v.ownBlock≠some B9/\v.ownBlock≠some B10/\v.ownBlock≠some pb/\(∀mb,so=some mb->v.ownBlock≠some mb):=by
 obtain⟨ps,I,U⟩:=h.row;have hk:∀{b:Nat} {o:Obj},W.heap[b]?=some o->v.ownBlock=some b->∃cur,o=.cells cur 97 (0,0):=by
  intro b o ho e;rcases I.2 with⟨rfl,_⟩|⟨g,cap,cur,rfl,k1,k2,k3⟩
  .simp[Value.ownBlock]at e
  .simp[Value.ownBlock]at e;subst e;rw[k2]at ho;cases ho;exact⟨cur,rfl⟩
 refine⟨λe=>?_,λe=>?_,λe=>?_,λe=>?_,λmb Ev e=>?_⟩
 .obtain⟨_,e⟩:=hk h.b8 e;simp at e
 .obtain⟨_,e⟩:=hk h.b9 e;simp at e
 .obtain⟨_,e⟩:=hk h.jN e;simp at e
 .obtain⟨es,ck,h3,_⟩:=h.mp;obtain⟨_,e⟩:=hk h3 e;cases e
 .rcases h.set with⟨h3,_⟩|⟨Uv,es,ck,h3,h4,_⟩
  .rw[h3]at Ev;cases Ev
  .rw[h3]at Ev;cases Ev;obtain⟨_,e⟩:=hk h4 e;cases e
def KE.bne(h:KE S D base W B8 B9 B10 pb so ms v):B8≠B9/\B8≠B10/\B9≠B10/\pb≠B8/\pb≠B9/\pb≠B10/\(∀mb,so=some mb->mb≠B8/\mb≠B9/\mb≠B10/\mb≠pb):=by
 obtain⟨es,ck,I,_⟩:=h.mp;refine⟨λe=>?_,λe=>?_,λe=>?_,λe=>?_,λe=>?_,λe=>?_,λmb Ev=>?_⟩
 .have:=h.b8;rw[e,h.b9]at this;simp at this
 .have:=h.b8;rw[e,h.jN]at this;simp at this
 .have:=h.b9;rw[e,h.jN]at this;simp at this
 .have:=h.b8;rw[<-e,I]at this;cases this
 .have:=h.b9;rw[<-e,I]at this;cases this
 .have:=h.jN;rw[<-e,I]at this;cases this
 .rcases h.set with⟨h3,_⟩|⟨Uv,es,ck,h3,h4,_⟩
  .rw[h3]at Ev;cases Ev
  .rw[h3]at Ev;cases Ev;refine⟨λe=>?_,λe=>?_,λe=>?_,λe=>?_⟩
   .have:=h.b8;rw[<-e,h4]at this;cases this
   .have:=h.b9;rw[<-e,h4]at this;cases this
   .have:=h.jN;rw[<-e,h4]at this;cases this
   .exact h.ne (by rw[h3,e])
def Jh(h:m.name∈ms.map (·.name)):lF ms m=ms:=by
 obtain⟨f,hf,e⟩:=jQu.1 h;unfold lF;rw[jQ7 (List.any_eq_true.2 ⟨f,hf,by simp[aE,e]⟩)]
def Bu(h:¬m.name∈ms.map (·.name)):lF ms m=ms++[m]:=by
 unfold lF;rw[jQ4];intro hh;obtain⟨f,hf,e⟩:=List.any_eq_true.1 hh;exact h (jQu.2 ⟨f,hf,by simpa[aE]using e⟩)
def Qg{ops:Array Oper}{rest:List Oper}{o:Oper}{a:Act}{w:World}{Q:Exit->Act->World->Prop}(mX:o.guard=none)(s x:Operand)(ho:o.op=.call {callee:=.builtin .append,args:=#[s,x],argTypes:=#[99,99]})(base:Nat)(v)(n:Nat)(ps)(hs:a.eval s=v)(aL:w.ownsRow base 97 1 v n ps)(p)(ke:p.oneCell'=true)(ad:Addr)(c:Nat)(H:a.eval x=.slice (some ad) 1 c)(hc:∀hp u,[p][hp]?=some u->w.cell? (ad.add hp)=some u)(cF:n+1<=1099511627776)(cS:base<=w.heap.size)(h:∀v' O,O.ownsRow base 97 1 v' (n+1) (ps++[p])->iN (λb=>v.ownBlock=some b) w O->(v'.ownBlock=v.ownBlock\/v'.ownBlock=some w.heap.size)->wpList prog ops Q rest (a.put o.dst v') O):wpList prog ops Q (o::rest) a w:=by
 obtain⟨i0,pn,lA,gj,j7⟩:=info_parts YW;refine wpList_append_own_at w mX s x 99 ho base 97 i0 _ 1 8 underlying99 pn lA gj j7 rfl M v n ps hs aL ad 1 c [p] H i6 hc (G9 ke)
  (by simp only[maxLen];omega) M cS λv' O k1 k2 _ k4=>?_
 exact h v' O k1 (iN.grown k2 aL i5 i5) k4
def pL{e:TypeId}(h:W.ownsRow base e 1 v n xs):∃a c,v=.slice a n c:=by
 rcases h.2 with⟨rfl,h0⟩|⟨g',cap,cur,rfl,_⟩
 .exact⟨none,0,by rw[h0]⟩
 .exact⟨_,_,rfl⟩
def pN{e:TypeId}(h:W.ownsRow base e 1 v n xs):∀g,v.ownBlock=some g->base<=g/\g<W.heap.size:=by
 intro g hg;rcases h.2 with⟨rfl,_⟩|⟨g',cap,cur,rfl,k1,k2,k3⟩
 .simp[Value.ownBlock]at hg
 .simp[Value.ownBlock]at hg;subst hg;exact⟨k1,jQ2 k2⟩
def jb{e:TypeId}(h:W.ownsRow base e 1 v n xs)(hb:∀g,v.ownBlock=some g->W'.heap[g]?=W.heap[g]?):W'.ownsRow base e 1 v n xs:=by
 refine⟨h.1,h.2.imp id λ⟨g,cap,cur,e1,k1,k2,k3⟩=>?_⟩;subst e1;exact⟨g,cap,cur,rfl,k1,(hb g rfl).trans k2,k3⟩
def BZ(h:KE S D base W B8 B9 B10 pb so ms v)(hD:∀b,PM B8 B9 B10 pb so v b->¬D b)(mY:Lo D W.heap.size)(hm:sK S D W m.name m p)(hc:wM m.name)(hz:m.name.size<=9223372036854775807)(ht:jE D W)(cS:base<=W.heap.size)(cF:¬m.name∈ms.map (·.name)->ms.length+1<=1099511627776)(pos:Int)(ex:Bool):
 Calls prog 103 #[.int .i64 pos,p,.bool ex,ptr B8,ptr B9,ptr B10] W (YV S D base W B8 B9 B10 pb so ms v m):=by
 obtain⟨b,ip,pk,iv,rfl,kN,hb,qy⟩:=id hm;have c1:=G7 1 hb
 have c2:=G7 2 hb
 have ag:=GB h.b8 h.set c1 c2 hc hz ht;obtain⟨n1,n2,n3,n4,n5,n6,n7⟩:=h.bne;obtain⟨v1,v2,v3,v4,v5⟩:=h.vne;obtain⟨HH,HD,HM,jf⟩:=Z4 h hD hm mY;clear c1 c2 hb qy h hD hm hc ht mY;go_in;go_wp21;refine ag.mono ?_;intro e w1 hr;clear ag;rcases hr with⟨Oe,⟨T,x,rfl⟩,ji⟩|⟨fp,rfl,ER,nN,sG,qA,Nh⟩
 .have hk:KE S D base w1 B8 B9 B10 pb so ms v:=HH.1.cR (λb _ hl=>ji.block b hl) (λb hd=>ji.block b (jf.1 b hd));have HP:=Z (show YV S D base W B8 B9 B10 pb so ms v m (.returned (.tuple #[])) w1 from⟨rfl,so,v,by rw[Jh Oe];exact hk,iN.Uw ji HH.1.nt,λb hb=>.inl hb⟩);clear hk ji Oe;cases ex
  all_goals
   go_wp21;refine jRq (v:=.tuple #[]) (by simp[results,Tryz.results103,go_sem]) rfl ?_;exact HP.1
 .obtain⟨ps,aL,eO⟩:=HH.1.row;obtain⟨va,vc,rfl⟩:=pL aL;have k01:∀x,x<W.heap.size->x≠B8->so≠some x->w1.heap[x]?=W.heap[x]?:=λx H I U=>qA.block x H λe=>e.elim I U;have l8:=jQ2 HH.1.b8;have l9:=jQ2 HH.1.b9;have l10:=jQ2 HH.1.jN;have lpb:pb<W.heap.size:=by obtain⟨es,ck,I,_⟩:=HH.1.mp;exact jQ2 I
  have s9:so≠some B9:=λe=>(n7 B9 e).2.1 rfl;have s10:so≠some B10:=λe=>(n7 B10 e).2.2.1 rfl;have gj:=qA.size;have h9:w1.heap[B9]?=some (.cells #[.slice va ms.length vc] 99 (0,0)):=(k01 B9 l9 (Ne.symm n1) s9).trans HH.1.b9;have bH:w1.heap[B10]?=some (.cells #[.map (some pb)] 177 (0,0)):=(k01 B10 l10 (Ne.symm n2) s10).trans HH.1.jN;have oQ:w1.ownsRow base 97 1 (.slice va ms.length vc) ms.length ps:=jb aL λg hg=>k01 g (pN aL g hg).2 (λe=>v1 (e▸hg)) (λe=>v5 g e hg);have aaI:(w1.alloc (.cells #[ptr b] 97)).ownsRow base 97 1 (.slice va ms.length vc) ms.length ps:=jb oQ λg hg=>(an w1 _).block g (pN oQ g hg).2;have c9:=jQh h9;have eP:base<=(w1.alloc (.cells #[ptr b] 97)).heap.size:=by simp;omega
  obtain⟨ahS,afh,afi,HP1,gV,WE,H9,H10⟩:=Z8 eO k01 aaI qA sG nN h9 bH;have HSO:=Z Nh;clear eO k01 aL oQ aaI qA sG nN h9 bH Nh;go_wp2_with (at_builtin;refine Qg rfl _ _ rfl base _ ms.length ps rfl afi.1 (ptr b) rfl ⟨w1.heap.size,0,none⟩ _ rfl (cell_one_new _ _ _) (cF fp) eP ?_);intro v2' w2 rD fJ Sq;obtain⟨va2,vc2,e2⟩:=pL rD;subst e2;have tT:∀x,x<w1.heap.size->Value.ownBlock (.slice va ms.length vc)≠some x->w2.heap[x]?=w1.heap[x]?:=λx H hn=>(fJ.block x (by simp;omega) hn).trans ((an w1 _).block x H);have j7:=fJ.size;simp only[jQ3]at j7 Sq;have h9b:w2.heap[B9]?=some (.cells #[.slice va ms.length vc] 99 (0,0)):=(tT B9 M v2).trans H9.1;obtain⟨rE,pG,pZ⟩:=Z3 rD fJ Sq;clear rD fJ Sq;go_wp2_with (refine eT rfl 99 _ _ rfl B9 0 (.slice va2 (ms.length+1) vc2) rfl rfl 99 _ h9b g9 (by simp[Value.cells,Value.oneCell']) (by simp[Value.cells]) #[.slice va2 (ms.length+1) vc2] (by simp[Value.cells]) ?_);intro w3 fm;have ll:∀x,x<w1.heap.size->x≠B9->Value.ownBlock (.slice va ms.length vc)≠some x->w3.heap[x]?=w1.heap[x]?:=λx H h9 hn=>(fm.other x h9).trans (tT x H hn);have k03:∀x,x<W.heap.size->¬PM B8 B9 B10 pb so (.slice va ms.length vc) x->w3.heap[x]?=W.heap[x]?:=λx H hn=>
   (ll x M (λe=>hn (.inr (.inl e))) (λe=>hn (.inr (.inr (.inr (.inr (.inr e))))))).trans (afh.1 x H (λe=>hn (.inl e)) (λe=>hn (.inr (.inr (.inr (.inr (.inl e)))))))
  have hD3:∀x,D x->w3.heap[x]?=W.heap[x]?:=λx H=>k03 x (jf.1 x H) λe=>HD.1 x e H;have ab9:au D D W w3:=λx H=>⟨H,hD3 x H⟩;obtain⟨es,ck,lD,vi⟩:=HH.1.mp;have afj:w3.heap[pb]?=some (.map es ck):=((ll pb M n5 v4).trans (afh.1 pb lpb n4 (λe=>(n7 pb e).2.2.2 rfl))).trans lD;obtain⟨w4,GA,YX,Oj,gF,QZ⟩:=aca (HM.1.move (λ_ _ h=>h) ab9) (.int .i64 pos) afj (λe he=>by obtain⟨q,nm,m',g1,g2⟩:=vi e he;exact⟨q,nm,m',g1,g2.move (λ_ _ h=>h) ab9⟩);have acb:w3.heap[B10]?=some (.cells #[.map (some pb)] 177 (0,0)):=(ll B10 M (Ne.symm n3) v3).trans H10.1;have c10:=jQh acb;have hz4:=gF.size;have JD:=fm.size;have k04:∀x,x<W.heap.size->¬PM B8 B9 B10 pb so (.slice va ms.length vc) x->w4.heap[x]?=W.heap[x]?:=λx H hn=>(gF.other x λe=>hn (.inr (.inr (.inr (.inl e))))).trans (k03 x H hn);have Ux:au D D W w4:=λx H=>⟨H,k04 x (jf.1 x H) λe=>HD.1 x e H⟩;have hneW:pb<W.heap.size:=lpb;have aaJ:=pN rE.1;have Mj:∀mb,ER=some mb->mb<w1.heap.size/\mb≠B9/\mb≠pb/\Value.ownBlock (.slice va ms.length vc)≠some mb:=by
   intro mb e;have hl:mb<w1.heap.size:=by
    rcases gV.1 with⟨I,_⟩|⟨Uv,_,_,I,U,_⟩
    .rw[I]at e;cases e
    .rw[I]at e;cases e;exact jQ2 U
   obtain I|⟨Uv,I,U⟩:=HSO.1
   .rw[I]at e;exact⟨hl,(n7 mb e).2.1,(n7 mb e).2.2.2,v5 mb e⟩
   .rw[I]at e;cases e;refine⟨hl,M,M,λe=>?_⟩;obtain⟨wO,h3,_⟩:=HH.1.row;have:=(pN h3 _ e).2;omega
  have hMS:KE S D base w4 B8 B9 B10 pb ER (lF ms m) (.slice va2 (ms.length+1) vc2):=by
   rw[Bu fp];refine⟨?_,?_,?_,?_,?_,?_,?_⟩
   .exact(gF.other B8 (Ne.symm n4)).trans ((ll B8 M n1 v1).trans WE.1)
   .rw[List.map_append,List.map_singleton];exact gV.1.block λmb e=>(gF.other mb (Mj mb e).2.2.1).trans (ll mb (Mj mb e).1 (Mj mb e).2.1 (Mj mb e).2.2.2)
   .exact(gF.other B9 (Ne.symm n5)).trans fm.here
   .refine⟨ps++[ptr b],?_,All2.app (R:=λm p=>sK S D w4 m.name m p) (l':=[m]) (m':=[ptr b]) ⟨HM.1.move (λ_ _ h=>h) Ux,trivial⟩ (ahS.1.imp λm' p j=>j.move (λ_ _ h=>h) Ux)⟩;rw[jQo,List.length_singleton];refine jb rE.1 λg hg=>?_;have Ho:g≠B9:=by
     intro e;obtain e1|e1:=pZ.1
     .rw[e1]at hg;exact v2 (e▸hg)
     .rw[e1]at hg;cases hg;omega
    have hgp:g≠pb:=by
     intro e;obtain e1|e1:=pZ.1
     .rw[e1]at hg;exact v4 (e▸hg)
     .rw[e1]at hg;cases hg;omega
    exact(gF.other g hgp).trans (fm.other g Ho)
   .exact(gF.other B10 (Ne.symm n6)).trans acb
   .intro e;exact(Mj pb e).2.2.1 rfl
   .refine⟨GA,YX,gF.here,λe he=>?_⟩;rcases QZ e he with I|⟨e0,zh,I⟩
    .exact⟨b,m.name,m,I,HM.1.move (λ_ _ h=>h) Ux⟩
    .obtain⟨q,nm,m',g1,g2⟩:=vi e0 zh;exact⟨q,nm,m',I.trans g1,g2.move (λ_ _ h=>h) Ux⟩
  have hPR:iN (PM B8 B9 B10 pb so (.slice va ms.length vc)) W w4:=by
   refine⟨gF.os.trans (fm.os.trans (pG.1.os.trans HP1.1.os)),gF.tape.trans (fm.tape.trans (pG.1.tape.trans HP1.1.tape)),gF.output.trans (fm.output.trans (pG.1.output.trans HP1.1.output)),M,k04,HH.1.nt⟩
  have HP:=Z (show YV S D base W B8 B9 B10 pb so ms (.slice va ms.length vc) m (.returned (.tuple #[])) w4 from⟨rfl,ER,_,hMS,hPR,λx H=>by
   obtain H|H|H|H|H|H:=H
   .exact .inl (.inl H)
   .exact .inl (.inr (.inl H))
   .exact .inl (.inr (.inr (.inl H)))
   .exact .inl (.inr (.inr (.inr (.inl H))))
   .obtain I|⟨Uv,I,U⟩:=HSO.1
    .exact .inl (.inr (.inr (.inr (.inr (.inl (I▸H))))))
    .have:=(Mj x H).1;rw[I]at H;cases H;exact .inr ⟨U,M⟩
   .obtain e1|e1:=pZ.1
    .exact .inl (.inr (.inr (.inr (.inr (.inr (e1▸H))))))
    .have:=(aaJ x H).2;rw[e1]at H;cases H;exact .inr ⟨M,M⟩⟩)
  clear hMS hPR Mj aaJ k04 Ux k03 hD3 ab9 lD vi afj gF QZ acb fm ll tT h9b;go_wp21;refine jRq (v:=.tuple #[]) (by simp[results,Tryz.results103,go_sem]) rfl ?_;exact HP.1
def KE.nt2(h:KE S D base W B8 B9 B10 pb so ms v):∀b,PM B8 B9 B10 pb so v b->∀cs t f,W.heap[b]?=some (.cells cs t f)->t≠156/\t≠124:=M38
def FR.ng{t:Nat}(h:FR w K S W t s)(j:iN E1 W O)(hE:∀b,E1 b->∀cs t f,W.heap[b]?=some (.cells cs t f)->t≠156/\t≠124):FR w K S O t s:=by
 obtain⟨inv,tl,I,U,h3,h4⟩:=h;exact⟨inv,tl,(j.block t (jQ2 I) λe=>(hE t e _ _ _ I).2 rfl).trans I,U,h3,λq hq=>⟨(h4 q hq).1,(h4 q hq).2.Mo j λb hb cs f hc=>(hE b hb _ _ _ hc).1 rfl⟩⟩
def Dj.ng(h:Dj w K S W mb)(j:iN E1 W O)(hm:¬E1 mb)(hE:∀b,E1 b->∀cs t f,W.heap[b]?=some (.cells cs t f)->t≠156/\t≠124):Dj w K S O mb:=by
 obtain⟨es,ck,I,U⟩:=h;refine⟨es,ck,(j.block mb (jQ2 I) hm).trans I,λe he=>?_⟩;obtain⟨u,tb,s,k1,k2,k3,k4⟩:=U e he;exact⟨u,tb,s,k1,k2,k3,k4.ng j hE⟩
def Dj.move(h:Dj w K S W mb)(hf:Fr S rs r W O):Dj w K S O mb:=by
 obtain⟨es,ck,I,U⟩:=h;exact⟨es,ck,hf.map (λh=>h) I,U.move hf⟩
def yn.step{t:Nat}{s:TS}(h:yn S D E W t s)(j:iN E1 W O)(hE:∀b,E1 b->E b)(hD:au D D W O)(hE':∀b,E' b->E b\/W.heap.size<=b):yn S D E' O t s:=by
 obtain⟨ms,tl,ps,e1,e2,e3,k1,k2,k3,k4,k5⟩:=h;have ho:∀{b:Nat},b<W.heap.size->¬E b->¬E' b:=λhl hn he=>(hE' _ he).elim hn λh=>M
 refine⟨ms,tl,ps,ho (jQ2 k1) e1,λad n c e hn=>?_,λad n c e hn=>?_,(j.block t (jQ2 k1) λe=>e1 (hE _ e)).trans k1,k2,k3.ng j (e2.wide hE),k4.imp λm p hv=>hv.move (λ_ _ h=>h) hD,k5.ng j (e3.wide hE)⟩
 .exact M149
 .exact M74
def EC(E:Qx)(tb B8 B9 B10 pb:Nat)(so:Option Nat)(mv:Value):Nat->Prop:=λx=>E x\/x=tb\/PM B8 B9 B10 pb so mv x
structure rA(w:List ah)(S:Sg)(D:Qx)(obj:Nat->Nat)(rs:List Nat)(K:Nat)(E:Qx)(r:Nat)(W wr:World)(b:Nat)(s:Y)(tb mb B8 B9 B10 pb:Nat)(so:Option Nat)(ms:List Y)(mv:Value)(acc:List (Option Tm))(v:Value):Prop where
 ok:Ok w S D obj rs K (EC E tb B8 B9 B10 pb so mv) r wr
 fr:Fr S rs (r+1) W wr
 oth:∀x s',S x=some s'->x≠b->r<=2*J rs false false s'->wr.heap[x]?=W.heap[x]?
 sb:S b=some s
 rk:r<=2*J rs false false s
 ifc:iJ S D wr b s (ptr tb)
 ts:∃tl,wr.heap[tb]?=some (.cells #[.bool false,.slice none 0 0,tl,.bool false] 124 (0,0))
 TC:KE S D W.heap.size wr B8 B9 B10 pb so ms mv
 us:Dj w K S wr mb
 row:lS S wr acc v
 out:Out (λx=>x<W.heap.size) v
 lt:W.heap.size<=tb
 lm:W.heap.size<=mb
 lp:∀x,PM B8 B9 B10 pb so mv x->W.heap.size<=x
 nm:¬PM B8 B9 B10 pb so mv mb
 nt:¬PM B8 B9 B10 pb so mv tb
def rA.sn(h:rA w S D obj rs K E r W wr b s tb mb B8 B9 B10 pb so ms mv acc v):S tb=none/\(∀x,PM B8 B9 B10 pb so mv x->S x=none/\¬D x):=⟨(h.ok.own tb (.inr (.inl rfl))).2.2,λx H=>⟨(h.ok.own x (.inr (.inr H))).2.2,(h.ok.own x (.inr (.inr H))).2.1⟩⟩
def rA.go(h:rA w S D obj rs K E r W wr b s tb mb B8 B9 B10 pb so ms mv acc v)(g1:Ok w S D obj rs K (EC E tb B8 B9 B10 pb so mv) r O)(g2:bZ (λx=>x=mb) S rs r wr O)(zU:Dj w K S O mb):
 rA w S D obj rs K E r W O b s tb mb B8 B9 B10 pb so ms mv acc v:=by
 have hS:∀x s',S x=some s'->r<=2*J rs false false s'->O.heap[x]?=wr.heap[x]?:=λx s' hs hr=>by
  rcases g2.block x (h.ok.gh.lI x s' hs)with e|⟨s2,_,_,k1,_,k3,_⟩|⟨_,⟨_,_,k⟩,_⟩
  .exact e
  .rw[hs]at k1;cases k1;omega
  .obtain⟨cs,t,hc⟩:=h.ok.gh.A9 x s' hs;rw[hc]at k;cases k
 have hD:=h.ok.gh.eu g2;refine⟨g1,((Fr.x h.fr).trans (g2.mono M)).new λx H=>by subst H;exact h.lm,λx s' hs bk hr=>(hS x s' hs hr).trans (h.oth x s' hs bk hr),h.sb,h.rk,h.ifc.move (λ_ _ h=>h) hD (hS b s h.sb h.rk),?_,?_,zU,h.row.move g2,h.out,h.lt,h.lm,h.lp,h.nm,h.nt⟩
 .obtain⟨tl,ht⟩:=h.ts;exact⟨tl,g2.obj h.sn.1 ht⟩
 .refine h.TC.cR (λx H hl=>?_) λx H=>(hD x H).2;rcases g2.block x hl with e|⟨s2,_,_,k1,_⟩|⟨k,_⟩
  .exact e
  .rw[(h.sn.2 x H).1]at k1;cases k1
  .exact absurd (k▸H) h.nm
def rA.go0(h:rA w S D obj rs K E r W wr b s tb mb B8 B9 B10 pb so ms mv acc v)(g1:Ok w S D obj rs K (EC E tb B8 B9 B10 pb so mv) r O)(g2:Fr S rs r wr O):rA w S D obj rs K E r W O b s tb mb B8 B9 B10 pb so ms mv acc v:=
 h.go g1 g2.x (h.us.move g2)
def rA.below(h:rA w S D obj rs K E r W wr b s tb mb B8 B9 B10 pb so ms mv acc v)(hE:Env NS Q w rs cs)(hb:S5 wr O):rA w S D obj rs K E r W O b s tb mb B8 B9 B10 pb so ms mv acc v:=
 h.go0 (h.ok.below hE.hs hb) (Below.fr hb)
def rA.set(h:rA w S D obj rs K E r W wr b s tb mb B8 B9 B10 pb so ms mv acc v)(hr:lS S wr xJ v')(ho:Out (λx=>x<W.heap.size) v'):rA w S D obj rs K E r W wr b s tb mb B8 B9 B10 pb so ms mv xJ v':=
 ⟨h.ok,h.fr,h.oth,h.sb,h.rk,h.ifc,h.ts,h.TC,h.us,hr,ho,h.lt,h.lm,h.lp,h.nm,h.nt⟩
def rA.new(h:rA w S D obj rs K E r W wr b s tb mb B8 B9 B10 pb so ms mv acc v)(k1:qn S wr.heap.size O xJ v')(k2:Ok w S D obj rs K (EO (EC E tb B8 B9 B10 pb so mv) v') r O)(k3:Fr S rs r wr O):
 rA w S D obj rs K E r W O b s tb mb B8 B9 B10 pb so ms mv xJ v':=by
 refine(h.go0 (k2.drop λ_ hb=>.inl hb) k3).set (k1.tl λg hg=>(k2.own g (.inr hg)).2.2) λad n c e hn hl=>?_;have:=h.fr.size;subst e;have:=(k1.lt ad.block (by simp[Value.ownBlock])).1;omega
def rA.YI(h:rA w S D obj rs K E r W wr b s tb mb B8 B9 B10 pb so ms mv acc v)(hE:Env NS Q w rs cs){e:Ending}(ha:YV S D W.heap.size wr B8 B9 B10 pb so ms mv m e O):
 e=.returned (.tuple #[])/\∃ER mv',rA w S D obj rs K E r W O b s tb mb B8 B9 B10 pb ER (lF ms m) mv' acc v/\iN (PM B8 B9 B10 pb so mv) wr O/\(∀x,EC E tb B8 B9 B10 pb ER mv' x->EC E tb B8 B9 B10 pb so mv x\/(wr.heap.size<=x/\x<O.heap.size)):=by
 obtain⟨rfl,ER,mv',hm,j,hb⟩:=ha;have XE:∀x,EC E tb B8 B9 B10 pb ER mv' x->EC E tb B8 B9 B10 pb so mv x\/(wr.heap.size<=x/\x<O.heap.size):=by
  rintro x (H|H|H)
  .exact .inl (.inl H)
  .exact .inl (.inr (.inl H))
  .exact(hb x H).imp (λh=>.inr (.inr h)) id
 have hS:∀x s',S x=some s'->O.heap[x]?=wr.heap[x]?:=λx s' hs=>j.block x (h.ok.gh.lI x s' hs) λe=>by rw[(h.sn.2 x e).1]at hs;cases hs
 have hD:au D D wr O:=λx H=>⟨H,j.block x (h.ok.gh.mT x H) λe=>(h.sn.2 x e).2 H⟩;have hz:=h.fr.size;obtain⟨tl,ht⟩:=h.ts;have Ev:mb<wr.heap.size:=by obtain⟨es,ck,I,_⟩:=h.us;exact jQ2 I
 refine⟨rfl,ER,mv',⟨h.ok.step hE.hs j (λx H=>.inr (.inr H)) XE,h.fr.ng j h.lp,λx s' hs bk hr=>(hS x s' hs).trans (h.oth x s' hs bk hr),h.sb,h.rk,h.ifc.move (λ_ _ h=>h) hD (hS b s h.sb),⟨tl,(j.block tb (jQ2 ht) h.nt).trans ht⟩,hm,h.us.ng j h.nm h.TC.nt2,h.row.Mo j λx H cs f hc=>(h.TC.nt2 x H _ _ _ hc).1 rfl,h.out,h.lt,h.lm,λx H=>?_,λH=>?_,λH=>?_⟩,j,XE⟩
 .rcases hb x H with k|k
  .exact h.lp x k
  .omega
 .rcases hb mb H with k|k
  .exact h.nm k
  .omega
 .rcases hb tb H with k|k
  .exact h.nt k
  .have:=jQ2 ht;omega
def rA.fin(bD:Ok w S D obj rs K E (r+1) W)(bH:t.ld=10)(h:rA w S D obj rs K E r W wr b (aG t) tb mb B8 B9 B10 pb so ms mv acc v)(hE:Env NS Q w rs cs)(j:iN (λx=>x=tb\/mv.ownBlock=some x) wr O)(fi:O.heap[tb]?=some (.cells #[.bool false,msv,v,.bool ((fs w K).ts t).comp] 124 (0,0)))(kX:eE (Rn S O) O ps msv)(eO:All2 (λm p=>sK S D O m.name m p) ((fs w K).ts t).lw ps)(ho:Out (λx=>x<W.heap.size) msv)(afz:acc=((fs w K).ts t).terms):
 aV w S D obj rs K E (r+1) W (λv W'=>∃sb,v=ptr sb/\yn S D E W' sb ((fs w K).ts t)) (.returned (ptr tb)) O:=by
 have hEl:∀x,E x->x<W.heap.size:=λx H=>(bD.own x H).1;have hpm:∀x,(x=tb\/mv.ownBlock=some x)->EC E tb B8 B9 B10 pb so mv x:=λx H=>H.elim (λe=>.inr (.inl e)) λe=>.inr (.inr (.inr (.inr (.inr (.inr (.inr e))))));have mY:∀x,(x=tb\/mv.ownBlock=some x)->W.heap.size<=x:=λx H=>H.elim (λe=>by rw[e];exact h.lt) λe=>h.lp x (.inr (.inr (.inr (.inr (.inr e)))));have mW:Fr S rs (r+1) W O:=h.fr.ng j mY;have yx:S tb=none:=h.sn.1;have htl:lS S O acc v:=h.row.Mo j λx H cs f hc=>by
  obtain rfl|H:=H
  .obtain⟨tl,k⟩:=h.ts;rw[k]at hc;simp at hc
  .exact(h.TC.nt2 x (.inr (.inr (.inr (.inr (.inr H))))) _ _ _ hc).1 rfl
 have UE:yn S D E O tb ((fs w K).ts t):=by
  refine⟨msv,v,ps,λe=>by have:=hEl tb e;have:=h.lt;omega,λad n c e hn he=>ho ad n c e hn (hEl _ he),λad n c e hn he=>h.out ad n c e hn (hEl _ he),fi,yx,kX,eO,afz▸htl⟩
 have I3:Ok w S D obj rs K E r O:=(h.ok.ng hE.hs j hpm).drop λx H=>.inl H;refine⟨_,rfl,⟨tb,rfl,UE⟩,⟨I3.gh,I3.own,λx s' hs hi hj=>?_⟩,mW⟩;by_cases aM:2*J rs false false s'<r
 .exact I3.st x s' hs hi aM
 .have hD:=h.ok.gh.eu (X:=Wc) (rs:=rs) (r:=r) (W':=wr) (bZ.refl _);have hw:O.heap[x]?=wr.heap[x]?:=j.block x (h.ok.gh.lI x s' hs) λe=>by have:=(h.ok.own x (hpm x e)).2.2;rw[hs]at this;cases this
  have hDw:au D D wr O:=λy hy=>⟨hy,j.block y (h.ok.gh.mT y hy) λe=>(h.ok.own y (hpm y e)).2.1 hy⟩;by_cases H:x=b
  .subst H;have:s'=aG t:=by have:=h.sb;rw[hs]at this;exact jQw this
   subst this;refine⟨_,h.ifc.move (λ_ _ h=>h) hDw hw,.inr ⟨tb,rfl,?_⟩⟩;rw[dX.ts (oN t) hi (by simp[isIf,bH])];exact UE
  .obtain⟨ts,k1,k2⟩:=bD.st x s' hs hi hj;exact⟨ts,k1.move (λ_ _ h=>h) (bD.gh.eu mW) (hw.trans (h.oth x s' hs H M)),k2.imp id λ⟨sb,g1,g2⟩=>⟨sb,g1,g2.move bD.gh mW⟩⟩
def rA.start(ahZ:Ok w S D obj rs K E (r+1) W)(bD:Ok w S D obj rs K E r w1)(O7:Fr S rs r W w1)(hE:Env NS Q w rs cs)(rN:S b=some (aG t))(hk:2*J rs false false (aG t)=r)(cP:isIf (aG t)=true)(gS:iJ S D w1 b (aG t) ts0)(j8:w1.heap.size<=wr.heap.size)(Ao:wr.os=w1.os)(BH:wr.tape=w1.tape)(DC:wr.output=w1.output)(hold:∀x,x<w1.heap.size->x≠b->wr.heap[x]?=w1.heap[x]?)(afA:DE w1 wr b ts0 (ptr tb))(fi:wr.heap[tb]?=some (.cells #[.bool false,.slice none 0 0,tl,.bool false] 124 (0,0)))(Ev:wr.heap[mb]?=some (.map #[] 0))(h8:wr.heap[B8]?=some (.cells #[.map none] 176 (0,0)))(h9:wr.heap[B9]?=some (.cells #[.slice none 0 0] 99 (0,0)))(bH:wr.heap[B10]?=some (.cells #[.map (some pb)] 177 (0,0)))(Nk:wr.heap[pb]?=some (.map #[] 0))(lD:mb≠pb)(aM:w1.heap.size<=tb)(ZL:w1.heap.size<=mb)(R4:w1.heap.size<=B8)(hl9:w1.heap.size<=B9)(ah0:w1.heap.size<=B10)(hlp:w1.heap.size<=pb):
 rA w S D obj rs K E r W wr b (aG t) tb mb B8 B9 B10 pb none [] (.slice none 0 0) [] (.slice none 0 0):=by
 have U1:∀x,PM B8 B9 B10 pb none (.slice none 0 0) x->w1.heap.size<=x/\x<wr.heap.size:=by
  rintro x (rfl|rfl|rfl|rfl|H|H)
  .exact⟨R4,jQ2 h8⟩
  .exact⟨hl9,jQ2 h9⟩
  .exact⟨ah0,jQ2 bH⟩
  .exact⟨hlp,jQ2 Nk⟩
  .cases H
  .simp[Value.ownBlock]at H
 have gj:=O7.size;have mW:Fr S rs (r+1) w1 wr:=⟨Ao,BH,DC,j8,λx H=>by
  by_cases e:x=b
  .subst e;exact .inr (.inl ⟨_,_,_,rN,cP,M,afA⟩)
  .exact .inl (hold x H e)⟩
 have IS:GH w S D obj wr:=bD.gh.fr hE.hs mW;have yx:∀x,w1.heap.size<=x->S x=none:=λx H=>by
  cases hs:S x with
  |none=>rfl
  |some s=>have:=bD.gh.lI x s hs;omega
 have Ot:∀x,w1.heap.size<=x->¬D x:=λx H hd=>by have:=bD.gh.mT x hd;omega
 refine⟨⟨IS,λx H=>?_,λx s' hs hi hj=>?_⟩,(O7.mono M).trans mW,λx s' hs bk hr=>?_,rN,M,gS.but (λ_ _ h=>h) (bD.gh.eu mW) afA,⟨tl,fi⟩,?_,⟨_,_,Ev,λe he=>by simp at he⟩,⟨[],.inl ⟨rfl,none,0,rfl,λ_=>rfl⟩,trivial⟩,λad n c e=>(by cases e),M,M,λx H=>jQd gj (U1 x H).1,?_,?_⟩
 .obtain H|rfl|H:=H
  .exact⟨jQb (bD.own x H).1 j8,(bD.own x H).2⟩
  .exact⟨jQ2 fi,Ot _ aM,yx _ aM⟩
  .exact⟨(U1 x H).2,Ot _ (U1 x H).1,yx _ (U1 x H).1⟩
 .have bk:x≠b:=by rintro rfl;rw[rN]at hs;cases hs;omega
  obtain⟨ts,k1,k2⟩:=bD.st x s' hs hi hj;refine⟨ts,k1.move (λ_ _ h=>h) (bD.gh.eu mW) (hold x (bD.gh.lI x s' hs) bk),k2.imp id λ⟨sb,g1,g2⟩=>⟨sb,g1,?_⟩⟩;have ho:∀{y:Nat},y<w1.heap.size->¬E y->¬EC E tb B8 B9 B10 pb none (.slice none 0 0) y:=by
   rintro y hl hn (hy|rfl|hy)
   .exact hn hy
   .omega
   .have:=(U1 y hy).1;omega
  have g3:=g2.move bD.gh mW;obtain⟨ms,tl,ps,e1,e2,e3,k1,k2,k3,k4,k5⟩:=g2;obtain⟨xX,tl',wO, -, -, -,Nx,Z5q,k3',k4',k5'⟩:=g3;have hk:=mW.obj k2 k1;rw[Nx]at hk;simp at hk;obtain⟨rfl,rfl⟩:=hk;exact M116
 .refine(hold x (bD.gh.lI x s' hs) bk).trans ?_;rcases O7.block x (ahZ.gh.lI x s' hs)with e|⟨s2,_,_,q1,_,q3,_⟩|⟨q,_⟩
  .exact e
  .rw[hs]at q1;cases q1;omega
  .exact q.elim
 .exact⟨h8,.inl ⟨rfl,rfl⟩,h9,⟨[],jR9 _ _ _ _,trivial⟩,bH,i6,_,_,Nk,λe he=>by simp at he⟩
 .rintro(rfl|rfl|rfl|rfl|H|H)
  .rw[h8]at Ev;cases Ev
  .rw[h9]at Ev;cases Ev
  .rw[bH]at Ev;cases Ev
  .exact lD rfl
  .cases H
  .simp[Value.ownBlock]at H
 .rintro(rfl|rfl|rfl|rfl|H|H)
  .rw[h8]at fi;simp at fi
  .rw[h9]at fi;simp at fi
  .rw[bH]at fi;simp at fi
  .rw[Nk]at fi;cases fi
  .cases H
  .simp[Value.ownBlock]at H
def bE(w:World)(o:Obj)(b:Nat):(w.alloc o).heap[b]?=if b=w.heap.size then some o else w.heap[b]?:=by
 show(w.heap.push o)[b]?=_;rw[Array.getElem?_push]
def Br(NS:List ByteArray)(ms:List Y):Prop:=(ms.map (·.name)).Nodup/\∀m∈ms,m.name∈NS
def Br.nil:Br NS []:=⟨List.nodup_nil,i6⟩
def Br.add(h:Br NS ms)(hm:m.name∈NS):Br NS (lF ms m):=by
 by_cases hn:m.name∈ms.map (·.name)
 .rw[Jh hn];exact h
 .rw[Bu hn];refine⟨?_,λx H=>?_⟩
  .rw[List.map_append,List.nodup_append];refine⟨h.1,i6,λa ha b hb=>?_⟩;simp at hb;subst hb;intro e;exact hn (e▸ha)
  .rcases jQm.1 H with H|H
   .exact h.2 x H
   .simp at H;subst H;exact hm
def Br.lim(h:Br NS ms)(hm:m.name∈NS)(hN:NS.length<=1099511627776):¬m.name∈ms.map (·.name)->ms.length+1<=1099511627776:=by
 intro hn;have U:=h.add hm;rw[Bu hn]at U;have:=kE U.1 (m:=NS) λa ha=>by
  obtain⟨x,H,rfl⟩:=jQu.1 ha;exact U.2 x H
 simp at this;omega
def By{α β:Type}(f:β->α->β)(b:β){l:List α}{x:α}(h:l[kk]?=some x):(l.take (kk+1)).foldl f b=f ((l.take kk).foldl f b) x:=by
 obtain⟨aM,e⟩:=jQg.1 h;rw[jRi aM,List.foldl_append,e];rfl
def lC.up{e:Ending}(h:lC X w S D obj rs K E r W P e O)(bD:Ok w S D obj rs K E r' W)(hr:r<=r'):lC X w S D obj rs K E r' W P e O:=by
 obtain⟨v,I,U,h3,h4⟩:=h;exact⟨v,I,U,bD.up h4 h3,h4.mono hr⟩
def lC.imp{e:Ending}(h:lC X w S D obj rs K E r W P e O)(j:∀v W',P v W'->P' v W'):lC X w S D obj rs K E r W P' e O:=by
 obtain⟨v,I,U,h3⟩:=h;exact⟨v,I,j _ _ U,h3⟩
def r7(h:VW NS Q w rs b m):m.name∈NS/\wM m.name/\m.name.size<=9223372036854775807:=by
 refine⟨h.2.1,FZ h.2.2.1,?_⟩;have:=h.2.2.1;exact M196
def TsX(S:Sg)(D E:Qx)(W:World)(b:Nat)(s:TS)(ms tl:Value)(ps:List Value):Prop:=
 ¬E b/\Out E ms/\Out E tl/\W.heap[b]?=some (.cells #[.bool false,ms,tl,.bool s.comp] 124 (0,0))/\S b=none/\eE (Rn S W) W ps ms/\All2 (λm p=>sK S D W m.name m p) s.lw ps/\lS S W s.terms tl
def TsX.step{t:Nat}{s:TS}{ms:Value}(h:TsX S D E W t s ms tl ps)(j:iN E1 W O)(hE:∀b,E1 b->E b)(hD:au D D W O)(hE':∀b,E' b->E b\/W.heap.size<=b):TsX S D E' O t s ms tl ps:=by
 obtain⟨e1,e2,e3,k1,k2,k3,k4,k5⟩:=h;have ho:∀{b:Nat},b<W.heap.size->¬E b->¬E' b:=λhl hn he=>(hE' _ he).elim hn λh=>M
 refine⟨ho (jQ2 k1) e1,λad n c e hn=>?_,λad n c e hn=>?_,(j.block t (jQ2 k1) λe=>e1 (hE _ e)).trans k1,k2,k3.ng j (e2.wide hE),k4.imp λm p hv=>hv.move (λ_ _ h=>h) hD,k5.ng j (e3.wide hE)⟩
 .exact M149
 .exact M74
def rA.hb(h:rA w S D obj rs K E r W wr b s tb mb B8 B9 B10 pb so ms mv acc v)(hW:W.heap[b]?=some (.cells #[c0,c1,c2,c3,c4,c5,ts] 104 (0,0))):wr.heap[b]?=some (.cells #[c0,c1,c2,c3,c4,c5,ptr tb] 104 (0,0)):=by
 obtain⟨ms,es,ps,vs,I, -⟩:=h.ifc;rcases h.fr.block b (jQ2 hW)with e|⟨s,t1,t2,_,_,_,d0,d1,d2,d3,d4,d5,g1,g2⟩|⟨q,_⟩
 .rw[e,hW]at I;simp at I;obtain⟨-, -, -, -, -, -,rfl⟩:=I;exact e.trans hW
 .rw[hW]at g1;simp at g1;obtain⟨rfl,rfl,rfl,rfl,rfl,rfl, -⟩:=g1;rw[g2]at I;simp at I;obtain⟨-, -, -, -, -, -,rfl⟩:=I;exact g2
 .exact q.elim
def DA{a:Acc}(h:gu F w e=none):eG F w a e=a:=by unfold eG;rw[h]
def nO{a i:Acc}(h:gu F w e=some i):eG F w a e=⟨i.ms.foldl lF a.ms,(eJ F.id w (λt=>F.cmp t false) a.terms a.comp i.terms i.comp).1,(eJ F.id w (λt=>F.cmp t false) a.terms a.comp i.terms i.comp).2⟩:=by unfold eG;rw[h]
def PK(hk:e.ld=12\/e.ld=13):gu F w e=(unionTerms F w [] (Kt e)).map λts=>⟨[],ts,false⟩:=by
 unfold gu Kt;obtain h|h:=hk
 .rw[jQ7 h,jQ7 h]
 .rw[jQ4 M,jQ7 h,jQ4 M]
def PN(cQ:e.ld≠12)(cg:e.ld≠13)(hi:isIf (az w e)=true):gu F w e=some ⟨(F.ts (az w e)).lw,(F.ts (az w e)).terms,(F.ts (az w e)).comp⟩:=by
 unfold gu;rw[jQ4 cQ,jQ4 cg];simp[hi]
def LU(cQ:e.ld≠12)(cg:e.ld≠13)(hi:isIf (az w e)=false):gu F w e=some ⟨[],[some ⟨false,some e⟩],false⟩:=by
 unfold gu;rw[jQ4 cQ,jQ4 cg];simp[hi]
def Yj(cQ:t.ld≠12)(cg:t.ld≠13):¬(tid t.ld=184):=by
 intro e;exact M100
def abC(h:t.ld=12\/t.ld=13):tid t.ld=184:=by rcases h with e|e<;>rw[e]<;>rfl
def Yk(hE:Env NS Q w rs cs)(h:PT NS Q w 0 t):(az w t).ld≠12/\(az w t).ld≠13:=by
 rcases(lq hE.wk hE.qp h).1 with e|e
 .rw[e];exact⟨i5,i5⟩
 .have:=lg e.1;omega
def PO(h:PT NS Q w 2 e)(hk:e.ld=12\/e.ld=13)(H:Go.Proofs.YtbdgppghkdibfaaGreatDoor.S.TE w e)(hc:bP cs e<=50)(hJ:J rs true true e<B):∀x∈Kt e,PT NS Q w 1 x/\Go.Proofs.YtbdgppghkdibfaaGreatDoor.S.TX w x/\bP cs x<=50/\J rs true true x<B:=by
 intro x hm;unfold Kt at hm;obtain cQ|cg:=hk
 .rw[jQ7 cQ]at hm;obtain⟨p1,p2⟩:=uQ (rs:=rs) h cQ x hm;refine⟨p1,H.2 cQ x hm,?_,M⟩;have:bP cs e=cN cs 0 e.li:=M184
  have:=qS (cs:=cs) hm;omega
 .rw[jQ4 M]at hm;simp at hm;subst hm;exact⟨tw h cg,H.1,hc,hJ⟩
def iN.wide(h:iN E1 W O)(hE:∀b,E1 b->E2 b)(hn:∀b,E2 b->∀cs t f,W.heap[b]?=some (.cells cs t f)->t≠158/\t≠237):iN E2 W O:=
 ⟨h.os,h.tape,h.output,h.size,λb hb hn=>h.block b hb λe=>hn (hE b e),hn⟩
def iN.trans(h:iN E1 W O)(h':iN E1 O W2):iN E1 W W2:=
 ⟨h'.os.trans h.os,h'.tape.trans h.tape,h'.output.trans h.output,jQd h.size h'.size,λb hb hn=>(h'.block b (jQb hb h.size) hn).trans (h.block b hb hn),h.nt⟩
def rA.ont(h:rA w S D obj rs K E r W wr b s tb mb B8 B9 B10 pb so ms mv acc v):∀x,(x=tb\/mv.ownBlock=some x)->∀cs t f,wr.heap[x]?=some (.cells cs t f)->t≠158/\t≠237:=by
 rintro x (rfl|H) cs t f hc
 .obtain⟨tl,k⟩:=h.ts;rw[k]at hc;simp at hc;obtain⟨-,rfl, -⟩:=hc;decide
 .exact h.TC.nt x (.inr (.inr (.inr (.inr (.inr H))))) cs t f hc
def Yl(h:PT NS Q w md e)(cQ:e.ld≠12)(cg:e.ld≠13):PT NS Q w 0 e:=by
 cases h with
 |basic a b=>exact .basic a b
 |uni h=>exact .uni h
 |named a b c=>exact .named a b c
 |al a b c=>exact .al a b c
 |st a b c=>exact .st a b c
 |ifc a b c d e f g h i=>exact .ifc a b c d e f g h i
 |one a b c d=>exact .one a b c d
 |mp a b=>exact .mp a b
 |fn a b c d=>exact .fn a b c d
 |ti a b=>exact absurd rfl cg
 |un a b c d=>exact absurd rfl cQ
def abD(hk:e.ld=12\/e.ld=13):az w e=e:=M186
