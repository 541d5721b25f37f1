import Derived.Test.YtabjfnkfocnklaaGreatDoorA11
set_option linter.all false
set_option maxHeartbeats 16000000
set_option maxRecDepth 20000
namespace Go.Proofs.YtabjfnkfocnklaaGreatDoor
open Go Go.RowKit Go.Lib S P Tryz
variable{s1 s2 sa sb sx sy x y:GT}{Q:GT->Prop}{NS:List ByteArray}{cs rs:List Nat}{w:List ah}{K a b cb q r:Nat}{obj:Nat->Nat}{D E X:Nat->Prop}{Y:Prop}{S:Sg}{p pp pq u v:Value}{W W':World}
theorem M193(h:Y:=by
 refine jQl g9 ?_ _;clear ai;go_wp2_with fail;go_ret;exact⟨rfl,1,rfl⟩):Y:=h
theorem M73(h:Y:=by
 refine bg 31 ?_;refine bg 32 ?_;refine bg 33 ?_;refine bg 34 ?_;refine bg 35 ?_;refine bg 36 ?_;refine bg 37 ?_;refine bg 38 ?_;refine bg 39 ?_;refine t2 40 41 ?_;refine tk 42 ?_;exact M193):Y:=h
theorem acM:(Tryz.prog.info? 102).map (·.size)=some 7:=g9
theorem acN:Tryz.prog.underlying 33=some (.pointer 102):=g9
theorem OA(hg:GH w S D obj W)(ha:S a=some sa)(hb:S b=some sb)(n:Nat):(binOp .eql 33 (ptr a) (ptr b)).run prog (W.drewN n)=.ok (.bool (a==b)) (W.drewN n):=by
 obtain⟨j,hj,hz⟩:=jQ6.1 acM;obtain⟨cs,t,hc⟩:=hg.A9 a sa ha;obtain⟨Ek,t',yq⟩:=hg.A9 b sb hb;exact abH (LK (W:=W.drewN n) acN hj (by rw[hz];decide) hc yq)
theorem Mz{bp bq x1 y1 b1 b2:Nat}(hg:GH w S D obj W)(hx:S x1=some sx)(hy:S y1=some sy)(h1:S b1=some s1)(h2:S b2=some s2)(hp:W.heap[bp]?=some (.cells #[ptr x1,ptr y1,pp] 276 (0,0)))(hq:W.heap[bq]?=some (.cells #[ptr b1,ptr b2,pq] 276 (0,0)))(hb:b1≠b2)(hn:¬(x1=b1/\y1=b2))(iK:¬(x1=b2/\y1=b1)):
 Calls prog 163 #[ptr bp,ptr bq] W (LS W (.bool false)):=by
 have k1:W.cell? ⟨bp,0,none⟩=some (ptr x1):=by simp[World.cell?,hp]
 have k2:W.cell? ⟨bp,1,none⟩=some (ptr y1):=by simp[World.cell?,hp]
 have k3:W.cell? ⟨bq,0,none⟩=some (ptr b1):=by simp[World.cell?,hq]
 have k4:W.cell? ⟨bq,1,none⟩=some (ptr b2):=by simp[World.cell?,hq]
 have e1:=OA hg hx h1;have e2:=OA hg hy h2;have e3:=OA hg hx h2;have e4:=OA hg hy h1;clear hg hx hy h1 h2 hp hq;by_cases dt:x1=b1
 ·have r1:(x1==b1)=true:=by simpa using dt
  have r2:(y1==b2)=false:=by simpa using λe=>hn ⟨dt,e⟩
  have r3:(x1==b2)=false:=by simpa using λe=>hb (dt.symm.trans e)
  obtain⟨v4,r4⟩:∃v,(y1==b1)=v:=⟨_,rfl⟩;clear hn iK hb dt;have hS:∃n,W.drew=W.drewN n/\True:=⟨1,rfl,trivial⟩;have hSS:=Z (show∀w',(∃n,w'=W.drewN n)->(∃n,w'=W.drewN n)/\w'.cell? ⟨bp,0,none⟩=some (ptr x1)/\w'.cell? ⟨bp,1,none⟩=some (ptr y1)/\w'.cell? ⟨bq,0,none⟩=some (ptr b1)/\w'.cell? ⟨bq,1,none⟩=some (ptr b2)/\(binOp .eql 33 (ptr x1) (ptr b1)).run prog w'=.ok (.bool true) w'/\(binOp .eql 33 (ptr y1) (ptr b2)).run prog w'=.ok (.bool false) w'/\(binOp .eql 33 (ptr x1) (ptr b2)).run prog w'=.ok (.bool false) w'/\(binOp .eql 33 (ptr y1) (ptr b1)).run prog w'=.ok (.bool v4) w' from λw' ⟨n,e⟩=>by subst e;exact⟨⟨n,rfl⟩,k1,k2,k3,k4,by rw[<-r1];exact e1 n,by rw[<-r2];exact e2 n,by rw[<-r3];exact e3 n,by rw[<-r4];exact e4 n⟩);clear e1 e2 e3 e4 r1 r2 r3 r4 hS;go_enter func163,ntmps163;go_wp2_with fail;refine jQ9 (S:=(λw'=>(∃n,w'=W.drewN n)/\w'.cell? ⟨bp,0,none⟩=some (ptr x1)/\w'.cell? ⟨bp,1,none⟩=some (ptr y1)/\w'.cell? ⟨bq,0,none⟩=some (ptr b1)/\w'.cell? ⟨bq,1,none⟩=some (ptr b2)/\(binOp .eql 33 (ptr x1) (ptr b1)).run prog w'=.ok (.bool true) w'/\(binOp .eql 33 (ptr y1) (ptr b2)).run prog w'=.ok (.bool false) w'/\(binOp .eql 33 (ptr x1) (ptr b2)).run prog w'=.ok (.bool false) w'/\(binOp .eql 33 (ptr y1) (ptr b1)).run prog w'=.ok (.bool v4) w')) g9 (hSS.1 _ ⟨1,rfl⟩) (λai=>?_);refine t4 0 1 2 3 ?_;refine t4 4 5 6 7 ?_;refine t4 8 9 10 11 ?_;refine t4 12 13 14 15 ?_;refine t4 16 17 18 19 ?_;refine t4 20 21 22 23 ?_;refine t4 24 25 26 27 ?_;refine t2 28 29 ?_;refine tk 30 ?_;exact M73
 ·have r1:(x1==b1)=false:=by simpa using dt
  obtain⟨v2,r2⟩:∃v,(y1==b2)=v:=⟨_,rfl⟩;by_cases dF:x1=b2
  ·have r3:(x1==b2)=true:=by simpa using dF
   have r4:(y1==b1)=false:=by simpa using λe=>iK ⟨dF,e⟩
   clear hn iK hb dt dF;have hS:∃n,W.drew=W.drewN n/\True:=⟨1,rfl,trivial⟩;have hSS:=Z (show∀w',(∃n,w'=W.drewN n)->(∃n,w'=W.drewN n)/\w'.cell? ⟨bp,0,none⟩=some (ptr x1)/\w'.cell? ⟨bp,1,none⟩=some (ptr y1)/\w'.cell? ⟨bq,0,none⟩=some (ptr b1)/\w'.cell? ⟨bq,1,none⟩=some (ptr b2)/\(binOp .eql 33 (ptr x1) (ptr b1)).run prog w'=.ok (.bool false) w'/\(binOp .eql 33 (ptr y1) (ptr b2)).run prog w'=.ok (.bool v2) w'/\(binOp .eql 33 (ptr x1) (ptr b2)).run prog w'=.ok (.bool true) w'/\(binOp .eql 33 (ptr y1) (ptr b1)).run prog w'=.ok (.bool false) w' from λw' ⟨n,e⟩=>by subst e;exact⟨⟨n,rfl⟩,k1,k2,k3,k4,by rw[<-r1];exact e1 n,by rw[<-r2];exact e2 n,by rw[<-r3];exact e3 n,by rw[<-r4];exact e4 n⟩);clear e1 e2 e3 e4 r1 r2 r3 r4 hS;go_enter func163,ntmps163;go_wp2_with fail;refine jQ9 (S:=(λw'=>(∃n,w'=W.drewN n)/\w'.cell? ⟨bp,0,none⟩=some (ptr x1)/\w'.cell? ⟨bp,1,none⟩=some (ptr y1)/\w'.cell? ⟨bq,0,none⟩=some (ptr b1)/\w'.cell? ⟨bq,1,none⟩=some (ptr b2)/\(binOp .eql 33 (ptr x1) (ptr b1)).run prog w'=.ok (.bool false) w'/\(binOp .eql 33 (ptr y1) (ptr b2)).run prog w'=.ok (.bool v2) w'/\(binOp .eql 33 (ptr x1) (ptr b2)).run prog w'=.ok (.bool true) w'/\(binOp .eql 33 (ptr y1) (ptr b1)).run prog w'=.ok (.bool false) w')) g9 (hSS.1 _ ⟨1,rfl⟩) (λai=>?_);refine t4 0 1 2 3 ?_;refine t4 4 5 6 7 ?_;refine t2 8 9 ?_;refine bg 10 ?_;refine bg 11 ?_;refine bg 12 ?_;refine bg 13 ?_;refine bg 14 ?_;refine bg 15 ?_;refine bg 16 ?_;refine bg 17 ?_;refine bg 18 ?_;refine t4 19 20 21 22 ?_;refine t4 23 24 25 26 ?_;refine t4 27 28 29 30 ?_;refine t4 31 32 33 34 ?_;refine t4 35 36 37 38 ?_;refine t4 39 40 41 42 ?_;exact M193
  ·have r3:(x1==b2)=false:=by simpa using dF
   obtain⟨v4,r4⟩:∃v,(y1==b1)=v:=⟨_,rfl⟩;clear hn iK hb dt dF;have hS:∃n,W.drew=W.drewN n/\True:=⟨1,rfl,trivial⟩;have hSS:=Z (show∀w',(∃n,w'=W.drewN n)->(∃n,w'=W.drewN n)/\w'.cell? ⟨bp,0,none⟩=some (ptr x1)/\w'.cell? ⟨bp,1,none⟩=some (ptr y1)/\w'.cell? ⟨bq,0,none⟩=some (ptr b1)/\w'.cell? ⟨bq,1,none⟩=some (ptr b2)/\(binOp .eql 33 (ptr x1) (ptr b1)).run prog w'=.ok (.bool false) w'/\(binOp .eql 33 (ptr y1) (ptr b2)).run prog w'=.ok (.bool v2) w'/\(binOp .eql 33 (ptr x1) (ptr b2)).run prog w'=.ok (.bool false) w'/\(binOp .eql 33 (ptr y1) (ptr b1)).run prog w'=.ok (.bool v4) w' from λw' ⟨n,e⟩=>by subst e;exact⟨⟨n,rfl⟩,k1,k2,k3,k4,by rw[<-r1];exact e1 n,by rw[<-r2];exact e2 n,by rw[<-r3];exact e3 n,by rw[<-r4];exact e4 n⟩);clear e1 e2 e3 e4 r1 r2 r3 r4 hS;go_enter func163,ntmps163;go_wp2_with fail;refine jQ9 (S:=(λw'=>(∃n,w'=W.drewN n)/\w'.cell? ⟨bp,0,none⟩=some (ptr x1)/\w'.cell? ⟨bp,1,none⟩=some (ptr y1)/\w'.cell? ⟨bq,0,none⟩=some (ptr b1)/\w'.cell? ⟨bq,1,none⟩=some (ptr b2)/\(binOp .eql 33 (ptr x1) (ptr b1)).run prog w'=.ok (.bool false) w'/\(binOp .eql 33 (ptr y1) (ptr b2)).run prog w'=.ok (.bool v2) w'/\(binOp .eql 33 (ptr x1) (ptr b2)).run prog w'=.ok (.bool false) w'/\(binOp .eql 33 (ptr y1) (ptr b1)).run prog w'=.ok (.bool v4) w')) g9 (hSS.1 _ ⟨1,rfl⟩) (λai=>?_);refine t4 0 1 2 3 ?_;refine t4 4 5 6 7 ?_;refine t2 8 9 ?_;refine bg 10 ?_;refine bg 11 ?_;refine bg 12 ?_;refine bg 13 ?_;refine bg 14 ?_;refine bg 15 ?_;refine bg 16 ?_;refine bg 17 ?_;refine bg 18 ?_;refine t4 19 20 21 22 ?_;refine t4 23 24 25 26 ?_;refine t4 27 28 29 30 ?_;exact M73
def QI(S:Sg)(rs:List Nat)(W:World)(q:Nat):Nat->Value->Prop
 |0,p=>p=.pointer none
 |n+1,p=>∃b x y sx sy p',p=ptr b/\S b=none/\W.heap[b]?=some (.cells #[ptr x,ptr y,p'] 276 (0,0))/\S x=some sx/\S y=some sy/\(q<=2*J rs false false sx+1\/q<=2*J rs false false sy+1)/\QI S rs W q n p'
theorem vZ.depth(h:vZ S rs W q p):∃n,QI S rs W q n p:=by
 induction h with
 |nil=>exact⟨0,rfl⟩
 |cons a1 a2 a3 a4 a5 _ ih=>obtain⟨n,hn⟩:=ih;exact⟨n+1,_,_,_,_,_,_,rfl,a1,a2,a3,a4,a5,hn⟩
theorem QI.move:∀{n:Nat} {p:Value},QI S rs W q n p->bZ X S rs r W W'->QI S rs W' q n p
 |0,_,h,_=>h
 |n+1,p,h,hf=>by
  obtain⟨b,x,y,sx,sy,p',h1,h2,h3,h4,h5,h6,h7⟩:=h;exact⟨b,x,y,sx,sy,p',h1,h2,hf.obj h2 h3,h4,h5,h6,h7.move hf⟩
end Go.Proofs.YtabjfnkfocnklaaGreatDoor
