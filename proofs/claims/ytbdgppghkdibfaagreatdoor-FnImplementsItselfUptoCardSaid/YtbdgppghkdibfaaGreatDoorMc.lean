/- Proved in these files: for every input within the bounds of the Upto statement, laws.FnImplementsItself returns true (an interface implements itself, and any) and leaves its arguments as they were. Conditions: none but those of the statement itself. -/
namespace Go.Proofs.YtbdgppghkdibfaaGreatDoor
structure Hd (p:Prop):Prop where
 o:p
theorem Z {p:Prop} (h:p):Hd p:=⟨h⟩
theorem Hd.out {p:Prop} (h:Hd p):p:=h.1
theorem Z3 {a b c:Prop}(A:a)(B:b)(C:c):Hd a∧Hd b∧Hd c:=⟨⟨A⟩,⟨B⟩,⟨C⟩⟩
theorem Z4 {a b c d:Prop}(A:a)(B:b)(C:c)(E:d):Hd a∧Hd b∧Hd c∧Hd d:=⟨⟨A⟩,⟨B⟩,⟨C⟩,⟨E⟩⟩
theorem Z5 {a b c d e:Prop}(A:a)(B:b)(C:c)(E:d)(F:e):Hd a∧Hd b∧Hd c∧Hd d∧Hd e:=⟨⟨A⟩,⟨B⟩,⟨C⟩,⟨E⟩,⟨F⟩⟩
theorem Z6 {a b c d e f:Prop}(A:a)(B:b)(C:c)(E:d)(F:e)(G:f):Hd a∧Hd b∧Hd c∧Hd d∧Hd e∧Hd f:=⟨⟨A⟩,⟨B⟩,⟨C⟩,⟨E⟩,⟨F⟩,⟨G⟩⟩
theorem Z7 {a b c d e f g:Prop}(A:a)(B:b)(C:c)(E:d)(F:e)(G:f)(hx:g):Hd a∧Hd b∧Hd c∧Hd d∧Hd e∧Hd f∧Hd g:=⟨⟨A⟩,⟨B⟩,⟨C⟩,⟨E⟩,⟨F⟩,⟨G⟩,⟨hx⟩⟩
theorem Z8 {a b c d e f g h:Prop}(A:a)(B:b)(C:c)(E:d)(F:e)(G:f)(hx:g)(h1:h):Hd a∧Hd b∧Hd c∧Hd d∧Hd e∧Hd f∧Hd g∧Hd h:=⟨⟨A⟩,⟨B⟩,⟨C⟩,⟨E⟩,⟨F⟩,⟨G⟩,⟨hx⟩,⟨h1⟩⟩
theorem M{p:Prop}(h:p:=by omega):p:=h
theorem i5{p:Prop}(h:p:=by decide):p:=h
theorem i6{p:Prop}(h:p:=by simp):p:=h
abbrev Qx:=Nat->Prop
theorem G9{p q:Prop}(h:q)(f:q->p:=by intro h;simpa using h):p:=f h
theorem V5{p q:Prop}(h:q)(f:q->p:=by intro h;omega):p:=f h
theorem V6{p q r:Prop}(h:q)(g:r)(f:q->r->p:=by intro h g;omega):p:=f h g
end Go.Proofs.YtbdgppghkdibfaaGreatDoor
