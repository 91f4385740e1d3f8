import PyProof.Rows.All
import Wide.All
import OpenK.AllK
import Wide.FinOn
import Lean
import PySem.Challenge.RW_oy0348_01
set_option Elab.async false
set_option linter.all false
set_option maxRecDepth 100000
set_option maxHeartbeats 4000000
namespace Mine
theorem bW{P0 P1:Prop}{G:Prop}(h:P0/\P1)(f:P0->P1->G):G:=f h.1 h.2
theorem aU{α0:Type}{P0:α0->Prop}{G:Prop}(h:∃x0,P0 x0)(f:∀x0,P0 x0->G):G:=h.elim λx0 h=>f x0 h
theorem tZ{P0 P1 P2:Prop}{G:Prop}(h:P0/\P1/\P2)(f:P0->P1->P2->G):G:=f h.1 h.2.1 h.2.2
theorem aL{α0:Type}{P0 P1:α0->Prop}{G:Prop}(h:∃x0,P0 x0/\P1 x0)(f:∀x0,P0 x0->P1 x0->G):G:=h.elim λx0 h=>f x0 h.1 h.2
theorem mF{α0 α1:Type}{P0:α0->α1->Prop}{G:Prop}(h:∃x0 x1,P0 x0 x1)(f:∀x0 x1,P0 x0 x1->G):G:=h.elim λx0 h=>h.elim λx1 h=>f x0 x1 h
theorem nU{P0 P1 P2 P3:Prop}{G:Prop}(h:P0/\P1/\P2/\P3)(f:P0->P1->P2->P3->G):G:=f h.1 h.2.1 h.2.2.1 h.2.2.2
theorem rW{α0:Type}{P0 P1 P2:α0->Prop}{G:Prop}(h:∃x0,P0 x0/\P1 x0/\P2 x0)(f:∀x0,P0 x0->P1 x0->P2 x0->G):G:=h.elim λx0 h=>f x0 h.1 h.2.1 h.2.2
theorem dZ{α0 α1:Type}{P0 P1:α0->α1->Prop}{G:Prop}(h:∃x0 x1,P0 x0 x1/\P1 x0 x1)(f:∀x0 x1,P0 x0 x1->P1 x0 x1->G):G:=h.elim λx0 h=>h.elim λx1 h=>f x0 x1 h.1 h.2
theorem YV{P0 P1 P2 P3 P4:Prop}{G:Prop}(h:P0/\P1/\P2/\P3/\P4)(f:P0->P1->P2->P3->P4->G):G:=f h.1 h.2.1 h.2.2.1 h.2.2.2.1 h.2.2.2.2
theorem SQ{α0:Type}{P0 P1 P2 P3:α0->Prop}{G:Prop}(h:∃x0,P0 x0/\P1 x0/\P2 x0/\P3 x0)(f:∀x0,P0 x0->P1 x0->P2 x0->P3 x0->G):G:=h.elim λx0 h=>f x0 h.1 h.2.1 h.2.2.1 h.2.2.2
theorem iG{α0 α1:Type}{P0 P1 P2:α0->α1->Prop}{G:Prop}(h:∃x0 x1,P0 x0 x1/\P1 x0 x1/\P2 x0 x1)(f:∀x0 x1,P0 x0 x1->P1 x0 x1->P2 x0 x1->G):G:=h.elim λx0 h=>h.elim λx1 h=>f x0 x1 h.1 h.2.1 h.2.2
theorem eU{α0 α1 α2:Type}{P0 P1:α0->α1->α2->Prop}{G:Prop}(h:∃x0 x1 x2,P0 x0 x1 x2/\P1 x0 x1 x2)(f:∀x0 x1 x2,P0 x0 x1 x2->P1 x0 x1 x2->G):G:=h.elim λx0 h=>h.elim λx1 h=>h.elim λx2 h=>f x0 x1 x2 h.1 h.2
theorem UT{α0 α1 α2 α3:Type}{P0:α0->α1->α2->α3->Prop}{G:Prop}(h:∃x0 x1 x2 x3,P0 x0 x1 x2 x3)(f:∀x0 x1 x2 x3,P0 x0 x1 x2 x3->G):G:=h.elim λx0 h=>h.elim λx1 h=>h.elim λx2 h=>h.elim λx3 h=>f x0 x1 x2 x3 h
theorem YW{P0 P1 P2 P3 P4 P5:Prop}{G:Prop}(h:P0/\P1/\P2/\P3/\P4/\P5)(f:P0->P1->P2->P3->P4->P5->G):G:=f h.1 h.2.1 h.2.2.1 h.2.2.2.1 h.2.2.2.2.1 h.2.2.2.2.2
theorem UM{α0:Type}{P0 P1 P2 P3 P4:α0->Prop}{G:Prop}(h:∃x0,P0 x0/\P1 x0/\P2 x0/\P3 x0/\P4 x0)(f:∀x0,P0 x0->P1 x0->P2 x0->P3 x0->P4 x0->G):G:=h.elim λx0 h=>f x0 h.1 h.2.1 h.2.2.1 h.2.2.2.1 h.2.2.2.2
theorem qC{α0 α1:Type}{P0 P1 P2 P3:α0->α1->Prop}{G:Prop}(h:∃x0 x1,P0 x0 x1/\P1 x0 x1/\P2 x0 x1/\P3 x0 x1)(f:∀x0 x1,P0 x0 x1->P1 x0 x1->P2 x0 x1->P3 x0 x1->G):G:=h.elim λx0 h=>h.elim λx1 h=>f x0 x1 h.1 h.2.1 h.2.2.1 h.2.2.2
theorem nV{α0 α1 α2:Type}{P0 P1 P2:α0->α1->α2->Prop}{G:Prop}(h:∃x0 x1 x2,P0 x0 x1 x2/\P1 x0 x1 x2/\P2 x0 x1 x2)(f:∀x0 x1 x2,P0 x0 x1 x2->P1 x0 x1 x2->P2 x0 x1 x2->G):G:=h.elim λx0 h=>h.elim λx1 h=>h.elim λx2 h=>f x0 x1 x2 h.1 h.2.1 h.2.2
theorem UU{α0 α1 α2 α3:Type}{P0 P1:α0->α1->α2->α3->Prop}{G:Prop}(h:∃x0 x1 x2 x3,P0 x0 x1 x2 x3/\P1 x0 x1 x2 x3)(f:∀x0 x1 x2 x3,P0 x0 x1 x2 x3->P1 x0 x1 x2 x3->G):G:=h.elim λx0 h=>h.elim λx1 h=>h.elim λx2 h=>h.elim λx3 h=>f x0 x1 x2 x3 h.1 h.2
theorem EN{α0 α1:Type}{P0 P1 P2 P3 P4:α0->α1->Prop}{G:Prop}(h:∃x0 x1,P0 x0 x1/\P1 x0 x1/\P2 x0 x1/\P3 x0 x1/\P4 x0 x1)(f:∀x0 x1,P0 x0 x1->P1 x0 x1->P2 x0 x1->P3 x0 x1->P4 x0 x1->G):G:=h.elim λx0 h=>h.elim λx1 h=>f x0 x1 h.1 h.2.1 h.2.2.1 h.2.2.2.1 h.2.2.2.2
theorem tX{α0 α1 α2:Type}{P0 P1 P2 P3:α0->α1->α2->Prop}{G:Prop}(h:∃x0 x1 x2,P0 x0 x1 x2/\P1 x0 x1 x2/\P2 x0 x1 x2/\P3 x0 x1 x2)(f:∀x0 x1 x2,P0 x0 x1 x2->P1 x0 x1 x2->P2 x0 x1 x2->P3 x0 x1 x2->G):G:=h.elim λx0 h=>h.elim λx1 h=>h.elim λx2 h=>f x0 x1 x2 h.1 h.2.1 h.2.2.1 h.2.2.2
theorem UV{P0 P1 P2 P3 P4 P5 P6 P7:Prop}{G:Prop}(h:P0/\P1/\P2/\P3/\P4/\P5/\P6/\P7)(f:P0->P1->P2->P3->P4->P5->P6->P7->G):G:=f h.1 h.2.1 h.2.2.1 h.2.2.2.1 h.2.2.2.2.1 h.2.2.2.2.2.1 h.2.2.2.2.2.2.1 h.2.2.2.2.2.2.2
theorem YX{α0:Type}{P0 P1 P2 P3 P4 P5 P6:α0->Prop}{G:Prop}(h:∃x0,P0 x0/\P1 x0/\P2 x0/\P3 x0/\P4 x0/\P5 x0/\P6 x0)(f:∀x0,P0 x0->P1 x0->P2 x0->P3 x0->P4 x0->P5 x0->P6 x0->G):G:=h.elim λx0 h=>f x0 h.1 h.2.1 h.2.2.1 h.2.2.2.1 h.2.2.2.2.1 h.2.2.2.2.2.1 h.2.2.2.2.2.2
theorem uS{α0 α1 α2 α3:Type}{P0 P1 P2 P3:α0->α1->α2->α3->Prop}{G:Prop}(h:∃x0 x1 x2 x3,P0 x0 x1 x2 x3/\P1 x0 x1 x2 x3/\P2 x0 x1 x2 x3/\P3 x0 x1 x2 x3)(f:∀x0 x1 x2 x3,P0 x0 x1 x2 x3->P1 x0 x1 x2 x3->P2 x0 x1 x2 x3->P3 x0 x1 x2 x3->G):G:=h.elim λx0 h=>h.elim λx1 h=>h.elim λx2 h=>h.elim λx3 h=>f x0 x1 x2 x3 h.1 h.2.1 h.2.2.1 h.2.2.2
theorem YY{α0 α1 α2:Type}{P0 P1 P2 P3 P4 P5:α0->α1->α2->Prop}{G:Prop}(h:∃x0 x1 x2,P0 x0 x1 x2/\P1 x0 x1 x2/\P2 x0 x1 x2/\P3 x0 x1 x2/\P4 x0 x1 x2/\P5 x0 x1 x2)(f:∀x0 x1 x2,P0 x0 x1 x2->P1 x0 x1 x2->P2 x0 x1 x2->P3 x0 x1 x2->P4 x0 x1 x2->P5 x0 x1 x2->G):G:=h.elim λx0 h=>h.elim λx1 h=>h.elim λx2 h=>f x0 x1 x2 h.1 h.2.1 h.2.2.1 h.2.2.2.1 h.2.2.2.2.1 h.2.2.2.2.2
theorem YI{α0 α1 α2 α3:Type}{P0 P1 P2 P3 P4:α0->α1->α2->α3->Prop}{G:Prop}(h:∃x0 x1 x2 x3,P0 x0 x1 x2 x3/\P1 x0 x1 x2 x3/\P2 x0 x1 x2 x3/\P3 x0 x1 x2 x3/\P4 x0 x1 x2 x3)(f:∀x0 x1 x2 x3,P0 x0 x1 x2 x3->P1 x0 x1 x2 x3->P2 x0 x1 x2 x3->P3 x0 x1 x2 x3->P4 x0 x1 x2 x3->G):G:=h.elim λx0 h=>h.elim λx1 h=>h.elim λx2 h=>h.elim λx3 h=>f x0 x1 x2 x3 h.1 h.2.1 h.2.2.1 h.2.2.2.1 h.2.2.2.2
theorem SV{α0 α1 α2 α3 α4 α5:Type}{P0 P1 P2:α0->α1->α2->α3->α4->α5->Prop}{G:Prop}(h:∃x0 x1 x2 x3 x4 x5,P0 x0 x1 x2 x3 x4 x5/\P1 x0 x1 x2 x3 x4 x5/\P2 x0 x1 x2 x3 x4 x5)(f:∀x0 x1 x2 x3 x4 x5,P0 x0 x1 x2 x3 x4 x5->P1 x0 x1 x2 x3 x4 x5->P2 x0 x1 x2 x3 x4 x5->G):G:=h.elim λx0 h=>h.elim λx1 h=>h.elim λx2 h=>h.elim λx3 h=>h.elim λx4 h=>h.elim λx5 h=>f x0 x1 x2 x3 x4 x5 h.1 h.2.1 h.2.2
theorem UW{α0 α1 α2 α3:Type}{P0 P1 P2 P3 P4 P5:α0->α1->α2->α3->Prop}{G:Prop}(h:∃x0 x1 x2 x3,P0 x0 x1 x2 x3/\P1 x0 x1 x2 x3/\P2 x0 x1 x2 x3/\P3 x0 x1 x2 x3/\P4 x0 x1 x2 x3/\P5 x0 x1 x2 x3)(f:∀x0 x1 x2 x3,P0 x0 x1 x2 x3->P1 x0 x1 x2 x3->P2 x0 x1 x2 x3->P3 x0 x1 x2 x3->P4 x0 x1 x2 x3->P5 x0 x1 x2 x3->G):G:=h.elim λx0 h=>h.elim λx1 h=>h.elim λx2 h=>h.elim λx3 h=>f x0 x1 x2 x3 h.1 h.2.1 h.2.2.1 h.2.2.2.1 h.2.2.2.2.1 h.2.2.2.2.2
theorem YZ{α0 α1 α2 α3 α4 α5 α6:Type}{P0 P1 P2:α0->α1->α2->α3->α4->α5->α6->Prop}{G:Prop}(h:∃x0 x1 x2 x3 x4 x5 x6,P0 x0 x1 x2 x3 x4 x5 x6/\P1 x0 x1 x2 x3 x4 x5 x6/\P2 x0 x1 x2 x3 x4 x5 x6)(f:∀x0 x1 x2 x3 x4 x5 x6,P0 x0 x1 x2 x3 x4 x5 x6->P1 x0 x1 x2 x3 x4 x5 x6->P2 x0 x1 x2 x3 x4 x5 x6->G):G:=h.elim λx0 h=>h.elim λx1 h=>h.elim λx2 h=>h.elim λx3 h=>h.elim λx4 h=>h.elim λx5 h=>h.elim λx6 h=>f x0 x1 x2 x3 x4 x5 x6 h.1 h.2.1 h.2.2
theorem SW{α0 α1:Type}{P0 P1 P2 P3 P4 P5 P6 P7 P8:α0->α1->Prop}{G:Prop}(h:∃x0 x1,P0 x0 x1/\P1 x0 x1/\P2 x0 x1/\P3 x0 x1/\P4 x0 x1/\P5 x0 x1/\P6 x0 x1/\P7 x0 x1/\P8 x0 x1)(f:∀x0 x1,P0 x0 x1->P1 x0 x1->P2 x0 x1->P3 x0 x1->P4 x0 x1->P5 x0 x1->P6 x0 x1->P7 x0 x1->P8 x0 x1->G):G:=h.elim λx0 h=>h.elim λx1 h=>f x0 x1 h.1 h.2.1 h.2.2.1 h.2.2.2.1 h.2.2.2.2.1 h.2.2.2.2.2.1 h.2.2.2.2.2.2.1 h.2.2.2.2.2.2.2.1 h.2.2.2.2.2.2.2.2
theorem SR{α0 α1 α2 α3 α4 α5 α6:Type}{P0 P1 P2 P3:α0->α1->α2->α3->α4->α5->α6->Prop}{G:Prop}(h:∃x0 x1 x2 x3 x4 x5 x6,P0 x0 x1 x2 x3 x4 x5 x6/\P1 x0 x1 x2 x3 x4 x5 x6/\P2 x0 x1 x2 x3 x4 x5 x6/\P3 x0 x1 x2 x3 x4 x5 x6)(f:∀x0 x1 x2 x3 x4 x5 x6,P0 x0 x1 x2 x3 x4 x5 x6->P1 x0 x1 x2 x3 x4 x5 x6->P2 x0 x1 x2 x3 x4 x5 x6->P3 x0 x1 x2 x3 x4 x5 x6->G):G:=h.elim λx0 h=>h.elim λx1 h=>h.elim λx2 h=>h.elim λx3 h=>h.elim λx4 h=>h.elim λx5 h=>h.elim λx6 h=>f x0 x1 x2 x3 x4 x5 x6 h.1 h.2.1 h.2.2.1 h.2.2.2
theorem ZA{α0 α1 α2 α3 α4 α5 α6 α7:Type}{P0 P1 P2:α0->α1->α2->α3->α4->α5->α6->α7->Prop}{G:Prop}(h:∃x0 x1 x2 x3 x4 x5 x6 x7,P0 x0 x1 x2 x3 x4 x5 x6 x7/\P1 x0 x1 x2 x3 x4 x5 x6 x7/\P2 x0 x1 x2 x3 x4 x5 x6 x7)(f:∀x0 x1 x2 x3 x4 x5 x6 x7,P0 x0 x1 x2 x3 x4 x5 x6 x7->P1 x0 x1 x2 x3 x4 x5 x6 x7->P2 x0 x1 x2 x3 x4 x5 x6 x7->G):G:=h.elim λx0 h=>h.elim λx1 h=>h.elim λx2 h=>h.elim λx3 h=>h.elim λx4 h=>h.elim λx5 h=>h.elim λx6 h=>h.elim λx7 h=>f x0 x1 x2 x3 x4 x5 x6 x7 h.1 h.2.1 h.2.2
theorem ZB{α0 α1 α2 α3:Type}{P0 P1 P2 P3 P4 P5 P6 P7:α0->α1->α2->α3->Prop}{G:Prop}(h:∃x0 x1 x2 x3,P0 x0 x1 x2 x3/\P1 x0 x1 x2 x3/\P2 x0 x1 x2 x3/\P3 x0 x1 x2 x3/\P4 x0 x1 x2 x3/\P5 x0 x1 x2 x3/\P6 x0 x1 x2 x3/\P7 x0 x1 x2 x3)(f:∀x0 x1 x2 x3,P0 x0 x1 x2 x3->P1 x0 x1 x2 x3->P2 x0 x1 x2 x3->P3 x0 x1 x2 x3->P4 x0 x1 x2 x3->P5 x0 x1 x2 x3->P6 x0 x1 x2 x3->P7 x0 x1 x2 x3->G):G:=h.elim λx0 h=>h.elim λx1 h=>h.elim λx2 h=>h.elim λx3 h=>f x0 x1 x2 x3 h.1 h.2.1 h.2.2.1 h.2.2.2.1 h.2.2.2.2.1 h.2.2.2.2.2.1 h.2.2.2.2.2.2.1 h.2.2.2.2.2.2.2
@[elab_as_elim] theorem zl{α:Sort u}{a b:α}{P:α->Prop}(h:a=b)(p:P b):P a:=h▸p
@[elab_as_elim] theorem zr{α:Sort u}{a b:α}{P:α->Prop}(h:b=a)(p:P b):P a:=h▸p
theorem sx{α:Type u}{o:Option α}{x y:α}(h:o=some x)(k:o=some y):x=y:=Option.some.inj (h.symm.trans k)
theorem oj{α:Type u}{x y:α}(h:some x=some y):x=y:=Option.some.inj h
theorem tq{α:Sort u}{x y z:α}(h:x=y)(k:x=z):y=z:=h.symm.trans k
theorem UX{P:List Int->Prop}(h1:∀x,P [x])(h2:∀x y,P [x,y])(h3:∀x y z,P [x,y,z])(o:List Int)(h:1<=o.length/\o.length<=3):P o:=
 List.casesOn (motive:=λo=>1<=o.length/\o.length<=3->P o) o (λh=>absurd h.1 (by decide)) (λx o=>List.casesOn (motive:=λo=>1<=(x::o).length/\(x::o).length<=3->P (x::o)) o (λ_=>h1 x) (λy o=>List.casesOn (motive:=λo=>1<=(x::y::o).length/\(x::y::o).length<=3->P (x::y::o)) o (λ_=>h2 x y) (λz o=>List.casesOn (motive:=λo=>1<=(x::y::z::o).length/\(x::y::z::o).length<=3->P (x::y::z::o)) o (λ_=>h3 x y z) (λw o h=>absurd h.2 (Nat.not_le_of_gt (Nat.le_add_left 4 o.length)))))) h
theorem lz{α:Type u}{l:List α}(h:l.length=0):l=[]:=List.eq_nil_of_length_eq_zero h
theorem ls{α:Type u}{n:Nat}{P:List α->Prop}(f:∀a l,l.length=n->P (a::l))(l:List α)(h:l.length=n+1):P l:=
 List.casesOn (motive:=λl=>l.length=n+1->P l) l (λh=>nomatch h) (λa l h=>f a l (Nat.succ.inj h)) h
theorem YJ{α:Type u}{P:List α->Prop}(f:∀a,P [a])(l:List α)(h:l.length=1):P l:=ls (n:=0) (λa _ h=>zl (lz h) (f a)) l h
theorem YK{α:Type u}{P:List α->Prop}(f:∀a b,P [a,b])(l:List α)(h:l.length=2):P l:=ls (n:=1) (λa=>YJ (f a)) l h
theorem Ah{α:Type u}{P:List α->Prop}(f:∀a b c,P [a,b,c])(l:List α)(h:l.length=3):P l:=ls (n:=2) (λa=>YK (f a)) l h
end Mine
local macro_rules |`(tactic|rwa[$e:term])=>`(tactic|refine Mine.zl $e ?_)|`(tactic|rwa[←$e:term])=>`(tactic|refine Mine.zr $e ?_)|`(tactic|rwa[$r,$s,*])=>`(tactic|(rwa[$r];rwa[$s,*]))
local macro_rules |`(∅)=>`(by decide)
local macro_rules |`(tactic|rcases $f:ident $e with $p|*)=>`(tactic|(refine $f $e ?_;rintro $[($p:rcasesPat)]*))
local macro_rules |`(tactic|obtain rfl:=$f:ident $x:ident)=>`(tactic|(have h_:=$f $x;clear $x;subst h_))|`(tactic|obtain $p|*:=$f:ident $x:ident)=>`(tactic|(refine $f $x ?_;clear $x;rintro $[($p:rcasesPat)]*))|`(tactic|obtain $p|*:=$f:ident ($g:ident $x:ident))=>`(tactic|(refine $f ($g $x) ?_;clear $x;rintro $[($p:rcasesPat)]*))
section
open PySem PySem.W PyProof.Rows PySem.Calls
namespace Mine
theorem Ai{P:Prop}(h:∀G:Prop,(P->G)->G):P:=h P id
inductive D where
 | none
 | bool (b:Bool)
 | int (i:Int)
 | str (s:Str)
 | bytes (b:Array UInt8)
 | list (l:List D)
 | ptr (a:Addr)
 | ty (T:String)
 deriving Inhabited
mutual
inductive Rd (X:Addr->Prop) (h:Heap):Value->D->Prop where
 | none:Rd X h .none .none
 | bool (b:Bool):Rd X h (.bool b) (.bool b)
 | int (i:Int) (t:Tok):Rd X h (.int i t) (.int i)
 | str (s:Str) (t:Tok):Rd X h (.str s t) (.str s)
 | bytes (b:Array UInt8) (t:Tok):Rd X h (.bytes b t) (.bytes b)
 | ptr (a:Addr):Rd X h (.ref a) (.ptr a)
 | ty (T:String):Rd X h (.type T) (.ty T)
 | list {a:Addr} {vs:List Value} {ds:List D} (hx:¬X a) (hl:h.PlainList a vs.toArray) (hr:dI X h vs ds):Rd X h (.ref a) (.list ds)
inductive dI (X:Addr->Prop) (h:Heap):List Value->List D->Prop where
 | nil:dI X h [] []
 | cons {v:Value} {d:D} {vs:List Value} {ds:List D} (hd:Rd X h v d) (tl:dI X h vs ds):dI X h (v::vs) (d::ds)
end
noncomputable def IA(o:Obj):Prop:=∃(vs:Array Value) (n:Nat),o={cls:=.type "list",data:=.seq vs n}
theorem xS{X:Addr->Prop}{h:Heap}{P:List Value->List D->Prop}(n:P [] [])(c:∀{v d vs ds},Rd X h v d->dI X h vs ds->P vs ds->P (v::vs) (d::ds)){vs:List Value}{ds:List D}(r:dI X h vs ds):P vs ds :=
 dI.rec (motive_1:=λ_ _ _=>True) (motive_2:=λvs ds _=>P vs ds) trivial (λ_=>trivial) (λ_ _=>trivial) (λ_ _=>trivial) (λ_ _=>trivial) (λ_=>trivial) (λ_=>trivial) (λ_ _ _ _=>trivial) n (λa b _ q=>c a b q) r
theorem Rd.at{X X':Addr->Prop}{h h':Heap}(k:∀b o,¬X b->IA o->h.get? b=some o->¬X' b/\h'.get? b=some o){v:Value}{d:D}(r:Rd X h v d):Rd X' h' v d :=
 Rd.rec (motive_1:=λv d _=>Rd X' h' v d) (motive_2:=λvs ds _=>dI X' h' vs ds) .none .bool .int .str .bytes .ptr .ty (λhx hl _ q=>let ⟨n,e⟩:=hl;let c:=k _ _ hx ⟨_,n,rfl⟩ e;.list c.1 ⟨n,c.2⟩ q) .nil (λ_ _ a b=>.cons a b) r
theorem dI.at{X X':Addr->Prop}{h h':Heap}(k:∀b o,¬X b->IA o->h.get? b=some o->¬X' b/\h'.get? b=some o){vs:List Value}{ds:List D}(r:dI X h vs ds):dI X' h' vs ds :=
 xS (P:=dI X' h') .nil (λa _ q=>.cons (Rd.at k a) q) r
section
variable{X:Addr->Prop}
theorem Rd.keeps{h h':Heap}(k:∀b o,h.get? b=some o->h'.get? b=some o){v:Value}{d:D}(r:Rd X h v d):Rd X h' v d:=r.at λb o x _ e=>⟨x,k b o e⟩
theorem dI.keeps{h h':Heap}(k:∀b o,h.get? b=some o->h'.get? b=some o){v:List Value}{d:List D}(r:dI X h v d):dI X h' v d:=r.at λb o x _ e=>⟨x,k b o e⟩
theorem dI.length{h:Heap}{vs:List Value}{ds:List D}(r:dI X h vs ds):vs.length=ds.length:=xS (P:=λvs ds=>vs.length=ds.length) rfl (λ_ _ q=>congrArg (·+1) q) r
theorem dI.append{h:Heap}{vs ws:List Value}{ds es:List D}(r:dI X h vs ds)(k:dI X h ws es):dI X h (vs++ws) (ds++es):=xS (P:=λvs ds=>dI X h (vs++ws) (ds++es)) k (λa _ q=>.cons a q) r
theorem dI.get{h:Heap}{vs:List Value}{ds:List D}(r:dI X h vs ds){i:Nat}{d:D}(e:ds[i]?=some d):∃v,vs[i]?=some v/\Rd X h v d :=
 xS (P:=λvs ds=>∀i d,ds[i]?=some d->∃v,vs[i]?=some v/\Rd X h v d) (λ_ _ e=>nomatch List.getElem?_nil.symm.trans e) (λa _ q i d e=>Nat.casesOn (motive:=λi=>(_::_)[i]?=some d->∃v,(_::_)[i]?=some v/\Rd X h v d) i (λe=>⟨_,rfl,Option.some.inj e▸a⟩) (λj e=>q j d e) e) r i d e
theorem dI.getV{h:Heap}{vs:List Value}{ds:List D}(r:dI X h vs ds){i:Nat}{v:Value}(e:vs[i]?=some v):∃d,ds[i]?=some d/\Rd X h v d :=
 xS (P:=λvs ds=>∀i v,vs[i]?=some v->∃d,ds[i]?=some d/\Rd X h v d) (λ_ _ e=>nomatch List.getElem?_nil.symm.trans e) (λa _ q i v e=>Nat.casesOn (motive:=λi=>(_::_)[i]?=some v->∃d,(_::_)[i]?=some d/\Rd X h v d) i (λe=>⟨_,rfl,Option.some.inj e▸a⟩) (λj e=>q j v e) e) r i v e
theorem dI.drop{h:Heap}{vs:List Value}{ds:List D}(r:dI X h vs ds):∀n,dI X h (vs.drop n) (ds.drop n) :=
 xS (P:=λvs ds=>∀n,dI X h (vs.drop n) (ds.drop n)) (λn=>by cases n<;>exact .nil) (λa b q n=>Nat.casesOn (motive:=λn=>dI X h ((_::_).drop n) ((_::_).drop n)) n (.cons a b) q) r
theorem dI.take{h:Heap}{vs:List Value}{ds:List D}(r:dI X h vs ds):∀n,dI X h (vs.take n) (ds.take n) :=
 xS (P:=λvs ds=>∀n,dI X h (vs.take n) (ds.take n)) (λn=>by cases n<;>exact .nil) (λa b q n=>Nat.casesOn (motive:=λn=>dI X h ((_::_).take n) ((_::_).take n)) n .nil λn=>.cons a (q n)) r
theorem dI.reverse{h:Heap}{vs:List Value}{ds:List D}(r:dI X h vs ds):dI X h vs.reverse ds.reverse :=
 xS (P:=λvs ds=>dI X h vs.reverse ds.reverse) .nil (λa _ q=>by rwa[List.reverse_cons,List.reverse_cons];exact q.append (.cons a .nil)) r
end
theorem jE{X:Addr->Prop}{h:Heap}{v:Value}(r:Rd X h v .none):v=.none:=by cases r;rfl
theorem jW{X:Addr->Prop}{h:Heap}{v:Value}{b:Bool}(r:Rd X h v (.bool b)):v=.bool b:=by cases r;rfl
theorem bF{X:Addr->Prop}{h:Heap}{v:Value}{i:Int}(r:Rd X h v (.int i)):∃t,v=.int i t:=by cases r;exact⟨_,rfl⟩
theorem bN{X:Addr->Prop}{h:Heap}{v:Value}{i:Str}(r:Rd X h v (.str i)):∃t,v=.str i t:=by cases r;exact⟨_,rfl⟩
theorem gY{X:Addr->Prop}{h:Heap}{v:Value}{i:Array UInt8}(r:Rd X h v (.bytes i)):∃t,v=.bytes i t:=by cases r;exact⟨_,rfl⟩
theorem cW{X:Addr->Prop}{h:Heap}{v:Value}{a:Addr}(r:Rd X h v (.ptr a)):v=.ref a:=by cases r;rfl
theorem xT{X:Addr->Prop}{h:Heap}{v:Value}{a:String}(r:Rd X h v (.ty a)):v=.type a:=by cases r;rfl
theorem bJ{X:Addr->Prop}{h:Heap}{v:List Value}(r:dI X h v []):v=[]:=by cases r;rfl
theorem cK{X:Addr->Prop}{h:Heap}{v:Value}{ds:List D}(r:Rd X h v (.list ds)):∃a vs,¬X a/\h.PlainList a vs.toArray/\dI X h vs ds/\v=.ref a:=by cases r with | list hx hl hr=>exact⟨_,_,hx,hl,hr,rfl⟩
theorem aR{X:Addr->Prop}{h:Heap}{v:List Value}{d:D}{ds:List D}(r:dI X h v (d::ds)):∃a vs,Rd X h a d/\dI X h vs ds/\v=a::vs:=by cases r with | cons hd tl=>exact⟨_,_,hd,tl,rfl⟩
structure bX where
 own:Addr->Prop
 lst:Addr->Prop
 inv:Heap->Prop
 at_:∀h h',inv h->(∀b o,own b->h.get? b=some o->h'.get? b=some o)->inv h'
 dom:∀h b,inv h->own b->∃o,h.get? b=some o
 seqs:∀h b o,inv h->own b->h.get? b=some o->IA o->lst b
noncomputable def bX.none:bX:=⟨λ_=>False,λ_=>False,λ_=>True,λ_ _ _ _=>trivial,λ_ _ _ h=>h.elim,λ_ _ _ _ h=>h.elim⟩
structure Cx where
 prog:Program
 w:World
 K:Frag
 mg:Str->Option Value
 mb:Str->Option Value
 I:bX:=bX.none
noncomputable abbrev Cx.M(C:Cx):Model:=model C.prog C.w
structure Gl(C:Cx)(h:Heap):Prop where
 k:C.K.In h
 g:h.Ns mainGlobals C.mg
 b:h.Ns builtinsNs C.mb
 nl:h.NoLimit
theorem Gl.keeps{C:Cx}{h h':Heap}(G:Gl C h)(k:∀b o,h.get? b=some o->h'.get? b=some o):Gl C h':=⟨G.k.keeps k,G.g.keeps k,G.b.keeps k,G.nl.keeps k⟩
noncomputable def UY(h:Heap)(e:Addr):Prop:=∃o vs,h.get? e=some o/\o.data=.fields vs/\vs[2]?=some .none
noncomputable def tY(A:Around)(h:Heap):Prop:=A.handled=none\/∃e,A.handled=some (.ref e)/\UY h e
theorem tY.keeps{A:Around}{h h':Heap}(H:tY A h)(k:∀b o,h.get? b=some o->h'.get? b=some o):tY A h' :=
 H.imp id λ⟨e,h1,o,vs,h2,h3⟩=>⟨e,h1,o,vs,k _ _ h2,h3⟩
structure Rm(n:Nat)(A:Around):Prop where
 d:A.depth+2*n<720
 u:A.units+8*n<9000
 hn:200<=n->A.handled=none
theorem aE(s:Shared):Keeps s s:=⟨s.heap,s.toks,rfl,λ_ _ e=>e⟩
theorem aB{a b c:Shared}(x:Keeps a b)(y:Keeps b c):Keeps a c:=by
 obtain h|t|rfl|k:=dZ x
 obtain h'|t'|rfl|k':=dZ y
 exact⟨h',t',rfl,λb o e=>k' b o (k b o e)⟩
theorem bC{a b:Shared}(x:Keeps a b):∀c o,a.heap.get? c=some o->b.heap.get? c=some o:=by
 obtain h|t|rfl|k:=dZ x
 exact k
theorem IH{s:Shared}{h:Heap}{t:Tok}(k:∀b o,s.heap.get? b=some o->h.get? b=some o):Keeps s {s with heap:=h,toks:=t}:=⟨h,t,rfl,k⟩
theorem aV{s:Shared}{t:Tok}:Keeps s {s with toks:=t}:=⟨s.heap,t,rfl,λ_ _ e=>e⟩
noncomputable def IB(C:Cx)(B:Heap)(a:Addr):Prop:=B.get? a=none/\¬C.I.own a
structure FV(C:Cx)(sc:Scope)(B:Heap)(env:Env)(h:Heap)(ρ:Str->Option Value):Prop where
 base:Gl C B/\(∀b o,B.get? b=some o->h.get? b=some o)/\IB C B env.locals/\∀x c,env.cells.lookup x=some c->IB C B c
 scope:env.scope=sc
 kind:sc.kind=.function
 globals:env.globals=mainGlobals
 builtins:env.builtins=builtinsNs
 ns:∃m,h.Ns env.locals m/\∀x,sc.names.lookup x=some .local->m x=ρ x
 cells:∀x,(sc.names.lookup x=some .cell\/sc.names.lookup x=some .free)->∃c,env.cells.lookup x=some c/\h.IsCell c (ρ x)
 inj:∀x y c,env.cells.lookup x=some c->env.cells.lookup y=some c->x=y
 allc:∀x c,env.cells.lookup x=some c->∃v,h.IsCell c v
theorem FV.gl{C:Cx}{sc:Scope}{B:Heap}{env:Env}{h:Heap}{ρ:Str->Option Value}(F:FV C sc B env h ρ):Gl C h:=by
 rcases tZ F.base with G|k|_
 exact G.keeps k
theorem FV.keeps{C:Cx}{sc:Scope}{B:Heap}{env:Env}{h h':Heap}{ρ:Str->Option Value}(F:FV C sc B env h ρ)(k:∀b o,h.get? b=some o->h'.get? b=some o):FV C sc B env h' ρ:=by
 rcases tZ F.base with G|k0|r
 rcases aL F.ns with m|hn|hm
 exact⟨⟨G,λb o e=>k b o (k0 b o e),r⟩,F.scope,F.kind,F.globals,F.builtins,⟨m,hn.keeps k,hm⟩,
  λx hx=>let ⟨c,e,o,ho,hd⟩:=F.cells x hx;⟨c,e,o,k _ _ ho,hd⟩,F.inj,λx c e=>let ⟨v,o,ho,hd⟩:=F.allc x c e;⟨v,o,k _ _ ho,hd⟩⟩
noncomputable def DV(X:Addr->Prop)(h:Heap)(ρ:Str->Option Value)(δ:List (Str×D)):Prop:=∀x d,δ.lookup x=some d->∃v,ρ x=some v/\Rd X h v d
theorem DV.at{X X':Addr->Prop}{h h':Heap}{ρ:Str->Option Value}{δ:List (Str×D)}(V:DV X h ρ δ)(k:∀b o,¬X b->IA o->h.get? b=some o->¬X' b/\h'.get? b=some o):DV X' h' ρ δ :=
 λx d e=>let ⟨v,e1,r⟩:=V x d e;⟨v,e1,r.at k⟩
noncomputable def St(C:Cx)(sc:Scope)(B:Heap)(env:Env)(X:Addr->Prop)(h:Heap)(δ:List (Str×D)):Prop:=∃ρ,FV C sc B env h ρ/\DV X h ρ δ
theorem St.keeps{C:Cx}{sc:Scope}{B:Heap}{env:Env}{X:Addr->Prop}{h h':Heap}{δ:List (Str×D)}(S:St C sc B env X h δ)(k:∀b o,h.get? b=some o->h'.get? b=some o):St C sc B env X h' δ :=
 let ⟨ρ,F,V⟩:=S;⟨ρ,F.keeps k,V.at λb o x _ e=>⟨x,k b o e⟩⟩
noncomputable def EO(X:Addr->Prop)(h:Heap):Prop:=∀a,X a->∃o vs nn,h.get? a=some o/\o.data=.seq vs nn
theorem EO.keeps{X:Addr->Prop}{h h':Heap}(x:EO X h)(k:∀b o,h.get? b=some o->h'.get? b=some o):EO X h':=λa ha=>let ⟨o,vs,nn,e,z⟩:=x a ha;⟨o,vs,nn,k _ _ e,z⟩
structure Ok(C:Cx)(n:Nat)(sc:Scope)(δ:List (Str×D))(A:Around)(B:Heap)(env:Env)(X:Addr->Prop)(h:Heap):Prop where
 rm:Rm n A
 ho:tY A h
 xo:EO X h
 iv:C.I.inv h
 ox:∀a,C.I.lst a->X a
 st:St C sc B env X h δ
theorem Ok.keeps{C:Cx}{n:Nat}{sc:Scope}{δ:List (Str×D)}{A:Around}{B:Heap}{env:Env}{X:Addr->Prop}{h h':Heap}(O:Ok C n sc δ A B env X h)(k:∀b o,h.get? b=some o->h'.get? b=some o):Ok C n sc δ A B env X h' :=
 ⟨O.rm,O.ho.keeps k,O.xo.keeps k,C.I.at_ _ _ O.iv λb o _ e=>k b o e,O.ox,O.st.keeps k⟩
theorem Ok.on{C:Cx}{n:Nat}{sc:Scope}{δ:List (Str×D)}{A:Around}{B:Heap}{env:Env}{X:Addr->Prop}{s s':Shared}(O:Ok C n sc δ A B env X s.heap)(k:Keeps s s'):Ok C n sc δ A B env X s'.heap:=O.keeps (bC k)
theorem Ok.gl{C:Cx}{n:Nat}{sc:Scope}{δ:List (Str×D)}{A:Around}{B:Heap}{env:Env}{X:Addr->Prop}{h:Heap}(O:Ok C n sc δ A B env X h):Gl C h:=let ⟨_,F,_⟩:=O.st;F.gl
theorem Rd.on{X:Addr->Prop}{s s':Shared}{v:Value}{d:D}(r:Rd X s.heap v d)(k:Keeps s s'):Rd X s'.heap v d:=r.keeps (bC k)
theorem dI.on{X:Addr->Prop}{s s':Shared}{v:List Value}{d:List D}(r:dI X s.heap v d)(k:Keeps s s'):dI X s'.heap v d:=r.keeps (bC k)
structure Ev(C:Cx)(n:Nat)(sc:Scope)(δ:List (Str×D))(e:PySem.Expr)(d:D):Prop where
 go :
 ∀(A:Around) (B:Heap) (env:Env) (X:Addr->Prop) (s:Shared) (Q:Value->Shared->Prop) (E:Value->Shared->Prop),Ok C n sc δ A B env X s.heap ->
  (∀v s',Keeps s s'->Rd X s'.heap v d->Q v s')->wpAny C.M A (eval e env) Q E s
structure Ts(C:Cx)(n:Nat)(sc:Scope)(δ:List (Str×D))(e:PySem.Expr)(b:Bool):Prop where
 go :
 ∀(A:Around) (B:Heap) (env:Env) (X:Addr->Prop) (s:Shared) (Q:Bool->Shared->Prop) (E:Value->Shared->Prop),Ok C n sc δ A B env X s.heap ->
  (∀s',Keeps s s'->Q b s')->wpAny C.M A (PySem.isTrue e env (eval e env)) Q E s
structure uT(C:Cx)(n:Nat)(sc:Scope)(δ:List (Str×D))(es:List PySem.Expr)(ds:List D):Prop where
 go :
 ∀(A:Around) (B:Heap) (env:Env) (X:Addr->Prop) (pos:Pos) (s:Shared) (Q:List Value->Shared->Prop) (E:Value->Shared->Prop),Ok C n sc δ A B env X s.heap ->
  (∀vs s',Keeps s s'->dI X s'.heap vs ds->Q vs s')->wpAny C.M A (spliced (backTo pos (starEach es env))) Q E s
section
variable{C:Cx}{n:Nat}{sc:Scope}{δ:List (Str×D)}
theorem vT{x:Str}{pos:Pos}{d:D}{k:NameKind}(hx:δ.lookup x=some d)(hk:sc.names.lookup x=some k)(hkk:k=.local\/k=.cell\/k=.free)
 (hd:(x==("__debug__":Str))=false) (hc:(x==("__classdict__":Str))=false):Ev C n sc δ (.Name x pos) d:=by
 refine⟨?_⟩
 intro A B env X s Q E O h
 rcases aL O.st with ρ|F|V
 rcases aL (V x d hx) with v|hv|hr
 have kind:env.scope.kind=.function:=by rwa[F.scope];exact F.kind
 have ko:env.kindOf x=some k:=by unfold Env.kindOf;rwa[F.scope];exact hk
 refine wpAny_Name ?_ hd
 rcases hkk with rfl | rfl | rfl
 . rcases aL F.ns with m|hn|hm
   exact wpAny_loadName_local kind ko hn ((hm x hk).trans hv) (h v s (aE s) hr)
 . rcases aL (F.cells x (.inl hk)) with c|hc|hic
   exact wpAny_loadName_cell kind ko hc (hv▸hic) (h v s (aE s) hr)
 . rcases aL (F.cells x (.inr hk)) with c|hc'|hic
   exact wpAny_loadName_free kind ko hc' (hv▸hic) (h v s (aE s) hr) hc
theorem aG{i:Int}{k:Nat}{pos:Pos}:Ev C n sc δ (.Constant (.int i) k pos) (.int i):=by
 refine⟨?_⟩
 intro A B env X s Q E _ h
 exact wpAny_Constant_int (h _ _ aV (.int _ _))
theorem aT{x:Str}{k:Nat}{pos:Pos}:Ev C n sc δ (.Constant (.str x) k pos) (.str x):=by
 refine⟨?_⟩
 intro A B env X s Q E _ h
 exact wpAny_Constant_str (h _ _ aV (.str _ _))
theorem dJ{b:Bool}{k:Nat}{pos:Pos}:Ev C n sc δ (.Constant (.bool b) k pos) (.bool b):=by
 refine⟨?_⟩
 intro A B env X s Q E _ h
 exact wpAny_Constant_bool (h _ _ (aE s) (.bool _))
theorem cB{k:Nat}{pos:Pos}:Ev C n sc δ (.Constant .none k pos) .none:=by
 refine⟨?_⟩
 intro A B env X s Q E _ h
 exact wpAny_Constant_none (h _ _ (aE s) .none)
theorem bM:uT C n sc δ [] []:=by
 refine⟨?_⟩
 intro A B env X pos s Q E O h
 exact wpAny_items_nil (h _ _ (aE s) .nil)
theorem aF{e:PySem.Expr}{es:List PySem.Expr}{d:D}{ds:List D}(he:Ev C n sc δ e d)(hs:uT C n sc δ es ds)(hst:∀env,starEach (e::es) env=(false,eval e env)::starEach es env:=by intro _;rfl):uT C n sc δ (e::es) (d::ds):=by
 refine⟨?_⟩
 intro A B env X pos s Q E O h
 refine wpAny_items_cons (he.go A B env X s _ _ O λv s1 k1 r1=>?_) (hst env)
 refine hs.go A B env X pos s1 _ _ (O.on k1) λvs s2 k2 r2=>h _ _ (aB k1 k2) (.cons (r1.on k2) r2)
theorem jJ{X:Addr->Prop}{s:Shared}{vs:List Value}{ds:List D}(x:EO X s.heap)(r:dI X s.heap vs ds)(nn:Nat) :
 Keeps s {s with heap:=s.heap.push {cls:=.type "list",data:=.seq vs.toArray nn}}/\Rd X (s.heap.push {cls:=.type "list",data:=.seq vs.toArray nn}) (.ref s.heap.objs.size) (.list ds):=by
 have k:∀b o,s.heap.get? b=some o->(s.heap.push {cls:=.type "list",data:=.seq vs.toArray nn}).get? b=some o:=λb o e=>Heap.get?_push_of_some _ e
 refine⟨⟨_,s.toks,rfl,k⟩,.list (λq=>?_) ⟨nn,Heap.get?_push_size _ rfl⟩ (r.keeps k)⟩
 rcases eU (x _ q) with o|_|_|e|_
 exact absurd (Heap.lt_size e) (Nat.lt_irrefl _)
theorem bU{es:List PySem.Expr}{pos:Pos}{ds:List D}(h:uT C n sc δ es ds)(hz:ds.length<=sizeLine):Ev C n sc δ (.List es pos) (.list ds):=by
 refine⟨?_⟩
 intro A B env X s Q E O hq
 refine wpAny_List (h.go A B env X pos s _ _ O λvs s1 k1 r1=>⟨by rwa[r1.length];exact hz,?_⟩)
 rcases bW (jJ (O.on k1).xo r1 0) with k2|r2
 exact hq _ _ (aB k1 k2) r2
structure DD(C:Cx)(op:Operator)(a b d:D):Prop where
 go :
 ∀(A:Around) (X:Addr->Prop) (s:Shared) (va vb:Value) (Q:Value->Shared->Prop) (E:Value->Shared->Prop),Rd X s.heap va a->Rd X s.heap vb b->EO X s.heap->Gl C s.heap ->
  (∀v s',Keeps s s'->Rd X s'.heap v d->Q v s')->wpAny C.M A (binaryOp op va vb) Q E s
theorem cR{l r:PySem.Expr}{op:Operator}{pos:Pos}{a b d:D}(hl:Ev C n sc δ l a)(hr:Ev C n sc δ r b)(ho:DD C op a b d):Ev C n sc δ (.BinOp l op r pos) d:=by
 refine⟨?_⟩
 intro A B env X s Q E O h
 refine wpAny_BinOp (hl.go A B env X s _ _ O λva s1 k1 r1=>?_)
 refine hr.go A B env X s1 _ _ (O.on k1) λvb s2 k2 r2=>?_
 have k:=aB k1 k2
 exact ho.go A X s2 va vb _ _ (r1.on k2) r2 (O.on k).xo (O.on k).gl λv s3 k3 r3=>h v s3 (aB k k3) r3
theorem AK{a b:Int}:DD C .Add (.int a) (.int b) (.int (a+b)):=by
 refine⟨?_⟩
 intro A X s va vb Q E ra rb _ _ h
 (obtain _|rfl:=aU (bF ra));(obtain _|rfl:=aU (bF rb))
 exact add_int (h _ _ aV (.int _ _))
theorem AL{a b:Int}:DD C .Sub (.int a) (.int b) (.int (a-b)):=by
 refine⟨?_⟩
 intro A X s va vb Q E ra rb _ _ h
 (obtain _|rfl:=aU (bF ra));(obtain _|rfl:=aU (bF rb))
 exact sub_int (h _ _ aV (.int _ _))
theorem AM{a b:Int}(hm:IntMulOk a b):DD C .Mult (.int a) (.int b) (.int (a*b)):=by
 refine⟨?_⟩
 intro A X s va vb Q E ra rb _ _ h
 (obtain _|rfl:=aU (bF ra));(obtain _|rfl:=aU (bF rb))
 exact mul_int (h _ _ aV (.int _ _)) hm
theorem AN{a b:Int}(hb:b≠0)(hm:Builtin.divisionGoesByPylong a b=false):DD C .FloorDiv (.int a) (.int b) (.int (a.fdiv b)):=by
 refine⟨?_⟩
 intro A X s va vb Q E ra rb _ _ h
 (obtain _|rfl:=aU (bF ra));(obtain _|rfl:=aU (bF rb))
 exact floordiv_int hb (h _ _ aV (.int _ _)) (.inl hm)
theorem AO{a b:Int}(hb:b≠0):DD C .Mod (.int a) (.int b) (.int (a.fmod b)):=by
 refine⟨?_⟩
 intro A X s va vb Q E ra rb _ _ h
 (obtain _|rfl:=aU (bF ra));(obtain _|rfl:=aU (bF rb))
 exact mod_int' hb (h _ _ aV (.int _ _))
theorem AP{a b:Int}(hb:0<=b)(hm:(Builtin.Int.intBits a:Int)*b<=2 ^ 27):DD C .Pow (.int a) (.int b) (.int (a ^ b.toNat)):=by
 refine⟨?_⟩
 intro A X s va vb Q E ra rb _ _ h
 (obtain _|rfl:=aU (bF ra));(obtain _|rfl:=aU (bF rb))
 exact pow_int hb hm (h _ _ aV (.int _ _))
theorem lK{a b:Str}(hm:a.length+b.length<=sizeLine):DD C .Add (.str a) (.str b) (.str (a++b)):=by
 refine⟨?_⟩
 intro A X s va vb Q E ra rb _ _ h
 (obtain _|rfl:=aU (bN ra));(obtain _|rfl:=aU (bN rb))
 exact add_str (λ_ _=>h _ _ aV (.str _ _)) hm
end
theorem SX{X:Addr->Prop}{h:Heap}{v:List Value}{d:D}(r:dI X h v [d]):∃a,Rd X h a d/\v=[a]:=by
 refine iG (aR r) ?_
 intro a vs ra rt e
 refine⟨a,ra,?_⟩
 rwa[e,bJ rt];rfl
theorem AQ{X:Addr->Prop}{h:Heap}{v:List Value}{x:Str}(r:dI X h v [.str x]):∃t,v=[.str x t]:=by
 refine aL (SX r) ?_
 intro a ra e
 refine aU (bN ra) ?_
 intro t q
 exact⟨t,by rwa[e,q];rfl⟩
theorem QJ{X:Addr->Prop}{h:Heap}{v:List Value}{x y:Str}(r:dI X h v [.str x,.str y]):∃t u,v=[.str x t,.str y u]:=by
 refine iG (aR r) ?_
 intro a vs ra rt e
 refine aU (bN ra) ?_
 intro t q
 refine aU (AQ rt) ?_
 intro u q2
 exact⟨t,u,by rwa[e,q,q2];rfl⟩
@[elab_as_elim] theorem kE {s s':Shared} {P:Shared->Prop} (k:Keeps s s') (f:∀(h:Heap) (t:Tok),(∀b o,s.heap.get? b=some o->h.get? b=some o)->P {s with heap:=h,toks:=t}):P s':=by
 obtain⟨h,t,rfl,k⟩:=k
 exact f h t k
theorem uA:entryFor table "proto.unchain"=some Builtin.«proto.unchain»:=entryFor_of_tree (by kernel_rfl)
section
variable{prog:Program}{w:World}{A:Around}{E:Value->Shared->Prop}{s:Shared}
theorem oJ{α:Type}{Q:α->Shared->Prop}(H:tY A s.heap)
 (h:∀e h',(∀b o,s.heap.get? b=some o->h'.get? b=some o)->(∃o,h'.get? e=some o/\o.cls=.type "StopIteration")->E (.ref e) {s with heap:=h'}) :
 wpAny (model prog w) A (newExc (.type "StopIteration") [] >>= λe=>(raiseNew e:Sem α)) Q E s:=by
 refine wpAny_bind ?_
 simp only[newExc,newTuple]
 refine wpAny_bind (wpAny_newObj_type ?_ (by size_fits))
 refine wpAny_bind (m:=firstArgMember _ _) (wpAny_of_eq (a:=Value.none) (by first | rfl | (simp only[firstArgMember];rfl)) ?_)
 refine wpAny_newObj_type ?_ (by size_fits)
 simp only[raiseNew]
 refine wpAny_bind (wpAny_handled ?_)
 rcases H with hh | ⟨e,hh,o,vs,ho,hd,h2⟩
 . rwa[hh]
   refine wpAny_bind (wpAny_pure (wpAny_throw ?_))
   exact h _ _ (λb o e=>Heap.get?_push_of_some _ (Heap.get?_push_of_some _ e)) ⟨_,Heap.get?_push_size _ rfl,rfl⟩
 . rwa[hh]
   obtain⟨hp,hhp⟩:∃hp,hp=s.heap.push {cls:=.type "tuple",data:=.seq #[]}:=⟨_,rfl⟩
   have k1:∀b ob,s.heap.get? b=some ob->hp.get? b=some ob:=λb ob q=>by rwa[hhp];exact Heap.get?_push_of_some _ q
   have he:=Heap.lt_size (k1 _ _ ho)
   rwa[←hhp]
   generalize hob:({cls:=Value.type "StopIteration",data:=Data.fields (#[Value.ref s.heap.objs.size,Value.none,Value.none,Value.none,Value.bool false,Value.none]++ownMembersOf (Value.type "StopIteration") [])}:Obj)=ob
   have obc:ob.cls=.type "StopIteration":=by rwa[←hob];rfl
   obtain⟨fs,ofs,hfz⟩:∃fs,ob.data=.fields fs/\2<fs.size:=⟨_,by rwa[←hob];rfl,by simp;decide⟩
   have obf:ob.isFreed=false:=by rwa[←hob];rfl
   have ne:(Value.ref e != Value.ref hp.objs.size)=true:=by
    rw[bne_iff_ne];intro q;(injection q with h_0;subst h_0);exact Nat.lt_irrefl _ he
   have k2:∀b o,s.heap.get? b=some o->(hp.push ob).get? b=some o:=λb o q=>Heap.get?_push_of_some _ (k1 b o q)
   show wpAny _ _ (if (Value.ref e != Value.ref hp.objs.size)=true then _ else _) _ _ _
   rwa[if_pos ne]
   refine wpAny_bind (wpAny_holding (wpAny_runValue (codeAny_builtin uA ?_)))
   show wpAny _ _ (field (.ref e) 2 >>= _) _ _ _
   refine wpAny_bind (wpAny_field (k2 _ _ ho) hd h2 ?_)
   show wpAny _ _ (if (Value.none==Value.none)=true then _ else _) _ _ _
   rwa[if_pos ∅]
   refine wpAny_bind (wpAny_pure ?_)
   refine wpAny_pure ?_
   have hself:(hp.push ob).get? hp.objs.size=some ob:=Heap.get?_push_size _ obf
   show wpAny _ _ (updateField hp.objs.size 2 (.ref e) >>= _) _ _ _
   refine wpAny_bind (wpAny_setField (a:=hp.objs.size) hself ofs hfz (wpAny_throw ?_))
   refine h _ _ (λb o q=>?_) ?_
   . refine (Heap.get?_update_ne _ _ _ _ λz=>?_).trans (k2 b o q)
     subst z
     exact Nat.lt_irrefl _ (Heap.lt_size (k1 _ _ q))
   . refine⟨_,Heap.get?_update_self _ hself ?_,?_⟩
     . rwa[←hob];rfl
     . rwa[←hob];rfl
theorem sC{it l:Addr}{i:Nat}{items:Array Value}{Q:Option Value->Shared->Prop}(hh:tY A s.heap)(hit:s.heap.IsListIter it l i)(hl:s.heap.IsList l items)(hx:items[i]?=none)
 (hne:∀e,A.handled=some (.ref e)->e≠it)
 (hQ:∀h',Heap.ExtBut it s.heap h'->Q none {s with heap:=h'}):wpAny (model prog w) A (pyNext (.ref it)) Q E s:=by
 rcases rW (id hit) with o|ho|hc|hd
 obtain ol|hol|_|q_0:=rW hl;obtain nl|hdl:=aU q_0
 unfold pyNext
 refine wpAny_bind (wpAny_attempt (wpAny_callSpecial?_slot (name:=Str.ofString "__next__") hit.typeIs slot_listiter_next
  (wpAny_call_entry slot_listiter_next hit.typeIs entry_listiter_next ?_ (args_listiter_next _))))
 show wpAny _ _ (field (.ref it) 0 >>= _) _ _ s
 refine wpAny_bind (wpAny_field ho hd (x:=.ref l) rfl ?_)
 show wpAny _ _ (if (Value.ref l==Value.none)=true then _ else _) _ _ s
 rwa[if_neg (show ¬((Value.ref l==Value.none)=true) from Bool.false_ne_true)]
 show wpAny _ _ (field (.ref it) 1 >>= _) _ _ s
 refine wpAny_bind (wpAny_field ho hd (x:=.int i 0) rfl ?_)
 show wpAny _ _ (seqItems? (.ref l) >>= _) _ _ s
 refine wpAny_bind (wpAny_seqItems hol hdl ?_)
 simp only[Int.toNat_natCast,hx]
 refine wpAny_bind (wpAny_rule (wpAny_bind (wpAny_setField ho hd (by exact Nat.succ_pos _) ?_)))
 have sb:Heap.SameBut it s.heap (s.heap.update it (Obj.mapFields (·.setIfInBounds 0 .none))):=Heap.SameBut.update ..
 refine oJ ?_ λe h' k ho'=>?_
 . refine hh.imp id ?_
   rintro⟨e,h1,o,vs,h2,h3,h4⟩
   exact⟨e,h1,o,vs,(sb.2 e (hne e h1)).trans h2,h3,h4⟩
 . refine wpAny_bind (wpAny_isInstance (T:="StopIteration") (b:=true) ho' isSubtype_stop ?_)
   exact wpAny_pure (hQ _ λb o hb q=>k b o (sb.extBut b o hb q))
theorem EP{it:Addr}{x EQ step:Int}{Q:Option Value->Shared->Prop}(hh:tY A s.heap)(hit:IsRangeIter s.heap it x EQ step)(hleft:EQ<=0)
 (hQ:∀h',Heap.ExtBut it s.heap h'->Q none {s with heap:=h'}):wpAny (model prog w) A (pyNext (.ref it)) Q E s:=by
 have hT:s.TypeIs (.ref it) "range_iterator":=⟨_,hit,rfl⟩
 unfold pyNext
 refine wpAny_bind (wpAny_attempt (wpAny_callSpecial?_slot (name:=Str.ofString "__next__") hT F.slot_range_iterator_next
  (wpAny_call_entry F.slot_range_iterator_next hT F.entry_range_iterator_next ?_ (F.args_range_iterator_next_1 _))))
 show wpAny _ _ (field (.ref it) 0 >>= _) _ _ s
 refine wpAny_bind (wpAny_field hit rfl (x:=rawInt x) rfl ?_)
 show wpAny _ _ (field (.ref it) 1 >>= _) _ _ s
 refine wpAny_bind (wpAny_field hit rfl (x:=rawInt EQ) rfl ?_)
 show wpAny _ _ (field (.ref it) 2 >>= _) _ _ s
 refine wpAny_bind (wpAny_field hit rfl (x:=rawInt step) rfl ?_)
 show wpAny _ _ (if EQ<=0 then _ else _) _ _ s
 rwa[if_pos hleft]
 refine wpAny_bind (wpAny_rule ?_)
 refine wpAny_bind ?_
 refine oJ hh λe h' k ho'=>?_
 refine wpAny_bind (wpAny_isInstance (T:="StopIteration") (b:=true) ho' isSubtype_stop ?_)
 exact wpAny_pure (hQ _ λb o hb q=>k b o q)
end
noncomputable def oM(env:Env)(h h':Heap):Prop:=∀b o,b≠env.locals->(∀x,env.cells.lookup x≠some b)->h.get? b=some o->h'.get? b=some o
theorem oM.trans{env:Env}{h h' h'':Heap}(a:oM env h h')(b:oM env h' h''):oM env h h'':=λc o h1 h2 e=>b c o h1 h2 (a c o h1 h2 e)
theorem oM.of_keeps{env:Env}{h h':Heap}(k:∀b o,h.get? b=some o->h'.get? b=some o):oM env h h':=λb o _ _ e=>k b o e
noncomputable def PP(ρ:Str->Option Value)(x:Str)(v:Value):Str->Option Value:=λy=>if y=x then some v else ρ y
theorem sD{h:Heap}{L:Addr}{m:Str->Option Value}{o:Obj}(N:h.Ns L m)(e:h.get? L=some o):∃es ep,o.data=.dict es ep:=by
 obtain o'|es|ep|ho|hd|_:=nV N
 have h_:=sx e ho;clear ho;subst h_
 exact⟨es,ep,hd⟩
theorem xU{h:Heap}{c:Addr}{v:Option Value}{o:Obj}(N:h.IsCell c v)(e:h.get? c=some o):o.data=.cell v:=by
 obtain o'|ho|hd:=aL N
 have h_:=sx e ho;clear ho;subst h_
 exact hd
section
variable{C:Cx}{sc:Scope}{B:Heap}{env:Env}{A:Around}{E:Value->Shared->Prop}{s:Shared}{ρ:Str->Option Value}{X:Addr->Prop}{δ:List (Str×D)}{n:Nat}
theorem IJ{x:Str}{v:Value}{k:NameKind}{Q:Unit->Shared->Prop}(F:FV C sc B env s.heap ρ)(hk:sc.names.lookup x=some k)(hkk:k=.local\/k=.cell)
 (h:∀h' tk,FV C sc B env h' (PP ρ x v)->oM env s.heap h'->(∀b o,s.heap.get? b=some o->∃o',h'.get? b=some o')->(k=.local->∀b o,b≠env.locals->s.heap.get? b=some o->h'.get? b=some o)->Q () {s with heap:=h',toks:=tk}) :
 wpAny C.M A (storeName env x v) Q E s:=by
 have kind:env.scope.kind=.function:=by rwa[F.scope];exact F.kind
 have ko:env.kindOf x=some k:=by unfold Env.kindOf;rwa[F.scope];exact hk
 rcases nU F.base with G|k0|hL0|hC0
 rcases aL F.ns with m|hn|hm
 have st:∀{a:Addr} {h':Heap},Heap.SameBut a s.heap h'->(∃o,h'.get? a=some o)->∀b o,s.heap.get? b=some o->∃o',h'.get? b=some o':=λ{a h'} hs ha b o e=>by
  by_cases q:b=a
  . subst q;exact ha
  . exact⟨o,(hs.2 b q).trans e⟩
 rcases hkk with rfl | rfl
 . refine wpAny_storeName_local ko hn (λh' hn' hs=>?_) (by rwa[kind];rfl)
   refine h h' _ ⟨⟨G,λb o e=>?_,hL0,hC0⟩,F.scope,F.kind,F.globals,F.builtins,⟨_,hn',λy hy=>?_⟩,λy hy=>?_,F.inj,λy c e1=>?_⟩ (λb o hb _ e=>(hs.2 b hb).trans e) (st hs (let ⟨o,_,_,e,_⟩:=hn';⟨o,e⟩)) (λ_ b o hb e=>(hs.2 b hb).trans e)
   . have:b≠env.locals:=λq=>by replace e:=hL0.1▸q▸e;injection e
     exact (hs.2 b this).trans (k0 b o e)
   . unfold PP;split
     . rfl
     . exact hm y hy
   . rcases aL (F.cells y hy) with c|e1|e2
     refine⟨c,e1,?_⟩
     have ne:y≠x:=λq=>by subst q;replace hy:=hk▸hy;rcases hy with q | q<;>cases q
     have hc:c≠env.locals:=λq=>by
      obtain o|ho|hd:=aL e2
      obtain⟨es,ep,hd'⟩:=sD hn (q▸ho)
      injection tq hd hd'
     obtain o|ho|hd:=aL e2
     exact⟨o,(hs.2 c hc).trans ho,by unfold PP;rwa[if_neg ne];exact hd⟩
   . rcases dZ (F.allc y c e1) with v'|o|ho|hd
     have hc:c≠env.locals:=λq=>by
      obtain⟨es,ep,hd'⟩:=sD hn (q▸ho)
      injection tq hd hd'
     exact⟨v',o,(hs.2 c hc).trans ho,hd⟩
 . rcases aL (F.cells x (.inl hk)) with c|e1|e2
   refine wpAny_storeName_cell kind ko e1 e2 λh' hc' hs=>?_
   have hcl:env.locals≠c:=λq=>by
    obtain o|ho|hd:=aL e2
    obtain⟨es,ep,hd'⟩:=sD hn (q▸ho)
    injection tq hd hd'
   refine h h' s.toks ⟨⟨G,λb o e=>?_,hL0,hC0⟩,F.scope,F.kind,F.globals,F.builtins,⟨m,hn.sameBut hs hcl,λy hy=>?_⟩,λy hy=>?_,F.inj,λy c' f1=>?_⟩ (λb o _ hb e=>(hs.2 b λq=>hb x (q▸e1)).trans e) (st hs (let ⟨o,e,_⟩:=hc';⟨o,e⟩)) (λq=>by injection q)
   . have:b≠c:=λq=>by have:=(hC0 x c e1).1;replace e:=this▸q▸e;injection e
     exact (hs.2 b this).trans (k0 b o e)
   . have ne:y≠x:=λq=>by subst q;replace hy:=hk▸hy;cases hy
     unfold PP;rwa[if_neg ne];exact hm y hy
   . rcases aL (F.cells y hy) with c'|f1|f2
     refine⟨c',f1,?_⟩
     by_cases q:y=x
     . subst q
       have h_:=sx e1 f1;clear f1;subst h_
       unfold PP;rwa[if_pos rfl];exact hc'
     . have hc:c'≠c:=λz=>q (F.inj y x c (z▸f1) e1)
       obtain o|ho|hd:=aL f2
       exact⟨o,(hs.2 c' hc).trans ho,by unfold PP;rwa[if_neg q];exact hd⟩
   . by_cases q:c'=c
     . subst q;exact⟨_,hc'⟩
     . rcases dZ (F.allc y c' f1) with v'|o|ho|hd
       exact⟨v',o,(hs.2 c' q).trans ho,hd⟩
theorem FV.off{h h':Heap}(F:FV C sc B env h ρ)(B:oM env h h'):∀b o,(∀es ep,o.data≠.dict es ep)->(∀v,o.data≠.cell v)->h.get? b=some o->h'.get? b=some o:=by
 intro b o h1 h2 e
 refine B b o (λq=>?_) (λx q=>?_) e
 . rcases aL F.ns with m|hn|_
   obtain⟨es,ep,hd⟩:=sD hn (q▸e)
   exact h1 _ _ hd
 . rcases aU (F.allc x b q) with v|hv
   exact h2 _ (xU hv e)
theorem Rd.off{h h':Heap}(F:FV C sc B env h ρ)(B:oM env h h'){v:Value}{d:D}(r:Rd X h v d):Rd X h' v d :=
 r.at λb o x ⟨vs,k,e⟩ q=>⟨x,F.off B b o (by rwa[e];intro _ _ z;injection z) (by rwa[e];intro _ z;injection z) q⟩
theorem tY.off{h h':Heap}(H:tY A h)(F:FV C sc B env h ρ)(B:oM env h h'):tY A h' :=
 H.imp id λ⟨e,h1,o,vs,h2,h3,h4⟩=>⟨e,h1,o,vs,F.off B e o (by rwa[h3];intro _ _ z;injection z) (by rwa[h3];intro _ z;injection z) h2,h3,h4⟩
theorem Ok.store{x:Str}{v:Value}{d:D}{k:NameKind}{Q:Unit->Shared->Prop}(O:Ok C n sc δ A B env X s.heap)(r:Rd X s.heap v d)(hk:sc.names.lookup x=some k)(hkk:k=.local\/k=.cell)
 (h:∀h' tk,Ok C n sc ((x,d)::δ) A B env X h'->oM env s.heap h'->(∀b o,s.heap.get? b=some o->∃o',h'.get? b=some o')->(k=.local->∀b o,b≠env.locals->s.heap.get? b=some o->h'.get? b=some o)->Q () {s with heap:=h',toks:=tk}) :
 wpAny C.M A (storeName env x v) Q E s:=by
 rcases aL O.st with ρ|F|V
 refine IJ F hk hkk λh' tk F' B st lo=>h h' tk ⟨O.rm,O.ho.off F B,λa ha=>let ⟨o,vs,nn,e,z⟩:=O.xo a ha;⟨o,vs,nn,F.off B a o (by rwa[z];intro _ _ y;injection y) (by rwa[z];intro _ y;injection y) e,z⟩,C.I.at_ _ _ O.iv (λb o ob e=>B b o (λz=>F.base.2.2.1.2 (z▸ob)) (λx z=>(F.base.2.2.2 x b z).2 ob) e),O.ox,PP ρ x v,F',λy d' e=>?_⟩ B st lo
 unfold PP
 by_cases q:y=x
 . subst q
   rw[List.lookup_cons,show (y==y)=true from beq_self_eq_true y] at e
   obtain rfl:=Option.some.inj e
   exact⟨v,if_pos rfl,r.off F B⟩
 . rw[List.lookup_cons,show (y==x)=false from by simpa using q] at e
   rcases aL (V y d' e) with v'|e1|r'
   exact⟨v',by rwa[if_neg q];exact e1,r'.off F B⟩
end
theorem uU{elt target iter:PySem.Expr}{all:List Comprehension}{scope:Scope}{pos:Pos}{k:Nat}{it acc:Value}{env:Env}(hg:all[k]?=some ⟨target,iter,[],0⟩)(hl:all[k+1]?=none) :
 compTurn (.ListComp elt all scope pos) k it acc env=(standAt iter.pos >>= λ_=>pyNext it >>= λr=>match r with
  | none=>pure (.done .next)
  | some v=>letOwnedTupleGo target it v >>= λ_=>assign target env v >>= λ_ =>
   (eval elt env >>= λx=>call (.builtin "list.append") [acc,x] >>= λ_=>pure ()) >>= λ_ =>
    again (.compLoop (.ListComp elt all scope pos) k it acc env)):=by
 unfold compTurn
 simp only[hg,hl]
 rfl
theorem ER{elt target iter t2 i2:PySem.Expr}{all:List Comprehension}{scope:Scope}{pos:Pos}{k:Nat}{it acc:Value}{env:Env}(hg:all[k]?=some ⟨target,iter,[],0⟩)(hl:all[k+1]?=some ⟨t2,i2,[],0⟩) :
 compTurn (.ListComp elt all scope pos) k it acc env=(standAt iter.pos >>= λ_=>pyNext it >>= λr=>match r with
  | none=>pure (.done .next)
  | some v=>letOwnedTupleGo target it v >>= λ_=>assign target env v >>= λ_ =>
   eval i2 env >>= λx=>standAt i2.pos >>= λ_=>foldedSetIterable i2 env x >>= λx=>holding [x] (pyIter x) >>= λit2 =>
    runOwn (.compStart (.ListComp elt all scope pos) (k+1) it2 acc env) env >>= λ_ =>
     again (.compLoop (.ListComp elt all scope pos) k it acc env)):=by
 unfold compTurn
 simp only[hg,hl]
 rfl
noncomputable def jK(h:Heap)(I:Addr):Prop:=∃T fs o,h.get? I=some o/\o.cls=.type T/\o.data=.fields fs/\(T="list_iterator"\/T="range_iterator"\/T="bytes_iterator")
structure Wk(M:Model)(A:Around)(X:Addr->Prop)(I:Addr)(ds:List D)(At:Nat->Heap->Prop):Prop where
 obj:∀i h,At i h->jK h I
 frame:∀i h h',At i h->(∀o,h.get? I=some o->h'.get? I=some o)->(∀b o,¬X b->IA o->h.get? b=some o->h'.get? b=some o)->At i h'
 item:∀i d s Q E,ds[i]?=some d->At i s.heap->(∀v h' tk,Rd X h' v d->At (i+1) h'->Heap.ExtBut I s.heap h'->Q (some v) {s with heap:=h',toks:=tk})->wpAny M A (pyNext (.ref I)) Q E s
 done:∀s Q E,tY A s.heap->(∀e,A.handled=some (.ref e)->e≠I)->At ds.length s.heap->(∀h',Heap.ExtBut I s.heap h'->Q none {s with heap:=h'})->wpAny M A (pyNext (.ref I)) Q E s
 self:∀i s Q E,At i s.heap->Q (.ref I) s->wpAny M A (pyIter (.ref I)) Q E s
theorem jK.ne{h:Heap}{I b:Addr}{o:Obj}(a:jK h I)(e:h.get? b=some o)(hd:∀fs,o.data≠.fields fs):b≠I:=by
 intro z;subst z
 obtain _|fs|o'|e'|_|hf|_:=tX a
 have h_:=sx e e';clear e';subst h_
 exact hd fs hf
theorem jK.lists{h h':Heap}{I:Addr}(a:jK h I)(k:Heap.ExtBut I h h'):∀b o,IA o->h.get? b=some o->h'.get? b=some o:=λb o ⟨vs,n,y⟩ e =>
 k b o (a.ne e λfs z=>by replace z:=y▸z;injection z) e
section
variable{prog:Program}{w:World}{A:Around}{X:Addr->Prop}
theorem Wk.list{I l:Addr}{vs:List Value}{ds:List D}(hx:¬X l) :
 Wk (model prog w) A X I ds λi h=>h.IsListIter I l i/\h.PlainList l vs.toArray/\dI X h vs ds where
 obj:=λi h ⟨⟨o,a1,a2,a3⟩,_⟩=>⟨_,_,o,a1,a2,a3,.inl rfl⟩
 frame:=λi h h' ⟨⟨o,a1,a2,a3⟩,⟨n,b⟩,c⟩ k1 k2=>⟨⟨o,k1 _ a1,a2,a3⟩,⟨n,k2 _ _ hx ⟨_,_,rfl⟩ b⟩,c.at λb o x y e=>⟨x,k2 b o x y e⟩⟩
 item:=λi d s Q E hd ⟨a,b,c⟩ h=>by
  rcases aL (c.get hd) with v|hv|hr
  rcases rW (id a) with o|a1|a2|a3
  have ia:jK s.heap I:=⟨_,_,o,a1,a2,a3,.inl rfl⟩
  refine wpAny_pyNext_list_item (it:=I) (l:=l) (i:=i) a b.isList (x:=v) (by simpa using hv) λh' hit hs=>?_
  have kk:=ia.lists hs.extBut
  obtain n|b:=aU b
  exact h v h' s.toks (hr.at λq o x y e=>⟨x,kk q o y e⟩) ⟨hit,⟨n,kk _ _ ⟨_,_,rfl⟩ b⟩,c.at λq o x y e=>⟨x,kk q o y e⟩⟩ hs.extBut
 done:=λs Q E ho hne' ⟨a,b,c⟩ h=>by
  refine sC (it:=I) (l:=l) (i:=ds.length) ho a b.isList ?_ hne' h
  rwa[←c.length];simp
 self:=λi s Q E ⟨a,b,c⟩ h=>wpAny_pyIter_listiter (l:=l) (i:=i) a h
noncomputable def kU(n:Nat):List D:=(List.range n).map λ(i:Nat)=>.int (i:Int)
theorem Wk.range{I:Addr}{n:Nat}:Wk (model prog w) A X I (kU n) λi h=>IsRangeIter h I (i:Int) ((n:Int)-i) 1 where
 obj:=λi h a=>⟨_,_,_,a,rfl,rfl,.inr (.inl rfl)⟩
 frame:=λi h h' a k1 _=>k1 _ a
 item:=λi d s Q E hd a h=>by
  unfold kU at hd
  have hi:i<n:=by
   have:=(List.getElem?_eq_some_iff.mp hd).1
   simpa using this
  have:d=.int (i:Int):=by
   replace hd:=(List.getElem?_range hi)▸(List.getElem?_map)▸hd
   simpa using hd.symm
  subst this
  refine wpAny_pyNext_range_item a (by lia) λh' hit hs=>?_
  exact h _ h' _ (.int _ _) (by rwa[show ((i+1:Nat):Int)=(i:Int)+1 by rfl,show (n:Int)-((i:Int)+1)=(n:Int)-i-1 by lia];exact hit) hs.extBut
 done:=λs Q E ho _ a h=>by
  refine EP ho a ?_ h
  unfold kU;simp
 self:=λi s Q E a h=>by
  have hT:s.TypeIs (.ref I) "range_iterator":=⟨_,a,rfl⟩
  exact wpAny_pyIter_rangeiter a h
theorem uV{I l:Addr}{items:List Value}:∀(n i:Nat) (s:Shared) (Q:List Value->Shared->Prop) (E:Value->Shared->Prop),s.heap.IsListIter I l i->s.heap.PlainList l items.toArray->i+n<=items.length ->
 (∀h',h'.IsListIter I l (i+n)->h'.PlainList l items.toArray->Heap.ExtBut I s.heap h'->Q ((items.drop i).take n) {s with heap:=h'})->wpAny (model prog w) A (draw (.ref I) n) Q E s
 | 0,i,s,Q,E,hit,hl,_,hQ=>by
  show wpAny _ _ (pure []) Q E s
  exact wpAny_pure (by simpa using hQ s.heap hit hl (λ_ _ _ e=>e))
 | n+1,i,s,Q,E,hit,hl,hle,hQ=>by
  have hlt:i<items.length:=by exact Nat.lt_of_le_of_lt (Nat.le_add_right ..) (by assumption)
  rcases rW (id hit) with o|a1|a2|a3
  have ia:jK s.heap I:=⟨_,_,o,a1,a2,a3,.inl rfl⟩
  show wpAny _ _ (pyNext (.ref I) >>= _) Q E s
  refine wpAny_bind (wpAny_pyNext_list_item hit hl.isList (x:=items[i]) (by rwa[List.getElem?_toArray];exact List.getElem?_eq_getElem hlt) λh1 hit1 hs1=>?_)
  rcases aU (id hl) with nn|hl'
  have hl1:h1.PlainList l items.toArray:=⟨nn,ia.lists hs1.extBut _ _ ⟨_,_,rfl⟩ hl'⟩
  refine wpAny_bind (wpAny_holding (uV n (i+1) _ _ _ hit1 hl1 (by lia) λh2 hit2 hl2 hs2=>wpAny_pure ?_))
  have hd:items.drop i=items[i]::items.drop (i+1):=List.drop_eq_getElem_cons hlt
  have:=hQ h2 (by rwa[show i+(n+1)=i+1+n by lia];exact hit2) hl2 (λb o hb e=>hs2 b o hb (hs1.extBut b o hb e))
  replace this:=List.take_succ_cons▸hd▸this
  exact this
theorem vU{s:Shared}{l:Addr}{items:List Value}{Q:List Value->Shared->Prop}{E:Value->Shared->Prop}(ho:tY A s.heap)(hl:s.heap.PlainList l items.toArray)
 (hQ:∀h',(∀b o,s.heap.get? b=some o->h'.get? b=some o)->Q items {s with heap:=h'}):wpAny (model prog w) A (unpackItems (.ref l) items.length none) Q E s:=by
 unfold unpackItems
 refine wpAny_bind ?_
 unfold notIterableAtAll
 refine wpAny_bind (wpAny_specialOf hl.isList.typeIs slot_list_iter.lookup ?_)
 refine wpAny_pure ?_
 simp only[Bool.false_eq_true,if_false]
 refine wpAny_bind (wpAny_holding (wpAny_pyIter_list hl.isList ?_))
 have k0:∀b o,s.heap.get? b=some o->(s.heap.push {cls:=.type "list_iterator",data:=.fields #[.ref l,.int 0 0]}).get? b=some o:=λb o e=>Heap.get?_push_of_some _ e
 rcases aU (id hl) with nn|hl'
 refine wpAny_bind (wpAny_holding (uV items.length 0 _ _ _ ⟨_,Heap.get?_push_size _ rfl,rfl,rfl⟩ ⟨nn,k0 _ _ hl'⟩ (by simp) λh1 hit1 hl1 hs1=>?_))
 have hall:List.take items.length (List.drop 0 items)=items:=by rwa[List.drop_zero];exact List.take_of_length_le (by simp)
 rwa[hall,if_neg (by simp)]
 have new:∀b o,s.heap.get? b=some o->b≠s.heap.objs.size:=λb o e z=>by subst z;exact Nat.lt_irrefl _ (Heap.lt_size e)
 have k1:∀b o,s.heap.get? b=some o->h1.get? b=some o:=λb o e=>hs1 b o (new b o e) (k0 b o e)
 refine wpAny_bind (wpAny_holding (sC (ho.keeps k1) hit1 hl1.isList (by simp) ?_ λh2 he2=>?_))
 . intro e he z
   rcases ho with q | ⟨e',q,o,vs,q2,_⟩
   . injection tq q he
   . replace he:=q▸he;cases he;exact new _ _ q2 z
 . simp only[Option.isSome_none,Bool.false_eq_true,if_false]
   exact wpAny_pure (hQ h2 λb o e=>he2 b o (new b o e) (k1 b o e))
end
noncomputable def PQ(C:Cx)(n:Nat)(sc:Scope)(target:PySem.Expr)(d:D)(δ δ':List (Str×D)):Prop :=
 (∀x dd,δ.lookup x=some dd->δ'.lookup x=some dd) /\
 ∀(A:Around) (B:Heap) (env:Env) (X:Addr->Prop) (s:Shared) (v:Value) (I:Addr) (Q:Unit->Shared->Prop) (E:Value->Shared->Prop),Ok C n sc δ A B env X s.heap->Rd X s.heap v d->jK s.heap I ->
  (∀h' tk,Ok C n sc δ' A B env X h'->(∀b o,b≠env.locals->s.heap.get? b=some o->h'.get? b=some o)->Q () {s with heap:=h',toks:=tk}) ->
  wpAny C.M A (letOwnedTupleGo target (.ref I) v) (λ_ s1=>wpAny C.M A (assign target env v) Q E s1) E s
theorem Ok.sub{C:Cx}{n:Nat}{sc:Scope}{δ δ':List (Str×D)}{A:Around}{B:Heap}{env:Env}{X:Addr->Prop}{h:Heap}(O:Ok C n sc δ' A B env X h)(k:∀x dd,δ.lookup x=some dd->δ'.lookup x=some dd):Ok C n sc δ A B env X h :=
 ⟨O.rm,O.ho,O.xo,O.iv,O.ox,let ⟨ρ,F,V⟩:=O.st;⟨ρ,F,λx d e=>V x d (k x d e)⟩⟩
section
variable{C:Cx}{n:Nat}{sc:Scope}{δ:List (Str×D)}
theorem mI{x:Str}{d:D}(h:δ.lookup x=none):∀y dd,δ.lookup y=some dd->((x,d)::δ).lookup y=some dd:=λy dd e=>by
 have ne:y≠x:=λq=>by subst q;injection tq h e
 rwa[List.lookup_cons,show (y==x)=false from by simpa using ne];exact e
theorem kW{x:Str}{p:Pos}{d:D}(hk:sc.names.lookup x=some .local)(hx:δ.lookup x=none):PQ C n sc (.Name x p) d δ ((x,d)::δ) :=
 ⟨mI hx,λA B env X s v I Q E O r _ h=>by
  exact wpAny_of_eq (a:=()) rfl (wpAny_assign_Name (O.store r hk (.inl rfl) λh' tk O' _ _ lo=>h h' tk O' (lo rfl)))⟩
theorem AR{I:Addr}{s:Shared}{M:Model}{A:Around}{target:PySem.Expr}{v:Value}{Q:Unit->Shared->Prop}{E:Value->Shared->Prop}(a:jK s.heap I)(h:Q () s):wpAny M A (letOwnedTupleGo target (.ref I) v) Q E s:=by
 obtain T|fs|o|e|hc|hd|ht:=tX a
 have main:∀b:Addr,wpAny M A (do
  let o ←load I
  match o.cls,o.data with
  | .type n,.fields vs =>
   if ["enumerate","zip","dict_itemiterator","dict_reverseitemiterator","odict_iterator","itertools.zip_longest","itertools.pairwise"].contains n&&vs[0]?==some (rawInt b) then
    rule "for.unpacks-the-owned-tuple"
    updateField I 0 .none
  | _,_=>pure ():Sem Unit) Q E s:=λb=>by
  refine wpAny_bind (wpAny_load e ?_)
  rwa[hc,hd]
  dsimp only
  rwa[if_neg (by rcases ht with rfl | rfl | rfl<;>exact nofun)]
  exact wpAny_pure h
 unfold letOwnedTupleGo
 split
 . split
   . rename_i z;cases z;exact main _
   . exact wpAny_pure h
 . split
   . rename_i z;cases z;exact main _
   . exact wpAny_pure h
 . exact wpAny_pure h
end
section
variable{C:Cx}{n:Nat}{sc:Scope}{δ:List (Str×D)}
theorem sE{x y:Str}{p q pos:Pos}{k:Nat}{d e:D}{A:Around}{B:Heap}{env:Env}{X:Addr->Prop}{s:Shared}{v:Value}{kx ky:NameKind}{Q:Unit->Shared->Prop}{E:Value->Shared->Prop}
 (O:Ok C n sc δ A B env X s.heap) (r:Rd X s.heap v (.list [d,e])) (hx:sc.names.lookup x=some kx) (hkx:kx=.local\/kx=.cell) (hy:sc.names.lookup y=some ky) (hky:ky=.local\/ky=.cell)
 (h:∀h' tk,Ok C n sc ((y,e)::(x,d)::δ) A B env X h'->oM env s.heap h'->(∀b o,s.heap.get? b=some o->∃o',h'.get? b=some o') ->
  (kx=.local->ky=.local->∀b o,b≠env.locals->s.heap.get? b=some o->h'.get? b=some o)->Q () {s with heap:=h',toks:=tk}) :
 wpAny C.M A (assign (.Tuple [.Name x p,.Name y q] k pos) env v) Q E s:=by
 obtain _|_|hX|hl|hr|rfl:=qC (cK r)
 obtain _|_|r1|hr|rfl:=iG (aR hr)
 obtain _|_|r2|hr|rfl:=iG (aR hr)
 obtain rfl:=bJ hr
 rwa[arm_assign_Tuple ..]
 refine wpAny_bind (wpAny_standAt ?_)
 unfold unpack
 show wpAny _ _ (holding _ (unpackItems _ 2 none) >>= λl=>assignInOrder [assign (.Name x p) env,assign (.Name y q) env] l) _ _ _
 refine wpAny_bind (wpAny_holding (vU (items:=[_,_]) O.ho hl λh1 k1=>?_))
 have O1:=O.keeps k1
 show wpAny _ _ (holding _ _ >>= λ_=>assignInOrder [assign (.Name y q) env] _) _ _ _
 refine wpAny_bind (wpAny_holding (wpAny_assign_Name (O1.store (s:={s with heap:=h1}) (r1.keeps k1) hx hkx λh2 tk2 O2 B2 st2 lo2=>?_)))
 show wpAny _ _ (holding _ _ >>= λ_=>assignInOrder [] _) _ _ _
 rcases aL O1.st with ρ1|F1|_
 have r2':Rd X h2 _ e:=(r2.keeps k1).off F1 B2
 refine wpAny_bind (wpAny_holding (wpAny_assign_Name (O2.store (s:={s with heap:=h2,toks:=tk2}) r2' hy hky λh3 tk3 O3 B3 st3 lo3=>?_)))
 refine wpAny_pure (h h3 tk3 O3 ((oM.of_keeps k1).trans (B2.trans B3)) (λb o e=>?_) λq1 q2 b o hb e=>lo3 q2 b o hb (lo2 q1 b o hb (k1 b o e)))
 rcases aU (st2 b o (k1 b o e)) with o2|e2
 exact st3 b o2 e2
theorem DE{x y:Str}{p q pos:Pos}{k:Nat}{d e:D}(hkx:sc.names.lookup x=some .local)(hky:sc.names.lookup y=some .local)(hx:δ.lookup x=none)(hy:δ.lookup y=none)(hxy:y≠x) :
 PQ C n sc (.Tuple [.Name x p,.Name y q] k pos) (.list [d,e]) δ ((y,e)::(x,d)::δ):=by
 refine⟨λz dd ez=>mI ?_ z dd (mI hx z dd ez),λA B env X s v I Q E O r ia h=>?_⟩
 . rwa[List.lookup_cons,show (y==x)=false from by simpa using hxy];exact hy
 . exact AR ia (sE O r hkx (.inl rfl) hky (.inl rfl) λh' tk O' _ _ lo=>h h' tk O' (lo rfl rfl))
noncomputable def ZC(M:Model)(A:Around)(X:Addr->Prop)(I:Addr)(ds:List D)(h:Heap):Prop:=∀X':Addr->Prop,(∀a,X' a->X a\/h.get? a=none)->∃At,Wk M A X' I ds At/\At 0 h
structure Sr(C:Cx)(n:Nat)(sc:Scope)(δ:List (Str×D))(e:PySem.Expr)(ds:List D):Prop where
 go :
 ∀(A:Around) (B:Heap) (env:Env) (X:Addr->Prop) (s:Shared) (Q:Value->Shared->Prop) (E:Value->Shared->Prop),Ok C n sc δ A B env X s.heap ->
  (∀I s',Keeps s s'->s.heap.get? I=none->jK s'.heap I->ZC C.M A X I ds s'.heap->Q (.ref I) s') ->
  wpAny C.M A (eval e env) (λx s1=>wpAny C.M A (pyIter x) Q E s1) E s
theorem aN{h:Heap}:h.get? h.objs.size=none:=by
 cases q:h.get? h.objs.size with
 | none=>rfl
 | some o=>exact absurd (Heap.lt_size q) (Nat.lt_irrefl _)
theorem bG{h h':Heap}(k:∀b o,h.get? b=some o->h'.get? b=some o){a:Addr}(e:h'.get? a=none):h.get? a=none:=by
 cases q:h.get? a with
 | none=>rfl
 | some o=>injection tq (k _ _ q) e
theorem eJ{e:PySem.Expr}{ds:List D}(he:Ev C n sc δ e (.list ds)):Sr C n sc δ e ds:=by
 refine⟨?_⟩
 intro A B env X s Q E O h
 refine he.go A B env X s _ _ O λv s1 k1 r1=>?_
 obtain a|vs|hX|hl|hr|rfl:=qC (cK r1)
 rcases aU (id hl) with nn|hl'
 refine wpAny_pyIter_list hl.isList ?_
 have k2:∀b o,s1.heap.get? b=some o->(s1.heap.push {cls:=.type "list_iterator",data:=.fields #[.ref a,.int 0 0]}).get? b=some o:=λb o e=>Heap.get?_push_of_some _ e
 have hI:(s1.heap.push {cls:=.type "list_iterator",data:=.fields #[.ref a,.int 0 0]}).get? s1.heap.objs.size=some {cls:=.type "list_iterator",data:=.fields #[.ref a,.int 0 0]}:=Heap.get?_push_size _ rfl
 refine h _ _ (aB k1 ⟨_,s1.toks,rfl,k2⟩) (bG (bC k1) aN) ⟨_,_,_,hI,rfl,rfl,.inl rfl⟩ λX' hX'=>?_
 have nx:∀b o,¬X b->s1.heap.get? b=some o->¬X' b:=λb o hb e q=>(hX' b q).elim hb λz=>by
  injection tq (k2 _ _ e) z
 refine⟨_,Wk.list (vs:=vs) (nx a _ hX hl'),⟨_,hI,rfl,rfl⟩,⟨nn,k2 _ _ hl'⟩,hr.at λb o x y e=>⟨nx b o x e,k2 b o e⟩⟩
theorem iU{arg:PySem.Expr}{np pos:Pos}{m:Nat}(ha:Ev C n sc δ arg (.int (m:Int)))(hm:m<2 ^ 62)(hk:sc.names.lookup ("range":Str)=some .globalImplicit)(hg:C.mg ("range":Str)=none)(hb:C.mb ("range":Str)=some (.type "range"))
 (hs:∀env,starEach [arg] env=[(false,eval arg env)]:=by intro _;rfl):Sr C n sc δ (.Call (.Name ("range":Str) np) [arg] [] pos) (kU m):=by
 refine⟨?_⟩
 intro A B env X s Q E O h
 rcases aL O.st with ρ|F|V
 have G:=O.gl
 refine Call_name1 (hs env) ?_
 refine wpAny_Name ?_ ∅
 rwa[loadName_read (by refine zl F.scope ?_;exact F.kind) (by unfold Env.kindOf;refine zl F.scope ?_;exact hk)]
 refine loadGlobal_builtin (mg:=C.mg) (mb:=C.mb) (by rwa[F.globals];exact G.g) hg (by rwa[F.builtins];exact G.b) hb ?_
 refine callWith_type1 (ha.go A B env X s _ _ O λv s1 k1 r1=>?_)
 (obtain _|rfl:=aU (bF r1))
 refine call_range_1 ?_
 have k2:∀(ob:Obj) b o,s1.heap.get? b=some o->(s1.heap.push ob).get? b=some o:=λob b o e=>Heap.get?_push_of_some _ e
 refine wpAny_pyIter_range (IsRange.new _ _ _ _ _ _ _) (small_one ∅ ∅ (by lia) (by lia)) ?_
 have e0:s1.heap.get? (s1.heap.push {cls:=Value.type "range",data:=Data.fields #[Value.int 0 s1.toks,Value.int (m:Int) ‹_›,Value.int 1 (s1.toks+1)]}).objs.size=none:=bG (k2 _) aN
 refine h _ _ (aB k1 ⟨_,_,rfl,λb o e=>Heap.get?_push_of_some _ (k2 _ b o e)⟩) (bG (bC k1) e0) ?_ λX' _=>?_
 . exact⟨_,_,_,Heap.get?_push_size _ rfl,rfl,rfl,.inr (.inl rfl)⟩
 . refine⟨_,Wk.range,?_⟩
   show _=_
   refine (Heap.get?_push_size _ rfl).trans ?_
   have hz:Builtin.Range.rangeSize 0 (m:Int) 1=(m:Int)-((0:Nat):Int):=by rwa[rangeSize_one ..];split<;>omega
   rwa[hz];rfl
noncomputable def Lp(C:Cx)(n:Nat)(sc:Scope):List Comprehension->PySem.Expr->List (Str×D)->List D->Prop
 | [],elt,δ,outs=>∃d,outs=[d]/\Ev C n sc δ elt d
 | g::gs,elt,δ,outs=>g.ifs=[]/\g.is_async=0/\(∀env x,foldedSetIterable g.iter env x=pure x)/\∃(ds:List D) (fs:List (List D)),Sr C n sc δ g.iter ds/\fs.length=ds.length/\outs=fs.flatten /\
  ∀(i:Nat) (d:D) (o:List D),ds[i]?=some d->fs[i]?=some o->∃δ',PQ C n sc g.target d δ δ'/\Lp C n sc gs elt δ' o
theorem sG{elt:PySem.Expr}{all:List Comprehension}{scope:Scope}{pos:Pos}{k:Nat}{it acc:Value}{env:Env}:(Code.compLoop (.ListComp elt all scope pos) k it acc env).quiet=true:=rfl
structure SY(C:Cx)(n:Nat)(sc:Scope)(δ:List (Str×D))(A:Around)(B:Heap)(env:Env)(X:Addr->Prop)(acc:Addr)(ud:List D)(P:Addr->Prop)(h h':Heap):Prop where
 ok:Ok C n sc δ A B env X h'
 al:∃us,h'.PlainList acc us/\dI X h' us.toList ud
 keep:∀b o,¬P b->b≠acc->b≠env.locals->h.get? b=some o->h'.get? b=some o
theorem sH{elt:PySem.Expr}{all:List Comprehension}{scope:Scope}{pos:Pos}{k:Nat}{I:Addr}{acc:Value}{env:Env}{g:Comprehension}{A:Around}{X:Addr->Prop}{ds:List D}{At:Nat->Heap->Prop}{s:Shared}{R:Result->Shared->Prop}
 (hg:all[k]?=some g) (ha:g.is_async=0) (W:Wk C.M A X I ds At) (h0:At 0 s.heap) (h:codeAny C.M A (.compLoop (.ListComp elt all scope pos) k (.ref I) acc env) R s) :
 codeAny C.M A (.compStart (.ListComp elt all scope pos) k (.ref I) acc env) R s:=by
 refine codeAny_of_tree ?_
 show wpAny _ A ((compStart (.ListComp elt all scope pos) k (.ref I) acc env).onRaise (λx=>do noteFrame x env;standAt theWindowsPlace)) _ _ s
 refine wpAny_notedAt ?_
 unfold compStart
 have hc:(clausesOf (.ListComp elt all scope pos))[k]?=some g:=hg
 have e0:((clausesOf (.ListComp elt all scope pos))[k]?.elim false λx=>x.is_async != 0)=false:=by rwa[hc];show (g.is_async != 0)=false;rwa[ha];rfl
 rwa[if_neg (by refine zl e0 ?_;exact Bool.false_ne_true)]
 refine wpAny_bind (wpAny_askSetting ?_)
 split
 . exact wpAny_bind (wpAny_pure (wpAny_pure (And.intro rfl h)))
 . refine wpAny_bind (wpAny_rule ?_)
   rwa[hc]
   refine wpAny_bind (wpAny_standAt ?_)
   exact wpAny_bind (W.self 0 s _ _ h0 (wpAny_pure (And.intro rfl h)))
theorem Ok.extBut{A:Around}{B:Heap}{env:Env}{X:Addr->Prop}{h h':Heap}{I:Addr}(O:Ok C n sc δ A B env X h)(a:jK h I)(hB:IB C B I)(hne:∀e,A.handled=some (.ref e)->e≠I)(k:Heap.ExtBut I h h'):Ok C n sc δ A B env X h':=by
 rcases aL O.st with ρ|F|V
 have kk:∀b o,h.get? b=some o->(∀fs,o.data≠.fields fs)->h'.get? b=some o:=λb o e hd=>k b o (a.ne e hd) e
 have kc:∀{c v},h.IsCell c v->h'.IsCell c v:=λ{c v} ⟨o,e,hd⟩=>⟨o,kk c o e (by rwa[hd];intro _ y;injection y),hd⟩
 refine⟨O.rm,?_,λc hc=>?_,C.I.at_ _ _ O.iv λb o ob e=>k b o (λz=>hB.2 (z▸ob)) e,O.ox,ρ,?_,V.at λb o x y e=>⟨x,a.lists k b o y e⟩⟩
 . rcases O.ho with q | ⟨e,q,o,vs,q2,q3⟩
   . exact .inl q
   . exact .inr ⟨e,q,o,vs,k e o (hne e q) q2,q3⟩
 . rcases eU (O.xo c hc) with o|vs|nn|e|z
   exact⟨o,vs,nn,kk c o e (by rwa[z];intro _ y;injection y),z⟩
 . rcases nU F.base with G|k0|hL0|hC0
   rcases aL F.ns with m|q_0|hm;obtain o|es|ep|e1|e2|e3:=nV q_0
   refine⟨⟨G,λb o e=>k b o (λz=>by subst z;injection tq hB.1 e) (k0 b o e),hL0,hC0⟩,F.scope,F.kind,F.globals,F.builtins,
    ⟨m,⟨o,es,ep,kk _ _ e1 (by rwa[e2];intro _ y;injection y),e2,e3⟩,hm⟩,λx hx=>?_,F.inj,λx c e=>?_⟩
   . rcases aL (F.cells x hx) with c|q1|q2
     exact⟨c,q1,kc q2⟩
   . rcases aU (F.allc x c e) with v|q
     exact⟨v,kc q⟩
theorem Ok.listBut{A:Around}{B:Heap}{env:Env}{X:Addr->Prop}{h h':Heap}{l:Addr}{us us':Array Value}(O:Ok C n sc δ A B env X h)(hB:IB C B l)(hX:X l)(hl:h.PlainList l us)(hl':h'.PlainList l us')(k:Heap.ExtBut l h h'):Ok C n sc δ A B env X h':=by
 rcases aL O.st with ρ|F|V
 obtain nl|el:=aU hl
 have kk:∀b o,h.get? b=some o->(∀vs m,o.data≠.seq vs m)->h'.get? b=some o:=λb o e hd=>k b o (λz=>by subst z;have h_:=sx el e;clear e;subst h_;exact hd _ _ rfl) e
 have kc:∀{c v},h.IsCell c v->h'.IsCell c v:=λ{c v} ⟨o,e,hd⟩=>⟨o,kk c o e (by rwa[hd];intro _ _ y;injection y),hd⟩
 refine⟨O.rm,?_,λc hc=>?_,C.I.at_ _ _ O.iv λb o ob e=>k b o (λz=>hB.2 (z▸ob)) e,O.ox,ρ,?_,V.at λb o x y e=>⟨x,k b o (λz=>x (z▸hX)) e⟩⟩
 . rcases O.ho with q | ⟨e,q,o,vs,q2,q3,q4⟩
   . exact .inl q
   . exact .inr ⟨e,q,o,vs,kk e o q2 (by rwa[q3];intro _ _ y;injection y),q3,q4⟩
 . by_cases z:c=l
   . subst z
     obtain m|e:=aU hl'
     exact⟨_,us',m,e,rfl⟩
   . rcases eU (O.xo c hc) with o|vs|nn|e|y
     exact⟨o,vs,nn,k c o z e,y⟩
 . rcases nU F.base with G|k0|hL0|hC0
   rcases aL F.ns with m|q_0|hm;obtain o|es|ep|e1|e2|e3:=nV q_0
   refine⟨⟨G,λb o e=>k b o (λz=>by subst z;injection tq hB.1 e) (k0 b o e),hL0,hC0⟩,F.scope,F.kind,F.globals,F.builtins,
    ⟨m,⟨o,es,ep,kk _ _ e1 (by rwa[e2];intro _ _ y;injection y),e2,e3⟩,hm⟩,λx hx=>?_,F.inj,λx c e=>?_⟩
   . rcases aL (F.cells x hx) with c|q1|q2
     exact⟨c,q1,kc q2⟩
   . rcases aU (F.allc x c e) with v|q
     exact⟨v,kc q⟩
theorem Ok.iterNe{A:Around}{B:Heap}{env:Env}{X:Addr->Prop}{h:Heap}{I:Addr}(O:Ok C n sc δ A B env X h)(e:h.get? I=none):(∀e,A.handled=some (.ref e)->e≠I)/\IB C B I:=by
 refine⟨λx hx z=>?_,?_⟩
 . subst z
   rcases O.ho with q | ⟨e',q,o,vs,q2,_⟩
   . injection tq q hx
   . replace hx:=q▸hx;cases hx;injection tq e q2
 . rcases aL O.st with _|F|_
   exact⟨bG F.base.2.1 e,λob=>by
    rcases aU (C.I.dom _ _ O.iv ob) with o|q
    injection tq e q⟩
theorem Ok.ns{A:Around}{B:Heap}{env:Env}{X:Addr->Prop}{h:Heap}(O:Ok C n sc δ A B env X h):∃o es ep,h.get? env.locals=some o/\o.data=.dict es ep:=by
 rcases aL O.st with _|F|_
 rcases aL F.ns with m|q_0|_;obtain o|es|ep|e1|e2|_:=nV q_0
 exact⟨o,es,ep,e1,e2⟩
theorem jF{fs:List (List D)}{i:Nat}{o:List D}(h:fs[i]?=some o):(fs.drop i).flatten=o++(fs.drop (i+1)).flatten:=by
 obtain⟨hl,he⟩:=List.getElem?_eq_some_iff.mp h
 rwa[List.drop_eq_getElem_cons hl,List.flatten_cons,he];rfl
end
section
variable{C:Cx}{n:Nat}{sc:Scope}
theorem ES{elt:PySem.Expr}{all:List Comprehension}{scope:Scope}{pos:Pos}:∀(gs:List Comprehension) (k:Nat) (g:Comprehension) (δ:List (Str×D)) (A:Around) (B:Heap) (env:Env) (X:Addr->Prop) (I acc:Addr) (At:Nat->Heap->Prop)
 (ds:List D) (fs:List (List D)) (rest i:Nat) (s:Shared) (ud:List D) (R:Result->Shared->Prop),
 all[k]?=some g->all.drop (k+1)=gs->g.ifs=[]->g.is_async=0->Ok C n sc δ A B env X s.heap->X acc->IB C B acc->IB C B I->(∀e,A.handled=some (.ref e)->e≠I) ->
 Wk C.M A X I ds At->At i s.heap->ds.length=i+rest->fs.length=ds.length->(∃us,s.heap.PlainList acc us/\dI X s.heap us.toList ud)->ud.length+(fs.drop i).flatten.length<=sizeLine ->
 (∀(j:Nat) (d:D) (o:List D),ds[j]?=some d->fs[j]?=some o->∃δ',PQ C n sc g.target d δ δ'/\Lp C n sc gs elt δ' o) ->
 (∀h' tk,SY C n sc δ A B env X acc (ud++(fs.drop i).flatten) (λb=>b=I) s.heap h'->R (.ok .next) {s with heap:=h',toks:=tk}) ->
 codeAny C.M A (.compLoop (.ListComp elt all scope pos) k (.ref I) (.ref acc) env) R s:=by
 intro gs
 induction gs with
 | nil =>
  intro k g δ A B env X I acc At ds fs rest
  induction rest with
  | zero =>
   intro i s ud R hg hgs hif has O hX hBa hBI hne W hAt hlen hfl hus hsz hit hR
   obtain⟨target,iter,ifs,isa⟩:=g
   obtain rfl:ifs=[]:=hif
   obtain rfl:isa=0:=has
   refine codeAny_of_tree ?_
   show wpAny _ A ((compTurn (.ListComp elt all scope pos) k (.ref I) (.ref acc) env).onRaise (λx=>do noteFrame x env;theTreesLotGoes x)) _ _ s
   refine wpAny_noted ?_
   have hl:all[k+1]?=none:=by rw[List.getElem?_eq_none_iff];exact List.drop_eq_nil_iff.mp hgs
   rwa[uU hg hl]
   refine wpAny_bind (wpAny_standAt (wpAny_bind (W.done s _ _ O.ho hne (by rwa[hlen];exact hAt) λh' k'=>wpAny_pure ?_)))
   have e0:(fs.drop i).flatten=[]:=by rwa[List.drop_eq_nil_of_le (by lia)];rfl
   have ia:=W.obj _ _ hAt
   obtain us|q_0|hr:=aL hus;obtain nn|hus:=aU q_0
   refine hR h' s.toks ⟨O.extBut ia hBI hne k',⟨us,⟨nn,ia.lists k' _ _ ⟨_,_,rfl⟩ hus⟩,?_⟩,λb o hb _ _ e=>k' b o hb e⟩
   rwa[e0,List.append_nil ..]
   exact hr.at λb o x y e=>⟨x,ia.lists k' b o y e⟩
  | succ rest ih =>
   intro i s ud R hg hgs hif has O hX hBa hBI hne W hAt hlen hfl hus hsz hit hR
   obtain⟨target,iter,ifs,isa⟩:=g
   obtain rfl:ifs=[]:=hif
   obtain rfl:isa=0:=has
   refine codeAny_of_tree ?_
   show wpAny _ A ((compTurn (.ListComp elt all scope pos) k (.ref I) (.ref acc) env).onRaise (λx=>do noteFrame x env;theTreesLotGoes x)) _ _ s
   refine wpAny_noted ?_
   have hl:all[k+1]?=none:=by rw[List.getElem?_eq_none_iff];exact List.drop_eq_nil_iff.mp hgs
   rwa[uU hg hl]
   obtain⟨d,hd⟩:∃d,ds[i]?=some d:=⟨_,List.getElem?_eq_getElem (by lia)⟩
   obtain⟨o,ho⟩:∃o,fs[i]?=some o:=⟨_,List.getElem?_eq_getElem (by lia)⟩
   rcases aL (hit i d o hd ho) with δ'|hb|q_0;obtain dd|rfl|hev:=aL q_0
   replace hsz:=(jF ho)▸hsz;replace hR:=(jF ho)▸hR
   have ia:=W.obj _ _ hAt
   refine wpAny_bind (wpAny_standAt (wpAny_bind (W.item i d s _ _ hd hAt λv h1 tk1 r1 At1 k1=>?_)))
   have O1:=O.extBut ia hBI hne k1
   have ia1:=W.obj _ _ At1
   refine wpAny_bind (wpAny_mono (hb.2 A B env X {s with heap:=h1,toks:=tk1} v I (λ_ s2=>wpAny C.M A ((eval elt env >>= λx=>call (.builtin "list.append") [.ref acc,x] >>= λ_=>pure ()) >>= λ_ =>
    again (.compLoop (.ListComp elt all scope pos) k (.ref I) (.ref acc) env)) (λkJ s'=>match kJ with | .done f=>R (.ok f) s' | .again c'=>c'.quiet=true/\codeAny C.M A c' R s') (notedBy C.M A env λe s'=>R (.error e) s') s2) _ O1 r1 ia1 λh2 tk2 O2 k2=>?_) (λ_ s2 h=>wpAny_bind h) λ_ _ x=>x)
   rcases eU O1.ns with oL|es|ep|eL|dL
   have neI:I≠env.locals:=λz=>by
    obtain _|_|o'|e'|_|hf|_:=tX ia1
    replace e':=eL▸z▸e';obtain rfl:=Option.some.inj e';injection tq dL hf
   have lists2:∀b o,IA o->h1.get? b=some o->h2.get? b=some o:=λb o ⟨vs,m,y⟩ e=>k2 b o (λz=>by replace e:=eL▸z▸e;obtain rfl:=Option.some.inj e;replace dL:=y▸dL;injection dL) e
   have At2:At (i+1) h2:=W.frame _ _ _ At1 (λo e=>k2 I o neI e) λb o _ y e=>lists2 b o y e
   obtain us|q_0|hr:=aL hus;obtain nn|hus:=aU q_0
   have hus1:=ia.lists k1 _ _ ⟨_,_,rfl⟩ hus
   have hus2:=lists2 _ _ ⟨_,_,rfl⟩ hus1
   have hr2:dI X h2 us.toList ud:=hr.at λb o x y e=>⟨x,lists2 b o y (ia.lists k1 b o y e)⟩
   refine wpAny_bind (wpAny_bind (hev.go A B env X {s with heap:=h2,toks:=tk2} _ _ O2 λv3 s3 k3 r3=>?_))
   revert r3;refine kE k3 ?_;clear k3;intro h3 tk3 k3 r3
   have hus3:h3.PlainList acc us:=⟨nn,k3 _ _ hus2⟩
   have hsz':us.size<=sizeLine:=by have:=hr.length;simp at this;simp at hsz;lia
   refine wpAny_bind (wpAny_list_append_plain hus3 (λh4 hl4 hs4=>?_) hsz')
   refine wpAny_pure (wpAny_pure (And.intro sG ?_))
   have O3:=(O2.keeps k3).listBut hBa hX hus3 hl4 hs4.extBut
   have neA:I≠acc:=λz=>by
    subst z
    obtain _|_|o'|e'|_|hf|_:=tX ia
    have h_:=sx hus e';clear e';subst h_;injection hf
   have O4:Ok C n sc δ A B env X h4:=O3.sub hb.1
   have At4:At (i+1) h4:=W.frame _ _ _ At2 (λo e=>hs4.extBut I o neA (k3 I o e)) λb o x y e=>hs4.extBut b o (λz=>x (z▸hX)) (k3 b o e)
   have up:∀b o,¬X b->IA o->h2.get? b=some o->h4.get? b=some o:=λb o x y e=>hs4.extBut b o (λz=>x (z▸hX)) (k3 b o e)
   refine ih (i+1) {s with heap:=h4,toks:=tk3} (ud++[dd]) R hg hgs rfl rfl O4 hX hBa hBI hne W At4 (by grind) hfl ⟨us.push v3,hl4,?_⟩ ?_ hit λh' tk a=>hR h' tk ⟨a.ok,?_,λb o p1 p2 p3 e=>a.keep b o p1 p2 p3 (hs4.extBut b o p2 (k3 b o (k2 b o p3 (k1 b o p1 e))))⟩
   . rwa[Array.toList_push]
     exact (hr2.at λb o x y e=>⟨x,up b o x y e⟩).append (.cons (r3.at λb o x y e=>⟨x,hs4.extBut b o (λz=>x (z▸hX)) e⟩) .nil)
   . simp at hsz ⊢;lia
   . have:=a.al
     rwa [List.append_assoc] at this
 | cons g2 gs ihg =>
  intro k g δ A B env X I acc At ds fs rest
  induction rest with
  | zero =>
   intro i s ud R hg hgs hif has O hX hBa hBI hne W hAt hlen hfl hus hsz hit hR
   obtain⟨target,iter,ifs,isa⟩:=g
   obtain rfl:ifs=[]:=hif
   obtain rfl:isa=0:=has
   obtain⟨t2,i2,ifs2,isa2⟩:=g2
   refine codeAny_of_tree ?_
   show wpAny _ A ((compTurn (.ListComp elt all scope pos) k (.ref I) (.ref acc) env).onRaise (λx=>do noteFrame x env;theTreesLotGoes x)) _ _ s
   refine wpAny_noted ?_
   have e0:(fs.drop i).flatten=[]:=by rwa[List.drop_eq_nil_of_le (by lia)];rfl
   have ia:=W.obj _ _ hAt
   have kJ:∀(K:Value->Sem PySem.Fin),wpAny C.M A (standAt iter.pos >>= λ_=>pyNext (.ref I) >>= λr=>match r with | none=>pure (.done .next) | some v=>K v)
    (λkJ s'=>match kJ with | .done f=>R (.ok f) s' | .again c'=>c'.quiet=true/\codeAny C.M A c' R s') (notedBy C.M A env λe s'=>R (.error e) s') s:=λK=>by
    refine wpAny_bind (wpAny_standAt (wpAny_bind (W.done s _ _ O.ho hne (by rwa[hlen];exact hAt) λh' k'=>wpAny_pure ?_)))
    obtain us|q_0|hr:=aL hus;obtain nn|hus:=aU q_0
    refine hR h' s.toks ⟨O.extBut ia hBI hne k',⟨us,⟨nn,ia.lists k' _ _ ⟨_,_,rfl⟩ hus⟩,?_⟩,λb o hb _ _ e=>k' b o hb e⟩
    rwa[e0,List.append_nil ..]
    exact hr.at λb o x y e=>⟨x,ia.lists k' b o y e⟩
   have hl:all[k+1]?=some ⟨t2,i2,ifs2,isa2⟩:=by
    have:(all.drop (k+1))[0]?=some ⟨t2,i2,ifs2,isa2⟩:=by rwa[hgs];rfl
    rwa [List.getElem?_drop] at this
   unfold compTurn
   simp only[hg,hl]
   exact kJ _
  | succ rest ih =>
   intro i s ud R hg hgs hif has O hX hBa hBI hne W hAt hlen hfl hus hsz hit hR
   obtain⟨target,iter,ifs,isa⟩:=g
   obtain rfl:ifs=[]:=hif
   obtain rfl:isa=0:=has
   obtain⟨t2,i2,ifs2,isa2⟩:=g2
   refine codeAny_of_tree ?_
   show wpAny _ A ((compTurn (.ListComp elt all scope pos) k (.ref I) (.ref acc) env).onRaise (λx=>do noteFrame x env;theTreesLotGoes x)) _ _ s
   refine wpAny_noted ?_
   obtain⟨d,hd⟩:∃d,ds[i]?=some d:=⟨_,List.getElem?_eq_getElem (by lia)⟩
   obtain⟨o,ho⟩:∃o,fs[i]?=some o:=⟨_,List.getElem?_eq_getElem (by lia)⟩
   rcases UM (hit i d o hd ho) with δ'|hb|q1|q2|q3|q_0;obtain ds2|fs2|hsr|hfl2|rfl|hit2:=qC q_0
   obtain rfl:ifs2=[]:=q1
   obtain rfl:isa2=0:=q2
   have hl:all[k+1]?=some ⟨t2,i2,[],0⟩:=by
    have:(all.drop (k+1))[0]?=some ⟨t2,i2,[],0⟩:=by rwa[hgs];rfl
    rwa [List.getElem?_drop] at this
   have hgs2:all.drop (k+1+1)=gs:=by
    have:(all.drop (k+1)).drop 1=gs:=by rwa[hgs];rfl
    rwa [List.drop_drop] at this
   rwa[ER hg hl]
   replace hsz:=(jF ho)▸hsz;replace hR:=(jF ho)▸hR
   have ia:=W.obj _ _ hAt
   refine wpAny_bind (wpAny_standAt (wpAny_bind (W.item i d s _ _ hd hAt λv h1 tk1 r1 At1 k1=>?_)))
   have O1:=O.extBut ia hBI hne k1
   have ia1:=W.obj _ _ At1
   refine wpAny_bind (wpAny_mono (hb.2 A B env X {s with heap:=h1,toks:=tk1} v I (λ_ s2=>wpAny C.M A (eval i2 env >>= λx=>standAt i2.pos >>= λ_=>foldedSetIterable i2 env x >>= λx=>holding [x] (pyIter x) >>= λit2 =>
    runOwn (.compStart (.ListComp elt all scope pos) (k+1) it2 (.ref acc) env) env >>= λ_=>again (.compLoop (.ListComp elt all scope pos) k (.ref I) (.ref acc) env))
     (λkJ s'=>match kJ with | .done f=>R (.ok f) s' | .again c'=>c'.quiet=true/\codeAny C.M A c' R s') (notedBy C.M A env λe s'=>R (.error e) s') s2) _ O1 r1 ia1 λh2 tk2 O2 k2=>?_) (λ_ s2 h=>wpAny_bind h) λ_ _ x=>x)
   rcases eU O1.ns with oL|es|ep|eL|dL
   have neI:I≠env.locals:=λz=>by
    obtain _|_|o'|e'|_|hf|_:=tX ia1
    replace e':=eL▸z▸e';obtain rfl:=Option.some.inj e';injection tq dL hf
   have lists2:∀b o,IA o->h1.get? b=some o->h2.get? b=some o:=λb o ⟨vs,m,y⟩ e=>k2 b o (λz=>by replace e:=eL▸z▸e;obtain rfl:=Option.some.inj e;replace dL:=y▸dL;injection dL) e
   have At2:At (i+1) h2:=W.frame _ _ _ At1 (λo e=>k2 I o neI e) λb o _ y e=>lists2 b o y e
   obtain us|q_0|hr:=aL hus;obtain nn|hus:=aU q_0
   have hus1:=ia.lists k1 _ _ ⟨_,_,rfl⟩ hus
   have hus2:=lists2 _ _ ⟨_,_,rfl⟩ hus1
   have hr2:dI X h2 us.toList ud:=hr.at λb o x y e=>⟨x,lists2 b o y (ia.lists k1 b o y e)⟩
   refine wpAny_bind (wpAny_mono (hsr.go A B env X {s with heap:=h2,toks:=tk2} (λit2 s3=>wpAny C.M A (runOwn (.compStart (.ListComp elt all scope pos) (k+1) it2 (.ref acc) env) env >>= λ_=>again (.compLoop (.ListComp elt all scope pos) k (.ref I) (.ref acc) env))
    (λkJ s'=>match kJ with | .done f=>R (.ok f) s' | .again c'=>c'.quiet=true/\codeAny C.M A c' R s') (notedBy C.M A env λe s'=>R (.error e) s') s3) _ O2 λI2 s3 k3 nI2 ia3 itr=>?_)
    (λx s1 h=>wpAny_bind (wpAny_standAt (wpAny_bind (wpAny_of_eq (q3 env x) (wpAny_bind (wpAny_holding h)))))) λ_ _ x=>x)
   revert ia3 itr;refine kE k3 ?_;clear k3;intro h3 tk3 k3 ia3 itr
   rcases aL (itr X λa ha=>.inl ha) with At'|W'|hAt'
   have O3:=O2.keeps k3
   have hus3:h3.PlainList acc us:=⟨nn,k3 _ _ hus2⟩
   rcases bW (O2.iterNe nI2) with hneI2|hBI2
   refine wpAny_bind (wpAny_runOwn (sH hl rfl W' hAt' ?_))
   refine ihg (k+1) ⟨t2,i2,[],0⟩ δ' A B env X I2 acc At' ds2 fs2 ds2.length 0 {s with heap:=h3,toks:=tk3} ud _ hl hgs2 rfl rfl O3 hX hBa hBI2 hneI2 W' hAt' (by simp) hfl2 ⟨us,hus3,hr2.keeps k3⟩ (by rwa[List.drop_zero];simp at hsz ⊢;lia) hit2 λh4 tk4 a4=>?_
   refine wpAny_pure (And.intro sG ?_)
   have kk:∀b o,b≠acc->b≠env.locals->h2.get? b=some o->h4.get? b=some o:=λb o p1 p2 e=>a4.keep b o (λz=>by replace e:=nI2▸z▸e;injection e) p1 p2 (k3 b o e)
   have neA:I≠acc:=λz=>by
    subst z
    obtain _|_|o'|e'|_|hf|_:=tX ia
    have h_:=sx hus e';clear e';subst h_;injection hf
   have hL2:=O2.ns
   obtain oL2|es2|ep2|eL2|dL2:=eU hL2
   have At4:At (i+1) h4:=W.frame _ _ _ At2 (λo e=>kk I o neA neI e) λb o x ⟨vs,m,y⟩ e=>kk b o (λz=>x (z▸hX)) (λz=>by replace e:=eL2▸z▸e;obtain rfl:=Option.some.inj e;replace dL2:=y▸dL2;injection dL2) e
   have al4:=a4.al
   replace al4:=List.drop_zero▸al4
   refine ih (i+1) {s with heap:=h4,toks:=tk4} (ud++fs2.flatten) R hg hgs rfl rfl (a4.ok.sub hb.1) hX hBa hBI hne W At4 (by lia) hfl al4 (by simp at hsz ⊢;lia) hit λh' tk a=>hR h' tk ⟨a.ok,?_,λb o p1 p2 p3 e=>a.keep b o p1 p2 p3 (kk b o p2 p3 (k2 b o p3 (k1 b o p1 e)))⟩
   have:=a.al
   rwa [List.append_assoc] at this
end
noncomputable def gC(cells:List (Str×Addr)):List (Str×NameKind)->List (Str×Addr)->List (Str×Addr)
 | [],acc=>acc
 | (x,k)::r,acc=>if k==.free then gC cells r ((x,(cells.lookup x).getD 0)::acc) else gC cells r acc
theorem iR{cells:List (Str×Addr)}:∀(names:List (Str×NameKind)) (acc:List (Str×Addr)) (x:Str) (c:Addr),(gC cells names acc).lookup x=some c->acc.lookup x=some c\/((x,.free)∈names/\c=(cells.lookup x).getD 0)
 | [],acc,x,c,h=>.inl h
 | (y,k)::r,acc,x,c,h=>by
  unfold gC at h
  split at h
  . rename_i hk
    rcases iR r _ x c h with q | ⟨q1,q2⟩
    . rw[List.lookup_cons] at q
      split at q
      . rename_i e
        obtain rfl:=Option.some.inj q
        have:x=y:=by simpa using e
        subst this
        have:k=.free:=by simpa using hk
        subst this
        exact .inr ⟨.head _,rfl⟩
      . exact .inl q
    . exact .inr ⟨.tail _ q1,q2⟩
  . rcases iR r _ x c h with q | ⟨q1,q2⟩
    . exact .inl q
    . exact .inr ⟨.tail _ q1,q2⟩
theorem jX{cells:List (Str×Addr)}:∀(names:List (Str×NameKind)) (acc:List (Str×Addr)) (x:Str),((acc.lookup x).isSome=true\/(x,.free)∈names)->((gC cells names acc).lookup x).isSome=true
 | [],acc,x,h=>by
  rcases h with h | h
  . exact h
  . cases h
 | (y,k)::r,acc,x,h=>by
  unfold gC
  split
  . refine jX r _ x ?_
    rwa[List.lookup_cons]
    split
    . exact .inl rfl
    . rcases h with h | h
      . exact .inl h
      . cases h with
        | head=>rename_i e _;simp at e
        | tail _ h=>exact .inr h
  . rename_i hk
    refine jX r _ x (h.imp id λh=>?_)
    cases h with
    | head=>exact absurd rfl hk
    | tail _ h=>exact h
theorem jA{scope:Scope}{env:Env}(h:∀x,(x,.free)∈scope.names->∃c,env.cells.lookup x=some c):closureFor scope env=pure (gC env.cells scope.names []):=by
 simp only[closureFor]
 have main:∀(names:List (Str×NameKind)) (acc:List (Str×Addr)),(∀x,(x,.free)∈names->∃c,env.cells.lookup x=some c) ->
  (forIn (m:=Sem) names acc λx r=>if (x.snd==NameKind.free)=true then do let a ←cellOf env x.fst;pure (ForInStep.yield ((x.fst,a)::r)) else pure (ForInStep.yield r))=pure (gC env.cells names acc):=by
  intro names
  induction names with
  | nil=>intro acc _;rfl
  | cons p r ih =>
   intro acc hf
   obtain⟨y,k⟩:=p
   rwa[List.forIn_cons ..]
   unfold gC
   by_cases hk:(k==NameKind.free)=true
   . have:k=.free:=by simpa using hk
     subst this
     rcases aU (hf y (.head _)) with c|hc
     have e:cellOf env y=pure c:=by unfold cellOf;rwa[hc];rfl
     simp only[hk,if_true,e,hc]
     exact ih _ λx hx=>hf x (.tail _ hx)
   . simp only[hk]
     exact ih _ λx hx=>hf x (.tail _ hx)
 rwa[main _ _ h]
 rfl
noncomputable def lL(scope sc:Scope):Scope :=
 {scope with names:=scope.names.map λ(n,k)=>if (k==.free&&sc.kind==.function&&sc.names.lookup n==some .cell) then (n,.cell) else (n,k)}
theorem AS{scope:Scope}{env:Env}{sc:Scope}(h:env.scope=sc):relabel scope env=lL scope sc:=by
 subst h;rfl
theorem rB{scope sc:Scope}{x:Str}:(lL scope sc).names.lookup x=(scope.names.lookup x).map λk=>if (k==.free&&sc.kind==.function&&sc.names.lookup x==some .cell) then .cell else k:=by
 unfold lL
 dsimp only
 induction scope.names with
 | nil=>rfl
 | cons p r ih =>
  obtain⟨y,k⟩:=p
  rwa[List.map_cons];rw[List.lookup_cons]
  dsimp only at ih ⊢
  by_cases e:(x==y)=true
  . have:x=y:=by simpa using e
    subst this
    by_cases q:(k==NameKind.free&&sc.kind==ScopeKind.function&&List.lookup x sc.names==some NameKind.cell)=true
    . rwa[if_pos q,List.lookup_cons]
      simp only[e,Option.map_some]
      rwa[if_pos q];rfl
    . rwa[if_neg q,List.lookup_cons]
      simp only[e,Option.map_some]
      rwa[if_neg q];rfl
  . simp only[Bool.not_eq_true] at e
    by_cases q:(k==NameKind.free&&sc.kind==ScopeKind.function&&List.lookup y sc.names==some NameKind.cell)=true
    . rwa[if_pos q,List.lookup_cons]
      simp only[e];exact ih
    . rwa[if_neg q,List.lookup_cons]
      simp only[e];exact ih
theorem eW{names:List (Str×NameKind)}{x:Str}{k:NameKind}(h:names.lookup x=some k):(x,k)∈names:=by
 induction names with
 | nil=>injection h
 | cons p r ih =>
  obtain⟨y,k'⟩:=p
  rw[List.lookup_cons] at h
  split at h
  . rename_i e
    cases h
    have:x=y:=by simpa using e
    subst this;exact .head _
  . exact .tail _ (ih h)
theorem xV{C:Cx}{n:Nat}{sc:Scope}{δ δ':List (Str×D)}{elt:PySem.Expr}{g:Comprehension}{gs:List Comprehension}{cscope:Scope}{pos:Pos}{ds:List D}{fs:List (List D)}
 (hsr:Sr C n sc δ g.iter ds) (hif:g.ifs=[]) (has:g.is_async=0) (hfold:∀env x,foldedSetIterable g.iter env x=pure x)
 (hck:cscope.kind=.function) (hnc:∀x∈cscope.names,x.2≠.cell) (hnl:∀x∈cscope.names,x.2=.local->cscope.names.lookup x.1=some .local)
 (hfr:∀x∈cscope.names,x.2=.free->sc.names.lookup x.1=some .cell\/sc.names.lookup x.1=some .free)
 (hδ:∀x d,δ'.lookup x=some d->cscope.names.lookup x=some .free/\δ.lookup x=some d)
 (hfl:fs.length=ds.length) (hsz:fs.flatten.length<=sizeLine)
 (hit:∀(j:Nat) (d:D) (o:List D),ds[j]?=some d->fs[j]?=some o->∃δ'',PQ C n (lL cscope sc) g.target d δ' δ''/\Lp C n (lL cscope sc) gs elt δ'' o) :
 ∀(A:Around) (B:Heap) (env:Env) (X:Addr->Prop) (s:Shared) (use:Option (Value->Sem Unit)) (Q:Value->Shared->Prop) (E:Value->Shared->Prop) (p0:Pos),Ok C n sc δ A B env X s.heap ->
 (∀(acc L:Addr) (h4:Heap) (tk4:Tok) (m4:Str->Option Value),(∀b o,s.heap.get? b=some o->h4.get? b=some o)->h4.Ns L m4->s.heap.get? L=none->acc≠L->Rd X h4 (.ref acc) (.list fs.flatten) ->
  match use with
  | none=>∃m,h4.Ns L m/\∀h',Heap.SameBut L h4 h'->Q (.ref acc) {s with heap:=h',toks:=tk4}
  | some u=>wpAny C.M A (u (.ref acc)) (λ_ s''=>∃m,s''.heap.Ns L m/\∀h',Heap.SameBut L s''.heap h'->Q .none {s'' with heap:=h'}) E {s with heap:=h4,toks:=tk4}) ->
 wpAny C.M A (comprehension (.ListComp elt (g::gs) cscope pos) cscope env p0 (newList []) false (eval g.iter env) use) Q E s:=by
 intro A B env X s use Q E p0 O h
 obtain⟨target,iter,ifs,isa⟩:=g
 obtain rfl:ifs=[]:=hif
 obtain rfl:isa=0:=has
 rcases aL O.st with ρ|F|V
 have hcells:∀x,(x,.free)∈cscope.names->∃c,env.cells.lookup x=some c:=λx hx=>by
  have:=hfr (x,.free) hx rfl
  rcases aL (F.cells x this) with c|e|_
  exact⟨c,e⟩
 refine wpAny_comprehension_free (gs:=gs) rfl (hfold env) (jA hcells) hck hnl ?_
 refine hsr.go A B env X s _ _ O λI s1 k1 nI iaI itr=>?_
 revert iaI itr;refine kE k1 ?_;clear k1;intro h1 tk1 k1 iaI itr
 have O1:=O.keeps k1
 obtain⟨acc,hacc⟩:∃acc,acc=h1.objs.size:=⟨_,rfl⟩
 have nacc:h1.get? acc=none:=by rwa[hacc];exact aN
 obtain⟨X',hX'⟩:∃X':Addr->Prop,X'=λa=>X a\/a=acc:=⟨_,rfl⟩
 rcases aL (itr X' λa ha=>by
  replace ha:=hX'▸ha
  exact ha.imp id λz=>by rwa[z];exact nacc) with At|W|hAt
 refine wpAny_newList (items:=[]) ?_ (by simp)
 obtain⟨h2,hh2⟩:∃h2,h2=h1.push {cls:=.type "list",data:=.seq ([]:List Value).toArray}:=⟨_,rfl⟩
 have k2:∀b o,h1.get? b=some o->h2.get? b=some o:=λb o e=>by rwa[hh2];exact Heap.get?_push_of_some _ e
 have hl2:h2.get? acc=some {cls:=.type "list",data:=.seq #[]}:=by rwa[hh2,hacc];exact Heap.get?_push_size _ rfl
 refine wpAny_newFunctionEnv hnc (by intro x hx;cases hx) (λh3 ns3 sb3=>?_) hck
 show codeAny _ _ _ _ ⟨h3,_,_,_,_⟩
 obtain⟨L,hL⟩:∃L,L=h2.objs.size:=⟨_,rfl⟩
 have ns3':h3.Ns L (λ_=>none):=by rwa[hL,hh2];exact ns3
 have nL:h2.get? L=none:=by rwa[hL];exact aN
 have k3:∀b o,h2.get? b=some o->h3.get? b=some o:=λb o e=>by
  have ne:b≠L:=λz=>by replace e:=nL▸z▸e;injection e
  refine (sb3.2 b (by rwa[←hh2,←hL];exact ne)).trans ?_
  replace e:=hh2▸e
  exact Heap.get?_push_of_some _ e
 have k13:∀b o,h1.get? b=some o->h3.get? b=some o:=λb o e=>k3 b o (k2 b o e)
 suffices key:codeAny C.M A (Code.compStart (.ListComp elt (⟨target,iter,[],0⟩::gs) cscope pos) 0 (.ref I) (.ref acc) (compEnvC cscope (gC env.cells cscope.names []) L env)) (compPost C.M A E use Q (.ref acc) L) {s with heap:=h3,toks:=tk1} by
  subst hacc hL hh2;exact key
 have hsc:(compEnvC cscope (gC env.cells cscope.names []) L env).scope=lL cscope sc:=AS F.scope
 have clEq:∀x c,(gC env.cells cscope.names []).lookup x=some c->(x,.free)∈cscope.names/\env.cells.lookup x=some c:=λx c e=>by
  rcases iR _ _ _ _ e with q | ⟨q1,q2⟩
  . injection q
  . rcases aU (hcells x q1) with c'|hc'
    replace q2:=hc'▸q2
    exact⟨q1,by rwa[q2];exact hc'⟩
 have kk:∀b o,s.heap.get? b=some o->h3.get? b=some o:=λb o e=>k13 b o (k1 b o e)
 have cellAt:∀{c v},s.heap.IsCell c v->h3.IsCell c v:=λ⟨o,e,hd⟩=>⟨o,kk _ o e,hd⟩
 have neL:∀b o,h2.get? b=some o->b≠L:=λb o e z=>by replace e:=nL▸z▸e;injection e
 have BL:IB C B L:=⟨bG (λb o e=>k2 b o (k1 b o (F.base.2.1 b o e))) nL,λob=>by
  rcases aU (C.I.dom _ _ O.iv ob) with o|q
  injection tq (k2 _ _ (k1 _ _ q)) nL⟩
 have Bacc:IB C B acc:=⟨bG (λb o e=>k1 b o (F.base.2.1 b o e)) nacc,λob=>by
  rcases aU (C.I.dom _ _ O.iv ob) with o|q
  injection tq (k1 _ _ q) nacc⟩
 have hacc3:h3.PlainList acc #[]:=⟨0,k3 _ _ hl2⟩
 have O3:Ok C n (lL cscope sc) δ' A B (compEnvC cscope (gC env.cells cscope.names []) L env) X' h3:=by
  refine⟨O.rm,O1.ho.keeps k13,λa ha=>?_,C.I.at_ _ _ O.iv λb o _ e=>kk b o e,λa ha=>by rwa[hX'];exact .inl (O.ox a ha),λx=>match (lL cscope sc).names.lookup x with | some .local=>none | _=>ρ x,?_,λx d e=>?_⟩
  . replace ha:=hX'▸ha
    rcases ha with ha | rfl
    . rcases eU (O1.xo a ha) with o|vs|nn|e|z
      exact⟨o,vs,nn,k13 _ _ e,z⟩
    . exact⟨_,_,_,k3 _ _ hl2,rfl⟩
  . refine⟨⟨F.base.1,λb o e=>kk b o (F.base.2.1 b o e),BL,λx c e=>F.base.2.2.2 x c (clEq x c e).2⟩,hsc,hck,F.globals,F.builtins,⟨_,ns3',λx e=>?_⟩,λx e=>?_,λx y c e1 e2=>F.inj x y c (clEq x c e1).2 (clEq y c e2).2,λx c e=>?_⟩
    . rwa[e];rfl
    . have hm:(x,.free)∈cscope.names:=by
       replace e:=rB▸e
       cases q:cscope.names.lookup x with
       | none=>replace e:=q▸e;rcases e with e | e<;>injection e
       | some k =>
        have:(x,k)∈cscope.names:=eW q
        replace e:=q▸e
        cases k with
        | free=>exact this
        | cell=>exact absurd rfl (hnc _ this)
        | «local»=>rcases e with e | e<;>simp at e
        | globalExplicit=>rcases e with e | e<;>simp at e
        | globalImplicit=>rcases e with e | e<;>simp at e
      rcases aU (Option.isSome_iff_exists.mp (jX (cells:=env.cells) cscope.names [] x (.inr hm))) with c|hc
      refine⟨c,hc,?_⟩
      rcases aL (F.cells x (hfr (x,.free) hm rfl)) with c'|q1|q2
      replace q1:=((clEq x c hc).2)▸q1
      obtain rfl:=Option.some.inj q1
      have:(match (lL cscope sc).names.lookup x with | some .local=>none | _=>ρ x)=ρ x:=by
       rcases e with e | e<;>(rwa[e];rfl)
      rwa[this];exact cellAt q2
    . rcases aU (F.allc x c (clEq x c e).2) with v|q
      exact⟨v,cellAt q⟩
  . rcases bW (hδ x d e) with e1|e2
    rcases aL (V x d e2) with v|q1|q2
    refine⟨v,?_,?_⟩
    . have:(lL cscope sc).names.lookup x≠some .local:=by
       rwa[rB,e1,Option.map_some ..]
       intro z
       injection z with z
       split at z<;>injection z
      dsimp only
      split
      . rename_i z;exact absurd z this
      . exact q1
    . refine q2.at λb o x y e=>⟨λz=>?_,kk b o e⟩
      replace z:=hX'▸z
      rcases z with z | z
      . exact x z
      . replace e:=z▸e;injection tq (k1 _ _ e) nacc
 have hAt3:At 0 h3:=W.frame _ _ _ hAt (λo e=>k13 _ _ e) λb o _ _ e=>k13 b o e
 rcases bW (O.iterNe nI) with hneI|hBI
 refine sH rfl rfl W hAt3 ?_
 refine ES gs 0 ⟨target,iter,[],0⟩ δ' A B _ X' I acc At ds fs ds.length 0 _ [] _ rfl rfl rfl rfl O3 (by rwa[hX'];exact .inr rfl) Bacc hBI hneI W hAt3 (by simp) hfl ⟨#[],hacc3,.nil⟩ (by simpa using hsz) hit λh4 tk4 a=>?_
 rcases aL a.ok.st with _|F4|_
 rcases aL F4.ns with m4|n4|_
 have up:∀b o,s.heap.get? b=some o->h4.get? b=some o:=λb o e=>by
  have e1:=k1 b o e
  have nb:b≠acc:=λz=>by replace e1:=nacc▸z▸e1;injection e1
  have nL':b≠L:=neL b o (k2 b o e1)
  refine a.keep b o (λz=>?_) nb nL' (kk b o e)
  have z:b=I:=z
  replace e:=nI▸z▸e;injection e
 rcases aL a.al with us|hus|hr
 have neaL:acc≠L:=λz=>by
  rcases eU a.ok.ns with o'|es|ep|e'|hd
  obtain nn|hus:=aU hus
  have e':h4.get? L=some o':=e'
  replace e':=hus▸z.symm▸e';obtain rfl:=Option.some.inj e';injection hd
 rw[List.nil_append,List.drop_zero] at hr
 have rd:Rd X h4 (.ref acc) (.list fs.flatten):=.list (λq=>by
  rcases eU (O1.xo acc q) with o|_|_|e|_
  injection tq nacc e) (by simpa using hus) (hr.at λb o x y e=>⟨λz=>x (by rwa[hX'];exact .inl z),e⟩)
 have nLs:s.heap.get? L=none:=bG (λb o e=>k2 b o (k1 b o e)) nL
 have P:=h acc L h4 tk4 m4 up n4 nLs neaL rd
 cases use with
 | none=>exact P
 | some u=>exact P
theorem DF{C:Cx}{n:Nat}{sc:Scope}{δ δ':List (Str×D)}{elt:PySem.Expr}{g:Comprehension}{gs:List Comprehension}{cscope:Scope}{pos:Pos}{ds:List D}{fs:List (List D)}
 (hsr:Sr C n sc δ g.iter ds) (hif:g.ifs=[]) (has:g.is_async=0) (hfold:∀env x,foldedSetIterable g.iter env x=pure x)
 (hck:cscope.kind=.function) (hnc:∀x∈cscope.names,x.2≠.cell) (hnl:∀x∈cscope.names,x.2=.local->cscope.names.lookup x.1=some .local)
 (hfr:∀x∈cscope.names,x.2=.free->sc.names.lookup x.1=some .cell\/sc.names.lookup x.1=some .free)
 (hδ:∀x d,δ'.lookup x=some d->cscope.names.lookup x=some .free/\δ.lookup x=some d)
 (hfl:fs.length=ds.length) (hsz:fs.flatten.length<=sizeLine)
 (hit:∀(j:Nat) (d:D) (o:List D),ds[j]?=some d->fs[j]?=some o->∃δ'',PQ C n (lL cscope sc) g.target d δ' δ''/\Lp C n (lL cscope sc) gs elt δ'' o) :
 Ev C n sc δ (.ListComp elt (g::gs) cscope pos) (.list fs.flatten):=by
 refine⟨?_⟩
 intro A B env X s Q E O h
 rwa[eval_ListComp ..]
 have e0:firstAsync (g::gs)=false:=by
  obtain⟨target,iter,ifs,isa⟩:=g
  obtain rfl:isa=0:=has
  rfl
 have e1:firstIter (g::gs) env=eval g.iter env:=by cases g;rfl
 rwa[e0,e1]
 refine xV hsr hif has hfold hck hnc hnl hfr hδ hfl hsz hit A B env X s none Q E _ O λacc L h4 tk4 m4 up n4 nL neaL rd=>⟨m4,n4,λh5 sb5=>?_⟩
 have nLd:∀b o,IA o->h4.get? b=some o->h5.get? b=some o:=λb o ⟨vs,m,y⟩ e=>by
  have:b≠L:=λz=>by
   obtain o'|es|ep|e'|hd|_:=nV n4
   rw[z,e'] at e;cases e;replace hd:=y▸hd;injection hd
  exact (sb5.2 b this).trans e
 exact h _ _ ⟨h5,tk4,rfl,λb o e=>(sb5.2 b (λz=>by replace e:=nL▸z▸e;injection e)).trans (up b o e)⟩ (rd.at λb o x y e=>⟨x,nLd b o y e⟩)
inductive QK where
 | nxt (δ:List (Str×D))
 | ret (d:D)
noncomputable def rN(env:Env)(s s':Shared):Prop:=∃h' tk,s'={s with heap:=h',toks:=tk}/\oM env s.heap h'
theorem rN.of_keeps{env:Env}{s s':Shared}(k:Keeps s s'):rN env s s':=let ⟨h,t,e,k⟩:=k;⟨h,t,e,oM.of_keeps k⟩
theorem rN.trans{env:Env}{a b c:Shared}(x:rN env a b)(y:rN env b c):rN env a c:=by
 obtain h|t|rfl|k:=dZ x
 obtain h'|t'|rfl|k':=dZ y
 exact⟨h',t',rfl,k.trans k'⟩
noncomputable def PR(C:Cx)(n:Nat)(sc:Scope)(A:Around)(B:Heap)(env:Env)(X:Addr->Prop):QK->Flow->Shared->Prop
 | .nxt δ',fl,s'=>fl=.next/\Ok C n sc δ' A B env X s'.heap
 | .ret d,fl,s'=>∃v,fl=.ret v/\Rd X s'.heap v d
structure Ex(C:Cx)(n:Nat)(sc:Scope)(δ:List (Str×D))(ss:List Stmt)(out:QK):Prop where
 go :
 ∀(A:Around) (B:Heap) (env:Env) (X:Addr->Prop) (s:Shared) (Q:Flow->Shared->Prop) (E:Value->Shared->Prop),Ok C n sc δ A B env X s.heap ->
  (∀fl s',rN env s s'->PR C n sc A B env X out fl s'->Q fl s')->wpAny C.M A (execs ss env) Q E s
structure rO(C:Cx)(n:Nat)(sc:Scope)(δ:List (Str×D))(st:Stmt)(out:QK):Prop where
 go :
 ∀(A:Around) (B:Heap) (env:Env) (X:Addr->Prop) (s:Shared) (Q:Flow->Shared->Prop) (E:Value->Shared->Prop),Ok C n sc δ A B env X s.heap ->
  (∀fl s',rN env s s'->PR C n sc A B env X out fl s'->Q fl s')->wpAny C.M A (exec st env) Q E s
structure Fn(C:Cx)(n:Nat)(f:Addr)(ds:List D)(d:D):Prop where
 go :
 ∀(A:Around) (X:Addr->Prop) (s:Shared) (vs:List Value) (Q:Value->Shared->Prop) (E:Value->Shared->Prop),Rm n A->tY A s.heap->EO X s.heap->Gl C s.heap->C.I.inv s.heap->(∀a,C.I.lst a->X a)->dI X s.heap vs ds ->
  (∀v s',Keeps s s'->Rd X s'.heap v d->Q v s')->wpAny C.M A (call (.ref f) vs) Q E s
structure QL(C:Cx)(n:Nat)(f:Addr)(args:List Value->Args)(ds:List D)(d:D):Prop where
 go :
 ∀(A:Around) (X:Addr->Prop) (s:Shared) (vs:List Value) (Q:Value->Shared->Prop) (E:Value->Shared->Prop),Rm n A->tY A s.heap->EO X s.heap->Gl C s.heap->C.I.inv s.heap->(∀a,C.I.lst a->X a)->dI X s.heap vs ds ->
  (∀v s',Keeps s s'->Rd X s'.heap v d->Q v s')->wpAny C.M A (call (.ref f) (args vs).pos (args vs).kw) Q E s
theorem Rm.le{n m:Nat}{A:Around}(r:Rm n A)(h:m<=n):Rm m A:=⟨by have:=r.d;lia,by have:=r.u;lia,λq=>r.hn (by exact Nat.lt_of_lt_of_le (by assumption) (by assumption))⟩
section
variable{C:Cx}{n:Nat}{sc:Scope}{δ:List (Str×D)}
theorem bQ:Ex C n sc δ [] (.nxt δ):=by
 refine⟨?_⟩
 intro A B env X s Q E O h
 exact wpAny_execs_nil (h _ _ (.of_keeps (aE s)) ⟨rfl,O⟩)
theorem bD{st:Stmt}{rest:List Stmt}{δ':List (Str×D)}{out:QK}(h1:rO C n sc δ st (.nxt δ'))(h2:Ex C n sc δ' rest out):Ex C n sc δ (st::rest) out:=by
 refine⟨?_⟩
 intro A B env X s Q E O h
 refine wpAny_execs_cons (h1.go A B env X s _ _ O λfl s1 k1 o1=>?_)
 obtain rfl|O1:=bW o1
 exact h2.go A B env X s1 _ _ O1 λfl s2 k2 o2=>h fl s2 (k1.trans k2) o2
theorem bV{st:Stmt}{rest:List Stmt}{d:D}(h1:rO C n sc δ st (.ret d)):Ex C n sc δ (st::rest) (.ret d):=by
 refine⟨?_⟩
 intro A B env X s Q E O h
 refine wpAny_execs_cons (h1.go A B env X s _ _ O λfl s1 k1 o1=>?_)
 obtain v|rfl|r:=aL o1
 exact h _ s1 k1 ⟨v,rfl,r⟩
theorem pD{ss:List Stmt}{δ' δ'':List (Str×D)}(h:Ex C n sc δ ss (.nxt δ'))(k:∀x d,δ''.lookup x=some d->δ'.lookup x=some d):Ex C n sc δ ss (.nxt δ'') :=
 ⟨λA B env X s Q E O hq=>h.go A B env X s Q E O λfl s' k' ⟨e,O'⟩=>hq fl s' k' ⟨e,O'.sub k⟩⟩
theorem bO{e:PySem.Expr}{pos:Pos}{d:D}(he:Ev C n sc δ e d):rO C n sc δ (.Return (some e) pos) (.ret d):=by
 refine⟨?_⟩
 intro A B env X s Q E O h
 exact wpAny_Return_some (he.go A B env X s _ _ O λv s1 k1 r1=>h _ s1 (.of_keeps k1) ⟨v,rfl,r1⟩)
theorem uW{x:Str}{p pos:Pos}{e:PySem.Expr}{d:D}{k:NameKind}(he:Ev C n sc δ e d)(hk:sc.names.lookup x=some k)(hkk:k=.local\/k=.cell)
 (hsw:∀env,env.scope=sc->swapsWith e (some (.Name x p)) pos.line env=pure false):rO C n sc δ (.Assign [.Name x p] e pos) (.nxt ((x,d)::δ)):=by
 refine⟨?_⟩
 intro A B env X s Q E O h
 refine wpAny_Assign_Name (he.go A B env X s _ _ O λv s1 k1 r1=>?_) (hsw env (let ⟨_,F,_⟩:=O.st;F.scope))
 exact (O.on k1).store r1 hk hkk λh' tk O' F' _ _=>h _ _ ((rN.of_keeps k1).trans ⟨h',tk,rfl,F'⟩) ⟨rfl,O'⟩
theorem bZ{test:PySem.Expr}{body orelse:List Stmt}{pos:Pos}{b:Bool}{out:QK}(ht:Ts C n sc δ test b)(hb:Ex C n sc δ (if b then body else orelse) out):rO C n sc δ (.If test body orelse pos) out:=by
 refine⟨?_⟩
 intro A B env X s Q E O h
 refine wpAny_If (ht.go A B env X s _ _ O λs1 k1=>?_)
 cases b with
 | true=>rw[if_pos rfl] at hb ⊢;exact hb.go A B env X s1 _ _ (O.on k1) λfl s2 k2 o2=>h fl s2 ((rN.of_keeps k1).trans k2) o2
 | false=>rw[if_neg Bool.false_ne_true] at hb ⊢;exact hb.go A B env X s1 _ _ (O.on k1) λfl s2 k2 o2=>h fl s2 ((rN.of_keeps k1).trans k2) o2
theorem kY(k:Str->Option NameKind):∀(binds:List (Str×Value)) (m:Str->Option Value) (x:Str),(binds.map (·.1)).Nodup->bindL k binds m x=match binds.lookup x with | some v=>if k x=some .local then some v else m x | none=>m x
 | [],m,x,_=>rfl
 | (y,v)::r,m,x,nd=>by
  rw[List.map_cons,List.nodup_cons] at nd
  unfold bindL
  rwa[kY k r _ x nd.2,List.lookup_cons]
  by_cases e:(x==y)=true
  . have:x=y:=by simpa using e
    subst this
    have hr:r.lookup x=none:=by
     rw[List.lookup_eq_none_iff]
     intro p hp
     have:x≠p.1:=λq=>nd.1 (List.mem_map.mpr ⟨p,hp,q.symm⟩)
     simpa using this
    rwa[hr];simp only[e]
    by_cases kl:k x=some .local
    . simp[kl]
    . simp[kl]
  . simp only[Bool.not_eq_true] at e
    have ne:x≠y:=by simpa using e
    simp only[e]
    cases r.lookup x with
    | none=>by_cases kl:k y=some .local<;>simp[kl,ne]
    | some v'=>by_cases kx:k x=some .local<;>by_cases kl:k y=some .local<;>simp[kl,kx,ne]
theorem mJ(k:Str->Option NameKind):∀(binds:List (Str×Value)) (m:Str->Option Value) (x:Str),(binds.map (·.1)).Nodup->bindC k binds m x=match binds.lookup x with | some v=>if k x=some .local then m x else some v | none=>m x
 | [],m,x,_=>rfl
 | (y,v)::r,m,x,nd=>by
  rw[List.map_cons,List.nodup_cons] at nd
  unfold bindC
  rwa[mJ k r _ x nd.2,List.lookup_cons]
  by_cases e:(x==y)=true
  . have:x=y:=by simpa using e
    subst this
    have hr:r.lookup x=none:=by
     rw[List.lookup_eq_none_iff]
     intro p hp
     have:x≠p.1:=λq=>nd.1 (List.mem_map.mpr ⟨p,hp,q.symm⟩)
     simpa using this
    rwa[hr];simp only[e]
    by_cases kl:k x=some .local
    . simp[kl]
    . simp[kl]
  . simp only[Bool.not_eq_true] at e
    have ne:x≠y:=by simpa using e
    simp only[e]
    cases r.lookup x with
    | none=>by_cases kl:k y=some .local<;>simp[kl,ne]
    | some v'=>by_cases kx:k x=some .local<;>by_cases kl:k y=some .local<;>simp[kl,kx,ne]
theorem iL{X:Addr->Prop}{h:Heap}:∀{names:List Str} {vs:List Value} {ds:List D},dI X h vs ds->∀{x:Str} {d:D},(names.zip ds).lookup x=some d->∃v,(names.zip vs).lookup x=some v/\Rd X h v d
 | [],_,_,_,_,_,e=>by trivial
 | y::names,_,_,.nil,_,_,e=>by trivial
 | y::names,_,_,.cons hd tl,x,d,e=>by
  rw[List.zip_cons_cons,List.lookup_cons] at e ⊢
  split at e
  . obtain rfl:=Option.some.inj e;exact⟨_,rfl,hd⟩
  . exact iL tl e
theorem mK:∀{l:List (Str×Addr)},l.Pairwise (λx y=>x.2≠y.2)->∀{x y:Str} {c:Addr},(x,c)∈l->(y,c)∈l->x=y
 | [],_,_,_,_,h,_=>by cases h
 | p::r,pw,x,y,c,h1,h2=>by
  rw[List.pairwise_cons] at pw
  cases h1 with
  | head=>cases h2 with
   | head=>rfl
   | tail _ h2=>exact (pw.1 (y,c) h2 rfl).elim
  | tail _ h1=>cases h2 with
   | head=>exact (pw.1 (x,c) h1 rfl).elim
   | tail _ h2=>exact mK pw.2 h1 h2
theorem bT:∀{l:List (Str×Addr)} {x:Str} {c:Addr},l.lookup x=some c->(x,c)∈l
 | [],_,_,h=>by injection h
 | (y,k)::r,x,c,h=>by
  rw[List.lookup_cons] at h
  split at h
  . rename_i e
    obtain rfl:=Option.some.inj h
    have:x=y:=by simpa using e
    subst this;exact .head _
  . exact .tail _ (bT h)
theorem nW:∀(names:List Str) (vs:List Value),(names.zip vs).map (·.1)=names.take vs.length
 | [],_=>by simp
 | _::_,[]=>rfl
 | y::r,v::t=>by rwa[List.zip_cons_cons,List.map_cons,nW r t];rfl
theorem DG{f:Addr}{args:List Value->Args}{ob:Obj}{fd:FuncData}{body:List Stmt}{names:List Str}{ds:List D}{d:D}
 (hK:C.K.lookup f=some ob) (hd:ob.data=.func fd) (hcode:codeIn C.K fd.code fd.qualname=true) (hbody:fd.body=.stmts body) (hcl:fd.closure=[]) (hg:fd.globals=mainGlobals) (hb:fd.builtins=builtinsNs)
 (hco:fd.scope.isCoroutine=false) (hgen:fd.scope.isGenerator=false) (hk:fd.scope.kind=.function)
 (hbind:∀vs:List Value,vs.length=ds.length->∀(A:Around) (s:Shared) (Q:List (Str×Value)->Shared->Prop) (E:Value->Shared->Prop),C.K.In s.heap->Q (names.zip vs) s->wpAny C.M A (bindArgs fd (args vs)) Q E s) (hnd:names.Nodup)
 (hnames:∀x∈names,fd.scope.names.lookup x=some .local\/fd.scope.names.lookup x=some .cell) (hfree:∀x∈fd.scope.names,x.2≠.free)
 (h:Ex C n fd.scope (names.zip ds) body (.ret d)):QL C (n+1) f args ds d:=by
 refine⟨?_⟩
 intro A X s vs Q E rm ho xo G iv ox r hQ
 have hlen:=r.length
 have cellsOf:∀{m:Nat} {x:Str},fd.scope.names.lookup x=some .cell->((cellsFrom m fd.scope.names []).lookup x).isSome=true:=λhx=>cellsFrom_some _ _ _ (.inl hx)
 refine wpAny_call (codeAny_call_function (o:=ob) (by have:=rm.d;show A.depth<1000;lia) (G.k _ _ hK) hd hco hgen hbody (codeRec_of G.k hcode) ?_)
 rwa[hcl,hg,hb]
 have mem_zip:∀x∈names.zip vs,x.1∈names:=λx hx=>(List.of_mem_zip hx).1
 refine hbind vs hlen _ _ _ _ G.k (wpAny_newFunctionEnv_cells hk (λx hx=>(hnames x.1 (mem_zip x hx)).imp id λq=>⟨q,cellsOf q⟩) λenv henv s1 ic=>⟨?_,?_⟩)
 . exact G.nl.keeps ic.toInCall.keep
 rcases mF ic.toInCall.same with h1|tk1|rfl
 have k1:∀b o,s.heap.get? b=some o->h1.get? b=some o:=ic.toInCall.keep
 have eL:env.locals=s.heap.objs.size:=by rwa[henv];rfl
 have eC:env.cells=cellsFrom (s.heap.objs.size+1) fd.scope.names []:=by rwa[henv];rfl
 have eS:env.scope=fd.scope:=by rwa[henv];rfl
 have eG:env.globals=mainGlobals:=by rwa[henv];rfl
 have eB:env.builtins=builtinsNs:=by rwa[henv];rfl
 have kO:∀x,env.kindOf x=fd.scope.names.lookup x:=λx=>by unfold Env.kindOf;rwa[eS];rfl
 have nd:((names.zip vs).map (·.1)).Nodup:=by
  have:(names.zip vs).map (·.1)=names.take vs.length:=nW names vs
  rwa[this];exact hnd.sublist (List.take_sublist _ _)
 have off:∀c,s.heap.objs.size<=c->s.heap.get? c=none:=λc hc=>by
  cases q:s.heap.get? c with
  | none=>rfl
  | some o=>exact absurd (Nat.lt_of_lt_of_le (Heap.lt_size q) hc) (Nat.lt_irrefl _)
 have cOff:∀x c,env.cells.lookup x=some c->s.heap.get? c=none:=λx c e=>off c (by have q:=ic.above x c (bT e);replace q:=eL▸q;exact Nat.le_of_lt q)
 have nown:∀c,s.heap.get? c=none->¬C.I.own c:=λc e ob=>by
  rcases aU (C.I.dom _ _ iv ob) with o|q
  injection tq e q
 have O1:Ok C n fd.scope (names.zip ds) (A.deeper env) s.heap env X h1:=by
  refine⟨⟨?_,?_,λq=>rm.hn (by exact Nat.le_succ_of_le (by assumption))⟩,?_,xo.keeps k1,C.I.at_ _ _ iv λb o _ e=>k1 b o e,ox,λx=>if fd.scope.names.lookup x=some .local then bindL env.kindOf (names.zip vs) (λ_=>none) x else bindC env.kindOf (names.zip vs) (λ_=>none) x,?_,λx dd e=>?_⟩
  . have:=rm.d;show A.depth+1+2*n<720;lia
  . have:=rm.u;show A.units+3+8*n<9000;lia
  . exact ho.keeps k1
  . refine⟨⟨G,k1,⟨by rwa[eL];exact aN,λob=>nown _ (by rwa[eL];exact aN) ob⟩,λx c e=>⟨cOff x c e,λob=>nown _ (cOff x c e) ob⟩⟩,eS,hk,eG,eB,⟨_,ic.toInCall.ns,λx hx=>by rwa[if_pos hx];rfl⟩,λx hx=>?_,λx y c e1 e2=>mK ic.apart (bT e1) (bT e2),λx c e=>⟨_,ic.cell x c e⟩⟩
    rcases hx with hx | hx
    . rcases aU (Option.isSome_iff_exists.mp (cellsOf (m:=s.heap.objs.size+1) hx)) with c|hc
      refine⟨c,by rwa[eC];exact hc,?_⟩
      rwa[if_neg (by refine zl hx ?_;intro q;cases q)]
      exact ic.cell x c (by rwa[eC];exact hc)
    . exact absurd rfl (hfree _ (eW hx))
  . rcases aL (iL r e) with v|e1|r1
    refine⟨v,?_,r1.keeps k1⟩
    dsimp only
    rwa[kY _ _ _ _ nd,mJ _ _ _ _ nd,e1]
    by_cases q:fd.scope.names.lookup x=some .local
    . simp[q,kO]
    . simp[q,kO]
 refine codeAny_func (h.go (A.deeper env) s.heap env X _ _ _ O1 λfl s2 k2 o2=>?_)
 obtain v|rfl|r2:=aL o2
 obtain h2|tk2|rfl|k2:=dZ k2
 refine hQ v _ ⟨h2,tk2,rfl,λb o e=>k2 b o (λz=>?_) (λx z=>?_) (k1 b o e)⟩ r2
 . replace e:=aN▸eL▸z▸e;injection e
 . injection tq (cOff x b z) e
theorem QM{f:Addr}{ob:Obj}{fd:FuncData}{body:List Stmt}{names:List Str}{ds:List D}{d:D}
 (hK:C.K.lookup f=some ob) (hd:ob.data=.func fd) (hcode:codeIn C.K fd.code fd.qualname=true) (hbody:fd.body=.stmts body) (hcl:fd.closure=[]) (hg:fd.globals=mainGlobals) (hb:fd.builtins=builtinsNs)
 (hco:fd.scope.isCoroutine=false) (hgen:fd.scope.isGenerator=false) (hk:fd.scope.kind=.function)
 (hbind:∀vs:List Value,vs.length=ds.length->bindArgs fd ⟨vs,[]⟩=pure (names.zip vs)) (hnd:names.Nodup)
 (hnames:∀x∈names,fd.scope.names.lookup x=some .local\/fd.scope.names.lookup x=some .cell) (hfree:∀x∈fd.scope.names,x.2≠.free)
 (h:Ex C n fd.scope (names.zip ds) body (.ret d)):Fn C (n+1) f ds d :=
 ⟨(DG (args:=λvs=>⟨vs,[]⟩) hK hd hcode hbody hcl hg hb hco hgen hk (λvs e A s Q E _ q=>by rwa[hbind vs e];exact wpAny_pure q) hnd hnames hfree h).go⟩
end
structure Bi(C:Cx)(n:Nat)(id:String)(ds:List D)(d:D):Prop where
 go :
 ∀(A:Around) (X:Addr->Prop) (s:Shared) (vs:List Value) (Q:Value->Shared->Prop) (E:Value->Shared->Prop),Rm n A->tY A s.heap->EO X s.heap->Gl C s.heap->dI X s.heap vs ds ->
  (∀v s',Keeps s s'->Rd X s'.heap v d->Q v s')->wpAny C.M A (call (.builtin id) vs) Q E s
section
variable{C:Cx}{n:Nat}{sc:Scope}{δ:List (Str×D)}
theorem cA{x:Str}{pos:Pos}{v:Value}{A:Around}{B:Heap}{env:Env}{X:Addr->Prop}{s:Shared}{Q:Value->Shared->Prop}{E:Value->Shared->Prop}(O:Ok C n sc δ A B env X s.heap)(hk:sc.names.lookup x=some .globalImplicit)(hg:C.mg x=some v)
 (hd:(x==("__debug__":Str))=false) (h:Q v s):wpAny C.M A (eval (.Name x pos) env) Q E s:=by
 rcases aL O.st with ρ|F|V
 refine wpAny_Name ?_ hd
 rwa[loadName_read (by refine zl F.scope ?_;exact F.kind) (by unfold Env.kindOf;refine zl F.scope ?_;exact hk)]
 exact loadGlobal_global (mg:=C.mg) (by rwa[F.globals];exact F.gl.g) hg h
theorem cC{x:Str}{pos:Pos}{v:Value}{A:Around}{B:Heap}{env:Env}{X:Addr->Prop}{s:Shared}{Q:Value->Shared->Prop}{E:Value->Shared->Prop}(O:Ok C n sc δ A B env X s.heap)(hk:sc.names.lookup x=some .globalImplicit)(hg:C.mg x=none)(hb:C.mb x=some v)
 (hd:(x==("__debug__":Str))=false) (h:Q v s):wpAny C.M A (eval (.Name x pos) env) Q E s:=by
 rcases aL O.st with ρ|F|V
 refine wpAny_Name ?_ hd
 rwa[loadName_read (by refine zl F.scope ?_;exact F.kind) (by unfold Env.kindOf;refine zl F.scope ?_;exact hk)]
 exact loadGlobal_builtin (mg:=C.mg) (mb:=C.mb) (by rwa[F.globals];exact F.gl.g) hg (by rwa[F.builtins];exact F.gl.b) hb h
theorem NF{f:Str}{np pos:Pos}{a:PySem.Expr}{as:List PySem.Expr}{ds:List D}{d:D}{fa:Addr}{ob:Obj}{fd:FuncData}(hk:sc.names.lookup f=some .globalImplicit)(hg:C.mg f=some (.ref fa))(hd:(f==("__debug__":Str))=false)
 (hK:C.K.lookup fa=some ob) (hfd:ob.data=.func fd) (ha:uT C n sc δ (a::as) ds) (hf:Fn C n fa ds d) (hst:∀env,starEach (a::as) env=(false,eval a env)::starEach as env:=by intro _;rfl) :
 Ev C n sc δ (.Call (.Name f np) (a::as) [] pos) d:=by
 refine⟨?_⟩
 intro A B env X s Q E O h
 refine wpAny_Call_ofName (cA O hk hg hd ?_)
 refine callWith_function (o:=ob) (fd:=fd) ?_
 have e:backTo pos (starEach (a::as) env)=(false,eval a env)::backTo pos (starEach as env):=by rwa[hst ..];rfl
 have hA:=ha.go A B env X pos s
 rw[e] at hA ⊢
 refine evalArgs_plain (hA _ _ O λvs s1 k1 r1=>?_)
 have O1:=O.on k1
 refine⟨⟨O1.gl.k _ _ hK,hfd⟩,?_⟩
 exact hf.go A X s1 _ _ _ O1.rm O1.ho O1.xo O1.gl O1.iv O1.ox r1 λv s2 k2 r2=>h v s2 (aB k1 k2) r2
theorem cP{f:Str}{np pos:Pos}{a:PySem.Expr}{as:List PySem.Expr}{ds:List D}{d:D}{id:String}(hk:sc.names.lookup f=some .globalImplicit)(hg:C.mg f=none)(hb:C.mb f=some (.builtin id))(hd:(f==("__debug__":Str))=false)
 (ha:uT C n sc δ (a::as) ds) (hf:Bi C n id ds d) (hst:∀env,starEach (a::as) env=(false,eval a env)::starEach as env:=by intro _;rfl) (hp:∀pos env,(backTo pos (starEach (a::as) env)).any (·.1)=false:=by intro _ _;rfl) :
 Ev C n sc δ (.Call (.Name f np) (a::as) [] pos) d:=by
 refine⟨?_⟩
 intro A B env X s Q E O h
 refine wpAny_Call_ofName (cC O hk hg hb hd ?_)
 refine callWith_builtin (hp pos env) ?_
 have e:backTo pos (starEach (a::as) env)=(false,eval a env)::backTo pos (starEach as env):=by rwa[hst ..];rfl
 have hA:=ha.go A B env X pos s
 rw[e] at hA ⊢
 refine evalArgs_plain (hA _ _ O λvs s1 k1 r1=>?_)
 have O1:=O.on k1
 exact hf.go A X s1 _ _ _ O1.rm O1.ho O1.xo O1.gl r1 λv s2 k2 r2=>h v s2 (aB k1 k2) r2
theorem mL{o a:PySem.Expr}{as:List PySem.Expr}{name:Str}{apos pos:Pos}{x:Str}{ds:List D}{d:D}{id:String}(ho:Ev C n sc δ o (.str x))(ha:uT C n sc δ (a::as) ds)(hf:Bi C n id (.str x::ds) d)
 (hP:PlainAttrs "str") (hS:Slot "str" name id) (hT:typeOf (.builtin id)=pure (.type "method_descriptor")) (hl:(apos.endLine==pos.line)=true)
 (hab:∀env,attributeBase o name env (eval o env)=eval o env:=by intro _;rfl)
 (hst:∀env,starEach (a::as) env=(false,eval a env)::starEach as env:=by intro _;rfl) (hp:∀pos env,(backTo pos (starEach (a::as) env)).any (·.1)=false:=by intro _ _;rfl)
 (hall:∀pos env,(((backTo pos (starEach (a::as) env)).all λx=>!x.1)&&((backToKw pos (keywordEach [] env)).all λx=>x.1.isSome)&&decide ((a::as).length+([]:List Keyword).length+(if ([]:List Keyword).isEmpty=true then 0 else 1)<30))=true:=by intro _ _;rfl) :
 Ev C n sc δ (.Call (.Attribute o name apos) (a::as) [] pos) d:=by
 refine⟨?_⟩
 intro A B env X s Q E O h
 refine wpAny_Call_method (hab env) (hall pos env) hl hP hS hT (ho.go A B env X s _ _ O λv s1 k1 r1=>?_)
 (obtain _|rfl:=aU (bN r1))
 refine⟨rfl,λa e=>(by injection e),?_⟩
 refine callWith_builtin (hp pos env) ?_
 have e:backTo pos (starEach (a::as) env)=(false,eval a env)::backTo pos (starEach as env):=by rwa[hst ..];rfl
 have O1:=O.on k1
 have hA:=ha.go A B env X pos s1
 rw[e] at hA ⊢
 refine evalArgs_plain (hA _ _ O1 λvs s2 k2 r2=>?_)
 have O2:=O1.on k2
 exact hf.go A X s2 _ _ _ O2.rm O2.ho O2.xo O2.gl (.cons (.str _ _) r2) λv s3 k3 r3=>h v s3 (aB k1 (aB k2 k3)) r3
theorem dC{ds:List D}(hz:ds.length<=sizeLine):Bi C n "len" [.list ds] (.int ds.length):=by
 refine⟨?_⟩
 intro A X s vs Q E _ _ _ _ r h
 obtain _|_|r1|r|rfl:=iG (aR r)
 obtain rfl:=bJ r
 obtain a|ws|hX|hl|hr|rfl:=qC (cK r1)
 have e:=hr.length
 have hz':ds.length<=2 ^ 24:=hz
 refine len_list hl.isList (by simp;lia) (h _ _ aV ?_)
 have:((ws.toArray.size:Nat):Int)=(ds.length:Int):=by simp[e]
 rwa[this];exact .int _ _
theorem IK{x y:Str}:Bi C n "str.count" [.str x,.str y] (.int (Txt.count x y)):=by
 refine⟨?_⟩
 intro A X s vs Q E _ _ _ _ r h
 obtain _|_|r1|r|rfl:=iG (aR r)
 obtain _|_|r2|r|rfl:=iG (aR r)
 obtain rfl:=bJ r;(obtain _|rfl:=aU (bN r1));(obtain _|rfl:=aU (bN r2));exact SC.count (h _ _ aV (.int _ _))
theorem sI{X:Addr->Prop}{h:Heap}:∀{vs:List Value} {ys:List Str},dI X h vs (ys.map .str)->StrsAre vs ys
 | _,[],r=>by obtain rfl:=bJ r;exact .nil
 | _,y::ys,r=>by
  obtain _|_|r1|r|rfl:=iG (aR r)
  (obtain _|rfl:=aU (bN r1));exact .cons _ _ (sI r)
theorem vV{x:Str}{ys:List Str}(hok:(ys.map (·.length)).sum+ys.length*x.length<=16777216):Bi C n "str.join" [.str x,.list (ys.map .str)] (.str (Txt.join x ys)):=by
 refine⟨?_⟩
 intro A X s vs Q E _ _ _ _ r h
 obtain _|_|r1|r|rfl:=iG (aR r)
 obtain _|_|r2|r|rfl:=iG (aR r)
 obtain rfl:=bJ r;(obtain _|rfl:=aU (bN r1))
 obtain a|ws|hX|hl|hr|rfl:=qC (cK r2)
 exact join_list hl.isList (by simpa using sI hr) hok λ_ _=>h _ _ aV (.str _ _)
theorem cY{v i:PySem.Expr}{pos:Pos}{ds:List D}{k:Int}{d:D}(hv:Ev C n sc δ v (.list ds))(hi:Ev C n sc δ i (.int k))(h0:0<=k)(hx:ds[k.toNat]?=some d)(h1:k<2 ^ 63)
 (hs:∀(l:Addr) (t:Tok),subscripted i false (.ref l) (.int k t)=operate [.ref l,.int k t] (getItem (.ref l) (.int k t)):=by intro _ _;with_unfolding_all rfl):Ev C n sc δ (.Subscript v i pos) d:=by
 refine⟨?_⟩
 intro A B env X s Q E O h
 refine Subscript_ (hv.go A B env X s _ _ O λa s1 k1 r1=>?_)
 refine hi.go A B env X s1 _ _ (O.on k1) λb s2 k2 r2=>?_
 (obtain _|rfl:=aU (bF r2))
 obtain l|ws|hX|hl|hr|rfl:=qC (cK r1)
 rcases aL (hr.get hx) with w|e1|r
 have hl2:s2.heap.PlainList l ws.toArray:=let ⟨nn,e⟩:=hl;⟨nn,bC k2 _ _ e⟩
 refine tail_any hl2.isList.typeIs slot_list_getitem.lookup (wpAny_getItem_list hl2.isList h0 h1 (by simpa using e1) ?_) (hs _ _)
 exact h w s2 (aB k1 k2) (r.on k2)
theorem pF{X:Addr->Prop}{s3:Shared}{l:Addr}{ws:List Value}{ds:List D}{vl vu:Value}{items:List Value}(xo:EO X s3.heap)(r:dI X s3.heap items ds) :
 Keeps s3 {s3 with heap:=(s3.heap.push {cls:=.type "slice",data:=.fields #[vl,vu,.none]}).push {cls:=.type "list",data:=.seq items.toArray}} /\
 Rd X ((s3.heap.push {cls:=.type "slice",data:=.fields #[vl,vu,.none]}).push {cls:=.type "list",data:=.seq items.toArray}) (.ref (s3.heap.objs.size+1)) (.list ds):=by
 have k0:∀b o,s3.heap.get? b=some o->(s3.heap.push {cls:=.type "slice",data:=.fields #[vl,vu,.none]}).get? b=some o:=λb o e=>Heap.get?_push_of_some _ e
 obtain⟨hp,hhp⟩:∃hp,hp=s3.heap.push {cls:=.type "slice",data:=.fields #[vl,vu,.none]}:=⟨_,rfl⟩
 have sz:s3.heap.objs.size+1=hp.objs.size:=by rwa[hhp,Heap.size_push ..];rfl
 rw[←hhp] at k0 ⊢
 rcases bW (jJ (s:={s3 with heap:=hp}) (xo.keeps k0) (r.keeps k0) 0) with kk|rr
 rwa[sz]
 exact⟨aB ⟨hp,s3.toks,rfl,k0⟩ kk,rr⟩
theorem rX{v lo:PySem.Expr}{p pos:Pos}{ds:List D}{a:Nat}(hv:Ev C n sc δ v (.list ds))(hl:Ev C n sc δ lo (.int (a:Int)))(hz:ds.length<=sizeLine)(hg:∀(o r:Value),letTemporaryGo v o r=pure ():=by intro _ _;rfl) :
 Ev C n sc δ (.Subscript v (.Slice (some lo) none none p) pos) (.list (ds.drop a)):=by
 refine⟨?_⟩
 intro A B env X s Q E O h
 refine wpAny_Subscript_list_slice (hv.go A B env X s _ _ O λx s1 k1 r1=>?_) hg
 refine wpAny_evalPart_some (hl.go A B env X s1 _ _ (O.on k1) λy s2 k2 r2=>?_)
 refine wpAny_evalPart_none ?_
 (obtain _|rfl:=aU (bF r2))
 obtain l|ws|hX|hl|hr|rfl:=qC (cK r1)
 have hl2:s2.heap.PlainList l ws.toArray:=let ⟨nn,e⟩:=hl;⟨nn,bC k2 _ _ e⟩
 refine⟨l,ws.toArray,_,_,rfl,hl2.isList,by rwa[List.size_toArray,hr.length];exact hz,.int _ _,.none,?_⟩
 rwa[slicePick_from' ..]
 obtain⟨kk,rr⟩:=pF (s3:=s2) (l:=l) (ws:=ws) (vl:=.int (a:Int) _) (vu:=.none) (O.on (aB k1 k2)).xo ((hr.on k2).drop a)
 exact h _ _ (aB (aB k1 k2) kk) rr
theorem nX{v hi:PySem.Expr}{p pos:Pos}{ds:List D}{b:Nat}(hv:Ev C n sc δ v (.list ds))(hl:Ev C n sc δ hi (.int (b:Int)))(hz:ds.length<=sizeLine)(hg:∀(o r:Value),letTemporaryGo v o r=pure ():=by intro _ _;rfl) :
 Ev C n sc δ (.Subscript v (.Slice none (some hi) none p) pos) (.list (ds.take b)):=by
 refine⟨?_⟩
 intro A B env X s Q E O h
 refine wpAny_Subscript_list_slice (hv.go A B env X s _ _ O λx s1 k1 r1=>?_) hg
 refine wpAny_evalPart_none ?_
 refine wpAny_evalPart_some (hl.go A B env X s1 _ _ (O.on k1) λy s2 k2 r2=>?_)
 (obtain _|rfl:=aU (bF r2))
 obtain l|ws|hX|hl|hr|rfl:=qC (cK r1)
 have hl2:s2.heap.PlainList l ws.toArray:=let ⟨nn,e⟩:=hl;⟨nn,bC k2 _ _ e⟩
 refine⟨l,ws.toArray,_,_,rfl,hl2.isList,by rwa[List.size_toArray,hr.length];exact hz,.none,.int _ _,?_⟩
 rwa[slicePick_upto' ..]
 obtain⟨kk,rr⟩:=pF (s3:=s2) (l:=l) (ws:=ws) (vl:=.none) (vu:=.int (b:Int) _) (O.on (aB k1 k2)).xo ((hr.on k2).take b)
 exact h _ _ (aB (aB k1 k2) kk) rr
theorem dD{ds es:List D}(hz:ds.length+es.length<=sizeLine):DD C .Add (.list ds) (.list es) (.list (ds++es)):=by
 refine⟨?_⟩
 intro A X s va vb Q E ra rb xo _ h
 obtain a|vs|hX|hl|hr|rfl:=qC (cK ra)
 obtain b|ws|hY|hm|hs|rfl:=qC (cK rb)
 obtain n1|e1:=aU hl
 obtain n2|e2:=aU hm
 refine PySem.P.add_list e1 e2 ?_ (by simp[hr.length,hs.length];exact hz)
 rcases bW (jJ xo (hr.append hs) 0) with kk|rr
 have e:vs.toArray++ws.toArray=(vs++ws).toArray:=by simp
 rwa[e]
 exact h _ _ kk rr
theorem AT{x:Str}{k:Int}(hm:MulOk x k):DD C .Mult (.str x) (.int k) (.str (Txt.mul x k)):=by
 refine⟨?_⟩
 intro A X s va vb Q E ra rb xo _ h
 (obtain _|rfl:=aU (bN ra));(obtain _|rfl:=aU (bF rb))
 exact SB.mul hm λ_ _=>h _ _ aV (.str _ _)
end
noncomputable def D.odd:D->Bool
 | .bytes _=>true
 | .ptr _=>true
 | .ty _=>true
 | _=>false
inductive vW:Nat->List D->Prop where
 | nil {k:Nat}:vW k []
 | cons {k:Nat} {d:D} {ds:List D} (hb:d.odd=false) (hs:∀l,d=.list l->vW k l) (hl:vW (k+1) ds):vW (k+1) (d::ds)
theorem pG{k:Nat}:∀{ds:List D},vW (k+1) ds->∀{j:Nat} {d:D},ds[j]?=some d->d.odd=false/\∀l,d=.list l->vW k l
 | [],_,j,d,e=>by trivial
 | x::r,h,j,d,e=>by
  have key:(x.odd=false/\∀l,x=.list l->vW k l)/\vW (k+1) r:=by
   cases h with
   | cons s1 s2 s3=>exact⟨⟨s1,s2⟩,s3⟩
  match j,e with
  | 0,e=>exact Option.some.inj e▸key.1
  | j+1,e=>exact pG key.2 (j:=j) e
theorem IL{ds:List D}(h:vW 0 ds):ds=[]:=by cases h;rfl
theorem IN{X:Addr->Prop}{s:Shared}{A:Around}{vs ws:List Value}{ds:List D}(r1:dI X s.heap vs ds)(r2:dI X s.heap ws ds)(ih:∀{va vb:Value} {d:D},Rd X s.heap va d->Rd X s.heap vb d->(∃j:Nat,ds[j]?=some d)->SeqAt.EqAt A s va vb true){j:Nat}{v u:Value}(h1:vs[j]?=some v)(h2:ws[j]?=some u):SeqAt.EqAt A s v u true:=by
 rcases aL (r1.getV h1) with d|e1|q1
 rcases aL (r2.getV h2) with d'|e2|q2
 replace e2:=e1▸e2
 exact ih q1 (Option.some.inj e2▸q2) ⟨j,e1⟩
theorem NG{X:Addr->Prop}{s:Shared}:∀(k:Nat) {va vb:Value} {d:D} (A:Around),Rd X s.heap va d->Rd X s.heap vb d->d.odd=false->(∀l,d=.list l->vW k l)->A.units+k+1<cLine->SeqAt.EqAt A s va vb true:=by
 intro k
 induction k with
 | zero =>
  intro va vb d A r1 r2 ho sh hu
  cases d with
  | none=>rwa[jE r1,jE r2];exact .same _
  | bool b=>rwa[jW r1,jW r2];exact .same _
  | int i =>
   rcases aU (bF r1) with t|e1
   rcases aU (bF r2) with u|e2
   rwa[e1,e2];simpa using SeqAt.EqAt.int_int (A:=A) (s:=s) i t i u
  | str i =>
   rcases aU (bN r1) with t|e1
   rcases aU (bN r2) with u|e2
   rwa[e1,e2];simpa using SeqAt.EqAt.str_str (A:=A) (s:=s) i t i u
  | bytes b=>exact nomatch ho
  | ptr b=>exact nomatch ho
  | ty b=>exact nomatch ho
  | list ds =>
   rcases qC (cK r1) with a|vs|_|hl|hr|e1
   rcases qC (cK r2) with b|ws|_|hl'|hr'|e2
   rwa[e1,e2]
   by_cases e:a=b
   . rwa[e];exact .same _
   . have z:=IL (sh ds rfl)
     have R:=SeqAt.RcAt.lists (A:=A) (e:=λ_=>true) hl.isList hl'.isList (by simp only[List.size_toArray];rwa[hr.length,hr'.length];rfl) (by exact Nat.le_of_lt (by assumption)) λj h1 h2=>absurd h1 (by rwa[List.size_toArray,hr.length,z];exact Nat.not_lt_zero j)
     replace R:=(show (List.range vs.toArray.size).all (λ_=>true)=true by simp)▸R
     exact .of_refs e R
 | succ k ih =>
  intro va vb d A r1 r2 ho sh hu
  cases d with
  | none=>rwa[jE r1,jE r2];exact .same _
  | bool b=>rwa[jW r1,jW r2];exact .same _
  | int i =>
   rcases aU (bF r1) with t|e1
   rcases aU (bF r2) with u|e2
   rwa[e1,e2];simpa using SeqAt.EqAt.int_int (A:=A) (s:=s) i t i u
  | str i =>
   rcases aU (bN r1) with t|e1
   rcases aU (bN r2) with u|e2
   rwa[e1,e2];simpa using SeqAt.EqAt.str_str (A:=A) (s:=s) i t i u
  | bytes b=>exact nomatch ho
  | ptr b=>exact nomatch ho
  | ty b=>exact nomatch ho
  | list ds =>
   rcases qC (cK r1) with a|vs|_|hl|hr|e1
   rcases qC (cK r2) with b|ws|_|hl'|hr'|e2
   rwa[e1,e2]
   by_cases e:a=b
   . rwa[e];exact .same _
   . have R:=SeqAt.RcAt.lists (A:=A) (e:=λ_=>true) hl.isList hl'.isList (by simp only[List.size_toArray];rwa[hr.length,hr'.length];rfl) (by lia) λj h1 h2=>IN (A:=A.in1) (j:=j) hr hr' (λq1 q2 ⟨i,e⟩=>ih A.in1 q1 q2 (pG (sh ds rfl) e).1 (pG (sh ds rfl) e).2 (by show A.units+1+k+1<cLine;rwa[Nat.add_right_comm A.units 1 k];exact hu)) (by simpa using Array.getElem?_eq_getElem h1) (by simpa using Array.getElem?_eq_getElem h2)
     replace R:=(show (List.range vs.toArray.size).all (λ_=>true)=true by simp)▸R
     exact .of_refs e R
structure Cm(C:Cx)(n:Nat)(op:CmpOp)(a b:D)(c:Bool):Prop where
 go :
 ∀(A:Around) (X:Addr->Prop) (s:Shared) (va vb:Value) (Q:Value->Shared->Prop) (E:Value->Shared->Prop),Rm n A->Rd X s.heap va a->Rd X s.heap vb b->EO X s.heap->Gl C s.heap ->
  (∀s',Keeps s s'->Q (.bool c) s')->wpAny C.M A (compareOp op va vb) Q E s
section
variable{C:Cx}{n:Nat}{sc:Scope}{δ:List (Str×D)}
theorem Rm.cl{A:Around}(r:Rm n A):A.units+900<cLine:=by have:=r.u;unfold cLine;lia
theorem NH{d:D}(hb:d.odd=false)(hs:∀l,d=.list l->vW 8 l):Cm C n .Eq d d true:=by
 refine⟨?_⟩
 intro A X s va vb Q E rm ra rb _ _ h
 have hu:=rm.cl
 cases d with
 | none=>rwa[jE ra,jE rb];exact SeqAt.RcAt.none_none C.prog C.w E Q (h s (aE s))
 | bool b=>rwa[jW ra,jW rb];have:=SeqAt.RcAt.bool_bool (A:=A) (s:=s) b b;simp at this;exact this C.prog C.w E Q (h s (aE s))
 | int i =>
  rcases aU (bF ra) with t|e1
  rcases aU (bF rb) with u|e2
  rwa[e1,e2];exact PyProof.Rows.eq_int (by simpa using h s (aE s))
 | str i =>
  rcases aU (bN ra) with t|e1
  rcases aU (bN rb) with u|e2
  rwa[e1,e2];exact PyProof.Rows.eq_str (by simpa using h s (aE s))
 | bytes b=>exact nomatch hb
 | ptr b=>exact nomatch hb
 | ty b=>exact nomatch hb
 | list ds =>
  rcases qC (cK ra) with a|vs|_|hl|hr|e1
  rcases qC (cK rb) with b|ws|_|hl'|hr'|e2
  rwa[e1,e2]
  have R:=SeqAt.RcAt.lists (A:=A) (e:=λ_=>true) hl.isList hl'.isList (by simp only[List.size_toArray];rwa[hr.length,hr'.length];rfl) (by exact Nat.lt_of_le_of_lt (Nat.le_add_right ..) (by assumption)) λj h1 h2=>IN (A:=A.in1) (j:=j) hr hr' (λq1 q2 ⟨i,e⟩=>NG 7 A.in1 q1 q2 (pG (hs ds rfl) e).1 (pG (hs ds rfl) e).2 (by show A.units+1+7+1<cLine;lia)) (by simpa using Array.getElem?_eq_getElem h1) (by simpa using Array.getElem?_eq_getElem h2)
  replace R:=(show (List.range vs.toArray.size).all (λ_=>true)=true by simp)▸R
  exact R C.prog C.w E Q (h s (aE s))
theorem qD{ds:List D}:Cm C n .Eq (.list ds) (.list []) ds.isEmpty:=by
 refine⟨?_⟩
 intro A X s va vb Q E rm ra rb _ _ h
 have hu:=rm.cl
 obtain a|vs|_|hl|hr|rfl:=qC (cK ra)
 obtain b|ws|_|hl'|hr'|rfl:=qC (cK rb)
 obtain rfl:=bJ hr'
 have e1:=hr.length
 cases ds with
 | nil =>
  obtain rfl:=bJ hr
  have R:=SeqAt.RcAt.lists (A:=A) (e:=λ_=>true) hl.isList hl'.isList rfl (by exact Nat.lt_of_le_of_lt (Nat.le_add_right ..) (by assumption)) λj h1 h2=>absurd h1 (by simp)
  exact R C.prog C.w E Q (h s (aE s))
 | cons d ds =>
  exact SeqAt.RcAt.lists_lengths (A:=A) hl.isList hl'.isList (by simp;intro q;subst q;simp at e1) (by exact Nat.lt_of_le_of_lt (Nat.le_add_right ..) (by assumption)) C.prog C.w E Q (h s (aE s))
theorem ET{ds:List D}:Cm C n .NotEq (.list ds) (.list []) (!ds.isEmpty):=by
 refine⟨?_⟩
 intro A X s va vb Q E rm ra rb _ _ h
 have hu:=rm.cl
 obtain a|vs|_|hl|hr|rfl:=qC (cK ra)
 obtain b|ws|_|hl'|hr'|rfl:=qC (cK rb)
 obtain rfl:=bJ hr'
 have e1:=hr.length
 cases ds with
 | nil =>
  obtain rfl:=bJ hr
  have R:=SeqAt.RcNeAt.lists (A:=A) (e:=λ_=>true) hl.isList hl'.isList rfl (by exact Nat.lt_of_le_of_lt (Nat.le_add_right ..) (by assumption)) λj h1 h2=>absurd h1 (by simp)
  exact R C.prog C.w E Q (h s (aE s))
 | cons d ds =>
  exact SeqAt.RcNeAt.lists_lengths (A:=A) hl.isList hl'.isList (by simp;intro q;subst q;simp at e1) (by exact Nat.lt_of_le_of_lt (Nat.le_add_right ..) (by assumption)) C.prog C.w E Q (h s (aE s))
theorem dB{a b:Int}:Cm C n .Eq (.int a) (.int b) (a==b):=by
 refine⟨?_⟩
 intro A X s va vb Q E rm ra rb _ _ h
 (obtain _|rfl:=aU (bF ra));(obtain _|rfl:=aU (bF rb));exact PyProof.Rows.eq_int (h s (aE s))
theorem kZ{a b:Int}:Cm C n .Lt (.int a) (.int b) (decide (a<b)):=by
 refine⟨?_⟩
 intro A X s va vb Q E rm ra rb _ _ h
 (obtain _|rfl:=aU (bF ra));(obtain _|rfl:=aU (bF rb));exact PyProof.Rows.lt_int (h s (aE s))
theorem qE{a b:Int}:Cm C n .Gt (.int a) (.int b) (decide (b<a)):=by
 refine⟨?_⟩
 intro A X s va vb Q E rm ra rb _ _ h
 (obtain _|rfl:=aU (bF ra));(obtain _|rfl:=aU (bF rb));exact PyProof.Rows.gt_int (h s (aE s))
theorem cL{a b:Str}:Cm C n .Eq (.str a) (.str b) (a==b):=by
 refine⟨?_⟩
 intro A X s va vb Q E rm ra rb _ _ h
 (obtain _|rfl:=aU (bN ra));(obtain _|rfl:=aU (bN rb));exact PyProof.Rows.eq_str (h s (aE s))
theorem gM{a b:Str}:Cm C n .In (.str a) (.str b) (!(Builtin.Str.occurrences b a 0 b.length 1).isEmpty):=by
 refine⟨?_⟩
 intro A X s va vb Q E rm ra rb _ _ h
 (obtain _|rfl:=aU (bN ra));(obtain _|rfl:=aU (bN rb));exact PyProof.Rows.in_str (h s (aE s))
noncomputable def D.isNone:D->Bool
 | .none=>true
 | _=>false
theorem cH{d:D}:Cm C n .Is d .none d.isNone:=by
 refine⟨?_⟩
 intro A X s va vb Q E rm ra rb _ _ h
 obtain rfl:=jE rb
 refine is_none_gen ?_
 cases ra<;>exact h s (aE s)
theorem aH{l r:PySem.Expr}{op:CmpOp}{pos:Pos}{a b:D}{c:Bool}(hl:Ev C n sc δ l a)(hr:Ev C n sc δ r b)(hc:Cm C n op a b c)(hm:behindInMarks op r=false:=by with_unfolding_all rfl):Ts C n sc δ (.Compare l [op] [r] pos) c:=by
 refine⟨?_⟩
 intro A B env X s Q E O h
 refine wpAny_isTrue_Compare1 (hl.go A B env X s _ _ O λva s1 k1 r1=>?_) hm
 refine hr.go A B env X s1 _ _ (O.on k1) λvb s2 k2 r2=>?_
 have k:=aB k1 k2
 have O2:=O.on k
 exact hc.go A X s2 va vb _ _ O2.rm (r1.on k2) r2 O2.xo O2.gl λs3 k3=>wpAny_truthy_bool (h s3 (aB k k3))
theorem jL{pos:Pos}:Ts C n sc δ (.BoolOp .And [] pos) true:=by
 refine⟨?_⟩
 intro A B env X s Q E O h
 exact isTrue_and_nil (h s (aE s))
theorem aQ{x:PySem.Expr}{rest:List PySem.Expr}{pos:Pos}{a b:Bool}(h1:Ts C n sc δ x a)(h2:a=true->Ts C n sc δ (.BoolOp .And rest pos) b):Ts C n sc δ (.BoolOp .And (x::rest) pos) (a&&b):=by
 refine⟨?_⟩
 intro A B env X s Q E O h
 refine isTrue_and (h1.go A B env X s _ _ O λs1 k1=>?_)
 cases a with
 | false=>exact h s1 k1
 | true =>
  rwa[if_pos rfl]
  exact wpAny_mono ((h2 rfl).go A B env X s1 Q E (O.on k1) λs2 k2=>h s2 (aB k1 k2)) (λ_ _ x=>x) λ_ _ x=>x
theorem oN{x:PySem.Expr}{pos:Pos}{b:Bool}(h1:Ts C n sc δ x b):Ts C n sc δ (.UnaryOp .Not x pos) (!b):=by
 refine⟨?_⟩
 intro A B env X s Q E O h
 exact isTrue_not (h1.go A B env X s _ _ O λs1 k1=>h s1 k1)
theorem eN{e:PySem.Expr}{b:Bool}(h1:Ev C n sc δ e (.bool b))(he:∀env whole,isTrue e env whole=(do let v ←whole;standAt e.pos;holding [v] (truthy v)):=by intro _ _;rfl):Ts C n sc δ e b:=by
 refine⟨?_⟩
 intro A B env X s Q E O h
 refine isTrue_plain (h1.go A B env X s _ _ O λv s1 k1 r1=>?_) (he env _)
 obtain rfl:=jW r1
 exact wpAny_truthy_bool (h s1 k1)
theorem pH{test body orelse:PySem.Expr}{pos:Pos}{b:Bool}{d:D}(ht:Ts C n sc δ test b)(hb:Ev C n sc δ (if b then body else orelse) d):Ev C n sc δ (.IfExp test body orelse pos) d:=by
 refine⟨?_⟩
 intro A B env X s Q E O h
 refine IfExp_ (ht.go A B env X s _ _ O λs1 k1=>?_)
 cases b with
 | true=>exact hb.go A B env X s1 _ _ (O.on k1) λv s2 k2 r=>h v s2 (aB k1 k2) r
 | false=>exact hb.go A B env X s1 _ _ (O.on k1) λv s2 k2 r=>h v s2 (aB k1 k2) r
end
section
variable{C:Cx}{n:Nat}{sc:Scope}{δ:List (Str×D)}
theorem AU{x:PySem.Expr}{pos:Pos}{i:Int}(hx:Ev C n sc δ x (.int i)):Ev C n sc δ (.UnaryOp .USub x pos) (.int (-i)):=by
 refine⟨?_⟩
 intro A B env X s Q E O h
 refine UnaryOp_ (hx.go A B env X s _ _ O λv s1 k1 r1=>?_)
 (obtain _|rfl:=aU (bF r1))
 exact PySem.P.neg_int (h _ _ (aB k1 aV) (.int _ _))
theorem EU{v i:PySem.Expr}{pos:Pos}{x:Str}{k:Int}(hv:Ev C n sc δ v (.str x))(hi:Ev C n sc δ i (.int k))(hr:fitsSsize k=true)(hin:(Txt.charAt x k).isSome=true)
 (hs:∀(l t:Tok),subscripted i false (.str x l) (.int k t)=operate [.str x l,.int k t] (getItem (.str x l) (.int k t)):=by intro _ _;with_unfolding_all rfl):Ev C n sc δ (.Subscript v i pos) (.str (Txt.item x k)):=by
 refine⟨?_⟩
 intro A B env X s Q E O h
 refine Subscript_ (hv.go A B env X s _ _ O λa s1 k1 r1=>?_)
 refine hi.go A B env X s1 _ _ (O.on k1) λb s2 k2 r2=>?_
 (obtain _|rfl:=aU (bF r2))
 (obtain _|rfl:=aU (bN r1))
 refine tail_any (typeIs_str _ _ _) F.slot_str_getitem.lookup (SB.getItem hr hin ?_) (hs _ _)
 exact h _ _ (aB (aB k1 k2) aV) (.str _ _)
theorem QN{v st:PySem.Expr}{p pos:Pos}{ds:List D}(hv:Ev C n sc δ v (.list ds))(hst:Ev C n sc δ st (.int (-1)))(hz:ds.length<=sizeLine)(hg:∀(o r:Value),letTemporaryGo v o r=pure ():=by intro _ _;rfl) :
 Ev C n sc δ (.Subscript v (.Slice none none (some st) p) pos) (.list ds.reverse):=by
 refine⟨?_⟩
 intro A B env X s Q E O h
 refine wpAny_Subscript_Slice_step slot_list_getitem.lookup (hv.go A B env X s _ _ O λx s1 k1 r1=>?_) hg
 refine wpAny_Slice (wpAny_evalPart_none (wpAny_evalPart_none (wpAny_evalPart_some (hst.go A B env X s1 _ _ (O.on k1) λy s2 k2 r2=>?_))))
 obtain tt|rfl:=aU (bF r2)
 obtain l|ws|hX|hl|hr|rfl:=qC (cK r1)
 have hl2:s2.heap.PlainList l ws.toArray:=let ⟨nn,e⟩:=hl;⟨nn,bC k2 _ _ e⟩
 obtain⟨hp,hhp⟩:∃hp,hp=s2.heap.push {cls:=.type "slice",data:=.fields #[.none,.none,.int (-1) tt]}:=⟨_,rfl⟩
 have k0:∀b o,s2.heap.get? b=some o->hp.get? b=some o:=λb o e=>by rwa[hhp];exact Heap.get?_push_of_some _ e
 have hl3:hp.PlainList l ws.toArray:=let ⟨nn,e⟩:=hl2;⟨nn,k0 _ _ e⟩
 have hS:hp.IsSliceOf s2.heap.objs.size .none .none (.int (-1) tt):=⟨_,by rwa[hhp];exact Heap.get?_push_size _ rfl,rfl,rfl⟩
 refine⟨by have:=hl3.isList.typeIs (s:={s2 with heap:=hp});replace this:=hhp▸this;exact this,?_⟩
 rwa[←hhp]
 refine wpAny_getItem_list_slice (s:={s2 with heap:=hp}) hl3.isList hS .none .none (.int _ _) ∅ ?_ (by rwa[List.size_toArray,hr.length];exact hz)
 rwa[krv_pick ..]
 rcases bW (jJ (s:={s2 with heap:=hp}) ((O.on (aB k1 k2)).xo.keeps k0) ((hr.on k2).keeps k0).reverse 0) with kk|rr
 exact h _ _ (aB (aB (aB k1 k2) (IH k0)) kk) rr
theorem NI{X:Addr->Prop}{h:Heap}{vs:List Value}{is:List Int}(r:dI X h vs (is.map .int))(i:Nat)(v:Value)(e:vs[i]?=some v):∃t,v=.int (is.getD i 0) t:=by
 rcases aL (r.getV e) with d|e1|q
 replace e1:=(List.getElem?_map)▸e1
 rcases aL (Option.map_eq_some_iff.mp e1) with x|hx|z
 obtain⟨t,q⟩:=bF (z▸q)
 exact⟨t,by rwa[q,List.getD_eq_getElem?_getD,hx];rfl⟩
theorem lM{X:Addr->Prop}{h:Heap}{vs:List Value}{is:List Str}(r:dI X h vs (is.map .str))(i:Nat)(v:Value)(e:vs[i]?=some v):∃t,v=.str (is.getD i Str.empty) t:=by
 rcases aL (r.getV e) with d|e1|q
 replace e1:=(List.getElem?_map)▸e1
 rcases aL (Option.map_eq_some_iff.mp e1) with x|hx|z
 obtain⟨t,q⟩:=bN (z▸q)
 exact⟨t,by rwa[q,List.getD_eq_getElem?_getD,hx];rfl⟩
theorem oO{A:Around}{h:Heap}{l:Addr}{items:Array Value}{I:Addr}(H:tY A h)(hl:h.IsList l items)(hI:h.get? I=none)(prog:Program)(w:World) :
 ∃(fp:List Addr) (St:Nat->Heap->Prop),Walks prog w A I fp [I] items.size (λi v=>items[i]?=some v) St/\(∀b∈fp,b=I\/∃o,h.get? b=some o) /\
  ∀h',(∀b o,h.get? b=some o->h'.get? b=some o)->h'.IsListIter I l 0->St 0 h':=by
 have hne:l≠I:=λe=>by obtain o|ho|_:=aL hl;replace ho:=hI▸e▸ho;injection ho
 rcases H with q | ⟨e,q,o,vs,q1,q2,q3⟩
 . refine⟨[I,l],_,Walks.list q I l hne items,λb hb=>?_,λh' k hi=>⟨hi,(let ⟨o,e,r⟩:=hl;⟨o,k _ _ e,r⟩)⟩⟩
   simp at hb
   rcases hb with rfl | rfl
   . exact .inl rfl
   . obtain o|ho|_:=aL hl;exact .inr ⟨o,ho⟩
 . have hne2:e≠I:=λz=>by replace q1:=hI▸z▸q1;injection q1
   have hH:∀h',h'.get? e=some o->tY A h':=λh' z=>.inr ⟨e,q,o,vs,z,q2,q3⟩
   refine⟨[I,l,e],λi h=>h.IsListIter I l i/\h.IsList l items/\h.get? e=some o,{sub:=?_,frame:=?_,item:=?_,done:=?_,self:=?_},λb hb=>?_,λh' k hi=>⟨hi,(let ⟨o,e,r⟩:=hl;⟨o,k _ _ e,r⟩),k _ _ q1⟩⟩
   . intro b hb;simp at hb;simp[hb]
   . exact λ_ _ _ st hk=>⟨st.1.at λo e=>hk I (by exact .head _) o e,st.2.1.at λo e=>hk l (by exact .tail _ (.head _)) o e,hk e (by exact .tail _ (.tail _ (.head _))) o st.2.2⟩
   . intro i s Q E hi st hQ
     refine wpAny_pyNext_list_item st.1 st.2.1 (x:=items[i]) (by simp[hi]) λh' hit' hs'=>?_
     exact hQ _ h' s.toks (by simp[hi]) ⟨hit',st.2.1.extBut hs'.extBut hne,hs'.extBut e o hne2 st.2.2⟩ λb o hb e=>hs'.extBut b o (λh=>hb (by simp[h])) e
   . intro s Q E st hQ
     refine sC (hH _ st.2.2) st.1 st.2.1 (by simp) (λx hx=>by replace hx:=q▸hx;cases hx;exact hne2) λh' he'=>hQ h' s.toks λb o hb e=>he' b o (λh=>hb (by simp[h])) e
   . exact λ_ _ _ _ st hQ=>wpAny_pyIter_listiter st.1 hQ
   . simp at hb
     rcases hb with rfl | rfl | rfl
     . exact .inl rfl
     . obtain o|ho|_:=aL hl;exact .inr ⟨o,ho⟩
     . exact .inr ⟨o,q1⟩
theorem qF(is:List Int):∀k,k<=is.length->preSum (λi=>is.getD i 0) k=(is.take k).sum
 | 0,_=>by simp[preSum]
 | k+1,h=>by
  have hk:k<is.length:=h
  unfold preSum
  rwa[qF is k (Nat.le_of_lt hk),List.take_add_one,List.sum_append,List.getElem?_eq_getElem hk,List.getD_eq_getElem?_getD,List.getElem?_eq_getElem hk]
  simp
theorem AV{is:List Int}(hb:∀x∈is,x.natAbs<2 ^ 40)(hn:is.length<2 ^ 20):Bi C n "sum" [.list (is.map .int)] (.int is.sum):=by
 refine⟨?_⟩
 intro A X s vs Q E rm ho xo G r h
 obtain _|_|r1|r|rfl:=iG (aR r)
 obtain rfl:=bJ r
 obtain a|ws|hX|hl|hr|rfl:=qC (cK r1)
 have e:=hr.length
 rw[List.length_map] at e
 refine call_sum_walk (wpAny_pyIter_list hl.isList ?_)
 rcases iG (oO (A:=A.in1) (I:=s.heap.objs.size) ho hl.isList aN C.prog C.w) with fp|St|W|hfp|h0
 have k2:∀b o,s.heap.get? b=some o->(s.heap.push {cls:=.type "list_iterator",data:=.fields #[.ref a,.int 0 0]}).get? b=some o:=λb o e=>Heap.get?_push_of_some _ e
 have hI:(s.heap.push {cls:=.type "list_iterator",data:=.fields #[.ref a,.int 0 0]}).get? s.heap.objs.size=some {cls:=.type "list_iterator",data:=.fields #[.ref a,.int 0 0]}:=Heap.get?_push_size _ rfl
 have absb:∀k,((is.take k).sum).natAbs<=k*2 ^ 40:=λk=>by
  induction k with
  | zero=>simp
  | succ k ih =>
   rwa[List.take_add_one,List.sum_append]
   have:(is[k]?.toList.sum).natAbs<2 ^ 40:=by
    cases q:is[k]? with
    | none=>exact Nat.succ_pos _
    | some x=>simpa using hb x (List.mem_of_getElem? q)
   omega
 refine⟨_,fp,_,_,_,St,λi=>is.getD i 0,rfl,W,h0 _ k2 ⟨_,hI,rfl,rfl⟩,λb hb=>?_,λi v e=>NI hr i v (by simpa using e),λj hj=>?_,λh' tk t' k3=>?_⟩
 . show b<(s.heap.push _).objs.size
   rwa[Heap.size_push ..]
   rcases hfp b hb with rfl | ⟨o,q⟩
   . exact Nat.lt_succ_self _
   . exact Nat.lt_succ_of_lt (Heap.lt_size q)
 . have hj':j<is.length:=by rwa[←e];simpa using hj
   rwa[qF is (j+1) hj']
   have q1:=absb (j+1)
   have q2:(is.getD j 0).natAbs<2 ^ 40:=by rwa[List.getD_eq_getElem?_getD,List.getElem?_eq_getElem hj'];exact hb _ (List.getElem_mem hj')
   dsimp only
   constructor<;>constructor<;>omega
 . have:preSum (λi=>is.getD i 0) ws.toArray.size=is.sum:=by rwa[List.size_toArray,e,qF _ _ (Nat.le_refl _),List.take_length];rfl
   rwa[this]
   refine h _ _ ⟨h',tk,rfl,λb o q=>k3 b o (λz=>?_) (k2 b o q)⟩ (.int _ _)
   have z:b=s.heap.objs.size:=by simpa using z
   replace q:=aN▸z▸q;injection q
noncomputable def QO(ss:List Str)(i j:Nat):Bool:=decide ((ss.getD j Str.empty).cps.toList<(ss.getD i Str.empty).cps.toList)
noncomputable def QP(ss:List Str)(i j:Nat):Bool:=decide ((ss.getD i Str.empty).cps.toList<(ss.getD j Str.empty).cps.toList)
noncomputable def UN(ss:List Str):Str:=ss.getD (argBest (QO ss) (ss.length-1)) Str.empty
noncomputable def SS(ss:List Str):Str:=ss.getD (argBest (QP ss) (ss.length-1)) Str.empty
theorem QQ{ss:List Str}(h0:ss≠[]):Bi C n "max" [.list (ss.map .str)] (.str (UN ss)):=by
 refine⟨?_⟩
 intro A X s vs Q E rm ho xo G r h
 obtain _|_|r1|r|rfl:=iG (aR r)
 obtain rfl:=bJ r
 obtain a|ws|hX|hl|hr|rfl:=qC (cK r1)
 have e:=hr.length
 rw[List.length_map] at e
 refine call_max_walk (wpAny_pyIter_list hl.isList ?_)
 rcases iG (oO (A:=A.in1) (I:=s.heap.objs.size) ho hl.isList aN C.prog C.w) with fp|St|W|hfp|h1
 have k2:∀b o,s.heap.get? b=some o->(s.heap.push {cls:=.type "list_iterator",data:=.fields #[.ref a,.int 0 0]}).get? b=some o:=λb o e=>Heap.get?_push_of_some _ e
 have hI:(s.heap.push {cls:=.type "list_iterator",data:=.fields #[.ref a,.int 0 0]}).get? s.heap.objs.size=some {cls:=.type "list_iterator",data:=.fields #[.ref a,.int 0 0]}:=Heap.get?_push_size _ rfl
 have hpos:0<ss.length:=List.length_pos_iff.mpr h0
 refine⟨_,fp,_,_,_,St,QO ss,rfl,W,h1 _ k2 ⟨_,hI,rfl,rfl⟩,λb hb=>?_,by rwa[List.size_toArray,e];exact hpos,λi j vi vj s2 Q2 E2 hi hj hq=>?_,λv h' tk hv k3=>?_⟩
 . show b<(s.heap.push _).objs.size
   rwa[Heap.size_push ..]
   rcases hfp b hb with rfl | ⟨o,q⟩
   . exact Nat.lt_succ_self _
   . exact Nat.lt_succ_of_lt (Heap.lt_size q)
 . rcases aU (lM hr i vi (by simpa using hi)) with ti|rfl
   rcases aU (lM hr j vj (by simpa using hj)) with tj|rfl
   exact PySem.P.gt_str hq
 . obtain⟨t,rfl⟩:=lM hr _ v (by simpa using hv)
   have:ss.getD (argBest (QO ss) (ws.length-1)) Str.empty=UN ss:=by rwa[e];rfl
   rwa[this]
   refine h _ _ ⟨h',tk,rfl,λb o q=>k3 b o (λz=>?_) (k2 b o q)⟩ (.str _ _)
   have z:b=s.heap.objs.size:=by simpa using z
   replace q:=aN▸z▸q;injection q
theorem QR{ss:List Str}(h0:ss≠[]):Bi C n "min" [.list (ss.map .str)] (.str (SS ss)):=by
 refine⟨?_⟩
 intro A X s vs Q E rm ho xo G r h
 obtain _|_|r1|r|rfl:=iG (aR r)
 obtain rfl:=bJ r
 obtain a|ws|hX|hl|hr|rfl:=qC (cK r1)
 have e:=hr.length
 rw[List.length_map] at e
 refine call_min_walk (wpAny_pyIter_list hl.isList ?_)
 rcases iG (oO (A:=A.in1) (I:=s.heap.objs.size) ho hl.isList aN C.prog C.w) with fp|St|W|hfp|h1
 have k2:∀b o,s.heap.get? b=some o->(s.heap.push {cls:=.type "list_iterator",data:=.fields #[.ref a,.int 0 0]}).get? b=some o:=λb o e=>Heap.get?_push_of_some _ e
 have hI:(s.heap.push {cls:=.type "list_iterator",data:=.fields #[.ref a,.int 0 0]}).get? s.heap.objs.size=some {cls:=.type "list_iterator",data:=.fields #[.ref a,.int 0 0]}:=Heap.get?_push_size _ rfl
 have hpos:0<ss.length:=List.length_pos_iff.mpr h0
 refine⟨_,fp,_,_,_,St,QP ss,rfl,W,h1 _ k2 ⟨_,hI,rfl,rfl⟩,λb hb=>?_,by rwa[List.size_toArray,e];exact hpos,λi j vi vj s2 Q2 E2 hi hj hq=>?_,λv h' tk hv k3=>?_⟩
 . show b<(s.heap.push _).objs.size
   rwa[Heap.size_push ..]
   rcases hfp b hb with rfl | ⟨o,q⟩
   . exact Nat.lt_succ_self _
   . exact Nat.lt_succ_of_lt (Heap.lt_size q)
 . rcases aU (lM hr i vi (by simpa using hi)) with ti|rfl
   rcases aU (lM hr j vj (by simpa using hj)) with tj|rfl
   exact PySem.P.lt_str hq
 . obtain⟨t,rfl⟩:=lM hr _ v (by simpa using hv)
   have:ss.getD (argBest (QP ss) (ws.length-1)) Str.empty=SS ss:=by rwa[e];rfl
   rwa[this]
   refine h _ _ ⟨h',tk,rfl,λb o q=>k3 b o (λz=>?_) (k2 b o q)⟩ (.str _ _)
   have z:b=s.heap.objs.size:=by simpa using z
   replace q:=aN▸z▸q;injection q
theorem DH{X:Addr->Prop}{h:Heap}:∀{vs:List Value} {ys:List Str},StrsAre vs ys->dI X h vs (ys.map .str)
 | _,_,.nil=>.nil
 | _,_,.cons x t r=>.cons (.str x t) (DH r)
theorem uX{ss out:List Str}(h64:ss.length<64)(ho:∀ss',ss'.Perm ss->sortedS ss'=true->ss'=out):Bi C n "sorted" [.list (ss.map .str)] (.list (out.map .str)):=by
 refine⟨?_⟩
 intro A X s vs Q E rm hh xo G r h
 obtain _|_|r1|r|rfl:=iG (aR r)
 obtain rfl:=bJ r
 obtain a|ws|hX|hl|hr|rfl:=qC (cK r1)
 have e:=hr.length
 rw[List.length_map] at e
 refine sorted_strs hl.isList (sI hr) (by rwa[e];exact h64) λo ss' q1 q2 q3=>?_
 obtain rfl:=ho ss' q2 q3
 rcases aU (sortedAll_at s.heap ws o) with nn|en
 refine h _ _ ⟨_,s.toks,rfl,λb ob q=>sortedAll_old q⟩ (.list (λq=>?_) ⟨nn,by simpa using en⟩ (DH q1))
 rcases eU (xo _ q) with ob|_|_|eo|_
 exact absurd (Heap.lt_size eo) (Nat.not_lt.mpr (Nat.le_succ _))
theorem uY{X:Addr->Prop}{h:Heap}:∀(l:List (Str×Tok)),dI X h (strValues l) ((l.map (·.1)).map .str)
 | []=>.nil
 | (x,t)::r=>.cons (.str x t) (uY r)
open Builtin.Str in
theorem IO{x y:Str}(hy:(y.length==0)=false)(hsz:x.length<=sizeLine)(hsz2:(partsBetween x (occurrences x y 0 x.length (x.length+1)) y.length).length<=sizeLine):Bi C n "str.split" [.str x,.str y] (.list ((Txt.split x y).map .str)):=by
 refine⟨?_⟩
 intro A X s vs Q E rm hh xo G r h
 have kJ:∀(l:List (Str×Tok)) (tk:Tok),l.map (·.1)=Txt.split x y->Q (.ref s.heap.objs.size) {s with toks:=tk,heap:=s.heap.push {cls:=.type "list",data:=.seq (strValues l).toArray}}:=λl tk e=>by
  have rr:=uY (X:=X) (h:=s.heap) l
  replace rr:=e▸rr
  rcases bW (jJ (s:=s) xo rr 0) with q_0|r1;obtain h1|t1|q1|k1:=dZ q_0
  refine h _ _ ⟨_,tk,rfl,?_⟩ r1
  cases q1;exact k1
 obtain _|_|r1|r|rfl:=iG (aR r)
 obtain _|_|r2|r|rfl:=iG (aR r)
 obtain rfl:=bJ r
 obtain t|rfl:=aU (bN r1)
 obtain u|rfl:=aU (bN r2)
 cases h1:(decide (x.length<y.length)||decide (strKind x<strKind y))
 . cases hf:(occurrences x y 0 x.length (x.length+1)).isEmpty
   . refine call_meets F.slot_str_split (typeIs_str _ _ _) F.entry_str_split (F.args_str_split_2 _ _) (meets_str_split_sep x y t u h1 hy hf hsz hsz2) ?_
     show wants Q E _ {s with toks:=_,heap:=s.heap.push {cls:=.type "list",data:=.seq (strsFrom s.toks (partsBetween x (occurrences x y 0 x.length (x.length+1)) y.length)).toArray}}
     rwa[strsFrom_eq ..]
     exact kJ (numbered s.toks _) _ ((numbered_texts _ _).trans ((if_neg (ne_true_of_eq_false h1)).trans (if_neg (ne_true_of_eq_false hf))).symm)
   . exact call_meets F.slot_str_split (typeIs_str _ _ _) F.entry_str_split (F.args_str_split_2 _ _) (meets_str_split_not_found x y t u h1 hy hf)
      (kJ [(x,t)] _ ((if_neg (ne_true_of_eq_false h1)).trans (if_pos hf)).symm)
 . exact call_meets F.slot_str_split (typeIs_str _ _ _) F.entry_str_split (F.args_str_split_2 _ _) (meets_str_split_cannot_occur x y t u h1)
    (kJ [(x,t)] _ (if_pos h1).symm)
noncomputable def D.isStr:D->Bool
 | .str _=>true
 | _=>false
theorem sJ{x:PySem.Expr}{np sp p1 p2:Pos}{d:D}(hx:Ev C n sc δ x d)(hb:d.odd=false)(hk:sc.names.lookup ("type":Str)=some .globalImplicit)(hg:C.mg ("type":Str)=none)(hm:C.mb ("type":Str)=some (.type "type"))
 (hk2:sc.names.lookup ("str":Str)=some .globalImplicit) (hg2:C.mg ("str":Str)=none) (hm2:C.mb ("str":Str)=some (.type "str"))
 (hs:∀env,starEach [x] env=[(false,eval x env)]:=by intro _;rfl) :
 Ts C n sc δ (.Compare (.Call (.Name ("type":Str) np) [x] [] p1) [.Is] [.Name ("str":Str) sp] p2) d.isStr:=by
 refine⟨?_⟩
 intro A B env X s Q E O h
 refine wpAny_isTrue_Compare1 ?_
 have tail:∀(T:String) (s1:Shared),Keeps s s1->compareOp .Is (.type T) (.type "str")=pure (.bool d.isStr)->wpAny C.M A (eval (.Name ("str":Str) sp) env) (λb s2=>wpAny C.M A (compareOp .Is (.type T) b) (λc s3=>wpAny C.M A (truthy c) Q E s3) E s2) E s1:=λT s1 k1 e=>by
  refine cC (O.on k1) hk2 hg2 hm2 ∅ ?_
  exact wpAny_of_eq e (wpAny_truthy_bool (h s1 k1))
 refine Call_name1 (hs env) ?_
 refine cC O hk hg hm ∅ ?_
 refine PySem.callWith_type1 (hx.go A B env X s _ _ O λv s1 k1 r1=>?_)
 cases r1 with
 | none=>exact call_type_of (Tx:="NoneType") rfl ∅ (tail _ s1 k1 (by rfl))
 | bool b=>exact call_type_of (Tx:="bool") rfl ∅ (tail _ s1 k1 (by rfl))
 | int b=>exact call_type_of (Tx:="int") rfl ∅ (tail _ s1 k1 (by rfl))
 | str b=>exact call_type_of (Tx:="str") rfl ∅ (tail _ s1 k1 (by rfl))
 | bytes b=>injection hb
 | ptr b=>injection hb
 | ty b=>injection hb
 | list hX hl hr=>exact call_type_of (Tx:="list") hl.isList.typeIs ∅ (tail _ s1 k1 (by rfl))
end
noncomputable def aY(i:Nat):Stmt:=(PySem.Challenge.pw_oy0348_01.main.body.drop i).headD (.Pass ⟨0,0,0,0⟩)
noncomputable def aX:Stmt->List Stmt
 | .FunctionDef _ _ b _ _ _ _ _ _ _=>b
 | _=>[]
noncomputable def aD:Stmt->Scope
 | .FunctionDef _ _ _ _ _ _ s _ _ _=>s
 | _=>⟨.function,[],false,false,[]⟩
noncomputable def fV(C:Cx)(f:Addr)(i:Nat)(names:List Str):Prop:=∃ob fd,C.K.lookup f=some ob/\ob.data=.func fd/\codeIn C.K fd.code fd.qualname=true/\fd.body=.stmts (aX (aY i))/\fd.scope=aD (aY i) /\
 fd.closure=[]/\fd.globals=mainGlobals/\fd.builtins=builtinsNs/\∀vs:List Value,vs.length=names.length->bindArgs fd ⟨vs,[]⟩=pure (names.zip vs)
noncomputable def fC(sc:Scope)(names:List Str):Bool:=!sc.isCoroutine&&!sc.isGenerator&&decide (sc.kind=.function)&&decide names.Nodup&&names.all (λx=>decide (sc.names.lookup x=some .local)||decide (sc.names.lookup x=some .cell))&&sc.names.all (λx=>decide (x.2≠.free))
theorem jD{C:Cx}{n:Nat}{f:Addr}{i:Nat}{names:List Str}{ds:List D}{d:D}(F:fV C f i names)(hl:ds.length=names.length)(hs:fC (aD (aY i)) names=true)(h:Ex C n (aD (aY i)) (names.zip ds) (aX (aY i)) (.ret d)):Fn C (n+1) f ds d:=by
 obtain ob|fd|h1|h2|h3|h4|h5|h6|h7|h8|h9:=SW F
 simp only[fC,Bool.and_eq_true,Bool.or_eq_true,Bool.not_eq_true',decide_eq_true_eq,List.all_eq_true] at hs
 obtain q_0|q6:=bW hs;obtain q_1|q5:=bW q_0;obtain q_2|q4:=bW q_1;obtain q_3|q3:=bW q_2;obtain q1|q2:=bW q_3
 replace q1:=h5.symm▸q1;replace q2:=h5.symm▸q2;replace q3:=h5.symm▸q3;replace q5:=h5.symm▸q5;replace q6:=h5.symm▸q6;replace h:=h5.symm▸h
 exact QM h1 h2 h3 h4 h6 h7 h8 q1 q2 q3 (λvs e=>h9 vs (e.trans hl)) q4 q5 q6 h
theorem cT{C:Cx}{n:Nat}{sc:Scope}{δ:List (Str×D)}{f:Str}{np pos:Pos}{a:PySem.Expr}{as:List PySem.Expr}{ds:List D}{d:D}{fa:Addr}{i:Nat}{names:List Str}(F:fV C fa i names)(hk:sc.names.lookup f=some .globalImplicit)(hg:C.mg f=some (.ref fa))(hd:(f==("__debug__":Str))=false)
 (ha:uT C n sc δ (a::as) ds) (hf:Fn C n fa ds d) (hst:∀env,starEach (a::as) env=(false,eval a env)::starEach as env:=by intro _;rfl) :
 Ev C n sc δ (.Call (.Name f np) (a::as) [] pos) d :=
 let ⟨_,_,h1,h2,_⟩:=F
 NF hk hg hd h1 h2 ha hf hst
structure Bs(C:Cx):Prop where
 range:C.mg ("range":Str)=none/\C.mb ("range":Str)=some (.type "range")
 len:C.mg ("len":Str)=none/\C.mb ("len":Str)=some (.builtin "len")
 sum:C.mg ("sum":Str)=none/\C.mb ("sum":Str)=some (.builtin "sum")
 max:C.mg ("max":Str)=none/\C.mb ("max":Str)=some (.builtin "max")
 min:C.mg ("min":Str)=none/\C.mb ("min":Str)=some (.builtin "min")
 sorted:C.mg ("sorted":Str)=none/\C.mb ("sorted":Str)=some (.builtin "sorted")
 type:C.mg ("type":Str)=none/\C.mb ("type":Str)=some (.type "type")
 str:C.mg ("str":Str)=none/\C.mb ("str":Str)=some (.type "str")
section
variable{C:Cx}{n:Nat}{sc:Scope}{δ:List (Str×D)}
noncomputable def PS:Option NameKind->Bool
 | some .local=>true
 | some .cell=>true
 | some .free=>true
 | _=>false
theorem aA{x:Str}{pos:Pos}{d:D}(hx:δ.lookup x=some d)(hk:PS (sc.names.lookup x)=true)
 (hd:(x==("__debug__":Str))=false:=by decide) (hc:(x==("__classdict__":Str))=false:=by decide):Ev C n sc δ (.Name x pos) d:=by
 cases q:sc.names.lookup x with
 | none=>replace hk:=q▸hk;injection hk
 | some k =>
  replace hk:=q▸hk
  exact vT hx q (by cases k<;>first | exact .inl rfl | exact .inr (.inl rfl) | exact .inr (.inr rfl) | injection hk) hd hc
noncomputable def lX(cs:Scope)(δ:List (Str×D)):List (Str×D):=δ.filter λp=>decide (cs.names.lookup p.1=some .free)
theorem fE{cs:Scope}:∀{δ:List (Str×D)} {x:Str} {d:D},(lX cs δ).lookup x=some d->cs.names.lookup x=some .free/\δ.lookup x=some d
 | [],_,_,h=>by injection h
 | (y,e)::r,x,d,h=>by
  unfold lX at h
  replace h:=List.filter_cons▸h
  by_cases q:cs.names.lookup y=some .free
  . rw[if_pos (by simpa using q),List.lookup_cons] at h
    rwa[List.lookup_cons]
    by_cases z:(x==y)=true
    . have:x=y:=by simpa using z
      subst this
      simp only[z] at h ⊢
      exact⟨q,h⟩
    . simp only[Bool.not_eq_true] at z
      simp only[z] at h ⊢
      exact fE h
  . rw[if_neg (by simpa using q)] at h
    rcases bW (fE h) with h1|h2
    refine⟨h1,?_⟩
    rwa[List.lookup_cons]
    have z:(x==y)=false:=by
     cases w:x==y
     . rfl
     . have:x=y:=by simpa using w
       subst this;exact absurd h1 q
    simp only[z];exact h2
noncomputable def qG(cs sc:Scope):Bool:=decide (cs.kind=.function)&&cs.names.all (λx=>decide (x.2≠.cell))&&cs.names.all (λx=>!decide (x.2=.local)||decide (cs.names.lookup x.1=some .local)) &&
 cs.names.all (λx=>!decide (x.2=.free)||decide (sc.names.lookup x.1=some .cell)||decide (sc.names.lookup x.1=some .free))
theorem jG{cs sc:Scope}(h:qG cs sc=true):cs.kind=.function/\(∀x∈cs.names,x.2≠.cell)/\(∀x∈cs.names,x.2=.local->cs.names.lookup x.1=some .local)/\(∀x∈cs.names,x.2=.free->sc.names.lookup x.1=some .cell\/sc.names.lookup x.1=some .free):=by
 simp only[qG,Bool.and_eq_true,Bool.or_eq_true,Bool.not_eq_true',decide_eq_true_eq,decide_eq_false_iff_not,List.all_eq_true] at h
 obtain q_0|d:=bW h;obtain q_1|c:=bW q_0;obtain a|b:=bW q_1
 refine⟨a,b,λx hx e=>(c x hx).resolve_left λq=>q e,λx hx e=>?_⟩
 rcases d x hx with (q | q) | q
 . exact absurd e q
 . exact .inl q
 . exact .inr q
theorem gZ(l:List D):(l.map λd=>[d]).flatten=l:=by
 induction l with
 | nil=>rfl
 | cons a r ih=>rwa[List.map_cons,List.flatten_cons,ih];rfl
theorem sK{elt target iter:PySem.Expr}{cs:Scope}{pos:Pos}{ds outs:List D}(hsr:Sr C n sc δ iter ds)(hc:qG cs sc=true)(hl:outs.length=ds.length)(hz:outs.length<=sizeLine)
 (hit:∀(j:Nat) (d o:D),ds[j]?=some d->outs[j]?=some o->∃δ',PQ C n (lL cs sc) target d (lX cs δ) δ'/\Ev C n (lL cs sc) δ' elt o)
 (hfold:∀env x,foldedSetIterable iter env x=pure x:=by intro _ _;rfl):Ev C n sc δ (.ListComp elt [⟨target,iter,[],0⟩] cs pos) (.list outs):=by
 rcases nU (jG hc) with h1|h2|h3|h4
 have:=DF (g:=⟨target,iter,[],0⟩) (gs:=[]) (elt:=elt) (pos:=pos) (fs:=outs.map λd=>[d]) (δ':=lX cs δ) hsr rfl rfl hfold h1 h2 h3 h4 (λx d e=>fE e) (by rwa[List.length_map ..];exact hl) (by rwa[gZ ..];exact hz) λj d o e1 e2=>?_
 . rwa [gZ] at this
 . replace e2:=(List.getElem?_map)▸e2
   cases q:outs[j]? with
   | none=>replace e2:=q▸e2;injection e2
   | some o' =>
    replace e2:=q▸e2;obtain rfl:=Option.some.inj e2
    rcases aL (hit j d o' e1 q) with δ'|b|e
    exact⟨δ',b,o',rfl,e⟩
noncomputable def vX(cs sc:Scope)(δ:List (Str×D))(x:Str):Bool:=decide ((lL cs sc).names.lookup x=some .local)&&((lX cs δ).lookup x).isNone
theorem fP{elt iter:PySem.Expr}{x:Str}{px:Pos}{cs:Scope}{pos:Pos}{ds outs:List D}(hsr:Sr C n sc δ iter ds)(hc:qG cs sc=true)(hx:vX cs sc δ x=true)(hl:outs.length=ds.length)(hz:outs.length<=sizeLine)
 (hit:∀(j:Nat) (d o:D),ds[j]?=some d->outs[j]?=some o->Ev C n (lL cs sc) ((x,d)::lX cs δ) elt o)
 (hfold:∀env x,foldedSetIterable iter env x=pure x:=by intro _ _;rfl):Ev C n sc δ (.ListComp elt [⟨.Name x px,iter,[],0⟩] cs pos) (.list outs):=by
 simp only[vX,Bool.and_eq_true,decide_eq_true_eq,Option.isNone_iff_eq_none] at hx
 exact sK hsr hc hl hz (λj d o e1 e2=>⟨_,kW hx.1 hx.2,hit j d o e1 e2⟩) hfold
end
section
variable{C:Cx}{n:Nat}{sc:Scope}{δ:List (Str×D)}
theorem bA{e:PySem.Expr}{d d':D}(h:Ev C n sc δ e d)(q:d=d'):Ev C n sc δ e d':=q▸h
theorem qH{l r:PySem.Expr}{pos:Pos}{a b:Int}(hl:Ev C n sc δ l (.int a))(hr:Ev C n sc δ r (.int b))(h0:b≠0)(h1:b.natAbs<1073741824):Ev C n sc δ (.BinOp l .FloorDiv r pos) (.int (a.fdiv b)):=cR hl hr (AN h0 (PyProof.noPylong_small h1))
theorem sL{l r:PySem.Expr}{pos:Pos}{a b:Int}(hl:Ev C n sc δ l (.int a))(hr:Ev C n sc δ r (.int b))(h0:b≠0):Ev C n sc δ (.BinOp l .Mod r pos) (.int (a.fmod b)):=cR hl hr (AO h0)
theorem mM{l r:PySem.Expr}{pos:Pos}{a b:Int}(hl:Ev C n sc δ l (.int a))(hr:Ev C n sc δ r (.int b)):Ev C n sc δ (.BinOp l .Sub r pos) (.int (a-b)):=cR hl hr AL
theorem oQ{l r:PySem.Expr}{pos:Pos}{a b:Int}(hl:Ev C n sc δ l (.int a))(hr:Ev C n sc δ r (.int b)):Ev C n sc δ (.BinOp l .Add r pos) (.int (a+b)):=cR hl hr AK
theorem AW{l r:PySem.Expr}{pos:Pos}{a b:Int}(hl:Ev C n sc δ l (.int a))(hr:Ev C n sc δ r (.int b))(hb:0<=b)(hm:(Builtin.Int.intBits a:Int)*b<=2 ^ 27):Ev C n sc δ (.BinOp l .Pow r pos) (.int (a ^ b.toNat)):=cR hl hr (AP hb hm)
theorem QS{l r:PySem.Expr}{pos:Pos}{a b:Int}(hl:Ev C n sc δ l (.int a))(hr:Ev C n sc δ r (.int b))(hm:IntMulOk a b):Ev C n sc δ (.BinOp l .Mult r pos) (.int (a*b)):=cR hl hr (AM hm)
theorem iV{m j:Nat}{d:D}(h:(kU m)[j]?=some d):d=.int (j:Int)/\j<m:=by
 unfold kU at h
 replace h:=(List.getElem?_map)▸h
 rcases Nat.lt_or_ge j m with q | q
 . replace h:=(List.getElem?_range q)▸h
   obtain rfl:=Option.some.inj h;exact⟨rfl,q⟩
 . rw[List.getElem?_eq_none (by simpa using q)] at h;injection h
theorem mO(m:Nat):(kU m).length=m:=by simp[kU]
end
noncomputable def oG(x:Int):Nat:=[3,3,2,1].getD (x.fmod 4).toNat 0
noncomputable def IP(x:Int)(k:Nat):Int:=((x.fdiv 4).fdiv (256 ^ (2-(k:Int)).toNat)).fmod 256
noncomputable def uB(x:Int):List Int:=(List.range (oG x)).map (IP x)
theorem IQ(x:Int):0<=x.fmod 4/\x.fmod 4<4:=⟨Int.fmod_nonneg_of_pos _ ∅,Int.fmod_lt_of_pos _ ∅⟩
theorem mP(x:Int):(x.fmod 4=0/\oG x=3)\/(x.fmod 4=1/\oG x=3)\/(x.fmod 4=2/\oG x=2)\/(x.fmod 4=3/\oG x=1):=by
 rcases bW (IQ x) with h0|h1
 have:x.fmod 4=0\/x.fmod 4=1\/x.fmod 4=2\/x.fmod 4=3:=by lia
 rcases this with q | q | q | q<;>simp[oG,q]
theorem xW(x:Int):oG x<=3/\1<=oG x:=by rcases mP x with⟨_,q⟩ | ⟨_,q⟩ | ⟨_,q⟩ | ⟨_,q⟩<;>rwa[q]<;>decide
theorem DI:(Builtin.Int.intBits 256:Int)=9:=by decide +kernel
theorem EV{C:Cx}{n:Nat}{f:Addr}(F:fV C f 40 ["x"])(b:Bs C)(x:Int):Fn C (n+1) f [.int x] (.list ((uB x).map .int)):=by
 refine jD F rfl ∅ (bV (bO ?_))
 have hm:=xW x
 have hz:((uB x).map D.int).length<=sizeLine:=by
  have h:3<=sizeLine:=∅
  simp only[uB,List.length_map,List.length_range]
  lia
 refine fP (ds:=kU (oG x)) (iU (m:=oG x) ?_ (by lia) rfl b.range.1 b.range.2) ∅ rfl (by simp[uB,kU]) hz λj d o e1 e2=>?_
 . refine bA (d:=.int ([3,3,2,1].getD (x.fmod 4).toNat 0)) (cY (ds:=[.int 3,.int 3,.int 2,.int 1]) (k:=x.fmod 4) (bU (aF aG (aF aG (aF aG (aF aG bM)))) ∅) (sL (aA rfl rfl) aG ∅) (IQ x).1 ?_ (by have:=(IQ x).2;exact Int.lt_of_lt_of_le (by assumption) ∅)) ?_
   . rcases mP x with⟨q,_⟩ | ⟨q,_⟩ | ⟨q,_⟩ | ⟨q,_⟩<;>rwa[q]<;>rfl
   . rcases mP x with⟨q,q2⟩ | ⟨q,q2⟩ | ⟨q,q2⟩ | ⟨q,q2⟩<;>(rwa[q,q2])<;>rfl
 . rcases bW (iV e1) with rfl|hj
   have:o=.int (IP x j):=by
    rw[uB,List.map_map,List.getElem?_map,List.getElem?_range hj] at e2
    simpa using e2.symm
   subst this
   have hj3:j<3:=by lia
   have hp:((256:Int) ^ (2-(j:Int)).toNat)≠0/\((256:Int) ^ (2-(j:Int)).toNat).natAbs<1073741824:=by
    match j,hj3 with
    | 0,_=>decide
    | 1,_=>decide
    | 2,_=>decide
   exact sL (qH (qH (aA rfl rfl) aG ∅ ∅) (AW aG (mM aG (aA rfl rfl)) (by lia) (by rwa[DI];lia)) hp.1 hp.2) aG ∅
section
variable{C:Cx}{n:Nat}{sc:Scope}{δ:List (Str×D)}
theorem bY{e:PySem.Expr}{d:D}(h:Ev C n sc δ e d)(hst:∀env,starEach [e] env=(false,eval e env)::starEach [] env:=by intro _;rfl):uT C n sc δ [e] [d]:=aF h bM hst
theorem bS{x:Str}{p pos:Pos}{e:PySem.Expr}{d:D}(he:Ev C n sc δ e d)(hk:(decide (sc.names.lookup x=some .local)||decide (sc.names.lookup x=some .cell))=true)
 (hsw:∀env,env.scope=sc->swapsWith e (some (.Name x p)) pos.line env=pure false:=by intro _ _;rfl):rO C n sc δ (.Assign [.Name x p] e pos) (.nxt ((x,d)::δ)):=by
 simp only[Bool.or_eq_true,decide_eq_true_eq] at hk
 rcases hk with q | q
 . exact uW he q (.inl rfl) hsw
 . exact uW he q (.inr rfl) hsw
theorem NJ{i:Int}{k:Nat}(h:i.natAbs<2 ^ k):Builtin.Int.intBits i<=k:=by
 unfold Builtin.Int.intBits
 split
 . exact Nat.zero_le _
 . rename_i q
   have:i.natAbs≠0:=by simpa using q
   have:=(Nat.log2_lt this).mpr h
   assumption
end
noncomputable def oS:Str:="ABCDEFGHIJKLMNOPQRSTUVWXYZabcdefghijklmnopqrstuvwxyz0123456789'-"
noncomputable def pI(o:List Int):Int:=((List.range o.length).map λ(k:Nat)=>o.getD k 0*256 ^ (2-(k:Int)).toNat).sum
noncomputable def cM(o:List Int)(k:Nat):Int:=((pI o).fdiv (64 ^ (3-(k:Int)).toNat)).fmod 64
noncomputable def dQ(o:List Int):Str:=Txt.join "" ((List.range (o.length+1)).map λk=>Txt.item oS (cM o k))++Txt.mul "=" (3-(o.length:Int))
theorem mQ(o:List Int)(k:Nat):0<=cM o k/\cM o k<64:=⟨Int.fmod_nonneg_of_pos _ ∅,Int.fmod_lt_of_pos _ ∅⟩
theorem NK(i:Int)(h0:0<=i)(h1:i<64):∃c,Txt.charAt oS i=some c:=by
 have:∀k<64,(Txt.charAt oS (k:Nat)).isSome=true:=by decide +kernel
 rcases aU (Int.eq_ofNat_of_zero_le h0) with k|rfl
 exact Option.isSome_iff_exists.mp (this k (by lia))
theorem QT:(Builtin.Int.intBits 64:Int)=7:=by decide +kernel
theorem QU(k:Nat)(h:k<=3):MulOk "=" (k:Int):=by
 match k,h with
 | 0,_=>unfold MulOk;decide +kernel
 | 1,_=>unfold MulOk;decide +kernel
 | 2,_=>unfold MulOk;decide +kernel
 | 3,_=>unfold MulOk;decide +kernel
theorem iS(a b:Str):(a++b).length=a.length+b.length:=by
 show (a.cps++b.cps).size=_
 rwa[Array.size_append];rfl
theorem hG(x:Str)(l:List Str):Txt.join x l=Str.join x l:=eq_of_beq (join_plain_closes x l)
theorem uZ:∀l:List Str,(Str.join "" l).length=(l.map (·.length)).sum
 | []=>rfl
 | [x]=>by rfl
 | x::y::r=>by
  have e:Str.length ""=0:=∅
  show (x++""++Str.join "" (y::r)).length=_
  rwa[iS ..,iS ..,uZ (y::r),e,List.map_cons (l:=y::r)];rw[List.sum_cons,Nat.add_zero]
theorem vA(o:List Int)(m:Nat):(((List.range m).map λk=>Txt.item oS (cM o k)).map (·.length)).sum=m:=by
 have h1:∀i,(Txt.item oS i).length=1:=λ_=>rfl
 have e:((List.range m).map λk=>Txt.item oS (cM o k)).map (·.length)=List.replicate m 1:=by
  rw[List.eq_replicate_iff];simp[h1]
 rwa[e];simp
theorem IR(c:Nat)(k:Int):(Txt.mul ⟨#[c]⟩ k).length=k.toNat:=by
 have:=congrArg List.length (mul_one_list c k)
 simpa [Str.length] using this
theorem NL{C:Cx}{n:Nat}{f:Addr}(F:fV C f 41 ["octets"])(b:Bs C)(o:List Int)(hl:1<=o.length/\o.length<=3)(ho:∀x∈o,0<=x/\x<256):Fn C (n+1) f [.list (o.map .int)] (.str (dQ o)):=by
 have z3:∀k,k<=100->k<=sizeLine:=λk h=>Nat.le_trans h ∅
 refine jD F rfl ∅ ?_
 refine bD (bS (d:=.str oS) aT ∅) (bD (bS (d:=.int (pI o)) ?_ ∅) (bV (bO ?_)))
 . refine cP (ds:=[.list (((List.range o.length).map λ(k:Nat)=>o.getD k 0*256 ^ (2-(k:Int)).toNat).map D.int)]) rfl b.sum.1 b.sum.2 ∅ (bY ?_) (AV ?_ ?_)
   . refine fP (ds:=kU o.length) (iU (m:=o.length) (bA (cP rfl b.len.1 b.len.2 ∅ (bY (aA rfl rfl)) (dC (by rwa[List.length_map ..];exact z3 _ (by lia)))) (by rwa[List.length_map ..];rfl)) (by lia) rfl b.range.1 b.range.2) ∅ rfl (by simp[kU]) (z3 _ (by simp;lia)) λj d o' e1 e2=>?_
     rcases bW (iV e1) with rfl|hj
     have:o'=.int (o.getD j 0*256 ^ (2-(j:Int)).toNat):=by
      replace e2:=(List.getElem?_range hj)▸(List.getElem?_map)▸List.map_map▸e2
      simpa using e2.symm
     subst this
     have hg:(o.map D.int)[((j:Int)).toNat]?=some (.int (o.getD j 0)):=by simp[hj]
     have hm:=ho (o.getD j 0) (by rwa[List.getD_eq_getElem?_getD,List.getElem?_eq_getElem hj];exact List.getElem_mem hj)
     exact QS (cY (aA rfl rfl) (aA rfl rfl) (by exact Int.natCast_nonneg _) hg (by lia)) (AW aG (mM aG (aA rfl rfl)) (by lia) (by rwa[DI];lia)) (IntMulOk.of_left (Nat.le_trans (NJ (k:=8) (by lia)) ∅))
   . intro x hx
     rcases aL (List.mem_map.mp hx) with k|hk|rfl
     have hk:=List.mem_range.mp hk
     have hm:=ho (o.getD k 0) (by rwa[List.getD_eq_getElem?_getD,List.getElem?_eq_getElem hk];exact List.getElem_mem hk)
     have:(o.getD k 0*256 ^ (2-(k:Int)).toNat).natAbs<=256*65536:=by
      rwa[Int.natAbs_mul ..]
      refine Nat.mul_le_mul (by lia) ?_
      match k,(by lia:k<3) with
      | 0,_=>decide
      | 1,_=>decide
      | 2,_=>decide
     exact Nat.lt_of_le_of_lt (by assumption) ∅
   . simp;lia
 . have hcat:((((List.range (o.length+1)).map λk=>Txt.item oS (cM o k)).map (·.length)).sum+((List.range (o.length+1)).map λk=>Txt.item oS (cM o k)).length*(Str.length ""))<=16777216:=by
    rwa[vA ..,show Str.length ""=0 from by decide]
    lia
   refine cR (a:=.str (Txt.join "" ((List.range (o.length+1)).map λk=>Txt.item oS (cM o k)))) (b:=.str (Txt.mul "=" (3-(o.length:Int)))) ?_ ?_ (lK ?_)
   . refine mL (ds:=[.list (((List.range (o.length+1)).map λk=>Txt.item oS (cM o k)).map .str)]) aT (bY ?_) (vV hcat) _root_.PySem.F.plainAttrs_str _root_.PySem.F.slot_str_join _root_.PySem.F.type_str_join ∅
     refine fP (ds:=kU (o.length+1)) (iU (m:=o.length+1) (bA (oQ (cP rfl b.len.1 b.len.2 ∅ (bY (aA rfl rfl)) (dC (by rwa[List.length_map ..];exact z3 _ (by lia)))) aG) (by rwa[List.length_map ..];rfl)) (by lia) rfl b.range.1 b.range.2) ∅ rfl (by simp[kU]) (z3 _ (by simp;lia)) λj d o' e1 e2=>?_
     rcases bW (iV e1) with rfl|hj
     have:o'=.str (Txt.item oS (cM o j)):=by
      replace e2:=(List.getElem?_range hj)▸(List.getElem?_map)▸List.map_map▸e2
      simpa using e2.symm
     subst this
     have hp:((64:Int) ^ (3-(j:Int)).toNat)≠0/\((64:Int) ^ (3-(j:Int)).toNat).natAbs<1073741824:=by
      match j,(by lia:j<4) with
      | 0,_=>decide
      | 1,_=>decide
      | 2,_=>decide
      | 3,_=>decide
     have hs:=mQ o j
     rcases aU (NK _ hs.1 hs.2) with c|hc
     exact EU (x:=oS) (k:=cM o j) (aA rfl rfl) (sL (qH (aA rfl rfl) (AW aG (mM aG (aA rfl rfl)) (by lia) (by rwa[QT];lia)) hp.1 hp.2) aG ∅) (by simp[fitsSsize];(and_intros<;>lia)) (by rwa[hc];rfl)
   . refine cR aT (mM aG (bA (cP rfl b.len.1 b.len.2 ∅ (bY (aA rfl rfl)) (dC (by rwa[List.length_map ..];exact z3 _ (by lia)))) (by rwa[List.length_map ..];rfl))) (AT ?_)
     have:=QU (3-o.length) (by exact Nat.sub_le ..)
     have e:((3-o.length:Nat):Int)=3-(o.length:Int):=by grind
     rwa [e] at this
   . rwa[hG ..,uZ ..,vA ..]
     have:=IR 61 (3-(o.length:Int))
     rwa[show (Str.ofString "=")=⟨#[61]⟩ from by decide];rwa[this]
     exact z3 _ (by lia)
section
variable{prog:Program}{w:World}{A:Around}{E:Value->Shared->Prop}{s:Shared}
theorem NM{it t:Addr}{i:Nat}{items:Array Value}{Q:Option Value->Shared->Prop}(hh:tY A s.heap)(hit:s.heap.IsTupleIter it t i)(hl:s.heap.IsTuple t items)(hx:items[i]?=none)
 (hne:∀e,A.handled=some (.ref e)->e≠it)
 (hQ:∀h',Heap.ExtBut it s.heap h'->Q none {s with heap:=h'}):wpAny (model prog w) A (pyNext (.ref it)) Q E s:=by
 rcases rW (id hit) with o|ho|hc|hd
 obtain ol|hol|_|q_0:=rW hl;obtain nl|hdl:=aU q_0
 unfold pyNext
 refine wpAny_bind (wpAny_attempt (wpAny_callSpecial?_slot (name:=Str.ofString "__next__") hit.typeIs F.slot_tuple_iterator_next
  (wpAny_call_entry F.slot_tuple_iterator_next hit.typeIs F.entry_tuple_iterator_next ?_ (F.args_tuple_iterator_next_1 _))))
 show wpAny _ _ (field (.ref it) 0 >>= _) _ _ s
 refine wpAny_bind (wpAny_field ho hd (x:=.ref t) rfl ?_)
 show wpAny _ _ (if (Value.ref t==Value.none)=true then _ else _) _ _ s
 rwa[if_neg (show ¬((Value.ref t==Value.none)=true) from Bool.false_ne_true)]
 show wpAny _ _ (field (.ref it) 1 >>= _) _ _ s
 refine wpAny_bind (wpAny_field ho hd (x:=.int i 0) rfl ?_)
 show wpAny _ _ (seqItems? (.ref t) >>= _) _ _ s
 refine wpAny_bind (wpAny_seqItems hol hdl ?_)
 simp only[Int.toNat_natCast,hx]
 refine wpAny_bind (wpAny_rule (wpAny_bind (wpAny_setField ho hd (by exact Nat.succ_pos _) ?_)))
 have sb:Heap.SameBut it s.heap (s.heap.update it (Obj.mapFields (·.setIfInBounds 0 .none))):=Heap.SameBut.update ..
 refine oJ ?_ λe h' k ho'=>?_
 . refine hh.imp id ?_
   rintro⟨e,h1,o,vs,h2,h3,h4⟩
   exact⟨e,h1,o,vs,(sb.2 e (hne e h1)).trans h2,h3,h4⟩
 . refine wpAny_bind (wpAny_isInstance (T:="StopIteration") (b:=true) ho' isSubtype_stop ?_)
   exact wpAny_pure (hQ _ λb o hb q=>k b o (sb.extBut b o hb q))
theorem jM{t:Addr}{items:List Value}{nn:Nat}{Q:List Value->Shared->Prop}(ho:tY A s.heap)(hl:s.heap.get? t=some {cls:=.type "tuple",data:=.seq items.toArray nn})
 (hQ:∀h',(∀b o,s.heap.get? b=some o->h'.get? b=some o)->Q items {s with heap:=h'}):wpAny (model prog w) A (unpackItems (.ref t) items.length none) Q E s:=by
 have hT:∀{h:Heap},(∀b o,s.heap.get? b=some o->h.get? b=some o)->h.IsTuple t items.toArray:=λk=>⟨_,k _ _ hl,rfl,nn,rfl⟩
 have new:∀b o,s.heap.get? b=some o->b≠s.heap.objs.size:=λb o e z=>by subst z;exact Nat.lt_irrefl _ (Heap.lt_size e)
 unfold unpackItems
 refine wpAny_bind ?_
 unfold notIterableAtAll
 refine wpAny_bind (wpAny_specialOf (hT λ_ _ e=>e).typeIs F.slot_tuple_iter.lookup ?_)
 refine wpAny_pure ?_
 simp only[Bool.false_eq_true,if_false]
 refine wpAny_bind (wpAny_holding (wpAny_pyIter_tuple (hT λ_ _ e=>e) ?_))
 have k0:∀b o,s.heap.get? b=some o->(s.heap.push {cls:=.type "tuple_iterator",data:=.fields #[.ref t,.int 0 0]}).get? b=some o:=λb o e=>Heap.get?_push_of_some _ e
 have d:=wpAny_draw_tuple (prog:=prog) (w:=w) (A:=A) (E:=E) (t:=t) (items:=items.toArray) (new t _ hl) items.length 0 {s with heap:=s.heap.push {cls:=.type "tuple_iterator",data:=.fields #[.ref t,.int 0 0]}}
 refine wpAny_bind (wpAny_holding (d _ ⟨_,Heap.get?_push_size _ rfl,rfl,rfl⟩ (hT k0) (by simp) λh1 hit1 hs1=>?_))
 have hall:List.take items.length (List.drop 0 items.toArray.toList)=items:=by rwa[List.drop_zero];exact List.take_of_length_le (by simp)
 rwa[hall,if_neg (by simp)]
 have k1:∀b o,s.heap.get? b=some o->h1.get? b=some o:=λb o e=>hs1.extBut b o (new b o e) (k0 b o e)
 refine wpAny_bind (wpAny_holding (NM (ho.keeps k1) hit1 (hT k1) (by simp) ?_ λh2 he2=>?_))
 . intro e he z
   rcases ho with q | ⟨e',q,o,vs,q2,_⟩
   . injection tq q he
   . replace he:=q▸he;cases he;exact new _ _ q2 z
 . simp only[Option.isSome_none,Bool.false_eq_true,if_false]
   exact wpAny_pure (hQ h2 λb o e=>he2 b o (new b o e) (k1 b o e))
end
section
variable{C:Cx}{n:Nat}{sc:Scope}{δ:List (Str×D)}
noncomputable def lc(sc:Scope)(x:Str):Bool:=decide (sc.names.lookup x=some .local)||decide (sc.names.lookup x=some .cell)
theorem jN{x:Str}(h:lc sc x=true):∃k,sc.names.lookup x=some k/\(k=.local\/k=.cell):=by
 simp only[lc,Bool.or_eq_true,decide_eq_true_eq] at h
 rcases h with h | h
 . exact⟨_,h,.inl rfl⟩
 . exact⟨_,h,.inr rfl⟩
theorem vB{env:Env}{s:Shared}{h':Heap}{tk:Tok}(b:oM env s.heap h'):rN env s {s with heap:=h',toks:=tk}:=⟨h',tk,rfl,b⟩
theorem IS{x y:Str}{p q tp pos:Pos}{k:Nat}{e:PySem.Expr}{a b:D}(he:Ev C n sc δ e (.list [a,b]))(hx:lc sc x=true)(hy:lc sc y=true)
 (hs:∀env,swapsWithSole [.Tuple [.Name x p,.Name y q] k tp] e pos.line env=pure false:=by intro _;rfl) (hw:∀env,swappedStores [.Tuple [.Name x p,.Name y q] k tp] e env=pure none:=by intro _;rfl) :
 rO C n sc δ (.Assign [.Tuple [.Name x p,.Name y q] k tp] e pos) (.nxt ((y,b)::(x,a)::δ)):=by
 refine⟨?_⟩
 intro A B env X s Q E O h
 rcases aL (jN hx) with kx|hkx|ox
 rcases aL (jN hy) with ky|hky|oy
 refine Assign_Tuple (he.go A B env X s _ _ O λv s1 k1 r1=>?_) (hs env) (hw env)
 exact sE (O.on k1) r1 hkx ox hky oy λh' tk O' F' _ _=>h _ _ ((rN.of_keeps k1).trans (vB F')) ⟨rfl,O'⟩
theorem NO{x y:Str}{p q tp vp pos:Pos}{k kv:Nat}{e1 e2:PySem.Expr}{a b:D}(h12:uT C n sc δ [e1,e2] [a,b])(hx:lc sc x=true)(hy:lc sc y=true)
 (hw:∀env,env.scope=sc->swappedStores [.Tuple [.Name x p,.Name y q] k tp] (.Tuple [e1,e2] kv vp) env=pure none) :
 rO C n sc δ (.Assign [.Tuple [.Name x p,.Name y q] k tp] (.Tuple [e1,e2] kv vp) pos) (.nxt ((y,b)::(x,a)::δ)):=by
 refine⟨?_⟩
 intro A B env X s Q E O h
 rcases aL (jN hx) with kx|hkx|ox
 rcases aL (jN hy) with ky|hky|oy
 have hsc:env.scope=sc:=let ⟨_,F,_⟩:=O.st;F.scope
 refine Assign_Tuple (wpAny_Tuple (h12.go A B env X vp s _ _ O λvs s1 k1 r1=>⟨by rwa[r1.length];exact (by decide:2<=sizeLine),?_⟩)) rfl (hw env hsc)
 obtain v1|vs|r1|r2|rfl:=iG (aR r1)
 obtain v2|vs|r2|r3|rfl:=iG (aR r2)
 obtain rfl:=bJ r3
 rwa[arm_assign_Tuple ..]
 refine wpAny_bind (wpAny_standAt ?_)
 unfold unpack
 have O1:=O.on k1
 obtain⟨hp,hhp⟩:∃hp,hp=s1.heap.push {cls:=.type "tuple",data:=.seq [v1,v2].toArray}:=⟨_,rfl⟩
 have k0:∀b o,s1.heap.get? b=some o->hp.get? b=some o:=λb o e=>by rwa[hhp];exact Heap.get?_push_of_some _ e
 have ht:hp.get? s1.heap.objs.size=some {cls:=.type "tuple",data:=.seq [v1,v2].toArray}:=by rwa[hhp];exact Heap.get?_push_size _ rfl
 rwa[←hhp]
 have O2:=O1.keeps k0
 show wpAny _ _ (holding _ (unpackItems _ 2 none) >>= λl=>assignInOrder [assign (.Name x p) env,assign (.Name y q) env] l) _ _ _
 refine wpAny_bind (wpAny_holding (jM (s:={s1 with heap:=hp}) (items:=[v1,v2]) O2.ho ht λh1 k2=>?_))
 have O3:=O2.keeps k2
 have kk:∀b o,s1.heap.get? b=some o->h1.get? b=some o:=λb o e=>k2 b o (k0 b o e)
 show wpAny _ _ (holding _ _ >>= λ_=>assignInOrder [assign (.Name y q) env] _) _ _ _
 refine wpAny_bind (wpAny_holding (wpAny_assign_Name (O3.store (s:={s1 with heap:=h1}) (r1.keeps kk) hkx ox λh2 tk2 O4 B2 st2 lo2=>?_)))
 show wpAny _ _ (holding _ _ >>= λ_=>assignInOrder [] _) _ _ _
 rcases aL O3.st with ρ1|F1|_
 have r2':Rd X h2 _ b:=(r2.keeps kk).off F1 B2
 refine wpAny_bind (wpAny_holding (wpAny_assign_Name (O4.store (s:={s1 with heap:=h2,toks:=tk2}) r2' hky oy λh3 tk3 O5 B3 st3 lo3=>?_)))
 exact wpAny_pure (h _ _ ((rN.of_keeps k1).trans ⟨h3,tk3,rfl,(oM.of_keeps kk).trans (B2.trans B3)⟩) ⟨rfl,O5⟩)
theorem sM{x y:Str}{p q tp vp pos:Pos}{k kv:Nat}{e1 e2:PySem.Expr}{a b:D}(h12:uT C n sc δ [e1,e2] [a,b])(hx:lc sc x=true)(hy:lc sc y=true)
 (hw:∀env,env.scope=sc->swappedStores [.Tuple [.Name x p,.Name y q] k tp] (.Tuple [e1,e2] kv vp) env=pure (some [x,y])) :
 rO C n sc δ (.Assign [.Tuple [.Name x p,.Name y q] k tp] (.Tuple [e1,e2] kv vp) pos) (.nxt ((x,a)::(y,b)::δ)):=by
 refine⟨?_⟩
 intro A B env X s Q E O h
 rcases aL (jN hx) with kx|hkx|ox
 rcases aL (jN hy) with ky|hky|oy
 have hsc:env.scope=sc:=let ⟨_,F,_⟩:=O.st;F.scope
 refine Assign_Tuple_swapped (wpAny_Tuple (h12.go A B env X vp s _ _ O λvs s1 k1 r1=>⟨by rwa[r1.length];exact (by decide:2<=sizeLine),?_⟩)) rfl (hw env hsc)
 obtain v1|vs|r1|r2|rfl:=iG (aR r1)
 obtain v2|vs|r2|r3|rfl:=iG (aR r2)
 obtain rfl:=bJ r3
 have O1:=O.on k1
 obtain⟨hp,hhp⟩:∃hp,hp=s1.heap.push {cls:=.type "tuple",data:=.seq [v1,v2].toArray}:=⟨_,rfl⟩
 have k0:∀b o,s1.heap.get? b=some o->hp.get? b=some o:=λb o e=>by rwa[hhp];exact Heap.get?_push_of_some _ e
 have ht:hp.get? s1.heap.objs.size=some {cls:=.type "tuple",data:=.seq [v1,v2].toArray}:=by rwa[hhp];exact Heap.get?_push_size _ rfl
 rwa[←hhp]
 have O2:=O1.keeps k0
 refine jM (s:={s1 with heap:=hp}) (items:=[v1,v2]) O2.ho ht λh1 k2=>?_
 have O3:=O2.keeps k2
 have kk:∀b o,s1.heap.get? b=some o->h1.get? b=some o:=λb o e=>k2 b o (k0 b o e)
 show wpAny _ _ (holding _ (bindName env y v2) >>= λ_=>assignInOrder [bindName env x] [v1]) _ _ _
 refine wpAny_bind (wpAny_holding (bindName_ (O3.store (s:={s1 with heap:=h1}) (r2.keeps kk) hky oy λh2 tk2 O4 B2 st2 lo2=>?_)))
 show wpAny _ _ (holding _ (bindName env x v1) >>= λ_=>assignInOrder [] []) _ _ _
 rcases aL O3.st with ρ1|F1|_
 have r1':Rd X h2 _ a:=(r1.keeps kk).off F1 B2
 refine wpAny_bind (wpAny_holding (bindName_ (O4.store (s:={s1 with heap:=h2,toks:=tk2}) r1' hkx ox λh3 tk3 O5 B3 st3 lo3=>?_)))
 exact wpAny_pure (h _ _ ((rN.of_keeps k1).trans ⟨h3,tk3,rfl,(oM.of_keeps kk).trans (B2.trans B3)⟩) ⟨rfl,O5⟩)
end
section
variable{C:Cx}{n:Nat}{sc:Scope}{δ:List (Str×D)}
theorem DJ{x:Str}{p pos:Pos}{iter:PySem.Expr}{body:List Stmt}{ds:List D}{out:QK}(Δ:Nat->List (Str×D))(m:Nat)(hsr:Sr C n sc δ iter ds)(h0:∀y d,(Δ 0).lookup y=some d->δ.lookup y=some d)(hx:lc sc x=true)
 (hm:m<=ds.length) (hb:∀i d,i<m->ds[i]?=some d->Ex C n sc ((x,d)::Δ i) body (.nxt (Δ (i+1))))
 (hfin:(m=ds.length/\out=.nxt (Δ m))\/∃d r,ds[m]?=some d/\Ex C n sc ((x,d)::Δ m) body (.ret r)/\out=.ret r)
 (hfold:∀env x,foldedSetIterable iter env x=pure x:=by intro _ _;rfl):rO C n sc δ (.For (.Name x p) iter body [] pos) out:=by
 refine⟨?_⟩
 intro A B env X s Q E O h
 rcases aL (jN hx) with kx|hkx|ox
 refine wpAny_For (hsr.go A B env X s _ _ O λI s1 k1 nI ia itr=>?_) (hfold env)
 rcases aL (itr X λa ha=>.inl ha) with At|W|hAt
 rcases bW (O.iterNe nI) with hneI|hBI
 have O1:Ok C n sc (Δ 0) A B env X s1.heap:=(O.on k1).sub h0
 have frI:∀s2:Shared,rN env s s2->∀h',Heap.ExtBut I s2.heap h'->∀tk,rN env s {s2 with heap:=h',toks:=tk}:=λs2 k2 h' e tk=>by
  obtain h2|t2|rfl|b2:=dZ k2
  exact⟨h',tk,rfl,λb o q1 q2 q3=>e b o (λz=>by replace q3:=nI▸z▸q3;injection q3) (b2 b o q1 q2 q3)⟩
 refine codeAny_forLoop (λj s2=>∃i,j=m-i/\i<=m/\Ok C n sc (Δ i) A B env X s2.heap/\At i s2.heap/\rN env s s2) (λj s2 hj=>?_) m ⟨0,rfl,Nat.zero_le _,O1,hAt,.of_keeps k1⟩
 obtain i|rfl|him|O2|At2|K2:=UM hj
 have ia2:=W.obj _ _ At2
 have after:∀(d:D),ds[i]?=some d->(∀(v:Value) (h':Heap) (tk:Tok),Rd X h' v d->At (i+1) h'->Heap.ExtBut I s2.heap h' ->
  wpAny C.M A (assign (.Name x p) env v) (λ_ s3=>wpAny C.M A (execs body env) (λf s4=>match f with
   | .next | .cont=>∃m',m'<m-i/\∃i',m'=m-i'/\i'<=m/\Ok C n sc (Δ i') A B env X s4.heap/\At i' s4.heap/\rN env s s4
   | .brk=>Q .next s4
   | .ret v=>Q (.ret v) s4) (notedBy C.M A env λe s'=>cameBackBy C.M A env E e s') s3) (notedBy C.M A env λe s'=>cameBackBy C.M A env E e s') {s2 with heap:=h',toks:=tk}):=λd hd v h3 tk3 r3 At3 e3=>by
  have O3:=O2.extBut ia2 hBI hneI e3
  have ia3:=W.obj _ _ At3
  refine wpAny_assign_Name (O3.store (s:={s2 with heap:=h3,toks:=tk3}) r3 hkx ox λh4 tk4 O4 B4 st4 lo4=>?_)
  rcases aL O3.st with _|F3|_
  have K4:rN env s {s2 with heap:=h4,toks:=tk4}:=(frI s2 K2 h3 e3 tk3).trans (vB (s:={s2 with heap:=h3,toks:=tk3}) B4)
  have offL:∀b o,IA o->h3.get? b=some o->h4.get? b=some o:=λb o ⟨vs,nn,y⟩ e=>F3.off B4 b o (by rwa[y];intro _ _ z;injection z) (by rwa[y];intro _ z;injection z) e
  have offI:∀o,h3.get? I=some o->h4.get? I=some o:=λo e=>by
   obtain T|fs|o'|e'|hc|hd'|_:=tX ia3
   have h_:=sx e e';clear e';subst h_
   exact F3.off B4 I o (by rwa[hd'];intro _ _ z;injection z) (by rwa[hd'];intro _ z;injection z) e
  have At4:At (i+1) h4:=W.frame _ _ _ At3 offI λb o _ y e=>offL b o y e
  rcases Nat.lt_or_ge i m with q | q
  . refine (hb i d q hd).go A B env X {s2 with heap:=h4,toks:=tk4} _ _ O4 λfl s5 k5 o5=>?_
    obtain rfl|O5:=bW o5
    rcases aL O4.st with _|F4|_
    have ia4:=W.obj _ _ At4
    have k5':=k5
    obtain h5|tk5|rfl|b5:=dZ k5
    have At5:At (i+1) h5:=W.frame _ _ _ At4 (λo e=>by
     obtain T|fs|o'|e'|hc|hd'|_:=tX ia4
     have h_:=sx e e';clear e';subst h_
     exact F4.off b5 I o (by rwa[hd'];intro _ _ z;injection z) (by rwa[hd'];intro _ z;injection z) e) λb o _ ⟨vs,nn,y⟩ e=>F4.off b5 b o (by rwa[y];intro _ _ z;injection z) (by rwa[y];intro _ z;injection z) e
    exact⟨m-(i+1),by grind,i+1,rfl,q,O5,At5,K4.trans k5'⟩
  . have:i=m:=Nat.le_antisymm him q
    subst this
    rcases hfin with⟨e1,_⟩ | ⟨d',r,e1,e2,e3'⟩
    . rw[List.getElem?_eq_none (by omega)] at hd;injection hd
    . have h_:=sx hd e1;clear e1;subst h_
      refine e2.go A B env X {s2 with heap:=h4,toks:=tk4} _ _ O4 λfl s5 k5 o5=>?_
      obtain v'|rfl|r5:=aL o5
      refine h _ _ (K4.trans k5) ?_
      rwa[e3']
      exact⟨v',rfl,r5⟩
 cases hd:ds[i]? with
 | some d=>exact W.item i d s2 _ _ hd At2 λv h3 tk3 r3 At3 e3=>after d hd v h3 tk3 r3 At3 e3
 | none =>
  have hlen:ds.length<=i:=List.getElem?_eq_none_iff.mp hd
  have hi:i=ds.length:=by lia
  subst hi
  refine W.done s2 _ _ O2.ho hneI At2 λh3 e3=>?_
  rcases hfin with⟨e1,e2⟩ | ⟨d',r,e1,_⟩
  . refine wpAny_execs_nil (h _ _ (frI s2 K2 h3 e3 s2.toks) ?_)
    rwa[e2,e1]
    exact⟨rfl,O2.extBut ia2 hBI hneI e3⟩
  . rw[List.getElem?_eq_none (by omega)] at e1;injection e1
theorem IU{x:Str}{p pos:Pos}{iter:PySem.Expr}{body:List Stmt}{ds:List D}(Δ:Nat->List (Str×D))(hsr:Sr C n sc δ iter ds)(h0:∀y d,(Δ 0).lookup y=some d->δ.lookup y=some d)(hx:lc sc x=true)
 (hb:∀i d,ds[i]?=some d->Ex C n sc ((x,d)::Δ i) body (.nxt (Δ (i+1))))
 (hfold:∀env x,foldedSetIterable iter env x=pure x:=by intro _ _;rfl):rO C n sc δ (.For (.Name x p) iter body [] pos) (.nxt (Δ ds.length)) :=
 DJ Δ ds.length hsr h0 hx (Nat.le_refl _) (λi d _ e=>hb i d e) (.inl ⟨rfl,rfl⟩) hfold
end
noncomputable abbrev dU(a b:Str):Prop:=a.cps.toList<=b.cps.toList
theorem dW{a b c:Str}(x:dU a b)(y:dU b c):dU a c:=List.le_trans x y
theorem qI(a b:Str):dU a b\/dU b a:=List.le_total ..
theorem pJ{a b:Str}(x:dU a b)(y:dU b a):a=b:=Str.ext' (Array.toList_inj.mp (List.le_antisymm x y))
theorem lA(a:Str):dU a a:=(qI a a).elim id id
noncomputable def vC(l:List Str):List Str:=l.mergeSort λa b=>decide (dU a b)
theorem pK(l:List Str):(vC l).Perm l:=List.mergeSort_perm ..
theorem sN(l:List Str):(vC l).Pairwise dU:=by
 have:=List.pairwise_mergeSort (le:=λa b=>decide (dU a b)) (λa b c x y=>by simp only[decide_eq_true_eq] at x y ⊢;exact dW x y) (λa b=>by simp only[Bool.or_eq_true,decide_eq_true_eq];exact qI a b) l
 exact this.imp λh=>by simpa using h
theorem rC:∀(p:Str) (l:List Str),risingS p l=true->(p::l).Pairwise dU
 | p,[],_=>List.pairwise_singleton ..
 | p,x::r,h=>by
  have h:(!Spec.ltCps x.cps.toList p.cps.toList&&risingS x r)=true:=h
  rw[Bool.and_eq_true,Bool.not_eq_true',ltCps_eq,decide_eq_false_iff_not] at h
  have ih:=rC x r h.2
  have hpx:dU p x:=List.not_lt.mp h.1
  refine List.pairwise_cons.mpr ⟨λy hy=>?_,ih⟩
  cases hy with
  | head=>exact hpx
  | tail _ hy=>exact dW hpx (List.rel_of_pairwise_cons ih hy)
theorem xX:∀(l:List Str),sortedS l=true->l.Pairwise dU
 | [],_=>.nil
 | x::r,h=>rC x r h
theorem QV{l l':List Str}(hp:l'.Perm l)(hs:l'.Pairwise dU):l'=vC l :=
 List.Perm.eq_of_pairwise (le:=dU) (λa b _ _ x y=>pJ x y) hs (sN l) (hp.trans (pK l).symm)
theorem xY{l l':List Str}(hp:l'.Perm l)(hs:sortedS l'=true):l'=vC l:=QV hp (xX l' hs)
theorem lN(l:List Str):(vC l).length=l.length:=(pK l).length_eq
noncomputable def jB(ss:List Str):Str:=(vC ss).getD ((ss.length-1) / 2) Str.empty
noncomputable def fY(ss:List Str):Str:=(vC ss).getD (ss.length / 2) Str.empty
theorem IV{ss:List Str}{k:Nat}(h:k<ss.length):(ss.map D.str)[k]?=some (.str (ss.getD k Str.empty)):=by
 rwa[List.getElem?_map,List.getElem?_eq_getElem h,List.getD_eq_getElem?_getD,List.getElem?_eq_getElem h];rfl
theorem aC{C:Cx}{n:Nat}{sc:Scope}{δ:List (Str×D)}{e:PySem.Expr}{b b':Bool}(h:Ts C n sc δ e b)(q:b=b'):Ts C n sc δ e b':=q▸h
theorem IW(n:Nat):(n:Int).fdiv 2=((n / 2:Nat):Int):=by rwa[Int.fdiv_eq_ediv_of_nonneg _ ∅];rfl
theorem PT(n:Nat):(n:Int).fmod 2=((n % 2:Nat):Int):=by rwa[Int.fmod_eq_emod_of_nonneg _ ∅];rfl
theorem UZ{k:Nat}(h:k<64):(k:Int)<2 ^ 63:=Int.lt_trans (Int.ofNat_lt.mpr h) ∅
theorem IX{n:Nat}(h:0<n)(q:n % 2=0):(n:Int).fdiv 2-1=(((n-1) / 2:Nat):Int):=by rwa[IW ..];grind
theorem NP{n:Nat}(q:n % 2=1):(n:Int).fdiv 2=(((n-1) / 2:Nat):Int):=by rwa[IW ..];omega
section
variable{C:Cx}{n:Nat}
theorem AX{e i:PySem.Expr}{pos:Pos}{sc:Scope}{δ:List (Str×D)}{ss:List Str}{k:Nat}(he:Ev C n sc δ e (.list ((vC ss).map .str)))(hi:Ev C n sc δ i (.int (k:Int)))(hk:k<ss.length)(h1:ss.length<64)
 (hs:∀(l:Addr) (t:Tok),subscripted i false (.ref l) (.int k t)=operate [.ref l,.int k t] (getItem (.ref l) (.int k t))):Ev C n sc δ (.Subscript e i pos) (.str ((vC ss).getD k Str.empty)) :=
 cY (k:=(k:Int)) he hi (Int.natCast_nonneg _) (IV (k:=k) (by rwa[lN ..];exact hk)) (UZ (Nat.lt_trans hk h1)) hs
theorem sO{f:Addr}(F:fV C f 7 ["data"])(b:Bs C){ss:List Str}(h0:0<ss.length)(h1:ss.length<64):Fn C (n+1) f [.list (ss.map .str)] (.str (fY ss)):=by
 have hz:((vC ss).map D.str).length<=sizeLine:=by rwa[List.length_map ..,lN ..];exact Nat.le_trans (Nat.le_of_lt h1) ∅
 refine jD F rfl ∅ ?_
 refine bD (bS (d:=.list ((vC ss).map .str)) (cP rfl b.sorted.1 b.sorted.2 ∅ (bY (aA rfl rfl)) (uX h1 λss'=>xY)) ∅) ?_
 refine bD (bS (d:=.int (ss.length:Int)) (bA (cP rfl b.len.1 b.len.2 ∅ (bY (aA rfl rfl)) (dC hz)) (by rwa[List.length_map ..,lN ..];rfl)) ∅) ?_
 refine bD (bZ (b:=false) (aC (aH (aA rfl rfl) aG dB) (beq_eq_false_iff_ne.mpr (Int.natCast_ne_zero.mpr (Nat.ne_of_gt h0)))) bQ) ?_
 refine bV (bO ?_)
 exact AX (aA rfl rfl) (bA (qH (aA rfl rfl) aG ∅ ∅) (by rwa[IW ..];rfl)) (Nat.div_lt_self h0 ∅) h1 (λ_ _=>by with_unfolding_all rfl)
theorem uC{f:Addr}(F:fV C f 6 ["data"])(b:Bs C){ss:List Str}(h0:0<ss.length)(h1:ss.length<64):Fn C (n+1) f [.list (ss.map .str)] (.str (jB ss)):=by
 have hz:((vC ss).map D.str).length<=sizeLine:=by rwa[List.length_map ..,lN ..];exact Nat.le_trans (Nat.le_of_lt h1) ∅
 have hm:(ss.length-1) / 2<ss.length:=Nat.lt_of_le_of_lt (Nat.div_le_self _ _) (Nat.sub_lt h0 ∅)
 refine jD F rfl ∅ ?_
 refine bD (bS (d:=.list ((vC ss).map .str)) (cP rfl b.sorted.1 b.sorted.2 ∅ (bY (aA rfl rfl)) (uX h1 λss'=>xY)) ∅) ?_
 refine bD (bS (d:=.int (ss.length:Int)) (bA (cP rfl b.len.1 b.len.2 ∅ (bY (aA rfl rfl)) (dC hz)) (by rwa[List.length_map ..,lN ..];rfl)) ∅) ?_
 refine bD (bZ (b:=false) (aC (aH (aA rfl rfl) aG dB) (beq_eq_false_iff_ne.mpr (Int.natCast_ne_zero.mpr (Nat.ne_of_gt h0)))) bQ) ?_
 rcases Nat.mod_two_eq_zero_or_one ss.length with q | q
 . refine bV (bZ (b:=false) (aC (aH (sL (aA rfl rfl) aG ∅) aG dB) (by rwa[PT ..,q];decide)) ?_)
   refine bV (bO ?_)
   exact AX (aA rfl rfl) (bA (mM (qH (aA rfl rfl) aG ∅ ∅) aG) (by rwa[IX h0 q];rfl)) hm h1 (λ_ _=>by with_unfolding_all rfl)
 . refine bV (bZ (b:=true) (aC (aH (sL (aA rfl rfl) aG ∅) aG dB) (by rwa[PT ..,q];decide)) ?_)
   refine bV (bO ?_)
   exact AX (aA rfl rfl) (bA (qH (aA rfl rfl) aG ∅ ∅) (by rwa[NP q];rfl)) hm h1 (λ_ _=>by with_unfolding_all rfl)
end
noncomputable def jO:Str:="'\"'\"'"
noncomputable def iD:Str:="'"
noncomputable def bP(w:Str):Str:=if Txt.contains w iD then iD++Txt.join jO (Txt.split w iD)++iD else w
theorem mR(x:Str):∀l:List Str,(Str.join x l).length<=(l.map (·.length)).sum+l.length*x.length
 | []=>by simp[Str.join];rfl
 | [y]=>by simp[Str.join]
 | y::z::r=>by
  show (y++x++Str.join x (z::r)).length<=_
  have:=mR x (z::r)
  rwa[iS ..,iS ..,List.map_cons (l:=z::r),List.sum_cons,List.length_cons (as:=z::r),Nat.add_mul ..]
  lia
theorem EW{C:Cx}{n:Nat}{f:Addr}(F:fV C f 42 ["word"])(w:Str)(hw:w.length<=1000):Fn C (n+1) f [.str w] (.str (bP w)):=by
 have h1:(Txt.split w iD).length<=1002:=Nat.le_trans (split_le w iD) (by exact Nat.add_le_add_right (by assumption) _)
 have h2:((Txt.split w iD).map (·.length)).sum<=1001:=Nat.le_trans (Nat.le_trans (Nat.le_add_right _ _) (split_weight w iD ∅)) (by exact Nat.lt_of_le_of_lt (by assumption) ∅)
 have e5:jO.length=5:=∅
 have e1:iD.length=1:=∅
 have h3:=mR jO (Txt.split w iD)
 replace h3:=e5▸h3
 have hz:∀k,k<=10000->k<=sizeLine:=λk h=>Nat.le_trans h ∅
 refine jD F rfl ∅ ?_
 refine bV (bO ?_)
 refine pH (b:=Txt.contains w iD) (aH aT (aA rfl rfl) gM) ?_
 unfold bP
 cases Txt.contains w iD with
 | false=>exact aA rfl rfl
 | true =>
  refine cR (a:=.str (iD++Txt.join jO (Txt.split w iD))) (b:=.str iD) (cR (a:=.str iD) (b:=.str (Txt.join jO (Txt.split w iD))) aT ?_ (lK ?_)) aT (lK ?_)
  . refine mL (x:=jO) (ds:=[.list ((Txt.split w iD).map .str)]) aT (bY ?_) (vV ?_) _root_.PySem.F.plainAttrs_str _root_.PySem.F.slot_str_join _root_.PySem.F.type_str_join ∅
    . refine mL (x:=w) (ds:=[.str iD]) (aA rfl rfl) (bY aT) (IO ∅ (hz _ (by exact Nat.le_trans (by assumption) ∅)) ?_) _root_.PySem.F.plainAttrs_str _root_.PySem.F.slot_str_split _root_.PySem.F.type_str_split ∅
      exact hz _ (by rwa[len_partsBetween ..];have:=StrLaws.occ_length_le w iD 0 w.length (w.length+1);lia)
    . rwa[e5];lia
  . rwa[hG ..];exact hz _ (by lia)
  . rwa[iS ..,hG ..];exact hz _ (by lia)
noncomputable def UO:Str:="="
noncomputable def dR(w:Str):Nat:=(Builtin.Str.occurrences w UO 0 w.length (w.length+1)).length
noncomputable def cD(w:Str):Nat:=[0,2,3].getD (dR w) 0
noncomputable def sP(pile:List (Str×Str))(w:Str):List (Str×Str) :=
 (if 0<cD w then (jB ((pile.take (cD w)).map (·.1)),fY ((pile.take (cD w)).map (·.2))) else (w,w))::pile.drop (cD w)
noncomputable def iW:List Str->List (Str×Str)
 | []=>[]
 | w::r=>sP (iW r) w
noncomputable def mS(p:Str×Str):D:=.list [.str p.1,.str p.2]
noncomputable def xZ:List Str->Prop
 | []=>True
 | w::r=>xZ r/\dR w<=2/\(0<cD w->iW r≠[])
theorem vD:∀l:List Str,(iW l).length<=l.length
 | []=>Nat.le_refl _
 | w::r=>by
  have:=vD r
  unfold iW sP
  simp;lia
section
variable{C:Cx}{n:Nat}{sc:Scope}{δ:List (Str×D)}
theorem AY{v:PySem.Expr}{w:Str}{apos pos:Pos}{kp:Nat}{p1:Pos}(hv:Ev C n sc δ v (.str w))(hl:(apos.endLine==pos.line)=true)
 (hab:∀env,attributeBase v ("count":Str) env (eval v env)=eval v env:=by intro _;rfl) :
 Ev C n sc δ (.Call (.Attribute v ("count":Str) apos) [.Constant (.str ("=":Str)) kp p1] [] pos) (.int (dR w:Int)) :=
 mL (x:=w) (ds:=[.str UO]) hv (bY aT) IK _root_.PySem.F.plainAttrs_str _root_.PySem.F.slot_str_count _root_.PySem.F.type_str_count hl (hab:=hab)
theorem pM{f:Str×Str->Str}{pile:List (Str×Str)}{k j:Nat}{d o:D}(e1:((pile.map mS).take k)[j]?=some d)(e2:(((pile.take k).map f).map D.str)[j]?=some o):∃p:Str×Str,d=mS p/\o=.str (f p):=by
 replace e1:=(List.getElem?_map)▸List.map_take.symm▸e1
 replace e2:=(List.getElem?_map)▸(List.getElem?_map)▸e2
 cases q:(pile.take k)[j]? with
 | none=>replace e1:=q▸e1;injection e1
 | some p =>
  replace e1:=q▸e1;replace e2:=q▸e2
  obtain rfl:=Option.some.inj e1;obtain rfl:=Option.some.inj e2
  exact⟨p,rfl,rfl⟩
theorem IY{f lo hi:Addr}(F:fV C f 44 ["read"])(b:Bs C)(FL:fV C lo 6 ["data"])(FH:fV C hi 7 ["data"])(gL:C.mg ("median_low":Str)=some (.ref lo))(gH:C.mg ("median_high":Str)=some (.ref hi))
 (l:List Str) (hl:l.length<60) (ho:xZ l):Fn C (n+2) f [.list (l.map .str)] (.list ((iW l).map mS)):=by
 have hz:∀k,k<100->k<=sizeLine:=λk h=>Nat.le_trans (Nat.le_of_lt h) ∅
 refine jD F rfl ∅ ?_
 refine bD (bS (d:=.list []) (bU bM ∅) ∅) ?_
 refine bD (IU (ds:=(l.map D.str).reverse) (λi=>[(("pile":Str),.list ((iW (l.drop (l.length-i))).map mS))]) (eJ (QN (aA rfl rfl) (AU aG) (by rwa[List.length_map ..];exact hz _ (by exact Nat.lt_of_lt_of_le (by assumption) ∅)))) ?_ ∅ λi d hd=>?_) ?_
 . intro y d e
   simp only[Nat.sub_zero,List.drop_length] at e
   rw[List.lookup_cons] at e ⊢
   split at e
   . exact e
   . injection e
 . have hi:i<l.length:=by
    have:=(List.getElem?_eq_some_iff.mp hd).1
    simpa using this
   obtain⟨w,rfl,hw⟩:∃w,d=.str w/\l.drop (l.length-(i+1))=w::l.drop (l.length-i):=by
    have hj:l.length-(i+1)<l.length:=by omega
    refine⟨l[l.length-(i+1)],?_,?_⟩
    . replace hd:=(List.getElem?_reverse hi)▸(List.getElem?_map)▸List.map_reverse.symm▸hd
      replace hd:=(List.getElem?_eq_getElem hj)▸(show l.length-1-i=l.length-(i+1) by lia)▸hd
      simpa using hd.symm
    . rwa[List.drop_eq_getElem_cons hj,show l.length-(i+1)+1=l.length-i by grind];rfl
   have okd:∀k,xZ (l.drop k):=λk=>by
    have:∀(k:Nat) (l:List Str),xZ l->xZ (l.drop k):=λk=>by
     induction k with
     | zero=>exact λl h=>h
     | succ k ih=>exact λl h=>by cases l with | nil=>exact h | cons a r=>exact ih r h.1
    exact this k l ho
   have okw:=okd (l.length-(i+1))
   replace okw:=hw▸okw
   obtain _|hc|hne:=tZ okw
   obtain⟨P,hP⟩:∃P,P=iW (l.drop (l.length-i)):=⟨_,rfl⟩
   have hPl:P.length<60:=by rwa[hP];have:=vD (l.drop (l.length-i));replace this:=List.length_drop▸this;lia
   replace hne:=hP.symm▸hne
   have goalΔ:iW (l.drop (l.length-(i+1)))=sP P w:=by rwa[hw,hP];rfl
   rwa[goalΔ,←hP]
   have ha:cD w<=3:=by unfold cD;match dR w,hc with
    | 0,_=>decide
    | 1,_=>decide
    | 2,_=>decide
   refine pD (δ':=_) (bD (bS (d:=.int (cD w:Int)) ?_ ∅) (bD (sM (a:=.list (((P.take (cD w)).map (·.1)).map .str)) (b:=.list (((P.take (cD w)).map (·.2)).map .str)) ?_ ∅ ∅ ?_) (bD (bS (d:=.list ((sP P w).map mS)) ?_ ∅) bQ))) ?_
   . refine bA (cY (ds:=[.int 0,.int 2,.int 3]) (k:=(dR w:Int)) (bU (aF aG (aF aG (aF aG bM))) ∅) (AY (aA rfl rfl) ∅) (by exact Int.natCast_nonneg _) (d:=.int (cD w:Int)) ?_ (by lia)) rfl
     unfold cD
     match dR w,hc with
     | 0,_=>rfl
     | 1,_=>rfl
     | 2,_=>rfl
   . have lenT:∀g:Str×Str->Str,(((P.take (cD w)).map g).map D.str).length=((P.map mS).take (cD w)).length:=λg=>by simp
     have lenZ:∀g:Str×Str->Str,(((P.take (cD w)).map g).map D.str).length<=sizeLine:=λg=>by refine Nat.le_trans ?_ (hz 60 ∅);simp;grind
     refine aF (sK (ds:=(P.map mS).take (cD w)) (eJ (nX (aA rfl rfl) (aA rfl rfl) (by rwa[List.length_map ..];exact hz _ (by exact Nat.lt_of_lt_of_le (by assumption) ∅)))) ∅ (lenT _) (lenZ _) λj d o e1 e2=>?_) (bY (sK (ds:=(P.map mS).take (cD w)) (eJ (nX (aA rfl rfl) (aA rfl rfl) (by rwa[List.length_map ..];exact hz _ (by exact Nat.lt_of_lt_of_le (by assumption) ∅)))) ∅ (lenT _) (lenZ _) λj d o e1 e2=>?_))
     . rcases aL (pM e1 e2) with p|rfl|rfl
       exact⟨_,DE (by rfl) (by rfl) (by rfl) (by rfl) ∅,aA rfl rfl⟩
     . rcases aL (pM e1 e2) with p|rfl|rfl
       exact⟨_,DE (by rfl) (by rfl) (by rfl) (by rfl) ∅,aA rfl rfl⟩
   . intro env h
     obtain⟨_,_⟩:=env
     subst h
     rfl
   . refine bA (cR (a:=.list [mS (if 0<cD w then (jB ((P.take (cD w)).map (·.1)),fY ((P.take (cD w)).map (·.2))) else (w,w))]) (b:=.list ((P.map mS).drop (cD w))) (bU (bY ?_) (hz 1 ∅)) (rX (aA rfl rfl) (aA rfl rfl) (by rwa[List.length_map ..];exact hz _ (by exact Nat.lt_of_lt_of_le (by assumption) ∅))) (dD (by refine Nat.le_trans ?_ (hz 62 ∅);simp;lia))) (by unfold sP;rwa[List.map_cons,List.map_drop];rfl)
     refine pH (b:=decide (0<(cD w:Int))) (aH (aA rfl rfl) aG qE) ?_
     by_cases q:0<cD w
     . rwa[if_pos (by simpa using q),if_pos q]
       have hPn:0<P.length:=List.length_pos_iff.mpr (hne q)
       have l1:∀g:Str×Str->Str,0<((P.take (cD w)).map g).length:=λg=>by simp;lia
       have l2:∀g:Str×Str->Str,((P.take (cD w)).map g).length<64:=λg=>by simp;grind
       exact bU (aF (cT FL rfl gL ∅ (bY (aA rfl rfl)) (uC FL b (l1 _) (l2 _))) (bY (cT FH rfl gH ∅ (bY (aA rfl rfl)) (sO FH b (l1 _) (l2 _))))) (hz 2 ∅)
     . rwa[if_neg (by simpa using q),if_neg q]
       exact bU (aF (aA rfl rfl) (bY (aA rfl rfl))) (hz 2 ∅)
   . intro y d e
     rw[List.lookup_cons] at e ⊢
     split at e
     . exact e
     . injection e
 . refine bV (bO (bA (aA rfl rfl) ?_))
   rwa[List.length_reverse,List.length_map ..,Nat.sub_self ..,List.drop_zero];rfl
end
inductive Tr where
 | leaf (w:Str)
 | n2 (a b:Tr)
 | n3 (a b c:Tr)
noncomputable def Tr.toD:Tr->D
 | .leaf w=>.str w
 | .n2 a b=>.list [a.toD,b.toD]
 | .n3 a b c=>.list [a.toD,b.toD,c.toD]
noncomputable def mk(w:Str):List Tr->Tr
 | [a,b]=>.n2 a b
 | [a,b,c]=>.n3 a b c
 | _=>.leaf w
noncomputable def cU(g:List Str->Option (Tr×Nat))(r:List Str):Nat->Option (List Tr×Nat)
 | 0=>some ([],0)
 | i+1=>match cU g r i with
  | none=>none
  | some (bs,p)=>match g (r.drop p) with
   | none=>none
   | some (t,q)=>some (bs++[t],p+q)
noncomputable def cV:Nat->List Str->Option (Tr×Nat)
 | 0,_=>none
 | _+1,[]=>none
 | m+1,w::r=>match cU (cV m) r (cD w) with
  | none=>none
  | some (bs,p)=>some (mk w bs,1+p)
noncomputable def IZ:List Stmt:=match aX (aY 46) with
 | [_,_,.For _ _ b _ _,_]=>b
 | _=>[]
noncomputable def gD:Option (Tr×Nat)->D
 | none=>.none
 | some (t,p)=>.list [t.toD,.int (p:Int)]
theorem lC{g:List Str->Option (Tr×Nat)}{r:List Str}:∀{i:Nat} {bs:List Tr} {p:Nat},cU g r i=some (bs,p)->bs.length=i
 | 0,_,_,h=>by cases h;rfl
 | i+1,bs,p,h=>by
  unfold cU at h
  cases q:cU g r i with
  | none=>replace h:=q▸h;injection h
  | some x =>
   obtain⟨bs',p'⟩:=x
   replace h:=q▸h
   dsimp only at h
   cases q2:g (r.drop p') with
   | none=>replace h:=q2▸h;injection h
   | some y =>
    obtain⟨t,z⟩:=y
    replace h:=q2▸h
    cases h
    simp[lC q]
theorem oU{g:List Str->Option (Tr×Nat)}{r:List Str}:∀{k:Nat},cU g r k=none->∃m bs p,m<k/\cU g r m=some (bs,p)/\g (r.drop p)=none
 | 0,h=>by injection h
 | i+1,h=>by
  cases q:cU g r i with
  | none =>
   rcases eU (oU q) with m|bs|p|h1|h2
   exact⟨m,bs,p,Nat.lt_succ_of_lt h1,h2⟩
  | some x =>
   obtain⟨bs',p'⟩:=x
   refine⟨i,bs',p',Nat.lt_succ_self _,q,?_⟩
   unfold cU at h
   replace h:=q▸h
   dsimp only at h
   cases q2:g (r.drop p') with
   | none=>rfl
   | some y=>replace h:=q2▸h;injection h
theorem lO{g:List Str->Option (Tr×Nat)}{r:List Str}:∀{k:Nat} {x:List Tr×Nat},cU g r k=some x->∀i,i<=k->∃y,cU g r i=some y
 | 0,x,h,i,hi=>by
  obtain rfl:i=0:=by lia
  exact⟨_,h⟩
 | k+1,x,h,i,hi=>by
  by_cases e:i=k+1
  . subst e;exact⟨_,h⟩
  . cases q:cU g r k with
    | none=>unfold cU at h;replace h:=q▸h;injection h
    | some y=>exact lO q i (by lia)
theorem eY{w:Str}(h:dR w<=2):(dR w=0/\cD w=0)\/(dR w=1/\cD w=2)\/(dR w=2/\cD w=3):=by
 unfold cD
 match q:dR w,h with
 | 0,_=>exact .inl ⟨rfl,rfl⟩
 | 1,_=>exact .inr (.inl ⟨rfl,rfl⟩)
 | 2,_=>exact .inr (.inr ⟨rfl,rfl⟩)
theorem QW{w:Str}{bs:List Tr}(h:bs.length=cD w)(hc:dR w<=2):(mk w bs).toD=if bs=[] then .str w else .list (bs.map Tr.toD):=by
 rcases eY hc with⟨_,q⟩ | ⟨_,q⟩ | ⟨_,q⟩<;>replace h:=q▸h
 . have:bs=[]:=List.length_eq_zero_iff.mp h
   subst this;rfl
 . match bs,h with
   | [a,b],_=>rfl
 . match bs,h with
   | [a,b,c],_=>rfl
theorem eA{δ':List (Str×D)}:∀y dd,([]:List (Str×D)).lookup y=some dd->δ'.lookup y=some dd:=λ_ _ e=>by injection e
theorem aM{δ δ':List (Str×D)}{x:Str}{d:D}(h:δ'.lookup x=some d)(t:∀y dd,δ.lookup y=some dd->δ'.lookup y=some dd):∀y dd,((x,d)::δ).lookup y=some dd->δ'.lookup y=some dd:=λy dd e=>by
 rw[List.lookup_cons] at e
 split at e
 . rename_i q
   have:y=x:=by simpa using q
   subst this
   obtain rfl:=Option.some.inj e;exact h
 . exact t y dd e
section
variable{C:Cx}{n:Nat}{sc:Scope}{δ:List (Str×D)}
theorem yA{v:PySem.Expr}{w:Str}{lp pos apos cp p1 a1 a2 a3:Pos}{kp k1 k2 k3:Nat}(hv:Ev C n sc δ v (.str w))(hc:dR w<=2)(hl:(apos.endLine==cp.line)=true)
 (hab:∀env,attributeBase v ("count":Str) env (eval v env)=eval v env:=by intro _;rfl) :
 Ev C n sc δ (.Subscript (.List [.Constant (.int 0) k1 a1,.Constant (.int 2) k2 a2,.Constant (.int 3) k3 a3] lp) (.Call (.Attribute v ("count":Str) apos) [.Constant (.str ("=":Str)) kp p1] [] cp) pos) (.int (cD w:Int)):=by
 refine cY (ds:=[.int 0,.int 2,.int 3]) (k:=(dR w:Int)) (bU (aF aG (aF aG (aF aG bM))) ∅) (AY hv hl (hab:=hab)) (by exact Int.natCast_nonneg _) ?_ (by lia)
 rcases eY hc with⟨q1,q2⟩ | ⟨q1,q2⟩ | ⟨q1,q2⟩<;>(rwa[q1,q2])<;>rfl
theorem JA{f:Addr}(F:fV C f 46 ["words"])(b:Bs C)(g:C.mg ("_law_grown":Str)=some (.ref f)):∀(m:Nat) (words:List Str),words.length<=m->m<60->(∀w∈words,dR w<=2)->Fn C (m+1) f [.list (words.map .str)] (gD (cV m words)):=by
 have hz:∀k,k<100->k<=sizeLine:=λk h=>Nat.le_trans (Nat.le_of_lt h) ∅
 have hz':∀k,k<100->k+1<=sizeLine:=λk h=>Nat.le_trans h ∅
 intro m
 induction m with
 | zero =>
  intro words hl hm hw
  obtain rfl:words=[]:=List.length_eq_zero_iff.mp (Nat.le_zero.mp hl)
  refine jD F rfl ∅ ?_
  exact bV (bZ (b:=true) (aH (aA rfl rfl) (bU bM ∅) qD) (bV (bO cB)))
 | succ m ih =>
  intro words hl hm hw
  refine jD F rfl ∅ ?_
  cases words with
  | nil=>exact bV (bZ (b:=true) (aH (aA rfl rfl) (bU bM ∅) qD) (bV (bO cB)))
  | cons w r =>
   have hc:=hw w (.head _)
   refine bD (bZ (b:=false) (aH (aA rfl rfl) (bU bM ∅) qD) bQ) ?_
   refine bD (sM (a:=.list []) (b:=.int 1) (aF (bU bM ∅) (bY aG)) ∅ ∅ ?_) ?_
   . intro env h
     obtain⟨_,_⟩:=env
     subst h
     rfl
   have hlen:((w::r).map D.str).length<=sizeLine:=by rwa[List.length_map ..];exact hz _ (by lia)
   let Δ:Nat->List (Str×D):=λi=>match cU (cV m) r i with
    | some (bs,p)=>[(("branches":Str),.list (bs.map Tr.toD)),(("place":Str),.int ((1+p:Nat):Int)),(("words":Str),.list ((w::r).map .str))]
    | none=>[]
   have hΔ:∀{i bs p},cU (cV m) r i=some (bs,p)->Δ i=[(("branches":Str),.list (bs.map Tr.toD)),(("place":Str),.int ((1+p:Nat):Int)),(("words":Str),.list ((w::r).map .str))]:=λ{i bs p} e=>by show (match cU (cV m) r i with | some (bs,p)=>_ | none=>_)=_;rwa[e];rfl
   have lenr:∀i,(r.drop i).length<=m:=λi=>by rwa[List.length_drop];simp at hl;lia
   have call:∀(p:Nat),Fn C (m+1) f [.list ((r.drop p).map .str)] (gD (cV m (r.drop p))):=λp=>ih (r.drop p) (lenr p) (by exact Nat.le_of_lt (by assumption)) λy hy=>hw y (.tail _ (List.mem_of_mem_drop hy))
   have dropw:∀p:Nat,((w::r).map D.str).drop (1+p)=(r.drop p).map D.str:=λp=>by rwa[Nat.add_comm ..,List.map_cons,List.drop_succ_cons,List.map_drop];rfl
   have h3:∀l:List Tr,l.length<=10->(l.map Tr.toD).length+1<=sizeLine:=λl hl=>hz' _ (by rwa[List.length_map ..];exact Nat.lt_of_le_of_lt (by assumption) ∅)
   have ar:cD w<=3:=by rcases eY hc with⟨_,q⟩ | ⟨_,q⟩ | ⟨_,q⟩<;>lia
   have go:∀(i:Nat) (d:D) (bs:List Tr) (p:Nat) (t:Tr) (q:Nat),i<3->cU (cV m) r i=some (bs,p)->cV m (r.drop p)=some (t,q)->∀body,body=IZ ->
    Ex C (m+1) (aD (aY 46)) ((("k":Str),d)::Δ i) body (.nxt (Δ (i+1))):=by
    intro i d bs p t q hi e1 e2 body hb
    have e3:cU (cV m) r (i+1)=some (bs++[t],p+q):=by unfold cU;rwa[e1];dsimp only;rwa[e2];rfl
    have c:=call p
    replace c:=e2▸c
    have hbl:=lC e1
    rwa[hΔ e1,hΔ e3,hb]
    refine pD (bD (bS (d:=gD (some (t,q))) (cT F rfl g ∅ (bY (bA (rX (a:=1+p) (aA rfl rfl) (aA rfl rfl) hlen) (by rwa[dropw ..];rfl))) c) ∅) (bD (bZ (b:=false) (aH (aA rfl rfl) cB cH) bQ)
     (bD (sM (a:=.list ((bs++[t]).map Tr.toD)) (b:=.int ((1+(p+q):Nat):Int)) (aF (bA (cR (a:=.list (bs.map Tr.toD)) (b:=.list [t.toD]) (aA rfl rfl) (bU (bY (cY (ds:=[t.toD,.int (q:Int)]) (k:=0) (d:=t.toD) (aA rfl rfl) aG ∅ rfl ∅)) (hz 1 ∅)) (dD (h3 bs (by lia)))) (by rwa[List.map_append];rfl))
      (bY (bA (oQ (a:=((1+p:Nat):Int)) (b:=(q:Int)) (aA rfl rfl) (cY (ds:=[t.toD,.int (q:Int)]) (k:=1) (d:=.int (q:Int)) (aA rfl rfl) aG ∅ rfl ∅)) (by congr 1;lia)))) ∅ ∅ ?_) bQ))) ?_
    . intro env h
      obtain⟨_,_⟩:=env
      subst h
      rfl
    . exact aM rfl (aM rfl (aM rfl eA))
   have gone:∀i,i<cD w->(∃y,cU (cV m) r (i+1)=some y)->∃bs p t q,cU (cV m) r i=some (bs,p)/\cV m (r.drop p)=some (t,q):=by
    intro i hi ⟨y,hy⟩
    unfold cU at hy
    cases q1:cU (cV m) r i with
    | none=>replace hy:=q1▸hy;injection hy
    | some x =>
     obtain⟨bs,p⟩:=x
     replace hy:=q1▸hy
     dsimp only at hy
     cases q2:cV m (r.drop p) with
     | none=>replace hy:=q2▸hy;injection hy
     | some z=>exact⟨bs,p,z.1,z.2,rfl,q2⟩
   have start:∀(y:Str) (d:D),(Δ 0).lookup y=some d->((("branches":Str),D.list [])::(("place":Str),D.int 1)::[("words":Str)].zip [D.list (List.map D.str (w::r))]).lookup y=some d:=λy d e=>e
   cases e:cU (cV m) r (cD w) with
   | some x =>
    obtain⟨bs,p⟩:=x
    have gr:cV (m+1) (w::r)=some (mk w bs,1+p):=by
     show (match cU (cV m) r (cD w) with | none=>none | some (bs,p)=>some (mk w bs,1+p))=_
     rwa[e];rfl
    have hbl:=lC e
    refine bD (IU (ds:=kU (cD w)) Δ (iU (m:=cD w) (yA (cY (ds:=(w::r).map .str) (k:=0) (d:=.str w) (aA rfl rfl) aG ∅ rfl ∅) hc ∅) (by exact Nat.lt_of_le_of_lt (by assumption) ∅) (by rfl) b.range.1 b.range.2) start ∅ λi d hd=>?_) ?_
    . rcases bW (iV hd) with _|hi
      rcases UU (gone i hi (lO e (i+1) hi)) with bs'|p'|t|q|e1|e2
      exact go i d bs' p' t q (by exact Nat.lt_of_lt_of_le (by assumption) (by assumption)) e1 e2 _ rfl
    . rwa[mO ..,hΔ e,gr]
      refine bV (bO (bU (aF (d:=(mk w bs).toD) ?_ (bY (aA rfl rfl))) (hz 2 ∅)))
      rwa[QW hbl hc]
      refine pH (b:=!((bs.map Tr.toD).isEmpty)) (aH (aA rfl rfl) (bU bM ∅) ET) ?_
      cases bs with
      | nil=>exact cY (ds:=(w::r).map .str) (k:=0) (d:=.str w) (aA rfl rfl) aG ∅ rfl ∅
      | cons t ts=>exact aA rfl rfl
   | none =>
    have gr:cV (m+1) (w::r)=none:=by
     show (match cU (cV m) r (cD w) with | none=>none | some (bs,p)=>some (mk w bs,1+p))=_
     rwa[e];rfl
    rwa[gr]
    rcases nV (oU e) with k|bs|p|hk|e1|e2
    refine bV (DJ (ds:=kU (cD w)) Δ k (iU (m:=cD w) (yA (cY (ds:=(w::r).map .str) (k:=0) (d:=.str w) (aA rfl rfl) aG ∅ rfl ∅) hc ∅) (by exact Nat.lt_of_le_of_lt (by assumption) ∅) (by rfl) b.range.1 b.range.2) start ∅ (by rwa[mO ..];exact Nat.le_of_lt (by assumption)) (λi d hi hd=>?_) (.inr ⟨.int (k:Int),.none,?_,?_,rfl⟩))
    . rcases bW (iV hd) with _|hi'
      rcases UU (gone i hi' (lO e1 (i+1) hi)) with bs'|p'|t|q|e1|e2
      exact go i d bs' p' t q (by exact Nat.lt_of_lt_of_le (by assumption) (by assumption)) e1 e2 _ rfl
    . unfold kU;rwa[List.getElem?_map,List.getElem?_range hk];rfl
    . have c:=call p
      replace c:=e2▸c
      rwa[hΔ e1]
      exact bD (bS (d:=gD none) (cT F rfl g ∅ (bY (bA (rX (a:=1+p) (aA rfl rfl) (aA rfl rfl) hlen) (by rwa[dropw ..];rfl))) c) ∅) (bV (bZ (b:=true) (aH (aA rfl rfl) cB cH) (bV (bO cB))))
end
noncomputable abbrev iH:=List Str
noncomputable def jY(A B:List iH):List iH:=A.flatMap λpN=>B.map λother=>pN++other
noncomputable def dE(Ps:List (List iH)):List iH:=(List.range Ps.length).flatMap λi=>(List.range i).flatMap λj=>jY (Ps.getD i []) (Ps.getD j [])
noncomputable def Tr.nodes:Tr->Nat
 | .leaf _=>1
 | .n2 a b=>1+a.nodes+b.nodes
 | .n3 a b c=>1+a.nodes+b.nodes+c.nodes
noncomputable def aI(few:Bool):Tr->List iH
 | .leaf w=>[[w]]
 | .n2 a b=>if few then aI few a++aI few b else dE [aI few a,aI few b]
 | .n3 a b c=>dE [aI few a,aI few b,aI few c]
noncomputable def jZ(p:iH):D:=.list (p.map .str)
noncomputable def eD(l:List iH):D:=.list (l.map jZ)
theorem lD(A B:List iH):(jY A B).length=A.length*B.length:=by
 unfold jY
 rwa[List.length_flatMap]
 simp only[List.length_map]
 induction A with
 | nil=>simp
 | cons a r ih=>rwa[List.map_cons,List.sum_cons,ih,List.length_cons,Nat.succ_mul ..,Nat.add_comm ..];rfl
theorem lE(a b:List iH):dE [a,b]=jY b a:=by simp[dE,List.range_succ,List.range_zero]
theorem lG(a b c:List iH):dE [a,b,c]=jY b a++(jY c a++jY c b):=by simp[dE,List.range_succ,List.range_zero]
theorem Tr.pos:∀t:Tr,1<=t.nodes
 | .leaf _=>Nat.le_refl _
 | .n2 _ _=>by unfold Tr.nodes;lia
 | .n3 _ _ _=>by unfold Tr.nodes;lia
theorem mT(a b:Nat):2 ^ a*2 ^ b=2 ^ (a+b):=(Nat.pow_add 2 a b).symm
theorem eZ(few:Bool):∀t:Tr,(aI few t).length<=2 ^ t.nodes
 | .leaf _=>by exact Nat.succ_pos _
 | .n2 a b=>by
  have ha:=eZ few a
  have hb:=eZ few b
  have e:(2:Nat) ^ (Tr.n2 a b).nodes=2*(2 ^ a.nodes*2 ^ b.nodes):=by rwa[mT ..];rw[Tr.nodes];rwa[Nat.add_assoc ..,Nat.pow_add ..];rfl
  rwa[e]
  unfold aI
  have pa:1<=2 ^ a.nodes:=Nat.one_le_two_pow
  have pb:1<=2 ^ b.nodes:=Nat.one_le_two_pow
  split
  . rwa[List.length_append]
    have h1:2 ^ a.nodes*1<=2 ^ a.nodes*2 ^ b.nodes:=Nat.mul_le_mul_left _ pb
    have h2:1*2 ^ b.nodes<=2 ^ a.nodes*2 ^ b.nodes:=Nat.mul_le_mul_right _ pa
    lia
  . rwa[lE ..,lD ..]
    have:=Nat.mul_le_mul hb ha
    rw[Nat.mul_comm (2 ^ b.nodes)] at this
    lia
 | .n3 a b c=>by
  have ha:=eZ few a
  have hb:=eZ few b
  have hc:=eZ few c
  have e:(2:Nat) ^ (Tr.n3 a b c).nodes=2*(2 ^ a.nodes*2 ^ b.nodes*2 ^ c.nodes):=by rwa[mT ..,mT ..];rw[Tr.nodes];rwa[show 1+a.nodes+b.nodes+c.nodes=1+(a.nodes+b.nodes+c.nodes) by lia,Nat.pow_add ..];rfl
  rwa[e]
  unfold aI
  rwa[lG ..,List.length_append,List.length_append,lD ..,lD ..,lD ..]
  have IC:∀t:Tr,2<=2 ^ t.nodes:=λt=>by have:=Nat.pow_le_pow_right (n:=2) ∅ t.pos;simpa using this
  have h1:=Nat.mul_le_mul hb ha
  have h2:=Nat.mul_le_mul hc ha
  have h3:=Nat.mul_le_mul hc hb
  have k1:2*(2 ^ b.nodes*2 ^ a.nodes)<=2 ^ a.nodes*2 ^ b.nodes*2 ^ c.nodes:=by rwa[Nat.mul_comm (2 ^ b.nodes) ..,Nat.mul_comm 2 ..];exact Nat.mul_le_mul_left _ (IC c)
  have k2:2*(2 ^ c.nodes*2 ^ a.nodes)<=2 ^ a.nodes*2 ^ b.nodes*2 ^ c.nodes:=by
   rwa[Nat.mul_right_comm ..,Nat.mul_comm (2 ^ c.nodes) ..,Nat.mul_comm 2 ..];exact Nat.mul_le_mul_left _ (IC b)
  have k3:2*(2 ^ c.nodes*2 ^ b.nodes)<=2 ^ a.nodes*2 ^ b.nodes*2 ^ c.nodes:=by
   rwa[Nat.mul_assoc ..,Nat.mul_comm (2 ^ c.nodes) ..];exact Nat.mul_le_mul_right _ (IC a)
  lia
theorem dX(few:Bool):∀t:Tr,∀p∈aI few t,p.length<=t.nodes
 | .leaf _=>by simp[aI,Tr.nodes]
 | .n2 a b=>by
  have ha:=dX few a
  have hb:=dX few b
  intro p hp
  unfold aI at hp
  unfold Tr.nodes
  split at hp
  . rcases List.mem_append.mp hp with h | h
    . have:=ha p h;lia
    . have:=hb p h;lia
  . rw[lE] at hp
    rcases aL (List.mem_flatMap.mp hp) with x|hx|hp
    rcases aL (List.mem_map.mp hp) with y|hy|rfl
    have:=hb x hx;have:=ha y hy
    rwa[List.length_append];lia
 | .n3 a b c=>by
  have ha:=dX few a
  have hb:=dX few b
  have hc:=dX few c
  have cr:∀(A B:List iH) (m k:Nat),(∀p∈A,p.length<=m)->(∀p∈B,p.length<=k)->∀p∈jY A B,p.length<=m+k:=λA B m k h1 h2 p hp=>by
   rcases aL (List.mem_flatMap.mp hp) with x|hx|hp
   rcases aL (List.mem_map.mp hp) with y|hy|rfl
   have:=h1 x hx;have:=h2 y hy
   rwa[List.length_append];lia
  intro p hp
  unfold aI at hp
  unfold Tr.nodes
  rw[lG] at hp
  rcases List.mem_append.mp hp with h | h
  . have:=cr _ _ _ _ hb ha p h;lia
  . rcases List.mem_append.mp h with h | h
    . have:=cr _ _ _ _ hc ha p h;lia
    . have:=cr _ _ _ _ hc hb p h;lia
theorem Fn.le{C:Cx}{n m:Nat}{f:Addr}{ds:List D}{d:D}(F:Fn C n f ds d)(h:n<=m):Fn C m f ds d :=
 ⟨λA X s vs Q E r=>F.go A X s vs Q E (r.le h)⟩
theorem JB{α:Type}(l:List α)(g:α->D):((l.map λx=>[g x])).flatten=l.map g:=by
 induction l with
 | nil=>rfl
 | cons a r ih=>rwa[List.map_cons,List.flatten_cons,ih];rfl
theorem sQ{Ps:List (List iH)}{i:Nat}(h:i<Ps.length):(Ps.map eD)[i]?=some (.list ((Ps.getD i []).map jZ)):=by
 rwa[List.getElem?_map,List.getElem?_eq_getElem h,List.getD_eq_getElem?_getD,List.getElem?_eq_getElem h];rfl
section
variable{C:Cx}{n:Nat}
theorem pO(b:Bs C)(few:Bool)(bs:List D)(Ps:List (List iH))(hl:bs.length=Ps.length)(hk:Ps.length<=3)(hz:(dE Ps).length<=sizeLine)(hp:∀P∈Ps,∀p∈P,p.length<=100) :
 Ex C n (aD (aY 47)) [(("parts":Str),.list (Ps.map eD)),(("tree":Str),.list bs),(("few":Str),.bool few)] ((aX (aY 47)).drop 3) (.ret (eD (dE Ps))):=by
 have hz2:∀k,k<=1000->k<=sizeLine:=λk h=>Nat.le_trans h ∅
 refine bV (bO ?_)
 have e0:eD (dE Ps)=.list (((List.range Ps.length).map λi=>((List.range i).map λj=>(((Ps.getD i []).map λpN=>((Ps.getD j []).map λother=>[jZ (pN++other)]).flatten)).flatten).flatten).flatten):=by
  unfold eD dE jY
  simp only[List.flatMap_def,JB,List.map_flatten,List.map_map,Function.comp_def]
 rwa[e0]
 have hsize:(((List.range Ps.length).map λi=>((List.range i).map λj=>(((Ps.getD i []).map λpN=>((Ps.getD j []).map λother=>[jZ (pN++other)]).flatten)).flatten).flatten).flatten).length<=sizeLine:=by
  have:((dE Ps).map jZ).length=_:=congrArg List.length (D.list.inj e0)
  rwa[←this,List.length_map ..];exact hz
 refine DF (ds:=kU Ps.length) (δ':=lX _ _) (iU (m:=Ps.length) (bA (cP rfl b.len.1 b.len.2 ∅ (bY (aA rfl rfl)) (dC (by rwa[hl];exact hz2 _ (by exact Nat.le_trans (by assumption) ∅)))) (by rwa[hl];rfl)) (by exact Nat.lt_of_le_of_lt (by assumption) ∅) (by rfl) b.range.1 b.range.2) rfl rfl (λ_ _=>rfl) ?_ ?_ ?_ ?_ (λx d e=>fE e) (by rwa[List.length_map ..,List.length_range,mO ..];rfl) hsize λi d o hd ho=>?_
 . exact (jG (sc:=aD (aY 47)) ∅).1
 . exact (jG (sc:=aD (aY 47)) ∅).2.1
 . exact (jG (sc:=aD (aY 47)) ∅).2.2.1
 . exact (jG (sc:=aD (aY 47)) ∅).2.2.2
 rcases bW (iV hd) with rfl|hi
 replace ho:=(List.getElem?_range hi)▸(List.getElem?_map)▸ho
 obtain rfl:=Option.some.inj ho
 refine⟨_,kW (by rfl) (by rfl),rfl,rfl,λ_ _=>rfl,kU i,_,iU (m:=i) (aA rfl rfl) (by lia) (by rfl) b.range.1 b.range.2,(by rwa[List.length_map ..,List.length_range,mO ..];rfl),rfl,λj d o hd ho=>?_⟩
 rcases bW (iV hd) with rfl|hj
 replace ho:=(List.getElem?_range hj)▸(List.getElem?_map)▸ho
 obtain rfl:=Option.some.inj ho
 refine⟨_,kW (by rfl) (by rfl),rfl,rfl,λ_ _=>rfl,(Ps.getD i []).map jZ,_,eJ (cY (k:=(i:Int)) (ds:=Ps.map eD) (aA rfl rfl) (aA rfl rfl) (by exact Int.natCast_nonneg _) (sQ (by assumption)) (by lia)),(by rwa[List.length_map ..,List.length_map ..];rfl),rfl,λk1 d o hd ho=>?_⟩
 replace hd:=(List.getElem?_map)▸hd;replace ho:=(List.getElem?_map)▸ho
 cases q1:(Ps.getD i [])[k1]? with
 | none=>replace hd:=q1▸hd;injection hd
 | some pN =>
  replace hd:=q1▸hd;replace ho:=q1▸ho
  obtain rfl:=Option.some.inj hd;obtain rfl:=Option.some.inj ho
  refine⟨_,kW (by rfl) (by rfl),rfl,rfl,λ_ _=>rfl,(Ps.getD j []).map jZ,_,eJ (cY (k:=(j:Int)) (ds:=Ps.map eD) (aA rfl rfl) (aA rfl rfl) (by exact Int.natCast_nonneg _) (sQ (by exact Nat.lt_trans (by assumption) (by assumption))) (by lia)),(by rwa[List.length_map ..,List.length_map ..];rfl),rfl,λk2 d o hd ho=>?_⟩
  replace hd:=(List.getElem?_map)▸hd;replace ho:=(List.getElem?_map)▸ho
  cases q2:(Ps.getD j [])[k2]? with
  | none=>replace hd:=q2▸hd;injection hd
  | some other =>
   replace hd:=q2▸hd;replace ho:=q2▸ho
   obtain rfl:=Option.some.inj hd;obtain rfl:=Option.some.inj ho
   refine⟨_,kW (by rfl) (by rfl),_,rfl,?_⟩
   have m1:pN.length<=100:=hp _ (by rwa[List.getD_eq_getElem?_getD,List.getElem?_eq_getElem (by omega:i<Ps.length)];exact List.getElem_mem _) pN (List.mem_of_getElem? q1)
   have m2:other.length<=100:=hp _ (by rwa[List.getD_eq_getElem?_getD,List.getElem?_eq_getElem (by exact Nat.lt_trans (by assumption) (by assumption):j<Ps.length)];exact List.getElem_mem _) other (List.mem_of_getElem? q2)
   exact bA (cR (a:=jZ pN) (b:=jZ other) (aA rfl rfl) (aA rfl rfl) (dD (by rwa[List.length_map ..,List.length_map ..];exact hz2 _ (by lia)))) (by unfold jZ;rwa[List.map_append];rfl)
theorem AZ{f:Addr}(F:fV C f 47 ["tree","few"])(b:Bs C)(g:C.mg ("_law_parties":Str)=some (.ref f))(few:Bool):∀(t:Tr),t.nodes<=20->Fn C t.nodes f [t.toD,.bool few] (eD (aI few t)):=by
 have hz:∀k,k<=1000->k<=sizeLine:=λk h=>Nat.le_trans h ∅
 have hzz:∀t:Tr,t.nodes<=20->(aI few t).length<=sizeLine:=λt h=>Nat.le_trans (eZ few t) (Nat.le_trans (Nat.pow_le_pow_right ∅ h) ∅)
 have parts:∀(m:Nat) (ts:List Tr),ts.length<=3->(∀t∈ts,Fn C m f [t.toD,.bool few] (eD (aI few t))) ->
  rO C m (aD (aY 47)) [(("tree":Str),.list (ts.map Tr.toD)),(("few":Str),.bool few)] (((aX (aY 47)).drop 1).headD (.Pass ⟨0,0,0,0⟩)) (.nxt [(("parts":Str),.list ((ts.map (aI few)).map eD)),(("tree":Str),.list (ts.map Tr.toD)),(("few":Str),.bool few)]):=λm ts hl h=>by
  refine bS (fP (ds:=ts.map Tr.toD) (eJ (aA rfl rfl)) ∅ rfl (by simp) (by simp;exact hz _ (by exact Nat.le_trans (by assumption) ∅)) λj d o e1 e2=>?_) ∅ ?_
  . replace e1:=(List.getElem?_map)▸e1
    replace e2:=(List.getElem?_map)▸List.map_map▸e2
    cases q:ts[j]? with
    | none=>replace e1:=q▸e1;injection e1
    | some t =>
     replace e1:=q▸e1;replace e2:=q▸e2
     obtain rfl:=Option.some.inj e1;obtain rfl:=Option.some.inj e2
     exact cT F rfl g ∅ (aF (aA rfl rfl) (bY (aA rfl rfl))) (h t (List.mem_of_getElem? q))
  . intro env h
    obtain⟨_,_⟩:=env
    subst h
    rfl
 have skip:∀(m:Nat) (ts:List Tr) (δ:List (Str×D)),δ=[(("parts":Str),.list ((ts.map (aI few)).map eD)),(("tree":Str),.list (ts.map Tr.toD)),(("few":Str),.bool few)]->ts.length<=3->(few=true->ts.length≠2) ->
  rO C m (aD (aY 47)) δ (((aX (aY 47)).drop 2).headD (.Pass ⟨0,0,0,0⟩)) (.nxt δ):=λm ts δ e hl h=>by
  subst e
  refine bZ (b:=few&&(((ts.length:Int)==2)&&true)) (aQ (eN (aA rfl rfl)) λ_=>aQ (aH (bA (cP rfl b.len.1 b.len.2 ∅ (bY (aA rfl rfl)) (dC (by simp;exact hz _ (by exact Nat.le_trans (by assumption) ∅)))) (by rwa[List.length_map ..];rfl)) aG dB) λ_=>jL) ?_
  have:(few&&(((ts.length:Int)==2)&&true))=false:=by
   cases few with
   | false=>rfl
   | true =>
    have:=h rfl
    rwa[Bool.true_and ..,Bool.and_true ..]
    exact beq_eq_false_iff_ne.mpr (by lia)
  rwa[this]
  exact bQ
 intro t
 induction t with
 | leaf w =>
  intro _
  refine jD (n:=0) F rfl ∅ ?_
  refine bV (bZ (b:=true) (aC (sJ (d:=.str w) (aA rfl rfl) rfl (by rfl) b.type.1 b.type.2 (by rfl) b.str.1 b.str.2) rfl) (bV (bO (bU (bY (bU (bY (aA rfl rfl)) (hz 1 ∅))) (hz 1 ∅)))))
 | n2 x y ihx ihy =>
  intro hn
  have px:=x.pos;have py:=y.pos
  unfold Tr.nodes at hn ⊢
  rwa[Nat.add_assoc ..,Nat.add_comm 1 ..]
  refine jD (n:=x.nodes+y.nodes) F rfl ∅ ?_
  refine bD (bZ (b:=false) (aC (sJ (d:=.list [x.toD,y.toD]) (aA rfl rfl) rfl (by rfl) b.type.1 b.type.2 (by rfl) b.str.1 b.str.2) rfl) bQ) ?_
  refine bD (parts _ [x,y] (by simp) (λt ht=>?_)) ?_
  . simp at ht
    rcases ht with rfl | rfl
    . exact (ihx (by lia)).le (by exact Nat.le_add_right ..)
    . exact (ihy (by exact Nat.le_trans (Nat.le_add_left ..) (by assumption))).le (by exact Nat.le_add_left ..)
  cases few with
  | true =>
   have e:aI true (.n2 x y)=aI true x++aI true y:=by rw[aI];rwa[if_pos rfl];rfl
   rwa[e]
   refine bV (bZ (b:=true) (aQ (a:=true) (b:=true) (eN (aA rfl rfl)) λ_=>aQ (a:=true) (b:=true) (aH (cP rfl b.len.1 b.len.2 ∅ (bY (aA rfl rfl)) (dC (hz 2 ∅))) aG dB) λ_=>jL) ?_)
   have hs:((aI true x).map jZ).length+((aI true y).map jZ).length<=sizeLine:=by
    have:=hzz (.n2 x y) (by unfold Tr.nodes;omega)
    replace this:=List.length_append▸e▸this
    simpa using this
   exact bV (bO (bA (cR (a:=eD (aI true x)) (b:=eD (aI true y)) (cY (ds:=[eD (aI true x),eD (aI true y)]) (k:=0) (aA rfl rfl) aG ∅ rfl ∅) (cY (ds:=[eD (aI true x),eD (aI true y)]) (k:=1) (aA rfl rfl) aG ∅ rfl ∅) (dD hs)) (by unfold eD;rwa[List.map_append];rfl)))
  | false =>
   refine bD (skip _ [x,y] _ rfl (by simp) (λq=>by injection q)) ?_
   have e:aI false (.n2 x y)=dE [aI false x,aI false y]:=by rw[aI];rwa[if_neg ∅];rfl
   rwa[e]
   refine pO b false _ [aI false x,aI false y] rfl (by simp) (by rwa[←e];exact hzz _ (by unfold Tr.nodes;omega)) (λP hP p hp=>?_)
   simp at hP
   rcases hP with rfl | rfl
   . have:=dX false x p hp;lia
   . have:=dX false y p hp;lia
 | n3 x y z ihx ihy ihz =>
  intro hn
  have px:=x.pos;have py:=y.pos;have pz:=z.pos
  unfold Tr.nodes at hn ⊢
  rwa[show 1+x.nodes+y.nodes+z.nodes=x.nodes+y.nodes+z.nodes+1 by lia]
  refine jD (n:=x.nodes+y.nodes+z.nodes) F rfl ∅ ?_
  refine bD (bZ (b:=false) (aC (sJ (d:=.list [x.toD,y.toD,z.toD]) (aA rfl rfl) rfl (by rfl) b.type.1 b.type.2 (by rfl) b.str.1 b.str.2) rfl) bQ) ?_
  refine bD (parts _ [x,y,z] (by exact Nat.lt_succ_self _) (λt ht=>?_)) ?_
  . simp at ht
    rcases ht with rfl | rfl | rfl
    . exact (ihx (by lia)).le (by lia)
    . exact (ihy (by lia)).le (by lia)
    . exact (ihz (by exact Nat.le_trans (Nat.le_add_left ..) (by assumption))).le (by exact Nat.le_add_left ..)
  refine bD (skip _ [x,y,z] _ rfl (by exact Nat.lt_succ_self _) (λ_=>by simp)) ?_
  have e:aI few (.n3 x y z)=dE [aI few x,aI few y,aI few z]:=by rw[aI]
  rwa[e]
  refine pO b few _ [aI few x,aI few y,aI few z] rfl (by exact Nat.lt_succ_self _) (by rwa[←e];exact hzz _ (by unfold Tr.nodes;omega)) (λP hP p hp=>?_)
  simp at hP
  rcases hP with rfl | rfl | rfl
  . have:=dX few x p hp;lia
  . have:=dX few y p hp;lia
  . have:=dX few z p hp;lia
end
section
variable{C:Cx}{n:Nat}{sc:Scope}{δ:List (Str×D)}
theorem Ok.dead{A:Around}{B:Heap}{env:Env}{X:Addr->Prop}{h h':Heap}{L:Addr}(O:Ok C n sc δ A B env X h)(hL:∃o es ep,h.get? L=some o/\o.data=.dict es ep)(hB:IB C B L)(hl:L≠env.locals)(k:Heap.ExtBut L h h'):Ok C n sc δ A B env X h':=by
 rcases aL O.st with ρ|F|V
 obtain oL|eL|pL|hoL|hdL:=eU hL
 have kk:∀b o,h.get? b=some o->(∀es ep,o.data≠.dict es ep)->h'.get? b=some o:=λb o e hd=>k b o (λz=>by subst z;have h_:=sx hoL e;clear e;subst h_;exact hd _ _ hdL) e
 have kc:∀{c v},h.IsCell c v->h'.IsCell c v:=λ{c v} ⟨o,e,hd⟩=>⟨o,kk c o e (by rwa[hd];intro _ _ y;injection y),hd⟩
 refine⟨O.rm,?_,λc hc=>?_,C.I.at_ _ _ O.iv λb o ob e=>k b o (λz=>hB.2 (z▸ob)) e,O.ox,ρ,?_,V.at λb o x ⟨vs,m,y⟩ e=>⟨x,kk b o e (by rwa[y];intro _ _ z;injection z)⟩⟩
 . rcases O.ho with q | ⟨e,q,o,vs,q2,q3,q4⟩
   . exact .inl q
   . exact .inr ⟨e,q,o,vs,kk e o q2 (by rwa[q3];intro _ _ y;injection y),q3,q4⟩
 . rcases eU (O.xo c hc) with o|vs|nn|e|z
   exact⟨o,vs,nn,kk c o e (by rwa[z];intro _ _ y;injection y),z⟩
 . rcases nU F.base with G|k0|hL0|hC0
   rcases aL F.ns with m|q_0|hm;obtain o|es|ep|e1|e2|e3:=nV q_0
   refine⟨⟨G,λb o e=>k b o (λz=>by subst z;injection tq hB.1 e) (k0 b o e),hL0,hC0⟩,F.scope,F.kind,F.globals,F.builtins,
    ⟨m,⟨o,es,ep,k _ _ hl.symm e1,e2,e3⟩,hm⟩,λx hx=>?_,F.inj,λx c e=>?_⟩
   . rcases aL (F.cells x hx) with c|q1|q2
     exact⟨c,q1,kc q2⟩
   . rcases aU (F.allc x c e) with v|q
     exact⟨v,kc q⟩
theorem NQ{x:Str}{p pos cpos:Pos}{elt target iter:PySem.Expr}{cs:Scope}{ds outs:List D}(hsr:Sr C n sc δ iter ds)(hc:qG cs sc=true)(hx:lc sc x=true)(hl:outs.length=ds.length)(hz:outs.length<=sizeLine)
 (hit:∀(j:Nat) (d o:D),ds[j]?=some d->outs[j]?=some o->∃δ',PQ C n (lL cs sc) target d (lX cs δ) δ'/\Ev C n (lL cs sc) δ' elt o)
 (hs:∀env,env.scope=sc->swapsWith (.ListComp elt [⟨target,iter,[],0⟩] cs cpos) (some (.Name x p)) pos.line env=pure true)
 (hfold:∀env x,foldedSetIterable iter env x=pure x:=by intro _ _;rfl):rO C n sc δ (.Assign [.Name x p] (.ListComp elt [⟨target,iter,[],0⟩] cs cpos) pos) (.nxt ((x,.list outs)::δ)):=by
 refine⟨?_⟩
 intro A B env X s Q E O h
 have hsc:env.scope=sc:=let ⟨_,F,_⟩:=O.st;F.scope
 rcases aL (jN hx) with kx|hkx|ox
 rcases nU (jG hc) with h1|h2|h3|h4
 rwa[exec_Assign_Name_used x p _ pos (hs env hsc)]
 refine wpAny_bind (wpAny_standAt (wpAny_bind ?_))
 show wpAny C.M A (comprehension (.ListComp elt [⟨target,iter,[],0⟩] cs cpos) cs env (firstIterPos [⟨target,iter,[],0⟩] cpos) (newList []) false (eval iter env) (some (assign (.Name x p) env)) >>= λ_=>pure ()) _ E s
 refine wpAny_bind ?_
 refine xV (g:=⟨target,iter,[],0⟩) (gs:=[]) (fs:=outs.map λd=>[d]) (δ':=lX cs δ) hsr rfl rfl hfold h1 h2 h3 h4 (λx d e=>fE e) (by rwa[List.length_map ..];exact hl) (by rwa[gZ ..];exact hz) (λj d o e1 e2=>?_) A B env X s _ _ E _ O λacc L h4 tk4 m4 up n4 nL neaL rd=>?_
 . replace e2:=(List.getElem?_map)▸e2
   cases q:outs[j]? with
   | none=>replace e2:=q▸e2;injection e2
   | some o' =>
    replace e2:=q▸e2;obtain rfl:=Option.some.inj e2
    rcases aL (hit j d o' e1 q) with δ'|b|e
    exact⟨δ',b,o',rfl,e⟩
 . rw[gZ] at rd
   have O4:=O.keeps up
   have hBL:IB C B L:=(O.iterNe nL).2
   have hLl:L≠env.locals:=λz=>by
    rcases eU O.ns with o|es|ep|e|_
    replace nL:=z▸nL;injection tq nL e
   have hLc:∀y,env.cells.lookup y≠some L:=λy z=>by
    rcases aL O.st with _|F|_
    rcases dZ (F.allc y L z) with v|o|e|_
    injection tq nL e
   show wpAny C.M A (assign (.Name x p) env (.ref acc)) _ E {s with heap:=h4,toks:=tk4}
   refine wpAny_assign_Name (O4.store (s:={s with heap:=h4,toks:=tk4}) rd hkx ox λh5 tk5 O5 B5 st5 lo5=>?_)
   obtain oL|es|ep|e1|e2|e3:=nV n4
   have eL5:h5.get? L=some oL:=B5 L oL hLl hLc e1
   refine⟨m4,⟨oL,es,ep,eL5,e2,e3⟩,λh6 sb6=>wpAny_pure (wpAny_pure (h _ _ ⟨h6,tk5,rfl,λb o q1 q2 q3=>?_⟩ ⟨rfl,O5.dead ⟨oL,es,ep,eL5,e2⟩ hBL hLl sb6.extBut⟩))⟩
   exact sb6.extBut b o (λz=>by replace q3:=nL▸z▸q3;injection q3) (B5 b o q1 q2 (up b o q3))
theorem sR{x y:Str}{p py pos cpos:Pos}{elt iter:PySem.Expr}{cs:Scope}{ds outs:List D}(hsr:Sr C n sc δ iter ds)(hc:qG cs sc=true)(hy:vX cs sc δ y=true)(hx:lc sc x=true)(hl:outs.length=ds.length)(hz:outs.length<=sizeLine)
 (hit:∀(j:Nat) (d o:D),ds[j]?=some d->outs[j]?=some o->Ev C n (lL cs sc) ((y,d)::lX cs δ) elt o)
 (hs:∀env,env.scope=sc->swapsWith (.ListComp elt [⟨.Name y py,iter,[],0⟩] cs cpos) (some (.Name x p)) pos.line env=pure true)
 (hfold:∀env x,foldedSetIterable iter env x=pure x:=by intro _ _;rfl):rO C n sc δ (.Assign [.Name x p] (.ListComp elt [⟨.Name y py,iter,[],0⟩] cs cpos) pos) (.nxt ((x,.list outs)::δ)):=by
 simp only[vX,Bool.and_eq_true,decide_eq_true_eq,Option.isNone_iff_eq_none] at hy
 exact NQ hsr hc hx hl hz (λj d o e1 e2=>⟨_,kW hy.1 hy.2,hit j d o e1 e2⟩) hs hfold
end
section
variable{C:Cx}{n:Nat}{sc:Scope}{δ:List (Str×D)}
theorem EX{test:PySem.Expr}{body:List Stmt}{pos:Pos}{r:D}(Δ:Nat->List (Str×D))(m:Nat)(h0:∀y d,(Δ 0).lookup y=some d->δ.lookup y=some d)(ht:∀i,i<=m->Ts C n sc (Δ i) test true)
 (hb:∀i,i<m->Ex C n sc (Δ i) body (.nxt (Δ (i+1)))) (hr:Ex C n sc (Δ m) body (.ret r)):rO C n sc δ (.While test body [] pos) (.ret r):=by
 refine⟨?_⟩
 intro A B env X s Q E O h
 refine wpAny_While (codeAny_whileLoop (λj s2=>∃i,j=m-i/\i<=m/\Ok C n sc (Δ i) A B env X s2.heap/\rN env s s2) (λj s2 hj=>?_) m ⟨0,rfl,Nat.zero_le _,O.sub h0,.of_keeps (aE s)⟩)
 obtain i|rfl|him|O2|K2:=SQ hj
 refine (ht i him).go A B env X s2 _ _ O2 λs3 k3=>?_
 rwa[if_pos rfl]
 have O3:=O2.on k3
 rcases Nat.lt_or_ge i m with q | q
 . refine (hb i q).go A B env X s3 _ _ O3 λfl s4 k4 o4=>?_
   obtain rfl|O4:=bW o4
   exact⟨m-(i+1),by grind,i+1,rfl,q,O4,(K2.trans (.of_keeps k3)).trans k4⟩
 . have:i=m:=Nat.le_antisymm him q
   subst this
   refine hr.go A B env X s3 _ _ O3 λfl s4 k4 o4=>?_
   obtain v|rfl|r4:=aL o4
   exact h _ s4 ((K2.trans (.of_keeps k3)).trans k4) ⟨v,rfl,r4⟩
end
theorem yB{A B:List iH}(ha:A≠[])(hb:B≠[]):jY A B≠[]:=by
 intro h
 have:=lD A B
 replace this:=h▸this
 have h1:=List.length_pos_iff.mpr ha
 have h2:=List.length_pos_iff.mpr hb
 have:=Nat.mul_pos h1 h2
 simp at *;lia
theorem iM(few:Bool):∀t:Tr,aI few t≠[]
 | .leaf _=>by simp[aI]
 | .n2 a b=>by
  have ha:=iM few a
  have hb:=iM few b
  unfold aI
  split
  . simp[ha]
  . rwa[lE ..];exact yB hb ha
 | .n3 a b c=>by
  have ha:=iM few a
  have hb:=iM few b
  unfold aI
  rwa[lG ..]
  have:=yB hb ha
  simp[this]
theorem jH{A B:List iH}{p:iH}:p∈jY A B↔∃x∈A,∃y∈B,p=x++y:=by
 unfold jY
 simp only[List.mem_flatMap,List.mem_map]
 exact⟨λ⟨x,hx,y,hy,e⟩=>⟨x,hx,y,hy,e.symm⟩,λ⟨x,hx,y,hy,e⟩=>⟨x,hx,y,hy,e.symm⟩⟩
theorem jP(few:Bool):∀t:Tr,∀p∈aI few t,p≠[]
 | .leaf _=>by simp[aI]
 | .n2 a b=>by
  have ha:=jP few a
  have hb:=jP few b
  intro p hp
  unfold aI at hp
  split at hp
  . exact (List.mem_append.mp hp).elim (ha p) (hb p)
  . rw[lE] at hp
    rcases aL (jH.mp hp) with x|hx|q_0;obtain y|hy|rfl:=aL q_0
    simp[hb x hx]
 | .n3 a b c=>by
  have hb:=jP few b
  have hc:=jP few c
  intro p hp
  unfold aI at hp
  rw[lG] at hp
  rcases List.mem_append.mp hp with h | h
  . rcases aL (jH.mp h) with x|hx|q_0;obtain y|hy|rfl:=aL q_0
    simp[hb x hx]
  . rcases List.mem_append.mp h with h | h
    . rcases aL (jH.mp h) with x|hx|q_0;obtain y|hy|rfl:=aL q_0
      simp[hc x hx]
    . rcases aL (jH.mp h) with x|hx|q_0;obtain y|hy|rfl:=aL q_0
      simp[hc x hx]
noncomputable def jQ(w:Str):Int:=[-1,1,2].getD (dR w) 0
noncomputable def iN(ws:List Str):List Int:=(List.range ws.length).map λk=>((ws.take (k+1)).map jQ).sum
noncomputable def bH(few:Bool)(t:Tr):Str:=UN ((aI few t).map SS)
noncomputable def jR(ws:List Str):D:=.list [.list (ws.map .str),.list ((iN ws).map .int),.list [],.str "No closing quotation"]
noncomputable def hO(ws:List Str)(t:Tr)(p:Nat):D:=.list [.list ((ws.take p).map .str),.list (((iN ws).take (p-1)).map .int),.list [.list [.str (bH false t),.str (bH true t)]],.str "whole"]
noncomputable def M:Nat:=30
noncomputable def oV:Nat->List Str->List D
 | 0,ws=>[jR ws]
 | f+1,ws=>match cV M ws with
  | none=>[jR ws]
  | some (t,p)=>hO ws t p::oV f (ws.drop p)
theorem mU{m:Nat}{ws:List Str}{t:Tr}{p:Nat}(h:cV m ws=some (t,p)):1<=p:=by
 cases m with
 | zero=>injection h
 | succ m =>
  cases ws with
  | nil=>injection h
  | cons w r =>
   unfold cV at h
   split at h
   . injection h
   . cases h;exact Nat.le_add_right ..
theorem JC{w:Str}{bs:List Tr}(h:bs.length=cD w)(hc:dR w<=2):(mk w bs).nodes=1+(bs.map Tr.nodes).sum:=by
 rcases eY hc with⟨_,q⟩ | ⟨_,q⟩ | ⟨_,q⟩<;>replace h:=q▸h
 . have:bs=[]:=List.length_eq_zero_iff.mp h
   subst this;rfl
 . match bs,h with
   | [a,b],_=>simp[mk,Tr.nodes];exact Nat.add_assoc ..
 . match bs,h with
   | [a,b,c],_=>simp[mk,Tr.nodes];lia
theorem rD{g:List Str->Option (Tr×Nat)}{r:List Str}(hg:∀k t p,g (r.drop k)=some (t,p)->t.nodes=p/\p<=(r.drop k).length):∀{i:Nat} {bs:List Tr} {p:Nat},cU g r i=some (bs,p)->(bs.map Tr.nodes).sum=p/\p<=r.length
 | 0,_,_,h=>by cases h;simp
 | i+1,bs,p,h=>by
  unfold cU at h
  cases q:cU g r i with
  | none=>replace h:=q▸h;injection h
  | some x =>
   obtain⟨bs',p'⟩:=x
   replace h:=q▸h
   dsimp only at h
   cases q2:g (r.drop p') with
   | none=>replace h:=q2▸h;injection h
   | some y =>
    obtain⟨t,z⟩:=y
    replace h:=q2▸h
    cases h
    rcases bW (rD hg q) with h1|h2
    rcases bW (hg p' t z q2) with h3|h4
    replace h4:=List.length_drop▸h4
    simp;(and_intros<;>lia)
theorem jS:∀{m:Nat} {ws:List Str} {t:Tr} {p:Nat},(∀w∈ws,dR w<=2)->cV m ws=some (t,p)->t.nodes=p/\p<=ws.length
 | 0,_,_,_,_,h=>by injection h
 | m+1,[],_,_,_,h=>by injection h
 | m+1,w::r,t,p,hw,h=>by
  unfold cV at h
  cases q:cU (cV m) r (cD w) with
  | none=>replace h:=q▸h;injection h
  | some x =>
   obtain⟨bs,p'⟩:=x
   replace h:=q▸h
   cases h
   have hb:=lC q
   rcases bW (rD (λk t p e=>jS (λy hy=>hw y (.tail _ (List.mem_of_mem_drop hy))) e) q) with h1|h2
   rwa[JC hb (hw w (.head _)),h1]
   simp;lia
noncomputable def cZ(ws:List Str):Nat->List Str×List D
 | 0=>(ws,[])
 | i+1=>match cV M (cZ ws i).1 with
  | none=>cZ ws i
  | some (t,p)=>((cZ ws i).1.drop p,(cZ ws i).2++[hO (cZ ws i).1 t p])
theorem lQ{ws:List Str}{t:Tr}{p:Nat}(h:cV M ws=some (t,p)):∀i,cZ ws (i+1)=((cZ (ws.drop p) i).1,hO ws t p::(cZ (ws.drop p) i).2)
 | 0=>by
  show (match cV M ws with | none=>_ | some (t,p)=>_)=_
  rwa[h];rfl
 | i+1=>by
  have ih:=lQ h i
  show (match cV M (cZ ws (i+1)).1 with | none=>cZ ws (i+1) | some (t,p)=>((cZ ws (i+1)).1.drop p,(cZ ws (i+1)).2++[hO (cZ ws (i+1)).1 t p]))=_
  rwa[ih]
  show _=((match cV M (cZ (ws.drop p) i).1 with | none=>cZ (ws.drop p) i | some (t,p')=>((cZ (ws.drop p) i).1.drop p',(cZ (ws.drop p) i).2++[hO (cZ (ws.drop p) i).1 t p'])).1,hO ws t p::(match cV M (cZ (ws.drop p) i).1 with | none=>cZ (ws.drop p) i | some (t,p')=>((cZ (ws.drop p) i).1.drop p',(cZ (ws.drop p) i).2++[hO (cZ (ws.drop p) i).1 t p'])).2)
  cases q:cV M (cZ (ws.drop p) i).1 with
  | none=>rfl
  | some x=>rfl
theorem yC:∀(f:Nat) (ws:List Str),ws.length<f->∃m,m<=ws.length/\(∀i,i<m->∃t p,cV M (cZ ws i).1=some (t,p))/\cV M (cZ ws m).1=none/\(cZ ws m).2++[jR (cZ ws m).1]=oV f ws
 | 0,_,h=>by exact absurd (by assumption) (Nat.not_lt_zero _)
 | f+1,ws,h=>by
  cases q:cV M ws with
  | none=>exact⟨0,Nat.zero_le _,λi hi=>by exact absurd (by assumption) (Nat.not_lt_zero _),q,by unfold oV;rwa[q];rfl⟩
  | some x =>
   obtain⟨t,p⟩:=x
   have hp:=mU q
   have hne:ws≠[]:=λe=>by replace q:=e▸q;injection q
   have hlen:=List.length_pos_iff.mpr hne
   rcases SQ (yC f (ws.drop p) (by rwa[List.length_drop];omega)) with m|h1|h2|h3|h4
   replace h1:=List.length_drop▸h1
   refine⟨m+1,by lia,λi hi=>?_,?_,?_⟩
   . cases i with
     | zero=>exact⟨t,p,q⟩
     | succ i=>rwa[lQ q ..];exact h2 i (by exact Nat.lt_of_succ_lt_succ (by assumption))
   . rwa[lQ q ..];exact h3
   . rwa[lQ q ..]
     unfold oV
     rwa[q]
     show hO ws t p::((cZ (ws.drop p) m).2++[jR (cZ (ws.drop p) m).1])=hO ws t p::oV f (ws.drop p)
     rwa[h4];rfl
theorem sS(ws:List Str):∀i,(∀w∈(cZ ws i).1,w∈ws)/\(cZ ws i).1.length<=ws.length/\(cZ ws i).2.length<=i
 | 0=>⟨λ_ h=>h,Nat.le_refl _,Nat.le_refl _⟩
 | i+1=>by
  rcases tZ (sS ws i) with h1|h2|h3
  unfold cZ
  split
  . exact⟨h1,h2,by exact Nat.le_succ_of_le (by assumption)⟩
  . refine⟨λw hw=>h1 w (List.mem_of_mem_drop hw),?_,?_⟩
    . dsimp only;rwa[List.length_drop];omega
    . dsimp only;rwa[List.length_append,List.length_singleton];exact Nat.succ_le_succ (by assumption)
section
variable{C:Cx}{n:Nat}
theorem yD{sc:Scope}{δ:List (Str×D)}{v:PySem.Expr}{w:Str}{lp pos apos cp p1 a1 a2 a3 un:Pos}{kp k1 k2 k3:Nat}(hv:Ev C n sc δ v (.str w))(hc:dR w<=2)(hl:(apos.endLine==cp.line)=true)
 (hab:∀env,attributeBase v ("count":Str) env (eval v env)=eval v env:=by intro _;rfl) :
 Ev C n sc δ (.Subscript (.List [.UnaryOp .USub (.Constant (.int 1) k1 a1) un,.Constant (.int 1) k2 a2,.Constant (.int 2) k3 a3] lp) (.Call (.Attribute v ("count":Str) apos) [.Constant (.str ("=":Str)) kp p1] [] cp) pos) (.int (jQ w)):=by
 refine cY (ds:=[.int (-1),.int 1,.int 2]) (k:=(dR w:Int)) (bU (aF (AU aG) (aF aG (aF aG bM))) ∅) (AY hv hl (hab:=hab)) (by exact Int.natCast_nonneg _) ?_ (by lia)
 unfold jQ
 rcases eY hc with⟨q1,q2⟩ | ⟨q1,q2⟩ | ⟨q1,q2⟩<;>rwa[q1]<;>rfl
theorem yE{w:Str}(hc:dR w<=2):(jQ w).natAbs<=2:=by
 unfold jQ
 rcases eY hc with⟨q1,q2⟩ | ⟨q1,q2⟩ | ⟨q1,q2⟩<;>rwa[q1]<;>decide
end
section
variable{C:Cx}{n:Nat}
noncomputable def DK:List Stmt:=match aX (aY 48) with
 | [_,.While _ b _ _]=>b
 | _=>[]
theorem yF{fg fp:Addr}(FG:fV C fg 46 ["words"])(gG:C.mg ("_law_grown":Str)=some (.ref fg))(FP:fV C fp 47 ["tree","few"])(gP:C.mg ("_law_parties":Str)=some (.ref fp))(b:Bs C)
 (ws:List Str) (trees:List D) (hl:ws.length<=20) (hw:∀w∈ws,dR w<=2) (ht:trees.length<=30) :
 Ex C (M+1) (aD (aY 48)) [(("trees":Str),.list trees),(("words":Str),.list (ws.map .str))] DK
  (match cV M ws with
   | none=>.ret (.list (trees++[jR ws]))
   | some (t,p)=>.nxt [(("trees":Str),.list (trees++[hO ws t p])),(("words":Str),.list ((ws.drop p).map .str))]):=by
 have hz:∀k,k<=1000->k<=sizeLine:=λk h=>Nat.le_trans h ∅
 have c:=JA FG b gG M ws (by unfold M;exact Nat.le_trans (by assumption) ∅) (by unfold M;decide) hw
 have lenS:(iN ws).length=ws.length:=by simp[iN]
 have sums:rO C (M+1) (aD (aY 48)) [(("one":Str),gD (cV M ws)),(("trees":Str),.list trees),(("words":Str),.list (ws.map .str))] ((DK.drop 1).headD (.Pass ⟨0,0,0,0⟩))
  (.nxt [(("sums":Str),.list ((iN ws).map .int)),(("one":Str),gD (cV M ws)),(("trees":Str),.list trees),(("words":Str),.list (ws.map .str))]):=by
  refine sR (ds:=kU ws.length) (outs:=(iN ws).map .int) (iU (m:=ws.length) (bA (cP rfl b.len.1 b.len.2 ∅ (bY (aA rfl rfl)) (dC (by rwa[List.length_map ..];exact hz _ (by exact Nat.le_trans (by assumption) ∅)))) (by rwa[List.length_map ..];rfl)) (by exact Nat.lt_of_le_of_lt (by assumption) ∅) (by rfl) b.range.1 b.range.2) ∅ rfl ∅ (by rwa[List.length_map ..,lenS,mO ..];rfl) (by rwa[List.length_map ..,lenS];exact hz _ (by exact Nat.le_trans (by assumption) ∅)) (λj d o e1 e2=>?_) ?_
  . rcases bW (iV e1) with rfl|hj
    have:o=.int (((ws.take (j+1)).map jQ).sum):=by
     rw[iN,List.map_map,List.getElem?_map,List.getElem?_range hj] at e2
     simpa using e2.symm
    subst this
    refine cP (ds:=[.list (((ws.take (j+1)).map jQ).map D.int)]) (by rfl) b.sum.1 b.sum.2 ∅ (bY ?_) (AV ?_ ?_)
    . refine fP (ds:=(ws.map D.str).take (j+1)) (eJ (nX (b:=j+1) (aA rfl rfl) (bA (oQ (aA rfl rfl) aG) (by rfl)) (by rwa[List.length_map ..];exact hz _ (by exact Nat.le_trans (by assumption) ∅)))) ∅ rfl (by simp) (by simp;exact hz _ (by lia)) λk d o e1 e2=>?_
      replace e1:=(List.getElem?_map)▸List.map_take.symm▸e1
      replace e2:=(List.getElem?_map)▸List.map_map▸e2
      cases q:(ws.take (j+1))[k]? with
      | none=>replace e1:=q▸e1;injection e1
      | some w =>
       replace e1:=q▸e1;replace e2:=q▸e2
       obtain rfl:=Option.some.inj e1;obtain rfl:=Option.some.inj e2
       exact yD (aA rfl rfl) (hw w (List.mem_of_mem_take (List.mem_of_getElem? q))) ∅
    . intro x hx
      rcases aL (List.mem_map.mp hx) with w|hw'|rfl
      have:=yE (hw w (List.mem_of_mem_take hw'))
      exact Nat.lt_of_le_of_lt (by assumption) ∅
    . simp;lia
  . intro env h
    obtain⟨_,_⟩:=env
    subst h
    rfl
 refine bD (bS (d:=gD (cV M ws)) (cT FG rfl gG ∅ (bY (aA rfl rfl)) c) ∅) (bD sums ?_)
 cases q:cV M ws with
 | none =>
  refine bV (bZ (b:=true) (aH (aA rfl rfl) cB cH) (bV (bO (cR (a:=.list trees) (b:=.list [jR ws]) (aA rfl rfl) (bU (bY (bU (aF (aA rfl rfl) (aF (aA rfl rfl) (aF (bU bM ∅) (bY aT)))) (hz 4 ∅))) (hz 1 ∅)) (dD (hz _ (by simp;exact Nat.le_trans (by assumption) ∅)))))))
 | some x =>
  obtain⟨t,p⟩:=x
  rcases bW (jS hw q) with hn|hp
  have hp1:=mU q
  refine bD (bZ (b:=false) (aH (aA rfl rfl) cB cH) bQ) ?_
  refine bD (IS (a:=t.toD) (b:=.int (p:Int)) (aA rfl rfl) ∅ ∅) ?_
  refine pD (bD (sR (ds:=[.bool false,.bool true]) (outs:=[.str (bH false t),.str (bH true t)]) (eJ (bU (aF dJ (bY dJ)) (hz 2 ∅))) ∅ rfl ∅ rfl (hz 2 ∅) (λj d o e1 e2=>?_) ?_) (bD (NO (a:=.list (trees++[hO ws t p])) (b:=.list ((ws.drop p).map .str)) ?_ ∅ ∅ ?_) bQ)) (aM rfl (aM rfl eA))
  . obtain⟨few,rfl,rfl⟩:∃few,d=.bool few/\o=.str (bH few t):=by
     match j with
     | 0=>obtain rfl:=Option.some.inj e1;obtain rfl:=Option.some.inj e2;exact⟨_,rfl,rfl⟩
     | 1=>obtain rfl:=Option.some.inj e1;obtain rfl:=Option.some.inj e2;exact⟨_,rfl,rfl⟩
     | j+2=>trivial
    have hpl:(aI few t).length<=sizeLine:=Nat.le_trans (eZ few t) (Nat.le_trans (Nat.pow_le_pow_right ∅ (by lia:t.nodes<=20)) ∅)
    refine cP (ds:=[.list (((aI few t).map SS).map D.str)]) (by rfl) b.max.1 b.max.2 ∅ (bY ?_) (QQ (by simp[iM few t]))
    refine fP (ds:=(aI few t).map jZ) (eJ (cT FP (by rfl) gP ∅ (aF (aA rfl rfl) (bY (aA rfl rfl))) ((AZ FP b gP few t (by lia)).le (by unfold M;lia)))) ∅ rfl (by simp) (by simpa using hpl) λk d o e1 e2=>?_
    replace e1:=(List.getElem?_map)▸e1
    replace e2:=(List.getElem?_map)▸List.map_map▸e2
    cases q:(aI few t)[k]? with
    | none=>replace e1:=q▸e1;injection e1
    | some P =>
     replace e1:=q▸e1;replace e2:=q▸e2
     obtain rfl:=Option.some.inj e1;obtain rfl:=Option.some.inj e2
     exact cP (ds:=[jZ P]) (by rfl) b.min.1 b.min.2 ∅ (bY (aA rfl rfl)) (QR (jP few t P (List.mem_of_getElem? q)))
  . intro env h
    obtain⟨_,_⟩:=env
    subst h
    rfl
  . have hwl:(ws.map D.str).length<=sizeLine:=by rwa[List.length_map ..];exact hz _ (by exact Nat.le_trans (by assumption) ∅)
    refine aF (cR (a:=.list trees) (b:=.list [hO ws t p]) (aA rfl rfl) (bU (bY (bU (aF (bA (nX (b:=p) (aA rfl rfl) (aA rfl rfl) hwl) (by rwa[List.map_take];rfl)) (aF (bA (nX (b:=p-1) (ds:=(iN ws).map D.int) (aA rfl rfl) (bA (mM (a:=(p:Int)) (b:=1) (aA rfl rfl) aG) (by congr 1;lia)) (by rwa[List.length_map ..,lenS];exact hz _ (by exact Nat.le_trans (by assumption) ∅))) (by rwa[List.map_take];rfl)) (aF (bU (bY (aA rfl rfl)) (hz 1 ∅)) (bY aT)))) (hz 4 ∅))) (hz 1 ∅)) (dD (hz _ (by simp;exact Nat.le_trans (by assumption) ∅)))) (bY (bA (rX (a:=p) (aA rfl rfl) (aA rfl rfl) hwl) (by rwa[List.map_drop];rfl)))
  . intro env h
    obtain⟨_,_⟩:=env
    subst h
    rfl
theorem QX{f fg fp:Addr}(F:fV C f 48 ["words"])(FG:fV C fg 46 ["words"])(gG:C.mg ("_law_grown":Str)=some (.ref fg))(FP:fV C fp 47 ["tree","few"])(gP:C.mg ("_law_parties":Str)=some (.ref fp))(b:Bs C)
 (ws:List Str) (hl:ws.length<=20) (hw:∀w∈ws,dR w<=2):Fn C (M+2) f [.list (ws.map .str)] (.list (oV 21 ws)):=by
 rcases SQ (yC 21 ws (by exact Nat.succ_le_succ (by assumption))) with m|h1|h2|h3|h4
 refine jD F rfl ∅ ?_
 refine bD (bS (d:=.list []) (bU bM ∅) ∅) ?_
 refine bV (EX (λi=>[(("trees":Str),.list (cZ ws i).2),(("words":Str),.list ((cZ ws i).1.map .str))]) m (aM rfl (aM rfl eA)) (λi _=>eN dJ) (λi hi=>?_) ?_)
 . rcases tZ (sS ws i) with s1|s2|s3
   rcases mF (h2 i hi) with t|p|e
   have T:=yF FG gG FP gP b (cZ ws i).1 (cZ ws i).2 (by exact Nat.le_trans (by assumption) (by assumption)) (λw hw'=>hw w (s1 w hw')) (by lia)
   replace T:=e▸T
   have e2:cZ ws (i+1)=((cZ ws i).1.drop p,(cZ ws i).2++[hO (cZ ws i).1 t p]):=by
    show (match cV M (cZ ws i).1 with | none=>cZ ws i | some (t,p)=>_)=_
    rwa[e];rfl
   rwa[e2]
   exact T
 . rcases tZ (sS ws m) with s1|s2|s3
   have T:=yF FG gG FP gP b (cZ ws m).1 (cZ ws m).2 (by exact Nat.le_trans (by assumption) (by assumption)) (λw hw'=>hw w (s1 w hw')) (by lia)
   replace T:=h3▸T
   rwa[←h4]
   exact T
end
end Mine
end
section
open PySem PySem.W PyProof.Rows PySem.Calls Builtin.ObjectAttr
namespace Mine
structure dK(K:Frag)(Cl:Addr):Prop where
 ga:findIn K (.ref Cl) "__getattribute__"=some (some (.builtin "object.__getattribute__"))
 gn:findIn K (.ref Cl) "__getattr__"=some none
 sa:findIn K (.ref Cl) "__setattr__"=some (some (.builtin "object.__setattr__"))
 po:plainOver K Cl=true
 hd:hasDictIn K Cl=true
noncomputable def lY(es:List DictEntry)(y:Str):Option Value:=(es.find? (·.key.isStr y)).map (·.val)
noncomputable def IM(k:Nat)(h:Heap)(dx:Addr)(m:Str->Option Value):Prop:=∃es n,h.get? dx=some (dictOf es n)/\es.length<=k/\es.any (·.refKey)=false/\∀y,lY es y=m y
structure lZ(k:Nat)(h:Heap)(x dx Cl:Addr)(m:Str->Option Value):Prop where
 obj:h.get? x=some ⟨.ref Cl,some dx,.plain,#[]⟩
 im:IM k h dx m
 ne:x≠dx
theorem yG{es:List DictEntry}{y:Str}(h:es.any (·.refKey)=false):getL y es=some (lY es y):=by
 unfold getL lY
 cases es.find? (·.key.isStr y) with
 | some e=>rfl
 | none=>rwa[if_neg (by refine zl h ?_;decide)];rfl
theorem yH{name:Str}{hsh:Int}{tk:Tok}{v:Value}{y:Str}:∀es:List DictEntry,lY (putL name hsh (.str name tk) v es) y=if y=name then some v else lY es y
 | []=>by
  unfold putL lY
  by_cases q:y=name
  . subst q;simp[Value.isStr]
  . have:(Value.str name tk).isStr y=false:=by simp[Value.isStr];exact λe=>q e.symm
    simp[this,q]
 | e::r=>by
  have ih:=yH (name:=name) (hsh:=hsh) (tk:=tk) (v:=v) (y:=y) r
  unfold putL
  by_cases q:e.key.isStr name=true
  . rwa[if_pos q]
    unfold lY
    rwa[List.find?_cons,List.find?_cons]
    by_cases z:y=name
    . subst z
      simp[q]
    . have:e.key.isStr y=false:=by
       cases w:e.key.isStr y
       . rfl
       . exfalso
         cases hk:e.key<;>(replace q:=hk▸q;replace w:=hk▸w)<;>simp[Value.isStr] at q w
         exact z (w.symm.trans q)
      simp[this,z]
  . rwa[if_neg q]
    unfold lY at ih ⊢
    rwa[List.find?_cons,List.find?_cons]
    by_cases w:e.key.isStr y=true
    . simp only[w]
      by_cases z:y=name
      . subst z;exact absurd w q
      . rwa[if_neg z];rfl
    . simp only[w];exact ih
theorem yI{name:Str}{hsh:Int}{tk:Tok}{v:Value}:∀es:List DictEntry,es.any (·.refKey)=false->(putL name hsh (.str name tk) v es).any (·.refKey)=false
 | [],_=>rfl
 | e::r,h=>by
  rw[List.any_cons,Bool.or_eq_false_iff] at h
  unfold putL
  split
  . rwa[List.any_cons];rw[Bool.or_eq_false_iff];exact⟨h.1,h.2⟩
  . rwa[List.any_cons];rw[Bool.or_eq_false_iff];exact⟨h.1,yI r h.2⟩
theorem yJ{name:Str}{hsh:Int}{key v:Value}:∀es:List DictEntry,(putL name hsh key v es).length<=es.length+1
 | []=>Nat.le_refl _
 | e::r=>by
  have:=yJ (name:=name) (hsh:=hsh) (key:=key) (v:=v) r
  unfold putL
  split<;>simp at *<;>omega
theorem pP{name:Str}{hsh:Int}{key v:Value}:∀es:List DictEntry,(lY es name).isSome=true->(putL name hsh key v es).length=es.length
 | [],h=>by injection h
 | e::r,h=>by
  unfold putL
  split
  . rfl
  . rename_i q
    have:(lY r name).isSome=true:=by
     unfold lY at h ⊢
     replace h:=(List.find?_cons)▸h
     simp only[q] at h;exact h
    simp[pP r this]
section
variable{prog:Program}{w:World}{A:Around}{E:Value->Shared->Prop}{s:Shared}{K:Frag}{x dx Cl:Addr}{m:Str->Option Value}{k:Nat}{name:Str}{v:Value}
theorem lZ.at{h:Heap}(I:lZ k h x dx Cl m):∃es n,es.any (·.refKey)=false/\(∀y,lY es y=m y)/\es.length<=k/\h.get? dx=some (dictOf es n)/\InstAt h x ⟨.ref Cl,some dx,.plain,#[]⟩ Cl (some (dictOf es n)):=by
 rcases qC I.im with es|n|h1|h2|h3|h4
 exact⟨es,n,h3,h4,h2,h1,⟨I.obj,rfl,rfl,h1⟩⟩
theorem lZ.keeps{h h':Heap}(I:lZ k h x dx Cl m)(k1:∀o,h.get? x=some o->h'.get? x=some o)(k2:∀o,h.get? dx=some o->h'.get? dx=some o):lZ k h' x dx Cl m :=
 ⟨k1 _ I.obj,let ⟨es,n,e,r⟩:=I.im;⟨es,n,k2 _ e,r⟩,I.ne⟩
theorem sT{expr:Bool}{Q:Value->Shared->Prop}(X:K.In s.heap)(c:dK K Cl)(I:lZ k s.heap x dx Cl m)(ha:findIn K (.ref Cl) name=some none)(hv:m name=some v)(hh:handedIn v=true)(h:Q v {s with toks:=s.toks+1}) :
 wpAny (model prog w) A (getAttr (.ref x) name expr) Q E s:=by
 rcases EN I.at with es|n|h1|h2|_|_|I'
 exact get_value X I' c.ga (findObj_own c.hd ha rfl (by show getL name es=_;rwa[yG h1,h2 ..,hv];rfl)) hh h
theorem EY{expr:Bool}{Q:Value->Shared->Prop}{p fget:Addr}{rest:List Value}(X:K.In s.heap)(c:dK K Cl)(I:lZ k s.heap x dx Cl m)
 (ha:findIn K (.ref Cl) name=some (some (.ref p))) (hn:specialIn K (.ref p) "__get__"=some (some (.builtin "property.__get__"))) (ht:takesIn K (.ref p)=some true) (hp:recIn K p "property"=some (.ref fget::rest))
 (h:codeAny (model prog w) A.in1 (.call (.ref fget) ⟨[.ref x],[]⟩) (λr s'=>match r with | .ok (.ret v)=>wpAny (model prog w) A (handedOut v) Q E s' | .ok _=>False | .error e=>wpAny (model prog w) A (noteIf true (.ref x) (.str name s.toks) e) (λ_ s''=>E e s'') E s') {s with toks:=s.toks+1}) :
 wpAny (model prog w) A (getAttr (.ref x) name expr) Q E s:=by
 rcases EN I.at with es|n|h1|h2|_|_|I'
 exact get_bind X I' c.ga (findObj_data (by rcases aL (any_some c.hd) with cd|hc|_;rwa[hc];rfl) ha hn ht) c.gn (wpAny_call (prop_get (s:={s with toks:=s.toks+1}) X hp h))
theorem mV{pl:Sem Bool}{Q:Value×List Value->Shared->Prop}{f:Addr}(X:K.In s.heap)(c:dK K Cl)(I:lZ k s.heap x dx Cl m)
 (hf:findIn K (.ref Cl) name=some (some (.ref f))) (ht:isFn K (.ref f)=true) (hl:m name=none) (h:Q (.ref f,[.ref x]) s):wpAny (model prog w) A (getMethod (.ref x) name pl) Q E s:=by
 rcases EN I.at with es|n|h1|h2|_|_|I'
 exact method_fn X I' c.ga c.gn hf (beq_iff_eq.mp ht) (by show (getL name es).map _=_;rwa[yG h1,h2 ..,hl];rfl) h
theorem kA{Q:Unit->Shared->Prop}(X:K.In s.heap)(c:dK K Cl)(I:lZ k s.heap x dx Cl m)(ht:takerIn K Cl name=some none)(hk:k<=100)
 (h:∀h',Heap.SameBut dx s.heap h'->lZ (if (m name).isSome then k else k+1) h' x dx Cl (λy=>if y=name then some v else m y)->Q () {s with heap:=h',toks:=s.toks+2}) :
 wpAny (model prog w) A (setAttr (.ref x) name v) Q E s:=by
 rcases EN I.at with es|n|h1|h2|h3|D|I'
 refine set_plain X I' c.sa (osa_open (s:={s with toks:=s.toks+1}) X I' c.po ht λb=>?_)
 rcases aL (any_some c.hd) with cd|hc|hd'
 have D':(s.heap.update dx (Obj.putName name (PyData.keyHash w.params name) (.str name (s.toks+1)) v)).get? dx=some (dictOf (putL name (PyData.keyHash w.params name) (.str name (s.toks+1)) v es) (putN name es n)):=by
  rwa[Heap.get?_update_self _ D (by refine zl (putName_dict ..) ?_;rfl)];rwa[putName_dict ..];rfl
 have U1:Heap.SameBut dx s.heap (s.heap.update dx (Obj.putName name (PyData.keyHash w.params name) (.str name (s.toks+1)) v)):=Heap.SameBut.update ..
 refine wpAny_bind (wpAny_pure (wpAny_bind (wpAny_bind (wpAny_loadPart I.obj (wpAny_bind (Looks.here (s:={s with toks:=s.toks+1}) (looks_clsIn X hc) ?_))))))
 rwa[hd']
 refine wpAny_pure (a:=some dx) (wpAny_bind (wpAny_pure (wpAny_bind ?_)))
 unfold nsSet
 refine wpAny_bind (wpAny_bind (wpAny_askSetting (wpAny_pure (wpAny_bind (wpAny_mkText (wpAny_bind (wpAny_loadPart D ?_)))))))
 dsimp only[dictOf]
 have cc:(!es.toArray.any (·.key.isStr name)&&es.toArray.any (·.refKey))=false:=by
  rwa[←Array.any_toList,←Array.any_toList]
  simp[h1]
 rwa[aRefKeyMayBeTheName_at ..,cc]
 refine wpAny_updatePart D ?_
 have len:(putL name (PyData.keyHash w.params name) (.str name (s.toks+1)) v es).length<=if (m name).isSome then k else k+1:=by
  split
  . rename_i q
    rwa[pP es (by refine zl (h2 ..) ?_;exact q)];exact h3
  . exact Nat.le_trans (yJ es) (by exact Nat.succ_le_succ (by assumption))
 refine wpAny_bind (wpAny_lookBehind D' (pastItsLine_dict (by rwa[List.size_toArray,sizeLine_eq];exact Nat.le_trans len (by split<;>omega))) ?_)
 refine wpAny_pure (h _ U1 ⟨(U1.2 x I.ne).trans I.obj,⟨_,_,D',len,yI es h1,λy=>?_⟩,I.ne⟩)
 rwa[yH ..,h2 ..];rfl
end
noncomputable abbrev Cx.turn(C:Cx)(I':bX):Cx:={C with I:=I'}
noncomputable def Bo(C:Cx)(B:Heap):Prop:=∀b,C.I.own b->B.get? b=none
noncomputable def BA(C:Cx)(s s':Shared):Prop:=∃h' tk,s'={s with heap:=h',toks:=tk}/\∀b o,¬C.I.own b->s.heap.get? b=some o->h'.get? b=some o
noncomputable def MK(C:Cx)(env:Env)(s s':Shared):Prop:=∃h' tk,s'={s with heap:=h',toks:=tk}/\∀b o,¬C.I.own b->b≠env.locals->(∀x,env.cells.lookup x≠some b)->s.heap.get? b=some o->h'.get? b=some o
theorem MK.of_keeps{C:Cx}{env:Env}{s s':Shared}(k:Keeps s s'):MK C env s s':=let ⟨h,t,e,k⟩:=k;⟨h,t,e,λb o _ _ _ q=>k b o q⟩
theorem BA.of_keeps{C:Cx}{s s':Shared}(k:Keeps s s'):BA C s s':=let ⟨h,t,e,k⟩:=k;⟨h,t,e,λb o _ q=>k b o q⟩
theorem MK.of_frk{C:Cx}{env:Env}{s s':Shared}(k:rN env s s'):MK C env s s':=let ⟨h,t,e,k⟩:=k;⟨h,t,e,λb o _ q1 q2 q=>k b o q1 q2 q⟩
theorem MK.trans{C:Cx}{I':bX}{env:Env}{a b c:Shared}(x:MK C env a b)(y:MK (C.turn I') env b c)(ho:∀z,I'.own z->C.I.own z\/a.heap.get? z=none):MK C env a c:=by
 obtain h|t|rfl|k:=dZ x
 obtain h'|t'|rfl|k':=dZ y
 refine⟨h',t',rfl,λz o q1 q2 q3 e=>k' z o (λq=>(ho z q).elim q1 λn=>?_) q2 q3 (k z o q1 q2 q3 e)⟩
 injection tq n e
theorem BA.trans{C:Cx}{I':bX}{a b c:Shared}(x:BA C a b)(y:BA (C.turn I') b c)(ho:∀z,I'.own z->C.I.own z\/a.heap.get? z=none):BA C a c:=by
 obtain h|t|rfl|k:=dZ x
 obtain h'|t'|rfl|k':=dZ y
 refine⟨h',t',rfl,λz o q1 e=>k' z o (λq=>(ho z q).elim q1 λn=>?_) (k z o q1 e)⟩
 injection tq n e
inductive MO where
 | nxt (I:bX) (δ:List (Str×D))
 | brk (I:bX) (δ:List (Str×D))
 | cont (I:bX) (δ:List (Str×D))
 | ret (I:bX) (d:D)
noncomputable def YL(C:Cx)(n:Nat)(sc:Scope)(A:Around)(B:Heap)(env:Env)(X:Addr->Prop):MO->Flow->Shared->Prop
 | .nxt I δ,fl,s'=>fl=.next/\Ok (C.turn I) n sc δ A B env X s'.heap
 | .brk I δ,fl,s'=>fl=.brk/\Ok (C.turn I) n sc δ A B env X s'.heap
 | .cont I δ,fl,s'=>fl=.cont/\Ok (C.turn I) n sc δ A B env X s'.heap
 | .ret I d,fl,s'=>I.inv s'.heap/\∃v,fl=.ret v/\Rd X s'.heap v d
structure MX(C:Cx)(n:Nat)(sc:Scope)(δ:List (Str×D))(ss:List Stmt)(o:MO):Prop where
 go:∀(A:Around) (B:Heap) (env:Env) (X:Addr->Prop) (s:Shared) (Q:Flow->Shared->Prop) (E:Value->Shared->Prop),Ok C n sc δ A B env X s.heap->Bo C B ->
  (∀fl s',MK C env s s'->YL C n sc A B env X o fl s'->Q fl s')->wpAny C.M A (execs ss env) Q E s
structure M1(C:Cx)(n:Nat)(sc:Scope)(δ:List (Str×D))(st:Stmt)(o:MO):Prop where
 go:∀(A:Around) (B:Heap) (env:Env) (X:Addr->Prop) (s:Shared) (Q:Flow->Shared->Prop) (E:Value->Shared->Prop),Ok C n sc δ A B env X s.heap->Bo C B ->
  (∀fl s',MK C env s s'->YL C n sc A B env X o fl s'->Q fl s')->wpAny C.M A (exec st env) Q E s
structure SZ(C:Cx)(n:Nat)(sc:Scope)(δ:List (Str×D))(e:PySem.Expr)(I:bX)(d:D):Prop where
 go:∀(A:Around) (B:Heap) (env:Env) (X:Addr->Prop) (s:Shared) (Q:Value->Shared->Prop) (E:Value->Shared->Prop),Ok C n sc δ A B env X s.heap->Bo C B ->
  (∀v s',BA C s s'->Ok (C.turn I) n sc δ A B env X s'.heap->Rd X s'.heap v d->Q v s')->wpAny C.M A (eval e env) Q E s
section
variable{C:Cx}{n:Nat}{sc:Scope}{δ:List (Str×D)}
theorem hU:MX C n sc δ [] (.nxt C.I δ):=⟨λA B env X s Q E O _ h=>wpAny_execs_nil (h _ _ (.of_keeps (aE s)) ⟨rfl,O⟩)⟩
theorem aP{st:Stmt}{rest:List Stmt}{I:bX}{δ':List (Str×D)}{o:MO}(h1:M1 C n sc δ st (.nxt I δ'))(ho:∀b,I.own b->C.I.own b)(h2:MX (C.turn I) n sc δ' rest o):MX C n sc δ (st::rest) o:=by
 refine⟨?_⟩
 intro A B env X s Q E O bo h
 refine wpAny_execs_cons (h1.go A B env X s _ _ O bo λfl s1 k1 o1=>?_)
 obtain rfl|O1:=bW o1
 refine h2.go A B env X s1 Q E O1 (λb q=>bo b (ho b q)) λfl s2 k2 o2=>h fl s2 (k1.trans k2 λz q=>.inl (ho z q)) ?_
 cases o<;>exact o2
noncomputable def MO.stops:MO->Prop
 | .nxt _ _=>False
 | _=>True
theorem iT{st:Stmt}{rest:List Stmt}{o:MO}(h1:M1 C n sc δ st o)(hs:o.stops):MX C n sc δ (st::rest) o:=by
 refine⟨?_⟩
 intro A B env X s Q E O bo h
 refine wpAny_execs_cons (h1.go A B env X s _ _ O bo λfl s1 k1 o1=>?_)
 cases o with
 | nxt=>exact hs.elim
 | brk=>obtain rfl|O1:=bW o1;exact h _ s1 k1 ⟨rfl,O1⟩
 | cont=>obtain rfl|O1:=bW o1;exact h _ s1 k1 ⟨rfl,O1⟩
 | ret=>obtain i1|q_0:=bW o1;obtain v|rfl|r:=aL q_0;exact h _ s1 k1 ⟨i1,v,rfl,r⟩
theorem bB{st:Stmt}{δ':List (Str×D)}(h1:rO C n sc δ st (.nxt δ')):M1 C n sc δ st (.nxt C.I δ') :=
 ⟨λA B env X s Q E O bo h=>h1.go A B env X s Q E O λfl s' k ⟨e,O'⟩=>h fl s' (.of_frk k) ⟨e,O'⟩⟩
theorem kC{ss:List Stmt}{I:bX}{δ' δ'':List (Str×D)}(h:MX C n sc δ ss (.nxt I δ'))(k:∀x d,δ''.lookup x=some d->δ'.lookup x=some d):MX C n sc δ ss (.nxt I δ'') :=
 ⟨λA B env X s Q E O bo hq=>h.go A B env X s Q E O bo λfl s' k' ⟨e,O'⟩=>hq fl s' k' ⟨e,O'.sub k⟩⟩
theorem qJ{e:PySem.Expr}{pos:Pos}{d:D}(he:Ev C n sc δ e d):M1 C n sc δ (.Return (some e) pos) (.ret C.I d) :=
 ⟨λA B env X s Q E O bo h=>wpAny_Return_some (he.go A B env X s _ _ O λv s1 k1 r1=>h _ s1 (.of_keeps k1) ⟨(O.on k1).iv,v,rfl,r1⟩)⟩
theorem JD{pos:Pos}:M1 C n sc δ (.Break pos) (.brk C.I δ):=⟨λA B env X s Q E O bo h=>wpAny_Break (h _ s (.of_keeps (aE s)) ⟨rfl,O⟩)⟩
theorem aW{test:PySem.Expr}{body orelse:List Stmt}{pos:Pos}{b:Bool}{o:MO}(ht:Ts C n sc δ test b)(hb:MX C n sc δ (if b then body else orelse) o):M1 C n sc δ (.If test body orelse pos) o:=by
 refine⟨?_⟩
 intro A B env X s Q E O bo h
 refine wpAny_If (ht.go A B env X s _ _ O λs1 k1=>?_)
 have kJ:=hb.go A B env X s1 Q E (O.on k1) bo λfl s2 k2 o2=>h fl s2 ((MK.of_keeps k1).trans (I':=C.I) k2 λz q=>.inl q) o2
 cases b with
 | true=>exact kJ
 | false=>exact kJ
theorem vY{x:Str}{p pos:Pos}{e:PySem.Expr}{I:bX}{d:D}(he:SZ C n sc δ e I d)(hx:lc sc x=true)(hsw:∀env,env.scope=sc->swapsWith e (some (.Name x p)) pos.line env=pure false:=by intro _ _;rfl) :
 M1 C n sc δ (.Assign [.Name x p] e pos) (.nxt I ((x,d)::δ)):=by
 refine⟨?_⟩
 intro A B env X s Q E O bo h
 rcases aL (jN hx) with k|hk|hkk
 refine wpAny_Assign_Name (he.go A B env X s _ _ O bo λv s1 k1 O1 r1=>?_) (hsw env (let ⟨_,F,_⟩:=O.st;F.scope))
 refine O1.store (s:=s1) r1 hk hkk λh' tk O' F' _ _=>h _ _ ?_ ⟨rfl,O'⟩
 obtain h1|t1|rfl|k1:=dZ k1
 exact⟨h',tk,rfl,λb o q1 q2 q3 e=>F' b o q2 q3 (k1 b o q1 e)⟩
theorem sU{test:PySem.Expr}{body:List Stmt}{pos:Pos}{o:MO}(Is:Nat->bX)(Δ:Nat->List (Str×D))(m:Nat)(hI0:Is 0=C.I)(h0:∀y d,(Δ 0).lookup y=some d->δ.lookup y=some d)
 (hw:∀i b,(Is i).own b->C.I.own b) (ht:∀i,i<m->Ts (C.turn (Is i)) n sc (Δ i) test true)
 (hb:∀i,i<m->MX (C.turn (Is i)) n sc (Δ i) body (.nxt (Is (i+1)) (Δ (i+1)))\/MX (C.turn (Is i)) n sc (Δ i) body (.cont (Is (i+1)) (Δ (i+1))))
 (hfin:(Ts (C.turn (Is m)) n sc (Δ m) test false/\o=.nxt (Is m) (Δ m))\/(Ts (C.turn (Is m)) n sc (Δ m) test true/\((∃I δ',MX (C.turn (Is m)) n sc (Δ m) body (.brk I δ')/\o=.nxt I δ')\/∃I r,MX (C.turn (Is m)) n sc (Δ m) body (.ret I r)/\o=.ret I r))) :
 M1 C n sc δ (.While test body [] pos) o:=by
 refine⟨?_⟩
 intro A B env X s Q E O bo h
 have O0:Ok (C.turn (Is 0)) n sc (Δ 0) A B env X s.heap:=by rwa[hI0];exact O.sub h0
 refine wpAny_While (codeAny_whileLoop (λj s2=>∃i,j=m-i/\i<=m/\Ok (C.turn (Is i)) n sc (Δ i) A B env X s2.heap/\MK C env s s2) (λj s2 hj=>?_) m ⟨0,rfl,Nat.zero_le _,O0,.of_keeps (aE s)⟩)
 obtain i|rfl|him|O2|K2:=SQ hj
 have bo2:Bo (C.turn (Is i)) B:=λb q=>bo b (hw i b q)
 have tr:∀{a c:Shared},MK C env s a->MK (C.turn (Is i)) env a c->MK C env s c:=λx y=>x.trans y λz q=>.inl (hw i z q)
 rcases Nat.lt_or_ge i m with q | q
 . refine (ht i q).go A B env X s2 _ _ O2 λs3 k3=>?_
   rwa[if_pos rfl]
   have O3:=O2.on k3
   have K3:=tr K2 (.of_keeps k3)
   rcases hb i q with hb | hb
   . refine hb.go A B env X s3 _ _ O3 bo2 λfl s4 k4 o4=>?_
     obtain rfl|O4:=bW o4
     exact⟨m-(i+1),by grind,i+1,rfl,q,O4,tr K3 k4⟩
   . refine hb.go A B env X s3 _ _ O3 bo2 λfl s4 k4 o4=>?_
     obtain rfl|O4:=bW o4
     exact⟨m-(i+1),by grind,i+1,rfl,q,O4,tr K3 k4⟩
 . have:i=m:=Nat.le_antisymm him q
   subst this
   rcases hfin with⟨h1,rfl⟩ | ⟨h1,h2⟩
   . refine h1.go A B env X s2 _ _ O2 λs3 k3=>?_
     rwa[if_neg Bool.false_ne_true]
     exact wpAny_execs_nil (h _ s3 (tr K2 (.of_keeps k3)) ⟨rfl,O2.on k3⟩)
   . refine h1.go A B env X s2 _ _ O2 λs3 k3=>?_
     rwa[if_pos rfl]
     have O3:=O2.on k3
     have K3:=tr K2 (.of_keeps k3)
     rcases h2 with⟨I,δ',hb,rfl⟩ | ⟨I,r,hb,rfl⟩
     . refine hb.go A B env X s3 _ _ O3 bo2 λfl s4 k4 o4=>?_
       obtain rfl|O4:=bW o4
       exact h _ s4 (tr K3 k4) ⟨rfl,O4⟩
     . refine hb.go A B env X s3 _ _ O3 bo2 λfl s4 k4 o4=>?_
       obtain i4|q_0:=bW o4;obtain v|rfl|r4:=aL q_0
       exact h _ s4 (tr K3 k4) ⟨i4,v,rfl,r4⟩
end
noncomputable def bX.and(I J:bX):bX where
 own:=λb=>I.own b\/J.own b
 lst:=λb=>I.lst b\/J.lst b
 inv:=λh=>I.inv h/\J.inv h
 at_:=λh h' a k=>⟨I.at_ h h' a.1 λb o q=>k b o (.inl q),J.at_ h h' a.2 λb o q=>k b o (.inr q)⟩
 dom:=λh b a q=>q.elim (I.dom h b a.1) (J.dom h b a.2)
 seqs:=λh b o a q e l=>q.elim (λq=>.inl (I.seqs h b o a.1 q e l)) λq=>.inr (J.seqs h b o a.2 q e l)
noncomputable def cO(a:Addr)(P:List Value->Prop):bX where
 own:=λb=>b=a
 lst:=λb=>b=a
 inv:=λh=>∃vs,h.PlainList a vs/\P vs.toList
 at_:=λh h' ⟨vs,⟨n,e⟩,p⟩ k=>⟨vs,⟨n,k a _ rfl e⟩,p⟩
 dom:=λh b ⟨vs,⟨n,e⟩,p⟩ q=>by subst q;exact⟨_,e⟩
 seqs:=λh b o _ q _ _=>q
section
variable{C:Cx}{n:Nat}{sc:Scope}{δ:List (Str×D)}
theorem QY{x:Str}{p pos lp:Pos}{rest:List Stmt}{d:D}{P0:List Value->Prop}{J:Addr->List Value->Prop}(hP0:P0 [])(hx:lc sc x=true)(hsw:∀env,env.scope=sc->swapsWith (.List [] lp) (some (.Name x p)) pos.line env=pure false:=by intro _ _;rfl)
 (h:∀a,¬C.I.own a->MX (C.turn (C.I.and (cO a P0))) n sc ((x,.ptr a)::δ) rest (.ret (C.I.and (cO a (J a))) d)):MX C n sc δ (.Assign [.Name x p] (.List [] lp) pos::rest) (.ret C.I d):=by
 refine⟨?_⟩
 intro A B env X s Q E O bo hQ
 rcases aL (jN hx) with k|hk|hkk
 have hsc:env.scope=sc:=let ⟨_,F,_⟩:=O.st;F.scope
 refine wpAny_execs_cons (wpAny_Assign_Name (wpAny_List (wpAny_items_nil ⟨by decide,?_⟩)) (hsw env hsc))
 obtain⟨a,ha⟩:∃a,a=s.heap.objs.size:=⟨_,rfl⟩
 have na:s.heap.get? a=none:=by rwa[ha];exact aN
 obtain⟨hp,hhp⟩:∃hp,hp=s.heap.push {cls:=.type "list",data:=.seq ([]:List Value).toArray}:=⟨_,rfl⟩
 have kp:∀b o,s.heap.get? b=some o->hp.get? b=some o:=λb o e=>by rwa[hhp];exact Heap.get?_push_of_some _ e
 have el:hp.get? a=some {cls:=.type "list",data:=.seq ([]:List Value).toArray}:=by rwa[hhp,ha];exact Heap.get?_push_size _ rfl
 rwa[←hhp,←ha]
 rcases bW (O.iterNe na) with hne|hfa
 rcases aL O.st with ρ|F|V
 have neq:∀b o,s.heap.get? b=some o->b≠a:=λb o e z=>by replace e:=na▸z▸e;injection e
 have O1:Ok (C.turn (C.I.and (cO a P0))) n sc δ A B env (λb=>X b\/b=a) hp:=by
  refine⟨O.rm,O.ho.keeps kp,λb hb=>?_,⟨C.I.at_ _ _ O.iv λb o _ e=>kp b o e,#[],⟨0,el⟩,hP0⟩,λb hb=>?_,ρ,?_,V.at λb o x _ e=>⟨λz=>z.elim x (neq b o e),kp b o e⟩⟩
  . rcases hb with hb | rfl
    . rcases eU (O.xo b hb) with o|vs|nn|e|z;exact⟨o,vs,nn,kp _ _ e,z⟩
    . exact⟨_,_,_,el,rfl⟩
  . exact hb.elim (λq=>.inl (O.ox b q)) .inr
  . have F1:=F.keeps kp
    rcases nU F1.base with G|k0|hL|hC
    refine⟨⟨⟨G.k,G.g,G.b,G.nl⟩,k0,⟨hL.1,λq=>q.elim hL.2 λz=>?_⟩,λy c e=>⟨(hC y c e).1,λq=>q.elim (hC y c e).2 λz=>?_⟩⟩,F1.scope,F1.kind,F1.globals,F1.builtins,F1.ns,F1.cells,F1.inj,F1.allc⟩
    . rcases aL F.ns with m|q_0|_;obtain o|_|_|e|_:=eU q_0
      exact neq _ _ e z
    . rcases dZ (F.allc y c e) with v|o|e'|_
      exact neq _ _ e' z
 refine O1.store (s:={s with heap:=hp}) (.ptr a) hk hkk λh2 tk2 O2 B2 _ _=>?_
 refine (h a hfa.2).go A B env _ {s with heap:=h2,toks:=tk2} Q E O2 (λb q=>q.elim (bo b) λz=>by rwa[z];exact hfa.1) λfl s3 k3 o3=>?_
 obtain i3|q_0:=bW o3;obtain v|rfl|r3:=aL q_0
 refine hQ _ s3 ?_ ⟨i3.1,v,rfl,r3.at λb o x _ e=>⟨λz=>x (.inl z),e⟩⟩
 obtain h3|tk3|rfl|k3:=dZ k3
 exact⟨h3,tk3,rfl,λb o q1 q2 q3 e=>k3 b o (λz=>z.elim q1 (neq b o e)) q2 q3 (B2 b o q2 q3 (kp b o e))⟩
theorem qK{o e:PySem.Expr}{apos cpos pos:Pos}{a:Addr}{d:D}{I:bX}{P P':List Value->Prop}(hI:C.I=I.and (cO a P))(hIa:¬I.own a)(ho:Ev C n sc δ o (.ptr a))(he:Ev C n sc δ e d)
 (hP:∀(X:Addr->Prop) (h:Heap) (vs:List Value) (v:Value),P vs->Rd X h v d->P' (vs++[v])) (hz:∀vs,P vs->vs.length<=1000)
 (hl:(apos.endLine==cpos.line)=true)
 (hab:∀env,attributeBase o ("append":Str) env (eval o env)=eval o env:=by intro _;rfl)
 (hst:∀env,starEach [e] env=(false,eval e env)::starEach [] env:=by intro _;rfl) (hp:∀pos env,(backTo pos (starEach [e] env)).any (·.1)=false:=by intro _ _;rfl)
 (hall:∀pos env,(((backTo pos (starEach [e] env)).all λx=>!x.1)&&((backToKw pos (keywordEach [] env)).all λx=>x.1.isSome)&&decide (([e]:List PySem.Expr).length+([]:List Keyword).length+(if ([]:List Keyword).isEmpty=true then 0 else 1)<30))=true:=by intro _ _;rfl)
 (hs:∀env,swapsWith (.Call (.Attribute o ("append":Str) apos) [e] [] cpos) none pos.line env=pure false:=by intro _;rfl) :
 M1 C n sc δ (.Expr (.Call (.Attribute o ("append":Str) apos) [e] [] cpos) pos) (.nxt (I.and (cO a P')) δ):=by
 refine⟨?_⟩
 intro A B env X s Q E O bo h
 rcases aL O.st with _|F0|_
 have hi:interactive env=false:=by
  have:=F0.kind;replace this:=F0.scope.symm▸this
  unfold interactive
  lia
 refine wpAny_Expr_any (prog:=C.prog) (w:=C.w) ?_ hi (hs env)
 have key:∀s1:Shared,Keeps s s1->∃vs:Array Value,s1.heap.PlainList a vs/\P vs.toList:=λs1 k1=>by
  have iv:=(O.on k1).iv
  replace iv:=hI▸iv;exact iv.2
 refine wpAny_Call_method (T:="list") (id:="list.append") (hab env) (hall cpos env) hl _root_.PySem.F.plainAttrs_list _root_.PySem.F.slot_list_append _root_.PySem.F.type_list_append (ho.go A B env X s _ _ O λv s1 k1 r1=>?_)
 obtain rfl:=cW r1
 rcases aL (key s1 k1) with vs1|q_0|_;obtain n1|e1:=aU q_0
 refine⟨⟨_,e1,rfl⟩,λb q=>by (injection q with h_0;subst h_0);exact⟨_,e1,rfl⟩,?_⟩
 refine callWith_builtin (hp cpos env) ?_
 have eS:backTo cpos (starEach [e] env)=(false,eval e env)::backTo cpos (starEach [] env):=by rwa[hst ..];rfl
 have O1:=O.on k1
 have hA:=(aF he bM hst).go A B env X cpos s1
 rw[eS] at hA ⊢
 refine evalArgs_plain (hA _ _ O1 λvs s2 k2 r2=>?_)
 obtain v|_|r2|r3|rfl:=iG (aR r2)
 obtain rfl:=bJ r3
 rcases aL (key s2 (aB k1 k2)) with ws|hpl|hPw
 refine wpAny_list_append_plain hpl (λh' hl' sb=>?_) (Nat.le_trans (by simpa using hz _ hPw) ∅)
 have K:=aB k1 k2
 have O2:=O1.on k2
 revert k2 r2 hpl sb O2;refine kE K ?_;clear K;intro h2 tk2 k2' k2 r2 hpl sb O2
 have e':=sb.extBut
 refine h _ _ ⟨h',tk2,rfl,λb ob q1 _ _ q=>e' b ob (λz=>q1 (by rwa[hI,z];exact .inr rfl)) (k2' b ob q)⟩ ⟨rfl,?_⟩
 have Xa:X a:=O.ox a (by rwa[hI];exact .inr rfl)
 have O3:Ok (C.turn I) n sc δ A B env X h2:=by
  have iv:=O2.iv;replace iv:=hI▸iv
  rcases aL O2.st with ρ|F|V
  refine⟨O2.rm,O2.ho,O2.xo,iv.1,λb q=>O2.ox b (by rwa[hI];exact .inl q),ρ,?_,V⟩
  rcases nU F.base with G|k0|hL|hC
  exact⟨⟨⟨G.k,G.g,G.b,G.nl⟩,k0,⟨hL.1,λq=>hL.2 (by rwa[hI];exact .inl q)⟩,λy c z=>⟨(hC y c z).1,λq=>(hC y c z).2 (by rwa[hI];exact .inl q)⟩⟩,F.scope,F.kind,F.globals,F.builtins,F.ns,F.cells,F.inj,F.allc⟩
 have hBa:B.get? a=none:=bo a (by rwa[hI];exact .inr rfl)
 have O4:=O3.listBut ⟨hBa,hIa⟩ Xa hpl hl' e'
 rcases aL O4.st with ρ|F|V
 have neL:env.locals≠a/\∀y c,env.cells.lookup y=some c->c≠a:=by
  rcases aL O2.st with _|F2|_
  exact⟨λz=>F2.base.2.2.1.2 (by rwa[hI,z];exact .inr rfl),λy c e z=>(F2.base.2.2.2 y c e).2 (by rwa[hI,z];exact .inr rfl)⟩
 refine⟨O4.rm,O4.ho,O4.xo,⟨O4.iv,_,hl',by rwa[Array.toList_push];exact hP X h2 _ _ hPw r2⟩,λb q=>q.elim (O4.ox b) λz=>by rwa[z];exact Xa,ρ,?_,V⟩
 rcases nU F.base with G|k0|hL|hC
 exact⟨⟨⟨G.k,G.g,G.b,G.nl⟩,k0,⟨hL.1,λq=>q.elim hL.2 neL.1⟩,λy c z=>⟨(hC y c z).1,λq=>q.elim (hC y c z).2 (neL.2 y c z)⟩⟩,F.scope,F.kind,F.globals,F.builtins,F.ns,F.cells,F.inj,F.allc⟩
end
section
variable{C:Cx}{n:Nat}{sc:Scope}{δ:List (Str×D)}
theorem TA{ss:List Stmt}{d:D}(hI:∀b,¬C.I.own b)(h:MX C n sc δ ss (.ret C.I d)):Ex C n sc δ ss (.ret d):=by
 refine⟨?_⟩
 intro A B env X s Q E O hQ
 refine h.go A B env X s Q E O (λb q=>(hI b q).elim) λfl s' k o=>?_
 obtain _|q_0:=bW o;obtain v|rfl|r:=aL q_0
 obtain h'|tk|rfl|k:=dZ k
 exact hQ _ _ ⟨h',tk,rfl,λb o q1 q2 q3=>k b o (hI b) q1 q2 q3⟩ ⟨v,rfl,r⟩
theorem vZ{a b:Int}:DD C .BitAnd (.int a) (.int b) (.int (Builtin.bitAnd a b)):=by
 refine⟨?_⟩
 intro A X s va vb Q E ra rb _ _ h
 (obtain _|rfl:=aU (bF ra));(obtain _|rfl:=aU (bF rb))
 exact and_int (h _ _ aV (.int _ _))
theorem TB{a b:Int}:DD C .BitOr (.int a) (.int b) (.int (Builtin.bitOr a b)):=by
 refine⟨?_⟩
 intro A X s va vb Q E ra rb _ _ h
 (obtain _|rfl:=aU (bF ra));(obtain _|rfl:=aU (bF rb))
 exact or_int (h _ _ aV (.int _ _))
theorem QZ{a b:Int}(hb:0<=b):DD C .RShift (.int a) (.int b) (.int (a.fdiv (2 ^ b.toNat))):=by
 refine⟨?_⟩
 intro A X s va vb Q E ra rb _ _ h
 (obtain _|rfl:=aU (bF ra));(obtain _|rfl:=aU (bF rb))
 exact rshift_int hb (h _ _ aV (.int _ _))
theorem BB{a b:Int}(hb:0<=b)(hb2:b<=1000000)(ha:a.natAbs<2 ^ 64):DD C .LShift (.int a) (.int b) (.int (a*2 ^ b.toNat)):=by
 refine⟨?_⟩
 intro A X s va vb Q E ra rb _ _ h
 (obtain _|rfl:=aU (bF ra));(obtain _|rfl:=aU (bF rb))
 exact lshift_int_small hb hb2 ha (h _ _ aV (.int _ _))
theorem EZ{x:Str}{pos:Pos}{b:Array UInt8}{t:Tok}(hk:sc.names.lookup x=some .globalImplicit)(hg:C.mg x=some (.bytes b t))(hd:(x==("__debug__":Str))=false:=by decide):Ev C n sc δ (.Name x pos) (.bytes b) :=
 ⟨λA B env X s Q E O h=>cA O hk hg hd (h _ _ (aE s) (.bytes _ _))⟩
theorem lH{x:Str}{pos:Pos}{T:String}(hk:sc.names.lookup x=some .globalImplicit)(hg:C.mg x=none)(hb:C.mb x=some (.type T))(hd:(x==("__debug__":Str))=false:=by decide):Ev C n sc δ (.Name x pos) (.ty T) :=
 ⟨λA B env X s Q E O h=>cC O hk hg hb hd (h _ _ (aE s) (.ty _))⟩
noncomputable def D.tyOf:D->String
 | .none=>"NoneType"
 | .bool _=>"bool"
 | .int _=>"int"
 | .str _=>"str"
 | .bytes _=>"bytes"
 | .list _=>"list"
 | .ptr _=>""
 | .ty _=>"type"
noncomputable def D.pt:D->Bool
 | .ptr _=>true
 | .ty _=>true
 | _=>false
theorem pQ{x:PySem.Expr}{np p1:Pos}{d:D}(hx:Ev C n sc δ x d)(hp:d.pt=false)(hk:sc.names.lookup ("type":Str)=some .globalImplicit)(hg:C.mg ("type":Str)=none)(hm:C.mb ("type":Str)=some (.type "type"))
 (hs:∀env,starEach [x] env=[(false,eval x env)]:=by intro _;rfl):Ev C n sc δ (.Call (.Name ("type":Str) np) [x] [] p1) (.ty d.tyOf):=by
 refine⟨?_⟩
 intro A B env X s Q E O h
 refine Call_name1 (hs env) ?_
 refine cC O hk hg hm ∅ ?_
 refine PySem.callWith_type1 (hx.go A B env X s _ _ O λv s1 k1 r1=>?_)
 cases r1 with
 | none=>exact call_type_of (Tx:="NoneType") rfl ∅ (h _ s1 k1 (.ty _))
 | bool b=>exact call_type_of (Tx:="bool") rfl ∅ (h _ s1 k1 (.ty _))
 | int b=>exact call_type_of (Tx:="int") rfl ∅ (h _ s1 k1 (.ty _))
 | str b=>exact call_type_of (Tx:="str") rfl ∅ (h _ s1 k1 (.ty _))
 | bytes b=>exact call_type_of (Tx:="bytes") rfl ∅ (h _ s1 k1 (.ty _))
 | ptr b=>injection hp
 | ty b=>injection hp
 | list hX hl hr=>exact call_type_of (Tx:="list") hl.isList.typeIs ∅ (h _ s1 k1 (.ty _))
theorem yK{T U:String}(hc:compareOp .Is (.type T) (.type U)=pure (.bool (T==U))):Cm C n .Is (.ty T) (.ty U) (T==U):=by
 refine⟨?_⟩
 intro A X s va vb Q E rm ra rb _ _ h
 obtain rfl:=xT ra;obtain rfl:=xT rb
 exact wpAny_of_eq hc (h s (aE s))
theorem FC{v i:PySem.Expr}{pos:Pos}{x:List UInt8}{k:Int}(hv:Ev C n sc δ v (.bytes x.toArray))(hi:Ev C n sc δ i (.int k))(h0:0<=k)(h1:k<(x.length:Int))(hz:x.length<=1000)
 (hs:∀(l t:Tok),subscripted i false (.bytes x.toArray l) (.int k t)=operate [.bytes x.toArray l,.int k t] (getItem (.bytes x.toArray l) (.int k t)):=by intro _ _;with_unfolding_all rfl)
 (ht:∀l r,letTemporaryGo v (.bytes x.toArray l) r=pure ():=by intro _ _;rfl):Ev C n sc δ (.Subscript v i pos) (.int (x.getD k.toNat 0).toNat):=by
 refine⟨?_⟩
 intro A B env X s Q E O h
 refine Subscript_ (hv.go A B env X s _ _ O λa s1 k1 r1=>?_)
 refine hi.go A B env X s1 _ _ (O.on k1) λb s2 k2 r2=>?_
 (obtain _|rfl:=aU (bF r2))
 (obtain _|rfl:=aU (gY r1))
 exact KBy.item_N (by exact Nat.le_trans (by assumption) ∅) h0 h1 (h _ _ (aB (aB k1 k2) aV) (.int _ _)) (hs _ _) (ht _)
theorem sV{X:Addr->Prop}{h:Heap}:∀{vs:List Value} {is:List Int},dI X h vs (is.map .int)->IntsAre vs is
 | _,[],r=>by obtain rfl:=bJ r;exact .nil
 | _,i::is,r=>by
  obtain _|_|r1|r|rfl:=iG (aR r)
  (obtain _|rfl:=aU (bF r1));exact .cons _ _ (sV r)
theorem JE{np pos:Pos}{x:PySem.Expr}{is:List Int}(hn:200<=n)(hx:Ev C n sc δ x (.list (is.map .int)))(hr:∀i∈is,0<=i/\i<256)(hz:is.length<=1000)(hk:sc.names.lookup ("bytes":Str)=some .globalImplicit)(hg:C.mg ("bytes":Str)=none)(hm:C.mb ("bytes":Str)=some (.type "bytes"))
 (hs:∀env,starEach [x] env=[(false,eval x env)]:=by intro _;rfl):Ev C n sc δ (.Call (.Name ("bytes":Str) np) [x] [] pos) (.bytes (byteArr is)):=by
 refine⟨?_⟩
 intro A B env X s Q E O h
 refine Call_name1 (hs env) ?_
 refine cC O hk hg hm ∅ ?_
 refine PySem.callWith_type1 (hx.go A B env X s _ _ O λv s1 k1 r1=>?_)
 obtain a|ws|hX|hl|hr'|rfl:=qC (cK r1)
 refine call_bytes_ints hl.isList (sV hr') hr (by rwa[(sV hr').length];exact Nat.le_trans hz ∅) (O.rm.hn hn) λh' t k kk=>h _ _ ?_ (.bytes _ _)
 exact aB k1 ⟨h',k,rfl,kk⟩
end
section
variable{C:Cx}{n:Nat}{sc:Scope}{δ:List (Str×D)}
noncomputable def sW(b:Array UInt8):List D:=b.toList.map λc=>.int (c.toNat:Int)
theorem JF{e:PySem.Expr}{b:Array UInt8}(hn:200<=n)(he:Ev C n sc δ e (.bytes b)):Sr C n sc δ e (sW b):=by
 refine⟨?_⟩
 intro A B env X s Q E O h
 have hh:=O.rm.hn hn
 refine he.go A B env X s _ _ O λv s1 k1 r1=>?_
 obtain t|rfl:=aU (gY r1)
 refine KBw.pyIter_bytes ?_
 have k2:∀(ob:Obj) b o,s1.heap.get? b=some o->(s1.heap.push ob).get? b=some o:=λob b o e=>Heap.get?_push_of_some _ e
 have hI:(s1.heap.push {cls:=.type "bytes_iterator",data:=.fields #[.bytes b t,.int 0 0]}).get? s1.heap.objs.size=some {cls:=.type "bytes_iterator",data:=.fields #[.bytes b t,.int 0 0]}:=Heap.get?_push_size _ rfl
 refine h _ _ (aB k1 ⟨_,_,rfl,k2 _⟩) (bG (bC k1) aN) ⟨_,_,_,hI,rfl,rfl,.inr (.inr rfl)⟩ λX' _=>⟨λi h=>KBw.IsBytesIter h s1.heap.objs.size b t i,?_,⟨_,hI,rfl,rfl⟩⟩
 refine {obj:=?_,frame:=?_,item:=?_,done:=?_,self:=?_}
 . exact λi h ⟨o,e,c,d⟩=>⟨_,_,o,e,c,d,.inr (.inr rfl)⟩
 . exact λi h h' ⟨o,e,r⟩ k1 _=>⟨o,k1 _ e,r⟩
 . intro i d s2 Q2 E2 hd hA hq
   unfold sW at hd
   replace hd:=(List.getElem?_map)▸hd
   cases q:b.toList[i]? with
   | none=>replace hd:=q▸hd;injection hd
   | some c =>
    replace hd:=q▸hd;obtain rfl:=Option.some.inj hd
    exact KBw.next_item hA (by rwa[←Array.getElem?_toList];exact q) λh' hi sb=>hq _ h' _ (.int _ _) hi sb.extBut
 . intro s2 Q2 E2 _ _ hA hq
   exact KBw.next_end hh hA (by simp[sW]) λh' e=>hq h' e
 . intro i s2 Q2 E2 hA hq
   exact KBw.pyIter_self hA hq
theorem RA{x:Str}{p pos:Pos}{iter:PySem.Expr}{body:List Stmt}{ds:List D}(Is:Nat->bX)(Δ:Nat->List (Str×D))(hI0:Is 0=C.I)(hsr:Sr C n sc δ iter ds)(h0:∀y d,(Δ 0).lookup y=some d->δ.lookup y=some d)(hx:lc sc x=true)
 (hw:∀i b,(Is i).own b->C.I.own b) (hb:∀i d,ds[i]?=some d->MX (C.turn (Is i)) n sc ((x,d)::Δ i) body (.nxt (Is (i+1)) (Δ (i+1))))
 (hfold:∀env x,foldedSetIterable iter env x=pure x:=by intro _ _;rfl):M1 C n sc δ (.For (.Name x p) iter body [] pos) (.nxt (Is ds.length) (Δ ds.length)):=by
 refine⟨?_⟩
 intro A B env X s Q E O bo h
 rcases aL (jN hx) with kx|hkx|ox
 refine wpAny_For (hsr.go A B env X s _ _ O λI s1 k1 nI ia itr=>?_) (hfold env)
 rcases aL (itr X λa ha=>.inl ha) with At|W|hAt
 rcases bW (O.iterNe nI) with hneI|hBI
 have O1:Ok (C.turn (Is 0)) n sc (Δ 0) A B env X s1.heap:=by rwa[hI0];exact (O.on k1).sub h0
 have tr:∀{i:Nat} {a c:Shared},MK C env s a->MK (C.turn (Is i)) env a c->MK C env s c:=λ{i a c} x y=>x.trans y λz q=>.inl (hw i z q)
 refine codeAny_forLoop (λj s2=>∃i,j=ds.length-i/\i<=ds.length/\Ok (C.turn (Is i)) n sc (Δ i) A B env X s2.heap/\At i s2.heap/\MK C env s s2) (λj s2 hj=>?_) ds.length ⟨0,rfl,Nat.zero_le _,O1,hAt,.of_keeps k1⟩
 obtain i|rfl|him|O2|At2|K2:=UM hj
 have ia2:=W.obj _ _ At2
 have bo2:Bo (C.turn (Is i)) B:=λb q=>bo b (hw i b q)
 have hBI2:IB (C.turn (Is i)) B I:=⟨hBI.1,λq=>hBI.2 (hw i I q)⟩
 have frI:∀h',Heap.ExtBut I s2.heap h'->∀tk,MK C env s {s2 with heap:=h',toks:=tk}:=λh' e tk=>by
  obtain h2|t2|rfl|b2:=dZ K2
  exact⟨h',tk,rfl,λb o q0 q1 q2 q3=>e b o (λz=>by replace q3:=nI▸z▸q3;injection q3) (b2 b o q0 q1 q2 q3)⟩
 cases hd:ds[i]? with
 | some d =>
  refine W.item i d s2 _ _ hd At2 λv h3 tk3 r3 At3 e3=>?_
  have O3:=O2.extBut ia2 hBI2 hneI e3
  have ia3:=W.obj _ _ At3
  refine wpAny_assign_Name (O3.store (s:={s2 with heap:=h3,toks:=tk3}) r3 hkx ox λh4 tk4 O4 B4 st4 lo4=>?_)
  rcases aL O3.st with _|F3|_
  have K4:MK C env s {s2 with heap:=h4,toks:=tk4}:=tr (i:=i) (frI h3 e3 tk3) ⟨h4,tk4,rfl,λb o _ q1 q2 q3=>B4 b o q1 q2 q3⟩
  have At4:At (i+1) h4:=W.frame _ _ _ At3 (λo e=>by
   obtain T|fs|o'|e'|hc|hd'|_:=tX ia3
   have h_:=sx e e';clear e';subst h_
   exact F3.off B4 I o (by rwa[hd'];intro _ _ z;injection z) (by rwa[hd'];intro _ z;injection z) e) λb o _ ⟨vs,nn,y⟩ e=>F3.off B4 b o (by rwa[y];intro _ _ z;injection z) (by rwa[y];intro _ z;injection z) e
  refine (hb i d hd).go A B env X {s2 with heap:=h4,toks:=tk4} _ _ O4 bo2 λfl s5 k5 o5=>?_
  obtain rfl|O5:=bW o5
  rcases aL O4.st with _|F4|_
  have ia4:=W.obj _ _ At4
  have K5:=tr (i:=i) K4 k5
  obtain h5|tk5|rfl|b5:=dZ k5
  have offE:∀b o,(∀es ep,o.data≠.dict es ep)->(∀v,o.data≠.cell v)->¬(Is i).own b->h4.get? b=some o->h5.get? b=some o:=λb o h1 h2 h3 e=>by
   refine b5 b o h3 (λq=>?_) (λy q=>?_) e
   . rcases aL F4.ns with m|hn|_
     obtain⟨es,ep,hd⟩:=sD hn (q▸e)
     exact h1 _ _ hd
   . rcases aU (F4.allc y b q) with v|hv
     exact h2 _ (xU hv e)
  have At5:At (i+1) h5:=W.frame _ _ _ At4 (λo e=>by
   obtain T|fs|o'|e'|hc|hd'|_:=tX ia4
   have h_:=sx e e';clear e';subst h_
   exact offE I o (by rwa[hd'];intro _ _ z;injection z) (by rwa[hd'];intro _ z;injection z) hBI2.2 e) λb o xb ⟨vs,nn,y⟩ e=>offE b o (by rwa[y];intro _ _ z;injection z) (by rwa[y];intro _ z;injection z) (λob=>xb (O4.ox b ((Is i).seqs _ b o O4.iv ob e ⟨vs,nn,y⟩))) e
  have hlt:=(List.getElem?_eq_some_iff.mp hd).1
  exact⟨ds.length-(i+1),by omega,i+1,rfl,hlt,O5,At5,K5⟩
 | none =>
  have hlen:ds.length<=i:=List.getElem?_eq_none_iff.mp hd
  have hi:i=ds.length:=by lia
  subst hi
  refine W.done s2 _ _ O2.ho hneI At2 λh3 e3=>?_
  exact wpAny_execs_nil (h _ _ (frI h3 e3 s2.toks) ⟨rfl,O2.extBut ia2 hBI2 hneI e3⟩)
end
noncomputable def qM(C:Cx)(f:Addr)(i:Nat)(args:List Value->Args)(names:List Str):Prop:=∃ob fd,C.K.lookup f=some ob/\ob.data=.func fd/\codeIn C.K fd.code fd.qualname=true/\fd.body=.stmts (aX (aY i))/\fd.scope=aD (aY i) /\
 fd.closure=[]/\fd.globals=mainGlobals/\fd.builtins=builtinsNs /\
 ∀vs:List Value,vs.length=names.length->∀(A:Around) (s:Shared) (Q:List (Str×Value)->Shared->Prop) (E:Value->Shared->Prop),C.K.In s.heap->Q (names.zip vs) s->wpAny C.M A (bindArgs fd (args vs)) Q E s
theorem JG{C:Cx}{n:Nat}{f:Addr}{i:Nat}{args:List Value->Args}{names:List Str}{ds:List D}{d:D}(F:qM C f i args names)(hl:ds.length=names.length)(hs:fC (aD (aY i)) names=true)(h:Ex C n (aD (aY i)) (names.zip ds) (aX (aY i)) (.ret d)):QL C (n+1) f args ds d:=by
 obtain ob|fd|h1|h2|h3|h4|h5|h6|h7|h8|h9:=SW F
 simp only[fC,Bool.and_eq_true,Bool.or_eq_true,Bool.not_eq_true',decide_eq_true_eq,List.all_eq_true] at hs
 obtain q_0|q6:=bW hs;obtain q_1|q5:=bW q_0;obtain q_2|q4:=bW q_1;obtain q_3|q3:=bW q_2;obtain q1|q2:=bW q_3
 replace q1:=h5.symm▸q1;replace q2:=h5.symm▸q2;replace q3:=h5.symm▸q3;replace q5:=h5.symm▸q5;replace q6:=h5.symm▸q6;replace h:=h5.symm▸h
 exact DG h1 h2 h3 h4 h6 h7 h8 q1 q2 q3 (λvs e=>h9 vs (e.trans hl)) q4 q5 q6 h
section
variable{C:Cx}{n:Nat}{sc:Scope}{δ:List (Str×D)}
theorem JH{f:Str}{np pos:Pos}{a:PySem.Expr}{as:List PySem.Expr}{ds:List D}{d:D}{fa:Addr}{i:Nat}{args:List Value->Args}{names:List Str}(F:qM C fa i args names)(hargs:∀vs,args vs=⟨vs,[]⟩)(hk:sc.names.lookup f=some .globalImplicit)(hg:C.mg f=some (.ref fa))(hd:(f==("__debug__":Str))=false)
 (ha:uT C n sc δ (a::as) ds) (hf:QL C n fa args ds d) (hst:∀env,starEach (a::as) env=(false,eval a env)::starEach as env:=by intro _;rfl) :
 Ev C n sc δ (.Call (.Name f np) (a::as) [] pos) d:=by
 refine⟨?_⟩
 intro A B env X s Q E O h
 obtain ob|fd|h1|h2|_:=iG F
 refine wpAny_Call_ofName (cA O hk hg hd ?_)
 refine callWith_function (o:=ob) (fd:=fd) ?_
 have e:backTo pos (starEach (a::as) env)=(false,eval a env)::backTo pos (starEach as env):=by rwa[hst ..];rfl
 have hA:=ha.go A B env X pos s
 rw[e] at hA ⊢
 refine evalArgs_plain (hA _ _ O λvs s1 k1 r1=>?_)
 have O1:=O.on k1
 refine⟨⟨O1.gl.k _ _ h1,h2⟩,?_⟩
 have:=hf.go A X s1 vs Q E O1.rm O1.ho O1.xo O1.gl O1.iv O1.ox r1 λv s2 k2 r2=>h v s2 (aB k1 k2) r2
 rw[hargs] at this
 exact this
theorem FE{f k:Str}{np pos kp:Pos}{a e:PySem.Expr}{d1 d2 d:D}{fa:Addr}{i:Nat}{args:List Value->Args}{names:List Str}(F:qM C fa i args names)(hargs:∀v w,args [v,w]=⟨[v],[(k,w)]⟩)(hk:sc.names.lookup f=some .globalImplicit)(hg:C.mg f=some (.ref fa))(hd:(f==("__debug__":Str))=false)
 (ha:Ev C n sc δ a d1) (he:Ev C n sc δ e d2) (hf:QL C n fa args [d1,d2] d)
 (hst:∀env,starEach [a] env=(false,eval a env)::starEach [] env:=by intro _;rfl) (hkw:∀env,backToKw pos (keywordEach [⟨some k,e,kp⟩] env)=[(some k,do let v ←eval e env;standAt pos;pure v)]:=by intro _;rfl) :
 Ev C n sc δ (.Call (.Name f np) [a] [⟨some k,e,kp⟩] pos) d:=by
 refine⟨?_⟩
 intro A B env X s Q E O h
 obtain ob|fd|h1|h2|_:=iG F
 refine wpAny_Call_ofName (cA O hk hg hd ?_)
 rwa[hkw env]
 refine callWith_function_kw (o:=ob) (fd:=fd) ?_
 have eb:backTo pos (starEach [a] env)=(false,eval a env)::backTo pos (starEach [] env):=by rwa[hst ..];rfl
 have hA:=(aF ha bM hst).go A B env X pos s
 rw[eb] at hA ⊢
 refine evalArgs_kw rfl (hA _ _ O λvs s1 k1 r1=>?_)
 have O1:=O.on k1
 obtain v|_|r1|r0|rfl:=iG (aR r1)
 obtain rfl:=bJ r0
 show wpAny C.M A (evalAll [do let v ←eval e env;standAt pos;pure v]) _ E s1
 refine wpAny_evalAll_cons (wpAny_bind (he.go A B env X s1 _ _ O1 λw s2 k2 r2=>wpAny_bind (wpAny_standAt (wpAny_pure (wpAny_evalAll_nil ?_)))))
 have O2:=O1.on k2
 refine⟨⟨O2.gl.k _ _ h1,h2⟩,?_⟩
 have:=hf.go A X s2 [v,w] Q E O2.rm O2.ho O2.xo O2.gl O2.iv O2.ox (.cons (r1.on k2) (.cons r2 .nil)) λv' s3 k3 r3=>h v' s3 (aB (aB k1 k2) k3) r3
 rw[hargs] at this
 exact this
theorem vE{pos:Pos}:Ts C n sc δ (.BoolOp .Or [] pos) false:=⟨λA B env X s Q E O h=>isTrue_or_nil (h s (aE s))⟩
theorem fA{x:PySem.Expr}{rest:List PySem.Expr}{pos:Pos}{a b:Bool}(h1:Ts C n sc δ x a)(h2:a=false->Ts C n sc δ (.BoolOp .Or rest pos) b):Ts C n sc δ (.BoolOp .Or (x::rest) pos) (a||b):=by
 refine⟨?_⟩
 intro A B env X s Q E O h
 refine isTrue_or (h1.go A B env X s _ _ O λs1 k1=>?_)
 cases a with
 | true=>exact h s1 k1
 | false =>
  rwa[if_neg Bool.false_ne_true]
  exact wpAny_mono ((h2 rfl).go A B env X s1 Q E (O.on k1) λs2 k2=>h s2 (aB k1 k2)) (λ_ _ x=>x) λ_ _ x=>x
end
section
variable{C:Cx}{n:Nat}
theorem FF{f:Addr}(F:fV C f 9 ["data"])(b:Bs C)(bt:C.mg ("bytes":Str)=none/\C.mb ("bytes":Str)=some (.type "bytes"))(x:Array UInt8):Fn C (n+1) f [.bytes x] (.bytes x):=by
 refine jD F rfl ∅ ?_
 refine bD (bS (d:=.ty "bytes") (bA (pQ (d:=.bytes x) (aA rfl rfl) rfl (by rfl) b.type.1 b.type.2) rfl) ∅) ?_
 exact bV (bZ (b:=true) (aC (aH (aA rfl rfl) (lH (by rfl) bt.1 bt.2) (yK (by rfl))) ∅) (bV (bO (aA rfl rfl))))
theorem JI{f:Addr}(F:fV C f 10 ["x"])(b:Bs C)(bt:C.mg ("bool":Str)=none/\C.mb ("bool":Str)=some (.type "bool"))(v:Bool):Fn C (n+1) f [.bool v] (.bool v):=by
 refine jD F rfl ∅ ?_
 refine bD (bS (d:=.ty "bool") (bA (pQ (d:=.bool v) (aA rfl rfl) rfl (by rfl) b.type.1 b.type.2) rfl) ∅) ?_
 refine bV (bZ (b:=true) (aC (fA (aH (aA rfl rfl) cB cH) λ_=>fA (b:=false) (aH (aA rfl rfl) (lH (by rfl) bt.1 bt.2) (yK (by rfl))) λq=>by exact absurd q ∅) (by rfl)) (bV (bO (pH (b:=v) (eN (aA rfl rfl)) ?_))))
 cases v<;>exact dJ
end
noncomputable def ID:List UInt8:=((List.range 26).map (·+65)++(List.range 26).map (·+97)++(List.range 10).map (·+48)++[43,47]).map UInt8.ofNat
noncomputable def eV(i:Nat):Nat:=(8*i) % 6
noncomputable def lR(i:Nat):Nat:=(eV i+8) / 6
noncomputable def gR(k:Int):Int:=((ID.getD k.toNat 0).toNat:Int)
noncomputable def mA(bs:List Int):Nat->Int
 | 0=>0
 | i+1=>(mA bs i*256+bs.getD i 0) % 65536
noncomputable def jT(bs:List Int)(i j:Nat):Int:=gR (((mA bs (i+1)).fdiv (2 ^ (eV i+8-6*(j+1)))) % 64)
noncomputable def outs(bs:List Int):Nat->List Int
 | 0=>[]
 | i+1=>outs bs i++(List.range (lR i)).map (jT bs i)
noncomputable def hV(bs:List Int):List Int :=
 if eV bs.length=2 then [gR ((mA bs bs.length % 4)*16),61,61] else if eV bs.length=4 then [gR ((mA bs bs.length % 16)*4),61] else []
noncomputable def wA(bs:List Int):List Int:=outs bs bs.length++hV bs
theorem qN(bs:List Int):∀i,0<=mA bs i/\mA bs i<65536
 | 0=>by simp[mA]
 | i+1=>by unfold mA;grind
theorem yL{a b:Int}(ha:0<=a)(hb:0<=b)(hb2:b<256):Builtin.bitOr (a*256) b=a*256+b:=by
 rcases aU (Int.eq_ofNat_of_zero_le ha) with x|rfl
 rcases aU (Int.eq_ofNat_of_zero_le hb) with y|rfl
 have h:y<2 ^ 8:=by lia
 have z:(x <<< 8) &&& y=0:=by
  refine Nat.eq_of_testBit_eq λi=>?_
  rwa[Nat.testBit_and ..,Nat.testBit_shiftLeft ..,Nat.zero_testBit ..]
  by_cases q:8<=i
  . rwa[Nat.testBit_lt_two_pow (Nat.lt_of_lt_of_le h (Nat.pow_le_pow_right ∅ q)),Bool.and_false ..];rfl
  . simp[q]
 rw[Nat.shiftLeft_eq] at z
 have h1:(0:Int)<=(x:Int)*256:=by exact Int.natCast_nonneg _
 have h2:((x:Int)*256).toNat=x*256:=by rfl
 rwa[bitOr_and ..,bitAnd_pp h1 hb,h2,Int.toNat_natCast ..,z]
 rfl
section
variable{C:Cx}{n:Nat}{sc:Scope}{δ:List (Str×D)}
theorem dM{a b:Int}:Cm C n .GtE (.int a) (.int b) (decide (b<=a)):=by
 refine⟨?_⟩
 intro A X s va vb Q E rm ra rb _ _ h
 (obtain _|rfl:=aU (bF ra));(obtain _|rfl:=aU (bF rb));exact PyProof.Rows.ge_int (h s (aE s))
noncomputable def L(ns:List Int)(vs:List Value):Prop:=IntsAre vs ns/\ns.length<=100
theorem L.add{ns:List Int}{k:Int}(hl:ns.length<100)(X:Addr->Prop)(h:Heap)(vs:List Value)(v:Value)(x:L ns vs)(r:Rd X h v (.int k)):L (ns++[k]) (vs++[v]):=by
 (obtain _|rfl:=aU (bF r))
 refine⟨?_,by simp;exact Nat.le_sub_one_of_lt (by assumption)⟩
 have:∀{vs:List Value} {ns:List Int} {t:Tok},IntsAre vs ns->IntsAre (vs++[.int k t]) (ns++[k]):=by
  intro vs ns t h
  induction h with
  | nil=>exact .cons _ _ .nil
  | cons x t _ ih=>exact .cons x t ih
 exact this x.1
theorem L.len{ns:List Int}(vs:List Value)(x:L ns vs):vs.length<=1000:=by have:=x.1.length;have:=x.2;lia
theorem wB{np pos:Pos}{x:PySem.Expr}{is:List Int}{I:bX}{a:Addr}(hI:C.I=I.and (cO a (L is)))(hn:200<=n)(hx:Ev C n sc δ x (.ptr a))(hr:∀i∈is,0<=i/\i<256)(hk:sc.names.lookup ("bytes":Str)=some .globalImplicit)(hg:C.mg ("bytes":Str)=none)(hm:C.mb ("bytes":Str)=some (.type "bytes"))
 (hs:∀env,starEach [x] env=[(false,eval x env)]:=by intro _;rfl):Ev C n sc δ (.Call (.Name ("bytes":Str) np) [x] [] pos) (.bytes (byteArr is)):=by
 refine⟨?_⟩
 intro A B env X s Q E O h
 refine Call_name1 (hs env) ?_
 refine cC O hk hg hm ∅ ?_
 refine PySem.callWith_type1 (hx.go A B env X s _ _ O λv s1 k1 r1=>?_)
 obtain rfl:=cW r1
 have iv:=(O.on k1).iv
 replace iv:=hI▸iv
 rcases aL iv.2 with vs|hl|p
 refine call_bytes_ints (vs:=vs.toList) (by simpa using hl.isList) p.1 hr (Nat.le_trans (L.len _ p) ∅) (O.rm.hn hn) λh' t k kk=>h _ _ ?_ (.bytes _ _)
 exact aB k1 ⟨h',k,rfl,kk⟩
end
theorem DL(i:Nat):lR i<=2/\6*lR i<=eV i+8/\eV i+8<6*lR i+6 :=
 ⟨(Nat.div_le_div_right (Nat.add_le_add_right (Nat.le_of_lt_succ (Nat.mod_lt (8*i) (by decide:6 > 0))) 8):(eV i+8) / 6<=13 / 6),Nat.mul_div_le _ _,Nat.lt_mul_div_succ _ ∅⟩
theorem sX(bs:List Int):∀i,i<=3->(outs bs i).length<=2*i
 | 0,_=>Nat.le_refl _
 | i+1,h=>by
  have:=sX bs i (by exact Nat.le_of_lt (by assumption))
  have t:=(DL i).1
  unfold outs
  simp;lia
theorem FK(i:Nat):eV (i+1)=eV i+8-6*lR i:=by
 show (8*(i+1)) % 6=_
 rwa[Nat.mul_succ ..,←Nat.mod_add_mod ..]
 exact Nat.mod_eq_sub _ _
theorem FM{bs:List Int}{i j:Nat}(h:(outs bs i).length<=2*i)(hi:i<3)(hj:j<=2):(outs bs i++(List.range j).map (jT bs i)).length<100:=by
 rwa[List.length_append,List.length_map ..,List.length_range]
 lia
theorem TC{a:Int}(h:0<=a/\a<65536):a.natAbs<2 ^ 64:=by lia
theorem VA{L t j:Nat}(h:j<t)(ht:6*t<=L):(6:Int)<=(L:Int)-6*(j:Int):=by lia
theorem VB{L t:Nat}(h:L<6*t+6):¬(6:Int)<=(L:Int)-6*(t:Int):=by lia
theorem VC{L t j:Nat}(h:j<t)(ht:6*t<=L):(L:Int)-6*(j:Int)-6=((L-6*(j+1):Nat):Int):=by lia
theorem VD{L j:Nat}:(L:Int)-6*(j:Int)-6=(L:Int)-6*((j+1:Nat):Int):=by lia
theorem TD{L t:Nat}(h:6*t<=L):(L:Int)-6*(t:Int)=((L-6*t:Nat):Int):=by grind
theorem DM:ID.length=64:=∅
section
variable{C:Cx}{n:Nat}{sc:Scope}{δ:List (Str×D)}
theorem BC{i:PySem.Expr}{p pos:Pos}{k:Int}{t:Tok}(hg:C.mg ("_B64":Str)=some (.bytes ID.toArray t))(hk:sc.names.lookup ("_B64":Str)=some .globalImplicit)(hi:Ev C n sc δ i (.int k))(h0:0<=k)(h1:k<64)
 (hs:∀(l t:Tok),subscripted i false (.bytes ID.toArray l) (.int k t)=operate [.bytes ID.toArray l,.int k t] (getItem (.bytes ID.toArray l) (.int k t)):=by intro _ _;with_unfolding_all rfl) :
 Ev C n sc δ (.Subscript (.Name ("_B64":Str) p) i pos) (.int (gR k)) :=
 FC (x:=ID) (EZ hk hg) hi h0 (by rwa[DM];exact h1) (by rwa[DM];decide) hs (λ_ _=>rfl)
noncomputable def NR:List Stmt:=match aX (aY 12) with
 | [_,_,_,_,_,.For _ _ b _ _,_,_,_]=>b
 | _=>[]
noncomputable def wC(nl:Bool)(lb:Int)(lc:Int)(a:Addr)(x:Array UInt8):List (Str×D):=[(("leftbits":Str),.int lb),(("leftchar":Str),.int lc),(("out":Str),.ptr a),(("newline":Str),.bool nl),(("bin_data":Str),.bytes x)]
theorem JJ{I:bX}{a:Addr}{t:Tok}{nl:Bool}{x:Array UInt8}(bs:List Int)(hlen:bs.length<=3)(hbs:∀b∈bs,0<=b/\b<256)(hIa:¬I.own a)(hg:C.mg ("_B64":Str)=some (.bytes ID.toArray t))(i:Nat)(hi:i<bs.length) :
 MX (C.turn (I.and (cO a (L (outs bs i))))) n (aD (aY 12)) ((("b":Str),.int (bs.getD i 0))::wC nl (eV i:Int) (mA bs i) a x) NR
  (.nxt (I.and (cO a (L (outs bs (i+1))))) (wC nl (eV (i+1):Int) (mA bs (i+1)) a x)):=by
 have hb:=hbs (bs.getD i 0) (by rwa[List.getD_eq_getElem?_getD,List.getElem?_eq_getElem hi];exact List.getElem_mem _)
 have hp:=qN bs i
 have hp1:=qN bs (i+1)
 have hol:=sX bs i (Nat.le_of_lt (Nat.lt_of_lt_of_le hi hlen))
 have ht:=DL i
 refine kC (δ':=_) (aP (bB (bS (d:=.int (mA bs (i+1))) ?_ ∅)) (λ_ q=>q) (aP (bB (bS (d:=.int ((eV i+8:Nat):Int)) ?_ ∅)) (λ_ q=>q)
  (aP (sU (λj=>I.and (cO a (L (outs bs i++(List.range j).map (jT bs i))))) (λj=>[(("leftbits":Str),.int ((eV i+8:Nat)-6*(j:Int))),(("leftchar":Str),.int (mA bs (i+1))),(("out":Str),.ptr a),(("newline":Str),.bool nl),(("bin_data":Str),.bytes x)]) (lR i) ?_ ?_ (λj b q=>q) (λj hj=>?_) (λj hj=>.inl ?_) (.inl ⟨?_,rfl⟩)) (λ_ q=>q) hU))) ?_
 . refine bA (cR (a:=.int (Builtin.bitOr (mA bs i*2 ^ (8:Int).toNat) (bs.getD i 0))) (b:=.int 65535) (cR (a:=.int (mA bs i*2 ^ (8:Int).toNat)) (b:=.int (bs.getD i 0)) (cR (aA rfl rfl) aG (BB ∅ ∅ (TC hp))) (aA rfl rfl) TB) aG vZ) ?_
   have e8:(2:Int) ^ (8:Int).toNat=256:=∅
   rwa[e8,yL hp.1 hb.1 hb.2,bitAnd_m16 ..]
   rfl
 . exact bA (oQ (a:=(eV i:Int)) (b:=8) (aA rfl rfl) aG) (by congr 1)
 . simp
 . simp only[Int.natCast_zero,Int.mul_zero,Int.sub_zero]
   exact aM rfl (aM rfl (aM rfl (aM rfl (aM rfl eA))))
 . exact aC (aH (aA rfl rfl) aG dM) (decide_eq_true (VA hj ht.2.1))
 . have key:outs bs i++(List.range (j+1)).map (jT bs i)=(outs bs i++(List.range j).map (jT bs i))++[jT bs i j]:=by rwa[List.range_succ,List.map_append,List.append_assoc ..];rfl
   have hsh:((eV i+8:Nat):Int)-6*(j:Int)-6=((eV i+8-6*(j+1):Nat):Int):=VC hj ht.2.1
   rwa[key]
   refine kC (δ':=_) (aP (qK (I:=I) (a:=a) (P:=L (outs bs i++(List.range j).map (jT bs i))) (d:=.int (jT bs i j)) rfl hIa (aA rfl rfl) ?_ (L.add (FM hol (Nat.lt_of_lt_of_le hi hlen) (Nat.le_trans (Nat.le_of_lt hj) ht.1))) L.len ∅) (λ_ q=>q) (aP (bB (bS (d:=.int (((eV i+8:Nat):Int)-6*((j+1:Nat):Int))) ?_ ∅)) (λ_ q=>q) hU)) ?_
   . have hb:=bitAnd_range ((mA bs (i+1)).fdiv (2 ^ (eV i+8-6*(j+1)))) (y:=63) ∅
     refine bA (BC (k:=Builtin.bitAnd ((mA bs (i+1)).fdiv (2 ^ (eV i+8-6*(j+1)))) 63) hg (by rfl) (cR (a:=.int ((mA bs (i+1)).fdiv (2 ^ (eV i+8-6*(j+1))))) (b:=.int 63) (bA (cR (a:=.int (mA bs (i+1))) (b:=.int (((eV i+8-6*(j+1):Nat)):Int)) (aA rfl rfl) (bA (mM (aA rfl rfl) aG) (by rwa[hsh];rfl)) (QZ (Int.natCast_nonneg _))) (by rwa[Int.toNat_natCast ..];rfl)) aG vZ) hb.1 (Int.lt_add_one_of_le hb.2)) ?_
     rwa[bitAnd_m6 ..];rfl
   . exact bA (mM (aA rfl rfl) aG) (congrArg D.int VD)
   . exact aM rfl (aM rfl (aM rfl (aM rfl (aM rfl eA))))
 . exact aC (aH (aA rfl rfl) aG dM) (decide_eq_false (VB ht.2.2))
 . have e:((eV i+8:Nat):Int)-6*(lR i:Int)=(eV (i+1):Int):=by rwa[FK ..];exact TD ht.2.1
   rwa[e]
   exact λ_ _ q=>q
end
theorem BD{bs:List Int}(h:∀b∈bs,0<=b/\b<256):sW (byteArr bs)=bs.map .int:=by
 unfold sW byteArr
 simp only[List.map_map]
 refine List.map_congr_left λb hb=>?_
 rcases bW (h b hb) with h0|h1
 simp only[Function.comp]
 rwa[byte_back h0 h1];rfl
theorem FR(bs:List Int):∀k∈wA bs,0<=k/\k<256:=by
 have at_:∀k:Int,0<=gR k/\gR k<256:=λk=>by
  unfold gR
  have:=(ID.getD k.toNat 0).toNat_lt
  (and_intros<;>lia)
 have ho:∀i,∀k∈outs bs i,0<=k/\k<256:=λi=>by
  induction i with
  | zero=>intro k hk;cases hk
  | succ i ih =>
   intro k hk
   rcases List.mem_append.mp hk with h | h
   . exact ih k h
   . rcases aL (List.mem_map.mp h) with j|_|rfl
     exact at_ _
 intro k hk
 rcases List.mem_append.mp hk with h | h
 . exact ho _ k h
 . unfold hV at h
   split at h
   . simp at h;rcases h with rfl | rfl
     . exact at_ _
     . decide
   . split at h
     . simp at h;rcases h with rfl | rfl
       . exact at_ _
       . decide
     . cases h
section
variable{C:Cx}{n:Nat}
theorem NS{sc:Scope}{δ:List (Str×D)}{e:PySem.Expr}{ds ds':List D}(h:Sr C n sc δ e ds)(q:ds=ds'):Sr C n sc δ e ds':=q▸h
theorem RB{f fb ft:Addr}{args:List Value->Args}{t:Tok}(F:qM C f 12 args ["data","newline"])(FB:fV C fb 9 ["data"])(gB:C.mg ("_buffer":Str)=some (.ref fb))(FT:fV C ft 10 ["x"])(gT:C.mg ("_truth":Str)=some (.ref ft))(b:Bs C)
 (bt:C.mg ("bytes":Str)=none/\C.mb ("bytes":Str)=some (.type "bytes")) (bo:C.mg ("bool":Str)=none/\C.mb ("bool":Str)=some (.type "bool"))
 (hg:C.mg ("_B64":Str)=some (.bytes ID.toArray t)) (hI:∀b,¬C.I.own b) (hn:200<=n) (bs:List Int) (hl:bs.length<=3) (hbs:∀b∈bs,0<=b/\b<256) :
 QL C (n+1) f args [.bytes (byteArr bs),.bool false] (.bytes (byteArr (wA bs))):=by
 obtain⟨m,rfl⟩:∃m,n=m+1:=⟨n-1,by lia⟩
 refine JG F rfl ∅ ?_
 refine bD (bS (d:=.bytes (byteArr bs)) (cT FB (by rfl) gB ∅ (bY (aA rfl rfl)) (FF FB b bt _)) ∅) ?_
 refine bD (bS (d:=.bool false) (cT FT (by rfl) gT ∅ (bY (aA rfl rfl)) (JI FT b bo _)) ∅) ?_
 refine TA hI (QY (P0:=L []) (J:=λ_=>L (wA bs)) ⟨.nil,by decide⟩ ∅ (λ_ _=>rfl) λa ha=>?_)
 refine aP (bB (bS (d:=.int 0) aG ∅)) (λ_ q=>q) ?_
 refine aP (bB (bS (d:=.int 0) aG ∅)) (λ_ q=>q) ?_
 refine aP (RA (ds:=bs.map .int) (λi=>C.I.and (cO a (L (outs bs i)))) (λi=>wC false (eV i:Int) (mA bs i) a (byteArr bs)) rfl (NS (JF hn (aA rfl rfl)) (BD hbs))
  (aM rfl (aM rfl (aM rfl (aM rfl (aM rfl eA))))) ∅ (λ_ _ q=>q) (λi d hd=>?_)) (λ_ q=>q) ?_
 . replace hd:=(List.getElem?_map)▸hd
   cases q:bs[i]? with
   | none=>replace hd:=q▸hd;injection hd
   | some v =>
    replace hd:=q▸hd;obtain rfl:=Option.some.inj hd
    have hi:=(List.getElem?_eq_some_iff.mp q).1
    have e:v=bs.getD i 0:=by rwa[List.getD_eq_getElem?_getD,q];rfl
    rwa[e]
    exact JJ bs hl hbs ha hg i hi
 . rwa[List.length_map ..]
   have hp:=qN bs bs.length
   have hol:=sX bs bs.length hl
   have kJ:∀(o:List Int) (δ:List (Str×D)),o=wA bs->δ=wC false (eV bs.length:Int) (mA bs bs.length) a (byteArr bs)->MX (C.turn (C.I.and (cO a (L o)))) (m+1) (aD (aY 12)) δ ((aX (aY 12)).drop 7) (.ret (C.I.and (cO a (L (wA bs)))) (.bytes (byteArr (wA bs)))):=λo δ e1 e2=>by
    subst e1 e2
    refine aP (aW (b:=false) (eN (aA rfl rfl)) hU) (λ_ q=>q) ?_
    exact iT (qJ (wB (I:=C.I) (a:=a) rfl hn (aA rfl rfl) (FR bs) (by rfl) bt.1 bt.2)) trivial
   have app:∀(o:List Int) (k:Int) (e:PySem.Expr) (ap cp pos np:Pos),o.length<=50->(ap.endLine==cp.line)=true->Ev (C.turn (C.I.and (cO a (L o)))) (m+1) (aD (aY 12)) (wC false (eV bs.length:Int) (mA bs bs.length) a (byteArr bs)) e (.int k) ->
    (∀env,starEach [e] env=(false,eval e env)::starEach [] env)->(∀pos env,(backTo pos (starEach [e] env)).any (·.1)=false) ->
    (∀pos env,(((backTo pos (starEach [e] env)).all λx=>!x.1)&&((backToKw pos (keywordEach [] env)).all λx=>x.1.isSome)&&decide (([e]:List PySem.Expr).length+([]:List Keyword).length+(if ([]:List Keyword).isEmpty=true then 0 else 1)<30))=true) ->
    M1 (C.turn (C.I.and (cO a (L o)))) (m+1) (aD (aY 12)) (wC false (eV bs.length:Int) (mA bs bs.length) a (byteArr bs)) (.Expr (.Call (.Attribute (.Name ("out":Str) np) ("append":Str) ap) [e] [] cp) pos) (.nxt (C.I.and (cO a (L (o++[k])))) (wC false (eV bs.length:Int) (mA bs bs.length) a (byteArr bs))):=λo k e ap cp pos np hlo hap he h1 h2 h3 =>
    qK (C:=C.turn (C.I.and (cO a (L o)))) (I:=C.I) (a:=a) (P:=L o) (d:=.int k) rfl ha (aA rfl rfl) he (L.add (by exact Nat.lt_of_le_of_lt (by assumption) ∅)) L.len hap (hst:=h1) (hp:=h2) (hall:=h3)
   have sixtyOne:∀(o:List Int) (p ap cp pos np:Pos),o.length<=50->(ap.endLine==cp.line)=true->M1 (C.turn (C.I.and (cO a (L o)))) (m+1) (aD (aY 12)) (wC false (eV bs.length:Int) (mA bs bs.length) a (byteArr bs)) (.Expr (.Call (.Attribute (.Name ("out":Str) np) ("append":Str) ap) [.Constant (.int 61) 0 p] [] cp) pos) (.nxt (C.I.and (cO a (L (o++[61])))) (wC false (eV bs.length:Int) (mA bs bs.length) a (byteArr bs))):=λo p ap cp pos np hlo hap =>
    app o 61 _ ap cp pos np hlo hap aG (λ_=>rfl) (λ_ _=>rfl) (λ_ _=>rfl)
   have cases3:eV bs.length=0\/eV bs.length=2\/eV bs.length=4:=by
    match h:bs.length,hl with
    | 0,_=>exact .inl rfl
    | 1,_=>exact .inr (.inl rfl)
    | 2,_=>exact .inr (.inr rfl)
    | 3,_=>exact .inl rfl
   rcases cases3 with q | q | q
   . refine aP (aW (b:=false) (aC (aH (aA rfl rfl) aG dB) (by rwa[q];decide)) (aP (aW (b:=false) (aC (aH (aA rfl rfl) aG dB) (by rwa[q];decide)) hU) (λ_ q=>q) hU)) (λ_ q=>q) (kJ _ _ ?_ rfl)
     unfold wA hV
     rwa[q];simp
   . refine aP (aW (b:=true) (aC (aH (aA rfl rfl) aG dB) (by rwa[q];decide)) (aP (app _ (gR ((mA bs bs.length % 4)*16)) _ _ _ _ _ (by lia) ∅ ?_ (λ_=>rfl) (λ_ _=>rfl) (λ_ _=>rfl)) (λ_ q=>q) (aP (sixtyOne _ _ _ _ _ _ (by simp;lia) ∅) (λ_ q=>q) (aP (sixtyOne _ _ _ _ _ _ (by simp;lia) ∅) (λ_ q=>q) hU)))) (λ_ q=>q) (kJ _ _ ?_ rfl)
     . refine BC hg (by rfl) (bA (cR (a:=.int (Builtin.bitAnd (mA bs bs.length) 3)) (b:=.int 4) (cR (aA rfl rfl) aG vZ) aG (BB ∅ ∅ (by rwa[bitAnd_m2 ..];grind))) (by rwa[bitAnd_m2 ..];rfl)) (by grind) (by grind)
     . unfold wA hV
       rwa[q];simp
   . refine aP (aW (b:=false) (aC (aH (aA rfl rfl) aG dB) (by rwa[q];decide)) (aP (aW (b:=true) (aC (aH (aA rfl rfl) aG dB) (by rwa[q];decide)) (aP (app _ (gR ((mA bs bs.length % 16)*4)) _ _ _ _ _ (by lia) ∅ ?_ (λ_=>rfl) (λ_ _=>rfl) (λ_ _=>rfl)) (λ_ q=>q) (aP (sixtyOne _ _ _ _ _ _ (by simp;lia) ∅) (λ_ q=>q) hU))) (λ_ q=>q) hU)) (λ_ q=>q) (kJ _ _ ?_ rfl)
     . refine BC hg (by rfl) (bA (cR (a:=.int (Builtin.bitAnd (mA bs bs.length) 15)) (b:=.int 2) (cR (aA rfl rfl) aG vZ) aG (BB ∅ ∅ (by rwa[bitAnd_m4 ..];grind))) (by rwa[bitAnd_m4 ..];rfl)) (by grind) (by grind)
     . unfold wA hV
       rwa[q];simp
end
end Mine
end
section
open PySem PySem.W PyProof.Rows PySem.Calls Builtin Builtin.ObjectAttr
namespace Mine
theorem mW:Slot "bytes" "translate" "bytes.translate" :=
 .of (owner:="bytes") (n:="translate") (by rwa[typeLookup_type ..,builtinLookup_eq_fast];kernel_rfl) (by decide +kernel) (by decide +kernel) (by decide +kernel) (by first | exact .inl (by decide +kernel) | exact .inr (by decide +kernel)) (by rwa[isSubtype_type ..];kernel_rfl)
theorem sY:typeOf (.builtin "bytes.translate")=pure (.type "method_descriptor"):=by show builtinType _=_;rwa[builtinType_eq_fast];kernel_rfl
theorem rP:entryFor table "bytes.translate"=some Builtin.«bytes.translate»:=by first | exact entryFor_of_fast (by kernel_rfl) | exact entryFor_of_tree (by kernel_rfl)
theorem sZ(a b:Value):argsOk "bytes.translate" ⟨[a,b],[]⟩:=by unfold argsOk;kernel_rfl
section
variable{C:Cx}{n:Nat}
theorem wD{b tbl:Array UInt8}(ht:tbl.size=256)(hz:b.size<=1000):Bi C n "bytes.translate" [.bytes b,.bytes tbl] (.bytes (b.map λc=>tbl.getD c.toNat c)):=by
 refine⟨?_⟩
 intro A X s vs Q E _ _ _ _ r h
 obtain _|_|r1|r|rfl:=iG (aR r)
 obtain _|_|r2|r|rfl:=iG (aR r)
 obtain rfl:=bJ r
 obtain t|rfl:=aU (gY r1)
 obtain u|rfl:=aU (gY r2)
 refine wpAny_call_entry mW (typeIs_bytes _ _ _) rP ?_ (sZ _ _)
 show wpAny _ _ (Bytes.bytesLike _ (.bytes tbl u) >>= λt'=>_) _ _ _
 refine wpAny_bind (wpAny_of_eq KBd.like_eq ?_)
 rwa[if_neg (by refine zl ht ?_;decide)]
 refine wpAny_bind (wpAny_pure ?_)
 refine wpAny_bind (wpAny_pure ?_)
 have ef:Array.filter (λx=>!(#[]:Array UInt8).contains x) b=b:=by simp
 refine wpAny_bind (wpAny_of_eq (a:=b) rfl ?_)
 dsimp only
 rwa[ef]
 split
 . rename_i q
   have q:Array.map (λc=>tbl.getD c.toNat c) b=b:=eq_of_beq q
   replace h:=q▸h
   exact wpAny_bind (wpAny_rule (wpAny_bind (wpAny_of_eq (a:=.bytes b t) rfl (wpAny_pure ⟨_,rfl,h _ s (aE s) (.bytes _ _)⟩))))
 . refine wpAny_bind (wpAny_mkBytes (b:=Array.map (λc=>tbl.getD c.toNat c) b) (wpAny_pure ⟨_,rfl,h _ _ aV (.bytes _ _)⟩) (by rwa[Array.size_map];exact Nat.le_trans hz ∅))
end
theorem tA:findCls [] (.type "bytes") (.type "type") "maketrans"=some (.val (.builtin "bytes.maketrans")):=by kernel_rfl
theorem uD:typeOf (.type "bytes")=pure (.type "type"):=by kernel_rfl
theorem rQ:plainId "bytes.maketrans"=true:=by decide +kernel
theorem rR:entryFor table "bytes.maketrans"=some Builtin.«bytes.maketrans»:=by first | exact entryFor_of_fast (by kernel_rfl) | exact entryFor_of_tree (by kernel_rfl)
theorem rS(a b:Value):checkBuiltinCall "bytes.maketrans" ⟨[a,b],[]⟩=pure ():=by kernel_rfl
noncomputable def iO(f x:Array UInt8):Array UInt8:=(f.toList.zip x.toList).foldl (λt (f,x)=>t.setIfInBounds f.toNat x) ((Array.range 256).map (·.toUInt8))
theorem BE(l:List (UInt8×UInt8)):∀t:Array UInt8,(l.foldl (λt (f,x)=>t.setIfInBounds f.toNat x) t).size=t.size:=by
 induction l with
 | nil=>intro t;rfl
 | cons p r ih=>intro t;rwa[List.foldl_cons,ih ..];simp
theorem mB(f x:Array UInt8):(iO f x).size=256:=by
 unfold iO
 rwa[BE ..];simp
section
variable{C:Cx}{n:Nat}{sc:Scope}{δ:List (Str×D)}
theorem wE{f x:Array UInt8}(hs:f.size=x.size):Bi C n "bytes.maketrans" [.bytes f,.bytes x] (.bytes (iO f x)):=by
 refine⟨?_⟩
 intro A X s vs Q E _ _ _ _ r h
 obtain _|_|r1|r|rfl:=iG (aR r)
 obtain _|_|r2|r|rfl:=iG (aR r)
 obtain rfl:=bJ r
 obtain t|rfl:=aU (gY r1)
 obtain u|rfl:=aU (gY r2)
 refine wpAny_call (codeAny_call_builtin rQ rR (wpAny_of_eq (rS _ _) ?_))
 show wpAny _ _ (Bytes.bytesLike _ (.bytes f t) >>= λt'=>_) _ _ _
 refine wpAny_bind (wpAny_of_eq KBd.like_eq ?_)
 show wpAny _ _ (Bytes.bytesLike _ (.bytes x u) >>= λt'=>_) _ _ _
 refine wpAny_bind (wpAny_of_eq KBd.like_eq ?_)
 rwa[if_neg (by refine zl hs ?_;simp)]
 have hz:=mB f x
 unfold iO at h hz
 revert h hz
 dsimp only
 generalize (f.toList.zip x.toList).foldl (λ(t:Array UInt8) (x:UInt8×UInt8)=>match x with | (f,x)=>t.setIfInBounds f.toNat x) ((Array.range 256).map (·.toUInt8))=tb
 intro h hz
 exact wpAny_bind (wpAny_mkBytes (wpAny_pure (h _ _ aV (.bytes _ _))) (by rwa[hz];decide))
end
section
variable{C:Cx}{n:Nat}{sc:Scope}{δ:List (Str×D)}
theorem wF{a b:PySem.Expr}{np apos pos:Pos}{f x:Array UInt8}(hk:sc.names.lookup ("bytes":Str)=some .globalImplicit)(hg:C.mg ("bytes":Str)=none)(hm:C.mb ("bytes":Str)=some (.type "bytes"))
 (ha:uT C n sc δ [a,b] [.bytes f,.bytes x]) (hs:f.size=x.size) (hl:(apos.endLine==pos.line)=true)
 (hst:∀env,starEach [a,b] env=(false,eval a env)::starEach [b] env:=by intro _;rfl) (hp:∀pos env,(backTo pos (starEach [a,b] env)).any (·.1)=false:=by intro _ _;rfl)
 (he:∀env,∃pl,eval (.Call (.Attribute (.Name ("bytes":Str) np) ("maketrans":Str) apos) [a,b] [] pos) env=(do
  let ov ←eval (.Name ("bytes":Str) np) env
  standAt apos.atName
  let (f,first) ←holding [ov] (getMethod ov ("maketrans":Str) pl)
  callWith pos f first (backTo pos (starEach [a,b] env)) (backToKw pos (keywordEach [] env))):=by intro _;exact⟨_,rfl⟩) :
 Ev C n sc δ (.Call (.Attribute (.Name ("bytes":Str) np) ("maketrans":Str) apos) [a,b] [] pos) (.bytes (iO f x)):=by
 refine⟨?_⟩
 intro A B env X s Q E O h
 rcases aU (he env) with pl|he
 refine methodCall_KW (pl:=pl) (cC O hk hg hm ∅ ?_) he
 rcases aL O.st with _|F|_
 rcases aL F.ns with m|ns|_
 have Fr0:Fr {objs:=#[]} env.locals s.heap m:=⟨ns,λb o e=>by
  have:=Heap.lt_size e
  exact absurd this (Nat.not_lt_zero _),Nat.zero_le _⟩
 have hst0:Manifest.isStub "bytes"=false:=by decide +kernel
 have hh0:handedIn (.builtin "bytes.maketrans")=true:=by decide +kernel
 have hK0:Frag.In ([]:Frag) ({objs:=#[]}:Heap):=λa o e=>by injection e
 refine method_type (prog:=C.prog) (w:=C.w) (K:=[]) (v:=.builtin "bytes.maketrans") (T:="bytes") Fr0 hK0 uD hst0 tA hh0 ?_
 refine callWith_builtin (hp pos env) ?_
 have e:backTo pos (starEach [a,b] env)=(false,eval a env)::backTo pos (starEach [b] env):=by rwa[hst ..];rfl
 have O1:Ok C n sc δ A B env X s.heap:=O
 have hA:=ha.go A B env X pos {s with toks:=s.toks+1}
 rw[e] at hA ⊢
 refine evalArgs_plain (hA _ _ O1 λvs s1 k1 r1=>?_)
 have O2:=O1.on (s:={s with toks:=s.toks+1}) k1
 exact (wE hs).go A X s1 vs _ _ O2.rm O2.ho O2.xo O2.gl r1 λv s2 k2 r2=>h v s2 (aB (aB aV k1) k2) r2
end
theorem VE(id:String)(c0 c1 c2 c3:UInt8)(h0:c0.toNat<128)(h1:c1.toNat<128)(h2:c2.toNat<128)(h3:c3.toNat<128) :
 _codecs.runDecoder id _codecs.asciiDecoder none true #[c0,c1,c2,c3] 0 []=pure (#[c0.toNat,c1.toNat,c2.toNat,c3.toNat],4):=by
 have f:∀(p:Nat) (c:UInt8),c.toNat<128->(#[c0,c1,c2,c3]:Array UInt8).getD p 0=c->_codecs.asciiDecoder.find true #[c0,c1,c2,c3] p=.text [c.toNat] (p+1):=λp c h e=>by
  show (if ((#[c0,c1,c2,c3]:Array UInt8).getD p 0).toNat<128 then _ else _)=_
  rwa[e,if_pos h];rfl
 have z:∀k,k<=10->¬(k > sizeLine):=λk h q=>by
  have:10<=sizeLine:=∅
  lia
 unfold _codecs.runDecoder
 simp only[Std.Legacy.Range.forIn_eq_forIn_range',Std.Legacy.Range.size]
 simp[List.range',f 0 c0 h0 rfl,f 1 c1 h1 rfl,f 2 c2 h2 rfl,f 3 c3 h3 rfl,z]
theorem TF{id:String}{b:Array UInt8}:_codecs.decodeRoad id b (PySem.Str.ofString "ascii") none []=(_codecs.runDecoder id _codecs.asciiDecoder none true b 0 [] >>= λr=>mkStr ⟨r.1⟩):=by kernel_rfl
theorem RC(c:UInt8)(cs:List UInt8)(t u:Tok):«bytes.decode» ⟨[.bytes (c::cs).toArray t,.str (PySem.Str.ofString "ascii") u],[]⟩=(mkStr (PySem.Str.ofString "utf-8") >>= λ_=>mkStr (PySem.Str.ofString "ascii") >>= λe=>mkStr (PySem.Str.ofString "bytes.decode") >>= λd =>
 call (.builtin "_codecs.decode.text") [.bytes (c::cs).toArray t,e,.none,d] >>= λv=>ret v):=by kernel_rfl
theorem wG(a b:Value):argsOk "bytes.decode" ⟨[a,b],[]⟩:=by unfold argsOk;kernel_rfl
section
variable{C:Cx}{n:Nat}{sc:Scope}{δ:List (Str×D)}
theorem FS{c0 c1 c2 c3:UInt8}(h0:c0.toNat<128)(h1:c1.toNat<128)(h2:c2.toNat<128)(h3:c3.toNat<128) :
 Bi C n "bytes.decode" [.bytes #[c0,c1,c2,c3],.str "ascii"] (.str ⟨#[c0.toNat,c1.toNat,c2.toNat,c3.toNat]⟩):=by
 refine⟨?_⟩
 intro A X s vs Q E _ _ _ _ r h
 obtain _|_|r1|r|rfl:=iG (aR r)
 obtain _|_|r2|r|rfl:=iG (aR r)
 obtain rfl:=bJ r
 obtain t|rfl:=aU (gY r1)
 obtain u|rfl:=aU (bN r2)
 refine wpAny_call_entry FB.slot_bytes_decode (typeIs_bytes _ _ _) FB.entry_bytes_decode ?_ (wG _ _)
 rwa[RC ..]
 refine wpAny_bind (wpAny_mkStr ?_ ∅)
 refine wpAny_bind (wpAny_mkStr ?_ ∅)
 refine wpAny_bind (wpAny_mkStr ?_ ∅)
 refine wpAny_bind (call_function_entry KBd.kind_text KBd.plain_text KBd.entry_text (KBd.args_text _ _ _ _) ?_)
 show wpAny _ _ (Bytes.bytesLike _ _ >>= λr=>_) _ _ _
 refine wpAny_bind (wpAny_of_eq KBd.like_eq ?_)
 refine wpAny_bind (wpAny_of_eq KBd.held_eq ?_)
 show wpAny _ _ (_codecs.decodeRoad _ _ (PySem.Str.ofString "ascii") none [] >>= λv=>_) _ _ _
 rwa[TF,VE _ c0 c1 c2 c3 h0 h1 h2 h3]
 refine wpAny_bind (wpAny_bind (wpAny_pure (wpAny_mkStr (wpAny_pure ⟨_,rfl,wpAny_pure ⟨_,rfl,?_⟩⟩) (by show 4<=sizeLine;decide))))
 exact h _ _ ⟨s.heap,_,rfl,λ_ _ e=>e⟩ (.str _ _)
theorem yM{o a:PySem.Expr}{as:List PySem.Expr}{name:Str}{apos pos:Pos}{x:Array UInt8}{ds:List D}{d:D}{id:String}(ho:Ev C n sc δ o (.bytes x))(ha:uT C n sc δ (a::as) ds)(hf:Bi C n id (.bytes x::ds) d)
 (hS:Slot "bytes" name id) (hT:typeOf (.builtin id)=pure (.type "method_descriptor")) (hl:(apos.endLine==pos.line)=true)
 (hab:∀env,attributeBase o name env (eval o env)=eval o env:=by intro _;rfl)
 (hst:∀env,starEach (a::as) env=(false,eval a env)::starEach as env:=by intro _;rfl) (hp:∀pos env,(backTo pos (starEach (a::as) env)).any (·.1)=false:=by intro _ _;rfl)
 (hall:∀pos env,(((backTo pos (starEach (a::as) env)).all λx=>!x.1)&&((backToKw pos (keywordEach [] env)).all λx=>x.1.isSome)&&decide ((a::as).length+([]:List Keyword).length+(if ([]:List Keyword).isEmpty=true then 0 else 1)<30))=true:=by intro _ _;rfl) :
 Ev C n sc δ (.Call (.Attribute o name apos) (a::as) [] pos) d:=by
 refine⟨?_⟩
 intro A B env X s Q E O h
 refine wpAny_Call_method (hab env) (hall pos env) hl FB.plainAttrs_bytes hS hT (ho.go A B env X s _ _ O λv s1 k1 r1=>?_)
 (obtain _|rfl:=aU (gY r1))
 refine⟨rfl,λa e=>(by injection e),?_⟩
 refine callWith_builtin (hp pos env) ?_
 have e:backTo pos (starEach (a::as) env)=(false,eval a env)::backTo pos (starEach as env):=by rwa[hst ..];rfl
 have O1:=O.on k1
 have hA:=ha.go A B env X pos s1
 rw[e] at hA ⊢
 refine evalArgs_plain (hA _ _ O1 λvs s2 k2 r2=>?_)
 have O2:=O1.on k2
 exact hf.go A X s2 _ _ _ O2.rm O2.ho O2.xo O2.gl (.cons (.bytes _ _) r2) λv s3 k3 r3=>h v s3 (aB k1 (aB k2 k3)) r3
end
noncomputable def JK:Array UInt8:=iO #[43,47] #[39,45]
noncomputable def JL(bs:List Int):Array UInt8:=(byteArr (wA bs)).map λc=>JK.getD c.toNat c
section
variable{C:Cx}{n:Nat}{sc:Scope}{δ:List (Str×D)}
theorem vF{b:List UInt8}{k:Nat}{pos:Pos}:Ev C n sc δ (.Constant (.bytes b) k pos) (.bytes b.toArray):=by
 refine⟨?_⟩
 intro A B env X s Q E _ h
 exact PySem.W.Constant_bytes (h _ _ aV (.bytes _ _))
theorem dG{d:D}:Cm C n .IsNot d .none (!d.isNone):=by
 refine⟨?_⟩
 intro A X s va vb Q E rm ra rb _ _ h
 obtain rfl:=jE rb
 refine isnot_none_gen ?_
 cases ra<;>exact h s (aE s)
theorem wH{b:Array UInt8}(hz:b.size<=1000):Bi C n "len" [.bytes b] (.int b.size):=by
 refine⟨?_⟩
 intro A X s vs Q E _ _ _ _ r h
 obtain _|_|r1|r|rfl:=iG (aR r)
 obtain rfl:=bJ r;(obtain _|rfl:=aU (gY r1))
 have e:(KBw.ints_length b)=(KBw.ints_length b):=rfl
 refine KBw.len_K (b:=b) rfl (by rwa[KBw.ints_length ..];exact Nat.le_trans (by assumption) ∅) ?_
 rwa[KBw.ints_length ..]
 exact h _ _ ⟨s.heap,_,rfl,λ_ _ e=>e⟩ (.int _ _)
theorem FY{test:PySem.Expr}{msg:Option PySem.Expr}{pos:Pos}(ht:Ts C n sc δ test true):rO C n sc δ (.Assert test msg pos) (.nxt δ):=by
 refine⟨?_⟩
 intro A B env X s Q E O h
 exact wpAny_Assert_holds (ht.go A B env X s _ _ O λs1 k1=>⟨rfl,h _ s1 (.of_keeps k1) ⟨rfl,O.on k1⟩⟩)
theorem NT{bs:List Int}(h:1<=bs.length/\bs.length<=3):(wA bs).length=4:=UX (P:=λbs=>(wA bs).length=4) (λ_=>by kernel_rfl) (λ_ _=>by kernel_rfl) (λ_ _ _=>by kernel_rfl) bs h
theorem RD{f fa:Addr}{args argsA:List Value->Args}(F:qM C f 14 args ["s","altchars"])(FA:qM C fa 12 argsA ["data","newline"])(hA:∀v w,argsA [v,w]=⟨[v],[(("newline":Str),w)]⟩)(gA:C.mg ("b2a_base64":Str)=some (.ref fa))(b:Bs C)
 (bt:C.mg ("bytes":Str)=none/\C.mb ("bytes":Str)=some (.type "bytes")) (bs:List Int) (hl:1<=bs.length/\bs.length<=3) (hb:QL C n fa argsA [.bytes (byteArr bs),.bool false] (.bytes (byteArr (wA bs)))) :
 QL C (n+1) f args [.bytes (byteArr bs),.bytes #[39,45]] (.bytes (JL bs)):=by
 refine JG F rfl ∅ ?_
 refine bD (bS (d:=.bytes (byteArr (wA bs))) (FE FA hA (by rfl) gA ∅ (aA rfl rfl) dJ hb) ∅) ?_
 refine bV (bZ (b:=true) (aH (aA rfl rfl) cB dG) (bD (FY (aC (aH (cP (by rfl) b.len.1 b.len.2 ∅ (bY (aA rfl rfl)) (wH ∅)) aG dB) ∅)) (bV (bO ?_))))
 exact yM (x:=byteArr (wA bs)) (ds:=[.bytes JK]) (aA rfl rfl) (bY (wF (by rfl) bt.1 bt.2 (aF vF (bY (aA rfl rfl))) ∅ ∅)) (wD (mB _ _) (by rwa[byteArr_size ..,NT hl];decide)) mW sY ∅
end
noncomputable def al(k:Int):Nat:=(Txt.charAt oS k).getD 0
noncomputable def tr(k:Int):UInt8:=JK.getD k.toNat.toUInt8.toNat k.toNat.toUInt8
theorem TG(k:Int)(h0:0<=k)(h1:k<64):(tr (gR k)).toNat=al k/\al k<128:=by
 have:∀i<64,(tr (gR (i:Nat))).toNat=al (i:Nat)/\al (i:Nat)<128:=by decide +kernel
 rcases aU (Int.eq_ofNat_of_zero_le h0) with i|rfl
 exact this i (by lia)
theorem BG:(tr 61).toNat=61:=by decide +kernel
theorem wI{bs:List Int}{k0 k1 k2 k3:Int}(h:wA bs=[k0,k1,k2,k3]):JL bs=#[tr k0,tr k1,tr k2,tr k3]:=by
 unfold JL byteArr
 rwa[h]
 simp[tr]
theorem BH(k:Nat):Txt.mul "=" (k:Int)=⟨(List.replicate k 61).toArray⟩:=by
 refine Str.ext' (Array.toList_inj.mp ?_)
 have:=mul_one_list 61 (k:Int)
 rw[Int.toNat_natCast] at this
 exact this
theorem PU(x:Int):dQ [x]=⟨#[al (cM [x] 0),al (cM [x] 1),61,61]⟩:=by
 unfold dQ
 rwa[hG ..,show (3-(([x]:List Int).length:Int))=((2:Nat):Int) from rfl];rwa[BH ..]
 rfl
theorem PV(x y:Int):dQ [x,y]=⟨#[al (cM [x,y] 0),al (cM [x,y] 1),al (cM [x,y] 2),61]⟩:=by
 unfold dQ
 rwa[hG ..,show (3-(([x,y]:List Int).length:Int))=((1:Nat):Int) from rfl];rwa[BH ..]
 rfl
theorem PW(x y z:Int):dQ [x,y,z]=⟨#[al (cM [x,y,z] 0),al (cM [x,y,z] 1),al (cM [x,y,z] 2),al (cM [x,y,z] 3)]⟩:=by
 unfold dQ
 rwa[hG ..,show (3-(([x,y,z]:List Int).length:Int))=((0:Nat):Int) from rfl];rwa[BH ..]
 rfl
theorem fd(a b:Int)(h:0<=b):a.fdiv b=a / b:=Int.fdiv_eq_ediv_of_nonneg _ h
theorem fm(a b:Int)(h:0<=b):a.fmod b=a % b:=Int.fmod_eq_emod_of_nonneg _ h
theorem VF(x y z:Int):pI [x,y,z]=x*65536+y*256+z:=by simp[pI,List.range_succ];lia
theorem VG(x y:Int):pI [x,y]=x*65536+y*256+0:=by simp[pI,List.range_succ]
theorem VH(x:Int):pI [x]=x*65536+0*256+0:=by simp[pI,List.range_succ]
section
variable{x y z:Int}(hx:0<=x/\x<256)(hy:0<=y/\y<256)(hz:0<=z/\z<256)
include hx hy hz in
theorem wJ{o:List Int}(h:pI o=x*65536+y*256+z):cM o 0=x / 4/\cM o 1=(x*256+y) / 16 % 64/\cM o 2=(y*256+z) / 64 % 64/\cM o 3=(y*256+z) % 64:=by
 have q:∀k,cM o k=(x*65536+y*256+z) / 64 ^ (3-(k:Int)).toNat % 64:=λk=>by
  unfold cM;rwa[h,fd _ _ (Int.le_of_lt (Int.pow_pos ∅)),fm _ _ ∅];rfl
 rwa[q ..,q ..,q ..,q ..]
 show (x*65536+y*256+z) / 262144 % 64=_/\(x*65536+y*256+z) / 4096 % 64=_/\(x*65536+y*256+z) / 64 % 64=_/\(x*65536+y*256+z) / 1 % 64=_
 exact⟨by lia,by lia,by lia,by lia⟩
theorem PY(bs:List Int)(i:Nat):mA bs (i+1)=(mA bs i*256+bs.getD i 0) % 65536:=rfl
include hx in
theorem DN(bs:List Int):mA (x::bs) 1=x/\jT (x::bs) 0 0=gR (x / 4):=by
 have e:mA (x::bs) 1=x:=by show (0*256+x) % 65536=x;lia
 refine⟨e,?_⟩
 unfold jT
 rwa[e,fd _ _ ∅]
 show gR (x / 4 % 64)=_
 congr 1;lia
include hx hy in
theorem JM(bs:List Int):mA (x::y::bs) 2=x*256+y/\jT (x::y::bs) 1 0=gR ((x*256+y) / 16 % 64):=by
 have e:mA (x::y::bs) 2=x*256+y:=by rwa[PY ..,(DN hx _).1];show (x*256+y) % 65536=_;lia
 exact⟨e,by unfold jT;rwa[e,fd _ _ ∅];rfl⟩
include hx in
theorem VI:wA [x]=[gR (cM [x] 0),gR (cM [x] 1),61,61]:=by
 have s:=wJ hx (y:=0) (z:=0) ∅ ∅ (VH x)
 have p:=DN hx []
 have t:hV [x]=[gR ((x % 4)*16),61,61]:=by simp[hV,eV,p.1]
 show [jT [x] 0 0]++hV [x]=_
 rwa[t,p.2,s.1,s.2.1,show (x*256+0) / 16 % 64=x % 4*16 by lia];rfl
include hx hy in
theorem VJ:wA [x,y]=[gR (cM [x,y] 0),gR (cM [x,y] 1),gR (cM [x,y] 2),61]:=by
 have s:=wJ hx hy (z:=0) ∅ (VG x y)
 have p:=JM hx hy []
 have t:hV [x,y]=[gR (((x*256+y) % 16)*4),61]:=by simp[hV,eV,p.1]
 have o:outs [x,y] 2=[jT [x,y] 0 0,jT [x,y] 1 0]:=rfl
 show outs [x,y] 2++hV [x,y]=_
 rwa[o,t,(DN hx _).2,p.2,s.1,s.2.1,s.2.2.1,show (y*256+0) / 64 % 64=(x*256+y) % 16*4 by lia];rfl
include hx hy hz in
theorem VK:wA [x,y,z]=[gR (cM [x,y,z] 0),gR (cM [x,y,z] 1),gR (cM [x,y,z] 2),gR (cM [x,y,z] 3)]:=by
 have s:=wJ hx hy hz (VF x y z)
 have p3:mA [x,y,z] 3=y*256+z:=by rwa[PY ..,(JM hx hy _).1];show ((x*256+y)*256+z) % 65536=_;lia
 have c2:jT [x,y,z] 2 0=gR ((y*256+z) / 64 % 64):=by unfold jT;rwa[p3,fd _ _ ∅];rfl
 have c3:jT [x,y,z] 2 1=gR ((y*256+z) % 64):=by unfold jT;rwa[p3,fd _ _ ∅];show gR ((y*256+z) / 1 % 64)=_;rwa[Int.ediv_one ..];rfl
 have t:hV [x,y,z]=[]:=by simp[hV,eV]
 have o:outs [x,y,z] 3=[jT [x,y,z] 0 0,jT [x,y,z] 1 0,jT [x,y,z] 2 0,jT [x,y,z] 2 1]:=rfl
 show outs [x,y,z] 3++hV [x,y,z]=_
 rwa[o,t,(DN hx _).2,(JM hx hy _).2,c2,c3,s.1,s.2.1,s.2.2.1,s.2.2.2];rfl
end
theorem JN(o:List Int)(hl:1<=o.length/\o.length<=3)(ho:∀x∈o,0<=x/\x<256):∃c0 c1 c2 c3:UInt8,JL o=#[c0,c1,c2,c3]/\c0.toNat<128/\c1.toNat<128/\c2.toNat<128/\c3.toNat<128/\dQ o=⟨#[c0.toNat,c1.toNat,c2.toNat,c3.toNat]⟩:=by
 have s:∀o k,(tr (gR (cM o k))).toNat=al (cM o k)/\al (cM o k)<128:=λo k=>TG _ (mQ o k).1 (mQ o k).2
 have p:(tr 61).toNat<128:=by rwa[BG];decide
 have b:∀o k,(tr (gR (cM o k))).toNat<128:=λo k=>by rwa[(s o k).1];exact (s o k).2
 revert ho
 refine UX (P:=λo=>(∀x∈o,0<=x/\x<256)->∃c0 c1 c2 c3:UInt8,JL o=#[c0,c1,c2,c3]/\c0.toNat<128/\c1.toNat<128/\c2.toNat<128/\c3.toNat<128/\dQ o=⟨#[c0.toNat,c1.toNat,c2.toNat,c3.toNat]⟩) (λx ho=>?_) (λx y ho=>?_) (λx y z ho=>?_) o hl
 . refine⟨_,_,_,_,wI (VI (ho x (.head _))),b _ 0,b _ 1,p,p,?_⟩
   rwa[PU x,(s _ 0).1,(s _ 1).1,BG];rfl
 . refine⟨_,_,_,_,wI (VJ (ho x (.head _)) (ho y (.tail _ (.head _)))),b _ 0,b _ 1,b _ 2,p,?_⟩
   rwa[PV x y,(s _ 0).1,(s _ 1).1,(s _ 2).1,BG];rfl
 . refine⟨_,_,_,_,wI (VK (ho x (.head _)) (ho y (.tail _ (.head _))) (ho z (.tail _ (.tail _ (.head _))))),b _ 0,b _ 1,b _ 2,b _ 3,?_⟩
   rwa[PW x y z,(s _ 0).1,(s _ 1).1,(s _ 2).1,(s _ 3).1];rfl
section
variable{C:Cx}{n:Nat}{sc:Scope}{δ:List (Str×D)}
theorem FZ{row:PySem.Expr}{p1 p2 p3 p4 p5 p6 p7 p8:Pos}{k k2:Nat}{f fa fb ft:Addr}{args argsA:List Value->Args}{t:Tok}
 (F:qM C f 14 args ["s","altchars"]) (hF:∀vs,args vs=⟨vs,[]⟩) (gF:C.mg ("b64encode":Str)=some (.ref f)) (FA:qM C fa 12 argsA ["data","newline"]) (hA:∀v w,argsA [v,w]=⟨[v],[(("newline":Str),w)]⟩) (gA:C.mg ("b2a_base64":Str)=some (.ref fa))
 (FU:fV C fb 9 ["data"]) (gB:C.mg ("_buffer":Str)=some (.ref fb)) (FT:fV C ft 10 ["x"]) (gT:C.mg ("_truth":Str)=some (.ref ft)) (b:Bs C)
 (bt:C.mg ("bytes":Str)=none/\C.mb ("bytes":Str)=some (.type "bytes")) (bo:C.mg ("bool":Str)=none/\C.mb ("bool":Str)=some (.type "bool"))
 (hg:C.mg ("_B64":Str)=some (.bytes ID.toArray t)) (hI:∀b,¬C.I.own b) (hn:203<=n) (o:List Int) (hl:1<=o.length/\o.length<=3) (ho:∀x∈o,0<=x/\x<256)
 (hk1:sc.names.lookup ("b64encode":Str)=some .globalImplicit) (hk2:sc.names.lookup ("bytes":Str)=some .globalImplicit) (hline:(p6.endLine==p8.line)=true) (hrow:Ev C n sc δ row (.list (o.map .int)))
 (hs:∀env,starEach [row] env=[(false,eval row env)]:=by intro _;rfl) :
 Ev C n sc δ (.Call (.Attribute (.Call (.Name ("b64encode":Str) p1) [.Call (.Name ("bytes":Str) p2) [row] [] p3,.Constant (.bytes [39,45]) k p4] [] p5) ("decode":Str) p6) [.Constant (.str ("ascii":Str)) k2 p7] [] p8) (.str (dQ o)):=by
 obtain⟨m,rfl⟩:∃m,n=m+1+1:=⟨n-2,by lia⟩
 rcases UW (JN o hl ho) with c0|c1|c2|c3|e1|h0|h1|h2|h3|e2
 have hb:=RB (n:=m) FA FU gB FT gT b bt bo hg hI (by lia) o hl.2 ho
 have he:=RD F FA hA gA b bt o hl hb
 replace he:=e1▸he
 rwa[e2]
 exact yM (x:=#[c0,c1,c2,c3]) (ds:=[.str "ascii"]) (JH F hF hk1 gF ∅ (aF (JE (by exact Nat.le_trans (Nat.le_add_left ..) (by assumption)) hrow ho (by lia) hk2 bt.1 bt.2 hs) (bY vF)) he) (bY aT) (FS h0 h1 h2 h3) FB.slot_bytes_decode FB.type_bytes_decode hline
end
noncomputable def yN:Array Nat:=#[14,17,4,1,1,21,9,0,604043296,1,0,0,0,0,0,8,4,0,13,14,21,9,0,604043296,1,0,0,0,0,0,8,4,0,1]
noncomputable def cI:List Nat:=oS.cps.toList++[61]
theorem GA(seen:Sre.Seen):(cI.all λc=>[5,20].all λi=>match Sre.inSet yN c 34 i true seen with | .ok (b,_)=>b==(c==39) | .error _=>false)=true:=by kernel_rfl
theorem yO:∀c∈cI,∀i∈[5,20],∀seen:Sre.Seen,∃seen',Sre.inSet yN c 34 i true seen=.ok (c==39,seen'):=λc hc i hi seen=>by
 have h:=List.all_eq_true.mp (List.all_eq_true.mp (GA seen) c hc) i hi
 revert h
 cases Sre.inSet yN c 34 i true seen with
 | error e=>exact λh=>nomatch h
 | ok x=>exact λh=>⟨x.2,congrArg (λb=>Except.ok (b,x.2)) (eq_of_beq h)⟩
theorem yP:yN.size=34:=rfl
noncomputable def eE:List Nat->Nat->Option Nat
 | [],_=>none
 | c::r,s=>if c==39 then some s else eE r (s+1)
theorem rE(m:Sre.M)(hc:m.code=yN):∀(r:List Nat) (s fuel:Nat) (seen:Sre.Seen),m.text.toList.drop s=r->(∀c∈r,c∈cI)->m.lim=m.text.size->s+r.length=m.text.size->r.length<fuel ->
 ∃seen',Sre.M.admitted m fuel s seen=.ok (eE r s,seen')
 | [],s,fuel+1,seen,hd,hr,hl,hs,hf=>by
  unfold Sre.M.admitted
  rwa[if_pos (by simp at hs;lia)]
  exact⟨_,rfl⟩
 | c::r,s,fuel+1,seen,hd,hr,hl,hs,hf=>by
  have hlt:s<m.text.size:=by simp at hs;lia
  have hg:m.text.getD s 0=c:=by
   have:(m.text.toList.drop s)[0]?=some c:=by rwa[hd];rfl
   replace this:=(List.getElem?_drop)▸this
   simp at this
   simp[Array.getD,hlt] at this ⊢
   first | exact this | (obtain⟨_,e⟩:=this;exact e)
  rcases aU (yO c (hr c (.head _)) 5 (by exact .head _) seen) with s'|e
  unfold Sre.M.admitted
  rwa[if_neg (by lia),hg,hc,yP,e]
  unfold eE
  cases q:c==39 with
  | true=>exact⟨_,rfl⟩
  | false =>
   have hd':m.text.toList.drop (s+1)=r:=by
    rwa[←List.drop_drop,hd];rfl
   exact rE m hc r (s+1) fuel s' hd' (λc h=>hr c (.tail _ h)) hl (by simp at hs ⊢;grind) (by simp at hf;omega)
noncomputable def m0(t:Array Nat):Sre.M:={code:=yN,text:=t,lim:=4,start:=0,lastStart:=4,pc:=18,pos:=0,handed:=0,marks:=#[],seen:=({}:Sre.Seen).add 14}
theorem RE(c0 c1 c2 c3:Nat):Sre.forSearch yN #[c0,c1,c2,c3] 0 0 4 false=(match Sre.M.admitted (m0 #[c0,c1,c2,c3]) 5 0 (m0 #[c0,c1,c2,c3]).seen with
 | .ok (some s,seen)=>({m0 #[c0,c1,c2,c3] with mustAdvance:=false,seen}:Sre.M).attemptAt s true
 | .ok (none,seen)=>({m0 #[c0,c1,c2,c3] with seen}:Sre.M).say false
 | .error why=>(m0 #[c0,c1,c2,c3]).stick why):=by rfl
noncomputable def qO(o:Option Sre.Outcome)(b:Bool):Prop:=match o with
 | some .matched=>b=true
 | some .failed=>b=false
 | _=>False
theorem NU{c0 c1 c2 c3:Nat}(h0:c0∈cI)(h1:c1∈cI)(h2:c2∈cI)(h3:c3∈cI) :
 qO ((Sre.forSearch yN #[c0,c1,c2,c3] 0 0 4 false).runFor 4).outcome (eE [c0,c1,c2,c3] 0).isSome:=by
 rcases aU (rE (m0 #[c0,c1,c2,c3]) rfl [c0,c1,c2,c3] 0 5 (m0 #[c0,c1,c2,c3]).seen rfl (λc h=>by simp at h;rcases h with rfl | rfl | rfl | rfl<;>assumption) rfl rfl (by exact Nat.lt_succ_self _)) with s'|e
 rwa[RE ..,e]
 cases q:eE [c0,c1,c2,c3] 0 with
 | none=>rfl
 | some p =>
  dsimp only
  have hp:p<4/\∃c∈cI,(#[c0,c1,c2,c3]:Array Nat).getD p 0=c/\(c==39)=true:=by
   unfold eE at q
   split at q
   . rename_i z;obtain rfl:=Option.some.inj q;exact⟨by decide,c0,h0,rfl,z⟩
   . unfold eE at q
     split at q
     . rename_i z;obtain rfl:=Option.some.inj q;exact⟨by decide,c1,h1,rfl,z⟩
     . unfold eE at q
       split at q
       . rename_i z;obtain rfl:=Option.some.inj q;exact⟨by decide,c2,h2,rfl,z⟩
       . unfold eE at q
         split at q
         . rename_i z;obtain rfl:=Option.some.inj q;exact⟨by decide,c3,h3,rfl,z⟩
         . injection q
  obtain hp|q_0:=bW hp;obtain c|hc|hg|hz:=rW q_0
  rcases aU (yO c hc 20 (by exact .tail _ (.head _)) (s'.add 13)) with s2|e2
  have acc:Sre.accepts yN 18 ((#[c0,c1,c2,c3]:Array Nat).getD p 0) (s'.add 13)=.ok (true,s2):=by
   rwa[hg]
   show Sre.inSet yN c yN.size 20 true (s'.add 13)=_
   rwa[yP,e2,hz];rfl
  have st1:(({m0 #[c0,c1,c2,c3] with mustAdvance:=false,seen:=s'}:Sre.M).attemptAt p true).step={(({m0 #[c0,c1,c2,c3] with mustAdvance:=false,seen:=s'}:Sre.M).attemptAt p true) with seen:=s2,pc:=33,pos:=p+1}:=by
   show (if p≥4 then _ else match Sre.accepts yN 18 ((#[c0,c1,c2,c3]:Array Nat).getD p 0) (s'.add 13) with | .error why=>_ | .ok (false,seen)=>_ | .ok (true,seen)=>_)=_
   rwa[if_neg (by lia),acc]
   rfl
  show qO (Sre.M.runFor 3 ((({m0 #[c0,c1,c2,c3] with mustAdvance:=false,seen:=s'}:Sre.M).attemptAt p true).step)).outcome true
  rwa[st1]
  rfl
section
variable{C:Cx}{n:Nat}{sc:Scope}{δ:List (Str×D)}
theorem NV{m:Sre.M}{b:Bool}{A:Around}{s:Shared}{Q:Option Sre.M->Shared->Prop}{E:Value->Shared->Prop}(h:qO (m.runFor 4).outcome b)(hq:∀r:Option Sre.M,r.isSome=b->Q r s):wpAny C.M A (Builtin.Re.reRunToEnd m) Q E s:=by
 unfold Builtin.Re.reRunToEnd
 have some_:(m.runFor 4).outcome.isSome=true:=by
  cases q:(m.runFor 4).outcome with
  | none=>replace h:=q▸h;exact h.elim
  | some o=>rfl
 have dr:Builtin.Re.reDrive (2 ^ 64) m=pure (m.runFor 4):=by
  rwa[show (2:Nat) ^ 64=(2 ^ 64-1)+1 by decide]
  show (if (m.runFor 4).outcome.isSome=true then pure (m.runFor 4) else _)=_
  rwa[if_pos some_];rfl
 rwa[dr]
 refine wpAny_bind (wpAny_pure ?_)
 refine wpAny_bind ?_
 have quiet:∀(l:List Nat) (s:Shared) (R:PUnit->Shared->Prop),R PUnit.unit s->wpAny C.M A (forIn l PUnit.unit λi r=>if (m.runFor 4).seen.has i=true then do rule (Sre.names.getD i "");pure PUnit.unit;pure (ForInStep.yield PUnit.unit) else do pure PUnit.unit;pure (ForInStep.yield PUnit.unit)) R E s:=by
  intro l
  induction l with
  | nil=>intro s R hR;exact wpAny_pure hR
  | cons a r ih =>
   intro s R hR
   rwa[List.forIn_cons ..]
   refine wpAny_bind ?_
   split
   . exact wpAny_bind (wpAny_rule (wpAny_pure (ih s R hR)))
   . exact wpAny_pure (ih s R hR)
 refine quiet _ s _ ?_
 cases q:(m.runFor 4).outcome with
 | none=>replace h:=q▸h;exact h.elim
 | some o =>
  replace h:=q▸h
  cases o with
  | matched=>exact wpAny_pure (hq _ (Eq.symm h))
  | failed=>exact wpAny_pure (hq _ (Eq.symm h))
  | stuck w=>exact h.elim
end
noncomputable def PZ(h:Heap)(p:Addr):Prop:=∃q v0 v1 v3 v4 o1 o2,h.get? p=some o1/\o1.data=.fields #[v0,v1,.int 0 0,v3,v4,.ref q,.int 0 0]/\h.get? q=some o2/\∃n,o2.data=.seq (yN.map λ(k:Nat)=>Value.int (k:Int) 0) n
theorem JO(v:Value):Builtin.Re.reNamed "re.Pattern.search" "search" ["string","pos","endpos"] 1 [v] []=pure [some v,none,none]:=by kernel_rfl
section
variable{C:Cx}{A:Around}{s:Shared}{E:Value->Shared->Prop}
theorem yQ{p:Addr}{x:Str}{t:Tok}{c0 c1 c2 c3:Nat}{Q:Fin->Shared->Prop}(hp:PZ s.heap p)(hx:x.cps=#[c0,c1,c2,c3])(h0:c0∈cI)(h1:c1∈cI)(h2:c2∈cI)(h3:c3∈cI)
 (hq:∀v s',Keeps s s'->((eE [c0,c1,c2,c3] 0).isSome=false->v=.none)->((eE [c0,c1,c2,c3] 0).isSome=true->∃a,v=.ref a)->Q (.done (.ret v)) s') :
 wpAny C.M A (Builtin.«re.Pattern.search» ⟨[.ref p,.str x t],[]⟩) Q E s:=by
 obtain q|v0|v1|v3|v4|o1|o2|e1|d1|e2|q_0:=SR hp;obtain nn|d2:=aU q_0
 unfold Builtin.«re.Pattern.search» Builtin.Re.reTarget
 dsimp only
 rwa[JO ..]
 refine wpAny_bind (wpAny_bind (wpAny_pure ?_))
 dsimp only
 refine wpAny_bind (wpAny_pure (wpAny_bind (wpAny_pure ?_)))
 unfold fieldsOf
 refine wpAny_bind (wpAny_bind (wpAny_load e1 ?_))
 rwa[d1]
 refine wpAny_pure ?_
 refine wpAny_bind (wpAny_of_eq (a:=(x.cps,0)) rfl ?_)
 show wpAny _ _ (Builtin.Re.reNoCollectionInside (.str x t) 0 >>= λ_=>_) _ _ _
 refine wpAny_bind (wpAny_of_eq (a:=()) rfl ?_)
 refine wpAny_bind (m:=Builtin.Re.reRawItems (.ref q)) ?_
 unfold Builtin.Re.reRawItems
 refine wpAny_bind (wpAny_seqItems e2 d2 ?_)
 refine wpAny_pure (wpAny_pure ?_)
 unfold Builtin.Re.reAnswer
 dsimp only
 have ec:Array.map (λx=>x.toNat) (Array.map Builtin.Re.reRawOf ((some (Array.map (λ(k:Nat)=>Value.int (k:Int) 0) yN)).getD #[]))=yN:=by decide +kernel
 rwa[ec,hx]
 show wpAny _ _ (Builtin.Re.reRunToEnd (Sre.forSearch yN #[c0,c1,c2,c3] 0 0 4 false) >>= λr=>_) _ _ _
 refine wpAny_bind (NV (C:=C) (NU h0 h1 h2 h3) λr hr=>?_)
 cases r with
 | none=>exact wpAny_pure (hq _ s (aE s) (λ_=>rfl) (λz=>by injection tq hr.symm z))
 | some m =>
  show wpAny _ _ (Builtin.Re.reNewMatch (.ref p) (.str x t) 0 0 4 m >>= λv=>ret v) _ _ _
  refine wpAny_bind ?_
  unfold Builtin.Re.reNewMatch
  dsimp only
  rwa[if_neg (by simp)]
  unfold newTuple newFields
  refine wpAny_bind (wpAny_newObj_type ?_ (by show (2:Nat)<=sizeLine;decide))
  refine wpAny_newObj_type (wpAny_pure (hq _ _ ⟨_,s.toks,rfl,λb o e=>Heap.get?_push_of_some _ (Heap.get?_push_of_some _ e)⟩ (λz=>by injection tq hr.symm z) λ_=>⟨_,rfl⟩)) (by first | trivial | (show (6:Nat)<=sizeLine;decide) | size_fits)
end
noncomputable def pR(h:Heap)(f:Addr):Prop:=∃p,h.get? f=some {cls:=.type "builtin_function_or_method",data:=.fields #[.builtin "re.Pattern.search",.ref p]}/\PZ h p/\∃o,h.get? p=some o/\o.cls=.type "re.Pattern"
theorem wK:entryFor table "re.Pattern.search"=some Builtin.«re.Pattern.search»:=by first | exact entryFor_of_fast (by kernel_rfl) | exact entryFor_of_tree (by kernel_rfl)
theorem wL:plainId "re.Pattern.search"=true:=by decide +kernel
theorem RF:isSubtype (.type "re.Pattern") (.type "module")=pure false:=by rwa[isSubtype_type ..];kernel_rfl
theorem yR:builtinKind "re.Pattern.search"=some .method:=by decide +kernel
theorem wM:Manifest.varargsMethods.contains "re.Pattern.search"=false:=by decide +kernel
theorem rF(a b:Value):(Manifest.signature? "re.Pattern.search").map (λsig=>Bind.checkArgs "re.Pattern.search" {sig with full:=s!"{Bind.lastOf "re.Pattern"}.{Bind.lastOf "re.Pattern.search"}"} ⟨[a,b],[]⟩)=some (pure ()):=by kernel_rfl
theorem wN{M:Model}{A:Around}{s:Shared}{E:Value->Shared->Prop}{p:Addr}{x:Value}{Q:Unit->Shared->Prop}(hT:s.TypeIs (.ref p) "re.Pattern"){o:Obj}{vs:Array Value}(ho:s.heap.get? p=some o)(hd:o.data=.fields vs)(hq:Q () s):wpAny M A (checkBoundCall "re.Pattern.search" ⟨[.ref p,x],[]⟩) Q E s:=by
 cases hs:Manifest.signature? "re.Pattern.search" with
 | none=>have:=rF x x;replace this:=hs▸this;injection this
 | some sig =>
  have ha:=rF (.ref p) x
  replace ha:=hs▸ha
  have ha:Bind.checkArgs "re.Pattern.search" {sig with full:=s!"{Bind.lastOf "re.Pattern"}.{Bind.lastOf "re.Pattern.search"}"} ⟨[.ref p,x],[]⟩=pure ():=by injection ha
  unfold checkBoundCall
  rwa[hs,yR]
  dsimp only
  rwa[if_neg ∅]
  refine wpAny_bind (wpAny_isInstance (T:="re.Pattern") (b:=false) hT RF ?_)
  rwa[wM,if_neg ∅]
  refine wpAny_bind (m:=isType (.ref p)) ?_
  show wpAny _ _ (loadHead p >>= λo=>_) _ _ _
  refine wpAny_bind (wpAny_loadPart ho ?_)
  rwa[hd]
  refine wpAny_pure ?_
  rwa[if_neg (by intro z;injection z)]
  refine wpAny_bind (wpAny_typeOf hT ?_)
  dsimp only
  rwa[ha]
  exact wpAny_pure hq
section
variable{C:Cx}{A:Around}{s:Shared}{E:Value->Shared->Prop}
theorem yS{f:Addr}{x:Str}{t:Tok}{c0 c1 c2 c3:Nat}{Q:Value->Shared->Prop}(hf:pR s.heap f)(hx:x.cps=#[c0,c1,c2,c3])(h0:c0∈cI)(h1:c1∈cI)(h2:c2∈cI)(h3:c3∈cI)
 (hq:∀v s',Keeps s s'->((eE [c0,c1,c2,c3] 0).isSome=false->v=.none)->((eE [c0,c1,c2,c3] 0).isSome=true->∃a,v=.ref a)->Q v s'):wpAny C.M A (call (.ref f) [.str x t]) Q E s:=by
 obtain p|ho|hp|q_0:=rW hf;obtain op|hop|hcp:=aL q_0
 obtain⟨vsP,hdp⟩:∃vsP,op.data=.fields vsP:=by
  obtain q|v0|v1|v3|v4|o1|o2|e1|d1|_:=YZ hp
  have h_:=sx hop e1;clear e1;subst h_;exact⟨_,d1⟩
 refine wpAny_call (codeAny_of_tree ?_)
 show wpAny _ A.in1 (callAny (.ref f) ⟨[.str x t],[]⟩) _ _ s
 simp only[callAny]
 refine wpAny_bind (wpAny_load ho ?_)
 simp only[show (Value.type "builtin_function_or_method"==Value.type "method"||Value.type "builtin_function_or_method"==Value.type "builtin_function_or_method"||Value.type "builtin_function_or_method"==Value.type "method-wrapper")=true by decide,if_true]
 show wpAny _ _ (checkBoundCall "re.Pattern.search" ⟨[.ref p,.str x t],[]⟩ >>= λ_=>again (Code.builtin "re.Pattern.search" ⟨[.ref p,.str x t],[]⟩)) _ _ _
 refine wpAny_bind (wN ⟨_,hop,hcp⟩ hop (vs:=_) hdp (wpAny_pure ⟨plainId_quiet wL _,codeAny_builtin wK ?_⟩))
 exact yQ hp hx h0 h1 h2 h3 λv s' k a b=>hq v s' k a b
end
section
variable{C:Cx}{n:Nat}{sc:Scope}{δ:List (Str×D)}
theorem mC{M:Model}{A:Around}{E:Value->Shared->Prop}{s:Shared}{pos:Pos}{u:Addr}{id:Value}{self:Value}{args:List (Bool×Sem Value)}{Q:Value->Shared->Prop}(hplain:args.any (·.1)=false)
 (h:wpAny M A (evalArgs (.ref u) true args []) (λx s₁=>s₁.heap.get? u=some {cls:=.type "builtin_function_or_method",data:=.fields #[id,self]}/\wpAny M A (call (.ref u) ([]++x.pos) x.kw) Q E s₁) E s):wpAny M A (callWith pos (.ref u) [] args []) Q E s:=by
 unfold callWith
 refine wpAny_bind (wpAny_holding (wpAny_mono h (λx s₁ h₁=>wpAny_bind (wpAny_standAt ?_)) λ_ _ x=>x))
 rcases bW (h₁) with ho|hcall
 simp only[hplain,List.any_nil,Bool.or_false]
 refine wpAny_bind (m:=keeperOf (.ref u)) ?_
 unfold keeperOf
 refine wpAny_bind (wpAny_load ho ?_)
 simp only[show (Value.type "builtin_function_or_method" != Value.type "method")=true by decide,show (Value.type "builtin_function_or_method"==Value.type "builtin_function_or_method"||Value.type "builtin_function_or_method"==Value.type "method-wrapper")=true by decide,if_true]
 refine wpAny_pure ?_
 exact wpAny_bind (wpAny_mono hcall (λr s₂ hr=>wpAny_bind (wpAny_holding (wpAny_point (wpAny_pure hr)))) λ_ _ x=>x)
end
section
variable{C:Cx}{n:Nat}{sc:Scope}{δ:List (Str×D)}
theorem mX{e:PySem.Expr}{x:Str}(h1:Ev C n sc δ e (.str x))(hz:x.length<=1000)(he:∀env whole,isTrue e env whole=(do let v ←whole;standAt e.pos;holding [v] (truthy v)):=by intro _ _;rfl):Ts C n sc δ e ((x.length:Int) != 0):=by
 refine⟨?_⟩
 intro A B env X s Q E O h
 refine isTrue_plain (h1.go A B env X s _ _ O λv s1 k1 r1=>?_) (he env _)
 (obtain _|rfl:=aU (bN r1))
 exact P.truthy_str (by lia) (h _ (aB k1 ⟨s1.heap,_,rfl,λ_ _ e=>e⟩))
theorem vG{f:Str}{e:PySem.Expr}{np p1 p2 p3:Pos}{k:Nat}{fa:Addr}{x:Str}{c0 c1 c2 c3:Nat}(hk:sc.names.lookup f=some .globalImplicit)(hg:C.mg f=some (.ref fa))(hd:(f==("__debug__":Str))=false)(hS:∀h,Gl C h->pR h fa)
 (he:Ev C n sc δ e (.str x)) (hx:x.cps=#[c0,c1,c2,c3]) (h0:c0∈cI) (h1:c1∈cI) (h2:c2∈cI) (h3:c3∈cI)
 (hst:∀env,starEach [e] env=(false,eval e env)::starEach [] env:=by intro _;rfl) (hp:∀pos env,(backTo pos (starEach [e] env)).any (·.1)=false:=by intro _ _;rfl)
 (hm:behindInMarks .Is (.Constant .none k p2)=false:=by with_unfolding_all rfl) :
 Ts C n sc δ (.Compare (.Call (.Name f np) [e] [] p1) [.Is] [.Constant .none k p2] p3) (!(eE [c0,c1,c2,c3] 0).isSome):=by
 refine⟨?_⟩
 intro A B env X s Q E O h
 refine wpAny_isTrue_Compare1 ?_ hm
 refine wpAny_Call_ofName (cA O hk hg hd ?_)
 rcases aL (hS _ O.gl) with p|hob|_
 refine mC (id:=.builtin "re.Pattern.search") (self:=.ref p) (hp p1 env) ?_
 have eS:backTo p1 (starEach [e] env)=(false,eval e env)::backTo p1 (starEach [] env):=by rwa[hst ..];rfl
 have hA:=(aF he bM hst).go A B env X p1 s
 rw[eS] at hA ⊢
 refine evalArgs_plain (hA _ _ O λvs s1 k1 r1=>?_)
 have O1:=O.on k1
 refine⟨bC k1 _ _ hob,?_⟩
 obtain v|_|r1|r2|rfl:=iG (aR r1)
 obtain rfl:=bJ r2;(obtain _|rfl:=aU (bN r1))
 refine yS (hS _ O1.gl) hx h0 h1 h2 h3 λv s2 k2 hn hy=>?_
 refine Constant_none ?_
 refine is_none_gen ?_
 have kk:=aB k1 k2
 cases q:(eE [c0,c1,c2,c3] 0).isSome with
 | false =>
  rwa[hn q]
  replace h:=q▸h
  exact wpAny_truthy_bool (h s2 kk)
 | true =>
  rcases aU (hy q) with a|rfl
  replace h:=q▸h
  exact wpAny_truthy_bool (h s2 kk)
end
section
variable{C:Cx}{n:Nat}{sc:Scope}{δ:List (Str×D)}
theorem NW{x:Str}{pos:Pos}{d:D}{A:Around}{B:Heap}{env:Env}{X:Addr->Prop}{s:Shared}{Q:Value->Shared->Prop}{E:Value->Shared->Prop}(O:Ok C n sc δ A B env X s.heap)(hx:δ.lookup x=some d)(hk:PS (sc.names.lookup x)=true)
 (hd:(x==("__debug__":Str))=false:=by decide) (hc:(x==("__classdict__":Str))=false:=by decide) (h:∀v,Rd X s.heap v d->Q v s):wpAny C.M A (eval (.Name x pos) env) Q E s:=by
 obtain⟨ρ,F,V⟩:=O.st
 obtain⟨v,hv,hr⟩:=V x d hx
 have kind:env.scope.kind=.function:=by rw[F.scope];exact F.kind
 refine wpAny_Name ?_ hd
 cases q:sc.names.lookup x with
 | none=>rw[q] at hk;cases hk
 | some k =>
  have ko:env.kindOf x=some k:=by unfold Env.kindOf;rw[F.scope];exact q
  rw[q] at hk
  cases k with
  | «local» =>
   obtain⟨m,hn,hm⟩:=F.ns
   exact wpAny_loadName_local kind ko hn ((hm x q).trans hv) (h v hr)
  | cell =>
   obtain⟨c,hc',hic⟩:=F.cells x (.inl q)
   exact wpAny_loadName_cell kind ko hc' (hv▸hic) (h v hr)
  | free =>
   obtain⟨c,hc',hic⟩:=F.cells x (.inr q)
   exact wpAny_loadName_free kind ko hc' (hv▸hic) (h v hr) hc
  | globalExplicit=>cases hk
  | globalImplicit=>cases hk
theorem BI{x:Str}{w y z a b:Str}{p1 p2 p3 p4 p5 p6 p7 p8 p9:Pos}{k1 k2 k3 k4:Nat}(hx:δ.lookup x=some (.str w))(hk:PS (sc.names.lookup x)=true)(hyz:(y==z)=false)(hw:w.length<=1000)(hz:z.length<=14)(ha:a.length<=10)(hb:b.length<=10)(hr:(Txt.replace w y z).length<=100000)(hl:(p4.endLine==p5.line)=true)
 (hd:(x==("__debug__":Str))=false:=by decide) (hc:(x==("__classdict__":Str))=false:=by decide)
 (hst:∀env,starEach [.Constant (.str y) k2 p6,.Constant (.str z) k3 p7] env=(false,eval (.Constant (.str y) k2 p6) env)::starEach [.Constant (.str z) k3 p7] env:=by intro _;rfl) :
 Ev C n sc δ (.BinOp (.BinOp (.Constant (.str a) k1 p1) .Add (.Call (.Attribute (.Name x p3) ("replace":Str) p4) [.Constant (.str y) k2 p6,.Constant (.str z) k3 p7] [] p5) p2) .Add (.Constant (.str b) k4 p8) p9) (.str (a++Txt.replace w y z++b)):=by
 have hz100:∀m,m<=1000000->m<=sizeLine:=λm h=>Nat.le_trans h ∅
 refine⟨?_⟩
 intro A B env X s Q E O h
 refine wpAny_BinOp (wpAny_BinOp (wpAny_Constant_str ?_))
 have O1:Ok C n sc δ A B env X s.heap:=O
 refine wpAny_Call_method (T:="str") (id:="str.replace") rfl rfl hl F.plainAttrs_str F.slot_str_replace F.type_str_replace (NW (s:={s with toks:=s.toks+1}) O1 hx hk hd hc λv r1=>?_)
 cases r1
 refine⟨rfl,λa e=>(by cases e),?_⟩
 refine callWith_builtin rfl ?_
 have e:backTo p5 (starEach [.Constant (.str y) k2 p6,.Constant (.str z) k3 p7] env)=(false,eval (.Constant (.str y) k2 p6) env)::backTo p5 (starEach [.Constant (.str z) k3 p7] env):=by rw[hst];rfl
 rw[e]
 refine evalArgs_plain ?_
 rw[←e]
 refine wpAny_items_cons (wpAny_Constant_str (wpAny_items_cons (wpAny_Constant_str (wpAny_items_nil ?_)) rfl)) rfl
 refine SC.replaceW (by simp) (by simp) (by simp) hyz (by omega) hz λt' k=>?_
 refine SB.add (λt1 k5=>?_) (hz100 _ (by omega))
 refine wpAny_Constant_str ?_
 refine SB.add (λt2 k6=>?_) (hz100 _ (by rw[iS];omega))
 exact h _ _ ⟨s.heap,_,rfl,λ_ _ e=>e⟩ (.str _ _)
end
theorem tB:∀(l:List Nat) (s:Nat),(eE l s).isSome=decide (39∈l)
 | [],_=>rfl
 | c::r,s=>by
  unfold eE
  by_cases q:c=39
  . subst q;rfl
  . have:(c==39)=false:=by simpa using q
    rwa[this,if_neg Bool.false_ne_true,tB r (s+1)]
    have e:(39∈c::r)↔39∈r:=by simp[Ne.symm q]
    simp only[decide_eq_decide]
    exact e.symm
theorem BJ:iD=⟨#[39]⟩:=∅
theorem pS(w:Str):Txt.contains w iD=decide (39∈w.cps.toList):=by
 unfold Txt.contains
 rwa[BJ]
 exact StrLaws.found_one w 39
theorem yT{w:Str}(h:Txt.contains w iD=true):bP w=iD++Txt.replace w iD jO++iD:=by
 unfold bP
 rwa[if_pos h,hG ..]
 have:=StrLaws.replace_one w jO 39
 replace this:=BJ.symm▸this
 rwa[this];rfl
noncomputable def mY(w:Str):Prop:=∃c0 c1 c2 c3,w.cps=#[c0,c1,c2,c3]/\c0∈cI/\c1∈cI/\c2∈cI/\c3∈cI
theorem JP{C:Cx}{n:Nat}{f fa:Addr}(F:fV C f 38 ["s"])(gS:C.mg ("_find_unsafe":Str)=some (.ref fa))(hS:∀h,Gl C h->pR h fa)(w:Str)(hw:mY w):Fn C (n+1) f [.str w] (.str (bP w)):=by
 obtain c0|c1|c2|c3|hx|h0|h1|h2|h3:=YI hw
 have hl:w.length=4:=by unfold Str.length;rwa[hx];rfl
 have hfa:(eE [c0,c1,c2,c3] 0).isSome=Txt.contains w iD:=by rwa[tB ..,pS ..,hx];rfl
 refine jD F rfl ∅ ?_
 refine bD (bZ (b:=false) (aC (oN (mX (aA rfl rfl) (by lia))) (by rwa[hl];decide)) bQ) ?_
 cases q:Txt.contains w iD with
 | false =>
  have e:bP w=w:=by unfold bP;rwa[q];rfl
  rwa[e]
  exact bV (bZ (b:=true) (aC (vG (by rfl) gS ∅ hS (aA rfl rfl) hx h0 h1 h2 h3) (by rwa[hfa,q];rfl)) (bV (bO (aA rfl rfl))))
 | true =>
  rwa[yT q]
  refine bD (bZ (b:=false) (aC (vG (by rfl) gS ∅ hS (aA rfl rfl) hx h0 h1 h2 h3) (by rwa[hfa,q];rfl)) bQ) ?_
  refine bV (bO (BI (w:=w) (y:=iD) (z:=jO) (a:=iD) (b:=iD) rfl (by rfl) ∅ (by lia) ∅ ∅ ∅ ?_ ∅))
  have:=StrLaws.replace_one w jO 39
  replace this:=BJ.symm▸this
  rwa[this]
  have h1:(Txt.split w iD).length<=w.length+2:=split_le w iD
  have h2:((Txt.split w iD).map (·.length)).sum<=w.length+1:=Nat.le_trans (Nat.le_add_right _ _) (split_weight w iD ∅)
  have h3:=mR jO (Txt.split w iD)
  replace h3:=(show jO.length=5 from by decide)▸h3
  lia
end Mine
end
section
open PySem PySem.W PyProof.Rows PySem.Calls Builtin.ObjectAttr
namespace Mine
noncomputable def tC(v:Value)(d:D):Prop:=∀X h,Rd X h v d
noncomputable def D.flat:D->Bool
 | .list _=>false
 | _=>true
theorem tC.of{X:Addr->Prop}{h:Heap}{v:Value}{d:D}(r:Rd X h v d)(f:d.flat=true):tC v d:=by
 intro X' h'
 cases r with
 | none=>exact .none
 | bool b=>exact .bool b
 | int i t=>exact .int i t
 | str i t=>exact .str i t
 | bytes i t=>exact .bytes i t
 | ptr a=>exact .ptr a
 | ty a=>exact .ty a
 | list=>injection f
theorem tC.handed{v:Value}{d:D}(r:tC v d):handedIn v=true:=by
 have:=r (λ_=>True) (default:Heap)
 cases this<;>first | rfl | (rename_i hx _ _;exact (hx trivial).elim)
noncomputable def cG(k:Nat)(h:Heap)(x dx Cl:Addr)(fs:List (Str×D)):Prop :=
 ∃m,lZ k h x dx Cl m/\(∀y d,fs.lookup y=some d->∃v,m y=some v/\tC v d)/\∀y,fs.lookup y=none->m y=none
theorem cG.congr{k:Nat}{h:Heap}{x dx Cl:Addr}{fs gs:List (Str×D)}(I:cG k h x dx Cl fs)(e:∀y,gs.lookup y=fs.lookup y):cG k h x dx Cl gs:=by
 obtain m|a|b|c:=rW I
 exact⟨m,a,λy d q=>b y d (by rwa[←e ..];exact q),λy q=>c y (by rwa[←e ..];exact q)⟩
theorem cG.keeps{k:Nat}{h h':Heap}{x dx Cl:Addr}{fs:List (Str×D)}(I:cG k h x dx Cl fs)(k1:∀o,h.get? x=some o->h'.get? x=some o)(k2:∀o,h.get? dx=some o->h'.get? dx=some o):cG k h' x dx Cl fs:=by
 obtain m|a|b|c:=rW I
 exact⟨m,a.keeps k1 k2,b,c⟩
theorem cG.le{k j:Nat}{h:Heap}{x dx Cl:Addr}{fs:List (Str×D)}(I:cG k h x dx Cl fs)(e:k<=j):cG j h x dx Cl fs:=by
 obtain m|q_0|b|c:=rW I;rcases q_0 with⟨a1,⟨es,nn,q1,q2,q3⟩,a3⟩
 exact⟨m,⟨a1,⟨es,nn,q1,Nat.le_trans q2 e,q3⟩,a3⟩,b,c⟩
noncomputable def pT(name:Str)(d:D)(fs:List (Str×D)):List (Str×D):=fs.map λp=>if p.1=name then (name,d) else p
theorem rG{name:Str}{d:D}:∀{fs:List (Str×D)} (y:Str),(fs.lookup name).isSome=true->(pT name d fs).lookup y=((name,d)::fs).lookup y
 | [],y,h=>by injection h
 | (z,e)::r,y,h=>by
  have rest:∀(l:List (Str×D)) (y:Str),y≠name->(pT name d l).lookup y=l.lookup y:=by
   intro l y hy
   induction l with
   | nil=>rfl
   | cons p l ih =>
    unfold pT
    rwa[List.map_cons]
    by_cases q:p.1=name
    . rwa[if_pos q]
      rwa[List.lookup_cons,List.lookup_cons]
      have e1:(y==name)=false:=by simpa using hy
      have e2:(y==p.1)=false:=by rwa[q];exact e1
      rwa[e1,e2];exact ih
    . rwa[if_neg q]
      rwa[List.lookup_cons,List.lookup_cons]
      split
      . rfl
      . exact ih
  by_cases hy:y=name
  . subst hy
    have:∀l:List (Str×D),(l.lookup y).isSome=true->(pT y d l).lookup y=some d:=by
     intro l
     induction l with
     | nil=>intro h;injection h
     | cons p l ih =>
      intro h
      unfold pT
      rwa[List.map_cons]
      by_cases q:p.1=y
      . rwa[if_pos q,List.lookup_cons];simp
      . rwa[if_neg q,List.lookup_cons]
        have:(y==p.1)=false:=by simpa using Ne.symm q
        rwa[this]
        rw[List.lookup_cons,this] at h
        exact ih h
    rwa[this _ h,List.lookup_cons];simp
  . rwa[rest _ _ hy]
    have e1:(y==name)=false:=by simpa using hy
    rwa[List.lookup_cons (b:=d),e1];rfl
theorem cG.stored{k:Nat}{h:Heap}{x dx Cl:Addr}{fs:List (Str×D)}{m:Str->Option Value}{name:Str}{v:Value}{d:D}(hm:(∀y d,fs.lookup y=some d->∃v,m y=some v/\tC v d)/\∀y,fs.lookup y=none->m y=none)(r:tC v d)
 (I:lZ k h x dx Cl (λy=>if y=name then some v else m y)):cG k h x dx Cl ((name,d)::fs):=by
 refine⟨_,I,λy e q=>?_,λy q=>?_⟩
 . rw[List.lookup_cons] at q
   by_cases hy:y=name
   . subst hy
     simp at q
     exact⟨v,by exact if_pos rfl,q▸r⟩
   . have e1:(y==name)=false:=by simpa using hy
     replace q:=e1▸q
     rwa[if_neg hy];exact hm.1 y e q
 . rw[List.lookup_cons] at q
   by_cases hy:y=name
   . subst hy;simp at q
   . have e1:(y==name)=false:=by simpa using hy
     replace q:=e1▸q
     rwa[if_neg hy];exact hm.2 y q
section
variable{C:Cx}{n:Nat}{sc:Scope}{δ:List (Str×D)}
theorem pU{o:PySem.Expr}{name:Str}{pos:Pos}{k:Nat}{x dx Cl:Addr}{fs:List (Str×D)}{d:D}(hi:∀h,C.I.inv h->cG k h x dx Cl fs)(c:dK C.K Cl)(ha:findIn C.K (.ref Cl) name=some none)(ho:Ev C n sc δ o (.ptr x))(hv:fs.lookup name=some d)
 (he:∀env,eval (.Attribute o name pos) env=(do
  let o' ←eval o env
  standAt pos.atName
  let r ←holding [o'] (getAttr o' name true)
  letTemporaryGo o o' r
  pure r):=by intro _;with_unfolding_all rfl):Ev C n sc δ (.Attribute o name pos) d:=by
 refine⟨λA B env X s Q E O h=>Attribute_any_ (ho.go A B env X s _ _ O λv s1 k1 r1=>?_) (he env)⟩
 obtain rfl:=cW r1
 rcases rW (hi _ (O.on k1).iv) with m|hm|h1|h2
 rcases aL (h1 name d hv) with v|e|r
 exact sT (O.on k1).gl.k c hm ha e r.handed (h v _ (aB k1 aV) (r _ _))
theorem lS{o e:PySem.Expr}{name:Str}{ap pos:Pos}{k:Nat}{x dx Cl:Addr}{fs:List (Str×D)}{d:D}{I:bX}(hi:∀h,C.I.inv h->cG k h x dx Cl fs)(c:dK C.K Cl)(ht:takerIn C.K Cl name=some none)(hk:k<=100)(hin:(fs.lookup name).isSome=true)
 (he:Ev C n sc δ e d) (hd:d.flat=true) (ho:Ev C n sc δ o (.ptr x)) (hdx:C.I.own dx) (hld:¬C.I.lst dx\/True)
 (hI:∀h h',C.I.inv h->Heap.SameBut dx h h'->cG k h' x dx Cl (pT name d fs)->I.inv h') (hown:∀b,I.own b↔C.I.own b) (hlst:∀b,I.lst b->C.I.lst b)
 (hs:∀env,swapsWith e (some (.Attribute o name ap)) pos.line env=pure false:=by intro _;rfl):M1 C n sc δ (.Assign [.Attribute o name ap] e pos) (.nxt I δ):=by
 refine⟨λA B env X s Q E O bo h=>plainObj_wpAny_Assign_Attribute (he.go A B env X s _ _ O λv s1 k1 r1=>ho.go A B env X s1 _ _ (O.on k1) λw s2 k2 r2=>?_) (hs env)⟩
 obtain rfl:=cW r2
 have K:=aB k1 k2
 have O2:=O.on K
 rcases rW (hi _ O2.iv) with m|hm|h1|h2
 refine kA O2.gl.k c hm ht hk λh' sb im=>?_
 have hs':(m name).isSome=true:=by
  rcases aU (Option.isSome_iff_exists.mp hin) with d0|hd0
  rcases aL (h1 name d0 hd0) with v0|e0|_
  rwa[e0];rfl
 replace im:=(if_pos hs')▸im
 have F':cG k h' x dx Cl (pT name d fs):=(cG.stored ⟨h1,h2⟩ (tC.of r1 hd) im).congr λy=>rG y hin
 revert k2 O2 hm sb;refine kE K ?_;clear K;intro h2' tk2 kk k2 O2 hm sb
 have off:∀b o,b≠dx->h2'.get? b=some o->h'.get? b=some o:=λb o q e=>(sb.2 b q).trans e
 have Bdx:B.get? dx=none:=bo dx hdx
 rcases EN hm.at with es|nn|_|_|_|D|_
 refine h _ _ ⟨h',_,rfl,λb o q1 q2 q3 q=>off b o (λz=>q1 (z▸hdx)) (kk b o q)⟩ ⟨rfl,?_⟩
 rcases aL O2.st with ρ|F|V
 refine⟨O2.rm,?_,?_,hI _ _ O2.iv sb F',λa q=>O2.ox a (hlst a q),ρ,?_,V.at λb o xb ⟨vs,nn,el⟩ q=>⟨xb,off b o (λz=>?_) q⟩⟩
 . refine O2.ho.imp id λ⟨e',a1,o,vs,a2,a3,a4⟩=>⟨e',a1,o,vs,off _ _ (λz=>?_) a2,a3,a4⟩
   replace a2:=D▸z▸a2;obtain rfl:=Option.some.inj a2;injection a3
 . intro a ha
   rcases eU (O2.xo a ha) with o|vs|nn|q1|q2
   refine⟨o,vs,nn,off _ _ (λz=>?_) q1,q2⟩
   replace q1:=D▸z▸q1;obtain rfl:=Option.some.inj q1;injection q2
 . rcases nU F.base with G|k0|hL|hC
   have neL:env.locals≠dx:=λz=>hL.2 (z▸hdx)
   have neC:∀y a,env.cells.lookup y=some a->a≠dx:=λy a q z=>(hC y a q).2 (z▸hdx)
   rcases aL F.ns with m0|hn|hm0
   refine⟨⟨⟨G.k,G.g,G.b,G.nl⟩,λb o q=>off b o (λz=>by replace q:=Bdx▸z▸q;injection q) (k0 b o q),⟨hL.1,λq=>hL.2 ((hown _).mp q)⟩,λy a q=>⟨(hC y a q).1,λz=>(hC y a q).2 ((hown _).mp z)⟩⟩,F.scope,F.kind,F.globals,F.builtins,⟨m0,hn.at' λo q=>off _ o neL q,hm0⟩,
    λy hy=>let ⟨a,q1,o,q2,q3⟩:=F.cells y hy;⟨a,q1,o,off _ _ (neC y a q1) q2,q3⟩,F.inj,λy a q=>let ⟨v,o,q2,q3⟩:=F.allc y a q;⟨v,o,off _ _ (neC y a q) q2,q3⟩⟩
 . subst z
   replace q:=D▸q;injection q with q;replace el:=q.symm▸el;exact absurd (congrArg Obj.data el) (by intro z;injection z)
end
end Mine
end
section
open PySem PySem.W PyProof.Rows PySem.Calls Builtin Builtin.ObjectAttr
namespace Mine
noncomputable abbrev qP:String:="collections.deque"
noncomputable def QA(h:Heap)(a:Addr):Prop:=∃t,h.get? a=some {cls:=.type qP,data:=.fields #[.none,.int 0 t]}
theorem QA.typeIs{s:Shared}{a:Addr}(x:QA s.heap a):s.TypeIs (.ref a) qP:=let ⟨_,e⟩:=x;⟨_,e,rfl⟩
theorem GB:typeLookup (.type qP) "__bool__"=pure none:=by rwa[typeLookup_type ..,builtinLookup_eq_fast];kernel_rfl
theorem mZ:Slot qP "__len__" "collections.deque.__len__":=by
 refine Slot.of (T:=qP) (name:="__len__") (owner:=qP) (n:="__len__") ?_ (by decide +kernel) (by decide +kernel) (by decide +kernel) (.inl (by decide +kernel)) (by rwa[isSubtype_type ..];kernel_rfl)
 rwa[typeLookup_type ..,builtinLookup_eq_fast];kernel_rfl
theorem wO:entryFor table "collections.deque.__len__"=some Builtin.«collections.deque.__len__»:=entryFor_of_tree (by kernel_rfl)
theorem yU(a:Value):argsOk "collections.deque.__len__" ⟨[a],[]⟩:=by unfold argsOk;kernel_rfl
section
variable{prog:Program}{w:World}{A:Around}{E:Value->Shared->Prop}{s:Shared}
theorem GC{a:Addr}{Q:Bool->Shared->Prop}(hl:QA s.heap a)(h:∀tk,Q false {s with toks:=tk}):wpAny (model prog w) A (truthy (.ref a)) Q E s:=by
 rcases aU (id hl) with t|e
 have key:wpAny (model prog w) A (runValue (.builtin "len" ⟨[.ref a],[]⟩)) (λr s'=>(∃t,r=.int 0 t)/\Q false s') E s:=by
  refine wpAny_runValue (codeAny_builtin entry_len ?_)
  rwa[Around.under_plainId plain_len _]
  unfold Builtin.«len»
  refine wpAny_bind (m:=oneArg "len" _) (wpAny_pure ?_)
  refine wpAny_bind (m:=callSpecial? (.ref a) (Str.ofString "__len__")) (wpAny_callSpecial?_slot (name:=Str.ofString "__len__") hl.typeIs mZ
   (wpAny_call_entry mZ hl.typeIs wO ?_ (yU _)))
  show wpAny _ _ (do retInt (←Deque.size (.ref a))) _ _ s
  unfold Deque.size
  refine wpAny_bind (wpAny_bind (wpAny_fieldsOf e rfl (wpAny_pure (wpAny_bind (wpAny_mkInt (wpAny_pure ⟨_,rfl,?_⟩))))))
  refine wpAny_bind (wpAny_holding (wpAny_pure ?_))
  refine wpAny_bind (wpAny_letGo ?_)
  exact wpAny_bind (wpAny_mkInt (wpAny_pure ⟨⟨_,rfl⟩,h _⟩))
 unfold truthy
 refine wpAny_bind (wpAny_callSpecial?_none (name:=Str.ofString "__bool__") hl.typeIs GB ?_)
 refine wpAny_bind (wpAny_specialOf (name:=Str.ofString "__len__") hl.typeIs mZ.lookup ?_)
 exact wpAny_bind (wpAny_mono key (λr s' h'=>by obtain q_0|hq:=bW h';obtain t|rfl:=aU q_0;exact wpAny_pure hq) λ_ _ e=>e)
end
section
variable{C:Cx}{n:Nat}{sc:Scope}{δ:List (Str×D)}
theorem DO{e:PySem.Expr}{a:Addr}(h1:Ev C n sc δ e (.ptr a))(hI:∀h,C.I.inv h->QA h a)(he:∀env whole,isTrue e env whole=(do let v ←whole;standAt e.pos;holding [v] (truthy v)):=by intro _ _;rfl):Ts C n sc δ e false:=by
 refine⟨λA B env X s Q E O h=>?_⟩
 rwa[he ..]
 refine wpAny_bind (h1.go A B env X s _ _ O λv s1 k1 r1=>?_)
 obtain rfl:=cW r1
 exact wpAny_bind (wpAny_standAt (wpAny_holding (GC (hI _ (O.on k1).iv) λtk=>h _ (aB k1 aV))))
theorem tD{o e:PySem.Expr}{name:Str}{ap pos:Pos}{k:Nat}{x dx Cl:Addr}{fs:List (Str×D)}{a b:Str}{I:bX}(hi:∀h,C.I.inv h->cG k h x dx Cl fs)(c:dK C.K Cl)(ht:takerIn C.K Cl name=some none)(ha:findIn C.K (.ref Cl) name=some none)(hk:k<=100)
 (hv:fs.lookup name=some (.str a)) (he:Ev C n sc δ e (.str b)) (ho:Ev C n sc δ o (.ptr x)) (hz:a.length+b.length<=sizeLine) (hdx:C.I.own dx)
 (hI:∀h h',C.I.inv h->Heap.SameBut dx h h'->cG k h' x dx Cl (pT name (.str (a++b)) fs)->I.inv h') (hown:∀b,I.own b↔C.I.own b) (hlst:∀b,I.lst b->C.I.lst b):M1 C n sc δ (.AugAssign (.Attribute o name ap) .Add e pos) (.nxt I δ):=by
 refine⟨λA B env X s Q E O bo h=>wpAny_AugAssign_AttributeAny (ho.go A B env X s _ _ O λw s1 k1 r1=>?_)⟩
 obtain rfl:=cW r1
 have O1:=O.on k1
 rcases rW (hi _ O1.iv) with m|hm|h1|h2
 rcases aL (h1 name _ hv) with v|e1|r
 refine sT O1.gl.k c hm ha e1 r.handed ?_
 have kt:Keeps s1 {s1 with toks:=s1.toks+1}:=aV
 have r':=r X s1.heap
 obtain ta|rfl:=aU (bN r')
 refine he.go A B env X _ _ _ (O1.on kt) λw s2 k2 r2=>?_
 obtain tb|rfl:=aU (bN r2)
 refine SB.iadd (λt' kk=>?_) hz
 have K:=aB k1 (aB kt (aB k2 (aV (t:=kk))))
 have O2:=O.on K
 rcases rW (hi _ O2.iv) with m|hm|h1|h2
 refine kA O2.gl.k c hm ht hk λh' sb im=>?_
 have hs':(m name).isSome=true:=by
  rcases aL (h1 name _ hv) with v0|e0|_
  rwa[e0];rfl
 replace im:=(if_pos hs')▸im
 have F':cG k h' x dx Cl (pT name (.str (a++b)) fs):=(cG.stored ⟨h1,h2⟩ (tC.of (.str (X:=X) (h:=s1.heap) _ _) rfl) im).congr λy=>rG y (by rwa[hv];rfl)
 obtain h2'|tk2|e3|kk':=dZ K
 revert O2 hm sb e3;refine kE k2 ?_;clear k2;intro h3' tk3 k3 O2 hm sb e3
 injection e3 with e3 _ _ e4 _
 subst e3
 have off:∀b o,b≠dx->h3'.get? b=some o->h'.get? b=some o:=λb o q e=>(sb.2 b q).trans e
 have Bdx:B.get? dx=none:=bo dx hdx
 rcases EN hm.at with es|nn|_|_|_|D|_
 obtain h1'|tk1|rfl|_:=dZ k1
 refine h _ _ ⟨h',_,rfl,λb o q1 q2 q3 q=>off b o (λz=>q1 (z▸hdx)) (kk' b o q)⟩ ⟨rfl,?_⟩
 rcases aL O2.st with ρ|F|V
 refine⟨O2.rm,?_,?_,hI _ _ O2.iv sb F',λa q=>O2.ox a (hlst a q),ρ,?_,V.at λb o xb ⟨vs,nn,el⟩ q=>⟨xb,off b o (λz=>?_) q⟩⟩
 . refine O2.ho.imp id λ⟨e',a1,o,vs,a2,a3,a4⟩=>⟨e',a1,o,vs,off _ _ (λz=>?_) a2,a3,a4⟩
   replace a2:=z▸a2
   have a2':=D.symm.trans a2
   obtain rfl:=Option.some.inj a2';injection a3
 . intro a ha
   rcases eU (O2.xo a ha) with o|vs|nn|q1|q2
   refine⟨o,vs,nn,off _ _ (λz=>?_) q1,q2⟩
   replace q1:=z▸q1
   have q1':=D.symm.trans q1
   obtain rfl:=Option.some.inj q1';injection q2
 . rcases nU F.base with G|k0|hL|hC
   have neL:env.locals≠dx:=λz=>hL.2 (z▸hdx)
   have neC:∀y a,env.cells.lookup y=some a->a≠dx:=λy a q z=>(hC y a q).2 (z▸hdx)
   rcases aL F.ns with m0|hn|hm0
   refine⟨⟨⟨G.k,G.g,G.b,G.nl⟩,λb o q=>off b o (λz=>by replace q:=Bdx▸z▸q;injection q) (k0 b o q),⟨hL.1,λq=>hL.2 ((hown _).mp q)⟩,λy a q=>⟨(hC y a q).1,λz=>(hC y a q).2 ((hown _).mp z)⟩⟩,F.scope,F.kind,F.globals,F.builtins,⟨m0,hn.at' λo q=>off _ o neL q,hm0⟩,
    λy hy=>let ⟨a,q1,o,q2,q3⟩:=F.cells y hy;⟨a,q1,o,off _ _ (neC y a q1) q2,q3⟩,F.inj,λy a q=>let ⟨v,o,q2,q3⟩:=F.allc y a q;⟨v,o,off _ _ (neC y a q) q2,q3⟩⟩
 . subst z
   have q':=D.symm.trans q
   injection q' with q';replace el:=q'.symm▸el;exact absurd (congrArg Obj.data el) (by intro z;injection z)
end
noncomputable def GD:Stmt->List Stmt
 | .ClassDef _ _ _ b _ _ _ _ _ _ _=>b
 | _=>[]
noncomputable def fH(c j:Nat):Stmt:=((GD (aY c)).drop j).headD (.Pass ⟨0,0,0,0⟩)
noncomputable def gI(C:Cx)(f:Addr)(st:Stmt)(args:List Value->Args)(names:List Str):Prop:=∃ob fd,C.K.lookup f=some ob/\ob.data=.func fd/\codeIn C.K fd.code fd.qualname=true/\fd.body=.stmts (aX st)/\fd.scope=aD st /\
 fd.closure=[]/\fd.globals=mainGlobals/\fd.builtins=builtinsNs /\
 ∀vs:List Value,vs.length=names.length->∀(A:Around) (s:Shared) (Q:List (Str×Value)->Shared->Prop) (E:Value->Shared->Prop),C.K.In s.heap->Q (names.zip vs) s->wpAny C.M A (bindArgs fd (args vs)) Q E s
noncomputable abbrev pl:List Value->Args:=λvs=>⟨vs,[]⟩
structure Cl(C:Cx)(n:Nat)(A:Around)(B:Heap)(X:Addr->Prop)(s:Shared):Prop where
 rm:Rm n A
 ho:tY A s.heap
 xo:EO X s.heap
 gl:Gl C B
 kb:∀b o,B.get? b=some o->s.heap.get? b=some o
 bo:Bo C B
 iv:C.I.inv s.heap
 ox:∀a,C.I.lst a->X a
structure Fc(C:Cx)(n:Nat)(f:Addr)(args:List Value->Args)(ds:List D)(I:bX)(d:D):Prop where
 go:∀(A:Around) (B:Heap) (X:Addr->Prop) (s:Shared) (vs:List Value) (R:Result->Shared->Prop),Cl C n A B X s->dI X s.heap vs ds ->
  (∀v s',BA C s s'->I.inv s'.heap->Rd X s'.heap v d->R (.ok (.ret v)) s')->codeAny C.M A (.call (.ref f) (args vs)) R s
structure Fp(C:Cx)(n:Nat)(f:Addr)(args:List Value->Args)(ds:List D)(d:D):Prop where
 go:∀(A:Around) (X:Addr->Prop) (s:Shared) (vs:List Value) (R:Result->Shared->Prop),Rm n A->tY A s.heap->EO X s.heap->Gl C s.heap->C.I.inv s.heap->(∀a,C.I.lst a->X a)->dI X s.heap vs ds ->
  (∀v s',Keeps s s'->Rd X s'.heap v d->R (.ok (.ret v)) s')->codeAny C.M A (.call (.ref f) (args vs)) R s
section
variable{C:Cx}{n:Nat}{sc:Scope}{δ:List (Str×D)}
theorem RG{f:Addr}{st:Stmt}{args:List Value->Args}{names:List Str}{ds:List D}{A:Around}{B:Heap}{X:Addr->Prop}{s:Shared}{vs:List Value}{R:Result->Shared->Prop}(F:gI C f st args names)(hl:ds.length=names.length)(hs:fC (aD st) names=true)
 (K:Cl C (n+1) A B X s) (r:dI X s.heap vs ds)
 (h:∀env h1 tk1,env.scope=aD st->env.frame=some env.locals->env.locals=s.heap.objs.size->(∀b o,s.heap.get? b=some o->h1.get? b=some o)->(∀x c,env.cells.lookup x=some c->s.heap.get? c=none)->Ok C n (aD st) (names.zip ds) (A.deeper env) B env X h1 ->
  wpAny C.M (A.deeper env) (execs (aX st) env) (λfl s2=>R (.ok (.ret (match fl with | .ret v=>v | _=>.none))) s2) (λe s2=>wpAny C.M (A.deeper env) (leaving env e) (λ_ s3=>R (.error e) s3) (λe' s3=>R (.error e') s3) s2) {s with heap:=h1,toks:=tk1}) :
 codeAny C.M A (.call (.ref f) (args vs)) R s:=by
 obtain ob|fd|hK|hd|hcode|hbody|hscope|hcl|hg|hb|hbind:=SW F
 simp only[fC,Bool.and_eq_true,Bool.or_eq_true,Bool.not_eq_true',decide_eq_true_eq,List.all_eq_true] at hs
 obtain q_0|hfree:=bW hs;obtain q_1|hnames:=bW q_0;obtain q_2|hnd:=bW q_1;obtain q_3|hk:=bW q_2;obtain hco|hgen:=bW q_3
 replace hco:=hscope.symm▸hco;replace hgen:=hscope.symm▸hgen;replace hk:=hscope.symm▸hk;replace hnames:=hscope.symm▸hnames;replace hfree:=hscope.symm▸hfree;replace h:=hscope.symm▸h
 obtain⟨rm,ho,xo,G,kB,bo,iv,ox⟩:=K
 have Gs:=G.keeps kB
 have hlen:=r.length
 have cellsOf:∀{m:Nat} {x:Str},fd.scope.names.lookup x=some .cell->((cellsFrom m fd.scope.names []).lookup x).isSome=true:=λhx=>cellsFrom_some _ _ _ (.inl hx)
 refine codeAny_call_function (o:=ob) (by have:=rm.d;show A.depth<1000;lia) (Gs.k _ _ hK) hd hco hgen hbody (codeRec_of Gs.k hcode) ?_
 rwa[hcl,hg,hb]
 have mem_zip:∀x∈names.zip vs,x.1∈names:=λx hx=>(List.of_mem_zip hx).1
 refine hbind vs (hlen.trans hl) _ _ _ _ Gs.k (wpAny_newFunctionEnv_cells hk (λx hx=>(hnames x.1 (mem_zip x hx)).imp id λq=>⟨q,cellsOf q⟩) λenv henv s1 ic=>⟨?_,?_⟩)
 . exact Gs.nl.keeps ic.toInCall.keep
 rcases mF ic.toInCall.same with h1|tk1|rfl
 have k1:∀b o,s.heap.get? b=some o->h1.get? b=some o:=ic.toInCall.keep
 have eL:env.locals=s.heap.objs.size:=by rwa[henv];rfl
 have eC:env.cells=cellsFrom (s.heap.objs.size+1) fd.scope.names []:=by rwa[henv];rfl
 have eS:env.scope=fd.scope:=by rwa[henv];rfl
 have eG:env.globals=mainGlobals:=by rwa[henv];rfl
 have eB:env.builtins=builtinsNs:=by rwa[henv];rfl
 have kO:∀x,env.kindOf x=fd.scope.names.lookup x:=λx=>by unfold Env.kindOf;rwa[eS];rfl
 have nd:((names.zip vs).map (·.1)).Nodup:=by
  have:(names.zip vs).map (·.1)=names.take vs.length:=nW names vs
  rwa[this];exact hnd.sublist (List.take_sublist _ _)
 have off:∀c,s.heap.objs.size<=c->s.heap.get? c=none:=λc hc=>by
  cases q:s.heap.get? c with
  | none=>rfl
  | some o=>exact absurd (Nat.lt_of_lt_of_le (Heap.lt_size q) hc) (Nat.lt_irrefl _)
 have cOff:∀x c,env.cells.lookup x=some c->s.heap.get? c=none:=λx c e=>off c (by have q:=ic.above x c (bT e);replace q:=eL▸q;exact Nat.le_of_lt q)
 have nown:∀c,s.heap.get? c=none->¬C.I.own c:=λc e ob=>by
  rcases aU (C.I.dom _ _ iv ob) with o|q
  injection tq e q
 have nB:∀c,s.heap.get? c=none->B.get? c=none:=λc e=>by
  cases q:B.get? c with
  | none=>rfl
  | some o=>injection tq (kB c o q) e
 have O1:Ok C n fd.scope (names.zip ds) (A.deeper env) B env X h1:=by
  refine⟨⟨?_,?_,λq=>rm.hn (by exact Nat.le_succ_of_le (by assumption))⟩,?_,xo.keeps k1,C.I.at_ _ _ iv λb o _ e=>k1 b o e,ox,λx=>if fd.scope.names.lookup x=some .local then bindL env.kindOf (names.zip vs) (λ_=>none) x else bindC env.kindOf (names.zip vs) (λ_=>none) x,?_,λx dd e=>?_⟩
  . have:=rm.d;show A.depth+1+2*n<720;lia
  . have:=rm.u;show A.units+3+8*n<9000;lia
  . exact ho.keeps k1
  . refine⟨⟨G,λb o e=>k1 b o (kB b o e),⟨by rwa[eL];exact nB _ aN,λob=>nown _ (by rwa[eL];exact aN) ob⟩,λx c e=>⟨nB _ (cOff x c e),λob=>nown _ (cOff x c e) ob⟩⟩,eS,hk,eG,eB,⟨_,ic.toInCall.ns,λx hx=>by rwa[if_pos hx];rfl⟩,λx hx=>?_,λx y c e1 e2=>mK ic.apart (bT e1) (bT e2),λx c e=>⟨_,ic.cell x c e⟩⟩
    rcases hx with hx | hx
    . rcases aU (Option.isSome_iff_exists.mp (cellsOf (m:=s.heap.objs.size+1) hx)) with c|hc
      refine⟨c,by rwa[eC];exact hc,?_⟩
      rwa[if_neg (by refine zl hx ?_;intro q;cases q)]
      exact ic.cell x c (by rwa[eC];exact hc)
    . exact absurd rfl (hfree _ (eW hx))
  . rcases aL (iL r e) with v|e1|r1
    refine⟨v,?_,r1.keeps k1⟩
    dsimp only
    rwa[kY _ _ _ _ nd,mJ _ _ _ _ nd,e1]
    by_cases q:fd.scope.names.lookup x=some .local
    . simp[q,kO]
    . simp[q,kO]
 have fr:env.frame=some env.locals:=by rwa[henv];rfl
 exact codeAny_func (h env h1 tk1 eS fr eL k1 cOff O1)
end
section
variable{C:Cx}{n:Nat}{sc:Scope}{δ:List (Str×D)}
theorem vH{f:Addr}{st:Stmt}{args:List Value->Args}{names:List Str}{ds:List D}{I:bX}{d:D}{o:MO}(F:gI C f st args names)(hl:ds.length=names.length)(hs:fC (aD st) names=true)
 (h:MX C n (aD st) (names.zip ds) (aX st) o) (ho:o=.ret I d\/∃δ',o=.nxt I δ'/\d=.none):Fc C (n+1) f args ds I d:=by
 refine⟨λA B X s vs R K r hR=>RG F hl hs K r λenv h1 tk1 hsc hfr hL k1 hC O1=>?_⟩
 refine h.go (A.deeper env) B env X _ _ _ O1 K.bo λfl s2 k2 o2=>?_
 have mk:BA C s s2:=by
  obtain h2|tk2|rfl|k2:=dZ k2
  refine⟨h2,tk2,rfl,λb o q e=>k2 b o q (λz=>?_) (λx z=>?_) (k1 b o e)⟩
  . replace e:=aN▸hL▸z▸e;injection e
  . injection tq (hC x b z) e
 rcases ho with rfl | ⟨δ',rfl,rfl⟩
 . obtain i2|q_0:=bW o2;obtain v|rfl|r2:=aL q_0
   exact hR v s2 mk i2 r2
 . obtain rfl|O2:=bW o2
   exact hR .none s2 mk O2.iv .none
theorem DP{f:Addr}{st:Stmt}{args:List Value->Args}{names:List Str}{ds:List D}{d:D}{o:QK}(F:gI C f st args names)(hl:ds.length=names.length)(hs:fC (aD st) names=true)
 (h:Ex C n (aD st) (names.zip ds) (aX st) o) (ho:o=.ret d\/∃δ',o=.nxt δ'/\d=.none):Fp C (n+1) f args ds d:=by
 refine⟨λA X s vs R rm h0 xo G iv ox r hR=>?_⟩
 obtain⟨C0,hC0⟩:∃C0:Cx,C0={C with I:=bX.none}:=⟨_,rfl⟩
 obtain ob|fd|hK|hd|hcode|hbody|hscope|hcl|hg|hb|hbind:=SW F
 have F0:gI C0 f st args names:=by rwa[hC0];exact⟨ob,fd,hK,hd,hcode,hbody,hscope,hcl,hg,hb,hbind⟩
 have G0:Gl C0 s.heap:=by rwa[hC0];exact⟨G.k,G.g,G.b,G.nl⟩
 have K0:Cl C0 (n+1) A s.heap X s:=by
  refine⟨rm,h0,xo,G0,λ_ _ e=>e,?_,?_,?_⟩
  . rwa[hC0];exact λb q=>q.elim
  . rwa[hC0];exact trivial
  . rwa[hC0];exact λa q=>q.elim
 suffices this:codeAny C0.M A (.call (.ref f) (args vs)) R s by replace this:=hC0▸this;exact this
 refine RG F0 hl hs K0 r (R:=R) λenv h1 tk1 hsc hfr hL k1 hC O1=>?_
 . have nown:∀c,s.heap.get? c=none->¬C.I.own c:=λc e ob=>by
    rcases aU (C.I.dom _ _ iv ob) with o|q
    injection tq e q
   have O2:Ok C n (aD st) (names.zip ds) (A.deeper env) s.heap env X h1:=by
    obtain⟨q1,q2,q3,q4,q5,ρ,F,V⟩:=O1
    refine⟨q1,q2,q3,C.I.at_ _ _ iv λb o _ e=>k1 b o e,ox,ρ,?_,V⟩
    rcases nU F.base with g|k0|hL'|hC'
    replace g:=hC0▸g
    exact⟨⟨⟨g.k,g.g,g.b,g.nl⟩,k0,⟨hL'.1,nown _ hL'.1⟩,λx c e=>⟨(hC' x c e).1,nown _ (hC' x c e).1⟩⟩,F.scope,F.kind,F.globals,F.builtins,F.ns,F.cells,F.inj,F.allc⟩
   have kJ:∀s2,rN env {s with heap:=h1,toks:=tk1} s2->Keeps s s2:=λs2 k2=>by
    obtain h2|tk2|rfl|k2:=dZ k2
    refine⟨h2,tk2,rfl,λb o e=>k2 b o (λz=>?_) (λx z=>?_) (k1 b o e)⟩
    . replace e:=aN▸hL▸z▸e;injection e
    . injection tq (hC x b z) e
   have eM:C0.M=C.M:=by rwa[hC0];rfl
   rwa[eM]
   refine h.go (A.deeper env) s.heap env X _ _ _ O2 λfl s2 k2 o2=>?_
   rcases ho with rfl | ⟨δ',rfl,rfl⟩
   . obtain v|rfl|r2:=aL o2
     exact hR v s2 (kJ _ k2) r2
   . obtain rfl|O2:=bW o2
     exact hR .none s2 (kJ _ k2) .none
theorem jI{prog:Program}{w:World}{A:Around}{E:Value->Shared->Prop}{s:Shared}{env:Env}{o:PySem.Expr}{name:Str}{apos pos:Pos}{args:List PySem.Expr}{Q:Value->Shared->Prop}
 (hbase:attributeBase o name env (eval o env)=eval o env)
 (hfew:((backTo pos (starEach args env)).all (λx=>!x.1)&&(backToKw pos (keywordEach [] env)).all (λx=>x.1.isSome)&&decide (args.length+([]:List Keyword).length+(if ([]:List Keyword).isEmpty then 0 else 1)<30))=true)
 (hline:(apos.endLine==pos.line)=true)
 (h:wpAny (model prog w) A (eval o env) (λov s₁=>∀pl,wpAny (model prog w) A (getMethod ov name pl) (λfx s₂=>wpAny (model prog w) A (callWith pos fx.1 fx.2 (backTo pos (starEach args env)) []) Q E s₂) E s₁) E s) :
 wpAny (model prog w) A (eval (.Call (.Attribute o name apos) args [] pos) env) Q E s:=by
 rwa[arm_eval_Call ..,hbase]
 refine wpAny_bind (wpAny_mono h (λov s₁ h₁=>?_) λ_ _ e=>e)
 refine wpAny_bind (wpAny_standAt ?_)
 have hform:methodCallForm (args.length+([]:List Keyword).length) (backTo pos (starEach args env)) (backToKw pos (keywordEach [] env))=true:=hfew
 have hpos:methodCallPos true o env apos pos=pure pos:=by unfold methodCallPos;exact if_pos (by assumption)
 unfold methodCall
 rwa[hform]
 exact wpAny_bind (wpAny_holding (wpAny_mono (h₁ _) (λfx s₂ h₂=>wpAny_bind (wpAny_of_eq hpos h₂)) λ_ _ e=>e))
noncomputable def UP(as:List PySem.Expr)(ds:List D):Prop:=(as=[]/\ds=[])\/∃a as',as=a::as'/\∀env,starEach (a::as') env=(false,eval a env)::starEach as' env
theorem pV{as:List PySem.Expr}{ds:List D}(ha:uT C n sc δ as ds)(hst:UP as ds){A:Around}{B:Heap}{env:Env}{X:Addr->Prop}{pos:Pos}{s:Shared}{f:Value}{Q:Args->Shared->Prop}{E:Value->Shared->Prop}(O:Ok C n sc δ A B env X s.heap)
 (h:∀vs s',Keeps s s'->dI X s'.heap vs ds->Q ⟨vs,[]⟩ s'):wpAny C.M A (evalArgs f true (backTo pos (starEach as env)) []) Q E s:=by
 rcases hst with⟨rfl,rfl⟩ | ⟨a,as',rfl,e⟩
 . exact PySem.evalArgs_none (h [] s (aE s) .nil)
 . have hA:=ha.go A B env X pos s
   have eb:backTo pos (starEach (a::as') env)=(false,eval a env)::backTo pos (starEach as' env):=by rwa[e ..];rfl
   rw[eb] at hA ⊢
   exact evalArgs_plain (hA _ _ O h)
structure cQ(C:Cx)(k:Nat)(x dx Cl:Addr)(fs:List (Str×D)):Prop where
 hi:∀h,C.I.inv h->cG k h x dx Cl fs
 c:dK C.K Cl
structure oC(C:Cx)(Cl:Addr)(name:Str)(f:Addr)(st:Stmt)(names:List Str):Prop where
 F:gI C f st pl names
 hf:findIn C.K (.ref Cl) name=some (some (.ref f))
 ht:isFn C.K (.ref f)=true
theorem wP{o:PySem.Expr}{name:Str}{apos pos:Pos}{as:List PySem.Expr}{k:Nat}{x dx Cl f:Addr}{fs:List (Str×D)}{st:Stmt}{names:List Str}{ds:List D}{d:D}(I:cQ C k x dx Cl fs)(M:oC C Cl name f st names)(hn:fs.lookup name=none)
 (ho:Ev C n sc δ o (.ptr x)) (ha:uT C n sc δ as ds) (hst:UP as ds) (hF:Fp C n f pl (.ptr x::ds) d) (hl:(apos.endLine==pos.line)=true)
 (hab:∀env,attributeBase o name env (eval o env)=eval o env:=by intro _;rfl)
 (hfew:∀pos env,((backTo pos (starEach as env)).all (λx=>!x.1)&&(backToKw pos (keywordEach [] env)).all (λx=>x.1.isSome)&&decide (as.length+([]:List Keyword).length+(if ([]:List Keyword).isEmpty then 0 else 1)<30))=true:=by intro _ _;rfl) :
 Ev C n sc δ (.Call (.Attribute o name apos) as [] pos) d:=by
 refine⟨λA B env X s Q E O h=>jI (hab env) (hfew pos env) hl (ho.go A B env X s _ _ O λv s1 k1 r1=>?_)⟩
 obtain rfl:=cW r1
 intro pl
 have O1:=O.on k1
 rcases rW (I.hi _ O1.iv) with m|hm|h1|h2
 rcases iG M.F with ob|fd|hK|hfd|_
 refine mV O1.gl.k I.c hm M.hf M.ht (h2 _ hn) ?_
 refine callWith_function (o:=ob) (fd:=fd) (pV ha hst O1 λvs s2 k2 r2=>?_)
 have O2:=O1.on k2
 refine⟨⟨O2.gl.k _ _ hK,hfd⟩,?_⟩
 exact wpAny_call (hF.go A X s2 (.ref x::vs) _ O2.rm O2.ho O2.xo O2.gl O2.iv O2.ox (.cons (.ptr x) r2) λv s3 k3 r3=>h v s3 (aB k1 (aB k2 k3)) r3)
theorem Ok.cl{A:Around}{B:Heap}{env:Env}{X:Addr->Prop}{s:Shared}(O:Ok C n sc δ A B env X s.heap)(bo:Bo C B):Cl C n A B X s:=by
 rcases aL O.st with ρ|F|V
 exact⟨O.rm,O.ho,O.xo,F.base.1,F.base.2.1,bo,O.iv,O.ox⟩
structure lI(I I':bX):Prop where
 own:∀b,I'.own b->I.own b
 lst:∀b,I'.lst b->I.lst b
 seq:∀h h' b o vs nn,I.inv h->I'.inv h'->I.own b->h.get? b=some o->o.data=.seq vs nn->∃o' vs' nn',h'.get? b=some o'/\o'.data=.seq vs' nn'
 exc:∀h b o vs,I.inv h->I.own b->h.get? b=some o->o.data=.fields vs->vs[2]?≠some .none
theorem Ok.called{A:Around}{B:Heap}{env:Env}{X:Addr->Prop}{s s':Shared}{I:bX}(O:Ok C n sc δ A B env X s.heap)(bo:Bo C B)(T:lI C.I I)(k:BA C s s')(iv:I.inv s'.heap):Ok (C.turn I) n sc δ A B env X s'.heap:=by
 obtain h'|tk|rfl|k:=dZ k
 rcases aL O.st with ρ|F|V
 rcases nU F.base with G|k0|hL|hC
 rcases aL F.ns with m0|hn|hm0
 refine⟨O.rm,?_,λa ha=>?_,iv,λa q=>O.ox a (T.lst a q),ρ,?_,V.at λb o xb ⟨vs,nn,el⟩ q=>⟨xb,k b o (λob=>xb (O.ox b (C.I.seqs _ _ _ O.iv ob q ⟨vs,nn,el⟩))) q⟩⟩
 . exact O.ho.imp id λ⟨e',a1,o,vs,a2,a3,a4⟩=>⟨e',a1,o,vs,k _ _ (λob=>T.exc _ _ _ _ O.iv ob a2 a3 a4) a2,a3,a4⟩
 . rcases eU (O.xo a ha) with o|vs|nn|q1|q2
   by_cases ob:C.I.own a
   . exact T.seq _ _ _ _ _ _ O.iv iv ob q1 q2
   . exact⟨o,vs,nn,k _ _ ob q1,q2⟩
 . exact⟨⟨⟨G.k,G.g,G.b,G.nl⟩,λb o q=>k b o (λob=>by injection tq (bo b ob) q) (k0 b o q),⟨hL.1,λq=>hL.2 (T.own _ q)⟩,λy a q=>⟨(hC y a q).1,λz=>(hC y a q).2 (T.own _ z)⟩⟩,F.scope,F.kind,F.globals,F.builtins,⟨m0,hn.at' λo q=>k _ o hL.2 q,hm0⟩,
    λy hy=>let ⟨a,q1,o,q2,q3⟩:=F.cells y hy;⟨a,q1,o,k _ _ (hC y a q1).2 q2,q3⟩,F.inj,λy a q=>let ⟨v,o,q2,q3⟩:=F.allc y a q;⟨v,o,k _ _ (hC y a q).2 q2,q3⟩⟩
theorem pW{o:PySem.Expr}{name:Str}{apos pos:Pos}{as:List PySem.Expr}{k:Nat}{x dx Cl f:Addr}{fs:List (Str×D)}{st:Stmt}{names:List Str}{ds:List D}{d:D}{J:bX}(I:cQ C k x dx Cl fs)(M:oC C Cl name f st names)(hn:fs.lookup name=none)(T:lI C.I J)
 (ho:Ev C n sc δ o (.ptr x)) (ha:uT C n sc δ as ds) (hst:UP as ds) (hF:Fc C n f pl (.ptr x::ds) J d) (hl:(apos.endLine==pos.line)=true)
 (hab:∀env,attributeBase o name env (eval o env)=eval o env:=by intro _;rfl)
 (hfew:∀pos env,((backTo pos (starEach as env)).all (λx=>!x.1)&&(backToKw pos (keywordEach [] env)).all (λx=>x.1.isSome)&&decide (as.length+([]:List Keyword).length+(if ([]:List Keyword).isEmpty then 0 else 1)<30))=true:=by intro _ _;rfl) :
 SZ C n sc δ (.Call (.Attribute o name apos) as [] pos) J d:=by
 refine⟨λA B env X s Q E O bo h=>jI (hab env) (hfew pos env) hl (ho.go A B env X s _ _ O λv s1 k1 r1=>?_)⟩
 obtain rfl:=cW r1
 intro pl
 have O1:=O.on k1
 rcases rW (I.hi _ O1.iv) with m|hm|h1|h2
 rcases iG M.F with ob|fd|hK|hfd|_
 refine mV O1.gl.k I.c hm M.hf M.ht (h2 _ hn) ?_
 refine callWith_function (o:=ob) (fd:=fd) (pV ha hst O1 λvs s2 k2 r2=>?_)
 have O2:=O1.on k2
 refine⟨⟨O2.gl.k _ _ hK,hfd⟩,?_⟩
 refine wpAny_call (hF.go A B X s2 (.ref x::vs) _ (O2.cl bo) (.cons (.ptr x) r2) λv s3 k3 i3 r3=>h v s3 ?_ (O2.called bo T k3 i3) r3)
 exact BA.trans (I':=C.I) (.of_keeps (aB k1 k2)) k3 λz q=>.inl q
theorem DQ{e:PySem.Expr}{pos:Pos}{d:D}(he:Ev C n sc δ e d)(hs:∀env,swapsWith e none pos.line env=pure false:=by intro _;rfl):rO C n sc δ (.Expr e pos) (.nxt δ):=by
 refine⟨λA B env X s Q E O h=>?_⟩
 rcases aL O.st with _|F0|_
 have hi:interactive env=false:=by
  have:=F0.kind;replace this:=F0.scope.symm▸this
  unfold interactive
  lia
 exact wpAny_Expr_any (prog:=C.prog) (w:=C.w) (he.go A B env X s _ _ O λv s1 k1 r1=>h _ s1 (.of_keeps k1) ⟨rfl,O.on k1⟩) hi (hs env)
theorem NX{m:Nat}{o:PySem.Expr}{name:Str}{pos:Pos}{k:Nat}{x dx Cl p fget:Addr}{fs:List (Str×D)}{d:D}{rest:List Value}(I:cQ C k x dx Cl fs)
 (ha:findIn C.K (.ref Cl) name=some (some (.ref p))) (hn:specialIn C.K (.ref p) "__get__"=some (some (.builtin "property.__get__"))) (ht:takesIn C.K (.ref p)=some true) (hp:recIn C.K p "property"=some (.ref fget::rest))
 (ho:Ev C n sc δ o (.ptr x)) (hF:Fp C m fget pl [.ptr x] d) (hmn:m<n) (hd:d.flat=true)
 (he:∀env,eval (.Attribute o name pos) env=(do
  let o' ←eval o env
  standAt pos.atName
  let r ←holding [o'] (getAttr o' name true)
  letTemporaryGo o o' r
  pure r):=by intro _;with_unfolding_all rfl):Ev C n sc δ (.Attribute o name pos) d:=by
 refine⟨λA B env X s Q E O h=>Attribute_any_ (ho.go A B env X s _ _ O λv s1 k1 r1=>?_) (he env)⟩
 obtain rfl:=cW r1
 have O1:=O.on k1
 rcases rW (I.hi _ O1.iv) with m0|hm|h1|h2
 refine EY O1.gl.k I.c hm ha hn ht hp ?_
 have kt:Keeps s1 {s1 with toks:=s1.toks+1}:=aV
 have O2:=O1.on kt
 refine hF.go A.in1 X _ [.ref x] _ ⟨?_,?_,λq=>O2.rm.hn (by exact Nat.lt_trans (by assumption) (by assumption))⟩ O2.ho O2.xo O2.gl O2.iv O2.ox (.cons (.ptr x) .nil) λv s3 k3 r3=>?_
 . have:=O2.rm.d;show A.depth+2*m<720;lia
 . have:=O2.rm.u;show A.units+1+8*m<9000;lia
 . show wpAny _ _ (handedOut v) _ _ _
   rwa[handedOut_of (tC.of r3 hd).handed]
   exact wpAny_pure (h v s3 (aB k1 (aB kt k3)) r3)
end
section
variable{C:Cx}{n:Nat}{sc:Scope}{δ:List (Str×D)}
theorem nA{T U:String}(hc:compareOp .IsNot (.type T) (.type U)=pure (.bool (!(T==U)))):Cm C n .IsNot (.ty T) (.ty U) (!(T==U)):=by
 refine⟨?_⟩
 intro A X s va vb Q E rm ra rb _ _ h
 obtain rfl:=xT ra;obtain rfl:=xT rb
 exact wpAny_of_eq hc (h s (aE s))
theorem BK{np pos:Pos}{x:PySem.Expr}{i:Int}(hx:Ev C n sc δ x (.int i))(hk:sc.names.lookup ("int":Str)=some .globalImplicit)(hg:C.mg ("int":Str)=none)(hm:C.mb ("int":Str)=some (.type "int"))
 (hs:∀env,starEach [x] env=[(false,eval x env)]:=by intro _;rfl):Ev C n sc δ (.Call (.Name ("int":Str) np) [x] [] pos) (.int i):=by
 refine⟨?_⟩
 intro A B env X s Q E O h
 refine Call_name1 (hs env) ?_
 refine cC O hk hg hm ∅ ?_
 refine PySem.callWith_type1 (hx.go A B env X s _ _ O λv s1 k1 r1=>?_)
 (obtain _|rfl:=aU (bF r1))
 exact call_int_int (h _ s1 k1 (.int _ _))
theorem tE{x:Str}(hz:x.length<=sizeLine):Bi C n "len" [.str x] (.int x.length):=by
 refine⟨?_⟩
 intro A X s vs Q E _ _ _ _ r h
 obtain _|_|r1|r|rfl:=iG (aR r)
 obtain rfl:=bJ r
 obtain t|rfl:=aU (bN r1)
 have hz':x.length<=2 ^ 24:=hz
 exact P.len_str (by lia) (h _ _ aV (.int _ _))
theorem GE{A:Around}{E:Value->Shared->Prop}{s:Shared}{value slice:PySem.Expr}{o i:Value}{ops:List Value}{Q:Value->Shared->Prop}(h:ItemOn C.M A E o i Q s)(hs:subscripted slice false o i=operate ops (getItem o i)):wpAny C.M A (subscriptTail value slice o i) Q E s:=by
 obtain T|id|hl|hT|hg:=iG h
 unfold subscriptTail
 refine wpAny_bind ?_
 rwa[getitemInPython_of_ne hT.not_modules]
 refine wpAny_bind (wpAny_specialOf hT hl (wpAny_pure (wpAny_bind ?_)))
 rwa[hs]
 exact wpAny_operating (wpAny_mono hg (λr s₃ h₃=>wpAny_bind (wpAny_letTemporaryGo (wpAny_pure h₃))) λ_ _ x=>x)
theorem NY{v lo hi:PySem.Expr}{p pos:Pos}{x:Str}{i j:Int}(hv:Ev C n sc δ v (.str x))(hlo:Ev C n sc δ lo (.int i))(hhi:Ev C n sc δ hi (.int j))(hz:x.length<=sizeLine)
 (hs:∀t a,subscripted (.Slice (some lo) (some hi) none p) false (.str x t) (.ref a)=operate [.ref a,.str x t] (getItem (.str x t) (.ref a)):=by intro _ _;with_unfolding_all rfl) :
 Ev C n sc δ (.Subscript v (.Slice (some lo) (some hi) none p) pos) (.str (Txt.slice x (some i) (some j))):=by
 refine⟨?_⟩
 intro A B env X s Q E O h
 refine Subscript_ (hv.go A B env X s _ _ O λo s1 k1 r1=>?_)
 obtain t|rfl:=aU (bN r1)
 refine wpAny_Slice (wpAny_evalPart_some (hlo.go A B env X s1 _ _ (O.on k1) λy s2 k2 r2=>?_))
 refine wpAny_evalPart_some (hhi.go A B env X s2 _ _ (O.on (aB k1 k2)) λz s3 k3 r3=>?_)
 refine wpAny_evalPart_none ?_
 obtain u|rfl:=aU (bF r2)
 obtain u'|rfl:=aU (bF r3)
 refine GE (C:=C) (SBH.sliceItem_ss (prog:=C.prog) (w:=C.w) (A:=A) (E:=E) (P:=λh=>∀b o,s3.heap.get? b=some o->h.get? b=some o) (s:=s3) (x:=x) (t:=t) (Q:=Q) (i:=i) (j:=j) (ui:=u) (uj:=u') (λh ob q b o e=>Heap.get?_push_of_some _ (q b o e)) (λb o e=>e)
  (λh' t' k q=>h _ _ (aB k1 (aB k2 (aB k3 ⟨h',k,rfl,q⟩))) (.str _ _)) hz) (hs _ _)
end
structure gU where
 L:Addr
 dL:Addr
 S:Addr
 dS:Addr
 Pb:Addr
 Pc:Addr
 Fs:Addr
 CL:Addr
 CS:Addr
noncomputable def WC:Str:="abcdfeghijklmnopqrstuvwxyzABCDEFGHIJKLMNOPQRSTUVWXYZ0123456789_ßàáâãäåæçèéêëìíîïðñòóôõöøùúûüýþÿÀÁÂÃÄÅÆÇÈÉÊËÌÍÎÏÐÑÒÓÔÕÖØÙÚÛÜÝÞ~-./*?="
noncomputable def rT(a:gU)(st:D)(tok:Str):List (Str×D):=[("instream",.ptr a.S),("infile",.none),("posix",.bool true),("eof",.none),("commenters",.str "#"),("wordchars",.str WC),("whitespace",.str " \t\r\n"),("whitespace_split",.bool false),("quotes",.str "'\""),("escape",.str "\\"),("escapedquotes",.str "\""),
 ("state",st),("pushback",.ptr a.Pb),("lineno",.int 1),("debug",.int 0),("token",.str tok),("filestack",.ptr a.Fs),("source",.none),("_punctuation_chars",.str "|"),("_pushback_chars",.ptr a.Pc)]
noncomputable def kM(line:Str)(p:Nat):List (Str×D):=[("_StringIO__newline",.str "\n"),("_StringIO__buf",.str line),("_StringIO__pos",.int (p:Int))]
noncomputable def dH(a:gU)(b:Addr):Prop:=b=a.L\/b=a.dL\/b=a.S\/b=a.dS\/b=a.Pb\/b=a.Pc\/b=a.Fs
structure rU(a:gU)(line:Str)(p:Nat)(st:D)(tok:Str)(h:Heap):Prop where
 l:cG 60 h a.L a.dL a.CL (rT a st tok)
 s:cG 60 h a.S a.dS a.CS (kM line p)
 pb:QA h a.Pb
 pc:QA h a.Pc
 fs:QA h a.Fs
theorem cG.obj{k:Nat}{h:Heap}{x dx Cl:Addr}{fs:List (Str×D)}(I:cG k h x dx Cl fs):h.get? x=some ⟨.ref Cl,some dx,.plain,#[]⟩:=let ⟨_,a,_⟩:=I;a.obj
theorem cG.dict{k:Nat}{h:Heap}{x dx Cl:Addr}{fs:List (Str×D)}(I:cG k h x dx Cl fs):∃es n,h.get? dx=some (dictOf es n):=let ⟨_,a,_⟩:=I;let ⟨es,n,e,_⟩:=a.im;⟨es,n,e⟩
theorem rU.kind{a:gU}{line:Str}{p:Nat}{st:D}{tok:Str}{h:Heap}(H:rU a line p st tok h){b:Addr}(q:dH a b):∃o,h.get? b=some o/\(o.data=.plain\/(∃es n,o.data=.dict es n)\/∃t,o.data=.fields #[.none,.int 0 t]):=by
 rcases mF H.l.dict with es|n|e
 rcases mF H.s.dict with es'|n'|e'
 rcases aU H.pb with t1|d1
 rcases aU H.pc with t2|d2
 rcases aU H.fs with t3|d3
 rcases q with rfl | rfl | rfl | rfl | rfl | rfl | rfl
 . exact⟨_,H.l.obj,.inl rfl⟩
 . exact⟨_,e,.inr (.inl ⟨_,_,rfl⟩)⟩
 . exact⟨_,H.s.obj,.inl rfl⟩
 . exact⟨_,e',.inr (.inl ⟨_,_,rfl⟩)⟩
 . exact⟨_,d1,.inr (.inr ⟨_,rfl⟩)⟩
 . exact⟨_,d2,.inr (.inr ⟨_,rfl⟩)⟩
 . exact⟨_,d3,.inr (.inr ⟨_,rfl⟩)⟩
noncomputable def aK(a:gU)(line:Str)(p:Nat)(st:D)(tok:Str):bX where
 own:=dH a
 lst:=λ_=>False
 inv:=rU a line p st tok
 at_:=λh h' H k=>⟨H.l.keeps (λo e=>k _ o (.inl rfl) e) λo e=>k _ o (.inr (.inl rfl)) e,H.s.keeps (λo e=>k _ o (.inr (.inr (.inl rfl))) e) λo e=>k _ o (.inr (.inr (.inr (.inl rfl)))) e,
  let ⟨t,e⟩:=H.pb;⟨t,k _ _ (.inr (.inr (.inr (.inr (.inl rfl))))) e⟩,let ⟨t,e⟩:=H.pc;⟨t,k _ _ (.inr (.inr (.inr (.inr (.inr (.inl rfl)))))) e⟩,let ⟨t,e⟩:=H.fs;⟨t,k _ _ (.inr (.inr (.inr (.inr (.inr (.inr rfl)))))) e⟩⟩
 dom:=λh b H q=>let ⟨o,e,_⟩:=H.kind q;⟨o,e⟩
 seqs:=λh b o H q e l=>by
  rcases aL (H.kind q) with o'|e'|r
  have h_:=sx e e';clear e';subst h_
  obtain vs|nn|rfl:=mF l
  rcases r with r | ⟨_,_,r⟩ | ⟨_,r⟩<;>injection r
theorem fR{a:gU}{line line':Str}{p p':Nat}{st st':D}{tok tok':Str}:lI (aK a line p st tok) (aK a line' p' st' tok') where
 own:=λ_ q=>q
 lst:=λ_ q=>q
 seq:=λh h' b o vs nn H _ q e z=>by
  rcases aL (H.kind q) with o'|e'|r
  have h_:=sx e e';clear e';subst h_
  replace r:=z▸r
  rcases r with r | ⟨_,_,r⟩ | ⟨_,r⟩<;>injection r
 exc:=λh b o vs H q e z=>by
  rcases aL (H.kind q) with o'|e'|r
  have h_:=sx e e';clear e';subst h_
  replace r:=z▸r
  rcases r with r | ⟨_,_,r⟩ | ⟨_,r⟩
  . injection r
  . injection r
  . (injection r with h_0;subst h_0);intro q;trivial
noncomputable def nC:List Str:=["instream","posix","eof","commenters","wordchars","whitespace","quotes","escape","escapedquotes","state","pushback","debug","token","filestack","source","_punctuation_chars","_pushback_chars","whitespace_split","infile","lineno"]
noncomputable def nD:List Str:=["_StringIO__newline","_StringIO__buf","_StringIO__pos"]
structure qQ(C:Cx)(a:gU):Prop where
 cl:dK C.K a.CL
 cs:dK C.K a.CS
 fl:∀y∈nC,findIn C.K (.ref a.CL) y=some none
 fs:∀y∈nD,findIn C.K (.ref a.CS) y=some none
 dd:a.dL≠a.dS
 ne:a.CL≠a.CS
theorem hW{K:Frag}{Cl:Addr}{y:Str}(h:findIn K (.ref Cl) y=some none):takerIn K Cl y=some none:=by unfold takerIn;rwa[h];rfl
section
variable{a:gU}{line:Str}{p p':Nat}{st st':D}{tok tok':Str}{h h':Heap}
theorem rU.storeS(H:rU a line p st tok h)(dd:a.dL≠a.dS)(ne:a.CL≠a.CS)(sb:Heap.SameBut a.dS h h'){fs:List (Str×D)}(F:cG 60 h' a.S a.dS a.CS fs)(e:∀y,(kM line p').lookup y=fs.lookup y):rU a line p' st tok h':=by
 rcases mF H.s.dict with es|n|e1
 have off:∀b o,h.get? b=some o->(∀es n,o.data≠.dict es n)->h'.get? b=some o:=λb o q z=>(sb.2 b λw=>by replace q:=e1▸w▸q;obtain rfl:=Option.some.inj q;exact z _ _ rfl).trans q
 refine⟨H.l.keeps (λo q=>off _ _ q λ_ _ z=>by have h_:=sx H.l.obj q;clear q;subst h_;injection z) (λo q=>(sb.2 _ dd).trans q),F.congr e,?_,?_,?_⟩
 . rcases aU H.pb with t|q;exact⟨t,off _ _ q λ_ _ z=>by injection z⟩
 . rcases aU H.pc with t|q;exact⟨t,off _ _ q λ_ _ z=>by injection z⟩
 . rcases aU H.fs with t|q;exact⟨t,off _ _ q λ_ _ z=>by injection z⟩
theorem rU.storeL(H:rU a line p st tok h)(dd:a.dL≠a.dS)(sb:Heap.SameBut a.dL h h'){fs:List (Str×D)}(F:cG 60 h' a.L a.dL a.CL fs)(e:∀y,(rT a st' tok').lookup y=fs.lookup y):rU a line p st' tok' h':=by
 rcases mF H.l.dict with es|n|e1
 have off:∀b o,h.get? b=some o->(∀es n,o.data≠.dict es n)->h'.get? b=some o:=λb o q z=>(sb.2 b λw=>by replace q:=e1▸w▸q;obtain rfl:=Option.some.inj q;exact z _ _ rfl).trans q
 refine⟨F.congr e,H.s.keeps (λo q=>off _ _ q λ_ _ z=>by have h_:=sx H.s.obj q;clear q;subst h_;injection z) (λo q=>(sb.2 _ dd.symm).trans q),?_,?_,?_⟩
 . rcases aU H.pb with t|q;exact⟨t,off _ _ q λ_ _ z=>by injection z⟩
 . rcases aU H.pc with t|q;exact⟨t,off _ _ q λ_ _ z=>by injection z⟩
 . rcases aU H.fs with t|q;exact⟨t,off _ _ q λ_ _ z=>by injection z⟩
end
section
variable{C:Cx}{n:Nat}{sc:Scope}{δ:List (Str×D)}{a:gU}{line:Str}{p:Nat}{st:D}{tok:Str}
theorem qR(hI:C.I=aK a line p st tok)(k:qQ C a){o:PySem.Expr}{name:Str}{pos:Pos}{d:D}(ho:Ev C n sc δ o (.ptr a.S))(hm:name∈nD)(hv:(kM line p).lookup name=some d)
 (he:∀env,eval (.Attribute o name pos) env=(do
  let o' ←eval o env
  standAt pos.atName
  let r ←holding [o'] (getAttr o' name true)
  letTemporaryGo o o' r
  pure r):=by intro _;with_unfolding_all rfl):Ev C n sc δ (.Attribute o name pos) d :=
 pU (k:=60) (x:=a.S) (dx:=a.dS) (Cl:=a.CS) (fs:=kM line p) (λh H=>by replace H:=hI▸H;exact H.s) k.cs (k.fs _ hm) ho hv he
theorem aJ(hI:C.I=aK a line p st tok)(k:qQ C a){o:PySem.Expr}{name:Str}{pos:Pos}{d:D}(ho:Ev C n sc δ o (.ptr a.L))(hm:name∈nC)(hv:(rT a st tok).lookup name=some d)
 (he:∀env,eval (.Attribute o name pos) env=(do
  let o' ←eval o env
  standAt pos.atName
  let r ←holding [o'] (getAttr o' name true)
  letTemporaryGo o o' r
  pure r):=by intro _;with_unfolding_all rfl):Ev C n sc δ (.Attribute o name pos) d :=
 pU (k:=60) (x:=a.L) (dx:=a.dL) (Cl:=a.CL) (fs:=rT a st tok) (λh H=>by replace H:=hI▸H;exact H.l) k.cl (k.fl _ hm) ho hv he
theorem yV{f:Addr}(F:fV C f 18 ["n","what"])(b:Bs C)(bi:C.mg ("int":Str)=none/\C.mb ("int":Str)=some (.type "int"))(i:Int)(hi:i.natAbs<=1000000)(w:Str):Fn C (n+1) f [.int i,.str w] (.int i):=by
 refine jD F rfl ∅ ?_
 refine bD (bZ (b:=false) (aQ (a:=false) (b:=true) (aC (aH (bA (pQ (d:=.int i) (aA rfl rfl) rfl (by rfl) b.type.1 b.type.2) rfl) (lH (by rfl) bi.1 bi.2) (nA (T:="int") (by rfl))) ∅) λq=>by injection q) bQ) ?_
 refine bD (bS (d:=.int i) (BK (aA rfl rfl) (by rfl) bi.1 bi.2) ∅) ?_
 refine bD (bZ (b:=false) (aC (fA (aH (aA rfl rfl) aG qE) λ_=>fA (b:=false) (aH (aA rfl rfl) (AU aG) kZ) λq=>vE) ?_) bQ) ?_
 . have h1:decide ((1099511627776:Int)<i)=false:=by simp;grind
   have h2:decide (i<(-1099511627776:Int))=false:=by simp;grind
   rwa[h1,h2];rfl
 exact bV (bO (aA rfl rfl))
structure BM(C:Cx)(a:gU)(fr fc fi:Addr):Prop where
 k:qQ C a
 rd:oC C a.CS "read" fr (fH 24 25) ["self","size"]
 ck:oC C a.CS "_StringIO__check" fc (fH 24 3) ["self"]
 ix:fV C fi 18 ["n","what"]
 gi:C.mg ("_index":Str)=some (.ref fi)
 b:Bs C
 bi:C.mg ("int":Str)=none/\C.mb ("int":Str)=some (.type "int")
theorem qQ.turn(k:qQ C a)(I:bX):qQ (C.turn I) a:=⟨k.cl,k.cs,k.fl,k.fs,k.dd,k.ne⟩
theorem oC.turn{Cl:Addr}{name:Str}{f:Addr}{s:Stmt}{names:List Str}(m:oC C Cl name f s names)(I:bX):oC (C.turn I) Cl name f s names:=⟨m.F,m.hf,m.ht⟩
theorem Bs.turn(b:Bs C)(I:bX):Bs (C.turn I):=⟨b.range,b.len,b.sum,b.max,b.min,b.sorted,b.type,b.str⟩
theorem BM.turn{fr fc fi:Addr}(k:BM C a fr fc fi)(I:bX):BM (C.turn I) a fr fc fi:=⟨k.k.turn I,k.rd.turn I,k.ck.turn I,k.ix,k.gi,k.b.turn I,k.bi⟩
theorem yW{fr fc fi:Addr}(hI:C.I=aK a line p st tok)(K:BM C a fr fc fi):Fp C (n+1) fc pl [.ptr a.S] .none:=by
 refine DP (o:=.nxt [("self",.ptr a.S)]) K.ck.F rfl ∅ ?_ (.inr ⟨_,rfl,rfl⟩)
 exact bD (bZ (b:=false) (aC (aH (qR hI K.k (aA rfl rfl) ∅ rfl) cB cH) (by rfl)) bQ) bQ
theorem NZ{x:Str}{p c:Nat}(h:x.cps[p]?=some c):Txt.slice x (some (p:Int)) (some ((p:Int)+1))=⟨#[c]⟩:=by
 obtain⟨hl,hc⟩:=Array.getElem?_eq_some_iff.mp h
 have e:Txt.slice x (some (p:Int)) (some ((p:Int)+1))=StrLaws.sliceText x (some (p:Int)) (some ((p+1:Nat):Int)):=rfl
 rwa[e,StrLaws.sliceText_nat x (Nat.le_succ p) hl]
 have h2:(x.cps.toList.drop p).take (p+1-p)=[c]:=by
  have:p+1-p=1:=by simp
  rwa[this,List.drop_eq_getElem_cons (by simpa using hl)]
  simp[hc]
 rwa[h2];rfl
theorem cQ.sio(hI:C.I=aK a line p st tok)(K:qQ C a):cQ C 60 a.S a.dS a.CS (kM line p):=⟨λh H=>by replace H:=hI▸H;exact H.s,K.cs⟩
theorem cQ.lex(hI:C.I=aK a line p st tok)(K:qQ C a):cQ C 60 a.L a.dL a.CL (rT a st tok):=⟨λh H=>by replace H:=hI▸H;exact H.l,K.cl⟩
theorem OA{fr fc fi:Addr}(hI:C.I=aK a line p st tok)(K:BM C a fr fc fi)(hz:line.length<=1000){c:Nat}(hc:line.cps[p]?=some c):Fc C (n+3) fr pl [.ptr a.S,.int 1] (aK a line (p+1) st tok) (.str ⟨#[c]⟩):=by
 have hp:p<line.length:=by
  obtain⟨h,_⟩:=Array.getElem?_eq_some_iff.mp hc
  exact h
 refine vH (o:=.ret (aK a line (p+1) st tok) (.str ⟨#[c]⟩)) K.rd.F rfl ∅ ?_ (.inl rfl)
 refine aP (bB (bZ (b:=false) (aC (aH (aA rfl rfl) cB cH) (by rfl)) bQ)) (λ_ q=>q) ?_
 refine aP (bB (bS (d:=.int 1) (cT K.ix (by rfl) K.gi ∅ (aF (aA rfl rfl) (aF aT bM)) (yV K.ix K.b K.bi 1 ∅ _)) ∅)) (λ_ q=>q) ?_
 refine aP (bB (DQ (d:=.none) (wP (cQ.sio hI K.k) K.ck (by rfl) (aA rfl rfl) bM (.inl ⟨rfl,rfl⟩) (yW hI K) ∅))) (λ_ q=>q) ?_
 refine aP (bB (bS (d:=.int (p:Int)) (qR hI K.k (aA rfl rfl) ∅ rfl) ∅)) (λ_ q=>q) ?_
 refine aP (bB (bS (d:=.int line.length) (cP (by rfl) K.b.len.1 K.b.len.2 ∅ (bY (qR hI K.k (aA rfl rfl) ∅ rfl)) (tE (Nat.le_trans hz ∅))) ∅)) (λ_ q=>q) ?_
 refine aP (bB (bZ (b:=false) (aC (aH (aA rfl rfl) (aA rfl rfl) dM) (by simp;omega)) bQ)) (λ_ q=>q) ?_
 refine aP (I:=C.I) (δ':=[("stop",.int ((p:Int)+1)),("start",.int (p:Int)),("self",.ptr a.S)]) (bB ?_) (λ_ q=>q) ?_
 . by_cases q:p+1<line.length
   . refine bZ (b:=true) (aC (aQ (a:=true) (b:=true) (aC (aH (aA rfl rfl) aG dM) ∅) λ_=>aC (aQ (aH (oQ (aA rfl rfl) (aA rfl rfl)) (aA rfl rfl) kZ) λ_=>jL) (by simp;exact Int.ofNat_le.mpr (by assumption))) rfl) ?_
     exact pD (bD (bS (d:=.int ((p:Int)+1)) (oQ (aA rfl rfl) (aA rfl rfl)) ∅) bQ) (aM rfl (aM rfl (aM rfl eA)))
   . refine bZ (b:=false) (aC (aQ (a:=true) (b:=false) (aC (aH (aA rfl rfl) aG dM) ∅) λ_=>aC (aQ (aH (oQ (aA rfl rfl) (aA rfl rfl)) (aA rfl rfl) kZ) λ_=>jL) (by simp;lia)) rfl) ?_
     have e:(line.length:Int)=(p:Int)+1:=by lia
     refine pD bQ (aM ?_ (aM rfl (aM rfl eA)))
     rwa[←e];rfl
 refine aP (lS (I:=aK a line (p+1) st tok) (k:=60) (x:=a.S) (dx:=a.dS) (Cl:=a.CS) (fs:=kM line p) (cQ.sio hI K.k).hi K.k.cs (hW (K.k.fs _ ∅)) ∅ (by rfl) (aA rfl rfl) rfl (aA rfl rfl) (by rwa[hI];exact .inr (.inr (.inr (.inl rfl)))) (.inr trivial)
  (λh h' H sb F=>by replace H:=hI▸H;exact H.storeS K.k.dd K.k.ne sb F λy=>rfl) (λb=>by rwa[hI];exact Iff.rfl) (λb q=>q.elim)) (λb q=>by show C.I.own b;rwa[hI];exact q) ?_
 refine iT (qJ (bA (NY (qR (C:=C.turn (aK a line (p+1) st tok)) rfl (K.k.turn _) (aA rfl rfl) ∅ rfl) (aA rfl rfl) (aA rfl rfl) (Nat.le_trans hz ∅)) (by rwa[NZ hc];rfl))) trivial
end
section
variable{C:Cx}{n:Nat}{sc:Scope}{δ:List (Str×D)}{a:gU}{line:Str}{p:Nat}{st:D}{tok:Str}
theorem oW{l e1 e2:PySem.Expr}{k:Nat}{tp pos:Pos}{x y z:Str}(hl:Ev C n sc δ l (.str x))(he:uT C n sc δ [e1,e2] [.str y,.str z]):Ts C n sc δ (.Compare l [.In] [.Tuple [e1,e2] k tp] pos) ([y,z].any (·==x)):=by
 refine⟨λA B env X s Q E O h=>?_⟩
 refine wpAny_isTrue_Compare1 (hl.go A B env X s _ _ O λva s1 k1 r1=>?_) rfl
 refine wpAny_Tuple (he.go A B env X tp s1 _ _ (O.on k1) λvs s2 k2 r2=>⟨by rwa[r2.length];exact (by decide:2<=sizeLine),?_⟩)
 obtain t|rfl:=aU (bN r1)
 obtain ta|tb|rfl:=mF (QJ r2)
 refine in_tuple_strs (items:=#[.str y ta,.str z tb]) (ys:=[y,z]) ⟨_,Heap.get?_push_size _ rfl,rfl,0,rfl⟩ (.cons _ _ (.cons _ _ .nil)) ?_
 exact wpAny_truthy_bool (h _ (aB k1 (aB k2 ⟨_,_,rfl,λb o e=>Heap.get?_push_of_some _ e⟩)))
theorem yX{fr fc fi:Addr}(hI:C.I=aK a line p st tok)(K:BM C a fr fc fi)(hz:line.length<=1000)(hp:p=line.length):Fc C (n+3) fr pl [.ptr a.S,.int 1] (aK a line p st tok) (.str ""):=by
 refine vH (o:=.ret (aK a line p st tok) (.str "")) K.rd.F rfl ∅ ?_ (.inl rfl)
 refine aP (bB (bZ (b:=false) (aC (aH (aA rfl rfl) cB cH) (by rfl)) bQ)) (λ_ q=>q) ?_
 refine aP (bB (bS (d:=.int 1) (cT K.ix (by rfl) K.gi ∅ (aF (aA rfl rfl) (aF aT bM)) (yV K.ix K.b K.bi 1 ∅ _)) ∅)) (λ_ q=>q) ?_
 refine aP (bB (DQ (d:=.none) (wP (cQ.sio hI K.k) K.ck (by rfl) (aA rfl rfl) bM (.inl ⟨rfl,rfl⟩) (yW hI K) ∅))) (λ_ q=>q) ?_
 refine aP (bB (bS (d:=.int (p:Int)) (qR hI K.k (aA rfl rfl) ∅ rfl) ∅)) (λ_ q=>q) ?_
 refine aP (bB (bS (d:=.int line.length) (cP (by rfl) K.b.len.1 K.b.len.2 ∅ (bY (qR hI K.k (aA rfl rfl) ∅ rfl)) (tE (Nat.le_trans hz ∅))) ∅)) (λ_ q=>q) ?_
 rwa[←hI]
 exact iT (aW (b:=true) (aC (aH (aA rfl rfl) (aA rfl rfl) dM) (by simp;lia)) (iT (qJ aT) trivial)) trivial
structure yY(C:Cx)(a:gU)(fr fc fi pp fg:Addr)(rest:List Value):Prop where
 s:BM C a fr fc fi
 pa:findIn C.K (.ref a.CL) "punctuation_chars"=some (some (.ref pp))
 pn:specialIn C.K (.ref pp) "__get__"=some (some (.builtin "property.__get__"))
 pt:takesIn C.K (.ref pp)=some true
 pr:recIn C.K pp "property"=some (.ref fg::rest)
 pg:gI C fg (fH 34 1) pl ["self"]
theorem yY.turn{fr fc fi pp fg:Addr}{rest:List Value}(k:yY C a fr fc fi pp fg rest)(I:bX):yY (C.turn I) a fr fc fi pp fg rest:=⟨k.s.turn I,k.pa,k.pn,k.pt,k.pr,k.pg⟩
theorem tF{fr fc fi pp fg:Addr}{rest:List Value}(hI:C.I=aK a line p st tok)(K:yY C a fr fc fi pp fg rest)(hn:2<=n){o:PySem.Expr}{pos:Pos}(ho:Ev C n sc δ o (.ptr a.L))
 (he:∀env,eval (.Attribute o ("punctuation_chars":Str) pos) env=(do
  let o' ←eval o env
  standAt pos.atName
  let r ←holding [o'] (getAttr o' ("punctuation_chars":Str) true)
  letTemporaryGo o o' r
  pure r):=by intro _;with_unfolding_all rfl):Ev C n sc δ (.Attribute o ("punctuation_chars":Str) pos) (.str "|"):=by
 refine NX (m:=1) (cQ.lex hI K.s.k) K.pa K.pn K.pt K.pr ho ?_ (by assumption) rfl he
 exact DP (o:=.ret (.str "|")) K.pg rfl ∅ (bV (bO (aJ hI K.s.k (aA rfl rfl) ∅ rfl))) (.inl rfl)
noncomputable def iP:List Stmt:=match (aX (fH 34 6)).drop 2 with
 | .While _ b _ _::_=>b
 | _=>[]
noncomputable abbrev GF:Scope:=aD (fH 34 6)
noncomputable def DR(a:gU)(q:Bool):List (Str×D):=[("quoted",.bool q),("escapedstate",.str " "),("self",.ptr a.L)]
noncomputable def ch(c:Nat):Str:=⟨#[c]⟩
theorem QB{c k:Nat}(h:c≠k):(ch c==ch k)=false:=by
 have:ch c≠ch k:=λq=>h (by injection q with q;have w:=congrArg Array.toList q;simpa using w)
 simpa using this
theorem yZ{fr fc fi pp fg:Addr}{rest:List Value}(hI:C.I=aK a line p st tok)(K:yY C a fr fc fi pp fg rest)(hn:8<=n)(hz:line.length<=1000){c:Nat}(hc:line.cps[p]?=some c)(h10:c≠10)(q:Bool){o:MO}
 (h:MX (C.turn (aK a line (p+1) st tok)) n GF (("nextchar",.str (ch c))::DR a q) (iP.drop 3) o):MX C n GF (DR a q) iP o:=by
 obtain⟨m,rfl⟩:∃m,n=m+3:=⟨n-3,by lia⟩
 refine aP (I:=aK a line (p+1) st tok) (δ':=("nextchar",.str (ch c))::DR a q) (aW (b:=false) (aC (aQ (a:=true) (b:=false) (aC (mX (tF hI K (by exact Nat.le_trans (Nat.le_add_left ..) (by assumption)) (aA rfl rfl)) ∅) ∅) λ_=>aC (aQ (a:=false) (b:=true) (DO (a:=a.Pc) (aJ hI K.s.k (aA rfl rfl) ∅ rfl) λh H=>by replace H:=hI▸H;exact H.pc) λw=>by injection w) rfl) rfl) ?_) (λb w=>by rwa[hI];exact w) ?_
 . refine aP (vY (pW (J:=aK a line (p+1) st tok) (cQ.sio hI K.s.k) K.s.rd (by rfl) (by rwa[hI];exact fR) (aJ hI K.s.k (aA rfl rfl) ∅ rfl) (bY aG) (.inr ⟨_,_,rfl,λ_=>rfl⟩) (OA hI K.s hz hc) ∅) ∅) (λb w=>by rwa[hI];exact w) hU
 have hI2:(C.turn (aK a line (p+1) st tok)).I=aK a line (p+1) st tok:=rfl
 refine aP (bB (bZ (b:=false) (aC (aH (aA rfl rfl) aT cL) (QB h10)) bQ)) (λ_ w=>w) ?_
 exact aP (bB (bZ (b:=false) (aC (aH (aJ hI2 (K.s.k.turn _) (aA rfl rfl) ∅ rfl) aG dM) ∅) bQ)) (λ_ w=>w) h
end
section
variable{C:Cx}{n:Nat}{sc:Scope}{δ:List (Str×D)}{a:gU}{line:Str}{p:Nat}{st st':D}{tok tok':Str}
theorem aO{s:Stmt}{o:MO}(h:M1 C n sc δ s o):MX C n sc δ [s] o:=by
 cases o with
 | nxt I δ' =>
  refine⟨λA B env X s1 Q E O bo hq=>wpAny_execs_cons (h.go A B env X s1 _ _ O bo λfl s2 k2 o2=>?_)⟩
  obtain rfl|O2:=bW o2
  exact wpAny_execs_nil (hq _ s2 k2 ⟨rfl,O2⟩)
 | brk=>exact iT h trivial
 | cont=>exact iT h trivial
 | ret=>exact iT h trivial
theorem lT(hI:C.I=aK a line p st tok)(k:qQ C a){o e:PySem.Expr}{name:Str}{ap pos:Pos}{d:D}(hm:name∈nC)(he:Ev C n sc δ e d)(hd:d.flat=true)(ho:Ev C n sc δ o (.ptr a.L))(hin:((rT a st tok).lookup name).isSome=true)(hu:∀y,(rT a st' tok').lookup y=(pT name d (rT a st tok)).lookup y)
 (hs:∀env,swapsWith e (some (.Attribute o name ap)) pos.line env=pure false:=by intro _;rfl):M1 C n sc δ (.Assign [.Attribute o name ap] e pos) (.nxt (aK a line p st' tok') δ) :=
 lS (k:=60) (x:=a.L) (dx:=a.dL) (Cl:=a.CL) (fs:=rT a st tok) (cQ.lex hI k).hi k.cl (hW (k.fl _ hm)) ∅ hin he hd ho (by rwa[hI];exact .inr (.inl rfl)) (.inr trivial)
  (λh h' H sb F=>by replace H:=hI▸H;exact H.storeL k.dd sb F hu) (λb=>by rwa[hI];exact Iff.rfl) (λb q=>q.elim) hs
theorem DS(hI:C.I=aK a line p st tok)(k:qQ C a){o e:PySem.Expr}{ap pos:Pos}{x:Str}(he:Ev C n sc δ e (.str x))(ho:Ev C n sc δ o (.ptr a.L))(hz:tok.length+x.length<=sizeLine):M1 C n sc δ (.AugAssign (.Attribute o ("token":Str) ap) .Add e pos) (.nxt (aK a line p st (tok++x)) δ) :=
 tD (k:=60) (x:=a.L) (dx:=a.dL) (Cl:=a.CL) (fs:=rT a st tok) (a:=tok) (cQ.lex hI k).hi k.cl (hW (k.fl _ ∅)) (k.fl _ ∅) ∅ rfl he ho hz (by rwa[hI];exact .inr (.inl rfl))
  (λh h' H sb F=>by replace H:=hI▸H;exact H.storeL k.dd sb F λy=>rfl) (λb=>by rwa[hI];exact Iff.rfl) (λb q=>q.elim)
noncomputable def NC(x:Str)(c:Nat):Bool:=!(Builtin.Str.occurrences x (ch c) 0 x.length 1).isEmpty
theorem dA(x:Str)(c:Nat):NC x c=decide (c∈x.cps.toList):=StrLaws.found_one x c
noncomputable def rV:List Nat:=cI.filter (· != 39)
theorem lU:∀c∈rV,NC " \t\r\n" c=false/\NC "#" c=false/\NC "\\" c=false/\NC WC c=true/\NC "'\"" c=false/\c≠10/\c≠39/\c≠34:=by simp only[dA];decide +kernel
noncomputable def zA(a:gU)(q:Bool)(c:Str):List (Str×D):=("nextchar",.str c)::DR a q
variable{fr fc fi pp fg:Addr}{rest:List Value}
theorem iA{l r:PySem.Expr}{pos:Pos}{c:Nat}{x:Str}{b:Bool}(hl:Ev C n sc δ l (.str (ch c)))(hr:Ev C n sc δ r (.str x))(hb:NC x c=b)(hm:behindInMarks .In r=false:=by with_unfolding_all rfl):Ts C n sc δ (.Compare l [.In] [r] pos) b:=aC (aH hl hr gM hm) hb
theorem lV{e:PySem.Expr}{c:Nat}{pos:Pos}(h1:Ev C n sc δ e (.str (ch c)))(he:∀env whole,isTrue e env whole=(do let v ←whole;standAt e.pos;holding [v] (truthy v)):=by intro _ _;rfl):Ts C n sc δ (.UnaryOp .Not e pos) false:=aC (oN (mX h1 (by show 1<=1000;decide) he)) (by show (!(((1:Nat):Int) != 0))=false;decide)
theorem nE(hI:C.I=aK a line p st tok)(k:qQ C a){o:PySem.Expr}{ap:Pos}(ho:Ev C n sc δ o (.ptr a.L))(he:∀env whole,isTrue (.Attribute o ("posix":Str) ap) env whole=(do let v ←whole;standAt (PySem.Expr.Attribute o ("posix":Str) ap).pos;holding [v] (truthy v)):=by intro _ _;rfl)
 (he2:∀env,eval (.Attribute o ("posix":Str) ap) env=(do
  let o' ←eval o env
  standAt ap.atName
  let r ←holding [o'] (getAttr o' ("posix":Str) true)
  letTemporaryGo o o' r
  pure r):=by intro _;with_unfolding_all rfl):Ts C n sc δ (.Attribute o ("posix":Str) ap) true:=eN (aJ hI k ho ∅ rfl he2) he
theorem iY(hI:C.I=aK a line p st tok)(k:qQ C a){o l r:PySem.Expr}{ap p1 p2:Pos}{c:Nat}{x:Str}{b:Bool}(ho:Ev C n sc δ o (.ptr a.L))(hl:Ev C n sc δ l (.str (ch c)))(hr:Ev C n sc δ r (.str x))(hb:NC x c=b)(hm:behindInMarks .In r=false:=by with_unfolding_all rfl)(he:∀env whole,isTrue (.Attribute o ("posix":Str) ap) env whole=(do let v ←whole;standAt (PySem.Expr.Attribute o ("posix":Str) ap).pos;holding [v] (truthy v)):=by intro _ _;rfl)
 (he2:∀env,eval (.Attribute o ("posix":Str) ap) env=(do
  let o' ←eval o env
  standAt ap.atName
  let r ←holding [o'] (getAttr o' ("posix":Str) true)
  letTemporaryGo o o' r
  pure r):=by intro _;with_unfolding_all rfl):Ts C n sc δ (.BoolOp .And [.Attribute o ("posix":Str) ap,.Compare l [.In] [r] p1] p2) b :=
 aC (aQ (nE hI k ho he he2) λ_=>aQ (iA hl hr hb hm) λ_=>jL) (by simp)
theorem wQ(hI:C.I=aK a line p (.str " ") tok)(K:yY C a fr fc fi pp fg rest){c:Nat}(hc:c∈rV)(q:Bool):MX C n GF (zA a q (ch c)) (iP.drop 3) (.nxt (aK a line p (.str "a") (ch c)) (zA a q (ch c))):=by
 rcases YV (lU c hc) with w1|w2|w3|w4|_
 have k:=K.s.k
 refine aO (aW (b:=false) (aC (aH (aJ hI k (aA rfl rfl) ∅ rfl) cB cH) rfl) ?_)
 refine aO (aW (b:=true) (aC (aH (aJ hI k (aA rfl rfl) ∅ rfl) aT cL) ∅) ?_)
 refine aO (aW (b:=false) (lV (aA rfl rfl)) ?_)
 refine aO (aW (b:=false) (iA (aA rfl rfl) (aJ hI k (aA rfl rfl) ∅ rfl) w1) ?_)
 refine aO (aW (b:=false) (iA (aA rfl rfl) (aJ hI k (aA rfl rfl) ∅ rfl) w2) ?_)
 refine aO (aW (b:=false) (iY hI k (aA rfl rfl) (aA rfl rfl) (aJ hI k (aA rfl rfl) ∅ rfl) w3) ?_)
 refine aO (aW (b:=true) (iA (aA rfl rfl) (aJ hI k (aA rfl rfl) ∅ rfl) w4) ?_)
 refine aP (lT (st':=.str " ") (tok':=ch c) hI k ∅ (aA rfl rfl) rfl (aA rfl rfl) rfl λy=>rfl) (λb q=>by rwa[hI];exact q) ?_
 exact aO (lT (C:=C.turn (aK a line p (.str " ") (ch c))) (st:=.str " ") (tok:=ch c) (st':=.str "a") (tok':=ch c) rfl (k.turn _) ∅ aT rfl (aA rfl rfl) rfl λy=>rfl)
theorem zC(hI:C.I=aK a line p (.str " ") tok)(K:yY C a fr fc fi pp fg rest)(hn:2<=n)(q:Bool):MX C n GF (zA a q (ch 39)) (iP.drop 3) (.nxt (aK a line p (.str (ch 39)) tok) (zA a q (ch 39))):=by
 have k:=K.s.k
 refine aO (aW (b:=false) (aC (aH (aJ hI k (aA rfl rfl) ∅ rfl) cB cH) rfl) ?_)
 refine aO (aW (b:=true) (aC (aH (aJ hI k (aA rfl rfl) ∅ rfl) aT cL) ∅) ?_)
 refine aO (aW (b:=false) (lV (aA rfl rfl)) ?_)
 refine aO (aW (b:=false) (iA (aA rfl rfl) (aJ hI k (aA rfl rfl) ∅ rfl) (by rwa[dA ..];decide +kernel)) ?_)
 refine aO (aW (b:=false) (iA (aA rfl rfl) (aJ hI k (aA rfl rfl) ∅ rfl) (by rwa[dA ..];decide +kernel)) ?_)
 refine aO (aW (b:=false) (iY hI k (aA rfl rfl) (aA rfl rfl) (aJ hI k (aA rfl rfl) ∅ rfl) (by rwa[dA ..];decide +kernel)) ?_)
 refine aO (aW (b:=false) (iA (aA rfl rfl) (aJ hI k (aA rfl rfl) ∅ rfl) (by rwa[dA ..];decide +kernel)) ?_)
 refine aO (aW (b:=false) (iA (aA rfl rfl) (tF hI K hn (aA rfl rfl)) (by rwa[dA ..];decide +kernel)) ?_)
 refine aO (aW (b:=true) (iA (aA rfl rfl) (aJ hI k (aA rfl rfl) ∅ rfl) (by rwa[dA ..];decide +kernel)) ?_)
 refine aP (aW (b:=false) (aC (oN (nE hI k (aA rfl rfl))) rfl) hU) (λ_ q=>q) ?_
 exact aO (lT (st':=.str (ch 39)) (tok':=tok) hI k ∅ (aA rfl rfl) rfl (aA rfl rfl) rfl λy=>rfl)
theorem wR(k0:Nat)(hk:k0=39\/k0=34)(hI:C.I=aK a line p (.str (ch k0)) tok)(K:yY C a fr fc fi pp fg rest)(q:Bool):MX C n GF (zA a q (ch k0)) (iP.drop 3) (.nxt (aK a line p (.str "a") tok) (("quoted",.bool true)::zA a q (ch k0))):=by
 have k:=K.s.k
 refine aO (aW (b:=false) (aC (aH (aJ hI k (aA rfl rfl) ∅ rfl) cB cH) rfl) ?_)
 refine aO (aW (b:=false) (aC (aH (aJ hI k (aA rfl rfl) ∅ rfl) aT cL) (by rcases hk with rfl | rfl<;>decide +kernel)) ?_)
 refine aO (aW (b:=true) (iA (aJ hI k (aA rfl rfl) ∅ rfl) (aJ hI k (aA rfl rfl) ∅ rfl) (by rwa[dA ..];rcases hk with rfl | rfl<;>decide +kernel)) ?_)
 refine aP (bB (bS (d:=.bool true) dJ ∅)) (λ_ q=>q) ?_
 refine aP (aW (b:=false) (lV (aA rfl rfl)) hU) (λ_ q=>q) ?_
 refine aO (aW (b:=true) (aC (aH (aA rfl rfl) (aJ hI k (aA rfl rfl) ∅ rfl) cL) (by exact if_pos rfl)) ?_)
 refine aO (aW (b:=false) (aC (oN (nE hI k (aA rfl rfl))) rfl) ?_)
 exact aO (lT (st':=.str "a") (tok':=tok) hI k ∅ aT rfl (aA rfl rfl) rfl λy=>rfl)
theorem zD(k0:Nat)(hk:k0=39\/k0=34)(hI:C.I=aK a line p (.str (ch k0)) tok)(K:yY C a fr fc fi pp fg rest){c:Nat}(hc:NC "\\" c=false)(hne:c≠k0)(hz:tok.length<=1000)(q:Bool):MX C n GF (zA a q (ch c)) (iP.drop 3) (.nxt (aK a line p (.str (ch k0)) (tok++ch c)) (("quoted",.bool true)::zA a q (ch c))):=by
 have k:=K.s.k
 refine aO (aW (b:=false) (aC (aH (aJ hI k (aA rfl rfl) ∅ rfl) cB cH) rfl) ?_)
 refine aO (aW (b:=false) (aC (aH (aJ hI k (aA rfl rfl) ∅ rfl) aT cL) (by rcases hk with rfl | rfl<;>decide +kernel)) ?_)
 refine aO (aW (b:=true) (iA (aJ hI k (aA rfl rfl) ∅ rfl) (aJ hI k (aA rfl rfl) ∅ rfl) (by rwa[dA ..];rcases hk with rfl | rfl<;>decide +kernel)) ?_)
 refine aP (bB (bS (d:=.bool true) dJ ∅)) (λ_ q=>q) ?_
 refine aP (aW (b:=false) (lV (aA rfl rfl)) hU) (λ_ q=>q) ?_
 refine aO (aW (b:=false) (aC (aH (aA rfl rfl) (aJ hI k (aA rfl rfl) ∅ rfl) cL) (QB hne)) ?_)
 refine aO (aW (b:=false) (aC (aQ (a:=true) (b:=false) (nE hI k (aA rfl rfl)) λ_=>aQ (a:=false) (b:=true) (iA (aA rfl rfl) (aJ hI k (aA rfl rfl) ∅ rfl) hc) λw=>by injection w) rfl) ?_)
 exact aO (DS hI k (aA rfl rfl) (aA rfl rfl) (by show tok.length+1<=sizeLine;rwa[sizeLine_eq];exact Nat.lt_of_le_of_lt (by assumption) ∅))
end
section
variable{C:Cx}{n:Nat}{sc:Scope}{δ:List (Str×D)}{a:gU}{line:Str}{p:Nat}{st st':D}{tok tok':Str}{fr fc fi pp fg:Addr}{rest:List Value}
theorem nY(x y:Str)(c:Nat)(h:y=ch c):(!(Builtin.Str.occurrences x y 0 x.length 1).isEmpty)=decide (c∈x.cps.toList):=by rwa[h];exact dA x c
theorem GG:("a":Str)=ch 97:=∅
theorem GI(hI:C.I=aK a line p (.str "a") tok)(K:yY C a fr fc fi pp fg rest)(ht:1<=tok.length/\tok.length<=1000)(q:Bool):MX C n GF (zA a q (ch 32)) (iP.drop 3) (.brk (aK a line p (.str " ") tok) (zA a q (ch 32))):=by
 have k:=K.s.k
 refine aO (aW (b:=false) (aC (aH (aJ hI k (aA rfl rfl) ∅ rfl) cB cH) rfl) ?_)
 refine aO (aW (b:=false) (aC (aH (aJ hI k (aA rfl rfl) ∅ rfl) aT cL) ∅) ?_)
 refine aO (aW (b:=false) (aC (aH (aJ hI k (aA rfl rfl) ∅ rfl) (aJ hI k (aA rfl rfl) ∅ rfl) gM) (by rwa[nY _ _ 97 GG];decide +kernel)) ?_)
 refine aO (aW (b:=false) (aC (aH (aJ hI k (aA rfl rfl) ∅ rfl) (aJ hI k (aA rfl rfl) ∅ rfl) gM) (by rwa[nY _ _ 97 GG];decide +kernel)) ?_)
 refine aO (aW (b:=true) (aC (oW (aJ hI k (aA rfl rfl) ∅ rfl) (aF aT (aF aT bM))) ∅) ?_)
 refine aO (aW (b:=false) (lV (aA rfl rfl)) ?_)
 refine aO (aW (b:=true) (iA (aA rfl rfl) (aJ hI k (aA rfl rfl) ∅ rfl) (by rwa[dA ..];decide +kernel)) ?_)
 refine aP (bB (bZ (b:=false) (aC (aH (aJ hI k (aA rfl rfl) ∅ rfl) aG dM) ∅) bQ)) (λ_ w=>w) ?_
 refine aP (lT (st':=.str " ") (tok':=tok) hI k ∅ aT rfl (aA rfl rfl) rfl λy=>rfl) (λb q=>by rwa[hI];exact q) ?_
 have hI2:(C.turn (aK a line p (.str " ") tok)).I=aK a line p (.str " ") tok:=rfl
 refine aO (aW (b:=true) (aC (fA (a:=true) (b:=true) (aC (mX (aJ hI2 (k.turn _) (aA rfl rfl) ∅ rfl) ht.2) (by simp;lia)) λw=>by injection w) rfl) ?_)
 exact aO JD
theorem wS(hI:C.I=aK a line p (.str "a") tok)(K:yY C a fr fc fi pp fg rest){c:Nat}(hc:c=39\/c=34)(q:Bool):MX C n GF (zA a q (ch c)) (iP.drop 3) (.nxt (aK a line p (.str (ch c)) tok) (zA a q (ch c))):=by
 have k:=K.s.k
 refine aO (aW (b:=false) (aC (aH (aJ hI k (aA rfl rfl) ∅ rfl) cB cH) rfl) ?_)
 refine aO (aW (b:=false) (aC (aH (aJ hI k (aA rfl rfl) ∅ rfl) aT cL) ∅) ?_)
 refine aO (aW (b:=false) (aC (aH (aJ hI k (aA rfl rfl) ∅ rfl) (aJ hI k (aA rfl rfl) ∅ rfl) gM) (by rwa[nY _ _ 97 GG];decide +kernel)) ?_)
 refine aO (aW (b:=false) (aC (aH (aJ hI k (aA rfl rfl) ∅ rfl) (aJ hI k (aA rfl rfl) ∅ rfl) gM) (by rwa[nY _ _ 97 GG];decide +kernel)) ?_)
 refine aO (aW (b:=true) (aC (oW (aJ hI k (aA rfl rfl) ∅ rfl) (aF aT (aF aT bM))) ∅) ?_)
 refine aO (aW (b:=false) (lV (aA rfl rfl)) ?_)
 refine aO (aW (b:=false) (iA (aA rfl rfl) (aJ hI k (aA rfl rfl) ∅ rfl) (by rwa[dA ..];rcases hc with rfl | rfl<;>decide +kernel)) ?_)
 refine aO (aW (b:=false) (iA (aA rfl rfl) (aJ hI k (aA rfl rfl) ∅ rfl) (by rwa[dA ..];rcases hc with rfl | rfl<;>decide +kernel)) ?_)
 refine aO (aW (b:=false) (aC (aH (aJ hI k (aA rfl rfl) ∅ rfl) aT cL) ∅) ?_)
 refine aO (aW (b:=true) (iY hI k (aA rfl rfl) (aA rfl rfl) (aJ hI k (aA rfl rfl) ∅ rfl) (by rwa[dA ..];rcases hc with rfl | rfl<;>decide +kernel)) ?_)
 exact aO (lT (st':=.str (ch c)) (tok':=tok) hI k ∅ (aA rfl rfl) rfl (aA rfl rfl) rfl λy=>rfl)
theorem zE(hI:C.I=aK a line p (.str "a") tok)(K:yY C a fr fc fi pp fg rest){c:Nat}(hc:c∈rV)(ht:tok.length<=1000)(q:Bool):MX C n GF (zA a q (ch c)) (iP.drop 3) (.nxt (aK a line p (.str "a") (tok++ch c)) (zA a q (ch c))):=by
 rcases YW (lU c hc) with w1|w2|w3|w4|w5|_
 have k:=K.s.k
 refine aO (aW (b:=false) (aC (aH (aJ hI k (aA rfl rfl) ∅ rfl) cB cH) rfl) ?_)
 refine aO (aW (b:=false) (aC (aH (aJ hI k (aA rfl rfl) ∅ rfl) aT cL) ∅) ?_)
 refine aO (aW (b:=false) (aC (aH (aJ hI k (aA rfl rfl) ∅ rfl) (aJ hI k (aA rfl rfl) ∅ rfl) gM) (by rwa[nY _ _ 97 GG];decide +kernel)) ?_)
 refine aO (aW (b:=false) (aC (aH (aJ hI k (aA rfl rfl) ∅ rfl) (aJ hI k (aA rfl rfl) ∅ rfl) gM) (by rwa[nY _ _ 97 GG];decide +kernel)) ?_)
 refine aO (aW (b:=true) (aC (oW (aJ hI k (aA rfl rfl) ∅ rfl) (aF aT (aF aT bM))) ∅) ?_)
 refine aO (aW (b:=false) (lV (aA rfl rfl)) ?_)
 refine aO (aW (b:=false) (iA (aA rfl rfl) (aJ hI k (aA rfl rfl) ∅ rfl) w1) ?_)
 refine aO (aW (b:=false) (iA (aA rfl rfl) (aJ hI k (aA rfl rfl) ∅ rfl) w2) ?_)
 refine aO (aW (b:=false) (aC (aH (aJ hI k (aA rfl rfl) ∅ rfl) aT cL) ∅) ?_)
 refine aO (aW (b:=false) (iY hI k (aA rfl rfl) (aA rfl rfl) (aJ hI k (aA rfl rfl) ∅ rfl) w5) ?_)
 refine aO (aW (b:=false) (iY hI k (aA rfl rfl) (aA rfl rfl) (aJ hI k (aA rfl rfl) ∅ rfl) w3) ?_)
 refine aO (aW (b:=true) (aC (fA (a:=true) (b:=true) (iA (aA rfl rfl) (aJ hI k (aA rfl rfl) ∅ rfl) w4) λw=>by injection w) rfl) ?_)
 exact aO (DS hI k (aA rfl rfl) (aA rfl rfl) (by show tok.length+1<=sizeLine;rwa[sizeLine_eq];exact Nat.lt_of_le_of_lt (by assumption) ∅))
end
inductive LS where
 | sp
 | wd
 | q (k:Nat)
noncomputable def LS.d:LS->D
 | .sp=>.str " "
 | .wd=>.str "a"
 | .q k=>.str (ch k)
structure LX where
 s:LS
 t:Str
 q:Bool
noncomputable def JQ(c:Nat):Bool:=c==39||c==34
noncomputable def LX.step(x:LX)(c:Nat):LX:=match x.s with
 | .sp=>if JQ c then ⟨.q c,x.t,x.q⟩ else ⟨.wd,ch c,x.q⟩
 | .wd=>if JQ c then ⟨.q c,x.t,x.q⟩ else ⟨.wd,x.t++ch c,x.q⟩
 | .q k=>if c=k then ⟨.wd,x.t,true⟩ else ⟨.q k,x.t++ch c,true⟩
noncomputable def ST:LS->Nat->Prop
 | .sp,c=>c∈rV\/c=39
 | .wd,c=>c∈rV\/c=39\/c=34
 | .q k,c=>(k=39\/k=34)/\NC "\\" c=false/\c≠10
noncomputable def LX.zero:LX:=⟨.sp,"",false⟩
noncomputable def LX.after(body:List Nat)(i:Nat):LX:=(body.take i).foldl LX.step LX.zero
theorem LX.after_succ{body:List Nat}{i c:Nat}(h:body[i]?=some c):LX.after body (i+1)=(LX.after body i).step c:=by
 unfold LX.after
 rwa[List.take_add_one,h,List.foldl_append];rfl
theorem JR(x:LX)(c:Nat):(x.step c).t.length<=x.t.length+1:=by
 have e:∀t:Str,(t++ch c).length=t.length+1:=λt=>iS t (ch c)
 have e1:(ch c).length=1:=rfl
 unfold LX.step
 cases x.s<;>dsimp only<;>split<;>simp[e,e1]
theorem oA(body:List Nat):∀i,(LX.after body i).t.length<=i
 | 0=>by unfold LX.after;exact Nat.le_refl 0
 | i+1=>by
  have ih:=oA body i
  cases h:body[i]? with
  | none =>
   have e:LX.after body (i+1)=LX.after body i:=by unfold LX.after;rwa[List.take_add_one,h];simp
   rwa[e];exact Nat.le_succ_of_le (by assumption)
  | some c =>
   rwa[LX.after_succ h]
   have:=JR (LX.after body i) c
   lia
theorem OB{s:LS}{c:Nat}(h:ST s c):c≠10:=by
 cases s with
 | sp =>
  rcases h with h | rfl
  . exact (lU c h).2.2.2.2.2.1
  . decide
 | wd =>
  rcases h with h | rfl | rfl
  . exact (lU c h).2.2.2.2.2.1
  . decide
  . decide
 | q k=>exact h.2.2
theorem qS(x:Str):("":Str)++x=x:=by
 apply Str.ext'
 show #[]++x.cps=x.cps
 simp
section
variable{C:Cx}{n:Nat}{sc:Scope}{δ:List (Str×D)}{a:gU}{line:Str}{p:Nat}{st st':D}{tok tok':Str}{fr fc fi pp fg:Addr}{rest:List Value}
noncomputable def qT(a:gU)(line:Str)(p:Nat)(x:LX):bX:=aK a line p x.s.d x.t
theorem DT(x:LX)(hI:C.I=qT a line p x)(K:yY C a fr fc fi pp fg rest)(hn:8<=n)(hz:line.length<=1000){c:Nat}(hc:line.cps[p]?=some c)(hok:ST x.s c)(ht:x.t.length<=1000) :
 MX C n GF (DR a x.q) iP (.nxt (qT a line (p+1) (x.step c)) (DR a (x.step c).q)):=by
 have h10:=OB hok
 obtain⟨s,t,q⟩:=x
 have w1:∀y d,(DR a q).lookup y=some d->(zA a q (ch c)).lookup y=some d:=aM rfl (aM rfl (aM rfl eA))
 have w2:∀y d,(DR a true).lookup y=some d->((("quoted",.bool true)::zA a q (ch c)):List (Str×D)).lookup y=some d:=aM rfl (aM rfl (aM rfl eA))
 refine yZ hI K hn hz hc h10 q ?_
 cases s with
 | sp =>
  rcases hok with h | rfl
  . rcases UV (lU c h) with _|_|_|_|_|_|h39|h34
    have e:JQ c=false:=by simp[JQ,h39,h34]
    have e':LX.step ⟨.sp,t,q⟩ c=⟨.wd,ch c,q⟩:=by unfold LX.step;dsimp only;rwa[e];rfl
    rwa[e']
    exact kC (wQ (C:=C.turn (aK a line (p+1) (.str " ") t)) rfl (K.turn _) h q) w1
  . have e':LX.step ⟨.sp,t,q⟩ 39=⟨.q 39,t,q⟩:=rfl
    rwa[e']
    exact kC (zC (C:=C.turn (aK a line (p+1) (.str " ") t)) rfl (K.turn _) (by exact Nat.le_trans (Nat.le_add_left ..) (by assumption)) q) w1
 | wd =>
  have quote:∀c',c'=c->(c'=39\/c'=34)->MX (C.turn (aK a line (p+1) (LS.d .wd) t)) n GF (("nextchar",D.str (ch c))::DR a q) (iP.drop 3) (.nxt (qT a line (p+1) (LX.step ⟨.wd,t,q⟩ c)) (DR a (LX.step ⟨.wd,t,q⟩ c).q)):=by
   rintro c' rfl h
   have e:JQ c'=true:=by rcases h with rfl | rfl<;>rfl
   have e':LX.step ⟨.wd,t,q⟩ c'=⟨.q c',t,q⟩:=by unfold LX.step;dsimp only;rwa[e];rfl
   rwa[e']
   exact kC (wS (C:=C.turn (aK a line (p+1) (.str "a") t)) rfl (K.turn _) h q) w1
  rcases hok with h | h | h
  . rcases UV (lU c h) with _|_|_|_|_|_|h39|h34
    have e:JQ c=false:=by simp[JQ,h39,h34]
    have e':LX.step ⟨.wd,t,q⟩ c=⟨.wd,t++ch c,q⟩:=by unfold LX.step;dsimp only;rwa[e];rfl
    rwa[e']
    exact kC (zE (C:=C.turn (aK a line (p+1) (.str "a") t)) rfl (K.turn _) h ht q) w1
  . exact quote c rfl (.inl h)
  . exact quote c rfl (.inr h)
 | q k =>
  obtain hk|h|_:=tZ hok
  by_cases hck:c=k
  . subst hck
    have e':LX.step ⟨.q c,t,q⟩ c=⟨.wd,t,true⟩:=by unfold LX.step;dsimp only;rwa[if_pos rfl];rfl
    rwa[e']
    exact kC (wR (C:=C.turn (aK a line (p+1) (.str (ch c)) t)) c hk rfl (K.turn _) q) w2
  . have e':LX.step ⟨.q k,t,q⟩ c=⟨.q k,t++ch c,true⟩:=by unfold LX.step;dsimp only;rwa[if_neg hck];rfl
    rwa[e']
    exact kC (zD (C:=C.turn (aK a line (p+1) (.str (ch k)) t)) k hk rfl (K.turn _) h hck ht q) w2
theorem OC{f:Addr}(hI:C.I=aK a line p (.str " ") "")(K:yY C a fr fc fi pp fg rest)(M:gI C f (fH 34 6) pl ["self"])(hn:8<=n)(hz:line.length<=1000)(body:List Nat)(w:Str)
 (hb:∀i c,body[i]?=some c->line.cps[p+i]?=some c/\ST (LX.after body i).s c) (hsp:line.cps[p+body.length]?=some 32) (hw:(LX.after body body.length).s=.wd/\(LX.after body body.length).t=w) (h1:1<=w.length) :
 Fc C (n+1) f pl [.ptr a.L] (aK a line (p+body.length+1) (.str " ") "") (.str w):=by
 have hlen:body.length<=1000:=by
  obtain⟨h,_⟩:=Array.getElem?_eq_some_iff.mp hsp
  have:line.length=line.cps.size:=rfl
  lia
 have hwl:w.length<=1000:=by
  have:=oA body body.length
  replace this:=hw.2▸this;exact Nat.le_trans (by assumption) (by assumption)
 refine vH (o:=.ret (aK a line (p+body.length+1) (.str " ") "") (.str w)) M rfl ∅ ?_ (.inl rfl)
 refine aP (bB (bS (d:=.bool false) dJ ∅)) (λ_ q=>q) ?_
 refine aP (bB (bS (d:=.str " ") aT ∅)) (λ_ q=>q) ?_
 refine aP (I:=aK a line (p+body.length+1) (.str " ") w) (δ':=zA a (LX.after body body.length).q (ch 32)) (sU (λi=>qT a line (p+i) (LX.after body i)) (λi=>DR a (LX.after body i).q) body.length ?_ ?_ (λi b q=>by rwa[hI];exact q) (λi hi=>eN dJ) (λi hi=>?_) ?_) (λb q=>by rwa[hI];exact q) ?_
 . rwa[hI];rfl
 . exact aM rfl (aM rfl (aM rfl eA))
 . obtain⟨c,hc⟩:∃c,body[i]?=some c:=⟨body[i],by simp[hi]⟩
   rcases bW (hb i c hc) with q1|q2
   have:=DT (C:=C.turn (qT a line (p+i) (LX.after body i))) (LX.after body i) rfl (K.turn _) hn hz q1 q2 (by have:=oA body i;lia)
   replace this:=(LX.after_succ hc).symm▸this
   exact .inl this
 . refine .inr ⟨eN dJ,.inl ⟨_,_,?_,rfl⟩⟩
   show MX _ n GF _ iP _
   obtain h1'|h2':=bW hw
   have e:qT a line (p+body.length) (LX.after body body.length)=aK a line (p+body.length) (.str "a") w:=by unfold qT;rwa[h1',h2'];rfl
   refine yZ (C:=C.turn (qT a line (p+body.length) (LX.after body body.length))) e (K.turn _) hn hz hsp ∅ _ ?_
   exact GI (C:=C.turn (aK a line (p+body.length+1) (.str "a") w)) rfl (K.turn _) ⟨h1,hwl⟩ _
 have k:=K.s.k
 have hI2:(C.turn (aK a line (p+body.length+1) (.str " ") w)).I=aK a line (p+body.length+1) (.str " ") w:=rfl
 refine aP (bB (bS (d:=.str w) (aJ hI2 (k.turn _) (aA rfl rfl) ∅ rfl) ∅)) (λ_ q=>q) ?_
 refine aP (lT (st':=.str " ") (tok':="") hI2 (k.turn _) ∅ aT rfl (aA rfl rfl) rfl λy=>rfl) (λb q=>q) ?_
 have hI3:(C.turn (aK a line (p+body.length+1) (.str " ") "")).I=aK a line (p+body.length+1) (.str " ") "":=rfl
 have hne:(w==("":Str))=false:=by
  have:w≠"":=λq=>by replace h1:=q▸h1;exact absurd h1 ∅
  simpa using this
 refine aP (bB (bZ (b:=false) (aC (aQ (a:=true) (nE hI3 (k.turn _) (aA rfl rfl)) λ_=>aQ (oN (eN (aA rfl rfl))) λ_=>aQ (a:=false) (b:=true) (aC (aH (aA rfl rfl) aT cL) hne) λw=>by injection w) (by simp)) bQ)) (λ_ q=>q) ?_
 refine aP (bB (bZ (b:=false) (aC (aH (aJ hI3 (k.turn _) (aA rfl rfl) ∅ rfl) aG qE) ∅) bQ)) (λ_ q=>q) ?_
 exact iT (qJ (aA rfl rfl)) trivial
end
section
variable{C:Cx}{n:Nat}{sc:Scope}{δ:List (Str×D)}{a:gU}{line:Str}{p:Nat}{st st':D}{tok tok':Str}{fr fc fi pp fg frt fgt:Addr}{rest:List Value}
theorem nG{x:Str}:Cm C n .Eq (.str x) .none false:=by
 refine⟨?_⟩
 intro A X s va vb Q E rm ra rb _ _ h
 (obtain _|rfl:=aU (bN ra));obtain rfl:=jE rb;exact EqNone.eq_str_none (h s (aE s))
structure ND(C:Cx)(a:gU)(fr fc fi pp fg frt fgt:Addr)(rest:List Value):Prop where
 r:yY C a fr fc fi pp fg rest
 rt:oC C a.CL "read_token" frt (fH 34 6) ["self"]
 gt:oC C a.CL "get_token" fgt (fH 34 5) ["self"]
theorem ND.turn(k:ND C a fr fc fi pp fg frt fgt rest)(I:bX):ND (C.turn I) a fr fc fi pp fg frt fgt rest:=⟨k.r.turn I,k.rt.turn I,k.gt.turn I⟩
theorem JS(K:ND C a fr fc fi pp fg frt fgt rest){p':Nat}{w:Str}(hI:C.I=aK a line p (.str " ") "")(hF:Fc C n frt pl [.ptr a.L] (aK a line p' (.str " ") "") (.str w)):Fc C (n+1) fgt pl [.ptr a.L] (aK a line p' (.str " ") "") (.str w):=by
 have k:=K.r.s.k
 refine vH (o:=.ret (aK a line p' (.str " ") "") (.str w)) K.gt.F rfl ∅ ?_ (.inl rfl)
 refine aP (bB (bZ (b:=false) (DO (a:=a.Pb) (aJ hI k (aA rfl rfl) ∅ rfl) λh H=>by replace H:=hI▸H;exact H.pb) bQ)) (λ_ q=>q) ?_
 refine aP (vY (pW (J:=aK a line p' (.str " ") "") (cQ.lex hI k) K.rt (by rfl) (by rwa[hI];exact fR) (aA rfl rfl) bM (.inl ⟨rfl,rfl⟩) hF ∅) ∅) (λb q=>by rwa[hI];exact q) ?_
 have hI2:(C.turn (aK a line p' (.str " ") "")).I=aK a line p' (.str " ") "":=rfl
 refine aP (bB (bZ (b:=false) (aC (aH (aJ hI2 (k.turn _) (aA rfl rfl) ∅ rfl) cB dG) rfl) bQ)) (λ_ q=>q) ?_
 refine aP (sU (λ_=>aK a line p' (.str " ") "") (λ_=>[("raw",.str w),("self",.ptr a.L)]) 0 rfl (aM rfl (aM rfl eA)) (λ_ _ q=>q) (λi hi=>absurd hi (Nat.not_lt_zero _)) (λi hi=>absurd hi (Nat.not_lt_zero _))
  (.inl ⟨aH (aA rfl rfl) (aJ hI2 (k.turn _) (aA rfl rfl) ∅ rfl) nG,rfl⟩)) (λ_ q=>q) ?_
 refine aP (bB (bZ (b:=false) (aC (aH (aJ hI2 (k.turn _) (aA rfl rfl) ∅ rfl) aG dM) ∅) bQ)) (λ_ q=>q) ?_
 exact iT (qJ (aA rfl rfl)) trivial
theorem OD(K:ND C a fr fc fi pp fg frt fgt rest){f:Addr}(F:gI C f (fH 34 10) pl ["self"]){p':Nat}{w:Str}(hI:C.I=aK a line p (.str " ") "")(hF:Fc C n fgt pl [.ptr a.L] (aK a line p' (.str " ") "") (.str w)):Fc C (n+1) f pl [.ptr a.L] (aK a line p' (.str " ") "") (.str w):=by
 have k:=K.r.s.k
 refine vH (o:=.ret (aK a line p' (.str " ") "") (.str w)) F rfl ∅ ?_ (.inl rfl)
 refine aP (vY (pW (J:=aK a line p' (.str " ") "") (cQ.lex hI k) K.gt (by rfl) (by rwa[hI];exact fR) (aA rfl rfl) bM (.inl ⟨rfl,rfl⟩) hF ∅) ∅) (λb q=>by rwa[hI];exact q) ?_
 have hI2:(C.turn (aK a line p' (.str " ") "")).I=aK a line p' (.str " ") "":=rfl
 refine aP (bB (bZ (b:=false) (aH (aA rfl rfl) (aJ hI2 (k.turn _) (aA rfl rfl) ∅ rfl) nG) bQ)) (λ_ q=>q) ?_
 exact iT (qJ (aA rfl rfl)) trivial
end
noncomputable def oX(l:List Env)(b:Addr):Prop:=b∈l.filterMap (·.frame)
noncomputable abbrev qU(cls:Value)(t:Addr)(tb:Value):Obj:={cls:=cls,data:=.fields #[.ref t,tb,.none,.none,.bool false,.none]}
noncomputable abbrev GJ(args:List Value):Obj:={cls:=.type "tuple",data:=.seq args.toArray}
noncomputable def dO(I:bX)(l:List Env)(h:Heap):Prop:=∀en∈l,en.scope.kind≠.module/\∃L o es ep,en.frame=some L/\¬I.own L/\h.get? L=some o/\o.data=.dict es ep
noncomputable def TH(tb:Value)(fl:Option Value)(h:Heap):Prop:=match fl with
 | none=>tb=.none
 | some x=>∃T oT ts,tb=.ref T/\h.get? T=some oT/\oT.data=.fields ts/\ts[3]?=some x
structure iI(Z:Addr->Prop)(I:bX)(l:List Env)(s0:Heap)(e t:Addr)(cls:Value)(args:List Value)(tb:Value)(fl:Option Value)(h:Heap):Prop where
 keep:∀b o,¬Z b->s0.get? b=some o->(¬oX l b->h.get? b=some o)/\∃sl,h.get? b=some {o with slots:=sl}
 iv:I.inv h
 fr:dO I l h
 ex:h.get? e=some (qU cls t tb)
 tp:h.get? t=some (GJ args)
 new:∀b o,¬Z b->s0.get? b=some o->b≠e/\b≠t/\tb≠.ref b
 no:¬I.own e/\¬I.own t/\∀b,tb=.ref b->¬I.own b
 te:tb≠.ref e
 tr:TH tb fl h
theorem dO.fun{I:bX}{l:List Env}{h:Heap}(x:dO I l h):h.FunFrames (default:Heap) l:=by
 induction l with
 | nil=>trivial
 | cons en r ih =>
  rcases bW (x en (.head _)) with k|q_0;obtain L|o|es|ep|h1|h2|h3|h4:=uS q_0
  exact⟨k,⟨L,o,h1,rfl,h3,λvs q=>by injection tq h4 q⟩,ih λe he=>x e (.tail _ he)⟩
theorem dO.at{I:bX}{l:List Env}{h h':Heap}(x:dO I l h)(k:∀b o es ep,¬I.own b->h.get? b=some o->o.data=.dict es ep->∃o',h'.get? b=some o'/\o'.data=o.data):dO I l h':=λen he=>by
 rcases bW (x en he) with kk|q_0;obtain L|o|es|ep|h1|h2|h3|h4:=uS q_0
 rcases aL (k L o es ep h2 h3 h4) with o'|q1|q2
 exact⟨kk,L,o',es,ep,h1,h2,q1,q2.trans h4⟩
theorem dO.mem{I:bX}{l:List Env}{h:Heap}(x:dO I l h){b:Addr}(hb:oX l b):¬I.own b/\∃o es ep,h.get? b=some o/\o.data=.dict es ep:=by
 rcases aL (List.mem_filterMap.mp hb) with en|he|hf
 rcases bW (x en he) with _|q_0;obtain L|o|es|ep|h1|h2|h3|h4:=uS q_0
 have h_:=sx hf h1;clear h1;subst h_
 exact⟨h2,o,es,ep,h3,h4⟩
section
variable{M:Model}{A:Around}{E:Value->Shared->Prop}{s:Shared}{Z:Addr->Prop}{I:bX}{l outer:List Env}{env:Env}{s0:Heap}{e t L:Addr}{cls:Value}{args:List Value}{tb x:Value}{fl:Option Value}
theorem iI.turned{h h':Heap}{b0:Addr}{o0 o1:Obj}(F:iI Z I l s0 e t cls args tb fl h)(hb:h.get? b0=some o0)(hd:∃ts,o0.data=.fields ts)(h0:h'.get? b0=some o1)(off:∀b,b≠b0->h'.get? b=h.get? b)(hn:∀o,¬Z b0->s0.get? b0≠some o)(hno:¬I.own b0){tb':Value}{fl':Option Value}
 (hex:h'.get? e=some (qU cls t tb')) (hnew:∀b o,¬Z b->s0.get? b=some o->tb'≠.ref b) (hno':∀b,tb'=.ref b->¬I.own b) (hte:tb'≠.ref e) (htr:TH tb' fl' h'):iI Z I l s0 e t cls args tb' fl' h':=by
 obtain ts|hd:=aU hd
 refine⟨λb o hz q=>?_,I.at_ _ _ F.iv λb o ob q=>?_,F.fr.at λb o es ep _ q1 q2=>⟨o,?_,rfl⟩,hex,?_,λb o hz q=>⟨(F.new b o hz q).1,(F.new b o hz q).2.1,hnew b o hz q⟩,⟨F.no.1,F.no.2.1,hno'⟩,hte,htr⟩
 . have ne:b≠b0:=λz=>hn o (z▸hz) (z▸q)
   rwa[off b ne];exact F.keep b o hz q
 . exact (off b λz=>hno (z▸ob)).trans q
 . exact (off b λz=>by replace q1:=hb▸z▸q1;obtain rfl:=Option.some.inj q1;injection tq hd q2).trans q1
 . exact (off t λz=>by have:=F.tp;replace this:=hb▸z▸this;obtain rfl:=Option.some.inj this;injection hd).trans F.tp
theorem iI.note{Q:Unit->Shared->Prop}(hfr:A.frames=some (env::outer))(hf:env.frame=some L)(F:iI Z I (env::outer) s0 e t cls args tb fl s.heap)(hfl:fl=none\/fl=some .none\/fl=some (rawInt L))
 (h:∀h' tb',iI Z I (env::outer) s0 e t cls args tb' (some (rawInt L)) h'->Q () {s with heap:=h'}):wpAny M A (noteFrame (.ref e) env) Q E s:=by
 have entry:∀(s:Shared) (tb:Value) (fl:Option Value) (hadNext:Bool),iI Z I (env::outer) s0 e t cls args tb fl s.heap->(∀h' tb',iI Z I (env::outer) s0 e t cls args tb' (some (rawInt L)) h'->Q () {s with heap:=h'}) ->
  wpAny M A (do let a ←frameOf env;let pl ←entryPlaceOf L hadNext;let b ←EntryCells.newEntry tb a .none (rawInt L) .none pl;setField (.ref e) 1 b) Q E s:=by
  intro s tb fl hadNext F h
  refine wpAny_bind (wpAny_frameOf_fun hfr F.fr.fun hf λh₁ hs₁=>?_)
  refine wpAny_bind (wpAny_entryPlaceOf λpl hpl=>?_)
  unfold EntryCells.newEntry newFields
  refine wpAny_bind (wpAny_newObj_type ?_ (hpl.sizeOk5 _ _ _ _ _))
  obtain⟨T,hT⟩:∃T,T=h₁.objs.size:=⟨_,rfl⟩
  obtain⟨oT,hoT⟩:∃oT:Obj,oT={cls:=.type "traceback",dict:=none,data:=.fields ([tb,.ref L,.none,rawInt L,.none]++(if pl.isEmpty then List.replicate 6 Value.none else pl)).toArray}:=⟨_,rfl⟩
  rwa[←hT,←hoT]
  have notF:∀b,¬oX (env::outer) b->h₁.get? b=s.heap.get? b:=λb hb=>hs₁.2.1 b hb
  have ene:¬oX (env::outer) e:=λhb=>by
   rcases bW (F.fr.mem hb) with _|q_0;obtain o|es|ep|q1|q2:=eU q_0
   have h_:=sx F.ex q1;clear q1;subst h_;injection q2
  have tne:¬oX (env::outer) t:=λhb=>by
   rcases bW (F.fr.mem hb) with _|q_0;obtain o|es|ep|q1|q2:=eU q_0
   have h_:=sx F.tp q1;clear q1;subst h_;injection q2
  have he₁:h₁.get? e=some (qU cls t tb):=(notF e ene).trans F.ex
  have he₂:=Heap.get?_push_of_some (h:=h₁) oT he₁
  refine wpAny_setField he₂ rfl (by simp) (h _ (.ref T) ?_)
  have hTe:T≠e:=by rwa[hT];exact Nat.ne_of_gt (Heap.lt_size he₁)
  have hoff:∀b,b≠e->((h₁.push oT).update e (Obj.mapFields (·.setIfInBounds 1 (Value.ref T)))).get? b=(h₁.push oT).get? b:=λb hb=>Heap.get?_update_other _ _ (Ne.symm hb)
  have up:∀b o,b≠e->h₁.get? b=some o->((h₁.push oT).update e (Obj.mapFields (·.setIfInBounds 1 (Value.ref T)))).get? b=some o:=λb o hb q=>(hoff b hb).trans (Heap.get?_push_of_some _ q)
  have hE:((h₁.push oT).update e (Obj.mapFields (·.setIfInBounds 1 (Value.ref T)))).get? e=some (qU cls t (.ref T)):=Heap.get?_update_self _ he₂ rfl
  have hTT:((h₁.push oT).update e (Obj.mapFields (·.setIfInBounds 1 (Value.ref T)))).get? T=some oT:=(hoff T hTe).trans (by rwa[hT];exact Heap.get?_push_size _ (by rwa[hoT];rfl))
  have sn:∀o,s.heap.get? T≠some o:=λo q=>by
   rcases aU (hs₁.2.2 T o q) with sl|q'
   exact absurd (Heap.lt_size q') (by rwa[hT];exact Nat.lt_irrefl _)
  have nOwn:¬I.own T:=λob=>by
   rcases aU (I.dom _ _ F.iv ob) with o|q
   exact sn o q
  refine⟨λb o hz q=>?_,I.at_ _ _ F.iv λb o ob q=>?_,F.fr.at λb o es ep _ q1 q2=>?_,hE,up t _ (λz=>?_) ((notF t tne).trans F.tp),λb o hz q=>⟨(F.new b o hz q).1,(F.new b o hz q).2.1,?_⟩,⟨F.no.1,F.no.2.1,λb q=>by (injection q with h_0;subst h_0);exact nOwn⟩,λz=>hTe (by injection z),⟨T,oT,_,rfl,hTT,by rwa[hoT];rfl,?_⟩⟩
  . rcases bW (F.keep b o hz q) with k1|q_0;obtain sl|k2:=aU q_0
    have ne:=(F.new b o hz q).1
    refine⟨λnf=>up b o ne ((notF b nf).trans (k1 nf)),?_⟩
    rcases aU (hs₁.2.2 b _ k2) with sl'|q'
    exact⟨sl',up b _ ne q'⟩
  . refine up b o (λz=>F.no.1 (z▸ob)) ((notF b λhb=>(F.fr.mem hb).1 ob).trans q)
  . rcases aU (hs₁.2.2 b o q1) with sl|q'
    exact⟨_,up b _ (λz=>by replace q1:=F.ex▸z▸q1;obtain rfl:=Option.some.inj q1;injection q2) q',rfl⟩
  . have:=F.ex;replace this:=F.tp▸z.symm▸this;cases this
  . intro z
    injection z with z
    rcases bW (F.keep b o hz q) with _|q_0;obtain sl|k2:=aU q_0
    exact sn _ (z▸k2)
  . rcases hpl with rfl | ⟨_,_,_,_,_,_,_,rfl⟩<;>rfl
 unfold noteFrame
 simp only[hf]
 have hd:(qU cls t tb).data=.fields #[.ref t,tb,.none,.none,.bool false,.none]:=rfl
 refine wpAny_bind (wpAny_field F.ex hd (x:=tb) rfl ?_)
 rcases hfl with rfl | hfl
 . have e0:tb=.none:=F.tr
   subst e0
   rwa[if_neg ∅]
   exact entry s _ _ _ F h
 . have hT:∃T oT ts x,tb=.ref T/\s.heap.get? T=some oT/\oT.data=.fields ts/\ts[3]?=some x/\fl=some x/\(x=.none\/x=rawInt L):=by
    rcases hfl with rfl | rfl
    . rcases tX F.tr with T|oT|ts|h1|h2|h3|h4;exact⟨T,oT,ts,_,h1,h2,h3,h4,rfl,.inl rfl⟩
    . rcases tX F.tr with T|oT|ts|h1|h2|h3|h4;exact⟨T,oT,ts,_,h1,h2,h3,h4,rfl,.inr rfl⟩
   obtain T|oT|ts|x|rfl|h2|h3|h4|rfl|hx:=UW hT
   rwa[if_pos (show (Value.ref T != Value.none)=true from by rfl)]
   refine wpAny_bind (wpAny_field h2 h3 h4 ?_)
   rcases hx with rfl | rfl
   . rwa[if_neg (show ¬((Value.none==rawInt L)=true) from by simp[rawInt])]
     refine wpAny_bind (wpAny_setField h2 h3 (Array.getElem?_eq_some_iff.mp h4).1 ?_)
     have off:∀b,b≠T->(s.heap.update T (Obj.mapFields (·.setIfInBounds 3 Value.none))).get? b=s.heap.get? b:=λb hb=>Heap.get?_update_other _ _ (Ne.symm hb)
     have hTe:T≠e:=λz=>F.te (by rwa[z];rfl)
     have h0:=Heap.get?_update_self (h:=s.heap) (Obj.mapFields (·.setIfInBounds 3 Value.none)) h2 (Obj.isFreed_of_fields (Obj.data_mapFields h3 _))
     refine entry {s with heap:=_} _ (some .none) _ (F.turned (fl':=some .none) h2 ⟨_,h3⟩ h0 off (λo hz q=>(F.new T o hz q).2.2 rfl) (F.no.2.2 T rfl) ((off e hTe.symm).trans F.ex) (λb o hz q=>(F.new b o hz q).2.2) F.no.2.2 F.te ⟨T,_,_,rfl,h0,Obj.data_mapFields h3 _,?_⟩) h
     have:=(Array.getElem?_eq_some_iff.mp h4).1
     simp[this]
   . rwa[if_pos (show (rawInt L==rawInt L)=true from by exact if_pos rfl)]
     exact wpAny_pure (h s.heap _ F)
theorem iI.flight{Q:Unit->Shared->Prop}{fo:Option Addr}(F:iI Z I l s0 e t cls args tb (some x) s.heap)(h:∀h',iI Z I l s0 e t cls args tb (some (fo.elim .none λf=>rawInt f)) h'->Q () {s with heap:=h'}):wpAny M A (setFlight (.ref e) fo) Q E s:=by
 rcases tX F.tr with T|oT|ts|rfl|h2|h3|h4
 have hd:(qU cls t (.ref T)).data=.fields #[.ref t,.ref T,.none,.none,.bool false,.none]:=rfl
 unfold setFlight
 refine wpAny_bind (wpAny_field F.ex hd (x:=.ref T) rfl ?_)
 rwa[if_pos (show (Value.ref T != Value.none)=true from by rfl)]
 refine wpAny_setField h2 h3 (Array.getElem?_eq_some_iff.mp h4).1 (h _ ?_)
 have off:∀b,b≠T->(s.heap.update T (Obj.mapFields (·.setIfInBounds 3 (fo.elim Value.none λf=>rawInt f)))).get? b=s.heap.get? b:=λb hb=>Heap.get?_update_other _ _ (Ne.symm hb)
 have hTe:T≠e:=λz=>F.te (by rwa[z];rfl)
 have h0:=Heap.get?_update_self (h:=s.heap) (Obj.mapFields (·.setIfInBounds 3 (fo.elim Value.none λf=>rawInt f))) h2 (Obj.isFreed_of_fields (Obj.data_mapFields h3 _))
 refine F.turned (fl':=some (fo.elim .none λf=>rawInt f)) h2 ⟨_,h3⟩ h0 off (λo hz q=>(F.new T o hz q).2.2 rfl) (F.no.2.2 T rfl) ((off e hTe.symm).trans F.ex) (λb o hz q=>(F.new b o hz q).2.2) F.no.2.2 F.te ⟨T,_,_,rfl,h0,Obj.data_mapFields h3 _,?_⟩
 have:=(Array.getElem?_eq_some_iff.mp h4).1
 simp[this]
theorem iI.leave{Q:Unit->Shared->Prop}(hfr:A.frames=some (env::outer))(hf:env.frame=some L)(F:iI Z I (env::outer) s0 e t cls args tb fl s.heap)(hfl:fl=none\/fl=some .none\/fl=some (rawInt L))
 (h:∀h' tb',iI Z I (env::outer) s0 e t cls args tb' (some .none) h'->Q () {s with heap:=h'}):wpAny M A (leaving env (.ref e)) Q E s:=by
 unfold leaving
 exact wpAny_bind (F.note hfr hf hfl λh' tb' F'=>iI.flight (s:={s with heap:=h'}) (fo:=none) F' λh'' F''=>h h'' tb' F'')
theorem iI.cameBack(hf:env.frame=some L)(F:iI Z I l s0 e t cls args tb (some x) s.heap)(h:∀h',iI Z I l s0 e t cls args tb (some (rawInt L)) h'->E (.ref e) {s with heap:=h'}):cameBackBy M A env E (.ref e) s:=by
 rcases tX F.tr with T|oT|ts|rfl|h2|h3|h4
 have hd:(qU cls t (.ref T)).data=.fields #[.ref t,.ref T,.none,.none,.bool false,.none]:=rfl
 unfold cameBackBy
 refine wpAny_bind (wpAny_field F.ex hd (x:=.ref T) rfl ?_)
 rwa[if_neg (by simp)]
 exact F.flight (fo:=env.frame) λh' F'=>h h' (by replace F':=hf▸F';exact F')
end
noncomputable def zF(env:Env)(b:Addr):Prop:=b=env.locals\/∃x,env.cells.lookup x=some b
noncomputable def Zs(I:bX)(env:Env)(b:Addr):Prop:=I.own b\/zF env b
structure xN(I:bX)(A:Around)(env:Env)(l:List Env)(h:Heap):Prop where
 hh:A.handled=none
 fs:A.frames=some (env::l)
 fr:env.frame=some env.locals
 ok:dO I l h
 off:∀b,oX l b->¬zF env b
noncomputable def Rz(I0:bX)(env:Env)(l:List Env)(s:Shared)(I:bX)(cls:Value)(txt:Str)(s':Shared)(ev:Value):Prop :=
 ∃e t tb fl tk h' tk',ev=.ref e/\s'={s with heap:=h',toks:=tk'}/\iI (Zs I0 env) I (env::l) s.heap e t cls [.str txt tk] tb fl h'/\(fl=none\/fl=some .none\/fl=some (rawInt env.locals))
noncomputable def Rf(I0:bX)(l:List Env)(s:Shared)(I:bX)(cls:Value)(txt:Str)(s':Shared)(ev:Value):Prop :=
 ∃e t tb tk h' tk',ev=.ref e/\s'={s with heap:=h',toks:=tk'}/\iI I0.own I l s.heap e t cls [.str txt tk] tb (some .none) h'
structure QC(C:Cx)(n:Nat)(sc:Scope)(δ:List (Str×D))(ss:List Stmt)(I:bX)(cls:Value)(txt:Str):Prop where
 go:∀(A:Around) (B:Heap) (env:Env) (X:Addr->Prop) (s:Shared) (Q:Flow->Shared->Prop) (E:Value->Shared->Prop) (l:List Env),Ok C n sc δ A B env X s.heap->Bo C B->xN C.I A env l s.heap ->
  (∀ev s',Rz C.I env l s I cls txt s' ev->E ev s')->wpAny C.M A (execs ss env) Q E s
structure NE(C:Cx)(n:Nat)(sc:Scope)(δ:List (Str×D))(st:Stmt)(I:bX)(cls:Value)(txt:Str):Prop where
 go:∀(A:Around) (B:Heap) (env:Env) (X:Addr->Prop) (s:Shared) (Q:Flow->Shared->Prop) (E:Value->Shared->Prop) (l:List Env),Ok C n sc δ A B env X s.heap->Bo C B->xN C.I A env l s.heap ->
  (∀ev s',Rz C.I env l s I cls txt s' ev->E ev s')->wpAny C.M A (exec st env) Q E s
structure TI(C:Cx)(n:Nat)(sc:Scope)(δ:List (Str×D))(e:PySem.Expr)(I:bX)(cls:Value)(txt:Str):Prop where
 go:∀(A:Around) (B:Heap) (env:Env) (X:Addr->Prop) (s:Shared) (Q:Value->Shared->Prop) (E:Value->Shared->Prop) (l:List Env),Ok C n sc δ A B env X s.heap->Bo C B->xN C.I A env l s.heap ->
  (∀ev s',Rz C.I env l s I cls txt s' ev->E ev s')->wpAny C.M A (eval e env) Q E s
structure GK(C:Cx)(n:Nat)(f:Addr)(args:List Value->Args)(ds:List D)(I:bX)(cls:Value)(txt:Str):Prop where
 go:∀(A:Around) (B:Heap) (X:Addr->Prop) (s:Shared) (vs:List Value) (R:Result->Shared->Prop) (l:List Env),Cl C n A B X s->dI X s.heap vs ds->A.handled=none->A.frames=some l->dO C.I l s.heap ->
  (∀ev s',Rf C.I l s I cls txt s' ev->R (.error ev) s')->codeAny C.M A (.call (.ref f) (args vs)) R s
theorem iI.from{Z Z':Addr->Prop}{I:bX}{l l':List Env}{s0 s1 h:Heap}{e t:Addr}{cls:Value}{args:List Value}{tb:Value}{fl:Option Value}(F:iI Z' I l' s1 e t cls args tb fl h)(hZ:∀b o,¬Z b->s0.get? b=some o->¬Z' b/\s1.get? b=some o)
 (hl:∀b o,¬Z b->s0.get? b=some o->oX l' b->oX l b) (hs:∀en∈l,en∈l'):iI Z I l s0 e t cls args tb fl h where
 keep:=λb o z q=>by
  rcases bW (hZ b o z q) with z'|q'
  rcases bW (F.keep b o z' q') with k1|k2
  exact⟨λnf=>k1 λf=>nf (hl b o z q f),k2⟩
 iv:=F.iv
 fr:=λen he=>F.fr en (hs en he)
 ex:=F.ex
 tp:=F.tp
 new:=λb o z q=>let ⟨z',q'⟩:=hZ b o z q;F.new b o z' q'
 no:=F.no
 te:=F.te
 tr:=F.tr
section
variable{C:Cx}{n:Nat}{sc:Scope}{δ:List (Str×D)}{I:bX}{cls:Value}{txt:Str}
theorem dO.mk{A:Around}{env:Env}{l:List Env}{B:Heap}{X:Addr->Prop}{s s':Shared}{I':bX}(S:xN C.I A env l s.heap)(k:MK C env s s')(ho:∀b,I'.own b->C.I.own b):xN I' A env l s'.heap:=by
 obtain h'|tk|rfl|k:=dZ k
 refine⟨S.hh,S.fs,S.fr,λen he=>?_,S.off⟩
 rcases bW (S.ok en he) with kk|q_0;obtain L|o|es|ep|h1|h2|h3|h4:=uS q_0
 have nl:=S.off L (List.mem_filterMap.mpr ⟨en,he,h1⟩)
 exact⟨kk,L,o,es,ep,h1,λq=>h2 (ho _ q),k L o h2 (λz=>nl (.inl z)) (λx z=>nl (.inr ⟨x,z⟩)) h3,h4⟩
theorem Rz.from{env:Env}{l:List Env}{s s1 s':Shared}{ev:Value}{I':bX}(k:MK C env s s1)(ho:∀b,I'.own b->C.I.own b)(z:Rz I' env l s1 I cls txt s' ev):Rz C.I env l s I cls txt s' ev:=by
 obtain h1|tk1|rfl|k:=dZ k
 obtain e|t|tb|fl|tk|h'|tk'|rfl|rfl|F|f:=SR z
 refine⟨e,t,tb,fl,tk,h',tk',rfl,rfl,F.from (λb o z q=>⟨λw=>z (w.imp (ho b) id),?_⟩) (λ_ _ _ _ f=>f) λ_ q=>q,f⟩
 exact k b o (λw=>z (.inl w)) (λw=>z (.inr (.inl w))) (λx w=>z (.inr (.inr ⟨x,w⟩))) q
theorem lJ{st:Stmt}{rest:List Stmt}(h1:NE C n sc δ st I cls txt):QC C n sc δ (st::rest) I cls txt :=
 ⟨λA B env X s Q E l O bo S h=>wpAny_execs_cons (h1.go A B env X s _ _ l O bo S h)⟩
theorem kD{st:Stmt}{rest:List Stmt}{I':bX}{δ':List (Str×D)}(h1:M1 C n sc δ st (.nxt I' δ'))(ho:∀b,I'.own b->C.I.own b)(h2:QC (C.turn I') n sc δ' rest I cls txt):QC C n sc δ (st::rest) I cls txt:=by
 refine⟨λA B env X s Q E l O bo S h=>wpAny_execs_cons (h1.go A B env X s _ _ O bo λfl s1 k1 o1=>?_)⟩
 obtain rfl|O1:=bW o1
 exact h2.go A B env X s1 Q E l O1 (λb q=>bo b (ho b q)) (dO.mk (B:=B) (X:=X) S k1 ho) λev s' z=>h ev s' (z.from k1 ho)
theorem tG{test:PySem.Expr}{body orelse:List Stmt}{pos:Pos}{b:Bool}(ht:Ts C n sc δ test b)(hb:QC C n sc δ (if b then body else orelse) I cls txt):NE C n sc δ (.If test body orelse pos) I cls txt:=by
 refine⟨λA B env X s Q E l O bo S h=>wpAny_If (ht.go A B env X s _ _ O λs1 k1=>?_)⟩
 have kJ:=hb.go A B env X s1 Q E l (O.on k1) bo (dO.mk (B:=B) (X:=X) S (.of_keeps k1) λ_ q=>q) λev s' z=>h ev s' (z.from (.of_keeps k1) λ_ q=>q)
 cases b with
 | true=>exact kJ
 | false=>exact kJ
theorem DU{x:Str}{p pos:Pos}{e:PySem.Expr}(he:TI C n sc δ e I cls txt)(hsw:∀env,env.scope=sc->swapsWith e (some (.Name x p)) pos.line env=pure false:=by intro _ _;rfl):NE C n sc δ (.Assign [.Name x p] e pos) I cls txt :=
 ⟨λA B env X s Q E l O bo S h=>wpAny_Assign_Name (he.go A B env X s _ _ l O bo S h) (hsw env (let ⟨_,F,_⟩:=O.st;F.scope))⟩
theorem GL{T newId initId:String}(F:ExcCallFacts T newId initId)(G:ExcRaiseFacts T){x:Str}{np cpos pos p1:Pos}{k:Nat}(hk:sc.names.lookup x=some .globalImplicit)(hg:C.mg x=none)(hb:C.mb x=some (.type T))(hd:(x==("__debug__":Str))=false) :
 NE C n sc δ (.Raise (some (.Call (.Name x np) [.Constant (.str txt) k p1] [] cpos)) none pos) C.I (.type T) txt:=by
 refine⟨λA B env X s Q E l O bo S h=>wpAny_Raise_call F G S.hh rfl (cC O hk hg hb hd ⟨rfl,?_⟩)⟩
 have eb:backTo cpos (starEach [.Constant (.str txt) k p1] env)=(false,eval (.Constant (.str txt) k p1) env)::[]:=rfl
 rwa[eb]
 have hA:=(aF (C:=C) (n:=n) (sc:=sc) (δ:=δ) (aT (x:=txt) (k:=k) (pos:=p1)) bM).go A B env X cpos s
 replace hA:=eb▸hA
 refine evalArgs_plain (hA _ _ O λvs s1 k1 r1=>⟨rfl,?_,λh' e M=>?_⟩)
 . have:=r1.length;show vs.length<=sizeLine;rwa[this];exact (by decide:1<=sizeLine)
 obtain tk|rfl:=aU (AQ r1)
 rcases rW M.there with t|he|htn|ht
 have O1:=O.on k1
 revert M htn O1;refine kE k1 ?_;clear k1;intro h1 tk1 k1 M htn O1
 rcases aL O1.st with ρ|Fv|V
 rcases aL Fv.ns with m|q_0|_;obtain oL|esL|epL|q1|q2|_:=nV q_0
 have iv':=C.I.at_ _ _ O1.iv λb o _ q=>M.keeps b o q
 have nown:∀b,h1.get? b=none->¬C.I.own b:=λb q ob=>by
  rcases aU (C.I.dom _ _ O1.iv ob) with o|q'
  injection tq q q'
 refine h _ _ ⟨e,t,.none,none,tk,h',tk1,rfl,rfl,⟨λb o z q=>⟨λ_=>M.keeps b o (k1 b o q),o.slots,M.keeps b o (k1 b o q)⟩,iv',λen hen=>?_,he,ht,λb o _ q=>⟨λz=>?_,λz=>?_,λz=>by injection z⟩,⟨nown e M.new,nown t htn,λb z=>by injection z⟩,(λz=>by injection z),rfl⟩,.inl rfl⟩
 . cases hen with
   | head=>exact⟨(by rwa[Fv.scope,Fv.kind];intro z;injection z),env.locals,oL,esL,epL,S.fr,Fv.base.2.2.1.2,M.keeps _ _ q1,q2⟩
   | tail _ hen =>
    rcases bW (S.ok en hen) with kk|q_0;obtain L|o|es|ep|w1|w2|w3|w4:=uS q_0
    exact⟨kk,L,o,es,ep,w1,w2,M.keeps _ _ (k1 _ _ w3),w4⟩
 . replace q:=z▸q;have:=k1 _ _ q;injection tq M.new this
 . replace q:=z▸q;have:=k1 _ _ q;injection tq htn this
theorem GM{test:PySem.Expr}{body:List Stmt}{pos:Pos}(Is:Nat->bX)(Δ:Nat->List (Str×D))(m:Nat)(hI0:Is 0=C.I)(h0:∀y d,(Δ 0).lookup y=some d->δ.lookup y=some d)
 (hw:∀i b,(Is i).own b->C.I.own b) (ht:∀i,i<=m->Ts (C.turn (Is i)) n sc (Δ i) test true) (hb:∀i,i<m->MX (C.turn (Is i)) n sc (Δ i) body (.nxt (Is (i+1)) (Δ (i+1))))
 (hfin:QC (C.turn (Is m)) n sc (Δ m) body I cls txt):NE C n sc δ (.While test body [] pos) I cls txt:=by
 refine⟨λA B env X s Q E l O bo S h=>?_⟩
 have O0:Ok (C.turn (Is 0)) n sc (Δ 0) A B env X s.heap:=by rwa[hI0];exact O.sub h0
 refine wpAny_While (codeAny_whileLoop (λj s2=>∃i,j=m-i/\i<=m/\Ok (C.turn (Is i)) n sc (Δ i) A B env X s2.heap/\MK C env s s2) (λj s2 hj=>?_) m ⟨0,rfl,Nat.zero_le _,O0,.of_keeps (aE s)⟩)
 obtain i|rfl|him|O2|K2:=SQ hj
 have bo2:Bo (C.turn (Is i)) B:=λb q=>bo b (hw i b q)
 have tr:∀{a c:Shared},MK C env s a->MK (C.turn (Is i)) env a c->MK C env s c:=λx y=>x.trans y λz q=>.inl (hw i z q)
 refine (ht i him).go A B env X s2 _ _ O2 λs3 k3=>?_
 rwa[if_pos rfl]
 have O3:=O2.on k3
 have K3:=tr K2 (.of_keeps k3)
 rcases Nat.lt_or_ge i m with q | q
 . refine (hb i q).go A B env X s3 _ _ O3 bo2 λfl s4 k4 o4=>?_
   obtain rfl|O4:=bW o4
   exact⟨m-(i+1),by grind,i+1,rfl,q,O4,tr K3 k4⟩
 . have:i=m:=Nat.le_antisymm him q
   subst this
   refine hfin.go A B env X s3 _ _ l O3 bo2 (dO.mk (B:=B) (X:=X) S K3 (hw i)) λev s' z=>?_
   have z':=z.from (C:=C) (I':=Is i) (s:=s3) (k:=.of_keeps (aE s3)) (hw i)
   rcases SR (z.from (C:=C) (I':=Is i) K3 (hw i)) with e|t|tb|fl|tk|h'|tk'|rfl|rfl|F|f
   obtain h3|tk3|rfl|_:=dZ K3
   refine F.note (s:={s with heap:=h',toks:=tk'}) S.fs S.fr f λh'' tb' F'=>?_
   exact iI.cameBack (s:={s with heap:=h'',toks:=tk'}) S.fr F' λh3 F3=>h _ _ ⟨e,t,tb',_,tk,h3,tk',rfl,rfl,F3,.inr (.inr rfl)⟩
theorem BN{f:Addr}{st:Stmt}{args:List Value->Args}{names:List Str}{ds:List D}(F:gI C f st args names)(hl:ds.length=names.length)(hs:fC (aD st) names=true)
 (h:QC C n (aD st) (names.zip ds) (aX st) I cls txt):GK C (n+1) f args ds I cls txt:=by
 refine⟨λA B X s vs R l K r hh hfs fo hR=>RG F hl hs K r λenv h1 tk1 hsc hfr hL k1 hC O1=>?_⟩
 have hfs':(A.deeper env).frames=some (env::l):=by show A.frames.map (env::·)=_;rwa[hfs];rfl
 have old:∀b o,s.heap.get? b=some o->¬zF env b:=λb o q z=>by
  rcases z with z | ⟨x,z⟩
  . replace q:=aN▸hL▸z▸q;injection q
  . injection tq (hC x b z) q
 have S:xN C.I (A.deeper env) env l h1:=⟨hh,hfs',hfr,fo.at λb o es ep _ q _=>⟨o,k1 b o q,rfl⟩,λb hb=>by
  rcases bW (fo.mem hb) with _|q_0;obtain o|_|_|q|_:=eU q_0
  exact old b o q⟩
 refine h.go (A.deeper env) B env X _ _ _ l O1 K.bo S λev s' z=>?_
 obtain e|t|tb|fl|tk|h'|tk'|rfl|rfl|Fl|f:=SR z
 refine Fl.leave (s:={s with heap:=h',toks:=tk'}) hfs' hfr f λh2 tb2 F2=>hR _ _ ⟨e,t,tb2,tk,h2,tk',rfl,rfl,F2.from (λb o z q=>⟨λw=>w.elim z (old b o q),k1 b o q⟩) (λb o z q w=>?_) λ_ q=>.tail _ q⟩
 rcases aL (List.mem_filterMap.mp w) with en|he|w
 cases he with
 | head=>have h_:=sx hfr w;clear w;subst h_;exact absurd (.inl rfl) (old _ o q)
 | tail _ he=>exact List.mem_filterMap.mpr ⟨en,he,w⟩
theorem vI{o:PySem.Expr}{name:Str}{apos pos:Pos}{as:List PySem.Expr}{k:Nat}{x dx Cl f:Addr}{fs:List (Str×D)}{st:Stmt}{names:List Str}{ds:List D}(II:cQ C k x dx Cl fs)(M:oC C Cl name f st names)(hn:fs.lookup name=none)
 (ho:Ev C n sc δ o (.ptr x)) (ha:uT C n sc δ as ds) (hst:UP as ds) (hF:GK C n f pl (.ptr x::ds) I cls txt) (hl:(apos.endLine==pos.line)=true)
 (hab:∀env,attributeBase o name env (eval o env)=eval o env:=by intro _;rfl)
 (hfew:∀pos env,((backTo pos (starEach as env)).all (λx=>!x.1)&&(backToKw pos (keywordEach [] env)).all (λx=>x.1.isSome)&&decide (as.length+([]:List Keyword).length+(if ([]:List Keyword).isEmpty then 0 else 1)<30))=true:=by intro _ _;rfl) :
 TI C n sc δ (.Call (.Attribute o name apos) as [] pos) I cls txt:=by
 refine⟨λA B env X s Q E l O bo S h=>jI (hab env) (hfew pos env) hl (ho.go A B env X s _ _ O λv s1 k1 r1=>?_)⟩
 obtain rfl:=cW r1
 intro pl
 have O1:=O.on k1
 rcases rW (II.hi _ O1.iv) with m|hm|h1|h2
 rcases iG M.F with ob|fd|hK|hfd|_
 refine mV O1.gl.k II.c hm M.hf M.ht (h2 _ hn) ?_
 refine callWith_function (o:=ob) (fd:=fd) (pV ha hst O1 λvs s2 k2 r2=>?_)
 have O2:=O1.on k2
 refine⟨⟨O2.gl.k _ _ hK,hfd⟩,?_⟩
 have K:=aB k1 k2
 have S2:xN C.I A env l s2.heap:=dO.mk (B:=B) (X:=X) S (.of_keeps K) λ_ q=>q
 have fo:dO C.I (env::l) s2.heap:=λen he=>by
  cases he with
  | head =>
   rcases aL O2.st with ρ|Fv|V
   rcases aL Fv.ns with m|q_0|_;obtain oL|esL|epL|q1|q2|_:=nV q_0
   exact⟨(by rwa[Fv.scope,Fv.kind];intro z;injection z),env.locals,oL,esL,epL,S.fr,Fv.base.2.2.1.2,q1,q2⟩
  | tail _ he=>exact S2.ok en he
 refine wpAny_call (hF.go A B X s2 (.ref x::vs) _ (env::l) (O2.cl bo) (.cons (.ptr x) r2) S.hh S.fs fo λev s' z=>?_)
 obtain e|t|tb|tk|h'|tk'|rfl|rfl|F:=SV z
 revert k2 r2 O2 S2 fo F;refine kE K ?_;clear K;intro hK' tkK kK k2 r2 O2 S2 fo F
 exact h _ _ ⟨e,t,tb,some .none,tk,h',tk',rfl,rfl,F.from (λb o z q=>⟨λw=>z (.inl w),kK b o q⟩) (λ_ _ _ _ w=>w) λ_ q=>q,.inr (.inl rfl)⟩
end
noncomputable def JU:Str:="No closing quotation"
section
variable{C:Cx}{n:Nat}{sc:Scope}{δ:List (Str×D)}{a:gU}{line:Str}{p:Nat}{st st':D}{tok tok':Str}{fr fc fi pp fg frt fgt:Addr}{rest:List Value}{I:bX}{cls:Value}{txt:Str}
theorem rY{s:Stmt}(h:NE C n sc δ s I cls txt):QC C n sc δ [s] I cls txt:=lJ h
theorem BO(k0:Nat)(hk:k0=39\/k0=34)(hI:C.I=aK a line p (.str (ch k0)) tok)(K:yY C a fr fc fi pp fg rest)(hn:8<=n)(hz:line.length<=1000)(hp:p=line.length)(gv:C.mg ("ValueError":Str)=none/\C.mb ("ValueError":Str)=some (.type "ValueError"))(q:Bool) :
 QC C n GF (DR a q) iP (aK a line p (.str (ch k0)) tok) (.type "ValueError") JU:=by
 obtain⟨m,rfl⟩:∃m,n=m+3:=⟨n-3,by lia⟩
 have k:=K.s.k
 refine kD (I':=aK a line p (.str (ch k0)) tok) (δ':=("nextchar",.str "")::DR a q) (aW (b:=false) (aC (aQ (a:=true) (b:=false) (aC (mX (tF hI K (by exact Nat.le_trans (Nat.le_add_left ..) (by assumption)) (aA rfl rfl)) ∅) ∅) λ_=>aC (aQ (a:=false) (b:=true) (DO (a:=a.Pc) (aJ hI k (aA rfl rfl) ∅ rfl) λh H=>by replace H:=hI▸H;exact H.pc) λw=>by injection w) rfl) rfl) ?_) (λb w=>by rwa[hI];exact w) ?_
 . refine aP (vY (pW (J:=aK a line p (.str (ch k0)) tok) (cQ.sio hI k) K.s.rd (by rfl) (by rwa[hI];exact fR) (aJ hI k (aA rfl rfl) ∅ rfl) (bY aG) (.inr ⟨_,_,rfl,λ_=>rfl⟩) (yX hI K.s hz hp) ∅) ∅) (λb w=>by rwa[hI];exact w) hU
 have hI2:(C.turn (aK a line p (.str (ch k0)) tok)).I=aK a line p (.str (ch k0)) tok:=rfl
 have k2:=k.turn (aK a line p (.str (ch k0)) tok)
 refine kD (bB (bZ (b:=false) (aC (aH (aA rfl rfl) aT cL) ∅) bQ)) (λ_ w=>w) ?_
 refine kD (bB (bZ (b:=false) (aC (aH (aJ hI2 k2 (aA rfl rfl) ∅ rfl) aG dM) ∅) bQ)) (λ_ w=>w) ?_
 refine rY (tG (b:=false) (aC (aH (aJ hI2 k2 (aA rfl rfl) ∅ rfl) cB cH) rfl) ?_)
 refine rY (tG (b:=false) (aC (aH (aJ hI2 k2 (aA rfl rfl) ∅ rfl) aT cL) (by rcases hk with rfl | rfl<;>decide)) ?_)
 refine rY (tG (b:=true) (iA (aJ hI2 k2 (aA rfl rfl) ∅ rfl) (aJ hI2 k2 (aA rfl rfl) ∅ rfl) (by rwa[dA ..];rcases hk with rfl | rfl<;>decide +kernel)) ?_)
 refine kD (bB (bS (d:=.bool true) dJ ∅)) (λ_ q=>q) ?_
 refine lJ (tG (b:=true) (aC (oN (mX (aA rfl rfl) ∅)) ∅) ?_)
 refine kD (bB (bZ (b:=false) (aC (aH (aJ hI2 k2 (aA rfl rfl) ∅ rfl) aG dM) ∅) bQ)) (λ_ w=>w) ?_
 exact rY (GL _root_.PySem.F.excCall_ValueError _root_.PySem.F.excRaise_ValueError (by rfl) gv.1 gv.2 ∅)
theorem JV{f:Addr}(hI:C.I=aK a line p (.str " ") "")(K:yY C a fr fc fi pp fg rest)(M:gI C f (fH 34 6) pl ["self"])(hn:8<=n)(hz:line.length<=1000)(body:List Nat)(k0:Nat)(hk:k0=39\/k0=34)
 (hb:∀i c,body[i]?=some c->line.cps[p+i]?=some c/\ST (LX.after body i).s c) (hend:p+body.length=line.length) (hw:(LX.after body body.length).s=.q k0) (gv:C.mg ("ValueError":Str)=none/\C.mb ("ValueError":Str)=some (.type "ValueError")) :
 GK C (n+1) f pl [.ptr a.L] (aK a line (p+body.length) (.str (ch k0)) (LX.after body body.length).t) (.type "ValueError") JU:=by
 refine BN M rfl ∅ ?_
 refine kD (bB (bS (d:=.bool false) dJ ∅)) (λ_ q=>q) ?_
 refine kD (bB (bS (d:=.str " ") aT ∅)) (λ_ q=>q) ?_
 refine lJ (GM (λi=>qT a line (p+i) (LX.after body i)) (λi=>DR a (LX.after body i).q) body.length ?_ ?_ (λi b q=>by rwa[hI];exact q) (λi hi=>eN dJ) (λi hi=>?_) ?_)
 . rwa[hI];rfl
 . exact aM rfl (aM rfl (aM rfl eA))
 . obtain⟨c,hc⟩:∃c,body[i]?=some c:=⟨body[i],by simp[hi]⟩
   rcases bW (hb i c hc) with q1|q2
   have:=DT (C:=C.turn (qT a line (p+i) (LX.after body i))) (LX.after body i) rfl (K.turn _) hn hz q1 q2 (by have:=oA body i;lia)
   replace this:=(LX.after_succ hc).symm▸this
   exact this
 . have e:qT a line (p+body.length) (LX.after body body.length)=aK a line (p+body.length) (.str (ch k0)) (LX.after body body.length).t:=by unfold qT;rwa[hw];rfl
   exact BO (C:=C.turn (qT a line (p+body.length) (LX.after body body.length))) k0 hk e (K.turn _) hn hz hend gv _
theorem GN(K:ND C a fr fc fi pp fg frt fgt rest)(hI:C.I=aK a line p (.str " ") "")(hF:GK C n frt pl [.ptr a.L] I cls txt):GK C (n+1) fgt pl [.ptr a.L] I cls txt:=by
 have k:=K.r.s.k
 refine BN K.gt.F rfl ∅ ?_
 refine kD (bB (bZ (b:=false) (DO (a:=a.Pb) (aJ hI k (aA rfl rfl) ∅ rfl) λh H=>by replace H:=hI▸H;exact H.pb) bQ)) (λ_ q=>q) ?_
 exact lJ (DU (vI (cQ.lex hI k) K.rt (by rfl) (aA rfl rfl) bM (.inl ⟨rfl,rfl⟩) hF ∅))
theorem JW(K:ND C a fr fc fi pp fg frt fgt rest){f:Addr}(F:gI C f (fH 34 10) pl ["self"])(hI:C.I=aK a line p (.str " ") "")(hF:GK C n fgt pl [.ptr a.L] I cls txt):GK C (n+1) f pl [.ptr a.L] I cls txt:=by
 have k:=K.r.s.k
 refine BN F rfl ∅ ?_
 exact lJ (DU (vI (cQ.lex hI k) K.gt (by rfl) (aA rfl rfl) bM (.inl ⟨rfl,rfl⟩) hF ∅))
end
theorem JX:mroOf (.type qP)=pure [.type qP,.type "object"]:=by rwa[mroOf_type ..];kernel_rfl
theorem uE:typeLookup (.type qP) "__new__"=pure (some (.builtin "collections.deque.__new__")):=by rwa[typeLookup_type ..,builtinLookup_eq_fast];kernel_rfl
theorem JY:isSubtype (.type qP) (.type qP)=pure true:=by rwa[isSubtype_type ..];kernel_rfl
theorem wT:Slot qP "__init__" "collections.deque.__init__":=by
 refine Slot.of (T:=qP) (name:="__init__") (owner:=qP) (n:="__init__") ?_ (by decide +kernel) (by decide +kernel) (by decide +kernel) (.inl (by decide +kernel)) JY
 rwa[typeLookup_type ..,builtinLookup_eq_fast];kernel_rfl
theorem GO:TypeCalled qP "collections.deque.__new__" "collections.deque.__init__" :=
 ⟨by decide +kernel,by decide +kernel,⟨_,_,JX⟩,madeBy_type JX uE (by decide +kernel),by decide +kernel,JY,wT⟩
theorem zG:checkTypeCall qP ⟨[],[]⟩=pure ():=by kernel_rfl
theorem BP:checkBuiltinCall "collections.deque.__new__" ⟨[.type qP],[]⟩=pure ():=by kernel_rfl
theorem wU:entryFor table "collections.deque.__new__"=some Builtin.«collections.deque.__new__»:=entryFor_of_tree (by kernel_rfl)
theorem uF:entryFor table "collections.deque.__init__"=some Builtin.«collections.deque.__init__»:=entryFor_of_tree (by kernel_rfl)
theorem wV(a:Value):argsOk "collections.deque.__init__" ⟨[a],[]⟩:=by unfold argsOk;kernel_rfl
noncomputable abbrev RH:Obj:={cls:=.type qP,data:=.fields #[.none,.int 0 0]}
theorem BQ:Deque.newArgs Deque.ty ⟨[.type qP],[]⟩=pure (.type qP,[]):=by kernel_rfl
theorem GQ:typeHasDict (.type qP)=false:=by decide +kernel
theorem wW:Meets (Builtin.«collections.deque.__new__» ⟨[.type qP],[]⟩) (λ_ R s=>R (.ok (.ret (.ref s.heap.objs.size))) {s with heap:=s.heap.push RH}):=by
 refine Meets.of_wp λprog w A R s h=>?_
 unfold Builtin.«collections.deque.__new__»
 refine wpAny_bind (wpAny_of_eq BQ ?_)
 dsimp only
 unfold Deque.new
 refine wpAny_bind ?_
 rwa[if_neg (show ¬((#[]:Array Value).size > sizeLine) from Nat.not_lt_zero _)]
 rwa[GQ]
 show wpAny _ _ (newObj (.type qP) (.fields #[.none,rawInt 0]) none) _ _ _
 refine wpAny_newObj_type ?_ (by size_fits)
 exact wpAny_pure ⟨_,rfl,h⟩
theorem BR(a:Addr):Builtin.«collections.deque.__init__» ⟨[.ref a],[]⟩=(do setField (.ref a) 0 .none;Deque.clear (.ref a);ret .none):=by rfl
theorem uG(a:Addr):Meets (Builtin.«collections.deque.__init__» ⟨[.ref a],[]⟩) (λ_ R s=>s.heap.get? a=some RH/\R (.ok (.ret .none)) {s with heap:=s.heap.update a (Obj.mapFields (·.setIfInBounds 0 .none))}):=by
 refine Meets.of_wp λprog w A R s h=>?_
 obtain h0|h:=bW h
 rwa[BR ..]
 refine wpAny_bind (wpAny_setField h0 rfl ∅ ?_)
 have h1:=Heap.get?_update_self (h:=s.heap) (Obj.mapFields (·.setIfInBounds 0 Value.none)) h0 rfl
 refine wpAny_bind ?_
 unfold Deque.clear Deque.items
 refine wpAny_bind (wpAny_bind (wpAny_fieldsOf h1 rfl (wpAny_pure ?_)))
 rwa[if_neg ∅]
 exact wpAny_pure (wpAny_pure ⟨_,rfl,h⟩)
theorem OF{prog:Program}{w:World}{A:Around}{E:Value->Shared->Prop}{s:Shared}{Q:Value->Shared->Prop}(h:∀h',(∀b o,s.heap.get? b=some o->h'.get? b=some o)->h'.get? s.heap.objs.size=some RH->Q (.ref s.heap.objs.size) {s with heap:=h'}) :
 wpAny (model prog w) A (call (.type qP) []) Q E s:=by
 have kp:∀b o,s.heap.get? b=some o->(s.heap.push RH).get? b=some o:=λb o e=>Heap.get?_push_of_some _ e
 have el:(s.heap.push RH).get? s.heap.objs.size=some RH:=Heap.get?_push_size _ rfl
 refine callType_meets (Q₁:=λv s1=>v=.ref s.heap.objs.size/\s1={s with heap:=s.heap.push RH}) GO zG BP wU uF wW ⟨rfl,rfl⟩ λobj s1 q=>?_
 obtain rfl|rfl:=bW q
 refine⟨⟨_,el,rfl⟩,wV _,_,uG _,el,rfl,h _ (λb o q=>?_) ?_⟩
 . have ne:s.heap.objs.size≠b:=λz=>by replace q:=aN▸z.symm▸q;injection q
   exact (Heap.get?_update_other _ _ ne).trans (kp b o q)
 . exact Heap.get?_update_self _ el rfl
structure Mk(M:Model)(h:Heap)(C:Addr):Prop where
 obj:∃oc od cd sl,h.get? C=some ⟨oc,od,.cls cd,sl⟩/\cd.abstract=false/\cd.hasDel=false/\cd.mro.isEmpty=false
 made:Looks M h (Bind.madeBy (.ref C)) none
 self:Looks M h (isSubtype (.ref C) (.ref C)) true
 call:Looks M h (specialOf (.ref C) "__call__") (some (.builtin "type.__call__"))
 typ:Looks M h (isInstance (.ref C) (.type "type")) true
theorem RI{prog:Program}{w:World}{A:Around}{C:Addr}{R:Result->Shared->Prop}{h:Heap}{g:Array GenState}{d:Drawn}{t:Nat}{os:OsState}{rest:List Value}{kw:List (Str×Value)}{fN fI:Addr}(Y:Mk (model prog w) h C)
 (hat:∀(A':Around) (Q:Value->Shared->Prop) (E:Value->Shared->Prop),(∀t',Q (.ref fN) ⟨h,g,d,t',os⟩)->wpAny (model prog w) A' (getAttr (.ref C) "__new__") Q E ⟨h,g,d,t,os⟩)
 (hn:∀t',codeAny (model prog w) (A.under (.builtin "type.__call__" ⟨.ref C::rest,kw⟩)) (.call (.ref fN) ⟨.ref C::rest,kw⟩) (λr s2=>match r with
  | .ok (.ret v)=>∃x,v=.ref x/\Looks (model prog w) s2.heap (isInstance (.ref x) (.ref C)) true/\Looks (model prog w) s2.heap (specialOf (.ref x) "__init__") (some (.ref fI))/\Looks (model prog w) s2.heap (bindSpecial (.ref fI) (.ref x)) (.ref fI,[.ref x]) /\
   codeAny (model prog w) (A.under (.builtin "type.__call__" ⟨.ref C::rest,kw⟩)) (.call (.ref fI) ⟨.ref x::rest,kw⟩) (InitBack x R) s2
  | .ok _=>False
  | .error e=>R (.error e) s2) ⟨h,g,d,t',os⟩) :
 codeAny (model prog w) A (.call (.ref C) ⟨rest,kw⟩) R ⟨h,g,d,t,os⟩:=by
 obtain⟨⟨oc,od,cd,sl,hC,e1,e2,e4⟩,made,self,cl,typ⟩:=Y
 refine codeAny_of_tree ?_
 show wpAny _ _ (callAny (.ref C) _) _ _ _
 refine nd_load hC ?_
 show wpAny _ _ (callAny.viaDunder (.ref C) _) _ _ _
 unfold callAny.viaDunder
 refine wpAny_bind (cl.at ?_)
 dsimp only
 rwa[tc_bind ..]
 refine wpAny_bind (wpAny_pure (wpAny_bind (wpAny_pure ?_)))
 refine wpAny_pure (a:=Fin.again (.call (.builtin "type.__call__") ⟨.ref C::rest,kw⟩)) (And.intro rfl ?_)
 refine codeAny_call_builtin_at (Code.quiet_builtin _ (by decide +kernel)) entry_typeCall (check_slot tc_kind tc_split typ (tc_args _ _ _) ?_)
 unfold Builtin.«type.__call__»
 have hm:Looks (model prog w) h (mroOf (.ref C)) cd.mro:=((Looks.ld (part:=none) hC).andThen .now).andThen .now
 repeat (first | refine wpAny_bind (hat _ _ _ λt'=>?_) | with_reducible refine wpAny_call ?_ | simp only[e4,Bool.false_eq_true,if_false] | lk)
 refine codeAny_mono (hn t') λr s2 z=>?_
 rcases r with e | (v | _ | _ | _)<;>first | exact z | exact z.elim | skip
 obtain x|rfl|i1|i2|i3|z:=UM z
 unfold callSpecial?
 obtain⟨h2,g2,d2,t2,os2⟩:=s2
 repeat (first | with_reducible refine wpAny_call ?_ | lk)
 refine codeAny_mono z λr s' z=>?_
 rcases r with e | (v | _ | _ | _)<;>first | exact z | exact z.elim | skip
 obtain rfl|z:=bW z
 exact wpAny_pure (wpAny_pure z)
noncomputable abbrev TJ(v0 v2 v3:Value)(N:Addr):Obj:={cls:=.type "type",data:=.cls {name:="StringIO",bases:=[.ref 185],mro:=[.ref 662,.ref 185,.ref 158,.type "object"],ns:=N,qualname:="StringIO"},slots:=#[some v0,none,some v2,some v3,some .none,some (.bool true)]}
structure GU(K:Frag):Prop where
 base:∀(M:Model) (h:Heap),K.In h->Looks M h (Bind.staticBase (.ref 662)) (.type "object")
 mb:∀(M:Model) (h:Heap),K.In h->Looks M h (Bind.madeBy (.ref 662)) none
 k1:∃v0 v2 v3 N,K.lookup 662=some (TJ v0 v2 v3 N)
theorem OG{prog:Program}{w:World}{A:Around}{R:Result->Shared->Prop}{h:Heap}{g:Array GenState}{d:Drawn}{t:Nat}{os:OsState}{K:Frag}(X:K.In h)(S:GU K)
 (hq:R (.ok (.ret (.ref (h.objs.size+1)))) ⟨(h.push emptyDict).push (instObj 662 h.objs.size),g,d,t,os⟩) :
 codeAny (model prog w) A (.call (.builtin "object.__new__") ⟨[.ref 662],[]⟩) R ⟨h,g,d,t,os⟩:=by
 obtain⟨hr,_,⟨v0,v2,v3,N,k1⟩⟩:=S
 have h1:=X _ _ k1
 have F:=PySem.F.objNew
 refine codeAny_call_builtin_code (Code.quiet_builtin _ F.quiet) ?_
 simp only[checkBuiltinCall,F.kind,F.split,F.row]
 have args:Bind.checkArgs "object.__new__" ⟨.hand,"object.__new__","__new__",.cls,[]⟩ ⟨[.ref 662],[]⟩=pure ():=by kernel_rfl
 have mo:Looks (model prog w) h (Bind.madeBy (.type "object")) (some "object.__new__"):=Looks.of_pure (by kernel_rfl)
 have base:=hr (model prog w) h X
 rwa[args]
 repeat (first | simp only[bne_self_eq_false,Bool.false_eq_true,if_false] | lk)
 refine codeAny_builtin F.entry ?_
 unfold Builtin.«object.__new__»
 have h1':((h.push {cls:=.type "dict",data:=.dict #[]}).push {cls:=.ref 662,dict:=some h.objs.size}).get? 662=some (TJ v0 v2 v3 N):=Heap.get?_push_of_some _ (Heap.get?_push_of_some _ h1)
 repeat (first | simp only[Bool.false_eq_true,if_false] | lk)
 rwa[Heap.size_push ..]
 exact hq
section
variable{C:Cx}{n:Nat}{sc:Scope}{δ:List (Str×D)}
structure mG(C:Cx)(f:Addr)(st:Stmt)(ob:Obj)(fd:FuncData):Prop where
 hK:C.K.lookup f=some ob
 hd:ob.data=.func fd
 hcode:codeIn C.K fd.code fd.qualname=true
 hbody:fd.body=.stmts (aX st)
 hscope:fd.scope=aD st
 hcl:fd.closure=[]
 hg:fd.globals=mainGlobals
 hb:fd.builtins=builtinsNs
theorem JZ{f:Addr}{st:Stmt}{ob:Obj}{fd:FuncData}{args:Args}{names:List Str}{A:Around}{B:Heap}{X:Addr->Prop}{s0:Shared}{R:Result->Shared->Prop}(F:mG C f st ob fd)(hs:fC (aD st) names=true)(P:List D->Prop)
 (hbind:∀(A:Around) (Q:List (Str×Value)->Shared->Prop) (E:Value->Shared->Prop),(∀vs ds s,vs.length=names.length->ds.length=names.length->P ds->Keeps s0 s->dI X s.heap vs ds->Q (names.zip vs) s)->wpAny C.M A (bindArgs fd args) Q E s0)
 (K0:Cl C (n+1) A B X s0)
 (h:∀env h1 tk1 ds,P ds->env.scope=aD st->env.frame=some env.locals->s0.heap.get? env.locals=none->(∀b o,s0.heap.get? b=some o->h1.get? b=some o)->(∀x c,env.cells.lookup x=some c->s0.heap.get? c=none)->Ok C n (aD st) (names.zip ds) (A.deeper env) B env X h1 ->
  wpAny C.M (A.deeper env) (execs (aX st) env) (λfl s2=>R (.ok (.ret (match fl with | .ret v=>v | _=>.none))) s2) (λe s2=>wpAny C.M (A.deeper env) (leaving env e) (λ_ s3=>R (.error e) s3) (λe' s3=>R (.error e') s3) s2) {s0 with heap:=h1,toks:=tk1}) :
 codeAny C.M A (.call (.ref f) args) R s0:=by
 obtain⟨hK,hd,hcode,hbody,hscope,hcl,hg,hb⟩:=F
 simp only[fC,Bool.and_eq_true,Bool.or_eq_true,Bool.not_eq_true',decide_eq_true_eq,List.all_eq_true] at hs
 obtain q_0|hfree:=bW hs;obtain q_1|hnames:=bW q_0;obtain q_2|hnd:=bW q_1;obtain q_3|hk:=bW q_2;obtain hco|hgen:=bW q_3
 replace hco:=hscope.symm▸hco;replace hgen:=hscope.symm▸hgen;replace hk:=hscope.symm▸hk;replace hnames:=hscope.symm▸hnames;replace hfree:=hscope.symm▸hfree;replace h:=hscope.symm▸h
 have Gs0:=K0.gl.keeps K0.kb
 have cellsOf:∀{m:Nat} {x:Str},fd.scope.names.lookup x=some .cell->((cellsFrom m fd.scope.names []).lookup x).isSome=true:=λhx=>cellsFrom_some _ _ _ (.inl hx)
 refine codeAny_call_function (o:=ob) (by have:=K0.rm.d;show A.depth<1000;lia) (Gs0.k _ _ hK) hd hco hgen hbody (codeRec_of Gs0.k hcode) ?_
 rwa[hcl,hg,hb]
 refine hbind _ _ _ λvs ds s hvl hdl hP kp r=>?_
 have K:Cl C (n+1) A B X s:=⟨K0.rm,K0.ho.keeps (bC kp),K0.xo.keeps (bC kp),K0.gl,λb o e=>bC kp _ _ (K0.kb b o e),K0.bo,C.I.at_ _ _ K0.iv λb o _ e=>bC kp _ _ e,K0.ox⟩
 obtain⟨rm,ho,xo,G,kB,bo,iv,ox⟩:=K
 have Gs:=G.keeps kB
 have hlen:=r.length
 have mem_zip:∀x∈names.zip vs,x.1∈names:=λx hx=>(List.of_mem_zip hx).1
 refine (wpAny_newFunctionEnv_cells hk (λx hx=>(hnames x.1 (mem_zip x hx)).imp id λq=>⟨q,cellsOf q⟩) λenv henv s1 ic=>⟨?_,?_⟩)
 . exact Gs.nl.keeps ic.toInCall.keep
 rcases mF ic.toInCall.same with h1|tk1|rfl
 have k1:∀b o,s.heap.get? b=some o->h1.get? b=some o:=ic.toInCall.keep
 have eL:env.locals=s.heap.objs.size:=by rwa[henv];rfl
 have eC:env.cells=cellsFrom (s.heap.objs.size+1) fd.scope.names []:=by rwa[henv];rfl
 have eS:env.scope=fd.scope:=by rwa[henv];rfl
 have eG:env.globals=mainGlobals:=by rwa[henv];rfl
 have eB:env.builtins=builtinsNs:=by rwa[henv];rfl
 have kO:∀x,env.kindOf x=fd.scope.names.lookup x:=λx=>by unfold Env.kindOf;rwa[eS];rfl
 have nd:((names.zip vs).map (·.1)).Nodup:=by
  have:(names.zip vs).map (·.1)=names.take vs.length:=nW names vs
  rwa[this];exact hnd.sublist (List.take_sublist _ _)
 have off:∀c,s.heap.objs.size<=c->s.heap.get? c=none:=λc hc=>by
  cases q:s.heap.get? c with
  | none=>rfl
  | some o=>exact absurd (Nat.lt_of_lt_of_le (Heap.lt_size q) hc) (Nat.lt_irrefl _)
 have cOff:∀x c,env.cells.lookup x=some c->s.heap.get? c=none:=λx c e=>off c (by have q:=ic.above x c (bT e);replace q:=eL▸q;exact Nat.le_of_lt q)
 have nown:∀c,s.heap.get? c=none->¬C.I.own c:=λc e ob=>by
  rcases aU (C.I.dom _ _ iv ob) with o|q
  injection tq e q
 have nB:∀c,s.heap.get? c=none->B.get? c=none:=λc e=>by
  cases q:B.get? c with
  | none=>rfl
  | some o=>injection tq (kB c o q) e
 have O1:Ok C n fd.scope (names.zip ds) (A.deeper env) B env X h1:=by
  refine⟨⟨?_,?_,λq=>rm.hn (by exact Nat.le_succ_of_le (by assumption))⟩,?_,xo.keeps k1,C.I.at_ _ _ iv λb o _ e=>k1 b o e,ox,λx=>if fd.scope.names.lookup x=some .local then bindL env.kindOf (names.zip vs) (λ_=>none) x else bindC env.kindOf (names.zip vs) (λ_=>none) x,?_,λx dd e=>?_⟩
  . have:=rm.d;show A.depth+1+2*n<720;lia
  . have:=rm.u;show A.units+3+8*n<9000;lia
  . exact ho.keeps k1
  . refine⟨⟨G,λb o e=>k1 b o (kB b o e),⟨by rwa[eL];exact nB _ aN,λob=>nown _ (by rwa[eL];exact aN) ob⟩,λx c e=>⟨nB _ (cOff x c e),λob=>nown _ (cOff x c e) ob⟩⟩,eS,hk,eG,eB,⟨_,ic.toInCall.ns,λx hx=>by rwa[if_pos hx];rfl⟩,λx hx=>?_,λx y c e1 e2=>mK ic.apart (bT e1) (bT e2),λx c e=>⟨_,ic.cell x c e⟩⟩
    rcases hx with hx | hx
    . rcases aU (Option.isSome_iff_exists.mp (cellsOf (m:=s.heap.objs.size+1) hx)) with c|hc
      refine⟨c,by rwa[eC];exact hc,?_⟩
      rwa[if_neg (by refine zl hx ?_;intro q;cases q)]
      exact ic.cell x c (by rwa[eC];exact hc)
    . exact absurd rfl (hfree _ (eW hx))
  . rcases aL (iL r e) with v|e1|r1
    refine⟨v,?_,r1.keeps k1⟩
    dsimp only
    rwa[kY _ _ _ _ nd,mJ _ _ _ _ nd,e1]
    by_cases q:fd.scope.names.lookup x=some .local
    . simp[q,kO]
    . simp[q,kO]
 have fr:env.frame=some env.locals:=by rwa[henv];rfl
 have up:∀b,s.heap.get? b=none->s0.heap.get? b=none:=λb e=>by
  cases q:s0.heap.get? b with
  | none=>rfl
  | some o=>injection tq (bC kp _ _ q) e
 revert r ho xo kB iv Gs henv ic k1 eL eC off cOff nown nB up;refine kE kp ?_;clear kp;intro hs' tks kps r ho xo kB iv Gs henv ic k1 eL eC off cOff nown nB up
 exact codeAny_func (h env h1 tk1 ds hP eS fr (up _ (by rwa[eL];exact aN)) (λb o e=>k1 b o (kps b o e)) (λx c e=>up c (cOff x c e)) O1)
end
section
variable{C:Cx}{n:Nat}{sc:Scope}{δ:List (Str×D)}
theorem DW{x:Str}{pos:Pos}{a:Addr}(hk:sc.names.lookup x=some .globalImplicit)(hg:C.mg x=some (.ref a))(hd:(x==("__debug__":Str))=false:=by decide):Ev C n sc δ (.Name x pos) (.ptr a) :=
 ⟨λA B env X s Q E O h=>cA O hk hg hd (h _ _ (aE s) (.ptr _))⟩
theorem uH{a:Addr}:Cm C n .IsNot (.ptr a) (.ptr a) false:=by
 refine⟨?_⟩
 intro A X s va vb Q E rm ra rb _ _ h
 obtain rfl:=cW ra;obtain rfl:=cW rb
 exact wpAny_isNot_ref_self (h s (aE s))
theorem wX{a b:Addr}{oa ob:Obj}(hab:a≠b)(ha:C.K.lookup a=some oa)(hb:C.K.lookup b=some ob)(ht:oa.cls≠.type "tuple"):Cm C n .IsNot (.ptr a) (.ptr b) true:=by
 refine⟨?_⟩
 intro A X s va vb Q E rm ra rb _ G h
 obtain rfl:=cW ra;obtain rfl:=cW rb
 exact wpAny_isNot_ref_other hab (G.k _ _ ha) (G.k _ _ hb) ht (h s (aE s))
noncomputable def KA:Stmt:=fH 20 1
theorem GV{prog:Program}{w:World}{A:Around}{E:Value->Shared->Prop}{s:Shared}{K:Frag}{name:Str}{v:Value}{T:String}{pl:Sem Bool}{Q:Value×List Value->Shared->Prop}(X:K.In s.heap)(ht:typeOf (.type T)=pure (.type "type"))(hs:Manifest.isStub T=false)
 (e:findCls K (.type T) (.type "type") name=some (.val v)) (hh:handedIn v=true) (h:Q (v,[]) {s with toks:=s.toks+1}):wpAny (model prog w) A (getMethod (.type T) name pl) Q E s:=by
 have L0:Looks (model prog w) s.heap (typeOf (.type T)) (.type "type"):=Looks.of_pure ht
 have hg:findIn K (.type "type") "__getattribute__"=some (some (.builtin "type.__getattribute__")):=type_tga
 have LO:Looks (model prog w) s.heap (opaqueClassAbove (.type T)) none:=Looks.of_pure (by unfold opaqueClassAbove;dsimp only;rwa[hs];rfl)
 unfold getMethod specialOf
 refine wpAny_bind (wpAny_bind (L0.here ((looks_findIn X hg).here ?_)))
 dsimp only
 rwa[if_pos canon_tga]
 refine wpAny_bind (wpAny_mono (Q:=λv=>Q (v,[])) (E:=E) ?_ (λ_ _ z=>wpAny_pure z) λ_ _ z=>z)
 exact cls_open X LO L0 hg (looks_hook X (r:=none) (by rfl)) (by show subIn K _ _=_;rfl) e (wpAny_pure (by show wpAny _ _ (handedOut v) _ _ _;rwa[handedOut_of hh];exact wpAny_pure h))
structure RJ(C:Cx)(ob:Obj)(fd:FuncData):Prop where
 cls:GU C.K
 F:mG C 155 KA ob fd
 bind:∀(v:Value) (A:Around) (s0:Shared) (Q:List (Str×Value)->Shared->Prop) (E:Value->Shared->Prop),C.K.In s0.heap->(∀a1 a2 s,Keeps s0 s->Q [("cls",.ref 662),("args",.ref a1),("kwargs",.ref a2)] s)->wpAny C.M A (bindArgs fd ⟨[.ref 662,v],[]⟩) Q E s0
 kb:∃o,C.K.lookup 415=some o
 gb:C.mg ("BytesIO":Str)=some (.ref 415)
 gs:C.mg ("StringIO":Str)=some (.ref 662)
 go:C.mg ("object":Str)=none/\C.mb ("object":Str)=some (.type "object")
 fc:findCls C.K (.type "object") (.type "type") "__new__"=some (.val (.builtin "object.__new__"))
theorem BS{ob:Obj}{fd:FuncData}(K:RJ C ob fd){A:Around}{B:Heap}{X:Addr->Prop}{s:Shared}{v:Value}{R:Result->Shared->Prop}(Cl0:Cl C (n+1) A B X s)
 (hR:∀x dx h' tk,(∀b o,s.heap.get? b=some o->h'.get? b=some o)->s.heap.get? x=none->s.heap.get? dx=none->h'.get? x=some (instObj 662 dx)->h'.get? dx=some emptyDict->R (.ok (.ret (.ref x))) {s with heap:=h',toks:=tk}):codeAny C.M A (.call (.ref 155) ⟨[.ref 662,v],[]⟩) R s:=by
 rcases aU K.kb with ob5|eb
 rcases UT K.cls.k1 with v0|v2|v3|N|e1
 have hb:∀(A':Around) (Q:List (Str×Value)->Shared->Prop) (E:Value->Shared->Prop),(∀vs ds s',vs.length=(["cls","args","kwargs"]:List Str).length->ds.length=(["cls","args","kwargs"]:List Str).length->(∃a1 a2,ds=[.ptr 662,.ptr a1,.ptr a2])->Keeps s s'->dI X s'.heap vs ds->Q ((["cls","args","kwargs"]:List Str).zip vs) s')->wpAny C.M A' (bindArgs fd ⟨[.ref 662,v],[]⟩) Q E s:=by
  intro A' Q E h
  refine K.bind v A' s Q E (Cl0.gl.keeps Cl0.kb).k λa1 a2 s' k=>?_
  have:=h [.ref 662,.ref a1,.ref a2] [.ptr 662,.ptr a1,.ptr a2] s' rfl rfl ⟨a1,a2,rfl⟩ k (.cons (.ptr _) (.cons (.ptr _) (.cons (.ptr _) .nil)))
  exact this
 refine JZ (names:=["cls","args","kwargs"]) (st:=KA) K.F ∅ (λds=>∃a1 a2,ds=[.ptr 662,.ptr a1,.ptr a2]) hb Cl0 λenv h1 tk1 ds hP hsc hfr hL k1 hC O1=>?_
 obtain a1|a2|rfl:=mF hP
 refine wpAny_execs_cons ((bZ (n:=n) (b:=false) (out:=.nxt [("cls",.ptr 662),("args",.ptr a1),("kwargs",.ptr a2)]) (aC (aQ (a:=true) (b:=false) (aH (aA rfl rfl) (DW (by rfl) K.gb) (wX ∅ e1 eb (show Value.type "type"≠Value.type "tuple" by decide))) λ_=>aQ (a:=false) (b:=true) (aH (aA rfl rfl) (DW (by rfl) K.gs) uH) λw=>by injection w) rfl) bQ).go (A.deeper env) B env X _ _ _ O1 λfl s2 k2 o2=>?_)
 obtain rfl|O2:=bW o2
 refine wpAny_execs_cons (wpAny_Return_some (jI rfl rfl ∅ (cC O2 (by rfl) K.go.1 K.go.2 ∅ λpl=>?_)))
 have h5:Manifest.isStub "object"=false:=by decide +kernel
 have h6:handedIn (.builtin "object.__new__")=true:=by decide +kernel
 refine GV (prog:=C.prog) (w:=C.w) (K:=C.K) (T:="object") (name:="__new__") (v:=.builtin "object.__new__") O2.gl.k PyProof.Rows.meta_object h5 K.fc h6 ?_
 have kt:Keeps s2 {s2 with toks:=s2.toks+1}:=aV
 refine callWith_builtin rfl (pV (C:=C) (n:=n) (sc:=aD KA) (ds:=[.ptr 662]) (δ:=[("cls",.ptr 662),("args",.ptr a1),("kwargs",.ptr a2)]) (aF (aA rfl rfl) bM) (.inr ⟨_,_,rfl,λ_=>rfl⟩) (O2.on kt) λvs s3 k3 r3=>?_)
 obtain _|_|ra|rb|rfl:=iG (aR r3)
 obtain rfl:=bJ rb;obtain rfl:=cW ra
 have O3:=(O2.on kt).on k3
 rcases dZ (aB kt k3) with h3|tk3|rfl|kk3
 obtain h2|tk2|rfl|kk2:=dZ k2
 refine wpAny_call (OG O3.gl.k K.cls ?_)
 have off:∀b o,s.heap.get? b=some o->h3.get? b=some o:=λb o q=>kk3 b o (kk2 b o (λz=>by replace q:=hL▸z▸q;injection q) (λx z=>by injection tq (hC x b z) q) (k1 b o q))
 have nw:∀c,h3.get? c=none->s.heap.get? c=none:=λc e=>by
  cases q:s.heap.get? c with
  | none=>rfl
  | some o=>injection tq (off c o q) e
 refine hR _ h3.objs.size _ tk3 (λb o q=>Heap.get?_push_of_some _ (Heap.get?_push_of_some _ (off b o q))) (nw _ ?_) (nw _ aN) ?_ ?_
 . cases q:h3.get? (h3.objs.size+1) with
   | none=>rfl
   | some o=>exact absurd (Heap.lt_size q) (Nat.not_lt.mpr (Nat.le_succ _))
 . have:=Heap.get?_push_size (h:=h3.push emptyDict) (o:=instObj 662 h3.objs.size) (by rfl)
   rw[Heap.size_push] at this;exact this
 . exact Heap.get?_push_of_some _ (Heap.get?_push_size _ rfl)
end
theorem rH{name:Str}{d:D}{fs:List (Str×D)}(y:Str)(h:fs.lookup name=none):(fs++[(name,d)]).lookup y=((name,d)::fs).lookup y:=by
 induction fs with
 | nil=>rfl
 | cons p fs ih =>
  obtain⟨z,e⟩:=p
  rw[List.lookup_cons] at h
  by_cases q:(name==z)=true
  . replace h:=q▸h;injection h
  . simp only[Bool.not_eq_true] at q
    replace h:=q▸h
    rwa[List.cons_append,List.lookup_cons,List.lookup_cons,List.lookup_cons]
    have ih:=ih h
    rw[List.lookup_cons] at ih
    by_cases w:(y==z)=true
    . have yz:y=z:=by simpa using w
      have yn:(y==name)=false:=by
       rwa[yz];cases t:z==name
       . rfl
       . have:z=name:=by simpa using t
         replace q:=this▸q;simp at q
      rwa[w,yn];rfl
    . simp only[Bool.not_eq_true] at w
      rwa[w];exact ih
section
variable{C:Cx}{n:Nat}{sc:Scope}{δ:List (Str×D)}
theorem tH{o e:PySem.Expr}{name:Str}{ap pos:Pos}{k:Nat}{x dx Cl:Addr}{fs:List (Str×D)}{d:D}{I:bX}(hi:∀h,C.I.inv h->cG k h x dx Cl fs)(c:dK C.K Cl)(ht:takerIn C.K Cl name=some none)(hk:k<=100)(hin:fs.lookup name=none)
 (he:Ev C n sc δ e d) (hd:d.flat=true) (ho:Ev C n sc δ o (.ptr x)) (hdx:C.I.own dx)
 (hI:∀h h',C.I.inv h->Heap.SameBut dx h h'->cG (k+1) h' x dx Cl (fs++[(name,d)])->I.inv h') (hown:∀b,I.own b↔C.I.own b) (hlst:∀b,I.lst b->C.I.lst b)
 (hs:∀env,swapsWith e (some (.Attribute o name ap)) pos.line env=pure false:=by intro _;rfl):M1 C n sc δ (.Assign [.Attribute o name ap] e pos) (.nxt I δ):=by
 refine⟨λA B env X s Q E O bo h=>plainObj_wpAny_Assign_Attribute (he.go A B env X s _ _ O λv s1 k1 r1=>ho.go A B env X s1 _ _ (O.on k1) λw s2 k2 r2=>?_) (hs env)⟩
 obtain rfl:=cW r2
 have K:=aB k1 k2
 have O2:=O.on K
 rcases rW (hi _ O2.iv) with m|hm|h1|h2
 refine kA O2.gl.k c hm ht hk λh' sb im=>?_
 have hs':¬(m name).isSome=true:=by rwa[h2 name hin];decide
 replace im:=(if_neg hs')▸im
 have F':cG (k+1) h' x dx Cl (fs++[(name,d)]):=(cG.stored ⟨h1,h2⟩ (tC.of r1 hd) im).congr λy=>rH y hin
 revert k2 O2 hm sb;refine kE K ?_;clear K;intro h2' tk2 kk k2 O2 hm sb
 have off:∀b o,b≠dx->h2'.get? b=some o->h'.get? b=some o:=λb o q e=>(sb.2 b q).trans e
 have Bdx:B.get? dx=none:=bo dx hdx
 rcases EN hm.at with es|nn|_|_|_|D|_
 refine h _ _ ⟨h',_,rfl,λb o q1 q2 q3 q=>off b o (λz=>q1 (z▸hdx)) (kk b o q)⟩ ⟨rfl,?_⟩
 rcases aL O2.st with ρ|F|V
 refine⟨O2.rm,?_,?_,hI _ _ O2.iv sb F',λa q=>O2.ox a (hlst a q),ρ,?_,V.at λb o xb ⟨vs,nn,el⟩ q=>⟨xb,off b o (λz=>?_) q⟩⟩
 . refine O2.ho.imp id λ⟨e',a1,o,vs,a2,a3,a4⟩=>⟨e',a1,o,vs,off _ _ (λz=>?_) a2,a3,a4⟩
   replace a2:=D▸z▸a2;obtain rfl:=Option.some.inj a2;injection a3
 . intro a ha
   rcases eU (O2.xo a ha) with o|vs|nn|q1|q2
   refine⟨o,vs,nn,off _ _ (λz=>?_) q1,q2⟩
   replace q1:=D▸z▸q1;obtain rfl:=Option.some.inj q1;injection q2
 . rcases nU F.base with G|k0|hL|hC
   have neL:env.locals≠dx:=λz=>hL.2 (z▸hdx)
   have neC:∀y a,env.cells.lookup y=some a->a≠dx:=λy a q z=>(hC y a q).2 (z▸hdx)
   rcases aL F.ns with m0|hn|hm0
   refine⟨⟨⟨G.k,G.g,G.b,G.nl⟩,λb o q=>off b o (λz=>by replace q:=Bdx▸z▸q;injection q) (k0 b o q),⟨hL.1,λq=>hL.2 ((hown _).mp q)⟩,λy a q=>⟨(hC y a q).1,λz=>(hC y a q).2 ((hown _).mp z)⟩⟩,F.scope,F.kind,F.globals,F.builtins,⟨m0,hn.at' λo q=>off _ o neL q,hm0⟩,
    λy hy=>let ⟨a,q1,o,q2,q3⟩:=F.cells y hy;⟨a,q1,o,off _ _ (neC y a q1) q2,q3⟩,F.inj,λy a q=>let ⟨v,o,q2,q3⟩:=F.allc y a q;⟨v,o,off _ _ (neC y a q) q2,q3⟩⟩
 . subst z
   replace q:=D▸q;injection q with q;replace el:=q.symm▸el;exact absurd (congrArg Obj.data el) (by intro z;injection z)
noncomputable def bL(k:Nat)(x dx Cl:Addr)(fs:List (Str×D)):bX where
 own:=λb=>b=x\/b=dx
 lst:=λ_=>False
 inv:=λh=>cG k h x dx Cl fs
 at_:=λh h' I kk=>I.keeps (λo e=>kk x o (.inl rfl) e) λo e=>kk dx o (.inr rfl) e
 dom:=λh b I q=>by
  rcases mF I.dict with es|nn|e
  rcases q with rfl | rfl
  . exact⟨_,I.obj⟩
  . exact⟨_,e⟩
 seqs:=λh b o I q e l=>by
  rcases mF I.dict with es|nn|e'
  obtain vs|m|rfl:=mF l
  rcases q with rfl | rfl
  . replace e:=I.obj▸e;injection e with e;exact absurd (congrArg Obj.data e) (by intro z;injection z)
  . replace e:=e'▸e;injection e with e;exact absurd (congrArg Obj.data e) (by intro z;injection z)
theorem cG.new{h:Heap}{x dx Cl:Addr}(h1:h.get? x=some (instObj Cl dx))(h2:h.get? dx=some emptyDict):cG 0 h x dx Cl []:=by
 refine⟨λ_=>none,⟨h1,⟨[],0,h2,Nat.le_refl _,rfl,λ_=>rfl⟩,λz=>?_⟩,λy d e=>(by injection e),λ_ _=>rfl⟩
 replace h1:=h2▸z▸h1;injection h1 with h1;exact absurd (congrArg Obj.data h1) (by intro z;injection z)
theorem vJ{a b:Str}:Cm C n .NotEq (.str a) (.str b) (a != b):=by
 refine⟨?_⟩
 intro A X s va vb Q E rm ra rb _ _ h
 (obtain _|rfl:=aU (bN ra));(obtain _|rfl:=aU (bN rb));exact PyProof.Rows.ne_str (h s (aE s))
end
structure uI(C:Cx)(ob:Obj)(fd:FuncData)(fI fT:Addr)(obI:Obj)(fdI:FuncData)(rest:List Value):Prop where
 nw:RJ C ob fd
 rd:readsIn C.K 662 (.type "type")=true
 fn:findCls C.K (.ref 662) (.type "type") "__new__"=some (.get (.builtin "staticmethod.__get__") (.ref 159) .none (.ref 662))
 sm:recIn C.K 159 "staticmethod"=some (.ref 155::rest)
 cl:specialIn C.K (.ref 662) "__call__"=some (some (.builtin "type.__call__"))
 ty:instIn C.K (.ref 662) (.type "type")=some true
 mr:mroIn C.K 662 (.ref 662)=some true
 fi:findIn C.K (.ref 662) "__init__"=some (some (.ref fI))
 ti:typeIn C.K (.ref fI)=some (.type "function")
 F:mG C fI (fH 24 1) obI fdI
 bind:∀(x v:Value) (A:Around) (s0:Shared) (Q:List (Str×Value)->Shared->Prop) (E:Value->Shared->Prop),C.K.In s0.heap->(∀tk,Q [("self",x),("initial_value",v),("newline",.str "\n" tk)] s0)->wpAny C.M A (bindArgs fdI ⟨[x,v],[]⟩) Q E s0
 ck:dK C.K 662
 fs:∀y∈nD,findIn C.K (.ref 662) y=some none
 tr:oC C 662 "_StringIO__translated" fT (fH 24 2) ["self","s"]
 b:Bs C
section
variable{C:Cx}{n:Nat}{sc:Scope}{δ:List (Str×D)}{ob:Obj}{fd:FuncData}{fI fT:Addr}{obI:Obj}{fdI:FuncData}{rest:List Value}
theorem uI.turn(K:uI C ob fd fI fT obI fdI rest)(I:bX):uI (C.turn I) ob fd fI fT obI fdI rest :=
 ⟨⟨K.nw.cls,⟨K.nw.F.hK,K.nw.F.hd,K.nw.F.hcode,K.nw.F.hbody,K.nw.F.hscope,K.nw.F.hcl,K.nw.F.hg,K.nw.F.hb⟩,K.nw.bind,K.nw.kb,K.nw.gb,K.nw.gs,K.nw.go,K.nw.fc⟩,K.rd,K.fn,K.sm,K.cl,K.ty,K.mr,K.fi,K.ti,⟨K.F.hK,K.F.hd,K.F.hcode,K.F.hbody,K.F.hscope,K.F.hcl,K.F.hg,K.F.hb⟩,K.bind,K.ck,K.fs,K.tr.turn I,K.b.turn I⟩
theorem qV{k:Nat}{x dx:Addr}{fs:List (Str×D)}(hI:C.I=bL k x dx 662 fs)(K:uI C ob fd fI fT obI fdI rest){o e:PySem.Expr}{name:Str}{ap pos:Pos}{d:D}(hm:name∈nD)(hk:k<=100)(hin:fs.lookup name=none)(he:Ev C n sc δ e d)(hd:d.flat=true)(ho:Ev C n sc δ o (.ptr x))
 (hs:∀env,swapsWith e (some (.Attribute o name ap)) pos.line env=pure false:=by intro _;rfl):M1 C n sc δ (.Assign [.Attribute o name ap] e pos) (.nxt (bL (k+1) x dx 662 (fs++[(name,d)])) δ) :=
 tH (k:=k) (x:=x) (dx:=dx) (Cl:=662) (fs:=fs) (λh H=>by replace H:=hI▸H;exact H) K.ck (hW (K.fs _ hm)) hk hin he hd ho (by rwa[hI];exact .inr rfl) (λh h' H sb F=>F) (λb=>by rwa[hI];exact Iff.rfl) (λb q=>q.elim) hs
theorem uJ{k:Nat}{x dx:Addr}(hI:C.I=bL k x dx 662 (kM "" 0))(K:uI C ob fd fI fT obI fdI rest)(line:Str):Fp C (n+1) fT pl [.ptr x,.str line] (.str line):=by
 refine DP (o:=.ret (.str line)) K.tr.F rfl ∅ ?_ (.inl rfl)
 refine bD (bS (d:=.str "\n") (pU (k:=k) (x:=x) (dx:=dx) (Cl:=662) (fs:=kM "" 0) (λh H=>by replace H:=hI▸H;exact H) K.ck (K.fs _ ∅) (aA rfl rfl) rfl) ∅) ?_
 refine bD (bZ (b:=false) (aC (aH (aA rfl rfl) cB cH) rfl) bQ) ?_
 refine bD (bZ (b:=false) (aC (fA (a:=false) (b:=false) (aC (aH (aA rfl rfl) aT cL) ∅) λ_=>fA (a:=false) (b:=false) (aC (aH (aA rfl rfl) aT cL) ∅) λ_=>vE) rfl) bQ) ?_
 exact bV (bO (aA rfl rfl))
theorem KD{x dx:Addr}(hI:C.I=bL 0 x dx 662 [])(K:uI C ob fd fI fT obI fdI rest)(line:Str):MX C (n+1) (aD (fH 24 1)) [("self",.ptr x),("initial_value",.str line),("newline",.str "\n")] (aX (fH 24 1)) (.nxt (bL 3 x dx 662 (kM line 0)) [("self",.ptr x),("initial_value",.str line),("newline",.str "\n")]):=by
 refine aP (bB (bZ (b:=false) (aC (aQ (a:=true) (b:=false) (aC (aH (aA rfl rfl) cB dG) rfl) λ_=>aQ (a:=false) (b:=true) (aC (aH (bA (pQ (d:=.str "\n") (aA rfl rfl) rfl (by rfl) K.b.type.1 K.b.type.2) rfl) (lH (by rfl) K.b.str.1 K.b.str.2) (nA (T:="str") (by rfl))) ∅) λw=>by injection w) rfl) bQ)) (λ_ q=>q) ?_
 refine aP (bB (bZ (b:=false) (aC (aQ (a:=true) (b:=false) (aC (aH (aA rfl rfl) cB dG) rfl) λ_=>aQ (a:=true) (b:=false) (aC (aH (aA rfl rfl) aT vJ) ∅) λ_=>aQ (a:=false) (b:=true) (aC (aH (aA rfl rfl) aT vJ) ∅) λw=>by injection w) rfl) bQ)) (λ_ q=>q) ?_
 refine aP (bB (bZ (b:=false) (aC (aQ (a:=true) (b:=false) (aC (aH (aA rfl rfl) cB dG) rfl) λ_=>aQ (a:=false) (b:=true) (aC (aH (bA (pQ (d:=.str line) (aA rfl rfl) rfl (by rfl) K.b.type.1 K.b.type.2) rfl) (lH (by rfl) K.b.str.1 K.b.str.2) (nA (T:="str") (by rfl))) ∅) λw=>by injection w) rfl) bQ)) (λ_ q=>q) ?_
 refine aP (qV (dx:=dx) hI K ∅ ∅ rfl (aA rfl rfl) rfl (aA rfl rfl)) (λb q=>by rwa[hI];exact q) ?_
 refine aP (qV (C:=C.turn _) (dx:=dx) rfl (K.turn _) ∅ ∅ (by rfl) aT rfl (aA rfl rfl)) (λb q=>q) ?_
 refine aP (qV (C:=C.turn _) (dx:=dx) rfl (K.turn _) ∅ ∅ (by rfl) aG rfl (aA rfl rfl)) (λb q=>q) ?_
 have hI3:(C.turn (bL 3 x dx 662 (kM "" 0))).I=bL 3 x dx 662 (kM "" 0):=rfl
 refine aO (aW (b:=true) (aC (aH (aA rfl rfl) cB dG) rfl) (aO ?_))
 exact lS (C:=C.turn (bL 3 x dx 662 (kM "" 0))) (k:=3) (x:=x) (dx:=dx) (Cl:=662) (fs:=kM "" 0) (d:=.str line) (λh H=>H) K.ck (hW (K.fs _ ∅)) ∅ (by rfl) (wP ⟨λh H=>H,K.ck⟩ (K.tr.turn _) (by rfl) (aA rfl rfl) (bY (aA rfl rfl)) (.inr ⟨_,_,rfl,λ_=>rfl⟩) (uJ (C:=C.turn (bL 3 x dx 662 (kM "" 0))) hI3 (K.turn _) line) ∅) rfl (aA rfl rfl) (.inr rfl) (.inr trivial)
  (λh h' H sb F=>F) (λb=>Iff.rfl) (λb q=>q.elim)
end
theorem BU{M:Model}{K:Frag}{h:Heap}(X:K.In h)(S:GU K):Looks M h (Bind.madeBy (.ref 662)) none:=S.mb M h X
noncomputable abbrev RK(C:Addr)(rest:List Value)(kw:List (Str×Value)):Code:=.builtin "type.__call__" ⟨.ref C::rest,kw⟩
theorem Rm.under{n:Nat}{A:Around}{Cc:Addr}{rest:List Value}{kw:List (Str×Value)}(r:Rm (n+1) A):Rm n (A.under (RK Cc rest kw)):=by
 have e1:(A.under (RK Cc rest kw)).depth=A.depth+1:=rfl
 have e2:(A.under (RK Cc rest kw)).units=A.units+1:=rfl
 have e3:(A.under (RK Cc rest kw)).handled=A.handled:=rfl
 refine⟨?_,?_,λq=>?_⟩
 . rwa[e1];have:=r.d;lia
 . rwa[e2];have:=r.u;lia
 . rwa[e3];exact r.hn (by exact Nat.le_succ_of_le (by assumption))
section
variable{C:Cx}{n:Nat}{sc:Scope}{δ:List (Str×D)}{ob:Obj}{fd:FuncData}{fI fT:Addr}{obI:Obj}{fdI:FuncData}{rest:List Value}
theorem KE(K:uI C ob fd fI fT obI fdI rest){A:Around}{B:Heap}{X:Addr->Prop}{s:Shared}{line:Str}{tk:Tok}{R:Result->Shared->Prop}(Cl0:Cl C (n+3) A B X s)
 (hR:∀S dS h' tk',(∀b o,s.heap.get? b=some o->h'.get? b=some o)->s.heap.get? S=none->s.heap.get? dS=none->cG 3 h' S dS 662 (kM line 0)->R (.ok (.ret (.ref S))) {s with heap:=h',toks:=tk'}):codeAny C.M A (.call (.ref 662) ⟨[.str line tk],[]⟩) R s:=by
 have XK:C.K.In s.heap:=(Cl0.gl.keeps Cl0.kb).k
 rcases UT K.nw.cls.k1 with v0|v2|v3|N|e1
 obtain⟨hh,g,d,t,os⟩:=s
 have Y:Mk C.M hh 662:=⟨⟨_,_,_,_,XK _ _ e1,rfl,rfl,rfl⟩,BU XK K.nw.cls,looks_mroIn XK K.mr,looks_specialIn XK K.cl,looks_instIn XK K.ty⟩
 refine RI (fN:=155) (fI:=fI) Y (λA' Q E q=>?_) λt'=>?_
 . refine cls_bind (s:=⟨hh,g,d,t,os⟩) XK K.rd K.fn (wpAny_call (sm_get (s:=⟨hh,g,d,t+1,os⟩) XK K.sm ?_))
   exact handed_on rfl (q _)
 . have Cl1:Cl C (n+1+1) (A.under (RK 662 [.str line tk] [])) B X ⟨hh,g,d,t',os⟩:=⟨Cl0.rm.under,Cl0.ho,Cl0.xo,Cl0.gl,Cl0.kb,Cl0.bo,Cl0.iv,Cl0.ox⟩
   refine BS (n:=n+1) K.nw Cl1 λx dx h' tk' kp nx ndx ex edx=>?_
   have XK':C.K.In h':=XK.keeps kp
   have Lt:Looks C.M h' (typeOf (.ref x)) (.ref 662):=(Looks.ld ex).andThen .now
   refine⟨x,rfl,?_,?_,bind_fn XK' (.ref x) K.ti,?_⟩
   . exact Lt.andThen (looks_mroIn XK' K.mr)
   . exact Lt.andThen (looks_findIn XK' K.fi)
   . have nB:∀c,hh.get? c=none->B.get? c=none:=λc e=>by
      cases q:B.get? c with
      | none=>rfl
      | some o=>injection tq (Cl0.kb c o q) e
     have Cl2:Cl (C.turn (bL 0 x dx 662 [])) (n+1+1) (A.under (RK 662 [.str line tk] [])) B X ⟨h',g,d,tk',os⟩ :=
      ⟨Cl0.rm.under,Cl0.ho.keeps kp,Cl0.xo.keeps kp,⟨Cl0.gl.k,Cl0.gl.g,Cl0.gl.b,Cl0.gl.nl⟩,λb o e=>kp b o (Cl0.kb b o e),λb q=>q.elim (λz=>z▸nB _ nx) (λz=>z▸nB _ ndx),cG.new ex edx,λa q=>q.elim⟩
     have hb:∀(A':Around) (Q:List (Str×Value)->Shared->Prop) (E:Value->Shared->Prop),(∀vs ds s',vs.length=(["self","initial_value","newline"]:List Str).length->ds.length=(["self","initial_value","newline"]:List Str).length->ds=[.ptr x,.str line,.str "\n"]->Keeps ⟨h',g,d,tk',os⟩ s'->dI X s'.heap vs ds->Q ((["self","initial_value","newline"]:List Str).zip vs) s')->wpAny C.M A' (bindArgs fdI ⟨[.ref x,.str line tk],[]⟩) Q E ⟨h',g,d,tk',os⟩:=by
      intro A' Q E h
      refine K.bind (.ref x) (.str line tk) A' ⟨h',g,d,tk',os⟩ Q E XK' λtk2=>?_
      have:=h [.ref x,.str line tk,.str "\n" tk2] [.ptr x,.str line,.str "\n"] ⟨h',g,d,tk',os⟩ rfl rfl rfl (aE _) (.cons (.ptr _) (.cons (.str _ _) (.cons (.str _ _) .nil)))
      exact this
     have FI:=(K.turn (bL 0 x dx 662 [])).F
     refine JZ (C:=C.turn (bL 0 x dx 662 [])) (names:=["self","initial_value","newline"]) (st:=fH 24 1) FI ∅ (λds=>ds=[.ptr x,.str line,.str "\n"]) hb Cl2 λenv h1 tk1 ds hP hsc hfr hL k1 hC O1=>?_
     subst hP
     refine (KD (n:=n) (C:=C.turn (bL 0 x dx 662 [])) rfl (K.turn _) line).go _ B env X _ _ _ O1 Cl2.bo λfl s2 k2 o2=>?_
     obtain rfl|O2:=bW o2
     obtain h2|tk2|rfl|k2:=dZ k2
     refine⟨rfl,hR x dx h2 tk2 (λb o q=>?_) nx ndx O2.iv⟩
     refine k2 b o (λz=>?_) (λz=>?_) (λy z=>?_) (k1 b o (kp b o q))
     . dsimp only at q
       rcases z with rfl | rfl
       . injection tq nx q
       . injection tq ndx q
     . have:=kp b o q;replace this:=z▸this;dsimp only at hL;injection tq hL this
     . have:=kp b o q;have w:=hC y b z;dsimp only at w;injection tq w this
end
theorem tI:isSubtype (.type "KeyError") (.type "LookupError")=pure true:=by rwa[isSubtype_type ..];kernel_rfl
section
variable{prog:Program}{w:World}{A:Around}{E:Value->Shared->Prop}{s:Shared}
noncomputable def rI(prog:Program)(w:World)(h:Heap)(T:Addr)(c0:Int):Prop:=h.DictOf (intKind prog w) T [(c0,.none)]/\(T==sysModules)=false
theorem rI.keeps{h h':Heap}{T:Addr}{c0:Int}(x:rI prog w h T c0)(k:∀b o,h.get? b=some o->h'.get? b=some o):rI prog w h' T c0 :=
 let ⟨⟨o,es,ep,ho,r⟩,n⟩:=x;⟨⟨o,es,ep,k _ _ ho,r⟩,n⟩
theorem zH{T:Addr}{c:Nat}{c0:Int}{Q:Str.Mapped->Shared->Prop}(hh:A.handled=none)(D:rI prog w s.heap T c0)(hc:(c:Int)≠c0)(h:∀h' tk,(∀b o,s.heap.get? b=some o->h'.get? b=some o)->Q .keep {s with heap:=h',toks:=tk}) :
 wpAny (model prog w) A (Str.tableLookup (.ref T) c) Q E s:=by
 unfold Str.tableLookup
 refine wpAny_bind (wpAny_attempt (wpAny_bind (wpAny_mkInt ?_)))
 refine wpAny_getItem_missing_of (knd:=intKind prog w) (k:=(c:Int)) (f:=valueAt [(c0,.none)]) ?_ D.2 hh D.1.mapOf ?_ λh' e N=>?_
 . exact intKind_is prog w _ _
 . simp[valueAt,hc.symm]
 . rcases iG N.there with ob|t|he|hcl|_
   refine wpAny_bind (wpAny_isInstance (T:="KeyError") (b:=true) ⟨_,he,hcl⟩ tI ?_)
   exact wpAny_bind (wpAny_rule (wpAny_pure (h h' _ N.keeps)))
theorem BV(l:List Nat):∀(acc:Array Nat),(l.map λc=>(⟨#[c]⟩:Str)).foldl (λacc p=>acc++p.cps) acc=acc++l.toArray:=by
 induction l with
 | nil=>intro acc;rfl
 | cons c l ih =>
  intro acc
  rwa[List.map_cons,List.foldl_cons,ih ..]
  apply Array.toList_inj.mp
  simp
theorem tJ{T:Addr}{x:Str}{t:Tok}{c0:Int}{Q:Value->Shared->Prop}(hh:A.handled=none)(D:rI prog w s.heap T c0)(hx:∀c∈x.cps.toList,(c:Int)≠c0)(h0:(x.length==0)=false)(hf:x.cps.all (·<128)=false)(hz:x.length<=1000)
 (h:∀h' t' tk,(∀b o,s.heap.get? b=some o->h'.get? b=some o)->Q (.str x t') {s with heap:=h',toks:=tk}) :
 wpAny (model prog w) A (call (.builtin "str.translate") [.str x t,.ref T]) Q E s:=by
 refine wpAny_call_entry PySem.F.slot_str_translate (typeIs_str _ _ _) PySem.F.entry_str_translate ?_ (PySem.F.args_str_translate_2 _ _)
 unfold Builtin.«str.translate»
 refine wpAny_bind (wpAny_of_eq (a:=(.str x t,x,.ref T)) rfl ?_)
 dsimp only
 rwa[if_neg (by refine zl h0 ?_;decide)]
 refine wpAny_bind ?_
 rwa[hf]
 refine forIn_array_ _ (λrest (st:List Str×Nat×Bool×List (Nat×Option Nat)×Bool) s'=>∃done,x.cps.toList=done++rest/\st=((done.map λc=>(⟨#[c]⟩:Str)).reverse,done.length,false,[],false)/\∃h' tk,s'={s with heap:=h',toks:=tk}/\∀b o,s.heap.get? b=some o->h'.get? b=some o) _ ?_ ?_ x.cps _ ⟨[],rfl,rfl,s.heap,s.toks,rfl,λ_ _ e=>e⟩
 . rintro c rest st s' ⟨done,e,rfl,h',tk,rfl,k⟩
   have hl:done.length+rest.length+1=x.length:=by
    have:=congrArg List.length e
    simp at this
    have e2:x.length=x.cps.size:=rfl
    exact Eq.symm (by assumption)
   have tl:Str.tooLong done.length=false:=by unfold Str.tooLong;simp;rwa[sizeLine_eq];lia
   have hcx:(c:Int)≠c0:=hx c (by rwa[e];simp)
   dsimp only
   rwa[tl,if_neg Bool.false_ne_true]
   refine wpAny_bind (zH (s:={s with heap:=h',toks:=tk}) hh (D.keeps k) hcx λh2 tk2 k2=>?_)
   refine wpAny_pure ⟨done++[c],by rwa[e];simp,?_,h2,tk2,rfl,λb o q=>k2 b o (k b o q)⟩
   simp
 . rintro st s' ⟨done,e,rfl,h',tk,rfl,k⟩
   have hd:done=x.cps.toList:=by rwa[e];simp
   have tl:Str.tooLong done.length=false:=by
    have e2:x.length=x.cps.size:=rfl
    unfold Str.tooLong;rwa[hd];simp;rwa[sizeLine_eq];exact Nat.le_trans (by assumption) ∅
   dsimp only
   rwa[tl,if_neg Bool.false_ne_true,List.reverse_reverse ..,BV ..,hd]
   have ex:(⟨(#[]:Array Nat)++x.cps.toList.toArray⟩:Str)=x:=by apply Str.ext';simp
   rwa[ex]
   refine wpAny_bind (wpAny_mkStr ?_ (by rwa[sizeLine_eq];exact Nat.le_trans (by assumption) ∅))
   exact wpAny_pure ⟨_,rfl,h _ _ _ k⟩
end
theorem tK:checkTypeCall "dict" ⟨[],[]⟩=pure ():=by kernel_rfl
theorem uK:checkBuiltinCall "dict.__new__" ⟨[.type "dict"],[]⟩=pure ():=by kernel_rfl
section
variable{prog:Program}{w:World}{A:Around}{E:Value->Shared->Prop}{s:Shared}
theorem BW{Q:Value->Shared->Prop}(h:Q (.ref s.heap.objs.size) {s with heap:=s.heap.push emptyDict}):wpAny (model prog w) A (call (.type "dict") []) Q E s:=by
 refine callType_codes (Q₁:=λobj s₁=>obj=.ref s.heap.objs.size/\s₁={s with heap:=s.heap.push emptyDict}) PySem.F.kt_called_dict tK PySem.F.entry_dict_init ?_ ?_
 . refine codeAny_call_builtin PySem.F.kt_plain_dict_new PySem.F.kt_entry_dict_new (wpAny_of_eq uK ?_)
   have hsub:=PySem.F.kt_sub_dict
   have hmro:=PySem.F.kt_mro_dict
   obtain⟨hp,g,d,tk,os⟩:=s
   unfold Builtin.«dict.__new__»
   wp_walk
   exact⟨rfl,rfl⟩
 . rintro obj s₁ ⟨rfl,rfl⟩
   have hT:({s with heap:=s.heap.push emptyDict}:Shared).TypeIs (.ref s.heap.objs.size) "dict":=⟨_,Heap.get?_push_size _ rfl,rfl⟩
   refine⟨hT,PySem.F.args_dict_init_1 _,?_⟩
   unfold Builtin.«dict.__init__»
   refine wpAny_bind ?_
   unfold Builtin.Dict.selfAndRest
   refine wpAny_bind (wpAny_notOrdered_dict hT ?_)
   show wpAny _ _ (pure (s.heap.objs.size,([]:List Value))) _ _ _
   refine wpAny_pure ?_
   show wpAny _ _ (Builtin.Dict.addKeywords _ [] >>= λ_=>ret .none) _ _ _
   refine wpAny_bind ?_
   unfold Builtin.Dict.addKeywords
   exact wpAny_pure (wpAny_pure ⟨rfl,h⟩)
end
theorem KG:entryFor table "dict.fromkeys"=some Builtin.«dict.fromkeys»:=by first | exact entryFor_of_fast (by kernel_rfl) | exact entryFor_of_tree (by kernel_rfl)
theorem vK:entryFor table "dict.fromkeys.loop"=some Builtin.«dict.fromkeys.loop»:=by first | exact entryFor_of_fast (by kernel_rfl) | exact entryFor_of_tree (by kernel_rfl)
theorem zI:plainId "dict.fromkeys"=true:=by decide +kernel
theorem oB:plainId "dict.fromkeys.loop"=true:=by decide +kernel
theorem KH(x:Value):checkBoundCall "dict.fromkeys" ⟨[.type "dict",x],[]⟩=pure ():=by kernel_rfl
theorem rJ:isType (.type "dict")=pure true:=by kernel_rfl
noncomputable abbrev RL:Obj:={cls:=.type "builtin_function_or_method",data:=.fields #[.builtin "dict.fromkeys",.type "dict"]}
section
variable{prog:Program}{w:World}{A:Around}{E:Value->Shared->Prop}{s:Shared}
theorem RM{D it:Addr}{x:Str}{t:Tok}{i:Nat}{R:Result->Shared->Prop}(hh:A.handled=none)(hit:s.heap.IsStrIter it "str_ascii_iterator" x t i)(hx:x.cps[i]?=none)
 (h:∀h' tk,(∀b o,b≠it->s.heap.get? b=some o->h'.get? b=some o)->R (.ok (.ret (.ref D))) {s with heap:=h',toks:=tk}):codeAny (model prog w) A (.builtin "dict.fromkeys.loop" ⟨[.ref D,.ref it,.none],[]⟩) R s:=by
 refine codeAny_builtin vK ?_
 rwa[Around.under_plainId oB _]
 unfold Builtin.«dict.fromkeys.loop»
 refine wpAny_bind (wpAny_pyNext_ascii_end (A:=A.in1) hh hit hx λh' e=>?_)
 exact wpAny_pure (h h' s.toks e)
theorem OH{D it:Addr}{x:Str}{t:Tok}{c:Nat}{R:Result->Shared->Prop}(hh:A.handled=none)(hit:s.heap.IsStrIter it "str_ascii_iterator" x t 0)(hx:x.cps=#[c])(hD:s.heap.DictOf (strKind prog w) D [])(hne:D≠it)
 (h:∀h' tk,(∀b o,b≠it->b≠D->s.heap.get? b=some o->h'.get? b=some o)->h'.DictOf (strKind prog w) D [(⟨#[c]⟩,.none)]->R (.ok (.ret (.ref D))) {s with heap:=h',toks:=tk}):codeAny (model prog w) A (.builtin "dict.fromkeys.loop" ⟨[.ref D,.ref it,.none],[]⟩) R s:=by
 refine codeAny_builtin vK ?_
 rwa[Around.under_plainId oB _]
 unfold Builtin.«dict.fromkeys.loop»
 refine wpAny_bind (wpAny_pyNext_ascii_item (c:=c) hit (by rwa[hx];rfl) λh1 hi1 sb1=>?_)
 have hD1:h1.DictOf (strKind prog w) D []:=hD.extBut sb1.extBut hne
 refine wpAny_bind (wpAny_typeOf (s:={s with heap:=h1,toks:=s.toks+1}) hD1.typeIs ?_)
 rwa[if_pos ∅]
 refine wpAny_bind (wpAny_of_eq (a:=D) rfl (wpAny_bind (wpAny_holding ?_)))
 refine wpAny_dictSet_pairs (knd:=strKind prog w) (k:=⟨#[c]⟩) (strKind_is prog w _ _) hD1 (λh2 hD2 sb2=>?_) ∅
 refine wpAny_pure ⟨plainId_quiet oB _,?_⟩
 have hi2:h2.IsStrIter it "str_ascii_iterator" x t 1:=hi1.extBut sb2.extBut hne.symm
 refine RM (s:={s with heap:=h2,toks:=_}) hh hi2 (by rwa[hx];rfl) λh3 tk k3=>?_
 have e:stored ([]:List (Str×Value)) ⟨#[c]⟩ .none=[(⟨#[c]⟩,.none)]:=rfl
 replace hD2:=e▸hD2
 refine h h3 tk (λb o q1 q2 q=>k3 b o q1 ((sb2.2 b q2).trans ((sb1.2 b q1).trans q))) (let ⟨o,es,ep,ho,r⟩:=hD2;⟨o,es,ep,k3 D o hne ho,r⟩)
theorem OI{u:Addr}{x:Str}{t:Tok}{c:Nat}{Q:Value->Shared->Prop}(hh:A.handled=none)(hu:s.heap.get? u=some RL)(hx:x.cps=#[c])(hc:x.cps.all (·<128)=true)
 (h:∀D h' tk,(∀b o,s.heap.get? b=some o->h'.get? b=some o)->s.heap.objs.size<=D->h'.DictOf (strKind prog w) D [(⟨#[c]⟩,.none)]->Q (.ref D) {s with heap:=h',toks:=tk}):wpAny (model prog w) A (call (.ref u) [.str x t]) Q E s:=by
 refine wpAny_call (codeAny_of_tree ?_)
 show wpAny _ A.in1 (callAny (.ref u) ⟨[.str x t],[]⟩) _ _ s
 simp only[callAny]
 refine wpAny_bind (wpAny_load hu ?_)
 simp only[show (Value.type "builtin_function_or_method"==Value.type "method"||Value.type "builtin_function_or_method"==Value.type "builtin_function_or_method"||Value.type "builtin_function_or_method"==Value.type "method-wrapper")=true by decide,if_true]
 show wpAny _ _ (checkBoundCall "dict.fromkeys" ⟨[.type "dict",.str x t],[]⟩ >>= λ_=>again (Code.builtin "dict.fromkeys" ⟨[.type "dict",.str x t],[]⟩)) _ _ _
 refine wpAny_bind (wpAny_of_eq (KH _) (wpAny_pure ⟨plainId_quiet zI _,codeAny_builtin KG ?_⟩))
 rwa[Around.under_plainId zI _]
 unfold Builtin.«dict.fromkeys»
 refine wpAny_bind (wpAny_of_eq rJ ?_)
 rwa[if_neg ∅]
 refine wpAny_bind (wpAny_of_eq PySem.F.kt_sub_dict ?_)
 rwa[if_neg ∅,if_neg (by show ¬((!true)=true);decide)]
 refine wpAny_bind (wpAny_rule (wpAny_bind (wpAny_pure ?_)))
 dsimp only
 refine wpAny_bind (BW ?_)
 have hD0:(s.heap.push emptyDict).DictOf (strKind prog w) s.heap.objs.size []:=Heap.DictOf.new s.heap
 refine wpAny_holding (wpAny_bind (wpAny_typeOf (s:={s with heap:=s.heap.push emptyDict}) (T:="str") rfl ?_))
 refine wpAny_bind (wpAny_typeOf (s:={s with heap:=s.heap.push emptyDict}) hD0.typeIs ?_)
 rwa[if_neg ∅]
 refine wpAny_bind (wpAny_typeOf (s:={s with heap:=s.heap.push emptyDict}) hD0.typeIs ?_)
 rwa[if_neg ∅]
 refine wpAny_bind (wpAny_pyIter_strU ?_)
 refine wpAny_pure ⟨plainId_quiet oB _,?_⟩
 have eT:strIterType x="str_ascii_iterator":=by unfold strIterType;rwa[hc];rfl
 rwa[eT]
 have hne:s.heap.objs.size≠(s.heap.push emptyDict).objs.size:=by rwa[Heap.size_push ..];exact Nat.ne_of_lt (Nat.lt_succ_self _)
 have hit:((s.heap.push emptyDict).push {cls:=.type "str_ascii_iterator",data:=.fields #[.str x t,.int 0 0]}).IsStrIter (s.heap.push emptyDict).objs.size "str_ascii_iterator" x t 0:=⟨{cls:=.type "str_ascii_iterator",data:=.fields #[.str x t,.int 0 0]},Heap.get?_push_size _ rfl,rfl,rfl⟩
 refine OH (s:={s with heap:=_}) (A:=A) hh hit hx (hD0.push _) hne λh' tk k hD=>?_
 refine h _ h' tk (λb o q=>k b o (λz=>?_) (λz=>?_) (Heap.get?_push_of_some _ (Heap.get?_push_of_some _ q))) (Nat.le_refl _) hD
 . rw[z,Heap.size_push] at q;exact absurd (Heap.lt_size q) (Nat.not_lt.mpr (Nat.le_succ _))
 . replace q:=z▸q;exact absurd (Heap.lt_size q) (Nat.lt_irrefl _)
end
theorem BX:typeLookup (.type "str") "__getattribute__"=pure (some (.builtin "object.__getattribute__")):=by rwa[typeLookup_type ..,builtinLookup_eq_fast];kernel_rfl
theorem KI:typeLookup (.type "str") "__getattr__"=pure none:=by rwa[typeLookup_type ..,builtinLookup_eq_fast];kernel_rfl
theorem KJ:typeLookup (.type "str") "maketrans"=pure (some (.builtin "str.maketrans")):=by rwa[typeLookup_type ..,builtinLookup_eq_fast];kernel_rfl
theorem QD:typeOf (.builtin "str.maketrans")=pure (.type "builtin_function_or_method"):=by show builtinType _=_;rwa[builtinType_eq_fast];kernel_rfl
theorem RN:typeLookup (.type "builtin_function_or_method") "__get__"=pure none:=by rwa[typeLookup_type ..,builtinLookup_eq_fast];kernel_rfl
theorem GW:entryFor table "object.__getattribute__"=some Builtin.«object.__getattribute__»:=by first | exact entryFor_of_fast (by kernel_rfl) | exact entryFor_of_tree (by kernel_rfl)
theorem KL(a b:Value):argsOk "object.__getattribute__" ⟨[a,b],[]⟩:=by unfold argsOk;kernel_rfl
theorem tL:onTheHeap (.type "str")=false:=by decide +kernel
section
variable{prog:Program}{w:World}{A:Around}{E:Value->Shared->Prop}
theorem OJ{x:Str}{t:Tok}{h:Heap}{g:Array GenState}{d:Drawn}{tk:Nat}{os:OsState}{Q:Value->Shared->Prop}(hq:∀tk,Q (.builtin "str.maketrans") ⟨h,g,d,tk,os⟩):wpAny (model prog w) A (getAttr (.str x t) "maketrans" false) Q E ⟨h,g,d,tk,os⟩:=by
 have L1:Looks (model prog w) h (typeLookup (.type "str") "__getattribute__") (some (.builtin "object.__getattribute__")):=Looks.of_pure BX
 have L2:Looks (model prog w) h (typeLookup (.type "str") "__getattr__") none:=Looks.of_pure KI
 have L3:Looks (model prog w) h (typeLookup (.type "str") "maketrans") (some (.builtin "str.maketrans")):=Looks.of_pure KJ
 have L4:Looks (model prog w) h (typeOf (.builtin "str.maketrans")) (.type "builtin_function_or_method"):=Looks.of_pure QD
 have L5:Looks (model prog w) h (typeLookup (.type "builtin_function_or_method") "__get__") none:=Looks.of_pure RN
 unfold getAttr
 refine wpAny_bind (wpAny_mkText ?_)
 unfold getAttrBy
 refine wpAny_holding (wpAny_bind (wpAny_typeOf (T:="str") rfl (wpAny_bind (wpAny_of_eq BX ?_))))
 dsimp only
 rwa[tL,Bool.false_and ..,if_neg Bool.false_ne_true]
 unfold getAttrByItsOwn
 refine wpAny_bind (wpAny_of_eq (a:=none) (by unfold hookBefore;rwa[tL];rfl) (wpAny_bind (wpAny_attempt (wpAny_holding ?_))))
 unfold callGetattribute boundAndCalled
 rwa[Bool.false_and ..,if_neg Bool.false_ne_true]
 refine wpAny_bind (wpAny_of_eq (PySem.F.slot_str_getattribute.bind _) ?_)
 show wpAny _ _ (call (.builtin "object.__getattribute__") [.str x t,.str "maketrans" tk]) _ _ _
 refine wpAny_call_entry PySem.F.slot_str_getattribute (typeIs_str _ _ _) GW ?_ (KL _ _)
 unfold Builtin.«object.__getattribute__»
 unfold ObjectAttr.find
 iterate 60 (try lk)
 exact nd_pure ⟨_,rfl,handed_on (by decide +kernel) (hq _)⟩
theorem OK:(Value.type "builtin_function_or_method" != Value.type "function"&&Value.type "builtin_function_or_method" != Value.type "method_descriptor"&&Value.type "builtin_function_or_method" != Value.type "wrapper_descriptor")=true:=∅
theorem OL{x:Str}{t:Tok}{s:Shared}{pl:Sem Bool}{Q:Value×List Value->Shared->Prop}(hq:∀tk,Q (.builtin "str.maketrans",[]) {s with toks:=tk}):wpAny (model prog w) A (getMethod (.str x t) "maketrans" pl) Q E s:=by
 obtain⟨h,g,d,tk,os⟩:=s
 unfold getMethod
 refine wpAny_bind (wpAny_specialOf (name:="__getattribute__") (T:="str") rfl BX ?_)
 dsimp only
 rwa[if_neg (by refine zl PySem.F.canon_object_ga ?_;decide)]
 refine wpAny_bind (wpAny_specialOf (name:="__getattr__") (T:="str") rfl KI ?_)
 rwa[if_neg (show ¬((none:Option Value).isSome=true) by decide)]
 refine wpAny_bind (wpAny_specialOf (name:="maketrans") (T:="str") rfl KJ ?_)
 dsimp only
 refine wpAny_bind (wpAny_of_eq QD ?_)
 rwa[if_pos OK]
 show wpAny _ _ (getAttr (.str x t) "maketrans" false >>= λv=>pure (v,[])) _ _ _
 exact wpAny_bind (OJ λtk=>wpAny_pure (hq tk))
theorem wY:typeOf (.type "dict")=pure (.type "type"):=by kernel_rfl
theorem TL:typeOf (.builtin "dict.fromkeys")=pure (.type "classmethod_descriptor"):=by show builtinType _=_;rwa[builtinType_eq_fast];kernel_rfl
theorem KM:(kfb_private% "ownerAndName") "dict.fromkeys"=("dict","fromkeys"):=by first | decide +kernel | kernel_rfl
theorem OM:findCls [] (.type "dict") (.type "type") "fromkeys"=some (.get (.builtin "classmethod_descriptor.__get__") (.builtin "dict.fromkeys") .none (.type "dict")):=by kernel_rfl
theorem ON{s:Shared}{pl:Sem Bool}{Q:Value×List Value->Shared->Prop}(hq:∀tk,Q (.ref s.heap.objs.size,[]) {s with heap:=s.heap.push RL,toks:=tk}):wpAny (model prog w) A (getMethod (.type "dict") "fromkeys" pl) Q E s:=by
 have X:Frag.In [] s.heap:=λ_ _ e=>by injection e
 have L0:Looks (model prog w) s.heap (typeOf (.type "dict")) (.type "type"):=Looks.of_pure wY
 have hg:findIn [] (.type "type") "__getattribute__"=some (some (.builtin "type.__getattribute__")):=type_tga
 have hs:Manifest.isStub "dict"=false:=by decide +kernel
 have LO:Looks (model prog w) s.heap (opaqueClassAbove (.type "dict")) none:=Looks.of_pure (by unfold opaqueClassAbove;dsimp only;rwa[hs];rfl)
 unfold getMethod specialOf
 refine wpAny_bind (wpAny_bind (L0.here ((looks_findIn X hg).here ?_)))
 dsimp only
 rwa[if_pos canon_tga]
 refine wpAny_bind (wpAny_mono (Q:=λv=>Q (v,[])) (E:=E) ?_ (λ_ _ z=>wpAny_pure z) λ_ _ z=>z)
 refine cls_open X LO L0 hg (looks_hook X (r:=none) (by rfl)) (by show subIn [] _ _=_;rfl) OM ?_
 refine wpAny_bind (wpAny_holding ?_)
 refine wpAny_call_entry KFB.slot_get TL KFB.entry_get ?_ (KFB.args_get _ _ _)
 unfold Builtin.«classmethod_descriptor.__get__»
 refine wpAny_bind (wpAny_of_eq (a:=(.builtin "dict.fromkeys",none,some (.type "dict"))) (by first | rfl | kernel_rfl) ?_)
 simp only[KM]
 refine wpAny_bind (wpAny_of_eq (a:=.type "dict") rfl ?_)
 refine wpAny_bind (wpAny_of_eq (a:=true) rJ ?_)
 refine KFB.if_not rfl ?_
 refine wpAny_bind (wpAny_of_eq (a:=true) PySem.F.kt_sub_dict ?_)
 refine KFB.if_not rfl ?_
 exact wpAny_bind (wpAny_newObj_type (wpAny_pure ⟨_,rfl,wpAny_pure (wpAny_pure (hq _))⟩))
end
theorem GX:plainId "str.maketrans"=true:=by decide +kernel
theorem GY:entryFor table "str.maketrans"=some Builtin.«str.maketrans»:=by first | exact entryFor_of_fast (by kernel_rfl) | exact entryFor_of_tree (by kernel_rfl)
theorem GZ(a:Value):checkBuiltinCall "str.maketrans" ⟨[a],[]⟩=pure ():=by kernel_rfl
section
variable{prog:Program}{w:World}{A:Around}{E:Value->Shared->Prop}{s:Shared}
theorem KN{D:Addr}{c:Nat}{Q:Value->Shared->Prop}(hD:s.heap.DictOf (strKind prog w) D [(⟨#[c]⟩,.none)])(hs:sysModules<D)
 (h:∀T h' tk,(∀b o,s.heap.get? b=some o->h'.get? b=some o)->s.heap.get? T=none->rI prog w h' T c->Q (.ref T) {s with heap:=h',toks:=tk}):wpAny (model prog w) A (call (.builtin "str.maketrans") [.ref D]) Q E s:=by
 refine wpAny_call (codeAny_call_builtin GX GY (wpAny_of_eq (GZ _) ?_))
 unfold Builtin.«str.maketrans»
 refine wpAny_bind (wpAny_of_eq (a:=()) rfl ?_)
 refine wpAny_bind (wpAny_of_eq (a:=()) rfl ?_)
 refine wpAny_bind (wpAny_of_eq (a:=none) rfl ?_)
 refine wpAny_bind (wpAny_of_eq (a:=none) rfl ?_)
 refine wpAny_bind (m:=newDict) ?_
 unfold newDict
 refine wpAny_newObj_type ?_ (by size_fits)
 dsimp only
 have hT0:(s.heap.push emptyDict).DictOf (intKind prog w) s.heap.objs.size []:=Heap.DictOf.new s.heap
 have hD1:(s.heap.push emptyDict).DictOf (strKind prog w) D [(⟨#[c]⟩,.none)]:=hD.push _
 have ltD:D<s.heap.objs.size:=let ⟨o,es,ep,ho,_⟩:=hD;Heap.lt_size ho
 have neD:(D==sysModules)=false:=by simpa using Nat.ne_of_gt hs
 have neT:(s.heap.objs.size==sysModules)=false:=by simpa using Nat.ne_of_gt (Nat.lt_trans hs ltD)
 refine wpAny_bind (wpAny_holding ?_)
 refine wpAny_bind (wpAny_typeOf (s:={s with heap:=s.heap.push emptyDict}) hD1.typeIs ?_)
 refine wpAny_bind (wpAny_of_eq (a:=()) rfl ?_)
 refine wpAny_bind (wpAny_typeOf (s:={s with heap:=s.heap.push emptyDict}) hD1.typeIs ?_)
 rwa[if_neg ∅]
 refine wpAny_bind (wpAny_of_eq (a:=()) (by unfold notTheModulesDict;rwa[neD];rfl) ?_)
 rcases YY (id hD1) with o|es|ep|ho|hx|hd|hk|hp|hn
 refine wpAny_bind ?_
 unfold dictEntries
 refine wpAny_bind (wpAny_loadPart ho ?_)
 rwa[hd]
 refine wpAny_pure ?_
 have e1:∃en,es=#[en]/\(∃t,en.key=.str ⟨#[c]⟩ t)/\en.val=.none:=by
  obtain⟨l⟩:=es
  cases hp with
  | cons h1 h2 h3 =>
   cases h3
   exact⟨_,rfl,Value.isStrOf_shape h1,h2⟩
 obtain en|rfl|q_0|evl:=rW e1;obtain t|ekey:=aU q_0
 refine wpAny_bind (forIn_array_ _ (λrest (_:PUnit) s'=>(rest=[en]/\s'={s with heap:=s.heap.push emptyDict})\/(rest=[]/\∃h' tk,s'={s with heap:=h',toks:=tk}/\(∀b o,s.heap.get? b=some o->h'.get? b=some o)/\h'.DictOf (intKind prog w) s.heap.objs.size [((c:Int),.none)])) _ ?_ ?_ #[en] PUnit.unit (.inl ⟨rfl,rfl⟩))
 . rintro x rest st s' (⟨e,rfl⟩ | ⟨e,_⟩)
   . injection e with e1 e2
     subst e1 e2
     rwa[ekey,evl]
     refine wpAny_bind (wpAny_of_eq (a:=some ⟨#[c]⟩) rfl ?_)
     dsimp only
     refine wpAny_bind (wpAny_mkInt (wpAny_bind ?_))
     refine wpAny_dictSet_pairs (knd:=intKind prog w) (k:=(c:Int)) (intKind_is prog w _ _) hT0 (λh2 hD2 sb2=>?_) ∅
     refine wpAny_pure (.inr ⟨rfl,h2,_,rfl,λb o q=>?_,hD2⟩)
     exact (sb2.2 b λz=>by replace q:=z▸q;exact absurd (Heap.lt_size q) (Nat.lt_irrefl _)).trans (Heap.get?_push_of_some _ q)
   . injection e
 . rintro st s' (⟨e,_⟩ | ⟨_,h',tk,rfl,k,hD'⟩)
   . injection e
   . exact wpAny_pure (wpAny_pure (h _ h' tk k aN ⟨hD',neT⟩))
end
structure uL(C:Cx)(n:Nat)(sc:Scope)(δ:List (Str×D))(ss:List Stmt)(P:bX->List (Str×D)->Prop):Prop where
 go:∀(A:Around) (B:Heap) (env:Env) (X:Addr->Prop) (s:Shared) (Q:Flow->Shared->Prop) (E:Value->Shared->Prop),Ok C n sc δ A B env X s.heap->Bo C B ->
  (∀I δ' s',P I δ'->MK C env s s'->(∀z,I.own z->C.I.own z\/s.heap.get? z=none)->Ok (C.turn I) n sc δ' A B env X s'.heap->Q .next s')->wpAny C.M A (execs ss env) Q E s
structure RO(C:Cx)(n:Nat)(sc:Scope)(δ:List (Str×D))(st:Stmt)(P:bX->List (Str×D)->Prop):Prop where
 go:∀(A:Around) (B:Heap) (env:Env) (X:Addr->Prop) (s:Shared) (Q:Flow->Shared->Prop) (E:Value->Shared->Prop),Ok C n sc δ A B env X s.heap->Bo C B ->
  (∀I δ' s',P I δ'->MK C env s s'->(∀z,I.own z->C.I.own z\/s.heap.get? z=none)->Ok (C.turn I) n sc δ' A B env X s'.heap->Q .next s')->wpAny C.M A (exec st env) Q E s
section
variable{C:Cx}{n:Nat}{sc:Scope}{δ:List (Str×D)}{P P1 P2:bX->List (Str×D)->Prop}
theorem Ok.baseK{A:Around}{B:Heap}{env:Env}{X:Addr->Prop}{h:Heap}(O:Ok C n sc δ A B env X h):∀b o,B.get? b=some o->h.get? b=some o:=let ⟨_,F,_⟩:=O.st;F.base.2.1
theorem DX{B:Heap}{s:Shared}{I:bX}(bo:Bo C B)(kb:∀b o,B.get? b=some o->s.heap.get? b=some o)(g:∀z,I.own z->C.I.own z\/s.heap.get? z=none):Bo (C.turn I) B:=λb q=>(g b q).elim (bo b) λe=>by
 cases w:B.get? b with
 | none=>rfl
 | some o=>injection tq (kb b o w) e
theorem DY(h:P C.I δ):uL C n sc δ [] P:=⟨λA B env X s Q E O bo hq=>wpAny_execs_nil (hq _ _ s h (.of_keeps (aE s)) (λ_ q=>.inl q) O)⟩
theorem tM{C':Cx}{A:Around}{B:Heap}{env:Env}{X:Addr->Prop}{s s1:Shared}{δ':List (Str×D)}(k1:MK C env s s1)(O1:Ok C' n sc δ' A B env X s1.heap){z:Addr}(e:s1.heap.get? z=none):C.I.own z\/s.heap.get? z=none:=by
 by_cases oc:C.I.own z
 . exact .inl oc
 . refine .inr ?_
   cases w:s.heap.get? z with
   | none=>rfl
   | some o =>
    exfalso
    obtain h1|tk|rfl|k:=dZ k1
    rcases aL O1.st with ρ|F|V
    have:=k z o oc (λq=>?_) (λx q=>?_) w
    . dsimp only at e;injection tq e this
    . rcases aL F.ns with m|q_0|_;obtain ol|_|_|el|_:=eU q_0
      replace e:=q▸e;dsimp only at e el;injection tq e el
    . rcases dZ (F.allc x z q) with v|oc|ec|_
      dsimp only at e ec;injection tq e ec
theorem KO{st:Stmt}{rest:List Stmt}{I:bX}{δ':List (Str×D)}(h1:M1 C n sc δ st (.nxt I δ'))(ho:∀b,I.own b->C.I.own b)(h2:uL (C.turn I) n sc δ' rest P):uL C n sc δ (st::rest) P:=by
 refine⟨λA B env X s Q E O bo hq=>wpAny_execs_cons (h1.go A B env X s _ _ O bo λfl s1 k1 o1=>?_)⟩
 obtain rfl|O1:=bW o1
 refine h2.go A B env X s1 Q E O1 (λb q=>bo b (ho b q)) λI2 δ2 s2 hP k2 g2 O2=>hq I2 δ2 s2 hP (k1.trans k2 λz q=>.inl (ho z q)) (λz q=>(g2 z q).elim (λw=>.inl (ho z w)) (tM k1 O1)) O2
theorem zJ{st:Stmt}{rest:List Stmt}(h1:RO C n sc δ st P1)(h2:∀I δ',P1 I δ'->uL (C.turn I) n sc δ' rest P):uL C n sc δ (st::rest) P:=by
 refine⟨λA B env X s Q E O bo hq=>wpAny_execs_cons (h1.go A B env X s _ _ O bo λI1 δ1 s1 hP1 k1 g1 O1=>?_)⟩
 refine (h2 I1 δ1 hP1).go A B env X s1 Q E O1 (DX bo O.baseK g1) λI2 δ2 s2 hP k2 g2 O2=>hq I2 δ2 s2 hP (k1.trans k2 g1) (λz q=>(g2 z q).elim (g1 z) (tM k1 O1)) O2
theorem DZ{st:Stmt}(h:RO C n sc δ st P):uL C n sc δ [st] P:=zJ h λI δ' q=>DY (C:=C.turn I) q
theorem KP{test:PySem.Expr}{body orelse:List Stmt}{pos:Pos}{b:Bool}(ht:Ts C n sc δ test b)(hb:uL C n sc δ (if b then body else orelse) P):RO C n sc δ (.If test body orelse pos) P:=by
 refine⟨λA B env X s Q E O bo h=>wpAny_If (ht.go A B env X s _ _ O λs1 k1=>?_)⟩
 have kJ:=hb.go A B env X s1 Q E (O.on k1) bo λI δ' s2 hP k2 g2 O2=>h I δ' s2 hP ((MK.of_keeps k1).trans (I':=C.I) k2 λz q=>.inl q) (λz q=>(g2 z q).elim .inl (tM (.of_keeps k1) (O.on k1))) O2
 cases b with
 | true=>exact kJ
 | false=>exact kJ
theorem Ok.grow{A:Around}{B:Heap}{env:Env}{X:Addr->Prop}{h h':Heap}{J:bX}(O:Ok C n sc δ A B env X h)(k:∀b o,h.get? b=some o->h'.get? b=some o)(hj:J.inv h')(hn:∀b,J.own b->h.get? b=none)(hl:∀b,¬J.lst b):Ok (C.turn (C.I.and J)) n sc δ A B env X h':=by
 have O':=O.keeps k
 rcases aL O'.st with ρ|F|V
 rcases aL O.st with ρ0|F0|_
 rcases nU F.base with G|k0|hL|hC
 refine⟨O'.rm,O'.ho,O'.xo,⟨O'.iv,hj⟩,λb q=>q.elim (O'.ox b) λw=>(hl b w).elim,ρ,?_,V⟩
 refine⟨⟨⟨G.k,G.g,G.b,G.nl⟩,k0,⟨hL.1,λq=>q.elim hL.2 λw=>?_⟩,λy c e=>⟨(hC y c e).1,λq=>q.elim (hC y c e).2 λw=>?_⟩⟩,F.scope,F.kind,F.globals,F.builtins,F.ns,F.cells,F.inj,F.allc⟩
 . rcases aL F0.ns with m|q_0|_;obtain ol|_|_|el|_:=eU q_0
   injection tq (hn _ w) el
 . rcases dZ (F0.allc y c e) with v|oc|ec|_
   injection tq (hn _ w) ec
theorem zK{A:Around}{B:Heap}{env:Env}{X:Addr->Prop}{s:Shared}{Q:Unit->Shared->Prop}{E:Value->Shared->Prop}(O2:Ok C n sc δ A B env X s.heap)(bo:Bo C B){v:Value}{d:D}{name:Str}{k:Nat}{x dx Cl:Addr}{fs:List (Str×D)}{I:bX}(hi:cG k s.heap x dx Cl fs)(c:dK C.K Cl)(ht:takerIn C.K Cl name=some none)(hk:k<=100)(hin:fs.lookup name=none)(r:tC v d)
 (hdx:C.I.own dx) (hI:∀h',Heap.SameBut dx s.heap h'->cG (k+1) h' x dx Cl (fs++[(name,d)])->I.inv h') (hown:∀b,I.own b↔C.I.own b) (hlst:∀b,I.lst b->C.I.lst b)
 (h:∀h' tk,MK C env s {s with heap:=h',toks:=tk}->Ok (C.turn I) n sc δ A B env X h'->Q () {s with heap:=h',toks:=tk}):wpAny C.M A (setAttr (.ref x) name v) Q E s:=by
 obtain m|hm|h1|h2:=rW hi
 refine kA O2.gl.k c hm ht hk λh' sb im=>?_
 have hs':¬(m name).isSome=true:=by rwa[h2 name hin];decide
 replace im:=(if_neg hs')▸im
 have F':cG (k+1) h' x dx Cl (fs++[(name,d)]):=(cG.stored ⟨h1,h2⟩ r im).congr λy=>rH y hin
 have off:∀b o,b≠dx->s.heap.get? b=some o->h'.get? b=some o:=λb o q e=>(sb.2 b q).trans e
 have Bdx:B.get? dx=none:=bo dx hdx
 rcases EN hm.at with es|nn|_|_|_|D|_
 refine h h' _ ⟨h',_,rfl,λb o q1 q2 q3 q=>off b o (λz=>q1 (z▸hdx)) q⟩ ?_
 rcases aL O2.st with ρ|F|V
 refine⟨O2.rm,?_,?_,hI _ sb F',λa q=>O2.ox a (hlst a q),ρ,?_,V.at λb o xb ⟨vs,nn,el⟩ q=>⟨xb,off b o (λz=>?_) q⟩⟩
 . refine O2.ho.imp id λ⟨e',a1,o,vs,a2,a3,a4⟩=>⟨e',a1,o,vs,off _ _ (λz=>?_) a2,a3,a4⟩
   replace a2:=D▸z▸a2;obtain rfl:=Option.some.inj a2;injection a3
 . intro a ha
   rcases eU (O2.xo a ha) with o|vs|nn|q1|q2
   refine⟨o,vs,nn,off _ _ (λz=>?_) q1,q2⟩
   replace q1:=D▸z▸q1;obtain rfl:=Option.some.inj q1;injection q2
 . rcases nU F.base with G|k0|hL|hC
   have neL:env.locals≠dx:=λz=>hL.2 (z▸hdx)
   have neC:∀y a,env.cells.lookup y=some a->a≠dx:=λy a q z=>(hC y a q).2 (z▸hdx)
   rcases aL F.ns with m0|hn|hm0
   refine⟨⟨⟨G.k,G.g,G.b,G.nl⟩,λb o q=>off b o (λz=>by replace q:=Bdx▸z▸q;injection q) (k0 b o q),⟨hL.1,λq=>hL.2 ((hown _).mp q)⟩,λy a q=>⟨(hC y a q).1,λz=>(hC y a q).2 ((hown _).mp z)⟩⟩,F.scope,F.kind,F.globals,F.builtins,⟨m0,hn.at' λo q=>off _ o neL q,hm0⟩,
    λy hy=>let ⟨a,q1,o,q2,q3⟩:=F.cells y hy;⟨a,q1,o,off _ _ (neC y a q1) q2,q3⟩,F.inj,λy a q=>let ⟨v,o,q2,q3⟩:=F.allc y a q;⟨v,o,off _ _ (neC y a q) q2,q3⟩⟩
 . subst z
   replace q:=D▸q;injection q with q;replace el:=q.symm▸el;exact absurd (congrArg Obj.data el) (by intro z;injection z)
noncomputable def KQ(a:Addr):bX where
 own:=λb=>b=a
 lst:=λ_=>False
 inv:=λh=>QA h a
 at_:=λh h' ⟨t,e⟩ k=>⟨t,k a _ rfl e⟩
 dom:=λh b ⟨t,e⟩ q=>⟨_,q▸e⟩
 seqs:=λh b o ⟨t,e⟩ q e' l=>by
  obtain vs|m|rfl:=mF l
  replace e':=e▸q▸e';injection e' with e';exact absurd (congrArg Obj.data e') (by intro z;injection z)
theorem HA{o:PySem.Expr}{name f:Str}{ap np cp pos:Pos}{k:Nat}{x dx Cl:Addr}{fs:List (Str×D)}{J:bX}(hC:C.I=(bL k x dx Cl fs).and J)(hJ:¬J.own dx)(c:dK C.K Cl)(ha:findIn C.K (.ref Cl) name=some none)(hk:k<=100)(hin:fs.lookup name=none)(ho:∀I',Ev (C.turn I') n sc δ o (.ptr x))
 (hf:sc.names.lookup f=some .globalImplicit) (hg:C.mg f=some (.type qP)) (hd:(f==("__debug__":Str))=false:=by decide)
 (hs:∀env,swapsWith (.Call (.Name f np) [] [] cp) (some (.Attribute o name ap)) pos.line env=pure false:=by intro _;rfl) :
 RO C n sc δ (.Assign [.Attribute o name ap] (.Call (.Name f np) [] [] cp) pos) (λI δ'=>∃a0,I=(bL (k+1) x dx Cl (fs++[(name,.ptr a0)])).and (J.and (KQ a0))/\¬(J.and (KQ a0)).own dx/\δ'=δ):=by
 refine⟨λA B env X s Q E O bo h=>plainObj_wpAny_Assign_Attribute (wpAny_Call_ofName (cA O hf hg hd (PySem.callWith_type rfl (PySem.evalArgs_none (OF λh1 k1 e1=>?_))))) (hs env)⟩
 have hn:∀b,(KQ s.heap.objs.size).own b->s.heap.get? b=none:=λb q=>by rwa[q];exact aN
 have O1:Ok (C.turn (C.I.and (KQ s.heap.objs.size))) n sc δ A B env X h1:=O.grow k1 ⟨0,e1⟩ hn λ_ q=>q
 have K1:Keeps s {s with heap:=h1}:=⟨h1,s.toks,rfl,k1⟩
 have b1:Bo (C.turn (C.I.and (KQ s.heap.objs.size))) B:=DX bo O.baseK λz q=>q.imp id (hn z)
 refine (ho (C.I.and (KQ s.heap.objs.size))).go A B env X {s with heap:=h1} _ _ O1 λw s2 k2 r2=>?_
 obtain rfl:=cW r2
 have O2:=O1.on k2
 have ndx:s.heap.objs.size≠dx:=λz=>by
  have:=O.iv
  replace this:=hC▸this
  rcases mF ((this.1:cG k s.heap x dx Cl fs).dict) with es|nn|e
  replace e:=aN▸z.symm▸e;injection e
 have iv2:=O2.iv
 replace iv2:=hC▸(show (C.turn (C.I.and (KQ s.heap.objs.size))).I=C.I.and (KQ s.heap.objs.size) from rfl)▸iv2
 refine zK (C:=C.turn (C.I.and (KQ s.heap.objs.size))) (I:=(bL (k+1) x dx Cl (fs++[(name,D.ptr s.heap.objs.size)])).and (J.and (KQ s.heap.objs.size))) (d:=.ptr s.heap.objs.size) O2 b1 iv2.1.1 c (hW ha) hk hin (λ_ _=>.ptr _) ?_ (λh' sb F=>⟨F,?_,?_⟩) (λb=>?_) (λb q=>q.elim (λz=>z.elim) λz=>z.elim (λw=>.inl (by rwa[hC];exact .inr w)) λw=>w.elim) λh' tk k3 O3=>?_
 . show C.I.own dx\/_;rwa[hC];exact .inl (.inl (.inr rfl))
 . exact J.at_ _ _ iv2.1.2 λb o ob q=>(sb.2 b λz=>hJ (z▸ob)).trans q
 . rcases aU iv2.2 with t|e;exact⟨t,(sb.2 _ ndx).trans e⟩
 . show ((b=x\/b=dx)\/J.own b\/b=_)↔(C.I.own b\/b=_)
   rwa[hC];exact or_assoc.symm
 . have KK:=aB K1 k2
   refine h _ δ _ ⟨_,rfl,λz=>z.elim hJ λw=>ndx w.symm,rfl⟩ ?_ (λz q=>?_) O3
   . obtain h3|tk3|e3|k3:=dZ k3
     revert k2 O2 iv2 e3 k3;refine kE KK ?_;clear KK;intro h2 tk2 kk k2 O2 iv2 e3 k3
     injection e3 with e3 _ _ e4 _
     subst e3 e4
     exact⟨h',tk,rfl,λb ob q1 q2 q3 q=>k3 b ob (λw=>w.elim q1 λz=>by injection tq (hn b z) q) q2 q3 (kk b ob q)⟩
   . rcases q with (q | q) | q | q
     . exact .inl (by rwa[hC];exact .inl (.inl q))
     . exact .inl (by rwa[hC];exact .inl (.inr q))
     . exact .inl (by rwa[hC];exact .inr q)
     . exact .inr (hn z q)
end
noncomputable def OO(prog:Program)(w:World)(T:Addr)(c0:Int):bX where
 own:=λb=>b=T
 lst:=λ_=>False
 inv:=λh=>rI prog w h T c0
 at_:=λh h' D k=>let ⟨⟨o,es,ep,ho,r⟩,n⟩:=D;⟨⟨o,es,ep,k T o rfl ho,r⟩,n⟩
 dom:=λh b D q=>let ⟨⟨o,es,ep,ho,r⟩,n⟩:=D;⟨o,q▸ho⟩
 seqs:=λh b o D q e' l=>by
  obtain q_0|n:=bW D;obtain o'|es|ep|ho|hx|hd|_:=tX q_0
  obtain vs|m|rfl:=mF l
  replace e':=ho▸q▸e';injection e' with e'
  replace hd:=e'▸hd;injection hd
section
variable{C:Cx}{n:Nat}{sc:Scope}{δ:List (Str×D)}{k:Nat}{x dx Cl:Addr}{fs:List (Str×D)}{J:bX}
theorem wZ(hC:C.I=(bL k x dx Cl fs).and J):∀h,C.I.inv h->cG k h x dx Cl fs:=λh H=>by replace H:=hC▸H;exact H.1
theorem RP(hC:C.I=(bL k x dx Cl fs).and J)(hJ:¬J.own dx)(c:dK C.K Cl){o e:PySem.Expr}{name:Str}{ap pos:Pos}{d:D}(ha:findIn C.K (.ref Cl) name=some none)(hk:k<=100)(hin:fs.lookup name=none)(he:Ev C n sc δ e d)(hd:d.flat=true)(ho:Ev C n sc δ o (.ptr x))
 (hs:∀env,swapsWith e (some (.Attribute o name ap)) pos.line env=pure false:=by intro _;rfl):M1 C n sc δ (.Assign [.Attribute o name ap] e pos) (.nxt ((bL (k+1) x dx Cl (fs++[(name,d)])).and J) δ) :=
 tH (k:=k) (x:=x) (dx:=dx) (Cl:=Cl) (fs:=fs) (wZ hC) c (hW ha) hk hin he hd ho (by rwa[hC];exact .inl (.inr rfl)) (λh h' H sb F=>⟨F,J.at_ _ _ (by replace H:=hC▸H;exact H.2) λb o ob q=>(sb.2 b λz=>hJ (z▸ob)).trans q⟩) (λb=>by rwa[hC];exact Iff.rfl) (λb q=>by rwa[hC];exact q) hs
theorem RQ(hC:C.I=(bL k x dx Cl fs).and J)(hJ:¬J.own dx)(c:dK C.K Cl){o e:PySem.Expr}{name:Str}{ap pos:Pos}{d:D}(ha:findIn C.K (.ref Cl) name=some none)(hk:k<=100)(hin:(fs.lookup name).isSome=true)(he:Ev C n sc δ e d)(hd:d.flat=true)(ho:Ev C n sc δ o (.ptr x))
 (hs:∀env,swapsWith e (some (.Attribute o name ap)) pos.line env=pure false:=by intro _;rfl):M1 C n sc δ (.Assign [.Attribute o name ap] e pos) (.nxt ((bL k x dx Cl (pT name d fs)).and J) δ) :=
 lS (k:=k) (x:=x) (dx:=dx) (Cl:=Cl) (fs:=fs) (wZ hC) c (hW ha) hk hin he hd ho (by rwa[hC];exact .inl (.inr rfl)) (.inr trivial) (λh h' H sb F=>⟨F,J.at_ _ _ (by replace H:=hC▸H;exact H.2) λb o ob q=>(sb.2 b λz=>hJ (z▸ob)).trans q⟩) (λb=>by rwa[hC];exact Iff.rfl) (λb q=>by rwa[hC];exact q) hs
theorem RR(hC:C.I=(bL k x dx Cl fs).and J)(hJ:¬J.own dx)(c:dK C.K Cl){o e:PySem.Expr}{name:Str}{ap pos:Pos}{a b:Str}(ha:findIn C.K (.ref Cl) name=some none)(hk:k<=100)(hv:fs.lookup name=some (.str a))(he:Ev C n sc δ e (.str b))(ho:Ev C n sc δ o (.ptr x))(hz:a.length+b.length<=sizeLine) :
 M1 C n sc δ (.AugAssign (.Attribute o name ap) .Add e pos) (.nxt ((bL k x dx Cl (pT name (.str (a++b)) fs)).and J) δ) :=
 tD (k:=k) (x:=x) (dx:=dx) (Cl:=Cl) (fs:=fs) (wZ hC) c (hW ha) ha hk hv he ho hz (by rwa[hC];exact .inl (.inr rfl)) (λh h' H sb F=>⟨F,J.at_ _ _ (by replace H:=hC▸H;exact H.2) λb o ob q=>(sb.2 b λz=>hJ (z▸ob)).trans q⟩) (λb=>by rwa[hC];exact Iff.rfl) (λb q=>by rwa[hC];exact q)
theorem BY(hC:C.I=(bL k x dx Cl fs).and J)(c:dK C.K Cl){o:PySem.Expr}{name:Str}{pos:Pos}{d:D}(ha:findIn C.K (.ref Cl) name=some none)(ho:Ev C n sc δ o (.ptr x))(hv:fs.lookup name=some d)
 (he:∀env,eval (.Attribute o name pos) env=(do
  let o' ←eval o env
  standAt pos.atName
  let r ←holding [o'] (getAttr o' name true)
  letTemporaryGo o o' r
  pure r):=by intro _;with_unfolding_all rfl):Ev C n sc δ (.Attribute o name pos) d:=pU (wZ hC) c ha ho hv he
theorem OP{ob:Obj}{fd:FuncData}{fI fT:Addr}{obI:Obj}{fdI:FuncData}{rest:List Value}(K:uI C ob fd fI fT obI fdI rest)(hki:keepIn C.K (.ref 662)=true){y:Str}{e:PySem.Expr}{p np cp pos:Pos}{line:Str}(hk:sc.names.lookup ("StringIO":Str)=some .globalImplicit)(hn:3<=n)(he:Ev C n sc δ e (.str line))(hy:lc sc y=true)
 (hst:∀env,starEach [e] env=(false,eval e env)::starEach [] env:=by intro _;rfl) (hpl:∀pos env,(backTo pos (starEach [e] env)).any (·.1)=false:=by intro _ _;rfl)
 (hs:∀env,env.scope=sc->swapsWith (.Call (.Name ("StringIO":Str) np) [e] [] cp) (some (.Name y p)) pos.line env=pure false:=by intro _ _;rfl) :
 RO C n sc δ (.Assign [.Name y p] (.Call (.Name ("StringIO":Str) np) [e] [] cp) pos) (λI δ'=>∃S dS,I=C.I.and (bL 3 S dS 662 (kM line 0))/\¬C.I.own dS/\¬C.I.own S/\δ'=(y,.ptr S)::δ):=by
 obtain⟨m,rfl⟩:∃m,n=m+3:=⟨n-3,by grind⟩
 refine⟨λA B env X s Q E O bo h=>wpAny_Assign_Name (wpAny_Call_ofName (cA O hk K.nw.gs ∅ ?_)) (hs env (let ⟨_,F,_⟩:=O.st;F.scope))⟩
 rcases aL (jN hy) with kx|hkx|ox
 have eb:backTo cp (starEach [e] env)=(false,eval e env)::backTo cp (starEach [] env):=by rwa[hst ..];rfl
 have hpl':=hpl cp env
 have hA:=(aF he bM hst).go A B env X cp s
 rw[eb] at hA hpl' ⊢
 refine callWith_of (P:=C.K.In) (by rw[hpl'];rfl) (keeps_K hki) (evalArgs_plain (hA _ _ O λvs s1 k1 r1=>?_))
 cases r1 with
 | cons ra rb =>
 obtain rfl:=bJ rb
 obtain tk|rfl:=aU (bN ra)
 have O1:=O.on k1
 refine⟨O1.gl.k,wpAny_call (KE (n:=m) K (O1.cl bo) λS dS h2 tk2 k2 nS ndS F2=>?_)⟩
 have nown:∀b,s1.heap.get? b=none->¬C.I.own b:=λb e ob=>by
  rcases aU (C.I.dom _ _ O1.iv ob) with o|q
  injection tq e q
 have up:∀b,s1.heap.get? b=none->s.heap.get? b=none:=λb e=>by
  cases q:s.heap.get? b with
  | none=>rfl
  | some o=>injection tq (bC k1 _ _ q) e
 have hn2:∀b,(bL 3 S dS 662 (kM line 0)).own b->s1.heap.get? b=none:=λb q=>q.elim (λz=>z▸nS) λz=>z▸ndS
 have O2:Ok (C.turn (C.I.and (bL 3 S dS 662 (kM line 0)))) (m+3) sc δ A B env X h2:=O1.grow k2 F2 hn2 λ_ q=>q
 revert O1 k2 nS ndS nown up hn2;refine kE k1 ?_;clear k1;intro h1 tk1 kk1 O1 k2 nS ndS nown up hn2
 refine O2.store (s:={s with heap:=h2,toks:=tk2}) (.ptr S) hkx ox λh' tk' O' F' _ _=>h _ _ _ ⟨S,dS,rfl,nown _ ndS,nown _ nS,rfl⟩ ⟨h',tk',rfl,λb o q1 q2 q3 e=>F' b o q2 q3 (k2 b o (kk1 b o e))⟩ (λz q=>q.imp id λw=>up _ (hn2 z w)) O'
theorem HB{e:PySem.Expr}{np sp cp:Pos}{x:Str}(he:Ev C n sc δ e (.str x))(hk:sc.names.lookup ("isinstance":Str)=some .globalImplicit)(gi:C.mg ("isinstance":Str)=none/\C.mb ("isinstance":Str)=some (.builtin "isinstance"))(hk2:sc.names.lookup ("str":Str)=some .globalImplicit)(b:Bs C)
 (hst:∀env,starEach [e,.Name ("str":Str) sp] env=(false,eval e env)::starEach [.Name ("str":Str) sp] env:=by intro _;rfl) (hp:∀pos env,(backTo pos (starEach [e,.Name ("str":Str) sp] env)).any (·.1)=false:=by intro _ _;rfl) :
 Ts C n sc δ (.Call (.Name ("isinstance":Str) np) [e,.Name ("str":Str) sp] [] cp) true:=by
 refine eN (cP (ds:=[.str x,.ty "str"]) hk gi.1 gi.2 ∅ (aF he (bY (lH hk2 b.str.1 b.str.2)) hst) ⟨λA X s vs Q E _ _ _ _ r h=>?_⟩ hst hp)
 obtain _|_|r1|r|rfl:=iG (aR r)
 obtain _|_|r2|r|rfl:=iG (aR r)
 obtain rfl:=bJ r;(obtain _|rfl:=aU (bN r1));obtain rfl:=xT r2;exact IsiPair.str_str (h _ s (aE s) (.bool _))
end
section
variable{C:Cx}{n:Nat}{sc:Scope}{δ:List (Str×D)}
theorem HC{v o:PySem.Expr}{t:Str}{p p1 p2 p3 p4 p5 pos:Pos}{x y:Str}{c:Nat}(S:GU C.K)(hn:200<=n)(hv:Ev C n sc δ v (.str x))(ho:Ev C n sc δ o (.str y))(hy:y.cps=#[c])(hc:y.cps.all (·<128)=true)(hk:sc.names.lookup ("dict":Str)=some .globalImplicit)(gd:C.mg ("dict":Str)=none/\C.mb ("dict":Str)=some (.type "dict"))(ht:lc sc t=true)(hl1:(p1.endLine==p2.line)=true)(hl2:(p4.endLine==p5.line)=true)
 (hab:∀env,attributeBase v ("maketrans":Str) env (eval v env)=eval v env:=by intro _;rfl)
 (hst:∀env,starEach [o] env=(false,eval o env)::starEach [] env:=by intro _;rfl) (hpl:∀pos env,(backTo pos (starEach [o] env)).any (·.1)=false:=by intro _ _;rfl)
 (hfew:∀pos env,((backTo pos (starEach [o] env)).all (λx=>!x.1)&&(backToKw pos (keywordEach [] env)).all (λx=>x.1.isSome)&&decide (([o]:List PySem.Expr).length+([]:List Keyword).length+(if ([]:List Keyword).isEmpty then 0 else 1)<30))=true:=by intro _ _;rfl)
 (hs:∀env,env.scope=sc->swapsWith (.Call (.Attribute v ("maketrans":Str) p1) [.Call (.Attribute (.Name ("dict":Str) p3) ("fromkeys":Str) p4) [o] [] p5] [] p2) (some (.Name t p)) pos.line env=pure false:=by intro _ _;rfl) :
 RO C n sc δ (.Assign [.Name t p] (.Call (.Attribute v ("maketrans":Str) p1) [.Call (.Attribute (.Name ("dict":Str) p3) ("fromkeys":Str) p4) [o] [] p5] [] p2) pos) (λI δ'=>∃T,I=C.I.and (OO C.prog C.w T c)/\¬C.I.own T/\δ'=(t,.ptr T)::δ):=by
 refine⟨λA B env X s Q E O bo h=>wpAny_Assign_Name (jI (hab env) rfl hl1 (hv.go A B env X s _ _ O λw s1 k1 r1=>?_)) (hs env (let ⟨_,F,_⟩:=O.st;F.scope))⟩
 rcases aL (jN ht) with kx|hkx|ox
 have hh:A.handled=none:=O.rm.hn hn
 obtain tk0|rfl:=aU (bN r1)
 intro pl
 refine OL (s:=s1) λtk1=>?_
 have kt1:Keeps s1 {s1 with toks:=tk1}:=aV
 have O1:=(O.on k1).on kt1
 have hE:backTo p2 (starEach [.Call (.Attribute (.Name ("dict":Str) p3) ("fromkeys":Str) p4) [o] [] p5] env)=(false,eval (.Call (.Attribute (.Name ("dict":Str) p3) ("fromkeys":Str) p4) [o] [] p5) env)::backTo p2 (starEach [] env):=rfl
 refine callWith_builtin rfl ?_
 rwa[hE]
 refine evalArgs_plain ?_
 rwa[←hE]
 refine wpAny_items_cons ?_ rfl
 refine jI rfl (hfew _ _) hl2 (cC O1 hk gd.1 gd.2 ∅ λpl2=>?_)
 refine ON (s:={s1 with toks:=tk1}) λtk2=>?_
 obtain⟨u,hu⟩:∃u,u=s1.heap.objs.size:=⟨_,rfl⟩
 have eu:(s1.heap.push RL).get? u=some RL:=by rwa[hu];exact Heap.get?_push_size _ rfl
 have ku:∀b o,s1.heap.get? b=some o->(s1.heap.push RL).get? b=some o:=λb o e=>Heap.get?_push_of_some _ e
 have kt2:Keeps s1 {s1 with heap:=s1.heap.push RL,toks:=tk2}:=⟨_,_,rfl,ku⟩
 have O2:=(O.on k1).on kt2
 have ebk:backTo p5 (starEach [o] env)=(false,eval o env)::backTo p5 (starEach [] env):=by rwa[hst ..];rfl
 have hpl':=hpl p5 env
 have hA:=(aF ho bM hst).go A B env X p5 {s1 with heap:=s1.heap.push RL,toks:=tk2}
 rw[ebk] at hA hpl' ⊢
 rw[show s1.heap.objs.size=u from hu.symm] at *
 refine mC (id:=.builtin "dict.fromkeys") (self:=.type "dict") hpl' (evalArgs_plain (hA _ _ O2 λvs s3 k3 r3=>?_))
 refine⟨bC k3 _ _ eu,?_⟩
 cases r3 with
 | cons ra rb =>
 obtain rfl:=bJ rb
 obtain tky|rfl:=aU (bN ra)
 refine OI (s:=s3) hh (bC k3 _ _ eu) hy hc λD h4 tk4 kk4 hsz hD=>?_
 refine wpAny_items_nil ?_
 have KK:Keeps s {s3 with heap:=h4,toks:=tk4}:=aB k1 (aB kt2 (aB k3 ⟨h4,tk4,rfl,kk4⟩))
 have O4:=O.on KK
 have big:sysModules<D:=by
  rcases UT S.k1 with v0|v2|v3|N|e1
  have e2:=(O.on (aB k1 (aB kt2 k3))).gl.k _ _ e1
  exact Nat.lt_of_lt_of_le (Nat.lt_trans ∅ (Heap.lt_size e2)) hsz
 refine KN (s:={s3 with heap:=h4,toks:=tk4}) hD big λT h5 tk5 kk5 nT hT=>?_
 have nown:¬C.I.own T:=λob=>by
  rcases aU (C.I.dom _ _ O4.iv ob) with o|q
  injection tq nT q
 have hnT:∀b,(OO C.prog C.w T c).own b->h4.get? b=none:=λb q=>by rwa[q];exact nT
 have O5:Ok (C.turn (C.I.and (OO C.prog C.w T c))) n sc δ A B env X h5:=O4.grow kk5 hT hnT λ_ q=>q
 have up:∀b,h4.get? b=none->s.heap.get? b=none:=λb e=>by
  cases q:s.heap.get? b with
  | none=>rfl
  | some o=>have:=bC KK _ _ q;dsimp only at this;injection tq e this
 obtain h6|tk6|e6|kk6:=dZ KK
 injection e6 with e6 eg ed et eo
 subst e6 et
 obtain h3|tk3|e3|kk3:=dZ k3
 subst e3
 obtain h1|tk1'|e1'|kk1:=dZ k1
 subst e1'
 refine O5.store (s:={s with heap:=h5,toks:=tk5}) (.ptr T) hkx ox λh' tk' O' F' _ _=>h _ _ _ ⟨T,rfl,nown,rfl⟩ ⟨h',tk',rfl,λb o q1 q2 q3 e=>F' b o q2 q3 (kk5 b o (kk6 b o e))⟩ (λz q=>q.imp id λw=>up _ (hnT z w)) O'
theorem xA{v o:PySem.Expr}{p1 p2:Pos}{x:Str}{T:Addr}{c0:Int}(hn:200<=n)(hT:∀h,C.I.inv h->rI C.prog C.w h T c0)(hv:Ev C n sc δ v (.str x))(ho:Ev C n sc δ o (.ptr T))(hx:∀c∈x.cps.toList,(c:Int)≠c0)(h0:(x.length==0)=false)(hf:x.cps.all (·<128)=false)(hz:x.length<=1000)(hl:(p1.endLine==p2.line)=true)
 (hab:∀env,attributeBase v ("translate":Str) env (eval v env)=eval v env:=by intro _;rfl)
 (hst:∀env,starEach [o] env=(false,eval o env)::starEach [] env:=by intro _;rfl) (hpl:∀pos env,(backTo pos (starEach [o] env)).any (·.1)=false:=by intro _ _;rfl)
 (hall:∀pos env,(((backTo pos (starEach [o] env)).all λx=>!x.1)&&((backToKw pos (keywordEach [] env)).all λx=>x.1.isSome)&&decide (([o]:List PySem.Expr).length+([]:List Keyword).length+(if ([]:List Keyword).isEmpty=true then 0 else 1)<30))=true:=by intro _ _;rfl) :
 Ev C n sc δ (.Call (.Attribute v ("translate":Str) p1) [o] [] p2) (.str x):=by
 refine⟨λA B env X s Q E O h=>wpAny_Call_method (hab env) (hall p2 env) hl _root_.PySem.F.plainAttrs_str _root_.PySem.F.slot_str_translate _root_.PySem.F.type_str_translate (hv.go A B env X s _ _ O λw s1 k1 r1=>?_)⟩
 obtain tk|rfl:=aU (bN r1)
 refine⟨rfl,λa e=>(by injection e),?_⟩
 refine callWith_builtin (hpl p2 env) ?_
 have e:backTo p2 (starEach [o] env)=(false,eval o env)::backTo p2 (starEach [] env):=by rwa[hst ..];rfl
 have O1:=O.on k1
 have hA:=(aF ho bM hst).go A B env X p2 s1
 rw[e] at hA ⊢
 refine evalArgs_plain (hA _ _ O1 λvs s2 k2 r2=>?_)
 have O2:=O1.on k2
 obtain _|_|ra|rb|rfl:=iG (aR r2)
 obtain rfl:=bJ rb;obtain rfl:=cW ra
 exact tJ (O.rm.hn hn) (hT _ O2.iv) hx h0 hf hz λh' t' tk' k=>h _ _ (aB k1 (aB k2 ⟨h',tk',rfl,k⟩)) (.str _ _)
end
theorem bX.ext':∀{I J:bX},I.own=J.own->I.lst=J.lst->I.inv=J.inv->I=J
 | ⟨_,_,_,_,_,_⟩,⟨_,_,_,_,_,_⟩,h1,h2,h3=>by
  dsimp only at h1 h2 h3
  subst h1 h2 h3
  rfl
theorem bX.and_assoc(I J K:bX):(I.and J).and K=I.and (J.and K) :=
 bX.ext' (funext λb=>propext (or_assoc (a:=I.own b) (b:=J.own b) (c:=K.own b))) (funext λb=>propext (or_assoc (a:=I.lst b) (b:=J.lst b) (c:=K.lst b))) (funext λh=>propext (_root_.and_assoc (a:=I.inv h) (b:=J.inv h) (c:=K.inv h)))
structure vL(C:Cx)(ob:Obj)(fd:FuncData)(fI fT:Addr)(obI:Obj)(fdI:FuncData)(rest:List Value):Prop where
 s:uI C ob fd fI fT obI fdI rest
 ks:keepIn C.K (.ref 662)=true
 cl:dK C.K 797
 fl:∀y∈nC,findIn C.K (.ref 797) y=some none
 gd:C.mg ("dict":Str)=none/\C.mb ("dict":Str)=some (.type "dict")
 gq:C.mg ("deque":Str)=some (.type qP)
 gi:C.mg ("isinstance":Str)=none/\C.mb ("isinstance":Str)=some (.builtin "isinstance")
section
variable{C:Cx}{n:Nat}{sc:Scope}{δ:List (Str×D)}{k:Nat}{x dx Cl:Addr}{fs:List (Str×D)}{J:bX}{P:bX->List (Str×D)->Prop}
variable{ob:Obj}{fd:FuncData}{fI fT:Addr}{obI:Obj}{fdI:FuncData}{rest:List Value}
theorem vL.turn(K:vL C ob fd fI fT obI fdI rest)(I:bX):vL (C.turn I) ob fd fI fT obI fdI rest:=⟨K.s.turn I,K.ks,K.cl,K.fl,K.gd,K.gq,K.gi⟩
theorem BZ{a:Str}{b:Bool}:Cm C n .Is (.str a) (.bool b) false:=by
 refine⟨?_⟩
 intro A X s va vb Q E rm ra rb _ _ h
 (obtain _|rfl:=aU (bN ra));obtain rfl:=jW rb
 exact wpAny_is_other rfl (by intro z;injection z) (h s (aE s))
noncomputable def WB:Str:="abcdfeghijklmnopqrstuvwxyzABCDEFGHIJKLMNOPQRSTUVWXYZ0123456789_"
noncomputable def WL:Str:="ßàáâãäåæçèéêëìíîïðñòóôõöøùúûüýþÿÀÁÂÃÄÅÆÇÈÉÊËÌÍÎÏÐÑÒÓÔÕÖØÙÚÛÜÝÞ"
theorem QE:(WB++WL)++"~-./*?="=WC:=by decide +kernel
noncomputable def VL(x dx:Addr)(line:Str)(I:bX)(_:List (Str×D)):Prop:=∃a:gU,a.L=x/\a.dL=dx/\a.CL=797/\a.CS=662/\a.dL≠a.dS/\(∀b,dH a b->I.own b)/\∀h,I.inv h->rU a line 0 (.str " ") "" h
variable{C0:Cx}
theorem oY{ss:List Stmt}{st:Stmt}{I I':bX}{δ':List (Str×D)}(h1:M1 (C0.turn I) n sc δ st (.nxt I' δ'))(ho:∀b,I'.own b->I.own b)(h2:uL (C0.turn I') n sc δ' ss P):uL (C0.turn I) n sc δ (st::ss) P:=KO h1 ho h2
theorem CA{ss:List Stmt}{st:Stmt}{I:bX}{P1:bX->List (Str×D)->Prop}(h1:RO (C0.turn I) n sc δ st P1)(h2:∀I' δ',P1 I' δ'->uL (C0.turn I') n sc δ' ss P):uL (C0.turn I) n sc δ (st::ss) P:=zJ h1 h2
theorem OQ{o e:PySem.Expr}{name:Str}{ap pos:Pos}{d:D}(hJ:¬J.own dx)(c:dK C0.K Cl)(ha:findIn C0.K (.ref Cl) name=some none)(hk:k<=100)(hin:fs.lookup name=none)(he:Ev (C0.turn ((bL k x dx Cl fs).and J)) n sc δ e d)(hd:d.flat=true)(ho:Ev (C0.turn ((bL k x dx Cl fs).and J)) n sc δ o (.ptr x))
 (hs:∀env,swapsWith e (some (.Attribute o name ap)) pos.line env=pure false:=by intro _;rfl):M1 (C0.turn ((bL k x dx Cl fs).and J)) n sc δ (.Assign [.Attribute o name ap] e pos) (.nxt ((bL (k+1) x dx Cl (fs++[(name,d)])).and J) δ):=RP (C:=C0.turn ((bL k x dx Cl fs).and J)) rfl hJ c ha hk hin he hd ho hs
theorem kF{ss:List Stmt}{o e:PySem.Expr}{name:Str}{ap pos:Pos}{d:D}(hJ:¬J.own dx)(c:dK C0.K Cl)(ha:findIn C0.K (.ref Cl) name=some none)(hk:k<=100)(hin:fs.lookup name=none)(he:Ev (C0.turn ((bL k x dx Cl fs).and J)) n sc δ e d)(hd:d.flat=true)(ho:Ev (C0.turn ((bL k x dx Cl fs).and J)) n sc δ o (.ptr x))
 (h:uL (C0.turn ((bL (k+1) x dx Cl (fs++[(name,d)])).and J)) n sc δ ss P)
 (hs:∀env,swapsWith e (some (.Attribute o name ap)) pos.line env=pure false:=by intro _;rfl):uL (C0.turn ((bL k x dx Cl fs).and J)) n sc δ (.Assign [.Attribute o name ap] e pos::ss) P:=oY (OQ hJ c ha hk hin he hd ho hs) (λ_ q=>q) h
theorem TM{ss:List Stmt}{o e:PySem.Expr}{name:Str}{ap pos:Pos}{d:D}(hJ:¬J.own dx)(c:dK C0.K Cl)(ha:findIn C0.K (.ref Cl) name=some none)(hk:k<=100)(hin:(fs.lookup name).isSome=true)(he:Ev (C0.turn ((bL k x dx Cl fs).and J)) n sc δ e d)(hd:d.flat=true)(ho:Ev (C0.turn ((bL k x dx Cl fs).and J)) n sc δ o (.ptr x))
 (h:uL (C0.turn ((bL k x dx Cl (pT name d fs)).and J)) n sc δ ss P)
 (hs:∀env,swapsWith e (some (.Attribute o name ap)) pos.line env=pure false:=by intro _;rfl):uL (C0.turn ((bL k x dx Cl fs).and J)) n sc δ (.Assign [.Attribute o name ap] e pos::ss) P:=oY (RQ (C:=C0.turn ((bL k x dx Cl fs).and J)) rfl hJ c ha hk hin he hd ho hs) (λ_ q=>q) h
theorem QF{o e:PySem.Expr}{name:Str}{ap pos:Pos}{a b:Str}(hJ:¬J.own dx)(c:dK C0.K Cl)(ha:findIn C0.K (.ref Cl) name=some none)(hk:k<=100)(hv:fs.lookup name=some (.str a))(he:Ev (C0.turn ((bL k x dx Cl fs).and J)) n sc δ e (.str b))(ho:Ev (C0.turn ((bL k x dx Cl fs).and J)) n sc δ o (.ptr x))(hz:a.length+b.length<=sizeLine) :
 M1 (C0.turn ((bL k x dx Cl fs).and J)) n sc δ (.AugAssign (.Attribute o name ap) .Add e pos) (.nxt ((bL k x dx Cl (pT name (.str (a++b)) fs)).and J) δ):=RR (C:=C0.turn ((bL k x dx Cl fs).and J)) rfl hJ c ha hk hv he ho hz
theorem xB{ss:List Stmt}{o:PySem.Expr}{name f:Str}{ap np cp pos:Pos}(hJ:¬J.own dx)(c:dK C0.K Cl)(ha:findIn C0.K (.ref Cl) name=some none)(hk:k<=100)(hin:fs.lookup name=none)(ho:∀I',Ev (C0.turn I') n sc δ o (.ptr x))
 (hf:sc.names.lookup f=some .globalImplicit) (hg:C0.mg f=some (.type qP)) (h:∀a0 J',J'=J.and (KQ a0)->¬J'.own dx->uL (C0.turn ((bL (k+1) x dx Cl (fs++[(name,.ptr a0)])).and J')) n sc δ ss P) (hd:(f==("__debug__":Str))=false:=by decide)
 (hs:∀env,swapsWith (.Call (.Name f np) [] [] cp) (some (.Attribute o name ap)) pos.line env=pure false:=by intro _;rfl):uL (C0.turn ((bL k x dx Cl fs).and J)) n sc δ (.Assign [.Attribute o name ap] (.Call (.Name f np) [] [] cp) pos::ss) P:=by
 refine CA (HA (C:=C0.turn ((bL k x dx Cl fs).and J)) rfl hJ c ha hk hin (λI'=>ho I') hf hg hd hs) ?_
 rintro I δ' ⟨a0,rfl,nJ,rfl⟩
 exact h a0 _ rfl nJ
theorem OR{ss:List Stmt}{v o:PySem.Expr}{t:Str}{p p1 p2 p3 p4 p5 pos:Pos}{z y:Str}{c:Nat}(hJ:¬J.own dx)(S:GU C0.K)(hn:200<=n)(hv:Ev (C0.turn ((bL k x dx Cl fs).and J)) n sc δ v (.str z))(ho:Ev (C0.turn ((bL k x dx Cl fs).and J)) n sc δ o (.str y))(hy:y.cps=#[c])(hc:y.cps.all (·<128)=true)(hk:sc.names.lookup ("dict":Str)=some .globalImplicit)(gd:C0.mg ("dict":Str)=none/\C0.mb ("dict":Str)=some (.type "dict"))(ht:lc sc t=true)(hl1:(p1.endLine==p2.line)=true)(hl2:(p4.endLine==p5.line)=true)
 (h:∀T J',J'=J.and (OO C0.prog C0.w T (c:Int))->¬J'.own dx->uL (C0.turn ((bL k x dx Cl fs).and J')) n sc ((t,.ptr T)::δ) ss P)
 (hab:∀env,attributeBase v ("maketrans":Str) env (eval v env)=eval v env:=by intro _;rfl)
 (hst:∀env,starEach [o] env=(false,eval o env)::starEach [] env:=by intro _;rfl) (hpl:∀pos env,(backTo pos (starEach [o] env)).any (·.1)=false:=by intro _ _;rfl)
 (hfew:∀pos env,((backTo pos (starEach [o] env)).all (λx=>!x.1)&&(backToKw pos (keywordEach [] env)).all (λx=>x.1.isSome)&&decide (([o]:List PySem.Expr).length+([]:List Keyword).length+(if ([]:List Keyword).isEmpty then 0 else 1)<30))=true:=by intro _ _;rfl)
 (hs:∀env,env.scope=sc->swapsWith (.Call (.Attribute v ("maketrans":Str) p1) [.Call (.Attribute (.Name ("dict":Str) p3) ("fromkeys":Str) p4) [o] [] p5] [] p2) (some (.Name t p)) pos.line env=pure false:=by intro _ _;rfl) :
 uL (C0.turn ((bL k x dx Cl fs).and J)) n sc δ (.Assign [.Name t p] (.Call (.Attribute v ("maketrans":Str) p1) [.Call (.Attribute (.Name ("dict":Str) p3) ("fromkeys":Str) p4) [o] [] p5] [] p2) pos::ss) P:=by
 refine CA (HC (C:=C0.turn _) (c:=c) S hn hv ho hy hc hk gd ht hl1 hl2 hab hst hpl hfew hs) ?_
 rintro I δ' ⟨T,rfl,nT,rfl⟩
 have:=h T _ rfl (λq=>q.elim hJ λw=>nT (w▸.inl (.inr rfl)))
 rw[←bX.and_assoc] at this
 exact this
set_option maxHeartbeats 1000000 in
theorem KR(hn:200<=n)(K:vL C0 ob fd fI fT obI fdI rest)(line:Str) :
 uL (C0.turn (bL 0 x dx 797 [])) n (aD (fH 34 0)) [("self",.ptr x),("instream",.str line),("infile",.none),("posix",.bool true),("punctuation_chars",.str "|")] (aX (fH 34 0)) (VL x dx line):=by
 refine CA (KP (b:=true) (HB (aA rfl rfl) (by rfl) K.gi (by rfl) (K.s.b.turn _)) (DZ (OP (C:=C0.turn (bL 0 x dx 797 [])) (K.s.turn _) K.ks (by rfl) (by exact Nat.le_trans (Nat.le_add_left ..) (by assumption)) (aA rfl rfl) ∅))) ?_
 rintro I δ' ⟨S,dS,rfl,ndS,nS,rfl⟩
 have neS:S≠dx:=λz=>nS (.inr z)
 have neD:dS≠dx:=λz=>ndS (.inr z)
 obtain⟨J1,hJ1⟩:∃J1,J1=bL 3 S dS 662 (kM line 0):=⟨_,rfl⟩
 have nJ1:¬J1.own dx:=by rwa[hJ1];rintro (q | q);exact neS q.symm;exact neD q.symm
 show uL (C0.turn ((bL 0 x dx 797 []).and (bL 3 S dS 662 (kM line 0)))) _ _ _ _ _
 rwa[←hJ1]
 refine oY (aW (b:=true) (aC (aH (aA rfl rfl) cB dG) rfl) (aP (OQ nJ1 K.cl (K.fl _ ∅) ∅ rfl (aA rfl rfl) rfl (aA rfl rfl)) (λb q=>q) (aO (OQ (C0:=C0) nJ1 K.cl (K.fl _ ∅) ∅ (by kernel_rfl) (aA rfl rfl) rfl (aA rfl rfl))))) (λb q=>q) ?_
 refine kF nJ1 K.cl (K.fl _ ∅) ∅ (by kernel_rfl) (aA rfl rfl) rfl (aA rfl rfl) ?_
 refine oY (aW (b:=true) (eN (aA rfl rfl)) (aO (OQ nJ1 K.cl (K.fl _ ∅) ∅ (by kernel_rfl) cB rfl (aA rfl rfl)))) (λb q=>q) ?_
 refine kF nJ1 K.cl (K.fl _ ∅) ∅ (by kernel_rfl) aT rfl (aA rfl rfl) ?_
 refine kF nJ1 K.cl (K.fl _ ∅) ∅ (by kernel_rfl) aT rfl (aA rfl rfl) ?_
 refine oY (aW (b:=true) (eN (BY (C:=C0.turn _) (J:=J1) rfl K.cl (K.fl _ ∅) (aA rfl rfl) (by rfl))) (aO (QF (a:=WB) (b:=WL) nJ1 K.cl (K.fl _ ∅) ∅ (by kernel_rfl) aT (aA rfl rfl) (by decide +kernel)))) (λb q=>q) ?_
 refine kF nJ1 K.cl (K.fl _ ∅) ∅ (by kernel_rfl) aT rfl (aA rfl rfl) ?_
 refine kF nJ1 K.cl (K.fl _ ∅) ∅ (by kernel_rfl) dJ rfl (aA rfl rfl) ?_
 refine kF nJ1 K.cl (K.fl _ ∅) ∅ (by kernel_rfl) aT rfl (aA rfl rfl) ?_
 refine kF nJ1 K.cl (K.fl _ ∅) ∅ (by kernel_rfl) aT rfl (aA rfl rfl) ?_
 refine kF nJ1 K.cl (K.fl _ ∅) ∅ (by kernel_rfl) aT rfl (aA rfl rfl) ?_
 refine kF nJ1 K.cl (K.fl _ ∅) ∅ (by kernel_rfl) aT rfl (aA rfl rfl) ?_
 refine xB nJ1 K.cl (K.fl _ ∅) ∅ (by kernel_rfl) (λ_=>aA rfl rfl) (by rfl) K.gq λPb J2 hJ2 nJ2=>?_
 refine kF nJ2 K.cl (K.fl _ ∅) ∅ (by kernel_rfl) aG rfl (aA rfl rfl) ?_
 refine kF nJ2 K.cl (K.fl _ ∅) ∅ (by kernel_rfl) aG rfl (aA rfl rfl) ?_
 refine kF nJ2 K.cl (K.fl _ ∅) ∅ (by kernel_rfl) aT rfl (aA rfl rfl) ?_
 refine xB nJ2 K.cl (K.fl _ ∅) ∅ (by kernel_rfl) (λ_=>aA rfl rfl) (by rfl) K.gq λFs J3 hJ3 nJ3=>?_
 refine kF nJ3 K.cl (K.fl _ ∅) ∅ (by kernel_rfl) cB rfl (aA rfl rfl) ?_
 refine oY (aW (b:=false) (aC (oN (mX (aA rfl rfl) ∅)) ∅) (aO (aW (b:=false) (aH (aA rfl rfl) dJ BZ) hU))) (λb q=>q) ?_
 refine kF nJ3 K.cl (K.fl _ ∅) ∅ (by kernel_rfl) (aA rfl rfl) rfl (aA rfl rfl) ?_
 refine DZ (KP (b:=true) (aC (mX (aA rfl rfl) ∅) ∅) ?_)
 refine xB nJ3 K.cl (K.fl _ ∅) ∅ (by kernel_rfl) (λ_=>aA rfl rfl) (by rfl) K.gq λPc J4 hJ4 nJ4=>?_
 refine oY (QF (a:=WB++WL) (b:="~-./*?=") nJ4 K.cl (K.fl _ ∅) ∅ (by kernel_rfl) aT (aA rfl rfl) (by decide +kernel)) (λb q=>q) ?_
 refine OR (c:=124) (z:=WC) nJ4 K.s.nw.cls hn (BY (C:=C0.turn _) (J:=J4) rfl K.cl (K.fl _ ∅) (aA rfl rfl) (by rwa[←QE];kernel_rfl)) (aA rfl rfl) ∅ (by decide +kernel) (by rfl) K.gd ∅ ∅ ∅ λT J5 hJ5 nJ5=>?_
 refine TM (d:=.str WC) nJ5 K.cl (K.fl _ ∅) ∅ (by kernel_rfl) (xA (C:=C0.turn _) (x:=WC) (T:=T) (c0:=((124:Nat):Int)) hn (λh H=>by have:=H.2;replace this:=hJ5▸this;exact this.2) (BY (C:=C0.turn _) (J:=J5) (d:=.str WC) rfl K.cl (K.fl _ ∅) (aA rfl rfl) ?_) (aA rfl rfl) (by decide +kernel) (by decide +kernel) (by decide +kernel) (by decide +kernel) ∅) rfl (aA rfl rfl) ?_
 . rwa[←QE];kernel_rfl
 refine DY ⟨⟨x,dx,S,dS,Pb,Pc,Fs,797,662⟩,rfl,rfl,rfl,rfl,λz=>neD z.symm,λb q=>?_,λh H=>?_⟩
 . rwa[hJ5,hJ4,hJ3,hJ2,hJ1]
   rcases q with q | q | q | q | q | q | q
   . exact .inl (.inl q)
   . exact .inl (.inr q)
   . exact .inr (.inl (.inl (.inl (.inl (.inl q)))))
   . exact .inr (.inl (.inl (.inl (.inl (.inr q)))))
   . exact .inr (.inl (.inl (.inl (.inr q))))
   . exact .inr (.inl (.inr q))
   . exact .inr (.inl (.inl (.inr q)))
 . have H2:=H.2
   replace H2:=hJ1▸hJ2▸hJ3▸hJ4▸hJ5▸H2
   refine⟨?_,(show cG 3 h S dS 662 (kM line 0) from H2.1.1.1.1).le ∅,H2.1.1.1.2,H2.1.2,H2.1.1.2⟩
   have H1:=H.1
   refine (cG.le (show cG 20 h x dx 797 _ from H1) ∅).congr λy=>?_
   kernel_rfl
end
structure oZ(C:Cx)(ob:Obj)(fd:FuncData)(fI fT:Addr)(obI:Obj)(fdI:FuncData)(rest:List Value)(fL:Addr)(obL:Obj)(fdL:FuncData):Prop where
 k0:vL C ob fd fI fT obI fdI rest
 mi:makesIn C.K 797=true
 mr:mroIn C.K 797 (.ref 797)=some true
 fi:findIn C.K (.ref 797) "__init__"=some (some (.ref fL))
 tf:typeIn C.K (.ref fL)=some (.type "function")
 F:mG C fL (fH 34 0) obL fdL
 bind:∀(x v u:Value) (A:Around) (s0:Shared) (Q:List (Str×Value)->Shared->Prop) (E:Value->Shared->Prop),C.K.In s0.heap->Q [("self",x),("instream",v),("infile",.none),("posix",.bool true),("punctuation_chars",u)] s0->wpAny C.M A (bindArgs fdL ⟨[x,v],[("posix",.bool true),("punctuation_chars",u)]⟩) Q E s0
section
variable{C:Cx}{n:Nat}{ob:Obj}{fd:FuncData}{fI fT:Addr}{obI:Obj}{fdI:FuncData}{rest:List Value}{fL:Addr}{obL:Obj}{fdL:FuncData}
theorem CB(hn:200<=n)(K:oZ C ob fd fI fT obI fdI rest fL obL fdL){A:Around}{B:Heap}{X:Addr->Prop}{s:Shared}{line:Str}{tk tu:Tok}{R:Result->Shared->Prop}(Cl0:Cl C (n+2) A B X s)
 (hR:∀a h' tk',(∀b o,s.heap.get? b=some o->h'.get? b=some o)->(∀b,dH a b->s.heap.get? b=none)->a.CL=797->a.CS=662->a.dL≠a.dS->rU a line 0 (.str " ") "" h'->R (.ok (.ret (.ref a.L))) {s with heap:=h',toks:=tk'}) :
 codeAny C.M A (.call (.ref 797) ⟨[.str line tk],[("posix",.bool true),("punctuation_chars",.str "|" tu)]⟩) R s:=by
 have XK:C.K.In s.heap:=(Cl0.gl.keeps Cl0.kb).k
 obtain⟨hh,g,d,t,os⟩:=s
 refine make_core (makes_of XK K.mi) (looks_findIn XK K.fi) (λself=>bind_fn XK self K.tf) (.inl rfl) ?_
 obtain⟨dx,hdx⟩:∃dx,dx=hh.objs.size:=⟨_,rfl⟩
 obtain⟨x,hx⟩:∃x,x=hh.objs.size+1:=⟨_,rfl⟩
 obtain⟨h',hh'⟩:∃h',h'=(hh.push emptyDict).push (instObj 797 hh.objs.size):=⟨_,rfl⟩
 rwa[←hh',←hx]
 have kp:∀b o,hh.get? b=some o->h'.get? b=some o:=λb o e=>by rwa[hh'];exact Heap.get?_push_of_some _ (Heap.get?_push_of_some _ e)
 have nx:hh.get? x=none:=by
  cases q:hh.get? x with
  | none=>rfl
  | some o=>replace q:=hx▸q;exact absurd (Heap.lt_size q) (Nat.not_lt.mpr (Nat.le_succ _))
 have ndx:hh.get? dx=none:=by rwa[hdx];exact aN
 have ex:h'.get? x=some (instObj 797 dx):=by
  have:=Heap.get?_push_size (h:=hh.push emptyDict) (o:=instObj 797 hh.objs.size) (by rfl)
  rw[Heap.size_push] at this
  rwa[hh',hx,hdx];exact this
 have edx:h'.get? dx=some emptyDict:=by rwa[hh',hdx];exact Heap.get?_push_of_some _ (Heap.get?_push_size _ rfl)
 have nB:∀c,hh.get? c=none->B.get? c=none:=λc e=>by
  cases q:B.get? c with
  | none=>rfl
  | some o=>injection tq (Cl0.kb c o q) e
 have Cl2:Cl (C.turn (bL 0 x dx 797 [])) (n+1) (A.under (RK 797 [.str line tk] [("posix",.bool true),("punctuation_chars",.str "|" tu)])) B X ⟨h',g,d,t,os⟩ :=
  ⟨Cl0.rm.under,Cl0.ho.keeps kp,Cl0.xo.keeps kp,⟨Cl0.gl.k,Cl0.gl.g,Cl0.gl.b,Cl0.gl.nl⟩,λb o e=>kp b o (Cl0.kb b o e),λb q=>q.elim (λz=>z▸nB _ nx) (λz=>z▸nB _ ndx),cG.new ex edx,λa q=>q.elim⟩
 have hb:∀(A':Around) (Q:List (Str×Value)->Shared->Prop) (E:Value->Shared->Prop),(∀vs ds s',vs.length=(["self","instream","infile","posix","punctuation_chars"]:List Str).length->ds.length=(["self","instream","infile","posix","punctuation_chars"]:List Str).length->ds=[.ptr x,.str line,.none,.bool true,.str "|"]->Keeps ⟨h',g,d,t,os⟩ s'->dI X s'.heap vs ds->Q ((["self","instream","infile","posix","punctuation_chars"]:List Str).zip vs) s')->wpAny C.M A' (bindArgs fdL ⟨[.ref x,.str line tk],[("posix",.bool true),("punctuation_chars",.str "|" tu)]⟩) Q E ⟨h',g,d,t,os⟩:=by
  intro A' Q E h
  refine K.bind (.ref x) (.str line tk) (.str "|" tu) A' ⟨h',g,d,t,os⟩ Q E (XK.keeps kp) ?_
  have:=h [.ref x,.str line tk,.none,.bool true,.str "|" tu] [.ptr x,.str line,.none,.bool true,.str "|"] ⟨h',g,d,t,os⟩ rfl rfl rfl (aE _) (.cons (.ptr _) (.cons (.str _ _) (.cons .none (.cons (.bool _) (.cons (.str _ _) .nil)))))
  exact this
 have FI:mG (C.turn (bL 0 x dx 797 [])) fL (fH 34 0) obL fdL:=⟨K.F.hK,K.F.hd,K.F.hcode,K.F.hbody,K.F.hscope,K.F.hcl,K.F.hg,K.F.hb⟩
 refine JZ (C:=C.turn (bL 0 x dx 797 [])) (n:=n) (names:=["self","instream","infile","posix","punctuation_chars"]) (st:=fH 34 0) FI ∅ (λds=>ds=[.ptr x,.str line,.none,.bool true,.str "|"]) hb Cl2 λenv h1 tk1 ds hP hsc hfr hL k1 hC O1=>?_
 subst hP
 refine (KR (C0:=C) hn K.k0 line).go _ B env X _ _ _ O1 Cl2.bo λI δ' s2 hP k2 g2 O2=>?_
 obtain a|rfl|rfl|ea|eb|ne|ow|lh:=YX hP
 obtain h2|tk2|rfl|k2:=dZ k2
 have off:∀b o,hh.get? b=some o->h2.get? b=some o:=λb o q=>by
  refine k2 b o (λz=>?_) (λz=>?_) (λy z=>?_) (k1 b o (kp b o q))
  . rcases z with rfl | rfl
    . injection tq nx q
    . injection tq ndx q
  . have:=kp b o q;replace this:=z▸this;dsimp only at hL;injection tq hL this
  . have:=kp b o q;have w:=hC y b z;dsimp only at w;injection tq w this
 refine⟨rfl,hR a h2 tk2 off (λb q=>?_) ea eb ne (lh _ O2.iv)⟩
 rcases g2 b (ow b q) with (z | z) | z
 . rwa[z];exact nx
 . rwa[z];exact ndx
 . cases w:hh.get? b with
   | none=>rfl
   | some o=>have:=k1 b o (kp b o w);injection tq z this
end
noncomputable def PD(ds:List D)(vs:List Value):Prop:=∀X h,dI X h vs ds
theorem PD.nil:PD [] []:=λ_ _=>.nil
theorem PD.snoc{ds:List D}{vs:List Value}{d:D}{v:Value}(p:PD ds vs)(r:tC v d):PD (ds++[d]) (vs++[v]):=λX h=>(p X h).append (.cons (r X h) .nil)
theorem PD.len{ds:List D}{vs:List Value}(p:PD ds vs):vs.length=ds.length:=(p (λ_=>False) default).length
section
variable{C:Cx}{n:Nat}{sc:Scope}{δ:List (Str×D)}{I J:bX}{R:Addr}{P:List Value->Prop}
theorem Ok.freeze{A:Around}{B:Heap}{env:Env}{X:Addr->Prop}{h:Heap}{x:Str}{ds:List D}(O:Ok C n sc δ A B env X h)(hI:C.I=I.and (cO R P))(hl:¬I.lst R)(hP:∀vs,P vs->PD ds vs)(hx:δ.lookup x=some (.ptr R)) :
 Ok (C.turn I) n sc ((x,.list ds)::δ) A B env (λb=>X b/\b≠R) h:=by
 have iv:=O.iv
 replace iv:=hI▸iv
 rcases aL O.st with ρ|F|V
 rcases aL iv.2 with vs|hpl|hvs
 refine⟨O.rm,O.ho,λa ha=>O.xo a ha.1,iv.1,λa q=>⟨O.ox a (by rwa[hI];exact .inl q),λz=>hl (z▸q)⟩,ρ,?_,λy d e=>?_⟩
 . rcases nU F.base with G|k0|hL|hC
   exact⟨⟨⟨G.k,G.g,G.b,G.nl⟩,k0,⟨hL.1,λq=>hL.2 (by rwa[hI];exact .inl q)⟩,λy c z=>⟨(hC y c z).1,λq=>(hC y c z).2 (by rwa[hI];exact .inl q)⟩⟩,F.scope,F.kind,F.globals,F.builtins,F.ns,F.cells,F.inj,F.allc⟩
 . rw[List.lookup_cons] at e
   split at e
   . rename_i q
     obtain rfl:=Option.some.inj e
     have:y=x:=by simpa using q
     subst this
     rcases aL (V _ _ hx) with v|e1|r
     obtain rfl:=cW r
     refine⟨_,e1,.list (λz=>z.2 rfl) (vs:=vs.toList) (by simpa using hpl) (hP _ hvs _ _)⟩
   . rcases aL (V _ _ e) with v|e1|r
     exact⟨v,e1,r.at λb o z _ e=>⟨λw=>z w.1,e⟩⟩
theorem HD{rest:List Stmt}{x:Str}{ds:List D}{d:D}(hI:C.I=I.and (cO R P))(hl:¬I.lst R)(hP:∀vs,P vs->PD ds vs)(hx:δ.lookup x=some (.ptr R))(h:Ex (C.turn I) n sc ((x,.list ds)::δ) rest (.ret d))(hd:d.flat=true):MX C n sc δ rest (.ret C.I d):=by
 refine⟨λA B env X s Q E O bo hQ=>h.go A B env _ s Q E (O.freeze hI hl hP hx) λfl s' k o=>hQ fl s' (.of_frk k) ?_⟩
 obtain v|rfl|r:=aL o
 obtain h'|tk|rfl|b2:=dZ k
 rcases aL O.st with ρ|F|V
 rcases nU F.base with G|k0|hL|hC
 exact⟨C.I.at_ _ _ O.iv λb o q e=>b2 b o (λz=>hL.2 (z▸q)) (λy z=>(hC y b z).2 q) e,v,rfl,(tC.of r hd) _ _⟩
theorem OS{f:Addr}(F:gI C f (aY 43) pl ["word","read"])(b:Bs C){ws:List Str}{w:Str}(hI:C.I=I.and (cO R (PD (ws.map .str))))(ho:¬I.own R)(hl:¬I.lst R)(hz:ws.length<=20)(hw:∀x∈ws++[w],dR x<=2)(hn:4<=n) :
 Fc C (n+1) f pl [.str w,.ptr R] (I.and (cO R (PD ((ws++[w]).map .str)))) (.int (((ws++[w]).map jQ).sum)):=by
 obtain⟨m,rfl⟩:∃m,n=m+1:=⟨n-1,by lia⟩
 refine vH (o:=.ret (I.and (cO R (PD ((ws++[w]).map .str)))) (.int (((ws++[w]).map jQ).sum))) F rfl ∅ ?_ (.inl rfl)
 refine aP (qK (a:=R) (d:=.str w) (P':=PD ((ws++[w]).map .str)) hI ho (aA rfl rfl) (aA rfl rfl) (λX h vs v p r=>by rwa[List.map_append];exact p.snoc (tC.of r rfl)) (λvs p=>by rwa[p.len,List.length_map ..];exact Nat.le_trans (by assumption) ∅) ∅) (λx q=>by rwa[hI];exact q) ?_
 refine HD (x:="read") (ds:=(ws++[w]).map .str) rfl hl (λvs p=>p) rfl ?_ rfl
 refine bV (bO ?_)
 have hz':∀k,k<=1000->k<=sizeLine:=λk h=>Nat.le_trans h ∅
 refine cP (ds:=[.list (((ws++[w]).map jQ).map D.int)]) (by rfl) b.sum.1 b.sum.2 ∅ (bY ?_) (AV ?_ ?_)
 . refine fP (ds:=(ws++[w]).map D.str) (eJ (aA rfl rfl)) ∅ rfl (by simp) (by simp;exact hz' _ (by exact Nat.lt_of_le_of_lt (by assumption) ∅)) λk d o e1 e2=>?_
   replace e1:=(List.getElem?_map)▸e1
   replace e2:=(List.getElem?_map)▸List.map_map▸e2
   cases q:(ws++[w])[k]? with
   | none=>replace e1:=q▸e1;injection e1
   | some x =>
    replace e1:=q▸e1;replace e2:=q▸e2
    obtain rfl:=Option.some.inj e1;obtain rfl:=Option.some.inj e2
    exact yD (aA rfl rfl) (hw x (List.mem_of_getElem? q)) ∅
 . intro x hx
   rcases aL (List.mem_map.mp hx) with y|hy|rfl
   have:=yE (hw y hy)
   exact Nat.lt_of_le_of_lt (by assumption) ∅
 . simp;lia
theorem Fc.frame{f:Addr}{args:List Value->Args}{ds:List D}{d:D}(F:Fc C n f args ds I d)(hd:∀b,J.own b->¬C.I.own b):Fc (C.turn (C.I.and J)) n f args ds (I.and J) d:=by
 refine⟨λA B X s vs R K r h=>F.go A B X s vs R ⟨K.rm,K.ho,K.xo,⟨K.gl.k,K.gl.g,K.gl.b,K.gl.nl⟩,K.kb,λb q=>K.bo b (.inl q),K.iv.1,λa q=>K.ox a (.inl q)⟩ r λv s' k iv r'=>?_⟩
 obtain h'|tk|rfl|k:=dZ k
 exact h v _ ⟨h',tk,rfl,λb o q e=>k b o (λz=>q (.inl z)) e⟩ ⟨iv,J.at_ _ _ K.iv.2 λb o q e=>k b o (hd b q) e⟩ r'
end
section
variable{prog:Program}{w:World}{A:Around}{E:Value->Shared->Prop}{s:Shared}
theorem tN{a:Addr}{g n:Nat}{gs:GenState}{R:GenEnd}{Y:Protocol}{Q:Option Value->Shared->Prop}
 (hl:s.heap.NoLimit) (hroom:A.depth<recursionLimit) (hg:s.heap.IsGen a g) (hgs:s.gens[g]?=some gs) (hgo:gs.Goes (model prog w) A.in1 R Y n (.send .none) (s.setGen g .running))
 (hY:∀v s₁ gs',gs'.bare=true->Y (n-1) (s.setGen g .running) v s₁ (λr' s''=>match n with
  | 0=>False
  | m+1=>gs'.Goes (model prog w) A.in1 R Y m r' s'')->Q (some v) (s₁.setGen g gs'))
 (hR:∀r s₁,R n (s.setGen g .running) r s₁->∃e o,r=.error (.ref e)/\s₁.heap.IsGen a g/\s₁.heap.get? e=some o/\Looks (model prog w) s₁.heap (isSubtype o.cls (.type "StopIteration")) false/\E (.ref e) (s₁.setGen g .finished)) :
 wpAny (model prog w) A (pyNext (.ref a)) Q E s:=by
 unfold pyNext
 refine wpAny_bind (wpAny_attempt (wpAny_callSpecial?_slot (name:=Str.ofString "__next__") hg.typeIs slot_gen_next
  (wpAny_call_entry slot_gen_next hg.typeIs entry_gen_next ?_ (args_gen_next _))))
 show wpAny _ A.in1 (Builtin.Generator.genWake (.ref a) (.send .none)) _ _ s
 unfold Builtin.Generator.genWake
 refine wpAny_bind (wpAny_holding (wpAny_genNumber hg (wpAny_bind (wpAny_genState hgs ?_))))
 cases gs with
 | running=>exact hgo.elim
 | finished=>exact hgo.elim
 | _ =>
  refine wpAny_bind (wpAny_roomToWake hl hroom ?_)
  show wpAny _ A.in1 (.resume g (.send .none) [] _) _ _ s
  refine wpAny_resumeQ hgs hgo (λx s₁ hx=>?_) (λv s₁ gs' hb hv=>?_)
  . rcases EN (hR x s₁ hx) with e|o|rfl|hg1|ho|hL|hE
    have hL':Looks (model prog w) (s₁.setGen g .finished).heap (isSubtype o.cls (.type "StopIteration")) false:=hL
    have inst:∀{A':Around} {Q':Bool->Shared->Prop} {E':Value->Shared->Prop},Q' false (s₁.setGen g .finished)->wpAny (model prog w) A' (isInstance (.ref e) (.type "StopIteration")) Q' E' (s₁.setGen g .finished):=λq =>
     wpAny_bind (wpAny_typeOf_ref (s:=s₁.setGen g .finished) ho (hL'.here q))
    show wpAny _ A.in1 (Builtin.Generator.genLeft (.ref a) (.ref e)) _ _ _
    unfold Builtin.Generator.genLeft
    obtain og|nm|qn|hog|hcg|hdg|_:=tX hg1
    refine wpAny_bind (m:=Builtin.Generator.madeByALambda (.ref a)) ?_
    unfold Builtin.Generator.madeByALambda
    refine wpAny_bind (wpAny_load (s:=s₁.setGen g .finished) hog (wpAny_pure ?_))
    refine wpAny_bind (inst ?_)
    rwa[Bool.and_false ..,if_neg Bool.false_ne_true]
    unfold Builtin.Generator.genEscaped
    refine wpAny_bind (inst ?_)
    rwa[if_pos (by rfl)]
    refine wpAny_bind (wpAny_throw ?_)
    refine wpAny_bind (inst ?_)
    rwa[if_neg Bool.false_ne_true]
    exact wpAny_throw hE
  . exact wpAny_pure ⟨v,rfl,wpAny_pure (hY v s₁ gs' hb hv)⟩
end
section
variable{M:Model}{A:Around}{R:GenEnd}{Y:Protocol}{n:Nat}{s₀:Shared}{c:Code}{fs:List Frame}{s:Shared}{env:Env}
 {K:Flow->Sem Fin} {H:Value->Sem Fin} {gd:Bool->Bool} {lv:List Value->List Value}
noncomputable def OT(K:Flow->Sem Fin)(H:Value->Sem Fin)(gd:Bool->Bool)(lv:List Value->List Value)(env:Env):Result->Sem Fin:=λr=>((match r with | .ok f=>(.pure f:Sem Flow) | .error e=>.raise e).onRaise λ(x:Value)=>do
 if (←field x 1)==Value.none then unsupported "frame.own-activation:exception-without-traceback"
 setFlight x env.frame).wrap K H gd lv
theorem OU{target iter:PySem.Expr}{body orelse:List Stmt}{pos:Pos}
 (h:wpAny M (A.over c fs) (eval iter env) (λx s₁=>wpAny M (A.over c fs) (pyIter x) (λit s₂ =>
  ∀p,Seg M A R Y n s₀ (.forLoop target it body orelse env) (M.den (.forLoop target it body orelse env)) (.ret (OT K H gd lv env) none (gd false) (lv []) c p []::fs) s₂) (λx s'=>Seg M A R Y n s₀ c (H x) fs s') s₁) (λx s'=>Seg M A R Y n s₀ c (H x) fs s') s)
 (hf:∀x,foldedSetIterable iter env x=pure x:=by intro _;rfl) :
 Seg M A R Y n s₀ c ((exec (.For target iter body orelse pos) env).wrap K H gd lv) fs s:=by
 rwa[exec_For ..]
 refine seg_bind_wrap (wpAny_standAt ?_)
 refine seg_bind_wrap (wpAny_mono h (λx s₁ h₁=>?_) λ_ _ e=>e)
 refine seg_bind_wrap (wpAny_of_eq (hf x) ?_)
 refine seg_bind_wrap (wpAny_standAt ?_)
 refine seg_bind_wrap (wpAny_holding (wpAny_mono h₁ (λit s₂ h₂=>?_) λ_ _ e=>e))
 exact seg_call h₂
noncomputable abbrev nH(env:Env):Value->Sem Fin:=λe=>(do noteFrame e env;theTreesLotGoes e:Sem Unit).wrap (λ_=>.raise e) .raise id id
theorem CC{e:Value}(h:wpAny M (A.over c fs) (noteFrame e env) (λ_ s'=>Seg M A R Y n s₀ c (.raise e) fs s') (λx s'=>Seg M A R Y n s₀ c (.raise x) fs s') s):Seg M A R Y n s₀ c (nH env e) fs s :=
 seg_wrap (wpAny_bind (wpAny_mono h (λ_ _ q=>wpAny_theTreesLotGoes q) λ_ _ q=>q))
end
section
variable{prog:Program}{w:World}{A:Around}{R:GenEnd}{Y:Protocol}{n:Nat}{s₀:Shared}{fs:List Frame}{s:Shared}{env:Env}
theorem rK{target:PySem.Expr}{it:Value}{body orelse:List Stmt}
 (h:wpAny (model prog w) (A.over (.forLoop target it body orelse env) fs) (pyNext it) (λr s₁=>match r with
  | none=>False
  | some v=>wpAny (model prog w) (A.over (.forLoop target it body orelse env) fs) (assign target env v) (λ_ s₂ =>
   Seg (model prog w) A R Y n s₀ (.forLoop target it body orelse env) ((execs body env).wrap (λf=>match f with
    | .next | .cont=>.pure (.again (.forLoop target it body orelse env))
    | .brk=>.pure (.done .next)
    | .ret v=>.pure (.done (.ret v))) (nH env) id id) fs s₂) (λx s'=>Seg (model prog w) A R Y n s₀ (.forLoop target it body orelse env) (nH env x) fs s') s₁)
  (λx s'=>Seg (model prog w) A R Y n s₀ (.forLoop target it body orelse env) (nH env x) fs s') s)
 (ht:∀v,letOwnedTupleGo target it v=pure ():=by intro _;rfl) :
 Seg (model prog w) A R Y n s₀ (.forLoop target it body orelse env) ((model prog w).den (.forLoop target it body orelse env)) fs s:=by
 show Seg _ A R Y n s₀ _ ((forTurn target it body orelse env).onRaise (λx=>do noteFrame x env;theTreesLotGoes x)) fs s
 unfold forTurn
 rwa[Sem.onRaise_eq_wrap ..]
 have eH:(λe=>(do noteFrame e env;theTreesLotGoes e:Sem Unit).bind λ_=>(.raise e:Sem Fin))=nH env:=funext λe=>Sem.bind_eq_wrap _ _
 rwa[eH]
 refine seg_bind_wrap (wpAny_standAt ?_)
 refine seg_bind_wrap (wpAny_onRaise (wpAny_mono h (λr s₁ h₁=>?_) λx s' hx=>wpAny_standAt hx))
 cases r with
 | none=>exact h₁.elim
 | some v =>
  refine seg_bind_wrap (wpAny_of_eq (ht v) ?_)
  refine seg_bind_wrap (wpAny_mono h₁ (λ_ s₂ h₂=>?_) λ_ _ e=>e)
  rwa[Sem.bind_eq_wrap' ..,Sem.wrap_wrap ..]
  rwa[Sem.wrap_congr (execs body env) _ _ (K':=λf=>match f with
   | .next | .cont=>.pure (.again (.forLoop target it body orelse env))
   | .brk=>.pure (.done .next)
   | .ret v=>.pure (.done (.ret v))) (H':=nH env) (λf=>by cases f<;>rfl) (λe=>by rfl)]
  exact h₂
end
theorem lI.and{I I' J J':bX}(x:lI I I')(y:lI J J'):lI (I.and J) (I'.and J') where
 own:=λb q=>q.imp (x.own b) (y.own b)
 lst:=λb q=>q.imp (x.lst b) (y.lst b)
 seq:=λh h' b o vs nn i i' q e z=>q.elim (λq=>x.seq h h' b o vs nn i.1 i'.1 q e z) λq=>y.seq h h' b o vs nn i.2 i'.2 q e z
 exc:=λh b o vs i q e z=>q.elim (λq=>x.exc h b o vs i.1 q e z) λq=>y.exc h b o vs i.2 q e z
theorem dY{R:Addr}{P P':List Value->Prop}:lI (cO R P) (cO R P') where
 own:=λ_ q=>q
 lst:=λ_ q=>q
 seq:=λh h' b o vs nn _ ⟨ws,⟨m,e⟩,_⟩ q _ _=>by subst q;exact⟨_,_,_,e,rfl⟩
 exc:=λh b o vs ⟨ws,⟨m,e⟩,_⟩ q e' z=>by subst q;have h_:=sx e e';clear e';subst h_;injection z
section
variable{C:Cx}{n:Nat}{sc:Scope}{δ:List (Str×D)}{J:bX}
theorem KS{f:Str}{np pos:Pos}{a:PySem.Expr}{as:List PySem.Expr}{ds:List D}{d:D}{fa:Addr}{st:Stmt}{names:List Str}(F:gI C fa st pl names)(hk:sc.names.lookup f=some .globalImplicit)(hg:C.mg f=some (.ref fa))(hd:(f==("__debug__":Str))=false)(T:lI C.I J)
 (ha:uT C n sc δ (a::as) ds) (hF:Fc C n fa pl ds J d) (hst:∀env,starEach (a::as) env=(false,eval a env)::starEach as env:=by intro _;rfl):SZ C n sc δ (.Call (.Name f np) (a::as) [] pos) J d:=by
 refine⟨λA B env X s Q E O bo h=>?_⟩
 obtain ob|fd|h1|h2|_:=iG F
 refine wpAny_Call_ofName (cA O hk hg hd ?_)
 refine callWith_function (o:=ob) (fd:=fd) ?_
 have e:backTo pos (starEach (a::as) env)=(false,eval a env)::backTo pos (starEach as env):=by rwa[hst ..];rfl
 have hA:=ha.go A B env X pos s
 rw[e] at hA ⊢
 refine evalArgs_plain (hA _ _ O λvs s1 k1 r1=>?_)
 have O1:=O.on k1
 refine⟨⟨O1.gl.k _ _ h1,h2⟩,?_⟩
 refine wpAny_call (hF.go A B X s1 vs _ (O1.cl bo) r1 λv s2 k2 i2 r2=>h v s2 ?_ (O1.called bo T k2 i2) r2)
 exact BA.trans (I':=C.I) (.of_keeps k1) k2 λz q=>.inl q
theorem HE{A:Around}{B:Heap}{env:Env}{X:Addr->Prop}{s:Shared}{Q:Option Value->Shared->Prop}{E:Value->Shared->Prop}{k:Nat}{x dx Cl f:Addr}{fs:List (Str×D)}{d:D}(O:Ok C n sc δ A B env X s.heap)(bo:Bo C B)(I:cQ C k x dx Cl fs)
 (hf:findIn C.K (.ref Cl) "__next__"=some (some (.ref f))) (ht:isFn C.K (.ref f)=true) (hF:Fc C n f pl [.ptr x] J d) (T:lI C.I J)
 (h:∀v s',BA C s s'->Ok (C.turn J) n sc δ A B env X s'.heap->Rd X s'.heap v d->Q (some v) s'):wpAny C.M A (pyNext (.ref x)) Q E s:=by
 rcases aL (I.hi _ O.iv) with m|hm|_
 rcases EN hm.at with es|nn|_|_|_|_|I'
 unfold pyNext
 refine wpAny_bind (wpAny_attempt (special_fn O.gl.k I' hf (beq_iff_eq.mp ht) (wpAny_call (hF.go A B X s [.ref x] _ (O.cl bo) (.cons (.ptr x) .nil) λv s2 k2 i2 r2=>?_))))
 exact wpAny_pure (h v s2 k2 (O.called bo T k2 i2) r2)
theorem zM{A:Around}{B:Heap}{env:Env}{X:Addr->Prop}{s:Shared}{Q:Option Value->Shared->Prop}{E:Value->Shared->Prop}{k:Nat}{x dx Cl f:Addr}{fs:List (Str×D)}{I:bX}{T:String}{txt:Str}{l:List Env}(O:Ok C n sc δ A B env X s.heap)(bo:Bo C B)(II:cQ C k x dx Cl fs)
 (hf:findIn C.K (.ref Cl) "__next__"=some (some (.ref f))) (ht:isFn C.K (.ref f)=true) (hF:GK C n f pl [.ptr x] I (.type T) txt) (hh:A.handled=none) (hfr:A.frames=some l) (fo:dO C.I l s.heap) (hT:isSubtype (.type T) (.type "StopIteration")=pure false)
 (h:∀ev s',Rf C.I l s I (.type T) txt s' ev->E ev s'):wpAny C.M A (pyNext (.ref x)) Q E s:=by
 rcases aL (II.hi _ O.iv) with m|hm|_
 rcases EN hm.at with es|nn|_|_|_|_|I'
 unfold pyNext
 refine wpAny_bind (wpAny_attempt (special_fn O.gl.k I' hf (beq_iff_eq.mp ht) (wpAny_call (hF.go A B X s [.ref x] _ l (O.cl bo) (.cons (.ptr x) .nil) hh hfr fo λev s2 z=>?_))))
 have z':=z
 obtain e|t|tb|tk|h'|tk'|rfl|rfl|F:=SV z
 refine wpAny_bind (wpAny_bind (wpAny_typeOf_ref (s:={s with heap:=h',toks:=tk'}) F.ex (wpAny_of_eq hT ?_)))
 rwa[if_neg Bool.false_ne_true]
 exact wpAny_throw (h _ _ z')
theorem Ok.other{A:Around}{B:Heap}{env:Env}{X:Addr->Prop}{h h':Heap}{I:bX}{Z:Addr->Prop}(O:Ok C n sc δ A B env X h)(bo:Bo C B)(T:lI C.I I)(k:∀b o,¬C.I.own b->¬Z b->h.get? b=some o->h'.get? b=some o)(iv:I.inv h')
 (hZB:∀b,Z b->B.get? b=none) (hZL:¬Z env.locals) (hZc:∀x c,env.cells.lookup x=some c->h'.get? c=h.get? c)
 (hZl:∀b o,Z b->h.get? b=some o->IA o->X b) (hZX:∀b,Z b->¬C.I.own b->X b->∃o' vs' nn',h'.get? b=some o'/\o'.data=.seq vs' nn') (hZe:A.handled=none):Ok (C.turn I) n sc δ A B env X h':=by
 rcases aL O.st with ρ|F|V
 rcases nU F.base with G|k0|hL|hC
 rcases aL F.ns with m0|hn|hm0
 refine⟨O.rm,.inl hZe,λa ha=>?_,iv,λa q=>O.ox a (T.lst a q),ρ,?_,V.at λb o xb l q=>⟨xb,k b o (λob=>xb (O.ox b (C.I.seqs _ _ _ O.iv ob q l))) (λz=>xb (hZl b o z q l)) q⟩⟩
 . rcases eU (O.xo a ha) with o|vs|nn|q1|q2
   by_cases ob:C.I.own a
   . exact T.seq _ _ _ _ _ _ O.iv iv ob q1 q2
   . by_cases z:Z a
     . exact hZX a z ob ha
     . exact⟨o,vs,nn,k _ _ ob z q1,q2⟩
 . exact⟨⟨⟨G.k,G.g,G.b,G.nl⟩,λb o q=>k b o (λob=>by injection tq (bo b ob) q) (λz=>by injection tq (hZB b z) q) (k0 b o q),⟨hL.1,λq=>hL.2 (T.own _ q)⟩,λy a q=>⟨(hC y a q).1,λz=>(hC y a q).2 (T.own _ z)⟩⟩,F.scope,F.kind,F.globals,F.builtins,⟨m0,hn.at' λo q=>k _ o hL.2 hZL q,hm0⟩,
    λy hy=>let ⟨a,q1,o,q2,q3⟩:=F.cells y hy;⟨a,q1,o,(hZc y a q1).trans q2,q3⟩,F.inj,λy a q=>let ⟨v,o,q2,q3⟩:=F.allc y a q;⟨v,o,(hZc y a q).trans q2,q3⟩⟩
end
noncomputable def GS(ow:Addr->Prop)(L:Addr)(s0 s:Shared):Prop:=∃h' tk,s={s0 with heap:=h',toks:=tk}/\∀b o,¬ow b->b≠L->s0.heap.get? b=some o->h'.get? b=some o
theorem GS.refl(ow:Addr->Prop)(L:Addr)(s:Shared):GS ow L s s:=⟨s.heap,s.toks,rfl,λ_ _ _ _ e=>e⟩
theorem GS.trans{ow:Addr->Prop}{L:Addr}{a b c:Shared}(x:GS ow L a b)(y:GS ow L b c):GS ow L a c:=by
 obtain h|t|rfl|k:=dZ x
 obtain h'|t'|rfl|k':=dZ y
 exact⟨h',t',rfl,λz o q1 q2 e=>k' z o q1 q2 (k z o q1 q2 e)⟩
section
variable{C:Cx}{n:Nat}{sc:Scope}{δ:List (Str×D)}
theorem GS.of{I:bX}{ow:Addr->Prop}{L:Addr}{a b:Shared}(k:BA (C.turn I) a b)(e:I.own=ow):GS ow L a b:=by
 obtain h|t|rfl|k:=dZ k
 exact⟨h,t,rfl,λz o q1 _ q=>k z o (by show ¬I.own z;rwa[e];exact q1) q⟩
theorem dO.gs{I I':bX}{l:List Env}{L:Addr}{a b:Shared}(F:dO I l a.heap)(k:GS I.own L a b)(ho:I'.own=I.own)(hL:∀en∈l,en.frame≠some L):dO I' l b.heap:=λen he=>by
 rcases bW (F en he) with kk|q_0;obtain L'|o|es|ep|h1|h2|h3|h4:=uS q_0
 obtain h|t|rfl|k:=dZ k
 exact⟨kk,L',o,es,ep,h1,by rwa[ho];exact h2,k L' o h2 (λz=>hL en he (z▸h1)) h3,h4⟩
structure GH(C:Cx)(n:Nat)(sc:Scope)(δ:List (Str×D))(A:Around)(B:Heap)(env:Env)(X:Addr->Prop)(l:List Env)(I:bX)(h:Heap):Prop where
 ok:Ok (C.turn I) n sc δ A B env X h
 fr:dO I l h
noncomputable def tO(C:Cx)(n:Nat)(sc:Scope)(δ:List (Str×D))(A3:Around)(B:Heap)(env:Env)(X:Addr->Prop)(lf:List Env)(Ia:Nat->bX)(ow:Addr->Prop)(vals:Nat->D)(N:Nat):Protocol:=λm s0 v s kap =>
 tC v (vals (N-1-m))/\GS ow env.locals s0 s/\GH C n sc δ A3 B env X lf (Ia (N-m)) s.heap/\∀s'':Shared,GH C n sc δ A3 B env X lf (Ia (N-m)) s''.heap->kap (.send .none) s''
noncomputable def CD(ow:Addr->Prop)(env:Env)(lf:List Env)(IE:bX)(cls:Value)(txt:Str):GenEnd:=λn s0 r s1 =>
 n=0/\∃e t tb tk h' tk',r=.error (.ref e)/\s1={s0 with heap:=h',toks:=tk'}/\iI (λb=>ow b\/b=env.locals) IE (env::lf) s0.heap e t cls [.str txt tk] tb (some .none) h'
theorem OV{elt iter:PySem.Expr}{x:Str}{px:Pos}{scope:Scope}{pos:Pos}{L:Addr}{A:Around}{B:Heap}{env:Env}{X:Addr->Prop}{lf:List Env}{N:Nat}{Ia Ib:Nat->bX}{IE:bX}{ow:Addr->Prop}{vals wd:Nat->D}{T:String}{txt:Str}{A3:Around}
 (hA3:A3=A.over (.compLoop (.GeneratorExp elt [⟨.Name x px,iter,[],0⟩] scope pos) 0 (.ref L) .none env) []) (hfr:A3.frames=some (env::lf)) (hL:env.frame=some env.locals) (hLl:∀en∈lf,en.frame≠some env.locals) (hco:scope.isCoroutine=false) (hsc:env.scope=scope)
 (hbo:∀b,ow b->B.get? b=none) (hoa:∀j,(Ia j).own=ow) (hob:∀j,(Ib j).own=ow) (hx:sc.names.lookup x=some .local) (hv:∀j,(vals j).flat=true) (hδ:δ.lookup x=none)
 (word:∀j,j<N->∀(s:Shared) (Q:Option Value->Shared->Prop) (E:Value->Shared->Prop),Ok (C.turn (Ia j)) n sc δ A3 B env X s.heap->Bo (C.turn (Ia j)) B->(∀v s',BA (C.turn (Ia j)) s s'->Ok (C.turn (Ib j)) n sc δ A3 B env X s'.heap->Rd X s'.heap v (wd j)->Q (some v) s')->wpAny C.M A3 (pyNext (.ref L)) Q E s)
 (step:∀j,j<N->SZ (C.turn (Ib j)) n sc ((x,wd j)::δ) elt (Ia (j+1)) (vals j))
 (fault:∀(s:Shared) (Q:Option Value->Shared->Prop) (E:Value->Shared->Prop),Ok (C.turn (Ia N)) n sc δ A3 B env X s.heap->Bo (C.turn (Ia N)) B->dO (Ia N) (env::lf) s.heap->(∀ev s',Rf (Ia N) (env::lf) s IE (.type T) txt s' ev->E ev s')->wpAny C.M A3 (pyNext (.ref L)) Q E s) :
 ∀(r j:Nat) (s0 s:Shared),j+r=N->GH C n sc δ A3 B env X lf (Ia j) s.heap->GS ow env.locals s0 s ->
  Seg C.M A (CD ow env lf IE (.type T) txt) (tO C n sc δ A3 B env X lf Ia ow vals N) r s0 (.compLoop (.GeneratorExp elt [⟨.Name x px,iter,[],0⟩] scope pos) 0 (.ref L) .none env) (C.M.den (.compLoop (.GeneratorExp elt [⟨.Name x px,iter,[],0⟩] scope pos) 0 (.ref L) .none env)) [] s:=by
 have bo:∀I:bX,I.own=ow->Bo (C.turn I) B:=λI e b q=>hbo b (by rwa[←e];exact q)
 intro r
 induction r with
 | zero =>
  intro j s0 s hj H g
  obtain rfl:j=N:=by omega
  show Seg C.M A _ _ _ s0 _ ((compTurn (.GeneratorExp elt [⟨.Name x px,iter,[],0⟩] scope pos) 0 (.ref L) .none env).onRaise (leaving env)) [] s
  rwa[compTurn_gen ..,Sem.onRaise_eq_wrap ..]
  refine seg_bind_wrap (wpAny_standAt ?_)
  refine seg_bind_wrap ?_
  rwa[←hA3]
  have fo:dO (Ia j) (env::lf) s.heap:=λen he=>by
   cases he with
   | head =>
    rcases aL H.ok.st with ρ|F|_
    rcases aL F.ns with m|q_0|_;obtain o|es|ep|e1|e2|_:=nV q_0
    exact⟨(by rwa[F.scope,F.kind];intro z;injection z),_,o,es,ep,hL,F.base.2.2.1.2,e1,e2⟩
   | tail _ he=>exact H.fr en he
  refine fault s _ _ H.ok (bo _ (hoa j)) fo λev s' z=>?_
  obtain e|t|tb|tk|h'|tk'|rfl|rfl|F:=SV z
  refine seg_bind ?_
  rwa[←hA3]
  refine iI.leave (s:={s with heap:=h',toks:=tk'}) hfr hL F (.inr (.inl rfl)) λh2 tb2 F2=>?_
  refine seg_end (.error (.ref e)) ?_
  obtain h0|tk0|rfl|k0:=dZ g
  exact⟨rfl,e,t,tb2,tk,h2,tk',rfl,rfl,F2.from (λb o z q=>⟨λw=>z (.inl (by rwa[←hoa j];exact w)),k0 b o (λw=>z (.inl w)) (λw=>z (.inr w)) q⟩) (λ_ _ _ _ w=>w) λ_ q=>q⟩
 | succ r ih =>
  intro j s0 s hj H g
  have hlt:j<N:=by lia
  show Seg C.M A _ _ _ s0 _ ((compTurn (.GeneratorExp elt [⟨.Name x px,iter,[],0⟩] scope pos) 0 (.ref L) .none env).onRaise (leaving env)) [] s
  rwa[compTurn_gen ..,Sem.onRaise_eq_wrap ..]
  refine seg_bind_wrap (wpAny_standAt ?_)
  refine seg_bind_wrap ?_
  rwa[←hA3]
  refine word j hlt s _ _ H.ok (bo _ (hoa j)) λv s1 k1 O1 r1=>?_
  have g1:=g.trans (GS.of (L:=env.locals) k1 (hoa j))
  have f1:dO (Ib j) lf s1.heap:=H.fr.gs (by rwa[hoa j];exact GS.of (L:=env.locals) k1 (hoa j)) ((hob j).trans (hoa j).symm) hLl
  refine seg_bind_wrap (wpAny_of_eq (rfl:letOwnedTupleGo (.Name x px) (.ref L) v=pure ()) ?_)
  refine seg_bind_wrap ?_
  rwa[←hA3]
  refine wpAny_assign_Name (O1.store r1 hx (.inl rfl) λh2 tk2 O2 _ _ lo=>?_)
  have g2:GS ow env.locals s1 {s1 with heap:=h2,toks:=tk2}:=⟨h2,tk2,rfl,λb o _ q e=>lo rfl b o q e⟩
  have f2:dO (Ib j) lf h2:=f1.gs (b:={s1 with heap:=h2,toks:=tk2}) (by rwa[hob j];exact g2) rfl hLl
  refine seg_bind_wrap (wpAny_pure ?_)
  simp only[if_true]
  have hy:∀v,yieldOut env v=yieldValue v:=λv=>by simp only[yieldOut,hsc,hco,Bool.false_eq_true,if_false]
  simp only[hy]
  rwa[Sem.bind_eq_wrap' ..,Sem.bind_eq_wrap' ..,Sem.wrap_wrap ..,Sem.wrap_wrap ..]
  refine seg_wrap ?_
  rwa[←hA3]
  refine (step j hlt).go A3 B env X {s1 with heap:=h2,toks:=tk2} _ _ O2 (bo _ (hob j)) λy s3 k3 O3 r3=>?_
  have g3:GS ow env.locals {s1 with heap:=h2,toks:=tk2} s3:=GS.of k3 (hob j)
  have f3:dO (Ia (j+1)) lf s3.heap:=f2.gs (a:={s1 with heap:=h2,toks:=tk2}) (by rwa[hob j];exact g3) ((hoa (j+1)).trans (hob j).symm) hLl
  have e1:N-1-r=j:=by omega
  have e2:N-r=j+1:=by lia
  have O4:Ok (C.turn (Ia (j+1))) n sc δ A3 B env X s3.heap:=Ok.sub O3 λy d e=>by
   rwa[List.lookup_cons]
   split
   . rename_i q
     have:y=x:=by simpa using q
     replace e:=(hδ)▸this▸e;injection e
   . exact e
  refine seg_at (seg_yield rfl rfl rfl ?_)
  refine⟨by rwa[e1];exact tC.of r3 (hv j),(g1.trans g2).trans g3,by rwa[e2];exact⟨O4,f3⟩,λs'' H''=>?_⟩
  replace H'':=e2▸H''
  exact seg_again rfl (ih (j+1) s'' s'' (by grind) H'' (GS.refl _ _ _))
end
section
variable{C:Cx}{n:Nat}{sc:Scope}{δ:List (Str×D)}
theorem vM{A:Around}{B:Heap}{env:Env}{X:Addr->Prop}{s:Shared}{Q:Value->Shared->Prop}{E:Value->Shared->Prop}{k:Nat}{x dx Cl f:Addr}{fs:List (Str×D)}{g:Value}(O:Ok C n sc δ A B env X s.heap)(II:cQ C k x dx Cl fs)
 (hf:findIn C.K (.ref Cl) "__iter__"=some (some (.ref f))) (ht:isFn C.K (.ref f)=true) (hg:findIn C.K (.ref Cl) "__next__"=some (some g)) (hF:Fp C n f pl [.ptr x] (.ptr x))
 (h:∀s',Keeps s s'->Q (.ref x) s'):wpAny C.M A (pyIter (.ref x)) Q E s:=by
 rcases aL (II.hi _ O.iv) with m|hm|_
 rcases EN hm.at with es|nn|_|_|_|_|I
 have X:=O.gl.k
 have call1:wpAny C.M A (call (.ref f) [.ref x]) (λv s'=>v=.ref x/\Keeps s s') E s :=
  wpAny_call (hF.go A _ s [.ref x] _ O.rm O.ho O.xo O.gl O.iv O.ox (.cons (.ptr x) .nil) λv s2 k2 r2=>by obtain rfl:=cW r2;exact⟨rfl,k2⟩)
 have kJ:wpAny C.M A (call (.ref f) [.ref x] >>= λv=>pure (some v)) (λr s'=>r=some (.ref x)/\Keeps s s') E s :=
  wpAny_bind (wpAny_mono call1 (λv s' h'=>wpAny_pure ⟨by rwa[h'.1];rfl,h'.2⟩) λ_ _ z=>z)
 have pN:∀refuse:Sem Value,wpAny C.M A (callSpecialIfBoundUnlessNone? (.ref x) "__iter__" refuse) (λr s'=>r=some (.ref x)/\Keeps s s') E s:=by
  intro refuse
  simp only[callSpecialIfBoundUnlessNone?,bindSpecialIfBound?]
  refine wpAny_holding (wpAny_bind (wpAny_bind (wpAny_bind (I.type.here ((looks_findIn X hf).here ?_)))))
  refine wpAny_bind (wpAny_askSetting (wpAny_ite ?_))
  have fin2:wpAny C.M A (if (Value.ref f==Value.none)=true then (refuse >>= λv=>pure (some v)) else (call (.ref f) [.ref x] >>= λv=>pure (some v))) (λr s'=>r=some (.ref x)/\Keeps s s') E s:=by
   rwa[if_neg (show ¬((Value.ref f==Value.none)=true) from Bool.false_ne_true)]
   exact kJ
  split
  . exact wpAny_bind ((bind_fn X _ (beq_iff_eq.mp ht)).here (wpAny_pure (by exact fin2)))
  . exact wpAny_tryCatch (wpAny_bind ((bind_fn X _ (beq_iff_eq.mp ht)).here (wpAny_pure (by exact fin2))))
 unfold pyIter
 refine wpAny_bind (wpAny_bind (I.type.here ((looks_findIn X hf).here ?_)))
 show wpAny C.M A (callSpecialIfBoundUnlessNone? (.ref x) "__iter__" _ >>= _) Q E s
 refine wpAny_bind (wpAny_mono (pN _) (λr s' hr=>?_) λ_ _ z=>z)
 obtain rfl|ks:=bW hr
 have O':=O.on ks
 rcases aL (II.hi _ O'.iv) with m'|hm'|_
 rcases EN hm'.at with es'|nn'|_|_|_|_|I'
 exact wpAny_bind (wpAny_bind (I'.type.here ((looks_findIn O'.gl.k hg).here (wpAny_pure (h s' ks)))))
theorem GH.on{A:Around}{B:Heap}{env:Env}{X:Addr->Prop}{l:List Env}{I:bX}{s s':Shared}(H:GH C n sc δ A B env X l I s.heap)(k:Keeps s s'):GH C n sc δ A B env X l I s'.heap:=by
 refine kE k ?_;clear k;intro h' tk k
 exact⟨H.ok.keeps k,H.fr.at λb o es ep _ q _=>⟨o,k b o q,rfl⟩⟩
theorem GS.keeps{ow:Addr->Prop}{L:Addr}{a b:Shared}(k:Keeps a b):GS ow L a b:=by
 refine kE k ?_;clear k;intro h' tk k
 exact⟨h',tk,rfl,λb o _ _ q=>k b o q⟩
theorem xC{elt iter:PySem.Expr}{x:Str}{px:Pos}{scope:Scope}{pos:Pos}{L:Addr}{A:Around}{B:Heap}{env:Env}{X:Addr->Prop}{lf:List Env}{I0:bX}{ow:Addr->Prop}{A3:Around}{R:GenEnd}{Y:Protocol}{r:Nat}{s0 s:Shared}
 (hA3:A3=A.over (.compLoop (.GeneratorExp elt [⟨.Name x px,iter,[],0⟩] scope pos) 0 (.ref L) .none env) [])
 (self:∀(s:Shared) (Q:Value->Shared->Prop) (E:Value->Shared->Prop),Ok (C.turn I0) n sc δ A3 B env X s.heap->(∀s',Keeps s s'->Q (.ref L) s')->wpAny C.M A3 (pyIter (.ref L)) Q E s)
 (H:GH C n sc δ A3 B env X lf I0 s.heap) (g:GS ow env.locals s0 s)
 (loop:∀s,GH C n sc δ A3 B env X lf I0 s.heap->GS ow env.locals s0 s->Seg C.M A R Y r s0 (.compLoop (.GeneratorExp elt [⟨.Name x px,iter,[],0⟩] scope pos) 0 (.ref L) .none env) (C.M.den (.compLoop (.GeneratorExp elt [⟨.Name x px,iter,[],0⟩] scope pos) 0 (.ref L) .none env)) [] s) :
 Seg C.M A R Y r s0 (.compStart (.GeneratorExp elt [⟨.Name x px,iter,[],0⟩] scope pos) 0 (.ref L) .none env) (C.M.den (.compStart (.GeneratorExp elt [⟨.Name x px,iter,[],0⟩] scope pos) 0 (.ref L) .none env)) [] s:=by
 show Seg C.M A _ _ _ s0 _ ((compStart (.GeneratorExp elt [⟨.Name x px,iter,[],0⟩] scope pos) 0 (.ref L) .none env).onRaise (leaving env)) [] s
 unfold compStart
 rwa[Sem.onRaise_eq_wrap ..]
 show Seg _ A _ _ _ s0 _ ((ask >>= _).wrap _ _ _ _) [] s
 have e3:A.over (.compStart (.GeneratorExp elt [⟨.Name x px,iter,[],0⟩] scope pos) 0 (.ref L) .none env) []=A3:=hA3.symm
 refine seg_bind_wrap (wpAny_askSetting ?_)
 split
 . exact seg_again rfl (loop s H g)
 . refine seg_bind_wrap (wpAny_rule ?_)
   show Seg _ A _ _ _ s0 _ ((standAt iter.pos >>= _).wrap _ _ _ _) [] s
   refine seg_bind_wrap (wpAny_standAt ?_)
   refine seg_bind_wrap ?_
   rwa[e3]
   exact self s _ _ H.ok λs' k=>seg_again rfl (loop s' (H.on k) (g.trans (GS.keeps k)))
end
noncomputable def GR(g:Nat)(a b:Array GenState):Prop:=(∀i,i≠g->b[i]?=a[i]?)/\((∀y∈a,y.bare=true)->∀y∈b,y.bare=true)
theorem GR.refl(g:Nat)(a:Array GenState):GR g a a:=⟨λ_ _=>rfl,λh=>h⟩
theorem GR.trans{g:Nat}{a b c:Array GenState}(x:GR g a b)(y:GR g b c):GR g a c:=⟨λi h=>(y.1 i h).trans (x.1 i h),λh=>y.2 (x.2 h)⟩
theorem GR.set(s:Shared)(g:Nat)(x:GenState)(hx:x.bare=true):GR g s.gens (s.setGen g x).gens:=by
 refine⟨λi h=>by simp[Shared.setGen,Ne.symm h],λh y hy=>?_⟩
 obtain⟨i,hi,rfl⟩:=Array.mem_iff_getElem.mp hy
 have hi':i<s.gens.size:=by simpa [Shared.setGen] using hi
 have e:(s.setGen g x).gens[i]=if g=i then x else s.gens[i]:=by
  show (s.gens.setIfInBounds g x)[i]'(by simpa using hi')=_
  exact Array.getElem_setIfInBounds ..
 rwa[e]
 split
 . exact hx
 . exact h _ (Array.getElem_mem _)
structure GP where
 C:Cx
 n:Nat
 B:Heap
 X:Addr->Prop
 sc2:Scope
 δ2:List (Str×D)
 A3:Around
 env2:Env
 scF:Scope
 δF:List (Str×D)
 AF:Around
 envF:Env
 lt:List Env
 Ia:Nat->bX
 ow:Addr->Prop
 IE:bX
 T:String
 txt:Str
 vals:Nat->D
 N:Nat
 G2:Addr
 g2:Nat
noncomputable abbrev GP.H2(p:GP)(j:Nat)(h:Heap):Prop:=GH p.C p.n p.sc2 p.δ2 p.A3 p.B p.env2 p.X (p.envF::p.lt) (p.Ia j) h
noncomputable abbrev GP.Y2(p:GP):Protocol:=tO p.C p.n p.sc2 p.δ2 p.A3 p.B p.env2 p.X (p.envF::p.lt) p.Ia p.ow p.vals p.N
noncomputable abbrev GP.R2(p:GP):GenEnd:=CD p.ow p.env2 (p.envF::p.lt) p.IE (.type p.T) p.txt
structure OW(p:GP)(j:Nat)(s:Shared):Prop where
 isg:s.heap.IsGen p.G2 p.g2
 gens:∃gs,s.gens[p.g2]?=some gs/\∀s'':Shared,p.H2 j s''.heap->gs.Goes p.C.M p.AF.in1 p.R2 p.Y2 (p.N-j) (.send .none) s''
structure P1(p:GP)(j:Nat)(s:Shared):Prop where
 okf:Ok (p.C.turn (p.Ia j)) p.n p.scF p.δF p.AF p.B p.envF p.X s.heap
 frt:dO (p.Ia j) p.lt s.heap
 gh2:p.H2 j s.heap
 at2:OW p j s
noncomputable def GP.Z1(p:GP)(b:Addr):Prop:=p.ow b\/b=p.env2.locals\/b=p.envF.locals
noncomputable def rZ(p:GP)(s0 s:Shared):Prop:=∃h' tk gs,s={s0 with heap:=h',toks:=tk,gens:=gs}/\(∀b o,¬p.Z1 b->s0.heap.get? b=some o->h'.get? b=some o)/\GR p.g2 s0.gens gs
theorem rZ.refl(p:GP)(s:Shared):rZ p s s:=⟨s.heap,s.toks,s.gens,rfl,λ_ _ _ e=>e,GR.refl _ _⟩
theorem rZ.trans{p:GP}{a b c:Shared}(x:rZ p a b)(y:rZ p b c):rZ p a c:=by
 obtain h|t|g|rfl|k|r:=nV x
 obtain h'|t'|g'|rfl|k'|r':=nV y
 exact⟨h',t',g',rfl,λb o z q=>k' b o z (k b o z q),r.trans r'⟩
theorem rZ.of{p:GP}{a b:Shared}{L:Addr}(x:GS p.ow L a b)(hL:L=p.env2.locals\/L=p.envF.locals):rZ p a b:=by
 obtain h'|t|rfl|k:=dZ x
 exact⟨h',t,a.gens,rfl,λz o q1 q=>k z o (λw=>q1 (.inl w)) (λw=>q1 (.inr (hL.imp (λe=>w.trans e) λe=>w.trans e))) q,GR.refl _ _⟩
theorem rZ.setGen(p:GP)(s:Shared)(x:GenState)(hx:x.bare=true):rZ p s (s.setGen p.g2 x):=⟨s.heap,s.toks,_,rfl,λ_ _ _ e=>e,GR.set s p.g2 x hx⟩
structure IF(p:GP):Prop where
 hoa:∀j,(p.Ia j).own=p.ow
 hbo:∀b,p.ow b->p.B.get? b=none
 turn:∀j,lI (p.Ia j) (p.Ia (j+1))
 same:∀j,lI (p.Ia j) (p.Ia j)
 h3:p.A3.handled=none
 hh:p.AF.handled=none
 fr:p.AF.frames=some (p.envF::p.lt)
 fL:p.envF.frame=some p.envF.locals
 f2:p.env2.frame=some p.env2.locals
 room:p.AF.depth<recursionLimit
 ne2F:p.env2.locals≠p.envF.locals
 lt2:∀en∈p.lt,en.frame≠some p.env2.locals
 ltF:∀en∈p.lt,en.frame≠some p.envF.locals
 cF:∀x,p.envF.cells.lookup x=none
 c2:∀x c,p.env2.cells.lookup x=some c->c≠p.envF.locals
 g2o:¬p.ow p.G2
 kT:isSubtype (.type p.T) (.type "StopIteration")=pure false
section
variable{p:GP}
theorem P1.dict2{j:Nat}{h:Heap}(H:p.H2 j h):∃o es ep,h.get? p.env2.locals=some o/\o.data=.dict es ep:=by
 rcases aL H.ok.st with ρ|F|_
 rcases aL F.ns with m|q_0|_;obtain o|es|ep|e1|e2|_:=nV q_0
 exact⟨o,es,ep,e1,e2⟩
theorem P1.dictF{j:Nat}{h:Heap}{n:Nat}{δ:List (Str×D)}(H:Ok (p.C.turn (p.Ia j)) n p.scF δ p.AF p.B p.envF p.X h):∃o es ep,h.get? p.envF.locals=some o/\o.data=.dict es ep:=by
 rcases aL H.st with ρ|F|_
 rcases aL F.ns with m|q_0|_;obtain o|es|ep|e1|e2|_:=nV q_0
 exact⟨o,es,ep,e1,e2⟩
theorem cN{h:Heap}{a:Addr}{g:Nat}(x:h.IsGen a g){o:Obj}{es:Array DictEntry}{ep:Nat}(e:h.get? a=some o)(d:o.data=.dict es ep):False:=by
 obtain o'|nm|qn|q1|q2|q3|q4:=tX x
 have h_:=sx e q1;clear q1;subst h_
 injection tq d q3
theorem GP.H2.storeF(K:IF p){j:Nat}{s:Shared}{h':Heap}(H:p.H2 j s.heap)(hF:∃o es ep,s.heap.get? p.envF.locals=some o/\o.data=.dict es ep )(hF':∃o es ep,h'.get? p.envF.locals=some o/\o.data=.dict es ep)(k:∀b o,b≠p.envF.locals->s.heap.get? b=some o->h'.get? b=some o)(iv:(p.Ia j).inv h')(hB:p.B.get? p.envF.locals=none):p.H2 j h':=by
 obtain oF|esF|epF|eF|dF:=eU hF
 obtain oF'|esF'|epF'|eF'|dF':=eU hF'
 have O:=H.ok
 refine⟨?_,λen he=>?_⟩
 . rcases aL O.st with ρ|F|V
   rcases nU F.base with G|k0|hL|hC
   rcases aL F.ns with m0|hn|hm0
   have fro:=H.fr p.envF (.head _)
   obtain _|q_0:=bW fro;obtain L|o|es|ep|f1|f2|f3|f4:=uS q_0
   have h_:=sx K.fL f1;clear f1;subst h_
   refine⟨O.rm,O.ho.imp id λ⟨e',a1,o',vs,a2,a3,a4⟩=>⟨e',a1,o',vs,k _ _ (λz=>by replace a2:=eF▸z▸a2;obtain rfl:=Option.some.inj a2;replace a3:=dF▸a3;injection a3) a2,a3,a4⟩,λa ha=>?_,iv,O.ox,ρ,?_,V.at λb o xb l q=>⟨xb,k b o (λz=>by replace q:=eF▸z▸q;obtain rfl:=Option.some.inj q;obtain _|_|l:=mF l;replace dF:=l▸dF;injection dF) q⟩⟩
   . rcases eU (O.xo a ha) with o'|vs|nn|q1|q2
     exact⟨o',vs,nn,k _ _ (λz=>by replace q1:=eF▸z▸q1;obtain rfl:=Option.some.inj q1;injection tq dF q2) q1,q2⟩
   . have g':∀b o,p.B.get? b=some o->h'.get? b=some o:=λb o q=>by
      by_cases z:b=p.envF.locals
      . replace q:=hB▸z▸q;injection q
      . exact k b o z (k0 b o q)
     exact⟨⟨⟨G.k,G.g,G.b,G.nl⟩,g',⟨hL.1,hL.2⟩,hC⟩,F.scope,F.kind,F.globals,F.builtins,⟨m0,hn.at' λo q=>k _ o K.ne2F q,hm0⟩,
      λy hy=>let ⟨a,q1,o,q2,q3⟩:=F.cells y hy;⟨a,q1,o,k _ _ (K.c2 y a q1) q2,q3⟩,F.inj,λy a q=>let ⟨v,o,q2,q3⟩:=F.allc y a q;⟨v,o,k _ _ (K.c2 y a q) q2,q3⟩⟩
 . rcases bW (H.fr en he) with kk|q_0;obtain L'|o|es|ep|h1|h2|h3|h4:=uS q_0
   by_cases z:L'=p.envF.locals
   . subst z;exact⟨kk,_,oF',esF',epF',h1,h2,eF',dF'⟩
   . exact⟨kk,L',o,es,ep,h1,h2,k L' o z h3,h4⟩
end
noncomputable def GP.Y1(p:GP)(j1:Nat):Protocol:=λm s0 v s kap=>tC v (p.vals (j1-1-m))/\rZ p s0 s/\P1 p (j1-m) s/\∀s'':Shared,P1 p (j1-m) s''->kap (.send .none) s''
noncomputable def GP.R1(p:GP)(IE1:bX)(cls1:Value)(txt1:Str):GenEnd:=λn s0 r s1 =>
 n=0/\∃e t tb tk h' tk' gs,r=.error (.ref e)/\s1={s0 with heap:=h',toks:=tk',gens:=gs}/\iI p.Z1 IE1 (p.envF::p.lt) s0.heap e t cls1 [.str txt1 tk] tb (some .none) h'/\GR p.g2 s0.gens gs
theorem QG{N j m:Nat}(h:N-j=m+1):N-1-m=j/\N-m=j+1/\N-(j+1)=m:=by grind
theorem TN{j r k:Nat}(h:j+(r+1)=k):j<k/\j+1+r=k/\k-1-r=j/\k-r=j+1:=by
 subst h
 exact⟨Nat.lt_add_of_pos_right (Nat.succ_pos r),Nat.add_right_comm j 1 r,Nat.add_sub_cancel j r,(congrArg (·-r) (Nat.add_right_comm j r 1)).trans (Nat.add_sub_cancel ..)⟩
section
variable{p:GP}
theorem P1.keepF(K:IF p){j:Nat}{s s':Shared}{n':Nat}{δ δ':List (Str×D)}(O:Ok (p.C.turn (p.Ia j)) p.n p.scF δ p.AF p.B p.envF p.X s.heap)(O':Ok (p.C.turn (p.Ia j)) p.n p.scF δ' p.AF p.B p.envF p.X s'.heap)(H:p.H2 j s.heap)(k:rN p.envF s s'):p.H2 j s'.heap/\GS p.ow p.envF.locals s s':=by
 obtain h'|tk|rfl|k:=dZ k
 have k':∀b o,b≠p.envF.locals->s.heap.get? b=some o->h'.get? b=some o:=λb o q e=>k b o q (λx=>by rwa[K.cF ..];intro z;injection z) e
 exact⟨GP.H2.storeF K H (P1.dictF O) (P1.dictF O') k' O'.iv (let ⟨_,F,_⟩:=O.st;F.base.2.2.1.1),h',tk,rfl,λb o _ q e=>k' b o q e⟩
theorem P1.after(K:IF p){j:Nat}{s s1:Shared}(P:P1 p j s)(H:p.H2 (j+1) s1.heap)(g:GS p.ow p.env2.locals (s.setGen p.g2 .running) s1):Ok (p.C.turn (p.Ia (j+1))) p.n p.scF p.δF p.AF p.B p.envF p.X s1.heap/\dO (p.Ia (j+1)) p.lt s1.heap/\s1.heap.IsGen p.G2 p.g2:=by
 have g':=g
 rcases eU (P1.dict2 P.gh2) with o2|es|ep|e2|d2
 refine⟨?_,P.frt.gs (a:=s.setGen p.g2 .running) (by rwa[K.hoa j];exact g) ((K.hoa (j+1)).trans (K.hoa j).symm) K.lt2,?_⟩
 . obtain h1|tk1|rfl|k1:=dZ g
   refine Ok.other (C:=p.C.turn (p.Ia j)) (Z:=λb=>b=p.env2.locals) P.okf (λb q=>K.hbo b (by rwa[←K.hoa j];exact q)) (K.turn j) (λb o q1 q2 q=>k1 b o (by rwa[←K.hoa j];exact q1) q2 q) H.ok.iv ?_ (λz=>K.ne2F z.symm) (λx c q=>by rw[K.cF] at q;injection q) ?_ ?_ K.hh
   . rintro b rfl
     rcases aL P.gh2.ok.st with _|F|_
     exact F.base.2.2.1.1
   . rintro b o rfl q ⟨_,_,l⟩
     replace q:s.heap.get? p.env2.locals=some o:=q
     have h_:=sx e2 q;clear q;subst h_
     replace d2:=l▸d2;injection d2
   . rintro b rfl _ q
     rcases eU (P.okf.xo _ q) with o|vs|nn|q1|q2
     have h_:=sx e2 q1;clear q1;subst h_
     injection tq d2 q2
 . obtain h1|tk1|rfl|k1:=dZ g
   have ig:=P.at2.isg
   rcases eU (id ig) with o'|nm|qn|q1|r
   exact⟨o',nm,qn,k1 _ _ K.g2o (λz=>cN ig (z▸e2) d2) q1,r⟩
theorem OX{A:Around}{fs:List Frame}{px:Pos}{stI:Stmt}{ypos epos npos:Pos}{j1:Nat}{IE1:bX}{cls1:Value}{txt1:Str}{cFor:Code}(K:IF p)
 (hc:cFor=.forLoop (.Name "x" px) (.ref p.G2) [stI,.Expr (.Yield (some (.Name "x" npos)) ypos) epos] [] p.envF) (hAF:p.AF=A.over cFor fs) (hfs:splitAtGen fs=none) (hfg:fs.any Frame.guarded=false) (hx:p.scF.names.lookup ("x":Str)=some .local) (hco:p.scF.isCoroutine=false) (hv:∀j,(p.vals j).flat=true) (hδ:p.δF.lookup ("x":Str)=none)
 (pass:∀j,j<j1->rO (p.C.turn (p.Ia (j+1))) p.n p.scF ((("x":Str),p.vals j)::p.δF) stI (.nxt ((("x":Str),p.vals j)::p.δF)))
 (hend:(j1<p.N/\NE (p.C.turn (p.Ia (j1+1))) p.n p.scF ((("x":Str),p.vals j1)::p.δF) stI IE1 cls1 txt1)\/(j1=p.N/\IE1=p.IE/\cls1=.type p.T/\txt1=p.txt))
 (hout:∀(s0 s:Shared) (e t:Addr) (tb:Value) (tk:Tok) (h':Heap) (tk':Tok) (gs:Array GenState),s={s0 with heap:=h',toks:=tk',gens:=gs}->iI p.Z1 IE1 (p.envF::p.lt) s0.heap e t cls1 [.str txt1 tk] tb (some (rawInt p.envF.locals)) h'->GR p.g2 s0.gens gs ->
  Seg p.C.M A (p.R1 IE1 cls1 txt1) (p.Y1 j1) 0 s0 cFor (.raise (.ref e)) fs s) :
 ∀(r j:Nat) (s0 s:Shared),j+r=j1->P1 p j s->rZ p s0 s->Seg p.C.M A (p.R1 IE1 cls1 txt1) (p.Y1 j1) r s0 cFor (p.C.M.den cFor) fs s:=by
 have lo:∀x,lc p.scF x=true->True:=λ_ _=>trivial
 have hj1:j1<=p.N:=hend.elim (λh=>Nat.le_of_lt h.1) λh=>Nat.le_of_eq h.1
 have bo:∀j,Bo (p.C.turn (p.Ia j)) p.B:=λj b q=>K.hbo b (by rwa[←K.hoa j];exact q)
 have value:∀(r j:Nat) (s0 s:Shared) (Kf:Flow->Sem Fin) (hK:Kf=λf=>match f with
  | .next | .cont=>.pure (.again cFor)
  | .brk=>.pure (.done .next)
  | .ret v=>.pure (.done (.ret v))) (hlt:j<p.N),P1 p j s->rZ p s0 s ->
  (∀(v:Value) (s3:Shared),tC v (p.vals j)->Ok (p.C.turn (p.Ia (j+1))) p.n p.scF ((("x":Str),p.vals j)::p.δF) p.AF p.B p.envF p.X s3.heap->dO (p.Ia (j+1)) p.lt s3.heap->p.H2 (j+1) s3.heap->OW p (j+1) s3->rZ p s0 s3 ->
   Seg p.C.M A (p.R1 IE1 cls1 txt1) (p.Y1 j1) r s0 cFor ((execs [stI,.Expr (.Yield (some (.Name "x" npos)) ypos) epos] p.envF).wrap Kf (nH p.envF) id id) fs s3) ->
  Seg p.C.M A (p.R1 IE1 cls1 txt1) (p.Y1 j1) r s0 cFor (p.C.M.den cFor) fs s:=by
  intro r j s0 s Kf hK hlt P g cont
  rcases aL P.at2.gens with gs|hgs|hgo
  rcases aU (Nat.exists_eq_add_one_of_ne_zero (Nat.sub_ne_zero_of_lt hlt)) with m|hm
  have hn:=QG hm
  replace hgo:=hm▸hgo
  subst hc
  refine rK ?_
  rwa[←hAF]
  refine tN P.okf.gl.nl K.room P.at2.isg hgs (hgo (s.setGen p.g2 .running) P.gh2) (λv s1 gs' hb hv'=>?_) (λx s1 hx=>absurd hx.1 (Nat.succ_ne_zero m))
  obtain y1|y2|y3|y4:=nU hv'
  rw[Nat.add_sub_cancel,hn.1] at y1
  rw[Nat.add_sub_cancel,hn.2.1] at y3;rw[Nat.add_sub_cancel,hn.2.1] at y4
  rcases tZ (P1.after K P y3 y2) with O1|F1|G1
  have gg:rZ p s (s1.setGen p.g2 gs'):=((rZ.setGen p s .running rfl).trans (rZ.of y2 (.inl rfl))).trans (rZ.setGen p s1 gs' hb)
  have hgs':(s1.setGen p.g2 gs').gens[p.g2]?=some gs':=by
   obtain h1|tk1|rfl|_:=dZ y2
   exact setGen_self (gs:=.running) (setGen_self hgs)
  have O1':Ok (p.C.turn (p.Ia (j+1))) p.n p.scF p.δF p.AF p.B p.envF p.X (s1.setGen p.g2 gs').heap:=O1
  show wpAny _ _ (assign (.Name "x" px) p.envF v) _ _ _
  refine wpAny_assign_Name (O1'.store (y1 _ _) hx (.inl rfl) λh3 tk3 O3 _ _ lo=>?_)
  have k3:rN p.envF (s1.setGen p.g2 gs') {s1.setGen p.g2 gs' with heap:=h3,toks:=tk3}:=⟨h3,tk3,rfl,λb o q _ e=>lo rfl b o q e⟩
  rcases bW (P1.keepF K (n':=0) O1' (s':={s1.setGen p.g2 gs' with heap:=h3,toks:=tk3}) O3 (j:=j+1) (H:=y3) k3) with H3|g3
  have:=cont v {s1.setGen p.g2 gs' with heap:=h3,toks:=tk3} y1 O3 (F1.gs (a:=s1.setGen p.g2 gs') (by rwa[K.hoa (j+1)];exact g3) rfl K.ltF) H3 ⟨?_,gs',hgs',λs'' H''=>?_⟩ ((g.trans gg).trans (rZ.of g3 (.inr rfl)))
  . replace this:=hK▸this
    exact this
  . rcases eU (id G1) with o'|nm|qn|q1|r'
    rcases eU (P1.dictF O1) with oF|esF|epF|eF|dF
    exact⟨o',nm,qn,lo rfl _ _ (λz=>cN G1 (z▸eF) dF) q1,r'⟩
  . rwa[hn.2.2]
    exact y4 s'' H''
 have raised:∀(s0 s:Shared) (e t:Addr) (tb:Value) (fl:Option Value) (tk:Tok) (h':Heap) (tk':Tok) (gs:Array GenState),s={s0 with heap:=h',toks:=tk',gens:=gs}->iI p.Z1 IE1 (p.envF::p.lt) s0.heap e t cls1 [.str txt1 tk] tb fl h'->(fl=none\/fl=some .none\/fl=some (rawInt p.envF.locals))->GR p.g2 s0.gens gs ->
  Seg p.C.M A (p.R1 IE1 cls1 txt1) (p.Y1 j1) 0 s0 cFor (nH p.envF (.ref e)) fs s:=by
  intro s0 s e t tb fl tk h' tk' gs hs F f hg
  subst hs
  refine CC ?_
  rwa[←hAF]
  refine iI.note (s:={s0 with heap:=h',toks:=tk',gens:=gs}) K.fr K.fL F f λh2 tb2 F2=>?_
  exact hout s0 _ e t tb2 tk h2 tk' gs rfl F2 hg
 intro r
 induction r with
 | zero =>
  intro j s0 s hj P g
  obtain rfl:j=j1:=hj
  rcases hend with⟨hlt,hr⟩ | ⟨rfl,rfl,rfl,rfl⟩
  . refine value 0 j s0 s _ rfl hlt P g λv s3 rv O3 f3 H3 G3 g3=>?_
    refine seg_execs_cons (seg_wrap ?_)
    rwa[←hAF]
    refine hr.go p.AF p.B p.envF p.X s3 _ _ p.lt O3 (bo _) ⟨K.hh,K.fr,K.fL,f3,λb hb=>?_⟩ λev s' z=>?_
    . rintro (q | ⟨x,q⟩)
      . rcases aL (List.mem_filterMap.mp hb) with en|he|w
        exact K.ltF en he (by rwa[w,q];rfl)
      . rw[K.cF] at q;injection q
    . obtain e|t|tb|fl|tk|h'|tk'|rfl|rfl|F|f:=SR z
      obtain h3|tk3|gs3|rfl|k3|r3:=nV g3
      refine raised s0 _ e t tb fl tk h' tk' gs3 rfl (F.from (λb o z q=>⟨λw=>?_,k3 b o z q⟩) (λ_ _ _ _ w=>w) λ_ q=>q) f r3
      rcases w with w | w | ⟨x,w⟩
      . exact z (.inl (by rwa[←K.hoa (j+1)];exact w))
      . exact z (.inr (.inr w))
      . rw[K.cF] at w;injection w
  . rcases aL P.at2.gens with gs|hgs|hgo
    rw[Nat.sub_self] at hgo
    subst hc
    refine rK ?_
    rwa[←hAF]
    refine tN P.okf.gl.nl K.room P.at2.isg hgs (hgo (s.setGen p.g2 .running) P.gh2) (λv s1 gs' hb hv'=>(hv'.2.2.2 s1 hv'.2.2.1).elim) (λx s1 hx=>?_)
    obtain _|q_0:=bW hx;obtain e|t|tb|tk|h'|tk'|rfl|rfl|F:=SV q_0
    rcases eU (P1.dict2 P.gh2) with o2|es|ep|e2|d2
    have ig:=P.at2.isg
    refine⟨e,_,rfl,?_,F.ex,Looks.of_pure K.kT,?_⟩
    . rcases tX (id ig) with o'|nm|qn|q1|q2|q3|q4
      have nf:¬oX (p.env2::p.envF::p.lt) p.G2:=λhb=>by
       rcases aL (List.mem_filterMap.mp hb) with en|he|w
       cases he with
       | head=>replace w:=K.f2▸w;exact cN ig (Option.some.inj w▸e2) d2
       | tail _ he =>
        rcases bW (P.gh2.fr en he) with kk|q_0;obtain L|o|es'|ep'|w1|w2|w3|w4:=uS q_0
        have h_:=sx w w1;clear w1;subst h_
        exact cN ig w3 w4
      exact⟨o',nm,qn,(F.keep _ _ (λz=>z.elim K.g2o λz=>cN ig (z▸e2) d2) q1).1 nf,q2,q3,q4⟩
    . obtain h3|tk3|gs3|rfl|k3|r3:=nV g
      refine raised s0 _ e t tb _ tk h' tk' _ rfl (F.from (λb o z q=>⟨λw=>z (w.imp id .inl),k3 b o z q⟩) (λb o z q w=>?_) λ_ q=>.tail _ q) (.inr (.inl rfl)) ?_
      . rcases aL (List.mem_filterMap.mp w) with en|he|w
        cases he with
        | head=>replace w:=K.f2▸w;exact absurd (.inr (.inl (Option.some.inj w).symm)) z
        | tail _ he=>exact List.mem_filterMap.mpr ⟨en,he,w⟩
      . exact r3.trans ((GR.set {s0 with heap:=h3,toks:=tk3,gens:=gs3} p.g2 .running rfl).trans (GR.set (({s0 with heap:=h3,toks:=tk3,gens:=gs3}:Shared).setGen p.g2 .running) p.g2 .finished rfl))
 | succ r ih =>
  intro j s0 s hj P g
  have hn:=TN hj
  have hlt:j<p.N:=Nat.lt_of_lt_of_le hn.1 hj1
  refine value (r+1) j s0 s _ rfl hlt P g λv s3 rv O3 f3 H3 G3 g3=>?_
  refine seg_execs_cons (seg_wrap ?_)
  rwa[←hAF]
  refine (pass j hn.1).go p.AF p.B p.envF p.X s3 _ _ O3 λfl s4 k4 o4=>?_
  obtain rfl|O4:=bW o4
  rcases bW (P1.keepF K (n':=0) O3 O4 H3 k4) with H4|g4
  have f4:=f3.gs (a:=s3) (b:=s4) (by rwa[K.hoa (j+1)];exact g4) rfl K.ltF
  have kG:OW p (j+1) s4:=by
   obtain h4|tk4|rfl|w4:=dZ g4
   rcases eU (id G3.isg) with o'|nm|qn|q1|r'
   rcases eU (P1.dictF O3) with oF|esF|epF|eF|dF
   exact⟨⟨o',nm,qn,w4 _ _ K.g2o (λz=>cN G3.isg (z▸eF) dF) q1,r'⟩,G3.gens⟩
  have sc4:p.envF.scope=p.scF:=let ⟨_,F,_⟩:=O4.st;F.scope
  have kd4:p.scF.kind=.function:=let ⟨_,F,_⟩:=O4.st;F.kind
  refine seg_execs_cons (seg_Expr_Yield hfs rfl hfg ?_ (by rwa[sc4];exact hco) (by unfold interactive;rwa[sc4,kd4];rfl))
  rwa[←hAF]
  refine (vT (C:=p.C.turn (p.Ia (j+1))) (n:=p.n) (d:=p.vals j) (k:=.local) (by rwa[List.lookup_cons_self];rfl) hx (.inl rfl) ∅ ∅).go p.AF p.B p.envF p.X s4 _ _ O4 λv5 s5 k5 r5=>?_
  intro kap hk
  have O5:Ok (p.C.turn (p.Ia (j+1))) p.n p.scF p.δF p.AF p.B p.envF p.X s5.heap:=Ok.sub (O4.on k5) λy d e=>by
   rwa[List.lookup_cons]
   split
   . rename_i q
     have:y=("x":Str):=by simpa using q
     replace e:=(hδ)▸this▸e;injection e
   . exact e
  have g5:rZ p s4 s5:=rZ.of (L:=p.envF.locals) (GS.keeps k5) (.inr rfl)
  have H5:p.H2 (j+1) s5.heap:=H4.on k5
  have f5:dO (p.Ia (j+1)) p.lt s5.heap:=f4.gs (a:=s4) (by rwa[K.hoa (j+1)];exact GS.keeps (L:=p.envF.locals) k5) rfl K.ltF
  have G5:OW p (j+1) s5:=by
   revert r5 O5 g5 H5 f5;refine kE k5 ?_;clear k5;intro h5 tk5 k5 r5 O5 g5 H5 f5
   exact⟨kG.isg.keeps k5,kG.gens⟩
  refine⟨by rwa[hn.2.2.1];exact tC.of r5 (hv j),((g3.trans (rZ.of g4 (.inr rfl))).trans g5),by rwa[hn.2.2.2];exact⟨O5,f5,H5,G5⟩,λs'' P''=>?_⟩
  replace P'':=hn.2.2.2▸P''
  refine hk .none s'' ?_
  show Seg _ _ _ _ _ _ _ ((execs [] p.envF).wrap _ _ _ _) _ _
  refine seg_execs_nil (seg_again ?_ ?_)
  . subst hc;rfl
  . exact ih (j+1) s'' s'' hn.2.1 P'' (rZ.refl p s'')
end
theorem iI.inB{Z:Addr->Prop}{I:bX}{l:List Env}{s0 h B:Heap}{e t:Addr}{cls:Value}{args:List Value}{tb:Value}{fl:Option Value}(F:iI Z I l s0 e t cls args tb fl h)(kB:∀b o,B.get? b=some o->s0.get? b=some o)(zB:∀b,Z b->B.get? b=none)(fB:∀b,oX l b->B.get? b=none) :
 ∀b o,B.get? b=some o->h.get? b=some o:=λb o q=>(F.keep b o (λz=>by injection tq (zB b z) q) (kB b o q)).1 λz=>by injection tq (fB b z) q
theorem iI.came{M:Model}{A:Around}{E:Value->Shared->Prop}{s:Shared}{Z:Addr->Prop}{I:bX}{l:List Env}{env:Env}{s0:Heap}{e t L:Addr}{cls:Value}{args:List Value}{tb x:Value}{Q:Unit->Shared->Prop}(hf:env.frame=some L)(F:iI Z I l s0 e t cls args tb (some x) s.heap)
 (h:∀h',iI Z I l s0 e t cls args tb (some (rawInt L)) h'->Q () {s with heap:=h'}):wpAny M A (do
  if (←field (.ref e) 1)==Value.none then unsupported "frame.own-activation:exception-without-traceback"
  setFlight (.ref e) env.frame:Sem Unit) Q E s:=by
 rcases tX F.tr with T|oT|ts|rfl|h2|h3|h4
 have hd:(qU cls t (.ref T)).data=.fields #[.ref t,.ref T,.none,.none,.bool false,.none]:=rfl
 refine wpAny_bind (wpAny_field F.ex hd (x:=.ref T) rfl ?_)
 rwa[if_neg (by simp)]
 exact F.flight (fo:=env.frame) λh' F'=>h h' (by replace F':=hf▸F';exact F')
theorem P1.setGen{p:GP}{j g:Nat}{s:Shared}{x:GenState}(P:P1 p j s)(hg:g≠p.g2):P1 p j (s.setGen g x):=by
 rcases aL P.at2.gens with gs|q1|q2
 exact⟨P.okf,P.frt,P.gh2,P.at2.isg,gs,by rwa[←q1];simp[Shared.setGen,hg],q2⟩
section
variable{p:GP}
theorem xD{A1:Around}{px vp:Pos}{stI:Stmt}{ypos epos npos fpos:Pos}{j1:Nat}{IE1:bX}{cls1:Value}{txt1:Str}{bodyF:List Stmt}(K:IF p)
 (hb:bodyF=[.For (.Name "x" px) (.Name "values" vp) [stI,.Expr (.Yield (some (.Name "x" npos)) ypos) epos] [] fpos]) (hAF:p.AF=A1.over (.func bodyF p.envF) []) (hx:p.scF.names.lookup ("x":Str)=some .local) (hvv:p.scF.names.lookup ("values":Str)=some .local) (hco:p.scF.isCoroutine=false) (hv:∀j,(p.vals j).flat=true) (hδ:p.δF.lookup ("x":Str)=none) (hδv:p.δF.lookup ("values":Str)=some (.ptr p.G2))
 (pass:∀j,j<j1->rO (p.C.turn (p.Ia (j+1))) p.n p.scF ((("x":Str),p.vals j)::p.δF) stI (.nxt ((("x":Str),p.vals j)::p.δF)))
 (hend:(j1<p.N/\NE (p.C.turn (p.Ia (j1+1))) p.n p.scF ((("x":Str),p.vals j1)::p.δF) stI IE1 cls1 txt1)\/(j1=p.N/\IE1=p.IE/\cls1=.type p.T/\txt1=p.txt)) :
 ∀(r j:Nat) (s:Shared),j+r=j1->P1 p j s->Seg p.C.M A1 (p.R1 IE1 cls1 txt1) (p.Y1 j1) r s (.func bodyF p.envF) (p.C.M.den (.func bodyF p.envF)) [] s:=by
 intro r j s hj P
 refine seg_func ?_
 subst hb
 refine seg_execs_cons (OU ?_)
 rwa[←hAF]
 refine (vT (C:=p.C.turn (p.Ia j)) (n:=p.n) (d:=.ptr p.G2) (k:=.local) hδv hvv (.inl rfl) ∅ ∅).go p.AF p.B p.envF p.X s _ _ P.okf λv s1 k1 r1=>?_
 obtain rfl:=cW r1
 have P':P1 p j s1:=by
  refine⟨P.okf.on k1,P.frt.gs (a:=s) (by rwa[K.hoa j];exact GS.keeps (L:=p.envF.locals) k1) rfl K.ltF,P.gh2.on k1,?_⟩
  refine kE k1 ?_;clear k1;intro h1 tk1 k1
  exact⟨P.at2.isg.keeps k1,P.at2.gens⟩
 refine wpAny_pyIter_gen P'.at2.isg λpp=>?_
 refine OX K rfl (hAF.trans rfl) rfl rfl hx hco hv hδ pass hend ?_ r j s s1 hj P' (rZ.of (L:=p.envF.locals) (GS.keeps k1) (.inr rfl))
 intro s0 s' e t tb tk h' tk' gs hs F hg
 subst hs
 refine seg_leaf (.error (.ref e)) ?_
 show Seg _ _ _ _ _ _ _ (((do
  if (←field (.ref e) 1)==Value.none then unsupported "frame.own-activation:exception-without-traceback"
  setFlight (.ref e) p.envF.frame:Sem Unit) >>= λ_=>(.raise (.ref e):Sem Flow)).wrap _ _ _ _) _ _
 refine seg_bind_wrap ?_
 rwa[←hAF]
 refine iI.came (s:={s0 with heap:=h',toks:=tk',gens:=gs}) K.fL F λh2 F2=>?_
 show Seg _ _ _ _ _ _ _ ((leaving p.envF (.ref e)).wrap (λ_=>.raise (.ref e)) .raise id id) _ _
 refine seg_wrap ?_
 rwa[←hAF]
 refine iI.leave (s:={s0 with heap:=h2,toks:=tk',gens:=gs}) K.fr K.fL F2 (.inr (.inr rfl)) λh3 tb3 F3=>?_
 exact seg_end (.error (.ref e)) ⟨rfl,e,t,tb3,tk,h3,tk',gs,rfl,rfl,F3,hg⟩
end
structure xE(p:GP)(j1:Nat)(IE1:bX)(cls1:Value)(txt1:Str)(A0:Around)(G1:Addr)(g1:Nat)(j:Nat)(s:Shared):Prop where
 isg:s.heap.IsGen G1 g1
 gens:∃gs,s.gens[g1]?=some gs/\∀s'':Shared,P1 p j s''->gs.Goes p.C.M A0.in1 (p.R1 IE1 cls1 txt1) (p.Y1 j1) (j1-j) (.send .none) s''
noncomputable def oD(a b:Array GenState):Prop:=(∀y∈a,y.bare=true)->∀y∈b,y.bare=true
noncomputable def UQ(p:GP)(s0 s:Shared):Prop:=∃h' tk gs,s={s0 with heap:=h',toks:=tk,gens:=gs}/\(∀b o,¬p.Z1 b->s0.heap.get? b=some o->h'.get? b=some o)/\oD s0.gens gs
section
variable{p:GP}
theorem TO{j1:Nat}{IE1:bX}{cls1:Value}{txt1:Str}{A0:Around}{G1:Addr}{g1 j:Nat}{s:Shared}{Q:Option Value->Shared->Prop}{E:Value->Shared->Prop}(K:IF p)(hne:g1≠p.g2)(hroom:A0.depth<recursionLimit)(P:P1 p j s)(G:xE p j1 IE1 cls1 txt1 A0 G1 g1 j s)(hj:j<=j1)
 (hsub:∀h,p.C.K.In h->Looks p.C.M h (isSubtype cls1 (.type "StopIteration")) false) (hG1:¬p.ow G1) (hlt:∀b,oX p.lt b->p.B.get? b=none)
 (yields:j<j1->∀(v:Value) (s':Shared),tC v (p.vals j)->UQ p s s'->P1 p (j+1) s'->xE p j1 IE1 cls1 txt1 A0 G1 g1 (j+1) s'->Q (some v) s')
 (ends:j=j1->∀(e t:Addr) (tb:Value) (tk:Tok) (h':Heap) (tk':Tok) (gs:Array GenState),iI p.Z1 IE1 (p.envF::p.lt) s.heap e t cls1 [.str txt1 tk] tb (some .none) h'->oD s.gens gs->E (.ref e) {s with heap:=h',toks:=tk',gens:=gs}) :
 wpAny p.C.M A0 (pyNext (.ref G1)) Q E s:=by
 rcases aL G.gens with gs|hgs|hgo
 rcases eU (P1.dict2 P.gh2) with o2|es2|ep2|e2|d2
 rcases eU (P1.dictF P.okf) with oF|esF|epF|eF|dF
 have nZ:¬p.Z1 G1:=λz=>z.elim hG1 λz=>z.elim (λz=>cN G.isg (z▸e2) d2) λz=>cN G.isg (z▸eF) dF
 have Pr:P1 p j (s.setGen g1 .running):=P.setGen hne
 refine tN P.okf.gl.nl hroom G.isg hgs (hgo _ Pr) (λv s1 gs' hb hv'=>?_) (λr s1 hx=>?_)
 . obtain y1|y2|y3|y4:=nU hv'
   rcases Nat.lt_or_ge j j1 with hlt' | hge
   . rcases aU (Nat.exists_eq_add_one_of_ne_zero (Nat.sub_ne_zero_of_lt hlt')) with m|hm
     have hn:=QG hm
     rw[hm,Nat.add_sub_cancel] at y1;rw[hm,Nat.add_sub_cancel] at y3;rw[hm,Nat.add_sub_cancel] at y4
     replace y1:=hn.1▸y1
     replace y3:=hn.2.1▸y3;replace y4:=hn.2.1▸y4
     obtain h1|tk1|gs1|rfl|k1|r1:=nV y2
     have hs1:gs1[g1]?=some .running:=by rwa[r1.1 g1 hne];exact setGen_self hgs
     refine yields hlt' v _ y1 ⟨h1,tk1,_,rfl,k1,λhbare=>?_⟩ (y3.setGen hne) ⟨?_,gs',?_,λs'' P''=>?_⟩
     . have b1:=r1.2 ((GR.set s g1 .running rfl).2 hbare)
       exact (GR.set {s with heap:=h1,toks:=tk1,gens:=gs1} g1 gs' hb).2 b1
     . rcases eU (id G.isg) with o'|nm|qn|q1|r'
       exact⟨o',nm,qn,k1 _ _ nZ q1,r'⟩
     . exact setGen_self (s:={s with heap:=h1,toks:=tk1,gens:=gs1}) hs1
     . rwa[hn.2.2]
       exact y4 s'' P''
   . have e0:j1-j=0:=Nat.sub_eq_zero_of_le hge
     replace y3:=e0▸y3;replace y4:=e0▸y4
     exact (y4 s1 y3).elim
 . obtain h0|q_0:=bW hx;obtain e|t|tb|tk|h'|tk'|gs1|rfl|rfl|F|hg:=SR q_0
   have hjj:j=j1:=Nat.le_antisymm hj (Nat.sub_eq_zero_iff_le.mp h0)
   have hfB:∀b,oX (p.envF::p.lt) b->p.B.get? b=none:=λb hb=>by
    rcases aL (List.mem_filterMap.mp hb) with en|he|w
    cases he with
    | head =>
     replace w:=K.fL▸w
     rcases aL P.okf.st with _|Fv|_
     rwa[←Option.some.inj w];exact Fv.base.2.2.1.1
    | tail _ he=>exact hlt b (List.mem_filterMap.mpr ⟨en,he,w⟩)
   have hzB:∀b,p.Z1 b->p.B.get? b=none:=λb z=>by
    rcases z with z | z | z
    . exact K.hbo b z
    . rwa[z];rcases aL P.gh2.ok.st with _|Fv|_;exact Fv.base.2.2.1.1
    . rwa[z];rcases aL P.okf.st with _|Fv|_;exact Fv.base.2.2.1.1
   have kB:p.C.K.In h':=by
    rcases aL P.okf.st with _|Fv|_
    exact Fv.base.1.k.keeps (F.inB Fv.base.2.1 hzB hfB)
   refine⟨e,_,rfl,?_,F.ex,hsub h' kB,?_⟩
   . rcases eU (id G.isg) with o'|nm|qn|q1|r'
     have nf:¬oX (p.envF::p.lt) G1:=λhb=>by
      rcases aL (List.mem_filterMap.mp hb) with en|he|w
      rcases bW (P.gh2.fr en he) with kk|q_0;obtain L|o|es'|ep'|w1|w2|w3|w4:=uS q_0
      replace w1:=w▸w1
      exact cN G.isg (Option.some.inj w1▸w3) w4
     exact⟨o',nm,qn,(F.keep _ _ nZ q1).1 nf,r'⟩
   . refine ends hjj e t tb tk h' tk' _ F λhbare=>?_
     exact (GR.set {s with heap:=h',toks:=tk',gens:=gs1} g1 .finished rfl).2 (hg.2 ((GR.set s g1 .running rfl).2 hbare))
end
theorem iI.notDict{Z:Addr->Prop}{I:bX}{l:List Env}{s0 h:Heap}{e t:Addr}{cls:Value}{args:List Value}{tb:Value}{fl:Option Value}(F:iI Z I l s0 e t cls args tb fl h){b:Addr}{o:Obj}(z:¬Z b)(q:s0.get? b=some o)(d:∀es ep,o.data≠.dict es ep):h.get? b=some o :=
 (F.keep b o z q).1 λf=>by
  rcases bW (F.fr.mem f) with _|q_0;obtain o'|es|ep|q1|q2:=eU q_0
  rcases aU ((F.keep b o z q).2) with sl|q3
  have h_:=sx q3 q1;clear q1;subst h_
  exact d es ep q2
section
variable{C:Cx}{n:Nat}{sc:Scope}{δ:List (Str×D)}
theorem Ok.fly{A A':Around}{B:Heap}{env:Env}{X:Addr->Prop}{h0 h':Heap}{I I':bX}{Z:Addr->Prop}{l:List Env}{n':Nat}{e t:Addr}{cls:Value}{args:List Value}{tb:Value}{fl:Option Value}(O:Ok C n sc δ A B env X h0)(bo:Bo C B)(T:lI C.I I')(F:iI Z I l h0 e t cls args tb fl h')(rm:Rm n' A')(hA:A'.handled=some (.ref e))(iv:I'.inv h')
 (hZB:∀b,Z b->B.get? b=none) (hlB:∀b,oX l b->B.get? b=none) (hZL:¬Z env.locals) (hZc:∀x c,env.cells.lookup x=some c->¬Z c)
 (hZd:∀b o,Z b->¬C.I.own b->h0.get? b=some o->∃es ep,o.data=.dict es ep):Ok (C.turn I') n' sc δ A' B env X h':=by
 rcases aL O.st with ρ|Fv|V
 rcases nU Fv.base with G|k0|hL|hC
 rcases aL Fv.ns with m0|q_0|hm0;obtain oL|esL|epL|eL|dL|kL:=nV q_0
 have keep:∀b o,¬C.I.own b->h0.get? b=some o->(∀es ep,o.data≠.dict es ep)->h'.get? b=some o:=λb o q1 q d=>by
  by_cases z:Z b
  . rcases mF (hZd b o z q1 q) with es|ep|w
    exact (d es ep w).elim
  . exact F.notDict z q d
 refine⟨rm,.inr ⟨e,hA,_,_,F.ex,rfl,rfl⟩,λa ha=>?_,iv,λa q=>O.ox a (T.lst a q),ρ,?_,V.at λb o xb l q=>⟨xb,keep b o (λob=>xb (O.ox b (C.I.seqs _ _ _ O.iv ob q l))) q (λes ep w=>by obtain vs|nn|rfl:=mF l;injection w)⟩⟩
 . rcases eU (O.xo a ha) with o|vs|nn|q1|q2
   by_cases ob:C.I.own a
   . exact T.seq _ _ _ _ _ _ O.iv iv ob q1 q2
   . exact⟨o,vs,nn,keep _ _ ob q1 (λes ep w=>by injection tq w q2),q2⟩
 . rcases aU ((F.keep _ _ hZL eL).2) with sl|qL
   refine⟨⟨⟨G.k,G.g,G.b,G.nl⟩,F.inB k0 hZB hlB,⟨hL.1,λq=>hL.2 (T.own _ q)⟩,λy a q=>⟨(hC y a q).1,λz=>(hC y a q).2 (T.own _ z)⟩⟩,Fv.scope,Fv.kind,Fv.globals,Fv.builtins,⟨m0,⟨_,esL,epL,qL,dL,kL⟩,hm0⟩,
    λy hy=>let ⟨a,q1,o,q2,q3⟩:=Fv.cells y hy;⟨a,q1,o,keep _ _ (hC y a q1).2 q2 (λes ep w=>by injection tq w q3),q3⟩,Fv.inj,λy a q=>let ⟨v,o,q2,q3⟩:=Fv.allc y a q;⟨v,o,keep _ _ (hC y a q).2 q2 (λes ep w=>by injection tq w q3),q3⟩⟩
theorem CE{o e:PySem.Expr}{apos cpos:Pos}{a:Addr}{d:D}{I:bX}{P P':List Value->Prop}(hI:C.I=I.and (cO a P))(hIa:¬I.own a)(ho:Ev C n sc δ o (.ptr a))(he:Ev C n sc δ e d)
 (hP:∀(X:Addr->Prop) (h:Heap) (vs:List Value) (v:Value),P vs->Rd X h v d->P' (vs++[v])) (hz:∀vs,P vs->vs.length<=1000)
 (hl:(apos.endLine==cpos.line)=true)
 (hab:∀env,attributeBase o ("append":Str) env (eval o env)=eval o env:=by intro _;rfl)
 (hst:∀env,starEach [e] env=(false,eval e env)::starEach [] env:=by intro _;rfl) (hp:∀pos env,(backTo pos (starEach [e] env)).any (·.1)=false:=by intro _ _;rfl)
 (hall:∀pos env,(((backTo pos (starEach [e] env)).all λx=>!x.1)&&((backToKw pos (keywordEach [] env)).all λx=>x.1.isSome)&&decide (([e]:List PySem.Expr).length+([]:List Keyword).length+(if ([]:List Keyword).isEmpty=true then 0 else 1)<30))=true:=by intro _ _;rfl) :
 SZ C n sc δ (.Call (.Attribute o ("append":Str) apos) [e] [] cpos) (I.and (cO a P')) .none:=by
 refine⟨?_⟩
 intro A B env X s Q E O bo h
 have key:∀s1:Shared,Keeps s s1->∃vs:Array Value,s1.heap.PlainList a vs/\P vs.toList:=λs1 k1=>by
  have iv:=(O.on k1).iv
  replace iv:=hI▸iv;exact iv.2
 refine wpAny_Call_method (T:="list") (id:="list.append") (hab env) (hall cpos env) hl _root_.PySem.F.plainAttrs_list _root_.PySem.F.slot_list_append _root_.PySem.F.type_list_append (ho.go A B env X s _ _ O λv s1 k1 r1=>?_)
 obtain rfl:=cW r1
 rcases aL (key s1 k1) with vs1|q_0|_;obtain n1|e1:=aU q_0
 refine⟨⟨_,e1,rfl⟩,λb q=>by (injection q with h_0;subst h_0);exact⟨_,e1,rfl⟩,?_⟩
 refine callWith_builtin (hp cpos env) ?_
 have eS:backTo cpos (starEach [e] env)=(false,eval e env)::backTo cpos (starEach [] env):=by rwa[hst ..];rfl
 have O1:=O.on k1
 have hA:=(aF he bM hst).go A B env X cpos s1
 rw[eS] at hA ⊢
 refine evalArgs_plain (hA _ _ O1 λvs s2 k2 r2=>?_)
 obtain v|_|r2|r3|rfl:=iG (aR r2)
 obtain rfl:=bJ r3
 rcases aL (key s2 (aB k1 k2)) with ws|hpl|hPw
 refine wpAny_list_append_plain hpl (λh' hl' sb=>?_) (Nat.le_trans (by simpa using hz _ hPw) ∅)
 have K:=aB k1 k2
 have O2:=O1.on k2
 revert k2 r2 hpl sb O2;refine kE K ?_;clear K;intro h2 tk2 k2' k2 r2 hpl sb O2
 have e':=sb.extBut
 refine h .none _ ⟨h',tk2,rfl,λb ob q1 q=>e' b ob (λz=>q1 (by rwa[hI,z];exact .inr rfl)) (k2' b ob q)⟩ ?_ .none
 have Xa:X a:=O.ox a (by rwa[hI];exact .inr rfl)
 have O3:Ok (C.turn I) n sc δ A B env X h2:=by
  have iv:=O2.iv;replace iv:=hI▸iv
  rcases aL O2.st with ρ|F|V
  refine⟨O2.rm,O2.ho,O2.xo,iv.1,λb q=>O2.ox b (by rwa[hI];exact .inl q),ρ,?_,V⟩
  rcases nU F.base with G|k0|hL|hC
  exact⟨⟨⟨G.k,G.g,G.b,G.nl⟩,k0,⟨hL.1,λq=>hL.2 (by rwa[hI];exact .inl q)⟩,λy c z=>⟨(hC y c z).1,λq=>(hC y c z).2 (by rwa[hI];exact .inl q)⟩⟩,F.scope,F.kind,F.globals,F.builtins,F.ns,F.cells,F.inj,F.allc⟩
 have hBa:B.get? a=none:=bo a (by rwa[hI];exact .inr rfl)
 have O4:=O3.listBut ⟨hBa,hIa⟩ Xa hpl hl' e'
 rcases aL O4.st with ρ|F|V
 have neL:env.locals≠a/\∀y c,env.cells.lookup y=some c->c≠a:=by
  rcases aL O2.st with _|F2|_
  exact⟨λz=>F2.base.2.2.1.2 (by rwa[hI,z];exact .inr rfl),λy c e z=>(F2.base.2.2.2 y c e).2 (by rwa[hI,z];exact .inr rfl)⟩
 refine⟨O4.rm,O4.ho,O4.xo,⟨O4.iv,_,hl',by rwa[Array.toList_push];exact hP X h2 _ _ hPw r2⟩,λb q=>q.elim (O4.ox b) λz=>by rwa[z];exact Xa,ρ,?_,V⟩
 rcases nU F.base with G|k0|hL|hC
 exact⟨⟨⟨G.k,G.g,G.b,G.nl⟩,k0,⟨hL.1,λq=>q.elim hL.2 neL.1⟩,λy c z=>⟨(hC y c z).1,λq=>q.elim (hC y c z).2 (neL.2 y c z)⟩⟩,F.scope,F.kind,F.globals,F.builtins,F.ns,F.cells,F.inj,F.allc⟩
end
structure RS(p:GP)(Kp LT:Addr)(h h':Heap):Prop where
 keep:∀b o,b≠Kp->b≠LT->h.get? b=some o->h'.get? b=some o
 k0:∃vs,h.PlainList Kp vs
 k1:∃vs,h'.PlainList Kp vs
 l0:∃o es ep,h.get? LT=some o/\o.data=.dict es ep
 l1:∃o es ep,h'.get? LT=some o/\o.data=.dict es ep
structure zN(p:GP)(Kp LT:Addr):Prop where
 kX:p.X Kp
 kB:p.B.get? Kp=none
 ko:¬p.ow Kp
 lB:p.B.get? LT=none
 lo:¬p.ow LT
 l2:LT≠p.env2.locals
 lF:LT≠p.envF.locals
 c2:∀x c,p.env2.cells.lookup x=some c->c≠Kp/\c≠LT
section
variable{p:GP}
theorem Ok.ownd{n:Nat}{sc:Scope}{δ:List (Str×D)}{A:Around}{env:Env}{Kp LT:Addr}{h h':Heap}{j:Nat}(K:IF p)(W:zN p Kp LT)(w:RS p Kp LT h h')(O:Ok (p.C.turn (p.Ia j)) n sc δ A p.B env p.X h)(hL:env.locals≠LT)(hA:A.handled=none)
 (hc:∀x c,env.cells.lookup x=some c->c≠Kp/\c≠LT):Ok (p.C.turn (p.Ia j)) n sc δ A p.B env p.X h':=by
 rcases mF w.k0 with vs0|n0|k0
 rcases mF w.k1 with vs1|n1|k1
 rcases eU w.l0 with o0|es0|ep0|l0|d0
 refine Ok.other (C:=p.C.turn (p.Ia j)) (Z:=λb=>b=Kp\/b=LT) O (λb q=>K.hbo b (by rwa[←K.hoa j];exact q)) (K.same j) (λb o _ z q=>w.keep b o (λe=>z (.inl e)) (λe=>z (.inr e)) q) ?_ ?_ ?_ ?_ ?_ ?_ hA
 . refine (p.Ia j).at_ h h' O.iv λb o ob q=>w.keep b o (λe=>W.ko (by rwa[←K.hoa j,←e];exact ob)) (λe=>W.lo (by rwa[←K.hoa j,←e];exact ob)) q
 . rintro b (rfl | rfl)
   . exact W.kB
   . exact W.lB
 . rintro (e | e)
   . rcases aL O.st with _|F|_
     rcases aL F.ns with m|q_0|_;obtain o|es|ep|e1|e2|_:=nV q_0
     replace e1:=k0▸e▸e1;obtain rfl:=Option.some.inj e1;injection e2
   . exact hL e
 . intro x c q
   rcases aL O.st with _|F|_
   rcases dZ (F.allc x c q) with v|o|q1|_
   rwa[q1];exact w.keep c o (hc x c q).1 (hc x c q).2 q1
 . rintro b o (rfl | rfl) q l
   . exact W.kX
   . have h_:=sx l0 q;clear q;subst h_
     obtain _|_|l:=mF l
     replace d0:=l▸d0;injection d0
 . rintro b (rfl | rfl) _ q
   . exact⟨_,_,_,k1,rfl⟩
   . rcases eU (O.xo _ q) with o|vs|nn|q1|q2
     have h_:=sx l0 q1;clear q1;subst h_
     injection tq d0 q2
theorem dO.ownd{I:bX}{l:List Env}{Kp LT:Addr}{h h':Heap}(w:RS p Kp LT h h')(F:dO I l h):dO I l h':=λen he=>by
 rcases bW (F en he) with kk|q_0;obtain L|o|es|ep|h1|h2|h3|h4:=uS q_0
 by_cases z:L=LT
 . rcases eU w.l1 with o1|es1|ep1|l1|d1
   exact⟨kk,L,o1,es1,ep1,h1,h2,z▸l1,d1⟩
 . refine⟨kk,L,o,es,ep,h1,h2,w.keep L o (λe=>?_) z h3,h4⟩
   rcases mF w.k0 with vs0|n0|k0
   rw[e,k0] at h3;obtain rfl:=Option.some.inj h3;injection h4
theorem P1.ownd{Kp LT:Addr}{s:Shared}{h':Heap}{tk:Tok}{j:Nat}(K:IF p)(W:zN p Kp LT)(w:RS p Kp LT s.heap h')(P:P1 p j s):P1 p j {s with heap:=h',toks:=tk}:=by
 refine⟨P.okf.ownd K W w W.lF.symm K.hh (λx c q=>by rw[K.cF] at q;injection q),P.frt.ownd w,⟨P.gh2.ok.ownd K W w W.l2.symm K.h3 W.c2,P.gh2.fr.ownd w⟩,?_,P.at2.gens⟩
 rcases tX (id P.at2.isg) with o'|nm|qn|q1|q2|q3|q4
 rcases mF w.k0 with vs0|n0|k0
 rcases eU w.l0 with o0|es0|ep0|l0|d0
 exact⟨o',nm,qn,w.keep _ _ (λe=>by rw[e,k0] at q1;obtain rfl:=Option.some.inj q1;injection q3) (λe=>cN P.at2.isg (e▸l0) d0) q1,q2,q3,q4⟩
end
theorem Ok.watch{C:Cx}{n:Nat}{sc:Scope}{δ:List (Str×D)}{A:Around}{B:Heap}{env:Env}{X:Addr->Prop}{h:Heap}{J:bX}(O:Ok C n sc δ A B env X h)(ho:∀b,J.own b->C.I.own b)(hl:∀b,J.lst b->C.I.lst b)(iv:J.inv h):Ok (C.turn J) n sc δ A B env X h:=by
 rcases aL O.st with ρ|F|V
 rcases nU F.base with G|k0|hL|hC
 exact⟨O.rm,O.ho,O.xo,iv,λb q=>O.ox b (hl b q),ρ,⟨⟨⟨G.k,G.g,G.b,G.nl⟩,k0,⟨hL.1,λq=>hL.2 (ho _ q)⟩,λy c z=>⟨(hC y c z).1,λq=>(hC y c z).2 (ho _ q)⟩⟩,F.scope,F.kind,F.globals,F.builtins,F.ns,F.cells,F.inj,F.allc⟩,V⟩
structure TP where
 p:GP
 j1:Nat
 IE1:bX
 cls1:Value
 txt1:Str
 nT:Nat
 scT:Scope
 δT:List (Str×D)
 A0:Around
 envT:Env
 l:List Env
 G1:Addr
 g1:Nat
 Kp:Addr
 ks:Nat->List D
noncomputable abbrev TP.IT(q:TP)(j:Nat):bX:=(q.p.Ia j).and (cO q.Kp (PD (q.ks j)))
structure JT(q:TP)(j:Nat)(s:Shared):Prop where
 okt:Ok (q.p.C.turn (q.IT j)) q.nT q.scT q.δT q.A0 q.p.B q.envT q.p.X s.heap
 p1:P1 q.p j s
 g1:xE q.p q.j1 q.IE1 q.cls1 q.txt1 q.A0 q.G1 q.g1 j s
noncomputable def TP.ZT(q:TP)(b:Addr):Prop:=q.p.Z1 b\/b=q.Kp\/b=q.envT.locals
noncomputable def GT(q:TP)(s0 s:Shared):Prop:=∃h' tk gs,s={s0 with heap:=h',toks:=tk,gens:=gs}/\(∀b o,¬q.ZT b->s0.heap.get? b=some o->h'.get? b=some o)/\oD s0.gens gs
theorem GT.refl(q:TP)(s:Shared):GT q s s:=⟨s.heap,s.toks,s.gens,rfl,λ_ _ _ e=>e,λh=>h⟩
theorem GT.trans{q:TP}{a b c:Shared}(x:GT q a b)(y:GT q b c):GT q a c:=by
 obtain h|t|g|rfl|k|r:=nV x
 obtain h'|t'|g'|rfl|k'|r':=nV y
 exact⟨h',t',g',rfl,λb o z q=>k' b o z (k b o z q),λh=>r' (r h)⟩
structure UR(q:TP):Prop where
 K:IF q.p
 W:zN q.p q.Kp q.envT.locals
 lt:q.p.lt=q.envT::q.l
 hne:q.g1≠q.p.g2
 room:q.A0.depth<recursionLimit
 sub:∀h,q.p.C.K.In h->Looks q.p.C.M h (isSubtype q.cls1 (.type "StopIteration")) false
 g1o:¬q.p.ow q.G1
 frB:∀b,oX q.p.lt b->q.p.B.get? b=none
 hh:q.A0.handled=none
 fr:q.A0.frames=some (q.envT::q.l)
 fT:q.envT.frame=some q.envT.locals
 ks:∀j,q.ks (j+1)=q.ks j++[q.p.vals j]
 kl:∀j,j<=q.j1->(q.ks j).length<=1000
 vf:∀j,(q.p.vals j).flat=true
 lsto:∀j b,(q.p.Ia j).lst b->(q.p.Ia j).own b
section
variable{q:TP}
theorem xE.ownd{s:Shared}{h':Heap}{tk:Tok}{j:Nat}(w:RS q.p q.Kp q.envT.locals s.heap h')(G:xE q.p q.j1 q.IE1 q.cls1 q.txt1 q.A0 q.G1 q.g1 j s):xE q.p q.j1 q.IE1 q.cls1 q.txt1 q.A0 q.G1 q.g1 j {s with heap:=h',toks:=tk}:=by
 refine⟨?_,G.gens⟩
 rcases tX (id G.isg) with o'|nm|qn|q1|q2|q3|q4
 rcases mF w.k0 with vs0|n0|k0
 rcases eU w.l0 with o0|es0|ep0|l0|d0
 exact⟨o',nm,qn,w.keep _ _ (λe=>by rw[e,k0] at q1;obtain rfl:=Option.some.inj q1;injection q3) (λe=>cN G.isg (e▸l0) d0) q1,q2,q3,q4⟩
theorem Ok.dict{C:Cx}{n:Nat}{sc:Scope}{δ:List (Str×D)}{A:Around}{B:Heap}{env:Env}{X:Addr->Prop}{h:Heap}(O:Ok C n sc δ A B env X h):∃o es ep,h.get? env.locals=some o/\o.data=.dict es ep:=by
 rcases aL O.st with ρ|F|_
 rcases aL F.ns with m|q_0|_;obtain o|es|ep|e1|e2|_:=nV q_0
 exact⟨o,es,ep,e1,e2⟩
theorem JT.list{j:Nat}{s:Shared}(J:JT q j s):∃vs,s.heap.PlainList q.Kp vs/\PD (q.ks j) vs.toList:=J.okt.iv.2
theorem JT.after(T:UR q){j:Nat}{s s':Shared}(J:JT q j s)(P':P1 q.p (j+1) s')(g:UQ q.p s s'):Ok (q.p.C.turn ((q.p.Ia (j+1)).and (cO q.Kp (PD (q.ks j))))) q.nT q.scT q.δT q.A0 q.p.B q.envT q.p.X s'.heap:=by
 rcases eU (P1.dict2 J.p1.gh2) with o2|es2|ep2|e2|d2
 rcases eU (P1.dictF J.p1.okf) with oF|esF|epF|eF|dF
 rcases aL J.list with vs|q_0|pd;obtain nn|kl:=aU q_0
 obtain h'|tk|gs|rfl|k|_:=nV g
 refine Ok.other (C:=q.p.C.turn (q.IT j)) (I:=(q.p.Ia (j+1)).and (cO q.Kp (PD (q.ks j)))) (Z:=λb=>b=q.p.env2.locals\/b=q.p.envF.locals) J.okt ?_ ((T.K.turn j).and dY) ?_ ?_ ?_ ?_ ?_ ?_ ?_ T.hh
 . rintro b (z | z)
   . exact T.K.hbo b (by rwa[←T.K.hoa j];exact z)
   . rwa[z];exact T.W.kB
 . intro b o q1 q2 e
   exact k b o (λz=>z.elim (λz=>q1 (.inl (by rwa[T.K.hoa j];exact z))) q2) e
 . exact⟨P'.okf.iv,vs,⟨nn,k _ _ (λz=>z.elim T.W.ko λz=>z.elim (λz=>by replace kl:=e2▸z▸kl;obtain rfl:=Option.some.inj kl;injection d2) λz=>by replace kl:=eF▸z▸kl;obtain rfl:=Option.some.inj kl;injection dF) kl⟩,pd⟩
 . rintro b (rfl | rfl)
   . rcases aL J.p1.gh2.ok.st with _|F|_;exact F.base.2.2.1.1
   . rcases aL J.p1.okf.st with _|F|_;exact F.base.2.2.1.1
 . rintro (z | z)
   . exact T.W.l2 z
   . exact T.W.lF z
 . intro x c e
   rcases aL J.okt.st with _|F|_
   rcases dZ (F.allc x c e) with v|o|q1|q2
   rwa[q1]
   refine k c o (λz=>?_) q1
   rcases z with z | z | z
   . exact (F.base.2.2.2 x c e).2 (.inl (by rwa[T.K.hoa j];exact z))
   . replace q1:=e2▸z▸q1;obtain rfl:=Option.some.inj q1;injection tq d2 q2
   . replace q1:=eF▸z▸q1;obtain rfl:=Option.some.inj q1;injection tq dF q2
 . rintro b o (rfl | rfl) q1 ⟨_,_,w⟩
   . replace q1:=e2▸q1;obtain rfl:=Option.some.inj q1;replace d2:=w▸d2;injection d2
   . replace q1:=eF▸q1;obtain rfl:=Option.some.inj q1;replace dF:=w▸dF;injection dF
 . rintro b (rfl | rfl) _ z
   . rcases eU (J.okt.xo _ z) with o|vs|nn|q1|q2
     have h_:=sx e2 q1;clear q1;subst h_;injection tq d2 q2
   . rcases eU (J.okt.xo _ z) with o|vs|nn|q1|q2
     have h_:=sx eF q1;clear q1;subst h_;injection tq dF q2
end
section
variable{q:TP}
theorem GT.of0{a b:Shared}(x:UQ q.p a b):GT q a b:=by
 obtain h|t|g|rfl|k|r:=nV x
 exact⟨h,t,g,rfl,λb o z e=>k b o (λw=>z (.inl w)) e,r⟩
theorem GT.own{s:Shared}{h':Heap}{tk:Tok}(w:RS q.p q.Kp q.envT.locals s.heap h'):GT q s {s with heap:=h',toks:=tk} :=
 ⟨h',tk,s.gens,rfl,λb o z e=>w.keep b o (λe=>z (.inr (.inl e))) (λe=>z (.inr (.inr e))) e,λh=>h⟩
theorem HF(T:UR q){Q:Flow->Shared->Prop}{E:Value->Shared->Prop}{px npos kpos apos cpos epos:Pos}(hnum:q.scT.names.lookup ("number":Str)=some .local)(hkept:PS (q.scT.names.lookup ("kept":Str))=true)(hδk:q.δT.lookup ("kept":Str)=some (.ptr q.Kp))(hδn:q.δT.lookup ("number":Str)=none)(hl:(apos.endLine==cpos.line)=true)
 {j:Nat} {s s1:Shared} {v:Value} (hj:j<q.j1) (J:JT q j s) (rv:tC v (q.p.vals j)) (g:UQ q.p s s1) (P':P1 q.p (j+1) s1) (G':xE q.p q.j1 q.IE1 q.cls1 q.txt1 q.A0 q.G1 q.g1 (j+1) s1)
 (h:∀s2,JT q (j+1) s2->GT q s s2->Q .next s2) :
 wpAny q.p.C.M q.A0 (assign (.Name "number" px) q.envT v) (λ_ s2=>wpAny q.p.C.M q.A0 (execs [.Expr (.Call (.Attribute (.Name "kept" kpos) "append" apos) [.Name "number" npos] [] cpos) epos] q.envT) Q E s2) E s1:=by
 have O1:=J.after T P' g
 rcases aL O1.iv.2 with vs0|q_0|pd0;obtain nn0|kl0:=aU q_0
 refine wpAny_assign_Name (O1.store (rv _ _) hnum (.inl rfl) λh2 tk2 O2 _ _ lo=>?_)
 have neL:q.Kp≠q.envT.locals:=λe=>by
  rcases eU O1.dict with o|es|ep|e1|e2
  replace e1:=kl0▸e.symm▸e1;obtain rfl:=Option.some.inj e1;injection e2
 have w2:RS q.p q.Kp q.envT.locals s1.heap h2:=⟨λb o _ z e=>lo rfl b o z e,⟨vs0,nn0,kl0⟩,⟨vs0,nn0,lo rfl _ _ neL kl0⟩,O1.dict,O2.dict⟩
 have P2:=P'.ownd (tk:=tk2) T.K T.W w2
 have G2:=G'.ownd (tk:=tk2) w2
 refine wpAny_execs_cons ?_
 rcases aL O2.st with _|F0|_
 have hi:interactive q.envT=false:=by
  have:=F0.kind;replace this:=F0.scope.symm▸this
  unfold interactive
  simp[this]
 refine wpAny_Expr_any (prog:=q.p.C.prog) (w:=q.p.C.w) ?_ hi rfl
 have O3:Ok (q.p.C.turn (bX.none.and (cO q.Kp (PD (q.ks j))))) q.nT q.scT ((("number":Str),q.p.vals j)::q.δT) q.A0 q.p.B q.envT q.p.X h2:=O2.watch (J:=bX.none.and (cO q.Kp (PD (q.ks j)))) (λb z=>z.elim (λz=>z.elim) .inr) (λb z=>z.elim (λz=>z.elim) .inr) ⟨trivial,O2.iv.2⟩
 have hk:(q.ks j).length<=1000:=T.kl j (by exact Nat.le_of_lt (by assumption))
 refine (CE (C:=q.p.C.turn (bX.none.and (cO q.Kp (PD (q.ks j))))) (n:=q.nT) (sc:=q.scT) (δ:=(("number":Str),q.p.vals j)::q.δT) (a:=q.Kp) (d:=q.p.vals j) (I:=bX.none) (P:=PD (q.ks j)) (P':=PD (q.ks (j+1))) rfl (λz=>z) (aA (by rwa[List.lookup_cons];exact hδk) hkept) (aA (by rwa[List.lookup_cons_self];rfl) (by rwa[hnum];rfl))
  (λX h vs v pd r=>by rwa[T.ks j];exact pd.snoc (tC.of r (T.vf j))) (λvs pd=>by rwa[pd.len];exact hk) hl).go q.A0 q.p.B q.envT q.p.X {s1 with heap:=h2,toks:=tk2} _ _ O3 (λb z=>z.elim (λz=>z.elim) λz=>by rwa[z];exact T.W.kB) λr s3 k3 O4 r4=>?_
 obtain h3|tk3|rfl|k3:=dZ k3
 rcases aL O4.iv.2 with vs1|q_0|pd1;obtain nn1|kl1:=aU q_0
 have k3':∀b o,b≠q.Kp->h2.get? b=some o->h3.get? b=some o:=λb o z e=>k3 b o (λw=>w.elim (λw=>w.elim) z) e
 have w3:RS q.p q.Kp q.envT.locals h2 h3:=⟨λb o z _ e=>k3' b o z e,w2.k1,⟨vs1,nn1,kl1⟩,O2.dict,O4.dict⟩
 have P3:=P2.ownd (tk:=tk3) T.K T.W w3
 have G3:=G2.ownd (tk:=tk3) w3
 refine wpAny_execs_nil (h _ ⟨?_,P3,G3⟩ (((GT.of0 g).trans (GT.own (tk:=tk2) w2)).trans (GT.own (s:={s1 with heap:=h2,toks:=tk2}) (tk:=tk3) w3)))
 have O5:Ok (q.p.C.turn (q.IT (j+1))) q.nT q.scT ((("number":Str),q.p.vals j)::q.δT) q.A0 q.p.B q.envT q.p.X h3:=by
  refine Ok.other (C:=q.p.C.turn ((q.p.Ia (j+1)).and (cO q.Kp (PD (q.ks j))))) (I:=q.IT (j+1)) (Z:=λ_=>False) O2 ?_ ((T.K.same (j+1)).and dY) ?_ ?_ (λ_ z=>z.elim) (λz=>z) ?_ (λ_ _ z=>z.elim) (λ_ z=>z.elim) T.hh
  . rintro b (z | z)
    . exact T.K.hbo b (by rwa[←T.K.hoa (j+1)];exact z)
    . rwa[z];exact T.W.kB
  . exact λb o z _ e=>k3' b o (λw=>z (.inr w)) e
  . exact⟨P3.okf.iv,vs1,⟨nn1,kl1⟩,pd1⟩
  . intro x c e
    rcases aL O2.st with _|F|_
    rcases dZ (F.allc x c e) with v|o|q1|q2
    rwa[q1]
    exact k3' c o (λz=>(F.base.2.2.2 x c e).2 (.inr z)) q1
 exact Ok.sub O5 λy d e=>by
  rwa[List.lookup_cons]
  split
  . rename_i z
    have:y=("number":Str):=by simpa using z
    replace e:=(hδn)▸this▸e;injection e
  . exact e
theorem HG(T:UR q){R:Result->Shared->Prop}{px npos kpos apos cpos epos:Pos}(hnum:q.scT.names.lookup ("number":Str)=some .local)(hkept:PS (q.scT.names.lookup ("kept":Str))=true)(hδk:q.δT.lookup ("kept":Str)=some (.ptr q.Kp))(hδn:q.δT.lookup ("number":Str)=none)(hl:(apos.endLine==cpos.line)=true)
 {j0:Nat} {s0:Shared} (hj0:j0<=q.j1) (J0:JT q j0 s0)
 (hR:∀(sj:Shared) (e t:Addr) (tb:Value) (tk:Tok) (h':Heap) (tk':Tok) (gs:Array GenState),JT q q.j1 sj->GT q s0 sj->iI q.p.Z1 q.IE1 (q.envT::q.l) sj.heap e t q.cls1 [.str q.txt1 tk] tb (some (rawInt q.envT.locals)) h'->oD sj.gens gs->R (.error (.ref e)) {sj with heap:=h',toks:=tk',gens:=gs}) :
 codeAny q.p.C.M q.A0 (.forLoop (.Name "number" px) (.ref q.G1) [.Expr (.Call (.Attribute (.Name "kept" kpos) "append" apos) [.Name "number" npos] [] cpos) epos] [] q.envT) R s0:=by
 refine codeAny_forLoop (λm s=>∃j,m=q.j1-j/\j<=q.j1/\JT q j s/\GT q s0 s) (λm s hm=>?_) (q.j1-j0) ⟨j0,rfl,hj0,J0,GT.refl q s0⟩
 obtain j|rfl|hj|J|g:=SQ hm
 refine TO (j:=j) T.K T.hne T.room J.p1 J.g1 hj T.sub T.g1o T.frB (λhlt v s1 rv g1 P' G'=>?_) (λhe e t tb tk h' tk' gs F hb=>?_)
 . refine HF T hnum hkept hδk hδn hl hlt J rv g1 P' G' λs2 J2 g2=>?_
   exact⟨q.j1-(j+1),by grind,j+1,rfl,hlt,J2,g.trans g2⟩
 . subst he
   show wpAny _ _ (noteFrame (.ref e) q.envT) _ _ _
   have F':iI q.p.Z1 q.IE1 (q.envT::q.l) s.heap e t q.cls1 [.str q.txt1 tk] tb (some .none) h':=by
    replace F:=T.lt▸F
    refine F.from (λb o z q=>⟨z,q⟩) (λb o z _ w=>?_) λ_ w=>.tail _ w
    rcases aL (List.mem_filterMap.mp w) with en|he|w
    cases he with
    | head=>replace w:=T.K.fL▸w;exact absurd (.inr (.inr (Option.some.inj w).symm)) z
    | tail _ he=>exact List.mem_filterMap.mpr ⟨en,he,w⟩
   refine iI.note (s:={s with heap:=h',toks:=tk',gens:=gs}) T.fr T.fT F' (.inr (.inl rfl)) λh2 tb2 F2=>?_
   exact hR s e t tb2 tk h2 tk' gs J g F2 hb
end
noncomputable def iE(h:Heap)(c P:Addr)(ps:Array Value):Prop:=h.IsCode c P ps/\h.TableAt c P ps
theorem HH{h h':Heap}{c P:Addr}{ps:Array Value}(x:h.IsCode c P ps)(kf:∀b o vs,(b=c\/b=P)->h.get? b=some o->o.data=.fields vs->h'.get? b=some o):h'.IsCode c P ps:=by
 unfold Heap.IsCode at x ⊢
 obtain o|vs|x:=mF x
 refine⟨o,vs,?_⟩
 obtain f|t|g|u|i|j|k|op|a|d|x:=ZA x
 obtain r1|r2|r3|r4|r5|b|e|r:=UV x
 exact⟨f,t,g,u,i,j,k,op,kf _ _ _ (.inl rfl) a d,d,r1,r2,r3,r4,r5,kf _ _ _ (.inr rfl) b e,e,r⟩
theorem iE.fld{h h':Heap}{c P:Addr}{ps:Array Value}(x:iE h c P ps)(kf:∀b o vs,(b=c\/b=P)->h.get? b=some o->o.data=.fields vs->h'.get? b=some o):iE h' c P ps :=
 ⟨HH x.1 kf,x.2.1.elim λo y=>y.elim λvs z=>⟨o,vs,kf _ _ _ (.inl rfl) z.1 z.2.2.1,z.2⟩,kf _ _ _ (.inr rfl) x.2.2 rfl⟩
theorem iE.keeps{h h':Heap}{c P:Addr}{ps:Array Value}(x:iE h c P ps)(k:∀b o,h.get? b=some o->h'.get? b=some o):iE h' c P ps:=x.fld λb o _ _ e _=>k b o e
theorem iE.push{h:Heap}{c P:Addr}{ps:Array Value}(x:iE h c P ps)(o:Obj):iE (h.push o) c P ps:=x.keeps λ_ _ e=>Heap.get?_push_of_some o e
theorem zO{M:Model}{A:Around}{E:Value->Shared->Prop}{s:Shared}{env:Env}{c P:Addr}{ps:Array Value}{pos:Pos}{qn:Str}{sc:Scope}{Q:Value->Shared->Prop}(hc:env.code=.ref c)(hok:iE s.heap c P ps)
 (hQ:∀code h' tk ps',Heap.ExtBut P s.heap h'->iE h' c P ps'->Q code {s with heap:=h',toks:=tk}):wpAny M A (genexprCode env pos qn sc) Q E s:=by
 cases q:codeAmong pos ps.toList with
 | none=>exact wpAny_genexprCodeX hc hok.1 hok.2 q λc' h' tk e _ _ i _ t _=>hQ _ _ _ _ e ⟨i,t⟩
 | some c'=>exact wpAny_genexprCode_hit hc hok.1 q (hQ c' s.heap s.toks ps (λ_ _ _ e=>e) hok)
theorem GP.code_notSeq{h:Heap}{c P:Addr}{ps:Array Value}(x:iE h c P ps):∃o,h.get? P=some o/\o.data=.fields ps:=⟨_,x.2.2,rfl⟩
section
variable{C:Cx}{n:Nat}{sc:Scope}{δ:List (Str×D)}
structure CF(C:Cx)(bm:Addr)(obm:Obj):Prop where
 hb:C.mg ("__builtins__":Str)=some (.ref bm)
 ne:bm≠builtinsNs
 k:C.K.lookup bm=some obm
 c:obm.cls=.type "module"
 d:obm.dict=some builtinsNs
 p:obm.data=.plain
theorem uM{gscope:Scope}{y:Str}{d L:D}(h:((((".0":Str),L)::lX gscope δ)).lookup y=some d):(y=".0"/\d=L)\/(gscope.names.lookup y=some .free/\δ.lookup y=some d):=by
 rw[List.lookup_cons] at h
 split at h
 . rename_i e
   cases h
   exact .inl ⟨by simpa using e,rfl⟩
 . exact .inr (fE h)
theorem zP{A:Around}{B:Heap}{env:Env}{X:Addr->Prop}{s:Shared}{Q:Value->Shared->Prop}{E:Value->Shared->Prop}{elt:PySem.Expr}{x lname:Str}{px lp pos:Pos}{gscope:Scope}{L c P bm:Addr}{ps:Array Value}{obm:Obj}
 (O:Ok C n sc δ A B env X s.heap) (hh:A.handled=none) (hroom:A.depth<recursionLimit) (T:lI C.I C.I) (bo:Bo C B) (hlx:δ.lookup lname=some (.ptr L)) (hln:PS (sc.names.lookup lname)=true) (hnd:(lname==("__debug__":Str))=false) (hnc:(lname==("__classdict__":Str))=false)
 (self:∀(s:Shared) (Q:Value->Shared->Prop) (E:Value->Shared->Prop),Ok C n sc δ A B env X s.heap->(∀s',Keeps s s'->Q (.ref L) s')->wpAny C.M A (pyIter (.ref L)) Q E s)
 (hco:gscope.isCoroutine=false) (hcell:∀y∈gscope.names,y.2≠.cell) (h0:gscope.names.lookup (".0":Str)=some .local) (hkind:gscope.kind=.function) (hfree:∀x∈gscope.names,x.2=.free->sc.names.lookup x.1=some .cell\/sc.names.lookup x.1=some .free)
 (hcode:env.code=.ref c) (hok:iE s.heap c P ps) (hPB:B.get? P=none) (hPo:¬C.I.own P) (bk:CF C bm obm)
 (h:∀(G2:Addr) (env2:Env) (h':Heap) (tk:Tok),env2.scope=gscope->env2.frame=some env2.locals->(∀x c,env2.cells.lookup x=some c->env.cells.lookup x=some c)->h'.IsGen G2 s.gens.size->s.heap.get? G2=none->s.heap.get? env2.locals=none->(∃ps',iE h' c P ps') ->
  (∀b o,b≠P->s.heap.get? b=some o->h'.get? b=some o)->Ok C n sc δ A B env X h'->St C gscope B env2 X h' (((".0":Str),.ptr L)::lX gscope δ) ->
  Q (.ref G2) {s with heap:=h',toks:=tk,gens:=s.gens.push (.fresh (.compStart (.GeneratorExp elt [⟨.Name x px,.Name lname lp,[],0⟩] gscope pos) 0 (.ref L) .none env2))}) :
 wpAny C.M A (eval (.GeneratorExp elt [⟨.Name x px,.Name lname lp,[],0⟩] gscope pos) env) Q E s:=by
 rcases aL O.st with ρ|F|V
 have hcells:∀x,(x,.free)∈gscope.names->∃c,env.cells.lookup x=some c:=λx hx=>by
  rcases aL (F.cells x (hfree (x,.free) hx rfl)) with c|e|_
  exact⟨c,e⟩
 have clEq:∀x c,(gC env.cells gscope.names []).lookup x=some c->(x,.free)∈gscope.names/\env.cells.lookup x=some c:=λx c e=>by
  rcases iR _ _ _ _ e with q | ⟨q1,q2⟩
  . injection q
  . rcases aU (hcells x q1) with c'|hc'
    replace q2:=hc'▸q2
    exact⟨q1,by rwa[q2];exact hc'⟩
 refine wpAny_GeneratorExp_make hco (jA hcells) hcell h0 hkind hroom ?_ (λx=>rfl)
 refine (aA (C:=C) (n:=n) (sc:=sc) (δ:=δ) hlx hln hnd hnc).go A B env X s _ _ O λv s1 k1 r1=>?_
 obtain rfl:=cW r1
 have O1:=O.on k1
 refine self s1 _ _ O1 λs2 k2=>⟨(O1.on k2).gl.nl,?_⟩
 have O2:=O1.on k2
 revert O1 k2;refine kE k1 ?_;clear k1;intro h1 tk1 k1 O1 k2
 revert O2;refine kE k2 ?_;clear k2;intro h2 tk2 k2 O2
 have k12:∀b o,s.heap.get? b=some o->h2.get? b=some o:=λb o e=>k2 b o (k1 b o e)
 refine zO hcode (hok.keeps k12) λcode h3 tk3 ps3 e3 ic3=>?_
 rcases aL (GP.code_notSeq (hok.keeps k12)) with oP|eP|dP
 rcases aL (GP.code_notSeq ic3) with oP3|eP3|dP3
 have O3:Ok C n sc δ A B env X h3:=by
  refine Ok.other (C:=C) (I:=C.I) (Z:=λb=>b=P) O2 bo T (λb o _ z q=>e3 b o z q) ?_ (λb z=>by rwa[z];exact hPB) ?_ ?_ ?_ ?_ hh
  . exact C.I.at_ _ _ O2.iv λb o ob q=>e3 b o (λz=>hPo (z▸ob)) q
  . intro z
    rcases eU O2.dict with o|es|ep|q1|q2
    replace q1:=eP▸z▸q1;obtain rfl:=Option.some.inj q1
    injection tq dP q2
  . intro y a q
    rcases aL O2.st with _|F2|_
    rcases dZ (F2.allc y a q) with v|o|q1|q2
    rwa[q1]
    exact e3 a o (λz=>by replace q1:=eP▸z▸q1;obtain rfl:=Option.some.inj q1;injection tq dP q2) q1
  . rintro b o rfl q ⟨_,_,w⟩
    have h_:=sx eP q;clear q;subst h_
    replace dP:=w▸dP;injection dP
  . rintro b rfl _ z
    rcases eU (O2.xo _ z) with o|vs|nn|q1|q2
    have h_:=sx eP q1;clear q1;subst h_
    injection tq dP q2
 rwa[show env.globals=mainGlobals from F.globals]
 refine wpAny_builtinsFor O3.gl.g bk.hb bk.ne (O3.gl.k _ _ bk.k) bk.c bk.d bk.p ?_
 intro h' hn' hs'
 obtain⟨hp,hhp⟩:∃hp,hp=h3.push {cls:=.type "frame",data:=.dict #[]}:=⟨_,rfl⟩
 obtain⟨L2,hL2⟩:∃L2,L2=h3.objs.size:=⟨_,rfl⟩
 have nL2:h3.get? L2=none:=by rwa[hL2];exact aN
 have k3':∀b o,h3.get? b=some o->h'.get? b=some o:=λb o e=>hs'.extBut b o (λz=>by replace z:=hL2.symm▸z;replace e:=nL2▸z▸e;injection e) (Heap.get?_push_of_some _ e)
 obtain⟨og,hog⟩:∃og:Obj,og={cls:=.type "generator",data:=.fields #[.int s.gens.size 0,.str "<genexpr>" (tk3+1),.str (env.qual++"<genexpr>") (tk3+1+1)]}:=⟨_,rfl⟩
 obtain⟨G2,hG2⟩:∃G2,G2=h'.objs.size:=⟨_,rfl⟩
 have nG2:h'.get? G2=none:=by rwa[hG2];exact aN
 have k4:∀b o,h'.get? b=some o->(h'.push og).get? b=some o:=λb o e=>Heap.get?_push_of_some _ e
 have up:∀b o,b≠P->s.heap.get? b=some o->(h'.push og).get? b=some o:=λb o z e=>k4 b o (k3' b o (e3 b o z (k12 b o e)))
 have O4:Ok C n sc δ A B env X (h'.push og):=O3.keeps λb o e=>k4 b o (k3' b o e)
 have none_back:∀b,h3.get? b=none->b≠P->s.heap.get? b=none:=λb e z=>by
  cases q:s.heap.get? b with
  | none=>rfl
  | some o=>injection tq (e3 b o z (k12 b o q)) e
 have neP:∀b,h3.get? b=none->b≠P:=λb e z=>by replace e:=eP3▸z▸e;injection e
 have G2h3:h3.get? G2=none:=by
  cases q:h3.get? G2 with
  | none=>rfl
  | some o=>injection tq (k3' _ _ q) nG2
 have hn'':(h'.push og).Ns L2 (λy=>if y=(".0":Str) then some (.ref L) else none):=by rwa[hL2];exact hn'.push _
 show Q (.ref h'.objs.size) _
 rwa[←hG2]
 have kJ:=h G2 (genEnv gscope (gC env.cells gscope.names []) L2 code builtinsNs env) (h'.push og) (tk3+1+1+1) rfl rfl (λx c e=>(clEq x c e).2) ⟨og,_,_,by rwa[hG2];exact Heap.get?_push_size _ (by rwa[hog];rfl),by rwa[hog];rfl,by rwa[hog];rfl,by rwa[hog];rfl⟩ (none_back _ G2h3 (neP _ G2h3)) (none_back _ nL2 (neP _ nL2)) ⟨ps3,(ic3.keeps k3').push og⟩ up O4 ?_
 . replace kJ:=hL2▸hog▸kJ
   exact kJ
 . rcases aL O4.st with ρ4|F4|V4
   refine⟨λy=>if gscope.names.lookup y=some .local then (if y=(".0":Str) then some (.ref L) else none) else ρ4 y,?_,λy d e=>?_⟩
   . refine⟨⟨F4.base.1,F4.base.2.1,⟨bG (λb o e=>e3 b o (λz=>by replace e:=hPB▸z▸e;injection e) (k12 b o (F.base.2.1 b o e))) nL2,λob=>?_⟩,λy a e=>F4.base.2.2.2 y a (clEq y a e).2⟩,rfl,hkind,F4.globals,rfl,⟨_,hn'',λy e=>by rwa[if_pos e];rfl⟩,λy e=>?_,λy z a e1 e2=>F4.inj y z a (clEq y a e1).2 (clEq z a e2).2,λy a e=>F4.allc y a (clEq y a e).2⟩
     . rcases aU (C.I.dom _ _ O3.iv ob) with o|q
       have q:h3.get? L2=some o:=q
       injection tq nL2 q
     . have hm:(y,.free)∈gscope.names:=by
        rcases e with e | e
        . exact absurd rfl (hcell _ (eW e))
        . exact eW e
       rcases aU (Option.isSome_iff_exists.mp (jX (cells:=env.cells) gscope.names [] y (.inr hm))) with a|ha
       refine⟨a,ha,?_⟩
       rcases aL (F4.cells y (hfree (y,.free) hm rfl)) with a'|q1|q2
       have h_:=sx ((clEq y a ha).2) q1;clear q1;subst h_
       rwa[if_neg (by rcases e with e | e<;>refine zl e ?_<;>intro z<;>cases z)]
       exact q2
   . rcases uM e with⟨rfl,rfl⟩ | ⟨e1,e2⟩
     . exact⟨.ref L,by dsimp only;rwa[if_pos h0,if_pos rfl];rfl,.ptr L⟩
     . rcases aL (V4 y d e2) with v|q1|q2
       exact⟨v,by dsimp only;rwa[if_neg (by refine zl e1 ?_;intro z;cases z)];exact q1,q2⟩
end
noncomputable def zQ(sc:Scope)(names:List Str):Bool:=!sc.isCoroutine&&sc.isGenerator&&decide (sc.kind=.function)&&decide names.Nodup&&names.all (λx=>decide (sc.names.lookup x=some .local))&&sc.names.all (λx=>decide (x.2≠.free)&&decide (x.2≠.cell))
section
variable{C:Cx}{n:Nat}{sc:Scope}{δ:List (Str×D)}
theorem KU{A:Around}{B:Heap}{env:Env}{X:Addr->Prop}{s:Shared}{Q:Value->Shared->Prop}{E:Value->Shared->Prop}{f:Addr}{st:Stmt}{names:List Str}{vs:List Value}{ds:List D}(F:gI C f st pl names)(hl:ds.length=names.length)(hs:zQ (aD st) names=true)(hcf:∀m,cellsFrom m (aD st).names []=[])
 (O:Ok C n sc δ A B env X s.heap) (r:dI X s.heap vs ds)
 (h:∀(G1:Addr) (envF:Env) (h':Heap) (tk:Tok),envF.scope=aD st->envF.frame=some envF.locals->(∀x,envF.cells.lookup x=none)->h'.IsGen G1 s.gens.size->s.heap.get? G1=none->s.heap.get? envF.locals=none ->
  (∀b o,s.heap.get? b=some o->h'.get? b=some o)->St C (aD st) B envF X h' (names.zip ds) ->
  Q (.ref G1) {s with heap:=h',toks:=tk,gens:=s.gens.push (.fresh (.func (aX st) envF))}):wpAny C.M A (call (.ref f) vs) Q E s:=by
 refine wpAny_call ?_
 obtain ob|fd|hK|hd|hcode|hbody|hscope|hcl|hg|hb|hbind:=SW F
 simp only[zQ,Bool.and_eq_true,Bool.not_eq_true',decide_eq_true_eq,List.all_eq_true] at hs
 obtain q_0|hfree:=bW hs;obtain q_1|hnames:=bW q_0;obtain q_2|hnd:=bW q_1;obtain q_3|hk:=bW q_2;obtain hco|hgen:=bW q_3
 replace hco:=hscope.symm▸hco;replace hgen:=hscope.symm▸hgen;replace hk:=hscope.symm▸hk;replace hnames:=hscope.symm▸hnames;replace hfree:=hscope.symm▸hfree;replace h:=hscope.symm▸h;replace hcf:=hscope.symm▸hcf
 rcases aL O.st with ρ|Fv|V
 have Gs:=O.gl
 have hlen:=r.length
 refine codeAny_call_generator (o:=ob) (by have:=O.rm.d;show A.depth<1000;lia) (Gs.k _ _ hK) hd hco hgen hbody (codeRec_of Gs.k hcode) ?_
 rwa[hcl,hg,hb]
 have mem_zip:∀x∈names.zip vs,x.1∈names:=λx hx=>(List.of_mem_zip hx).1
 refine hbind vs (hlen.trans hl) _ _ _ _ Gs.k (wpAny_newFunctionEnv_cells hk (λx hx=>.inl (hnames x.1 (mem_zip x hx))) λenvF henv s1 ic=>⟨?_,?_⟩)
 . exact Gs.nl.keeps ic.toInCall.keep
 rcases mF ic.toInCall.same with h1|tk1|rfl
 have k1:∀b o,s.heap.get? b=some o->h1.get? b=some o:=ic.toInCall.keep
 have eL:envF.locals=s.heap.objs.size:=by rwa[henv];rfl
 have eC:envF.cells=[]:=by rwa[henv];exact hcf _
 have eS:envF.scope=fd.scope:=by rwa[henv];rfl
 have eG:envF.globals=mainGlobals:=by rwa[henv];rfl
 have eB:envF.builtins=builtinsNs:=by rwa[henv];rfl
 have kO:∀x,envF.kindOf x=fd.scope.names.lookup x:=λx=>by unfold Env.kindOf;rwa[eS];rfl
 have nd:((names.zip vs).map (·.1)).Nodup:=by
  have:(names.zip vs).map (·.1)=names.take vs.length:=nW names vs
  rwa[this];exact hnd.sublist (List.take_sublist _ _)
 have nL:s.heap.get? envF.locals=none:=by rwa[eL];exact aN
 have nown:¬C.I.own envF.locals:=λob=>by
  rcases aU (C.I.dom _ _ O.iv ob) with o|q
  injection tq nL q
 have nB:B.get? envF.locals=none:=bG Fv.base.2.1 nL
 obtain⟨og,hog⟩:∃og:Obj,og={cls:=.type "generator",data:=.fields #[.int s.gens.size 0,.str fd.name tk1,.str fd.qualname (tk1+1)]}:=⟨_,rfl⟩
 obtain⟨G1,hG1⟩:∃G1,G1=h1.objs.size:=⟨_,rfl⟩
 have nG1:h1.get? G1=none:=by rwa[hG1];exact aN
 have k2:∀b o,h1.get? b=some o->(h1.push og).get? b=some o:=λb o e=>Heap.get?_push_of_some _ e
 have kJ:=h G1 envF (h1.push og) (tk1+1+1) eS (by rwa[henv];rfl) (λx=>by rwa[eC];rfl) ⟨og,_,_,by rwa[hG1];exact Heap.get?_push_size _ (by rwa[hog];rfl),by rwa[hog];rfl,by rwa[hog];rfl,by rwa[hog];rfl⟩ (bG k1 nG1) nL (λb o e=>k2 b o (k1 b o e)) ?_
 . replace kJ:=hG1▸hog▸kJ
   exact kJ
 . refine⟨λx=>bindL envF.kindOf (names.zip vs) (λ_=>none) x,⟨⟨Fv.base.1,λb o e=>k2 b o (k1 b o (Fv.base.2.1 b o e)),⟨nB,nown⟩,λx c e=>(by replace e:=eC▸e;injection e)⟩,eS,hk,eG,eB,⟨_,ic.toInCall.ns.keeps k2,λx _=>rfl⟩,λx hx=>?_,(λx y c e=>by replace e:=eC▸e;injection e),(λx c e=>by replace e:=eC▸e;injection e)⟩,λx dd e=>?_⟩
   . rcases hx with hx | hx
     . exact absurd rfl (hfree _ (eW hx)).2
     . exact absurd rfl (hfree _ (eW hx)).1
   . rcases aL (iL r e) with v|e1|r1
     refine⟨v,?_,r1.keeps λb o e=>k2 b o (k1 b o e)⟩
     dsimp only
     rwa[kY _ _ _ _ nd,e1]
     have hx:fd.scope.names.lookup x=some .local:=by
      refine hnames x ?_
      obtain⟨a,ha⟩:∃a,a∈names.zip vs/\a.1=x:=by
       have:(x,v)∈names.zip vs:=by
        have gen:∀{l:List (Str×Value)},l.lookup x=some v->(x,v)∈l:=by
         intro l
         induction l with
         | nil=>intro q;injection q
         | cons p r ih =>
          obtain⟨y,w⟩:=p
          intro q
          rw[List.lookup_cons] at q
          split at q
          . rename_i z
            cases q
            have:x=y:=by simpa using z
            subst this;exact .head _
          . exact .tail _ (ih q)
        exact gen e1
       exact⟨_,this,rfl⟩
      rwa[←ha.2];exact mem_zip a ha.1
     rwa[kO ..,hx];rfl
end
noncomputable def xF(C:Cx)(a:Addr)(bm:List Value)(newId:String):Prop:=∃nm q N bs hdct sn sub ab col dd k0 k1 k2 k3 k5,C.K.lookup a=some (excClassObj nm q a N bs bm hdct sn sub ab col dd k0 k1 k2 k3 k5 newId)/\∃mN:Str->Option Value,(∀h,C.K.In h->h.Ns N mN)/\mN ("__init__":Str)=none
section
variable{C:Cx}{n:Nat}{sc:Scope}{δ:List (Str×D)}{I:bX}{txt:Str}
theorem uN{a:Addr}{bm:List Value}{B newId initId:String}(F:ExcBaseFacts B newId initId bm)(OE:xF C a bm newId){x:Str}{np cpos pos:Pos}{e:PySem.Expr}(hk:sc.names.lookup x=some .globalImplicit)(hg:C.mg x=some (.ref a))(hd:(x==("__debug__":Str))=false)(he:Ev C n sc δ e (.str txt))
 (hst:∀env,starEach [e] env=(false,eval e env)::starEach [] env:=by intro _;rfl) (hp:∀pos env,(backTo pos (starEach [e] env)).any (·.1)=false:=by intro _ _;rfl) :
 NE C n sc δ (.Raise (some (.Call (.Name x np) [e] [] cpos)) none pos) C.I (.ref a) txt:=by
 refine⟨λA B env X s Q E l O bo S h=>?_⟩
 obtain⟨nm,q,N,bs,hdct,sn,sub,ab,col,dd,k0,k1,k2,k3,k5,hK,mN,hN,hni⟩:=OE
 refine wpAny_Raise_call_sub (nm:=nm) (q:=q) (N:=N) (bs:=bs) (hdct:=hdct) (sn:=sn) (sub:=sub) (ab:=ab) (col:=col) (dd:=dd) (k0:=k0) (k1:=k1) (k2:=k2) (k3:=k3) (k5:=k5) (mN:=mN) F S.hh (hp cpos env) hni (cA O hk hg hd ⟨rfl,?_⟩)
 have hA:=(aF he bM hst).go A B env X cpos s
 have eb:backTo cpos (starEach [e] env)=(false,eval e env)::backTo cpos (starEach [] env):=by rwa[hst ..];rfl
 rw[eb] at hA ⊢
 refine evalArgs_plain (hA _ _ O λvs s1 k1 r1=>?_)
 have O1:=O.on k1
 refine⟨rfl,?_,O1.gl.k _ _ hK,hN _ O1.gl.k,λh' e' M=>?_⟩
 . have:=r1.length;show vs.length<=sizeLine;rwa[this];exact (by decide:1<=sizeLine)
 obtain tk|rfl:=aU (AQ r1)
 rcases rW M.there with t|he'|htn|ht
 revert O1 M htn;refine kE k1 ?_;clear k1;intro h1 tk1 k1 O1 M htn
 rcases aL O1.st with ρ|Fv|V
 rcases aL Fv.ns with m|q_0|_;obtain oL|esL|epL|q1|q2|_:=nV q_0
 have iv':=C.I.at_ _ _ O1.iv λb o _ q=>M.keeps b o q
 have nown:∀b,h1.get? b=none->¬C.I.own b:=λb q ob=>by
  rcases aU (C.I.dom _ _ O1.iv ob) with o|q'
  injection tq q q'
 refine h _ _ ⟨e',t,.none,none,tk,h',tk1,rfl,rfl,⟨λb o z q=>⟨λ_=>M.keeps b o (k1 b o q),o.slots,M.keeps b o (k1 b o q)⟩,iv',λen hen=>?_,he',ht,λb o _ q=>⟨λz=>?_,λz=>?_,λz=>by injection z⟩,⟨nown e' M.new,nown t htn,λb z=>by injection z⟩,(λz=>by injection z),rfl⟩,.inl rfl⟩
 . cases hen with
   | head=>exact⟨(by rwa[Fv.scope,Fv.kind];intro z;injection z),env.locals,oL,esL,epL,S.fr,Fv.base.2.2.1.2,M.keeps _ _ q1,q2⟩
   | tail _ hen =>
    rcases bW (S.ok en hen) with kk|q_0;obtain L|o|es|ep|w1|w2|w3|w4:=uS q_0
    exact⟨kk,L,o,es,ep,w1,w2,M.keeps _ _ (k1 _ _ w3),w4⟩
 . replace q:=z▸q;have:=k1 _ _ q;injection tq M.new this
 . replace q:=z▸q;have:=k1 _ _ q;injection tq htn this
theorem GK.frame{f:Addr}{args:List Value->Args}{ds:List D}{cls:Value}{J:bX}(F:GK C n f args ds I cls txt)(hd:∀b,J.own b->¬C.I.own b):GK (C.turn (C.I.and J)) n f args ds (I.and J) cls txt:=by
 refine⟨λA B X s vs R l K r hh hfr fo h=>F.go A B X s vs R l ⟨K.rm,K.ho,K.xo,⟨K.gl.k,K.gl.g,K.gl.b,K.gl.nl⟩,K.kb,λb q=>K.bo b (.inl q),K.iv.1,λa q=>K.ox a (.inl q)⟩ r hh hfr (λen he=>?_) λev s' z=>?_⟩
 . rcases bW (fo en he) with kk|q_0;obtain L|o|es|ep|h1|h2|h3|h4:=uS q_0
   exact⟨kk,L,o,es,ep,h1,λq=>h2 (.inl q),h3,h4⟩
 . obtain e|t|tb|tk|h'|tk'|rfl|rfl|G:=SV z
   have there:∀b,J.own b->∃o,s.heap.get? b=some o:=λb q=>J.dom _ _ K.iv.2 q
   have nfr:∀b,J.own b->¬oX l b:=λb q w=>(fo.mem w).1 (.inr q)
   refine h _ _ ⟨e,t,tb,tk,h',tk',rfl,rfl,⟨λb o z q=>G.keep b o (λw=>z (.inl w)) q,⟨G.iv,J.at_ _ _ K.iv.2 λb o q e=>(G.keep b o (hd b q) e).1 (nfr b q)⟩,λen he=>?_,G.ex,G.tp,λb o z q=>G.new b o (λw=>z (.inl w)) q,⟨λw=>w.elim G.no.1 λw=>?_,λw=>w.elim G.no.2.1 λw=>?_,λb e w=>w.elim (G.no.2.2 b e) λw=>?_⟩,G.te,G.tr⟩⟩
   . rcases bW (G.fr en he) with kk|q_0;obtain L|o|es|ep|h1|h2|h3|h4:=uS q_0
     refine⟨kk,L,o,es,ep,h1,λq=>q.elim h2 λq=>nfr L q (List.mem_filterMap.mpr ⟨en,he,h1⟩),h3,h4⟩
   . rcases aU (there _ w) with o|q
     exact (G.new _ o (hd _ w) q).1 rfl
   . rcases aU (there _ w) with o|q
     exact (G.new _ o (hd _ w) q).2.1 rfl
   . rcases aU (there _ w) with o|q
     exact (G.new _ o (hd _ w) q).2.2 e
noncomputable def RT:Stmt:=(aX (aY 5)).headD (.Pass ⟨0,0,0,0⟩)
noncomputable def KV:Stmt:=match RT with
 | .For _ _ b _ _=>b.headD (.Pass ⟨0,0,0,0⟩)
 | _=>.Pass ⟨0,0,0,0⟩
theorem KW{i:Int}(hi:0<=i){R:Addr}{w:Str}:rO C n (aD (aY 5)) [(("x":Str),.int i),(("values":Str),.ptr R),(("errmsg":Str),.str w)] KV (.nxt [(("x":Str),.int i),(("values":Str),.ptr R),(("errmsg":Str),.str w)]) :=
 bZ (b:=false) (aC (aH (aA rfl rfl) aG kZ) (by simpa using hi)) bQ
theorem HI{i:Int}(hi:i<0){R:Addr}{w:Str}{a:Addr}(OE:xF C a [.type "ValueError",.type "Exception",.type "BaseException",.type "object"] "ValueError.__new__")(hg:C.mg ("StatisticsError":Str)=some (.ref a)) :
 NE C n (aD (aY 5)) [(("x":Str),.int i),(("values":Str),.ptr R),(("errmsg":Str),.str w)] KV C.I (.ref a) w :=
 tG (b:=true) (aC (aH (aA rfl rfl) aG kZ) (by simpa using hi)) (lJ (uN _root_.PySem.F.excBase_ValueError OE rfl hg ∅ (aA rfl rfl)))
end
noncomputable def RU:List Stmt:=match aX (aY 45) with
 | [_,.While _ b _ _]=>b
 | _=>[]
noncomputable def KY:Stmt:=match RU with
 | [_,.Try [f] _ _ _ _]=>f
 | _=>.Pass ⟨0,0,0,0⟩
noncomputable def oE:PySem.Expr:=match KY with
 | .For _ (.Call _ (g::_) _ _) _ _ _=>g
 | _=>.Constant .none 0 ⟨0,0,0,0⟩
noncomputable def CG:PySem.Expr:=match oE with
 | .GeneratorExp e _ _ _=>e
 | _=>.Constant .none 0 ⟨0,0,0,0⟩
noncomputable def nM:Scope:=match oE with
 | .GeneratorExp _ _ s _=>s
 | _=>⟨.function,[],false,false,[]⟩
structure iB(C:Cx)(a:gU)(line:Str)(n:Nat)(fN:Addr)(w:Nat->Str)(pos:Nat->Nat)(N:Nat)(pE:Nat)(stE:D)(tokE:Str):Prop where
 word:∀i,i<N->Fc (C.turn (aK a line (pos i) (.str " ") "")) n fN pl [.ptr a.L] (aK a line (pos (i+1)) (.str " ") "") (.str (w i))
 fault:GK (C.turn (aK a line (pos N) (.str " ") "")) n fN pl [.ptr a.L] (aK a line pE stE tokE) (.type "ValueError") JU
 few:∀i,i<N->dR (w i)<=2
structure fM(C:Cx)(a:gU)(fN fI fS fG aS bm:Addr)(obm:Obj):Prop where
 cl:dK C.K a.CL
 nx:findIn C.K (.ref a.CL) "__next__"=some (some (.ref fN))
 nf:isFn C.K (.ref fN)=true
 it:findIn C.K (.ref a.CL) "__iter__"=some (some (.ref fI))
 itf:isFn C.K (.ref fI)=true
 iF:gI C fI (fH 34 9) pl ["self"]
 sF:gI C fS (aY 43) pl ["word","read"]
 gS:C.mg ("_law_step":Str)=some (.ref fS)
 nF:gI C fG (aY 5) pl ["values","errmsg"]
 gN:C.mg ("_fail_neg":Str)=some (.ref fG)
 oe:xF C aS [.type "ValueError",.type "Exception",.type "BaseException",.type "object"] "ValueError.__new__"
 gE:C.mg ("StatisticsError":Str)=some (.ref aS)
 se:subIn C.K (.ref aS) (.type "StopIteration")=some false
 bk:CF C bm obm
 b:Bs C
noncomputable def rd(w:Nat->Str)(i:Nat):List Str:=(List.range i).map w
theorem EA(w:Nat->Str)(i:Nat):rd w (i+1)=rd w i++[w i]:=by unfold rd;rwa[List.range_succ,List.map_append];rfl
theorem xG(w:Nat->Str)(i:Nat):(rd w i).length=i:=by simp[rd]
theorem RV{w:Nat->Str}{i:Nat}{x:Str}(h:x∈rd w i):∃k,k<i/\x=w k:=by
 rcases aL (List.mem_map.mp h) with k|hk|rfl
 exact⟨k,List.mem_range.mp hk,rfl⟩
noncomputable def vN(w:Nat->Str)(i:Nat):Int:=((rd w (i+1)).map jQ).sum
noncomputable def tP(a:gU)(line:Str)(w:Nat->Str)(pos:Nat->Nat)(R:Addr)(i:Nat):bX:=(aK a line (pos i) (.str " ") "").and (cO R (PD ((rd w i).map .str)))
noncomputable def VM(a:gU)(line:Str)(w:Nat->Str)(pos:Nat->Nat)(R:Addr)(i:Nat):bX:=(aK a line (pos (i+1)) (.str " ") "").and (cO R (PD ((rd w i).map .str)))
noncomputable def TQ(a:gU)(line:Str)(w:Nat->Str)(N pE:Nat)(stE:D)(tokE:Str)(R:Addr):bX:=(aK a line pE stE tokE).and (cO R (PD ((rd w N).map .str)))
noncomputable def xH(a:gU)(R:Addr)(b:Addr):Prop:=dH a b\/b=R
noncomputable def OY(a:gU)(R:Addr):List (Str×D):=[((".0":Str),.ptr a.L),(("read":Str),.ptr R)]
theorem qW:isSubtype (.type "ValueError") (.type "StopIteration")=pure false:=by rwa[isSubtype_type ..];kernel_rfl
section
variable{C:Cx}{n:Nat}{a:gU}{line:Str}{fN fI fS fG aS bm:Addr}{obm:Obj}{w:Nat->Str}{pos:Nat->Nat}{N pE:Nat}{stE:D}{tokE:Str}{R:Addr}
theorem EB(C:Cx){fI:Addr}(F:gI C fI (fH 34 9) pl ["self"]){a:Addr}:Fp C (n+1) fI pl [.ptr a] (.ptr a) :=
 DP F rfl ∅ (bV (bO (aA rfl rfl))) (.inl rfl)
theorem fM.turn(T:fM C a fN fI fS fG aS bm obm)(I:bX):fM (C.turn I) a fN fI fS fG aS bm obm:=⟨T.cl,T.nx,T.nf,T.it,T.itf,T.iF,T.sF,T.gS,T.nF,T.gN,T.oe,T.gE,T.se,⟨T.bk.hb,T.bk.ne,T.bk.k,T.bk.c,T.bk.d,T.bk.p⟩,⟨T.b.range,T.b.len,T.b.sum,T.b.max,T.b.min,T.b.sorted,T.b.type,T.b.str⟩⟩
theorem KZ{B:Heap}{X:Addr->Prop}{env2:Env}{lf:List Env}{A2 A3:Around}(LR:iB C a line n fN w pos N pE stE tokE)(TK:fM C a fN fI fS fG aS bm obm)(hn:8<=n)(hN:N<=20)(hR:¬dH a R)
 (hA3:A3=A2.over (.compLoop oE 0 (.ref a.L) .none env2) []) (hfr:A3.frames=some (env2::lf)) (hh:A3.handled=none) (hL:env2.frame=some env2.locals) (hLl:∀en∈lf,en.frame≠some env2.locals) (hsc:env2.scope=nM) (hbo:∀b,xH a R b->B.get? b=none)
 {s:Shared} (H:GH C n nM (OY a R) A3 B env2 X lf (tP a line w pos R 0) s.heap) :
 Seg C.M A2 (CD (xH a R) env2 lf (TQ a line w N pE stE tokE R) (.type "ValueError") JU) (tO C n nM (OY a R) A3 B env2 X lf (tP a line w pos R) (xH a R) (λi=>.int (vN w i)) N) N s
  (.compStart oE 0 (.ref a.L) .none env2) (C.M.den (.compStart oE 0 (.ref a.L) .none env2)) [] s:=by
 obtain⟨m,rfl⟩:∃m,n=m+1:=⟨n-1,by lia⟩
 have hd:∀P (b:Addr),(cO R P).own b->¬dH a b:=λP b q=>by
  have:b=R:=q
  rwa[this];exact hR
 have inst:∀i,cQ (C.turn (tP a line w pos R i)) 60 a.L a.dL a.CL (rT a (.str " ") ""):=λi=>⟨λh H=>H.1.l,TK.cl⟩
 refine xC (elt:=CG) (x:="word") (I0:=tP a line w pos R 0) (ow:=xH a R) hA3 (λs Q E O h=>?_) H (GS.refl _ _ _) λs H g=>?_
 . exact vM (C:=C.turn (tP a line w pos R 0)) O (inst 0) TK.it TK.itf TK.nx (EB (C.turn (tP a line w pos R 0)) TK.iF) h
 refine OV (N:=N) (elt:=CG) (x:="word") (Ia:=tP a line w pos R) (Ib:=VM a line w pos R) (IE:=TQ a line w N pE stE tokE R) (ow:=xH a R) (vals:=λi=>.int (vN w i)) (wd:=λi=>.str (w i)) (T:="ValueError") (txt:=JU) hA3 hfr hL hLl rfl hsc hbo (λ_=>rfl) (λ_=>rfl) rfl (λ_=>rfl) rfl (λi hi s Q E O bo h=>?_) (λi hi=>?_) (λs Q E O bo fo h=>?_) N 0 _ s (by exact Nat.add_comm ..) H g
 . refine HE (C:=C.turn (tP a line w pos R i)) (J:=VM a line w pos R i) O bo (inst i) TK.nx TK.nf ?_ (fR.and dY) h
   exact (LR.word i hi).frame (J:=cO R (PD ((rd w i).map .str))) (hd _)
 . have key:=OS (C:=C.turn (VM a line w pos R i)) (n:=m) (I:=aK a line (pos (i+1)) (.str " ") "") (R:=R) (ws:=rd w i) (w:=w i) TK.sF ⟨TK.b.range,TK.b.len,TK.b.sum,TK.b.max,TK.b.min,TK.b.sorted,TK.b.type,TK.b.str⟩ rfl hR (λq=>q) (by rwa[xG ..];lia) (λx hx=>?_) (by lia)
   . rw[←EA] at key
     exact KS (J:=tP a line w pos R (i+1)) TK.sF rfl TK.gS ∅ (fR.and dY) (aF (aA rfl rfl) (bY (aA rfl rfl))) key
   . rw[←EA] at hx
     rcases aL (RV hx) with k|hk|rfl
     exact LR.few k (by exact Nat.lt_of_lt_of_le (by assumption) (by assumption))
 . refine zM (C:=C.turn (tP a line w pos R N)) (I:=TQ a line w N pE stE tokE R) O bo (inst N) TK.nx TK.nf ?_ hh hfr fo qW h
   exact LR.fault.frame (J:=cO R (PD ((rd w N).map .str))) (hd _)
end
theorem St.watch{C:Cx}{sc:Scope}{δ:List (Str×D)}{B:Heap}{env:Env}{X:Addr->Prop}{h:Heap}{J:bX}(S:St C sc B env X h δ)(ho:∀b,J.own b->C.I.own b):St (C.turn J) sc B env X h δ:=by
 obtain ρ|F|V:=aL S
 rcases nU F.base with G|k0|hL|hC
 exact⟨ρ,⟨⟨⟨G.k,G.g,G.b,G.nl⟩,k0,⟨hL.1,λq=>hL.2 (ho _ q)⟩,λy c z=>⟨(hC y c z).1,λq=>(hC y c z).2 (ho _ q)⟩⟩,F.scope,F.kind,F.globals,F.builtins,F.ns,F.cells,F.inj,F.allc⟩,V⟩
theorem iE.two{h h':Heap}{c P:Addr}{ps:Array Value}(x:iE h c P ps)(kc:∀o,h.get? c=some o->(∀es ep,o.data≠.dict es ep)->h'.get? c=some o)(kP:∀o,h.get? P=some o->(∀es ep,o.data≠.dict es ep)->h'.get? P=some o):iE h' c P ps :=
 x.fld λb o vs z e d=>z.elim (λz=>by subst z;exact kc o e λ_ _ w=>by injection tq d w) λz=>by subst z;exact kP o e λ_ _ w=>by injection tq d w
noncomputable def xO(w:Nat->Str)(i:Nat):List D:=(List.range i).map λk=>.int (vN w k)
noncomputable def uO(a:gU)(line:Str)(R Kp:Addr)(ts:List D):List (Str×D):=[(("kept":Str),.ptr Kp),(("read":Str),.ptr R),(("trees":Str),.list ts),(("lexer":Str),.ptr a.L),(("line":Str),.str line)]
noncomputable def zR(a:gU)(line:Str)(w:Nat->Str)(pos:Nat->Nat)(N pE:Nat)(stE:D)(tokE:Str)(R aS:Addr)(j1:Nat)(IE1:bX)(cls1:Value)(txt1:Str):Prop :=
 (j1<N/\vN w j1<0/\IE1=tP a line w pos R (j1+1)/\cls1=.ref aS/\txt1="whole")\/(j1=N/\IE1=TQ a line w N pE stE tokE R/\cls1=.type "ValueError"/\txt1=JU)
section
variable{C:Cx}{n:Nat}{a:gU}{line:Str}{fN fI fS fG aS bm:Addr}{obm:Obj}{w:Nat->Str}{pos:Nat->Nat}{N pE:Nat}{stE:D}{tokE:Str}{R Kp:Addr}
noncomputable def xP(C:Cx)(n:Nat)(a:gU)(line:Str)(w:Nat->Str)(pos:Nat->Nat)(N pE:Nat)(stE:D)(tokE:Str)(R:Addr)(A:Around)(B:Heap)(X:Addr->Prop)(env2 envF:Env)(lt:List Env)(G2:Addr)(g2:Nat):GP where
 C:=C
 n:=n
 B:=B
 X:=X
 sc2:=nM
 δ2:=OY a R
 A3:=(A.in1.over (.func (aX (aY 5)) envF) []).in1.over (.compLoop oE 0 (.ref a.L) .none env2) []
 env2:=env2
 scF:=aD (aY 5)
 δF:=[(("values":Str),.ptr G2),(("errmsg":Str),.str "whole")]
 AF:=A.in1.over (.func (aX (aY 5)) envF) []
 envF:=envF
 lt:=lt
 Ia:=tP a line w pos R
 ow:=xH a R
 IE:=TQ a line w N pE stE tokE R
 T:="ValueError"
 txt:=JU
 vals:=λi=>.int (vN w i)
 N:=N
 G2:=G2
 g2:=g2
theorem LA{A:Around}{B:Heap}{X:Addr->Prop}{env2 envF:Env}{lt:List Env}{G2:Addr}{g2 j1:Nat}{IE1:bX}{cls1:Value}{txt1:Str}(K:IF (xP C n a line w pos N pE stE tokE R A B X env2 envF lt G2 g2))(TK:fM C a fN fI fS fG aS bm obm)(hj1:j1<=N)
 (pass:∀j,j<j1->0<=vN w j) (hE:zR a line w pos N pE stE tokE R aS j1 IE1 cls1 txt1) {s:Shared} (P:P1 (xP C n a line w pos N pE stE tokE R A B X env2 envF lt G2 g2) 0 s) :
 Seg C.M A.in1 ((xP C n a line w pos N pE stE tokE R A B X env2 envF lt G2 g2).R1 IE1 cls1 txt1) ((xP C n a line w pos N pE stE tokE R A B X env2 envF lt G2 g2).Y1 j1) j1 s (.func (aX (aY 5)) envF) (C.M.den (.func (aX (aY 5)) envF)) [] s:=by
 refine xD (p:=xP C n a line w pos N pE stE tokE R A B X env2 envF lt G2 g2) (stI:=KV) (bodyF:=aX (aY 5)) K rfl rfl rfl rfl rfl (λ_=>rfl) rfl rfl (λj hj=>?_) ?_ j1 0 s (by exact Nat.add_comm ..) P
 . exact KW (pass j hj)
 . rcases hE with⟨h1,h2,rfl,rfl,rfl⟩ | ⟨rfl,rfl,rfl,rfl⟩
   . exact .inl ⟨h1,HI (C:=C.turn (tP a line w pos R (j1+1))) h2 TK.oe TK.gE⟩
   . exact .inr ⟨rfl,rfl,rfl,rfl⟩
end
section
variable{C:Cx}{n:Nat}{a:gU}{line:Str}{fN fI fS fG aS bm:Addr}{obm:Obj}{w:Nat->Str}{pos:Nat->Nat}{N pE:Nat}{stE:D}{tokE:Str}{R Kp:Addr}
noncomputable abbrev xQ(a:gU)(line:Str)(w:Nat->Str)(pos:Nat->Nat)(R Kp:Addr):bX:=(tP a line w pos R 0).and (cO Kp (PD []))
theorem LB(LR:iB C a line n fN w pos N pE stE tokE)(TK:fM C a fN fI fS fG aS bm obm)(hn:8<=n)(hN:N<=20)(hR:¬dH a R)(hK:¬xH a R Kp){A:Around}{B:Heap}{env:Env}{X:Addr->Prop}{s:Shared}{l:List Env}{ts:List D}{c P:Addr}{j1:Nat}{IE1:bX}{cls1:Value}{txt1:Str}
 (O:Ok (C.turn (xQ a line w pos R Kp)) (n+1) (aD (aY 45)) (uO a line R Kp ts) A B env X s.heap) (bo:∀b,xH a R b\/b=Kp->B.get? b=none) (S:xN (xQ a line w pos R Kp) A env l s.heap) (hcode:env.code=.ref c) (hok:∃ps,iE s.heap c P ps) (hPB:B.get? P=none) (hPo:¬xH a R P/\P≠Kp)
 (hj1:j1<=N) (pass:∀j,j<j1->0<=vN w j) (hE:zR a line w pos N pE stE tokE R aS j1 IE1 cls1 txt1)
 {Q:Value->Shared->Prop} {E:Value->Shared->Prop} {gp np cp p1:Pos} {k:Nat} {e0:PySem.Expr} (he0:e0=.Call (.Name "_fail_neg" np) [oE,.Constant (.str "whole") k p1] [] cp)
 (h:∀(env2 envF:Env) (G1 G2:Addr) (h3:Heap) (tk3:Tok) (gs3:Array GenState),IF (xP C n a line w pos N pE stE tokE R A B X env2 envF (env::l) G2 s.gens.size) ->
  zN (xP C n a line w pos N pE stE tokE R A B X env2 envF (env::l) G2 s.gens.size) Kp env.locals->¬xH a R G1 ->
  Ok (C.turn (xQ a line w pos R Kp)) (n+1) (aD (aY 45)) (uO a line R Kp ts) A B env X h3 ->
  P1 (xP C n a line w pos N pE stE tokE R A B X env2 envF (env::l) G2 s.gens.size) 0 {s with heap:=h3,toks:=tk3,gens:=gs3} ->
  xE (xP C n a line w pos N pE stE tokE R A B X env2 envF (env::l) G2 s.gens.size) j1 IE1 cls1 txt1 A G1 (s.gens.size+1) 0 {s with heap:=h3,toks:=tk3,gens:=gs3} ->
  (∃ps,iE h3 c P ps)->(∀b o,b≠P->s.heap.get? b=some o->h3.get? b=some o)->s.heap.get? env2.locals=none->s.heap.get? envF.locals=none->P≠env2.locals->P≠envF.locals->oD s.gens gs3 ->
  Q (.ref G1) {s with heap:=h3,toks:=tk3,gens:=gs3}) :
 wpAny C.M A (eval e0 env) Q E s:=by
 subst he0
 obtain ps0|hok:=aU hok
 rcases iG TK.nF with obG|fdG|hKG|hdG|_
 rcases eU O.dict with dEx|dES|dEP|dE1|dE2
 have hR':R≠P:=λz=>hPo.1 (.inr z.symm)
 have T0:lI (xQ a line w pos R Kp) (xQ a line w pos R Kp):=(fR.and dY).and dY
 have bo0:Bo (C.turn (xQ a line w pos R Kp)) B:=λb q=>bo b q
 refine wpAny_Call_ofName (cA (C:=C.turn (xQ a line w pos R Kp)) O rfl TK.gN ∅ ?_)
 refine callWith_function (o:=obG) (fd:=fdG) ?_
 refine evalArgs_plain ?_
 show wpAny _ _ (spliced (backTo cp (starEach [oE,.Constant (.str "whole") k p1] env))) _ _ _
 have room:A.depth<recursionLimit:=by have:=O.rm.d;show A.depth<1000;lia
 refine wpAny_items_cons (zP (C:=C.turn (xQ a line w pos R Kp)) (n:=n+1) (sc:=aD (aY 45)) (δ:=uO a line R Kp ts) (elt:=CG) (x:="word") (lname:="lexer") (L:=a.L) O S.hh room T0 bo0 rfl rfl ∅ ∅ (λs Q E O h=>?_) rfl ∅ rfl rfl ∅ hcode hok hPB (λz=>z.elim hPo.1 hPo.2) (TK.turn _).bk λG2 env2 h1 tk1 sc2 fr2 cl2 ig2 nG2 nL2 ic1 k1 O1 St2=>?_) rfl
 . exact vM (C:=C.turn (xQ a line w pos R Kp)) (k:=60) (x:=a.L) (dx:=a.dL) (Cl:=a.CL) (fs:=rT a (.str " ") "") O ⟨λh H=>H.1.1.l,TK.cl⟩ TK.it TK.itf TK.nx (EB (C.turn (xQ a line w pos R Kp)) TK.iF) h
 obtain ps1|ic1:=aU ic1
 refine (bY (C:=C.turn (xQ a line w pos R Kp)) (n:=n+1) (sc:=aD (aY 45)) (δ:=uO a line R Kp ts) aT).go A B env X cp _ _ _ O1 λvs s2 k2 r2=>?_
 have O2:=O1.on k2
 refine⟨⟨O2.gl.k _ _ hKG,hdG⟩,?_⟩
 revert r2 O2;refine kE k2 ?_;clear k2;intro h2 tk2 k2 r2 O2
 have k12:∀b o,b≠P->s.heap.get? b=some o->h2.get? b=some o:=λb o z e=>k2 b o (k1 b o z e)
 refine KU (C:=C.turn (xQ a line w pos R Kp)) (ds:=[.ptr G2,.str "whole"]) TK.nF rfl ∅ (λ_=>rfl) O2 (.cons (.ptr G2) r2) λG1 envF h3 tk3 scF frF clF ig1 nG1 nLF k3 StF=>?_
 rcases aL (GP.code_notSeq ic1) with oP|eP|dP
 have eP2:h2.get? P=some oP:=k2 _ _ eP
 have back:∀b,h2.get? b=none->s.heap.get? b=none:=λb e=>by
  cases q:s.heap.get? b with
  | none=>rfl
  | some o =>
   by_cases z:b=P
   . replace e:=eP2▸z▸e;injection e
   . injection tq (k12 b o z q) e
 have nLF0:s.heap.get? envF.locals=none:=back _ nLF
 have nG10:s.heap.get? G1=none:=back _ nG1
 have ownThere:∀b,xH a R b->∃o,s.heap.get? b=some o:=λb q=>(xQ a line w pos R Kp).dom _ _ O.iv (.inl q)
 have k13:∀b o,h1.get? b=some o->h3.get? b=some o:=λb o e=>k3 b o (k2 b o e)
 have up:∀b o,b≠P->s.heap.get? b=some o->h3.get? b=some o:=λb o z e=>k13 b o (k1 b o z e)
 have O3:Ok (C.turn (xQ a line w pos R Kp)) (n+1) (aD (aY 45)) (uO a line R Kp ts) A B env X h3:=O2.keeps k3
 have St2':=St2.keeps k13
 obtain⟨o2,es2,ep2,d21,d22⟩:∃o es ep,h1.get? env2.locals=some o/\o.data=.dict es ep:=by
  obtain ρ|F|_:=aL St2
  rcases aL F.ns with m|q_0|_;obtain o|es|ep|e1|e2|_:=nV q_0
  exact⟨o,es,ep,e1,e2⟩
 have ne2F:env2.locals≠envF.locals:=λz=>by rw[←z,k2 _ _ d21] at nLF;injection nLF
 have frThere:∀en∈env::l,∀L,en.frame=some L->∃o es ep,s.heap.get? L=some o/\o.data=.dict es ep:=λen he L hL=>by
  cases he with
  | head=>have h_:=sx S.fr hL;clear hL;subst h_;exact⟨_,_,_,dE1,dE2⟩
  | tail _ he =>
   rcases bW (S.ok en he) with kk|q_0;obtain L'|o|es|ep|w1|w2|w3|w4:=uS q_0
   have h_:=sx hL w1;clear w1;subst h_;exact⟨_,_,_,w3,w4⟩
 have cellThere:∀x d,env2.cells.lookup x=some d->∃o v,s.heap.get? d=some o/\o.data=.cell v:=λx d e=>by
  rcases aL O.st with ρ|F|_
  rcases dZ (F.allc x d (cl2 x d e)) with v|o|q1|q2
  exact⟨o,v,q1,q2⟩
 have XK:X Kp:=O.ox Kp (.inr rfl)
 have envB:B.get? env.locals=none:=let ⟨_,F,_⟩:=O.st;F.base.2.2.1.1
 have envO:¬(xQ a line w pos R Kp).own env.locals:=let ⟨_,F,_⟩:=O.st;F.base.2.2.1.2
 have rmF:Rm n (A.in1.over (.func (aX (aY 5)) envF) []):=⟨by have:=O.rm.d;show A.depth+0+1+2*n<720;lia,by have:=O.rm.u;show A.units+1+0+3+8*n<9000;lia,λ_=>S.hh⟩
 have rm3:Rm n ((A.in1.over (.func (aX (aY 5)) envF) []).in1.over (.compLoop oE 0 (.ref a.L) .none env2) []):=⟨by have:=O.rm.d;show A.depth+0+1+0+1+2*n<720;lia,by have:=O.rm.u;show A.units+1+0+3+1+0+3+8*n<9000;lia,λ_=>S.hh⟩
 have frF':(A.in1.over (.func (aX (aY 5)) envF) []).frames=some (envF::env::l):=by
  show (A.frames).map (λx=>[envF]++x)=_
  rwa[S.fs];rfl
 have fr3:((A.in1.over (.func (aX (aY 5)) envF) []).in1.over (.compLoop oE 0 (.ref a.L) .none env2) []).frames=some (env2::envF::env::l):=by
  show ((A.in1.over (.func (aX (aY 5)) envF) []).frames).map (λx=>[env2]++x)=_
  rwa[frF'];rfl
 obtain⟨p,hp⟩:∃p,p=xP C n a line w pos N pE stE tokE R A B X env2 envF (env::l) G2 s.gens.size:=⟨_,rfl⟩
 have K:IF p:=by
  rwa[hp]
  refine⟨λ_=>rfl,λb q=>bo b (.inl q),λ_=>fR.and dY,λ_=>fR.and dY,S.hh,S.hh,frF',frF,fr2,?_,ne2F,λen he z=>?_,λen he z=>?_,clF,λx d e z=>?_,λq=>?_,qW⟩
  . have:=rmF.d
    show (A.in1.over (.func (aX (aY 5)) envF) []).depth<1000;lia
  . rcases eU (frThere en he _ z) with o|_|_|q|_
    have q:s.heap.get? env2.locals=some o:=q
    injection tq nL2 q
  . rcases eU (frThere en he _ z) with o|_|_|q|_
    have q:s.heap.get? envF.locals=some o:=q
    injection tq nLF0 q
  . rcases dZ (cellThere x d e) with o|v|q|_
    replace q:=nLF0▸(show d=envF.locals from z)▸q;injection q
  . rcases aU (ownThere _ q) with o|e
    have e:s.heap.get? G2=some o:=e
    injection tq nG2 e
 have W:zN p Kp env.locals:=by
  rwa[hp]
  refine⟨XK,bo Kp (.inr rfl),hK,envB,λq=>envO (.inl q),λz=>?_,λz=>?_,λx d e=>⟨λz=>?_,λz=>?_⟩⟩
  . have z:env.locals=env2.locals:=z
    replace dE1:=nL2▸z▸dE1;injection dE1
  . have z:env.locals=envF.locals:=z
    replace dE1:=nLF0▸z▸dE1;injection dE1
  . rcases aL O.st with _|F|_
    exact (F.base.2.2.2 x d (cl2 x d e)).2 (.inr z)
  . rcases dZ (cellThere x d e) with o|v|q1|q2
    replace q1:=dE1▸z▸q1;obtain rfl:=Option.some.inj q1
    injection tq dE2 q2
 obtain⟨s3,hs3⟩:∃s3:Shared,s3={s with heap:=h3,toks:=tk3,gens:=(s.gens.push (.fresh (.compStart oE 0 (.ref a.L) .none env2))).push (.fresh (.func (aX (aY 5)) envF))}:=⟨_,rfl⟩
 have fo3:dO (tP a line w pos R 0) (env::l) h3:=λen he=>by
  have:∃L o es ep,en.scope.kind≠.module/\en.frame=some L/\¬(tP a line w pos R 0).own L/\s.heap.get? L=some o/\o.data=.dict es ep:=by
   cases he with
   | head=>exact⟨_,_,_,_,(by rcases aL O.st with _|F|_;rwa[F.scope,F.kind];intro z;injection z),S.fr,λq=>envO (.inl q),dE1,dE2⟩
   | tail _ he =>
    rcases bW (S.ok en he) with kk|q_0;obtain L'|o|es|ep|w1|w2|w3|w4:=uS q_0
    exact⟨_,_,_,_,kk,w1,λq=>w2 (.inl q),w3,w4⟩
  obtain L|o|es|ep|q0|q1|q2|q3|q4:=YI this
  exact⟨q0,L,o,es,ep,q1,q2,up L o (λz=>by replace q3:=z▸q3;rcases aL (GP.code_notSeq hok) with oP'|e'|d';replace q3:=e'▸q3;cases q3;injection tq d' q4) q3,q4⟩
 have okF:Ok (C.turn (tP a line w pos R 0)) n (aD (aY 5)) [(("values":Str),.ptr G2),(("errmsg":Str),.str "whole")] (A.in1.over (.func (aX (aY 5)) envF) []) B envF X h3 :=
  ⟨rmF,.inl S.hh,O3.xo,O3.iv.1,λb q=>O3.ox b (.inl q),StF.watch (J:=tP a line w pos R 0) λb q=>.inl q⟩
 have gh2:GH C n nM (OY a R) ((A.in1.over (.func (aX (aY 5)) envF) []).in1.over (.compLoop oE 0 (.ref a.L) .none env2) []) B env2 X (envF::env::l) (tP a line w pos R 0) h3:=by
  refine⟨⟨rm3,.inl S.hh,O3.xo,O3.iv.1,λb q=>O3.ox b (.inl q),?_⟩,λen he=>?_⟩
  . have:=St2'.watch (J:=tP a line w pos R 0) λb q=>.inl q
    exact this
  . cases he with
    | head =>
     rcases aL okF.st with ρ|F|_
     rcases aL F.ns with m|q_0|_;obtain o|es|ep|e1|e2|_:=nV q_0
     exact⟨(by rwa[F.scope,F.kind];intro z;injection z),_,o,es,ep,frF,F.base.2.2.1.2,e1,e2⟩
    | tail _ he=>exact fo3 en he
 have ig2':h3.IsGen G2 s.gens.size:=ig2.keeps k13
 have P:P1 p 0 s3:=by
  rwa[hp,hs3]
  refine⟨okF,fo3,gh2,ig2',.fresh (.compStart oE 0 (.ref a.L) .none env2),?_,λs'' H''=>⟨rfl,?_⟩⟩
  . show ((s.gens.push _).push _)[s.gens.size]?=_
    rwa[Array.getElem?_push_lt (by refine zl (Array.size_push ..) ?_;exact Nat.lt_succ_self _)]
    simp
  . exact KZ LR TK hn hN hR rfl fr3 S.hh fr2 (λen he z=>by
     cases he with
     | head=>replace z:=frF▸z;exact ne2F (Option.some.inj z).symm
     | tail _ he=>rcases eU (frThere en he _ z) with o|_|_|q|_;injection tq nL2 q) sc2 (λb q=>bo b (.inl q)) H''
 have G:xE p j1 IE1 cls1 txt1 A G1 (s.gens.size+1) 0 s3:=by
  rw[hp] at K ⊢
  rwa[hs3]
  refine⟨by have:=ig1;rw[Array.size_push] at this;exact this,.fresh (.func (aX (aY 5)) envF),?_,λs'' P''=>⟨rfl,?_⟩⟩
  . show ((s.gens.push _).push _)[s.gens.size+1]?=_
    rwa[show s.gens.size+1=(s.gens.push (.fresh (.compStart oE 0 (.ref a.L) .none env2))).size from by refine zl (Array.size_push ..) ?_;rfl]
    exact Array.getElem?_push_size
  . exact LA K TK hj1 pass hE P''
 have nG1o:¬xH a R G1:=λq=>by
  rcases aU (ownThere _ q) with o|e
  injection tq nG10 e
 have kJ:=h env2 envF G1 G2 h3 tk3 ((s.gens.push (.fresh (.compStart oE 0 (.ref a.L) .none env2))).push (.fresh (.func (aX (aY 5)) envF))) (by rwa[←hp];exact K) (by rwa[←hp];exact W) nG1o O3 (by rwa[←hp,←hs3];exact P) (by rwa[←hp,←hs3];exact G) ⟨ps1,ic1.keeps k13⟩ up nL2 nLF0
  (λz=>by replace d21:=eP▸z.symm▸d21;obtain rfl:=Option.some.inj d21;injection tq dP d22) (λz=>by rw[←z,eP2] at nLF;injection nLF) (λhb y hy=>?_)
 . exact kJ
 . rcases Array.mem_push.mp hy with hy | rfl
   . rcases Array.mem_push.mp hy with hy | rfl
     . exact hb y hy
     . rfl
   . rfl
end
section
variable{C:Cx}{n:Nat}{a:gU}{line:Str}{fN fI fS fG aS bm:Addr}{obm:Obj}{w:Nat->Str}{pos:Nat->Nat}{N pE:Nat}{stE:D}{tokE:Str}{R Kp:Addr}
theorem zR.turn{j1:Nat}{IE1:bX}{cls1:Value}{txt1:Str}(hE:zR a line w pos N pE stE tokE R aS j1 IE1 cls1 txt1):lI (tP a line w pos R j1) IE1:=by
 rcases hE with⟨_,_,rfl,_⟩ | ⟨_,rfl,_⟩<;>exact fR.and dY
theorem zR.sub(TK:fM C a fN fI fS fG aS bm obm){j1:Nat}{IE1:bX}{cls1:Value}{txt1:Str}(hE:zR a line w pos N pE stE tokE R aS j1 IE1 cls1 txt1):∀h,C.K.In h->Looks C.M h (isSubtype cls1 (.type "StopIteration")) false:=by
 intro h hK
 rcases hE with⟨_,_,_,rfl,_⟩ | ⟨_,_,rfl,_⟩
 . exact looks_subIn hK TK.se
 . exact Looks.of_pure qW
structure CH(C:Cx)(a:gU)(line:Str)(w:Nat->Str)(R Kp:Addr)(ts:List D)(B:Heap)(env:Env)(X:Addr->Prop)(s:Heap)(l:List Env)(c P:Addr)(j1:Nat)(IE1:bX)(cls1:Value)(txt1:Str)(e t:Addr)(tk:Tok)(h2:Heap):Prop where
 fly:∃tb fl,iI (λb=>xH a R b\/b=Kp\/b=env.locals\/b=P) IE1 (env::l) s e t cls1 [.str txt1 tk] tb fl h2
 code:∃ps,iE h2 c P ps
 ok:∀(A':Around) (n':Nat),Rm n' A'->A'.handled=some (.ref e)->Ok (C.turn (IE1.and (cO Kp (PD (xO w j1))))) n' (aD (aY 45)) (uO a line R Kp ts) A' B env X h2
theorem LC(LR:iB C a line n fN w pos N pE stE tokE)(TK:fM C a fN fI fS fG aS bm obm)(hn:8<=n)(hN:N<=20)(hR:¬dH a R)(hK:¬xH a R Kp){A:Around}{B:Heap}{env:Env}{X:Addr->Prop}{s:Shared}{l:List Env}{ts:List D}{c P:Addr}{j1:Nat}{IE1:bX}{cls1:Value}{txt1:Str}
 (O:Ok (C.turn (xQ a line w pos R Kp)) (n+1) (aD (aY 45)) (uO a line R Kp ts) A B env X s.heap) (bo:∀b,xH a R b\/b=Kp->B.get? b=none) (S:xN (xQ a line w pos R Kp) A env l s.heap) (hlB:∀b,oX (env::l) b->B.get? b=none)
 (hcode:env.code=.ref c) (hok:∃ps,iE s.heap c P ps) (hPB:B.get? P=none) (hcB:∃o,B.get? c=some o) (hPo:¬xH a R P/\P≠Kp)
 (hj1:j1<=N) (pass:∀j,j<j1->0<=vN w j) (hE:zR a line w pos N pE stE tokE R aS j1 IE1 cls1 txt1)
 {Q:Flow->Shared->Prop} {E:Value->Shared->Prop}
 (h:∀(e t:Addr) (tb:Value) (tk:Tok) (h':Heap) (tk':Tok) (gs:Array GenState) (Z0:Addr->Prop) (s0:Heap),iI Z0 IE1 (env::l) s0 e t cls1 [.str txt1 tk] tb (some (rawInt env.locals)) h' ->
  (∀tb2 fl2 h2,iI Z0 IE1 (env::l) s0 e t cls1 [.str txt1 tk] tb2 fl2 h2->CH C a line w R Kp ts B env X s.heap l c P j1 IE1 cls1 txt1 e t tk h2)->oD s.gens gs->E (.ref e) {s with heap:=h',toks:=tk',gens:=gs}) :
 wpAny C.M A (exec KY env) Q E s:=by
 rcases eU O.dict with dEx|dES|dEP|dE1|dE2
 rcases aU (id hok) with ps0|hok0
 rcases aL (GP.code_notSeq hok0) with oP0|eP0|dP0
 have PneL:P≠env.locals:=λz=>by replace eP0:=dE1▸z▸eP0;obtain rfl:=Option.some.inj eP0;injection tq dE2 dP0
 have envB:B.get? env.locals=none:=let ⟨_,F,_⟩:=O.st;F.base.2.2.1.1
 have room:A.depth<recursionLimit:=by have:=O.rm.d;show A.depth<1000;lia
 show wpAny _ _ (exec (.For (.Name "number" _) (.Call (.Name "_fail_neg" _) [oE,.Constant (.str "whole") _ _] [] _) [.Expr (.Call (.Attribute (.Name "kept" _) "append" _) [.Name "number" _] [] _) _] [] _) env) _ _ _
 refine wpAny_For (LB (gp:=⟨0,0,0,0⟩) LR TK hn hN hR hK O bo S hcode hok hPB hPo hj1 pass hE rfl λenv2 envF G1 G2 h3 tk3 gs3 K W g1o O3 P3 G3 ic3 up nL2 nLF Pne2 PneF hb3=>?_)
 refine wpAny_pyIter_gen G3.isg ?_
 obtain⟨q,hq⟩:∃q:TP,q={p:=xP C n a line w pos N pE stE tokE R A B X env2 envF (env::l) G2 s.gens.size,j1:=j1,IE1:=IE1,cls1:=cls1,txt1:=txt1,nT:=n+1,scT:=aD (aY 45),δT:=uO a line R Kp ts,A0:=A,envT:=env,l:=l,G1:=G1,g1:=s.gens.size+1,Kp:=Kp,ks:=xO w}:=⟨_,rfl⟩
 have T:UR q:=by
  rwa[hq]
  refine⟨K,W,rfl,Nat.succ_ne_self _,room,hE.sub TK,g1o,hlB,S.hh,S.fs,S.fr,λj=>?_,λj hj=>?_,λ_=>rfl,λj b z=>?_⟩
  . show (List.range (j+1)).map _=_
    rwa[List.range_succ,List.map_append];rfl
  . show ((List.range j).map _).length<=1000
    have hj:j<=j1:=hj
    rwa[List.length_map ..,List.length_range];lia
  . rcases z with z | z
    . exact z.elim
    . exact .inr z
 have J0:JT q 0 {s with heap:=h3,toks:=tk3,gens:=gs3}:=by rwa[hq];exact⟨O3,P3,G3⟩
 have key:=HG (q:=q) (R:=λr s'=>match r with | .ok f=>Q f s' | .error e=>cameBackBy C.M A env E e s') (px:=⟨825,16,825,22⟩) (npos:=⟨826,28,826,34⟩) (kpos:=⟨826,16,826,20⟩) (apos:=⟨826,16,826,27⟩) (cpos:=⟨826,16,826,35⟩) (epos:=⟨826,16,826,35⟩) T (by rwa[hq];rfl) (by rwa[hq];rfl) (by rwa[hq];rfl) (by rwa[hq];rfl) ∅ (Nat.zero_le _) J0 λsj e t tb tk h' tk' gs J g F hb=>?_
 . replace key:=hq▸key;exact key
 . replace J:=hq▸J;replace g:=hq▸g;replace F:=hq▸F
   have F:iI (xP C n a line w pos N pE stE tokE R A B X env2 envF (env::l) G2 s.gens.size).Z1 IE1 (env::l) sj.heap e t cls1 [.str txt1 tk] tb (some (rawInt env.locals)) h':=F
   have okt:Ok (C.turn ((tP a line w pos R j1).and (cO Kp (PD (xO w j1))))) (n+1) (aD (aY 45)) (uO a line R Kp ts) A B env X sj.heap:=J.okt
   rcases aL okt.iv.2 with vs|q_0|pd;obtain nn|kl:=aU q_0
   obtain⟨o2,es2,ep2,e2,d2⟩:∃o es ep,sj.heap.get? env2.locals=some o/\o.data=.dict es ep:=P1.dict2 J.p1.gh2
   obtain⟨oF,esF,epF,eF,dF⟩:∃o es ep,sj.heap.get? envF.locals=some o/\o.data=.dict es ep:=P1.dictF J.p1.okf
   have B2:B.get? env2.locals=none:=let ⟨_,F,_⟩:=J.p1.gh2.ok.st;F.base.2.2.1.1
   have BF:B.get? envF.locals=none:=let ⟨_,F,_⟩:=J.p1.okf.st;F.base.2.2.1.1
   have zB:∀b,(xP C n a line w pos N pE stE tokE R A B X env2 envF (env::l) G2 s.gens.size).Z1 b->B.get? b=none:=λb z=>by
    rcases z with z | z | z
    . exact bo b (.inl z)
    . rwa[show b=env2.locals from z];exact B2
    . rwa[show b=envF.locals from z];exact BF
   have nK:¬(xP C n a line w pos N pE stE tokE R A B X env2 envF (env::l) G2 s.gens.size).Z1 Kp:=λz=>by
    rcases z with z | z | z
    . exact hK z
    . rw[show Kp=env2.locals from z,e2] at kl;obtain rfl:=Option.some.inj kl;injection d2
    . rw[show Kp=envF.locals from z,eF] at kl;obtain rfl:=Option.some.inj kl;injection dF
   have nP:¬(xP C n a line w pos N pE stE tokE R A B X env2 envF (env::l) G2 s.gens.size).Z1 P:=λz=>by
    rcases z with z | z | z
    . exact hPo.1 z
    . exact Pne2 z
    . exact PneF z
   obtain oc|hoc:=aU hcB
   have nc:¬(xP C n a line w pos N pE stE tokE R A B X env2 envF (env::l) G2 s.gens.size).Z1 c:=λz=>by injection tq (zB c z) hoc
   obtain hj|tkj|gsj|rfl|kj|bj:=nV g
   have kj:∀b o,¬((xP C n a line w pos N pE stE tokE R A B X env2 envF (env::l) G2 s.gens.size).Z1 b\/b=Kp\/b=env.locals)->h3.get? b=some o->hj.get? b=some o:=kj
   obtain ps3|ic3:=aU ic3
   refine iI.cameBack (s:={s with heap:=h',toks:=tk',gens:=gs}) S.fr F λh4 F4=>?_
   refine h e t tb tk h4 tk' gs _ _ F4 (λtb2 fl2 h2 F2=>?_) (λhb0=>hb (bj (hb3 hb0)))
   have iK:IE1.inv h2/\∃vs,h2.PlainList Kp vs/\PD (xO w j1) vs.toList:=⟨F2.iv,vs,⟨nn,F2.notDict nK kl λ_ _ z=>by injection z⟩,pd⟩
   refine⟨⟨tb2,fl2,F2.from (λb o z q=>?_) (λ_ _ _ _ w=>w) λ_ w=>w⟩,⟨ps3,?_⟩,λA' n' rm' hA'=>?_⟩
   . have z1:¬(xP C n a line w pos N pE stE tokE R A B X env2 envF (env::l) G2 s.gens.size).Z1 b:=λy=>by
      rcases y with y | y | y
      . exact z (.inl y)
      . replace q:=nL2▸(show b=env2.locals from y)▸q;injection q
      . replace q:=nLF▸(show b=envF.locals from y)▸q;injection q
     exact⟨z1,kj b o (λy=>y.elim z1 λy=>y.elim (λy=>z (.inr (.inl y))) λy=>z (.inr (.inr (.inl y)))) (up b o (λy=>z (.inr (.inr (.inr y)))) q)⟩
   . refine iE.two ic3 (λo q d=>?_) (λo q d=>?_)
     . refine F2.notDict nc (kj c o (λy=>y.elim nc λy=>y.elim (λy=>?_) λy=>?_) q) d
       . replace hoc:=(bo Kp (.inr rfl))▸y▸hoc;injection hoc
       . replace hoc:=envB▸y▸hoc;injection hoc
     . exact F2.notDict nP (kj P o (λy=>y.elim nP λy=>y.elim hPo.2 PneL) q) d
   . refine Ok.fly (C:=C.turn ((tP a line w pos R j1).and (cO Kp (PD (xO w j1))))) okt (λb q=>bo b (q.imp id id)) (hE.turn.and dY) F2 rm' hA' iK zB hlB (λz=>?_) (λx d q z=>?_) λb o z nq q=>?_
     . rcases z with z | z | z
       . rcases aL okt.st with _|Fv|_;exact Fv.base.2.2.1.2 (.inl z)
       . exact W.l2 z
       . exact W.lF z
     . rcases aL okt.st with _|Fv|_
       rcases dZ (Fv.allc x d q) with v|o|q1|q2
       rcases z with z | z | z
       . exact (Fv.base.2.2.2 x d q).2 (.inl z)
       . replace q1:=e2▸(show d=env2.locals from z)▸q1;obtain rfl:=Option.some.inj q1;injection tq d2 q2
       . replace q1:=eF▸(show d=envF.locals from z)▸q1;obtain rfl:=Option.some.inj q1;injection tq dF q2
     . rcases z with z | z | z
       . exact (nq (.inl z)).elim
       . replace q:=e2▸(show b=env2.locals from z)▸q;obtain rfl:=Option.some.inj q;exact⟨_,_,d2⟩
       . replace q:=eF▸(show b=envF.locals from z)▸q;obtain rfl:=Option.some.inj q;exact⟨_,_,dF⟩
end
section
variable{C:Cx}{n:Nat}{sc:Scope}{δ:List (Str×D)}
theorem Ok.newOwn{A:Around}{B:Heap}{env:Env}{X:Addr->Prop}{h h':Heap}{a:Addr}(O:Ok C n sc δ A B env X h)(na:h.get? a=none)(k:∀b o,h.get? b=some o->h'.get? b=some o)(el:h'.PlainList a #[]) :
 Ok (C.turn (C.I.and (cO a (PD [])))) n sc δ A B env (λb=>X b\/b=a) h'/\¬C.I.own a/\B.get? a=none:=by
 rcases bW (O.iterNe na) with hne|hfa
 rcases aL O.st with ρ|F|V
 obtain nn|el:=aU el
 have neq:∀b o,h.get? b=some o->b≠a:=λb o e z=>by replace e:=na▸z▸e;injection e
 refine⟨⟨O.rm,O.ho.keeps k,λb hb=>?_,⟨C.I.at_ _ _ O.iv λb o _ e=>k b o e,#[],⟨nn,el⟩,PD.nil⟩,λb hb=>?_,ρ,?_,V.at λb o x _ e=>⟨λz=>z.elim x (neq b o e),k b o e⟩⟩,hfa.2,hfa.1⟩
 . rcases hb with hb | rfl
   . rcases eU (O.xo b hb) with o|vs|nn|e|z;exact⟨o,vs,nn,k _ _ e,z⟩
   . exact⟨_,_,_,el,rfl⟩
 . exact hb.elim (λq=>.inl (O.ox b q)) .inr
 . have F1:=F.keeps k
   rcases nU F1.base with G|k0|hL|hC
   refine⟨⟨⟨G.k,G.g,G.b,G.nl⟩,k0,⟨hL.1,λq=>q.elim hL.2 λz=>?_⟩,λy c e=>⟨(hC y c e).1,λq=>q.elim (hC y c e).2 λz=>?_⟩⟩,F1.scope,F1.kind,F1.globals,F1.builtins,F1.ns,F1.cells,F1.inj,F1.allc⟩
   . rcases aL F.ns with m|q_0|_;obtain o|_|_|e|_:=eU q_0
     exact neq _ _ e z
   . rcases dZ (F.allc y c e) with v|o|e'|_
     exact neq _ _ e' z
theorem OZ{x y:Str}{p q tp vp l1 l2 pos:Pos}{k kv:Nat}{A:Around}{B:Heap}{env:Env}{X:Addr->Prop}{s:Shared}{Q:Flow->Shared->Prop}{E:Value->Shared->Prop}(O:Ok C n sc δ A B env X s.heap)(hx:lc sc x=true)(hy:lc sc y=true)
 (hw:∀env,env.scope=sc->swappedStores [.Tuple [.Name x p,.Name y q] k tp] (.Tuple [.List [] l1,.List [] l2] kv vp) env=pure none)
 (h:∀(R Kp:Addr) (h':Heap) (tk:Tok),s.heap.get? R=none->s.heap.get? Kp=none->R≠Kp->¬C.I.own R->¬C.I.own Kp->B.get? R=none->B.get? Kp=none ->
  Ok (C.turn ((C.I.and (cO R (PD []))).and (cO Kp (PD [])))) n sc ((y,.ptr Kp)::(x,.ptr R)::δ) A B env (λb=>(X b\/b=R)\/b=Kp) h'->oM env s.heap h'->Q .next {s with heap:=h',toks:=tk}) :
 wpAny C.M A (exec (.Assign [.Tuple [.Name x p,.Name y q] k tp] (.Tuple [.List [] l1,.List [] l2] kv vp) pos) env) Q E s:=by
 rcases aL (jN hx) with kx|hkx|ox
 rcases aL (jN hy) with ky|hky|oy
 have hsc:env.scope=sc:=let ⟨_,F,_⟩:=O.st;F.scope
 refine Assign_Tuple (wpAny_Tuple (wpAny_items_cons (wpAny_List (wpAny_items_nil ⟨by decide,?_⟩)) rfl)) rfl (hw env hsc)
 obtain⟨R,hR⟩:∃R,R=s.heap.objs.size:=⟨_,rfl⟩
 have nR:s.heap.get? R=none:=by rwa[hR];exact aN
 obtain⟨h1,hh1⟩:∃h1,h1=s.heap.push {cls:=.type "list",data:=.seq ([]:List Value).toArray}:=⟨_,rfl⟩
 have k1:∀b o,s.heap.get? b=some o->h1.get? b=some o:=λb o e=>by rwa[hh1];exact Heap.get?_push_of_some _ e
 have eR:h1.PlainList R #[]:=⟨0,by rwa[hh1,hR];exact Heap.get?_push_size _ rfl⟩
 rwa[←hh1,←hR]
 rcases tZ (O.newOwn nR k1 eR) with O1|oR|bR
 refine wpAny_items_cons (wpAny_List (wpAny_items_nil ⟨by decide,?_⟩)) rfl
 obtain⟨Kp,hK⟩:∃Kp,Kp=h1.objs.size:=⟨_,rfl⟩
 have nK:h1.get? Kp=none:=by rwa[hK];exact aN
 obtain⟨h2,hh2⟩:∃h2,h2=h1.push {cls:=.type "list",data:=.seq ([]:List Value).toArray}:=⟨_,rfl⟩
 have k2:∀b o,h1.get? b=some o->h2.get? b=some o:=λb o e=>by rwa[hh2];exact Heap.get?_push_of_some _ e
 have eK:h2.PlainList Kp #[]:=⟨0,by rwa[hh2,hK];exact Heap.get?_push_size _ rfl⟩
 show wpAny _ _ (spliced _) _ _ {s with heap:=h1.push _}
 rwa[←hh2]
 rcases tZ (O1.newOwn nK k2 eK) with O2|oK|bK
 refine wpAny_items_nil ⟨(by decide:2<=sizeLine),?_⟩
 have nK0:s.heap.get? Kp=none:=bG k1 nK
 have neRK:R≠Kp:=λz=>by obtain nn|e:=aU eR;replace e:=nK▸z▸e;injection e
 rwa[arm_assign_Tuple ..]
 refine wpAny_bind (wpAny_standAt ?_)
 unfold unpack
 obtain⟨hp,hhp⟩:∃hp,hp=h2.push {cls:=.type "tuple",data:=.seq [.ref R,.ref Kp].toArray}:=⟨_,rfl⟩
 have k0:∀b o,h2.get? b=some o->hp.get? b=some o:=λb o e=>by rwa[hhp];exact Heap.get?_push_of_some _ e
 have ht:hp.get? h2.objs.size=some {cls:=.type "tuple",data:=.seq [.ref R,.ref Kp].toArray}:=by rwa[hhp];exact Heap.get?_push_size _ rfl
 have O3:=O2.keeps k0
 have conv:({s with heap:=h2.push {cls:=.type "tuple",data:=.seq [.ref R,.ref h1.objs.size].toArray}}:Shared)={s with heap:=hp}:=by rw[hhp,←hK]
 show wpAny _ _ (holding _ (unpackItems (.ref h2.objs.size) 2 none) >>= λl=>assignInOrder [assign (.Name x p) env,assign (.Name y q) env] l) _ _ ({s with heap:=h2.push {cls:=.type "tuple",data:=.seq [.ref R,.ref h1.objs.size].toArray}}:Shared)
 rw[conv]
 refine wpAny_bind (wpAny_holding (jM (s:={s with heap:=hp}) (items:=[.ref R,.ref Kp]) O3.ho ht λh3 k3=>?_))
 have O4:=O3.keeps k3
 show wpAny _ _ (holding _ _ >>= λ_=>assignInOrder [assign (.Name y q) env] _) _ _ _
 refine wpAny_bind (wpAny_holding (wpAny_assign_Name (O4.store (s:={s with heap:=h3}) (.ptr R) hkx ox λh4 tk4 O5 B4 st4 lo4=>?_)))
 show wpAny _ _ (holding _ _ >>= λ_=>assignInOrder [] _) _ _ _
 refine wpAny_bind (wpAny_holding (wpAny_assign_Name (O5.store (s:={s with heap:=h4,toks:=tk4}) (.ptr Kp) hky oy λh5 tk5 O6 B5 st5 lo5=>?_)))
 exact wpAny_pure (h R Kp h5 tk5 nR nK0 neRK oR (λz=>oK (.inl z)) bR bK O6 ((oM.of_keeps λb o e=>k3 b o (k0 b o (k2 b o (k1 b o e)))).trans (B4.trans B5)))
end
structure HJ(K:Frag)(cls:Value):Prop where
 find:∀(M:Model) (h:Heap),K.In h->Looks M h (typeLookup cls ("__str__":Str)) (some (.builtin "BaseException.__str__"))
 sub:∀(M:Model) (h:Heap),K.In h->Looks M h (isSubtype cls (.type "BaseException")) true
theorem PA(K:Frag):HJ K (.type "ValueError"):=⟨λ_ _ _=>Looks.of_pure _root_.PySem.F.excStr_ValueError.str.lookup,λ_ _ _=>Looks.of_pure (by rwa[isSubtype_type ..];kernel_rfl)⟩
theorem LD{K:Frag}{a:Addr}(hf:findIn K (.ref a) "__str__"=some (some (.builtin "BaseException.__str__")))(hs:subIn K (.ref a) (.type "BaseException")=some true):HJ K (.ref a) :=
 ⟨λ_ _ X=>looks_findIn X hf,λ_ _ X=>looks_subIn X hs⟩
theorem HK:builtinKind "BaseException.__str__"=some .slot:=by decide +kernel
theorem CI:splitId "BaseException.__str__"=some ("BaseException","__str__"):=by decide +kernel
section
variable{prog:Program}{w:World}{A:Around}{E:Value->Shared->Prop}{s:Shared}{K:Frag}{cls tb:Value}{e t:Addr}{txt:Str}{tk:Tok}
theorem HL(X:K.In s.heap)(c:HJ K cls)(hu:A.units<cLine)(he:s.heap.get? e=some (qU cls t tb))(ht:s.heap.get? t=some (GJ [.str txt tk])){Q:Value->Shared->Prop}(hq:Q (.str txt tk) s):wpAny (model prog w) A (Builtin.Str.strOf (.ref e)) Q E s:=by
 unfold Builtin.Str.strOf
 rwa[show Builtin.Str.isExactStr (.ref e)=false from rfl,if_neg Bool.false_ne_true]
 refine wpAny_bind (wpAny_cRoomFor hu ?_)
 have ty:wpAny (model prog w) A (callSpecial? (.ref e) ("__str__":Str)) (λr s'=>r=some (.str txt tk)/\s'=s) E s:=by
  unfold callSpecial?
  refine wpAny_bind (wpAny_bind (wpAny_typeOf_ref he ((c.find _ _ X).here ?_)))
  refine wpAny_holding (wpAny_bind ?_)
  rwa[_root_.PySem.F.excStr_ValueError.str.bind ..]
  refine wpAny_pure ?_
  have inst:Looks (model prog w) s.heap (isInstance (.ref e) (.type "BaseException")) true:=λA' Q' E' s' k q=>wpAny_bind (wpAny_typeOf_ref (k _ _ he) (((c.sub _ _ X).keeps k).here q))
  have ao:argsOk "BaseException.__str__" ⟨[.ref e],[]⟩:=_root_.PySem.F.args_bexc_str (.ref e)
  refine wpAny_bind (wpAny_call (codeAny_call_builtin (id:="BaseException.__str__") (args:=⟨[.ref e],[]⟩) _root_.PySem.F.excStr_ValueError.str.plain _root_.PySem.F.entry_bexc_str (check_slot (i:="BaseException.__str__") (self:=.ref e) (rest:=[]) (kw:=[]) HK CI inst ao ?_)))
  . show wpAny _ A.in1 (Builtin.«BaseException.__str__» ⟨[.ref e],[]⟩) _ _ s
    have args:∀{M:Model} {A':Around} {E':Value->Shared->Prop} {Q':Value×List Value->Shared->Prop},Q' (.ref t,[.str txt tk]) s->wpAny M A' (Builtin.BaseException.bexcArgs (.ref e)) Q' E' s:=λq=>by
     unfold Builtin.BaseException.bexcArgs
     refine wpAny_bind (wpAny_field he (x:=.ref t) rfl rfl (wpAny_bind (wpAny_seqItems ht rfl ?_)))
     exact wpAny_pure q
    unfold Builtin.«BaseException.__str__»
    repeat (first | with_reducible refine args ?_ | wp_step)
    exact⟨rfl,rfl⟩
 refine wpAny_bind (wpAny_mono ty (λr s' hr=>?_) λ_ _ z=>z)
 obtain rfl|rfl:=bW hr
 refine wpAny_bind ?_
 repeat (first | wp_step)
 exact hq
theorem PB(X:K.In s.heap)(c:HJ K cls)(hu:A.units+2<cLine)(he:s.heap.get? e=some (qU cls t tb))(ht:s.heap.get? t=some (GJ [.str txt tk])){Q:Value->Shared->Prop}(hq:Q (.str txt tk) s):wpAny (model prog w) A (call (.type "str") [.ref e]) Q E s :=
 callType_new _root_.PySem.F.called_str ∅ (_root_.PySem.F.typeCall_str_1 _) (_root_.PySem.F.newCall_str_1 _) (λobj=>_root_.PySem.F.args_object_init_2 obj _) _root_.PySem.F.entry_str_new
  (meets_str_new (S:=λA' R s'=>A'.units+1<cLine/\K.In s'.heap/\s'.heap.get? e=some (qU cls t tb)/\s'.heap.get? t=some (GJ [.str txt tk])/\R (.ok (.ret (.str txt tk))) s')
   λ_ _ A' _ _ hq=>HL (A:=A'.in1) hq.2.1 c hq.1 hq.2.2.1 hq.2.2.2.1 hq.2.2.2.2)
  ⟨(show A.units+1+1<cLine from hu),X,he,ht,typeIs_str _ _ _,hq⟩
end
section
variable{prog:Program}{w:World}{A:Around}{E:Value->Shared->Prop}{s:Shared}{env:Env}
theorem qX{e:Addr}{t:PySem.Expr}{nm:Str}{b₀:Stmt}{suite:List Stmt}{pos:Pos}{rest:List ExceptHandler}{Q:Flow->Shared->Prop}
 (h:wpAny (model prog w) (A.mark (some (.ref e))) (eval t env) (λc s₁=>wpAny (model prog w) (A.mark (some (.ref e))) (excMatches (.ref e) c) (λb s₂ =>
  if b=true then wpAny (model prog w) (A.mark (some (.ref e))) (setFlight (.ref e) none) (λ_ s₃=>wpAny (model prog w) (A.mark (some (.ref e))) (storeName env nm (.ref e)) (λ_ s₄ =>
   wpAny (model prog w) (A.mark (some (.ref e))) (execs (b₀::suite) env) (λf s₅=>wpAny (model prog w) A (do bindName env nm .none;unbindBehindTheSuite env nm pos) (λ_ s₆=>Q f s₆) E s₅) (λ_ _=>False) s₄) (λ_ _=>False) s₃) (λ_ _=>False) s₂
  else wpAny (model prog w) A (handleBy (.ref e) env rest) Q E s₂) (λ_ _=>False) s₁) (λ_ _=>False) s) :
 wpAny (model prog w) A (handleBy (.ref e) env (.ExceptHandler (some t) (some nm) (b₀::suite) pos::rest)) Q E s:=by
 refine wpAny_handleBy_cons (codeAny_handlers_test (wpAny_mono h (λc s₁ h₁=>wpAny_mono h₁ (λb s₂ h₂=>?_) λ_ _ x=>x.elim) λ_ _ x=>x.elim)) (by intro q;injection q)
 cases b with
 | true =>
  rw[if_pos rfl] at h₂ ⊢
  refine codeAny_handlers_suite_as (wpAny_mono h₂ (λ_ s₃ h₃=>wpAny_mono h₃ (λ_ s₄ h₄=>wpAny_mono h₄ (λf s₅ h₅=>?_) λ_ _ x=>x.elim) λ_ _ x=>x.elim) λ_ _ x=>x.elim)
  exact h₅
 | false =>
  rw[if_neg Bool.false_ne_true] at h₂ ⊢
  exact h₂
theorem kN{h:Heap}{e:Addr}{o:Obj}{c:Value}{b:Bool}(he:s.heap.get? e=some o)(hnt:Looks (model prog w) s.heap (isInstance c (.type "tuple")) false)(hx:Looks (model prog w) s.heap (isExcClass c) true)(hs:Looks (model prog w) s.heap (isSubtype o.cls c) b){Q:Bool->Shared->Prop}(hq:Q b s) :
 wpAny (model prog w) A (excMatches (.ref e) c) Q E s:=by
 unfold excMatches
 refine wpAny_bind (hnt.here ?_)
 rwa[if_neg Bool.false_ne_true]
 refine wpAny_bind (wpAny_pure ?_)
 simp only[List.forIn_cons,List.forIn_nil]
 refine wpAny_bind (wpAny_bind (wpAny_bind (hx.here ?_)))
 rwa[if_neg ∅]
 refine wpAny_pure (wpAny_pure ?_)
 refine wpAny_bind (wpAny_typeOf_ref he ?_)
 refine wpAny_bind (wpAny_bind (wpAny_bind (hs.here ?_)))
 cases b with
 | true=>rwa[if_pos rfl];exact wpAny_pure (wpAny_pure (wpAny_pure hq))
 | false=>rwa[if_neg Bool.false_ne_true];exact wpAny_pure (wpAny_pure (wpAny_pure hq))
structure PC(K:Frag)(c:Value):Prop where
 nt:∀(M:Model) (h:Heap),K.In h->Looks M h (isInstance c (.type "tuple")) false
 ex:∀(M:Model) (h:Heap),K.In h->Looks M h (isExcClass c) true
end
section
variable{K:Frag}
theorem TR:isInstance (.type "ValueError") (.type "tuple")=pure false:=by
 show typeOf (.type "ValueError") >>= (λt=>isSubtype t (.type "tuple"))=pure false
 kernel_rfl
theorem TT:isExcClass (.type "ValueError")=pure true:=by kernel_rfl
end
section
variable{C:Cx}{n:Nat}{sc:Scope}{δ:List (Str×D)}
theorem Ok.around{n':Nat}{A A':Around}{B:Heap}{env:Env}{X:Addr->Prop}{h:Heap}(O:Ok C n sc δ A B env X h)(rm:Rm n' A')(ho:tY A' h):Ok C n' sc δ A' B env X h:=⟨rm,ho,O.xo,O.iv,O.ox,O.st⟩
theorem Ok.nameGoes{A:Around}{B:Heap}{env:Env}{X:Addr->Prop}{s:Shared}{x:Str}{pos:Pos}{Q:Unit->Shared->Prop}{E:Value->Shared->Prop}(O:Ok C n sc δ A B env X s.heap)(hh:A.handled=none)(hx:sc.names.lookup x=some .local)(hδ:δ.lookup x=none)
 (h:∀h' tk,Ok C n sc δ A B env X h'->(∀b o,b≠env.locals->s.heap.get? b=some o->h'.get? b=some o)->Q () {s with heap:=h',toks:=tk}):wpAny C.M A (do bindName env x .none;unbindBehindTheSuite env x pos) Q E s:=by
 rcases aL O.st with ρ|F|V
 rcases aL F.ns with m|hn|hm
 have ko:env.kindOf x=some .local:=by unfold Env.kindOf;rwa[F.scope];exact hx
 refine wpAny_nameGoes_keeps ko hn (by rwa[F.scope,F.kind];rfl) λh' v hn' sb=>?_
 obtain o0|es0|ep0|e0|d0|_:=nV hn
 have k:∀b o,b≠env.locals->s.heap.get? b=some o->h'.get? b=some o:=λb o z e=>sb.extBut b o z e
 have notD:∀b o,s.heap.get? b=some o->(∀es ep,o.data≠.dict es ep)->h'.get? b=some o:=λb o e d=>k b o (λz=>by replace e:=e0▸z▸e;obtain rfl:=Option.some.inj e;exact d _ _ d0) e
 refine h h' _ ⟨O.rm,.inl hh,λa ha=>?_,C.I.at_ _ _ O.iv λb o ob e=>k b o (λz=>F.base.2.2.1.2 (z▸ob)) e,O.ox,λy=>if y=x then v else ρ y,?_,λy d e=>?_⟩ k
 . rcases eU (O.xo a ha) with o|vs|nn|e|z
   exact⟨o,vs,nn,notD _ _ e (λes ep w=>by injection tq w z),z⟩
 . rcases nU F.base with G|k0|hL|hC
   refine⟨⟨G,λb o e=>k b o (λz=>by replace e:=hL.1▸z▸e;injection e) (k0 b o e),hL,hC⟩,F.scope,F.kind,F.globals,F.builtins,⟨_,hn',λy hy=>?_⟩,λy hy=>?_,F.inj,λy a e=>?_⟩
   . by_cases z:y=x
     . rwa[if_pos z,if_pos z];rfl
     . rwa[if_neg z,if_neg z];exact hm y hy
   . rcases aL (F.cells y hy) with a|q1|q_0;obtain o|q2|q3:=aL q_0
     refine⟨a,q1,o,notD _ _ q2 (λes ep w=>by injection tq w q3),?_⟩
     rwa[if_neg (λz=>by replace hy:=hx▸z▸hy;rcases hy with hy | hy<;>cases hy)]
     exact q3
   . rcases dZ (F.allc y a e) with v'|o|q2|q3
     exact⟨v',o,notD _ _ q2 (λes ep w=>by injection tq w q3),q3⟩
 . rcases aL (V y d e) with v'|e1|r
   refine⟨v',?_,r.at λb o xb l e=>⟨xb,notD b o e (λes ep w=>by obtain _|_|rfl:=mF l;injection w)⟩⟩
   dsimp only
   rwa[if_neg (λz=>by replace e:=(hδ)▸z▸e;injection e)]
   exact e1
noncomputable def CJ(e t:Addr)(cls:Value)(txt:Str):bX where
 own:=λb=>b=e\/b=t
 lst:=λ_=>False
 inv:=λh=>∃tb tk,h.get? e=some (qU cls t tb)/\h.get? t=some (GJ [.str txt tk])
 at_:=λh h' ⟨tb,tk,a,b⟩ k=>⟨tb,tk,k _ _ (.inl rfl) a,k _ _ (.inr rfl) b⟩
 dom:=λh b ⟨tb,tk,e1,e2⟩ q=>q.elim (λq=>⟨_,q▸e1⟩) λq=>⟨_,q▸e2⟩
 seqs:=λh b o ⟨tb,tk,e1,e2⟩ q e l=>by
  obtain vs|nn|rfl:=mF l
  rcases q with rfl | rfl
  . replace e:=e1▸e;cases e
  . replace e:=e2▸e
    have z:=congrArg Obj.cls (Option.some.inj e)
    simp at z
theorem rL{e t:Addr}{cls:Value}{txt:Str}{x:Str}{np xp pos:Pos}(hI:∀h,C.I.inv h->∃tb tk,h.get? e=some (qU cls t tb)/\h.get? t=some (GJ [.str txt tk]))(c:HJ C.K cls)(hx:δ.lookup x=some (.ptr e))(hk:PS (sc.names.lookup x)=true)(hd:(x==("__debug__":Str))=false)(hc:(x==("__classdict__":Str))=false)
 (hs:sc.names.lookup ("str":Str)=some .globalImplicit) (g:C.mg ("str":Str)=none/\C.mb ("str":Str)=some (.type "str")):Ev C n sc δ (.Call (.Name "str" np) [.Name x xp] [] pos) (.str txt):=by
 refine⟨λA B env X s Q E O h=>?_⟩
 refine wpAny_Call_ofName (cC O hs g.1 g.2 ∅ (PySem.callWith_type rfl ?_))
 have hA:=(bY (C:=C) (n:=n) (sc:=sc) (δ:=δ) (aA (pos:=xp) hx hk hd hc)).go A B env X pos s
 have eb:backTo pos (starEach [.Name x xp] env)=(false,eval (.Name x xp) env)::[]:=rfl
 rw[eb] at hA ⊢
 refine evalArgs_plain (hA _ _ O λvs s1 k1 r1=>?_)
 obtain _|_|ra|rb|rfl:=iG (aR r1)
 obtain rfl:=bJ rb
 obtain rfl:=cW ra
 have O1:=O.on k1
 rcases dZ (hI _ O1.iv) with tb|tk|e1|e2
 refine PB O1.gl.k c ?_ e1 e2 (h _ _ k1 (.str txt tk))
 have:=O.rm.u
 show A.units+2<9900;lia
end
noncomputable def KT(a:gU)(env:Env)(l:List Env)(P:Addr)(h0 h:Heap):Prop:=∀b o,¬(dH a b\/zF env b\/b=P)->h0.get? b=some o->(¬oX l b->h.get? b=some o)/\∃sl,h.get? b=some {o with slots:=sl}
theorem KT.refl{a:gU}{env:Env}{l:List Env}{P:Addr}{h:Heap}:KT a env l P h h:=λb o _ e=>⟨λ_=>e,o.slots,e⟩
theorem KT.trans{a:gU}{env:Env}{l:List Env}{P:Addr}{h h1 h2:Heap}(x:KT a env l P h h1)(y:KT a env l P h1 h2):KT a env l P h h2:=λb o z e=>by
 rcases bW (x b o z e) with x1|q_0;obtain sl|x2:=aU q_0
 rcases bW (y b _ z x2) with y1|q_0;obtain sl'|y2:=aU q_0
 exact⟨λnf=>(y b _ z (x1 nf)).1 nf,sl',y2⟩
theorem KT.frb{a:gU}{env:Env}{l:List Env}{P:Addr}{h h1:Heap}(x:oM env h h1):KT a env l P h h1:=λb o z e=>by
 have:=x b o (λw=>z (.inr (.inl (.inl w)))) (λy w=>z (.inr (.inl (.inr ⟨y,w⟩)))) e
 exact⟨λ_=>this,o.slots,this⟩
section
variable{C:Cx}{n:Nat}{sc:Scope}{δ:List (Str×D)}
theorem Ok.addI{A:Around}{B:Heap}{env:Env}{X:Addr->Prop}{h:Heap}{J:bX}(O:Ok C n sc δ A B env X h)(iv:J.inv h)(hl:∀b,¬J.lst b)(hd:∀b o,J.own b->h.get? b=some o->(∀es ep,o.data≠.dict es ep)/\∀v,o.data≠.cell v):Ok (C.turn (C.I.and J)) n sc δ A B env X h:=by
 rcases aL O.st with ρ|F|V
 rcases nU F.base with G|k0|hL|hC
 rcases aL (id F.ns) with m|q_0|_;obtain o|es|ep|e1|e2|_:=nV q_0
 refine⟨O.rm,O.ho,O.xo,⟨O.iv,iv⟩,λb q=>q.elim (O.ox b) λq=>(hl b q).elim,ρ,⟨⟨⟨G.k,G.g,G.b,G.nl⟩,k0,⟨hL.1,λq=>q.elim hL.2 λq=>(hd _ o q e1).1 es ep e2⟩,λy c z=>⟨(hC y c z).1,λq=>q.elim (hC y c z).2 λq=>?_⟩⟩,F.scope,F.kind,F.globals,F.builtins,F.ns,F.cells,F.inj,F.allc⟩,V⟩
 rcases dZ (F.allc y c z) with v|o'|q1|q2
 exact (hd _ o' q q1).2 v q2
end
section
variable{C:Cx}{n:Nat}{a:gU}{line:Str}{w:Nat->Str}{R Kp:Addr}
noncomputable def RW(a:gU)(line:Str)(ts:List D)(e:Addr)(ws:List Str)(ks:List D):List (Str×D):=[(("fault":Str),.ptr e),(("read":Str),.list (ws.map .str)),(("kept":Str),.list ks),(("trees":Str),.list ts),(("lexer":Str),.ptr a.L),(("line":Str),.str line)]
theorem tQ{A':Around}{B:Heap}{env:Env}{X:Addr->Prop}{s:Shared}{sh h1:Heap}{l:List Env}{ts:List D}{c P:Addr}{j1:Nat}{pZ:Nat}{stZ:D}{tokZ:Str}{ws:List Str}{cls1:Value}{txt1:Str}{e t:Addr}{tb:Value}{tk:Tok}{h3:Heap}{tk3:Tok}{gs:Array GenState}{Z0:Addr->Prop}{s0:Heap}{x0:Value}{Q:Unit->Shared->Prop}{n':Nat}
 (F3:iI Z0 ((aK a line pZ stZ tokZ).and (cO R (PD (ws.map .str)))) (env::l) s0 e t cls1 [.str txt1 tk] tb (some x0) h3)
 (cl:∀tb2 fl2 h2,iI Z0 ((aK a line pZ stZ tokZ).and (cO R (PD (ws.map .str)))) (env::l) s0 e t cls1 [.str txt1 tk] tb2 fl2 h2->CH C a line w R Kp ts B env (λb=>(X b\/b=R)\/b=Kp) h1 l c P j1 ((aK a line pZ stZ tokZ).and (cO R (PD (ws.map .str)))) cls1 txt1 e t tk h2)
 (rm:Rm n' A') (hA:A'.handled=some (.ref e)) (nR:sh.get? R=none) (nK:sh.get? Kp=none) (nXR:¬X R) (nXK:¬X Kp) (hKR:Kp≠R) (hb:oM env sh h1) (hfr:env.frame=some env.locals) (hoff:∀b,oX l b->¬zF env b)
 (h:∀h5 tk5,Ok (C.turn ((aK a line pZ stZ tokZ).and (CJ e t cls1 txt1))) n' (aD (aY 45)) (RW a line ts e ws (xO w j1)) A' B env X h5->(∃ps,iE h5 c P ps)->KT a env l P sh h5->dO (aK a line pZ stZ tokZ) l h5->Q () {s with heap:=h5,toks:=tk5,gens:=gs}) :
 wpAny C.M A' (setFlight (.ref e) none) (λ_ s₃=>wpAny C.M A' (storeName env "fault" (.ref e)) Q (λ_ _=>False) s₃) (λ_ _=>False) {s with heap:=h3,toks:=tk3,gens:=gs}:=by
 refine iI.flight (s:={s with heap:=h3,toks:=tk3,gens:=gs}) (fo:=none) F3 λh4 F4=>?_
 have At:=cl _ _ _ F4
 have O4:=At.ok A' n' rm hA
 have Oa:=Ok.freeze (C:=C.turn (((aK a line pZ stZ tokZ).and (cO R (PD (ws.map .str)))).and (cO Kp (PD (xO w j1))))) (x:="kept") (ds:=xO w j1) (I:=(aK a line pZ stZ tokZ).and (cO R (PD (ws.map .str)))) (R:=Kp) O4 rfl (λz=>z.elim (λz=>z) λz=>?_) (λvs pd=>pd) rfl
 . have Ob:=Ok.freeze (C:=C.turn ((aK a line pZ stZ tokZ).and (cO R (PD (ws.map .str))))) (x:="read") (ds:=ws.map .str) (I:=aK a line pZ stZ tokZ) (R:=R) Oa rfl (λz=>z) (λvs pd=>pd) rfl
   have eX:(λb=>((((X b\/b=R)\/b=Kp)/\b≠Kp)/\b≠R))=X:=funext λb=>propext ⟨λ⟨⟨q,z1⟩,z2⟩=>q.elim (λq=>q.elim id λz=>(z2 z).elim) λz=>(z1 z).elim,λq=>⟨⟨.inl (.inl q),λz=>nXK (z▸q)⟩,λz=>nXR (z▸q)⟩⟩
   have Oc:Ok (C.turn (aK a line pZ stZ tokZ)) n' (aD (aY 45)) ((("read":Str),.list (ws.map .str))::(("kept":Str),.list (xO w j1))::uO a line R Kp ts) A' B env X h4:=by
    have:=Ob
    replace this:=eX▸this
    exact this
   have Od:=Oc.addI (J:=CJ e t cls1 txt1) ⟨_,_,F4.ex,F4.tp⟩ (λb q=>q) (λb o q e'=>by
    rcases q with rfl | rfl
    . have h_:=sx F4.ex e';clear e';subst h_;exact⟨(λ_ _ z=>by injection z),(λ_ z=>by injection z)⟩
    . have h_:=sx F4.tp e';clear e';subst h_;exact⟨(λ_ _ z=>by injection z),(λ_ z=>by injection z)⟩)
   refine Od.store (s:={s with heap:=h4,toks:=tk3,gens:=gs}) (x:="fault") (.ptr e) (k:=.local) rfl (.inl rfl) λh5 tk5 O5 B5 st5 lo5=>?_
   have k5:∀b o,b≠env.locals->h4.get? b=some o->h5.get? b=some o:=lo5 rfl
   rcases eU Od.dict with oL|esL|epL|eL|dL
   have notD:∀b o,h4.get? b=some o->(∀es ep,o.data≠.dict es ep)->h5.get? b=some o:=λb o e' d=>k5 b o (λz=>by replace e':=eL▸z▸e';obtain rfl:=Option.some.inj e';exact d _ _ dL) e'
   rcases aU At.code with ps|ic
   rcases mF At.fly with tb4|fl4|G4
   refine h h5 tk5 (Ok.sub O5 ?_) ⟨ps,iE.two ic (λo q d=>notD _ _ q d) λo q d=>notD _ _ q d⟩ (λb o z q=>?_) (λen he=>?_)
   . exact aM rfl (aM rfl (aM rfl (aM rfl (aM rfl (aM rfl eA)))))
   . have z':¬(xH a R b\/b=Kp\/b=env.locals\/b=P):=λy=>by
      rcases y with (y | y) | y | y | y
      . exact z (.inl y)
      . replace q:=nR▸y▸q;injection q
      . replace q:=nK▸y▸q;injection q
      . exact z (.inr (.inl (.inl y)))
      . exact z (.inr (.inr y))
     rcases bW (G4.keep b o z' (hb b o (λy=>z (.inr (.inl (.inl y)))) (λx y=>z (.inr (.inl (.inr ⟨x,y⟩)))) q)) with g1|q_0;obtain sl|g2:=aU q_0
     have zL:b≠env.locals:=λy=>z (.inr (.inl (.inl y)))
     refine⟨λnf=>k5 b o zL (g1 λf=>?_),sl,k5 b _ zL g2⟩
     rcases aL (List.mem_filterMap.mp f) with en|he|w
     cases he with
     | head=>replace w:=hfr▸w;exact zL (Option.some.inj w).symm
     | tail _ he=>exact nf (List.mem_filterMap.mpr ⟨en,he,w⟩)
   . rcases bW (F4.fr en (.tail _ he)) with kk|q_0;obtain L|o|es|ep|q1|q2|q3|q4:=uS q_0
     exact⟨kk,L,o,es,ep,q1,λw=>q2 (.inl w),k5 L o (λw=>hoff L (List.mem_filterMap.mpr ⟨en,he,q1⟩) (.inl w)) q3,q4⟩
 . exact hKR z
end
noncomputable def TU:Stmt:=(RU.drop 1).headD (.Pass ⟨0,0,0,0⟩)
noncomputable def RX:List ExceptHandler:=match TU with
 | .Try _ hs _ _ _=>hs
 | _=>[]
noncomputable def tR(a:gU)(line:Str)(ts:List D):List (Str×D):=[(("trees":Str),.list ts),(("lexer":Str),.ptr a.L),(("line":Str),.str line)]
section
variable{C:Cx}{n:Nat}{a:gU}{line:Str}{fN fI fS fG aS bm:Addr}{obm:Obj}{w:Nat->Str}{pos:Nat->Nat}{N pE:Nat}{stE:D}{tokE:Str}
theorem tS(LR:iB C a line n fN w pos N pE stE tokE)(TK:fM C a fN fI fS fG aS bm obm)(hn:8<=n)(hN:N<=20){A:Around}{B:Heap}{env:Env}{X:Addr->Prop}{s:Shared}{l:List Env}{ts:List D}{c P:Addr}{j1 pZ:Nat}{stZ:D}{tokZ:Str}{ws:List Str}{cls1:Value}{txt1:Str}
 (O:Ok (C.turn (aK a line (pos 0) (.str " ") "")) (n+1) (aD (aY 45)) (tR a line ts) A B env X s.heap) (bo:∀b,dH a b->B.get? b=none) (S:xN (aK a line (pos 0) (.str " ") "") A env l s.heap) (hlB:∀b,oX (env::l) b->B.get? b=none)
 (hcode:env.code=.ref c) (hok:∃ps,iE s.heap c P ps) (hPB:B.get? P=none) (hcB:∃o,B.get? c=some o) (hPo:¬dH a P)
 (hj1:j1<=N) (pass:∀j,j<j1->0<=vN w j) (hE:∀R,zR a line w pos N pE stE tokE R aS j1 ((aK a line pZ stZ tokZ).and (cO R (PD (ws.map .str)))) cls1 txt1)
 {Q:Flow->Shared->Prop} {E:Value->Shared->Prop}
 (h:∀(R Kp:Addr) (h1:Heap) (e t:Addr) (tb:Value) (tk:Tok) (h3:Heap) (tk3:Tok) (gs:Array GenState) (Z0:Addr->Prop) (s0:Heap),s.heap.get? R=none->s.heap.get? Kp=none->Kp≠R->¬X R->¬X Kp->oM env s.heap h1 ->
  iI Z0 ((aK a line pZ stZ tokZ).and (cO R (PD (ws.map .str)))) (env::l) s0 e t cls1 [.str txt1 tk] tb (some .none) h3 ->
  (∀tb2 fl2 h2,iI Z0 ((aK a line pZ stZ tokZ).and (cO R (PD (ws.map .str)))) (env::l) s0 e t cls1 [.str txt1 tk] tb2 fl2 h2->CH C a line w R Kp ts B env (λb=>(X b\/b=R)\/b=Kp) h1 l c P j1 ((aK a line pZ stZ tokZ).and (cO R (PD (ws.map .str)))) cls1 txt1 e t tk h2)->oD s.gens gs ->
  wpAny C.M A (handleBy (.ref e) env RX) Q E {s with heap:=h3,toks:=tk3,gens:=gs}) :
 wpAny C.M A (execs RU env) Q E s:=by
 show wpAny _ _ (execs [.Assign [.Tuple [.Name "read" _,.Name "kept" _] _ _] (.Tuple [.List [] _,.List [] _] _ _) _,.Try [KY] RX [] [] _] env) _ _ _
 refine wpAny_execs_cons (OZ (C:=C.turn (aK a line (pos 0) (.str " ") "")) O ∅ ∅ ?_ λR Kp h1 tk1 nR nK neRK oR oK bR bK O1 B1=>?_)
 . intro env h
   obtain⟨_,_⟩:=env
   subst h
   rfl
 have xthere:∀b,X b->∃o,s.heap.get? b=some o:=λb q=>let ⟨o,_,_,e,_⟩:=O.xo b q;⟨o,e⟩
 have nXR:¬X R:=λq=>by rcases aU (xthere R q) with o|e;injection tq nR e
 have nXK:¬X Kp:=λq=>by rcases aU (xthere Kp q) with o|e;injection tq nK e
 obtain ps|hok:=aU hok
 rcases aL (GP.code_notSeq hok) with oP|eP|dP
 rcases eU O.dict with dEx|dES|dEP|dE1|dE2
 have cellAt:∀x d,env.cells.lookup x=some d->∃o v,s.heap.get? d=some o/\o.data=.cell v:=λx d e=>by
  rcases aL O.st with ρ|F|_
  rcases dZ (F.allc x d e) with v|o|q1|q2
  exact⟨o,v,q1,q2⟩
 have kf:∀b o vs,s.heap.get? b=some o->o.data=.fields vs->h1.get? b=some o:=λb o vs e d=>B1 b o (λz=>by replace e:=dE1▸z▸e;obtain rfl:=Option.some.inj e;injection tq d dE2) (λx z=>by
  rcases dZ (cellAt x b z) with o'|v|q1|q2
  have h_:=sx e q1;clear q1;subst h_;injection tq d q2) e
 have hok1:iE h1 c P ps:=hok.fld λb o vs _ e d=>kf b o vs e d
 have S1:xN (xQ a line w pos R Kp) A env l h1:=by
  refine⟨S.hh,S.fs,S.fr,λen he=>?_,S.off⟩
  rcases bW (S.ok en he) with kk|q_0;obtain L|o|es|ep|q1|q2|q3|q4:=uS q_0
  have nl:=S.off L (List.mem_filterMap.mpr ⟨en,he,q1⟩)
  refine⟨kk,L,o,es,ep,q1,λz=>?_,B1 L o (λz=>nl (.inl z)) (λx z=>nl (.inr ⟨x,z⟩)) q3,q4⟩
  rcases z with (z | z) | z
  . exact q2 z
  . have z:L=R:=z
    replace q3:=nR▸z▸q3;injection q3
  . have z:L=Kp:=z
    replace q3:=nK▸z▸q3;injection q3
 have hKo:¬xH a R Kp:=λz=>z.elim oK λz=>neRK z.symm
 have hPo1:¬xH a R P/\P≠Kp:=⟨λz=>z.elim hPo λz=>(by replace eP:=nR▸z▸eP;injection eP),λz=>(by replace eP:=nK▸z▸eP;injection eP)⟩
 refine wpAny_execs_cons (wpAny_Try_except (wpAny_execs_cons (LC (s:={s with heap:=h1,toks:=tk1}) LR TK hn hN oR hKo O1 (λb z=>?_) S1 hlB hcode ⟨ps,hok1⟩ hPB hcB hPo1 hj1 pass (hE R) λe t tb tk h' tk' gs Z0 s0 F cl hb=>?_)))
 . rcases z with (z | z) | z
   . exact bo b z
   . rwa[z];exact bR
   . rwa[z];exact bK
 . refine iI.note (s:={s with heap:=h',toks:=tk',gens:=gs}) S.fs S.fr F (.inr (.inr rfl)) λh2 tb2 F2=>?_
   refine iI.flight (s:={s with heap:=h2,toks:=tk',gens:=gs}) (fo:=none) F2 λh3 F3=>?_
   refine wpAny_mono (h R Kp h1 e t tb2 tk h3 tk' gs Z0 s0 nR nK neRK.symm nXR nXK B1 F3 cl hb) (λfl s' q=>?_) λ_ _ q=>q
   cases fl with
   | next=>exact wpAny_execs_nil q
   | _=>exact q
end
structure tT(C:Cx)(aS fW lo hi:Addr):Prop where
 FW:fV C fW 44 ["read"]
 gW:C.mg ("_law_worth":Str)=some (.ref fW)
 FL:fV C lo 6 ["data"]
 FH:fV C hi 7 ["data"]
 gL:C.mg ("median_low":Str)=some (.ref lo)
 gH:C.mg ("median_high":Str)=some (.ref hi)
 gV:C.mg ("ValueError":Str)=none/\C.mb ("ValueError":Str)=some (.type "ValueError")
 clS:PC C.K (.ref aS)
 strS:HJ C.K (.ref aS)
 ss:subIn C.K (.ref aS) (.ref aS)=some true
 vs:subIn C.K (.type "ValueError") (.ref aS)=some false
section
variable{C:Cx}{n:Nat}{sc:Scope}{δ:List (Str×D)}
theorem Bs.turn'(b:Bs C)(I:bX):Bs (C.turn I):=⟨b.range,b.len,b.sum,b.max,b.min,b.sorted,b.type,b.str⟩
theorem Ok.fields{A:Around}{B:Heap}{env:Env}{X:Addr->Prop}{h h':Heap}{b:Addr}{o:Obj}(O:Ok C n sc δ A B env X h)(k:oM env h h')(e:h.get? b=some o)(d1:∀es ep,o.data≠.dict es ep)(d2:∀v,o.data≠.cell v):h'.get? b=some o:=by
 rcases eU O.dict with oL|esL|epL|eL|dL
 refine k b o (λz=>by rw[z,eL] at e;cases e;exact d1 _ _ dL) (λx z=>?_) e
 rcases aL O.st with ρ|F|_
 rcases dZ (F.allc x b z) with v|o'|q1|q2
 have h_:=sx e q1;clear q1;subst h_
 exact d2 _ q2
theorem Ok.code{A:Around}{B:Heap}{env:Env}{X:Addr->Prop}{h h':Heap}{c P:Addr}(O:Ok C n sc δ A B env X h)(k:oM env h h')(x:∃ps,iE h c P ps):∃ps,iE h' c P ps:=by
 obtain ps|x:=aU x
 exact⟨ps,x.fld λb o vs _ e d=>O.fields k e (λ_ _ w=>by injection tq d w) (λ_ w=>by injection tq d w)⟩
theorem dO.frb{I:bX}{l:List Env}{env:Env}{h h':Heap}(F:dO I l h)(k:oM env h h')(hoff:∀b,oX l b->¬zF env b):dO I l h':=λen he=>by
 rcases bW (F en he) with kk|q_0;obtain L|o|es|ep|q1|q2|q3|q4:=uS q_0
 have nl:=hoff L (List.mem_filterMap.mpr ⟨en,he,q1⟩)
 exact⟨kk,L,o,es,ep,q1,q2,k L o (λz=>nl (.inl z)) (λx z=>nl (.inr ⟨x,z⟩)) q3,q4⟩
end
section
variable{C:Cx}{n:Nat}{a:gU}{line:Str}{fN fI fS fG aS bm fW lo hi:Addr}{obm:Obj}{w:Nat->Str}{pos:Nat->Nat}{N pE:Nat}{stE:D}{tokE:Str}
noncomputable def jC(w:Nat->Str)(j1:Nat):D:=.list [.list ((rd w (j1+1)).map .str),.list (xO w j1),.list ((iW (rd w (j1+1))).map mS),.str "whole"]
noncomputable def mD(w:Nat->Str)(N:Nat):D:=.list [.list ((rd w N).map .str),.list (xO w N),.list [],.str JU]
theorem CK(LR:iB C a line n fN w pos N pE stE tokE)(TK:fM C a fN fI fS fG aS bm obm)(UK:tT C aS fW lo hi)(hn:8<=n)(hN:N<=20){A:Around}{B:Heap}{env:Env}{X:Addr->Prop}{s:Shared}{l:List Env}{ts:List D}{c P:Addr}{j1:Nat}
 (O:Ok (C.turn (aK a line (pos 0) (.str " ") "")) (n+1) (aD (aY 45)) (tR a line ts) A B env X s.heap) (bo:∀b,dH a b->B.get? b=none) (S:xN (aK a line (pos 0) (.str " ") "") A env l s.heap) (hlB:∀b,oX (env::l) b->B.get? b=none)
 (hcode:env.code=.ref c) (hok:∃ps,iE s.heap c P ps) (hPB:B.get? P=none) (hcB:∃o,B.get? c=some o) (hPo:¬dH a P) (hts:ts.length<=100)
 (hj1:j1<N) (pass:∀j,j<j1->0<=vN w j) (neg:vN w j1<0) (hr:xZ (rd w (j1+1)))
 {Q:Flow->Shared->Prop} {E:Value->Shared->Prop}
 (h:∀(h':Heap) (tk:Tok) (gs:Array GenState),Ok (C.turn (aK a line (pos (j1+1)) (.str " ") "")) (n+1) (aD (aY 45)) (tR a line (ts++[jC w j1])) A B env X h'->xN (aK a line (pos (j1+1)) (.str " ") "") A env l h'->(∃ps,iE h' c P ps)->KT a env l P s.heap h'->oD s.gens gs->Q .next {s with heap:=h',toks:=tk,gens:=gs}) :
 wpAny C.M A (execs RU env) Q E s:=by
 refine tS (ws:=rd w (j1+1)) (pZ:=pos (j1+1)) (stZ:=.str " ") (tokZ:="") (cls1:=.ref aS) (txt1:="whole") LR TK hn hN O bo S hlB hcode hok hPB hcB hPo (Nat.le_of_lt hj1) pass (λR=>.inl ⟨hj1,neg,rfl,rfl,rfl⟩) λR Kp h1 e t tb tk h3 tk3 gs Z0 s0 nR nK nKR nXR nXK B1 F3 cl hb=>?_
 have rmA:Rm 8 (A.mark (some (.ref e))):=⟨by have:=O.rm.d;show A.depth+2*8<720;lia,by have:=O.rm.u;show A.units+8*8<9000;lia,λq=>by lia⟩
 have hA:(A.mark (some (.ref e))).handled=some (.ref e):=rfl
 have At:=cl _ _ _ F3
 have O3:=At.ok _ 8 rmA hA
 show wpAny _ _ (handleBy (.ref e) env (.ExceptHandler (some (.Name "StatisticsError" _)) (some "fault") [_] _::_)) _ _ _
 refine qX ?_
 refine cA (C:=C.turn (((aK a line (pos (j1+1)) (.str " ") "").and (cO R (PD ((rd w (j1+1)).map .str)))).and (cO Kp (PD (xO w j1))))) (s:={s with heap:=h3,toks:=tk3,gens:=gs}) O3 rfl TK.gE ∅ ?_
 refine kN (h:=h3) (s:={s with heap:=h3,toks:=tk3,gens:=gs}) F3.ex (UK.clS.nt _ _ O3.gl.k) (UK.clS.ex _ _ O3.gl.k) (looks_subIn O3.gl.k UK.ss) ?_
 rwa[if_pos rfl]
 refine tQ (s:=s) (sh:=s.heap) F3 cl rmA hA nR nK nXR nXK nKR B1 S.fr S.off λh5 tk5 O5 ic5 K5 fo5=>?_
 have hz:∀k,k<=1000->k<=sizeLine:=λk h=>Nat.le_trans h ∅
 have ev:Ev (C.turn ((aK a line (pos (j1+1)) (.str " ") "").and (CJ e t (.ref aS) "whole"))) 8 (aD (aY 45)) (RW a line ts e (rd w (j1+1)) (xO w j1)) (match (match RX with | .ExceptHandler _ _ (b::_) _::_=>b | _=>.Pass ⟨0,0,0,0⟩) with | .Assign _ v _=>v | _=>.Constant .none 0 ⟨0,0,0,0⟩) (.list (ts++[jC w j1])) :=
  cR (a:=.list ts) (b:=.list [jC w j1]) (aA rfl rfl) (bU (bY (bU (aF (aA rfl rfl) (aF (aA rfl rfl) (aF (cT (names:=["read"]) (i:=44) (fa:=fW) UK.FW rfl UK.gW ∅ (bY (aA rfl rfl)) (IY (C:=C.turn ((aK a line (pos (j1+1)) (.str " ") "").and (CJ e t (.ref aS) "whole"))) (n:=6) UK.FW (TK.b.turn' _) UK.FL UK.FH UK.gL UK.gH (rd w (j1+1)) (by rwa[xG ..];lia) hr)) (bY (rL (C:=C.turn ((aK a line (pos (j1+1)) (.str " ") "").and (CJ e t (.ref aS) "whole"))) (λh H=>H.2) UK.strS rfl rfl ∅ ∅ rfl ⟨TK.b.str.1,TK.b.str.2⟩))))) (hz 4 ∅))) (hz 1 ∅)) (dD (hz _ (by simp;exact Nat.le_trans (by assumption) ∅)))
 have Es:=(bD (bS (x:="trees") (p:=⟨828,12,828,17⟩) (pos:=⟨828,12,828,72⟩) ev ∅) bQ).go (A.mark (some (.ref e))) B env X {s with heap:=h5,toks:=tk5,gens:=gs} (λf s₅=>wpAny C.M A (do bindName env "fault" .none;unbindBehindTheSuite env "fault" ⟨827,8,828,72⟩) (λ_ s₆=>Q f s₆) E s₅) (λ_ _=>False) O5 ?_
 . exact Es
 intro fl s6 k6 o6
 obtain rfl|O6:=bW o6
 obtain h6|tk6|rfl|b6:=dZ k6
 have O6a:Ok (C.turn (aK a line (pos (j1+1)) (.str " ") "")) (n+1) (aD (aY 45)) (tR a line (ts++[jC w j1])) A B env X h6:=by
  have:=(O6.watch (J:=aK a line (pos (j1+1)) (.str " ") "") (λb q=>.inl q) (λb q=>.inl q) O6.iv.1).around (n':=n+1) (A':=A) O.rm (.inl S.hh)
  exact Ok.sub this (aM rfl (aM rfl (aM rfl eA)))
 refine Ok.nameGoes (C:=C.turn (aK a line (pos (j1+1)) (.str " ") "")) (s:={s with heap:=h6,toks:=tk6,gens:=gs}) (x:="fault") O6a S.hh rfl rfl λh7 tk7 O7 k7=>?_
 have b7:oM env h6 h7:=λb o z _ e=>k7 b o z e
 refine h h7 tk7 gs O7 ⟨S.hh,S.fs,S.fr,(fo5.frb b6 S.off).frb b7 S.off,S.off⟩ (O6.code b7 (O5.code b6 ic5)) (K5.trans ((KT.frb b6).trans (KT.frb b7))) hb
end
theorem HM:isSubtype (.type "ValueError") (.type "ValueError")=pure true:=by rwa[isSubtype_type ..];kernel_rfl
section
variable{C:Cx}{n:Nat}{a:gU}{line:Str}{fN fI fS fG aS bm fW lo hi:Addr}{obm:Obj}{w:Nat->Str}{pos:Nat->Nat}{N pE:Nat}{stE:D}{tokE:Str}
theorem LE(LR:iB C a line n fN w pos N pE stE tokE)(TK:fM C a fN fI fS fG aS bm obm)(UK:tT C aS fW lo hi)(hn:8<=n)(hN:N<=20){A:Around}{B:Heap}{env:Env}{X:Addr->Prop}{s:Shared}{l:List Env}{ts:List D}{c P:Addr}
 (O:Ok (C.turn (aK a line (pos 0) (.str " ") "")) (n+1) (aD (aY 45)) (tR a line ts) A B env X s.heap) (bo:∀b,dH a b->B.get? b=none) (S:xN (aK a line (pos 0) (.str " ") "") A env l s.heap) (hlB:∀b,oX (env::l) b->B.get? b=none)
 (hcode:env.code=.ref c) (hok:∃ps,iE s.heap c P ps) (hPB:B.get? P=none) (hcB:∃o,B.get? c=some o) (hPo:¬dH a P) (hts:ts.length<=100) (pass:∀j,j<N->0<=vN w j)
 {Q:Flow->Shared->Prop} {E:Value->Shared->Prop}
 (h:∀(v:Value) (h':Heap) (tk:Tok) (gs:Array GenState),Rd X h' v (.list (ts++[mD w N]))->KT a env l P s.heap h'->(∃ps,iE h' c P ps)->oD s.gens gs->Q (.ret v) {s with heap:=h',toks:=tk,gens:=gs}) :
 wpAny C.M A (execs RU env) Q E s:=by
 refine tS (j1:=N) (ws:=rd w N) (pZ:=pE) (stZ:=stE) (tokZ:=tokE) (cls1:=.type "ValueError") (txt1:=JU) LR TK hn hN O bo S hlB hcode hok hPB hcB hPo (Nat.le_refl _) pass (λR=>.inr ⟨rfl,rfl,rfl,rfl⟩) λR Kp h1 e t tb tk h3 tk3 gs Z0 s0 nR nK nKR nXR nXK B1 F3 cl hb=>?_
 have rmA:Rm 8 (A.mark (some (.ref e))):=⟨by have:=O.rm.d;show A.depth+2*8<720;lia,by have:=O.rm.u;show A.units+8*8<9000;lia,λq=>by lia⟩
 have hA:(A.mark (some (.ref e))).handled=some (.ref e):=rfl
 have At:=cl _ _ _ F3
 have O3:=At.ok _ 8 rmA hA
 show wpAny _ _ (handleBy (.ref e) env (.ExceptHandler (some (.Name "StatisticsError" _)) (some "fault") [_] _::.ExceptHandler (some (.Name "ValueError" _)) (some "fault") [.Return (some _) _] _::_)) _ _ _
 refine qX ?_
 refine cA (C:=C.turn (((aK a line pE stE tokE).and (cO R (PD ((rd w N).map .str)))).and (cO Kp (PD (xO w N))))) (s:={s with heap:=h3,toks:=tk3,gens:=gs}) O3 rfl TK.gE ∅ ?_
 refine kN (h:=h3) (s:={s with heap:=h3,toks:=tk3,gens:=gs}) F3.ex (UK.clS.nt _ _ O3.gl.k) (UK.clS.ex _ _ O3.gl.k) (looks_subIn O3.gl.k UK.vs) ?_
 rwa[if_neg Bool.false_ne_true]
 refine qX ?_
 refine cC (C:=C.turn (((aK a line pE stE tokE).and (cO R (PD ((rd w N).map .str)))).and (cO Kp (PD (xO w N))))) (s:={s with heap:=h3,toks:=tk3,gens:=gs}) O3 rfl UK.gV.1 UK.gV.2 ∅ ?_
 refine kN (h:=h3) (s:={s with heap:=h3,toks:=tk3,gens:=gs}) F3.ex (Looks.of_pure TR) (Looks.of_pure TT) (Looks.of_pure HM) ?_
 rwa[if_pos rfl]
 refine tQ (s:=s) (sh:=s.heap) F3 cl rmA hA nR nK nXR nXK nKR B1 S.fr S.off λh5 tk5 O5 ic5 K5 fo5=>?_
 have hz:∀k,k<=1000->k<=sizeLine:=λk h=>Nat.le_trans h ∅
 refine wpAny_execs_cons (wpAny_Return_some ?_)
 refine (cR (C:=C.turn ((aK a line pE stE tokE).and (CJ e t (.type "ValueError") JU))) (n:=8) (sc:=aD (aY 45)) (δ:=RW a line ts e (rd w N) (xO w N)) (a:=.list ts) (b:=.list [mD w N]) (aA rfl rfl) (bU (bY (bU (aF (aA rfl rfl) (aF (aA rfl rfl) (aF (bU bM ∅) (bY (rL (C:=C.turn ((aK a line pE stE tokE).and (CJ e t (.type "ValueError") JU))) (λh H=>H.2) (PA _) rfl rfl ∅ ∅ rfl ⟨TK.b.str.1,TK.b.str.2⟩))))) (hz 4 ∅))) (hz 1 ∅)) (dD (hz _ (by simp;exact Nat.le_trans (by assumption) ∅)))).go _ B env X {s with heap:=h5,toks:=tk5,gens:=gs} _ _ O5 λv s6 k6 r6=>?_
 have O6:=O5.on (s:={s with heap:=h5,toks:=tk5,gens:=gs}) k6
 revert r6 O6;refine kE k6 ?_;clear k6;intro h6 tk6 k6 r6 O6
 have b6:oM env h5 h6:=λb o _ _ q=>k6 b o q
 have O6a:Ok (C.turn (aK a line pE stE tokE)) (n+1) (aD (aY 45)) (tR a line ts) A B env X h6:=by
  have:=(O6.watch (J:=aK a line pE stE tokE) (λb q=>.inl q) (λb q=>.inl q) O6.iv.1).around (n':=n+1) (A':=A) O.rm (.inl S.hh)
  exact Ok.sub this (aM rfl (aM rfl (aM rfl eA)))
 refine Ok.nameGoes (C:=C.turn (aK a line pE stE tokE)) (s:={s with heap:=h6,toks:=tk6,gens:=gs}) (x:="fault") O6a S.hh rfl rfl λh7 tk7 O7 k7=>?_
 have b7:oM env h6 h7:=λb o z _ e=>k7 b o z e
 refine h v h7 tk7 gs (r6.at λb o xb l e'=>⟨xb,O6a.fields b7 e' (λes ep w=>by obtain _|_|rfl:=mF l;injection w) (λv w=>by obtain _|_|rfl:=mF l;injection w)⟩) (K5.trans ((KT.frb b6).trans (KT.frb b7))) (O6a.code b7 (O5.code b6 ic5)) hb
end
noncomputable def cS(w:Nat->Str)(N:Nat):Option Nat:=(List.range N).find? λj=>decide (vN w j<0)
theorem uP{w:Nat->Str}{N j:Nat}(h:cS w N=some j):j<N/\vN w j<0/\∀i,i<j->0<=vN w i:=by
 unfold cS at h
 rw[List.find?_range_eq_some] at h
 obtain h1|h2|h3:=tZ h
 refine⟨List.mem_range.mp h2,by simpa using h1,λi hi=>?_⟩
 have:=h3 i hi
 simpa using this
theorem uQ{w:Nat->Str}{N:Nat}(h:cS w N=none):∀i,i<N->0<=vN w i:=by
 intro i hi
 unfold cS at h
 rw[List.find?_eq_none] at h
 have:=h i (List.mem_range.mpr hi)
 simpa using this
noncomputable def kH:Nat->(Nat->Str)->Nat->List D
 | 0,w,N=>[mD w N]
 | f+1,w,N=>match cS w N with
  | none=>[mD w N]
  | some j=>jC w j::kH f (λi=>w (j+1+i)) (N-(j+1))
noncomputable def oH:Nat->(Nat->Str)->Nat->Prop
 | 0,w,N=>True
 | f+1,w,N=>match cS w N with
  | none=>True
  | some j=>xZ (rd w (j+1))/\oH f (λi=>w (j+1+i)) (N-(j+1))
section
variable{C:Cx}{n:Nat}{a:gU}{line:Str}{fN fI fS fG aS bm fW lo hi:Addr}{obm:Obj}
theorem iB.shift{w:Nat->Str}{pos:Nat->Nat}{N pE:Nat}{stE:D}{tokE:Str}(L:iB C a line n fN w pos N pE stE tokE){k:Nat}(hk:k<=N):iB C a line n fN (λi=>w (k+i)) (λi=>pos (k+i)) (N-k) pE stE tokE where
 word:=λi hi=>L.word (k+i) (by grind)
 fault:=by
  have:k+(N-k)=N:=by grind
  show GK (C.turn (aK a line (pos (k+(N-k))) _ _)) _ _ _ _ _ _ _
  rwa[this];exact L.fault
 few:=λi hi=>L.few (k+i) (by grind)
noncomputable def EC:Stmt:=((aX (aY 45)).drop 1).headD (.Pass ⟨0,0,0,0⟩)
structure WI(C:Cx)(n:Nat)(a:gU)(line:Str)(fN:Addr)(pE:Nat)(stE:D)(tokE:Str)(A:Around)(B:Heap)(env:Env)(X:Addr->Prop)(l:List Env)(c P:Addr)(out:List D)(s0:Shared)(f:Nat)(s:Shared):Prop where
 go:∃(w:Nat->Str) (pos:Nat->Nat) (N:Nat) (ts:List D),iB C a line n fN w pos N pE stE tokE/\N<=20/\N<=f/\oH f w N/\ts.length+f<=100/\ts++kH f w N=out /\
  Ok (C.turn (aK a line (pos 0) (.str " ") "")) (n+1) (aD (aY 45)) (tR a line ts) A B env X s.heap/\xN (aK a line (pos 0) (.str " ") "") A env l s.heap
 code:∃ps,iE s.heap c P ps
 kt:KT a env l P s0.heap s.heap
 st:∃h' tk gs,s={s0 with heap:=h',toks:=tk,gens:=gs}/\oD s0.gens gs
theorem zS(TK:fM C a fN fI fS fG aS bm obm)(UK:tT C aS fW lo hi)(hn:8<=n){A:Around}{B:Heap}{env:Env}{X:Addr->Prop}{s:Shared}{l:List Env}{c P:Addr}{w:Nat->Str}{pos:Nat->Nat}{N pE:Nat}{stE:D}{tokE:Str}(LR:iB C a line n fN w pos N pE stE tokE)(hN:N<=20)(hr:oH 20 w N)
 (O:Ok (C.turn (aK a line (pos 0) (.str " ") "")) (n+1) (aD (aY 45)) (tR a line []) A B env X s.heap) (bo:∀b,dH a b->B.get? b=none) (S:xN (aK a line (pos 0) (.str " ") "") A env l s.heap) (hlB:∀b,oX (env::l) b->B.get? b=none)
 (hcode:env.code=.ref c) (hok:∃ps,iE s.heap c P ps) (hPB:B.get? P=none) (hcB:∃o,B.get? c=some o) (hPo:¬dH a P)
 {Q:Flow->Shared->Prop} {E:Value->Shared->Prop}
 (h:∀(v:Value) (h':Heap) (tk:Tok) (gs:Array GenState),Rd X h' v (.list (kH 20 w N))->KT a env l P s.heap h'->(∃ps,iE h' c P ps)->oD s.gens gs->Q (.ret v) {s with heap:=h',toks:=tk,gens:=gs}) :
 wpAny C.M A (exec EC env) Q E s:=by
 show wpAny _ _ (exec (.While (.Constant (.bool true) _ _) RU [] _) env) _ _ _
 refine wpAny_While (codeAny_whileLoop (λf s'=>WI C n a line fN pE stE tokE A B env X l c P (kH 20 w N) s f s') (λf s1 W=>?_) 20 ⟨⟨w,pos,N,[],LR,hN,hN,hr,by decide,rfl,O,S⟩,hok,KT.refl,s.heap,s.toks,s.gens,rfl,λq=>q⟩)
 rcases ZB W.go with w1|pos1|N1|ts|LR1|hN1|hf|hr1|hts|hout|O1|S1
 refine (eN (C:=C.turn (aK a line (pos1 0) (.str " ") "")) (n:=n+1) (sc:=aD (aY 45)) (δ:=tR a line ts) dJ).go A B env X s1 _ _ O1 λs2 k2=>?_
 rwa[if_pos rfl]
 have O2:=O1.on k2
 have kt0:=W.kt
 have code2:∃ps,iE s2.heap c P ps:=by
  revert O2;refine kE k2 ?_;clear k2;intro h2 tk2 k2 O2
  rcases aU W.code with ps|ic
  exact⟨ps,ic.keeps k2⟩
 have kt2:KT a env l P s.heap s2.heap:=by
  revert O2 code2;refine kE k2 ?_;clear k2;intro h2 tk2 k2 O2 code2
  exact W.kt.trans (KT.frb λb o _ _ q=>k2 b o q)
 have S2:xN (aK a line (pos1 0) (.str " ") "") A env l s2.heap:=by
  revert O2 code2 kt2;refine kE k2 ?_;clear k2;intro h2 tk2 k2 O2 code2 kt2
  exact⟨S1.hh,S1.fs,S1.fr,S1.ok.at λb o es ep _ q _=>⟨o,k2 b o q,rfl⟩,S1.off⟩
 rcases eU W.st with h1|tk1|gs1|rfl|b1
 revert O2 code2 kt2 S2;refine kE k2 ?_;clear k2;intro h2 tk2 k2 O2 code2 kt2 S2
 have last:(∀i,i<N1->0<=vN w1 i)->ts++[mD w1 N1]=kH 20 w N->wpAny C.M A (execs RU env) (λf_1 s₃=>match f_1 with
  | .next | .cont=>∃m,m<f/\WI C n a line fN pE stE tokE A B env X l c P (kH 20 w N) s m s₃
  | .brk=>Q .next s₃
  | .ret v=>Q (.ret v) s₃) (notedBy C.M A env λe s'=>cameBackBy C.M A env E e s') {s with heap:=h2,toks:=tk2,gens:=gs1}:=λpass e=>by
  refine LE (s:={s with heap:=h2,toks:=tk2,gens:=gs1}) LR1 TK UK hn hN1 O2 bo S2 hlB hcode code2 hPB hcB hPo (by exact Nat.le_trans (Nat.le_add_right ..) (by assumption)) pass λv h' tk gs r kt ic hb=>?_
  replace r:=e▸r
  exact h v h' tk gs r (kt2.trans kt) ic λq=>hb (b1 q)
 cases f with
 | zero =>
  have:N1=0:=by lia
  exact last (λi hi=>by lia) hout
 | succ f =>
  cases q:cS w1 N1 with
  | none =>
   refine last (uQ q) ?_
   rwa[←hout]
   show _=ts++(match cS w1 N1 with | none=>_ | some j=>_)
   rwa[q];rfl
  | some j =>
   rcases tZ (uP q) with q1|q2|q3
   have hr2:xZ (rd w1 (j+1))/\oH f (λi=>w1 (j+1+i)) (N1-(j+1)):=by
    have:(match cS w1 N1 with | none=>True | some j=>xZ (rd w1 (j+1))/\oH f (λi=>w1 (j+1+i)) (N1-(j+1))):=hr1
    replace this:=q▸this;exact this
   have out2:(ts++[jC w1 j])++kH f (λi=>w1 (j+1+i)) (N1-(j+1))=kH 20 w N:=by
    rwa[←hout]
    show _=ts++(match cS w1 N1 with | none=>[mD w1 N1] | some j=>jC w1 j::kH f (λi=>w1 (j+1+i)) (N1-(j+1)))
    rwa[q,List.append_assoc ..];rfl
   refine CK (s:={s with heap:=h2,toks:=tk2,gens:=gs1}) LR1 TK UK hn hN1 O2 bo S2 hlB hcode code2 hPB hcB hPo (by exact Nat.le_trans (Nat.le_add_right ..) (by assumption)) q1 q3 q2 hr2.1 λh' tk gs O' S' ic' kt hb=>?_
   refine⟨f,by exact Nat.le_refl _,⟨λi=>w1 (j+1+i),λi=>pos1 (j+1+i),N1-(j+1),ts++[jC w1 j],LR1.shift (by assumption),by grind,by grind,hr2.2,by simp;lia,out2,O',S'⟩,ic',kt2.trans kt,h',tk,gs,rfl,λy=>hb (b1 y)⟩
end
section
variable{C:Cx}{n:Nat}{sc:Scope}{δ:List (Str×D)}
theorem LG{f:Addr}{st:Stmt}{ob:Obj}{fd:FuncData}{args:Args}{names:List Str}{A:Around}{B:Heap}{X:Addr->Prop}{s0:Shared}{R:Result->Shared->Prop}(F:mG C f st ob fd)(hs:fC (aD st) names=true)(P:List D->Prop)
 (hbind:∀(A:Around) (Q:List (Str×Value)->Shared->Prop) (E:Value->Shared->Prop),(∀vs ds s,vs.length=names.length->ds.length=names.length->P ds->Keeps s0 s->dI X s.heap vs ds->Q (names.zip vs) s)->wpAny C.M A (bindArgs fd args) Q E s0)
 (K0:Cl C (n+1) A B X s0)
 (h:∀env h1 tk1 ds,P ds->env.scope=aD st->env.code=fd.code->env.frame=some env.locals->s0.heap.get? env.locals=none->(∀b o,s0.heap.get? b=some o->h1.get? b=some o)->(∀x c,env.cells.lookup x=some c->s0.heap.get? c=none)->Ok C n (aD st) (names.zip ds) (A.deeper env) B env X h1 ->
  wpAny C.M (A.deeper env) (execs (aX st) env) (λfl s2=>R (.ok (.ret (match fl with | .ret v=>v | _=>.none))) s2) (λe s2=>wpAny C.M (A.deeper env) (leaving env e) (λ_ s3=>R (.error e) s3) (λe' s3=>R (.error e') s3) s2) {s0 with heap:=h1,toks:=tk1}) :
 codeAny C.M A (.call (.ref f) args) R s0:=by
 obtain⟨hK,hd,hcode,hbody,hscope,hcl,hg,hb⟩:=F
 simp only[fC,Bool.and_eq_true,Bool.or_eq_true,Bool.not_eq_true',decide_eq_true_eq,List.all_eq_true] at hs
 obtain q_0|hfree:=bW hs;obtain q_1|hnames:=bW q_0;obtain q_2|hnd:=bW q_1;obtain q_3|hk:=bW q_2;obtain hco|hgen:=bW q_3
 replace hco:=hscope.symm▸hco;replace hgen:=hscope.symm▸hgen;replace hk:=hscope.symm▸hk;replace hnames:=hscope.symm▸hnames;replace hfree:=hscope.symm▸hfree;replace h:=hscope.symm▸h
 have Gs0:=K0.gl.keeps K0.kb
 have cellsOf:∀{m:Nat} {x:Str},fd.scope.names.lookup x=some .cell->((cellsFrom m fd.scope.names []).lookup x).isSome=true:=λhx=>cellsFrom_some _ _ _ (.inl hx)
 refine codeAny_call_function (o:=ob) (by have:=K0.rm.d;show A.depth<1000;lia) (Gs0.k _ _ hK) hd hco hgen hbody (codeRec_of Gs0.k hcode) ?_
 rwa[hcl,hg,hb]
 refine hbind _ _ _ λvs ds s hvl hdl hP kp r=>?_
 have K:Cl C (n+1) A B X s:=⟨K0.rm,K0.ho.keeps (bC kp),K0.xo.keeps (bC kp),K0.gl,λb o e=>bC kp _ _ (K0.kb b o e),K0.bo,C.I.at_ _ _ K0.iv λb o _ e=>bC kp _ _ e,K0.ox⟩
 obtain⟨rm,ho,xo,G,kB,bo,iv,ox⟩:=K
 have Gs:=G.keeps kB
 have hlen:=r.length
 have mem_zip:∀x∈names.zip vs,x.1∈names:=λx hx=>(List.of_mem_zip hx).1
 refine (wpAny_newFunctionEnv_cells hk (λx hx=>(hnames x.1 (mem_zip x hx)).imp id λq=>⟨q,cellsOf q⟩) λenv henv s1 ic=>⟨?_,?_⟩)
 . exact Gs.nl.keeps ic.toInCall.keep
 rcases mF ic.toInCall.same with h1|tk1|rfl
 have k1:∀b o,s.heap.get? b=some o->h1.get? b=some o:=ic.toInCall.keep
 have eL:env.locals=s.heap.objs.size:=by rwa[henv];rfl
 have eC:env.cells=cellsFrom (s.heap.objs.size+1) fd.scope.names []:=by rwa[henv];rfl
 have eS:env.scope=fd.scope:=by rwa[henv];rfl
 have eG:env.globals=mainGlobals:=by rwa[henv];rfl
 have eB:env.builtins=builtinsNs:=by rwa[henv];rfl
 have kO:∀x,env.kindOf x=fd.scope.names.lookup x:=λx=>by unfold Env.kindOf;rwa[eS];rfl
 have nd:((names.zip vs).map (·.1)).Nodup:=by
  have:(names.zip vs).map (·.1)=names.take vs.length:=nW names vs
  rwa[this];exact hnd.sublist (List.take_sublist _ _)
 have off:∀c,s.heap.objs.size<=c->s.heap.get? c=none:=λc hc=>by
  cases q:s.heap.get? c with
  | none=>rfl
  | some o=>exact absurd (Nat.lt_of_lt_of_le (Heap.lt_size q) hc) (Nat.lt_irrefl _)
 have cOff:∀x c,env.cells.lookup x=some c->s.heap.get? c=none:=λx c e=>off c (by have q:=ic.above x c (bT e);replace q:=eL▸q;exact Nat.le_of_lt q)
 have nown:∀c,s.heap.get? c=none->¬C.I.own c:=λc e ob=>by
  rcases aU (C.I.dom _ _ iv ob) with o|q
  injection tq e q
 have nB:∀c,s.heap.get? c=none->B.get? c=none:=λc e=>by
  cases q:B.get? c with
  | none=>rfl
  | some o=>injection tq (kB c o q) e
 have O1:Ok C n fd.scope (names.zip ds) (A.deeper env) B env X h1:=by
  refine⟨⟨?_,?_,λq=>rm.hn (by exact Nat.le_succ_of_le (by assumption))⟩,?_,xo.keeps k1,C.I.at_ _ _ iv λb o _ e=>k1 b o e,ox,λx=>if fd.scope.names.lookup x=some .local then bindL env.kindOf (names.zip vs) (λ_=>none) x else bindC env.kindOf (names.zip vs) (λ_=>none) x,?_,λx dd e=>?_⟩
  . have:=rm.d;show A.depth+1+2*n<720;lia
  . have:=rm.u;show A.units+3+8*n<9000;lia
  . exact ho.keeps k1
  . refine⟨⟨G,λb o e=>k1 b o (kB b o e),⟨by rwa[eL];exact nB _ aN,λob=>nown _ (by rwa[eL];exact aN) ob⟩,λx c e=>⟨nB _ (cOff x c e),λob=>nown _ (cOff x c e) ob⟩⟩,eS,hk,eG,eB,⟨_,ic.toInCall.ns,λx hx=>by rwa[if_pos hx];rfl⟩,λx hx=>?_,λx y c e1 e2=>mK ic.apart (bT e1) (bT e2),λx c e=>⟨_,ic.cell x c e⟩⟩
    rcases hx with hx | hx
    . rcases aU (Option.isSome_iff_exists.mp (cellsOf (m:=s.heap.objs.size+1) hx)) with c|hc
      refine⟨c,by rwa[eC];exact hc,?_⟩
      rwa[if_neg (by refine zl hx ?_;intro q;cases q)]
      exact ic.cell x c (by rwa[eC];exact hc)
    . exact absurd rfl (hfree _ (eW hx))
  . rcases aL (iL r e) with v|e1|r1
    refine⟨v,?_,r1.keeps k1⟩
    dsimp only
    rwa[kY _ _ _ _ nd,mJ _ _ _ _ nd,e1]
    by_cases q:fd.scope.names.lookup x=some .local
    . simp[q,kO]
    . simp[q,kO]
 have fr:env.frame=some env.locals:=by rwa[henv];rfl
 have up:∀b,s.heap.get? b=none->s0.heap.get? b=none:=λb e=>by
  cases q:s0.heap.get? b with
  | none=>rfl
  | some o=>injection tq (bC kp _ _ q) e
 revert r ho xo kB iv Gs henv ic k1 eL eC off cOff nown nB up;refine kE kp ?_;clear kp;intro hs' tks kps r ho xo kB iv Gs henv ic k1 eL eC off cOff nown nB up
 have eK:env.code=fd.code:=by rwa[henv];rfl
 exact codeAny_func (h env h1 tk1 ds hP eS eK fr (up _ (by rwa[eL];exact aN)) (λb o e=>k1 b o (kps b o e)) (λx c e=>up c (cOff x c e)) O1)
theorem Ok.addFresh{A:Around}{B:Heap}{env:Env}{X:Addr->Prop}{h h':Heap}{J:bX}(O:Ok C n sc δ A B env X h)(k:∀b o,h.get? b=some o->h'.get? b=some o)(iv:J.inv h')(hl:∀b,¬J.lst b)(hf:∀b,J.own b->h.get? b=none):Ok (C.turn (C.I.and J)) n sc δ A B env X h':=by
 have O':=O.keeps k
 rcases aL O.st with ρ0|F0|_
 rcases aL O'.st with ρ|F|V
 rcases nU F.base with G|k0|hL|hC
 rcases aL F0.ns with m|q_0|_;obtain o|es|ep|e1|e2|_:=nV q_0
 refine⟨O'.rm,O'.ho,O'.xo,⟨O'.iv,iv⟩,λb q=>q.elim (O'.ox b) λq=>(hl b q).elim,ρ,⟨⟨⟨G.k,G.g,G.b,G.nl⟩,k0,⟨hL.1,λq=>q.elim hL.2 λq=>?_⟩,λy c z=>⟨(hC y c z).1,λq=>q.elim (hC y c z).2 λq=>?_⟩⟩,F.scope,F.kind,F.globals,F.builtins,F.ns,F.cells,F.inj,F.allc⟩,V⟩
 . injection tq (hf _ q) e1
 . rcases dZ (F0.allc y c z) with v|o'|q1|q2
   injection tq (hf _ q) q1
theorem CM{ob:Obj}{fd:FuncData}{fI fT:Addr}{obI:Obj}{fdI:FuncData}{rest:List Value}{fL:Addr}{obL:Obj}{fdL:FuncData}(hn:200<=n)(K:oZ C ob fd fI fT obI fdI rest fL obL fdL)(hki:keepIn C.K (.ref 797)=true)(hg:C.mg ("shlex":Str)=some (.ref 797))
 {A:Around} {B:Heap} {env:Env} {X:Addr->Prop} {s:Shared} {line:Str} {np lp cp q1 q2 r1 r2:Pos} {k1 k2:Nat} {Q:Value->Shared->Prop} {E:Value->Shared->Prop} (O:Ok C (n+2) sc δ A B env X s.heap) (bo:Bo C B) (hk:sc.names.lookup ("shlex":Str)=some .globalImplicit) (hl:δ.lookup ("line":Str)=some (.str line)) (hln:PS (sc.names.lookup ("line":Str))=true)
 (h:∀a h' tk',(∀b o,s.heap.get? b=some o->h'.get? b=some o)->(∀b,dH a b->s.heap.get? b=none)->a.CL=797->a.CS=662->a.dL≠a.dS->rU a line 0 (.str " ") "" h'->Q (.ref a.L) {s with heap:=h',toks:=tk'}) :
 wpAny C.M A (eval (.Call (.Name "shlex" np) [.Name "line" lp] [⟨some "posix",.Constant (.bool true) k1 q1,r1⟩,⟨some "punctuation_chars",.Constant (.str "|") k2 q2,r2⟩] cp) env) Q E s:=by
 refine wpAny_Call_ofName (cA O hk hg ∅ ?_)
 have hA:=(bY (C:=C) (n:=n+2) (sc:=sc) (δ:=δ) (aA (pos:=lp) hl hln)).go A B env X cp s
 refine callWith_of (P:=C.K.In) rfl (keeps_K hki) ?_
 show wpAny _ _ (evalArgs _ true ((false,eval (.Name "line" lp) env)::[]) [(some "posix",do let v ←eval (.Constant (.bool true) k1 q1) env;standAt cp;pure v),(some "punctuation_chars",do let v ←eval (.Constant (.str "|") k2 q2) env;standAt cp;pure v)]) _ _ _
 refine evalArgs_kw rfl (hA _ _ O λvs s1 k1' r1'=>?_)
 have O1:=O.on k1'
 cases r1' with
 | cons ra rb =>
 obtain rfl:=bJ rb
 obtain tk|rfl:=aU (bN ra)
 show wpAny C.M A (evalAll [do let v ←eval (.Constant (.bool true) k1 q1) env;standAt cp;pure v,do let v ←eval (.Constant (.str "|") k2 q2) env;standAt cp;pure v]) _ E s1
 refine wpAny_evalAll_cons (wpAny_bind (wpAny_Constant_bool (wpAny_bind (wpAny_standAt (wpAny_pure ?_)))))
 refine wpAny_evalAll_cons (wpAny_bind (wpAny_Constant_str (wpAny_bind (wpAny_standAt (wpAny_pure (wpAny_evalAll_nil ?_))))))
 have kt:Keeps s1 {s1 with toks:=s1.toks+1}:=aV
 have O2:=O1.on kt
 refine⟨O2.gl.k,wpAny_call (CB hn K (O2.cl bo) λa h2 tk2 kp fr e1 e2 ne lh=>?_)⟩
 revert O1 kt O2 kp fr;refine kE k1' ?_;clear k1';intro h1 tk1 kk O1 kt O2 kp fr
 refine h a h2 tk2 (λb o e=>kp b o (kk b o e)) (λb q=>bG kk (fr b q)) e1 e2 ne lh
end
noncomputable def ED:Stmt:=(aX (aY 45)).headD (.Pass ⟨0,0,0,0⟩)
section
variable{C:Cx}{n:Nat}
theorem CN{ob:Obj}{fd:FuncData}{fI fT:Addr}{obI:Obj}{fdI:FuncData}{rest:List Value}{fL:Addr}{obL:Obj}{fdL:FuncData}(hn:200<=n)(K:oZ C ob fd fI fT obI fdI rest fL obL fdL)(hki:keepIn C.K (.ref 797)=true)(hg:C.mg ("shlex":Str)=some (.ref 797))
 {A:Around} {B:Heap} {env:Env} {X:Addr->Prop} {s:Shared} {line:Str} {Q:Flow->Shared->Prop} {E:Value->Shared->Prop} (O:Ok C (n+2) (aD (aY 45)) [(("line":Str),.str line)] A B env X s.heap) (bo:Bo C B)
 (h:∀a h' tk,(∀b,dH a b->s.heap.get? b=none)->a.CL=797->a.CS=662->a.dL≠a.dS->Ok (C.turn (aK a line 0 (.str " ") "")) (n+2) (aD (aY 45)) (tR a line []) A B env X h'->oM env s.heap h'->Q .next {s with heap:=h',toks:=tk}) :
 wpAny C.M A (exec ED env) Q E s:=by
 have hsc:env.scope=aD (aY 45):=let ⟨_,F,_⟩:=O.st;F.scope
 show wpAny _ _ (exec (.Assign [.Tuple [.Name "lexer" _,.Name "trees" _] _ _] (.Tuple [.Call (.Name "shlex" _) [.Name "line" _] [⟨some "posix",.Constant (.bool true) _ _,_⟩,⟨some "punctuation_chars",.Constant (.str "|") _ _,_⟩] _,.List [] _] _ _) _) env) _ _ _
 refine Assign_Tuple_swapped (names:=["lexer","trees"]) (wpAny_Tuple (wpAny_items_cons (CM hn K hki hg O bo rfl rfl rfl λa h1 tk1 k1 fr e1 e2 ne lh=>?_) rfl)) rfl ?_
 . have O1:Ok (C.turn (C.I.and (aK a line 0 (.str " ") ""))) (n+2) (aD (aY 45)) [(("line":Str),.str line)] A B env X h1:=O.addFresh k1 lh (λ_ q=>q) fr
   refine (bY (C:=C.turn (C.I.and (aK a line 0 (.str " ") ""))) (n:=n+2) (sc:=aD (aY 45)) (δ:=[(("line":Str),.str line)]) (bU bM ∅)).go A B env X _ _ _ _ O1 λvs s2 k2 r2=>?_
   obtain v2|_|r2|r3|rfl:=iG (aR r2)
   obtain rfl:=bJ r3
   refine⟨(by decide:2<=sizeLine),?_⟩
   have O2:=O1.on k2
   revert r2 O2;refine kE k2 ?_;clear k2;intro h2 tk2 k2 r2 O2
   obtain⟨hp,hhp⟩:∃hp,hp=h2.push {cls:=.type "tuple",data:=.seq [.ref a.L,v2].toArray}:=⟨_,rfl⟩
   have k0:∀b o,h2.get? b=some o->hp.get? b=some o:=λb o e=>by rwa[hhp];exact Heap.get?_push_of_some _ e
   have ht:hp.get? h2.objs.size=some {cls:=.type "tuple",data:=.seq [.ref a.L,v2].toArray}:=by rwa[hhp];exact Heap.get?_push_size _ rfl
   rwa[←hhp]
   have O3:=O2.keeps k0
   refine jM (s:={s with heap:=hp,toks:=tk2}) (items:=[.ref a.L,v2]) O3.ho ht λh3 k3=>?_
   have O4:=O3.keeps k3
   have kk:∀b o,h2.get? b=some o->h3.get? b=some o:=λb o e=>k3 b o (k0 b o e)
   show wpAny _ _ (holding _ (bindName env "trees" v2) >>= λ_=>assignInOrder [bindName env "lexer"] [.ref a.L]) _ _ _
   refine wpAny_bind (wpAny_holding (bindName_ (O4.store (s:={s with heap:=h3,toks:=tk2}) (r2.keeps kk) (k:=.local) rfl (.inl rfl) λh4 tk4 O5 B4 st4 lo4=>?_)))
   show wpAny _ _ (holding _ (bindName env "lexer" (.ref a.L)) >>= λ_=>assignInOrder [] []) _ _ _
   refine wpAny_bind (wpAny_holding (bindName_ (O5.store (s:={s with heap:=h4,toks:=tk4}) (.ptr a.L) (k:=.local) rfl (.inl rfl) λh5 tk5 O6 B5 st5 lo5=>?_)))
   refine wpAny_pure (h a h5 tk5 fr e1 e2 ne ?_ ((oM.of_keeps λb o e=>kk b o (k2 b o (k1 b o e))).trans (B4.trans B5)))
   have:=O6.watch (J:=aK a line 0 (.str " ") "") (λb q=>.inr q) (λb q=>.inr q) O6.iv.2
   exact Ok.sub this (aM rfl (aM rfl (aM rfl eA)))
 . obtain⟨_,_⟩:=env
   subst hsc
   rfl
end
section
variable{C:Cx}{n m:Nat}
noncomputable def KC(l:List Env)(P:Addr)(h0 h:Heap):Prop:=∀b o,b≠P->h0.get? b=some o->(¬oX l b->h.get? b=some o)/\∃sl,h.get? b=some {o with slots:=sl}
theorem CO{ob:Obj}{fd:FuncData}{fI fT:Addr}{obI:Obj}{fdI:FuncData}{rest:List Value}{fL:Addr}{obL:Obj}{fdL:FuncData}(hm:200<=m)(K:oZ C ob fd fI fT obI fdI rest fL obL fdL)(hki:keepIn C.K (.ref 797)=true)(hgs:C.mg ("shlex":Str)=some (.ref 797))
 {fX:Addr} {obX:Obj} {fdX:FuncData} (FX:mG C fX (aY 45) obX fdX) (hbX:∀v:Value,bindArgs fdX ⟨[v],[]⟩=pure [(("line":Str),v)]) {fN fIt fS fG aS bm fW lo hi:Addr} {obm:Obj} (TK:∀a:gU,a.CL=797->a.CS=662->fM C a fN fIt fS fG aS bm obm) (UK:tT C aS fW lo hi) (hn:8<=n) (hnm:n+1<=m+2)
 {line:Str} {w:Nat->Str} {pos:Nat->Nat} {N pE:Nat} {stE:D} {tokE:Str} (LR:∀a:gU,a.CL=797->a.CS=662->a.dL≠a.dS->iB C a line n fN w pos N pE stE tokE) (hp0:pos 0=0) (hN:N<=20) (hr:oH 20 w N)
 {A:Around} {B:Heap} {X:Addr->Prop} {s:Shared} {l:List Env} {c P:Addr} {tk:Tok} {R:Result->Shared->Prop} (Cl0:Cl C (m+3) A B X s) (hh:A.handled=none) (hfr:A.frames=some l) (hfo:dO bX.none l s.heap) (hlB:∀b,oX l b->B.get? b=none)
 (hcode:fdX.code=.ref c) (hok:∃ps,iE s.heap c P ps) (hPB:B.get? P=none) (hcB:∃o,B.get? c=some o)
 (hR:∀(v:Value) (h':Heap) (tk':Tok) (gs:Array GenState),Rd X h' v (.list (kH 20 w N))->KC l P s.heap h'->(∃ps,iE h' c P ps)->oD s.gens gs->R (.ok (.ret v)) {s with heap:=h',toks:=tk',gens:=gs}) :
 codeAny C.M A (.call (.ref fX) ⟨[.str line tk],[]⟩) R s:=by
 refine LG (C:=C) (n:=m+2) (names:=["line"]) FX ∅ (λds=>ds=[.str line]) (λA' Q E h=>?_) Cl0 λenv h1 tk1 ds hP hsc hcd hf nL k1 hC O1=>?_
 . rwa[hbX ..]
   exact wpAny_pure (h [.str line tk] [.str line] s rfl rfl rfl (aE s) (.cons (.str _ _) .nil))
 . subst hP
   show wpAny _ _ (execs [ED,EC] env) _ _ _
   refine wpAny_execs_cons (CN (s:={s with heap:=h1,toks:=tk1}) hm K hki hgs O1 Cl0.bo λa h2 tk2 fr e1 e2 ne O2 b2=>?_)
   have nEnv:∀b o,s.heap.get? b=some o->¬zF env b:=λb o e z=>by
    rcases z with z | ⟨x,z⟩
    . replace e:=nL▸z▸e;injection e
    . injection tq (hC x b z) e
   have there:∀b,oX l b->∃o es ep,s.heap.get? b=some o/\o.data=.dict es ep:=λb hb=>(hfo.mem hb).2
   have hoff:∀b,oX l b->¬zF env b:=λb hb=>let ⟨o,_,_,e,_⟩:=there b hb;nEnv b o e
   have k12:∀b o,s.heap.get? b=some o->h2.get? b=some o:=λb o e=>b2 b o (λz=>nEnv b o e (.inl z)) (λx z=>nEnv b o e (.inr ⟨x,z⟩)) (k1 b o e)
   have fr0:∀b,dH a b->s.heap.get? b=none:=λb q=>bG k1 (fr b q)
   have O3:Ok (C.turn (aK a line (pos 0) (.str " ") "")) (n+1) (aD (aY 45)) (tR a line []) (A.deeper env) B env X h2:=by
    rwa[hp0]
    exact O2.around (O2.rm.le hnm) (.inl hh)
   obtain ps|ic:=aU hok
   rcases aL (GP.code_notSeq ic) with oP|eP|dP
   have S:xN (aK a line (pos 0) (.str " ") "") (A.deeper env) env l h2:=by
    refine⟨hh,by show A.frames.map (env::·)=_;rwa[hfr];rfl,hf,λen he=>?_,hoff⟩
    rcases bW (hfo en he) with kk|q_0;obtain L|o|es|ep|q1|q2|q3|q4:=uS q_0
    exact⟨kk,L,o,es,ep,q1,λq=>(by injection tq (fr0 L q) q3),k12 _ _ q3,q4⟩
   have lB:∀b,oX (env::l) b->B.get? b=none:=λb hb=>by
    rcases aL (List.mem_filterMap.mp hb) with en|he|w
    cases he with
    | head=>have h_:=sx hf w;clear w;subst h_;rcases aL O2.st with _|F|_;exact F.base.2.2.1.1
    | tail _ he=>exact hlB b (List.mem_filterMap.mpr ⟨en,he,w⟩)
   refine wpAny_execs_cons (zS (s:={s with heap:=h2,toks:=tk2}) (TK a e1 e2) UK hn (LR a e1 e2 ne) hN hr O3 (λb q=>bG Cl0.kb (fr0 b q)) S lB (hcd.trans hcode) ⟨ps,ic.keeps k12⟩ hPB hcB (λq=>by injection tq (fr0 P q) eP) λv h' tk' gs r kt ic' hb=>?_)
   refine hR v h' tk' gs r (λb o z e=>?_) ic' hb
   exact kt b o (λy=>y.elim (λy=>by injection tq (fr0 b y) e) λy=>y.elim (nEnv b o e) z) (k12 b o e)
end
noncomputable def mE:LX->List Nat->Prop
 | _,[]=>True
 | x,c::r=>ST x.s c/\mE (x.step c) r
theorem iC:∀{l r:List Nat} {x:LX},mE x l->mE (l.foldl LX.step x) r->mE x (l++r)
 | [],_,_,_,h=>h
 | c::l,r,x,h,k=>⟨h.1,iC (l:=l) h.2 k⟩
theorem tU:∀{l:List Nat} {x:LX},mE x l->∀{i c:Nat},l[i]?=some c->ST ((l.take i).foldl LX.step x).s c
 | [],_,_,i,c,e=>by trivial
 | d::l,x,h,0,c,e=>by obtain rfl:=Option.some.inj e;exact h.1
 | d::l,x,h,i+1,c,e=>tU (l:=l) h.2 (by simpa using e)
noncomputable def xI(l:List Nat):Str:=⟨l.toArray⟩
theorem pA(t:Str)(c:Nat)(l:List Nat):t++ch c++xI l=t++xI (c::l):=by
 apply Str.ext'
 show (t.cps++#[c])++l.toArray=t.cps++(c::l).toArray
 rwa[Array.append_assoc];simp
theorem rM(t:Str):t++xI []=t:=by
 apply Str.ext'
 show t.cps++([]:List Nat).toArray=t.cps
 rfl
theorem kQ(a b c:Str):a++b++c=a++(b++c):=by
 apply Str.ext'
 show (a.cps++b.cps)++c.cps=a.cps++(b.cps++c.cps)
 rwa[Array.append_assoc];rfl
theorem LH:∀(l:List Nat) (t:Str) (q:Bool),(∀c∈l,c∈rV)->mE ⟨.q 39,t,q⟩ l/\∃q',l.foldl LX.step ⟨.q 39,t,q⟩=⟨.q 39,t++xI l,q'⟩
 | [],t,q,_=>⟨trivial,q,by rwa[rM ..];rfl⟩
 | c::l,t,q,h=>by
  have hc:=lU c (h c (.head _))
  have e:LX.step ⟨.q 39,t,q⟩ c=⟨.q 39,t++ch c,true⟩:=by unfold LX.step;dsimp only;rwa[if_neg hc.2.2.2.2.2.2.1];rfl
  rcases bW (LH l (t++ch c) true λd hd=>h d (.tail _ hd)) with h1|q_0;obtain q'|h2:=aU q_0
  refine⟨⟨⟨.inl rfl,hc.2.2.1,hc.2.2.2.2.2.1⟩,by rwa[e];exact h1⟩,q',?_⟩
  rwa[List.foldl_cons,e,h2,pA ..];rfl
theorem PE(t:Str)(q:Bool):mE ⟨.q 39,t,q⟩ [39,34,39,34,39]/\∃q',[39,34,39,34,39].foldl LX.step ⟨.q 39,t,q⟩=⟨.q 39,t++ch 39,q'⟩:=by
 refine⟨⟨⟨.inl rfl,by rwa[dA ..];decide +kernel,by decide⟩,.inr (.inr rfl),⟨.inr rfl,by rwa[dA ..];decide +kernel,by decide⟩,⟨.inr rfl,by rwa[dA ..];decide +kernel,by decide⟩,.inr (.inl rfl),trivial⟩,true,rfl⟩
theorem LI:jO.cps.toList=[39,34,39,34,39]:=by decide +kernel
theorem fU(x y:Str):(x++y).cps.toList=x.cps.toList++y.cps.toList:=by
 show (x.cps++y.cps).toList=_
 simp
theorem xJ(x:Str):xI x.cps.toList=x:=by
 apply Str.ext'
 show x.cps.toList.toArray=x.cps
 rfl
theorem vO:∀(ps:List Str) (t:Str) (q:Bool),(∀p∈ps,∀c∈p.cps.toList,c∈rV)->ps≠[]->mE ⟨.q 39,t,q⟩ (Str.join jO ps).cps.toList/\∃q',(Str.join jO ps).cps.toList.foldl LX.step ⟨.q 39,t,q⟩=⟨.q 39,t++Str.join iD ps,q'⟩
 | [],_,_,_,h=>absurd rfl h
 | [p],t,q,h,_=>by
  have:=LH p.cps.toList t q (h p (.head _))
  rw[xJ] at this
  exact this
 | p::p2::r,t,q,h,_=>by
  have e1:Str.join jO (p::p2::r)=p++jO++Str.join jO (p2::r):=rfl
  have e2:Str.join iD (p::p2::r)=p++iD++Str.join iD (p2::r):=rfl
  rcases bW (LH p.cps.toList t q (h p (.head _))) with a1|q_0;obtain q1|b1:=aU q_0
  rw[xJ] at b1
  rcases bW (PE (t++p) q1) with a2|q_0;obtain q2|b2:=aU q_0
  rcases bW (vO (p2::r) (t++p++ch 39) q2 (λx hx=>h x (.tail _ hx)) (by simp)) with a3|q_0;obtain q3|b3:=aU q_0
  rwa[e1,e2,fU ..,fU ..,LI]
  refine⟨iC (iC a1 (by rwa[b1];exact a2)) (by rwa[List.foldl_append,b1,b2];exact a3),q3,?_⟩
  rwa[List.foldl_append,List.foldl_append,b1,b2,b3,kQ ..,kQ ..,kQ ..];rfl
theorem LJ:∀(l:List Nat) (t:Str) (q:Bool),(∀c∈l,c∈rV)->mE ⟨.wd,t,q⟩ l/\l.foldl LX.step ⟨.wd,t,q⟩=⟨.wd,t++xI l,q⟩
 | [],t,q,_=>⟨trivial,by rwa[rM ..];rfl⟩
 | c::l,t,q,h=>by
  have hc:=lU c (h c (.head _))
  have e0:JQ c=false:=by simp[JQ,hc.2.2.2.2.2.2.1,hc.2.2.2.2.2.2.2]
  have e:LX.step ⟨.wd,t,q⟩ c=⟨.wd,t++ch c,q⟩:=by unfold LX.step;dsimp only;rwa[e0];rfl
  rcases bW (LJ l (t++ch c) q λd hd=>h d (.tail _ hd)) with h1|h2
  refine⟨⟨.inl (h c (.head _)),by rwa[e];exact h1⟩,?_⟩
  rwa[List.foldl_cons,e,h2,pA ..];rfl
theorem zT(x:Str):∀{ps:List Str} {p:Str} {c:Nat},p∈ps->c∈p.cps.toList->c∈(Str.join x ps).cps.toList
 | [y],p,c,h,k=>by
  cases h with
  | head=>exact k
  | tail _ h=>cases h
 | y::z::r,p,c,h,k=>by
  have e:Str.join x (y::z::r)=y++x++Str.join x (z::r):=rfl
  rwa[e,fU ..,fU ..]
  cases h with
  | head=>exact List.mem_append_left _ (List.mem_append_left _ k)
  | tail _ h=>exact List.mem_append_right _ (zT x h k)
theorem CP(w:Str)(hw:∀c∈w.cps.toList,c∈rV\/c=39)(h1:w.cps.toList≠[]):mE LX.zero (bP w).cps.toList/\((bP w).cps.toList.foldl LX.step LX.zero).s=.wd/\((bP w).cps.toList.foldl LX.step LX.zero).t=w:=by
 unfold bP
 by_cases hc:Txt.contains w iD=true
 . rwa[if_pos hc]
   have hj:Str.join iD (Txt.split w iD)=w:=StrLaws.join_split w iD
   have hfree:∀p∈Txt.split w iD,∀c∈p.cps.toList,c∈rV:=λp hp c hcc=>by
    have hne:c≠39:=λz=>by
     have:=StrLaws.split_free w 39 p hp
     replace hcc:=z▸hcc;exact this hcc
    have hm:c∈w.cps.toList:=by
     have:=zT iD hp hcc
     replace this:=hj▸this;exact this
    exact (hw c hm).resolve_right hne
   have hne:Txt.split w iD≠[]:=λz=>by
    replace hj:=z▸hj
    replace h1:=hj.symm▸h1
    exact h1 rfl
   rcases bW (vO (Txt.split w iD) "" false hfree hne) with a1|q_0;obtain q1|b1:=aU q_0
   have ea:iD.cps.toList=[39]:=by decide +kernel
   rwa[hG ..,fU ..,fU ..,ea]
   rw[hj,qS] at b1
   refine⟨iC (iC (l:=[39]) ⟨.inr rfl,trivial⟩ a1) ?_,?_,?_⟩
   . rwa[List.foldl_append]
     show mE ((Str.join jO (Txt.split w iD)).cps.toList.foldl LX.step ⟨.q 39,"",false⟩) [39]
     rwa[b1]
     exact⟨⟨.inl rfl,by rwa[dA ..];decide +kernel,by decide⟩,trivial⟩
   . rwa[List.foldl_append,List.foldl_append]
     show ([39].foldl LX.step ((Str.join jO (Txt.split w iD)).cps.toList.foldl LX.step ⟨.q 39,"",false⟩)).s=_
     rwa[b1];rfl
   . rwa[List.foldl_append,List.foldl_append]
     show ([39].foldl LX.step ((Str.join jO (Txt.split w iD)).cps.toList.foldl LX.step ⟨.q 39,"",false⟩)).t=_
     rwa[b1];rfl
 . rwa[if_neg hc]
   have no:∀c∈w.cps.toList,c∈rV:=λc hm=>(hw c hm).resolve_right λz=>hc (by rwa[pS ..];simpa [z] using hm)
   cases e:w.cps.toList with
   | nil=>exact absurd e h1
   | cons c l =>
    replace no:=e▸no
    have hcw:=lU c (no c (.head _))
    have e0:JQ c=false:=by simp[JQ,hcw.2.2.2.2.2.2.1,hcw.2.2.2.2.2.2.2]
    have es:LX.step LX.zero c=⟨.wd,ch c,false⟩:=by unfold LX.step LX.zero;dsimp only;rwa[e0];rfl
    rcases bW (LJ l (ch c) false λd hd=>no d (.tail _ hd)) with a1|b1
    refine⟨⟨.inl (no c (.head _)),by rwa[es];exact a1⟩,?_,?_⟩
    . rwa[List.foldl_cons,es,b1];rfl
    . rwa[List.foldl_cons,es,b1]
      show ch c++xI l=w
      have:ch c++xI l=xI (c::l):=by
       have:=pA "" c l
       rw[qS,qS] at this;exact this
      rwa[this,←e,xJ ..];rfl
noncomputable def dT(ws:List Str):Str:=Str.join " " (ws.map bP)++" 'and"
noncomputable def LL(w:Str):List Nat:=(bP w).cps.toList++[32]
theorem RY:(" ":Str).cps.toList=[32]:=by decide +kernel
theorem PF:(" 'and":Str).cps.toList=[32]++[39,97,110,100]:=by decide +kernel
theorem lW:∀{ws:List Str},ws≠[]->(dT ws).cps.toList=ws.flatMap LL++[39,97,110,100]
 | [],h=>absurd rfl h
 | [w],_=>by
  unfold dT
  rwa[fU ..,PF]
  show (bP w).cps.toList++_=_
  simp[LL]
 | w::w2::r,_=>by
  have ih:=lW (ws:=w2::r) (by simp)
  unfold dT at ih ⊢
  rw[fU] at ih ⊢
  have e:Str.join " " ((w::w2::r).map bP)=bP w++" "++Str.join " " ((w2::r).map bP):=rfl
  rwa[e,fU ..,fU ..,RY,List.append_assoc ..,ih,List.flatMap_cons]
  simp[LL]
noncomputable def jU(ws:List Str)(i:Nat):Nat:=((ws.take i).flatMap LL).length
theorem LM{ws:List Str}{i:Nat}{w:Str}(h:ws[i]?=some w):ws.flatMap LL=(ws.take i).flatMap LL++(LL w++(ws.drop (i+1)).flatMap LL):=by
 obtain⟨hi,e⟩:=List.getElem?_eq_some_iff.mp h
 have:ws=ws.take i++w::ws.drop (i+1):=by
  rwa[←e,←List.drop_eq_getElem_cons hi,List.take_append_drop ..];rfl
 conv=>lhs;rw[this]
 rwa[List.flatMap_append,List.flatMap_cons];rfl
theorem HN{ws:List Str}{i:Nat}{w:Str}(h:ws[i]?=some w):jU ws (i+1)=jU ws i+(bP w).cps.toList.length+1:=by
 unfold jU
 rwa[List.take_add_one,h,List.flatMap_append]
 simp[LL]
 rfl
theorem EE{ws:List Str}{i:Nat}{w:Str}(h:ws[i]?=some w){k c:Nat}(hk:((bP w).cps.toList++[32])[k]?=some c):(dT ws).cps[jU ws i+k]?=some c:=by
 have hne:ws≠[]:=λz=>by replace h:=z▸h;trivial
 rwa[←Array.getElem?_toList,lW hne,LM h,List.append_assoc ..,List.getElem?_append_right (by unfold jU;exact Nat.le_add_right ..)]
 rwa[show jU ws i+k-((ws.take i).flatMap LL).length=k from by unfold jU;simp];rwa[List.append_assoc ..,List.getElem?_append_left (by obtain⟨z,_⟩:=List.getElem?_eq_some_iff.mp hk;exact z)]
 exact hk
theorem LN{ws:List Str}(h:ws≠[]):jU ws ws.length+4=(dT ws).length:=by
 have:(dT ws).length=(dT ws).cps.toList.length:=by rwa[Array.length_toList];rfl
 rwa[this,lW h,List.length_append]
 unfold jU
 rwa[List.take_length];rfl
theorem RZ{ws:List Str}(h:ws≠[]){k c:Nat}(hk:[39,97,110,100][k]?=some c):(dT ws).cps[jU ws ws.length+k]?=some c:=by
 rwa[←Array.getElem?_toList,lW h,List.getElem?_append_right (by unfold jU;refine zl List.take_length ?_;exact Nat.le_add_right ..)]
 rwa[show jU ws ws.length+k-(ws.flatMap LL).length=k from by unfold jU;refine zl List.take_length ?_;simp]
 exact hk
theorem HO:mE LX.zero [39,97,110,100]:=by
 refine⟨.inr rfl,⟨.inl rfl,by rwa[dA ..];decide +kernel,by decide⟩,⟨.inl rfl,by rwa[dA ..];decide +kernel,by decide⟩,⟨.inl rfl,by rwa[dA ..];decide +kernel,by decide⟩,trivial⟩
noncomputable def bI(ws:List Str)(i:Nat):Str:=ws.getD i ""
section
variable{C:Cx}{n:Nat}{a:gU}{fr fc fi pp fg frt fgt:Addr}{rest:List Value}
theorem SA{ws:List Str}(K:ND C a fr fc fi pp fg frt fgt rest){fN:Addr}(F:gI C fN (fH 34 10) pl ["self"])(hn:8<=n)(hz:(dT ws).length<=1000)(hne:ws≠[])(hw:∀w∈ws,(∀c∈w.cps.toList,c∈rV\/c=39)/\w.cps.toList≠[]/\dR w<=2)(gv:C.mg ("ValueError":Str)=none/\C.mb ("ValueError":Str)=some (.type "ValueError")) :
 iB C a (dT ws) (n+3) fN (bI ws) (jU ws) ws.length (jU ws ws.length+4) (.str (ch 39)) ((LX.after [39,97,110,100] 4).t) where
 word:=λi hi=>by
  have hg:ws[i]?=some (bI ws i):=by unfold bI;rwa[List.getElem?_eq_getElem hi,List.getD_eq_getElem?_getD,List.getElem?_eq_getElem hi];rfl
  rcases tZ (hw _ (List.mem_of_getElem? hg)) with h1|h2|h3
  rcases tZ (CP _ h1 h2) with r1|r2|r3
  have hfull:LX.after (bP (bI ws i)).cps.toList (bP (bI ws i)).cps.toList.length=(bP (bI ws i)).cps.toList.foldl LX.step LX.zero:=by unfold LX.after;rwa[List.take_length];rfl
  rwa[HN hg]
  have f1:=OC (C:=C.turn (aK a (dT ws) (jU ws i) (.str " ") "")) (f:=frt) rfl (K.r.turn _) K.rt.F hn hz (bP (bI ws i)).cps.toList (bI ws i) (λk c hk=>⟨EE hg (by rwa[List.getElem?_append_left (by obtain⟨z,_⟩:=List.getElem?_eq_some_iff.mp hk;exact z)];exact hk),tU r1 hk⟩) (EE hg (by rwa[List.getElem?_append_right (Nat.le_refl _),Nat.sub_self ..];rfl)) (by rwa[hfull];exact⟨r2,r3⟩) (by
   have:(bI ws i).cps.toList.length=(bI ws i).length:=by rwa[Array.length_toList];rfl
   rwa[←this];exact List.length_pos_iff.mpr h2)
  exact OD (C:=C.turn (aK a (dT ws) (jU ws i) (.str " ") "")) (K.turn _) F rfl (JS (C:=C.turn (aK a (dT ws) (jU ws i) (.str " ") "")) (K.turn _) rfl f1)
 fault:=by
  have f1:=JV (C:=C.turn (aK a (dT ws) (jU ws ws.length) (.str " ") "")) (f:=frt) rfl (K.r.turn _) K.rt.F hn hz [39,97,110,100] 39 (.inl rfl) (λk c hk=>⟨RZ hne hk,tU HO hk⟩) (LN hne) rfl gv
  exact JW (C:=C.turn (aK a (dT ws) (jU ws ws.length) (.str " ") "")) (K.turn _) F rfl (GN (C:=C.turn (aK a (dT ws) (jU ws ws.length) (.str " ") "")) (K.turn _) rfl f1)
 few:=λi hi=>by
  have hg:ws[i]?=some (bI ws i):=by unfold bI;rwa[List.getElem?_eq_getElem hi,List.getD_eq_getElem?_getD,List.getElem?_eq_getElem hi];rfl
  exact (hw _ (List.mem_of_getElem? hg)).2.2
end
theorem pB{a b:Str}:¬(a.cps.toList<b.cps.toList)↔dU b a:=List.not_lt
theorem vP{a b:Str}(h:a.cps.toList<b.cps.toList):dU a b:=by
 rcases qI a b with q | q
 . exact q
 . exact absurd h (pB.mpr q)
theorem LQ(ss:List Str):∀k,argBest (QO ss) k<=k/\∀j,j<=k->dU (ss.getD j Str.empty) (ss.getD (argBest (QO ss) k) Str.empty)
 | 0=>⟨Nat.le_refl 0,λj hj=>by
  obtain rfl:j=0:=by lia
  exact lA _⟩
 | k+1=>by
  rcases bW (LQ ss k) with h1|h2
  unfold argBest
  split
  . rename_i h
    refine⟨Nat.le_refl _,λj hj=>?_⟩
    have h:decide ((ss.getD (argBest (QO ss) k) Str.empty).cps.toList<(ss.getD (k+1) Str.empty).cps.toList)=true:=h
    have h:=vP (by simpa using h)
    rcases Nat.lt_or_ge j (k+1) with q | q
    . exact dW (h2 j (by exact Nat.le_of_lt_succ (by assumption))) h
    . obtain rfl:j=k+1:=by lia
      exact lA _
  . rename_i h
    have h:¬decide ((ss.getD (argBest (QO ss) k) Str.empty).cps.toList<(ss.getD (k+1) Str.empty).cps.toList)=true:=h
    refine⟨by exact Nat.le_succ_of_le (by assumption),λj hj=>?_⟩
    rcases Nat.lt_or_ge j (k+1) with q | q
    . exact h2 j (by exact Nat.le_of_lt_succ (by assumption))
    . obtain rfl:j=k+1:=by lia
      exact pB.mp (by simpa using h)
theorem LU(ss:List Str):∀k,argBest (QP ss) k<=k/\∀j,j<=k->dU (ss.getD (argBest (QP ss) k) Str.empty) (ss.getD j Str.empty)
 | 0=>⟨Nat.le_refl 0,λj hj=>by
  obtain rfl:j=0:=by lia
  exact lA _⟩
 | k+1=>by
  rcases bW (LU ss k) with h1|h2
  unfold argBest
  split
  . rename_i h
    refine⟨Nat.le_refl _,λj hj=>?_⟩
    have h:decide ((ss.getD (k+1) Str.empty).cps.toList<(ss.getD (argBest (QP ss) k) Str.empty).cps.toList)=true:=h
    have h:=vP (by simpa using h)
    rcases Nat.lt_or_ge j (k+1) with q | q
    . exact dW h (h2 j (by exact Nat.le_of_lt_succ (by assumption)))
    . obtain rfl:j=k+1:=by lia
      exact lA _
  . rename_i h
    have h:¬decide ((ss.getD (k+1) Str.empty).cps.toList<(ss.getD (argBest (QP ss) k) Str.empty).cps.toList)=true:=h
    refine⟨by exact Nat.le_succ_of_le (by assumption),λj hj=>?_⟩
    rcases Nat.lt_or_ge j (k+1) with q | q
    . exact h2 j (by exact Nat.le_of_lt_succ (by assumption))
    . obtain rfl:j=k+1:=by lia
      exact pB.mp (by simpa using h)
theorem tV{ss:List Str}{k:Nat}(h:k<ss.length):ss.getD k Str.empty∈ss:=by
 rwa[List.getD_eq_getElem?_getD,List.getElem?_eq_getElem h];exact List.getElem_mem h
theorem zU{ss:List Str}{y:Str}(h:y∈ss):∃k,k<ss.length/\y=ss.getD k Str.empty:=by
 obtain⟨k,hk,rfl⟩:=List.mem_iff_getElem.mp h
 exact⟨k,hk,by rwa[List.getD_eq_getElem?_getD,List.getElem?_eq_getElem hk];rfl⟩
theorem SD{ss:List Str}(h:ss≠[]){x:Str}:dU x (UN ss)↔∃y∈ss,dU x y:=by
 have hp:=List.length_pos_iff.mpr h
 rcases bW (LQ ss (ss.length-1)) with h1|h2
 refine⟨λq=>⟨_,tV (by omega),q⟩,λ⟨y,hy,q⟩=>?_⟩
 rcases aL (zU hy) with k|hk|rfl
 exact dW q (h2 k (by exact Nat.le_sub_one_of_lt (by assumption)))
theorem LV{ss:List Str}(h:ss≠[]){x:Str}:dU x (SS ss)↔∀y∈ss,dU x y:=by
 have hp:=List.length_pos_iff.mpr h
 rcases bW (LU ss (ss.length-1)) with h1|h2
 refine⟨λq y hy=>?_,λq=>q _ (tV (by omega))⟩
 rcases aL (zU hy) with k|hk|rfl
 exact dW q (h2 k (by exact Nat.le_sub_one_of_lt (by assumption)))
theorem nN{u v:Str}(h:∀x,dU x u↔dU x v):u=v:=pJ ((h u).mp (lA u)) ((h v).mpr (lA v))
noncomputable def zV(few:Bool)(t:Tr)(x:Str):Prop:=∃p∈aI few t,∀y∈p,dU x y
theorem dN(few:Bool)(t:Tr){x:Str}:dU x (bH few t)↔zV few t x:=by
 unfold bH
 rw[SD (by simp[iM few t])]
 constructor
 . rintro⟨y,hy,q⟩
   rcases aL (List.mem_map.mp hy) with p|hp|rfl
   exact⟨p,hp,(LV (jP few t p hp)).mp q⟩
 . rintro⟨p,hp,q⟩
   exact⟨SS p,List.mem_map.mpr ⟨p,hp,rfl⟩,(LV (jP few t p hp)).mpr q⟩
theorem kI{A B:List iH}{x:Str}:(∃p∈jY A B,∀y∈p,dU x y)↔(∃p∈A,∀y∈p,dU x y)/\∃p∈B,∀y∈p,dU x y:=by
 constructor
 . rintro⟨p,hp,q⟩
   rcases aL (jH.mp hp) with a|ha|q_0;obtain b|hb|rfl:=aL q_0
   exact⟨⟨a,ha,λy hy=>q y (List.mem_append_left _ hy)⟩,b,hb,λy hy=>q y (List.mem_append_right _ hy)⟩
 . rintro⟨⟨a,ha,qa⟩,b,hb,qb⟩
   exact⟨a++b,jH.mpr ⟨a,ha,b,hb,rfl⟩,λy hy=>(List.mem_append.mp hy).elim (qa y) (qb y)⟩
theorem qY{A B:List iH}{x:Str}:(∃p∈A++B,∀y∈p,dU x y)↔(∃p∈A,∀y∈p,dU x y)\/∃p∈B,∀y∈p,dU x y:=by
 constructor
 . rintro⟨p,hp,q⟩
   exact (List.mem_append.mp hp).imp (λh=>⟨p,h,q⟩) λh=>⟨p,h,q⟩
 . rintro (⟨p,hp,q⟩ | ⟨p,hp,q⟩)
   . exact⟨p,List.mem_append_left _ hp,q⟩
   . exact⟨p,List.mem_append_right _ hp,q⟩
theorem LW{a b:Tr}{x:Str}:dU x (bH false (.n2 a b))↔dU x (bH false a)/\dU x (bH false b):=by
 rw[dN,dN,dN]
 unfold zV
 rwa[show aI false (.n2 a b)=jY (aI false b) (aI false a) from (lE (aI false a) (aI false b))];rw[kI]
 exact And.comm
theorem HP{a b:Tr}{x:Str}:dU x (bH true (.n2 a b))↔dU x (bH true a)\/dU x (bH true b):=by
 rw[dN,dN,dN]
 unfold zV
 rwa[show aI true (.n2 a b)=aI true a++aI true b from rfl];rw[qY]
theorem zW{few:Bool}{a b c:Tr}{x:Str}:dU x (bH few (.n3 a b c))↔(dU x (bH few b)/\dU x (bH few a))\/(dU x (bH few c)/\dU x (bH few a))\/(dU x (bH few c)/\dU x (bH few b)):=by
 rw[dN,dN,dN,dN]
 unfold zV
 rwa[show aI few (.n3 a b c)=dE [aI few a,aI few b,aI few c] from rfl];rwa[lG ..];rw[qY,qY,kI,kI,kI]
theorem EF(u v:Str):∃p q,vC [u,v]=[p,q]/\dU p q/\∀y,y∈[p,q]↔y∈[u,v]:=by
 have hl:=lN [u,v]
 have hp:=sN [u,v]
 have hm:=pK [u,v]
 match h:vC [u,v],hl with
 | [p,q],_ =>
  replace hp:=h▸hp;replace hm:=h▸hm
  exact⟨p,q,rfl,by simpa using hp,λy=>hm.mem_iff⟩
theorem HQ(u v z:Str):∃p q r,vC [u,v,z]=[p,q,r]/\dU p q/\dU q r/\∀x,[p,q,r].countP (λy=>decide (dU x y))=[u,v,z].countP (λy=>decide (dU x y)):=by
 have hl:=lN [u,v,z]
 have hp:=sN [u,v,z]
 have hm:=pK [u,v,z]
 match h:vC [u,v,z],hl with
 | [p,q,r],_ =>
  replace hp:=h▸hp;replace hm:=h▸hm
  simp only[List.pairwise_cons,List.mem_cons,List.not_mem_nil,or_false,forall_eq_or_imp,forall_eq] at hp
  exact⟨p,q,r,rfl,hp.1.1,hp.2.1,λx=>hm.countP_eq _⟩
theorem PG{u v x:Str}:dU x (jB [u,v])↔dU x u/\dU x v:=by
 rcases iG (EF u v) with p|q|h|hpq|hm
 have e:jB [u,v]=p:=by unfold jB;rwa[h,show ([u,v].length-1) / 2=0 from by simp];rfl
 rwa[e]
 constructor
 . intro hx
   have all:∀y,y∈[u,v]->dU x y:=λy hy=>by
    have:=(hm y).mpr hy
    simp only[List.mem_cons,List.not_mem_nil,or_false] at this
    rcases this with rfl | rfl
    . exact hx
    . exact dW hx hpq
   exact⟨all u (by exact .head _),all v (by exact .tail _ (.head _))⟩
 . rintro⟨h1,h2⟩
   have:=(hm p).mp (by exact .head _)
   simp only[List.mem_cons,List.not_mem_nil,or_false] at this
   rcases this with rfl | rfl
   . exact h1
   . exact h2
theorem LY{u v x:Str}:dU x (fY [u,v])↔dU x u\/dU x v:=by
 rcases iG (EF u v) with p|q|h|hpq|hm
 have e:fY [u,v]=q:=by unfold fY;rwa[h,show [u,v].length / 2=1 from by simp];rfl
 rwa[e]
 constructor
 . intro hx
   have:=(hm q).mp (by exact .tail _ (.head _))
   simp only[List.mem_cons,List.not_mem_nil,or_false] at this
   rcases this with rfl | rfl
   . exact .inl hx
   . exact .inr hx
 . have all:∀y,y∈[u,v]->dU x y->dU x q:=λy hy hx=>by
    have:=(hm y).mpr hy
    simp only[List.mem_cons,List.not_mem_nil,or_false] at this
    rcases this with rfl | rfl
    . exact dW hx hpq
    . exact hx
   rintro (hx | hx)
   . exact all u (by exact .head _) hx
   . exact all v (by exact .tail _ (.head _)) hx
theorem EG{u v z x m:Str}(hmid:m=(vC [u,v,z]).getD 1 Str.empty):dU x m↔(dU x v/\dU x u)\/(dU x z/\dU x u)\/(dU x z/\dU x v):=by
 rcases tX (HQ u v z) with p|q|r|h|hpq|hqr|hc
 have e:m=q:=by rwa[hmid,h];rfl
 rwa[e]
 have c:=hc x
 simp only[List.countP_cons,List.countP_nil,decide_eq_true_eq] at c
 have m1:dU x p->dU x q:=λk=>dW k hpq
 have m2:dU x q->dU x r:=λk=>dW k hqr
 by_cases hp:dU x p<;>by_cases hq:dU x q<;>by_cases hr:dU x r<;>by_cases hu:dU x u<;>by_cases hv:dU x v<;>by_cases hz:dU x z <;>
  simp only[hp,hq,hr,hu,hv,hz,if_true,if_false,and_true,and_false,or_true,or_false,true_and,false_and,true_or,false_or,iff_true,iff_false,not_true,not_false_iff,true_implies,false_implies,imp_false] at c m1 m2 ⊢<;>lia
theorem LZ(u v z:Str):jB [u,v,z]=(vC [u,v,z]).getD 1 Str.empty:=by unfold jB;rwa[show ([u,v,z].length-1) / 2=1 from by simp];rfl
theorem HR(u v z:Str):fY [u,v,z]=(vC [u,v,z]).getD 1 Str.empty:=by unfold fY;rwa[show [u,v,z].length / 2=1 from by simp];rfl
theorem SE(a b:Tr):bH false (.n2 a b)=jB [bH false a,bH false b]:=nN λx=>LW.trans PG.symm
theorem PH(a b:Tr):bH true (.n2 a b)=fY [bH true a,bH true b]:=nN λx=>HP.trans LY.symm
theorem SF(a b c:Tr):bH false (.n3 a b c)=jB [bH false a,bH false b,bH false c]:=nN λx=>zW.trans (EG (LZ _ _ _)).symm
theorem PK(a b c:Tr):bH true (.n3 a b c)=fY [bH true a,bH true b,bH true c]:=nN λx=>zW.trans (EG (HR _ _ _)).symm
theorem vQ(few:Bool)(w:Str):bH few (.leaf w)=w:=nN λx=>by
 rw[dN]
 unfold zV
 rwa[show aI few (.leaf w)=[[w]] from rfl]
 simp
noncomputable def oI(t:Tr):Str×Str:=(bH false t,bH true t)
noncomputable def mH(l:List Str)(q:Nat):Int:=((l.take q).map jQ).sum
theorem nO{w:Str}(h:dR w<=2):jQ w=(cD w:Int)-1:=by
 unfold jQ cD
 match h':dR w,h with
 | 0,_=>rfl
 | 1,_=>rfl
 | 2,_=>rfl
theorem qZ(w:Str)(r:List Str)(q:Nat):mH (w::r) (1+q)=jQ w+mH r q:=by
 unfold mH
 rwa[Nat.add_comm ..,List.take_succ_cons,List.map_cons,List.sum_cons];rfl
theorem pC(r:List Str)(p q:Nat):mH r (p+q)=mH r p+mH (r.drop p) q:=by
 unfold mH
 rwa[List.take_add,List.map_append,List.sum_append];rfl
theorem nQ{g:List Str->Option (Tr×Nat)}{r:List Str}(hg:∀k t p rest,g (r.drop k)=some (t,p)->iW ((r.drop k).take p++rest)=oI t::iW rest/\(xZ rest->xZ ((r.drop k).take p++rest))/\mH (r.drop k) p=-1/\∀q,q<p->0<=mH (r.drop k) q) :
 ∀{i:Nat} {bs:List Tr} {p:Nat},cU g r i=some (bs,p)->(∀rest,iW (r.take p++rest)=bs.map oI++iW rest/\(xZ rest->xZ (r.take p++rest)))/\mH r p=-(i:Int)/\∀q,q<p->-(i:Int)<mH r q
 | 0,bs,p,h=>by
  cases h
  refine⟨λrest=>⟨rfl,λk=>k⟩,rfl,λq hq=>absurd hq (Nat.not_lt_zero _)⟩
 | i+1,bs,p,h=>by
  unfold cU at h
  cases q1:cU g r i with
  | none=>replace h:=q1▸h;injection h
  | some x =>
   obtain⟨bs',p'⟩:=x
   replace h:=q1▸h
   dsimp only at h
   cases q2:g (r.drop p') with
   | none=>replace h:=q2▸h;injection h
   | some y =>
    obtain⟨t,z⟩:=y
    replace h:=q2▸h
    cases h
    rcases tZ (nQ hg q1) with h1|h2|h3
    refine⟨λrest=>?_,?_,λq hq=>?_⟩
    . rcases tZ (hg p' t z rest q2) with g1|g2|_
      rcases bW (h1 ((r.drop p').take z++rest)) with k1|k2
      rwa[List.take_add,List.append_assoc ..,k1,g1]
      exact⟨by simp,λo=>k2 (g2 o)⟩
    . rcases nU (hg p' t z [] q2) with _|_|g3|_
      rwa[pC ..,h2,g3];lia
    . rcases nU (hg p' t z [] q2) with _|_|_|g4
      rcases Nat.lt_or_ge q p' with k | k
      . have:=h3 q k;lia
      . have:=g4 (q-p') (by lia)
        rwa[show q=p'+(q-p') by grind,pC ..,h2]
        lia
theorem jV:∀{m:Nat} {ws:List Str} {t:Tr} {p:Nat},(∀w∈ws,dR w<=2)->cV m ws=some (t,p)->(∀rest,iW (ws.take p++rest)=oI t::iW rest/\(xZ rest->xZ (ws.take p++rest)))/\mH ws p=-1/\∀q,q<p->0<=mH ws q
 | 0,_,_,_,_,h=>by injection h
 | m+1,[],_,_,_,h=>by injection h
 | m+1,w::r,t,p,hw,h=>by
  unfold cV at h
  cases q:cU (cV m) r (cD w) with
  | none=>replace h:=q▸h;injection h
  | some x =>
   obtain⟨bs,p'⟩:=x
   replace h:=q▸h
   cases h
   have hb:=lC q
   have hc:=hw w (.head _)
   rcases tZ (nQ (λk t p rest e=>by
    refine tZ (jV (λy hy=>hw y (.tail _ (List.mem_of_mem_drop hy))) e) ?_;intro a1 a2 a3
    exact⟨(a1 rest).1,(a1 rest).2,a2,a3⟩) q) with h1|h2|h3
   refine⟨λrest=>?_,?_,λk hk=>?_⟩
   . rcases bW (h1 rest) with k1|k2
     rwa[Nat.add_comm ..,List.take_succ_cons,List.cons_append]
     have hne:0<cD w->iW (r.take p'++rest)≠[]:=λha z=>by
      replace z:=k1▸z
      have:bs=[]:=by
       cases bs with
       | nil=>rfl
       | cons=>trivial
      replace hb:=this▸hb;simp at hb;lia
     refine⟨?_,λo=>⟨k2 o,hc,hne⟩⟩
     show sP (iW (r.take p'++rest)) w=_
     rwa[k1]
     unfold sP
     have lb:(bs.map oI).length=cD w:=by rwa[List.length_map ..];exact hb
     rwa[←lb,List.drop_left,List.take_left]
     rcases eY hc with⟨_,e⟩ | ⟨_,e⟩ | ⟨_,e⟩<;>replace hb:=e▸hb
     . have:bs=[]:=List.length_eq_zero_iff.mp hb
       subst this
       rwa[if_neg ∅]
       show (w,w)::_=oI (mk w [])::_
       unfold oI
       rwa[show mk w []=.leaf w from rfl];rw[vQ];rwa[vQ ..];rfl
     . match bs,hb with
       | [a,b],_ =>
        rwa[if_pos (by exact Nat.succ_pos _)]
        show (jB [bH false a,bH false b],fY [bH true a,bH true b])::_=oI (.n2 a b)::_
        unfold oI
        rwa[SE ..,PH ..];rfl
     . match bs,hb with
       | [a,b,c],_ =>
        rwa[if_pos (by exact Nat.succ_pos _)]
        show (jB [bH false a,bH false b,bH false c],fY [bH true a,bH true b,bH true c])::_=oI (.n3 a b c)::_
        unfold oI
        rwa[SF ..,PK ..];rfl
   . rwa[qZ ..,nO hc,h2];lia
   . cases k with
     | zero=>exact Int.le_refl 0
     | succ k =>
      have:=h3 k (by lia)
      rwa[Nat.add_comm k 1,qZ ..,nO hc];lia
theorem vR:∀{m:Nat} {ws:List Str},(∀w∈ws,dR w<=2)->ws.length<=m->cV m ws=none->∀q,0<=mH ws q
 | 0,[],_,_,_,q=>by unfold mH;simp
 | m+1,[],_,_,_,q=>by unfold mH;simp
 | m+1,w::r,hw,hl,h,q=>by
  have hc:=hw w (.head _)
  unfold cV at h
  cases e:cU (cV m) r (cD w) with
  | some x=>replace h:=e▸h;injection h
  | none =>
   rcases nV (oU e) with k|bs|p|hk|e1|e2
   rcases tZ (nQ (λk t p rest e=>by
    refine tZ (jV (λy hy=>hw y (.tail _ (List.mem_of_mem_drop hy))) e) ?_;intro a1 a2 a3
    exact⟨(a1 rest).1,(a1 rest).2,a2,a3⟩) e1) with _|h2|h3
   have h4:=vR (ws:=r.drop p) (λy hy=>hw y (.tail _ (List.mem_of_mem_drop hy))) (by rwa[List.length_drop];simp at hl;lia) e2
   cases q with
   | zero=>exact Int.le_refl 0
   | succ q =>
    rwa[Nat.add_comm q 1,qZ ..,nO hc]
    rcases Nat.lt_or_ge q p with z | z
    . have:=h3 q z;lia
    . have:=h4 (q-p)
      rwa[show q=p+(q-p) by lia,pC ..,h2];lia
theorem sA{ws:List Str}{k:Nat}(h:k<=ws.length):rd (bI ws) k=ws.take k:=by
 apply List.ext_getElem
 . rwa[xG ..,List.length_take];lia
 . intro i h1 h2
   rw[xG] at h1
   have hi:i<ws.length:=by lia
   simp only[rd,List.getElem_map,List.getElem_range,List.getElem_take]
   unfold bI
   rwa[List.getD_eq_getElem?_getD,List.getElem?_eq_getElem hi];rfl
theorem pX{ws:List Str}{k:Nat}(h:k<ws.length):vN (bI ws) k=mH ws (k+1):=by
 unfold vN mH
 rwa[sA (by assumption)];rfl
theorem zX{ws:List Str}{k:Nat}(h:k<=ws.length):xO (bI ws) k=((iN ws).take k).map .int:=by
 unfold xO iN
 rwa[←List.map_take,List.take_range,Nat.min_eq_left h,List.map_map]
 refine List.map_congr_left λi hi=>?_
 have hi:=List.mem_range.mp hi
 show D.int (vN (bI ws) i)=D.int _
 rwa[pX (by lia)];rfl
theorem vS(ws:List Str):mD (bI ws) ws.length=jR ws:=by
 unfold mD jR
 rwa[sA (Nat.le_refl _),List.take_length,zX (Nat.le_refl _)]
 have:(iN ws).take ws.length=iN ws:=List.take_of_length_le (by simp[iN])
 rwa[this];rfl
theorem CQ{ws:List Str}{t:Tr}{p:Nat}(hw:∀w∈ws,dR w<=2)(h:cV M ws=some (t,p)):jC (bI ws) (p-1)=hO ws t p:=by
 rcases bW (jS hw h) with _|hp
 have hp1:=mU h
 have e:p-1+1=p:=by exact Nat.sub_add_cancel (by assumption)
 have hwo:=(((jV hw h).1 []).1)
 rw[List.append_nil] at hwo
 unfold jC hO
 rwa[e,sA hp,zX (by lia),hwo]
 rfl
theorem zY(ws:List Str)(p:Nat):(λi=>bI ws (p+i))=bI (ws.drop p):=by
 funext i
 unfold bI
 rwa[List.getD_eq_getElem?_getD,List.getD_eq_getElem?_getD,List.getElem?_drop];rfl
theorem CR{ws:List Str}(hw:∀w∈ws,dR w<=2)(hl:ws.length<=M)(h:cV M ws=none):cS (bI ws) ws.length=none:=by
 unfold cS
 rw[List.find?_eq_none]
 intro i hi
 have hi:=List.mem_range.mp hi
 have:=vR hw hl h (i+1)
 rwa[pX hi]
 simpa using this
theorem CT{ws:List Str}{t:Tr}{p:Nat}(hw:∀w∈ws,dR w<=2)(h:cV M ws=some (t,p)):cS (bI ws) ws.length=some (p-1):=by
 rcases bW (jS hw h) with _|hp
 have hp1:=mU h
 rcases tZ (jV hw h) with _|h2|h3
 have e:p-1+1=p:=by exact Nat.sub_add_cancel (by assumption)
 unfold cS
 rw[List.find?_range_eq_some]
 refine⟨?_,List.mem_range.mpr (by lia),λi hi=>?_⟩
 . rwa[pX (by lia),e,h2];rfl
 . have:=h3 (i+1) (by lia)
   rwa[pX (by lia)]
   simpa using this
theorem zZ:∀(f:Nat) (ws:List Str),(∀w∈ws,dR w<=2)->ws.length<=f->ws.length<=M->kH f (bI ws) ws.length=oV (f+1) ws/\oH f (bI ws) ws.length
 | 0,ws,hw,hl,hM=>by
  have:ws=[]:=List.length_eq_zero_iff.mp (by lia)
  subst this
  refine⟨?_,trivial⟩
  show [mD (bI []) 0]=_
  rwa[show (0:Nat)=([]:List Str).length from rfl];rwa[vS ..]
  rfl
 | f+1,ws,hw,hl,hM=>by
  cases h:cV M ws with
  | none =>
   have e:=CR hw hM h
   refine⟨?_,?_⟩
   . show (match cS (bI ws) ws.length with | none=>[mD (bI ws) ws.length] | some j=>_)=(match cV M ws with | none=>[jR ws] | some (t,p)=>_)
     rwa[e,h]
     show [mD (bI ws) ws.length]=[jR ws]
     rwa[vS ..];rfl
   . show (match cS (bI ws) ws.length with | none=>True | some j=>_)
     rwa[e];trivial
  | some x =>
   obtain⟨t,p⟩:=x
   have e:=CT hw h
   rcases bW (jS hw h) with _|hp
   have hp1:=mU h
   have e1:p-1+1=p:=by exact Nat.sub_add_cancel (by assumption)
   rcases bW (zZ f (ws.drop p) (λw hm=>hw w (List.mem_of_mem_drop hm)) (by rwa[List.length_drop];lia) (by rwa[List.length_drop];lia)) with i1|i2
   replace i1:=List.length_drop▸i1;replace i2:=List.length_drop▸i2
   have es:(λi=>bI ws (p-1+1+i))=bI (ws.drop p):=by rwa[e1];exact zY ws p
   refine⟨?_,?_⟩
   . show (match cS (bI ws) ws.length with | none=>[mD (bI ws) ws.length] | some j=>jC (bI ws) j::kH f (λi=>bI ws (j+1+i)) (ws.length-(j+1)))=(match cV M ws with | none=>[jR ws] | some (t,p)=>hO ws t p::oV (f+1) (ws.drop p))
     rwa[e,h]
     show jC (bI ws) (p-1)::kH f (λi=>bI ws (p-1+1+i)) (ws.length-(p-1+1))=hO ws t p::oV (f+1) (ws.drop p)
     rwa[CQ hw h,es,e1,i1];rfl
   . show (match cS (bI ws) ws.length with | none=>True | some j=>xZ (rd (bI ws) (j+1))/\oH f (λi=>bI ws (j+1+i)) (ws.length-(j+1)))
     rwa[e]
     show xZ (rd (bI ws) (p-1+1))/\oH f (λi=>bI ws (p-1+1+i)) (ws.length-(p-1+1))
     rwa[es,e1,sA hp]
     have:=((jV hw h).1 []).2 trivial
     rw[List.append_nil] at this
     exact⟨this,i2⟩
noncomputable def AA:PySem.Expr:=match aX (aY 35) with
 | [.Return (some (.Call _ (g::_) _ _)) _]=>g
 | _=>.Constant .none 0 ⟨0,0,0,0⟩
noncomputable def PL:PySem.Expr:=match AA with
 | .GeneratorExp e _ _ _=>e
 | _=>.Constant .none 0 ⟨0,0,0,0⟩
noncomputable def iQ:Scope:=match AA with
 | .GeneratorExp _ _ s _=>s
 | _=>⟨.function,[],false,false,[]⟩
section
variable{C:Cx}{n:Nat}{sc:Scope}{δ:List (Str×D)}
theorem SG{A A':Around}{B:Heap}{env:Env}{X:Addr->Prop}{h:Heap}{L:Addr}{code:Value}{m2:Str->Option Value}{w:Str}{x:Str}{t:Tok}{n':Nat}(O:Ok C n sc δ A B env X h)(hI:C.I=bX.none)(rm:Rm n' A')(hA:A'.handled=none)
 (nL:B.get? L=none) (hn:h.Ns L m2) (hx:m2 x=some (.str w t)) (hk:iQ.names.lookup x=some .local):Ok C n' iQ [(x,.str w)] A' B (genEnv iQ [] L code builtinsNs env) X h:=by
 rcases aL O.st with ρ|F|V
 have nown:∀b,¬C.I.own b:=λb q=>by replace q:=hI▸q;exact q
 refine⟨rm,.inl hA,O.xo,O.iv,O.ox,m2,⟨⟨F.base.1,F.base.2.1,⟨nL,nown _⟩,(λy c e=>by injection e)⟩,rfl,rfl,F.globals,rfl,⟨m2,hn,λ_ _=>rfl⟩,λy hy=>?_,(λy z c e=>by injection e),(λy c e=>by injection e)⟩,λy d e=>?_⟩
 . exfalso
   have:∀p∈iQ.names,p.2≠.cell/\p.2≠.free:=∅
   rcases hy with hy | hy
   . exact (this _ (eW hy)).1 rfl
   . exact (this _ (eW hy)).2 rfl
 . rw[List.lookup_cons] at e
   split at e
   . rename_i z
     obtain rfl:=Option.some.inj e
     have:y=x:=by simpa using z
     subst this
     exact⟨_,hx,.str w t⟩
   . injection e
end
section
variable{C:Cx}{n:Nat}{sc:Scope}{δ:List (Str×D)}
theorem Ok.parts{A:Around}{B:Heap}{env:Env}{X:Addr->Prop}{h h3:Heap}{c P:Addr}{ps:Array Value}(O:Ok C n sc δ A B env X h)(hh:A.handled=none)(T:lI C.I C.I)(bo:Bo C B)(hok:iE h c P ps)(e3:Heap.ExtBut P h h3)(hPB:B.get? P=none)(hPo:¬C.I.own P):Ok C n sc δ A B env X h3:=by
 rcases aL (GP.code_notSeq hok) with oP|eP|dP
 refine Ok.other (C:=C) (I:=C.I) (Z:=λb=>b=P) O bo T (λb o _ z q=>e3 b o z q) ?_ (λb z=>by rwa[z];exact hPB) ?_ ?_ ?_ ?_ hh
 . exact C.I.at_ _ _ O.iv λb o ob q=>e3 b o (λz=>hPo (z▸ob)) q
 . intro z
   rcases eU O.dict with o|es|ep|q1|q2
   replace q1:=eP▸z▸q1;obtain rfl:=Option.some.inj q1
   injection tq dP q2
 . intro y a q
   rcases aL O.st with _|F2|_
   rcases dZ (F2.allc y a q) with v|o|q1|q2
   rwa[q1]
   exact e3 a o (λz=>by replace q1:=eP▸z▸q1;obtain rfl:=Option.some.inj q1;injection tq dP q2) q1
 . rintro b o rfl q ⟨_,_,w⟩
   have h_:=sx eP q;clear q;subst h_
   replace dP:=w▸dP;injection dP
 . rintro b rfl _ z
   rcases eU (O.xo _ z) with o|vs|nn|q1|q2
   have h_:=sx eP q1;clear q1;subst h_
   injection tq dP q2
theorem AB(m:Nat):passing (λ_=>true) m 0=List.range m:=by unfold passing;rwa[List.drop_zero];exact List.filter_eq_self.mpr λ_ _=>rfl
noncomputable def HS(C:Cx)(A:Around)(ws:List Str)(P:Addr)(s:Shared)(a:Addr)(s5:Shared):Prop :=
 ∃(fp wr:List Addr) (g:Nat) (St:Nat->Shared->Prop),WalksS C.prog C.w A.in4 a fp wr (GenOnlyQ g) ws.length (λj y=>∃i,(List.range ws.length)[j]?=some i/\∃u,y=.str (bP (ws.getD i "")) u) St/\St 0 s5/\(∀i s',St i s'->s'.heap.IsGen a g)/\a∈fp/\(∀b∈fp,b<s5.heap.objs.size)/\(∀b∈wr,s.heap.get? b=none)
theorem HT{A:Around}{B:Heap}{env:Env}{X:Addr->Prop}{s:Shared}{Q:Value->Shared->Prop}{E:Value->Shared->Prop}{c P bm fQ:Addr}{obm:Obj}{ws:List Str}(O:Ok C n (aD (aY 35)) [(("split_command":Str),.list (ws.map .str))] A B env X s.heap)(hI:C.I=bX.none)(hh:A.handled=none)(hn:10<=n)
 (FQ:fV C fQ 38 ["s"]) (gQ:C.mg ("quote":Str)=some (.ref fQ)) (hq:∀w∈ws,Fn C 5 fQ [.str w] (.str (bP w))) (bk:CF C bm obm) (hcode:env.code=.ref c) (hok:∃ps,iE s.heap c P ps) (hPB:B.get? P=none)
 (h:∀(a:Addr) (h5:Heap) (tk:Tok) (gs:GenState),gs.bare=true->(∀b o,b≠P->s.heap.get? b=some o->h5.get? b=some o)->(∃ps,iE h5 c P ps)->HS C A ws P s a {s with heap:=h5,toks:=tk,gens:=s.gens.push gs}->Q (.ref a) {s with heap:=h5,toks:=tk,gens:=s.gens.push gs}) :
 wpAny C.M A (eval AA env) Q E s:=by
 obtain ps|hok:=aU hok
 have hsc:env.scope=aD (aY 35):=let ⟨_,F,_⟩:=O.st;F.scope
 have T0:lI C.I C.I:=by rwa[hI];exact⟨λ_ q=>q,λ_ q=>q,λ_ _ _ _ _ _ _ _ q=>q.elim,λ_ _ _ _ _ q=>q.elim⟩
 have bo:Bo C B:=λb q=>by replace q:=hI▸q;exact q.elim
 have room:A.depth<recursionLimit:=by have:=O.rm.d;show A.depth<1000;lia
 refine wpAny_GeneratorExp_walksQD (prog:=C.prog) (w:=C.w) (elt:=PL) (x:="arg") (scope:=iQ) (cl:=[]) hh rfl ?_ ∅ rfl rfl rfl room ?_ (λx=>rfl)
 . exact jA (scope:=iQ) (env:=env) λx hx=>absurd rfl ((by decide:∀p∈iQ.names,p.2≠NameKind.free) _ hx)
 refine (aA (C:=C) (n:=n) (sc:=aD (aY 35)) (δ:=[(("split_command":Str),.list (ws.map .str))]) rfl rfl).go A B env X s _ _ O λv s1 k1 r1=>?_
 obtain lst|vs|hX|hl|hr|rfl:=qC (cK r1)
 have O1:=O.on k1
 revert hl hr O1;refine kE k1 ?_;clear k1;intro h1 tk1 k1 hl hr O1
 refine wpAny_pyIter_list hl.isList ⟨(O1.keeps λb o e=>Heap.get?_push_of_some _ e).gl.nl,?_⟩
 obtain⟨I,hIz⟩:∃I,I=h1.objs.size:=⟨_,rfl⟩
 obtain⟨h2,hh2⟩:∃h2,h2=h1.push {cls:=.type "list_iterator",data:=.fields #[.ref lst,.int 0 0]}:=⟨_,rfl⟩
 have nI:h1.get? I=none:=by rwa[hIz];exact aN
 have k2:∀b o,h1.get? b=some o->h2.get? b=some o:=λb o e=>by rwa[hh2];exact Heap.get?_push_of_some _ e
 have eI:h2.get? I=some {cls:=.type "list_iterator",data:=.fields #[.ref lst,.int 0 0]}:=by rwa[hh2,hIz];exact Heap.get?_push_size _ rfl
 show wpAny _ _ _ _ _ {s with heap:=h1.push _,toks:=tk1}
 rwa[←hh2]
 have O2:=O1.keeps k2
 have k12:∀b o,s.heap.get? b=some o->h2.get? b=some o:=λb o e=>k2 b o (k1 b o e)
 refine zO (s:={s with heap:=h2,toks:=tk1}) hcode (hok.keeps k12) λcode h3 tk3 ps3 e3 ic3=>?_
 have O3:Ok C n (aD (aY 35)) [(("split_command":Str),.list (ws.map .str))] A B env X h3:=O2.parts hh T0 bo (hok.keeps k12) e3 hPB (by rwa[hI];exact λq=>q)
 rcases aL O3.st with ρ|F|_
 rwa[show env.globals=mainGlobals from F.globals]
 refine wpAny_builtinsFor (s:={s with heap:=h3,toks:=tk3}) O3.gl.g bk.hb bk.ne (O3.gl.k _ _ bk.k) bk.c bk.d bk.p ?_
 rcases aL (GP.code_notSeq (hok.keeps k12)) with oP|eP|dP
 have PI:I≠P:=λz=>by
  rcases aL (GP.code_notSeq (hok.keeps k1)) with oP'|eP'|_
  rw[z,eP'] at nI;injection nI
 have eI3:h3.get? I=some {cls:=.type "list_iterator",data:=.fields #[.ref lst,.int 0 0]}:=e3 I _ PI eI
 obtain nl|el:=aU hl
 have ll:∀{o:Obj},h1.get? lst=some o->lst≠I:=λe z=>by replace e:=nI▸z▸e;injection e
 have lP:lst≠P:=λz=>by
  rcases aL (GP.code_notSeq (hok.keeps k1)) with oP'|eP'|dP'
  rw[z,eP'] at el;obtain rfl:=Option.some.inj el;injection dP'
 have el3:h3.get? lst=some {cls:=.type "list",data:=.seq vs.toArray nl}:=e3 lst _ lP (k2 _ _ el)
 have vlen:vs.length=ws.length:=by have:=hr.length;rw[List.length_map] at this;exact this
 have hI2:({s with heap:=h1,toks:=tk1}:Shared).heap.objs.size=I:=hIz.symm
 refine⟨I,[I,lst],[I],vs.toArray.size,λi v=>vs.toArray[i]?=some v,λi h=>h.IsListIter I lst i/\h.IsList lst vs.toArray,λ_=>true,λi y=>∃u,y=.str (bP (ws.getD i "")) u,by rwa[←hI2];rfl,λA' hA=>Walks.list hA I lst (ll el) vs.toArray,⟨⟨_,eI3,rfl,rfl⟩,⟨_,el3,rfl,nl,rfl⟩⟩,λb hb=>?_,O3.gl.nl,?_,λhref hk=>?_,λa h5 tk5 gs hb hlt hsz k5 W G=>?_⟩
 . simp only[List.mem_cons,List.not_mem_nil,or_false] at hb
   rcases hb with rfl | rfl
   . exact Heap.lt_size eI3
   . exact Heap.lt_size el3
 . intro hb
   simp only[List.mem_cons,List.not_mem_nil,or_false] at hb
   rcases aL O1.gl.nl with m|q_0|_;obtain o|_|_|e|_:=eU q_0
   replace e:=nI▸hb▸e;injection e
 . refine⟨λA' E' i v s2 m2 hA hd hu hP hns hm hkk=>wpAny_pure ⟨rfl,aE _⟩,λA' E' i v s2 m2 hA hd hu hP hpz hns hm hkk=>?_⟩
   have hP':vs[i]?=some v:=by simpa using hP
   have hil:i<ws.length:=by rwa[←vlen];exact (List.getElem?_eq_some_iff.mp hP').1
   rcases aU (lM hr i v hP') with t|rfl
   have O5:Ok C n (aD (aY 35)) [(("split_command":Str),.list (ws.map .str))] A B env X s2.heap:=O3.extBut (I:=I) ⟨"list_iterator",_,_,eI3,rfl,rfl,.inl rfl⟩ (O1.iterNe nI).2 (λe z=>by injection tq hh z) λb o z e=>hkk b (List.mem_range.mpr (Heap.lt_size e)) (by simpa using z) o (hk b o e)
   have rm':Rm 5 A':=⟨by have:=O.rm.d;lia,by have:=O.rm.u;lia,λ_=>hA⟩
   have og:=SG (x:="arg") (code:=code) O5 hI rm' hA (bG F.base.2.1 aN) hns hm rfl
   refine (cT FQ rfl gQ ∅ (bY (aA rfl rfl)) (hq _ (tV hil))).go A' B _ X s2 _ _ og λy s3 k3 r3=>⟨?_,k3⟩
   (obtain _|rfl:=aU (bN r3))
   exact⟨_,rfl⟩
 . have e:passing (λ_=>true) vs.toArray.size 0=List.range ws.length:=by rwa[AB ..];simp[vlen]
   replace W:=List.length_range▸e▸W
   refine h a h5 tk5 gs hb (λb o z e=>k5 b o (e3 b o z (k12 b o e))) ⟨ps3,ic3.keeps k5⟩ ⟨_,_,_,_,W,G,λi s' st=>st.1,by exact .head _,λb hb=>?_,λb hb=>?_⟩
   . show b<h5.objs.size
     have hlt:h3.objs.size<a:=hlt
     have hsz:h5.objs.size=a+1:=hsz
     rwa[hsz]
     rcases List.mem_cons.mp hb with hb | hb
     . rwa[hb];exact Nat.lt_succ_self _
     . rcases List.mem_cons.mp hb with hb | hb
       . rwa[hb];exact Nat.lt_succ_of_lt hlt
       . exact Nat.lt_succ_of_lt (Nat.lt_trans (List.mem_range.mp hb) hlt)
   . rcases List.mem_cons.mp hb with rfl | hb
     . show s.heap.get? h3.objs.size=none
       cases q:s.heap.get? h3.objs.size with
       | none=>rfl
       | some o =>
        by_cases z:h3.objs.size=P
        . rcases aL (GP.code_notSeq ic3) with oP'|eP'|_
          have q1:=Heap.lt_size eP'
          replace q1:=z.symm▸q1
          exact absurd q1 (Nat.lt_irrefl _)
        . exact absurd (Heap.lt_size (e3 _ o z (k12 _ o q))) (Nat.lt_irrefl _)
     . have:b=I:=by simpa using hb
       rwa[this];exact bG k1 nI
end
section
variable{C:Cx}{n:Nat}
theorem HU{fJ:Addr}{obJ:Obj}{fdJ:FuncData}(FJ:mG C fJ (aY 35) obJ fdJ)(hbJ:∀v:Value,bindArgs fdJ ⟨[v],[]⟩=pure [(("split_command":Str),v)]){fQ bm:Addr}{obm:Obj}(FQ:fV C fQ 38 ["s"])(gQ:C.mg ("quote":Str)=some (.ref fQ)){ws:List Str}(hq:∀w∈ws,Fn C 5 fQ [.str w] (.str (bP w)))(bk:CF C bm obm)
 (hok2:JoinOk (" ":Str) (ws.map bP)=true) (hl:ws.length<=1000) {A:Around} {B:Heap} {X:Addr->Prop} {s:Shared} {c P:Addr} {v:Value} {R:Result->Shared->Prop} (Cl0:Cl C (n+1) A B X s) (hn:10<=n) (hI:C.I=bX.none) (hh:A.handled=none) (r:Rd X s.heap v (.list (ws.map .str)))
 (hcode:fdJ.code=.ref c) (hok:∃ps,iE s.heap c P ps) (hPB:B.get? P=none)
 (hR:∀(t:Tok) (h':Heap) (tk:Tok) (gs:Array GenState),(∀b o,b≠P->s.heap.get? b=some o->h'.get? b=some o)->(∃ps,iE h' c P ps)->oD s.gens gs->R (.ok (.ret (.str (Str.join " " (ws.map bP)) t))) {s with heap:=h',toks:=tk,gens:=gs}) :
 codeAny C.M A (.call (.ref fJ) ⟨[v],[]⟩) R s:=by
 refine LG (C:=C) (n:=n) (names:=["split_command"]) FJ ∅ (λds=>ds=[.list (ws.map .str)]) (λA' Q E h=>?_) Cl0 λenv h1 tk1 ds hP hsc hcd hf nL k1 hC O1=>?_
 . rwa[hbJ ..]
   exact wpAny_pure (h [v] [.list (ws.map .str)] s rfl rfl rfl (aE s) (.cons r .nil))
 . subst hP
   show wpAny _ _ (execs [.Return (some (.Call (.Attribute (.Constant (.str " ") _ _) "join" _) [AA] [] _)) _] env) _ _ _
   refine wpAny_execs_cons (wpAny_Return_some ?_)
   refine wpAny_Call_method (T:="str") (id:="str.join") rfl rfl ∅ _root_.PySem.F.plainAttrs_str _root_.PySem.F.slot_str_join _root_.PySem.F.type_str_join ((aT (C:=C) (n:=n) (sc:=aD (aY 35)) (δ:=[(("split_command":Str),.list (ws.map .str))])).go _ B env X {s with heap:=h1,toks:=tk1} _ _ O1 λv1 s1 k1' r1=>?_)
   (obtain _|rfl:=aU (bN r1))
   refine⟨rfl,λa e=>(by injection e),?_⟩
   refine callWith_builtin rfl ?_
   have O2:=O1.on (s:={s with heap:=h1,toks:=tk1}) k1'
   revert O2;refine kE k1' ?_;clear k1';intro h2 tk2 k2 O2
   obtain ps|ic:=aU hok
   have k12:∀b o,s.heap.get? b=some o->h2.get? b=some o:=λb o e=>k2 b o (k1 b o e)
   refine evalArgs_plain ?_
   show wpAny _ _ (spliced (backTo _ (starEach [AA] env))) _ _ _
   refine wpAny_items_cons (HT (s:={s with heap:=h2,toks:=tk2}) O2 hI hh hn FQ gQ hq bk (hcd.trans hcode) ⟨ps,ic.keeps k12⟩ hPB λa h5 tk5 gs hb k5 ic5 G=>wpAny_items_nil ?_) rfl
   obtain fp|wr|g|St|W|st0|hT|ha|hfp|hwr:=UW G
   refine SC.joinGen (W.in4_2) (λi s' st=>(hT i s' st).typeIs) st0 hfp ha (λj y ⟨i,_,u,e⟩=>⟨_,u,e⟩) (λs' lt hm hacc=>?_) (Nat.le_trans hl ∅)
   have hlen:lt.length=ws.length:=by simpa [strValues] using hacc.1
   have hmap:lt.map (·.1)=ws.map bP:=by
    apply List.ext_getElem
    . rwa[List.length_map ..,List.length_map ..,hlen];rfl
    . intro j h1' h2'
      rw[List.length_map] at h1';rw[List.length_map] at h2'
      obtain⟨i,hi,u,hv⟩:=hacc.2 j (.str lt[j].1 lt[j].2) (by simp[strValues,List.getElem?_eq_getElem h1'])
      have hij:i=j:=by
       rw[List.getElem?_eq_getElem (by simpa using h2')] at hi
       have:=Option.some.inj hi
       simpa using this.symm
      subst hij
      injection hv with h3 _
      rwa[List.getElem_map ..,List.getElem_map ..,h3,List.getD_eq_getElem?_getD,List.getElem?_eq_getElem h2'];rfl
   rwa[hmap]
   refine⟨hok2,λt' k=>?_⟩
   have hj:Txt.join " " (ws.map bP)=Str.join " " (ws.map bP):=hG _ _
   rwa[hj]
   obtain⟨hp,gp,dp,tp,op⟩:=s'
   obtain⟨m1,m2,m3,m4,m5⟩:=hm
   dsimp only at m1 m2 m3 m4
   subst m3 m4
   have nwr:∀b o,s.heap.get? b=some o->b∉wr:=λb o e q=>by
    have:=hwr b q
    injection tq (k12 b o e) this
   obtain ps5|ic5:=aU ic5
   obtain q_0|_:=bW ic;rcases q_0 with⟨oc,_,_,_,_,_,_,_,_,op,ec,_,_,_,_,_,_,eP,_⟩
   refine hR t' hp k gp (λb o z e=>m1 b o (nwr b o e) (k5 b o z (k12 b o e))) ⟨ps5,ic5.fld λb o _ z e _=>m1 b o (z.elim (λz=>z▸nwr c oc ec) λz=>z▸nwr P op eP) e⟩ λq=>(GenOnlyQ.bare m2) λy hy=>?_
   . rcases Array.mem_push.mp hy with hy | rfl
     . exact q y hy
     . exact hb
end
theorem PM(k:Int)(h0:0<=k)(h1:k<64):al k∈cI/\(al k∈rV\/al k=39)/\al k≠61:=by
 have:∀i<64,al (i:Nat)∈cI/\(al (i:Nat)∈rV\/al (i:Nat)=39)/\al (i:Nat)≠61:=by decide +kernel
 rcases aU (Int.eq_ofNat_of_zero_le h0) with i|rfl
 exact this i (by lia)
theorem MA:UO=⟨#[61]⟩:=∅
theorem SH:(61:Nat)∈cI/\61∈rV:=by decide +kernel
theorem MB(a:Nat):PySem.Spec.same (PyData.str ⟨#[a]⟩) (PyData.str ⟨#[61]⟩)=decide (a=61):=by
 show ((⟨#[a]⟩:Str)==⟨#[61]⟩)=_
 by_cases h:a=61
 . subst h;rfl
 . have:(⟨#[a]⟩:Str)≠⟨#[61]⟩:=λz=>h (by injection z with z;have w:=congrArg Array.toList z;simpa using w)
   simp[h,this]
theorem HV(a b c d:Nat):(dR ⟨#[a,b,c,d]⟩:Int)=(if a=61 then 1 else 0)+((if b=61 then 1 else 0)+((if c=61 then 1 else 0)+((if d=61 then 1 else 0)+0))):=by
 have:=PyProof.Rows.count_is ⟨#[a,b,c,d]⟩ 61
 replace this:=MA.symm▸this
 refine this.trans ?_
 show PySem.Spec.countIn (.str UO) [PyData.str ⟨#[a]⟩,PyData.str ⟨#[b]⟩,PyData.str ⟨#[c]⟩,PyData.str ⟨#[d]⟩]=_
 rwa[MA]
 simp only[PySem.Spec.countIn,MB,decide_eq_true_eq]
theorem CU(o:List Int)(hl:1<=o.length/\o.length<=3):mY (dQ o)/\(∀c∈(dQ o).cps.toList,c∈rV\/c=39)/\(dQ o).cps.toList≠[]/\dR (dQ o)<=2:=by
 have s:∀o k,al (cM o k)∈cI/\(al (cM o k)∈rV\/al (cM o k)=39)/\al (cM o k)≠61:=λo k=>PM _ (mQ o k).1 (mQ o k).2
 have s61:=SH
 have go:∀(w:Str) (a b c d:Nat),w=⟨#[a,b,c,d]⟩->(a∈cI/\(a∈rV\/a=39)/\a≠61)->(b∈cI/\(b∈rV\/b=39)/\b≠61)->(c∈cI/\(c∈rV\/c=39))->(d∈cI/\(d∈rV\/d=39))->mY w/\(∀c∈w.cps.toList,c∈rV\/c=39)/\w.cps.toList≠[]/\dR w<=2:=by
  intro w a b c d e ha hb hc hd
  rwa[e]
  refine⟨⟨a,b,c,d,rfl,ha.1,hb.1,hc.1,hd.1⟩,List.forall_mem_cons.mpr ⟨ha.2.1,List.forall_mem_cons.mpr ⟨hb.2.1,List.forall_mem_cons.mpr ⟨hc.2,List.forall_mem_cons.mpr ⟨hd.2,nofun⟩⟩⟩⟩,nofun,?_⟩
  have:=HV a b c d
  replace this:=(if_neg hb.2.2)▸(if_neg ha.2.2)▸this
  split at this<;>split at this<;>lia
 have t:(61:Nat)∈cI/\((61:Nat)∈rV\/(61:Nat)=39):=⟨s61.1,.inl s61.2⟩
 exact UX (P:=λo=>mY (dQ o)/\(∀c∈(dQ o).cps.toList,c∈rV\/c=39)/\(dQ o).cps.toList≠[]/\dR (dQ o)<=2) (λx=>go _ _ _ _ _ (PU x) (s _ 0) (s _ 1) t t) (λx y=>go _ _ _ _ _ (PV x y) (s _ 0) (s _ 1) ⟨(s _ 2).1,(s _ 2).2.1⟩ t) (λx y z=>go _ _ _ _ _ (PW x y z) (s _ 0) (s _ 1) ⟨(s _ 2).1,(s _ 2).2.1⟩ ⟨(s _ 3).1,(s _ 3).2.1⟩) o hl
noncomputable def pY:List Int:=[3,12782640,2,54522876,65027585,40478360,0,66059266,67108860]
noncomputable def fZ(xs:List Int):List Int:=xs.take 5++pY
noncomputable def eO(xs:List Int):List (List Int):=(fZ xs).map uB
noncomputable def aZ(xs:List Int):List Str:=(eO xs).map dQ
theorem AC(xs:List Int):(fZ xs).length<=14:=by
 unfold fZ pY
 rwa[List.length_append,List.length_take]
 simp;lia
section
variable{C:Cx}{n:Nat}
theorem MC{xs:List Int}(hx:xs.length<=1000):rO C n (aD (aY 49)) [(("script":Str),.list (xs.map .int))] ((aX (aY 49)).headD (.Pass ⟨0,0,0,0⟩)) (.nxt [(("numbers":Str),.list ((fZ xs).map .int)),(("script":Str),.list (xs.map .int))]):=by
 have hz:∀k,k<=1000->k<=sizeLine:=λk h=>Nat.le_trans h ∅
 refine bS (d:=.list ((fZ xs).map .int)) (bA (cR (a:=.list ((xs.map D.int).take 5)) (b:=.list (pY.map .int)) (nX (b:=5) (aA rfl rfl) aG (by rwa[List.length_map ..];exact hz _ hx)) (bU (aF aG (aF aG (aF aG (aF aG (aF aG (aF aG (aF aG (aF aG (bY aG))))))))) ∅) (dD (hz _ (by simp[pY];lia)))) (by rw[fZ];rwa[List.map_append,List.map_take];rfl)) ∅
end
noncomputable def MD(r:List Int):D:=.list (r.map .int)
section
variable{C:Cx}{n:Nat}
theorem ME{xs:List Int}{fO:Addr}(FO:fV C fO 40 ["x"])(gO:C.mg ("_law_octets":Str)=some (.ref fO))(b:Bs C) :
 rO C (n+1) (aD (aY 49)) [(("numbers":Str),.list ((fZ xs).map .int)),(("script":Str),.list (xs.map .int))] (((aX (aY 49)).drop 1).headD (.Pass ⟨0,0,0,0⟩))
  (.nxt [(("octets":Str),.list ((eO xs).map MD)),(("numbers":Str),.list ((fZ xs).map .int)),(("script":Str),.list (xs.map .int))]):=by
 have hz:∀k,k<=1000->k<=sizeLine:=λk h=>Nat.le_trans h ∅
 have hl:=AC xs
 refine sR (ds:=(fZ xs).map .int) (outs:=(eO xs).map MD) (eJ (aA rfl rfl)) ∅ rfl ∅ (by simp[eO]) (by simp[eO];exact hz _ (by exact Nat.le_trans (by assumption) ∅)) (λj d o e1 e2=>?_) ?_
 . replace e1:=(List.getElem?_map)▸e1
   rw[eO,List.map_map,List.getElem?_map] at e2
   cases q:(fZ xs)[j]? with
   | none=>replace e1:=q▸e1;injection e1
   | some x =>
    replace e1:=q▸e1;replace e2:=q▸e2
    obtain rfl:=Option.some.inj e1;obtain rfl:=Option.some.inj e2
    exact cT FO (by rfl) gO ∅ (bY (aA rfl rfl)) (EV FO b x)
 . intro env h
   obtain⟨_,_⟩:=env
   subst h
   rfl
end
theorem PN(x:Int):(1<=(uB x).length/\(uB x).length<=3)/\∀y∈uB x,0<=y/\y<256:=by
 have hm:=xW x
 refine⟨by simp[uB];(and_intros<;>lia),λy hy=>?_⟩
 rcases aL (List.mem_map.mp hy) with k|_|rfl
 unfold IP
 exact⟨Int.fmod_nonneg_of_pos _ ∅,Int.fmod_lt_of_pos _ ∅⟩
theorem xK{xs:List Int}{r:List Int}(h:r∈eO xs):(1<=r.length/\r.length<=3)/\∀y∈r,0<=y/\y<256:=by
 rcases aL (List.mem_map.mp h) with x|_|rfl
 exact PN x
theorem fF(xs:List Int):(aZ xs).length<=14:=by
 have:=AC xs
 simp[aZ,eO];exact this
theorem MF(xs:List Int):aZ xs≠[]:=λz=>by
 have:=congrArg List.length z
 simp[aZ,eO,fZ,pY] at this
theorem iZ{xs:List Int}{w:Str}(h:w∈aZ xs):mY w/\(∀c∈w.cps.toList,c∈rV\/c=39)/\w.cps.toList≠[]/\dR w<=2:=by
 rcases aL (List.mem_map.mp h) with r|hr|rfl
 exact CU r (xK hr).1
noncomputable def tW:Stmt:=((aX (aY 49)).drop 2).headD (.Pass ⟨0,0,0,0⟩)
noncomputable def MG:List PySem.Expr:=match tW with
 | .Assign _ (.Tuple es _ _) _=>es
 | _=>[]
noncomputable def TV:PySem.Expr:=match MG with
 | [.Call _ (a::_) _ _,_]=>a
 | _=>.Constant .none 0 ⟨0,0,0,0⟩
noncomputable def MH:PySem.Expr:=match MG with
 | [_,b]=>b
 | _=>.Constant .none 0 ⟨0,0,0,0⟩
noncomputable def AD(xs:List Int):List (Str×D):=[(("octets":Str),.list ((eO xs).map MD)),(("numbers":Str),.list ((fZ xs).map .int)),(("script":Str),.list (xs.map .int))]
section
variable{C:Cx}{n:Nat}
theorem MI{xs:List Int}{fW:Addr}(FW:fV C fW 41 ["octets"])(gW:C.mg ("_law_word":Str)=some (.ref fW))(b:Bs C):Ev C (n+1) (aD (aY 49)) (AD xs) MH (.list ((aZ xs).map .str)):=by
 have hz:∀k,k<=1000->k<=sizeLine:=λk h=>Nat.le_trans h ∅
 have hl:=fF xs
 refine fP (ds:=(eO xs).map MD) (eJ (aA rfl rfl)) ∅ rfl (by simp[aZ]) (by rwa[List.length_map ..];exact hz _ (by exact Nat.le_trans (by assumption) ∅)) λj d o e1 e2=>?_
 replace e1:=(List.getElem?_map)▸e1
 rw[aZ,List.map_map,List.getElem?_map] at e2
 cases q:(eO xs)[j]? with
 | none=>replace e1:=q▸e1;injection e1
 | some r =>
  replace e1:=q▸e1;replace e2:=q▸e2
  obtain rfl:=Option.some.inj e1;obtain rfl:=Option.some.inj e2
  have hr:=xK (List.mem_of_getElem? q)
  exact cT FW (by rfl) gW ∅ (bY (aA rfl rfl)) (NL FW b r hr.1 hr.2)
end
section
variable{C:Cx}{n:Nat}
structure PO(C:Cx)(f fa fb ft:Addr)(args argsA:List Value->Args)(t:Tok):Prop where
 F:qM C f 14 args ["s","altchars"]
 hF:∀vs,args vs=⟨vs,[]⟩
 gF:C.mg ("b64encode":Str)=some (.ref f)
 FA:qM C fa 12 argsA ["data","newline"]
 hA:∀v w,argsA [v,w]=⟨[v],[(("newline":Str),w)]⟩
 gA:C.mg ("b2a_base64":Str)=some (.ref fa)
 FU:fV C fb 9 ["data"]
 gB:C.mg ("_buffer":Str)=some (.ref fb)
 FT:fV C ft 10 ["x"]
 gT:C.mg ("_truth":Str)=some (.ref ft)
 bt:C.mg ("bytes":Str)=none/\C.mb ("bytes":Str)=some (.type "bytes")
 bo:C.mg ("bool":Str)=none/\C.mb ("bool":Str)=some (.type "bool")
 hg:C.mg ("_B64":Str)=some (.bytes ID.toArray t)
theorem SI{xs:List Int}{f fa fb ft:Addr}{args argsA:List Value->Args}{t:Tok}(K:PO C f fa fb ft args argsA t)(b:Bs C)(hI:∀b,¬C.I.own b)(hn:203<=n):Ev C n (aD (aY 49)) (AD xs) TV (.list ((aZ xs).map .str)):=by
 have hz:∀k,k<=1000->k<=sizeLine:=λk h=>Nat.le_trans h ∅
 have hl:=fF xs
 refine fP (ds:=(eO xs).map MD) (eJ (aA rfl rfl)) ∅ rfl (by simp[aZ]) (by rwa[List.length_map ..];exact hz _ (by exact Nat.le_trans (by assumption) ∅)) λj d o e1 e2=>?_
 replace e1:=(List.getElem?_map)▸e1
 rw[aZ,List.map_map,List.getElem?_map] at e2
 cases q:(eO xs)[j]? with
 | none=>replace e1:=q▸e1;injection e1
 | some r =>
  replace e1:=q▸e1;replace e2:=q▸e2
  obtain rfl:=Option.some.inj e1;obtain rfl:=Option.some.inj e2
  have hr:=xK (List.mem_of_getElem? q)
  exact FZ K.F K.hF K.gF K.FA K.hA K.gA K.FU K.gB K.FT K.gT b K.bt K.bo K.hg hI hn r hr.1 hr.2 rfl rfl ∅ (aA rfl rfl)
end
theorem AE{w:Str}(h:mY w):w.length=4:=by
 obtain c0|c1|c2|c3|hx|_:=UU h
 unfold Str.length;rwa[hx];rfl
theorem CV{w:Str}(h:w.length=4):(bP w).length<=40:=by
 have h1:(Txt.split w iD).length<=w.length+2:=split_le w iD
 have h2:((Txt.split w iD).map (·.length)).sum<=w.length+1:=Nat.le_trans (Nat.le_add_right _ _) (split_weight w iD ∅)
 have h3:=mR jO (Txt.split w iD)
 replace h3:=(show jO.length=5 from by decide)▸h3
 have e1:iD.length=1:=∅
 unfold bP
 split
 . rwa[iS ..,iS ..,hG ..,e1];lia
 . lia
theorem CW{l:List Str}{k:Nat}(h:∀w∈l,w.length<=k):(l.map (·.length)).sum<=l.length*k:=by
 induction l with
 | nil=>simp
 | cons y r ih =>
  have h1:=h y (.head _)
  have h2:=ih λw hw=>h w (.tail _ hw)
  rwa[List.map_cons,List.sum_cons,List.length_cons,Nat.add_mul ..]
  lia
theorem kR(xs:List Int):∀w∈(aZ xs).map bP,w.length<=40:=λw hw=>by
 rcases aL (List.mem_map.mp hw) with v|hv|rfl
 exact CV (AE (iZ hv).1)
theorem CX(xs:List Int):JoinOk (" ":Str) ((aZ xs).map bP)=true:=by
 have h1:=CW (kR xs)
 have h2:=fF xs
 rw[List.length_map] at h1
 refine joinOk_of ?_
 rwa[List.length_map ..,show (" ":Str).length=1 from by decide]
 lia
theorem qA(xs:List Int):(Str.join " " ((aZ xs).map bP)).length<=600:=by
 have h1:=CW (kR xs)
 have h2:=fF xs
 have h3:=mR " " ((aZ xs).map bP)
 rw[List.length_map] at h1;rw[List.length_map] at h3
 replace h3:=(show (" ":Str).length=1 from by decide)▸h3
 lia
theorem xL(xs:List Int):(dT (aZ xs)).length<=1000:=by
 have h3:=qA xs
 unfold dT
 rwa[iS ..,show (" 'and":Str).length=5 from by decide]
 lia
theorem HW(ws:List Str):jU ws 0=0:=by rfl
theorem MJ(xs:List Int):kH 20 (bI (aZ xs)) (aZ xs).length=oV 21 (aZ xs)/\oH 20 (bI (aZ xs)) (aZ xs).length:=by
 have h:=fF xs
 exact zZ 20 (aZ xs) (λw hw=>(iZ hw).2.2.2) (by exact Nat.le_trans (by assumption) ∅) (Nat.le_trans h ∅)
noncomputable def ZD(P:Addr)(env:Env)(h h':Heap):Prop:=∀b o,b≠P->b≠env.locals->(∀x,env.cells.lookup x≠some b)->h.get? b=some o->h'.get? b=some o
noncomputable def eQ(xs:List Int):Str:=Str.join " " ((aZ xs).map bP)
noncomputable def AG(xs:List Int):List (Str×D):=[(("line":Str),.str (eQ xs)),(("words":Str),.list ((aZ xs).map .str))]
theorem HX{C:Cx}(hI:C.I=bX.none):lI C.I C.I:=by rwa[hI];exact⟨λ_ q=>q,λ_ q=>q,λ_ _ _ _ _ _ _ _ q=>q.elim,λ_ _ _ _ _ q=>q.elim⟩
section
variable{C:Cx}{n:Nat}
theorem CY{xs:List Int}{A:Around}{B:Heap}{env:Env}{X:Addr->Prop}{s:Shared}{Q:Flow->Shared->Prop}{E:Value->Shared->Prop}(O:Ok C (n+1) (aD (aY 49)) (AD xs) A B env X s.heap)(hI:C.I=bX.none)(hh:A.handled=none)(hn:203<=n+1)
 {f fa fb ft:Addr} {args argsA:List Value->Args} {t:Tok} (K:PO C f fa fb ft args argsA t) (b:Bs C)
 {fJ:Addr} {obJ:Obj} {fdJ:FuncData} (FJ:mG C fJ (aY 35) obJ fdJ) (gJ:C.mg ("join_shlex":Str)=some (.ref fJ)) (hbJ:∀v:Value,bindArgs fdJ ⟨[v],[]⟩=pure [(("split_command":Str),v)]) {fQ bm:Addr} {obm:Obj} (FQ:fV C fQ 38 ["s"]) (gQ:C.mg ("quote":Str)=some (.ref fQ)) (hq:∀w,mY w->Fn C 5 fQ [.str w] (.str (bP w))) (bk:CF C bm obm)
 {c P:Addr} (hcode:fdJ.code=.ref c) (hok:∃ps,iE s.heap c P ps) (hPB:B.get? P=none) {fW:Addr} (FW:fV C fW 41 ["octets"]) (gW:C.mg ("_law_word":Str)=some (.ref fW))
 (h:∀h' tk gs,Ok C (n+1) (aD (aY 49)) (AG xs) A B env X h'->ZD P env s.heap h'->(∃ps,iE h' c P ps)->oD s.gens gs->Q .next {s with heap:=h',toks:=tk,gens:=gs}) :
 wpAny C.M A (exec tW env) Q E s:=by
 have hsc:env.scope=aD (aY 49):=let ⟨_,F,_⟩:=O.st;F.scope
 have bo:Bo C B:=λb q=>by replace q:=hI▸q;exact q.elim
 have hlw:=fF xs
 show wpAny _ _ (exec (.Assign [.Tuple [.Name "line" _,.Name "words" _] _ _] (.Tuple [.Call (.Name "join_shlex" _) [TV] [] _,MH] _ _) _) env) _ _ _
 refine Assign_Tuple_swapped (names:=["line","words"]) (wpAny_Tuple (wpAny_items_cons (wpAny_Call_ofName (cA O rfl gJ ∅ ?_)) rfl)) rfl ?_
 . refine callWith_function (o:=obJ) (fd:=fdJ) ?_
   refine evalArgs_plain ?_
   refine (bY (C:=C) (n:=n+1) (sc:=aD (aY 49)) (δ:=AD xs) (SI K b (λb q=>by replace q:=hI▸q;exact q) hn)).go A B env X _ s _ _ O λvs s1 k1 r1=>?_
   have O1:=O.on k1
   obtain v|_|r1|r2|rfl:=iG (aR r1)
   obtain rfl:=bJ r2
   revert O1 r1;refine kE k1 ?_;clear k1;intro h1 tk1 k1 O1 r1
   refine⟨⟨O1.gl.k _ _ FJ.1,FJ.2⟩,?_⟩
   obtain ps|ic:=aU hok
   refine wpAny_call (HU (n:=n) (s:={s with heap:=h1,toks:=tk1}) FJ hbJ FQ gQ (λw hw=>hq w (iZ hw).1) bk (CX xs) (by exact Nat.le_trans (by assumption) ∅) (O1.cl bo) (by lia) hI hh r1 hcode ⟨ps,ic.keeps k1⟩ hPB λt2 h2 tk2 gs2 e2 ic2 hb2=>?_)
   have O2:Ok C (n+1) (aD (aY 49)) (AD xs) A B env X h2:=O1.parts hh (HX hI) bo (ic.keeps k1) e2 hPB (λq=>by replace q:=hI▸q;exact q)
   refine wpAny_items_cons ((MI FW gW b).go A B env X {s with heap:=h2,toks:=tk2,gens:=gs2} _ _ O2 λv3 s3 k3 r3=>wpAny_items_nil ?_) rfl
   refine⟨(by decide:2<=sizeLine),?_⟩
   have O3:=O2.on (s:={s with heap:=h2,toks:=tk2,gens:=gs2}) k3
   revert r3 O3;refine kE k3 ?_;clear k3;intro h3 tk3 k3 r3 O3
   obtain⟨hp,hhp⟩:∃hp,hp=h3.push {cls:=.type "tuple",data:=.seq [.str (eQ xs) t2,v3].toArray}:=⟨_,rfl⟩
   have k0:∀b o,h3.get? b=some o->hp.get? b=some o:=λb o e=>by rwa[hhp];exact Heap.get?_push_of_some _ e
   have ht:hp.get? h3.objs.size=some {cls:=.type "tuple",data:=.seq [.str (eQ xs) t2,v3].toArray}:=by rwa[hhp];exact Heap.get?_push_size _ rfl
   show wpAny _ _ _ _ _ {s with heap:=h3.push {cls:=.type "tuple",data:=.seq [.str (eQ xs) t2,v3].toArray},toks:=tk3,gens:=gs2}
   rwa[←hhp]
   have O4:=O3.keeps k0
   refine jM (s:={s with heap:=hp,toks:=tk3,gens:=gs2}) (items:=[.str (eQ xs) t2,v3]) O4.ho ht λh4 k4=>?_
   have O5:=O4.keeps k4
   have kk:∀b o,h3.get? b=some o->h4.get? b=some o:=λb o e=>k4 b o (k0 b o e)
   show wpAny _ _ (holding _ (bindName env "words" v3) >>= λ_=>assignInOrder [bindName env "line"] [.str (eQ xs) t2]) _ _ _
   refine wpAny_bind (wpAny_holding (bindName_ (O5.store (s:={s with heap:=h4,toks:=tk3,gens:=gs2}) (r3.keeps kk) (k:=.local) rfl (.inl rfl) λh5 tk5 O6 B5 st5 lo5=>?_)))
   show wpAny _ _ (holding _ (bindName env "line" (.str (eQ xs) t2)) >>= λ_=>assignInOrder [] []) _ _ _
   refine wpAny_bind (wpAny_holding (bindName_ (O6.store (s:={s with heap:=h5,toks:=tk5,gens:=gs2}) (.str (eQ xs) t2) (k:=.local) rfl (.inl rfl) λh6 tk6 O7 B6 st6 lo6=>?_)))
   refine wpAny_pure (h h6 tk6 gs2 (O7.sub (aM rfl (aM rfl eA))) (λb o z1 z2 z3 e=>?_) (O6.code B6 (O5.code B5 ?_)) hb2)
   . exact B6 b o z2 z3 (B5 b o z2 z3 (kk b o (k3 b o (e2 b o z1 (k1 b o e)))))
   . obtain ps2|ic2:=aU ic2
     exact⟨ps2,ic2.keeps λb o e=>kk b o (k3 b o e)⟩
 . obtain⟨_,_⟩:=env
   subst hsc
   rfl
end
section
variable{C:Cx}{n:Nat}{sc:Scope}{δ:List (Str×D)}
theorem Ok.kc{A:Around}{B:Heap}{env:Env}{X:Addr->Prop}{h0 h':Heap}{P:Addr}(O:Ok C n sc δ A B env X h0)(hI:C.I=bX.none)(hh:A.handled=none)(K:KC [env] P h0 h')(hf:env.frame=some env.locals)(hPB:B.get? P=none)(hP:∃c ps,iE h0 c P ps):Ok C n sc δ A B env X h':=by
 obtain c|ps|ic:=mF hP
 rcases aL (GP.code_notSeq ic) with oP|eP|dP
 rcases aL O.st with ρ|Fv|V
 rcases nU Fv.base with G|k0|hL|hC
 rcases aL Fv.ns with m0|q_0|hm0;obtain oL|esL|epL|eL|dL|kL:=nV q_0
 have frL:∀b,oX [env] b->b=env.locals:=λb z=>by
  rcases aL (List.mem_filterMap.mp z) with en|he|w
  cases he with
  | head=>have h_:=sx hf w;clear w;subst h_;rfl
  | tail _ he=>cases he
 have keep:∀b o,h0.get? b=some o->(∀es ep,o.data≠.dict es ep)->(∀vs,o.data≠.fields vs)->h'.get? b=some o:=λb o q d d2=>by
  refine (K b o (λz=>?_) q).1 λz=>?_
  . replace q:=eP▸z▸q;obtain rfl:=Option.some.inj q;exact d2 _ dP
  . replace q:=eL▸(frL b z)▸q;obtain rfl:=Option.some.inj q;exact d _ _ dL
 have LP:env.locals≠P:=λz=>by replace eL:=eP▸z▸eL;obtain rfl:=Option.some.inj eL;injection tq dP dL
 rcases aU ((K _ _ LP eL).2) with sl|qL
 refine⟨O.rm,.inl hh,λa ha=>?_,(by rwa[hI];exact trivial),O.ox,ρ,?_,V.at λb o xb l q=>⟨xb,keep b o q (λes ep w=>by obtain vs|nn|rfl:=mF l;injection w) (λes w=>by obtain vs|nn|rfl:=mF l;injection w)⟩⟩
 . rcases eU (O.xo a ha) with o|vs|nn|q1|q2
   exact⟨o,vs,nn,keep _ _ q1 (λes ep w=>by injection tq w q2) (λes w=>by injection tq w q2),q2⟩
 . refine⟨⟨G,λb o q=>?_,hL,hC⟩,Fv.scope,Fv.kind,Fv.globals,Fv.builtins,⟨m0,⟨_,esL,epL,qL,dL,kL⟩,hm0⟩,
    λy hy=>let ⟨a,q1,o,q2,q3⟩:=Fv.cells y hy;⟨a,q1,o,keep _ _ q2 (λes ep w=>by injection tq w q3) (λes w=>by injection tq w q3),q3⟩,Fv.inj,λy a q=>let ⟨v,o,q2,q3⟩:=Fv.allc y a q;⟨v,o,keep _ _ q2 (λes ep w=>by injection tq w q3) (λes w=>by injection tq w q3),q3⟩⟩
   exact (K b o (λz=>by replace q:=hPB▸z▸q;injection q) (k0 b o q)).1 λz=>by replace q:=hL.1▸(frL b z)▸q;injection q
end
theorem sB{k:Nat}:∀{ds:List D},(∀d∈ds,d.odd=false/\∀l,d=.list l->vW k l)->vW (k+1) ds
 | [],_=>.nil
 | d::ds,h=>.cons (h d (.head _)).1 (h d (.head _)).2 (sB λx hx=>h x (.tail _ hx))
theorem EH{k:Nat}(ws:List Str):vW (k+1) (ws.map D.str):=sB λd hd=>by
 rcases aL (List.mem_map.mp hd) with w|_|rfl
 exact⟨rfl,λl z=>by injection z⟩
theorem EI{k:Nat}(ws:List Int):vW (k+1) (ws.map D.int):=sB λd hd=>by
 rcases aL (List.mem_map.mp hd) with w|_|rfl
 exact⟨rfl,λl z=>by injection z⟩
theorem AH(ws:List Str):(jR ws).odd=false/\∀l,jR ws=.list l->vW 7 l:=by
 refine⟨rfl,λl z=>?_⟩
 (injection z with h_0;subst h_0)
 refine .cons rfl (λl z=>?_) (.cons rfl (λl z=>?_) (.cons rfl (λl z=>?_) (.cons rfl (λl z=>?_) .nil)))
 . (injection z with h_0;subst h_0);exact EH _
 . (injection z with h_0;subst h_0);exact EI _
 . (injection z with h_0;subst h_0);exact .nil
 . injection z
theorem ML(ws:List Str)(t:Tr)(p:Nat):(hO ws t p).odd=false/\∀l,hO ws t p=.list l->vW 7 l:=by
 refine⟨rfl,λl z=>?_⟩
 (injection z with h_0;subst h_0)
 refine .cons rfl (λl z=>?_) (.cons rfl (λl z=>?_) (.cons rfl (λl z=>?_) (.cons rfl (λl z=>?_) .nil)))
 . (injection z with h_0;subst h_0);exact EH _
 . (injection z with h_0;subst h_0);exact EI _
 . (injection z with h_0;subst h_0)
   refine .cons rfl (λl z=>?_) .nil
   (injection z with h_0;subst h_0)
   exact .cons rfl (λl z=>(by injection z)) (.cons rfl (λl z=>(by injection z)) .nil)
 . injection z
theorem EJ:∀(f:Nat) (ws:List Str),∀d∈oV f ws,d.odd=false/\∀l,d=.list l->vW 7 l
 | 0,ws,d,h=>by
  have:d=jR ws:=by simpa [oV] using h
  subst this;exact AH ws
 | f+1,ws,d,h=>by
  unfold oV at h
  split at h
  . have:d=jR ws:=by simpa using h
    subst this;exact AH ws
  . rcases List.mem_cons.mp h with h | h
    . subst h;exact ML _ _ _
    . exact EJ f _ d h
theorem MM(ws:List Str):(D.list (oV 21 ws)).odd=false/\∀l,D.list (oV 21 ws)=.list l->vW 8 l :=
 ⟨rfl,λl z=>by (injection z with h_0;subst h_0);exact sB (EJ 21 ws)⟩
noncomputable def MN:PySem.Expr:=match aX (aY 49) with
 | [_,_,_,.Return (some (.BoolOp _ (.Compare _ _ (.Call _ (g::_) _ _::_) _::_) _)) _]=>g
 | _=>.Constant .none 0 ⟨0,0,0,0⟩
section
variable{C:Cx}{n:Nat}
theorem MP{xs:List Int}{fL:Addr}(FL:fV C fL 42 ["word"])(gL:C.mg ("_law_quoted":Str)=some (.ref fL)):Ev C (n+1) (aD (aY 49)) (AG xs) MN (.list (((aZ xs).map bP).map .str)):=by
 have hz:∀k,k<=1000->k<=sizeLine:=λk h=>Nat.le_trans h ∅
 have hl:=fF xs
 refine fP (ds:=(aZ xs).map .str) (eJ (aA rfl rfl)) ∅ rfl (by simp) (by rwa[List.length_map ..,List.length_map ..];exact hz _ (by exact Nat.le_trans (by assumption) ∅)) λj d o e1 e2=>?_
 replace e1:=(List.getElem?_map)▸e1
 replace e2:=(List.getElem?_map)▸List.map_map▸e2
 cases q:(aZ xs)[j]? with
 | none=>replace e1:=q▸e1;injection e1
 | some w =>
  replace e1:=q▸e1;replace e2:=q▸e2
  obtain rfl:=Option.some.inj e1;obtain rfl:=Option.some.inj e2
  exact cT FL (by rfl) gL ∅ (bY (aA rfl rfl)) (EW FL w (by rwa[AE (iZ (List.mem_of_getElem? q)).1];decide))
theorem MQ{xs:List Int}{p1 p2 p3:Pos}{k1:Nat}{fL:Addr}(FL:fV C fL 42 ["word"])(gL:C.mg ("_law_quoted":Str)=some (.ref fL))(hl:(p2.endLine==p3.line)=true):Ev C (n+1) (aD (aY 49)) (AG xs) (.Call (.Attribute (.Constant (.str " ") k1 p1) "join" p2) [MN] [] p3) (.str (eQ xs)):=by
 refine bA (mL (x:=" ") (ds:=[.list (((aZ xs).map bP).map .str)]) aT (bY (MP FL gL)) (vV ?_) _root_.PySem.F.plainAttrs_str _root_.PySem.F.slot_str_join _root_.PySem.F.type_str_join hl) (by rwa[hG ..];rfl)
 have h1:=CW (kR xs)
 have h2:=fF xs
 rw[List.length_map] at h1 ⊢
 rwa[show (" ":Str).length=1 from by decide]
 lia
theorem CZ{xs:List Int}{A:Around}{B:Heap}{env:Env}{X:Addr->Prop}{s:Shared}{Q:Flow->Shared->Prop}{E:Value->Shared->Prop}(O:Ok C 203 (aD (aY 49)) (AG xs) A B env X s.heap)(hI:C.I=bX.none)(hh:A.handled=none)(hfr:A.frames=some [env])(hf:env.frame=some env.locals)(b:Bs C)
 {fL:Addr} (FL:fV C fL 42 ["word"]) (gL:C.mg ("_law_quoted":Str)=some (.ref fL))
 {ob:Obj} {fd:FuncData} {fI fT:Addr} {obI:Obj} {fdI:FuncData} {rest:List Value} {fK:Addr} {obL:Obj} {fdL:FuncData} (K:oZ C ob fd fI fT obI fdI rest fK obL fdL) (hki:keepIn C.K (.ref 797)=true) (hgs:C.mg ("shlex":Str)=some (.ref 797))
 {fX:Addr} {obX:Obj} {fdX:FuncData} (FX:mG C fX (aY 45) obX fdX) (gX:C.mg ("_law_trees":Str)=some (.ref fX)) (hbX:∀v:Value,bindArgs fdX ⟨[v],[]⟩=pure [(("line":Str),v)]) {fN fIt fS fG aS bm fW lo hi:Addr} {obm:Obj} (TK:∀a:gU,a.CL=797->a.CS=662->fM C a fN fIt fS fG aS bm obm) (UK:tT C aS fW lo hi)
 {pE:Nat} {stE:D} {tokE:Str} (LR:∀a:gU,a.CL=797->a.CS=662->a.dL≠a.dS->iB C a (dT (aZ xs)) 11 fN (bI (aZ xs)) (jU (aZ xs)) (aZ xs).length pE stE tokE)
 {c P:Addr} (hcode:fdX.code=.ref c) (hok:∃ps,iE s.heap c P ps) (hPB:B.get? P=none) (hcB:∃o,B.get? c=some o)
 {fD fg fp:Addr} (FD:fV C fD 48 ["words"]) (gD:C.mg ("_law_due":Str)=some (.ref fD)) (FG:fV C fg 46 ["words"]) (gG:C.mg ("_law_grown":Str)=some (.ref fg)) (FP:fV C fp 47 ["tree","few"]) (gP:C.mg ("_law_parties":Str)=some (.ref fp))
 (h:∀h' tk gs,(∀b o,b≠P->b≠env.locals->s.heap.get? b=some o->h'.get? b=some o)->(∃ps,iE h' c P ps)->oD s.gens gs->Q (.ret (.bool true)) {s with heap:=h',toks:=tk,gens:=gs}) :
 wpAny C.M A (exec (((aX (aY 49)).drop 3).headD (.Pass ⟨0,0,0,0⟩)) env) Q E s:=by
 have bo:Bo C B:=λb q=>by replace q:=hI▸q;exact q.elim
 show wpAny _ _ (exec (.Return (some (.BoolOp .And [.Compare (.Name "line" _) [.Eq] [.Call (.Attribute (.Constant (.str " ") _ _) "join" _) [MN] [] _] _,.Compare (.Call (.Name "_law_trees" _) [.BinOp (.Name "line" _) .Add (.Constant (.str " 'and") _ _) _] [] _) [.Eq] [.Call (.Name "_law_due" _) [.Name "words" _] [] _] _] _)) _) env) _ _ _
 refine wpAny_Return_some (wpAny_And2 (wpAny_Compare1 ?_))
 refine (aA (C:=C) (n:=203) (sc:=aD (aY 49)) (δ:=AG xs) (d:=.str (eQ xs)) rfl rfl).go A B env X s _ _ O λva s1 k1 r1=>?_
 have O1:=O.on k1
 refine (MQ (n:=202) FL gL rfl).go A B env X s1 _ _ O1 λvb s2 k2 r2=>?_
 have O2:=O1.on k2
 refine (cL (C:=C) (n:=203) (a:=eQ xs) (b:=eQ xs)).go A X s2 va vb _ _ O2.rm (r1.on k2) r2 O2.xo O2.gl λs3 k3=>wpAny_truthy_bool ?_
 have O3:=O2.on k3
 rwa[beq_self_eq_true ..,if_pos rfl]
 have kk:=aB k1 (aB k2 k3)
 revert k3 O3;refine kE kk ?_;clear kk;intro h3 tk3 kk k3 O3
 refine wpAny_Compare1 (wpAny_Call_ofName (cA O3 rfl gX ∅ (callWith_function (o:=obX) (fd:=fdX) (evalArgs_plain ?_))))
 have hlen:(eQ xs).length+(" 'and":Str).length<=sizeLine:=Nat.le_trans (by have:=qA xs;rwa[show (" 'and":Str).length=5 from by decide];show (Str.join " " ((aZ xs).map bP)).length+5<=1000;lia) ∅
 refine (bY (C:=C) (n:=203) (sc:=aD (aY 49)) (δ:=AG xs) (cR (a:=.str (eQ xs)) (b:=.str " 'and") (aA rfl rfl) aT (lK hlen))).go A B env X _ _ _ _ O3 λvs s4 k4 r4=>?_
 have O4:=O3.on k4
 cases r4 with
 | @cons v _ _ _ r4 r5 =>
 obtain rfl:=bJ r5
 obtain tl|rfl:=aU (bN r4)
 revert O4;refine kE k4 ?_;clear k4;intro h4 tk4 k4 O4
 refine⟨⟨O4.gl.k _ _ FX.1,FX.2⟩,?_⟩
 obtain ps|ic:=aU hok
 have ic4:iE h4 c P ps:=ic.keeps λb o e=>k4 b o (kk b o e)
 have fo:dO bX.none [env] h4:=λen he=>by
  have:en=env:=by simpa using he
  subst this
  rcases eU O4.dict with o|es|ep|q1|q2
  refine⟨?_,_,o,es,ep,hf,λq=>q,q1,q2⟩
  rcases aL O4.st with _|F|_
  rwa[F.scope,F.kind];intro q;injection q
 have lB:∀b,oX [env] b->B.get? b=none:=λb hb=>by
  rcases aL (List.mem_filterMap.mp hb) with en|he|w
  have:en=env:=by simpa using he
  subst this
  have h_:=sx hf w;clear w;subst h_
  rcases aL O4.st with _|F|_
  exact F.base.2.2.1.1
 have hlw:=fF xs
 rcases bW (MJ xs) with ho1|ho2
 refine wpAny_call (CO (m:=200) (n:=11) (s:={s with heap:=h4,toks:=tk4}) (Nat.le_refl _) K hki hgs FX hbX TK UK ∅ ∅ LR (HW _) (by exact Nat.le_trans (by assumption) ∅) ho2 (O4.cl bo) hh hfr fo lB hcode ⟨ps,ic4⟩ hPB hcB λv5 h5 tk5 gs5 r5 kc5 ic5 hb5=>?_)
 replace r5:=ho1▸r5
 have O5:Ok C 203 (aD (aY 49)) (AG xs) A B env X h5:=O4.kc hI hh kc5 hf hPB ⟨c,ps,ic4⟩
 refine (cT (C:=C) (n:=203) (sc:=aD (aY 49)) (δ:=AG xs) FD (by rfl) gD ∅ (bY (aA rfl rfl)) ((QX FD FG gG FP gP b (aZ xs) (by exact Nat.le_trans (by assumption) ∅) λw hw=>(iZ hw).2.2.2).le ∅)).go A B env X {s with heap:=h5,toks:=tk5,gens:=gs5} _ _ O5 λv6 s6 k6 r6=>?_
 have O6:=O5.on (s:={s with heap:=h5,toks:=tk5,gens:=gs5}) k6
 rcases bW (MM (aZ xs)) with sm1|sm2
 refine (NH (C:=C) (n:=203) sm1 sm2).go A X s6 v5 v6 _ _ O6.rm (r5.on (s:={s with heap:=h5,toks:=tk5,gens:=gs5}) k6) r6 O6.xo O6.gl λs7 k7=>?_
 rcases dZ (aB k6 k7) with h7|tk7|rfl|k67
 obtain ps5|ic5:=aU ic5
 refine h h7 tk7 gs5 (λb o z1 z2 e=>k67 b o ((kc5 b o z1 (k4 b o (kk b o e))).1 λf=>?_)) ⟨ps5,ic5.keeps k67⟩ hb5
 rcases aL (List.mem_filterMap.mp f) with en|he|w
 have:en=env:=by simpa using he
 subst this
 have h_:=sx hf w;clear w;subst h_
 exact z2 rfl
end
section
variable{C:Cx}
theorem MR{fLaw:Addr}{obW:Obj}{fdW:FuncData}(FW0:mG C fLaw (aY 49) obW fdW)(hbW:∀v:Value,bindArgs fdW ⟨[v],[]⟩=pure [(("script":Str),v)])(hI:C.I=bX.none)(b:Bs C)
 {fO:Addr} (FO:fV C fO 40 ["x"]) (gO:C.mg ("_law_octets":Str)=some (.ref fO))
 {f fa fb ft:Addr} {args argsA:List Value->Args} {t:Tok} (KB:PO C f fa fb ft args argsA t)
 {fJ:Addr} {obJ:Obj} {fdJ:FuncData} (FJ:mG C fJ (aY 35) obJ fdJ) (gJ:C.mg ("join_shlex":Str)=some (.ref fJ)) (hbJ:∀v:Value,bindArgs fdJ ⟨[v],[]⟩=pure [(("split_command":Str),v)]) {fQ bm:Addr} {obm:Obj} (FQ:fV C fQ 38 ["s"]) (gQ:C.mg ("quote":Str)=some (.ref fQ)) (hq:∀w,mY w->Fn C 5 fQ [.str w] (.str (bP w))) (bk:CF C bm obm)
 {cJ PJ:Addr} (hcJ:fdJ.code=.ref cJ) {fW:Addr} (FW:fV C fW 41 ["octets"]) (gW:C.mg ("_law_word":Str)=some (.ref fW))
 {fL:Addr} (FL:fV C fL 42 ["word"]) (gL:C.mg ("_law_quoted":Str)=some (.ref fL))
 {ob:Obj} {fd:FuncData} {fI fT:Addr} {obI:Obj} {fdI:FuncData} {rest:List Value} {fK:Addr} {obL:Obj} {fdL:FuncData} (K:oZ C ob fd fI fT obI fdI rest fK obL fdL) (hki:keepIn C.K (.ref 797)=true) (hgs:C.mg ("shlex":Str)=some (.ref 797))
 {fX:Addr} {obX:Obj} {fdX:FuncData} (FX:mG C fX (aY 45) obX fdX) (gX:C.mg ("_law_trees":Str)=some (.ref fX)) (hbX:∀v:Value,bindArgs fdX ⟨[v],[]⟩=pure [(("line":Str),v)]) {fN fIt fS fG aS fWo lo hi:Addr} (TK:∀a:gU,a.CL=797->a.CS=662->fM C a fN fIt fS fG aS bm obm) (UK:tT C aS fWo lo hi)
 {fr fc fi pp fg0 frt fgt:Addr} {rest2:List Value} (LK:∀a:gU,a.CL=797->a.CS=662->a.dL≠a.dS->ND C a fr fc fi pp fg0 frt fgt rest2) (FN:gI C fN (fH 34 10) pl ["self"])
 {cX PX:Addr} (hcX:fdX.code=.ref cX)
 {fD fg fp:Addr} (FD:fV C fD 48 ["words"]) (gD:C.mg ("_law_due":Str)=some (.ref fD)) (FG:fV C fg 46 ["words"]) (gG:C.mg ("_law_grown":Str)=some (.ref fg)) (FP:fV C fp 47 ["tree","few"]) (gP:C.mg ("_law_parties":Str)=some (.ref fp))
 {xs:List Int} (hx:xs.length<=1000) {A:Around} {B:Heap} {X:Addr->Prop} {s:Shared} {v:Value} {R:Result->Shared->Prop} (Cl0:Cl C 204 A B X s) (hh:A.handled=none) (hfr:A.frames=some [])
 (okJ:∃ps,iE s.heap cJ PJ ps) (okX:∃ps,iE s.heap cX PX ps) (hPJ:B.get? PJ=none) (hPX:B.get? PX=none) (hcB:∃o,B.get? cX=some o) (hne:PX≠PJ) (hne2:cX≠PJ) (hne3:cJ≠PX)
 (r:Rd X s.heap v (.list (xs.map .int)))
 (hR:∀(h':Heap) (tk:Tok) (gs:Array GenState),(∀b o,b≠PJ->b≠PX->s.heap.get? b=some o->h'.get? b=some o)->(∃ps,iE h' cJ PJ ps)->(∃ps,iE h' cX PX ps)->oD s.gens gs->R (.ok (.ret (.bool true))) {s with heap:=h',toks:=tk,gens:=gs}) :
 codeAny C.M A (.call (.ref fLaw) ⟨[v],[]⟩) R s:=by
 refine LG (C:=C) (n:=203) (names:=["script"]) FW0 ∅ (λds=>ds=[.list (xs.map .int)]) (λA' Q E h=>?_) Cl0 λenv h1 tk1 ds hP hsc hcd hf nL k1 hC O1=>?_
 . rwa[hbW ..]
   exact wpAny_pure (h [v] [.list (xs.map .int)] s rfl rfl rfl (aE s) (.cons r .nil))
 . subst hP
   have nEnv:∀b o,s.heap.get? b=some o->b≠env.locals/\∀x,env.cells.lookup x≠some b:=λb o e=>⟨λz=>(by replace e:=nL▸z▸e;injection e),λx z=>(by injection tq (hC x b z) e)⟩
   have hfr':(A.deeper env).frames=some [env]:=by show A.frames.map (env::·)=_;rwa[hfr];rfl
   show wpAny _ _ (execs [(aX (aY 49)).headD (.Pass ⟨0,0,0,0⟩),((aX (aY 49)).drop 1).headD (.Pass ⟨0,0,0,0⟩),tW,((aX (aY 49)).drop 3).headD (.Pass ⟨0,0,0,0⟩)] env) _ _ _
   refine wpAny_execs_cons ((MC (C:=C) (n:=203) hx).go _ B env X {s with heap:=h1,toks:=tk1} _ _ O1 λfl s2 k2 o2=>?_)
   obtain rfl|O2:=bW o2
   refine wpAny_execs_cons ((ME (C:=C) (n:=202) FO gO b).go _ B env X s2 _ _ O2 λfl s3 k3 o3=>?_)
   obtain rfl|O3:=bW o3
   rcases dZ (k2.trans k3) with h3|tk3|rfl|B3
   have k13:∀b o,s.heap.get? b=some o->h3.get? b=some o:=λb o e=>B3 b o (nEnv b o e).1 (nEnv b o e).2 (k1 b o e)
   obtain psJ|icJ:=aU okJ
   obtain psX|icX:=aU okX
   refine wpAny_execs_cons (CY (n:=202) (s:={s with heap:=h3,toks:=tk3}) O3 hI hh ∅ KB b FJ gJ hbJ FQ gQ hq bk hcJ ⟨psJ,icJ.keeps k13⟩ hPJ FW gW λh4 tk4 gs4 O4 B4 icJ4 hb4=>?_)
   have icX4:iE h4 cX PX psX:=icX.fld λb o _ z e _=>B4 _ _ (z.elim (λz=>z▸hne2) λz=>z▸hne) (nEnv _ _ e).1 (nEnv _ _ e).2 (k13 _ _ e)
   refine wpAny_execs_cons (CZ (s:={s with heap:=h4,toks:=tk4,gens:=gs4}) O4 hI hh hfr' hf b FL gL K hki hgs FX gX hbX TK UK (λa e1 e2 ne=>SA (n:=8) (LK a e1 e2 ne) FN (Nat.le_refl _) (xL xs) (MF xs) (λw hw=>⟨(iZ hw).2.1,(iZ hw).2.2.1,(iZ hw).2.2.2⟩) UK.gV) hcX ⟨psX,icX4⟩ hPX hcB FD gD FG gG FP gP λh5 tk5 gs5 k5 icX5 hb5=>?_)
   obtain psJ4|icJ4:=aU icJ4
   obtain q_0|_:=bW icJ;rcases q_0 with⟨oc,_,_,_,_,_,_,_,_,op,ec,_,_,_,_,_,_,eP,_⟩
   refine hR h5 tk5 gs5 (λb o z1 z2 e=>k5 b o z2 (nEnv b o e).1 (B4 b o z1 (nEnv b o e).1 (nEnv b o e).2 (k13 b o e))) ⟨psJ4,icJ4.fld λb o _ z e _=>k5 b o (z.elim (λz=>z▸hne3) λz=>z▸hne.symm) (z.elim (λz=>z▸(nEnv _ _ ec).1) λz=>z▸(nEnv _ _ eP).1) e⟩ icX5 λq=>hb5 (hb4 q)
end
end Mine
end
section
open PySem PySem.W PyProof.Rows PySem.Calls
namespace Mine.L
open Mine
noncomputable abbrev S(s:String)(t:Nat):Value:=.str (Str.ofString s) t
noncomputable abbrev I(i:Int):Value:=.int i 0
noncomputable abbrev R(a:Nat):Value:=.ref a
noncomputable abbrev N:Value:=.none
noncomputable abbrev B(s:String):Value:=.builtin s
noncomputable abbrev T(s:String):Value:=.type s
noncomputable abbrev t(l:List Value):Obj:={cls:=.type "tuple",data:=.seq l.toArray}
noncomputable abbrev t0:Obj:={cls:=.type "tuple",data:=.seq #[]}
noncomputable def ss:List String->Nat->List Value
 | [],_=>[]
 | a::r,n=>S a n::ss r (n+1)
noncomputable def ts(l:List String)(n:Nat):Obj:={cls:=.type "tuple",data:=.seq (ss l n).toArray}
noncomputable abbrev p0:Obj:={cls:=.none,data:=.fields #[]}
noncomputable abbrev m(c j:Nat):Stmt:=fH c j
noncomputable def MS:Stmt->Arguments
 | .FunctionDef _ a _ _ _ _ _ _ _ _=>a
 | _=>default
noncomputable def MT:Stmt->Str
 | .FunctionDef n _ _ _ _ _ _ _ _ _=>n
 | _=>default
noncomputable def f0(st:Stmt)(q:String):Obj:={cls:=.none,data:=.func {name:=MT st,qualname:=Str.ofString q,params:=MS st,body:=.stmts (aX st),scope:=aD st,globals:=0,closure:=[],defaults:=.none,kwdefaults:=.none}}
noncomputable def xR(st:Stmt)(q mo:String)(k:Nat)(df kw:Value)(c:Nat):FuncData:={name:=MT st,qualname:=Str.ofString q,params:=MS st,body:=.stmts (aX st),scope:=aD st,globals:=3,closure:=[],defaults:=df,kwdefaults:=kw,pyModule:=S mo k,code:=R c}
noncomputable def f1(st:Stmt)(q mo:String)(k:Nat)(df kw:Value)(c:Nat):Obj:={cls:=.type "function",data:=.func (xR st q mo k df kw c)}
noncomputable abbrev cd(l:List Value):Obj:={cls:=.type "code",data:=.fields l.toArray}
noncomputable def ck(n q:String)(t l a p k f u v:Nat)(x:List Value)(z:Nat):Obj:=cd ([S n t,S q (t+1),S "/claim/cut.py" (t+2),I l,I a,I p,I k,I f,R u,.bool true,I 318,R v,N]++(x++[I z,I l,S "/claim/cut.py" (z+1)]))
noncomputable def es(P:Params):List (String×Nat×Value)->List DictEntry
 | []=>[]
 | (k,n,v)::r=>⟨PyData.keyHash P (Str.ofString k),S k n,v⟩::es P r
noncomputable def E1(P:Params)(l:List (String×Nat×Value))(n:Nat):Obj:={cls:=.type "dict",data:=.dict (es P l).toArray n}
noncomputable def E0(P:Params)(l:List (String×Nat×Value))(n:Nat):Obj:={cls:=.none,data:=.dict (es P l).toArray n}
noncomputable def ZE:List (String×Nat×Value):=[("__doc__",166,N),("__package__",167,N),("__loader__",168,B "__main__.__loader__#opaque"),("__spec__",169,N),("__annotations__",170,R 6),("__builtins__",171,R 4),("__file__",173,S "/claim/cut.py" 172),("__cached__",174,N),("_sre",275,R 12),("deque",317,T "collections.deque"),("_wall",330,R 44),("StatisticsError",350,R 54),("_fail_neg",360,R 65),("median_low",368,R 72),("median_high",376,R 79),("_buffer",386,R 86),("_truth",394,R 93),("_B64",396,.bytes #[65,66,67,68,69,70,71,72,73,74,75,76,77,78,79,80,81,82,83,84,85,86,87,88,89,90,97,98,99,100,101,102,103,104,105,106,107,108,109,110,111,112,113,114,115,116,117,118,119,120,121,122,48,49,50,51,52,53,54,55,56,57,43,47] 395),("b2a_base64",410,R 101),("b64encode",421,R 109),("_twin_re_1",461,R 114),("_whence",471,R 121),("_index",479,R 128),("UnsupportedOperation",501,R 138),("IOBase",533,R 158),("BufferedIOBase",551,R 173),("TextIOBase",569,R 185),("BytesIO",831,R 415),("StringIO",1118,R 662),("_kind",1129,R 671),("_fspath",1138,R 678),("_check_arg_types",1148,R 685),("isabs",1155,R 692),("join",1166,R 808),("join_path",1167,R 699),("dirname",1177,R 706),("shlex",1318,R 797),("join_shlex",1326,R 808),("_find_unsafe",1328,R 809),("quote",1335,R 816),("_law_octets",1343,R 821),("_law_word",1349,R 826),("_law_quoted",1356,R 833),("_law_step",1362,R 838),("_law_worth",1368,R 843),("_law_trees",1381,R 850),("_law_grown",1392,R 857),("_law_parties",1398,R 862),("_law_due",1404,R 867),("law",1410,R 872)]
noncomputable def O3(P:Params)(x:Value)(k:Nat):Obj:=E1 P (("__name__",165,x)::ZE.take k) (k+1)
noncomputable def O2(P:Params)(k:Nat):Obj:=E0 P ([("\x69mport.loaded._sre",183,.bool true),("class._frozen_importlib.BuiltinImporter",185,R 14),("watched.\x69mport",206,R 18),("class._frozen_importlib.ModuleSpec",216,R 22),("sys.modules.booked-epoch",245,I 4),("\x69mport.later-laid._sre",270,.bool true),("watched.library",272,R 27),("watched.library-objects",0,S "\x0c\x1e" 0),("watched.library-deep._sre",273,S "\x04\x00\x00\x0b\x04\x00\x00\x0b\x04\x00\x00\x03\x04\x00\x00\x0b\x08\x04dict\x02" 0),("\x69mport.loaded._collections",280,.bool true),("sys.modules.landed._collections",294,.bool true),("\x69mport.later-laid._collections",309,.bool true),("watched.library-deep._collections",311,S "\x04\x00\x00\x1d\x04\x00\x00\x1d\x04\x00\x00\x03\x04\x00\x00\x1d\x08\x04dict\x02" 0),("type.__subclasses__.OSError.0",498,I 138),("type.__subclasses__.OSError.n",499,I 1)].take k) k
noncomputable def SU(k:Nat):Obj:={cls:=N,data:=.fields ([I 3,I 0,R 43,I 7,I 0,R 50,I 9,I 0,R 64,I 14,I 0,R 71,I 23,I 0,R 78,I 30,I 0,R 85,I 37,I 0,R 92,I 43,I 0,R 100,I 66,I 0,R 108,I 74,I 0,R 120,I 79,I 0,R 127,I 86,I 0,R 134,I 88,I 0,R 147,I 95,I 0,R 169,I 97,I 0,R 181,I 99,I 0,R 193,I 269,I 0,R 423,I 475,I 0,R 670,I 496,I 0,R 677,I 501,I 0,R 684,I 506,I 0,R 691,I 509,I 0,R 698,I 530,I 0,R 705,I 539,I 0,R 712,I 791,I 0,R 807,I 795,I 0,R 815,I 802,I 0,R 820,I 804,I 0,R 825,I 808,I 0,R 832,I 810,I 0,R 837,I 813,I 0,R 842,I 820,I 0,R 849,I 831,I 0,R 856,I 841,I 0,R 861,I 848,I 0,R 866,I 858,I 0,R 871].take k).toArray}
noncomputable def l0(P:Params):List Obj:=[
E1 P [("__name__",1,S "builtins" 160),("__doc__",2,B "builtins.__doc__:str#opaque"),("__package__",3,B "builtins.__package__:str#opaque"),("__loader__",4,B "builtins.__loader__:shared#opaque"),("__spec__",5,B "builtins.__spec__#opaque"),("__build_class__",6,B "__build_class__"),("__import__",7,B "__import__"),("abs",8,B "abs"),("all",9,B "all"),("any",10,B "any"),("ascii",11,B "ascii"),("bin",12,B "bin"),("breakpoint",13,B "breakpoint"),("callable",14,B "callable"),("chr",15,B "chr"),("compile",16,B "compile"),("delattr",17,B "delattr"),("dir",18,B "dir"),("divmod",19,B "divmod"),("eval",20,B "eval"),("exec",21,B "exec"),("format",22,B "format"),("getattr",23,B "getattr"),("globals",24,B "globals"),("hasattr",25,B "hasattr"),("hash",26,B "hash"),("hex",27,B "hex"),("id",28,B "id"),("input",29,B "input"),("isinstance",30,B "isinstance"),("issubclass",31,B "issubclass"),("iter",32,B "iter"),("aiter",33,B "aiter"),("len",34,B "len"),("locals",35,B "locals"),("max",36,B "max"),("min",37,B "min"),("next",38,B "next"),("anext",39,B "anext"),("oct",40,B "oct"),("ord",41,B "ord"),("pow",42,B "pow"),("print",43,B "print"),("repr",44,B "repr"),("round",45,B "round"),("setattr",46,B "setattr"),("sorted",47,B "sorted"),("sum",48,B "sum"),("vars",49,B "vars"),("None",50,N),("Ellipsis",51,.ellipsis),("NotImplemented",52,.notImplemented),("False",53,.bool false),("True",54,.bool true),("bool",55,T "bool"),("memoryview",56,T "memoryview"),("bytearray",57,T "bytearray"),("bytes",58,T "bytes"),("classmethod",59,T "classmethod"),("complex",60,T "complex"),("dict",61,T "dict"),("enumerate",62,T "enumerate"),("filter",63,T "filter"),("float",64,T "float"),("frozenset",65,T "frozenset"),("property",66,T "property"),("int",67,T "int"),("list",68,T "list"),("map",69,T "map"),("object",70,T "object"),("range",71,T "range"),("reversed",72,T "reversed"),("set",73,T "set"),("slice",74,T "slice"),("staticmethod",75,T "staticmethod"),("str",76,T "str"),("super",77,T "super"),("tuple",78,T "tuple"),("type",79,T "type"),("zip",80,T "zip"),("__debug__",81,.bool true),("BaseException",82,T "BaseException"),("BaseExceptionGroup",83,T "BaseExceptionGroup"),("Exception",84,T "Exception"),("GeneratorExit",85,T "GeneratorExit"),("KeyboardInterrupt",86,T "KeyboardInterrupt"),("SystemExit",87,T "SystemExit"),("ArithmeticError",88,T "ArithmeticError"),("AssertionError",89,T "AssertionError"),("AttributeError",90,T "AttributeError"),("BufferError",91,T "BufferError"),("EOFError",92,T "EOFError"),("ImportError",93,T "ImportError"),("LookupError",94,T "LookupError"),("MemoryError",95,T "MemoryError"),("NameError",96,T "NameError"),("OSError",97,T "OSError"),("ReferenceError",98,T "ReferenceError"),("RuntimeError",99,T "RuntimeError"),("StopAsyncIteration",100,T "StopAsyncIteration"),("StopIteration",101,T "StopIteration"),("SyntaxError",102,T "SyntaxError"),("SystemError",103,T "SystemError"),("TypeError",104,T "TypeError"),("ValueError",105,T "ValueError"),("Warning",106,T "Warning"),("FloatingPointError",107,T "FloatingPointError"),("OverflowError",108,T "OverflowError"),("ZeroDivisionError",109,T "ZeroDivisionError"),("BytesWarning",110,T "BytesWarning"),("DeprecationWarning",111,T "DeprecationWarning"),("EncodingWarning",112,T "EncodingWarning"),("FutureWarning",113,T "FutureWarning"),("ImportWarning",114,T "ImportWarning"),("PendingDeprecationWarning",115,T "PendingDeprecationWarning"),("ResourceWarning",116,T "ResourceWarning"),("RuntimeWarning",117,T "RuntimeWarning"),("SyntaxWarning",118,T "SyntaxWarning"),("UnicodeWarning",119,T "UnicodeWarning"),("UserWarning",120,T "UserWarning"),("BlockingIOError",121,T "BlockingIOError"),("ChildProcessError",122,T "ChildProcessError"),("ConnectionError",123,T "ConnectionError"),("FileExistsError",124,T "FileExistsError"),("FileNotFoundError",125,T "FileNotFoundError"),("InterruptedError",126,T "InterruptedError"),("IsADirectoryError",127,T "IsADirectoryError"),("NotADirectoryError",128,T "NotADirectoryError"),("PermissionError",129,T "PermissionError"),("ProcessLookupError",130,T "ProcessLookupError"),("TimeoutError",131,T "TimeoutError"),("IndentationError",132,T "IndentationError"),("_IncompleteInputError",133,T "_IncompleteInputError"),("IndexError",134,T "IndexError"),("KeyError",135,T "KeyError"),("ModuleNotFoundError",136,T "ModuleNotFoundError"),("NotImplementedError",137,T "NotImplementedError"),("PythonFinalizationError",138,T "PythonFinalizationError"),("RecursionError",139,T "RecursionError"),("UnboundLocalError",140,T "UnboundLocalError"),("UnicodeError",141,T "UnicodeError"),("BrokenPipeError",142,T "BrokenPipeError"),("ConnectionAbortedError",143,T "ConnectionAbortedError"),("ConnectionRefusedError",144,T "ConnectionRefusedError"),("ConnectionResetError",145,T "ConnectionResetError"),("TabError",146,T "TabError"),("UnicodeDecodeError",147,T "UnicodeDecodeError"),("UnicodeEncodeError",148,T "UnicodeEncodeError"),("UnicodeTranslateError",149,T "UnicodeTranslateError"),("ExceptionGroup",150,T "ExceptionGroup"),("EnvironmentError",151,T "OSError"),("IOError",152,T "OSError"),("open",153,B "open"),("quit",154,B "builtins.quit#opaque"),("exit",155,B "builtins.exit#opaque"),("copyright",156,B "builtins.copyright#opaque"),("credits",157,B "builtins.credits#opaque"),("license",158,B "builtins.license#opaque"),("help",159,B "builtins.help#opaque")] 159,
E1 P [("builtins",162,R 4),("__main__",163,R 5),("_sre",244,R 12),("_collections",292,R 30)] 4,
O2 P 15,
O3 P (S "law_oy0348_01" 1336) 50,
{cls:=T "module",dict:=some 0},
{cls:=T "module",dict:=some 3},
E1 P [] 0,
t0,
p0,
cd [S "<module>" 176,S "<module>" 177,S "/claim/cut.py" 178,I 1,I 0,I 0,I 0,I 0,R 7,.bool false,I 175,R 8,N,N,N,N,I 179,I 1,S "/claim/cut.py" 180],
{cls:=T "frame",slots:=#[some (R 9),some (R 3),some (R 3),none,some (S "__main__" 164),none,some (R 0)]},
E1 P [("__name__",247,S "_sre" 246),("__doc__",248,N),("__package__",250,S "" 249),("__loader__",251,B "off-the-table:_sre.__loader__:shared#opaque"),("__spec__",252,B "off-the-table:_sre.__spec__:shared#opaque"),("compile",253,B "_sre.compile"),("template",254,B "off-the-table:_sre.template:shared#opaque"),("getcodesize",255,B "off-the-table:_sre.getcodesize:shared#opaque"),("ascii_iscased",256,B "off-the-table:_sre.ascii_iscased:shared#opaque"),("unicode_iscased",257,B "off-the-table:_sre.unicode_iscased:shared#opaque"),("ascii_tolower",258,B "off-the-table:_sre.ascii_tolower:shared#opaque"),("unicode_tolower",259,B "off-the-table:_sre.unicode_tolower:shared#opaque"),("MAGIC",261,.int (20230612) 260),("CODESIZE",263,.int (4) 262),("MAXREPEAT",265,.int (4294967295) 264),("MAXGROUPS",267,.int (1073741823) 266),("copyright",269,S " SRE 2.2.2 Copyright (c) 1997-2002 by Secret Labs AB " 268)] 17,
{cls:=T "module",dict:=some 11},
E1 P [("__module__",189,S "_frozen_importlib" 186),("__firstlineno__",190,.int (971) 187),("__doc__",191,B "_frozen_importlib.BuiltinImporter.__doc__:str#opaque"),("_ORIGIN",192,S "built-in" 188),("find_spec",193,B "_frozen_importlib.BuiltinImporter.find_spec#opaque"),("create_module",194,B "_frozen_importlib.BuiltinImporter.create_module#opaque"),("exec_module",195,B "_frozen_importlib.BuiltinImporter.exec_module#opaque"),("get_code",196,B "_frozen_importlib.BuiltinImporter.get_code#opaque"),("get_source",197,B "_frozen_importlib.BuiltinImporter.get_source#opaque"),("is_package",198,B "_frozen_importlib.BuiltinImporter.is_package#opaque"),("load_module",199,B "_frozen_importlib.BuiltinImporter.load_module#opaque"),("__static_attributes__",200,R 15),("__dict__",202,R 16),("__weakref__",204,R 17)] 14,
{cls:=T "type",data:=.cls {name:=Str.ofString "BuiltinImporter",bases:=[T "object"],mro:=[R 14,T "object"],ns:=13,qualname:=Str.ofString "BuiltinImporter"}},
t0,
{cls:=T "getset_descriptor",data:=.fields #[S "__dict__" 201,R 14,B "function.__dict__",B "function.__dict__#set"]},
{cls:=T "getset_descriptor",data:=.fields #[S "__weakref__" 203,R 14,B "ExceptionGroup.__weakref__",N]},
{cls:=N,data:=.seq #[I 13,.str ⟨#[6,189,10,95,95,109,111,100,117,108,101,95,95,6,186,17,95,102,114,111,122,101,110,95,105,109,112,111,114,116,108,105,98,6,190,15,95,95,102,105,114,115,116,108,105,110,101,110,111,95,95,4,187,0,971,6,191,7,95,95,100,111,99,95,95,9,52,95,102,114,111,122,101,110,95,105,109,112,111,114,116,108,105,98,46,66,117,105,108,116,105,110,73,109,112,111,114,116,101,114,46,95,95,100,111,99,95,95,58,115,116,114,35,111,112,97,113,117,101,6,192,7,95,79,82,73,71,73,78,6,188,8,98,117,105,108,116,45,105,110,6,193,9,102,105,110,100,95,115,112,101,99,9,50,95,102,114,111,122,101,110,95,105,109,112,111,114,116,108,105,98,46,66,117,105,108,116,105,110,73,109,112,111,114,116,101,114,46,102,105,110,100,95,115,112,101,99,35,111,112,97,113,117,101,6,194,13,99,114,101,97,116,101,95,109,111,100,117,108,101,9,54,95,102,114,111,122,101,110,95,105,109,112,111,114,116,108,105,98,46,66,117,105,108,116,105,110,73,109,112,111,114,116,101,114,46,99,114,101,97,116,101,95,109,111,100,117,108,101,35,111,112,97,113,117,101,6,195,11,101,120,101,99,95,109,111,100,117,108,101,9,52,95,102,114,111,122,101,110,95,105,109,112,111,114,116,108,105,98,46,66,117,105,108,116,105,110,73,109,112,111,114,116,101,114,46,101,120,101,99,95,109,111,100,117,108,101,35,111,112,97,113,117,101,6,196,8,103,101,116,95,99,111,100,101,9,49,95,102,114,111,122,101,110,95,105,109,112,111,114,116,108,105,98,46,66,117,105,108,116,105,110,73,109,112,111,114,116,101,114,46,103,101,116,95,99,111,100,101,35,111,112,97,113,117,101,6,197,10,103,101,116,95,115,111,117,114,99,101,9,51,95,102,114,111,122,101,110,95,105,109,112,111,114,116,108,105,98,46,66,117,105,108,116,105,110,73,109,112,111,114,116,101,114,46,103,101,116,95,115,111,117,114,99,101,35,111,112,97,113,117,101,6,198,10,105,115,95,112,97,99,107,97,103,101,9,51,95,102,114,111,122,101,110,95,105,109,112,111,114,116,108,105,98,46,66,117,105,108,116,105,110,73,109,112,111,114,116,101,114,46,105,115,95,112,97,99,107,97,103,101,35,111,112,97,113,117,101,6,199,11,108,111,97,100,95,109,111,100,117,108,101,9,52,95,102,114,111,122,101,110,95,105,109,112,111,114,116,108,105,98,46,66,117,105,108,116,105,110,73,109,112,111,114,116,101,114,46,108,111,97,100,95,109,111,100,117,108,101,35,111,112,97,113,117,101,6,200,21,95,95,115,116,97,116,105,99,95,97,116,116,114,105,98,117,116,101,115,95,95,4,0,0,15,6,202,8,95,95,100,105,99,116,95,95,4,0,0,16,6,204,11,95,95,119,101,97,107,114,101,102,95,95,4,0,0,17]⟩ 0,.bool true,.bool true,S "" 205,I 21,.str ⟨#[6,227,10,95,95,109,111,100,117,108,101,95,95,6,217,17,95,102,114,111,122,101,110,95,105,109,112,111,114,116,108,105,98,6,228,15,95,95,102,105,114,115,116,108,105,110,101,110,111,95,95,4,218,0,562,6,229,7,95,95,100,111,99,95,95,9,47,95,102,114,111,122,101,110,95,105,109,112,111,114,116,108,105,98,46,77,111,100,117,108,101,83,112,101,99,46,95,95,100,111,99,95,95,58,115,116,114,35,111,112,97,113,117,101,6,230,8,95,95,105,110,105,116,95,95,9,44,95,102,114,111,122,101,110,95,105,109,112,111,114,116,108,105,98,46,77,111,100,117,108,101,83,112,101,99,46,95,95,105,110,105,116,95,95,35,111,112,97,113,117,101,6,231,8,95,95,114,101,112,114,95,95,9,44,95,102,114,111,122,101,110,95,105,109,112,111,114,116,108,105,98,46,77,111,100,117,108,101,83,112,101,99,46,95,95,114,101,112,114,95,95,35,111,112,97,113,117,101,6,232,6,95,95,101,113,95,95,9,42,95,102,114,111,122,101,110,95,105,109,112,111,114,116,108,105,98,46,77,111,100,117,108,101,83,112,101,99,46,95,95,101,113,95,95,35,111,112,97,113,117,101,6,233,6,99,97,99,104,101,100,9,42,95,102,114,111,122,101,110,95,105,109,112,111,114,116,108,105,98,46,77,111,100,117,108,101,83,112,101,99,46,99,97,99,104,101,100,35,111,112,97,113,117,101,6,234,6,112,97,114,101,110,116,9,42,95,102,114,111,122,101,110,95,105,109,112,111,114,116,108,105,98,46,77,111,100,117,108,101,83,112,101,99,46,112,97,114,101,110,116,35,111,112,97,113,117,101,6,235,12,104,97,115,95,108,111,99,97,116,105,111,110,9,48,95,102,114,111,122,101,110,95,105,109,112,111,114,116,108,105,98,46,77,111,100,117,108,101,83,112,101,99,46,104,97,115,95,108,111,99,97,116,105,111,110,35,111,112,97,113,117,101,6,236,21,95,95,115,116,97,116,105,99,95,97,116,116,114,105,98,117,116,101,115,95,95,4,0,0,23,6,238,8,95,95,100,105,99,116,95,95,4,0,0,24,6,240,11,95,95,119,101,97,107,114,101,102,95,95,4,0,0,25,6,241,8,95,95,104,97,115,104,95,95,0]⟩ 0,.bool true,.bool true,S "" 242] 1},
{cls:=T "list",data:=.seq #[]},
E1 P [("name",208,S "_sre" 207),("loader",209,R 14),("origin",210,S "built-in" 184),("loader_state",211,N),("submodule_search_locations",212,N),("_uninitialized_submodules",213,R 19),("_set_fileattr",214,.bool false),("_cached",215,N),("_initializing",243,.bool false)] 9,
E1 P [("__module__",227,S "_frozen_importlib" 217),("__firstlineno__",228,.int (562) 218),("__doc__",229,B "_frozen_importlib.ModuleSpec.__doc__:str#opaque"),("__init__",230,B "_frozen_importlib.ModuleSpec.__init__#opaque"),("__repr__",231,B "_frozen_importlib.ModuleSpec.__repr__#opaque"),("__eq__",232,B "_frozen_importlib.ModuleSpec.__eq__#opaque"),("cached",233,B "_frozen_importlib.ModuleSpec.cached#opaque"),("parent",234,B "_frozen_importlib.ModuleSpec.parent#opaque"),("has_location",235,B "_frozen_importlib.ModuleSpec.has_location#opaque"),("__static_attributes__",236,R 23),("__dict__",238,R 24),("__weakref__",240,R 25),("__hash__",241,N)] 13,
{cls:=T "type",data:=.cls {name:=Str.ofString "ModuleSpec",bases:=[T "object"],mro:=[R 22,T "object"],ns:=21,qualname:=Str.ofString "ModuleSpec"}},
ts ["_cached","_set_fileattr","_uninitialized_submodules","loader","loader_state","name","origin","submodule_search_locations"] 219,
{cls:=T "getset_descriptor",data:=.fields #[S "__dict__" 237,R 22,B "function.__dict__",B "function.__dict__#set"]},
{cls:=T "getset_descriptor",data:=.fields #[S "__weakref__" 239,R 22,B "ExceptionGroup.__weakref__",N]},
{cls:=R 22,dict:=some 20},
{cls:=N,data:=.seq #[I 11,.str ⟨#[6,247,8,95,95,110,97,109,101,95,95,6,246,4,95,115,114,101,6,248,7,95,95,100,111,99,95,95,0,6,250,11,95,95,112,97,99,107,97,103,101,95,95,6,249,0,6,251,10,95,95,108,111,97,100,101,114,95,95,4,0,0,14,6,252,8,95,95,115,112,101,99,95,95,4,0,0,26,6,253,7,99,111,109,112,105,108,101,9,12,95,115,114,101,46,99,111,109,112,105,108,101,6,254,8,116,101,109,112,108,97,116,101,9,13,95,115,114,101,46,116,101,109,112,108,97,116,101,6,255,11,103,101,116,99,111,100,101,115,105,122,101,9,16,95,115,114,101,46,103,101,116,99,111,100,101,115,105,122,101,6,256,13,97,115,99,105,105,95,105,115,99,97,115,101,100,9,18,95,115,114,101,46,97,115,99,105,105,95,105,115,99,97,115,101,100,6,257,15,117,110,105,99,111,100,101,95,105,115,99,97,115,101,100,9,20,95,115,114,101,46,117,110,105,99,111,100,101,95,105,115,99,97,115,101,100,6,258,13,97,115,99,105,105,95,116,111,108,111,119,101,114,9,18,95,115,114,101,46,97,115,99,105,105,95,116,111,108,111,119,101,114,6,259,15,117,110,105,99,111,100,101,95,116,111,108,111,119,101,114,9,20,95,115,114,101,46,117,110,105,99,111,100,101,95,116,111,108,111,119,101,114,6,261,5,77,65,71,73,67,4,260,0,20230612,6,263,8,67,79,68,69,83,73,90,69,4,262,0,4,6,265,9,77,65,88,82,69,80,69,65,84,4,264,0,4294967295,6,267,9,77,65,88,71,82,79,85,80,83,4,266,0,1073741823,6,269,9,99,111,112,121,114,105,103,104,116,6,268,53,32,83,82,69,32,50,46,50,46,50,32,67,111,112,121,114,105,103,104,116,32,40,99,41,32,49,57,57,55,45,50,48,48,50,32,98,121,32,83,101,99,114,101,116,32,76,97,98,115,32,65,66,32]⟩ 0,.bool true,.bool false,S "_sre" 271,I 29,.str ⟨#[6,296,8,95,95,110,97,109,101,95,95,6,295,12,95,99,111,108,108,101,99,116,105,111,110,115,6,297,7,95,95,100,111,99,95,95,9,31,95,99,111,108,108,101,99,116,105,111,110,115,46,95,95,100,111,99,95,95,58,115,116,114,35,111,112,97,113,117,101,6,299,11,95,95,112,97,99,107,97,103,101,95,95,6,298,0,6,300,10,95,95,108,111,97,100,101,114,95,95,4,0,0,14,6,301,8,95,95,115,112,101,99,95,95,4,0,0,33,6,302,15,95,99,111,117,110,116,95,101,108,101,109,101,110,116,115,9,28,95,99,111,108,108,101,99,116,105,111,110,115,46,95,99,111,117,110,116,95,101,108,101,109,101,110,116,115,6,303,5,100,101,113,117,101,8,17,99,111,108,108,101,99,116,105,111,110,115,46,100,101,113,117,101,6,304,11,100,101,102,97,117,108,116,100,105,99,116,8,23,99,111,108,108,101,99,116,105,111,110,115,46,100,101,102,97,117,108,116,100,105,99,116,6,305,15,95,100,101,113,117,101,95,105,116,101,114,97,116,111,114,8,27,99,111,108,108,101,99,116,105,111,110,115,46,95,100,101,113,117,101,95,105,116,101,114,97,116,111,114,6,306,23,95,100,101,113,117,101,95,114,101,118,101,114,115,101,95,105,116,101,114,97,116,111,114,8,35,99,111,108,108,101,99,116,105,111,110,115,46,95,100,101,113,117,101,95,114,101,118,101,114,115,101,95,105,116,101,114,97,116,111,114,6,307,12,95,116,117,112,108,101,103,101,116,116,101,114,8,24,99,111,108,108,101,99,116,105,111,110,115,46,95,116,117,112,108,101,103,101,116,116,101,114,6,308,11,79,114,100,101,114,101,100,68,105,99,116,8,23,99,111,108,108,101,99,116,105,111,110,115,46,79,114,100,101,114,101,100,68,105,99,116]⟩ 0,.bool true,.bool false,S "_collections" 310] 1},
ts ["deque"] 277,
E1 P [("__name__",296,S "_collections" 295),("__doc__",297,B "off-the-table:_collections.__doc__:shared#opaque"),("__package__",299,S "" 298),("__loader__",300,B "off-the-table:_collections.__loader__:shared#opaque"),("__spec__",301,B "off-the-table:_collections.__spec__:shared#opaque"),("_count_elements",302,B "_collections._count_elements"),("deque",303,T "collections.deque"),("defaultdict",304,T "collections.defaultdict"),("_deque_iterator",305,B "off-the-table:_collections._deque_iterator:shared#opaque"),("_deque_reverse_iterator",306,B "off-the-table:_collections._deque_reverse_iterator:shared#opaque"),("_tuplegetter",307,T "collections._tuplegetter"),("OrderedDict",308,T "collections.OrderedDict")] 12,
{cls:=T "module",dict:=some 29},
{cls:=T "list",data:=.seq #[]},
E1 P [("name",283,S "_collections" 282),("loader",284,R 14),("origin",285,S "built-in" 281),("loader_state",286,N),("submodule_search_locations",287,N),("_uninitialized_submodules",288,R 31),("_set_fileattr",289,.bool false),("_cached",290,N),("_initializing",291,.bool false)] 9,
{cls:=R 22,dict:=some 32},
t0,
SU 108,
cd [S "<module>" 319,S "<module>" 320,S "/claim/cut.py" 321,I 1,I 0,I 0,I 0,I 0,R 34,.bool false,I 318,R 35,N,N,N,N,I 322,I 1,S "/claim/cut.py" 323],
{cls:=T "frame",slots:=#[some (R 36),some (R 3),some (R 3),none,some (S "__main__" 164),none,some (R 0)]},
t0,
p0,
ts ["k"] 327,
t0,
f0 (aY 2) "_wall",
ck "_wall" "_wall" 324 3 1 0 0 3 38 39 [R 40,R 41,R 42] 328,
f1 (aY 2) "_wall" "__main__" 164 N N 43,
t [T "ValueError"],
{cls:=T "builtin_function_or_method",data:=.fields #[B "type.__prepare__",T "type"]},
E1 P [("__module__",340,S "cpy313.statistics" 331),("__qualname__",342,S "StatisticsError" 341),("__firstlineno__",344,.int (7) 343),("__static_attributes__",345,R 52)] 4,
t0,
p0,
cd [S "StatisticsError" 335,S "StatisticsError" 336,S "/claim/cut.py" 337,I 7,I 0,I 0,I 0,I 0,R 48,.bool false,I 318,R 49,N,N,N,N,I 338,I 7,S "/claim/cut.py" 339],
{cls:=T "frame",slots:=#[some (R 50),some (R 3),some (R 47),none,some (S "cpy313.statistics" 331),none,some (R 0)]},
t0,
E1 P [("__module__",340,S "cpy313.statistics" 331),("__firstlineno__",344,.int (7) 343),("__static_attributes__",345,R 52),("__weakref__",347,R 55),("__doc__",348,N)] 3,
{cls:=T "type",data:=.cls {name:=Str.ofString "StatisticsError",bases:=[T "ValueError"],mro:=[R 54,T "ValueError",T "Exception",T "BaseException",T "object"],ns:=53,qualname:=Str.ofString "StatisticsError"},slots:=#[some (R 45),none,some (S "StatisticsError" 333),some (S "StatisticsError" 341),some (B "ValueError.__new__"),some (.bool true)]},
{cls:=T "getset_descriptor",data:=.fields #[S "__weakref__" 346,R 54,B "ExceptionGroup.__weakref__",N]},
{cls:=T "super",data:=.fields #[R 54,R 54,R 54]},
{cls:=T "builtin_function_or_method",data:=.fields #[B "object.__init_subclass__",R 54]},
ts ["negative value"] 351,
t0]
noncomputable def l1(P:Params):List Obj:=[
p0,
ts ["values","errmsg","x"] 355,
t0,
f0 (aY 5) "_fail_neg",
ck "_fail_neg" "_fail_neg" 352 9 2 0 0 35 59 60 [R 61,R 62,R 63] 358,
f1 (aY 5) "_fail_neg" "cpy313.statistics" 331 (R 58) N 64,
t0,
p0,
ts ["data","n"] 364,
t0,
f0 (aY 6) "median_low",
ck "median_low" "median_low" 361 14 1 0 0 3 66 67 [R 68,R 69,R 70] 366,
f1 (aY 6) "median_low" "cpy313.statistics" 331 N N 71,
t0,
p0,
ts ["data","n"] 372,
t0,
f0 (aY 7) "median_high",
ck "median_high" "median_high" 369 23 1 0 0 3 73 74 [R 75,R 76,R 77] 374,
f1 (aY 7) "median_high" "cpy313.statistics" 331 N N 78,
t0,
p0,
ts ["data","t"] 382,
t0,
f0 (aY 9) "_buffer",
ck "_buffer" "_buffer" 379 30 1 0 0 3 80 81 [R 82,R 83,R 84] 384,
f1 (aY 9) "_buffer" "binascii" 377 N N 85,
t0,
p0,
ts ["x","t"] 390,
t0,
f0 (aY 10) "_truth",
ck "_truth" "_truth" 387 37 1 0 0 3 87 88 [R 89,R 90,R 91] 392,
f1 (aY 10) "_truth" "binascii" 377 N N 92,
E1 P [("newline",397,.bool true)] 1,
t0,
p0,
ts ["data","newline","bin_data","out","leftbits","leftchar","b"] 401,
t0,
f0 (aY 12) "b2a_base64",
ck "b2a_base64" "b2a_base64" 398 43 1 1 1 3 95 96 [R 97,R 98,R 99] 408,
f1 (aY 12) "b2a_base64" "binascii" 377 N (R 94) 100,
t [N],
t0,
p0,
ts ["s","altchars","encoded"] 416,
t0,
f0 (aY 14) "b64encode",
ck "b64encode" "b64encode" 413 66 2 0 0 3 103 104 [R 105,R 106,R 107] 419,
f1 (aY 14) "b64encode" "cpy313.base64" 411 (R 102) N 108,
{cls:=T "list",data:=.seq #[.int (14) 425,.int (17) 426,.int (4) 427,.int (1) 428,.int (1) 429,.int (21) 430,.int (9) 431,.int (0) 432,.int (604043296) 433,.int (1) 434,.int (0) 435,.int (0) 436,.int (0) 437,.int (0) 438,.int (0) 439,.int (8) 440,.int (4) 441,.int (0) 442,.int (13) 443,.int (14) 444,.int (21) 445,.int (9) 446,.int (0) 447,.int (604043296) 448,.int (1) 449,.int (0) 450,.int (0) 451,.int (0) 452,.int (0) 453,.int (0) 454,.int (8) 455,.int (4) 456,.int (0) 457,.int (1) 458]},
E1 P [] 0,
t [N],
t [I 14,I 17,I 4,I 1,I 1,I 21,I 9,I 0,I 604043296,I 1,I 0,I 0,I 0,I 0,I 0,I 8,I 4,I 0,I 13,I 14,I 21,I 9,I 0,I 604043296,I 1,I 0,I 0,I 0,I 0,I 0,I 8,I 4,I 0,I 1],
{cls:=T "re.Pattern",data:=.fields #[S "[^\\w@%+=:,./-]" 423,.int (256) 460,I 0,N,N,R 113,I 0]},
t0,
p0,
ts ["n","what"] 467,
t0,
f0 (aY 17) "_whence"]
noncomputable def l2(P:Params):List Obj:=[
ck "_whence" "_whence" 464 74 2 0 0 3 115 116 [R 117,R 118,R 119] 469,
f1 (aY 17) "_whence" "io" 462 N N 120,
t0,
p0,
ts ["n","what"] 475,
t0,
f0 (aY 18) "_index",
ck "_index" "_index" 472 79 2 0 0 3 122 123 [R 124,R 125,R 126] 477,
f1 (aY 18) "_index" "io" 462 N N 127,
t [T "OSError",T "ValueError"],
{cls:=T "builtin_function_or_method",data:=.fields #[B "type.__prepare__",T "type"]},
E1 P [("__module__",487,S "io" 492),("__qualname__",489,S "UnsupportedOperation" 488),("__firstlineno__",491,.int (86) 490),("__static_attributes__",494,R 136)] 4,
t0,
p0,
cd [S "UnsupportedOperation" 482,S "UnsupportedOperation" 483,S "/claim/cut.py" 484,I 86,I 0,I 0,I 0,I 0,R 132,.bool false,I 318,R 133,N,N,N,N,I 485,I 86,S "/claim/cut.py" 486],
{cls:=T "frame",slots:=#[some (R 134),some (R 3),some (R 131),none,some (S "io" 462),none,some (R 0)]},
t0,
E1 P [("__module__",487,S "io" 492),("__firstlineno__",491,.int (86) 490),("__static_attributes__",494,R 136),("__weakref__",496,R 139),("__doc__",497,N)] 3,
{cls:=T "type",data:=.cls {name:=Str.ofString "UnsupportedOperation",bases:=[T "OSError",T "ValueError"],mro:=[R 138,T "OSError",T "ValueError",T "Exception",T "BaseException",T "object"],ns:=137,qualname:=Str.ofString "UnsupportedOperation"},slots:=#[some (R 129),none,some (S "UnsupportedOperation" 480),some (S "UnsupportedOperation" 488),some (B "OSError.__new__"),some (.bool true)]},
{cls:=T "getset_descriptor",data:=.fields #[S "__weakref__" 495,R 138,B "ExceptionGroup.__weakref__",N]},
{cls:=T "super",data:=.fields #[R 138,R 138,R 138]},
{cls:=T "builtin_function_or_method",data:=.fields #[B "object.__init_subclass__",R 138]},
t0,
{cls:=T "builtin_function_or_method",data:=.fields #[B "type.__prepare__",T "type"]},
E1 P [("__module__",509,S "io" 514),("__qualname__",511,S "IOBase" 510),("__firstlineno__",513,.int (88) 512),("__new__",524,R 155),("__static_attributes__",525,R 156)] 5,
t0,
{cls:=N,data:=.fields #[I 91,I 4,R 154]},
cd [S "IOBase" 504,S "IOBase" 505,S "/claim/cut.py" 506,I 88,I 0,I 0,I 0,I 0,R 145,.bool false,I 318,R 146,N,N,N,N,I 507,I 88,S "/claim/cut.py" 508],
{cls:=T "frame",slots:=#[some (R 147),some (R 3),some (R 144),none,some (S "io" 462),none,some (R 0)]},
t0,
p0,
ts ["cls","args","kwargs"] 519,
t0,
f0 (m 20 1) "IOBase.__new__",
ck "__new__" "IOBase.__new__" 516 91 1 1 0 15 149 150 [R 151,R 152,R 153] 522,
f1 (m 20 1) "IOBase.__new__" "io" 462 N N 154,
t0,
E1 P [("__module__",509,S "io" 514),("__firstlineno__",513,.int (88) 512),("__new__",524,R 159),("__static_attributes__",525,R 156),("__dict__",528,R 160),("__weakref__",530,R 161),("__doc__",531,N)] 4,
{cls:=T "type",data:=.cls {name:=Str.ofString "IOBase",bases:=[T "object"],mro:=[R 158,T "object"],ns:=157,qualname:=Str.ofString "IOBase",subclasses:=[R 173,R 185]},slots:=#[none,none,some (S "IOBase" 502),some (S "IOBase" 510),some N,some (.bool true)]},
{cls:=T "staticmethod",data:=.fields #[R 155]},
{cls:=T "getset_descriptor",data:=.fields #[S "__dict__" 527,R 158,B "function.__dict__",B "function.__dict__#set"]},
{cls:=T "getset_descriptor",data:=.fields #[S "__weakref__" 529,R 158,B "ExceptionGroup.__weakref__",N]},
{cls:=T "super",data:=.fields #[R 158,R 158,R 158]},
{cls:=T "builtin_function_or_method",data:=.fields #[B "object.__init_subclass__",R 158]},
t [R 158],
{cls:=T "builtin_function_or_method",data:=.fields #[B "type.__prepare__",T "type"]},
E1 P [("__module__",541,S "io" 546),("__qualname__",543,S "BufferedIOBase" 542),("__firstlineno__",545,.int (95) 544),("__static_attributes__",548,R 171)] 4,
t0,
p0,
cd [S "BufferedIOBase" 536,S "BufferedIOBase" 537,S "/claim/cut.py" 538,I 95,I 0,I 0,I 0,I 0,R 167,.bool false,I 318,R 168,N,N,N,N,I 539,I 95,S "/claim/cut.py" 540],
{cls:=T "frame",slots:=#[some (R 169),some (R 3),some (R 166),none,some (S "io" 462),none,some (R 0)]},
t0,
E1 P [("__module__",541,S "io" 546),("__firstlineno__",545,.int (95) 544),("__static_attributes__",548,R 171),("__doc__",549,N)] 2,
{cls:=T "type",data:=.cls {name:=Str.ofString "BufferedIOBase",bases:=[R 158],mro:=[R 173,R 158,T "object"],ns:=172,qualname:=Str.ofString "BufferedIOBase",subclasses:=[R 415]},slots:=#[some (R 164),none,some (S "BufferedIOBase" 534),some (S "BufferedIOBase" 542),some N,some (.bool true)]},
{cls:=T "super",data:=.fields #[R 173,R 173,R 173]},
{cls:=T "builtin_function_or_method",data:=.fields #[B "object.__init_subclass__",R 173]},
t [R 158],
{cls:=T "builtin_function_or_method",data:=.fields #[B "type.__prepare__",T "type"]},
E1 P [("__module__",559,S "io" 564),("__qualname__",561,S "TextIOBase" 560),("__firstlineno__",563,.int (97) 562),("__static_attributes__",566,R 183)] 4,
t0]
noncomputable def l3(P:Params):List Obj:=[
p0,
cd [S "TextIOBase" 554,S "TextIOBase" 555,S "/claim/cut.py" 556,I 97,I 0,I 0,I 0,I 0,R 179,.bool false,I 318,R 180,N,N,N,N,I 557,I 97,S "/claim/cut.py" 558],
{cls:=T "frame",slots:=#[some (R 181),some (R 3),some (R 178),none,some (S "io" 462),none,some (R 0)]},
t0,
E1 P [("__module__",559,S "io" 564),("__firstlineno__",563,.int (97) 562),("__static_attributes__",566,R 183),("__doc__",567,N)] 2,
{cls:=T "type",data:=.cls {name:=Str.ofString "TextIOBase",bases:=[R 158],mro:=[R 185,R 158,T "object"],ns:=184,qualname:=Str.ofString "TextIOBase",subclasses:=[R 662]},slots:=#[some (R 176),none,some (S "TextIOBase" 552),some (S "TextIOBase" 560),some N,some (.bool true)]},
{cls:=T "super",data:=.fields #[R 185,R 185,R 185]},
{cls:=T "builtin_function_or_method",data:=.fields #[B "object.__init_subclass__",R 185]},
t [R 173],
{cls:=T "builtin_function_or_method",data:=.fields #[B "type.__prepare__",T "type"]},
E1 P [("__module__",577,S "_io" 582),("__qualname__",579,S "BytesIO" 578),("__firstlineno__",581,.int (99) 580),("__init__",591,R 202),("_BytesIO__check",598,R 209),("_BytesIO__line",609,R 216),("closed",617,R 224),("close",624,R 231),("__enter__",631,R 238),("__exit__",639,R 245),("readable",646,R 252),("writable",653,R 259),("seekable",660,R 266),("isatty",667,R 273),("flush",674,R 280),("fileno",681,R 287),("detach",688,R 294),("getvalue",695,R 301),("getbuffer",702,R 308),("tell",709,R 315),("seek",719,R 323),("truncate",727,R 331),("read",739,R 339),("read1",749,R 347),("readinto",759,R 354),("readinto1",767,R 361),("readline",777,R 369),("readlines",785,R 377),("__iter__",792,R 384),("__next__",800,R 391),("write",810,R 398),("writelines",818,R 405),("__repr__",825,R 412),("__static_attributes__",828,R 413)] 34,
t0,
{cls:=N,data:=.fields #[I 102,I 4,R 201,I 108,I 4,R 208,I 112,I 4,R 215,I 126,I 4,R 222,I 129,I 4,R 230,I 132,I 4,R 237,I 136,I 4,R 244,I 139,I 4,R 251,I 143,I 4,R 258,I 147,I 4,R 265,I 151,I 4,R 272,I 155,I 4,R 279,I 158,I 4,R 286,I 161,I 4,R 293,I 164,I 4,R 300,I 167,I 4,R 307,I 170,I 4,R 314,I 174,I 4,R 322,I 191,I 4,R 330,I 194,I 4,R 338,I 208,I 4,R 346,I 211,I 4,R 353,I 225,I 4,R 360,I 228,I 4,R 368,I 235,I 4,R 376,I 238,I 4,R 383,I 241,I 4,R 390,I 248,I 4,R 397,I 264,I 4,R 404,I 267,I 4,R 411]},
cd [S "BytesIO" 572,S "BytesIO" 573,S "/claim/cut.py" 574,I 99,I 0,I 0,I 0,I 0,R 191,.bool false,I 318,R 192,N,N,N,N,I 575,I 99,S "/claim/cut.py" 576],
{cls:=T "frame",slots:=#[some (R 193),some (R 3),some (R 190),none,some (S "io" 462),none,some (R 0)]},
t [N],
t0,
p0,
ts ["self","initial_bytes"] 587,
t0,
f0 (m 23 1) "BytesIO.__init__",
ck "__init__" "BytesIO.__init__" 584 102 2 0 0 3 196 197 [R 198,R 199,R 200] 589,
f1 (m 23 1) "BytesIO.__init__" "io" 462 (R 195) N 201,
t0,
p0,
ts ["self"] 595,
t0,
f0 (m 23 2) "BytesIO.__check",
ck "__check" "BytesIO.__check" 592 108 1 0 0 3 203 204 [R 205,R 206,R 207] 596,
f1 (m 23 2) "BytesIO.__check" "io" 462 N N 208,
t0,
p0,
ts ["self","limit","start","stop","i"] 602,
t0,
f0 (m 23 3) "BytesIO.__line",
ck "__line" "BytesIO.__line" 599 112 2 0 0 3 210 211 [R 212,R 213,R 214] 607,
f1 (m 23 3) "BytesIO.__line" "io" 462 N N 215,
t0,
p0,
ts ["self"] 613,
t0,
f0 (m 23 4) "BytesIO.closed",
ck "closed" "BytesIO.closed" 610 125 1 0 0 3 217 218 [R 219,R 220,R 221] 614,
f1 (m 23 4) "BytesIO.closed" "io" 462 N N 222,
{cls:=T "property",data:=.fields #[R 223,N,N,N,S "closed" 617,.bool false]},
t0,
p0,
ts ["self"] 621,
t0,
f0 (m 23 5) "BytesIO.close",
ck "close" "BytesIO.close" 618 129 1 0 0 3 225 226 [R 227,R 228,R 229] 622,
f1 (m 23 5) "BytesIO.close" "io" 462 N N 230,
t0,
p0,
ts ["self"] 628,
t0,
f0 (m 23 6) "BytesIO.__enter__",
ck "__enter__" "BytesIO.__enter__" 625 132 1 0 0 3 232 233 [R 234,R 235,R 236] 629,
f1 (m 23 6) "BytesIO.__enter__" "io" 462 N N 237,
t0]
noncomputable def l4(P:Params):List Obj:=[
p0,
ts ["self","args"] 635,
t0,
f0 (m 23 7) "BytesIO.__exit__",
ck "__exit__" "BytesIO.__exit__" 632 136 1 0 0 7 239 240 [R 241,R 242,R 243] 637,
f1 (m 23 7) "BytesIO.__exit__" "io" 462 N N 244,
t0,
p0,
ts ["self"] 643,
t0,
f0 (m 23 8) "BytesIO.readable",
ck "readable" "BytesIO.readable" 640 139 1 0 0 3 246 247 [R 248,R 249,R 250] 644,
f1 (m 23 8) "BytesIO.readable" "io" 462 N N 251,
t0,
p0,
ts ["self"] 650,
t0,
f0 (m 23 9) "BytesIO.writable",
ck "writable" "BytesIO.writable" 647 143 1 0 0 3 253 254 [R 255,R 256,R 257] 651,
f1 (m 23 9) "BytesIO.writable" "io" 462 N N 258,
t0,
p0,
ts ["self"] 657,
t0,
f0 (m 23 10) "BytesIO.seekable",
ck "seekable" "BytesIO.seekable" 654 147 1 0 0 3 260 261 [R 262,R 263,R 264] 658,
f1 (m 23 10) "BytesIO.seekable" "io" 462 N N 265,
t0,
p0,
ts ["self"] 664,
t0,
f0 (m 23 11) "BytesIO.isatty",
ck "isatty" "BytesIO.isatty" 661 151 1 0 0 3 267 268 [R 269,R 270,R 271] 665,
f1 (m 23 11) "BytesIO.isatty" "io" 462 N N 272,
t0,
p0,
ts ["self"] 671,
t0,
f0 (m 23 12) "BytesIO.flush",
ck "flush" "BytesIO.flush" 668 155 1 0 0 3 274 275 [R 276,R 277,R 278] 672,
f1 (m 23 12) "BytesIO.flush" "io" 462 N N 279,
t0,
p0,
ts ["self"] 678,
t0,
f0 (m 23 13) "BytesIO.fileno",
ck "fileno" "BytesIO.fileno" 675 158 1 0 0 3 281 282 [R 283,R 284,R 285] 679,
f1 (m 23 13) "BytesIO.fileno" "io" 462 N N 286,
t0,
p0,
ts ["self"] 685,
t0,
f0 (m 23 14) "BytesIO.detach",
ck "detach" "BytesIO.detach" 682 161 1 0 0 3 288 289 [R 290,R 291,R 292] 686,
f1 (m 23 14) "BytesIO.detach" "io" 462 N N 293,
t0,
p0,
ts ["self"] 692,
t0,
f0 (m 23 15) "BytesIO.getvalue"]
noncomputable def l5(P:Params):List Obj:=[
ck "getvalue" "BytesIO.getvalue" 689 164 1 0 0 3 295 296 [R 297,R 298,R 299] 693,
f1 (m 23 15) "BytesIO.getvalue" "io" 462 N N 300,
t0,
p0,
ts ["self"] 699,
t0,
f0 (m 23 16) "BytesIO.getbuffer",
ck "getbuffer" "BytesIO.getbuffer" 696 167 1 0 0 3 302 303 [R 304,R 305,R 306] 700,
f1 (m 23 16) "BytesIO.getbuffer" "io" 462 N N 307,
t0,
p0,
ts ["self"] 706,
t0,
f0 (m 23 17) "BytesIO.tell",
ck "tell" "BytesIO.tell" 703 170 1 0 0 3 309 310 [R 311,R 312,R 313] 707,
f1 (m 23 17) "BytesIO.tell" "io" 462 N N 314,
t [.int (0) 710],
t0,
p0,
ts ["self","pos","whence"] 714,
t0,
f0 (m 23 18) "BytesIO.seek",
ck "seek" "BytesIO.seek" 711 174 3 3 0 3 317 318 [R 319,R 320,R 321] 717,
f1 (m 23 18) "BytesIO.seek" "io" 462 (R 316) N 322,
t [N],
t0,
p0,
ts ["self","size"] 723,
t0,
f0 (m 23 19) "BytesIO.truncate",
ck "truncate" "BytesIO.truncate" 720 191 2 2 0 3 325 326 [R 327,R 328,R 329] 725,
f1 (m 23 19) "BytesIO.truncate" "io" 462 (R 324) N 330,
t [.int (-1) 729],
t0,
p0,
ts ["self","size","start","stop"] 733,
t0,
f0 (m 23 20) "BytesIO.read",
ck "read" "BytesIO.read" 730 194 2 2 0 3 333 334 [R 335,R 336,R 337] 737,
f1 (m 23 20) "BytesIO.read" "io" 462 (R 332) N 338,
t [.int (-1) 741],
t0,
p0,
ts ["self","size"] 745,
t0,
f0 (m 23 21) "BytesIO.read1",
ck "read1" "BytesIO.read1" 742 208 2 2 0 3 341 342 [R 343,R 344,R 345] 747,
f1 (m 23 21) "BytesIO.read1" "io" 462 (R 340) N 346,
t0,
p0,
ts ["self","buffer","start","n"] 753,
t0,
f0 (m 23 22) "BytesIO.readinto",
ck "readinto" "BytesIO.readinto" 750 211 2 2 0 3 348 349 [R 350,R 351,R 352] 757,
f1 (m 23 22) "BytesIO.readinto" "io" 462 N N 353,
t0,
p0,
ts ["self","buffer"] 763,
t0,
f0 (m 23 23) "BytesIO.readinto1"]
noncomputable def l6(P:Params):List Obj:=[
ck "readinto1" "BytesIO.readinto1" 760 225 2 2 0 3 355 356 [R 357,R 358,R 359] 765,
f1 (m 23 23) "BytesIO.readinto1" "io" 462 N N 360,
t [.int (-1) 769],
t0,
p0,
ts ["self","size"] 773,
t0,
f0 (m 23 24) "BytesIO.readline",
ck "readline" "BytesIO.readline" 770 228 2 2 0 3 363 364 [R 365,R 366,R 367] 775,
f1 (m 23 24) "BytesIO.readline" "io" 462 (R 362) N 368,
t [N],
t0,
p0,
ts ["self","size"] 781,
t0,
f0 (m 23 25) "BytesIO.readlines",
ck "readlines" "BytesIO.readlines" 778 235 2 2 0 3 371 372 [R 373,R 374,R 375] 783,
f1 (m 23 25) "BytesIO.readlines" "io" 462 (R 370) N 376,
t0,
p0,
ts ["self"] 789,
t0,
f0 (m 23 26) "BytesIO.__iter__",
ck "__iter__" "BytesIO.__iter__" 786 238 1 0 0 3 378 379 [R 380,R 381,R 382] 790,
f1 (m 23 26) "BytesIO.__iter__" "io" 462 N N 383,
t0,
p0,
ts ["self","line"] 796,
t0,
f0 (m 23 27) "BytesIO.__next__",
ck "__next__" "BytesIO.__next__" 793 241 1 0 0 3 385 386 [R 387,R 388,R 389] 798,
f1 (m 23 27) "BytesIO.__next__" "io" 462 N N 390,
t0,
p0,
ts ["self","b","n","start"] 804,
t0,
f0 (m 23 28) "BytesIO.write",
ck "write" "BytesIO.write" 801 248 2 2 0 3 392 393 [R 394,R 395,R 396] 808,
f1 (m 23 28) "BytesIO.write" "io" 462 N N 397,
t0,
p0,
ts ["self","lines"] 814,
t0,
f0 (m 23 29) "BytesIO.writelines",
ck "writelines" "BytesIO.writelines" 811 264 2 2 0 3 399 400 [R 401,R 402,R 403] 816,
f1 (m 23 29) "BytesIO.writelines" "io" 462 N N 404,
t0,
p0,
ts ["self"] 822,
t0,
f0 (m 23 30) "BytesIO.__repr__",
ck "__repr__" "BytesIO.__repr__" 819 267 1 0 0 3 406 407 [R 408,R 409,R 410] 823,
f1 (m 23 30) "BytesIO.__repr__" "io" 462 N N 411,
ts ["__buf","__pos"] 826,
E1 P [("__module__",577,S "_io" 582),("__firstlineno__",581,.int (99) 580),("__init__",591,R 202),("_BytesIO__check",598,R 209),("_BytesIO__line",609,R 216),("closed",617,R 224),("close",624,R 231),("__enter__",631,R 238),("__exit__",639,R 245),("readable",646,R 252),("writable",653,R 259),("seekable",660,R 266),("isatty",667,R 273),("flush",674,R 280),("fileno",681,R 287),("detach",688,R 294),("getvalue",695,R 301),("getbuffer",702,R 308),("tell",709,R 315),("seek",719,R 323),("truncate",727,R 331),("read",739,R 339),("read1",749,R 347),("readinto",759,R 354),("readinto1",767,R 361),("readline",777,R 369),("readlines",785,R 377),("__iter__",792,R 384),("__next__",800,R 391),("write",810,R 398),("writelines",818,R 405),("__repr__",825,R 412),("__static_attributes__",828,R 413),("__doc__",829,N)] 2,
{cls:=T "type",data:=.cls {name:=Str.ofString "BytesIO",bases:=[R 173],mro:=[R 415,R 173,R 158,T "object"],ns:=414,qualname:=Str.ofString "BytesIO"},slots:=#[some (R 188),none,some (S "BytesIO" 570),some (S "BytesIO" 578),some N,some (.bool true)]},
{cls:=T "super",data:=.fields #[R 415,R 415,R 415]},
{cls:=T "builtin_function_or_method",data:=.fields #[B "object.__init_subclass__",R 415]},
t [R 185],
{cls:=T "builtin_function_or_method",data:=.fields #[B "type.__prepare__",T "type"]}]
noncomputable def l7(P:Params):List Obj:=[
E1 P [("__module__",839,S "_io" 844),("__qualname__",841,S "StringIO" 840),("__firstlineno__",843,.int (269) 842),("__init__",856,R 432),("_StringIO__translated",865,R 439),("_StringIO__check",872,R 446),("_StringIO__check_dot",879,R 453),("_StringIO__line",894,R 460),("closed",902,R 468),("line_buffering",910,R 476),("newlines",918,R 484),("encoding",926,R 492),("errors",934,R 500),("close",941,R 507),("__enter__",948,R 514),("__exit__",956,R 521),("readable",963,R 528),("writable",970,R 535),("seekable",977,R 542),("isatty",984,R 549),("flush",991,R 556),("fileno",998,R 563),("detach",1005,R 570),("getvalue",1012,R 577),("tell",1019,R 584),("seek",1029,R 592),("truncate",1037,R 600),("read",1049,R 608),("readline",1059,R 616),("readlines",1069,R 624),("__iter__",1076,R 631),("__next__",1084,R 638),("write",1096,R 645),("writelines",1104,R 652),("__repr__",1111,R 659),("__static_attributes__",1115,R 660)] 36,
t0,
{cls:=N,data:=.fields #[I 272,I 4,R 431,I 285,I 4,R 438,I 293,I 4,R 445,I 297,I 4,R 452,I 301,I 4,R 459,I 334,I 4,R 466,I 338,I 4,R 474,I 342,I 4,R 482,I 346,I 4,R 490,I 350,I 4,R 498,I 353,I 4,R 506,I 356,I 4,R 513,I 360,I 4,R 520,I 363,I 4,R 527,I 367,I 4,R 534,I 371,I 4,R 541,I 375,I 4,R 548,I 379,I 4,R 555,I 382,I 4,R 562,I 385,I 4,R 569,I 388,I 4,R 576,I 391,I 4,R 583,I 395,I 4,R 591,I 412,I 4,R 599,I 415,I 4,R 607,I 429,I 4,R 615,I 436,I 4,R 623,I 439,I 4,R 630,I 443,I 4,R 637,I 450,I 4,R 644,I 469,I 4,R 651,I 472,I 4,R 658]},
cd [S "StringIO" 834,S "StringIO" 835,S "/claim/cut.py" 836,I 269,I 0,I 0,I 0,I 0,R 421,.bool false,I 318,R 422,N,N,N,N,I 837,I 269,S "/claim/cut.py" 838],
{cls:=T "frame",slots:=#[some (R 423),some (R 3),some (R 420),none,some (S "io" 462),none,some (R 0)]},
ts ["","\n"] 846,
t0,
p0,
ts ["self","initial_value","newline"] 851,
t0,
f0 (m 24 1) "StringIO.__init__",
ck "__init__" "StringIO.__init__" 848 272 3 0 0 3 426 427 [R 428,R 429,R 430] 854,
f1 (m 24 1) "StringIO.__init__" "io" 462 (R 425) N 431,
t0,
p0,
ts ["self","s","newline"] 860,
t0,
f0 (m 24 2) "StringIO.__translated",
ck "__translated" "StringIO.__translated" 857 285 2 0 0 3 433 434 [R 435,R 436,R 437] 863,
f1 (m 24 2) "StringIO.__translated" "io" 462 N N 438,
t0,
p0,
ts ["self"] 869,
t0,
f0 (m 24 3) "StringIO.__check",
ck "__check" "StringIO.__check" 866 293 1 0 0 3 440 441 [R 442,R 443,R 444] 870,
f1 (m 24 3) "StringIO.__check" "io" 462 N N 445,
t0,
p0,
ts ["self"] 876,
t0,
f0 (m 24 4) "StringIO.__check_dot",
ck "__check_dot" "StringIO.__check_dot" 873 297 1 0 0 3 447 448 [R 449,R 450,R 451] 877,
f1 (m 24 4) "StringIO.__check_dot" "io" 462 N N 452,
t0,
p0,
ts ["self","limit","start","stop","cut","newline","i","j","end"] 883,
t0,
f0 (m 24 5) "StringIO.__line",
ck "__line" "StringIO.__line" 880 301 2 0 0 3 454 455 [R 456,R 457,R 458] 892,
f1 (m 24 5) "StringIO.__line" "io" 462 N N 459,
t0,
p0,
ts ["self"] 898,
t0,
f0 (m 24 6) "StringIO.closed",
ck "closed" "StringIO.closed" 895 333 1 0 0 3 461 462 [R 463,R 464,R 465] 899,
f1 (m 24 6) "StringIO.closed" "io" 462 N N 466,
{cls:=T "property",data:=.fields #[R 467,N,N,N,S "closed" 902,.bool false]},
t0,
p0,
ts ["self"] 906,
t0,
f0 (m 24 7) "StringIO.line_buffering",
ck "line_buffering" "StringIO.line_buffering" 903 337 1 0 0 3 469 470 [R 471,R 472,R 473] 907,
f1 (m 24 7) "StringIO.line_buffering" "io" 462 N N 474,
{cls:=T "property",data:=.fields #[R 475,N,N,N,S "line_buffering" 910,.bool false]},
t0,
p0,
ts ["self"] 914]
noncomputable def l8(P:Params):List Obj:=[
t0,
f0 (m 24 8) "StringIO.newlines",
ck "newlines" "StringIO.newlines" 911 341 1 0 0 3 477 478 [R 479,R 480,R 481] 915,
f1 (m 24 8) "StringIO.newlines" "io" 462 N N 482,
{cls:=T "property",data:=.fields #[R 483,N,N,N,S "newlines" 918,.bool false]},
t0,
p0,
ts ["self"] 922,
t0,
f0 (m 24 9) "StringIO.encoding",
ck "encoding" "StringIO.encoding" 919 345 1 0 0 3 485 486 [R 487,R 488,R 489] 923,
f1 (m 24 9) "StringIO.encoding" "io" 462 N N 490,
{cls:=T "property",data:=.fields #[R 491,N,N,N,S "encoding" 926,.bool false]},
t0,
p0,
ts ["self"] 930,
t0,
f0 (m 24 10) "StringIO.errors",
ck "errors" "StringIO.errors" 927 349 1 0 0 3 493 494 [R 495,R 496,R 497] 931,
f1 (m 24 10) "StringIO.errors" "io" 462 N N 498,
{cls:=T "property",data:=.fields #[R 499,N,N,N,S "errors" 934,.bool false]},
t0,
p0,
ts ["self"] 938,
t0,
f0 (m 24 11) "StringIO.close",
ck "close" "StringIO.close" 935 353 1 0 0 3 501 502 [R 503,R 504,R 505] 939,
f1 (m 24 11) "StringIO.close" "io" 462 N N 506,
t0,
p0,
ts ["self"] 945,
t0,
f0 (m 24 12) "StringIO.__enter__",
ck "__enter__" "StringIO.__enter__" 942 356 1 0 0 3 508 509 [R 510,R 511,R 512] 946,
f1 (m 24 12) "StringIO.__enter__" "io" 462 N N 513,
t0,
p0,
ts ["self","args"] 952,
t0,
f0 (m 24 13) "StringIO.__exit__",
ck "__exit__" "StringIO.__exit__" 949 360 1 0 0 7 515 516 [R 517,R 518,R 519] 954,
f1 (m 24 13) "StringIO.__exit__" "io" 462 N N 520,
t0,
p0,
ts ["self"] 960,
t0,
f0 (m 24 14) "StringIO.readable",
ck "readable" "StringIO.readable" 957 363 1 0 0 3 522 523 [R 524,R 525,R 526] 961,
f1 (m 24 14) "StringIO.readable" "io" 462 N N 527,
t0,
p0,
ts ["self"] 967,
t0,
f0 (m 24 15) "StringIO.writable",
ck "writable" "StringIO.writable" 964 367 1 0 0 3 529 530 [R 531,R 532,R 533] 968,
f1 (m 24 15) "StringIO.writable" "io" 462 N N 534,
t0,
p0,
ts ["self"] 974,
t0]
noncomputable def l9(P:Params):List Obj:=[
f0 (m 24 16) "StringIO.seekable",
ck "seekable" "StringIO.seekable" 971 371 1 0 0 3 536 537 [R 538,R 539,R 540] 975,
f1 (m 24 16) "StringIO.seekable" "io" 462 N N 541,
t0,
p0,
ts ["self"] 981,
t0,
f0 (m 24 17) "StringIO.isatty",
ck "isatty" "StringIO.isatty" 978 375 1 0 0 3 543 544 [R 545,R 546,R 547] 982,
f1 (m 24 17) "StringIO.isatty" "io" 462 N N 548,
t0,
p0,
ts ["self"] 988,
t0,
f0 (m 24 18) "StringIO.flush",
ck "flush" "StringIO.flush" 985 379 1 0 0 3 550 551 [R 552,R 553,R 554] 989,
f1 (m 24 18) "StringIO.flush" "io" 462 N N 555,
t0,
p0,
ts ["self"] 995,
t0,
f0 (m 24 19) "StringIO.fileno",
ck "fileno" "StringIO.fileno" 992 382 1 0 0 3 557 558 [R 559,R 560,R 561] 996,
f1 (m 24 19) "StringIO.fileno" "io" 462 N N 562,
t0,
p0,
ts ["self"] 1002,
t0,
f0 (m 24 20) "StringIO.detach",
ck "detach" "StringIO.detach" 999 385 1 0 0 3 564 565 [R 566,R 567,R 568] 1003,
f1 (m 24 20) "StringIO.detach" "io" 462 N N 569,
t0,
p0,
ts ["self"] 1009,
t0,
f0 (m 24 21) "StringIO.getvalue",
ck "getvalue" "StringIO.getvalue" 1006 388 1 0 0 3 571 572 [R 573,R 574,R 575] 1010,
f1 (m 24 21) "StringIO.getvalue" "io" 462 N N 576,
t0,
p0,
ts ["self"] 1016,
t0,
f0 (m 24 22) "StringIO.tell",
ck "tell" "StringIO.tell" 1013 391 1 0 0 3 578 579 [R 580,R 581,R 582] 1017,
f1 (m 24 22) "StringIO.tell" "io" 462 N N 583,
t [.int (0) 1020],
t0,
p0,
ts ["self","pos","whence"] 1024,
t0,
f0 (m 24 23) "StringIO.seek",
ck "seek" "StringIO.seek" 1021 395 3 3 0 3 586 587 [R 588,R 589,R 590] 1027,
f1 (m 24 23) "StringIO.seek" "io" 462 (R 585) N 591,
t [N],
t0,
p0,
ts ["self","pos"] 1033,
t0,
f0 (m 24 24) "StringIO.truncate",
ck "truncate" "StringIO.truncate" 1030 412 2 2 0 3 594 595 [R 596,R 597,R 598] 1035]
noncomputable def ZF(P:Params):List Obj:=[
f1 (m 24 24) "StringIO.truncate" "io" 462 (R 593) N 599,
t [.int (-1) 1039],
t0,
p0,
ts ["self","size","start","stop"] 1043,
t0,
f0 (m 24 25) "StringIO.read",
ck "read" "StringIO.read" 1040 415 2 2 0 3 602 603 [R 604,R 605,R 606] 1047,
f1 (m 24 25) "StringIO.read" "io" 462 (R 601) N 607,
t [.int (-1) 1051],
t0,
p0,
ts ["self","size"] 1055,
t0,
f0 (m 24 26) "StringIO.readline",
ck "readline" "StringIO.readline" 1052 429 2 2 0 3 610 611 [R 612,R 613,R 614] 1057,
f1 (m 24 26) "StringIO.readline" "io" 462 (R 609) N 615,
t [.int (-1) 1061],
t0,
p0,
ts ["self","hint"] 1065,
t0,
f0 (m 24 27) "StringIO.readlines",
ck "readlines" "StringIO.readlines" 1062 436 2 2 0 3 618 619 [R 620,R 621,R 622] 1067,
f1 (m 24 27) "StringIO.readlines" "io" 462 (R 617) N 623,
t0,
p0,
ts ["self"] 1073,
t0,
f0 (m 24 28) "StringIO.__iter__",
ck "__iter__" "StringIO.__iter__" 1070 439 1 0 0 3 625 626 [R 627,R 628,R 629] 1074,
f1 (m 24 28) "StringIO.__iter__" "io" 462 N N 630,
t0,
p0,
ts ["self","line"] 1080,
t0,
f0 (m 24 29) "StringIO.__next__",
ck "__next__" "StringIO.__next__" 1077 443 1 0 0 3 632 633 [R 634,R 635,R 636] 1082,
f1 (m 24 29) "StringIO.__next__" "io" 462 N N 637,
t0,
p0,
ts ["self","s","n","m","start","buf"] 1088,
t0,
f0 (m 24 30) "StringIO.write",
ck "write" "StringIO.write" 1085 450 2 2 0 3 639 640 [R 641,R 642,R 643] 1094,
f1 (m 24 30) "StringIO.write" "io" 462 N N 644,
t0,
p0,
ts ["self","lines"] 1100,
t0,
f0 (m 24 31) "StringIO.writelines",
ck "writelines" "StringIO.writelines" 1097 469 2 2 0 3 646 647 [R 648,R 649,R 650] 1102,
f1 (m 24 31) "StringIO.writelines" "io" 462 N N 651,
t0,
p0,
ts ["self"] 1108,
t0,
f0 (m 24 32) "StringIO.__repr__",
ck "__repr__" "StringIO.__repr__" 1105 472 1 0 0 3 653 654 [R 655,R 656,R 657] 1109,
f1 (m 24 32) "StringIO.__repr__" "io" 462 N N 658]
noncomputable def ZG(P:Params):List Obj:=[
ts ["__buf","__newline","__pos"] 1112,
E1 P [("__module__",839,S "_io" 844),("__firstlineno__",843,.int (269) 842),("__init__",856,R 432),("_StringIO__translated",865,R 439),("_StringIO__check",872,R 446),("_StringIO__check_dot",879,R 453),("_StringIO__line",894,R 460),("closed",902,R 468),("line_buffering",910,R 476),("newlines",918,R 484),("encoding",926,R 492),("errors",934,R 500),("close",941,R 507),("__enter__",948,R 514),("__exit__",956,R 521),("readable",963,R 528),("writable",970,R 535),("seekable",977,R 542),("isatty",984,R 549),("flush",991,R 556),("fileno",998,R 563),("detach",1005,R 570),("getvalue",1012,R 577),("tell",1019,R 584),("seek",1029,R 592),("truncate",1037,R 600),("read",1049,R 608),("readline",1059,R 616),("readlines",1069,R 624),("__iter__",1076,R 631),("__next__",1084,R 638),("write",1096,R 645),("writelines",1104,R 652),("__repr__",1111,R 659),("__static_attributes__",1115,R 660),("__doc__",1116,N)] 2,
{cls:=T "type",data:=.cls {name:=Str.ofString "StringIO",bases:=[R 185],mro:=[R 662,R 185,R 158,T "object"],ns:=661,qualname:=Str.ofString "StringIO"},slots:=#[some (R 418),none,some (S "StringIO" 832),some (S "StringIO" 840),some N,some (.bool true)]},
{cls:=T "super",data:=.fields #[R 662,R 662,R 662]},
{cls:=T "builtin_function_or_method",data:=.fields #[B "object.__init_subclass__",R 662]},
t0,
p0,
ts ["name","x","t"] 1124,
t0,
f0 (aY 26) "_kind",
ck "_kind" "_kind" 1121 475 2 0 0 3 665 666 [R 667,R 668,R 669] 1127,
f1 (aY 26) "_kind" "os.path" 1119 N N 670,
t0,
p0,
ts ["name","x","k"] 1133,
t0,
f0 (aY 27) "_fspath",
ck "_fspath" "_fspath" 1130 496 2 0 0 3 672 673 [R 674,R 675,R 676] 1136,
f1 (aY 27) "_fspath" "os.path" 1119 N N 677,
t0,
p0,
ts ["funcname","args","s","k"] 1142,
t0,
f0 (aY 28) "_check_arg_types",
ck "_check_arg_types" "_check_arg_types" 1139 501 1 0 0 7 679 680 [R 681,R 682,R 683] 1146,
f1 (aY 28) "_check_arg_types" "os.path" 1119 N N 684,
t0,
p0,
ts ["s"] 1152,
t0,
f0 (aY 29) "isabs",
ck "isabs" "isabs" 1149 506 1 0 0 3 686 687 [R 688,R 689,R 690] 1153,
f1 (aY 29) "isabs" "os.path" 1119 N N 691,
t0,
p0,
ts ["a","p","b","sep","path"] 1159,
t0,
f0 (aY 30) "join",
ck "join" "join" 1156 509 1 0 0 7 693 694 [R 695,R 696,R 697] 1164,
f1 (aY 30) "join" "os.path" 1119 N N 698,
t0,
p0,
ts ["p","sep","i","head"] 1171,
t0,
f0 (aY 32) "dirname",
ck "dirname" "dirname" 1168 530 1 0 0 3 700 701 [R 702,R 703,R 704] 1175,
f1 (aY 32) "dirname" "os.path" 1119 N N 705,
t0,
{cls:=T "builtin_function_or_method",data:=.fields #[B "type.__prepare__",T "type"]},
E1 P [("__module__",1187,S "cpy313.shlex" 1178),("__qualname__",1189,S "shlex" 1188),("__firstlineno__",1191,.int (539) 1190),("__init__",1203,R 721),("punctuation_chars",1211,R 729),("push_token",1219,R 736),("push_source",1228,R 744),("pop_source",1235,R 751),("get_token",1247,R 758),("read_token",1258,R 765),("sourcehook",1266,R 772),("error_leader",1275,R 780),("__iter__",1282,R 787),("__next__",1290,R 794),("__static_attributes__",1311,R 795)] 15,
t0,
{cls:=N,data:=.fields #[I 541,I 4,R 720,I 583,I 4,R 727,I 586,I 4,R 735,I 589,I 4,R 743,I 602,I 4,R 750,I 609,I 4,R 757,I 636,I 4,R 764,I 773,I 4,R 771,I 780,I 4,R 779,I 783,I 4,R 786,I 786,I 4,R 793]},
cd [S "shlex" 1182,S "shlex" 1183,S "/claim/cut.py" 1184,I 539,I 0,I 0,I 0,I 0,R 710,.bool false,I 318,R 711,N,N,N,N,I 1185,I 539,S "/claim/cut.py" 1186],
{cls:=T "frame",slots:=#[some (R 712),some (R 3),some (R 709),none,some (S "cpy313.shlex" 1178),none,some (R 0)]},
t [N,N,.bool false,.bool false],
t0,
p0,
ts ["self","instream","infile","posix","punctuation_chars","t"] 1195,
t0,
f0 (m 34 0) "shlex.__init__"]
noncomputable def ZH(P:Params):List Obj:=[
ck "__init__" "shlex.__init__" 1192 541 5 0 0 3 715 716 [R 717,R 718,R 719] 1201,
f1 (m 34 0) "shlex.__init__" "cpy313.shlex" 1178 (R 714) N 720,
t0,
p0,
ts ["self"] 1207,
t0,
f0 (m 34 1) "shlex.punctuation_chars",
ck "punctuation_chars" "shlex.punctuation_chars" 1204 582 1 0 0 3 722 723 [R 724,R 725,R 726] 1208,
f1 (m 34 1) "shlex.punctuation_chars" "cpy313.shlex" 1178 N N 727,
{cls:=T "property",data:=.fields #[R 728,N,N,N,S "punctuation_chars" 1211,.bool false]},
t0,
p0,
ts ["self","tok"] 1215,
t0,
f0 (m 34 2) "shlex.push_token",
ck "push_token" "shlex.push_token" 1212 586 2 0 0 3 730 731 [R 732,R 733,R 734] 1217,
f1 (m 34 2) "shlex.push_token" "cpy313.shlex" 1178 N N 735,
t [N],
t0,
p0,
ts ["self","newstream","newfile"] 1223,
t0,
f0 (m 34 3) "shlex.push_source",
ck "push_source" "shlex.push_source" 1220 589 3 0 0 3 738 739 [R 740,R 741,R 742] 1226,
f1 (m 34 3) "shlex.push_source" "cpy313.shlex" 1178 (R 737) N 743,
t0,
p0,
ts ["self"] 1232,
t0,
f0 (m 34 4) "shlex.pop_source",
ck "pop_source" "shlex.pop_source" 1229 602 1 0 0 3 745 746 [R 747,R 748,R 749] 1233,
f1 (m 34 4) "shlex.pop_source" "cpy313.shlex" 1178 N N 750,
t0,
p0,
ts ["self","tok","raw","spec","newfile","newstream"] 1239,
t0,
f0 (m 34 5) "shlex.get_token",
ck "get_token" "shlex.get_token" 1236 609 1 0 0 3 752 753 [R 754,R 755,R 756] 1245,
f1 (m 34 5) "shlex.get_token" "cpy313.shlex" 1178 N N 757,
t0,
p0,
ts ["self","quoted","escapedstate","nextchar","result"] 1251,
t0,
f0 (m 34 6) "shlex.read_token",
ck "read_token" "shlex.read_token" 1248 636 1 0 0 3 759 760 [R 761,R 762,R 763] 1256,
f1 (m 34 6) "shlex.read_token" "cpy313.shlex" 1178 N N 764,
t0,
p0,
ts ["self","newfile"] 1262,
t0,
f0 (m 34 7) "shlex.sourcehook",
ck "sourcehook" "shlex.sourcehook" 1259 773 2 0 0 3 766 767 [R 768,R 769,R 770] 1264,
f1 (m 34 7) "shlex.sourcehook" "cpy313.shlex" 1178 N N 771,
t [N,N],
t0,
p0,
ts ["self","infile","lineno"] 1270,
t0,
f0 (m 34 8) "shlex.error_leader",
ck "error_leader" "shlex.error_leader" 1267 780 3 0 0 3 774 775 [R 776,R 777,R 778] 1273]
noncomputable def ZI(P:Params):List Obj:=[
f1 (m 34 8) "shlex.error_leader" "cpy313.shlex" 1178 (R 773) N 779,
t0,
p0,
ts ["self"] 1279,
t0,
f0 (m 34 9) "shlex.__iter__",
ck "__iter__" "shlex.__iter__" 1276 783 1 0 0 3 781 782 [R 783,R 784,R 785] 1280,
f1 (m 34 9) "shlex.__iter__" "cpy313.shlex" 1178 N N 786,
t0,
p0,
ts ["self","token"] 1286,
t0,
f0 (m 34 10) "shlex.__next__",
ck "__next__" "shlex.__next__" 1283 786 1 0 0 3 788 789 [R 790,R 791,R 792] 1288,
f1 (m 34 10) "shlex.__next__" "cpy313.shlex" 1178 N N 793,
ts ["_punctuation_chars","_pushback_chars","commenters","debug","eof","escape","escapedquotes","filestack","infile","instream","lineno","posix","pushback","quotes","source","state","token","whitespace","whitespace_split","wordchars"] 1291,
E1 P [("__module__",1187,S "cpy313.shlex" 1178),("__firstlineno__",1191,.int (539) 1190),("__init__",1203,R 721),("punctuation_chars",1211,R 729),("push_token",1219,R 736),("push_source",1228,R 744),("pop_source",1235,R 751),("get_token",1247,R 758),("read_token",1258,R 765),("sourcehook",1266,R 772),("error_leader",1275,R 780),("__iter__",1282,R 787),("__next__",1290,R 794),("__static_attributes__",1311,R 795),("__dict__",1313,R 798),("__weakref__",1315,R 799),("__doc__",1316,N)] 4,
{cls:=T "type",data:=.cls {name:=Str.ofString "shlex",bases:=[T "object"],mro:=[R 797,T "object"],ns:=796,qualname:=Str.ofString "shlex"},slots:=#[none,none,some (S "shlex" 1180),some (S "shlex" 1188),some (B "object.__new__"),some (.bool true)]},
{cls:=T "getset_descriptor",data:=.fields #[S "__dict__" 1312,R 797,B "function.__dict__",B "function.__dict__#set"]},
{cls:=T "getset_descriptor",data:=.fields #[S "__weakref__" 1314,R 797,B "ExceptionGroup.__weakref__",N]},
{cls:=T "super",data:=.fields #[R 797,R 797,R 797]},
{cls:=T "builtin_function_or_method",data:=.fields #[B "object.__init_subclass__",R 797]},
t0,
p0,
ts ["split_command"] 1322,
t0,
f0 (aY 35) "join",
ck "join" "join" 1319 791 1 0 0 3 802 803 [R 804,R 805,R 806] 1323,
f1 (aY 35) "join" "cpy313.shlex" 1178 N N 807,
{cls:=T "builtin_function_or_method",data:=.fields #[B "re.Pattern.search",R 114]},
t0,
p0,
ts ["s"] 1332,
t0,
f0 (aY 38) "quote",
ck "quote" "quote" 1329 795 1 0 0 3 810 811 [R 812,R 813,R 814] 1333,
f1 (aY 38) "quote" "cpy313.shlex" 1178 N N 815,
t0,
p0,
f0 (aY 40) "_law_octets",
ck "_law_octets" "_law_octets" 1338 802 1 0 0 3 817 818 [N,N,R 819] 1341,
f1 (aY 40) "_law_octets" "law_oy0348_01" 1336 N N 820,
t0,
p0,
f0 (aY 41) "_law_word",
ck "_law_word" "_law_word" 1344 804 1 0 0 3 822 823 [N,N,R 824] 1347,
f1 (aY 41) "_law_word" "law_oy0348_01" 1336 N N 825,
t0,
p0,
ts ["word"] 1353,
t0,
f0 (aY 42) "_law_quoted",
ck "_law_quoted" "_law_quoted" 1350 808 1 0 0 3 827 828 [R 829,R 830,R 831] 1354,
f1 (aY 42) "_law_quoted" "law_oy0348_01" 1336 N N 832,
t0,
p0,
f0 (aY 43) "_law_step",
ck "_law_step" "_law_step" 1357 810 2 0 0 3 834 835 [N,N,R 836] 1360,
f1 (aY 43) "_law_step" "law_oy0348_01" 1336 N N 837,
t0]
noncomputable def ZJ(P:Params):List Obj:=[
p0,
f0 (aY 44) "_law_worth",
ck "_law_worth" "_law_worth" 1363 813 1 0 0 3 839 840 [N,N,R 841] 1366,
f1 (aY 44) "_law_worth" "law_oy0348_01" 1336 N N 842,
t0,
p0,
ts ["line","lexer","trees","kept","number","fault"] 1372,
ts ["read"] 1378,
f0 (aY 45) "_law_trees",
ck "_law_trees" "_law_trees" 1369 820 1 0 0 3 844 845 [R 846,R 847,R 848] 1379,
f1 (aY 45) "_law_trees" "law_oy0348_01" 1336 N N 849,
t0,
p0,
ts ["words","branches","place","k","one"] 1385,
t0,
f0 (aY 46) "_law_grown",
ck "_law_grown" "_law_grown" 1382 831 1 0 0 3 851 852 [R 853,R 854,R 855] 1390,
f1 (aY 46) "_law_grown" "law_oy0348_01" 1336 N N 856,
t0,
p0,
f0 (aY 47) "_law_parties",
ck "_law_parties" "_law_parties" 1393 841 2 0 0 3 858 859 [N,N,R 860] 1396,
f1 (aY 47) "_law_parties" "law_oy0348_01" 1336 N N 861,
t0,
p0,
f0 (aY 48) "_law_due",
ck "_law_due" "_law_due" 1399 848 1 0 0 3 863 864 [N,N,R 865] 1402,
f1 (aY 48) "_law_due" "law_oy0348_01" 1336 N N 866,
t0,
p0,
f0 (aY 49) "law",
ck "law" "law" 1405 858 1 0 0 3 868 869 [N,N,R 870] 1408,
f1 (aY 49) "law" "law_oy0348_01" 1336 N N 871]
noncomputable def LF(P:Params):List Obj:=l0 P++(l1 P++(l2 P++(l3 P++(l4 P++(l5 P++(l6 P++(l7 P++(l8 P++(l9 P++(ZF P++(ZG P++(ZH P++(ZI P++(ZJ P))))))))))))))
noncomputable def VN(P:Params):Obj:=E1 P [("__name__",247,S "_sre" 246),("__doc__",248,N),("__package__",250,S "" 249),("__loader__",251,R 14),("__spec__",252,R 26),("compile",253,B "_sre.compile"),("template",254,B "_sre.template"),("getcodesize",255,B "_sre.getcodesize"),("ascii_iscased",256,B "_sre.ascii_iscased"),("unicode_iscased",257,B "_sre.unicode_iscased"),("ascii_tolower",258,B "_sre.ascii_tolower"),("unicode_tolower",259,B "_sre.unicode_tolower"),("MAGIC",261,.int (20230612) 260),("CODESIZE",263,.int (4) 262),("MAXREPEAT",265,.int (4294967295) 264),("MAXGROUPS",267,.int (1073741823) 266),("copyright",269,S " SRE 2.2.2 Copyright (c) 1997-2002 by Secret Labs AB " 268)] 17
noncomputable def VO(P:Params):Obj:=E1 P [("__name__",296,S "_collections" 295),("__doc__",297,B "_collections.__doc__:str#opaque"),("__package__",299,S "" 298),("__loader__",300,R 14),("__spec__",301,R 33),("_count_elements",302,B "_collections._count_elements"),("deque",303,T "collections.deque"),("defaultdict",304,T "collections.defaultdict"),("_deque_iterator",305,T "collections._deque_iterator"),("_deque_reverse_iterator",306,T "collections._deque_reverse_iterator"),("_tuplegetter",307,T "collections._tuplegetter"),("OrderedDict",308,T "collections.OrderedDict")] 12
noncomputable def TX(P:Params):Obj:={cls:=T "type",data:=.cls {name:=Str.ofString "TextIOBase",bases:=[R 158],mro:=[R 185,R 158,T "object"],ns:=184,qualname:=Str.ofString "TextIOBase"},slots:=#[some (R 176),none,some (S "TextIOBase" 552),some (S "TextIOBase" 560),some N,some (.bool true)]}
end Mine.L
end
section
open PySem PySem.W PyProof.Rows PySem.Calls
namespace Mine.L
noncomputable def fr:Nat->List Obj->Frag
 | _,[]=>[]
 | i,o::r=>match Nat.beq i 803||Nat.beq i 845 with
  | true=>fr (i+1) r
  | false=>(i,o)::fr (i+1) r
noncomputable def KF(P:Params):Frag:=fr 0 (LF P)
noncomputable def TY(o:Obj):Bool:=match o.data with
 | .freed=>false
 | _=>true
theorem MU:∀{l:List Obj} {i a:Nat} {o:Obj},(fr i l).lookup a=some o->∃k,a=i+k/\l[k]?=some o
 | [],_,_,_,h=>by injection h
 | x::r,i,a,o,h=>by
  unfold fr at h
  cases q:Nat.beq i 803||Nat.beq i 845 with
  | true =>
   replace h:=q▸h
   rcases aL (MU h) with k|e1|e2
   exact⟨k+1,by grind,by simpa using e2⟩
  | false =>
   replace h:=q▸h
   dsimp only at h
   rw[List.lookup_cons] at h
   split at h
   . rename_i z
     have:a=i:=by simpa using z
     obtain rfl:=Option.some.inj h
     exact⟨0,by omega,rfl⟩
   . rcases aL (MU h) with k|e1|e2
     exact⟨k+1,by lia,by simpa using e2⟩
theorem MV(P:Params):(LF P).all TY=true:=by kernel_rfl
theorem MW{h:Heap}{a:Nat}{o:Obj}(e:h.objs[a]?=some o)(q:TY o=true):h.get? a=some o:=by
 unfold Heap.get?
 rwa[e]
 obtain⟨c,d,dt,sl⟩:=o
 cases dt<;>first | rfl | injection q
theorem TZ{P:Params}{h:Heap}(Y:∀b o,(Heap.mk (LF P).toArray {}).get? b=some o->h.get? b=some o):(KF P).In h:=λa o e=>by
 rcases aL (MU e) with k|e1|e2
 rw[Nat.zero_add] at e1
 subst e1
 refine Y a o (MW (by rwa[List.getElem?_toArray];exact e2) ?_)
 exact List.all_eq_true.mp (MV P) o (List.mem_of_getElem? e2)
theorem YM(P:Params):(KF P).lookup 872=some (f1 (aY 49) "law" "law_oy0348_01" 1336 N N 871):=by kernel_rfl
theorem YN(P:Params):(KF P).lookup 44=some (f1 (aY 2) "_wall" "__main__" 164 N N 43):=by kernel_rfl
theorem YO(P:Params):findIn (KF P) (.ref 797) "__next__"=some (some (.ref 794)):=by kernel_rfl
theorem Aj(P:Params):nsIn (KF P) mainGlobals "quote"=some (some (.ref 816)):=by kernel_rfl
theorem YQ(P:Params):codeIn (KF P) (.ref 871) "law"=true:=by kernel_rfl
end Mine.L
end
section
open PySem PySem.W PyProof.Rows PySem.Calls Builtin Builtin.ObjectAttr
namespace Mine.L
noncomputable def cx(w:World)(mg mb:Str->Option Value):Cx:={prog:=PySem.Challenge.pw_oy0348_01,w:=w,K:=KF w.params,mg:=mg,mb:=mb}
theorem pN{P:List Value->Prop}(h:∀v,P [v]):∀vs:List Value,vs.length=1->P vs:=YJ h
theorem IC{P:List Value->Prop}(h:∀v u,P [v,u]):∀vs:List Value,vs.length=2->P vs:=YK h
section
variable{w:World}{mg mb:Str->Option Value}
theorem gK(f:Nat){st:Stmt}{q mo:String}{k c:Nat}{df kw:Value}(hl:(KF w.params).lookup f=some (f1 st q mo k df kw c))(hc:codeIn (KF w.params) (.ref c) (Str.ofString q)=true):mG (cx w mg mb) f st (f1 st q mo k df kw c) (xR st q mo k df kw c) :=
 ⟨hl,rfl,hc,rfl,rfl,rfl,rfl,rfl⟩
theorem rA{f i:Nat}{names:List Str}{q mo:String}{k c:Nat}{df kw:Value}(F:mG (cx w mg mb) f (aY i) (f1 (aY i) q mo k df kw c) (xR (aY i) q mo k df kw c))(hb:∀vs:List Value,vs.length=names.length->bindArgs (xR (aY i) q mo k df kw c) ⟨vs,[]⟩=pure (names.zip vs)):fV (cx w mg mb) f i names :=
 ⟨_,_,F.1,F.2,F.3,F.4,F.5,F.6,F.7,F.8,hb⟩
theorem uR{f:Nat}{st:Stmt}{names:List Str}{q mo:String}{k c:Nat}{df kw:Value}{args:List Value->Args}(F:mG (cx w mg mb) f st (f1 st q mo k df kw c) (xR st q mo k df kw c))(hb:∀vs:List Value,vs.length=names.length->∀S,peek (KF w.params) S (bindArgs (xR st q mo k df kw c) (args vs))=some (names.zip vs)):gI (cx w mg mb) f st args names :=
 ⟨_,_,F.1,F.2,F.3,F.4,F.5,F.6,F.7,F.8,λvs e A s Q E X h=>kp_binds X (hb vs e) _ _ _ _ h⟩
theorem UA{f i:Nat}{names:List Str}{q mo:String}{k c:Nat}{df kw:Value}{args:List Value->Args}(F:mG (cx w mg mb) f (aY i) (f1 (aY i) q mo k df kw c) (xR (aY i) q mo k df kw c))(hb:∀vs:List Value,vs.length=names.length->∀S,peek (KF w.params) S (bindArgs (xR (aY i) q mo k df kw c) (args vs))=some (names.zip vs)):qM (cx w mg mb) f i args names :=
 ⟨_,_,F.1,F.2,F.3,F.4,F.5,F.6,F.7,F.8,λvs e A s Q E X h=>kp_binds X (hb vs e) _ _ _ _ h⟩
variable(w mg mb)
noncomputable abbrev DA(f:Nat)(st:Stmt)(q mo:String)(k:Nat)(df kw:Value)(c:Nat):Prop:=mG (cx w mg mb) f st (f1 st q mo k df kw c) (xR st q mo k df kw c)
theorem ZK:DA w mg mb 65 (aY 5) "_fail_neg" "cpy313.statistics" 331 (R 58) N 64:=gK 65 (by kernel_rfl) (by kernel_rfl)
theorem ZL:DA w mg mb 72 (aY 6) "median_low" "cpy313.statistics" 331 N N 71:=gK 72 (by kernel_rfl) (by kernel_rfl)
theorem ZM:DA w mg mb 79 (aY 7) "median_high" "cpy313.statistics" 331 N N 78:=gK 79 (by kernel_rfl) (by kernel_rfl)
theorem ZN:DA w mg mb 86 (aY 9) "_buffer" "binascii" 377 N N 85:=gK 86 (by kernel_rfl) (by kernel_rfl)
theorem ZO:DA w mg mb 93 (aY 10) "_truth" "binascii" 377 N N 92:=gK 93 (by kernel_rfl) (by kernel_rfl)
theorem VP:DA w mg mb 101 (aY 12) "b2a_base64" "binascii" 377 N (R 94) 100:=gK 101 (by kernel_rfl) (by kernel_rfl)
theorem VQ:DA w mg mb 109 (aY 14) "b64encode" "cpy313.base64" 411 (R 102) N 108:=gK 109 (by kernel_rfl) (by kernel_rfl)
theorem VR:DA w mg mb 128 (aY 18) "_index" "io" 462 N N 127:=gK 128 (by kernel_rfl) (by kernel_rfl)
theorem VS:DA w mg mb 155 (fH 20 1) "IOBase.__new__" "io" 462 N N 154:=gK 155 (by kernel_rfl) (by kernel_rfl)
theorem VT:DA w mg mb 432 (fH 24 1) "StringIO.__init__" "io" 462 (R 425) N 431:=gK 432 (by kernel_rfl) (by kernel_rfl)
theorem VU:DA w mg mb 439 (fH 24 2) "StringIO.__translated" "io" 462 N N 438:=gK 439 (by kernel_rfl) (by kernel_rfl)
theorem VV:DA w mg mb 446 (fH 24 3) "StringIO.__check" "io" 462 N N 445:=gK 446 (by kernel_rfl) (by kernel_rfl)
theorem VW:DA w mg mb 608 (fH 24 25) "StringIO.read" "io" 462 (R 601) N 607:=gK 608 (by kernel_rfl) (by kernel_rfl)
theorem VX:DA w mg mb 721 (fH 34 0) "shlex.__init__" "cpy313.shlex" 1178 (R 714) N 720:=gK 721 (by kernel_rfl) (by kernel_rfl)
theorem VY:DA w mg mb 728 (fH 34 1) "shlex.punctuation_chars" "cpy313.shlex" 1178 N N 727:=gK 728 (by kernel_rfl) (by kernel_rfl)
theorem VZ:DA w mg mb 758 (fH 34 5) "shlex.get_token" "cpy313.shlex" 1178 N N 757:=gK 758 (by kernel_rfl) (by kernel_rfl)
theorem WA:DA w mg mb 765 (fH 34 6) "shlex.read_token" "cpy313.shlex" 1178 N N 764:=gK 765 (by kernel_rfl) (by kernel_rfl)
theorem WD:DA w mg mb 787 (fH 34 9) "shlex.__iter__" "cpy313.shlex" 1178 N N 786:=gK 787 (by kernel_rfl) (by kernel_rfl)
theorem WE:DA w mg mb 794 (fH 34 10) "shlex.__next__" "cpy313.shlex" 1178 N N 793:=gK 794 (by kernel_rfl) (by kernel_rfl)
theorem WF:DA w mg mb 808 (aY 35) "join" "cpy313.shlex" 1178 N N 807:=gK 808 (by kernel_rfl) (by kernel_rfl)
theorem WG:DA w mg mb 816 (aY 38) "quote" "cpy313.shlex" 1178 N N 815:=gK 816 (by kernel_rfl) (by kernel_rfl)
theorem WH:DA w mg mb 821 (aY 40) "_law_octets" "law_oy0348_01" 1336 N N 820:=gK 821 (by kernel_rfl) (by kernel_rfl)
theorem WJ:DA w mg mb 826 (aY 41) "_law_word" "law_oy0348_01" 1336 N N 825:=gK 826 (by kernel_rfl) (by kernel_rfl)
theorem WK:DA w mg mb 833 (aY 42) "_law_quoted" "law_oy0348_01" 1336 N N 832:=gK 833 (by kernel_rfl) (by kernel_rfl)
theorem WM:DA w mg mb 838 (aY 43) "_law_step" "law_oy0348_01" 1336 N N 837:=gK 838 (by kernel_rfl) (by kernel_rfl)
theorem WN:DA w mg mb 843 (aY 44) "_law_worth" "law_oy0348_01" 1336 N N 842:=gK 843 (by kernel_rfl) (by kernel_rfl)
theorem WO:DA w mg mb 850 (aY 45) "_law_trees" "law_oy0348_01" 1336 N N 849:=gK 850 (by kernel_rfl) (by kernel_rfl)
theorem WP:DA w mg mb 857 (aY 46) "_law_grown" "law_oy0348_01" 1336 N N 856:=gK 857 (by kernel_rfl) (by kernel_rfl)
theorem WQ:DA w mg mb 862 (aY 47) "_law_parties" "law_oy0348_01" 1336 N N 861:=gK 862 (by kernel_rfl) (by kernel_rfl)
theorem WR:DA w mg mb 867 (aY 48) "_law_due" "law_oy0348_01" 1336 N N 866:=gK 867 (by kernel_rfl) (by kernel_rfl)
theorem WS:DA w mg mb 872 (aY 49) "law" "law_oy0348_01" 1336 N N 871:=gK 872 (by kernel_rfl) (by kernel_rfl)
theorem ZP:fV (cx w mg mb) 72 6 ["data"]:=rA (ZL w mg mb) (pN λv=>by kernel_rfl)
theorem ZQ:fV (cx w mg mb) 79 7 ["data"]:=rA (ZM w mg mb) (pN λv=>by kernel_rfl)
theorem ZR:fV (cx w mg mb) 86 9 ["data"]:=rA (ZN w mg mb) (pN λv=>by kernel_rfl)
theorem ZS:fV (cx w mg mb) 93 10 ["x"]:=rA (ZO w mg mb) (pN λv=>by kernel_rfl)
theorem WT:fV (cx w mg mb) 128 18 ["n","what"]:=rA (VR w mg mb) (IC λv u=>by kernel_rfl)
theorem UB:fV (cx w mg mb) 816 38 ["s"]:=rA (WG w mg mb) (pN λv=>by kernel_rfl)
theorem WU:fV (cx w mg mb) 821 40 ["x"]:=rA (WH w mg mb) (pN λv=>by kernel_rfl)
theorem WV:fV (cx w mg mb) 826 41 ["octets"]:=rA (WJ w mg mb) (pN λv=>by kernel_rfl)
theorem WW:fV (cx w mg mb) 833 42 ["word"]:=rA (WK w mg mb) (pN λv=>by kernel_rfl)
theorem WX:fV (cx w mg mb) 843 44 ["read"]:=rA (WN w mg mb) (pN λv=>by kernel_rfl)
theorem WY:fV (cx w mg mb) 857 46 ["words"]:=rA (WP w mg mb) (pN λv=>by kernel_rfl)
theorem WZ:fV (cx w mg mb) 862 47 ["tree","few"]:=rA (WQ w mg mb) (IC λv u=>by kernel_rfl)
theorem XA:fV (cx w mg mb) 867 48 ["words"]:=rA (WR w mg mb) (pN λv=>by kernel_rfl)
theorem ZU:gI (cx w mg mb) 65 (aY 5) pl ["values","errmsg"]:=uR (ZK w mg mb) (IC λv u S=>by kernel_rfl)
theorem XB:gI (cx w mg mb) 439 (fH 24 2) pl ["self","s"]:=uR (VU w mg mb) (IC λv u S=>by kernel_rfl)
theorem XC:gI (cx w mg mb) 446 (fH 24 3) pl ["self"]:=uR (VV w mg mb) (pN λv S=>by kernel_rfl)
theorem XD:gI (cx w mg mb) 608 (fH 24 25) pl ["self","size"]:=uR (VW w mg mb) (IC λv u S=>by kernel_rfl)
theorem XE:gI (cx w mg mb) 728 (fH 34 1) pl ["self"]:=uR (VY w mg mb) (pN λv S=>by kernel_rfl)
theorem XF:gI (cx w mg mb) 758 (fH 34 5) pl ["self"]:=uR (VZ w mg mb) (pN λv S=>by kernel_rfl)
theorem XG:gI (cx w mg mb) 765 (fH 34 6) pl ["self"]:=uR (WA w mg mb) (pN λv S=>by kernel_rfl)
theorem XH:gI (cx w mg mb) 787 (fH 34 9) pl ["self"]:=uR (WD w mg mb) (pN λv S=>by kernel_rfl)
theorem XI:gI (cx w mg mb) 794 (fH 34 10) pl ["self"]:=uR (WE w mg mb) (pN λv S=>by kernel_rfl)
theorem XJ:gI (cx w mg mb) 838 (aY 43) pl ["word","read"]:=uR (WM w mg mb) (IC λv u S=>by kernel_rfl)
theorem XL:qM (cx w mg mb) 109 14 pl ["s","altchars"]:=UA (VQ w mg mb) (IC λv u S=>by kernel_rfl)
noncomputable def YR:List Value->Args
 | [v,u]=>⟨[v],[("newline",u)]⟩
 | vs=>⟨vs,[]⟩
theorem XM:qM (cx w mg mb) 101 12 YR ["data","newline"]:=UA (VP w mg mb) (IC λv u S=>by kernel_rfl)
end
structure Nm(w:World)(mg mb:Str->Option Value):Prop where
 g:∀n v,nsIn (KF w.params) mainGlobals n=some v->mg n=v
 b:∀n:Str,n≠"__name__"->mb n=bootBuiltins n
section
variable{w:World}
noncomputable abbrev o4:Obj:={cls:=T "module",dict:=some 0}
theorem XN:dK (KF w.params) 797:=⟨by kernel_rfl,by kernel_rfl,by kernel_rfl,by kernel_rfl,by kernel_rfl⟩
theorem YS:dK (KF w.params) 662:=⟨by kernel_rfl,by kernel_rfl,by kernel_rfl,by kernel_rfl,by kernel_rfl⟩
theorem EK{α:Type}{P:α->Prop}{f:α->Bool}{l:List α}(h:l.all f=true)(k:∀x,f x=true->P x):∀x∈l,P x:=λx hx=>k x (List.all_eq_true.mp h x hx)
noncomputable def US(K:Frag)(c:Value)(y:Str):Bool:=match findIn K c y with
 | some none=>true
 | _=>false
theorem MY{K:Frag}{c:Value}{y:Str}(h:US K c y=true):findIn K c y=some none:=by
 unfold US at h
 split at h
 . assumption
 . injection h
theorem YT:∀y∈nC,findIn (KF w.params) (.ref 797) y=some none:=EK (f:=US (KF w.params) (.ref 797)) (by kernel_rfl) λ_=>MY
theorem YU:∀y∈nD,findIn (KF w.params) (.ref 662) y=some none:=EK (f:=US (KF w.params) (.ref 662)) (by kernel_rfl) λ_=>MY
end
section
variable{w:World}{mg mb:Str->Option Value}(m:Nm w mg mb)
include m
theorem bn(n:Str){v:Value}(h0:nsIn (KF w.params) mainGlobals n=some none)(h1:(n==("__name__":Str))=false)(h2:bootBuiltins n=some v):mg n=none/\mb n=some v :=
 ⟨m.g n none h0,(m.b n (λe=>by replace h1:=e▸h1;trivial)).trans h2⟩
theorem bs:Bs (cx w mg mb) where
 range:=bn m _ (by kernel_rfl) (by kernel_rfl) (by kernel_rfl)
 len:=bn m _ (by kernel_rfl) (by kernel_rfl) (by kernel_rfl)
 sum:=bn m _ (by kernel_rfl) (by kernel_rfl) (by kernel_rfl)
 max:=bn m _ (by kernel_rfl) (by kernel_rfl) (by kernel_rfl)
 min:=bn m _ (by kernel_rfl) (by kernel_rfl) (by kernel_rfl)
 sorted:=bn m _ (by kernel_rfl) (by kernel_rfl) (by kernel_rfl)
 type:=bn m _ (by kernel_rfl) (by kernel_rfl) (by kernel_rfl)
 str:=bn m _ (by kernel_rfl) (by kernel_rfl) (by kernel_rfl)
theorem gn(n:Str){v:Value}(h:nsIn (KF w.params) mainGlobals n=some (some v)):mg n=some v:=m.g n (some v) h
theorem ZV:PO (cx w mg mb) 109 101 86 93 pl YR 395 where
 F:=XL w mg mb
 hF:=λ_=>rfl
 gF:=gn m _ (by kernel_rfl)
 FA:=XM w mg mb
 hA:=λ_ _=>rfl
 gA:=gn m _ (by kernel_rfl)
 FU:=ZR w mg mb
 gB:=gn m _ (by kernel_rfl)
 FT:=ZS w mg mb
 gT:=gn m _ (by kernel_rfl)
 bt:=bn m _ (by kernel_rfl) (by kernel_rfl) (by kernel_rfl)
 bo:=bn m _ (by kernel_rfl) (by kernel_rfl) (by kernel_rfl)
 hg:=gn m _ (by kernel_rfl)
theorem bk:CF (cx w mg mb) 4 o4 where
 hb:=gn m _ (by kernel_rfl)
 ne:=∅
 k:=by kernel_rfl
 c:=rfl
 d:=rfl
 p:=rfl
theorem tk:tT (cx w mg mb) 54 843 72 79 where
 FW:=WX w mg mb
 gW:=gn m _ (by kernel_rfl)
 FL:=ZP w mg mb
 FH:=ZQ w mg mb
 gL:=gn m _ (by kernel_rfl)
 gH:=gn m _ (by kernel_rfl)
 gV:=bn m _ (by kernel_rfl) (by kernel_rfl) (by kernel_rfl)
 clS:=⟨λM h X=>Looks.of_peek X (by kernel_rfl),λM h X=>Looks.of_peek X (by kernel_rfl)⟩
 strS:=LD (by kernel_rfl) (by kernel_rfl)
 ss:=by kernel_rfl
 vs:=by kernel_rfl
end
noncomputable def kS(e:DictEntry):Bool:=match e.key with
 | .str _ _=>true
 | _=>false
theorem SJ{K:Frag}{A:Addr}{o:Obj}{es:Array DictEntry}{ep:Nat}(hl:K.lookup A=some o)(hd:o.data=.dict es ep)(hk:es.all kS=true):∀h,K.In h->h.Ns A (nsFind es):=λh X =>
 ⟨o,es,ep,X _ _ hl,hd,(λe he=>by
  have:=Array.all_eq_true_iff_forall_mem.mp hk e he
  unfold kS at this
  cases q:e.key with
  | str x t=>exact⟨x,t,rfl⟩
  | _=>replace this:=q▸this;injection this),λ_=>rfl⟩
section
variable{w:World}{mg mb:Str->Option Value}(m:Nm w mg mb)
theorem UC:xF (cx w mg mb) 54 [.type "ValueError",.type "Exception",.type "BaseException",.type "object"] "ValueError.__new__" :=
 ⟨"StatisticsError","StatisticsError",53,[.type "ValueError"],_,_,_,_,_,_,_,_,_,_,_,(by kernel_rfl:(KF w.params).lookup 54=some (excClassObj "StatisticsError" "StatisticsError" 54 53 [.type "ValueError"] [.type "ValueError",.type "Exception",.type "BaseException",.type "object"] true [] [] false none none (some (R 45)) none (some (S "StatisticsError" 333)) (some (S "StatisticsError" 341)) (some (.bool true)) "ValueError.__new__")),
  _,SJ (o:=E1 w.params [("__module__",340,S "cpy313.statistics" 331),("__firstlineno__",344,.int (7) 343),("__static_attributes__",345,R 52),("__weakref__",347,R 55),("__doc__",348,N)] 3) (by kernel_rfl) rfl (by kernel_rfl),by kernel_rfl⟩
theorem SK(h:Heap)(X:(KF w.params).In h):pR h 809 :=
 ⟨114,X _ _ (by kernel_rfl),⟨113,S "[^\\w@%+=:,./-]" 423,.int 256 460,N,N,_,_,X _ _ (by kernel_rfl:(KF w.params).lookup 114=some {cls:=T "re.Pattern",data:=.fields #[S "[^\\w@%+=:,./-]" 423,.int (256) 460,I 0,N,N,R 113,I 0]}),rfl,X _ _ (by kernel_rfl:(KF w.params).lookup 113=some {cls:=.type "tuple",data:=.seq (yN.map λ(k:Nat)=>Value.int (k:Int) 0) 0}),0,rfl⟩,_,X _ _ (by kernel_rfl:(KF w.params).lookup 114=some {cls:=T "re.Pattern",data:=.fields #[S "[^\\w@%+=:,./-]" 423,.int (256) 460,I 0,N,N,R 113,I 0]}),rfl⟩
theorem XO:GU (KF w.params) where
 base:=λM h X=>Looks.of_peek X (by kernel_rfl)
 mb:=λM h X=>Looks.of_peek X (by kernel_rfl)
 k1:=⟨R 418,S "StringIO" 832,S "StringIO" 840,661,by kernel_rfl⟩
theorem XQ:oC (cx w mg mb) 662 "_StringIO__translated" 439 (fH 24 2) ["self","s"]:=⟨XB w mg mb,by kernel_rfl,by kernel_rfl⟩
theorem XR:oC (cx w mg mb) 662 "_StringIO__check" 446 (fH 24 3) ["self"]:=⟨XC w mg mb,by kernel_rfl,by kernel_rfl⟩
theorem XS:oC (cx w mg mb) 662 "read" 608 (fH 24 25) ["self","size"]:=⟨XD w mg mb,by kernel_rfl,by kernel_rfl⟩
theorem XT:oC (cx w mg mb) 797 "get_token" 758 (fH 34 5) ["self"]:=⟨XF w mg mb,by kernel_rfl,by kernel_rfl⟩
theorem XU:oC (cx w mg mb) 797 "read_token" 765 (fH 34 6) ["self"]:=⟨XG w mg mb,by kernel_rfl,by kernel_rfl⟩
theorem XV(m:Nm w mg mb):RJ (cx w mg mb) (f1 (fH 20 1) "IOBase.__new__" "io" 462 N N 154) (xR (fH 20 1) "IOBase.__new__" "io" 462 N N 154) where
 cls:=XO
 F:=VS w mg mb
 bind:=λv A s0 Q E X h=>by
  have e:bindArgs (xR (fH 20 1) "IOBase.__new__" "io" 462 N N 154) ⟨[.ref 662,v],[]⟩=(do
   let a ←newTuple [v]
   let d ←alloc {cls:=.type "dict",data:=.dict #[]}
   pure [(("cls":Str),.ref 662),(("args":Str),a),(("kwargs":Str),.ref d)]):=by kernel_rfl
  rwa[e]
  refine wpAny_bind (wpAny_newTuple ?_)
  refine wpAny_bind (wpAny_alloc ?_)
  refine wpAny_pure (h _ _ _ ⟨_,_,rfl,λb o e=>?_⟩)
  exact Heap.get?_push_of_some _ (Heap.get?_push_of_some _ e)
 kb:=⟨{cls:=T "type",data:=.cls {name:=Str.ofString "BytesIO",bases:=[R 173],mro:=[R 415,R 173,R 158,T "object"],ns:=414,qualname:=Str.ofString "BytesIO"},slots:=#[some (R 188),none,some (S "BytesIO" 570),some (S "BytesIO" 578),some N,some (.bool true)]},by kernel_rfl⟩
 gb:=gn m _ (by kernel_rfl)
 gs:=gn m _ (by kernel_rfl)
 go:=bn m _ (by kernel_rfl) (by kernel_rfl) (by kernel_rfl)
 fc:=by kernel_rfl
theorem XW(m:Nm w mg mb):uI (cx w mg mb) (f1 (fH 20 1) "IOBase.__new__" "io" 462 N N 154) (xR (fH 20 1) "IOBase.__new__" "io" 462 N N 154) 432 439 (f1 (fH 24 1) "StringIO.__init__" "io" 462 (R 425) N 431) (xR (fH 24 1) "StringIO.__init__" "io" 462 (R 425) N 431) [] where
 nw:=XV m
 rd:=by kernel_rfl
 fn:=by kernel_rfl
 sm:=by kernel_rfl
 cl:=by kernel_rfl
 ty:=by kernel_rfl
 mr:=by kernel_rfl
 fi:=by kernel_rfl
 ti:=by kernel_rfl
 F:=VT w mg mb
 bind:=λx v A s0 Q E X h=>kp_binds X (binds:=[("self",x),("initial_value",v),("newline",.str "\n" 847)]) (λS=>by kernel_rfl) _ _ _ _ (h 847)
 ck:=YS
 fs:=YU
 tr:=XQ
 b:=bs m
theorem UD(m:Nm w mg mb):vL (cx w mg mb) (f1 (fH 20 1) "IOBase.__new__" "io" 462 N N 154) (xR (fH 20 1) "IOBase.__new__" "io" 462 N N 154) 432 439 (f1 (fH 24 1) "StringIO.__init__" "io" 462 (R 425) N 431) (xR (fH 24 1) "StringIO.__init__" "io" 462 (R 425) N 431) [] where
 s:=XW m
 ks:=by kernel_rfl
 cl:=XN
 fl:=YT
 gd:=bn m _ (by kernel_rfl) (by kernel_rfl) (by kernel_rfl)
 gq:=gn m _ (by kernel_rfl)
 gi:=bn m _ (by kernel_rfl) (by kernel_rfl) (by kernel_rfl)
theorem SL(m:Nm w mg mb):oZ (cx w mg mb) (f1 (fH 20 1) "IOBase.__new__" "io" 462 N N 154) (xR (fH 20 1) "IOBase.__new__" "io" 462 N N 154) 432 439 (f1 (fH 24 1) "StringIO.__init__" "io" 462 (R 425) N 431) (xR (fH 24 1) "StringIO.__init__" "io" 462 (R 425) N 431) [] 721 (f1 (fH 34 0) "shlex.__init__" "cpy313.shlex" 1178 (R 714) N 720) (xR (fH 34 0) "shlex.__init__" "cpy313.shlex" 1178 (R 714) N 720) where
 k0:=UD m
 mi:=by kernel_rfl
 mr:=by kernel_rfl
 fi:=by kernel_rfl
 tf:=by kernel_rfl
 F:=VX w mg mb
 bind:=λx v u A s0 Q E X h=>kp_binds X (binds:=[("self",x),("instream",v),("infile",.none),("posix",.bool true),("punctuation_chars",u)]) (λS=>by kernel_rfl) _ _ _ _ h
theorem XX{a:gU}(h1:a.CL=797)(h2:a.CS=662)(ne:a.dL≠a.dS):qQ (cx w mg mb) a where
 cl:=by rwa[h1];exact XN
 cs:=by rwa[h2];exact YS
 fl:=by rwa[h1];exact YT
 fs:=by rwa[h2];exact YU
 dd:=ne
 ne:=by rwa[h1,h2];decide
theorem ZW(m:Nm w mg mb){a:gU}(h1:a.CL=797)(h2:a.CS=662)(ne:a.dL≠a.dS):ND (cx w mg mb) a 608 446 128 729 728 765 758 [N,N,N,S "punctuation_chars" 1211,.bool false] where
 r:={
  s:={
   k:=XX h1 h2 ne
   rd:=by rwa[h2];exact XS
   ck:=by rwa[h2];exact XR
   ix:=WT w mg mb
   gi:=gn m _ (by kernel_rfl)
   b:=bs m
   bi:=bn m _ (by kernel_rfl) (by kernel_rfl) (by kernel_rfl)}
  pa:=by rwa[h1];kernel_rfl
  pn:=by kernel_rfl
  pt:=by kernel_rfl
  pr:=by kernel_rfl
  pg:=XE w mg mb}
 rt:=by rwa[h1];exact XU
 gt:=by rwa[h1];exact XT
theorem SM(m:Nm w mg mb){a:gU}(h1:a.CL=797)(h2:a.CS=662):fM (cx w mg mb) a 794 787 838 65 54 4 o4 where
 cl:=by rwa[h1];exact XN
 nx:=by rwa[h1];kernel_rfl
 nf:=by kernel_rfl
 it:=by rwa[h1];kernel_rfl
 itf:=by kernel_rfl
 iF:=XH w mg mb
 sF:=XJ w mg mb
 gS:=gn m _ (by kernel_rfl)
 nF:=ZU w mg mb
 gN:=gn m _ (by kernel_rfl)
 oe:=UC
 gE:=gn m _ (by kernel_rfl)
 se:=by kernel_rfl
 bk:=bk m
 b:=bs m
end
end Mine.L
end
section
open PySem PySem.W PyProof.Rows PySem.Calls
namespace Mine.L
noncomputable abbrev pw:Program:=PySem.Challenge.pw_oy0348_01
noncomputable def ev:List Obj->List Obj
 | a::_::r=>a::ev r
 | l=>l
noncomputable def od:List Obj->List Obj
 | _::b::r=>b::od r
 | _=>[]
noncomputable def bt:Nat->List Obj->BT
 | 0,_=>.nil
 | _,[]=>.nil
 | f+1,x::r=>.node x (bt f (ev r)) (bt f (od r))
noncomputable def L0(P:Params):List Obj:=(((LF P).take 34).set 2 (O2 P 13)).set 3 (O3 P (S "__main__" 164) 10)
noncomputable def Lz(P:Params):List Obj:=((L0 P).set 11 (VN P)).set 29 (VO P)
noncomputable def La(P:Params):List Obj:=((((LF P).take 38).set 2 (O2 P 13)).set 3 (O3 P (S "__main__" 164) 10)).set 35 (SU 0)
noncomputable def Lb(P:Params):List Obj:=((((LF P).take 129).set 2 (O2 P 13)).set 3 (O3 P (S "io" 462) 23)).set 35 (SU 33)
noncomputable def Lc(P:Params):List Obj:=((((LF P).take 418).set 3 (O3 P (S "io" 462) 28)).set 35 (SU 48)).set 185 (TX P)
noncomputable def Ld(P:Params):List Obj:=(((LF P).take 665).set 3 (O3 P (S "io" 462) 29)).set 35 (SU 51)
noncomputable def Le(P:Params):List Obj:=(((LF P).take 809).set 3 (O3 P (S "cpy313.shlex" 1178) 37)).set 35 (SU 75)
noncomputable def H0(P:Params):Heap:=⟨(L0 P).toArray,{}⟩
noncomputable def Ha(P:Params):Heap:=⟨(La P).toArray,{}⟩
noncomputable def H1(P:Params):Heap:=⟨(LF P).toArray,{}⟩
noncomputable def TS(f:Params->List Obj)(n k:Nat)(w:World)(os:OsState):SharedT:=⟨bt 12 (f w.params),n,{},#[],{},k,os⟩
noncomputable def env:Env:={scope:=pw.main.scope,locals:=mainNs,globals:=mainNs,cells:=[],code:=.ref 36,frame:=some 37}
noncomputable def bE:List Stmt:=behindTheImports pw
noncomputable def cE:Code:=.body bE env
noncomputable abbrev q0:Pos:=⟨0,0,0,0⟩
noncomputable abbrev NN:Nat:=11338
noncomputable def EL(st:SharedT->Thread->Option (SharedT×Thread)):Nat->SharedT->Thread->Option SharedT
 | 0,_,_=>none
 | n+1,s,t=>match t.atExitBegin with
  | some []=>some s
  | some (_::_)=>none
  | none=>match st s t with
   | some (s',t')=>EL st n s' t'
   | none=>none
theorem EM{tb:String->Option Builtin}{p:Program}{w:World}:∀{n:Nat} {s s':SharedT} {t:Thread},EL (stepT (denote tb) p w) n s t=some s'->importEnds tb p w n s.abs t=some s'.abs
 | 0,_,_,_,h=>by injection h
 | n+1,s,s',t,h=>by
  unfold EL at h
  unfold importEnds
  cases he:t.atExitBegin with
  | some x =>
   replace h:=he▸h
   cases x with
   | nil=>cases h;rfl
   | cons _ _=>injection h
  | none =>
   replace h:=he▸h
   cases hs:stepT (denote tb) p w s t with
   | none=>replace h:=hs▸h;injection h
   | some r=>obtain⟨s₂,t₂⟩:=r;replace h:=hs▸h;dsimp only;rwa[stepT_spec hs];exact EM h
theorem UE:∀(w:World) (os:OsState),EL (stepT (denote treeTable) (opening pw) w) 1090 ⟨.nil,0,{},#[],{},1,os⟩ (start (opening pw)).2=some (TS Lz 34 318 w os):=by
 rw[Fast.te10156331382660048174,Fast.te11892475500146522536,Fast.te14364793385576792824,Fast.te1435165496053646825]
 intro w os
 kernel_rfl
theorem UF(w:World):importEnds treeTable (opening pw) w 1090 (start (opening pw)).1 (start (opening pw)).2=some ⟨absHeap (bt 12 (Lz w.params)) 34 {},#[],{},318,(start (opening pw)).1.os⟩:=by
 have h:=EM (UE w (start (opening pw)).1.os)
 have e:(start (opening pw)).1=SharedT.abs ⟨.nil,0,{},#[],{},1,(start (opening pw)).1.os⟩:=by kernel_rfl
 replace h:=e.symm▸h
 exact h
theorem UG:∀w:World,(fencedOpening treeTable pw w NN).map (λs=>(s.heap,s.gens,s.drawn,s.toks))=some (H0 w.params,#[],{},318):=by
 refine open_cut (M:=1090) (He:=λP=>absHeap (bt 12 (Lz P)) 34 {}) (ge:=#[]) (de:={}) (ke:=318) (λw=>?_) ∅ (λw=>?_)
 . exact UF w
 . kernel_rfl
theorem XY:∀w:World,((H0 w.params).isNs mainGlobals&&(#[]:Array GenState).size==0,(H0 w.params).objs.size,(H0 w.params).nsMap mainGlobals "__annotations__")=(true,34,some (.ref 6)):=by
 intro w
 kernel_rfl
theorem mA:∀(w:World) (os:OsState),topGo treeTable pw w 34 (some (.ref 6)) 12 ⟨H0 w.params,#[],{},318,os⟩ (topStub pw)=some (⟨Ha w.params,#[],{},324,os⟩,⟨denote treeTable cE,cE,q0,[topFrame q0]⟩):=by
 intro w os
 kernel_rfl
theorem UH:∀(w:World) (os:OsState),segRun treeTable pw w 34 (some (.ref 6)) 1 1 ⟨Ha w.params,#[],{},324,os⟩ (blockOf bE env cE q0 [topFrame q0])=some (.next,(TS La 38 324 w os).abs,cE,q0):=by
 intro w os
 kernel_rfl
noncomputable abbrev r1:Pos:=⟨79,0,85,12⟩
noncomputable abbrev q1:Pos:=⟨99,0,268,17⟩
noncomputable abbrev r2:Pos:=⟨269,0,473,17⟩
noncomputable abbrev r3:Pos:=⟨791,0,792,58⟩
noncomputable abbrev q2:Pos:=⟨858,0,862,116⟩
theorem XZ:∀(w:World) (os:OsState),segRunT treeTable pw w 34 (some (.ref 6)) 1 1000 (TS La 38 324 w os) (piecesOf (bE.take 17) env cE q0 [topFrame q0])=some (.next,TS Lb 129 480 w os,cE,r1):=by
 rw[Fast.te10110043849684766642,Fast.te14364793385576792824]
 intro w os
 kernel_rfl
theorem YA:∀(w:World) (os:OsState),segRunT treeTable pw w 34 (some (.ref 6)) 1 2900 (TS Lb 129 480 w os) (piecesOf ((bE.drop 17).take 5) env cE r1 [topFrame q0])=some (.next,TS Lc 418 832 w os,cE,q1):=by
 rw[Fast.te10110043849684766642,Fast.te14364793385576792824]
 intro w os
 kernel_rfl
theorem YB:∀(w:World) (os:OsState),segRunT treeTable pw w 34 (some (.ref 6)) 1 2900 (TS Lc 418 832 w os) (piecesOf ((bE.drop 22).take 1) env cE q1 [topFrame q0])=some (.next,TS Ld 665 1119 w os,cE,r2):=by
 rw[Fast.te10110043849684766642,Fast.te14364793385576792824]
 intro w os
 kernel_rfl
theorem YC:∀(w:World) (os:OsState),segRunT treeTable pw w 34 (some (.ref 6)) 1 2900 (TS Ld 665 1119 w os) (piecesOf ((bE.drop 23).take 11) env cE r2 [topFrame q0])=some (.next,TS Le 809 1326 w os,cE,r3):=by
 rw[Fast.te10110043849684766642,Fast.te14364793385576792824]
 intro w os
 kernel_rfl
theorem YD:∀(w:World) (os:OsState),segRunT treeTable pw w 34 (some (.ref 6)) 1 1500 (TS Le 809 1326 w os) (piecesOf (bE.drop 34) env cE r3 [topFrame q0])=some (.next,TS LF 873 1411 w os,cE,q2):=by
 rw[Fast.te10110043849684766642,Fast.te14364793385576792824]
 intro w os
 kernel_rfl
theorem kJ:∀(w:World) (os:OsState),topRun treeTable pw w 34 (some (.ref 6)) 2 (TS LF 873 1411 w os).abs ⟨doneF .next,cE,q2,[topFrame q0]⟩=some ⟨H1 w.params,#[],{},1411,os⟩:=by
 intro w os
 kernel_rfl
theorem DB{α:Type}(l:List α)(a b:Nat):(l.drop a).take b++l.drop (a+b)=l.drop a:=by
 rw[←List.drop_drop,List.take_append_drop]
theorem ZX(w:World)(os:OsState):topRun treeTable pw w 34 (some (.ref 6)) (12+(1+(1000+(2900+(2900+(2900+(1500+2))))))) ⟨H0 w.params,#[],{},318,os⟩ (topStub pw)=some ⟨H1 w.params,#[],{},1411,os⟩:=by
 refine go_top (mA w os) (piece_block (UH w os) ?_)
 have k:=piece_app (segRun_of (XZ w os)) (piece_app (segRun_of (YA w os)) (piece_app (segRun_of (YB w os)) (piece_app (segRun_of (YC w os)) (piece_app (rest:=[]) (segRun_of (YD w os)) (piece_nil (kJ w os))))))
 rw[List.append_nil,DB bE 23 11,DB bE 22 1,DB bE 17 5,List.take_append_drop] at k
 exact k
noncomputable def qv:Program:=view pw [0,1,49]
noncomputable def lo:List Str:=(["_wall","StatisticsError","_fail_neg","median_low","median_high","_buffer","_truth","_B64","b2a_base64","b64encode","_twin_re_1","_whence","_index","UnsupportedOperation","IOBase","BufferedIOBase","TextIOBase","BytesIO","StringIO","_kind","_fspath","_check_arg_types","isabs","join","join_path","dirname","shlex","join_shlex","_find_unsafe","quote","_law_octets","_law_word","_law_quoted","_law_step","_law_worth","_law_trees","_law_grown","_law_parties","_law_due"]:List String).map Str.ofString
abbrev IG:=PySem.Challenge.rw_oy0348_01
noncomputable abbrev Xt:Shared->Bool:=λs=>recOk (RowW.records IG.row.toRowW) s
theorem YE:∀w:World,(staticsOk (importedModules pw.main.body) (H0 w.params) (H1 w.params)&&namesBound pw (H1 w.params)&&laidKept (H0 w.params) (H1 w.params))=true:=by
 intro w
 kernel_rfl
theorem UI:∀(w:World) (os:OsState),openSeen qv lo (importedModules pw.main.body) Xt true ⟨H1 w.params,#[],{},1411,os⟩=openGood qv lo:=by
 intro w os
 kernel_rfl
theorem EQ:LeftO pw qv lo Xt (λs=>s.heap) (λw=>H1 w.params) NN:=by
 refine LeftO.of_pieces UG XY ZX ∅ λw=>funext λos=>?_
 have h1:=YE w
 simp only[Bool.and_eq_true] at h1
 exact Prod.ext (by
  show (_&&_&&gensDone ⟨H1 w.params,#[],{},1411,os⟩&&_)=true
  rwa[h1.1.1,h1.1.2,h1.2];rfl) (Prod.ext (UI w os) rfl)
theorem a1:sreFenced pw.main=true:=by rw[Fast.te11788848310118352699];kernel_rfl
theorem a2:((moduleNames pw.main.body).isEmpty||lookedIntoSs (moduleNames pw.main.body) pw.main.body)=true:=by rw[Fast.te9807087744658564304,Fast.te12862048085361865435];kernel_rfl
theorem a3:namesResolve pw=true:=by rw[Fast.te8377067652309620493];kernel_rfl
theorem a4:pw.boundNames.all (λn=>!worldNames.contains n)=true:=by kernel_rfl
noncomputable abbrev YF:Look:={strict:=!(importedModules pw.main.body).all cThrough.contains,foot:=none,bare:=(["vars","dir","locals"]:List Str).filter (readsOut pw pw.main.body)}
noncomputable abbrev YG:Look:={strict:=false,foot:=none}
theorem ZY:(!(importedModules pw.main.body).all cThrough.contains)=false:=by kernel_rfl
theorem ZZ:readsOut pw pw.main.body "vars"=false:=by rw[Fast.te13343964577679436407];kernel_rfl
theorem Aa:readsOut pw pw.main.body "dir"=false:=by rw[Fast.te13343964577679436407];kernel_rfl
theorem Ab:readsOut pw pw.main.body "locals"=false:=by rw[Fast.te13343964577679436407];kernel_rfl
theorem Ac:YF=YG:=by
 unfold YF
 rw[ZY,List.filter_cons_of_neg (by rw[ZZ];nofun),List.filter_cons_of_neg (by rw[Aa];nofun),List.filter_cons_of_neg (by rw[Ab];nofun)]
 rfl
theorem AI{lk:Look}:∀{a b:List Stmt},noRoadLSs lk a=true->noRoadLSs lk b=true->noRoadLSs lk (a++b)=true
 | [],_,_,k=>k
 | s::r,b,h,k=>by
  have h2:(noRoadLS lk s&&noRoadLSs lk r)=true:=h
  rw[Bool.and_eq_true] at h2
  show (noRoadLS lk s&&noRoadLSs lk (r++b))=true
  rw[h2.1,AI h2.2 k]
  rfl
theorem Ad:noRoadLSs YG (pw.main.body.take 24)=true:=by rw[Fast.te8326940854005059898];kernel_rfl
theorem Ae:noRoadLSs YG (pw.main.body.drop 24)=true:=by rw[Fast.te8326940854005059898];kernel_rfl
theorem a5:noRoadLSs YF pw.main.body=true:=by
 have h:=AI Ad Ae
 rw[List.take_append_drop,←Ac] at h
 exact h
theorem a6:namesMeet pw pw.main.body (λ_ n=>attrL n)=true:=by rw[Fast.te17119622794617984870,Fast.te17868728402115742887];kernel_rfl
theorem b1:looksOpen pw=true:=by
 unfold looksOpen
 exact look_both (look_both (look_both (look_both (look_both a1 a2) a3) a4) a5) a6
theorem b2:IG.row.partSaid=true:=by
 unfold OpenRow.partSaid
 simp only[Bool.and_eq_true]
 repeat' apply And.intro
 . exact b1
 all_goals decide +kernel
theorem b3:IG.row.wellSaid=true:=by
 unfold OpenRow.wellSaid
 simp only[Bool.and_eq_true]
 repeat' apply And.intro
 . exact b2
 all_goals decide +kernel
theorem UJ:IG.wellSaid=true:=by
 unfold OpenLaw.wellSaid
 simp only[Bool.and_eq_true]
 repeat' apply And.intro
 . exact b3
 all_goals decide +kernel
theorem Af:(chainsOk qv&&opensWell IG.row.prog&&(frees IG.row.toRowW&&IG.row.within.isEmpty))=true:=by
 simp only[Bool.and_eq_true]
 repeat' apply And.intro
 all_goals decide +kernel
noncomputable abbrev dr:DefRec:=⟨MT (aY 49),MS (aY 49),aX (aY 49),aD (aY 49),q2⟩
theorem SN(call:WalkO qv lo (λ_ _=>True) (λw h=>∀b o,(H1 w.params).get? b=some o->h.get? b=some o) IG.row.toRowW dr [] λf vs=>PySem.call f vs):IG.Holds :=
 holds_law UJ λsaid=>holds_open (r:=IG.row) (q:=qv) (loose:=lo) (Xt:=Xt) (XP:=λ_ _=>True) (Yf:=λs=>s.heap) (Ya:=λw=>H1 w.params) (YP:=λw h=>∀b o,(H1 w.params).get? b=some o->h.get? b=some o) (N:=NN) EQ
  (λw s e b o h=>by rwa[e];exact h) (λw h h' k x b o e=>x b o (k b o e)) (λ_ _=>trivial) (λ_ _ _ _ _=>trivial) (by kernel_rfl) (by kernel_rfl) (by kernel_rfl) (λs e=>recFacts_of e) rfl said Af ⟨rfl,rfl,rfl,rfl,rfl,by decide +kernel⟩ (by w_witness2) call
end Mine.L
end
section
open PySem PySem.W PyProof.Rows PySem.Calls Builtin Builtin.ObjectAttr
namespace Mine.L
noncomputable def YH(P:Params)(h:Heap)(v:Value):WData->Prop
 | .int i=>∃t,v=.int i t
 | .list xs=>∃a vs,v=.ref a/\h.get? a=some {cls:=.type "list",data:=.seq (List.toArray vs)}/\WellAll P h vs xs
 | _=>True
theorem QH{P:Params}{h:Heap}{v:Value}{d:WData}(x:Well P h v d):YH P h v d:=by
 cases x with
 | int i t=>exact⟨t,rfl⟩
 | list e r=>exact⟨_,_,rfl,e,r⟩
 | _=>trivial
theorem HY{P:Params}{h:Heap}(xs:List Int):∀{vs:List Value},WellAll P h vs (ofPys (xs.map PyData.int))->dI (λ_=>False) h vs (xs.map D.int):=by
 induction xs with
 | nil=>exact λ{vs} x=>(show ∀ds,WellAll P h vs ds->ds=[]->dI (λ_=>False) h vs [] from λds x=>by cases x with
  | nil=>exact λ_=>.nil
  | cons=>exact nofun) _ x rfl
 | cons i xs ih =>
  intro vs x
  refine iG (wellAll_cons_inv x) ?_
  rintro v ws rfl a b
  refine aU (show ∃t,v=.int i t from QH a) ?_
  rintro t rfl
  exact .cons (.int i t) (ih b)
theorem HZ{P:Params}{h:Heap}{v:Value}{xs:List Int}(x:Well P h v (ofPy (.list (xs.map PyData.int)))):Rd (λ_=>False) h v (.list (xs.map D.int)):=by
 refine iG (show ∃a vs,v=.ref a/\h.get? a=some {cls:=.type "list",data:=.seq (List.toArray vs)}/\WellAll P h vs _ from QH x) ?_
 rintro a vs rfl e r
 exact .list (λq=>q) ⟨_,e⟩ (HY _ r)
noncomputable def DC(h:Heap)(p q:Addr):Heap:=(h.update p λ_=>{cls:=.none,data:=.freed}).update q λ_=>{cls:=.none,data:=.freed}
theorem AJ(h:Heap)(p:Addr):(h.update p λ_=>{cls:=.none,data:=.freed}).get? p=none:=by
 unfold Heap.get? Heap.update
 rwa[Array.getElem?_modify,if_pos rfl]
 cases h.objs[p]?<;>rfl
theorem qB{h:Heap}{p q:Addr}{b:Addr}(h1:b≠p)(h2:b≠q):(DC h p q).get? b=h.get? b:=by
 unfold DC
 rwa[Heap.get?_update_ne _ _ _ _ h2,Heap.get?_update_ne _ _ _ _ h1];rfl
theorem MZ{h:Heap}{p q:Addr}(ne:p≠q):(DC h p q).get? p=none:=by
 unfold DC
 rwa[Heap.get?_update_ne _ _ _ _ ne,AJ ..];rfl
theorem NA{h:Heap}{p q:Addr}:(DC h p q).get? q=none:=AJ _ _
theorem SO(P:Params):iE (H1 P) 807 803 #[]:=by
 have e1:(H1 P).get? 807=some (cd [S "join" 1319,S "join" 1320,S "/claim/cut.py" 1321,I 791,I 1,I 0,I 0,I 3,R 802,.bool true,I 318,R 803,N,R 804,R 805,R 806,I 1323,I 791,S "/claim/cut.py" 1324]):=by kernel_rfl
 have e2:(H1 P).get? 803=some p0:=by kernel_rfl
 exact⟨⟨_,_,_,_,_,_,_,_,_,_,e1,rfl,rfl,rfl,rfl,rfl,rfl,e2,rfl,by trivial,by decide⟩,⟨_,_,e1,rfl,rfl,rfl⟩,e2⟩
theorem SP(P:Params):iE (H1 P) 849 845 #[]:=by
 have e1:(H1 P).get? 849=some (cd [S "_law_trees" 1369,S "_law_trees" 1370,S "/claim/cut.py" 1371,I 820,I 1,I 0,I 0,I 3,R 844,.bool true,I 318,R 845,N,R 846,R 847,R 848,I 1379,I 820,S "/claim/cut.py" 1380]):=by kernel_rfl
 have e2:(H1 P).get? 845=some p0:=by kernel_rfl
 exact⟨⟨_,_,_,_,_,_,_,_,_,_,e1,rfl,rfl,rfl,rfl,rfl,rfl,e2,rfl,by trivial,by decide⟩,⟨_,_,e1,rfl,rfl,rfl⟩,e2⟩
theorem NB:∀{l:List Obj} {i a:Nat} {o:Obj},(fr i l).lookup a=some o->a≠803/\a≠845
 | [],_,_,_,h=>by injection h
 | x::r,i,a,o,h=>by
  unfold fr at h
  cases q:Nat.beq i 803||Nat.beq i 845 with
  | true =>
   replace h:=q▸h
   exact NB h
  | false =>
   replace h:=q▸h
   dsimp only at h
   rw[List.lookup_cons] at h
   split at h
   . rename_i z
     have:a=i:=by simpa using z
     subst this
     rw[Bool.or_eq_false_iff] at q
     exact⟨Nat.ne_of_beq_eq_false q.1,Nat.ne_of_beq_eq_false q.2⟩
   . exact NB h
theorem xM{h:Heap}{a:Addr}{m:Str->Option Value}(x:h.Ns a m)(h1:a≠803)(h2:a≠845):(DC h 803 845).Ns a m :=
 let ⟨o,es,ep,e,r⟩:=x;⟨o,es,ep,(qB h1 h2).trans e,r⟩
theorem QI{h h':Heap}{c p:Addr}{ps:Array Value}{o:Obj}(k:iE h c p #[])(k':iE h' c p ps)(e:h.get? p=some o):asItWas h h' p o:=by
 have:=Option.some.inj (e.symm.trans k.2.2)
 subst this
 exact .inr (.inl ⟨k.2.isCodeTable,rfl,#[],ps,rfl,by rwa[k'.2.2];simp⟩)
theorem UL:WalkO qv lo (λ_ _=>True) (λw h=>∀b o,(H1 w.params).get? b=some o->h.get? b=some o) IG.row.toRowW dr [] λf vs=>PySem.call f vs:=by
 intro w s₀ s₁ mg mb G Y fa o pm cd doc dV kV ho hd hcd hD hmg hg args vals as hpre hlay hrd hwl hlo
 refine Ground.open G ?_
 intro T B D TE TW
 wrow_args hpre hlay hrd hwl hlo
 all_goals (refine enter_call ?_)
 rename_i xs hs hlay0 hL1 hr1 hl2 l1 l2 a vs l3 hL ra w1 r0 hI hr hc1 hc2
 have KX:(KF w.params).In s₁.heap:=TZ Y
 have m:Nm w mg mb:=⟨λn v h=>(by cases v with
  | none=>exact mg_none_of KX T.g h
  | some v=>exact mg_of KX T.g h),T.builtins⟩
 have efa:fa=872:=by
  have:mg "law"=some (.ref 872):=gn m _ (by kernel_rfl)
  have e:mg "law"=some (.ref fa):=hmg
  replace e:=this▸e
  injection e with e;injection e with e;exact e.symm
 subst efa
 have iJ:=(SO w.params).keeps Y
 have iX:=(SP w.params).keeps Y
 rcases aL T.nolimit with mc|nc|nk
 have Cl0:Cl (cx w mg mb) 204 callerA (DC s₁.heap 803 845) (λ_=>False) s₁:=by
  refine⟨⟨by decide,by decide,λ_=>rfl⟩,.inl rfl,λ_ q=>q.elim,⟨λb o e=>?_,xM T.g ∅ ∅,xM T.b ∅ ∅,⟨mc,xM nc ∅ ∅,nk⟩⟩,λb o e=>?_,λ_ q=>q.elim,trivial,λ_ q=>q.elim⟩
  . have e':(KF w.params).lookup b=some o:=e
    rcases bW (NB e') with n1|n2
    exact (qB n1 n2).trans (KX b o e')
  . by_cases n1:b=803
    . rw[n1,MZ ∅] at e;injection e
    . by_cases n2:b=845
      . replace e:=NA▸n2▸e;injection e
      . rwa[←e];exact (qB n1 n2).symm
 refine MR (C:=cx w mg mb) (WS w mg mb) (λv=>by kernel_rfl) rfl (bs m) (WU w mg mb) (gn m _ (by kernel_rfl)) (ZV m) (WF w mg mb) (gn m _ (by kernel_rfl)) (λv=>by kernel_rfl) (UB w mg mb) (gn m _ (by kernel_rfl))
  (λx hx=>JP (n:=4) (UB w mg mb) (gn m _ (by kernel_rfl)) (λh G=>SK h G.k) x hx) (bk m) (cJ:=807) (PJ:=803) rfl (WV w mg mb) (gn m _ (by kernel_rfl)) (WW w mg mb) (gn m _ (by kernel_rfl)) (SL m) (by kernel_rfl) (gn m _ (by kernel_rfl)) (WO w mg mb) (gn m _ (by kernel_rfl)) (λv=>by kernel_rfl)
  (λa e1 e2=>SM m e1 e2) (tk m) (λa e1 e2 ne=>ZW m e1 e2 ne) (XI w mg mb) (cX:=849) (PX:=845) rfl (XA w mg mb) (gn m _ (by kernel_rfl)) (WY w mg mb) (gn m _ (by kernel_rfl)) (WZ w mg mb) (gn m _ (by kernel_rfl)) (xs:=xs) (by omega) Cl0 rfl rfl ⟨_,iJ⟩ ⟨_,iX⟩ (MZ ∅) NA ?_ ∅ ∅ ∅ (HZ w1) λh' tk gs kk icJ icX hb=>?_
 . exact⟨_,(qB ∅ ∅).trans (KX 849 _ (by kernel_rfl:(KF w.params).lookup 849=some (L.cd [S "_law_trees" 1369,S "_law_trees" 1370,S "/claim/cut.py" 1371,I 820,I 1,I 0,I 0,I 3,R 844,.bool true,I 318,R 845,N,R 846,R 847,R 848,I 1379,I 820,S "/claim/cut.py" 1380])))⟩
 . obtain psJ|icJ:=aU icJ
   obtain psX|icX:=aU icX
   refine⟨.inl ⟨.bool true,.bool true,[],rfl,λcls=>?_,.bool true,?_,λ_=>⟨List.nodup_nil,λ_ q=>by cases q⟩⟩,⟨λb o e=>?_,λb o e=>?_⟩,rfl,hb λy hy=>by replace hy:=hg▸hy;simp at hy⟩
   . rfl
   . kernel_rfl
   . by_cases n1:b=803
     . subst n1;exact QI iJ icJ e
     . by_cases n2:b=845
       . subst n2;exact QI iX icX e
       . exact .inl (kk b o n1 n2 e)
   . by_cases n1:b=803
     . subst n1;exact⟨_,icJ.2.2⟩
     . by_cases n2:b=845
       . subst n2;exact⟨_,icX.2.2⟩
       . exact⟨o,kk b o n1 n2 e⟩
theorem Ag:IG.Holds:=SN UL
end Mine.L
end
theorem PySem.Challenge.cw_oy0348_01_holds : PySem.Challenge.rw_oy0348_01.Holds :=
  Mine.L.Ag
