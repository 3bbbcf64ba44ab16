import PyProof.Rows.All
import Wide.All
import OpenK.AllK
import Wide.FinOn
import PySem.Challenge.RW_dm0058_02
set_option Elab.async false
set_option linter.all false
set_option genSizeOf false set_option genInjectivity false set_option compiler.extract_closed false
namespace Mine
section
variable{T U V W:Sort _}{p:Prop}
section
variable{a b c d f g i j l m:Prop}
theorem ck(h:a∧b∧c∧d∧f∧g∧i∧j∧l∧m)(k:a→b→c→d→f→g→i→j→l→m→p):p:=by obtain⟨h1,h2,h3,h4,h5,h6,h7,h8,h9,ha⟩:=h;exact k h1 h2 h3 h4 h5 h6 h7 h8 h9 ha
theorem aU(h:a∧b)(k:a→b→p):p:=by obtain⟨h1,h2⟩:=h;exact k h1 h2
theorem aZ(h:a∧b∧c)(k:a→b→c→p):p:=by obtain⟨h1,h2,h3⟩:=h;exact k h1 h2 h3
theorem a7(h:a∧b∧c∧d)(k:a→b→c→d→p):p:=by obtain⟨h1,h2,h3,h4⟩:=h;exact k h1 h2 h3 h4
theorem bf(h:a∧b∧c∧d∧f)(k:a→b→c→d→f→p):p:=by obtain⟨h1,h2,h3,h4,h5⟩:=h;exact k h1 h2 h3 h4 h5
theorem bC(h:a∧b∧c∧d∧f∧g)(k:a→b→c→d→f→g→p):p:=by obtain⟨h1,h2,h3,h4,h5,h6⟩:=h;exact k h1 h2 h3 h4 h5 h6
theorem aP(h1:a)(h2:b)(h3:c):a∧b∧c:=⟨h1,h2,h3⟩
theorem aV(h1:a)(h2:b)(h3:c)(h4:d):a∧b∧c∧d:=⟨h1,h2,h3,h4⟩
end
section
variable{a b c d f g i:T→Prop}
theorem be(h:∃x,a x)(k:∀x,a x→p):p:=by obtain⟨x,h1⟩:=h;exact k x h1
theorem aK(h:∃x,a x∧b x)(k:∀x,a x→b x→p):p:=by obtain⟨x,h1,h2⟩:=h;exact k x h1 h2
theorem aS(h:∃x,a x∧b x∧c x)(k:∀x,a x→b x→c x→p):p:=by obtain⟨x,h1,h2,h3⟩:=h;exact k x h1 h2 h3
theorem a9(h:∃x,a x∧b x∧c x∧d x)(k:∀x,a x→b x→c x→d x→p):p:=by obtain⟨x,h1,h2,h3,h4⟩:=h;exact k x h1 h2 h3 h4
theorem bO(h:∃x,a x∧b x∧c x∧d x∧f x)(k:∀x,a x→b x→c x→d x→f x→p):p:=by obtain⟨x,h1,h2,h3,h4,h5⟩:=h;exact k x h1 h2 h3 h4 h5
theorem b9(h:∃x,a x∧b x∧c x∧d x∧f x∧g x)(k:∀x,a x→b x→c x→d x→f x→g x→p):p:=by obtain⟨x,h1,h2,h3,h4,h5,h6⟩:=h;exact k x h1 h2 h3 h4 h5 h6
theorem cn(h:∃x,a x∧b x∧c x∧d x∧f x∧g x∧i x)(k:∀x,a x→b x→c x→d x→f x→g x→i x→p):p:=by obtain⟨x,h1,h2,h3,h4,h5,h6,h7⟩:=h;exact k x h1 h2 h3 h4 h5 h6 h7
theorem aM(x:T)(h1:a x)(h2:b x):∃x,a x∧b x:=⟨x,h1,h2⟩
theorem aO(x:T)(h1:a x)(h2:b x)(h3:c x):∃x,a x∧b x∧c x:=⟨x,h1,h2,h3⟩
theorem aW(x:T)(h1:a x)(h2:b x)(h3:c x)(h4:d x):∃x,a x∧b x∧c x∧d x:=⟨x,h1,h2,h3,h4⟩
theorem bD(x:T)(h1:a x)(h2:b x)(h3:c x)(h4:d x)(h5:f x):∃x,a x∧b x∧c x∧d x∧f x:=⟨x,h1,h2,h3,h4,h5⟩
theorem cg(x:T)(h1:a x)(h2:b x)(h3:c x)(h4:d x)(h5:f x)(h6:g x):∃x,a x∧b x∧c x∧d x∧f x∧g x:=⟨x,h1,h2,h3,h4,h5,h6⟩
end
section
variable{a b c d f g i:T→U→Prop}
theorem bP(h:∃x y,a x y)(k:∀x y,a x y→p):p:=by obtain⟨x,y,h1⟩:=h;exact k x y h1
theorem aY(h:∃x y,a x y∧b x y)(k:∀x y,a x y→b x y→p):p:=by obtain⟨x,y,h1,h2⟩:=h;exact k x y h1 h2
theorem aN(h:∃x y,a x y∧b x y∧c x y)(k:∀x y,a x y→b x y→c x y→p):p:=by obtain⟨x,y,h1,h2,h3⟩:=h;exact k x y h1 h2 h3
theorem bG(h:∃x y,a x y∧b x y∧c x y∧d x y)(k:∀x y,a x y→b x y→c x y→d x y→p):p:=by obtain⟨x,y,h1,h2,h3,h4⟩:=h;exact k x y h1 h2 h3 h4
theorem br(h:∃x y,a x y∧b x y∧c x y∧d x y∧f x y)(k:∀x y,a x y→b x y→c x y→d x y→f x y→p):p:=by obtain⟨x,y,h1,h2,h3,h4,h5⟩:=h;exact k x y h1 h2 h3 h4 h5
theorem bR(h:∃x y,a x y∧b x y∧c x y∧d x y∧f x y∧g x y)(k:∀x y,a x y→b x y→c x y→d x y→f x y→g x y→p):p:=by obtain⟨x,y,h1,h2,h3,h4,h5,h6⟩:=h;exact k x y h1 h2 h3 h4 h5 h6
theorem cb(h:∃x y,a x y∧b x y∧c x y∧d x y∧f x y∧g x y∧i x y)(k:∀x y,a x y→b x y→c x y→d x y→f x y→g x y→i x y→p):p:=by obtain⟨x,y,h1,h2,h3,h4,h5,h6,h7⟩:=h;exact k x y h1 h2 h3 h4 h5 h6 h7
theorem a8(x:T)(y:U)(h1:a x y)(h2:b x y):∃x y,a x y∧b x y:=⟨x,y,h1,h2⟩
theorem aT(x:T)(y:U)(h1:a x y)(h2:b x y)(h3:c x y):∃x y,a x y∧b x y∧c x y:=⟨x,y,h1,h2,h3⟩
theorem aQ(x:T)(y:U)(h1:a x y)(h2:b x y)(h3:c x y)(h4:d x y):∃x y,a x y∧b x y∧c x y∧d x y:=⟨x,y,h1,h2,h3,h4⟩
theorem bB(x:T)(y:U)(h1:a x y)(h2:b x y)(h3:c x y)(h4:d x y)(h5:f x y):∃x y,a x y∧b x y∧c x y∧d x y∧f x y:=⟨x,y,h1,h2,h3,h4,h5⟩
theorem bT(x:T)(y:U)(h1:a x y)(h2:b x y)(h3:c x y)(h4:d x y)(h5:f x y)(h6:g x y):∃x y,a x y∧b x y∧c x y∧d x y∧f x y∧g x y:=⟨x,y,h1,h2,h3,h4,h5,h6⟩
theorem bU(x:T)(y:U)(h1:a x y)(h2:b x y)(h3:c x y)(h4:d x y)(h5:f x y)(h6:g x y)(h7:i x y):∃x y,a x y∧b x y∧c x y∧d x y∧f x y∧g x y∧i x y:=⟨x,y,h1,h2,h3,h4,h5,h6,h7⟩
end
section
variable{a b c d f g i j:T→U→V→Prop}
theorem bI(h:∃x y z,a x y z)(k:∀x y z,a x y z→p):p:=by obtain⟨x,y,z,h1⟩:=h;exact k x y z h1
theorem bE(h:∃x y z,a x y z∧b x y z)(k:∀x y z,a x y z→b x y z→p):p:=by obtain⟨x,y,z,h1,h2⟩:=h;exact k x y z h1 h2
theorem bX(h:∃x y z,a x y z∧b x y z∧c x y z)(k:∀x y z,a x y z→b x y z→c x y z→p):p:=by obtain⟨x,y,z,h1,h2,h3⟩:=h;exact k x y z h1 h2 h3
theorem bH(h:∃x y z,a x y z∧b x y z∧c x y z∧d x y z)(k:∀x y z,a x y z→b x y z→c x y z→d x y z→p):p:=by obtain⟨x,y,z,h1,h2,h3,h4⟩:=h;exact k x y z h1 h2 h3 h4
theorem bz(h:∃x y z,a x y z∧b x y z∧c x y z∧d x y z∧f x y z)(k:∀x y z,a x y z→b x y z→c x y z→d x y z→f x y z→p):p:=by obtain⟨x,y,z,h1,h2,h3,h4,h5⟩:=h;exact k x y z h1 h2 h3 h4 h5
theorem bo(h:∃x y z,a x y z∧b x y z∧c x y z∧d x y z∧f x y z∧g x y z)(k:∀x y z,a x y z→b x y z→c x y z→d x y z→f x y z→g x y z→p):p:=by obtain⟨x,y,z,h1,h2,h3,h4,h5,h6⟩:=h;exact k x y z h1 h2 h3 h4 h5 h6
theorem co(h:∃x y z,a x y z∧b x y z∧c x y z∧d x y z∧f x y z∧g x y z∧i x y z∧j x y z)(k:∀x y z,a x y z→b x y z→c x y z→d x y z→f x y z→g x y z→i x y z→j x y z→p):p:=by obtain⟨x,y,z,h1,h2,h3,h4,h5,h6,h7,h8⟩:=h;exact k x y z h1 h2 h3 h4 h5 h6 h7 h8
theorem bJ(x:T)(y:U)(z:V)(h1:a x y z)(h2:b x y z):∃x y z,a x y z∧b x y z:=⟨x,y,z,h1,h2⟩
theorem bh(x:T)(y:U)(z:V)(h1:a x y z)(h2:b x y z)(h3:c x y z)(h4:d x y z):∃x y z,a x y z∧b x y z∧c x y z∧d x y z:=⟨x,y,z,h1,h2,h3,h4⟩
theorem bk(x:T)(y:U)(z:V)(h1:a x y z)(h2:b x y z)(h3:c x y z)(h4:d x y z)(h5:f x y z):∃x y z,a x y z∧b x y z∧c x y z∧d x y z∧f x y z:=⟨x,y,z,h1,h2,h3,h4,h5⟩
theorem bx(x:T)(y:U)(z:V)(h1:a x y z)(h2:b x y z)(h3:c x y z)(h4:d x y z)(h5:f x y z)(h6:g x y z):∃x y z,a x y z∧b x y z∧c x y z∧d x y z∧f x y z∧g x y z:=⟨x,y,z,h1,h2,h3,h4,h5,h6⟩
end
section
variable{a b c d f g i j l m n:T→U→V→W→Prop}
theorem cp(h:∃x y z w,a x y z w∧b x y z w∧c x y z w∧d x y z w∧f x y z w∧g x y z w∧i x y z w∧j x y z w∧l x y z w∧m x y z w∧n x y z w)(k:∀x y z w,a x y z w→b x y z w→c x y z w→d x y z w→f x y z w→g x y z w→i x y z w→j x y z w→l x y z w→m x y z w→n x y z w→p):p:=by obtain⟨x,y,z,w,h1,h2,h3,h4,h5,h6,h7,h8,h9,ha,hb⟩:=h;exact k x y z w h1 h2 h3 h4 h5 h6 h7 h8 h9 ha hb
theorem bK(h:∃x y z w,a x y z w∧b x y z w)(k:∀x y z w,a x y z w→b x y z w→p):p:=by obtain⟨x,y,z,w,h1,h2⟩:=h;exact k x y z w h1 h2
theorem bZ(h:∃x y z w,a x y z w∧b x y z w∧c x y z w∧d x y z w)(k:∀x y z w,a x y z w→b x y z w→c x y z w→d x y z w→p):p:=by obtain⟨x,y,z,w,h1,h2,h3,h4⟩:=h;exact k x y z w h1 h2 h3 h4
theorem bW(h:∃x y z w,a x y z w∧b x y z w∧c x y z w∧d x y z w∧f x y z w)(k:∀x y z w,a x y z w→b x y z w→c x y z w→d x y z w→f x y z w→p):p:=by obtain⟨x,y,z,w,h1,h2,h3,h4,h5⟩:=h;exact k x y z w h1 h2 h3 h4 h5
theorem ce(h:∃x y z w,a x y z w∧b x y z w∧c x y z w∧d x y z w∧f x y z w∧g x y z w)(k:∀x y z w,a x y z w→b x y z w→c x y z w→d x y z w→f x y z w→g x y z w→p):p:=by obtain⟨x,y,z,w,h1,h2,h3,h4,h5,h6⟩:=h;exact k x y z w h1 h2 h3 h4 h5 h6
theorem bV(h:∃x y z w,a x y z w∧b x y z w∧c x y z w∧d x y z w∧f x y z w∧g x y z w∧i x y z w)(k:∀x y z w,a x y z w→b x y z w→c x y z w→d x y z w→f x y z w→g x y z w→i x y z w→p):p:=by obtain⟨x,y,z,w,h1,h2,h3,h4,h5,h6,h7⟩:=h;exact k x y z w h1 h2 h3 h4 h5 h6 h7
theorem b8(h:∃x y z w,a x y z w∧b x y z w∧c x y z w∧d x y z w∧f x y z w∧g x y z w∧i x y z w∧j x y z w)(k:∀x y z w,a x y z w→b x y z w→c x y z w→d x y z w→f x y z w→g x y z w→i x y z w→j x y z w→p):p:=by obtain⟨x,y,z,w,h1,h2,h3,h4,h5,h6,h7,h8⟩:=h;exact k x y z w h1 h2 h3 h4 h5 h6 h7 h8
theorem bQ(x:T)(y:U)(z:V)(w:W)(h1:a x y z w)(h2:b x y z w):∃x y z w,a x y z w∧b x y z w:=⟨x,y,z,w,h1,h2⟩
theorem bM(x:T)(y:U)(z:V)(w:W)(h1:a x y z w)(h2:b x y z w)(h3:c x y z w)(h4:d x y z w)(h5:f x y z w)(h6:g x y z w):∃x y z w,a x y z w∧b x y z w∧c x y z w∧d x y z w∧f x y z w∧g x y z w:=⟨x,y,z,w,h1,h2,h3,h4,h5,h6⟩
theorem bN(x:T)(y:U)(z:V)(w:W)(h1:a x y z w)(h2:b x y z w)(h3:c x y z w)(h4:d x y z w)(h5:f x y z w)(h6:g x y z w)(h7:i x y z w):∃x y z w,a x y z w∧b x y z w∧c x y z w∧d x y z w∧f x y z w∧g x y z w∧i x y z w:=⟨x,y,z,w,h1,h2,h3,h4,h5,h6,h7⟩
theorem cf(x:T)(y:U)(z:V)(w:W)(h1:a x y z w)(h2:b x y z w)(h3:c x y z w)(h4:d x y z w)(h5:f x y z w)(h6:g x y z w)(h7:i x y z w)(h8:j x y z w):∃x y z w,a x y z w∧b x y z w∧c x y z w∧d x y z w∧f x y z w∧g x y z w∧i x y z w∧j x y z w:=⟨x,y,z,w,h1,h2,h3,h4,h5,h6,h7,h8⟩
theorem bY(x:T)(y:U)(z:V)(w:W)(h1:a x y z w)(h2:b x y z w)(h3:c x y z w)(h4:d x y z w)(h5:f x y z w)(h6:g x y z w)(h7:i x y z w)(h8:j x y z w)(h9:l x y z w):∃x y z w,a x y z w∧b x y z w∧c x y z w∧d x y z w∧f x y z w∧g x y z w∧i x y z w∧j x y z w∧l x y z w:=⟨x,y,z,w,h1,h2,h3,h4,h5,h6,h7,h8,h9⟩
end
end
local macro_rules | `(tactic| rewrite [$t:term]) => `(tactic| first | refine Eq.substr ($t ..) ?_ | fail) | `(tactic| rewrite [← $t:term]) => `(tactic| first | refine Eq.substr (Eq.symm ($t ..)) ?_ | fail) | `(tactic| rewrite [$r:rwRule,$s,*]) => `(tactic| (rewrite [$r]; rewrite [$s,*]))
theorem aR (h:True:=by rfl):True:=h
def rB:=aR._auto_1
local macro_rules |`(command|def $i:declId $s:optDeclSig $v)=>`(command|noncomputable def $i $s:optDeclSig $v)|`(command|abbrev $i:declId $s:optDeclSig $v)=>`(command|noncomputable abbrev $i $s:optDeclSig $v)
theorem hide {T:Prop}(h:∀G:Prop,(T->G)->G):T:=h T id
set_option hygiene false
local macro_rules |`(tactic|x_go)=>`(tactic|refine hide λ_ Z=>?_)
local macro_rules |`(tactic|z_go)=>`(tactic|(apply Z;clear Z))
set_option hygiene true
local macro_rules |`(⇑$x)=>`(by exact $x)
local macro_rules |`(∅)=>`(by first|kernel_rfl|decide)
local macro_rules |`(())=>`(by assumption)
local macro_rules |`(tactic|show $x)=>`(tactic|refine $x)
local macro_rules |`(↥$x)=>`($x $(Lean.mkIdent `Md) $(Lean.mkIdent `A) $(Lean.mkIdent `E) $(Lean.mkIdent `B) $(Lean.mkIdent `aa))
/-! arithmetic,proved once -/
theorem Cw {n i:Nat}(h:i<n):n-(i+1)<n-i:=Nat.sub_succ_lt_self n i h
theorem DE {i:Int}(h : 0<=i):((i.toNat:Nat):Int)=i:=Int.toNat_of_nonneg h
theorem Bf {i:Int}{n:Nat}(h0 : 0<=i)(h:i<n):i.toNat<n:=by omega
theorem rk (r k:Int):r-k+1+k-1=r:=by omega
theorem ul {a b c d:Nat}(h:a+b<c)(k:d<=b):a+d<c:=Nat.lt_of_le_of_lt (Nat.add_le_add_left k a) h
theorem ul0 {a b c:Nat}(h:a+b<c):a<c:=Nat.lt_of_le_of_lt (Nat.le_add_right a b) h
theorem Li {a b c d e f g h i:Int}(x:a<d\/a=d/\(b<e\/b=e/\c<f))(y:d<g\/d=g/\(e<h\/e=h/\f<i)):a<g\/a=g/\(b<h\/b=h/\c<i):=by
 rcases x with x | ⟨rfl,x | ⟨rfl,x⟩⟩
 .rcases y with y | ⟨rfl,y⟩
  .exact .inl (Int.lt_trans x y)
  .exact .inl x
 .rcases y with y | ⟨rfl,y | ⟨rfl,y⟩⟩
  .exact .inl y
  .exact .inr ⟨rfl,.inl (Int.lt_trans x y)⟩
  .exact .inr ⟨rfl,.inl x⟩
 .rcases y with y | ⟨rfl,y | ⟨rfl,y⟩⟩
  .exact .inl y
  .exact .inr ⟨rfl,.inl y⟩
  .exact .inr ⟨rfl,.inr ⟨rfl,Int.lt_trans x y⟩⟩
abbrev FE:=Lean.Grind.Linarith.Expr
abbrev FkL:=Nat->Nat->Int
abbrev FK:=(Nat->FkL×Nat)->Nat->Option Nat
abbrev fR {β:Type}(o : β)(v:Nat->β)(p:FE->FE->β->β->β)(m:FE->FE->β->β->β)(q:FE->β->β)(u:Nat->FE->β->β)(i:Int->FE->β->β):FE->β:=Lean.Grind.Linarith.Expr.rec (motive:=λ_=>β) o v p m q u i
abbrev fr {α β:Type}(o : β)(u : α->β->β):List α->β:=List.rec (motive:=λ_=>β) o λx _=>u x
abbrev fnth {α:Type}(x0 : α):List α->Nat->α:=fr (λ_=>x0) λx ih=>Nat.rec x (λj _=>ih j)
abbrev fN (c:List Nat):FE->Nat:=fR 1 (fnth 0 c) (λ_ _ x y=>x+y) (λ_ _ _ _=>0) (λ_ _=>0) (λk _ x=>k*x) (λk _ _=>k.toNat)
abbrev fZ (c:List Nat)(d:List Int):FE->Int:=fR 1 (fnth 0 d) (λ_ _ x y=>x+y) (λ_ _ x y=>x-y) (λt _=>(fN c t:Int)) (λk _ x=>(k:Int)*x) (λk _ _=>k)
abbrev fl {β:Type}(K:FE->FE->β)(o : β):FE->β:=fR o (λ_=>o) (λx y _ _=>K x y) (λ_ _ _ _=>o) (λ_ _=>o) (λ_ _ _=>o) (λ_ _ _=>o)
abbrev f3 {β:Type}(x y z : β):Nat->β:=Nat.rec x (λk _=>Nat.rec y (λ_ _=>z) k)
abbrev fP (c:List Nat)(d:List Int):FE->Prop:=fR False (λ_=>True) (λ_ _ x y=>x->y) (λ_ _ x y=>x\/y) (λ_ x=>¬x)
 (λk t _=>fl (λs t=>f3 (fN c s<fN c t) (fN c s<=fN c t) (fN c s=fN c t) k) True t)
 (λk t _=>fl (λs t=>f3 (fZ c d s<fZ c d t) (fZ c d s<=fZ c d t) (fZ c d s=fZ c d t) k.toNat) True t)
/-! linear forms: 0 0 the constant,1 i and 2 i the atoms -/
def fax (k:Int)(f h:FkL):FkL:=λa j=>k*f a j+h a j
def fdl (a i:Nat):FkL:=λb j=>cond (and (Nat.beq b a) (Nat.beq j i)) 1 0
def fO:FkL:=λ_ _=>0
def fD {α:Type}(g : α->Int):List α->(Nat->Int)->Int:=fr (λ_=>0) λx ih f=>f 0*g x+ih (λj=>f (j+1))
def fok {α:Type}(p:Int->Bool):List α->(Nat->Int)->Bool:=fr (λ_=>true) λ_ ih f=>and (p (f 0)) (ih λj=>f (j+1))
def fcN:FE->FkL:=fR (fdl 0 0) (fdl 1) (λ_ _ x y=>fax 1 x y) (λ_ _ _ _=>fO) (λ_ _=>fO) (λk _ x=>fax k x fO) (λk _ _=>fax k.toNat (fdl 0 0) fO)
def fcZ:FE->FkL:=fR (fdl 0 0) (fdl 2) (λ_ _ x y=>fax 1 x y) (λ_ _ x y=>fax (-1) y x) (λt _=>fcN t) (λk _ x=>fax k x fO) (λk _ _=>fax k (fdl 0 0) fO)
def fW (c:List Nat)(d:List Int)(f:FkL):Int:=f 0 0+(fD Int.ofNat c (f 1)+fD id d (f 2))
def fadd (K:FK)(L:FkL):FK:=λA=>K λr=>(fax (((A r).2 % 16:Nat):Int) L (A r).1,(A r).2 / 16)
def fbr (K H:FK):FK:=λA r=>(K A r).bind (H A)
def fng (L:FkL):FkL:=fax (-1) L fO
def fm1 (L:FkL):FkL:=fax (-1) (fdl 0 0) L
def fat (k:Nat)(L:FkL)(s:Bool)(K:FK):FK:=cond s (f3 (fadd K (fm1 L)) (fadd K L) (fadd (fadd K (fng L)) L) k) (f3 (fadd K (fng L)) (fadd K (fm1 (fng L))) (fbr (fadd K (fm1 L)) (fadd K (fm1 (fng L)))) k)
def fk1 (s:Bool)(K:FK):FK:=cond s K (λ_ _=>none)
def fT:FE->Bool->FK->FK:=fR (λs K=>cond s (λ_ _=>none) K) (λ_=>fk1)
 (λ_ _ x y s K=>cond s (fbr (x false K) (y true K)) (x true (y false K)))
 (λ_ _ x y s K=>cond s (fbr (x true K) (y true K)) (x false (y false K)))
 (λ_ x s K=>x (not s) K)
 (λk t _=>fl (λs t=>fat k (fax (-1) (fcN s) (fcN t))) fk1 t)
 (λk t _=>fl (λs t=>fat k.toNat (fax (-1) (fcZ s) (fcZ t))) fk1 t)
def fend (c:List Nat)(d:List Int):FK:=λA r=>cond (and (Int.decLt ((A r).1 0 0) 0).decide (and (fok (λk=>(Int.decLe k 0).decide) c ((A r).1 1)) (fok (λk=>(Int.decEq k 0).decide) d ((A r).1 2)))) (some (A r).2) none
theorem fac (a b c d:Int):(a+b)+(c+d)=(a+c)+(b+d):=by rw[Int.add_assoc,Int.add_left_comm b,<-Int.add_assoc]
theorem fr1 (k a b c d e f:Int):(k*a+b)+((k*c+d)+(k*e+f))=k*(a+(c+e))+(b+(d+f)):=by rw[Int.mul_add,Int.mul_add,fac (k*c),fac]
theorem fr2 (k a b c d e:Int):(k*a+b)*c+(k*d+e)=k*(a*c+d)+(b*c+e):=by rw[Int.add_mul,Int.mul_add,Int.mul_assoc,fac]
theorem Iu {α:Type}(g : α->Int)(k:Int):∀(xs:List α) f h,fD g xs (λj=>k*f j+h j)=k*fD g xs f+fD g xs h:=
 List.rec (λ_ _=>(congrArg (· + 0) (Int.mul_zero k)).symm) λx _ ih f h=>(congrArg ((k*f 0+h 0)*g x + ·) (ih (λj=>f (j+1)) λj=>h (j+1))).trans (fr2 ..)
theorem fD_O {α:Type}(g : α->Int):∀xs:List α,fD g xs (λ_=>0)=0:=List.rec rfl λ_ _ ih=>(congrArg (_ + ·) ih).trans (congrArg (· + 0) (Int.zero_mul _))
theorem GD {α:Type}{g : α->Int}{x0 : α}(h:g x0=0):∀(xs:List α) i,fD g xs (λj=>cond (Nat.beq j i) 1 0)=g (fnth x0 xs i):=
 List.rec (λ_=>h.symm) λx xs ih=>Nat.rec ((congrArg (1*g x + ·) (fD_O g xs)).trans ((Int.add_zero _).trans (Int.one_mul _))) λi _=>(congrArg (· + _) (Int.zero_mul _)).trans ((Int.zero_add _).trans (ih i))
section
variable {c:List Nat}{d:List Int}
theorem C4 {k:Int}{f h:FkL}{x y:Int}(e:fW c d f=x)(e':fW c d h=y):fW c d (fax k f h)=k*x+y:=
 e▸e'▸(congrArg (k*f 0 0+h 0 0 + ·) (congr (congrArg HAdd.hAdd (Iu ..)) (Iu ..))).trans (fr1 ..)
theorem Cx {f h:FkL}{x y:Int}(e:fW c d f=x)(e':fW c d h=y):fW c d (fax (-1) f h)=y-x:=(C4 e e').trans ((Int.add_comm ..).trans (congrArg (y + ·) (Int.neg_one_mul x)))
theorem fW_0 {f:FkL}{x y z:Int}(e:f 0 0=x)(e1:fD Int.ofNat c (f 1)=y)(e2:fD id d (f 2)=z):fW c d f=x+(y+z):=by subst e e1 e2;rfl
theorem fW_O:fW c d fO=0:=(fW_0 (f:=fO) rfl (fD_O ..) (fD_O ..)).trans rfl
theorem fW_1:fW c d (fdl 0 0)=1:=(fW_0 (f:=fdl 0 0) rfl (fD_O ..) (fD_O ..)).trans rfl
theorem fW_k (k:Int):fW c d (fax k (fdl 0 0) fO)=k:=(C4 fW_1 fW_O).trans ((Int.add_zero _).trans (Int.mul_one _))
theorem CN:∀t,fW c d (fcN t)=fN c t:=Lean.Grind.Linarith.Expr.rec fW_1
 (λi=>(fW_0 (f:=fdl 1 i) rfl (GD (x0:=0) rfl ..) (fD_O ..)).trans ((Int.zero_add _).trans (Int.add_zero _)))
 (λ_ _ x y=>(C4 x y).trans (congrArg (· + _) (Int.one_mul _))) (λ_ _ _ _=>fW_O) (λ_ _=>fW_O)
 (λ_ _ x=>(C4 x fW_O).trans (Int.add_zero _)) (λk _ _=>fW_k k.toNat)
theorem GE:∀t,fW c d (fcZ t)=fZ c d t:=Lean.Grind.Linarith.Expr.rec fW_1
 (λi=>(fW_0 (f:=fdl 2 i) rfl (fD_O ..) (GD (x0:=0) rfl ..)).trans ((Int.zero_add _).trans (Int.zero_add _)))
 (λ_ _ x y=>(C4 x y).trans (congrArg (· + _) (Int.one_mul _))) (λ_ _ x y=>Cx y x) (λt _=>CN t)
 (λ_ _ x=>(C4 x fW_O).trans (Int.add_zero _)) (λk _ _=>fW_k k)
abbrev fS (c:List Nat)(d:List Int)(K:FK):Prop:=∀A r,(∀r,0<=fW c d (A r).1)->K A r=none
theorem BQ {K:FK}{L:FkL}(h : 0<=fW c d L)(k:fS c d K):fS c d (fadd K L):=λ_ _ a=>k _ _ λr=>(C4 rfl rfl).symm▸Int.add_nonneg (Int.mul_nonneg (Int.natCast_nonneg _) h) (a r)
theorem F1 {K H:FK}(k:fS c d K):fS c d (fbr K H):=λA r a=>congrArg (Option.bind · (H A)) (k A r a)
theorem F2 {K H:FK}(k:fS c d H):fS c d (fbr K H):=λA r a=>Option.rec (motive:=λx=>x.bind (H A)=none) rfl (λr=>k A r a) (K A r)
abbrev fB (c:List Nat)(d:List Int)(p:Prop)(T:Bool->FK->FK):Prop:=∀K,fS c d K->(p->fS c d (T true K))/\(¬p->fS c d (T false K))
theorem fle {L:FkL}{x y:Int}(e:fW c d L=y-x)(h:x<=y) : 0<=fW c d L:=e▸Int.sub_nonneg_of_le h
theorem flt {L:FkL}{x y:Int}(e:fW c d L=y-x)(h:x<y) : 0<=fW c d (fm1 L):=(C4 fW_1 e).symm▸(Int.add_comm (y-x) (-1)▸Int.le_sub_one_of_lt (Int.sub_pos_of_lt h))
theorem Iv {L:FkL}{x y:Int}(e:fW c d L=y-x)(n:Nat):fB c d (f3 (x<y) (x<=y) (x=y) n) (fat n L):=λK k=>by have e2:fW c d (fng L)=x-y:=(C4 e fW_O).trans ((Int.add_zero _).trans ((Int.neg_one_mul _).trans (Int.neg_sub ..)));show n.rec ⟨λh=>BQ (flt e h) k,λh=>BQ (fle e2 (Int.not_lt.mp h)) k⟩ λn _=>n.rec ⟨λh=>BQ (fle e h) k,λh=>BQ (flt e2 (Int.not_le.mp h)) k⟩ λ_ _=>⟨λh=>BQ (fle e (Int.le_of_eq h)) (BQ (fle e2 (Int.le_of_eq h.symm)) k),λh=>(Int.lt_or_gt_of_ne h).elim (λh=>F1 (BQ (flt e h) k)) λh=>F2 (BQ (flt e2 h) k)⟩
theorem Iw {P:FE->FE->Prop}{p:FE->FE->Bool->FK->FK}(h:∀s t,fB c d (P s t) (p s t)):∀t,fB c d (fl P True t) (fl p fk1 t):=
 have h0:fB c d True fk1:=λ_ k=>⟨λ_=>k,λh=>absurd trivial h⟩
 Lean.Grind.Linarith.Expr.rec h0 (λ_=>h0) (λs t _ _=>h s t) (λ_ _ _ _=>h0) (λ_ _=>h0) (λ_ _ _=>h0) (λ_ _ _=>h0)
theorem fNZ {a b:Nat}(n:Nat):f3 ((a:Int)<b) ((a:Int)<=b) ((a:Int)=b) n=f3 (a<b) (a<=b) (a=b) n:=n.rec (propext Int.ofNat_lt) λn _=>n.rec (propext Int.ofNat_le) λ_ _=>propext Int.ofNat_inj
theorem Lj:∀t,fB c d (fP c d t) (fT t):=Lean.Grind.Linarith.Expr.rec
 (λ_ k=>⟨λh=>h.elim,λ_=>k⟩) (λ_ _ k=>⟨λ_=>k,λh=>absurd trivial h⟩)
 (λ_ _ x y K k=>⟨λh=>(Classical.em _).elim (λg=>F2 ((y K k).1 (h g))) λg=>F1 ((x K k).2 g),λh=>(x _ ((y K k).2 λg=>h λ_=>g)).1 (Classical.byContradiction λg=>h λi=>absurd i g)⟩)
 (λ_ _ x y K k=>⟨λh=>h.elim (λg=>F1 ((x K k).1 g)) λg=>F2 ((y K k).1 g),λh=>(x _ ((y K k).2 λg=>h (.inr g))).2 λg=>h (.inl g)⟩)
 (λ_ x K k=>⟨λh=>(x K k).2 h,λh=>(x K k).1 (Classical.not_not.mp h)⟩)
 (λk t _=>Iw (λs t=>fNZ k▸Iv ((Cx (CN s) (CN t))) k) t)
 (λk t _=>Iw (λs t=>Iv (Cx (GE s) (GE t)) k.toNat) t)
theorem fand {a b:Bool}(h:and a b=true):a=true/\b=true:=Eq.mp (Bool.and_eq_true a b) h
theorem Ix {α:Type}{g : α->Int}{p:Int->Bool}(h:∀k x,p k=true->k*g x<=0):∀(xs:List α) f,fok p xs f=true->fD g xs f<=0:=
 List.rec (λ_ _=>Int.le_refl _) λx _ ih f e=>Int.add_nonpos (h (f 0) x (fand e).1) (ih _ (fand e).2)
theorem Lk {r:Nat}:∀b:Bool,(b=true->False)->cond b (some r) none=none:=Bool.rec (λ_=>rfl) λh=>(h rfl).elim
theorem Ll:fS c d (fend c d):=λ_ r a=>Lk _ λe=>Int.not_le.mpr (Int.add_neg_of_neg_of_nonpos (of_decide_eq_true (fand e).1) (Int.add_nonpos
 (Ix (λ_ x h=>Int.mul_nonpos_of_nonpos_of_nonneg (of_decide_eq_true h) (Int.natCast_nonneg x)) c _ (fand (fand e).2).1) (Ix (λ_ x h=>Int.le_of_eq ((congrArg (· * x) (of_decide_eq_true h)).trans (Int.zero_mul x))) d _ (fand (fand e).2).2))) (a r)
/-! atoms that are made of others: a-b (not split: add;split: sub),(x).toNat (neg),a / k (natMul) -/
abbrev fv (c:List Nat)(d:List Int):FE->Nat:=fR 0 (λ_=>0) (λa b _ _=>fN c a-fN c b) (λa b _ _=>fN c a-fN c b) (λa _=>(fZ c d a).toNat) (λk a _=>fN c a / k) (λ_ _ _=>0)
def fsh (f:FkL):FkL:=λa=>cond (Nat.beq a 1) (Nat.rec 0 λj _=>f 1 j) (f a)
def ftn (x:FkL)(K:FK):FK:=fbr (fadd (fadd K (fax (-1) (fdl 1 0) x)) (fax (-1) x (fdl 1 0))) (fadd (fadd K (fng x)) (fng (fdl 1 0)))
def fdef:FE->FK->FK:=fR (λK=>K) (λ_ K=>K)
 (λa b _ _ K=>fadd (fadd K (fax (-1) (fdl 1 0) (fsh (fcN a)))) (fax (-1) (fsh (fax (-1) (fcN b) (fcN a))) (fdl 1 0)))
 (λa b _ _=>ftn (fsh (fax (-1) (fcN b) (fcN a)))) (λa _=>ftn (fsh (fcZ a)))
 (λk a _ K=>fadd (fadd K (fax (-1) (fax k (fdl 1 0) fO) (fsh (fcN a)))) (fax k (fax (-1) (fsh (fcN a)) (fax k (fdl 1 0) (fax (k-1) (fdl 0 0) fO))) fO)) (λ_ _ _ K=>K)
abbrev fE (d:List Int):List FE->List Nat->List Nat:=fr (λc=>c) λD ih c=>ih (fv c d D::c)
def frun (d:List Int)(F:FE):List FE->List Nat->FK:=fr (λc=>fT F false (fend c d)) λD ih c A=>fdef D (ih (fv c d D::c)) λr=>(fsh (A r).1,(A r).2)
theorem fsh_ok {z:Nat}{f:FkL}:fW (z::c) d (fsh f)=fW c d f:=congrArg (λx=>f 0 0+(x+fD id d (f 2))) ((congrArg (· + _) (Int.zero_mul _)).trans (Int.zero_add _))
theorem fW_z {z:Nat}:fW (z::c) d (fdl 1 0)=z:=(fW_0 (f:=fdl 1 0) rfl (GD (x0:=0) rfl ..) (fD_O ..)).trans ((Int.zero_add _).trans (Int.add_zero _))
theorem Iy {L:FkL}{K:FK}{x:Int}{z:Nat}(e:fW (z::c) d L=x)(h:x.toNat=z)(k:fS (z::c) d K):fS (z::c) d (ftn L K):=by subst h;have e2:fW (x.toNat::c) d (fng L)=0-x:=Cx e fW_O;show(Int.le_total 0 x).elim (λh=>F1 (BQ (fle (Cx e fW_z) (Int.self_le_toNat x)) (BQ (fle (Cx fW_z e) (Int.le_of_eq (Int.toNat_of_nonneg h))) k))) λh=>F2 (BQ (fle (Cx fW_z fW_O) (Int.le_of_eq (congrArg Nat.cast (Int.toNat_of_nonpos h)))) (BQ (fle e2 h) k))
theorem fdv {L:FkL}{a n:Nat}(e:fW c d L=n*(n*(a / n:Nat)+(n-1)-a)+0) : 0<=fW c d L:=e▸by
 cases n with
 | zero=>show Int.le_of_eq (congrArg (· + 0) (Int.zero_mul _)).symm
 | succ n=>
  have h:(a:Int)<((n+1:Nat):Int)*((a / (n+1):Nat):Int)+((n+1:Nat):Int):=Int.ofNat_lt.mpr (Nat.lt_mul_div_succ a n.succ_pos);show Int.add_nonneg (Int.mul_nonneg (Int.natCast_nonneg _) (Int.sub_nonneg_of_le (Int.add_sub_assoc ..▸Int.le_sub_one_of_lt h))) (Int.le_refl 0)
theorem Lm (D:FE)(K:FK)(k:fS (fv c d D::c) d K):fS (fv c d D::c) d (fdef D K):=by revert k;show Lean.Grind.Linarith.Expr.casesOn (motive:=λD=>fS (fv c d D::c) d K->fS (fv c d D::c) d (fdef D K)) D id (λ_=>id) (λa b k=>BQ (fle (Cx (fsh_ok.trans (Cx (CN b) (CN a))) fW_z) (Int.toNat_sub (fN c a) (fN c b)▸Int.self_le_toNat _)) (BQ (fle (Cx fW_z (fsh_ok.trans (CN a))) (Int.ofNat_le.mpr (Nat.sub_le ..))) k)) (λa b=>Iy (fsh_ok.trans (Cx (CN b) (CN a))) (Int.toNat_sub ..)) (λa=>Iy (fsh_ok.trans (GE a)) rfl) (λn a k=>BQ (fdv (C4 (Cx (fsh_ok.trans (CN a)) (C4 fW_z (fW_k _))) fW_O)) (BQ (fle (Cx (C4 fW_z fW_O) (fsh_ok.trans (CN a))) (Int.ofNat_le.mpr (Nat.mul_div_le ..))) k)) (λ_ _=>id)
theorem Ln {F:FE}:∀(Ds:List FE) (c:List Nat),¬fP (fE d Ds c) d F->fS c d (frun d F Ds c):=
 List.rec (λ_ g=>(Lj F _ Ll).2 g) λD _ ih c g A r a=>Lm D _ (ih _ g) _ r λr=>fsh_ok.symm▸a r
end
abbrev fpT {β:Type}(z : β):Nat->Nat->(FE->Nat->β)->β:=Nat.rec (λ_ _=>z) λ_ ih n k=>
 fnth (k (.var (n % 16-7)) (n / 16)) [ih (n / 16) λs n=>ih n λt n=>k (.add s t) n,ih (n / 16) λs n=>ih n λt n=>k (.sub s t) n,
  ih (n / 256) λt m=>k (.natMul (n / 16 % 16) t) m,ih (n / 16) λt n=>k (.neg t) n,k (.intMul (n / 16 % 16:Nat) .zero) (n / 256),cond (Nat.ble 16 (n / 16 % 256)) (k (.intMul (n / 16 % 256:Nat) .zero) (n / 4096)) (k (.intMul (n / 4096 % 16 ^ (n / 16 % 16+1):Nat) .zero) (n / 4096 / 16 ^ (n / 16 % 16+1))),k .zero (n / 16)] (n % 16)
abbrev fpF:Nat->Nat->(FE->Nat->FE)->FE:=Nat.rec (λ_ _=>.zero) λ_ ih n k=>
 have at2 (f:FE->FE):FE:=fpT .zero 64 (n / 16) λs m=>fpT .zero 64 m λt m=>k (f (.add s t)) m
 fnth (at2 (.intMul (n % 16-7:Nat))) [ih (n / 16) λs n=>ih n λt n=>k (.add s t) n,ih (n / 16) λs n=>ih n λt n=>k (.sub s t) n,ih (n / 16) λt n=>k (.neg t) n,k .zero (n / 16),at2 (.natMul 0),at2 (.natMul 1),at2 (.natMul 2)] (n % 16)
abbrev fp:Nat->Nat->List FE×FE:=Nat.rec (λ_=>([],.zero)) λ_ ih n=>
 cond (Nat.beq (n % 16) 10) (fpT ([],.zero) 64 (n / 16) λD m=>(D::(ih m).1,(ih m).2)) ([],fpF 64 n λt _=>t)
theorem fk (c:List Nat)(d:List Int)(n r:Nat)(h:(frun d (fp 64 n).2 (fp 64 n).1 c (λr=>(fO,r)) r).isSome=true):fP (fE d (fp 64 n).1 c) d (fp 64 n).2:=
 Classical.byContradiction λg=>nomatch (congrArg Option.isSome (Ln (fp 64 n).1 c g (λr=>(fO,r)) r λ_=>Int.le_of_eq fW_O.symm)).symm.trans h
section
variable {a b c d:Nat}{x y z u v:Int}
abbrev F20:=fk [a,b] []
abbrev F30:=fk [a,b,c] []
abbrev F10:=fk [a] []
abbrev F02:=fk [] [x,y]
abbrev F03:=fk [] [x,y,z]
abbrev F01:=fk [] [x]
abbrev F11:=fk [a] [x]
abbrev F00:=fk [] []
abbrev F04:=fk [] [x,y,z,u]
abbrev F40:=fk [a,b,c,d] []
abbrev F13:=fk [a] [x,y,z]
abbrev F05:=fk [] [x,y,z,u,v]
abbrev F12:=fk [a] [x,y]
end
open PySem PySem.W PyProof.Rows
local macro_rules | `(tactic| lk) => `(tactic| first | assumption | rfl)
abbrev An:=PySem.Str
abbrev CB:=@Nat.lt_of_le_of_lt
abbrev EK:=@Nat.le_add_right
abbrev EL:=@Int.lt_trans
abbrev BR:=@Int.add_assoc
abbrev Ti:=@Int.zero_mul
abbrev Bm:=@Int.add_zero
abbrev C5:=@Int.zero_add
abbrev As:=@Int.natCast_nonneg
abbrev CC:=@Int.not_lt
abbrev Iz:=@Int.le_of_eq
abbrev BC:=@Int.ofNat_lt
abbrev F3:=@Int.ofNat_le
abbrev B1:=@Classical.byContradiction
abbrev DF:=@Bool.and_eq_true
abbrev Ax:=@Int.le_refl
abbrev DG:=@Nat.sub_le
abbrev GG:=@Bool.and_eq_true_iff
abbrev GJ:=@Nat.eq_of_beq_eq_true
abbrev Du:=@Option.some.inj
abbrev F4:=@Prod.mk.injEq
abbrev F5:=@Option.bind_some
abbrev EM:=@List.cons_append
abbrev Lo:=@List.getElem?_cons_zero
abbrev Eg:=@Option.some.injEq
abbrev Lp:=@List.take_succ_cons
abbrev EN:=@Nat.lt_or_ge
abbrev F6:=@Array.getElem?_eq_getElem
abbrev Dv:=@Array.getElem?_eq_none
abbrev A5:=@Nat.le_refl
abbrev Cd:=@Heap.lt_size
abbrev AX:=@Heap.get?_push_of_some
abbrev Aj:=@Nat.le_trans
abbrev CO:=@Nat.not_lt
abbrev A7:=@Array.length_toList
abbrev DH:=@List.length_eq_zero_iff
abbrev Ah:=@Ne.symm
abbrev AI:=@Heap.get?_push_size
abbrev DJ:=@IsL.new
abbrev A1:=@List.map_cons
abbrev Eh:=@List.cons.injEq
abbrev Dw:=@List.mem_map_of_mem
abbrev Bk:=@List.mem_map
abbrev DK:=@List.all_eq_true
abbrev By:=@Nat.le_of_lt
abbrev EO:=@Array.toList_push
abbrev Ei:=@Nat.ne_of_lt
abbrev GK:=@PyProof.Rows.assign_Name
abbrev GM:=@List.reverse_cons
abbrev Bp:=@Nat.zero_le
abbrev A3:=@List.getElem?_eq_getElem
abbrev EP:=@PyProof.Rows.callWith_type1
abbrev GN:=@Array.toList_append
abbrev B2:=@Heap.SameBut.update
abbrev DL:=@Nat.add_sub_cancel
abbrev EQ:=@List.drop_of_length_le
abbrev Ej:=@List.append_nil
abbrev I5:=@PySem.Str.ofString_eq_byList
abbrev C6:=@Heap.size_push
abbrev DM:=@Nat.succ_ne_self
abbrev Cj:=@Sem.bind_eq_wrap'
abbrev Ck:=@Sem.wrap_wrap
abbrev F7:=@Array.getElem?_setIfInBounds_self
abbrev ER:=@Nat.lt_of_lt_of_le
abbrev ES:=@Array.getElem?_setIfInBounds_ne
abbrev Dd:=@Nat.le_succ
abbrev GO:=@PySem.F.entry_extend_loop
abbrev GP:=@Around.under_plainId
abbrev EU:=@PySem.F.plain_extend_loop
abbrev EW:=@IsL.update
abbrev GT:=@Array.size_push
abbrev De:=@Heap.get?_update_self
abbrev GU:=@Bool.or_false
abbrev EY:=@Bool.false_eq_true
abbrev CE:=@Nat.lt_succ_self
abbrev BD:=@Int.eq_ofNat_of_zero_le
abbrev F8:=@Option.map_some
abbrev Tj:=@Option.isSome_none
abbrev Lq:=@Bool.not_true
abbrev F9:=@List.find?_cons
abbrev GW:=@List.find?_eq_none
abbrev A2:=@List.map_append
abbrev DN:=@List.nodup_append
abbrev CP:=@List.map_nil
abbrev Ay:=@List.mem_singleton
abbrev EZ:=@Bool.false_ne_true
abbrev I6:=@List.isEmpty_nil
abbrev GX:=@List.length_cons
abbrev GZ:=@Code.quiet_builtin
abbrev Dx:=@Nat.ne_of_gt
abbrev DO:=@Looks.ld
abbrev Ek:=@Looks.of_peek
abbrev AW:=@Int.toNat_natCast
abbrev FA:=@Obj.data_mapFields
abbrev BE:=@List.take_of_length_le
abbrev BS:=@List.mem_of_getElem?
abbrev BM:=@List.mem_range
abbrev Ha:=@List.nodup_range
abbrev Fa:=@Nat.lt_trans
abbrev FB:=@Nat.sub_lt_of_lt
abbrev BU:=@Nat.succ_pos
abbrev I7:=@Array.getD_eq_getD_getElem?
abbrev DP:=@Nat.lt_of_succ_lt
abbrev DQ:=@Int.lt_irrefl
abbrev Tk:=@List.forIn_cons
abbrev Lr:=@List.forIn_nil
abbrev Hb:=@Array.toList_inj
abbrev Ai:=@List.length_map
abbrev Cy:=@List.map_map
abbrev AZ:=@List.getElem?_map
abbrev C7:=@Option.map_eq_some_iff
abbrev AD:=@List.getD_eq_getElem?_getD
abbrev Hc:=@List.ext_getElem?
abbrev Fb:=@List.getElem?_range
abbrev Dy:=@List.getElem?_eq_none
abbrev CF:=@Nat.le_of_not_lt
abbrev El:=@List.pairwise_singleton
abbrev Fc:=@List.map_congr_left
abbrev Df:=@List.pairwise_map
abbrev He:=@List.pairwise_iff_getElem
abbrev Hg:=@List.getElem?_of_mem
abbrev Fd:=@Nat.lt_add_of_pos_right
abbrev Hh:=@List.nodup_cons
abbrev Hi:=@F.plainAttrs_dict
abbrev Hj:=@Int.natCast_zero
abbrev Ba:=@List.length_append
abbrev Hk:=@List.length_singleton
abbrev Dz:=@List.range_succ
abbrev Hl:=@List.filter_append
abbrev Dg:=@List.getElem?_append_left
abbrev Fe:=@List.length_filter_le
abbrev Hm:=@List.pairwise_lt_range
abbrev BF:=@List.getElem?_eq_some_iff
abbrev Em:=@List.length_take
abbrev En:=@List.take_add_one
abbrev Cz:=@List.take_length
abbrev Dh:=@BindsTo.of_eq
abbrev Bg:=@List.mem_cons
abbrev CQ:=@List.not_mem_nil
abbrev CR:=@Int.lt_of_lt_of_le
abbrev Ce:=@Int.le_trans
abbrev Di:=@List.pairwise_cons
abbrev BH:=@List.foldl_cons
abbrev Bh:=@Int.le_of_lt
abbrev Cm:=@List.mem_filter
abbrev Aw:=@List.mem_append
abbrev D1:=@List.pairwise_append
abbrev Hn:=@Bool.not_eq_true'
abbrev Ff:=@Int.natCast_add
abbrev D2:=@Int.sub_add_cancel
abbrev BI:=@Int.lt_of_le_of_lt
abbrev Ho:=@List.mem_append_right
abbrev FC:=@Int.lt_trichotomy
abbrev DR:=@List.foldl_append
abbrev Eo:=@List.getElem?_eq_none_iff
abbrev D3:=@Prod.ext
abbrev FD:=@Int.natCast_succ
abbrev Co:=@List.eq_nil_or_concat
abbrev Cp:=@List.concat_eq_append
abbrev Dj:=@List.getLast?_append
abbrev Ep:=@List.getLast?_singleton
abbrev Hq:=@Option.some_or
abbrev Fg:=@List.dropLast_concat
abbrev CG:=@Nat.lt_succ_of_lt
abbrev D4:=@List.nil_append
abbrev FH:=@List.length_reverse
abbrev Bq:=@List.append_assoc
abbrev Fh:=@List.singleton_append
abbrev DS:=@List.foldl_nil
abbrev FI:=@Nat.add_assoc
abbrev FJ:=@Option.getD_some
abbrev Lu:=@Nat.add_zero
abbrev CH:=@List.getElem?_append_right
abbrev FM:=@Nat.add_sub_cancel_left
abbrev Cf:=@Nat.zero_add
abbrev Er:=@List.flatten_cons
abbrev DT:=@List.flatMap_cons
abbrev Hr:=@Int.add_sub_cancel
abbrev FN:=@List.flatMap_append
abbrev FO:=@List.cons.inj
abbrev FP:=@Nat.pos_of_ne_zero
abbrev FQ:=@List.getElem_mem
abbrev D5:=@List.length_range
abbrev Hs:=@List.filter_map
abbrev Dk:=@Bool.and_true
abbrev Ht:=@List.filter_eq_self
abbrev FS:=@Nat.min_le_right
abbrev Es:=@List.length_drop
abbrev FT:=@Nat.min_eq_left
abbrev FU:=@Nat.min_eq_right
abbrev wB := @wpAny_bind
abbrev wP := @wpAny_pure
set_option maxRecDepth 100000
def anyA {α:Type}(as:Array α)(p : α->Bool)(start:Nat:=0)(stop:Nat:=as.size):Bool:=
 @Bool.rec (λ_=>Bool) (Array.any as p start stop) (PySem.W.R.anyR as.toList p) (Nat.beq start 0 && Nat.beq stop as.size)
theorem Lv:@Array.any.{0} = @anyA:=by
 funext α as p start stop;unfold anyA;cases h:(Nat.beq start 0 && Nat.beq stop as.size) with
 | false=>rfl
 | true=>
  have h':=GG.mp h;have h1:=GJ h'.1;have h2:=GJ h'.2;subst h1;subst h2;change as.any p=PySem.W.R.anyR as.toList p;rw[<-PySem.W.R.anyR_eq,Array.any_toList]
abbrev AnyT:={α:Type}->Array α->(α->Bool)->(start:Nat)->(stop:Nat)->Bool
inductive TEq:Builtin->Builtin->Type
 | refl (f:Builtin):TEq f f
theorem TEq.toEq {a b:Builtin}(x:TEq a b):a=b:=by cases x;rfl
def newPk:(G:AnyT->Builtin)×TEq PySem.W.Fast.tw4202317264376624991 (G @Array.any):=⟨_,by
 delta PySem.W.Fast.tw4202317264376624991;generalize (@Array.any:AnyT)=X
 show TEq.refl _⟩
theorem Lx:PySem.W.Fast.tw4202317264376624991=newPk.1 @anyA:=newPk.2.toEq.trans (congrArg newPk.1 Lv)
def tblA (id:String):Option Builtin:=
 @Bool.rec (λ_=>Option Builtin) (PySem.W.Fast.tw14364793385576792824 id) (some (newPk.1 @anyA)) (Nat.beq (PySem.W.Fast.tw13482112738370960269 id) (PySem.W.Fast.tw13482112738370960269 "type.__new__"))
theorem I9:treeTable=tblA:=by
 funext id;unfold tblA;rw[<-PySem.W.Fast.te14364793385576792824,<-PySem.W.Fast.te13482112738370960269];cases h:Nat.beq (PySem.code id) (PySem.code "type.__new__") with
 | false=>rfl
 | true=>
  have h1:=PySem.code_inj _ _ (GJ h);subst h1;change _=some (newPk.1 @anyA);rw[<-Lx,<-PySem.W.Fast.te4202317264376624991];kernel_rfl
def FV (tb:String->Option Builtin)(p:Program)(w:World)(nZ:Nat)(ann:Option Value):Nat->SharedT->Thread->Option SharedT
 | 0,_,_=>none
 | n+1,s,t=>match through t with
  | true=>some s
  | false=>match PySem.W.Fast.tw6613529449190102663 nZ ann t with
   | false=>none
   | true=>match PySem.W.Fast.tw10156331382660048174 (PySem.W.Fast.tw11892475500146522536 tb) p w s t with
    | some (s',t')=>FV tb p w nZ ann n s' t'
    | none=>none
def ID (P:Params):BT:=
 .node (boot_o_0 P) (.node (boot_o_1 P) (.node (boot_o_3 P) (.node (boot_o_7 P) .nil .nil) .nil) (.node (boot_o_5 P) (.node (boot_o_9 P) .nil .nil) .nil))
  (.node (boot_o_2 P) (.node (boot_o_4 P) (.node (boot_o_8 P) .nil .nil) .nil) (.node (boot_o_6 P) (.node (boot_o_10 P) .nil .nil) .nil))
theorem Ly (P:Params):absHeap (ID P) 11 (boot_heap P).life=boot_heap P:=rfl
def S0 (w:World)(os:OsState):SharedT:=⟨ID w.params,11,(boot_heap w.params).life,#[],boot_drawn,boot_toks,os⟩

def Et {α:Type}(z : α)(fF:An->Arguments->List Stmt->Scope->α)(fC:An->List Expr->List Keyword->List Stmt->List Expr->List TypeParam->Scope->Option Scope->An->List An->Pos->α)(fL:Expr->List Stmt->List Stmt->α)(fA:Expr->α)(fX:Expr->Pos->α)(s:Stmt) : α:=
 Stmt.casesOn (motive_2:=λ_=>α) s (λn a b _ _ _ c _ _ _=>fF n a b c) (λ_ _ _ _ _ _ _ _ _ _=>z) fC (λ_ _=>z) (λ_ _=>z) (λ_ v _=>fA v) (λ_ _ _ _ _ _ _=>z) (λ_ _ _ _=>z) (λ_ _ _ _ _=>z) (λt _ b e _=>fL t b e) (λ_ _ _ _ _=>z) (λt b e _=>fL t b e) (λt b e _=>fL t b e) (λ_ _ _=>z) (λ_ _ _=>z) (λ_ _ _=>z) (λ_ _ _=>z) (λ_ _ _ _ _=>z) (λ_ _ _ _ _=>z) (λ_ _ _=>z) (λ_ _=>z) (λ_ _ _ _=>z) (λ_ _=>z) (λ_ _=>z) fX (λ_=>z) (λ_=>z) (λ_=>z)
def AE:Stmt->List Stmt:=Et [] (λ_ _ b _=>b) (λ_ _ _ b _ _ _ _ _ _ _=>b) (λ_ b _=>b) (λ_=>[]) (λ_ _=>[])
def docX (c:Stmt):Str:=(docOf (AE c)).getD default
def Lz (d:Str)(e:Expr):Expr:=Expr.casesOn (motive_1:=λ_=>Expr) e (λ_ _ _=>e) (λ_ _ _=>e) (λ_ _ _ _=>e) (λ_ _ _=>e) (λ_ _ _ _=>e) (λ_ _ _ _=>e) (λ_ _ _=>e) (λ_ _ _=>e) (λ_ _ _ _=>e) (λ_ _ _ _=>e) (λ_ _ _ _ _=>e) (λ_ _ _ _=>e) (λ_ _=>e) (λ_ _=>e) (λ_ _=>e) (λ_ _ _ _=>e) (λ_ _ _ _=>e) (λ_ _ _ _=>e) (λ_ _=>e) (λ_ a b=>.Constant (.str d) a b) (λ_ _ _=>e) (λ_ _ _=>e) (λ_ _=>e) (λ_ _=>e) (λ_ _=>e) (λ_ _ _=>e) (λ_ _ _ _=>e)
def L3 (d:Str)(c:Stmt):Stmt:=Et c (λ_ _ _ _=>c)
 (λa1 a2 a3 b b1 b2 b3 b4 b5 b6 b7=>.ClassDef a1 a2 a3 (b.modifyHead λx=>Et x (λ_ _ _ _=>x) (λ_ _ _ _ _ _ _ _ _ _ _=>x) (λ_ _ _=>x) (λ_=>x) (λe p=>.Expr (Lz d e) p) x) b1 b2 b3 b4 b5 b6 b7)
 (λ_ _ _=>c) (λ_=>c) (λ_ _=>c) c
def L4 (p:Program)(d:Str):Program:={ p with main:={ p.main with body:=p.main.body.set 5 (L3 d (p.main.body.getD 5 (.Pass default))) } }
def docE:(cs:List Char)×' (docX (PySem.Challenge.pw_dm0058_02.main.body.getD 5 (.Pass default))=PySem.Str.ofString (String.ofList cs)):=⟨_,rfl⟩
def pT:Program:=L4 PySem.Challenge.pw_dm0058_02 ⟨(docE.1.map Char.toNat).toArray⟩
theorem FW:PySem.Challenge.pw_dm0058_02=pT:=by unfold pT;rw[<-PySem.W.Fast.ofString_ofList,<-docE.2];kernel_rfl
def theRun (w:World)(os:OsState):Option SharedT:=FV tblA pT w 11 (some (.ref 6)) 2300 (S0 w os) (topStub pT)
theorem L5 {p:Program}{w:World}{nZ:Nat}{ann:Option Value}:∀{n:Nat}{s s':SharedT}{t:Thread},FV tblA p w nZ ann n s t=some s'->topRun treeTable p w nZ ann n s.abs t=some s'.abs:=by
 intro r_
 induction r_ with
 | zero=>
  intro _ _ _ h;cases h
 | succ n ih=>
  intro s s' t h;unfold FV at h;unfold topRun;cases he:through t with
  | true=>rw[he]at h;cases h;rfl
  | false=>
   rw[he]at h;rw[<-PySem.W.Fast.te6613529449190102663]at h;cases hk:stepOk nZ ann t with
   | false=>rw[hk]at h;cases h
   | true=>
    rw[hk]at h;rw[<-PySem.W.Fast.te10156331382660048174,<-PySem.W.Fast.te11892475500146522536,<-I9]at h;cases hs:stepT (denote treeTable) p w s t with
    | none=>rw[hs]at h;cases h
    | some r=>obtain⟨ax,t₂⟩:=r;rw[hs]at h;dsimp only;rw[stepT_spec hs];rw[I9]at h;show ih h
def qV:Program:=view PySem.Challenge.pw_dm0058_02 [0,2,3,4,5,7,8,9,10]
def Cq:List An:=[PySem.Str.ofString "_tuplegetter",PySem.Str.ofString "Match",PySem.Str.ofString "SequenceMatcher"]


abbrev S (x:String):An:=PySem.Str.ofString x
def topS (p:Program)(i:Nat):Stmt:=p.main.body.getD i (.Pass default)
def inS (c:Stmt)(i:Nat):Stmt:=(AE c).getD i (.Pass default)
def dF {α:Type}(z : α)(f:An->Arguments->Scope->α):Stmt->α:=Et z (λn a _ c=>f n a c) (λ_ _ _ _ _ _ _ _ _ _ _=>z) (λ_ _ _=>z) (λ_=>z) (λ_ _=>z)
def L6:Stmt->Arguments:=dF default λ_ a _=>a
def L7:Stmt->Scope:=dF default λ_ _ c=>c
def L8:Stmt->An:=dF (S "") λn _ _=>n
def docS (d:Stmt):An:=match PySem.docOf (AE d) with | some s=>s | none=>S ""
def docV (t:Nat)(b:List Stmt):Value:=match PySem.docOf b with | some s=>.str s t | none=>.none
def fnD (d:Stmt)(qual:An)(dV kV:Value)(dt:Nat)(pm:Value)(an:Option Addr)(cd ct:Value)(cl:List (An×Addr)):FuncData:=
 { name:=L8 d,qualname:=qual,params:=L6 d,body:=.stmts (AE d),scope:=L7 d,globals:=3,closure:=cl,defaults:=dV,kwdefaults:=kV,doc:=docV dt (AE d),pyModule:=pm,annotations:=an,code:=cd,closureTuple:=ct,builtins:=0 }
def KP (p:Program)(P:Params):Frag:=[
 (2,⟨.none,none,(.dict #[] 0),#[]⟩),
 (3,⟨(.type "dict"),none,(.dict #[⟨(PyData.keyHash P (S "__name__")),(.str (S "__name__") 165),(.str (S "law_dm0058_02") 592)⟩,⟨(PyData.keyHash P (S "__doc__")),(.str (S "__doc__") 166),.none⟩,⟨(PyData.keyHash P (S "__package__")),(.str (S "__package__") 167),.none⟩,⟨(PyData.keyHash P (S "__loader__")),(.str (S "__loader__") 168),(.builtin "__main__.__loader__#opaque")⟩,⟨(PyData.keyHash P (S "__spec__")),(.str (S "__spec__") 169),.none⟩,⟨(PyData.keyHash P (S "__annotations__")),(.str (S "__annotations__") 170),(.ref 6)⟩,⟨(PyData.keyHash P (S "__builtins__")),(.str (S "__builtins__") 171),(.ref 4)⟩,⟨(PyData.keyHash P (S "__file__")),(.str (S "__file__") 173),(.str (S "/claim/cut.py") 172)⟩,⟨(PyData.keyHash P (S "__cached__")),(.str (S "__cached__") 174),.none⟩,⟨(PyData.keyHash P (S "_wall")),(.str (S "_wall") 193),(.ref 21)⟩,⟨(PyData.keyHash P (S "_tuplegetter")),(.str (S "_tuplegetter") 252),(.ref 60)⟩,⟨(PyData.keyHash P (S "Match")),(.str (S "Match") 380),(.ref 135)⟩,⟨(PyData.keyHash P (S "_calculate_ratio")),(.str (S "_calculate_ratio") 388),(.ref 145)⟩,⟨(PyData.keyHash P (S "SequenceMatcher")),(.str (S "SequenceMatcher") 591),(.ref 242)⟩,⟨(PyData.keyHash P (S "_law_kept")),(.str (S "_law_kept") 599),(.ref 251)⟩,⟨(PyData.keyHash P (S "_law_rows")),(.str (S "_law_rows") 613),(.ref 258)⟩,⟨(PyData.keyHash P (S "_law_groups")),(.str (S "_law_groups") 619),(.ref 263)⟩,⟨(PyData.keyHash P (S "law")),(.str (S "law") 625),(.ref 268)⟩] 18),#[]⟩),
 (68,⟨(.type "cell"),none,(.cell (some (.ref 135))),#[]⟩),
 (75,⟨(.type "dict"),none,(.dict #[] 0),#[]⟩),
 (81,⟨(.type "code"),none,(.fields #[(.str (S "__new__") 274),(.str (S "Match.__new__") 275),(.str (S "/claim/cut.py") 276),(.int 29 0),(.int 4 0),(.int 0 0),(.int 0 0),(.int 3 0),(.ref 76),(.bool true),(.int 181 0),(.ref 77),.none,(.ref 78),(.ref 79),(.ref 80),(.int 281 0),(.int 29 0),(.str (S "/claim/cut.py") 282)]),#[]⟩),
 (82,⟨(.type "function"),none,(.func (fnD (inS (topS p 3) 4) (S "Match.__new__") .none .none 283 (.str (S "cpy313.difflib") 194) none (.ref 81) .none [])),#[]⟩),
 (88,⟨(.type "code"),none,(.fields #[(.str (S "_make") 285),(.str (S "Match._make") 286),(.str (S "/claim/cut.py") 287),(.int 33 0),(.int 2 0),(.int 0 0),(.int 0 0),(.int 3 0),(.ref 83),(.bool true),(.int 181 0),(.ref 84),.none,(.ref 85),(.ref 86),(.ref 87),(.int 291 0),(.int 33 0),(.str (S "/claim/cut.py") 292)]),#[]⟩),
 (89,⟨(.type "function"),none,(.func (fnD (inS (topS p 3) 5) (S "Match._make") .none .none 293 (.str (S "cpy313.difflib") 194) (some 92) (.ref 88) .none [])),#[]⟩),
 (90,⟨(.type "dict"),none,(.dict #[⟨(PyData.keyHash P (S "__module__")),(.str (S "__module__") 295),(.str (S "cpy313.difflib") 194)⟩,⟨(PyData.keyHash P (S "__name__")),(.str (S "__name__") 298),(.str (S "_make") 297)⟩,⟨(PyData.keyHash P (S "__qualname__")),(.str (S "__qualname__") 301),(.str (S "Match._make") 300)⟩,⟨(PyData.keyHash P (S "__doc__")),(.str (S "__doc__") 303),(.str (docS (inS (topS p 3) 5)) 293)⟩,⟨(PyData.keyHash P (S "__annotations__")),(.str (S "__annotations__") 305),(.ref 92)⟩] 5),#[]⟩),
 (91,⟨(.type "classmethod"),(some 90),(.fields #[(.ref 89),(.bool false)]),#[]⟩),
 (92,⟨(.type "dict"),none,(.dict #[] 0),#[]⟩),
 (134,⟨(.type "dict"),none,(.dict #[⟨(PyData.keyHash P (S "__module__")),(.str (S "__module__") 260),(.str (S "cpy313.difflib") 194)⟩,⟨(PyData.keyHash P (S "__firstlineno__")),(.str (S "__firstlineno__") 264),(.int 23 263)⟩,⟨(PyData.keyHash P (S "__doc__")),(.str (S "__doc__") 266),(.str (S "Match(a, b, size)") 265)⟩,⟨(PyData.keyHash P (S "__slots__")),(.str (S "__slots__") 268),(.ref 73)⟩,⟨(PyData.keyHash P (S "_fields")),(.str (S "_fields") 272),(.ref 74)⟩,⟨(PyData.keyHash P (S "_field_defaults")),(.str (S "_field_defaults") 273),(.ref 75)⟩,⟨(PyData.keyHash P (S "__new__")),(.str (S "__new__") 284),(.ref 136)⟩,⟨(PyData.keyHash P (S "_make")),(.str (S "_make") 306),(.ref 91)⟩,⟨(PyData.keyHash P (S "_replace")),(.str (S "_replace") 317),(.ref 100)⟩,⟨(PyData.keyHash P (S "__replace__")),(.str (S "__replace__") 318),(.ref 100)⟩,⟨(PyData.keyHash P (S "__repr__")),(.str (S "__repr__") 326),(.ref 107)⟩,⟨(PyData.keyHash P (S "_asdict")),(.str (S "_asdict") 333),(.ref 114)⟩,⟨(PyData.keyHash P (S "__getnewargs__")),(.str (S "__getnewargs__") 341),(.ref 121)⟩,⟨(PyData.keyHash P (S "__match_args__")),(.str (S "__match_args__") 345),(.ref 122)⟩,⟨(PyData.keyHash P (S "a")),(.str (S "a") 355),(.ref 124)⟩,⟨(PyData.keyHash P (S "b")),(.str (S "b") 365),(.ref 127)⟩,⟨(PyData.keyHash P (S "size")),(.str (S "size") 375),(.ref 130)⟩,⟨(PyData.keyHash P (S "__static_attributes__")),(.str (S "__static_attributes__") 376),(.ref 132)⟩] 2),#[]⟩),
 (135,⟨(.type "type"),none,(.cls { name:=(S "Match"),bases:=[(.type "tuple")],mro:=[(.ref 135),(.type "tuple"),(.type "object")],ns:=134,qualname:=(S "Match"),hasDict:=false,slotNames:=[],subclasses:=[],abstract:=false,collection:=none,hasDel:=false }),#[(some (.ref 65)),none,(some (.str (S "Match") 253)),(some (.str (S "Match") 261)),(some .none),(some (.bool false))]⟩),
 (136,⟨(.type "staticmethod"),none,(.fields #[(.ref 82)]),#[]⟩),
 (153,⟨(.type "tuple"),none,(.seq #[.none,(.str (S "") 404),(.str (S "") 405),(.bool true)] 0),#[]⟩),
 (159,⟨(.type "code"),none,(.fields #[(.str (S "__init__") 406),(.str (S "SequenceMatcher.__init__") 407),(.str (S "/claim/cut.py") 408),(.int 145 0),(.int 5 0),(.int 0 0),(.int 0 0),(.int 3 0),(.ref 154),(.bool true),(.int 181 0),(.ref 155),.none,(.ref 156),(.ref 157),(.ref 158),(.int 414 0),(.int 145 0),(.str (S "/claim/cut.py") 415)]),#[]⟩),
 (160,⟨(.type "function"),none,(.func (fnD (inS (topS p 5) 1) (S "SequenceMatcher.__init__") (.ref 153) .none 416 (.str (S "cpy313.difflib") 194) none (.ref 159) .none [])),#[]⟩),
 (166,⟨(.type "code"),none,(.fields #[(.str (S "set_seqs") 418),(.str (S "SequenceMatcher.set_seqs") 419),(.str (S "/claim/cut.py") 420),(.int 173 0),(.int 3 0),(.int 0 0),(.int 0 0),(.int 3 0),(.ref 161),(.bool true),(.int 181 0),(.ref 162),.none,(.ref 163),(.ref 164),(.ref 165),(.int 424 0),(.int 173 0),(.str (S "/claim/cut.py") 425)]),#[]⟩),
 (167,⟨(.type "function"),none,(.func (fnD (inS (topS p 5) 2) (S "SequenceMatcher.set_seqs") .none .none 426 (.str (S "cpy313.difflib") 194) none (.ref 166) .none [])),#[]⟩),
 (173,⟨(.type "code"),none,(.fields #[(.str (S "set_seq1") 428),(.str (S "SequenceMatcher.set_seq1") 429),(.str (S "/claim/cut.py") 430),(.int 184 0),(.int 2 0),(.int 0 0),(.int 0 0),(.int 3 0),(.ref 168),(.bool true),(.int 181 0),(.ref 169),.none,(.ref 170),(.ref 171),(.ref 172),(.int 433 0),(.int 184 0),(.str (S "/claim/cut.py") 434)]),#[]⟩),
 (174,⟨(.type "function"),none,(.func (fnD (inS (topS p 5) 3) (S "SequenceMatcher.set_seq1") .none .none 435 (.str (S "cpy313.difflib") 194) none (.ref 173) .none [])),#[]⟩),
 (180,⟨(.type "code"),none,(.fields #[(.str (S "set_seq2") 437),(.str (S "SequenceMatcher.set_seq2") 438),(.str (S "/claim/cut.py") 439),(.int 209 0),(.int 2 0),(.int 0 0),(.int 0 0),(.int 3 0),(.ref 175),(.bool true),(.int 181 0),(.ref 176),.none,(.ref 177),(.ref 178),(.ref 179),(.int 442 0),(.int 209 0),(.str (S "/claim/cut.py") 443)]),#[]⟩),
 (181,⟨(.type "function"),none,(.func (fnD (inS (topS p 5) 4) (S "SequenceMatcher.set_seq2") .none .none 444 (.str (S "cpy313.difflib") 194) none (.ref 180) .none [])),#[]⟩),
 (187,⟨(.type "code"),none,(.fields #[(.str (S "__chain_b") 446),(.str (S "SequenceMatcher.__chain_b") 447),(.str (S "/claim/cut.py") 448),(.int 236 0),(.int 1 0),(.int 0 0),(.int 0 0),(.int 3 0),(.ref 182),(.bool true),(.int 181 0),(.ref 183),.none,(.ref 184),(.ref 185),(.ref 186),(.int 461 0),(.int 236 0),(.str (S "/claim/cut.py") 462)]),#[]⟩),
 (188,⟨(.type "function"),none,(.func (fnD (inS (topS p 5) 5) (S "SequenceMatcher.__chain_b") .none .none 0 (.str (S "cpy313.difflib") 194) none (.ref 187) .none [])),#[]⟩),
 (189,⟨(.type "tuple"),none,(.seq #[(.int 0 464),.none,(.int 0 465),.none] 0),#[]⟩),
 (195,⟨(.type "code"),none,(.fields #[(.str (S "find_longest_match") 466),(.str (S "SequenceMatcher.find_longest_match") 467),(.str (S "/claim/cut.py") 468),(.int 260 0),(.int 5 0),(.int 0 0),(.int 0 0),(.int 3 0),(.ref 190),(.bool true),(.int 181 0),(.ref 191),.none,(.ref 192),(.ref 193),(.ref 194),(.int 488 0),(.int 260 0),(.str (S "/claim/cut.py") 489)]),#[]⟩),
 (196,⟨(.type "function"),none,(.func (fnD (inS (topS p 5) 6) (S "SequenceMatcher.find_longest_match") (.ref 189) .none 490 (.str (S "cpy313.difflib") 194) none (.ref 195) .none [])),#[]⟩),
 (202,⟨(.type "code"),none,(.fields #[(.str (S "get_matching_blocks") 492),(.str (S "SequenceMatcher.get_matching_blocks") 493),(.str (S "/claim/cut.py") 494),(.int 335 0),(.int 1 0),(.int 0 0),(.int 0 0),(.int 3 0),(.ref 197),(.bool true),(.int 181 0),(.ref 198),.none,(.ref 199),(.ref 200),(.ref 201),(.int 515 0),(.int 335 0),(.str (S "/claim/cut.py") 516)]),#[]⟩),
 (203,⟨(.type "function"),none,(.func (fnD (inS (topS p 5) 7) (S "SequenceMatcher.get_matching_blocks") .none .none 517 (.str (S "cpy313.difflib") 194) none (.ref 202) .none [])),#[]⟩),
 (209,⟨(.type "code"),none,(.fields #[(.str (S "get_opcodes") 519),(.str (S "SequenceMatcher.get_opcodes") 520),(.str (S "/claim/cut.py") 521),(.int 383 0),(.int 1 0),(.int 0 0),(.int 0 0),(.int 3 0),(.ref 204),(.bool true),(.int 181 0),(.ref 205),.none,(.ref 206),(.ref 207),(.ref 208),(.int 530 0),(.int 383 0),(.str (S "/claim/cut.py") 531)]),#[]⟩),
 (210,⟨(.type "function"),none,(.func (fnD (inS (topS p 5) 8) (S "SequenceMatcher.get_opcodes") .none .none 532 (.str (S "cpy313.difflib") 194) none (.ref 209) .none [])),#[]⟩),
 (211,⟨(.type "tuple"),none,(.seq #[(.int 3 534)] 0),#[]⟩),
 (217,⟨(.type "code"),none,(.fields #[(.str (S "get_grouped_opcodes") 535),(.str (S "SequenceMatcher.get_grouped_opcodes") 536),(.str (S "/claim/cut.py") 537),(.int 430 0),(.int 2 0),(.int 0 0),(.int 0 0),(.int 35 0),(.ref 212),(.bool true),(.int 181 0),(.ref 213),.none,(.ref 214),(.ref 215),(.ref 216),(.int 548 0),(.int 430 0),(.str (S "/claim/cut.py") 549)]),#[]⟩),
 (218,⟨(.type "function"),none,(.func (fnD (inS (topS p 5) 9) (S "SequenceMatcher.get_grouped_opcodes") (.ref 211) .none 550 (.str (S "cpy313.difflib") 194) none (.ref 217) .none [])),#[]⟩),
 (241,⟨(.type "dict"),none,(.dict #[⟨(PyData.keyHash P (S "__module__")),(.str (S "__module__") 396),(.str (S "cpy313.difflib") 194)⟩,⟨(PyData.keyHash P (S "__firstlineno__")),(.str (S "__firstlineno__") 400),(.int 70 399)⟩,⟨(PyData.keyHash P (S "__doc__")),(.str (S "__doc__") 402),(.str (docS (topS p 5)) 401)⟩,⟨(PyData.keyHash P (S "__init__")),(.str (S "__init__") 417),(.ref 160)⟩,⟨(PyData.keyHash P (S "set_seqs")),(.str (S "set_seqs") 427),(.ref 167)⟩,⟨(PyData.keyHash P (S "set_seq1")),(.str (S "set_seq1") 436),(.ref 174)⟩,⟨(PyData.keyHash P (S "set_seq2")),(.str (S "set_seq2") 445),(.ref 181)⟩,⟨(PyData.keyHash P (S "_SequenceMatcher__chain_b")),(.str (S "_SequenceMatcher__chain_b") 463),(.ref 188)⟩,⟨(PyData.keyHash P (S "find_longest_match")),(.str (S "find_longest_match") 491),(.ref 196)⟩,⟨(PyData.keyHash P (S "get_matching_blocks")),(.str (S "get_matching_blocks") 518),(.ref 203)⟩,⟨(PyData.keyHash P (S "get_opcodes")),(.str (S "get_opcodes") 533),(.ref 210)⟩,⟨(PyData.keyHash P (S "get_grouped_opcodes")),(.str (S "get_grouped_opcodes") 551),(.ref 218)⟩,⟨(PyData.keyHash P (S "ratio")),(.str (S "ratio") 560),(.ref 225)⟩,⟨(PyData.keyHash P (S "quick_ratio")),(.str (S "quick_ratio") 567),(.ref 232)⟩,⟨(PyData.keyHash P (S "real_quick_ratio")),(.str (S "real_quick_ratio") 574),(.ref 239)⟩,⟨(PyData.keyHash P (S "__static_attributes__")),(.str (S "__static_attributes__") 585),(.ref 240)⟩,⟨(PyData.keyHash P (S "__dict__")),(.str (S "__dict__") 587),(.ref 243)⟩,⟨(PyData.keyHash P (S "__weakref__")),(.str (S "__weakref__") 589),(.ref 244)⟩] 3),#[]⟩),
 (242,⟨(.type "type"),none,(.cls { name:=(S "SequenceMatcher"),bases:=[(.type "object")],mro:=[(.ref 242),(.type "object")],ns:=241,qualname:=(S "SequenceMatcher"),hasDict:=true,slotNames:=[],subclasses:=[],abstract:=false,collection:=none,hasDel:=false }),#[none,none,(some (.str (S "SequenceMatcher") 389)),(some (.str (S "SequenceMatcher") 397)),(some (.builtin "object.__new__")),(some (.bool true))]⟩),
 (250,⟨(.type "code"),none,(.fields #[(.str (S "_law_kept") 594),(.str (S "_law_kept") 595),(.str (S "/claim/cut.py") 596),(.int 505 0),(.int 2 0),(.int 0 0),(.int 0 0),(.int 3 0),(.ref 247),(.bool true),(.int 181 0),(.ref 248),.none,.none,.none,(.ref 249),(.int 597 0),(.int 505 0),(.str (S "/claim/cut.py") 598)]),#[]⟩),
 (251,⟨(.type "function"),none,(.func (fnD (topS p 7) (S "_law_kept") .none .none 0 (.str (S "law_dm0058_02") 592) none (.ref 250) .none [])),#[]⟩),
 (257,⟨(.type "code"),none,(.fields #[(.str (S "_law_rows") 600),(.str (S "_law_rows") 601),(.str (S "/claim/cut.py") 602),(.int 520 0),(.int 3 0),(.int 0 0),(.int 0 0),(.int 3 0),(.ref 252),(.bool true),(.int 181 0),(.ref 253),.none,(.ref 254),(.ref 255),(.ref 256),(.int 611 0),(.int 520 0),(.str (S "/claim/cut.py") 612)]),#[]⟩),
 (258,⟨(.type "function"),none,(.func (fnD (topS p 8) (S "_law_rows") .none .none 0 (.str (S "law_dm0058_02") 592) none (.ref 257) .none [])),#[]⟩),
 (262,⟨(.type "code"),none,(.fields #[(.str (S "_law_groups") 614),(.str (S "_law_groups") 615),(.str (S "/claim/cut.py") 616),(.int 530 0),(.int 2 0),(.int 0 0),(.int 0 0),(.int 3 0),(.ref 259),(.bool true),(.int 181 0),(.ref 260),.none,.none,.none,(.ref 261),(.int 617 0),(.int 530 0),(.str (S "/claim/cut.py") 618)]),#[]⟩),
 (263,⟨(.type "function"),none,(.func (fnD (topS p 9) (S "_law_groups") .none .none 0 (.str (S "law_dm0058_02") 592) none (.ref 262) .none [])),#[]⟩),
 (267,⟨(.type "code"),none,(.fields #[(.str (S "law") 620),(.str (S "law") 621),(.str (S "/claim/cut.py") 622),(.int 546 0),(.int 1 0),(.int 0 0),(.int 0 0),(.int 3 0),(.ref 264),(.bool true),(.int 181 0),(.ref 265),.none,.none,.none,(.ref 266),(.int 623 0),(.int 546 0),(.str (S "/claim/cut.py") 624)]),#[]⟩),
 (268,⟨(.type "function"),none,(.func (fnD (topS p 10) (S "law") .none .none 0 (.str (S "law_dm0058_02") 592) none (.ref 267) .none [])),#[]⟩)]
def FX:List Addr:=[2,3,68,75,81,82,88,89,90,91,92,134,135,136,153,159,160,166,167,173,174,180,181,187,188,189,195,196,202,203,209,210,211,217,218,241,242,250,251,257,258,262,263,267,268]

theorem L9 (p:Program)(P:Params):FX=(KP p P).map (·.1):=rfl
def xtV (s:Shared):Bool:=xlAt qV [] s && recOk [] s
def obsT (w:World)(s:SharedT):=((staticsOk (importedModules pT.main.body) (boot_heap w.params) s.abs.heap && namesBound pT s.abs.heap && gensDone s.abs && laidKept (boot_heap w.params) s.abs.heap),
 PySem.W.Fast.tw4187177175401517315 qV Cq (importedModules pT.main.body) xtV true s.abs,FX.map s.abs.heap.get?,s.os)
set_option maxRecDepth 100000 in
theorem big:∀(w:World),(λos=>(theRun w os).map (obsT w))=(λos=>some (true,openGood qV Cq,(KP pT w.params).map (λp=>some p.2),os)):=λw=>by kernel_rfl
def hkV:Hook:=kHook (KP PySem.Challenge.pw_dm0058_02) FX (L9 _)
theorem LA:∀w:World,(fencedOpening treeTable PySem.Challenge.pw_dm0058_02 w 4600).map (λs=>(s.heap,s.gens,s.drawn,s.toks))=some (boot_heap w.params,Array.mk [],boot_drawn,boot_toks):=
 boot_open rfl ∅ (λ_=>rfl)
theorem LB (w:World):((boot_heap w.params).isNs mainGlobals && (Array.mk []:Array GenState).size == 0,(boot_heap w.params).objs.size,(boot_heap w.params).nsMap mainGlobals "__annotations__")=(true,11,some (.ref 6)):=by kernel_rfl
theorem LC (w:World)(os:OsState):(S0 w os).abs=⟨boot_heap w.params,#[],boot_drawn,boot_toks,os⟩:=by unfold S0 SharedT.abs;rw[Ly]
theorem runV {w:World}{os:OsState}{s':SharedT}(hs:theRun w os=some s'):topRun treeTable PySem.Challenge.pw_dm0058_02 w 11 (some (.ref 6)) 4600 ⟨boot_heap w.params,#[],boot_drawn,boot_toks,os⟩ (topStub PySem.Challenge.pw_dm0058_02)=some s'.abs:=by unfold theRun at hs;have r:=L5 hs;rw[LC,<-FW]at r;show topRun_mono 2300 _ _ _ _ r
theorem bigV (w:World)(os:OsState):(theRun w os).map (obsT w)=some (true,openGood qV Cq,(KP pT w.params).map (λp=>some p.2),os):=congrFun (big w) os
theorem obsV {w:World}{os:OsState}{s':SharedT}(hs:theRun w os=some s'):obsT w s'=(true,openGood qV Cq,(KP pT w.params).map (λp=>some p.2),os):=by have b:=bigV w os;rw[hs]at b;show Du b
theorem LD {w:World}{os:OsState}{s':SharedT}(hs:theRun w os=some s') :
  (staticsOk (importedModules PySem.Challenge.pw_dm0058_02.main.body) (boot_heap w.params) s'.abs.heap && namesBound PySem.Challenge.pw_dm0058_02 s'.abs.heap && gensDone s'.abs && laidKept (boot_heap w.params) s'.abs.heap)=true:=by
 rw[FW];show congrArg (·.1) (obsV hs)
theorem LE {w:World}{os:OsState}{s':SharedT}(hs:theRun w os=some s'):openSeen qV Cq (importedModules PySem.Challenge.pw_dm0058_02.main.body) xtV true s'.abs=openGood qV Cq:=by rw[FW,PySem.W.Fast.te4187177175401517315];show congrArg (·.2.1) (obsV hs)
theorem LF {w:World}{os:OsState}{s':SharedT}(hs:theRun w os=some s'):FX.map s'.abs.heap.get?=(KP PySem.Challenge.pw_dm0058_02 w.params).map (λp=>some p.2):=by rw[FW];show congrArg (·.2.2.1) (obsV hs)
theorem topV {w:World}{os:OsState}{s':SharedT}(hs:theRun w os=some s'):topFrom treeTable PySem.Challenge.pw_dm0058_02 w 4600 ⟨boot_heap w.params,#[],boot_drawn,boot_toks,os⟩=some s'.abs:=by
 obtain⟨z1,z2,z3⟩:_/\_/\_:=by simpa only[F4] using LB w
 unfold topFrom;dsimp only;rw[z1,z2,z3,runV hs];change(match staticsOk _ _ _ && namesBound _ _ && gensDone _ && laidKept _ _ with | true=>_ | false=>_)=_;rw[LD hs]
theorem LG (w:World)(os:OsState):∃s',theRun w os=some s':=by
 have b:=bigV w os;revert b;generalize theRun w os=x;cases x with
 | none=>intro b;cases b
 | some s'=>intro _;show⟨s',rfl⟩
theorem LH {w:World}{os:OsState}{s':SharedT}(hs:theRun w os=some s'):Hook.obs hkV s'.abs=Hook.val hkV w:=LF hs
theorem LI {w:World}{os:OsState}{s':SharedT}(hs:theRun w os=some s'):(topFrom treeTable PySem.Challenge.pw_dm0058_02 w 4600 ⟨boot_heap w.params,#[],boot_drawn,boot_toks,os⟩).map (λs=>(openSeen qV Cq (importedModules PySem.Challenge.pw_dm0058_02.main.body) xtV true s,Hook.obs hkV s))=some (openGood qV Cq,Hook.val hkV w):=by rw[topV hs];change some (openSeen qV Cq (importedModules PySem.Challenge.pw_dm0058_02.main.body) xtV true s'.abs,Hook.obs hkV s'.abs)=_;rw[LE hs,LH hs]
theorem LJ (w:World):∃os,fencedOpening treeTable PySem.Challenge.pw_dm0058_02 w 4600=some ⟨boot_heap w.params,#[],boot_drawn,boot_toks,os⟩:=by
 have b:=LA w;revert b;generalize fencedOpening treeTable PySem.Challenge.pw_dm0058_02 w 4600=x;cases x with
 | none=>intro b;cases b
 | some s=>
  obtain⟨h,gs,d,k,os⟩:=s;intro b;have b:=Du b;have e1:h=boot_heap w.params:=congrArg (·.1) b;have e2:gs = #[]:=congrArg (·.2.1) b;have e3:d=boot_drawn:=congrArg (·.2.2.1) b;have e4:k=boot_toks:=congrArg (·.2.2.2) b;show⟨os,by rw[e1,e2,e3,e4]⟩
theorem left:LeftO PySem.Challenge.pw_dm0058_02 qV Cq xtV (Hook.obs hkV) (Hook.val hkV) 4600:=by intro w;obtain⟨os,e⟩:=LJ w;obtain⟨s',hs⟩:=LG w os;unfold openEnds;rw[e];rw[F5];show LI hs

abbrev Hu (w:World)(s:Shared)(l:Addr):Prop:=
 wpAny (model PySem.Challenge.pw_dm0058_02 w) callerA (call (.ref 268) [.ref l])
  (λv s'=>v = .bool true/\OldK s.heap s'.heap/\s'.os=s.os/\AllBare s'.gens) (λ_ _=>False) s
theorem LK {w:World}{h:Heap}{mg:An->Option Value}(X:(KP PySem.Challenge.pw_dm0058_02 w.params).In h)(g:h.Ns mainGlobals mg):mg (S "law")=some (.ref 268):=by obtain⟨o,es,ep,ho,hd,_,hm⟩:=g;rw[<-hm];have e:=X 3 _ (show _=some _ from rfl);rw[show mainGlobals=3 from rfl,e]at ho;cases ho;cases hd;kernel_rfl
set_option maxHeartbeats 8000000 in
theorem head (walk:∀(w:World) (s:Shared) (mean:ExcName->Option Value) (mg mb:An->Option Value) (l:Addr) (vs:List Value) (ns:List Int),
   Top qV (looseW qV Cq) mean mg mb s.heap->(KP PySem.Challenge.pw_dm0058_02 w.params).In s.heap->s.gens = #[]->s.heap.IsList l vs.toArray->IntsAre vs ns->ns.length<=63 ->
   (PyData.list (ns.map PyData.int)).layable0=true->Hu w s l):PySem.Challenge.rw_dm0058_02.Holds:=by
 w_on
 show holds_law ∅ λsaid=>?_;show holds_open (q:=qV) (loose:=Cq) (Xt:=xtV) (XP:=XL qV []) (Yf:=Hook.obs hkV) (Ya:=Hook.val hkV) (YP:=Hook.says hkV) (N:=4600) left (Hook.of hkV) (Hook.keeps hkV) (λs e=>xl_of s (GG.mp e).1) XL.keeps (by rfl) (by rfl) (by rfl) (λs e=>recFacts_of (GG.mp e).2) (by rfl) () (by decide +kernel) ⟨rfl,rfl,rfl,rfl,rfl,by decide +kernel⟩ ?hw ?hc
 case hw=>w_witness2
 intro w s₀ ar mg mb G Y fa o pm cd doc dV kV ho hd hcd hD hmg hg args vals as hpre hlay hrd hwl hlo;have X:(KP PySem.Challenge.pw_dm0058_02 w.params).In ar.heap:=Y;have T:=G.T;clear ho hd hcd hD Y;have hfa:fa=268:=by have h1:=LK X T.g;have h2:mg (S "law")=some (.ref fa):=hmg;rw[h1]at h2;cases h2;rfl
 subst hfa;clear hmg
 wrow_args hpre hlay hrd hwl hlo
 rename_i ns _ _ hL _ _ _ _ l vs _ hl _ _ _ hI _ hc _;show wpAny_mono (walk w ar _ mg mb l vs ns T X hg hl hI (by omega) hL) (λv s' h=>?_) (λ_ _ h=>h.elim);obtain⟨hv,hk,hos,hb⟩:=h;subst hv;show⟨.inl ⟨_,.bool true,[],rfl,λ_=>rfl,.bool true,by kernel_rfl,λ_=>⟨List.nodup_nil,λ_ h=>by cases h⟩⟩,hk,hos,hb⟩
set_option tactic.hygienic false
abbrev PW:=PySem.Challenge.pw_dm0058_02
def BadP (w:World):Prop:=∃(s:Shared) (mean:ExcName->Option Value) (mg mb:An->Option Value) (l:Addr) (vs:List Value) (ns:List Int),Top qV (looseW qV Cq) mean mg mb s.heap/\(KP PySem.Challenge.pw_dm0058_02 w.params).In s.heap/\s.gens = #[]/\s.heap.IsList l vs.toArray/\IntsAre vs ns/\ns.length<=63/\¬Hu w s l
def W0:World:=@Classical.epsilon _ ⟨⟨λ_ _=>0,{ strHash:=λ_=>0,shareClass:=λ_=>0,mergeTok:=λt=>t,idOf:=λ_=>0,idOfShared:=λ_ _=>0,followText:=λ_=>true,idOfImm:=λ_=>0 }⟩⟩ BadP
abbrev Md:=model PW W0
theorem LM (walk:∀(s:Shared) (mean:ExcName->Option Value) (mg mb:An->Option Value) (l:Addr) (vs:List Value) (ns:List Int),Top qV (looseW qV Cq) mean mg mb s.heap->(KP PySem.Challenge.pw_dm0058_02 W0.params).In s.heap->s.gens = #[]->s.heap.IsList l vs.toArray->IntsAre vs ns->ns.length<=63->Hu W0 s l):PySem.Challenge.rw_dm0058_02.Holds:=
 head λw s mean mg mb l vs ns T X hg hl hI az _=>B1 λhn=>by obtain⟨s,mean,mg,mb,l,vs,ns,T,X,hg,hl,hI,az,hn⟩:=Classical.epsilon_spec (p:=BadP) ⟨w,s,mean,mg,mb,l,vs,ns,T,X,hg,hl,hI,az,hn⟩;show hn (walk s mean mg mb l vs ns T X hg hl hI az)
open PySem PySem.W PyProof.Rows PySem.Calls
open PySem PySem.W PyProof.Rows PySem.Calls Builtin
inductive AV where
 | none
 | bool (b:Bool)
 | int (i:Int)
 | str (s:An)
 | flt (x:UInt64)
 | ref (a:Addr)
 | ty (n:String)
 | bi (id:String)
 | tup (xs:List AV)
 | mat (xs:List AV)
abbrev Loc:=An->Option AV
inductive AO where
 | list (xs:List AV)
 | ns (m:Loc)
 | atr (m:Loc)
 | obj (o:Obj)
 | cell (v:Option AV)
 | dict (kvs:List (Int×AV))
 | set (f:Int->Bool) (n:Nat)
abbrev Hp:=Addr->Option AO
def Hp.set (hp:Hp)(a:Addr)(o:AO):Hp:=λb=>if b=a then some o else hp b
local macro_rules |`($h[$m]!)=>`(Hp.set $h (Env.locals $(Lean.mkIdent `aa)) (.ns $m))
abbrev matC:Addr:=135
def Imm (o:Obj):Prop:=(o.cls = .type "tuple" \/ o.cls = .ref matC)/\∃xs n,o.data = .seq xs n
def ImmLe (h h':Heap):Prop:=∀b o,h.get? b=some o->Imm o->h'.get? b=some o
def IsMat (h:Heap)(a:Addr)(items:Array Value):Prop:=∃o,h.get? a=some o/\o.cls = .ref matC/\∃n,o.data = .seq items n
mutual
def VR (h:Heap):AV->Value->Prop
 | .none,v=>v = .none
 | .bool b,v=>v = .bool b
 | .int i,v=>∃t,v = .int i t
 | .str s,v=>∃t,v = .str s t
 | .flt x,v=>∃t,v = .float x t
 | .ref a,v=>v = .ref a
 | .ty n,v=>v = .type n
 | .bi n,v=>v = .builtin n
 | .tup xs,v=>∃a vs,v = .ref a/\IsTup h a vs/\VRs h xs vs.toList
 | .mat xs,v=>∃a vs,v = .ref a/\IsMat h a vs/\VRs h xs vs.toList
def VRs (h:Heap):List AV->List Value->Prop
 | [],vs=>vs=[]
 | x::xs,vs=>∃v r,vs=v::r/\VR h x v/\VRs h xs r
end
def LocR (h:Heap)(m:Loc)(mv:An->Option Value):Prop:=(∀x v,m x=some v->∃u,mv x=some u/\VR h v u)/\∀x,m x=none->mv x=none
def attrNames:List An:=["isjunk", "a", "b", "autojunk", "matching_blocks", "opcodes", "fullbcount", "b2j", "bjunk", "bpopular"]
def IPairs:List DictEntry->List (Int×Value)->Prop
 | [],ps=>ps=[]
 | e::es,ps=>∃kv r,ps=kv::r/\Value.isInt kv.1 e.key=true/\e.val=kv.2/\IPairs es r
def IDict (h:Heap)(a:Addr)(ps:List (Int×Value)):Prop:=
 ∃o es ep,h.get? a=some o/\o.ExactDict/\o.data = .dict es ep/\(∀e∈es,∃k,Value.isInt k e.key=true/\e.hash=hashInt k)/\IPairs es.toList ps/\(ps.map (·.1)).Nodup
def ISet (h:Heap)(a:Addr)(f:Int->Bool)(n:Nat):Prop:=
 ∃o es ep t,h.get? a=some o/\o.ExactSet/\o.data = .set es ep t/\(∀e∈es.toList,(∃k,Value.isInt k e.2=true/\e.1=hashInt k)/\e.2.scannable=true)/\(∀k,f k=true↔∃e∈es.toList,Value.isInt k e.2=true)
  /\ es.size<scanBound/\t.fits es.size=true/\es.size=n
def CellR (h:Heap):Option AV->Option Value->Prop
 | none,u=>u=none
 | some v,u=>∃x,u=some x/\VR h v x
def OR (h:Heap)(a:Addr):AO->Prop
 | .list xs=>∃vs n,IsL h a vs n/\VRs h xs vs.toList
 | .ns m=>∃mv,h.Ns a mv/\LocR h m mv
 | .atr m=>∃mv,h.Ns1 a mv/\LocR h m mv/\Within mv attrNames
 | .obj o=>h.get? a=some o/\¬Imm o
 | .cell v=>∃o u,h.get? a=some o/\o.data = .cell u/\CellR h v u
 | .dict kvs=>∃ps,IDict h a ps/\ps.map (·.1)=kvs.map (·.1)/\VRs h (kvs.map (·.2)) (ps.map (·.2))
 | .set f n=>ISet h a f n
def GensLe (a b:Array GenState):Prop:=∀(i:Nat) (g:GenState),a[i]?=some g->b[i]?=some g
structure Rel (B:Shared)(hp:Hp)(s:Shared):Prop where
 keep:∀b o,B.heap.get? b=some o->s.heap.get? b=some o
 objs:∀a o,hp a=some o->B.heap.objs.size<=a/\OR s.heap a o
 os:s.os=B.os
 bare:AllBare s.gens/\GensLe B.gens s.gens
 size:B.heap.objs.size<=s.heap.objs.size
inductive AF where
 | next | brk | cont
 | ret (v:AV)
abbrev QV:=AV->Hp->Prop
abbrev QX:=AF->Loc->Hp->Prop
abbrev ET:=Value->Shared->Prop
def FR (h:Heap):AF->Flow->Prop
 | .next,f=>f = .next
 | .brk,f=>f = .brk
 | .cont,f=>f = .cont
 | .ret v,f=>∃u,f = .ret u/\VR h v u
inductive PV (B:Shared) (L:Addr) (m:Loc) (h:Heap) (Q:QV) (v:Value) (s':Shared):Prop where
 | mk (av:AV) (ah:Hp) (r:Rel B (ah.set L (.ns m)) s') (le:ImmLe h s'.heap) (hv:VR s'.heap av v) (q:Q av ah)
inductive PVs (B:Shared) (L:Addr) (m:Loc) (h:Heap) (Q:List AV->Hp->Prop) (v:List Value) (s':Shared):Prop where
 | mk (av:List AV) (ah:Hp) (r:Rel B (ah.set L (.ns m)) s') (le:ImmLe h s'.heap) (hv:VRs s'.heap av v) (q:Q av ah)
inductive PT (B:Shared) (L:Addr) (m:Loc) (h:Heap) (Q:Bool->Hp->Prop) (v:Bool) (s':Shared):Prop where
 | mk (ah:Hp) (r:Rel B (ah.set L (.ns m)) s') (le:ImmLe h s'.heap) (q:Q v ah)
inductive PA (B:Shared) (L:Addr) (h:Heap) (Q:Loc->Hp->Prop) (v:Unit) (s':Shared):Prop where
 | mk (m':Loc) (ah:Hp) (r:Rel B (ah.set L (.ns m')) s') (le:ImmLe h s'.heap) (q:Q m' ah)
inductive PX (B:Shared) (L:Addr) (h:Heap) (Q:QX) (v:Flow) (s':Shared):Prop where
 | mk (af:AF) (m':Loc) (ah:Hp) (r:Rel B (ah.set L (.ns m')) s') (le:ImmLe h s'.heap) (hf:FR s'.heap af v) (q:Q af m' ah)
def EV (M:Model)(A:Around)(E:ET)(B:Shared)(aa:Env)(e:Expr)(m:Loc)(hp:Hp)(Q:QV):Prop:=
 ∀s,Rel B hp[m]! s->wpAny M A (eval e aa) (PV B aa.locals m s.heap Q) E s
def TST (M:Model)(A:Around)(E:ET)(B:Shared)(aa:Env)(e:Expr)(m:Loc)(hp:Hp)(Q:Bool->Hp->Prop):Prop:=
 ∀s,Rel B hp[m]! s->wpAny M A (isTrue e aa (eval e aa)) (PT B aa.locals m s.heap Q) E s
def EX (M:Model)(A:Around)(E:ET)(B:Shared)(aa:Env)(st:Stmt)(m:Loc)(hp:Hp)(Q:QX):Prop:=
 ∀s,Rel B hp[m]! s->wpAny M A (exec st aa) (PX B aa.locals s.heap Q) E s
def EXs (M:Model)(A:Around)(E:ET)(B:Shared)(aa:Env)(sts:List Stmt)(m:Loc)(hp:Hp)(Q:QX):Prop:=
 ∀s,Rel B hp[m]! s->wpAny M A (execs sts aa) (PX B aa.locals s.heap Q) E s
abbrev SEQ (M:Model)(A:Around)(E:ET)(B:Shared)(aa:Env)(aC:List Stmt)(Q:QX):AF->Loc->Hp->Prop:=λf m' ah=>match f with | .next=>EXs M A E B aa aC m' ah Q | f=>Q f m' ah
def OP2 (M:Model)(A:Around)(E:ET)(B:Shared)(aa:Env)(f:Value->Value->Sem Value)(m:Loc)(a b:AV)(hp:Hp)(Q:QV):Prop:=
 ∀s u v,Rel B hp[m]! s->VR s.heap a u->VR s.heap b v->wpAny M A (f u v) (PV B aa.locals m s.heap Q) E s
abbrev LN (M:Model)(A:Around)(E:ET)(B:Shared)(aa:Env)(m:Loc)(r:Expr)(op:Operator)(Q:QV):AV->Hp->Prop:=λa ak=>EV M A E B aa r m ak λb ae=>OP2 M A E B aa (binaryOp op) m a b ae Q
abbrev LO (M:Model)(A:Around)(E:ET)(B:Shared)(aa:Env)(m:Loc)(r:Expr)(op:CmpOp)(Q:QV):AV->Hp->Prop:=λa ak=>EV M A E B aa r m ak λb ae=>OP2 M A E B aa (compareOp op) m a b ae Q
def TRU (M:Model)(A:Around)(E:ET)(B:Shared)(aa:Env)(m:Loc)(a:AV)(hp:Hp)(Q:Bool->Hp->Prop):Prop:=
 ∀s u,Rel B hp[m]! s->VR s.heap a u->wpAny M A (truthy u) (PT B aa.locals m s.heap Q) E s
abbrev LQ (M:Model)(A:Around)(E:ET)(B:Shared)(aa:Env)(m:Loc)(r:Expr)(op:CmpOp)(Q:Bool->Hp->Prop):AV->Hp->Prop:=λa ak=>EV M A E B aa r m ak λb ae=>OP2 M A E B aa (compareOp op) m a b ae λc hpX=>TRU M A E B aa m c hpX Q
def upd (m:Loc)(x:An)(v:AV):Loc:=λy=>if y=x then some v else m y
abbrev LS (m:Loc)(Q:QX):AV->Hp->Prop:=λv ah=>Q (.ret v) m ah
def AV.isNone:AV->Bool
 | .none=>true
 | _=>false
abbrev LT(A:Around)(E:ET)(B:Shared)(aa:Env)(m:Loc)(Q:Bool->Hp->Prop):AV->Hp->Prop:=λv ah=>↥TRU m v ah Q
def ALLT (M:Model)(A:Around)(E:ET)(B:Shared)(aa:Env)(op:BoolOp)(es:List Expr)(m:Loc)(hp:Hp)(Q:Bool->Hp->Prop):Prop:=
 ∀s,Rel B hp[m]! s->wpAny M A (allTrue op es aa) (PT B aa.locals m s.heap Q) E s
def EVS (M:Model)(A:Around)(E:ET)(B:Shared)(aa:Env)(es:List Expr)(m:Loc)(hp:Hp)(Q:List AV->Hp->Prop):Prop:=
 ∀(pos:Pos) s,Rel B hp[m]! s->wpAny M A (spliced (backTo pos (starEach es aa))) (PVs B aa.locals m s.heap Q) E s
abbrev LU(A:Around)(E:ET)(B:Shared)(aa:Env)(m:Loc)(aC:List Expr)(Q:List AV->Hp->Prop):AV->Hp->Prop:=λv ah=>↥EVS aC m ah λvs hp''=>Q (v::vs) hp''
abbrev LV (Q:QV):List AV->Hp->Prop:=λvs ah=>vs.length<=sizeLine/\Q (.tup vs) ah
abbrev LW (aa:Env)(Q:QV):List AV->Hp->Prop:=λvs ah=>vs.length<=sizeLine/\∀a,ah a=none->a≠aa.locals->Q (.ref a) (ah.set a (.list vs))
def SUB (M:Model)(A:Around)(E:ET)(B:Shared)(aa:Env)(value slice:Expr)(m:Loc)(o i:AV)(hp:Hp)(Q:QV):Prop:=
 ∀s u v,Rel B hp[m]! s->VR s.heap o u->VR s.heap i v->wpAny M A (subscriptTail value slice u v) (PV B aa.locals m s.heap Q) E s
abbrev LX(A:Around)(E:ET)(B:Shared)(aa:Env)(m:Loc)(value:Expr)(slice:Expr)(Q:QV):AV->Hp->Prop:=λo ak=>↥EV slice m ak λi ae=>↥SUB value slice m o i ae Q
def Lst (B:Shared)(hp:Hp)(L a:Addr)(xs:List AV):Prop:=(hp a=some (.list xs)/\a≠L)\/∃vs,B.heap.IsList a vs/\VRs B.heap xs vs.toList
def optE (M:Model)(A:Around)(E:ET)(B:Shared)(aa:Env)(e:Option Expr)(m:Loc)(hp:Hp)(Q:QV):Prop:=match e with | some e=>EV M A E B aa e m hp Q | none=>Q .none hp
def Hv:AV->Option (Option Int)
 | .none=>some none
 | .int i=>some (some i)
 | _=>none
def pick {α:Type}(xs:List α)(lo hi:Option Int):List α:=(xs.drop (lo.elim 0 (clipAt xs.length))).take (hi.elim xs.length (clipAt xs.length)-lo.elim 0 (clipAt xs.length))
structure Gnd (K:Frag)(B:Shared):Prop where
 X:K.In B.heap
 top:∃mg mb,B.heap.Ns mainGlobals mg/\B.heap.Ns builtinsNs mb/\∀x:An,x ≠ "__name__" -> mb x=bootBuiltins x
 lim:B.heap.NoLimit
def CL (M:Model)(A:Around)(E:ET)(B:Shared)(aa:Env)(f:Value)(m:Loc)(avs:List AV)(hp:Hp)(Q:QV):Prop:=
 ∀s vs,Rel B hp[m]! s->VRs s.heap avs vs->wpAny M A (call f vs) (PV B aa.locals m s.heap Q) E s
abbrev LY(A:Around)(E:ET)(B:Shared)(aa:Env)(m:Loc)(e:Expr)(aC:List Expr)(id:String)(Q:QV):AV->Hp->Prop:=λf ak=>f = .bi id/\↥EVS (e::aC) m ak λvs ae=>↥CL (.builtin id) m vs ae Q
abbrev LZ(A:Around)(E:ET)(B:Shared)(aa:Env)(m:Loc)(e:Expr)(aC:List Expr)(f:Addr)(Q:QV):AV->Hp->Prop:=λv ak=>v = .ref f/\↥EVS (e::aC) m ak λvs ae=>↥CL (.ref f) m vs ae Q
def locOf:List (An×AV)->Loc
 | []=>λ_=>none
 | (x,v)::r=>λy=>if y=x then some v else locOf r y
def CS:AF->AV
 | .ret v=>v
 | _=>.none
def CD (M:Model)(A:Around)(E:ET)(B:Shared)(aa:Env)(f:Value)(m:Loc)(avs:List AV)(hp:Hp)(Q:QV):Prop:=
 ∀s vs,Rel B hp[m]! s->VRs s.heap avs vs->codeAny M A (.call f ⟨vs,[]⟩)
  (λr s'=>match r with | .ok (.ret v)=>PV B aa.locals m s.heap Q v s' | .ok _=>False | .error e=>E e s') s
def CD2 (M:Model)(A:Around)(E:ET)(B B₂:Shared)(aa:Env)(f:Value)(m:Loc)(avs:List AV)(hp:Hp)(Q:QV):Prop:=
 ∀s vs,Rel B hp[m]! s->VRs s.heap avs vs->codeAny M A (.call f ⟨vs,[]⟩)
  (λr s'=>match r with | .ok (.ret v)=>PV B₂ aa.locals m s.heap Q v s' | .ok _=>False | .error e=>E e s') s
def EXs2 (M:Model)(A:Around)(E:ET)(B B₂:Shared)(aa:Env)(sts:List Stmt)(m:Loc)(hp:Hp)(Q:QX):Prop:=
 ∀s,Rel B hp[m]! s->wpAny M A (execs sts aa) (PX B₂ aa.locals s.heap Q) E s
abbrev Ma(A:Around)(E:ET)(B:Shared)(aa:Env)(m:Loc)(lower:Option Expr)(upper:Option Expr)(Q:QV):AV->Hp->Prop:=λo ak=>↥optE lower m ak λlo ae=>↥optE upper m ae λhi hpX=>∃a xs kl ku,o = .ref a/\Lst B hpX aa.locals a xs/\xs.length<=sizeLine/\Hv lo=some kl/\Hv hi=some ku/\∀b,hpX b=none->b≠aa.locals->Q (.ref b) (hpX.set b (.list (pick xs kl ku)))
abbrev Mb(A:Around)(E:ET)(B:Shared)(aa:Env)(m:Loc)(e:Expr)(Q:QV):AV->Hp->Prop:=λl ak=>∃a xs₁,l = .ref a/\ak a=some (.list xs₁)/\a≠aa.locals/\↥EVS [e] m ak λvs ae=>∃xs v,vs=[v]/\ae a=some (.list xs)/\xs.length<=sizeLine/\Q .none (ae.set a (.list (xs++[v])))
abbrev IE (m:Loc)(Q:QX):AV->Hp->Prop:=λv ah=>(∀a,v≠.ref a)/\(∀xs,v≠.tup xs)/\(∀xs,v≠.mat xs)/\Q .next m ah
def ASG (M:Model)(A:Around)(E:ET)(B:Shared)(aa:Env)(t:Expr)(x:AV)(m:Loc)(hp:Hp)(Q:Loc->Hp->Prop):Prop:=
 ∀s v,Rel B hp[m]! s->VR s.heap x v->wpAny M A (assign t aa v) (PA B aa.locals s.heap Q) E s
def ASGS (M:Model)(A:Around)(E:ET)(B:Shared)(aa:Env)(ts:List (Value->Sem Unit))(xs:List AV)(m:Loc)(hp:Hp)(Q:Loc->Hp->Prop):Prop:=
 ∀s vs,Rel B hp[m]! s->VRs s.heap xs vs->wpAny M A (assignInOrder ts vs) (PA B aa.locals s.heap Q) E s
abbrev Mc(A:Around)(E:ET)(B:Shared)(aa:Env)(ts:List (Value->Sem Unit))(xs:List AV)(Q:Loc->Hp->Prop):Loc->Hp->Prop:=λm' ah=>↥ASGS ts xs m' ah Q
abbrev Me(A:Around)(E:ET)(B:Shared)(aa:Env)(m:Loc)(t₁:Expr)(t₂:Expr)(Q:QX):AV->Hp->Prop:=λv ak=>↥ASG t₁ v m ak λao ae=>↥ASG t₂ v ao ae λmX hpX=>Q .next mX hpX
abbrev Mf(A:Around)(E:ET)(B:Shared)(aa:Env)(m:Loc)(t₁:Expr)(t₂:Expr)(tX:Expr)(Q:QX):AV->Hp->Prop:=λv ak=>↥ASG t₁ v m ak λao ae=>↥ASG t₂ v ao ae λmX hpX=>↥ASG tX v mX hpX λmY hpY=>Q .next mY hpY
abbrev Mg(A:Around)(E:ET)(B:Shared)(aa:Env)(m:Loc)(elts:List Expr)(Q:QX)(k:Nat)(tpos:Pos):AV->Hp->Prop:=λv ak=>↥ASG (.Tuple elts k tpos) v m ak λao ae=>Q .next ao ae
abbrev Mh(A:Around)(E:ET)(B:Shared)(aa:Env)(m:Loc)(names:List An)(Q:QX):AV->Hp->Prop:=λv ak=>∃xs,v = .tup xs/\names.length=xs.length/\↥ASGS (names.reverse.map λn=>bindName aa n) xs.reverse m ak λao ae=>Q .next ao ae
def Hp.del (hp:Hp)(a:Addr):Hp:=λb=>if b=a then none else hp b
abbrev Mi(A:Around)(E:ET)(B:Shared)(aa:Env)(m:Loc)(e:Expr)(aC:List Expr)(T:String)(Q:QV):AV->Hp->Prop:=λf ak=>f = .ty T/\↥EVS (e::aC) m ak λvs ae=>↥CL (.type T) m vs ae Q
def RangeOb (ob:Obj)(a b:Int):Prop:=∃t u v,ob={ cls:=.type "range",dict:=none,data:=.fields #[.int a t,.int b u,.int 1 v],slots:=#[] }
mutual
inductive RD (B:Shared) (hp:Hp) (L:Addr):AV->PyData->Prop
 | none:RD B hp L .none .none
 | bool (b):RD B hp L (.bool b) (.bool b)
 | int (i):RD B hp L (.int i) (.int i)
 | str (x):RD B hp L (.str x) (.str x)
 | tup {xs ds}:RDs B hp L xs ds->RD B hp L (.tup xs) (.tuple ds)
 | list {a xs ds}:Lst B hp L a xs->RDs B hp L xs ds->RD B hp L (.ref a) (.list ds)
inductive RDs (B:Shared) (hp:Hp) (L:Addr):List AV->List PyData->Prop
 | nil:RDs B hp L [] []
 | cons {x xs d ds}:RD B hp L x d->RDs B hp L xs ds->RDs B hp L (x::xs) (d::ds)
end
abbrev Mj (aa:Env)(Q:QV):AV->Hp->Prop:=λl ak=>∃a xs v,l = .ref a/\ak a=some (.list (xs++[v]))/\a≠aa.locals/\xs.length<sizeLine/\Q v (ak.set a (.list xs))
def Hp.Le (hp ah:Hp):Prop:=∀a o,hp a=some o->ah a=some o
abbrev Mk (Q:QV):AV->Hp->Prop:=λv ah=>∃i,v = .int i/\Q (.int (-i)) ah
structure Ins (hp:Hp)(L x dx C:Addr)(ma:Loc):Prop where
 ob:hp x=some (.obj (instObj C dx))
 at_:hp dx=some (.atr ma)
 xL:x≠L
 dL:dx≠L
structure Cls (K:Frag)(C:Addr):Prop where
 ga:findIn K (.ref C) "__getattribute__" = some (some (.builtin "object.__getattribute__"))
 gk:findIn K (.ref C) "__getattr__" = some none
 hd:(clsIn K C).any (·.hasDict)=true
 sa:findIn K (.ref C) "__setattr__" = some (some (.builtin "object.__setattr__"))
 po:plainOver K C=true
abbrev Ml (aa:Env)(name:An)(C:Addr)(Q:QV):AV->Hp->Prop:=λv ak=>∃x dx ma u,v = .ref x/\Ins ak aa.locals x dx C ma/\ma name=some u/\(∀n,u≠.bi n)/\Q u ak
abbrev Mm(A:Around)(E:ET)(B:Shared)(aa:Env)(m:Loc)(e:Expr)(name:An)(aC:List Expr)(C:Addr)(f:Addr)(Q:QV):AV->Hp->Prop:=λv ak=>∃x dx ma,v = .ref x/\Ins ak aa.locals x dx C ma/\ma name=none/\↥EVS (e::aC) m ak λvs ae=>↥CL (.ref f) m (.ref x::vs) ae Q
abbrev Mn(A:Around)(E:ET)(B:Shared)(aa:Env)(m:Loc)(name:An)(C:Addr)(f:Addr)(Q:QV):AV->Hp->Prop:=λv ak=>∃x dx ma,v = .ref x/\Ins ak aa.locals x dx C ma/\ma name=none/\↥CL (.ref f) m [.ref x] ak Q
abbrev Mo (aa:Env)(m:Loc)(name:An)(C:Addr)(u:AV)(Q:Loc->Hp->Prop):AV->Hp->Prop:=λv ak=>∃x dx ma,v = .ref x/\Ins ak aa.locals x dx C ma/\Q m (ak.set dx (.atr (upd ma name u)))
abbrev Mp(A:Around)(E:ET)(B:Shared)(aa:Env)(m:Loc)(e:Expr)(aC:List Expr)(f:Addr)(Q:QV):AV->Hp->Prop:=λv ak=>v = .ref f/\↥EVS (e::aC) m ak λvs ae=>↥CL (.ref f) m vs ae Q
def RET (L:Addr)(aa:Env)(m:Loc)(Q:QV):AF->Loc->Hp->Prop:=λfl _ ah=>∃ae:Hp,Hp.Le ae[m]! ah/\ae L=none/\Q (CS fl) ae
abbrev Mq(A:Around)(E:ET)(B:Shared)(aa:Env)(m:Loc)(o:Expr)(name:An)(Q:QX)(pos':Pos):AV->Hp->Prop:=λv ak=>↥ASG (.Attribute o name pos') v m ak λao ae=>Q .next ao ae
def GR (B:Shared)(h0:Heap)(F:Hp->Prop):GenEnd:=λ_ _ r s=>r = .ok (.ret .none)/\∃hp,Rel B hp s/\ImmLe h0 s.heap/\F hp
structure Con where
 pre:AV->Hp->Prop
 post:AV->Hp->Hp->Prop
def GY (B:Shared)(L:Addr)(h0:Heap)(Cn:Con):Protocol:=λ_ _ v s kap=>∃(av:AV) (hp:Hp) (m:Loc),Rel B (hp.set L (.ns m)) s/\ImmLe h0 s.heap/\VR s.heap av v/\Cn.pre av hp /\
 ∀s' ah,Cn.post av hp ah->Rel B (ah.set L (.ns m)) s'->ImmLe h0 s'.heap->kap (.send .none) s'
def GS (PW:Program)(W0:World)(A:Around)(B:Shared)(aa:Env)(h0:Heap)(Cn:Con)(F:Hp->Prop)(n:Nat)(c:Code)(fs:List Frame)(K:Flow->Sem Fin)(H:Value->Sem Fin)(sts:List Stmt)(m:Loc)(hp:Hp):Prop:=
 ∀s s₀,Rel B hp[m]! s->ImmLe h0 s.heap->Seg Md A (GR B h0 F) (GY B aa.locals h0 Cn) n s₀ c ((execs sts aa).wrap K H id id) fs s
def GF(A:Around)(B:Shared)(aa:Env)(h0:Heap)(Cn:Con)(F:Hp->Prop)(n:Nat)(c:Code)(fs:List Frame)(K:Flow->Sem Fin)(f:AF)(m:Loc)(hp:Hp):Prop:=
 ∀s s₀ fl,Rel B hp[m]! s->ImmLe h0 s.heap->FR s.heap f fl->Seg Md A (GR B h0 F) (GY B aa.locals h0 Cn) n s₀ c (K fl) fs s
def KK (aa:Env)(aC:List Stmt)(K:Flow->Sem Fin)(H:Value->Sem Fin):Flow->Sem Fin:=λf=>match f with | .next=>(execs aC aa).wrap K H id id | f=>K f
abbrev BG (B:Shared)(gn:Array GenState)(g:Nat)(gs:GenState):Shared:={ B with gens:=gn.setIfInBounds g gs }
def lcon (hk:Hp)(S L:Addr):Con:=⟨λ_ hp=>∃acc,hp S=some (.list acc)/\S≠L/\acc.length<1000/\Hp.Le hk hp,λav hp ah=>∃acc,hp S=some (.list acc)/\ah=hp.set S (.list (acc++[av]))⟩
def Kf:Flow->Sem PySem.Fin:=λf=>.pure (.done (.ret (match f with | .ret v=>v | _=>.none)))
def Hf (aa:Env):Value->Sem PySem.Fin:=λe=>(leaving aa e).wrap (λ_=>.raise e) .raise id id
def stored (xs:List AV)(k:Int)(v:AV):List AV:=if k = -1 then xs.set (xs.length-1) v else xs.set k.toNat v
def TSTs (M:Model)(A:Around)(E:ET)(B:Shared)(aa:Env)(ifs:List Expr)(m:Loc)(hp:Hp)(Q:Bool->Hp->Prop):Prop:=
 ∀s,Rel B hp[m]! s->wpAny M A (forIn ifs true λc r=>if r=true then do let ok <-isTrue c aa (eval c aa);pure (ForInStep.yield ok) else pure (ForInStep.yield r)) (PT B aa.locals m s.heap Q) E s
def AY (id:String)(a:Addr):Obj:={ cls:=.type "builtin_function_or_method",data:=.fields #[.builtin id,.ref a] }
structure BndOk (T:String)(name:An)(id gid:String):Prop where
 slot:Slot T name id
 ty:typeOf (.builtin id)=pure (.type "method_descriptor")
 ga:Slot T "__getattribute__" gid
 gn:(Value.builtin gid == Value.builtin "object.__getattribute__")=false
 ge:entryFor table gid=some Builtin.«object.__getattribute__»
 gargs:∀x y,argsOk gid ⟨[x,y],[]⟩
 hook:typeLookup (.type T) (PySem.Str.ofString "__getattr__")=pure none
 plainName:((["__module__", "__name__", "__qualname__", "__doc__", "__annotations__"]:List An).contains name)=false
 told:Manifest.toldItsClass.contains id=false
def dget (kvs:List (Int×AV))(k:Int):Option AV:=(kvs.find? λkv=>kv.1=k).map (·.2)
def dput (kvs:List (Int×AV))(k:Int)(v:AV):List (Int×AV):=
 if kvs.any (λkv=>kv.1=k) then kvs.map (λkv=>if kv.1=k then(kv.1,v) else kv) else kvs++[(k,v)]
def KVR (h:Heap)(kvs:List (Int×AV))(ps:List (Int×Value)):Prop:=ps.map (·.1)=kvs.map (·.1)/\VRs h (kvs.map (·.2)) (ps.map (·.2))
abbrev Mr (B:Shared)(aa:Env)(m:Loc)(T:String)(id:String)(Q:QV):AV->Hp->Prop:=λv ak=>∃a,v = .ref a/\(∀s,Rel B ak[m]! s->∃ob,s.heap.get? a=some ob/\ob.cls = .type T/\ob.dict=none/\∀c,ob.data≠.cls c)/\∀x,ak x=none->x≠aa.locals->Q (.ref x) (ak.set x (.obj (AY id a)))
abbrev Ms(A:Around)(E:ET)(B:Shared)(aa:Env)(m:Loc)(e:Expr)(aC:List Expr)(id:String)(Q:QV):AV->Hp->Prop:=λv ak=>∃b a,v = .ref b/\b≠aa.locals/\↥EVS (e::aC) m ak λvs ae=>ae b=some (.obj (AY id a))/\↥CL (.ref b) m vs ae Q
abbrev Mt(A:Around)(B:Shared)(aa:Env)(ta:Expr)(body:List Stmt)(m:Loc)(ae:Hp)(Q:QX)(a:Addr)(xs:List AV)(it en:Addr):Prop:=
 ∃I:Nat->Loc->Hp->Prop,(∀o1 o2,I 0 m ((ae.set it (.obj o1)).set en (.obj o2)))/\(∀i ao ae ob,I i ao ae->I i ao (ae.set it (.obj ob)))/\(∀i ao ae ob,I i ao ae->I i ao (ae.set en (.obj ob)))/\(∀i ao ae,I i ao ae->Lst B ae aa.locals a xs) /\
   (∀i x ao ae o1 o2,xs[i]?=some x->I i ao ae->ae it=some (.obj o1)->ae en=some (.obj o2)->ASG Md A (λ_ _=>False) B aa ta (.tup [.int i,x]) ao ae λmX hpX=>EXs Md A (λ_ _=>False) B aa body mX hpX λfl mY hpY=>
    match fl with | .next | .cont=>I (i+1) mY hpY/\hpY it=some (.obj o1)/\hpY en=some (.obj o2) | .brk=>Q .next mY hpY | .ret v=>Q (.ret v) mY hpY) /\
   (∀ao ae,I xs.length ao ae->Q .next ao (ae.del it))
abbrev enO (it:Addr)(i:Int)(old:Value):Obj:={ cls:=.type "enumerate",data:=.fields #[.none,.bool false,.ref it,rawInt i,.none,old] }
abbrev liO (a:Addr)(i:Nat)(o:Obj):Prop:=o.cls = .type "list_iterator" /\ o.data = .fields #[.ref a,.int i 0]
def bindLA (kindOf:An->Option NameKind):List (An×AV)->Loc->Loc
 | [],m=>m
 | (n,v)::r,m=>bindLA kindOf r (if kindOf n=some .local then upd m n v else m)
def Dl (kindOf:An->Option NameKind):List (An×AV)->Loc->Loc
 | [],m=>m
 | (n,v)::r,m=>Dl kindOf r (if kindOf n=some .local then m else upd m n v)
def Bz (hp:Hp)(cs:List (An×Addr))(cm:Loc):Hp:=λa=>match cs.find? (λx=>decide (x.2=a)) with | some x=>some (.cell (cm x.1)) | none=>hp a
abbrev Mu (m:Loc)(c:Addr)(Q:QX):AV->Hp->Prop:=λv ah=>∃v₀,ah c=some (.cell v₀)/\Q .next m (ah.set c (.cell (some v)))
structure MatK(K:Frag):Prop where
 call:specialIn K (.ref 135) "__call__" = some (some (.builtin "type.__call__"))
 typ:instIn K (.ref 135) (.type "type")=some true
 made:peek K ⟨PW,W0.params⟩ (Bind.madeBy (.ref 135))=some none
 chk:∀a,peek K ⟨PW,W0.params⟩ (checkBuiltinCall "tuple.__new__" ⟨[.ref 135,a],[]⟩)=some ⟨⟩
 mro:peek K ⟨PW,W0.params⟩ (mroOf (.ref 135))=some [.ref 135,.type "tuple",.type "object"]
 here:peek K ⟨PW,W0.params⟩ (Bind.madeHere "tuple.__new__" (.ref 135))=some ⟨⟩
 isty:peek K ⟨PW,W0.params⟩ (isType (.ref 135))=some true
 self:mroIn K 135 (.ref 135)=some true
 top:mroIn K 135 (.type "object")=some true
 tup:mroIn K 135 (.type "tuple")=some true
 init:findIn K (.ref 135) "__init__" = some (some (.builtin "object.__init__"))
 reads:readsIn K 135 (.type "type")=true
 find:findCls K (.ref 135) (.type "type") "__new__" = some (.get (.builtin "staticmethod.__get__") (.ref 136) .none (.ref 135))
 sm:recIn K 136 "staticmethod" = some [.ref 82]
 tnew:findCls K (.type "tuple") (.type "type") "__new__" = some (.val (.builtin "tuple.__new__"))
 del:∃oc od cd sl,K.lookup 135=some ⟨oc,od,.cls cd,sl⟩/\cd.hasDel=false
def Mv (K:Frag)(R:Result->Shared->Prop)(r:Result)(s':Shared):Prop:=match r with
 | .ok (.ret v)=>∃x o,v = .ref x/\s'.heap.get? x=some o/\o.cls = .ref 135/\K.In s'.heap/\R (.ok (.ret (.ref x))) s'
 | .ok _=>False
 | .error e=>R (.error e) s'
def IsSeq (h:Heap)(t:Addr)(items:Array Value):Prop:=∃o n,h.get? t=some o/\o.data = .seq items n
def KS (lt:Nat->Nat->Bool)(n:Nat){α:Type}(Q : α->Prop):KasT α->Prop
 | .ret a=>Q a
 | .ask i j k=>i<n/\j<n/\KS lt n Q (k (lt i j))
structure PM (n:Nat)(p:Array Nat):Prop where
 sz:p.size=n
 pm:p.toList.Perm (List.range n)
structure TO (lt:Nat->Nat->Bool)(n:Nat):Prop where
 tot:∀i j,i<n->j<n->i≠j->lt i j=false->lt j i=true
 trans:∀i j k,i<n->j<n->k<n->lt i j=true->lt j k=true->lt i k=true
def UpTo (lt:Nat->Nat->Bool)(p:Array Nat)(k:Nat):Prop:=∀i j,i<j->j<k->lt (p.getD i 0) (p.getD j 0)=true
def DownTo (lt:Nat->Nat->Bool)(p:Array Nat)(k:Nat):Prop:=∀i j,i<j->j<k->lt (p.getD j 0) (p.getD i 0)=true
def lexB (x y:Int×Int×Int):Bool:=if x.1=y.1 then(if x.2.1=y.2.1 then decide (x.2.2<y.2.2) else decide (x.2.1<y.2.1)) else decide (x.1<y.1)
def triV (x:Int×Int×Int):AV:=.mat [.int x.1,.int x.2.1,.int x.2.2]
def Eu (h:Heap)(a:Addr)(x:Int×Int×Int):Prop:=∃t u v,IsMat h a #[.int x.1 t,.int x.2.1 u,.int x.2.2 v]
abbrev Tri:=Int×Int×Int
def B9 (t:Addr)(f:Value):Obj:={ cls:=.type "map",data:=.fields #[.ref t,f] }
def liOb (l:Addr)(i:Nat):Obj:={ cls:=.type "list_iterator",data:=.fields #[.ref l,.int i 0] }
def Mw (e:Value)(s:Shared):Prop:=∃x o,e = .ref x/\s.heap.get? x=some o/\o.cls = .type "StopIteration"
abbrev LMI(A:Around)(B:Shared)(aa:Env)(m:Loc)(Q:QV)(ae:Hp)(fA l:Addr)(xs:List AV)(S mo it t:Addr):Prop:=
 ∃I:Nat->List AV->Hp->Prop,
    I 0 [] (((ae.set it (.obj (liOb l 0))).set mo (.obj (B9 t (.ref fA)))).set S (.list []))/\(∀i acc hp z o,z=S\/z=it->I i acc hp->I i acc (hp.set z o))/\(∀i acc hp,I i acc hp->Lst B hp aa.locals l xs) /\
    (∀i acc hp,I i acc hp->hp mo=some (.obj (B9 t (.ref fA)))) /\
    (∀A',A'.handled=none->A'.depth=A.depth->A'.units<=A.units+8->∀i x acc hp,xs[i]?=some x->I i acc hp->CL Md A' (λ_ _=>False) B aa (.ref fA) m [x] hp λv ah=>(∀z,z=S\/z=it->ah z=hp z)/\I (i+1) (acc++[v]) ah) /\
    (∀acc ah,I xs.length acc ah->ah S=some (.list acc)->Q (.ref S) (ah.del it))
abbrev LM3(A:Around)(B:Shared)(aa:Env)(m:Loc)(Q:QV)(vs:List AV)(ae:Hp):Prop:=
 ∃fA l xs,vs=[.ref fA,.ref l]/\Lst B ae aa.locals l xs/\xs.length<=5000/\∀S mo it t,S≠aa.locals->S≠mo->S≠it->mo≠it->ae S=none->ae mo=none->ae it=none->LMI A B aa m Q ae fA l xs S mo it t
abbrev LM2(A:Around)(E:ET)(B:Shared)(aa:Env)(m:Loc)(fe xe:Expr)(Q:QV)(gv:AV)(ak:Hp):Prop:=gv = .ty "map" /\ ↥EVS [fe,xe] m ak (LM3 A B aa m Q)
abbrev LM1(A:Around)(E:ET)(B:Shared)(aa:Env)(m:Loc)(mfunc fe xe:Expr)(Q:QV)(fv:AV)(hpZ:Hp):Prop:=fv = .ty "list" /\ ↥EV mfunc m hpZ (LM2 A E B aa m fe xe Q)
def DU (d:Addr):Obj:={ cls:=.type "dict_items",data:=.fields #[.ref d] }
abbrev itO (d:Addr)(n ep:Nat)(i:Nat)(ok ov:Value):Obj:={ cls:=.type "dict_itemiterator",data:=.fields #[.none,.bool false,.ref d,.int i 0,.int n 0,.int ep 0,ok,ov] }
abbrev IF(A:Around)(B:Shared)(aa:Env)(ta:Expr)(body:List Stmt)(m:Loc)(ak:Hp)(Q:QX)(d:Addr)(kvs:List (Int×AV))(vw it:Addr)(od:Obj):Prop:=
 ∃I:Nat->Loc->Hp->Prop,
   (∀ob,I 0 m (((ak.set vw (.obj (DU d))).set d (.obj od)).set it (.obj ob)))/\(∀i ao ae ob,I i ao ae->I i ao (ae.set it (.obj ob)))/\(∀i ao ae,I i ao ae->ae d=some (.obj od)) /\
   (∀i k x ao ae ob,kvs[i]?=some (k,x)->dget kvs k=some x->I i ao ae->ae it=some (.obj ob)->ASG Md A (λ_ _=>False) B aa ta (.tup [.int k,x]) ao ae λmX hpX=>EXs Md A (λ_ _=>False) B aa body mX hpX λfl mY hpY=>
    (fl = .next\/fl = .cont)/\I (i+1) mY hpY/\hpY it=some (.obj ob)) /\
   (∀ao ae,I kvs.length ao ae->Q .next ao ((ae.set d (.dict kvs)).del it))
abbrev Mx(A:Around)(B:Shared)(aa:Env)(ta:Expr)(body:List Stmt)(m:Loc)(Q:QX)(vv:AV)(ae:Hp):Prop:=
 ∃d kvs ak vw,vv = .ref vw/\ak d=some (.dict kvs)/\d≠aa.locals/\ak vw=none/\vw≠aa.locals/\ae=ak.set vw (.obj (DU d))/\∀it od,ak it=none->it≠aa.locals->it≠d->it≠vw->IF A B aa ta body m ak Q d kvs vw it od
structure DEx(h:Heap)(d:Addr)(kvs:List (Int×AV))(ps:List (Int×Value))(ep:Nat)(od:Obj):Prop where
 hod:h.get? d=some od
 no:¬Imm od
 hat:h.DictAt (intKind PW W0) d ps ep
 hid:IDict h d ps
 kv:KVR h kvs ps
 nd:(kvs.map (·.1)).Nodup
abbrev KW (W0:World):Frag:=KP PW W0.params
abbrev mS (i:Nat):Stmt:=inS (topS PW 5) i
abbrev fdS (i:Nat)(name:String)(dflt:Value)(tok code:Nat):FuncData:=fnD (mS i) (S name) dflt .none tok (.str (S "cpy313.difflib") 194) none (.ref code) .none []
def Hw:FuncData:=fdS 1 "SequenceMatcher.__init__" (.ref 153) 416 159
def Hx:FuncData:=fdS 2 "SequenceMatcher.set_seqs" .none 426 166
def My:FuncData:=fdS 3 "SequenceMatcher.set_seq1" .none 435 173
def IG:FuncData:=fdS 4 "SequenceMatcher.set_seq2" .none 444 180
def DV:FuncData:=fdS 5 "SequenceMatcher.__chain_b" .none 0 187
def Cr:FuncData:=fdS 6 "SequenceMatcher.find_longest_match" (.ref 189) 490 195
def fdMB:FuncData:=fdS 7 "SequenceMatcher.get_matching_blocks" .none 517 202
def Ev:FuncData:=fdS 8 "SequenceMatcher.get_opcodes" .none 532 209
def Bb:FuncData:=fdS 9 "SequenceMatcher.get_grouped_opcodes" (.ref 211) 550 217
def fdKept:FuncData:=fnD (topS PW 7) (S "_law_kept") .none .none 0 (.str (S "law_dm0058_02") 592) none (.ref 250) .none []
def Ew:FuncData:=fnD (topS PW 8) (S "_law_rows") .none .none 0 (.str (S "law_dm0058_02") 592) none (.ref 257) .none []
def fdGroups:FuncData:=fnD (topS PW 9) (S "_law_groups") .none .none 0 (.str (S "law_dm0058_02") 592) none (.ref 262) .none []
def fdLaw:FuncData:=fnD (topS PW 10) (S "law") .none .none 0 (.str (S "law_dm0058_02") 592) none (.ref 267) .none []
def Mz:FuncData:=fnD (inS (topS PW 3) 4) (S "Match.__new__") .none .none 283 (.str (S "cpy313.difflib") 194) none (.ref 81) .none []
def M0:FuncData:=fnD (inS (topS PW 3) 5) (S "Match._make") .none .none 293 (.str (S "cpy313.difflib") 194) (some 92) (.ref 88) .none []
def Hp.cut (hp:Hp)(L1 L2:Addr):Hp:=λz=>if z=L1\/z=L2 then none else hp z
def idxN (bs:List Int)(k:Int):List Nat:=(List.range bs.length).filter (λi=>bs[i]? == some k)
def idxs (bs:List Int)(k:Int):List AV:=(idxN bs k).map λ(i:Nat)=>AV.int (i:Int)
structure B2J (hb hp:Hp)(L d:Addr)(kvs:List (Int×AV))(bs:List Int):Prop where
 di:hp d=some (.dict kvs)
 dL:d≠L
 no:∀k,dget kvs k=none->idxN bs k=[]
 yes:∀k v,dget kvs k=some v->∃a,v = .ref a/\hp a=some (.list (idxs bs k))/\a≠L/\hb a=none
 inj:∀k k' a,dget kvs k=some (.ref a)->dget kvs k'=some (.ref a)->k=k'
 len:kvs.length<=bs.length
 nd:(kvs.map (·.1)).Nodup
 ne:∀k v,dget kvs k=some v->idxN bs k≠[]
abbrev kids:Stmt->List Stmt:=AE
def kidE:Stmt->List Stmt:=Et [] (λ_ _ _ _=>[]) (λ_ _ _ _ _ _ _ _ _ _ _=>[]) (λ_ _ e=>e) (λ_=>[]) (λ_ _=>[])
def kidT:Stmt->Expr:=Et (.Name (S "") ⟨0,0,0,0⟩) (λ_ _ _ _=>.Name (S "") ⟨0,0,0,0⟩) (λ_ _ _ _ _ _ _ _ _ _ _=>.Name (S "") ⟨0,0,0,0⟩) (λt _ _=>t) id (λ_ _=>.Name (S "") ⟨0,0,0,0⟩)
structure JD (hp:Hp)(L d:Addr)(J:Int->List Nat):Prop where
 ex:∃kvs,hp d=some (.dict kvs)/\d≠L/\(∀k,dget kvs k=none->J k=[])/\∀k v,dget kvs k=some v->∃a,v = .ref a/\hp a=some (.list ((J k).map λ(i:Nat)=>AV.int (i:Int)))/\a≠L/\J k≠[]
abbrev PJ (bs:List Int)(_:Bool)(k:Int):List Nat:=idxN bs k
inductive Src (B:Shared) (hp:Hp) (L:Addr):AV->List Int->Prop where
 | list {bA:Addr}{bs:List Int} (h:Lst B hp L bA (bs.map .int)):Src B hp L (.ref bA) bs
abbrev Few (bs:List Int)(_:Bool):Prop:=∀k,(idxN bs k).length<=bs.length / 100+1
abbrev Ic (x d:Addr)(bv:AV)(hb:Hp)(L:Addr)(bs:List Int)(m':Loc)(ah:Hp):Prop:=m' (S "self")=some (.ref x)/\m' (S "b")=some bv/\Hp.Le hb ah/\(∃kvs,B2J hb ah L d kvs bs)/\m' (S "b2j")=some (.ref d)
def Fi:List String:=["isjunk", "a", "b", "autojunk", "matching_blocks", "opcodes", "fullbcount", "b2j", "bjunk", "bpopular"]
structure SMg (ma:Loc)(a b:AV)(d j:Addr)(aj:Bool)(mb op:AV):Prop where
 a:ma (S "a")=some a
 b:ma (S "b")=some b
 b2j:ma (S "b2j")=some (.ref d)
 bj:ma (S "bjunk")=some (.ref j)
 mb:ma (S "matching_blocks")=some mb
 op:ma (S "opcodes")=some op
 ij:ma (S "isjunk")=some .none
 aj:ma (S "autojunk")=some (.bool aj)
 no:∀y,y∉Fi->ma (S y)=none
structure MT (hp:Hp)(L x dx:Addr)(a b:AV)(bs:List Int)(aj:Bool)(mb op:AV):Prop where
 ex:∃ma d j,Ins hp L x dx 242 ma/\SMg ma a b d j aj mb op/\JD hp L d (PJ bs aj)/\hp j=some (.set (λ_=>false) 0)/\j≠L
abbrev Best:=Int×Int×Int
abbrev FSt:=(Int->Int)×Best
def innS (i:Int)(f:Int->Int)(st:FSt)(j:Int):FSt:=
 (λx=>if x=j then f (j-1)+1 else st.1 x,if f (j-1)+1>st.2.2.2 then(i-(f (j-1)+1)+1,j-(f (j-1)+1)+1,f (j-1)+1) else st.2)
def C0 (i aH aJ:Int)(f:Int->Int):List Nat->FSt->FSt
 | [],st=>st
 | j::js,st=>if (j:Int)<aH then C0 i aH aJ f js st else if (j:Int)>=aJ then st else C0 i aH aJ f js (innS i f st j)
def DI (kvs:List (Int×AV))(f:Int->Int):Prop:=∀k,(dget kvs k).getD (.int 0) = .int (f k)
def flmS (i:Nat):Stmt:=(AE (mS 6)).getD i (.Pass ⟨0,0,0,0⟩)
def flmO:List Stmt:=kids (flmS 7)
def flmI:Stmt:=flmO.getD 2 (.Pass ⟨0,0,0,0⟩)
def BV (m:Loc)(b:Best):Prop:=m (S "besti")=some (.int b.1)/\m (S "bestj")=some (.int b.2.1)/\m (S "bestsize")=some (.int b.2.2)
def Fj:List String:=["j", "k", "besti", "bestj", "bestsize"]
def outS (as:List Int)(J:Int->List Nat)(aG aH aJ:Int):Nat->FSt
 | 0=>(λ_=>0,(aG,aH,0))
 | n+1=>C0 (aG+n) aH aJ (outS as J aG aH aJ n).1 (J (as.getD (aG+n).toNat 0)) (λ_=>0,(outS as J aG aH aJ n).2)
def Ex:List String:=["i", "j2lenget", "newj2len", "j2len", "j", "k", "besti", "bestj", "bestsize"]
def flmF (as _bs:List Int)(J:Int->List Nat)(_fj:Int->Bool)(aG aI aH aJ:Int):Best:=(outS as J aG aH aJ (aI-aG).toNat).2
structure NX (as bs:List Int)(aG aI aH aJ:Int)(b:Best):Prop where
 k0 : 0<=b.2.2
 a0:aG<=b.1
 b0:aH<=b.2.1
 dn:aG<b.1->aH<b.2.1->b.1<=as.length/\b.2.1<=bs.length/\(as.getD (b.1-1).toNat 0 == bs.getD (b.2.1-1).toNat 0)=false
 up:b.1+b.2.2<aI->b.2.1+b.2.2<aJ->(as.getD (b.1+b.2.2).toNat 0 == bs.getD (b.2.1+b.2.2).toNat 0)=false
structure FL (B:Shared)(hp:Hp)(L aA bA ib j:Addr)(as bs:List Int)(aG aI aH aJ:Int)(m:Loc):Prop where
 h1:m (S "alo")=some (.int aG)
 h2:m (S "ahi")=some (.int aI)
 h3:m (S "blo")=some (.int aH)
 h4:m (S "bhi")=some (.int aJ)
 h5:m (S "a")=some (.ref aA)
 h6:m (S "b")=some (.ref bA)
 h7:m (S "isbjunk")=some (.ref ib)
 l1:Lst B hp L aA (as.map .int)
 l2:Lst B hp L bA (bs.map .int)
 i1:hp ib=some (.obj (AY "set.__contains__" j))
 i1L:ib≠L
 i2:hp j=some (.set (λ_=>false) 0)
 i2L:j≠L
 r1 : 0<=aG
 r2 : 0<=aH
 r3:aI<=as.length
 r4:aJ<=bs.length
 r5:as.length<=4000
 r6:bs.length<=4000
def MJ (as:List Int)(J:Int->List Nat)(p q:Int):Prop:=∃j∈J (as.getD p.toNat 0),(j:Int)=q
open Classical in
def LL (M:Int->Int->Prop)(aG aH aJ:Int):Nat->Int->Int
 | 0,_=>0
 | n+1,j=>if aH<=j/\j<aJ/\M (aG+n) j then LL M aG aH aJ n (j-1)+1 else 0
def BInv (aG aH:Int)(D:Int->Int->Prop)(V:Int->Int->Int)(b:Best):Prop:=
 (b=(aG,aH,0)/\∀r j,¬D r j) \/
 (0<b.2.2/\D (b.1+b.2.2-1) (b.2.1+b.2.2-1)/\V (b.1+b.2.2-1) (b.2.1+b.2.2-1)=b.2.2/\∀r j,D r j->V r j<=b.2.2/\(V r j=b.2.2->b.1+b.2.2-1<r\/(b.1+b.2.2-1=r/\b.2.1+b.2.2-1<=j)))
structure Common (M:Int->Int->Prop)(aG aI aH aJ i j k:Int):Prop where
 a0:aG<=i
 a1:i+k<=aI
 b0:aH<=j
 b1:j+k<=aJ
 k0 : 0<=k
 eq:∀t,0<=t->t<k->M (i+t) (j+t)
structure Longest (M:Int->Int->Prop)(aG aI aH aJ:Int)(b:Best):Prop where
 k0 : 0<=b.2.2
 zero:b.2.2=0->b=(aG,aH,0)
 com : 0<b.2.2->Common M aG aI aH aJ b.1 b.2.1 b.2.2
 max:∀i j k,Common M aG aI aH aJ i j k->k<=b.2.2/\(k=b.2.2->0<k->b.1<i\/(b.1=i/\b.2.1<=j))
abbrev Win:=Int×Int×Int×Int
structure WOK (F:Win->Tri)(la lb:Int):Prop where
 k0:∀W0,0<=(F W0).2.2
 inn:∀W0:Win,0<=W0.1->W0.1<=W0.2.1->W0.2.1<=la->0<=W0.2.2.1->W0.2.2.1<=W0.2.2.2->W0.2.2.2<=lb->0<(F W0).2.2 ->
  W0.1<=(F W0).1/\(F W0).1+(F W0).2.2<=W0.2.1/\W0.2.2.1<=(F W0).2.1/\(F W0).2.1+(F W0).2.2<=W0.2.2.2
def C1 (la lb:Int)(W0:Win):Prop:=0<=W0.1/\W0.1<=W0.2.1/\W0.2.1<=la/\0<=W0.2.2.1/\W0.2.2.1<=W0.2.2.2/\W0.2.2.2<=lb
def Bi (W0:Win)(t:Tri):List Win:=if W0.1<t.1/\W0.2.2.1<t.2.1 then[(W0.1,t.1,W0.2.2.1,t.2.1)] else[]
def Bv (W0:Win)(t:Tri):List Win:=if t.1+t.2.2<W0.2.1/\t.2.1+t.2.2<W0.2.2.2 then[(t.1+t.2.2,W0.2.1,t.2.1+t.2.2,W0.2.2.2)] else[]
def mbGo (F:Win->Tri):Nat->List Win->List Tri->List Tri
 | 0,_,acc=>acc
 | _+1,[],acc=>acc
 | n+1,W0::st,acc=>if (F W0).2.2=0 then mbGo F n st acc else mbGo F n (Bv W0 (F W0)++(Bi W0 (F W0)++st)) (acc++[F W0])
def wt (W0:Win):Nat:=2*(W0.2.1-W0.1).toNat+1
def wts (st:List Win):Nat:=(st.map wt).sum
def rawB (F:Win->Tri)(la lb:Int):List Tri:=mbGo F (wt (0,la,0,lb)) [(0,la,0,lb)] []
structure Apart (st:List Win)(acc:List Tri):Prop where
 ww:st.Pairwise (λx y=>x.2.1<=y.1\/y.2.1<=x.1)
 wb:∀x∈st,∀t∈acc,t.1<x.1\/x.2.1<=t.1
 nd:acc.Nodup
def leT (x y:Tri):Bool:=!lexB y x
def Cs (xs:List Tri):List Tri:=xs.mergeSort leT
abbrev MSt:=Tri×List Tri
def stepM (st:MSt)(b:Tri):MSt:=
 if st.1.1+st.1.2.2=b.1/\st.1.2.1+st.1.2.2=b.2.1 then((st.1.1,st.1.2.1,st.1.2.2+b.2.2),st.2)
 else(b,if st.1.2.2=0 then st.2 else st.2++[st.1])
def stM (bl:List Tri)(k:Nat):MSt:=(bl.take k).foldl stepM ((0,0,0),[])
def Hy (bl:List Tri)(la lb:Int):List Tri:=
 (if (stM bl bl.length).1.2.2=0 then(stM bl bl.length).2 else(stM bl bl.length).2++[(stM bl bl.length).1])++[(la,lb,0)]
def mbF (F:Win->Tri)(la lb:Int):List Tri:=Hy (Cs (rawB F la lb)) la lb
def flmW (as bs:List Int)(aj:Bool)(x:Win):Tri:=flmF as bs (PJ bs aj) (λ_=>false) x.1 x.2.1 x.2.2.1 x.2.2.2
structure InWn (aG aI aH aJ:Int)(b:Best):Prop where
 a0:aG<=b.1
 a1:b.1+b.2.2<=aI
 b0:aH<=b.2.1
 b1:b.2.1+b.2.2<=aJ
def inW (W0:Win)(i j:Int):Prop:=W0.1<=i/\i<W0.2.1/\W0.2.2.1<=j/\j<W0.2.2.2
def Run (M:Int->Int->Prop)(s t n:Int):Prop:=0<n/\∀r,0<=r->r<n->M (s+r) (t+r)
structure Grd (M K:Int->Int->Prop):Prop where
 i1:∀{i j j'},M i j->M i j'->j=j'
 i2:∀{i i' j},M i j->M i' j->i=i'
 sub:∀{i j},K i j->M i j
 whole:∀{i j},M i j->M (i+1) (j+1)->(K i j↔K (i+1) (j+1))
 mono:∀{i j i' j'},K i j->K i' j'->i<i'->j<j'
 cross:∀{s t n},Run M s t n->¬K s t->∃s' t' n',Run M s' t' n'/\K s' t'/\(n<n'\/(n'=n/\s'<s))/\((s'<s/\t<t')\/(s<s'/\t'<t))
structure WH (M K:Int->Int->Prop)(W0:Win):Prop where
 wh:∀{i j},M i j->M (i+1) (j+1)->(inW W0 i j↔inW W0 (i+1) (j+1))
 kin:∀{i j},K i j->inW W0 i j\/(i<W0.1/\j<W0.2.2.1)\/(W0.2.1<=i/\W0.2.2.2<=j)
structure Best1 (M K:Int->Int->Prop)(W0:Win)(b:Tri):Prop where
 run:Run M b.1 b.2.1 b.2.2
 inn:inW W0 b.1 b.2.1
 kk:∀r,0<=r->r<b.2.2->K (b.1+r) (b.2.1+r)
 lo:¬M (b.1-1) (b.2.1-1)
 hi:¬M (b.1+b.2.2) (b.2.1+b.2.2)
structure KRun (M K:Int->Int->Prop)(b:Tri):Prop where
 run:Run M b.1 b.2.1 b.2.2
 kk:∀r,0<=r->r<b.2.2->K (b.1+r) (b.2.1+r)
 lo:¬M (b.1-1) (b.2.1-1)
 hi:¬M (b.1+b.2.2) (b.2.1+b.2.2)
def Cov (bl:List Tri)(i j:Int):Prop:=∃t∈bl,t.1<=i/\i<t.1+t.2.2/\j-t.2.1=i-t.1
def Gap (x y:Tri):Prop:=x.1+x.2.2<=y.1/\x.2.1+x.2.2<=y.2.1/\¬(x.1+x.2.2=y.1/\x.2.1+x.2.2=y.2.1)
abbrev Op:=String×Int×Int×Int×Int
def A0 (i ai j bj:Int):String:=if i<ai then(if j<bj then "replace" else "delete") else if j<bj then "insert" else ""
abbrev CSt:=Int×Int×List Op
def stepC (st:CSt)(b:Tri):CSt:=
 (b.1+b.2.2,b.2.1+b.2.2,st.2.2++((if A0 st.1 b.1 st.2.1 b.2.1 = "" then[] else[(A0 st.1 b.1 st.2.1 b.2.1,st.1,b.1,st.2.1,b.2.1)])++(if b.2.2=0 then[] else[("equal",b.1,b.1+b.2.2,b.2.1,b.2.1+b.2.2)])))
def stC (bl:List Tri)(k:Nat):CSt:=(bl.take k).foldl stepC (0,0,[])
def D6 (bl:List Tri):List Op:=(bl.foldl stepC (0,0,[])).2.2
def MP (a b:List Int)(i j:Int):Prop:=0<=i/\i<a.length/\0<=j/\j<b.length/\a.getD i.toNat 0=b.getD j.toNat 0
structure Told (M K:Int->Int->Prop)(bl:List Tri):Prop where
 gap:bl.Pairwise Gap
 kr:∀t∈bl,KRun M K t
 cov:∀i j,K i j->Cov bl i j
structure Grw (M K:Int->Int->Prop)(a b W0 v:Int->Int):Prop where
 ha:∀i,a (i+1)=a i+W0 i
 hb:∀j,b (j+1)=b j+v j
 hw:∀i,1<=W0 i
 hv:∀j,1<=v j
 wv:∀{i j},M i j->W0 i=v j
 one:∀{i j},M i j->¬K i j->W0 i=1
def XM (a b W0:Int->Int)(M:Int->Int->Prop)(p q:Int):Prop:=∃i j r,M i j/\0<=r/\r<W0 i/\p=a i+r/\q=b j+r
def stU (P:Nat->Option Int)(us:List Tri)(i:Nat):List Tri:=
 match P i with
 | none=>us
 | some j=>
  match us.getLast? with
  | some u=>if (i:Int)=u.1+u.2.2/\j=u.2.1+u.2.2 then us.dropLast++[(u.1,u.2.1,u.2.2+1)] else us++[((i:Int),j,1)]
  | none=>us++[((i:Int),j,1)]
def Dm (P:Nat->Option Int)(k:Nat):List Tri:=(List.range k).foldl (stU P) []
structure US (M:Int->Int->Prop)(k:Nat)(us:List Tri):Prop where
 run:∀u∈us,Run M u.1 u.2.1 u.2.2
 le:∀u∈us,u.1+u.2.2<=k
 lo:∀u∈us,¬M (u.1-1) (u.2.1-1)
 hi:∀u∈us,u.1+u.2.2<k->¬M (u.1+u.2.2) (u.2.1+u.2.2)
 up:us.Pairwise λx y=>x.1+x.2.2<=y.1
 cov:∀i j,M i j->i<k->Cov us i j
def ngT (u:Tri):Tri:=(-u.2.2,u.1,u.2.1)
def unT (t:Tri):Tri:=(t.2.1,t.2.2,-t.1)
def fits (kept:List Tri)(i j:Int):Bool:=kept.all λo=>decide (o.1<i) == decide (o.2.1<j)
def stK (kept:List Tri)(t:Tri):List Tri:=if fits kept t.2.1 t.2.2=true then kept++[unT t] else kept
structure KeS (L kept:List Tri):Prop where
 sub:∀o∈kept,ngT o∈L
 ord:∀x∈kept,∀y∈kept,x.1≠y.1->(x.1<y.1↔x.2.1<y.2.1)\/(y.1<x.1↔y.2.1<x.2.1)
 nd:(kept.map ngT).Sublist L
 out:∀t∈L,unT t∈kept\/∃o∈kept,lexB (ngT o) t=true/\¬(o.1<t.2.1↔o.2.1<t.2.2)
def Be (us:List Tri):List Tri:=(Cs (us.map ngT)).foldl stK []
def mbS (i:Nat):Stmt:=(AE (mS 7)).getD i (.Pass ⟨0,0,0,0⟩)
def BW (x:Win):AV:=.tup [.int x.1,.int x.2.1,.int x.2.2.1,.int x.2.2.2]
def FY:List String:=["alo", "ahi", "blo", "bhi", "i", "j", "k", "x"]
def triT (x:Tri):AV:=.tup [.int x.1,.int x.2.1,.int x.2.2]
def Hz:List String:=["i1", "j1", "k1", "i2", "j2", "k2"]
def oAV (o:Op):AV:=.tup [.str (S o.1),.int o.2.1,.int o.2.2.1,.int o.2.2.2.1,.int o.2.2.2.2]
def IC (hb:Hp)(aA:Addr)(bl:List Tri)(k:Nat)(m:Loc)(hp:Hp):Prop:=
 m (S "answer")=some (.ref aA)/\m (S "i")=some (.int (stC bl k).1)/\m (S "j")=some (.int (stC bl k).2.1)/\hp aA=some (.list ((stC bl k).2.2.map oAV))/\Hp.Le hb hp
def codS (i:Nat):Stmt:=(AE (mS 8)).getD i (.Pass ⟨0,0,0,0⟩)
def codesF (as bs:List Int)(aj:Bool):List Op:=D6 (mbF (flmW as bs aj) as.length bs.length)
abbrev imax (a b:Int):Int:=if b>a then b else a
abbrev imin (a b:Int):Int:=if b<a then b else a
def headTrim (n:Int)(l:List Op):List Op:=match l with
 | (t,i1,i2,j1,j2)::r=>if t = "equal" then(t,imax i1 (i2-n),i2,imax j1 (j2-n),j2)::r else l
 | []=>[]
def lastTrim (n:Int)(l:List Op):List Op:=match l.getLast? with
 | some (t,i1,i2,j1,j2)=>if t = "equal" then l.dropLast++[(t,i1,imin i2 (i1+n),j1,imin j2 (j1+n))] else l
 | none=>[]
def codesIn (n:Int)(l:List Op):List Op:=lastTrim n (headTrim n (if l=[] then[("equal",0,1,0,1)] else l))
abbrev GSt:=List (List Op)×List Op
def Ct (n:Int)(st:GSt)(o:Op):GSt:=
 if o.1 = "equal" /\ o.2.2.1-o.2.1>n+n then
  (st.1++[st.2++[(o.1,o.2.1,imin o.2.2.1 (o.2.1+n),o.2.2.2.1,imin o.2.2.2.2 (o.2.2.2.1+n))]],[(o.1,imax o.2.1 (o.2.2.1-n),o.2.2.1,imax o.2.2.2.1 (o.2.2.2.2-n),o.2.2.2.2)])
 else(st.1,st.2++[o])
def CT (n:Int)(l:List Op):List (List Op):=
 let st:=(codesIn n l).foldl (Ct n) ([],[])
 if st.2=[]\/(st.2.length=1/\(st.2.head?.map (·.1))=some "equal") then st.1 else st.1++[st.2]
def grpS (i:Nat):Stmt:=(AE (mS 9)).getD i (.Pass ⟨0,0,0,0⟩)
def finG (st:GSt):List (List Op):=if st.2=[]\/(st.2.length=1/\(st.2.head?.map (·.1))=some "equal") then st.1 else st.1++[st.2]
def rawOps (i j:Int):List Tri->List Op
 | []=>[]
 | (a,c,s)::r=>(if A0 i a j c = "" then[] else[(A0 i a j c,i,a,j,c)])++((if s=0 then[] else[("equal",a,a+s,c,c+s)])++rawOps (a+s) (c+s) r)
def okB:Bool->Int->Int->List Tri->Prop
 | _,_,_,[]=>False
 | f,i,j,(a,c,s)::r=>i<=a/\j<=c/\((s=0/\r=[])\/(0<s/\(f=true\/i<a\/j<c)/\okB false (a+s) (c+s) r))
def chg (i j:Int):List Tri->Prop
 | []=>False
 | (a,c,_)::_=>i<a\/j<c
open Classical in
def segG (n:Int)(i j:Int)(g:List Op):List Tri->List (List Op)
 | []=>[]
 | (a,c,s)::r=>
  if s=0 then[g++[(A0 i a j c,i,a,j,c)]]
  else if chg (a+s) (c+s) r then
   if s>n+n then(g++[(A0 i a j c,i,a,j,c),("equal",a,a+n,c,c+n)])::segG n (a+s) (c+s) [("equal",a+s-n,a+s,c+s-n,c+s)] r
   else segG n (a+s) (c+s) (g++[(A0 i a j c,i,a,j,c),("equal",a,a+s,c,c+s)]) r
  else[g++[(A0 i a j c,i,a,j,c),("equal",a,imin (a+s) (a+n),c,imin (c+s) (c+n))]]
open Classical in
def groupsB (n:Int):List Tri->List (List Op)
 | []=>[]
 | (a,c,s)::r=>
  if 0<a\/0<c then segG n 0 0 [] ((a,c,s)::r)
  else if chg (a+s) (c+s) r then segG n (a+s) (c+s) [("equal",imax a (a+s-n),a+s,imax c (c+s-n),c+s)] r
  else[]
def stepL (rows:List Op)(near:Nat->Bool)(gs:List (List Op))(r:Nat):List (List Op):=
 let o:=rows.getD r ("",0,0,0,0);let gs1:=if r=0\/near (r-1)=false then gs++[if 0<r then[("equal",o.2.1,o.2.1,o.2.2.2.1,o.2.2.2.1)] else[]] else gs
 let l:=gs1.getLast?.getD [];let st:=l.getLast?.getD ("",0,0,0,0);let l2:=if o.1 = "equal" /\ st.1 = "equal" then l.dropLast++[("equal",st.2.1,o.2.2.1,st.2.2.2.1,o.2.2.2.2)] else l++[o]
 let l3:=if o.1 ≠ "equal" /\ r+1<rows.length/\near (r+1)=false then l2++[("equal",o.2.2.1,o.2.2.1,o.2.2.2.2,o.2.2.2.2)] else l2
 gs1.dropLast++[l3]
def Bc (rows:List Op)(near:Nat->Bool)(k:Nat):List (List Op):=((List.range k).filter near).foldl (stepL rows near) []
def eqR (a c:Int)(k:Nat):Op:=("equal",a+k,a+k+1,c+k,c+k+1)
def rowsB (i j:Int):List Tri->List Op
 | []=>[]
 | (a,c,s)::r=>(if i<a\/j<c then[(A0 i a j c,i,a,j,c)] else[])++((List.range s.toNat).map (eqR a c)++rowsB (a+s) (c+s) r)
def Nr (rows:List Op)(N r:Nat):Prop:=∃c o,rows[c]?=some o/\o.1 ≠ "equal" /\ r<=c+N/\c<=r+N
def growB (a b:Int->Int)(t:Tri):Tri:=(a t.1,b t.2.1,a (t.1+t.2.2)-a t.1)
def mvO (a b:Int->Int)(o:Op):Op:=(o.1,a o.2.1,a o.2.2.1,b o.2.2.2.1,b o.2.2.2.2)
def shB (W0 v:Int->Int)(n:Int):List Tri->Prop
 | []=>True
 | (x,y,s)::r=>(∀k:Nat,(k:Int)<s->v (y+k)=W0 (x+k))/\(∀k:Nat,(k:Int)<s->(k:Int)<n->W0 (x+k)=1)/\(chg (x+s) (y+s) r->∀k:Nat,(k:Int)<s->s<=k+n->W0 (x+k)=1)/\shB W0 v n r
abbrev M2(A:Around)(E:ET)(B:Shared)(aa:Env)(m:Loc)(e:Expr)(Q:QV):AV->Hp->Prop:=λl ak=>∃a xs₁,l = .ref a/\ak a=some (.list xs₁)/\a≠aa.locals/\↥EVS [e] m ak λvs ae=>∃xs b ys,vs=[.ref b]/\ae a=some (.list xs)/\ae b=some (.list ys)/\b≠aa.locals/\xs.length+ys.length<=5000/\Q .none (ae.set a (.list (xs++ys)))
def dofs (p:Nat->Bool)(fk:Nat->Int)(fv:Nat->AV):Nat->List (Int×AV)
 | 0=>[]
 | n+1=>if p n then dput (dofs p fk fv n) (fk n) (fv n) else dofs p fk fv n
def rwS (i:Nat):Stmt:=(AE (topS PW 8)).getD i (.Pass default)
def rwB (i:Nat):Stmt:=(kids (rwS 2)).getD i (.Pass default)
def pAV (p:Int×Int):AV:=.tup [.int p.1,.int p.2]
def opAV (o:Op):AV:=.tup [.str (S o.1),.int o.2.1,.int o.2.2.1,.int o.2.2.2.1,.int o.2.2.2.2]
abbrev RSt:=Int×Int×List Op
def tagR (i p j q:Int):String:=if i=p then "insert" else if j=q then "delete" else "replace"
def stepR (size:Int)(st:RSt)(c:Int×Int):RSt:=
 (c.1+1,c.2+1,st.2.2++((if st.1<c.1\/st.2.1<c.2 then[(tagR st.1 c.1 st.2.1 c.2,st.1,c.1,st.2.1,c.2)] else[])++(if c.1<size then[("equal",c.1,c.1+1,c.2,c.2+1)] else[])))
def Dn (size other:Int)(kept:List (Int×Int)):List Op:=((kept++[(size,other)]).foldl (stepR size) (0,0,[])).2.2
def stR (size:Int)(cs:List (Int×Int))(k:Nat):RSt:=(cs.take k).foldl (stepR size) (0,0,[])
def B3 (us:List Tri):List Tri:=Cs (Be us)
def Bn (bl:List Tri):List (Int×Int):=bl.flatMap λt=>(List.range t.2.2.toNat).map λk:Nat=>(t.1+(k:Int),t.2.1+(k:Int))
def cat (f:Nat->List Int)(s n:Nat):List Int:=(List.range' s n).flatMap f
def Am (f:Nat->List Int)(i:Int):Int:=if 0<=i then((cat f 0 i.toNat).length:Int) else i
def Cg (f:Nat->List Int)(i:Int):Int:=if 0<=i then((f i.toNat).length:Int) else 1
def expE (xs:List Int)(sh:Nat->Bool)(way:Nat->Int)(i:Nat):List Int:=
 if sh i=true\/way i=0 then[xs.getD i 0] else if way i=1 then[-1-(i:Int)] else[-1-(i:Int),xs.getD i 0]
def expF (xs ys:List Int)(sh:Nat->Bool)(way:Nat->Int)(part:Nat->Option Nat)(j:Nat):List Int:=
 match part j with
 | some i=>expE xs sh way i
 | none=>[ys.getD j 0]
structure Lst2 (xs ys:List Int)(K:Int->Int->Prop)(sh:Nat->Bool)(part:Nat->Option Nat):Prop where
 xn:∀{i},i<xs.length->0<=xs.getD i 0
 xi:∀{i i'},i<xs.length->i'<xs.length->xs.getD i 0=xs.getD i' 0->i=i'
 yi:∀{j j'},j<ys.length->j'<ys.length->ys.getD j 0=ys.getD j' 0->j=j'
 sub:∀{i j},K i j->MP xs ys i j
 pt:∀{i j},part j=some i↔K i j
 un:∀{i},i<xs.length->sh i=false->∃j,K i j
def bnd (g:List Op):Int×Int×Int×Int:=((g.headD ("",0,0,0,0)).2.1,(g.getLastD ("",0,0,0,0)).2.2.1,(g.headD ("",0,0,0,0)).2.2.2.1,(g.getLastD ("",0,0,0,0)).2.2.2.2)
def Diag (K:Int->Int->Prop)(i j x y:Int):Prop:=∃m:Nat,x=i+m/\y=j+m/\∀k:Nat,k<m->K (i+k) (j+k)
def InG (y f:Int)(g:List Op):Prop:=∀o∈g,y<=o.2.2.2.1/\o.2.2.2.1<=f/\y<=o.2.2.2.2/\o.2.2.2.2<=f
def ChG (K:Int->Int->Prop)(la lb:Int):Int->Int->List (List Op)->Prop
 | i,j,[]=>Diag K i j la lb
 | i,j,g::r=>Diag K i j (bnd g).1 (bnd g).2.2.1/\(bnd g).1<=(bnd g).2.1/\(bnd g).2.2.1<=(bnd g).2.2.2/\InG (bnd g).2.2.1 (bnd g).2.2.2 g/\ChG K la lb (bnd g).2.1 (bnd g).2.2.2 r
def shP (P:Int->Prop)(n:Int):Int->Int->List Tri->Prop
 | _,_,[]=>True
 | i,_,(x,y,s)::r=>(∀k,i<=k->k<x->P k)/\(∀k:Nat,(k:Int)<s->(k:Int)<n->P (x+k))/\(chg (x+s) (y+s) r->∀k:Nat,(k:Int)<s->s<=k+n->P (x+k))/\shP P n (x+s) (y+s) r
def Hd (g:List Op)(x0 y0 i j:Int):Prop:=(g=[]/\x0=i/\y0=j)\/(∃o t,g=o::t/\o.2.1=x0/\o.2.2.2.1=y0)
def shA (P:Int->Prop)(n:Int)(bl:List Tri):Prop:=
 match bl with
 | []=>True
 | (x,y,s)::r=>if 0<x\/0<y then shP P n 0 0 bl else(chg (x+s) (y+s) r->∀k:Nat,(k:Int)<s->s<=k+n->P (x+k))/\shP P n (x+s) (y+s) r
def Bj (l:List Int)(p q:Int):List Int:=(l.drop p.toNat).take (q.toNat-p.toNat)
abbrev MvSt:=List Int×List (List Op)×Int
def stMv (a:Int->Int)(ours theirs:List Int)(st:MvSt)(g:List Op):MvSt:=
 let m1:=st.1++Bj ours (a st.2.2) (a (bnd g).1);let shift:Int:=(m1.length:Int)-(bnd g).2.2.1
 (m1++Bj theirs (bnd g).2.2.1 (bnd g).2.2.2,st.2.1++[g.map λo=>(o.1,a o.2.1,a o.2.2.1,o.2.2.2.1+shift,o.2.2.2.2+shift)],(bnd g).2.1)
structure Law2 (xs ys:List Int)(us:List Tri)(n:Nat)(gs:List (List Op))(sh:Nat->Bool):Prop where
 xn:∀{i},i<xs.length->0<=xs.getD i 0
 yn:∀{j},j<ys.length->0<=ys.getD j 0
 xi:∀{i i'},i<xs.length->i'<xs.length->xs.getD i 0=xs.getD i' 0->i=i'
 yi:∀{j j'},j<ys.length->j'<ys.length->ys.getD j 0=ys.getD j' 0->j=j'
 S:US (MP xs ys) xs.length us
 eg:gs=groupsB n (B3 us++[((xs.length:Int),(ys.length:Int),0)])
 es:∀{i:Nat},i<xs.length->(sh i=true↔∃g∈gs,(bnd g).1<=i/\(i:Int)<(bnd g).2.1)
def SH (gs:List (List Op))(k:Int):Prop:=∃g∈gs,(bnd g).1<=k/\k<(bnd g).2.1
open Classical in
def DW (us:List Tri)(j:Nat):Option Nat:=if h:∃i:Nat,Cov (Be us) i j then some h.choose else none
abbrev B4 (xs:List Int)(sh:Nat->Bool)(way:Nat->Int):List Int:=cat (expE xs sh way) 0 xs.length
abbrev BX (xs ys:List Int)(us:List Tri)(sh:Nat->Bool)(way:Nat->Int):List Int:=cat (expF xs ys sh way (DW us)) 0 ys.length
abbrev aF (xs:List Int)(sh:Nat->Bool)(way:Nat->Int):Int->Int:=Am (expE xs sh way)
abbrev bF (xs ys:List Int)(us:List Tri)(sh:Nat->Bool)(way:Nat->Int):Int->Int:=Am (expF xs ys sh way (DW us))
def FZ (xs ys:List Int)(us:List Tri)(sh:Nat->Bool)(way:Nat->Int):Int->Int->Prop:=XM (aF xs sh way) (bF xs ys us sh way) (Cg (expE xs sh way)) (Cov (Be us))
def begs (xs ys:List Int)(us:List Tri)(sh:Nat->Bool)(way:Nat->Int):List Int:=(B3 us).map λt=>aF xs sh way t.1
def Asc (st l:List Int):Prop:=∀j,j<l.length->l.getD j 0∉st->0<j/\l.getD (j-1) 0=l.getD j 0-1
abbrev BdSt:=List Int×List (List Int)×List Int×Int
def strF (laid:Int)(s:Nat):List Int:=(List.range s).map λk:Nat=>laid+(k:Int)
def AQ (x:Int):Nat:=(x / 3 % 12).toNat+1
def bdRest (x:Int):Int:=x / 3 / 12
def AR (st:BdSt)(x:Int):BdSt:=
 (if x % 3=2 then st.1 else st.1++strF st.2.2.2 (AQ x),
  if x % 3=1 then st.2.1 else st.2.1.insertIdx (bdRest x / 3 % ((st.2.1.length:Int)+1)).toNat (strF st.2.2.2 (AQ x)),
  if x % 3=2 then st.2.2.1 else st.2.2.1++List.replicate (AQ x) (bdRest x % 3),
  st.2.2.2+AQ x)
def bdTo (ns:List Int):BdSt:=ns.foldl AR ([],[],[],0)
structure BdI (st:BdSt)(sts:List Int)(k:Nat):Prop where
 n1:st.1.Nodup
 n2:st.2.1.flatten.Nodup
 in1:∀x∈st.1,0<=x/\x<st.2.2.2
 in2:∀x∈st.2.1.flatten,0<=x/\x<st.2.2.2
 a1:Asc sts st.1
 a2:∀p∈st.2.1,Asc sts p
 le:sts.length=k
 wl:st.2.2.1.length=st.1.length
 w3:∀x∈st.2.2.1,x=0\/x=1\/x=2
 l0 : 0<=st.2.2.2
 l1:st.1.length<=12*k
 l2:st.2.1.flatten.length<=12*k
 l3:st.2.1.length<=k
 l4:st.2.2.2<=12*k
 l5:∀p∈st.2.1,p.length<=12
open Classical in
def D7 (xs ys:List Int)(i:Nat):Option Int:=if h:∃j:Nat,j<ys.length/\xs.getD i 0=ys.getD j 0 then some (h.choose:Int) else none
def B0 (xs ys:List Int):List Tri:=Dm (D7 xs ys) xs.length
def Bo (xs ys:List Int):List Op:=Dn xs.length ys.length (Bn (B3 (B0 xs ys)))
def iabs (x:Int):Int:=if x<0 then -x else x
def Ga (rows:List Op)(r:Nat):Bool:=decide ((rows.getD r ("",0,0,0,0)).1 ≠ "equal")
def CU (rows:List Op):List Nat:=(List.range rows.length).filter (Ga rows)
def DX (rows:List Op)(n r:Nat):Bool:=!((CU rows).filter λc:Nat=>decide (iabs ((r:Int)-(c:Int))<=n)).isEmpty
def C8 (rows:List Op)(n:Nat):List Bool:=(List.range rows.length).map (DX rows n)++[false]
def AG (rows:List Op)(n r:Nat):Bool:=(C8 rows n).getD r false
def BA (gs:List (List Op)):List Int:=gs.flatMap λg=>(List.range ((bnd g).2.1-(bnd g).1).toNat).map λk:Nat=>(bnd g).1+(k:Int)
def shF (gs:List (List Op))(i:Nat):Bool:=decide ((i:Int)∈BA gs)
def AA (xs ys:List Int)(n:Nat):List (List Op):=Bc (Bo xs ys) (AG (Bo xs ys) n) (Bo xs ys).length
def tupT (x:Tri):AV:=.tup [.int x.1,.int x.2.1,.int x.2.2]
abbrev M3(A:Around)(E:ET)(B:Shared)(aa:Env)(m:Loc)(e e':Expr)(Q:QV):AV->Hp->Prop:=λl ak=>∃a xs₁,l = .ref a/\ak a=some (.list xs₁)/\a≠aa.locals /\
 ↥EVS [e,e'] m ak λvs ae=>∃(xs:List AV) (k:Int) (y:AV),vs=[.int k,y]/\ae a=some (.list xs)/\0<=k/\k<=xs.length/\xs.length<=4000/\Q .none (ae.set a (.list (xs.take k.toNat++y::xs.drop k.toNat)))
def rgSt (a b:Int)(i:Nat)(ob:Obj):Prop:=ob={ cls:=.type "range_iterator",dict:=none,data:=.fields #[rawInt (a+i),rawInt ((b-a).toNat-i),rawInt 1],slots:=#[] }
def two (cnt:AV->Nat)(e:AV->Nat->AV)(xs:List AV):List AV:=xs.flatMap λv=>(List.range (cnt v)).map (e v)
def EMT (M:Model)(A:Around)(E:ET)(B:Shared)(aa:Env)(em:Sem Unit)(m:Loc)(hp:Hp)(Q:Loc->Hp->Prop):Prop:=
 ∀s,Rel B hp[m]! s->wpAny M A em (PA B aa.locals s.heap Q) E s
structure Itr (M:Model)(A:Around)(B:Shared)(hb:Hp)(L:Addr)(n:Nat)(el:Nat->AV)(st:Nat->Obj->Prop):Prop where
 ok:∀i ob,st i ob->¬Imm ob/\∃n,ob.cls = .type n/\["enumerate", "zip", "dict_itemiterator", "dict_reverseitemiterator", "odict_iterator", "itertools.zip_longest", "itertools.pairwise"].contains n=false
 next:∀i it ao ae s ob,i<n->Hp.Le hb ae->st i ob->Rel B (ae.set L (.ns ao)) s->s.heap.get? it=some ob->∀(E:ET) (W:Option Value->Shared->Prop),
   (∀v h' t' ob',VR s.heap (el i) v->h'.get? it=some ob'->st (i+1) ob'->Heap.SameBut it s.heap h'->W (some v) { s with heap:=h',toks:=t' })->wpAny M A (pyNext (.ref it)) W E s
 stop:∀it ao ae s ob,Hp.Le hb ae->st n ob->Rel B (ae.set L (.ns ao)) s->s.heap.get? it=some ob->∀(E:ET) (W:Option Value->Shared->Prop),
   (∀h' t',Heap.ExtBut it s.heap h'->W none { s with heap:=h',toks:=t' })->wpAny M A (pyNext (.ref it)) W E s
def Itb (M:Model)(A:Around)(B:Shared)(aa:Env)(hk:Hp)(n:Nat)(el:Nat->AV)(o:AV)(hp:Hp):Prop:=
 ∀m s u (E:ET) (W:ET),Rel B hp[m]! s->VR s.heap o u ->
  (∀itob st,st 0 itob->itob.isFreed=false->(∀it s' (E:ET) (W:ET),s'.heap.get? it=some itob->W (.ref it) s'->wpAny M A (pyIter (.ref it)) W E s') ->
   (∀hb C,(∀a xs,Lst B hk aa.locals a xs->Lst B hb C a xs)->Itr M A B hb C n el st)->W (.ref s.heap.objs.size) { s with heap:=s.heap.push itob })->wpAny M A (pyIter u) W E s
structure CI (hb:Hp)(acc:Addr)(o:AO)(it:Addr)(ob:Obj)(hp:Hp):Prop where
 le:Hp.Le hb hp
 acc:hp acc=some o
 it:hp it=some (.obj ob)
structure CTurn(A:Around)(cmp aD:Expr)(d:Nat)(ifs:List Expr)(p:Pos)(em:Sem Unit)(it acc:Addr)(aa:Env):Prop where
 tn:compTurn cmp d (.ref it) (.ref acc) aa=(do
   standAt p
   match <-pyNext (.ref it) with
   | none=>pure (.done .next)
   | some v=>
    letOwnedTupleGo aD (.ref it) v
    assign aD aa v
    let mut ok:=true
    for c in ifs do
     if ok then ok <-isTrue c aa (eval c aa)
    if ok then em
    again (.compLoop cmp d (.ref it) (.ref acc) aa))
 q:(Code.compLoop cmp d (.ref it) (.ref acc) aa).quiet=true
 un:A.under (.compLoop cmp d (.ref it) (.ref acc) aa)=A
 dn:Md.den (.compLoop cmp d (.ref it) (.ref acc) aa)=(compTurn cmp d (.ref it) (.ref acc) aa).onRaise λx=>do noteFrame x aa;theTreesLotGoes x
abbrev CInv (B:Shared)(L:Addr)(hb:Hp)(acc it:Addr)(o:Nat->AO)(J:Loc->Hp->Prop)(n:Nat)(st:Nat->Obj->Prop)(hZ:Heap)(k:Nat)(s':Shared):Prop:=
 ∃i ao ae ob,k=n-i/\i<=n/\CI hb acc (o i) it ob ae/\J ao ae/\st i ob/\Rel B (ae.set L (.ns ao)) s'/\ImmLe hZ s'.heap
structure Fr (hp:Hp)(L it acc C:Addr):Prop where
 i:hp it=none
 iL:it≠L
 a:hp acc=none
 aL:acc≠L
 ai:acc≠it
 c:hp C=none
 cL:C≠L
 ci:C≠it
 ca:C≠acc
structure Cells (scope:Scope)(x:Option An):Prop where
 from_:∀(n:Nat) (cl:List (An×Addr)),cellsFrom n scope.names cl=x.elim cl λx=>(x,n)::cl
 push:∀h:Heap,pushCells h scope.names=x.elim h λ_=>h.push { cls:=.type "cell",data:=.cell none }
abbrev Cl (x:Option An)(C:Addr)(cl:List (An×Addr)):List (An×Addr):=x.elim cl λx=>(x,C+1)::cl
abbrev CJ (x:Option An)(C:Addr)(hp:Hp):Prop:=x.elim True λ_=>∃v₀,hp (C+1)=some (.cell v₀)
structure FrC (hp:Hp)(L it acc C:Addr):Prop where
 n:hp C=none
 l:C≠L
 i:C≠it
 a:C≠acc
abbrev M4(A:Around)(E:ET)(B:Shared)(aa:Env)(m:Loc)(use:Option (Value->Sem Unit))(PP:ET)(s:Shared)(F:Addr->Hp->Prop):Prop:=
 ∀hpX acc C m' s',C≠aa.locals->hpX C=none->Rel B (hpX.set C (.ns m'))[m]! s'->ImmLe s.heap s'.heap->F acc hpX->compPost Md A E use PP (.ref acc) C (.ok .next) s'
def Goes(A:Around)(B:Shared)(aa:Env)(m:Loc)(cmp:Expr)(fresh:Sem Value)(scope:Scope)(cl:List (An×Addr))(F:Addr->Hp->Prop)(v:AV)(hp:Hp):Prop:=
 ∀E use PP s ar u,Rel B hp[m]! ar->ImmLe s.heap ar.heap->VR ar.heap v u->M4 A E B aa m use PP s F ->
  wpAny Md A (pyIter u) (λit ax=>wpAny Md A fresh (λacc sX=>wpAny Md A (newFunctionEnv scope aa.globals cl [] aa.qual none .none (some aa)) (λcenv sY=>codeAny Md A (.compStart cmp 0 it acc { cenv with scope:=relabel scope aa }) (compPost Md A E use PP acc cenv.locals) sY) E sX) E ax) E ar
abbrev DCP(A:Around)(B:Shared)(aa:Env)(m:Loc)(x:An)(ifs:List Expr)(kx vx:Expr)(scope:Scope)(cl:List (An×Addr))(p:Nat->Bool)(fk:Nat->Int)(fv:Nat->AV)(Q:QV)(o:AV)(ak:Hp):Prop:=
 ∃rg ob a b,o = .ref rg/\ak rg=some (.obj ob)/\rg≠aa.locals/\RangeOb ob a b/\-(2 ^ 62)<=a/\a<2 ^ 62/\-(2 ^ 62)<=b/\b<2 ^ 62/\(b-a).toNat<=5000 /\
   (∀C ao ae (i:Nat),i<(b-a).toNat->ak C=none->C≠aa.locals->Hp.Le ak[m]! ae->ao x=some (.int (a+i)) ->
    TSTs Md A (λ_ _=>False) B (compEnvC scope cl C aa) ifs ao ae λt hpY=>t=p i/\Hp.Le ae hpY/\(t=true->EV Md A (λ_ _=>False) B (compEnvC scope cl C aa) kx ao hpY λv hpK=>v = .int (fk i)/\Hp.Le hpY hpK/\EV Md A (λ_ _=>False) B (compEnvC scope cl C aa) vx ao hpK λy hpV=>y=fv i/\Hp.Le hpK hpV)) /\
   ∀acc,ak acc=none->acc≠aa.locals->Q (.ref acc) (ak.set acc (.dict (dofs p fk fv (b-a).toNat)))
abbrev C2P(A:Around)(B:Shared)(aa:Env)(m:Loc)(aD iter2 elt:Expr)(x2:An)(scope:Scope)(cl:List (An×Addr))(cnt:AV->Nat)(e:AV->Nat->AV)(F:Addr->Hp->Prop)(o:AV)(ak:Hp):Prop:=
 ∃a xs,o = .ref a/\Lst B ak aa.locals a xs/\(two cnt e xs).length<=100000 /\
   (∀C ao ae v,v∈xs->ak C=none->C≠aa.locals->Hp.Le ak[m]! ae ->
    ASG Md A (λ_ _=>False) B (compEnvC scope cl C aa) aD v ao ae λmX hpX=>Hp.Le ae hpX /\
     EV Md A (λ_ _=>False) B (compEnvC scope cl C aa) iter2 mX hpX λo2 hpY=>Hp.Le hpX hpY/\∃el,Itb Md A B (compEnvC scope cl C aa) ak[m]! (cnt v) el o2 hpY /\
      ∀(k:Nat) mK hpK,k<cnt v->Hp.Le ak[m]! hpK->mK x2=some (el k)->(∀y,y≠x2->mK y=mX y) ->
       EV Md A (λ_ _=>False) B (compEnvC scope cl C aa) elt mK hpK λv' hpV=>v'=e v k/\Hp.Le hpK hpV) /\
   ∀acc,ak acc=none->acc≠aa.locals->F acc (ak.set acc (.list (two cnt e xs)))
def kpS (i:Nat):Stmt:=(AE (topS PW 7)).getD i (.Pass default)
def kpB (i:Nat):Stmt:=(kids (kpS 2)).getD i (.Pass default)
def tD (x:Tri):PyData:=.tuple [.int x.1,.int x.2.1,.int x.2.2]
def kpC (i:Nat):Stmt:=(kids (kpB 0)).getD i (.Pass default)
def putU (us:List Tri)(i j:Int):List Tri:=
 match us.getLast? with
 | some u=>if i=u.1+u.2.2/\j=u.2.1+u.2.2 then us.dropLast++[(u.1,u.2.1,u.2.2+1)] else us++[(i,j,1)]
 | none=>us++[(i,j,1)]
def putO (us:List Tri)(i:Int)(P:Option Int):List Tri:=match P with | some j=>putU us i j | none=>us
def kpL (i:Nat):Stmt:=(kids (kpS 4)).getD i (.Pass default)
def intA:AV->Int
 | .int i=>i
 | _=>0
def tupI (k:Nat):AV->Int
 | .tup xs=>intA (xs.getD k .none)
 | _=>0
def acrV (i j:Int)(v:AV):Bool:=decide (tupI 0 v<i) != decide (tupI 1 v<j)
def negV:AV->AV
 | .tup [.int a,.int b,.int c]=>.tup [.int (-c),.int a,.int b]
 | v=>v
def stKs (L:List Tri)(k:Nat):List Tri:=(L.take k).foldl stK []
def szV:AV->Nat
 | .tup [.int _,.int _,.int c]=>c.toNat
 | _=>0
def prV:AV->Nat->AV
 | .tup [.int a,.int b,.int _],k=>.tup [.int (a+k),.int (b+k)]
 | v,_=>v
def plD (ys:List Int):List (Int×AV):=dofs (λ_=>true) (λj=>ys.getD j 0) (λj=>.int (j:Int)) ys.length
def forT:Expr:=kidT (grpS 7)
def forB:List Stmt:=kids (grpS 7)
def Ls (hp:Hp)(ys:List Addr)(gs:List (List Op)):Prop:=ys.length=gs.length/\∀(i:Nat) (y:Addr) (g:List Op),ys[i]?=some y->gs[i]?=some g->hp y=some (.list (g.map oAV))
structure GI (hb:Hp)(S' L it:Addr)(n:Int)(st:GSt)(gA:Addr)(ys:List Addr)(m:Loc)(hp:Hp):Prop where
 hn:m (S "n")=some (.int n)
 hnn:m (S "nn")=some (.int (n+n))
 hg:m (S "group")=some (.ref gA)
 gl:hp gA=some (.list (st.2.map oAV))
 s:hp S'=some (.list (ys.map .ref))
 ls:Ls hp ys st.1
 fr:∀y∈gA::ys,hb y=none/\y≠L/\y≠it/\y≠S'
 gy:gA∉ys
 le:Hp.Le hb hp
 bS:hb S'=none
 sL:S'≠L
 si:S'≠it
 len:st.1.length+st.2.length<=999
def stG (n:Int)(cs:List Op)(k:Nat):GSt:=(cs.take k).foldl (Ct n) ([],[])
def gpS (i:Nat):Stmt:=(AE (topS PW 9)).getD i (.Pass default)
def gpB (i:Nat):Stmt:=(kids (gpS 3)).getD i (.Pass default)
def oD (o:Op):PyData:=.tuple [.str (S o.1),.int o.2.1,.int o.2.2.1,.int o.2.2.2.1,.int o.2.2.2.2]
structure GL (h0:Hp)(L gA it:Addr)(ob:AO)(gs:List (List Op))(hp:Hp)(ys:List Addr):Prop where
 le:Hp.Le h0 hp
 g:hp gA=some (.list (ys.map .ref))
 ls:Ls hp ys gs
 nd:ys.Nodup
 fr:∀y∈ys,h0 y=none/\y≠L/\y≠gA/\y≠it
 g0:h0 gA=none
 gL:gA≠L
 gi:gA≠it
 i0:h0 it=none
 hit:hp it=some ob
structure GH (h0:Hp)(L rA nA:Addr)(rows:List Op)(n:Nat):Prop where
 r:h0 (L+1)=some (.cell (some (.ref rA)))
 rl:h0 rA=some (.list (rows.map oAV))
 rL:rA≠L
 c:h0 (L+4)=some (.cell (some (.ref nA)))
 nl:h0 nA=some (.list ((C8 rows n).map .bool))
 nL:nA≠L
structure GV (r:Nat)(o:Op)(gA:Addr)(m:Loc):Prop where
 r:m (S "r")=some (.int r)
 t:m (S "tag")=some (.str (S o.1))
 i1:m (S "i1")=some (.int o.2.1)
 i2:m (S "i2")=some (.int o.2.2.1)
 j1:m (S "j1")=some (.int o.2.2.2.1)
 j2:m (S "j2")=some (.int o.2.2.2.2)
 g:m (S "groups")=some (.ref gA)
def gpE (i:Nat):Stmt:=(kids (gpB 2)).getD i (.Pass default)
def stLG (rows:List Op)(near:Nat->Bool)(rs:List Nat)(i:Nat):List (List Op):=(rs.take i).foldl (stepL rows near) []
structure FG (B:Shared)(aa:Env)(m:Loc)(hp:Hp)(bs:List (An×AV))(f:Addr)(fd:FuncData)(body:List Stmt)(s s':Shared)(L I:Addr)(go:Obj)(g:Nat):Prop where
 L0:hp L=none
 Le:L≠aa.locals
 I0:hp I=none
 Ie:I≠aa.locals
 IL:I≠L
 isg:∀h:Heap,h.get? I=some go->h.IsGen I g
 rel:Rel { B with gens:=s'.gens } ((hp.set I (.obj go)).set L (.ns (locOf bs)))[m]! s'
 gl:GensLe B.gens s'.gens
 gB:B.gens.size<=g
 gs:g<s'.gens.size
 fr:s'.gens[g]?=some (.fresh (.func body (callEnv fd L f)))
 le:ImmLe s.heap s'.heap
def EVG (M:Model)(A:Around)(E:ET)(B:Shared)(aa:Env)(e:Expr)(m:Loc)(hp:Hp)(bs:List (An×AV))(f:Addr)(fd:FuncData)(body:List Stmt):Prop:=
 ∀s,Rel B hp[m]! s->wpAny M A (eval e aa) (λv s'=>∃L I go g,v = .ref I/\FG B aa m hp bs f fd body s s' L I go g) E s
abbrev H0 (B:Shared)(fd:FuncData)(avs:List AV)(bs:List (An×AV)):Prop:=
 ∀(s:Shared) ws,VRs s.heap avs ws->(∀b o,B.heap.get? b=some o->s.heap.get? b=some o)->∃us:List (An×Value),BindsTo s fd ⟨ws,[]⟩ us/\us.reverse.map (·.1)=bs.map (·.1)/\VRs s.heap (bs.map (·.2)) (us.reverse.map (·.2))
abbrev IH(A:Around)(E:ET)(B:Shared)(aa:Env)(rr:Expr)(m:Loc)(KK:QX)(S:Addr)(ah:Hp):Prop:=
 ∃hpX,Hp.Le hpX[m]! ah/\↥EV rr m hpX λb hpY=>↥OP2 (compareOp .Eq) m (.ref S) b hpY λv hpK=>KK (.ret v) m hpK
def vS (i:Nat):Stmt:=(AE (topS PW 10)).getD i (.Pass default)
abbrev vEnv (L:Addr):Env:=callEnvC fdLaw L 268
def vB (i:Nat):Stmt:=(kids (vS 3)).getD i (.Pass default)
structure BL (hp:Hp)(L bA pA wA:Addr)(zs:List (Addr×List Int))(st:BdSt):Prop where
 b:hp bA=some (.list (st.1.map .int))
 p:hp pA=some (.list (zs.map λz=>.ref z.1))
 ww:hp wA=some (.list (st.2.2.1.map .int))
 c:hp (L+1)=some (.cell (some (.int st.2.2.2)))
 ps:zs.map (·.2)=st.2.1
 z:∀z∈zs,hp z.1=some (.list (z.2.map .int))/\z.1≠bA/\z.1≠pA/\z.1≠wA/\z.1≠L+1/\z.1≠L
structure BN (L bA pA wA:Addr):Prop where
 bp:bA≠pA
 bw:bA≠wA
 pw:pA≠wA
 bL:bA≠L
 pL:pA≠L
 wL:wA≠L
 bc:bA≠L+1
 pc:pA≠L+1
 wc:wA≠L+1
structure BO (hp:Hp)(L bA pA wA:Addr)(zs:List (Addr×List Int))(n:Nat)(nums:List Int)(m:Loc):Prop where
 X:BL hp L bA pA wA zs (bdTo nums)
 D:BN L bA pA wA
 nl:nums.length<=62
 n8:n<=8
 c2:hp (L+2)=some (.cell none)
 c3:hp (L+3)=some (.cell none)
 gn:m (S "n")=some (.int n)
 gb:m (S "base")=some (.ref bA)
 gp:m (S "parts")=some (.ref pA)
 gw:m (S "ways")=some (.ref wA)
structure LP (xs ys:List Int):Prop where
 lx:xs.length<=744
 ly:ys.length<=744
 x0:∀x∈xs,0<=x
 y0:∀x∈ys,0<=x
 nx:xs.Nodup
 ny:ys.Nodup
 un:(B0 xs ys).length<=62
def lsO:Option AO->List AV
 | some (.list xs)=>xs
 | _=>[]
def lsOf (hp:Hp):AV->List AV
 | .ref q=>lsO (hp q)
 | _=>[]
structure LR (hp:Hp)(L bA wA tA gA:Addr)(ad:List Addr)(xs ys ws:List Int)(n:Nat):Prop where
 b:hp bA=some (.list (xs.map .int))
 ww:hp wA=some (.list (ws.map .int))
 t:hp tA=some (.list (ys.map .int))
 g:hp gA=some (.list (ad.map .ref))
 ls:Ls hp ad (AA xs ys n)
 bL:bA≠L
 wL:wA≠L
 tL:tA≠L
 gL:gA≠L
 aL:∀y∈ad,y≠L
abbrev InI (la:Int)(o:Op):Prop:=(0<=o.2.1/\o.2.1<=la)/\0<=o.2.2.1/\o.2.2.1<=la
def loV (hp:Hp)(v:AV):Int:=tupI 1 ((lsOf hp v).headD .none)
def hiV (hp:Hp)(v:AV):Int:=tupI 2 ((lsOf hp v).getLastD .none)
def cntV (hp:Hp)(v:AV):Nat:=(hiV hp v-loV hp v).toNat
def vW (i:Nat):Stmt:=(kids (vS 8)).getD i (.Pass default)
def atL (f:Nat->List Int)(k:Nat):List Int:=(List.range k).map λ(i:Nat)=>Am f i
structure OA (hp:Hp)(L oA aA:Addr)(f:Nat->List Int)(k:Nat):Prop where
 o:hp oA=some (.list ((cat f 0 k).map .int))
 a:hp aA=some (.list ((atL f k).map .int))
 c:hp (L+2)=some (.cell (some (.ref aA)))
structure OD (L oA aA:Addr):Prop where
 oa:oA≠aA
 oL:oA≠L
 aL:aA≠L
 oc:oA≠L+2
 ac:aA≠L+2
def stMV (a:Int->Int)(ours theirs:List Int)(gs:List (List Op))(k:Nat):MvSt:=(gs.take k).foldl (stMv a ours theirs) ([],[],0)
def vX (i:Nat):Stmt:=(kids (vS 11)).getD i (.Pass default)
structure GQ (hp:Hp)(L y:Addr)(g:List Op)(o z:Op):Prop where
 h:hp y=some (.list (g.map oAV))
 yL:y≠L
 q0:(g.map oAV)[(0:Int).toNat]?=some (oAV o)
 q1:(g.map oAV)[(-1+((g.map oAV).length:Int)).toNat]?=some (oAV z)
 le : -((g.map oAV).length:Int)<=-1
 b:bnd g=(o.2.1,z.2.2.1,o.2.2.2.1,z.2.2.2.2)
structure MR (hp:Hp)(L oA aA tA:Addr)(f:Nat->List Int)(la:Nat)(ys:List Int):Prop where
 o:hp oA=some (.list ((cat f 0 la).map .int))
 a:hp aA=some (.list ((atL f (la+1)).map .int))
 c:hp (L+2)=some (.cell (some (.ref aA)))
 t:hp tA=some (.list (ys.map .int))
 oL:oA≠L
 aL:aA≠L
 tL:tA≠L
structure MM (oA tA mA vA:Addr)(here:Int)(m:Loc):Prop where
 o:m (S "ours")=some (.ref oA)
 t:m (S "theirs")=some (.ref tA)
 md:m (S "made")=some (.ref mA)
 v:m (S "moved")=some (.ref vA)
 h:m (S "here")=some (.int here)
def mvV (f:Nat->List Int)(s:Int):AV->AV
 | .tup [t,.int a,.int b,.int c,.int d]=>.tup [t,.int (Am f a),.int (Am f b),.int (c+s),.int (d+s)]
 | v=>v
structure MS (hp:Hp)(L mA vA it:Addr)(st:MvSt)(zs:List Addr):Prop where
 m:hp mA=some (.list (st.1.map .int))
 v:hp vA=some (.list (zs.map .ref))
 ls:Ls hp zs st.2.1
 z:∀z∈zs,z≠L/\z≠mA/\z≠vA/\z≠L+3/\z≠it
 c:∃v,hp (L+3)=some (.cell v)
structure GB (gs:List (List Op))(f:Nat->List Int)(la:Nat)(ys:List Int):Prop where
 lla:la<=744
 lf:∀k,(f k).length<=2
 lys:ys.length<=744
 ne:∀g∈gs,g≠[]/\∀o∈g,InI la o
 len:gs.length<=1600
 gl:∀g∈gs,g.length<=4800
 bd:∀g∈gs,(0<=(bnd g).1/\(bnd g).1<=(bnd g).2.1/\(bnd g).2.1<=la)/\(0<=(bnd g).2.2.1/\(bnd g).2.2.1<=(bnd g).2.2.2/\(bnd g).2.2.2<=ys.length)
 mv:∀k,(0<=(stMV (Am f) (cat f 0 la) ys gs k).2.2/\(stMV (Am f) (cat f 0 la) ys gs k).2.2<=la)/\(stMV (Am f) (cat f 0 la) ys gs k).1.length<=2300
def ops1 (l:List Op):List Op:=if l=[] then[("equal",0,1,0,1)] else l
def gD (g:List Op):PyData:=.list (g.map oD)
variable {a L l y t it L' dx C d en z mo aA bA ib mA nA cA rA kA uA pA tA S' gA wA sA oA vA:Addr}{b k j q aH aJ aG aI la lb i' j1 j2 other x0 y0 laid:Int}{hp ah ae hk hb hpX:Hp}{o e test value slice aE t₁ t₂ aD iter elt cmp:Expr}{r i n ep n' r' N:Nat}{h h' h0:Heap}{vs:List Value}{x name x2:An}{v av op dv bv mb nv:AV}{c:Code}{m m' ma ma' ao:Loc}{B s s' s₀:Shared}{ob go oi o1 o2 od:Obj}{Q:QV}{f:Nat->List Int}{M K:Int->Int->Prop}{A:Around}{X:Sem Value}{E:ET}{W:Unit->Shared->Prop}{aa:Env}{st xs bs ys ns sts as nums ws ours theirs:List Int}{aC body orelse:List Stmt}{u res self:Value}{es:Array (Int×Value)}{fd:FuncData}{avs:List AV}{ts:List (Value->Sem Unit)}{elts ifs:List Expr}{el:Nat->AV}{R:Result->Shared->Prop}{T gid:String}{Cn:Con}{F:Hp->Prop}{fs:List Frame}{H:Value->Sem Fin}{pos p1 p2 py spos p3 p4:Pos}{gn:Array GenState}{g rows:List Op}{gs D:List (List Op)}{items:Array Value}{ps:List (Int×Value)}{kvs kj kn:List (Int×AV)}{P:PySem.Fin->Shared->Prop}{J:Int->List Nat}{v₀ cj:Option AV}{os:OsState}{us acc bl bl' kept:List Tri}{p:Array Nat}{V:Int->Int->Int}{aj:Bool}{near sh:Nat->Bool}{cs:List (Int×Int)}{way:Nat->Int}{g0:Comprehension}{scope:Scope}{cnt:AV->Nat}{cl:List (An×Addr)}{zs:List (Addr×List Int)}{ad:List Addr}{rs:List Nat}
--THEOREMS
theorem Ad (hp:Hp)(a:Addr)(o:AO):(hp.set a o) a=some o:=by simp[Hp.set]
theorem Al (hp:Hp){b:Addr}(o:AO)(h:b≠a):(hp.set a o) b=hp b:=by show if_neg h
theorem Ab{b:Addr}{o:AO}{r:Option AO}(h:b≠a)(g:hp b=r):(hp.set a o) b=r:=(Al hp o h).trans g
theorem CV{b:Addr}{o:AO}{r:Option AO}(h:b≠a)(g:(hp.set a o) b=r):hp b=r:=(Al hp o h).symm.trans g
theorem Ch (hp:Hp)(a:Addr)(o o':AO):(hp.set a o).set a o'=hp.set a o':=by funext b;by_cases h:b=a <;> simp[Hp.set,h]
theorem A8 (hp:Hp){b:Addr}(o o':AO)(h:a≠b):(hp.set a o).set b o'=(hp.set b o').set a o:=by
 funext c;simp only[Hp.set];by_cases h1:c=a
 .by_cases h2:c=b
  .exact absurd (h1.symm.trans h2) h
  .simp [h1,h]
 .by_cases h2:c=b
  .clear h;subst h2;simp[h1]
  .simp [h1,h2]
theorem ImmLe.refl (h:Heap):ImmLe h h:=λ_ _ e _=>e
theorem ImmLe.trans {h₁ h₂ hX:Heap}(x:ImmLe h₁ h₂)(y:ImmLe h₂ hX):ImmLe h₁ hX:=λb o e i=>y b o (x b o e i) i
theorem ImmLe.keep (x:∀b o,h.get? b=some o->h'.get? b=some o):ImmLe h h':=λb o e _=>x b o e
theorem H1 (le:ImmLe h h'){vs:Array Value}(x:IsTup h a vs):IsTup h' a vs:=let ⟨o,ho,hc,n,r⟩:=x;⟨o,le a o ho ⟨.inl hc,_,n,r⟩,hc,n,r⟩
theorem M5 (le:ImmLe h h'){vs:Array Value}(x:IsMat h a vs):IsMat h' a vs:=let ⟨o,ho,hc,n,r⟩:=x;⟨o,le a o ho ⟨.inr hc,_,n,r⟩,hc,n,r⟩
mutual
theorem VR.mono {h h':Heap}(le:ImmLe h h'):∀{x:AV}{v:Value},VR h x v->VR h' x v
 | .none,_,e=>by simpa only[VR] using e
 | .bool _,_,e=>by simpa only[VR] using e
 | .int _,_,e=>by simpa only[VR] using e
 | .str _,_,e=>by simpa only[VR] using e
 | .flt _,_,e=>by simpa only[VR] using e
 | .ref _,_,e=>by simpa only[VR] using e
 | .ty _,_,e=>by simpa only[VR] using e
 | .bi _,_,e=>by simpa only[VR] using e
 | .tup xs,v,e=>by simp only[VR]at e ⊢;x_go;obtain⟨a,vs,e1,e2,e3⟩:=e;z_go;show⟨a,vs,e1,H1 le e2,VRs.mono le e3⟩
 | .mat xs,v,e=>by simp only[VR]at e ⊢;x_go;obtain⟨a,vs,e1,e2,e3⟩:=e;z_go;show⟨a,vs,e1,M5 le e2,VRs.mono le e3⟩
theorem VRs.mono {h h':Heap}(le:ImmLe h h'):∀{xs:List AV}{vs:List Value},VRs h xs vs->VRs h' xs vs
 | [],_,e=>by simpa only[VRs] using e
 | x::xs,vs,e=>by simp only[VRs]at e ⊢;obtain⟨v,r,e1,e2,e3⟩:=e;show⟨v,r,e1,VR.mono le e2,VRs.mono le e3⟩
end
theorem VRs.length:∀{xs:List AV}{vs:List Value},VRs h xs vs->vs.length=xs.length:=by
 intro r_;induction r_ with
 | nil=>intro _ e;simp only[VRs]at e;subst e;rfl
 | cons x xs ih=>intro vs e;simp only[VRs]at e;show aN e λv r zz1 _ e3=>?_;subst zz1;simp[ih e3]
theorem VRs.append:∀{xs ys:List AV}{vs ws:List Value},VRs h xs vs->VRs h ys ws->VRs h (xs++ys) (vs++ws):=by
 intro r_;induction r_ with
 | nil=>intro _ _ _ e e';subst e;show e'
 | cons x xs ih=>intro ys vs ws e e';show aN e λv r zz1 e2 e3=>?_;clear e;subst zz1;show aT v (r++ws) rfl e2 (ih e3 e')
theorem VRs.one{x:AV}{v:Value}(e:VR h x v):VRs h [x] [v]:=by simp only[VRs];show aT v ([]) rfl e rfl
theorem VRs.get:∀{xs:List AV}{vs:List Value}{i:Nat}{x:AV},VRs h xs vs->xs[i]?=some x->∃v,vs[i]?=some v/\VR h x v:=by
 intro r_;induction r_ with
 | nil=>intro _ _ _ _ e;injection e
 | cons y xs ih=>
  intro vs i x e hx;show aN e λv r zz1 e2 e3=>?_;clear e;subst zz1;cases i with
  | zero=>cases hx;show aM v rfl e2
  | succ i=>have:=ih (vs:=r) (i:=i) e3 hx;show this
theorem VRs.take:∀{xs:List AV}{vs:List Value} (n:Nat),VRs h xs vs->VRs h (xs.take n) (vs.take n):=by
 intro r_;induction r_ with
 | nil=>intro _ n e;subst e;simp[VRs]
 | cons x xs ih=>
  intro vs n e;cases n with
  | zero=>rfl
  | succ n=>show aN e λv r zz1 e2 e3=>?_;clear e;subst zz1;show aT v _ rfl e2 (ih n e3)
theorem VRs.drop:∀{xs:List AV}{vs:List Value} (n:Nat),VRs h xs vs->VRs h (xs.drop n) (vs.drop n):=by
 intro r_;induction r_ with
 | nil=>intro _ n e;simp only[VRs]at e;subst e;simp[VRs]
 | cons x xs ih=>
  intro vs n e;cases n with
  | zero=>show e
  | succ n=>simp only[VRs]at e;show aN e λv r zz1 e2 e3=>?_;clear e;subst zz1;show ih n e3
theorem CellR.mono (le:ImmLe h h'):∀{v:Option AV}{u:Option Value},CellR h v u->CellR h' v u
 | none,_,e=>e
 | some _,_,⟨x,e,hv⟩=>aM x e (hv.mono le)
theorem GensLe.refl (a:Array GenState):GensLe a a:=λ_ _ e=>e
theorem GensLe.trans {a b c:Array GenState}(x:GensLe a b)(y:GensLe b c):GensLe a c:=λi g e=>y i g (x i g e)
theorem GensLe.size {a b:Array GenState}(x:GensLe a b):a.size<=b.size:=by
 rcases EN b.size a.size with h | h
 .have e:=x b.size a[b.size] (F6 h);rw[Dv (A5 _)]at e;cases e
 .exact h
theorem GensLe.push (a:Array GenState)(g:GenState):GensLe a (a.push g):=λi x e=>by
 have hi:i<a.size:=by
  rcases EN i a.size with h | h
  .exact h
  .rw [Dv h]at e;cases e
 rw[Array.getElem?_push_lt hi];rw[F6 hi]at e;show e
theorem LocR.mono (le:ImmLe h h'){mv:An->Option Value}(x:LocR h m mv):LocR h' m mv:=⟨λy v e=>let ⟨u,a,b⟩:=x.1 y v e;(aM u a (b.mono le)),x.2⟩
theorem OR.here (le:ImmLe h h')(e:∀o,h.get? a=some o->h'.get? a=some o){o:AO}(x:OR h a o):OR h' a o:=by
 cases o with
 | list xs=>show aY x λvs n x y=>?_;show a8 vs n (e _ x) (y.mono le)
 | ns m=>show aK x λmv zz1 y=>?_;show bE zz1 λo es ep ho r=>?_;show⟨mv,bJ o es ep (e _ ho) r,y.mono le⟩
 | atr m=>show aK x λmv zz1 y=>?_;show bE zz1 λo es ep ho r=>?_;show aO mv (bJ o es ep (e _ ho) r) (y.1.mono le) y.2
 | obj o=>show⟨e _ x.1,x.2⟩
 | cell v=>show aN x λo u ho hd hc=>?_;show aT o u (e _ ho) hd (hc.mono le)
 | dict kvs=>show aS x λps zz1 hk hv=>?_;show bE zz1 λo es ep ho r=>?_;show aO ps (bJ o es ep (e _ ho) r) hk (hv.mono le)
 | set f n=>show bK x λo es ep t ho r=>?_;show bQ o es ep t (e _ ho) r
theorem OR.ex{o:AO}(x:OR h a o):∃ob,h.get? a=some ob:=by
 cases o with
 | list xs=>show⟨_,x.choose_spec.choose_spec.1⟩
 | ns m=>show aK x λ_ zz1 _=>?_;show bE zz1 λo _ _ ho _=>?_;show⟨o,ho⟩
 | atr m=>show aK x λ_ zz1 _=>?_;show bE zz1 λo _ _ ho _=>?_;show⟨o,ho⟩
 | obj o=>show⟨_,x.1⟩
 | cell v=>show aY x λo _ ho _=>?_;show⟨o,ho⟩
 | dict kvs=>show aK x λ_ zz1 _=>?_;show bE zz1 λo _ _ ho _=>?_;show⟨o,ho⟩
 | set f n=>show bK x λo _ _ _ ho _=>?_;show⟨o,ho⟩
theorem Rel.lt (r:Rel B hp s){o:AO}(e:hp a=some o):a<s.heap.objs.size:=let ⟨_,h⟩:=(r.objs a o e).2.ex;Cd h
theorem Rel.sub (r:Rel B hp s)(le:∀a o,ah a=some o->hp a=some o):Rel B ah s:=⟨r.keep,λa o e=>r.objs a o (le a o e),r.os,r.bare,r.size⟩
theorem Rel.toks (r:Rel B hp s)(t:Nat):Rel B hp { s with toks:=t }:=⟨r.keep,r.objs,r.os,r.bare,r.size⟩
theorem Rel.alloc (r:Rel B hp s)(ob:Obj)(o:AO)(ho:OR (s.heap.push ob) s.heap.objs.size o):Rel B (hp.set s.heap.objs.size o) { s with heap:=s.heap.push ob } where
 keep b o' e:=AX _ (r.keep b o' e)
 objs a o' e:=by
  by_cases h:a=s.heap.objs.size
  .subst h;rw[Ad]at e;cases e;show⟨r.size,ho⟩
  .rw [Al _ _ h]at e;have x:=r.objs a o' e;show⟨x.1,x.2.here (ImmLe.keep λb o'' e=>AX _ e) λo'' e=>AX _ e⟩
 os:=r.os
 bare:=r.bare
 size:=Aj r.size (by simp)
theorem Rel.push (r:Rel B hp s)(ob:Obj):Rel B hp { s with heap:=s.heap.push ob } where
 keep b o' e:=AX _ (r.keep b o' e)
 objs a o' e:=⟨(r.objs a o' e).1,(r.objs a o' e).2.here (ImmLe.keep λb o'' e=>AX _ e) λo'' e=>AX _ e⟩
 os:=r.os
 bare:=r.bare
 size:=Aj r.size (by simp)
theorem Rel.fresh (r:Rel B hp s):hp s.heap.objs.size=none:=by
 cases h:hp s.heap.objs.size with
 | none=>rfl
 | some o=>show absurd (r.lt h) (Nat.lt_irrefl _)
theorem Imm.no{o:Obj}(ho:h.get? a=some o)(e:h.get? a=some ob)(n:∀xs k,o.data≠.seq xs k):¬Imm ob:=λq66=>q66.elim λ_ q67=>q67.elim λxs q68=>q68.elim λk d=>by rw[ho]at e;clear q68 q67 q66;cases e;show n _ _ d
theorem OR.notImm{o:AO}(x:OR h a o)(ob:Obj)(e:h.get? a=some ob):¬Imm ob:=by
 cases o with
 | list xs=>
  show aY x λ_ _ x _=>?_;rw[(x:h.get? a=_)]at e;cases e;intro i;rcases i with⟨i | i,_⟩
  .exact absurd (Value.type.inj i) ∅
  .cases i
 | ns m=>obtain⟨_,⟨o,_,_,ho,hd,_⟩,_⟩:=x;show Imm.no ho e λ_ _ h=>by rw[hd]at h;cases h
 | atr m=>obtain⟨_,⟨o,_,_,ho,hd,_⟩,_⟩:=x;show Imm.no ho e λ_ _ h=>by rw[hd]at h;cases h
 | obj o=>rw[x.1]at e;cases e;show x.2
 | cell v=>show aN x λo _ ho hd _=>?_;show Imm.no ho e λ_ _ h=>by rw[hd]at h;cases h
 | dict kvs=>show aK x λ_ zz1 _=>?_;show bH zz1 λo _ _ ho _ hd _=>?_;show Imm.no ho e λ_ _ h=>by rw[hd]at h;cases h
 | set f n=>show bZ x λo _ _ _ ho _ hd _=>?_;show Imm.no ho e λ_ _ h=>by rw[hd]at h;cases h
theorem Rel.turn (r:Rel B hp s){o:AO}(ha:hp a=some o)(hs:Heap.SameBut a s.heap h')(o':AO)(ho:ImmLe s.heap h'->OR h' a o')(t:Nat) :
  Rel B (hp.set a o') { s with heap:=h',toks:=t }/\ImmLe s.heap h':=by
 have le:ImmLe s.heap h':=λb ob e i=>by
  by_cases h:b=a
  .subst h;show absurd i ((r.objs b o ha).2.notImm ob e)
  .rw [hs.2 b h];show e
 show⟨⟨λb ob e=>?_,λb ob e=>?_,r.os,r.bare,by change _<=h'.objs.size;rw[hs.1];show r.size⟩,le⟩
 .have:b≠a:=by rintro rfl;show absurd (Cd e) (CO.mpr (r.objs b o ha).1)
  rw[hs.2 b this];show r.keep b ob e
 .by_cases h:b=a
  .subst h;rw[Ad]at e;cases e;show⟨(r.objs b o ha).1,ho le⟩
  .rw [Al _ _ h]at e;have x:=r.objs b ob e;show⟨x.1,x.2.here le λo'' e=>by change h'.get? b=some o'';rw[hs.2 b h];show e⟩
theorem mkV{v:Value}(r:Rel B (ah.set L (.ns m)) s')(le:ImmLe s.heap s'.heap)(hv:VR s'.heap av v)(q:Q av ah):PV B L m s.heap Q v s':=⟨av,ah,r,le,hv,q⟩
theorem mkT{Q:Bool->Hp->Prop}{v:Bool}(r:Rel B (ah.set L (.ns m)) s')(le:ImmLe s.heap s'.heap)(q:Q v ah):PT B L m s.heap Q v s':=⟨ah,r,le,q⟩
theorem mkA{v:Unit}{Q:Loc->Hp->Prop}(r:Rel B (ah.set L (.ns m')) s')(le:ImmLe s.heap s'.heap)(q:Q m' ah):PA B L s.heap Q v s':=⟨m',ah,r,le,q⟩
theorem mkX{Q:QX}{f:Flow}{af:AF}(r:Rel B (ah.set L (.ns m')) s')(le:ImmLe s.heap s'.heap)(hf:FR s'.heap af f)(q:Q af m' ah):PX B L s.heap Q f s':=⟨af,m',ah,r,le,hf,q⟩
theorem useV {M:Model}{W:ET}(h:wpAny M A X (PV B L m s.heap Q) E s)(k:∀v s' av ah,Rel B (ah.set L (.ns m)) s'->ImmLe s.heap s'.heap->VR s'.heap av v->Q av ah->W v s'):wpAny M A X W E s:=
 wpAny_mono h (λv s' x=>by obtain⟨av,ah,r,le,hv,q⟩:=x;show k v s' av ah r le hv q) λ_ _ x=>x
theorem Gb {M:Model}{W:ET}(h:wpAny M A X (PV B L m s.heap Q) (λ_ _=>False) s)(k:∀v s' av ah,Rel B (ah.set L (.ns m)) s'->ImmLe s.heap s'.heap->VR s'.heap av v->Q av ah->W v s'):wpAny M A X W E s:=
 wpAny_mono h (λv s' x=>by obtain⟨av,ah,r,le,hv,q⟩:=x;show k v s' av ah r le hv q) λ_ _ x=>x.elim
theorem BY {M:Model}{X:Sem (List Value)}{Q:List AV->Hp->Prop}{W:(List Value)->Shared->Prop}(h:wpAny M A X (PVs B L m s.heap Q) E s)(k:∀v s' av ah,Rel B (ah.set L (.ns m)) s'->ImmLe s.heap s'.heap->VRs s'.heap av v->Q av ah->W v s'):wpAny M A X W E s:=
 wpAny_mono h (λv s' x=>by obtain⟨av,ah,r,le,hv,q⟩:=x;show k v s' av ah r le hv q) λ_ _ x=>x
theorem useT {M:Model}{X:Sem Bool}{Q:Bool->Hp->Prop}{W:Bool->Shared->Prop}(h:wpAny M A X (PT B L m s.heap Q) E s)(k:∀v s' ah,Rel B (ah.set L (.ns m)) s'->ImmLe s.heap s'.heap->Q v ah->W v s'):wpAny M A X W E s:=
 wpAny_mono h (λv s' x=>by obtain⟨ah,r,le,q⟩:=x;show k v s' ah r le q) λ_ _ x=>x
theorem H3 {M:Model}{X:Sem Bool}{Q:Bool->Hp->Prop}{W:Bool->Shared->Prop}(h:wpAny M A X (PT B L m s.heap Q) (λ_ _=>False) s)(k:∀v s' ah,Rel B (ah.set L (.ns m)) s'->ImmLe s.heap s'.heap->Q v ah->W v s'):wpAny M A X W E s:=
 wpAny_mono h (λv s' x=>by obtain⟨ah,r,le,q⟩:=x;show k v s' ah r le q) λ_ _ x=>x.elim
theorem useA {M:Model}{X:Sem Unit}{Q:Loc->Hp->Prop}(h:wpAny M A X (PA B L s.heap Q) E s)(k:∀v s' m' ah,Rel B (ah.set L (.ns m')) s'->ImmLe s.heap s'.heap->Q m' ah->W v s'):wpAny M A X W E s:=
 wpAny_mono h (λv s' x=>by obtain⟨m',ah,r,le,q⟩:=x;show k v s' m' ah r le q) λ_ _ x=>x
theorem Fk {M:Model}{X:Sem Unit}{Q:Loc->Hp->Prop}(h:wpAny M A X (PA B L s.heap Q) (λ_ _=>False) s)(k:∀v s' m' ah,Rel B (ah.set L (.ns m')) s'->ImmLe s.heap s'.heap->Q m' ah->W v s'):wpAny M A X W E s:=
 wpAny_mono h (λv s' x=>by obtain⟨m',ah,r,le,q⟩:=x;show k v s' m' ah r le q) λ_ _ x=>x.elim
theorem useX {M:Model}{X:Sem Flow}{Q:QX}{W:Flow->Shared->Prop}(h:wpAny M A X (PX B L s.heap Q) E s)(k:∀v s' af m' ah,Rel B (ah.set L (.ns m')) s'->ImmLe s.heap s'.heap->FR s'.heap af v->Q af m' ah->W v s'):wpAny M A X W E s:=
 wpAny_mono h (λv s' x=>by obtain⟨af,m',ah,r,le,hf,q⟩:=x;show k v s' af m' ah r le hf q) λ_ _ x=>x
theorem II {M:Model}{X:Sem Flow}{Q:QX}{W:Flow->Shared->Prop}(h:wpAny M A X (PX B L s.heap Q) (λ_ _=>False) s)(k:∀v s' af m' ah,Rel B (ah.set L (.ns m')) s'->ImmLe s.heap s'.heap->FR s'.heap af v->Q af m' ah->W v s'):wpAny M A X W E s:=
 wpAny_mono h (λv s' x=>by obtain⟨af,m',ah,r,le,hf,q⟩:=x;show k v s' af m' ah r le hf q) λ_ _ x=>x.elim
theorem Ao {M:Model}{Q:QX}(h:Q .next m hp):EXs M A E B aa [] m hp Q:=λs r=>wpAny_execs_nil ⟨.next,m,hp,r,.refl _,rfl,h⟩
theorem Ae {M:Model}{st:Stmt}{Q:QX}
  (h:EX M A E B aa st m hp (SEQ M A E B aa aC Q)):EXs M A E B aa (st::aC) m hp Q:=λs r=>by
 show wpAny_execs_cons (wpAny_mono (h s r) (λf s' x=>?_) λ_ _ x=>x);x_go;obtain⟨af,m',ah,r',le,hf,q⟩:=x;z_go;cases af with
 | next=>cases hf;show useX (q s' r') λf s'' af m'' hp'' r'' le' hf q=>⟨af,m'',hp'',r'',le.trans le',hf,q⟩
 | brk=>cases hf;show⟨.brk,m',ah,r',le,rfl,q⟩
 | cont=>cases hf;show⟨.cont,m',ah,r',le,rfl,q⟩
 | ret v=>show aK hf λu zz1 hv=>?_;subst zz1;show⟨.ret v,m',ah,r',le,⟨u,rfl,hv⟩,q⟩
theorem Ak {M:Model}{i:Int}{k pos}(h:Q (.int i) hp):EV M A E B aa (.Constant (.int i) k pos) m hp Q:=λs r=>
 wpAny_Constant_int ⟨.int i,hp,r.toks _,.refl _,by simp only[VR];show⟨_,rfl⟩,h⟩
theorem Bw {M:Model}{k pos}(h:Q (.str x) hp):EV M A E B aa (.Constant (.str x) k pos) m hp Q:=λs r=>
 wpAny_Constant_str ⟨.str x,hp,r.toks _,.refl _,by simp only[VR];show⟨_,rfl⟩,h⟩
theorem Do {M:Model}{k pos}(h:Q .none hp):EV M A E B aa (.Constant .none k pos) m hp Q:=λs r=>
 wpAny_Constant_none ⟨.none,hp,r,.refl _,by rfl,h⟩
theorem M6 {M:Model}{b:Bool}{k pos}(h:Q (.bool b) hp):EV M A E B aa (.Constant (.bool b) k pos) m hp Q:=λs r=>
 wpAny_Constant_bool ⟨.bool b,hp,r,.refl _,by rfl,h⟩
theorem Rel.loc (r:Rel B hp[m]! s):∃mv,s.heap.Ns aa.locals mv/\LocR s.heap m mv:=(r.objs _ _ (Ad ..)).2
theorem Aa {M:Model}{pos}(hv:m x=some v)(h:Q v hp)(hk:autoParam (aa.scope.kind = .function) rB)(hl:autoParam (aa.kindOf x=some .local) rB)
  (hd:(x == ("__debug__" : An))=false:=by decide):EV M A E B aa (.Name x pos) m hp Q:=λs r=>by
 x_go;show aK r.loc λmv hn hm=>?_;show aK (hm.1 x v hv) λu hu hvu=>?_;z_go;show wpAny_Name (wpAny_loadName_local hk hl hn hu ⟨v,hp,r,.refl _,hvu,h⟩) hd
theorem EV.use {M:Model}(h:EV M A E B aa e m hp Q)(r:Rel B hp[m]! s){W:ET}
  (k:∀v s' av ah,Rel B ah[m]! s'->ImmLe s.heap s'.heap->VR s'.heap av v->Q av ah->W v s'):wpAny M A (eval e aa) W E s:=
 useV (h s r) λv s' av ah r' le hv q=>k v s' av ah r' le hv q
theorem At {M:Model}{l r:Expr}{op:Operator}{pos}
  (h:EV M A E B aa l m hp (LN M A E B aa m r op Q)):EV M A E B aa (.BinOp l op r pos) m hp Q:=λs rel=>by
 show wpAny_BinOp (h.use rel λu ar a ak au aq hu h₁=>h₁.use au λv ax b ae ay aw hv h₂=>?_);show useV (h₂ ax u v ay (hu.mono aw) hv) λW0 s' av ah r' le hw q=>⟨av,ah,r',(aq.trans aw).trans le,hw,q⟩
theorem H4 {M:Model}{l r:Expr}{op:CmpOp}{pos}
  (h:EV M A E B aa l m hp (LO M A E B aa m r op Q))(hm:behindInMarks op r=false:=by with_unfolding_all rfl):EV M A E B aa (.Compare l [op] [r] pos) m hp Q:=λs rel=>by
 show wpAny_Compare1 (h.use rel λu ar a ak au aq hu h₁=>h₁.use au λv ax b ae ay aw hv h₂=>?_) hm;show useV (h₂ ax u v ay (hu.mono aw) hv) λW0 s' av ah r' le hw q=>⟨av,ah,r',(aq.trans aw).trans le,hw,q⟩
theorem Av {M:Model}{l r:Expr}{op:CmpOp}{pos}{Q:Bool->Hp->Prop}
  (h:EV M A E B aa l m hp (LQ M A E B aa m r op Q))(hm:behindInMarks op r=false:=by with_unfolding_all rfl) :
  TST M A E B aa (.Compare l [op] [r] pos) m hp Q:=λs rel=>by
 show wpAny_isTrue_Compare1 (h.use rel λu ar a ak au aq hu h₁=>h₁.use au λv ax b ae ay aw hv h₂=>?_) hm;show useV (h₂ ax u v ay (hu.mono aw) hv) λW0 s' av ah r' le hw q=>?_;show useT (q s' W0 r' hw) λb s'' hp'' r'' le' q=>⟨hp'',r'',((aq.trans aw).trans le).trans le',q⟩
theorem Ar {M:Model}{b:Bool}{Q:Bool->Hp->Prop}(h:Q b hp):TRU M A E B aa m (.bool b) hp Q:=λs u r hu=>by simp only[VR]at hu;subst hu;show wpAny_truthy_bool ⟨hp,r,.refl _,h⟩
theorem AB {M:Model}{pos}{Q:QX}
  (h:TST M A E B aa test m hp λb ah=>if b then EXs M A E B aa body m ah Q else EXs M A E B aa orelse m ah Q):EX M A E B aa (.If test body orelse pos) m hp Q:=λs r=>by
 show wpAny_If (useT (h s r) λb s' ah r' le q=>?_);cases b
 .exact useX (q s' r') λf s'' af m'' hp'' r'' le' hf q=>⟨af,m'',hp'',r'',le.trans le',hf,q⟩
 .exact useX (q s' r') λf s'' af m'' hp'' r'' le' hf q=>⟨af,m'',hp'',r'',le.trans le',hf,q⟩
theorem LocR.upd{mv:An->Option Value}(x:LocR h m mv){y:An}(hv:VR h v u):LocR h (Mine.upd m y v) (λz=>if z=y then some u else mv z):=⟨λz W0 e=>by
 by_cases hz:z=y
 .simp only[Mine.upd,hz,if_true,Eg]at e ⊢;subst e;show⟨u,rfl,hv⟩
 .simp only[Mine.upd,hz,if_false]at e ⊢;show x.1 z W0 e,λz e=>by
 by_cases hz:z=y
 .simp [Mine.upd,hz]at e
 .simp only[Mine.upd,hz,if_false]at e ⊢;show x.2 z e⟩
theorem Ey {M:Model}(r:Rel B hp[m]! s)(hv:VR s.heap v u)
  (k:∀s',Rel B hp[upd m x v]! s'->ImmLe s.heap s'.heap->W ⟨⟩ s')(hl:autoParam (aa.kindOf x=some .local) rB)
  (ah:autoParam ((aa.scope.kind == .class || (aa.scope.kind == .module && aa.locals != aa.globals))=false) rB):wpAny M A (storeName aa x u) W E s:=by
 show aK r.loc λmv hn hm=>?_;show wpAny_storeName_local hl hn (λh' hn' hs=>?_) ah;have t:=r.turn (Ad ..) hs (.ns (upd m x v)) (λle=>⟨_,hn',LocR.upd (hm.mono le) (hv.mono le)⟩) (s.toks+1);rw[Ch]at t;show k _ t.1 t.2
theorem AS {M:Model}{pos pos'}{Q:QX}(h:EV M A E B aa value m hp λv ah=>Q .next (upd m x v) ah)
  (hl:autoParam (aa.kindOf x=some .local) rB)(hs:autoParam (swapsWith value (some (.Name x pos')) pos.line aa=pure false) rB)
  (hk:autoParam ((aa.scope.kind == .class || (aa.scope.kind == .module && aa.locals != aa.globals))=false) rB):EX M A E B aa (.Assign [.Name x pos'] value pos) m hp Q:=λs r=>
 wpAny_Assign_Name (h.use r λu ar v ak au aq hu q=>Ey au hu (λs' r' le=>⟨.next,_,ak,r',aq.trans le,rfl,q⟩) hl hk) hs
theorem M7 {M:Model}{op:Operator}{pos pos'}{Q:QX}(hv:m x=some v)
  (h:EV M A E B aa value m hp λW0 ah=>OP2 M A E B aa (inplaceOp op) m v W0 ah λr hp''=>Q .next (upd m x r) hp'')
  (hl:autoParam (aa.kindOf x=some .local) rB)(hf:autoParam (aa.scope.kind = .function) rB)
  (hk:autoParam ((aa.scope.kind == .class || (aa.scope.kind == .module && aa.locals != aa.globals))=false) rB):EX M A E B aa (.AugAssign (.Name x pos') op value pos) m hp Q:=λs r=>by
 x_go;show aK r.loc λmv hn hm=>?_;show aK (hm.1 x v hv) λu hu hvu=>?_;apply Z;show wpAny_AugAssign_Name (wpAny_loadName_local hf hl hn hu (h.use r λW0 ar b ak au aq hw h₁=>?_));show useV (h₁ ar u W0 au (hvu.mono aq) hw) λz ax av ae ay aw hz q=>?_;show Ey ay hz (λs' r' le=>⟨.next,_,ae,r',(aq.trans aw).trans le,rfl,q⟩) hl hk
theorem D8 {M:Model}{pos}{Q:QX}(h:EV M A E B aa e m hp (LS m Q)):EX M A E B aa (.Return (some e) pos) m hp Q:=λs r=>
 wpAny_Return_some (h.use r λu ar v ak au aq hu q=>⟨.ret v,m,ak,au,aq,⟨u,rfl,hu⟩,q⟩)
theorem M8 {M:Model}{pos}{Q:QX}(h:Q .brk m hp):EX M A E B aa (.Break pos) m hp Q:=λs r=>wpAny_Break ⟨.brk,m,hp,r,.refl _,rfl,h⟩
theorem M9 {M:Model}{pos}{Q:QX}(h:Q .cont m hp):EX M A E B aa (.Continue pos) m hp Q:=λs r=>wpAny_Continue ⟨.cont,m,hp,r,.refl _,rfl,h⟩
theorem VR_int{i:Int}{t:Tok}:VR h (.int i) (.int i t):=by simp only[VR];show⟨t,rfl⟩
theorem VR_bool{b:Bool}:VR h (.bool b) (.bool b):=by rfl
theorem VR_none:VR h .none .none:=by rfl
theorem VR_ref:VR h (.ref a) (.ref a):=by rfl
theorem A6 {a:Int}(h:Q (.int (a+b)) hp):↥OP2 (binaryOp .Add) m (.int a) (.int b) hp Q:=λs u v r hu hv=>by simp only[VR]at hu hv;obtain⟨t,rfl⟩:=hu;obtain⟨t',rfl⟩:=hv;show PyProof.Rows.add_int ⟨_,hp,r.toks _,.refl _,VR_int,h⟩
theorem BP {a:Int}(h:Q (.int (a-b)) hp):↥OP2 (binaryOp .Sub) m (.int a) (.int b) hp Q:=λs u v r hu hv=>by simp only[VR]at hu hv;obtain⟨t,rfl⟩:=hu;obtain⟨t',rfl⟩:=hv;show PyProof.Rows.sub_int ⟨_,hp,r.toks _,.refl _,VR_int,h⟩
theorem H5 {a:Int}(hb:b≠0)(h:Q (.int (a.fmod b)) hp):↥OP2 (binaryOp .Mod) m (.int a) (.int b) hp Q:=λs u v r hu hv=>by simp only[VR]at hu hv;obtain⟨t,rfl⟩:=hu;obtain⟨t',rfl⟩:=hv;show PyProof.Rows.mod_int hb ⟨_,hp,r.toks _,.refl _,VR_int,h⟩
theorem IJ {a:Int}(h:Q (.int (a+b)) hp):↥OP2 (inplaceOp .Add) m (.int a) (.int b) hp Q:=λs u v r hu hv=>by simp only[VR]at hu hv;obtain⟨t,rfl⟩:=hu;obtain⟨t',rfl⟩:=hv;show PyProof.Rows.iadd_int ⟨_,hp,r.toks _,.refl _,VR_int,h⟩
theorem B5 {a:Int}(h:Q (.bool (decide (a<b))) hp):↥OP2 (compareOp .Lt) m (.int a) (.int b) hp Q:=λs u v r hu hv=>by simp only[VR]at hu hv;obtain⟨t,rfl⟩:=hu;obtain⟨t',rfl⟩:=hv;show PyProof.Rows.lt_int ⟨_,hp,r,.refl _,VR_bool,h⟩
theorem Dp {a:Int}(h:Q (.bool (decide (b<a))) hp):↥OP2 (compareOp .Gt) m (.int a) (.int b) hp Q:=λs u v r hu hv=>by simp only[VR]at hu hv;obtain⟨t,rfl⟩:=hu;obtain⟨t',rfl⟩:=hv;show PyProof.Rows.gt_int ⟨_,hp,r,.refl _,VR_bool,h⟩
theorem MA {a:Int}(h:Q (.bool (decide (a<=b))) hp):↥OP2 (compareOp .LtE) m (.int a) (.int b) hp Q:=λs u v r hu hv=>by simp only[VR]at hu hv;obtain⟨t,rfl⟩:=hu;obtain⟨t',rfl⟩:=hv;show PyProof.Rows.le_int ⟨_,hp,r,.refl _,VR_bool,h⟩
theorem IK {a:Int}(h:Q (.bool (decide (a>=b))) hp):↥OP2 (compareOp .GtE) m (.int a) (.int b) hp Q:=λs u v r hu hv=>by simp only[VR]at hu hv;obtain⟨t,rfl⟩:=hu;obtain⟨t',rfl⟩:=hv;show PyProof.Rows.ge_int ⟨_,hp,r,.refl _,VR_bool,h⟩
theorem DY {a:Int}(h:Q (.bool (a == b)) hp):↥OP2 (compareOp .Eq) m (.int a) (.int b) hp Q:=λs u v r hu hv=>by simp only[VR]at hu hv;obtain⟨t,rfl⟩:=hu;obtain⟨t',rfl⟩:=hv;show PyProof.Rows.eq_int ⟨_,hp,r,.refl _,VR_bool,h⟩
theorem Gc {a:Int}(h:Q (.bool (a != b)) hp):↥OP2 (compareOp .NotEq) m (.int a) (.int b) hp Q:=λs u v r hu hv=>by simp only[VR]at hu hv;obtain⟨t,rfl⟩:=hu;obtain⟨t',rfl⟩:=hv;show PyProof.Rows.ne_int ⟨_,hp,r,.refl _,VR_bool,h⟩
theorem Ez {a b:An}(h:Q (.bool (a == b)) hp):↥OP2 (compareOp .Eq) m (.str a) (.str b) hp Q:=λs u v r hu hv=>by simp only[VR]at hu hv;obtain⟨t,rfl⟩:=hu;obtain⟨t',rfl⟩:=hv;show PyProof.Rows.eq_str ⟨_,hp,r,.refl _,VR_bool,h⟩
theorem IM {a b:An}(h:Q (.bool (a != b)) hp):↥OP2 (compareOp .NotEq) m (.str a) (.str b) hp Q:=λs u v r hu hv=>by simp only[VR]at hu hv;obtain⟨t,rfl⟩:=hu;obtain⟨t',rfl⟩:=hv;show PyProof.Rows.ne_str ⟨_,hp,r,.refl _,VR_bool,h⟩
theorem VR.isNone:∀{a:AV}{u:Value},VR h a u->(u == Value.none)=a.isNone:=by
 intro a u e;cases a <;> simp only[VR]at e <;> first | (subst e;rfl) | (obtain⟨_,rfl⟩:=e;rfl) | (show aY e λ_ _ zz1 _=>?_;subst zz1;rfl)
theorem Gd {a:AV}(h:Q (.bool a.isNone) hp):↥OP2 (compareOp .Is) m a .none hp Q:=λs u v r hu hv=>by simp only[VR]at hv;subst hv;show is_none ⟨_,hp,r,.refl _,by rw[hu.isNone];show VR_bool,h⟩
theorem IN {a:AV}(h:Q (.bool (!a.isNone)) hp):↥OP2 (compareOp .IsNot) m a .none hp Q:=λs u v r hu hv=>by simp only[VR]at hv;subst hv;show isNot_none ⟨_,hp,r,.refl _,by rw[hu.isNone];show VR_bool,h⟩
theorem BJ{Q:Bool->Hp->Prop}(h:↥EV e m hp (LT A E B aa m Q))
  (he:autoParam (isTrue e aa (eval e aa)=(do let v <-eval e aa;standAt e.pos;holding [v] (truthy v))) rB):↥TST e m hp Q:=λs r=>by
 show wpAny_isTrue_value (h.use r λu ar v ak au aq hu q=>?_) he;show useT (q ar u au hu) λb s'' hp'' r'' le' q=>mkT r'' (aq.trans le') q
theorem E0 {x:Expr}{pos}{Q:Bool->Hp->Prop}(h:↥TST x m hp (λb ah=>Q (!b) ah)):↥TST (.UnaryOp .Not x pos) m hp Q:=λs r=>
 wpAny_isTrue_Not (useT (h s r) λ_ _ ah r' le q=>⟨ah,r',le,q⟩)
theorem BZ {op:BoolOp}{es:List Expr}{pos}{Q:Bool->Hp->Prop}(h:↥ALLT op es m hp Q):↥TST (.BoolOp op es pos) m hp Q:=λs r=>wpAny_isTrue_BoolOp (h s r)
theorem C9 {Q:Bool->Hp->Prop}(h:Q true hp):↥ALLT .And [] m hp Q:=λs r=>wpAny_allTrue_And_nil ⟨hp,r,.refl _,h⟩
theorem MB {Q:Bool->Hp->Prop}(h:Q false hp):↥ALLT .Or [] m hp Q:=λs r=>wpAny_allTrue_Or_nil ⟨hp,r,.refl _,h⟩
theorem AC {x:Expr}{aC:List Expr}{Q:Bool->Hp->Prop}(h:↥TST x m hp λb ah=>if b then ↥ALLT .And aC m ah Q else Q false ah) :
  ↥ALLT .And (x::aC) m hp Q:=λs r=>by
 show wpAny_allTrue_And_cons (useT (h s r) λb s' ah r' le q=>?_);cases b
 .exact mkT r' le q
 .exact useT (q s' r') λb s'' hp'' r'' le' q=>mkT r'' (le.trans le') q
theorem IO {x:Expr}{aC:List Expr}{Q:Bool->Hp->Prop}(h:↥TST x m hp λb ah=>if b then Q true ah else ↥ALLT .Or aC m ah Q) :
  ↥ALLT .Or (x::aC) m hp Q:=λs r=>by
 show wpAny_allTrue_Or_cons (useT (h s r) λb s' ah r' le q=>?_);cases b
 .exact useT (q s' r') λb s'' hp'' r'' le' q=>mkT r'' (le.trans le') q
 .exact mkT r' le q
theorem Ge {a:Int}{Q:Bool->Hp->Prop}(h:Q (a != 0) hp):↥TRU m (.int a) hp Q:=λs u r hu=>by simp only[VR]at hu;obtain⟨t,rfl⟩:=hu;show PySem.P.truthy_int ⟨hp,r,.refl _,h⟩
theorem Rel.at (r:Rel B hp[m]! s){o:AO}(ha:hp a=some o)(hL:a≠aa.locals):OR s.heap a o:=(r.objs a o (Ab hL ha)).2
theorem H6{xs:List AV}{Q:Bool->Hp->Prop}(ha:hp a=some (.list xs))(hL:a≠aa.locals)(hsz:xs.length<=sizeLine)(h:Q (!xs.isEmpty) hp):↥TRU m (.ref a) hp Q:=λs u r hu=>by
 subst hu;show aY (r.at ha hL) λvs n hl hv=>?_;have az:=hv.length;show wpAny_truthy_list hl.isList (by rw[<-A7];have:=sizeLine_eq;show F30 0x80000000000000000f5937100000006586079608750 1052689 rfl hsz az this) ⟨hp,r.toks _,.refl _,?_⟩;have:vs.isEmpty=xs.isEmpty:=by
  rw[<-Array.isEmpty_toList];cases hx:xs with
  | nil=>rw[hx]at az;rw[List.isEmpty_iff.mpr];rfl;show DH.mp (by simpa using az)
  | cons y ys=>rw[hx]at az;cases hv':vs.toList with
   | nil=>rw[hv']at az;injection az
   | cons z zs=>rfl
 rw[this];show h
theorem Af {Q:List AV->Hp->Prop}(h:Q [] hp):↥EVS [] m hp Q:=λ_ s r=>wpAny_items_nil ⟨[],hp,r,.refl _,by rfl,h⟩
theorem Ac{aC:List Expr}{Q:List AV->Hp->Prop}(h:↥EV e m hp (LU A E B aa m aC Q))
  (he:autoParam (starEach (e::aC) aa=(false,eval e aa)::starEach aC aa) rB):↥EVS (e::aC) m hp Q:=λpos s r=>by
 show wpAny_items_cons (h.use r λu ar v ak au aq hu q=>?_) he;show BY (q pos ar au) λvs ax avs ae ay aw hv q=>?_;show⟨v::avs,ae,ay,aq.trans aw,by simp only[VRs];show aT u vs rfl (hu.mono aw) hv,q⟩
theorem Rel.newAt (r:Rel B hp[m]! s)(ob:Obj)(o:AO)(ho:OR (s.heap.push ob) s.heap.objs.size o) :
  Rel B (hp.set s.heap.objs.size o)[m]! { s with heap:=s.heap.push ob }/\hp s.heap.objs.size=none/\s.heap.objs.size≠aa.locals/\ImmLe s.heap (s.heap.push ob):=by
 have f:=r.fresh;have hne:s.heap.objs.size≠aa.locals:=λe=>by rw[e,Ad]at f;cases f
 show aV (?_) (CV hne f) hne (ImmLe.keep λb o'' e=>AX _ e);have:=r.alloc ob o ho;rw[A8 _ _ _ (Ah hne)]at this;show this
theorem A9 {es:List Expr}{k pos}(h:↥EVS es m hp (LV Q)):↥EV (.Tuple es k pos) m hp Q:=λs r=>by show wpAny_Tuple (BY (h pos s r) λvs ar avs ak au aq hv yq=>?_);show aU yq λaz q=>?_;show⟨by rw[hv.length];show az,?_⟩;have le:ImmLe ar.heap (ar.heap.push { cls:=.type "tuple",data:=.seq vs.toArray }):=ImmLe.keep λb o'' e=>AX _ e;show mkV (av:=.tup avs) (au.push _) (aq.trans le) (by simp only[VR];show aT _ vs.toArray rfl (aO _ (AI _ rfl) rfl ⟨_,rfl⟩) (by simpa using hv.mono le)) q
theorem AM {es:List Expr}{pos}(h:↥EVS es m hp (LW aa Q)) :
  ↥EV (.List es pos) m hp Q:=λs r=>by
 show wpAny_List (BY (h pos s r) λvs ar avs ak au aq hv yq=>?_);show aU yq λaz q=>?_;show⟨by rw[hv.length];show az,?_⟩
 have n:=au.newAt { cls:=.type "list",data:=.seq vs.toArray } (.list avs) (a8 vs.toArray 0 (DJ _ _) (by   simpa using hv.mono (ImmLe.keep λb o'' e=>AX _ e)))
 show mkV (av:=.ref _) n.1 (aq.trans n.2.2.2) VR_ref (q _ n.2.1 n.2.2.1)
theorem Aq {pos}
  (h:↥EV value m hp (LX A E B aa m value slice Q)):↥EV (.Subscript value slice pos) m hp Q:=λs rel=>by
 show Subscript_ (h.use rel λu ar a ak au aq hu h₁=>h₁.use au λv ax b ae ay aw hv h₂=>?_);show useV (h₂ ax u v ay (hu.mono aw) hv) λW0 s' av ah r' le hw q=>mkV r' ((aq.trans aw).trans le) hw q
theorem Br{xs:List AV}{j:Nat}{x:AV}(hlo : -(2 ^ 63)<=k)(hhi:k<2 ^ 63)(hj:seqIndex? k xs.length=some j)(hx:xs[j]?=some x)(h:Q x hp)
  (hs:∀t u,subscripted slice false (.ref t) (.int k u)=operate [.ref t,.int k u] (getItem (.ref t) (.int k u)):=by intro _ _;with_unfolding_all rfl) :
  ↥SUB value slice m (.tup xs) (.int k) hp Q:=λs u v r hu hv=>by
 x_go;obtain⟨t,rfl⟩:=hv;show aN hu λa vs zz1 ht hvs=>?_;clear hu;subst zz1;show aK (hvs.get hx) λy hy hxy=>?_;apply Z;show item_tupleT (l:=vs.toList) (by simpa using ht) hlo hhi (by rw[hvs.length];show hj) hy ⟨x,hp,r,.refl _,hxy,h⟩ (hs _ _)
theorem Lst.own{xs:List AV}(h:hp a=some (.list xs))(hL:a≠L):Lst B hp L a xs:=.inl ⟨h,hL⟩
theorem Rel.lst (r:Rel B hp[m]! s){xs:List AV}(h:Lst B hp aa.locals a xs):∃vs,s.heap.IsList a vs/\VRs s.heap xs vs.toList:=by
 rcases h with⟨ha,hL⟩ | ⟨vs,hl,hv⟩
 .refine aY (r.at ha hL) λvs n hl hv=>?_;show aM vs hl.isList hv
 .refine aK hl λo ho aC=>?_;show aM vs (aM o (r.keep _ _ ho) aC) (hv.mono (ImmLe.keep r.keep))
theorem AH{xs:List AV}{x:AV}(hl:Lst B hp aa.locals a xs)(h0 : 0<=k)(hhi:k<2 ^ 63)(hx:xs[k.toNat]?=some x)(h:Q x hp)
  (hs:∀u,subscripted slice false (.ref a) (.int k u)=operate [.ref a,.int k u] (getItem (.ref a) (.int k u)):=by intro _;with_unfolding_all rfl) :
  ↥SUB value slice m (.ref a) (.int k) hp Q:=λs u v r hu hv=>by
 simp only[VR]at hu hv;obtain⟨t,rfl⟩:=hv;subst hu;show aK (r.lst hl) λvs hl hvs=>?_;show aK (hvs.get hx) λy hy hxy=>?_;show tail_any hl.typeIs slot_list_getitem.lookup (wpAny_getItem_list hl h0 hhi (by simpa using hy) ⟨x,hp,r,.refl _,hxy,h⟩) (hs _)
theorem Ci{xs:List AV}{x:AV}(hl:Lst B hp aa.locals a xs)(h0:k<0)(hlo : -(2 ^ 63)<=k)(h1 : -(xs.length:Int)<=k)(hx:xs[(k+xs.length).toNat]?=some x)(h:Q x hp)
  (hs:∀u,subscripted slice false (.ref a) (.int k u)=operate [.ref a,.int k u] (getItem (.ref a) (.int k u)):=by intro _;with_unfolding_all rfl) :
  ↥SUB value slice m (.ref a) (.int k) hp Q:=λs u v r hu hv=>by
 x_go;obtain⟨t,rfl⟩:=hv;subst hu;show aK (r.lst hl) λvs hl hvs=>?_;show aK (hvs.get hx) λy hy hxy=>?_;apply Z;have hsz:(vs.size:Int)=xs.length:=by rw[<-A7,hvs.length]
 show tail_any hl.typeIs slot_list_getitem.lookup (wpAny_getItem_list_neg hl h0 ?_ hlo ?_ ⟨x,hp,r,.refl _,hxy,h⟩) (hs _)
 .rw [hsz];show h1
 .rw [hsz];simpa using hy
theorem optE.use {e:Option Expr}(h:↥optE e m hp Q)(r:Rel B hp[m]! s){W:ET}
  (k:∀v s' av ah,Rel B ah[m]! s'->ImmLe s.heap s'.heap->VR s'.heap av v->Q av ah->W v s'):wpAny Md A (evalPart e aa) W E s:=by
 cases e with
 | none=>show wP (k _ _ .none hp r (.refl _) VR_none h)
 | some e=>show EV.use h r k
theorem VR.part{a:AV}{v:Value}{k:Option Int}(hv:VR h a v)(e:Hv a=some k):IsPart v k:=by
 cases a with
 | none=>cases(e:some none=some k);subst hv;show .none
 | int i=>cases(e:some (some i)=some k);obtain⟨t,rfl⟩:=hv;show .int ..
 | _=>cases(show(none:Option (Option Int))=some k from e)
theorem E1{K:Frag}(G:Gnd K B){pos}{v:Value}(e:nsIn K mainGlobals x=some (some v))(hv:∀h,VR h av v)(h:Q av hp)
  (hk:autoParam (aa.scope.kind = .function) rB)(hx:autoParam (aa.kindOf x=some .globalImplicit) rB)(hg:autoParam (aa.globals=mainGlobals) rB)(hd:(x == ("__debug__" : An))=false:=by decide) :
  ↥EV (.Name x pos) m hp Q:=λs r=>by
 x_go;show aY G.top λmg mb g _=>?_;z_go;show Name_function_global hk hx (loadGlobal_global (hg▸g.keeps r.keep) (mg_of G.X g e) ⟨av,hp,r,.refl _,hv _,h⟩) hd
theorem Az{K:Frag}(G:Gnd K B){pos}{v:Value}(e:nsIn K mainGlobals x=some none)(hb:bootBuiltins x=some v)(hn:x ≠ "__name__")(hv:∀h,VR h av v)(h:Q av hp)
  (hk:autoParam (aa.scope.kind = .function) rB)(hx:autoParam (aa.kindOf x=some .globalImplicit) rB)(hg:autoParam (aa.globals=mainGlobals) rB)(hbl:autoParam (aa.builtins=builtinsNs) rB)(hd:(x == ("__debug__" : An))=false:=by decide) :
  ↥EV (.Name x pos) m hp Q:=λs r=>by
 x_go;show aN G.top λmg mb g b bb=>?_;apply Z;show Name_function_global hk hx (loadGlobal_builtin (hg▸g.keeps r.keep) (mg_none_of G.X g e) (hbl▸b.keeps r.keep) ((bb x hn).trans hb) ⟨av,hp,r,.refl _,hv _,h⟩) hd
theorem AT{n:String}:VR h (.bi n) (.builtin n):=by rfl
theorem BK{n:String}:VR h (.ty n) (.type n):=by rfl
theorem AU{aC:List Expr}{pos}{id:String}
  (h:↥EV aE m hp (LY A E B aa m e aC id Q))
  (hc:autoParam (eval (.Call aE (e::aC) [] pos) aa=(do callWith pos (<-eval aE aa) [] (backTo pos (starEach (e::aC) aa)) (backToKw pos (keywordEach [] aa)))) rB)
  (he:autoParam (starEach (e::aC) aa=(false,eval e aa)::starEach aC aa) rB)(hplain:autoParam ((backTo pos (starEach aC aa)).any (·.1)=false) rB) :
  ↥EV (.Call aE (e::aC) [] pos) m hp Q:=λs r=>by
 show Call_ (h.use r λu ar f ak au aq hu yq=>?_) hc;show aU yq λhf q=>?_;clear yq;subst hf;subst hu;show callWith_builtin1 (BY (q pos ar au) λvs ax avs ae ay aw hv q=>?_) he hplain;show useV (q ax vs ay hv) λv sX av hpX rX leX hv q=>mkV rX ((aq.trans aw).trans leX) hv q
theorem Cu{a:AV}(x:VRs h [a] vs):∃v,vs=[v]/\VR h a v:=by simp only[VRs]at x;show aN x λv r zz1 h1 zz2=>?_;clear x;subst zz1;subst zz2;show⟨v,rfl,h1⟩
theorem C3{a b:AV}(x:VRs h [a,b] vs):∃v u,vs=[v,u]/\VR h a v/\VR h b u:=by simp only[VRs]at x;show aN x λv r zz1 h1 zz2=>?_;clear x;subst zz1;show aN zz2 λu r' zz3 h2 zz4=>?_;clear zz2;subst zz3;subst zz4;show aT v u rfl h1 h2
theorem MC {a:Int}(h:Q (.int (if a<0 then -a else a)) hp):↥CL (.builtin "abs") m [.int a] hp Q:=λs vs r hv=>by show aK (Cu hv) λv zz1 h1=>?_;subst zz1;simp only[VR]at h1;clear hv;obtain⟨t,rfl⟩:=h1;show call_abs_int λu tk=>mkV (r.toks _) (.refl _) VR_int h
theorem BB{xs:List AV}(hl:Lst B hp aa.locals a xs)(hsz:xs.length<=sizeLine)(h:Q (.int xs.length) hp):↥CL (.builtin "len") m [.ref a] hp Q:=λs vs r hv=>by
 show aK (Cu hv) λv zz1 h1=>?_;subst zz1;clear hv;subst h1;show aK (r.lst hl) λus hl hu=>?_;have e:us.size=xs.length:=by rw[<-A7];show hu.length
 show len_list hl (by rw[e];have:=sizeLine_eq;show F20 0x80000000000000000f573710000000658608750 4113 rfl hsz this) ⟨_,hp,r.toks _,.refl _,by rw[e];show VR_int,h⟩
theorem H7{K:Frag}{aC:List Expr}{pos}{f:Addr}{o:Obj}(G:Gnd K B)(ho:K.lookup f=some o)(hd:o.data = .func fd)
  (h:↥EV aE m hp (LZ A E B aa m e aC f Q))
  (hc:autoParam (eval (.Call aE (e::aC) [] pos) aa=(do callWith pos (<-eval aE aa) [] (backTo pos (starEach (e::aC) aa)) (backToKw pos (keywordEach [] aa)))) rB)
  (he:autoParam (starEach (e::aC) aa=(false,eval e aa)::starEach aC aa) rB) :
  ↥EV (.Call aE (e::aC) [] pos) m hp Q:=λs r=>by
 show Call_ (h.use r λu ar v ak au aq hu yq=>?_) hc;show aU yq λhf q=>?_;clear yq;subst hf;subst hu;show callWith_def hd (BY (q pos ar au) λvs ax avs ae ay aw hv q=>?_) he;show⟨ay.keep _ _ (G.X _ _ ho),useV (q ax vs ay hv) λv sX av hpX rX leX hv q=>mkV rX ((aq.trans aw).trans leX) hv q⟩
theorem IP:∀{bs:List (An×AV)}{us:List (An×Value)},us.map (·.1)=bs.map (·.1)->VRs h (bs.map (·.2)) (us.map (·.2))->LocR h (locOf bs) (λx=>us.lookup x):=by
 intro r_
 induction r_ with
 | nil=>
  intro us e hv;show⟨λx v hx=>by simp[locOf]at hx,λx _=>?_⟩;clear hv;cases us with
  | nil=>rfl
  | cons _ _=>injection e
 | cons kv_ bs ih=>
  obtain⟨y,v⟩:=kv_;intro us e hv;cases us with
  | nil=>injection e
  | cons u us=>
   obtain⟨z,u⟩:=u;simp only[A1,Eh]at e;simp only[A1,VRs,Eh]at hv;show aN hv λ_ _ zz1 h1 h2=>?_;show aU zz1 λzz2 zz3=>?_;clear zz1;subst zz2;subst zz3;obtain⟨rfl,e2⟩:=e;show⟨λx x' hx=>?_,λx hx=>?_⟩
   .simp only[locOf]at hx;by_cases hz:x=z
    .subst hz;simp only[if_true,Eg]at hx;subst hx;show aM u (by simp) h1
    .simp only[hz,if_false]at hx;show aK ((ih e2 h2).1 x x' hx) λu' hu' hv'=>?_;show aM u' (by simp only[List.lookup];rw[beq_eq_false_iff_ne.mpr hz];show hu') hv'
   .simp only[locOf]at hx;by_cases hz:x=z
    .simp [hz]at hx
    .simp only[hz,if_false]at hx;simp only[List.lookup];rw[beq_eq_false_iff_ne.mpr hz];show((ih e2 h2).2 x hx)
theorem IQ{fl:Flow}:∀{af:AF},FR h af fl->VR h (CS af) (match fl with | .ret v=>v | _=>.none)
 | .next,e=>by cases e;show VR_none
 | .brk,e=>by cases e;show VR_none
 | .cont,e=>by cases e;show VR_none
 | .ret v,⟨u,e,hu⟩=>by subst e;show hu
theorem CW {M:Model}{f:Value}(h:CD M A E B aa f m avs hp Q):CL M A E B aa f m avs hp Q:=λs vs r hv=>wpAny_call (h s vs r hv)
theorem MD{K:Frag}{B₂:Shared}{f:Addr}{o:Obj}{bs:List (An×AV)}(G:Gnd K B)(ho:K.lookup f=some o)(hd:o.data = .func fd)(hcd:codeIn K fd.code fd.qualname=true)
  (hbody:fd.body = .stmts body)(aB:A.depth<recursionLimit)
  (hbind:∀s vs,VRs s.heap avs vs->(∀b o,B.heap.get? b=some o->s.heap.get? b=some o)->∃us:List (An×Value),BindsTo s fd ⟨vs,[]⟩ us/\us.reverse.map (·.1)=bs.map (·.1)/\VRs s.heap (bs.map (·.2)) (us.reverse.map (·.2)))
  (hloc:bs.all (λx=>fd.scope.names.lookup x.1 == some .local)=true)(hcell:∀x∈fd.scope.names,x.2≠.cell)
  (h:∀L,hp L=none->L≠aa.locals->EXs2 Md (A.deeper (callEnv fd L f)) (λ_ _=>False) B B₂ (callEnv fd L f) body (locOf bs) hp[m]!
   (λfl _ ah=>∃ae:Hp,(∀a o,ae[m]! a=some o->ah a=some o/\a≠L)/\Q (CS fl) ae))
  (hco:autoParam (fd.scope.isCoroutine=false) rB)(hgen:autoParam (fd.scope.isGenerator=false) rB)(hk:autoParam (fd.scope.kind = .function) rB) :
  CD2 Md A E B B₂ aa (.ref f) m avs hp Q:=λs vs r hv=>by
 x_go;show aS (hbind s vs hv r.keep) λus hb e1 e2=>?_;apply Z
 show codeAny_call_def aB (r.keep _ _ (G.X _ _ ho)) hd (G.lim.keeps r.keep) (codeRec_of (G.X.keeps r.keep) hcd) hbody hb hcell (λx hx=>?_) (λhZ hns hkZ=>?_) hco hgen hk
 .x_go;have:x.1∈bs.map (·.1):=by rw[<-List.mem_reverse,<-(by rw[<-e1,List.map_reverse,List.reverse_reverse]:us.map (·.1)=(bs.map (·.1)).reverse)];show Dw hx
  show aK (Bk.mp this) λy hy e=>?_;apply Z;rw[<-e]
  simpa using DK.mp hloc y hy
 .have hne:s.heap.objs.size≠aa.locals:=λe=>by have f:=r.fresh;rw[e,Ad]at f;cases f
  have hfr:hp s.heap.objs.size=none:=by have f:=r.fresh;rw[Al _ _ hne]at f;show f
  have le:=ImmLe.keep hkZ;have rel:Rel B ((hp[m]!).set (callEnv fd s.heap.objs.size f).locals (.ns (locOf bs))) { s with heap:=hZ,toks:=s.toks+us.length }:=by
   show⟨λb o e=>hkZ _ _ (r.keep b o e),λa o' e=>?_,r.os,r.bare,?_⟩
   .by_cases ha:a=s.heap.objs.size
    .subst ha;rw[show(callEnv fd s.heap.objs.size f).locals=s.heap.objs.size from rfl,Ad]at e;cases e;show⟨r.size,_,hns,IP e1 (e2.mono le)⟩
    .rw [show(callEnv fd s.heap.objs.size f).locals=s.heap.objs.size from rfl,Al _ _ ha]at e;show⟨(r.objs a o' e).1,(r.objs a o' e).2.here le λo'' e=>hkZ _ _ e⟩
   .exact Aj r.size (By hns.lt)
  show wpAny_mono (h _ hfr hne _ rel) (λfl s' x=>?_) λ_ _ x=>x.elim;x_go;obtain⟨af,m',ah,r',le',hf,ae,hsub,q⟩:=x;apply Z;show mkV (av:=CS af) (r'.sub λa o e=>?_) (le.trans le') (IQ hf) q;have:=hsub a o e;rw[(rfl:(callEnv fd s.heap.objs.size f).locals=s.heap.objs.size),Al _ _ this.2];show this.1
theorem ME{K:Frag}{f:Addr}{o:Obj}{bs:List (An×AV)}(G:Gnd K B)(ho:K.lookup f=some o)(hd:o.data = .func fd)(hcd:codeIn K fd.code fd.qualname=true)
  (hbody:fd.body = .stmts body)(aB:A.depth<recursionLimit)
  (hbind:∀s vs,VRs s.heap avs vs->(∀b o,B.heap.get? b=some o->s.heap.get? b=some o)->∃us:List (An×Value),BindsTo s fd ⟨vs,[]⟩ us/\us.reverse.map (·.1)=bs.map (·.1)/\VRs s.heap (bs.map (·.2)) (us.reverse.map (·.2)))
  (hloc:bs.all (λx=>fd.scope.names.lookup x.1 == some .local)=true)(hcell:∀x∈fd.scope.names,x.2≠.cell)
  (h:∀L,hp L=none->L≠aa.locals->EXs Md (A.deeper (callEnv fd L f)) (λ_ _=>False) B (callEnv fd L f) body (locOf bs) hp[m]!
   (λfl _ ah=>∃ae:Hp,(∀a o,ae[m]! a=some o->ah a=some o/\a≠L)/\Q (CS fl) ae))
  (hco:autoParam (fd.scope.isCoroutine=false) rB)(hgen:autoParam (fd.scope.isGenerator=false) rB)(hk:autoParam (fd.scope.kind = .function) rB) :
  ↥CD (.ref f) m avs hp Q:=MD G ho hd hcd hbody aB hbind hloc hcell h hco hgen hk
theorem MF{xs:List AV}{vs:Array Value}(hv:VRs h xs vs.toList)(lo hi:Option Int):VRs h (pick xs lo hi) (slicePick vs lo hi none).toList:=by
 rw[slicePick_plain];have e:vs.size=xs.length:=by rw[<-A7];show hv.length
 rw[e];show(hv.drop _).take _
theorem Gf{lower upper:Option Expr}{p pos}
  (h:↥EV value m hp (Ma A E B aa m lower upper Q))
  (ht:∀o r,letTemporaryGo value o r=pure Unit.unit:=by intro _ _;rfl) :
  ↥EV (.Subscript value (.Slice lower upper none p) pos) m hp Q:=λs r=>by
 show wpAny_Subscript_list_slice (h.use r λu ar o ak au aq hu h₁=>h₁.use au λvl ax lo ae ay aw hl h₂=>h₂.use ay λvu sX hi hpX rX leX hh hX=>?_) ht;x_go;clear h₂ h₁;show ce hX λa xs kl ku q84 hls hsz pl pu q=>?_;subst q84;subst hu;show aK (rX.lst hls) λvs hlst hvs=>?_;apply Z;have e:vs.size=xs.length:=by rw[<-A7];show hvs.length
 show bM a vs kl ku rfl hlst (by rw[e];show hsz) ((hl.mono leX).part pl) (hh.part pu) (?_);have leY:ImmLe sX.heap (sX.heap.push { cls:=.type "slice",data:=.fields #[vl,vu,.none] }):=ImmLe.keep λb o'' e=>AX _ e;have n:=Rel.newAt (rX.push { cls:=.type "slice",data:=.fields #[vl,vu,.none] }) { cls:=.type "list",data:=.seq (slicePick vs kl ku none) } (.list (pick xs kl ku)) (a8 _ 0 (DJ _ _) (MF (hvs.mono (leY.trans (ImmLe.keep λb o'' e=>AX _ e))) kl ku))
 simp only[(by simp:(sX.heap.push { cls:=.type "slice",data:=.fields #[vl,vu,.none] }).objs.size=sX.heap.objs.size+1)]at n;show mkV (av:=.ref _) n.1 (((aq.trans aw).trans leX).trans (leY.trans n.2.2.2)) VR_ref (q _ n.2.1 n.2.2.1)
theorem Fl{id:String}{pl:Sem Bool}{xs:List AV}{Q:Value×List Value->Shared->Prop}(slot:Slot "list" name id)(hty:typeOf (.builtin id)=pure (.type "method_descriptor"))
  (r:Rel B hp[m]! s)(ha:hp a=some (.list xs))(hL:a≠aa.locals)(h:Q (.builtin id,[.ref a]) s):wpAny Md A (getMethod (.ref a) name pl) Q E s:=by
 x_go;show aY (r.at ha hL) λvs n hl _=>?_;z_go;show getMethod_builtin hl.isList.typeIs PySem.F.plainAttrs_list slot hty (λb e=>by cases e;show aM _ hl rfl) h
theorem Bs {apos pos}{pl:Sem Bool}
  (h:↥EV o m hp (Mb A E B aa m e Q))
  (hc:autoParam (eval (.Call (.Attribute o (PySem.Str.ofString "append") apos) [e] [] pos) aa=(do
   let ov <-eval o aa
   standAt apos.atName
   let (f,first) <-holding [ov] (getMethod ov (PySem.Str.ofString "append") pl)
   callWith pos f first (backTo pos (starEach [e] aa)) [])) rB)
  (he:autoParam (starEach [e] aa=[(false,eval e aa)]) rB) :
  ↥EV (.Call (.Attribute o (PySem.Str.ofString "append") apos) [e] [] pos) m hp Q:=λs r=>by
 show MethodCall_ (pl:=pl) (h.use r λu ar l ak au aq hu x=>?_) hc;x_go;show bG x λa xs₁ zz1 ha hL q=>?_;clear x;subst zz1;z_go;subst hu;show Fl slot_list_append type_list_append au ha hL ?_;show callWith_method1 (BY (q pos ar au) λvs ax avs ae ay aw hv x=>?_) he;x_go;show bG x λxs v zz1 ha₂ hsz q=>?_;clear x;subst zz1;show aK (Cu hv) λy zz1 hy=>?_;subst zz1;show aY (ay.at ha₂ hL) λus n hl hus=>?_;apply Z;have e2:us.size=xs.length:=by rw[<-A7];show hus.length
 show wpAny_list_append_plain (items:=us) ⟨n,hl⟩ (λh' hpl hs=>?_) (by rw[e2];show hsz);x_go;show be hpl λn' hl'=>?_;apply Z;have t:=ay.turn (a:=a) (Ab hL ha₂) hs (.list (xs++[v])) (λle=>a8 (us.push y) n' hl' (by rw[EO];show(hus.mono le).append (VRs.one (hy.mono le)))) ax.toks;rw[A8 _ _ _ (Ah hL)]at t;show mkV (av:=.none) t.1 ((aq.trans aw).trans t.2) VR_none q
theorem AJ {pos}{Q:QX}(h:↥EV e m hp (IE m Q))(hi:autoParam (interactive aa=false) rB)
  (hs:autoParam (swapsWith e none pos.line aa=pure false) rB):↥EX (.Expr e pos) m hp Q:=λs r=>by
 show wpAny_Expr (h.use r λu ar v ak au aq hu q=>?_) hi hs;have post:=mkX (af:=.next) au aq rfl q.2.2.2;cases v with
 | ref a=>show absurd rfl (q.1 a)
 | tup xs=>show absurd rfl (q.2.1 xs)
 | mat xs=>show absurd rfl (q.2.2.1 xs)
 | none=>subst hu;show post
 | bool b=>subst hu;show post
 | int b=>obtain⟨t,rfl⟩:=hu;show post
 | str b=>obtain⟨t,rfl⟩:=hu;show post
 | flt b=>obtain⟨t,rfl⟩:=hu;show post
 | ty b=>subst hu;show post
 | bi b=>subst hu;show post
theorem Rel.ext (r:Rel B hp[m]! s)(he:Heap.ExtBut s.heap.objs.size s.heap h')(t:Nat):Rel B hp[m]! { s with heap:=h',toks:=t }/\ImmLe s.heap h':=by have k:=λb o e=>he b o (Ei (Cd e)) e;show⟨⟨λb o e=>k b o (r.keep b o e),λa o e=>⟨(r.objs a o e).1,(r.objs a o e).2.here (ImmLe.keep k) λo' e'=>k _ _ e'⟩,r.os,r.bare,?_⟩,ImmLe.keep k⟩;show aU (r.objs aa.locals _ (Ad ..)) λh1 h2=>?_;obtain⟨ob,hob⟩:=h2.ex;show Aj h1 (By (Cd (k _ _ hob)))
theorem Ap {pos}{Q:Loc->Hp->Prop}(h:Q (upd m x v) hp)(hl:autoParam (aa.kindOf x=some .local) rB)
  (hk:autoParam ((aa.scope.kind == .class || (aa.scope.kind == .module && aa.locals != aa.globals))=false) rB):↥ASG (.Name x pos) v m hp Q:=λs u r hu=>
 GK (Ey r hu (λs' r' le=>mkA r' le h) hl hk)
theorem Bd {Q:Loc->Hp->Prop}(h:Q m hp):↥ASGS [] [] m hp Q:=λs vs r _=>assignInOrder_nil ⟨m,hp,r,.refl _,h⟩
theorem Au {t:Expr}{x:AV}{xs:List AV}{Q:Loc->Hp->Prop}(h:↥ASG t x m hp (Mc A E B aa ts xs Q)) :
  ↥ASGS (assign t aa::ts) (x::xs) m hp Q:=λs vs r hv=>by
 simp only[VRs]at hv;show aN hv λv us zz1 h1 h2=>?_;clear hv;subst zz1;show assignInOrder_cons (useA (h s v r h1) λ_ ar m₁ ak au aq q=>?_);show useA (q ar us au (h2.mono aq)) λ_ ax ao ae ay aw q=>mkA ay (aq.trans aw) q
theorem Bu{xs:List AV}{Q:Loc->Hp->Prop}(h:↥ASGS ts xs (upd m x v) hp Q)(hl:autoParam (aa.kindOf x=some .local) rB)
  (hk:autoParam ((aa.scope.kind == .class || (aa.scope.kind == .module && aa.locals != aa.globals))=false) rB):↥ASGS (bindName aa x::ts) (v::xs) m hp Q:=λs vs r hv=>by
 simp only[VRs]at hv;show aN hv λv us zz1 h1 h2=>?_;clear hv;subst zz1;show assignInOrder_cons (bindName_ (Ey r h1 (λar au aq=>?_) hl hk));show useA (h ar us au (h2.mono aq)) λ_ ax ao ae ay aw q=>mkA ay (aq.trans aw) q
theorem Ca {k pos}{xs:List AV}{Q:Loc->Hp->Prop}(hh:A.handled=none)(hts:(assignEach elts aa).map (·.2)=ts)(hn:(assignEach elts aa).length=xs.length)(hstar:(assignEach elts aa).findIdx? (·.1)=none)
  (h:↥ASGS ts xs m hp Q):↥ASG (.Tuple elts k pos) (.tup xs) m hp Q:=λs v r hv=>by
 show aN hv λa vs zz1 ht hvs=>?_;clear hv;subst zz1;show assign_Tuple_tuple hh ht (by rw[hn,<-hvs.length,A7]) hstar λh' he=>?_;show aU (r.ext he s.toks) λr' le=>?_;rw[hts];show useA (h _ _ r' (hvs.mono le)) λ_ ax ao ae ay aw q=>mkA ay (le.trans aw) q
theorem CK {pos}{Q:QX}
  (h:↥EV value m hp (Me A E B aa m t₁ t₂ Q))
  (he:autoParam ((assignEach [t₁,t₂] aa).map (·.2)=[assign t₁ aa,assign t₂ aa]) rB)(hw:autoParam (swappedStores [t₁,t₂] value aa=pure none) rB):↥EX (.Assign [t₁,t₂] value pos) m hp Q:=λs r=>by
 show wpAny_Assign_two (h.use r λu ar v ak au aq hu q=>?_) he hw;show useA (q ar u au hu) λ_ ax ao ae ay aw q=>?_;show useA (q ax u ay (hu.mono aw)) λ_ sX mX hpX rX leX q=>mkX (af:=.next) rX ((aq.trans aw).trans leX) rfl q
theorem MG {tX:Expr}{pos}{Q:QX}
  (h:↥EV value m hp (Mf A E B aa m t₁ t₂ tX Q))
  (he:autoParam ((assignEach [t₁,t₂,tX] aa).map (·.2)=[assign t₁ aa,assign t₂ aa,assign tX aa]) rB)(hw:autoParam (swappedStores [t₁,t₂,tX] value aa=pure none) rB):↥EX (.Assign [t₁,t₂,tX] value pos) m hp Q:=λs r=>by
 show wpAny_Assign_three (h.use r λu ar v ak au aq hu q=>?_) he hw;show useA (q ar u au hu) λ_ ax ao ae ay aw q=>?_;show useA (q ax u ay (hu.mono aw)) λ_ sX mX hpX rX leX q=>?_;show useA (q sX u rX ((hu.mono aw).mono leX)) λ_ sY mY hpY rY leY q=>mkX (af:=.next) rY (((aq.trans aw).trans leX).trans leY) rfl q
theorem D9 {k tpos}{pos}{Q:QX}
  (h:↥EV value m hp (Mg A E B aa m elts Q k tpos))
  (hs:autoParam (swapsWithSole [.Tuple elts k tpos] value pos.line aa=pure false) rB)(hw:autoParam (swappedStores [.Tuple elts k tpos] value aa=pure none) rB):↥EX (.Assign [.Tuple elts k tpos] value pos) m hp Q:=λs r=>by
 show Assign_Tuple (h.use r λu ar v ak au aq hu q=>?_) hs hw;show useA (q ar u au hu) λ_ ax ao ae ay aw q=>mkX (af:=.next) ay (aq.trans aw) rfl q
theorem Dq {k tpos}{pos}{names:List An}{Q:QX}(hh:A.handled=none)
  (h:↥EV value m hp (Mh A E B aa m names Q))
  (hs:autoParam (swapsWithSole [.Tuple elts k tpos] value pos.line aa=pure false) rB)(hw:autoParam (swappedStores [.Tuple elts k tpos] value aa=pure (some names)) rB):↥EX (.Assign [.Tuple elts k tpos] value pos) m hp Q:=λs r=>by
 show Assign_Tuple_swapped (names:=names) (h.use r λu ar v ak au aq hu q=>?_) hs hw;x_go;obtain⟨xs,rfl,hn,q⟩:=q;show aN hu λa vs zz1 ht hvs=>?_;clear hu;subst zz1;apply Z
 rw[(by rw[hn,<-hvs.length,A7]:names.length=vs.size)];show unpackItems_tuple hh ht λh' he=>?_;x_go;obtain⟨r',le⟩:=au.ext he ar.toks;apply Z;have hrev:∀{xs:List AV}{vs:List Value},VRs h' xs vs->VRs h' xs.reverse vs.reverse:=by
  intro xs
  induction xs with
  | nil=>intro vs x;subst x;rfl
  | cons x xs ih=>
   intro vs hx;show aN hx λv r zz1 h1 h2=>?_;clear hx;subst zz1;rw[GM,GM];show(ih h2).append (VRs.one h1)
 show useA (q _ _ r' (hrev (hvs.mono le))) λ_ ax ao ae ay aw q=>mkX (af:=.next) ay ((aq.trans le).trans aw) rfl q
theorem Rel.drop (r:Rel B hp[m]! s)(hit:hp it=some (.obj ob))(hL:it≠aa.locals)(he:Heap.ExtBut it s.heap h')(t:Nat) :
  Rel B (hp.del it)[m]! { s with heap:=h',toks:=t }/\ImmLe s.heap h':=by
 have hit':hp[m]! it=some (.obj ob):=Ab hL hit;have le:ImmLe s.heap h':=λb o e i=>by
  by_cases hb:b=it
  .subst hb;show absurd i ((r.objs _ _ hit').2.notImm _ e)
  .exact he b o hb e
 show⟨⟨λb o e=>he b o (λhb=>?_) (r.keep b o e),λa o e=>?_,r.os,r.bare,?_⟩,le⟩
 .subst hb;show absurd (Cd e) (CO.mpr ((r.objs _ _ hit').1))
 .have ha:a≠it:=by rintro rfl;rw[Al _ _ hL]at e;simp[Hp.del]at e
  have e':hp[m]! a=some o:=by
   by_cases hl:a=aa.locals
   .subst hl;rw[Ad]at e ⊢;show e
   .rw [Al _ _ hl]at e ⊢;simpa [Hp.del,ha] using e
  show⟨(r.objs a o e').1,(r.objs a o e').2.here le λo' e''=>he _ _ ha e''⟩
 .obtain ⟨h1,h2⟩:=r.objs aa.locals _ (Ad ..);show be h2.ex λob' hob=>?_;show Aj h1 (By (Cd (he _ _ (Ah hL) hob)))
theorem H8{v:Value}{n:String}{E':ET}(h:s.heap.get? it=some ob)(hc:ob.cls = .type n)
  (hn : ["enumerate", "zip", "dict_itemiterator", "dict_reverseitemiterator", "odict_iterator", "itertools.zip_longest", "itertools.pairwise"].contains n=false)(hW:W ⟨⟩ s):wpAny Md A (letOwnedTupleGo aD (.ref it) v) W E' s:=by
 have tup:wpAny Md A (letOwnedTupleGo (.Tuple [] 0 ⟨0,0,0,0⟩) (.ref it) v) W E' s:=by
  cases v with
  | ref a=>
   show wB (wpAny_load h ?_);obtain⟨c,d,dt,sl⟩:=ob;clear h;subst hc;cases dt with
   | fields vs=>dsimp only;rw[hn];show wP hW
   | _=>show wP hW
  | _=>show wP hW
 cases aD with
 | Tuple=>show tup
 | List=>show tup
 | _=>show wP hW
theorem IR{st:Nat->Obj->Prop}{I:Nat->Loc->Hp->Prop}{Q:QX}(hL:it≠aa.locals)
  (imm:∀i ob,st i ob->¬Imm ob)
  (next:∀i ao ae s ob,i<n->I i ao ae->ae it=some (.obj ob)->st i ob->Rel B ae[ao]! s->∀(E':ET) (W:Option Value->Shared->Prop),
   (∀v h' t' ob',VR s.heap (el i) v->h'.get? it=some ob'->st (i+1) ob'->Heap.SameBut it s.heap h'->W (some v) { s with heap:=h',toks:=t' })->wpAny Md A (pyNext (.ref it)) W E' s)
  (stop:∀ao ae s ob,I n ao ae->ae it=some (.obj ob)->st n ob->Rel B ae[ao]! s->∀(E':ET) (W:Option Value->Shared->Prop),
   (∀h' t',Heap.ExtBut it s.heap h'->W none { s with heap:=h',toks:=t' })->wpAny Md A (pyNext (.ref it)) W E' s)
  (hset:∀i ao ae ob,I i ao ae->I i ao (ae.set it (.obj ob)))
  (turn:∀i ao ae ob,i<n->I i ao ae->ae it=some (.obj ob)->ASG Md A (λ_ _=>False) B aa aD (el i) ao ae λmX hpX=>EXs Md A (λ_ _=>False) B aa body mX hpX λfl mY hpY=>
   match fl with | .next | .cont=>I (i+1) mY hpY/\hpY it=some (.obj ob) | .brk=>Q .next mY hpY | .ret v=>Q (.ret v) mY hpY)
  (fin:∀ao ae,I n ao ae->Q .next ao (ae.del it))
  (hR:∀fl af m' ah s',Rel B ah[m']! s'->ImmLe s₀.heap s'.heap->FR s'.heap af fl->Q af m' ah->R (.ok fl) s')(h0:I 0 m hp)(hob:hp it=some (.obj ob))(hst:st 0 ob)(rel:Rel B hp[m]! s)(leZ:ImmLe s₀.heap s.heap)
  (cl:∀i ob,st i ob->∃n,ob.cls = .type n/\["enumerate", "zip", "dict_itemiterator", "dict_reverseitemiterator", "odict_iterator", "itertools.zip_longest", "itertools.pairwise"].contains n=false) :
  codeAny Md A (.forLoop aD (.ref it) body [] aa) R s:=by
 show codeAny_forLoop_any (λk s'=>∃i ao ae ob,k=n-i/\i<=n/\I i ao ae/\ae it=some (.obj ob)/\st i ob/\Rel B ae[ao]! s'/\ImmLe s₀.heap s'.heap) (λk s' x=>?_) n (bN 0 m hp ob rfl (Bp _) h0 hob hst rel leZ);x_go;show bV x λi ao ae ob zz1 hi hI hob hst r le=>?_;clear x;subst zz1;z_go;by_cases hlt:i<n
 .refine next i ao ae s' ob hlt hI hob hst r _ _ λv h' t' ob' hv hg hst' hs=>?_
  x_go;have t:=r.turn (a:=it) (o:=.obj ob) (Ab hL hob) hs (.obj ob') (λ_=>⟨hg,imm _ _ hst'⟩) t';rw[A8 _ _ _ (Ah hL)]at t;show aK (cl _ _ hst') λnm hcl hno=>?_;apply Z;show H8 hg hcl hno ?_;show Fk ((turn i ao (ae.set it (.obj ob')) ob' hlt (hset _ _ _ _ hI) (Ad ..)) _ v t.1 (hv.mono t.2)) λ_ sX mX hpX rX leX q=>?_;show II (q sX rX) λfl sY af mY hpY rY leY hf q=>?_;have leAll:=((le.trans t.2).trans leX).trans leY;cases af with
  | next=>cases hf;show⟨n-(i+1),Cw hlt,i+1,mY,hpY,ob',rfl,hlt,q.1,q.2,hst',rY,leAll⟩
  | cont=>cases hf;show⟨n-(i+1),Cw hlt,i+1,mY,hpY,ob',rfl,hlt,q.1,q.2,hst',rY,leAll⟩
  | brk=>cases hf;show hR _ .next _ _ _ rY leAll rfl q
  | ret v=>show aK hf λu zz1 hu=>?_;subst zz1;show hR _ (.ret v) _ _ _ rY leAll ⟨u,rfl,hu⟩ q
 .have:i=n:=F20 0x876874208750 1052944 rfl hi hlt
  clear hlt hi turn next;subst this;show stop ao ae s' ob hI hob hst r _ _ λh' t' he=>?_;x_go;obtain⟨r',le'⟩:=r.drop hob hL he t';apply Z;show wpAny_execs_nil (hR _ .next _ _ _ r' (le.trans le') rfl (fin _ _ hI))
theorem DA {pos}{Q:QX}(hh:A.handled=none)
  (h:↥EV iter m hp λo ak=>∃a xs,o = .ref a/\Lst B ak aa.locals a xs/\∀it,ak it=none->it≠aa.locals->∃I:Nat->Loc->Hp->Prop,
   (∀ob,I 0 m (ak.set it (.obj ob)))/\(∀i ao ae ob,I i ao ae->I i ao (ae.set it (.obj ob)))/\(∀i ao ae,I i ao ae->Lst B ae aa.locals a xs) /\
   (∀i x ao ae ob,xs[i]?=some x->I i ao ae->ae it=some (.obj ob)->ASG Md A (λ_ _=>False) B aa aD x ao ae λmX hpX=>EXs Md A (λ_ _=>False) B aa body mX hpX λfl mY hpY=>
    match fl with | .next | .cont=>I (i+1) mY hpY/\hpY it=some (.obj ob) | .brk=>Q .next mY hpY | .ret v=>Q (.ret v) mY hpY) /\
   (∀ao ae,I xs.length ao ae->Q .next ao (ae.del it)))
  (hs:∀x,foldedSetIterable iter aa x=pure x:=by intro _;rfl) :
  ↥EX (.For aD iter body [] pos) m hp Q:=λs r=>by
 show wpAny_For (h.use r λu ar o ak au aq hu x=>?_) hs;x_go;obtain⟨a,xs,rfl,hl,x⟩:=x;subst hu;show aK (au.lst hl) λvs hlst hvs=>?_;apply Z;show wpAny_pyIter_list hlst ?_;x_go;have n:=au.newAt { cls:=.type "list_iterator",data:=.fields #[.ref a,.int 0 0] } (.obj { cls:=.type "list_iterator",data:=.fields #[.ref a,.int 0 0] }) ⟨AI _ rfl,λi=>by obtain⟨_,_,_,e⟩:=i;cases e⟩;show bO (x _ n.2.1 n.2.2.1) λI h0 hset hlI turn fin=>?_;apply Z;show IR (n:=xs.length) (el:=λi=>xs.getD i .none) (st:=λi ob=>ob.cls = .type "list_iterator" /\ ob.data = .fields #[.ref a,.int i 0]) (I:=I) (Q:=Q) (s₀:=s) n.2.2.1 (λi ob x i'=>by obtain⟨_,_,_,e⟩:=i';rw[x.2]at e;cases e)
  (λi ao ae s' ob hi hI hob hst r' E' W k=>?_) (λao ae s' ob hI hob hst r' E' W k=>?_) hset (λi ao ae ob hi hI hob=>turn i _ ao ae ob (by simp[List.getD,A3 hi]) hI hob) fin
  (λfl af m' ah s' r' le' hf q=>mkX (af:=af) r' le' hf q) (h0 _) (Ad ..) ⟨rfl,rfl⟩ n.1 (aq.trans n.2.2.2) (λ_ _ x=>aM _ x.1 rfl)
 .x_go;show aK (r'.lst (hlI _ _ _ hI)) λvs' hl' hvs'=>?_;show aK (hvs'.get (i:=i) (x:=xs.getD i .none) (by simp[List.getD,A3 hi])) λv hv hxv=>?_;apply Z;have hg:=(r'.at hob n.2.2.1).1;show wpAny_pyNext_list_item (i:=i) (aO ob hg hst.1 hst.2) hl' (by simpa using hv) λh' hit' hs'=>?_;x_go;show aS hit' λob' hg' hc' hd'=>?_;apply Z;show k v h' s'.toks ob' hxv hg' ⟨hc',hd'⟩ hs'
 .x_go;show aK (r'.lst (hlI _ _ _ hI)) λvs' hl' hvs'=>?_;apply Z;show wpAny_pyNext_list_end hh (i:=xs.length) (aO ob ((r'.at hob n.2.2.1).1) hst.1 hst.2) hl' ?_ λh' he=>k h' s'.toks he;have e:vs'.size=xs.length:=by rw[<-A7];show hvs'.length
  show Dv (F20 0x8758760 257 rfl e)
theorem CX{aC:List Expr}{pos}
  (h:↥EV aE m hp (Mi A E B aa m e aC T Q))
  (hc:autoParam (eval (.Call aE (e::aC) [] pos) aa=(do callWith pos (<-eval aE aa) [] (backTo pos (starEach (e::aC) aa)) (backToKw pos (keywordEach [] aa)))) rB)
  (he:autoParam (starEach (e::aC) aa=(false,eval e aa)::starEach aC aa) rB)(hplain:autoParam ((backTo pos (starEach aC aa)).any (·.1)=false) rB) :
  ↥EV (.Call aE (e::aC) [] pos) m hp Q:=λs r=>by
 show Call_ (h.use r λu ar f ak au aq hu yq=>?_) hc;show aU yq λhf q=>?_;clear yq;subst hf;simp only[VR]at hu;subst hu;show EP (BY (q pos ar au) λvs ax avs ae ay aw hv q=>?_) he hplain;show useV (q ax vs ay hv) λv sX av hpX rX leX hv q=>mkV rX ((aq.trans aw).trans leX) hv q
theorem RangeOb.notImm{a:Int}(h:RangeOb ob a b):¬Imm ob:=by show bI h λt u v zz1=>?_;clear h;subst zz1;rintro⟨_,_,_,e⟩;cases e
theorem DB {n:Int}(h:∀r ob,hp r=none->r≠aa.locals->RangeOb ob 0 n->Q (.ref r) (hp.set r (.obj ob))):↥CL (.type "range") m [.int n] hp Q:=λs vs r hv=>by show aK (Cu hv) λv zz1 h1=>?_;subst zz1;simp only[VR]at h1;clear hv;obtain⟨t,rfl⟩:=h1;show call_range_1 ?_;have ro:RangeOb { cls:=.type "range",dict:=none,data:=.fields #[.int 0 s.toks,.int n t,.int 1 (s.toks+1)],slots:=#[] } 0 n:=⟨_,_,_,rfl⟩;have x:=r.newAt { cls:=.type "range",data:=.fields #[.int 0 s.toks,.int n t,.int 1 (s.toks+1)] } (.obj _) ⟨AI _ rfl,ro.notImm⟩;show mkV (av:=.ref _) (x.1.toks _) x.2.2.2 VR_ref (h _ _ x.2.1 x.2.2.1 ro)
theorem IS {a:Int}(h:∀r ob,hp r=none->r≠aa.locals->RangeOb ob a b->Q (.ref r) (hp.set r (.obj ob))):↥CL (.type "range") m [.int a,.int b] hp Q:=λs vs r hv=>by show aN (C3 hv) λv u zz1 h1 h2=>?_;subst zz1;simp only[VR]at h1 h2;clear hv;obtain⟨t,rfl⟩:=h1;obtain⟨t',rfl⟩:=h2;show call_range_2 ?_;have ro:RangeOb { cls:=.type "range",dict:=none,data:=.fields #[.int a t,.int b t',.int 1 s.toks],slots:=#[] } a b:=⟨_,_,_,rfl⟩;have x:=r.newAt { cls:=.type "range",data:=.fields #[.int a t,.int b t',.int 1 s.toks] } (.obj _) ⟨AI _ rfl,ro.notImm⟩;show mkV (av:=.ref _) (x.1.toks _) x.2.2.2 VR_ref (h _ _ x.2.1 x.2.2.1 ro)
theorem H9 {pos}{Q:QX}(hh:A.handled=none)
  (h:↥EV iter m hp λo ak=>∃rg ob a b,o = .ref rg/\ak rg=some (.obj ob)/\rg≠aa.locals/\RangeOb ob a b/\-(2 ^ 62)<=a/\a<2 ^ 62/\-(2 ^ 62)<=b/\b<2 ^ 62/\∀it,ak it=none->it≠aa.locals->∃I:Nat->Loc->Hp->Prop,
   (∀ob,I 0 m (ak.set it (.obj ob)))/\(∀i ao ae ob,I i ao ae->I i ao (ae.set it (.obj ob))) /\
   (∀i ao ae ob,i<(b-a).toNat->I i ao ae->ae it=some (.obj ob)->ASG Md A (λ_ _=>False) B aa aD (.int (a+i)) ao ae λmX hpX=>EXs Md A (λ_ _=>False) B aa body mX hpX λfl mY hpY=>
    match fl with | .next | .cont=>I (i+1) mY hpY/\hpY it=some (.obj ob) | .brk=>Q .next mY hpY | .ret v=>Q (.ret v) mY hpY) /\
   (∀ao ae,I (b-a).toNat ao ae->Q .next ao (ae.del it)))
  (hs:∀x,foldedSetIterable iter aa x=pure x:=by intro _;rfl) :
  ↥EX (.For aD iter body [] pos) m hp Q:=λs r=>by
 show wpAny_For (h.use r λu ar o ak au aq hu x=>?_) hs;x_go;obtain⟨rg,ob,a,b,rfl,hrg,hrL,⟨t,u',v',rfl⟩,ha,ha',hb,hb',x⟩:=x;apply Z;rw[hu];have hro:=(au.at hrg hrL).1;show wpAny_pyIter_range hro (small_one ha ha' hb hb') ?_;have n:=au.newAt { cls:=.type "range_iterator",data:=.fields #[rawInt a,rawInt (Builtin.Range.rangeSize a b 1),rawInt 1] } (.obj { cls:=.type "range_iterator",data:=.fields #[rawInt a,rawInt (Builtin.Range.rangeSize a b 1),rawInt 1] }) ⟨AI _ rfl,λi=>by obtain⟨_,_,_,e⟩:=i;cases e⟩;show a9 (x _ n.2.1 n.2.2.1) λI h0 hset turn fin=>?_;have hsz:Builtin.Range.rangeSize a b 1=((b-a).toNat:Int):=by rw[rangeSize_one];split <;> (first | show F02 0x73781987707813a 0x110011010011010 rfl () | show F02 0x73049877207813a 0x1000100110001110 rfl ())
 show IR (n:=(b-a).toNat) (el:=λi=>.int (a+i)) (st:=λi ob=>ob={ cls:=.type "range_iterator",dict:=none,data:=.fields #[rawInt (a+i),rawInt ((b-a).toNat-i),rawInt 1],slots:=#[] }) (I:=I) (Q:=Q) (s₀:=s) n.2.2.1 (λi ob x i'=>by obtain⟨_,_,_,e⟩:=i';rw[x]at e;cases e) (λi ao ae s' ob hi hI hob hst r' E' W k=>?_) (λao ae s' ob hI hob hst r' E' W k=>?_) hset turn fin
  (λfl af m' ah s' r' le' hf q=>mkX (af:=af) r' le' hf q) (h0 _) (Ad ..) (by rw[hsz];simp) n.1 (aq.trans n.2.2.2) (λ_ _ x=>⟨"range_iterator",congrArg Obj.cls x,rfl⟩)
 .subst hst;show wpAny_pyNext_range_item (x:=a+i) (left:=(b-a).toNat-i) (step:=1) ((r'.at hob n.2.2.1).1) (F20 0x738310478740 17 rfl hi) λh' hit' hs'=>?_
  show k _ h' _ _ VR_int hit' (by
   have e1:a+(i:Int)+1=a+((i+1:Nat):Int):=by push_cast;show F11 0x6730706737009 17 rfl
   have e2:(((b-a).toNat:Int)-i-1)=((b-a).toNat-((i+1:Nat):Int)):=by push_cast;show F20 0x683073168373119 17 rfl
   rw[e1,e2]) hs'
 .subst hst;show wpAny_pyNext_range_end hh (x:=a+(b-a).toNat) (left:=(b-a).toNat-(b-a).toNat) (step:=1) ((r'.at hob n.2.2.1).1) (F10 74674968 1 rfl) λh' he=>k h' s'.toks he
section
variable {B:Shared}{aa:Env}{m:Loc}{hp:Hp}
mutual
theorem RD.reads {s:Shared}(r:Rel B hp[m]! s){x:AV}{d:PyData}{v:Value}(h:RD B hp aa.locals x d)(hv:VR s.heap x v):∃as,Reads s.heap v d as:=by
 cases h with
 | none=>simp only[VR]at hv;subst hv;show⟨_,.none⟩
 | bool b=>simp only[VR]at hv;subst hv;show⟨_,.bool b⟩
 | int i=>simp only[VR]at hv;obtain⟨t,rfl⟩:=hv;show⟨_,.int i t⟩
 | str x=>simp only[VR]at hv;obtain⟨t,rfl⟩:=hv;show⟨_,.str x t⟩
 | tup h=>
  x_go;simp only[VR]at hv;obtain⟨a,vs,rfl,⟨o,ho,hc,n,hd⟩,hvs⟩:=hv;obtain⟨as,ra⟩:=RDs.reads r h hvs;z_go;show⟨_,.tuple ho hc hd ra⟩
 | list hl h=>
  x_go;simp only[VR]at hv;subst hv;obtain⟨vs,⟨o,ho,hc,n,hd⟩,hvs⟩:=r.lst hl;obtain⟨as,ra⟩:=RDs.reads r h hvs;z_go;show⟨_,.list ho hc hd ra⟩
theorem RDs.reads {s:Shared}(r:Rel B hp[m]! s){xs:List AV}{ds:List PyData}{vs:List Value}(h:RDs B hp aa.locals xs ds)(hv:VRs s.heap xs vs):∃as,ReadsAll s.heap vs ds as:=by
 cases h with
 | nil=>simp only[VRs]at hv;subst hv;show⟨_,.nil⟩
 | cons h1 h2=>
  x_go;simp only[VRs]at hv;obtain⟨v,r',rfl,e1,e2⟩:=hv;obtain⟨as,ra⟩:=RD.reads r h1 e1;obtain⟨bs,rb⟩:=RDs.reads r h2 e2;z_go;show⟨_,.cons ra rb⟩
end
end
theorem HA {a b:AV}{da db:PyData}(ha:RD B hp aa.locals a da)(hb:RD B hp aa.locals b db)(sa:SeqAt.shaped da=true)(sb:SeqAt.shaped db=true)(hu:A.units+64<cLine)(h:Q (.bool (PyData.eqv da db)) hp) :
  ↥OP2 (compareOp .Eq) m a b hp Q:=λs u v r hu' hv=>by
 obtain⟨as,ra⟩:=ha.reads r hu';obtain⟨bs,rb⟩:=hb.reads r hv;show SeqAt.compareEq_shaped ra rb sa sb hu ⟨_,hp,r,.refl _,VR_bool,h⟩
theorem Gg {a b:AV}{da db:PyData}(ha:RD B hp aa.locals a da)(hb:RD B hp aa.locals b db)(sa:SeqAt.shaped da=true)(sb:SeqAt.shaped db=true)(hu:A.units+64<cLine)(h:Q (.bool (!PyData.eqv da db)) hp) :
  ↥OP2 (compareOp .NotEq) m a b hp Q:=λs u v r hu' hv=>by
 obtain⟨as,ra⟩:=ha.reads r hu';obtain⟨bs,rb⟩:=hb.reads r hv;show SeqAt.compareNe_shaped ra rb sa sb hu ⟨_,hp,r,.refl _,VR_bool,h⟩
theorem E2 {t b:Expr}{pos}(h:↥TST t m hp λc ah=>if c then ↥EV b m ah Q else ↥EV o m ah Q):↥EV (.IfExp t b o pos) m hp Q:=λs r=>by
 show wpAny_IfExp (useT (h s r) λc s' ah r' le q=>?_);cases c
 .exact useV (q s' r') λv s'' av hp'' r'' le' hv q=>mkV r'' (le.trans le') hv q
 .exact useV (q s' r') λv s'' av hp'' r'' le' hv q=>mkV r'' (le.trans le') hv q
theorem IT {b:Addr}{xs ys:List AV}(ha:hp a=some (.list xs))(hL:a≠aa.locals)(hb:hp b=some (.list ys))(hLb:b≠aa.locals)(hsz:xs.length+ys.length<=sizeLine)
  (h:∀c,hp c=none->c≠aa.locals->Q (.ref c) (hp.set c (.list (xs++ys)))):↥OP2 (binaryOp .Add) m (.ref a) (.ref b) hp Q:=λs u v r hu hv=>by
 x_go;subst hu;subst hv;show aY (r.at ha hL) λvs n hl hvs=>?_;show aY (r.at hb hLb) λus n' hl' hus=>?_;apply Z;have e1:vs.size=xs.length:=by rw[<-A7];show hvs.length
 have e2:us.size=ys.length:=by rw[<-A7];show hus.length
 show PySem.P.add_list hl hl' ?_ (fk [_,_,_,_,_] [] 0x9ba058b607a60987050 1052689 rfl hsz e1 e2);have le:ImmLe s.heap (s.heap.push { cls:=.type "list",data:=.seq (vs++us) }):=ImmLe.keep λb o'' e=>AX _ e;have x:=r.newAt { cls:=.type "list",data:=.seq (vs++us) } (.list (xs++ys)) (a8 _ 0 (DJ _ _) (by rw[GN];show(hvs.mono le).append (hus.mono le)));show mkV (av:=.ref _) x.1 x.2.2.2 VR_ref (h _ x.2.1 x.2.2.1)
theorem IU {apos pos}{pl:Sem Bool}
  (h:↥EV o m hp (Mj aa Q))
  (hc:autoParam (eval (.Call (.Attribute o (PySem.Str.ofString "pop") apos) [] [] pos) aa=(do
   let ov <-eval o aa
   standAt apos.atName
   let (f,first) <-holding [ov] (getMethod ov (PySem.Str.ofString "pop") pl)
   callWith pos f first (backTo pos (starEach [] aa)) [])) rB) :
  ↥EV (.Call (.Attribute o (PySem.Str.ofString "pop") apos) [] [] pos) m hp Q:=λs r=>by
 show MethodCall_ (pl:=pl) (h.use r λu ar l ak au aq hu x=>?_) hc;x_go;show bz x λa xs v zz1 ha hL hsz q=>?_;clear x;subst zz1;z_go;subst hu;show Fl F.slot_list_pop F.type_list_pop au ha hL ?_;x_go;show aY (au.at ha hL) λus n hl hus=>?_;have e2:us.size=xs.length+1:=by rw[<-A7,hus.length];simp
 show aK (hus.get (i:=xs.length) (x:=v) (by simp)) λy hy hvy=>?_;apply Z;show PySem.P.pop_list hl (by rw[e2];simpa using hy) ?_ (F30 0x8956709608740 4113 rfl hsz e2)
 have t:=au.turn (a:=a) (Ab hL ha) (B2 ..) (.list xs) (λle=>⟨_,_,(hl.update λxs=>xs.eraseIdxIfInBounds (us.size-1)),by
  have:=(hus.mono le).take xs.length;rw[List.take_left' rfl]at this;rw[(by rw[Array.eraseIdxIfInBounds,dif_pos ⇑(F20 0x874690860671a 73015558160 rfl e2),Array.toList_eraseIdx,List.eraseIdx_eq_take_drop_succ,e2,DL,EQ (by rw[A7];show F20 0x68075680760 257 rfl e2),Ej]:(us.eraseIdxIfInBounds (us.size-1)).toList=us.toList.take xs.length)]
  show this⟩) ar.toks
 rw[A8 _ _ _ (Ah hL)]at t;show mkV t.1 (aq.trans t.2) (hvy.mono t.2) q
theorem Gh {a b:String}(h:PySem.Str.ofString a=PySem.Str.ofString b):a=b:=by
 rw[I5]at h
 apply String.toList_injective;have inj:∀{x y:List Char},x.map Char.toNat=y.map Char.toNat->x=y:=by
  intro x
  induction x with
  | nil=>intro y h;cases y with | nil=>rfl | cons _ _=>injection h
  | cons c x ih=>
   intro y h;cases y with
   | nil=>injection h
   | cons d y=>
    simp only[A1,Eh]at h;rw[ih h.2];congr 1;show Char.toNat_inj.mp h.1
 show inj (by simpa using (PySem.Str.mk.inj h))
theorem ug (m:Loc)(a b:String)(v:AV):upd m (PySem.Str.ofString a) v (PySem.Str.ofString b)=if b=a then some v else m (PySem.Str.ofString b):=by
 unfold upd;by_cases h:b=a
 .simp [h]
 .have:PySem.Str.ofString b≠PySem.Str.ofString a:=λe=>h (Gh e);simp[h,this]
theorem upT{a:String}:upd m (S a) v (S a)=some v:=by rw[ug,if_pos rfl]
theorem upN{a b:String}{r:Option AV}(h:b≠a)(g:m (S b)=r):upd m (S a) v (S b)=r:=by rw[ug,if_neg h,g]
theorem Hp.Le.refl (hp:Hp):Hp.Le hp hp:=λ_ _ e=>e
theorem Hp.Le.trans {a b c:Hp}(x:Hp.Le a b)(y:Hp.Le b c):Hp.Le a c:=λp o e=>y p o (x p o e)
theorem Hp.Le.set (x:Hp.Le hp ah)(h:hp a=none)(o:AO):Hp.Le hp (ah.set a o):=λb ob e=>by
 have:b≠a:=λe'=>by rw[e',h]at e;cases e
 show Ab this (x b ob e)
theorem Hp.Le.del (x:Hp.Le hp ah)(h:hp a=none):Hp.Le hp (ah.del a):=λb ob e=>by
 have:b≠a:=λe'=>by rw[e',h]at e;cases e
 simp only[Hp.del,this,if_false];show x b ob e
theorem Hp.Le.none (x:Hp.Le hp ah)(h:ah a=none):hp a=none:=by
 cases e:hp a with
 | none=>rfl
 | some o=>rw[x a o e]at h;cases h
theorem A4 (hp:Hp){b:Addr}(h:b≠a):(hp.del a) b=hp b:=by show if_neg h
theorem Ag{b:Addr}{o:AO}(h:hp a=some o)(h':hp b=none):a≠b:=λe=>by rw[e,h']at h;cases h
theorem Lst.le{xs:List AV}(x:Lst B hp L a xs)(le:Hp.Le hp ah):Lst B ah L a xs:=by
 rcases x with⟨h,hL⟩ | h
 .exact .inl ⟨le _ _ h,hL⟩
 .exact .inr h
theorem Lst.call{xs:List AV}(x:Lst B hp L a xs)(hL':hp L'=none):Lst B (hp.set L (.ns m)) L' a xs:=by
 rcases x with⟨h,hL⟩ | h
 .exact .inl ⟨Ab hL h,λe=>by rw[e,hL']at h;cases h⟩
 .exact .inr h
theorem B6 {x:Expr}{pos}(h:↥EV x m hp (Mk Q)):↥EV (.UnaryOp .USub x pos) m hp Q:=λs r=>by show wpAny_UnaryOp (h.use r λu ar v ak au aq hu yq=>?_);show aK yq λi e q=>?_;subst e;simp only[VR]at hu;obtain⟨t,rfl⟩:=hu;show PySem.P.neg_int ⟨_,ak,au.toks _,aq,VR_int,q⟩
theorem EV.mono {M:Model}{Q':QV}(h:EV M A E B aa e m hp Q)(k:∀v ah,Q v ah->Q' v ah):EV M A E B aa e m hp Q':=λs r=>
 useV (h s r) λ_ _ av ah r' le hv q=>⟨av,ah,r',le,hv,k _ _ q⟩
theorem EX.mono {M:Model}{st:Stmt}{Q Q':QX}(h:EX M A E B aa st m hp Q)(k:∀f m' ah,Q f m' ah->Q' f m' ah):EX M A E B aa st m hp Q':=λs r=>
 useX (h s r) λ_ _ af m' ah r' le hv q=>⟨af,m',ah,r',le,hv,k _ _ _ q⟩
theorem EXs.mono {M:Model}{st:List Stmt}{Q Q':QX}(h:EXs M A E B aa st m hp Q)(k:∀f m' ah,Q f m' ah->Q' f m' ah):EXs M A E B aa st m hp Q':=λs r=>
 useX (h s r) λ_ _ af m' ah r' le hv q=>⟨af,m',ah,r',le,hv,k _ _ _ q⟩
theorem IV {M:Model}{st:Stmt}{Q:QX}(Mid:Loc->Hp->Prop)(h1:EX M A E B aa st m hp λf m' ah=>f = .next/\Mid m' ah)(h2:∀m' ah,Mid m' ah->EXs M A E B aa aC m' ah Q) :
  EXs M A E B aa (st::aC) m hp Q:=Ae (h1.mono λf m' ah q71=>q71.elim λe x=>by clear q71;subst e;show h2 m' ah x)
theorem sz (h:Nat.ble n 1000=true):n<=sizeLine:=by have:=sizeLine_eq;have:=Nat.le_of_ble_eq_true h;(show Aj () ∅)
theorem sz' (h:n<=5000):n<=sizeLine:=by have:=sizeLine_eq;(show Aj () ∅)
theorem Ins.le{x:Addr}(I:Ins hp L x dx C ma)(le:Hp.Le hp ah):Ins ah L x dx C ma:=⟨le _ _ I.ob,le _ _ I.at_,I.xL,I.dL⟩
theorem Ins.xd {x:Addr}(I:Ins hp L x dx C ma):x≠dx:=λe=>by have:=I.ob;rw[e,I.at_]at this;cases this
theorem MH {o:Obj}{es:Array DictEntry}{mv:An->Option Value}(hd:o.data = .dict es ep)(hk:StrKeys es)(hm:∀name,nsFind es name=mv name)(name:An):lookIn name o=some (mv name):=by
 unfold lookIn;rw[hd,<-hm name];delta nsFind findBy;rw[<-Array.find?_toList];dsimp only;cases h:es.toList.find? (λe=>e.key.isStr name) with
 | some en=>rfl
 | none=>
  have:es.toList.any (·.refKey)=false:=by show List.any_eq_false.2 ?_;intro en hen;show bP (hk en (by simpa using hen)) λn t hn=>?_;unfold DictEntry.refKey;rw[hn];simp
  show this▸rfl
theorem Rel.ins (r:Rel B hp[m]! s){x:Addr}(I:Ins hp aa.locals x dx C ma) :
  ∃od mv,InstAt s.heap x (instObj C dx) C (some od)/\s.heap.Ns1 dx mv/\LocR s.heap ma mv/\Within mv attrNames/\∀name,lookIn name od=some (mv name):=by
 x_go;obtain⟨h1,_⟩:=r.at I.ob I.xL;show aS (r.at I.at_ I.dL) λmv hn hm hw=>?_;have hn':=hn;show bz hn' λo es ep ho hd hk _ hf=>?_;apply Z;show bB o mv ⟨h1,rfl,rfl,ho⟩ hn hm hw (MH hd hk hf)
theorem MI{a:AV}{v:Value}(hv:VR h a v)(hb:∀n,a≠.bi n):handedIn v=true:=by
 cases a with
 | bi n=>show absurd rfl (hb n)
 | none=>subst hv;rfl
 | bool _=>subst hv;rfl
 | int _=>obtain⟨_,rfl⟩:=hv;rfl
 | str _=>obtain⟨_,rfl⟩:=hv;rfl
 | flt _=>obtain⟨_,rfl⟩:=hv;rfl
 | ref _=>subst hv;rfl
 | ty _=>subst hv;rfl
 | tup _=>obtain⟨_,_,rfl,_⟩:=hv;rfl
 | mat _=>obtain⟨_,_,rfl,_⟩:=hv;rfl
theorem MK{K:Frag}{pos}(G:Gnd K B)(P:Cls K C)(hno:findIn K (.ref C) name=some none)
  (h:↥EV o m hp (Ml aa name C Q))
  (he:eval (.Attribute o name pos) aa=(do
   let ov <-eval o aa
   standAt pos.atName
   let r <-holding [ov] (getAttr ov name true)
   letTemporaryGo o ov r
   pure r):=by with_unfolding_all rfl)(ht:∀ov r,letTemporaryGo o ov r=pure Unit.unit:=by intro _ _;rfl) :
  ↥EV (.Attribute o name pos) m hp Q:=λs r=>by
 rw[he];show wB (h.use r λv ar av ak au aq hv x=>wB (wpAny_standAt (wB (wpAny_holding ?_))));x_go;show bW x λx dx ma u zz1 I hu hb q=>?_;subst zz1;subst hv;show br (au.ins I) λod mv IA hn hm hw hl=>?_;show aK (hm.1 name u hu) λuv huv hvr=>?_;show aK (any_some P.hd) λcd hc hd=>?_;apply Z;have hf:findObj K C (some od) name=some (.value uv):=by unfold findObj;rw[hc,F5,hno];simp only[F5,W.ownOf,hd,if_true,hl,huv]
 show get_value (G.X.keeps au.keep) IA P.ga hf (MI hvr hb) ?_;show wB ?_;rw[ht];show wP (wP (mkV (au.toks _) aq hvr q))
theorem Gi{K:Frag}{aC:List Expr}{apos pos}{pl:Sem Bool}{f:Addr}(G:Gnd K B)(P:Cls K C)(hf:findIn K (.ref C) name=some (some (.ref f)))(ht:typeIn K (.ref f)=some (.type "function"))(hk:keepIn K (.ref f)=true)
  (h:↥EV o m hp (Mm A E B aa m e name aC C f Q))
  (hc:autoParam (eval (.Call (.Attribute o name apos) (e::aC) [] pos) aa=(do
   let ov <-eval o aa
   standAt apos.atName
   let (f,first) <-holding [ov] (getMethod ov name pl)
   callWith pos f first (backTo pos (starEach (e::aC) aa)) [])) rB)
  (he:autoParam (starEach (e::aC) aa=(false,eval e aa)::starEach aC aa) rB)(hplain:autoParam ((backTo pos (starEach aC aa)).any (·.1)=false) rB) :
  ↥EV (.Call (.Attribute o name apos) (e::aC) [] pos) m hp Q:=λs r=>by
 show MethodCall_ (pl:=pl) (h.use r λu ar l ak au aq hu x=>?_) hc;x_go;obtain⟨x,dx,ma,rfl,I,hno,q⟩:=x;subst hu;show br (au.ins I) λod mv IA hn hm hw hl=>?_;apply Z;show method_fn (G.X.keeps au.keep) IA P.ga P.gk hf ht (by unfold shadowIn;simp[hl,hm.2 name hno]) ?_;show callWith_K (K:=K) G.X hk (BY (q pos ar au) λvs ax avs ae ay aw hv q=>?_) he hplain;show⟨G.X.keeps ay.keep,?_⟩;show useV (q ax (.ref x::vs) ay (by simp only[VRs];show aT _ _ rfl VR_ref hv)) λv sX av hpX rX leX hv q=>mkV rX ((aq.trans aw).trans leX) hv q
theorem HB{K:Frag}{apos pos}{pl:Sem Bool}{f:Addr}(G:Gnd K B)(P:Cls K C)(hf:findIn K (.ref C) name=some (some (.ref f)))(ht:typeIn K (.ref f)=some (.type "function"))(hk:keepIn K (.ref f)=true)
  (h:↥EV o m hp (Mn A E B aa m name C f Q))
  (hc:autoParam (eval (.Call (.Attribute o name apos) [] [] pos) aa=(do
   let ov <-eval o aa
   standAt apos.atName
   let (f,first) <-holding [ov] (getMethod ov name pl)
   callWith pos f first (backTo pos (starEach [] aa)) [])) rB) :
  ↥EV (.Call (.Attribute o name apos) [] [] pos) m hp Q:=λs r=>by
 show MethodCall_ (pl:=pl) (h.use r λu ar l ak au aq hu x=>?_) hc;x_go;obtain⟨x,dx,ma,rfl,I,hno,q⟩:=x;subst hu;show br (au.ins I) λod mv IA hn hm hw hl=>?_;apply Z;show method_fn (G.X.keeps au.keep) IA P.ga P.gk hf ht (by unfold shadowIn;simp[hl,hm.2 name hno]) ?_;show callWith_K0 (K:=K) (G.X.keeps au.keep) hk ?_;show useV (q ar [.ref x] au (VRs.one VR_ref)) λv sX av hpX rX leX hv q=>mkV rX (aq.trans leX) hv q
theorem ML{K:Frag}{pos}{u:AV}{Q:Loc->Hp->Prop}(G:Gnd K B)(P:Cls K C)(ht:takerIn K C name=some none)(ha:name∈attrNames)
  (h:↥EV o m hp (Mo aa m name C u Q)) :
  ↥ASG (.Attribute o name pos) u m hp Q:=λs v r hv=>by
 show wB (wpAny_holding (h.use r λov ar av ak au aq hov x=>wB (wpAny_standAt (wB (wpAny_holding ?_)))));x_go;show bX x λx dx ma zz1 I q=>?_;subst zz1;subst hov;show br (au.ins I) λod mv IA hn hm hw hl=>?_;apply Z;have X:=G.X.keeps au.keep;show set_plain X IA P.sa (osa_open (s:={ ar with toks:=ar.toks+1 }) X IA P.po ht λb=>?_);x_go;show aK (any_some P.hd) λcd hc hd=>?_;apply Z;show wB (wP (wB (wB (wpAny_loadPart IA.at_ (wB (looks_clsIn X hc _ _ _ _ (λ_ _ e=>e) ?_))))));show hd.symm▸?_;show wP (a:=some dx) (wB (wP (wB (wpAny_nsSet1 (s:={ ar with toks:=ar.toks+1 }) hn λh' hn' hs=>?_))));x_go;have hw':Within (λx=>if x=name then some v else mv x) attrNames:=λy hy=>by
  by_cases e:y=name
  .rw [e];show ha
  .exact hw y (by simpa [e] using hy)
 show bX (hn'.count hw') λoD esD epD hoD hdD hcD=>?_;apply Z;show wB (wpAny_lookBehind hoD (by rw[hdD];show pastItsLine_dict (Aj hcD ∅)) ?_);show wP ?_;have t:=au.turn (a:=dx) (Ab I.dL I.at_) hs (.atr (upd ma name u)) (λle=>aO _ hn' (LocR.upd (hm.mono le) ((hv.mono aq).mono le)) hw') (ar.toks+1+1);rw[A8 _ _ _ (Ah I.dL)]at t;show wpAny_release ⟨m,_,t.1,aq.trans t.2,q⟩
theorem MN{K:Frag}{fI:Addr}(G:Gnd K B)(hm:makesIn K C=true)(hi:findIn K (.ref C) "__init__" = some (some (.ref fI)))(hf:typeIn K (.ref fI)=some (.type "function"))
  (h:∀x dx vs,hp x=none->hp dx=none->x≠dx->x≠aa.locals->dx≠aa.locals ->
   CD Md (A.under (.builtin "type.__call__" ⟨.ref C::vs,[]⟩)) E B aa (.ref fI) m (.ref x::avs) ((hp.set dx (.atr λ_=>none)).set x (.obj (instObj C dx))) λv ah=>v = .none/\Q (.ref x) ah) :
  ↥CL (.ref C) m avs hp Q:=λs vs r hv=>by
 show wpAny_call ?_;x_go;have n1:=r.newAt emptyDict (.atr λ_=>none) (aO (λ_=>none) (Heap.Ns1.of_empty (Heap.Ns.new s.heap (.type "dict"))) ⟨λx v e=>by injection e,λx _=>rfl⟩ λy hy=>absurd rfl hy);have n2:=Rel.newAt n1.1 (instObj C s.heap.objs.size) (.obj (instObj C s.heap.objs.size)) ⟨AI _ rfl,λi=>by obtain⟨_,xs,n,e⟩:=i;cases e⟩;simp only[(C6 ..)]at n2;have hx0:hp (s.heap.objs.size+1)=none:=by have:=n2.2.1;rw[Al _ _ (DM _)]at this;show this
 have hh:=h (s.heap.objs.size+1) s.heap.objs.size vs hx0 n1.2.1 (DM _) n2.2.2.1 n1.2.2.1;obtain⟨heap,_⟩:=s;apply Z;show make_core (makes_of (G.X.keeps r.keep) hm) (looks_findIn (G.X.keeps r.keep) hi) (λself=>bind_fn (G.X.keeps r.keep) self hf) (.inl rfl) ?_;show codeAny_mono (hh _ (.ref (heap.objs.size+1)::vs) n2.1 (by simp only[VRs];show aT _ _ rfl VR_ref (hv.mono (n1.2.2.2.trans n2.2.2.2)))) λr s' z=>?_;rcases r with e | (v | _ | _ | _) <;> first | show z | show z.elim | skip
 x_go;obtain⟨av,ah,r',le',hv',rfl,q⟩:=z;z_go;subst hv';show⟨rfl,.ref (heap.objs.size+1),ah,r',(n1.2.2.2.trans n2.2.2.2).trans le',VR_ref,q⟩
theorem IW{K:Frag}{aC:List Expr}{pos}{f:Addr}(G:Gnd K B)(hk:keepIn K (.ref f)=true)
  (h:↥EV aE m hp (Mp A E B aa m e aC f Q))
  (hc:autoParam (eval (.Call aE (e::aC) [] pos) aa=(do callWith pos (<-eval aE aa) [] (backTo pos (starEach (e::aC) aa)) (backToKw pos (keywordEach [] aa)))) rB)
  (he:autoParam (starEach (e::aC) aa=(false,eval e aa)::starEach aC aa) rB)(hplain:autoParam ((backTo pos (starEach aC aa)).any (·.1)=false) rB) :
  ↥EV (.Call aE (e::aC) [] pos) m hp Q:=λs r=>by
 show Call_ (h.use r λu ar v ak au aq hu yq=>?_) hc;show aU yq λhf q=>?_;clear yq;subst hf;subst hu;show callWith_K (K:=K) G.X hk (BY (q pos ar au) λvs ax avs ae ay aw hv q=>⟨G.X.keeps ay.keep,?_⟩) he hplain;show useV (q ax vs ay hv) λv sX av hpX rX leX hv q=>mkV rX ((aq.trans aw).trans leX) hv q
theorem MO {Q:Bool->Hp->Prop}(h:Q false hp):↥TRU m .none hp Q:=λs u r hu=>by simp only[VR]at hu;subst hu;show PyProof.Rows.truthy_none ⟨hp,r,.refl _,h⟩
theorem MQ{xs:List AV}{Q:Bool->Hp->Prop}(ha:Lst B hp aa.locals a xs)(hsz:xs.length<=sizeLine)(h:Q (!xs.isEmpty) hp):↥TRU m (.ref a) hp Q:=λs u r hu=>by
 subst hu;show aK (r.lst ha) λvs hl hv=>?_;have az:=hv.length;have h5:vs.size<=sizeLine:=by rw[<-A7];show F30 0x89579608750 4113 rfl hsz az
 show wpAny_truthy_list hl (by have:=sizeLine_eq;show F20 0x80000000000000000f573710000000658608750 4113 rfl h5 this) ⟨hp,r.toks _,.refl _,?_⟩;have:vs.isEmpty=xs.isEmpty:=by
  rw[<-Array.isEmpty_toList];cases hx:xs with
  | nil=>rw[hx]at az;rw[List.isEmpty_iff.mpr];rfl;show DH.mp (by simpa using az)
  | cons y ys=>rw[hx]at az;cases hv':vs.toList with
   | nil=>rw[hv']at az;injection az
   | cons z zs=>rfl
 rw[this];show h
theorem Rel.grown (r:Rel B hp[m]! s)(k:∀b o,s.heap.get? b=some o->h'.get? b=some o)(t:Nat):Rel B hp[m]! { s with heap:=h',toks:=t }/\ImmLe s.heap h':=by show⟨⟨λb o e=>k b o (r.keep b o e),λa o e=>⟨(r.objs a o e).1,(r.objs a o e).2.here (ImmLe.keep k) λo' e'=>k _ _ e'⟩,r.os,r.bare,?_⟩,ImmLe.keep k⟩;show aU (r.objs aa.locals _ (Ad ..)) λh1 h2=>?_;obtain⟨ob,hob⟩:=h2.ex;show Aj h1 (By (Cd (k _ _ hob)))
theorem Ins.call{x:Addr}(I:Ins hp L x dx C ma)(h:hp L'=none):Ins (hp.set L (.ns m)) L' x dx C ma:=
 ⟨Ab I.xL I.ob,Ab I.dL I.at_,Ag I.ob h,Ag I.at_ h⟩
theorem Ins.put{x:Addr}(I:Ins hp L x dx C ma):Ins (hp.set dx (.atr ma')) L x dx C ma':=
 ⟨Ab I.xd I.ob,Ad ..,I.xL,I.dL⟩
theorem Lst.put{b:Addr}{xs:List AV}{o:AO}(x:Lst B hp L a xs)(h:∀ys,hp b≠some (.list ys)):Lst B (hp.set b o) L a xs:=by
 rcases x with⟨e,hL⟩ | e
 .exact .inl ⟨Ab (λe'=>by subst e';show h _ e) e,hL⟩
 .exact .inr e
theorem CM{K:Frag}{f:Addr}{bs:List (An×AV)}(G:Gnd K B)(ho:K.lookup f=some ⟨.type "function",none,.func fd,#[]⟩)(hcd:codeIn K fd.code fd.qualname=true)
  (hbody:fd.body = .stmts body)(aB:A.depth<recursionLimit)
  (hbind:∀s vs,VRs s.heap avs vs->(∀b o,B.heap.get? b=some o->s.heap.get? b=some o)->∃us:List (An×Value),BindsTo s fd ⟨vs,[]⟩ us/\us.reverse.map (·.1)=bs.map (·.1)/\VRs s.heap (bs.map (·.2)) (us.reverse.map (·.2)))
  (hloc:bs.all (λx=>fd.scope.names.lookup x.1 == some .local)=true)(hcell:∀x∈fd.scope.names,x.2≠.cell)
  (h:∀L,hp L=none->L≠aa.locals->EXs Md (A.deeper (callEnv fd L f)) (λ_ _=>False) B (callEnv fd L f) body (locOf bs) hp[m]! (RET L aa m Q))
  (hco:autoParam (fd.scope.isCoroutine=false) rB)(hgen:autoParam (fd.scope.isGenerator=false) rB)(hk:autoParam (fd.scope.kind = .function) rB) :
  ↥CD (.ref f) m avs hp Q:=
 ME G ho rfl hcd hbody aB hbind hloc hcell (λL hL hLe=>(h L hL hLe).mono λfl m' ah q56=>q56.elim λae q57=>q57.elim λle q58=>q58.elim λhn q=>aM ae (λa o e=>⟨le a o e,λe'=>by clear q58 q57 q56 hL;subst e';rw[Al _ _ hLe,hn]at e;cases e⟩) q) hco hgen hk
theorem E3 {pos' pos}{Q:QX}
  (h:↥EV value m hp (Mq A E B aa m o name Q pos'))
  (hs:autoParam (swapsWith value (some (.Attribute o name pos')) pos.line aa=pure false) rB):↥EX (.Assign [.Attribute o name pos'] value pos) m hp Q:=λs r=>by
 rw[plainObj_exec_Assign_Attribute o name pos' value pos hs];show wB (wpAny_standAt (wB (h.use r λu ar v ak au aq hu q=>wB ?_)));show useA (q ar u au hu) λ_ ax ao ae ay aw q=>wP (mkX (af:=.next) ay (aq.trans aw) rfl q)
theorem CY {k p pos}{Q:QX}(h:Q .next m hp)(hi:autoParam (interactive aa=false) rB)(hs:autoParam (swapsWith (.Constant (.str x) k p) none pos.line aa=pure false) rB) :
  ↥EX (.Expr (.Constant (.str x) k p) pos) m hp Q:=AJ (Bw ⟨by simp,by simp,by simp,h⟩) hi hs
theorem MU{fl:AF}(le:Hp.Le ae[m]! ah)(hn:ae L=none)(q:Q (CS fl) ae):RET L aa m Q fl m' ah:=aO ae le hn q
theorem IX{fl:AF}(hL:hp L=none)(q:Q (CS fl) hp):RET L aa m Q fl m' hp[m]!:=aO hp (.refl _) hL q
theorem MV{o:AO}{fl:AF}(hL:hp L=none)(hd:dx≠aa.locals)(hdL:dx≠L)(q:Q (CS fl) (hp.set dx o)):RET L aa m Q fl m' ((hp[m]!).set dx o):=
 aO (hp.set dx o) (by rw[A8 _ _ _ hd];show .refl _) (Ab (Ah hdL) hL) q
theorem ASG.mono {M:Model}{t:Expr}{x:AV}{Q Q':Loc->Hp->Prop}(h:ASG M A E B aa t x m hp Q)(k:∀m' ah,Q m' ah->Q' m' ah):ASG M A E B aa t x m hp Q':=λs v r hv=>
 useA (h s v r hv) λ_ _ m' ah r' le q=>mkA r' le (k _ _ q)
theorem MW{Q:Bool->Hp->Prop}(hx:x.length<1000)(h:Q (x.length != 0) hp):↥TRU m (.str x) hp Q:=λs u r hu=>by
 simp only[VR]at hu;obtain⟨t,rfl⟩:=hu;show PySem.P.truthy_str (F10 0x7380000000000000000f5823e8025740 17 rfl hx) ⟨hp,r.toks _,.refl _,?_⟩;have:((x.length:Int) != 0)=(x.length != 0):=by
  generalize x.length=n;cases n with
  | zero=>rfl
  | succ n=>rfl
 rw[this];show h
theorem GY.mono {sZ':Shared}{v:Value}{kap kap':Resume->Shared->Prop}(h:GY B L h0 Cn n s₀ v s kap)(k:∀r s',kap r s'->kap' r s'):GY B L h0 Cn n' sZ' v s kap':=by x_go;show bz h λav hp m h1 h2 h3 h4 h7=>?_;apply Z;show bk av hp m h1 h2 h3 h4 λs' ah p r le=>k _ _ (h7 s' ah p r le)
theorem MX {M:Model}:∀{n:Nat} {s₀:Shared}{c:Code}{t:Sem Fin}{fs:List Frame}{s:Shared},Seg M A (GR B h0 F) (GY B L h0 Cn) n s₀ c t fs s->Seg M A (GR B h0 F) (GY B L h0 Cn) (n+1) s₀ c t fs s:=by
 intro r_
 induction r_ with
 | zero=>
  intro s₀ c t fs s h;intro Γ p hc hΓ;show aY (h Γ p hc hΓ) λe s' hr he=>?_;show a8 e s' hr (?_);clear hr;cases e with
  | ret r=>show he
  | susp v g l k c p fs=>show⟨he.1,he.2.mono λ_ _ x=>x.elim⟩
 | succ n ih=>
  intro s₀ c t fs s h;intro Γ p hc hΓ;show aY (h Γ p hc hΓ) λe s' hr he=>?_;show a8 e s' hr (?_);clear hr;cases e with
  | ret r=>show he
  | susp v g l k c p fs=>show⟨he.1,he.2.mono λ_ _ x=>ih x⟩
theorem IY {M:Model}{t:Sem Fin}(h:Seg M A (GR B h0 F) (GY B L h0 Cn) n s₀ c t fs s)(le:n<=n'):Seg M A (GR B h0 F) (GY B L h0 Cn) n' s₀ c t fs s:=by
 induction le with
 | refl=>show h
 | step _ ih=>show MX ih
theorem DZ{K:Flow->Sem Fin}(h:GF A B aa h0 Cn F n c fs K .next m hp):GS PW W0 A B aa h0 Cn F n c fs K H [] m hp:=λs s₀ r le=>seg_execs_nil (h s s₀ .next r le rfl)
theorem Gj{K:Flow->Sem Fin}(h:GS PW W0 A B aa h0 Cn F n c fs K H aC m hp):GF A B aa h0 Cn F n c fs (KK aa aC K H) .next m hp:=λs s₀ fl r le hf=>by cases hf;show h s s₀ r le
theorem CZ{K:Flow->Sem Fin}{st:Stmt}(h:EX Md (A.over c fs) (λ_ _=>False) B aa st m hp λf m' ah=>match f with | .next=>GS PW W0 A B aa h0 Cn F n c fs K H aC m' ah | f=>GF A B aa h0 Cn F n c fs K f m' ah) :
  GS PW W0 A B aa h0 Cn F n c fs K H (st::aC) m hp:=λs s₀ r le=>by
 show seg_execs_cons (seg_wrap (wpAny_mono (h s r) (λfl s' x=>?_) λ_ _ x=>x.elim));x_go;obtain⟨af,m',ah,r',le',hf,q⟩:=x;z_go;cases af with
 | next=>cases hf;show q s' s₀ r' (le.trans le')
 | brk=>cases hf;show q s' s₀ _ r' (le.trans le') rfl
 | cont=>cases hf;show q s' s₀ _ r' (le.trans le') rfl
 | ret v=>show aK hf λu zz1 hu=>?_;clear hf;subst zz1;show q s' s₀ _ r' (le.trans le') ⟨u,rfl,hu⟩
theorem IZ{K:Flow->Sem Fin}{ypos:Pos}(hfs:splitAtGen fs=none)(hfg:fs.any Frame.guarded=false)
  (h:EV Md (A.over c fs) (λ_ _=>False) B aa e m hp λav ak=>Cn.pre av ak/\∀ae,Cn.post av ak ae->GS PW W0 A B aa h0 Cn F n c fs K H aC m ae)
  (hco:autoParam (aa.scope.isCoroutine=false) rB)(hi:autoParam (interactive aa=false) rB) :
  GS PW W0 A B aa h0 Cn F (n+1) c fs K H (.Expr (.Yield (some e) ypos) pos::aC) m hp:=λs s₀ r le=>by
 show seg_execs_cons (seg_Expr_Yield hfs rfl hfg (wpAny_mono (h s r) (λv s' x=>?_) λ_ _ x=>x.elim) hco hi);x_go;obtain⟨av,ak,au,aq,hv,hpre,q⟩:=x;apply Z;intro kap hkap;show bk av ak m au (le.trans aq) hv hpre λs'' hp'' p r'' le''=>hkap .none s'' (q hp'' p s'' s'' r'' le'')
theorem Ja{K:Flow->Sem Fin}(h:TST Md (A.over c fs) (λ_ _=>False) B aa test m hp λb ah=>if b then GS PW W0 A B aa h0 Cn F n c fs (KK aa aC K H) H body m ah else GS PW W0 A B aa h0 Cn F n c fs (KK aa aC K H) H orelse m ah) :
  GS PW W0 A B aa h0 Cn F n c fs K H (.If test body orelse pos::aC) m hp:=λs s₀ r le=>by
 show seg_execs_cons ?_;rw[exec_If,Cj,Ck];show seg_wrap (wpAny_standAt ?_);rw[Cj,Ck];show seg_wrap (H3 (h s r) λb s' ah r' le' q=>?_);cases b with
 | true=>show q s' s₀ r' (le.trans le')
 | false=>show q s' s₀ r' (le.trans le')
theorem MY{K:Flow->Sem Fin}(hh:∀it kk p,(A.over (.forLoop aD (.ref it) body [] aa) (.ret kk none false [] c p []::fs)).handled=none)
  (h:EV Md (A.over c fs) (λ_ _=>False) B aa iter m hp λo ak=>∃a xs,o = .ref a/\Lst B ak aa.locals a xs/\∀it,ak it=none->it≠aa.locals->∃(I:Nat->Loc->Hp->Prop) (N:Nat->Nat),N 0<=n /\
   (∀ob,I 0 m (ak.set it (.obj ob)))/\(∀i ao ae ob,I i ao ae->I i ao (ae.set it (.obj ob)))/\(∀i ao ae,I i ao ae->Lst B ae aa.locals a xs) /\
   (∀kk p K' H' i x ao ae ob,xs[i]?=some x->I i ao ae->ae it=some (.obj ob) ->
    (∀n' mY hpY,N (i+1)<=n'->I (i+1) mY hpY->hpY it=some (.obj ob)->GF A B aa h0 Cn F n' (.forLoop aD (.ref it) body [] aa) (.ret kk none false [] c p []::fs) K' .next mY hpY) ->
    ASG Md (A.over (.forLoop aD (.ref it) body [] aa) (.ret kk none false [] c p []::fs)) (λ_ _=>False) B aa aD x ao ae λmX hpX=>
     GS PW W0 A B aa h0 Cn F (N i) (.forLoop aD (.ref it) body [] aa) (.ret kk none false [] c p []::fs) K' H' body mX hpX) /\
   (∀ao ae,I xs.length ao ae->GS PW W0 A B aa h0 Cn F (N xs.length) c fs K H aC ao (ae.del it)))
  (hs:∀x,foldedSetIterable iter aa x=pure x:=by intro _;rfl) :
  GS PW W0 A B aa h0 Cn F n c fs K H (.For aD iter body [] pos::aC) m hp:=λs s₀ r le=>by
 show seg_execs_cons ?_;rw[exec_For,Cj,Ck];show seg_wrap (wpAny_standAt ?_);rw[Cj,Ck];show seg_wrap (wpAny_mono (h s r) (λu ar x=>?_) λ_ _ x=>x.elim);x_go;obtain⟨o,ak,au,aq,hu,a,xs,rfl,hl,x⟩:=x;apply Z;rw[hu];rw[Cj,Ck,hs];show seg_wrap (wP ?_);rw[Cj,Ck];show seg_wrap (wpAny_standAt ?_);rw[Cj,Ck];show aK (au.lst hl) λvs hlst hvs=>?_;show seg_wrap (wpAny_holding (wpAny_pyIter_list hlst ?_));have nw:=au.newAt { cls:=.type "list_iterator",data:=.fields #[.ref a,.int 0 0] } (.obj { cls:=.type "list_iterator",data:=.fields #[.ref a,.int 0 0] }) ⟨AI _ rfl,λi=>by obtain⟨_,_,_,e⟩:=i;cases e⟩;show bR (x _ nw.2.1 nw.2.2.1) λI N hN h1 hset hlI turn fin=>?_;generalize hit:ar.heap.objs.size=it at *;show seg_call λp=>?_;show IY ?_ hN;generalize hkk:(λr=>Sem.wrap _ _ _ _ _)=kk;have loop:∀(k i:Nat) (ao:Loc) (ae:Hp) (ob:Obj) (s s₀:Shared),xs.length-i=k->i<=xs.length->I i ao ae->ae it=some (.obj ob)->(ob.cls = .type "list_iterator" /\ ob.data = .fields #[.ref a,.int i 0])->Rel B ae[ao]! s->ImmLe h0 s.heap ->
   Seg Md A (GR B h0 F) (GY B aa.locals h0 Cn) (N i) s₀ (.forLoop aD (.ref it) body [] aa) (Md.den (.forLoop aD (.ref it) body [] aa)) (.ret kk none false [] c p []::fs) s:=by
  intro k
  induction k with
  | zero=>
   intro i ao ae ob s s₀ hkk' hi hI hob hst r le;have e:i=xs.length:=by(show F20 0x986985004760780a 0x110000100101 rfl hkk' hi)
   clear hi hkk';subst e;change Seg _ A _ _ _ s₀ _ ((forTurn aD (.ref it) body [] aa).onRaise (λx=>do noteFrame x aa;theTreesLotGoes x)) _ s;unfold forTurn;rw[Sem.onRaise_eq_wrap,Cj,Ck];show seg_wrap (wpAny_standAt ?_);rw[Cj,Ck];show aK (r.lst (hlI _ _ _ hI)) λvs' hl' hvs'=>?_;show seg_wrap (wpAny_onRaise (wpAny_pyNext_list_end (hh _ _ _) (i:=xs.length) (aO ob ((r.at hob nw.2.2.1).1) hst.1 hst.2) hl' ?_ λh' he=>?_))
   .have e:vs'.size=xs.length:=by rw[<-A7];show hvs'.length
    show Dv (F20 0x8758760 257 rfl e)
   .obtain ⟨r',le'⟩:=r.drop hob nw.2.2.1 he s.toks;have hf:=fin ao ae hI _ s₀ r' (le.trans le');show seg_again (c':=.block [] aa) rfl ?_;show seg_leaf (.ok .next) ?_;rw[<-hkk];show hf
  | succ k ih=>
   intro i ao ae ob s s₀ hkk' hi hI hob hst r le;have hlt:i<xs.length:=by(show F30 0xa94680760891a 4296085520 rfl hkk')
   change Seg _ A _ _ _ s₀ _ ((forTurn aD (.ref it) body [] aa).onRaise (λx=>do noteFrame x aa;theTreesLotGoes x)) _ s;unfold forTurn;rw[Sem.onRaise_eq_wrap,Cj,Ck];show seg_wrap (wpAny_standAt ?_);rw[Cj,Ck];show aK (r.lst (hlI _ _ _ hI)) λvs' hl' hvs'=>?_;have hx:xs[i]?=some (xs.getD i .none):=by simp[A3 hlt]
   show aK (hvs'.get (i:=i) (x:=xs.getD i .none) hx) λv hv hxv=>?_;show seg_wrap (wpAny_onRaise (wpAny_pyNext_list_item (i:=i) (aO ob ((r.at hob nw.2.2.1).1) hst.1 hst.2) hl' (by simpa using hv) λh' hit' hs'=>?_));show aS hit' λob' hg' hc' hd'=>?_;have t:=r.turn (a:=it) (o:=.obj ob) (Ab nw.2.2.1 hob) hs' (.obj ob') (λ_=>⟨hg',λi'=>by obtain⟨_,_,_,e⟩:=i';rw[hd']at e;cases e⟩) s.toks;rw[A8 _ _ _ (Ah nw.2.2.1)]at t;dsimp only;rw[Cj,Ck];show seg_wrap (H8 hg' hc' rfl ?_);rw[Cj,Ck];rw[Cj];generalize hKb:(λ(_:Unit)=>Sem.wrap _ _ _ _ (Sem.wrap _ _ _ _ (execs body aa)))=kb;subst hKb;have tr:=turn kk p (λf=>(match f with | .next | .cont=>.pure (.again (.forLoop aD (.ref it) body [] aa)) | .brk=>.pure (.done .next) | .ret v=>.pure (.done (.ret v)))) (λe=>(do noteFrame e aa;theTreesLotGoes e:Sem Unit).wrap (λ_=>.raise e) .raise id id) i _ ao (ae.set it (.obj ob')) ob' hx (hset _ _ _ _ hI) (Ad ..) ?_
   .refine seg_wrap (Fk (tr _ v t.1 (hxv.mono t.2)) λ_ sX mX hpX rX leX q=>?_);rw[Ck];show Eq.mp (congrArg (λt=>Seg _ A _ _ _ s₀ _ t _ sX) ?_) (q sX s₀ rX ((le.trans t.2).trans leX));show Sem.wrap_congr (execs body aa) _ _ (λf=>?_) (λe=>?_)
    .cases f <;> rfl
    .show _=(do noteFrame e aa;theTreesLotGoes e:Sem Unit).bind λ_=>.raise e;rw[Sem.bind_eq_wrap]
   .intro n' mY hpY hn' hI' hob' sY sZ' fl rY leY hf;cases hf;show seg_again rfl (IY ?_ hn');show ih (i+1) mY hpY ob' sY sZ' (F30 0x986690760a91a69081a 0x10000011100100100000111010100100100010010010101101101001 rfl hkk') hlt hI' hob' ⟨hc',by show hd'⟩ rY leY
 show loop xs.length 0 m _ _ _ s₀ rfl (Bp _) (h1 _) (Ad ..) ⟨rfl,rfl⟩ nw.1 ((le.trans aq).trans nw.2.2.2)
theorem Rel.gen{g:Nat}{x gs:GenState}(r:Rel (BG B gn g x) hp s)(hb:gs.bare=true):Rel (BG B gn g gs) hp (s.setGen g gs):=by
 show⟨r.keep,r.objs,r.os,⟨λy hy=>?_,λi y hy=>?_⟩,r.size⟩
 .obtain ⟨i,hi,rfl⟩:=Array.mem_iff_getElem.mp hy;by_cases e:i=g
  .clear hy r;subst e;have:(s.setGen i gs).gens[i]=gs:=by simp[Shared.setGen]
   rw[this];show hb
  .have hi':i<s.gens.size:=by simpa [Shared.setGen] using hi
   have:(s.setGen g gs).gens[i]=s.gens[i]:=by simp only[Shared.setGen];show Array.getElem_setIfInBounds_ne hi' (λh=>e h.symm)
   rw[this];show r.bare.1 _ (Array.getElem_mem hi')
 .have sz:gn.size<=s.gens.size:=by have:=r.bare.2.size;simpa using this
  by_cases e:i=g
  .clear r;subst e;have hy':=hy;rw[F7]at hy';split at hy'
   .rename_i h;rw[F7,if_pos (ER h sz)];show hy'
   .cases hy'
  .have hy':=hy;rw[ES (λh=>e h.symm)]at hy';rw[ES (λh=>e h.symm)];show r.bare.2 i y ?_;rw[ES (λh=>e h.symm)];show hy'
theorem Rel.genAt{g:Nat}{gs:GenState}(r:Rel (BG B gn g gs) hp s)(hg:g<gn.size):s.gens[g]?=some gs:=r.bare.2 g gs (by change(gn.setIfInBounds g gs)[g]?=_;show(F7.trans ((if_pos hg))))
theorem MZ {I:Addr}{g:Nat}{gs:GenState}{Q:Option Value->Shared->Prop}(hh:A.handled=none)(hl:s.heap.NoLimit)(aB:A.depth<recursionLimit)(hg:s.heap.IsGen I g)(hgs:s.gens[g]?=some gs)
  (hgo:gs.Goes Md A.in1 (GR B h0 F) (GY B L h0 Cn) n (.send .none) (s.setGen g .running))
  (hY:∀v ar gs',gs'.bare=true->GY B L h0 Cn (n-1) (s.setGen g .running) v ar (λr' s''=>match n with | 0=>False | m+1=>gs'.Goes Md A.in1 (GR B h0 F) (GY B L h0 Cn) m r' s'')->Q (some v) (ar.setGen g gs'))
  (hP:∀ar hp,Rel B hp ar->ImmLe h0 ar.heap->F hp->∀h',ar.heap.objs.size<=h'.objs.size->(∀b o,ar.heap.get? b=some o->h'.get? b=some o)->Q none { ar.setGen g .finished with heap:=h' }):wpAny Md A (pyNext (.ref I)) Q E s:=by
 show wB (wpAny_attempt (wpAny_callSpecial?_slot (name:=Str.ofString "__next__") hg.typeIs slot_gen_next (wpAny_call_entry slot_gen_next hg.typeIs entry_gen_next ?_ (args_gen_next _))));change wpAny _ A.in1 (Builtin.Generator.genWake (.ref I) (.send .none)) _ _ s;show wB (wpAny_holding (wpAny_genNumber hg (wB (wpAny_genState hgs ?_))));cases gs with
 | running=>show hgo.elim
 | finished=>show hgo.elim
 | _=>
  show wB (wpAny_roomToWake hl aB ?_);show wpAny_resumeQ hgs hgo (λx ar hx=>?_) (λv ar gs' hb hv=>wP (aM v rfl (wP (hY v ar gs' hb hv))));show aU hx λzz1 zz2=>?_;clear hx;subst zz1;show aS zz2 λhp r le q=>?_;change wpAny _ A.in1 (newExc (.type "StopIteration") [] >>= _) _ _ _;show wB ?_;show wB (wpAny_newObj_type ?_ (by size_fits));show wB (m:=firstArgMember _ _) (wpAny_of_eq (a:=Value.none) (by first | rfl | (simp only[firstArgMember];rfl)) ?_);show wpAny_newObj_type ?_ (by size_fits);dsimp only[raiseNew];show wB (wB (wpAny_handled ?_));show(hh:A.in1.handled=none).symm▸?_;show wpAny_throw (wB (wpAny_isInstance (T := "StopIteration") (b:=true) (aM _ (AI _ rfl) rfl) isSubtype_stop ?_));show wP (hP ar hp r le q _ (by rw[C6,C6];show Aj (Dd _) (Dd _)) λb o hb=>AX _ (AX _ hb))
theorem Na {I S:Addr}{g:Nat}(hh:A.handled=none)(aB:A.depth<recursionLimit)(lim:B.heap.NoLimit)(hkI:hk I=some (.obj go))(hgo:∀h:Heap,h.get? I=some go->h.IsGen I g)(hIL:I≠L)(hkS:hk S=none)(hgB:g<gn.size)
  (hR:∀s' ah,Rel (BG B gn g .finished) ah s'->ImmLe h0 s'.heap->F ah->R (.ok (.ret res)) s') :
  ∀(n:Nat) (s:Shared) (hp:Hp) (m:Loc) (acc:List AV) (gs:GenState),Rel (BG B gn g gs) (hp.set L (.ns m)) s->ImmLe h0 s.heap->hp S=some (.list acc)->S≠L->Hp.Le hk hp ->
   (∀s',Rel (BG B gn g .running) (hp.set L (.ns m)) s'->ImmLe h0 s'.heap->gs.Goes Md A.in1.in1 (GR (BG B gn g .running) h0 F) (GY (BG B gn g .running) L h0 (lcon hk S L)) n (.send .none) s') ->
   codeAny Md A (.builtin "list.extend.loop" ⟨[.ref S,.ref I,res],[]⟩) R s:=by
 have step:∀(n:Nat) (s:Shared) (hp:Hp) (m:Loc) (acc:List AV) (gs:GenState),Rel (BG B gn g gs) (hp.set L (.ns m)) s->ImmLe h0 s.heap->hp S=some (.list acc)->S≠L->Hp.Le hk hp -> (∀s',Rel (BG B gn g .running) (hp.set L (.ns m)) s'->ImmLe h0 s'.heap->gs.Goes Md A.in1.in1 (GR (BG B gn g .running) h0 F) (GY (BG B gn g .running) L h0 (lcon hk S L)) n (.send .none) s') -> (∀m' (s:Shared) (hp:Hp) (m:Loc) (acc:List AV) (gs:GenState),n=m'+1->Rel (BG B gn g gs) (hp.set L (.ns m)) s->ImmLe h0 s.heap->hp S=some (.list acc)->S≠L->Hp.Le hk hp -> (∀s',Rel (BG B gn g .running) (hp.set L (.ns m)) s'->ImmLe h0 s'.heap->gs.Goes Md A.in1.in1 (GR (BG B gn g .running) h0 F) (GY (BG B gn g .running) L h0 (lcon hk S L)) m' (.send .none) s') -> codeAny Md A (.builtin "list.extend.loop" ⟨[.ref S,.ref I,res],[]⟩) R s) ->
   codeAny Md A (.builtin "list.extend.loop" ⟨[.ref S,.ref I,res],[]⟩) R s:=by
  intro n s hp m acc gs r le hS hSL hkp hgoes ih;show codeAny_builtin GO ?_;show wB (MZ (B:=BG B gn g .running) (A:=A.in1) hh (lim.keeps r.keep) aB (hgo _ ((r.objs I (.obj go) (Ab hIL (hkp _ _ hkI))).2.1)) (r.genAt hgB) (hgoes _ (r.gen rfl) le) (λv ar gs' hb hv=>?_) (λar ak au aq q h' hz k=>?_))
  .clear hgoes;show bz hv λav ak m₁ au aq hav zz1 hgo₁=>?_;show a9 zz1 λacc₁ hS₁ hSL₁ az hk₁=>?_;show aY ((au.objs S _ (Ab hSL₁ hS₁)).2) λvs nn hl hvs=>?_;have hsz:vs.size=acc₁.length:=by rw[<-A7];show hvs.length
   have t:=(au.gen hb).turn (a:=S) (o:=.list acc₁) (Ab hSL₁ hS₁) (h':=ar.heap.update S (Obj.mapSeq (·.push v))) (B2 ..) (.list (acc₁++[av]))
    (λle=>a8 _ _ (EW hl (·.push v)) (by rw[EO];show(hvs.mono le).append (VRs.one (hav.mono le)))) ar.toks
   rw[A8 _ _ _ (Ah hSL₁)]at t;show wB (wpAny_updateSeq hl rfl (wP ⟨plainId_quiet EU _,?_⟩) (by rw[hsz];have:=sizeLine_eq;show F20 0x87510000000658603e8025740 4353 rfl az this) (by change(vs.push v).size<=sizeLine+1;rw[GT,hsz];have:=sizeLine_eq;(show Aj () ∅)));have leN:=aq.trans t.2;clear hv;cases n with
   | zero=>show(hgo₁ _ _ (aM acc₁ hS₁ rfl) (t.1.gen (gs:=.running) rfl) leN).elim
   | succ n=>show ih n _ (ak.set S (.list (acc₁++[av]))) m₁ (acc₁++[av]) gs' rfl t.1 leN (Ad ..) hSL₁ (hk₁.set hkS _) λs' r' le'=>hgo₁ s' _ (aM acc₁ hS₁ rfl) r' le'
  .refine wP (hR _ ak ?_ (aq.trans (ImmLe.keep k)) q);show⟨λb o e=>k _ _ (au.keep b o e),λa o e=>⟨(au.objs a o e).1,(au.objs a o e).2.here (ImmLe.keep k) λo' e'=>k _ _ e'⟩,au.os,(au.gen (gs:=.finished) rfl).bare,Aj au.size hz⟩
 intro n
 induction n with
 | zero=>intro s hp m acc gs r le hS hSL hkp hgoes;show step 0 s hp m acc gs r le hS hSL hkp hgoes (λm' _ _ _ _ _ e=>by cases e)
 | succ n ih=>intro s hp m acc gs r le hS hSL hkp hgoes;show step (n+1) s hp m acc gs r le hS hSL hkp hgoes (λm' s hp m acc gs e=>by cases e;show ih s hp m acc gs)
theorem Nb {I S:Addr}{g:Nat}(hS:s.heap.get? S=some { cls:=.type "list",data:=.seq #[] })(hI:s.heap.IsGen I g)(hSI:S≠I)
  (hloop:∀h' c',Heap.SameBut S s.heap h'->h'.get? S=some { cls:=.type "list",dict:=none,data:=.seq #[] c',slots:=#[] }->codeAny Md A (.builtin "list.extend.loop" ⟨[.ref S,.ref I,.none],[]⟩) R { s with heap:=h' }) :
  wpAny Md A.in1 (Builtin.«list.__init__» ⟨[.ref S,.ref I],[]⟩)
   (λfin s'=>match fin with | .done f=>R (.ok f) s' | .again c'=>c'.quiet=true/\codeAny Md A c' R s') (λe s'=>R (.error e) s') s:=by
 change wpAny _ A.in1 (do let old <-Builtin.List.listItems (.ref S);Builtin.List.listUpdate (.ref S) (λ_=>#[]);letGo old.toList.reverse;Builtin.List.listExtendWith (.ref S) (.ref I) .none) _ _ s;show wB ?_;unfold Builtin.List.listItems;show wB (wpAny_seqItems hS rfl (wP ?_));change wpAny _ A.in1 (updateSeq S (λ_=>#[]) >>= λ_=>letGo (#[]:Array Value).toList.reverse >>= λ_=>Builtin.List.listExtendWith (.ref S) (.ref I) .none) _ _ s;show wB (wpAny_updateSeq hS rfl ?_);have hS₁:=De (Obj.mapSeq (λ_=>(#[]:Array Value))) hS rfl;have hs₁:Heap.SameBut S s.heap (s.heap.update S (Obj.mapSeq (λ_=>(#[]:Array Value)))):=B2 ..;show wB (wpAny_letGo ?_);have hI₁:=hI.sameBut hs₁ (Ah hSI);unfold Builtin.List.listExtendWith;show wB (wpAny_typeOf (s:={ s with heap:=s.heap.update S (Obj.mapSeq (λ_=>(#[]:Array Value))) }) (Heap.IsGen.typeIs (s:={ s with heap:=s.heap.update S (Obj.mapSeq (λ_=>(#[]:Array Value))) }) hI₁) ?_);have h1:Builtin.List.listSameRef (.ref S) (.ref I)=false:=by show if_neg hSI
 simp only[h1,(by decide:(Value.type "generator" == Value.type "list")=false),(by decide:(Value.type "generator" == Value.type "tuple")=false),GU,EY,if_false];have hT₁:=Heap.IsGen.typeIs (s:={ s with heap:=s.heap.update S (Obj.mapSeq (λ_=>(#[]:Array Value))) }) hI₁;show wB (wpAny_pyIter_gen (s:={ s with heap:=s.heap.update S (Obj.mapSeq (λ_=>(#[]:Array Value))) }) hI₁ ?_);show wB (wpAny_holding ?_);unfold Builtin.List.listLengthHint;show wB (wpAny_specialOf hT₁ F.gen_no_len ?_);change wpAny _ A.in1 (specialOf (Value.ref I) (Str.ofString "__length_hint__") >>= _) _ _ _;show wB (wpAny_specialOf hT₁ F.gen_no_hint ?_);show wP ?_;change wpAny _ A.in1 (rule "list.extend.makes-room" >>= λ_=>Builtin.List.listTouch (.ref S) >>= λ_=>again (.builtin "list.extend.loop" ⟨[.ref S,.ref I,.none],[]⟩)) _ _ _;show wB (wpAny_rule (wB ?_));change wpAny _ A.in1 (updateSeq S (·.push .none) >>= λ_=>updateSeq S (·.pop)) _ _ _;show wB (wpAny_updateSeq hS₁ rfl ?_);have hS₂:=De (Obj.mapSeq (·.push Value.none)) hS₁ rfl;show wpAny_updateSeq (hz:=by seq_fits) hS₂ rfl ?_;show wP ⟨plainId_quiet F.plain_extend_loop _,hloop _ _ ?_ (De (Obj.mapSeq (·.pop)) hS₂ rfl)⟩;show(hs₁.trans (B2 ..)).trans (B2 ..)
theorem Jb (h:F hp[m]!):GF A B aa h0 Cn F n c [] Kf .next m hp:=λs s₀ fl r le hf=>by cases hf;show seg_end (.ok (.ret .none)) ⟨rfl,_,r,le,h⟩
theorem Nc{K:Frag}{f:Addr}{bs:List (An×AV)}{Q:ET}(G:Gnd K B)(ho:K.lookup f=some ⟨.type "function",none,.func fd,#[]⟩)(hcd:codeIn K fd.code fd.qualname=true)
  (hbody:fd.body = .stmts body)(aB:A.depth<recursionLimit)
  (hbind:∀s vs,VRs s.heap avs vs->(∀b o,B.heap.get? b=some o->s.heap.get? b=some o)->∃us:List (An×Value),BindsTo s fd ⟨vs,[]⟩ us/\us.reverse.map (·.1)=bs.map (·.1)/\VRs s.heap (bs.map (·.2)) (us.reverse.map (·.2)))
  (hloc:bs.all (λx=>fd.scope.names.lookup x.1 == some .local)=true)(hcell:∀x∈fd.scope.names,x.2≠.cell)
  (r:Rel B hp[m]! s)(hv:VRs s.heap avs vs)
  (h:∀L I go s',hp L=none->L≠aa.locals->hp I=none->I≠aa.locals->I≠L->(∀h:Heap,h.get? I=some go->h.IsGen I s.gens.size) ->
   Rel { B with gens:=s'.gens } ((((hp[m]!).set I (.obj go))).set L (.ns (locOf bs))) s'->GensLe s.gens s'.gens->s.gens.size<s'.gens.size->s'.gens[s.gens.size]?=some (.fresh (.func body (callEnv fd L f)))->ImmLe s.heap s'.heap->Q (.ref I) s')
  (hco:autoParam (fd.scope.isCoroutine=false) rB)(hgen:autoParam (fd.scope.isGenerator=true) rB)(hk:autoParam (fd.scope.kind = .function) rB) :
  wpAny Md A (call (.ref f) vs) Q E s:=by
 x_go;show aS (hbind s vs hv r.keep) λus hb e1 e2=>?_;apply Z
 show wpAny_call (codeAny_call_generator aB (r.keep _ _ (G.X _ _ ho)) rfl hco hgen hbody (codeRec_of (G.X.keeps r.keep) hcd) (hb _ _ _ _ ?_));show wpAny_newFunctionEnv hcell (λx hx=>?_) (λhZ hnsZ hsbZ=>⟨(G.lim.keeps r.keep).fresh _ hsbZ,?_⟩) hk
 .x_go;have:x.1∈bs.map (·.1):=by rw[<-List.mem_reverse,<-(by rw[<-e1,List.map_reverse,List.reverse_reverse]:us.map (·.1)=(bs.map (·.1)).reverse)];show Dw hx
  show aK (Bk.mp this) λy hy e=>?_;apply Z;rw[<-e]
  simpa using DK.mp hloc y hy
 .have hkZ:=λb o e=>hsbZ.extBut b o (Ei (Cd e)) (AX _ e);have hne:s.heap.objs.size≠aa.locals:=λe=>by have f:=r.fresh;rw[e,Ad]at f;cases f
  have hfr:hp s.heap.objs.size=none:=by have f:=r.fresh;rw[Al _ _ hne]at f;show f
  have le:=ImmLe.keep hkZ;have rel:Rel B ((hp[m]!).set (callEnv fd s.heap.objs.size f).locals (.ns (locOf bs))) { s with heap:=hZ,toks:=s.toks+us.length }:=by
   show⟨λb o e=>hkZ _ _ (r.keep b o e),λa o' e=>?_,r.os,r.bare,?_⟩
   .by_cases ha:a=s.heap.objs.size
    .subst ha;rw[show(callEnv fd s.heap.objs.size f).locals=s.heap.objs.size from rfl,Ad]at e;cases e;show⟨r.size,_,hnsZ,IP e1 (e2.mono le)⟩
    .rw [show(callEnv fd s.heap.objs.size f).locals=s.heap.objs.size from rfl,Al _ _ ha]at e;show⟨(r.objs a o' e).1,(r.objs a o' e).2.here le λo'' e=>hkZ _ _ e⟩
   .exact Aj r.size (By hnsZ.lt)
  generalize hgo:({ cls:=.type "generator",data:=.fields #[.int s.gens.size 0,.str fd.name (s.toks+us.length),.str fd.qualname (s.toks+us.length+1)] }:Obj)=go;have hgen':∀h:Heap,∀I,h.get? I=some go->h.IsGen I s.gens.size:=λh I e=>bh go _ _ e (by rw[<-hgo]) (by rw[<-hgo]) (by rw[<-hgo]);have x:=Rel.newAt rel go (.obj go) ⟨AI _ (by rw[<-hgo];rfl),λi=>by obtain⟨_,xs,n,e⟩:=i;rw[<-hgo]at e;cases e⟩;have hIe:hZ.objs.size≠aa.locals:=λe=>by have:=x.2.1;rw[(rfl:({ s with heap:=hZ,toks:=s.toks+us.length }:Shared).heap.objs.size=hZ.objs.size),e,Ad]at this;cases this
  have hIn:hp hZ.objs.size=none:=by have:=x.2.1;rw[(rfl:({ s with heap:=hZ,toks:=s.toks+us.length }:Shared).heap.objs.size=hZ.objs.size),Al _ _ hIe]at this;show this
  show h s.heap.objs.size hZ.objs.size go _ hfr hne hIn hIe x.2.2.1 (λh=>hgen' h _) ?_ (.push _ _) ?_ ?_ ?_
  .have y:=x.1;show⟨y.keep,y.objs,y.os,⟨r.bare.1.push rfl,.refl _⟩,y.size⟩
  .rw[GT];show CE _
  .exact Array.getElem?_push_size ..
  .exact le.trans x.2.2.2
theorem Rel.base{g:Nat}{x:GenState}(r:Rel (BG B gn g x) hp s)(le:GensLe B.gens gn)(hg:B.gens.size<=g):Rel B hp s:=
 ⟨r.keep,r.objs,r.os,⟨r.bare.1,λi y hy=>r.bare.2 i y (by
  have hi:i<B.gens.size:=by
   rcases EN i B.gens.size with h | h
   .exact h
   .rw [Dv h]at hy;cases hy
  change(gn.setIfInBounds g x)[i]?=some y;rw[ES (λh=>Ei (ER hi hg) h.symm)]
  show le i y hy)⟩,r.size⟩
theorem Rel.toBG{g:Nat}{x:GenState}(r:Rel { B with gens:=gn } hp s)(hg:gn[g]?=some x):Rel (BG B gn g x) hp s:=by
 show⟨r.keep,r.objs,r.os,⟨r.bare.1,λi y hy=>r.bare.2 i y ?_⟩,r.size⟩;have hy':=hy;by_cases e:i=g
 .clear hy;subst e;rw[F7]at hy';split at hy'
  .refine .trans ?_ hy';show hg
  .cases hy'
 .rwa [ES (λh=>e h.symm)]at hy'
theorem Nd {I g:Nat}{genv:Env}{F:Addr->Hp->Prop}{Q:ET}(hh:A.handled=none)(aB:A.depth<recursionLimit)(lim:B.heap.NoLimit)
  (r:Rel { B with gens:=gn } (hp.set genv.locals (.ns m)) s)(le:ImmLe h0 s.heap)(hI:hp I=some (.obj go))(hIL:I≠genv.locals)(hgo:∀h:Heap,h.get? I=some go->h.IsGen I g)(hg:gn[g]?=some (.fresh (.func body genv)))(hgB:g<gn.size)
  (hbody:∀S,hp S=none->S≠genv.locals->GS PW W0 A.in1.in1.in1 (BG B gn g .running) genv h0 (lcon (Hp.set (λ_=>none) I (.obj go)) S genv.locals) (F S) n (.func body genv) [] Kf (Hf genv) body m (hp.set S (.list [])))
  (hQ:∀S s' ah,hp S=none->S≠genv.locals->Rel (BG B gn g .finished) ah s'->ImmLe h0 s'.heap->F S ah->Q (.ref S) s'):wpAny Md A (call (.type "list") [.ref I]) Q E s:=by
 show callType_codes (Q₁:=λobj ar=>obj = .ref s.heap.objs.size/\ar={ s with heap:=s.heap.push { cls:=.type "list",data:=.seq #[] } }) PySem.F.called_list (PySem.F.typeCall_list_1 _) PySem.F.entry_list_init (code_list_new _ ⟨rfl,rfl⟩) λobj ar h₁=>?_;obtain⟨rfl,rfl⟩:=h₁;have hS:(s.heap.push { cls:=.type "list",data:=.seq #[] }).get? s.heap.objs.size=some { cls:=.type "list",data:=.seq #[] }:=AI _ rfl;have x:=Rel.newAt r { cls:=.type "list",data:=.seq #[] } (.list []) (a8 (#[]) 0 hS (by rfl));have hIS:=Ah (Ag hI x.2.1);show⟨aM _ hS rfl,PySem.F.args_list_init_2 _ _,Nb (A:=A.in1) (s:={ s with heap:=s.heap.push { cls:=.type "list",data:=.seq #[] } }) hS (hgo _ (AX _ (r.objs I (.obj go) (Ab hIL hI)).2.1)) hIS λh' c' hs' hS'=>?_⟩;have t:=Rel.turn x.1 (a:=s.heap.objs.size) (o:=.list []) (Ab x.2.2.1 (Ad ..)) hs' (.list []) (λ_=>a8 (#[]) c' hS' (by rfl)) s.toks;rw[A8 _ _ _ (Ah x.2.2.1),Ch]at t
 show Na (A:=A.in1) (gn:=gn) (F:=F s.heap.objs.size) (hk:=Hp.set (λ_=>none) I (.obj go)) (L:=genv.locals) (S:=s.heap.objs.size) (go:=go) hh aB lim (Ad ..) hgo hIL (by show(Al _ _ hIS)) hgB (λs' ah r' le' q=>⟨rfl,hQ _ s' ah x.2.1 x.2.2.1 r' le' q⟩) n _ (hp.set s.heap.objs.size (.list [])) m [] (.fresh (.func body genv)) (t.1.toBG hg) ((le.trans x.2.2.2).trans t.2) (Ad ..) x.2.2.1 (λz oz hz=>by
  by_cases hzI:z=I
  .clear hbody hgo hIL;subst hzI;rw[Ad]at hz;rw[Al _ _ (Ah hIS),hI];show hz
  .rw [Al _ _ hzI]at hz;cases hz) ?_
 intro s' r' le';show⟨rfl,seg_func (hbody _ x.2.1 x.2.2.1 s' s' r' le')⟩
theorem Gk {a:Int}(hh:A.handled=none)(h:Q (.int (if b>a then b else a)) hp):↥CL (.builtin "max") m [.int a,.int b] hp Q:=λs vs r hv=>by show aN (C3 hv) λv u zz1 h1 h2=>?_;subst zz1;simp only[VR]at h1 h2;clear hv;obtain⟨t,rfl⟩:=h1;obtain⟨t',rfl⟩:=h2;show PySem.max_two_ints hh λh' tk k=>?_;show aU (r.grown k tk) λr' le=>?_;show mkV r' le (?_) h;split <;> show VR_int
theorem Gl {a:Int}(hh:A.handled=none)(h:Q (.int (if b<a then b else a)) hp):↥CL (.builtin "min") m [.int a,.int b] hp Q:=λs vs r hv=>by show aN (C3 hv) λv u zz1 h1 h2=>?_;subst zz1;simp only[VR]at h1 h2;clear hv;obtain⟨t,rfl⟩:=h1;obtain⟨t',rfl⟩:=h2;show PySem.min_two_ints hh λh' tk k=>?_;show aU (r.grown k tk) λr' le=>?_;show mkV r' le (?_) h;split <;> show VR_int
theorem Nf{t:Tok}{v:Value}{Q:Unit->Shared->Prop}(hl:IsL s.heap l items n)(h0 : 0<=k)(hj:k<items.size)(hfit:k<2 ^ 63)
  (hQ:Q ⟨⟩ { s with heap:=s.heap.update l (Obj.mapSeq (·.setIfInBounds k.toNat v)) }):wpAny Md A (setItem (.ref l) (.int k t) v) Q E s:=by
 have hl':=hl.isList;show wpAny_holding ?_;show wB (wpAny_sequenceKey hl'.typeIs ∅ ?_);show wB (wpAny_callSpecial?_slot (name:=Str.ofString "__setitem__") hl'.typeIs slot_list_setitem (wpAny_call_entry slot_list_setitem hl'.typeIs entry_list_setitem ?_ (args_list_setitem _ _ _)));change wpAny _ _ (Builtin.List.listSubscript? (.int k t) >>= _) _ _ s;show wB (wpAny_listSubscript_int (fitsIndex_of h0 hfit) ?_);clear hfit;obtain⟨j,rfl⟩:=BD h0;have hj':j<items.size:=by(show Bf () ())
 show wB (wB (wpAny_seqItemAt (hl:s.heap.get? l=some _) rfl (wP ?_)));show(F6 hj')▸?_;show wB (wpAny_setSeqItemAt (hl:s.heap.get? l=some _) rfl ?_);show wP (aM .none rfl (wP hQ))
theorem Ng{t:Tok}{v:Value}{Q:Unit->Shared->Prop}(hl:IsL s.heap l items n)(hj : 0<items.size)
  (hQ:Q ⟨⟩ { s with heap:=s.heap.update l (Obj.mapSeq (·.setIfInBounds (items.size-1) v)) }):wpAny Md A (setItem (.ref l) (.int (-1) t) v) Q E s:=by
 have hl':=hl.isList;show wpAny_holding ?_;show wB (wpAny_sequenceKey hl'.typeIs ∅ ?_);show wB (wpAny_callSpecial?_slot (name:=Str.ofString "__setitem__") hl'.typeIs slot_list_setitem (wpAny_call_entry slot_list_setitem hl'.typeIs entry_list_setitem ?_ (args_list_setitem _ _ _)));change wpAny _ _ (Builtin.List.listSubscript? (.int (-1) t) >>= _) _ _ s;show wB (wpAny_listSubscript_int (fitsIndex_neg ∅ ∅) ?_);have hidx:seqIndex? (-1) items.size=some (items.size-1):=by rw[seqIndex_neg ∅ (by lia)];congr 1;(show F10 0x786681a73604103a 0x1000110100100011101011010101001011011001 rfl)
 show wB (wB ?_);show wB (wpAny_seqItems (hl:s.heap.get? l=some _) rfl (wP (wP ?_)));rw[hidx];simp only[F5,(F6 (Cw ())),F8];show wB (wpAny_setSeqItemAt (hl:s.heap.get? l=some _) rfl ?_);show wP ⟨.none,rfl,wP hQ⟩
theorem VRs.set:∀{xs:List AV}{vs:List Value}{i:Nat}{x:AV}{v:Value},VRs h xs vs->VR h x v->VRs h (xs.set i x) (vs.set i v):=by
 intro r_;induction r_ with
 | nil=>intro _ _ _ _ e _;subst e;rfl
 | cons y xs ih=>
  intro vs i x v e hx;show aN e λu r zz1 e2 e3=>?_;clear e;subst zz1;cases i with
  | zero=>show aT v r rfl hx e3
  | succ i=>show aT u _ rfl e2 (ih e3 hx)
theorem HC {i:Expr}{pos}{Q:Loc->Hp->Prop}
  (h:↥EV o m hp λov ak=>↥EV i m ak λiv ae=>∃a xs k,ov = .ref a/\iv = .int k/\ae a=some (.list xs)/\a≠aa.locals/\((k = -1/\0<xs.length)\/(0<=k/\k<xs.length/\k<2 ^ 63))/\Q m (ae.set a (.list (stored xs k v)))):↥ASG (.Subscript o i pos) v m hp Q:=λs u r hu=>by
 show wB (wpAny_holding (h.use r λov ar av ak au aq hov q=>wB (wpAny_holding (q.use au λiv ax bv ae ay aw hiv x=>wB (wpAny_standAt (wB (wpAny_holding ?_)))))));x_go;clear q;show bo x λa xs k zz1 zz2 ha haL hk q=>?_;clear x;subst zz1;subst zz2;subst hov;obtain⟨t,rfl⟩:=hiv;show aY (ay.at ha haL) λvs n hl hvs=>?_;z_go;have hsz:vs.size=xs.length:=by rw[<-A7];show hvs.length
 have fin:∀j lst,stored xs k v=xs.set j v->wpAny Md A (release lst []) (PA B aa.locals s.heap Q) E { ax with heap:=ax.heap.update a (Obj.mapSeq (·.setIfInBounds j u)) }:=λj lst hj=>by
  have tt:=ay.turn (a:=a) (Ab haL ha) (h':=ax.heap.update a (Obj.mapSeq (·.setIfInBounds j u))) (B2 ..) (.list (stored xs k v))
   (λle=>a8 _ _ (EW hl (·.setIfInBounds j u)) (by rw[hj,Array.toList_setIfInBounds];show VRs.set (hvs.mono le) ((hu.mono (aq.trans aw)).mono le))) ax.toks
  rw[A8 _ _ _ (Ah haL)]at tt;show wpAny_release ⟨m,_,tt.1,(aq.trans aw).trans tt.2,q⟩
 rcases hk with⟨rfl,hpos⟩ | ⟨h0,hlt,hfit⟩
 .refine Ng hl (F20 0x7044804408760 4368 rfl hsz hpos) ?_;show hsz▸?_;show fin _ _ (by unfold stored;show(if_pos rfl))
 .refine Nf hl h0 (by rw[hsz];show hlt) hfit (fin _ _ ?_);unfold stored;rw[if_neg ⇑(F01 0x604179270480 17 rfl h0)]
theorem HD {i:Expr}{pos' pos}{Q:QX}
  (h:↥EV value m hp λv ak=>↥ASG (.Subscript o i pos') v m ak λao ae=>Q .next ao ae)
  (hs:autoParam (swapsWith value (some (.Subscript o i pos')) pos.line aa=pure false) rB):↥EX (.Assign [.Subscript o i pos'] value pos) m hp Q:=λs r=>by
 rw[exec_Assign_Subscript o i pos' value pos hs];show wB (wpAny_standAt (wB (h.use r λu ar v ak au aq hu q=>wB ?_)));show useA (q ar u au hu) λ_ ax ao ae ay aw q=>wP (mkX (af:=.next) ay (aq.trans aw) rfl q)
theorem Jc{K:Flow->Sem PySem.Fin}{H:Value->Sem PySem.Fin}{st:Stmt}(Mid:Loc->Hp->Prop)(h1:EX Md (A.over c fs) (λ_ _=>False) B aa st m hp λf m' ah=>f = .next/\Mid m' ah)(h2:∀m' ah,Mid m' ah->GS PW W0 A B aa h0 Cn F n c fs K H aC m' ah) :
  GS PW W0 A B aa h0 Cn F n c fs K H (st::aC) m hp:=CZ (h1.mono λf m' ah q65=>q65.elim λe x=>by clear q65;subst e;show h2 m' ah x)
theorem Ea {Q:Bool->Hp->Prop}(h:Q true hp):↥TSTs [] m hp Q:=λs r=>wpAny_tests_nil ⟨hp,r,.refl _,h⟩
theorem Gm {c:Expr}{Q:Bool->Hp->Prop}(h:↥TST c m hp Q):↥TSTs [c] m hp Q:=λs r=>wpAny_tests_one (h s r)
theorem bndOb_notImm {id:String}:¬Imm (AY id a):=by rintro⟨_,_,_,e⟩;cases e
theorem Jd:entryFor table "method_descriptor.__get__" = some Builtin.«method_descriptor.__get__»:=entryFor_of_tree ∅
theorem mdg_slot:Slot "method_descriptor" "__get__" "method_descriptor.__get__" :=
 .of (owner := "method_descriptor") (n := "__get__") (by rw[typeLookup_type,builtinLookup_eq_fast];kernel_rfl) (by decide +kernel) (by decide +kernel) (by decide +kernel)
  (by first | show .inl (by decide +kernel) | show .inr (by decide +kernel)) (by rw[isSubtype_type];kernel_rfl)
theorem Je (a b c:Value):argsOk "method_descriptor.__get__" ⟨[a,b,c],[]⟩:=by unfold argsOk;kernel_rfl
theorem Nh:typeLookup (.type "method_descriptor") (PySem.Str.ofString "__set__")=pure none:=by rw[typeLookup_type,builtinLookup_eq_fast];kernel_rfl
theorem Ni:typeLookup (.type "method_descriptor") (PySem.Str.ofString "__delete__")=pure none:=by rw[typeLookup_type,builtinLookup_eq_fast];kernel_rfl
theorem Nj{id:String}{o:Obj}{Q:Builtin.ObjectAttr.Found->Shared->Prop}(b:BndOk T name id gid)(ho:s.heap.get? a=some o)(hc:o.cls = .type T)(hd:o.dict=none)(hn:∀c,o.data≠.cls c)
  (h:Q (.bind (.builtin "method_descriptor.__get__") (.builtin id)) s):wpAny Md A (Builtin.ObjectAttr.find (.ref a) (.type T) name) Q E s:=by
 show wB (wpAny_of_eq b.slot.lookup (wB ?_));show wB (wpAny_of_eq b.ty (wpAny_of_eq mdg_slot.lookup ?_));show wB ?_;show wB ?_;delta Builtin.ObjectAttr.takesStores specialOf;show wB (wB (wpAny_of_eq b.ty (wpAny_of_eq Nh ?_)));show wB (wB (wpAny_of_eq b.ty (wpAny_of_eq Ni ?_)));show wP ?_;show wP ?_;show wB ?_;show wB ?_;delta Builtin.ObjectAttr.ownDict loadHead;show wB (wpAny_loadPart ho ?_);have hin:wpAny Md A (instanceDict a false) (λd s'=>d=none/\s'=s) E s:=by unfold instanceDict;show wB (wpAny_loadPart ho ?_);rw[hc,hd];show wP ⟨rfl,rfl⟩
 have fin:wpAny Md A (Builtin.ObjectAttr.inDict name none) (λr s'=>wpAny Md A (match r with | some v=>(do rule "getattr.instance-dict";pure (.value v)) | none=>(do Builtin.ObjectAttr.copiedAttributeGuard name (.ref a);Builtin.ObjectAttr.byTheClass (some (.builtin id)) (some (.builtin "method_descriptor.__get__")))) Q E s') E s:=by show wP ?_;show wB ?_;unfold Builtin.ObjectAttr.copiedAttributeGuard;rw[b.plainName];show wP ?_;show wB (wpAny_rule (wP h))
 have post:∀d s',d=none/\s'=s->wpAny Md A (Builtin.ObjectAttr.inDict name d) (λr s'=>wpAny Md A (match r with | some v=>(do rule "getattr.instance-dict";pure (.value v)) | none=>(do Builtin.ObjectAttr.copiedAttributeGuard name (.ref a);Builtin.ObjectAttr.byTheClass (some (.builtin id)) (some (.builtin "method_descriptor.__get__")))) Q E s') E s':=by clear hin h ho;rintro d s' ⟨rfl,rfl⟩;show fin
 obtain⟨oc,od,odt,osl⟩:=o;clear hd hc ho;cases odt with
 | cls c=>show absurd rfl (hn c)
 | _=>show wpAny_mono hin post λ_ _ x=>x
theorem Jf{id:String}{o:Obj}{Q:ET}(b:BndOk T name id gid)(ho:s.heap.get? a=some o)(hc:o.cls = .type T)(hd:o.dict=none)(hn:∀c,o.data≠.cls c)
  (hck:∀{s:Shared}{o:Obj}{Q:ET},s.heap.get? a=some o->o.cls = .type T->Q (.ref s.heap.objs.size) { s with heap:=s.heap.push (AY id a) }->wpAny Md A.in1 (call (.builtin "method_descriptor.__get__") [.builtin id,.ref a,.type T]) Q (λ_ _=>False) s)
  (h:Q (.ref s.heap.objs.size) { s with heap:=s.heap.push (AY id a),toks:=s.toks+1 }):wpAny Md A (getAttr (.ref a) name true) Q E s:=by
 show wB (wpAny_mkText ?_);have hT:({ s with toks:=s.toks+1 }:Shared).TypeIs (.ref a) T:=aM o ho hc;show wpAny_holding (wB (wpAny_typeOf hT (wB (wpAny_of_eq b.ga.lookup ?_))));delta getAttrByItsOwn hookBefore;show wB (wP (wB (wpAny_attempt (wpAny_holding ?_))));show wB (wpAny_of_eq (b.ga.bind _) ?_);show wpAny_call_entry b.ga hT b.ge ?_ (b.gargs _ _);show wB (wpAny_of_eq (a:=(.ref a,[.str name s.toks])) rfl ?_);show wB (wpAny_of_eq (a:=name) rfl (wB (wpAny_typeOf hT (wB (Nj (s:={ s with toks:=s.toks+1 }) b ho hc hd hn ?_)))));show wB (wpAny_holding (wpAny_mono (hck (s:={ s with toks:=s.toks+1 }) ho hc (Q:=λv s'=>v = .ref s.heap.objs.size/\s'={ s with heap:=s.heap.push (AY id a),toks:=s.toks+1 }) ⟨rfl,rfl⟩) (λv s' x=>?_) λ_ _ x=>x.elim));obtain⟨rfl,rfl⟩:=x;show wP (aM _ rfl (?_));show wP h
theorem Nk{o:Obj}{Q:ET}(ho:s.heap.get? a=some o)(hc:o.cls = .type "dict")(h:Q (.ref s.heap.objs.size) { s with heap:=s.heap.push (AY "dict.get" a) }) :
  wpAny Md A (call (.builtin "method_descriptor.__get__") [.builtin "dict.get",.ref a,.type "dict"]) Q E s:=by
 have hty:typeOf (.builtin "dict.get")=pure (.type "method_descriptor"):=by change builtinType _=_;kernel_rfl
 show wpAny_call_entry mdg_slot hty Jd ?_ (Je _ _ _);show wB (wpAny_of_eq (a:=(.builtin "dict.get",some (.ref a),some (.type "dict"))) (by first | rfl | kernel_rfl) ?_);show wB (m:=_) ?_;show wB (wpAny_of_eq (a:=(PySem.Str.ofString "get",.type "dict")) (by first | rfl | kernel_rfl) ?_);show wB (wpAny_isInstance (T := "dict") (b:=true) (aM o ho hc) (by rw[isSubtype_type];kernel_rfl) ?_);show wP ?_;show wB (wpAny_newObj_type (wP (aM _ rfl h)))
theorem Nl:BndOk "dict" (PySem.Str.ofString "get") "dict.get" "dict.__getattribute__" where
 gn:=by decide +kernel
 ge:=entryFor_alias (id' := "object.__getattribute__") ∅ rfl (by decide +kernel) ∅
 gargs:=λ_ _=>by unfold argsOk;kernel_rfl
 slot:=.of (owner := "dict") (n := "get") (by rw[typeLookup_type,builtinLookup_eq_fast];kernel_rfl) (by decide +kernel) (by decide +kernel) (by decide +kernel)
  (by first | show .inl (by decide +kernel) | show .inr (by decide +kernel)) (by rw[isSubtype_type];kernel_rfl)
 ty:=by change builtinType _=_;rw[builtinType_eq_fast];kernel_rfl
 ga:=.of (owner := "dict") (n := "__getattribute__") (by rw[typeLookup_type,builtinLookup_eq_fast];kernel_rfl) (by decide +kernel) (by decide +kernel) (by decide +kernel)
  (by first | show .inl (by decide +kernel) | show .inr (by decide +kernel)) (by rw[isSubtype_type];kernel_rfl)
 hook:=by rw[typeLookup_type,builtinLookup_eq_fast];kernel_rfl
 plainName:=by decide +kernel
 told:=by decide +kernel
theorem Nm{o:Obj}{Q:ET}(ho:s.heap.get? a=some o)(hc:o.cls = .type "set")(h:Q (.ref s.heap.objs.size) { s with heap:=s.heap.push (AY "set.__contains__" a) }) :
  wpAny Md A (call (.builtin "method_descriptor.__get__") [.builtin "set.__contains__",.ref a,.type "set"]) Q E s:=by
 have hty:typeOf (.builtin "set.__contains__")=pure (.type "method_descriptor"):=by change builtinType _=_;kernel_rfl
 show wpAny_call_entry mdg_slot hty Jd ?_ (Je _ _ _);show wB (wpAny_of_eq (a:=(.builtin "set.__contains__",some (.ref a),some (.type "set"))) (by first | rfl | kernel_rfl) ?_);show wB (m:=_) ?_;show wB (wpAny_of_eq (a:=(PySem.Str.ofString "__contains__",.type "set")) (by first | rfl | kernel_rfl) ?_);show wB (wpAny_isInstance (T := "set") (b:=true) (aM o ho hc) (by rw[isSubtype_type];kernel_rfl) ?_);show wP ?_;show wB (wpAny_newObj_type (wP (aM _ rfl h)))
theorem Nn:BndOk "set" (PySem.Str.ofString "__contains__") "set.__contains__" "set.__getattribute__" where
 gn:=by decide +kernel
 ge:=entryFor_alias (id' := "object.__getattribute__") ∅ rfl (by decide +kernel) ∅
 gargs:=λ_ _=>by unfold argsOk;kernel_rfl
 slot:=.of (owner := "set") (n := "__contains__") (by rw[typeLookup_type,builtinLookup_eq_fast];kernel_rfl) (by decide +kernel) (by decide +kernel) (by decide +kernel)
  (by first | show .inl (by decide +kernel) | show .inr (by decide +kernel)) (by rw[isSubtype_type];kernel_rfl)
 ty:=by change builtinType _=_;kernel_rfl
 ga:=.of (owner := "set") (n := "__getattribute__") (by rw[typeLookup_type,builtinLookup_eq_fast];kernel_rfl) (by decide +kernel) (by decide +kernel) (by decide +kernel)
  (by first | show .inl (by decide +kernel) | show .inr (by decide +kernel)) (by rw[isSubtype_type];kernel_rfl)
 hook:=by rw[typeLookup_type,builtinLookup_eq_fast];kernel_rfl
 plainName:=by decide +kernel
 told:=by decide +kernel
theorem IPairs.pairs:∀{es:List DictEntry}{ps:List (Int×Value)},IPairs es ps->Pairs (intKind PW W0) es ps:=by
 intro r_;induction r_ with
 | nil=>intro ps h;simp only[IPairs]at h;subst h;show .nil
 | cons e es ih=>intro ps h;simp only[IPairs]at h;show bG h λkv r zz1 h1 h2 h3=>?_;clear h;subst zz1;show .cons h1 h2 (ih h3)
theorem IPairs.of {es:List DictEntry}(h:Pairs (intKind PW W0) es ps):IPairs es ps:=by
 induction h with
 | nil=>rfl
 | cons h1 h2 _ ih=>simp only[IPairs];show aQ _ _ rfl h1 h2 ih
theorem IDict.of (x:h.DictOf (intKind PW W0) a ps):IDict h a ps:=
 x.imp λ_=>.imp λ_=>.imp λ_=>.imp_right (.imp_right (.imp_right (.imp_right (.imp_left IPairs.of))))
theorem IDict.dictOf (x:IDict h a ps)(_:Program)(_:World):h.DictOf (intKind PW W0) a ps:=
 x.imp λ_=>.imp λ_=>.imp λ_=>.imp_right (.imp_right (.imp_right (.imp_right (.imp_left (·.pairs)))))
theorem KVR.mono (le:ImmLe h h')(x:KVR h kvs ps):KVR h' kvs ps:=⟨x.1,x.2.mono le⟩
theorem KVR.length (x:KVR h kvs ps):ps.length=kvs.length:=by simpa using (congrArg List.length x.1)
theorem KVR.cons (x:KVR h ((k,v)::kvs) ps):∃u r,ps=(k,u)::r/\VR h v u/\KVR h kvs r:=by
 x_go;obtain⟨h1,h2⟩:=x;z_go;cases ps with
 | nil=>injection h1
 | cons p r=>
  x_go;obtain⟨k',u⟩:=p;simp only[A1,Eh,VRs]at h1 h2;show aN h2 λu' r' zz1 h3 h4=>?_;show aU zz1 λzz2 zz3=>?_;clear zz1;subst zz2;subst zz3;obtain⟨rfl,h5⟩:=h1;apply Z;show aT _ _ rfl h3 ⟨h5,h4⟩
theorem Gn (hv:VR h v u)(x:KVR h kvs ps):KVR h ((k,v)::kvs) ((k,u)::ps):=
 ⟨by show congrArg _ x.1,by simp only[A1,VRs];show aT _ _ rfl hv x.2⟩
theorem KVR.get:∀{kvs:List (Int×AV)}{ps:List (Int×Value)},KVR h kvs ps->(∀v,dget kvs k=some v->∃u,valueAt ps k=some u/\VR h v u)/\(dget kvs k=none->valueAt ps k=none):=by
 intro r_
 induction r_ with
 | nil=>
  intro ps x;have:ps=[]:=by have:=x.length;show DH.mp this
  clear x;subst this;show⟨λv e=>by injection e,λ_=>rfl⟩
 | cons kv_ kvs ih=>
  obtain⟨k',v'⟩:=kv_;intro ps x;x_go;show aN x.cons λu r zz1 hv x'=>?_;subst zz1;apply Z;have ih:=ih x';by_cases e:k'=k
  .simp only[dget,valueAt,F9,e,decide_true,if_true,F8,Eg]at ih ⊢;show⟨λv hv'=>⟨u,rfl,hv'▸hv⟩,λh=>by cases h⟩
  .simp only[dget,valueAt,F9,e,decide_false]at ih ⊢;show ih
theorem KVR.any:∀{kvs:List (Int×AV)}{ps:List (Int×Value)},KVR h kvs ps->(ps.any λkv=>decide (kv.1=k))=(kvs.any λkv=>decide (kv.1=k)):=by
 intro r_;induction r_ with
 | nil=>
  intro ps x
  have:ps=[]:=by have:=x.length;show DH.mp this
  clear x;subst this;rfl
 | cons kv_ kvs ih=>obtain⟨k',v'⟩:=kv_;intro ps x;show aN x.cons λu r zz1 hv x'=>?_;subst zz1;simp only[List.any_cons,ih x']
theorem KVR.append (hv:VR h v u):∀{kvs:List (Int×AV)}{ps:List (Int×Value)},KVR h kvs ps->KVR h (kvs++[(k,v)]) (ps++[(k,u)]):=by
 intro r_
 induction r_ with
 | nil=>
  intro ps x;have:ps=[]:=by have:=x.length;show DH.mp this
  clear x;subst this;show Gn hv ⟨rfl,by rfl⟩
 | cons kv_ kvs ih=>
  obtain⟨k',v'⟩:=kv_;intro ps x;show aN x.cons λu r zz1 hv' x'=>?_;subst zz1;show Gn hv' (ih x')
theorem KVR.map (hv:VR h v u):∀{kvs:List (Int×AV)}{ps:List (Int×Value)},KVR h kvs ps ->
  KVR h (kvs.map λkv=>if kv.1=k then(kv.1,v) else kv) (ps.map λkv=>if kv.1=k then(kv.1,u) else kv):=by
 intro r_
 induction r_ with
 | nil=>
  intro ps x;have:ps=[]:=by have:=x.length;show DH.mp this
  clear x;subst this;show⟨rfl,by rfl⟩
 | cons kv_ kvs ih=>
  obtain⟨k',v'⟩:=kv_;intro ps x;x_go;show aN x.cons λu r zz1 hv' x'=>?_;subst zz1;apply Z;simp only[A1];by_cases e:k'=k
  .simp only[e,if_true];show Gn hv (ih x')
  .simp only[e,if_false];show Gn hv' (ih x')
theorem KVR.put (hv:VR h v u)(x:KVR h kvs ps):KVR h (dput kvs k v) (PySem.stored ps k u):=by
 delta dput PySem.stored;rw[x.any];split
 .exact x.map hv
 .exact x.append hv
theorem No{key dflt:Value}{Q:ET}(hkey:Value.isInt k key=true)(hm:s.heap.DictOf (intKind PW W0) d ps)
  (hthere:∀v,valueAt ps k=some v->Q v { s with toks:=s.toks+1 })
  (hnew:valueAt ps k=none->∀h',h'.DictOf (intKind PW W0) d (ps++[(k,dflt)])->Heap.SameBut d s.heap h'->Q dflt { s with heap:=h',toks:=s.toks+1 })
  (hz:ps.length<=sizeLine) :
  wpAny Md A (dictSetDefault d key dflt) Q E s:=by
 x_go;show bo hm λo es ep ho hc hd hk hp hn=>?_;apply Z;have hkey':=hkey;have hes:es.size<=sizeLine:=by
  show F40 0x8a5a96079608750 1114129 rfl hz hp.length (by rfl:es.toList.length=es.size)
 show wpAny_holding ?_;show wB ((intKind PW W0).pyHash hkey' ?_);show wB (wpAny_dictFind_of (s:={ s with toks:=s.toks+1 }) hkey' ho hd hk ?_);have hidx:(es.findIdx? λe=>(intKind PW W0).is k e.key)=ps.findIdx? λkv=>decide (kv.1=k):=by rw[<-hp.findIdx k];obtain⟨l⟩:=es;simp
 cases hi:es.findIdx? λe=>(intKind PW W0).is k e.key with
 | some i=>
  x_go;have hl:(es.toList.findIdx? λe=>(intKind PW W0).is k e.key)=some i:=by show .trans ?_ hi;obtain⟨l⟩:=es;simp
  show aS (hp.at hl) λe he hek hev=>?_;apply Z;show wB (wpAny_dictEntries (s:={ s with toks:=s.toks+1 }) ho hd ?_);have he':es[i]?=some e:=by rw[<-he];obtain⟨l⟩:=es;simp
  rw[he'];show wB (wpAny_rule (wP (hthere e.val hev)))
 | none=>
  have hnot:=not_mem_of_findIdx_none (hidx▸hi);have hfk:valueAt ps k=none:=by unfold valueAt;rw[GW.mpr];rfl;intro x hx;simp only[decide_eq_true_eq];show λe=>hnot (Bk.mpr (aM x hx e))
  show wB (wpAny_rule (wB (wpAny_updateDictKeys (hz:=hes) (s:={ s with toks:=s.toks+1 }) ho hd (wP (hnew hfk _ (bx _ _ (ep+1) (De _ ho (Obj.isFreed_of_dict (Obj.data_mapDictKeys hd _))) (hc.mapDictKeys _) (Obj.data_mapDictKeys hd _) (hk.push hkey' _) (?_) (?_)) (B2 ..))))))
  .obtain ⟨l⟩:=es
   simpa using (hp.append hkey' ((intKind PW W0).hash k) dflt)
  .rw [A2,DN];show aP hn (by simp) (?_);intro a ha b hb;simp only[A1,CP,Ay]at hb;clear hfk hi hidx hkey' hnew hthere;subst hb;show λe=>hnot (e▸ha)
theorem Gnd.big{K:Frag}(G:Gnd K B) : 3<B.heap.objs.size:=by show aY G.top λmg mb h _=>?_;show h.lt
theorem Rel.notSys{K:Frag}(r:Rel B hp s)(G:Gnd K B){o:AO}(h:hp d=some o):(d == sysModules)=false:=by
 have h1:=(r.objs d o h).1;have:d≠sysModules:=λe=>by
  have h3:B.heap.objs.size<=1:=by rw[e]at h1;show h1
  show F10 0x3675073440 17 rfl G.big h3
 simpa using this
theorem Rel.dict (r:Rel B hp[m]! s)(h:hp d=some (.dict kvs))(hL:d≠aa.locals):∃ps,(∀(_:Program) (_:World),s.heap.DictOf (intKind PW W0) d ps)/\KVR s.heap kvs ps:=by x_go;show aS (r.at h hL) λps h1 h2 h3=>?_;z_go;show⟨ps,λPW W0=>h1.dictOf PW W0,h2,h3⟩
theorem Rel.putDict (r:Rel B hp[m]! s){kvs':List (Int×AV)}(h:hp d=some (.dict kvs))(hL:d≠aa.locals){ps':List (Int×Value)}(hd:h'.DictOf (intKind PW W0) d ps')(hs:Heap.SameBut d s.heap h')(hk:ImmLe s.heap h'->KVR h' kvs' ps')(t:Nat) :
  Rel B (hp.set d (.dict kvs'))[m]! { s with heap:=h',toks:=t }/\ImmLe s.heap h':=by
 have x:=r.turn (a:=d) (Ab hL h) hs (.dict kvs') (λle=>aO ps' (IDict.of hd) ((hk le).1) ((hk le).2)) t;rw[A8 _ _ _ (Ah hL)]at x;show x
theorem HE {pos}(h:∀a,hp a=none->a≠aa.locals->Q (.ref a) (hp.set a (.dict []))):↥EV (.Dict [] [] pos) m hp Q:=λs r=>by have n:=r.newAt { cls:=.type "dict",data:=.dict #[] } (.dict []) ⟨[],IDict.of (Heap.DictOf.new (knd:=intKind PW W0) s.heap),rfl,by rfl⟩;show wpAny_Dict_empty ⟨.ref _,_,n.1,n.2.2.2,VR_ref,h _ n.2.1 n.2.2.1⟩
theorem DC{v:Value}(hv:VR h (.int k) v):Value.isInt k v=true:=by simp only[VR]at hv;obtain⟨t,rfl⟩:=hv;simp[Value.isInt]
theorem Np{x:AV}(hd:hp d=some (.dict kvs))(hL:d≠aa.locals)(hx:dget kvs k=some x)(h:Q x hp)
  (hs:∀u,subscripted slice false (.ref d) (.int k u)=operate [.ref d,.int k u] (getItem (.ref d) (.int k u)):=by intro _;with_unfolding_all rfl) :
  ↥SUB value slice m (.ref d) (.int k) hp Q:=λs u v r hu hv=>by
 simp only[VR]at hu;subst hu;have hki:=DC hv;simp only[VR]at hv;obtain⟨t,rfl⟩:=hv;show aK (r.dict hd hL) λps hD hK=>?_;show aK ((hK.get (k:=k)).1 x hx) λy hy hxy=>?_;show tail_any ((hD PW W0).typeIs (s:=s)) slot_dict_getitem.lookup (wpAny_getItem_of (knd:=intKind PW W0) (k:=k) hki (hD PW W0).mapOf hy ⟨x,hp,r.toks _,.refl _,hxy,h⟩) (hs _)
theorem Nq {i:Expr}{pos}{Q:Loc->Hp->Prop}
  (h:↥EV o m hp λov ak=>↥EV i m ak λiv ae=>∃d kvs k,ov = .ref d/\iv = .int k/\ae d=some (.dict kvs)/\d≠aa.locals/\kvs.length<=5000/\Q m (ae.set d (.dict (dput kvs k v)))):↥ASG (.Subscript o i pos) v m hp Q:=λs u r hu=>by
 show wB (wpAny_holding (h.use r λov ar av ak au aq hov q=>wB (wpAny_holding (q.use au λiv ax bv ae ay aw hiv x=>wB (wpAny_standAt (wB (wpAny_holding ?_)))))));x_go;clear q;show bo x λd kvs k zz1 zz2 hd hL az q=>?_;clear x;subst zz1;subst zz2;subst hov;show aK (ay.dict hd hL) λps hD hK=>?_;apply Z;show wpAny_setItem_pairs (knd:=intKind PW W0) (k:=k) (DC hiv) (hD PW W0) (λh' hD' hs'=>?_) (by rw[hK.length];have:=sizeLine_eq;(show Aj () ∅));have x:=ay.putDict (kvs':=dput kvs k v) hd hL hD' hs' (λle=>KVR.put ((hu.mono (aq.trans aw)).mono le) (hK.mono le)) (ax.toks+1);show wpAny_release ⟨m,_,x.1,(aq.trans aw).trans x.2,q⟩
theorem Jg{aC:List Expr}{id:String}{apos pos}{pl:Sem Bool}(slot:Slot T name id)(hty:typeOf (.builtin id)=pure (.type "method_descriptor"))(hpl:PlainAttrs T)
  (h:↥EV o m hp λl ak=>∃a,l = .ref a/\(∀s,Rel B ak[m]! s->∃ob,s.heap.get? a=some ob/\ob.cls = .type T/\ob.dict=none)/\↥EVS (e::aC) m ak λvs ae=>↥CL (.builtin id) m (.ref a::vs) ae Q)
  (hc:autoParam (eval (.Call (.Attribute o name apos) (e::aC) [] pos) aa=(do
   let ov <-eval o aa
   standAt apos.atName
   let (f,first) <-holding [ov] (getMethod ov name pl)
   callWith pos f first (backTo pos (starEach (e::aC) aa)) [])) rB)
  (he:autoParam (starEach (e::aC) aa=(false,eval e aa)::starEach aC aa) rB)(hplain:autoParam ((backTo pos (starEach aC aa)).any (·.1)=false) rB) :
  ↥EV (.Call (.Attribute o name apos) (e::aC) [] pos) m hp Q:=λs r=>by
 show MethodCall_ (pl:=pl) (h.use r λu ar l ak au aq hu x=>?_) hc;x_go;show aS x λa zz1 ht q=>?_;clear x;subst zz1;subst hu;show aS (ht ar au) λob ho hcl hdn=>?_;apply Z;show getMethod_builtin (aM ob ho hcl) hpl slot hty (λb e=>by cases e;show aM ob ho hdn) ?_;show callWith_method1 (BY (q pos ar au) λvs ax avs ae ay aw hv q=>?_) he hplain;show useV (q ax (.ref a::vs) ay (by simp only[VRs];show aT _ _ rfl VR_ref hv)) λv sX av hpX rX leX hv q=>mkV rX ((aq.trans aw).trans leX) hv q
theorem Jh (hd:hp d=some (.dict kvs))(hL:d≠aa.locals):∀s,Rel B hp[m]! s->∃ob,s.heap.get? d=some ob/\ob.cls = .type "dict" /\ ob.dict=none:=λs r=>by x_go;show aK (r.at hd hL) λps q81 _=>?_;show bX q81 λo es ep ho hc _=>?_;z_go;show aO o ho hc.1 hc.2.1
theorem Nt{K:Frag}(G:Gnd K B)(hd:hp d=some (.dict kvs))(hL:d≠aa.locals)(h:Q ((dget kvs k).getD dv) hp):↥CL (.builtin "dict.get") m [.ref d,.int k,dv] hp Q:=λs vs r hv=>by
 obtain⟨v,u,x,rfl,h1,h2,h3⟩:∃u v x,vs=[u,v,x]/\VR s.heap (.ref d) u/\VR s.heap (.int k) v/\VR s.heap dv x:=by simp only[VRs]at hv;show aN hv λv r zz1 h1 zz2=>?_;clear hv;subst zz1;show aN zz2 λu r' zz3 h2 zz4=>?_;clear zz2;subst zz3;show aN zz4 λz r'' zz5 h3 zz6=>?_;clear zz4;subst zz5;subst zz6;show bh _ _ _ rfl h1 h2 h3
 clear hv;subst h1;show aK (r.dict hd hL) λps hD hK=>?_;show call_meetsIn F.slot_dict_get (hD PW W0).typeIs F.entry_dict_get (F.args_dict_get_3 _ _ _) (meets_dict_get_default (intKind PW W0) d (k:=k) (DC h2) (r.notSys G (Ab hL hd)) x) (aM _ ((hD PW W0).mapOf) (?_));show mkV (r.toks _) (.refl _) (?_) h;have hg:=hK.get (k:=k);cases e:dget kvs k with
 | none=>rw[hg.2 e];show h3
 | some y=>show aK (hg.1 y e) λz hz hyz=>?_;rw[hz];show hyz
theorem Nu{K:Frag}(G:Gnd K B)(hd:hp d=some (.dict kvs))(hL:d≠aa.locals)(az:kvs.length<=5000)
  (h:Q ((dget kvs k).getD dv) (if (dget kvs k).isSome then hp else hp.set d (.dict (kvs++[(k,dv)])))):↥CL (.builtin "dict.setdefault") m [.ref d,.int k,dv] hp Q:=λs vs r hv=>by
 obtain⟨v,u,x,rfl,h1,h2,h3⟩:∃u v x,vs=[u,v,x]/\VR s.heap (.ref d) u/\VR s.heap (.int k) v/\VR s.heap dv x:=by simp only[VRs]at hv;show aN hv λv r zz1 h1 zz2=>?_;clear hv;subst zz1;show aN zz2 λu r' zz3 h2 zz4=>?_;clear zz2;subst zz3;show aN zz4 λz r'' zz5 h3 zz6=>?_;clear zz4;subst zz5;subst zz6;show bh _ _ _ rfl h1 h2 h3
 clear hv;subst h1;show aK (r.dict hd hL) λps hD hK=>?_;show wpAny_call_entry F.slot_dict_setdefault (hD PW W0).typeIs F.entry_dict_setdefault ?_ (F.args_dict_setdefault_3 _ _ _);show wB ?_;show wB (wpAny_notOrdered_dict (hD PW W0).typeIs ?_);show wP ?_;change wpAny _ _ (if (d == sysModules)=true then _ else(dictSetDefault d u x >>= _)) _ _ s;rw[if_neg (by rw[(r.notSys G (by rw[Al _ _ hL];show hd:hp[m]! d=some (.dict kvs)))];show EZ)];have hg:=hK.get (k:=k);show wB (No (k:=k) (DC h2) (hD PW W0) (λy hy=>?_) (λhn h' hD' hs'=>?_) (by rw[hK.length];have:=sizeLine_eq;(show Aj () ∅)))
 .refine wP (aM _ rfl (?_));cases e:dget kvs k with
  | none=>rw[hg.2 e]at hy;cases hy
  | some z=>
   show aK (hg.1 z e) λz' hz' hzz=>?_;rw[hz']at hy;cases hy;rw[e]at h;show mkV (r.toks _) (.refl _) hzz h
 .refine wP (aM _ rfl (?_));cases e:dget kvs k with
  | some z=>show aK (hg.1 z e) λz' hz' _=>?_;rw[hn]at hz';cases hz'
  | none=>
   rw[e]at h;have t:=r.putDict (kvs':=kvs++[(k,dv)]) hd hL hD' hs' (λle=>KVR.append (h3.mono le) (hK.mono le)) (s.toks+1);show mkV t.1 t.2 (h3.mono t.2) h
theorem Nv{K:Frag}(G:Gnd K B)(hd:hp d=some (.dict kvs))(hL:d≠aa.locals)(h:Q (.bool (dget kvs k).isSome) hp):↥OP2 (compareOp .In) m (.int k) (.ref d) hp Q:=λs u v r hu hv=>by
 subst hv;show aK (r.dict hd hL) λps hD hK=>?_;show wpAny_in_of (knd:=intKind PW W0) (k:=k) (DC hu) (r.notSys G (by rw[Al _ _ hL];show hd:hp[m]! d=some (.dict kvs))) (hD PW W0).mapOf ?_;show mkV (r.toks _) (.refl _) (?_) h;have hg:=hK.get (k:=k);have:(valueAt ps k).isSome=(dget kvs k).isSome:=by
  cases e:dget kvs k with
  | none=>rw[hg.2 e];rfl
  | some y=>show aK (hg.1 y e) λz hz _=>?_;rw[hz];rfl
 rw[this];show VR_bool
theorem Nw {pos}{id:String}(b:BndOk T name id gid)
  (hck:∀{A:Around}{a:Addr}{s:Shared}{o:Obj}{Q:ET},s.heap.get? a=some o->o.cls = .type T->Q (.ref s.heap.objs.size) { s with heap:=s.heap.push (AY id a) }->wpAny Md A (call (.builtin "method_descriptor.__get__") [.builtin id,.ref a,.type T]) Q (λ_ _=>False) s)
  (h:↥EV o m hp (Mr B aa m T id Q))
  (he:eval (.Attribute o name pos) aa=(do
   let ov <-eval o aa
   standAt pos.atName
   let r <-holding [ov] (getAttr ov name true)
   letTemporaryGo o ov r
   pure r):=by with_unfolding_all rfl)(ht:∀ov r,letTemporaryGo o ov r=pure Unit.unit:=by intro _ _;rfl) :
  ↥EV (.Attribute o name pos) m hp Q:=λs r=>by
 rw[he];show wB (h.use r λv ar av ak au aq hv x=>wB (wpAny_standAt (wB (wpAny_holding ?_))));x_go;show aS x λa zz1 hty q=>?_;clear x;subst zz1;subst hv;show a9 (hty ar au) λob ho hcl hdn hn=>?_;apply Z;show Jf b ho hcl hdn hn (λho hc h=>hck ho hc h) ?_;have n:=au.newAt (AY id a) (.obj (AY id a)) ⟨AI _ rfl,bndOb_notImm⟩;rw[ht];show wB (wP (wP (mkV (av:=.ref _) (n.1.toks _) (aq.trans n.2.2.2) VR_ref (q _ n.2.1 n.2.2.1))))
theorem Ji (hd:hp d=some (.dict kvs))(hL:d≠aa.locals):∀s,Rel B hp[m]! s->∃ob,s.heap.get? d=some ob/\ob.cls = .type "dict" /\ ob.dict=none/\∀c,ob.data≠.cls c:=λs r=>by x_go;show aK (r.at hd hL) λps q81 _=>?_;show bH q81 λo es ep ho hc hdt _=>?_;z_go;show aW o ho hc.1 hc.2.1 λc=>by rw[hdt];simp
theorem Jj{f:Int->Bool}(hd:hp d=some (.set f n))(hL:d≠aa.locals):∀s,Rel B hp[m]! s->∃ob,s.heap.get? d=some ob/\ob.cls = .type "set" /\ ob.dict=none/\∀c,ob.data≠.cls c:=λs r=>by x_go;show bZ (r.at hd hL) λo es ep t ho hc hdt _=>?_;z_go;show aW o ho hc.1 hc.2.1 λc=>by rw[hdt];simp
theorem Nx {M:Model}{u:Addr}{id:String}{args:List (Bool×Sem Value)}{Q:ET}(hplain:args.any (·.1)=false)
  (h:wpAny M A (evalArgs (.ref u) true args []) (λx ar=>ar.heap.get? u=some (AY id a)/\wpAny M A (call (.ref u) ([]++x.pos) x.kw) Q E ar) E s):wpAny M A (callWith pos (.ref u) [] args []) Q E s:=by
 show wB (wpAny_holding (wpAny_mono h (λx ar h₁=>wB (wpAny_standAt ?_)) λ_ _ x=>x));show aU h₁ λho hcall=>?_;simp -iota only[hplain,List.any_nil,GU];show wB (m:=keeperOf (.ref u)) ?_;show wB (wpAny_load ho ?_);show wP ?_;show wB (wpAny_mono hcall (λr ax hr=>wB (wpAny_holding (wpAny_point (wP hr)))) λ_ _ x=>x)
theorem Ny {M:Model}{u:Addr}{id:String}{aC:List Expr}{Q:ET}
  (h:wpAny M A (spliced (backTo pos (starEach (e::aC) aa))) (λvs ar=>ar.heap.get? u=some (AY id a)/\wpAny M A (call (.ref u) vs) Q E ar) E s)
  (he:starEach (e::aC) aa=(false,eval e aa)::starEach aC aa)(hplain:(backTo pos (starEach aC aa)).any (·.1)=false) :
  wpAny M A (callWith pos (.ref u) [] (backTo pos (starEach (e::aC) aa)) []) Q E s:=by
 rw[he]at h ⊢;show Nx (id:=id) (a:=a) (by change(false || (backTo pos (starEach aC aa)).any (·.1))=false;rw[hplain];rfl) ?_;show evalArgs_plain h
theorem Fm{aC:List Expr}{pos}{id:String}
  (h:↥EV aE m hp (Ms A E B aa m e aC id Q))
  (hc:autoParam (eval (.Call aE (e::aC) [] pos) aa=(do callWith pos (<-eval aE aa) [] (backTo pos (starEach (e::aC) aa)) (backToKw pos (keywordEach [] aa)))) rB)
  (he:autoParam (starEach (e::aC) aa=(false,eval e aa)::starEach aC aa) rB)(hplain:autoParam ((backTo pos (starEach aC aa)).any (·.1)=false) rB) :
  ↥EV (.Call aE (e::aC) [] pos) m hp Q:=λs r=>by
 show Call_ (h.use r λu ar v ak au aq hu x=>?_) hc;x_go;show aN x λb a zz1 hbL q=>?_;clear x;subst zz1;z_go;subst hu;show Ny (id:=id) (a:=a) (BY (q pos ar au) λvs ax avs ae ay aw hv ⟨hb,q⟩=>⟨(ay.at hb hbL).1,?_⟩) he hplain;show useV (q ax vs ay hv) λv sX av hpX rX leX hv q=>mkV rX ((aq.trans aw).trans leX) hv q
theorem Jk{x:Addr}{id:String}{bt:Builtin}{Q:ET}(ho:s.heap.get? x=some (AY id a))(hq:(Code.builtin id ⟨.ref a::vs,[]⟩).quiet=true)(he:entryFor table id=some bt)(hpl:plainId id=true)
  (hck:∀(Q:Unit->Shared->Prop) (E:ET) (A:Around),Q ⟨⟩ s->wpAny Md A (checkBoundCall id ⟨.ref a::vs,[]⟩) Q E s)
  (tree:wpAny Md A.in1 (bt ⟨.ref a::vs,[]⟩) (λfin s'=>∃v,fin = .done (.ret v)/\Q v s') E s):wpAny Md A (call (.ref x) vs) Q E s:=by
 show wpAny_call (codeAny_of_tree ?_);show wB (wpAny_load ho ?_);dsimp only[AY,(by decide:(Value.type "builtin_function_or_method" == Value.type "method" || Value.type "builtin_function_or_method" == Value.type "builtin_function_or_method" || Value.type "builtin_function_or_method" == Value.type "method-wrapper")=true),if_true];show KFB.if_so ∅ ?_;show wB (hck _ _ _ ?_);show wB (wP (wP ?_));show⟨hq,codeAny_builtin he ?_⟩;rw[GP hpl];show wpAny_mono tree (λfin s' yq=>?_) λ_ _ x=>x;show aK yq λv e q=>?_;subst e;show q
theorem Jl {A:Around}{E:ET}{s:Shared}{a:Addr}{T id:String}{o:Obj}{sig:Manifest.Signature}{vs:List Value}{Q:Unit->Shared->Prop}(ho:s.heap.get? a=some o)(hcl:o.cls = .type T)(hn:∀c,o.data≠.cls c)(hsig:Manifest.signature? id=some sig)(hk:builtinKind id=some .method)(hva:Manifest.varargsMethods.contains id=false)
  (hmod:isSubtype (.type T) (.type "module")=pure false)(hr:sig.receiver = .self)
  (hf:(toString (Bind.lastOf T)++toString "." ++ toString (Bind.lastOf id) != "*")=true)(hs:(sig.short != "*")=true)
  (hchk:∀full short f2,Bind.check { sig with full:=f2 } full short vs.length []=pure Unit.unit)(h:Q ⟨⟩ s):wpAny Md A (checkBoundCall id ⟨.ref a::vs,[]⟩) Q E s:=by
 have hT:s.TypeIs (.ref a) T:=aM o ho hcl;unfold checkBoundCall;simp only[hsig,hk];show wB (wpAny_isInstance hT hmod ?_);rw[hva];show wB ?_;delta isType loadHead;show wB (wpAny_loadPart ho (wP ?_));show KFB.if_not ?_ ?_
 .cases e:o.data with
  | cls c=>show absurd e (hn c)
  | _=>rfl
 show wB (wpAny_typeOf hT ?_);dsimp only;rw[hr]
 have fin:wpAny Md A (do
   let a1 <-Bind.printed (toString (Bind.lastOf T)++toString "." ++ toString (Bind.lastOf id)) true { sig with full:=toString (Bind.lastOf T)++toString "." ++ toString (Bind.lastOf id),receiver:=.self } (some (.ref a));let a2 <-Bind.printed sig.short false { sig with full:=toString (Bind.lastOf T)++toString "." ++ toString (Bind.lastOf id),receiver:=.self } (some (.ref a))
   (Bind.check { sig with full:=toString (Bind.lastOf T)++toString "." ++ toString (Bind.lastOf id),receiver:=.self } a1 a2 vs.length []).onRaise λ_=>do
    if (toString (Bind.lastOf T)++toString "." ++ toString (Bind.lastOf id)) == "*" || sig.short == "*" then
     if let some r:=some (Value.ref a) then discard <| typeName (<-Bind.receiverType { sig with full:=toString (Bind.lastOf T)++toString "." ++ toString (Bind.lastOf id),receiver:=.self } r)
    if <-Bind.nameInDoubt { sig with full:=toString (Bind.lastOf T)++toString "." ++ toString (Bind.lastOf id),receiver:=.self } (some (.ref a)) then unsupported "bind:dotted-class-name-under-the-short-mark") Q E s:=by
  show wB (printed_name hf (wB (printed_name hs ?_)));rw[(hchk (toString (Bind.lastOf T)++toString "." ++ toString (Bind.lastOf id)) sig.short (toString (Bind.lastOf T)++toString "." ++ toString (Bind.lastOf id)))];show wpAny_onRaise (wP h)
 cases hm:sig.machinery with
 | _=>rw[hm]at fin;show fin
theorem Nz {full short f2:String}:Bind.check ⟨.oneArg,f2, "__contains__",.self,[⟨"object",.posOnly,true⟩]⟩ full short 1 []=pure Unit.unit:=by rfl
theorem N0{K:Frag}{b:Addr}(G:Gnd K B)(hb:hp b=some (.obj (AY "dict.get" d)))(hbL:b≠aa.locals)(hd:hp d=some (.dict kvs))(hL:d≠aa.locals)(h:Q ((dget kvs k).getD dv) hp):↥CL (.ref b) m [.int k,dv] hp Q:=λs vs r hv=>by
 x_go;show aN (C3 hv) λv u zz1 h1 h2=>?_;subst zz1;show aK (r.dict hd hL) λps hD hK=>?_;show a9 (Ji (m:=m) hd hL s r) λob ho hcl hdn hn=>?_;apply Z;show Jk (r.at hb hbL).1 (GZ _ (by decide +kernel)) F.entry_dict_get (by decide +kernel) (λQ E A hq=>Jl (sig:=⟨.positional, "dict.get", "get",.self,[⟨"key",.posOnly,true⟩,⟨"default",.posOnly,false⟩]⟩) ho hcl hn ∅ ∅ (by decide +kernel) (by rw[isSubtype_type];kernel_rfl) rfl (by decide +kernel) (by decide +kernel) (λfull short f2=>by first | rfl | kernel_rfl) hq) ?_;change wpAny _ _ (dictGet d v >>= _) _ _ s;show wB (wpAny_dictGet_of (knd:=intKind PW W0) (k:=k) (DC h1) (hD PW W0).mapOf ?_);have hg:=hK.get (k:=k);cases e:dget kvs k with
 | none=>
  rw[e]at h;rw[hg.2 e];show wB (wpAny_missed_other (r.notSys G (by rw[Al _ _ hL];show hd:hp[m]! d=some (.dict kvs))) (wP ⟨u,rfl,dv,hp,r.toks _,.refl _,h2,h⟩))
 | some y=>
  x_go;rw[e]at h;show aK (hg.1 y e) λz hz hyz=>?_;apply Z;rw[hz];show wP ⟨z,rfl,y,hp,r.toks _,.refl _,hyz,h⟩
theorem N1{f:Int->Bool}(x:ISet h a f n):h.SetOf (intKind PW W0) a f n:=by x_go;show b8 x λo es ep t h1 h2 h3 h4 h5 h6 h7 h8=>?_;apply Z;show cf o es ep t h1 h2 h3 h4 h5 h6 h7 h8
theorem N2{f:Int->Bool}{v:Value}(hki:Value.isInt k v=true)(hsc:v.scannable=true)(hS:s.heap.SetOf (intKind PW W0) d f n)
  (h:P (.done (.ret (.bool (f k)))) { s with toks:=s.toks+1 }):wpAny Md A (Builtin.«frozenset.__contains__» ⟨[.ref d,v],[]⟩) P E s:=by
 delta Builtin.«frozenset.__contains__» Builtin.Frozenset.oneOther;simp only[I6,bind_assoc];delta Builtin.Frozenset.addrOf Builtin.Frozenset.withSetAsKey setContains;show wB (wP ?_)
 show wB (wP ?_)
 show wB (wpAny_tryCatch ?_);show wpAny_holding ?_;show wB ((intKind PW W0).pyHash (k:=k) hki ?_);show wB (wpAny_setFind_of (knd:=intKind PW W0) (k:=k) (s:={ s with toks:=s.toks+1 }) hki hsc hS λrr hr=>?_);show wP ?_;rw[hr];show wP h
theorem N3:Manifest.signature? "set.__contains__" = some ⟨.oneArg, "set.__contains__", "__contains__",.self,[⟨"object",.posOnly,true⟩]⟩:=by kernel_rfl
theorem N4:builtinKind "set.__contains__" = some .method:=by kernel_rfl
theorem N5:Manifest.varargsMethods.contains "set.__contains__" = false:=by decide +kernel
theorem N6:isSubtype (.type "set") (.type "module")=pure false:=by rw[isSubtype_type];kernel_rfl
theorem N7:(toString (Bind.lastOf "set")++toString "." ++ toString (Bind.lastOf "set.__contains__") != "*")=true:=by decide +kernel
theorem N8{o:Obj}{v:Value}{Q:Unit->Shared->Prop}(ho:s.heap.get? a=some o)(hcl:o.cls = .type "set")(hn:∀c,o.data≠.cls c)(h:Q ⟨⟩ s):wpAny Md A (checkBoundCall "set.__contains__" ⟨.ref a::[v],[]⟩) Q E s:=by
 show(@Jl A E s a "set" "set.__contains__" o ⟨.oneArg, "set.__contains__", "__contains__",.self,[⟨"object",.posOnly,true⟩]⟩ [v] Q ho hcl hn N3 N4 N5 N6 rfl N7 ∅ (λfull short f2=>Nz) h)
theorem Go {b:Addr}{f:Int->Bool}(hb:hp b=some (.obj (AY "set.__contains__" d)))(hbL:b≠aa.locals)(hd:hp d=some (.set f n))(hL:d≠aa.locals)(h:Q (.bool (f k)) hp):↥CL (.ref b) m [.int k] hp Q:=λs vs r hv=>by
 x_go;show aK (Cu hv) λv zz1 h1=>?_;subst zz1;have hsc:v.scannable=true:=by simp only[VR]at h1;clear Z hv;obtain⟨t,rfl⟩:=h1;rfl
 show a9 (Jj (m:=m) hd hL s r) λob ho hcl hdn hn=>?_;z_go;show Jk (r.at hb hbL).1 (GZ _ (by decide +kernel)) entry_set_contains (by decide +kernel) (λQ E A hq=>N8 ho hcl hn hq) ?_;show N2 (DC h1) hsc (N1 (r.at hd hL)) ⟨_,rfl,.bool (f k),hp,r.toks _,.refl _,VR_bool,h⟩
theorem Jm {pos}
  (h:↥EV aE m hp λf ak=>f = .ty "set" /\ ∀a,ak a=none->a≠aa.locals->Q (.ref a) (ak.set a (.set (λ_=>false) 0)))
  (hc:autoParam (eval (.Call aE [] [] pos) aa=(do callWith pos (<-eval aE aa) [] (backTo pos (starEach [] aa)) (backToKw pos (keywordEach [] aa)))) rB):↥EV (.Call aE [] [] pos) m hp Q:=λs r=>by
 show Call_ (h.use r λu ar f ak au aq hu yq=>?_) hc;obtain⟨hf,q⟩:=yq;subst hf;subst hu;show PyProof.Rows.callWith_type0 (call_set_0 λled=>?_);have n:=au.newAt { cls:=.type "set",dict:=none,data:=.set #[] 0 (.fresh 0 0 led) } (.set (λ_=>false) 0) ⟨_,#[],0,_,AI _ rfl,aP rfl rfl rfl,rfl,λe he=>by simp at he,λk=>by simp,by decide,by rfl,rfl⟩;show mkV (av:=.ref _) n.1 (aq.trans n.2.2.2) VR_ref (q _ n.2.1 n.2.2.1)
theorem Fn {pos}{Q:QX}(I:Nat->Loc->Hp->Prop)(n:Nat)(h0:I n m hp)
  (turn:∀n ao ae,I n ao ae->TST Md A (λ_ _=>False) B aa test ao ae λb hpX=>if b then EXs Md A (λ_ _=>False) B aa body ao hpX λfl mY hpY=>
    match fl with | .next | .cont=>∃n',n'<n/\I n' mY hpY | .brk=>Q .next mY hpY | .ret v=>Q (.ret v) mY hpY
   else Q .next ao hpX):↥EX (.While test body [] pos) m hp Q:=λs r=>by
 show wpAny_While ?_;show codeAny_whileLoop (λk s'=>∃ao ae,I k ao ae/\Rel B ae[ao]! s'/\ImmLe s.heap s'.heap) (λk s' x=>?_) n (aT m hp h0 r (.refl _));x_go;show aN x λao ae hI r' le=>?_;apply Z;show H3 (turn k ao ae hI s' r') λb ax hpX rX leX q=>?_;cases b with
 | false=>
  show wpAny_execs_nil ⟨.next,ao,hpX,rX,le.trans leX,rfl,q⟩
 | true=>
  show II (q ax rX) λfl sY af mY hpY rY leY hf q=>?_;have leA:=(le.trans leX).trans leY;cases af with
  | next=>cases hf;obtain⟨n',hn',q⟩:=q;show⟨n',hn',mY,hpY,q,rY,leA⟩
  | cont=>cases hf;obtain⟨n',hn',q⟩:=q;show⟨n',hn',mY,hpY,q,rY,leA⟩
  | brk=>cases hf;show mkX (af:=.next) rY leA rfl q
  | ret v=>show aK hf λu zz1 hu=>?_;subst zz1;show mkX (af:=.ret v) rY leA ⟨u,rfl,hu⟩ q
theorem Rel.two (r:Rel B hp s){e:Addr}{oe oe' oi':Obj}(he:hp e=some (.obj oe))(hi:hp it=some (.obj oi))(hne:e≠it)(hk:∀b o,b≠e->b≠it->s.heap.get? b=some o->h'.get? b=some o)
  (hsz:s.heap.objs.size<=h'.objs.size)(ge:h'.get? e=some oe')(gi:h'.get? it=some oi')(ne:¬Imm oe')(ni:¬Imm oi')(t:Nat):Rel B ((hp.set it (.obj oi')).set e (.obj oe')) { s with heap:=h',toks:=t }/\ImmLe s.heap h':=by
 have le:ImmLe s.heap h':=λb ob eq i=>by
  by_cases h1:b=e
  .subst h1;show absurd i ((r.objs _ _ he).2.notImm _ eq)
  .by_cases h2:b=it
   .subst h2;show absurd i ((r.objs _ _ hi).2.notImm _ eq)
   .exact hk b ob h1 h2 eq
 show⟨⟨λb ob eq=>?_,λa o eq=>?_,r.os,r.bare,Aj r.size hsz⟩,le⟩
 .refine hk b ob (λh=>?_) (λh=>?_) (r.keep b ob eq)
  .subst h;show absurd (Cd eq) (CO.mpr (r.objs _ _ he).1)
  .subst h;show absurd (Cd eq) (CO.mpr (r.objs _ _ hi).1)
 .by_cases h1:a=e
  .subst h1;rw[Ad]at eq;cases eq;show⟨(r.objs _ _ he).1,ge,ne⟩
  .rw [Al _ _ h1]at eq;by_cases h2:a=it
   .subst h2;rw[Ad]at eq;cases eq;show⟨(r.objs _ _ hi).1,gi,ni⟩
   .rw [Al _ _ h2]at eq;show⟨(r.objs a o eq).1,(r.objs a o eq).2.here le λo' e'=>hk _ _ h1 h2 e'⟩
theorem Jn{J J':Nat->Loc->Hp->Prop}{Q:QX}
  (next:∀i ao ae s,i<n->J i ao ae->Rel B ae[ao]! s->ImmLe s₀.heap s.heap->∀(E':ET) (W:Option Value->Shared->Prop),
   (∀v ar,(∀U:Unit->Shared->Prop,(∀s' ah,VR s'.heap (el i) v->Rel B ah[ao]! s'->ImmLe s.heap s'.heap->J' i ao ah->U ⟨⟩ s')->wpAny Md A (letOwnedTupleGo aD (.ref it) v) U E' ar)->W (some v) ar)->wpAny Md A (pyNext (.ref it)) W E' s)
  (stop:∀ao ae s,J n ao ae->Rel B ae[ao]! s->ImmLe s₀.heap s.heap->∀(E':ET) (W:Option Value->Shared->Prop),
   (∀s' ah,Rel B ah[ao]! s'->ImmLe s.heap s'.heap->Q .next ao ah->W none s')->wpAny Md A (pyNext (.ref it)) W E' s)
  (turn:∀i ao ae,i<n->J' i ao ae->ASG Md A (λ_ _=>False) B aa aD (el i) ao ae λmX hpX=>EXs Md A (λ_ _=>False) B aa body mX hpX λfl mY hpY=>
   match fl with | .next | .cont=>J (i+1) mY hpY | .brk=>Q .next mY hpY | .ret v=>Q (.ret v) mY hpY)
  (hR:∀fl af m' ah s',Rel B ah[m']! s'->ImmLe s₀.heap s'.heap->FR s'.heap af fl->Q af m' ah->R (.ok fl) s')(h0:J 0 m hp)(rel:Rel B hp[m]! s)(leZ:ImmLe s₀.heap s.heap) :
  codeAny Md A (.forLoop aD (.ref it) body [] aa) R s:=by
 show codeAny_forLoop_any (λk s'=>∃i ao ae,k=n-i/\i<=n/\J i ao ae/\Rel B ae[ao]! s'/\ImmLe s₀.heap s'.heap) (λk s' x=>?_) n (bk 0 m hp rfl (Bp _) h0 rel leZ);x_go;show bz x λi ao ae zz1 hi hJ r le=>?_;clear x;subst zz1;z_go;rcases Nat.lt_or_eq_of_le hi with hlt | rfl
 .refine next i ao ae s' hlt hJ r le _ _ λv ar k=>k _ λax ah hv ay aw hJ'=>?_
  show wpAny_mono (turn i ao ah hlt hJ' _ v ay hv) (λ_ sX x=>?_) λ_ _ x=>x.elim;x_go;obtain⟨mX,hpX,rX,leX,q⟩:=x;apply Z;show wpAny_mono (q sX rX) (λfl sY x=>?_) λ_ _ x=>x.elim;x_go;obtain⟨af,mY,hpY,rY,leY,hf,q⟩:=x;z_go;have leAll:=((le.trans aw).trans leX).trans leY;cases af with
  | next=>cases hf;show⟨n-(i+1),Cw hlt,i+1,mY,hpY,rfl,hlt,q,rY,leAll⟩
  | cont=>cases hf;show⟨n-(i+1),Cw hlt,i+1,mY,hpY,rfl,hlt,q,rY,leAll⟩
  | brk=>cases hf;show hR _ .next _ _ _ rY leAll rfl q
  | ret v=>show aK hf λu zz1 hu=>?_;subst zz1;show hR _ (.ret v) _ _ _ rY leAll ⟨u,rfl,hu⟩ q
 .exact stop ao ae s' hJ r le _ _ λs'' ah r' le' q=>wpAny_execs_nil (hR _ .next _ _ _ r' (le.trans le') rfl q)
theorem enO_no {it i old}:¬Imm (enO it i old):=λi=>by obtain⟨_,_,_,e⟩:=i;cases e
theorem Jo {a i o}(h:liO a i o):¬Imm o:=λi=>by obtain⟨_,_,_,e⟩:=i;rw[h.2]at e;cases e
theorem Rel.none2 (r:Rel B hp[m]! s):(s.heap.objs.size≠aa.locals/\hp s.heap.objs.size=none)/\s.heap.objs.size+1≠aa.locals/\hp (s.heap.objs.size+1)=none:=by
 have one:∀x,s.heap.objs.size<=x->x≠aa.locals/\hp x=none:=λx hx=>by
  have no:∀o,hp[m]! x=some o->False:=λo e=>absurd (r.lt e) (CO.mpr hx);have n1:x≠aa.locals:=λe=>no _ (by rw[e,Ad]);show⟨n1,?_⟩;cases e:hp x with
  | none=>rfl
  | some o=>show(no o (by rw[Al _ _ n1];show e)).elim
 show⟨one _ (A5 _),one _ (Dd _)⟩
theorem N9{xs:List AV}{x:AV}{old:Value}{tk tpos}(r':Rel B ae[ao]! s')(n1:it≠aa.locals)(n2:en≠aa.locals)(hei:en≠it)
  (hit:ae it=some (.obj o1))(c1:liO a i o1)(hen:ae en=some (.obj (enO it (i:Int) old)))(hl:Lst B ae aa.locals a xs)(hx:xs[i]?=some x)(E':ET)(W:Option Value->Shared->Prop)
  (hW:∀v ar,(∀U:Unit->Shared->Prop,(∀ax ah,VR ax.heap (.tup [.int i,x]) v->Rel B ah[ao]! ax->ImmLe s'.heap ax.heap->(∃oi v',liO a (i+1) oi/\ah=(ae.set it (.obj oi)).set en (.obj (enO it ((i+1:Nat):Int) v')))->U ⟨⟩ ax)->wpAny Md A (letOwnedTupleGo (.Tuple elts tk tpos) (.ref en) v) U E' ar)->W (some v) ar) :
  wpAny Md A (pyNext (.ref en)) W E' s':=by
 show aK (r'.lst hl) λvs' hl' hvs'=>?_;show aK (hvs'.get hx) λv hv hxv=>?_;show wpAny_pyNext_enum_item (r'.at hen n2).1 (aO o1 ((r'.at hit n1).1) c1.1 c1.2) hl' (by simpa using hv) hei λh₁ heo hit₁ ht₁ hz₁ hk₁=>hW _ _ λU hU=>wpAny_letOwnedTupleGo_enum heo λh₂ he₂ hs₂=>?_;show aS (hit₁) λoi' gi' ci' di'=>?_;have t1:=r'.two (e:=en) (it:=it) (by rw[Al _ _ n2];show hen) (by rw[Al _ _ n1];show hit) hei hk₁ (by rw[hz₁];show Dd _) heo gi' (λi=>by obtain⟨_,_,_,e⟩:=i;cases e) (Jo ⟨ci',di'⟩) (s'.toks+1);have t2:=t1.1.turn (a:=en) (Ad ..) hs₂ (.obj (enO it ((i:Int)+1) v)) (λ_=>⟨he₂,enO_no⟩) (s'.toks+1);rw[Ch,A8 _ _ _ (Ah n1),A8 _ _ _ (Ah n2)]at t2;have leT:=t1.2.trans t2.2;show hU _ _ ?_ t2.1 leT (a8 oi' v ⟨ci',di'⟩ rfl);show aT _ (#[.int i s'.toks,v]) rfl (aO _ (t2.2 _ _ ht₁ ⟨.inl rfl,_,_,rfl⟩) rfl ⟨0,rfl⟩) ⟨_,_,rfl,⟨_,rfl⟩,_,_,rfl,hxv.mono leT,rfl⟩
theorem NA (r:Rel B hp[m]! { s with heap:=h' })(hit':B.heap.objs.size<=it)(hen':it+1=en)(gi:h'.get? it=some oi)(ni:¬Imm oi)(ge:h'.get? en=some o2)(ne:¬Imm o2) :
  Rel B ((hp.set it (.obj oi)).set en (.obj o2))[m]! { s with heap:=h' }:=by
 show⟨r.keep,λz o e=>?_,r.os,r.bare,r.size⟩;by_cases hzL:z=aa.locals
 .subst hzL;rw[Ad]at e;cases e;show r.objs _ _ (Ad ..)
 .rw [Al _ _ hzL]at e;by_cases hze:z=en
  .subst hze;rw[Ad]at e;cases e;show⟨by rw[<-hen'];show Nat.le_succ_of_le hit',ge,ne⟩
  .rw [Al _ _ hze]at e;by_cases hzi:z=it
   .clear hen';subst hzi;rw[Ad]at e;cases e;show⟨hit',gi,ni⟩
   .rw [Al _ _ hzi]at e;show r.objs z o (by rw[Al _ _ hzL];show e)
theorem NB {tk tpos}{xe:Expr}{cpos pos}{Q:QX}(hh:A.handled=none)
  (h:↥EV aE m hp λf ak=>f = .ty "enumerate" /\ ↥EVS [xe] m ak λvs ae=>∃a xs,vs=[.ref a]/\Lst B ae aa.locals a xs/\∀it en,ae it=none->it≠aa.locals->ae en=none->en≠aa.locals->en≠it ->
   Mt A B aa (.Tuple elts tk tpos) body m ae Q a xs it en)
  (hc:autoParam (eval (.Call aE [xe] [] cpos) aa=(do callWith cpos (<-eval aE aa) [] (backTo cpos (starEach [xe] aa)) (backToKw cpos (keywordEach [] aa)))) rB)
  (he:autoParam (starEach [xe] aa=[(false,eval xe aa)]) rB)
  (hs:∀x,foldedSetIterable (.Call aE [xe] [] cpos) aa x=pure x:=by intro _;rfl) :
  ↥EX (.For (.Tuple elts tk tpos) (.Call aE [xe] [] cpos) body [] pos) m hp Q:=λs r=>by
 show wpAny_For (Call_ (h.use r λu ar f ak au aq hu x=>?_) hc) hs;obtain⟨hf,q⟩:=x;subst hf;subst hu;show EP (wpAny_mono (q cpos ar au) (λvs ax x=>?_) λ_ _ x=>x) he rfl;x_go;obtain⟨avs,ae,ay,aw,hv,a,xs,rfl,hl,q⟩:=x;show aK (Cu hv) λv zz1 h1=>?_;subst zz1;clear hv;subst h1;show aK (ay.lst hl) λus hlst hus=>?_;apply Z;show call_enumerate_list hlst λh' hen hit hz hk=>?_;show wpAny_pyIter_enum (s:={ ax with heap:=h' }) hen ?_;x_go;show aZ ay.none2 λq80 n2 f2=>?_;obtain⟨n1,f1⟩:=q80;have hei:ax.heap.objs.size+1≠ax.heap.objs.size:=DM _;show aS hit λoi gi ci di=>?_;have gr:=ay.grown hk ax.toks;have hlo:=ay.size;generalize ax.heap.objs.size=it at *;generalize hen':it+1=en at *;show b9 (q it en f1 n1 f2 n2 hei) λI i0 iset jset ilst iturn ifin=>?_;apply Z;show Jn (n:=xs.length) (el:=λi=>.tup [.int i,xs.getD i .none]) (s₀:=s) (J:=λi ao ae=>I i ao ae/\∃o1 old,liO a i o1/\ae it=some (.obj o1)/\ae en=some (.obj (enO it ((i:Nat):Int) old))) (J':=λi ao ae=>I i ao ae/\∃o1 old,liO a (i+1) o1/\ae it=some (.obj o1)/\ae en=some (.obj (enO it ((i+1:Nat):Int) old))) (Q:=Q) (λi ao ae s' hi hJ r' le E' W hW=>?_) (λao ae s' hJ r' le E' W hW=>?_) (λi ao ae hi hJ=>?_) (λfl af m' ah s' r' le' hf q=>mkX (af:=af) r' le' hf q)
  ⟨i0 _ _,oi,.none,⟨ci,di⟩,by rw[Al _ _ (Ah hei),Ad],Ad ..⟩ (NA (s:=ax) gr.1 hlo hen' gi (Jo ⟨ci,di⟩) hen enO_no) ((aq.trans aw).trans gr.2)
 .refine aU hJ λhI zz1=>?_;show aN zz1 λo1 old hc1 h1 h2=>?_;clear zz1;show N9 (x:=xs.getD i .none) r' n1 n2 hei h1 hc1 h2 (ilst _ _ _ hI) (by simp[List.getD,A3 hi]) E' W λv ar k=>hW v ar λU hU=>k U λax ah hv ay aw ho=>?_;show aY ho λoi v' hoi zz1=>?_;clear ho;subst zz1;show hU ax _ hv ay aw ⟨jset _ _ _ _ (iset _ _ _ _ hI),oi,v',hoi,by rw[Al _ _ (Ah hei),Ad],Ad ..⟩
 .refine aU hJ λhI zz1=>?_;show aN zz1 λo1 old hc1 h1 h2=>?_;clear zz1;show aK (r'.lst (ilst _ _ _ hI)) λvs' hl' hvs'=>?_;show wpAny_pyNext_enum_end hh (r'.at h2 n2).1 (aO o1 ((r'.at h1 n1).1) hc1.1 hc1.2) hl' (Dv (by rw[<-A7,hvs'.length];show A5 _)) λh'' hx=>?_;show aU (r'.drop h1 n1 hx s'.toks) λr'' le''=>?_;show hW _ _ r'' le'' (ifin _ _ hI)
 .refine aU hJ λhI zz1=>?_;show aN zz1 λo1 old hc1 h1 h2=>?_;clear zz1;show(iturn i _ ao ae _ _ (by simp[List.getD,A3 hi]) hI h1 h2).mono λmX hpX x=>x.mono λfl mY hpY y=>?_;cases fl with
  | next=>show⟨y.1,_,_,hc1,y.2⟩
  | cont=>show⟨y.1,_,_,hc1,y.2⟩
  | brk=>show y
  | ret v=>show y
theorem Jp{k:An->Option NameKind}:∀{bs:List (An×AV)}{us:List (An×Value)}{m:Loc}{mv:An->Option Value},us.map (·.1)=bs.map (·.1)->VRs h (bs.map (·.2)) (us.map (·.2))->LocR h m mv->LocR h (bindLA k bs m) (bindL k us mv):=by
 intro r_
 induction r_ with
 | nil=>
  intro us m mv e hv x;clear hv;cases us with
  | nil=>show x
  | cons _ _=>injection e
 | cons kv_ bs ih=>
  obtain⟨n,v⟩:=kv_;intro us m mv e hv x;cases us with
  | nil=>injection e
  | cons u us=>
   obtain⟨n',u⟩:=u;simp only[A1,Eh,VRs]at e hv;obtain⟨rfl,e2⟩:=e;show aN hv λ_ _ zz1 h1 h2=>?_;show aU zz1 λzz2 zz3=>?_;clear zz1;subst zz2;subst zz3;dsimp only[bindLA,bindL];show ih e2 h2 ?_;split
   .exact x.upd h1
   .exact x
theorem Jq{k:An->Option NameKind}:∀{bs:List (An×AV)}{us:List (An×Value)}{m:Loc}{mv:An->Option Value},us.map (·.1)=bs.map (·.1)->VRs h (bs.map (·.2)) (us.map (·.2))->LocR h m mv->LocR h (Dl k bs m) (bindC k us mv):=by
 intro r_
 induction r_ with
 | nil=>
  intro us m mv e hv x;clear hv;cases us with
  | nil=>show x
  | cons _ _=>injection e
 | cons kv_ bs ih=>
  obtain⟨n,v⟩:=kv_;intro us m mv e hv x;cases us with
  | nil=>injection e
  | cons u us=>
   x_go;obtain⟨n',u⟩:=u;simp only[A1,Eh,VRs]at e hv;obtain⟨rfl,e2⟩:=e;show aN hv λ_ _ zz1 h1 h2=>?_;show aU zz1 λzz2 zz3=>?_;clear zz1;subst zz2;subst zz3;apply Z;dsimp only[Dl,bindC];show ih e2 h2 ?_;split
   .exact x
   .exact x.upd h1
theorem Rel.cell (r:Rel B hp[m]! s){c:Addr}(h:hp c=some (.cell (some v)))(hL:c≠aa.locals):∃u,s.heap.IsCell c (some u)/\VR s.heap v u:=by x_go;show aN (r.at h hL) λo u ho hd zz1=>?_;show aK zz1 λx zz2 hx=>?_;clear zz1;subst zz2;z_go;show aM x (aM o ho hd) hx
theorem AK {pos}{c:Addr}(hc:aa.cells.lookup x=some c)(hv:hp c=some (.cell (some v)))(hcL:c≠aa.locals)(h:Q v hp)(hk:autoParam (aa.scope.kind = .function) rB)(hl:autoParam (aa.kindOf x=some .cell) rB)
  (hd:(x == ("__debug__" : An))=false:=by decide):↥EV (.Name x pos) m hp Q:=λs r=>by
 show aK (r.cell hv hcL) λu hu hvu=>?_;show wpAny_Name (wpAny_loadName_cell hk hl hc hu ⟨v,hp,r,.refl _,hvu,h⟩) hd
theorem HF{c:Addr}(r:Rel B hp[m]! s)(hv:VR s.heap v u)(hc:aa.cells.lookup x=some c)(hvZ:hp c=some (.cell v₀))(hcL:c≠aa.locals)
  (k:∀s',Rel B (hp.set c (.cell (some v)))[m]! s'->ImmLe s.heap s'.heap->W ⟨⟩ s')(hk:autoParam (aa.scope.kind = .function) rB)(hl:autoParam (aa.kindOf x=some .cell) rB):wpAny Md A (storeName aa x u) W E s:=by
 x_go;show aN (r.at hvZ hcL) λo uZ ho hd _=>?_;apply Z;show wpAny_storeName_cell hk hl hc (aM o ho hd) λh' hc' hs'=>?_;x_go;show aK hc' λo' ho' hd'=>?_;apply Z;have t:=r.turn (a:=c) (Ab hcL hvZ) hs' (.cell (some v)) (λle=>aT o' _ ho' hd' ⟨u,rfl,hv.mono le⟩) s.toks;rw[A8 _ _ _ (Ah hcL)]at t;show k _ t.1 t.2
theorem Fo {pos}{c:Addr}{Q:Loc->Hp->Prop}(hc:aa.cells.lookup x=some c)(hvZ:hp c=some (.cell v₀))(hcL:c≠aa.locals)(h:Q m (hp.set c (.cell (some v))))(hk:autoParam (aa.scope.kind = .function) rB)(hl:autoParam (aa.kindOf x=some .cell) rB) :
  ↥ASG (.Name x pos) v m hp Q:=λs u r hu=>
 GK (HF r hu hc hvZ hcL (λs' r' le=>mkA r' le h) hk hl)
theorem Fp {pos pos'}{c:Addr}{Q:QX}(hc:aa.cells.lookup x=some c)(hcL:c≠aa.locals)(h:↥EV value m hp (Mu m c Q))
  (hs:autoParam (swapsWith value (some (.Name x pos')) pos.line aa=pure false) rB)(hk:autoParam (aa.scope.kind = .function) rB)(hl:autoParam (aa.kindOf x=some .cell) rB):↥EX (.Assign [.Name x pos'] value pos) m hp Q:=λs r=>
 wpAny_Assign_Name (h.use r λu ar v ak au aq hu q63=>q63.elim λv₀ q64=>q64.elim λhvZ q=>HF au hu hc hvZ hcL (λs' r' le=>mkX (af:=.next) r' (aq.trans le) rfl q) hk hl) hs
theorem Jr{K:Frag}{f:Addr}{bs:List (An×AV)}(G:Gnd K B)(ho:K.lookup f=some ⟨.type "function",none,.func fd,#[]⟩)(hcd:codeIn K fd.code fd.qualname=true)
  (hbody:fd.body = .stmts body)(aB:A.depth<recursionLimit)(hclo:fd.closure=[])
  (hbind:∀(s:Shared) vs,VRs s.heap avs vs->∃us:List (An×Value),bindArgs fd ⟨vs,[]⟩=pure us/\us.map (·.1)=bs.map (·.1)/\VRs s.heap (bs.map (·.2)) (us.map (·.2)))
  (hkind:∀L,∀x∈bs,fd.scope.names.lookup x.1=some .local\/(fd.scope.names.lookup x.1=some .cell/\((cellsFrom (L+1) fd.scope.names []).lookup x.1).isSome=true))
  (h:∀L,hp L=none->L≠aa.locals->(∀n c,(n,c)∈cellsFrom (L+1) fd.scope.names []->hp c=none/\c≠aa.locals/\c≠L) ->
   EXs Md (A.deeper (callEnvC fd L f)) (λ_ _=>False) B (callEnvC fd L f) body (bindLA (callEnvC fd L f).kindOf bs λ_=>none) (Bz hp[m]! (cellsFrom (L+1) fd.scope.names []) (Dl (callEnvC fd L f).kindOf bs λ_=>none)) (RET L aa m Q))
  (hnd:∀L,∀n c,(n,c)∈cellsFrom (L+1) fd.scope.names []->(cellsFrom (L+1) fd.scope.names []).lookup n=some c)
  (hco:autoParam (fd.scope.isCoroutine=false) rB)(hgen:autoParam (fd.scope.isGenerator=false) rB)(hk:autoParam (fd.scope.kind = .function) rB) :
  ↥CD (.ref f) m avs hp Q:=λs vs r hv=>by
 show aS (hbind s vs hv) λus hb e1 e2=>?_;have hkd:∀x∈us,fd.scope.names.lookup x.1=some .local\/(fd.scope.names.lookup x.1=some .cell/\((cellsFrom (s.heap.objs.size+1) fd.scope.names []).lookup x.1).isSome=true):=λx hx=>by
  have:x.1∈bs.map (·.1):=by rw[<-e1];show Dw hx
  show aK (Bk.mp this) λy hy e=>?_;rw[<-e];show hkind _ y hy
 show codeAny_call_cells aB (r.keep _ _ (G.X _ _ ho)) rfl (G.lim.keeps r.keep) (codeRec_of (G.X.keeps r.keep) hcd) hbody hb hclo hkd (λar x=>?_) hco hgen hk;clear hkd;obtain⟨⟨⟨h₁,tk₁,rfl⟩,xns,xk,xf⟩,xc,xa,xab⟩:=x;have le:=ImmLe.keep xk;generalize hLL:s.heap.objs.size=L at *;have fresh:∀a,L<=a->hp[m]! a=none:=λa ha=>by
  cases e:hp[m]! a with
  | none=>rfl
  | some o=>show absurd (r.lt e) (by rw[hLL];show CO.mpr ha)
 have fr2:∀a,L<=a->hp a=none/\a≠aa.locals:=λa ha=>by
  have h1:=fresh a ha;have h2:a≠aa.locals:=λe=>by rw[e,Ad]at h1;cases h1
  show⟨CV h2 h1,h2⟩
 have hcs:∀n c,(n,c)∈cellsFrom (L+1) fd.scope.names []->hp c=none/\c≠aa.locals/\c≠L:=λn c hm=>by have:=xab n c hm;have hlt:=this;show⟨(fr2 c (By hlt)).1,(fr2 c (By hlt)).2,Dx hlt⟩
 have rel:Rel B ((Bz hp[m]! (cellsFrom (L+1) fd.scope.names []) (Dl (callEnvC fd L f).kindOf bs λ_=>none)).set (callEnvC fd L f).locals (.ns (bindLA (callEnvC fd L f).kindOf bs λ_=>none))) { s with heap:=h₁,toks:=tk₁ }:=by
  show⟨λb o e=>xk _ _ (r.keep b o e),λa o e=>?_,r.os,r.bare,?_⟩
  .by_cases ha:a=L
   .clear hcs fr2 fresh xc xf xab xa;subst ha;rw[show(callEnvC fd a f).locals=a from rfl,Ad]at e;cases e;show⟨by rw[<-hLL];show r.size,_,xns,Jp e1 (e2.mono le) ⟨λx v e=>(by cases e),λx _=>rfl⟩⟩
   .rw [show(callEnvC fd L f).locals=L from rfl,Al _ _ ha]at e;unfold Bz at e;cases hf:(cellsFrom (L+1) fd.scope.names []).find? (λx=>decide (x.2=a)) with
    | some x=>
     rw[hf]at e;cases e;have hmem:=List.mem_of_find?_eq_some hf;have hxa:x.2=a:=by have:=List.find?_some hf;simpa using this
     show aK (xc x.1 a (by have:=hnd L x.1 x.2 hmem;rw[hxa]at this;show this)) λo' ho' hd'=>?_;show⟨by rw[<-hxa];show Aj r.size (by rw[hLL];show By (xab x.1 x.2 hmem)),o',_,ho',hd',?_⟩;have hC:=Jq (k:=(callEnvC fd L f).kindOf) (h:=h₁) e1 (e2.mono le) (m:=λ_=>none) (mv:=λ_=>none) ⟨λx v e=>(by cases e),λx _=>rfl⟩;cases hcm:Dl (callEnvC fd L f).kindOf bs (λ_=>none) x.1 with
     | none=>show hC.2 x.1 hcm
     | some v=>show aK (hC.1 x.1 v hcm) λu hu hvu=>?_;show aM u hu hvu
    | none=>
     rw[hf]at e;show⟨(r.objs a o e).1,(r.objs a o e).2.here le λo'' e=>xk _ _ e⟩
  .exact Aj r.size (by rw[hLL];show By xns.lt)
 show wpAny_mono (h L (fr2 L (A5 _)).1 (fr2 L (A5 _)).2 hcs _ rel) (λfl s' x=>?_) λ_ _ x=>x.elim;clear rel hcs fresh xns xc xf xab xa hLL;obtain⟨af,m',ah,r',le',hf,ae,hsub,hn,q⟩:=x;show mkV (av:=CS af) (r'.sub λa o e=>?_) (le.trans le') (IQ hf) q;have hLe:=(fr2 L (A5 _)).2;have haL:a≠L:=λe'=>by clear r' fr2;subst e';rw[Al _ _ hLe,hn]at e;cases e
 rw[(rfl:(callEnvC fd L f).locals=L),Al _ _ haL];show hsub a o e
set_option maxHeartbeats 4000000
theorem NC (a b c d:Value):argsOk "object.__init__" ⟨[a,b,c,d],[]⟩:=by unfold argsOk;kernel_rfl
theorem ND{K:Frag}{g:Array GenState}{d:Drawn}{t:Nat}(Y:MatK K){x:Addr}{o:Obj}{u1 u2 u3:Value}(X:K.In h)(hx:h.get? x=some o)(hc:o.cls = .ref 135)(q:R (.ok (.ret .none)) ⟨h,g,d,t,os⟩) :
  codeAny Md A (.call (.builtin "object.__init__") ⟨[.ref x,u1,u2,u3],[]⟩) R ⟨h,g,d,t,os⟩:=by
 have t1:Looks Md h (typeOf (.ref x)) (.ref 135):=by rw[<-hc];show(DO hx).andThen .now
 show codeAny_call_builtin oi_plain entry_oi (@check_slot Md _ _ _ "object.__init__" "object" "__init__" (.ref x) [u1,u2,u3] [] _ oi_kind oi_split (t1.andThen (looks_mroIn X Y.top)) (NC (.ref x) u1 u2 u3) ?_);show wB ?_;show t1.at (wB ((looks_findIn (M:=model PW W0) X Y.init).at (wB ((Ek X Y.made).at ?_))));show wP q
theorem NE{K:Frag}{g:Array GenState}{d:Drawn}{t:Nat}(Y:MatK K){u1 u2 u3:Value}(X:K.In h)
  (hq:codeAny Md (A.under (.builtin "type.__call__" ⟨[.ref 135,u1,u2,u3],[]⟩)) (.call (.ref 82) ⟨[.ref 135,u1,u2,u3],[]⟩) (Mv K R) ⟨h,g,d,t+1,os⟩) :
  codeAny Md A (.call (.ref 135) ⟨[u1,u2,u3],[]⟩) R ⟨h,g,d,t,os⟩:=by
 x_go;show bK Y.del λoc od cd sl hC e2=>?_;apply Z;show codeAny_of_tree ?_;show nd_load (X _ _ hC) ?_;change wpAny _ _ (callAny.viaDunder (.ref 135) _) _ _ _;show wB ((looks_specialIn (M:=model PW W0) X Y.call).at ?_);show wB (wP (wB (wP ?_)));show wP (a:=Fin.again (.call (.builtin "type.__call__") ⟨[.ref 135,u1,u2,u3],[]⟩)) (And.intro rfl ?_);show codeAny_call_builtin_at (GZ _ (by decide +kernel)) entry_typeCall (check_slot tc_kind tc_split (looks_instIn (M:=model PW W0) X Y.typ) (tc_args _ _ _) ?_);show wB ((Ek X Y.mro).at ?_);show wB ((Ek X Y.made).at ?_);show wB ?_;show cls_bind X Y.reads Y.find ?_;show wpAny_call (sm_get X Y.sm ?_);show handed_on (by rfl) ?_;show wB (wpAny_holding (wpAny_call ?_));show codeAny_mono hq λr s' z=>?_;rcases r with e | (v | _ | _ | _) <;> first | show z | show z.elim | skip
 x_go;show br z λx o zz1 hx hc X' q=>?_;clear z;subst zz1;obtain⟨h',_⟩:=s';apply Z;have t1:Looks Md h' (typeOf (.ref x)) (.ref 135):=by rw[<-hc];show(DO hx).andThen .now
 show wB ((t1.andThen (looks_mroIn X' Y.self):Looks Md h' (isInstance (.ref x) (.ref 135)) true).at ?_);show wB (wpAny_holding ?_);delta callSpecial? specialOf;show wB (wB (t1.at ((looks_findIn X' Y.init).at (wpAny_holding ?_))));show wB (wP (wB (wpAny_call (ND Y X' hx hc ?_))));show wP (wP q)
theorem NF:plainId "tuple.__new__" = true:=by decide +kernel
theorem NG{K:Frag}{a b c:AV}(G:Gnd K B)(Y:MatK K)
  (h:∀vs,CD Md (A.under (.builtin "type.__call__" ⟨.ref 135::vs,[]⟩)) E B aa (.ref 82) m [.ref 135,a,b,c] hp λv ah=>(∃xs,v = .mat xs)/\Q v ah) :
  ↥CL (.ref 135) m [a,b,c] hp Q:=λs vs r hv=>by
 obtain⟨u1,u2,u3,rfl,h1,h2,h3⟩:∃u v W0,vs=[u,v,W0]/\VR s.heap a u/\VR s.heap b v/\VR s.heap c W0:=by simp only[VRs]at hv;show aN hv λv r zz1 h1 zz2=>?_;clear hv;subst zz1;show aN zz2 λu r' zz3 h2 zz4=>?_;clear zz2;subst zz3;show aN zz4 λz r'' zz5 h3 zz6=>?_;clear zz4;subst zz5;subst zz6;show bh _ _ _ rfl h1 h2 h3
 show wpAny_call ?_;have hh:=h [u1,u2,u3] { s with toks:=s.toks+1 } [.ref 135,u1,u2,u3] (r.toks _) (by simp only[VRs];show aT _ _ rfl VR_ref (aT _ _ rfl h1 ⟨_,_,rfl,h2,_,_,rfl,h3,rfl⟩));obtain⟨_⟩:=s;show NE Y (G.X.keeps r.keep) (codeAny_mono hh λrr s' z=>?_);rcases rr with e | (v | _ | _ | _) <;> first | show z | show z.elim | skip
 obtain⟨av,ah,r',le',hv',⟨xs,rfl⟩,q⟩:=z;have hv2:=hv';show aN hv' λx us zz1 zz2 hu=>?_;subst zz1;show aS zz2 λo ho hc _=>?_;show bB x o rfl ho hc (G.X.keeps r'.keep) ⟨_,ah,r',le',hv2,q⟩
theorem Js{K:Frag}{xs:List AV}(G:Gnd K B)(Y:MatK K)(hsz:xs.length<=sizeLine)(h:Q (.mat xs) hp):↥CL (.builtin "tuple.__new__") m [.ref 135,.tup xs] hp Q:=λs vs r hv=>by
 x_go;show aN (C3 hv) λv u zz1 h1 h2=>?_;subst zz1;clear hv;subst h1;show aN h2 λa us zz1 zz2 hu=>?_;clear h2;subst zz1;show aS zz2 λo ho hc zz3=>?_;show be zz3 λn hd=>?_;have az:us.size<=sizeLine:=by rw[<-A7,hu.length];show hsz
 have X:=G.X.keeps r.keep;show bK Y.del λoc od cd sl hC e2=>?_;apply Z;show wpAny_call (codeAny_call_builtin NF PySem.F.entry_tuple_new (Looks.here (Ek X (Y.chk _)) ?_));show wB ((Ek (M:=model PW W0) X Y.isty).here ?_);show wB ((looks_mroIn X Y.tup).here ?_);show wB ((Ek (M:=model PW W0) X Y.here).here ?_);show wB ((looks_findIn X Y.init).here ?_);show wB ?_;show wpAny_of_eq (a:=⟨⟩) (by rfl) ?_;show wB (wpAny_of_eq (a:=⟨⟩) (by rfl) ?_);show wB (wpAny_collect_seq (hsz:=az) a (.inr rfl) ho hc hd λh' hk=>?_);show wB (wP ?_);show wB (wpAny_alloc ?_);show wB ?_;unfold newObj;dsimp only;rw[if_neg (by rw[List.size_toArray,A7];(show CO.mpr ()))];delta newObjAsIs classHasDel;show wB (wpAny_alloc (wB (wB (wpAny_load (AX _ (AX _ (hk _ _ (X _ _ hC)))) (wP ?_)))));rw[e2];show wP (wP ?_);x_go;obtain⟨r1,le1⟩:=r.grown hk s.toks;apply Z;have le2:ImmLe s.heap ((h'.push emptyDict).push { cls:=.ref 135,dict:=some h'.objs.size,data:=.seq us.toList.toArray }):=ImmLe.keep λb o e=>AX _ (AX _ (hk _ _ e));show mkV (av:=.mat xs) ((r1.push emptyDict).push { cls:=.ref 135,dict:=some h'.objs.size,data:=.seq us.toList.toArray }) le2 (?_) h;simp only[VR];show aT _ us.toList.toArray rfl (aO _ (AI _ rfl) rfl ⟨0,rfl⟩) (by simpa using hu.mono le2)
theorem NH{K:Frag}{pl:Sem Bool}{Q:Value×List Value->Shared->Prop}(X:K.In s.heap)(Y:MatK K)
  (h:Q (.builtin "tuple.__new__",[]) { s with toks:=s.toks+1 }):wpAny Md A (getMethod (.type "tuple") (PySem.Str.ofString "__new__") pl) Q E s:=by
 have hstub:opaqueClassAbove (.type "tuple")=pure none:=by unfold opaqueClassAbove;dsimp only;rw[(by decide +kernel:Manifest.isStub "tuple" = false)];rfl
 have L0:Looks Md s.heap (typeOf (.type "tuple")) (.type "type"):=Looks.of_pure (by first | rfl | kernel_rfl);have hg:findIn K (.type "type") "__getattribute__" = some (some (.builtin "type.__getattribute__")):=type_tga;delta getMethod specialOf;show wB (wB (L0.here ((looks_findIn X hg).here ?_)));dsimp only;rw[if_pos canon_tga];show wB (wpAny_mono (Q:=λv=>Q (v,[])) (E:=E) ?_ (λ_ _ z=>wP z) λ_ _ z=>z);show cls_open X (Looks.of_pure hstub) L0 hg (looks_hook X (r:=none) (by rfl)) (by change subIn K _ _=_;rfl) Y.tnew ?_;show wP (handed_on (by rfl) h)
theorem Jt{K:Frag}{aC:List Expr}{apos pos}{pl:Sem Bool}(G:Gnd K B)(Y:MatK K)
  (h:↥EV o m hp λv ak=>v = .ty "tuple" /\ ↥EVS (e::aC) m ak λvs ae=>↥CL (.builtin "tuple.__new__") m vs ae Q)
  (hc:autoParam (eval (.Call (.Attribute o (PySem.Str.ofString "__new__") apos) (e::aC) [] pos) aa=(do
   let ov <-eval o aa
   standAt apos.atName
   let (f,first) <-holding [ov] (getMethod ov (PySem.Str.ofString "__new__") pl)
   callWith pos f first (backTo pos (starEach (e::aC) aa)) [])) rB)
  (he:autoParam (starEach (e::aC) aa=(false,eval e aa)::starEach aC aa) rB)(hplain:autoParam ((backTo pos (starEach aC aa)).any (·.1)=false) rB) :
  ↥EV (.Call (.Attribute o (PySem.Str.ofString "__new__") apos) (e::aC) [] pos) m hp Q:=λs r=>by
 show MethodCall_ (pl:=pl) (h.use r λu ar l ak au aq hu x=>?_) hc;obtain⟨rfl,q⟩:=x;subst hu;show NH (G.X.keeps au.keep) Y ?_;show callWith_builtin1 (BY (q pos _ (au.toks _)) λvs ax avs ae ay aw hv q=>?_) he hplain;show useV (q ax vs ay hv) λv sX av hpX rX leX hv q=>mkV rX ((aq.trans aw).trans leX) hv q
theorem NI {pos}{id:String}(b:BndOk T name id gid)
  (hck:∀{A:Around}{a:Addr}{s:Shared}{o:Obj}{Q:ET},s.heap.get? a=some o->o.cls = .type T->Q (.ref s.heap.objs.size) { s with heap:=s.heap.push (AY id a) }->wpAny Md A (call (.builtin "method_descriptor.__get__") [.builtin id,.ref a,.type T]) Q (λ_ _=>False) s)
  (h:↥EV o m hp λv ak=>∃a,v = .ref a/\(∀s,Rel B ak[m]! s->∃ob,s.heap.get? a=some ob/\ob.cls = .type T/\ob.dict=none/\∀c,ob.data≠.cls c)/\∀x,ak x=none->x≠aa.locals->Q (.ref x) (ak.set x (.obj (AY id a))))
  (he:eval (.Attribute o name pos) aa=(do
   let ov <-eval o aa
   standAt pos.atName
   let r <-holding [ov] (getAttr ov name true)
   letTemporaryGo o ov r
   pure r):=by with_unfolding_all rfl) :
  ↥EV (.Attribute o name pos) m hp Q:=λs r=>by
 rw[he];show wB (h.use r λv ar av ak au aq hv x=>wB (wpAny_standAt (wB (wpAny_holding ?_))));x_go;show aS x λa zz1 hty q=>?_;clear x;subst zz1;subst hv;show a9 (hty ar au) λob ho hcl hdn hn=>?_;apply Z;show Jf b ho hcl hdn hn (λho hc h=>hck ho hc h) ?_;have n:=au.newAt (AY id a) (.obj (AY id a)) ⟨AI _ rfl,bndOb_notImm⟩;show wB (wpAny_letTemporaryGo (wP (mkV (av:=.ref _) (n.1.toks _) (aq.trans n.2.2.2) VR_ref (q _ n.2.1 n.2.2.1))))
theorem IsMat.seq (x:IsMat h t items):IsSeq h t items:=let ⟨o,ho,_,n,hd⟩:=x;(a8 o n ho hd)
theorem IsSeq.extBut (x:IsSeq h t items)(e:Heap.ExtBut it h h')(hne:t≠it):IsSeq h' t items:=let ⟨o,n,ho,hd⟩:=x;(a8 o n (e t o hne ho) hd)
theorem IsSeq.push (x:IsSeq h t items)(ob:Obj):IsSeq (h.push ob) t items:=let ⟨o,n,ho,hd⟩:=x;(a8 o n (AX _ ho) hd)
theorem NJ{x:Value}{Q:Option Value->Shared->Prop}(hit:IsTupIter s.heap it t i)(ht:IsSeq s.heap t items)(hx:items[i]?=some x)
  (hQ:∀h',IsTupIter h' it t (i+1)->Heap.SameBut it s.heap h'->Q (some x) { s with heap:=h' }):wpAny Md A (pyNext (.ref it)) Q E s:=by
 x_go;show aS (id hit) λo ho hc hd=>?_;show aY ht λol nl hol hdl=>?_;apply Z;show wB (wpAny_attempt (wpAny_callSpecial?_slot (name:=PySem.Str.ofString "__next__") hit.typeIs slot_tupleiter_next (wpAny_call_entry slot_tupleiter_next hit.typeIs entry_tupleiter_next ?_ (args_tupleiter_next _))));change wpAny _ _ (field (.ref it) 0 >>= _) _ _ s;show wB (wpAny_field ho hd (x:=.ref t) rfl ?_);show wB (wpAny_field ho hd (x:=.int i 0) rfl ?_);show wB (wpAny_seqItems hol hdl ?_);simp only[AW,hx];show wB (wpAny_setField ho hd (by simp) (wP (aM x rfl (wP (hQ _ ?_ (B2 ..))))));show aO _ (De _ ho (Obj.isFreed_of_fields (FA hd _))) ((Obj.cls_mapFields ..).trans hc) (by rw[FA hd];rfl)
theorem NK{Q:Option Value->Shared->Prop}(hh:A.handled=none)(hit:IsTupIter s.heap it t i)(ht:IsSeq s.heap t items)(hx:items[i]?=none)
  (hQ:∀h',Heap.ExtBut it s.heap h'->Q none { s with heap:=h' }):wpAny Md A (pyNext (.ref it)) Q E s:=by
 x_go;show aS (id hit) λo ho hc hd=>?_;show aY ht λol nl hol hdl=>?_;apply Z;show wB (wpAny_attempt (wpAny_callSpecial?_slot (name:=PySem.Str.ofString "__next__") hit.typeIs slot_tupleiter_next (wpAny_call_entry slot_tupleiter_next hit.typeIs entry_tupleiter_next ?_ (args_tupleiter_next _))));change wpAny _ _ (field (.ref it) 0 >>= _) _ _ s;show wB (wpAny_field ho hd (x:=.ref t) rfl ?_);show wB (wpAny_field ho hd (x:=.int i 0) rfl ?_);show wB (wpAny_seqItems hol hdl ?_);simp only[AW,hx];show wB (wpAny_rule (wB (wpAny_setField ho hd (by simp) ?_)));show wB ?_;show wB (wpAny_newObj_type ?_ (by size_fits));show wB (m:=firstArgMember _ _) (wpAny_of_eq (a:=Value.none) (by first | rfl | (simp only[firstArgMember];rfl)) ?_);show wpAny_newObj_type ?_ (by size_fits);dsimp only[raiseNew];show wB (wpAny_handled ?_);rw[(hh:A.in1.handled=none)];show wB (wP (wpAny_throw ?_));show wB (wpAny_isInstance (T := "StopIteration") (b:=true) (aM _ (AI _ rfl) rfl) isSubtype_stop ?_);show wP (hQ _ (((B2 ..).extBut.push _).push _))
theorem NL (hne:t≠it):∀(n i:Nat) (s:Shared) (Q:List Value->Shared->Prop),IsTupIter s.heap it t i->IsSeq s.heap t items->i+n<=items.size ->
  (∀h',IsTupIter h' it t (i+n)->Heap.SameBut it s.heap h'->Q ((items.toList.drop i).take n) { s with heap:=h' })->wpAny Md A (draw (.ref it) n) Q E s:=by
 intro r_
 induction r_ with
 | zero=>
  intro i s Q hit _ _ hQ;show wP (by simpa using hQ s.heap hit (Heap.SameBut.refl ..))
 | succ n ih=>
  intro i s Q hit ht hle hQ;have hlt:i<items.size:=by(show ul0 ())
  show wB (NJ hit ht (x:=items[i]) (by simp) λh₁ hit₁ hs₁=>?_);show wB (wpAny_holding (ih (i+1) _ _ hit₁ (ht.extBut hs₁.extBut hne) (F30 0x986700596807050 17 rfl hle) λh₂ hit₂ hs₂=>wP ?_))
  have:=hQ h₂ (by rw[(⇑(F20 0x86700680706 17 rfl):i+(n+1)=i+1+n)];show hit₂) (hs₁.trans hs₂);rw[(by simp[List.drop_eq_getElem_cons,hlt]:items.toList.drop i=items[i]::items.toList.drop (i+1)),Lp]at this;show this
theorem NM:builtinKind "tuple.__iter__" = some .slot:=by decide +kernel
theorem NN:splitId "tuple.__iter__" = some ("tuple", "__iter__"):=by decide +kernel
theorem NO {K:Frag}{Q:ET}(X:K.In s.heap)(hf:findIn K (.ref 135) "__iter__" = some (some (.builtin "tuple.__iter__")))(hm:mroIn K 135 (.type "tuple")=some true)(ht:IsMat s.heap t items)
  (hQ:Q (.ref s.heap.objs.size) { s with heap:=s.heap.push { cls:=.type "tuple_iterator",data:=.fields #[.ref t,.int 0 0] } }):wpAny Md A (pyIter (.ref t)) Q E s:=by
 x_go;show aS ht λo ho hc _=>?_;apply Z;have t1:Looks Md s.heap (typeOf (.ref t)) (.ref 135):=by rw[<-hc];show(DO ho).andThen .now
 have t3:=looks_findIn (M:=model PW W0) X hf;have go:∀{W:ET},W (.ref s.heap.objs.size) { s with heap:=s.heap.push { cls:=.type "tuple_iterator",data:=.fields #[.ref t,.int 0 0] } }->wpAny Md A (call (.builtin "tuple.__iter__") [.ref t]) W E s:=λ{W} hW=>by show wpAny_call (codeAny_call_builtin slot_tuple_iter.plain entry_tuple_iter (check_slot NM NN (t1.andThen (looks_mroIn X hm)) (args_tuple_iter _) ?_));change wpAny _ _ (do ret (<-newFields "tuple_iterator" [.ref t,rawInt 0])) _ _ s;show wB (wpAny_newObj_type (wP hW))
 delta pyIter callSpecialIfBoundUnlessNone? bindSpecialIfBound? specialOf;show wB (wB (t1.here (t3.here ?_)));show wB (wpAny_holding (wB (wB (wB (t1.here (t3.here ?_))))));show wB (wpAny_askSetting (wpAny_ite ?_));have fin:∀{W:Option Value->Shared->Prop},W (some (.ref s.heap.objs.size)) { s with heap:=s.heap.push { cls:=.type "tuple_iterator",data:=.fields #[.ref t,.int 0 0] } }->wpAny Md A (if (Value.builtin "tuple.__iter__" == Value.none)=true then((do rule "iter.none";raiseError "TypeError" s!"'{← typeNameOf (.ref t)}' object is not iterable") >>= λv=>pure (some v)) else(call (.builtin "tuple.__iter__") [.ref t] >>= λv=>pure (some v))) W E s:=λ{W} hW=>by rw[if_neg (by rw[builtin_beq_none];decide)];show wB (go (wP hW))
 have last:wpAny Md A (match some (Value.ref s.heap.objs.size) with
  | some it=>(do match <-specialOf it "__next__" with
   | none=>rule "iter.non-iterator";raiseError "TypeError" s!"iter() returned non-iterator of type '{← typeNameOf it}'"
   | some _=>pure it)
  | none=>unsupported "") Q E { s with heap:=s.heap.push { cls:=.type "tuple_iterator",data:=.fields #[.ref t,.int 0 0] } }:=
  wB (wpAny_specialOf (T := "tuple_iterator") (aM _ (AI _ rfl) rfl) slot_tupleiter_next.lookup (wP hQ))
 split
 .exact wB (wP (wP (fin last)))
 .exact wpAny_tryCatch (wB (wP (wP (fin last))))
theorem NP{K:Frag}{Q:List Value->Shared->Prop}(X:K.In s.heap)(hf:findIn K (.ref 135) "__iter__" = some (some (.builtin "tuple.__iter__")))(hm:mroIn K 135 (.type "tuple")=some true)(hh:A.handled=none)(ht:IsMat s.heap t items)
  (hQ:∀h',Heap.ExtBut s.heap.objs.size s.heap h'->Q items.toList { s with heap:=h' }):wpAny Md A (unpackItems (.ref t) items.size none) Q E s:=by
 x_go;have hts:=ht.seq;have hlt:t≠s.heap.objs.size:=by show aY hts λo n ho _=>?_;show Ei (Cd ho)
 show aS (id ht) λo ho hc _=>?_;apply Z;have t1:Looks Md s.heap (typeOf (.ref t)) (.ref 135):=by rw[<-hc];show(DO ho).andThen .now
 delta unpackItems notIterableAtAll specialOf;show wB (wB (wB (t1.here ((looks_findIn X hf).here ?_))));show wP ?_;show wB (wpAny_holding (NO X hf hm ht ?_));show wB (wpAny_holding (NL hlt items.size 0 _ _ (aO _ (AI _ rfl) rfl rfl) (hts.push _) (F10 7799813 1 rfl) λh₁ hit₁ hs₁=>?_));have hall:List.take items.size (List.drop 0 items.toList)=items.toList:=by rw[List.drop_zero];show BE (by simp)
 rw[hall];rw[if_neg (by simp)];show wB (wpAny_holding (NK hh hit₁ ((hts.push _).extBut hs₁.extBut hlt) (by simp) λh₂ he₂=>?_));show wP (hQ h₂ λb o hb e=>he₂ b o hb (hs₁.extBut b o hb (AX _ e)))
theorem HG{K:Frag}{k pos}{xs:List AV}{Q:Loc->Hp->Prop}(G:Gnd K B)(hf:findIn K (.ref 135) "__iter__" = some (some (.builtin "tuple.__iter__")))(hm:mroIn K 135 (.type "tuple")=some true)(hh:A.handled=none)(hts:(assignEach elts aa).map (·.2)=ts)(hn:(assignEach elts aa).length=xs.length)(hstar:(assignEach elts aa).findIdx? (·.1)=none)
  (h:↥ASGS ts xs m hp Q):↥ASG (.Tuple elts k pos) (.mat xs) m hp Q:=λs v r hv=>by
 simp only[VR]at hv;show aN hv λa vs zz1 ht hvs=>?_;clear hv;subst zz1;rw[PyProof.Rows.assign_Tuple];show wB (wpAny_standAt ?_);unfold unpack;rw[hn,hstar,<-hvs.length,A7];show wB (wpAny_holding (NP (G.X.keeps r.keep) hf hm hh ht λh' he=>?_));show aU (r.ext he s.toks) λr' le=>?_;rw[hts];show useA (h _ _ r' (hvs.mono le)) λ_ ax ao ae ay aw q=>mkA ay (le.trans aw) q
theorem Ju {a:Int}(hb:b≠0)(hs:b.natAbs<1073741824)(h:Q (.int (a.fdiv b)) hp):↥OP2 (binaryOp .FloorDiv) m (.int a) (.int b) hp Q:=λs u v r hu hv=>by simp only[VR]at hu hv;obtain⟨t,rfl⟩:=hu;obtain⟨t',rfl⟩:=hv;show PyProof.Rows.floordiv_int hb ⟨_,hp,r.toks _,.refl _,VR_int,h⟩ (.inl (PyProof.noPylong_small hs))
theorem NQ{K:Frag}{f:Addr}{us:List (An×Value)}{bs:List (An×AV)}(G:Gnd K B)(hg:B.gens = #[])(ho:K.lookup f=some ⟨.type "function",none,.func fd,#[]⟩)(hcd:codeIn K fd.code fd.qualname=true)
  (hbody:fd.body = .stmts body)(aB:A.depth<recursionLimit)(hclo:fd.closure=[])
  (hb:bindArgs fd ⟨vs,[]⟩=pure us)(e1:us.map (·.1)=bs.map (·.1))(e2:VRs B.heap (bs.map (·.2)) (us.map (·.2)))
  (hkind:∀L,∀x∈bs,fd.scope.names.lookup x.1=some .local\/(fd.scope.names.lookup x.1=some .cell/\((cellsFrom (L+1) fd.scope.names []).lookup x.1).isSome=true))
  (h:∀L,EXs Md (A.deeper (callEnvC fd L f)) (λ_ _=>False) B (callEnvC fd L f) body (bindLA (callEnvC fd L f).kindOf bs λ_=>none) (Bz (λ_=>none) (cellsFrom (L+1) fd.scope.names []) (Dl (callEnvC fd L f).kindOf bs λ_=>none)) (λfl _ _=>fl = .ret (.bool true)))
  (hnd:∀L,∀n c,(n,c)∈cellsFrom (L+1) fd.scope.names []->(cellsFrom (L+1) fd.scope.names []).lookup n=some c)
  (hco:autoParam (fd.scope.isCoroutine=false) rB)(hgen:autoParam (fd.scope.isGenerator=false) rB)(hk:autoParam (fd.scope.kind = .function) rB) :
  wpAny Md A (call (.ref f) vs) (λv s'=>v = .bool true/\OldK B.heap s'.heap/\s'.os=B.os/\AllBare s'.gens) (λ_ _=>False) B:=by
 show wpAny_call ?_;have hkd:∀x∈us,fd.scope.names.lookup x.1=some .local\/(fd.scope.names.lookup x.1=some .cell/\((cellsFrom (B.heap.objs.size+1) fd.scope.names []).lookup x.1).isSome=true):=λx hx=>by
  have:x.1∈bs.map (·.1):=by rw[<-e1];show Dw hx
  show aK (Bk.mp this) λy hy e=>?_;rw[<-e];show hkind _ y hy
 show codeAny_call_cells aB (G.X _ _ ho) rfl G.lim (codeRec_of G.X hcd) hbody hb hclo hkd (λar x=>?_) hco hgen hk;x_go;clear hkd;obtain⟨⟨⟨h₁,tk₁,rfl⟩,xns,xk,xf⟩,xc,xa,xab⟩:=x;z_go;have le:=ImmLe.keep xk;generalize hLL:B.heap.objs.size=L at *;have rel:Rel B ((Bz (λ_=>none) (cellsFrom (L+1) fd.scope.names []) (Dl (callEnvC fd L f).kindOf bs λ_=>none)).set (callEnvC fd L f).locals (.ns (bindLA (callEnvC fd L f).kindOf bs λ_=>none))) { B with heap:=h₁,toks:=tk₁ }:=by
  show⟨λb o e=>xk _ _ e,λa o e=>?_,rfl,⟨by change AllBare B.gens;rw[hg];show λy hy=>by simp at hy,.refl _⟩,?_⟩
  .by_cases ha:a=L
   .clear xc xf xab xa;subst ha;rw[show(callEnvC fd a f).locals=a from rfl,Ad]at e;cases e;show⟨Nat.le_of_eq hLL,_,xns,Jp e1 (e2.mono le) ⟨λx v e=>(by cases e),λx _=>rfl⟩⟩
   .rw [show(callEnvC fd L f).locals=L from rfl,Al _ _ ha]at e;unfold Bz at e;cases hf:(cellsFrom (L+1) fd.scope.names []).find? (λx=>decide (x.2=a)) with
    | some x=>
     rw[hf]at e;cases e;have hmem:=List.mem_of_find?_eq_some hf;have hxa:x.2=a:=by have:=List.find?_some hf;simpa using this
     show aK (xc x.1 a (by have:=hnd L x.1 x.2 hmem;rw[hxa]at this;show this)) λo' ho' hd'=>?_;show⟨by rw[<-hxa,hLL];show By (xab x.1 x.2 hmem),o',_,ho',hd',?_⟩;have hC:=Jq (k:=(callEnvC fd L f).kindOf) (h:=h₁) e1 (e2.mono le) (m:=λ_=>none) (mv:=λ_=>none) ⟨λx v e=>(by cases e),λx _=>rfl⟩;cases hcm:Dl (callEnvC fd L f).kindOf bs (λ_=>none) x.1 with
     | none=>show hC.2 x.1 hcm
     | some v=>show aK (hC.1 x.1 v hcm) λu hu hvu=>?_;show aM u hu hvu
    | none=>
     rw[hf]at e;cases e
  .rw [hLL];show By xns.lt
 show wpAny_mono (h L _ rel) (λfl s' x=>?_) λ_ _ x=>x.elim;x_go;obtain⟨af,m',ah,r',le',hf,e⟩:=x;subst e;show aK hf λu zz1 hu=>?_;clear hf;subst zz1;z_go;subst hu;show aV rfl (OldK.of_keep r'.keep) r'.os r'.bare.1
theorem NR (x:IntsAre vs ns):VRs h (ns.map .int) vs:=by
 induction x with
 | nil=>rfl
 | cons n t _ ih=>simp only[A1,VRs];show aT _ _ rfl VR_int ih
section
variable {lt:Nat->Nat->Bool}{n:Nat}
theorem KS.bind {α β:Type}{f : α->KasT β}{Q : β->Prop}:∀{t:KasT α},KS lt n (λa=>KS lt n Q (f a)) t->KS lt n Q (t.bind f)
 | .ret _,h=>h
 | .ask _ _ _,h=>⟨h.1,h.2.1,KS.bind h.2.2⟩
end
section
variable {lt:Nat->Nat->Bool}{n:Nat}
theorem KS.mono {α:Type}{Q Q' : α->Prop}(hq:∀a,Q a->Q' a):∀{t:KasT α},KS lt n Q t->KS lt n Q' t
 | .ret _,h=>hq _ h
 | .ask _ _ _,h=>⟨h.1,h.2.1,KS.mono hq h.2.2⟩
end
section
variable {lt:Nat->Nat->Bool}{n:Nat}
theorem Jv {α:Type}{cmp:Nat->Nat->(Bool->Shared->Prop)->Shared->Prop}{Q : α->Prop}{P : α->Shared->Prop}{s:Shared}(hc:∀i j C,i<n->j<n->C (lt i j) s->cmp i j C s)(hq:∀a,Q a->P a s):∀{t:KasT α},KS lt n Q t->t.kasWp cmp P s
 | .ret _,h=>hq _ h
 | .ask _ _ _,h=>hc _ _ _ h.1 h.2.1 (Jv hc hq h.2.2)
end
theorem PM.of {q:Array Nat}(h:PM n p)(e:q.Perm p):PM n q:=⟨e.size_eq.trans h.sz,(Array.perm_iff_toList_perm.mp e).trans h.pm⟩
theorem PM.get (h:PM n p)(hi:i<n):p[i]?=some (p.getD i 0):=by simp[Array.getD,h.sz,hi]
theorem PM.below (h:PM n p)(hi:i<n):p.getD i 0<n:=by
 have e:=h.get hi;have hm:p.getD i 0∈p.toList:=by rw[<-Array.getElem?_toList]at e;show BS e
 show BM.mp (h.pm.mem_iff.mp hm)
theorem PM.inj (h:PM n p){j:Nat}(hi:i<n)(hj:j<n)(e:p.getD i 0=p.getD j 0):i=j:=by
 have a:=h.get hi;have b:=h.get hj;rw[<-Array.getElem?_toList]at a b;rw[e,<-b]at a;have hl:i<p.toList.length:=by rw[A7,h.sz];show hi
 show(List.getElem?_inj hl (h.pm.nodup_iff.mpr Ha)).mp a
theorem UpTo.snoc {lt:Nat->Nat->Bool}(T:TO lt n)(P:PM n p){k:Nat}(h:UpTo lt p k)(hk:k<n)(h1 : 0<k)(h2:lt (p.getD (k-1) 0) (p.getD k 0)=true):UpTo lt p (k+1):=λi j hij hj=>by
 by_cases e:j=k
 .subst e;by_cases e2:i=j-1
  .subst e2;show h2
  .exact T.trans _ _ _ (P.below (Fa () ())) (P.below (FB ())) (P.below hk) (h i (j-1) (F20 0x784984078620680a 4564517120 rfl e2 hij) (Cw ())) h2
 .exact h i j hij (F20 0x87468074087620 69889 rfl e hj)
section
variable {lt:Nat->Nat->Bool}{n:Nat}
theorem HH (T:TO lt n){p:Array Nat}(P:PM n p):∀f k,1<=k->k+f=n->UpTo lt p k->KS lt n (λm=>k<=m/\m<=n/\UpTo lt p m/\(m<n->lt (p.getD m 0) (p.getD (m-1) 0)=true)) (kas_asc p f k)
 | 0,k,h1,hk,h=>⟨A5 _,by lia,h,λh=>by lia⟩
 | f+1,k,h1,hk,h=>by
  show⟨P.below ⇑(F30 0x97496807060 257 rfl hk),P.below ⇑(F30 0xa74a6908060670a 65808 rfl hk),?_⟩;cases e:lt (p.getD k 0) (p.getD (k-1) 0) with
  | true=>show⟨A5 _,by show F30 0x97596807060 257 rfl hk,h,λ_=>e⟩
  | false=>
   dsimp only;rw[if_neg EZ];have h2:=T.tot _ _ (P.below (i:=k) (by lia)) (P.below (i:=k-1) (by lia)) (λe'=>by have:=P.inj (by lia) (by lia) e';(show F10 0x378608650671a 4564455440 rfl h1 this)) e;show(HH T P f (k+1) ⇑(BU _) (by lia) (h.snoc T P (by lia) () h2)).mono λm ⟨a,b,c,d⟩=>⟨by show By (),b,c,d⟩
end
theorem DownTo.snoc {lt:Nat->Nat->Bool}(T:TO lt n)(P:PM n p){k:Nat}(h:DownTo lt p k)(hk:k<n)(h1 : 0<k)(h2:lt (p.getD k 0) (p.getD (k-1) 0)=true):DownTo lt p (k+1):=λi j hij hj=>by
 by_cases e:j=k
 .subst e;by_cases e2:i=j-1
  .subst e2;show h2
  .exact T.trans _ _ _ (P.below hk) (P.below (FB ())) (P.below (Fa () ())) h2 (h i (j-1) (F20 0x784984078620680a 4564517120 rfl e2 hij) (Cw ()))
 .exact h i j hij (F20 0x87468074087620 69889 rfl e hj)
theorem NS {lt:Nat->Nat->Bool}(T:TO lt n)(P:PM n p):∀f k,1<=k->k+f=n->DownTo lt p k->KS lt n (λr=>∃m,r=(p,m,0)/\k<=m/\m<=n/\DownTo lt p m) (kas_desc f p k 0):=by
 intro r_
 induction r_ with
 | zero=>
  intro k h1 hk h;show aW k rfl (A5 _) (F20 0x8758047060 257 rfl hk) h
 | succ f ih=>
  intro k h1 hk h;show⟨P.below ⇑(F30 0x97496807060 257 rfl hk),P.below ⇑(F30 0xa74a6908060670a 65808 rfl hk),?_⟩;cases e:lt (p.getD k 0) (p.getD (k-1) 0) with
  | true=>
   show(ih (k+1) (BU _) (F30 0x986700696807060 1052944 rfl hk) (h.snoc T P ⇑(F30 0x97496807060 257 rfl hk) () e)).mono λr q42=>q42.elim λm q43=>q43.elim λa q44=>q44.elim λb q45=>q45.elim λc d=>aW m a (By ()) c d
  | false=>
   show⟨P.below ⇑(F30 0xa74a6908060670a 65808 rfl hk),P.below ⇑(F30 0x97496807060 257 rfl hk),?_⟩;rw[(T.tot _ _ (P.below (i:=k) ⇑(F30 0x97496807060 257 rfl hk)) (P.below (i:=k-1) ⇑(F30 0xa74a6908060670a 65808 rfl hk)) (λe'=>by have:=P.inj ⇑(F30 0x97496807060 257 rfl hk) ⇑(F30 0xa74a6908060670a 65808 rfl hk) e';show F10 0x378608650671a 4564455440 rfl h1 this) e)];show aW k rfl (A5 _) (F30 0x97596807060 257 rfl hk) h
theorem NT {lt:Nat->Nat->Bool}(P:PM n p){k:Nat}(hk:k<=n)(h:DownTo lt p k):UpTo lt (kas_rev p 0 k) k:=λi j hij hj=>by
 have g:∀i,i<k->(kas_rev p 0 k).getD i 0=p.getD (k-1-i) 0:=λi hi=>by have e:=getElem?_mirror_all (xs:=p) (i:=0) (j:=k) (by rw[P.sz];show hk) i;simp only[I7];rw[e];congr 2;lia
 rw[g i (Fa () ()),g j (by omega)];show h _ _ (F30 0x784cb40ba40980a971a690a 0x111010101101011000 rfl hij hj) (F30 0xb74ba40a940870a691a 0x11110011001010 rfl hij hj)
theorem NU {lt:Nat->Nat->Bool}(T:TO lt n)(P:PM n p){k:Nat}(h1 : 1<=k)(hk:k<=n)(h:DownTo lt p k):KS lt n (λr=>PM n r.2/\1<=r.1/\r.1<=n/\UpTo lt r.2 r.1) (kas_tail3 k n p):=by have P':PM n (kas_rev p 0 k):=P.of (mirror_perm _ _ _ _);show KS.bind ((HH T P' (n-k) k h1 (F20 0x978069850781a 0x1101101010101001 rfl hk) (NT P hk h)).mono λm q60=>q60.elim λa q61=>q61.elim λb q62=>q62.elim λc _=>aV P' (by change 1<=m;(show ER () ())) b c)
theorem NV {lt:Nat->Nat->Bool}(T:TO lt n)(P:PM n p)(h2 : 2<=n):KS lt n (λr=>PM n r.2/\1<=r.1/\r.1<=n/\UpTo lt r.2 r.1) (kas_count n p):=by
 show KS.bind ((HH T P (n-1) 1 (A5 _) (F10 0x8760682450671a 0x110011010101001 rfl h2) (λi j a b=>(F20 0x368408740 17 rfl a b).elim)).mono λm yq=>?_);x_go;show a7 yq λa b c d=>?_;clear yq;z_go;by_cases e:m=n
 .clear d b h2 T;subst e;rw[if_pos (by simp)];show aV P a (A5 _) c
 .rw [if_neg (by simpa using e)];by_cases e1:m>1
  .rw [if_pos e1];show⟨P.below (DP ()),P.below (F20 0x974985098620670a 4563468560 rfl e b),?_⟩;rw[c 0 (m-1) (F10 0x70448640670a 4353 rfl e1) (Cw ())];show aV P a b c
  .have em:m=1:=F10 0x676764207650 1114369 rfl a e1
   clear e1 e c b a;subst em;show KS.bind ((NS T P (n-2) 2 (Dd _) (F10 0x872406824502471a 0x1101101010101001 rfl h2) (λi j hij hj=>?_)).mono λr q26=>q26.elim λk q27=>q27.elim λhr q28=>q28.elim λk1 q29=>q29.elim λk2 k3=>?_)
   .have e:i=0/\j=1:=⟨F20 0x476248408740 1118464 rfl hij hj,F20 0x686248408740 1114369 rfl hij hj⟩
    rw[e.1,e.2];show(d ())
   .clear q27 q26;subst hr;show NU T P (k:=k) (By ()) k2 k3
theorem NW {lt:Nat->Nat->Bool}(T:TO lt n)(P:PM n p){k:Nat}(hk:k<n)(hu:UpTo lt p k):∀f l r,l<=r->r<=k->r-l<=f->(∀i,i<l->lt (p.getD i 0) (p.getD k 0)=true)->(∀i,r<=i->i<k->lt (p.getD k 0) (p.getD i 0)=true) ->
  KS lt n (λm=>m<=k/\(∀i,i<m->lt (p.getD i 0) (p.getD k 0)=true)/\(∀i,m<=i->i<k->lt (p.getD k 0) (p.getD i 0)=true)) (kas_place p k f l r):=by
 intro r_
 induction r_ with
 | zero=>
  intro l r h1 h2 h3 h4 h5;have:l=r:=by(show F20 0x986047509850780a 68987981825 rfl h1 h3)
  clear h3 h1;subst this;show aP h2 h4 h5
 | succ f ih=>
  intro l r h1 h2 h3 h4 h5;dsimp only[kas_place];by_cases hl:l>=r
  .rw [if_pos hl];have:l=r:=by(show Nat.le_antisymm () ())
   clear hl h3 h1;subst this;show aP h2 h4 h5
  .rw [if_neg hl];show⟨P.below hk,P.below (F40 0x974ba5208a5098409a022a 2171408 rfl hk h2 hl),?_⟩;cases e:lt (p.getD k 0) (p.getD ((l+r) / 2) 0) with
   | true=>
    show ih l _ (F20 0x7959852078022a 16897 rfl hl) (F30 0x975a8520985079022a 135696 rfl h2 hl) (F30 0xa85cb5206a0750ba0aa71a89022a 0x100000100212022010 rfl h3 hl) h4 λi hi hik=>?_;by_cases e2:i=(l+r) / 2
    .subst e2;show e
    .exact T.trans _ _ _ (P.below hk) (P.below ⇑(F40 0x974ba5208a5098409a022a 2171408 rfl hk h2 hl)) (P.below (Fa () ())) e (hu _ _ (F20 0x784785087620 1052689 rfl e2 hi) hik)
   | false=>
    have h6:=T.tot _ _ (P.below hk) (P.below (i:=(l+r) / 2) ⇑(F40 0x974ba5208a5098409a022a 2171408 rfl hk h2 hl)) (λe'=>by have:=P.inj hk ⇑(F40 0x974ba5208a5098409a022a 2171408 rfl hk h2 hl) e';(show F30 0x37960a8520985079022a 135696 rfl h2 hl this)) e;show ih _ r (F20 0x867059852078022a 8464 rfl hl) h2 (F30 0xa856a0750ab0a670a1a98022a 0x1000010042024001 rfl h3) (λi hi=>?_) h5;by_cases e2:i=(l+r) / 2
    .subst e2;show h6
    .exact T.trans _ _ _ (P.below (fk [_,_,_,_,_] [] 0x9c4670c40ba5208a5098409a022a 35725840 rfl hk h2 hl hi)) (P.below ⇑(F40 0x974ba5208a5098409a022a 2171408 rfl hk h2 hl)) (P.below hk) (hu _ _ ⇑(F20 0x87468074087620 69889 rfl e2 hi) ⇑(F30 0x974a8520985079022a 135696 rfl h2 hl)) h6
theorem NY {lt:Nat->Nat->Bool}(T:TO lt n):∀f (p:Array Nat) k,k+f=n->PM n p->UpTo lt p k->KS lt n (λq=>PM n q/\UpTo lt q n) (kas_bin f p k):=by
 intro r_
 induction r_ with
 | zero=>
  intro p k hk P h
  subst(by omega:k=n);show⟨P,h⟩
 | succ f ih=>
  intro p k hk P h;have hkn:k<n:=F30 0x97496807060 257 rfl hk
  show KS.bind ((NW T P hkn h k 0 k (Bp _) (A5 _) (DG ..) (λi hi=>by lia) (λi a b=>by lia)).mono λm yq=>?_);show aZ yq λa b c=>?_;show ih _ (k+1) (F30 0x986700696807060 1052944 rfl hk) (P.of (bubble_perm _ _ _)) λi j hij hj=>?_;have g:∀i,i<=k->(bubble p k (k-m)).getD i 0=if i=m then p.getD k 0 else if m<i then p.getD (i-1) 0 else p.getD i 0:=λi hi=>by
   simp only[I7];rw[(getElem?_bubble (xs:=p) (src:=k) (by rw[P.sz];show hkn) (k-m) (DG ..) i),(by(show F20 0x976a950791a781a 0x100100111001101010110101100100101010101001100110 rfl a):k-(k-m)=m)];by_cases e1:i=m
   .rw [if_pos e1,if_pos e1]
   .rw [if_neg e1,if_neg e1];by_cases e2:m<i
    .rw [if_pos ⟨e2,hi⟩,if_pos e2]
    .rw [if_neg (λh=>e2 h.1),if_neg e2]
  rw[g i (F30 0x9756908408740 273 rfl hij hj),g j (Nat.le_of_lt_succ ())];by_cases e1:i=m
  .rw [if_pos e1,if_neg ⇑(F30 0x986297608740 4353 rfl hij e1),if_pos ⇑(F30 0x89497608740 4353 rfl hij e1)];show c _ (F30 0x7a5a8609840680a 1114369 rfl hij e1) (F40 0xa74b8606a09409840681a 0x11011011001010 rfl hij hj e1)
  .rw [if_neg e1];by_cases e2:j=m
   .rw [if_pos e2,if_neg ⇑(F30 0x794298608740 4113 rfl hij e2)];show b _ (F30 0x97498608740 4113 rfl hij e2)
   .rw [if_neg e2];by_cases e3:m<i
    .rw [if_pos e3,if_pos (Fa () ())];show h _ _ (F30 0x7849b40a940690a671a 0x11101011010110 rfl hij e3) (F40 0xa748b406a09409840681a 0x10110101010 rfl hij hj e3)
    .rw [if_neg e3];by_cases e4:m<j
     .rw [if_pos e4];show h _ _ (F30 0x784a9408942098620690a 73015558401 rfl e1 e3 e4) (F30 0x9748a40690840671a 73283993872 rfl hj e4)
     .rw [if_neg e4];show h _ _ (by omega) (F30 0x97478420985087620 16846865 rfl e2 a e4)
theorem NZ {lt:Nat->Nat->Bool}(T:TO lt n)(h2 : 2<=n):KS lt n (λq=>PM n q/\UpTo lt q n) (kas_sort n):=by
 show KS.bind ((NV T (⟨by simp,by rw[]⟩) h2).mono λr yq=>?_);x_go;show a7 yq λa b c d=>?_;z_go;by_cases e:r.1<n
 .rw [if_pos e,(by lia:max r.1 1=r.1)];show NY T _ _ _ (F20 0x978069840781a 0x110011010101001 rfl e) a d
 .rw [if_neg e];have:r.1=n:=F20 0x876874208750 1052944 rfl c e
  show⟨a,by rw[this]at d;show d⟩
theorem HI {x y:Int×Int×Int}(h:lexB x y=false)(hn:x≠y):lexB y x=true:=by
 obtain⟨a,b,c⟩:=x;obtain⟨d,e,f⟩:=y;unfold lexB at *;dsimp only at *;by_cases h1:a=d
 .subst h1;rw[if_pos rfl]at h ⊢;by_cases h2:b=e
  .subst h2;rw[if_pos rfl]at h ⊢;simp only[decide_eq_false_iff_not]at h;simp only[decide_eq_true_eq];(show F02 0x7878772087920 1052689 rfl (λe=>hn (by rw[e]):c≠f) h)
  .rw [if_neg h2]at h;rw[if_neg (Ah h2)];simp only[decide_eq_false_iff_not]at h;simp only[decide_eq_true_eq];(show F02 0x7878772087920 1052689 rfl h2 h)
 .rw [if_neg h1]at h;rw[if_neg (Ah h1)];simp only[decide_eq_false_iff_not]at h;simp only[decide_eq_true_eq];show F02 0x7878772087920 1052689 rfl h1 h
theorem Fq {x y:Int×Int×Int}:lexB x y=true↔x.1<y.1\/(x.1=y.1/\(x.2.1<y.2.1\/(x.2.1=y.2.1/\x.2.2<y.2.2))):=by
 unfold lexB;by_cases h:x.1=y.1
 .rw [if_pos h];by_cases h2:x.2.1=y.2.1
  .rw [if_pos h2,decide_eq_true_eq];show⟨λq=>.inr ⟨h,.inr ⟨h2,q⟩⟩,λq=>?_⟩;rcases q with q | ⟨_,q | ⟨_,q⟩⟩
   .exact absurd h (Int.ne_of_lt q)
   .exact absurd h2 (Int.ne_of_lt q)
   .exact q
  .rw [if_neg h2,decide_eq_true_eq];show⟨λq=>.inr ⟨h,.inl q⟩,λq=>?_⟩;rcases q with q | ⟨_,q | ⟨e,_⟩⟩
   .exact absurd h (Int.ne_of_lt q)
   .exact q
   .exact absurd e h2
 .rw [if_neg h,decide_eq_true_eq];show⟨.inl,λq=>q.elim (λq=>q) λq=>absurd q.1 h⟩
theorem Gp {x y z:Int×Int×Int}(h1:lexB x y=true)(h2:lexB y z=true):lexB x z=true:=by rw[Fq]at *;show Li h1 h2
theorem HJ (x:Int×Int×Int):lexB x x=false:=by
 cases h:lexB x x with
 | false=>rfl
 | true=>rw[Fq]at h;show(h.elim (DQ _) λh=>h.2.elim (DQ _) λh=>DQ _ h.2:False).elim
theorem Jw {xs ys:List (Int×Int×Int)}(p:xs.Perm ys)(h1:xs.Pairwise (λa b=>lexB a b=true))(h2:ys.Pairwise (λa b=>lexB a b=true)):xs=ys:=
 p.eq_of_pairwise (λa b _ _ h1 h2=>by have:=Gp h1 h2;rw[HJ]at this;cases this) h1 h2
theorem Oa (a b:Value):Builtin.«tuple.__lt__» ⟨[a,b],[]⟩=(do
  if !(<-isInstance b (.type "tuple")) then return <-ret .notImplemented
  let xs <-Builtin.Tuple.tupleItemsOf a;let ys <-Builtin.Tuple.tupleItemsOf b
  for (x,y) in xs.toList.zip ys.toList do
   if !(<-eqBool x y) then
    rule "tuple.compare.by-the-first-pair-that-differs";return <-ret (<-richCompare .Lt x y)
  ret (Builtin.Tuple.tupleCompareSizes .Lt xs.size ys.size)):=rfl
theorem Ob:builtinKind "tuple.__lt__" = some .slot:=by decide +kernel
theorem Oc:splitId "tuple.__lt__" = some ("tuple", "__lt__"):=by decide +kernel
theorem HK{vs:Array Value}{Q:Array Value->Shared->Prop}(h:IsMat s.heap a vs)(q:Q vs s):wpAny Md A (Builtin.Tuple.tupleItemsOf (.ref a)) Q E s:=by x_go;show aS h λo ho _ zz1=>?_;show be zz1 λn hd=>?_;clear zz1;z_go;unfold Builtin.Tuple.tupleItemsOf;show wB (wpAny_seqItems ho hd (wP q))
theorem Od {b:Addr}{x y:Int×Int×Int}(hi:Looks Md s.heap (isInstance (.ref b) (.type "tuple")) true)(ha:Eu s.heap a x)(hb:Eu s.heap b y)
  (h:P (.done (.ret (.bool (lexB x y)))) s):wpAny Md A (Builtin.«tuple.__lt__» ⟨[.ref a,.ref b],[]⟩) P E s:=by
 x_go;show bI ha λt1 t2 t3 ha=>?_;show bI hb λu1 u2 u3 hb=>?_;apply Z;rw[Oa];show wB (hi.here ?_);show wB (HK ha (wB (HK hb ?_)));unfold lexB at h;show wB (wB (wB (wpAny_eqBool_int ?_)));by_cases h1:x.1=y.1
 .rw [if_pos h1]at h;rw[(beq_iff_eq.mpr h1:(x.1 == y.1)=true)];show wP ?_;show wB (wB (wpAny_eqBool_int ?_));by_cases h2:x.2.1=y.2.1
  .rw [if_pos h2]at h;rw[(beq_iff_eq.mpr h2:(x.2.1 == y.2.1)=true)];show wP ?_;show wB (wB (wpAny_eqBool_int ?_));by_cases h3:x.2.2=y.2.2
   .rw [(beq_iff_eq.mpr h3:(x.2.2 == y.2.2)=true)];show wP ?_;show wP ?_;have e:decide (x.2.2<y.2.2)=false:=by show decide_eq_false_iff_not.2 ?_;show F02 0x87728790 272 rfl h3
    rw[e]at h;show wP h
   .rw [(beq_eq_false_iff_ne.mpr h3:(x.2.2 == y.2.2)=false)];show wB (wpAny_rule (wB (lt_int (wB (wP (wP (wP (wP h))))))))
  .rw [if_neg h2]at h;rw[(beq_eq_false_iff_ne.mpr h2:(x.2.1 == y.2.1)=false)];show wB (wpAny_rule (wB (lt_int (wB (wP (wP (wP (wP h))))))))
 .rw [if_neg h1]at h;rw[(beq_eq_false_iff_ne.mpr h1:(x.1 == y.1)=false)];show wB (wpAny_rule (wB (lt_int (wB (wP (wP (wP (wP h))))))))
theorem Oe{K:Frag}{b:Addr}{x y:Int×Int×Int}{Q:Bool->Shared->Prop}(hu:A.units<cLine)(X:K.In s.heap)(hf:findIn K (.ref 135) "__lt__" = some (some (.builtin "tuple.__lt__")))(hm:mroIn K 135 (.type "tuple")=some true)(ha:Eu s.heap a x)(hb:Eu s.heap b y)
  (h:Q (lexB x y) s):wpAny Md A (keyLt' oneType' (.ref a) (.ref b)) Q E s:=by
 have ty:∀{c:Addr}{z:Int×Int×Int},Eu s.heap c z->Looks Md s.heap (typeOf (.ref c)) (.ref 135):=λ{c z} hc=>by show bI hc λ_ _ _ zz1=>?_;show aS zz1 λo ho hc _=>?_;rw[<-hc];show(DO ho).andThen .now
 have t1:=ty ha;have go:∀{W:ET},W (.bool (lexB x y)) s->wpAny Md A (call (.builtin "tuple.__lt__") [.ref a,.ref b]) W E s:=λ{W} hW=>by show wpAny_call (codeAny_call_builtin (F.slot_tuple_lt).plain F.entry_tuple_lt (check_slot Ob Oc (t1.andThen (looks_mroIn X hm)) (F.args_tuple_lt_2 _ _) ?_));show Od ((ty hb).andThen (looks_mroIn X hm)) ha hb hW
 show wB (wpAny_cRoomFor hu ?_);show wB ?_;show wpAny_holding (wB (wB (wB (t1.here ((looks_findIn (M:=model PW W0) X hf).here ?_)))));dsimp only;show((F.slot_tuple_lt).bind _:bindSpecial (Value.builtin "tuple.__lt__") (.ref a)=pure (Value.builtin "tuple.__lt__",[.ref a]))▸?_;show wB (wpAny_askSetting (wpAny_ite ?_));have fin:∀{W:Option Value->Shared->Prop},W (some (.bool (lexB x y))) s->wpAny Md A (call (.builtin "tuple.__lt__") ([.ref a]++[.ref b]) >>= λv=>pure (some v)) W E s:=λ{W} hW=>wB (go (wP hW));have last:wpAny Md A (truthOfDropped (.bool (lexB x y))) Q E s:=wpAny_truthy_bool h;split
 .exact wB (wP (wP (fin last)))
 .exact wpAny_tryCatch (wB (wP (wP (fin last))))
theorem Jx {α:Type}{xs:List α}{d : α}(h:i<xs.length):xs.getD i d=xs[i]:=by simp[List.getD,h]
theorem Fs {α:Type}{xs:List α}{d : α}(h:i<xs.length):xs[i]?=some (xs.getD i d):=by simp[List.getD,h]
theorem HL{x:Tri}{v:Value}(hv:VR h (triV x) v):∃b,v = .ref b/\Eu h b x:=by x_go;show aN hv λb us zz1 hm hu=>?_;clear hv;subst zz1;apply Z;show aM b rfl (?_);x_go;show aN hu λv1 r1 e1 zz1 zz2=>?_;show be zz1 λt1 h1=>?_;clear zz1;show aN zz2 λv2 r2 e2 zz3 zz4=>?_;clear zz2;show be zz3 λt2 h2=>?_;clear zz3;show aN zz4 λv3 r3 e3 zz5 e4=>?_;clear zz4;show be zz5 λt3 h3=>?_;clear zz5;subst e4;subst h3;subst e3;subst h2;subst e2;subst h1;apply Z;show⟨t1,t2,t3,by rw[(Hb.mp e1:us = #[Value.int x.1 t1,.int x.2.1 t2,.int x.2.2 t3])]at hm;show hm⟩
theorem Of:∀{xs:List AV}{vs:List Value},xs.length=vs.length->(∀(i:Nat) x v,xs[i]?=some x->vs[i]?=some v->VR h x v)->VRs h xs vs:=by
 intro r_;induction r_ with
 | nil=>
  intro vs hl _
  clear a;cases vs with
  | nil=>rfl
  | cons _ _=>injection hl
 | cons x xs ih=>
  intro vs hl hg
  cases vs with
  | nil=>injection hl
  | cons v vs=>
   show aT v vs rfl (hg 0 x v rfl rfl) (ih (by simpa using hl) λi y u hy hu=>hg (i+1) y u (by simpa using hy) (by simpa using hu))
theorem Og {xs:List Tri}(nd:xs.Nodup):TO (λi j=>lexB (xs.getD i (0,0,0)) (xs.getD j (0,0,0))) xs.length where
 tot i j hi hj hn h:=HI h λe=>by rw[Jx hi,Jx hj]at e;show hn ((List.getElem_inj nd).mp e)
 trans i j k _ _ _ h1 h2:=Gp h1 h2
theorem Oh {α:Type}{M:Model}{x y:Sem α}{P : α->Shared->Prop}(e:x=y)(h:wpAny M A y P E s):wpAny M A x P E s:=e▸h
theorem Jy{K:Frag}{V:Tri->AV}{κ:SortKind}{xs:List Tri}(G:Gnd K B)
  (hk:∀(s':Shared) (us:Array Value) (Q:SortKind->Shared->Prop),VRs s'.heap (xs.map V) us.toList->2<=us.size->Q κ s'->wpAny Md A (keyKind' us) Q E s')
  (hlt:∀(s':Shared) (x y:Tri) (u v:Value) (Q:Bool->Shared->Prop),K.In s'.heap->VR s'.heap (V x) u->VR s'.heap (V y) v->Q (lexB x y) s'->wpAny Md A (keyLt' κ u v) Q (λ_ _=>False) s')
  (r:Rel B hp[m]! s)(ha:hp a=some (.list (xs.map V)))(hL:a≠aa.locals)(nd:xs.Nodup)(h64:xs.length<64)
  (h:∀(ys:List Tri) s',ys.Perm xs->ys.Pairwise (λa b=>lexB a b=true)->Rel B (hp.set a (.list (ys.map V)))[m]! s'->ImmLe s.heap s'.heap->P (.done (.ret .none)) s'):wpAny Md A (Builtin.«list.sort» ⟨[.ref a],[]⟩) P E s:=by
 show aY (r.at ha hL) λvs n hl hvs=>?_;have hsz:vs.size=xs.length:=by rw[<-A7,hvs.length,Ai]
 obtain⟨e1,ho1⟩:∃e1,(s.heap.update a (Obj.mapSeq λ_=>(#[]:Array Value))).get? a=some (seqObj "list" #[] e1):=⟨_,get?_update_seq hl λ_=>#[]⟩;obtain⟨r1,le1⟩:=r.turn (Ab hL ha) (h':=s.heap.update a (Obj.mapSeq λ_=>(#[]:Array Value))) (B2 ..) (.list []) (λ_=>a8 (#[]) e1 ho1 rfl) s.toks;have r2:=(r1.push (seqObj "tuple" vs 0)).push (seqObj "list" #[] 0);have le2:ImmLe s.heap (((s.heap.update a (Obj.mapSeq λ_=>(#[]:Array Value))).push (seqObj "tuple" vs 0)).push (seqObj "list" #[] 0)):=le1.trans (ImmLe.keep λb o e=>AX _ (AX _ e));have ho2:(((s.heap.update a (Obj.mapSeq λ_=>(#[]:Array Value))).push (seqObj "tuple" vs 0)).push (seqObj "list" #[] 0)).get? a=some (seqObj "list" #[] e1):=AX _ (AX _ ho1);have fin:∀(ps:List Nat) (ah:ps.Perm (List.range xs.length)),(ps.map λi=>xs.getD i (0,0,0)).Pairwise (λa b=>lexB a b=true) ->
   P (.done (.ret .none)) { s with heap:=(((s.heap.update a (Obj.mapSeq λ_=>(#[]:Array Value))).push (seqObj "tuple" vs 0)).push (seqObj "list" #[] 0)).update a (Obj.mapSeq λ_=>List.toArray (ps.map λi=>vs.toList.getD i Value.none)) }:=λps ah hpw=>by
  obtain⟨c2,hc2⟩:∃c2,((((s.heap.update a (Obj.mapSeq λ_=>(#[]:Array Value))).push (seqObj "tuple" vs 0)).push (seqObj "list" #[] 0)).update a (Obj.mapSeq λ_=>List.toArray (ps.map λi=>vs.toList.getD i Value.none))).get? a=some (seqObj "list" (List.toArray (ps.map λi=>vs.toList.getD i Value.none)) c2):=⟨_,get?_update_seq ho2 λ_=>_⟩
  obtain⟨r3,le3⟩:=r2.turn (Ad ..) (h':=(((s.heap.update a (Obj.mapSeq λ_=>(#[]:Array Value))).push (seqObj "tuple" vs 0)).push (seqObj "list" #[] 0)).update a (Obj.mapSeq λ_=>List.toArray (ps.map λi=>vs.toList.getD i Value.none))) (B2 ..) (.list ((ps.map λi=>xs.getD i (0,0,0)).map V)) (λle=>⟨_,c2,hc2,by
   show Of (by simp) λi x v hx hv=>?_;simp only[Cy,AZ,C7,Function.comp]at hx hv;show aK hx λk hk zz1=>?_;rw[<-zz1];show aK hv λk' hk' zz1=>?_;clear hv;subst zz1;rw[hk]at hk';cases hk';show aK (hvs.get (i:=k) (x:=V (xs.getD k (0,0,0))) (by rw[AZ,Fs (d:=(0,0,0)) (BM.mp (ah.mem_iff.mp (BS hk)))];rfl)) λv e hv=>?_;have:vs.toList.getD k Value.none=v:=by rw[AD,e];rfl
   rw[this]
   show hv.mono (le2.trans le)⟩) s.toks
  rw[Ch,A8 _ _ _ (Ah hL)]at r3;show h _ _ ?_ hpw r3 (le2.trans le3);have:(List.range xs.length).map (λi=>xs.getD i (0,0,0))=xs:=by
   apply Hc;intro i;rw[AZ];by_cases hi:i<xs.length
   .rw [Fb hi];simp[hi]
   .rw [Dy (by simp;(show CF ())),Dy (CF ())];rfl
  rw[<-this];have:=ah.map (λi=>xs.getD i (0,0,0));rw[‹(List.range xs.length).map (λi=>xs.getD i (0,0,0))=xs›]at this ⊢;show this
 show Oh (list_sort_plain ..) ?_;show wB (listItems_at hl rfl ?_);show wB (listUpdate_at hl rfl ?_ (by rw[hsz,sizeLine_eq];lia) (Bp _));show wB (seqEpoch_at ho1 rfl ?_);show wB (wpAny_newTuple ?_ (by rw[A7,hsz,sizeLine_eq];lia));show wB (wpAny_newList ?_ (Bp _));show wpAny_holding ?_;dsimp only;by_cases h2:vs.size<2
 .rw [if_pos h2,if_pos h2];show wB (wP ?_);show wB (wP ?_);dsimp only;show wB (seqEpoch_at ho2 rfl ?_);have e0:(arrOf (SortSt.mk' general' (vs.zip vs) #[] 7 none)).map (·.2)=List.toArray ((List.range xs.length).map λi=>vs.toList.getD i Value.none):=by
   apply Array.ext_getElem?;intro i;change((vs.zip vs).map (·.2))[i]?=_;by_cases hi:i<vs.size
   .have hi':i<xs.length:=by(show F30 0x89479408760 4353 rfl hsz hi)
    simp[hi,hi',Fb]
   .have hi':¬i<xs.length:=by(show F30 0x8942794208760 4368 rfl hsz hi)
    simp[hi,hi']
  show wB (listUpdate_at ho2 rfl ?_ (Bp _) (by rw[e0];simp;rw[sizeLine_eq];show F20 0x61000000065085247408760 4368 rfl hsz h2));simp only[bne_self_eq_false,EY,if_false];rw[e0];show wP (fin _ (List.Perm.refl _) ?_)
  match xs,hsz with
  | [],_=>show List.Pairwise.nil
  | [x],_=>show El _ _
  | x::y::r,hz=>simp at hz;show(F20 0x36680076024740 257 rfl h2 hz).elim
 .rw [if_neg h2,if_neg h2];have tri:∀i,i<xs.length->VR (((s.heap.update a (Obj.mapSeq λ_=>(#[]:Array Value))).push (seqObj "tuple" vs 0)).push (seqObj "list" #[] 0)) (V (xs.getD i (0,0,0))) (vs.toList.getD i Value.none):=λi hi=>by
   show aK (hvs.get (i:=i) (x:=V (xs.getD i (0,0,0))) (by rw[AZ,Fs (d:=(0,0,0)) hi];rfl)) λv e hv=>?_;have e2:vs.toList.getD i Value.none=v:=by rw[AD,e];rfl
   rw[e2];show hv.mono le2
  show wB (hk { s with heap:=((s.heap.update a (Obj.mapSeq λ_=>(#[]:Array Value))).push (seqObj "tuple" vs 0)).push (seqObj "list" #[] 0) } vs _ (hvs.mono le2) (CF ()) ?_);have est:SortSt.mk' κ (vs.zip vs) #[] 7 none=kas_st κ (pairsOf vs.toList) (List.toArray (List.range xs.length)):=by have e:=kas_range (pairsOf vs.toList);rw[pairsOf_size,A7,hsz]at e;unfold kas_st;rw[e];unfold pairsOf;rfl
  rw[est]
  show wB (wpAny_mono (kas_runs (E:=E) (κ:=κ) (it:=pairsOf vs.toList) (n:=xs.length) (G:=λp s'=>s'={ s with heap:=((s.heap.update a (Obj.mapSeq λ_=>(#[]:Array Value))).push (seqObj "tuple" vs 0)).push (seqObj "list" #[] 0) }/\PM xs.length p/\UpTo (λi j=>lexB (xs.getD i (0,0,0)) (xs.getD j (0,0,0))) p xs.length)
   (Q:=λ_ st' s'=>∃p:Array Nat,arrOf st'=p.map (kas_item (pairsOf vs.toList))/\failedOf st'=none/\s'={ s with heap:=((s.heap.update a (Obj.mapSeq λ_=>(#[]:Array Value))).push (seqObj "tuple" vs 0)).push (seqObj "list" #[] 0) }/\PM xs.length p/\UpTo (λi j=>lexB (xs.getD i (0,0,0)) (xs.getD j (0,0,0))) p xs.length) (F20 0x82452474208760 4353 rfl hsz h2) h64 (λp' st' s' _ a2 a3 a4=>aO p' a2 a3 a4) ?_) ?_ λ_ _ e=>e)
  .refine Jv (λi j C hi hj hc=>?_) (λp hp=>⟨rfl,hp⟩) (NZ (Og nd) (F20 0x82452474208760 4353 rfl hsz h2));rw[<-kas_ask_eq];show hlt { s with heap:=((s.heap.update a (Obj.mapSeq λ_=>(#[]:Array Value))).push (seqObj "tuple" vs 0)).push (seqObj "list" #[] 0) } _ _ _ _ _ (G.X.keeps r2.keep) (tri i hi) (tri j hj) hc
  .rintro ⟨⟨⟩,st'⟩ s' ⟨p,harr,hff,rfl,hpm,hup⟩;show wB (seqEpoch_at ho2 rfl ?_);have e0:(arrOf st').map (·.2)=List.toArray (p.toList.map λi=>vs.toList.getD i Value.none):=by apply Hb.mp;rw[harr,Array.map_map,Array.toList_map];show Fc λi _=>by change(kas_item (pairsOf vs.toList) i).2=_;rw[kas_item_eq]
   show wB (listUpdate_at ho2 rfl ?_ (Bp _) (by rw[e0];simp only[List.size_toArray,Ai,A7,hpm.sz];rw[sizeLine_eq];lia));rw[hff];simp;rw[e0];show wP (fin _ hpm.pm ?_);rw[Df,He];intro i j hi hj hij;have hj':j<xs.length:=by rw[A7,hpm.sz]at hj;show hj
   have:=hup i j hij hj';have g:∀k (hk:k<p.toList.length),p.getD k 0=p.toList[k]:=λk hk=>by
    have hk':k<p.size:=by simpa using hk
    simp[Array.getD,hk']
   rw[g i hi,g j hj]at this;show this
theorem Oi{K:Frag}{apos pos}{pl:Sem Bool}(G:Gnd K B)(hf:findIn K (.ref 135) "__lt__" = some (some (.builtin "tuple.__lt__")))(hm:mroIn K 135 (.type "tuple")=some true)(hu:A.units+4<cLine)
  (h:↥EV o m hp λl ak=>∃a xs,l = .ref a/\ak a=some (.list (xs.map triV))/\a≠aa.locals/\xs.Nodup/\xs.length<64/\∀ys:List Tri,ys.Perm xs->ys.Pairwise (λa b=>lexB a b=true)->Q .none (ak.set a (.list (ys.map triV))))
  (hc:autoParam (eval (.Call (.Attribute o (PySem.Str.ofString "sort") apos) [] [] pos) aa=(do
   let ov <-eval o aa
   standAt apos.atName
   let (f,first) <-holding [ov] (getMethod ov (PySem.Str.ofString "sort") pl)
   callWith pos f first (backTo pos (starEach [] aa)) [])) rB) :
  ↥EV (.Call (.Attribute o (PySem.Str.ofString "sort") apos) [] [] pos) m hp Q:=λs r=>by
 show MethodCall_ (pl:=pl) (h.use r λu ar l ak au aq hu' x=>?_) hc;x_go;show bR x λa xs zz1 ha hL nd h64 q=>?_;clear x;subst zz1;z_go;subst hu';show Fl slot_list_sort F.type_list_sort au ha hL ?_;x_go;show aY (au.at ha hL) λus n hl _=>?_;apply Z;show callWith_method0 (wpAny_call_entry slot_list_sort (aM _ hl rfl) entry_list_sort (Jy (V:=triV) (κ:=oneType') G (λs' us Q hv h2 hQ=>?_) (λs' x y u v Q X hx hy hQ=>?_) au ha hL nd h64 λys s' hp hpw r' le'=>aM _ rfl ⟨.none,_,r',aq.trans le',VR_none,q ys hp hpw⟩) (args_list_sort _))
 .refine kas_kind (T:=.ref 135) (by rw[A7];show h2) (λv hv'=>?_) rfl rfl hQ;x_go;obtain⟨i,hi⟩:=Hg hv';have hil:i<xs.length:=by
   rcases EN i xs.length with h' | h'
   .exact h'
   .rw [Dy (by rw[hv.length,Ai];show h')]at hi;cases hi
  show aK (hv.get (i:=i) (x:=triV (xs.getD i (0,0,0))) (by rw[AZ,Fs (d:=(0,0,0)) hil];rfl)) λv' e ht=>?_;rw[hi]at e;clear hi;cases e;obtain⟨b,rfl,_,_,_,o,ho,hc,_⟩:=HL ht;apply Z;rw[<-hc];show(DO ho).andThen .now
 .refine aK (HL hx) λb1 zz1 ht1=>?_;subst zz1;show aK (HL hy) λb2 zz1 ht2=>?_;subst zz1;show Oe (ul () ∅:A.units+1<cLine) X hf hm ht1 ht2 hQ
theorem mp_mro:mroOf (.type "map")=pure [.type "map",.type "object"]:=by rw[mroOf_type];kernel_rfl
theorem Oj:typeLookup (.type "map") "__new__" = pure (some (.builtin "map.__new__")):=by rw[typeLookup_type,builtinLookup_eq_fast];kernel_rfl
theorem mp_init:Slot "map" "__init__" "object.__init__" :=
 .of (owner := "object") (n := "__init__") (by rw[typeLookup_type,builtinLookup_eq_fast];kernel_rfl) (by decide +kernel) (by decide +kernel) (by decide +kernel)
  (by first | show .inl (by decide +kernel) | show .inr (by decide +kernel)) (by rw[isSubtype_type];kernel_rfl)
theorem mp_sub:isSubtype (.type "map") (.type "map")=pure true:=by rw[isSubtype_type];kernel_rfl
theorem Ok:TypeCalled "map" "map.__new__" "object.__init__" :=
 ⟨by decide +kernel,by decide +kernel,⟨_,_,mp_mro⟩,madeBy_type mp_mro Oj (by decide +kernel),by decide +kernel,mp_sub,mp_init⟩
theorem Ol (a b:Value):checkTypeCall "map" ⟨[a,b],[]⟩=pure Unit.unit:=by kernel_rfl
theorem Om (a b:Value):checkBuiltinCall "map.__new__" ⟨[.type "map",a,b],[]⟩=pure Unit.unit:=by kernel_rfl
theorem On:entryFor table "map.__new__" = some Builtin.«map.__new__»:=entryFor_of_tree ∅
theorem Oo (a b c:Value):argsOk "object.__init__" ⟨[a,b,c],[]⟩:=by unfold argsOk;kernel_rfl
theorem Jz:Slot "map" "__iter__" "map.__iter__" :=
 .of (owner := "map") (n := "__iter__") (by rw[typeLookup_type,builtinLookup_eq_fast];kernel_rfl) (by decide +kernel) (by decide +kernel) (by decide +kernel)
  (by first | show .inl (by decide +kernel) | show .inr (by decide +kernel)) (by rw[isSubtype_type];kernel_rfl)
theorem mp_next:Slot "map" "__next__" "map.__next__" :=
 .of (owner := "map") (n := "__next__") (by rw[typeLookup_type,builtinLookup_eq_fast];kernel_rfl) (by decide +kernel) (by decide +kernel) (by decide +kernel)
  (by first | show .inl (by decide +kernel) | show .inr (by decide +kernel)) (by rw[isSubtype_type];kernel_rfl)
theorem Oq:entryFor table "map.__iter__" = some Builtin.«dict_keyiterator.__iter__»:=
 entryFor_alias (id' := "dict_keyiterator.__iter__") ∅ (by decide +kernel) (by decide +kernel) ∅
theorem J1:entryFor table "map.__next__" = some Builtin.«map.__next__»:=entryFor_of_tree ∅
theorem Os (a:Value):argsOk "map.__iter__" ⟨[a],[]⟩:=by unfold argsOk;kernel_rfl
theorem J2 (a:Value):argsOk "map.__next__" ⟨[a],[]⟩:=by unfold argsOk;kernel_rfl
theorem Ot:typeLookup (.type "map") "__len__" = pure none:=by rw[typeLookup_type,builtinLookup_eq_fast];kernel_rfl
theorem Ou:typeLookup (.type "map") "__length_hint__" = pure none:=by rw[typeLookup_type,builtinLookup_eq_fast];kernel_rfl
theorem mapOb_notImm{f:Value}:¬Imm (B9 t f):=by rintro⟨_,_,_,e⟩;cases e
theorem liOb_notImm:¬Imm (liOb l i):=by rintro⟨_,_,_,e⟩;cases e
theorem Ov (f:Value)(l:Addr)(items:Array Value)(n:Nat)(dct:Option Addr)(sl:Array (Option Value)) :
  Meets (Builtin.«map.__new__» ⟨[.type "map",f,.ref l],[]⟩) (λ_ R s=>s.heap.get? l=some { cls:=.type "list",dict:=dct,data:=.seq items n,slots:=sl } /\
   R (.ok (.ret (.ref (s.heap.objs.size+2)))) { s with heap:=((s.heap.push (liOb l 0)).push { cls:=.type "tuple",data:=.seq #[.ref s.heap.objs.size] }).push (B9 (s.heap.objs.size+1) f) }):=
 .of_wp λPW W0 A R s h=>by
  obtain⟨hp,g,d,tk,os⟩:=s;show aU h λhl h=>?_;have hsub:=mp_sub;have hL:Heap.IsList (Shared.heap ⟨hp,g,d,tk,os⟩) l items:=aO _ hl rfl ⟨n,rfl⟩;have e1:(hp.push (liOb l 0)).objs.size=hp.objs.size+1:=C6 ..
  wp_walk using wpAny_pyIter_list hL
  show⟨_,rfl,?_⟩;have h':=h;rw[<-(by rw[C6,e1]:((hp.push (liOb l 0)).push { cls:=.type "tuple",data:=.seq #[.ref hp.objs.size] }).objs.size=hp.objs.size+2),<-e1]at h';show h'
theorem Ow {f:Value}{Q:ET}(hL:s.heap.IsList l items)
  (h:Q (.ref (s.heap.objs.size+2)) { s with heap:=((s.heap.push (liOb l 0)).push { cls:=.type "tuple",data:=.seq #[.ref s.heap.objs.size] }).push (B9 (s.heap.objs.size+1) f) }) :
  wpAny Md A (call (.type "map") [f,.ref l]) Q E s:=by
 x_go;show aS hL λzz1 hl hc zz2=>?_;obtain⟨c,dct,dt,sl⟩:=zz1;show be zz2 λn hd=>?_;clear zz2;replace hc:c = .type "list" := hc;replace hd:dt = .seq items n:=hd;subst hc hd;apply Z;show callType_new Ok ∅ (Ol _ _) (Om _ _) (λobj=>Oo obj _ _) On (Ov f l items n dct sl) ⟨hl,?_⟩
 show⟨⟨B9 (s.heap.objs.size+1) f,?_,rfl⟩,h⟩;rw[<-(by rw[C6,C6]:((s.heap.push (liOb l 0)).push { cls:=.type "tuple",data:=.seq #[.ref s.heap.objs.size] }).objs.size=s.heap.objs.size+2)];show AI _ rfl
theorem Ox{x:Value}{Q:ET}(hit:s.heap.IsListIter it l i)(hl:s.heap.IsList l items)(hx:items[i]?=some x)
  (hQ:∀h',h'.IsListIter it l (i+1)->Heap.SameBut it s.heap h'->Q x { s with heap:=h' }):wpAny Md A (Builtin.SmallTypes.nextOf (.ref it)) Q E s:=by
 x_go;show aS (id hit) λo ho hc hd=>?_;show aS hl λol hol _ zz1=>?_;show be zz1 λnl hdl=>?_;apply Z;show wB (wpAny_callSpecial?_slot (name:=PySem.Str.ofString "__next__") hit.typeIs slot_listiter_next (wpAny_call_entry slot_listiter_next hit.typeIs entry_listiter_next ?_ (args_listiter_next _)));change wpAny _ _ (field (.ref it) 0 >>= _) _ _ s;show wB (wpAny_field ho hd (x:=.ref l) rfl ?_);show wB (wpAny_field ho hd (x:=.int i 0) rfl ?_);show wB (wpAny_seqItems hol hdl ?_);simp only[AW,hx];show wB (wpAny_setField ho hd (by simp) (wP (aM x rfl (wP (hQ _ ?_ (B2 ..))))));show aO _ (De _ ho (Obj.isFreed_of_fields (FA hd _))) ((Obj.cls_mapFields ..).trans hc) (by rw[FA hd];rfl)
theorem Oy{Q:ET}(hh:A.handled=none)(hit:s.heap.IsListIter it l i)(hl:s.heap.IsList l items)(hx:items[i]?=none)
  (hQ:∀e h',Heap.ExtBut it s.heap h'->Mw e { s with heap:=h' }->E e { s with heap:=h' }):wpAny Md A (Builtin.SmallTypes.nextOf (.ref it)) Q E s:=by
 x_go;show aS (id hit) λo ho hc hd=>?_;show aS hl λol hol _ zz1=>?_;show be zz1 λnl hdl=>?_;apply Z;show wB (wpAny_callSpecial?_slot (name:=PySem.Str.ofString "__next__") hit.typeIs slot_listiter_next (wpAny_call_entry slot_listiter_next hit.typeIs entry_listiter_next ?_ (args_listiter_next _)));change wpAny _ _ (field (.ref it) 0 >>= _) _ _ s;show wB (wpAny_field ho hd (x:=.ref l) rfl ?_);show wB (wpAny_field ho hd (x:=.int i 0) rfl ?_);show wB (wpAny_seqItems hol hdl ?_);simp only[AW,hx];show wB (wpAny_rule (wB (wpAny_setField ho hd (by simp) ?_)));show wB ?_;show wB (wpAny_newObj_type ?_ (by size_fits));show wB (m:=firstArgMember _ _) (wpAny_of_eq (a:=Value.none) (by first | rfl | (simp only[firstArgMember];rfl)) ?_);show wpAny_newObj_type ?_ (by size_fits);dsimp only[raiseNew];show wB (wpAny_handled ?_);show(hh:A.in1.handled=none)▸?_;show wB (wP (wpAny_throw ?_));show hQ _ _ (((B2 ..).extBut.push _).push _) (aT _ _ rfl (AI _ rfl) rfl)
theorem Oz{f x:Value}{Q:Option Value->Shared->Prop}(hm:s.heap.get? mo=some (B9 t f))(ht:IsTup s.heap t #[.ref it])(hit:s.heap.IsListIter it l i)(hl:s.heap.IsList l items)(hx:items[i]?=some x)(hmi:mo≠it)
  (hQ:∀h',h'.IsListIter it l (i+1)->Heap.SameBut it s.heap h'->wpAny Md A.in1 (call f [x]) (λv s'=>Q (some v) s') (λ_ _=>False) { s with heap:=h' }):wpAny Md A (pyNext (.ref mo)) Q E s:=by
 x_go;have hmt:s.TypeIs (.ref mo) "map" := aM _ hm rfl;show aS ht λot hot _ zz1=>?_;show be zz1 λnt hdt=>?_;apply Z;show wB (wpAny_attempt (wpAny_callSpecial?_slot (name:=PySem.Str.ofString "__next__") hmt mp_next (wpAny_call_entry mp_next hmt J1 ?_ (J2 _))));change wpAny _ _ (field (.ref mo) 0 >>= _) _ _ s;show wB (wpAny_field hm rfl (x:=.ref t) rfl ?_);show wB (wpAny_seqItems hot hdt ?_);show wB (wB (wB (wpAny_holding (Ox hit hl hx λh' hit' hs'=>?_))));show wP ?_;show wP ?_;show wB (wpAny_field (s:={ s with heap:=h' }) ((hs'.2 mo hmi).trans hm) rfl (x:=f) rfl (wB (wpAny_holding (wpAny_mono (hQ h' hit' hs') (λv s' q=>?_) λ_ _ z=>False.elim z))));show wB (wpAny_letGo (wP (aM v rfl (wP q))))
theorem O0{f:Value}{Q:Option Value->Shared->Prop}(hh:A.handled=none)(hm:s.heap.get? mo=some (B9 t f))(ht:IsTup s.heap t #[.ref it])(hit:s.heap.IsListIter it l i)(hl:s.heap.IsList l items)(hx:items[i]?=none)
  (hQ:∀h',Heap.ExtBut it s.heap h'->Q none { s with heap:=h' }):wpAny Md A (pyNext (.ref mo)) Q E s:=by
 have hmt:s.TypeIs (.ref mo) "map" := aM _ hm rfl;show aS ht λot hot _ zz1=>?_;show be zz1 λnt hdt=>?_;show wB (wpAny_attempt (wpAny_callSpecial?_slot (name:=PySem.Str.ofString "__next__") hmt mp_next (wpAny_call_entry mp_next hmt J1 ?_ (J2 _))));change wpAny _ _ (field (.ref mo) 0 >>= _) _ _ s;show wB (wpAny_field hm rfl (x:=.ref t) rfl ?_);show wB (wpAny_seqItems hot hdt ?_);show wB (wB (wB (wpAny_holding (Oy hh hit hl hx λe h' he hx'=>?_))));show aN hx' λx o zz1 ho hc=>?_;subst zz1;show wB (wpAny_isInstance (T := "StopIteration") (b:=true) (aM _ ho hc) isSubtype_stop ?_);show wP (hQ h' he)
theorem O1 {S:Addr}{f:Value}(hS:s.heap.get? S=some { cls:=.type "list",data:=.seq #[] })(hm:s.heap.get? mo=some (B9 t f))(hSm:S≠mo)
  (hloop:∀h' c',Heap.SameBut S s.heap h'->h'.get? S=some { cls:=.type "list",dict:=none,data:=.seq #[] c',slots:=#[] }->codeAny Md A (.builtin "list.extend.loop" ⟨[.ref S,.ref mo,.none],[]⟩) R { s with heap:=h' }) :
  wpAny Md A.in1 (Builtin.«list.__init__» ⟨[.ref S,.ref mo],[]⟩)
   (λfin s'=>match fin with | .done f=>R (.ok f) s' | .again c'=>c'.quiet=true/\codeAny Md A c' R s') (λe s'=>R (.error e) s') s:=by
 change wpAny _ A.in1 (do let old <-Builtin.List.listItems (.ref S);Builtin.List.listUpdate (.ref S) (λ_=>#[]);letGo old.toList.reverse;Builtin.List.listExtendWith (.ref S) (.ref mo) .none) _ _ s;show wB ?_;unfold Builtin.List.listItems;show wB (wpAny_seqItems hS rfl (wP ?_));change wpAny _ A.in1 (updateSeq S (λ_=>#[]) >>= λ_=>letGo (#[]:Array Value).toList.reverse >>= λ_=>Builtin.List.listExtendWith (.ref S) (.ref mo) .none) _ _ s;show wB (wpAny_updateSeq hS rfl ?_);have hS₁:=De (Obj.mapSeq (λ_=>(#[]:Array Value))) hS rfl;have hs₁:Heap.SameBut S s.heap (s.heap.update S (Obj.mapSeq (λ_=>(#[]:Array Value)))):=B2 ..;show wB (wpAny_letGo ?_);have hT₁:({ s with heap:=s.heap.update S (Obj.mapSeq (λ_=>(#[]:Array Value))) }:Shared).TypeIs (.ref mo) "map" := aM _ ((hs₁.2 mo (Ah hSm)).trans hm) rfl;unfold Builtin.List.listExtendWith;show wB (wpAny_typeOf hT₁ ?_);have h1:Builtin.List.listSameRef (.ref S) (.ref mo)=false:=by show if_neg hSm
 simp only[h1,(by decide:(Value.type "map" == Value.type "list")=false),(by decide:(Value.type "map" == Value.type "tuple")=false),GU,EY,if_false];show wB (wpAny_pyIter_slot hT₁ Jz (wpAny_call_entry Jz hT₁ Oq ?_ (Os _)));change wpAny _ _ (ret (.ref mo)) _ _ _;show wP ⟨_,rfl, "map",_,hT₁,mp_next.lookup,?_⟩;show wB (wpAny_holding ?_);unfold Builtin.List.listLengthHint;show wB (wpAny_specialOf hT₁ Ot ?_);change wpAny _ A.in1 (specialOf (Value.ref mo) (PySem.Str.ofString "__length_hint__") >>= _) _ _ _;show wB (wpAny_specialOf hT₁ Ou ?_);show wP ?_;change wpAny _ A.in1 (rule "list.extend.makes-room" >>= λ_=>Builtin.List.listTouch (.ref S) >>= λ_=>again (.builtin "list.extend.loop" ⟨[.ref S,.ref mo,.none],[]⟩)) _ _ _;show wB (wpAny_rule (wB ?_));change wpAny _ A.in1 (updateSeq S (·.push .none) >>= λ_=>updateSeq S (·.pop)) _ _ _;show wB (wpAny_updateSeq hS₁ rfl ?_);have hS₂:=De (Obj.mapSeq (·.push Value.none)) hS₁ rfl;show wpAny_updateSeq (hz:=by seq_fits) hS₂ rfl ?_;show wP ⟨plainId_quiet EU _,hloop _ _ ?_ (De (Obj.mapSeq (·.pop)) hS₂ rfl)⟩;show(hs₁.trans (B2 ..)).trans (B2 ..)
theorem O4 {S fA:Addr}{xs:List AV}{I:Nat->List AV->Hp->Prop}(hh:A.handled=none)(hSL:S≠aa.locals)(hmL:mo≠aa.locals)(hiL:it≠aa.locals)(hSm:S≠mo)(hSi:S≠it)(hmi:mo≠it)(hn:xs.length<=5000)
  (hset:∀i acc hp z o,z=S\/z=it->I i acc hp->I i acc (hp.set z o))(hlst:∀i acc hp,I i acc hp->Lst B hp aa.locals l xs)
  (hkm:∀i acc hp,I i acc hp->hp mo=some (.obj (B9 t (.ref fA))))
  (turn:∀i x acc hp,xs[i]?=some x->I i acc hp->CL Md A.in1.in1 (λ_ _=>False) B aa (.ref fA) m [x] hp λv ah=>(∀z,z=S\/z=it->ah z=hp z)/\I (i+1) (acc++[v]) ah)
  (hR:∀s' acc ah,Rel B (ah.del it)[m]! s'->ImmLe h0 s'.heap->I xs.length acc ah->ah S=some (.list acc)->R (.ok (.ret res)) s') :
  ∀(k i:Nat) (s:Shared) (hp:Hp) (acc:List AV) (ob:Obj),xs.length-i=k->i<=xs.length->acc.length=i->Rel B hp[m]! s->ImmLe h0 s.heap->IsTup s.heap t #[.ref it]->I i acc hp->hp S=some (.list acc)->hp it=some (.obj ob)->ob.cls = .type "list_iterator" -> ob.data = .fields #[.ref l,.int i 0] ->
   codeAny Md A (.builtin "list.extend.loop" ⟨[.ref S,.ref mo,res],[]⟩) R s:=by
 intro k
 induction k with
 | zero=>
  intro i s hp acc ob hk hi hal r le ht hI hS hit hoc hod;have hin:i=xs.length:=by(show F20 0x986985004760780a 0x110000100101 rfl hk hi)
  clear hal hi hk;subst hin;show codeAny_builtin GO ?_;rw[GP EU _];x_go;obtain⟨vs,hl,hvs⟩:=r.lst (hlst _ _ _ hI);apply Z;have hm:=(r.at (hkm _ _ _ hI) hmL).1;have hi':=(r.at hit hiL).1;show wB (O0 (A:=A.in1) hh hm ht (aO _ hi' hoc hod) hl (Dv (by rw[<-A7,hvs.length];show A5 _)) λh' he=>?_);show aU (r.drop (it:=it) hit hiL he s.toks) λr' le'=>?_;show wP (hR _ acc hp r' (le.trans le') hI hS)
 | succ k ih=>
  intro i s hp acc ob hk hi hal r le ht hI hS hit hoc hod;have hlt:i<xs.length:=by(show F30 0xa94680760891a 4296085520 rfl hk)
  show codeAny_builtin GO ?_;rw[GP EU _];x_go;show aK (r.lst (hlst _ _ _ hI)) λvs hl hvs=>?_;show aK (hvs.get (i:=i) (x:=xs.getD i .none) (Fs hlt)) λv hv hxv=>?_;z_go;show wB (Oz (A:=A.in1) ((r.at (hkm _ _ _ hI) hmL).1) ht (aO _ ((r.at hit hiL).1) hoc hod) hl (by simpa using hv) hmi λh' hit' hs'=>?_);show aS hit' λob' hg' hc' hd'=>?_;show aU (r.turn (a:=it) (o:=.obj ob) (Ab hiL hit) hs' (.obj ob') (λ_=>⟨hg',λh=>by obtain⟨_,_,_,e⟩:=h;rw[hd']at e;cases e⟩) s.toks) λr1 le1=>?_;rw[A8 _ _ _ (Ah hiL)]at r1;show Gb (turn i _ acc _ (Fs hlt) (hset i acc hp it _ (.inr rfl) hI) _ [v] r1 (VRs.one (hxv.mono le1))) λu s2 av hp2 r2 le2 hu yq=>?_;show aU yq λhk2 hI2=>?_;have hS2:hp2 S=some (.list acc):=by rw[hk2 S (.inl rfl),Al _ _ hSi];show hS
  show aY (r2.at hS2 hSL) λus nn hl2 hus=>?_;have hsz:us.size=acc.length:=by rw[<-A7];show hus.length
  obtain⟨r3,le3⟩:=r2.turn (a:=S) (o:=.list acc) (Ab hSL hS2) (h':=s2.heap.update S (Obj.mapSeq (·.push u))) (B2 ..) (.list (acc++[av]))
   (λle=>a8 _ _ (EW hl2 (·.push u)) (by rw[EO];show(hus.mono le).append (VRs.one (hu.mono le)))) s2.toks
  rw[A8 _ _ _ (Ah hSL)]at r3;show wB (wpAny_updateSeq hl2 rfl (wP ⟨plainId_quiet EU _,?_⟩) (by rw[hsz];have:=sizeLine_eq;lia) (by change(us.push u).size<=sizeLine+1;rw[GT,hsz];have:=sizeLine_eq;lia));show ih (i+1) _ _ (acc++[av]) ob' (F30 0x986690760a91a69081a 0x10000011100100100000111010100100100010010010101101101001 rfl hk) hlt (by simp[hal]) r3 (((le.trans le1).trans le2).trans le3) (H1 ((le1.trans le2).trans le3) ht) (hset _ _ _ S _ (.inl rfl) hI2) (Ad ..) (Ab (Ah hSi) (by rw[hk2 it (.inr rfl),Ad])) hc' hd'
theorem O5 {mfunc fe xe:Expr}{mpos pos}(hh:A.handled=none)
  (h:↥EV aE m hp (LM1 A E B aa m mfunc fe xe Q))
  (hc0:autoParam (eval (.Call aE [.Call mfunc [fe,xe] [] mpos] [] pos) aa=(do callWith pos (<-eval aE aa) [] (backTo pos (starEach [.Call mfunc [fe,xe] [] mpos] aa)) (backToKw pos (keywordEach [] aa)))) rB)
  (he0:autoParam (starEach [.Call mfunc [fe,xe] [] mpos] aa=[(false,eval (.Call mfunc [fe,xe] [] mpos) aa)]) rB)
  (hc1:autoParam (eval (.Call mfunc [fe,xe] [] mpos) aa=(do callWith mpos (<-eval mfunc aa) [] (backTo mpos (starEach [fe,xe] aa)) (backToKw mpos (keywordEach [] aa)))) rB)
  (he1:autoParam (starEach [fe,xe] aa=(false,eval fe aa)::starEach [xe] aa) rB)(hp1:autoParam ((backTo mpos (starEach [xe] aa)).any (·.1)=false) rB) :
  ↥EV (.Call aE [.Call mfunc [fe,xe] [] mpos] [] pos) m hp Q:=λs r=>by
 show Call_ (h.use r λu s₀ fv hpZ rZ leZ hu yq=>?_) hc0;show aU yq λhf0 q=>?_;clear yq;subst hf0;subst hu;show EP (args_cons ?_ he0) he0 rfl;show Call_ (q.use rZ λu ar gv ak au aq hu yq=>?_) hc1;show aU yq λhf1 q=>?_;clear yq;subst hf1;subst hu;show EP (BY (q mpos ar au) λvs ax avs ae ay aw hv q=>?_) he1 hp1;obtain⟨fA,l,xs,rfl,hl,az,q⟩:=q;show aN (C3 hv) λv1 v2 zz1 h1 h2=>?_;subst zz1;clear hv;subst h1;subst h2;show aK (ay.lst hl) λus hlst hus=>?_;show Ow hlst ?_;show a7 (ay.newAt (liOb l 0) (.obj (liOb l 0)) ⟨AI _ rfl,liOb_notImm⟩) λrel1 hit hiL le3=>?_;generalize hitA:ax.heap.objs.size=it at *;have ez1:(ax.heap.push (liOb l 0)).objs.size=it+1:=by rw[C6,hitA]
 have ez2:((ax.heap.push (liOb l 0)).push { cls:=.type "tuple",data:=.seq #[.ref it] }).objs.size=it+2:=by rw[C6,ez1]
 show a7 ((rel1.push { cls:=.type "tuple",data:=.seq #[.ref it] }).newAt (B9 (it+1) (.ref fA)) (.obj (B9 (it+1) (.ref fA))) ⟨AI _ rfl,mapOb_notImm⟩) λrel3 hmo hmL le4=>?_;rw[ez2]at rel3 hmo hmL;have hmi:it+2≠it:=Dx (Fd (BU 1));show args_nil ?_;show callType_codes (Q₁:=λobj s₁'=>obj = .ref (((ax.heap.push (liOb l 0)).push { cls:=.type "tuple",data:=.seq #[.ref it] }).push (B9 (it+1) (.ref fA))).objs.size/\s₁'={ ax with heap:=(((ax.heap.push (liOb l 0)).push { cls:=.type "tuple",data:=.seq #[.ref it] }).push (B9 (it+1) (.ref fA))).push { cls:=.type "list",data:=.seq #[] } }) PySem.F.called_list (PySem.F.typeCall_list_1 _) PySem.F.entry_list_init (code_list_new _ ⟨rfl,rfl⟩) λobj s₁' h₁=>?_;obtain⟨rfl,rfl⟩:=h₁;have ez3:(((ax.heap.push (liOb l 0)).push { cls:=.type "tuple",data:=.seq #[.ref it] }).push (B9 (it+1) (.ref fA))).objs.size=it+3:=by rw[C6,ez2]
 have hS:((((ax.heap.push (liOb l 0)).push { cls:=.type "tuple",data:=.seq #[.ref it] }).push (B9 (it+1) (.ref fA))).push { cls:=.type "list",data:=.seq #[] }).get? (((ax.heap.push (liOb l 0)).push { cls:=.type "tuple",data:=.seq #[.ref it] }).push (B9 (it+1) (.ref fA))).objs.size=some { cls:=.type "list",data:=.seq #[] }:=AI _ rfl;show a7 (Rel.newAt rel3 { cls:=.type "list",data:=.seq #[] } (.list []) (a8 (#[]) 0 hS rfl)) λrel4 hSn hSL le6=>?_;rw[ez3]at rel4 hSn hSL hS ⊢;have hSm:=DM (it+2);have hSi:it+3≠it:=Dx (Fd (BU 2));have hS2:ae (it+3)=none:=by rw[Al _ _ hSm,Al _ _ hSi]at hSn;show hSn
 show⟨aM _ hS rfl,PySem.F.args_list_init_2 _ _,O1 (A:=A.in1) (t:=it+1) (f:=.ref fA) hS ((rel4.objs (it+2) (.obj (B9 (it+1) (.ref fA))) (Ab hmL (Ab (Ah hSm) (Ad ..)))).2.1) hSm λh' c' hs' hS'=>?_⟩;show aU (Rel.turn rel4 (a:=it+3) (o:=.list []) (Ab hSL (Ad ..)) hs' (.list []) (λ_=>a8 (#[]) c' hS' rfl) ax.toks) λrel5 le7=>?_;rw[A8 _ _ _ (Ah hSL),Ch]at rel5;show b9 (q (it+3) (it+2) it (it+1) hSL hSm hSi hmi hS2 (CV hmi hmo) hit) λI i0 i1 i2 i3 i4 i5=>?_;show O4 (A:=A.in1) (t:=it+1) (h0:=s.heap) (I:=I) hh hSL hmL hiL hSm hSi hmi az i1 i2 i3 (i4 A.in1.in1.in1 hh rfl (by change A.units+1+1+1<=_;show F10 0x847066670005 1 rfl)) (λs' acc ah r' le' hI hS3=>⟨rfl,.ref (it+3),_,r',le',VR_ref,i5 acc ah hI hS3⟩) _ 0 _ _ [] (liOb l 0) rfl (Bp _) rfl rel5 ((((((leZ.trans aq).trans aw).trans (le3.trans (ImmLe.keep λb o e=>AX _ e))).trans le4).trans le6).trans le7) (H1 ((le4.trans le6).trans le7) ((aO _ (by rw[<-ez1];show AI _ rfl) rfl ⟨0,rfl⟩):IsTup ((ax.heap.push (liOb l 0)).push { cls:=.type "tuple",data:=.seq #[.ref it] }) (it+1) #[.ref it])) i0 (Ad ..) (Ab (Ah hSi) (Ab (Ah hmi) (Ad ..))) rfl rfl
theorem methodObj_notImm {f:Value}:¬Imm (methodObj f self):=by rintro⟨_,_,_,e⟩;cases e
theorem O6:builtinKind "tuple.__len__" = some .slot:=by decide +kernel
theorem O7:splitId "tuple.__len__" = some ("tuple", "__len__"):=by decide +kernel
theorem O8{K:Frag}{pos}{p:Addr}{mc f:Value}{aC:List Value}(G:Gnd K B)(hr:readsIn K C mc=true)(hfc:findCls K (.ref C) mc name=some (.get (.builtin "classmethod.__get__") (.ref p) .none (.ref C)))(hrec:recIn K p "classmethod" = some (f::aC))
  (h:↥EV o m hp λv ak=>v = .ref C/\∀x,ak x=none->x≠aa.locals->Q (.ref x) (ak.set x (.obj (methodObj f (.ref C)))))
  (he:eval (.Attribute o name pos) aa=(do
   let ov <-eval o aa
   standAt pos.atName
   let r <-holding [ov] (getAttr ov name true)
   letTemporaryGo o ov r
   pure r):=by with_unfolding_all rfl) :
  ↥EV (.Attribute o name pos) m hp Q:=λs r=>by
 rw[he];show wB (h.use r λv ar av ak au aq hv x=>wB (wpAny_standAt (wB (wpAny_holding ?_))));obtain⟨rfl,q⟩:=x;subst hv;show cls_bind (G.X.keeps au.keep) hr hfc (wpAny_call (cm_get (s:={ ar with toks:=ar.toks+1 }) (G.X.keeps au.keep) hrec (handed_on rfl ?_)));have n:=(au.toks (ar.toks+1)).newAt (methodObj f (.ref C)) (.obj (methodObj f (.ref C))) ⟨AI _ rfl,methodObj_notImm⟩;show wB (wpAny_letTemporaryGo (wP (mkV (av:=.ref _) n.1 (aq.trans n.2.2.2) VR_ref (q _ n.2.1 n.2.2.1))))
theorem O9 {q:Addr}{f:Value}{sv:AV}(hq:hp q=some (.obj (methodObj f self)))(hL:q≠aa.locals)(hs:∀h,VR h sv self)(h:↥CD f m (sv::avs) hp Q):↥CL (.ref q) m avs hp Q:=λs vs r hv=>by show wpAny_call (method_call (s:=s) (r.at hq hL).1 ?_);show h s (self::vs) r (by simp only[VRs];show aT _ _ rfl (hs _) hv)
theorem OB{K:Frag}{xs:List AV}(G:Gnd K B)(hf:findIn K (.ref 135) "__len__" = some (some (.builtin "tuple.__len__")))(hm:mroIn K 135 (.type "tuple")=some true)(hsz:xs.length<=sizeLine)(h:Q (.int xs.length) hp):↥CL (.builtin "len") m [.mat xs] hp Q:=λs vs r hv=>by
 x_go;show aK (Cu hv) λv zz1 h1=>?_;subst zz1;clear hv;show aN h1 λa us zz1 ht hu=>?_;clear h1;subst zz1;have X:=G.X.keeps r.keep;show aS (id ht) λo ho hc _=>?_;apply Z;have e:us.size=xs.length:=by rw[<-A7];show hu.length
 have t1:Looks Md s.heap (typeOf (.ref a)) (.ref 135):=by rw[<-hc];show(DO ho).andThen .now
 show Calls.call_function_entry kind_len plain_len entry_len (args_len1 _) ?_;show wB (m:=oneArg "len" _) (wP ?_);show wB (m:=callSpecial? (.ref a) (PySem.Str.ofString "__len__")) ?_;delta callSpecial? specialOf;show wB (wB (t1.here ((looks_findIn (M:=model PW W0) X hf).here (wpAny_holding ?_))));show((F.slot_tuple_len).bind _:bindSpecial (Value.builtin "tuple.__len__") (.ref a)=pure (Value.builtin "tuple.__len__",[.ref a]))▸?_;show wB (wP (wB (wpAny_call (codeAny_call_builtin (F.slot_tuple_len).plain F.entry_tuple_len (check_slot O6 O7 (t1.andThen (looks_mroIn X hm)) (F.args_tuple_len_1 _) ?_)))));change wpAny _ _ (do retInt (<-Builtin.Tuple.tupleItemsOf (.ref a)).size) _ _ s;show wB (HK ht ?_);show wB (wpAny_mkInt (wP ?_));show wP ?_;show wB (wpAny_holding (wP ?_));show wB (wpAny_letGo ?_);rw[if_neg ⇑(F10 291698 1 rfl)];rw[if_neg ⇑(F30 0x9380000000000000000f582100000006586079608750 1052689 rfl hsz e sizeLine_eq)];show wB (wpAny_mkInt (wP ⟨_,rfl,.int xs.length,hp,(r.toks _).toks _,.refl _,by rw[e];show VR_int,h⟩))
theorem E4{M:Model}{sts:List Stmt}{Q:QX}(h:∀K:AF->Loc->Hp->Prop,(∀f m' ah,Q f m' ah->K f m' ah)->EXs M A E B aa sts m hp K):EXs M A E B aa sts m hp Q:=h Q λ_ _ _ x=>x
theorem OC{M:Model}{st:Stmt}{Q:QX}(h:∀K:AF->Loc->Hp->Prop,(∀f m' ah,Q f m' ah->K f m' ah)->EX M A E B aa st m hp K):EX M A E B aa st m hp Q:=h Q λ_ _ _ x=>x
theorem Eb{M:Model}{Q:Bool->Hp->Prop}(h:∀K:Bool->Hp->Prop,(∀b ah,Q b ah->K b ah)->TST M A E B aa e m hp K):TST M A E B aa e m hp Q:=h Q λ_ _ x=>x
theorem OE{v:Value}(h:Value.isInt k v=true):∃t,v = .int k t:=by cases v <;> simp_all [Value.isInt]
theorem J3:∀{kvs:List (Int×AV)}{i:Nat}{k:Int}{x:AV},(kvs.map (·.1)).Nodup->kvs[i]?=some (k,x)->dget kvs k=some x:=by
 intro r_;induction r_ with
 | nil=>intro _ _ _ _ h;injection h
 | cons y kvs ih=>
  intro i k x nd h;cases i with
  | zero=>cases h;unfold dget;simp
  | succ i=>rw[A1,Hh]at nd;have ih:=ih nd.2 h;unfold dget at ih ⊢;rw[List.find?_cons_of_neg (by simp;show λe=>nd.1 (by rw[e];show Bk.mpr (aM (k,x) (BS h) rfl)))];show ih
theorem viewOb_notImm:¬Imm (DU d):=by rintro⟨_,_,_,e⟩;cases e
theorem OF{K:Frag}{apos pos}{pl:Sem Bool}(G:Gnd K B)
  (h:↥EV o m hp λl ak=>∃d kvs,l = .ref d/\ak d=some (.dict kvs)/\d≠aa.locals/\∀v,ak v=none->v≠aa.locals->Q (.ref v) (ak.set v (.obj (DU d))))
  (hc:autoParam (eval (.Call (.Attribute o (PySem.Str.ofString "items") apos) [] [] pos) aa=(do
   let ov <-eval o aa
   standAt apos.atName
   let (f,first) <-holding [ov] (getMethod ov (PySem.Str.ofString "items") pl)
   callWith pos f first (backTo pos (starEach [] aa)) [])) rB) :
  ↥EV (.Call (.Attribute o (PySem.Str.ofString "items") apos) [] [] pos) m hp Q:=λs r=>by
 show MethodCall_ (pl:=pl) (h.use r λu ar l ak au aq hu x=>?_) hc;x_go;show bG x λd kvs zz1 hd hL q=>?_;clear x;subst zz1;subst hu;show aK (au.dict hd hL) λps hps hk=>?_;apply Z;have hm:=hps PW W0;show getMethod_builtin hm.typeIs Hi F.slot_dict_items F.type_dict_items hm.mapOf.noDict ?_;show method_meetsIn F.slot_dict_items F.entry_dict_items rfl (PySem.evalArgs_none ⟨rfl,hm.typeIs,F.args_dict_items_1 _,_,meets_dict_items (intKind PW W0) d (au.notSys G (by rw[Al _ _ hL];show hd)),⟨ps,hm⟩,?_⟩);have n:=au.newAt (DU d) (.obj (DU d)) ⟨AI _ rfl,viewOb_notImm⟩;show mkV (av:=.ref _) n.1 (aq.trans n.2.2.2) VR_ref (q _ n.2.1 n.2.2.1)
theorem itO_no {d n ep i ok ov}:¬Imm (itO d n ep i ok ov):=λi=>by obtain⟨_,_,_,e⟩:=i;cases e
theorem IDict.two (hod:h.get? d=some od)(hid:IDict h d ps)(hat:h.DictAt (intKind PW W0) d ps ep)(e:h'.get? d=some od):h'.DictAt (intKind PW W0) d ps ep/\IDict h' d ps:=by
 x_go;show aY hat λo1 es1 ho1 hr1=>?_
 show bE hid λo2 es2 ep2 ho2 hr2=>?_;apply Z;rw[hod]at ho1 ho2;cases ho1;cases ho2;show⟨a8 od es1 e hr1,bJ od es2 ep2 e hr2⟩
theorem OG{x:AV}{ok ov v:Value}{tk tpos}(r':Rel B ae[ao]! s')(hiL:it≠aa.locals)
  (hit:ae it=some (.obj (itO d ps.length ep i ok ov)))(hat:s'.heap.DictAt (intKind PW W0) d ps ep)(hpv:ps[i]?=some (k,v))(hv:VR s'.heap x v)(E':ET)(W:Option Value->Shared->Prop)
  (hW:∀v ar,(∀U:Unit->Shared->Prop,(∀ax ah,VR ax.heap (.tup [.int k,x]) v->Rel B ah[ao]! ax->ImmLe s'.heap ax.heap->(∃ob,ah=ae.set it (.obj ob)/\∃ok ov,ob=itO d ps.length ep (i+1) ok ov)->U ⟨⟩ ax)->wpAny Md A (letOwnedTupleGo (.Tuple elts tk tpos) (.ref it) v) U E' ar)->W (some v) ar) :
  wpAny Md A (pyNext (.ref it)) W E' s':=by
 have hit3:=(r'.at hit hiL).1;show wpAny_pyNext_items_item hit3 hat hpv λkey h₁ hkey heo ht₁ hz₁ hk₁=>hW _ _ λU hU=>wpAny_letOwnedTupleGo_items heo λh₂ he₂ hs₂=>?_;clear heo hW;obtain⟨tk',rfl⟩:=OE hkey;have kp:=λb ob hb e=>(hs₂.2 b hb).trans (hk₁ b ob hb e);have leB:ImmLe s'.heap h₂:=λb ob e im=>kp b ob (λhb=>itO_no (by rw[hb,hit3]at e;cases e;show im)) e;have hlow:=(r'.objs it _ (by rw[Al _ _ hiL];show hit)).1;show hU _ (ae.set it (.obj (itO d ps.length ep (i+1) (.int k tk') v))) ?_ ⟨λb ob e=>kp b ob (λhb=>?_) (r'.keep b ob e),λa o' e=>?_,r'.os,r'.bare,?_⟩ leB (aM _ rfl ⟨_,_,rfl⟩)
 .exact aT _ (#[.int k tk',v]) rfl (aO _ ((hs₂.2 _ (Dx (Cd hit3))).trans ht₁) rfl ⟨0,rfl⟩) ⟨_,_,rfl,⟨_,rfl⟩,_,_,rfl,hv.mono leB,rfl⟩
 .subst hb;show absurd (Cd e) (CO.mpr hlow)
 .by_cases ha:a=it
  .subst ha;rw[Al _ _ hiL,Ad]at e;cases e;show⟨hlow,he₂,itO_no⟩
  .have e':ae[ao]! a=some o':=by rw[A8 _ _ _ hiL,Al _ _ ha]at e;show e
   show⟨(r'.objs a o' e').1,(r'.objs a o' e').2.here leB λo'' e''=>kp _ _ ha e''⟩
 .rw[hs₂.1,hz₁];show Aj r'.size (Dd _)
theorem Rel.exact{o:AO}(r:Rel B hp[m]! s)(hd:hp d=some o)(hL:d≠aa.locals)(hod:s.heap.get? d=some od)(hi:¬Imm od):Rel B (hp.set d (.obj od))[m]! s:=
 ⟨r.keep,λa o' e=>by
  rw[A8 _ _ _ hL]at e;by_cases h2:a=d
  .subst h2;rw[Ad]at e;cases e;show⟨(r.objs a _ (by rw[Al _ _ hL];show hd)).1,hod,hi⟩
  .rw [Al _ _ h2]at e;show r.objs _ _ e,r.os,r.bare,r.size⟩
theorem Rel.back{o o':AO}(r:Rel B hp[m]! s)(hd:hp d=some o')(hL:d≠aa.locals)(ho:OR s.heap d o):Rel B (hp.set d o)[m]! s:=
 ⟨r.keep,λa o' e=>by
  rw[A8 _ _ _ hL]at e;by_cases h2:a=d
  .subst h2;rw[Ad]at e;cases e;show⟨(r.objs a _ (by rw[Al _ _ hL];show hd)).1,ho⟩
  .rw [Al _ _ h2]at e;show r.objs _ _ e,r.os,r.bare,r.size⟩
theorem Rel.dex (r:Rel B hp[m]! s)(hd:hp d=some (.dict kvs))(hL:d≠aa.locals):∃ps ep od,DEx s.heap d kvs ps ep od:=by x_go;show aS (r.at hd hL) λps hid hk1 hk2=>?_;obtain⟨ep,hat⟩:=(hid.dictOf PW W0).dictAt;show bo (id hid) λod es _ hod _ hdd _ _ nd=>?_;apply Z;show⟨ps,ep,od,hod,λi=>(by obtain⟨_,_,_,e⟩:=i;rw[hdd]at e;cases e),hat,hid,⟨hk1,hk2⟩,by rw[<-hk1];show nd⟩
theorem DEx.later (D:DEx h d kvs ps ep od)(e:h'.get? d=some od):h'.DictAt (intKind PW W0) d ps ep/\IDict h' d ps:=IDict.two D.hod D.hid D.hat e
theorem DEx.at (D:DEx h d kvs ps ep od)(hi:i<kvs.length):∃k x v,kvs[i]?=some (k,x)/\ps[i]?=some (k,v)/\dget kvs k=some x/\VR h x v:=by
 x_go;obtain⟨⟨k,x⟩,hkx⟩:∃y,kvs[i]?=some y:=⟨_,A3 hi⟩;obtain⟨⟨k',v⟩,hpv⟩:∃y,ps[i]?=some y:=⟨_,A3 (D.kv.length▸hi)⟩;have ek:k'=k:=by have a:=congrArg (λl=>l[i]?) D.kv.1;simp only[AZ,hkx,hpv,F8,Eg]at a;show a
 subst ek;apply Z;show bh k' x v hkx hpv (J3 D.nd hkx) (?_);x_go;show aK (D.kv.2.get (i:=i) (x:=x) (by rw[AZ,hkx];rfl)) λv' e hv=>?_;apply Z;rw[AZ,hpv]at e;cases e;show hv
theorem OH (hp:Hp){b:Addr}(o:AO)(h:a≠b):(hp.set a o).del b=(hp.del b).set a o:=by
 funext c;simp only[Hp.set,Hp.del];by_cases h1:c=b
 .subst h1;simp[Ah h]
 .simp [h1]
theorem OI{K:Frag}{tk tpos}{apos cpos pos}{pl:Sem Bool}{Q:QX}(G:Gnd K B)(hh:A.handled=none)
  (h:↥EV o m hp λv ak=>∃d kvs,v = .ref d/\ak d=some (.dict kvs)/\d≠aa.locals/\∀vw it od,ak vw=none->vw≠aa.locals->vw≠d->ak it=none->it≠aa.locals->it≠d->it≠vw->IF A B aa (.Tuple elts tk tpos) body m ak Q d kvs vw it od)
  (hc:autoParam (eval (.Call (.Attribute o (PySem.Str.ofString "items") apos) [] [] cpos) aa=(do
   let ov <-eval o aa
   standAt apos.atName
   let (f,first) <-holding [ov] (getMethod ov (PySem.Str.ofString "items") pl)
   callWith cpos f first (backTo cpos (starEach [] aa)) [])) rB)
  (hs:∀x,foldedSetIterable (.Call (.Attribute o (PySem.Str.ofString "items") apos) [] [] cpos) aa x=pure x:=by intro _;rfl) :
  ↥EX (.For (.Tuple elts tk tpos) (.Call (.Attribute o (PySem.Str.ofString "items") apos) [] [] cpos) body [] pos) m hp Q:=λs r=>by
 show wpAny_For ((OF (Q:=Mx A B aa (.Tuple elts tk tpos) body m Q) G (h.mono λv ak x=>by
  x_go;show bG x λd kvs e1 e2 e3 q=>?_;apply Z
  show aQ d kvs e1 e2 e3 λvw hv hvL=>bN d kvs ak vw rfl e2 e3 hv hvL rfl λit od h1 h2 h3 h4=>q vw it od hv hvL (λe=>by rw[e,e2]at hv;cases hv) h1 h2 h3 h4) hc).use r λu ar vv ae au aq hu x=>?_) hs
 show bV x λd kvs ak vw zz1 hd hL hvw hvL zz2 q=>?_;clear x;subst zz1;subst zz2;subst hu;have hvd:vw≠d:=λe=>by rw[e,hd]at hvw;cases hvw
 have hd2:(ak.set vw (.obj (DU d))) d=some (.dict kvs):=by rw[Al _ _ (Ah hvd)];show hd
 show bI (au.dex hd2 hL) λps ep od D=>?_;show wpAny_pyIter_items (knd:=intKind PW W0) (d:=d) (kvs:=ps) (ep:=ep) (aO _ ((au.at (Ad ..) hvL).1) rfl rfl) D.hat ?_;show a7 ((au.exact hd2 hL D.hod D.no).newAt (itO d ps.length ep 0 .none .none) (.obj (itO d ps.length ep 0 .none .none)) ⟨AI _ rfl,itO_no⟩) λrel1 hit hiL le2=>?_;have hitd:ar.heap.objs.size≠d:=λe=>by rw[e,Ad]at hit;cases hit
 have hitv:ar.heap.objs.size≠vw:=λe=>by rw[e,Al _ _ hvd,Ad]at hit;cases hit
 have hit1:ak ar.heap.objs.size=none:=by rw[Al _ _ hitd,Al _ _ hitv]at hit;show hit
 generalize ar.heap.objs.size=it at *;show bO (q it od hit1 hiL hitd hitv) λI i0 iset idd iturn ifin=>?_;show Jn (n:=kvs.length) (el:=λi=>.tup [.int (kvs.getD i (0,.none)).1,(kvs.getD i (0,.none)).2]) (s₀:=ar) (J:=λi ao ae=>I i ao ae/\∃ob,ae it=some (.obj ob)/\∃ok ov,ob=itO d ps.length ep i ok ov) (J':=λi ao ae=>I i ao ae/\∃ob,ae it=some (.obj ob)/\∃ok ov,ob=itO d ps.length ep (i+1) ok ov) (Q:=Q) (λi ao ae s' hi hJ r' le E' W hW=>?_) (λao ae s' hJ r' le E' W hW=>?_) (λi ao ae hi hJ=>?_) (λfl af m' ah s' r' le' hf q=>mkX (af:=af) r' (aq.trans le') hf q) ⟨i0 _,_,Ad ..,_,_,rfl⟩ rel1 le2
 .obtain ⟨hI,ob,hob,ok,ov,rfl⟩:=hJ;show bH (D.at hi) λk x v e1 e2 e3 hv=>?_;show OG (x:=x) r' hiL hob (D.later (r'.at (idd _ _ _ hI) hL).1).1 e2 (hv.mono le) E' W λv ar k=>hW v ar λU hU=>k U λax ah hv ay aw ho=>?_;obtain⟨ob,rfl,ho⟩:=ho;show hU ax _ (by rw[AD,e1];show hv) ay aw ⟨iset _ _ _ _ hI,ob,Ad ..,ho⟩
 .obtain ⟨hI,ob,hob,ok,ov,rfl⟩:=hJ;show wpAny_pyNext_items_end hh (r'.at hob hiL).1 (D.later (r'.at (idd _ _ _ hI) hL).1).1 (by rw[Dy];show Nat.le_of_eq D.kv.length) λh'' hx=>?_;show aU (r'.drop hob hiL hx s'.toks) λr'' le''=>?_;have hd3:ae.del it d=some (.obj od):=by rw[A4 _ (Ah hitd)];show idd _ _ _ hI
  show hW _ _ (r''.back (o:=.dict kvs) hd3 hL (aO ps ((D.later (r''.at hd3 hL).1).2) D.kv.1 (D.kv.2.mono (le.trans le'')))) le'' ?_;rw[<-OH _ _ (Ah hitd)];show ifin _ _ hI
 .x_go;obtain⟨hI,ob,hob,_,_,rfl⟩:=hJ;apply Z;show(iturn i _ _ ao ae _ (by rw[AD,A3 hi];rfl) (J3 D.nd (by rw[AD,A3 hi];rfl)) hI hob).mono λmX hpX x=>x.mono λfl mY hpY y=>?_;show aZ y λhf y1 y2=>?_;clear y;rcases hf with rfl | rfl <;> show⟨y1,_,y2,_,_,rfl⟩
theorem OJ:entryFor table "set.__iter__" = some Builtin.«frozenset.__iter__»:=
 entryFor_alias (id' := "frozenset.__iter__") ∅ rfl (by decide +kernel) ∅
theorem slot_si_next:Slot "set_iterator" "__next__" "set_iterator.__next__" :=
 .of (owner := "set_iterator") (n := "__next__") (by rw[typeLookup_type,builtinLookup_eq_fast];kernel_rfl) (by decide +kernel) (by decide +kernel) (by decide +kernel)
  (by first | show .inl (by decide +kernel) | show .inr (by decide +kernel)) (by rw[isSubtype_type];kernel_rfl)
theorem OK:entryFor table "set_iterator.__next__" = some Builtin.«set_iterator.__next__»:=entryFor_of_tree ∅
theorem OL (a:Value):argsOk "set_iterator.__next__" ⟨[a],[]⟩:=by unfold argsOk;kernel_rfl
theorem HM{Q:Bool->Shared->Prop}(h:Q (W0.params.followText "set-order") s):wpAny Md A setsByText Q E s:=by unfold setsByText;show wB (wpAny_askSetting (wP h))
theorem OM{o:Obj}{t:SetTable}{Q:ET}(ho:s.heap.get? a=some o)(hex:o.ExactSet)(hd:o.data = .set es ep t)(hf:t.fits es.size=true)(h0:es.size=0)
  (hQ:Q (.ref s.heap.objs.size) { s with heap:=s.heap.push { cls:=.type "set_iterator",data:=.fields #[.int 0 0,.int 0 0,.ref a,.int 0 0,rawInt ep] } }):wpAny Md A (pyIter (.ref a)) Q E s:=by
 have hT:s.TypeIs (.ref a) "set" := aM o ho hex.1;show wpAny_pyIter_slot hT F.slot_set_iter (wpAny_call_entry F.slot_set_iter hT OJ ?_ (F.args_set_iter_1 _));delta Builtin.«frozenset.__iter__» Builtin.Frozenset.slot0 slotArgs;simp only[I6,Lq,EY,↓reduceIte,bind_assoc,List.length_nil,bne_self_eq_false];delta Builtin.Frozenset.addrOf Builtin.Frozenset.sizeOf;show wB (wP ?_)
 show wB (wP ?_);show wB (wB (wpAny_setEntries_of ho hd hf (wP ?_)));show wB (wB (wpAny_setState_of ho hd hf ?_));show wB (HM (wP ?_));split
 .rename_i h;have h':(!W0.params.followText "set-order" && (!t.plain && decide (es.size>1)))=true:=h;simp[h0]at h'
 .refine wB (wP (wB (wpAny_setEpoch_of ho hd hf ?_)));rw[h0];show wB (wpAny_newObj_type (wP (aM _ rfl ⟨"set_iterator",_,aM _ (AI _ rfl) rfl,slot_si_next.lookup,hQ⟩)))
theorem ON{o:Obj}{t:SetTable}{Q:Option Value->Shared->Prop}(hh:A.handled=none)(ho:s.heap.get? a=some o)(hd:o.data = .set es ep t)(hf:t.fits es.size=true)(h0:es.size=0)
  (hit:s.heap.get? it=some { cls:=.type "set_iterator",data:=.fields #[.int 0 0,.int 0 0,.ref a,.int 0 0,rawInt ep] })(hQ:∀h',Heap.ExtBut it s.heap h'->Q none { s with heap:=h' }):wpAny Md A (pyNext (.ref it)) Q E s:=by
 have hT:s.TypeIs (.ref it) "set_iterator" := aM _ hit rfl;show wB (wpAny_attempt (wpAny_callSpecial?_slot (name:=PySem.Str.ofString "__next__") hT slot_si_next (wpAny_call_entry slot_si_next hT OK ?_ (OL _))));change wpAny _ _ (fieldsOf (.ref it) >>= _) _ _ s;show wB (wpAny_fieldsOf hit rfl ?_);show wB (wpAny_setEntries_of ho hd hf ?_);have emp:=Array.eq_empty_of_size_eq_zero h0;clear hT h0;subst emp;show wB (wpAny_mono (Q:=λr s'=>r=none/\s'=s) (E:=λ_ _=>False) ?_ ?_ ?_)
 .refine wB (wpAny_setState_of ho hd hf ?_);show wB (HM ?_);split
  .rw [if_neg (by simp)];show wB ?_;show wB (wpAny_setState_of ho hd hf ?_);show wB (HM ?_);rename_i hb;rw[if_pos hb];show wB (wpAny_askSetting (wP (wP ⟨rfl,rfl⟩)))
  .split
   .rename_i h;have h':(!t.plain && decide ((#[]:Array (Int×Value)).size>1))=true:=h;simp at h'
   .show wpAny _ _ ((if (!t.led && !(#[]:Array (Int×Value)).isEmpty)=true then unsupported "set:maker-not-led" else pure Unit.unit) >>= λ_=>_) _ _ _;rw[if_neg (by simp)];show wB (wP ?_);show wP ⟨rfl,rfl⟩
 .clear ho;rintro r s' ⟨rfl,rfl⟩;show wB (wpAny_setField hit rfl (by simp) ?_);show wB ?_;show wB (wpAny_newObj_type ?_ (by size_fits));show wB (m:=firstArgMember _ _) (wpAny_of_eq (a:=Value.none) (by first | rfl | (simp only[firstArgMember];rfl)) ?_);show wpAny_newObj_type ?_ (by size_fits);dsimp only[raiseNew];show wB (wpAny_handled ?_);rw[(hh:A.in1.handled=none)];show wB (wP (wpAny_throw ?_));show wB (wpAny_isInstance (T := "StopIteration") (b:=true) (aM _ (AI _ rfl) rfl) isSubtype_stop ?_);show wP (hQ _ (((B2 ..).extBut.push _).push _))
 .exact λ_ _ x=>x.elim
theorem OO {pos}{Q:QX}(hh:A.handled=none)
  (h:↥EV iter m hp λo ak=>∃a f,o = .ref a/\ak a=some (.set f 0)/\a≠aa.locals/\Q .next m ak)
  (hs:∀x,foldedSetIterable iter aa x=pure x:=by intro _;rfl) :
  ↥EX (.For aD iter body [] pos) m hp Q:=λs r=>by
 show wpAny_For (h.use r λu ar o ak au aq hu x=>?_) hs;x_go;show bG x λa f zz1 ha hL q=>?_;clear x;subst zz1;subst hu;show b8 (au.at ha hL) λo es ep t ho hex hd _ _ _ hf h0=>?_;apply Z;show OM ho hex hd hf h0 ?_;x_go;show a7 (au.newAt { cls:=.type "set_iterator",data:=.fields #[.int 0 0,.int 0 0,.ref a,.int 0 0,rawInt ep] } (.obj { cls:=.type "set_iterator",data:=.fields #[.int 0 0,.int 0 0,.ref a,.int 0 0,rawInt ep] }) ⟨AI _ rfl,λi=>by obtain⟨_,_,_,e⟩:=i;cases e⟩) λrel hit hiL le2=>?_;apply Z;show codeAny_forLoop_any (λ_ s'=>s'={ ar with heap:=ar.heap.push { cls:=.type "set_iterator",data:=.fields #[.int 0 0,.int 0 0,.ref a,.int 0 0,rawInt ep] } }) (λk s' x=>?_) 0 rfl;subst x;show ON hh (AX _ ho) hd hf h0 (AI ar.heap (o:={ cls:=.type "set_iterator",data:=.fields #[.int 0 0,.int 0 0,.ref a,.int 0 0,rawInt ep] }) rfl) λh' he=>?_;x_go;obtain⟨r',le'⟩:=rel.drop (Ad ..) hiL he ar.toks;apply Z;show wpAny_execs_nil ⟨.next,m,ak,r'.sub λz oz e=>?_,(aq.trans le2).trans le',rfl,q⟩;by_cases hz:z=aa.locals
 .subst hz;rw[Ad]at e ⊢;show e
 .rw [Al _ _ hz]at e ⊢;have hzi:=Ag e hit;rw[A4 _ hzi,Al _ _ hzi];show e
theorem OP (W0:World):(KW W0).lookup 160=some ⟨.type "function",none,.func Hw,#[]⟩:=rfl
theorem OQ (W0:World):(KW W0).lookup 167=some ⟨.type "function",none,.func Hx,#[]⟩:=rfl
theorem OS (W0:World):(KW W0).lookup 174=some ⟨.type "function",none,.func My,#[]⟩:=rfl
theorem OT (W0:World):(KW W0).lookup 181=some ⟨.type "function",none,.func IG,#[]⟩:=rfl
theorem OU (W0:World):(KW W0).lookup 188=some ⟨.type "function",none,.func DV,#[]⟩:=rfl
theorem kFlm (W0:World):(KW W0).lookup 196=some ⟨.type "function",none,.func Cr,#[]⟩:=rfl
theorem kMB (W0:World):(KW W0).lookup 203=some ⟨.type "function",none,.func fdMB,#[]⟩:=rfl
theorem OV (W0:World):(KW W0).lookup 210=some ⟨.type "function",none,.func Ev,#[]⟩:=rfl
theorem kGrp (W0:World):(KW W0).lookup 218=some ⟨.type "function",none,.func Bb,#[]⟩:=rfl
theorem clsS (W0:World):Cls (KW W0) 242:=⟨by kernel_rfl,by kernel_rfl,by kernel_rfl,by kernel_rfl,by kernel_rfl⟩
theorem OW (W0:World):makesIn (KW W0) 242=true:=by kernel_rfl
theorem J4 (W0:World):attrNames.all (λn=>findIn (KW W0) (.ref 242) n == some none && takerIn (KW W0) 242 n == some none)=true:=by kernel_rfl
theorem OX (W0:World){n:An}(h:n∈attrNames):findIn (KW W0) (.ref 242) n=some none:=by have:=DK.mp (J4 W0) n h;rw[DF]at this;show eq_of_beq this.1
theorem OY (W0:World){n:An}(h:n∈attrNames):takerIn (KW W0) 242 n=some none:=by have:=DK.mp (J4 W0) n h;rw[DF]at this;show eq_of_beq this.2
theorem J5:bootBuiltins (PySem.Str.ofString "set")=some (.type "set"):=by boot_fast
theorem OZ:bootBuiltins (PySem.Str.ofString "enumerate")=some (.type "enumerate"):=by boot_fast
theorem B7:bootBuiltins (PySem.Str.ofString "len")=some (.builtin "len"):=by boot_fast
theorem Da:bootBuiltins (PySem.Str.ofString "range")=some (.type "range"):=by boot_fast
theorem Gq:bootBuiltins (PySem.Str.ofString "max")=some (.builtin "max"):=by boot_fast
theorem Gr:bootBuiltins (PySem.Str.ofString "min")=some (.builtin "min"):=by boot_fast
theorem J6 (W0:World):nsIn (KW W0) mainGlobals (S "set")=some none:=by kernel_rfl
theorem Pa (W0:World):nsIn (KW W0) mainGlobals (S "enumerate")=some none:=by kernel_rfl
theorem B8 (W0:World):nsIn (KW W0) mainGlobals (S "len")=some none:=by kernel_rfl
theorem Db (W0:World):nsIn (KW W0) mainGlobals (S "range")=some none:=by kernel_rfl
theorem Gs (W0:World):nsIn (KW W0) mainGlobals (S "max")=some none:=by kernel_rfl
theorem Gu (W0:World):nsIn (KW W0) mainGlobals (S "min")=some none:=by kernel_rfl
theorem g_SM (W0:World):nsIn (KW W0) mainGlobals (S "SequenceMatcher")=some (some (.ref 242)):=by kernel_rfl
theorem J7 (W0:World):nsIn (KW W0) mainGlobals (S "Match")=some (some (.ref 135)):=by kernel_rfl
theorem J8 (W0:World):(KW W0).lookup 251=some ⟨.type "function",none,.func fdKept,#[]⟩:=rfl
theorem Pb (W0:World):nsIn (KW W0) mainGlobals (S "_law_kept")=some (some (.ref 251)):=by kernel_rfl
theorem J9 (W0:World):(KW W0).lookup 258=some ⟨.type "function",none,.func Ew,#[]⟩:=rfl
theorem Pc (W0:World):nsIn (KW W0) mainGlobals (S "_law_rows")=some (some (.ref 258)):=by kernel_rfl
theorem JA (W0:World):(KW W0).lookup 263=some ⟨.type "function",none,.func fdGroups,#[]⟩:=rfl
theorem Pd (W0:World):nsIn (KW W0) mainGlobals (S "_law_groups")=some (some (.ref 263)):=by kernel_rfl
theorem kLaw (W0:World):(KW W0).lookup 268=some ⟨.type "function",none,.func fdLaw,#[]⟩:=rfl
theorem Pe (W0:World):(KW W0).lookup 82=some ⟨.type "function",none,.func Mz,#[]⟩:=rfl
theorem Pf (W0:World):(KW W0).lookup 89=some ⟨.type "function",none,.func M0,#[]⟩:=rfl
theorem JB:bootBuiltins (PySem.Str.ofString "list")=some (.type "list"):=by boot_fast
theorem JC (W0:World):nsIn (KW W0) mainGlobals (S "list")=some none:=by kernel_rfl
theorem Pg:bootBuiltins (PySem.Str.ofString "map")=some (.type "map"):=by boot_fast
theorem Ph (W0:World):nsIn (KW W0) mainGlobals (S "map")=some none:=by kernel_rfl
theorem JE:bootBuiltins (PySem.Str.ofString "tuple")=some (.type "tuple"):=by boot_fast
theorem JF (W0:World):nsIn (KW W0) mainGlobals (S "tuple")=some none:=by kernel_rfl
theorem JG{a b c:AV}(x:VRs h [a,b,c] vs):∃u v W0,vs=[u,v,W0]/\VR h a u/\VR h b v/\VR h c W0:=by show aN x λv r zz1 h1 zz2=>?_;clear x;subst zz1;show aN zz2 λu r' zz3 h2 zz4=>?_;clear zz2;subst zz3;show aN zz4 λz r'' zz5 h3 zz6=>?_;clear zz4;subst zz5;subst zz6;show bh _ _ _ rfl h1 h2 h3
theorem JH{a b c d:AV}(x:VRs h [a,b,c,d] vs):∃u v W0 z,vs=[u,v,W0,z]/\VR h a u/\VR h b v/\VR h c W0/\VR h d z:=by show aN x λv r zz1 h1 zz2=>?_;clear x;subst zz1;show aN zz2 λu r' zz3 h2 zz4=>?_;clear zz2;subst zz3;show aN zz4 λz r'' zz5 h3 zz6=>?_;clear zz4;subst zz5;show aN zz6 λy r''' zz7 h4 zz8=>?_;clear zz6;subst zz7;subst zz8;show⟨_,_,_,_,rfl,h1,h2,h3,h4⟩
theorem Cv {x:Addr}{u:AV}(G:Gnd (KW W0) B)(hm:m (S "self")=some (.ref x))(I:Ins hp aa.locals x dx 242 ma)(ha:ma name=some u)(h:Q u hp)(hin:name∈attrNames:=by decide)(hu:∀n,u≠.bi n:=by intro _ e;cases e)
  (hk:autoParam (aa.scope.kind = .function) rB)(hl:autoParam (aa.kindOf (S "self")=some .local) rB):↥EV (.Attribute (.Name (S "self") p1) name p2) m hp Q:=
 MK G (clsS W0) (OX W0 hin) (Aa hm ⟨x,dx,ma,u,rfl,I,ha,hu,h⟩ hk hl)
theorem Cb {x:Addr}{u:AV}{Q:Loc->Hp->Prop}(G:Gnd (KW W0) B)(hm:m (S "self")=some (.ref x))(I:Ins hp aa.locals x dx 242 ma)(h:Q m (hp.set dx (.atr (upd ma name u))))(hin:name∈attrNames:=by decide)
  (hk:autoParam (aa.scope.kind = .function) rB)(hl:autoParam (aa.kindOf (S "self")=some .local) rB):↥ASG (.Attribute (.Name (S "self") p1) name p2) u m hp Q:=
 ML G (clsS W0) (OY W0 hin) hin (Aa hm ⟨x,dx,ma,rfl,I,h⟩ hk hl)
theorem AN {L1 L2:Addr}(h1:z≠L1)(h2:z≠L2):hp.cut L1 L2 z=hp z:=by simp[Hp.cut,h1,h2]
theorem Dr{fl:AF}(hl:ah aa.locals=some (.ns m))(q:Q (CS fl) (ah.cut aa.locals L)):RET L aa m Q fl m' ah:=by
 show aO (ah.cut aa.locals L) (λz o hz=>?_) (by simp[Hp.cut]) q;by_cases h1:z=aa.locals
 .subst h1;rw[Ad]at hz;rw[hl];show hz
 .rw [Al _ _ h1]at hz;by_cases h2:z=L
  .simp [Hp.cut,h2]at hz
  .rw [AN h1 h2]at hz;show hz
theorem Ft (bs:List Int)(x k:Int):idxN (bs++[x]) k=idxN bs k++(if x=k then[bs.length] else[]):=by
 unfold idxN;rw[Ba,Hk,Dz,Hl];congr 1
 .apply List.filter_congr;intro i hi;rw[BM]at hi;rw[Dg hi]
 .by_cases h:x=k
  .simp [h]
  .simp [h]
theorem idxs_snoc (bs:List Int)(x k:Int):idxs (bs++[x]) k=idxs bs k++(if x=k then[.int bs.length] else[]):=by unfold idxs;rw[Ft,A2];split <;> rfl
theorem JI (bs:List Int)(k:Int):(idxN bs k).length<=bs.length:=by unfold idxN;show Aj (Fe _ _) (by simp)
theorem Fu (kvs:List (Int×AV))(k:Int)(v:AV)(k':Int)(h:dget kvs k=none):dget (kvs++[(k,v)]) k'=if k'=k then some v else dget kvs k':=by
 unfold dget at *;rw[List.find?_append];by_cases e:k'=k
 .subst e;have:kvs.find? (λkv=>decide (kv.1=k'))=none:=by
   cases hf:kvs.find? (λkv=>decide (kv.1=k')) with
   | none=>rfl
   | some x=>rw[hf]at h;cases h
  rw[this];simp
 .rw [if_neg e];cases hf:kvs.find? (λkv=>decide (kv.1=k')) with
  | some x=>rfl
  | none=>simp[Ah e]
theorem Pi (h:dget kvs k=none):k∉kvs.map (·.1):=λhm=>by show aK (Bk.mp hm) λp hp e=>?_;unfold dget at h;rw[Option.map_eq_none_iff,GW]at h;show h p hp (by simpa using e)
theorem VRs.nil:VRs h [] []:=by rfl
theorem VRs.mk{a:AV}{v:Value}{l:List AV}{r:List Value}(x:VR h a v)(y:VRs h l r):VRs h (a::l) (v::r):=by simp only[VRs];show aT _ _ rfl x y
theorem Pj{a b c d e:AV}(x:VRs h [a,b,c,d,e] vs):∃u v W0 z y,vs=[u,v,W0,z,y]/\VR h a u/\VR h b v/\VR h c W0/\VR h d z/\VR h e y:=by obtain⟨v,r,rfl,h1,u,r',rfl,h2,z,r'',rfl,h3,y,r''',rfl,h4,q,r4,rfl,h5,rfl⟩:=x;show⟨_,_,_,_,_,rfl,h1,h2,h3,h4,h5⟩
theorem if_t {X Y:Prop}(h:X):if true=true then X else Y:=h
theorem if_f {X Y:Prop}(h:Y):if false=true then X else Y:=by rw[if_neg EZ];show h
theorem Bx {X Y:Prop}{b:Bool}(e:b=true)(h:X):if b=true then X else Y:=by rw[if_pos e];show h
theorem Bl {X Y:Prop}{b:Bool}(e:b=false)(h:Y):if b=true then X else Y:=by subst e;show if_f h
theorem AP {X Y p:Prop}[Decidable p](c:p)(h:X):if decide p=true then X else Y:=Bx (decide_eq_true c) h
theorem AL {X Y p:Prop}[Decidable p](c:¬p)(h:Y):if decide p=true then X else Y:=Bl (decide_eq_false c) h
theorem updO {ns:List String}{a y:String}{r:Option AV}(hy:y∉ns)(h:m (S y)=r)(hm:a∈ns:=by decide):upd m (S a) v (S y)=r:=by rw[ug,if_neg (λe:y=a=>hy (by rw[e];show hm))];show h
theorem Pk{x:Int}{tp:Pos}{KK:QX}(G:Gnd (KW W0) B)(hh:A.handled=none)(hd:m (S "b2j")=some (.ref d))(R:B2J hb hp L d kvs bs)(hle:Hp.Le hb hp)(hbd0:hb d=none)(az:bs.length<=4000)
  (h1:hp it=some (.obj o1))(h2:hp en=some (.obj o2))(hK:∀mY hpY,(∀y,y ≠ "i" -> y ≠ "elt" -> y ≠ "indices" -> mY (S y)=m (S y))->hpY it=some (.obj o1)->hpY en=some (.obj o2)->Hp.Le hb hpY->(∃kvs',B2J hb hpY L d kvs' (bs++[x]))->KK .next mY hpY) :
  ASG Md A (λ_ _=>False) B (callEnv DV L 188) (kidT ((AE (mS 5)).getD 2 (.Pass tp))) (.tup [.int bs.length,.int x]) m hp λmX hpX=>EXs Md A (λ_ _=>False) B (callEnv DV L 188) (kids ((AE (mS 5)).getD 2 (.Pass tp))) mX hpX KK:=by
 show Ca hh rfl rfl rfl (Au (Ap (Au (Ap (Bd ?_)))))
 generalize hm1:upd (upd m _ _) _ _=m1;have g1:m1 (S "i")=some (.int bs.length):=by subst hm1;lk
 have g2:m1 (S "elt")=some (.int x):=by rw[<-hm1];lk
 have g3:m1 (S "b2j")=some (.ref d):=by rw[<-hm1];lk
 have g4:∀y,y ≠ "i" -> y ≠ "elt" -> y ≠ "indices" -> m1 (S y)=m (S y):=λy a b c=>by rw[<-hm1];simp only[ug,a,b,if_false]
 clear hm1;have hidl:(idxs bs x).length<=4000:=by unfold idxs;rw[Ai];show Aj (JI _ _) az
 have hlk:=R.len;show Ae (AS (Jg F.slot_dict_setdefault F.type_dict_setdefault Hi (Aa g3 (aO d rfl (Jh R.di R.dL) (Ac (Aa g2 (Ac (AM (Af ⟨sz rfl,λe he heL=>Af ?_⟩)))))))));have hde:=Ag R.di he;have hdi:(hp.set e (.list [])) d=some (.dict kvs):=Ab hde R.di;have hebn:=hle.none he;have hie:=Ag h1 he;have hne:=Ag h2 he;have hid:it≠d:=λh=>by rw[h,R.di]at h1;cases h1
 have hnd:en≠d:=λh=>by rw[h,R.di]at h2;cases h2
 show Nu G hdi R.dL (F20 0x1388035857850fa0025750 273 rfl az hlk) ?_;clear g2;cases hg:dget kvs x with
 | none=>
  rw[(rfl:((none:Option AV).isSome)=false),if_neg EZ];have hld:((hp.set e (.list [])).set d (.dict (kvs++[(x,.ref e)]))) e=some (.list []):=Ab (Ah hde) (Ad ..);show Ae (AJ (Bs (Aa (v:=.ref e) (by change upd m1 (S "indices") ((none:Option AV).getD (.ref e)) (S "indices")=_;simp only[ug,if_true];rfl) (aQ e _ rfl hld heL (?_)))));show Ac (Aa (v:=.int bs.length) (by lk) (Af (aQ _ _ rfl hld (sz rfl) ⟨by simp,by simp,by simp,?_⟩)));show Ao (hK _ _ (λy a b c=>by simp only[ug,c];show g4 y a b c) ?_ ?_ ?_ ⟨kvs++[(x,.ref e)],?_⟩)
  .exact Ab hie (Ab hid (Ab hie h1))
  .exact Ab hne (Ab hnd (Ab hne h2))
  .exact ((hle.set hebn _).set hbd0 _).set hebn _
  .have hne0:=R.no x hg
   show⟨Ab hde (Ad ..),R.dL,λk hk=>?_,λk v hk=>?_,λk k' a hk hk'=>?_,by simp;omega,by rw[A2];show DN.mpr ⟨R.nd,by simp,λa ha b hb e=>by
    rw[A1,CP,Ay]at hb
    clear hne0 hld hidl hK;subst hb;show Pi hg (e▸ha)⟩,λk v hk=>?_⟩
   rotate_left 3
   .rw [Fu _ _ _ _ hg]at hk;rw[Ft];by_cases e':k=x
    .rw [if_pos e'.symm];simp
    .rw [if_neg e']at hk;show λh=>R.ne k v hk (List.append_eq_nil_iff.mp h).1
   .rw [Fu _ _ _ _ hg]at hk;by_cases e':k=x
    .rw [if_pos e']at hk;cases hk
    .rw [if_neg e']at hk;rw[Ft,R.no k hk,if_neg (Ah e')];rfl
   .rw [Fu _ _ _ _ hg]at hk;by_cases e':k=x
    .rw [if_pos e']at hk;cases hk;show aW e rfl (?_) heL hebn;rw[Ad,e',idxs_snoc,if_pos rfl];unfold idxs;rw[hne0];rfl
    .rw [if_neg e']at hk;show a9 (R.yes k v hk) λa zz1 ha haL hba=>?_;show zz1▸?_;have hae:=Ag ha he;have had:a≠d:=λh=>by rw[h,R.di]at ha;cases ha
     show aW a rfl (?_) haL hba;rw[Al _ _ hae,Al _ _ had,Al _ _ hae,ha,idxs_snoc,if_neg (Ah e')];simp
   .rw [Fu _ _ _ _ hg]at hk hk';by_cases e1:k=x
    .by_cases e2:k'=x
     .rw [e1,e2]
     .rw [if_pos e1]at hk;rw[if_neg e2]at hk';cases hk;obtain⟨a',ea,ha,_⟩:=R.yes k' _ hk';cases ea;rw[he]at ha;cases ha
    .rw [if_neg e1]at hk;by_cases e2:k'=x
     .rw [if_pos e2]at hk';cases hk';obtain⟨a',ea,ha,_⟩:=R.yes k _ hk;cases ea;rw[he]at ha;cases ha
     .rw [if_neg e2]at hk';show R.inj k k' a hk hk'
 | some v=>
  show a9 (R.yes x v hg) λa zz1 ha haL hba=>?_;subst zz1;rw[(rfl:((some (AV.ref a)).isSome)=true),if_pos rfl];have had:a≠d:=λh=>by rw[h,R.di]at ha;cases ha
  have hia:it≠a:=λh=>by rw[h,ha]at h1;cases h1
  have hna:en≠a:=λh=>by rw[h,ha]at h2;cases h2
  have hld:(hp.set e (.list [])) a=some (.list (idxs bs x)):=Ab (Ag ha he) ha;show Ae (AJ (Bs (Aa (v:=.ref a) (by change upd m1 (S "indices") ((some (AV.ref a)).getD (.ref e)) (S "indices")=_;simp only[ug];rfl) (aQ a _ rfl hld haL (?_)))));show Ac (Aa (v:=.int bs.length) (by lk) (Af (aQ _ _ rfl hld (sz' (Aj () ∅)) ⟨by simp,by simp,by simp,?_⟩)));show Ao (hK _ _ (λy a b c=>by simp only[ug,c];show g4 y a b c) ?_ ?_ ?_ ⟨kvs,?_⟩)
  .exact Ab hia (Ab hie h1)
  .exact Ab hna (Ab hne h2)
  .exact (hle.set hebn _).set hba _
  .refine ⟨Ab (Ah had) hdi,R.dL,λk hk=>?_,λk v hk=>?_,R.inj,by simp;show F20 0x680758750 17 rfl hlk,R.nd,λk v hk h=>R.ne k v hk (List.append_eq_nil_iff.mp ((Ft _ _ _).symm.trans h)).1⟩
   .have e':k≠x:=λe=>by rw[e,hg]at hk;cases hk
    rw[Ft,R.no k hk,if_neg (Ah e')];rfl
   .by_cases e':k=x
    .clear hld ha hidl hK;subst e';rw[hg]at hk;cases hk;show aW a rfl (?_) haL hba;rw[Ad,idxs_snoc,if_pos rfl]
    .refine a9 (R.yes k v hk) λc zz1 hc hcL hbc=>?_;subst zz1;show aW c rfl (?_) hcL hbc;rw[Al _ _ (λh=>e' (by rw[h]at hk;show R.inj k x a hk hg)),Al _ _ (Ag hc he),hc,idxs_snoc,if_neg (Ah e')];simp
theorem HN (hp:Hp)(a:Addr):Hp.Le (hp.del a) hp:=λz o e=>by
 by_cases h:z=a
 .subst h;simp[Hp.del]at e
 .rw [A4 _ h]at e;show e
theorem JD.le (R:JD hp L d J)(le:Hp.Le hp ah):JD ah L d J:=by show a9 R.ex λkvs h1 h2 h3 h4=>?_;show⟨kvs,le _ _ h1,h2,h3,λk v hk=>by show aS (h4 k v hk) λa e ha haL=>?_;show aO a e (le _ _ ha) haL⟩
theorem JD.move (R:JD hp L d J)(h:∀z o,hp z=some o->(∀m,o≠.ns m)->z≠L->ah z=some o/\z≠L'):JD ah L' d J:=by show a9 R.ex λkvs h1 h2 h3 h4=>?_;have x:=h _ _ h1 (by simp) h2;show⟨kvs,x.1,x.2,h3,λk v hk=>?_⟩;show aS (h4 k v hk) λa e ha haL=>?_;have y:=h _ _ ha (by simp) haL.1;show aW a e y.1 y.2 haL.2
theorem JD.put{c:Addr}{o:AO}(R:JD hp L d J)(h:hp c=some (.atr ma)):JD (hp.set c o) L d J:=by x_go;show a9 R.ex λkvs h1 h2 h3 h4=>?_;apply Z;show⟨kvs,Ab (λe=>by rw[e,h]at h1;cases h1) h1,h2,h3,λk v hk=>?_⟩;x_go;show aS (h4 k v hk) λa e ha haL=>?_;apply Z;show aO a e (Ab (λe=>by rw[e,h]at ha;cases ha) ha) haL
theorem Pl (bs:List Int)(aj:Bool)(k:Int):(PJ bs aj k).length<=bs.length:=JI _ _
theorem HO (bs:List Int)(aj:Bool)(k:Int):(PJ bs aj k).Pairwise (· < ·):=List.Pairwise.filter _ Hm
theorem Src.call (x:Src B hp L v bs)(h:hp L'=none):Src B (hp.set L (.ns m)) L' v bs:=by
 cases x with
 | list y=>show .list (y.call h)
theorem Src.put{b:Addr}{o:AO}(x:Src B hp L v bs)(h:∀ys,hp b≠some (.list ys)):Src B (hp.set b o) L v bs:=by
 cases x with
 | list y=>show .list (y.put h)
theorem Src.le (x:Src B hp L v bs)(h:Hp.Le hp ah):Src B ah L v bs:=by
 cases x with
 | list y=>show .list (y.le h)
theorem Src.nbi (x:Src B hp L v bs):∀n,v≠.bi n:=by cases x <;> (intro _ e;cases e)
theorem B2J.setz{o:AO}(R:B2J hb hp L d kvs bs)(hd:d≠z)(ne:∀k v,dget kvs k=some v->v≠.ref z):B2J hb (hp.set z o) L d kvs bs:=⟨Ab hd R.di,R.dL,R.no,λk v hk=>by
 show aS (R.yes k v hk) λa zz1 ha r=>?_;subst zz1
 show aO a rfl (Ab (λe=>ne k _ hk (by rw[e])) ha) r,R.inj,R.len,R.nd,R.ne⟩
theorem B2J.delz (R:B2J hb hp L d kvs bs)(hd:d≠z)(ne:∀k v,dget kvs k=some v->v≠.ref z):B2J hb (hp.del z) L d kvs bs:=⟨by rw[A4 _ hd];show R.di,R.dL,R.no,λk v hk=>by
 show aS (R.yes k v hk) λa zz1 ha r=>?_;subst zz1
 show aO a rfl (by rw[A4 _ (λe=>ne k _ hk (by rw[e]))];show ha) r,R.inj,R.len,R.nd,R.ne⟩
theorem JJ {hp1 hpA:Hp}{x j:Addr}{o:AO}(I:Ins hp1 L x dx C ma)(hj:hp1 j=none)(e:(hp1.set j o).set dx (.atr ma')=hpA):Ins hpA L x dx C ma'/\hpA j=some o/\j≠dx/\∀z o',z≠dx->hp1 z=some o'->hpA z=some o':=by subst e;have n:=Ah (Ag I.at_ hj);show aV ((I.le ((Hp.Le.refl hp1).set hj o)).put) (Ab n (Ad ..)) n λz o' hz e=>Ab hz (Ab (Ag e hj) e)
theorem Src.keep (x:Src B hp L v bs)(k:∀z ys,hp z=some (.list ys)->ah z=some (.list ys)):Src B ah L v bs:=by
 cases x with
 | list y=>
  rcases y with⟨e,hh'⟩ | e
  .exact .list (.inl ⟨k _ _ e,hh'⟩)
  .exact .list (.inr e)
theorem Pm (x:Src B hp aa.locals v bs)(az:bs.length<=4000)(hq:Q (.int bs.length) hp):↥CL (.builtin "len") m [v] hp Q:=by
 cases x with
 | list y=>show BB y (by rw[Ai];show sz' (Aj () ∅)) (by rw[Ai];show hq)
theorem Pn {x:Addr}{hb1:Hp}{KK:QX}(G:Gnd (KW W0) B)(hh:A.handled=none)(hl1:Src B hb1 L bv bs)(hbd:hb1 d=none)(hdL:d≠L)(az:bs.length<=4000)
  (f1:m (S "self")=some (.ref x))(f2:m (S "b")=some bv)(f3:m (S "b2j")=some (.ref d))(hK:∀m' ah,Ic x d bv hb1 L bs m' ah->KK .next m' ah) :
  EX Md A (λ_ _=>False) B (callEnv DV L 188) ((AE (mS 5)).getD 2 (.Pass ⟨0,0,0,0⟩)) m (hb1.set d (.dict [])) KK:=by
 cases hl1 with
 | @list bA _ hl1'=>
  show NB hh (Az G (Pa W0) OZ ∅ (λ_=>BK) ⟨rfl,Ac (Aa (v:=.ref bA) (by lk) (Af (aT bA (bs.map .int) rfl (hl1'.le ((Hp.Le.refl _).set hbd _)) λit en hit hitL hen henL hne=>?_)))⟩);have hib:=((Hp.Le.refl hb1).set hbd _).none hit;have heb:=((Hp.Le.refl hb1).set hbd _).none hen;have hdi:=Ag (Ad ..) hit;have hden:=Ag (Ad ..) hen;let Iq:Nat->Loc->Hp->Prop:=λi ao ae=>ao (S "self")=some (.ref x)/\ao (S "b")=some (.ref bA)/\ao (S "b2j")=some (.ref d)/\Hp.Le hb1 ae/\∃kvs,B2J hb1 ae L d kvs (bs.take i)/\(∀k v,dget kvs k=some v->v≠.ref it/\v≠.ref en);show cg Iq (λo1 o2=>?_) (λi ao ae ob x=>?_) (λi ao ae ob x=>?_) (λi ao ae x=>hl1'.le x.2.2.2.1) (λi y ao ae o1 o2 hy x h1 h2=>?_) λao ae x=>?_
  .refine ⟨by lk,by lk,by lk,(((Hp.Le.refl _).set hbd _).set hib _).set heb _,[],⟨?_,hdL,λk _=>rfl,λk v hk=>(by cases hk),λk k' a hk=>(by cases hk),A5 _,.nil,λk v hk=>(by cases hk)⟩,λk v hk=>(by cases hk)⟩;show Ab hden (Ab hdi (Ad ..))
  .x_go;obtain⟨x1,x2,x3,x4,kvs,R,hne'⟩:=x;apply Z;show⟨x1,x2,x3,x4.set hib _,kvs,R.setz hdi λk v hk=>(hne' k v hk).1,hne'⟩
  .x_go;obtain⟨x1,x2,x3,x4,kvs,R,hne'⟩:=x;apply Z;show⟨x1,x2,x3,x4.set heb _,kvs,R.setz hden λk v hk=>(hne' k v hk).2,hne'⟩
  .refine bf x λx1 x2 x3 x4 zz1=>?_;clear x;show aK zz1 λkvs R hne'=>?_;clear zz1;obtain⟨v,hbk,rfl⟩:∃v,bs[i]?=some v/\AV.int v=y:=by rw[AZ]at hy;show C7.mp hy
   have hil:=(BF.mp hbk).1;have hti:(bs.take i).length=i:=by rw[Em];lia
   have etake:bs.take (i+1)=bs.take i++[v]:=by rw[En,hbk];rfl
   rw[(by rw[hti]:(AV.tup [.int i,.int v]) = .tup [.int (bs.take i).length,.int v])];show Pk (x:=v) (tp:=⟨0,0,0,0⟩) G hh x3 R x4 hbd (F30 0xfa00259589607840fa0025750 65809 rfl az hil hti) h1 h2 λm4 hp4 hmm q1 q2 q3 yq=>?_;obtain⟨kvs',R'⟩:=yq;show aP ⟨by rw[hmm _ ∅ ∅ ∅];show x1,by rw[hmm _ ∅ ∅ ∅];show x2,by rw[hmm _ ∅ ∅ ∅];show x3,q3,kvs',by rw[etake];show R',λk u hk=>?_⟩ q1 q2;show aS (R'.yes k u hk) λa q81 ha _=>?_;clear hk;subst q81;show⟨λe=>(by cases e;rw[q1]at ha;cases ha),λe=>(by cases e;rw[q2]at ha;cases ha)⟩
  .refine bf x λx1 x2 x3 x4 zz1=>?_;show aK zz1 λkvs R hne'=>?_;rw[Ai,Cz]at R;show hK _ _ ⟨x1,x2,x4.del hib,⟨kvs,R.delz hdi λk v hk=>(hne' k v hk).1⟩,x3⟩
theorem Po {x p:Addr}{KK:QX}(G:Gnd (KW W0) B)(hh:A.handled=none)(hpop:Few bs aj)
  (I:Ins hp L x dx 242 ma)(ha:ma (S "autojunk")=some (.bool aj))(f1:m (S "self")=some (.ref x))(f2:m (S "n")=some (.int bs.length))(f3:m (S "b2j")=some (.ref d))(f4:m (S "popular")=some (.ref p))
  (hpp:hp p=some (.set (λ_=>false) 0))(hpL:p≠L)(hd4:hp d=some (.dict kvs))(hdL:d≠L)(az:bs.length<=4000)(hlist:∀k v,dget kvs k=some v->∃a,v = .ref a/\hp a=some (.list (idxs bs k))/\a≠L)(hK:∀m' ah,Hp.Le hp ah->KK .next m' ah) :
  EX Md A (λ_ _=>False) B (callEnv DV L 188) ((AE (mS 5)).getD 8 (.Pass ⟨0,0,0,0⟩)) m hp KK:=by
 show AB ?_;show BZ ?_;show AC ?_;show BJ ?_;show Cv G f1 I ha ?_;show Ar ?_;clear ha;cases aj with
 | false=>
  show if_f (if_f ?_);show Ao (hK _ _ (.refl _))
 | true=>
  show if_t ?_;show AC ?_;show Av ?_;show Aa (by lk) ?_;show Ak ?_;show IK ?_;show Ar ?_;by_cases hlt:bs.length<200
  .refine Bl (show decide ((bs.length:Int)>=200)=false from by simp;(show BC.mpr ())) (if_f ?_);show Ao (hK _ _ (.refl _))
  .refine Bx (show decide ((bs.length:Int)>=200)=true from by simp;(show F10 0x73c858c857420 17 rfl hlt)) ?_;show C9 ?_;show if_t ?_;show Ae (AS (At (At (Aa (v:=.int bs.length) (by lk) (Ak (Ju ∅ ∅ (Ak (A6 ?_))))))));have hnt:((bs.length:Int).fdiv 100+1)=((bs.length / 100+1:Nat):Int):=by rw[Int.fdiv_eq_ediv_of_nonneg _ ∅];push_cast;rfl
   rw[hnt]
   try dsimp only
   generalize hm5:upd m (S "ntest") _=m5;have k1:m5 (S "b2j")=some (.ref d):=by subst hm5;lk
   have k2:m5 (S "ntest")=some (.int ((bs.length / 100+1:Nat):Int)):=by subst hm5;lk
   have k3:m5 (S "popular")=some (.ref p):=by clear k2 k1;subst hm5;lk
   clear hm5;show Ae (OI G hh (Aa k1 (aQ d kvs rfl hd4 hdL λvw it od hvw hvL hvd hit hiL hid hiv=>?_)));let Iq:Nat->Loc->Hp->Prop:=λi ao ae=>ao (S "ntest")=some (.int ((bs.length / 100+1:Nat):Int))/\ao (S "popular")=some (.ref p)/\ae d=some (.obj od)/\∀z o,z≠d->hp z=some o->ae z=some o;show bD Iq (λob=>?_) (λi ao ae ob x=>?_) (λi ao ae x=>x.2.2.1) (λi k v ao ae ob hkv hdg x hob=>?_) λao ae x=>?_
   .refine aV k2 k3 (Ab (Ah hid) (Ad ..)) λz o hz e=>?_;show Ab (Ag e hit) (Ab hz (Ab (Ag e hvw) e))
   .x_go;show a7 x λx1 x2 x3 x4=>?_;z_go;show aV x1 x2 (Ab (Ah hid) x3) λz o hz e=>Ab (Ag e hit) (x4 z o hz e)
   .x_go;clear hkv;show a7 x λx1 x2 x3 x4=>?_;show aS (hlist k v hdg) λa zz1 ha haL=>?_;subst zz1;z_go;have had:a≠d:=λe=>by rw[e,hd4]at ha;cases ha
    show Ca hh rfl rfl rfl (Au (Ap (Au (Ap (Bd ?_)))));show E4 λKT hT=>?_;have hil:(idxs bs k).length<=bs.length / 100+1:=by unfold idxs;rw[Ai];show hpop k
    show Ae (AB (Av (AU (Az G (B8 W0) B7 ∅ (λ_=>AT) ⟨rfl,Ac (Aa (v:=.ref a) (by lk) (Af (BB (.own (x4 _ _ had ha) haL) (sz' (by lia)) ?_)))⟩))));show Aa (v:=.int ((bs.length / 100+1:Nat):Int)) (by lk) (Dp (Ar ?_));show AL (F20 0x73680372680750 17 rfl hil) ?_;show Ao (Ao (hT _ _ _ ⟨.inl rfl,aV (by lk) (by lk) x3 x4,hob⟩))
   .x_go;clear hid hvd k1 hdL f3;show a7 x λx1 x2 x3 x4=>?_;z_go;have l5:Hp.Le hp ((ae.set d (.dict kvs)).del it):=λz o e=>by
     rw[A4 _ (Ag e hit)];by_cases hz:z=d
     .subst hz;rw[Ad];rw[hd4]at e;show e
     .exact Ab hz (x4 z o hz e)
    have hpd:p≠d:=λe=>by rw[e,hd4]at hpp;cases hpp
    show Ae (OO hh (Aa x2 (aQ p _ rfl (l5 _ _ hpp) hpL (?_))));show Ao (hK _ _ l5)
theorem Pp {x:Addr}(G:Gnd (KW W0) B)(hh:A.handled=none)(aB:A.depth<recursionLimit)(I:Ins hp aa.locals x dx 242 ma)(hb:ma (S "b")=some bv)(hl:Src B hp aa.locals bv bs)
  (hj:ma (S "isjunk")=some .none)(ha:ma (S "autojunk")=some (.bool aj))(hn:Few bs aj)(az:bs.length<=4000)
  (h:∀ah d j p,Ins ah aa.locals x dx 242 (upd (upd (upd ma (S "b2j") (.ref d)) (S "bjunk") (.ref j)) (S "bpopular") (.ref p))->JD ah aa.locals d (PJ bs aj)->ah j=some (.set (λ_=>false) 0)->j≠aa.locals->(∀z o,z≠dx->z≠aa.locals->hp z=some o->ah z=some o)->ah aa.locals=none->Q .none ah) :
  ↥CL (.ref 188) m [.ref x] hp Q:=by
 show CW (CM (bs:=[(S "self",.ref x)]) (body:=AE (mS 5)) G (OU W0) ∅ rfl aB (λs vs hv _=>?_) ∅ ∅ (λL hL hLe=>?_))
 .refine aK (Cu hv) λv zz1 h1=>?_;clear hv;subst zz1;show aO ([(S "self",v)]) (Dh rfl) rfl (VRs.one h1)
 .have hl':Src B hp[m]! L bv bs:=hl.call hL;have I':Ins hp[m]! L x dx 242 ma:=I.call hL;have hLc:hp[m]! L=none:=Ab hLe hL;have hcl:hp[m]! aa.locals=some (.ns m):=Ad ..;have hback:∀z o,z≠aa.locals->hp z=some o->hp[m]! z=some o:=λz o hz e=>Ab hz e;generalize hp[m]! =hpc at *;have hdl:∀ys,hpc dx≠some (.list ys):=λys e=>by rw[I'.at_]at e;cases e
  have hdE:=I.dL;show Ae (AS (Cv G rfl I' hb ?_ (hu:=hl.nbi)));show Ae (CK (HE λd hd hdL=>Cb G (by lk) (I'.le ((Hp.Le.refl _).set hd _)) (Ap ?_)));have hddx:=Ah (Ag I'.at_ hd);rw[(A8 _ _ _ hddx)];have I1:Ins (hpc.set dx (.atr (upd ma (S "b2j") (.ref d)))) L x dx 242 (upd ma (S "b2j") (.ref d)):=I'.put;have hl1:Src B (hpc.set dx (.atr (upd ma (S "b2j") (.ref d)))) L bv bs:=hl'.put hdl;have hbd:(hpc.set dx (.atr (upd ma (S "b2j") (.ref d)))) d=none:=Ab hddx hd;have hle0:Hp.Le (hpc.del dx) (hpc.set dx (.atr (upd ma (S "b2j") (.ref d)))):=λz o e=>by
   have hz:z≠dx:=λh=>by clear hbd hl1 I1 hddx hdE hdl I' I;subst h;simp[Hp.del]at e
   rw[A4 _ hz]at e;rw[Al _ _ hz];show e
  have hbn:∀z,(hpc.set dx (.atr (upd ma (S "b2j") (.ref d)))) z=none->z≠dx/\z≠aa.locals:=λz hz=>⟨λe=>(by rw[e,Ad]at hz;cases hz),λe=>(by rw[e,Al _ _ (Ah hdE),hcl]at hz;cases hz)⟩;generalize hpc.set dx (.atr (upd ma (S "b2j") (.ref d)))=hb1 at *;show IV (Ic x d bv hb1 L bs) (Pn G hh hl1 hbd hdL az (by lk) (by lk) (by lk) λ_ _ x=>⟨rfl,x⟩) ?_;rintro m1 hp1 ⟨f1,f2,f3,⟨kvs,R⟩,f4⟩;have I2:=I1.le f3;show Ae (CK (Jm (Az G (J6 W0) J5 ∅ (λ_=>BK) ⟨rfl,λj hj' hjL=>Cb G f1 (I2.le ((Hp.Le.refl _).set hj' _)) (Ap ?_)⟩)));generalize hA2:(hp1.set j (.set (λ_=>false) 0)).set dx (.atr (upd (upd ma (S "b2j") (.ref d)) (S "bjunk") (.ref j)))=hpA;show a7 (JJ I2 hj' hA2) λI3 hjA _ kA=>?_;show Ae (AS (Cv G (by lk) I3 (by lk) ?_));show Ae ?_;show AB ?_;show BJ ?_;show Aa (by lk) ?_;show MO ?_;show if_f ?_;show Ao ?_;show Ae (CK (Jm (Az G (J6 W0) J5 ∅ (λ_=>BK) ⟨rfl,λp ah hpL=>Cb G (by lk) (I3.le ((Hp.Le.refl _).set ah _)) (Ap ?_)⟩)));generalize hB2:(hpA.set p (.set (λ_=>false) 0)).set dx (.atr (upd (upd (upd ma (S "b2j") (.ref d)) (S "bjunk") (.ref j)) (S "bpopular") (.ref p)))=hp4;show a7 (JJ I3 ah hB2) λI4 hp4p hpdx kB=>?_;have hkeep:∀z o,z≠dx->hp1 z=some o->hp4 z=some o:=λz o hz e=>kB _ _ hz (kA _ _ hz e);show Ae (AS (AU (Az G (B8 W0) B7 ∅ (λ_=>AT) ⟨rfl,Ac (Aa (v:=bv) (by lk) (Af (Pm ((hl1.le f3).keep λz ys e=>hkeep _ _ (λh=>by rw[h,I2.at_]at e;cases e) e) az ?_)))⟩)));have fin:∀m5 hp5,Hp.Le hp4 hp5->EXs Md (A.deeper (callEnv DV L 188)) (λ_ _=>False) B (callEnv DV L 188) [] m5 hp5 (RET L aa m Q):=λm5 hp5 l5=>by
   have hkeep5:=λz o hz e=>l5 _ _ (hkeep z o hz e);show Ao (Dr (hkeep5 _ _ (Ah hdE) (f3 _ _ (hle0 _ _ (by rw[A4 _ (Ah hdE)];show hcl)))) ?_);have hjE:j≠aa.locals:=λe=>by have:=f3 _ _ (hle0 _ _ (by rw[A4 _ (Ah hdE)];show hcl:(hpc.del dx) aa.locals=some (.ns m)));rw[<-e,hj']at this;cases this
   have hdE2:=(hbn d hbd).2;show h _ d j p ⟨?_,?_,I.xL,I.dL⟩ ⟨kvs,?_,hdE2,R.no,λk v hk=>?_⟩ ?_ hjE (λz o hz hzE e=>?_) (by simp[Hp.cut])
   .rw [AN I.xL I4.xL];show l5 _ _ I4.ob
   .rw [AN I.dL I4.dL];show l5 _ _ I4.at_
   .rw [AN hdE2 R.dL];show hkeep5 _ _ hddx R.di
   .refine a9 (R.yes k v hk) λa zz1 ha haL hba=>?_;rw[zz1];have haE:=hbn a hba;show aW a rfl (by rw[AN haE.2 haL];show hkeep5 _ _ haE.1 ha) haE.2 (R.ne k _ hk)
   .rw[AN hjE hjL];show l5 _ _ (kB _ _ (Ah (Ag I2.at_ hj')) hjA)
   .have hc:=hback z o hzE e;rw[AN hzE (Ag hc hLc)];show hkeep5 _ _ hz (f3 _ _ (hle0 _ _ (by rw[A4 _ hz];show hc)))
  show Ae (Po (kvs:=kvs) (bs:=bs) (aj:=aj) G hh hn I4 (by lk) (by lk) (by lk) (by lk) (by lk) hp4p hpL (hkeep _ _ hddx R.di) R.dL az (λk v hk=>?_) fin);show a9 (R.yes k v hk) λa e ha haL _=>?_;show aO a e (hkeep _ _ (λe'=>by rw[e',I2.at_]at ha;cases ha) ha) haL
theorem MT.xL{x:Addr}{a b:AV}(M:MT hp L x dx a b bs aj mb op):x≠L/\dx≠L/\x≠dx:=by x_go;show bE M.ex λma d j I _=>?_;z_go;show aP I.xL I.dL I.xd
theorem MT.move{x:Addr}{a b:AV}(M:MT hp L x dx a b bs aj mb op)(h:∀z o,hp z=some o->(∀m,o≠.ns m)->z≠L->ah z=some o/\z≠L'):MT ah L' x dx a b bs aj mb op:=by x_go;show bz M.ex λma d j I F R hj hjL=>?_;apply Z;have x1:=h _ _ I.ob (by simp) I.xL;have x2:=h _ _ I.at_ (by simp) I.dL;have x3:=h _ _ hj (by simp) hjL;show⟨ma,d,j,⟨x1.1,x2.1,x1.2,x2.2⟩,F,R.move h,x3.1,x3.2⟩
theorem MT.le{x:Addr}{a b:AV}(M:MT hp L x dx a b bs aj mb op)(le:Hp.Le hp ah):MT ah L x dx a b bs aj mb op:=M.move λ_ _ e _ e3=>⟨le _ _ e,e3⟩
theorem MT.call{x:Addr}{a b:AV}(M:MT hp L x dx a b bs aj mb op)(h:hp L'=none):MT (hp.set L (.ns m)) L' x dx a b bs aj mb op:=M.move λ_ _ e _ e3=>⟨Ab e3 e,Ag e h⟩
theorem MT.keep{x:Addr}{a b:AV}(M:MT hp L x dx a b bs aj mb op):∃ma,Ins hp L x dx 242 ma/\ma (S "matching_blocks")=some mb/\ma (S "opcodes")=some op/\(∀y,y∉Fi->ma (S y)=none)/\ma (S "a")=some a/\ma (S "b")=some b /\
  (∀mb',MT (hp.set dx (.atr (upd ma (S "matching_blocks") mb'))) L x dx a b bs aj mb' op)/\∀op',MT (hp.set dx (.atr (upd ma (S "opcodes") op'))) L x dx a b bs aj mb op':=by
 x_go;show bz M.ex λma d j I F R hj hjL=>?_;apply Z;have hj':∀o,(hp.set dx o) j=some (.set (λ_=>false) 0):=λo=>Ab (λe=>by rw[e,I.at_]at hj;cases hj) hj;show⟨ma,I,F.mb,F.op,F.no,F.a,F.b,λmb'=>⟨_,d,j,I.put,⟨?_,?_,?_,?_,?_,?_,?_,?_,λy hy=>?_⟩,R.put I.at_,hj' _,hjL⟩,λop'=>⟨_,d,j,I.put,⟨?_,?_,?_,?_,?_,?_,?_,?_,λy hy=>?_⟩,R.put I.at_,hj' _,hjL⟩⟩
 .exact F.a
 .exact F.b
 .exact F.b2j
 .exact F.bj
 .rfl
 .exact F.op
 .exact F.ij
 .exact F.aj
 .rw [ug,if_neg (λe=>hy (by rw[e];decide))];show F.no y hy
 .exact F.a
 .exact F.b
 .exact F.b2j
 .exact F.bj
 .exact F.mb
 .rfl
 .exact F.ij
 .exact F.aj
 .rw [ug,if_neg (λe=>hy (by rw[e];decide))];show F.no y hy
theorem Pq {x:Addr}(G:Gnd (KW W0) B)(aB:A.depth<recursionLimit)(I:Ins hp aa.locals x dx 242 ma)(ha:ma (S "a")=some .none)(hn:nv.isNone=false)
  (h:Q .none (hp.set dx (.atr (upd (upd (upd ma (S "a") nv) (S "matching_blocks") .none) (S "opcodes") .none)))):↥CL (.ref 174) m [.ref x,nv] hp Q:=by
 show CW (CM (bs:=[(S "a",nv),(S "self",.ref x)]) (body:=AE (mS 3)) G (OS W0) ∅ rfl aB (λs vs hv _=>?_) ∅ ∅ (λL hL hLe=>?_))
 .refine aN (C3 hv) λv u zz1 h1 h2=>?_;subst zz1;show aO ([(S "self",v),(S "a",u)]) (Dh rfl) rfl (.mk h2 (.mk h1 .nil))
 .have I':Ins hp[m]! L x dx 242 ma:=I.call hL;have g0:locOf [(S "a",nv),(S "self",AV.ref x)] (S "self")=some (.ref x):=rfl;have g1:locOf [(S "a",nv),(S "self",AV.ref x)] (S "a")=some nv:=rfl;show Ae (CY ?_);show Ae (AB (Av (Aa g1 (Cv G g0 I' ha (Gd (Ar ?_))))));show Bl hn ?_;show Ao (Ae ?_);show E3 (Aa g1 (Cb G g0 I' ?_));show Ae (CK (Do (Cb G g0 (I'.put (ma':=upd ma (S "a") nv)) ?_)));rw[Ch];show Cb G g0 (I'.put (ma':=upd (upd ma (S "a") nv) (S "matching_blocks") .none)) ?_;rw[Ch];show Ao ?_;show MV hL I.dL I'.dL h
theorem Pr {x:Addr}(G:Gnd (KW W0) B)(hh:A.handled=none)(aB:A.depth+1<recursionLimit)(I:Ins hp aa.locals x dx 242 ma)(hb:ma (S "b")=some .none)(hni:nv.isNone=false)(hl:Src B hp aa.locals nv bs)
  (hj:ma (S "isjunk")=some .none)(ha:ma (S "autojunk")=some (.bool aj))(hc:ma (S "_SequenceMatcher__chain_b")=none)(hn:Few bs aj)(az:bs.length<=4000)
  (h:∀ah d j p,Ins ah aa.locals x dx 242 (upd (upd (upd (upd (upd (upd (upd ma (S "b") nv) (S "matching_blocks") .none) (S "opcodes") .none) (S "fullbcount") .none) (S "b2j") (.ref d)) (S "bjunk") (.ref j)) (S "bpopular") (.ref p))->JD ah aa.locals d (PJ bs aj)->ah j=some (.set (λ_=>false) 0)->j≠aa.locals->(∀z o,z≠dx->z≠aa.locals->hp z=some o->ah z=some o)->ah aa.locals=none->Q .none ah) :
  ↥CL (.ref 181) m [.ref x,nv] hp Q:=by
 show CW (CM (bs:=[(S "b",nv),(S "self",.ref x)]) (body:=AE (mS 4)) G (OT W0) ∅ rfl (DP ()) (λs vs hv _=>?_) ∅ ∅ (λL hL hLe=>?_))
 .refine aN (C3 hv) λv u zz1 h1 h2=>?_;subst zz1;show aO ([(S "self",v),(S "b",u)]) (Dh rfl) rfl (.mk h2 (.mk h1 .nil))
 .have I':Ins hp[m]! L x dx 242 ma:=I.call hL;have hdl:∀ys,hp[m]! dx≠some (.list ys):=λys e=>by rw[I'.at_]at e;cases e
  have g0:locOf [(S "b",nv),(S "self",AV.ref x)] (S "self")=some (.ref x):=rfl;have g1:locOf [(S "b",nv),(S "self",AV.ref x)] (S "b")=some nv:=rfl;generalize hm0:locOf [(S "b",nv),(S "self",AV.ref x)]=m0 at *;show Ae (CY ?_);show Ae (AB (Av (Aa g1 (Cv G g0 I' hb (Gd (Ar ?_))))));show Bl hni ?_;show Ao (Ae ?_);show E3 (Aa g1 (Cb G g0 I' ?_));show Ae (CK (Do (Cb G g0 (I'.put (ma':=upd ma (S "b") nv)) ?_)));rw[Ch];show Cb G g0 (I'.put (ma':=upd (upd ma (S "b") nv) (S "matching_blocks") .none)) ?_;rw[Ch];show Ae (E3 (Do (Cb G g0 (I'.put (ma':=upd (upd (upd ma (S "b") nv) (S "matching_blocks") .none) (S "opcodes") .none)) ?_)));rw[Ch];have I4:=I'.put (ma':=upd (upd (upd (upd ma (S "b") nv) (S "matching_blocks") .none) (S "opcodes") .none) (S "fullbcount") .none);show Ae (AJ (HB G (clsS W0) (f:=188) ∅ ∅ ∅ (Aa g0 (bh x dx _ rfl I4 (?_) (?_)))))
  ·lk
  show Pp (A:=A.deeper (callEnv IG L 181)) G hh (by change A.depth+1<_;omega) I4 (by lk) ((hl.call hL).put hdl) (by lk) (by lk) hn az λah d j p i1 i2 i3 i4 i5 i6=>?_;show⟨by simp,by simp,by simp,?_⟩;change j≠L at i4;have keepz:=λz o hz hzL e=>i5 z o hz hzL (Ab hz e);have hle:=keepz _ _ (Ah I.dL) (Ah hLe) (Ad ..);have hjE:j≠aa.locals:=λe=>by rw[e,hle]at i3;cases i3
  show Ao (Dr hle (h _ d j p ⟨?_,?_,I.xL,I.dL⟩ (i2.move (λz o e hns hz=>?_)) ?_ hjE (λz o hz hzE e=>?_) (by simp[Hp.cut])))
  .rw [AN I.xL (i1.xL:x≠L)];show i1.ob
  .rw [AN I.dL (i1.dL:dx≠L)];show i1.at_
  .have hzE:z≠aa.locals:=λh=>by rw[h,hle]at e;cases e;show hns _ rfl
   show⟨by rw[AN hzE (hz:z≠L)];show e,hzE⟩
  .rw [AN hjE i4];show i3
  .have hzL:=Ag e hL;rw[AN hzE hzL];show keepz z o hz hzL (Ab hzE e)
theorem Ps {x:Addr}(G:Gnd (KW W0) B)(hh:A.handled=none)(aB:A.depth+2<recursionLimit)(I:Ins hp aa.locals x dx 242 ma)(ha:ma (S "a")=some .none)(hb:ma (S "b")=some .none)(na:av.isNone=false)(nb:bv.isNone=false)(hl:Src B hp aa.locals bv bs)
  (hj:ma (S "isjunk")=some .none)(hau:ma (S "autojunk")=some (.bool aj))(hno:∀y,y∉Fi->ma (S y)=none)(hn:Few bs aj)(az:bs.length<=4000)
  (h:∀ah,MT ah aa.locals x dx av bv bs aj .none .none->(∀z o,z≠dx->z≠aa.locals->hp z=some o->ah z=some o)->ah aa.locals=none->Q .none ah) :
  ↥CL (.ref 167) m [.ref x,av,bv] hp Q:=by
 show CW (CM (bs:=[(S "b",bv),(S "a",av),(S "self",.ref x)]) (body:=AE (mS 2)) G (OQ W0) ∅ rfl (ul0 ()) (λs vs hv _=>?_) ∅ ∅ (λL hL hLe=>?_))
 .refine bH (JG hv) λv u z zz1 h1 h2 h3=>?_;clear hv;subst zz1;show aO ([(S "self",v),(S "a",u),(S "b",z)]) (Dh rfl) rfl (.mk h3 (.mk h2 (.mk h1 .nil)))
 .have I':Ins hp[m]! L x dx 242 ma:=I.call hL;have hdl:∀ys,hp[m]! dx≠some (.list ys):=λys e=>by rw[I'.at_]at e;cases e
  have g0:locOf [(S "b",bv),(S "a",av),(S "self",AV.ref x)] (S "self")=some (.ref x):=rfl;have g1:locOf [(S "b",bv),(S "a",av),(S "self",AV.ref x)] (S "b")=some bv:=rfl;have g2:locOf [(S "b",bv),(S "a",av),(S "self",AV.ref x)] (S "a")=some av:=rfl;have hc2:ma (S "set_seq2")=none:=hno _ ∅;have hc3:ma (S "_SequenceMatcher__chain_b")=none:=hno _ ∅;show Ae (CY ?_);show Ae (AJ (Gi G (clsS W0) (f:=174) ∅ ∅ ∅ (Aa g0 (bh x dx _ rfl I' (hno _ ∅) (Ac (Aa g2 (Af ?_)))))));show Pq (A:=A.deeper (callEnv Hx L 167)) G (by change A.depth+1<_;(show DP ())) I' ha na ?_;show⟨by simp,by simp,by simp,?_⟩;have I1:=I'.put (ma':=upd (upd (upd ma (S "a") av) (S "matching_blocks") .none) (S "opcodes") .none);show Ae (AJ (Gi G (clsS W0) (f:=181) ∅ ∅ ∅ (Aa g0 (bh x dx _ rfl I1 (?_) (Ac (Aa g1 (Af ?_)))))))
  ·lk
  show Pr (A:=A.deeper (callEnv Hx L 167)) G hh (by change A.depth+1+1<_;omega) I1 (by lk) nb ((hl.call hL).put hdl) (by lk) (by lk) (by lk) hn az λah d j p i1 i2 i3 i4 i5 i6=>?_;show⟨by simp,by simp,by simp,?_⟩;have keepz:=λz o hz hzL e=>i5 z o hz hzL (Ab hz e);have hle:=keepz _ _ (Ah I.dL) (Ah hLe) (Ad ..);have hjE:j≠aa.locals:=λe=>by rw[e,hle]at i3;cases i3
  show Ao (Dr hle (h _ ⟨_,d,j,(Ins.mk (hp:=ah.cut aa.locals L) (L:=aa.locals) (by rw[AN I.xL (i1.xL:x≠L)];show i1.ob) (by rw[AN I.dL (i1.dL:dx≠L)];show i1.at_) I.xL I.dL),⟨by lk,by lk,by lk,by lk,by lk,by lk,by lk,by lk,λy hy=>?_⟩,i2.move (λz o e hns hz=>⟨by rw[AN (λh=>by rw[h,hle]at e;cases e;show hns _ rfl) (hz:z≠L)];show e,λh=>by rw[h,hle]at e;cases e;show hns _ rfl⟩),?_,hjE⟩ (λz o hz hzE e=>?_) (by simp[Hp.cut])))
  .have hy':=hy;simp only[Fi,Bg,CQ,or_false,not_or]at hy';show ck hy' λh1 h2 h3 h4 h5 h6 h7 h8 h9 h10=>?_;simp only[ug,h1,h2,h3,h4,h5,h6,h7,h8,h9,h10,if_false];show hno y hy
  .rw [AN hjE i4];show i3
  .have hzL:=Ag e hL;rw[AN hzE hzL];show keepz z o hz hzL (Ab hzE e)
theorem Pt (G:Gnd (KW W0) B)(hh:A.handled=none)(aB:A.depth+5<recursionLimit)(hav:av.isNone=false)(hl:Src B hp aa.locals bv bs)(hn:Few bs aj)(az:bs.length<=4000)
  (h:∀ah x dx,hp x=none->hp dx=none->MT ah aa.locals x dx av bv bs aj .none .none->(∀z o,z≠aa.locals->hp z=some o->ah z=some o)->ah aa.locals=none->Q (.ref x) ah)
  (hb:∀(x:Addr) (s:Shared) vs,VRs s.heap (.ref x::avs) vs->(KW W0).In s.heap->∃us,BindsTo s Hw ⟨vs,[]⟩ us/\us.reverse.map (·.1)=[S "autojunk",S "b",S "a",S "isjunk",S "self"]/\VRs s.heap [.bool aj,bv,av,.none,.ref x] (us.reverse.map (·.2))) :
  ↥CL (.ref 242) m avs hp Q:=by
 show MN G (OW W0) (fI:=160) ∅ ∅ λx dx vs' hx hdx hxd hxL hdL=>?_;show CM (bs:=[(S "autojunk",.bool aj),(S "b",bv),(S "a",av),(S "isjunk",.none),(S "self",.ref x)]) (body:=AE (mS 1)) G (OP W0) ∅ rfl (by change A.depth+1<_;(show ul () ∅)) (λs vs hv hk=>?_) ∅ ∅ (λL hL hLe=>?_)
 .exact hb x s vs hv (G.X.keeps hk)
 .have hle:Hp.Le hp ((hp.set dx (.atr λ_=>none)).set x (.obj (instObj 242 dx))):=((Hp.Le.refl hp).set hdx _).set hx _;have I:Ins ((hp.set dx (.atr λ_=>none)).set x (.obj (instObj 242 dx))) aa.locals x dx 242 (λ_=>none):=⟨Ad ..,Ab (Ah hxd) (Ad ..),hxL,hdL⟩;have hbv:bv.isNone=false:=by clear hb h;cases hl <;> rfl
  have hpne:∀z o,hp z=some o->z≠dx:=λz o e h=>by rw[h,hdx]at e;cases e
  generalize hq:(hp.set dx (.atr λ_=>none)).set x (.obj (instObj 242 dx))=hp1 at *;have I':Ins hp1[m]! L x dx 242 (λ_=>none):=I.call hL;have hdl:∀ys,hp1[m]! dx≠some (.list ys):=λys e=>by rw[I'.at_]at e;cases e
  have g0:locOf [(S "autojunk",AV.bool aj),(S "b",bv),(S "a",av),(S "isjunk",AV.none),(S "self",AV.ref x)] (S "self")=some (.ref x):=rfl;have g1:locOf [(S "autojunk",AV.bool aj),(S "b",bv),(S "a",av),(S "isjunk",AV.none),(S "self",AV.ref x)] (S "b")=some bv:=rfl;have g2:locOf [(S "autojunk",AV.bool aj),(S "b",bv),(S "a",av),(S "isjunk",AV.none),(S "self",AV.ref x)] (S "a")=some av:=rfl;have g3:locOf [(S "autojunk",AV.bool aj),(S "b",bv),(S "a",av),(S "isjunk",AV.none),(S "self",AV.ref x)] (S "isjunk")=some .none:=rfl;have g4:locOf [(S "autojunk",AV.bool aj),(S "b",bv),(S "a",av),(S "isjunk",AV.none),(S "self",AV.ref x)] (S "autojunk")=some (.bool aj):=rfl;show Ae (CY ?_);show Ae (E3 (Aa g3 (Cb G g0 I' ?_)));show Ae (CK (Do (Cb G g0 (I'.put (ma':=upd (λ_=>none) (S "isjunk") .none)) ?_)));rw[Ch];show Cb G g0 (I'.put (ma':=upd (upd (λ_=>none) (S "isjunk") .none) (S "a") .none)) ?_;rw[Ch];show Ae (E3 (Aa g4 (Cb G g0 (I'.put (ma':=upd (upd (upd (λ_=>none) (S "isjunk") .none) (S "a") .none) (S "b") .none)) ?_)));rw[Ch];have I4:=I'.put (ma':=upd (upd (upd (upd (λ_=>none) (S "isjunk") .none) (S "a") .none) (S "b") .none) (S "autojunk") (.bool aj));show Ae (AJ (Gi G (clsS W0) (f:=167) ∅ ∅ ∅ (Aa g0 (bh x dx _ rfl I4 (?_) (Ac (Aa g2 (Ac (Aa g1 (Af ?_)))))))))
  ·lk
  show Ps (A:=(A.under (.builtin "type.__call__" ⟨.ref 242::vs',[]⟩)).deeper (callEnv Hw L 160)) G hh (by change A.depth+1+1+2<_;(show DP ())) I4 (by lk) (by lk) hav hbv (((hl.le hle).call hL).put hdl) (by lk) (by lk) (λy hy=>?_) hn az λah MM i6 i7=>?_
  .x_go;have hy':=hy;simp only[Fi,Bg,CQ,or_false,not_or]at hy';show bf hy' λh1 h2 h3 h4 _=>?_;apply Z;simp only[ug,h1,h2,h3,h4,if_false]
  show⟨by simp,by simp,by simp,?_⟩;have keepz:=λz o hz hzL e=>i6 z o hz hzL (Ab hz e);have hlE:=keepz _ _ (Ah I.dL) (Ah hLe) (Ad ..);show Ao (Dr hlE ⟨rfl,h _ x dx hx hdx (MM.move λz o e hns hz=>?_) (λz o hzE e=>?_) (by simp[Hp.cut])⟩)
  .have hzE:z≠aa.locals:=λh=>by rw[h,hlE]at e;cases e;show hns _ rfl
   show⟨by rw[AN hzE (hz:z≠L)];show e,hzE⟩
  .have e1:=hle _ _ e;have hzL:=Ag e1 hL;rw[AN hzE hzL];show keepz z o (hpne z o e) hzL (Ab hzE e1)
theorem Pu (G:Gnd (KW W0) B)(hh:A.handled=none)(aB:A.depth+5<recursionLimit)(hav:av.isNone=false)(hl:Src B hp aa.locals bv bs)(hn:Few bs true)(az:bs.length<=4000)
  (h:∀ah x dx,hp x=none->hp dx=none->MT ah aa.locals x dx av bv bs true .none .none->(∀z o,z≠aa.locals->hp z=some o->ah z=some o)->ah aa.locals=none->Q (.ref x) ah) :
  ↥CL (.ref 242) m [.none,av,bv] hp Q:=by
 show Pt G hh aB hav hl hn az h λx s vs hv hk=>?_;show bW (JH hv) λv u z y zz1 h1 h2 h3 h4=>?_;subst zz1;show aO ([(S "self",v),(S "isjunk",u),(S "a",z),(S "b",y),(S "autojunk",.bool true)]) (binds_K hk rfl (by rfl) rfl rfl rfl) rfl (.mk VR_bool (.mk h4 (.mk h3 (.mk h2 (.mk h1 .nil)))))
theorem inner_s {i:Int}{f:Int->Int}{j:Nat}{js:List Nat}{st:FSt}:C0 i aH aJ f (j::js) st=if (j:Int)<aH then C0 i aH aJ f js st else if (j:Int)>=aJ then st else C0 i aH aJ f js (innS i f st j):=rfl
theorem Pv {i:Int}{f:Int->Int}{st:FSt}:C0 i aH aJ f [] st=st:=rfl
theorem dget_dput (kvs:List (Int×AV))(k:Int)(v:AV)(k':Int):dget (dput kvs k v) k'=if k'=k then some v else dget kvs k':=by
 unfold dput;by_cases h:(kvs.any λkv=>decide (kv.1=k))=true
 .rw [if_pos h];unfold dget
  induction kvs with
  | nil=>simp at h
  | cons p kvs ih=>
   obtain⟨q,u⟩:=p;simp only[A1];by_cases hq:q=k
   .clear h;subst hq;by_cases hk:k'=q
    .clear ih;subst hk;simp
    .simp only[if_true,F9,hk,if_false];rw[(by simpa using Ah hk:decide (q=k')=false)];dsimp only;by_cases h':(kvs.any λkv=>decide (kv.1=q))=true
     .rw [ih h',if_neg hk]
     .have:kvs.map (λkv=>if kv.1=q then(kv.1,v) else kv)=kvs:=by rw[Fc (g:=λx=>x)];simp;intro a ha;have:a.1≠q:=λe=>h' (List.any_eq_true.mpr (aM a ha (by simpa using e)));show if_neg this
      rw[this]
   .simp only[hq,if_false,F9];by_cases hk:q=k'
    .clear ih;subst hk;simp[hq]
    .rw [(by simpa using hk:decide (q=k')=false)];show ih ?_
     simpa [hq] using h
 .rw [if_neg h];show Fu kvs k v k' ?_;unfold dget;rw[GW.mpr];rfl;intro x hx hx';show h (List.any_eq_true.mpr (aM x hx hx'))
theorem JK (kvs:List (Int×AV))(k:Int)(v:AV):(dput kvs k v).length<=kvs.length+1:=by unfold dput;split <;> simp
theorem DI.put{f:Int->Int}(h:DI kvs f)(k v:Int):DI (dput kvs k (.int v)) (λx=>if x=k then v else f x):=λx=>by
 rw[dget_dput];by_cases e:x=k
 .simp [e]
 .simp only[e,if_false];show h x
theorem Pw {gb dj dn:Addr}{f g:Int->Int}{i:Int}{b:Best}(G:Gnd (KW W0) B)(hh:A.handled=none)
  (h1:m (S "i")=some (.int i))(h2:m (S "blo")=some (.int aH))(h3:m (S "bhi")=some (.int aJ))(h4:m (S "j2lenget")=some (.ref gb))(h5:m (S "newj2len")=some (.ref dn))(hb:BV m b)(hj:m (S "j")=some (.int j))
  (g1:hp gb=some (.obj (AY "dict.get" dj)))(g1L:gb≠L)(g2:hp dj=some (.dict kj))(g2L:dj≠L)(g3:DI kj f)(g4:hp dn=some (.dict kn))(g4L:dn≠L)(g5:DI kn g)(az:kn.length<=4900){KK:QX}
  (k1:j<aH->KK .cont m hp)(k2:¬j<aH->j>=aJ->KK .brk m hp)(k3:∀m' kn',(∀y,y ≠ "k" -> y ≠ "besti" -> y ≠ "bestj" -> y ≠ "bestsize" -> m' (S y)=m (S y))->¬j<aH->¬j>=aJ->BV m' (innS i f (g,b) j).2->kn'.length<=kn.length+1->DI kn' (innS i f (g,b) j).1->KK .next m' (hp.set dn (.dict kn'))) :
  EXs Md A (λ_ _=>False) B (callEnv Cr L 196) (kids flmI) m hp KK:=by
 x_go;show aZ hb λb1 b2 b3=>?_;apply Z;show Ae ?_;show AB ?_;show Av ?_;show Aa (by lk) ?_;show Aa (by lk) ?_;show B5 ?_;show Ar ?_;by_cases c1:j<aH
 .refine AP c1 ?_;show Ae ?_;show M9 ?_;show k1 c1
 show AL c1 ?_;show Ao (Ae ?_);show AB ?_;show Av ?_;show Aa (by lk) ?_;show Aa (by lk) ?_;show IK ?_;show Ar ?_;by_cases c2:j>=aJ
 .refine AP (c2:aJ<=j) ?_;show Ae ?_;show M8 ?_;show k2 c1 c2
 show AL (c2:¬aJ<=j) ?_;show Ao (Ae (CK (At (Fm (id := "dict.get") (Aa h4 (aT gb dj rfl g1L (?_)))))));show Ac ?_;show At ?_;show Aa (by lk) ?_;show Ak ?_;show BP ?_;show Ac ?_;show Ak ?_;show Af ?_;show⟨g1,N0 G g1 g1L g2 g2L ?_⟩;rw[g3 (j-1)];show Ak ?_;show A6 ?_;show Ap (Nq ?_);show Aa (by lk) ?_;show Aa (by lk) ?_;show bx dn kn j rfl rfl g4 g4L (Aj () ∅) (?_);show Ae ?_;show AB ?_;show Av ?_;show Aa (by lk) ?_;show Aa (by lk) ?_;show Dp ?_;show Ar ?_;have hD:=g5.put j (f (j-1)+1);by_cases c3:b.2.2<f (j-1)+1
 .refine AP c3 ?_;show Ae (Dq hh (names:=[S "besti",S "bestj",S "bestsize"]) ?_);show A9 ?_;show Ac ?_;show At ?_;show At ?_;show Aa (by lk) ?_;show Aa (by lk) ?_;show BP ?_;show Ak ?_;show A6 ?_;show Ac ?_;show At ?_;show At ?_;show Aa (by lk) ?_;show Aa (by lk) ?_;show BP ?_;show Ak ?_;show A6 ?_;show Ac ?_;show Aa (by lk) ?_;show Af ?_;show⟨sz rfl,?_⟩;show(aO _ rfl rfl (Bu (Bu (Bu (Bd ?_)))));show Ao ?_;show Ao ?_;show k3 _ _ (λy a1 a2 a3 a4=>by simp only[ug,a1,a2,a3,a4,if_false]) c1 c2 ?_ (JK ..) hD;have c3':=c3;simp only[innS,c3',if_true];show⟨?_,?_,?_⟩ <;> lk
 .refine AL c3 ?_;show Ao (Ao (k3 _ _ (λy a1 a2 a3 a4=>by simp only[ug,a1,if_false]) c1 c2 ?_ (JK ..) hD));have c3':=c3;simp only[innS,c3',if_false];show⟨?_,?_,?_⟩ <;> lk
theorem Px {gb dj dn nt:Addr}{f g:Int->Int}{i x:Int}{b:Best}(G:Gnd (KW W0) B)(hh:A.handled=none)
  (h1:m (S "i")=some (.int i))(h2:m (S "blo")=some (.int aH))(h3:m (S "bhi")=some (.int aJ))(h4:m (S "j2lenget")=some (.ref gb))(h5:m (S "newj2len")=some (.ref dn))(hb:BV m b)(h6:m (S "b2j")=some (.ref d))(h7:m (S "a")=some (.ref aA))(h8:m (S "nothing")=some (.ref nt))
  (g1:hp gb=some (.obj (AY "dict.get" dj)))(g1L:gb≠L)(g2:hp dj=some (.dict kj))(g2L:dj≠L)(g3:DI kj f)(g4:hp dn=some (.dict kn))(g4L:dn≠L)(g5:DI kn g)(az:kn=[])(hdd:dn≠dj)
  (R:JD hp L d J)(hl:Lst B hp L aA (as.map .int))(hnt:hp nt=some (.list []))(hntL:nt≠L)(hi : 0<=i)(hx:as[i.toNat]?=some x)(hi2:i<2 ^ 62)(hJ:(J x).length<=4000){KK:QX}
  (hK:∀m' ah kn',(∀y,y∉Fj->m' (S y)=m (S y))->BV m' (C0 i aH aJ f (J x) (g,b)).2->kn'.length<=4000->ah dn=some (.dict kn')->DI kn' (C0 i aH aJ f (J x) (g,b)).1->(∀z o,z≠dn->hp z=some o->ah z=some o)->KK .next m' ah) :
  EX Md A (λ_ _=>False) B (callEnv Cr L 196) flmI m hp KK:=by
 show a9 R.ex λkvs r1 r2 r3 r4=>?_;have src:∃a,(dget kvs x).getD (.ref nt) = .ref a/\hp a=some (.list ((J x).map λ(i:Nat)=>AV.int (i:Int)))/\a≠L:=by
  cases e:dget kvs x with
  | none=>show aO nt rfl (by rw[r3 x e];show hnt) hntL
  | some v=>show aS (r4 x v e) λa zz1 ha haL=>?_;rw[zz1];show aO a rfl ha haL.1
 show aS src λlA e1 e2 e3=>?_;have hdl:dn≠lA:=λe=>by rw[e,e2]at g4;cases g4
 show DA hh (Jg F.slot_dict_get F.type_dict_get Hi (Aa h6 (aO d rfl (Jh r1 r2) (Ac (Aq (Aa h7 (Aa h1 (AH hl hi (F01 0x80000000000000000f57740000000000000000f5770 17 rfl hi2) (x:=.int x) ?_ (Ac (Aa h8 (Af (Nt G r1 r2 ?_))))))))))))
 .rw [AZ,hx];rfl
 show e1▸?_;show aT lA _ rfl (.own e2 e3) λit hit hitL=>?_;have hid:=Ah (Ag g4 hit);let Iq:Nat->Loc->Hp->Prop:=λk ao ae=>(∀y,y∉Fj->ao (S y)=m (S y))/\∃kn' g' b',BV ao b'/\kn'.length<=k/\ae dn=some (.dict kn')/\DI kn' g'/\(∀z o,z≠dn->hp z=some o->ae z=some o)/\C0 i aH aJ f ((J x).drop k) (g',b')=C0 i aH aJ f (J x) (g,b);show bD Iq (λob=>?_) (λk ao ae ob x=>?_) (λk ao ae x=>?_) (λk y ao ae ob hy x hob=>?_) λao ae x=>?_
 .exact ⟨λ_ _=>rfl,kn,g,b,hb,by rw[az];show A5 _,Ab (Ah hid) g4,g5,λz o hz e=>Ab (Ag e hit) e,rfl⟩
 .refine aU x λx0 zz1=>?_;show bo zz1 λkn' g' b' x1 x2 x3 x4 x5 x6=>?_;clear zz1;show⟨x0,kn',g',b',x1,x2,Ab (Ah hid) x3,x4,λz o hz e=>Ab (Ag e hit) (x5 z o hz e),x6⟩
 .refine aU x λx0 zz1=>?_;show bo zz1 λkn' g' b' x1 x2 x3 x4 x5 x6=>?_;clear zz1;show .own (x5 _ _ (Ah hdl) e2) e3
 .refine aU x λx0 zz1=>?_;clear x;show bo zz1 λkn' g' b' x1 x2 x3 x4 x5 x6=>?_;clear zz1;obtain⟨j,hjk,rfl⟩:∃j,(J x)[k]?=some j/\AV.int (j:Int)=y:=by rw[AZ]at hy;show C7.mp hy
  have hkl:=(BF.mp hjk).1;have hdrop:(J x).drop k=j::(J x).drop (k+1):=by rw[List.drop_eq_getElem_cons hkl];congr 1;rw[A3 hkl]at hjk;show Du hjk
  show Ap ?_;have hm':∀y,y∉Fj->upd ao (S "j") (.int j) (S y)=m (S y):=λy hy=>by have:y ≠ "j" := λe=>hy (by rw[e];decide);rw[ug,if_neg this];show x0 y hy
  have hbl:BV (upd ao (S "j") (.int j)) b':=by show aZ x1 λq1 q2 q3=>?_;show⟨by lk,by lk,by lk⟩
  rw[hdrop]at x6;show E4 λKB hKB=>?_;show Pw (A:=A) G hh (by rw[hm' _ ∅];show h1) (by rw[hm' _ ∅];show h2) (by rw[hm' _ ∅];show h3) (by rw[hm' _ ∅];show h4) (by rw[hm' _ ∅];show h5) hbl (by lk)
   (x5 _ _ (λe=>by rw[e,g4]at g1;cases g1) g1) g1L (x5 _ _ (Ah hdd) g2) g2L g3 x3 g4L x4 (F30 0x13240358579409850fa0025750 4369 rfl hJ x2 hkl) (λc1=>?_) (λc1 c2=>?_) (λm4 kn2 y0 c1 c2 c3 c4 c5=>?_)
  .refine hKB _ _ _ ⟨⟨hm',kn',g',b',hbl,F20 0x680758750 17 rfl x2,x3,x4,x5,?_⟩,hob⟩;rw[<-x6,inner_s,if_pos c1]
  .refine hKB _ _ _ (hK _ _ kn' hm' ?_ (F30 0xfa00258579409850fa0025750 4369 rfl hJ x2 hkl) x3 ?_ x5)
   .rw [<-x6,inner_s,if_neg c1,if_pos c2];show hbl
   .rw [<-x6,inner_s,if_neg c1,if_pos c2];show x4
  .refine hKB _ _ _ ⟨⟨λy hy=>?_,kn2,_,_,c3,F30 0x680956709508750 273 rfl x2 c4,Ad ..,c5,λz o hz e=>Ab hz (x5 z o hz e),?_⟩,Ab hid hob⟩
   .rw[y0 y ( λe=>hy (by rw[e];decide):y ≠ "k" ) ( λe=>hy (by rw[e];decide)) ( λe=>hy (by rw[e];decide)) ( λe=>hy (by rw[e];decide))];show hm' y hy
   .rw [<-x6,inner_s,if_neg c1,if_neg c2]
 .refine aU x λx0 zz1=>?_;show bo zz1 λkn' g' b' x1 x2 x3 x4 x5 x6=>?_;clear zz1;rw[Ai,List.drop_length,Pv]at x6;rw[Ai]at x2;show hK _ _ kn' x0 (by rw[<-x6];show x1) (Aj () ()) (by rw[A4 _ (Ah hid)];show x3) (by rw[<-x6];show x4) (λz o hz e=>by rw[A4 _ (Ag e hit)];show x5 z o hz e)
theorem Py:outS as J aG aH aJ (n+1)=C0 (aG+n) aH aJ (outS as J aG aH aJ n).1 (J (as.getD (aG+n).toNat 0)) (λ_=>0,(outS as J aG aH aJ n).2):=rfl
theorem fo {y:String}(h:y∉Ex):y∉Fj:=λe=>h (by
 simp only[Fj,Bg,CQ,or_false]at e;simp only[Ex,Bg,CQ,or_false]
 rcases e with e | e | e | e | e <;> simp[e])
theorem Pz {nt d0:Addr}(G:Gnd (KW W0) B)(hh:A.handled=none)
  (h1:m (S "alo")=some (.int aG))(h1':m (S "ahi")=some (.int aI))(h2:m (S "blo")=some (.int aH))(h3:m (S "bhi")=some (.int aJ))(hb:BV m (aG,aH,0))(h6:m (S "b2j")=some (.ref d))(h7:m (S "a")=some (.ref aA))(h8:m (S "nothing")=some (.ref nt))(h9:m (S "j2len")=some (.ref d0))
  (g2:hp d0=some (.dict []))(g2L:d0≠L)(R:JD hp L d J)(hl:Lst B hp L aA (as.map .int))(hnt:hp nt=some (.list []))(hntL:nt≠L)(ha0 : 0<=aG)(ha1:aI<=as.length)(ha2:aG<2 ^ 62)(hal:as.length<=4000)(hal2 : -(2 ^ 62)<=aI)(hJ:∀x,(J x).length<=4000){KK:QX}
  (hK:∀m' ah,(∀y,y∉Ex->m' (S y)=m (S y))->BV m' (outS as J aG aH aJ (aI-aG).toNat).2->Hp.Le hp ah->KK .next m' ah) :
  EX Md A (λ_ _=>False) B (callEnv Cr L 196) (flmS 7) m hp KK:=by
 show H9 hh (CX (Az G (Db W0) Da ∅ (λ_=>BK) ⟨rfl,Ac (Aa h1 (Ac (Aa h1' (Af (IS λr ob hr hrL ro=>?_)))))⟩));show bY r ob aG aI rfl (Ad ..) hrL ro (F01 0x740000000000000000f5041870480 17 rfl ha0) ha2 hal2 (F11 0x40000000000000000f577fa002575073780 273 rfl ha1 hal) λit hit hitL=>?_;have hle1:Hp.Le hp (hp.set r (.obj ob)):=(Hp.Le.refl _).set hr _;have hit':=hle1.none hit;show aW (λn ao ae=>(∀y,y∉Ex->ao (S y)=m (S y))/\BV ao (outS as J aG aH aJ n).2/\Hp.Le hp ae/\∃dj kj,ao (S "j2len")=some (.ref dj)/\ae dj=some (.dict kj)/\dj≠L/\dj≠it/\DI kj (outS as J aG aH aJ n).1) (λob'=>?_) (λn ao ae ob' x=>?_) (λn ao ae ob' hn x hob=>?_) λao ae x=>?_
 .have hd0:=Ag (hle1 _ _ g2) hit;show⟨λ_ _=>rfl,hb,hle1.set hit' _,d0,[],h9,Ab hd0 (hle1 _ _ g2),g2L,hd0,λk=>rfl⟩
 .x_go;show a7 x λx0 x1 x2 zz1=>?_;show br zz1 λdj kj x3 x4 x5 x6 x7=>?_;clear zz1;apply Z;show⟨x0,x1,x2.set hit' _,dj,kj,x3,Ab x6 x4,x5,x6,x7⟩
 .refine a7 x λx0 x1 x2 zz1=>?_;show br zz1 λdj kj x3 x4 x5 x6 x7=>?_;clear zz1;show aZ x1 λb1 b2 b3=>?_;show Ap ?_;show E4 λKB hKB=>?_
  generalize hm1:upd ao _ _=m1;have q0:∀y,y∉Ex->m1 (S y)=m (S y):=λy hy=>by subst hm1;rw[ug,if_neg ( λe=>hy (by rw[e];decide):y ≠ "i" )];show x0 y hy
  have q1:m1 (S "i")=some (.int (aG+n)):=by rw[<-hm1];lk
  have q2:BV m1 (outS as J aG aH aJ n).2:=by rw[<-hm1];show⟨by lk,by lk,by lk⟩
  have q3:m1 (S "j2len")=some (.ref dj):=by rw[<-hm1];lk
  show Ae (AS (Nw Nl (λho hc h=>Nk ho hc h) (Aa q3 (aO dj rfl (Ji x4 x5) λgb hgb hgbL=>?_))));show Ae (AS (HE λdn hdn hdnL=>?_));have hle2:Hp.Le ae ((ae.set gb (.obj (AY "dict.get" dj))).set dn (.dict [])):=((Hp.Le.refl _).set hgb _).set (((Hp.Le.refl ae).set hgb _).none hdn) _;have hidn:=Ag (((Hp.Le.refl ae).set hgb (.obj (AY "dict.get" dj))) _ _ hob) hdn
  generalize hm2:upd (upd m1 _ _) _ _=m2;have p0:∀y,y∉Ex->m2 (S y)=m (S y):=λy hy=>by subst hm2;show updO hy (updO hy (q0 y hy))
  have p1:m2 (S "i")=some (.int (aG+n)):=by rw[<-hm2];lk
  have p2:BV m2 (outS as J aG aH aJ n).2:=by show aZ q2 λb1 b2 b3=>?_;rw[<-hm2];show⟨by lk,by lk,by lk⟩
  have p3:m2 (S "j2lenget")=some (.ref gb):=by rw[<-hm2];lk
  have p4:m2 (S "newj2len")=some (.ref dn):=by rw[<-hm2];lk
  have hng:aG+n<aI:=by(show F12 0x88370778407813a 16847120 rfl hn)
  have hidx:as[(aG+(n:Int)).toNat]?=some (as.getD (aG+n).toNat 0):=by
   simp[List.getD,A3 (by(show fk [_,_] [_,_] 0x8748937070838807048083703a 0x111101111010 rfl ha0 ha1 hng):(aG+(n:Int)).toNat<as.length)]
  have hle3:=x2.trans hle2;show Ae ?_;show Px (A:=A) (kn:=[]) (g:=λ_=>0) (x:=as.getD (aG+n).toNat 0) (as:=as) G hh p1 (by rw[p0 _ ∅];show h2) (by rw[p0 _ ∅];show h3) p3 p4 p2 (by rw[p0 _ ∅];show h6) (by rw[p0 _ ∅];show h7) (by rw[p0 _ ∅];show h8)
   (Ab (Ag (Ad ..) hdn) (Ad ..)) hgbL (hle2 _ _ x4) x5 x7 (Ad ..) hdnL (λk=>rfl) rfl (Ah (Ag (((Hp.Le.refl ae).set hgb (.obj (AY "dict.get" dj))) _ _ x4) hdn)) (R.le hle3) (hl.le hle3) (hle3 _ _ hnt) hntL (F11 0x737004870480 17 rfl ha0) hidx (fk [_,_] [_,_] 0x40000000000000000f5838077838070fa002575073780 4369 rfl ha1 hal hng) (hJ _) λm3 hp3 kn' y1 y2 y3 y4 y5 y6=>?_
  show aZ y2 λb1 b2 b3=>?_;have hnb:=x2.none (((Hp.Le.refl ae).set hgb (.obj (AY "dict.get" dj))).none hdn);have y7:m3 (S "newj2len")=some (.ref dn):=by rw[y1 _ ∅];show p4
  show Ae (AS (Aa y7 ?_));show Ao (hKB _ _ _ ⟨⟨λy hy=>?_,⟨by lk,by lk,by lk⟩,λz o hz=>?_,dn,kn',?_,y4,hdnL,Ah hidn,y5⟩,?_⟩)
  .rw[ug,if_neg ( λe=>hy (by rw[e];decide)),y1 y (fo hy)];show p0 y hy
  .have hzn:z≠dn:=λe=>by rw[e,hnb]at hz;cases hz
   show y6 z o hzn (hle3 _ _ hz)
  ·lk
  .exact y6 _ _ hidn (hle2 _ _ hob)
 .refine a7 x λx0 x1 x2 _=>?_;show hK _ _ x0 x1 (x2.del hit')
theorem getD_some {l:List Int}{i:Int}(h0 : 0<=i)(h1:i<l.length):(l.map AV.int)[i.toNat]?=some (.int (l.getD i.toNat 0)):=by
 simp[List.getD,A3 (by(show Bf () ()))]
theorem P0 {j:Addr}{b:Best}{KK:QX}(F:FL B hp L aA bA ib j as bs aG aI aH aJ m)(hb:BV m b)(N:NX as bs aG aI aH aJ b)(hK:KK .next m hp) :
  EX Md A (λ_ _=>False) B (callEnv Cr L 196) (flmS 8) m hp KK:=by
 obtain⟨h1,h2,h3,h4,h5,h6,h7,l1,l2,i1,i1L,i2,i2L,r1,r2,_⟩:=F;clear h4 h2;show aZ hb λb1 b2 b3=>?_;show Fn (λ_ ao ae=>ao=m/\ae=hp) 0 ⟨rfl,rfl⟩ ?_;clear b3;rintro n _ _ ⟨rfl,rfl⟩;show Eb λKT hKT=>?_;have out:=hKT _ _ (if_f hK);show BZ ?_;show AC ?_;show Av ?_;show Aa (by lk) ?_;show Aa (by lk) ?_;show Dp ?_;show Ar ?_;by_cases c1:aG<b.1
 .refine AP c1 ?_;show AC ?_;show Av ?_;show Aa (by lk) ?_;show Aa (by lk) ?_;show Dp ?_;show Ar ?_;by_cases c2:aH<b.2.1
  .refine AP c2 ?_;show aZ (N.dn c1 c2) λha hb' hne=>?_;show AC (E0 (BJ (Fm (id := "set.__contains__") (Aa h7 (aT ib j rfl i1L (?_))))));show Ac ?_;show Aq ?_;show Aa (by lk) ?_;show At ?_;show Aa (by lk) ?_;show Ak ?_;show BP ?_;show AH l2 (F02 0x681048877070480 273 rfl r2 c2) (by lia) (getD_some ⇑(F02 0x681048877070480 273 rfl r2 c2) (F11 0x73671773780 17 rfl hb')) ?_;show Af ?_;show⟨i1,Go i1 i1L i2 i2L ?_⟩;show Ar ?_;show Bx (rfl:(!false)=true) ?_;show AC ?_;show Av ?_;show Aq ?_;show Aa (by lk) ?_;show At ?_;show Aa (by lk) ?_;show Ak ?_;show BP ?_;show AH l1 (F02 0x681048877070480 273 rfl r1 c1) (F11 0x80000000000000000f5671773780fa0025750 273 rfl r5 ha) (getD_some (F02 0x681048877070480 273 rfl r1 c1) (F11 0x73671773780 17 rfl ha)) ?_;show Aq ?_;show Aa (by lk) ?_;show At ?_;show Aa (by lk) ?_;show Ak ?_;show BP ?_;show AH l2 ⇑(F02 0x681048877070480 273 rfl r2 c2) (by lia) (getD_some ⇑(F02 0x681048877070480 273 rfl r2 c2) (F11 0x73671773780 17 rfl hb')) ?_;show DY ?_;show Ar ?_;rw[hne];show if_f out
  .exact AL c2 out
 .exact AL c1 out
theorem P1 {j:Addr}{b:Best}{KK:QX}(F:FL B hp L aA bA ib j as bs aG aI aH aJ m)(hb:BV m b)(N:NX as bs aG aI aH aJ b)(hK:KK .next m hp) :
  EX Md A (λ_ _=>False) B (callEnv Cr L 196) (flmS 9) m hp KK:=by
 obtain⟨h1,h2,h3,h4,h5,h6,h7,l1,l2,i1,i1L,i2,i2L,_⟩:=F;clear h3 h1;show aZ hb λb1 b2 b3=>?_;have k0:=N.k0;have k1:=N.a0;have k2:=N.b0;show Fn (λ_ ao ae=>ao=m/\ae=hp) 0 ⟨rfl,rfl⟩ ?_;rintro n _ _ ⟨rfl,rfl⟩;show Eb λKT hKT=>?_;have out:=hKT _ _ (if_f hK);show BZ ?_;show AC ?_;show Av ?_;show At ?_;show Aa (by lk) ?_;show Aa (by lk) ?_;show A6 ?_;show Aa (by lk) ?_;show B5 ?_;show Ar ?_;by_cases c1:b.1+b.2.2<aI
 .refine AP c1 ?_;show AC ?_;show Av ?_;show At ?_;show Aa (by lk) ?_;show Aa (by lk) ?_;show A6 ?_;show Aa (by lk) ?_;show B5 ?_;show Ar ?_;by_cases c2:b.2.1+b.2.2<aJ
  .refine AP c2 ?_;show AC (E0 (BJ (Fm (id := "set.__contains__") (Aa h7 (aT ib j rfl i1L (?_))))));show Ac ?_;show Aq ?_;show Aa (by lk) ?_;show At ?_;show Aa (by lk) ?_;show Aa (by lk) ?_;show A6 ?_;show AH l2 ⇑(F03 0x89004897808048070480 4369 rfl r2 k0 k2) (by lia) (getD_some ⇑(F03 0x89004897808048070480 4369 rfl r2 k0 k2) (CR () ())) ?_;show Af ?_;show⟨i1,Go i1 i1L i2 i2L ?_⟩;show Ar ?_;show Bx (rfl:(!false)=true) ?_;show AC ?_;show Av ?_;show Aq ?_;show Aa (by lk) ?_;show At ?_;show Aa (by lk) ?_;show Aa (by lk) ?_;show A6 ?_;show AH l1 ⇑(F03 0x89004897808048070480 4369 rfl r1 k0 k1) (F13 0x80000000000000000f59807798070fa002575073780 4369 rfl r3 r5 c1) (getD_some ⇑(F03 0x89004897808048070480 4369 rfl r1 k0 k1) (CR () ())) ?_;show Aq ?_;show Aa (by lk) ?_;show At ?_;show Aa (by lk) ?_;show Aa (by lk) ?_;show A6 ?_;show AH l2 ⇑(F03 0x89004897808048070480 4369 rfl r2 k0 k2) (by lia) (getD_some ⇑(F03 0x89004897808048070480 4369 rfl r2 k0 k2) (CR () ())) ?_;show DY ?_;show Ar ?_;rw[(N.up c1 c2)];show if_f out
  .exact AL c2 out
 .exact AL c1 out
theorem P2 {j:Addr}{b:Best}{KK:QX}(F:FL B hp L aA bA ib j as bs aG aI aH aJ m)(hb:BV m b)(N:NX as bs aG aI aH aJ b)(hK:KK .next m hp) :
  EX Md A (λ_ _=>False) B (callEnv Cr L 196) (flmS 10) m hp KK:=by
 obtain⟨h1,h2,h3,h4,h5,h6,h7,l1,l2,i1,i1L,i2,i2L,_⟩:=F;clear l1 h5 h4 h2;show aZ hb λb1 b2 b3=>?_;show Fn (λ_ ao ae=>ao=m/\ae=hp) 0 ⟨rfl,rfl⟩ ?_;clear b3;rintro n _ _ ⟨rfl,rfl⟩;show Eb λKT hKT=>?_;have out:=hKT _ _ (if_f hK);show BZ ?_;show AC ?_;show Av ?_;show Aa (by lk) ?_;show Aa (by lk) ?_;show Dp ?_;show Ar ?_;by_cases c1:aG<b.1
 .refine AP c1 ?_;show AC ?_;show Av ?_;show Aa (by lk) ?_;show Aa (by lk) ?_;show Dp ?_;show Ar ?_;by_cases c2:aH<b.2.1
  .refine AP c2 ?_;show aZ (N.dn c1 c2) λha hb' hne=>?_;show AC (BJ (Fm (id := "set.__contains__") (Aa h7 (aT ib j rfl i1L (?_)))));show Ac ?_;show Aq ?_;show Aa (by lk) ?_;show At ?_;show Aa (by lk) ?_;show Ak ?_;show BP ?_;show AH l2 ⇑(F02 0x681048877070480 273 rfl r2 c2) (F11 0x80000000000000000f5671773780fa0025750 273 rfl r6 hb') (getD_some ⇑(F02 0x681048877070480 273 rfl r2 c2) (F11 0x73671773780 17 rfl hb')) ?_;show Af ?_;show⟨i1,Go i1 i1L i2 i2L ?_⟩;show Ar ?_;show if_f out
  .exact AL c2 out
 .exact AL c1 out
theorem P3 {j:Addr}{b:Best}{KK:QX}(F:FL B hp L aA bA ib j as bs aG aI aH aJ m)(hb:BV m b)(N:NX as bs aG aI aH aJ b)(hK:KK .next m hp) :
  EX Md A (λ_ _=>False) B (callEnv Cr L 196) (flmS 11) m hp KK:=by
 obtain⟨h1,h2,h3,h4,h5,h6,h7,l1,l2,i1,i1L,i2,i2L,_⟩:=F;clear l1 h5 h3 h1;show aZ hb λb1 b2 b3=>?_;have k0:=N.k0;have k2:=N.b0;show Fn (λ_ ao ae=>ao=m/\ae=hp) 0 ⟨rfl,rfl⟩ ?_;rintro n _ _ ⟨rfl,rfl⟩;show Eb λKT hKT=>?_;have out:=hKT _ _ (if_f hK);show BZ ?_;show AC ?_;show Av ?_;show At ?_;show Aa (by lk) ?_;show Aa (by lk) ?_;show A6 ?_;show Aa (by lk) ?_;show B5 ?_;show Ar ?_;by_cases c1:b.1+b.2.2<aI
 .refine AP c1 ?_;show AC ?_;show Av ?_;show At ?_;show Aa (by lk) ?_;show Aa (by lk) ?_;show A6 ?_;show Aa (by lk) ?_;show B5 ?_;show Ar ?_;by_cases c2:b.2.1+b.2.2<aJ
  .refine AP c2 ?_;show AC (BJ (Fm (id := "set.__contains__") (Aa h7 (aT ib j rfl i1L (?_)))));show Ac ?_;show Aq ?_;show Aa (by lk) ?_;show At ?_;show Aa (by lk) ?_;show Aa (by lk) ?_;show A6 ?_;show AH l2 ⇑(F03 0x89004897808048070480 4369 rfl r2 k0 k2) (F13 0x80000000000000000f59807798070fa002575073780 4369 rfl r4 r6 c2) (getD_some ⇑(F03 0x89004897808048070480 4369 rfl r2 k0 k2) (CR () ())) ?_;show Af ?_;show⟨i1,Go i1 i1L i2 i2L ?_⟩;show Ar ?_;show if_f out
  .exact AL c2 out
 .exact AL c1 out
theorem LL_z:LL M aG aH aJ 0 j=0:=rfl
open Classical in
theorem LL_s {M:Int->Int->Prop}{aG aH aJ j:Int}{n:Nat}:LL M aG aH aJ (n+1) j=if aH<=j/\j<aJ/\M (aG+n) j then LL M aG aH aJ n (j-1)+1 else 0:=rfl
theorem JL:∀(n:Nat) (j:Int),0<=LL M aG aH aJ n j:=by
 intro r_;induction r_ with
 | zero=>intro j;simp[LL_z]
 | succ n ih=>intro j;have:=ih (j-1);dsimp only[LL_s];split <;> lia
theorem P4:∀(n:Nat) (j:Int),LL M aG aH aJ n j<=n:=by
 intro r_;induction r_ with
 | zero=>intro j;simp[LL_z]
 | succ n ih=>intro j;dsimp only[LL_s];split <;> (first | show F11 0x6703670873780 17 rfl (ih (j-1)) | show F10 0x6703048 1 rfl)
theorem P5:∀(n:Nat) (j t:Int),0<=t->t<LL M aG aH aJ n j->M (aG+n-1-t) (j-t)/\aH<=j-t/\j<aJ:=by
 intro r_;induction r_ with
 | zero=>intro j t h0 h1;simp[LL_z]at h1;show⟨by omega,by omega,by omega⟩
 | succ n ih=>
  intro j t h0 h1
  rw[LL_s]at h1;split at h1
  .rename_i hc;by_cases ht:t=0
   .clear h1 h0;subst ht;show aP (?_) (F02 0x481788780 17 rfl hc.1) hc.2.1;have e1:aG+((n+1:Nat):Int)-1-0=aG+n:=F11 0x7370046670370119 17 rfl
    have e2:j-0=j:=F01 7358233 17 rfl
    rw[e1,e2];show hc.2.2
   .have:=ih (j-1) (t-1) (F01 0x67104870480047920 1052689 rfl ht h0) (F02 0x86717680770 17 rfl h1);have e1:aG+((n+1:Nat):Int)-1-t=aG+n-1-(t-1):=F12 0x681673701186670370119 17 rfl
    have e2:j-t=j-1-(t-1):=F02 0x68167118719 17 rfl
    rw[e1,e2];show aP this.1 (F03 0x6916811786916811780 17 rfl this.2.1) hc.2.1
  .exact ⟨by omega,by omega,by omega⟩
theorem P6:∀(n:Nat) (j k:Int),k<=n->aH<=j-k+1->j<aJ->(∀t,0<=t->t<k->M (aG+n-1-t) (j-t))->k<=LL M aG aH aJ n j:=by
 intro r_;induction r_ with
 | zero=>intro j k h1 _ _ _;simp[LL_z];omega
 | succ n ih=>
  intro j k h1 h2 h3 h
  by_cases hk:k<=0
  .exact Ce hk (JL _ _)
  .have h0:=h 0 (As _) (Int.not_le.mp ());have e1:aG+((n+1:Nat):Int)-1-0=aG+n:=F11 0x7370046670370119 17 rfl
   have e2:j-0=j:=F01 7358233 17 rfl
   rw[e1,e2]at h0;have:=ih (j-1) (k-1) (F11 0x7367186703780 17 rfl h1) (F03 0x6691681107869810780 17 rfl h2) (F02 0x867178770 17 rfl h3) λt ht0 ht1=>by
    have:=h (t+1) (F01 0x67004870480 17 rfl ht0) (F02 0x86707681770 17 rfl ht1);have e1:aG+((n+1:Nat):Int)-1-(t+1)=aG+n-1-t:=F12 0x867370116806670370119 17 rfl
    have e2:j-(t+1)=j-1-t:=F02 0x86711680719 17 rfl
    rw[e1,e2]at this;show this
   dsimp only[LL_s];rw[if_pos ⟨F03 0x87804982069810780 273 rfl h2 hk,h3,h0⟩]
   (show F02 0x68078867180 17 rfl this)
theorem P7 {i:Int}{f:Int->Int}:∀{js:List Nat}{st:FSt},js.Pairwise (· < ·)->C0 i aH aJ f js st=(js.filter λ(j:Nat)=>decide (aH<=(j:Int)) && decide ((j:Int)<aJ)).foldl (λst (j:Nat)=>innS i f st (j:Int)) st:=by
 intro r_;induction r_ with
 | nil=>intro st _;show rfl
 | cons j js ih=>
  intro st hp
  rw[Di]at hp;dsimp only[inner_s];by_cases h1:(j:Int)<aH
  .rw [if_pos h1,ih hp.2,List.filter_cons_of_neg (by simp;show λx1=>F12 0x73887378077370 17 rfl h1 x1)]
  .rw [if_neg h1];by_cases h2:(j:Int)>=aJ
   .rw [if_pos h2,List.filter_cons_of_neg (by simp;show λx1=>F11 0x737873780 17 rfl h2)];have:js.filter (λ(j:Nat)=>decide (aH<=(j:Int)) && decide ((j:Int)<aJ))=[]:=by show List.filter_eq_nil_iff.2 ?_;intro a ha;have:=hp.1 a ha;simp;show λx2=>fk [_,_] [_] 0x8378874073780 273 rfl h2 this
    rw[this];rfl
   .rw [if_neg h2,ih hp.2,List.filter_cons_of_pos (by simp;show⟨CC.mp (),Int.not_le.mp ()⟩),BH]
theorem BInv.congr{D D':Int->Int->Prop}{b:Best}(h:BInv aG aH D V b)(e:∀r j,D' r j↔D r j):BInv aG aH D' V b:=by
 have:D'=D:=by funext r j;show propext (e r j)
 rw[this];show h
theorem P8 {r0:Int}{f:Int->Int}:∀{js:List Nat}{D:Int->Int->Prop}{g:Int->Int}{b:Best},js.Pairwise (· < ·)->(∀j∈js,V r0 (j:Int)=f ((j:Int)-1)+1)->(∀x,0<=f x)->(∀r j,D r j->r<r0\/(r=r0/\∀j'∈js,j<(j':Int)))->BInv aG aH D V b ->
  BInv aG aH (λr j=>D r j\/(r=r0/\∃j'∈js,(j':Int)=j)) V (js.foldl (λst (j:Nat)=>innS r0 f st (j:Int)) (g,b)).2 /\
  ∀x,(js.foldl (λst (j:Nat)=>innS r0 f st (j:Int)) (g,b)).1 x=if ∃j'∈js,((j':Nat):Int)=x then f (x-1)+1 else g x:=by
 intro r_
 induction r_ with
 | nil=>
  intro D g b _ _ _ _ h;show⟨h.congr λr j=>by simp,λx=>by rfl⟩
 | cons j js ih=>
  intro D g b hp hV hf hD h;rw[Di]at hp;have hv:=hV j (.head _);have hf0:=hf ((j:Int)-1);have h':BInv aG aH (λr j'=>D r j'\/(r=r0/\j'=(j:Int))) V (innS r0 f (g,b) (j:Int)).2:=by
   unfold innS;dsimp only;rcases h with⟨rfl,hno⟩ | ⟨h0,h1,h2,h3⟩
   .rw [if_pos (by change f ((j:Int)-1)+1>0;(show F01 0x67004770480 17 rfl hf0))];show .inr ⟨by change 0<f ((j:Int)-1)+1;(show F01 0x67004770480 17 rfl hf0),?_,?_,?_⟩
    .right;show⟨rk _ _,rk _ _⟩
    .rw[(rk _ _:r0-(f ((j:Int)-1)+1)+1+(f ((j:Int)-1)+1)-1=r0),(rk _ _:(j:Int)-(f ((j:Int)-1)+1)+1+(f ((j:Int)-1)+1)-1=j)];show hv
    .clear hD hV ih;rintro r j' (hd | ⟨rfl,rfl⟩)
     .exact absurd hd (hno r j')
     .exact ⟨by rw[hv];show Ax _,λ_=>.inr ⟨rk _ _,Iz (rk _ _)⟩⟩
   .by_cases hgt:f ((j:Int)-1)+1>b.2.2
    .rw [if_pos hgt];show .inr ⟨by change 0<f ((j:Int)-1)+1;(show EL () ()),?_,?_,?_⟩
     .right;show⟨rk _ _,rk _ _⟩
     .rw[(rk _ _),(rk _ _)];show hv
     .rintro r j' (hd | ⟨rfl,rfl⟩)
      .have:=(h3 r j' hd).1;show⟨by change V r j'<=f ((j:Int)-1)+1;(show F03 0x680987980680770 273 rfl hgt this),λe=>?_⟩;show .inl (fk [] [_,_,_,_,_,_] 0xc6ba0176809907980680770 4113 rfl hgt this e)
      .exact ⟨by rw[hv];show Ax _,λ_=>.inr ⟨rk _ _,Iz (rk _ _)⟩⟩
    .rw [if_neg hgt];show .inr (aV h0 (.inl h1) h2 (?_));rintro r j' (hd | ⟨rfl,rfl⟩)
     .exact h3 r j' hd
     .refine ⟨F03 0x7986809906807720 4113 rfl hgt hv,λ_=>?_⟩;rcases hD _ _ h1 with hlt | ⟨he,hlt⟩
      .exact .inl hlt
      .exact .inr ⟨he,Bh (hlt j (.head _))⟩
  have ih:=ih (D:=λr j'=>D r j'\/(r=r0/\j'=(j:Int))) (g:=(innS r0 f (g,b) (j:Int)).1) (b:=(innS r0 f (g,b) (j:Int)).2) hp.2 (λj' hj'=>hV j' (.tail _ hj')) hf ?_ h'
  .refine ⟨ih.1.congr λr j'=>?_,λx=>?_⟩
   .simp only[Bg,exists_eq_or_imp];constructor
    .rintro (a | ⟨a,b | b⟩)
     .exact .inl (.inl a)
     .exact .inl (.inr ⟨a,b.symm⟩)
     .exact .inr ⟨a,b⟩
    .rintro ((a | ⟨a,b⟩) | ⟨a,b⟩)
     .exact .inl a
     .exact .inr ⟨a,.inl b.symm⟩
     .exact .inr ⟨a,.inr b⟩
   .rw [ih.2 x];by_cases hx:∃j'∈js,((j':Nat):Int)=x
    .rw [if_pos hx,if_pos];show aK hx λj' a b=>?_;show aM j' (.tail _ a) b
    .rw [if_neg hx];change(if x=(j:Int) then f ((j:Int)-1)+1 else g x)=_;by_cases hxj:x=(j:Int)
     .rw [if_pos hxj,if_pos ⟨j,.head _,hxj.symm⟩,hxj]
     .rw [if_neg hxj,if_neg];clear ih h' hf0 hv hD hV hp;rintro⟨j',a,b⟩;rcases Bg.mp a with rfl | a
      .exact hxj b.symm
      .exact hx (aM j' a b)
  .clear h' hv hV ih;rintro r j' (hd | ⟨rfl,rfl⟩)
   .rcases hD r j' hd with hlt | ⟨he,hlt⟩
    .exact .inl hlt
    .exact .inr ⟨he,λj'' hj''=>hlt j'' (.tail _ hj'')⟩
   .exact .inr ⟨rfl,λj'' hj''=>by have:=hp.1 j'' hj'';(show BC.mpr ())⟩
theorem P9 (hJ:∀x,(J x).Pairwise (· < ·)):∀n:Nat,(∀x,(outS as J aG aH aJ n).1 x=LL (MJ as J) aG aH aJ n x) /\
  BInv aG aH (λr j=>aG<=r/\r<aG+n/\aH<=j/\j<aJ/\MJ as J r j) (λr j=>LL (MJ as J) aG aH aJ (r-aG+1).toNat j) (outS as J aG aH aJ n).2:=by
 intro r_
 induction r_ with
 | zero=>
  show⟨λx=>rfl,.inl ⟨rfl,λr j h=>by have:=h.1;have:=h.2.1;show F02 0x3043708708780 17 rfl h.1 h.2.1⟩⟩
 | succ n ih=>
  rw[Py,P7 (hJ _)];have mem:∀x:Int,(∃j'∈(J (as.getD (aG+n).toNat 0)).filter (λ(j:Nat)=>decide (aH<=(j:Int)) && decide ((j:Int)<aJ)),((j':Nat):Int)=x)↔(aH<=x/\x<aJ/\MJ as J (aG+n) x):=λx=>by
   constructor
   .rintro ⟨j',hm,rfl⟩;rw[Cm,DF,decide_eq_true_iff,decide_eq_true_iff]at hm;show⟨hm.2.1,hm.2.2,j',hm.1,rfl⟩
   .rintro ⟨h1,h2,j',hm,rfl⟩;show(aM j' (?_) rfl);rw[Cm,DF,decide_eq_true_iff,decide_eq_true_iff];show aP hm h1 h2
  have F:=P8 (aG:=aG) (aH:=aH) (r0:=aG+n) (f:=(outS as J aG aH aJ n).1) (V:=λr j=>LL (MJ as J) aG aH aJ (r-aG+1).toNat j) (js:=(J (as.getD (aG+n).toNat 0)).filter (λ(j:Nat)=>decide (aH<=(j:Int)) && decide ((j:Int)<aJ)))
   (D:=λr j=>aG<=r/\r<aG+n/\aH<=j/\j<aJ/\MJ as J r j) (g:=λ_=>0) (b:=(outS as J aG aH aJ n).2) ((hJ _).filter _) (λj hj=>?_) (λx=>by rw[ih.1];show JL _ _) (λr j h=>.inl h.2.1) ih.2
  .refine ⟨λx=>?_,F.1.congr λr j=>?_⟩
   .rw [F.2 x,LL_s];by_cases hx:aH<=x/\x<aJ/\MJ as J (aG+n) x
    .rw [if_pos ((mem x).mpr hx),if_pos hx,ih.1]
    .rw [if_neg (λh=>hx ((mem x).mp h)),if_neg hx]
   .rw [mem j];constructor
    .rintro ⟨h1,h2,h3,h4,h5⟩;by_cases hr:r<aG+n
     .exact .inl ⟨h1,hr,h3,h4,h5⟩
     .have:r=aG+n:=by(show F12 0x73807973807720670380770 1052944 rfl h2 hr)
      clear hr h2 h1;subst this;show .inr (aV rfl h3 h4 h5)
    .rintro (⟨h1,h2,h3,h4,h5⟩ | ⟨rfl,h3,h4,h5⟩)
     .exact ⟨h1,F12 0x670380777380770 17 rfl h2,h3,h4,h5⟩
     .exact ⟨F11 7565432 1 rfl,F11 0x67037073707 1 rfl,h3,h4,h5⟩
  .rw [(by(show F11 0x68076677370103a 0x10010110101 rfl):(aG+(n:Int)-aG+1).toNat=n+1),LL_s,if_pos ((mem _).mp (aM j hj rfl)),ih.1]
theorem Gv (hJ:∀x,(J x).Pairwise (· < ·)):Longest (MJ as J) aG aI aH aJ (outS as J aG aH aJ (aI-aG).toNat).2:=by
 have I:=(P9 (as:=as) (aG:=aG) (aH:=aH) (aJ:=aJ) hJ (aI-aG).toNat).2;generalize (outS as J aG aH aJ (aI-aG).toNat).2=b at I;have last:∀i j k,Common (MJ as J) aG aI aH aJ i j k->0<k->(aG<=i+k-1/\i+k-1<aG+((aI-aG).toNat:Nat)/\aH<=j+k-1/\j+k-1<aJ/\MJ as J (i+k-1) (j+k-1))/\k<=LL (MJ as J) aG aH aJ (i+k-1-aG+1).toNat (j+k-1):=λi j k c hk=>by
  have:=c.a0;have:=c.a1;have:=c.b0;have:=c.b1;have e:=c.eq (k-1) (F01 0x67104870470 17 rfl hk) (F01 485143 1 rfl)
  rw[(⇑(F02 0x68701681709 17 rfl):i+(k-1)=i+k-1),(⇑(F02 0x68701681709 17 rfl):j+(k-1)=j+k-1)]at e;show⟨⟨F03 0x6790188988070470 273 rfl hk (),F04 0x73a0687017987080a913a 286265601 rfl (),F03 0x6790188988070470 273 rfl hk (),F03 0x9687017987080 17 rfl this,e⟩,P6 _ _ _ (F03 0x73789880704706867901103a 4580249601 rfl hk ()) (F03 0x696980110788780 17 rfl ()) (F03 0x9687017987080 17 rfl this) λt h0 h1=>?_⟩;have:=c.eq (k-1-t) (F02 0x768110488770 17 rfl h1) (F02 0x876811770480 17 rfl h0)
  rw[(by(show F04 0xa671190a673801199880704706867901103a 0x11101100101001010001 rfl hk ()):aG+(((i+k-1-aG+1).toNat:Nat):Int)-1-t=i+(k-1-t)),(by(show F03 0x968117096870119 17 rfl):j+k-1-t=j+(k-1-t))];show this
 rcases I with⟨rfl,hno⟩ | ⟨h0,h1,h2,h3⟩
 .refine ⟨Ax _,λ_=>rfl,λh=>absurd h (DQ _),λi j k c=>?_⟩;by_cases hk : 0<k
  .exact absurd (last i j k c hk).1 (hno _ _)
  .exact ⟨by change k<=0;(show CC.mp ()),λ_ h=>absurd h hk⟩
 .refine ⟨Bh (),λe=>(F01 0x30479070470 17 rfl h0 e).elim,λ_=>?_,λi j k c=>?_⟩
  .have hle:=P4 (M:=MJ as J) (aG:=aG) (aH:=aH) (aJ:=aJ) (b.1+b.2.2-1-aG+1).toNat (b.2.1+b.2.2-1);have hin:=λt a c=>P5 (M:=MJ as J) (aG:=aG) (aH:=aH) (aJ:=aJ) (b.1+b.2.2-1-aG+1).toNat (b.2.1+b.2.2-1) t a c;dsimp only at h2;rw[h2]at hle;simp only[h2]at hin;show bf h1 λg1 g2 g3 g4 g5=>?_;show⟨F03 0x98867901880737806867901103a 4311810320 rfl hle g1,F04 0xa980873706980170698017807a13a 4564520976 rfl g1 g2,F03 0x878691698011780 17 rfl ((hin (b.2.2-1) (F01 0x67104870470 17 rfl h0) (F01 485143 1 rfl)).2.1),F03 0x9870896870170 17 rfl g4,Bh (),λt ht0 ht1=>?_⟩;have:=(hin (b.2.2-1-t) (F02 0x768110488770 17 rfl ht1) (F02 0x876811770480 17 rfl ht0)).1
   rw[(by(show F04 0x9a0967116738011973780704706867a01103a 0x1101100101001010001 rfl h0 hle):aG+(((b.1+b.2.2-1-aG+1).toNat:Nat):Int)-1-(b.2.2-1-t)=b.1+t),(by(show F03 0x970968116870119 17 rfl):b.2.1+b.2.2-1-(b.2.2-1-t)=b.2.1+t)]at this;show this
  .by_cases hk : 0<k
   .obtain ⟨l1,l2⟩:=last i j k c hk;have l3:=h3 _ _ l1;dsimp only at l3;show⟨Ce l2 l3.1,λe _=>?_⟩;have l4:LL (MJ as J) aG aH aJ (i+k-1-aG+1).toNat (j+k-1)=b.2.2:=by
     (show F03 0x989979098808780 68736323585 rfl l2 l3.1 e)
    rcases l3.2 l4 with x | ⟨x,y⟩
    .left;(show F04 0xa9767a0168901708790 4353 rfl e x)
    .right;show⟨F04 0xa9967a0168901908790 68989030416 rfl e x,F04 0xa9867a0168901808790 4353 rfl e y⟩
   .exact ⟨F02 0x78880472070470 273 rfl h0 hk,λ_ h=>absurd h hk⟩
theorem PB (bs:List Int)(x:Int):(idxN bs x).Pairwise (· < ·):=List.Pairwise.filter _ Hm
theorem JM{p:Int}:MJ as (idxN bs) p q↔0<=q/\q<bs.length/\bs.getD q.toNat 0=as.getD p.toNat 0:=by
 delta MJ idxN;constructor
 .rintro ⟨j,hj,rfl⟩;rw[Cm,BM,beq_iff_eq]at hj;show⟨As _,F20 0x837378740 17 rfl hj.1,?_⟩;rw[AW,AD,hj.2];rfl
 .rintro ⟨h0,h1,h2⟩;show⟨q.toNat,?_,DE ()⟩;rw[Cm,BM,beq_iff_eq];show⟨Bf () (),?_⟩;rw[<-h2,AD,A3 (Bf () ())];rfl
theorem Longest.nx{b:Best}(Lg:Longest (MJ as (idxN bs)) aG aI aH aJ b)(hb0 : 0<=aH)(ha:aI<=as.length)(hb:aJ<=bs.length):NX as bs aG aI aH aJ b:=by
 have hk:=Lg.k0;have hc:aG<=b.1/\aH<=b.2.1/\(b.2.2=0->b.1=aG)/\(0<b.2.2->b.1+b.2.2<=aI/\b.2.1+b.2.2<=aJ)/\∀t,0<=t->t<b.2.2->MJ as (idxN bs) (b.1+t) (b.2.1+t):=by
  by_cases h0:b.2.2=0
  .have:=Lg.zero h0;rw[this];show⟨Ax _,Ax _,λ_=>rfl,λh=>absurd h (DQ _),λt a c=>absurd (c:t<0) (F01 0x477270480 17 rfl a)⟩
  .have c:=Lg.com (F01 0x704770480047920 1052689 rfl h0 hk);show⟨c.a0,c.b0,λh=>absurd h h0,λ_=>⟨c.a1,c.b1⟩,c.eq⟩
 show bf hc λa0 b0 z ab eq=>?_;clear hc;show⟨hk,a0,b0,λh1 h2=>?_,λh1 h2=>?_⟩
 .have ⟨x,y⟩:=ab (by lia);show⟨F13 0x73987890808048073780 4369 rfl ha hk x,F13 0x73987890808048073780 4369 rfl hb hk y,?_⟩;cases h3:(as.getD (b.1-1).toNat 0 == bs.getD (b.2.1-1).toNat 0) with
  | false=>rfl
  | true=>
   have:=(Lg.max (b.1-1) (b.2.1-1) (b.2.2+1) ⟨F02 0x681788770 17 rfl h1,F03 0x968067108987080 17 rfl x,F02 0x681788770 17 rfl h2,F03 0x968067108987080 17 rfl y,by show F01 0x67004870480 17 rfl hk,λt h0 h1'=>?_⟩).1
   .lia
   .by_cases ht:t=0
    .clear h1' h0;subst ht;have x1:b.1-1+0=b.1-1:=F01 0x6710467109 17 rfl
     have x2:b.2.1-1+0=b.2.1-1:=F01 0x6710467109 17 rfl
     rw[x1,x2,JM];show⟨F02 0x681048877070480 273 rfl hb0 h2,F13 0x7369177890808048073780 4369 rfl hb hk y,(beq_iff_eq.mp h3).symm⟩
    .have:=eq (t-1) (F01 0x67104870480047920 1052689 rfl ht h0) (F02 0x86717680770 17 rfl h1')
     rw[(by(show F02 0x86710681709 17 rfl):b.1+(t-1)=b.1-1+t),(by(show F02 0x86710681709 17 rfl):b.2.1+(t-1)=b.2.1-1+t)]at this;show this
 .cases h3:(as.getD (b.1+b.2.2).toNat 0 == bs.getD (b.2.1+b.2.2).toNat 0) with
  | false=>rfl
  | true=>
   have:=(Lg.max b.1 b.2.1 (b.2.2+1) ⟨a0,F03 0x9680708987070 17 rfl h1,b0,F03 0x9680708987070 17 rfl h2,by show F01 0x67004870480 17 rfl hk,λt h0 h1'=>?_⟩).1
   .lia
   .by_cases ht:t=b.2.2
    .subst ht;show JM.2 ?_;show⟨F03 0x89004897808048070480 4369 rfl hb0 hk b0,CR () (),(beq_iff_eq.mp h3).symm⟩
    .exact eq t h0 (F02 0x87768077087920 69889 rfl ht h1')
theorem PC (_ : 0<=aH)(_:aJ<=bs.length):Longest (MJ as (idxN bs)) aG aI aH aJ (flmF as bs (idxN bs) (λ_=>false) aG aI aH aJ):=Gv (PB bs)
theorem Gw {F:Win->Tri}{W0:Win}{st:List Win}:mbGo F (n+1) (W0::st) acc=if (F W0).2.2=0 then mbGo F n st acc else mbGo F n (Bv W0 (F W0)++(Bi W0 (F W0)++st)) (acc++[F W0]):=rfl
theorem JN {F:Win->Tri}:mbGo F n [] acc=acc:=by cases n <;> rfl
theorem E5 (W0:Win)(st:List Win):wts (W0::st)=wt W0+wts st:=by rfl
theorem wts_app (a b:List Win):wts (a++b)=wts a+wts b:=by simp[wts]
theorem Ec {F:Win->Tri}(K:WOK F la lb){W0:Win}(h:C1 la lb W0)(hk : 0<(F W0).2.2):∀x∈Bi W0 (F W0),C1 la lb x/\x.2.1=(F W0).1/\W0.1=x.1:=λx hx=>by
 x_go;show bC h λh1 h2 h3 h4 h5 h6=>?_;show a7 (K.inn W0 h1 h2 h3 h4 h5 h6 hk) λa b c d=>?_;z_go;unfold Bi at hx;split at hx
 .rw [Ay]at hx;subst hx;show(aP ⟨h1,?_,?_,h4,?_,?_⟩ rfl rfl) <;> dsimp only <;> (first | show F02 0x8788780 17 rfl a | show F04 0x9a887a080988070470 4369 rfl hk h3 b | show F02 0x8788780 17 rfl c | show F04 0x9a887a080988070470 4369 rfl hk h6 d)
 .cases hx
theorem E6 {F:Win->Tri}(K:WOK F la lb){W0:Win}(h:C1 la lb W0)(hk : 0<(F W0).2.2):∀x∈Bv W0 (F W0),C1 la lb x/\x.1=(F W0).1+(F W0).2.2/\x.2.1=W0.2.1:=λx hx=>by
 x_go;show bC h λh1 h2 h3 h4 h5 h6=>?_;show a7 (K.inn W0 h1 h2 h3 h4 h5 h6 hk) λa b c d=>?_;z_go;unfold Bv at hx;split at hx
 .rw [Ay]at hx;subst hx;show(aP ⟨?_,?_,h3,?_,?_,h6⟩ rfl rfl) <;> dsimp only <;> (first | show F03 0x79004898808048070470 4369 rfl hk h1 a | show F03 0x98708987080 17 rfl b | show F03 0x79004898808048070470 4369 rfl hk h4 c | show F03 0x98708987080 17 rfl d)
 .cases hx
theorem PD (W0:Win)(t:Tri):wts (Bi W0 t)<=2*(t.1-W0.1).toNat+1/\(t.1<=W0.1->wts (Bi W0 t)=0):=by
 unfold Bi;split
 .refine ⟨by simp[wts,wt],λh=>by lia⟩
 .refine ⟨by simp[wts],λ_=>rfl⟩
theorem PE (W0:Win)(t:Tri):wts (Bv W0 t)<=2*(W0.2.1-(t.1+t.2.2)).toNat+1:=by
 unfold Bv;split
 .simp [wts,wt]
 .simp [wts]
theorem HP {F:Win->Tri}(K:WOK F la lb){W0:Win}(h:C1 la lb W0)(hk : 0<(F W0).2.2):wts (Bv W0 (F W0))+wts (Bi W0 (F W0))<wt W0:=by
 x_go;show bC h λh1 h2 h3 h4 h5 h6=>?_;show aZ (K.inn W0 h1 h2 h3 h4 h5 h6 hk) λa b _=>?_;z_go;have l:=(PD W0 (F W0)).1;have r:=PE W0 (F W0);unfold wt;show CB (Nat.add_le_add r l) ?_;clear l r
 (show F04 0x67220682206922004a790809880704708a13a8913a790a13a 0x1111000001222020202120220200212020220021022200220102202022001111000001002022020 rfl hk a b)
theorem JO {F:Win->Tri}(K:WOK F la lb):∀n (st:List Win) acc,(∀W0∈st,C1 la lb W0)->wts st<=n->∀n',wts st<=n'->mbGo F n st acc=mbGo F n' st acc:=by
 intro r_
 induction r_ with
 | zero=>
  intro st acc hin hn n' hn';clear hn' hin;cases st with
  | nil=>cases n' <;> rfl
  | cons W0 st=>show(F20 0x304867220050 1 rfl hn).elim
 | succ n ih=>
  intro l_;cases l_ with
  | nil=>
   intro acc hin hn n' hn';cases n' <;> rfl
  | cons W0 st=>
   intro acc hin hn n' hn';have hw:=hin W0 (.head _);have h1 : 1<=wt W0:=by unfold wt;(show BU _)
   obtain⟨m,rfl⟩:∃m,n'=m+1:=⟨n'-1,F30 0x670a68650a98050691a 0x10010111011000110010 rfl hn' h1⟩;have hst:=λx hx=>hin x (.tail _ hx);rw[Gw,Gw];by_cases hk:(F W0).2.2=0
   .rw [if_pos hk,if_pos hk];show ih st acc hst (F30 0x985765069087050 273 rfl hn h1) m (F30 0x985690870507650 273 rfl h1 hn')
   .rw [if_neg hk,if_neg hk];have hk' : 0<(F W0).2.2:=by have:=K.k0 W0;show F01 0x704770480047920 1052689 rfl hk this
    have hl:=HP K hw hk';show ih _ _ (λx hx=>?_) (by rw[wts_app,wts_app];(show fk [_,_,_,_,_] [] 0x98b0a057ba04069087050 273 rfl hn hl)) m (by rw[wts_app,wts_app];(show fk [_,_,_,_,_] [] 0x98b0a057ba04069087050 273 rfl hn' hl));rcases Aw.mp hx with hx | hx
    .exact (E6 K hw hk' x hx).1
    .rcases Aw.mp hx with hx | hx
     .exact (Ec K hw hk' x hx).1
     .exact hst x hx
theorem Apart.tail {W0:Win}{st:List Win}(h:Apart (W0::st) acc):Apart st acc:=⟨(Di.mp h.ww).2,λx hx=>h.wb x (.tail _ hx),h.nd⟩
theorem Apart.step {F:Win->Tri}(K:WOK F la lb){W0:Win}{st:List Win}(hw:C1 la lb W0)(h:Apart (W0::st) acc)(hk : 0<(F W0).2.2):Apart (Bv W0 (F W0)++(Bi W0 (F W0)++st)) (acc++[F W0]):=by
 have hww:=Di.mp h.ww;show bC (id hw) λh1 h2 h3 h4 h5 h6=>?_;show aZ (K.inn W0 h1 h2 h3 h4 h5 h6 hk) λa b _=>?_;have single:∀l:List Win,l.length<=1->l.Pairwise (λx y=>x.2.1<=y.1\/y.2.1<=x.1):=λl hl=>by
  match l,hl with
  | [],_=>show List.Pairwise.nil
  | [x],_=>show El _ _
  | _::_::_,hl=>simp at hl
 have ll:(Bi W0 (F W0)).length<=1:=by unfold Bi;split <;> simp
 have rl:(Bv W0 (F W0)).length<=1:=by unfold Bv;split <;> simp
 show⟨D1.mpr ⟨single _ rl,D1.mpr (aP (single _ ll) hww.2 λx hx y hy=>?_),λx hx y hy=>?_⟩,λx hx t ht=>?_,?_⟩
 .have:=Ec K hw hk x hx;have:=hww.1 y hy;lia
 .have e:=E6 K hw hk x hx;rcases Aw.mp hy with hy | hy
  .have:=Ec K hw hk y hy
   (show fk [] [_,_,_,_,_,_] 0x8a8cb819a9079089070470 16781569 rfl hk e.2.1 this.2.1)
  .have:=hww.1 y hy
   (show fk [] [_,_,_,_,_,_,_,_] 0xd988e817e90bc0d90ca80b0470a9887810 0x100010111010100001 rfl this hk a e.2.1 e.2.2)
 .rcases Aw.mp ht with ht | ht
  .have wb:=h.wb W0 (.head _) t ht;rcases Aw.mp hx with hx | hx
   .have e:=E6 K hw hk x hx;(show fk [] [_,_,_,_,_,_,_] 0x7d8c7719d90ab0c90b880a047079887710 0x100100001010010111 rfl wb hk a e.2.1 e.2.2)
   .rcases Aw.mp hx with hx | hx
    .have e:=Ec K hw hk x hx;(show fk [] [_,_,_,_,_,_,_] 0x7c8d771d890bc909ab080a047079887710 0x100001111010100001 rfl wb hk b e.2.1 e.2.2)
    .exact h.wb x (.tail _ hx) t ht
  .rw [Ay]at ht;subst ht;rcases Aw.mp hx with hx | hx
   .have e:=E6 K hw hk x hx;(show F04 0x9a8897179089070470 4353 rfl hk e.2.1)
   .rcases Aw.mp hx with hx | hx
    .have e:=Ec K hw hk x hx;(show F03 0x87898718790 4097 rfl e.2.1)
    .have:=hww.1 x hx;(show fk [] [_,_,_,_,_,_] 0xc988c717bc080ca80b0470a9887810 0x100101011011 rfl this hk a b)
 .refine DN.mpr (aP h.nd (by simp) λt ht t' ht' e=>?_);rw[Ay]at ht';have:=h.wb W0 (.head _) t ht;rw[e,ht']at this
  (show F04 0x39a70807880a047079887710 269549825 rfl this hk a b)
theorem PF (a b c:Tri)(h1:leT a b=true)(h2:leT b c=true):leT a c=true:=by
 unfold leT at *;simp only[Hn]at *;cases h:lexB c a with
 | false=>rfl
 | true=>
  by_cases e:b=a
  .rw [<-e,h2]at h;show h.symm
  .rw [<-h2,Gp h (HI h1 e)]
theorem PG (a b:Tri):(leT a b || leT b a)=true:=by
 unfold leT;cases h:lexB b a with
 | false=>rfl
 | true=>
  cases h2:lexB a b with
  | false=>rfl
  | true=>have:=Gp h h2;rw[HJ]at this;cases this
theorem CA (xs:List Tri):(Cs xs).Perm xs:=List.mergeSort_perm xs leT
theorem HQ {xs:List Tri}(nd:xs.Nodup):(Cs xs).Pairwise (λa b=>lexB a b=true):=by show(List.Pairwise.and (List.pairwise_mergeSort (le:=leT) PF PG xs) ((CA xs).nodup_iff.mpr nd)).imp λ{a b} q72=>q72.elim λh1 h2=>?_;unfold leT at h1;simp only[Hn]at h1;show HI h1 (Ah h2)
theorem HR {xs ys:List Tri}(nd:xs.Nodup)(p:ys.Perm xs)(h:ys.Pairwise (λa b=>lexB a b=true)):ys=Cs xs:=Jw (p.trans (CA xs).symm) h (HQ nd)
theorem JP (as bs:List Int)(aj:Bool)(la lb:Int):WOK (flmW as bs aj) la lb where
 k0 x:=by have Lg:=(Gv (as:=as) (aG:=x.1) (aI:=x.2.1) (aH:=x.2.2.1) (aJ:=x.2.2.2) (HO bs aj)).k0;show Lg
 inn x h1 h2 h3 h4 h5 h6 hk:=by
  have Lg:=Gv (as:=as) (aG:=x.1) (aI:=x.2.1) (aH:=x.2.2.1) (aJ:=x.2.2.2) (HO bs aj);have W:InWn x.1 x.2.1 x.2.2.1 x.2.2.2 (outS as (PJ bs aj) x.1 x.2.2.1 x.2.2.2 (x.2.1-x.1).toNat).2:=by
   by_cases hz:(outS as (PJ bs aj) x.1 x.2.2.1 x.2.2.2 (x.2.1-x.1).toNat).2.2.2=0
   .rw [Lg.zero hz];show⟨Ax _,by dsimp only;show F02 0x8047088780 17 rfl h2,Ax _,by dsimp only;(show F02 0x8047088780 17 rfl h5)⟩
   .have c:=Lg.com (by have:=Lg.k0;assumption);show⟨c.a0,c.a1,c.b0,c.b1⟩
  show aV W.a0 W.a1 W.b0 W.b1
theorem Run.first {s t n:Int}(h:Run M s t n):M s t:=by
 have:=h.2 0 (As _) h.1
 rwa [Bm,Bm]at this
theorem Run.next {s t n r:Int}(h:Run M s t n)(h0 : 0<=r)(h1:r+1<n):M (s+r) (t+r)/\M (s+r+1) (t+r+1):=by
 show⟨h.2 r h0 (Bh ()),?_⟩;have:=h.2 (r+1) (F01 0x67004870480 17 rfl h0) h1
 rwa [<-BR,<-BR]at this
theorem Grd.runK (G:Grd M K){s t n:Int}(h:Run M s t n)(hk:K s t):∀r:Nat,(r:Int)<n->K (s+r) (t+r):=by
 intro r_;induction r_ with
 | zero=>intro _;rw[Hj,Bm,Bm];show hk
 | succ r ih=>
  intro hr;have ih:=ih ⇑(Bh ());obtain⟨a,b⟩:=h.next (r:=r) ⇑(As _) ();have:=(G.whole a b).mp ih
  rwa [Ff,Int.natCast_one,<-BR,<-BR]
theorem WH.run {W0:Win}(W:WH M K W0){s t n:Int}(h:Run M s t n)(hk:inW W0 s t):∀r:Nat,(r:Int)<n->inW W0 (s+r) (t+r):=by
 intro r_;induction r_ with
 | zero=>intro _;rw[Hj,Bm,Bm];show hk
 | succ r ih=>
  intro hr;have ih:=ih ⇑(Bh ());obtain⟨a,b⟩:=h.next (r:=r) ⇑(As _) ();have:=(W.wh a b).mp ih
  rwa [Ff,Int.natCast_one,<-BR,<-BR]
theorem PH (G:Grd M K){W0:Win}(W:WH M K W0){b:Tri}(L:Longest M W0.1 W0.2.1 W0.2.2.1 W0.2.2.2 b)(h0 : 0<b.2.2):Best1 M K W0 b:=by
 have c:=L.com h0;have R:Run M b.1 b.2.1 b.2.2:=⟨h0,c.eq⟩;have:=c.a0;have:=c.a1;have:=c.b0;have:=c.b1;have hin:inW W0 b.1 b.2.1:=⟨by omega,F03 0x98797808070470 273 rfl h0 (),by omega,F03 0x98797808070470 273 rfl h0 this⟩;have hk:K b.1 b.2.1:=by
  show B1 λhn=>?_;show bH (G.cross R hn) λs t n R' k' hp hc=>?_;have hw:inW W0 s t:=by
   rcases W.kin k' with x | ⟨x,y⟩ | ⟨x,y⟩
   .exact x
   .exfalso;show hc.elim (λx5=>F03 0x3987079708780 273 rfl () y x5.2) λx5=>F03 0x3987079708780 273 rfl () x x5.1
   .exfalso;show hc.elim (λx6=>F04 0x38a70a98097808070470 4369 rfl h0 () x x6.1) λx6=>F04 0x38a70a98097808070470 4369 rfl h0 this y x6.2
  have hn0:=R'.1;have hl:=W.run R' hw (n-1).toNat (F01 0x7737704706713a 285282320 rfl hn0)
  rw[(by(show F01 0x671739704706713a 0x1101101010101001 rfl hn0):((n-1).toNat:Int)=n-1)]at hl;have:=hl.2.1;have:=hl.2.2.2;have:=hw.1;have:=hw.2.2.1;have:=L.max s t n ⟨by omega,F03 0x9870896817070 17 rfl (),by omega,F03 0x9870896817070 17 rfl (),Bh (),R'.2⟩;lia
 show⟨R,hin,λr hr0 hr1=>?_,λhm=>?_,λhm=>?_⟩
 .have:=G.runK R hk r.toNat (F02 0x773778707047083a 68989030416 rfl h0 hr1)
  rwa [(by(show DE ()):(r.toNat:Int)=r)]at this
 .have hm1:M (b.1-1+1) (b.2.1-1+1):=by rw[D2,D2];show R.first
  have hi:=(W.wh hm hm1).mpr (by rw[D2,D2];show hin);have:=hi.1;have:=hi.2.2.1;have:=(L.max (b.1-1) (b.2.1-1) (b.2.2+1) ⟨by omega,F03 0x968067108987080 17 rfl (),by omega,F03 0x968067108987080 17 rfl (),by show F01 0x67004870470 17 rfl h0,λt ht0 ht1=>?_⟩).1
  .lia
  .by_cases ht:t=0
   .subst ht;rw[Bm,Bm];show hm
   .have:=R.2 (t-1) (F01 0x67104870480047920 1052689 rfl ht ht0) (F02 0x86717680770 17 rfl ht1)
    rwa [(⇑(F02 0x86710681709 17 rfl):b.1+(t-1)=b.1-1+t),(by(show F02 0x86710681709 17 rfl):b.2.1+(t-1)=b.2.1-1+t)]at this
 .have hm1:M (b.1+(b.2.2-1)) (b.2.1+(b.2.2-1)):=R.2 _ (F01 0x67104870470 17 rfl h0) (F01 485143 1 rfl)
  have hi:=(W.wh hm1 (by rwa [show b.1+(b.2.2-1)+1=b.1+b.2.2 from(F02 0x87066817009 17 rfl),show b.2.1+(b.2.2-1)+1=b.2.1+b.2.2 from(F02 0x87066817009 17 rfl)])).mp ⟨F03 0x6719088988070470 273 rfl h0 (),F03 0x9681707987080 17 rfl (),F03 0x6719088988070470 273 rfl h0 (),F03 0x9681707987080 17 rfl this⟩;have:=hi.2.1;have:=(L.max b.1 b.2.1 (b.2.2+1) ⟨by omega,F03 0x96807089668170070 17 rfl (),by omega,F03 0x96807089668170070 17 rfl hi.2.2.2,by show F01 0x67004870470 17 rfl h0,λt ht0 ht1=>?_⟩).1
  .lia
  .by_cases ht:t=b.2.2
   .subst ht;show hm
   .exact R.2 t ht0 (F02 0x87768077087920 69889 rfl ht ht1)
theorem PI {W0:Win}{b:Tri}(L:Longest M W0.1 W0.2.1 W0.2.2.1 W0.2.2.2 b)(h0:b.2.2=0){i:Int}(hi:inW W0 i j):¬M i j:=λhm=>by
 show a7 hi λh1 h2 h3 h4=>?_;have:=(L.max i j 1 ⟨h1,by assumption,h3,by assumption,As _,λt ht0 ht1=>?_⟩).1
 .exact F01 0x3768004790 257 rfl h0 this
 .have:t=0:=F01 0x479677070480 1114369 rfl ht0 ht1
  subst this;rw[Bm,Bm];show hm
theorem WH.left (G:Grd M K){W0:Win}(W:WH M K W0){b:Tri}(B:Best1 M K W0 b):WH M K (W0.1,b.1,W0.2.2.1,b.2.1):=by
 show a7 B.inn λb1 b2 b3 b4=>?_;have hk:=B.kk 0 (As _) B.run.1;rw[Bm,Bm]at hk;show⟨λ{i j} h1 h2=>⟨λhi=>?_,λhi=>?_⟩,λ{i j} h=>?_⟩
 .refine a7 hi λa1 a2 a3 a4=>?_;have x:=(W.wh h1 h2).mp (aV a1 (EL () ()) a3 (EL () ()));show(aV x.1 (?_) x.2.2.1 (?_))
  .by_cases e:i+1=b.1
   .rw [e]at h2;have:=G.i1 h2 B.run.first;show absurd h1 (by rw[(⇑(F02 0x68179867090 1052944 rfl e):i=b.1-1),(⇑(F02 0x68179867090 1052944 rfl this):j=b.2.1-1)];show B.lo)
   ·(show F02 0x8670787708670920 69889 rfl e a2)
  .by_cases e:j+1=b.2.1
   .rw [e]at h2;have:=G.i2 h2 B.run.first;show absurd h1 (by rw[(⇑(F02 0x68179867090 1052944 rfl this):i=b.1-1),(⇑(F02 0x68179867090 1052944 rfl e):j=b.2.1-1)];show B.lo)
   ·(show F02 0x8670787708670920 69889 rfl e a4)
 .refine a7 hi λa1 a2 a3 a4=>?_;have x:=(W.wh h1 h2).mpr (aV a1 (EL () ()) a3 (EL () ()));show(aV x.1 (by change i<b.1;(show Bh ())) x.2.2.1 (by change j<b.2.1;(show Bh ())))
 .rcases W.kin h with x | x | x
  .refine a7 x λx1 x2 x3 x4=>?_;by_cases hlt:i<b.1
   .exact .inl (aV x1 hlt x3 (G.mono h hk hlt))
   .refine .inr (.inr ⟨by change b.1<=i;(show CC.mp ()),?_⟩);by_cases e:i=b.1
    .clear hlt x2 x1;subst e;have:=G.i1 (G.sub h) B.run.first;show F02 0x7888790 272 rfl this
    .exact Bh (G.mono hk h (F02 0x7878772087920 1052689 rfl e hlt))
  .exact .inr (.inl x)
  .exact .inr (.inr ⟨by change b.1<=i;(show F03 0x97898808770 273 rfl b2 x.1),by change b.2.1<=j;(show F03 0x97898808770 273 rfl b4 x.2)⟩)
theorem WH.right (G:Grd M K){W0:Win}(W:WH M K W0){b:Tri}(B:Best1 M K W0 b):WH M K (b.1+b.2.2,W0.2.1,b.2.1+b.2.2,W0.2.2.2):=by
 have hn:=B.run.1;show a7 B.inn λb1 b2 b3 b4=>?_;have hk:=B.kk (b.2.2-1) ⇑(F01 0x67104870470 17 rfl hn) ⇑(F01 485143 1 rfl);have hm:=B.run.2 (b.2.2-1) ⇑(F01 0x67104870470 17 rfl hn) ⇑(F01 485143 1 rfl);show⟨λ{i j} h1 h2=>⟨λhi=>?_,λhi=>?_⟩,λ{i j} h=>?_⟩
 .refine a7 hi λa1 a2 a3 a4=>?_;have x:=(W.wh h1 h2).mp (aV (F04 0xa88a79080988070470 4369 rfl hn b1 a1) a2 (F04 0xa88a79080988070470 4369 rfl hn b3 a3) a4);show(aV (by change b.1+b.2.2<=i+1;(show F03 0x6908708987080 17 rfl a1)) x.2.1 (by change b.2.1+b.2.2<=j+1;(show F03 0x6908708987080 17 rfl a3)) x.2.2.2)
 .refine a7 hi λa1 a2 a3 a4=>?_;have x:=(W.wh h1 h2).mpr (aV (F04 0x6a0886a079080988070470 4369 rfl hn b1 a1) a2 (F04 0x6a0886a079080988070470 4369 rfl hn b3 a3) a4);show⟨?_,x.2.1,?_,x.2.2.2⟩
  .by_cases e:i+1=b.1+b.2.2
   .rw [(by(show F03 0x691807998067090 1052944 rfl e):i=b.1+(b.2.2-1))]at h1;have:=G.i1 h1 hm;show absurd h2 (by rw[e,(by(show F03 0x980670969180790 1052944 rfl this):j+1=b.2.1+b.2.2)];show B.hi)
   ·(show F03 0x7980867098080980670920 1052689 rfl e a1)
  .by_cases e:j+1=b.2.1+b.2.2
   .rw [(by(show F03 0x691807998067090 1052944 rfl e):j=b.2.1+(b.2.2-1))]at h1;have:=G.i2 h1 hm;show absurd h2 (by rw[e,(by(show F03 0x980670969180790 1052944 rfl this):i+1=b.1+b.2.2)];show B.hi)
   ·(show F03 0x7980867098080980670920 1052689 rfl e a3)
 .rcases W.kin h with x | x | x
  .refine a7 x λx1 x2 x3 x4=>?_;by_cases hlt:b.1+(b.2.2-1)<i
   .have:=G.mono hk h hlt;show .inl ⟨by change b.1+b.2.2<=i;(show F03 0x9870896817070 17 rfl hlt),x2,by change b.2.1+b.2.2<=j;(show F03 0x9870896817070 17 rfl this),x4⟩
   .refine .inr (.inl ⟨by change i<b.1+b.2.2;(show F03 0x87097968170720 17 rfl hlt),?_⟩);by_cases e:i=b.1+(b.2.2-1)
    .clear hlt x2 x1;subst e;have:=G.i1 (G.sub h) hm
     (show F03 0x9807769180790 257 rfl this)
    .have:=G.mono h hk (F03 0x6918077769180720691807920 69889 rfl e hlt)
     (show F03 0x9807769180770 17 rfl this)
  .exact .inr (.inl ⟨by change i<b.1+b.2.2;(show F04 0x790a78a70988070470 4369 rfl hn b1 x.1),by change j<b.2.1+b.2.2;(show F04 0x790a78a70988070470 4369 rfl hn b3 x.2)⟩)
  .exact .inr (.inr x)
theorem PK (G:Grd M K){F:Win->Tri}(WK:WOK F la lb)(hF:∀W0,C1 la lb W0->Longest M W0.1 W0.2.1 W0.2.2.1 W0.2.2.2 (F W0)):∀n (st:List Win) acc,(∀W0∈st,C1 la lb W0/\WH M K W0)->wts st<=n->Apart st acc ->
  ∃ext,mbGo F n st acc=acc++ext/\(acc++ext).Nodup/\(∀t∈ext,KRun M K t)/\∀W0∈st,∀i j,inW W0 i j->K i j->Cov ext i j:=by
 intro r_
 induction r_ with
 | zero=>
  intro st acc hin hn ha;clear hin;cases st with
  | nil=>show⟨[],by rw[JN];simp,by simpa using ha.nd,by simp,by simp⟩
  | cons W0 st=>show(F20 0x304867220050 1 rfl hn).elim
 | succ n ih=>
  intro l_;cases l_ with
  | nil=>
   intro acc hin hn ha;show⟨[],by rw[JN];simp,by simpa using ha.nd,by simp,by simp⟩
  | cons W0 st=>
   intro acc hin hn ha;obtain⟨hw,W⟩:=hin W0 (.head _);have Lg:=hF W0 hw;have h1 : 1<=wt W0:=by unfold wt;(show BU _)
   dsimp only[Gw];by_cases hk:(F W0).2.2=0
   .rw [if_pos hk];show a9 (ih st acc (λx hx=>hin x (.tail _ hx)) (F30 0x985765069087050 273 rfl hn h1) ha.tail) λext e1 e2 e3 e4=>?_;show aW ext e1 e2 e3 λx hx i j hi hK=>?_;clear h1 ha hn hin;rcases Bg.mp hx with rfl | hx
    .exact absurd (G.sub hK) (PI Lg hk hi)
    .exact e4 x hx i j hi hK
   .rw [if_neg hk];have hk' : 0<(F W0).2.2:=by have:=WK.k0 W0;show F01 0x704770480047920 1052689 rfl hk this
    have Bt:=PH G W Lg hk';have hleft:∀x∈Bi W0 (F W0),x=(W0.1,(F W0).1,W0.2.2.1,(F W0).2.1):=λx hx=>by
     unfold Bi at hx;split at hx
     .exact Ay.mp hx
     .cases hx
    have hright:∀x∈Bv W0 (F W0),x=((F W0).1+(F W0).2.2,W0.2.1,(F W0).2.1+(F W0).2.2,W0.2.2.2):=λx hx=>by
     unfold Bv at hx;split at hx
     .exact Ay.mp hx
     .cases hx
    clear hk h1 Lg;obtain⟨ext,e1,e2,e3,e4⟩:=ih (Bv W0 (F W0)++(Bi W0 (F W0)++st)) (acc++[F W0]) (λx hx=>by
     rcases Aw.mp hx with hx | hx
     .exact ⟨(E6 WK hw hk' x hx).1,by rw[hright x hx];show W.right G Bt⟩
     .rcases Aw.mp hx with hx | hx
      .exact ⟨(Ec WK hw hk' x hx).1,by rw[hleft x hx];show W.left G Bt⟩
      .exact hin x (.tail _ hx)) (by rw[wts_app,wts_app];(show fk [_,_,_,_,_] [] 0x98b0a057ba04069087050 273 rfl hn (HP WK hw hk'))) (ha.step WK hw hk')
    show aW (F W0::ext) (by rw[e1];simp) (by simpa using e2) (λt ht=>?_) λx hx i j hi hK=>?_
    .rcases Bg.mp ht with rfl | ht
     .exact ⟨Bt.run,Bt.kk,Bt.lo,Bt.hi⟩
     .exact e3 t ht
    .have tl:Cov ext i j->Cov (F W0::ext) i j:=λq86=>q86.elim λt q87=>q87.elim λht h=>aM t (.tail _ ht) h;clear e2 e1 hright hleft W hw ha hn hin;rcases Bg.mp hx with rfl | hx
     .by_cases c1:i<(F x).1
      .have hk0:=Bt.kk 0 (As _) hk';rw[Bm,Bm]at hk0;have hj:=G.mono hK hk0 c1;obtain⟨d1,d2,d3,d4⟩:=hi;have hm:(x.1,(F x).1,x.2.2.1,(F x).2.1)∈Bi x (F x):=by unfold Bi;rw[if_pos ⟨BI () (),BI () ()⟩];show .head _
       show tl (e4 _ (Ho _ (List.mem_append_left _ hm)) i j (aV d1 c1 d3 hj) hK)
      .by_cases c2:i<(F x).1+(F x).2.2
       .have:=Bt.run.2 (i-(F x).1) (F02 0x87104887720 17 rfl c1) (F03 0x98717980770 17 rfl c2);rw[show(F x).1+(i-(F x).1)=i from(F02 0x8781709 17 rfl)]at this;have:=G.i1 (G.sub hK) this;show aW (F x) (.head _) (CC.mp ()) c2 (F04 0xa918719a9180790 1052944 rfl this)
       .have hj:=G.mono (Bt.kk ((F x).2.2-1) (F01 0x67104870470 17 rfl hk') (F01 485143 1 rfl)) hK (F03 0x76918079807720 17 rfl c2);obtain⟨d1,d2,d3,d4⟩:=hi;have hm:((F x).1+(F x).2.2,x.2.1,(F x).2.1+(F x).2.2,x.2.2.2)∈Bv x (F x):=by unfold Bv;rw[if_pos ⟨F04 0xa9807a7709807720 273 rfl c2 d2,F04 0xa8707a97096817070 273 rfl hj d4⟩];show .head _
        show tl (e4 _ (List.mem_append_left _ hm) i j (aV (by change(F x).1+(F x).2.2<=i;(show CC.mp ())) d2 (by change(F x).2.1+(F x).2.2<=j;(show F03 0x9870896817070 17 rfl hj)) d4) hK)
     .exact tl (e4 x (Ho _ (Ho _ hx)) i j hi hK)
theorem PL (G:Grd M K){F:Win->Tri}(hla : 0<=la)(hlb : 0<=lb)(hin:∀i j,M i j->inW (0,la,0,lb) i j)(WK:WOK F la lb)(hF:∀W0,C1 la lb W0->Longest M W0.1 W0.2.1 W0.2.2.1 W0.2.2.2 (F W0)) :
  (rawB F la lb).Nodup/\(∀t∈rawB F la lb,KRun M K t)/\∀i j,K i j->Cov (rawB F la lb) i j:=by
 x_go
 obtain⟨ext,e1,e2,e3,e4⟩:=PK G WK hF (wt (0,la,0,lb)) [(0,la,0,lb)] [] (λW0 hw=>by
  rw[Ay]at hw;subst hw
  show⟨⟨by dsimp only;(show As _),hla,by dsimp only;(show Ax _),by dsimp only;(show As _),hlb,by dsimp only;(show Ax _)⟩,⟨λh1 h2=>⟨λ_=>hin _ _ h2,λ_=>hin _ _ h1⟩,λh=>.inl (hin _ _ (G.sub h))⟩⟩) (by simp[wts]) ⟨El _ _,by simp,List.nodup_nil⟩
 apply Z;have e:rawB F la lb=ext:=by unfold rawB;rw[e1];rfl
 rw[e];show aP (by simpa using e2) e3 λi j h=>e4 _ (.head _) i j (hin _ _ (G.sub h)) h
theorem KRun.at (G:Grd M K){x y:Tri}(hx:KRun M K x)(hy:KRun M K y)(h:lexB x y=true):Gap x y:=by
 have hn:=hx.run.1;have hm:=hy.run.1;have ky:=hy.kk 0 (As _) hm;rw[Bm,Bm]at ky;have my:=hy.run.first;rw[Fq]at h;have out:¬(x.1<=y.1/\y.1<x.1+x.2.2)\/x.1=y.1:=by
  by_cases e:x.1=y.1
  .exact .inr e
  .refine .inl λq41=>q41.elim λh1 h2=>?_;have a:=hx.run.2 (y.1-x.1) (F02 0x7810488780 17 rfl h1) (F03 0x98717980770 17 rfl h2);rw[show x.1+(y.1-x.1)=y.1 from(F02 0x8781709 17 rfl)]at a;have:=G.i1 a my;have b:=hx.run.2 (y.1-1-x.1) (F02 0x76811048878087920 69889 rfl e h1) (F03 0x9867117980770 17 rfl h2);show hy.lo (by rwa [show x.1+(y.1-1-x.1)=y.1-1 from(F02 0x68176811709 17 rfl),(by(show F04 0x6a196811709a9817090 1052944 rfl this):x.2.1+(y.1-1-x.1)=y.2.1-1)]at b)
 have lt:x.1≠y.1:=λe=>by
  have mx:=hx.run.first;rw[e]at mx;have e2:=G.i1 mx my;have e3:x.2.2=y.2.2:=by
   rcases FC x.2.2 y.2.2 with c | c | c
   .exfalso;have:=hy.run.2 x.2.2 (Bh ()) c;show hx.hi (by rwa [e,e2])
   .exact c
   .exfalso;have:=hx.run.2 y.2.2 (Bh ()) c;show hy.hi (by rwa [<-e,<-e2])
  show h.elim (λx4=>F02 0x387708790 272 rfl e x4) λx4=>x4.2.elim (λx5=>F02 0x387708790 272 rfl e2 x5) λx5=>F02 0x387708790 272 rfl e3 x5.2
 have le1:x.1+x.2.2<=y.1:=by
  rcases out with o | o
  .lia
  .exact absurd o lt
 have:=G.mono (hx.kk (x.2.2-1) (F01 0x67104870470 17 rfl hn) (F01 485143 1 rfl)) ky (F03 0x9681707987080 17 rfl le1);show aP le1 (F03 0x9870896817070 17 rfl this) λq40=>q40.elim λa b=>?_;show hx.hi (by rw[a,b];show my)
theorem JQ (G:Grd M K)(nd:bl.Nodup)(kr:∀t∈bl,KRun M K t):(Cs bl).Pairwise Gap:=
 (HQ nd).imp_of_mem λ{x y} hx hy h=>KRun.at G (kr x ((CA bl).mem_iff.mp hx)) (kr y ((CA bl).mem_iff.mp hy)) h
theorem PN:∀(bl:List Tri) (cur:Tri) (pre:List Tri),(cur::bl).Pairwise Gap->(∀t∈cur::bl,0<t.2.2)->0<(bl.foldl stepM (cur,pre)).1.2.2/\(bl.foldl stepM (cur,pre)).2++[(bl.foldl stepM (cur,pre)).1]=pre++cur::bl:=by
 intro r_;induction r_ with
 | nil=>intro cur pre _ h0;show⟨h0 cur (.head _),by simp⟩
 | cons b bl ih=>
  intro cur pre hp h0
  rw[Di]at hp;rw[BH];have e:stepM (cur,pre) b=(b,pre++[cur]):=by unfold stepM;rw[if_neg (hp.1 b (.head _)).2.2,if_neg ⇑(F01 0x479270470 17 rfl (h0 cur (.head _)))]
  rw[e];have ih:=ih b (pre++[cur]) hp.2 λt ht=>h0 t (.tail _ ht);show⟨ih.1,by rw[ih.2];simp⟩
theorem PO (hp:bl.Pairwise Gap)(h0:∀t∈bl,0<t.2.2):Hy bl la lb=bl++[(la,lb,0)]:=by
 delta Hy stM;rw[Cz];cases bl with
 | nil=>rfl
 | cons b bl=>
  rw[BH];have e:stepM ((0,0,0),[]) b=(b,[]):=by
   unfold stepM;by_cases h:(0:Int)+0=b.1/\(0:Int)+0=b.2.1
   .rw [if_pos h];obtain⟨h1,h2⟩:=h;obtain⟨b1,b2,b3⟩:=b;dsimp only at h1 h2 ⊢;rw[<-h1,<-h2];simp
   .rw [if_neg h,if_pos rfl]
  rw[e];have f:=PN bl b [] hp h0;rw[if_neg ⇑(F01 0x479270470 17 rfl f.1),f.2];rfl
theorem DD {α β:Type}{f : β->α->β}{l:List α}{k:Nat}{x : α}{z : β}(h:l[k]?=some x):(l.take (k+1)).foldl f z=f ((l.take k).foldl f z) x:=by rw[En,h,DR];rfl
theorem JR{k:Nat}{b:Tri}(h:bl[k]?=some b):stC bl (k+1)=stepC (stC bl k) b:=DD h
theorem JS:∀k,(stC bl k).2.2.length<=2*k:=by
 intro r_
 induction r_ with
 | zero=>
  simp[stC]
 | succ k ih=>
  cases h:bl[k]? with
  | none=>
   have hk:=Eo.mp h;have:stC bl (k+1)=stC bl k:=by unfold stC;rw[BE (F20 0x680758750 17 rfl hk),BE hk]
   rw[this];(show F20 0x6802275822750 17 rfl ())
  | some b=>
   rw[JR h];simp only[stepC,Ba];split <;> split <;> simp <;> lia
theorem JT (bl:List Tri):D6 bl=(stC bl bl.length).2.2:=by delta D6 stC;rw[Cz]
theorem PQ (bl:List Tri):(D6 bl).length<=2*bl.length:=by rw[JT];show JS _
theorem PR {a b:List Int}{p:Int}(h0 : 0<=p)(h1:p<a.length):MJ a (idxN b) p q↔MP a b p q:=by
 delta MJ MP;constructor
 .rintro ⟨j,hj,rfl⟩;simp only[idxN,Cm,BM,beq_iff_eq]at hj;show⟨h0,h1,As _,F20 0x837378740 17 rfl hj.1,?_⟩;rw[AW,AD (l:=b),hj.2];rfl
 .rintro ⟨-,-,h2,h3,e⟩;show⟨q.toNat,?_,DE ()⟩;simp only[idxN,Cm,BM,beq_iff_eq];show⟨Bf () (),?_⟩;rw[e,A3 (Bf () ()),AD,A3 (Bf () ())];rfl
theorem Longest.congr {M':Int->Int->Prop}{b:Best}(L:Longest M aG aI aH aJ b)(h:∀i j,aG<=i->i<aI->(M i j↔M' i j)):Longest M' aG aI aH aJ b:=by
 have cc:∀i j k,Common M aG aI aH aJ i j k↔Common M' aG aI aH aJ i j k:=λi j k=>
  ⟨λ⟨a0,a1,b0,b1,k0,eq⟩=>⟨a0,a1,b0,b1,k0,λt h0 h1=>(h _ _ (F03 0x98078904808780 273 rfl a0 h0) (F04 0x9a7078a70987080 273 rfl a1 h1)).mp (eq t h0 h1)⟩,
   λ⟨a0,a1,b0,b1,k0,eq⟩=>⟨a0,a1,b0,b1,k0,λt h0 h1=>(h _ _ (F03 0x98078904808780 273 rfl a0 h0) (F04 0x9a7078a70987080 273 rfl a1 h1)).mpr (eq t h0 h1)⟩⟩
 show⟨L.k0,L.zero,λh0=>(cc _ _ _).mp (L.com h0),λi j k c=>L.max i j k ((cc _ _ _).mpr c)⟩
theorem PS {a b:List Int}(hp:PJ b aj=idxN b)(W0:Win)(hw:C1 a.length b.length W0):Longest (MP a b) W0.1 W0.2.1 W0.2.2.1 W0.2.2.2 (flmW a b aj W0):=by x_go;show bC hw λh1 h2 h3 h4 h5 h6=>?_;z_go;unfold flmW;rw[hp];show(PC h4 h6).congr λi j g1 g2=>PR (F02 0x8048878070480 273 rfl h1 g1) (CR () ())
theorem JU:∀{l st:List Int},l.Nodup->(∀x∈l,x∈st)->l.length<=st.length:=by
 intro r_;induction r_ with
 | nil=>intro _ _ _;show Bp _
 | cons x l ih=>intro st nd h;rw[Hh]at nd;have hx:=h x (.head _);have:=ih (st:=st.erase x) nd.2 λy hy=>(List.mem_erase_of_ne (λe=>nd.1 (by rw[<-e];show hy))).mpr (h y (.tail _ hy));rw[List.length_erase_of_mem hx]at this;have:=List.length_pos_of_mem hx;rw[GX];(show F20 0x96805904407850681a 73283993872 rfl () this)
theorem KRun.inj (G:Grd M K){x y:Tri}(hx:KRun M K x)(hy:KRun M K y)(h:x.1=y.1):x=y:=by
 have mx:=hx.run.first;rw[h]at mx;have h2:=G.i1 mx hy.run.first;have nx:=hx.run.1;have ny:=hy.run.1;have h3:x.2.2=y.2.2:=by
  rcases FC x.2.2 y.2.2 with c | c | c
  .exact absurd (by rw[h,h2];show hy.run.2 x.2.2 (Bh ()) c) hx.hi
  .exact c
  .exact absurd (by rw[<-h,<-h2];show hx.run.2 y.2.2 (Bh ()) c) hy.hi
 show D3 h (D3 h2 h3)
theorem PU (G:Grd M K){raw:List Tri}(nd:raw.Nodup)(kr:∀t∈raw,KRun M K t)(hst:∀i j,K i j->¬M (i-1) (j-1)->i∈st):raw.length<=st.length:=by
 have h:=JU (l:=raw.map (·.1)) (st:=st) (by
  unfold List.Nodup;show Df.2 ?_
  show List.Pairwise.imp_of_mem (λ{x y} hx hy hne e=>hne (KRun.inj G (kr x hx) (kr y hy) e)) nd) (λx hx=>by
  show aK (Bk.mp hx) λt ht q82=>?_;subst q82;have k:=(kr t ht).kk 0 (As _) (kr t ht).run.1;rw[Bm,Bm]at k
  show hst _ _ k (kr t ht).lo)
 rwa [Ai]at h
theorem Cov.perm (p:bl.Perm bl'){i:Int}(h:Cov bl i j):Cov bl' i j:=by show aK h λt ht x=>?_;show aM t (p.mem_iff.mp ht) x
theorem PY {a b:List Int}(hp:PJ b aj=idxN b)(G:Grd (MP a b) K)(hst:∀i j,K i j->¬MP a b (i-1) (j-1)->i∈st) :
  ∃bl,Told (MP a b) K bl/\bl.length<=st.length/\(rawB (flmW a b aj) a.length b.length).length<=st.length/\mbF (flmW a b aj) a.length b.length=bl++[((a.length:Int),(b.length:Int),0)]:=by
 x_go;show aZ (PL (la:=a.length) (lb:=b.length) G (As _) (As _) (λi j h=>aV h.1 h.2.1 h.2.2.1 h.2.2.2.1) (JP a b aj _ _) (PS hp)) λnd kr cov=>?_;apply Z;have hc:=PU G nd kr hst;have pm:=CA (rawB (flmW a b aj) a.length b.length);have T:Told (MP a b) K (Cs (rawB (flmW a b aj) a.length b.length)):=⟨JQ G nd kr,λt ht=>kr t (pm.mem_iff.mp ht),λi j h=>(cov i j h).perm pm.symm⟩;show(aW _ T (by rw[pm.length_eq];show hc) hc (PO T.gap λt ht=>(T.kr t ht).run.1))
theorem Cc {a W0:Int->Int}(ha:∀i,a (i+1)=a i+W0 i)(hw:∀i,1<=W0 i){i:Int}(h:i<i'):a i+W0 i<=a i':=by
 have:∀k:Nat,a i+W0 i<=a (i+1+k):=λk=>by
  induction k with
  | zero=>rw[Hj,Bm,ha];show Ax _
  | succ k ih=>
   have:=ha (i+1+k);have:=hw (i+1+k);rw[FD,<-BR]
   (show F05 0xa8708b680b90a90987080 69889 rfl ih () this)
 have:=this (i'-i-1).toNat
 rwa [(by(show F02 0x873670098770678113a 0x1101101010101001 rfl h):i+1+((i'-i-1).toNat:Int)=i')]at this
theorem E7 {a W0:Int->Int}(ha:∀i,a (i+1)=a i+W0 i)(hw:∀i,1<=W0 i){i r r':Int}(h0 : 0<=r)(h1:r<W0 i)(h0' : 0<=r')(h1':r'<W0 i')(h:a i+r=a i'+r'):i=i'/\r=r':=by
 rcases FC i i' with x | x | x
 .have:=Cc ha hw x;show⟨fk [] [_,_,_,_,_,_,_] 0xdc9b8a0809b07a090904808770 0x11011011011 rfl h1 h0' h this,F05 0x979b8a0809b07a090904808770 0x11011011011 rfl h1 h0' h this⟩
 .subst x;show⟨by rfl,F03 0x98997087090 1052944 rfl h⟩
 .have:=Cc ha hw x;show⟨fk [] [_,_,_,_,_,_,_] 0xdc9a9b0808b07a090987070480 0x10111010111 rfl h0 h1' h this,F05 0x879a9b0808b07a090987070480 0x10111010111 rfl h0 h1' h this⟩
theorem JV {a W0:Int->Int}(ha:∀i,a (i+1)=a i+W0 i)(hw:∀i,1<=W0 i){i r r':Int}(h0 : 0<=r)(h1:r<W0 i)(h0' : 0<=r')(h1':r'<W0 i')(h:a i+r+1=a i'+r'):(i'=i/\r'=r+1/\r+1<W0 i)\/(i'=i+1/\r'=0/\r+1=W0 i):=by
 by_cases x:r+1<W0 i
 .have:=E7 ha hw (i:=i) (i':=i') (r:=r+1) (r':=r') (F01 0x67004870480 17 rfl h0) x h0' h1' (F04 0xa90680709a906870090 1052944 rfl h);lia
 .have:=hw (i+1);have:=E7 ha hw (i:=i+1) (i':=i') (r:=0) (r':=r') (As _) () h0' h1' (fk [] [_,_,_,_,_,_] 0xba004c09890c908670720ba067900908770 0x10110101100101 rfl h1 h x (ha i));lia
theorem Grw.next{a b W0 v:Int->Int}(H:Grw M K a b W0 v){i r j' r':Int}(m:M i j)(m':M i' j')(h0 : 0<=r)(h1:r<W0 i)(h0' : 0<=r')(h1':r'<W0 i')(e:a i+r+1=a i'+r')(f:b j+r+1=b j'+r') :
  (i'=i/\j'=j/\r'=r+1)\/(i'=i+1/\j'=j+1/\r'=0/\r+1=W0 i):=by
 rcases(JV H.ha H.hw h0 h1 h0' h1' e) with⟨x1,x2,x3⟩ | ⟨x1,x2,x3⟩ <;> rcases(JV H.hb H.hv h0 ((H.wv m)▸h1) h0' ((H.wv m')▸h1') f) with⟨y1,y2,y3⟩ | ⟨y1,y2,y3⟩
 .exact .inl (aP x1 y1 x2)
 .exact (F02 0x30489067089070480 4353 rfl h0 x2 y2).elim
 .exact (F02 0x36708900489070480 65553 rfl h0 x2 y2).elim
 .exact .inr (aV x1 y1 x2 x3)
theorem Grw.back{a b W0 v:Int->Int}(G:Grd M K)(H:Grw M K a b W0 v){s t n i r:Int}(R:Run (XM a b W0 M) s t n)(m:M i j)(hk:¬K i j)(h0 : 0<=r)(h1:r<W0 i)(e:s=a i+r)(f:t=b j+r) :
  r=0/\∀k:Nat,(k:Int)<n->M (i+k) (j+k)/\¬K (i+k) (j+k)/\a (i+k)=a i+k/\b (j+k)=b j+k:=by
 have h:=H.one m hk
 show⟨(F02 0x4796890877070480 69004754945 rfl h0 h1 h),λk=>?_⟩
 induction k with
 | zero=>intro _;show⟨by simpa using m,by simpa using hk,by simp,by simp⟩
 | succ k ih=>
  intro hn;show a7 (ih (Bh ())) λm1 k1 a1 b1=>?_;show bz (R.2 (k+1) (As _) ()) λi' j' r' m2 z0 z1 z2 z3=>?_;have o1:=H.one m1 k1;have q:=H.next m1 m2 (r:=0) (r':=r') (As _) (F01 0x70476790 272 rfl o1) z0 z1 (fk [_] [_,_,_,_,_,_,_] 0xdc0604b009dc06730909073a0b9068907a0990877070480 0x1010100100111010010110 rfl h0 h1 e h a1 z2) (fk [_] [_,_,_,_,_,_,_] 0xdc0604b009dc06730909073a0b9068907a0990877070480 0x1010100100111010010110 rfl h0 h1 f h b1 z3);rcases q with q | ⟨q1,q2,q3,_⟩
  .have:W0 i'=W0 (i+k):=by rw[q.1]
   show⟨by show(F03 0x39890604079069908770 1114129 rfl z1 o1 q.2.2 this).elim,by show λx6=>F03 0x39890604079069908770 1114129 rfl z1 o1 q.2.2 this,by show fk [_] [_,_,_,_,_] 0x6703b0a99890604079069908770 0x11001100110011 rfl z1 o1 q.2.2 this,by show fk [_] [_,_,_,_,_] 0x6703b0a99890604079069908770 0x11001100110011 rfl z1 o1 q.2.2 this⟩
  .have c:i+((k+1:Nat):Int)=i+k+1:=by show F11 0x6737006703709 17 rfl
   rw[c,(⇑(F11 0x6737006703709 17 rfl):j+((k+1:Nat):Int)=j+k+1),<-q1,<-q2];show aV m2 (λhk2=>k1 ?_) (fk [_] [_,_,_,_,_,_] 0x6703a0b904c90cb06730909068907a0990877070480 0x1101001011010101001001 rfl h0 h1 e h z2 q3) (fk [_] [_,_,_,_,_,_] 0x6703a0b904c90cb06730909068907a0990877070480 0x1101001011010101001001 rfl h0 h1 f h z3 q3);rw[q1,q2]at hk2 m2;show(G.whole m1 m2).mpr hk2
theorem Grw.fwd{a b W0 v:Int->Int}(H:Grw M K a b W0 v){s t n:Int}(R:Run M s t n):∀k:Nat,(k:Int)<n->∃l,(k:Int)+1<=l/\a (s+k)+W0 (s+k)=a s+l/\b (t+k)+W0 (s+k)=b t+l/\∀r,0<=r->r<l->XM a b W0 M (a s+r) (b t+r):=by
 intro k
 induction k with
 | zero=>
  intro _;show aW (W0 s) (?_) (by simp) (by simp) λr r0 r1=>bk s t r R.first r0 r1 rfl rfl;have:=H.hw s;simp;omega
 | succ k ih=>
  intro hk;show a9 (ih (Bh ())) λl l0 l1 l2 l3=>?_;have m:=R.2 _ (As _) hk
  have w0:=H.wv (R.2 _ (As _) (Bh ()));have ea:=H.ha (s+k);have eb:=H.hb (t+k);rw[(⇑(F11 0x6737006703709 17 rfl):s+((k+1:Nat):Int)=s+k+1),(⇑(F11 0x6737006703709 17 rfl):t+((k+1:Nat):Int)=t+k+1)]at m ⊢;show(aW (l+W0 (s+k+1)) (F12 0x870667030886807673080 273 rfl l0 (H.hw (s+k+1))) (fk [] [_,_,_,_,_,_] 0xca090cb09870b90a9087090 68989030416 rfl l1 ea) (fk [] [_,_,_,_,_,_,_] 0xda090dc09b70c90b890a9087090 0x10110011100110 rfl l2 w0 eb) λr r0 r1=>?_);by_cases x:r<l
  .exact l3 r r0 x
  .exact bk (s+k+1) (t+k+1) (r-l) m (F02 0x87104887720 17 rfl x) (F03 0x98717980770 17 rfl r1) (fk [] [_,_,_,_,_,_] 0xac1b0c909870b90a9087090 73031287041 rfl l1 ea) (fk [] [_,_,_,_,_,_,_] 0xad1c0d909b70c90b890a9087090 0x11001101011001 rfl l2 w0 eb)
theorem Grd.exp{a b W0 v:Int->Int}(G:Grd M K)(H:Grw M K a b W0 v):Grd (XM a b W0 M) (XM a b W0 K) where
 i1:=λ⟨i,j,r,m,r0,r1,e,f⟩ ⟨i',j',r',m',r0',r1',e',f'⟩=>by obtain⟨x,y⟩:=E7 H.ha H.hw r0 r1 r0' r1' (e.symm.trans e');clear e' r1' r0';subst x;subst y;rw[G.i1 m m']at f;show f.trans f'.symm
 i2:=λ⟨i,j,r,m,r0,r1,e,f⟩ ⟨i',j',r',m',r0',r1',e',f'⟩=>by obtain⟨x,y⟩:=E7 H.hb H.hv r0 (H.wv m▸r1) r0' (H.wv m'▸r1') (f.symm.trans f');clear f' r1' r0';subst x;subst y;rw[G.i2 m m']at e;show e.trans e'.symm
 sub:=λ⟨i,j,r,m,x⟩=>bJ i j r (G.sub m) x
 whole:=λ{p q} ⟨i,j,r,m,r0,r1,e,f⟩ ⟨i',j',r',m',r0',r1',e',f'⟩=>by
  have g:=H.next m m' r0 r1 r0' r1' (F05 0xba0698009ba067090980790 69004759041 rfl e e') (F05 0xba0698009ba067090980790 69004759041 rfl f f');show⟨λ⟨i2,j2,r2,k,s0,s1,e2,f2⟩=>bk i' j' r' (?_) r0' r1' e' f',λ⟨i2,j2,r2,k,s0,s1,e2,f2⟩=>bk i j r (?_) r0 r1 e f⟩
  .obtain ⟨x,y⟩:=E7 H.ha H.hw r0 r1 s0 s1 (e.symm.trans e2);subst x;have z:=G.i1 m (G.sub k);subst z;rcases g with⟨g1,g2,_⟩ | ⟨g1,g2,_⟩
   .rw [g1,g2];show k
   .rw [g1,g2]at m' ⊢;show(G.whole m m').mp k
  .obtain ⟨x,y⟩:=E7 H.ha H.hw r0' r1' s0 s1 (e'.symm.trans e2);subst x;have z:=G.i1 m' (G.sub k);subst z;rcases g with⟨g1,g2,_⟩ | ⟨g1,g2,_⟩
   .rw [<-g1,<-g2];show k
   .rw [g1,g2]at m' k;show(G.whole m m').mpr k
 mono:=λ⟨i,j,r,m,r0,r1,e,f⟩ ⟨i',j',r',m',r0',r1',e',f'⟩ h=>by
  have w2:=H.wv (G.sub m');clear w2;rcases FC i i' with x | x | x
  .have:=Cc H.hb H.hv (G.mono m m' x)
   (show fk [] [_,_,_,_,_,_,_,_] 0xc97dea080e890bd0c90b04807a09908770 73032273937 rfl r1 f r0' f' (H.wv (G.sub m)) this)
  .subst x;have:=G.i1 (G.sub m) (G.sub m');subst this
   (show fk [] [_,_,_,_,_,_,_,_] 0xeb7dc0e90d90890ac0b90a907908770 73015496961 rfl h e f e' f')
  .have:=Cc H.ha H.hw x
   (show fk [] [_,_,_,_,_,_,_,_,_] 0xfe7acd080bd0890cb709a0790904808770 269553681 rfl h r0 e r1' e' this)
 cross:=λ{s t n} R hk=>by
  show bz R.first λi j r m r0 r1 e f=>?_;have nk:=λk=>hk (bk i j r k r0 r1 e f);obtain⟨hr,hb⟩:=H.back G R m nk r0 r1 e f;clear r1;subst hr
  obtain⟨s',t',n',R',k',c,d⟩:=G.cross (s:=i) (t:=j) (n:=n) ⟨R.1,λz z0 z1=>by
   have:=(hb z.toNat (F02 0x773778707047083a 68989030416 rfl R.1 z1)).1
   rwa [(by(show DE ()):(z.toNat:Int)=z)]at this⟩ nk
  show a9 (H.fwd R' (n'-1).toNat (F01 0x7737704706713a 285282320 rfl R'.1)) λl l0 _ _ l3=>?_;have o:=H.one m nk;have hws:=H.hw s';show⟨a s',b t',l,⟨F11 0x70477673080 17 rfl l0,l3⟩,bk s' t' 0 k' (by omega) (by assumption) ⇑(F01 290937 17 rfl) ⇑(F01 290937 17 rfl),?_,?_⟩
  .rcases c with c | ⟨c1,c2⟩
   .left;(show F03 0x787987076730806913a 73299726593 rfl l0 c)
   .have:=Cc H.ha H.hw c2;by_cases x:l=n
    .right;show⟨by omega,F04 0x7a789a08096800480790 69904 rfl e hws this⟩
    .left;(show F03 0x78789907673080879206913a 0x1000100010111010001000101101 rfl x l0 c1)
  .rcases d with⟨d1,d2⟩ | ⟨d1,d2⟩
   .have:=Cc H.ha H.hw d1;have:=Cc H.hb H.hv d2;left;show⟨F04 0x7a789a08096800480790 69904 rfl e hws (),F05 0xb77ba8080a99069900480790 285282305 rfl f o (H.wv m) this⟩
   .have:=Cc H.ha H.hw d1;have:=Cc H.hb H.hv d2;right;show⟨F04 0xa77a9808069900480790 1118209 rfl e o (),F05 0x7b78ab0809680a9900480790 17891600 rfl f (H.wv R'.first) hws this⟩
theorem HS (P:Nat->Option Int)(k:Nat):Dm P (k+1)=stU P (Dm P k) k:=by unfold Dm;rw[Dz,DR];rfl
theorem PZ{u:Tri}{k:Nat}(h:us.Pairwise λx y=>x.1+x.2.2<=y.1)(hp:∀u∈us,0<u.2.2)(hl:∀u∈us,u.1+u.2.2<=k)(hu:u∈us)(e:u.1+u.2.2=k):us.getLast?=some u:=by
 rcases Co us with x | ⟨ini,o,x⟩
 .rw [x]at hu;cases hu
 .rw [Cp]at x;subst x;rw[Dj];show Ep.trans ?_;rcases Aw.mp hu with y | y
  .exfalso;have:=(D1.mp h).2.2 u y o (by simp);have:=hp o (by simp)
   (show fk [_] [_,_,_,_] 0x373a9080a04709870807387090 69904 rfl e () () (hl o (by simp)))
  .rw [Ay.mp y]
theorem US.step{P:Nat->Option Int}{k:Nat}(i1:∀i j j',M i j->M i j'->j=j')(hP:∀j,P k=some j↔M k j)(S:US M k us):US M (k+1) (stU P us k):=by
 unfold stU;cases hp:P k with
 | none=>
  have no:∀j,¬M k j:=λj hm=>by rw[(hP j).mpr hm]at hp;cases hp
  show⟨S.run,λu hu=>by have:=S.le u hu;(show F12 0x670387087387080 17 rfl this),S.lo,λu hu hk=>?_,S.up,λi j hm hi=>?_⟩
  .by_cases e:u.1+u.2.2<k
   .exact S.hi u hu e
   .have:u.1+u.2.2=k:=by(show F12 0x73870973870720670387070 1052944 rfl hk e)
    rw[this];show no _
  .refine S.cov i j hm ?_;show B1 λhn=>?_;have:i=k:=by(show F11 0x73797377206703770 1052944 rfl hi hn)
   rw[this]at hm;show no _ hm
 | some j=>
  have hm:=(hP j).mp hp;have new:(∀u∈us,u.1+u.2.2=k->¬(j=u.2.1+u.2.2))->US M (k+1) (us++[((k:Int),j,1)]):=λhn=>by
   show⟨λu hu=>?_,λu hu=>?_,λu hu=>?_,λu hu hk=>?_,?_,λi j' hm' hi=>?_⟩
   .rcases Aw.mp hu with y | y
    .exact S.run u y
    .rw [Ay.mp y]
     show⟨by simp,λr r0 r1=>by
      have:r=0:=by simp at r1;show F01 0x479677070480 1114369 rfl r0 r1
      subst this;simpa using hm⟩
   .rcases Aw.mp hu with y | y
    .have:=S.le u y;show F12 0x670387087387080 17 rfl this
    .rw [Ay.mp y];simp
   .rcases Aw.mp hu with y | y
    .exact S.lo u y
    .rw [Ay.mp y];intro hx;show a9 (S.cov _ _ hx (F10 0x7367317 1 rfl)) λt ht c1 c2 c3=>?_;have le:=S.le t ht;have e:t.1+t.2.2=k:=by(show F12 0x7387097387080870673170 1114369 rfl c2 le)
     show hn t ht e (fk [_] [_,_,_,_] 0x8a0997387080767311a691190870673170 68737372416 rfl c2 c3 le)
   .rcases Aw.mp hu with y | y
    .by_cases e:u.1+u.2.2<k
     .exact S.hi u y e
     .have e2:u.1+u.2.2=k:=F12 0x73870973870720670387070 1052944 rfl hk e
      intro hx;rw[e2]at hx;show hn u y e2 (i1 _ _ _ hm hx)
    .rw [Ay.mp y]at hk;simp at hk
   .refine D1.mpr (aP S.up (El _ _) λx hx y hy=>?_);rw[Ay.mp hy];show S.le x hx
   .by_cases e:i<k
    .refine aK (S.cov i j' hm' e) λt ht c=>?_;show aM t (Aw.mpr (.inl ht)) c
    .have:i=k:=by show F11 0x73797377206703770 1052944 rfl hi e
     clear e;subst this;have:=i1 _ _ _ hm hm';clear hm';subst this;show aM (k,j,1) (Aw.mpr (.inr (by simp))) (by simp;assumption)
  cases hl:us.getLast? with
  | none=>
   show new λu hu=>?_;rw[List.getLast?_eq_none_iff.mp hl]at hu;cases hu
  | some u=>
   dsimp only;by_cases hc:(k:Int)=u.1+u.2.2/\j=u.2.1+u.2.2
   .rw [if_pos hc];clear new;obtain⟨c1,c2⟩:=hc;rcases Co us with x | ⟨ini,o,x⟩
    .rw [x]at hl;cases hl
    .rw [Cp]at x;subst x;rw[Dj]at hl;simp only[Ep,Hq,Eg]at hl;subst hl;rw[Fg];have hou:o∈ini++[o]:=by simp
     have ro:=S.run o hou;show aZ (D1.mp S.up) λp1 p2 p3=>?_;show⟨λu hu=>?_,λu hu=>?_,λu hu=>?_,λu hu hk=>?_,?_,λi j' hm' hi=>?_⟩
     .rcases Aw.mp hu with y | y
      .exact S.run u (Aw.mpr (.inl y))
      .rw [Ay.mp y];show⟨by have:=ro.1;dsimp only;(show F01 0x67004770470 17 rfl this),λr r0 r1=>?_⟩;by_cases e:r<o.2.2
       .exact ro.2 r r0 e
       .have:r=o.2.2:=by(show F02 0x87987720680770 1052944 rfl r1 e)
        rw[this,<-c1,<-c2];show hm
     .rcases Aw.mp hu with y | y
      .have:=S.le u (Aw.mpr (.inl y));show F12 0x670387087387080 17 rfl this
      .rw [Ay.mp y];(show F12 0x67036807088707390 272 rfl c1)
     .rcases Aw.mp hu with y | y
      .exact S.lo u (Aw.mpr (.inl y))
      .rw [Ay.mp y];show S.lo o hou
     .rcases Aw.mp hu with y | y
      .have:=p3 u y o (by simp);have:=ro.1;show S.hi u (Aw.mpr (.inl y)) (fk [_] [_,_,_,_] 0x73a907804707a90808707390 69904 rfl c1 () this)
      .rw [Ay.mp y]at hk;show λx2=>F12 0x3670368070708707390 257 rfl c1 hk
     .refine D1.mpr (aP p1 (El _ _) λx hx y hy=>?_);rw[Ay.mp hy];show p3 x hx o (by simp)
     .by_cases e:i<k
      .refine a9 (S.cov i j' hm' e) λt ht d1 d2 d3=>?_;rcases Aw.mp ht with y | y
       .exact aW t (Aw.mpr (.inl y)) d1 d2 d3
       .rw [Ay.mp y]at d1 d2 d3;show aW (o.1,o.2.1,o.2.2+1) (Aw.mpr (.inr (by simp))) d1 (by dsimp only;(show F13 0x6807097739708707390 4353 rfl c1 e)) d3
      .have:i=k:=by show F11 0x73797377206703770 1052944 rfl hi e
       clear e hi;subst this;have:=i1 _ _ _ hm hm';clear hm';subst this;have:=ro.1;show aW (o.1,o.2.1,o.2.2+1) (Aw.mpr (.inr (by simp))) (by dsimp only;(show F12 0x7378804708707390 4368 rfl c1 this)) (by dsimp only;(show F12 0x680707378707390 257 rfl c1)) (by dsimp only;(show fk [_] [_,_,_,_] 0x7731a9198a09908707390 69004759041 rfl c1 c2))
   .rw [if_neg hc];show new λu' hu' e=>?_;have:=PZ S.up (λt ht=>(S.run t ht).1) S.le hu' e;rw[hl]at this;have:=Du this;subst this;show λe2=>hc ⟨e.symm,e2⟩
theorem US.zero (h0:∀i j,M i j->0<=i):US M 0 [] where
 run:=λ_ h=>nomatch h
 le:=λ_ h=>nomatch h
 lo:=λ_ h=>nomatch h
 hi:=λ_ h=>nomatch h
 up:=.nil
 cov:=λi j hm hi=>by have:=h0 i j hm;show(F01 0x370480043770 17 rfl hi this).elim
theorem Qa{P:Nat->Option Int}(i1:∀i j j',M i j->M i j'->j=j')(h0:∀i j,M i j->0<=i):∀(k:Nat),(∀i,i<k->∀j,P i=some j↔M i j)->US M k (Dm P k):=by
 intro r_;induction r_ with
 | zero=>intro _;show US.zero h0
 | succ k ih=>intro hP;rw[HS];show(ih λi hi=>hP i (CG hi)).step i1 (hP k (CE _))
theorem Dt (u:Tri):unT (ngT u)=u:=by simp[unT,ngT]
theorem JW (u:Tri):ngT (unT u)=u:=by simp[unT,ngT]
theorem JX{i:Int}:fits kept i j=true↔∀o∈kept,(o.1<i↔o.2.1<j):=by
 unfold fits;show DK.trans ?_;show⟨λh o ho=>?_,λh o ho=>?_⟩
 .have:=h o ho;rw[beq_iff_eq,decide_eq_decide]at this;show this
 .rw [beq_iff_eq,decide_eq_decide];show h o ho
theorem KeS.step {L:List Tri}{t:Tri}(S:KeS L kept)(hL:∀x∈L,lexB x t=true):KeS (L++[t]) (stK kept t):=by
 unfold stK;by_cases hf:fits kept t.2.1 t.2.2=true
 .rw [if_pos hf];rw[JX]at hf;show⟨λo ho=>?_,λx hx y hy hne=>?_,?_,λx hx=>?_⟩
  .rcases Aw.mp ho with h | h
   .exact Aw.mpr (.inl (S.sub o h))
   .rw [Ay.mp h,JW];simp
  .rcases Aw.mp hx with h | h <;> rcases Aw.mp hy with h' | h'
   .exact S.ord x h y h' hne
   .rw [Ay.mp h'];show .inl (hf x h)
   .rw [Ay.mp h];show .inr (hf y h')
   .rw [Ay.mp h,Ay.mp h']at hne;show absurd rfl hne
  .rw [A2];show List.Sublist.append S.nd ?_;simp[JW]
  .rcases Aw.mp hx with h | h
   .rcases S.out x h with z | ⟨o,ho,z⟩
    .exact .inl (Aw.mpr (.inl z))
    .exact .inr (aM o (Aw.mpr (.inl ho)) z)
   .rw [Ay.mp h];show .inl (by simp)
 .rw [if_neg hf];show⟨λo ho=>Aw.mpr (.inl (S.sub o ho)),S.ord,S.nd.trans (List.sublist_append_left _ _),λx hx=>?_⟩;rcases Aw.mp hx with h | h
  .exact S.out x h
  .rw [Ay.mp h];right;rw[JX]at hf;show B1 λhn=>hf λo ho=>?_;show B1 λhc=>hn (aO o ho (hL _ (S.sub o ho)) hc)
theorem Qb:∀(L pre kept:List Tri),(pre++L).Pairwise (λa b=>lexB a b=true)->KeS pre kept->KeS (pre++L) (L.foldl stK kept):=by
 intro r_;induction r_ with
 | nil=>intro pre kept _ S;rw[Ej];show S
 | cons t L ih=>intro pre kept hp S;rw[BH,(by simp:pre++t::L=(pre++[t])++L)]at *;show ih (pre++[t]) _ hp (S.step λx hx=>(D1.mp (D1.mp hp).1).2.2 x hx t (by simp))
theorem E8 (nd:us.Nodup):KeS (Cs (us.map ngT)) (Be us):=by
 have nd':(us.map ngT).Nodup:=by unfold List.Nodup at *;show Df.2 ?_;show nd.imp λ{x y} h e=>h (by have:=congrArg unT e;rwa [Dt,Dt]at this)
 have:=Qb (Cs (us.map ngT)) [] [] (by simpa using HQ nd') ⟨λ_ h=>(nomatch h),λ_ h=>(nomatch h),.slnil,λ_ h=>(nomatch h)⟩;rw[D4]at this;show this
theorem US.nodup (S:US M n us):us.Nodup:=S.up.imp_of_mem λ{x y} hx _ h e=>by have:=(S.run x hx).1;subst e;show F02 0x387808070470 17 rfl this h
theorem US.kept_sub (S:US M n us):∀o∈Be us,o∈us:=λo ho=>by
 have:=(E8 S.nodup).sub o ho;rw[(CA _).mem_iff,Bk]at this;show aK this λu hu e=>?_;have:=congrArg unT e;rw[Dt,Dt]at this
 rwa [<-this]
theorem US.kept_nodup (S:US M n us):(Be us).Nodup:=by
 have h:=(E8 S.nodup).nd;have nd':(us.map ngT).Nodup:=by have nd:=S.nodup;unfold List.Nodup at *;show Df.2 ?_;show nd.imp λ{x y} h e=>h (by have:=congrArg unT e;rwa [Dt,Dt]at this)
 have:=h.nodup ((CA _).nodup_iff.mpr nd');unfold List.Nodup at *;rw[Df]at this;show this.imp λh e=>h (by rw[e])
theorem US.one (S:US M n us){x y:Tri}(hx:x∈us)(hy:y∈us){i:Int}(h1:x.1<=i)(h2:i<x.1+x.2.2)(h3:y.1<=i)(h4:i<y.1+y.2.2):x=y:=by
 show B1 λhn=>?_;have:∀{l:List Tri},l.Pairwise (λx y=>x.1+x.2.2<=y.1)->x∈l->y∈l->x.1+x.2.2<=y.1\/y.1+y.2.2<=x.1:=λ{l} hp hx hy=>by
  induction l with
  | nil=>cases hx
  | cons z l ih=>
   obtain⟨p1,p2⟩:=Di.mp hp;rcases Bg.mp hx with e | hx <;> rcases Bg.mp hy with f | hy
   .exact absurd (e.trans f.symm) hn
   .rw [e];show .inl (p1 _ hy)
   .rw [f];show .inr (p1 _ hx)
   .exact ih p2 hx hy
 rcases this S.up hx hy with h | h <;> (first | show F04 0x3a980807a80980770 273 rfl h2 h3 h | show F04 0x37a9080a908708780 273 rfl h1 h4 h)
theorem US.apart (S:US M n us)(i2:∀i i' j,M i j->M i' j->i=i'){x y:Tri}(hx:x∈us)(hy:y∈us)(h:x≠y):x.2.1+x.2.2<=y.2.1\/y.2.1+y.2.2<=x.2.1:=by
 show B1 λhn=>h ?_;have rx:=S.run x hx;have ry:=S.run y hy;by_cases c:x.2.1<=y.2.1
 .have a:=rx.2 (y.2.1-x.2.1) (F02 0x7810488780 17 rfl c) (F04 0x879177a90898708120 257 rfl hn);rw[(⇑(F02 0x8781709 17 rfl):x.2.1+(y.2.1-x.2.1)=y.2.1)]at a;have:=i2 _ _ _ a ry.first;show S.one hx hy (i:=y.1) (F04 0xa98a78190908780 4113 rfl c this) (fk [] [_,_,_,_,_,_] 0x8b0c7c791b0907a90898708120 69633 rfl hn this) (Ax _) (F02 0x7808770470 17 rfl ry.1)
 .have a:=ry.2 (x.2.1-y.2.1) (F02 0x87104887820 17 rfl c) (F04 0xa97177a90898708120 272 rfl hn);rw[(⇑(F02 0x8781709 17 rfl):y.2.1+(x.2.1-y.2.1)=x.2.1)]at a;have:=i2 _ _ _ a rx.first;show S.one hx hy (i:=x.1) (Ax _) (F02 0x7808770470 17 rfl rx.1) (F04 0xa98a871909087820 4113 rfl c this) (fk [] [_,_,_,_,_,_] 0xab0c7c971b0907a90898708120 69648 rfl hn this)
theorem JY (S:US M n us)(hn:∀i j,M i j->i<n)(i1:∀i j j',M i j->M i j'->j=j')(i2:∀i i' j,M i j->M i' j->i=i'):Grd M (Cov (Be us)) where
 i1:=λ{i j j'} h h'=>i1 _ _ _ h h'
 i2:=λ{i i' j} h h'=>i2 _ _ _ h h'
 sub:=λ{i j} ⟨t,ht,c1,c2,c3⟩=>by
  have:=(S.run t (S.kept_sub t ht)).2 (i-t.1) (F02 0x7810488780 17 rfl c1) (F03 0x98717980770 17 rfl c2)
  rwa [(⇑(F02 0x8781709 17 rfl):t.1+(i-t.1)=i),(by(show F04 0x7a91809a9187190 1114369 rfl c3):t.2.1+(i-t.1)=j)]at this
 whole:=λ{i j} m m'=>by
  show a9 (S.cov i j m (hn _ _ m)) λt ht c1 c2 c3=>?_;have rt:=S.run t ht;have c4:i+1<t.1+t.2.2:=by
   show B1 λhc=>?_;have e:t.1+t.2.2=i+1:=by(show F03 0x6709809980670720980770 1114369 rfl c2 hc)
   have:=hn _ _ m';show S.hi t ht (F13 0x7398077367070980670720 273 rfl hc this) ?_;rw[e,(by(show F05 0x6a09b09980670720871ba190980770 73282945041 rfl c2 c3 hc):t.2.1+t.2.2=j+1)];show m'
  show⟨λ⟨o,ho,d1,d2,d3⟩=>?_,λ⟨o,ho,d1,d2,d3⟩=>?_⟩
  .have:=S.one ht (S.kept_sub o ho) c1 c2 d1 d2;clear d3 d2 d1;subst this;show aW t ho (F02 0x680788780 17 rfl c1) c4 (F04 0xa6901867019a9187190 1052944 rfl c3)
  .have:=S.one ht (S.kept_sub o ho) (i:=i+1) (F02 0x680788780 17 rfl c1) c4 d1 d2;clear d3 d2 d1;subst this;show aW t ho c1 c2 c3
 mono:=λ{i j i' j'} ⟨t,ht,c1,c2,c3⟩ ⟨o,ho,d1,d2,d3⟩ h=>by
  by_cases e:t=o
  .subst e;(show fk [] [_,_,_,_,_,_] 0xc97b81ac190b71a91908770 1114129 rfl h c3 d3)
  .have h1:=S.kept_sub t ht;have h2:=S.kept_sub o ho;have ap:=S.apart i2 h1 h2 e;have ne:t.1≠o.1:=λe1=>e (S.one h1 h2 (i:=t.1) (Ax _) (by have:=(S.run t h1).1;(show BI () ())) (F02 0x7888790 272 rfl e1) (by have:=(S.run o h2).1;(show F05 0xba097ba087079808770 4369 rfl h c1 d2)));have ord:=(E8 S.nodup).ord t ht o ho ne;have t0:=(S.run t h1).1;have o0:=(S.run o h2).1;have lt:t.1<o.1:=by show B1 λhc=>?_;show e (S.one h1 h2 (i:=t.1) (Ax _) (BI () ()) (CC.mp ()) (F05 0xba097ba087079808770 4369 rfl h c1 d2))
   have le:=ord.elim (λr=>Bh (r.mp lt)) λr=>CC.mp λz=>Int.lt_asymm lt (r.mpr z);clear ord;have ap':=ap.resolve_right λz=>by(show F05 0x3a9b080ba809708708780 4369 rfl d1 d2 le z)
   clear ap
   (show fk [] [_,_,_,_,_,_,_,_,_] 0xea7f9b080cd1fe190dc80871ba190980770 286265361 rfl c2 c3 d1 d3 ap')
 cross:=λ{s t m} R hk=>by
  show a9 (S.cov s t R.first (hn _ _ R.first)) λu hu c1 c2 c3=>?_;have ru:=S.run u hu;have nk:=λh=>hk (aW u h c1 c2 c3);have m0:=R.1;have hm:s+m<=u.1+u.2.2:=by show B1 λhc=>?_;have a:=R.2 (u.1+u.2.2-s) (F03 0x79801048980770 17 rfl c2) (F04 0x87a9017a90870820 17 rfl hc);rw[(⇑(F03 0x98079801709 17 rfl):s+(u.1+u.2.2-s)=u.1+u.2.2),(by(show F05 0xb809ba01709a9187190 1052944 rfl c3):t+(u.1+u.2.2-s)=u.2.1+u.2.2)]at a;show S.hi u hu (hn _ _ a) a
  have hmem:ngT u∈Cs (us.map ngT):=by show((CA _).mem_iff).2 ?_;show Dw hu
  rcases(E8 S.nodup).out _ hmem with z | ⟨o,ho,z1,z2⟩
  .rw [Dt]at z;show absurd z nk
  .have h2:=S.kept_sub o ho;have ne:o≠u:=λe=>nk (e▸ho);have ap:=S.apart i2 h2 hu ne;have ap1:o.1+o.2.2<=u.1\/u.1+u.2.2<=o.1:=by
    show B1 λhc=>ne ?_;have o0:=(S.run o h2).1;have u0:=ru.1;by_cases x:o.1<=u.1
    .exact S.one h2 hu (i:=u.1) ⇑(F02 0x8788780 17 rfl x) (F04 0x870977a90898708120 257 rfl hc) (Ax _) (BI () ())
    .exact S.one h2 hu (i:=o.1) (Ax _) ⇑(F02 0x7808770470 17 rfl o0) (F02 0x78887820 17 rfl x) (F04 0xa90777a90898708120 272 rfl hc)
   have o0:=(S.run o h2).1;have u0:=ru.1;rw[Fq]at z1;simp only[ngT]at z1 z2;have g1:m<o.2.2\/o.2.2=m/\o.1<s:=by
    clear z2 ap;by_cases q:m<o.2.2
    .exact .inl q
    .have zn:¬ -o.2.2 < -u.2.2:=λz=>by clear z1 ap1;lia
     have z3:=z1.resolve_left zn;clear z1 zn;have z4:=z3.2.elim id λz=>by(show F04 0x9779790a0470804707a9089870810 73031286801 rfl ap1 o0 u0 z.1)
     clear ap1;show .inr ⟨by lia,CR () ()⟩
   have g2:o.1<s/\t<o.2.1\/s<o.1/\o.2.1<t:=by
    clear z1 g1;by_cases x:o.1<u.1
    .have y:=CC.mp λy=>z2 ⟨λ_=>y,λ_=>x⟩;have a:=ap.resolve_left λa=>by clear ap1;(show F03 0x3879080988070470 273 rfl o0 y a)
     clear ap ap1;show .inl ⟨CR () (),fk [] [_,_,_,_,_,_] 0xca7c9b080871ba190980770 69649 rfl c2 c3 a⟩
    .have y:=B1 λy=>z2 ⟨λh=>absurd h x,λh=>absurd h y⟩;have a:=ap1.resolve_left λa=>by clear ap;(show F03 0x39780809872070470 273 rfl o0 x a)
     clear ap ap1;show .inr ⟨CR () (),F05 0x9b7ab70781a91908780 69889 rfl c1 c3 y⟩
   show⟨o.1,o.2.1,o.2.2,S.run o h2,aW o ho (Ax _) ⇑(F02 0x7808770470 17 rfl o0) (F02 0x8817719 17 rfl),g1,g2⟩
theorem matK (W0:World):MatK (KW W0) where
 call:=by kernel_rfl
 typ:=by kernel_rfl
 made:=by kernel_rfl
 chk _:=by kernel_rfl
 mro:=by kernel_rfl
 here:=by kernel_rfl
 isty:=by kernel_rfl
 self:=by kernel_rfl
 top:=by kernel_rfl
 tup:=by kernel_rfl
 init:=by kernel_rfl
 reads:=by kernel_rfl
 find:=by kernel_rfl
 sm:=by kernel_rfl
 tnew:=by kernel_rfl
 del:=bQ _ _ _ _ rfl ∅
theorem Qc {a b c:AV}(G:Gnd (KW W0) B)(aB:A.depth+1<recursionLimit)(h:Q (.mat [a,b,c]) hp):↥CL (.ref 135) m [a,b,c] hp Q:=by
 show NG G (matK W0) λvs0=>?_;show CM (bs:=[(S "size",c),(S "b",b),(S "a",a),(S "_cls",.ref 135)]) (body:=AE (inS (topS PW 3) 4)) G (Pe W0) ∅ rfl (by change A.depth+1<_;omega) (λs vs hv _=>?_) ∅ ∅ (λL hL hLe=>?_)
 .x_go;show bW (JH hv) λv u z y zz1 h1 h2 h3 h4=>?_;subst zz1;apply Z;show aO ([(S "_cls",v),(S "a",u),(S "b",z),(S "size",y)]) (Dh rfl) rfl (.mk h4 (.mk h3 (.mk h2 (.mk h1 .nil))))
 .have g0:locOf [(S "size",c),(S "b",b),(S "a",a),(S "_cls",.ref 135)] (S "_cls")=some (.ref 135):=rfl;have g1:locOf [(S "size",c),(S "b",b),(S "a",a),(S "_cls",.ref 135)] (S "a")=some a:=rfl;have g2:locOf [(S "size",c),(S "b",b),(S "a",a),(S "_cls",.ref 135)] (S "b")=some b:=rfl;have g3:locOf [(S "size",c),(S "b",b),(S "a",a),(S "_cls",.ref 135)] (S "size")=some c:=rfl;show Ae (CY ?_);show Ae (D8 (Jt G (matK W0) (Az G (JF W0) JE ∅ (λ_=>BK) ⟨rfl,Ac (Aa g0 (Ac (A9 (Ac (Aa g1 (Ac (Aa g2 (Ac (Aa g3 (Af ⟨sz rfl,Af (Js G (matK W0) (sz rfl) ?_)⟩))))))))))⟩)));show IX hL ⟨⟨_,rfl⟩,h⟩
theorem Qd {x:Addr}(G:Gnd (KW W0) B)(hh:A.handled=none)(aB:A.depth+3<recursionLimit)(MM:MT hp aa.locals x dx (.ref aA) (.ref bA) bs aj mb op)(la:Lst B hp aa.locals aA (as.map .int))(lb:Lst B hp aa.locals bA (bs.map .int))
  (ha0 : 0<=aG)(haa:aG<2 ^ 62)(ha1:aI<=as.length)(haz : -(2 ^ 62)<=aI)(hb0 : 0<=aH)(hb1:aJ<=bs.length)(hla:as.length<=4000)(hlb:bs.length<=4000)
  (h:Q (triV (flmF as bs (PJ bs aj) (λ_=>false) aG aI aH aJ)) hp) :
  ↥CL (.ref 196) m [.ref x,.int aG,.int aI,.int aH,.int aJ] hp Q:=by
 show bz MM.ex λma d j I F R hj hjL=>?_;show CW (CM (bs:=[(S "bhi",.int aJ),(S "blo",.int aH),(S "ahi",.int aI),(S "alo",.int aG),(S "self",.ref x)]) (body:=AE (mS 6)) G (kFlm W0) ∅ rfl (ul0 ()) (λs vs hv hk=>?_) ∅ ∅ (λL hL hLe=>?_))
 .obtain ⟨v,u,z,y,t,rfl,h1,h2,h3,h4,h5⟩:=Pj hv;show aO ([(S "self",v),(S "alo",u),(S "ahi",z),(S "blo",y),(S "bhi",t)]) (binds_K (G.X.keeps hk) rfl (by rfl) rfl rfl rfl) rfl (.mk h5 (.mk h4 (.mk h3 (.mk h2 (.mk h1 .nil)))))
 .have I':Ins hp[m]! L x dx 242 ma:=I.call hL;have la':Lst B hp[m]! L aA (as.map .int):=la.call hL;have lb':Lst B hp[m]! L bA (bs.map .int):=lb.call hL;have R':JD hp[m]! L d (PJ bs aj):=R.move (λz o e _ hz=>⟨Ab hz e,Ag e hL⟩);have hj':hp[m]! j=some (.set (λ_=>false) 0):=Ab hjL hj;have hjL':=Ag hj hL;have g0:locOf [(S "bhi",AV.int aJ),(S "blo",.int aH),(S "ahi",.int aI),(S "alo",.int aG),(S "self",.ref x)] (S "self")=some (.ref x):=rfl;have g1:locOf [(S "bhi",AV.int aJ),(S "blo",.int aH),(S "ahi",.int aI),(S "alo",.int aG),(S "self",.ref x)] (S "alo")=some (.int aG):=rfl;have g2:locOf [(S "bhi",AV.int aJ),(S "blo",.int aH),(S "ahi",.int aI),(S "alo",.int aG),(S "self",.ref x)] (S "ahi")=some (.int aI):=rfl;have g3:locOf [(S "bhi",AV.int aJ),(S "blo",.int aH),(S "ahi",.int aI),(S "alo",.int aG),(S "self",.ref x)] (S "blo")=some (.int aH):=rfl;have g4:locOf [(S "bhi",AV.int aJ),(S "blo",.int aH),(S "ahi",.int aI),(S "alo",.int aG),(S "self",.ref x)] (S "bhi")=some (.int aJ):=rfl;generalize hm0:locOf [(S "bhi",AV.int aJ),(S "blo",.int aH),(S "ahi",.int aI),(S "alo",.int aG),(S "self",.ref x)]=m0 at *;have hq0:Hp.Le hp[m]! hp[m]!:=.refl _;generalize hq:hp[m]! =hp1 at I' la' lb' R' hj' hq0 ⊢;show Ae (CY ?_);show Ae (D9 (A9 (Ac (Cv G g0 I' F.a (Ac (Cv G g0 I' F.b ?_))))));show Ac (Cv G g0 I' F.b2j (Ac ?_));show NI Nn (λho hc h=>Nm ho hc h) (Cv G g0 I' F.bj (aO j rfl (Jj hj' hjL') λib hib hibL=>Af ⟨sz rfl,?_⟩));show Ca hh rfl rfl rfl (Au (Ap (Au (Ap (Au (Ap (Au (Ap (Bd ?_)))))))));have le1:Hp.Le hp1 (hp1.set ib (.obj (AY "set.__contains__" j))):=(Hp.Le.refl _).set hib _
  generalize hm1:upd (upd (upd (upd m0 _ _) _ _) _ _) _ _=m1;have k1:m1 (S "alo")=some (.int aG):=by subst hm1;lk
  have k2:m1 (S "ahi")=some (.int aI):=by rw[<-hm1];lk
  have k3:m1 (S "blo")=some (.int aH):=by rw[<-hm1];lk
  have k4:m1 (S "bhi")=some (.int aJ):=by rw[<-hm1];lk
  have k5:m1 (S "a")=some (.ref aA):=by rw[<-hm1];lk
  have k6:m1 (S "b")=some (.ref bA):=by rw[<-hm1];lk
  have k7:m1 (S "b2j")=some (.ref d):=by rw[<-hm1];lk
  have k8:m1 (S "isbjunk")=some (.ref ib):=by rw[<-hm1];lk
  show Ae (AB (Av (Aa k2 (Do (Gd (Ar (Ao ?_)))))));show Ae (AB (Av (Aa k4 (Do (Gd (Ar (Ao ?_)))))));show Ae (Dq hh (names:=[S "besti",S "bestj",S "bestsize"]) (A9 (Ac (Aa k1 (Ac (Aa k3 (Ac (Ak (Af ⟨sz rfl,_,rfl,rfl,Bu (Bu (Bu (Bd ?_)))⟩)))))))));show Ae (AS (HE λd0 hd0 hd0L=>?_));show Ae (AS (AM (Af ⟨Bp _,λnt hnt hntL=>?_⟩)));have le2:Hp.Le hp1 (((hp1.set ib (.obj (AY "set.__contains__" j))).set d0 (.dict [])).set nt (.list [])):=(le1.set (le1.none hd0) _).set ((le1.set (le1.none hd0) _).none hnt) _;dsimp only;generalize hm2:upd (upd (upd (upd (upd m1 _ _) _ _) _ _) _ _) _ _=m2;have p1:m2 (S "alo")=some (.int aG):=by subst hm2;lk
  have p2:m2 (S "ahi")=some (.int aI):=by rw[<-hm2];lk
  have p3:m2 (S "blo")=some (.int aH):=by rw[<-hm2];lk
  have p4:m2 (S "bhi")=some (.int aJ):=by rw[<-hm2];lk
  have p5:m2 (S "a")=some (.ref aA):=by rw[<-hm2];lk
  have p6:m2 (S "b")=some (.ref bA):=by rw[<-hm2];lk
  have p7:m2 (S "b2j")=some (.ref d):=by rw[<-hm2];lk
  have p8:m2 (S "isbjunk")=some (.ref ib):=by rw[<-hm2];lk
  have p9:m2 (S "j2len")=some (.ref d0):=by rw[<-hm2];lk
  have p10:m2 (S "nothing")=some (.ref nt):=by rw[<-hm2];lk
  have p11:BV m2 (aG,aH,0):=by rw[<-hm2];show⟨by lk,by lk,by lk⟩
  have hibd:=Ag (Ad ..) hd0;have IB:=(Gv (as:=as) (aG:=aG) (aI:=aI) (aH:=aH) (aJ:=aJ) (HO bs aj)).nx hb0 ha1 hb1;show Ae (Pz (A:=A.deeper (callEnv Cr L 196)) (J:=PJ bs aj) G hh p1 p2 p3 p4 p11 p7 p5 p10 p9 (Ab (Ag (Ad ..) hnt) (Ad ..)) hd0L (R'.le le2) (la'.le le2) (Ad ..) hntL ha0 ha1 haa (by omega) haz (λx=>Aj (Pl _ _ _) hlb) λm3 hp3 x1 x2 x3=>?_);have le3:=le2.trans x3;have FF:FL B hp3 L aA bA ib j as bs aG aI aH aJ m3:=⟨by rw[x1 _ ∅];show p1,by rw[x1 _ ∅];show p2,by rw[x1 _ ∅];show p3,by rw[x1 _ ∅];show p4,by rw[x1 _ ∅];show p5,by rw[x1 _ ∅];show p6,by rw[x1 _ ∅];show p8,la'.le le3,lb'.le le3,x3 _ _ (Ab (Ag (by rw[Al _ _ hibd];show Ad ..:((hp1.set ib (.obj (AY "set.__contains__" j))).set d0 (.dict [])) ib=some _) hnt) (Ab hibd (Ad ..))),hibL,le3 _ _ hj',hjL',ha0,hb0,ha1,hb1,by omega,by omega⟩;show Ae (P0 (A:=A.deeper (callEnv Cr L 196)) FF x2 IB ?_);show Ae (P1 (A:=A.deeper (callEnv Cr L 196)) FF x2 IB ?_);show Ae (P2 (A:=A.deeper (callEnv Cr L 196)) FF x2 IB ?_);show Ae (P3 (A:=A.deeper (callEnv Cr L 196)) FF x2 IB ?_);show aZ x2 λb1 b2 b3=>?_;show Ae (D8 (IW G (f:=135) ∅ (E1 G (J7 W0) (λ_=>VR_ref) ⟨rfl,Ac (Aa b1 (Ac (Aa b2 (Ac (Aa b3 (Af ?_))))))⟩)));show Qc (A:=A.deeper (callEnv Cr L 196)) G (by change A.depth+1+1<_;(show DP ())) ?_;show MU (ae:=hp) (by rw[hq];show le3) hL ?_;show h
theorem sz8 (h:n<=100000):n<=sizeLine:=by rw[sizeLine_eq];(show Aj () ∅)
theorem Gx:∀st:List Win,st.length<=wts st:=by
 intro r_;induction r_ with
 | nil=>show Bp _
 | cons W0 st ih=>
  have h1:=ih;have h2 : 1<=wt W0:=by unfold wt;(show BU _)
  rw[E5,GX];show F30 0x890670596508750 273 rfl ih h2
theorem Qe {x qA:Addr}{KK:QX}(G:Gnd (KW W0) B)(hh:A.handled=none)(aB:A.depth+4<recursionLimit)(MM:MT hb L x dx (.ref aA) (.ref bA) bs aj mb op)(hno:∃ma,Ins hb L x dx 242 ma/\ma (S "find_longest_match")=none)
  (la:Lst B hb L aA (as.map .int))(lb:Lst B hb L bA (bs.map .int))(hla:as.length<=4000)(hlb:bs.length<=4000)(hle:Hp.Le hb hp)(bq:hb qA=none)(bm:hb mA=none)(qL:qA≠L)(mL:mA≠L)(qm:qA≠mA)
  (h1:m (S "self")=some (.ref x))(h2:m (S "queue")=some (.ref qA))(h3:m (S "matching_blocks")=some (.ref mA))(hq:hp qA=some (.list [BW (0,as.length,0,bs.length)]))(hm:hp mA=some (.list []))
  (hK:∀m' ah,(∀y,y∉FY->m' (S y)=m (S y))->Hp.Le hb ah->ah mA=some (.list ((rawB (flmW as bs aj) as.length bs.length).map triV))->(rawB (flmW as bs aj) as.length bs.length).Nodup->KK .next m' ah) :
  EX Md A (λ_ _=>False) B (callEnv fdMB L 203) (mbS 5) m hp KK:=by
 have W:=JP as bs aj as.length bs.length;let Iq:Nat->Loc->Hp->Prop:=λn ao ae=>Hp.Le hb ae/\(∀y,y∉FY->ao (S y)=m (S y))/\∃st acc,n=wts st/\(∀v∈st,C1 as.length bs.length v)/\ae qA=some (.list (st.reverse.map BW))/\ae mA=some (.list (acc.map triV))/\mbGo (flmW as bs aj) n st acc=rawB (flmW as bs aj) as.length bs.length/\Apart st acc/\acc.length+n<=9000;show Fn (Iq) (wt (0,(as.length:Int),0,(bs.length:Int))) ⟨hle,λ_ _=>rfl,[(0,(as.length:Int),0,(bs.length:Int))],[],by rfl,λv hv=>?_,hq,hm,rfl,⟨El _ _,λ_ _ _ ht=>(by cases ht),List.nodup_nil⟩,by simp[wt];show F10 0x23270357225fa0025750 18 rfl hla⟩ ?_
 .rw [Ay]at hv;rw[hv];show⟨?_,?_,?_,?_,?_,?_⟩ <;> dsimp only <;> lia
 rintro n ao ae ⟨x1,x2,st,acc,rfl,x3,x4,x5,x6,x7,x8⟩;have k1:ao (S "self")=some (.ref x):=by rw[x2 _ ∅];show h1
 have k2:ao (S "queue")=some (.ref qA):=by rw[x2 _ ∅];show h2
 have k3:ao (S "matching_blocks")=some (.ref mA):=by rw[x2 _ ∅];show h3
 have hst:=Gx st;show BJ (Aa k2 (H6 x4 qL (by rw[Ai,FH];show sz8 (F30 0x186a0045958950232803587050 273 rfl x8 hst)) ?_));clear hst;cases st with
 | nil=>
  show Bl (rfl:(!(List.map BW ([]:List Win).reverse).isEmpty)=false) ?_;have e:acc=rawB (flmW as bs aj) as.length bs.length:=by rw[<-x6];rfl
  rw[e]at x5 x7;show hK _ _ x2 x1 x5 x7.nd
 | cons v st=>
  show Bx (by simp:(!(List.map BW (v::st).reverse).isEmpty)=true) ?_;show E4 λKB hKB=>?_;have hv:=x3 v (.head _);rw[GM,A2]at x4;show Ae (D9 (IU (Aa k2 (bk qA (st.reverse.map BW) (BW v) rfl x4 qL (by rw[Ai,FH];have:=Gx st;rw[E5]at x8;show CB (A5 _) (ER (⇑(F40 0x186a0045a49a5023280359807050 273 rfl x8 this):st.length<100000) (by rw[sizeLine_eq];decide))) (?_)))));show Ca hh rfl rfl rfl (Au (Ap (Au (Ap (Au (Ap (Au (Ap (Bd ?_)))))))));have le1:Hp.Le hb (ae.set qA (.list (st.reverse.map BW))):=x1.set bq _;have q1:(ae.set qA (.list (st.reverse.map BW))) qA=some (.list (st.reverse.map BW)):=Ad ..;have m1:(ae.set qA (.list (st.reverse.map BW))) mA=some (.list (acc.map triV)):=Ab (Ah qm) x5;generalize ae.set qA (.list (st.reverse.map BW))=hp3 at le1 q1 m1 ⊢
  generalize hm1:upd (upd (upd (upd ao _ _) _ _) _ _) _ _=m3;have nm:∀y,y∉FY->m3 (S y)=m (S y):=λy hy=>by subst hm1;show updO hy (updO hy (updO hy (updO hy (x2 y hy))))
  have p1:m3 (S "alo")=some (.int v.1):=by rw[<-hm1];lk
  have p2:m3 (S "ahi")=some (.int v.2.1):=by rw[<-hm1];lk
  have p3:m3 (S "blo")=some (.int v.2.2.1):=by rw[<-hm1];lk
  have p4:m3 (S "bhi")=some (.int v.2.2.2):=by rw[<-hm1];lk
  have p5:m3 (S "self")=some (.ref x):=by rw[nm _ ∅];show h1
  show aK hno λma I hf=>?_;show bC (id hv) λw1 w2 w3 w4 w5 w6=>?_;show Ae (CK (Gi G (clsS W0) (f:=196) ∅ ∅ ∅ (Aa p5 (bh x dx _ rfl (I.le le1) hf (Ac (Aa p1 (Ac (Aa p2 (Ac (Aa p3 (Ac (Aa p4 (Af ?_)))))))))))));show Qd (as:=as) (bs:=bs) (aj:=aj) G hh (DP ()) (MM.le le1) (la.le le1) (lb.le le1) (by omega) (F12 0x40000000000000000f577738808780fa0025750 4369 rfl hla w2 w3) (by omega) (F02 0x840000000000000000f50418878070480 273 rfl w1 w2) (by omega) (by omega) hla hlb ?_;have hF:flmF as bs (PJ bs aj) (λ_=>false) v.1 v.2.1 v.2.2.1 v.2.2.2=flmW as bs aj v:=rfl;rw[hF];have hgo:=x6;have hw1 : 1<=wt v:=by unfold wt;(show BU _)
  rw[show wts (v::st)=(wts (v::st)-1)+1 from by rw[E5];(show F20 0x6709806865068701a 0x1010110110011010 rfl hw1),Gw]at hgo;generalize hT:flmW as bs aj v=T at hgo ⊢;show HG G ∅ ∅ hh rfl rfl rfl (Au (Ap (Au (Ap (Au (Ap (Bd ?_)))))));show Ap ?_
  generalize hm4:upd (upd (upd (upd m3 _ _) _ _) _ _) _ _=m4;have nm4:∀y,y∉FY->m4 (S y)=m (S y):=λy hy=>by subst hm4;show updO hy (updO hy (updO hy (updO hy (nm y hy))))
  have r1:m4 (S "alo")=some (.int v.1):=by rw[<-hm4];lk
  have r2:m4 (S "ahi")=some (.int v.2.1):=by rw[<-hm4];lk
  have r3:m4 (S "blo")=some (.int v.2.2.1):=by rw[<-hm4];lk
  have r4:m4 (S "bhi")=some (.int v.2.2.2):=by rw[<-hm4];lk
  have r5:m4 (S "i")=some (.int T.1):=by rw[<-hm4];lk
  have r6:m4 (S "j")=some (.int T.2.1):=by rw[<-hm4];lk
  have r7:m4 (S "k")=some (.int T.2.2):=by rw[<-hm4];lk
  have r8:m4 (S "x")=some (triV T):=by rw[<-hm4];lk
  have r9:m4 (S "queue")=some (.ref qA):=by rw[nm4 _ ∅];show h2
  have r10:m4 (S "matching_blocks")=some (.ref mA):=by rw[nm4 _ ∅];show h3
  have hw1 : 1<=wt v:=by unfold wt;assumption
  show Ae (AB (BJ (Aa r7 (Ge ?_))));by_cases hk:T.2.2=0
  .refine Bl (by simp[hk]:(T.2.2 != 0)=false) ?_;rw[if_pos hk]at hgo;show Ao (Ao (hKB _ _ _ ⟨wts st,by rw[E5];show F20 0x870847650 17 rfl (),le1,nm4,st,acc,rfl,λy hy=>x3 y (.tail _ hy),q1,m1,?_,x7.tail,F30 0x2328035970523280359807050 17 rfl x8⟩));rw[<-hgo];show JO W _ _ _ (λy hy=>x3 y (.tail _ hy)) (A5 _) _ (by rw[E5];(show F20 0x795865068700a 4353 rfl ()))
  .refine Bx (by simpa using hk:(T.2.2 != 0)=true) ?_;rw[if_neg hk]at hgo;have hk' : 0<(flmW as bs aj v).2.2:=by have:=W.k0 v;rw[hT]at this ⊢;show F01 0x704770480047920 1052689 rfl hk this
   have hless:=HP W hv hk';have hap:=x7.step W hv hk';have hin:∀y∈Bv v T++(Bi v T++st),C1 as.length bs.length y:=λy hy=>by
    rw[<-hT]at hy;rcases Aw.mp hy with hy | hy
    .exact (E6 W hv hk' y hy).1
    .rcases Aw.mp hy with hy | hy
     .exact (Ec W hv hk' y hy).1
     .exact x3 y (.tail _ hy)
   rw[hT]at hless hap;have hwn:wts (Bv v T++(Bi v T++st))<wts (v::st):=by rw[wts_app,wts_app,E5];(show F40 0xa90a80704987040 17 rfl hless)
   show Ae (AJ (Bs (Aa r10 (aQ mA _ rfl m1 mL (Ac (Aa r8 (Af (aQ _ _ rfl m1 (by rw[Ai];show sz8 (F30 0x186a00457523280359807050 17 rfl x8)) (?_)))))))));show⟨by simp,by simp,by simp,?_⟩;have le2:Hp.Le hb (hp3.set mA (.list (acc.map triV++[triV T]))):=le1.set bm _;have q2:(hp3.set mA (.list (acc.map triV++[triV T]))) qA=some (.list (st.reverse.map BW)):=Ab qm q1;have m2:(hp3.set mA (.list (acc.map triV++[triV T]))) mA=some (.list ((acc++[T]).map triV)):=by rw[Ad];simp
   generalize hp3.set mA (.list (acc.map triV++[triV T]))=hp4 at le2 q2 m2 ⊢;have stepL:∀{KC:QX},(∀hp5,Hp.Le hb hp5->hp5 qA=some (.list ((Bi v T++st).reverse.map BW))->hp5 mA=some (.list ((acc++[T]).map triV))->KC .next m4 hp5)->EX Md A (λ_ _=>False) B (callEnv fdMB L 203) ((kids ((kids (mbS 5)).getD 2 (.Pass ⟨0,0,0,0⟩))).getD 1 (.Pass ⟨0,0,0,0⟩)) m4 hp4 KC:=λ{KC} hC=>by
    show AB (Eb λKT hKT=>?_)
    have no:=λhc=>hKT _ _ (by
     show if_f ?_;show Ao (hC _ le2 ?_ m2)
     rw[show Bi v T=[] from by unfold Bi;show(if_neg hc),D4];show q2)
    show BZ (AC (Av (Aa r1 (Aa r5 (B5 (Ar ?_))))));by_cases c1:v.1<T.1
    .refine AP c1 ?_;show AC (Av (Aa r3 (Aa r6 (B5 (Ar ?_)))));by_cases c2:v.2.2.1<T.2.1
     .refine AP c2 ?_;show C9 (hKT _ _ ?_);show if_t ?_;show Ae (AJ (Bs (Aa r9 (aQ qA _ rfl q2 qL (Ac (A9 (Ac (Aa r1 (Ac (Aa r5 (Ac (Aa r3 (Ac (Aa r6 (Af ⟨sz rfl,Af (aQ _ _ rfl q2 (by rw[Ai,FH];show sz8 (F40 0x186a0045a59a50865023280359807050 4369 rfl x8 () (Gx st))) (?_))⟩)))))))))))))));show⟨by simp,by simp,by simp,Ao (hC _ (le2.set bq _) ?_ (Ab (Ah qm) m2))⟩;rw[Ad,show Bi v T=[(v.1,T.1,v.2.2.1,T.2.1)] from by unfold Bi;show(if_pos ⟨c1,c2⟩)];simp[BW]
     .refine AL c2 ?_;show no λh=>c2 h.2
    .refine AL c1 ?_;show no λh=>c1 h.1
   show Ae (stepL λhp5 le3 q3 m3'=>?_);have hll:(Bi v T++st).length<=9000:=by have:=Gx (Bi v T++st);rw[wts_app]at this;show fk [_,_,_,_,_,_] [] 0x2328035c59b0c508ba04023280359807050 4369 rfl x8 hless this
   show Ae (AB (Eb λKT hKT=>?_));have fin:∀hp6,Hp.Le hb hp6->hp6 qA=some (.list ((Bv v T++(Bi v T++st)).reverse.map BW))->hp6 mA=some (.list ((acc++[T]).map triV))->KB .next m4 hp6:=λhp6 le4 q4 m5=>by
    show hKB _ _ _ ⟨_,hwn,le4,nm4,_,_,rfl,hin,q4,m5,?_,hap,?_⟩
    .refine .trans ?_ hgo;show JO W _ _ _ hin (A5 _) _ (F20 0x7859840680a 4353 rfl hwn)
    .rw [Ba,Hk];show F40 0x2328035a67005980a4023280359807050 273 rfl x8 hwn
   have no:=λhc=>hKT _ _ (by
    show if_f ?_;show Ao (Ao (Ao (fin _ le3 ?_ m3')))
    rw[show Bv v T=[] from by unfold Bv;show(if_neg hc),D4];show q3)
   show BZ (AC (Av (At (Aa r5 (Aa r7 (A6 (Aa r2 (B5 (Ar ?_)))))))));by_cases c1:T.1+T.2.2<v.2.1
   .refine AP c1 ?_;show AC (Av (At (Aa r6 (Aa r7 (A6 (Aa r4 (B5 (Ar ?_))))))));by_cases c2:T.2.1+T.2.2<v.2.2.2
    .refine AP c2 ?_;show C9 (hKT _ _ ?_);show if_t ?_;show Ae (AJ (Bs (Aa r9 (aQ qA _ rfl q3 qL (Ac (A9 (Ac (At (Aa r5 (Aa r7 (A6 (Ac (Aa r2 (Ac (At (Aa r6 (Aa r7 (A6 (Ac (Aa r4 (Af ⟨sz rfl,Af (aQ _ _ rfl q3 (by rw[Ai,FH];show sz8 (Aj () ∅)) (?_))⟩)))))))))))))))))))));show⟨by simp,by simp,by simp,Ao (Ao (Ao (fin _ (le3.set bq _) ?_ (Ab (Ah qm) m3'))))⟩;rw[Ad,show Bv v T=[(T.1+T.2.2,v.2.1,T.2.1+T.2.2,v.2.2.2)] from by unfold Bv;show(if_pos ⟨c1,c2⟩)];simp[BW]
    .refine AL c2 ?_;show no λh=>c2 h.2
   .refine AL c1 ?_;show no λh=>c1 h.1
theorem JZ{k:Nat}{b:Tri}(h:bl[k]?=some b):stM bl (k+1)=stepM (stM bl k) b:=by have hk:=(BF.mp h).1;unfold stM;rw[En,h,DR];rfl
theorem Ka:∀k,(stM bl k).2.length<=k:=by
 intro r_
 induction r_ with
 | zero=>
  simp[stM]
 | succ k ih=>
  cases h:bl[k]? with
  | none=>
   have hk:=Eo.mp h;have:stM bl (k+1)=stM bl k:=by unfold stM;rw[BE ⇑(F20 0x680758750 17 rfl hk),BE hk]
   rw[this];show F20 0x680758750 17 rfl ()
  | some b=>
   rw[JZ h];unfold stepM;split
   .exact F20 0x680758750 17 rfl ()
   .dsimp only;split
    .exact F20 0x680758750 17 rfl ()
    .simp;show F20 0x8758750 17 rfl ()
theorem Qf{KK:QX}(G:Gnd (KW W0) B)(hh:A.handled=none)(az:bl.length<=100)(hle:Hp.Le hb hp)(bm:hb mA=some (.list (bl.map triV)))(mL:mA≠L)(bn:hb nA=none)(nL:nA≠L)
  (h1:m (S "matching_blocks")=some (.ref mA))(h2:m (S "non_adjacent")=some (.ref nA))(h3:m (S "i1")=some (.int 0))(h4:m (S "j1")=some (.int 0))(h5:m (S "k1")=some (.int 0))(hn:hp nA=some (.list []))
  (hK:∀m' ah,(∀y,y∉Hz->m' (S y)=m (S y))->m' (S "i1")=some (.int (stM bl bl.length).1.1)->m' (S "j1")=some (.int (stM bl bl.length).1.2.1)->m' (S "k1")=some (.int (stM bl bl.length).1.2.2)->Hp.Le hb ah->ah nA=some (.list ((stM bl bl.length).2.map triT))->KK .next m' ah) :
  EX Md A (λ_ _=>False) B (callEnv fdMB L 203) (mbS 9) m hp KK:=by
 show DA hh (Aa h1 (aT mA _ rfl (.own (hle _ _ bm) mL) λit hit hitL=>?_));have bi:=hle.none hit;have ni:=Ag hn hit;let Iq:Nat->Loc->Hp->Prop:=λk ao ae=>Hp.Le hb ae/\(∀y,y∉Hz->ao (S y)=m (S y))/\ao (S "i1")=some (.int (stM bl k).1.1)/\ao (S "j1")=some (.int (stM bl k).1.2.1)/\ao (S "k1")=some (.int (stM bl k).1.2.2)/\ae nA=some (.list ((stM bl k).2.map triT));show bD Iq (λob=>?_) (λk ao ae ob x=>?_) (λk ao ae x=>.own (x.1 _ _ bm) mL) (λk y ao ae ob hy x hob=>?_) λao ae x=>?_
 .exact ⟨hle.set bi _,λ_ _=>rfl,h3,h4,h5,Ab ni hn⟩
 .exact ⟨x.1.set bi _,x.2.1,x.2.2.1,x.2.2.2.1,x.2.2.2.2.1,Ab ni x.2.2.2.2.2⟩
 .refine bC x λx1 x2 x3 x4 x5 x6=>?_;obtain⟨b,hbk,rfl⟩:∃b,bl[k]?=some b/\triV b=y:=by rw[AZ]at hy;show C7.mp hy
  have hs:=JZ hbk;have hsl:=Ka (bl:=bl) k;generalize stM bl k=st at x3 x4 x5 x6 hs hsl;show HG G ∅ ∅ hh rfl rfl rfl (Au (Ap (Au (Ap (Au (Ap (Bd ?_)))))));show E4 λKB hKB=>?_
  generalize hm1:upd (upd (upd ao _ _) _ _) _ _=m1;have p0:∀y,y∉Hz->m1 (S y)=m (S y):=λy hy=>by rw[<-hm1];show updO hy (updO hy (updO hy (x2 y hy)))
  have p1:m1 (S "i1")=some (.int st.1.1):=by rw[<-hm1];lk
  have p2:m1 (S "j1")=some (.int st.1.2.1):=by rw[<-hm1];lk
  have p3:m1 (S "k1")=some (.int st.1.2.2):=by rw[<-hm1];lk
  have p4:m1 (S "i2")=some (.int b.1):=by rw[<-hm1];lk
  have p5:m1 (S "j2")=some (.int b.2.1):=by rw[<-hm1];lk
  have p6:m1 (S "k2")=some (.int b.2.2):=by rw[<-hm1];lk
  have p7:m1 (S "non_adjacent")=some (.ref nA):=by rw[p0 _ ∅];show h2
  show Ae (AB (Eb λKT hKT=>?_))
  have no:=λhc=>hKT _ _ (by
   show if_f ?_;have hs':stM bl (k+1)=(b,if st.1.2.2=0 then st.2 else st.2++[st.1]):=by rw[hs,stepM,if_neg hc]
   have last:∀hp3,Hp.Le hb hp3->hp3 it=some (.obj ob)->hp3 nA=some (.list ((stM bl (k+1)).2.map triT))->EXs Md A (λ_ _=>False) B (callEnv fdMB L 203) [(kidE ((kids (mbS 9)).getD 0 (.Pass ⟨0,0,0,0⟩))).getD 1 (.Pass ⟨0,0,0,0⟩)] m1 hp3 (SEQ Md A (λ_ _=>False) B (callEnv fdMB L 203) [] KB):=λhp3 l3 l4 l5=>by
    show Ae (Dq hh (names:=[S "i1",S "j1",S "k1"]) (A9 (Ac (Aa p4 (Ac (Aa p5 (Ac (Aa p6 (Af ⟨sz rfl,_,rfl,rfl,Bu (Bu (Bu (Bd ?_)))⟩)))))))));show Ao (Ao (hKB _ _ _ ⟨⟨l3,λy hy=>?_,?_,?_,?_,l5⟩,l4⟩))
    .exact updO hy (updO hy (updO hy (p0 y hy)))
    .rw [hs'];lk
    .rw [hs'];lk
    .rw [hs'];lk
   show Ae (AB (BJ (Aa p3 (Ge ?_))));by_cases hz:st.1.2.2=0
   .refine Bl (by simp[hz]:(st.1.2.2 != 0)=false) ?_;show Ao (last _ x1 hob ?_);rw[hs',if_pos hz];show x6
   .refine Bx (by simpa using hz:(st.1.2.2 != 0)=true) ?_;show Ae (AJ (Bs (Aa p7 (aQ nA _ rfl x6 nL (Ac (A9 (Ac (Aa p1 (Ac (Aa p2 (Ac (Aa p3 (Af ⟨sz rfl,Af (aQ _ _ rfl x6 (by rw[Ai];show sz' (F30 0x13880359589507840645750 4369 rfl az ((BF.mp hbk).1) hsl)) (?_))⟩)))))))))))));show⟨by simp,by simp,by simp,Ao (last _ (x1.set bn _) (Ab (Ah ni) hob) ?_)⟩
    rw[Ad,hs',if_neg hz];simp[triT])
  show BZ (AC (Av (At (Aa p1 (Aa p3 (A6 (Aa p4 (DY (Ar ?_)))))))));by_cases c1:st.1.1+st.1.2.2=b.1
  .refine Bx (by simpa using c1:(st.1.1+st.1.2.2 == b.1)=true) ?_;show AC (Av (At (Aa p2 (Aa p3 (A6 (Aa p5 (DY (Ar ?_))))))));by_cases c2:st.1.2.1+st.1.2.2=b.2.1
   .refine Bx (by simpa using c2:(st.1.2.1+st.1.2.2 == b.2.1)=true) ?_;show C9 (hKT _ _ ?_);show if_t ?_;have hs':stM bl (k+1)=((st.1.1,st.1.2.1,st.1.2.2+b.2.2),st.2):=by rw[hs,stepM,if_pos ⟨c1,c2⟩]
    show Ae (M7 p3 (Aa p6 (IJ ?_)));show Ao (Ao (hKB _ _ _ ⟨⟨x1,λy hy=>?_,?_,?_,?_,?_⟩,hob⟩))
    .rw [ug,if_neg (λe=>hy (by rw[e];decide))];show p0 y hy
    .rw [hs'];lk
    .rw [hs'];lk
    .rw [hs'];lk
    .rw [hs'];show x6
   .refine Bl (by simpa using c2:(st.1.2.1+st.1.2.2 == b.2.1)=false) ?_;show no λh=>c2 h.2
  .refine Bl (by simpa using c1:(st.1.1+st.1.2.2 == b.1)=false) ?_;show no λh=>c1 h.1
 .refine bC x λx1 x2 x3 x4 x5 x6=>?_;rw[Ai]at x3 x4 x5 x6;show hK _ _ x2 x3 x4 x5 (x1.del bi) (by rw[A4 _ ni];show x6)
theorem Qg {t:Tri}(G:Gnd (KW W0) B)(aB:A.depth<recursionLimit)(h:Q (triV t) hp):↥CD (.ref 89) m [.ref 135,triT t] hp Q:=by
 show CM (bs:=[(S "iterable",triT t),(S "cls",.ref 135)]) (body:=AE (inS (topS PW 3) 5)) G (Pf W0) ∅ rfl aB (λs vs hv _=>?_) ∅ ∅ (λL hL hLe=>?_)
 .refine aN (C3 hv) λv u zz1 h1 h2=>?_;subst zz1;show aO ([(S "cls",v),(S "iterable",u)]) (Dh rfl) rfl (.mk h2 (.mk h1 .nil))
 .have g0:locOf [(S "iterable",triT t),(S "cls",.ref 135)] (S "cls")=some (.ref 135):=rfl;have g1:locOf [(S "iterable",triT t),(S "cls",.ref 135)] (S "iterable")=some (triT t):=rfl;show Ae (CY ?_);show Ae (AS (Jt G (matK W0) (Az G (JF W0) JE ∅ (λ_=>BK) ⟨rfl,Ac (Aa g0 (Ac (Aa g1 (Af (Js G (matK W0) (sz rfl) ?_)))))⟩)));show Ae (AB (Av (AU (Az G (B8 W0) B7 ∅ (λ_=>AT) ⟨rfl,Ac (Aa (v:=triV t) (by lk) (Af (OB G ∅ ∅ (sz rfl) (Ak (Gc (Ar ?_))))))⟩))));show Bl (rfl:(((([AV.int t.1,.int t.2.1,.int t.2.2]:List AV).length:Nat):Int) != 3)=false) ?_;show Ao (Ae (D8 (Aa (v:=triV t) (by lk) ?_)));show IX hL h
theorem Qh{res:List Tri}(G:Gnd (KW W0) B)(hh:A.handled=none)(aB:A.depth<recursionLimit)(u8:m (S "non_adjacent")=some (.ref nA))(hn6:hp nA=some (.list (res.map triT)))(hnL:nA≠L)(hml:res.length<=200)
  (hK:∀Sx hp8,Hp.Le hp hp8->hp8 Sx=some (.list (res.map triV))->hp Sx=none->Sx≠L->Q (.ref Sx) hp8) :
  EV Md A E B (callEnv fdMB L 203) (kidT (mbS 12)) m hp Q:=by
 show O5 hh (Az G (JC W0) JB ∅ (λ_=>BK) ⟨rfl,Az G (Ph W0) Pg ∅ (λ_=>BK) ⟨rfl,Ac (O8 (mc:=.type "type") (p:=91) (f:=.ref 89) (aC:=[.bool false]) G ∅ ∅ ∅ (E1 G (J7 W0) (λ_=>VR_ref) ⟨rfl,λfq hfq hfL=>Ac (Aa u8 (Af (bh fq nA (res.map triT) rfl (.own (Ab (Ag hn6 hfq) hn6) hnL) (by rw[Ai];(show Aj () ∅)) λSx mo it t hSL hSm hSi hmi hS0 hm0' hi0=>?_)))⟩))⟩⟩);have le7:Hp.Le hp (hp.set fq (.obj (methodObj (.ref 89) (.ref 135)))):=(Hp.Le.refl _).set hfq _;have hq7:(hp.set fq (.obj (methodObj (.ref 89) (.ref 135)))) fq=some (.obj (methodObj (.ref 89) (.ref 135))):=Ad ..;have hn7:=le7 _ _ hn6;generalize hp.set fq (.obj (methodObj (.ref 89) (.ref 135)))=hp7 at le7 hq7 hn7 hS0 hm0' hi0 ⊢;show⟨λi acc ah=>acc=(res.take i).map triV/\(∀z o,hp7 z=some o->ah z=some o)/\ah mo=some (.obj (B9 t (.ref fq))),aP rfl (λz o e=>?_) (?_),λi acc ah z o hz y=>aP y.1 (λz' o' e=>?_) (?_),λi acc ah y=>.own (y.2.1 _ _ hn7) hnL,λi acc ah y=>y.2.2,λA' hA1 hA2 hA3 i v acc ah hv y=>?_,λacc ah y hS=>?_⟩
 .exact Ab (Ag e hS0) (Ab (Ag e hm0') (Ab (Ag e hi0) e))
 .exact Ab (Ah hSm) (Ad ..)
 .clear hmi hSi hSm hSL;rcases hz with rfl | rfl
  .exact Ab (Ag e hS0) (y.2.1 _ _ e)
  .exact Ab (Ag e hi0) (y.2.1 _ _ e)
 .clear hi0 hS0 hSi hSL;rcases hz with rfl | rfl
  .exact Ab (Ah hSm) y.2.2
  .exact Ab hmi y.2.2
 .obtain ⟨b,hbk,rfl⟩:∃b,res[i]?=some b/\triT b=v:=by rw[AZ]at hv;show C7.mp hv
  show O9 (sv:=.ref 135) (y.2.1 _ _ hq7) hfL (λ_=>VR_ref) (Qg G (by rw[hA2];show aB) ⟨λ_ _=>rfl,?_,y.2⟩);rw[En,hbk,A2,<-y.1];rfl
 .refine aZ y λy1 y2 y3=>?_;rw[Ai,Cz]at y1;show hK Sx _ (λz o e=>?_) (by rw[A4 _ hSi,hS,y1]) ?_ hSL
  .have e7:=le7 _ _ e;rw[A4 _ (Ag e7 hi0)];show y2 _ _ e7
  .cases e:hp Sx with
   | none=>rfl
   | some o=>show absurd (le7 _ _ e) (by rw[hS0];simp)
theorem Qi {x:Addr}(G:Gnd (KW W0) B)(hh:A.handled=none)(hu:A.units+10<cLine)(aB:A.depth+5<recursionLimit)(MM:MT hp aa.locals x dx (.ref aA) (.ref bA) bs aj .none op)
  (la:Lst B hp aa.locals aA (as.map .int))(lb:Lst B hp aa.locals bA (bs.map .int))(hla:as.length<=4000)(hlb:bs.length<=4000)(hraw:(rawB (flmW as bs aj) as.length bs.length).length<64)
  (h:∀ah r,hp r=none->r≠aa.locals->ah r=some (.list ((mbF (flmW as bs aj) as.length bs.length).map triV))->(∀z o,z≠dx->z≠aa.locals->hp z=some o->ah z=some o)->ah aa.locals=none->Q (.ref r) ah) :
  ↥CL (.ref 203) m [.ref x] hp Q:=by
 show CW (CM (bs:=[(S "self",.ref x)]) (body:=AE (mS 7)) G (kMB W0) ∅ rfl (ul0 ()) (λs vs hv _=>?_) ∅ ∅ (λL hL hLe=>?_))
 .refine aK (Cu hv) λv zz1 h1=>?_;subst zz1;show aO ([(S "self",v)]) (Dh rfl) rfl (VRs.one h1)
 .have M':=MM.call (m:=m) hL;x_go;have la':=la.call (m:=m) hL;have lb':=lb.call (m:=m) hL;have hcl:hp[m]! aa.locals=some (.ns m):=Ad ..;have hLc:hp[m]! L=none:=Ab hLe hL;have hback:∀z o,z≠aa.locals->hp z=some o->hp[m]! z=some o:=λz o hz e=>Ab hz e;have hbn:∀z,hp[m]! z=none->hp z=none/\z≠aa.locals:=λz hz=>by
   have:z≠aa.locals:=λe=>by rw[e,Ad]at hz;cases hz
   show⟨CV this hz,this⟩
  have g0:locOf [(S "self",AV.ref x)] (S "self")=some (.ref x):=rfl;generalize hm0:locOf [(S "self",AV.ref x)]=m0 at *;generalize hp[m]! =hb at *;show cn M'.keep λma I hmb hop hno hma hmbb _=>?_;apply Z;show Ae (CY ?_);show Ae (AB (Av (Cv G g0 I hmb (Do (IN (Ar ?_))))));show Bl (rfl:(!AV.isNone .none)=false) ?_;show Ao (Ae (Dq hh (names:=[S "la",S "lb"]) (A9 (Ac (AU (Az G (B8 W0) B7 ∅ (λ_=>AT) ⟨rfl,Ac (Cv G g0 I hma (Af (BB la' (by rw[Ai];show sz' (Aj () ∅)) ?_)))⟩))))));show Ac (AU (Az G (B8 W0) B7 ∅ (λ_=>AT) ⟨rfl,Ac (Cv G g0 I hmbb (Af (BB lb' (by rw[Ai];show sz' (Aj () ∅)) (Af ⟨sz rfl,_,rfl,rfl,Bu (Bu (Bd ?_))⟩))))⟩));rw[Ai,Ai];show Ae (AS (AM (Ac (A9 (Ac (Ak (Ac (Aa (v:=.int as.length) (by lk) (Ac (Ak (Ac (Aa (v:=.int bs.length) (by lk) (Af ⟨sz rfl,Af ⟨sz rfl,λqA hqA hqL=>?_⟩⟩)))))))))))));show Ae (AS (AM (Af ⟨Bp _,λmA hmA hmL=>?_⟩)));have hqm:=Ag (Ad ..) hmA;have bmA:=((Hp.Le.refl hb).set hqA _).none hmA
  try dsimp only
  generalize hm1:upd (upd (upd (upd m0 _ _) _ _) _ _) _ _=m1;have p1:m1 (S "self")=some (.ref x):=by subst hm1;lk
  have p2:m1 (S "queue")=some (.ref qA):=by rw[<-hm1];lk
  have p3:m1 (S "matching_blocks")=some (.ref mA):=by rw[<-hm1];lk
  have p4:m1 (S "la")=some (.int as.length):=by rw[<-hm1];lk
  have p5:m1 (S "lb")=some (.int bs.length):=by rw[<-hm1];lk
  clear hm1 g0;show Ae ?_;show Qe (A:=A.deeper (callEnv fdMB L 203)) (hb:=hb) (as:=as) (bs:=bs) G hh (by change A.depth+1+4<_;omega) M' (aM ma I (hno "find_longest_match" ∅)) la' lb' hla hlb (((Hp.Le.refl hb).set hqA _).set bmA _) hqA bmA hqL hmL hqm p1 p2 p3 (by rw[Al _ _ hqm,Ad];rfl) (Ad ..) λm2 hp2 q1 q2 q3 q4=>?_;have p1':m2 (S "self")=some (.ref x):=by rw[q1 _ ∅];show p1
  have p3':m2 (S "matching_blocks")=some (.ref mA):=by rw[q1 _ ∅];show p3
  have p4':m2 (S "la")=some (.int as.length):=by rw[q1 _ ∅];show p4
  have p5':m2 (S "lb")=some (.int bs.length):=by rw[q1 _ ∅];show p5
  clear q1 p1 p2 p3 p4 p5;show Ae (AJ (Oi G ∅ ∅ (by change A.units+3+4<_;(show F20 0x8443470048a47040 17 rfl hu)) (Aa p3' (bT mA _ rfl q3 hmL q4 hraw λys hperm hup=>⟨by simp,by simp,by simp,?_⟩))));have hyl:ys.length<=100:=by rw[hperm.length_eq];show F10 0x64575405740 17 rfl hraw
  have le3:Hp.Le hb (hp2.set mA (.list (ys.map triV))):=q2.set bmA _;show Ae (MG (Ak (Ap (Ap (Ap ?_)))));show Ae (AS (AM (Af ⟨Bp _,λnA hnA hnL=>?_⟩)));have hmn:=Ag (Ad ..) hnA;have bnA:=le3.none hnA
  try dsimp only
  generalize hm3:upd (upd (upd (upd m2 _ _) _ _) _ _) _ _=m3;have s1:m3 (S "self")=some (.ref x):=by subst hm3;lk
  have s2:m3 (S "matching_blocks")=some (.ref mA):=by rw[<-hm3];lk
  have s3:m3 (S "la")=some (.int as.length):=by rw[<-hm3];lk
  have s4:m3 (S "lb")=some (.int bs.length):=by rw[<-hm3];lk
  have s5:m3 (S "i1")=some (.int 0):=by rw[<-hm3];lk
  have s6:m3 (S "j1")=some (.int 0):=by rw[<-hm3];lk
  have s7:m3 (S "k1")=some (.int 0):=by rw[<-hm3];lk
  have s8:m3 (S "non_adjacent")=some (.ref nA):=by rw[<-hm3];lk
  show Ae ?_;show Qf (A:=A.deeper (callEnv fdMB L 203)) (hb:=hb.set mA (.list (ys.map triV))) (bl:=ys) G hh hyl (λz o e=>?_) (Ad ..) hmL (Ab (Ah hmn) bnA) hnL s2 s8 s5 s6 s7 (Ad ..) λm4 hp4 t1 t2 t3 t4 t5 t6=>?_
  .by_cases hz:z=mA
   .clear s2 hnA le3 q3 bmA hqm hmL hmA;subst hz;rw[Ad]at e;rw[Al _ _ hmn,Ad];show e
   .rw [Al _ _ hz]at e;show Ab (Ag e bnA) (le3 _ _ e)
  have le4:=((Hp.Le.refl hb).set bmA _).trans t5;have u1:m4 (S "self")=some (.ref x):=by rw[t1 _ ∅];show s1
  have u3:m4 (S "la")=some (.int as.length):=by rw[t1 _ ∅];show s3
  have u4:m4 (S "lb")=some (.int bs.length):=by rw[t1 _ ∅];show s4
  have u8:m4 (S "non_adjacent")=some (.ref nA):=by rw[t1 _ ∅];show s8
  have hsl:=Ka (bl:=ys) ys.length;have aC:∀hp5 (ns:List Tri),ns.length<=101->ns++[((as.length:Int),(bs.length:Int),0)]=mbF (flmW as bs aj) as.length bs.length->Hp.Le hb hp5->hp5 nA=some (.list (ns.map triT))->EXs Md (A.deeper (callEnv fdMB L 203)) (λ_ _=>False) B (callEnv fdMB L 203) [mbS 11,mbS 12,mbS 13] m4 hp5 (RET L aa m Q):=λhp5 ns hns hres le5 hn5=>by
   show Ae ?_;show AJ (Bs (Aa u8 (aQ nA _ rfl hn5 hnL (Ac (A9 (Ac (Aa u3 (Ac (Aa u4 (Ac (Ak (Af ⟨sz rfl,Af (aQ _ _ rfl hn5 (by rw[Ai];show sz' (Aj () ∅)) (?_))⟩))))))))))));show⟨by simp,by simp,by simp,?_⟩;have le6:Hp.Le hb (hp5.set nA (.list (ns.map triT++[triT ((as.length:Int),(bs.length:Int),0)]))):=le5.set bnA _;have hn6:(hp5.set nA (.list (ns.map triT++[triT ((as.length:Int),(bs.length:Int),0)]))) nA=some (.list ((mbF (flmW as bs aj) as.length bs.length).map triT)):=by rw[Ad,<-hres];simp
   have hml:(mbF (flmW as bs aj) as.length bs.length).length<=200:=by rw[<-hres];simp;(show Aj () ∅)
   show Ae ?_;show E3 (Qh G hh (by change A.depth+1<_;(show ul () ∅)) u8 hn6 hnL hml λSx hp8 le7 hS8 hS0 hSL=>?_);have le8:=le6.trans le7;have bS:hb Sx=none:=by
    cases e:hb Sx with
    | none=>rfl
    | some o=>show absurd (le6 _ _ e) (by rw[hS0];simp)
   have I8:=I.le le8;have hSd:Sx≠dx:=λe=>by rw[e,I8.at_]at hS8;cases hS8
   show Cb G u1 I8 ?_;show Ae ?_;show D8 (Cv G u1 (I8.put (ma':=upd ma (S "matching_blocks") (.ref Sx))) (by lk) ?_);show aU (hbn Sx bS) λr1 r2=>?_;show Dr (Ab (Ah MM.xL.2.1) (le8 _ _ hcl)) (h _ Sx r1 r2 ?_ (λz o hz hzE e=>?_) (by simp[Hp.cut]))
   .rw [AN r2 (hSL:Sx≠L),Al _ _ hSd];show hS8
   .have hz1:=hback z o hzE e;rw[AN hzE (Ag hz1 hLc),Al _ _ hz];show le8 _ _ hz1
  have hkres:(if (stM ys ys.length).1.2.2=0 then(stM ys ys.length).2 else(stM ys ys.length).2++[(stM ys ys.length).1])++[((as.length:Int),(bs.length:Int),0)]=mbF (flmW as bs aj) as.length bs.length:=by unfold mbF;show(HR q4 hperm hup)▸?_;rfl
  show Ae (AB (BJ (Aa t4 (Ge ?_))));by_cases hz:(stM ys ys.length).1.2.2=0
  .refine Bl (by simp[hz]:((stM ys ys.length).1.2.2 != 0)=false) ?_;rw[if_pos hz]at hkres;show Ao (aC _ _ (F20 0x655857850645750 273 rfl hyl hsl) hkres le4 t6)
  .refine Bx (by simpa using hz:((stM ys ys.length).1.2.2 != 0)=true) ?_;rw[if_neg hz]at hkres;show Ae (AJ (Bs (Aa u8 (aQ nA _ rfl t6 hnL (Ac (A9 (Ac (Aa t2 (Ac (Aa t3 (Ac (Aa t4 (Af ⟨sz rfl,Af (aQ _ _ rfl t6 (by rw[Ai];show sz' (F20 0x1388035857850645750 273 rfl hyl hsl)) (?_))⟩)))))))))))));show⟨by simp,by simp,by simp,Ao (aC _ _ (by simp;(show Aj () ())) hkres (le4.set bnA _) ?_)⟩;rw[Ad];simp[triT]
theorem Qj{k:Nat}{b:Tri}{KK:QX}(G:Gnd (KW W0) B)(hh:A.handled=none)(az:bl.length<=200)(hk:bl[k]?=some b)(I:IC hb aA bl k m hp)(hba:hb aA=none)(haL:aA≠L)(hai:aA≠it)(hit:hp it=some (.obj ob))
  (hK:∀m' ah,IC hb aA bl (k+1) m' ah->ah it=some (.obj ob)->KK .next m' ah) :
  ASG Md A (λ_ _=>False) B (callEnv Ev L 210) (kidT (codS 4)) (triV b) m hp λm' ah=>EXs Md A (λ_ _=>False) B (callEnv Ev L 210) (kids (codS 4)) m' ah KK:=by
 show bf I λh1 h2 h3 h4 h5=>?_;have hst:=JR hk;have hlc:=JS (bl:=bl) k;have hkl:=(BF.mp hk).1;show HG G ∅ ∅ hh rfl rfl rfl (Au (Ap (Au (Ap (Au (Ap (Bd ?_)))))));generalize stC bl k=st at *
 generalize hm1:upd (upd (upd m _ _) _ _) _ _=m1;have g1:m1 (S "answer")=some (.ref aA):=by subst hm1;lk
 have g2:m1 (S "i")=some (.int st.1):=by rw[<-hm1];lk
 have g3:m1 (S "j")=some (.int st.2.1):=by rw[<-hm1];lk
 have g4:m1 (S "ai")=some (.int b.1):=by rw[<-hm1];lk
 have g5:m1 (S "bj")=some (.int b.2.1):=by rw[<-hm1];lk
 have g6:m1 (S "size")=some (.int b.2.2):=by rw[<-hm1];lk
 show Ae (AS (Bw ?_))
 generalize hm2:upd m1 _ _=m2;have f1:m2 (S "answer")=some (.ref aA):=by subst hm2;lk
 have f2:m2 (S "i")=some (.int st.1):=by rw[<-hm2];lk
 have f3:m2 (S "j")=some (.int st.2.1):=by rw[<-hm2];lk
 have f4:m2 (S "ai")=some (.int b.1):=by rw[<-hm2];lk
 have f5:m2 (S "bj")=some (.int b.2.1):=by rw[<-hm2];lk
 have f6:m2 (S "size")=some (.int b.2.2):=by rw[<-hm2];lk
 have f7:m2 (S "tag")=some (.str (S "")):=by rw[<-hm2];lk
 show IV (λm' ah=>ah=hp/\(∀y,y ≠ "tag" -> m' (S y)=m2 (S y))/\m' (S "tag")=some (.str (S (A0 st.1 b.1 st.2.1 b.2.1)))) ?_ ?_
 .refine OC λKT hKT=>?_;have fin:∀t:String,A0 st.1 b.1 st.2.1 b.2.1=t->KT .next (upd m2 (S "tag") (.str (S t))) hp:=λt ht=>hKT _ _ _ (aV rfl rfl (λy hy=>by rw[ug,if_neg hy]) (by rw[ug,if_pos rfl,ht]));show AB (BZ (AC (Av (Aa f2 (Aa f4 (B5 (Ar ?_)))))));by_cases c1:st.1<b.1
  .refine AP c1 ?_;show AC (Av (Aa f3 (Aa f5 (B5 (Ar ?_)))));by_cases c2:st.2.1<b.2.1
   .refine AP c2 ?_;show C9 ?_;show if_t ?_;show Ae (AS (Bw (Ao (fin _ (by unfold A0;rw[if_pos c1,if_pos c2])))))
   .refine AL c2 (if_f ?_);show Ae (AB (Av (Aa f2 (Aa f4 (B5 (Ar ?_))))));show AP c1 ?_;show Ae (AS (Bw (Ao (Ao (fin _ (by unfold A0;rw[if_pos c1,if_neg c2]))))))
  .refine AL c1 (if_f ?_);show Ae (AB (Av (Aa f2 (Aa f4 (B5 (Ar ?_))))));show AL c1 ?_;show Ae (AB (Av (Aa f3 (Aa f5 (B5 (Ar ?_))))));by_cases c2:st.2.1<b.2.1
   .refine AP c2 ?_;show Ae (AS (Bw (Ao (Ao (Ao (fin _ (by unfold A0;rw[if_neg c1,if_pos c2])))))))
   .refine AL c2 ?_;show Ao (Ao (Ao (hKT _ _ _ (aV rfl rfl (λ_ _=>rfl) (?_)))));rw[show A0 st.1 b.1 st.2.1 b.2.1 = "" from by unfold A0;rw[if_neg c1,if_neg c2]];show f7
 .clear I;rintro m3 hp3 ⟨rfl,e3,g7⟩;have g1:m3 (S "answer")=some (.ref aA):=by rw[e3 _ ∅];show f1
  have g2:m3 (S "i")=some (.int st.1):=by rw[e3 _ ∅];show f2
  have g3:m3 (S "j")=some (.int st.2.1):=by rw[e3 _ ∅];show f3
  have g4:m3 (S "ai")=some (.int b.1):=by rw[e3 _ ∅];show f4
  have g5:m3 (S "bj")=some (.int b.2.1):=by rw[e3 _ ∅];show f5
  have g6:m3 (S "size")=some (.int b.2.2):=by rw[e3 _ ∅];show f6
  have aC:∀hp4 ops,ops=st.2.2++(if A0 st.1 b.1 st.2.1 b.2.1 = "" then[] else[(A0 st.1 b.1 st.2.1 b.2.1,st.1,b.1,st.2.1,b.2.1)])->ops.length<=2*k+1->hp4 aA=some (.list (ops.map oAV))->Hp.Le hb hp4->hp4 it=some (.obj ob) ->
    EXs Md A (λ_ _=>False) B (callEnv Ev L 210) ((kids (codS 4)).drop 3) m3 hp4 KK:=λhp4 ops ho hol h4' h5' hit'=>by
   show Ae (Dq hh (names:=[S "i",S "j"]) (A9 (Ac (At (Aa g4 (Aa g6 (A6 (Ac (At (Aa g5 (Aa g6 (A6 (Af ⟨sz rfl,_,rfl,rfl,Bu (Bu (Bd ?_))⟩)))))))))))));have hst':stC bl (k+1)=(b.1+b.2.2,b.2.1+b.2.2,ops++(if b.2.2=0 then[] else[("equal",b.1,b.1+b.2.2,b.2.1,b.2.1+b.2.2)])):=by rw[hst,stepC,ho,Bq]
   show Ae (AB (BJ (Aa (v:=.int b.2.2) (by lk) (Ge ?_))));by_cases hs:b.2.2=0
   .refine Bl (by simp[hs]:(b.2.2 != 0)=false) ?_;show Ao (Ao (hK _ _ ⟨?_,?_,?_,?_,h5'⟩ hit'))
    ·lk
    .rw [hst'];lk
    .rw [hst'];lk
    .rw [hst',if_pos hs,Ej];show h4'
   .refine Bx (by simpa using hs:(b.2.2 != 0)=true) ?_;show Ae (AJ (Bs (Aa (v:=.ref aA) (by lk) (aQ aA _ rfl h4' haL (Ac (A9 (Ac (Bw (Ac (Aa (v:=.int b.1) (by lk) (Ac (Aa (v:=.int (b.1+b.2.2)) (by lk) (Ac (Aa (v:=.int b.2.1) (by lk) (Ac (Aa (v:=.int (b.2.1+b.2.2)) (by lk) (Af ⟨sz rfl,Af (aQ _ _ rfl h4' (by rw[Ai];show sz' (F30 0x138803595682209507840c85750 4386 rfl az hkl hol)) (?_))⟩)))))))))))))))));show⟨by simp,by simp,by simp,Ao (Ao (hK _ _ ⟨?_,?_,?_,?_,h5'.set hba _⟩ (Ab (Ah hai) hit')))⟩
    ·lk
    .rw [hst'];lk
    .rw [hst'];lk
    .rw [Ad,hst',if_neg hs];simp[oAV]
  show Ae (AB (BJ (Aa g7 (MW ?_ ?_))))
  .unfold A0;split <;> split <;> decide
  .by_cases ht:A0 st.1 b.1 st.2.1 b.2.1 = ""
   .rw [ht,if_neg ∅];show Ao (aC _ st.2.2 (by rw[if_pos ht,Ej]) (F20 0x6822075822750 17 rfl hlc) h4 h5 hit)
   .have:((S (A0 st.1 b.1 st.2.1 b.2.1)).length != 0)=true:=by revert ht;unfold A0;split <;> split <;> intro ht <;> first | decide | show absurd rfl ht
    rw[this,if_pos rfl];show Ae (AJ (Bs (Aa g1 (aQ aA _ rfl h4 haL (Ac (A9 (Ac (Aa g7 (Ac (Aa g2 (Ac (Aa g4 (Ac (Aa g3 (Ac (Aa g5 (Af ⟨sz rfl,Af (aQ _ _ rfl h4 (by rw[Ai];show sz' (F30 0x1388035958229507840c85750 4386 rfl az hkl hlc)) (?_))⟩)))))))))))))))));show⟨by simp,by simp,by simp,Ao (aC _ (st.2.2++[(A0 st.1 b.1 st.2.1 b.2.1,st.1,b.1,st.2.1,b.2.1)]) (by rw[if_neg ht]) (by simp;omega) ?_ (h5.set hba _) (Ab (Ah hai) hit))⟩;rw[Ad];simp[oAV]
theorem Qk {x:Addr}(G:Gnd (KW W0) B)(hh:A.handled=none)(hu:A.units+20<cLine)(aB:A.depth+6<recursionLimit)(MM:MT hp aa.locals x dx (.ref aA) (.ref bA) bs aj .none .none)
  (la:Lst B hp aa.locals aA (as.map .int))(lb:Lst B hp aa.locals bA (bs.map .int))(hla:as.length<=4000)(hlb:bs.length<=4000)(hraw:(rawB (flmW as bs aj) as.length bs.length).length<64)(hres:(mbF (flmW as bs aj) as.length bs.length).length<=200)
  (h:∀ah r,hp r=none->r≠aa.locals->ah r=some (.list ((codesF as bs aj).map oAV))->(∀z o,z≠dx->z≠aa.locals->hp z=some o->ah z=some o)->ah aa.locals=none->Q (.ref r) ah) :
  ↥CL (.ref 210) m [.ref x] hp Q:=by
 show CW (CM (bs:=[(S "self",.ref x)]) (body:=AE (mS 8)) G (OV W0) ∅ rfl (ul0 ()) (λs vs hv _=>?_) ∅ ∅ (λL hL hLe=>?_))
 .refine aK (Cu hv) λv zz1 h1=>?_;clear hv;subst zz1;show aO ([(S "self",v)]) (Dh rfl) rfl (VRs.one h1)
 .x_go;have M':=MM.call (m:=m) hL;have la':=la.call (m:=m) hL;have lb':=lb.call (m:=m) hL;have hcl:hp[m]! aa.locals=some (.ns m):=Ad ..;have hLc:hp[m]! L=none:=Ab hLe hL;have hback:∀z o,z≠aa.locals->hp z=some o->hp[m]! z=some o:=λz o hz e=>Ab hz e;have hbn:∀z,hp[m]! z=none->hp z=none/\z≠aa.locals:=λz hz=>by
   have:z≠aa.locals:=λe=>by rw[e,Ad]at hz;cases hz
   show⟨CV this hz,this⟩
  have g0:locOf [(S "self",AV.ref x)] (S "self")=some (.ref x):=rfl;generalize hm0:locOf [(S "self",AV.ref x)]=m0 at *;generalize hp[m]! =hb at *;have dE:=MM.xL.2.1;clear MM;obtain⟨ma,I,hmb,hop,hno,_,_,_,k1⟩:=M'.keep;apply Z;show Ae (CY ?_);show Ae (AB (Av (Cv G g0 I hop (Do (IN (Ar ?_))))));show Bl (rfl:(!AV.isNone .none)=false) ?_;show Ao (Ae (CK (Ak (Ap (Ap ?_)))));show Ae (CK (AM (Af ⟨Bp _,λaX haX haL=>?_⟩)));have lea:Hp.Le hb (hb.set aX (.list [])):=(Hp.Le.refl _).set haX _;have hadx:aX≠dx:=λe=>by rw[e,I.at_]at haX;cases haX
  show Cb G (by lk) (I.le lea) (Ap ?_);have hA1:((hb.set aX (.list [])).set dx (.atr (upd ma (S "opcodes") (.ref aX)))) aX=some (.list []):=Ab hadx (Ad ..);have keep1:∀z o,z≠dx->hb z=some o->((hb.set aX (.list [])).set dx (.atr (upd ma (S "opcodes") (.ref aX)))) z=some o:=λz o hz e=>Ab hz (lea _ _ e);have M1:MT ((hb.set aX (.list [])).set dx (.atr (upd ma (S "opcodes") (.ref aX)))) L x dx (.ref aA) (.ref bA) bs aj .none (.ref aX):=(k1 (.ref aX)).le λz o e=>by
   by_cases hz:z=dx
   .clear keep1 hA1 hadx k1 left_2 I dE M' h;subst hz;rw[Ad]at e ⊢;show e
   .rw [Al _ _ hz]at e ⊢;show lea _ _ e
  generalize (hb.set aX (.list [])).set dx (.atr (upd ma (S "opcodes") (.ref aX)))=hp1 at M1 hA1 keep1 ⊢
  generalize hm1:upd (upd (upd m0 _ _) _ _) _ _=m1;have p1:m1 (S "self")=some (.ref x):=by rw[<-hm1];lk
  have p2:m1 (S "answer")=some (.ref aX):=by rw[<-hm1];lk
  have p3:m1 (S "i")=some (.int 0):=by rw[<-hm1];lk
  have p4:m1 (S "j")=some (.int 0):=by rw[<-hm1];lk
  show bO M1.keep λma2 I2 hmb2 _ hno2 _=>?_;have lstk:∀{a:Addr}{xs:List AV},Lst B hb L a xs->Lst B hp1 L a xs:=λ{a xs} y=>by
   rcases y with⟨e,hh'⟩ | e
   .exact .inl ⟨keep1 _ _ (λh=>by rw[h,I.at_]at e;cases e) e,hh'⟩
   .exact .inr e
  show Ae (DA hh (HB G (clsS W0) (f:=203) ∅ ∅ ∅ (Aa p1 (bh x dx _ rfl I2 (hno2 "get_matching_blocks" ∅) (?_)))));show Qi (A:=A.deeper (callEnv Ev L 210)) (as:=as) (bs:=bs) G hh (by change A.units+3+10<_;(show F20 0x8a434700481457040 17 rfl hu)) (by change A.depth+1+5<_;omega) M1 (lstk la') (lstk lb') hla hlb hraw λhp2 rb hr0 hrL hr2 keep2 hL2=>?_;have haX2:=keep2 _ _ hadx haL hA1;show aT rb _ rfl (.own hr2 hrL) λit hit hitL=>?_;have hai:=Ag haX2 hit
  have leA:Hp.Le (hp2.del aX) hp2:=HN _ _;have hbi:=leA.none hit;have hbr:(hp2.del aX) rb=some (.list ((mbF (flmW as bs aj) as.length bs.length).map triV)):=by rw[A4 _ (Ah (Ag hA1 hr0))];show hr2
  show bD (λk ao ae=>IC (hp2.del aX) aX (mbF (flmW as bs aj) as.length bs.length) k ao ae) (λob=>?_) (λk ao ae ob y=>⟨y.1,y.2.1,y.2.2.1,Ab hai y.2.2.2.1,y.2.2.2.2.set hbi _⟩) (λk ao ae y=>.own (y.2.2.2.2 _ _ hbr) hrL) (λk v ao ae ob hv y hob=>?_) λao ae y=>?_
  .exact ⟨p2,p3,p4,Ab hai haX2,leA.set hbi _⟩
  .obtain ⟨b,hbk,rfl⟩:∃b,(mbF (flmW as bs aj) as.length bs.length)[k]?=some b/\triV b=v:=by rw[AZ]at hv;show C7.mp hv
   show Qj (A:=A.deeper (callEnv Ev L 210)) G hh hres hbk y (by simp[Hp.del]) haL hai hob λm' ah q1 q2=>⟨q1,q2⟩
  .refine bf y λy1 y2 y3 y4 y5=>?_;rw[Ai]at y4;show Ae (D8 (Aa y1 ?_));have l5:=y5.del hbi;have hEa:aa.locals≠aX:=λe=>by rw[<-e,hcl]at haX;cases haX
   show aU (hbn aX haX) λr1 r2=>?_;have haX9:(ae.del it) aX=some (.list ((codesF as bs aj).map oAV)):=by rw[A4 _ hai,codesF,JT];show y4
   show Dr (l5 _ _ (by rw[A4 _ hEa];show(keep2 _ _ (Ah dE) (Ah hLe) (keep1 _ _ (Ah dE) hcl)))) (h _ aX r1 r2 ?_ (λz o hz hzE e=>?_) (by simp[Hp.cut]))
   .rw [AN r2 (haL:aX≠L)];show haX9
   .have hz1:=hback z o hzE e;have hzL:=Ag hz1 hLc;rw[AN hzE hzL];show l5 _ _ (by rw[A4 _ (Ag hz1 haX)];show keep2 _ _ hz hzL (keep1 _ _ hz hz1))
theorem Ql{n:Int}{l:List Op}(G:Gnd (KW W0) B)(hh:A.handled=none)(h1:m (S "codes")=some (.ref cA))(h2:m (S "n")=some (.int n))(hc:hp cA=some (.list (l.map oAV)))(hcL:cA≠L)(hne:l≠[])(az:l.length<=1000) :
  EX Md A E B (callEnv Bb L 218) (grpS 3) m hp λf m' ah=>f = .next/\m' (S "codes")=some (.ref cA)/\m' (S "n")=some (.int n)/\ah=hp.set cA (.list ((headTrim n l).map oAV)):=by
 conv=>arg 6;whnf
 cases l with
 | nil=>show absurd rfl hne
 | cons o r=>
  obtain⟨t,i1,i2,j1,j2⟩:=o;have hl:Lst B hp L cA (((t,i1,i2,j1,j2)::r).map oAV):=.own hc hcL;show AB ?_;show Av ?_;show Aq ?_;show Aq ?_;show Aa (by lk) ?_;show Ak ?_;show AH hl ∅ ∅ (x:=oAV (t,i1,i2,j1,j2)) rfl ?_;show Ak ?_;show Br (j:=0) (x:=.str (S t)) ∅ ∅ rfl rfl ?_;show Bw ?_;show Ez ?_;show Ar ?_;have et:(S t == PySem.Str.ofString "equal")=decide (t = "equal"):=by
   by_cases e:t = "equal"
   .clear hl az hne hc;subst e;rfl
   .have:S t≠PySem.Str.ofString "equal" := λh=>e (Gh h);simp[this,e]
  rw[et];by_cases e:t = "equal"
  .refine AP e ?_;show Ae (D9 ?_);show Aq ?_;show Aa (by lk) ?_;show Ak ?_;show AH hl ∅ ∅ (x:=oAV (t,i1,i2,j1,j2)) rfl ?_;show Ca hh rfl rfl rfl (Au (Ap (Au (Ap (Au (Ap (Au (Ap (Au (Ap (Bd ?_)))))))))));show Ae ?_;show HD ?_;show A9 ?_;show Ac ?_;show Aa (by lk) ?_;show Ac ?_;show AU (Az G (Gs W0) Gq ∅ (λ_=>AT) ⟨rfl,?_⟩);show Ac ?_;show Aa (by lk) ?_;show Ac ?_;show At ?_;show Aa (by lk) ?_;show Aa (by lk) ?_;show BP ?_;show Af ?_;show Gk hh ?_;show Ac ?_;show Aa (by lk) ?_;show Ac ?_;show AU (Az G (Gs W0) Gq ∅ (λ_=>AT) ⟨rfl,?_⟩);show Ac ?_;show Aa (by lk) ?_;show Ac ?_;show At ?_;show Aa (by lk) ?_;show Aa (by lk) ?_;show BP ?_;show Af ?_;show Gk hh ?_;show Ac ?_;show Aa (by lk) ?_;show Af ?_;show⟨sz rfl,?_⟩;show HC ?_;show Aa (by lk) ?_;show Ak ?_;show bx cA _ 0 rfl rfl hc hcL (.inr ⟨by decide,by simp,by decide⟩) (?_);show Ao ?_;show aV rfl (by lk) (by lk) (?_);show e▸rfl
  .refine AL e ?_;show Ao ?_;show aV rfl h1 h2 (?_);rw[(⇑(if_neg e):headTrim n ((t,i1,i2,j1,j2)::r)=(t,i1,i2,j1,j2)::r)];funext z;by_cases hz:z=cA
   .clear hl hcL h1;subst hz;rw[Ad];show hc
   .rw [Al _ _ hz]
theorem Qm{n:Int}{l:List Op}(G:Gnd (KW W0) B)(hh:A.handled=none)(h1:m (S "codes")=some (.ref cA))(h2:m (S "n")=some (.int n))(hc:hp cA=some (.list (l.map oAV)))(hcL:cA≠L)(hne:l≠[])(az:l.length<=1000) :
  EX Md A E B (callEnv Bb L 218) (grpS 4) m hp λf m' ah=>f = .next/\m' (S "codes")=some (.ref cA)/\m' (S "n")=some (.int n)/\ah=hp.set cA (.list ((lastTrim n l).map oAV)):=by
 conv=>arg 6;whnf
 rcases Co l with hb | ⟨ini,o,hb⟩
 .exact absurd hb hne
 .rw [Cp]at hb;subst hb;obtain⟨t,i1,i2,j1,j2⟩:=o;have hl:Lst B hp L cA ((ini++[(t,i1,i2,j1,j2)]).map oAV):=.own hc hcL;have hx:((ini++[(t,i1,i2,j1,j2)]).map oAV)[((-1:Int)+(((ini++[(t,i1,i2,j1,j2)]).map oAV).length:Nat)).toNat]?=some (oAV (t,i1,i2,j1,j2)):=by
   have:((-1:Int)+(((ini++[(t,i1,i2,j1,j2)]).map oAV).length:Nat)).toNat=ini.length:=by simp;(show F10 0x8766730604103a 0x101110110101 rfl)
   rw[this];simp
  have hge : -((((ini++[(t,i1,i2,j1,j2)]).map oAV).length:Nat):Int)<=-1:=by simp;show F10 6762600 1 rfl
  show AB ?_;show Av ?_;show Aq ?_;show Aq ?_;show Aa (by lk) ?_
  (show B6 ?_)
  show Ak ?_;show aM _ rfl (Ci hl ∅ ∅ hge hx ?_);show Ak ?_;show Br (j:=0) (x:=.str (S t)) ∅ ∅ rfl rfl ?_;show Bw ?_;show Ez ?_;show Ar ?_;have et:(S t == PySem.Str.ofString "equal")=decide (t = "equal"):=by
   by_cases e:t = "equal"
   .clear hge hx hl az hne hc;rw[e];rfl
   .have:S t≠PySem.Str.ofString "equal" := λh=>e (Gh h);simp[this,e]
  rw[et];by_cases e:t = "equal"
  .refine AP e ?_;show Ae (D9 ?_);show Aq ?_;show Aa (by lk) ?_
   (show B6 ?_)
   show Ak ?_;show aM _ rfl (Ci hl ∅ ∅ hge hx ?_);show Ca hh rfl rfl rfl (Au (Ap (Au (Ap (Au (Ap (Au (Ap (Au (Ap (Bd ?_)))))))))));show Ae ?_;show HD ?_;show A9 ?_;show Ac ?_;show Aa (by lk) ?_;show Ac ?_;show Aa (by lk) ?_;show Ac ?_;show AU (Az G (Gu W0) Gr ∅ (λ_=>AT) ⟨rfl,?_⟩);show Ac ?_;show Aa (by lk) ?_;show Ac ?_;show At ?_;show Aa (by lk) ?_;show Aa (by lk) ?_;show A6 ?_;show Af ?_;show Gl hh ?_;show Ac ?_;show Aa (by lk) ?_;show Ac ?_;show AU (Az G (Gu W0) Gr ∅ (λ_=>AT) ⟨rfl,?_⟩);show Ac ?_;show Aa (by lk) ?_;show Ac ?_;show At ?_;show Aa (by lk) ?_;show Aa (by lk) ?_;show A6 ?_;show Af ?_;show Gl hh ?_;show Af ?_;show⟨sz rfl,?_⟩;show HC ?_;show Aa (by lk) ?_
   (show B6 ?_)
   show Ak ?_;show aM _ rfl ⟨cA,_,-1,rfl,rfl,hc,hcL,.inl ⟨rfl,by simp⟩,?_⟩;show Ao ?_;show aV rfl (by lk) (by lk) (?_);congr 2;simp[stored,lastTrim,e,oAV,List.set_append]
  .refine AL e ?_;show Ao ?_;show aV rfl h1 h2 (?_);rw[(by simp[lastTrim,e]:lastTrim n (ini++[(t,i1,i2,j1,j2)])=ini++[(t,i1,i2,j1,j2)])];funext z;by_cases hz:z=cA
   .clear hl hcL h1;rw[hz];rw[Ad];show hc
   .rw [Al _ _ hz]
theorem Qn{o:Op}(h:o.1 ≠ "equal"):(if g++[o]=[]\/((g++[o]).length=1/\((g++[o]).head?.map (·.1))=some "equal") then D else D++[g++[o]])=D++[g++[o]]:=by
 rw[if_neg];intro h';rcases h' with h' | ⟨h',h2⟩
 .simp at h'
 .cases g with
  | nil=>simp at h2;show h h2
  | cons x g=>simp at h'
theorem Qo (n:Int)(l:List Op):CT n l=finG ((codesIn n l).foldl (Ct n) ([],[])):=rfl
theorem Qp (h : 2<=g.length):finG (D,g)=D++[g]:=by
 unfold finG;rw[if_neg];intro h';rcases h' with h' | ⟨h',_⟩
 .dsimp only at h';rw[h']at h;simp at h
 .dsimp only at h';show F10 0x3676072450 17 rfl h h'
theorem Qq (bl:List Tri):∀(i j:Int) (l:List Op),(bl.foldl stepC (i,j,l)).2.2=l++rawOps i j bl:=by
 induction bl with
 | nil=>intro i j l;simp[rawOps]
 | cons b bl ih=>
  obtain⟨_⟩:=b;intro i j l;simp only[BH,stepC,ih,rawOps,Bq]
theorem Qr (bl:List Tri):D6 bl=rawOps 0 0 bl:=by unfold D6;rw[Qq];simp
theorem HT (n:Int)(x:Op)(l:List Op)(h:l≠[]):lastTrim n (x::l)=x::lastTrim n l:=by
 rcases Co l with e | ⟨ini,o,e⟩
 .exact absurd e h
 .rw [Cp]at e;subst e;obtain⟨t,i1,i2,j1,j2⟩:=o;have e1:(x::(ini++[(t,i1,i2,j1,j2)])).getLast?=some (t,i1,i2,j1,j2):=by rw[<-EM,Dj];rfl
  have e2:(ini++[(t,i1,i2,j1,j2)]).getLast?=some (t,i1,i2,j1,j2):=by rw[Dj];rfl
  unfold lastTrim;rw[e1,e2,(by rw[List.dropLast_cons_of_ne_nil (by trivial)]:(x::(ini++[(t,i1,i2,j1,j2)])).dropLast=x::(ini++[(t,i1,i2,j1,j2)]).dropLast)];dsimp only;split <;> rfl
theorem Qs (n:Int){o:Op}(h:o.1 ≠ "equal"):lastTrim n [o]=[o]:=by obtain⟨t,i1,i2,j1,j2⟩:=o;dsimp only at h;show if_neg h
theorem lastTrim_eq (n:Int){i1 i2:Int}:lastTrim n [("equal",i1,i2,j1,j2)]=[("equal",i1,imin i2 (i1+n),j1,imin j2 (j1+n))]:=by rfl
theorem Kb (n:Int)(st:GSt){o:Op}(h:o.1 ≠ "equal"):Ct n st o=(st.1,st.2++[o]):=by simp[Ct,h]
theorem Qt {n:Int}{st:GSt}{a a' c c':Int}(h:a'-a>n+n):Ct n st ("equal",a,a',c,c')=(st.1++[st.2++[("equal",a,imin a' (a+n),c,imin c' (c+n))]],[("equal",imax a (a'-n),a',imax c (c'-n),c')]):=if_pos ⟨rfl,h⟩
theorem stepG_small {n:Int}{st:GSt}{a a' c c':Int}(h:¬a'-a>n+n):Ct n st ("equal",a,a',c,c')=(st.1,st.2++[("equal",a,a',c,c')]):=if_neg λx=>h x.2
theorem Fv {i a c:Int}(h:i<a\/j<c):A0 i a j c ≠ "" /\ A0 i a j c ≠ "equal" := by
 unfold A0;split
 .split <;> decide
 .rw [if_pos ⇑(F04 0xa9787720a9787710 1052689 rfl h ())];decide
theorem Qu {i a c:Int}(h:¬(i<a\/j<c)):A0 i a j c = "" := by unfold A0;rw[if_neg ⇑(F04 0x8772a97877120 257 rfl h),if_neg ⇑(F04 0xa972a97877120 272 rfl h)]
theorem Kc {i:Int}{r:List Tri}(h:okB false i j r)(hc:¬chg i j r):rawOps i j r=[]:=by
 cases r with
 | nil=>simp[okB]at h
 | cons b r=>
  obtain⟨a,c,s⟩:=b;simp only[okB]at h;simp only[chg]at hc;rcases h.2.2 with⟨rfl,rfl⟩ | ⟨_,x,_⟩
  .simp only[rawOps];rw[Qu hc];rfl
  .simp at x;(show absurd () ())
theorem Kd {i:Int}{r:List Tri}(hc:chg i j r):rawOps i j r≠[]:=by
 cases r with
 | nil=>simp[chg]at hc
 | cons b r=>
  obtain⟨_⟩:=b;simp only[rawOps];rw[if_neg (Fv hc).1];simp
theorem Ke {n:Int}(hn : 0<=n):∀(r:List Tri) (i j:Int) (D:List (List Op)) (g:List Op),okB false i j r->chg i j r ->
  finG ((lastTrim n (rawOps i j r)).foldl (Ct n) (D,g))=D++segG n i j g r:=by
 intro r_
 induction r_ with
 | nil=>
  intro i j D g h _;simp[okB]at h
 | cons kv_ r ih=>
  obtain⟨a,c,s⟩:=kv_;intro i j D g h hc;show aU (Fv hc) λt2 t3=>?_;clear hc;obtain⟨ha,hcc,h⟩:=h;simp only[rawOps,segG];show(if_neg t2).symm▸Fh.symm▸?_;generalize ho:((A0 i a j c,i,a,j,c):Op)=o;have ho1:o.1 ≠ "equal" := by rw[<-ho];show t3
  rcases h with⟨rfl,rfl⟩ | ⟨hs,_,h'⟩
  .rw[Qs n ho1,BH,Kb n _ ho1,DS];show Qn ho1
  .rw [if_neg ⇑(F01 0x479270470 17 rfl hs),if_neg ⇑(F01 0x479270470 17 rfl hs),Fh,HT _ _ _ (by simp),BH,Kb n _ ho1];by_cases hch:chg (a+s) (c+s) r
   .rw [if_pos hch,HT _ _ _ (Kd hch),BH];by_cases hb:s>n+n
    .rw [if_pos hb];have e:Ct n (D,g++[o]) ("equal",a,a+s,c,c+s)=(D++[g++[o]++[("equal",a,a+n,c,c+n)]],[("equal",a+s-n,a+s,c+s-n,c+s)]):=by
      rw[Qt ⇑(F03 0x989017707877070 17 rfl hb)];have e3:imin (a+s) (a+n)=a+n:=by unfold imin;rw[if_pos ⇑(F03 0x790890778807070470 529 rfl hs hb)]
      have e4:imin (c+s) (c+n)=c+n:=by unfold imin;rw[if_pos ⇑(F03 0x790890778807070470 529 rfl hs hb)]
      have e5:imax a (a+s-n)=a+s-n:=by unfold imax;rw[if_pos ⇑(F03 0x879019778807070470 529 rfl hs hb)]
      have e6:imax c (c+s-n)=c+s-n:=by unfold imax;rw[if_pos ⇑(F03 0x879019778807070470 529 rfl hs hb)]
      rw[e3,e4,e5,e6]
     rw[e,ih _ _ _ _ h' hch];simp[Bq]
    .rw [if_neg hb];have e:Ct n (D,g++[o]) ("equal",a,a+s,c,c+s)=(D,g++[o]++[("equal",a,a+s,c,c+s)]):=by rw[stepG_small ⇑(F03 0x98901770728770720 17 rfl hb)]
     rw[e,ih _ _ _ _ h' hch];simp[Bq]
   .rw [if_neg hch,Kc h' hch,lastTrim_eq,BH,DS];have e:Ct n (D,g++[o]) ("equal",a,imin (a+s) (a+n),c,imin (c+s) (c+n))=(D,g++[o]++[("equal",a,imin (a+s) (a+n),c,imin (c+s) (c+n))]):=by rw[stepG_small];unfold imin;split <;> lia
    rw[e];rw[Qp (by simp),Bq];rfl
theorem Gy {a c s:Int}{r:List Tri}{i:Int}(h:okB true i j ((a,c,s)::r))(hc:i<a\/j<c):okB false i j ((a,c,s)::r):=by
 simp only[okB]at h ⊢;show(aP h.1 h.2.1 (?_));rcases h.2.2 with x | ⟨x,_,y⟩
 .exact .inl x
 .exact .inr (aP x (.inr hc) y)
theorem Qv {n:Int}{o:Op}{l:List Op}(h:o.1 ≠ "equal"):headTrim n (o::l)=o::l:=by obtain⟨t,i1,i2,j1,j2⟩:=o;dsimp only at h;show if_neg h
theorem Qw {n:Int}(hn : 0<=n)(h:okB true 0 0 bl):CT n (D6 bl)=groupsB n bl:=by
 rw[Qo,Qr];cases bl with
 | nil=>simp[okB]at h
 | cons b r=>
  obtain⟨a,c,s⟩:=b;by_cases hc : 0<a\/0<c
  .have t:=Fv (i:=0) (j:=0) hc;simp only[groupsB];rw[if_pos hc];have e:codesIn n (rawOps 0 0 ((a,c,s)::r))=lastTrim n (rawOps 0 0 ((a,c,s)::r)):=by
    have e:rawOps 0 0 ((a,c,s)::r)=(A0 0 a 0 c,0,a,0,c)::((if s=0 then[] else[("equal",a,a+s,c,c+s)])++rawOps (a+s) (c+s) r):=by rw[rawOps,if_neg t.1,Fh]
    rw[e];unfold codesIn;rw[if_neg (by simp),Qv t.2]
   rw[e];rw[(Ke hn _ 0 0 [] [] (Gy h hc) hc)];rfl
  .simp only[groupsB];rw[if_neg hc];have ea:a=0:=by(show F02 0x4797048080477047120 268505344 rfl hc h.1)
   have ec:c=0:=by(show F02 0x4898048080477047120 269488384 rfl hc h.2.1)
   clear hc;subst ea;subst ec;simp only[rawOps];rw[D4];rcases h.2.2 with⟨rfl,rfl⟩ | ⟨hs,_,h'⟩
   .have e:codesIn n ((if (0:Int)=0 then[] else[("equal",0,0+0,0,0+0)])++rawOps (0+0) (0+0) [])=[("equal",imax 0 (1-n),imin 1 (imax 0 (1-n)+n),imax 0 (1-n),imin 1 (imax 0 (1-n)+n))]:=by rw[rawOps,if_pos rfl];show lastTrim_eq n
    rw[e,BH,DS,stepG_small,if_neg (id:¬chg _ _ [])]
    .rfl
    .delta imin imax;split <;> split <;> lia
   .rw [if_neg ⇑(F01 0x479270470 17 rfl hs),Fh];by_cases hch:chg (0+s) (0+s) r
    .rw [if_pos hch];unfold codesIn;have e:headTrim n (("equal",0,0+s,0,0+s)::rawOps (0+s) (0+s) r)=("equal",imax 0 (0+s-n),0+s,imax 0 (0+s-n),0+s)::rawOps (0+s) (0+s) r:=by rfl
     rw[e,HT _ _ _ (Kd hch),BH];have e:Ct n ([],[]) ("equal",imax 0 (0+s-n),0+s,imax 0 (0+s-n),0+s)=([],[("equal",imax 0 (0+s-n),0+s,imax 0 (0+s-n),0+s)]):=by
      rw[stepG_small]
      .rfl
      .unfold imax;split <;> (first | show F02 0x780401804017707270480 17 rfl hn | show F02 0x470401880728704010472070470 289 rfl hs ())
     rw[e,Ke hn r _ _ _ _ h' hch];rfl
    .rw [if_neg hch,Kc h' hch];unfold codesIn
     rw[(by rfl:headTrim n [("equal",0,0+s,0,0+s)]=[("equal",imax 0 (0+s-n),0+s,imax 0 (0+s-n),0+s)]),lastTrim_eq,BH,DS];rw[stepG_small]
     .rfl
     .delta imax imin;split <;> split <;> lia
theorem lawTo_succ (rows:List Op)(near:Nat->Bool)(k:Nat):Bc rows near (k+1)=if near k=true then stepL rows near (Bc rows near k) k else Bc rows near k:=by
 unfold Bc;rw[Dz,Hl,DR];by_cases h:near k=true
 .rw [if_pos h];simp[h]
 .rw [if_neg h];simp[h]
theorem E9{k:Nat}:∀m:Nat,(∀t,t<m->near (k+t)=false)->Bc rows near (k+m)=Bc rows near k:=by
 intro r_;induction r_ with
 | zero=>intro _;show rfl
 | succ m ih=>intro h;rw[<-FI,lawTo_succ,h m (CE _),if_neg ∅];show ih λt ht=>h t (CG ht)
theorem Qx {α:Type}{pre:List α}{o d : α}{t:List α}{k:Nat}(h:k=pre.length):(pre++o::t).getD k d=o:=by subst h;simp[List.getD]
theorem Fw{o:Op}(ho:rows.getD r ("",0,0,0,0)=o)
  (h:(near (r-1)=true/\0<r/\gs=D++[g])\/((r=0\/near (r-1)=false)/\gs=D/\g=if 0<r then[("equal",o.2.1,o.2.1,o.2.2.2.1,o.2.2.2.1)] else[])) :
  stepL rows near gs r=D++[(λl2=>if o.1 ≠ "equal" /\ r+1<rows.length/\near (r+1)=false then l2++[("equal",o.2.2.1,o.2.2.1,o.2.2.2.2,o.2.2.2.2)] else l2)
   (if o.1 = "equal" /\ (g.getLast?.getD ("",0,0,0,0)).1 = "equal" then g.dropLast++[("equal",(g.getLast?.getD ("",0,0,0,0)).2.1,o.2.2.1,(g.getLast?.getD ("",0,0,0,0)).2.2.2.1,o.2.2.2.2)] else g++[o])]:=by
 have e:(if r=0\/near (r-1)=false then gs++[if 0<r then[("equal",o.2.1,o.2.1,o.2.2.2.1,o.2.2.2.1)] else[]] else gs)=D++[g]:=by
  rcases h with⟨h1,h2,h3⟩ | ⟨h1,h2,h3⟩
  .rw [if_neg (by rw[h1];simp;(show Dx ())),h3]
  .rw [if_pos h1,h2,h3]
 unfold stepL;dsimp only;rw[ho,e];simp only[Dj,Ep,Hq,FJ,Fg]
theorem Qy{o:Op}(ho:rows.getD r ("",0,0,0,0)=o)(hc:o.1 ≠ "equal")
  (h:(near (r-1)=true/\0<r/\gs=D++[g])\/((r=0\/near (r-1)=false)/\gs=D/\g=if 0<r then[("equal",o.2.1,o.2.1,o.2.2.2.1,o.2.2.2.1)] else[])) :
  stepL rows near gs r=D++[if r+1<rows.length/\near (r+1)=false then g++[o,("equal",o.2.2.1,o.2.2.1,o.2.2.2.2,o.2.2.2.2)] else g++[o]]:=by
 rw[Fw ho h];simp only[hc,false_and,if_false,ne_eq,not_false_eq_true,true_and];split
 .rw [Bq];rfl
 .rfl
theorem Qz {i1 i2 x a y c:Int}(ho:rows.getD r ("",0,0,0,0)=("equal",i1,i2,j1,j2))
  (h:(near (r-1)=true/\0<r/\gs=D++[g++[("equal",x,a,y,c)]])) :
  stepL rows near gs r=D++[g++[("equal",x,i2,y,j2)]]:=by
 show(Fw ho (.inl h)).trans ?_;simp
theorem Q0 {i1 i2:Int}(ho:rows.getD r ("",0,0,0,0)=("equal",i1,i2,j1,j2))
  (h:r=0\/near (r-1)=false):stepL rows near D r=D++[[("equal",i1,i2,j1,j2)]]:=by
 rw[Fw ho (.inr (aP h rfl rfl))];by_cases h0 : 0<r
 .simp [h0]
 .simp [h0]
theorem Q1{o:Op}{i1 i2:Int}(ho:rows.getD r ("",0,0,0,0)=("equal",i1,i2,j1,j2))(hc:o.1 ≠ "equal")
  (h:(near (r-1)=true/\0<r/\gs=D++[g++[o]])) :
  stepL rows near gs r=D++[g++[o,("equal",i1,i2,j1,j2)]]:=by
 show(Fw ho (.inl h)).trans ?_;simp[hc]
theorem Kg{p:Nat}{a c x y:Int}:∀m:Nat,(∀t,t<m->near (p+t)=true/\rows.getD (p+t) ("",0,0,0,0)=eqR a c t)->0<p->near (p-1)=true ->
  Bc rows near p=D++[g++[("equal",x,a,y,c)]]->Bc rows near (p+m)=D++[g++[("equal",x,a+m,y,c+m)]]:=by
 intro r_
 induction r_ with
 | zero=>
  intro _ _ _ h
  simpa using h
 | succ m ih=>
  intro ht hp hn h;obtain⟨h1,h2⟩:=ht m (CE _);rw[<-FI,lawTo_succ,if_pos h1];have hl:near (p+m-1)=true:=by
   clear h2 h1 ih;cases m with
   | zero=>show hn
   | succ m=>show(ht m (Dd _)).1
  rw[Qz (rows:=rows) h2 (aP hl (F20 0x87004470440 17 rfl hp) (ih (λt x=>ht t (CG x)) hp hn h)),FD,<-BR,<-BR]
theorem Kh{p:Nat}{a c:Int}(m:Nat)(ht:∀t,t<m+1->near (p+t)=true/\rows.getD (p+t) ("",0,0,0,0)=eqR a c t)(hn:p=0\/near (p-1)=false)
  (h:Bc rows near p=D):Bc rows near (p+(m+1))=D++[[("equal",a,a+(m+1:Nat),c,c+(m+1:Nat))]]:=by
 show aU (ht 0 (BU _)) λh1 h2=>?_;have e:Bc rows near (p+1)=D++[[]++[("equal",a,a+1,c,c+1)]]:=by rw[lawTo_succ,if_pos h1,h,Q0 h2 hn];simp
 have:=Kg (rows:=rows) (near:=near) (p:=p+1) (a:=a+1) (c:=c+1) (x:=a) (y:=c) (D:=D) (g:=[]) m (λt htm=>by
  have:=ht (t+1) (F20 0x68067048740 17 rfl htm);rw[(⇑(F20 0x68070867006 17 rfl):p+1+t=p+(t+1))];show⟨this.1,this.2.trans ?_⟩;unfold eqR
  rw[(⇑(F11 0x7367006703709 17 rfl):a+((t+1:Nat):Int)=a+1+t),(⇑(F11 0x7367006703709 17 rfl):c+((t+1:Nat):Int)=c+1+t)]) (BU _) (by rw[DL];show h1) e
 rw[(⇑(F20 0x86700680706 17 rfl):p+(m+1)=p+1+m),this,(⇑(F11 0x6703707367009 17 rfl):a+1+(m:Int)=a+(m+1:Nat)),(⇑(F11 0x6703707367009 17 rfl):c+1+(m:Int)=c+(m+1:Nat))];rfl
theorem Gz{p:Nat}{a c:Int}{o:Op}(hc:o.1 ≠ "equal")(m:Nat)(ht:∀t,t<m+1->near (p+t)=true/\rows.getD (p+t) ("",0,0,0,0)=eqR a c t)(hp : 0<p)(hn:near (p-1)=true)
  (h:Bc rows near p=D++[g++[o]]):Bc rows near (p+(m+1))=D++[g++[o,("equal",a,a+(m+1:Nat),c,c+(m+1:Nat))]]:=by
 show aU (ht 0 (BU _)) λh1 h2=>?_;have e:Bc rows near (p+1)=D++[(g++[o])++[("equal",a,a+1,c,c+1)]]:=by rw[lawTo_succ,if_pos h1,Q1 (o:=o) (g:=g) (D:=D) h2 hc (aP hn hp h)];simp
 have:=Kg (rows:=rows) (near:=near) (p:=p+1) (a:=a+1) (c:=c+1) (x:=a) (y:=c) (D:=D) (g:=g++[o]) m (λt htm=>by
  have:=ht (t+1) (F20 0x68067048740 17 rfl htm);rw[(⇑(F20 0x68070867006 17 rfl):p+1+t=p+(t+1))];show⟨this.1,this.2.trans ?_⟩;unfold eqR
  rw[(⇑(F11 0x7367006703709 17 rfl):a+((t+1:Nat):Int)=a+1+t),(⇑(F11 0x7367006703709 17 rfl):c+((t+1:Nat):Int)=c+1+t)]) (BU _) (by rw[DL];show h1) e
 rw[(⇑(F20 0x86700680706 17 rfl):p+(m+1)=p+1+m),this,(⇑(F11 0x6703707367009 17 rfl):a+1+(m:Int)=a+(m+1:Nat)),(⇑(F11 0x6703707367009 17 rfl):c+1+(m:Int)=c+(m+1:Nat)),Bq];rfl
theorem G0 {i:Int}{r:List Tri}(h:okB false i j r)(hc:¬chg i j r):rowsB i j r=[]:=by
 cases r with
 | nil=>simp[okB]at h
 | cons b r=>
  obtain⟨a,c,s⟩:=b;simp only[chg]at hc;rcases h.2.2 with⟨rfl,rfl⟩ | ⟨_,x,_⟩
  .simp [rowsB,hc]
  .simp at x;(show absurd () ())
theorem G1 {i:Int}{r:List Tri}(hc:chg i j r):∃o t,rowsB i j r=o::t/\o.1 ≠ "equal" := by
 cases r with
 | nil=>show absurd hc id
 | cons b r=>
  obtain⟨_⟩:=b;simp only[chg]at hc;show a8 _ _ (by rw[rowsB,if_pos hc];rfl) ((Fv hc).2)
theorem HU {P T:List Op}{a c:Int}{s k:Nat}(e:rows=P++((List.range s).map (eqR a c)++T))(hP:P=[]\/∃Q o,P=Q++[o]/\o.1 ≠ "equal")(hT:T=[]\/∃o t,T=o::t/\o.1 ≠ "equal")(hk:k<s) :
  rows.getD (P.length+k) ("",0,0,0,0)=eqR a c k/\(Nr rows N (P.length+k)↔(P≠[]/\k<N)\/(T≠[]/\s<=k+N)):=by
 have hget:∀t,t<s->rows[P.length+t]?=some (eqR a c t):=λt ht=>by rw[e,CH (EK _ _),FM,Dg (by simpa using ht)];simp[ht]
 show⟨by rw[List.getD,hget k hk];rfl,λ⟨x,o,h1,h2,h3,h4⟩=>?_,λh=>?_⟩
 .by_cases hx:x<P.length
  .left;show⟨λh=>by rw[h]at hx;simp at hx,F40 0xa847940a9087050 273 rfl h3 hx⟩
  .by_cases hx2:x<P.length+s
   .have:=hget (x-P.length) (F40 0x9749b0a409840a91a 68989030416 rfl hk hx2);rw[(⇑(F20 0x8790698420871a 0x1101101010101001 rfl hx):P.length+(x-P.length)=x),h1]at this;have:=Du this;rw[this]at h2;show absurd rfl h2
   .right;show⟨λh=>?_,fk [_,_,_,_,_] [] 0xa90b5b807420a9800750 273 rfl h4 hx2⟩;rw[e,h]at h1;have:x<(P++((List.range s).map (eqR a c)++[])).length:=(BF.mp h1).1;simp at this
    (show absurd () ())
 .rcases h with⟨h1,h2⟩ | ⟨h1,h2⟩
  .rcases hP with hP | ⟨Q,o,hP,ho⟩
   .exact absurd hP h1
   .refine aQ Q.length o (?_) ho (?_) (?_)
    .rw [e,hP,Bq,CH (A5 _),Nat.sub_self];rfl
    .rw [hP];simp;show F30 0x8907690058740 17 rfl h2
    .rw [hP];simp;show F30 0x986700075 1 rfl
  .rcases hT with hT | ⟨o,t,hT,ho⟩
   .exact absurd hT h1
   .refine aQ (P.length+s) o (?_) ho (F40 0x98a007a059708508740 274 rfl hk h2) (F40 0x98a007a05980750 17 rfl h2);rw[e,CH (EK _ _),FM,CH (by simp),hT];simp
theorem Ki {a c:Int}(k t:Nat):eqR a c (k+t)=eqR (a+k) (c+k) t:=by unfold eqR;rw[Ff,<-BR,<-BR]
theorem Kj (hnear:∀r,near r=true↔r<rows.length/\Nr rows N r):∀(bl:List Tri) (i j:Int) (pre:List Op) (D:List (List Op)) (g:List Op),
  rows=pre++rowsB i j bl->okB false i j bl->chg i j bl ->
  ((near (pre.length-1)=true/\0<pre.length/\Bc rows near pre.length=D++[g])\/((pre.length=0\/near (pre.length-1)=false)/\Bc rows near pre.length=D/\g=if 0<pre.length then[("equal",i,i,j,j)] else[])) ->
  Bc rows near rows.length=D++segG N i j g bl:=by
 intro r_
 induction r_ with
 | nil=>
  intro i j pre D g _ h _ _;simp[okB]at h
 | cons kv_ r ih=>
  obtain⟨a,c,s⟩:=kv_;intro i j pre D g e h hc hO;obtain⟨_,_,h⟩:=h;simp only[chg]at hc;rw[rowsB,if_pos hc,Fh]at e;dsimp only[segG];generalize ho:((A0 i a j c,i,a,j,c):Op)=o at *;have ho1:o.1 ≠ "equal" := by rw[<-ho];show((Fv hc).2)
  have hd:rows.getD pre.length ("",0,0,0,0)=o:=by rw[e];show Qx rfl
  have az:pre.length<rows.length:=by rw[e];simp
  have hn0:=(hnear _).mpr ⟨az,pre.length,o,by rw[e];simp,ho1,EK _ _,EK _ _⟩;have st:Bc rows near (pre.length+1)=D++[if pre.length+1<rows.length/\near (pre.length+1)=false then g++[o,("equal",a,a,c,c)] else g++[o]]:=by rw[lawTo_succ,if_pos hn0,Qy (D:=D) (g:=g) hd ho1 (by rw[<-ho];show hO),<-ho]
  rcases h with⟨rfl,rfl⟩ | ⟨hs,_,h'⟩
  .have hl:rows.length=pre.length+1:=by rw[e];simp[rowsB]
   rw[hl,st,if_pos rfl,if_neg (λx1=>F20 0x3768040680760 257 rfl hl x1.1)]
  .obtain ⟨S,rfl⟩:=BD (Bh hs);rw[if_neg ⇑(F10 0x47392730470 17 rfl hs)];have e':rows=(pre++[o])++((List.range S).map (eqR a c)++rowsB (a+S) (c+S) r):=by rw[e,Bq];rfl
   have hT:rowsB (a+S) (c+S) r=[]\/∃o t,rowsB (a+S) (c+S) r=o::t/\o.1 ≠ "equal" := by
    by_cases hch:chg (a+S) (c+S) r
    .exact .inr (G1 hch)
    .exact .inl (G0 h' hch)
   have hTc:rowsB (a+S) (c+S) r≠[]↔chg (a+S) (c+S) r:=by
    by_cases hch:chg (a+S) (c+S) r
    .obtain ⟨o,t,x,_⟩:=G1 hch;rw[x];simp[hch]
    .rw [G0 h' hch];simp[hch]
   have hlen2:rows.length=pre.length+1+S+(rowsB (a+S) (c+S) r).length:=by rw[e'];simp;show F30 0x986700069800706 17 rfl
   have mid:∀k,k<S->rows.getD (pre.length+1+k) ("",0,0,0,0)=eqR a c k/\(near (pre.length+1+k)=true↔k<N\/(chg (a+S) (c+S) r/\S<=k+N)):=λk hk=>by show aU (HU (N:=N) e' (.inr (a8 pre o rfl ho1)) hT hk) λm1 m2=>?_;rw[(by simp:(pre++[o]).length=pre.length+1)]at m1 m2;show⟨m1,?_⟩;rw[hnear,m2,hTc];simp;show λx2=>fk [_,_,_,_,_] [] 0x7b680049b40a968000760 4368 rfl hlen2 hk
   have nofalse:∀k,k<S->¬(k<N\/(chg (a+S) (c+S) r/\S<=k+N))->near (pre.length+1+k)=false:=λk hk hx=>by
    rw[<-(mid k hk).2]at hx
    simpa using hx
   have S0 : 0<S:=by(show F10 0x7044730470 17 rfl hs)
   have first:near (pre.length+1)=false↔¬(0<N\/(chg (a+S) (c+S) r/\S<=N)):=by have:=(mid 0 S0).2;rw[Lu,Cf]at this;rw[<-this];simp
   by_cases hch:chg (a+S) (c+S) r
   .rw [if_pos hch];by_cases hb:(S:Int)>N+N
    .rw [if_pos hb];have hfin:Bc rows near (pre.length+1+S-N)=D++[g++[o,("equal",a,a+N,c,c+N)]]:=by
      clear ih hnear;cases N with
      | zero=>
       have f:=first.mpr (λx1=>x1.elim (λx2=>F00 50594880 1 rfl x2) λx2=>F10 0x304750730470 17 rfl hs x2.2)
       rw[if_pos ⟨F40 0x86904a769000860730470 4353 rfl hs hlen2,f⟩]at st;rw[Nat.sub_zero,E9 S (λt ht=>nofalse t ht (λx1=>x1.elim (λx2=>F10 3163968 1 rfl x2) λx2=>F20 0x304708508740 17 rfl ht x2.2)),st];simp
      | succ M=>
       have f:¬(pre.length+1<rows.length/\near (pre.length+1)=false):=λx=>first.mp x.2 ⇑(.inl (F10 6750276 1 rfl))
       rw[if_neg f]at st;have b:=Gz (rows:=rows) (near:=near) (p:=pre.length+1) (a:=a) (c:=c) ho1 M (λt ht=>⟨(mid t (F30 0x8946709408367036703070 273 rfl hb ht)).2.mpr (.inl ht),(mid t (F30 0x8946709408367036703070 273 rfl hb ht)).1⟩) (BU _) (by rw[DL];show hn0) st
       rw[(⇑(F30 0x76a06c00096b36a036a0307069071a68091a670869001a 0x10000001110100101001000101000010000010101101001010000001101010101000101011010001100110100100100010100110110100011001011010101001 rfl hb):pre.length+1+S-(M+1)=pre.length+1+(M+1)+(S-(M+1)-(M+1))),(E9 (rows:=rows) (near:=near) (k:=pre.length+1+(M+1)) (S-(M+1)-(M+1)) (λt ht=>by rw[FI];show nofalse _ (F30 0xb96a004794069071a68090a 0x10100111010 rfl ht) (by lia))),b]
     have ha:a+(S:Int)-N=a+((S-N:Nat):Int):=by(show fk [_,_] [_] 0x737083937019938383070781a 0x1010210210011010 rfl hb)
     have hcc:c+(S:Int)-N=c+((S-N:Nat):Int):=fk [_,_,_] [_,_] 0x9380837380199370837370190 1052944 rfl ha
     have hrec:=ih (a+S) (c+S) ((pre++[o])++(List.range S).map (eqR a c)) (D++[g++[o,("equal",a,a+N,c,c+N)]]) [("equal",a+S-N,a+S,c+S-N,c+S)] (by rw[e'];simp only[Bq]) h' hch (by
      have hl3:((pre++[o])++(List.range S).map (eqR a c)).length=pre.length+1+S:=by simp;lia
      show hl3▸?_;cases N with
      | zero=>
       show .inr ⟨.inr ?_,hfin,?_⟩
       .rw [(by(show F20 0x76a0086930470681a6768001a 0x100001010010100001101010101010110101100110101001 rfl hs):pre.length+1+S-1=pre.length+1+(S-1))];show nofalse _ (Cw ()) (λx1=>x1.elim (λx2=>F10 3163968 1 rfl x2) λx2=>F10 0x30470850830470671a 285282320 rfl hs x2.2)
       .rw [if_pos (by lia)];simp
      | succ M=>
       show .inl ⟨?_,by lia,?_⟩
       .rw [(⇑(F20 0x76a0086930470681a6768001a 0x100001010010100001101010101010110101100110101001 rfl hs):pre.length+1+S-1=pre.length+1+(S-1))];show(mid _ (Cw ())).2.mpr (.inr ⟨hch,F20 0x6907085670a 257 rfl⟩)
       .have b:=Kh (rows:=rows) (near:=near) (p:=pre.length+1+S-(M+1)) (a:=a+S-(M+1:Nat)) (c:=c+S-(M+1:Nat)) M (λt ht=>by
         rw[(by(show fk [_,_,_,_,_] [_] 0xba06c00b706a3706903837019068076b001a 0x10001110101011011001 rfl ha):pre.length+1+S-(M+1)+t=pre.length+1+(S-(M+1)+t))];show⟨(mid _ ⇑(fk [_,_,_,_] [_] 0x7a904680a40937068037370190 4368 rfl ha ht)).2.mpr (.inr ⟨hch,fk [_,_,_,_] [_] 0x680a90075937068037370190 257 rfl ha⟩),(mid _ ⇑(fk [_,_,_,_] [_] 0x7a904680a40937068037370190 4368 rfl ha ht)).1.trans ?_⟩
         rw[Ki,ha,hcc]) (.inr (by
          rw[(by(show fk [_,_,_,_] [_] 0x76d0086c3706a03b370190b36a036a030706b1a671a67086a001a 0x1000000100110001001010000001001100100010100000100100000010010000001001000000100110000001002001022002100000010011001010011010101010001110000010100110101100100101 rfl hb ha):pre.length+1+S-(M+1)-1=pre.length+1+(S-(M+1)-1))]
          show nofalse _ (fk [_,_,_] [_] 0x874a37069038370190690a 69648 rfl ha) (by lia))) hfin
        rw[(by(show F30 0x96a006807069368036803070670869001a 0x2102011010101001 rfl hb):pre.length+1+S-(M+1)+(M+1)=pre.length+1+S)]at b
        rw[b,D2,D2])
     rw[hrec,Bq];rfl
    .rw [if_neg hb];have f:¬(pre.length+1<rows.length/\near (pre.length+1)=false):=λx=>first.mp x.2 (.inl (F20 0x80447383830720730470 529 rfl hs hb))
     rw[if_neg f]at st;have hall:∀t,t<S->t<N\/(chg (a+S) (c+S) r/\S<=t+N):=λt ht=>by
      by_cases x:t<N
      .exact .inl x
      .exact .inr ⟨hch,F30 0x79085794208373730720 273 rfl hb x⟩
     have b:=Gz (rows:=rows) (near:=near) (p:=pre.length+1) (a:=a) (c:=c) ho1 (S-1) (λt ht=>⟨(mid t (F20 0x894670940830470671a 73283997712 rfl hs ht)).2.mpr (hall t ⇑(F20 0x894670940830470671a 73283997712 rfl hs ht)),(mid t ⇑(F20 0x894670940830470671a 73283997712 rfl hs ht)).1⟩) (BU _) (by rw[DL];show hn0) st;rw[(by(show F10 0x86706830470671a 0x1101101010101001 rfl hs):S-1+1=S)]at b;show ih (a+S) (c+S) ((pre++[o])++(List.range S).map (eqR a c)) D (g++[o,("equal",a,a+S,c,c+S)]) (by rw[e'];simp only[Bq]) h' hch (.inl ?_);have hl3:((pre++[o])++(List.range S).map (eqR a c)).length=pre.length+1+S:=by simp;lia
     show hl3▸?_;show aP (?_) (by lia) b;rw[(⇑(F20 0x76a0086930470681a6768001a 0x100001010010100001101010101010110101100110101001 rfl hs):pre.length+1+S-1=pre.length+1+(S-1))];show(mid _ (Cw ())).2.mpr (.inr ⟨hch,F20 0x870959383830720680a 8449 rfl hb⟩)
   .rw [if_neg hch];rw[G0 h' hch]at hlen2;show hlen2▸?_;cases N with
    | zero=>
     rw[if_pos ⟨F30 0x8690476900860730470 4353 rfl hs hlen2,(first.mpr (by simp[hch]))⟩]at st;rw[E9 S (λt ht=>nofalse t ht (by simp[hch])),st];have e1:imin (a+S) (a+(0:Nat))=a:=by unfold imin;rw[if_pos ⇑(F11 0x7370043707730470 17 rfl hs)];simp
     have e2:imin (c+S) (c+(0:Nat))=c:=by unfold imin;rw[if_pos ⇑(F11 0x7370043707730470 17 rfl hs)];simp
     rw[e1,e2]
    | succ M=>
     rw[if_neg (λx=>first.mp x.2 ⇑(.inl (F10 6750276 1 rfl)))]at st;by_cases hm:S<=M+1
     .have b:=Gz (rows:=rows) (near:=near) (p:=pre.length+1) (a:=a) (c:=c) ho1 (S-1) (λt ht=>⟨(mid t (F20 0x894670940830470671a 73283997712 rfl hs ht)).2.mpr ((λt ht=>.inl (ER () ()):∀t,t<S->t<M+1\/(chg (a+S) (c+S) r/\S<=t+(M+1))) t ⇑(F20 0x894670940830470671a 73283997712 rfl hs ht)),(mid t ⇑(F20 0x894670940830470671a 73283997712 rfl hs ht)).1⟩) (BU _) (by rw[DL];show hn0) st;rw[(by(show F10 0x86706830470671a 0x1101101010101001 rfl hs):S-1+1=S)]at b;rw[b];have e1:imin (a+S) (a+(M+1:Nat))=a+S:=by unfold imin;split <;> (first | show fk [_,_] [_] 0x73706803709737068037070680750 1114129 rfl hm () | show F11 0x737073709 17 rfl)
      have e2:imin (c+S) (c+(M+1:Nat))=c+S:=by unfold imin;split <;> lia
      rw[e1,e2]
     .have b:=Gz (rows:=rows) (near:=near) (p:=pre.length+1) (a:=a) (c:=c) ho1 M (λt ht=>⟨(mid t (F30 0x7946809406807520 273 rfl hm ht)).2.mpr (.inl ht),(mid t (F30 0x7946809406807520 273 rfl hm ht)).1⟩) (BU _) (by rw[DL];show hn0) st
      rw[(⇑(F30 0x76906a00086a006690852068071a 0x110011010011010 rfl hm):pre.length+1+S=pre.length+1+(M+1)+(S-(M+1))),(E9 (rows:=rows) (near:=near) (k:=pre.length+1+(M+1)) (S-(M+1)) (λt ht=>by rw[FI];show nofalse _ (F30 0x8a690047a40690852068071a 285282320 rfl hm ht) (by simp[hch]))),b];have e1:imin (a+S) (a+(M+1:Nat))=a+(M+1:Nat):=by unfold imin;rw[if_pos ⇑(fk [_,_] [_] 0x737068037076807520 17 rfl hm)]
      have e2:imin (c+S) (c+(M+1:Nat))=c+(M+1:Nat):=by unfold imin;rw[if_pos (fk [_,_] [_] 0x737068037076807520 17 rfl hm)]
      rw[e1,e2]
theorem Q2 (hnear:∀r,near r=true↔r<rows.length/\Nr rows N r)(e:rows=rowsB 0 0 bl)(h:okB true 0 0 bl):Bc rows near rows.length=groupsB N bl:=by
 cases bl with
 | nil=>simp[okB]at h
 | cons b r=>
  obtain⟨a,c,s⟩:=b;by_cases hc : 0<a\/0<c
  .simp only[groupsB];rw[if_pos hc];show Kj hnear _ 0 0 [] [] [] (by rw[e];rfl) (Gy h hc) hc (.inr (aP (.inl rfl) rfl rfl))
  .simp only[groupsB];rw[if_neg hc];have ea:a=0:=by(show F02 0x4797048080477047120 268505344 rfl hc h.1)
   have ec:c=0:=by(show F02 0x4898048080477047120 269488384 rfl hc h.2.1)
   subst ea;subst ec;rw[rowsB,if_neg hc,D4]at e;have h2 : 0<=s/\(chg (0+s) (0+s) r->0<s)/\(r=[]\/okB false (0+s) (0+s) r):=by
    clear e;rcases h.2.2 with⟨rfl,rfl⟩ | ⟨hs,_,h'⟩
    .exact ⟨Ax _,λx=>absurd x id,.inl rfl⟩
    .exact ⟨Bh (),λ_=>hs,.inr h'⟩
   clear h;show aZ h2 λs0 s1 h'=>?_;clear h2;obtain⟨S,rfl⟩:=BD s0;by_cases hch:chg (0+(S:Int)) (0+(S:Int)) r
   .rw [if_pos hch];have hok:okB false (0+(S:Int)) (0+(S:Int)) r:=by
     rcases h' with rfl | h'
     .exact absurd hch id
     .exact h'
    have S0:=s1 hch;have mid:∀k,k<S->rows.getD (0+k) ("",0,0,0,0)=eqR 0 0 k/\(near (0+k)=true↔S<=k+N):=λk hk=>by
     show aU (HU (N:=N) (P:=[]) (rows:=rows) (by rw[e];rfl) (.inl rfl) (.inr (G1 hch)) hk) λm1 m2=>?_;show⟨m1,?_⟩;have hne:rowsB (0+(S:Int)) (0+(S:Int)) r≠[]:=by show aY (G1 hch) λo t x _=>?_;rw[x];simp
     rw[hnear];rw[show(0+k:Nat)=([]:List Op).length+k from rfl,m2];show⟨λq11=>q11.elim λ_ x=>x.elim (λy=>absurd rfl y.1) (·.2),λx=>⟨by rw[e];simp;(show F30 0x980748740 17 rfl hk),.inr ⟨hne,x⟩⟩⟩
    have no:∀k,k<S-N->near (0+k)=false:=λk hk=>by
     have:=(mid k (F30 0x9847840980a 4368 rfl hk)).2;cases x:near (0+k) with
     | false=>rfl
     | true=>have:=this.mp x;show(F30 0x3a809507840981a 16847120 rfl hk this).elim
    have z:=E9 (rows:=rows) (near:=near) (k:=0) (S-N) no;have z0:Bc rows near 0=[]:=rfl;rw[z0,Cf]at z
    have hg:=Kj hnear r (0+(S:Int)) (0+(S:Int)) ((List.range S).map (eqR 0 0)) [] [("equal",imax 0 (0+S-N),0+S,imax 0 (0+S-N),0+S)] e hok hch (by
     rw[(by simp:((List.range S).map (eqR 0 0)).length=S)];by_cases hN:N=0
     .clear mid hnear;subst hN;show .inr ⟨.inr ?_,z,?_⟩
      .have:=no (S-1) (F10 0x7849304700480a671a 0x110101100110 rfl S0)
       rwa [Cf]at this
      .rw [if_pos ⇑(F10 0x7044730470 17 rfl S0)];have:imax 0 (0+(S:Int)-(0:Nat))=S:=by unfold imax;split <;> lia
       rw[this];simp
     .refine .inl ⟨?_,F10 0x7044730470 17 rfl S0,?_⟩
      .have:=(mid (S-1) (F10 0x874830470671a 285282320 rfl S0)).2.mpr (F20 0x87095048620680a 285278464 rfl hN)
       rwa [Cf]at this
      .obtain ⟨m,m1,m2⟩:=((aM (S-(S-N)-1) (F20 0x86706b3047004a620671a790a781a 0x110010101100100000001000000001000000100100000100010000001000000001000000101010110100100000001000000001000000100100000100010000001000000001000000 rfl hN S0) (by lia)):∃m,m+1=S-(S-N)/\S-N+(m+1)=S)
       have b:=Kh (rows:=rows) (near:=near) (p:=S-N) (a:=((S-N:Nat):Int)) (c:=((S-N:Nat):Int)) m (λt ht=>by
        have q:=mid (S-N+t) (F40 0x9a704680a4096807060 4353 rfl m2 ht);rw[Cf]at q;show⟨q.2.mpr (F30 0xa970085970a 257 rfl),q.1.trans ?_⟩
        rw[Ki,C5]) (by
        by_cases x:S-N=0
        .exact .inl x
        .right;have:=no (S-N-1) (F10 0x874048620671a 0x1101010010101010 rfl x)
         rwa [Cf]at this) z
       rw[m2]at b;have e1:imax 0 (0+(S:Int)-N)=((S-N:Nat):Int):=by unfold imax;split <;> (first | show F20 0x73938304019938304010470871a 0x110011010011010 rfl () | show F20 0x730499383040104720871a 0x1000100110001110 rfl ())
       rw[b,e1]
       rw[(by(show F30 0x930406803730996807060 1052944 rfl m2):((S-N:Nat):Int)+((m+1:Nat):Int)=0+S)])
    rw[hg];rfl
   .rw [if_neg hch];have hr:rowsB (0+(S:Int)) (0+(S:Int)) r=[]:=by
     rcases h' with rfl | h'
     .rfl
     .exact G0 h' hch
    have hl:rows.length=0+S:=by rw[e,hr];simp
    have no:∀k,k<S->near (0+k)=false:=λk hk=>by
     obtain⟨m1,m2⟩:=HU (N:=N) (P:=[]) (rows:=rows) (a:=0) (c:=0) (T:=[]) (by rw[e,hr];rfl) (.inl rfl) (.inl rfl) hk;cases x:near (0+k) with
     | false=>rfl
     | true=>have:=m2.mp ((hnear _).mp x).2;simp at this
    rw[hl,E9 S no];rfl
section
variable {a:Int->Int}{W0:Int->Int}
theorem EA (ha:∀i,a (i+1)=a i+W0 i){x:Int}:∀m:Nat,(∀k:Nat,k<m->W0 (x+k)=1)->a (x+m)=a x+m
 | 0,_=>by simp
 | m+1,h=>by have ih:=EA ha m λk hk=>h k (CG hk);have:=h m (CE _);rw[FD,<-BR,ha,ih,this,BR]
end
section
variable {a:Int->Int}{W0:Int->Int}
theorem HV (ha:∀i,a (i+1)=a i+W0 i)(hw:∀i,1<=W0 i){x:Int}:∀m:Nat,a x+m<=a (x+m)
 | 0=>by simp
 | m+1=>by have ih:=HV ha hw (x:=x) m;have:=hw (x+m);have e:=ha (x+m);rw[show x+((m+1:Nat):Int)=x+m+1 by lia,e];(show F13 0x980670370896808737080 273 rfl ih this)
end
section
variable {a:Int->Int}{b:Int->Int}{W0:Int->Int}{v:Int->Int}
theorem EB (ha:∀i,a (i+1)=a i+W0 i)(hb:∀i,b (i+1)=b i+v i){x y:Int}:∀m:Nat,(∀k:Nat,k<m->v (y+k)=W0 (x+k))->b (y+m)-b y=a (x+m)-a x
 | 0,_=>by simp
 | m+1,h=>by have ih:=EB ha hb m λk hk=>h k (CG hk);have:=h m (CE _);rw[FD,<-BR,<-BR,ha,hb];(show fk [] [_,_,_,_,_,_] 0xac9018b7019cb90a9187190 68989030416 rfl ih this)
end
theorem EC {a W0:Int->Int}(ha:∀i,a (i+1)=a i+W0 i)(hw:∀i,1<=W0 i){x y:Int}(h:x<=y):a x<a y↔x<y:=by
 constructor
 .intro l;show B1 λhn=>?_;rw[(by(show F02 0x789877208780 1114369 rfl h hn):y=x)]at l;show absurd l (DQ _)
 .intro l;have:=Cc ha hw l
  (show F03 0x9778680987080 273 rfl () (hw x))
theorem Kk {a b W0 v:Int->Int}(ha:∀i,a (i+1)=a i+W0 i)(hw:∀i,1<=W0 i)(hb:∀i,b (i+1)=b i+v i)(hv:∀i,1<=v i){i:Int}{r:List Tri}(h:okB false i j r):chg (a i) (b j) (r.map (growB a b))↔chg i j r:=by
 cases r with
 | nil=>show Iff.rfl
 | cons t r=>
  obtain⟨_⟩:=t;simp only[okB]at h;simp only[A1,growB,chg];rw[EC ha hw h.1,EC hb hv h.2.1]
theorem Q3 {a b W0 v:Int->Int}(ha:∀i,a (i+1)=a i+W0 i)(hw:∀i,1<=W0 i)(hb:∀i,b (i+1)=b i+v i)(hv:∀i,1<=v i){i x y:Int}(h1:i<=x)(h2:j<=y):A0 (a i) (a x) (b j) (b y)=A0 i x j y:=by unfold A0;simp only[EC ha hw h1,EC hb hv h2]
theorem Kl {a b W0 v:Int->Int}(ha:∀i,a (i+1)=a i+W0 i)(hw:∀i,1<=W0 i)(hb:∀i,b (i+1)=b i+v i)(hv:∀i,1<=v i){n:Int}(hn : 0<=n):∀(r:List Tri) (i j:Int) (g:List Op),okB false i j r->shB W0 v n r ->
  segG n (a i) (b j) (g.map (mvO a b)) (r.map (growB a b))=(segG n i j g r).map (List.map (mvO a b)):=by
 intro r_
 induction r_ with
 | nil=>
  intro _ _ _ h _;simp[okB]at h
 | cons kv_ r ih=>
  obtain⟨x,y,s⟩:=kv_;intro i j g h hs;show aZ h λh1 h2 h=>?_;obtain⟨d,p,q,hs⟩:=hs;simp only[A1,growB,segG,(Q3 ha hw hb hv h1 h2)];rcases h with⟨rfl,rfl⟩ | ⟨s0,_,h⟩
  .simp[mvO]
  .obtain ⟨S,rfl⟩:=BD (Bh s0);obtain⟨N,rfl⟩:=BD hn;have ge:=HV ha hw (x:=x) S;have sm:=EB ha hb (x:=x) (y:=y) S (λk hk=>d k (BC.mpr ()))
   have hcg:=Kk ha hw hb hv h;rw[if_neg (⇑(F12 0x4781928737080730470 273 rfl s0 ge):¬a (x+S)-a x=0),if_neg (⇑(F10 0x47392730470 17 rfl s0):¬(S:Int)=0),(⇑(F02 0x8781709 17 rfl):a x+(a (x+S)-a x)=a (x+S)),(by(show F04 0x7a91809a9187190 1114369 rfl sm):b y+(a (x+S)-a x)=b (y+S))];have smk:∀m:Nat,m<=S->b (y+m)-b y=a (x+m)-a x:=λm hm=>EB ha hb (x:=x) (y:=y) m (λk hk=>d k (F30 0x8393779408750 273 rfl hm hk));have pre:∀m:Nat,m<=S->m<=N->a (x+m)=a x+m:=λm h1 h2=>EA ha m λk hk=>p k ⇑(F30 0x8393779408750 273 rfl h1 hk) ⇑(F30 0x8393779408750 273 rfl h2 hk);by_cases hc:chg (x+S) (y+S) r
   .rw [if_pos (hcg.mpr hc),if_pos hc];have suf:∀m:Nat,m<=S->m<=N->a (x+S)=a (x+S-m)+m:=λm h1 h2=>by
     have:=EA ha (x:=x+S-m) m λk hk=>by
      have:=q hc (S-m+k) (F30 0x93a70378a409850781a 73283997712 rfl h1 hk) (F40 0x93b7030a389850790a 4353 rfl h2)
      rwa [(by(show fk [_,_,_] [_] 0xa70370a38393701099850781a 0x1010110110011010 rfl h1):x+(S:Int)-m+k=x+((S-m+k:Nat):Int))]
     rwa [(⇑(fk [_,_] [_] 0x737083837370109 17 rfl):x+(S:Int)-m+m=x+S)]at this
    by_cases hb':(S:Int)>N+N
    .rw [if_pos hb',if_pos ⇑(fk [_,_] [_,_] 0x7818383077383830708737080 273 rfl ge hb')];have pn:=pre N (F20 0x875837373070 33 rfl hb') (A5 _);have sn:=suf N ⇑(F20 0x875837373070 33 rfl hb') (A5 _);have sm2:=smk (S-N) (DG ..);rw[(⇑(fk [_,_] [_] 0x839370173709938383070781a 0x2102101010101001 rfl hb'):x+((S-N:Nat):Int)=x+S-N),(⇑(fk [_,_] [_] 0x839370173709938383070781a 0x2102101010101001 rfl hb'):y+((S-N:Nat):Int)=y+S-N)]at sm2;have ih:=ih (x+S) (y+S) [("equal",x+S-N,x+S,y+S-N,y+S)] h hs;have e3:([("equal",x+S-N,x+S,y+S-N,y+S)]:List Op).map (mvO a b)=[("equal",a (x+S)-N,a (x+S),b (y+S)-N,b (y+S))]:=by simp only[A1,CP,mvO];rw[(⇑(F12 0x7371897380790 1114369 rfl sn):a (x+S-N)=a (x+S)-N),(by(show fk [_] [_,_,_,_,_,_] 0x7371c9ab18c19073b0990a9187190 0x10110101100101 rfl sm sn sm2):b (y+S-N)=b (y+S)-N)]
     rw[e3]at ih;rw[ih,A1,A2];simp only[A1,CP,mvO];rw[pn,(by(show fk [_] [_,_,_,_] 0x73a099871a91907380790 68989030416 rfl pn (smk N ⇑(F20 0x875837373070 33 rfl hb'))):b (y+N)=b y+N)]
    .have full:=EA ha S λk hk=>by
      by_cases hkn:k<N
      .exact p k (BC.mpr ()) (BC.mpr ())
      .exact q hc k (BC.mpr ()) (F30 0x73930838794208373730720 273 rfl hb' hkn)
     rw[if_neg hb',if_neg ⇑(fk [_,_] [_,_] 0x871737307283807908373730720 4113 rfl hb' full)];rw[<-(ih (x+S) (y+S) (g++[(A0 i x j y,i,x,j,y),("equal",x,x+S,y,y+S)]) h hs),A2];rfl
   .rw [if_neg (λz=>hc (hcg.mp z)),if_neg hc];simp only[A1,CP,A2,mvO];have k1:a (imin (x+S) (x+N))=imin (a (x+S)) (a x+N)/\b (imin (y+S) (y+N))=imin (b (y+S)) (b y+N):=by
     unfold imin;by_cases hm:N<S
     .have pn:=pre N (By ()) (A5 _);rw[if_pos ⇑(fk [_,_] [_] 0x8370737078740 17 rfl hm),if_pos ⇑(fk [_,_] [_,_] 0x88370778408737080 273 rfl ge hm),if_pos ⇑(fk [_,_] [_] 0x8370737078740 17 rfl hm),if_pos ⇑(fk [_,_] [_,_,_,_] 0x983a077840781a91908737080 69889 rfl ge sm hm)];show⟨pn,fk [_] [_,_,_,_] 0x73a099871a91907380790 68989030416 rfl pn (smk N (By ()))⟩
     .have pn:=pre S (A5 _) (CF ());rw[if_neg ⇑(fk [_,_] [_] 0x837073707287420 17 rfl hm),if_neg ⇑(fk [_,_] [_,_] 0x7738072838079087420 4113 rfl hm pn),if_neg ⇑(fk [_,_] [_] 0x837073707287420 17 rfl hm),if_neg ⇑(fk [_,_] [_,_,_,_] 0x773807283a099087420a9187190 1052929 rfl sm hm pn)];show⟨rfl,rfl⟩
    rw[k1.1,k1.2]
theorem Q4 {a b W0 v:Int->Int}(ha:∀i,a (i+1)=a i+W0 i)(hw:∀i,1<=W0 i)(hb:∀i,b (i+1)=b i+v i)(hv:∀i,1<=v i)(a0:a 0=0)(b0:b 0=0){n:Int}(hn : 0<=n)(h:okB true 0 0 bl)
  (hs:match bl with | []=>True | (x,y,s)::r=>if 0<x\/0<y then shB W0 v n bl else(∀k:Nat,(k:Int)<s->v (y+k)=W0 (x+k))/\(chg (x+s) (y+s) r->∀k:Nat,(k:Int)<s->s<=k+n->W0 (x+k)=1)/\shB W0 v n r) :
  groupsB n (bl.map (growB a b))=(groupsB n bl).map (List.map (mvO a b)):=by
 cases bl with
 | nil=>rfl
 | cons t r=>
  obtain⟨x,y,s⟩:=t;by_cases hc : 0<x\/0<y
  .simp only[if_pos hc]at hs;have:=Kl ha hw hb hv hn ((x,y,s)::r) 0 0 [] (Gy h hc) hs;rw[a0,b0]at this;simp only[A1,groupsB,growB]at this ⊢;have hx : 0<=x/\0<=y:=by simp only[okB]at h;show⟨h.1,h.2.1⟩
   have c1 : 0<a x↔0<x:=by have:=EC ha hw hx.1;rwa [a0]at this
   have c2 : 0<b y↔0<y:=by have:=EC hb hv hx.2;rwa [b0]at this
   rw[if_pos hc,if_pos (by rw[c1,c2];show hc)];show this
  .simp only[if_neg hc]at hs;obtain⟨d,q,hs⟩:=hs;have ex:x=0:=by(show F02 0x4797048080477047120 268505344 rfl hc h.1)
   have ey:y=0:=by(show F02 0x4898048080477047120 269488384 rfl hc h.2.1)
   subst ex;subst ey;simp only[A1,groupsB,growB,a0,b0];rw[if_neg ⇑(F00 0x40470404712 17 rfl),if_neg hc];rcases h.2.2 with⟨rfl,rfl⟩ | ⟨s0,_,h'⟩
   .rw [if_neg (id:¬chg _ _ (List.map (growB a b) [])),if_neg (id:¬chg _ _ [])];rfl
   .clear h;obtain⟨S,rfl⟩:=BD (Bh s0);obtain⟨N,rfl⟩:=BD hn;have sm:=EB ha hb (x:=0) (y:=0) S (λk hk=>d k (BC.mpr ()));have ge:=HV ha hw (x:=0) S;have hcg:=Kk ha hw hb hv h';rw[a0]at ge;rw[a0,b0]at sm;have e1 : 0+(a (0+(S:Int))-0)=a (0+S):=F01 0x704710409 17 rfl
    by_cases hch:chg (0+(S:Int)) (0+(S:Int)) r
    .have hch':=hcg.mpr hch;rw[e1];have e3:a (0+(S:Int))=b (0+S):=by show F02 0x7890481047190 1114369 rfl sm
     rw[if_pos hch];rw[<-e3]at hch';show(if_pos hch').trans ?_;show .trans ?_ (Kl ha hw hb hv hn r (0+S) (0+S) [("equal",imax 0 (0+S-N),0+S,imax 0 (0+S-N),0+S)] h' hs);simp only[A1,CP,mvO];have suf:∀m:Nat,m<=S->m<=N->a (0+S)=a (0+S-m)+m:=λm h1 h2=>by
      have:=EA ha (x:=0+S-m) m λk hk=>by
       have:=q hch (S-m+k) (F30 0x93a70378a409850781a 73283997712 rfl h1 hk) (F40 0x93b7030a389850790a 4353 rfl h2)
       rwa [(by(show F30 0xa703040a383930401099850781a 0x1010110110011010 rfl h1):0+(S:Int)-m+k=0+((S-m+k:Nat):Int))]
      rwa [(⇑(F20 0x73040838373040109 17 rfl):0+(S:Int)-m+m=0+S)]at this
     have k1:a (imax 0 (0+S-N))=imax 0 (a (0+S)-N)/\b (imax 0 (0+S-N))=imax 0 (a (0+S)-N):=by
      unfold imax;by_cases hm:N<S
      .have sn:=suf N (By ()) (A5 _);have sm2:=(λm hm=>EB ha hb (x:=0) (y:=0) m (λk hk=>d k (F30 0x8393779408750 273 rfl hm hk)):∀m:Nat,m<=S->b (0+m)-b 0=a (0+m)-a 0) (S-N) (DG ..);rw[(⇑(F20 0x839304017304099840781a 0x110011010101001 rfl hm):0+((S-N:Nat):Int)=0+S-N),a0,b0]at sm2;rw[if_pos ⇑(F20 0x738304010478740 17 rfl hm),if_pos ⇑(fk [_,_] [_] 0x8371047784077304080 273 rfl ge hm)];show⟨F12 0x7371897380790 1114369 rfl sn,F13 0x73719904810491907380790 69004759041 rfl sn sm2⟩
      .have sn:=suf S (A5 _) (CF ());rw[(⇑(F10 0x4737304019 17 rfl):0+(S:Int)-S=0),a0]at sn;rw[if_neg ⇑(F20 0x73830401047287420 17 rfl hm),if_neg ⇑(fk [_,_] [_] 0x737104728304079087420 4113 rfl hm sn)];show⟨a0,b0⟩
     rw[k1.1,k1.2,<-e3]
    .refine e1.symm▸(if_neg hch).symm▸?_
     rw[<-(⇑(F02 0x7890481047190 1114369 rfl sm):a (0+(S:Int))=b (0+S))]at hcg;rw[if_neg (λz=>hch (hcg.mp z))];rfl
theorem ED {apos pos}{pl:Sem Bool}
  (h:↥EV o m hp (M2 A E B aa m e Q))
  (hc:autoParam (eval (.Call (.Attribute o (PySem.Str.ofString "extend") apos) [e] [] pos) aa=(do
   let ov <-eval o aa
   standAt apos.atName
   let (f,first) <-holding [ov] (getMethod ov (PySem.Str.ofString "extend") pl)
   callWith pos f first (backTo pos (starEach [e] aa)) [])) rB)
  (he:autoParam (starEach [e] aa=[(false,eval e aa)]) rB) :
  ↥EV (.Call (.Attribute o (PySem.Str.ofString "extend") apos) [e] [] pos) m hp Q:=λs r=>by
 show MethodCall_ (pl:=pl) (h.use r λu ar l ak au aq hu x=>?_) hc;x_go;show bG x λa xs₁ zz1 ha hL q=>?_;clear x;subst zz1;z_go;subst hu;show Fl F.slot_list_extend F.type_list_extend au ha hL ?_;show callWith_method1 (BY (q pos ar au) λvs ax avs ae ay aw hv x=>?_) he;x_go;show bo x λxs b ys zz1 ha₂ hb hbL hsz q=>?_;clear x;subst zz1;show aK (Cu hv) λy zz1 hy=>?_;subst zz1;clear hv;subst hy;show aY (ay.at ha₂ hL) λus n hl hus=>?_;show aY (ay.at hb hbL) λws n2 hlb hws=>?_;apply Z;have e2:us.size=xs.length:=by rw[<-A7];show hus.length
 have e3:ws.size=ys.length:=by rw[<-A7];show hws.length
 have hz:=sizeLine_eq;show call_meets F.slot_list_extend (aM _ hl rfl) F.entry_list_extend (F.args_list_extend_2 _ _) (AutoSeq1.list_extend_list_list_0 a us n b ws n2 ?_ (F40 0xa951000000065a607960138803587050 1114129 rfl hsz e2 hz) (fk [_,_,_,_,_] [] 0x6b0a9051000000065b608a607960138803587050 285216785 rfl hsz e2 e3 hz)) (aP hl hlb (?_))
 .simp only[DF,Builtin.List.listTooLong,decide_eq_true_eq];rintro⟨_,h2⟩;lia
 have t:=ay.turn (a:=a) (Ab hL ha₂) (B2 ..) (.list (xs++ys)) (λle=>a8 (us++ws) _ (EW hl (λx=>x++ws)) (by rw[GN];show(hus.mono le).append (hws.mono le))) ax.toks;rw[A8 _ _ _ (Ah hL)]at t;show mkV (av:=.none) t.1 ((aq.trans aw).trans t.2) VR_none q
theorem Fx {p:Nat->Bool}{fk:Nat->Int}{fv:Nat->AV}:dofs p fk fv (n+1)=if p n then dput (dofs p fk fv n) (fk n) (fv n) else dofs p fk fv n:=rfl
theorem Q5 (kvs:List (Int×AV))(k:Int)(v:AV):(dput kvs k v).length<=kvs.length+1:=by unfold dput;split <;> simp
theorem Q6 (p:Nat->Bool)(fk:Nat->Int)(fv:Nat->AV):∀n,(dofs p fk fv n).length<=n:=by
 intro r_;induction r_ with
 | zero=>show A5 _
 | succ n ih=>have h:=Q5 (dofs p fk fv n) (fk n) (fv n);dsimp only[Fx];split <;> lia
theorem Km {a:Int}(hb:b≠0)(hpl:Builtin.divisionGoesByPylong a b=false)(h:Q (.tup [.int (a.fdiv b),.int (a.fmod b)]) hp):↥CL (.builtin "divmod") m [.int a,.int b] hp Q:=λs vs r hv=>by show aN (C3 hv) λv u zz1 h1 h2=>?_;subst zz1;simp only[VR]at h1 h2;clear hv;obtain⟨t,rfl⟩:=h1;obtain⟨t',rfl⟩:=h2;show PyProof.Rows.divmod_int hb ?_ (.inl hpl);show mkV (av:=.tup _) ((r.push _).toks _) (ImmLe.keep λb o e=>AX _ e) ?_ h;simp only[VR,VRs];show aT _ (#[.int (a.fdiv b) s.toks,.int (a.fmod b) (s.toks+1)]) rfl (aO _ (AI _ rfl) rfl ⟨0,rfl⟩) ⟨_,_,rfl,⟨_,rfl⟩,_,_,rfl,⟨_,rfl⟩,rfl⟩
theorem pyl3 (a:Int):Builtin.divisionGoesByPylong a 3=false:=PyProof.noPylong_of_log2 (by decide +kernel)
theorem Q7 {α:Type}:∀(L:List (Array α)) (acc:Array α),(List.foldl (λa b=>a++b) acc L).toList=acc.toList++(L.map Array.toList).flatten:=by
 intro r_;induction r_ with
 | nil=>intro acc;simp
 | cons x L ih=>intro acc;rw[BH,ih];simp
theorem Q8{xs:List AV}{us:List Value}(x:VRs h xs us):∀k:Nat,VRs h (List.replicate k xs).flatten (List.replicate k us).flatten:=by
 intro r_;induction r_ with
 | zero=>show List.flatten_nil
 | succ k ih=>rw[List.replicate_succ,List.replicate_succ,Er,Er];show x.append (ih)
theorem Q9{xs:List AV}{n:Int}(ha:hp a=some (.list xs))(hL:a≠aa.locals)(h0 : 0<=n)(hn:n<=1000)(hx:xs.length<=1000)
  (h:∀c,hp c=none->c≠aa.locals->Q (.ref c) (hp.set c (.list (List.replicate n.toNat xs).flatten))):↥OP2 (binaryOp .Mult) m (.ref a) (.int n) hp Q:=λs u v r hu hv=>by
 subst hu;obtain⟨t,rfl⟩:=hv;show aY (r.at ha hL) λvs k hl hvs=>?_;have e1:vs.size=xs.length:=by rw[<-A7];show hvs.length
 have hm:vs.size*n.toNat<=1000*1000:=Nat.mul_le_mul (F20 0x3e80258578603e8025750 4113 rfl hx e1) (F01 0x3e8025753e802578073a 268505360 rfl hn);have er:(List.foldl (λx1 x2=>x1++x2) #[] (List.replicate (if vs.isEmpty=true then 0 else n.toNat) vs)).toList=(List.replicate n.toNat vs.toList).flatten:=by
  rw[Q7,List.map_replicate];by_cases he:vs.isEmpty=true
  .have:vs.toList=[]:=by simpa using he
   rw[if_pos he,this];simp
  .rw [if_neg he];rfl
 have x:=r.newAt { cls:=.type "list",data:=.seq (List.foldl (λx1 x2=>x1++x2) #[] (List.replicate (if vs.isEmpty=true then 0 else n.toNat) vs)) } (.list (List.replicate n.toNat xs).flatten) (a8 _ 0 (DJ _ _) (by rw[er];show Q8 (hvs.mono (ImmLe.keep λb o'' e=>AX _ e)) _))
 show wpAny_binaryOp_repeat_ref (T := "list") (U := "int") ∅ ⟨_,hl,rfl⟩ (λs'=>typeIs_int s' n t) noFill_list_mul F.fills_int_mul F.slot_int_rmul repeat_list F.slot_int_index.lookup (call_meets F.slot_int_rmul (typeIs_int s n t) F.entry_int_rmul (F.args_int_rmul_2 _ _) (int___rmul___int_list n t a vs k)
   ⟨hl,rfl,⟨_,hl,rfl⟩,call_meets F.slot_list_mul (aM _ hl rfl) F.entry_list_mul (F.args_list_mul_2 _ _)
    (AutoListH.list___mul___list_int_3 a vs k n t (by simp[Builtin.List.listFitsIndex];show⟨F01 0x780000000000000000f5041870480 17 rfl h0,F01 0x80000000000000000f5773e8025780 17 rfl hn⟩) (by lia) (by simp[Builtin.List.listTooLong,sizeLine];(show Aj () ∅)))
    ⟨hl,mkV (av:=.ref _) x.1 x.2.2.2 VR_ref (h _ x.2.1 x.2.2.1)⟩⟩)
set_option maxRecDepth 1000000
set_option maxRecDepth 100000
theorem QA{KK:QX}{size p:Int}{st:RSt}(hh:A.handled=none)(hr:hp rA=some (.list (st.2.2.map opAV)))(hL:rA≠L)(hl:st.2.2.length<=4000)
  (g1:m (S "i")=some (.int st.1))(g2:m (S "j")=some (.int st.2.1))(g3:m (S "p")=some (.int p))(g4:m (S "q")=some (.int q))(g5:m (S "size")=some (.int size))(g6:m (S "rows")=some (.ref rA))
  (hK:∀m' ah,ah rA=some (.list ((stepR size st (p,q)).2.2.map opAV))->(∀z o,z≠rA->hp z=some o->ah z=some o)->m' (S "i")=some (.int (p+1))->m' (S "j")=some (.int (q+1))->(∀y,y∉["i", "j"]->m' (S y)=m (S y))->KK .next m' ah) :
  EXs Md A E B (callEnv Ew L 258) [rwB 0,rwB 1,rwB 2] m hp KK:=by
 have last:∀hp1,hp1 rA=some (.list ((stepR size st (p,q)).2.2.map opAV))->(∀z o,z≠rA->hp z=some o->hp1 z=some o)->EXs Md A E B (callEnv Ew L 258) [rwB 2] m hp1 KK:=λhp1 a1 a2=>by show Ae (Dq hh (names:=[S "i",S "j"]) ?_);show A9 (Ac (At (Aa g3 (Ak (A6 ?_)))));show Ac (At (Aa g4 (Ak (A6 ?_))));show Af ⟨sz rfl,_,rfl,rfl,Bu (Bu (Bd ?_))⟩;show Ao (hK _ _ a1 a2 (by lk) (by lk) λy hy=>updO hy (updO hy rfl))
 have mid:∀(xs:List Op) hp1,xs.length<=4001->hp1 rA=some (.list (xs.map opAV))->(∀z o,z≠rA->hp z=some o->hp1 z=some o)->(stepR size st (p,q)).2.2=xs++(if p<size then[("equal",p,p+1,q,q+1)] else[])->EXs Md A E B (callEnv Ew L 258) [rwB 1,rwB 2] m hp1 KK:=λxs hp1 hx a1 a2 a3=>by
  show Ae (AB (Av (Aa g3 (Aa g5 (B5 (Ar ?_))))));by_cases h:p<size
  .refine AP h ?_;rw[if_pos h]at a3;show Ae (AJ (Bs (Aa g6 (aQ rA _ rfl a1 hL (?_)))));show Ac (A9 (Ac (Bw (Ac (Aa g3 ?_)))));show Ac (At (Aa g3 (Ak (A6 ?_))));show Ac (Aa g4 (Ac (At (Aa g4 (Ak (A6 ?_))))));show Af ⟨sz rfl,Af (aQ _ _ rfl a1 (by rw[Ai];show sz' (Aj () ∅)) ⟨by simp,by simp,by simp,?_⟩)⟩;show Ao (last _ ?_ λz o hz e=>Ab hz (a2 z o hz e));rw[Ad,a3,A2];rfl
  .refine AL h ?_;rw[if_neg h,Ej]at a3;show Ao (last hp1 (by rw[a3];show a1) a2)
 have e0:(stepR size st (p,q)).2.2=(st.2.2++(if st.1<p\/st.2.1<q then[(tagR st.1 p st.2.1 q,st.1,p,st.2.1,q)] else[]))++(if p<size then[("equal",p,p+1,q,q+1)] else[]):=by unfold stepR;rw[Bq]
 have add:(st.1<p\/st.2.1<q)->EXs Md A E B (callEnv Ew L 258) (kids (rwB 0)) m hp (SEQ Md A E B (callEnv Ew L 258) [rwB 1,rwB 2] KK):=λhc=>by
  rw[if_pos hc]at e0;show Ae (AJ (Bs (Aa g6 (aQ rA _ rfl hr hL (?_)))));show Ac (A9 (Ac (EV.mono (Q:=λv ah=>v = .str (S (tagR st.1 p st.2.1 q))/\ah=hp) ?_ λv ah e=>?_)))
  .unfold tagR;show E2 (Av (Aa g1 (Aa g3 (DY (Ar ?_)))));by_cases h1:st.1=p
   .rw [if_pos h1];show Bx (by rw[h1];show beq_self_eq_true p) (Bw ⟨rfl,rfl⟩)
   .rw [if_neg h1];show Bl (by simpa using h1) (E2 (Av (Aa g2 (Aa g4 (DY (Ar ?_))))));by_cases h2:st.2.1=q
    .rw [if_pos h2];show Bx (by rw[h2];show beq_self_eq_true q) (Bw ⟨rfl,rfl⟩)
    .rw [if_neg h2];show Bl (by simpa using h2) (Bw ⟨rfl,rfl⟩)
  .clear last hK;obtain⟨rfl,rfl⟩:=e;show Ac (Aa g1 (Ac (Aa g3 (Ac (Aa g2 (Ac (Aa g4 ?_)))))));show Af ⟨sz rfl,Af (aQ _ _ rfl hr (by rw[Ai];show sz' (Aj () ∅)) ⟨by simp,by simp,by simp,?_⟩)⟩;show Ao (mid _ _ ?_ ?_ (λz o hz e=>Ab hz e) e0)
   .rw [Ba];(show CB () ∅)
   .rw [Ad,A2];rfl
 show Ae (AB ?_);show BZ ?_;show IO ?_;show Av ?_;show Aa (by lk) ?_;show Aa (by lk) ?_;show B5 ?_;show Ar ?_;by_cases h1:st.1<p
 .refine AP h1 ?_;show if_t ?_;show add (.inl h1)
 .refine AL h1 ?_;show IO ?_;show Av ?_;show Aa (by lk) ?_;show Aa (by lk) ?_;show B5 ?_;show Ar ?_;by_cases h2:st.2.1<q
  .refine AP h2 ?_;show if_t ?_;show add (.inr h2)
  .refine AL h2 ?_;show MB ?_;show if_f (Ao ?_);rw[if_neg ⇑(F04 0xa9787712a972087720 1114369 rfl h1 h2),Ej]at e0;show mid _ _ (Aj () ∅) hr (λ_ _ _ e=>e) e0
theorem QB (size:Int)(st:RSt)(c:Int×Int):(stepR size st c).2.2.length<=st.2.2.length+2:=by rw[Ba,Ba];split <;> split <;> simp
theorem G2 {size:Int}{k:Nat}{c:Int×Int}(h:cs[k]?=some c):stR size cs (k+1)=stepR size (stR size cs k) c:=DD h
theorem Kn {size:Int}:∀k,(stR size cs k).2.2.length<=2*k:=by
 intro r_;induction r_ with
 | zero=>simp[stR]
 | succ k ih=>
  cases h:cs[k]? with
  | none=>
   have hk:=Eo.mp h;have:stR size cs (k+1)=stR size cs k:=by unfold stR;rw[BE (F20 0x680758750 17 rfl hk),BE hk]
   rw[this];(show F20 0x6802275822750 17 rfl ih)
  | some c=>
   rw[G2 h]
   (show F30 0x68022952470950822750 273 rfl ih (QB size (stR size cs k) c))
theorem QC {size:Int}{kept:List (Int×Int)}(G:Gnd (KW W0) B)(hh:A.handled=none)(aB:A.depth<recursionLimit)(hk:hp kA=some (.list (kept.map pAV)))(hkL:kA≠aa.locals)(az:kept.length<=1500)
  (h:∀ah rA,hp rA=none->rA≠aa.locals->ah rA=some (.list ((Dn size other kept).map opAV))->(∀z o,z≠aa.locals->hp z=some o->ah z=some o)->ah aa.locals=none->Q (.ref rA) ah) :
  ↥CL (.ref 258) m [.int size,.int other,.ref kA] hp Q:=by
 show CW (CM (bs:=[(S "kept",.ref kA),(S "other",.int other),(S "size",.int size)]) (body:=AE (topS PW 8)) G (J9 W0) ∅ rfl aB (λs vs hv _=>?_) ∅ ∅ (λL hL hLe=>?_))
 .refine bH (JG hv) λv u z zz1 h1 h2 h3=>?_;rw[zz1];show aO ([(S "size",v),(S "other",u),(S "kept",z)]) (Dh rfl) rfl (.mk h3 (.mk h2 (.mk h1 .nil)))
 have g0:locOf [(S "kept",AV.ref kA),(S "other",.int other),(S "size",.int size)] (S "kept")=some (.ref kA):=rfl;have g1:locOf [(S "kept",AV.ref kA),(S "other",.int other),(S "size",.int size)] (S "other")=some (.int other):=rfl;have g2:locOf [(S "kept",AV.ref kA),(S "other",.int other),(S "size",.int size)] (S "size")=some (.int size):=rfl;generalize locOf [(S "kept",AV.ref kA),(S "other",.int other),(S "size",.int size)]=m0 at g0 g1 g2 ⊢;have hcl:hp[m]! aa.locals=some (.ns m):=Ad ..;have hLc:hp[m]! L=none:=Ab hLe hL;have hback:∀z o,z≠aa.locals->hp z=some o->hp[m]! z=some o:=λz o hz e=>Ab hz e;have hbn:∀z,hp[m]! z=none->hp z=none/\z≠aa.locals:=λz hz=>by
  have:z≠aa.locals:=λe=>by rw[e,Ad]at hz;cases hz
  show⟨CV this hz,this⟩
 have hk':=hback _ _ hkL hk;generalize hp[m]! =hb at *;show Ae (AS (AM (Af ⟨sz rfl,λrA hrA hrAL=>?_⟩)));show Ae (CK (Ak (Ap (Ap ?_))));have l1:Hp.Le hb (hb.set rA (.list [])):=(Hp.Le.refl _).set hrA _;generalize hm1:upd (upd (upd m0 _ _) _ _) _ _=m1;have n1:m1 (S "rows")=some (.ref rA):=by subst hm1;lk
 have n2:m1 (S "i")=some (.int 0):=by rw[<-hm1];lk
 have n3:m1 (S "j")=some (.int 0):=by rw[<-hm1];lk
 have n4:m1 (S "kept")=some (.ref kA):=by rw[<-hm1];lk
 have n5:m1 (S "other")=some (.int other):=by rw[<-hm1];lk
 have n6:m1 (S "size")=some (.int size):=by rw[<-hm1];lk
 show Ae (DA hh (At (Aa n4 (AM ?_))));show Ac (A9 (Ac (Aa n6 (Ac (Aa n5 (Af ⟨sz rfl,Af ⟨sz rfl,λf hf hfL=>?_⟩⟩))))));have l2:=l1.set (l1.none hf) (.list [.tup [.int size,.int other]]);show IT (l2 _ _ hk') (Ag hk' hLc) (Ad ..) hfL (by rw[Ai];show sz' (by simp;(show Aj () ∅))) λc hc hcL=>?_;have ec:kept.map pAV++[.tup [.int size,.int other]]=(kept++[(size,other)]).map pAV:=by rw[A2];rfl
 rw[ec];have hcl2:(kept++[(size,other)]).length<=1501:=by rw[Ba];simp;omega
 have erows:Dn size other kept=(stR size (kept++[(size,other)]) (kept++[(size,other)]).length).2.2:=by delta Dn stR;rw[Cz]
 generalize kept++[(size,other)]=cs at hcl2 erows ⊢;have rf:=Ag (Ad ..) hf;have rc:=Ag (Ab rf (Ad ..)) hc;have l3:=l2.set (l2.none hc) (.list (cs.map pAV));have hr3:(((hb.set rA (.list [])).set f (.list [.tup [.int size,.int other]])).set c (.list (cs.map pAV))) rA=some (.list []):=Ab rc (Ab rf (Ad ..));have hc3:(((hb.set rA (.list [])).set f (.list [.tup [.int size,.int other]])).set c (.list (cs.map pAV))) c=some (.list (cs.map pAV)):=Ad ..;generalize ((hb.set rA (.list [])).set f (.list [.tup [.int size,.int other]])).set c (.list (cs.map pAV))=hp3 at l3 hr3 hc3 ⊢;show(aT c (cs.map pAV) rfl (.own hc3 hcL) λit hit hitL=>?_);have ri:=Ag hr3 hit;let Iq:Nat->Loc->Hp->Prop:=λi ao ae=>ae rA=some (.list ((stR size cs i).2.2.map opAV))/\(∀z o,z≠rA->hp3 z=some o->ae z=some o)/\ao (S "i")=some (.int (stR size cs i).1)/\ao (S "j")=some (.int (stR size cs i).2.1)/\ao (S "size")=some (.int size)/\ao (S "rows")=some (.ref rA);show bD Iq (λob=>⟨Ab ri hr3,λz o _ e=>Ab (Ag e hit) e,n2,n3,n6,n1⟩) (λi ao ae ob x=>⟨Ab ri x.1,λz o hz e=>Ab (Ag e hit) (x.2.1 z o hz e),x.2.2⟩) (λi ao ae x=>.own (x.2.1 _ _ (Ah rc) hc3) hcL) (λi v ao ae ob hv x hob=>?_) λao ae x=>?_
 .rw [AZ]at hv;show aK (C7.mp hv) λq80 hpq q82=>?_;clear hv;obtain⟨p,q⟩:=q80;subst q82;show bC x λx1 x2 x3 x4 x5 x6=>?_;show Ca hh rfl rfl rfl (Au (Ap (Au (Ap (Bd ?_)))));show E4 λKT hT=>?_;show QA (p:=p) (q:=q) (size:=size) (st:=stR size cs i) hh x1 hrAL (F30 0xfa00259582295078405dd025750 4386 rfl hcl2 ((BF.mp hpq).1) (Kn (size:=size) (cs:=cs) i)) (by lk) (by lk) (by lk) (by lk) (by lk) (by lk) λm' ah y1 y2 y3 y4 y5=>hT _ _ _ ?_;rw[<-G2 hpq]at y1;show⟨⟨y1,λz o hz e=>y2 z o hz (x2 z o hz e),?_,?_,?_,?_⟩,y2 _ _ (Ah ri) hob⟩
  .rw [G2 hpq];show y3
  .rw [G2 hpq];show y4
  .rw [y5 _ ∅];lk
  .rw [y5 _ ∅];lk
 .rw [Ai]at x;show bC x λx1 x2 x3 x4 x5 x6=>?_;have fin:∀z o,hb z=some o->(ae.del it) z=some o:=λz o e=>by rw[A4 _ (Ag (l3 _ _ e) hit)];show x2 z o (Ag e hrA) (l3 _ _ e)
  show Ae (D8 (Aa x6 ?_));have hrE:=hbn rA hrA;show Dr (fin _ _ hcl) (h _ rA hrE.1 hrE.2 ?_ (λz o hz e=>?_) (by simp[Hp.cut]))
  .rw [AN hrE.2 (hrAL:rA≠L),A4 _ ri,x1,erows]
  .have e1:=hback _ _ hz e;rw[AN hz (Ag e1 hLc)];show fin _ _ e1
theorem Ko (S:US M n us)(hn:∀i j,M i j->i<n):∀t∈Be us,KRun M (Cov (Be us)) t:=λt ht=>by have h:=S.kept_sub t ht;show⟨S.run t h,λr r0 r1=>aW t ht (F02 0x7808870480 17 rfl r0) (F03 0x89079078770 17 rfl r1) (F03 0x98901787019 17 rfl),S.lo t h,λhm=>?_⟩;show S.hi t h (hn _ _ hm) hm
theorem Kp (S:US M n us)(hn:∀i j,M i j->i<n)(i1:∀i j j',M i j->M i j'->j=j')(i2:∀i i' j,M i j->M i' j->i=i'):Told M (Cov (Be us)) (B3 us):=by have p:=CA (Be us);show⟨JQ (JY S hn i1 i2) S.kept_nodup (Ko S hn),λt ht=>Ko S hn t (p.mem_iff.mp ht),λi j q69=>q69.elim λt q70=>q70.elim λht c=>aM t (p.mem_iff.mpr ht) c⟩
theorem QD:∀(bl:List Tri) (f:Bool) (i j:Int),bl.Pairwise Gap->(∀t∈bl,0<t.2.2/\i<=t.1/\j<=t.2.1/\t.1+t.2.2<=la/\t.2.1+t.2.2<=lb)->(∀t∈bl,f=true\/i<t.1\/j<t.2.1)->i<=la->j<=lb->okB f i j (bl++[(la,lb,0)]):=by
 intro r_;induction r_ with
 | nil=>intro f i j _ _ _ h1 h2;simp[okB];show⟨h1,h2⟩
 | cons kv_ bl ih=>
  obtain⟨x,y,s⟩:=kv_;intro f i j hp ht hf h1 h2
  show aU (Di.mp hp) λp1 p2=>?_;have h0:=ht _ (.head _);have f0:=hf _ (.head _);show aP h0.2.1 h0.2.2.1 (.inr (aP h0.1 f0 (ih false (x+s) (y+s) p2 (λt hm=>?_) (λt hm=>?_) h0.2.2.2.1 h0.2.2.2.2)))
  .have g:=p1 t hm;have:=ht t (.tail _ hm);show⟨this.1,g.1,g.2.1,this.2.2.2.1,this.2.2.2.2⟩
  .have g:=p1 t hm;simp only[Gap]at g;right;lia
theorem HW (T:Told M K bl)(hin:∀i j,M i j->0<=i/\i<la/\0<=j/\j<lb)(h1 : 0<=la)(h2 : 0<=lb):okB true 0 0 (bl++[(la,lb,0)]):=
 QD bl true 0 0 T.gap (λt ht=>by
  have r:=(T.kr t ht).run;have r0:=r.1;have a:=hin _ _ r.first;have b:=hin _ _ (r.2 (t.2.2-1) (F01 0x67104870470 17 rfl r0) (F01 485143 1 rfl))
  show⟨by omega,F01 0x704870480 17 rfl a.1,F01 0x704870480 17 rfl a.2.2.1,F03 0x9870896817070 17 rfl b.2.1,F03 0x9870896817070 17 rfl b.2.2.2⟩) (λ_ _=>.inl rfl) h1 h2
theorem Kq {i a c:Int}(h1:i<=a)(h2:j<=c)(h:i<a\/j<c):tagR i a j c=A0 i a j c:=by
 delta tagR A0;by_cases e:i=a
 .rw [if_pos e,if_neg (⇑(F02 0x87728790 272 rfl e):¬i<a),if_pos (⇑(F04 0xa978790a9787710 268501249 rfl h e):j<c)]
 .by_cases f:j=c
  .rw [if_neg e,if_pos f,if_pos (⇑(F02 0x877878087920 69889 rfl e h1):i<a),if_neg (⇑(F02 0x87728790 272 rfl f):¬j<c)]
  .rw [if_neg e,if_neg f,if_pos (⇑(F02 0x877878087920 69889 rfl e h1):i<a),if_pos (⇑(F02 0x877878087920 69889 rfl f h2):j<c)]
theorem QE {a c:Int}:∀(s:Nat) (l:List Op),a+s<=la->((List.range s).map λk:Nat=>(a+(k:Int),c+(k:Int))).foldl (stepR la) (a,c,l)=(a+s,c+s,l++(List.range s).map (eqR a c)):=by
 intro r_
 induction r_ with
 | zero=>
  intro l _;simp
 | succ s ih=>
  intro l h;rw[Dz,A2,DR,ih l (F12 0x873708867037080 17 rfl h),A2];simp only[A1,CP,BH,DS,stepR];rw[if_neg ⇑(F12 0x73807380773707370712 17 rfl),if_pos ⇑(F12 0x873707867037080 17 rfl h)];simp[eqR,BR]
theorem QF:∀(bl:List Tri) (f:Bool) (i j:Int) (l:List Op),okB f i j (bl++[(la,lb,0)])->(∀t∈bl,0<t.2.2/\t.1+t.2.2<=la) ->
  ((Bn bl++[(la,lb)]).foldl (stepR la) (i,j,l)).2.2=l++rowsB i j (bl++[(la,lb,0)]):=by
 intro r_
 induction r_ with
 | nil=>
  intro f i j l h _;simp only[D4,okB]at h;simp only[Bn,List.flatMap_nil,D4,BH,DS,stepR,rowsB];rw[if_neg (DQ _:¬la<la)];by_cases hc:i<la\/j<lb
  .rw [if_pos hc,if_pos hc,Kq h.1 h.2.1 hc];rfl
  .rw [if_neg hc,if_neg hc];rfl
 | cons kv_ bl ih=>
  obtain⟨x,y,s⟩:=kv_;intro f i j l h ht;have h0:=ht _ (.head _);simp only at h0;simp only[EM,okB]at h;obtain⟨h1,h2,h⟩:=h;rcases h with⟨rfl,e⟩ | ⟨hs,_,h⟩
  .simp at e
  .obtain ⟨S,rfl⟩:=BD (Bh hs);clear hs;obtain⟨S,rfl⟩:∃T,S=T+1:=⟨S-1,F10 0x67086830470671a 0x1010110110011010 rfl h0.1⟩;have e:Bn ((x,y,((S+1:Nat):Int))::bl)=(x,y)::(((List.range S).map λk:Nat=>(x+1+(k:Int),y+1+(k:Int)))++Bn bl):=by simp only[Bn,DT,AW,List.range_succ_eq_map,A1,EM,Cy];simp[Int.add_comm];intro a _;show⟨F11 0x6707306730709 17 rfl,F11 0x6707306730709 17 rfl⟩
   rw[e,EM,BH,Bq,DR];have e2:stepR la (i,j,l) (x,y)=(x+1,y+1,l++(if i<x\/j<y then[(A0 i x j y,i,x,j,y)] else[])++[eqR x y 0]):=by
    simp only[stepR];rw[if_pos (⇑(F12 0x87786703708067030470 273 rfl h0.1 h0.2):x<la)];by_cases hc:i<x\/j<y
    .rw [if_pos hc,if_pos hc,Kq h1 h2 hc];simp[eqR]
    .rw [if_neg hc,if_neg hc];simp[eqR]
   rw[e2,QE S _ ⇑(F12 0x87367008867037080 17 rfl h0.2)];have hr:=ih false (x+((S+1:Nat):Int)) (y+((S+1:Nat):Int)) (l++(if i<x\/j<y then[(A0 i x j y,i,x,j,y)] else[])++[eqR x y 0]++(List.range S).map (eqR (x+1) (y+1))) h (λt hm=>ht t (.tail _ hm));rw[(⇑(F11 0x7367006703709 17 rfl):x+((S+1:Nat):Int)=x+1+S),(⇑(F11 0x7367006703709 17 rfl):y+((S+1:Nat):Int)=y+1+S)]at hr;rw[hr,EM,rowsB,AW,List.range_succ_eq_map,A1,Cy];have e3:(eqR x y ∘ Nat.succ)=eqR (x+1) (y+1):=by funext k;simp only[Function.comp,eqR];rw[(⇑(F11 0x7367006703709 17 rfl):x+((Nat.succ k:Nat):Int)=x+1+k),(⇑(F11 0x7367006703709 17 rfl):y+((Nat.succ k:Nat):Int)=y+1+k)]
   rw[e3,(⇑(F11 0x7367006703709 17 rfl):x+((S+1:Nat):Int)=x+1+S),(⇑(F11 0x7367006703709 17 rfl):y+((S+1:Nat):Int)=y+1+S)];simp
theorem QG (h:okB true 0 0 (bl++[(la,lb,0)]))(ht:∀t∈bl,0<t.2.2/\t.1+t.2.2<=la):Dn la lb (Bn bl)=rowsB 0 0 (bl++[(la,lb,0)]):=by unfold Dn;show(QF bl true 0 0 [] h ht).trans ?_;rfl
theorem Told.lex (T:Told M K bl):bl.Pairwise (λa b=>lexB a b=true):=
 T.gap.imp_of_mem λ{x y} hx hy h=>by have:=(T.kr x hx).run.1;show Fq.2 ?_;show .inl (by have:=h.1;(show F03 0x98797808070470 273 rfl () this))
theorem Told.nodup (T:Told M K bl):bl.Nodup:=T.lex.imp λ{x y} h e=>by rw[e,HJ]at h;cases h
theorem Told.sub (G:Grd M K)(T:Told M K bl)(T':Told M K bl'){t:Tri}(ht:t∈bl):t∈bl':=by
 have k:=T.kr t ht;have k0:=k.kk 0 (Ax _) k.run.1;rw[Bm,Bm]at k0;show a9 (T'.cov _ _ k0) λu hu c1 c2 c3=>?_;have ku:=T'.kr u hu;have e:u.1=t.1:=by show B1 λhn=>?_;have:=ku.run.2 (t.1-1-u.1) (F02 0x76811048878087920 69889 rfl hn c1) (F03 0x9867117980770 17 rfl c2);rw[(⇑(F02 0x68176811709 17 rfl):u.1+(t.1-1-u.1)=t.1-1),(by(show F04 0x671a6911809a9187190 1114369 rfl c3):u.2.1+(t.1-1-u.1)=t.2.1-1)]at this;show k.lo this
 rw[<-KRun.inj G ku k e];show hu
theorem QH {xs ys:List Tri}(h1:xs.Nodup)(h2:ys.Nodup)(h:∀x,x∈xs↔x∈ys):xs.Perm ys:=(List.perm_ext_iff_of_nodup h1 h2).mpr h
theorem QI (G:Grd M K)(T:Told M K bl)(T':Told M K bl'):bl=bl':=
 Jw (QH T.nodup T'.nodup λ_=>⟨T.sub G T',T'.sub G T⟩) T.lex T'.lex
theorem Grw.same{a b W0 v:Int->Int}(H:Grw M K a b W0 v){s t n:Int}(R:Run M s t n)(m:Nat)(hm:(m:Int)<=n):b (t+m)-b t=a (s+m)-a s:=
 EB H.ha H.hb m λk hk=>(H.wv (R.2 k (As _) (fk [_,_] [_] 0x7837784077380 273 rfl hm hk))).symm
theorem Grw.krun{a b W0 v:Int->Int}(G:Grd M K)(H:Grw M K a b W0 v){t:Tri}(k:KRun M K t):KRun (XM a b W0 M) (XM a b W0 K) (growB a b t):=by
 have r0:=k.run.1;have kk0:=k.kk 0 (Ax _) r0;rw[Bm,Bm]at kk0;show a9 (H.fwd k.run (t.2.2-1).toNat (F01 0x7737704706713a 285282320 rfl r0)) λl l0 l1 l2 l3=>?_;have e1:=H.ha (t.1+((t.2.2-1).toNat:Int));rw[(by(show F02 0x7806738009704706713a 0x1101101010101001 rfl r0):t.1+((t.2.2-1).toNat:Int)+1=t.1+t.2.2)]at e1
 have same:=H.same k.run t.2.2.toNat (F01 0x77387047073a 17829904 rfl r0);rw[(by(show F01 0x77397047073a 0x110011010101001 rfl r0):((t.2.2.toNat:Nat):Int)=t.2.2)]at same;have R:Run (XM a b W0 M) (a t.1) (b t.2.1) (a (t.1+t.2.2)-a t.1):=⟨fk [_] [_,_,_,_,_] 0xab1047980b907a0980907673080 1114369 rfl l0 l1 e1,λr h0 h1=>l3 r h0 (fk [] [_,_,_,_,_,_] 0xac79b1c70870b90a9087090 1114369 rfl l1 e1 h1)⟩;have hws:=H.hw t.1;show⟨R,λr h0 h1=>?_,?_,?_⟩
 .have:=(G.exp H).runK R (bk t.1 t.2.1 0 kk0 (Ax _) (by assumption) (by simp) (by simp)) r.toNat (by simp only[growB]at h1;(show fk [_] [_,_,_,_,_,_] 0xab1737ab1c70980b907a0980907683080c3a 0x101010101110000010 rfl l0 l1 e1 h1))
  rwa [(by(show DE ()):((r.toNat:Nat):Int)=r)]at this
 .rintro ⟨i,j,r,m,h0,h1,h2,h3⟩;rcases(H.next m k.run.first h0 h1 (Ax 0) () (F03 0x47069800998067190 1114369 rfl h2) (F03 0x47069800998067190 1114369 rfl h3)) with⟨_,_,x⟩ | ⟨x,y,_⟩
  ·(show F01 0x3670049070480 257 rfl h0 x)
  .refine k.lo ?_;rw[x,y,Hr,Hr];show m
 .rintro ⟨i,j,r,m,h0,h1,h2,h3⟩;have ml:=k.run.2 (t.2.2-1) (F01 0x67104870470 17 rfl r0) (F01 485143 1 rfl);have e2:=H.ha (t.1+(t.2.2-1));have e3:=H.hb (t.2.1+(t.2.2-1));rw[(by(show F02 0x87066817009 17 rfl):t.1+(t.2.2-1)+1=t.1+t.2.2)]at e2;rw[(by(show F02 0x87066817009 17 rfl):t.2.1+(t.2.2-1)+1=t.2.1+t.2.2)]at e3;rcases(H.next ml m (r:=W0 (t.1+(t.2.2-1))-1) (F01 0x6710487680 17 rfl (H.hw (t.1+(t.2.2-1)))) (F01 485143 1 rfl) h0 h1 (fk [] [_,_,_,_,_,_] 0xa9066c1b009cb0890a907817090 73015558416 rfl h2 e2) (fk [] [_,_,_,_,_,_,_,_,_] 0xcb066f1d009ef90ed0790cb0a918090a9187190 0x101100101110011010 rfl same h3 e3 (H.wv ml))) with⟨x,_,z⟩ | ⟨x,y,_⟩
  .rw [x]at h1;(show F02 0x3668107908770 257 rfl h1 z)
  .refine k.hi ?_;rw[(⇑(F03 0x798096691800790 1114369 rfl x):t.1+t.2.2=i),(by(show F03 0x798096691800790 1114369 rfl y):t.2.1+t.2.2=j)];show m
theorem Grw.told{a b W0 v:Int->Int}(G:Grd M K)(H:Grw M K a b W0 v)(T:Told M K bl):Told (XM a b W0 M) (XM a b W0 K) (bl.map (growB a b)):=by
 show⟨?_,λt ht=>?_,λp q q19=>q19.elim λi q20=>q20.elim λj q21=>q21.elim λr q22=>q22.elim λk q23=>q23.elim λh0 q24=>q24.elim λh1 q25=>q25.elim λh2 h3=>?_⟩
 .refine Df.2 ?_;show T.gap.imp_of_mem λ{x y} hx hy g=>?_;have kx:=T.kr x hx;have sx:=H.same kx.run x.2.2.toNat (by have:=kx.run.1;(show F01 0x77387047073a 17829904 rfl this));rw[(by have:=kx.run.1;(show F01 0x77397047073a 0x110011010101001 rfl this):((x.2.2.toNat:Nat):Int)=x.2.2)]at sx;show aZ g λg1 g2 g3=>?_;have le1:a (x.1+x.2.2)<=a y.1:=by
   by_cases e:x.1+x.2.2=y.1
   .rw [e];show Ax _
   .have:=Cc H.ha H.hw (i:=x.1+x.2.2) (i':=y.1) (F03 0x987079870809870920 69889 rfl e g1);have:=H.hw (x.1+x.2.2);(show F03 0x9788680987080 273 rfl () this)
  have le2:b (x.2.1+x.2.2)<=b y.2.1:=by
   by_cases e:x.2.1+x.2.2=y.2.1
   .rw [e];show Ax _
   .have:=Cc H.hb H.hv (i:=x.2.1+x.2.2) (i':=y.2.1) (F03 0x987079870809870920 69889 rfl e g2);have:=H.hv (x.2.1+x.2.2);(show F03 0x9788680987080 273 rfl () this)
  show aP (F03 0x89719088780 17 rfl le1) (F05 0xba91808b780a9187190 4368 rfl sx le2) λq18=>q18.elim λc1 c2=>g3 ⟨?_,?_⟩
  .refine B1 λhn=>?_;have:=Cc H.ha H.hw (i:=x.1+x.2.2) (i':=y.1) (F03 0x987079870809870920 69889 rfl hn g1);show F04 0x3a6809a808097817090 4368 rfl q18.1 () (H.hw (x.1+x.2.2))
  .refine B1 λhn=>?_;have:=Cc H.hb H.hv (i:=x.2.1+x.2.2) (i':=y.2.1) (F03 0x987079870809870920 69889 rfl hn g2);show fk [] [_,_,_,_,_,_] 0x3c680bc7080ba918090a9187190 1118224 rfl sx q18.2 () (H.hv (x.2.1+x.2.2))
 .refine aK (Bk.mp ht) λu hu zz1=>?_;subst zz1;show H.krun G (T.kr u hu)
 .refine a9 (T.cov i j k) λt ht c1 c2 c3=>?_;show aM (growB a b t) (Dw ht) (?_);have sm:=H.same (T.kr t ht).run (i-t.1).toNat (F03 0x973897087087807813a 73283997712 rfl c1 c2);rw[(⇑(F04 0x973a09781a919087807813a 0x110101101010110010101001 rfl c1 c3):t.2.1+(((i-t.1).toNat:Nat):Int)=j),(by(show F02 0x87370987807813a 0x1101101010101001 rfl c1):t.1+(((i-t.1).toNat:Nat):Int)=i)]at sm;have ai:a t.1<=a i:=by
   by_cases e:t.1=i
   .rw [e];show Ax _
   .have:=Cc H.ha H.hw (i:=t.1) (i':=i) (F02 0x877878087920 69889 rfl e c1);(show F03 0x9788680987080 273 rfl () (H.hw t.1))
  show⟨F04 0x8a89a8079089070480 69889 rfl h0 h2 ai,fk [] [_,_,_,_,_,_] 0xcb1c097b8a0807a09908770 69649 rfl h1 h2 (Cc H.ha H.hw (i:=i) (i':=t.1+t.2.2) c2),fk [] [_,_,_,_,_,_,_] 0xd71ca19d81cb1909b0a90980790 0x10101101101001 rfl h2 h3 sm⟩
theorem G3 (f:Nat->List Int)(s:Nat):cat f s 0=[]:=rfl
theorem cat_succ (f:Nat->List Int)(s n:Nat):cat f s (n+1)=cat f s n++f (s+n):=by
 unfold cat
 rw[List.range'_1_concat,FN];simp
theorem Ed (f:Nat->List Int)(s m n:Nat):cat f s (m+n)=cat f s m++cat f (s+m) n:=by
 unfold cat
 rw[<-FN,List.range'_append_1]
theorem Kr {g:Nat->List Int}{s t:Nat}:∀n:Nat,(∀k,k<n->f (s+k)=g (t+k))->cat f s n=cat g t n:=by
 intro r_;induction r_ with
 | zero=>intro _;show rfl
 | succ n ih=>intro h;rw[cat_succ,cat_succ,ih λk hk=>h k (CG hk),h n (CE _)]
theorem QJ{x:List Int}{s:Nat}:∀n:Nat,(∀k,k<n->f (s+k)=[x.getD (s+k) 0])->s+n<=x.length->cat f s n=(x.drop s).take n:=by
 intro r_;induction r_ with
 | zero=>intro _ _;simp[G3]
 | succ n ih=>
  intro h hl
  rw[cat_succ,ih (λk hk=>h k (CG hk)) (By ()),h n (CE _)];have:(x.drop s)[n]?=some (x.getD (s+n) 0):=by rw[List.getElem?_drop,List.getD,A3 ()];rfl
  rw[En,this];rfl
theorem QK (f:Nat->List Int){i':Nat}(h1:i<=i')(h2:i'<=n):((cat f 0 n).drop (cat f 0 i).length).take ((cat f 0 i').length-(cat f 0 i).length)=cat f i (i'-i):=by
 have e1:cat f 0 n=cat f 0 i++(cat f i (i'-i)++cat f i' (n-i')):=by have:=Ed f 0 i (n-i);rw[Cf,(by(show F30 0xa7806a9509850791a 0x11101100101001010001 rfl h1 h2):i+(n-i)=n)]at this;have q:=Ed f i (i'-i) (n-i');rw[(⇑(F30 0x78906cb50ba509b1a9a1a781a 0x100000101100010000100000101100101010101101001100010000101011001100100110110100110100010000110010110100101001100101010100010000100011010100100101 rfl h1 h2):i'-i+(n-i')=n-i),(by(show F20 0x978069850781a 0x1101101010101001 rfl h1):i+(i'-i)=i')]at q;rw[this,q]
 have e2:cat f 0 i'=cat f 0 i++cat f i (i'-i):=by
  have:=Ed f 0 i (i'-i)
  rwa [Cf,(⇑(F20 0x978069850781a 0x1101101010101001 rfl h1):i+(i'-i)=i')]at this
 rw[e1,e2,List.drop_left,Ba,FM,List.take_left]
theorem Ee (f:Nat->List Int)(k:Nat):Am f k=((cat f 0 k).length:Int):=by unfold Am;rw[if_pos (As _)];rfl
theorem HX (f:Nat->List Int)(i:Int):Am f (i+1)=Am f i+Cg f i:=by
 delta Am Cg;by_cases h : 0<=i
 .rw [if_pos ⇑(F01 0x67004870480 17 rfl h),if_pos h,if_pos h,(⇑(F01 0x670867048073a6703a 0x100001010010100001010010101010110101100110101001 rfl h):(i+1).toNat=i.toNat+1),cat_succ,Ba,Cf];rfl
 .by_cases h2:i = -1
  .subst h2;rfl
  .rw [if_neg ⇑(F01 0x670048270482060417920 69889 rfl h2 h),if_neg h,if_neg h]
theorem Kt (h:∀k,f k≠[])(i:Int) : 1<=Cg f i:=by
 unfold Cg;split
 .have:=List.length_pos_iff.mpr (h i.toNat);(show F3.mpr ())
 .exact Ax _
theorem EE{k:Nat}(hk:k<n)(hr:r<(f k).length):(cat f 0 n).getD ((cat f 0 k).length+r) 0=(f k).getD r 0:=by
 have e:cat f 0 n=cat f 0 k++(f k++cat f (k+1) (n-(k+1))):=by
  have:=Ed f 0 k (n-k);rw[Cf,(by(show F20 0x978069840781a 0x110011010101001 rfl hk):k+(n-k)=n)]at this;have q:=Ed f k 1 (n-(k+1));rw[(by(show F20 0x78606a940891a67081a 0x11000100100110101101010011000100100100110101001 rfl hk):1+(n-(k+1))=n-k)]at q;have z:cat f k 1=f k:=by rw[cat_succ,G3];simp
  rw[this,q,z]
 rw[e,List.getD,CH (EK _ _),FM,Dg hr,List.getD]
theorem G4:∀{n p:Nat},p<(cat f 0 n).length->∃k r,k<n/\r<(f k).length/\p=(cat f 0 k).length+r:=by
 intro r_;induction r_ with
 | zero=>intro p h;simp[G3]at h
 | succ n ih=>
  intro p h
  by_cases x:p<(cat f 0 n).length
  .refine aN (ih x) λk r h1 h2 h3=>?_;show aT k r (CG h1) h2 h3
  .refine aT n (p-(cat f 0 n).length) (CE _) (?_) (F20 0x7908698420871a 0x1010110110011010 rfl x);rw[cat_succ,Ba,Cf]at h
   (show F30 0xa7498420a90840871a 73283993872 rfl h x)
theorem Ku{k:Nat}(hk:k<n)(hr:r<(f k).length):(cat f 0 k).length+r<(cat f 0 n).length:=by
 have:=Ed f 0 (k+1) (n-(k+1));rw[(by(show F20 0x9768006984067081a 0x1101101010101001 rfl hk):k+1+(n-(k+1))=n)]at this;rw[this,Ba,cat_succ,Ba,Cf]
 (show F40 0xa890079048740 17 rfl hr)
theorem QL{E F:Nat->List Int}{la lb:Nat}(hx:la=xs.length)(hy:lb=ys.length)
  (hEF:∀i r j r',i<la->j<lb->r<(E i).length->r'<(F j).length->(E i).getD r 0=(F j).getD r' 0->MP xs ys i j/\r=r')
  (hFE:∀i j,MP xs ys i j->(E i.toNat).length=(F j.toNat).length/\∀r,r<(E i.toNat).length->(E i.toNat).getD r 0=(F j.toNat).getD r 0){p:Int} :
  MP (cat E 0 la) (cat F 0 lb) p q↔XM (Am E) (Am F) (Cg E) (MP xs ys) p q:=by
 constructor
 .rintro ⟨p0,p1,q0,q1,e⟩;show aN (G4 (f:=E) (n:=la) (p:=p.toNat) (Bf () ())) λi r hi hr ep=>?_;show aN (G4 (f:=F) (n:=lb) (p:=q.toNat) (Bf () ())) λj r' hj hr' eq=>?_;rw[ep,eq,EE hi hr,EE hj hr']at e;obtain⟨m,rfl⟩:=hEF i r j r' hi hj hr hr' e;show bk i j r m (As _) (?_) (?_) (?_)
  .unfold Cg;simp;show hr
  .rw [Ee];(show fk [_,_] [_] 0x93830799807607048073a 0x100010110101101001110010 rfl p0 ep)
  .rw [Ee];(show fk [_,_] [_] 0x93830799807607048073a 0x100010110101101001110010 rfl q0 eq)
 .rintro ⟨i,j,r,m,r0,r1,ep,eq⟩;have m':=m;obtain⟨i0,i1,j0,j1,_⟩:=m';clear right;obtain⟨I,rfl⟩:=BD i0;obtain⟨J,rfl⟩:=BD j0;obtain⟨R,rfl⟩:=BD r0;obtain⟨l1,l2⟩:=hFE _ _ m;have hI:I<la:=by(show F30 0x7948393708760 4368 rfl hx i1)
  have hJ:J<lb:=F30 0x7948393708760 4368 rfl hy j1
  have hR:R<(E I).length:=by(show Bf () ())
  have c1:=Ku hI hR;have c2:=Ku hJ (l1▸hR);show⟨fk [_,_] [_] 0x704883730790 272 rfl ep,fk [_,_,_] [_] 0x937798704083730790 4353 rfl ep c1,fk [_,_] [_] 0x704883730790 272 rfl eq,fk [_,_,_] [_] 0x937798704083730790 4353 rfl eq c2,?_⟩;rw[(⇑(fk [_,_] [_] 0x980769383079073a 0x10001110101011011001 rfl ep):p.toNat=(cat E 0 I).length+R),(⇑(fk [_,_] [_] 0x980769383079073a 0x10001110101011011001 rfl eq):q.toNat=(cat F 0 J).length+R),EE hI hR,EE hJ (l1▸hR)];show l2 R hR
theorem Kv (xs:List Int)(sh:Nat->Bool)(way:Nat->Int)(i:Nat):expE xs sh way i≠[]:=by
 unfold expE;split
 .simp
 .split <;> simp
theorem QM (xs ys:List Int)(sh:Nat->Bool)(way:Nat->Int)(part:Nat->Option Nat)(j:Nat):expF xs ys sh way part j≠[]:=by
 unfold expF;cases part j with
 | none=>simp
 | some i=>show Kv _ _ _ _
theorem HY (h:r<(expE xs sh way i).length) :
  ((expE xs sh way i).getD r 0=xs.getD i 0/\r+1=(expE xs sh way i).length/\(sh i=true->r=0))\/((expE xs sh way i).getD r 0 = -1-(i:Int)/\r=0/\sh i=false/\way i≠0):=by
 unfold expE at *;by_cases h1:sh i=true\/way i=0
 .rw [if_pos h1]at h ⊢;have:r=0:=by simp at h;show h
  clear h;subst this;show .inl (aP rfl rfl λ_=>rfl)
 .have s0:sh i=false:=by cases x:sh i with
   | false=>rfl
   | true=>show absurd (.inl x) h1
  have w0:=λx=>h1 (.inr x);rw[if_neg h1]at h ⊢;by_cases h2:way i=1
  .rw [if_pos h2]at h ⊢;have:r=0:=by simp at h;show h
   clear h;subst this;show .inr ⟨rfl,rfl,s0,w0⟩
  .rw [if_neg h2]at h ⊢
   match r,h with
   | 0,_=>show .inr ⟨rfl,rfl,s0,w0⟩
   | 1,_=>show .inl (aP rfl rfl λx=>by rw[s0]at x;cases x)
theorem Lst2.i1{part:Nat->Option Nat}(h:Lst2 xs ys K sh part){i j':Int}(a:MP xs ys i j)(b:MP xs ys i j'):j=j':=by
 show bf a λa1 a2 a3 a4 a5=>?_;show bf b λ_ _ b3 b4 b5=>?_
 (show F02 0x8797860804807048083a73a 0x100100010100011000100100010110010101101100101100011000101001001110000110 rfl a3 b3 (h.yi (j:=j.toNat) (j':=j'.toNat) (Bf () ()) (Bf () ()) (a5.symm.trans b5)))
theorem Lst2.i2{part:Nat->Option Nat}(h:Lst2 xs ys K sh part){i:Int}(a:MP xs ys i j)(b:MP xs ys i' j):i=i':=by show bf a λa1 a2 a3 a4 a5=>?_;show bf b λb1 b2 _ _ b5=>?_;show F02 0x8797860804807048083a73a 0x100100010100011000100100010110010101101100101100011000101001001110000110 rfl a1 b1 (h.xi (i:=i.toNat) (i':=i'.toNat) (Bf () ()) (Bf () ()) (a5.trans b5.symm))
theorem Lst2.inj{part:Nat->Option Nat}(h:Lst2 xs ys K sh part){i':Nat}(hi:i<xs.length)(hi':i'<xs.length)(hr:r<(expE xs sh way i).length)(hr':r'<(expE xs sh way i').length)(e:(expE xs sh way i).getD r 0=(expE xs sh way i').getD r' 0):i=i'/\r=r':=by
 have x0:=h.xn hi;have x1:=h.xn hi';rcases HY hr with⟨a1,a2,a3⟩ | ⟨a1,a2,_⟩ <;> rcases HY hr' with⟨b1,b2,b3⟩ | ⟨b1,b2,_⟩
 .rw [a1,b1]at e;have:=h.xi hi hi' e;clear b3 b1 x1 e hr' hi';subst this;show⟨rfl,F30 0x976869060867060 73015558416 rfl a2 b2⟩
 .exact ⟨by show fk [_,_] [_,_,_] 0x78673604118909790904808790 0x11010100110101 rfl e x0 a1 b1,by show fk [_,_,_] [_,_,_] 0x98673604118909790904808790 0x11010100110101 rfl e x0 a1 b1⟩
 .exact ⟨by show fk [_,_] [_,_,_] 0x87698907360411790904808790 0x100111001001110 rfl e x1 a1 b1,by show fk [_,_,_] [_,_,_] 0x98698907360411790904808790 0x100111001001110 rfl e x1 a1 b1⟩
 .rw [a1,b1]at e;show⟨F20 0x8768360411736041190 1114369 rfl e,F20 0x8760486004760 73015558416 rfl a2 b2⟩
theorem Lst2.hEF{part:Nat->Option Nat}(h:Lst2 xs ys K sh part){j:Nat}(hi:i<xs.length)(hj:j<ys.length)(hr:r<(expE xs sh way i).length)(hr':r'<(expF xs ys sh way part j).length)(e:(expE xs sh way i).getD r 0=(expF xs ys sh way part j).getD r' 0)(yn : 0<=ys.getD j 0):MP xs ys i j/\r=r':=by
 unfold expF at hr' e;cases hp:part j with
 | some i'=>
  rw[hp]at hr' e;have k:=h.pt.mp hp;have m:=h.sub k;have hi':i'<xs.length:=by have:=m.2.1;(show F20 0x874837370 17 rfl this)
  clear k hp;obtain⟨rfl,rfl⟩:=h.inj hi hi' hr hr' e;show⟨m,rfl⟩
 | none=>
  rw[hp]at hr' e;have r0:r'=0:=by simp at hr';show hr'
  clear hr';subst r0;have e':(expE xs sh way i).getD r 0=ys.getD j 0:=e;rcases HY hr with⟨a1,a2,a3⟩ | ⟨a1,a2,a3,a4⟩
  .have m:MP xs ys i j:=⟨As _,BC.mpr (),As _,BC.mpr (),by rw[AW,AW,<-a1,e']⟩;show⟨m,?_⟩;cases x:sh i with
   | true=>show a3 x
   | false=>
    obtain⟨j',k⟩:=h.un hi x;have:=h.i1 m (h.sub k);rw[<-this]at k;have:=h.pt.mpr k;rw[hp]at this;cases this
  .exact ⟨(F12 0x37360411890789070480 4353 rfl yn e' a1).elim,by omega⟩
theorem Lst2.hFE{part:Nat->Option Nat}(h:Lst2 xs ys K sh part){i:Int}(m:MP xs ys i j):(expE xs sh way i.toNat).length=(expF xs ys sh way part j.toNat).length/\∀r,r<(expE xs sh way i.toNat).length->(expE xs sh way i.toNat).getD r 0=(expF xs ys sh way part j.toNat).getD r 0:=by
 show bf (id m) λm1 m2 m3 m4 m5=>?_;obtain⟨I,rfl⟩:=BD m1;obtain⟨J,rfl⟩:=BD m3;simp only[AW]at *;unfold expF;cases hp:part J with
 | some i'=>
  have k:=h.pt.mp hp;have e:=h.i2 m (h.sub k);have e:I=i':=F20 0x876837390 1052944 rfl e
  clear k hp;subst e;show⟨rfl,λ_ _=>rfl⟩
 | none=>
  have s:sh I=true:=by
   cases x:sh I with
   | true=>rfl
   | false=>
    obtain⟨j',k⟩:=h.un ⇑(F20 0x874837370 17 rfl m2) x;have:=h.i1 m (h.sub k);rw[<-this]at k;have:=h.pt.mpr k;rw[hp]at this;cases this
  have e:expE xs sh way I=[xs.getD I 0]:=by unfold expE;show(if_pos (.inl s))
  rw[e];show⟨rfl,λr hr=>?_⟩;have:r=0:=by simp at hr;show hr
  subst this;show m5
theorem Lst2.grw{part:Nat->Option Nat}(h:Lst2 xs ys K sh part):Grw (MP xs ys) K (Am (expE xs sh way)) (Am (expF xs ys sh way part)) (Cg (expE xs sh way)) (Cg (expF xs ys sh way part)) where
 ha:=HX _
 hb:=HX _
 hw:=Kt (Kv _ _ _)
 hv:=Kt (QM _ _ _ _ _)
 wv:=λ{i j} m=>by unfold Cg;rw[if_pos m.1,if_pos m.2.2.1,(h.hFE (way:=way) m).1]
 one:=λ{i j} m nk=>by
  unfold Cg;rw[if_pos m.1];have s:sh i.toNat=true:=by
   cases x:sh i.toNat with
   | true=>rfl
   | false=>
    have:=m.2.1;obtain⟨j',k⟩:=h.un (i:=i.toNat) (by have:=m.1;(show Bf () ())) x;have hi:((i.toNat:Nat):Int)=i:=by have:=m.1;(show DE ())
    rw[hi]at k;rw[<-(h.i1 m (h.sub k))]at k;show absurd k nk
  have e:expE xs sh way i.toNat=[xs.getD i.toNat 0]:=by unfold expE;show(if_pos (.inl s))
  rw[e];rfl
theorem Lst2.mp{part:Nat->Option Nat}(h:Lst2 xs ys K sh part)(yn:∀{j},j<ys.length->0<=ys.getD j 0):MP (cat (expE xs sh way) 0 xs.length) (cat (expF xs ys sh way part) 0 ys.length)=XM (Am (expE xs sh way)) (Am (expF xs ys sh way part)) (Cg (expE xs sh way)) (MP xs ys):=by funext p q;show propext (QL rfl rfl (λi r j r' hi hj hr hr' e=>h.hEF hi hj hr hr' e (yn hj)) (λi j m=>h.hFE m))
theorem bnd_snoc{o:Op}:(bnd (g++[o])).2.1=o.2.2.1/\(bnd (g++[o])).2.2.2=o.2.2.2.2:=by unfold bnd;rw[List.getLastD_concat];show⟨rfl,rfl⟩
theorem Kw {l:List Op}{i:Int}{t:String}{a c:Int}(h:Hd g x0 y0 i j):(bnd (g++(t,i,a,j,c)::l)).1=x0/\(bnd (g++(t,i,a,j,c)::l)).2.2.1=y0:=by
 rcases h with⟨rfl,rfl,rfl⟩ | ⟨o,t,rfl,rfl,rfl⟩
 .exact ⟨rfl,rfl⟩
 .exact ⟨rfl,rfl⟩
theorem QN {i:Int}{t:String}{a c:Int}(h:Hd g x0 y0 i j):bnd (g++[(t,i,a,j,c)])=(x0,a,y0,c):=by show aU (Kw (l:=[]) (t:=t) (a:=a) (c:=c) h) λp1 p2=>?_;show aU (bnd_snoc (g:=g) (o:=(t,i,a,j,c))) λq1 q2=>?_;show D3 p1 (D3 q1 (D3 p2 q2))
theorem Kx {i:Int}{t u:String}{a c e1 e2 f1 f2:Int}(h:Hd g x0 y0 i j):bnd (g++[(t,i,a,j,c),(u,e1,e2,f1,f2)])=(x0,e2,y0,f2):=by show aU (Kw (l:=[(u,e1,e2,f1,f2)]) (t:=t) (a:=a) (c:=c) h) λp1 p2=>?_;show aU (bnd_snoc (g:=g++[(t,i,a,j,c)]) (o:=(u,e1,e2,f1,f2))) λq1 q2=>?_;rw[Bq]at q1 q2;show D3 p1 (D3 q1 (D3 p2 q2))
theorem InG.app {y f:Int}{h:List Op}(a:InG y f g)(b:InG y f h):InG y f (g++h):=λo ho=>(Aw.mp ho).elim (a o) (b o)
theorem InG.mono {y f f':Int}(a:InG y f g)(h:f<=f'):InG y f' g:=λo ho=>by have:=a o ho;show⟨F02 0x8788780 17 rfl this.1,F03 0x89879808780 273 rfl h this.2.1,F02 0x8788780 17 rfl this.2.2.1,F03 0x89879808780 273 rfl h this.2.2.2⟩
theorem Ky{P:Int->Prop}{n:Int}(hn : 0<=n):∀(r:List Tri) (i j x0 y0:Int) (g:List Op),okB false i j r->chg i j r->(∃r0,r=r0++[(la,lb,0)])->(∀t∈r,∀k:Nat,(k:Int)<t.2.2->K (t.1+k) (t.2.1+k)) ->
  Hd g x0 y0 i j->InG y0 j g->x0<=i->y0<=j->(∀h∈segG n i j g r,∀k,(bnd h).1<=k->k<(bnd h).2.1->P k) ->
  (∃h aC,segG n i j g r=h::aC/\(bnd h).1=x0/\(bnd h).2.2.1=y0/\i<=(bnd h).2.1/\j<=(bnd h).2.2.2/\InG y0 (bnd h).2.2.2 h/\ChG K la lb (bnd h).2.1 (bnd h).2.2.2 aC)/\(∀k,x0<=k->k<i->P k)/\shP P n i j r:=by
 intro r_
 induction r_ with
 | nil=>
  intro i j x0 y0 g h _ _ _ _ _ _ _ _;simp[okB]at h
 | cons kv_ r ih=>
  obtain⟨a,c,s⟩:=kv_;intro i j x0 y0 g h hc hl hK hd hin hx hy hP;obtain⟨h1,h2,h⟩:=h;have Ks:=hK _ (.head _);simp only at Ks;have inC:InG y0 c (g++[(A0 i a j c,i,a,j,c)]):=(hin.mono h2).app λo ho=>by rw[Ay.mp ho];show⟨by show F02 0x8788780 17 rfl hy,by show F02 0x8788780 17 rfl h2,Ce () (),Ax _⟩
  clear hin;rcases h with⟨rfl,rfl⟩ | ⟨s0,_,h⟩
  .clear ih;obtain⟨r0,e⟩:=hl;have e:a=la/\c=lb:=by
    cases r0 with
    | nil=>simp at e;show e
    | cons z r0=>simp at e
   obtain⟨rfl,rfl⟩:=e
   have b:=QN (t:=A0 i a j c) (a:=a) (c:=c) hd;have p:=hP _ (.head _);rw[b]at p;show⟨bU _ _ rfl (by rw[b]) (by rw[b]) (by rw[b];show h1) (by rw[b];show h2) (by rw[b];show inC) (by rw[b];show aO 0 (by simp) (by simp) λk hk=>(F10 3163968 1 rfl hk).elim),λk k0 k1=>p k k0 (by simp only;(show CR () ())),?_⟩;show⟨λk k0 k1=>p k (by simp only;(show Ce () ())) k1,λk hk=>λx1=>(F10 50623344 1 rfl hk).elim,λhch=>absurd hch id,trivial⟩
  .clear left;obtain⟨S,rfl⟩:=BD (Bh s0);obtain⟨N,rfl⟩:=BD hn;have hr:r≠[]:=λe=>by rw[e]at h;simp[okB]at h
   have hl':∃r0,r=r0++[(la,lb,0)]:=by
    obtain⟨r0,e⟩:=hl;cases r0 with
    | nil=>simp at e;show(F10 0x304760730470 17 rfl s0 e.1.2.2).elim
    | cons z r0=>show⟨r0,(FO e).2⟩
   have hK':=λt ht=>hK t (.tail _ ht);by_cases hch:chg (a+S) (c+S) r
   .by_cases hb:(S:Int)>N+N
    .have es:segG N i j g ((a,c,(S:Int))::r)=(g++[(A0 i a j c,i,a,j,c),("equal",a,a+N,c,c+N)])::segG N (a+S) (c+S) [("equal",a+S-N,a+S,c+S-N,c+S)] r:=by rw[segG,if_neg ⇑(F10 0x47392730470 17 rfl s0),if_pos hch,if_pos hb]
     rw[es]at hP ⊢;have b:=Kx (t:=A0 i a j c) (u := "equal") (a:=a) (c:=c) (e1:=a) (e2:=a+N) (f1:=c) (f2:=c+N) hd;have p:=hP _ (.head _);rw[b]at p;simp only at p;obtain⟨⟨h',aC,e1,b1,b2,b3,b4,b5,b6⟩,p2,p3⟩:=ih (a+S) (c+S) (a+S-N) (c+S-N) [("equal",a+S-N,a+S,c+S-N,c+S)] h hch hl' hK' (.inr (aT _ _ rfl rfl rfl)) (λo ho=>by rw[Ay.mp ho];simp only;show⟨Ax _,by show fk [_,_] [_] 0x737083737018 1 rfl,by show fk [_,_] [_] 0x737083737018 1 rfl,Ax _⟩) ⇑(fk [_,_] [_] 0x737083737018 1 rfl) ⇑(fk [_,_] [_] 0x737083737018 1 rfl) (λh' hh=>hP h' (.tail _ hh));show⟨bU _ _ rfl (by rw[b]) (by rw[b]) (by rw[b];simp only;(show F12 0x7380788780 17 rfl h1)) (by rw[b];simp only;show F12 0x7380788780 17 rfl h2) (?_) (?_),λk k0 k1=>p k k0 (F13 0x73809779708780 273 rfl h1 k1),λk k0 k1=>p k (Ce () ()) (F12 0x7380778770 17 rfl k1),λk k0 k1=>p _ (F13 0x73907898808780 273 rfl hx h1) (fk [_,_] [_] 0x837073707837370 17 rfl k1),λ_ k k0 k1=>p2 _ (fk [_,_,_] [_] 0x837093737018938307380 17 rfl k1) ⇑(fk [_,_] [_] 0x837073707837370 17 rfl k0),p3⟩
     .rw [b];have:=(inC.mono (f':=c+N) ⇑(F11 7565432 1 rfl)).app (h:=[("equal",a,a+N,c,c+N)]) λo ho=>by rw[Ay.mp ho];show⟨Ce () (),by show F11 7565432 1 rfl,by show F13 0x73907898808780 273 rfl hy h2,Ax _⟩
      rwa [Bq]at this
     .rw [b,e1];show⟨aO (S-N-N) (?_) (?_) λk hk=>?_,by rw[b1];(show fk [_,_] [_,_] 0x8837370188737080 17 rfl b3),by rw[b2];(show fk [_,_] [_,_] 0x8837370188737080 17 rfl b4),by rw[b2];show b5,b6⟩
      .rw [b1];(show fk [_,_] [_] 0x739370093a37019a39393070871a781a 0x10010110100100110010010101001110100100101101010 rfl hb)
      .rw [b2];(show fk [_,_] [_] 0x739370093a37019a39393070871a781a 0x10010110100100110010010101001110100100101101010 rfl hb)
      .have:=Ks (N+k) (F30 0xb39a0377940971a890a 0x10100111010 rfl hk)
       rwa [(⇑(fk [_,_] [_] 0x83737008703709 17 rfl):a+((N+k:Nat):Int)=a+N+k),(⇑(fk [_,_] [_] 0x83737008703709 17 rfl):c+((N+k:Nat):Int)=c+N+k)]at this
    .have es:segG N i j g ((a,c,(S:Int))::r)=segG N (a+S) (c+S) (g++[(A0 i a j c,i,a,j,c),("equal",a,a+S,c,c+S)]) r:=by rw[segG,if_neg ⇑(F10 0x47392730470 17 rfl s0),if_pos hch,if_neg hb]
     rw[es]at hP ⊢;have in2:InG y0 (c+S) (g++[(A0 i a j c,i,a,j,c),("equal",a,a+S,c,c+S)]):=by
      have:=(inC.mono (f':=c+S) (F11 7565432 1 rfl)).app (h:=[("equal",a,a+S,c,c+S)]) λo ho=>by rw[Ay.mp ho];show⟨Ce () (),F11 7565432 1 rfl,F13 0x73907898808780 273 rfl hy h2,Ax _⟩
      rwa [Bq]at this
     have hd2:Hd (g++[(A0 i a j c,i,a,j,c),("equal",a,a+S,c,c+S)]) x0 y0 (a+S) (c+S):=by
      clear in2 es hP hc inC h2 h1 hy hx;rcases hd with⟨rfl,rfl,rfl⟩ | ⟨o,t,rfl,z1,z2⟩
      .exact .inr (aT _ _ rfl rfl rfl)
      .exact .inr (aT _ _ rfl z1 z2)
     obtain⟨⟨h',aC,e1,b1,b2,b3,b4,b5,b6⟩,p2,p3⟩:=ih (a+S) (c+S) x0 y0 _ h hch hl' hK' hd2 in2 ⇑(F13 0x73907898808780 273 rfl hx h1) ⇑(F13 0x73907898808780 273 rfl hy h2) hP;show⟨bU h' aC e1 b1 b2 (F13 0x97897380808780 273 rfl h1 b3) (F13 0x97897380808780 273 rfl h2 b4) b5 b6,λk k0 k1=>p2 k k0 (F13 0x73809779708780 273 rfl h1 k1),λk k0 k1=>p2 k (Ce () ()) (F12 0x7380778770 17 rfl k1),λk k0 k1=>p2 _ ⇑(F13 0x73907898808780 273 rfl hx h1) ⇑(fk [_,_] [_] 0x837073707837370 17 rfl k0),λ_ k k0 k1=>p2 _ ⇑(F13 0x73907898808780 273 rfl hx h1) ⇑(fk [_,_] [_] 0x837073707837370 17 rfl k0),p3⟩
   .have es:segG N i j g ((a,c,(S:Int))::r)=[g++[(A0 i a j c,i,a,j,c),("equal",a,imin (a+S) (a+N),c,imin (c+S) (c+N))]]:=by rw[segG,if_neg ⇑(F10 0x47392730470 17 rfl s0),if_neg hch]
    have er:r=[(la,lb,0)]/\a+S=la/\c+S=lb:=by
     cases r with
     | nil=>show absurd rfl hr
     | cons z r=>
      obtain⟨x,y,q⟩:=z;simp only[chg]at hch;clear es hK' hr hP ih hK hl hc;rcases h.2.2 with⟨rfl,rfl⟩ | ⟨_,W0,_⟩
      .obtain ⟨r0,e⟩:=hl';cases r0 with
       | nil=>simp at e;obtain⟨rfl,rfl⟩:=e;show aP rfl (fk [_] [_,_,_,_] 0x8737098737080a73907873707120 285216769 rfl hch h.1) (fk [_] [_,_,_,_] 0xa73909a739080a73907873707120 285216784 rfl hch h.2.1)
       | cons z r0=>simp at e
      .simp at W0;show⟨absurd () (),absurd () (),absurd () ()⟩
    clear hK' hl' hr ih h hK hl hc;obtain⟨rfl,rfl,rfl⟩:=er;rw[es]at hP ⊢;have m0:∃m:Nat,m<=S/\imin (a+S) (a+N)=a+m/\imin (c+S) (c+N)=c+m/\(∀k:Nat,k<S->k<N->k<m):=by
     by_cases x:N<S
     .exact aW N (By ()) (by unfold imin;rw[if_pos (fk [_,_] [_] 0x8370737078740 17 rfl x)]) (by unfold imin;rw[if_pos ⇑(fk [_,_] [_] 0x8370737078740 17 rfl x)]) λk _ h=>h
     .exact aW S (A5 _) (by unfold imin;rw[if_neg (fk [_,_] [_] 0x837073707287420 17 rfl x)]) (by unfold imin;rw[if_neg (fk [_,_] [_] 0x837073707287420 17 rfl x)]) λk h _=>h
    show a9 m0 λm m1 m2 m3 m4=>?_;rw[m2,m3]at hP ⊢;have b:=Kx (t:=A0 i a j c) (u := "equal") (a:=a) (c:=c) (e1:=a) (e2:=a+m) (f1:=c) (f2:=c+m) hd;have p:=hP _ (.head _);rw[b]at p;show⟨bU _ _ rfl (by rw[b]) (by rw[b]) (by rw[b];simp only;show F12 0x7380788780 17 rfl h1) (by rw[b];simp only;show F12 0x7380788780 17 rfl h2) (?_) (?_),λk k0 k1=>p k k0 (F13 0x73809779708780 273 rfl h1 k1),λk k0 k1=>p k (Ce () ()) (F12 0x7380778770 17 rfl k1),λk k0 k1=>?_,λz=>absurd z hch,?_⟩
    .rw [b];have:=(inC.mono (f':=c+m) ⇑(F11 7565432 1 rfl)).app (h:=[("equal",a,a+m,c,c+m)]) λo ho=>by rw[Ay.mp ho];show⟨Ce () (),by show F11 7565432 1 rfl,by show F13 0x73907898808780 273 rfl hy h2,Ax _⟩
     rwa [Bq]at this
    .rw [b];show aO (S-m) (by simp only;(show fk [_,_] [_] 0x7383700937099850781a 0x1010110110011010 rfl m1)) (by simp only;(show fk [_,_] [_] 0x7383700937099850781a 0x1010110110011010 rfl m1)) λk hk=>?_;have:=Ks (m+k) (F30 0xa3890377840891a 16847120 rfl hk)
     rwa [(⇑(fk [_,_] [_] 0x83737008703709 17 rfl):a+((m+k:Nat):Int)=a+m+k),(⇑(fk [_,_] [_] 0x83737008703709 17 rfl):c+((m+k:Nat):Int)=c+m+k)]at this
    .have:=m4 k (F20 0x874837370 17 rfl k0) (F20 0x874837370 17 rfl k1);show p _ ⇑(F13 0x73907898808780 273 rfl hx h1) ⇑(fk [_,_] [_] 0x8370737078740 17 rfl this)
    .refine aV (λk k0 k1=>(F12 0x373708708737080 17 rfl k0 k1).elim) (λk k0=>λx1=>(F10 50623344 1 rfl k0).elim) (λz=>absurd z id) trivial
theorem QO{i:Int}{f:Bool}{r:List Tri}(h:okB f i j r)(hl:∃r0,r=r0++[(la,lb,0)])(hc:¬chg i j r)(hf:f=false):r=[(la,lb,0)]/\i=la/\j=lb:=by
 subst hf;cases r with
 | nil=>simp[okB]at h
 | cons z r=>
  obtain⟨x,y,q⟩:=z;simp only[chg]at hc;rcases h.2.2 with⟨rfl,rfl⟩ | ⟨_,W0,_⟩
  .obtain ⟨r0,e⟩:=hl;cases r0 with
   | nil=>simp at e;obtain⟨rfl,rfl⟩:=e;show aP rfl (F04 0x8798780a97877120 285216769 rfl hc h.1) (F04 0xa99a980a97877120 285216784 rfl hc h.2.1)
   | cons z r0=>simp at e
  .simp at W0;show⟨absurd () (),absurd () (),absurd () ()⟩
theorem QP {P:Int->Prop}{n:Int}:shP P n la lb [(la,lb,0)]:=by simp only[shP];show aV (λk k0 k1=>(F02 0x378708780 17 rfl k0 k1).elim) (λk k0=>λx1=>(F10 50623344 1 rfl k0).elim) (λz=>absurd z id) trivial
theorem QQ{P:Int->Prop}{n:Int}(hn : 0<=n)(h:okB true 0 0 bl)(hl:∃r0,bl=r0++[(la,lb,0)])(hK:∀t∈bl,∀k:Nat,(k:Int)<t.2.2->K (t.1+k) (t.2.1+k))
  (hP:∀h∈groupsB n bl,∀k,(bnd h).1<=k->k<(bnd h).2.1->P k):ChG K la lb 0 0 (groupsB n bl)/\shA P n bl:=by
 cases bl with
 | nil=>simp[okB]at h
 | cons z r=>
  obtain⟨a,c,s⟩:=z;by_cases hc : 0<a\/0<c
  .have eg:groupsB n ((a,c,s)::r)=segG n 0 0 [] ((a,c,s)::r):=by simp only[groupsB];show(if_pos hc)
   rw[eg]at hP ⊢;show aZ (Ky (K:=K) (P:=P) (la:=la) (lb:=lb) hn ((a,c,s)::r) 0 0 0 0 [] (Gy h hc) hc hl hK (.inl ⟨rfl,rfl,rfl⟩) (λ_ h=>nomatch h) (Ax _) (Ax _) hP) λq80 _ p3=>?_;show cb q80 λh' aC e1 b1 b2 b3 b4 b5 b6=>?_;show⟨?_,?_⟩
   .rw [e1];show⟨aO 0 (by rw[b1];rfl) (by rw[b2];rfl) λk hk=>by show(F10 3163968 1 rfl hk).elim,by rw[b1];show b3,by rw[b2];show b4,by rw[b2];show b5,b6⟩
   .simp only[shA];rw[if_pos hc];show p3
  .have ea:a=0:=by(show F02 0x4797048080477047120 268505344 rfl hc h.1)
   have ec:c=0:=by(show F02 0x4898048080477047120 269488384 rfl hc h.2.1)
   subst ea;subst ec;have Ks:=hK _ (.head _);simp only[shA];rw[if_neg hc];rcases h.2.2 with⟨rfl,rfl⟩ | ⟨s0,_,h'⟩
   .have eg:groupsB n [(0,0,0)]=[]:=by simp only[groupsB];rw[if_neg hc,if_neg (id:¬chg _ _ [])]
    rw[eg];obtain⟨r0,e⟩:=hl;cases r0 with
    | nil=>
     simp at e;obtain⟨rfl,rfl⟩:=e;show aP (aO 0 rfl rfl λk hk=>by show(F10 3163968 1 rfl hk).elim) (λz=>absurd z id) trivial
    | cons z r0=>simp at e
   .clear h;obtain⟨S,rfl⟩:=BD (Bh s0);obtain⟨N,rfl⟩:=BD hn;have hl':∃r0,r=r0++[(la,lb,0)]:=by
     show be hl λr0 e=>?_;cases r0 with
     | nil=>simp at e;show(F10 0x304760730470 17 rfl s0 e.1.2.2).elim
     | cons z r0=>show⟨r0,(FO e).2⟩
    by_cases hch:chg (0+(S:Int)) (0+(S:Int)) r
    .have eg:groupsB N ((0,0,(S:Int))::r)=segG N (0+S) (0+S) [("equal",imax 0 (0+S-N),0+S,imax 0 (0+S-N),0+S)] r:=by simp only[groupsB];show((if_neg hc).trans ((if_pos hch)))
     rw[eg]at hP ⊢;have mx:∃m:Nat,m<=S/\imax 0 (0+(S:Int)-N)=m/\(∀k:Nat,S<=k+N->m<=k):=by
      by_cases x:N<S
      .exact aO (S-N) (DG ..) (by unfold imax;rw[if_pos ⇑(F20 0x738304010478740 17 rfl x)];(show F20 0x738393040199840781a 0x110011010011010 rfl x)) λk h=>F30 0x975a90850971a 268505360 rfl h
      .exact aO 0 (Bp _) (by unfold imax;rw[if_neg ⇑(F20 0x73830401047287420 17 rfl x)];rfl) λk _=>Bp _
     show aS mx λm m1 m2 m3=>?_;rw[m2]at hP ⊢;show aZ (Ky (K:=K) (P:=P) (la:=la) (lb:=lb) hn r (0+S) (0+S) m m [("equal",(m:Int),0+S,(m:Int),0+S)] h' hch hl' (λt ht=>hK t (.tail _ ht)) (.inr (aT _ _ rfl rfl rfl)) (λo ho=>by rw[Ay.mp ho];simp only;show⟨Ax _,by show F20 0x830407388750 17 rfl m1,by show F20 0x830407388750 17 rfl m1,Ax _⟩) ⇑(F20 0x830407388750 17 rfl m1) ⇑(F20 0x830407388750 17 rfl m1) hP) λq80 p2 p3=>?_;show cb q80 λh' aC e1 b1 b2 b3 b4 b5 b6=>?_;show aP (?_) (λ_ k k0 k1=>p2 _ (by have:=m3 k (F30 0x98075938307380 17 rfl k1);show F20 0x830407388750 17 rfl this) (F20 0x83040730407837370 17 rfl k0)) p3;rw[e1];show⟨aO m (by rw[b1];simp) (by rw[b2];simp) λk hk=>?_,by rw[b1];(show fk [_,_] [_] 0x7738783040808750 273 rfl m1 b3),by rw[b2];(show fk [_,_] [_] 0x7738783040808750 273 rfl m1 b4),by rw[b2];show b5,b6⟩;show Ks k (by simp only;(show F30 0x8393779408750 273 rfl m1 hk))
    .have eg:groupsB N ((0,0,(S:Int))::r)=[]:=by simp only[groupsB];rw[if_neg hc,if_neg hch]
     show aZ (QO h' hl' hch rfl) λer e1 e2=>?_;show eg▸?_;show⟨aO S e1.symm e2.symm λk hk=>Ks k (by simp only;(show BC.mpr ())),λz=>absurd z hch,?_⟩;rw[er,e1];show QP
theorem Kz{P:Int->Prop}{n:Int}:∀{r:List Tri}{i j:Int},shP P n i j r->(∀t∈r,∀k:Nat,(k:Int)<t.2.2->K (t.1+k) (t.2.1+k))->(∃r0,r=r0++[(la,lb,0)])->∀k,i<=k->k<la->P k\/∃j',K k j':=by
 intro r_;induction r_ with
 | nil=>intro _ _ _ _ h;show be h λr0 e=>?_;cases r0 <;> injection e
 | cons kv_ r ih=>
  obtain⟨x,y,s⟩:=kv_;intro i j h hK hl k k0 k1;by_cases c1:k<x
  .exact .inl (h.1 k k0 c1)
  .by_cases c2:k<x+s
   .right;have:=hK _ (.head _) (k-x).toNat (by simp only;(show F03 0x9737980770877208713a 73283997712 rfl c1 c2));rw[(by(show F02 0x773809877208713a 0x1101101010101001 rfl c1):x+(((k-x).toNat:Nat):Int)=k)]at this;show⟨_,this⟩
   .refine be hl λr0 e=>?_;cases r0 with
    | nil=>simp at e;show .inl (F03 0x38990977208770 4113 rfl k1 c1 e.1.1).elim
    | cons z r0=>show ih h.2.2.2 (λt ht=>hK t (.tail _ ht)) ⟨r0,(FO e).2⟩ k (CC.mp ()) k1
theorem QR{P:Int->Prop}{n:Int}(h:okB true 0 0 bl)(hs:shA P n bl)(hK:∀t∈bl,∀k:Nat,(k:Int)<t.2.2->K (t.1+k) (t.2.1+k))(hl:∃r0,bl=r0++[(la,lb,0)])(k:Int)(k0 : 0<=k)(k1:k<la):P k\/∃j',K k j':=by
 cases bl with
 | nil=>simp[okB]at h
 | cons z r=>
  obtain⟨x,y,s⟩:=z;simp only[shA]at hs;by_cases hc : 0<x\/0<y
  .rw [if_pos hc]at hs;show Kz hs hK hl k k0 k1
  .rw [if_neg hc]at hs;have ex:x=0:=F02 0x4797048080477047120 268505344 rfl hc h.1
   clear h hc;subst ex;by_cases c2:k<0+s
   .right;have:=hK _ (.head _) k.toNat (by simp only;(show F02 0x873780407707048073a 73283997712 rfl k0 c2));rw[(by(show F01 0x77304097048073a 0x1101101010101001 rfl k0):0+((k.toNat:Nat):Int)=k)]at this;show⟨_,this⟩
   .refine be hl λr0 e=>?_;cases r0 with
    | nil=>simp at e;show .inl (F02 0x380490877070480 4113 rfl k0 k1 e.1.1).elim
    | cons z r0=>show Kz hs.2 (λt ht=>hK t (.tail _ ht)) ⟨r0,(FO e).2⟩ k (CC.mp ()) k1
theorem K0 {P:Int->Prop}{W0 v:Int->Int}{n:Int}(hw:∀k,P k->W0 k=1):∀{r:List Tri}{i j:Int},shP P n i j r->(∀t∈r,∀k:Nat,(k:Int)<t.2.2->v (t.2.1+k)=W0 (t.1+k))->shB W0 v n r:=by
 intro r_;induction r_ with
 | nil=>intro _ _ _ _;show trivial
 | cons kv_ r ih=>obtain⟨_⟩:=kv_;intro i j h hv;show⟨hv _ (.head _),λk k0 k1=>hw _ (h.2.1 k k0 k1),λz k k0 k1=>hw _ (h.2.2.1 z k k0 k1),ih h.2.2.2 λt ht=>hv t (.tail _ ht)⟩
theorem QS {P:Int->Prop}{a b W0 v:Int->Int}(ha:∀i,a (i+1)=a i+W0 i)(hw:∀i,1<=W0 i)(hb:∀i,b (i+1)=b i+v i)(hv:∀i,1<=v i)(a0:a 0=0)(b0:b 0=0){n:Int}(hn : 0<=n)(h:okB true 0 0 bl)(hs:shA P n bl)(h1:∀k,P k->W0 k=1)(hwv:∀t∈bl,∀k:Nat,(k:Int)<t.2.2->v (t.2.1+k)=W0 (t.1+k)) :
  groupsB n (bl.map (growB a b))=(groupsB n bl).map (List.map (mvO a b)):=by
 show Q4 ha hw hb hv a0 b0 hn h ?_;cases bl with
 | nil=>trivial
 | cons z r=>
  obtain⟨x,y,s⟩:=z;simp only[shA]at hs;by_cases hc : 0<x\/0<y
  .simp only[if_pos hc]at hs ⊢;show K0 h1 hs hwv
  .simp only[if_neg hc]at hs ⊢;show⟨hwv _ (.head _),λz k k0 k1=>h1 _ (hs.1 z k k0 k1),K0 h1 hs.2 λt ht=>hwv t (.tail _ ht)⟩
theorem ChG.out (i1:∀i j j',K i j->K i j'->j=j'):∀{gs:List (List Op)} {i0 j0 i j:Int},ChG K la lb i0 j0 gs->K i j->i0<=i->i<la->(∀g∈gs,¬((bnd g).1<=i/\i<(bnd g).2.1))->j0<=j/\∀g∈gs,¬((bnd g).2.2.1<=j/\j<(bnd g).2.2.2):=by
 intro r_
 induction r_ with
 | nil=>
  intro i0 j0 i j h k h0 h1 _;show aS h λm e1 e2 e3=>?_
  have:=i1 _ _ _ k (by
   have:=e3 (i-i0).toNat (F13 0x8748370990987087807813a 0x10111011011010 rfl h0 h1 e1)
   rwa [(by(show F02 0x87370987807813a 0x1101101010101001 rfl h0):i0+(((i-i0).toNat:Nat):Int)=i)]at this)
  show⟨F12 0x7887380790 272 rfl this,λ_ h=>nomatch h⟩
 | cons g r ih=>
  intro i0 j0 i j h k h0 h1 hn;obtain⟨⟨m,e1,e2,e3⟩,l1,l2,_,h'⟩:=h;by_cases c:i<(bnd g).1
  .have:=i1 _ _ _ k (by
    have:=e3 (i-i0).toNat (F13 0x8749870837099087807813a 0x11011011101010 rfl h0 e1 c)
    rwa [(⇑(F02 0x87370987807813a 0x1101101010101001 rfl h0):i0+(((i-i0).toNat:Nat):Int)=i)]at this)
   have up:∀{gs:List (List Op)} {i0 j0:Int},ChG K la lb i0 j0 gs->∀g∈gs,j0<=(bnd g).2.2.1:=λ{gs}=>by
    induction gs with
    | nil=>intro _ _ _ g hg;cases hg
    | cons z gs ih=>
     intro i0 j0 h g hg;show bf h λzz1 _ l2 _ h'=>?_;show aS zz1 λm _ e2 _=>?_;clear zz1 h;rcases Bg.mp hg with rfl | hg
     ·(show F12 0x7887380790 272 rfl e2)
     .have:=ih h' g hg;(show fk [_] [_,_,_,_] 0xa88a98097807380790 69904 rfl e2 l2 this)
   show⟨F12 0x7887380790 272 rfl this,λg' hg=>?_⟩;clear left l1 hn;rcases Bg.mp hg with rfl | hg
   .exact λx5=>fk [_] [_,_,_,_,_,_] 0x39c80b87083a0c908370b9073a099087807813a 0x1110010110111100101010 rfl h0 this e1 e2 c x5.1
   .have:=up h' g' hg;show λx7=>fk [_] [_,_,_,_,_,_,_,_] 0x3de80ec8073b0d909870ca8083b0a90837099087807813a 0x11011110011011101111001010 rfl h0 e1 e2 l2 c () this x7.1
  .have hng:=hn g (.head _);have:=ih h' k (by omega) h1 λg' hg=>hn g' (.tail _ hg);show⟨fk [_] [_,_,_,_] 0xa88a98097807380790 69904 rfl e2 l2 this.1,λg' hg=>?_⟩;clear hng c h' left l2 l1 e2 e1 hn;rcases Bg.mp hg with rfl | hg
   .exact λx2=>F02 0x378708780 17 rfl this.1 x2.2
   .exact this.2 g' hg
theorem G5 (f:Nat->List Int){i:Int}(h0 : 0<=i)(h:i<=j):cat f 0 i.toNat++cat f i.toNat (j.toNat-i.toNat)=cat f 0 j.toNat:=by have:=Ed f 0 i.toNat (j.toNat-i.toNat);rw[Cf,(by(show F02 0x879068780871a83a73a 0x10010001101000001010000010010000100100011010000010100000100100001101101010100000101000001001000011010110101000001010000010010000 rfl h):i.toNat+(j.toNat-i.toNat)=j.toNat)]at this;show this.symm
theorem K1 (f:Nat->List Int){i:Int}(h0 : 0<=i)(h:i<=j)(hn:j<=n):Bj (cat f 0 n) (Am f i) (Am f j)=cat f i.toNat (j.toNat-i.toNat):=by delta Bj Am;rw[if_pos h0,if_pos (Ce () ()),AW,AW];show(QK f (i:=i.toNat) (i':=j.toNat) (n:=n) (F02 0x785878083a73a 0x100001100001111010110110 rfl h) (F11 0x8758378073a 268505360 rfl hn))
theorem QT{E F:Nat->List Int}{la lb:Nat}(hl:ys.length=lb)(hEF:∀i j:Nat,K i j->F j=E i) :
  ∀{gs:List (List Op)}{i j:Int}{mv:List (List Op)},ChG K la lb i j gs->0<=i->0<=j->(∀g∈gs,∀k:Nat,(bnd g).2.2.1<=k->(k:Int)<(bnd g).2.2.2->F k=[ys.getD k 0]) ->
   (gs.foldl (stMv (Am E) (cat E 0 la) ys) (cat F 0 j.toNat,mv,i)).1++(cat E 0 la).drop (Am E (gs.foldl (stMv (Am E) (cat E 0 la) ys) (cat F 0 j.toNat,mv,i)).2.2).toNat=cat F 0 lb /\
   (gs.foldl (stMv (Am E) (cat E 0 la) ys) (cat F 0 j.toNat,mv,i)).2.1=mv++gs.map (List.map (mvO (Am E) (Am F))):=by
 intro r_
 induction r_ with
 | nil=>
  intro i j mv h h0 h1 _;show aS h λm e1 e2 e3=>?_;simp;have q:=K1 E (n:=la) (i:=i) (j:=la) h0 (fk [_,_] [_] 0x737883707390 272 rfl e1) (Ax _);unfold Bj at q;rw[Ee,AW,BE (by simp)]at q;rw[q];have c:=Kr (f:=E) (g:=F) (s:=i.toNat) (t:=j.toNat) m λk hk=>by
   have:=e3 k hk
   show(hEF (i.toNat+k) (j.toNat+k) (by
    rwa [(⇑(F11 0x8370870397048073a 0x1101101010101001 rfl h0):((i.toNat+k:Nat):Int)=i+k),(⇑(F11 0x8370870397048073a 0x1101101010101001 rfl h1):((j.toNat+k:Nat):Int)=j+k)])).symm
  rw[(⇑(fk [_,_] [_] 0xb76b370a39070480781a73a733a 0x1000010000110100001010001000011101000010100001000011010000101010100101110001101010000100001101100101101010101011010101011000010000110010100110101001101100011001 rfl h0 e1):((la:Int)).toNat-i.toNat=m),c];have:=G5 F (i:=j) (j:=lb) h1 (fk [_,_] [_] 0x737883707390 272 rfl e2);rw[(⇑(fk [_,_] [_] 0xb76b370a39070480781a73a733a 0x1000010000110100001010001000011101000010100001000011010000101010100101110001101010000100001101100101101010101011010101011000010000110010100110101001101100011001 rfl h1 e2):((lb:Int)).toNat-j.toNat=m),AW]at this;show this
 | cons g r ih=>
  intro i j mv h h0 h1 hF;show bf h λzz1 l1 l2 hin h'=>?_;show aS zz1 λm e1 e2 e3=>?_;have bound:∀{gs:List (List Op)} {i0 j0:Int},ChG K la lb i0 j0 gs->i0<=la/\j0<=lb:=λ{gs}=>by
   induction gs with
   | nil=>intro i0 j0 h;show aS h λm e1 e2 _=>?_;show⟨by show fk [_,_] [_] 0x737883707390 272 rfl e1,by show fk [_,_] [_] 0x737883707390 272 rfl e2⟩
   | cons z gs ih=>
    intro i0 j0 h;show bf h λzz1 l1 l2 _ h'=>?_;show aS zz1 λm e1 e2 _=>?_;have:=ih h';show⟨fk [_,_] [_,_,_] 0x83888398097807380790 69904 rfl e1 l1 this.1,fk [_,_] [_,_,_] 0x83888398097807380790 69904 rfl e2 l2 this.2⟩
  have bd:=bound h';have m1:cat F 0 j.toNat++Bj (cat E 0 la) (Am E i) (Am E (bnd g).1)=cat F 0 (bnd g).2.2.1.toNat:=by
   rw[K1 E h0 ⇑(F12 0x7887380790 272 rfl e1) ⇑(F12 0x7378738808780 273 rfl l1 bd.1),(by(show F12 0xa76a37089070480781a73a83a 0x1000010000110100001010001000011101000010100001000011010000101000100001110001101010000100001101100101101010101011010101011000010000110010100110101001101100011001 rfl h0 e1):(bnd g).1.toNat-i.toNat=m)];have c:=Kr (f:=E) (g:=F) (s:=i.toNat) (t:=j.toNat) m λk hk=>by
    have:=e3 k hk
    show(hEF (i.toNat+k) (j.toNat+k) (by
     rwa [(⇑(F11 0x8370870397048073a 0x1101101010101001 rfl h0):((i.toNat+k:Nat):Int)=i+k),(⇑(F11 0x8370870397048073a 0x1101101010101001 rfl h1):((j.toNat+k:Nat):Int)=j+k)])).symm
   rw[c];have:=G5 F (i:=j) (j:=(bnd g).2.2.1) h1 (F12 0x7887380790 272 rfl e2)
   rwa [(by(show F12 0xa76a37089070480781a73a83a 0x1000010000110100001010001000011101000010100001000011010000101000100001110001101010000100001101100101101010101011010101011000010000110010100110101001101100011001 rfl h1 e2):(bnd g).2.2.1.toNat-j.toNat=m)]at this
  have hg:=hF g (.head _);have m2:cat F 0 (bnd g).2.2.1.toNat++Bj ys (bnd g).2.2.1 (bnd g).2.2.2=cat F 0 (bnd g).2.2.2.toNat:=by have c:=QJ (f:=F) (x:=ys) (s:=(bnd g).2.2.1.toNat) ((bnd g).2.2.2.toNat-(bnd g).2.2.1.toNat) (λk hk=>hg _ (F11 0x87037873a 1114369 rfl) (fk [_,_] [_] 0x79a0377940971a73a 0x10100011001010100111010 rfl hk)) (fk [_,_] [_,_] 0xa7905b38808780ba60871a83a73a 0x1000001000110000100100100000100011101010100011110010010100001001001111001001011010101000 rfl hl l2 bd.2);unfold Bj;rw[<-c];show G5 F (F12 0x8048737089070480 4353 rfl h1 e2) l2
  have sh:∀x:Int,(bnd g).2.2.1<=x->x<=(bnd g).2.2.2->Am F x=x+(((cat F 0 (bnd g).2.2.1.toNat).length:Int)-(bnd g).2.2.1):=λx x0 x1=>by
   have u:=EA (a:=Am F) (W0:=Cg F) (HX F) (x:=(bnd g).2.2.1) (x-(bnd g).2.2.1).toNat λk hk=>by unfold Cg;rw[if_pos ⇑(fk [_,_] [_,_] 0x8380048737089070480 4353 rfl h1 e2),hg _ ⇑(F11 0x737873703a 1114369 rfl) ⇑(fk [_,_] [_,_,_,_] 0xa8377a40a9809370890704808913a83803a 0x100000100111101100101000001001110001010 rfl h1 e2 x1 hk)];rfl
   rw[(by(show F02 0x87370987807813a 0x1101101010101001 rfl x0):(bnd g).2.2.1+(((x-(bnd g).2.2.1).toNat:Nat):Int)=x)]at u;have z:Am F (bnd g).2.2.1=((cat F 0 (bnd g).2.2.1.toNat).length:Int):=by unfold Am;rw[if_pos ⇑(F12 0x8048737089070480 4353 rfl h1 e2)]
   (show fk [_] [_,_,_,_] 0x7831809983a9073a099087807813a 0x10101101110100101010101011010001 rfl x0 u z)
  have em:g.map (λo=>(o.1,Am E o.2.1,Am E o.2.2.1,o.2.2.2.1+(((cat F 0 (bnd g).2.2.1.toNat).length:Int)-(bnd g).2.2.1),o.2.2.2.2+(((cat F 0 (bnd g).2.2.1.toNat).length:Int)-(bnd g).2.2.1)))=g.map (mvO (Am E) (Am F)):=
   Fc λo ho=>by have:=hin o ho;unfold mvO;rw[sh _ this.1 this.2.1,sh _ this.2.2.1 this.2.2.2]
  have es:stMv (Am E) (cat E 0 la) ys (cat F 0 j.toNat,mv,i) g=(cat F 0 (bnd g).2.2.2.toNat,mv++[g.map (mvO (Am E) (Am F))],(bnd g).2.1):=by unfold stMv;dsimp only;rw[m1,m2,em]
  rw[BH,es];have ih:=ih (mv:=mv++[g.map (mvO (Am E) (Am F))]) h' (F13 0x90489880737089070480 69889 rfl h0 e1 l1) (F13 0x90489880737089070480 69889 rfl h1 e2 l2) λg' hg'=>hF g' (.tail _ hg');show⟨ih.1,ih.2.trans ?_⟩;rw[Bq];rfl
theorem MP.i1 (yi:∀{j j'},j<ys.length->j'<ys.length->ys.getD j 0=ys.getD j' 0->j=j')(i j j':Int)(a:MP xs ys i j)(b:MP xs ys i j'):j=j':=by
 show bf a λa1 a2 a3 a4 a5=>?_;show bf b λ_ _ b3 b4 b5=>?_
 (show F02 0x8797860804807048083a73a 0x100100010100011000100100010110010101101100101100011000101001001110000110 rfl a3 b3 (yi (j:=j.toNat) (j':=j'.toNat) (Bf () ()) (Bf () ()) (a5.symm.trans b5)))
theorem MP.i2 (xi:∀{i i'},i<xs.length->i'<xs.length->xs.getD i 0=xs.getD i' 0->i=i')(i i' j:Int)(a:MP xs ys i j)(b:MP xs ys i' j):i=i':=by show bf a λa1 a2 a3 a4 a5=>?_;show bf b λb1 b2 _ _ b5=>?_;show F02 0x8797860804807048083a73a 0x100100010100011000100100010110010101101100101100011000101001001110000110 rfl a1 b1 (xi (i:=i.toNat) (i':=i'.toNat) (Bf () ()) (Bf () ()) (a5.trans b5.symm))
theorem Law2.grd (L:Law2 xs ys us n gs sh):Grd (MP xs ys) (Cov (Be us)):=JY L.S (λ_ _ m=>m.2.1) (MP.i1 L.yi) (MP.i2 L.xi)
theorem Law2.told (L:Law2 xs ys us n gs sh):Told (MP xs ys) (Cov (Be us)) (B3 us):=Kp L.S (λ_ _ m=>m.2.1) (MP.i1 L.yi) (MP.i2 L.xi)
theorem Law2.ok (L:Law2 xs ys us n gs sh):okB true 0 0 (B3 us++[((xs.length:Int),(ys.length:Int),0)]):=HW L.told (λ_ _ m=>aV m.1 m.2.1 m.2.2.1 m.2.2.2.1) (As _) (As _)
theorem Law2.kk (L:Law2 xs ys us n gs sh):∀t∈B3 us++[((xs.length:Int),(ys.length:Int),0)],∀k:Nat,(k:Int)<t.2.2->Cov (Be us) (t.1+k) (t.2.1+k):=λt ht k hk=>by
 rcases Aw.mp ht with h | h
 .exact (L.told.kr t h).kk k (As _) hk
 .rw [Ay.mp h]at hk;simp only at hk;show(F10 50623344 1 rfl hk).elim
theorem Law2.chn (L:Law2 xs ys us n gs sh):ChG (Cov (Be us)) xs.length ys.length 0 0 gs/\shA (SH gs) n (B3 us++[((xs.length:Int),(ys.length:Int),0)]):=by
 have:=QQ (K:=Cov (Be us)) (P:=SH gs) (n:=n) (As _) L.ok ⟨_,rfl⟩ L.kk (by rw[<-L.eg];show λh hh k k0 k1=>aO h hh k0 k1)
 rwa [<-L.eg]at this
theorem Law2.lst (L:Law2 xs ys us n gs sh):Lst2 xs ys (Cov (Be us)) sh (DW us) where
 xn:=L.xn
 xi:=L.xi
 yi:=L.yi
 sub:=L.grd.sub
 pt:=λ{i j}=>by
  unfold DW;constructor
  .intro h;split at h
   .next hx=>rw[<-Du h];show hx.choose_spec
   .cases h
  .intro h;have hx:∃i:Nat,Cov (Be us) i j:=⟨i,h⟩;rw[dif_pos hx];have:=MP.i2 L.xi _ _ _ (L.grd.sub hx.choose_spec) (L.grd.sub h);rw[(⇑(F20 0x876837390 1052944 rfl this):hx.choose=i)]
 un:=λ{i} hi hs=>by
  rcases QR L.ok L.chn.2 L.kk ⟨_,rfl⟩ i (As _) (BC.mpr ()) with⟨g,hg,h⟩ | h
  .rw [(L.es hi).mpr (aM g hg h)]at hs;cases hs
  .exact h
theorem Law2.grd2 (L:Law2 xs ys us n gs sh):Grd (MP (B4 xs sh way) (BX xs ys us sh way)) (FZ xs ys us sh way):=by rw[L.lst.mp L.yn];show L.grd.exp L.lst.grw
theorem Law2.told2 (L:Law2 xs ys us n gs sh):Told (MP (B4 xs sh way) (BX xs ys us sh way)) (FZ xs ys us sh way) ((B3 us).map (growB (aF xs sh way) (bF xs ys us sh way))):=by rw[L.lst.mp L.yn];show L.lst.grw.told L.grd L.told
theorem Law2.begs_ok (L:Law2 xs ys us n gs sh):∀i j,FZ xs ys us sh way i j->¬MP (B4 xs sh way) (BX xs ys us sh way) (i-1) (j-1)->i∈begs xs ys us sh way:=λi j k hn=>by
 show a9 ((L.told2 (way:=way)).cov i j k) λt ht c1 c2 c3=>?_;have e:i=t.1:=by
  show B1 λhne=>hn ?_;have:=((L.told2 (way:=way)).kr t ht).run.2 (i-1-t.1) (F02 0x86711048788087920 1052689 rfl hne c1) (F03 0x9867117980770 17 rfl c2)
  rwa [(⇑(F02 0x68176811709 17 rfl):t.1+(i-1-t.1)=i-1),(by(show F04 0x671a6911809a9187190 1114369 rfl c3):t.2.1+(i-1-t.1)=j-1)]at this
 clear c3 c2 c1;show aK (Bk.mp ht) λu hu q82=>?_;subst q82;rw[e];show Dw hu
theorem Law2.groups (L:Law2 xs ys us n gs sh)(T:Told (MP (B4 xs sh way) (BX xs ys us sh way)) (FZ xs ys us sh way) bl) :
  CT n (D6 (bl++[(((B4 xs sh way).length:Int),((BX xs ys us sh way).length:Int),0)]))=gs.map (List.map (mvO (aF xs sh way) (bF xs ys us sh way))):=by
 have H:=L.lst.grw (way:=way);have et:(((B4 xs sh way).length:Int),((BX xs ys us sh way).length:Int),(0:Int))=growB (aF xs sh way) (bF xs ys us sh way) ((xs.length:Int),(ys.length:Int),0):=by unfold growB;simp only[Bm,Int.sub_self];rw[show aF xs sh way (xs.length:Int)=((B4 xs sh way).length:Int) from Ee _ _,show bF xs ys us sh way (ys.length:Int)=((BX xs ys us sh way).length:Int) from Ee _ _]
 have eb:bl++[(((B4 xs sh way).length:Int),((BX xs ys us sh way).length:Int),0)]=(B3 us++[((xs.length:Int),(ys.length:Int),0)]).map (growB (aF xs sh way) (bF xs ys us sh way)):=by rw[A2,(QI L.grd2 T L.told2),et];rfl
 have ok2:okB true 0 0 ((B3 us++[((xs.length:Int),(ys.length:Int),0)]).map (growB (aF xs sh way) (bF xs ys us sh way))):=by rw[<-eb];show HW T (λ_ _ m=>aV m.1 m.2.1 m.2.2.1 m.2.2.2.1) (As _) (As _)
 rw[eb,Qw (As _) ok2];rw[QS (P:=SH gs) H.ha H.hw H.hb H.hv (by rfl) (by rfl) (As _) L.ok L.chn.2 (λk hk=>?_) (λt ht k hk=>?_),<-L.eg]at ⊢
 .unfold Cg;by_cases h0 : 0<=k
  .rw [if_pos h0];by_cases h1:k<xs.length
   .have s:=(L.es (i:=k.toNat) (Bf () ())).mpr (by
     show aS hk λg hg a b=>?_
     show aO g hg (F02 0x7378878083a 286265601 rfl a) (F02 0x873787707048073a 73283997712 rfl h0 b))
    unfold expE;rw[if_pos (.inl s)];rfl
   .exfalso;have bound:∀{hs:List (List Op)} {i0 j0:Int},ChG (Cov (Be us)) xs.length ys.length i0 j0 hs->i0<=xs.length/\∀g∈hs,(bnd g).2.1<=xs.length:=λ{hs}=>by
     induction hs with
     | nil=>intro i0 j0 h;show aS h λm e1 e2 _=>?_;show⟨fk [_,_] [_] 0x737883707390 272 rfl e1,λ_ h=>nomatch h⟩
     | cons z hs ih=>
      intro i0 j0 h;obtain⟨⟨m,e1,_⟩,l1,l2,_,h'⟩:=h;have:=ih h';show⟨fk [_,_] [_,_,_] 0x83888398097807380790 69904 rfl e1 l1 this.1,λg hg=>?_⟩;clear h' left l2 l1 right_1 e1;rcases Bg.mp hg with rfl | hg
      .exact this.1
      .exact this.2 g hg
    show aS hk λg hg a b=>?_
    (show F12 0x3738808770737720 273 rfl h1 b ((bound L.chn.1).2 g hg))
  .exact (if_neg h0)
 .exact (H.wv (L.grd.sub (L.kk t ht k hk))).symm
theorem Law2.made (L:Law2 xs ys us n gs sh) :
  (gs.foldl (stMv (aF xs sh way) (B4 xs sh way) ys) ([],[],0)).1++(B4 xs sh way).drop (aF xs sh way (gs.foldl (stMv (aF xs sh way) (B4 xs sh way) ys) ([],[],0)).2.2).toNat=BX xs ys us sh way /\
  (gs.foldl (stMv (aF xs sh way) (B4 xs sh way) ys) ([],[],0)).2.1=gs.map (List.map (mvO (aF xs sh way) (bF xs ys us sh way))):=by
 have lst:=L.lst
 have:=QT (K:=Cov (Be us)) (E:=expE xs sh way) (F:=expF xs ys sh way (DW us)) (ys:=ys) (la:=xs.length) (lb:=ys.length) rfl (λi j k=>by
  unfold expF;rw[lst.pt.mpr k]) (mv:=[]) L.chn.1 (Ax 0) (Ax 0) (λg hg k k0 k1=>by
  unfold expF;cases hp:DW us k with
  | none=>rfl
  | some i=>
   have kk:=lst.pt.mp hp;have m:=L.grd.sub kk;have hi:i<xs.length:=by have:=m.2.1;(show F20 0x874837370 17 rfl this)
   have s:sh i=true:=by show(L.es hi).mpr (B1 λhno=>?_);have:=(ChG.out (λi j j' a b=>MP.i1 L.yi i j j' (L.grd.sub a) (L.grd.sub b)) L.chn.1 kk (As _) (BC.mpr ()) λg' hg' h=>hno (aM g' hg' h)).2 g hg;show this ⟨k0,k1⟩
   dsimp only;unfold expE;rw[if_pos (.inl s)];have:=m.2.2.2.2;rw[AW,AW]at this
   rw[this])
 show⟨this.1,this.2.trans (D4 _)⟩
theorem EF {l:List Int}(h:l.Nodup){j:Nat}(hi:i<l.length)(hj:j<l.length)(e:l.getD i 0=l.getD j 0):i=j:=by
 rw[AD,AD,A3 hi,A3 hj]at e;show B1 λhn=>by
  have p:=He.mp h;rcases Nat.lt_or_gt_of_ne hn with x | x
  .exact p i j hi hj x e
  .exact p j i hj hi x e.symm
theorem QU {l:List Int}(h:∀i j,i<l.length->j<l.length->l.getD i 0=l.getD j 0->i=j):l.Nodup:=by unfold List.Nodup;show He.2 ?_;intro i j hi hj hlt e;show F20 0x387608740 257 rfl hlt (h i j hi hj (by rw[AD,AD,A3 hi,A3 hj,FJ,FJ,e]))
theorem Lst2.injF{part:Nat->Option Nat}(h:Lst2 xs ys K sh part)(yn:∀{j},j<ys.length->0<=ys.getD j 0){j j':Nat}(hj:j<ys.length)(hj':j'<ys.length)(hr:r<(expF xs ys sh way part j).length)(hr':r'<(expF xs ys sh way part j').length)
  (e:(expF xs ys sh way part j).getD r 0=(expF xs ys sh way part j').getD r' 0):j=j'/\r=r':=by
 have half:∀{j j' r r':Nat}{i:Nat},j<ys.length->j'<ys.length->r<(expF xs ys sh way part j).length->r'<(expF xs ys sh way part j').length->(expF xs ys sh way part j).getD r 0=(expF xs ys sh way part j').getD r' 0->part j=some i->j=j'/\r=r':=λ{j j' r r' i} hj hj' hr hr' e hp=>by
  have m:=h.sub (h.pt.mp hp);have hi:i<xs.length:=by have:=m.2.1;(show F20 0x874837370 17 rfl this)
  have ef:expF xs ys sh way part j=expE xs sh way i:=by unfold expF;rw[hp]
  rw[ef]at hr e;obtain⟨m',e'⟩:=h.hEF hi hj' hr hr' e (yn hj');have:=h.i1 m m';show⟨F20 0x876837390 1052944 rfl this,e'⟩
 cases hp:part j with
 | some i=>show half hj hj' hr hr' e hp
 | none=>
  cases ah:part j' with
  | some i=>
   have:=half hj' hj hr' hr e.symm ah;show⟨this.1.symm,this.2.symm⟩
  | none=>
   have ef:expF xs ys sh way part j=[ys.getD j 0]:=by unfold expF;rw[hp]
   have ef':expF xs ys sh way part j'=[ys.getD j' 0]:=by unfold expF;rw[ah]
   rw[ef]at hr e;rw[ef']at hr' e;have r0:r=0:=by simp at hr;show hr
   have r1:r'=0:=by simp at hr';show hr'
   clear hr' hr;subst r0;subst r1;show⟨h.yi hj hj' e,rfl⟩
theorem QW{m:Nat}(h:∀{j j' r r':Nat},j<m->j'<m->r<(f j).length->r'<(f j').length->(f j).getD r 0=(f j').getD r' 0->j=j'/\r=r'):(cat f 0 m).Nodup:=
 QU λp q hp hq e=>by show aN (G4 hp) λk r hk hr ep=>?_;show aN (G4 hq) λk' r' hk' hr' eq=>?_;rw[ep,eq,EE hk hr,EE hk' hr']at e;obtain⟨rfl,rfl⟩:=h hk hk' hr hr' e;show F40 0xa76980a60980760 73015558416 rfl ep eq
theorem Law2.made_nodup (L:Law2 xs ys us n gs sh):(BX xs ys us sh way).Nodup:=QW λhj hj' hr hr' e=>L.lst.injF L.yn hj hj' hr hr' e
theorem Ef (h:∀k,(f k).length<=2):∀m:Nat,(cat f 0 m).length<=2*m:=by
 intro r_;induction r_ with
 | zero=>simp[G3]
 | succ m ih=>have:=ih;rw[cat_succ,Ba];(show F30 0x68022970524950822750 273 rfl () (h (0+m)))
theorem EG (xs:List Int)(sh:Nat->Bool)(way:Nat->Int)(i:Nat):(expE xs sh way i).length<=2:=by
 unfold expE;split
 .simp
 .split <;> simp
theorem QY (xs ys:List Int)(sh:Nat->Bool)(way:Nat->Int)(part:Nat->Option Nat)(j:Nat):(expF xs ys sh way part j).length<=2:=by
 unfold expF;cases part j with
 | none=>simp
 | some i=>show EG _ _ _ _
theorem Asc.nil (st:List Int):Asc st []:=λj h=>by simp at h
theorem Asc.app {l l':List Int}(h:Asc st l)(h':Asc st l'):Asc st (l++l'):=λj hj hn=>by
 by_cases c:j<l.length
 .have e:∀k,k<l.length->(l++l').getD k 0=l.getD k 0:=λk hk=>by rw[AD,AD,Dg hk]
  rw[e j c]at hn ⊢;rw[e (j-1) (FB ())];show h j c hn
 .have e:∀k,l.length<=k->(l++l').getD k 0=l'.getD (k-l.length) 0:=λk hk=>by rw[AD,AD,CH hk]
  rw[e j (CF ())]at hn ⊢;rw[Ba]at hj;have:=h' (j-l.length) (F30 0xa7498420a90840871a 73283993872 rfl hj c) hn;rw[e (j-1) (F20 0x89570440891a680a 0x10100111001 rfl this.1),(by lia:j-1-l.length=j-l.length-1)];show⟨F20 0x804470440870a 4368 rfl this.1,this.2⟩
theorem Asc.more {st' l:List Int}(h:Asc st l)(hs:∀x∈st,x∈st'):Asc st' l:=λj hj hn=>h j hj λhx=>hn (hs _ hx)
theorem QZ:∀{ls:List (List Int)},(∀l∈ls,Asc st l)->Asc st ls.flatten:=by
 intro r_;induction r_ with
 | nil=>intro _;show Asc.nil st
 | cons l ls ih=>intro h;rw[Er];show(h l (.head _)).app (ih λl hl=>h l (.tail _ hl))
theorem Ra (xi:∀{i i'},i<xs.length->i'<xs.length->xs.getD i 0=xs.getD i' 0->i=i')(S:US (MP xs ys) xs.length us)(h1:Asc st xs)(h2:Asc st ys):us.length<=st.length:=by
 have key:=λu hu=>by show B1 λhn=>?_;show bf ((S.run u hu).first) λm1 m2 m3 m4 m5=>?_;have a:=h1 u.1.toNat (Bf () ()) hn;rw[m5]at hn;have b:=h2 u.2.1.toNat (Bf () ()) hn;show S.lo u hu ⟨F01 0x6710487044073a 16847120 rfl a.1,F11 0x73671773770 17 rfl m2,F01 0x6710487044073a 16847120 rfl b.1,F11 0x73671773770 17 rfl m4,?_⟩;rw[(⇑(F01 0x79680440671a73a6713a 0x10000001100100001000000101000100100000011001000010000001101010100000101010010000000010100000101010100110100100001001011010101001 rfl a.1):(u.1-1).toNat=u.1.toNat-1),(⇑(F01 0x79680440671a73a6713a 0x10000001100100001000000101000100100000011001000010000001101010100000101010010000000010100000101010100110100100001001011010101001 rfl b.1):(u.2.1-1).toNat=u.2.1.toNat-1),a.2,b.2,m5]
 have nd:(us.map λu=>xs.getD u.1.toNat 0).Nodup:=by
  show Df.2 ?_;show S.up.imp_of_mem λ{x y} hx hy h e=>?_;have rx:=(S.run x hx).first;have ry:=(S.run y hy).first;have:=xi (i:=x.1.toNat) (i':=y.1.toNat) (by have:=rx.1;have:=rx.2.1;(show Bf () ())) (by have:=ry.1;have:=ry.2.1;(show Bf () ())) e;have:=rx.1
  (show F03 0x37048078608047098708093a73a 0x100111000110110101100111000010110110 rfl h ((S.run x hx).1) () ())
 have:=JU nd (st:=st) λx hx=>by show aK (Bk.mp hx) λu hu zz1=>?_;subst zz1;show key u hu
 rwa [Ai]at this
theorem Law2.begs_len (L:Law2 xs ys us n gs sh):(begs xs ys us sh way).length<=us.length:=by have h:=(E8 L.S.nodup).nd.length_le;have p:=(CA (us.map ngT)).length_eq;rw[Ai]at h p;delta begs B3;rw[Ai,((CA (Be us)).length_eq)];show F30 0x97598608750 4113 rfl h p
theorem G6 {x:Int}{s:Nat}:x∈strF laid s↔laid<=x/\x<laid+s:=by
 unfold strF;show Bk.trans ?_;constructor
 .rintro ⟨k,hk,rfl⟩;rw[BM]at hk;show⟨F11 7565432 1 rfl,fk [_,_] [_] 0x8370737078740 17 rfl hk⟩
 .intro h;show aM ((x-laid).toNat) (by show BM.2 ?_;(show F12 0x874837087087807813a 73283997712 rfl h.1 h.2)) (F02 0x87370987807813a 0x1101101010101001 rfl h.1)
theorem strF_len (laid:Int)(s:Nat):(strF laid s).length=s:=by simp[strF]
theorem K2 (laid:Int)(s:Nat):(strF laid s).Nodup:=by delta strF List.Nodup;show Df.2 ?_;show Ha.imp λh e=>h ⇑(fk [_,_] [_] 0x8768370737090 1052944 rfl e)
theorem Rb{s:Nat}(h:laid∈sts):Asc sts (strF laid s):=λj hj hn=>by
 rw[strF_len]at hj;have e:∀k,k<s->(strF laid s).getD k 0=laid+k:=λk hk=>by rw[AD,A3 (by rw[strF_len];show hk),FJ];simp[strF]
 rw[e j hj]at hn ⊢;rw[e (j-1) (FB ())];have:j≠0:=λz=>hn (by rw[z];simpa using h);show⟨FP (),F11 0x68370173709048620671a 0x11011010010001001010100110101001 rfl this⟩
theorem HZ (x:Int) : 1<=AQ x/\AQ x<=12:=by unfold AQ;lia
theorem K3 (p:List Int):∀(ps:List (List Int)) (n:Nat),n<=ps.length->(ps.insertIdx n p).flatten.Perm (p++ps.flatten)
 | ps,0,_=>by rfl
 | [],n+1,h=>by simp at h
 | q::ps,n+1,h=>by rw[List.insertIdx_succ_cons,Er,Er];have ih:=K3 p ps n (by simpa using h);show(ih.append_left q).trans (by rw[<-Bq,<-Bq];show List.perm_append_comm.append_right _)
theorem BdI.step {st:BdSt}{k:Nat}(h:BdI st sts k)(x:Int):BdI (AR st x) (sts++[st.2.2.2]) (k+1):=by
 have hs:=HZ x;have more:∀y∈sts,y∈sts++[st.2.2.2]:=λy hy=>Aw.mpr (.inl hy);have asc:Asc (sts++[st.2.2.2]) (strF st.2.2.2 (AQ x)):=Rb (by simp);have l0:=h.l0;have hidx:(bdRest x / 3 % ((st.2.1.length:Int)+1)).toNat<=st.2.1.length:=by
  have:=Int.emod_lt_of_pos (bdRest x / 3) (⇑(F10 0x6730047 1 rfl):(0:Int)<(st.2.1.length:Int)+1)
  (show F11 0x875683077073a 268505360 rfl this)
 have pm:=K3 (strF st.2.2.2 (AQ x)) st.2.1 _ hidx;have pin:∀p,p∈st.2.1.insertIdx (bdRest x / 3 % ((st.2.1.length:Int)+1)).toNat (strF st.2.2.2 (AQ x))->p=strF st.2.2.2 (AQ x)\/p∈st.2.1:=λp hp=>(List.mem_insertIdx hidx).mp hp;constructor
 .simp only[AR];split
  .exact h.n1
  .refine DN.mpr ⟨h.n1,K2 _ _,λa ha b hb e=>?_⟩;have:=h.in1 a ha;rw[G6]at hb
   (show F03 0x3797089908780 4353 rfl hb.1 e this.2)
 .simp only[AR];split
  .exact h.n2
  .refine pm.nodup_iff.2 ?_;show DN.mpr ⟨K2 _ _,h.n2,λa ha b hb e=>?_⟩;have:=h.in2 b hb;rw[G6]at ha
   (show F03 0x3797098908780 4113 rfl ha.1 e this.2)
 .simp only[AR];intro y hy;split at hy
  .have:=h.in1 y hy;show⟨by show F01 0x704870480 17 rfl this.1,F12 0x7380778770 17 rfl this.2⟩
  .rcases Aw.mp hy with z | z
   .have:=h.in1 y z;show⟨by show F01 0x704870480 17 rfl this.1,by show F12 0x7380778770 17 rfl this.2⟩
   .rw [G6]at z;show⟨F02 0x8048878070480 273 rfl l0 z.1,F12 0x7380777380770 17 rfl z.2⟩
 .simp only[AR];intro y hy;split at hy
  .have:=h.in2 y hy;show⟨by show F01 0x704870480 17 rfl this.1,by show F12 0x7380778770 17 rfl this.2⟩
  .rw [pm.mem_iff]at hy;rcases Aw.mp hy with z | z
   .rw [G6]at z;show⟨F02 0x8048878070480 273 rfl l0 z.1,F12 0x7380777380770 17 rfl z.2⟩
   .have:=h.in2 y z;show⟨by show F01 0x704870480 17 rfl this.1,by show F12 0x7380778770 17 rfl this.2⟩
 .simp only[AR];split
  .exact h.a1.more more
  .exact (h.a1.more more).app asc
 .simp only[AR];intro p hp;split at hp
  .exact (h.a2 p hp).more more
  .rcases pin p hp with rfl | z
   .exact asc
   .exact (h.a2 p z).more more
 .simp [h.le]
 .simp only[AR];split
  .exact h.wl
  .rw [Ba,Ba,List.length_replicate,strF_len,h.wl]
 .simp only[AR];intro y hy;split at hy
  .exact h.w3 y hy
  .rcases Aw.mp hy with z | z
   .exact h.w3 y z
   .rw [List.eq_of_mem_replicate z];lia
 .simp only[AR];(show F11 0x737004870480 17 rfl l0)
 .have:=h.l1;simp only[AR];split
  ·(show F20 0x680c2758c2750 17 rfl this)
  .rw [Ba,strF_len];(show F30 0x690c278059c2850c4750 273 rfl hs.2 this)
 .have:=h.l2;simp only[AR];split
  ·(show F20 0x680c2758c2750 17 rfl this)
  .rw [pm.length_eq,Ba,strF_len];(show F30 0x690c287059c2850c4750 273 rfl hs.2 this)
 .have:=h.l3;simp only[AR];split
  .exact F20 0x680758750 17 rfl this
  .rw [List.length_insertIdx_of_le_length hidx];show F20 0x68067058750 17 rfl this
 .simp only[AR];(show fk [_,_] [_] 0x6803c27370883c2780c4750 273 rfl hs.2 h.l4)
 .simp only[AR];intro p hp;split at hp
  .exact h.l5 p hp
  .rcases pin p hp with rfl | z
   .rw [strF_len];show F10 0xc475c4750 17 rfl hs.2
   .exact h.l5 p z
theorem Rc:∀(ns:List Int) (st:BdSt) (sts:List Int) (k:Nat),BdI st sts k->∃sts',BdI (ns.foldl AR st) sts' (k+ns.length):=by
 intro r_;induction r_ with
 | nil=>intro _ sts _ h;show⟨sts,h⟩
 | cons x ns ih=>intro st sts k h;obtain⟨s',h'⟩:=ih _ _ _ (h.step x);show⟨s',?_⟩;rw[BH,GX,(⇑(F20 0x86700680706 17 rfl):k+(ns.length+1)=k+1+ns.length)];show h'
theorem Ia (ns:List Int):∃sts,BdI (bdTo ns) sts ns.length:=by
 have:=Rc ns ([],[],[],0) [] 0 ⟨.nil,.nil,λ_ h=>(nomatch h),λ_ h=>(nomatch h),Asc.nil _,λ_ h=>(nomatch h),rfl,rfl,λ_ h=>(nomatch h),Ax _,A5 _,A5 _,A5 _,Ax _,λ_ h=>(nomatch h)⟩
 rwa [Cf]at this
theorem K4 (yi:∀{j j'},j<ys.length->j'<ys.length->ys.getD j 0=ys.getD j' 0->j=j')(hi:i<xs.length)(j:Int):D7 xs ys i=some j↔MP xs ys i j:=by
 unfold D7;constructor
 .intro h;split at h
  .next hx=>
   have:=Du h;have s:=hx.choose_spec;clear h;subst this;show⟨As _,BC.mpr (),As _,F20 0x837378740 17 rfl s.1,by rw[AW,AW];show s.2⟩
  .cases h
 .rintro ⟨_,_,j0,j1,e⟩;have hx:∃j:Nat,j<ys.length/\xs.getD i 0=ys.getD j 0:=aM j.toNat (Bf () ()) e;rw[dif_pos hx];have s:=hx.choose_spec;have:=yi s.1 (Bf () ():j.toNat<ys.length) (s.2.symm.trans e);congr 1
  (show F11 0x783978607048073a 0x101101100010101010110001 rfl j0 this)
theorem Rd (yi:∀{j j'},j<ys.length->j'<ys.length->ys.getD j 0=ys.getD j' 0->j=j'){j:Nat}(hi:i<xs.length)(hj:j<ys.length)(e:xs.getD i 0=ys.getD j 0):D7 xs ys i=some (j:Int):=
 (K4 yi hi j).mpr ⟨As _,BC.mpr (),As _,BC.mpr (),by rw[AW,AW];show e⟩
theorem Re (h:∀j,j<ys.length->xs.getD i 0≠ys.getD j 0):D7 xs ys i=none:=by unfold D7;rw[dif_neg];rintro⟨j,hj,e⟩;show h j hj e
theorem G7 (yi:∀{j j'},j<ys.length->j'<ys.length->ys.getD j 0=ys.getD j' 0->j=j'):US (MP xs ys) xs.length (B0 xs ys):=
 Qa (MP.i1 yi) (λ_ _ m=>m.1) xs.length λi hi j=>K4 yi hi j
theorem Rf (x0:∀x∈xs,0<=x)(y0:∀x∈ys,0<=x)(nx:xs.Nodup)(ny:ys.Nodup)
  (hnear:∀r,near r=true↔r<(Bo xs ys).length/\Nr (Bo xs ys) n r)(hg:gs=Bc (Bo xs ys) near (Bo xs ys).length)
  (hs:∀{i:Nat},i<xs.length->(sh i=true↔∃g∈gs,(bnd g).1<=i/\(i:Int)<(bnd g).2.1)):Law2 xs ys (B0 xs ys) n gs sh:=by
 have xi:∀{i i'},i<xs.length->i'<xs.length->xs.getD i 0=xs.getD i' 0->i=i':=λh h' e=>EF nx h h' e;have yi:∀{i i'},i<ys.length->i'<ys.length->ys.getD i 0=ys.getD i' 0->i=i':=λh h' e=>EF ny h h' e;have mem:∀{l:List Int}{i:Nat},i<l.length->l.getD i 0∈l:=λ{l i} h=>by rw[AD,A3 h];show FQ h
 have S:=G7 (xs:=xs) yi;have T:=Kp S (λ_ _ m=>m.2.1) (MP.i1 yi) (MP.i2 xi);have ok:=HW (la:=xs.length) (lb:=ys.length) T (λ_ _ m=>aV m.1 m.2.1 m.2.2.1 m.2.2.2.1) (As _) (As _);show⟨λh=>x0 _ (mem h),λh=>y0 _ (mem h),xi,yi,S,?_,hs⟩;show hg.trans ?_;show Q2 hnear (QG ok λt ht=>?_) ok;have r:=(T.kr t ht).run;have r0:=r.1;show⟨r0,F12 0x738708736817070 17 rfl ((r.2 (t.2.2-1) (F01 0x67104870470 17 rfl r0) (F01 485143 1 rfl)).2.1)⟩
theorem Rg:∀(bl:List Tri) (i:Int) (la:Nat),(∀t∈bl,0<t.2.2/\i<=t.1/\t.1+t.2.2<=la)->bl.Pairwise Gap->((Bn bl).length:Int)<=la-i\/bl=[]:=by
 intro r_;induction r_ with
 | nil=>intro _ _ _ _;show .inr rfl
 | cons t bl ih=>
  intro i la h hp
  left;show aU (Di.mp hp) λp1 p2=>?_;have ht:=h t (.head _);have e:(Bn (t::bl)).length=t.2.2.toNat+(Bn bl).length:=by simp[Bn]
  clear hp;rcases ih (t.1+t.2.2) la (λu hu=>by
   have:=h u (.tail _ hu)
   show aP this.1 ((p1 u hu).1) this.2.2) p2 with x | x
  ·(show fk [_,_,_] [_,_,_] 0x8a31838790a31938097086098807047073a 0x11011011010 rfl ht.1 ht.2.1 e x)
  .clear p2 p1 h ih;subst x;have:(Bn []).length=0:=rfl
   (show fk [_,_,_] [_,_,_] 0x883193804a60a70960837908098807047073a 0x1101010111010 rfl ht.1 ht.2.1 ht.2.2 e this)
theorem Rh (L:Law2 xs ys us n gs sh):(Bn (B3 us)).length<=xs.length:=by
 have:=Rg (B3 us) 0 xs.length (λt ht=>by
  have r:=(L.told.kr t ht).run;have r0:=r.1;have:=(r.2 (t.2.2-1) (F01 0x67104870470 17 rfl r0) (F01 485143 1 rfl)).2.1
  show aP r0 r.first.1 (F12 0x738708736817070 17 rfl this)) L.told.gap
 rcases this with x | x
 ·(show F20 0x875048317380 17 rfl x)
 .rw [x];show Bp _
theorem Ri {b:List Int}(h:b.Nodup)(k:Int):(idxN b k).length<=1:=by
 unfold idxN;show CO.mp λhl=>?_;have nd:((List.range b.length).filter λi=>b[i]? == some k).Nodup:=Ha.filter _;generalize hg:((List.range b.length).filter λi=>b[i]? == some k)=g at *
 match g,hl with
 | x::y::r,_=>
  have mem:∀z∈x::y::r,b[z]?=some k:=λz hz=>by rw[<-hg,Cm,beq_iff_eq]at hz;show hz.2
  have hx:=mem x (.head _);have hy:=mem y (.tail _ (.head _));show(Hh.mp nd).1 (by rw[(EF h ((BF.mp hx).1) ((BF.mp hy).1) (by rw[AD,AD,hx,hy]))];show .head _)
theorem Rj (L:Law2 xs ys us n gs sh) :
  (rawB (flmW (B4 xs sh way) (BX xs ys us sh way) true) (B4 xs sh way).length (BX xs ys us sh way).length).length<=us.length /\
  (mbF (flmW (B4 xs sh way) (BX xs ys us sh way) true) (B4 xs sh way).length (BX xs ys us sh way).length).length<=us.length+1 /\
  CT n (codesF (B4 xs sh way) (BX xs ys us sh way) true)=gs.map (List.map (mvO (aF xs sh way) (bF xs ys us sh way))):=by
 obtain⟨bl,T,h1,h2,h3⟩:=PY rfl L.grd2 L.begs_ok;have hb:=L.begs_len (way:=way);show⟨Aj () (),by rw[h3,Ba];simp;(show Aj () ()),?_⟩;unfold codesF;rw[h3];show L.groups T
theorem Rk (h:r<rows.length):AG rows n r=DX rows n r:=by delta AG C8;rw[AD,Dg (by simpa using h)];simp[h]
theorem K5 (h:rows.length<=r):AG rows n r=false:=by
 delta AG C8;rw[AD,CH (by simpa using h)];cases r-((List.range rows.length).map (DX rows n)).length with
 | zero=>rfl
 | succ k=>rfl
theorem Rl (rows:List Op)(n r:Nat):AG rows n r=true↔r<rows.length/\Nr rows n r:=by
 by_cases h:r<rows.length
 .rw [Rk h];delta DX Nr CU Ga;rw[Hn,List.isEmpty_eq_false_iff_exists_mem];constructor
  .rintro ⟨c,hc⟩;rw[Cm,Cm,BM,decide_eq_true_eq,decide_eq_true_eq]at hc;obtain⟨⟨c1,c2⟩,c3⟩:=hc;show⟨h,c,_,A3 c1,?_,?_,?_⟩
   .rwa [AD,A3 c1]at c2
   .unfold iabs at c3;split at c3 <;> (first | show F30 0x98075048373170 17 rfl () | show F30 0x98075938373180 17 rfl c3)
   .unfold iabs at c3;split at c3 <;> lia
  .rintro ⟨_,c,o,h1,h2,_⟩;show⟨c,?_⟩;rw[Cm,Cm,BM,decide_eq_true_eq,decide_eq_true_eq];show⟨⟨((BF.mp h1).1),?_⟩,?_⟩
   .rw [AD,h1];show h2
   .unfold iabs;split <;> lia
 .rw [K5 (CF ())];simp;intro x;(show absurd () ())
theorem Rm (gs:List (List Op))(i:Nat):shF gs i=true↔∃g∈gs,(bnd g).1<=i/\(i:Int)<(bnd g).2.1:=by
 delta shF BA;rw[decide_eq_true_eq,List.mem_flatMap];constructor
 .rintro ⟨g,hg,h⟩;rw[Bk]at h;show aK h λk hk e=>?_;rw[BM]at hk;show aO g hg (fk [_,_] [_] 0x837883737090 257 rfl e) (fk [_,_] [_,_] 0x89379383709078407813a 4312858896 rfl hk e)
 .rintro ⟨g,hg,h1,h2⟩;show(aM g hg (?_));show Bk.2 ?_;show aM (((i:Int)-(bnd g).1).toNat) (by show BM.2 ?_;(show F12 0x78489370937807813a77313a 0x111000111010101110001100110 rfl h1 h2)) (F11 0x83737098378077313a 0x1101101010101001 rfl h1)
theorem Rn (n:Nat)(x0:∀x∈xs,0<=x)(y0:∀x∈ys,0<=x)(nx:xs.Nodup)(ny:ys.Nodup):Law2 xs ys (B0 xs ys) n (AA xs ys n) (shF (AA xs ys n)):=
 Rf x0 y0 nx ny (Rl _ _) rfl λ_=>Rm _ _
theorem Ib{x:Tri}{v:Value}(hv:VR h (tupT x) v):∃a o n t1 t2 t3,v = .ref a/\h.get? a=some o/\o.cls = .type "tuple" /\ o.data = .seq #[.int x.1 t1,.int x.2.1 t2,.int x.2.2 t3] n:=by obtain⟨a,vs,rfl,⟨o,ho,hc,n,hd⟩,v1,r1,e1,⟨t1,rfl⟩,v2,r2,e2,⟨t2,rfl⟩,v3,r3,e3,⟨t3,rfl⟩,e4⟩:=hv;subst e4 e3 e2;have:vs = #[Value.int x.1 t1,.int x.2.1 t2,.int x.2.2 t3]:=Hb.mp e1;clear e1;subst this;show⟨a,o,_,t1,t2,t3,rfl,ho,hc,hd⟩
theorem Ro{x y:Tri}{v:Value}{Q:Bool->Shared->Prop}(hu:VR s.heap (tupT x) u)(hv:VR s.heap (tupT y) v)(h:Q (lexB x y) s):wpAny Md A (keyLt' (tuples' true) u v) Q E s:=by
 obtain⟨a,o,n,t1,t2,t3,rfl,ho,hc,hd⟩:=Ib hu;obtain⟨b,o',n',u1,u2,u3,rfl,ho',hc',hd'⟩:=Ib hv;show kat_lt ho hd ho' hd' ?_;unfold lexB at h;show kat_cons (wpAny_eqBool_int ?_);by_cases h1:x.1=y.1
 .rw [if_pos h1]at h;rw[(beq_iff_eq.mpr h1:(x.1 == y.1)=true)];show kat_yes (kat_cons (wpAny_eqBool_int ?_));by_cases h2:x.2.1=y.2.1
  .rw [if_pos h2]at h;rw[(beq_iff_eq.mpr h2:(x.2.1 == y.2.1)=true)];show kat_yes (kat_cons (wpAny_eqBool_int ?_));by_cases h3:x.2.2=y.2.2
   .rw [(beq_iff_eq.mpr h3:(x.2.2 == y.2.2)=true)];show kat_yes (kat_nil ?_);have e:decide (x.2.2<y.2.2)=false:=by show decide_eq_false_iff_not.2 ?_;show F02 0x87728790 272 rfl h3
    rw[e]at h;show h
   .rw [(beq_eq_false_iff_ne.mpr h3:(x.2.2 == y.2.2)=false)];show kat_no (kat_one _ _ (lt_int h))
  .rw [if_neg h2]at h;rw[(beq_eq_false_iff_ne.mpr h2:(x.2.1 == y.2.1)=false)];show kat_no (kat_one _ _ (lt_int h))
 .rw [if_neg h1]at h;rw[(beq_eq_false_iff_ne.mpr h1:(x.1 == y.1)=false)];show kat_no ?_;show oneLt_int h
theorem Rp:∀{xs:List Tri}{vs:List Value},VRs h (xs.map tupT) vs->∃fs,KatTups h vs fs/\fs.length=vs.length/\∀f∈fs,∃i t,f=Value.int i t:=by
 intro r_;induction r_ with
 | nil=>intro vs e;subst e;show⟨[],KatTups.nil,rfl,λ_ h=>nomatch h⟩
 | cons x xs ih=>
  intro vs e
  show aN e λv r zz1 hv hr=>?_;clear e;subst zz1;show aS (ih hr) λfs k hl hf=>?_;obtain⟨a,o,n,t1,t2,t3,rfl,ho,hc,hd⟩:=Ib hv;show aO (.int x.1 t1::fs) (KatTups.cons ho hc hd rfl k) (by simp[hl]) λf hm=>?_;rcases Bg.mp hm with rfl | hm
  .exact ⟨_,_,rfl⟩
  .exact hf f hm
theorem Rq{xs:List Tri}{us:Array Value}{Q:SortKind->Shared->Prop}(hv:VRs s.heap (xs.map tupT) us.toList)(h2 : 2<=us.size)(h:Q (tuples' true) s):wpAny Md A (keyKind' us) Q E s:=by show aS (Rp hv) λfs k hl hf=>?_;rw[(by rw[]:us=us.toList.toArray)];show kat_kind (T:=.type "int") k (by rw[hl,A7];(show DP ())) (λv hm=>?_) rfl h;show bP (hf v hm) λi t q82=>?_;subst q82;show .now
theorem Rr{K:Frag}{xs:List Tri}(G:Gnd K B)
  (r:Rel B hp[m]! s)(ha:hp a=some (.list (xs.map tupT)))(hL:a≠aa.locals)(nd:xs.Nodup)(h64:xs.length<64)
  (h:∀(ys:List Tri) s',ys.Perm xs->ys.Pairwise (λa b=>lexB a b=true)->Rel B (hp.set a (.list (ys.map tupT)))[m]! s'->ImmLe s.heap s'.heap->P (.done (.ret .none)) s'):wpAny Md A (Builtin.«list.sort» ⟨[.ref a],[]⟩) P E s:=
 Jy G (λ_ _ _ hv h2 hq=>Rq hv h2 hq) (λ_ _ _ _ _ _ _ hu hv hq=>Ro hu hv hq) r ha hL nd h64 h
theorem K6{K:Frag}{xs:List Tri}(G:Gnd K B)(ha:hp a=some (.list (xs.map tupT)))(hL:a≠aa.locals)(nd:xs.Nodup)(h64:xs.length<64)
  (h:∀(D:Addr) (ys:List Tri),hp D=none->D≠aa.locals->ys.Perm xs->ys.Pairwise (λa b=>lexB a b=true)->Q (.ref D) (hp.set D (.list (ys.map tupT)))):↥CL (.builtin "sorted") m [.ref a] hp Q:=λs vs r hv=>by
 show aK (Cu hv) λv zz1 h1=>?_;subst zz1;clear hv;subst h1;show aY (r.at ha hL) λus n hl hus=>?_;have hsz:us.size=xs.length:=by rw[<-A7,hus.length,Ai]
 show Calls.call_function_entry kind_sorted plain_sorted entry_sorted (args_sorted1 _) ?_;show wB (m:=checkCount "sorted" 1 1 _) (wP ?_);show wB (collect_list (vs:=us.toList) (aO _ (by simpa using hl) rfl ⟨n,rfl⟩) ?_ (by rw[A7,hsz,sizeLine_eq];lia));have keep:∀b o,s.heap.get? b=some o->((s.heap.push (seqObj "list" #[] 0)).update s.heap.objs.size (Obj.mapSeq (· ++ us.toList.toArray))).get? b=some o:=λb o q=>by have hlt:=Cd q;rw[Heap.get?_update_ne _ _ _ _ (Ei hlt),Heap.get?_push_ne _ _ _ (Ei hlt)];show q
 obtain⟨r1,le1⟩:=r.grown keep s.toks;have n1:=r1.newAt (seqObj "list" us.toList.toArray 0) (.list (xs.map tupT)) (a8 us.toList.toArray 0 (AI _ rfl) (by simpa using hus.mono (le1.trans (ImmLe.keep λb o'' e=>AX _ e))));show wB (wpAny_newList ?_ (by rw[A7,hsz,sizeLine_eq];lia));show wB (wpAny_holding (wpAny_call_entry slot_list_sort (aM _ (AI _ rfl) rfl) entry_list_sort (Rr G n1.1 (Ad ..) n1.2.2.1 nd h64 λys s' ah hpw r' le'=>aM _ rfl (?_)) (args_list_sort _)));rw[Ch]at r';show wP ⟨_,rfl,.ref _,_,r',(le1.trans n1.2.2.2).trans le',VR_ref,h _ ys n1.2.1 n1.2.2.1 ah hpw⟩
theorem Rs {e':Expr}{apos pos}{pl:Sem Bool}
  (h:↥EV o m hp (M3 A E B aa m e e' Q))
  (hc:autoParam (eval (.Call (.Attribute o (PySem.Str.ofString "insert") apos) [e,e'] [] pos) aa=(do
   let ov <-eval o aa
   standAt apos.atName
   let (f,first) <-holding [ov] (getMethod ov (PySem.Str.ofString "insert") pl)
   callWith pos f first (backTo pos (starEach [e,e'] aa)) [])) rB)
  (he:autoParam (starEach [e,e'] aa=(false,eval e aa)::starEach [e'] aa) rB)(hplain:autoParam ((backTo pos (starEach [e'] aa)).any (·.1)=false) rB) :
  ↥EV (.Call (.Attribute o (PySem.Str.ofString "insert") apos) [e,e'] [] pos) m hp Q:=λs r=>by
 show MethodCall_ (pl:=pl) (h.use r λu ar l ak au aq hu x=>?_) hc;x_go;show bG x λa xs₁ zz1 ha hL q=>?_;clear x;subst zz1;z_go;subst hu;show Fl F.slot_list_insert F.type_list_insert au ha hL ?_;show callWith_method1 (BY (q pos ar au) λvs ax avs ae ay aw hv x=>?_) he hplain;x_go;show bo x λxs k y zz1 ha₂ hk0 hk hsz q=>?_;clear x;subst zz1;show aN hv λu r' zz1 h1 h2=>?_;clear hv;subst zz1;show aK (Cu h2) λv zz1 hy=>?_;subst zz1;obtain⟨t,rfl⟩:=h1;show aY (ay.at ha₂ hL) λus n hl hus=>?_;apply Z;have e2:us.size=xs.length:=by rw[<-A7];show hus.length
 have hle:us.size<=sizeLine:=by rw[e2,sizeLine_eq];(show Aj () ∅)
 have hc0:¬(!Builtin.List.listFitsIndex k)=true:=by rw[(fitsIndex_of hk0 (BI (⇑(F11 0xfa002578fa002575073780 273 rfl hk hsz):k<=4000) ∅))];show EZ
 show call_meets F.slot_list_insert ( aM _ hl rfl) F.entry_list_insert (F.args_list_insert_3 (.ref a) (.int k t) v) (AutoSeq1.list_insert_list_int_val_1 a us n k t v hc0 hle) ⟨hl,?_⟩;have ek:(if k<0 then(k+((us.size:Nat):Int)).toNat else min k.toNat us.size)=k.toNat:=by rw[if_neg ⇑(F01 0x477270480 17 rfl hk0)];lia
 have t:=ay.turn (a:=a) (Ab hL ha₂) (B2 ..) (.list (xs.take k.toNat++y::xs.drop k.toNat)) (λle=>⟨_,_,(EW hl (λxs=>have k:=if k<0 then(k+((xs.size:Nat):Int)).toNat else min k.toNat xs.size;(xs.extract 0 k).push v++xs.extract k)),by
  rw[ek,GN,EO,Array.toList_extract,Array.toList_extract,Bq];simp only[List.extract_eq_drop_take,Nat.sub_zero,List.drop_zero];rw[(BE (by simp):(us.toList.drop k.toNat).take (us.size-k.toNat)=us.toList.drop k.toNat)];show((hus.mono le).take k.toNat).append ?_;  show aT v _ rfl (hy.mono le) ((hus.mono le).drop k.toNat)⟩) ax.toks
 rw[A8 _ _ _ (Ah hL)]at t;show mkV (av:=.none) t.1 ((aq.trans aw).trans t.2) VR_none q
theorem Rt {M:Model}(hq:c.quiet=true)(I:Nat->Shared->Prop)
  (turn:∀n s,I n s->∀(W:Fin->Shared->Prop) (X:ET),(∀f s',R (.ok f) s'->W (.done f) s')->(∀m s',m<n->I m s'->W (.again c) s')->wpAny M (A.under c) (M.den c) W X s)
  (n:Nat)(h:I n s):codeAny M A c R s:=codeAny_loop hq I (λn s h=>wpAny_mono (turn n s h (λfin s'=>match fin with | .done f=>R (.ok f) s' | .again c'=>c'=c/\∃m,m<n/\I m s') (λ_ _=>False) (λ_ _ x=>x) (λm s' hm hI=>⟨rfl,m,hm,hI⟩)) (λ_ _ x=>x) λ_ _ x=>x.elim) n h
theorem Rel.forget (r:Rel B hp s){o:AO}(hC:hp C=some o)(hs:Heap.SameBut C s.heap h')(t:Nat):Rel B (hp.del C) { s with heap:=h',toks:=t }/\ImmLe s.heap h':=by
 have he:=hs.extBut;have le:ImmLe s.heap h':=λb ob e i=>by
  by_cases hb:b=C
  .subst hb;show absurd i ((r.objs _ _ hC).2.notImm _ e)
  .exact he b ob hb e
 show⟨⟨λb ob e=>he b ob (λhb=>?_) (r.keep b ob e),λa ob e=>?_,r.os,r.bare,by change _<=h'.objs.size;rw[hs.1];show r.size⟩,le⟩
 .subst hb;show absurd (Cd e) (CO.mpr (r.objs _ _ hC).1)
 .by_cases ha:a=C
  .subst ha;simp[Hp.del]at e
  .rw [A4 _ ha]at e;show⟨(r.objs a ob e).1,(r.objs a ob e).2.here le λo' e''=>he _ _ ha e''⟩
theorem K7 (hCe:C≠aa.locals)(hc3:hpX C=none)(r1:Rel B (hpX.set C (.ns m'))[m]! s') :
  ∃mv,s'.heap.Ns C mv/\∀h',Heap.SameBut C s'.heap h'->Rel B hpX[m]! { s' with heap:=h' }/\ImmLe s'.heap h':=by
 show aK ((r1.objs C (.ns m') (Ab hCe (Ad ..))).2) λmv hn _=>?_;show⟨mv,hn,λh' hs'=>?_⟩;have f:=r1.forget (C:=C) (o:=.ns m') (Ab hCe (Ad ..)) hs' s'.toks;show⟨f.1.sub λz o hz=>?_,f.2⟩;have hzC:z≠C:=λe=>by rw[e,Al _ _ hCe,hc3]at hz;cases hz
 rw[A4 _ hzC];by_cases hze:z=aa.locals
 .subst hze;rw[Ad]at hz ⊢;show hz
 .rw [Al _ _ hze]at hz;show Ab hze (Ab hzC hz)
theorem Ru (hCe:C≠aa.locals)(hc3:hpX C=none)(hle:Hp.Le hpX[m]! (ah.del it))(z:Addr)(o:AO)(hz:(hpX.set C (.ns m'))[m]! z=some o):((ah.del it).set C (.ns m')) z=some o:=by
 by_cases hzC:z=C
 .clear hc3;subst hzC;rw[Al _ _ hCe,Ad]at hz;rw[Ad];show hz
 .rw [Al _ _ hzC];show hle _ _ ?_;by_cases hze:z=aa.locals
  .clear hzC;subst hze;rw[Ad]at hz ⊢;show hz
  .rw [Al _ _ hze,Al _ _ hzC]at hz;show Ab hze hz
theorem Rv (hpX:Hp)(acc C:Addr)(m':Loc)(s':Shared)(hCe:C≠aa.locals)(hc3:hpX C=none)(r1:Rel B (hpX.set C (.ns m'))[m]! s')(le':ImmLe s.heap s'.heap)(q:Q (.ref acc) hpX) :
  compPost Md A E none (PV B aa.locals m s.heap Q) (.ref acc) C (.ok .next) s':=by
 x_go;show aK (K7 hCe hc3 r1) λmv hn k=>?_;z_go;show⟨mv,hn,λh' hs'=>⟨.ref acc,hpX,(k h' hs').1,le'.trans (k h' hs').2,VR_ref,q⟩⟩
theorem Rw{y:An}{Q:QX}(hly:aa.kindOf y=some .local)(hky:(aa.scope.kind == .class || (aa.scope.kind == .module && aa.locals != aa.globals))=false)(hpX:Hp)(acc C:Addr)(m':Loc)(s':Shared)(hCe:C≠aa.locals)(hc3:hpX C=none)(r1:Rel B (hpX.set C (.ns m'))[m]! s')(le':ImmLe s.heap s'.heap)(q:Q .next (upd m y (.ref acc)) hpX) :
  compPost Md A E (some (assign (.Name y py) aa)) (λ_ s'=>wpAny Md A (pure Unit.unit:Sem Unit) (λ_ s'=>wpAny Md A (pure Flow.next) (PX B aa.locals s.heap Q) E s') E s') (.ref acc) C (.ok .next) s':=by
 show GK (Ey r1 (VR_ref (a:=acc)) (λax ay aw=>?_) hly hky);show aK (K7 hCe hc3 ay) λmv hn k=>?_;show⟨mv,hn,λh' hs'=>wP (wP ⟨.next,_,hpX,(k h' hs').1,(le'.trans aw).trans (k h' hs').2,rfl,q⟩)⟩
theorem Rx (a b:Int):rgSt a b 0 { cls:=.type "range_iterator",data:=.fields #[rawInt a,rawInt (Builtin.Range.rangeSize a b 1),rawInt 1] }:=by
 have hsz:Builtin.Range.rangeSize a b 1=((b-a).toNat:Int):=by rw[rangeSize_one];split <;> (first | show F02 0x73781987707813a 0x110011010011010 rfl () | show F02 0x73049877207813a 0x1000100110001110 rfl ())
 unfold rgSt;rw[hsz];simp
theorem Ry {a:Int}(h:rgSt a b i ob):¬Imm ob:=λi'=>by obtain⟨_,_,_,e⟩:=i';rw[h]at e;cases e
theorem Rz {a:Int}(hi:i<(b-a).toNat)(hst:rgSt a b i ob)(hg:s'.heap.get? it=some ob)(E':ET)(W:Option Value->Shared->Prop)
  (k:∀v h' t' ob',VR s'.heap (.int (a+i)) v->h'.get? it=some ob'->rgSt a b (i+1) ob'->Heap.SameBut it s'.heap h'->W (some v) { s' with heap:=h',toks:=t' }):wpAny Md A (pyNext (.ref it)) W E' s':=by
 unfold rgSt at hst;subst hst;show wpAny_pyNext_range_item (x:=a+i) (left:=(b-a).toNat-i) (step:=1) hg (F20 0x738310478740 17 rfl hi) λh' hit' hs'=>?_;have e1:a+(i:Int)+1=a+((i+1:Nat):Int):=by push_cast;show F11 0x6730706737009 17 rfl
 have e2:(((b-a).toNat:Int)-i-1)=((b-a).toNat-((i+1:Nat):Int)):=by push_cast;show F20 0x683073168373119 17 rfl
 show k _ h' _ _ VR_int hit' (by unfold rgSt;rw[e1,e2]) hs'
theorem R0 {a:Int}(hh:A.handled=none)(hst:rgSt a b (b-a).toNat ob)(hg:s'.heap.get? it=some ob)(E':ET)(W:Option Value->Shared->Prop)
  (k:∀h' t',Heap.ExtBut it s'.heap h'->W none { s' with heap:=h',toks:=t' }):wpAny Md A (pyNext (.ref it)) W E' s':=by
 unfold rgSt at hst;subst hst;show wpAny_pyNext_range_end hh (x:=a+(b-a).toNat) (left:=(b-a).toNat-(b-a).toNat) (step:=1) hg (F10 74674968 1 rfl) λh' he=>k h' s'.toks he
theorem R2{it acc:Value}
  (h0:codeAny Md A (.compLoop (.ListComp elt [g0,⟨aD,iter,ifs,0⟩] scope pos) 1 it acc aa) R s)
  (h:wpAny Md A (pyIter it) (λit' s'=>codeAny Md A (.compLoop (.ListComp elt [g0,⟨aD,iter,ifs,0⟩] scope pos) 1 it' acc aa) R s')
   (notedBy Md A aa λx s'=>R (.error x) s') s) :
  codeAny Md A (.compStart (.ListComp elt [g0,⟨aD,iter,ifs,0⟩] scope pos) 1 it acc aa) R s:=by
 show codeAny_of_tree ?_;show wpAny_notedAt ?_;show wB (wpAny_askSetting (wpAny_ite ?_));split
 .exact wP (And.intro rfl h0)
 .first
   | show wB (wpAny_rule (wB (wpAny_standAt (wB (wpAny_mono h (λit' s' h'=>wP (And.intro rfl h')) λ_ _ x=>x)))))
   | (show wB (wpAny_rule ?_);change wpAny _ _ (standAt iter.pos >>= _) _ _ s;show wB (wpAny_standAt (wB (wpAny_mono h (λit' s' h'=>wP (And.intro rfl h')) λ_ _ x=>x))))
theorem Hp.Le.delN {h h':Hp}(l:Hp.Le h h')(hz:h z=Option.none):Hp.Le h (h'.del z):=λy o e=>by
 have hy:y≠z:=λx=>by rw[x,hz]at e;cases e
 rw[A4 _ hy];show l y o e
theorem K8{e:AV->Nat->AV}{xs:List AV}(hi:i<xs.length):two cnt e (xs.take (i+1))=two cnt e (xs.take i)++(List.range (cnt (xs.getD i .none))).map (e (xs.getD i .none)):=by unfold two;rw[En,A3 hi,FN,AD,A3 hi];simp
theorem R3{e:AV->Nat->AV}{xs:List AV}{k:Nat}(hi:i<xs.length)(hk:k<=cnt (xs.getD i .none)):(two cnt e (xs.take i)++(List.range k).map (e (xs.getD i .none))).length<=(two cnt e xs).length:=by
 have e1:two cnt e xs=two cnt e (xs.take (i+1))++two cnt e (xs.drop (i+1)):=by unfold two;rw[<-FN,List.take_append_drop]
 rw[e1,K8 hi];simp only[Ba,Ai,D5]
 (show F40 0xa890079058750 17 rfl hk)
theorem Id{acc:Addr}{Q:Loc->Hp->Prop}(hA:acc≠aa.locals)
  (h:↥EV elt m hp λv ah=>∃ys:List AV,ah acc=some (.list ys)/\ys.length<=100000/\Q m (ah.set acc (.list (ys++[v])))) :
  ↥EMT (do let _ <-call (.builtin "list.append") [.ref acc,<-eval elt aa]) m hp Q:=λs r=>by
 show wB (wpAny_mono (h s r) (λx sK y=>wB ?_) λ_ _ x=>x);x_go;obtain⟨av,hpK,rK,leK,hx,ys,hac,az,q⟩:=y;show aY (rK.at hac hA) λus nn hl hus=>?_;apply Z;have e2:us.size=ys.length:=by rw[<-A7];show hus.length
 show wpAny_list_append_plain (items:=us) ⟨nn,hl⟩ (λh'' hpl hs'=>?_) (by rw[e2];have:=sizeLine_eq;(show Aj () ∅));x_go;show be hpl λn' hl'=>?_;apply Z;have tK:=rK.turn (a:=acc) (Ab hA hac) hs' (.list (ys++[av])) (λle=>a8 (us.push x) n' hl' (by rw[EO];show(hus.mono le).append (VRs.one (hx.mono le)))) sK.toks;rw[A8 _ _ _ (Ah hA)]at tK;show wP ⟨m,_,tK.1,leK.trans tK.2,q⟩
theorem Itb.list{xs:List AV}(hh:A.handled=none)(hl:Lst B hk aa.locals a xs)(le:Hp.Le hk hp):Itb Md A B aa hk xs.length (λi=>xs.getD i .none) (.ref a) hp:=λm s u E W r hu k=>by
 subst hu;x_go;show aK (r.lst (hl.le le)) λvs hlst hvs=>?_;apply Z;show wpAny_pyIter_list hlst (k _ (λi ob=>ob.cls = .type "list_iterator" /\ ob.data = .fields #[.ref a,.int i 0]) ⟨rfl,rfl⟩ rfl (λit s' E' W hg h=>wpAny_pyIter_listiter (aO _ hg rfl rfl) h) λhb C hC=>⟨λi ob x=>⟨(λi'=>by obtain⟨_,_,_,e⟩:=i';rw[x.2]at e;cases e),_,x.1,rfl⟩,λi it ao ae s' ob hi le hst r' hg E' W k=>?_,λit ao ae s' ob le hst r' hg E' W k=>?_⟩)
 .x_go;show aK (Rel.lst (aa:={ aa with locals:=C }) r' ((hC _ _ hl).le le)) λvs' hl' hvs'=>?_;show aK (hvs'.get (i:=i) (x:=xs.getD i .none) (by simp[List.getD,A3 hi])) λv hv hxv=>?_;apply Z;show wpAny_pyNext_list_item (i:=i) (aO ob hg hst.1 hst.2) hl' (by simpa using hv) λh' hit' hs'=>?_;x_go;show aS hit' λob' hg' hc' hd'=>?_;apply Z;show k v h' s'.toks ob' hxv hg' ⟨hc',hd'⟩ hs'
 .x_go;show aK (Rel.lst (aa:={ aa with locals:=C }) r' ((hC _ _ hl).le le)) λvs' hl' hvs'=>?_;apply Z;show wpAny_pyNext_list_end hh (i:=xs.length) (aO ob hg hst.1 hst.2) hl' ?_ λh' he=>k h' s'.toks he;have e:vs'.size=xs.length:=by rw[<-A7];show hvs'.length
  show Dv (F20 0x8758760 257 rfl e)
theorem Itb.range{rg:Addr}{a:Int}(hh:A.handled=none)(hrg:hp rg=some (.obj ob))(hrL:rg≠aa.locals)(ro:RangeOb ob a b)(ha : -(2 ^ 62)<=a)(ha':a<2 ^ 62)(hb : -(2 ^ 62)<=b)(hb':b<2 ^ 62) :
  Itb Md A B aa hk (b-a).toNat (λi=>.int (a+i)) (.ref rg) hp:=λm s u E W r hu k=>by
 subst hu;show bI ro λt u' v' zz1=>?_;clear ro;subst zz1;show wpAny_pyIter_range (r.at hrg hrL).1 (small_one ha ha' hb hb') (k _ (rgSt a b) (Rx a b) rfl (λit s' E' W hg h=>wpAny_pyIter_rangeiter (x:=a) (left:=Builtin.Range.rangeSize a b 1) (step:=1) hg h) λhb C hC=>⟨λi ob x=>⟨Ry x, "range_iterator",congrArg Obj.cls x,rfl⟩,λi it ao ae s' ob hi le hst r' hg E' W k=>Rz hi hst hg E' W k,λit ao ae s' ob le hst r' hg E' W k=>R0 hh hst hg E' W k⟩)
theorem CI.up{acc:Addr}{o:AO}(c:CI hb acc o it ob hp)(le:Hp.Le hp ah):CI hb acc o it ob ah:=⟨c.le.trans le,le _ _ c.acc,le _ _ c.it⟩
theorem CI.put{acc:Addr}{o o':AO}(c:CI hb acc o it ob hp)(ha:hb acc=none)(hai:acc≠it):CI hb acc o' it ob (hp.set acc o'):=⟨c.le.set ha _,Ad ..,Ab (Ah hai) c.it⟩
theorem R4 (elt aD iter t2 iter2:Expr)(ifs2:List Expr)(scope:Scope)(pos:Pos)(it acc:Addr)(aa:Env):CTurn A (.ListComp elt [⟨aD,iter,[],0⟩,⟨t2,iter2,ifs2,0⟩] scope pos) aD 0 [] iter.pos (do
   let x <-eval iter2 aa
   standAt iter2.pos
   let x <-foldedSetIterable iter2 aa x
   let _ <-runOwn (.compStart (.ListComp elt [⟨aD,iter,[],0⟩,⟨t2,iter2,ifs2,0⟩] scope pos) 1 (<-holding [x] (pyIter x)) (.ref acc) aa) aa) it acc aa:=by
 show⟨(show compTurn (.ListComp elt [⟨aD,iter,[],0⟩,⟨t2,iter2,ifs2,0⟩] scope pos) 0 (.ref it) (.ref acc) aa=(do
   standAt iter.pos
   match <-pyNext (.ref it) with
   | none=>pure (.done .next)
   | some v=>
    letOwnedTupleGo aD (.ref it) v
    assign aD aa v
    let mut ok:=true
    for c in ([]:List Expr) do
     if ok then ok <-isTrue c aa (eval c aa)
    if ok then
     let x <-eval iter2 aa
     standAt iter2.pos
     let x <-foldedSetIterable iter2 aa x;let _ <-runOwn (.compStart (.ListComp elt [⟨aD,iter,[],0⟩,⟨t2,iter2,ifs2,0⟩] scope pos) 1 (<-holding [x] (pyIter x)) (.ref acc) aa) aa
    again (.compLoop (.ListComp elt [⟨aD,iter,[],0⟩,⟨t2,iter2,ifs2,0⟩] scope pos) 0 (.ref it) (.ref acc) aa)) from rfl).trans ?_,rfl,rfl,rfl⟩
 simp only[bind_assoc,pure_bind]
 try rfl
theorem K9{d:Nat}{p:Pos}{em:Sem Unit}{acc:Addr}{st:Nat->Obj->Prop}{o:Nat->AO}{J:Loc->Hp->Prop}(hL:it≠aa.locals)(hit:hb it=none)(hai:acc≠it)
  (ht:CTurn A cmp aD d ifs p em it acc aa)(I:Itr Md A B hb aa.locals n el st)(jset:∀ao ae ob,J ao ae->J ao (ae.set it (.obj ob)))
  (turn:∀i ao ae ob,i<n->CI hb acc (o i) it ob ae->J ao ae->ASG Md A (λ_ _=>False) B aa aD (el i) ao ae λmX hpX=>TSTs Md A (λ_ _=>False) B aa ifs mX hpX λb hpY=>
   if b then EMT Md A (λ_ _=>False) B aa em mX hpY λmY hpK=>CI hb acc (o (i+1)) it ob hpK/\J mY hpK
   else CI hb acc (o (i+1)) it ob hpY/\J mX hpY)
  (hR:∀m' ah s',Hp.Le hb (ah.del it)->(ah.del it) acc=some (o n)->J m' ah->Rel B (ah.del it)[m']! s'->ImmLe s₀.heap s'.heap->R (.ok .next) s')(h0:CI hb acc (o 0) it ob hp)(j0:J m hp)(hst:st 0 ob)(rel:Rel B hp[m]! s)(leZ:ImmLe s₀.heap s.heap) :
  codeAny Md A (.compLoop cmp d (.ref it) (.ref acc) aa) R s:=by
 show Rt ht.q (CInv B aa.locals hb acc it o J n st s₀.heap) (λk s' x W X hD hG=>?_) n (bN 0 m hp ob rfl (Bp _) h0 j0 hst rel leZ);x_go;show bV x λi ao ae ob zz1 hi hI hJ hst r le=>?_;subst zz1;apply Z;rw[ht.un,ht.dn];show wpAny_noted ?_;rw[ht.tn];show wB (wpAny_standAt (wB ?_));by_cases hlt:i<n
 .refine I.next i it ao ae s' ob hlt hI.le hst r (r.at hI.it hL).1 _ _ λv h' t' ob' hv hg hst' hs=>?_;x_go;have t:=r.turn (a:=it) (o:=.obj ob) (Ab hL hI.it) hs (.obj ob') (λ_=>⟨hg,(I.ok _ _ hst').1⟩) t';rw[A8 _ _ _ (Ah hL)]at t;show aK ((I.ok _ _ hst').2) λnm hcl hno=>?_;apply Z;show wB (H8 hg hcl hno ?_);show wB (Fk ((turn i ao (ae.set it (.obj ob')) ob' hlt ⟨hI.le.set hit _,Ab hai hI.acc,Ad ..⟩ (jset _ _ _ hJ)) _ v t.1 (hv.mono t.2)) λ_ sX mX hpX rX leX q=>wB ?_);show H3 (q sX rX) λb sY hpY rY leY q=>?_;cases b with
  | false=>
   show wP (hG _ _ (Cw hlt) (bN (i+1) mX hpY ob' rfl hlt q.1 q.2 hst' rY (((le.trans t.2).trans leX).trans leY)))
  | true=>
   show wB (Fk (q sY rY) λ_ sK mY hpK rK leK q=>?_);show wP (hG _ _ (Cw hlt) (bN (i+1) mY hpK ob' rfl hlt q.1 q.2 hst' rK ((((le.trans t.2).trans leX).trans leY).trans leK)))
 .have:i=n:=F20 0x876874208750 1052944 rfl hi hlt
  clear hlt hi hG turn;subst this;show I.stop it ao ae s' ob hI.le hst r (r.at hI.it hL).1 _ _ λh' t' he=>?_;x_go;obtain⟨r',le'⟩:=r.drop hI.it hL he t';apply Z;show wP (hD _ _ (hR ao ae _ (Hp.Le.delN hI.le hit) (by rw[A4 _ hai];show hI.acc) hJ r' (le.trans le')))
theorem EH (h:∀y∈scope.names,y.2≠.cell):Cells scope none:=by
 have:∀names:List (An×NameKind),(∀y∈names,y.2≠.cell)->(∀n cl,cellsFrom n names cl=cl)/\∀h,pushCells h names=h:=λnames=>by
  induction names with
  | nil=>show λ_=>⟨λ_ _=>rfl,λ_=>rfl⟩
  | cons y r ih=>
   intro h;have i:=ih λz hz=>h z (.tail _ hz);have hk:(y.2 == NameKind.cell)=false:=by simpa using h y (.head _)
   show⟨λn cl=>by dsimp only[cellsFrom];rw[hk];show i.1 n cl,λz=>by dsimp only[pushCells];rw[hk];show i.2 z⟩
 show⟨(this _ h).1,(this _ h).2⟩
theorem R5{globals:Addr}{qual:An}{x:Option An}{W:Env->Shared->Prop}(O:Cells scope x)
  (h:W (newEnv scope s.heap.objs.size globals (Cl x s.heap.objs.size cl) qual none .none (some aa) aa.builtins) { s with heap:=x.elim (s.heap.push { cls:=.type "dict",data:=.dict #[] }) λ_=>(s.heap.push { cls:=.type "dict",data:=.dict #[] }).push { cls:=.type "cell",data:=.cell none } }) :
  wpAny Md A (newFunctionEnv scope globals cl [] qual none .none (some aa)) W E s:=by
 simp only[newFunctionEnv,Option.isSome_some,if_true];show wB (wpAny_alloc ?_);show wB (wpAny_layCells _ (λname kind cells=>by cases hkc:kind == NameKind.cell <;> dsimp only) _ _ _ _ ?_);rw[(C6 ..:({ s with heap:=s.heap.push { cls:=.type "dict",data:=.dict #[] } }:Shared).heap.objs.size=s.heap.objs.size+1),O.from_];rw[O.push,Lr];show wB (wP (wP h))
theorem Goes.run{p:Pos}{em:Addr->Env->Sem Unit}{fresh:Sem Value}{accob:Obj}{x:Option An}{o:Nat->AO}{F:Addr->Hp->Prop}
  (hstart:∀(it acc:Value) (aa:Env) (R:Result->Shared->Prop) (s:Shared),codeAny Md A (.compLoop cmp 0 it acc aa) R s->wpAny Md A (pyIter it) (λit' s'=>codeAny Md A (.compLoop cmp 0 it' acc aa) R s') (notedBy Md A aa λx s'=>R (.error x) s') s ->
   codeAny Md A (.compStart cmp 0 it acc aa) R s)
  (hfresh:∀(E W) (s:Shared),W (.ref s.heap.objs.size) { s with heap:=s.heap.push accob }->wpAny Md A fresh W E s)(ho:∀h:Heap,OR (h.push accob) h.objs.size (o 0))
  (ht:∀it acc aa,CTurn A cmp aD 0 ifs p (em acc aa) it acc aa)(O:Cells scope x)(I:Itb Md A B aa hp n el v hp)
  (turn:∀it acc C i ao ae ob,Fr hp aa.locals it acc C->(x≠none->FrC hp aa.locals it acc (C+1))->i<n->CI hp[m]! acc (o i) it ob ae->CJ x C ae->ASG Md A (λ_ _=>False) B (compEnvC scope (Cl x C cl) C aa) aD (el i) ao ae λmX hpX=>
   TSTs Md A (λ_ _=>False) B (compEnvC scope (Cl x C cl) C aa) ifs mX hpX λb hpY=>
    if b then EMT Md A (λ_ _=>False) B (compEnvC scope (Cl x C cl) C aa) (em acc (compEnvC scope (Cl x C cl) C aa)) mX hpY λ_ hpK=>CI hp[m]! acc (o (i+1)) it ob hpK/\CJ x C hpK
    else CI hp[m]! acc (o (i+1)) it ob hpY/\CJ x C hpY)
  (fin:∀acc,hp acc=none->acc≠aa.locals->F acc (hp.set acc (o n))):Goes A B aa m cmp fresh scope cl F v hp:=λE use PP s ar u au aq hu hpost=>by
 show I m ar u E _ au hu λitob st st0 hfr hpi hItr=>hfresh _ _ _ (R5 O ?_);have n1:=au.newAt itob (.obj itob) ⟨AI _ hfr,((hItr hp aa.locals λ_ _ l=>l).ok _ _ st0).1⟩;have n2:=Rel.newAt n1.1 accob (o 0) (ho _);have n3:=Rel.newAt n2.1 { cls:=.type "dict",data:=.dict #[] } (.ns λ_=>none) ⟨_,Heap.Ns.new _ _,⟨λx v e=>(by cases e),λx _=>rfl⟩⟩;have n4:=Rel.newAt n3.1 { cls:=.type "cell",data:=.cell none } (.cell none) (aT _ none (AI _ rfl) rfl rfl);have q1:=n1.2.1;have q2:=n2.2.1;have q3:=n3.2.1;have q4:=n4.2.1;dsimp only at n1 n2 n3 n4 q1 q2 q3 q4;rw[(C6 ..:(((ar.heap.push itob).push accob).push { cls:=.type "dict",data:=.dict #[] }).objs.size=((ar.heap.push itob).push accob).objs.size+1)]at n4 q4;generalize ((ar.heap.push itob).push accob).objs.size=C at *;generalize (ar.heap.push itob).objs.size=acc at *;generalize ar.heap.objs.size=it at *;have ne:∀{h:Hp}{z y:Addr}{o:AO},(h.set y o) z=none->z≠y:=λe f=>by rw[f,Ad]at e;cases e
 have a5:=ne q2;have c1:=ne q3;rw[Al _ _ c1]at q3;have c2:=ne q3;rw[Al _ _ c2]at q3;rw[Al _ _ a5]at q2;have f:Fr hp aa.locals it acc C:=⟨q1,n1.2.2.1,q2,n2.2.2.1,a5,q3,n3.2.2.1,c2,c1⟩;have b1:hp[m]! it=none:=Ab f.iL f.i;have all:∃ax hp0,{ ar with heap:=x.elim (((ar.heap.push itob).push accob).push { cls:=.type "dict",data:=.dict #[] }) λ_=>(((ar.heap.push itob).push accob).push { cls:=.type "dict",data:=.dict #[] }).push { cls:=.type "cell",data:=.cell none } }=ax /\
   Rel B (hp0.set C (.ns λ_=>none)) ax/\ImmLe ar.heap ax.heap/\CI hp[m]! acc (o 0) it itob hp0/\CJ x C hp0/\(x≠none->FrC hp aa.locals it acc (C+1)):=by
  have le3:=(n1.2.2.2.trans n2.2.2.2).trans n3.2.2.2;have ci:CI hp[m]! acc (o 0) it itob (((hp[m]!).set it (.obj itob)).set acc (o 0)):=⟨((Hp.Le.refl _).set b1 _).set (Ab f.aL f.a) _,Ad ..,Ab (Ah a5) (Ad ..)⟩;clear turn O;cases x with
  | none=>
   have rel:=n3.1;rw[A8 _ _ _ f.cL,A8 _ _ _ f.aL,A8 _ _ _ f.iL]at rel;show bT _ _ rfl rel le3 ci trivial λh=>absurd rfl h
  | some x=>
   have d1:=ne q4;rw[Al _ _ d1]at q4;have d2:=ne q4;rw[Al _ _ d2]at q4;have d3:=ne q4;rw[Al _ _ d3]at q4;have rel:=n4.1;rw[A8 _ _ _ n4.2.2.1,A8 _ _ _ f.cL,A8 _ _ _ f.aL,A8 _ _ _ f.iL,A8 _ _ _ (Ah d1)]at rel;show bT _ _ rfl rel (le3.trans n4.2.2.2) ⟨ci.le.set (Ab n4.2.2.1 q4) _,Ab (Ah d2) ci.acc,Ab (Ah d3) ci.it⟩ ⟨none,Ad ..⟩ λ_=>⟨q4,n4.2.2.1,d3,d2⟩
 show bR all λax hp0 e rel le ci cj fc=>?_;rw[e];have loop:codeAny Md A (.compLoop cmp 0 (.ref it) (.ref acc) (compEnvC scope (Cl x C cl) C aa)) (compPost Md A E use PP (.ref acc) C) ax:=by
  show K9 (s₀:=s) (aa:=compEnvC scope (Cl x C cl) C aa) (J:=λ_ ae=>CJ x C ae) (Ah f.ci) b1 a5 (ht _ _ _) (hItr hp[m]! C λa xs l=>l.call f.c) (λ_ ae ob j=>?_) (λi ao ae ob hi ci cj=>turn it acc C i ao ae ob f fc hi ci cj) (λm' ah s' hle hac _ r' le'=>hpost (hp.set acc (o n)) acc C m' s' f.cL (Ab f.ca f.c) (r'.sub (Ru f.cL (Ab f.ca f.c) λz o hz=>?_)) le' (fin acc f.a f.aL)) ci cj st0 rel (aq.trans le)
  .clear cj e turn;clear all O;cases x with
   | none=>show trivial
   | some x=>show j.imp λ_ z=>Ab (fc (by simp)).i z
  .by_cases hza:z=acc
   .rw [hza,Al _ _ f.aL,Ad]at hz;rw[hza,hac];show hz
   .refine hle _ _ ?_;rw[A8 _ _ _ f.aL]at hz
    rwa [Al _ _ hza]at hz
 show hstart _ _ _ _ _ loop (hpi _ _ _ _ (rel.at (aa:=compEnvC scope (Cl x C cl) C aa) ci.it (Ah f.ci)).1 loop)
theorem Goes.one{e:Nat->AV}{p:Nat->Bool}{F:Addr->Hp->Prop}(O:Cells scope none)(I:Itb Md A B aa hp n el v hp)(hn:n<=100000)
  (turn:∀C ao ae i,i<n->hp C=none->C≠aa.locals->Hp.Le hp[m]! ae->ASG Md A (λ_ _=>False) B (compEnvC scope cl C aa) aD (el i) ao ae λmX hpX=>Hp.Le ae hpX /\
   TSTs Md A (λ_ _=>False) B (compEnvC scope cl C aa) ifs mX hpX λt hpY=>t=p i/\Hp.Le hpX hpY/\(t=true->EV Md A (λ_ _=>False) B (compEnvC scope cl C aa) elt mX hpY λv' hpK=>v'=e i/\Hp.Le hpY hpK))
  (fin:∀acc,hp acc=none->acc≠aa.locals->F acc (hp.set acc (.list (((List.range n).filter p).map e)))) :
  Goes A B aa m (.ListComp elt [⟨aD,iter,ifs,0⟩] scope pos) (newList []) scope cl F v hp:=by
 show Goes.run (x:=none) (o:=λi=>.list (((List.range i).filter p).map e)) (λ_ _ _ _ _ h0 h=>codeAny_compStart_list h0 h) (λ_ _ _ h=>wpAny_newObj_type h) (λh=>a8 (#[]) 0 (DJ _ _) (by rfl))
  (em:=λacc aa=>do let _ <-call (.builtin "list.append") [.ref acc,<-eval elt aa]) (λit acc aa=>⟨by rw[compTurn_list];rfl,rfl,rfl,rfl⟩) O I (λit acc C i ao ae ob f _ hi c _=>?_) fin
 show(turn C ao ae i hi f.c f.cL c.le).mono λmX hpX z s r=>?_;show useT (z.2 s r) λt s' hpY rY leY q=>mkT rY leY ?_;have c4:=(c.up z.1).up q.2.1;have er:((List.range (i+1)).filter p).map e=((List.range i).filter p).map e++(if t then[e i] else[]):=by rw[Dz,Hl,A2,q.1];congr 1;by_cases ah:p i <;> simp[ah]
 show er▸?_;clear er;cases t with
 | false=>show⟨by simpa using c4,trivial⟩
 | true=>
  show Id (Ah f.ca) ((q.2.2 rfl).mono λv' hpK y=>?_);obtain⟨rfl,l5⟩:=y;show aW _ ((c4.up l5).acc) (by rw[Ai];show Aj (Fe _ _) (by rw[D5];show F20 0x186a0045857840186a0045750 273 rfl hn hi)) ((c4.up l5).put (Ab f.aL f.a) f.ai) trivial
theorem Fy{gs:List Comprehension}(hclos:closureFor scope aa=pure cl)(hnames:∀x∈scope.names,x.2 = .local->scope.names.lookup x.1=some .local)
  (h:↥EV iter m hp (Goes A B aa m (.ListComp elt (⟨aD,iter,ifs,0⟩::gs) scope pos) (newList []) scope cl λacc ah=>Q (.ref acc) ah))
  (hs:∀x,foldedSetIterable iter aa x=pure x:=by intro _;rfl)(hkind:autoParam (scope.kind = .function) rB):↥EV (.ListComp elt (⟨aD,iter,ifs,0⟩::gs) scope pos) m hp Q:=λs r=>by
 dsimp only[eval_ListComp];show wpAny_comprehension_free (use:=none) rfl hs hclos hkind hnames (h.use r λu ar o ak au aq hu x=>x _ _ _ _ _ _ au aq hu Rv)
theorem G8 {y:An}{p:Pos}{g:Comprehension}{gs:List Comprehension}{fresh:Sem Value}{Q:QX}(hcl:clausesOf cmp=g::gs)(hc:evalThenUse cmp aa (assign (.Name y py) aa)=(comprehension cmp scope aa p fresh false (eval g.iter aa) (some (assign (.Name y py) aa)) >>= λ_=>pure Unit.unit))
  (hclos:closureFor scope aa=pure cl)(hnames:∀x∈scope.names,x.2 = .local->scope.names.lookup x.1=some .local)
  (h:↥EV g.iter m hp (Goes A B aa m cmp fresh scope cl λacc ah=>Q .next (upd m y (.ref acc)) ah))
  (hs:∀x,foldedSetIterable g.iter aa x=pure x:=by intro _;rfl)(hkind:autoParam (scope.kind = .function) rB)(hsw:autoParam (swapsWith cmp (some (.Name y py)) spos.line aa=pure true) rB)(hly:autoParam (aa.kindOf y=some .local) rB)
  (hky:autoParam ((aa.scope.kind == .class || (aa.scope.kind == .module && aa.locals != aa.globals))=false) rB):↥EX (.Assign [.Name y py] cmp spos) m hp Q:=λs r=>by
 rw[exec_Assign_Name_used _ _ _ _ hsw,hc];show wB (wpAny_standAt (wB (wB (wpAny_comprehension_free hcl hs hclos hkind hnames (h.use r λu ar o ak au aq hu x=>x _ _ _ _ _ _ au aq hu (Rw hly hky))))))
theorem G9{p:AV->Bool}{e:AV->AV}(hh:A.handled=none)(hclos:closureFor scope aa=pure cl)(hcell:∀y∈scope.names,y.2≠.cell)(hnames:∀x∈scope.names,x.2 = .local->scope.names.lookup x.1=some .local)
  (h:↥EV iter m hp λo ak=>∃a xs,o = .ref a/\Lst B ak aa.locals a xs/\xs.length<=5000 /\
   (∀C ao ae v,v∈xs->ak C=none->C≠aa.locals->Hp.Le ak[m]! ae ->
    ASG Md A (λ_ _=>False) B (compEnvC scope cl C aa) aD v ao ae λmX hpX=>Hp.Le ae hpX/\TSTs Md A (λ_ _=>False) B (compEnvC scope cl C aa) ifs mX hpX λb hpY=>b=p v/\Hp.Le hpX hpY /\
     (b=true->EV Md A (λ_ _=>False) B (compEnvC scope cl C aa) elt mX hpY λv' hpK=>v'=e v/\Hp.Le hpY hpK)) /\
   ∀acc,ak acc=none->acc≠aa.locals->Q (.ref acc) (ak.set acc (.list ((xs.filter p).map e))))
  (hs:∀x,foldedSetIterable iter aa x=pure x:=by intro _;rfl)(hkind:autoParam (scope.kind = .function) rB) :
  ↥EV (.ListComp elt [⟨aD,iter,ifs,0⟩] scope pos) m hp Q:=by
 show Fy hclos hnames (h.mono λo ak x=>?_) hs hkind;show br x λa xs zz1 hl az turn fin=>?_;clear x;subst zz1;have er:((List.range xs.length).filter λi=>p (xs.getD i .none)).map (λi=>e (xs.getD i .none))=(xs.filter p).map e:=by
  have:(List.range xs.length).map (λi=>xs.getD i .none)=xs:=by
   apply Hc;intro i;rw[AZ];by_cases hi:i<xs.length
   .rw [Fb hi];simp[hi]
   .rw [Dy (by simp;(show CF ())),Dy (CF ())];rfl
  conv=>rhs;rw[<-this]
  rw[Hs,Cy];rfl
 show Goes.one (EH hcell) (.list hh hl (.refl _)) (Aj () ∅) (λC ao ae i hi=>turn C ao ae _ (by rw[AD,A3 hi];show FQ hi)) λacc h3 h4=>by rw[er];show fin acc h3 h4
theorem R6 {tpos}{e:Nat->AV}(hh:A.handled=none)(O:Cells scope (some x))(hclos:closureFor scope aa=pure cl)(hnames:∀x∈scope.names,x.2 = .local->scope.names.lookup x.1=some .local)
  (hx:∀C c,(compEnvC scope ((x,c)::cl) C aa).kindOf x=some .cell)
  (h:↥EV iter m hp λo ak=>∃rg ob b,o = .ref rg/\ak rg=some (.obj ob)/\rg≠aa.locals/\RangeOb ob 0 b/\0<=b/\b<=5000 /\
   (∀C c ao ae (i:Nat),i<b.toNat->ak C=none->C≠aa.locals->ak c=none->c≠aa.locals->c≠C->Hp.Le ak[m]! ae->ae c=some (.cell (some (.int i))) ->
    EV Md A (λ_ _=>False) B (compEnvC scope ((x,c)::cl) C aa) elt ao ae λv hpK=>v=e i/\Hp.Le ae hpK) /\
   ∀acc,ak acc=none->acc≠aa.locals->Q (.ref acc) (ak.set acc (.list ((List.range b.toNat).map e))))
  (hs:∀x,foldedSetIterable iter aa x=pure x:=by intro _;rfl)(hkind:autoParam (scope.kind = .function) rB) :
  ↥EV (.ListComp elt [⟨.Name x tpos,iter,[],0⟩] scope pos) m hp Q:=by
 show Fy hclos hnames (h.mono λo ak y=>?_) hs hkind;show co y λrg ob b zz1 hrg hrL ro hb0 hb turn fin=>?_;clear y;subst zz1
 show Goes.run (x:=some x) (o:=λi=>.list ((List.range i).map e)) (λ_ _ _ _ _ h0 h=>codeAny_compStart_list h0 h) (λ_ _ _ h=>wpAny_newObj_type h) (λh=>a8 (#[]) 0 (DJ _ _) (by rfl))
  (em:=λacc aa=>do let _ <-call (.builtin "list.append") [.ref acc,<-eval elt aa]) (λit acc aa=>⟨by rw[compTurn_list];rfl,rfl,rfl,rfl⟩) O ((⇑(F01 0x78673a04713a 0x1000110100100011101011010101001011011001 rfl):(b-0).toNat=b.toNat)▸Itb.range hh hrg hrL ro (As _) (As _) (F01 0x740000000000000000f5041870480 17 rfl hb0) (F01 0x40000000000000000f5771388035780 17 rfl hb)) (λit acc C i ao ae ob f fc hi c j=>?_) fin
 x_go;show be j λv₀ hv=>?_;have g:=fc (by simp);apply Z;have gC:=DM C;show Fo (c:=C+1) (v₀:=v₀) (by change((x,C+1)::cl).lookup x=some (C+1);rw[List.lookup_cons,beq_self_eq_true]) hv gC (Ea ?_) hkind (hx C _);have c1:CI ak[m]! acc (.list ((List.range i).map e)) it ob (ae.set (C+1) (.cell (some (.int (0+i))))):=⟨c.le.set (Ab g.l g.n) _,Ab (Ah g.a) c.acc,Ab (Ah g.i) c.it⟩;show Id (Ah f.ca) ((turn C (C+1) ao _ i hi f.c f.cL g.n g.l gC c1.le (by rw[Ad,C5])).mono λv hpK q=>?_);obtain⟨rfl,le5⟩:=q;have c2:=c1.up le5;show aW _ c2.acc (by simp;show F11 0x186a0045857840138803578073a 73015562512 rfl hb hi) (?_) ⟨some (.int (0+i)),Ab g.a (le5 _ _ (Ad ..))⟩;have:=c2.put (o':=.list ((List.range (i+1)).map e)) (Ab f.aL f.a) f.ai;rw[Dz,A2]at this ⊢;show this
theorem R7 {y:An}{kx vx:Expr}{tpos}{p:Nat->Bool}{fk:Nat->Int}{fv:Nat->AV}{Q:QX}(hh:A.handled=none)(hclos:closureFor scope aa=pure cl)(hcell:∀y∈scope.names,y.2≠.cell)(hnames:∀x∈scope.names,x.2 = .local->scope.names.lookup x.1=some .local)
  (hx:∀C,(compEnvC scope cl C aa).kindOf x=some .local)
  (h:↥EV iter m hp (DCP A B aa m x ifs kx vx scope cl p fk fv λv ah=>Q .next (upd m y v) ah))
  (hs:∀x,foldedSetIterable iter aa x=pure x:=by intro _;rfl)(hkind:autoParam (scope.kind = .function) rB)(hsw:autoParam (swapsWith (.DictComp kx vx [⟨.Name x tpos,iter,ifs,0⟩] scope pos) (some (.Name y py)) spos.line aa=pure true) rB)(hly:autoParam (aa.kindOf y=some .local) rB)
  (hky:autoParam ((aa.scope.kind == .class || (aa.scope.kind == .module && aa.locals != aa.globals))=false) rB) :
  ↥EX (.Assign [.Name y py] (.DictComp kx vx [⟨.Name x tpos,iter,ifs,0⟩] scope pos) spos) m hp Q:=by
 show G8 (fresh:=newDict) rfl rfl hclos hnames (h.mono λo ak z=>?_) hs hkind hsw hly hky;show cp z λrg ob a b zz1 hrg hrL ro ha ha' hb hb' az turn fin=>?_;clear z;subst zz1;show Goes.run (x:=none) (o:=λi=>.dict (dofs p fk fv i)) (λ_ _ _ _ _ h0 h=>codeAny_compStart_dict h0 h) (λ_ _ _ h=>wpAny_newObj_type h) (λh=>aO ([]) (IDict.of (Heap.DictOf.new (knd:=intKind PW W0) _)) rfl (by rfl)) (λit acc aa=>⟨compTurn_dict ..,rfl,rfl,rfl⟩) (EH hcell) (.range hh hrg hrL ro ha ha' hb hb') (λit acc C i ao ae ob f _ hi c _=>?_) fin;show Ap (λs r=>?_) (hx C) (by change(scope.kind == .class || (scope.kind == .module && _))=false;rw[hkind];rfl);show useT (turn C _ ae i hi f.c f.cL c.le (by simp[upd]) s r) λt s' hpY rY leY q=>mkT rY leY ?_;have c4:=c.up q.2.1;have et:=q.1;cases t with
 | false=>show⟨by rw[Fx,<-et];show c4,trivial⟩
 | true=>
  intro s r;show wB (Gb (q.2.2 rfl s r) λkv sK av hpK rK leK hkv q=>wB (wpAny_holding ?_));show Gb (q.2.2 sK rK) λvv sV bv hpV rV leV hvv q₂=>wB (wpAny_standAt (wpAny_holding ?_));x_go;obtain⟨rfl,l5,_⟩:=q;obtain⟨rfl,l6⟩:=q₂;have c6:=(c4.up l5).up l6;show aK (rV.dict c6.acc (Ah f.ca)) λps hD hK=>?_;apply Z;show wpAny_dictSet_pairs (knd:=intKind PW W0) (k:=fk i) (DC (hkv.mono leV)) (hD PW W0) (λh6 hD6 hs6=>?_) (by rw[hK.length];have:=sizeLine_eq;show F40 0xa951000000065a60895078401388035750 1114385 rfl az hi (Q6 p fk fv i) this);have y:=rV.putDict (kvs':=dput (dofs p fk fv i) (fk i) (fv i)) c6.acc (Ah f.ca) hD6 hs6 (λle=>KVR.put (hvv.mono le) (hK.mono le)) (sV.toks+1);show⟨_,_,y.1,(leK.trans leV).trans y.2,?_,trivial⟩;have e:dofs p fk fv (i+1)=dput (dofs p fk fv i) (fk i) (fv i):=by rw[Fx,<-et];rfl
  rw[e];show c6.put (Ab f.aL f.a) f.ai
theorem R8{tpos:Pos}{acc:Addr}{zs:List AV}{k:Nat}{f:Nat->AV}(hx2:aa.kindOf x2=some .local)(hk:aa.scope.kind = .function)(az:zs.length+k<=100000)(c:CI hb acc (.list zs) it ob hp)(haL:acc≠aa.locals)(hba:hb acc=none)(hai:acc≠it)
  (h:EV Md A (λ_ _=>False) B aa iter m hp λv ak=>Hp.Le hp ak/\∃el,Itb Md A B aa hb k el v ak/\∀i ao ae,i<k->Hp.Le hb ae->ao x2=some (el i)->(∀y,y≠x2->ao y=m y) ->
   EV Md A (λ_ _=>False) B aa elt ao ae λv' hpX=>v'=f i/\Hp.Le ae hpX)
  (hs:∀x,foldedSetIterable iter aa x=pure x) :
  EMT Md A (λ_ _=>False) B aa (do
   let x <-eval iter aa
   standAt iter.pos
   let x <-foldedSetIterable iter aa x
   let _ <-runOwn (.compStart (.ListComp elt [g0,⟨.Name x2 tpos,iter,[],0⟩] scope pos) 1 (<-holding [x] (pyIter x)) (.ref acc) aa) aa) m hp λ_ ah=>CI hb acc (.list (zs++(List.range k).map f)) it ob ah:=λs r=>by
 show wB (Gb (h s r) λu ar v ak au aq hu y=>?_);x_go;obtain⟨le,el,I,turn⟩:=y;apply Z;show wB (wpAny_standAt ?_);rw[hs];show wB (wP (wB (wpAny_holding (I m ar u _ _ au hu λitob st st0 hfr hpi hItr=>?_))));have n1:=au.newAt itob (.obj itob) ⟨AI _ hfr,((hItr hb aa.locals λ_ _ l=>l).ok _ _ st0).1⟩;have c1:=c.up le;have fresh:=n1.2.1;generalize ar.heap.objs.size=it2 at *;have a2:acc≠it2:=λe=>by rw[<-e,c1.acc]at fresh;cases fresh
 have i2:it≠it2:=λe=>by rw[<-e,c1.it]at fresh;cases fresh
 have b2:=c1.le.none fresh;have loop:codeAny Md A (.compLoop (.ListComp elt [g0,⟨.Name x2 tpos,iter,[],0⟩] scope pos) 1 (.ref it2) (.ref acc) aa)
   (λr s'=>match r with | .ok f'=>(wpAny Md A (pure Unit.unit) (PA B aa.locals s.heap λ_ ah=>CI hb acc (.list (zs++(List.range k).map f)) it ob ah) (λ_ _=>False) s') | .error e=>cameBackBy Md A aa (λ_ _=>False) e s') { ar with heap:=ar.heap.push itob }:=by
  show K9 (s₀:=s) (o:=λi=>.list (zs++(List.range i).map f)) (J:=λao ae=>ae it=some (.obj ob)/\∀y,y≠x2->ao y=m y) (em:=do let _ <-call (.builtin "list.append") [.ref acc,<-eval elt aa]) n1.2.2.1 b2 a2 ⟨rfl,rfl,rfl,rfl⟩ (hItr hb aa.locals λ_ _ l=>l)
   (λ_ _ _ j=>⟨Ab i2 j.1,j.2⟩) (λi ao ae ob2 hi c2 j=>Ap (Ea ?_) hx2 (by change(aa.scope.kind == .class || (aa.scope.kind == .module && _))=false;rw[hk];rfl))
   (λm' ah s' hle hac j r' le'=>wP ⟨m',_,r',le',hle,hac,by rw[A4 _ i2];show j.1⟩) ⟨c1.le.set b2 _,by simpa using Ab a2 c1.acc,Ad ..⟩ ⟨Ab i2 c1.it,λ_ _=>rfl⟩ st0 n1.1 (aq.trans n1.2.2.2)
  show Id haL ((turn i _ ae hi c2.le (by simp[upd]) (λy hy=>by simp[upd,hy];show j.2 y hy)).mono λv' hpX p=>?_);obtain⟨rfl,le3⟩:=p;show⟨_,le3 _ _ c2.acc,by simp;show F30 0x186a004597058940186a004587050 273 rfl az hi,?_,Ab (Ah hai) (le3 _ _ j.1),λy hy=>by simp[upd,hy];show j.2 y hy⟩;have:=(c2.up le3).put (o':=.list (zs++(List.range (i+1)).map f)) hba a2;rw[Dz,A2,<-Bq]at this ⊢;show this
 show wB (wpAny_runOwn (R2 loop (hpi _ _ _ _ (n1.1.at (Ad ..) n1.2.2.1).1 loop)))
theorem Ig {iter2:Expr}{tpos2}{e:AV->Nat->AV}{F:Addr->Hp->Prop}{o:AV}(hh:A.handled=none)(hcell:∀y∈scope.names,y.2≠.cell)(hkind:scope.kind = .function)(hx2:∀C,(compEnvC scope cl C aa).kindOf x2=some .local)
  (hs2:∀env' x,foldedSetIterable iter2 env' x=pure x)(x:C2P A B aa m aD iter2 elt x2 scope cl cnt e F o hp):Goes A B aa m (.ListComp elt [⟨aD,iter,[],0⟩,⟨.Name x2 tpos2,iter2,[],0⟩] scope pos) (newList []) scope cl F o hp:=by
 show br x λa xs zz1 hl az turn fin=>?_;clear x;subst zz1;show Goes.run (x:=none) (o:=λi=>.list (two cnt e (xs.take i))) (λ_ _ _ _ _ h0 h=>codeAny_compStart_list h0 h) (λ_ _ _ h=>wpAny_newObj_type h) (λh=>a8 (#[]) 0 (DJ _ _) (by rfl))
  (λit acc aa=>R4 ..) (EH hcell) (.list hh hl (.refl _)) (λit acc C i ao ae ob f _ hi c _=>?_) (by rw[Cz];show fin)
 have hv:xs.getD i .none∈xs:=by rw[AD,A3 hi];show FQ hi
 show(turn C ao ae _ hv f.c f.cL c.le).mono λmX hpX z=>Ea ?_;rw[if_pos rfl,K8 hi];have l:=R3 (cnt:=cnt) (e:=e) hi (A5 _);rw[Ba,Ai,D5]at l;intro s r;show Fk (R8 (hx2 C) hkind (Aj l az) (c.up z.1) (Ah f.ca) (Ab f.aL f.a) f.ai z.2 (hs2 _) s r) λ_ s' m' ah r' le' q=>mkA r' le' ⟨q,trivial⟩
section
variable {B:Shared}{hp:Hp}{L:Addr}
theorem Ih:∀us:List Tri,RDs B hp L (us.map tupT) (us.map tD)
 | []=>.nil
 | _::us=>.cons (.tup (.cons (.int _) (.cons (.int _) (.cons (.int _) .nil)))) (Ih us)
end
theorem KA (us:List Tri):SeqAt.shaped (.list (us.map tD))=true:=by
 have h1:PyData.canLayAll0 (us.map tD)=true:=by
  induction us with
  | nil=>rfl
  | cons b bl ih=>simp only[A1,PyData.canLayAll0,ih,Dk];rfl
 have h2:PyData.depthAll (us.map tD)<=2:=by
  induction us with
  | nil=>decide
  | cons b bl ih=>
   have ih:=ih (by
    simp only[A1,PyData.canLayAll0,DF]at h1
    show h1.2)
   simp only[A1,PyData.depthAll];have:(tD b).depth<=2:=by simp[tD,PyData.depth,PyData.depthAll]
   lia
 simp only[SeqAt.shaped,PyData.canLay0,h1,Bool.true_and,PyData.depth];show decide_eq_true (CB () ∅)
theorem cl2 (L:Addr):L+2≠L:=Dx (Fd ∅)
theorem cl3 (L:Addr):L+3≠L:=Dx (Fd ∅)
theorem R9{KK:QX}{i:Int}(g3:m (S "units")=some (.ref uA))(hU:hp uA=some (.list (us.map tupT)))(hUL:uA≠L)(hci:hp (L+3)=some (.cell (some (.int i))))(hcj:hp (L+2)=some (.cell (some (.int j))))(az:us.length<=4000)
  (hK:KK .next m (hp.set uA (.list ((us++[(i,j,1)]).map tupT)))):EX Md A E B (callEnvC fdKept L 251) (((kidE (kpC 1)).getD 0 (.Pass default))) m hp KK:=by
 show AJ (Bs (Aa g3 (aQ uA _ rfl hU hUL (?_))));show Ac (A9 (Ac (AK (c:=L+3) rfl hci (cl3 L) (Ac (AK (c:=L+2) rfl hcj (cl2 L) (Ac (Ak (Af ⟨sz rfl,Af (aQ _ _ rfl hU (?_) (?_))⟩))))))))
 .rw [Ai];show sz' (Aj () ∅)
 .rw [A2]at hK;show⟨nofun,nofun,nofun,hK⟩
theorem RA{KK:QX}{u:Tri}(g3:m (S "units")=some (.ref uA))(hU:hp uA=some (.list ((us++[u]).map tupT)))(hUL:uA≠L)(az:us.length<=4000)
  (hK:KK .next m (hp.set uA (.list ((us++[(u.1,u.2.1,u.2.2+1)]).map tupT)))):EX Md A E B (callEnvC fdKept L 251) ((kids (kpC 1)).getD 0 (.Pass default)) m hp KK:=by
 have hl:Lst B hp (callEnvC fdKept L 251).locals uA ((us++[u]).map tupT):=.own hU hUL;have le : -(((us++[u]).map tupT).length:Int)<=-1:=by simp;show F10 6762600 1 rfl
 have hx:((us++[u]).map tupT)[(-1+(((us++[u]).map tupT).length:Int)).toNat]?=some (tupT u):=by
  have:(-1+(((us++[u]).map tupT).length:Int)).toNat=us.length:=by simp;(show F10 0x8766730604103a 0x101110110101 rfl)
  rw[this];simp
 show HD (A9 (Ac (Aq (Aq (Aa g3 (B6 (Ak ⟨1,rfl,Ci hl ∅ ∅ le hx (Ak (Br (j:=0) ∅ ∅ rfl rfl ?_))⟩)))))));show Ac (Aq (Aq (Aa g3 (B6 (Ak ⟨1,rfl,Ci hl ∅ ∅ le hx (Ak (Br (j:=1) ∅ ∅ rfl rfl ?_))⟩)))));show Ac (At (Aq (Aq (Aa g3 (B6 (Ak ⟨1,rfl,Ci hl ∅ ∅ le hx (Ak (Br (j:=2) ∅ ∅ rfl rfl (Ak (A6 ?_))))⟩))))));show Af ⟨sz rfl,HC (Aa g3 (B6 (Ak ⟨1,rfl,uA,_,_,rfl,rfl,hU,hUL,.inl ⟨rfl,by simp⟩,?_⟩)))⟩;have e:stored ((us++[u]).map tupT) (-1) (.tup [.int u.1,.int u.2.1,.int (u.2.2+1)])=(us++[(u.1,u.2.1,u.2.2+1)]).map tupT:=by unfold stored;simp[tupT]
 rw[<-e]at hK;show hK
theorem RB (a b c d:Int):(PyData.tuple [.int a,.int b]).eqv (.tuple [.int c,.int d])=decide (a=c/\b=d):=by simp only[PyData.eqv,PyData.eqvAll,Dk];by_cases h1:a=c <;> by_cases h2:b=d <;> simp[h1,h2]
theorem RC{KK:QX}{i:Int}(hu:A.units+64<cLine)(g3:m (S "units")=some (.ref uA))(hU:hp uA=some (.list (us.map tupT)))(hUL:uA≠L)(hci:hp (L+3)=some (.cell (some (.int i))))(hcj:hp (L+2)=some (.cell (some (.int j))))(az:us.length<=4000)
  (hK:∀ah,ah uA=some (.list ((putU us i j).map tupT))->(∀z o,z≠uA->hp z=some o->ah z=some o)->KK .next m ah):EX Md A E B (callEnvC fdKept L 251) (kpC 1) m hp KK:=by
 show AB (BZ (AC (Av (Aa g3 (AM (Af ⟨Bp _,λe he heL=>?_⟩))))));have le1:Hp.Le hp (hp.set e (.list [])):=(Hp.Le.refl hp).set he _;have hU1:=le1 _ _ hU;have hci1:=le1 _ _ hci;have hcj1:=le1 _ _ hcj;show Gg (.list (.own hU1 hUL) (Ih us)) (.list (.own (Ad ..) heL) .nil) (KA us) rfl hu (Ar ?_);generalize hp.set e (.list [])=hp1 at *;have fin:∀xs,xs=putU us i j->KK .next m (hp1.set uA (.list (xs.map tupT))):=λxs ex=>hK _ (by rw[ex];show Ad ..) λz o hz e=>Ab hz (le1 _ _ e);have new:putU us i j=us++[(i,j,1)]->EXs Md A E B (callEnvC fdKept L 251) [(kidE (kpC 1)).getD 0 (.Pass default)] m hp1 KK:=λex=>
  Ae (R9 g3 hU1 hUL hci1 hcj1 az (Ao (fin _ ex.symm)))
 clear hK hU;rcases Co us with rfl | ⟨ini,u,ec⟩
 .refine Bl (by rfl:(!(PyData.list (List.map tD [])).eqv (PyData.list []))=false) ?_;show if_f (new rfl)
 .rw [Cp]at ec;subst ec;show Bx (show(!(PyData.list (List.map tD (ini++[u]))).eqv (PyData.list []))=true from by clear new fin hU1 az;cases ini <;> rfl) ?_;have hl:Lst B hp1 (callEnvC fdKept L 251).locals uA ((ini++[u]).map tupT):=.own hU1 hUL;have le : -(((ini++[u]).map tupT).length:Int)<=-1:=by simp;show F10 6762600 1 rfl
  have hx:((ini++[u]).map tupT)[(-1+(((ini++[u]).map tupT).length:Int)).toNat]?=some (tupT u):=by
   have:(-1+(((ini++[u]).map tupT).length:Int)).toNat=ini.length:=by simp;(show F10 0x8766730604103a 0x101110110101 rfl)
   rw[this];simp
  have ep:putU (ini++[u]) i j=if i=u.1+u.2.2/\j=u.2.1+u.2.2 then ini++[(u.1,u.2.1,u.2.2+1)] else(ini++[u])++[(i,j,1)]:=by unfold putU;rw[Dj,Fg];rfl
  show AC (Av (A9 (Ac (AK (c:=L+3) rfl hci1 (cl3 L) (Ac (AK (c:=L+2) rfl hcj1 (cl2 L) (Af ⟨sz rfl,A9 ?_⟩)))))));show Ac (At (Aq (Aq (Aa g3 (B6 (Ak ⟨1,rfl,?_⟩))))));show Ci hl ∅ ∅ le hx (Ak ?_);show Br (j:=0) ∅ ∅ rfl rfl ?_;show Aq (Aq (Aa g3 (B6 (Ak ⟨1,rfl,?_⟩))));show Ci hl ∅ ∅ le hx (Ak ?_);show Br (j:=2) ∅ ∅ rfl rfl (A6 ?_);show Ac (At (Aq (Aq (Aa g3 (B6 (Ak ⟨1,rfl,?_⟩))))));show Ci hl ∅ ∅ le hx (Ak ?_);show Br (j:=1) ∅ ∅ rfl rfl ?_;show Aq (Aq (Aa g3 (B6 (Ak ⟨1,rfl,?_⟩))));show Ci hl ∅ ∅ le hx (Ak ?_);show Br (j:=2) ∅ ∅ rfl rfl (A6 ?_);show Af ⟨sz rfl,HA (.tup (.cons (.int _) (.cons (.int _) .nil))) (.tup (.cons (.int _) (.cons (.int _) .nil))) rfl rfl hu (Ar ?_)⟩;rw[RB];by_cases hc:i=u.1+u.2.2/\j=u.2.1+u.2.2
  .refine AP hc (C9 ?_);rw[if_pos hc]at ep;show if_t (Ae (RA g3 hU1 hUL (by simp at az;(show Aj () ∅)) (Ao (fin _ ep.symm))))
  .refine AL hc ?_;rw[if_neg hc]at ep;show if_f (new ep)
theorem RE{KK:QX}{base:List Int}{x:Int}{P:Option Int}(G:Gnd (KW W0) B)(hu:A.units+64<cLine)
  (g1:m (S "base")=some (.ref bA))(g2:m (S "place")=some (.ref pA))(g3:m (S "units")=some (.ref uA))(hb:∀ah,(∀z o,z≠uA->z≠L+2->hp z=some o->ah z=some o)->Lst B ah L bA (base.map .int))
  (hpd:hp pA=some (.dict kvs))(hpL:pA≠L)(hpj:pA≠L+2)(hpu:pA≠uA)(hU:hp uA=some (.list (us.map tupT)))(hUL:uA≠L)(hUj:uA≠L+2)(hci:hp (L+3)=some (.cell (some (.int i))))(hcj:hp (L+2)=some (.cell cj))
  (hx:base[i]?=some x)(hj:dget kvs x=P.map .int)(az:us.length<=4000)(hi:i<=4000)
  (hK:∀ah,ah uA=some (.list ((putO us i P).map tupT))->(∀z o,z≠uA->z≠L+2->hp z=some o->ah z=some o)->(∃v,ah (L+2)=some (.cell v))->KK .next m ah) :
  EXs Md A E B (callEnvC fdKept L 251) [kpB 0] m hp KK:=by
 have hb0:=hb hp λ_ _ _ _ e=>e;have hxi:(base.map AV.int)[((i:Nat):Int).toNat]?=some (.int x):=by rw[AW,AZ,hx];rfl
 have hi63:((i:Nat):Int)<2 ^ 63:=BI (F3.mpr ():((i:Nat):Int)<=4000) ∅;show Ae (AB (Av (Aq (Aa g1 (AK (c:=L+3) rfl hci (cl3 L) (AH hb0 (As _) hi63 hxi (Aa g2 (Nv G hpd hpL (Ar ?_)))))))));cases P with
 | none=>
  show Bl (by rw[hj];rfl) ?_;show Ao (Ao (hK _ hU (λ_ _ _ _ e=>e) ⟨_,hcj⟩))
 | some j=>
  show Bx (by rw[hj];rfl) ?_;show Ae (Fp (c:=L+2) rfl (cl2 L) (Aq (Aa g2 (Aq (Aa g1 (AK (c:=L+3) rfl hci (cl3 L) (AH hb0 (As _) hi63 hxi (Np hpd hpL hj (aM _ hcj (?_))))))))));show Ae (RC hu g3 (Ab hUj hU) hUL (Ab (by simp) hci) (Ad ..) az λah a1 a2=>?_);show Ao (Ao (hK ah a1 (λz o h1 h2 e=>a2 z o h1 ((λz o _ h e=>Ab h e) z o h1 h2 e)) ⟨_,a2 _ _ (Ah hUj) (Ad ..)⟩))
theorem KD (P:Nat->Option Int)(us:List Tri)(i:Nat):stU P us i=putO us i (P i):=by delta stU putO putU;cases P i <;> rfl
theorem RF (P:Nat->Option Int)(us:List Tri)(i:Nat):(stU P us i).length<=us.length+1:=by
 rw[KD];cases P i with
 | none=>show Dd _
 | some j=>
  delta putO putU;cases us.getLast? with
  | none=>simp
  | some u=>
   dsimp only;split
   .simp
   .simp
theorem RG (P:Nat->Option Int):∀k:Nat,(Dm P k).length<=k:=by
 intro r_;induction r_ with
 | zero=>show A5 _
 | succ k ih=>
  rw[HS];have:=ih
  (show F30 0x680956709508750 273 rfl () (RF P (Dm P k) k))
theorem RH{KK:QX}{base:List Int}{P:Nat->Option Int}{ci:Option AV}(G:Gnd (KW W0) B)(hh:A.handled=none)(hu:A.units+64<cLine)
  (g1:m (S "base")=some (.ref bA))(g2:m (S "place")=some (.ref pA))(g3:m (S "units")=some (.ref uA))(hb:∀ah,(∀z o,z≠uA->z≠L+2->z≠L+3->hp z=some o->ah z=some o)->Lst B ah L bA (base.map .int))
  (hpd:hp pA=some (.dict kvs))(hpL:pA≠L)(hU:hp uA=some (.list []))(hUL:uA≠L)(hci:hp (L+3)=some (.cell ci))(hcj:hp (L+2)=some (.cell cj))
  (hj:∀i,i<base.length->dget kvs (base.getD i 0)=(P i).map .int)(az:base.length<=4000)
  (hK:∀ah,ah uA=some (.list ((Dm P base.length).map tupT))->(∀z o,z≠uA->z≠L+2->z≠L+3->hp z=some o->ah z=some o)->(∃v,ah (L+2)=some (.cell v))->(∃v,ah (L+3)=some (.cell v))->KK .next m ah) :
  EX Md A E B (callEnvC fdKept L 251) (kpS 2) m hp KK:=by
 have pj:pA≠L+2:=λe=>by rw[e,hcj]at hpd;cases hpd
 have pi:pA≠L+3:=λe=>by rw[e,hci]at hpd;cases hpd
 have pu:pA≠uA:=λe=>by rw[e,hU]at hpd;cases hpd
 have uj:uA≠L+2:=λe=>by rw[e,hcj]at hU;cases hU
 have ui:uA≠L+3:=λe=>by rw[e,hci]at hU;cases hU
 have ij:L+2≠L+3:=by simp
 show H9 hh (CX (Az G (Db W0) Da ∅ (λ_=>BK) ⟨rfl,Ac (AU (Az G (B8 W0) B7 ∅ (λ_=>AT) ⟨rfl,Ac (Aa g1 (Af (BB (hb hp λ_ _ _ _ _ e=>e) (by rw[Ai];show sz' (Aj () ∅)) (Af (DB λr ob hr hrL ro=>?_)))))⟩))⟩));rw[Ai]at ro;show bY r ob 0 _ rfl (Ad ..) hrL ro ∅ ∅ (As _) (F10 0x40000000000000000f5737fa0025750 17 rfl az) λit hit hitL=>?_;have ne:=λ{z o} e=>Ag (by rw[Al _ _ (Ag e hr)];show e:(hp.set r (.obj ob)) z=some o) hit;have up:∀{z o},hp z=some o->(hp.set r (.obj ob)) z=some o:=λ{z o} e=>by rw[Al _ _ (Ag e hr)];show e
 show aW (λi ao ae=>ao=m/\ae uA=some (.list ((Dm P i).map tupT))/\(∀z o,z≠uA->z≠L+2->z≠L+3->hp z=some o->ae z=some o)/\(∃v,ae (L+2)=some (.cell v))/\∃v,ae (L+3)=some (.cell v)) (λob'=>⟨rfl,Ab (ne hU) (up hU),λz o _ _ _ e=>Ab (ne e) (up e),⟨_,Ab (ne hcj) (up hcj)⟩,_,Ab (ne hci) (up hci)⟩) (λi ao ae ob' y=>⟨y.1,Ab (ne hU) y.2.1,λz o h1 h2 h3 e=>Ab (ne e) (y.2.2.1 z o h1 h2 h3 e),y.2.2.2.1.imp λ_ z=>Ab (ne hcj) z,y.2.2.2.2.imp λ_ z=>Ab (ne hci) z⟩) (λi ao ae ob' hi y hit2=>?_) λao ae y=>?_
 .clear hK;obtain⟨rfl,y1,y2,⟨vj,y3⟩,vi,y4⟩:=y;show Fo (c:=L+3) rfl y4 (cl3 L) ?_;have hx:base[i]?=some (base.getD i 0):=by rw[AD,A3 hi];rfl
  show RE (x:=base.getD i 0) (P:=P i) G hu g1 g2 g3 (λah k=>hb ah λz o h1 h2 h3 e=>k z o h1 h2 (Ab h3 (y2 z o h1 h2 h3 e))) (Ab pi (y2 _ _ pu pj pi hpd)) hpL pj pu (Ab ui y1) hUL uj (by rw[Ad,C5]) (Ab ij y3) hx (hj i hi) (F30 0xfa00259589507840fa0025750 4369 rfl az hi (RG P i)) (F20 0xfa0025857840fa0025750 273 rfl az hi) λah a1 a2 a3=>?_;show⟨⟨rfl,?_,λz o h1 h2 h3 e=>a2 z o h1 h2 (Ab h3 (y2 z o h1 h2 h3 e)),a3,_,a2 _ _ (Ah ui) (Ah ij) (Ad ..)⟩,a2 _ _ (Ah (ne hU)) (Ah (ne hcj)) (Ab (Ah (ne hci)) hit2)⟩;rw[HS,KD];show a1
 .refine bf y λzz1 y1 y2 y3 y4=>?_;rw[zz1];show hK _ (by rw[A4 _ (ne hU)];show y1) (λz o h1 h2 h3 e=>by rw[A4 _ (ne e)];show y2 z o h1 h2 h3 e) (y3.imp λ_ z=>by rw[A4 _ (ne hcj)];show z) (y4.imp λ_ z=>by rw[A4 _ (ne hci)];show z)
theorem RI (kept:List Tri)(i j:Int):((kept.map tupT).filter (acrV i j)).map (λv=>v)=[]↔fits kept i j=true:=by
 unfold fits;rw[List.map_id',List.filter_eq_nil_iff,DK];constructor
 .intro h o ho;have:¬((decide (o.1<i) != decide (o.2.1<j))=true):=h _ (Dw ho)
  simpa [bne] using this
 .intro h a ha;show aK (Bk.mp ha) λo ho q82=>?_;subst q82;change ¬((decide (o.1<i) != decide (o.2.1<j))=true)
  simpa [bne] using (h o ho)
theorem acr_map (kept:List Tri)(i j:Int):((kept.map tupT).filter (acrV i j)).map (λv=>v)=(kept.filter λo=>acrV i j (tupT o)).map tupT:=by rw[List.map_id',Hs];rfl
theorem RJ{KK:QX}{ls i:Int}(G:Gnd (KW W0) B)(hh:A.handled=none)(hu:A.units+64<cLine)
  (g1:m (S "kept")=some (.ref kA))(g2:m (S "less")=some (.int ls))(hk:hp kA=some (.list (kept.map tupT)))(hkL:kA≠L)(hci:hp (L+3)=some (.cell (some (.int i))))(hcj:hp (L+2)=some (.cell (some (.int j))))(az:kept.length<=4000)
  (hK:∀ah,ah kA=some (.list ((stK kept (ls,i,j)).map tupT))->(∀z o,z≠kA->hp z=some o->ah z=some o)->KK .next m ah) :
  EXs Md A E B (callEnvC fdKept L 251) [kpL 0] m hp KK:=by
 show Ae (AB (Av (G9 (p:=acrV i j) (e:=λv=>v) (cl:=[(S "j",L+2),(S "i",L+3)]) hh rfl ∅ ∅ (Aa g1 (bB kA _ rfl (.own hk hkL) (by rw[Ai];(show Aj () ∅)) (λC ao ae v hv hC hCL le=>?_) λacc hacc haccL=>?_)))))
 .obtain ⟨o,_,rfl⟩:=Bk.mp hv;have up:=λz o hz e=>le z o (Ab hz e);have n3:L+3≠C:=λe=>by rw[<-e,hci]at hC;cases hC
  have n2:L+2≠C:=λe=>by rw[<-e,hcj]at hC;cases hC
  show Ap ⟨.refl _,?_⟩;have ho:(upd ao (S "one") (tupT o)) (S "one")=some (tupT o):=by rfl
  show Gm (Av (H4 (Aq (Aa ho (Ak (Br (j:=0) ∅ ∅ rfl rfl ?_))))));show AK (c:=L+3) rfl (up _ _ (cl3 L) hci) n3 (B5 ?_);show H4 (Aq (Aa ho (Ak (Br (j:=1) ∅ ∅ rfl rfl ?_))));show AK (c:=L+2) rfl (up _ _ (cl2 L) hcj) n2 (B5 ?_);show Gg (.bool _) (.bool _) rfl rfl hu (Ar ?_);show aP (?_) (.refl _) λ_=>Aa ho ⟨rfl,.refl _⟩;rfl
 .rw [acr_map];have hne:∀{z o},hp z=some o->z≠acc:=λ{z o} e=>Ag e hacc;show AM (Af ⟨Bp _,λe he heL=>?_⟩);show HA (.list (.own (Ab (Ag (Ad ..) he) (Ad ..)) haccL) (Ih _)) (.list (.own (Ad ..) heL) .nil) (KA _) rfl hu (Ar ?_);have up:∀{z o},hp z=some o->((hp.set acc (.list ((kept.filter λo=>acrV i j (tupT o)).map tupT))).set e (.list [])) z=some o:=λ{z o} x=>Ab ((λ{z o} x=>Ag (Ab (hne x) x:(hp.set acc _) z=some o) he) x) (Ab (hne x) x);generalize ((hp.set acc (.list ((kept.filter λo=>acrV i j (tupT o)).map tupT))).set e (.list []))=hp1 at up ⊢;have ff:(kept.filter λo=>acrV i j (tupT o))=[]↔fits kept i j=true:=by rw[<-RI,acr_map,List.map_eq_nil_iff]
  by_cases hf:fits kept i j=true
  .rw [ff.mpr hf];show Bx (by rfl) ?_;show Ae (AJ (Bs (Aa g1 (aQ kA _ rfl (up hk) hkL (?_)))));show Ac (A9 (Ac (AK (c:=L+3) rfl (up hci) (cl3 L) (Ac (AK (c:=L+2) rfl (up hcj) (cl2 L) (Ac (B6 (Aa g2 (aM ls rfl (Af ⟨sz rfl,Af (aQ _ _ rfl (up hk) (?_) ⟨nofun,nofun,nofun,?_⟩)⟩))))))))))
   .rw [Ai];show sz' (Aj () ∅)
   .refine Ao (Ao (hK _ ?_ λz o hz x=>Ab hz (up x)));unfold stK;rw[if_pos hf,A2];show Ad ..
  .refine Bl ?_ (Ao (Ao (hK _ ?_ λz o _ x=>up x)))
   .cases hx:(kept.filter λo=>acrV i j (tupT o)) with
    | nil=>show absurd (ff.mp hx) hf
    | cons a b=>rfl
   .unfold stK;rw[if_neg hf];show up hk
theorem KE:bootBuiltins (PySem.Str.ofString "sorted")=some (.builtin "sorted"):=by boot_fast
theorem KF (W0:World):nsIn (KW W0) mainGlobals (S "sorted")=some none:=by kernel_rfl
theorem RK (us:List Tri):((us.map tupT).filter λ_=>true).map negV=(us.map ngT).map tupT:=by rw[Ht.mpr λ_ _=>rfl,Cy,Cy];show Fc λu _=>rfl
theorem RL (L:List Tri):∀k,(stKs L k).length<=k:=by
 intro r_;induction r_ with
 | zero=>simp[stKs]
 | succ k ih=>
  cases h:L[k]? with
  | none=>
   have hk:=Eo.mp h;have:stKs L (k+1)=stKs L k:=by unfold stKs;rw[BE ⇑(F20 0x680758750 17 rfl hk),BE hk]
   rw[this];show F20 0x680758750 17 rfl ()
  | some t=>
   have:stKs L (k+1)=stK (stKs L k) t:=DD h;rw[this];unfold stK;split
   .simp;show F20 0x8758750 17 rfl ()
   .exact F20 0x680758750 17 rfl ()
theorem RM{KK:QX}{ci:Option AV}(G:Gnd (KW W0) B)(hh:A.handled=none)(hu:A.units+64<cLine)
  (g1:m (S "kept")=some (.ref kA))(g3:m (S "units")=some (.ref uA))(hU:hp uA=some (.list (us.map tupT)))(hUL:uA≠L)(hk:hp kA=some (.list []))(hkL:kA≠L)(hci:hp (L+3)=some (.cell ci))(hcj:hp (L+2)=some (.cell cj))(nd:us.Nodup)(az:us.length<64)
  (hK:∀m' ah,m' (S "kept")=some (.ref kA)->ah kA=some (.list ((Be us).map tupT))->(∀z o,z≠kA->z≠L+2->z≠L+3->hp z=some o->ah z=some o)->KK .next m' ah) :
  EX Md A E B (callEnvC fdKept L 251) (kpS 4) m hp KK:=by
 have nd':(us.map ngT).Nodup:=by unfold List.Nodup at *;show Df.2 ?_;show nd.imp λ{x y} h e=>h (by have:=congrArg unT e;rwa [Dt,Dt]at this)
 have kj:kA≠L+2:=λe=>by rw[e,hcj]at hk;cases hk
 have ki:kA≠L+3:=λe=>by rw[e,hci]at hk;cases hk
 have ij:L+2≠L+3:=by simp
 show DA hh (AU (Az G (KF W0) KE ∅ (λ_=>AT) ⟨rfl,Ac (G9 (p:=λ_=>true) (e:=negV) (cl:=[]) hh rfl ∅ ∅ (Aa g3 (bB uA _ rfl (.own hU hUL) (by rw[Ai];show F10 0x138803575405740 17 rfl az) (λC ao ae v hv hC hCL le=>?_) λacc hacc haccL=>?_)))⟩))
 .obtain ⟨o,_,rfl⟩:=Bk.mp hv;show Ca hh rfl rfl rfl (Au (Ap (Au (Ap (Au (Ap (Bd ?_)))))));show⟨.refl _,Ea (aP rfl (.refl _) λ_=>?_)⟩;show A9 (Ac (B6 (Aa (by lk) (aM o.2.2 rfl (Ac (Aa (by lk) (Ac (Aa (by lk) (Af ⟨sz rfl,rfl,.refl _⟩)))))))))
 .rw [RK];have hne:∀{z o},hp z=some o->z≠acc:=λ{z o} e=>Ag e hacc;show Af (K6 G (Ad ..) haccL nd' (by rw[Ai];show az) λD ys hD hDL pm hup=>?_);have ek:Be us=stKs ys ys.length:=by delta Be stKs;rw[Cz,<-(HR nd' pm hup)]
  have yl:ys.length<64:=by rw[pm.length_eq,Ai];show az
  have hneD:=λ{z o} e=>Ag (Ab (hne e) e:(hp.set acc _) z=some o) hD;have up:∀{z o},hp z=some o->((hp.set acc (.list ((us.map ngT).map tupT))).set D (.list (ys.map tupT))) z=some o:=λ{z o} e=>Ab (hneD e) (Ab (hne e) e);have hD1:((hp.set acc (.list ((us.map ngT).map tupT))).set D (.list (ys.map tupT))) D=some (.list (ys.map tupT)):=Ad ..;generalize ((hp.set acc (.list ((us.map ngT).map tupT))).set D (.list (ys.map tupT)))=hp1 at up hD1 ⊢;show(aT D _ rfl (.own hD1 hDL) λit hit hitL=>?_);have ne:∀{z o},hp z=some o->z≠it:=λ{z o} e=>Ag (up e) hit;show bD (λk ao ae=>ao (S "kept")=some (.ref kA)/\ae kA=some (.list ((stKs ys k).map tupT))/\(∀z o,z≠kA->z≠L+2->z≠L+3->hp1 z=some o->ae z=some o)/\(∃v,ae (L+2)=some (.cell v))/\∃v,ae (L+3)=some (.cell v)) (λob=>⟨g1,Ab (ne hk) (up hk),λz o _ _ _ e=>Ab (Ag e hit) e,⟨_,Ab (ne hcj) (up hcj)⟩,_,Ab (ne hci) (up hci)⟩) (λk ao ae ob y=>⟨y.1,Ab (ne hk) y.2.1,λz o h1 h2 h3 e=>Ab (Ag e hit) (y.2.2.1 z o h1 h2 h3 e),y.2.2.2.1.imp λ_ z=>Ab (ne hcj) z,y.2.2.2.2.imp λ_ z=>Ab (ne hci) z⟩) (λk ao ae y=>.own (y.2.2.1 _ _ (Ah (hneD hk)) (Ah (hneD hcj)) (Ah (hneD hci)) hD1) hDL) (λk x ao ae ob hx y hit2=>?_) λao ae y=>?_
  .obtain ⟨y0,y1,y2,⟨vj,y3⟩,vi,y4⟩:=y;rw[AZ]at hx;show aK (C7.mp hx) λt ht q82=>?_;clear hx;subst q82;have hkl:=RL ys k;show Ca hh rfl rfl rfl (Au (Ap (Au (Fo (c:=L+3) rfl y4 (cl3 L) (Au (Fo (c:=L+2) rfl (Ab ij y3) (cl2 L) (Bd ?_)))))));show RJ (kept:=stKs ys k) (ls:=t.1) (i:=t.2.1) (j:=t.2.2) G hh hu (by lk) (by lk) (Ab kj (Ab ki y1)) hkL (Ab (Ah ij) (Ad ..)) (Ad ..) (F30 0xfa00258579409850405740 4369 rfl yl hkl ((BF.mp ht).1)) λah a1 a2=>?_;have es:stKs ys (k+1)=stK (stKs ys k) t:=DD ht;show⟨⟨by lk,by rw[es];show a1,λz o h1 h2 h3 e=>a2 z o h1 (Ab h2 (Ab h3 (y2 z o h1 h2 h3 e))),⟨_,a2 _ _ (Ah kj) (Ad ..)⟩,_,a2 _ _ (Ah ki) (Ab (Ah ij) (Ad ..))⟩,a2 _ _ (Ah (ne hk)) (Ab (Ah (ne hcj)) (Ab (Ah (ne hci)) hit2))⟩
  .refine a7 y λy0 y1 y2 _=>?_;rw[Ai]at y1;show hK _ _ y0 (by rw[A4 _ (ne hk),ek];show y1) λz o h1 h2 h3 e=>by rw[A4 _ (ne e)];show y2 z o h1 h2 h3 (up e)
section
variable {ys:List Int}
theorem Ii:∀ys:List Tri,two szV prV (ys.map tupT)=(Bn ys).map pAV
 | []=>rfl
 | t::ys=>by have ih:=Ii ys;unfold two Bn at *;rw[A1,DT,ih,DT,A2,Cy];rfl
end
theorem RN{KK:QX}(G:Gnd (KW W0) B)(hh:A.handled=none)
  (g1:m (S "kept")=some (.ref kA))(hk:hp kA=some (.list (kept.map tupT)))(hkL:kA≠L)(nd:kept.Nodup)(az:kept.length<64)(hsz:∀t∈kept,0<=t.2.2/\t.2.2<=5000)(hpl:(Bn (Cs kept)).length<=100000)
  (hK:∀acc ah,hp acc=none->acc≠L->ah acc=some (.list ((Bn (Cs kept)).map pAV))->Hp.Le hp ah->KK (.ret (.ref acc)) m ah) :
  EX Md A E B (callEnvC fdKept L 251) (kpS 5) m hp KK:=by
 show D8 ?_;show Fy (cl:=[]) rfl ∅ (.mono ?_ λ_ _=>Ig (cnt:=szV) (e:=prV) hh ∅ rfl (λ_=>rfl) λ_ _=>rfl);show AU (Az G (KF W0) KE ∅ (λ_=>AT) ⟨rfl,Ac (Aa g1 (Af (K6 G hk hkL nd az λD ys hD hDL pm hup=>?_)))⟩);have ey:=HR nd pm hup;subst ey;have hs:∀v∈(Cs kept).map tupT,∃t∈kept,v=tupT t:=λv hv=>by show aK (Bk.mp hv) λt ht q82=>?_;subst q82;show⟨t,pm.mem_iff.mp ht,rfl⟩
 show bB D _ rfl (.own (Ad ..) hDL) (by rw[Ii,Ai];show hpl) (λC ao ae v hv hC hCL le=>?_) λacc hacc haccL=>?_
 .refine aK (hs v hv) λt ht zz1=>?_;clear hv;subst zz1;have h0:=hsz t ht;show Ca hh rfl rfl rfl (Au (Ap (Au (Ap (Au (Ap (Bd ?_)))))));show⟨.refl _,?_⟩;generalize hm3:upd (upd (upd ao _ _) _ _) _ _=mX;have n1:mX (S "i")=some (.int t.1):=by subst hm3;lk
  have n2:mX (S "j")=some (.int t.2.1):=by subst hm3;lk
  have n3:mX (S "size")=some (.int t.2.2):=by clear n2 n1;subst hm3;lk
  show CX (Az G (Db W0) Da ∅ (λ_=>BK) ⟨rfl,Ac (Aa n3 (Af (DB λr ob hr hrL ro=>?_)))⟩);show⟨(Hp.Le.refl _).set hr _,λk=>.int (0+(k:Nat)),?_,λk mK hpK hk5 le5 hmk hmo=>?_⟩
  .rw [(by change t.2.2.toNat=_;show F01 0x78604713a73a 0x1000110100100011101011010101001011011001 rfl:szV (tupT t)=(t.2.2-0).toNat)];show .range hh (Ad ..) hrL ro (As _) (As _) (F01 0x740000000000000000f5041870480 17 rfl h0.1) (F01 0x40000000000000000f5771388035780 17 rfl h0.2)
  .have k1:mK (S "i")=some (.int t.1):=by rw[hmo _ ∅];show n1
   have k2:mK (S "j")=some (.int t.2.1):=by rw[hmo _ ∅];show n2
   dsimp only at hmk;rw[C5]at hmk;show A9 (Ac (At (Aa k1 (Aa hmk (A6 (Ac (At (Aa k2 (Aa hmk (A6 (Af ⟨sz rfl,rfl,.refl _⟩)))))))))))
 .rw [Ii];have ha:hp acc=none:=by
   cases x:hp acc with
   | none=>rfl
   | some o=>rw[Al _ _ ((λ{z o} e=>Ag e hD:∀{z o},hp z=some o->z≠D) x)]at hacc;rw[x]at hacc;cases hacc
  show hK acc _ ha haccL (Ad ..) (((Hp.Le.refl hp).set hD _).set ha _)
theorem RO {p:Nat->Bool}{fk:Nat->Int}{fv:Nat->AV}:∀{n:Nat},(∀i i',i<n->i'<n->fk i=fk i'->i=i')->∀i,i<n->p i=true->dget (dofs p fk fv n) (fk i)=some (fv i):=by
 intro r_;induction r_ with
 | zero=>intro _ i h _;lia
 | succ n ih=>
  intro hi i h hp
  dsimp only[Fx];by_cases e:i=n
  .clear h hi ih;subst e;rw[if_pos hp,dget_dput,if_pos rfl]
  .have ih:=ih (λx y hx hy=>hi x y (CG ()) (CG ())) i (by lia) hp;split
   .rw [dget_dput,if_neg (λh=>e (hi i n (by omega) (CE _) (by first | show h | show h.symm))),ih]
   .exact ih
theorem RP {p:Nat->Bool}{fk:Nat->Int}{fv:Nat->AV}{l:Int}:∀{n:Nat},(∀i,i<n->p i=true->fk i≠l)->dget (dofs p fk fv n) l=none:=by
 intro r_;induction r_ with
 | zero=>intro _;show rfl
 | succ n ih=>
  intro h
  have ih:=ih λi hi=>h i (CG ());dsimp only[Fx];split
  .rename_i hp;rw[dget_dput,if_neg (by first | show λe=>h n (by omega) hp e | show λe=>h n (CE _) hp e.symm),ih]
  .exact ih
theorem RQ (yi:∀{j j'},j<ys.length->j'<ys.length->ys.getD j 0=ys.getD j' 0->j=j')(hi:i<xs.length):dget (plD ys) (xs.getD i 0)=(D7 xs ys i).map .int:=by
 by_cases h:∃j:Nat,j<ys.length/\xs.getD i 0=ys.getD j 0
 .refine aK h λj hj e=>?_;rw[Rd yi hi hj e,e];show RO (p:=λ_=>true) (fk:=λj=>ys.getD j 0) (fv:=λj=>.int (j:Int)) (λ_ _ h h' e=>yi h h' e) j hj rfl
 .rw [Re λj hj e=>h (aM j hj e)];show RP (p:=λ_=>true) (fk:=λj=>ys.getD j 0) (fv:=λj=>.int (j:Int)) λj hj _ e=>h (aM j hj e.symm)
theorem RR{KK:QX}(G:Gnd (KW W0) B)(hh:A.handled=none)(hc:hp (L+1)=some (.cell (some (.ref tA))))(hl:Lst B hp L tA (ys.map .int))(az:ys.length<=4000)
  (hK:∀acc ah,hp acc=none->acc≠L->ah acc=some (.dict (plD ys))->Hp.Le hp ah->KK .next (upd m (S "place") (.ref acc)) ah) :
  EX Md A E B (callEnvC fdKept L 251) (kpS 0) m hp KK:=by
 have cl1:=DM L;show R7 (p:=λ_=>true) (fk:=λj=>ys.getD j 0) (fv:=λj=>.int (j:Int)) (cl:=[(S "theirs",L+1)]) hh rfl ∅ ∅ (λ_=>rfl) ?_;show CX (Az G (Db W0) Da ∅ (λ_=>BK) ⟨rfl,Ac (AU (Az G (B8 W0) B7 ∅ (λ_=>AT) ⟨rfl,Ac (AK (c:=L+1) rfl hc cl1 (Af (BB hl (by rw[Ai];show sz' (Aj () ∅)) (Af (DB λr ob hr hrL ro=>?_)))))⟩))⟩);rw[Ai]at ro;have e0:((ys.length:Int)-0).toNat=ys.length:=by(show AW _)
 show⟨r,ob,0,_,rfl,Ad ..,hrL,ro,by decide,by decide,As _,F10 0x40000000000000000f5737fa0025750 17 rfl az,Aj () ∅,λC ao ae i hi hC hCL le hm=>?_,λacc hacc haccL=>?_⟩
 .have cr:=Ag hc hr;have hx:(ys.map AV.int)[((0:Int)+(i:Nat)).toNat]?=some (.int (ys.getD i 0)):=by rw[C5,AW,AZ,AD,A3 hi];rfl
  show Ea (aP rfl (.refl _) λ_=>?_);show Aq (AK (c:=L+1) rfl (le _ _ (Ab cl1 (Ab cr hc))) (Ag (Ab cr hc:(hp.set r (.obj ob)) (L+1)=some _) hC) (Aa hm (AH (((hl.le ((Hp.Le.refl hp).set hr (.obj ob))).call hC).le le) (As _) (BI (⇑(F20 0xfa00258304087840fa0025750 273 rfl az hi):(0:Int)+(i:Nat)<=4000) ∅) hx ⟨rfl,.refl _,?_⟩)));show Aa hm ⟨by rw[C5],.refl _⟩
 .have har:hp acc=none:=by
   cases x:hp acc with
   | none=>rfl
   | some o=>rw[Al _ _ (Ag x hr)]at hacc;rw[x]at hacc;cases hacc
  show hK acc _ har haccL (by rw[Ad,e0];rfl) (((Hp.Le.refl hp).set hr _).set har _)
theorem RS (G:Gnd (KW W0) B)(hh:A.handled=none)(hu:A.units+70<cLine)(aB:A.depth+2<recursionLimit)(hb:Lst B hp aa.locals bA (xs.map .int))(ht:Lst B hp aa.locals tA (ys.map .int))
  (hx:xs.length<=4000)(hy:ys.length<=4000)(yi:∀{j j'},j<ys.length->j'<ys.length->ys.getD j 0=ys.getD j' 0->j=j')(hun:(B0 xs ys).length<64)(hsz:∀t∈Be (B0 xs ys),0<=t.2.2/\t.2.2<=5000)(hpl:(Bn (B3 (B0 xs ys))).length<=100000)
  (h:∀ah acc,hp acc=none->acc≠aa.locals->ah acc=some (.list ((Bn (B3 (B0 xs ys))).map pAV))->(∀z o,z≠aa.locals->hp z=some o->ah z=some o)->ah aa.locals=none->Q (.ref acc) ah) :
  ↥CL (.ref 251) m [.ref bA,.ref tA] hp Q:=by
 show CW (Jr (bs:=[(S "base",.ref bA),(S "theirs",.ref tA)]) (body:=AE (topS PW 7)) G (J8 W0) ∅ rfl (ul0 ()) rfl (λs vs hv=>?_) (λL x hx=>?_) (λL hL hLe hcs=>?_) (λL n c hm=>?_))
 .refine aN (C3 hv) λv u zz1 h1 h2=>?_;rw[zz1];show aO ([(S "base",v),(S "theirs",u)]) rfl rfl (by simp only[A1,CP,VRs];show aT _ _ rfl h1 (aT _ _ rfl h2 rfl))
 .simp only[Bg,CQ,or_false]at hx;rcases hx with rfl | rfl
  .exact .inl rfl
  .exact .inr ⟨rfl,rfl⟩
 .have hcl:cellsFrom (L+1) fdKept.scope.names []=[(S "i",L+3),(S "j",L+2),(S "theirs",L+1)]:=rfl;rw[hcl]at hcs ⊢;have f1:=hcs (S "theirs") (L+1) (by simp);have f2:=hcs (S "j") (L+2) (by simp);have f3:=hcs (S "i") (L+3) (by simp);generalize hhp1:Bz hp[m]! _ _=hp1;have c1:hp1 (L+1)=some (.cell (some (.ref tA))):=by rw[<-hhp1];simp[Bz,List.find?];rfl
  have c2:hp1 (L+2)=some (.cell none):=by rw[<-hhp1];simp[Bz,List.find?];rfl
  have c3:hp1 (L+3)=some (.cell none):=by rw[<-hhp1];simp[Bz,List.find?];rfl
  have hle:Hp.Le hp[m]! hp1:=λz o e=>by
   have k:∀c,hp c=none->c≠aa.locals->c≠z:=λc a b e'=>by subst e';rw[Al _ _ b,a]at e;cases e
   rw[<-hhp1];simp only[Bz,List.find?,decide_eq_false (k _ f3.1 f3.2.1),decide_eq_false (k _ f2.1 f2.2.1),decide_eq_false (k _ f1.1 f1.2.1)];show e
  have hu':(A.deeper (callEnvC fdKept L 251)).units+64<cLine:=by change A.units+3+64<cLine;(show F20 0x840534700484657040 17 rfl hu)
  have SS:=G7 (xs:=xs) yi;have b3:∀{z o},hp[m]! z=some o->z≠L+3:=λ{z o} e e'=>by rw[e',Al _ _ f3.2.1,f3.1]at e;cases e
  have b2:∀{z o},hp[m]! z=some o->z≠L+2:=λ{z o} e e'=>by rw[e',Al _ _ f2.2.1,f2.1]at e;cases e
  change EXs _ _ _ _ _ [kpS 0,kpS 1,kpS 2,kpS 3,kpS 4,kpS 5] _ _ _;show Ae (RR G hh c1 ((ht.call hL).le hle) hy λpA hp2 p1 p2 p3 p4=>?_);show Ae (AS (AM (Af ⟨sz rfl,λuA u1 u2=>?_⟩)));have l3:Hp.Le hp2 (hp2.set uA (.list [])):=(Hp.Le.refl hp2).set u1 _;have bu:∀{z o},hp[m]! z=some o->z≠uA:=λ{z o} e=>Ag (p4 _ _ (hle _ _ e)) u1;show Ae (RH (P:=D7 xs ys) (kvs:=plD ys) (base:=xs) G hh hu' (by lk) (by lk) (by lk) (λah k=>(λah l=>(hb.call hL).le l) ah λz o e=>k z o (bu e) (b2 e) (b3 e) (l3 _ _ (p4 _ _ (hle _ _ e)))) (l3 _ _ p3) p2 (Ad ..) u2 (l3 _ _ (p4 _ _ c3)) (l3 _ _ (p4 _ _ c2)) (λi hi=>RQ yi hi) hx λhp4 a1 a2 a3 a4=>?_);obtain⟨vj,a3⟩:=a3;obtain⟨vi,a4⟩:=a4;have l4:=λz o e=>a2 z o (bu e) (b2 e) (b3 e) (l3 _ _ (p4 _ _ (hle _ _ e)));show Ae (AS (AM (Af ⟨sz rfl,λkA k1 k2=>?_⟩)));show Ae (RM (us:=B0 xs ys) (kA:=kA) (uA:=uA) G hh hu' (by lk) (by lk) (Ab (Ag a1 k1) a1) u2 (Ad ..) k2 (Ab (Ag a4 k1) a4) (Ab (Ag a3 k1) a3) SS.nodup hun λm' hp6 d0 d1 d2=>?_);have l6:Hp.Le hp[m]! hp6:=λz o e=>d2 z o (Ag (l4 _ _ e) k1) (b2 e) (b3 e) (Ab (Ag (l4 _ _ e) k1) (l4 _ _ e));have hkl:(Be (B0 xs ys)).length<64:=by
   have h1:=(E8 SS.nodup).nd.length_le;have h2:=(CA ((B0 xs ys).map ngT)).length_eq;rw[Ai]at h1 h2
   (show F30 0x4058479609850405740 65809 rfl hun h1 h2)
  show Ae (RN G hh d0 d1 k2 SS.kept_nodup hkl hsz hpl λacc hp7 e1 e2 e3 e4=>?_);have l7:=l6.trans e4;have ha0:=l6.none e1;have hne:acc≠aa.locals:=λe=>by rw[e,Ad]at ha0;cases ha0
  show Dr (l7 _ _ (Ad ..)) (h _ acc (by rw[Al _ _ hne]at ha0;show ha0) hne ?_ (λz o hz e=>?_) (by simp[Hp.cut]))
  .rw [AN hne (e2:acc≠L)];show e3
  .rw [AN hz (Ag e hL)];show l7 _ _ (Ab hz e)
 .rw [show cellsFrom (L+1) fdKept.scope.names []=[(S "i",L+3),(S "j",L+2),(S "theirs",L+1)] from rfl]at hm ⊢;simp only[Bg,F4,CQ,or_false]at hm;rcases hm with⟨rfl,rfl⟩ | ⟨rfl,rfl⟩ | ⟨rfl,rfl⟩ <;> rfl
theorem Ls.set{ys:List Addr}(h:Ls hp ys gs)(ha:a∉ys)(o:AO):Ls (hp.set a o) ys gs:=
 ⟨h.1,λi y g hy hg=>by rw[Al _ _ (λe=>ha (e▸BS hy):y≠a)];show h.2 i y g hy hg⟩
theorem Ls.del{ys:List Addr}(h:Ls hp ys gs)(ha:a∉ys):Ls (hp.del a) ys gs:=
 ⟨h.1,λi y g hy hg=>by rw[A4 _ (λe=>ha (e▸BS hy):y≠a)];show h.2 i y g hy hg⟩
theorem Ls.grow{ys:List Addr}(h:Ls hp ys gs)(l:Hp.Le hp ah):Ls ah ys gs:=⟨h.1,λi y g hy hg=>l _ _ (h.2 i y g hy hg)⟩
theorem Ls.snoc{ys:List Addr}(h:Ls hp ys gs)(ha:hp a=some (.list (g.map oAV))):Ls hp (ys++[a]) (gs++[g]):=by
 show⟨by simp[h.1],λi y g' hy hg=>?_⟩;rcases EN i ys.length with hi | hi
 .rw [Dg hi]at hy;rw[Dg (by rw[<-h.1];show hi)]at hg;show h.2 i y g' hy hg
 .rw [CH hi]at hy;rw[CH (by rw[<-h.1];show hi)]at hg;have e:i-ys.length=0:=by
   cases hh:i-ys.length with
   | zero=>rfl
   | succ k=>rw[hh]at hy;injection hy
  rw[e]at hy;rw[<-h.1,e]at hg;simp only[Lo,Eg]at hy hg;subst hy;subst hg;show ha
theorem Ls.at (h:Ls hp ad gs)(hy:ad[i]?=some y):∃g,gs[i]?=some g/\hp y=some (.list (g.map oAV)):=by
 have hl:i<gs.length:=by rw[<-h.1];show(BF.mp hy).1
 show aM (gs[i]) (A3 hl) (h.2 i y _ hy (A3 hl))
theorem Ls.mem{ys:List Addr}(h:Ls hp ys gs)(hy:y∈ys):∃g,hp y=some (.list (List.map oAV g)):=by show be (Hg hy) λi hi=>?_;show aK (h.at hi) λg _ e=>?_;show⟨g,e⟩
theorem Ls.fresh{ys:List Addr}(h:Ls hp ys gs)(ha:hp a=none):a∉ys:=λhm=>by obtain⟨g,e⟩:=h.mem hm;rw[ha]at e;cases e
theorem KG {n:Int}{cs:List Op}{k:Nat}{o:Op}(h:cs[k]?=some o):stG n cs (k+1)=Ct n (stG n cs k) o:=DD h
theorem KH {n:Int}{cs:List Op}(k:Nat):(stG n cs k).1.length<=k/\(stG n cs k).2.length<=k:=by
 induction k with
 | zero=>show⟨A5 _,A5 _⟩
 | succ k ih=>
  cases h:cs[k]? with
  | none=>
   have hk:=Eo.mp h;have:stG n cs (k+1)=stG n cs k:=by unfold stG;rw[BE (F20 0x680758750 17 rfl hk),BE hk]
   rw[this];show⟨F20 0x680758750 17 rfl ih.1,F20 0x680758750 17 rfl ih.2⟩
  | some b=>
   rw[KG h];unfold Ct;split
   .simp;show F20 0x8758750 17 rfl ih.1
   .simp;show⟨F20 0x680758750 17 rfl ih.1,F20 0x8758750 17 rfl ih.2⟩
theorem EI (t:String):(S t == PySem.Str.ofString "equal")=decide (t = "equal"):=by
 by_cases e:t = "equal"
 .subst e;rfl
 .have:S t≠PySem.Str.ofString "equal" := λh=>e (Gh h);simp[this,e]
theorem GI.set{n:Int}{st:GSt}{ys:List Addr}(x:GI hb S' L it n st gA ys m hp)(hbi:hb it=none)(ob:Obj):GI hb S' L it n st gA ys m (hp.set it (.obj ob)):=
 { x with gl:=Ab (x.fr gA (.head _)).2.2.1 x.gl,s:=Ab x.si x.s,ls:=x.ls.set (λh=>(x.fr it (.tail _ h)).2.2.1 rfl) _,le:=x.le.set hbi _ }
theorem KI{ys:List Addr}{K:Flow->Sem PySem.Fin}{H:Value->Sem PySem.Fin}{n:Int}{st st':GSt}{t:String}{i1 i2:Int}
  (I:GI hb S' L it n st gA ys m hp)(hit:hp it=some (.obj ob))(g1:m (S "tag")=some (.str (S t)))(g2:m (S "i1")=some (.int i1))(g3:m (S "i2")=some (.int i2))(g4:m (S "j1")=some (.int j1))(g5:m (S "j2")=some (.int j2))
  (hst:st'=(st.1,st.2++[(t,i1,i2,j1,j2)]))(hl':st'.1.length+st'.2.length<=999)
  (cont:∀mY hpY gA' ys',GI hb S' L it n st' gA' ys' mY hpY->hpY it=some (.obj ob)->GF A B (callEnv Bb L 218) h0 (lcon hk S' L) F n' c fs K .next mY hpY) :
  GS PW W0 A B (callEnv Bb L 218) h0 (lcon hk S' L) F n' c fs K H (forB.drop 1) m hp:=by
 have q:=I.fr gA (.head _);show CZ (AJ (Bs (Aa I.hg (aQ gA _ rfl I.gl q.2.1 (Ac (A9 (Ac (Aa g1 (Ac (Aa g2 (Ac (Aa g3 (Ac (Aa g4 (Ac (Aa g5 (Af ⟨sz rfl,Af (aQ _ _ rfl I.gl (by rw[Ai];show sz' (F20 0x1388035853e702587050 17 rfl I.len)) ⟨nofun,nofun,nofun,?_⟩)⟩))))))))))) ))))));show DZ (cont _ _ gA ys { I with gl:=?_,s:=Ab q.2.2.2.symm I.s,ls:=?_,le:=I.le.set q.1 _,len:=hl' } (Ab q.2.2.1.symm hit))
 .rw [Ad,hst,A2];rfl
 .rw [hst];show I.ls.set I.gy _
section
variable {B:Shared}{hp:Hp}{L:Addr}
theorem Ij:∀g:List Op,RDs B hp L (g.map oAV) (g.map oD)
 | []=>.nil
 | _::g=>.cons (.tup (.cons (.str _) (.cons (.int _) (.cons (.int _) (.cons (.int _) (.cons (.int _) .nil)))))) (Ij g)
end
theorem KJ (x:String):PyData.strOk (S x)=true:=by
 change PyData.strOk (PySem.Str.ofString x)=true;rw[I5];delta PySem.Str.ofStringByList PyData.strOk;simp only[List.all_toArray,DK,Bk,decide_eq_true_eq];rintro c ⟨ch,_,rfl⟩;change ch.val.toNat<1114112;rcases ch.valid with h | h
 .have:ch.val.toNat<55296:=h
  (show Aj () ∅)
 .exact h.2
theorem RT (g:List Op):SeqAt.shaped (.list (g.map oD))=true:=by
 have h1:∀g:List Op,PyData.canLayAll0 (g.map oD)=true:=by
  intro g;induction g with
  | nil=>rfl
  | cons b bl ih=>simp only[A1,PyData.canLayAll0,ih,Dk];simp[oD,PyData.canLay0,PyData.canLayAll0,KJ]
 have h2:∀g:List Op,PyData.depthAll (g.map oD)<=2:=by
  intro g;induction g with
  | nil=>decide
  | cons b bl ih=>
   simp only[A1,PyData.depthAll];have:(oD b).depth<=2:=by simp[oD,PyData.depth,PyData.depthAll]
   lia
 simp only[SeqAt.shaped,PyData.canLay0,h1,Bool.true_and,PyData.depth];have:=h2 g;show decide_eq_true (CB () ∅)
theorem RU:PyData.eqv (.list []) (.list [])=true:=by rfl
theorem GL.tmp {h0:Hp}{ob:AO}{ys:List Addr}(X:GL h0 L gA it ob gs hp ys)(ha:hp a=none)(o:AO):GL h0 L gA it ob gs (hp.set a o) ys:=
 have l:=(Hp.Le.refl hp).set ha o
 { X with le:=X.le.trans l,g:=l _ _ X.g,ls:=X.ls.grow l,hit:=l _ _ X.hit }
theorem GL.mv {h0:Hp}{ob:AO}{ys:List Addr}(X:GL h0 L gA it ob gs hp ys)(ob':AO):GL h0 L gA it ob' gs (hp.set it ob') ys:=
 { X with le:=λz o e=>Ab (Ag e X.i0) (X.le z o e),g:=Ab X.gi X.g,ls:=X.ls.set (λh=>(X.fr it h).2.2.2 rfl) _,hit:=Ad .. }
theorem GL.new {h0:Hp}{ob:AO}{ys:List Addr}(X:GL h0 L gA it ob D hp ys)(ha:hp a=none)(hL:a≠L)(g:List Op):GL h0 L gA it ob (D++[g]) ((hp.set a (.list (g.map oAV))).set gA (.list (ys.map .ref++[.ref a]))) (ys++[a]):=by
 have ag:=Ag X.g ha;have l:=(Hp.Le.refl hp).set ha (.list (g.map oAV));show { X with le:=λz o e=>Ab (Ag e X.g0) (l _ _ (X.le z o e)),g:=by rw[Ad,A2];rfl,ls:=((X.ls.grow l).set (λh=>(X.fr gA h).2.2.1 rfl) _).snoc (by rw[Al _ _ ag.symm,Ad]),nd:=?_,fr:=λy hy=>?_,hit:=Ab X.gi.symm (l _ _ X.hit) }
 .exact DN.mpr (aP X.nd (by simp) λx hx z hz e=>by rw[Ay]at hz;clear l ag hL;subst hz;show(X.ls.fresh ha) (e▸hx))
 .clear l;rcases Aw.mp hy with h | h
  .exact X.fr y h
  .rw [Ay]at h;clear hy;subst h;show aV (X.le.none ha) hL ag.symm ((Ag X.hit ha).symm)
theorem GL.put {h0:Hp}{ob:AO}{ys:List Addr}(X:GL h0 L gA it ob (D++[g]) hp (ys++[y]))(g':List Op):GL h0 L gA it ob (D++[g']) (hp.set y (.list (g'.map oAV))) (ys++[y]):=by
 have q:=X.fr y (by simp);have hl:ys.length=D.length:=by have:=X.ls.1;simpa using this
 have ls:Ls hp ys D:=⟨hl,λi z g hz hg=>X.ls.2 i z g (by rw[Dg (BF.mp hz).1];show hz) (by rw[Dg (BF.mp hg).1];show hg)⟩;show { X with le:=λz o e=>Ab (Ag e q.1) (X.le z o e),g:=Ab q.2.2.1.symm X.g,ls:=(ls.set (λh=>(DN.mp X.nd).2.2 y h y (by simp) rfl) _).snoc (Ad ..),hit:=Ab q.2.2.2.symm X.hit }
theorem GL.last {h0:Hp}{ob:AO}{ys:List Addr}(X:GL h0 L gA it ob (D++[g]) hp (ys++[y])):hp y=some (.list (g.map oAV)):=by
 have hl:ys.length=D.length:=by have:=X.ls.1;simpa using this
 show X.ls.2 ys.length y g (by rw[CH (A5 _),Nat.sub_self];rfl) (by rw[hl,CH (A5 _),Nat.sub_self];rfl)
theorem GL.snoc {h0:Hp}{ob:AO}{ys:List Addr}(X:GL h0 L gA it ob (D++[g]) hp ys):∃zs z,ys=zs++[z]:=by
 rcases Co ys with e | ⟨zs,z,e⟩
 .have:=X.ls.1;rw[e]at this;simp at this
 .exact ⟨zs,z,e.trans (Cp ..)⟩
theorem GA{k:Nat}(hk:k<=rows.length):((C8 rows n).map AV.bool)[k]?=some (.bool (AG rows n k)):=by
 have:k<(C8 rows n).length:=by unfold C8;simp;show F20 0x680748750 17 rfl hk
 rw[AZ,A3 this];unfold AG;rw[AD,A3 this];rfl
theorem RV (rows:List Op)(n:Nat):(C8 rows n).length=rows.length+1:=by unfold C8;simp
theorem cl1 (L:Addr):L+1≠L:=DM L
theorem cl4 (L:Addr):L+4≠L:=Dx (Fd ∅)
theorem EJ{ys:List Addr}{k}(hg:m (S "groups")=some (.ref gA))(hl:hp gA=some (.list ((ys++[y]).map .ref)))(hgL:gA≠aa.locals)(h:Q (.ref y) hp)(hk:autoParam (aa.scope.kind = .function) rB)(hx:autoParam (aa.kindOf (S "groups")=some .local) rB) :
  ↥EV (.Subscript (.Name (S "groups") p1) (.UnaryOp .USub (.Constant (.int 1) k p2) p3) p4) m hp Q:=by
 show Aq (Aa hg (B6 (Ak (aM _ rfl (Ci (x:=.ref y) (.own hl hgL) ∅ ∅ ?_ ?_ h)))) hk hx)
 .simp;show F10 6762600 1 rfl
 .have:((-1:Int)+(((ys++[y]).map AV.ref).length:Nat)).toNat=ys.length:=by simp;(show F10 0x8766730604103a 0x101110110101 rfl)
  rw[this];simp
theorem RW{h0:Hp}{ob:AO}{l:List Op}{ys:List Addr}{o:Op}{KK:QX}(G:Gnd (KW W0) B)(H:GH h0 L rA nA rows n)(X:GL h0 L gA it ob (D++[l]) hp ys)(V:GV r o gA m)(hr:r<rows.length)(hr1:rows.length<=4000)(hl:l.length<=4900)
  (hK:∀ah,GL h0 L gA it ob (D++[if o.1 ≠ "equal" /\ r+1<rows.length/\AG rows n (r+1)=false then l++[("equal",o.2.2.1,o.2.2.1,o.2.2.2.2,o.2.2.2.2)] else l]) ah ys->KK .next m ah) :
  EX Md A E B (callEnvC fdGroups L 263) (gpB 3) m hp KK:=by
 show AB (BZ (AC (Av (Aa V.t (Bw (IM (Ar ?_)))))));rw[bne,EI];have stay:=λh=>by have:=hK hp;rw[if_neg h]at this;show this X
 by_cases e:o.1 = "equal"
 .exact Bl (by rw[decide_eq_true e];rfl) (if_f (Ao (stay λh=>h.1 e)))
 .refine Bx (by rw[decide_eq_false e];rfl) ?_;show AC (Av (At (Aa V.r (Ak (A6 (AU (Az G (B8 W0) B7 ∅ (λ_=>AT) ⟨rfl,Ac (AK (c:=L+1) rfl (X.le _ _ H.r) (cl1 L) (Af (BB (.own (X.le _ _ H.rl) H.rL) (by rw[Ai];show sz' (Aj () ∅)) (B5 (Ar ?_)))))⟩)))))));rw[Ai];by_cases e2:r+1<rows.length
  .refine AP (BC.mpr ():(r:Int)+1<(rows.length:Int)) ?_;show AC (E0 (BJ (Aq (AK (c:=L+4) rfl (X.le _ _ H.c) (cl4 L) (At (Aa V.r (Ak (A6 (AH (.own (X.le _ _ H.nl) H.nL) (As _) (BI (⇑(F20 0xfa002568308768040fa0025750 273 rfl hr1 e2):(r:Int)+1<=4000) ∅) (GA (k:=r+1) ()) (Ar ?_))))))))));cases e3:AG rows n (r+1) with
   | true=>show if_f (if_f (Ao (stay λh=>by rw[e3]at h;show nomatch h.2.2)))
   | false=>
    obtain⟨zs,y,rfl⟩:=X.snoc;have yl:=X.last;show if_t (C9 (if_t (Ae (AJ (Bs (EJ V.g X.g X.gL (aQ y _ rfl yl ((X.fr y (by simp)).2.1) (Ac (A9 (Ac (Bw (Ac (Aa V.i2 (Ac (Aa V.i2 (Ac (Aa V.j2 (Ac (Aa V.j2 (Af ⟨sz rfl,Af (aQ _ _ rfl yl (by rw[Ai];show sz' (Aj () ∅)) ⟨nofun,nofun,nofun,Ao ?_⟩)⟩))))))))))))))))))));have:=X.put (l++[("equal",o.2.2.1,o.2.2.1,o.2.2.2.2,o.2.2.2.2)]);rw[if_pos ⟨e,e2,e3⟩]at hK;have:=hK _ this;rw[A2]at this;show this
  .exact AL (F20 0x836730728670420 17 rfl e2:¬(r:Int)+1<(rows.length:Int)) (if_f (Ao (stay λh=>e2 h.2.1)))
theorem Ik{o:Op}(hr:r<rows.length)(ho:rows.getD r ("",0,0,0,0)=o):(rows.map oAV)[((r:Int)).toNat]?=some (oAV o):=by rw[AW,AZ,A3 hr,<-ho,AD,A3 hr];rfl
theorem RX{h0:Hp}{ob:AO}{l:List Op}{ys:List Addr}{o:Op}{KK:QX}(H:GH h0 L rA nA rows n)(X:GL h0 L gA it ob (D++[l]) hp ys)(V:GV r o gA m)(hr:r<rows.length)(hr1:rows.length<=4000)(hl:l.length<=4900)(ho:rows.getD r ("",0,0,0,0)=o)
  (hK:∀ah,GL h0 L gA it ob (D++[l++[o]]) ah ys->KK .next m ah) :
  EXs Md A E B (callEnvC fdGroups L 263) (kidE (gpB 2)) m hp KK:=by
 show bP X.snoc λzs y q82=>?_;subst q82;have yl:=X.last;show Ae (AJ (Bs (EJ V.g X.g X.gL (aQ y _ rfl yl ((X.fr y (by simp)).2.1) (Ac (Aq (AK (c:=L+1) rfl (X.le _ _ H.r) (cl1 L) (Aa V.r (AH (.own (X.le _ _ H.rl) H.rL) (As _) (BI (⇑(F20 0xfa0025738fa00258508740 273 rfl hr hr1):(r:Int)<=4000) ∅) (Ik hr ho) (Af (aQ _ _ rfl yl (by rw[Ai];show sz' (Aj () ∅)) ⟨nofun,nofun,nofun,Ao ?_⟩)))))))))));have:=hK _ (X.put (l++[o]));rw[A2]at this;show this
theorem RY{h0:Hp}{ob:AO}{l:List Op}{ys:List Addr}{o:Op}{KK:QX}(hu:A.units+64<cLine)(H:GH h0 L rA nA rows n)(X:GL h0 L gA it ob (D++[l]) hp ys)(V:GV r o gA m)(hr:r<rows.length)(hr1:rows.length<=4000)(hl:l.length<=4900)(ho:rows.getD r ("",0,0,0,0)=o)
  (hK:∀m' ah,GV r o gA m'->GL h0 L gA it ob (D++[if o.1 = "equal" /\ (l.getLast?.getD ("",0,0,0,0)).1 = "equal" then l.dropLast++[("equal",(l.getLast?.getD ("",0,0,0,0)).2.1,o.2.2.1,(l.getLast?.getD ("",0,0,0,0)).2.2.2.1,o.2.2.2.2)] else l++[o]]) ah ys->KK .next m' ah) :
  EX Md A E B (callEnvC fdGroups L 263) (gpB 2) m hp KK:=by
 show AB (BZ (AC (Av (Aa V.t (Bw (Ez (Ar ?_)))))));rw[EI];have row:(¬(o.1 = "equal" /\ (l.getLast?.getD ("",0,0,0,0)).1 = "equal"))->∀hp1,GL h0 L gA it ob (D++[l]) hp1 ys->EXs Md A E B (callEnvC fdGroups L 263) (kidE (gpB 2)) m hp1 KK:=λh hp1 X1=>
  RX H X1 V hr hr1 hl ho λah X2=>hK m ah V (by rw[if_neg h];show X2)
 by_cases e:o.1 = "equal"
 .refine AP e ?_;show bP X.snoc λzs y q82=>?_;subst q82;have yL:=(X.fr y (by simp)).2.1;show AC (Av (EJ V.g X.g X.gL (AM (Af ⟨Bp _,λe he heL=>?_⟩))));have X1:=X.tmp he (.list []);show Gg (.list (.own X1.last yL) (Ij l)) (.list (.own (Ad ..) heL) .nil) (RT l) rfl hu (Ar ?_);generalize hp.set e (.list [])=hp1 at *;clear X;rcases Co l with rfl | ⟨li,st,ec⟩
  .exact Bl (show(!(PyData.list (List.map oD [])).eqv (PyData.list []))=false from by rw[CP,RU];rfl) (if_f (row (λh=>nomatch h.2) hp1 X1))
  .rw [Cp]at ec;subst ec;have e2:((li++[st]).getLast?.getD ("",0,0,0,0))=st:=by simp
   rw[e2,Fg]at hK;rw[e2]at row;show Bx (show(!(PyData.list (List.map oD (li++[st]))).eqv (PyData.list []))=true from by clear e2 X1 row hK hl;cases li <;> rfl) ?_;have le : -(((li++[st]).map oAV).length:Int)<=-1:=by simp;show F10 6762600 1 rfl
   have hx:((li++[st]).map oAV)[(-1+(((li++[st]).map oAV).length:Int)).toNat]?=some (oAV st):=by
    have:(-1+(((li++[st]).map oAV).length:Int)).toNat=li.length:=by simp;(show F10 0x8766730604103a 0x101110110101 rfl)
    rw[this];simp
   show AC (Av (Aq (Aq (EJ V.g X1.g X1.gL (B6 (Ak (aM 1 rfl (Ci (.own X1.last yL) ∅ ∅ le hx (Ak (Br (j:=0) ∅ ∅ rfl rfl (Bw (Ez (Ar ?_)))))))))))));rw[EI];by_cases e3:st.1 = "equal"
   .refine AP e3 (C9 (if_t ?_));rw[if_pos ⟨‹o.1 = "equal"›,e3⟩]at hK;have hll:li.length<=4900:=by simp at hl;(show Aj () ∅)
    show Ae (AS (IU (EJ V.g X1.g X1.gL (bk y (li.map oAV) (oAV st) rfl (by rw[X1.last,A2];rfl) yL (CB (by rw[Ai];show hll) (by rw[sizeLine_eq];decide)) (?_)))));have X2:=X1.put li;have yl:=X2.last;change SEQ _ _ _ _ _ _ _ _ (upd m _ _) _;generalize hm2:upd m _ _=m2;have s1:m2 (S "start")=some (oAV st):=by subst hm2;lk
    have V2:GV r o gA m2:=by obtain⟨v1,v2,v3,v4,v5,v6,v7⟩:=V;rw[<-hm2];show⟨by lk,by lk,by lk,by lk,by lk,by lk,by lk⟩
    show Ae (AJ (Bs (EJ V2.g X2.g X2.gL (aQ y _ rfl yl yL (Ac (A9 (Ac (Bw (Ac (Aq (Aa s1 (Ak (Br (j:=1) ∅ ∅ rfl rfl ?_)))))))))))));show Ac (Aa V2.i2 (Ac (Aq (Aa s1 (Ak (Br (j:=3) ∅ ∅ rfl rfl ?_))))));show Ac (Aa V2.j2 (Af ⟨sz rfl,Af (aQ _ _ rfl yl (by rw[Ai];show sz' (Aj () ∅)) ⟨nofun,nofun,nofun,Ao ?_⟩)⟩));have:=hK m2 _ V2 (X2.put (li++[("equal",st.2.1,o.2.2.1,st.2.2.2.1,o.2.2.2.2)]));rw[A2]at this;show this
   .exact AL e3 (if_f (row (λh=>e3 h.2) hp1 X1))
 .exact AL e (if_f (row (λh=>e h.1) hp X))
theorem RZ{h0:Hp}{ob:AO}{ys:List Addr}{o:Op}{KK:QX}(H:GH h0 L rA nA rows n)(X:GL h0 L gA it ob gs hp ys)(V:GV r o gA m)(hr:r<rows.length)(hr1:rows.length<=4000)(hgs:gs.length<=4000)(hne:AG rows n (r-1)=true->0<r->gs≠[])
  (hK:∀D g ah ys',((AG rows n (r-1)=true/\0<r/\gs=D++[g])\/((r=0\/AG rows n (r-1)=false)/\gs=D/\g=if 0<r then[("equal",o.2.1,o.2.1,o.2.2.2.1,o.2.2.2.1)] else[]))->GL h0 L gA it ob (D++[g]) ah ys'->KK .next m ah) :
  EX Md A E B (callEnvC fdGroups L 263) (gpB 1) m hp KK:=by
 have hL:Lst B hp (callEnvC fdGroups L 263).locals nA ((C8 rows n).map .bool):=.own (X.le _ _ H.nl) H.nL;have nl:((C8 rows n).map AV.bool).length=rows.length+1:=by rw[Ai,RV]
 have op:(r=0\/AG rows n (r-1)=false)->EXs Md A E B (callEnvC fdGroups L 263) (kids (gpB 1)) m hp KK:=λh1=>by
  have yl:ys.length<=4000:=by rw[X.ls.1];show hgs
  show Ae (AJ (Bs (Aa V.g (aQ gA _ rfl X.g X.gL (Ac (E2 (Av (Aa V.r (Ak (Dp (Ar ?_)))))))))));have fin:∀g:List Op,(g=if 0<r then[("equal",o.2.1,o.2.1,o.2.2.2.1,o.2.2.2.1)] else[])->∀a,hp a=none->a≠L->EVS Md A E B (callEnvC fdGroups L 263) [] m (hp.set a (.list (g.map oAV))) λvs ae=>∃xs v,.ref a::vs=[v]/\ae gA=some (.list xs)/\xs.length<=sizeLine/\IE m (SEQ Md A E B (callEnvC fdGroups L 263) [] KK) .none (ae.set gA (.list (xs++[v]))):=λg hg a ha haL=>
   Af (aQ _ _ rfl (Ab (Ag X.g ha) X.g) (by rw[Ai];show sz' (Aj () ∅)) ⟨nofun,nofun,nofun,Ao (hK gs g _ _ (.inr (aP h1 rfl hg)) (X.new ha haL g))⟩)
  by_cases h0 : 0<r
  .refine AP (BC.mpr ():(0:Int)<(r:Int)) ?_;show AM (Ac (A9 (Ac (Bw (Ac (Aa V.i1 (Ac (Aa V.i1 (Ac (Aa V.j1 (Ac (Aa V.j1 (Af ⟨sz rfl,Af ⟨sz rfl,λa ha haL=>?_⟩⟩)))))))))))));show fin [("equal",o.2.1,o.2.1,o.2.2.2.1,o.2.2.2.1)] (by show(if_pos h0).symm) a ha haL
  .refine AL (F10 0x730472704420 17 rfl h0:¬(0:Int)<(r:Int)) ?_;show AM (Af ⟨sz rfl,λa ha haL=>fin [] (by rw[if_neg h0]) a ha haL⟩)
 show AB (E0 (BJ (Aq (AK (c:=L+4) rfl (X.le _ _ H.c) (cl4 L) (At (Aa V.r (Ak (BP ?_))))))));by_cases h:r=0
 .refine Ci hL (F10 0x46731704760 257 rfl h) (Ce (by decide : -(2 ^ 63)<=(-1:Int)) (F10 0x67316041804760 272 rfl h)) (by lia) (x:=.bool false) ?_ (Ar (if_t (op (.inl h))));rw[nl,(⇑(F20 0x976048606803673103a 0x10001110101011011001 rfl h):((r:Int)-1+((rows.length+1:Nat):Int)).toNat=rows.length),GA (A5 _),K5 (A5 _)]
 .refine AH hL (F10 0x6731048047620 4353 rfl h) (BI (⇑(F20 0xfa002567318fa00258508740 273 rfl hr hr1):(r:Int)-1<=4000) ∅) (x:=.bool (AG rows n (r-1))) (by rw[(⇑(F10 0x786681a67313a 0x1000110100100011101011010101001011011001 rfl):((r:Int)-1).toNat=r-1),GA ⇑(F20 0x9759840670a 4368 rfl hr)]) (Ar ?_);cases h3:AG rows n (r-1) with
  | false=>show if_t (op (.inr h3))
  | true=>
   rcases Co gs with e | ⟨D,g,e⟩
   .exact absurd e (hne h3 (FP h))
   .rw [Cp]at e;clear hne;subst e;show if_f (Ao (hK D g hp ys (.inl (aP h3 (FP h) rfl)) X))
theorem Sa{h0:Hp}{ob:AO}{ys:List Addr}{KK:QX}(G:Gnd (KW W0) B)(hh:A.handled=none)(hu:A.units+64<cLine)(H:GH h0 L rA nA rows n)(X:GL h0 L gA it ob gs hp ys)(g1:m (S "r")=some (.int r))(g2:m (S "groups")=some (.ref gA))(hr:r<rows.length)(hr1:rows.length<=4000)(hgs:gs.length<=4000)(hgl:∀g∈gs,g.length<=4800)(hne:AG rows n (r-1)=true->0<r->gs≠[])
  (hK:∀m' ah ys',m' (S "groups")=some (.ref gA)->GL h0 L gA it ob (stepL rows (AG rows n) gs r) ah ys'->KK .next m' ah) :
  EXs Md A E B (callEnvC fdGroups L 263) [gpB 0,gpB 1,gpB 2,gpB 3] m hp KK:=by
 generalize ho:rows.getD r ("",0,0,0,0)=o;show Ae (D9 (Aq (AK (c:=L+1) rfl (X.le _ _ H.r) (cl1 L) (Aa g1 (AH (.own (X.le _ _ H.rl) H.rL) (As _) (BI (⇑(F20 0xfa0025738fa00258508740 273 rfl hr hr1):(r:Int)<=4000) ∅) (Ik hr ho) ?_)))));show Ca hh rfl rfl rfl (Au (Ap (Au (Ap (Au (Ap (Au (Ap (Au (Ap (Bd ?_)))))))))));generalize hm1:upd (upd (upd (upd (upd m _ _) _ _) _ _) _ _) _ _=m1;have V:GV r o gA m1:=by subst hm1;show⟨by lk,by lk,by lk,by lk,by lk,by lk,by lk⟩
 show Ae (RZ H X V hr hr1 hgs hne λD g hp1 ys1 c X1=>?_);have hg:g.length<=4801:=by
  clear X1 hK hne hgs X;rcases c with⟨_,_,rfl⟩ | ⟨_,_,rfl⟩
  .have:=hgl g (by simp);(show Aj () ∅)
  .split <;> simp
 show Ae (RY hu H X1 V hr hr1 (Aj () ∅) ho λm2 hp2 V2 X2=>?_);show Ae (RW G H X2 V2 hr hr1 ?_ λhp3 X3=>Ao (hK m2 hp3 ys1 V2.g ?_))
 .split <;> simp <;> (show Aj () ∅)
 .rw [Fw ho c];show X3
theorem KL (h:rs[i]?=some r):stLG rows near rs (i+1)=stepL rows near (stLG rows near rs i) r:=DD h
theorem Sb{k:Nat}(h1:gs.length<=k)(h2:∀g∈gs,g.length<=3*k):(stepL rows near gs r).length<=k+1/\(∀g∈stepL rows near gs r,g.length<=3*(k+1))/\stepL rows near gs r≠[]:=by
 unfold stepL;dsimp only;generalize e1:(if r=0\/near (r-1)=false then gs++[if 0<r then[("equal",(rows.getD r ("",0,0,0,0)).2.1,(rows.getD r ("",0,0,0,0)).2.1,(rows.getD r ("",0,0,0,0)).2.2.2.1,(rows.getD r ("",0,0,0,0)).2.2.2.1)] else[]] else gs)=gs1;have a1:gs1.length<=k+1:=by
  rw[<-e1];split
  .simp;omega
  .exact F20 0x680758750 17 rfl h1
 have a2:∀g∈gs1,g.length<=3*k+1:=λg hg=>by
  rw[<-e1]at hg;split at hg
  .rcases Aw.mp hg with h | h
   .have:=h2 g h;(show F20 0x6832075832750 17 rfl this)
   .rw [Ay]at h;clear hg;subst h;split <;> simp
  .have:=h2 g hg;show F20 0x6832075832750 17 rfl this
 have a3:(gs1.getLast?.getD []).length<=3*k+1:=by
  clear a1;rcases Co gs1 with rfl | ⟨D,g,e⟩
  .simp
  .rw [Cp]at e;subst e;rw[Dj,Ep];show a2 g (by simp)
 generalize gs1.getLast?.getD []=l at *;show⟨by rw[Ba,List.length_dropLast];simp;omega,λg hg=>?_,by simp⟩;rcases Aw.mp hg with h | h
 .have:=a2 g (List.dropLast_subset _ h);(show F20 0x680327568320750 17 rfl this)
 .rw [Ay]at h;clear hg;subst h;have b:∀x:Op,(if (rows.getD r ("",0,0,0,0)).1 = "equal" /\ (l.getLast?.getD ("",0,0,0,0)).1 = "equal" then l.dropLast++[x] else l++[rows.getD r ("",0,0,0,0)]).length<=3*k+2:=λx=>by split <;> simp <;> lia
  split
  .rw [Ba];have:=b ("equal",(l.getLast?.getD ("",0,0,0,0)).2.1,(rows.getD r ("",0,0,0,0)).2.2.1,(l.getLast?.getD ("",0,0,0,0)).2.2.2.1,(rows.getD r ("",0,0,0,0)).2.2.2.2);(show F20 0x680326705248320750 17 rfl this)
  .have:=b ("equal",(l.getLast?.getD ("",0,0,0,0)).2.1,(rows.getD r ("",0,0,0,0)).2.2.1,(l.getLast?.getD ("",0,0,0,0)).2.2.2.1,(rows.getD r ("",0,0,0,0)).2.2.2.2)
   (show F20 0x6803275248320750 17 rfl this)
theorem KM (i:Nat):(stLG rows near rs i).length<=i/\(∀g∈stLG rows near rs i,g.length<=3*i)/\(0<i->i<=rs.length->stLG rows near rs i≠[]):=by
 induction i with
 | zero=>show aP (by simp[stLG]) (λg hg=>by simp[stLG]at hg) λh=>absurd h (Nat.lt_irrefl _)
 | succ i ih=>
  cases h:rs[i]? with
  | none=>
   have hk:=Eo.mp h;have:stLG rows near rs (i+1)=stLG rows near rs i:=by unfold stLG;rw[BE (F20 0x680758750 17 rfl hk),BE hk]
   rw[this];show aP (F20 0x680758750 17 rfl ih.1) (λg hg=>by have:=ih.2.1 g hg;(show F20 0x6803275832750 17 rfl this)) λ_ x=>λx2=>F20 0x37680508750 17 rfl hk x
  | some r=>
   rw[KL h];have:=Sb (rows:=rows) (near:=near) (r:=r) ih.1 ih.2.1;show aP this.1 this.2.1 λ_ _=>this.2.2
theorem Sc (h:((List.range N).filter near)[i]?=some r):r<N/\(near (r-1)=true->0<r->0<i):=by
 have m:=BS h;rw[Cm,BM]at m;show⟨m.1,λhn hr=>?_⟩;show FP λe=>?_;subst e;have m2:r-1∈(List.range N).filter near:=by rw[Cm,BM];show⟨F20 0x9749840670a 4368 rfl m.1,hn⟩
 have sorted:((List.range N).filter near).Pairwise (· < ·):=Hm.filter _;clear hn m;cases hL:(List.range N).filter near with
 | nil=>rw[hL]at m2;cases m2
 | cons a t=>
  rw[hL]at h m2 sorted;have:a=r:=by simpa using h
  clear h;subst this;rcases Bg.mp m2 with x | x
  ·(show F10 0x3876080440671a 68989026320 rfl hr x)
  .have:=(Di.mp sorted).1 _ x;(show F10 0x37840670a 272 rfl this)
theorem Sd{KK:QX}(G:Gnd (KW W0) B)(hh:A.handled=none)(hu:A.units+64<cLine)(H:GH hp L rA nA rows n)(g2:m (S "groups")=some (.ref gA))(hg:hp gA=none)(gL:gA≠L)(hr1:rows.length<=1600)
  (hK:∀m' ah ys,m' (S "groups")=some (.ref gA)->ah gA=some (.list (ys.map .ref))->Ls ah ys (Bc rows (AG rows n) rows.length)->ys.Nodup->(∀y∈ys,hp y=none/\y≠L/\y≠gA)->Hp.Le hp ah->KK .next m' ah) :
  EX Md A E B (callEnvC fdGroups L 263) (gpS 3) m (hp.set gA (.list [])) KK:=by
 have le1:Hp.Le hp (hp.set gA (.list [])):=(Hp.Le.refl hp).set hg _;show DA hh (Fy (cl:=[(S "near",L+4)]) rfl ∅ ?_);show CX (Az G (Db W0) Da ∅ (λ_=>BK) ⟨rfl,Ac (AU (Az G (B8 W0) B7 ∅ (λ_=>AT) ⟨rfl,Ac (AK (c:=L+1) rfl (le1 _ _ H.r) (cl1 L) (Af (BB (.own (le1 _ _ H.rl) H.rL) (by rw[Ai];show sz' (Aj () ∅)) (Af (DB λr ob hr hrL ro=>?_)))))⟩))⟩);rw[Ai]at ro;have e0:((rows.length:Int)-0).toNat=rows.length:=by(show AW _)
 have le2:Hp.Le hp ((hp.set gA (.list [])).set r (.obj ob)):=le1.set (le1.none hr) _;show Goes.one (p:=AG rows n) (e:=λi=>.int (i:Int)) (EH ∅) (.range hh (Ad ..) hrL ro ∅ ∅ (As _) (F10 0x40000000000000000f5737640025750 17 rfl hr1)) (Aj () ∅) (λC ao ae i hi hC hCL le=>Ap ⟨.refl _,?_⟩) λD hD hDL=>?_
 .generalize hm2:upd ao _ _=mX;have hm:mX (S "r")=some (.int (0+(i:Nat))):=by subst hm2;lk
  rw[e0]at hi;have up:∀z o,z≠L->hp z=some o->ae z=some o:=λz o hz e=>le _ _ (Ab hz (le2 _ _ e));have nC:∀z o,hp z=some o->z≠C:=λz o e=>Ag (le2 _ _ e) hC;show Gm (BJ (Aq (AK (c:=L+4) rfl (up _ _ (cl4 L) H.c) (nC _ _ H.c) (Aa hm (AH (.own (up _ _ H.nL H.nl) (nC _ _ H.nl)) (As _) (BI (⇑(F20 0xfa00258304087840640025750 273 rfl hr1 hi):(0:Int)+(i:Nat)<=4000) ∅) (x:=.bool (AG rows n i)) (by rw[C5,AW,GA (By ())]) (Ar ?_))))));show aP rfl (.refl _) λ_=>Aa hm ⟨by rw[C5],.refl _⟩
 .have dg:D≠gA:=λe=>by rw[e,Al _ _ (Ag (Ad ..) hr),Ad]at hD;cases hD
  have rg:=Ag (Ad ..) hr;have D0:=le2.none hD;rw[e0];have eD:(List.range rows.length).filter (AG rows n)=(List.range rows.length).filter (AG rows n):=rfl;generalize hrs:(List.range rows.length).filter (AG rows n)=rs at eD ⊢;have fg:∀{i r},rs[i]?=some r->r<rows.length/\(AG rows n (r-1)=true->0<r->0<i):=λh=>by rw[<-hrs]at h;show Sc h
  have rl:rs.length<=1600:=by rw[<-hrs];show Aj (Fe _ _) (by rw[D5];show hr1)
  have le3:Hp.Le (hp.set D (.list (rs.map λ(i:Nat)=>.int (i:Int)))) (((hp.set gA (.list [])).set r (.obj ob)).set D (.list (rs.map λ(i:Nat)=>.int (i:Int)))):=λz o e=>by
   by_cases hz:z=D
   .clear D0 dg hDL hD;subst hz;rw[Ad]at e ⊢;show e
   .rw [Al _ _ hz]at e ⊢;show le2 _ _ e
  have H2:GH (hp.set D (.list (rs.map λ(i:Nat)=>.int (i:Int)))) L rA nA rows n:=by have l:=(Hp.Le.refl hp).set D0 (.list (rs.map λ(i:Nat)=>.int (i:Int)));show⟨l _ _ H.r,l _ _ H.rl,H.rL,l _ _ H.c,l _ _ H.nl,H.nL⟩
  have gA3:(((hp.set gA (.list [])).set r (.obj ob)).set D (.list (rs.map λ(i:Nat)=>.int (i:Int)))) gA=some (.list []):=Ab dg.symm (Ab rg (Ad ..));have hD2:(hp.set D (.list (rs.map λ(i:Nat)=>.int (i:Int)))) D=some (.list (rs.map λ(i:Nat)=>.int (i:Int))):=Ad ..;have g0:(hp.set D (.list (rs.map λ(i:Nat)=>AV.int (i:Int)))) gA=none:=Ab dg.symm hg;have fin:∀y,(hp.set D (.list (rs.map λ(i:Nat)=>AV.int (i:Int)))) y=none->hp y=none:=λy h=>by
   have:y≠D:=λe=>by rw[e,Ad]at h;cases h
   show CV this h
  have leD:Hp.Le hp (hp.set D (.list (rs.map λ(i:Nat)=>.int (i:Int)))):=(Hp.Le.refl hp).set D0 _;generalize hp.set D (.list (rs.map λ(i:Nat)=>.int (i:Int)))=h0 at *;show aT D _ rfl (.own (le3 _ _ hD2) hDL) λit hit hitL=>?_;have i0:=le3.none hit;show bD (λi ao ae=>ao (S "groups")=some (.ref gA)/\∃ob ys,GL h0 L gA it ob (stLG rows (AG rows n) rs i) ae ys) (λob=>⟨g2,.obj ob,[],⟨λz o e=>Ab (Ag e i0) (le3 _ _ e),Ab (Ag gA3 hit) gA3,⟨rfl,λ_ _ _ h=>nomatch h⟩,.nil,(λ_ h=>nomatch h),g0,gL,Ag gA3 hit,i0,Ad ..⟩⟩) (λi ao ae ob y=>⟨y.1,y.2.elim λ_ z=>z.elim λys z=>⟨.obj ob,ys,z.mv _⟩⟩) (λi ao ae y=>y.2.elim λ_ z=>z.elim λys z=>.own (z.le _ _ hD2) hDL) (λi x ao ae ob hx y hit2=>?_) λao ae y=>?_
  .obtain ⟨y1,ob2,ys,y2⟩:=y;rw[AZ]at hx;show aK (C7.mp hx) λr hr q82=>?_;clear hx;subst q82;have ok:=KM (rows:=rows) (near:=AG rows n) (rs:=rs) i;have hi:=(BF.mp hr).1;show Ap ?_;show Sa G hh hu H2 y2 (m:=upd ao (S "r") (.int r)) (by lk) (by lk) (fg hr).1 (Aj () ∅) (F30 0xfa00258579409850640025750 4369 rfl rl ok.1 hi) (λg hg=>by have:=ok.2.1 g hg;show F30 0x12c0035958329507840640025750 4403 rfl rl hi this) (λh1 h2=>ok.2.2 ((fg hr).2 h1 h2) (By ())) λm' ah ys' a1 a2=>?_;have e:=Du (y2.hit.symm.trans hit2);rw[<-KL hr]at a2;show⟨⟨a1,ob2,ys',a2⟩,e▸a2.hit⟩
  .obtain ⟨y1,ob2,ys,y2⟩:=y;have e:stLG rows (AG rows n) rs (rs.map λ(i:Nat)=>AV.int (i:Int)).length=Bc rows (AG rows n) rows.length:=by delta stLG Bc;rw[Ai,Cz,hrs]
   rw[e]at y2;show hK _ _ ys y1 (by rw[A4 _ y2.gi];show y2.g) (y2.ls.del λh=>(y2.fr it h).2.2.2 rfl) y2.nd (λy hy=>⟨fin y (y2.fr y hy).1,(y2.fr y hy).2.1,(y2.fr y hy).2.2.1⟩) λz o e=>by rw[A4 _ (Ag (leD _ _ e) i0)];show y2.le _ _ (leD _ _ e)
theorem Se:bootBuiltins (PySem.Str.ofString "abs")=some (.builtin "abs"):=by boot_fast
theorem Sf (W0:World):nsIn (KW W0) mainGlobals (S "abs")=some none:=by kernel_rfl
theorem KN:bootBuiltins (PySem.Str.ofString "divmod")=some (.builtin "divmod"):=by boot_fast
theorem KO (W0:World):nsIn (KW W0) mainGlobals (S "divmod")=some none:=by kernel_rfl
theorem Sg:∀xs:List Int,RDs B hp L (xs.map .int) (xs.map .int):=by
 intro r_;induction r_ with
 | nil=>show .nil
 | cons x xs ih=>show .cons (.int x) (ih)
theorem Sh (xs:List Int):SeqAt.shaped (.list (xs.map .int))=true:=by
 have h1:∀xs:List Int,PyData.canLayAll0 (xs.map .int)=true:=by
  intro xs;induction xs with
  | nil=>rfl
  | cons x xs ih=>simp only[A1,PyData.canLayAll0,ih,Dk];rfl
 have h2:∀xs:List Int,PyData.depthAll (xs.map .int)<=2:=by
  intro xs;induction xs with
  | nil=>decide
  | cons x xs ih=>simp only[A1,PyData.depthAll,PyData.depth];assumption
 unfold SeqAt.shaped;rw[DF,decide_eq_true_iff];show⟨?_,?_⟩
 .simp only[PyData.canLay0];show h1 xs
 .have:=h2 xs;simp only[PyData.depth];(show CB () ∅)
theorem Si{KK:QX}(G:Gnd (KW W0) B)(hh:A.handled=none)(hr:hp (L+1)=some (.cell (some (.ref rA))))(hrl:hp rA=some (.list (rows.map oAV)))(hrL:rA≠L)(hc:hp (L+3)=some (.cell none))(hr1:rows.length<=1600)
  (hK:∀cA ah,hp cA=none->cA≠L->ah cA=some (.list ((CU rows).map λ(i:Nat)=>.int (i:Int)))->ah (L+3)=some (.cell (some (.ref cA)))->(∀z o,z≠L+3->hp z=some o->ah z=some o)->KK .next m ah) :
  EX Md A E B (callEnvC fdGroups L 263) (gpS 0) m hp KK:=by
 show Fp (c:=L+3) rfl (cl3 L) (Fy (cl:=[(S "rows",L+1)]) rfl ∅ ?_);show CX (Az G (Db W0) Da ∅ (λ_=>BK) ⟨rfl,Ac (AU (Az G (B8 W0) B7 ∅ (λ_=>AT) ⟨rfl,Ac (AK (c:=L+1) rfl hr (cl1 L) (Af (BB (.own hrl hrL) (by rw[Ai];show sz' (Aj () ∅)) (Af (DB λr ob hr0 hr0L ro=>?_)))))⟩))⟩);rw[Ai]at ro
 have le2:Hp.Le hp (hp.set r (.obj ob)):=(Hp.Le.refl hp).set hr0 _;show Goes.one (p:=Ga rows) (e:=λi=>.int (i:Int)) (EH ∅) (.range hh (Ad ..) hr0L ro ∅ ∅ (As _) (F10 0x40000000000000000f5737640025750 17 rfl hr1)) (Aj () ∅) (λC ao ae i hi hC hCL le=>Ap ⟨.refl _,?_⟩) λD hD hDL=>?_
 .generalize hm2:upd ao _ _=mX;have hm:mX (S "r")=some (.int (0+(i:Nat))):=by subst hm2;lk
  have up:∀z o,z≠L->hp z=some o->ae z=some o:=λz o hz e=>le _ _ (Ab hz (le2 _ _ e));have nC:∀z o,hp z=some o->z≠C:=λz o e=>Ag (le2 _ _ e) hC;show Gm (Av (Aq (Aq (AK (c:=L+1) rfl (up _ _ (cl1 L) hr) (nC _ _ hr) (Aa hm (AH (.own (up _ _ hrL hrl) (nC _ _ hrl)) (As _) (BI (⇑(F20 0xfa00258304087840640025750 273 rfl hr1 hi):(0:Int)+(i:Nat)<=4000) ∅) (by rw[C5];show Ik hi rfl) (Ak (Br (j:=0) ∅ ∅ rfl rfl (Bw (IM (Ar ?_)))))))))));rw[bne,EI];show aP (?_) (.refl _) λ_=>Aa hm ⟨by rw[C5],.refl _⟩;unfold Ga;by_cases e:(rows.getD i ("",0,0,0,0)).1 = "equal"
  .rw [decide_eq_true e,decide_eq_false (not_not_intro e)];rfl
  .rw [decide_eq_false e,decide_eq_true e];rfl
 .have D0:=le2.none hD;have c3:=le2 _ _ hc;have dc:=Ah (Ag c3 hD);show⟨none,Ab dc.symm c3,hK D _ D0 hDL (Ab dc (Ad ..)) (Ad ..) λz o hz e=>Ab hz ((le2.set D0 _) _ _ e)⟩
theorem Sj{KK:QX}(G:Gnd (KW W0) B)(hh:A.handled=none)(hu:A.units+64<cLine)(hr:hp (L+1)=some (.cell (some (.ref rA))))(hrl:hp rA=some (.list (rows.map oAV)))(hrL:rA≠L)(hn:hp (L+2)=some (.cell (some (.int n))))(hc:hp (L+3)=some (.cell (some (.ref cA))))(hcl:hp cA=some (.list ((CU rows).map λ(i:Nat)=>.int (i:Int))))(hcL:cA≠L)(h4:hp (L+4)=some (.cell none))(hr1:rows.length<=1600)
  (hK:∀nA ah,hp nA=none->nA≠L->ah nA=some (.list ((C8 rows n).map .bool))->ah (L+4)=some (.cell (some (.ref nA)))->(∀z o,z≠L+4->hp z=some o->ah z=some o)->KK .next m ah) :
  EX Md A E B (callEnvC fdGroups L 263) (gpS 1) m hp KK:=by
 show Fp (c:=L+4) rfl (cl4 L) (At (R6 (e:=λi=>.bool (DX rows n i)) (cl:=[(S "n",L+2),(S "changes",L+3)]) hh ⟨λ_ _=>rfl,λ_=>rfl⟩ rfl ∅ (λ_ _=>rfl) ?_));show CX (Az G (Db W0) Da ∅ (λ_=>BK) ⟨rfl,Ac (AU (Az G (B8 W0) B7 ∅ (λ_=>AT) ⟨rfl,Ac (AK (c:=L+1) rfl hr (cl1 L) (Af (BB (.own hrl hrL) (by rw[Ai];show sz' (Aj () ∅)) (Af (DB λr ob hr0 hr0L ro=>?_)))))⟩))⟩);rw[Ai]at ro
 have le2:Hp.Le hp (hp.set r (.obj ob)):=(Hp.Le.refl hp).set hr0 _;show⟨r,ob,_,rfl,Ad ..,hr0L,ro,As _,F10 0x1388035738640025750 17 rfl hr1,λC c ao ae i hi hC hCL hc0 hcL2 hcC le hcell=>?_,λD hD hDL=>?_⟩
 .have up:∀z o,z≠L->hp z=some o->ae z=some o:=λz o hz e=>le _ _ (Ab hz (le2 _ _ e));have nC:∀z o,hp z=some o->z≠C:=λz o e=>Ag (le2 _ _ e) hC;have mc:∀v∈(CU rows).map (λ(i:Nat)=>AV.int (i:Int)),∃c:Nat,c<rows.length/\v = .int (c:Int):=λv hv=>by show aK (Bk.mp hv) λc h zz1=>?_;rw[<-zz1];unfold CU at h;rw[Cm,BM]at h;show aM c h.1 rfl
  show H4 (G9 (p:=λv=>match v with | .int c=>decide (iabs ((i:Int)-c)<=n) | _=>false) (e:=λv=>v) (cl:=[(S "r",c),(S "n",L+2)]) hh rfl ∅ ∅ (AK (c:=L+3) rfl (up _ _ (cl3 L) hc) (nC _ _ hc) (bB cA _ rfl (.own (up _ _ hcL hcl) (nC _ _ hcl)) (?_) (λC2 mX hpX v hv hC2 hC2C le3=>?_) λD hD hDC=>?_)))
  .rw [Ai];show Aj (Fe _ _) (by rw[D5];(show Aj () ∅))
  .refine aK (mc v hv) λk hk zz1=>?_;rw[zz1];have up3:∀z o,z≠C->ae z=some o->hpX z=some o:=λz o hz e=>le3 _ _ (Ab hz e);have nC2:∀z o,ae z=some o->z≠C2:=λz o e=>Ag e hC2;have n2:=up _ _ (cl2 L) hn;show Ap ⟨.refl _,Gm (Av (AU (Az G (Sf W0) Se ∅ (λ_=>AT) ⟨rfl,Ac (At (AK (c:=c) rfl (up3 _ _ hcC hcell) (nC2 _ _ hcell) (Aa (v:=.int (k:Int)) (by rfl) (BP (Af (MC ?_))))))⟩)))⟩;show AK (c:=L+2) rfl (up3 _ _ (nC _ _ hn) n2) (nC2 _ _ n2) (MA (Ar (aP rfl (.refl _) λ_=>Aa (v:=.int (k:Int)) (by rfl) ⟨rfl,.refl _⟩)))
  .have el:((CU rows).map (λ(i:Nat)=>AV.int (i:Int))).filter (λv=>match v with | .int c=>decide (iabs ((i:Int)-c)<=n) | _=>false)=(((CU rows).filter λc:Nat=>decide (iabs ((i:Int)-(c:Int))<=n)).map λ(c:Nat)=>(c:Int)).map .int:=by rw[Hs,Cy];rfl
   rw[List.map_id',el];show AM (Af ⟨sz rfl,λe he heC=>?_⟩);show Gg (.list (.own (Ab (Ag (Ad ..) he) (Ad ..)) hDC) (Sg _)) (.list (.own (Ad ..) heC) .nil) (Sh _) rfl hu ⟨?_,?_⟩
   .unfold DX;cases(CU rows).filter λc:Nat=>decide (iabs ((i:Int)-(c:Int))<=n) with
    | nil=>rfl
    | cons a t=>rfl
   .have l:=(Hp.Le.refl ae).set hD (.list ((((CU rows).filter λc:Nat=>decide (iabs ((i:Int)-(c:Int))<=n)).map λ(c:Nat)=>(c:Int)).map .int));show l.set (l.none he) _
 .rw[(by(show AW _):((rows.length:Int)).toNat=rows.length)];show AM (Ac (M6 (Af ⟨sz rfl,λf hf hfL=>?_⟩)));show IT (Ab (Ag (Ad ..) hf) (Ad ..)) hDL (Ad ..) hfL (by rw[Ai,D5];show sz' (by simp;(show Aj () ∅))) λc hc hcL=>?_;have l3:=(le2.set (le2.none hD) (.list ((List.range rows.length).map λi=>AV.bool (DX rows n i))));have l4:=l3.set (l3.none hf) (.list [.bool false]);have c4:=l4 _ _ h4;have dc:=Ah (Ag c4 hc);show⟨none,Ab dc.symm c4,hK c _ (l4.none hc) hcL (Ab dc ?_) (Ad ..) λz o hz e=>Ab hz ((l4.set (l4.none hc) _) _ _ e)⟩;rw[Ad];rw[A2,Cy];rfl
theorem Sk (G:Gnd (KW W0) B)(hh:A.handled=none)(hu:A.units+70<cLine)(aB:A.depth+2<recursionLimit)(hr:hp rA=some (.list (rows.map oAV)))(hrL:rA≠aa.locals)(hr1:rows.length<=1600)
  (h:∀ah gA ys,hp gA=none->gA≠aa.locals->ah gA=some (.list (ys.map .ref))->Ls ah ys (Bc rows (AG rows n) rows.length)->ys.Nodup->(∀y∈ys,hp y=none/\y≠aa.locals/\y≠gA)->(∀z o,z≠aa.locals->hp z=some o->ah z=some o)->ah aa.locals=none->Q (.ref gA) ah) :
  ↥CL (.ref 263) m [.ref rA,.int n] hp Q:=by
 show CW (Jr (bs:=[(S "rows",.ref rA),(S "n",.int n)]) (body:=AE (topS PW 9)) G (JA W0) ∅ rfl (ul0 ()) rfl (λs vs hv=>?_) (λL x hx=>?_) (λL hL hLe hcs=>?_) (λL n c hm=>?_))
 .refine aN (C3 hv) λv u zz1 h1 h2=>?_;rw[zz1];show aO ([(S "rows",v),(S "n",u)]) rfl rfl (by simp only[A1,CP,VRs];show aT _ _ rfl h1 (aT _ _ rfl h2 rfl))
 .simp only[Bg,CQ,or_false]at hx;rcases hx with rfl | rfl <;> show .inr ⟨rfl,rfl⟩
 .have hcl:cellsFrom (L+1) fdGroups.scope.names []=[(S "near",L+4),(S "changes",L+3),(S "n",L+2),(S "rows",L+1)]:=rfl;rw[hcl]at hcs ⊢;have f1:=hcs (S "rows") (L+1) (by simp);have f2:=hcs (S "n") (L+2) (by simp);have f3:=hcs (S "changes") (L+3) (by simp);have f4:=hcs (S "near") (L+4) (by simp);generalize hhp1:Bz hp[m]! _ _=hp1;have c1:hp1 (L+1)=some (.cell (some (.ref rA))):=by rw[<-hhp1];simp[Bz,List.find?];rfl
  have c2:hp1 (L+2)=some (.cell (some (.int n))):=by rw[<-hhp1];simp[Bz,List.find?];rfl
  have c3:hp1 (L+3)=some (.cell none):=by rw[<-hhp1];simp[Bz,List.find?];rfl
  have c4:hp1 (L+4)=some (.cell none):=by rw[<-hhp1];simp[Bz,List.find?];rfl
  have hle:Hp.Le hp[m]! hp1:=λz o e=>by
   have k:∀c,hp c=none->c≠aa.locals->c≠z:=λc a b e'=>by subst e';rw[Al _ _ b,a]at e;cases e
   rw[<-hhp1];simp only[Bz,List.find?,decide_eq_false (k _ f4.1 f4.2.1),decide_eq_false (k _ f3.1 f3.2.1),decide_eq_false (k _ f2.1 f2.2.1),decide_eq_false (k _ f1.1 f1.2.1)];show e
  have hu':(A.deeper (callEnvC fdGroups L 263)).units+64<cLine:=by change A.units+3+64<cLine;(show F20 0x840534700484657040 17 rfl hu)
  have r1:=hle _ _ (Ab hrL hr);have rL:=Ag hr hL;have b4:∀{z o},hp[m]! z=some o->z≠L+4:=λ{z o} e e'=>by rw[e',Al _ _ f4.2.1,f4.1]at e;cases e
  have b3:∀{z o},hp[m]! z=some o->z≠L+3:=λ{z o} e e'=>by rw[e',Al _ _ f3.2.1,f3.1]at e;cases e
  change EXs _ _ _ _ _ [gpS 0,gpS 1,gpS 2,gpS 3,gpS 4] _ _ _;show Ae (Si G hh c1 r1 rL c3 hr1 λcA hp2 p1 p2 p3 p4 p5=>?_);have d1:=p5 _ _ (by simp) c1;have r2:=p5 _ _ (b3 (Ab hrL hr)) r1;show Ae (Sj G hh hu' d1 r2 rL (p5 _ _ (by simp) c2) p4 p3 p2 (p5 _ _ (by simp) c4) hr1 λnA hp3 q1 q2 q3 q4 q5=>?_);have l3:Hp.Le hp[m]! hp3:=λz o e=>q5 z o (b4 e) (p5 z o (b3 e) (hle _ _ e));show Ae (AS (AM (Af ⟨sz rfl,λgA g1 g2=>?_⟩)));show Ae (Sd G hh hu' ⟨(q5 _ _ (by simp) d1),(q5 _ _ (b4 (Ab hrL hr)) r2),rL,q4,q3,q2⟩ (by lk) g1 g2 hr1 λm' hp4 ys a1 a2 a3 a4 a5 a6=>?_);have l4:=l3.trans a6;have fr:∀{z},hp3 z=none->hp z=none/\z≠aa.locals:=λ{z} hz=>by
   have h0:=l3.none hz;have hne:z≠aa.locals:=λe=>by rw[e,Ad]at h0;cases h0
   show⟨CV hne h0,hne⟩
  show Ae (D8 (Aa a1 ?_));show Dr (l4 _ _ (Ad ..)) (h _ gA ys (fr g1).1 (fr g1).2 ?_ ⟨a3.1,λi y g hy hg=>?_⟩ a4 (λy hy=>⟨(fr (a5 y hy).1).1,(fr (a5 y hy).1).2,(a5 y hy).2.2⟩) (λz o hz e=>?_) (by simp[Hp.cut]))
  .rw [AN (fr g1).2 (g2:gA≠L)];show a2
  .have hy':=a5 y (BS hy);rw[AN (fr hy'.1).2 hy'.2.1];show a3.2 i y g hy hg
  .rw [AN hz (Ag e hL)];show l4 _ _ (Ab hz e)
 .rw [show cellsFrom (L+1) fdGroups.scope.names []=[(S "near",L+4),(S "changes",L+3),(S "n",L+2),(S "rows",L+1)] from rfl]at hm ⊢;simp only[Bg,F4,CQ,or_false]at hm;rcases hm with⟨rfl,rfl⟩ | ⟨rfl,rfl⟩ | ⟨rfl,rfl⟩ | ⟨rfl,rfl⟩ <;> rfl
theorem Sl{op:Operator}{pos pos'}{c:Addr}{Q:QX}(hc:aa.cells.lookup x=some c)(hcL:c≠aa.locals)(hv:hp c=some (.cell (some v)))
  (h:↥EV value m hp λz ah=>↥OP2 (inplaceOp op) m v z ah λr hp''=>(∃v₀,hp'' c=some (.cell v₀))/\Q .next m (hp''.set c (.cell (some r))))
  (hf:autoParam (aa.scope.kind = .function) rB)(hl:autoParam (aa.kindOf x=some .cell) rB):↥EX (.AugAssign (.Name x pos') op value pos) m hp Q:=λs r=>by
 show aK (r.cell hv hcL) λu hu hvu=>?_;show wpAny_AugAssign_Name (wpAny_loadName_cell hf hl hc hu (h.use r λW0 ar b ak au aq hw h₁=>?_));show useV (h₁ ar u W0 au (hvu.mono aq) hw) λz ax av ae ay aw hz q=>?_;show HF ay hz hc q.1.choose_spec hcL (λs' r' le=>mkX (af:=.next) r' ((aq.trans aw).trans le) rfl q.2) hf hl
theorem Sm (hl:Lst B hp aa.locals a (xs.map .int))(hu:A.units+4<cLine)(h:Q (.bool (xs.contains k)) hp):↥OP2 (compareOp .In) m (.int k) (.ref a) hp Q:=λs u v r hu' hv=>by
 have rl:RD B hp aa.locals (.ref a) (.list (xs.map .int)):=.list hl (by
  have:∀xs:List Int,RDs B hp aa.locals (xs.map .int) (xs.map .int):=λxs=>by
   induction xs with
   | nil=>show .nil
   | cons x xs ih=>show .cons (.int x) ih
  show this xs)
 obtain⟨as,ra⟩:=rl.reads r hv;obtain⟨bs,rb⟩:=(RD.int (B:=B) (hp:=hp) (L:=aa.locals) k).reads r hu';have h1:∀xs:List Int,PyData.canLayAll0 (xs.map .int)=true:=by
  intro xs;induction xs with
  | nil=>rfl
  | cons x xs ih=>simp only[A1,PyData.canLayAll0,ih,Dk];rfl
 show SeqAt.in_list_reads ra rb (h1 xs) rfl ?_ ⟨_,hp,r,.refl _,VR_bool,?_⟩
 .have e:(PyData.int k).depth<=2:=by simp[PyData.depth]
  (show F40 0x896700424a50a9508447040 4369 rfl hu (FS _ _) e)
 .have e:∀xs:List Int,(List.map PyData.int xs).any (λy=>y.eqv (PyData.int k))=xs.contains k:=λxs=>by
   induction xs with
   | nil=>rfl
   | cons x xs ih=>
    rw[A1,List.any_cons,List.contains_cons,ih];congr 1;rw[PyData.eqv,Bool.beq_comm]
  rw[e];show h
theorem Sn (a:Int):Builtin.divisionGoesByPylong a 12=false:=PyProof.noPylong_of_log2 (by decide +kernel)
theorem KQ{K:Frag}{f:Addr}{bs:List (An×AV)}(G:Gnd K B)(ho:K.lookup f=some ⟨.type "function",none,.func fd,#[]⟩)(hcd:codeIn K fd.code fd.qualname=true)
  (hbody:fd.body = .stmts body)(aB:A.depth<recursionLimit)(hbind:H0 B fd avs bs)
  (hloc:bs.all (λx=>fd.scope.names.lookup x.1 == some .local)=true)(hcell:∀x∈fd.scope.names,x.2≠.cell)
  (r:Rel B hp[m]! s)(hv:VRs s.heap avs vs)(le:ImmLe s₀.heap s.heap)
  (hco:fd.scope.isCoroutine=false)(hgen:fd.scope.isGenerator=true)(hk:fd.scope.kind = .function) :
  wpAny Md A (call (.ref f) vs) (λv s'=>∃L I go g,v = .ref I/\FG B aa m hp bs f fd body s₀ s' L I go g) E s:=
 Nc G ho hcd hbody aB hbind hloc hcell r hv (λL I go s' hL hLe hI hIe hIL hgo rel hgl hsz hfr le'=>
  bQ L I go s.gens.size rfl ⟨hL,hLe,hI,hIe,hIL,hgo,by rw[A8 _ _ _ hLe,A8 _ _ _ hIe];show rel,r.bare.2.trans hgl,r.bare.2.size,hsz,hfr,le.trans le'⟩) hco hgen hk
theorem So{K:Frag}{apos pos}{pl:Sem Bool}{f x:Addr}{bs:List (An×AV)}(G:Gnd K B)(P:Cls K C)(hf:findIn K (.ref C) name=some (some (.ref f)))(ht:typeIn K (.ref f)=some (.type "function"))(hk:keepIn K (.ref f)=true)
  (aB:A.depth<recursionLimit)(ho:K.lookup f=some ⟨.type "function",none,.func fd,#[]⟩)(hcd:codeIn K fd.code fd.qualname=true)(hbody:fd.body = .stmts body)(hcell:∀x∈fd.scope.names,x.2≠.cell)
  (I:Ins hp aa.locals x dx C ma)(hno:ma name=none)(h1:↥EV o m hp λu ak=>u = .ref x/\ak=hp)(h2:↥EV e m hp λu ae=>u=v/\ae=hp)
  (hbind:H0 B fd [.ref x,v] bs)(hloc:bs.all (λx=>fd.scope.names.lookup x.1 == some .local)=true)
  (hc:autoParam (eval (.Call (.Attribute o name apos) [e] [] pos) aa=(do
   let ov <-eval o aa
   standAt apos.atName
   let (f,first) <-holding [ov] (getMethod ov name pl)
   callWith pos f first (backTo pos (starEach [e] aa)) [])) rB)
  (he:autoParam (starEach [e] aa=(false,eval e aa)::starEach [] aa) rB)(hplain:autoParam ((backTo pos (starEach [] aa)).any (·.1)=false) rB)
  (hco:autoParam (fd.scope.isCoroutine=false) rB)(hgen:autoParam (fd.scope.isGenerator=true) rB)(hkd:autoParam (fd.scope.kind = .function) rB) :
  ↥EVG (.Call (.Attribute o name apos) [e] [] pos) m hp bs f fd body:=λs r=>by
 show MethodCall_ (pl:=pl) (h1.use r λu ar l ak au aq hu q=>?_) hc;clear r h1;obtain⟨rfl,rfl⟩:=q;subst hu;show br (au.ins I) λod mv IA hn hm hw hl=>?_;show method_fn (G.X.keeps au.keep) IA P.ga P.gk hf ht (by unfold shadowIn;simp[hl,hm.2 name hno]) ?_;show callWith_K (K:=K) G.X hk (BY (Ac (Q:=λvs hpX=>vs=[v]/\hpX=ak) (h2.mono λu ae q=>Af ⟨by rw[q.1],q.2⟩) he pos ar au) λvs ax avs ae ay aw hv q=>⟨G.X.keeps ay.keep,?_⟩) he hplain;clear h2 I au;obtain⟨rfl,rfl⟩:=q;show KQ G ho hcd hbody aB hbind hloc hcell ay (by simp only[VRs]at hv ⊢;show(aT _ _ rfl VR_ref hv)) (aq.trans aw) hco hgen hkd
theorem Sp{K:Frag}{apos pos}{pl:Sem Bool}{f x:Addr}{bs:List (An×AV)}(G:Gnd K B)(P:Cls K C)(hf:findIn K (.ref C) name=some (some (.ref f)))(ht:typeIn K (.ref f)=some (.type "function"))(hk:keepIn K (.ref f)=true)
  (aB:A.depth<recursionLimit)(ho:K.lookup f=some ⟨.type "function",none,.func fd,#[]⟩)(hcd:codeIn K fd.code fd.qualname=true)(hbody:fd.body = .stmts body)(hcell:∀x∈fd.scope.names,x.2≠.cell)
  (I:Ins hp aa.locals x dx C ma)(hno:ma name=none)(h1:↥EV o m hp λu ak=>u = .ref x/\ak=hp)
  (hbind:H0 B fd [.ref x] bs)(hloc:bs.all (λx=>fd.scope.names.lookup x.1 == some .local)=true)
  (hc:autoParam (eval (.Call (.Attribute o name apos) [] [] pos) aa=(do
   let ov <-eval o aa
   standAt apos.atName
   let (f,first) <-holding [ov] (getMethod ov name pl)
   callWith pos f first (backTo pos (starEach [] aa)) [])) rB)
  (hco:autoParam (fd.scope.isCoroutine=false) rB)(hgen:autoParam (fd.scope.isGenerator=true) rB)(hkd:autoParam (fd.scope.kind = .function) rB) :
  ↥EVG (.Call (.Attribute o name apos) [] [] pos) m hp bs f fd body:=λs r=>by
 show MethodCall_ (pl:=pl) (h1.use r λu ar l ak au aq hu q=>?_) hc;clear r h1;obtain⟨rfl,rfl⟩:=q;subst hu;show br (au.ins I) λod mv IA hn hm hw hl=>?_;show method_fn (G.X.keeps au.keep) IA P.ga P.gk hf ht (by unfold shadowIn;simp[hl,hm.2 name hno]) ?_;show callWith_K0 (K:=K) (G.X.keeps au.keep) hk ?_;show KQ G ho hcd hbody aB hbind hloc hcell au (VRs.one VR_ref) aq hco hgen hkd
theorem Sq {t b:Expr}{pos}{c:Bool}{f:Addr}{bs:List (An×AV)}(h:↥TST t m hp λc' ah=>c'=c/\ah=hp)
  (h1:c=true->↥EVG b m hp bs f fd body)(h2:c=false->↥EVG o m hp bs f fd body):↥EVG (.IfExp t b o pos) m hp bs f fd body:=λs r=>by
 show wpAny_IfExp (useT (h s r) λc' s' ah r' le q=>?_);clear r h;obtain⟨rfl,rfl⟩:=q;have up:∀{v:Value}{s'':Shared},(∃L I go g,v = .ref I/\FG B aa m ah bs f fd body s' s'' L I go g)->∃L I go g,v = .ref I/\FG B aa m ah bs f fd body s s'' L I go g:=λq35=>q35.elim λL q36=>q36.elim λI q37=>q37.elim λgo q38=>q38.elim λg q39=>q39.elim λe F=>bQ L I go g e ({ F with le:=le.trans F.le });cases c' with
 | false=>show wpAny_mono (h2 rfl s' r') (λ_ _=>up) λ_ _ x=>x
 | true=>show wpAny_mono (h1 rfl s' r') (λ_ _=>up) λ_ _ x=>x
theorem Sr{K:Frag}{rr:Expr}{p5 p6:Pos}{f:Addr}{bs:List (An×AV)}{KK:QX}(G:Gnd K B)(hh:A.handled=none)(aB:A.depth<recursionLimit)
  (he:↥EVG e m hp bs f fd body)
  (hfun:∀B' ah m',Gnd K B'->EV Md A E B' aa aE m' ah λv hp''=>v = .ty "list" /\ hp''=ah)
  (hbody:∀(gn:Array GenState) (g:Nat) (h0:Heap) (L I S:Addr) (go:Obj),hp L=none->L≠aa.locals->hp I=none->I≠aa.locals->I≠L->hp S=none->S≠aa.locals->S≠L->S≠I ->
   GS PW W0 A.in1.in1.in1 (BG B gn g .running) (callEnv fd L f) h0 (lcon (Hp.set (λ_=>none) I (.obj go)) S L) (IH A E B aa rr (upd m x (.ref I)) KK S) n (.func body (callEnv fd L f)) [] Kf (Hf (callEnv fd L f)) body (locOf bs) (((hp[upd m x (.ref I)]!).set I (.obj go)).set S (.list [])))
  (hs:autoParam (swapsWith e (some (.Name x p1)) p2.line aa=pure false) rB)
  (hc0:autoParam (eval (.Call aE [.Name x p3] [] p4) aa=(do callWith p4 (<-eval aE aa) [] (backTo p4 (starEach [.Name x p3] aa)) (backToKw p4 (keywordEach [] aa)))) rB)
  (he0:autoParam (starEach [.Name x p3] aa=[(false,eval (.Name x p3) aa)]) rB)
  (hl:autoParam (aa.kindOf x=some .local) rB)(hk:autoParam ((aa.scope.kind == .class || (aa.scope.kind == .module && aa.locals != aa.globals))=false) rB)(hfk:autoParam (aa.scope.kind = .function) rB)
  (hm:behindInMarks .Eq rr=false:=by with_unfolding_all rfl)(hd:(x == ("__debug__" : An))=false:=by decide) :
  ↥EXs [.Assign [.Name x p1] e p2,.Return (some (.Compare (.Call aE [.Name x p3] [] p4) [.Eq] [rr] p5)) p6] m hp KK:=λs r=>by
 show wpAny_execs_cons (wpAny_Assign_Name (wpAny_mono (he s r) (λv ar y=>?_) λ_ _ y=>y) hs);show bK y λL I go g zz1 F=>?_;clear y;subst zz1;show Ey F.rel VR_ref (λax ay aw=>?_) hl hk;show wpAny_execs_cons (wpAny_Return_some (wpAny_Compare1 (Call_ ((hfun _ _ _ (⟨G.X,G.top,G.lim⟩:Gnd K { B with gens:=ar.gens })).use ay λu sX fv hpX rX leX hu q=>?_) hc0) hm));obtain⟨rfl,rfl⟩:=q;subst hu;show EP (args_cons ((Aa (v:=.ref I) (Q:=λv ah=>v = .ref I/\ah=(hp.set I (.obj go)).set L (.ns (locOf bs))) (by simp[upd]) ⟨rfl,rfl⟩ hfk hl hd).use rX λu sY v hpY rY leY hu q=>args_nil ?_) he0) he0 rfl;obtain⟨rfl,rfl⟩:=q;subst hu;rw[A8 _ _ _ F.Le,A8 _ _ _ F.Ie]at rY;show Nd (n:=n) (genv:=callEnv fd L f) (h0:=s.heap) (B:=B) (gn:=ar.gens) (F:=IH A E B aa rr (upd m x (.ref I)) KK) hh aB G.lim rY (((F.le.trans aw).trans leX).trans leY) (Ad ..) F.IL F.isg F.fr F.gs (λS hS hSL=>?_) λS sK ah hS hSL rK leK x=>?_
 .have hSI:S≠I:=λe=>by rw[e,Ad]at hS;cases hS
  rw[Al _ _ hSI]at hS;have hSe:S≠aa.locals:=λe=>by rw[e,Ad]at hS;cases hS
  rw[Al _ _ hSe]at hS;show hbody ar.gens g s.heap L I S go F.L0 F.Le F.I0 F.Ie F.IL hS hSe hSL hSI
 .refine aK x λhpX hle qX=>?_;show EV.use qX ((rK.base F.gl F.gB).sub hle) λvb sV b hpY rV leV hb q=>?_;show useV (q sV (.ref S) vb rV VR_ref hb) λz sj av hpK rj lej hz q=>⟨.ret av,_,hpK,rj,(leK.trans leV).trans lej,⟨z,rfl,hz⟩,q⟩
theorem Il (a:Int)(h : 0<=b):a.fdiv b=a / b:=Int.fdiv_eq_ediv_of_nonneg a h
theorem Fz (a:Int)(h : 0<=b):a.fmod b=a % b:=Int.fmod_eq_emod_of_nonneg a h
theorem Ss {α:Type}(y : α)(xs:List α)(k:Nat)(h:k<=xs.length):xs.take k++y::xs.drop k=xs.insertIdx k y:=by
 induction xs generalizing k with
 | nil=>cases k with
  | zero=>rfl
  | succ k=>simp at h
 | cons x xs ih=>cases k with
  | zero=>rfl
  | succ k=>rw[List.insertIdx_succ_cons,<-ih k (by simpa using h)];rfl
theorem St{st:BdSt}{KK:QX}{x:Int}(G:Gnd (KW W0) B)(hh:A.handled=none)(X:BL hp L bA pA wA zs st)(g1:m (S "x")=some (.int x))
  (hK:∀m' ah sA,hp sA=none->sA≠L->ah sA=some (.list ((strF st.2.2.2 (AQ x)).map .int))->ah (L+1)=some (.cell (some (.int (st.2.2.2+AQ x))))->(∀z o,z≠L+1->hp z=some o->ah z=some o) ->
   m' (S "rest")=some (.int (bdRest x))->m' (S "kind")=some (.int (x % 3))->m' (S "size")=some (.int ((AQ x:Int)-1))->m' (S "stretch")=some (.ref sA)->(∀y,y∉["rest", "kind", "size", "stretch"]->m' (S y)=m (S y))->EXs Md A E B (vEnv L) aC m' ah KK) :
  EXs Md A E B (vEnv L) (vB 0::vB 1::vB 2::vB 3::aC) m hp KK:=by
 show Ae (D9 (AU (Az G (KO W0) KN ∅ (λ_=>AT) ⟨rfl,Ac (Aa g1 (Ac (Ak (Af (Km ∅ (pyl3 _) ?_)))))⟩)));show Ca hh rfl rfl rfl (Au (Ap (Au (Ap (Bd ?_)))));rw[Il _ ∅,Fz _ ∅];show Ae (D9 (AU (Az G (KO W0) KN ∅ (λ_=>AT) ⟨rfl,Ac (Aa (v:=.int (x / 3)) (by lk) (Ac (Ak (Af (Km ∅ (Sn _) ?_)))))⟩)));show Ca hh rfl rfl rfl (Au (Ap (Au (Ap (Bd ?_)))));rw[Il _ ∅,Fz _ ∅];change EXs _ _ _ _ _ _ (upd (upd (upd (upd m _ _) _ _) _ _) _ _) _ _;have hs:((AQ x:Nat):Int)=x / 3 % 12+1:=by unfold AQ;lia
 generalize hm1:upd (upd (upd (upd m _ _) _ _) _ _) _ _=m1;have n1:m1 (S "rest")=some (.int (bdRest x)):=by subst hm1;lk
 have n2:m1 (S "kind")=some (.int (x % 3)):=by clear n1;subst hm1;lk
 have n3:m1 (S "size")=some (.int ((AQ x:Int)-1)):=by rw[hs,Hr];clear n2 n1;subst hm1;lk
 have n4:∀y,y∉["rest", "kind", "size", "stretch"]->m1 (S y)=m (S y):=λy hy=>by clear n3 n2 n1;subst hm1;show updO hy (updO hy (updO hy (updO hy rfl)))
 clear hm1;have sl:=HZ x;show Ae (G8 rfl rfl (cl:=[(S "laid",L+1)]) rfl ∅ ?_);show CX (Az G (Db W0) Da ∅ (λ_=>BK) ⟨rfl,Ac (At (Aa n3 (Ak (A6 (Af (DB λr ob hr hrL ro=>?_))))))⟩);have e0:((AQ x:Int)-1+1-0).toNat=AQ x:=by(show F10 0x8760466731013a 0x101110110101 rfl)
 have le1:Hp.Le hp (hp.set r (.obj ob)):=(Hp.Le.refl hp).set hr _;show Goes.one (p:=λ_=>true) (e:=λk=>.int (st.2.2.2+(k:Int))) (EH ∅) (.range hh (Ad ..) hrL ro ∅ ∅ (F10 0x66731040000000000000000f50418 1 rfl) (F10 0x40000000000000000f56673107c4750 17 rfl sl.2)) (F20 0x186a0045857860c4750 4113 rfl sl.2 e0) (λC ao ae i hi hC hCL le=>Ap ⟨.refl _,?_⟩) λsA hsA hsL=>?_
 .have c1:=le1 _ _ X.c;show Ea (aP rfl (.refl _) λ_=>At (AK (c:=L+1) rfl (le _ _ (Ab (cl1 L) c1)) (Ag c1 hC) (Aa (by lk) (A6 ⟨by rw[C5],.refl _⟩))))
 .refine e0.symm▸?_;have es:((List.range (AQ x)).filter λ_=>true).map (λk:Nat=>AV.int (st.2.2.2+(k:Int)))=(strF st.2.2.2 (AQ x)).map .int:=by rw[Ht.mpr λ_ _=>rfl];unfold strF;rw[Cy];rfl
  rw[es];have l2:=le1.set (le1.none hsA) (.list ((strF st.2.2.2 (AQ x)).map .int));have c2:=l2 _ _ X.c;have sc:sA≠L+1:=λe=>by rw[e,le1 _ _ X.c]at hsA;cases hsA
  change EXs _ _ _ _ _ _ (upd m1 _ _) _ _;show Ae (Sl (c:=L+1) rfl (cl1 L) c2 (At (Aa (v:=.int ((AQ x:Int)-1)) (by lk) (Ak (A6 (IJ ⟨⟨_,c2⟩,?_⟩))))));rw[D2];show hK _ _ sA (le1.none hsA) hsL (Ab sc (Ad ..)) (Ad ..) (λz o hz e=>Ab hz (l2 _ _ e)) (by lk) (by lk) (by lk) (by lk) λy hy=>updO hy (n4 y hy)
theorem Im (a b:Int):(a != b)=decide (a≠b):=by by_cases h:a=b <;> simp[h]
theorem Su{st:BdSt}{KK:QX}{x:Int}(h1:hp bA=some (.list (st.1.map .int)))(h3:hp wA=some (.list (st.2.2.1.map .int)))(hs:hp sA=some (.list ((strF st.2.2.2 (AQ x)).map .int)))(D:BN L bA pA wA)(sL:sA≠L)
  (g1:m (S "rest")=some (.int (bdRest x)))(g2:m (S "kind")=some (.int (x % 3)))(g3:m (S "size")=some (.int ((AQ x:Int)-1)))(g4:m (S "stretch")=some (.ref sA))(g5:m (S "base")=some (.ref bA))(g6:m (S "ways")=some (.ref wA))(l1:st.1.length<=2000)(l2:st.2.2.1.length<=2000)
  (hK:∀ah,ah bA=some (.list ((AR st x).1.map .int))->ah wA=some (.list ((AR st x).2.2.1.map .int))->(∀z o,z≠bA->z≠wA->hp z=some o->ah z=some o)->KK .next m ah) :
  EX Md A E B (vEnv L) (vB 4) m hp KK:=by
 have sl:=HZ x;show AB (Av (Aa g2 (Ak (Gc (Ar ?_)))));rw[Im];by_cases h:x % 3=2
 .refine AL (not_not_intro h) (Ao (hK hp ?_ ?_ λz o _ _ e=>e))
  .rw [show(AR st x).1=st.1 from if_pos h];show h1
  .rw [show(AR st x).2.2.1=st.2.2.1 from if_pos h];show h3
 .refine AP h ?_;show Ae (AJ (ED (Aa g5 (aQ bA _ rfl h1 D.bL (Ac (Aa g4 (Af (bx _ sA _ rfl h1 hs sL (by rw[Ai,Ai,strF_len];show F20 0x13880358705c48507d0025750 273 rfl l1 sl.2) ⟨nofun,nofun,nofun,?_⟩))))))));have e1:(AR st x).1=st.1++strF st.2.2.2 (AQ x):=if_neg h;rw[<-A2,<-e1];have b1:(hp.set bA (.list ((AR st x).1.map .int))) bA=some (.list ((AR st x).1.map .int)):=Ad ..;have w1:(hp.set bA (.list ((AR st x).1.map .int))) wA=some (.list (st.2.2.1.map .int)):=Ab D.bw.symm h3;have k1:∀z o,z≠bA->hp z=some o->(hp.set bA (.list ((AR st x).1.map .int))) z=some o:=λz o hz e=>Ab hz e;generalize hp.set bA (.list ((AR st x).1.map .int))=hp1 at *;show Ae (AJ (ED (Aa g6 (aQ wA _ rfl w1 D.wL (Ac (At (AM (Ac (At (Aa g1 (Ak (H5 ∅ ?_))))))))))));rw[Fz _ ∅];show Af ⟨sz rfl,λf hf hfL=>At (Aa g3 (Ak (A6 ?_)))⟩;rw[D2];show Q9 (Ad ..) hfL (As _) (F10 0x3e8025738c4750 17 rfl sl.2) (by simp) λc hc hcL=>?_;have er:(List.replicate ((AQ x:Int)).toNat [AV.int (bdRest x % 3)]).flatten=(List.replicate (AQ x) (bdRest x % 3)).map .int:=by rw[AW];simp
  rw[er];have lf:Hp.Le hp1 (hp1.set f (.list [.int (bdRest x % 3)])):=(Hp.Le.refl hp1).set hf _;have lc:=lf.set (lf.none hc) (.list ((List.replicate (AQ x) (bdRest x % 3)).map .int));show Af (bx _ c _ rfl (lc _ _ w1) (Ad ..) hcL (by rw[Ai,Ai,List.length_replicate];show F20 0x13880358705c48507d0025750 273 rfl l2 sl.2) ⟨nofun,nofun,nofun,?_⟩);rw[<-A2,<-(if_neg h:(AR st x).2.2.1=st.2.2.1++List.replicate (AQ x) (bdRest x % 3))];show Ao (hK _ (Ab D.bw (lc _ _ b1)) (Ad ..) λz o z1 z2 e=>Ab z2 (lc _ _ (k1 z o z1 e)))
theorem Sv{st:BdSt}{KK:QX}{x:Int}(G:Gnd (KW W0) B)(hp1:hp pA=some (.list (zs.map λz=>.ref z.1)))(hps:zs.map (·.2)=st.2.1)(D:BN L bA pA wA)
  (g1:m (S "rest")=some (.int (bdRest x)))(g2:m (S "kind")=some (.int (x % 3)))(g4:m (S "stretch")=some (.ref sA))(g5:m (S "parts")=some (.ref pA))(l1:zs.length<=1000)
  (hK:∀(ah:Hp) (zs':List (Addr×List Int)),ah pA=some (.list (zs'.map λz=>.ref z.1))->zs'.map (·.2)=(AR st x).2.1->(∀z∈zs',z∈zs\/z=(sA,strF st.2.2.2 (AQ x)))->(∀z o,z≠pA->hp z=some o->ah z=some o)->KK .next m ah) :
  EX Md A E B (vEnv L) (vB 5) m hp KK:=by
 show AB (Av (Aa g2 (Ak (Gc (Ar ?_)))));rw[Im];have zl:st.2.1.length=zs.length:=by rw[<-hps,Ai]
 by_cases h:x % 3=1
 .refine AL (not_not_intro h) (Ao (hK hp zs hp1 ?_ (λz hz=>.inl hz) λz o _ e=>e));rw[show(AR st x).2.1=st.2.1 from if_pos h];show hps
 .refine AP h ?_;have e1:(AR st x).2.1=st.2.1.insertIdx (bdRest x / 3 % ((st.2.1.length:Int)+1)).toNat (strF st.2.2.2 (AQ x)):=if_neg h;show Ae (AJ (Rs (Aa g5 (aQ pA _ rfl hp1 D.pL (Ac (At (At (Aa g1 (Ak (Ju ∅ ∅ ?_))))))))));rw[Il _ ∅];show At (AU (Az G (B8 W0) B7 ∅ (λ_=>AT) ⟨rfl,Ac (Aa g5 (Af (BB (.own hp1 D.pL) (by rw[Ai];show sz' (Aj () ∅)) (Ak (A6 (H5 ?_ ?_))))))⟩))
  .exact F10 73871506 1 rfl
  .rw [Ai,Fz _ ⇑(As _),<-zl];have hk0:=Int.emod_nonneg (bdRest x / 3) (⇑(F10 73871506 1 rfl):(st.2.1.length:Int)+1≠0);have hk1:=Int.emod_lt_of_pos (bdRest x / 3) (⇑(F10 0x6730047 1 rfl):(0:Int)<(st.2.1.length:Int)+1);generalize bdRest x / 3 % ((st.2.1.length:Int)+1)=k at *;show Ac (Aa g4 (Af (bx _ k _ rfl hp1 hk0 (by rw[Ai];show fk [_,_] [_] 0x837867307708760 4353 rfl zl hk1) (by rw[Ai];(show Aj () ∅)) ⟨nofun,nofun,nofun,?_⟩)));show Ao (hK _ (zs.take k.toNat++(sA,strF st.2.2.2 (AQ x))::zs.drop k.toNat) ?_ ?_ (λz hz=>?_) λz o hz e=>Ab hz e)
   .rw [Ad];simp
   .rw [e1,A2,A1,List.map_take,List.map_drop,hps,Ss _ _ _ ⇑(F11 0x875683077073a 268505360 rfl hk1)]
   .rcases Aw.mp hz with h | h
    .exact .inl (List.mem_of_mem_take h)
    .rcases Bg.mp h with h | h
     .exact .inr h
     .exact .inl (List.mem_of_mem_drop h)
theorem Sw{st:BdSt}{KK:QX}{x:Int}(G:Gnd (KW W0) B)(hh:A.handled=none)(X:BL hp L bA pA wA zs st)(D:BN L bA pA wA)(g1:m (S "x")=some (.int x))(g2:m (S "base")=some (.ref bA))(g3:m (S "parts")=some (.ref pA))(g4:m (S "ways")=some (.ref wA))(l1:st.1.length<=2000)(l2:st.2.2.1.length<=2000)(l3:zs.length<=1000)
  (hK:∀m' ah zs',BL ah L bA pA wA zs' (AR st x)->(∀z o,z≠bA->z≠pA->z≠wA->z≠L+1->hp z=some o->ah z=some o)->(∀y,y∉["rest", "kind", "size", "stretch"]->m' (S y)=m (S y))->KK .next m' ah) :
  EXs Md A E B (vEnv L) [vB 0,vB 1,vB 2,vB 3,vB 4,vB 5] m hp KK:=by
 show St G hh X g1 λm1 hp1 sA s0 sL s1 c1 k1 n1 n2 n3 n4 n5=>?_;have sb:=Ah (Ag X.b s0);have sp:=Ah (Ag X.p s0);have sw:=Ah (Ag X.ww s0);show Ae (Su (k1 _ _ D.bc X.b) (k1 _ _ D.wc X.ww) s1 D sL n1 n2 n3 n4 (by rw[n5 _ ∅];show g2) (by rw[n5 _ ∅];show g4) l1 l2 λhp2 b2 w2 k2=>?_);show Ae (Sv (st:=st) G (k2 _ _ D.bp.symm D.pw (k1 _ _ D.pc X.p)) X.ps D n1 n2 n4 (by rw[n5 _ ∅];show g3) l3 λhp3 zs' p3 q3 z3 k3=>Ao (hK m1 hp3 zs' ⟨k3 _ _ D.bp b2,p3,k3 _ _ D.pw.symm w2,k3 _ _ D.pc.symm (k2 _ _ D.bc.symm D.wc.symm c1),q3,λz hz=>?_⟩ (λz o h1 h2 h3 h4 e=>k3 _ _ h2 (k2 _ _ h1 h3 (k1 _ _ h4 e))) n5));rcases z3 z hz with h | rfl
 .have q:=X.z z h;show⟨k3 _ _ q.2.2.1 (k2 _ _ q.2.1 q.2.2.2.1 (k1 _ _ q.2.2.2.2.1 q.1)),q.2⟩
 .exact ⟨k3 _ _ sp (k2 _ _ sb sw s1),sb,sp,sw,(Ah (Ag X.c s0)),sL⟩
theorem GC {α β:Type}(f : α->β)(xs:List α)(lo hi:Option Int):pick (xs.map f) lo hi=(pick xs lo hi).map f:=by unfold pick;rw[Ai,List.map_take,List.map_drop]
theorem Sy{x:Int}(h:nums[i]?=some x):bdTo (nums.take (i+1))=AR (bdTo (nums.take i)) x:=DD h
theorem Sz{KK:QX}(az:ns.length<=63)(hl:Lst B hp L l (ns.map .int))(g0:m (S "script")=some (.ref l))
  (hK:∀n:Nat,n<=8->KK .next (upd m (S "n") (.int n)) hp):EX Md A E B (vEnv L) (vS 0) m hp KK:=by
 show AS (E2 (BJ (Aa g0 (MQ hl (by rw[Ai];show sz' (Aj () ∅)) ?_))));clear az;cases ns with
 | nil=>show if_f (Ak (hK 1 ∅))
 | cons x r=>
  show if_t (At (Aq (Aa g0 (Ak (AH hl ∅ ∅ rfl (Ak (H5 ∅ ?_)))))));rw[Fz _ ∅];have:=hK (x % 9).toNat (by lia)
  rwa [(by lia:(((x % 9).toNat:Nat):Int)=x % 9)]at this
theorem S1 {p5 p6 p7 p8 p9 p10 p11 p12 p13 p14 p15:Pos}{k1 k2 k3 k4 k5 k6}(G:Gnd (KW W0) B)(az:ns.length<=63)(hl:Lst B hp L l (ns.map .int))(g0:m (S "script")=some (.ref l))
  (hK:∀c (nums:List Int),nums.length<=62->hp c=none->c≠L->Q (.ref c) (hp.set c (.list (nums.map .int)))) :
  EV Md A E B (vEnv L) (.IfExp (.Compare (.Call (.Name (S "len") p1) [.Name (S "script") p2] [] p3) [.Gt] [.Constant (.int 1) k1 p4] p5) (.Subscript (.Name (S "script") p6) (.Slice (some (.Constant (.int 1) k2 p7)) (some (.Constant (.int 63) k3 p8)) none p9) p10) (.List [.Constant (.int 1) k4 p11,.Constant (.int 3) k5 p12,.Constant (.int 1) k6 p13] p14) p15) m hp Q:=by
 have hml:(ns.map AV.int).length<=63:=by rw[Ai];show az
 show E2 (Av (AU (Az G (B8 W0) B7 ∅ (λ_=>AT) ⟨rfl,Ac (Aa g0 (Af (BB hl (sz' (Aj () ∅)) (Ak (Dp (Ar ?_))))))⟩)));rw[Ai];by_cases h : 1<ns.length
 .refine Bx (show decide ((1:Int)<(ns.length:Int))=true from by simp;(show BC.mpr ())) ?_;show Gf (Aa g0 (Ak (Ak (bM l (ns.map .int) (some 1) (some 63) rfl hl (sz' (Aj () ∅)) rfl rfl λc hc hcL=>?_))));rw[GC];show hK c (pick ns (some 1) (some 63)) ?_ hc hcL;rw[Em,Es];have:clipAt ns.length 1=1:=by unfold clipAt;rw[Int.min_eq_left (F10 0x73687640 17 rfl h)];rfl
  change min _ (ns.length-clipAt ns.length 1)<=62;rw[this];show Aj (FS _ _) (F10 0x3e5753f5850671a 268505360 rfl az)
 .refine Bl (show decide ((1:Int)<(ns.length:Int))=false from by simp;(show F10 0x673876420 17 rfl h)) ?_;show AM (Ac (Ak (Ac (Ak (Ac (Ak (Af ⟨sz rfl,λc hc hcL=>hK c [1,3,1] ∅ hc hcL⟩)))))))
theorem BL.keep{st:BdSt}(X:BL hp L bA pA wA zs st)(k:∀z o,hp z=some o->ah z=some o):BL ah L bA pA wA zs st:=
 ⟨k _ _ X.b,k _ _ X.p,k _ _ X.ww,k _ _ X.c,X.ps,λz hz=>⟨k _ _ (X.z z hz).1,(X.z z hz).2⟩⟩
theorem S2{KK:QX}(G:Gnd (KW W0) B)(hh:A.handled=none)(az:ns.length<=63)(hl:Lst B hp L l (ns.map .int))(g0:m (S "script")=some (.ref l))(X:BL hp L bA pA wA [] ([],[],[],0))(D:BN L bA pA wA)(n8:n<=8)(c2:hp (L+2)=some (.cell none))(c3:hp (L+3)=some (.cell none))
  (gn:m (S "n")=some (.int n))(gb:m (S "base")=some (.ref bA))(gp:m (S "parts")=some (.ref pA))(gw:m (S "ways")=some (.ref wA))
  (bc2:bA≠L+2/\pA≠L+2/\wA≠L+2)(bc3:bA≠L+3/\pA≠L+3/\wA≠L+3)
  (hK:∀m' ah zs nums,BO ah L bA pA wA zs n nums m'->KK .next m' ah) :
  EX Md A E B (vEnv L) (vS 3) m hp KK:=by
 show DA hh (S1 G az hl g0 λc nums nl hc hcL=>?_);have l1:Hp.Le hp (hp.set c (.list (nums.map .int))):=(Hp.Le.refl hp).set hc _;have X1:=X.keep l1;have d2:=l1 _ _ c2;have d3:=l1 _ _ c3;have hc1:(hp.set c (.list (nums.map AV.int))) c=some (.list (nums.map .int)):=Ad ..;generalize hp.set c (.list (nums.map AV.int))=hp1 at *;show aT c _ rfl (.own hc1 hcL) λit hit hitL=>?_;have ne:∀{z o},hp1 z=some o->z≠it:=λe=>Ag e hit;show bD (λi ao ae=>(∃zs,BL ae L bA pA wA zs (bdTo (nums.take i))/\∀z∈zs,z.1≠it)/\(∀z o,z≠bA->z≠pA->z≠wA->z≠L+1->hp1 z=some o->ae z=some o)/\∀y,y∉["x", "rest", "kind", "size", "stretch"]->ao (S y)=m (S y)) (λob=>aP ⟨[],X1.keep λz o e=>Ab (ne e) e,λ_ h=>nomatch h⟩ (λz o _ _ _ _ e=>Ab (ne e) e) λ_ _=>rfl) (λi ao ae ob y=>⟨y.1.imp λzs x=>⟨⟨Ab (ne X1.b) x.1.b,Ab (ne X1.p) x.1.p,Ab (ne X1.ww) x.1.ww,Ab (ne X1.c) x.1.c,x.1.ps,λz hz=>⟨Ab (x.2 z hz) (x.1.z z hz).1,(x.1.z z hz).2⟩⟩,x.2⟩,λz o h1 h2 h3 h4 e=>Ab (ne e) (y.2.1 z o h1 h2 h3 h4 e),y.2.2⟩) (λi ao ae y=>.own (y.2.1 _ _ (Ah (Ag X.b hc)) (Ah (Ag X.p hc)) (Ah (Ag X.ww hc)) (Ah (Ag X.c hc)) hc1) hcL) (λi x ao ae ob hx y hit2=>?_) λao ae y=>?_
 .refine aZ y λzz1 y1 y2=>?_;show aK zz1 λzs x1 x2=>?_;clear zz1;rw[AZ]at hx;show aK (C7.mp hx) λv hv q82=>?_;clear hx;subst q82;obtain⟨sts,I⟩:=Ia (nums.take i);have tl:(nums.take i).length<=62:=by rw[Em];lia
  have b1:=I.l1
  show Ap (Sw G hh x1 D (x:=v) (m:=upd ao (S "x") (.int v)) (by lk) ?_ ?_ ?_ (F20 0x7d0025857c28503e5750 284 rfl tl b1) (F30 0x7d00259589607c28503e5750 65820 rfl tl b1 I.wl) (F30 0x3e802595896078503e5750 65809 rfl tl I.l3 (by rw[<-x1.ps,Ai]:zs.length=(bdTo (nums.take i)).2.1.length)) λm' ah zs' q1 q2 q3=>?_)
  .rw [ug,if_neg ∅,y2 _ ∅];show gb
  .rw [ug,if_neg ∅,y2 _ ∅];show gp
  .rw [ug,if_neg ∅,y2 _ ∅];show gw
  .rw [<-Sy hv]at q1;have hit':=q2 _ _ (Ah (ne X1.b)) (Ah (ne X1.p)) (Ah (ne X1.ww)) (Ah (ne X1.c)) hit2;show⟨aP (aM zs' q1 λz hz e=>?_) (λz o h1 h2 h3 h4 e=>q2 z o h1 h2 h3 h4 (y1 z o h1 h2 h3 h4 e)) λy hy=>?_,hit'⟩
   .have:=(q1.z z hz).1;rw[e,hit']at this;cases this
   .rw [q3 y (λh=>hy (.tail _ h)),ug,if_neg (λh:y = "x" => hy (by rw[h];show .head _))];show y2 y hy
 .refine aZ y λzz1 y1 y2=>?_;show aK zz1 λzs x1 x2=>?_;clear zz1;rw[Ai,Cz]at x1;have dl:∀{z o},z≠it->ae z=some o->(ae.del it) z=some o:=λh e=>by rw[A4 _ h];show e
  show hK ao _ zs nums ⟨⟨dl (ne X1.b) x1.b,dl (ne X1.p) x1.p,dl (ne X1.ww) x1.ww,dl (ne X1.c) x1.c,x1.ps,λz hz=>⟨dl (x2 z hz) (x1.z z hz).1,(x1.z z hz).2⟩⟩,D,nl,n8,
   dl (ne d2) (y1 _ _ bc2.1.symm bc2.2.1.symm bc2.2.2.symm (by simp) d2),dl (ne d3) (y1 _ _ bc3.1.symm bc3.2.1.symm bc3.2.2.symm (by simp) d3),by rw[y2 _ ∅];show gn,by rw[y2 _ ∅];show gb,by rw[y2 _ ∅];show gp,by rw[y2 _ ∅];show gw⟩
theorem LP.yi (P:LP xs ys){j j':Nat}(hj:j<ys.length)(hj':j'<ys.length)(e:ys.getD j 0=ys.getD j' 0):j=j':=EF P.ny hj hj' e
theorem LP.unt (P:LP xs ys):US (MP xs ys) xs.length (B0 xs ys):=G7 P.yi
theorem LP.sz (P:LP xs ys):∀t∈Be (B0 xs ys),0<=t.2.2/\t.2.2<=5000:=λt ht=>by have h:=P.unt.kept_sub t ht;have r:=P.unt.run t h;have r0:=r.1;have a:=r.first.1;have:=P.unt.le t h;have:=P.lx;show⟨Bh (),F12 0x1388035882e8025750738708070480 4369 rfl a () this⟩
theorem LP.law (P:LP xs ys)(n:Nat):Law2 xs ys (B0 xs ys) n (AA xs ys n) (shF (AA xs ys n)):=Rn n P.x0 P.y0 P.nx P.ny
theorem LP.pl (P:LP xs ys):(Bn (B3 (B0 xs ys))).length<=744:=Aj (Rh (P.law 0)) P.lx
theorem S3 (h:nums.length<=62):LP (bdTo nums).1 (bdTo nums).2.1.flatten:=by show be (Ia nums) λsts I=>?_;show⟨F20 0x2e8025857c28503e5750 284 rfl h I.l1,F20 0x2e8025857c28503e5750 284 rfl h I.l2,λx hx=>(I.in1 x hx).1,λx hx=>(I.in2 x hx).1,I.n1,I.n2,?_⟩;show F30 0x3e595895078603e5750 69649 rfl h I.le (Ra (λh h' e=>EF I.n1 h h' e) (G7 (xs:=(bdTo nums).1) (λh h' e=>EF I.n2 h h' e)) I.a1 (QZ I.a2))
theorem Io{q:Addr}{xs:List AV}(h:hp q=some (.list xs)):lsOf hp (.ref q)=xs:=by change lsO (hp q)=xs;rw[h];rfl
theorem S4 {l:List AV}:(List.range l.length).map (λk=>l.getD k .none)=l:=by
 apply Hc;intro i;rw[AZ];by_cases h:i<l.length
 .rw [Fb h,A3 h,F8,AD,A3 h];rfl
 .rw [Dy (by simp;(show CF ())),Dy (CF ())];rfl
theorem S5:∀zs:List (Addr×List Int),(∀z∈zs,hp z.1=some (.list (z.2.map .int)))->two (λv=>(lsOf hp v).length) (λv k=>(lsOf hp v).getD k .none) (zs.map λz=>.ref z.1)=(zs.map (·.2)).flatten.map .int:=by
 intro r_;induction r_ with
 | nil=>intro _;show rfl
 | cons z zs ih=>intro h;unfold two at *;rw[A1,DT,(ih λy hy=>h y (.tail _ hy)),A1,Er,A2];rw[S4,(Io (h z (.head _)))]
theorem KR (P:LP xs ys):(Bo xs ys).length<=1600:=by delta Bo Dn;have h:=Kn (size:=xs.length) (cs:=Bn (B3 (B0 xs ys))++[((xs.length:Int),(ys.length:Int))]) (Bn (B3 (B0 xs ys))++[((xs.length:Int),(ys.length:Int))]).length;unfold stR at h;rw[Cz]at h;rw[Ba,Hk]at h;show F20 0x64002585670228502e8025750 274 rfl P.pl h
theorem S6{KK:QX}(hh:A.handled=none)(O:BO hp L bA pA wA zs n nums m)(P:LP (bdTo nums).1 (bdTo nums).2.1.flatten)
  (hK:∀tA,hp tA=none->tA≠L->KK .next (upd m (S "theirs") (.ref tA)) (hp.set tA (.list ((bdTo nums).2.1.flatten.map .int)))) :
  EX Md A E B (vEnv L) (vS 4) m hp KK:=by
 have et:two (λv=>(lsOf hp v).length) (λv k=>(lsOf hp v).getD k .none) (zs.map λz=>.ref z.1)=(bdTo nums).2.1.flatten.map .int:=by rw[S5 zs λz hz=>(O.X.z z hz).1,O.X.ps]
 show G8 rfl rfl (cl:=[]) rfl ∅ (.mono ?_ λ_ _=>Ig (cnt:=λv=>(lsOf hp v).length) (e:=λv k=>(lsOf hp v).getD k .none) hh ∅ rfl (λ_=>rfl) λ_ _=>rfl);show Aa O.gp (bB pA _ rfl (.own O.X.p O.D.pL) (?_) (λC ao ae v hv hC hCL le=>?_) λacc h h'=>?_)
 .rw [et,Ai];have:=P.ly;(show Aj () ∅)
 .refine aK (Bk.mp hv) λz hz zz1=>?_;subst zz1;have q:=O.X.z z hz;show Ap ⟨.refl _,Aa (v:=.ref z.1) (by rfl) ⟨.refl _,_,.list hh ((Io q.1)▸.own (Ab q.2.2.2.2.2 q.1) (Ag q.1 hC)) le,λk mK hpK hk le5 hm ho=>Aa hm ⟨rfl,.refl _⟩⟩⟩
 .rw [et];show hK acc h h'
theorem S7{KK:QX}(G:Gnd (KW W0) B)(hh:A.handled=none)(hu:A.units+90<cLine)(aB:A.depth+40<recursionLimit)(P:LP xs ys)(h1:hp bA=some (.list (xs.map .int)))(bL:bA≠L)(h2:hp tA=some (.list (ys.map .int)))(tL:tA≠L)
  (g1:m (S "n")=some (.int n))(g2:m (S "base")=some (.ref bA))(g3:m (S "theirs")=some (.ref tA))
  (hK:∀gA ad ah,hp gA=none->gA≠L->ah gA=some (.list (ad.map .ref))->Ls ah ad (AA xs ys n)->(∀y∈ad,hp y=none/\y≠L)->(∀z o,z≠L->hp z=some o->ah z=some o)->KK .next (upd m (S "groups") (.ref gA)) ah) :
  EX Md A E B (vEnv L) (vS 5) m hp KK:=by
 have lx:=P.lx;have ly:=P.ly;show AS (H7 G (JA W0) rfl (E1 G (Pd W0) (λ_=>VR_ref) ⟨rfl,Ac (H7 G (J9 W0) rfl (E1 G (Pc W0) (λ_=>VR_ref) ⟨rfl,Ac (AU (Az G (B8 W0) B7 ∅ (λ_=>AT) ⟨rfl,Ac (Aa g2 (Af (BB (.own h1 bL) (by rw[Ai];show sz' (Aj () ∅)) ?_)))⟩))⟩))⟩));show Ac (AU (Az G (B8 W0) B7 ∅ (λ_=>AT) ⟨rfl,Ac (Aa g3 (Af (BB (.own h2 tL) (by rw[Ai];show sz' (Aj () ∅)) ?_)))⟩));rw[Ai,Ai];show Ac (H7 G (J8 W0) rfl (E1 G (Pb W0) (λ_=>VR_ref) ⟨rfl,Ac (Aa g2 (Ac (Aa g3 (Af ?_))))⟩));show RS G hh (ul () ∅) (ul () ∅) (.own h1 bL) (.own h2 tL) (Aj () ∅) (Aj () ∅) P.yi (by have:=P.un;(show CB () ∅)) P.sz (by have:=P.pl;(show Aj () ∅)) λhp1 kA k0 kL k1 k2 _=>Af ?_;show QC (kept:=Bn (B3 (B0 xs ys))) G hh (ul0 ()) k1 kL (by have:=P.pl;(show Aj () ∅)) λhp2 rA r0 rL r1 r2 _=>Ac (Aa g1 (Af ?_));show Sk (rows:=Bo xs ys) (n:=n) G hh (ul () ∅) (ul () ∅) r1 rL (KR P) λhp3 gA ad a0 aL a1 a2 a3 a4 a5 _=>?_;have fr:∀{z},hp2 z=none->z≠L->hp z=none:=λ{z} hz zL=>by
  cases e:hp z with
  | none=>rfl
  | some o=>rw[r2 _ _ zL (k2 _ _ zL e)]at hz;cases hz
 show hK gA ad hp3 (fr a0 aL) aL a1 a2 (λy hy=>⟨fr (a4 y hy).1 (a4 y hy).2.1,(a4 y hy).2.1⟩) λz o hz e=>a5 z o hz (r2 z o hz (k2 z o hz e))
theorem KU {size:Int}{st:RSt}{c:Int×Int}(h0 : 0<=st.1)(h1:st.1<=size)(hc : 0<=c.1/\c.1<=size)(h:∀o∈st.2.2,InI size o):∀o∈(stepR size st c).2.2,InI size o:=λo ho=>by
 rcases Aw.mp ho with x | x
 .exact h o x
 .clear ho;rcases Aw.mp x with y | y
  .split at y
   .rw [Ay]at y;subst y;show⟨⟨h0,h1⟩,hc⟩
   .cases y
  .split at y
   .rw [Ay]at y;subst y;show aP hc (by dsimp only;show F01 0x67004870480 17 rfl hc.1) (by dsimp only;assumption)
   .cases y
theorem S8 {size:Int}:∀(kept:List (Int×Int)) (st:RSt),(∀p∈kept,0<=p.1/\p.1<size)->0<=st.1->st.1<=size->(∀o∈st.2.2,InI size o)->(0<=(kept.foldl (stepR size) st).1/\(kept.foldl (stepR size) st).1<=size)/\∀o∈(kept.foldl (stepR size) st).2.2,InI size o:=by
 intro r_;induction r_ with
 | nil=>intro st _ h0 h1 h;show⟨⟨h0,h1⟩,h⟩
 | cons c r ih=>intro st hk h0 h1 h;have hc:=hk c (.head _);show ih (stepR size st c) (λp hp=>hk p (.tail _ hp)) (by change 0<=c.1+1;(show F01 0x67004870480 17 rfl hc.1)) (by change c.1+1<=size;(show F02 0x867088770 17 rfl hc.2)) (KU h0 h1 ⟨hc.1,F02 0x8788770 17 rfl hc.2⟩ h)
theorem S9 {size:Int}{kept:List (Int×Int)}(h:∀p∈kept,0<=p.1/\p.1<size)(hs : 0<=size):∀o∈Dn size other kept,InI size o:=by unfold Dn;rw[DR];have:=S8 kept (0,0,[]) h (Ax 0) hs (λ_ h=>nomatch h);show KU this.1.1 this.1.2 ⟨hs,Ax _⟩ this.2
theorem KV {α:Type}{l:List α}{x : α}(h:x∈l.dropLast):x∈l:=List.dropLast_subset _ h
theorem KX {α:Type}{l:List α}{d : α}{P : α->Prop}(h:∀x∈l,P x)(hd:P d):P (l.getLast?.getD d):=by
 rcases Co l with rfl | ⟨D,g,e⟩
 .exact hd
 .rw [Cp]at e;subst e;rw[Dj,Ep];show h g (by simp)
theorem SA (h0 : 0<=la)(hr:∀o∈rows,InI la o)(h:∀g∈gs,g≠[]/\∀o∈g,InI la o):∀g∈stepL rows near gs r,g≠[]/\∀o∈g,InI la o:=by
 have ho:InI la (rows.getD r ("",0,0,0,0)):=by
  rw[AD];cases e:rows[r]? with
  | none=>show⟨⟨Ax _,h0⟩,Ax _,h0⟩
  | some o=>show hr o (BS e)
 unfold stepL;dsimp only;generalize rows.getD r ("",0,0,0,0)=o at *;have a:∀g∈(if r=0\/near (r-1)=false then gs++[if 0<r then[("equal",o.2.1,o.2.1,o.2.2.2.1,o.2.2.2.1)] else[]] else gs),g∈gs\/∀x∈g,InI la x:=λg hg=>by
  split at hg
  .rcases Aw.mp hg with x | x
   .exact .inl x
   .rw [Ay]at x;clear hg;subst x;show .inr λy hy=>?_;split at hy
    .rw [Ay]at hy;subst hy;show⟨ho.1,ho.1⟩
    .cases hy
  .exact .inl hg
 have b:∀g∈(if r=0\/near (r-1)=false then gs++[if 0<r then[("equal",o.2.1,o.2.1,o.2.2.2.1,o.2.2.2.1)] else[]] else gs).dropLast,g∈gs:=λg hg=>by
  split at hg
  .rwa [Fg]at hg
  .exact KV hg
 generalize (if r=0\/near (r-1)=false then gs++[if 0<r then[("equal",o.2.1,o.2.1,o.2.2.2.1,o.2.2.2.1)] else[]] else gs)=gs1 at *;have c:∀x∈gs1.getLast?.getD [],InI la x:=KX (P:=λg=>∀x∈g,InI la x) (λg hg=>(a g hg).elim (λx=>(h g x).2) id) λ_ h=>nomatch h;generalize gs1.getLast?.getD []=l at *;intro g hg;rcases Aw.mp hg with x | x
 .exact h g (b g x)
 .rw [Ay]at x;generalize e2:(if o.1 = "equal" /\ (l.getLast?.getD ("",0,0,0,0)).1 = "equal" then l.dropLast++[("equal",(l.getLast?.getD ("",0,0,0,0)).2.1,o.2.2.1,(l.getLast?.getD ("",0,0,0,0)).2.2.2.1,o.2.2.2.2)] else l++[o])=l2 at x;have k:l2≠[]/\∀x∈l2,InI la x:=by
   rw[<-e2];split
   .refine ⟨by simp,λy hy=>?_⟩;rcases Aw.mp hy with z | z
    .exact c y (KV z)
    .rw [Ay]at z;subst z;show⟨(KX (P:=InI la) (d:=("",0,0,0,0)) c (aP ⟨Ax _,h0⟩ (Ax _) h0)).1,ho.2⟩
   .refine ⟨by simp,λy hy=>?_⟩;clear x e2 hg;rcases Aw.mp hy with z | z
    .exact c y z
    .rw [Ay]at z;clear hy;subst z;show ho
  clear hg;subst x;split
  .refine ⟨by simp,λy hy=>?_⟩;rcases Aw.mp hy with z | z
   .exact k.2 y z
   .rw [Ay]at z;clear hy;subst z;show⟨ho.2,ho.2⟩
  .exact k
theorem SB (h0 : 0<=la)(hr:∀o∈rows,InI la o):∀(rs:List Nat) (gs:List (List Op)),(∀g∈gs,g≠[]/\∀o∈g,InI la o)->∀g∈rs.foldl (stepL rows near) gs,g≠[]/\∀o∈g,InI la o:=by
 intro r_;induction r_ with
 | nil=>intro _ h;show h
 | cons r rs ih=>intro gs h;show ih (stepL rows near gs r) (SA h0 hr h)
theorem LP.gin (P:LP xs ys)(n:Nat):∀g∈AA xs ys n,g≠[]/\∀o∈g,InI xs.length o:=by show SB (As _) (S9 (λp hp=>?_) (As _)) _ [] λ_ h=>nomatch h;unfold Bn at hp;show aK (List.mem_flatMap.mp hp) λt ht h=>?_;clear hp;show aK (Bk.mp h) λk hk zz1=>?_;subst zz1;rw[BM]at hk;have:=(((P.law 0).told.kr t ht).run.2 k (As _) (F11 0x7837784073a 16847120 rfl hk));show⟨this.1,this.2.1⟩
theorem Ip:∀{gs:List (List Op)} {i0 j0:Int},ChG K la lb i0 j0 gs->(i0<=la/\j0<=lb)/\(((BA gs).length:Int)<=la-i0)/\∀g∈gs,(i0<=(bnd g).1/\(bnd g).1<=(bnd g).2.1/\(bnd g).2.1<=la)/\(j0<=(bnd g).2.2.1/\(bnd g).2.2.1<=(bnd g).2.2.2/\(bnd g).2.2.2<=lb):=by
 intro r_
 induction r_ with
 | nil=>
  intro i0 j0 h;show aS h λm e1 e2 _=>?_;have:(BA []).length=0:=rfl;show aP ⟨F12 0x7887380790 272 rfl e1,F12 0x7887380790 272 rfl e2⟩ (fk [_,_] [_,_] 0x871838048607380790 65808 rfl e1 this) λ_ h=>nomatch h
 | cons g gs ih=>
  intro i0 j0 h;obtain⟨⟨m,e1,e2,_⟩,l1,l2,_,h'⟩:=h;have ih:=ih h';have e:((BA (g::gs)).length:Int)=(bnd g).2.1-(bnd g).1+(BA gs).length:=by
   unfold BA;rw[DT,Ba,Ai,D5]
   push_cast
   (show F12 0x83781083730987807813a 0x1101101010101001 rfl l1)
  show aP ⟨fk [_] [_,_,_,_] 0xa88a98097807380790 69904 rfl e1 l1 ih.1.1,fk [_] [_,_,_,_] 0xa88a98097807380790 69904 rfl e2 l2 ih.1.2⟩ (fk [_,_,_] [_,_,_,_] 0x891938837a109390a9183807380790 1052944 rfl e1 ih.2.1 e) λg' hg=>?_;clear e h' left;rcases Bg.mp hg with rfl | hg
  .exact aV ⟨F12 0x7887380790 272 rfl e1,by omega,F02 0x8788780 17 rfl ih.1.1⟩ (F12 0x7887380790 272 rfl e2) (by omega) (F02 0x8788780 17 rfl ih.1.2)
  .have:=ih.2.2 g' hg;show aV ⟨fk [_] [_,_,_,_] 0xa88a98097807380790 69904 rfl e1 l1 this.1.1,F02 0x8788780 17 rfl this.1.2.1,F02 0x8788780 17 rfl this.1.2.2⟩ (fk [_] [_,_,_,_] 0xa88a98097807380790 69904 rfl e2 l2 this.2.1) (F02 0x8788780 17 rfl this.2.2.1) (F02 0x8788780 17 rfl this.2.2.2)
theorem LP.chg (P:LP xs ys)(n:Nat):((BA (AA xs ys n)).length<=744)/\∀g∈AA xs ys n,(0<=(bnd g).1/\(bnd g).1<=(bnd g).2.1/\(bnd g).2.1<=xs.length)/\(0<=(bnd g).2.2.1/\(bnd g).2.2.1<=(bnd g).2.2.2/\(bnd g).2.2.2<=ys.length):=by have h:=Ip (P.law n).chn.1;show⟨F20 0x2e8025752e8025850048317380 273 rfl h.2.1 P.lx,h.2.2⟩
theorem LP.glen (P:LP xs ys)(n:Nat):(AA xs ys n).length<=1600/\∀g∈AA xs ys n,g.length<=4800:=by
 have e:AA xs ys n=stLG (Bo xs ys) (AG (Bo xs ys) n) ((List.range (Bo xs ys).length).filter (AG (Bo xs ys) n)) ((List.range (Bo xs ys).length).filter (AG (Bo xs ys) n)).length:=by delta AA Bc stLG;rw[Cz]
 have l:((List.range (Bo xs ys).length).filter (AG (Bo xs ys) n)).length<=1600:=Aj (Fe _ _) (by rw[D5];show(KR P));rw[e];have k:=KM (rows:=Bo xs ys) (near:=AG (Bo xs ys) n) (rs:=(List.range (Bo xs ys).length).filter (AG (Bo xs ys) n)) ((List.range (Bo xs ys).length).filter (AG (Bo xs ys) n)).length;show⟨F20 0x640025857850640025750 273 rfl l k.1,λg hg=>by have:=k.2.1 g hg;show F20 0x12c003585732850640025750 275 rfl l this⟩
theorem KY (h:hp y=some (.list (g.map oAV)))(hg:g≠[]):loV hp (.ref y)=(bnd g).1/\hiV hp (.ref y)=(bnd g).2.1:=by
 delta loV hiV;rw[Io h];show⟨?_,?_⟩
 .clear h;cases g with
  | nil=>show absurd rfl hg
  | cons o t=>rfl
 .clear h;rcases Co g with rfl | ⟨D,o,e⟩
  .exact absurd rfl hg
  .rw [Cp]at e;subst e;rw[A2,bnd_snoc.1];simp[oAV,tupI,intA]
theorem Ls.cons{ys:List Addr}(h:Ls hp (y::ys) (g::gs)):hp y=some (.list (g.map oAV))/\Ls hp ys gs:=
 ⟨h.2 0 y g rfl rfl,by have:=h.1;simpa using this,λi z g hz hg=>h.2 (i+1) z g (by simpa using hz) (by simpa using hg)⟩
theorem SC:∀(ad:List Addr) (gs:List (List Op)),Ls hp ad gs->(∀g∈gs,g≠[])->two (cntV hp) (λv k=>.int (loV hp v+(k:Nat))) (ad.map .ref)=(BA gs).map .int:=by
 intro r_;induction r_ with
 | nil=>
  intro gs h _
  have:=h.1;clear a h;cases gs with
  | nil=>rfl
  | cons g gs=>injection this
 | cons y ad ih=>
  intro gs h hn
  cases gs with
  | nil=>have:=h.1;injection this
  | cons g gs=>
   obtain⟨a,b⟩:=h.cons;obtain⟨e1,e2⟩:=KY a (hn g (.head _));unfold two BA at *;rw[A1,DT,(ih gs b λg hg=>hn g (.tail _ hg)),DT,A2];dsimp only;unfold cntV;rw[e1,e2,Cy];rfl
theorem SD{KK:QX}(G:Gnd (KW W0) B)(hh:A.handled=none)(X:LR hp L bA wA tA gA ad xs ys ws n)(P:LP xs ys)(g0:m (S "groups")=some (.ref gA))
  (hK:∀sA,hp sA=none->sA≠L->KK .next (upd m (S "shown") (.ref sA)) (hp.set sA (.list ((BA (AA xs ys n)).map .int)))) :
  EX Md A E B (vEnv L) (vS 6) m hp KK:=by
 have gin:=P.gin n;have chg:=P.chg n;have et:=SC ad _ X.ls λg hg=>(gin g hg).1;have lx:=P.lx;have at_:∀v∈ad.map AV.ref,∃y g,v = .ref y/\y∈ad/\g∈AA xs ys n/\hp y=some (.list (g.map oAV))/\loV hp v=(bnd g).1/\hiV hp v=(bnd g).2.1:=λv hv=>by show aK (Bk.mp hv) λy hy q82=>?_;subst q82;obtain⟨i,hi⟩:=Hg hy;show aK (X.ls.at hi) λg hg h=>?_;have mg:=BS hg;show bB y g rfl hy mg h (KY h (gin g mg).1)
 show G8 rfl rfl (cl:=[]) rfl ∅ (.mono ?_ λ_ _=>Ig (cnt:=cntV hp) (e:=λv k=>.int (loV hp v+(k:Nat))) hh ∅ rfl (λ_=>rfl) λ_ _=>rfl);show Aa g0 (bB gA _ rfl (.own X.g X.gL) (?_) (λC ao ae v hv hC hCL le=>?_) λacc h h'=>?_)
 .rw [et,Ai];have:=chg.1;(show Aj () ∅)
 .refine bR (at_ v hv) λy g zz1 hy mg hg e1 e2=>?_;clear hv;subst zz1;have b:=chg.2 g mg;show Ap ⟨.refl _,?_⟩;generalize hm3:upd ao _ _=mX;have n1:mX (S "group")=some (.ref y):=by subst hm3;rfl
  have ll:Lst B ae C y (g.map oAV):=.own (le _ _ (Ab (X.aL y hy) hg)) (Ag hg hC);clear hg;obtain⟨o,t,eo⟩:∃o t,g=o::t:=by
   clear ll b e2 e1;cases g with
   | nil=>show absurd rfl (gin [] mg).1
   | cons o t=>show⟨o,t,rfl⟩
  obtain⟨D,z,ez⟩:∃D z,g=D++[z]:=by
   rcases Co g with e | ⟨D,z,e⟩
   .exact absurd e (gin g mg).1
   .exact ⟨D,z,e.trans (Cp ..)⟩
  have q0:(g.map oAV)[(0:Int).toNat]?=some (oAV o):=by rw[eo];rfl
  have dl:(g.map oAV).length=D.length+1:=by rw[ez];simp
  have q1:(g.map oAV)[(-1+((g.map oAV).length:Int)).toNat]?=some (oAV z):=by rw[dl,(⇑(F10 0x8766703604103a 0x101110110101 rfl):(-1+((D.length+1:Nat):Int)).toNat=D.length),ez];simp
  have b1:o.2.1=(bnd g).1:=by rw[eo];rfl
  have b2:z.2.2.1=(bnd g).2.1:=by rw[ez,bnd_snoc.1]
  show CX (Az G (Db W0) Da ∅ (λ_=>BK) ⟨rfl,Ac (Aq (Aq (Aa n1 (Ak (AH ll ∅ ∅ q0 (Ak (Br (j:=1) ∅ ∅ rfl rfl ?_)))))))⟩);show Ac (Aq (Aq (Aa n1 (B6 (Ak (aM 1 rfl (Ci ll ∅ ∅ (by lia) q1 (Ak (Br (j:=2) ∅ ∅ rfl rfl (Af ?_))))))))));show IS λr ob hr hrC ro=>⟨(Hp.Le.refl _).set hr _,λk=>.int (o.2.1+(k:Nat)),?_,λk mK hpK hk le5 hm ho=>Aa hm ⟨by dsimp only;rw[e1,b1],.refl _⟩⟩;rw[(by unfold cntV;rw[e1,e2,b1,b2]:cntV hp (.ref y)=(z.2.2.1-o.2.1).toNat)];show .range hh (Ad ..) hrC ro (F02 0x840000000000000000f50418789070480 4353 rfl b.1.1 b1) (F13 0x40000000000000000f59779907388087802e8025750 1052945 rfl lx b.1.2.1 b.1.2.2 b1) (F03 0x940000000000000000f504188990878070480 69649 rfl b.1.1 b.1.2.1 b2) (F12 0x40000000000000000f5877890737802e8025750 65809 rfl lx b.1.2.2 b2)
 .rw [et];show hK acc h h'
theorem atL_s (f:Nat->List Int)(k:Nat):atL f (k+1)=atL f k++[((cat f 0 k).length:Int)]:=by unfold atL;rw[Dz,A2,<-Ee];rfl
theorem KZ (f:Nat->List Int)(k:Nat):(atL f k).length=k:=by unfold atL;simp
theorem SE{KK:QX}{k:Nat}(G:Gnd (KW W0) B)(X:OA hp L oA aA f k)(D:OD L oA aA)(g:m (S "ours")=some (.ref oA))(hk:(cat f 0 k).length<=4000)(hk2:k<=4000)
  (hK:∀ah,ah oA=some (.list ((cat f 0 k).map .int))->ah aA=some (.list ((atL f (k+1)).map .int))->(∀z o,z≠aA->hp z=some o->ah z=some o)->KK .next m ah) :
  EX Md A E B (vEnv L) (vW 1) m hp KK:=by
 show AJ (Bs (AK (c:=L+2) rfl X.c (cl2 L) (aQ aA _ rfl X.a D.aL (Ac (AU (Az G (B8 W0) B7 ∅ (λ_=>AT) ⟨rfl,Ac (Aa g (Af (BB (.own X.o D.oL) (by rw[Ai];show sz' (Aj () ∅)) (Af (aQ _ _ rfl X.a (by rw[Ai,KZ];show sz' (Aj () ∅)) ⟨nofun,nofun,nofun,?_⟩)))))⟩))))));show hK _ (Ab D.oa X.o) ?_ λz o hz e=>Ab hz e;rw[Ad,atL_s,A2,Ai];rfl
theorem SF{KK:QX}{k:Nat}(G:Gnd (KW W0) B)(X:OA hp L oA aA f k)(D:OD L oA aA)(g:m (S "ours")=some (.ref oA))(hk:(cat f 0 k).length<=4000)(hk2:k<=4000)
  (hK:∀ah,ah oA=some (.list ((cat f 0 k).map .int))->ah aA=some (.list ((atL f (k+1)).map .int))->(∀z o,z≠aA->hp z=some o->ah z=some o)->KK .next m ah) :
  EX Md A E B (vEnv L) (vS 9) m hp KK:=by
 show AJ (Bs (AK (c:=L+2) rfl X.c (cl2 L) (aQ aA _ rfl X.a D.aL (Ac (AU (Az G (B8 W0) B7 ∅ (λ_=>AT) ⟨rfl,Ac (Aa g (Af (BB (.own X.o D.oL) (by rw[Ai];show sz' (Aj () ∅)) (Af (aQ _ _ rfl X.a (by rw[Ai,KZ];show sz' (Aj () ∅)) ⟨nofun,nofun,nofun,?_⟩)))))⟩))))));show hK _ (Ab D.oa X.o) ?_ λz o hz e=>Ab hz e;rw[Ad,atL_s,A2,Ai];rfl
theorem SG (gs:List (List Op))(i:Nat):(BA gs).contains (i:Int)=shF gs i:=by unfold shF;rw[Bool.eq_iff_iff,List.contains_iff_mem,decide_eq_true_iff]
theorem SI{KK:QX}(G:Gnd (KW W0) B)(hu:A.units+64<cLine)(X:OA hp L oA aA (expE xs (shF gs) λi=>ws.getD i 0) i)(D:OD L oA aA)(h1:hp bA=some (.list (xs.map .int)))(bL:bA≠L)(h2:hp wA=some (.list (ws.map .int)))(wL:wA≠L)(h3:hp sA=some (.list ((BA gs).map .int)))(sL:sA≠L)
  (g1:m (S "i")=some (.int i))(g2:m (S "base")=some (.ref bA))(g3:m (S "ways")=some (.ref wA))(g4:m (S "shown")=some (.ref sA))(g5:m (S "ours")=some (.ref oA))
  (hi:i<xs.length)(hx:xs.length<=744)(hw:ws.length=xs.length)(h3w:∀x∈ws,x=0\/x=1\/x=2)(ba:bA≠aA)
  (hK:∀m' ah,OA ah L oA aA (expE xs (shF gs) λi=>ws.getD i 0) (i+1)->(∀z o,z≠oA->z≠aA->hp z=some o->ah z=some o)->(∀y,y∉["way"]->m' (S y)=m (S y))->KK .next m' ah) :
  EXs Md A E B (vEnv L) [vW 0,vW 1,vW 2] m hp KK:=by
 have wi:(ws.map AV.int)[((i:Nat):Int).toNat]?=some (.int (ws.getD i 0)):=by rw[AW,AZ,A3 (F30 0x97489608740 4353 rfl hi hw),AD,A3 ⇑(F30 0x97489608740 4353 rfl hi hw)];rfl
 have xi:(xs.map AV.int)[((i:Nat):Int).toNat]?=some (.int (xs.getD i 0)):=by rw[AW,AZ,A3 ⇑(F20 0x8748740 17 rfl hi),AD,A3 ⇑(F20 0x8748740 17 rfl hi)];rfl
 have ib:(i:Int)<2 ^ 63:=BI (⇑(F20 0xfa00257382e80258508740 273 rfl hi hx):(i:Int)<=4000) ∅;have cl:(cat (expE xs (shF gs) λi=>ws.getD i 0) 0 i).length<=1488:=by have:=Ef (EG (xs:=xs) (sh:=shF gs) (way:=λi=>ws.getD i 0)) i;show F30 0x5d0025957229502e80258508740 4386 rfl hi hx this
 have aC:∀wv:Int,(wv=0\/wv=1\/wv=2)->expE xs (shF gs) (λi=>ws.getD i 0) i=(if wv=0 then[xs.getD i 0] else if wv=1 then[-1-(i:Int)] else[-1-(i:Int),xs.getD i 0])->EXs Md A E B (vEnv L) [vW 1,vW 2] (upd m (S "way") (.int wv)) hp KK:=λwv h01 he=>by
  generalize hm1:upd m _ _=m1;have n0:m1 (S "way")=some (.int wv):=by subst hm1;lk
  have n1:m1 (S "i")=some (.int i):=by rw[<-hm1];lk
  have n2:m1 (S "base")=some (.ref bA):=by rw[<-hm1];lk
  have n5:m1 (S "ours")=some (.ref oA):=by rw[<-hm1];lk
  have nk:∀y,y∉["way"]->m1 (S y)=m (S y):=λy hy=>by rw[<-hm1];show updO hy rfl
  clear hm1;show Ae (SE G X D n5 (Aj () ∅) (F20 0xfa0025752e80258508740 273 rfl hi hx) λhp1 o1 a1 k1=>?_);have b1:=k1 _ _ ba h1;have Xs:∀ah:Hp,ah oA=some (.list ((cat (expE xs (shF gs) λi=>ws.getD i 0) 0 (i+1)).map .int))->(∀z o,z≠oA->hp1 z=some o->ah z=some o)->KK .next m1 ah:=λah e1 e2=>
   hK m1 ah ⟨e1,e2 _ _ (Ah D.oa) a1,e2 _ _ (Ah D.oc) (k1 _ _ (Ah D.ac) X.c)⟩ (λz o z1 z2 e=>e2 _ _ z1 (k1 _ _ z2 e)) nk
  show Ae (AJ (ED (Aa n5 (aQ oA _ rfl o1 D.oL (Ac (Aq (AM (Ac (AM (Ac (Aq (Aa n2 (Aa n1 (AH (.own b1 bL) (As _) ib xi ?_))))))))))))));show Af ⟨sz rfl,λq0 hq0 q0L=>?_⟩;have le0:Hp.Le hp1 (hp1.set q0 (.list [.int (xs.getD i 0)])):=(Hp.Le.refl hp1).set hq0 _;have e0:(hp1.set q0 (.list [AV.int (xs.getD i 0)])) q0=some (.list ([xs.getD i 0].map .int)):=Ad ..;generalize hp1.set q0 (.list [AV.int (xs.getD i 0)])=hp2 at *;show Ac (AM (Ac (At (B6 (Ak ⟨1,rfl,Aa n1 (BP (Af ⟨sz rfl,λq1 hq1 q1L=>?_⟩))⟩)))));have le1:Hp.Le hp2 (hp2.set q1 (.list [.int (-1-(i:Int))])):=(Hp.Le.refl hp2).set hq1 _;have e1:(hp2.set q1 (.list [AV.int (-1-(i:Int))])) q1=some (.list ([-1-(i:Int)].map .int)):=Ad ..;have le01:=le0.trans le1;generalize hp2.set q1 (.list [AV.int (-1-(i:Int))])=hp3 at *;show Ac (AM (Ac (At (B6 (Ak ⟨1,rfl,Aa n1 (BP (Ac (Aq (Aa n2 (Aa n1 (AH (.own (le01 _ _ b1) bL) (As _) ib xi ?_))))))⟩)))));show Af ⟨sz rfl,λq2 hq2 q2L=>Af ⟨sz rfl,λq hq qL=>?_⟩⟩;have le2:Hp.Le hp3 (hp3.set q2 (.list [.int (-1-(i:Int)),.int (xs.getD i 0)])):=(Hp.Le.refl hp3).set hq2 _;have le3:Hp.Le hp3 ((hp3.set q2 (.list [.int (-1-(i:Int)),.int (xs.getD i 0)])).set q (.list [.ref q0,.ref q1,.ref q2])):=le2.set (le2.none hq) _;have f2:((hp3.set q2 (.list [.int (-1-(i:Int)),.int (xs.getD i 0)])).set q (.list [.ref q0,.ref q1,.ref q2])) q2=some (.list ([-1-(i:Int),xs.getD i 0].map .int)):=Ab (Ag (Ad ..) hq) (Ad ..);have f3:((hp3.set q2 (.list [.int (-1-(i:Int)),.int (xs.getD i 0)])).set q (.list [.ref q0,.ref q1,.ref q2])) q=some (.list [.ref q0,.ref q1,.ref q2]):=Ad ..;have le4:=le01.trans le3;generalize (hp3.set q2 (.list [.int (-1-(i:Int)),.int (xs.getD i 0)])).set q (.list [.ref q0,.ref q1,.ref q2])=hp4 at *;have fin:∀(qx:Addr) (ys:List Int),hp4 qx=some (.list (ys.map .int))->qx≠L->ys.length<=2->expE xs (shF gs) (λi=>ws.getD i 0) i=ys->∃(zs:List AV) (b:Addr) (us:List AV),[AV.ref qx]=[.ref b]/\hp4 oA=some (.list zs)/\hp4 b=some (.list us)/\b≠L/\zs.length+us.length<=5000/\KK .next m1 (hp4.set oA (.list (zs++us))):=λqx ys h hL hl hE=>by show bx _ qx _ rfl (le4 _ _ o1) h hL (by rw[Ai,Ai];show F20 0x13880358705248505d0025750 273 rfl cl hl) (Xs _ ?_ λz o hz e=>Ab hz (le4 _ _ e));rw[Ad,cat_succ,Cf,hE,A2]
  have lq:Lst B hp4 L q [.ref q0,.ref q1,.ref q2]:=.own f3 qL;rcases h01 with rfl | rfl | rfl
  .refine Aa n0 (AH lq ∅ ∅ rfl (Af ?_));show bo (fin q0 _ (le3 _ _ (le1 _ _ e0)) q0L (by simp) (by rw[he];rfl)) λzs b us h1 h2 h3 h4 h5 h6=>?_;show bx zs b us h1 h2 h3 h4 h5 ⟨nofun,nofun,nofun,Ao h6⟩
  .refine Aa n0 (AH lq ∅ ∅ rfl (Af ?_));show bo (fin q1 _ (le3 _ _ e1) q1L (by simp) (by rw[he];rfl)) λzs b us h1 h2 h3 h4 h5 h6=>?_;show⟨zs,b,us,h1,h2,h3,h4,h5,nofun,nofun,nofun,Ao h6⟩
  .refine Aa n0 (AH lq ∅ ∅ rfl (Af ?_));show bo (fin q2 _ f2 q2L (by simp) (by rw[he];rfl)) λzs b us h1 h2 h3 h4 h5 h6=>?_;show⟨zs,b,us,h1,h2,h3,h4,h5,nofun,nofun,nofun,Ao h6⟩
 show Ae (AS (E2 (Av (Aa g1 (Aa g4 (Sm (.own h3 sL) (ul () ∅) (Ar ?_)))))));rw[SG];cases hs:shF gs i with
 | true=>show if_t (Ak (aC 0 (.inl rfl) (by unfold expE;rw[if_pos (.inl hs)];rfl)))
 | false=>
  show if_f (Aq (Aa g3 (Aa g1 (AH (.own h2 wL) (As _) ib wi (aC _ (h3w _ (by rw[AD,A3 ⇑(F30 0x97489608740 4353 rfl hi hw)];show FQ _)) ?_)))));unfold expE;rw[hs];simp only[EY,false_or]
theorem SJ{KK:QX}(hh:A.handled=none)(c2:hp (L+2)=some (.cell none))
  (hK:∀oA aA ah,hp oA=none->hp aA=none->OD L oA aA->ah oA=some (.list [])->ah aA=some (.list [])->ah (L+2)=some (.cell (some (.ref aA)))->(∀z o,z≠L+2->hp z=some o->ah z=some o)->KK .next (upd m (S "ours") (.ref oA)) ah) :
  EX Md A E B (vEnv L) (vS 7) m hp KK:=by
 show D9 (A9 (Ac (AM (Af ⟨sz rfl,λoA ho hoL=>Ac (AM (Af ⟨sz rfl,λaA ha haL=>Af ⟨sz rfl,?_⟩⟩))⟩))));have l1:Hp.Le hp (hp.set oA (.list [])):=(Hp.Le.refl _).set ho _;have l2:=l1.set (l1.none ha) (.list []);have oa:=Ag (Ad ..) ha;have oc:oA≠L+2:=λe=>by rw[e,c2]at ho;cases ho
 have ac:aA≠L+2:=λe=>by rw[e,l1 _ _ c2]at ha;cases ha
 show Ca hh rfl rfl rfl (Au (Ap (Au (Fo (c:=L+2) rfl (l2 _ _ c2) (cl2 L) (Bd ?_)))));show hK oA aA _ ho (l1.none ha) ⟨oa,hoL,haL,oc,ac⟩ (Ab oc (Ab oa (Ad ..))) (Ab ac (Ad ..)) (Ad ..) λz o hz e=>Ab hz (l2 _ _ e)
theorem SK{KK:QX}(G:Gnd (KW W0) B)(hh:A.handled=none)(hu:A.units+64<cLine)(h1:hp bA=some (.list (xs.map .int)))(bL:bA≠L)(h2:hp wA=some (.list (ws.map .int)))(wL:wA≠L)(h3:hp sA=some (.list ((BA gs).map .int)))(sL:sA≠L)(c2:hp (L+2)=some (.cell none))
  (g2:m (S "base")=some (.ref bA))(g3:m (S "ways")=some (.ref wA))(g4:m (S "shown")=some (.ref sA))
  (hx:xs.length<=744)(hw:ws.length=xs.length)(h3w:∀x∈ws,x=0\/x=1\/x=2)
  (hK:∀oA aA m' ah,hp oA=none->hp aA=none->OD L oA aA->ah oA=some (.list ((B4 xs (shF gs) λi=>ws.getD i 0).map .int))->ah aA=some (.list ((atL (expE xs (shF gs) λi=>ws.getD i 0) (xs.length+1)).map .int))->ah (L+2)=some (.cell (some (.ref aA)))->(∀z o,z≠L+2->hp z=some o->ah z=some o) ->
   m' (S "ours")=some (.ref oA)->(∀y,y∉["ours", "i", "way"]->m' (S y)=m (S y))->EXs Md A E B (vEnv L) aC m' ah KK) :
  EXs Md A E B (vEnv L) (vS 7::vS 8::vS 9::aC) m hp KK:=by
 show Ae (SJ hh c2 λoA aA hp1 o0 a0 D o1 a1 d2 k1=>?_);have b0:∀{z xs},hp z=some (.list xs)->z≠L+2:=λ{z xs} e h=>by rw[h,c2]at e;cases e
 have b1:=k1 _ _ (b0 h1) h1;have ba:=Ag h1 a0;generalize hm1:upd m _ _=m1;have n2:m1 (S "base")=some (.ref bA):=by subst hm1;lk
 have n5:m1 (S "ours")=some (.ref oA):=by rw[<-hm1];lk
 have nk:∀y,y∉["ours", "i", "way"]->m1 (S y)=m (S y):=λy hy=>by rw[<-hm1];show updO hy rfl
 have n3:m1 (S "ways")=some (.ref wA):=by rw[nk _ ∅];show g3
 have n4:m1 (S "shown")=some (.ref sA):=by rw[nk _ ∅];show g4
 have X0:OA hp1 L oA aA (expE xs (shF gs) λi=>ws.getD i 0) 0:=⟨o1,a1,d2⟩;show Ae (H9 hh (CX (Az G (Db W0) Da ∅ (λ_=>BK) ⟨rfl,Ac (AU (Az G (B8 W0) B7 ∅ (λ_=>AT) ⟨rfl,Ac (Aa n2 (Af (BB (.own b1 bL) (by rw[Ai];show sz' (Aj () ∅)) (Af (DB λr ob hr hrL ro=>?_)))))⟩))⟩)));rw[Ai]at ro
 have l2:Hp.Le hp1 (hp1.set r (.obj ob)):=(Hp.Le.refl hp1).set hr _;have hr2:(hp1.set r (.obj ob)) r=some (.obj ob):=Ad ..;have X1:OA (hp1.set r (.obj ob)) L oA aA (expE xs (shF gs) λi=>ws.getD i 0) 0:=⟨l2 _ _ X0.o,l2 _ _ X0.a,l2 _ _ X0.c⟩;generalize hp1.set r (.obj ob)=hp2 at *;show bY r ob 0 _ rfl hr2 hrL ro ∅ ∅ (As _) (F10 0x40000000000000000f57372e8025750 17 rfl hx) λit hit hitL=>?_;have ne:∀{z o},hp2 z=some o->z≠it:=λe=>Ag e hit;show aW (λk ao ae=>OA ae L oA aA (expE xs (shF gs) λi=>ws.getD i 0) k/\(∀z o,z≠oA->z≠aA->hp2 z=some o->ae z=some o)/\∀y,y∉["i", "way"]->ao (S y)=m1 (S y)) (λob=>aP ⟨Ab (ne X1.o) X1.o,Ab (ne X1.a) X1.a,Ab (ne X1.c) X1.c⟩ (λz o _ _ e=>Ab (ne e) e) λ_ _=>rfl) (λk ao ae ob y=>(aP ⟨Ab (ne X1.o) y.1.o,Ab (ne X1.a) y.1.a,Ab (ne X1.c) y.1.c⟩ (λz o h1 h2 e=>Ab (ne e) (y.2.1 z o h1 h2 e)) y.2.2)) (λk ao ae ob hk y hit2=>?_) λao ae y=>?_
 .refine aZ y λy1 y2 y3=>?_;rw[C5];show Ap (SI (m:=upd ao (S "i") (.int k)) G hu y1 D (y2 _ _ (Ag h1 o0) ba (l2 _ _ b1)) bL (y2 _ _ (Ag h2 o0) (Ag h2 a0) (l2 _ _ (k1 _ _ (b0 h2) h2))) wL (y2 _ _ (Ag h3 o0) (Ag h3 a0) (l2 _ _ (k1 _ _ (b0 h3) h3))) sL (by lk) ?_ ?_ ?_ ?_ hk hx hw h3w ba λm' ah q1 q2 q3=>?_)
  .rw [ug,if_neg ∅,y3 _ ∅];show n2
  .rw [ug,if_neg ∅,y3 _ ∅];show n3
  .rw [ug,if_neg ∅,y3 _ ∅];show n4
  .rw [ug,if_neg ∅,y3 _ ∅];show n5
  .refine ⟨aP q1 (λz o h1 h2 e=>q2 z o h1 h2 (y2 z o h1 h2 e)) λy hy=>?_,q2 _ _ (Ah (ne X1.o)) (Ah (ne X1.a)) hit2⟩;rw[q3 y (λh=>hy (.tail _ h)),ug,if_neg (λh:y = "i" => hy (by rw[h];show .head _))];show y3 y hy
 .refine aZ y λy1 y2 y3=>?_;have dl:∀{z o},z≠it->ae z=some o->(ae.del it) z=some o:=λh e=>by rw[A4 _ h];show e
  show Ae (SF (k:=xs.length) G ⟨dl (ne X1.o) y1.o,dl (ne X1.a) y1.a,dl (ne X1.c) y1.c⟩ D (by rw[y3 _ ∅];show n5) (F20 0xfa0025857228502e8025750 274 rfl hx ((λk=>Ef (EG (xs:=xs) (sh:=shF gs) (way:=λi=>ws.getD i 0)) k) xs.length)) (Aj () ∅) λhp5 o5 a5 k5=>?_);show hK oA aA ao hp5 o0 a0 D o5 a5 (k5 _ _ (Ah D.ac) (dl (ne X1.c) y1.c)) (λz o hz e=>?_) (by rw[y3 _ ∅];show n5) λy hy=>?_
  .have e1:=l2 _ _ (k1 z o hz e);show k5 _ _ (Ag e a0) (dl (ne e1) (y2 _ _ (Ag e o0) (Ag e a0) e1))
  .rw [y3 y (λh=>hy (.tail _ h))];show nk y hy
theorem Ir{a:Int}(h : 0<=a):clipAt n a=min a.toNat n:=by
 unfold clipAt;rw[if_neg (CC.mpr h)];obtain⟨k,rfl⟩:=BD h;rw[AW];rcases Nat.le_total k n with c | c
 .rw [Int.min_eq_left (F3.mpr c),FT c,Int.max_eq_right (As _)]
 .rw [Int.min_eq_right (F3.mpr c),FU c,Int.max_eq_right (As _)]
theorem La (xs:List Int){a:Int}(ha : 0<=a)(hb : 0<=b):pick xs (some a) (some b)=Bj xs a b:=by
 delta pick Bj;change List.take (clipAt xs.length b-clipAt xs.length a) (List.drop (clipAt xs.length a) xs)=_;rw[Ir ha,Ir hb];by_cases h:a.toNat<=xs.length
 .rw [FT h];by_cases h2:b.toNat<=xs.length
  .rw [FT h2]
  .have h3:=Nat.le_of_not_le h2;rw[FU h3,BE (by rw[Es];show A5 _),BE (by rw[Es];show Nat.sub_le_sub_right h3 _)]
 .have h3:=Nat.le_of_not_le h;rw[FU h3,EQ (A5 _),EQ h3,List.take_nil,List.take_nil]
theorem SL (xs:List Int){a:Int}(ha : 0<=a):pick xs (some a) none=xs.drop a.toNat:=by
 unfold pick;change List.take (xs.length-clipAt xs.length a) (List.drop (clipAt xs.length a) xs)=_;rw[Ir ha];by_cases h:a.toNat<=xs.length
 .rw [FT h,BE (by simp)]
 .rw [FU ⇑(F20 0x78587520 17 rfl h),EQ (A5 _),EQ ⇑(F20 0x78587520 17 rfl h)];simp
theorem SM (l:List Int)(p q:Int):(Bj l p q).length<=q.toNat-p.toNat:=by unfold Bj;rw[Em];show Nat.min_le_left _ _
theorem SN (l:List Int)(p q:Int):(Bj l p q).length<=l.length:=by unfold Bj;rw[Em,Es];show Aj (FS _ _) (DG _ _)
theorem Lb (l:List Int){p:Int}(h0 : 0<=p)(h:p<=q):((Bj l p q).length:Int)<=q-p:=by
 (show F12 0x781a387a50878070480781a73a83a 0x11100100001110100001111001000011111001011110010000110010101011100100001100100110 rfl h0 h (SM l p q))
theorem Dc (f:Nat->List Int){i:Int}(h0 : 0<=i)(h:i<=j) : 0<=Am f i/\Am f i<=Am f j:=by have:=congrArg List.length (G5 f h0 h);unfold Am;rw[if_pos h0,if_pos (Ce () ())];rw[Ba]at this;show⟨F10 471112 1 rfl,F30 0x93738987060 257 rfl this⟩
theorem SO {a:Int->Int}{k:Nat}(h:gs[k]?=some g):stMV a ours theirs gs (k+1)=stMv a ours theirs (stMV a ours theirs gs k) g:=DD h
theorem SP:∀{gs:List (List Op)} {i0 j0:Int}{st:MvSt},ChG K la lb i0 j0 gs->st.2.2=i0->0<=i0->0<=j0->(st.1.length:Int)<=Am f i0+j0->∀k,(0<=((gs.take k).foldl (stMv (Am f) ours theirs) st).2.2/\((gs.take k).foldl (stMv (Am f) ours theirs) st).2.2<=la)/\(((gs.take k).foldl (stMv (Am f) ours theirs) st).1.length:Int)<=Am f la+lb:=by
 intro gs
 induction gs with
 | nil=>
  intro i0 j0 st h e h0 h1 hl k;have:=Ip h;rw[List.take_nil,DS,e];have m:=Dc f h0 this.1.1;show⟨⟨h0,this.1.1⟩,Ce hl (Int.add_le_add m.2 this.1.2)⟩
 | cons g gs ih=>
  intro i0 j0 st h e h0 h1 hl k;cases k with
  | zero=>
   have:=Ip h;have m:=Dc f h0 this.1.1;show⟨⟨e▸h0,e▸this.1.1⟩,Ce hl (Int.add_le_add m.2 this.1.2)⟩
  | succ k=>
   show bf h λzz1 l1 l2 _ h'=>?_;show aS zz1 λm e1 e2 _=>?_;show ih h' rfl (F13 0x90489880737089070480 69889 rfl h0 e1 l1) (F13 0x90489880737089070480 69889 rfl h1 e2 l2) ?_ k;unfold stMv;have m0:=Dc f h0 (⇑(F12 0x7887380790 272 rfl e1):i0<=(bnd g).1);have m2:=Dc f (⇑(F12 0x8048737089070480 4353 rfl h0 e1):0<=(bnd g).1) l1;have m3:=(Dc f h0 (Ax _)).1;have s1:=Lb ours m3 m0.2;have s2:=Lb theirs (⇑(F12 0x8048737089070480 4353 rfl h1 e2):0<=(bnd g).2.2.1) l2;rw[e,Ba,Ba,Ff,Ff];have:=m2.2
   (show fk [_,_,_,_] [_,_,_,_,_,_] 0xbc0a39373008ca809b1a3807a1938083809908707380 17895681 rfl hl e2 s1 s2 this)
theorem LP.mlen (P:LP xs ys)(n:Nat)(f:Nat->List Int)(hf:∀k,(f k).length<=2)(ours:List Int)(k:Nat):(0<=(stMV (Am f) ours ys (AA xs ys n) k).2.2/\(stMV (Am f) ours ys (AA xs ys n) k).2.2<=xs.length)/\(stMV (Am f) ours ys (AA xs ys n) k).1.length<=2300:=by have h:=SP (f:=f) (ours:=ours) (theirs:=ys) (st:=([],[],0)) (P.law n).chn.1 rfl (Ax 0) (Ax 0) (by change((0:Nat):Int)<=_;have:=(Dc f (Ax 0) (Ax 0)).1;assumption) k;show⟨h.1,by have:=h.2;show fk [_,_,_,_] [_] 0x8fc02575a3790922a502e80258502e802595083707380 16847137 rfl h.2 P.lx P.ly (Ef hf xs.length) (Ee f xs.length)⟩
theorem SQ (h:hp y=some (.list (g.map oAV)))(yL:y≠L)(hg:g≠[]):∃o z,GQ hp L y g o z:=by
 obtain⟨o,t,eo⟩:∃o t,g=o::t:=by
  clear h;cases g with
  | nil=>show absurd rfl hg
  | cons o t=>show⟨o,t,rfl⟩
 obtain⟨D,z,ez⟩:∃D z,g=D++[z]:=by
  rcases Co g with e | ⟨D,z,e⟩
  .exact absurd e hg
  .exact ⟨D,z,e.trans (Cp ..)⟩
 have dl:(g.map oAV).length=D.length+1:=by rw[ez];simp
 have c1:(bnd g).1=o.2.1/\(bnd g).2.2.1=o.2.2.2.1:=by rw[eo];show⟨rfl,rfl⟩
 have c2:(bnd g).2.1=z.2.2.1/\(bnd g).2.2.2=z.2.2.2.2:=by rw[ez];show bnd_snoc
 show⟨o,z,h,yL,by rw[eo];rfl,?_,by lia,?_⟩
 .rw [dl,(⇑(F10 0x8766703604103a 0x101110110101 rfl):(-1+((D.length+1:Nat):Int)).toNat=D.length),ez];simp
 .rw [<-c1.1,<-c1.2,<-c2.1,<-c2.2]
theorem GQ.up{o z:Op}(Q:GQ hp L y g o z)(h:ah y=some (.list (g.map oAV))):GQ ah L y g o z:={ Q with h:=h }
theorem F0 (h0 : 0<=k)(h:k<=n):((atL f (n+1)).map AV.int)[k.toNat]?=some (.int (Am f k)):=by unfold atL;rw[AZ,AZ,Fb ⇑(F11 0x680748378073a 268505360 rfl h)];change some (AV.int (Am f (k.toNat:Int)))=_;rw[(by(show DE ()):((k.toNat:Nat):Int)=k)]
theorem SR{la:Nat}{md:List Int}{o z:Op}{here:Int}{KK:QX}(G:Gnd (KW W0) B)(R:MR hp L oA aA tA f la ys)(V:MM oA tA mA vA here m)(g0:m (S "group")=some (.ref y))(Q:GQ hp L y g o z)(hm:hp mA=some (.list (md.map .int)))(mL:mA≠L)(c3:∃v,hp (L+3)=some (.cell v))
  (hla:la<=744)(hf:∀k,(f k).length<=2)(hy:ys.length<=744)(hmd:md.length<=2300)(h0 : 0<=here)(h1:here<=la)(o0 : 0<=o.2.1)(o1:o.2.1<=la)(p0 : 0<=o.2.2.2.1)(p1 : 0<=z.2.2.2.2)
  (ym:y≠mA)(tm:tA≠mA)
  (hK:∀ah m1,m1=md++Bj (cat f 0 la) (Am f here) (Am f o.2.1)->ah mA=some (.list ((m1++Bj ys o.2.2.2.1 z.2.2.2.2).map .int))->ah (L+3)=some (.cell (some (.int ((m1.length:Int)-o.2.2.2.1))))->(∀z o,z≠mA->z≠L+3->hp z=some o->ah z=some o)->EXs Md A E B (vEnv L) aC m ah KK) :
  EXs Md A E B (vEnv L) (vX 0::vX 1::vX 2::aC) m hp KK:=by
 show be c3 λv3 c3=>?_;have cl:=Ef hf la;have al:Lst B hp L aA ((atL f (la+1)).map .int):=.own R.a R.aL;have big:∀k:Int,k<=la->k<2 ^ 63:=λk hk=>BI (⇑(F11 0xfa002578737802e8025750 273 rfl hla hk):k<=4000) ∅;have s1:=SN (cat f 0 la) (Am f here) (Am f o.2.1);have t1:Am f o.2.1<=1488:=by have a:=(Dc f o0 o1).2;show fk [_,_] [_] 0x5d002578837807228502e8025750 4370 rfl hla cl a
 show Ae (AJ (ED (Aa V.md (aQ mA _ rfl hm mL (Ac (Gf (Aa V.o ?_)))))));show Aq (AK (c:=L+2) rfl R.c (cl2 L) (Aa V.h (AH al h0 (big _ h1) (F0 h0 h1) ?_)));show Aq (AK (c:=L+2) rfl R.c (cl2 L) (Aq (Aq (Aa g0 (Ak (AH (.own Q.h Q.yL) ∅ ∅ Q.q0 (Ak (Br (j:=1) ∅ ∅ rfl rfl (AH al o0 (big _ o1) (F0 o0 o1) ?_)))))))));show bM oA _ (some _) (some _) rfl (.own R.o R.oL) (by rw[Ai];show sz' (F20 0x1388035857228502e8025750 274 rfl hla cl)) rfl rfl λb hb hbL=>?_;rw[GC,La _ ((Dc f h0 (Ax _)).1) ((Dc f o0 (Ax _)).1)];have le1:=(Hp.Le.refl hp).set hb (.list ((Bj (cat f 0 la) (Am f here) (Am f o.2.1)).map .int));show Af (bx _ b _ rfl (le1 _ _ hm) (Ad ..) hbL (by rw[Ai,Ai];show F40 0x1388035a8059a507229508fc0258502e8025750 69906 rfl hla hmd cl s1) ⟨nofun,nofun,nofun,?_⟩);rw[<-A2];generalize hm1:md++Bj (cat f 0 la) (Am f here) (Am f o.2.1)=m1;have ml:m1.length<=3788:=by rw[<-hm1,Ba];show F40 0xecc025a8059a507229508fc0258502e8025750 69906 rfl hla hmd cl s1
 have k1:∀z' o',z'≠mA->hp z'=some o'->((hp.set b (.list ((Bj (cat f 0 la) (Am f here) (Am f o.2.1)).map .int))).set mA (.list (m1.map .int))) z'=some o':=λ_ _ hz e=>Ab hz (le1 _ _ e);have hm2:((hp.set b (.list ((Bj (cat f 0 la) (Am f here) (Am f o.2.1)).map .int))).set mA (.list (m1.map .int))) mA=some (.list (m1.map .int)):=Ad ..;generalize (hp.set b (.list ((Bj (cat f 0 la) (Am f here) (Am f o.2.1)).map .int))).set mA (.list (m1.map .int))=hp1 at *;have mc:mA≠L+3:=λe=>by rw[e,c3]at hm;cases hm
 have y1:=k1 _ _ ym Q.h;show Ae (Fp (c:=L+3) rfl (cl3 L) (At (AU (Az G (B8 W0) B7 ∅ (λ_=>AT) ⟨rfl,Ac (Aa V.md (Af (BB (.own hm2 mL) (by rw[Ai];show sz' (Aj () ∅)) ?_)))⟩))));rw[Ai];show Aq (Aq (Aa g0 (Ak (AH (.own y1 Q.yL) ∅ ∅ Q.q0 (Ak (Br (j:=3) ∅ ∅ rfl rfl (BP ⟨v3,k1 _ _ (Ah mc) c3,?_⟩)))))));have yc:y≠L+3:=λe=>by have:=Q.h;rw[e,c3]at this;cases this
 have tc:tA≠L+3:=λe=>by have:=R.t;rw[e,c3]at this;cases this
 have y2:(hp1.set (L+3) (.cell (some (.int ((m1.length:Int)-o.2.2.2.1))))) y=some (.list (g.map oAV)):=Ab yc y1;have t2:(hp1.set (L+3) (.cell (some (.int ((m1.length:Int)-o.2.2.2.1))))) tA=some (.list (ys.map .int)):=Ab tc (k1 _ _ tm R.t);have m2:(hp1.set (L+3) (.cell (some (.int ((m1.length:Int)-o.2.2.2.1))))) mA=some (.list (m1.map .int)):=Ab mc hm2;have k2:∀z' o',z'≠mA->z'≠L+3->hp z'=some o'->(hp1.set (L+3) (.cell (some (.int ((m1.length:Int)-o.2.2.2.1))))) z'=some o':=λz o h1 h2 e=>Ab h2 (k1 _ _ h1 e);have d3:(hp1.set (L+3) (.cell (some (.int ((m1.length:Int)-o.2.2.2.1))))) (L+3)=some (.cell (some (.int ((m1.length:Int)-o.2.2.2.1)))):=Ad ..;generalize hp1.set (L+3) (.cell (some (.int ((m1.length:Int)-o.2.2.2.1))))=hp2 at *;have s2:(Bj ys o.2.2.2.1 z.2.2.2.2).length<=744:=by unfold Bj;rw[Em,Es];show Aj (FS ..) (Aj (DG ..) hy)
 show Ae (AJ (ED (Aa V.md (aQ mA _ rfl m2 mL (Ac (Gf (Aa V.t ?_)))))));show Aq (Aq (Aa g0 (Ak (AH (.own y2 Q.yL) ∅ ∅ Q.q0 (Ak (Br (j:=3) ∅ ∅ rfl rfl ?_))))));show Aq (Aq (Aa g0 (B6 (Ak (aM 1 rfl (Ci (.own y2 Q.yL) ∅ ∅ Q.le Q.q1 (Ak (Br (j:=4) ∅ ∅ rfl rfl ?_))))))));show bM tA _ (some _) (some _) rfl (.own t2 R.tL) (by rw[Ai];show sz' (Aj () ∅)) rfl rfl λb hb hbL=>?_;rw[GC,La _ p0 p1];have le3:=(Hp.Le.refl hp2).set hb (.list ((Bj ys o.2.2.2.1 z.2.2.2.2).map .int));show Af (bx _ b _ rfl (le3 _ _ m2) (Ad ..) hbL (by rw[Ai,Ai];show F20 0x138803587052e8025850ecc025750 273 rfl ml s2) ⟨nofun,nofun,nofun,?_⟩);rw[<-A2];show hK _ m1 hm1.symm (Ad ..) (Ab mc.symm (le3 _ _ d3)) λz o h1 h2 e=>Ab h1 (le3 _ _ (k2 z o h1 h2 e))
theorem ST (f:Nat->List Int)(s:Int)(g:List Op):((g.map oAV).filter λ_=>true).map (mvV f s)=(g.map λo=>(o.1,Am f o.2.1,Am f o.2.2.1,o.2.2.2.1+s,o.2.2.2.2+s)).map oAV:=by rw[Ht.mpr λ_ _=>rfl,Cy,Cy];show Fc λo _=>rfl
theorem SU{la:Nat}{o z:Op}{here s:Int}{zs:List Addr}{KK:QX}(hh:A.handled=none)(R:MR hp L oA aA tA f la ys)(V:MM oA tA mA vA here m)(g0:m (S "group")=some (.ref y))(Q:GQ hp L y g o z)(gin:∀o∈g,InI la o)(gl:g.length<=4800)(hla:la<=744)(c3:hp (L+3)=some (.cell (some (.int s))))(hv:hp vA=some (.list (zs.map .ref)))(vL:vA≠L)(yv:y≠vA)(zl:zs.length<=2000)
  (hK:∀ah acc,hp acc=none->acc≠L->ah acc=some (.list ((g.map λo=>(o.1,Am f o.2.1,Am f o.2.2.1,o.2.2.2.1+s,o.2.2.2.2+s)).map oAV))->ah vA=some (.list ((zs++[acc]).map .ref))->(∀z o,z≠vA->hp z=some o->ah z=some o)->KK .next (upd m (S "here") (.int z.2.2.1)) ah) :
  EXs Md A E B (vEnv L) [vX 3,vX 4] m hp KK:=by
 have big:∀k:Int,k<=la->k<2 ^ 63:=λk hk=>BI (⇑(F11 0xfa002578737802e8025750 273 rfl hla hk):k<=4000) ∅;show Ae (AJ (Bs (Aa V.v (aQ vA _ rfl hv vL (Ac (G9 (p:=λ_=>true) (e:=mvV f s) (cl:=[(S "shift",L+3),(S "at",L+2)]) hh rfl ∅ ∅ (Aa g0 (bB y _ rfl (.own Q.h Q.yL) (by rw[Ai];(show Aj () ∅)) (λC ao ae v hv' hC hCL le=>?_) λacc hacc haccL=>?_))))))))
 .refine aK (Bk.mp hv') λp ah zz1=>?_;subst zz1;have I:=gin p ah;have up:∀z o,z≠L->hp z=some o->ae z=some o:=λz o hz e=>le _ _ (Ab hz e);have al:Lst B ae C aA ((atL f (la+1)).map .int):=.own (up _ _ R.aL R.a) (Ag R.a hC);have c2':=up _ _ (cl2 L) R.c;have c3':=up _ _ (cl3 L) c3;have n2:=Ag R.c hC;have n3:=Ag c3 hC;show Ca hh rfl rfl rfl (Au (Ap (Au (Ap (Au (Ap (Au (Ap (Au (Ap (Bd ?_)))))))))));show⟨.refl _,Ea (aP rfl (.refl _) λ_=>?_)⟩;generalize hm3:upd (upd (upd (upd (upd ao _ _) _ _) _ _) _ _) _ _=mX;have t0:mX (S "tag")=some (.str (S p.1)):=by subst hm3;lk
  have t1:mX (S "i1")=some (.int p.2.1):=by subst hm3;lk
  have t2:mX (S "i2")=some (.int p.2.2.1):=by clear t1 t0;subst hm3;lk
  have t3:mX (S "j1")=some (.int p.2.2.2.1):=by clear t2 t1 t0;subst hm3;lk
  have t4:mX (S "j2")=some (.int p.2.2.2.2):=by clear t3 t2 t1 t0;subst hm3;lk
  show A9 (Ac (Aa t0 (Ac (Aq (AK (c:=L+2) rfl c2' n2 (Aa t1 (AH al I.1.1 (big _ I.1.2) (F0 I.1.1 I.1.2) ?_)))))));show Ac (Aq (AK (c:=L+2) rfl c2' n2 (Aa t2 (AH al I.2.1 (big _ I.2.2) (F0 I.2.1 I.2.2) ?_))));show Ac (At (Aa t3 (AK (c:=L+3) rfl c3' n3 (A6 (Ac (At (Aa t4 (AK (c:=L+3) rfl c3' n3 (A6 (Af ⟨sz rfl,rfl,.refl _⟩))))))))))
 .rw [ST];have le1:=(Hp.Le.refl hp).set hacc (.list ((g.map λo=>(o.1,Am f o.2.1,Am f o.2.2.1,o.2.2.2.1+s,o.2.2.2.2+s)).map oAV));have av:=Ah (Ag hv hacc);show Af (aQ _ _ rfl (le1 _ _ hv) (by rw[Ai];show sz' (Aj () ∅)) ⟨nofun,nofun,nofun,?_⟩);have a1:((hp.set acc (.list ((g.map λo=>(o.1,Am f o.2.1,Am f o.2.2.1,o.2.2.2.1+s,o.2.2.2.2+s)).map oAV))).set vA (.list (zs.map .ref++[.ref acc]))) acc=some (.list ((g.map λo=>(o.1,Am f o.2.1,Am f o.2.2.1,o.2.2.2.1+s,o.2.2.2.2+s)).map oAV)):=Ab av (Ad ..);have v1:((hp.set acc (.list ((g.map λo=>(o.1,Am f o.2.1,Am f o.2.2.1,o.2.2.2.1+s,o.2.2.2.2+s)).map oAV))).set vA (.list (zs.map .ref++[.ref acc]))) vA=some (.list ((zs++[acc]).map .ref)):=by rw[Ad,A2];rfl
  have k1:∀z' o',z'≠vA->hp z'=some o'->((hp.set acc (.list ((g.map λo=>(o.1,Am f o.2.1,Am f o.2.2.1,o.2.2.2.1+s,o.2.2.2.2+s)).map oAV))).set vA (.list (zs.map .ref++[.ref acc]))) z'=some o':=λ_ _ h e=>Ab h (le1 _ _ e);generalize (hp.set acc (.list ((g.map λo=>(o.1,Am f o.2.1,Am f o.2.2.1,o.2.2.2.1+s,o.2.2.2.2+s)).map oAV))).set vA (.list (zs.map .ref++[.ref acc]))=hp1 at *;show Ae (AS (Aq (Aq (Aa g0 (B6 (Ak (aM 1 rfl (Ci (.own (k1 _ _ yv Q.h) Q.yL) ∅ ∅ Q.le Q.q1 (Ak (Br (j:=2) ∅ ∅ rfl rfl ?_))))))))));show Ao (hK hp1 acc hacc haccL a1 v1 k1)
theorem SV{la:Nat}{zs:List Addr}{st:MvSt}{ob:AO}{KK:QX}(G:Gnd (KW W0) B)(hh:A.handled=none)(R:MR hp L oA aA tA f la ys)(X:MS hp L mA vA it st zs)(V:MM oA tA mA vA st.2.2 m)(g0:m (S "group")=some (.ref y))(hy:hp y=some (.list (g.map oAV)))(yL:y≠L)(hg:g≠[])(gin:∀o∈g,InI la o)(gl:g.length<=4800)(hit:hp it=some ob)
  (hla:la<=744)(hf:∀k,(f k).length<=2)(hyl:ys.length<=744)(hmd:st.1.length<=2300)(h0 : 0<=st.2.2)(h1:st.2.2<=la)(hb:(0<=(bnd g).1/\(bnd g).1<=(bnd g).2.1/\(bnd g).2.1<=la)/\(0<=(bnd g).2.2.1/\(bnd g).2.2.1<=(bnd g).2.2.2/\(bnd g).2.2.2<=ys.length))(zl:zs.length<=2000)
  (mL:mA≠L)(vL:vA≠L)(mv:mA≠vA)(ym:y≠mA)(yv:y≠vA)(tm:tA≠mA)(om:oA≠mA)(am:aA≠mA)(im:it≠mA)(ic:it≠L+3)
  (hK:∀m' ah zs',MS ah L mA vA it (stMv (Am f) (cat f 0 la) ys st g) zs'->m' (S "here")=some (.int (stMv (Am f) (cat f 0 la) ys st g).2.2)->(∀z o,z≠mA->z≠vA->z≠L+3->hp z=some o->ah z=some o)->(∀y,y∉["here"]->m' (S y)=m (S y))->zs'.length=zs.length+1->KK .next m' ah) :
  EXs Md A E B (vEnv L) [vX 0,vX 1,vX 2,vX 3,vX 4] m hp KK:=by
 show bP (SQ hy yL hg) λo z Q=>?_;have eb:=Q.b;rw[eb]at hb
 show SR G R V g0 Q X.m mL X.c hla hf hyl hmd h0 h1 hb.1.1 (by(show F12 0x7378738808780 273 rfl hb.1.2.1 hb.1.2.2)) hb.2.1 (F02 0x8048878070480 273 rfl hb.2.1 hb.2.2.1) ym tm λhp1 m1 e1 a1 c1 k1=>?_;show be X.c λv0 c0=>?_;have nc:∀{x us},hp x=some (.list us)->x≠L+3:=λe h=>by rw[h,c0]at e;cases e
 show SU (s:=(m1.length:Int)-o.2.2.2.1) hh (⟨k1 _ _ om (nc R.o) R.o,k1 _ _ am (nc R.a) R.a,k1 _ _ (λe=>by have:=R.c;rw[e,X.m]at this;cases this) (by simp) R.c,k1 _ _ tm (nc R.t) R.t,R.oL,R.aL,R.tL⟩) V g0 (Q.up (k1 _ _ ym (nc hy) hy)) gin gl hla c1 (k1 _ _ mv.symm (nc X.v) X.v) vL yv zl λhp2 acc n1 n2 a2 v2 k2=>?_;have es:stMv (Am f) (cat f 0 la) ys st g=(m1++Bj ys o.2.2.2.1 z.2.2.2.2,st.2.1++[g.map λp=>(p.1,Am f p.2.1,Am f p.2.2.1,p.2.2.2.1+((m1.length:Int)-o.2.2.2.1),p.2.2.2.2+((m1.length:Int)-o.2.2.2.1))],z.2.2.1):=by unfold stMv;rw[eb];rw[<-e1]
 show hK _ hp2 (zs++[acc]) ?_ ?_ (λx o' h1 h2 h3 e=>k2 _ _ h2 (k1 _ _ h1 h3 e)) (λy hy=>updO hy rfl) (by simp)
 .rw [es];show⟨k2 _ _ mv a1,v2,?_,λx hx=>?_,_,k2 _ _ (nc X.v).symm c1⟩
  .refine Ls.snoc ⟨X.ls.1,λi x g' hx hg'=>?_⟩ a2;have q:=X.z x (BS hx);show(λe h h'=>k2 _ _ h' (k1 _ _ h (nc e) e)) (X.ls.2 i x g' hx hg') q.2.1 q.2.2.1
  .clear v2 a2;rcases Aw.mp hx with h | h
   .exact X.z x h
   .rw [Ay]at h;clear hx;subst h;have no:∀{q o},hp1 q=some o->x≠q:=λe h=>by rw[h,e]at n1;cases n1
    show⟨n2,no a1,no (k1 _ _ mv.symm (nc X.v) X.v),no c1,no (k1 _ _ im ic hit)⟩
 .rw [es];lk
theorem SW{KK:QX}(hh:A.handled=none)(hK:∀mA vA,hp mA=none->hp vA=none->mA≠L->vA≠L->mA≠vA->KK .next (upd (upd (upd m (S "here") (.int 0)) (S "moved") (.ref vA)) (S "made") (.ref mA)) ((hp.set mA (.list [])).set vA (.list []))) :
  EX Md A E B (vEnv L) (vS 10) m hp KK:=by
 show Dq hh (names:=[S "made",S "moved",S "here"]) (A9 (Ac (AM (Af ⟨sz rfl,λmA hm hmL=>Ac (AM (Af ⟨sz rfl,λvA hv hvL=>Ac (Ak (Af ⟨sz rfl,_,rfl,rfl,Bu (Bu (Bu (Bd ?_)))⟩))⟩))⟩))));show hK mA vA hm (((Hp.Le.refl hp).set hm (.list [])).none hv) hmL hvL (Ag (Ad ..) hv)
theorem SX{la:Nat}{KK:QX}(G:Gnd (KW W0) B)(hh:A.handled=none)(R:MR hp L oA aA tA f la ys)(T:GB gs f la ys)(hg:hp gA=some (.list (ad.map .ref)))(gL:gA≠L)(ls:Ls hp ad gs)(aL:∀y∈ad,y≠L)(c3:hp (L+3)=some (.cell none))
  (g1:m (S "ours")=some (.ref oA))(g2:m (S "theirs")=some (.ref tA))(g3:m (S "groups")=some (.ref gA))
  (hK:∀m' ah mA vA zs,hp mA=none->mA≠L->vA≠L->mA≠vA->ah mA=some (.list (((stMV (Am f) (cat f 0 la) ys gs gs.length).1++(cat f 0 la).drop (Am f (stMV (Am f) (cat f 0 la) ys gs gs.length).2.2).toNat).map .int))->ah vA=some (.list (zs.map .ref))->Ls ah zs (stMV (Am f) (cat f 0 la) ys gs gs.length).2.1->(∀z∈zs,z≠L/\z≠mA) ->
   (∀z o,z≠L+3->hp z=some o->ah z=some o)->m' (S "made")=some (.ref mA)->m' (S "moved")=some (.ref vA)->(∀y,y∉["made", "moved", "here", "group"]->m' (S y)=m (S y))->EXs Md A E B (vEnv L) aC m' ah KK) :
  EXs Md A E B (vEnv L) (vS 10::vS 11::vS 12::aC) m hp KK:=by
 show Ae (SW hh λmA vA m0 v0 mL vL mv=>?_);have l1:Hp.Le hp ((hp.set mA (.list [])).set vA (.list [])):=((Hp.Le.refl hp).set m0 _).set v0 _;have hm1:((hp.set mA (.list [])).set vA (.list [])) mA=some (.list []):=Ab mv (Ad ..);have hv1:((hp.set mA (.list [])).set vA (.list [])) vA=some (.list []):=Ad ..;generalize hml:upd (upd (upd m (S "here") (.int 0)) (S "moved") (.ref vA)) (S "made") (.ref mA)=m1;have n1:m1 (S "made")=some (.ref mA):=by subst hml;lk
 have n2:m1 (S "moved")=some (.ref vA):=by rw[<-hml];lk
 have n3:m1 (S "here")=some (.int 0):=by rw[<-hml];lk
 have nk:∀y,y∉["made", "moved", "here", "group"]->m1 (S y)=m (S y):=λy hy=>by rw[<-hml];show updO hy (updO hy (updO hy rfl))
 have n4:m1 (S "ours")=some (.ref oA):=by rw[nk _ ∅];show g1
 have n5:m1 (S "theirs")=some (.ref tA):=by rw[nk _ ∅];show g2
 have n6:m1 (S "groups")=some (.ref gA):=by rw[nk _ ∅];show g3
 have R1:MR ((hp.set mA (.list [])).set vA (.list [])) L oA aA tA f la ys:=⟨l1 _ _ R.o,l1 _ _ R.a,l1 _ _ R.c,l1 _ _ R.t,R.oL,R.aL,R.tL⟩;have hg1:=l1 _ _ hg;have c31:=l1 _ _ c3;have ne:∀{z o},hp z=some o->z≠mA/\z≠vA:=λe=>⟨Ag e m0,Ag e v0⟩;have kp:∀{z us},hp z=some (.list us)->z≠mA/\z≠vA/\z≠L+3:=λe=>⟨(ne e).1,(ne e).2,λh=>by rw[h,c3]at e;cases e⟩;generalize (hp.set mA (.list [])).set vA (.list [])=hp1 at *;show Ae (DA hh (Aa n6 (aT gA _ rfl (.own hg1 gL) λit hit hitL=>?_)));have ni:∀{z o},hp1 z=some o->z≠it:=λe=>Ag e hit;show bD (λk ao ae=>(∃zs,MS ae L mA vA it (stMV (Am f) (cat f 0 la) ys gs k) zs/\zs.length=k)/\(∀z o,z≠mA->z≠vA->z≠L+3->hp1 z=some o->ae z=some o)/\ao (S "here")=some (.int (stMV (Am f) (cat f 0 la) ys gs k).2.2)/\∀y,y∉["group", "here"]->ao (S y)=m1 (S y)) (λob=>aV ⟨[],⟨Ab (ni hm1) hm1,Ab (ni hv1) hv1,⟨rfl,λ_ _ _ h=>nomatch h⟩,(λ_ h=>nomatch h),_,Ab (ni c31) c31⟩,rfl⟩ (λz o _ _ _ e=>Ab (ni e) e) n3 λ_ _=>rfl) (λk ao ae ob y=>⟨y.1.imp λzs x=>⟨⟨Ab (ni hm1) x.1.m,Ab (ni hv1) x.1.v,x.1.ls.set (λh=>(x.1.z it h).2.2.2.2 rfl) _,x.1.z,x.1.c.imp λv e=>Ab (ni c31) e⟩,x.2⟩,λz o h1 h2 h3 e=>Ab (ni e) (y.2.1 z o h1 h2 h3 e),y.2.2⟩) (λk ao ae y=>.own (y.2.1 _ _ (kp hg).1 (kp hg).2.1 (kp hg).2.2 hg1) gL) (λk x ao ae ob hx y hit2=>?_) λao ae y=>?_
 .refine a7 y λzz1 y1 y2 y3=>?_;show aK zz1 λzs x1 x2=>?_;clear zz1;rw[AZ]at hx;show aK (C7.mp hx) λya hya q82=>?_;clear hx;subst q82;show aK (ls.at hya) λg hgk hyg=>?_;have mg:=BS hgk;have ky:=kp hyg;have up:∀{z us},hp z=some (.list us)->ae z=some (.list us):=λe=>y1 _ _ (kp e).1 (kp e).2.1 (kp e).2.2 (l1 _ _ e);have q:=T.mv k;show Ap (SV (m:=upd ao (S "group") (.ref ya)) G hh (⟨up R.o,up R.a,y1 _ _ (ne R.c).1 (ne R.c).2 (by simp) R1.c,up R.t,R.oL,R.aL,R.tL⟩) x1 ⟨?_,?_,?_,?_,?_⟩ (by lk) (up hyg) (aL ya (BS hya)) (T.ne g mg).1 (T.ne g mg).2 (T.gl g mg) hit2 T.lla T.lf T.lys q.2 q.1.1 q.1.2 (T.bd g mg) (F30 0x7d00257564002595098408760 69889 rfl x2 ((BF.mp hgk).1) T.len) mL vL mv ky.1 ky.2.1 (kp R.t).1 (kp R.o).1 (kp R.a).1 (Ah (ni hm1)) (Ah (ni c31)) λm' ah zs' a1 a2 a3 a4 a5=>?_)
  .rw [ug,if_neg ∅,y3 _ ∅];show n4
  .rw [ug,if_neg ∅,y3 _ ∅];show n5
  .rw [ug,if_neg ∅,y3 _ ∅];show n1
  .rw [ug,if_neg ∅,y3 _ ∅];show n2
  .exact y2
  .rw [<-SO hgk]at a1 a2;show⟨aV (aM zs' a1 (F30 0x680966709608760 68989030416 rfl x2 a5)) (λz o h1 h2 h3 e=>a3 z o h1 h2 h3 (y1 z o h1 h2 h3 e)) a2 λy hy=>?_,a3 _ _ (Ah (ni hm1)) (Ah (ni hv1)) (Ah (ni c31)) hit2⟩;rw[a4 y (λh=>hy (.tail _ h)),ug,if_neg (λh:y = "group" => hy (by rw[h];show .head _))];show y3 y hy
 .refine a7 y λzz1 y1 y2 y3=>?_;show aK zz1 λzs x1 x2=>?_;clear zz1;rw[Ai,ls.1]at x1 y2;have dl:∀{z o},z≠it->ae z=some o->(ae.del it) z=some o:=λh e=>by rw[A4 _ h];show e
  have q:=T.mv gs.length;have fr:=λz o h1 h2 h3 e=>dl (ni e) (y1 z o h1 h2 h3 e);have up:∀{z us},hp z=some (.list us)->(ae.del it) z=some (.list us):=λe=>fr _ _ (kp e).1 (kp e).2.1 (kp e).2.2 (l1 _ _ e);have m2:=dl (ni hm1) x1.m;have l2:=x1.ls.del λh=>(x1.z it h).2.2.2.2 rfl;generalize ae.del it=hp3 at *;generalize stMV (Am f) (cat f 0 la) ys gs gs.length=st at *;have cl:=Ef T.lf la;have la7:=T.lla;show Ae (AJ (ED (Aa (v:=.ref mA) (by rw[y3 _ ∅];show n1) (aQ mA _ rfl m2 mL (Ac (Gf (Aa (v:=.ref oA) (by rw[y3 _ ∅];show n4) ?_)))))));show Aq (AK (c:=L+2) rfl (fr _ _ (ne R.c).1 (ne R.c).2 (by simp) R1.c) (cl2 L) (Aa y2 (AH (.own (up R.a) R.aL) q.1.1 (BI (⇑(F11 0xfa0025782e802575073780 273 rfl q.1.2 la7):st.2.2<=4000) ∅) (F0 q.1.1 q.1.2) ?_)));show bM oA _ (some _) none rfl (.own (up R.o) R.oL) (by rw[Ai];show sz' (F20 0x1388035752e8025850822750 289 rfl cl la7)) rfl rfl λb hb hbL=>?_;rw[GC,SL _ (Dc f q.1.1 (Ax _)).1];have lb:=(Hp.Le.refl hp3).set hb (.list (((cat f 0 la).drop (Am f st.2.2).toNat).map .int));show Af (bx _ b _ rfl (lb _ _ m2) (Ad ..) hbL (by rw[Ai,Ai,Es];show F40 0x138803578052e8025a50a229508fc025850a80a 1184016 rfl q.2 cl la7) ⟨nofun,nofun,nofun,?_⟩);rw[<-A2];show hK ao _ mA vA zs m0 mL vL mv (Ad ..) (Ab mv.symm (lb _ _ (dl (ni hv1) x1.v))) ⟨l2.1,λi y g hy hg=>?_⟩ (λz hz=>⟨(x1.z z hz).1,(x1.z z hz).2.1⟩) (λz o hz e=>Ab (ne e).1 (lb _ _ (fr z o (ne e).1 (ne e).2 hz (l1 _ _ e)))) (by rw[y3 _ ∅];show n1) (by rw[y3 _ ∅];show n2) λy hy=>?_
  .exact Ab (x1.z y (BS hy)).2.1 (lb _ _ (l2.2 i y g hy hg))
  .rw [y3 y (λh=>hy (by simp at h ⊢;show h.elim (λe=>.inr (.inr (.inr e))) λe=>.inr (.inr (.inl e))))];show nk y hy
theorem GI.told{n:Int}{st:GSt}{ys:List Addr}(I:GI hb S' L it n st gA ys m hp)(hb':bA≠L)(h:(hp.set S' (.list (ys.map .ref++[.ref gA]))) bA=none)(hit:hp it=some (.obj ob))
  (k1:m' (S "n")=some (.int n))(k2:m' (S "nn")=some (.int (n+n)))(k3:m' (S "group")=some (.ref bA))(hl:st.1.length<=998) :
  GI hb S' L it n (st.1++[st.2],[]) bA (ys++[gA]) m' ((hp.set S' (.list (ys.map .ref++[.ref gA]))).set bA (.list [])):=by
 have q:=I.fr gA (.head _);have bs:bA≠S':=λe=>by rw[e,Ad]at h;cases h
 have h0:=CV bs h;have by':=I.ls.fresh h0;have bg:=Ah (Ag I.gl h0);show⟨k1,k2,k3,Ad ..,Ab bs.symm (by rw[Ad,A2];rfl),((I.ls.set (λe=>(I.fr S' (.tail _ e)).2.2.2 rfl) _).set by' _).snoc (Ab bg.symm (Ab q.2.2.2 I.gl)),λy hy=>?_,λhm=>?_,λz o e=>Ab (Ag (I.le z o e) h0) (Ab (Ag e I.bS) (I.le z o e)),I.bS,I.sL,I.si,?_⟩
 .clear bg by' k3 h;rcases Bg.mp hy with rfl | hy
  .exact aV (I.le.none h0) hb' (Ah (Ag hit h0)) bs
  .rcases Aw.mp hy with hy | hy
   .exact I.fr y (.tail _ hy)
   .rw [Ay]at hy;clear I;subst hy;show q
 .rcases Aw.mp hm with h | h
  .exact by' h
  .rw [Ay]at h;show bg h
 .simp;show hl
theorem SY{ys:List Addr}{K:Flow->Sem PySem.Fin}{H:Value->Sem PySem.Fin}{n:Int}{cs:List Op}{k:Nat}{o:Op}
  (G:Gnd (KW W0) B)(hh:(A.over c fs).handled=none)(hfs:splitAtGen fs=none)(hfg:fs.any Frame.guarded=false)(az:cs.length<=300)(ho:cs[k]?=some o)(hkb:Hp.Le hk hb)
  (I:GI hb S' L it n (stG n cs k) gA ys m hp)(hit:hp it=some (.obj ob))
  (cont:∀n' mY hpY gA' ys',N<=n'->GI hb S' L it n (stG n cs (k+1)) gA' ys' mY hpY->hpY it=some (.obj ob)->GF A B (callEnv Bb L 218) h0 (lcon hk S' L) F n' c fs K .next mY hpY) :
  ASG Md (A.over c fs) (λ_ _=>False) B (callEnv Bb L 218) forT (oAV o) m hp λmX hpX=>GS PW W0 A B (callEnv Bb L 218) h0 (lcon hk S' L) F (N+1) c fs K H forB mX hpX:=by
 obtain⟨t,i1,i2,j1,j2⟩:=o;have hlg:=KH (n:=n) (cs:=cs) k;have hl1:=KH (n:=n) (cs:=cs) (k+1);have hkl:=(BF.mp ho).1;have hst:=KG (n:=n) ho;show Ca hh rfl rfl rfl (Au (Ap (Au (Ap (Au (Ap (Au (Ap (Au (Ap (Bd ?_)))))))))));generalize hm1:upd (upd (upd (upd (upd m _ _) _ _) _ _) _ _) _ _=m1;have g1:m1 (S "tag")=some (.str (S t)):=by subst hm1;lk
 have g2:m1 (S "i1")=some (.int i1):=by rw[<-hm1];lk
 have g3:m1 (S "i2")=some (.int i2):=by rw[<-hm1];lk
 have g4:m1 (S "j1")=some (.int j1):=by rw[<-hm1];lk
 have g5:m1 (S "j2")=some (.int j2):=by rw[<-hm1];lk
 have g6:m1 (S "n")=some (.int n):=by have:=I.hn;rw[<-hm1];lk
 have g7:m1 (S "nn")=some (.int (n+n)):=by have:=I.hnn;rw[<-hm1];lk
 have g8:m1 (S "group")=some (.ref gA):=by have:=I.hg;rw[<-hm1];lk
 have I1:={ I with hn:=g6,hnn:=g7,hg:=g8 };have q:=I1.fr gA (.head _);show Ja (BZ (AC (Av (Aa g1 (Bw (Ez (Ar ?_)))))));rw[EI];have hnoyield:¬(t = "equal" /\ i2-i1>n+n)->GS PW W0 A B (callEnv Bb L 218) h0 (lcon hk S' L) F (N+1) c fs (KK (callEnv Bb L 218) (forB.drop 1) K H) H [] m1 hp:=λhc=>by show DZ (Gj (KI (st':=stG n cs (k+1)) I1 hit g1 g2 g3 g4 g5 ?_ (by lia) λmY hpY gA' ys'=>cont (N+1) mY hpY gA' ys' (Dd _)));show hst.trans ?_;show if_neg hc
 by_cases e:t = "equal"
 .refine AP e (AC (Av (At (Aa g3 (Aa g2 (BP (Aa g7 (Dp (Ar ?_)))))))));by_cases hgt:n+n<i2-i1
  .refine AP hgt (C9 (if_t ?_));show CZ (AJ (Bs (Aa g8 (aQ gA _ rfl I1.gl q.2.1 (Ac (A9 (Ac (Aa g1 (Ac (Aa g2 ?_))))))))));show Ac (AU (Az G (Gu W0) Gr ∅ (λ_=>AT) ⟨rfl,Ac (Aa g3 (Ac (At (Aa g2 (Aa g6 (A6 (Af (Gl hh ?_)))))))) ⟩));show Ac (Aa g4 (Ac (AU (Az G (Gu W0) Gr ∅ (λ_=>AT) ⟨rfl,Ac (Aa g5 (Ac (At (Aa g4 (Aa g6 (A6 (Af (Gl hh ?_)))))))) ⟩))));show Af ⟨sz rfl,Af (aQ _ _ rfl I1.gl (by rw[Ai];show sz' (F30 0x1388035857940985012c025750 4369 rfl az hlg.2 hkl)) ⟨nofun,nofun,nofun,?_⟩)⟩;have hg1:(hp.set gA (.list ((stG n cs k).2.map oAV++[.tup [.str (S t),.int i1,.int (imin i2 (i1+n)),.int j1,.int (imin j2 (j1+n))]]))) gA=some (.list (((stG n cs k).2++[(t,i1,imin i2 (i1+n),j1,imin j2 (j1+n))]).map oAV)):=by rw[Ad,A2];rfl
   have hit1:(hp.set gA (.list ((stG n cs k).2.map oAV++[.tup [.str (S t),.int i1,.int (imin i2 (i1+n)),.int j1,.int (imin j2 (j1+n))]]))) it=some (.obj ob):=Ab q.2.2.1.symm hit;have I3:GI hb S' L it n ((stG n cs k).1,(stG n cs k).2++[(t,i1,imin i2 (i1+n),j1,imin j2 (j1+n))]) gA ys m1 (hp.set gA (.list ((stG n cs k).2.map oAV++[.tup [.str (S t),.int i1,.int (imin i2 (i1+n)),.int j1,.int (imin j2 (j1+n))]]))):={ I1 with gl:=hg1,s:=Ab q.2.2.2.symm I1.s,ls:=I1.ls.set I1.gy _,le:=I1.le.set q.1 _,len:=by simp;show F40 0x3e70256a080579409a50985012c025750 74002 rfl az hlg.1 hlg.2 hkl };show IZ hfs hfg (Aa g8 ⟨aW _ I3.s I3.sL (by rw[Ai];show F40 0x3e8025a48a607940985012c025750 1052945 rfl az hlg.1 hkl I3.ls.1) (hkb.trans I3.le),λae hpo=>?_⟩);show aK hpo λacc a1 zz1=>?_;clear hpo;subst zz1;rw[I3.s]at a1;cases a1;show CZ (AS (AM (Af ⟨sz rfl,λbA hbA hbL=>?_⟩)));show CZ (Dq hh (names:=[S "i1",S "j1"]) (A9 (Ac (AU (Az G (Gs W0) Gq ∅ (λ_=>AT) ⟨rfl,Ac (Aa (v:=.int i1) (by lk) (Ac (At (Aa (v:=.int i2) (by lk) (Aa (v:=.int n) (by lk) (BP (Af (Gk hh ?_)))))))) ⟩)))));show Ac (AU (Az G (Gs W0) Gq ∅ (λ_=>AT) ⟨rfl,Ac (Aa (v:=.int j1) (by lk) (Ac (At (Aa (v:=.int j2) (by lk) (Aa (v:=.int n) (by lk) (BP (Af (Gk hh ?_)))))))) ⟩));show Af ⟨sz rfl,_,rfl,rfl,Bu (Bu (Bd ?_))⟩;show DZ (Gj (KI (st':=stG n cs (k+1)) (t:=t) (i1:=imax i1 (i2-n)) (i2:=i2) (j1:=imax j1 (j2-n)) (j2:=j2) (I3.told (m':=upd (upd (upd m1 (S "group") (.ref bA)) (S "j1") (.int (imax j1 (j2-n)))) (S "i1") (.int (imax i1 (i2-n)))) hbL hbA hit1 (by lk) (by lk) (by lk) (by change(stG n cs k).1.length<=998;show F30 0x3e6025857940985012c025750 4369 rfl az hlg.1 hkl)) (Ab (Ag (Ab I3.si.symm hit1) hbA) (Ab I3.si.symm hit1)) (by lk) (by lk) (by lk) (by lk) (by lk) ?_ (by lia) λmY hpY gA' ys'=>cont N mY hpY gA' ys' (A5 _)));show hst.trans ?_;show if_pos ⟨e,hgt⟩
  .exact AL hgt (if_f (hnoyield λh=>hgt h.2))
 .exact AL e (if_f (hnoyield λh=>e h.1))
theorem Lc (l:List Op):ops1 l≠[]:=by
 unfold ops1;split
 .simp
 .assumption
theorem SZ {l:List Op}(h:l.length<=150):(ops1 l).length<=150:=by
 unfold ops1;split
 .decide
 .exact h
theorem Ld (n:Int)(l:List Op):(headTrim n l).length=l.length:=by
 unfold headTrim;split
 .split <;> rfl
 .rfl
theorem Ta (n:Int)(l:List Op):(lastTrim n l).length=l.length:=by
 unfold lastTrim;rcases Co l with h | ⟨ini,o,h⟩
 .subst h;rfl
 .rw [Cp]at h;subst h;obtain⟨_⟩:=o;simp only[Dj,Ep,Hq];split <;> simp
theorem Tb{ys:List Addr}{n:Int}{st:GSt}(G:Gnd (KW W0) B)(I:GI hb S' L it n st gA ys m hp)(hkb:Hp.Le hk hb)
  (fin:∀ah ys',ah S'=some (.list (ys'.map .ref))->Ls ah ys' (if st.2=[]\/(st.2.length=1/\(st.2.head?.map (·.1))=some "equal") then st.1 else st.1++[st.2])->(∀y∈ys',y≠L)->Hp.Le hb ah->F (ah.set L (.ns m))) :
  GS PW W0 A B (callEnv Bb L 218) h0 (lcon hk S' L) F 1 c [] Kf (Hf (callEnv Bb L 218)) [grpS 8] m hp:=by
 have q:=I.fr gA (.head _);have az:=I.len;have drop:(st.2=[]\/(st.2.length=1/\(st.2.head?.map (·.1))=some "equal"))->GS PW W0 A B (callEnv Bb L 218) h0 (lcon hk S' L) F 1 c [] (KK (callEnv Bb L 218) [] Kf (Hf (callEnv Bb L 218))) (Hf (callEnv Bb L 218)) [] m hp:=λhc=>by show DZ (Gj (DZ (Jb (fin _ ys I.s ?_ (λy hy=>(I.fr y (.tail _ hy)).2.1) I.le))));rw[if_pos hc];show I.ls
 have keep:¬(st.2=[]\/(st.2.length=1/\(st.2.head?.map (·.1))=some "equal"))->GS PW W0 A B (callEnv Bb L 218) h0 (lcon hk S' L) F 1 c [] (KK (callEnv Bb L 218) [] Kf (Hf (callEnv Bb L 218))) (Hf (callEnv Bb L 218)) (kids (grpS 8)) m hp:=λhc=>by
  show IZ rfl rfl (Aa I.hg ⟨aW _ I.s I.sL (by rw[Ai];show F30 0x3e80259479603e702587050 4113 rfl az I.ls.1) (hkb.trans I.le),λae hpo=>?_⟩);show aK hpo λacc a1 zz1=>?_;clear hpo;subst zz1;rw[I.s]at a1;cases a1;show DZ (Gj (DZ (Jb (fin _ (ys++[gA]) (by rw[Ad,A2];rfl) ?_ (λy hy=>?_) λz o e=>Ab (Ag e I.bS) (I.le z o e)))))
  .rw [if_neg hc];show(I.ls.set (λe=>(I.fr S' (.tail _ e)).2.2.2 rfl) _).snoc (Ab q.2.2.2 I.gl)
  .rcases Aw.mp hy with h | h
   .exact (I.fr y (.tail _ h)).2.1
   .rw [Ay]at h;rw[h];show q.2.1
 show Ja (BZ (AC (BJ (Aa I.hg (H6 I.gl q.2.1 (by rw[Ai];show sz' (F20 0x1388035853e702587050 17 rfl az)) ?_)))));have gl:=I.gl;obtain⟨st1,st2⟩:=st;dsimp only at gl az drop keep ⊢;clear fin;cases st2 with
 | nil=>show Bl (rfl:(!(List.map oAV []).isEmpty)=false) (if_f (drop (.inl rfl)))
 | cons o r=>
  show Bx (rfl:(!(List.map oAV (o::r)).isEmpty)=true) (AC (E0 (BZ (AC (Av (AU (Az G (B8 W0) B7 ∅ (λ_=>AT) ⟨rfl,Ac (Aa I.hg (Af (BB (.own gl q.2.1) (by rw[Ai];show sz' (F20 0x1388035853e702587050 17 rfl az)) (Ak (DY (Ar ?_))))))⟩)))))));rw[Ai];by_cases h1:r.length=0
  .refine Bx (by simp[h1]:((((o::r).length:Nat):Int) == 1)=true) ?_;show AC (Av (Aq (Aq (Aa I.hg (Ak (AH (.own gl q.2.1) ∅ ∅ (x:=oAV o) rfl (Ak (Br (j:=0) (x:=.str (S o.1)) ∅ ∅ rfl rfl (Bw (Ez (Ar ?_)))))))))));rw[EI];by_cases e:o.1 = "equal"
   .exact AP e (C9 (if_f (if_f (drop (.inr ⟨by show congrArg _ h1,by show congrArg _ e⟩)))))
   .exact AL e (if_t (C9 (if_t (keep λh=>h.elim (λh=>nomatch h) λh=>e (by simpa using h.2)))))
  .refine Bl (show((((o::r).length:Nat):Int) == 1)=false from by simp;show F10 0x6673092047620 69889 rfl h1) ?_;show if_t (C9 (if_t (keep λh=>h.elim (λh=>nomatch h) λh=>h1 (by simpa using h.1))))
theorem Lf {hb0:Hp}{ops:List Op}{n:Int}(G:Gnd (KW W0) B)(hh:A.handled=none)(az:ops.length<=150)(h1:m (S "codes")=some (.ref cA))(h2:m (S "n")=some (.int n))(hc:hp cA=some (.list ((ops1 ops).map oAV)))(cL:cA≠L)(c0:hb0 cA=none)(cS:cA≠S')
  (hs:hp S'=some (.list []))(sL:S'≠L)(s0:hb0 S'=none)(le:Hp.Le hb0 hp)(hkb:Hp.Le hk hb0)
  (fin:∀ah m' ys,ah S'=some (.list (ys.map .ref))->Ls ah ys (CT n ops)->(∀y∈ys,y≠L)->Hp.Le hb0 ah->F (ah.set L (.ns m'))) :
  GS PW W0 A B (callEnv Bb L 218) h0 (lcon hk S' L) F 302 c [] Kf (Hf (callEnv Bb L 218)) [grpS 3,grpS 4,grpS 5,grpS 6,grpS 7,grpS 8] m hp:=by
 have l1:=SZ az;show Jc _ (Ql G hh h1 h2 hc cL (Lc _) (Aj () ∅)) ?_;clear hc h1;rintro m5 hp5 ⟨g1,g2,rfl⟩;have l2:(headTrim n (ops1 ops)).length<=150:=by rw[Ld];show l1
 show Jc _ (Qm (l:=headTrim n (ops1 ops)) G hh g1 g2 (Ad ..) cL (λe=>Lc ops (DH.mp (by rw[<-Ld n,e];rfl))) (Aj () ∅)) ?_;clear g1;rintro m6 hp6 ⟨k1,k2,rfl⟩;rw[Ch];have l3:(codesIn n ops).length<=150:=by change(lastTrim n (headTrim n (ops1 ops))).length<=150;rw[Ta];show l2
 have ec:lastTrim n (headTrim n (ops1 ops))=codesIn n ops:=rfl;rw[ec];have hpc:(hp.set cA (.list ((codesIn n ops).map oAV))) cA=some (.list ((codesIn n ops).map oAV)):=Ad ..;have s6:(hp.set cA (.list ((codesIn n ops).map oAV))) S'=some (.list []):=Ab cS.symm hs;have le1:Hp.Le (hb0.set cA (.list ((codesIn n ops).map oAV))) (hp.set cA (.list ((codesIn n ops).map oAV))):=λz o e=>by
  by_cases h:z=cA
  .clear s6 hpc k1 cS c0 cL;subst h;rw[Ad]at e ⊢;show e
  .rw [Al _ _ h]at e ⊢;show le _ _ e
 have le0:Hp.Le hb0 (hb0.set cA (.list ((codesIn n ops).map oAV))):=(Hp.Le.refl hb0).set c0 _;have hb1c:(hb0.set cA (.list ((codesIn n ops).map oAV))) cA=some (.list ((codesIn n ops).map oAV)):=Ad ..;have s1:(hb0.set cA (.list ((codesIn n ops).map oAV))) S'=none:=Ab cS.symm s0;generalize hb0.set cA (.list ((codesIn n ops).map oAV))=hb1 at *;have eg:CT n ops=if (stG n (codesIn n ops) (codesIn n ops).length).2=[]\/((stG n (codesIn n ops) (codesIn n ops).length).2.length=1/\((stG n (codesIn n ops) (codesIn n ops).length).2.head?.map (·.1))=some "equal") then(stG n (codesIn n ops) (codesIn n ops).length).1 else(stG n (codesIn n ops) (codesIn n ops).length).1++[(stG n (codesIn n ops) (codesIn n ops).length).2]:=by delta CT stG;rw[Cz]
 rw[eg]at fin;generalize codesIn n ops=cs at *;show CZ (AS (At (Aa k2 (Aa k2 (A6 ?_)))));show CZ (AS (AM (Af ⟨sz rfl,λgA hgA hgL=>?_⟩)));have sg:=Ag s6 hgA;show MY (λit kk p=>hh) (Aa (v:=.ref cA) (by lk) (aT cA (cs.map oAV) rfl (.own (Ab (Ag hpc hgA) hpc) cL) λit hit hitL=>?_));have ig:it≠gA:=λe=>by rw[e,Ad]at hit;cases hit
 have hit6:=CV ig hit;have i1:=le1.none hit6;have si:=Ag s6 hit6;show bT (λk m' ah=>∃gA ys,GI hb1 S' L it n (stG n cs k) gA ys m' ah) (λi=>cs.length-i+1) (by change cs.length-0+1<=302;(show CB () ∅)) (λob=>?_) (λi ao ae ob y=>y.imp λgA y=>y.imp λys x=>x.set i1 ob) (λi ao ae y=>y.elim λgA y=>y.elim λys x=>.own (x.le _ _ hb1c) cL) (?_) (?_)
 .refine ⟨gA,[],by lk,by lk,by lk,Ab ig.symm (Ad ..),Ab si (Ab sg s6),⟨rfl,λ_ _ _ h=>nomatch h⟩,λy hy=>?_,(λh=>nomatch h),(le1.set (le1.none hgA) _).set i1 _,s1,sL,si,Bp _⟩;rw[Ay]at hy;rw[hy];show aV (le1.none hgA) hgL ig.symm sg.symm
 .rintro kk p K' H' i y ao ae ob hy ⟨gA',ys,x⟩ hob cont;rw[AZ]at hy;show aK (C7.mp hy) λo hok q82=>?_;clear hy;subst q82;show(SY (c:=.forLoop forT (.ref it) forB [] (callEnv Bb L 218)) (fs:=[.ret kk none false [] c p []]) (N:=cs.length-i) (K:=K') (H:=H') (F:=F) (h0:=h0) G hh rfl rfl (Aj () ∅) hok (hkb.trans le0) x hob (λn' mY hpY gA'' ys'' hN x' hob'=>cont n' mY hpY (by change cs.length-(i+1)+1<=n';(show F30 0xb6805b750a940890a67081a 0x11101011100110 rfl ((BF.mp hok).1) hN)) ⟨gA'',ys'',x'⟩ hob'))
 .rintro ao ae ⟨gA',ys,x⟩;rw[Ai]at x ⊢;have hN:(λi=>cs.length-i+1) cs.length=1:=by change cs.length-cs.length+1=1;show F10 0x66706771a 0x101100110101 rfl
  rw[hN];have q:=λy hy=>(x.fr y hy).2.2.1;show Tb G ({ x with gl:=by rw[A4 _ (q gA' (.head _))];show x.gl,s:=by rw[A4 _ si];show x.s,ls:=x.ls.del λh=>q it (.tail _ h) rfl,le:=x.le.del i1 }) (hkb.trans le0) λah ys' a1 a2 a3 a4=>fin ah ao ys' a1 a2 a3 (le0.trans a4)
theorem Tc {x:Addr}{n:Int}{g:Nat}{J:Addr}(G:Gnd (KW W0) B)(hh:A.handled=none)(hu:A.units+60<cLine)(aB:A.depth+20<recursionLimit)
  (MM:MT hp L x dx (.ref aA) (.ref bA) bs aj .none .none)(la:hp aA=some (.list (as.map .int)))(aL:aA≠L)(lb:hp bA=some (.list (bs.map .int)))(bL:bA≠L)(hla:as.length<=4000)(hlb:bs.length<=4000)(hraw:(rawB (flmW as bs aj) as.length bs.length).length<64)(hres:(mbF (flmW as bs aj) as.length bs.length).length<=200)
  (az:(codesF as bs aj).length<=150)(hL':hp L'=none)(hL'e:L'≠L)(hJ:hp J=none)(hJe:J≠L)(hJL:J≠L')(hS:hp sA=none)(hSe:sA≠L)(hSL:sA≠L')(hSJ:sA≠J)
  (k:∀hpX ah ys,Hp.Le (hpX.set L (.ns m)) ah->hpX sA=some (.list (ys.map .ref))->Ls hpX ys (CT n (codesF as bs aj))->(∀z∈ys,z≠L)->(∀z o,z≠dx->z≠L->hp z=some o->hpX z=some o)->F ah) :
  GS PW W0 A.in1.in1.in1 (BG B gn g .running) (callEnv Bb L' 218) h0 (lcon (Hp.set (λ_=>none) J (.obj go)) sA L') F 302 (.func (AE (mS 9)) (callEnv Bb L' 218)) [] Kf (Hf (callEnv Bb L' 218)) (AE (mS 9)) (locOf [(S "n",.int n),(S "self",.ref x)]) (((hp.set L (.ns m)).set J (.obj go)).set sA (.list [])):=by
 obtain⟨ma,I,_⟩:=MM.keep;have G':Gnd (KW W0) (BG B gn g .running):=⟨G.X,G.top,G.lim⟩;have up:∀{z o},z≠L->hp z=some o->(((hp.set L (.ns m)).set J (.obj go)).set sA (.list [])) z=some o:=λhz e=>Ab (Ag e hS) (Ab (Ag e hJ) (Ab hz e));have ds:=Ag I.at_ hS;have sJ:(((hp.set L (.ns m)).set J (.obj go)).set sA (.list [])) sA=some (.list []):=Ad ..;have le0:Hp.Le ((((hp.set L (.ns m)).set J (.obj go)).del dx)) (((hp.set L (.ns m)).set J (.obj go)).set sA (.list [])):=λz o e=>by have h2:=HN _ _ _ _ e;show Ab (Ag h2 (Ab hSJ (Ab hSe hS))) h2
 have k0:∀{z o},z≠L->z≠dx->hp z=some o->(((hp.set L (.ns m)).set J (.obj go)).del dx) z=some o:=λhz hd e=>by rw[A4 _ hd];show Ab (Ag e hJ) (Ab hz e)
 have L0:(((hp.set L (.ns m)).set J (.obj go)).del dx) L=some (.ns m):=by rw[A4 _ I.dL.symm];show Ab hJe.symm (Ad ..)
 have J0:Hp.Le (Hp.set (λ_=>none) J (.obj go)) (((hp.set L (.ns m)).set J (.obj go)).del dx):=λz o e=>by
  by_cases h:z=J
  .clear L0 k0 le0 sJ up hSJ hJL hJe;subst h;rw[Ad]at e;rw[A4 _ (Ag I.at_ hJ).symm,Ad];show e
  .rw [Al _ _ h]at e;cases e
 have s0:(((hp.set L (.ns m)).set J (.obj go)).del dx) sA=none:=by rw[A4 _ ds.symm];show Ab hSJ (Ab hSe hS)
 have L'0:(((hp.set L (.ns m)).set J (.obj go)).del dx) L'=none:=(HN _ _).none (Ab hJL.symm (Ab hL'e hL'));have hd0:(((hp.set L (.ns m)).set J (.obj go)).del dx) dx=none:=by simp[Hp.del]
 have MM':=MM.move λz o e hn hz=>⟨up hz e,Ag e hL'⟩;generalize ((hp.set L (.ns m)).set J (.obj go)).set sA (.list [])=hb at *;generalize ((hp.set L (.ns m)).set J (.obj go)).del dx=hb0 at *;have fin:∀ah m' ys,ah sA=some (.list (ys.map .ref))->Ls ah ys (CT n (codesF as bs aj))->(∀y∈ys,y≠L')->Hp.Le hb0 ah->F (ah.set L' (.ns m')):=λah m' ys h1 h2 h3 h4=>by
  have yL:∀y∈ys,y≠L:=λy hy e=>by obtain⟨g,hg⟩:=h2.mem hy;rw[e,h4 _ _ L0]at hg;cases hg
  show k (ah.cut L L') _ ys (λz o hz=>?_) (by rw[AN hSe hSL];show h1) ⟨h2.1,λi y g hy hg=>?_⟩ yL λz o hd hz e=>?_
  .by_cases hzL:z=L
   .clear yL k0 up right I k hSe hJe bL aL MM;subst hzL;rw[Ad]at hz;rw[Al _ _ hL'e.symm,h4 _ _ L0];show hz
   .rw [Al _ _ hzL]at hz;have hzL':z≠L':=λe=>by rw[e]at hz;simp[Hp.cut]at hz
    rw[Al _ _ hzL']
    rwa [AN hzL hzL']at hz
  .have hm:=BS hy;rw[AN (yL y hm) (h3 y hm)];show h2.2 i y g hy hg
  .rw [AN hz (Ag e hL')];show h4 _ _ (k0 hz hd e)
 have e:(A.in1.in1.in1.over (Code.func (AE (mS 9)) (callEnv Bb L' 218)) []).units<=A.units+20:=by first | show Nat.le_of_lt_succ (by change A.units+1+1+1+0+_<_;decide) | (change A.units+1+1+1+0+1<=_;omega) | (change A.units+1+1+1+0+2<=_;omega) | (change A.units+1+1+1+0+3<=_;show F10 0x1457034046667000005 1 rfl) | (change A.units+1+1+1+0+0<=_;omega)
 show bO MM'.keep λmb I' _ _ hno' _=>?_;show CZ (CY ?_);show CZ (AS (HB G' (clsS W0) (f:=210) ∅ ∅ ∅ (Aa (v:=.ref x) rfl (bh x dx _ rfl I' (hno' "get_opcodes" ∅) (?_)))));show Qk (as:=as) (bs:=bs) (aj:=aj) G' hh (F30 0x81459041457095083c57040 273 rfl hu e) (by change A.depth+1+6<_;(show F20 0x8646700481457040 17 rfl aB)) MM' (.own (up aL la) (Ag la hL')) (.own (up bL lb) (Ag lb hL')) hla hlb hraw hres λhp1 r r0 rL r1 kp _=>?_;have le1:Hp.Le hb0 hp1:=λz o e=>kp z o (λh=>by rw[h,hd0]at e;cases e) (λh=>by rw[show z=L' from h,L'0]at e;cases e) (le0 _ _ e);have s1:=kp _ _ ds.symm hSL sJ;change GS _ _ _ _ _ _ _ _ _ _ _ _ _ _ (upd _ _ _) _;generalize hm1:upd (locOf [(S "n",.int n),(S "self",.ref x)]) _ _=m1;have n1:m1 (S "codes")=some (.ref r):=by subst hm1;lk
 have n2:m1 (S "n")=some (.int n):=by subst hm1;lk
 clear hm1;show CZ (AB (E0 (BJ (Aa n1 (H6 r1 rL (by rw[Ai];show sz' (Aj () ∅)) ?_)))));by_cases hz:codesF as bs aj=[]
 .refine Bx (by rw[hz];rfl) (Ae (AS (AM (Ac (A9 (Ac (Bw (Ac (Ak (Ac (Ak (Ac (Ak (Ac (Ak (Af ⟨sz rfl,Af ⟨sz rfl,λdA hd hdL=>Ao ?_⟩⟩))))))))))))))));show Lf (ops:=codesF as bs aj) (cA:=dA) G' hh az (by lk) (by lk) (by rw[Ad,hz];rfl) hdL (le1.none hd) (Ah (Ag s1 hd)) (Ab (Ag s1 hd) s1) hSL s0 (le1.set (le1.none hd) _) J0 fin
 .refine Bl (by cases h:codesF as bs aj with | nil=>show absurd h hz | cons a t=>rfl) (Ao ?_);show Lf (ops:=codesF as bs aj) (cA:=r) G' hh az n1 n2 (by rw[r1];unfold ops1;rw[if_neg hz]) rL (le0.none r0) (Ah (Ag sJ r0)) s1 hSL s0 le1 J0 fin
section
variable {B:Shared}{hp:Hp}{L:Addr}
theorem It:∀{ys:List Addr}{gs:List (List Op)},Ls hp ys gs->(∀y∈ys,y≠L)->RDs B hp L (ys.map .ref) (gs.map gD)
 | [],gs,x,_=>by
  have:=x.1;cases gs with
  | nil=>show .nil
  | cons _ _=>simp at this
 | y::ys,gs,x,hL=>by
  cases gs with
  | nil=>have:=x.1;simp at this
  | cons g gs=>
   show .cons (.list (.own (x.2 0 y g rfl rfl) (hL y (by simp))) (Ij g)) (It ⟨by have:=x.1;simpa using this,λi z g hz hg=>x.2 (i+1) z g (by simpa using hz) (by simpa using hg)⟩ λz hz=>hL z (by simp[hz]))
end
theorem Lh (gs:List (List Op)):SeqAt.shaped (.list (gs.map gD))=true:=by
 have h1:∀g:List Op,PyData.canLayAll0 (g.map oD)=true:=by
  intro g;induction g with
  | nil=>rfl
  | cons b bl ih=>simp only[A1,PyData.canLayAll0,ih,Dk];simp[oD,PyData.canLay0,PyData.canLayAll0,KJ]
 have h2:∀g:List Op,PyData.depthAll (g.map oD)<=2:=by
  intro g;induction g with
  | nil=>decide
  | cons b bl ih=>
   simp only[A1,PyData.depthAll];have:(oD b).depth<=2:=by simp[oD,PyData.depth,PyData.depthAll]
   lia
 have h3:∀gs:List (List Op),PyData.canLayAll0 (gs.map gD)=true:=by
  intro g;induction g with
  | nil=>rfl
  | cons b bl ih=>simp only[A1,PyData.canLayAll0,ih,Dk];show h1 b
 have h4:∀gs:List (List Op),PyData.depthAll (gs.map gD)<=3:=by
  intro g;induction g with
  | nil=>decide
  | cons b bl ih=>
   simp only[A1,PyData.depthAll];have:(gD b).depth<=3:=by dsimp only[gD,PyData.depth];have:=h2 b;(show CB () ∅)
   lia
 simp only[SeqAt.shaped,PyData.canLay0,h3,Bool.true_and,PyData.depth];have:=h4 gs;show decide_eq_true (CB () ∅)
theorem Td (gs:List (List Op)):(PyData.list (gs.map gD)).eqv (.list (gs.map gD))=true:=by
 have h1:∀g:List Op,PyData.eqvAll (g.map oD) (g.map oD)=true:=by
  intro g;induction g with
  | nil=>rfl
  | cons o g ih=>simp only[A1,PyData.eqvAll,ih,Dk];simp[oD,PyData.eqv,PyData.eqvAll]
 have h2:∀gs:List (List Op),PyData.eqvAll (gs.map gD) (gs.map gD)=true:=by
  intro g;induction g with
  | nil=>rfl
  | cons o g ih=>simp only[A1,PyData.eqvAll,ih,Dk];dsimp only[gD,PyData.eqv];show h1 o
 simp only[PyData.eqv];show h2 gs
theorem Te{x:Addr}{zs:List Addr}{mv:List (List Op)}{KK:QX}(G:Gnd (KW W0) B)(hh:A.handled=none)(hu:A.units+90<cLine)(aB:A.depth+40<recursionLimit)(M:MT hp L x dx (.ref oA) (.ref mA) bs true .none .none)(la:hp oA=some (.list (as.map .int)))(lb:hp mA=some (.list (bs.map .int)))(oL:oA≠L)(mL:mA≠L)(hla:as.length<=4000)(hlb:bs.length<=4000)
  (hraw:(rawB (flmW as bs true) as.length bs.length).length<64)(hres:(mbF (flmW as bs true) as.length bs.length).length<=75)(hv:hp vA=some (.list (zs.map .ref)))(vL:vA≠L)(ls:Ls hp zs mv)(zL:∀z∈zs,z≠L)(heq:CT n (codesF as bs true)=mv)
  (g1:m (S "n")=some (.int n))(g2:m (S "matcher")=some (.ref x))(g3:m (S "moved")=some (.ref vA))(hK:∀m' ah,KK (.ret (.bool true)) m' ah) :
  EXs Md A E B (vEnv L) [vS 14,vS 15] m hp KK:=by
 show bO M.keep λma I _ _ hno _=>?_;have nd:∀{z us},hp z=some (.list us)->z≠dx:=λe h=>by rw[h,I.at_]at e;cases e
 have hgen:=hno "get_grouped_opcodes" ∅;have az:(codesF as bs true).length<=150:=by unfold codesF;show F20 0x965857228504b5750 274 rfl hres (PQ (mbF (flmW as bs true) as.length bs.length))
 show Sr (x:=S "told") (bs:=[(S "n",.int n),(S "self",.ref x)]) (f:=218) (fd:=Bb) (body:=AE (mS 9)) (n:=302) G hh (ul0 ()) ?_ (λB' ah m' G'=>Az G' (JC W0) JB ∅ (λ_=>BK) ⟨rfl,rfl⟩) λgn g h0 L' J sA go h1 h2 h3 h4 h5 h6 h7 h8 h9=>?_
 .refine Sq (c:=((n:Int) != 3)) (Av (Aa g1 (Ak (Gc (Ar ⟨rfl,rfl⟩))))) (λ_=>?_) λe=>?_
  .refine So (v:=.int n) G (clsS W0) ∅ ∅ ∅ (ul0 ()) (kGrp W0) ∅ rfl ∅ I hgen (Aa g2 ⟨rfl,rfl⟩) (Aa g1 ⟨rfl,rfl⟩) (λs ws hv hk=>?_) ∅;show aN (C3 hv) λv u zz1 h1 h2=>?_;rw[zz1];show aO ([(S "self",v),(S "n",u)]) (binds_K (G.X.keeps hk) rfl (by rfl) rfl rfl rfl) rfl (.mk h2 (.mk h1 .nil))
  .have e3:(n:Int)=3:=by rw[Im]at e;show Classical.not_not.mp (of_decide_eq_false e)
   rw[e3];show Sp G (clsS W0) ∅ ∅ ∅ (ul0 ()) (kGrp W0) ∅ rfl ∅ I hgen (Aa g2 ⟨rfl,rfl⟩) (λs ws hv hk=>?_) ∅;show aK (Cu hv) λv zz1 h1=>?_;rw[zz1];show aO ([(S "self",v),(S "n",.int 3 _)]) (binds_K (G.X.keeps hk) rfl (by rfl) rfl rfl rfl) rfl (.mk VR_int (.mk h1 .nil))
 .refine Tc G hh (ul () ∅) (ul () ∅) M la oL lb mL hla hlb hraw (Aj () ∅) az h1 h2 h3 h4 h5 h6 h7 h8 h9 λhpX ah ys hle hs hls hyl keep=>aM hpX hle (Aa (v:=.ref vA) (by lk) ?_);show HA (.list (.own hs h7) (It hls hyl)) (.list (.own (keep _ _ (nd hv) vL hv) vL) (It (gs:=mv) ⟨ls.1,λi y g hy hg=>?_⟩ zL)) (Lh _) (Lh _) (ul () ∅) ?_
  .have e:=ls.2 i y g hy hg;show keep _ _ (nd e) (zL y (BS hy)) e
  .rw [heq,Td];show hK _ _
theorem Tf {l:List Int}(h:l.Nodup):Few l true:=λk=>Aj (Ri h k) (Nat.le_add_left _ _)
theorem LP.gb (P:LP xs ys)(n:Nat)(way:Nat->Int):GB (AA xs ys n) (expE xs (shF (AA xs ys n)) way) xs.length ys:=
 ⟨P.lx,EG _ _ _,P.ly,P.gin n,(P.glen n).1,(P.glen n).2,(P.chg n).2,λk=>P.mlen n _ (EG _ _ _) _ k⟩
theorem Tg{KK:QX}(G:Gnd (KW W0) B)(hh:A.handled=none)(az:ns.length<=63)(hl:Lst B hp L l (ns.map .int))(g0:m (S "script")=some (.ref l))(c1:hp (L+1)=some (.cell none))(c2:hp (L+2)=some (.cell none))(c3:hp (L+3)=some (.cell none))
  (hK:∀m' ah bA pA wA zs n nums,BO ah L bA pA wA zs n nums m'->EXs Md A E B (vEnv L) aC m' ah KK) :
  EXs Md A E B (vEnv L) (vS 0::vS 1::vS 2::vS 3::aC) m hp KK:=by
 show Ae (Sz az hl g0 λn n8=>?_);show Ae (Dq hh (names:=[S "base",S "parts",S "ways"]) (A9 (Ac (AM (Af ⟨sz rfl,λbA hb hbL=>Ac (AM (Af ⟨sz rfl,λpA ah hpL=>Ac (AM (Af ⟨sz rfl,λwA hw hwL=>Af ⟨sz rfl,_,rfl,rfl,Bu (Bu (Bu (Bd ?_)))⟩⟩))⟩))⟩)))));have l1:Hp.Le hp (hp.set bA (.list [])):=(Hp.Le.refl hp).set hb _;have l2:=l1.set (l1.none ah) (.list []);have l3:=l2.set (l2.none hw) (.list []);have bp:=Ag (Ad ..) ah;have pw:=Ag (Ad ..) hw;have bw:=Ag (Ab bp (Ad ..)) hw;have nc:∀{z v},hp z=none->hp v=some (.cell none)->z≠v:=λe f h=>by rw[h,f]at e;cases e
 have p0:=l1.none ah;have w0:=l2.none hw;have e1:(((hp.set bA (.list [])).set pA (.list [])).set wA (.list [])) bA=some (.list []):=Ab bw (Ab bp (Ad ..));have e2:(((hp.set bA (.list [])).set pA (.list [])).set wA (.list [])) pA=some (.list []):=Ab pw (Ad ..);have e3:(((hp.set bA (.list [])).set pA (.list [])).set wA (.list [])) wA=some (.list []):=Ad ..;have d1:=l3 _ _ c1;generalize hm1:upd (upd (upd (upd m (S "n") (.int n)) (S "ways") (.ref wA)) (S "parts") (.ref pA)) (S "base") (.ref bA)=m1;have n1:m1 (S "n")=some (.int n):=by subst hm1;lk
 have n2:m1 (S "base")=some (.ref bA):=by subst hm1;lk
 have n3:m1 (S "parts")=some (.ref pA):=by clear n2 n1;subst hm1;lk
 have n4:m1 (S "ways")=some (.ref wA):=by clear n3 n2 n1;subst hm1;lk
 have n5:m1 (S "script")=some (.ref l):=by clear n4 n3 n2 n1;subst hm1;lk
 generalize ((hp.set bA (.list [])).set pA (.list [])).set wA (.list [])=hp1 at *;show Ae (Fp (c:=L+1) rfl (cl1 L) (Ak ⟨none,d1,?_⟩));have D:BN L bA pA wA:=⟨bp,bw,pw,hbL,hpL,hwL,nc hb c1,nc p0 c1,nc w0 c1⟩;have k1:∀z o,z≠L+1->hp1 z=some o->(hp1.set (L+1) (.cell (some (.int 0)))) z=some o:=λz o h e=>Ab h e;have hl4:Lst B (hp1.set (L+1) (.cell (some (.int 0)))) L l (ns.map .int):=(hl.le l3).put λys e=>by rw[d1]at e;cases e
 show Ae (S2 G hh az hl4 n5 ⟨k1 _ _ D.bc e1,k1 _ _ D.pc e2,k1 _ _ D.wc e3,Ad ..,rfl,λ_ h=>nomatch h⟩ D n8 (k1 _ _ (by simp) (l3 _ _ c2)) (k1 _ _ (by simp) (l3 _ _ c3)) n1 n2 n3 n4 ⟨nc hb c2,nc p0 c2,nc w0 c2⟩ ⟨nc hb c3,nc p0 c3,nc w0 c3⟩ λm' ah zs nums O=>hK m' ah bA pA wA zs n nums O)
theorem Th {A:Around}{B:Shared}{m:Loc}{hp:Hp}{L:Addr}{l:Addr}{ns:List Int}(G:Gnd (KW W0) B)(hh:A.handled=none)(hu:A.units+90<cLine)(aB:A.depth+40<recursionLimit)(az:ns.length<=63)(hl:Lst B hp L l (ns.map .int))(g0:m (S "script")=some (.ref l))(c1:hp (L+1)=some (.cell none))(c2:hp (L+2)=some (.cell none))(c3:hp (L+3)=some (.cell none)) :
  EXs Md A (λ_ _=>False) B (vEnv L) (AE (topS PW 10)) m hp λf m' ah=>f = .ret (.bool true):=by
 change EXs _ _ _ _ _ [vS 0,vS 1,vS 2,vS 3,vS 4,vS 5,vS 6,vS 7,vS 8,vS 9,vS 10,vS 11,vS 12,vS 13,vS 14,vS 15] _ _ _;show Tg G hh az hl g0 c1 c2 c3 λm1 hp1 bA pA wA zs n nums O=>?_;have P:=S3 O.nl;obtain⟨sts,I⟩:=Ia nums;have wl:=I.wl;have w3:=I.w3;have b1:=O.X.b;have w1:=O.X.ww;have O2:=O.c2;have O3:=O.c3;show Ae (S6 hh O P λtA t0 tL=>?_);have l1:Hp.Le hp1 (hp1.set tA (.list ((bdTo nums).2.1.flatten.map .int))):=(Hp.Le.refl hp1).set t0 _;have t1:(hp1.set tA (.list ((bdTo nums).2.1.flatten.map AV.int))) tA=some (.list ((bdTo nums).2.1.flatten.map .int)):=Ad ..;replace b1:=l1 _ _ b1;replace w1:=l1 _ _ w1;replace O2:=l1 _ _ O2;replace O3:=l1 _ _ O3;have bL:=O.D.bL;have wL:=O.D.wL;have n1:=O.gn;have n2:=O.gb;have n3:=O.gw;generalize (bdTo nums).1=xs at *;generalize (bdTo nums).2.1.flatten=ys at *;generalize (bdTo nums).2.2.1=ws at *;generalize hm2:upd m1 (S "theirs") (.ref tA)=m2;have r1:m2 (S "n")=some (.int n):=by subst hm2;lk
 have r2:m2 (S "base")=some (.ref bA):=by subst hm2;lk
 have r3:m2 (S "ways")=some (.ref wA):=by clear r2 r1;subst hm2;lk
 have r4:m2 (S "theirs")=some (.ref tA):=by clear r3 r2 r1;subst hm2;lk
 show Ae (S7 G hh hu aB P b1 bL t1 tL r1 r2 r4 λgA ad hp3 a0 aL a1 a2 a3 k3=>?_);have X:LR hp3 L bA wA tA gA ad xs ys ws n:=⟨k3 _ _ bL b1,k3 _ _ wL w1,k3 _ _ tL t1,a1,a2,bL,wL,tL,aL,λy hy=>(a3 y hy).2⟩;replace O2:=k3 _ _ (cl2 L) O2;replace O3:=k3 _ _ (cl3 L) O3;generalize hm3:upd m2 (S "groups") (.ref gA)=m3;have s1:m3 (S "n")=some (.int n):=by subst hm3;lk
 have s2:m3 (S "base")=some (.ref bA):=by subst hm3;lk
 have s3:m3 (S "ways")=some (.ref wA):=by clear s2 s1;subst hm3;lk
 have s4:m3 (S "theirs")=some (.ref tA):=by clear s3 s2 s1;subst hm3;lk
 have s5:m3 (S "groups")=some (.ref gA):=by clear s4 s3 s2 s1;subst hm3;lk
 show Ae (SD G hh X P s5 λsA h0 sL=>?_);have l4:Hp.Le hp3 (hp3.set sA (.list ((BA (AA xs ys n)).map .int))):=(Hp.Le.refl hp3).set h0 _;have h1:(hp3.set sA (.list ((BA (AA xs ys n)).map AV.int))) sA=some (.list ((BA (AA xs ys n)).map .int)):=Ad ..;replace X:LR (hp3.set sA (.list ((BA (AA xs ys n)).map AV.int))) L bA wA tA gA ad xs ys ws n:={ X with b:=l4 _ _ X.b,ww:=l4 _ _ X.ww,t:=l4 _ _ X.t,g:=l4 _ _ X.g,ls:=X.ls.grow l4 };replace O2:=l4 _ _ O2;replace O3:=l4 _ _ O3;generalize hp3.set sA (.list ((BA (AA xs ys n)).map AV.int))=hp4 at *;generalize hm4:upd m3 (S "shown") (.ref sA)=m4;have u1:m4 (S "n")=some (.int n):=by subst hm4;lk
 have u2:m4 (S "base")=some (.ref bA):=by subst hm4;lk
 have u3:m4 (S "ways")=some (.ref wA):=by clear u2 u1;subst hm4;lk
 have u4:m4 (S "theirs")=some (.ref tA):=by clear u3 u2 u1;subst hm4;lk
 have u5:m4 (S "groups")=some (.ref gA):=by clear u4 u3 u2 u1;subst hm4;lk
 have u6:m4 (S "shown")=some (.ref sA):=by clear u5 u4 u3 u2 u1;subst hm4;lk
 have lx:=P.lx;show SK (gs:=AA xs ys n) G hh (ul () ∅) X.b bL X.ww wL h1 sL O2 u2 u3 u6 lx wl w3 λoA aA m5 hp5 o0 a0 D o1 a1 c2 k5 q1 q2=>?_;have nc:∀{z us},hp4 z=some (.list us)->z≠L+2:=λe h=>by rw[h,O2]at e;cases e
 have R:MR hp5 L oA aA tA (expE xs (shF (AA xs ys n)) λi=>ws.getD i 0) xs.length ys:=⟨o1,a1,c2,k5 _ _ (nc X.t) X.t,D.oL,D.aL,tL⟩;show SX G hh R (P.gb n λi=>ws.getD i 0) (k5 _ _ (nc X.g) X.g) X.gL (⟨X.ls.1,λi y g hy hg=>by have e:=X.ls.2 i y g hy hg;show k5 _ _ (nc e) e⟩) X.aL (k5 _ _ (by simp) O3) q1 (by rw[q2 _ ∅];show u4) (by rw[q2 _ ∅];show u5) λm6 hp6 mA vA zs' m0 mL vL mv m1' v1 ls6 zL k6 p1 p2 p3=>?_;have Lw:=P.law n;obtain⟨e1,e2⟩:=Lw.made (way:=λi=>ws.getD i 0);have ef:∀st:MvSt,stMV (Am (expE xs (shF (AA xs ys n)) λi=>ws.getD i 0)) (cat (expE xs (shF (AA xs ys n)) λi=>ws.getD i 0) 0 xs.length) ys (AA xs ys n) (AA xs ys n).length=(AA xs ys n).foldl (stMv (aF xs (shF (AA xs ys n)) λi=>ws.getD i 0) (B4 xs (shF (AA xs ys n)) λi=>ws.getD i 0) ys) ([],[],0):=λ_=>by unfold stMV;show congrArg _ Cz
 rw[ef ([],[],0)]at m1' ls6;rw[e1]at m1';rw[e2]at ls6;show aZ (Rj (way:=λi=>ws.getD i 0) Lw) λf1 f2 f3=>?_;have un:=P.un;have lm:=Ef (f:=expF xs ys (shF (AA xs ys n)) (λi=>ws.getD i 0) (DW (B0 xs ys))) (QY _ _ _ _ _) ys.length;have ly:=P.ly;have oc:oA≠L+3:=λe=>by have:=R.o;rw[e,k5 _ _ (by simp) O3]at this;cases this
 have v1':m6 (S "n")=some (.int n):=by rw[p3 _ ∅,q2 _ ∅];show u1
 have v2':m6 (S "ours")=some (.ref oA):=by rw[p3 _ ∅];show q1
 show Ae (AS (IW G ∅ (E1 G (g_SM W0) (λ_=>VR_ref) ⟨rfl,Ac (Do (Ac (Aa v2' (Ac (Aa p1 (Af ?_))))))⟩)));show Pu G hh (ul () ∅) rfl (.list (.own m1' mL)) (Tf Lw.made_nodup) (by lia) λhp7 x dx x0 dx0 M keep _=>?_;show Te (as:=B4 xs (shF (AA xs ys n)) λi=>ws.getD i 0) (bs:=BX xs ys (B0 xs ys) (shF (AA xs ys n)) λi=>ws.getD i 0) G hh hu aB M (keep _ _ D.oL (k6 _ _ oc R.o)) (keep _ _ mL m1') D.oL mL (F20 0xfa0025857228502e8025750 274 rfl lx (Ef (f:=expE xs (shF (AA xs ys n)) λi=>ws.getD i 0) (EG _ _ _) xs.length)) (by lia) (F20 0x405743e58508750 273 rfl f1 un) (F20 0x4b5753e5850680750 273 rfl f2 un) (keep _ _ vL v1) vL ⟨ls6.1,λi y g hy hg=>keep _ _ (zL y (BS hy)).1 (ls6.2 i y g hy hg)⟩ (λz hz=>(zL z hz).1) f3 (by lk) (by lk) (by lk) λ_ _=>rfl
set_option maxHeartbeats 8000000
theorem holds:PySem.Challenge.rw_dm0058_02.Holds:=by
 show LM λs mean mg mb l vs ns T X hg hl hI az=>?_;have G:Gnd (KW W0) s:=⟨X,aT mg mb T.g T.b T.builtins,T.nolimit⟩;show NQ (us:=[(S "script",.ref l)]) (bs:=[(S "script",.ref l)]) (body:=AE (topS PW 10)) G hg (kLaw W0) ∅ rfl ∅ rfl rfl rfl (VRs.one VR_ref) (λL x hx=>?_) (λL=>?_) (λL n c hm=>?_)
 .simp only[Bg,CQ,or_false]at hx;subst hx;show .inl rfl
 .have hcl:cellsFrom (L+1) fdLaw.scope.names []=[(S "shift",L+3),(S "at",L+2),(S "laid",L+1)]:=rfl;rw[hcl];generalize hhp1:Bz (λ_=>none) _ _=hp1;have c1:hp1 (L+1)=some (.cell none):=by rw[<-hhp1];simp[Bz,List.find?];rfl
  have c2:hp1 (L+2)=some (.cell none):=by rw[<-hhp1];simp[Bz,List.find?];rfl
  have c3:hp1 (L+3)=some (.cell none):=by rw[<-hhp1];simp[Bz,List.find?];rfl
  show(@Th (callerA.deeper (callEnvC fdLaw L 268)) s _ hp1 L l ns G rfl (by decide:4+3+90<9900) (by decide:301+1+40<1000) az (.inr (aM vs.toArray hl (NR hI))) rfl c1 c2 c3)
 .rw [show cellsFrom (L+1) fdLaw.scope.names []=[(S "shift",L+3),(S "at",L+2),(S "laid",L+1)] from rfl]at hm ⊢;simp only[Bg,F4,CQ,or_false]at hm;rcases hm with⟨rfl,rfl⟩ | ⟨rfl,rfl⟩ | ⟨rfl,rfl⟩ <;> rfl
end Mine
theorem PySem.Challenge.cw_dm0058_02_holds : PySem.Challenge.rw_dm0058_02.Holds :=
  Mine.holds

